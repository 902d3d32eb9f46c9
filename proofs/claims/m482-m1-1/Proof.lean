import JvmDerived
import JvmDerived.Pilot.@@N@@Statement
import JvmDerived.Pilot.@@N@@Code
set_option linter.unusedVariables false
set_option linter.unusedSimpArgs false
namespace Jvm.RoadKit
open Sem ClassFile Op Lib Jvm.Stand Jvm.Free Jvm.LawKit
section New
variable {p : Program} {l : Launch} {e : Env} {R : Room} {s : State} {m : MethodId} {args : Array Value} {below : List Frame} {meth : Method} {c : Code} {T : State} {locs : List Loc} {cells slots : Nat}
theorem retI (X : Stand p l e R s m args below meth c T locs cells slots) (hx : p.tables.exec = Jvm.exec) {pc : Nat} {Ls : Array Slot} {z : Int32} {rest : List Value} (hret : meth.sig.returnType = some .int) (hd : decode c.code pc = .ok (.ireturn, 1)) {fs : List Frame}
    (hl : ∀ (f : JFrame) (acts : List Action), f.method = m → f.locked = none → f.entered = [] → (doReturn e (T.setTop f) acts (some (.int z))).1 = T.setFrames fs) : Steps p.tables e below (T.setTop (mkF m pc Ls (.int z :: rest))) (T.setFrames fs) := by
  have hm' : T.vm.method? m = some meth := X.method'
  have hn : narrow .int (.int z) = .int z := rfl
  show Steps p.tables e below (T.setTop { method := m, pc := pc, locals := Ls, stack := _ :: rest, locked := none }) _
  jvm_step X.here [X.here.top, hx, hd, hm', hret, hn]
  first | (intro acts; rw [hl _ acts rfl rfl rfl]) | rw [hl _ _ rfl rfl rfl]
  exact Steps.refl _
end New
end Jvm.RoadKit
namespace Jvm.Pilot.@@N@@
open Jvm Jvm.ClassFile Sem Op Lib Jvm.Free Jvm.Stand Jvm.LawKit Jvm.RoadKit Bundle Jvm.Pilot.@@N@@.Jvm.D
abbrev cBE : String := "com/example/nudge/nudge/tree/BlockEntries"
/-- where the walk stands, and what is still to come of it -/
abbrev Go (tb : Tables) (e : Env) (below : List Frame) (P : State → Outcome → Prop) (σ : State) : Prop := ∃ s₂ o, Steps tb e below σ s₂ ∧ P s₂ o
theorem go_st {tb : Tables} {e : Env} {below : List Frame} {P : State → Outcome → Prop} {σ σ' : State} (st : ∀ t, Steps tb e below σ' t → Steps tb e below σ t) (k : Go tb e below P σ') : Go tb e below P σ := by
  obtain ⟨a, b, c, d⟩ := k; exact ⟨a, b, st _ c, d⟩
theorem go_tr {tb : Tables} {e : Env} {below : List Frame} {P : State → Outcome → Prop} {σ σ' : State} (st : Steps tb e below σ σ') (k : Go tb e below P σ') : Go tb e below P σ := by
  obtain ⟨a, b, c, d⟩ := k; exact ⟨a, b, st.trans c, d⟩
theorem go_named {tb : Tables} {e : Env} {below : List Frame} {P : State → Outcome → Prop} {σ : State} (k : ∀ P', P' = P → Go tb e below P' σ) : Go tb e below P σ := k P rfl
theorem ext_rfl (h : Heap) : Ext h h := ⟨Nat.le_refl _, fun _ _ q => q⟩
theorem ext_tr {h h' h'' : Heap} (E : Ext h h') (E' : Ext h' h'') : Ext h h'' := ⟨Nat.le_trans E.1 E'.1, fun a c q => E'.2 a c (E.2 a c q)⟩
theorem ext_keep {h h' h'' : Heap} {ws : List Addr} (E : Ext h h') (K : Keep h' h'' ws) (q : ∀ x ∈ ws, h.size ≤ x) : Ext h h'' :=
  ⟨Nat.le_trans E.1 K.1, fun a c r => K.2.1 a c (E.2 a c r) fun z => absurd (Array.getElem?_eq_some_iff.mp r).1 (Nat.not_lt.mpr (q a z))⟩
theorem ext_wr {h h' h'' : Heap} {b : Addr} {sl : Nat} {v : Value} (E : Ext h h') (W : Wr h' h'' b sl v) (q : h.size ≤ b) : Ext h h'' := ext_keep E (Keep.of_wr W) (allS q all0)
theorem keep_of_ext {h h' : Heap} (E : Ext h h') : Keep h h' [] := (Keep.refl h []).ext E
theorem ref_cat {v : Value} (h : v.isRef = true) : v.category = 1 := by rcases ref_cases h with rfl | ⟨a, rfl⟩ <;> rfl
theorem ref_fits {v : Value} (C : String) (h : v.isRef = true) : fits (.object C) v = true := by rcases ref_cases h with rfl | ⟨a, rfl⟩ <;> rfl
theorem ref_narrow {v : Value} (C : String) (h : v.isRef = true) : narrow (.object C) v = v := by rcases ref_cases h with rfl | ⟨a, rfl⟩ <;> rfl
theorem pn_com_example_nudge_nudge_tree_BlockEntries : plainName "com/example/nudge/nudge/tree/BlockEntries" = true := by first | (simp [plainName, overriddenIn]; done) | decide +kernel
theorem d0_0 : decode prog_17_method_1_code 0 = .ok (.aload_n 0, 1) := by decide +kernel
theorem d0_1 : decode prog_17_method_1_code 1 = .ok (.invokespecial 1, 3) := by decide +kernel
theorem w11 {Z : State} {a0 : Array Value} (hw : ∀ d ∈ tables_1, d.before a0 Z = true) : (Jvm.Cond.methodLink "com/example/nudge/nudge/tree/BlockEntries" (1 : Nat) ({ cls := "java/lang/Object", name := "<init>", desc := "()V" } : Jvm.MethodName)).before a0 Z = true := hw _ (List.mem_of_getElem? (i := 11) rfl)
theorem w12 {Z : State} {a0 : Array Value} (hw : ∀ d ∈ tables_1, d.before a0 Z = true) : (Jvm.Cond.instanceMethod ({ cls := "java/lang/Object", name := "<init>", desc := "()V" } : Jvm.MethodName)).before a0 Z = true := hw _ (List.mem_of_getElem? (i := 12) rfl)
theorem w13 {Z : State} {a0 : Array Value} (hw : ∀ d ∈ tables_1, d.before a0 Z = true) : (Jvm.Cond.code ({ cls := "java/lang/Object", name := "<init>", desc := "()V" } : Jvm.MethodName) object_method_1_code (1 : Nat) (Option.none : Option Jvm.ClassFile.FieldType)).before a0 Z = true := hw _ (List.mem_of_getElem? (i := 13) rfl)
theorem d0_4 : decode prog_17_method_1_code 4 = .ok (.aload_n 0, 1) := by decide +kernel
theorem d0_5 : decode prog_17_method_1_code 5 = .ok (.bipush 64, 2) := by decide +kernel
theorem d0_7 : decode prog_17_method_1_code 7 = .ok (.newarray .int, 2) := by decide +kernel
theorem w14 {Z : State} {a0 : Array Value} (hw : ∀ d ∈ tables_1, d.before a0 Z = true) : (Jvm.Cond.arrayClass Jvm.ClassFile.FieldType.int).before a0 Z = true := hw _ (List.mem_of_getElem? (i := 14) rfl)
theorem d0_9 : decode prog_17_method_1_code 9 = .ok (.putfield 7, 3) := by decide +kernel
theorem w15 {Z : State} {a0 : Array Value} (hw : ∀ d ∈ tables_1, d.before a0 Z = true) : (Jvm.Cond.fieldLink "com/example/nudge/nudge/tree/BlockEntries" (7 : Nat) "com/example/nudge/nudge/tree/BlockEntries" "indexes" "[I").before a0 Z = true := hw _ (List.mem_of_getElem? (i := 15) rfl)
theorem w16 {Z : State} {a0 : Array Value} (hw : ∀ d ∈ tables_1, d.before a0 Z = true) : (Jvm.Cond.lays "com/example/nudge/nudge/tree/BlockEntries" "com/example/nudge/nudge/tree/BlockEntries" "indexes" "[I").before a0 Z = true := hw _ (List.mem_of_getElem? (i := 16) rfl)
theorem w6 {Z : State} {a0 : Array Value} (hw : ∀ d ∈ tables_1, d.before a0 Z = true) : (Jvm.Cond.instantiable "com/example/nudge/nudge/tree/BlockEntries" (4 : Nat)).before a0 Z = true := hw _ (List.mem_of_getElem? (i := 6) rfl)
theorem d0_12 : decode prog_17_method_1_code 12 = .ok (.aload_n 0, 1) := by decide +kernel
theorem d0_13 : decode prog_17_method_1_code 13 = .ok (.bipush 64, 2) := by decide +kernel
theorem d0_15 : decode prog_17_method_1_code 15 = .ok (.newarray .int, 2) := by decide +kernel
theorem d0_17 : decode prog_17_method_1_code 17 = .ok (.putfield 13, 3) := by decide +kernel
theorem w17 {Z : State} {a0 : Array Value} (hw : ∀ d ∈ tables_1, d.before a0 Z = true) : (Jvm.Cond.fieldLink "com/example/nudge/nudge/tree/BlockEntries" (13 : Nat) "com/example/nudge/nudge/tree/BlockEntries" "lines" "[I").before a0 Z = true := hw _ (List.mem_of_getElem? (i := 17) rfl)
theorem w18 {Z : State} {a0 : Array Value} (hw : ∀ d ∈ tables_1, d.before a0 Z = true) : (Jvm.Cond.lays "com/example/nudge/nudge/tree/BlockEntries" "com/example/nudge/nudge/tree/BlockEntries" "lines" "[I").before a0 Z = true := hw _ (List.mem_of_getElem? (i := 18) rfl)
theorem d0_20 : decode prog_17_method_1_code 20 = .ok (.return_, 1) := by decide +kernel
theorem w32 {Z : State} {a0 : Array Value} (hw : ∀ d ∈ tables_1, d.before a0 Z = true) : (Jvm.Cond.lays "com/example/nudge/nudge/tree/BlockEntries" "com/example/nudge/nudge/tree/BlockEntries" "first" "I").before a0 Z = true := hw _ (List.mem_of_getElem? (i := 32) rfl)
theorem w25 {Z : State} {a0 : Array Value} (hw : ∀ d ∈ tables_1, d.before a0 Z = true) : (Jvm.Cond.lays "com/example/nudge/nudge/tree/BlockEntries" "com/example/nudge/nudge/tree/BlockEntries" "count" "I").before a0 Z = true := hw _ (List.mem_of_getElem? (i := 25) rfl)
theorem d1_0 : decode prog_17_method_2_code 0 = .ok (.aload_n 0, 1) := by decide +kernel
theorem d1_1 : decode prog_17_method_2_code 1 = .ok (.getfield 16, 3) := by decide +kernel
theorem w24 {Z : State} {a0 : Array Value} (hw : ∀ d ∈ tables_1, d.before a0 Z = true) : (Jvm.Cond.fieldLink "com/example/nudge/nudge/tree/BlockEntries" (16 : Nat) "com/example/nudge/nudge/tree/BlockEntries" "count" "I").before a0 Z = true := hw _ (List.mem_of_getElem? (i := 24) rfl)
theorem d1_4 : decode prog_17_method_2_code 4 = .ok (.aload_n 0, 1) := by decide +kernel
theorem d1_5 : decode prog_17_method_2_code 5 = .ok (.getfield 7, 3) := by decide +kernel
theorem d1_8 : decode prog_17_method_2_code 8 = .ok (.arraylength, 1) := by decide +kernel
theorem d1_9 : decode prog_17_method_2_code 9 = .ok (.if_icmp .ne 111, 3) := by decide +kernel
theorem d1_120 : decode prog_17_method_2_code 120 = .ok (.aload_n 0, 1) := by decide +kernel
theorem d1_121 : decode prog_17_method_2_code 121 = .ok (.getfield 7, 3) := by decide +kernel
theorem d1_124 : decode prog_17_method_2_code 124 = .ok (.aload_n 0, 1) := by decide +kernel
theorem d1_125 : decode prog_17_method_2_code 125 = .ok (.getfield 16, 3) := by decide +kernel
theorem d1_128 : decode prog_17_method_2_code 128 = .ok (.iload_n 1, 1) := by decide +kernel
theorem d1_129 : decode prog_17_method_2_code 129 = .ok (.iastore, 1) := by decide +kernel
theorem d1_130 : decode prog_17_method_2_code 130 = .ok (.aload_n 0, 1) := by decide +kernel
theorem d1_131 : decode prog_17_method_2_code 131 = .ok (.getfield 13, 3) := by decide +kernel
theorem d1_134 : decode prog_17_method_2_code 134 = .ok (.aload_n 0, 1) := by decide +kernel
theorem d1_135 : decode prog_17_method_2_code 135 = .ok (.getfield 16, 3) := by decide +kernel
theorem d1_138 : decode prog_17_method_2_code 138 = .ok (.iload_n 2, 1) := by decide +kernel
theorem d1_139 : decode prog_17_method_2_code 139 = .ok (.iastore, 1) := by decide +kernel
theorem d1_140 : decode prog_17_method_2_code 140 = .ok (.aload_n 0, 1) := by decide +kernel
theorem d1_141 : decode prog_17_method_2_code 141 = .ok (.dup, 1) := by decide +kernel
theorem d1_142 : decode prog_17_method_2_code 142 = .ok (.getfield 16, 3) := by decide +kernel
theorem d1_145 : decode prog_17_method_2_code 145 = .ok (.iconst 1, 1) := by decide +kernel
theorem d1_146 : decode prog_17_method_2_code 146 = .ok (.iadd, 1) := by decide +kernel
theorem d1_147 : decode prog_17_method_2_code 147 = .ok (.putfield 16, 3) := by decide +kernel
theorem d1_150 : decode prog_17_method_2_code 150 = .ok (.return_, 1) := by decide +kernel
theorem pn_java_util_Arrays : plainName "java/util/Arrays" = true := by first | (simp [plainName, overriddenIn]; done) | decide +kernel
theorem d2_0 : decode jdk_65_method_30_code 0 = .ok (.iload_n 1, 1) := by decide +kernel
theorem d2_1 : decode jdk_65_method_30_code 1 = .ok (.iload_n 2, 1) := by decide +kernel
theorem d2_2 : decode jdk_65_method_30_code 2 = .ok (.if_icmp .le 44, 3) := by decide +kernel
theorem d2_46 : decode jdk_65_method_30_code 46 = .ok (.iload_n 1, 1) := by decide +kernel
theorem d2_47 : decode jdk_65_method_30_code 47 = .ok (.ifCond .ge 12, 3) := by decide +kernel
theorem d2_59 : decode jdk_65_method_30_code 59 = .ok (.iload_n 2, 1) := by decide +kernel
theorem d2_60 : decode jdk_65_method_30_code 60 = .ok (.iload_n 0, 1) := by decide +kernel
theorem d2_61 : decode jdk_65_method_30_code 61 = .ok (.if_icmp .le 12, 3) := by decide +kernel
theorem d2_73 : decode jdk_65_method_30_code 73 = .ok (.return_, 1) := by decide +kernel
theorem d3_0 : decode jdk_65_method_59_code 0 = .ok (.iload_n 1, 1) := by decide +kernel
theorem d3_1 : decode jdk_65_method_59_code 1 = .ok (.istore 4, 2) := by decide +kernel
theorem d3_3 : decode jdk_65_method_59_code 3 = .ok (.iload_n 2, 1) := by decide +kernel
theorem d3_4 : decode jdk_65_method_59_code 4 = .ok (.iconst 1, 1) := by decide +kernel
theorem d3_5 : decode jdk_65_method_59_code 5 = .ok (.isub, 1) := by decide +kernel
theorem d3_6 : decode jdk_65_method_59_code 6 = .ok (.istore 5, 2) := by decide +kernel
theorem d3_8 : decode jdk_65_method_59_code 8 = .ok (.iload 4, 2) := by decide +kernel
theorem d3_10 : decode jdk_65_method_59_code 10 = .ok (.iload 5, 2) := by decide +kernel
theorem d3_12 : decode jdk_65_method_59_code 12 = .ok (.if_icmp .gt 54, 3) := by decide +kernel
theorem d3_66 : decode jdk_65_method_59_code 66 = .ok (.iload 4, 2) := by decide +kernel
theorem d3_68 : decode jdk_65_method_59_code 68 = .ok (.iconst 1, 1) := by decide +kernel
theorem d3_69 : decode jdk_65_method_59_code 69 = .ok (.iadd, 1) := by decide +kernel
theorem d3_70 : decode jdk_65_method_59_code 70 = .ok (.ineg, 1) := by decide +kernel
theorem d3_71 : decode jdk_65_method_59_code 71 = .ok (.ireturn, 1) := by decide +kernel
theorem d4_0 : decode jdk_65_method_58_code 0 = .ok (.aload_n 0, 1) := by decide +kernel
theorem d4_1 : decode jdk_65_method_58_code 1 = .ok (.arraylength, 1) := by decide +kernel
theorem d4_2 : decode jdk_65_method_58_code 2 = .ok (.iload_n 1, 1) := by decide +kernel
theorem d4_3 : decode jdk_65_method_58_code 3 = .ok (.iload_n 2, 1) := by decide +kernel
theorem d4_4 : decode jdk_65_method_58_code 4 = .ok (.invokestatic 13, 3) := by decide +kernel
theorem w39 {Z : State} {a0 : Array Value} (hw : ∀ d ∈ tables_1, d.before a0 Z = true) : (Jvm.Cond.code ({ cls := "java/util/Arrays", name := "rangeCheck", desc := "(III)V" } : Jvm.MethodName) jdk_65_method_30_code (3 : Nat) (Option.none : Option Jvm.ClassFile.FieldType)).before a0 Z = true := hw _ (List.mem_of_getElem? (i := 39) rfl)
theorem w35 {Z : State} {a0 : Array Value} (hw : ∀ d ∈ tables_1, d.before a0 Z = true) : (Jvm.Cond.initialized "java/util/Arrays").before a0 Z = true := hw _ (List.mem_of_getElem? (i := 35) rfl)
theorem pd_0 : parseMethodDescriptor "(III)V" = some ⟨[.int, .int, .int], none⟩ := by decide +kernel
theorem w37 {Z : State} {a0 : Array Value} (hw : ∀ d ∈ tables_1, d.before a0 Z = true) : (Jvm.Cond.methodLink "java/util/Arrays" (13 : Nat) ({ cls := "java/util/Arrays", name := "rangeCheck", desc := "(III)V" } : Jvm.MethodName)).before a0 Z = true := hw _ (List.mem_of_getElem? (i := 37) rfl)
theorem w38 {Z : State} {a0 : Array Value} (hw : ∀ d ∈ tables_1, d.before a0 Z = true) : (Jvm.Cond.static ({ cls := "java/util/Arrays", name := "rangeCheck", desc := "(III)V" } : Jvm.MethodName)).before a0 Z = true := hw _ (List.mem_of_getElem? (i := 38) rfl)
theorem d4_7 : decode jdk_65_method_58_code 7 = .ok (.aload_n 0, 1) := by decide +kernel
theorem d4_8 : decode jdk_65_method_58_code 8 = .ok (.iload_n 1, 1) := by decide +kernel
theorem d4_9 : decode jdk_65_method_58_code 9 = .ok (.iload_n 2, 1) := by decide +kernel
theorem d4_10 : decode jdk_65_method_58_code 10 = .ok (.iload_n 3, 1) := by decide +kernel
theorem d4_11 : decode jdk_65_method_58_code 11 = .ok (.invokestatic 209, 3) := by decide +kernel
theorem w42 {Z : State} {a0 : Array Value} (hw : ∀ d ∈ tables_1, d.before a0 Z = true) : (Jvm.Cond.code ({ cls := "java/util/Arrays", name := "binarySearch0", desc := "([IIII)I" } : Jvm.MethodName) jdk_65_method_59_code (8 : Nat) (Option.some Jvm.ClassFile.FieldType.int)).before a0 Z = true := hw _ (List.mem_of_getElem? (i := 42) rfl)
theorem pd_1 : parseMethodDescriptor "([IIII)I" = some ⟨[(.array .int), .int, .int, .int], some .int⟩ := by decide +kernel
theorem w40 {Z : State} {a0 : Array Value} (hw : ∀ d ∈ tables_1, d.before a0 Z = true) : (Jvm.Cond.methodLink "java/util/Arrays" (209 : Nat) ({ cls := "java/util/Arrays", name := "binarySearch0", desc := "([IIII)I" } : Jvm.MethodName)).before a0 Z = true := hw _ (List.mem_of_getElem? (i := 40) rfl)
theorem w41 {Z : State} {a0 : Array Value} (hw : ∀ d ∈ tables_1, d.before a0 Z = true) : (Jvm.Cond.static ({ cls := "java/util/Arrays", name := "binarySearch0", desc := "([IIII)I" } : Jvm.MethodName)).before a0 Z = true := hw _ (List.mem_of_getElem? (i := 41) rfl)
theorem d4_14 : decode jdk_65_method_58_code 14 = .ok (.ireturn, 1) := by decide +kernel
theorem d5_0 : decode prog_17_method_3_code 0 = .ok (.aload_n 0, 1) := by decide +kernel
theorem d5_1 : decode prog_17_method_3_code 1 = .ok (.getfield 7, 3) := by decide +kernel
theorem d5_4 : decode prog_17_method_3_code 4 = .ok (.aload_n 0, 1) := by decide +kernel
theorem d5_5 : decode prog_17_method_3_code 5 = .ok (.getfield 20, 3) := by decide +kernel
theorem w31 {Z : State} {a0 : Array Value} (hw : ∀ d ∈ tables_1, d.before a0 Z = true) : (Jvm.Cond.fieldLink "com/example/nudge/nudge/tree/BlockEntries" (20 : Nat) "com/example/nudge/nudge/tree/BlockEntries" "first" "I").before a0 Z = true := hw _ (List.mem_of_getElem? (i := 31) rfl)
theorem d5_8 : decode prog_17_method_3_code 8 = .ok (.aload_n 0, 1) := by decide +kernel
theorem d5_9 : decode prog_17_method_3_code 9 = .ok (.getfield 16, 3) := by decide +kernel
theorem d5_12 : decode prog_17_method_3_code 12 = .ok (.iload_n 1, 1) := by decide +kernel
theorem d5_13 : decode prog_17_method_3_code 13 = .ok (.invokestatic 35, 3) := by decide +kernel
theorem w36 {Z : State} {a0 : Array Value} (hw : ∀ d ∈ tables_1, d.before a0 Z = true) : (Jvm.Cond.code ({ cls := "java/util/Arrays", name := "binarySearch", desc := "([IIII)I" } : Jvm.MethodName) jdk_65_method_58_code (4 : Nat) (Option.some Jvm.ClassFile.FieldType.int)).before a0 Z = true := hw _ (List.mem_of_getElem? (i := 36) rfl)
theorem w33 {Z : State} {a0 : Array Value} (hw : ∀ d ∈ tables_1, d.before a0 Z = true) : (Jvm.Cond.methodLink "com/example/nudge/nudge/tree/BlockEntries" (35 : Nat) ({ cls := "java/util/Arrays", name := "binarySearch", desc := "([IIII)I" } : Jvm.MethodName)).before a0 Z = true := hw _ (List.mem_of_getElem? (i := 33) rfl)
theorem w34 {Z : State} {a0 : Array Value} (hw : ∀ d ∈ tables_1, d.before a0 Z = true) : (Jvm.Cond.static ({ cls := "java/util/Arrays", name := "binarySearch", desc := "([IIII)I" } : Jvm.MethodName)).before a0 Z = true := hw _ (List.mem_of_getElem? (i := 34) rfl)
theorem d5_16 : decode prog_17_method_3_code 16 = .ok (.istore_n 3, 1) := by decide +kernel
theorem d5_17 : decode prog_17_method_3_code 17 = .ok (.iload_n 3, 1) := by decide +kernel
theorem d5_18 : decode prog_17_method_3_code 18 = .ok (.ifCond .lt 7, 3) := by decide +kernel
theorem d5_21 : decode prog_17_method_3_code 21 = .ok (.iload_n 3, 1) := by decide +kernel
theorem d5_22 : decode prog_17_method_3_code 22 = .ok (.goto 7, 3) := by decide +kernel
theorem d5_29 : decode prog_17_method_3_code 29 = .ok (.iconst 1, 1) := by decide +kernel
theorem d5_30 : decode prog_17_method_3_code 30 = .ok (.isub, 1) := by decide +kernel
theorem d5_31 : decode prog_17_method_3_code 31 = .ok (.istore 4, 2) := by decide +kernel
theorem d5_33 : decode prog_17_method_3_code 33 = .ok (.iload_n 2, 1) := by decide +kernel
theorem d5_34 : decode prog_17_method_3_code 34 = .ok (.istore 5, 2) := by decide +kernel
theorem d5_36 : decode prog_17_method_3_code 36 = .ok (.iload 4, 2) := by decide +kernel
theorem d5_38 : decode prog_17_method_3_code 38 = .ok (.aload_n 0, 1) := by decide +kernel
theorem d5_39 : decode prog_17_method_3_code 39 = .ok (.getfield 20, 3) := by decide +kernel
theorem d5_42 : decode prog_17_method_3_code 42 = .ok (.if_icmp .lt 18, 3) := by decide +kernel
theorem d5_60 : decode prog_17_method_3_code 60 = .ok (.iload 5, 2) := by decide +kernel
theorem d5_62 : decode prog_17_method_3_code 62 = .ok (.ireturn, 1) := by decide +kernel
theorem d5_25 : decode prog_17_method_3_code 25 = .ok (.iload_n 3, 1) := by decide +kernel
theorem d5_26 : decode prog_17_method_3_code 26 = .ok (.ineg, 1) := by decide +kernel
theorem d5_27 : decode prog_17_method_3_code 27 = .ok (.iconst 1, 1) := by decide +kernel
theorem d5_28 : decode prog_17_method_3_code 28 = .ok (.isub, 1) := by decide +kernel
theorem d3_15 : decode jdk_65_method_59_code 15 = .ok (.iload 4, 2) := by decide +kernel
theorem d3_17 : decode jdk_65_method_59_code 17 = .ok (.iload 5, 2) := by decide +kernel
theorem d3_19 : decode jdk_65_method_59_code 19 = .ok (.iadd, 1) := by decide +kernel
theorem d3_20 : decode jdk_65_method_59_code 20 = .ok (.iconst 1, 1) := by decide +kernel
theorem d3_21 : decode jdk_65_method_59_code 21 = .ok (.iushr, 1) := by decide +kernel
theorem d3_22 : decode jdk_65_method_59_code 22 = .ok (.istore 6, 2) := by decide +kernel
theorem d3_24 : decode jdk_65_method_59_code 24 = .ok (.aload_n 0, 1) := by decide +kernel
theorem d3_25 : decode jdk_65_method_59_code 25 = .ok (.iload 6, 2) := by decide +kernel
theorem d3_27 : decode jdk_65_method_59_code 27 = .ok (.iaload, 1) := by decide +kernel
theorem d3_28 : decode jdk_65_method_59_code 28 = .ok (.istore 7, 2) := by decide +kernel
theorem d3_30 : decode jdk_65_method_59_code 30 = .ok (.iload 7, 2) := by decide +kernel
theorem d3_32 : decode jdk_65_method_59_code 32 = .ok (.iload_n 3, 1) := by decide +kernel
theorem d3_33 : decode jdk_65_method_59_code 33 = .ok (.if_icmp .ge 12, 3) := by decide +kernel
theorem d3_45 : decode jdk_65_method_59_code 45 = .ok (.iload 7, 2) := by decide +kernel
theorem d3_47 : decode jdk_65_method_59_code 47 = .ok (.iload_n 3, 1) := by decide +kernel
theorem d3_48 : decode jdk_65_method_59_code 48 = .ok (.if_icmp .le 12, 3) := by decide +kernel
theorem d3_51 : decode jdk_65_method_59_code 51 = .ok (.iload 6, 2) := by decide +kernel
theorem d3_53 : decode jdk_65_method_59_code 53 = .ok (.iconst 1, 1) := by decide +kernel
theorem d3_54 : decode jdk_65_method_59_code 54 = .ok (.isub, 1) := by decide +kernel
theorem d3_55 : decode jdk_65_method_59_code 55 = .ok (.istore 5, 2) := by decide +kernel
theorem d3_57 : decode jdk_65_method_59_code 57 = .ok (.goto 6, 3) := by decide +kernel
theorem d3_63 : decode jdk_65_method_59_code 63 = .ok (.goto (-55), 3) := by decide +kernel
theorem d3_60 : decode jdk_65_method_59_code 60 = .ok (.iload 6, 2) := by decide +kernel
theorem d3_62 : decode jdk_65_method_59_code 62 = .ok (.ireturn, 1) := by decide +kernel
theorem d3_36 : decode jdk_65_method_59_code 36 = .ok (.iload 6, 2) := by decide +kernel
theorem d3_38 : decode jdk_65_method_59_code 38 = .ok (.iconst 1, 1) := by decide +kernel
theorem d3_39 : decode jdk_65_method_59_code 39 = .ok (.iadd, 1) := by decide +kernel
theorem d3_40 : decode jdk_65_method_59_code 40 = .ok (.istore 4, 2) := by decide +kernel
theorem d3_42 : decode jdk_65_method_59_code 42 = .ok (.goto 21, 3) := by decide +kernel
theorem d5_45 : decode prog_17_method_3_code 45 = .ok (.aload_n 0, 1) := by decide +kernel
theorem d5_46 : decode prog_17_method_3_code 46 = .ok (.getfield 13, 3) := by decide +kernel
theorem d5_49 : decode prog_17_method_3_code 49 = .ok (.iload 4, 2) := by decide +kernel
theorem d5_51 : decode prog_17_method_3_code 51 = .ok (.iaload, 1) := by decide +kernel
theorem d5_52 : decode prog_17_method_3_code 52 = .ok (.istore 5, 2) := by decide +kernel
theorem d5_54 : decode prog_17_method_3_code 54 = .ok (.aload_n 0, 1) := by decide +kernel
theorem d5_55 : decode prog_17_method_3_code 55 = .ok (.iload 4, 2) := by decide +kernel
theorem d5_57 : decode prog_17_method_3_code 57 = .ok (.putfield 20, 3) := by decide +kernel
theorem pn_com_example_nudge_nudge_tree_BlockEntriesLineBeforePinLaw : plainName "com/example/nudge/nudge/tree/BlockEntriesLineBeforePinLaw" = true := by first | (simp [plainName, overriddenIn]; done) | decide +kernel
theorem d6_0 : decode method_2_code 0 = .ok (.iload_n 1, 1) := by decide +kernel
theorem d6_1 : decode method_2_code 1 = .ok (.iconst 3, 1) := by decide +kernel
theorem d6_2 : decode method_2_code 2 = .ok (.if_icmp .lt 12, 3) := by decide +kernel
theorem d6_14 : decode method_2_code 14 = .ok (.iload_n 1, 1) := by decide +kernel
theorem d6_15 : decode method_2_code 15 = .ok (.iconst 2, 1) := by decide +kernel
theorem d6_16 : decode method_2_code 16 = .ok (.if_icmp .lt 11, 3) := by decide +kernel
theorem d6_27 : decode method_2_code 27 = .ok (.iload_n 1, 1) := by decide +kernel
theorem d6_28 : decode method_2_code 28 = .ok (.iconst 1, 1) := by decide +kernel
theorem d6_29 : decode method_2_code 29 = .ok (.if_icmp .lt 11, 3) := by decide +kernel
theorem d6_40 : decode method_2_code 40 = .ok (.iload 8, 2) := by decide +kernel
theorem d6_42 : decode method_2_code 42 = .ok (.ireturn, 1) := by decide +kernel
theorem d6_32 : decode method_2_code 32 = .ok (.iload_n 2, 1) := by decide +kernel
theorem d6_33 : decode method_2_code 33 = .ok (.iload_n 0, 1) := by decide +kernel
theorem d6_34 : decode method_2_code 34 = .ok (.if_icmp .ge 6, 3) := by decide +kernel
theorem d6_37 : decode method_2_code 37 = .ok (.iload 5, 2) := by decide +kernel
theorem d6_39 : decode method_2_code 39 = .ok (.ireturn, 1) := by decide +kernel
theorem d6_19 : decode method_2_code 19 = .ok (.iload_n 3, 1) := by decide +kernel
theorem d6_20 : decode method_2_code 20 = .ok (.iload_n 0, 1) := by decide +kernel
theorem d6_21 : decode method_2_code 21 = .ok (.if_icmp .ge 6, 3) := by decide +kernel
theorem d6_24 : decode method_2_code 24 = .ok (.iload 6, 2) := by decide +kernel
theorem d6_26 : decode method_2_code 26 = .ok (.ireturn, 1) := by decide +kernel
theorem d6_5 : decode method_2_code 5 = .ok (.iload 4, 2) := by decide +kernel
theorem d6_7 : decode method_2_code 7 = .ok (.iload_n 0, 1) := by decide +kernel
theorem d6_8 : decode method_2_code 8 = .ok (.if_icmp .ge 6, 3) := by decide +kernel
theorem d6_11 : decode method_2_code 11 = .ok (.iload 7, 2) := by decide +kernel
theorem d6_13 : decode method_2_code 13 = .ok (.ireturn, 1) := by decide +kernel
theorem d7_0 : decode jdk_29_method_65_code 0 = .ok (.iload_n 0, 1) := by decide +kernel
theorem d7_1 : decode jdk_29_method_65_code 1 = .ok (.iload_n 1, 1) := by decide +kernel
theorem d7_2 : decode jdk_29_method_65_code 2 = .ok (.if_icmp .lt 7, 3) := by decide +kernel
theorem d7_9 : decode jdk_29_method_65_code 9 = .ok (.iload_n 1, 1) := by decide +kernel
theorem d7_10 : decode jdk_29_method_65_code 10 = .ok (.ireturn, 1) := by decide +kernel
theorem d7_5 : decode jdk_29_method_65_code 5 = .ok (.iload_n 0, 1) := by decide +kernel
theorem d7_6 : decode jdk_29_method_65_code 6 = .ok (.goto 4, 3) := by decide +kernel
theorem w0 {Z : State} {a0 : Array Value} (hw : ∀ d ∈ tables_1, d.before a0 Z = true) : (Jvm.Cond.constant "com/example/nudge/nudge/tree/BlockEntriesLineBeforePinLaw" (7 : Nat) (1073741823 : Int32)).before a0 Z = true := hw _ (List.mem_of_getElem? (i := 0) rfl)
theorem w4 {Z : State} {a0 : Array Value} (hw : ∀ d ∈ tables_1, d.before a0 Z = true) : (Jvm.Cond.code ({ cls := "java/lang/Math", name := "max", desc := "(II)I" } : Jvm.MethodName) jdk_29_method_65_code (2 : Nat) (Option.some Jvm.ClassFile.FieldType.int)).before a0 Z = true := hw _ (List.mem_of_getElem? (i := 4) rfl)
theorem w3 {Z : State} {a0 : Array Value} (hw : ∀ d ∈ tables_1, d.before a0 Z = true) : (Jvm.Cond.initialized "java/lang/Math").before a0 Z = true := hw _ (List.mem_of_getElem? (i := 3) rfl)
theorem pd_2 : parseMethodDescriptor "(II)I" = some ⟨[.int, .int], some .int⟩ := by decide +kernel
theorem w1 {Z : State} {a0 : Array Value} (hw : ∀ d ∈ tables_1, d.before a0 Z = true) : (Jvm.Cond.methodLink "com/example/nudge/nudge/tree/BlockEntriesLineBeforePinLaw" (8 : Nat) ({ cls := "java/lang/Math", name := "max", desc := "(II)I" } : Jvm.MethodName)).before a0 Z = true := hw _ (List.mem_of_getElem? (i := 1) rfl)
theorem w2 {Z : State} {a0 : Array Value} (hw : ∀ d ∈ tables_1, d.before a0 Z = true) : (Jvm.Cond.static ({ cls := "java/lang/Math", name := "max", desc := "(II)I" } : Jvm.MethodName)).before a0 Z = true := hw _ (List.mem_of_getElem? (i := 2) rfl)
theorem w5 {Z : State} {a0 : Array Value} (hw : ∀ d ∈ tables_1, d.before a0 Z = true) : (Jvm.Cond.classLink "com/example/nudge/nudge/tree/BlockEntriesLineBeforePinLaw" (14 : Nat) "com/example/nudge/nudge/tree/BlockEntries").before a0 Z = true := hw _ (List.mem_of_getElem? (i := 5) rfl)
theorem w7 {Z : State} {a0 : Array Value} (hw : ∀ d ∈ tables_1, d.before a0 Z = true) : (Jvm.Cond.initialized "com/example/nudge/nudge/tree/BlockEntries").before a0 Z = true := hw _ (List.mem_of_getElem? (i := 7) rfl)
theorem w10 {Z : State} {a0 : Array Value} (hw : ∀ d ∈ tables_1, d.before a0 Z = true) : (Jvm.Cond.code ({ cls := "com/example/nudge/nudge/tree/BlockEntries", name := "<init>", desc := "()V" } : Jvm.MethodName) prog_17_method_1_code (1 : Nat) (Option.none : Option Jvm.ClassFile.FieldType)).before a0 Z = true := hw _ (List.mem_of_getElem? (i := 10) rfl)
theorem pd_3 : parseMethodDescriptor "()V" = some ⟨[], none⟩ := by decide +kernel
theorem w8 {Z : State} {a0 : Array Value} (hw : ∀ d ∈ tables_1, d.before a0 Z = true) : (Jvm.Cond.methodLink "com/example/nudge/nudge/tree/BlockEntriesLineBeforePinLaw" (16 : Nat) ({ cls := "com/example/nudge/nudge/tree/BlockEntries", name := "<init>", desc := "()V" } : Jvm.MethodName)).before a0 Z = true := hw _ (List.mem_of_getElem? (i := 8) rfl)
theorem w9 {Z : State} {a0 : Array Value} (hw : ∀ d ∈ tables_1, d.before a0 Z = true) : (Jvm.Cond.instanceMethod ({ cls := "com/example/nudge/nudge/tree/BlockEntries", name := "<init>", desc := "()V" } : Jvm.MethodName)).before a0 Z = true := hw _ (List.mem_of_getElem? (i := 9) rfl)
theorem w30 {Z : State} {a0 : Array Value} (hw : ∀ d ∈ tables_1, d.before a0 Z = true) : (Jvm.Cond.code ({ cls := "com/example/nudge/nudge/tree/BlockEntries", name := "lineBefore", desc := "(II)I" } : Jvm.MethodName) prog_17_method_3_code (6 : Nat) (Option.some Jvm.ClassFile.FieldType.int)).before a0 Z = true := hw _ (List.mem_of_getElem? (i := 30) rfl)
theorem w26 {Z : State} {a0 : Array Value} (hw : ∀ d ∈ tables_1, d.before a0 Z = true) : (Jvm.Cond.methodLink "com/example/nudge/nudge/tree/BlockEntriesLineBeforePinLaw" (21 : Nat) ({ cls := "com/example/nudge/nudge/tree/BlockEntries", name := "lineBefore", desc := "(II)I" } : Jvm.MethodName)).before a0 Z = true := hw _ (List.mem_of_getElem? (i := 26) rfl)
theorem w29 {Z : State} {a0 : Array Value} (hw : ∀ d ∈ tables_1, d.before a0 Z = true) : (Jvm.Cond.selects "com/example/nudge/nudge/tree/BlockEntries" ({ cls := "com/example/nudge/nudge/tree/BlockEntries", name := "lineBefore", desc := "(II)I" } : Jvm.MethodName) ({ cls := "com/example/nudge/nudge/tree/BlockEntries", name := "lineBefore", desc := "(II)I" } : Jvm.MethodName)).before a0 Z = true := hw _ (List.mem_of_getElem? (i := 29) rfl)
theorem w27 {Z : State} {a0 : Array Value} (hw : ∀ d ∈ tables_1, d.before a0 Z = true) : (Jvm.Cond.declares ({ cls := "com/example/nudge/nudge/tree/BlockEntries", name := "lineBefore", desc := "(II)I" } : Jvm.MethodName)).before a0 Z = true := hw _ (List.mem_of_getElem? (i := 27) rfl)
theorem w28 {Z : State} {a0 : Array Value} (hw : ∀ d ∈ tables_1, d.before a0 Z = true) : (Jvm.Cond.instanceMethod ({ cls := "com/example/nudge/nudge/tree/BlockEntries", name := "lineBefore", desc := "(II)I" } : Jvm.MethodName)).before a0 Z = true := hw _ (List.mem_of_getElem? (i := 28) rfl)
theorem w46 {Z : State} {a0 : Array Value} (hw : ∀ d ∈ tables_1, d.before a0 Z = true) : (Jvm.Cond.code ({ cls := "com/example/nudge/nudge/tree/BlockEntriesLineBeforePinLaw", name := "expected", desc := "(IIIIIIIII)I" } : Jvm.MethodName) method_2_code (9 : Nat) (Option.some Jvm.ClassFile.FieldType.int)).before a0 Z = true := hw _ (List.mem_of_getElem? (i := 46) rfl)
theorem w45 {Z : State} {a0 : Array Value} (hw : ∀ d ∈ tables_1, d.before a0 Z = true) : (Jvm.Cond.initialized "com/example/nudge/nudge/tree/BlockEntriesLineBeforePinLaw").before a0 Z = true := hw _ (List.mem_of_getElem? (i := 45) rfl)
theorem pd_4 : parseMethodDescriptor "(IIIIIIIII)I" = some ⟨[.int, .int, .int, .int, .int, .int, .int, .int, .int], some .int⟩ := by decide +kernel
theorem w43 {Z : State} {a0 : Array Value} (hw : ∀ d ∈ tables_1, d.before a0 Z = true) : (Jvm.Cond.methodLink "com/example/nudge/nudge/tree/BlockEntriesLineBeforePinLaw" (24 : Nat) ({ cls := "com/example/nudge/nudge/tree/BlockEntriesLineBeforePinLaw", name := "expected", desc := "(IIIIIIIII)I" } : Jvm.MethodName)).before a0 Z = true := hw _ (List.mem_of_getElem? (i := 43) rfl)
theorem w44 {Z : State} {a0 : Array Value} (hw : ∀ d ∈ tables_1, d.before a0 Z = true) : (Jvm.Cond.static ({ cls := "com/example/nudge/nudge/tree/BlockEntriesLineBeforePinLaw", name := "expected", desc := "(IIIIIIIII)I" } : Jvm.MethodName)).before a0 Z = true := hw _ (List.mem_of_getElem? (i := 44) rfl)
theorem w23 {Z : State} {a0 : Array Value} (hw : ∀ d ∈ tables_1, d.before a0 Z = true) : (Jvm.Cond.code ({ cls := "com/example/nudge/nudge/tree/BlockEntries", name := "note", desc := "(II)V" } : Jvm.MethodName) prog_17_method_2_code (3 : Nat) (Option.none : Option Jvm.ClassFile.FieldType)).before a0 Z = true := hw _ (List.mem_of_getElem? (i := 23) rfl)
theorem pd_5 : parseMethodDescriptor "(II)V" = some ⟨[.int, .int], none⟩ := by decide +kernel
theorem w19 {Z : State} {a0 : Array Value} (hw : ∀ d ∈ tables_1, d.before a0 Z = true) : (Jvm.Cond.methodLink "com/example/nudge/nudge/tree/BlockEntriesLineBeforePinLaw" (17 : Nat) ({ cls := "com/example/nudge/nudge/tree/BlockEntries", name := "note", desc := "(II)V" } : Jvm.MethodName)).before a0 Z = true := hw _ (List.mem_of_getElem? (i := 19) rfl)
theorem w22 {Z : State} {a0 : Array Value} (hw : ∀ d ∈ tables_1, d.before a0 Z = true) : (Jvm.Cond.selects "com/example/nudge/nudge/tree/BlockEntries" ({ cls := "com/example/nudge/nudge/tree/BlockEntries", name := "note", desc := "(II)V" } : Jvm.MethodName) ({ cls := "com/example/nudge/nudge/tree/BlockEntries", name := "note", desc := "(II)V" } : Jvm.MethodName)).before a0 Z = true := hw _ (List.mem_of_getElem? (i := 22) rfl)
theorem w20 {Z : State} {a0 : Array Value} (hw : ∀ d ∈ tables_1, d.before a0 Z = true) : (Jvm.Cond.declares ({ cls := "com/example/nudge/nudge/tree/BlockEntries", name := "note", desc := "(II)V" } : Jvm.MethodName)).before a0 Z = true := hw _ (List.mem_of_getElem? (i := 20) rfl)
theorem w21 {Z : State} {a0 : Array Value} (hw : ∀ d ∈ tables_1, d.before a0 Z = true) : (Jvm.Cond.instanceMethod ({ cls := "com/example/nudge/nudge/tree/BlockEntries", name := "note", desc := "(II)V" } : Jvm.MethodName)).before a0 Z = true := hw _ (List.mem_of_getElem? (i := 21) rfl)
theorem pl_rng (x : Int32) : -2147483648 ≤ x.toInt ∧ x.toInt ≤ 2147483647 := by
  have h1 := Int32.le_toInt x; have h2 := Int32.toInt_lt x
  constructor <;> omega
theorem pl_add {a b : Int32} (h1 : -2147483648 ≤ a.toInt + b.toInt) (h2 : a.toInt + b.toInt ≤ 2147483647) : (a + b).toInt = a.toInt + b.toInt := by
  have h := c_iadd a b; have := pl_rng (a + b); omega
theorem pl_sub {a b : Int32} (h1 : -2147483648 ≤ a.toInt - b.toInt) (h2 : a.toInt - b.toInt ≤ 2147483647) : (a - b).toInt = a.toInt - b.toInt := by
  have h := c_isub a b; have := pl_rng (a - b); omega
theorem pl_lt {a b : Int32} (h : a.toInt < b.toInt) : a < b := Int32.lt_iff_toInt_lt.mpr h
theorem pl_nlt {a b : Int32} (h : b.toInt ≤ a.toInt) : ¬ a < b := fun q => absurd (Int32.lt_iff_toInt_lt.mp q) (by omega)
theorem pl_of {a b : Int32} (h : a < b) : a.toInt < b.toInt := Int32.lt_iff_toInt_lt.mp h
theorem pl_nof {a b : Int32} (h : ¬ a < b) : b.toInt ≤ a.toInt := by
  have q : ¬ a.toInt < b.toInt := fun q => h (Int32.lt_iff_toInt_lt.mpr q)
  omega
theorem pl_tr {a b c : Int32} (h : a < b) (h' : b < c) : a < c := pl_lt (Int.lt_trans (pl_of h) (pl_of h'))
theorem pl_trn {a b c : Int32} (h : a < b) (h' : ¬ c < b) : a < c := pl_lt (Int.lt_of_lt_of_le (pl_of h) (pl_nof h'))
theorem pl_as {a b : Int32} (h : a < b) : ¬ b < a := pl_nlt (Int.le_of_lt (pl_of h))

theorem pl_and3 (x : Int32) : x &&& (3 : Int32) = 0 ∨ x &&& (3 : Int32) = 1 ∨ x &&& (3 : Int32) = 2 ∨ x &&& (3 : Int32) = 3 := by
  have h := c_and x 3 (by decide); have h3 : (3 : Int32).toInt = 3 := rfl
  have e : x &&& 3 = Int32.ofInt (x &&& 3).toInt := (Int32.ofInt_toInt _).symm
  have : (x &&& 3).toInt = 0 ∨ (x &&& 3).toInt = 1 ∨ (x &&& 3).toInt = 2 ∨ (x &&& 3).toInt = 3 := by omega
  rcases this with q | q | q | q <;> rw [q] at e
  · exact Or.inl e
  · exact Or.inr (Or.inl e)
  · exact Or.inr (Or.inr (Or.inl e))
  · exact Or.inr (Or.inr (Or.inr e))
def Q_init (Z : State) (a1 : Addr) (h0 : Heap) (n0 : Nat) (vR : Option Value) (h : Heap) (L : List Loc) : Prop := ∃ (ax : Addr) (al : Addr) (kx : ClassId) (kl : ClassId), vR = none ∧ Fr n0 L ∧ Keep h0 h [a1] ∧ n0 ≤ ax ∧ h0.size ≤ ax ∧ n0 ≤ al ∧ h0.size ≤ al ∧ ax ≠ al ∧ (Exa Z h a1 cBE) ∧ (Fld Z h a1 cBE "indexes" "[I" (.ref ax)) ∧ (Fld Z h a1 cBE "lines" "[I" (.ref al)) ∧ (Fld Z h a1 cBE "first" "I" (.int 0)) ∧ (Fld Z h a1 cBE "count" "I" (.int 0)) ∧ (Arv Z h ax kx .int (64 : Int32) [] (.int (0 : Int32))) ∧ (Arv Z h al kl .int (64 : Int32) [] (.int (0 : Int32)))
theorem ef_init (m : MethodId) (x0 : Addr) : entryFrame m #[(.ref x0)] 1 = mkF m 0 #[.val (.ref x0)] [] := by first | (simp [entryFrame, mkF, argsToLocals, Value.category]; done) | rfl
set_option maxRecDepth 65536 in
set_option maxHeartbeats 40000000 in
theorem rm_init (l : Launch) (Z : State) (a0 : Array Value) (hw : ∀ d ∈ tables_1, d.before a0 Z = true) (ws : List Jvm.Cond) (a1 : Addr) (h0 : Heap) (n0 : Nat) (Z0 : n0 ≤ h0.size) (H0 : Exa Z h0 a1 cBE) (H1 : Fld Z h0 a1 cBE "indexes" "[I" .null) (H2 : Fld Z h0 a1 cBE "lines" "[I" .null) (H3 : Fld Z h0 a1 cBE "first" "I" (.int 0)) (H4 : Fld Z h0 a1 cBE "count" "I" (.int 0)) (g_a1 : n0 ≤ a1) :
    MetFree l (⟨"com/example/nudge/nudge/tree/BlockEntries", "<init>", "()V"⟩ : MethodName) (head1 (Jvm.Cond.code (⟨"com/example/nudge/nudge/tree/BlockEntries", "<init>", "()V"⟩ : MethodName) prog_17_method_1_code 1 none :: ws) ({ frames := 1, cells := 2, slots := 128, locals := 12 } : Room)) (fun a U => a = #[(.ref a1)] ∧ Z.Warmed39 U.vm ∧ U.heap = h0) (fun _ _ _ _ _ => True) (fun _ U o U' => ∃ v L, o = .returned v ∧ Q_init Z a1 h0 n0 v U'.heap L ∧ FrameEnd U o U' L ({ frames := 1, cells := 2, slots := 128, locals := 12 } : Room).cells ({ frames := 1, cells := 2, slots := 128, locals := 12 } : Room).slots) := by
  refine MetFree.of_bodySF (plainFor_of_name pn_com_example_nudge_nudge_tree_BlockEntries) hisR ?_
  intro p e s m args below meth c s₁ Bd hml0 hP hK
  obtain ⟨rfl, hZ, hh⟩ := hP
  have hx := Bd.exec
  have hby := Bd.bytes
  have hml : c.maxLocals = 1 := hml0
  have hown : s.vm.findClass "com/example/nudge/nudge/tree/BlockEntries" = some m.cls := findClass_of_methodNamed Bd.named
  have hnm := (name_of_methodNamed Bd.named Bd.method).1
  have X0 : Stand p l e ({ frames := 1, cells := 2, slots := 128, locals := 12 } : Room) s m #[(.ref a1)] below meth c s₁ [] 0 0 := Stand.of_body Bd
  have e0 : s₁.heap = h0 := by rw [← hh, Bd.state]; rfl
  have N0 := Fr.nil n0
  refine go_st (fun t k => castTop (ef_init m a1) k) ?_
  show Go _ _ _ _ (s₁.setTop (mkF m 0 #[rv a1] []))
  refine go_st (fun t k => XS.aloadN X0.here hx rfl (hb hby d0_0) rfl rfl k) ?_
  show Go _ _ _ _ (s₁.setTop (mkF m 1 #[rv a1] [(.ref a1)]))
  obtain ⟨T1, X1, e1, st1⟩ := initO X0 hx hZ hown (w11 hw) (w12 hw) (w13 hw) e0 (g := (mkF m 1 #[rv a1] [(.ref a1)])) rfl (by rw [hml]; rfl) rfl (hb hby d0_1) (by decide) (W := 0) (by show 2 * 0 + _ ≤ _; exact Nat.le_of_eq rfl) (by decide)
  refine go_st (fun t k => st1 t k) ?_
  refine go_st (fun t k => XS.aloadN X1.here hx rfl (hb hby d0_4) rfl rfl k) ?_
  refine go_st (fun t k => XS.bipush X1.here hx rfl (hb hby d0_5) k) ?_
  show Go _ _ _ _ (T1.setTop (mkF m 7 #[rv a1] [(.int 64), (.ref a1)]))
  obtain ⟨T2, h2, kc2, X2, e2, E2, A2, st2⟩ := newP X1 hx hZ (aty := .int) (w14 hw) e1 (g := (mkF m 7 #[rv a1] [(.int 64), (.ref a1)])) rfl (hb hby d0_7) rfl (by decide) (cap := 64) (by decide) (by decide) (by decide) (by decide)
  obtain ⟨b2, gq2⟩ : ∃ z, z = h0.size := ⟨_, rfl⟩
  rw [← gq2] at A2 st2
  have f3 : Arv Z h2 b2 kc2 .int (64 : Int32) [] (.int 0) := (Arv.new A2 (by decide)).pad (pad_rep [] (.int 0) 0)
  refine go_st (fun t k => st2 t k) ?_
  show Go _ _ _ _ (T2.setTop (mkF m 9 #[rv a1] [(.ref b2), (.ref a1)]))
  have f4 : Fld Z h2 a1 cBE "indexes" "[I" .null := (H1.ext E2)
  have f5 : Exa Z h2 a1 cBE := (H0.ext E2)
  obtain ⟨T6, h6, X6, e6, W6, st6⟩ := putF X2 hx hZ hown (host := "") (Or.inl (w15 hw)) Via.refl e2 f4 f5 (Or.inl (w16 hw)) (w6 hw) (ty := (.array .int)) (by decide) rfl rfl (g := (mkF m 9 #[rv a1] [(.ref b2), (.ref a1)])) rfl rfl (hb hby d0_9)
  have N6 := Fr.snoc X6 N0 g_a1
  have f7 : Fld Z h6 a1 cBE "indexes" "[I" (.ref b2) := f4.same W6
  refine go_st (fun t k => st6 t k) ?_
  refine go_st (fun t k => XS.aloadN X6.here hx rfl (hb hby d0_12) rfl rfl k) ?_
  refine go_st (fun t k => XS.bipush X6.here hx rfl (hb hby d0_13) k) ?_
  show Go _ _ _ _ (T6.setTop (mkF m 15 #[rv a1] [(.int 64), (.ref a1)]))
  obtain ⟨T8, h8, kc8, X8, e8, E8, A8, st8⟩ := newP X6 hx hZ (aty := .int) (w14 hw) e6 (g := (mkF m 15 #[rv a1] [(.int 64), (.ref a1)])) rfl (hb hby d0_15) rfl (by decide) (cap := 64) (by decide) (by decide) (by decide) (by decide)
  obtain ⟨b8, gq8⟩ : ∃ z, z = h6.size := ⟨_, rfl⟩
  rw [← gq8] at A8 st8
  have f9 : Arv Z h8 b8 kc8 .int (64 : Int32) [] (.int 0) := (Arv.new A8 (by decide)).pad (pad_rep [] (.int 0) 0)
  refine go_st (fun t k => st8 t k) ?_
  show Go _ _ _ _ (T8.setTop (mkF m 17 #[rv a1] [(.ref b8), (.ref a1)]))
  have f10 : Fld Z h8 a1 cBE "lines" "[I" .null := (((H2.ext E2).other W6 (Or.inr (slot_ne (Or.inl (w18 hw)) (Or.inl (w16 hw)) (by decide) (t := (.array .int)) (t' := (.array .int)) (by decide) (by decide)))).ext E8)
  have f11 : Exa Z h8 a1 cBE := ((f5.wr W6).ext E8)
  obtain ⟨T12, h12, X12, e12, W12, st12⟩ := putF X8 hx hZ hown (host := "") (Or.inl (w17 hw)) Via.refl e8 f10 f11 (Or.inl (w18 hw)) (w6 hw) (ty := (.array .int)) (by decide) rfl rfl (g := (mkF m 17 #[rv a1] [(.ref b8), (.ref a1)])) rfl rfl (hb hby d0_17)
  have N12 := Fr.snoc X12 N6 g_a1
  have f13 : Fld Z h12 a1 cBE "lines" "[I" (.ref b8) := f10.same W12
  refine go_st (fun t k => st12 t k) ?_
  show Go _ _ _ _ (T12.setTop (mkF m 20 #[rv a1] []))
  have g_b2 : n0 ≤ b2 := Nat.le_trans (Nat.le_trans Z0 (Nat.le_refl _)) (Nat.le_of_eq gq2.symm)
  have sz14 : h0.size ≤ h6.size := (Nat.le_trans E2.1 (Nat.le_of_eq W6.size.symm))
  have g_b8 : n0 ≤ b8 := Nat.le_trans (Nat.le_trans Z0 sz14) (Nat.le_of_eq gq8.symm)
  have nq15 : b2 ≠ b8 := Nat.ne_of_lt (Nat.lt_of_lt_of_le (Nat.lt_of_lt_of_le f3.lt (Nat.le_of_eq W6.size.symm)) (Nat.le_of_eq gq8.symm))
  have f16 : Exa Z h12 a1 cBE := (f11.wr W12)
  have f17 : Fld Z h12 a1 cBE "indexes" "[I" (.ref b2) := ((f7.ext E8).other W12 (Or.inr (slot_ne (Or.inl (w16 hw)) (Or.inl (w18 hw)) (by decide) (t := (.array .int)) (t' := (.array .int)) (by decide) (by decide))))
  have f18 : Fld Z h12 a1 cBE "first" "I" (.int 0) := ((((H3.ext E2).other W6 (Or.inr (slot_ne (Or.inl (w32 hw)) (Or.inl (w16 hw)) (by decide) (t := .int) (t' := (.array .int)) (by decide) (by decide)))).ext E8).other W12 (Or.inr (slot_ne (Or.inl (w32 hw)) (Or.inl (w18 hw)) (by decide) (t := .int) (t' := (.array .int)) (by decide) (by decide))))
  have f19 : Fld Z h12 a1 cBE "count" "I" (.int 0) := ((((H4.ext E2).other W6 (Or.inr (slot_ne (Or.inl (w25 hw)) (Or.inl (w16 hw)) (by decide) (t := .int) (t' := (.array .int)) (by decide) (by decide)))).ext E8).other W12 (Or.inr (slot_ne (Or.inl (w25 hw)) (Or.inl (w18 hw)) (by decide) (t := .int) (t' := (.array .int)) (by decide) (by decide))))
  have nq20 : a1 ≠ b2 := Nat.ne_of_lt (Nat.lt_of_lt_of_le (Nat.lt_of_lt_of_le H0.lt (Nat.le_refl _)) (Nat.le_of_eq gq2.symm))
  have f21 : Arv Z h12 b2 kc2 .int (64 : Int32) [] (.int 0) := (((f3.other W6 (Ne.symm nq20)).ext E8).other W12 (Ne.symm nq20))
  have nq22 : a1 ≠ b8 := Nat.ne_of_lt (Nat.lt_of_lt_of_le (Nat.lt_of_lt_of_le H0.lt sz14) (Nat.le_of_eq gq8.symm))
  have f23 : Arv Z h12 b8 kc8 .int (64 : Int32) [] (.int 0) := (f9.other W12 (Ne.symm nq22))
  have ke24 : Keep h0 h2 [a1] := (Keep.ext (Keep.refl h0 [a1]) E2)
  have ke25 : Keep h0 h6 [a1] := (Keep.wr ke24 W6 (Or.inl (List.mem_of_getElem? (i := 0) rfl)))
  have ke26 : Keep h0 h8 [a1] := (Keep.ext ke25 E8)
  have ke27 : Keep h0 h12 [a1] := (Keep.wr ke26 W12 (Or.inl (List.mem_of_getElem? (i := 0) rfl)))
  obtain ⟨fs, hr, hrun, hended, hW, hsame⟩ := X12.leave (v := none) (fun _ => rfl)
  refine ⟨_, _, ?_, hrun, hended, _, _, rfl, ?_, ⟨_, rfl⟩, hW, hsame.mono (by decide) (by decide)⟩
  · exact X12.returnOut hx Bd.returns (hb hby d0_20) hr
  · show Q_init _ _ _ _ _ T12.heap _
    rw [e12]
    exact ⟨b2, b8, kc2, kc8, rfl, N12, ke27, g_b2, (Nat.le_of_eq gq2.symm), g_b8, (Nat.le_trans sz14 (Nat.le_of_eq gq8.symm)), nq15, f16, f17, f13, f18, f19, f21, f23⟩
def Q_note0 (Z : State) (a1 : Addr) (ax : Addr) (al : Addr) (kx : ClassId) (kl : ClassId) (i : Int32) (ln : Int32) (h0 : Heap) (n0 : Nat) (vR : Option Value) (h : Heap) (L : List Loc) : Prop := vR = none ∧ Fr n0 L ∧ Keep h0 h [a1, ax, al] ∧ (Exa Z h a1 cBE) ∧ (Fld Z h a1 cBE "indexes" "[I" (.ref ax)) ∧ (Fld Z h a1 cBE "lines" "[I" (.ref al)) ∧ (Fld Z h a1 cBE "first" "I" (.int 0)) ∧ (Fld Z h a1 cBE "count" "I" (.int 1)) ∧ (Arv Z h ax kx .int (64 : Int32) [(.int i)] (.int (0 : Int32))) ∧ (Arv Z h al kl .int (64 : Int32) [(.int ln)] (.int (0 : Int32)))
theorem ef_note0 (m : MethodId) (x0 : Addr) (x1 : Int32) (x2 : Int32) : entryFrame m #[(.ref x0), (.int x1), (.int x2)] 3 = mkF m 0 #[.val (.ref x0), .val (.int x1), .val (.int x2)] [] := by first | (simp [entryFrame, mkF, argsToLocals, Value.category]; done) | rfl
set_option maxRecDepth 65536 in
set_option maxHeartbeats 40000000 in
theorem rm_note0 (l : Launch) (Z : State) (a0 : Array Value) (hw : ∀ d ∈ tables_1, d.before a0 Z = true) (ws : List Jvm.Cond) (a1 : Addr) (ax : Addr) (al : Addr) (kx : ClassId) (kl : ClassId) (i : Int32) (ln : Int32) (h0 : Heap) (n0 : Nat) (Z0 : n0 ≤ h0.size) (H0 : Exa Z h0 a1 cBE) (H1 : Fld Z h0 a1 cBE "indexes" "[I" (.ref ax)) (H2 : Fld Z h0 a1 cBE "lines" "[I" (.ref al)) (H3 : Fld Z h0 a1 cBE "first" "I" (.int 0)) (H4 : Fld Z h0 a1 cBE "count" "I" (.int 0)) (H5 : Arv Z h0 ax kx .int (64 : Int32) [] (.int (0 : Int32))) (H6 : Arv Z h0 al kl .int (64 : Int32) [] (.int (0 : Int32))) (ne_a1_ax : a1 ≠ ax) (ne_a1_al : a1 ≠ al) (ne_ax_al : ax ≠ al) (g_a1 : n0 ≤ a1) (g_ax : n0 ≤ ax) (g_al : n0 ≤ al) :
    MetFree l (⟨"com/example/nudge/nudge/tree/BlockEntries", "note", "(II)V"⟩ : MethodName) (head1 (Jvm.Cond.code (⟨"com/example/nudge/nudge/tree/BlockEntries", "note", "(II)V"⟩ : MethodName) prog_17_method_2_code 3 none :: ws) ({ frames := 0, cells := 0, slots := 0, locals := 0 } : Room)) (fun a U => a = #[(.ref a1), (.int i), (.int ln)] ∧ Z.Warmed39 U.vm ∧ U.heap = h0) (fun _ _ _ _ _ => True) (fun _ U o U' => ∃ v L, o = .returned v ∧ Q_note0 Z a1 ax al kx kl i ln h0 n0 v U'.heap L ∧ FrameEnd U o U' L ({ frames := 0, cells := 0, slots := 0, locals := 0 } : Room).cells ({ frames := 0, cells := 0, slots := 0, locals := 0 } : Room).slots) := by
  refine MetFree.of_bodySF (plainFor_of_name pn_com_example_nudge_nudge_tree_BlockEntries) hisR ?_
  intro p e s m args below meth c s₁ Bd hml0 hP hK
  obtain ⟨rfl, hZ, hh⟩ := hP
  have hx := Bd.exec
  have hby := Bd.bytes
  have hml : c.maxLocals = 3 := hml0
  have hown : s.vm.findClass "com/example/nudge/nudge/tree/BlockEntries" = some m.cls := findClass_of_methodNamed Bd.named
  have hnm := (name_of_methodNamed Bd.named Bd.method).1
  have X0 : Stand p l e ({ frames := 0, cells := 0, slots := 0, locals := 0 } : Room) s m #[(.ref a1), (.int i), (.int ln)] below meth c s₁ [] 0 0 := Stand.of_body Bd
  have e0 : s₁.heap = h0 := by rw [← hh, Bd.state]; rfl
  have N0 := Fr.nil n0
  refine go_st (fun t k => castTop (ef_note0 m a1 i ln) k) ?_
  show Go _ _ _ _ (s₁.setTop (mkF m 0 #[rv a1, iv i, iv ln] []))
  refine go_st (fun t k => XS.aloadN X0.here hx rfl (hb hby d1_0) rfl rfl k) ?_
  show Go _ _ _ _ (s₁.setTop (mkF m 1 #[rv a1, iv i, iv ln] [(.ref a1)]))
  obtain ⟨T1, X1, e1, st1⟩ := getF X0 hx hZ hown (host := "") (Or.inl (w24 hw)) Via.refl e0 H4 (g := (mkF m 1 #[rv a1, iv i, iv ln] [(.ref a1)])) rfl rfl (hb hby d1_1)
  refine go_st (fun t k => st1 t k) ?_
  refine go_st (fun t k => XS.aloadN X1.here hx rfl (hb hby d1_4) rfl rfl k) ?_
  show Go _ _ _ _ (T1.setTop (mkF m 5 #[rv a1, iv i, iv ln] [(.ref a1), (.int 0)]))
  obtain ⟨T2, X2, e2, st2⟩ := getF X1 hx hZ hown (host := "") (Or.inl (w15 hw)) Via.refl e1 H1 (g := (mkF m 5 #[rv a1, iv i, iv ln] [(.ref a1), (.int 0)])) rfl rfl (hb hby d1_5)
  refine go_st (fun t k => st2 t k) ?_
  show Go _ _ _ _ (T2.setTop (mkF m 8 #[rv a1, iv i, iv ln] [(.ref ax), (.int 0)]))
  obtain ⟨zc3, zA3, zq3, zS3, zN3, zH3, zG3⟩ := id H5
  refine go_st (fun t k => X2.arraylength hx (by rw [e2]; exact zA3.1) (State.isArrayOf_alike hZ.alike zA3.2.1) (g := (mkF m 8 #[rv a1, iv i, iv ln] [(.ref ax), (.int 0)])) rfl rfl (hb hby d1_8) t k) ?_
  rw [len_of zS3 zN3]
  show Go _ _ _ _ (T2.setTop (mkF m 9 #[rv a1, iv i, iv ln] [(.int 64), (.int 0)]))
  refine go_st (fun t k => XS.icmpYes X2.here hx rfl (pc0 := 9) (pc' := 120) rfl (hb hby d1_9) rfl (feq ((by decide) : ¬ ((0 : Int32) = (64 : Int32)))).2 (by decide) (by decide) k) ?_
  show Go _ _ _ _ (T2.setTop (mkF m 120 #[rv a1, iv i, iv ln] []))
  refine go_st (fun t k => XS.aloadN X2.here hx rfl (hb hby d1_120) rfl rfl k) ?_
  show Go _ _ _ _ (T2.setTop (mkF m 121 #[rv a1, iv i, iv ln] [(.ref a1)]))
  obtain ⟨T4, X4, e4, st4⟩ := getF X2 hx hZ hown (host := "") (Or.inl (w15 hw)) Via.refl e2 H1 (g := (mkF m 121 #[rv a1, iv i, iv ln] [(.ref a1)])) rfl rfl (hb hby d1_121)
  refine go_st (fun t k => st4 t k) ?_
  refine go_st (fun t k => XS.aloadN X4.here hx rfl (hb hby d1_124) rfl rfl k) ?_
  show Go _ _ _ _ (T4.setTop (mkF m 125 #[rv a1, iv i, iv ln] [(.ref a1), (.ref ax)]))
  obtain ⟨T5, X5, e5, st5⟩ := getF X4 hx hZ hown (host := "") (Or.inl (w24 hw)) Via.refl e4 H4 (g := (mkF m 125 #[rv a1, iv i, iv ln] [(.ref a1), (.ref ax)])) rfl rfl (hb hby d1_125)
  refine go_st (fun t k => st5 t k) ?_
  refine go_st (fun t k => XS.iloadN X5.here hx rfl (hb hby d1_128) rfl k) ?_
  show Go _ _ _ _ (T5.setTop (mkF m 129 #[rv a1, iv i, iv ln] [(.int i), (.int 0), (.ref ax)]))
  have f6 : Arv Z h0 ax kx .int (64 : Int32) [(.int 0)] (.int (0 : Int32)) := H5.pad (pad_rep [] (.int 0) 1)
  obtain ⟨zc7, zA7, zq7, zS7, zN7, zH7, zG7⟩ := id f6
  have hin7 : ¬ ((0 : Int32) < 0 ∨ zc7.slots.size ≤ ((0 : Int32)).toNatClampNeg) := inb_of zS7 ⟨by decide, by decide⟩
  obtain ⟨T7, h7, X7, e7, W7, st7⟩ := stI X5 hx hZ e5 zA7 (j := (0 : Int32)) hin7 (g := (mkF m 129 #[rv a1, iv i, iv ln] [(.int i), (.int 0), (.ref ax)])) rfl rfl (hb hby d1_129)
  have N7 := Fr.snoc X7 N0 g_ax
  have f8 : Arv Z h7 ax kx .int (64 : Int32) [(.int i)] (.int (0 : Int32)) := Arv.set zA7 zq7 zS7 zN7 zH7 zG7 rfl W7 0 rfl (Nat.le_of_ble_eq_true rfl)
  refine go_st (fun t k => st7 t k) ?_
  refine go_st (fun t k => XS.aloadN X7.here hx rfl (hb hby d1_130) rfl rfl k) ?_
  show Go _ _ _ _ (T7.setTop (mkF m 131 #[rv a1, iv i, iv ln] [(.ref a1)]))
  have f9 : Fld Z h7 a1 cBE "lines" "[I" (.ref al) := (H2.other W7 (Or.inl ne_a1_ax))
  obtain ⟨T10, X10, e10, st10⟩ := getF X7 hx hZ hown (host := "") (Or.inl (w17 hw)) Via.refl e7 f9 (g := (mkF m 131 #[rv a1, iv i, iv ln] [(.ref a1)])) rfl rfl (hb hby d1_131)
  refine go_st (fun t k => st10 t k) ?_
  refine go_st (fun t k => XS.aloadN X10.here hx rfl (hb hby d1_134) rfl rfl k) ?_
  show Go _ _ _ _ (T10.setTop (mkF m 135 #[rv a1, iv i, iv ln] [(.ref a1), (.ref al)]))
  have f11 : Fld Z h7 a1 cBE "count" "I" (.int 0) := (H4.other W7 (Or.inl ne_a1_ax))
  obtain ⟨T12, X12, e12, st12⟩ := getF X10 hx hZ hown (host := "") (Or.inl (w24 hw)) Via.refl e10 f11 (g := (mkF m 135 #[rv a1, iv i, iv ln] [(.ref a1), (.ref al)])) rfl rfl (hb hby d1_135)
  refine go_st (fun t k => st12 t k) ?_
  refine go_st (fun t k => XS.iloadN X12.here hx rfl (hb hby d1_138) rfl k) ?_
  show Go _ _ _ _ (T12.setTop (mkF m 139 #[rv a1, iv i, iv ln] [(.int ln), (.int 0), (.ref al)]))
  have f13 : Arv Z h7 al kl .int (64 : Int32) [] (.int (0 : Int32)) := (H6.other W7 (Ne.symm ne_ax_al))
  have f14 : Arv Z h7 al kl .int (64 : Int32) [(.int 0)] (.int (0 : Int32)) := f13.pad (pad_rep [] (.int 0) 1)
  obtain ⟨zc15, zA15, zq15, zS15, zN15, zH15, zG15⟩ := id f14
  have hin15 : ¬ ((0 : Int32) < 0 ∨ zc15.slots.size ≤ ((0 : Int32)).toNatClampNeg) := inb_of zS15 ⟨by decide, by decide⟩
  obtain ⟨T15, h15, X15, e15, W15, st15⟩ := stI X12 hx hZ e12 zA15 (j := (0 : Int32)) hin15 (g := (mkF m 139 #[rv a1, iv i, iv ln] [(.int ln), (.int 0), (.ref al)])) rfl rfl (hb hby d1_139)
  have N15 := Fr.snoc X15 N7 g_al
  have f16 : Arv Z h15 al kl .int (64 : Int32) [(.int ln)] (.int (0 : Int32)) := Arv.set zA15 zq15 zS15 zN15 zH15 zG15 rfl W15 0 rfl (Nat.le_of_ble_eq_true rfl)
  refine go_st (fun t k => st15 t k) ?_
  refine go_st (fun t k => XS.aloadN X15.here hx rfl (hb hby d1_140) rfl rfl k) ?_
  refine go_st (fun t k => XS.dup X15.here hx rfl (hb hby d1_141) rfl rfl k) ?_
  show Go _ _ _ _ (T15.setTop (mkF m 142 #[rv a1, iv i, iv ln] [(.ref a1), (.ref a1)]))
  have f17 : Fld Z h15 a1 cBE "count" "I" (.int 0) := (f11.other W15 (Or.inl ne_a1_al))
  obtain ⟨T18, X18, e18, st18⟩ := getF X15 hx hZ hown (host := "") (Or.inl (w24 hw)) Via.refl e15 f17 (g := (mkF m 142 #[rv a1, iv i, iv ln] [(.ref a1), (.ref a1)])) rfl rfl (hb hby d1_142)
  refine go_st (fun t k => st18 t k) ?_
  refine go_st (fun t k => XS.iconst X18.here hx rfl (hb hby d1_145) k) ?_
  show Go _ _ _ _ (T18.setTop (mkF m 146 #[rv a1, iv i, iv ln] [(.int 1), (.int 0), (.ref a1)]))
  refine go_st (fun t k => XS.iadd X18.here hx rfl (hb hby d1_146) rfl k) ?_
  rw [show ((0 : Int32) + (1 : Int32)) = (1 : Int32) from by decide]
  show Go _ _ _ _ (T18.setTop (mkF m 147 #[rv a1, iv i, iv ln] [(.int 1), (.ref a1)]))
  have f19 : Exa Z h15 a1 cBE := ((H0.wr W7).wr W15)
  obtain ⟨T20, h20, X20, e20, W20, st20⟩ := putF X18 hx hZ hown (host := "") (Or.inl (w24 hw)) Via.refl e18 f17 f19 (Or.inl (w25 hw)) (w6 hw) (ty := .int) (by decide) rfl rfl (g := (mkF m 147 #[rv a1, iv i, iv ln] [(.int 1), (.ref a1)])) rfl rfl (hb hby d1_147)
  have N20 := Fr.snoc X20 N15 g_a1
  have f21 : Fld Z h20 a1 cBE "count" "I" (.int 1) := f17.same W20
  refine go_st (fun t k => st20 t k) ?_
  show Go _ _ _ _ (T20.setTop (mkF m 150 #[rv a1, iv i, iv ln] []))
  have f22 : Exa Z h20 a1 cBE := (f19.wr W20)
  have f23 : Fld Z h20 a1 cBE "indexes" "[I" (.ref ax) := (((H1.other W7 (Or.inl ne_a1_ax)).other W15 (Or.inl ne_a1_al)).other W20 (Or.inr (slot_ne (Or.inl (w16 hw)) (Or.inl (w25 hw)) (by decide) (t := (.array .int)) (t' := .int) (by decide) (by decide))))
  have f24 : Fld Z h20 a1 cBE "lines" "[I" (.ref al) := ((f9.other W15 (Or.inl ne_a1_al)).other W20 (Or.inr (slot_ne (Or.inl (w18 hw)) (Or.inl (w25 hw)) (by decide) (t := (.array .int)) (t' := .int) (by decide) (by decide))))
  have f25 : Fld Z h20 a1 cBE "first" "I" (.int 0) := (((H3.other W7 (Or.inl ne_a1_ax)).other W15 (Or.inl ne_a1_al)).other W20 (Or.inr (slot_ne (Or.inl (w32 hw)) (Or.inl (w25 hw)) (by decide) (t := .int) (t' := .int) (by decide) (by decide))))
  have f26 : Arv Z h20 ax kx .int (64 : Int32) [(.int i)] (.int (0 : Int32)) := ((f8.other W15 ne_ax_al).other W20 (Ne.symm ne_a1_ax))
  have f27 : Arv Z h20 al kl .int (64 : Int32) [(.int ln)] (.int (0 : Int32)) := (f16.other W20 (Ne.symm ne_a1_al))
  have ke28 : Keep h0 h7 [a1, ax, al] := (Keep.wr (Keep.refl h0 [a1, ax, al]) W7 (Or.inl (List.mem_of_getElem? (i := 1) rfl)))
  have ke29 : Keep h0 h15 [a1, ax, al] := (Keep.wr ke28 W15 (Or.inl (List.mem_of_getElem? (i := 2) rfl)))
  have ke30 : Keep h0 h20 [a1, ax, al] := (Keep.wr ke29 W20 (Or.inl (List.mem_of_getElem? (i := 0) rfl)))
  obtain ⟨fs, hr, hrun, hended, hW, hsame⟩ := X20.leave (v := none) (fun _ => rfl)
  refine ⟨_, _, ?_, hrun, hended, _, _, rfl, ?_, ⟨_, rfl⟩, hW, hsame.mono (by decide) (by decide)⟩
  · exact X20.returnOut hx Bd.returns (hb hby d1_150) hr
  · show Q_note0 _ _ _ _ _ _ _ _ _ _ _ T20.heap _
    rw [e20]
    exact ⟨rfl, N20, ke30, f22, f23, f24, f25, f21, f26, f27⟩
def Q_note1 (Z : State) (a1 : Addr) (ax : Addr) (al : Addr) (kx : ClassId) (kl : ClassId) (i : Int32) (ln : Int32) (x0 : Int32) (l0 : Int32) (h0 : Heap) (n0 : Nat) (vR : Option Value) (h : Heap) (L : List Loc) : Prop := vR = none ∧ Fr n0 L ∧ Keep h0 h [a1, ax, al] ∧ (Exa Z h a1 cBE) ∧ (Fld Z h a1 cBE "indexes" "[I" (.ref ax)) ∧ (Fld Z h a1 cBE "lines" "[I" (.ref al)) ∧ (Fld Z h a1 cBE "first" "I" (.int 0)) ∧ (Fld Z h a1 cBE "count" "I" (.int 2)) ∧ (Arv Z h ax kx .int (64 : Int32) [(.int x0), (.int i)] (.int (0 : Int32))) ∧ (Arv Z h al kl .int (64 : Int32) [(.int l0), (.int ln)] (.int (0 : Int32)))
theorem ef_note1 (m : MethodId) (x0 : Addr) (x1 : Int32) (x2 : Int32) : entryFrame m #[(.ref x0), (.int x1), (.int x2)] 3 = mkF m 0 #[.val (.ref x0), .val (.int x1), .val (.int x2)] [] := by first | (simp [entryFrame, mkF, argsToLocals, Value.category]; done) | rfl
set_option maxRecDepth 65536 in
set_option maxHeartbeats 40000000 in
theorem rm_note1 (l : Launch) (Z : State) (a0 : Array Value) (hw : ∀ d ∈ tables_1, d.before a0 Z = true) (ws : List Jvm.Cond) (a1 : Addr) (ax : Addr) (al : Addr) (kx : ClassId) (kl : ClassId) (i : Int32) (ln : Int32) (x0 : Int32) (l0 : Int32) (h0 : Heap) (n0 : Nat) (Z0 : n0 ≤ h0.size) (H0 : Exa Z h0 a1 cBE) (H1 : Fld Z h0 a1 cBE "indexes" "[I" (.ref ax)) (H2 : Fld Z h0 a1 cBE "lines" "[I" (.ref al)) (H3 : Fld Z h0 a1 cBE "first" "I" (.int 0)) (H4 : Fld Z h0 a1 cBE "count" "I" (.int 1)) (H5 : Arv Z h0 ax kx .int (64 : Int32) [(.int x0)] (.int (0 : Int32))) (H6 : Arv Z h0 al kl .int (64 : Int32) [(.int l0)] (.int (0 : Int32))) (ne_a1_ax : a1 ≠ ax) (ne_a1_al : a1 ≠ al) (ne_ax_al : ax ≠ al) (g_a1 : n0 ≤ a1) (g_ax : n0 ≤ ax) (g_al : n0 ≤ al) :
    MetFree l (⟨"com/example/nudge/nudge/tree/BlockEntries", "note", "(II)V"⟩ : MethodName) (head1 (Jvm.Cond.code (⟨"com/example/nudge/nudge/tree/BlockEntries", "note", "(II)V"⟩ : MethodName) prog_17_method_2_code 3 none :: ws) ({ frames := 0, cells := 0, slots := 0, locals := 0 } : Room)) (fun a U => a = #[(.ref a1), (.int i), (.int ln)] ∧ Z.Warmed39 U.vm ∧ U.heap = h0) (fun _ _ _ _ _ => True) (fun _ U o U' => ∃ v L, o = .returned v ∧ Q_note1 Z a1 ax al kx kl i ln x0 l0 h0 n0 v U'.heap L ∧ FrameEnd U o U' L ({ frames := 0, cells := 0, slots := 0, locals := 0 } : Room).cells ({ frames := 0, cells := 0, slots := 0, locals := 0 } : Room).slots) := by
  refine MetFree.of_bodySF (plainFor_of_name pn_com_example_nudge_nudge_tree_BlockEntries) hisR ?_
  intro p e s m args below meth c s₁ Bd hml0 hP hK
  obtain ⟨rfl, hZ, hh⟩ := hP
  have hx := Bd.exec
  have hby := Bd.bytes
  have hml : c.maxLocals = 3 := hml0
  have hown : s.vm.findClass "com/example/nudge/nudge/tree/BlockEntries" = some m.cls := findClass_of_methodNamed Bd.named
  have hnm := (name_of_methodNamed Bd.named Bd.method).1
  have X0 : Stand p l e ({ frames := 0, cells := 0, slots := 0, locals := 0 } : Room) s m #[(.ref a1), (.int i), (.int ln)] below meth c s₁ [] 0 0 := Stand.of_body Bd
  have e0 : s₁.heap = h0 := by rw [← hh, Bd.state]; rfl
  have N0 := Fr.nil n0
  refine go_st (fun t k => castTop (ef_note1 m a1 i ln) k) ?_
  show Go _ _ _ _ (s₁.setTop (mkF m 0 #[rv a1, iv i, iv ln] []))
  refine go_st (fun t k => XS.aloadN X0.here hx rfl (hb hby d1_0) rfl rfl k) ?_
  show Go _ _ _ _ (s₁.setTop (mkF m 1 #[rv a1, iv i, iv ln] [(.ref a1)]))
  obtain ⟨T1, X1, e1, st1⟩ := getF X0 hx hZ hown (host := "") (Or.inl (w24 hw)) Via.refl e0 H4 (g := (mkF m 1 #[rv a1, iv i, iv ln] [(.ref a1)])) rfl rfl (hb hby d1_1)
  refine go_st (fun t k => st1 t k) ?_
  refine go_st (fun t k => XS.aloadN X1.here hx rfl (hb hby d1_4) rfl rfl k) ?_
  show Go _ _ _ _ (T1.setTop (mkF m 5 #[rv a1, iv i, iv ln] [(.ref a1), (.int 1)]))
  obtain ⟨T2, X2, e2, st2⟩ := getF X1 hx hZ hown (host := "") (Or.inl (w15 hw)) Via.refl e1 H1 (g := (mkF m 5 #[rv a1, iv i, iv ln] [(.ref a1), (.int 1)])) rfl rfl (hb hby d1_5)
  refine go_st (fun t k => st2 t k) ?_
  show Go _ _ _ _ (T2.setTop (mkF m 8 #[rv a1, iv i, iv ln] [(.ref ax), (.int 1)]))
  obtain ⟨zc3, zA3, zq3, zS3, zN3, zH3, zG3⟩ := id H5
  refine go_st (fun t k => X2.arraylength hx (by rw [e2]; exact zA3.1) (State.isArrayOf_alike hZ.alike zA3.2.1) (g := (mkF m 8 #[rv a1, iv i, iv ln] [(.ref ax), (.int 1)])) rfl rfl (hb hby d1_8) t k) ?_
  rw [len_of zS3 zN3]
  show Go _ _ _ _ (T2.setTop (mkF m 9 #[rv a1, iv i, iv ln] [(.int 64), (.int 1)]))
  refine go_st (fun t k => XS.icmpYes X2.here hx rfl (pc0 := 9) (pc' := 120) rfl (hb hby d1_9) rfl (feq ((by decide) : ¬ ((1 : Int32) = (64 : Int32)))).2 (by decide) (by decide) k) ?_
  show Go _ _ _ _ (T2.setTop (mkF m 120 #[rv a1, iv i, iv ln] []))
  refine go_st (fun t k => XS.aloadN X2.here hx rfl (hb hby d1_120) rfl rfl k) ?_
  show Go _ _ _ _ (T2.setTop (mkF m 121 #[rv a1, iv i, iv ln] [(.ref a1)]))
  obtain ⟨T4, X4, e4, st4⟩ := getF X2 hx hZ hown (host := "") (Or.inl (w15 hw)) Via.refl e2 H1 (g := (mkF m 121 #[rv a1, iv i, iv ln] [(.ref a1)])) rfl rfl (hb hby d1_121)
  refine go_st (fun t k => st4 t k) ?_
  refine go_st (fun t k => XS.aloadN X4.here hx rfl (hb hby d1_124) rfl rfl k) ?_
  show Go _ _ _ _ (T4.setTop (mkF m 125 #[rv a1, iv i, iv ln] [(.ref a1), (.ref ax)]))
  obtain ⟨T5, X5, e5, st5⟩ := getF X4 hx hZ hown (host := "") (Or.inl (w24 hw)) Via.refl e4 H4 (g := (mkF m 125 #[rv a1, iv i, iv ln] [(.ref a1), (.ref ax)])) rfl rfl (hb hby d1_125)
  refine go_st (fun t k => st5 t k) ?_
  refine go_st (fun t k => XS.iloadN X5.here hx rfl (hb hby d1_128) rfl k) ?_
  show Go _ _ _ _ (T5.setTop (mkF m 129 #[rv a1, iv i, iv ln] [(.int i), (.int 1), (.ref ax)]))
  have f6 : Arv Z h0 ax kx .int (64 : Int32) [(.int x0), (.int 0)] (.int (0 : Int32)) := H5.pad (pad_rep [(.int x0)] (.int 0) 1)
  obtain ⟨zc7, zA7, zq7, zS7, zN7, zH7, zG7⟩ := id f6
  have hin7 : ¬ ((1 : Int32) < 0 ∨ zc7.slots.size ≤ ((1 : Int32)).toNatClampNeg) := inb_of zS7 ⟨by decide, by decide⟩
  obtain ⟨T7, h7, X7, e7, W7, st7⟩ := stI X5 hx hZ e5 zA7 (j := (1 : Int32)) hin7 (g := (mkF m 129 #[rv a1, iv i, iv ln] [(.int i), (.int 1), (.ref ax)])) rfl rfl (hb hby d1_129)
  have N7 := Fr.snoc X7 N0 g_ax
  have f8 : Arv Z h7 ax kx .int (64 : Int32) [(.int x0), (.int i)] (.int (0 : Int32)) := Arv.set zA7 zq7 zS7 zN7 zH7 zG7 rfl W7 1 rfl (Nat.le_of_ble_eq_true rfl)
  refine go_st (fun t k => st7 t k) ?_
  refine go_st (fun t k => XS.aloadN X7.here hx rfl (hb hby d1_130) rfl rfl k) ?_
  show Go _ _ _ _ (T7.setTop (mkF m 131 #[rv a1, iv i, iv ln] [(.ref a1)]))
  have f9 : Fld Z h7 a1 cBE "lines" "[I" (.ref al) := (H2.other W7 (Or.inl ne_a1_ax))
  obtain ⟨T10, X10, e10, st10⟩ := getF X7 hx hZ hown (host := "") (Or.inl (w17 hw)) Via.refl e7 f9 (g := (mkF m 131 #[rv a1, iv i, iv ln] [(.ref a1)])) rfl rfl (hb hby d1_131)
  refine go_st (fun t k => st10 t k) ?_
  refine go_st (fun t k => XS.aloadN X10.here hx rfl (hb hby d1_134) rfl rfl k) ?_
  show Go _ _ _ _ (T10.setTop (mkF m 135 #[rv a1, iv i, iv ln] [(.ref a1), (.ref al)]))
  have f11 : Fld Z h7 a1 cBE "count" "I" (.int 1) := (H4.other W7 (Or.inl ne_a1_ax))
  obtain ⟨T12, X12, e12, st12⟩ := getF X10 hx hZ hown (host := "") (Or.inl (w24 hw)) Via.refl e10 f11 (g := (mkF m 135 #[rv a1, iv i, iv ln] [(.ref a1), (.ref al)])) rfl rfl (hb hby d1_135)
  refine go_st (fun t k => st12 t k) ?_
  refine go_st (fun t k => XS.iloadN X12.here hx rfl (hb hby d1_138) rfl k) ?_
  show Go _ _ _ _ (T12.setTop (mkF m 139 #[rv a1, iv i, iv ln] [(.int ln), (.int 1), (.ref al)]))
  have f13 : Arv Z h7 al kl .int (64 : Int32) [(.int l0)] (.int (0 : Int32)) := (H6.other W7 (Ne.symm ne_ax_al))
  have f14 : Arv Z h7 al kl .int (64 : Int32) [(.int l0), (.int 0)] (.int (0 : Int32)) := f13.pad (pad_rep [(.int l0)] (.int 0) 1)
  obtain ⟨zc15, zA15, zq15, zS15, zN15, zH15, zG15⟩ := id f14
  have hin15 : ¬ ((1 : Int32) < 0 ∨ zc15.slots.size ≤ ((1 : Int32)).toNatClampNeg) := inb_of zS15 ⟨by decide, by decide⟩
  obtain ⟨T15, h15, X15, e15, W15, st15⟩ := stI X12 hx hZ e12 zA15 (j := (1 : Int32)) hin15 (g := (mkF m 139 #[rv a1, iv i, iv ln] [(.int ln), (.int 1), (.ref al)])) rfl rfl (hb hby d1_139)
  have N15 := Fr.snoc X15 N7 g_al
  have f16 : Arv Z h15 al kl .int (64 : Int32) [(.int l0), (.int ln)] (.int (0 : Int32)) := Arv.set zA15 zq15 zS15 zN15 zH15 zG15 rfl W15 1 rfl (Nat.le_of_ble_eq_true rfl)
  refine go_st (fun t k => st15 t k) ?_
  refine go_st (fun t k => XS.aloadN X15.here hx rfl (hb hby d1_140) rfl rfl k) ?_
  refine go_st (fun t k => XS.dup X15.here hx rfl (hb hby d1_141) rfl rfl k) ?_
  show Go _ _ _ _ (T15.setTop (mkF m 142 #[rv a1, iv i, iv ln] [(.ref a1), (.ref a1)]))
  have f17 : Fld Z h15 a1 cBE "count" "I" (.int 1) := (f11.other W15 (Or.inl ne_a1_al))
  obtain ⟨T18, X18, e18, st18⟩ := getF X15 hx hZ hown (host := "") (Or.inl (w24 hw)) Via.refl e15 f17 (g := (mkF m 142 #[rv a1, iv i, iv ln] [(.ref a1), (.ref a1)])) rfl rfl (hb hby d1_142)
  refine go_st (fun t k => st18 t k) ?_
  refine go_st (fun t k => XS.iconst X18.here hx rfl (hb hby d1_145) k) ?_
  show Go _ _ _ _ (T18.setTop (mkF m 146 #[rv a1, iv i, iv ln] [(.int 1), (.int 1), (.ref a1)]))
  refine go_st (fun t k => XS.iadd X18.here hx rfl (hb hby d1_146) rfl k) ?_
  rw [show ((1 : Int32) + (1 : Int32)) = (2 : Int32) from by decide]
  show Go _ _ _ _ (T18.setTop (mkF m 147 #[rv a1, iv i, iv ln] [(.int 2), (.ref a1)]))
  have f19 : Exa Z h15 a1 cBE := ((H0.wr W7).wr W15)
  obtain ⟨T20, h20, X20, e20, W20, st20⟩ := putF X18 hx hZ hown (host := "") (Or.inl (w24 hw)) Via.refl e18 f17 f19 (Or.inl (w25 hw)) (w6 hw) (ty := .int) (by decide) rfl rfl (g := (mkF m 147 #[rv a1, iv i, iv ln] [(.int 2), (.ref a1)])) rfl rfl (hb hby d1_147)
  have N20 := Fr.snoc X20 N15 g_a1
  have f21 : Fld Z h20 a1 cBE "count" "I" (.int 2) := f17.same W20
  refine go_st (fun t k => st20 t k) ?_
  show Go _ _ _ _ (T20.setTop (mkF m 150 #[rv a1, iv i, iv ln] []))
  have f22 : Exa Z h20 a1 cBE := (f19.wr W20)
  have f23 : Fld Z h20 a1 cBE "indexes" "[I" (.ref ax) := (((H1.other W7 (Or.inl ne_a1_ax)).other W15 (Or.inl ne_a1_al)).other W20 (Or.inr (slot_ne (Or.inl (w16 hw)) (Or.inl (w25 hw)) (by decide) (t := (.array .int)) (t' := .int) (by decide) (by decide))))
  have f24 : Fld Z h20 a1 cBE "lines" "[I" (.ref al) := ((f9.other W15 (Or.inl ne_a1_al)).other W20 (Or.inr (slot_ne (Or.inl (w18 hw)) (Or.inl (w25 hw)) (by decide) (t := (.array .int)) (t' := .int) (by decide) (by decide))))
  have f25 : Fld Z h20 a1 cBE "first" "I" (.int 0) := (((H3.other W7 (Or.inl ne_a1_ax)).other W15 (Or.inl ne_a1_al)).other W20 (Or.inr (slot_ne (Or.inl (w32 hw)) (Or.inl (w25 hw)) (by decide) (t := .int) (t' := .int) (by decide) (by decide))))
  have f26 : Arv Z h20 ax kx .int (64 : Int32) [(.int x0), (.int i)] (.int (0 : Int32)) := ((f8.other W15 ne_ax_al).other W20 (Ne.symm ne_a1_ax))
  have f27 : Arv Z h20 al kl .int (64 : Int32) [(.int l0), (.int ln)] (.int (0 : Int32)) := (f16.other W20 (Ne.symm ne_a1_al))
  have ke28 : Keep h0 h7 [a1, ax, al] := (Keep.wr (Keep.refl h0 [a1, ax, al]) W7 (Or.inl (List.mem_of_getElem? (i := 1) rfl)))
  have ke29 : Keep h0 h15 [a1, ax, al] := (Keep.wr ke28 W15 (Or.inl (List.mem_of_getElem? (i := 2) rfl)))
  have ke30 : Keep h0 h20 [a1, ax, al] := (Keep.wr ke29 W20 (Or.inl (List.mem_of_getElem? (i := 0) rfl)))
  obtain ⟨fs, hr, hrun, hended, hW, hsame⟩ := X20.leave (v := none) (fun _ => rfl)
  refine ⟨_, _, ?_, hrun, hended, _, _, rfl, ?_, ⟨_, rfl⟩, hW, hsame.mono (by decide) (by decide)⟩
  · exact X20.returnOut hx Bd.returns (hb hby d1_150) hr
  · show Q_note1 _ _ _ _ _ _ _ _ _ _ _ _ _ T20.heap _
    rw [e20]
    exact ⟨rfl, N20, ke30, f22, f23, f24, f25, f21, f26, f27⟩
def Q_note2 (Z : State) (a1 : Addr) (ax : Addr) (al : Addr) (kx : ClassId) (kl : ClassId) (i : Int32) (ln : Int32) (x0 : Int32) (x1 : Int32) (l0 : Int32) (l1 : Int32) (h0 : Heap) (n0 : Nat) (vR : Option Value) (h : Heap) (L : List Loc) : Prop := vR = none ∧ Fr n0 L ∧ Keep h0 h [a1, ax, al] ∧ (Exa Z h a1 cBE) ∧ (Fld Z h a1 cBE "indexes" "[I" (.ref ax)) ∧ (Fld Z h a1 cBE "lines" "[I" (.ref al)) ∧ (Fld Z h a1 cBE "first" "I" (.int 0)) ∧ (Fld Z h a1 cBE "count" "I" (.int 3)) ∧ (Arv Z h ax kx .int (64 : Int32) [(.int x0), (.int x1), (.int i)] (.int (0 : Int32))) ∧ (Arv Z h al kl .int (64 : Int32) [(.int l0), (.int l1), (.int ln)] (.int (0 : Int32)))
theorem ef_note2 (m : MethodId) (x0 : Addr) (x1 : Int32) (x2 : Int32) : entryFrame m #[(.ref x0), (.int x1), (.int x2)] 3 = mkF m 0 #[.val (.ref x0), .val (.int x1), .val (.int x2)] [] := by first | (simp [entryFrame, mkF, argsToLocals, Value.category]; done) | rfl
set_option maxRecDepth 65536 in
set_option maxHeartbeats 40000000 in
theorem rm_note2 (l : Launch) (Z : State) (a0 : Array Value) (hw : ∀ d ∈ tables_1, d.before a0 Z = true) (ws : List Jvm.Cond) (a1 : Addr) (ax : Addr) (al : Addr) (kx : ClassId) (kl : ClassId) (i : Int32) (ln : Int32) (x0 : Int32) (x1 : Int32) (l0 : Int32) (l1 : Int32) (h0 : Heap) (n0 : Nat) (Z0 : n0 ≤ h0.size) (H0 : Exa Z h0 a1 cBE) (H1 : Fld Z h0 a1 cBE "indexes" "[I" (.ref ax)) (H2 : Fld Z h0 a1 cBE "lines" "[I" (.ref al)) (H3 : Fld Z h0 a1 cBE "first" "I" (.int 0)) (H4 : Fld Z h0 a1 cBE "count" "I" (.int 2)) (H5 : Arv Z h0 ax kx .int (64 : Int32) [(.int x0), (.int x1)] (.int (0 : Int32))) (H6 : Arv Z h0 al kl .int (64 : Int32) [(.int l0), (.int l1)] (.int (0 : Int32))) (ne_a1_ax : a1 ≠ ax) (ne_a1_al : a1 ≠ al) (ne_ax_al : ax ≠ al) (g_a1 : n0 ≤ a1) (g_ax : n0 ≤ ax) (g_al : n0 ≤ al) :
    MetFree l (⟨"com/example/nudge/nudge/tree/BlockEntries", "note", "(II)V"⟩ : MethodName) (head1 (Jvm.Cond.code (⟨"com/example/nudge/nudge/tree/BlockEntries", "note", "(II)V"⟩ : MethodName) prog_17_method_2_code 3 none :: ws) ({ frames := 0, cells := 0, slots := 0, locals := 0 } : Room)) (fun a U => a = #[(.ref a1), (.int i), (.int ln)] ∧ Z.Warmed39 U.vm ∧ U.heap = h0) (fun _ _ _ _ _ => True) (fun _ U o U' => ∃ v L, o = .returned v ∧ Q_note2 Z a1 ax al kx kl i ln x0 x1 l0 l1 h0 n0 v U'.heap L ∧ FrameEnd U o U' L ({ frames := 0, cells := 0, slots := 0, locals := 0 } : Room).cells ({ frames := 0, cells := 0, slots := 0, locals := 0 } : Room).slots) := by
  refine MetFree.of_bodySF (plainFor_of_name pn_com_example_nudge_nudge_tree_BlockEntries) hisR ?_
  intro p e s m args below meth c s₁ Bd hml0 hP hK
  obtain ⟨rfl, hZ, hh⟩ := hP
  have hx := Bd.exec
  have hby := Bd.bytes
  have hml : c.maxLocals = 3 := hml0
  have hown : s.vm.findClass "com/example/nudge/nudge/tree/BlockEntries" = some m.cls := findClass_of_methodNamed Bd.named
  have hnm := (name_of_methodNamed Bd.named Bd.method).1
  have X0 : Stand p l e ({ frames := 0, cells := 0, slots := 0, locals := 0 } : Room) s m #[(.ref a1), (.int i), (.int ln)] below meth c s₁ [] 0 0 := Stand.of_body Bd
  have e0 : s₁.heap = h0 := by rw [← hh, Bd.state]; rfl
  have N0 := Fr.nil n0
  refine go_st (fun t k => castTop (ef_note2 m a1 i ln) k) ?_
  show Go _ _ _ _ (s₁.setTop (mkF m 0 #[rv a1, iv i, iv ln] []))
  refine go_st (fun t k => XS.aloadN X0.here hx rfl (hb hby d1_0) rfl rfl k) ?_
  show Go _ _ _ _ (s₁.setTop (mkF m 1 #[rv a1, iv i, iv ln] [(.ref a1)]))
  obtain ⟨T1, X1, e1, st1⟩ := getF X0 hx hZ hown (host := "") (Or.inl (w24 hw)) Via.refl e0 H4 (g := (mkF m 1 #[rv a1, iv i, iv ln] [(.ref a1)])) rfl rfl (hb hby d1_1)
  refine go_st (fun t k => st1 t k) ?_
  refine go_st (fun t k => XS.aloadN X1.here hx rfl (hb hby d1_4) rfl rfl k) ?_
  show Go _ _ _ _ (T1.setTop (mkF m 5 #[rv a1, iv i, iv ln] [(.ref a1), (.int 2)]))
  obtain ⟨T2, X2, e2, st2⟩ := getF X1 hx hZ hown (host := "") (Or.inl (w15 hw)) Via.refl e1 H1 (g := (mkF m 5 #[rv a1, iv i, iv ln] [(.ref a1), (.int 2)])) rfl rfl (hb hby d1_5)
  refine go_st (fun t k => st2 t k) ?_
  show Go _ _ _ _ (T2.setTop (mkF m 8 #[rv a1, iv i, iv ln] [(.ref ax), (.int 2)]))
  obtain ⟨zc3, zA3, zq3, zS3, zN3, zH3, zG3⟩ := id H5
  refine go_st (fun t k => X2.arraylength hx (by rw [e2]; exact zA3.1) (State.isArrayOf_alike hZ.alike zA3.2.1) (g := (mkF m 8 #[rv a1, iv i, iv ln] [(.ref ax), (.int 2)])) rfl rfl (hb hby d1_8) t k) ?_
  rw [len_of zS3 zN3]
  show Go _ _ _ _ (T2.setTop (mkF m 9 #[rv a1, iv i, iv ln] [(.int 64), (.int 2)]))
  refine go_st (fun t k => XS.icmpYes X2.here hx rfl (pc0 := 9) (pc' := 120) rfl (hb hby d1_9) rfl (feq ((by decide) : ¬ ((2 : Int32) = (64 : Int32)))).2 (by decide) (by decide) k) ?_
  show Go _ _ _ _ (T2.setTop (mkF m 120 #[rv a1, iv i, iv ln] []))
  refine go_st (fun t k => XS.aloadN X2.here hx rfl (hb hby d1_120) rfl rfl k) ?_
  show Go _ _ _ _ (T2.setTop (mkF m 121 #[rv a1, iv i, iv ln] [(.ref a1)]))
  obtain ⟨T4, X4, e4, st4⟩ := getF X2 hx hZ hown (host := "") (Or.inl (w15 hw)) Via.refl e2 H1 (g := (mkF m 121 #[rv a1, iv i, iv ln] [(.ref a1)])) rfl rfl (hb hby d1_121)
  refine go_st (fun t k => st4 t k) ?_
  refine go_st (fun t k => XS.aloadN X4.here hx rfl (hb hby d1_124) rfl rfl k) ?_
  show Go _ _ _ _ (T4.setTop (mkF m 125 #[rv a1, iv i, iv ln] [(.ref a1), (.ref ax)]))
  obtain ⟨T5, X5, e5, st5⟩ := getF X4 hx hZ hown (host := "") (Or.inl (w24 hw)) Via.refl e4 H4 (g := (mkF m 125 #[rv a1, iv i, iv ln] [(.ref a1), (.ref ax)])) rfl rfl (hb hby d1_125)
  refine go_st (fun t k => st5 t k) ?_
  refine go_st (fun t k => XS.iloadN X5.here hx rfl (hb hby d1_128) rfl k) ?_
  show Go _ _ _ _ (T5.setTop (mkF m 129 #[rv a1, iv i, iv ln] [(.int i), (.int 2), (.ref ax)]))
  have f6 : Arv Z h0 ax kx .int (64 : Int32) [(.int x0), (.int x1), (.int 0)] (.int (0 : Int32)) := H5.pad (pad_rep [(.int x0), (.int x1)] (.int 0) 1)
  obtain ⟨zc7, zA7, zq7, zS7, zN7, zH7, zG7⟩ := id f6
  have hin7 : ¬ ((2 : Int32) < 0 ∨ zc7.slots.size ≤ ((2 : Int32)).toNatClampNeg) := inb_of zS7 ⟨by decide, by decide⟩
  obtain ⟨T7, h7, X7, e7, W7, st7⟩ := stI X5 hx hZ e5 zA7 (j := (2 : Int32)) hin7 (g := (mkF m 129 #[rv a1, iv i, iv ln] [(.int i), (.int 2), (.ref ax)])) rfl rfl (hb hby d1_129)
  have N7 := Fr.snoc X7 N0 g_ax
  have f8 : Arv Z h7 ax kx .int (64 : Int32) [(.int x0), (.int x1), (.int i)] (.int (0 : Int32)) := Arv.set zA7 zq7 zS7 zN7 zH7 zG7 rfl W7 2 rfl (Nat.le_of_ble_eq_true rfl)
  refine go_st (fun t k => st7 t k) ?_
  refine go_st (fun t k => XS.aloadN X7.here hx rfl (hb hby d1_130) rfl rfl k) ?_
  show Go _ _ _ _ (T7.setTop (mkF m 131 #[rv a1, iv i, iv ln] [(.ref a1)]))
  have f9 : Fld Z h7 a1 cBE "lines" "[I" (.ref al) := (H2.other W7 (Or.inl ne_a1_ax))
  obtain ⟨T10, X10, e10, st10⟩ := getF X7 hx hZ hown (host := "") (Or.inl (w17 hw)) Via.refl e7 f9 (g := (mkF m 131 #[rv a1, iv i, iv ln] [(.ref a1)])) rfl rfl (hb hby d1_131)
  refine go_st (fun t k => st10 t k) ?_
  refine go_st (fun t k => XS.aloadN X10.here hx rfl (hb hby d1_134) rfl rfl k) ?_
  show Go _ _ _ _ (T10.setTop (mkF m 135 #[rv a1, iv i, iv ln] [(.ref a1), (.ref al)]))
  have f11 : Fld Z h7 a1 cBE "count" "I" (.int 2) := (H4.other W7 (Or.inl ne_a1_ax))
  obtain ⟨T12, X12, e12, st12⟩ := getF X10 hx hZ hown (host := "") (Or.inl (w24 hw)) Via.refl e10 f11 (g := (mkF m 135 #[rv a1, iv i, iv ln] [(.ref a1), (.ref al)])) rfl rfl (hb hby d1_135)
  refine go_st (fun t k => st12 t k) ?_
  refine go_st (fun t k => XS.iloadN X12.here hx rfl (hb hby d1_138) rfl k) ?_
  show Go _ _ _ _ (T12.setTop (mkF m 139 #[rv a1, iv i, iv ln] [(.int ln), (.int 2), (.ref al)]))
  have f13 : Arv Z h7 al kl .int (64 : Int32) [(.int l0), (.int l1)] (.int (0 : Int32)) := (H6.other W7 (Ne.symm ne_ax_al))
  have f14 : Arv Z h7 al kl .int (64 : Int32) [(.int l0), (.int l1), (.int 0)] (.int (0 : Int32)) := f13.pad (pad_rep [(.int l0), (.int l1)] (.int 0) 1)
  obtain ⟨zc15, zA15, zq15, zS15, zN15, zH15, zG15⟩ := id f14
  have hin15 : ¬ ((2 : Int32) < 0 ∨ zc15.slots.size ≤ ((2 : Int32)).toNatClampNeg) := inb_of zS15 ⟨by decide, by decide⟩
  obtain ⟨T15, h15, X15, e15, W15, st15⟩ := stI X12 hx hZ e12 zA15 (j := (2 : Int32)) hin15 (g := (mkF m 139 #[rv a1, iv i, iv ln] [(.int ln), (.int 2), (.ref al)])) rfl rfl (hb hby d1_139)
  have N15 := Fr.snoc X15 N7 g_al
  have f16 : Arv Z h15 al kl .int (64 : Int32) [(.int l0), (.int l1), (.int ln)] (.int (0 : Int32)) := Arv.set zA15 zq15 zS15 zN15 zH15 zG15 rfl W15 2 rfl (Nat.le_of_ble_eq_true rfl)
  refine go_st (fun t k => st15 t k) ?_
  refine go_st (fun t k => XS.aloadN X15.here hx rfl (hb hby d1_140) rfl rfl k) ?_
  refine go_st (fun t k => XS.dup X15.here hx rfl (hb hby d1_141) rfl rfl k) ?_
  show Go _ _ _ _ (T15.setTop (mkF m 142 #[rv a1, iv i, iv ln] [(.ref a1), (.ref a1)]))
  have f17 : Fld Z h15 a1 cBE "count" "I" (.int 2) := (f11.other W15 (Or.inl ne_a1_al))
  obtain ⟨T18, X18, e18, st18⟩ := getF X15 hx hZ hown (host := "") (Or.inl (w24 hw)) Via.refl e15 f17 (g := (mkF m 142 #[rv a1, iv i, iv ln] [(.ref a1), (.ref a1)])) rfl rfl (hb hby d1_142)
  refine go_st (fun t k => st18 t k) ?_
  refine go_st (fun t k => XS.iconst X18.here hx rfl (hb hby d1_145) k) ?_
  show Go _ _ _ _ (T18.setTop (mkF m 146 #[rv a1, iv i, iv ln] [(.int 1), (.int 2), (.ref a1)]))
  refine go_st (fun t k => XS.iadd X18.here hx rfl (hb hby d1_146) rfl k) ?_
  rw [show ((2 : Int32) + (1 : Int32)) = (3 : Int32) from by decide]
  show Go _ _ _ _ (T18.setTop (mkF m 147 #[rv a1, iv i, iv ln] [(.int 3), (.ref a1)]))
  have f19 : Exa Z h15 a1 cBE := ((H0.wr W7).wr W15)
  obtain ⟨T20, h20, X20, e20, W20, st20⟩ := putF X18 hx hZ hown (host := "") (Or.inl (w24 hw)) Via.refl e18 f17 f19 (Or.inl (w25 hw)) (w6 hw) (ty := .int) (by decide) rfl rfl (g := (mkF m 147 #[rv a1, iv i, iv ln] [(.int 3), (.ref a1)])) rfl rfl (hb hby d1_147)
  have N20 := Fr.snoc X20 N15 g_a1
  have f21 : Fld Z h20 a1 cBE "count" "I" (.int 3) := f17.same W20
  refine go_st (fun t k => st20 t k) ?_
  show Go _ _ _ _ (T20.setTop (mkF m 150 #[rv a1, iv i, iv ln] []))
  have f22 : Exa Z h20 a1 cBE := (f19.wr W20)
  have f23 : Fld Z h20 a1 cBE "indexes" "[I" (.ref ax) := (((H1.other W7 (Or.inl ne_a1_ax)).other W15 (Or.inl ne_a1_al)).other W20 (Or.inr (slot_ne (Or.inl (w16 hw)) (Or.inl (w25 hw)) (by decide) (t := (.array .int)) (t' := .int) (by decide) (by decide))))
  have f24 : Fld Z h20 a1 cBE "lines" "[I" (.ref al) := ((f9.other W15 (Or.inl ne_a1_al)).other W20 (Or.inr (slot_ne (Or.inl (w18 hw)) (Or.inl (w25 hw)) (by decide) (t := (.array .int)) (t' := .int) (by decide) (by decide))))
  have f25 : Fld Z h20 a1 cBE "first" "I" (.int 0) := (((H3.other W7 (Or.inl ne_a1_ax)).other W15 (Or.inl ne_a1_al)).other W20 (Or.inr (slot_ne (Or.inl (w32 hw)) (Or.inl (w25 hw)) (by decide) (t := .int) (t' := .int) (by decide) (by decide))))
  have f26 : Arv Z h20 ax kx .int (64 : Int32) [(.int x0), (.int x1), (.int i)] (.int (0 : Int32)) := ((f8.other W15 ne_ax_al).other W20 (Ne.symm ne_a1_ax))
  have f27 : Arv Z h20 al kl .int (64 : Int32) [(.int l0), (.int l1), (.int ln)] (.int (0 : Int32)) := (f16.other W20 (Ne.symm ne_a1_al))
  have ke28 : Keep h0 h7 [a1, ax, al] := (Keep.wr (Keep.refl h0 [a1, ax, al]) W7 (Or.inl (List.mem_of_getElem? (i := 1) rfl)))
  have ke29 : Keep h0 h15 [a1, ax, al] := (Keep.wr ke28 W15 (Or.inl (List.mem_of_getElem? (i := 2) rfl)))
  have ke30 : Keep h0 h20 [a1, ax, al] := (Keep.wr ke29 W20 (Or.inl (List.mem_of_getElem? (i := 0) rfl)))
  obtain ⟨fs, hr, hrun, hended, hW, hsame⟩ := X20.leave (v := none) (fun _ => rfl)
  refine ⟨_, _, ?_, hrun, hended, _, _, rfl, ?_, ⟨_, rfl⟩, hW, hsame.mono (by decide) (by decide)⟩
  · exact X20.returnOut hx Bd.returns (hb hby d1_150) hr
  · show Q_note2 _ _ _ _ _ _ _ _ _ _ _ _ _ _ _ T20.heap _
    rw [e20]
    exact ⟨rfl, N20, ke30, f22, f23, f24, f25, f21, f26, f27⟩
def Q_rc_00 (Z : State)  (h0 : Heap) (n0 : Nat) (vR : Option Value) (h : Heap) (L : List Loc) : Prop := vR = none ∧ Fr n0 L ∧ h = h0
theorem ef_rc_00 (m : MethodId) (x0 : Int32) (x1 : Int32) (x2 : Int32) : entryFrame m #[(.int x0), (.int x1), (.int x2)] 3 = mkF m 0 #[.val (.int x0), .val (.int x1), .val (.int x2)] [] := by first | (simp [entryFrame, mkF, argsToLocals, Value.category]; done) | rfl
set_option maxRecDepth 65536 in
set_option maxHeartbeats 40000000 in
theorem rm_rc_00 (l : Launch) (Z : State) (a0 : Array Value) (hw : ∀ d ∈ tables_1, d.before a0 Z = true) (ws : List Jvm.Cond)  (h0 : Heap) (n0 : Nat) (Z0 : n0 ≤ h0.size)  :
    MetFree l (⟨"java/util/Arrays", "rangeCheck", "(III)V"⟩ : MethodName) (head1 (Jvm.Cond.code (⟨"java/util/Arrays", "rangeCheck", "(III)V"⟩ : MethodName) jdk_65_method_30_code 3 none :: ws) ({ frames := 0, cells := 0, slots := 0, locals := 0 } : Room)) (fun a U => a = #[(.int 64), (.int 0), (.int 0)] ∧ Z.Warmed39 U.vm ∧ U.heap = h0) (fun _ _ _ _ _ => True) (fun _ U o U' => ∃ v L, o = .returned v ∧ Q_rc_00 Z h0 n0 v U'.heap L ∧ FrameEnd U o U' L ({ frames := 0, cells := 0, slots := 0, locals := 0 } : Room).cells ({ frames := 0, cells := 0, slots := 0, locals := 0 } : Room).slots) := by
  refine MetFree.of_bodySF (plainFor_of_name pn_java_util_Arrays) hisR ?_
  intro p e s m args below meth c s₁ Bd hml0 hP hK
  obtain ⟨rfl, hZ, hh⟩ := hP
  have hx := Bd.exec
  have hby := Bd.bytes
  have hml : c.maxLocals = 3 := hml0
  have hown : s.vm.findClass "java/util/Arrays" = some m.cls := findClass_of_methodNamed Bd.named
  have hnm := (name_of_methodNamed Bd.named Bd.method).1
  have X0 : Stand p l e ({ frames := 0, cells := 0, slots := 0, locals := 0 } : Room) s m #[(.int 64), (.int 0), (.int 0)] below meth c s₁ [] 0 0 := Stand.of_body Bd
  have e0 : s₁.heap = h0 := by rw [← hh, Bd.state]; rfl
  have N0 := Fr.nil n0
  refine go_st (fun t k => castTop (ef_rc_00 m (64 : Int32) (0 : Int32) (0 : Int32)) k) ?_
  show Go _ _ _ _ (s₁.setTop (mkF m 0 #[iv 64, iv 0, iv 0] []))
  refine go_st (fun t k => XS.iloadN X0.here hx rfl (hb hby d2_0) rfl k) ?_
  refine go_st (fun t k => XS.iloadN X0.here hx rfl (hb hby d2_1) rfl k) ?_
  show Go _ _ _ _ (s₁.setTop (mkF m 2 #[iv 64, iv 0, iv 0] [(.int 0), (.int 0)]))
  refine go_st (fun t k => XS.icmpYes X0.here hx rfl (pc0 := 2) (pc' := 46) rfl (hb hby d2_2) rfl (flt ((by decide) : ¬ ((0 : Int32) < (0 : Int32)))).2.2.2 (by decide) (by decide) k) ?_
  show Go _ _ _ _ (s₁.setTop (mkF m 46 #[iv 64, iv 0, iv 0] []))
  refine go_st (fun t k => XS.iloadN X0.here hx rfl (hb hby d2_46) rfl k) ?_
  show Go _ _ _ _ (s₁.setTop (mkF m 47 #[iv 64, iv 0, iv 0] [(.int 0)]))
  refine go_st (fun t k => XS.ifYes X0.here hx rfl (pc0 := 47) (pc' := 59) rfl (hb hby d2_47) rfl ((if0 _ _).trans (flt ((by decide) : ¬ ((0 : Int32) < (0 : Int32)))).2.1) (by decide) (by decide) k) ?_
  show Go _ _ _ _ (s₁.setTop (mkF m 59 #[iv 64, iv 0, iv 0] []))
  refine go_st (fun t k => XS.iloadN X0.here hx rfl (hb hby d2_59) rfl k) ?_
  refine go_st (fun t k => XS.iloadN X0.here hx rfl (hb hby d2_60) rfl k) ?_
  show Go _ _ _ _ (s₁.setTop (mkF m 61 #[iv 64, iv 0, iv 0] [(.int 64), (.int 0)]))
  refine go_st (fun t k => XS.icmpYes X0.here hx rfl (pc0 := 61) (pc' := 73) rfl (hb hby d2_61) rfl (flt ((by decide) : ¬ ((64 : Int32) < (0 : Int32)))).2.2.2 (by decide) (by decide) k) ?_
  show Go _ _ _ _ (s₁.setTop (mkF m 73 #[iv 64, iv 0, iv 0] []))
  obtain ⟨fs, hr, hrun, hended, hW, hsame⟩ := X0.leave (v := none) (fun _ => rfl)
  refine ⟨_, _, ?_, hrun, hended, _, _, rfl, ?_, ⟨_, rfl⟩, hW, hsame.mono (by decide) (by decide)⟩
  · exact X0.returnOut hx Bd.returns (hb hby d2_73) hr
  · show Q_rc_00 _ _ _ _ s₁.heap _
    rw [e0]
    exact ⟨rfl, N0, rfl⟩
def Q_bs0_000 (Z : State) (ax : Addr) (kx : ClassId) (key : Int32) (h0 : Heap) (n0 : Nat) (vR : Option Value) (h : Heap) (L : List Loc) : Prop := ∃ (r : Int32), vR = some (.int r) ∧ Fr n0 L ∧ h = h0 ∧ (r = (0 : Int32) ∨ r = (-1 : Int32))
theorem ef_bs0_000 (m : MethodId) (x0 : Addr) (x1 : Int32) (x2 : Int32) (x3 : Int32) : entryFrame m #[(.ref x0), (.int x1), (.int x2), (.int x3)] 8 = mkF m 0 #[.val (.ref x0), .val (.int x1), .val (.int x2), .val (.int x3), .unset, .unset, .unset, .unset] [] := by first | (simp [entryFrame, mkF, argsToLocals, Value.category]; done) | rfl
set_option maxRecDepth 65536 in
set_option maxHeartbeats 40000000 in
theorem rm_bs0_000 (l : Launch) (Z : State) (a0 : Array Value) (hw : ∀ d ∈ tables_1, d.before a0 Z = true) (ws : List Jvm.Cond) (ax : Addr) (kx : ClassId) (key : Int32) (h0 : Heap) (n0 : Nat) (Z0 : n0 ≤ h0.size) (H0 : Arv Z h0 ax kx .int (64 : Int32) [] (.int (0 : Int32))) :
    MetFree l (⟨"java/util/Arrays", "binarySearch0", "([IIII)I"⟩ : MethodName) (head1 (Jvm.Cond.code (⟨"java/util/Arrays", "binarySearch0", "([IIII)I"⟩ : MethodName) jdk_65_method_59_code 8 (some .int) :: ws) ({ frames := 0, cells := 0, slots := 0, locals := 0 } : Room)) (fun a U => a = #[(.ref ax), (.int 0), (.int 0), (.int key)] ∧ Z.Warmed39 U.vm ∧ U.heap = h0) (fun _ _ _ _ _ => True) (fun _ U o U' => ∃ v L, o = .returned v ∧ Q_bs0_000 Z ax kx key h0 n0 v U'.heap L ∧ FrameEnd U o U' L ({ frames := 0, cells := 0, slots := 0, locals := 0 } : Room).cells ({ frames := 0, cells := 0, slots := 0, locals := 0 } : Room).slots) := by
  refine MetFree.of_bodySF (plainFor_of_name pn_java_util_Arrays) hisR ?_
  intro p e s m args below meth c s₁ Bd hml0 hP hK
  obtain ⟨rfl, hZ, hh⟩ := hP
  have hx := Bd.exec
  have hby := Bd.bytes
  have hml : c.maxLocals = 8 := hml0
  have hown : s.vm.findClass "java/util/Arrays" = some m.cls := findClass_of_methodNamed Bd.named
  have hnm := (name_of_methodNamed Bd.named Bd.method).1
  have X0 : Stand p l e ({ frames := 0, cells := 0, slots := 0, locals := 0 } : Room) s m #[(.ref ax), (.int 0), (.int 0), (.int key)] below meth c s₁ [] 0 0 := Stand.of_body Bd
  have e0 : s₁.heap = h0 := by rw [← hh, Bd.state]; rfl
  have N0 := Fr.nil n0
  refine go_st (fun t k => castTop (ef_bs0_000 m ax (0 : Int32) (0 : Int32) key) k) ?_
  show Go _ _ _ _ (s₁.setTop (mkF m 0 #[rv ax, iv 0, iv 0, iv key, .unset, .unset, .unset, .unset] []))
  refine go_st (fun t k => XS.iloadN X0.here hx rfl (hb hby d3_0) rfl k) ?_
  refine go_st (fun t k => XS.istore X0.here hx rfl (hb hby d3_1) rfl (l' := #[rv ax, iv 0, iv 0, iv key, iv 0, .unset, .unset, .unset]) rfl k) ?_
  refine go_st (fun t k => XS.iloadN X0.here hx rfl (hb hby d3_3) rfl k) ?_
  refine go_st (fun t k => XS.iconst X0.here hx rfl (hb hby d3_4) k) ?_
  show Go _ _ _ _ (s₁.setTop (mkF m 5 #[rv ax, iv 0, iv 0, iv key, iv 0, .unset, .unset, .unset] [(.int 1), (.int 0)]))
  refine go_st (fun t k => XS.isub X0.here hx rfl (hb hby d3_5) rfl k) ?_
  rw [show ((0 : Int32) - (1 : Int32)) = (-1 : Int32) from by decide]
  show Go _ _ _ _ (s₁.setTop (mkF m 6 #[rv ax, iv 0, iv 0, iv key, iv 0, .unset, .unset, .unset] [(.int (-1))]))
  refine go_st (fun t k => XS.istore X0.here hx rfl (hb hby d3_6) rfl (l' := #[rv ax, iv 0, iv 0, iv key, iv 0, iv (-1), .unset, .unset]) rfl k) ?_
  refine go_st (fun t k => XS.iload X0.here hx rfl (hb hby d3_8) rfl k) ?_
  refine go_st (fun t k => XS.iload X0.here hx rfl (hb hby d3_10) rfl k) ?_
  show Go _ _ _ _ (s₁.setTop (mkF m 12 #[rv ax, iv 0, iv 0, iv key, iv 0, iv (-1), .unset, .unset] [(.int (-1)), (.int 0)]))
  refine go_st (fun t k => XS.icmpYes X0.here hx rfl (pc0 := 12) (pc' := 66) rfl (hb hby d3_12) rfl (tlt ((by decide) : (-1 : Int32) < (0 : Int32))).2.2.1 (by decide) (by decide) k) ?_
  show Go _ _ _ _ (s₁.setTop (mkF m 66 #[rv ax, iv 0, iv 0, iv key, iv 0, iv (-1), .unset, .unset] []))
  refine go_st (fun t k => XS.iload X0.here hx rfl (hb hby d3_66) rfl k) ?_
  refine go_st (fun t k => XS.iconst X0.here hx rfl (hb hby d3_68) k) ?_
  show Go _ _ _ _ (s₁.setTop (mkF m 69 #[rv ax, iv 0, iv 0, iv key, iv 0, iv (-1), .unset, .unset] [(.int 1), (.int 0)]))
  refine go_st (fun t k => XS.iadd X0.here hx rfl (hb hby d3_69) rfl k) ?_
  rw [show ((0 : Int32) + (1 : Int32)) = (1 : Int32) from by decide]
  show Go _ _ _ _ (s₁.setTop (mkF m 70 #[rv ax, iv 0, iv 0, iv key, iv 0, iv (-1), .unset, .unset] [(.int 1)]))
  refine go_st (fun t k => XS.ineg X0.here hx rfl (hb hby d3_70) rfl k) ?_
  rw [show (-(1 : Int32)) = (-1 : Int32) from by decide]
  show Go _ _ _ _ (s₁.setTop (mkF m 71 #[rv ax, iv 0, iv 0, iv key, iv 0, iv (-1), .unset, .unset] [(.int (-1))]))
  obtain ⟨fs, hr, hrun, hended, hW, hsame⟩ := X0.leave (v := some (.int (-1))) (fun h => by rw [Bd.returns] at h; cases h)
  refine ⟨_, _, ?_, hrun, hended, _, _, rfl, ?_, ⟨_, rfl⟩, hW, hsame.mono (by decide) (by decide)⟩
  · exact retI X0 hx Bd.returns (hb hby d3_71) hr
  · show Q_bs0_000 _ _ _ _ _ _ _ s₁.heap _
    rw [e0]
    exact ⟨(-1 : Int32), rfl, N0, rfl, (Or.inr rfl)⟩
def Q_bs_000 (Z : State) (ax : Addr) (kx : ClassId) (key : Int32) (h0 : Heap) (n0 : Nat) (vR : Option Value) (h : Heap) (L : List Loc) : Prop := ∃ (r : Int32), vR = some (.int r) ∧ Fr n0 L ∧ h = h0 ∧ (r = (0 : Int32) ∨ r = (-1 : Int32))
theorem ef_bs_000 (m : MethodId) (x0 : Addr) (x1 : Int32) (x2 : Int32) (x3 : Int32) : entryFrame m #[(.ref x0), (.int x1), (.int x2), (.int x3)] 4 = mkF m 0 #[.val (.ref x0), .val (.int x1), .val (.int x2), .val (.int x3)] [] := by first | (simp [entryFrame, mkF, argsToLocals, Value.category]; done) | rfl
set_option maxRecDepth 65536 in
set_option maxHeartbeats 40000000 in
theorem rm_bs_000 (l : Launch) (Z : State) (a0 : Array Value) (hw : ∀ d ∈ tables_1, d.before a0 Z = true) (ws : List Jvm.Cond) (ax : Addr) (kx : ClassId) (key : Int32) (h0 : Heap) (n0 : Nat) (Z0 : n0 ≤ h0.size) (H0 : Arv Z h0 ax kx .int (64 : Int32) [] (.int (0 : Int32))) :
    MetFree l (⟨"java/util/Arrays", "binarySearch", "([IIII)I"⟩ : MethodName) (head1 (Jvm.Cond.code (⟨"java/util/Arrays", "binarySearch", "([IIII)I"⟩ : MethodName) jdk_65_method_58_code 4 (some .int) :: ws) ({ frames := 1, cells := 0, slots := 0, locals := 19 } : Room)) (fun a U => a = #[(.ref ax), (.int 0), (.int 0), (.int key)] ∧ Z.Warmed39 U.vm ∧ U.heap = h0) (fun _ _ _ _ _ => True) (fun _ U o U' => ∃ v L, o = .returned v ∧ Q_bs_000 Z ax kx key h0 n0 v U'.heap L ∧ FrameEnd U o U' L ({ frames := 1, cells := 0, slots := 0, locals := 19 } : Room).cells ({ frames := 1, cells := 0, slots := 0, locals := 19 } : Room).slots) := by
  refine MetFree.of_bodySF (plainFor_of_name pn_java_util_Arrays) hisR ?_
  intro p e s m args below meth c s₁ Bd hml0 hP hK
  obtain ⟨rfl, hZ, hh⟩ := hP
  have hx := Bd.exec
  have hby := Bd.bytes
  have hml : c.maxLocals = 4 := hml0
  have hown : s.vm.findClass "java/util/Arrays" = some m.cls := findClass_of_methodNamed Bd.named
  have hnm := (name_of_methodNamed Bd.named Bd.method).1
  have X0 : Stand p l e ({ frames := 1, cells := 0, slots := 0, locals := 19 } : Room) s m #[(.ref ax), (.int 0), (.int 0), (.int key)] below meth c s₁ [] 0 0 := Stand.of_body Bd
  have e0 : s₁.heap = h0 := by rw [← hh, Bd.state]; rfl
  have N0 := Fr.nil n0
  refine go_st (fun t k => castTop (ef_bs_000 m ax (0 : Int32) (0 : Int32) key) k) ?_
  show Go _ _ _ _ (s₁.setTop (mkF m 0 #[rv ax, iv 0, iv 0, iv key] []))
  refine go_st (fun t k => XS.aloadN X0.here hx rfl (hb hby d4_0) rfl rfl k) ?_
  show Go _ _ _ _ (s₁.setTop (mkF m 1 #[rv ax, iv 0, iv 0, iv key] [(.ref ax)]))
  obtain ⟨zc1, zA1, zq1, zS1, zN1, zH1, zG1⟩ := id H0
  refine go_st (fun t k => X0.arraylength hx (by rw [e0]; exact zA1.1) (State.isArrayOf_alike hZ.alike zA1.2.1) (g := (mkF m 1 #[rv ax, iv 0, iv 0, iv key] [(.ref ax)])) rfl rfl (hb hby d4_1) t k) ?_
  rw [len_of zS1 zN1]
  refine go_st (fun t k => XS.iloadN X0.here hx rfl (hb hby d4_2) rfl k) ?_
  refine go_st (fun t k => XS.iloadN X0.here hx rfl (hb hby d4_3) rfl k) ?_
  show Go _ _ _ _ (s₁.setTop (mkF m 4 #[rv ax, iv 0, iv 0, iv key] [(.int 0), (.int 0), (.int 64)]))
  obtain ⟨_, _, ⟨T2, L2, kk2, nn2⟩, -, X2, ⟨Lc2, hQ2, lq2, yq2, zq2⟩, st2⟩ := Jvm.LawKit.callS X0 hx (y := (⟨"java/util/Arrays", "rangeCheck", "(III)V"⟩ : MethodName)) hown (mvT hZ (w37 hw)) (mvT hZ (w38 hw)) (mvT hZ (w35 hw)) (mvT hZ (w39 hw)) (by decide) (backOf (W := 0) (rm_rc_00 l Z a0 hw []  h0 n0 (Nat.le_trans Z0 (Nat.le_refl _)) ) hZ (w39 hw) (w35 hw) (by decide) (by decide)) (g := (mkF m 4 #[rv ax, iv 0, iv 0, iv key] [(.int 0), (.int 0), (.int 64)])) rfl (by rw [hml]; rfl) (argsL := [(.int 64), (.int 0), (.int 0)]) (rest := []) (lenOf pd_0 rfl) rfl (by show 2 * 0 + _ ≤ _; exact Nat.le_of_eq rfl) (hb hby d4_4) (fun _ _ => ⟨rfl, e0, (by decide : 0 + 0 ≤ _), (by decide : 0 + 0 ≤ _)⟩)
  dsimp only [Pt.U, Pt.locs, Pt.cells, Pt.slots] at X2 lq2 yq2 zq2 st2 hQ2
  subst lq2 yq2 zq2
  obtain ⟨h2, e2⟩ : ∃ z, T2.heap = z := ⟨_, rfl⟩
  rw [e2] at hQ2
  obtain ⟨rfl, N2q, he2⟩ := hQ2
  have N2 := Fr.app N0 N2q
  rw [he2] at e2
  refine go_st st2 ?_
  show Go _ _ _ _ (T2.setTop (mkF m 7 #[rv ax, iv 0, iv 0, iv key] []))
  refine go_st (fun t k => XS.aloadN X2.here hx rfl (hb hby d4_7) rfl rfl k) ?_
  refine go_st (fun t k => XS.iloadN X2.here hx rfl (hb hby d4_8) rfl k) ?_
  refine go_st (fun t k => XS.iloadN X2.here hx rfl (hb hby d4_9) rfl k) ?_
  refine go_st (fun t k => XS.iloadN X2.here hx rfl (hb hby d4_10) rfl k) ?_
  show Go _ _ _ _ (T2.setTop (mkF m 11 #[rv ax, iv 0, iv 0, iv key] [(.int key), (.int 0), (.int 0), (.ref ax)]))
  obtain ⟨_, _, ⟨T3, L3, kk3, nn3⟩, -, X3, ⟨Lc3, hQ3, lq3, yq3, zq3⟩, st3⟩ := Jvm.LawKit.callS X2 hx (y := (⟨"java/util/Arrays", "binarySearch0", "([IIII)I"⟩ : MethodName)) hown (mvT hZ (w40 hw)) (mvT hZ (w41 hw)) (mvT hZ (w35 hw)) (mvT hZ (w42 hw)) (by decide) (backOf (W := 0) (rm_bs0_000 l Z a0 hw [] ax kx key h0 n0 (Nat.le_trans Z0 (Nat.le_refl _)) H0) hZ (w42 hw) (w35 hw) (by decide) (by decide)) (g := (mkF m 11 #[rv ax, iv 0, iv 0, iv key] [(.int key), (.int 0), (.int 0), (.ref ax)])) rfl (by rw [hml]; rfl) (argsL := [(.ref ax), (.int 0), (.int 0), (.int key)]) (rest := []) (lenOf pd_1 rfl) rfl (by show 2 * 0 + _ ≤ _; exact Nat.le_of_eq rfl) (hb hby d4_11) (fun _ _ => ⟨rfl, e2, (by decide : 0 + 0 ≤ _), (by decide : 0 + 0 ≤ _)⟩)
  dsimp only [Pt.U, Pt.locs, Pt.cells, Pt.slots] at X3 lq3 yq3 zq3 st3 hQ3
  subst lq3 yq3 zq3
  obtain ⟨h3, e3⟩ : ∃ z, T3.heap = z := ⟨_, rfl⟩
  rw [e3] at hQ3
  obtain ⟨r_3, rfl, N3q, he3, hres_3⟩ := hQ3
  have N3 := Fr.app N2 N3q
  rw [he3] at e3
  refine go_st st3 ?_
  show Go _ _ _ _ (T3.setTop (mkF m 14 #[rv ax, iv 0, iv 0, iv key] [(.int r_3)]))
  obtain ⟨fs, hr, hrun, hended, hW, hsame⟩ := X3.leave (v := some (.int r_3)) (fun h => by rw [Bd.returns] at h; cases h)
  refine ⟨_, _, ?_, hrun, hended, _, _, rfl, ?_, ⟨_, rfl⟩, hW, hsame.mono (by decide) (by decide)⟩
  · exact retI X3 hx Bd.returns (hb hby d4_14) hr
  · show Q_bs_000 _ _ _ _ _ _ _ T3.heap _
    rw [e3]
    exact ⟨r_3, rfl, N3, rfl, hres_3⟩
def Q_lb_000 (Z : State) (a1 : Addr) (ax : Addr) (al : Addr) (kx : ClassId) (kl : ClassId) (key : Int32) (line : Int32) (h0 : Heap) (n0 : Nat) (vR : Option Value) (h : Heap) (L : List Loc) : Prop := vR = some (.int line) ∧ Fr n0 L ∧ Keep h0 h [a1] ∧ (Exa Z h a1 cBE) ∧ (Fld Z h a1 cBE "indexes" "[I" (.ref ax)) ∧ (Fld Z h a1 cBE "lines" "[I" (.ref al)) ∧ (Fld Z h a1 cBE "first" "I" (.int 0)) ∧ (Fld Z h a1 cBE "count" "I" (.int 0)) ∧ (Arv Z h ax kx .int (64 : Int32) [] (.int (0 : Int32))) ∧ (Arv Z h al kl .int (64 : Int32) [] (.int (0 : Int32)))
theorem ef_lb_000 (m : MethodId) (x0 : Addr) (x1 : Int32) (x2 : Int32) : entryFrame m #[(.ref x0), (.int x1), (.int x2)] 6 = mkF m 0 #[.val (.ref x0), .val (.int x1), .val (.int x2), .unset, .unset, .unset] [] := by first | (simp [entryFrame, mkF, argsToLocals, Value.category]; done) | rfl
set_option maxRecDepth 65536 in
set_option maxHeartbeats 40000000 in
theorem rm_lb_000 (l : Launch) (Z : State) (a0 : Array Value) (hw : ∀ d ∈ tables_1, d.before a0 Z = true) (ws : List Jvm.Cond) (a1 : Addr) (ax : Addr) (al : Addr) (kx : ClassId) (kl : ClassId) (key : Int32) (line : Int32) (h0 : Heap) (n0 : Nat) (Z0 : n0 ≤ h0.size) (H0 : Exa Z h0 a1 cBE) (H1 : Fld Z h0 a1 cBE "indexes" "[I" (.ref ax)) (H2 : Fld Z h0 a1 cBE "lines" "[I" (.ref al)) (H3 : Fld Z h0 a1 cBE "first" "I" (.int 0)) (H4 : Fld Z h0 a1 cBE "count" "I" (.int 0)) (H5 : Arv Z h0 ax kx .int (64 : Int32) [] (.int (0 : Int32))) (H6 : Arv Z h0 al kl .int (64 : Int32) [] (.int (0 : Int32))) (ne_a1_ax : a1 ≠ ax) (ne_a1_al : a1 ≠ al) (ne_ax_al : ax ≠ al) (g_a1 : n0 ≤ a1) :
    MetFree l (⟨"com/example/nudge/nudge/tree/BlockEntries", "lineBefore", "(II)I"⟩ : MethodName) (head1 (Jvm.Cond.code (⟨"com/example/nudge/nudge/tree/BlockEntries", "lineBefore", "(II)I"⟩ : MethodName) prog_17_method_3_code 6 (some .int) :: ws) ({ frames := 2, cells := 0, slots := 0, locals := 34 } : Room)) (fun a U => a = #[(.ref a1), (.int key), (.int line)] ∧ Z.Warmed39 U.vm ∧ U.heap = h0) (fun _ _ _ _ _ => True) (fun _ U o U' => ∃ v L, o = .returned v ∧ Q_lb_000 Z a1 ax al kx kl key line h0 n0 v U'.heap L ∧ FrameEnd U o U' L ({ frames := 2, cells := 0, slots := 0, locals := 34 } : Room).cells ({ frames := 2, cells := 0, slots := 0, locals := 34 } : Room).slots) := by
  refine MetFree.of_bodySF (plainFor_of_name pn_com_example_nudge_nudge_tree_BlockEntries) hisR ?_
  intro p e s m args below meth c s₁ Bd hml0 hP hK
  obtain ⟨rfl, hZ, hh⟩ := hP
  have hx := Bd.exec
  have hby := Bd.bytes
  have hml : c.maxLocals = 6 := hml0
  have hown : s.vm.findClass "com/example/nudge/nudge/tree/BlockEntries" = some m.cls := findClass_of_methodNamed Bd.named
  have hnm := (name_of_methodNamed Bd.named Bd.method).1
  have X0 : Stand p l e ({ frames := 2, cells := 0, slots := 0, locals := 34 } : Room) s m #[(.ref a1), (.int key), (.int line)] below meth c s₁ [] 0 0 := Stand.of_body Bd
  have e0 : s₁.heap = h0 := by rw [← hh, Bd.state]; rfl
  have N0 := Fr.nil n0
  refine go_st (fun t k => castTop (ef_lb_000 m a1 key line) k) ?_
  show Go _ _ _ _ (s₁.setTop (mkF m 0 #[rv a1, iv key, iv line, .unset, .unset, .unset] []))
  refine go_st (fun t k => XS.aloadN X0.here hx rfl (hb hby d5_0) rfl rfl k) ?_
  show Go _ _ _ _ (s₁.setTop (mkF m 1 #[rv a1, iv key, iv line, .unset, .unset, .unset] [(.ref a1)]))
  obtain ⟨T1, X1, e1, st1⟩ := getF X0 hx hZ hown (host := "") (Or.inl (w15 hw)) Via.refl e0 H1 (g := (mkF m 1 #[rv a1, iv key, iv line, .unset, .unset, .unset] [(.ref a1)])) rfl rfl (hb hby d5_1)
  refine go_st (fun t k => st1 t k) ?_
  refine go_st (fun t k => XS.aloadN X1.here hx rfl (hb hby d5_4) rfl rfl k) ?_
  show Go _ _ _ _ (T1.setTop (mkF m 5 #[rv a1, iv key, iv line, .unset, .unset, .unset] [(.ref a1), (.ref ax)]))
  obtain ⟨T2, X2, e2, st2⟩ := getF X1 hx hZ hown (host := "") (Or.inl (w31 hw)) Via.refl e1 H3 (g := (mkF m 5 #[rv a1, iv key, iv line, .unset, .unset, .unset] [(.ref a1), (.ref ax)])) rfl rfl (hb hby d5_5)
  refine go_st (fun t k => st2 t k) ?_
  refine go_st (fun t k => XS.aloadN X2.here hx rfl (hb hby d5_8) rfl rfl k) ?_
  show Go _ _ _ _ (T2.setTop (mkF m 9 #[rv a1, iv key, iv line, .unset, .unset, .unset] [(.ref a1), (.int 0), (.ref ax)]))
  obtain ⟨T3, X3, e3, st3⟩ := getF X2 hx hZ hown (host := "") (Or.inl (w24 hw)) Via.refl e2 H4 (g := (mkF m 9 #[rv a1, iv key, iv line, .unset, .unset, .unset] [(.ref a1), (.int 0), (.ref ax)])) rfl rfl (hb hby d5_9)
  refine go_st (fun t k => st3 t k) ?_
  refine go_st (fun t k => XS.iloadN X3.here hx rfl (hb hby d5_12) rfl k) ?_
  show Go _ _ _ _ (T3.setTop (mkF m 13 #[rv a1, iv key, iv line, .unset, .unset, .unset] [(.int key), (.int 0), (.int 0), (.ref ax)]))
  obtain ⟨_, _, ⟨T4, L4, kk4, nn4⟩, -, X4, ⟨Lc4, hQ4, lq4, yq4, zq4⟩, st4⟩ := Jvm.LawKit.callS X3 hx (y := (⟨"java/util/Arrays", "binarySearch", "([IIII)I"⟩ : MethodName)) hown (mvT hZ (w33 hw)) (mvT hZ (w34 hw)) (mvT hZ (w35 hw)) (mvT hZ (w36 hw)) (by decide) (backOf (W := 0) (rm_bs_000 l Z a0 hw [] ax kx key h0 n0 (Nat.le_trans Z0 (Nat.le_refl _)) H5) hZ (w36 hw) (w35 hw) (by decide) (by decide)) (g := (mkF m 13 #[rv a1, iv key, iv line, .unset, .unset, .unset] [(.int key), (.int 0), (.int 0), (.ref ax)])) rfl (by rw [hml]; rfl) (argsL := [(.ref ax), (.int 0), (.int 0), (.int key)]) (rest := []) (lenOf pd_1 rfl) rfl (by show 2 * 0 + _ ≤ _; exact Nat.le_of_eq rfl) (hb hby d5_13) (fun _ _ => ⟨rfl, e3, (by decide : 0 + 0 ≤ _), (by decide : 0 + 0 ≤ _)⟩)
  dsimp only [Pt.U, Pt.locs, Pt.cells, Pt.slots] at X4 lq4 yq4 zq4 st4 hQ4
  subst lq4 yq4 zq4
  obtain ⟨h4, e4⟩ : ∃ z, T4.heap = z := ⟨_, rfl⟩
  rw [e4] at hQ4
  obtain ⟨r_4, rfl, N4q, he4, hres_4⟩ := hQ4
  have N4 := Fr.app N0 N4q
  rw [he4] at e4
  refine go_st st4 ?_
  show Go _ _ _ _ (T4.setTop (mkF m 16 #[rv a1, iv key, iv line, .unset, .unset, .unset] [(.int r_4)]))
  rcases hres_4 with rfl | rfl
  · skip
    show Go _ _ _ _ (T4.setTop (mkF m 16 #[rv a1, iv key, iv line, .unset, .unset, .unset] [(.int 0)]))
    refine go_st (fun t k => XS.istoreN X4.here hx rfl (hb hby d5_16) rfl (l' := #[rv a1, iv key, iv line, iv 0, .unset, .unset]) rfl k) ?_
    refine go_st (fun t k => XS.iloadN X4.here hx rfl (hb hby d5_17) rfl k) ?_
    show Go _ _ _ _ (T4.setTop (mkF m 18 #[rv a1, iv key, iv line, iv 0, .unset, .unset] [(.int 0)]))
    refine go_st (fun t k => XS.ifNo X4.here hx rfl (hb hby d5_18) rfl ((if0 _ _).trans (flt ((by decide) : ¬ ((0 : Int32) < (0 : Int32)))).1) k) ?_
    show Go _ _ _ _ (T4.setTop (mkF m 21 #[rv a1, iv key, iv line, iv 0, .unset, .unset] []))
    refine go_st (fun t k => XS.iloadN X4.here hx rfl (hb hby d5_21) rfl k) ?_
    refine go_st (fun t k => XS.goto X4.here hx rfl (pc0 := 22) (pc' := 29) rfl (hb hby d5_22) (by decide) (by decide) k) ?_
    show Go _ _ _ _ (T4.setTop (mkF m 29 #[rv a1, iv key, iv line, iv 0, .unset, .unset] [(.int 0)]))
    refine go_st (fun t k => XS.iconst X4.here hx rfl (hb hby d5_29) k) ?_
    show Go _ _ _ _ (T4.setTop (mkF m 30 #[rv a1, iv key, iv line, iv 0, .unset, .unset] [(.int 1), (.int 0)]))
    refine go_st (fun t k => XS.isub X4.here hx rfl (hb hby d5_30) rfl k) ?_
    rw [show ((0 : Int32) - (1 : Int32)) = (-1 : Int32) from by decide]
    show Go _ _ _ _ (T4.setTop (mkF m 31 #[rv a1, iv key, iv line, iv 0, .unset, .unset] [(.int (-1))]))
    refine go_st (fun t k => XS.istore X4.here hx rfl (hb hby d5_31) rfl (l' := #[rv a1, iv key, iv line, iv 0, iv (-1), .unset]) rfl k) ?_
    refine go_st (fun t k => XS.iloadN X4.here hx rfl (hb hby d5_33) rfl k) ?_
    refine go_st (fun t k => XS.istore X4.here hx rfl (hb hby d5_34) rfl (l' := #[rv a1, iv key, iv line, iv 0, iv (-1), iv line]) rfl k) ?_
    refine go_st (fun t k => XS.iload X4.here hx rfl (hb hby d5_36) rfl k) ?_
    refine go_st (fun t k => XS.aloadN X4.here hx rfl (hb hby d5_38) rfl rfl k) ?_
    show Go _ _ _ _ (T4.setTop (mkF m 39 #[rv a1, iv key, iv line, iv 0, iv (-1), iv line] [(.ref a1), (.int (-1))]))
    obtain ⟨T5, X5, e5, st5⟩ := getF X4 hx hZ hown (host := "") (Or.inl (w31 hw)) Via.refl e4 H3 (g := (mkF m 39 #[rv a1, iv key, iv line, iv 0, iv (-1), iv line] [(.ref a1), (.int (-1))])) rfl rfl (hb hby d5_39)
    refine go_st (fun t k => st5 t k) ?_
    show Go _ _ _ _ (T5.setTop (mkF m 42 #[rv a1, iv key, iv line, iv 0, iv (-1), iv line] [(.int 0), (.int (-1))]))
    refine go_st (fun t k => XS.icmpYes X5.here hx rfl (pc0 := 42) (pc' := 60) rfl (hb hby d5_42) rfl (tlt ((by decide) : (-1 : Int32) < (0 : Int32))).1 (by decide) (by decide) k) ?_
    show Go _ _ _ _ (T5.setTop (mkF m 60 #[rv a1, iv key, iv line, iv 0, iv (-1), iv line] []))
    refine go_st (fun t k => XS.iload X5.here hx rfl (hb hby d5_60) rfl k) ?_
    show Go _ _ _ _ (T5.setTop (mkF m 62 #[rv a1, iv key, iv line, iv 0, iv (-1), iv line] [(.int line)]))
    obtain ⟨fs, hr, hrun, hended, hW, hsame⟩ := X5.leave (v := some (.int line)) (fun h => by rw [Bd.returns] at h; cases h)
    refine ⟨_, _, ?_, hrun, hended, _, _, rfl, ?_, ⟨_, rfl⟩, hW, hsame.mono (by decide) (by decide)⟩
    · exact retI X5 hx Bd.returns (hb hby d5_62) hr
    · show Q_lb_000 _ _ _ _ _ _ _ _ _ _ _ T5.heap _
      rw [e5]
      exact ⟨rfl, N4, (Keep.refl h0 [a1]), H0, H1, H2, H3, H4, H5, H6⟩
  · skip
    show Go _ _ _ _ (T4.setTop (mkF m 16 #[rv a1, iv key, iv line, .unset, .unset, .unset] [(.int (-1))]))
    refine go_st (fun t k => XS.istoreN X4.here hx rfl (hb hby d5_16) rfl (l' := #[rv a1, iv key, iv line, iv (-1), .unset, .unset]) rfl k) ?_
    refine go_st (fun t k => XS.iloadN X4.here hx rfl (hb hby d5_17) rfl k) ?_
    show Go _ _ _ _ (T4.setTop (mkF m 18 #[rv a1, iv key, iv line, iv (-1), .unset, .unset] [(.int (-1))]))
    refine go_st (fun t k => XS.ifYes X4.here hx rfl (pc0 := 18) (pc' := 25) rfl (hb hby d5_18) rfl ((if0 _ _).trans (tlt ((by decide) : (-1 : Int32) < (0 : Int32))).1) (by decide) (by decide) k) ?_
    show Go _ _ _ _ (T4.setTop (mkF m 25 #[rv a1, iv key, iv line, iv (-1), .unset, .unset] []))
    refine go_st (fun t k => XS.iloadN X4.here hx rfl (hb hby d5_25) rfl k) ?_
    show Go _ _ _ _ (T4.setTop (mkF m 26 #[rv a1, iv key, iv line, iv (-1), .unset, .unset] [(.int (-1))]))
    refine go_st (fun t k => XS.ineg X4.here hx rfl (hb hby d5_26) rfl k) ?_
    rw [show (-(-1 : Int32)) = (1 : Int32) from by decide]
    show Go _ _ _ _ (T4.setTop (mkF m 27 #[rv a1, iv key, iv line, iv (-1), .unset, .unset] [(.int 1)]))
    refine go_st (fun t k => XS.iconst X4.here hx rfl (hb hby d5_27) k) ?_
    show Go _ _ _ _ (T4.setTop (mkF m 28 #[rv a1, iv key, iv line, iv (-1), .unset, .unset] [(.int 1), (.int 1)]))
    refine go_st (fun t k => XS.isub X4.here hx rfl (hb hby d5_28) rfl k) ?_
    rw [show ((1 : Int32) - (1 : Int32)) = (0 : Int32) from by decide]
    show Go _ _ _ _ (T4.setTop (mkF m 29 #[rv a1, iv key, iv line, iv (-1), .unset, .unset] [(.int 0)]))
    refine go_st (fun t k => XS.iconst X4.here hx rfl (hb hby d5_29) k) ?_
    show Go _ _ _ _ (T4.setTop (mkF m 30 #[rv a1, iv key, iv line, iv (-1), .unset, .unset] [(.int 1), (.int 0)]))
    refine go_st (fun t k => XS.isub X4.here hx rfl (hb hby d5_30) rfl k) ?_
    rw [show ((0 : Int32) - (1 : Int32)) = (-1 : Int32) from by decide]
    show Go _ _ _ _ (T4.setTop (mkF m 31 #[rv a1, iv key, iv line, iv (-1), .unset, .unset] [(.int (-1))]))
    refine go_st (fun t k => XS.istore X4.here hx rfl (hb hby d5_31) rfl (l' := #[rv a1, iv key, iv line, iv (-1), iv (-1), .unset]) rfl k) ?_
    refine go_st (fun t k => XS.iloadN X4.here hx rfl (hb hby d5_33) rfl k) ?_
    refine go_st (fun t k => XS.istore X4.here hx rfl (hb hby d5_34) rfl (l' := #[rv a1, iv key, iv line, iv (-1), iv (-1), iv line]) rfl k) ?_
    refine go_st (fun t k => XS.iload X4.here hx rfl (hb hby d5_36) rfl k) ?_
    refine go_st (fun t k => XS.aloadN X4.here hx rfl (hb hby d5_38) rfl rfl k) ?_
    show Go _ _ _ _ (T4.setTop (mkF m 39 #[rv a1, iv key, iv line, iv (-1), iv (-1), iv line] [(.ref a1), (.int (-1))]))
    obtain ⟨T6, X6, e6, st6⟩ := getF X4 hx hZ hown (host := "") (Or.inl (w31 hw)) Via.refl e4 H3 (g := (mkF m 39 #[rv a1, iv key, iv line, iv (-1), iv (-1), iv line] [(.ref a1), (.int (-1))])) rfl rfl (hb hby d5_39)
    refine go_st (fun t k => st6 t k) ?_
    show Go _ _ _ _ (T6.setTop (mkF m 42 #[rv a1, iv key, iv line, iv (-1), iv (-1), iv line] [(.int 0), (.int (-1))]))
    refine go_st (fun t k => XS.icmpYes X6.here hx rfl (pc0 := 42) (pc' := 60) rfl (hb hby d5_42) rfl (tlt ((by decide) : (-1 : Int32) < (0 : Int32))).1 (by decide) (by decide) k) ?_
    show Go _ _ _ _ (T6.setTop (mkF m 60 #[rv a1, iv key, iv line, iv (-1), iv (-1), iv line] []))
    refine go_st (fun t k => XS.iload X6.here hx rfl (hb hby d5_60) rfl k) ?_
    show Go _ _ _ _ (T6.setTop (mkF m 62 #[rv a1, iv key, iv line, iv (-1), iv (-1), iv line] [(.int line)]))
    obtain ⟨fs, hr, hrun, hended, hW, hsame⟩ := X6.leave (v := some (.int line)) (fun h => by rw [Bd.returns] at h; cases h)
    refine ⟨_, _, ?_, hrun, hended, _, _, rfl, ?_, ⟨_, rfl⟩, hW, hsame.mono (by decide) (by decide)⟩
    · exact retI X6 hx Bd.returns (hb hby d5_62) hr
    · show Q_lb_000 _ _ _ _ _ _ _ _ _ _ _ T6.heap _
      rw [e6]
      exact ⟨rfl, N4, (Keep.refl h0 [a1]), H0, H1, H2, H3, H4, H5, H6⟩
def Q_rc_01 (Z : State)  (h0 : Heap) (n0 : Nat) (vR : Option Value) (h : Heap) (L : List Loc) : Prop := vR = none ∧ Fr n0 L ∧ h = h0
theorem ef_rc_01 (m : MethodId) (x0 : Int32) (x1 : Int32) (x2 : Int32) : entryFrame m #[(.int x0), (.int x1), (.int x2)] 3 = mkF m 0 #[.val (.int x0), .val (.int x1), .val (.int x2)] [] := by first | (simp [entryFrame, mkF, argsToLocals, Value.category]; done) | rfl
set_option maxRecDepth 65536 in
set_option maxHeartbeats 40000000 in
theorem rm_rc_01 (l : Launch) (Z : State) (a0 : Array Value) (hw : ∀ d ∈ tables_1, d.before a0 Z = true) (ws : List Jvm.Cond)  (h0 : Heap) (n0 : Nat) (Z0 : n0 ≤ h0.size)  :
    MetFree l (⟨"java/util/Arrays", "rangeCheck", "(III)V"⟩ : MethodName) (head1 (Jvm.Cond.code (⟨"java/util/Arrays", "rangeCheck", "(III)V"⟩ : MethodName) jdk_65_method_30_code 3 none :: ws) ({ frames := 0, cells := 0, slots := 0, locals := 0 } : Room)) (fun a U => a = #[(.int 64), (.int 0), (.int 1)] ∧ Z.Warmed39 U.vm ∧ U.heap = h0) (fun _ _ _ _ _ => True) (fun _ U o U' => ∃ v L, o = .returned v ∧ Q_rc_01 Z h0 n0 v U'.heap L ∧ FrameEnd U o U' L ({ frames := 0, cells := 0, slots := 0, locals := 0 } : Room).cells ({ frames := 0, cells := 0, slots := 0, locals := 0 } : Room).slots) := by
  refine MetFree.of_bodySF (plainFor_of_name pn_java_util_Arrays) hisR ?_
  intro p e s m args below meth c s₁ Bd hml0 hP hK
  obtain ⟨rfl, hZ, hh⟩ := hP
  have hx := Bd.exec
  have hby := Bd.bytes
  have hml : c.maxLocals = 3 := hml0
  have hown : s.vm.findClass "java/util/Arrays" = some m.cls := findClass_of_methodNamed Bd.named
  have hnm := (name_of_methodNamed Bd.named Bd.method).1
  have X0 : Stand p l e ({ frames := 0, cells := 0, slots := 0, locals := 0 } : Room) s m #[(.int 64), (.int 0), (.int 1)] below meth c s₁ [] 0 0 := Stand.of_body Bd
  have e0 : s₁.heap = h0 := by rw [← hh, Bd.state]; rfl
  have N0 := Fr.nil n0
  refine go_st (fun t k => castTop (ef_rc_01 m (64 : Int32) (0 : Int32) (1 : Int32)) k) ?_
  show Go _ _ _ _ (s₁.setTop (mkF m 0 #[iv 64, iv 0, iv 1] []))
  refine go_st (fun t k => XS.iloadN X0.here hx rfl (hb hby d2_0) rfl k) ?_
  refine go_st (fun t k => XS.iloadN X0.here hx rfl (hb hby d2_1) rfl k) ?_
  show Go _ _ _ _ (s₁.setTop (mkF m 2 #[iv 64, iv 0, iv 1] [(.int 1), (.int 0)]))
  refine go_st (fun t k => XS.icmpYes X0.here hx rfl (pc0 := 2) (pc' := 46) rfl (hb hby d2_2) rfl (flt ((by decide) : ¬ ((1 : Int32) < (0 : Int32)))).2.2.2 (by decide) (by decide) k) ?_
  show Go _ _ _ _ (s₁.setTop (mkF m 46 #[iv 64, iv 0, iv 1] []))
  refine go_st (fun t k => XS.iloadN X0.here hx rfl (hb hby d2_46) rfl k) ?_
  show Go _ _ _ _ (s₁.setTop (mkF m 47 #[iv 64, iv 0, iv 1] [(.int 0)]))
  refine go_st (fun t k => XS.ifYes X0.here hx rfl (pc0 := 47) (pc' := 59) rfl (hb hby d2_47) rfl ((if0 _ _).trans (flt ((by decide) : ¬ ((0 : Int32) < (0 : Int32)))).2.1) (by decide) (by decide) k) ?_
  show Go _ _ _ _ (s₁.setTop (mkF m 59 #[iv 64, iv 0, iv 1] []))
  refine go_st (fun t k => XS.iloadN X0.here hx rfl (hb hby d2_59) rfl k) ?_
  refine go_st (fun t k => XS.iloadN X0.here hx rfl (hb hby d2_60) rfl k) ?_
  show Go _ _ _ _ (s₁.setTop (mkF m 61 #[iv 64, iv 0, iv 1] [(.int 64), (.int 1)]))
  refine go_st (fun t k => XS.icmpYes X0.here hx rfl (pc0 := 61) (pc' := 73) rfl (hb hby d2_61) rfl (flt ((by decide) : ¬ ((64 : Int32) < (1 : Int32)))).2.2.2 (by decide) (by decide) k) ?_
  show Go _ _ _ _ (s₁.setTop (mkF m 73 #[iv 64, iv 0, iv 1] []))
  obtain ⟨fs, hr, hrun, hended, hW, hsame⟩ := X0.leave (v := none) (fun _ => rfl)
  refine ⟨_, _, ?_, hrun, hended, _, _, rfl, ?_, ⟨_, rfl⟩, hW, hsame.mono (by decide) (by decide)⟩
  · exact X0.returnOut hx Bd.returns (hb hby d2_73) hr
  · show Q_rc_01 _ _ _ _ s₁.heap _
    rw [e0]
    exact ⟨rfl, N0, rfl⟩
def Q_bs0_010 (Z : State) (ax : Addr) (kx : ClassId) (key : Int32) (x0 : Int32) (h0 : Heap) (n0 : Nat) (vR : Option Value) (h : Heap) (L : List Loc) : Prop := ∃ (r : Int32), vR = some (.int r) ∧ Fr n0 L ∧ h = h0 ∧ (r = (0 : Int32) ∨ r = (-1 : Int32))
theorem ef_bs0_010 (m : MethodId) (x0 : Addr) (x1 : Int32) (x2 : Int32) (x3 : Int32) : entryFrame m #[(.ref x0), (.int x1), (.int x2), (.int x3)] 8 = mkF m 0 #[.val (.ref x0), .val (.int x1), .val (.int x2), .val (.int x3), .unset, .unset, .unset, .unset] [] := by first | (simp [entryFrame, mkF, argsToLocals, Value.category]; done) | rfl
set_option maxRecDepth 65536 in
set_option maxHeartbeats 40000000 in
theorem rm_bs0_010 (l : Launch) (Z : State) (a0 : Array Value) (hw : ∀ d ∈ tables_1, d.before a0 Z = true) (ws : List Jvm.Cond) (ax : Addr) (kx : ClassId) (key : Int32) (x0 : Int32) (h0 : Heap) (n0 : Nat) (Z0 : n0 ≤ h0.size) (H0 : Arv Z h0 ax kx .int (64 : Int32) [(.int x0)] (.int (0 : Int32))) (hr : ¬ (x0 < key)) :
    MetFree l (⟨"java/util/Arrays", "binarySearch0", "([IIII)I"⟩ : MethodName) (head1 (Jvm.Cond.code (⟨"java/util/Arrays", "binarySearch0", "([IIII)I"⟩ : MethodName) jdk_65_method_59_code 8 (some .int) :: ws) ({ frames := 0, cells := 0, slots := 0, locals := 0 } : Room)) (fun a U => a = #[(.ref ax), (.int 0), (.int 1), (.int key)] ∧ Z.Warmed39 U.vm ∧ U.heap = h0) (fun _ _ _ _ _ => True) (fun _ U o U' => ∃ v L, o = .returned v ∧ Q_bs0_010 Z ax kx key x0 h0 n0 v U'.heap L ∧ FrameEnd U o U' L ({ frames := 0, cells := 0, slots := 0, locals := 0 } : Room).cells ({ frames := 0, cells := 0, slots := 0, locals := 0 } : Room).slots) := by
  refine MetFree.of_bodySF (plainFor_of_name pn_java_util_Arrays) hisR ?_
  intro p e s m args below meth c s₁ Bd hml0 hP hK
  obtain ⟨rfl, hZ, hh⟩ := hP
  have hx := Bd.exec
  have hby := Bd.bytes
  have hml : c.maxLocals = 8 := hml0
  have hown : s.vm.findClass "java/util/Arrays" = some m.cls := findClass_of_methodNamed Bd.named
  have hnm := (name_of_methodNamed Bd.named Bd.method).1
  have X0 : Stand p l e ({ frames := 0, cells := 0, slots := 0, locals := 0 } : Room) s m #[(.ref ax), (.int 0), (.int 1), (.int key)] below meth c s₁ [] 0 0 := Stand.of_body Bd
  have e0 : s₁.heap = h0 := by rw [← hh, Bd.state]; rfl
  have N0 := Fr.nil n0
  refine go_st (fun t k => castTop (ef_bs0_010 m ax (0 : Int32) (1 : Int32) key) k) ?_
  show Go _ _ _ _ (s₁.setTop (mkF m 0 #[rv ax, iv 0, iv 1, iv key, .unset, .unset, .unset, .unset] []))
  refine go_st (fun t k => XS.iloadN X0.here hx rfl (hb hby d3_0) rfl k) ?_
  refine go_st (fun t k => XS.istore X0.here hx rfl (hb hby d3_1) rfl (l' := #[rv ax, iv 0, iv 1, iv key, iv 0, .unset, .unset, .unset]) rfl k) ?_
  refine go_st (fun t k => XS.iloadN X0.here hx rfl (hb hby d3_3) rfl k) ?_
  refine go_st (fun t k => XS.iconst X0.here hx rfl (hb hby d3_4) k) ?_
  show Go _ _ _ _ (s₁.setTop (mkF m 5 #[rv ax, iv 0, iv 1, iv key, iv 0, .unset, .unset, .unset] [(.int 1), (.int 1)]))
  refine go_st (fun t k => XS.isub X0.here hx rfl (hb hby d3_5) rfl k) ?_
  rw [show ((1 : Int32) - (1 : Int32)) = (0 : Int32) from by decide]
  show Go _ _ _ _ (s₁.setTop (mkF m 6 #[rv ax, iv 0, iv 1, iv key, iv 0, .unset, .unset, .unset] [(.int 0)]))
  refine go_st (fun t k => XS.istore X0.here hx rfl (hb hby d3_6) rfl (l' := #[rv ax, iv 0, iv 1, iv key, iv 0, iv 0, .unset, .unset]) rfl k) ?_
  refine go_st (fun t k => XS.iload X0.here hx rfl (hb hby d3_8) rfl k) ?_
  refine go_st (fun t k => XS.iload X0.here hx rfl (hb hby d3_10) rfl k) ?_
  show Go _ _ _ _ (s₁.setTop (mkF m 12 #[rv ax, iv 0, iv 1, iv key, iv 0, iv 0, .unset, .unset] [(.int 0), (.int 0)]))
  refine go_st (fun t k => XS.icmpNo X0.here hx rfl (hb hby d3_12) rfl (flt ((by decide) : ¬ ((0 : Int32) < (0 : Int32)))).2.2.1 k) ?_
  show Go _ _ _ _ (s₁.setTop (mkF m 15 #[rv ax, iv 0, iv 1, iv key, iv 0, iv 0, .unset, .unset] []))
  refine go_st (fun t k => XS.iload X0.here hx rfl (hb hby d3_15) rfl k) ?_
  refine go_st (fun t k => XS.iload X0.here hx rfl (hb hby d3_17) rfl k) ?_
  show Go _ _ _ _ (s₁.setTop (mkF m 19 #[rv ax, iv 0, iv 1, iv key, iv 0, iv 0, .unset, .unset] [(.int 0), (.int 0)]))
  refine go_st (fun t k => XS.iadd X0.here hx rfl (hb hby d3_19) rfl k) ?_
  rw [show ((0 : Int32) + (0 : Int32)) = (0 : Int32) from by decide]
  show Go _ _ _ _ (s₁.setTop (mkF m 20 #[rv ax, iv 0, iv 1, iv key, iv 0, iv 0, .unset, .unset] [(.int 0)]))
  refine go_st (fun t k => XS.iconst X0.here hx rfl (hb hby d3_20) k) ?_
  show Go _ _ _ _ (s₁.setTop (mkF m 21 #[rv ax, iv 0, iv 1, iv key, iv 0, iv 0, .unset, .unset] [(.int 1), (.int 0)]))
  refine go_st (fun t k => XS.iushr X0.here hx rfl (hb hby d3_21) rfl k) ?_
  rw [show (((0 : Int32)).toUInt32 >>> ((1 : Int32) &&& 31).toUInt32).toInt32 = (0 : Int32) from by decide]
  show Go _ _ _ _ (s₁.setTop (mkF m 22 #[rv ax, iv 0, iv 1, iv key, iv 0, iv 0, .unset, .unset] [(.int 0)]))
  refine go_st (fun t k => XS.istore X0.here hx rfl (hb hby d3_22) rfl (l' := #[rv ax, iv 0, iv 1, iv key, iv 0, iv 0, iv 0, .unset]) rfl k) ?_
  refine go_st (fun t k => XS.aloadN X0.here hx rfl (hb hby d3_24) rfl rfl k) ?_
  refine go_st (fun t k => XS.iload X0.here hx rfl (hb hby d3_25) rfl k) ?_
  show Go _ _ _ _ (s₁.setTop (mkF m 27 #[rv ax, iv 0, iv 1, iv key, iv 0, iv 0, iv 0, .unset] [(.int 0), (.ref ax)]))
  obtain ⟨zc1, zA1, zq1, zS1, zN1, zH1, zG1⟩ := id H0
  have hin1 : ¬ ((0 : Int32) < 0 ∨ zc1.slots.size ≤ ((0 : Int32)).toNatClampNeg) := inb_of zS1 ⟨by decide, by decide⟩
  have hat1 : zc1.slots[((0 : Int32)).toNatClampNeg]? = some (.int x0) := Has.at zH1 hin1 rfl
  refine go_st (fun t k => X0.iaload hx (j := (0 : Int32)) (v := (.int x0)) (by rw [e0]; exact zA1.1) (State.isArrayOf_alike hZ.alike zA1.2.1) zA1.2.2 hin1 hat1 (g := (mkF m 27 #[rv ax, iv 0, iv 1, iv key, iv 0, iv 0, iv 0, .unset] [(.int 0), (.ref ax)])) rfl rfl (hb hby d3_27) t k) ?_
  refine go_st (fun t k => XS.istore X0.here hx rfl (hb hby d3_28) rfl (l' := #[rv ax, iv 0, iv 1, iv key, iv 0, iv 0, iv 0, iv x0]) rfl k) ?_
  refine go_st (fun t k => XS.iload X0.here hx rfl (hb hby d3_30) rfl k) ?_
  refine go_st (fun t k => XS.iloadN X0.here hx rfl (hb hby d3_32) rfl k) ?_
  show Go _ _ _ _ (s₁.setTop (mkF m 33 #[rv ax, iv 0, iv 1, iv key, iv 0, iv 0, iv 0, iv x0] [(.int key), (.int x0)]))
  refine go_st (fun t k => XS.icmpYes X0.here hx rfl (pc0 := 33) (pc' := 45) rfl (hb hby d3_33) rfl (flt (hr : ¬ (x0 < key))).2.1 (by decide) (by decide) k) ?_
  show Go _ _ _ _ (s₁.setTop (mkF m 45 #[rv ax, iv 0, iv 1, iv key, iv 0, iv 0, iv 0, iv x0] []))
  refine go_st (fun t k => XS.iload X0.here hx rfl (hb hby d3_45) rfl k) ?_
  refine go_st (fun t k => XS.iloadN X0.here hx rfl (hb hby d3_47) rfl k) ?_
  show Go _ _ _ _ (s₁.setTop (mkF m 48 #[rv ax, iv 0, iv 1, iv key, iv 0, iv 0, iv 0, iv x0] [(.int key), (.int x0)]))
  by_cases hc2 : key < x0
  · skip
    refine go_st (fun t k => XS.icmpNo X0.here hx rfl (hb hby d3_48) rfl (tlt (hc2 : key < x0)).2.2.2 k) ?_
    show Go _ _ _ _ (s₁.setTop (mkF m 51 #[rv ax, iv 0, iv 1, iv key, iv 0, iv 0, iv 0, iv x0] []))
    refine go_st (fun t k => XS.iload X0.here hx rfl (hb hby d3_51) rfl k) ?_
    refine go_st (fun t k => XS.iconst X0.here hx rfl (hb hby d3_53) k) ?_
    show Go _ _ _ _ (s₁.setTop (mkF m 54 #[rv ax, iv 0, iv 1, iv key, iv 0, iv 0, iv 0, iv x0] [(.int 1), (.int 0)]))
    refine go_st (fun t k => XS.isub X0.here hx rfl (hb hby d3_54) rfl k) ?_
    rw [show ((0 : Int32) - (1 : Int32)) = (-1 : Int32) from by decide]
    show Go _ _ _ _ (s₁.setTop (mkF m 55 #[rv ax, iv 0, iv 1, iv key, iv 0, iv 0, iv 0, iv x0] [(.int (-1))]))
    refine go_st (fun t k => XS.istore X0.here hx rfl (hb hby d3_55) rfl (l' := #[rv ax, iv 0, iv 1, iv key, iv 0, iv (-1), iv 0, iv x0]) rfl k) ?_
    refine go_st (fun t k => XS.goto X0.here hx rfl (pc0 := 57) (pc' := 63) rfl (hb hby d3_57) (by decide) (by decide) k) ?_
    show Go _ _ _ _ (s₁.setTop (mkF m 63 #[rv ax, iv 0, iv 1, iv key, iv 0, iv (-1), iv 0, iv x0] []))
    refine go_st (fun t k => XS.goto X0.here hx rfl (pc0 := 63) (pc' := 8) rfl (hb hby d3_63) (by decide) (by decide) k) ?_
    show Go _ _ _ _ (s₁.setTop (mkF m 8 #[rv ax, iv 0, iv 1, iv key, iv 0, iv (-1), iv 0, iv x0] []))
    refine go_st (fun t k => XS.iload X0.here hx rfl (hb hby d3_8) rfl k) ?_
    refine go_st (fun t k => XS.iload X0.here hx rfl (hb hby d3_10) rfl k) ?_
    show Go _ _ _ _ (s₁.setTop (mkF m 12 #[rv ax, iv 0, iv 1, iv key, iv 0, iv (-1), iv 0, iv x0] [(.int (-1)), (.int 0)]))
    refine go_st (fun t k => XS.icmpYes X0.here hx rfl (pc0 := 12) (pc' := 66) rfl (hb hby d3_12) rfl (tlt ((by decide) : (-1 : Int32) < (0 : Int32))).2.2.1 (by decide) (by decide) k) ?_
    show Go _ _ _ _ (s₁.setTop (mkF m 66 #[rv ax, iv 0, iv 1, iv key, iv 0, iv (-1), iv 0, iv x0] []))
    refine go_st (fun t k => XS.iload X0.here hx rfl (hb hby d3_66) rfl k) ?_
    refine go_st (fun t k => XS.iconst X0.here hx rfl (hb hby d3_68) k) ?_
    show Go _ _ _ _ (s₁.setTop (mkF m 69 #[rv ax, iv 0, iv 1, iv key, iv 0, iv (-1), iv 0, iv x0] [(.int 1), (.int 0)]))
    refine go_st (fun t k => XS.iadd X0.here hx rfl (hb hby d3_69) rfl k) ?_
    rw [show ((0 : Int32) + (1 : Int32)) = (1 : Int32) from by decide]
    show Go _ _ _ _ (s₁.setTop (mkF m 70 #[rv ax, iv 0, iv 1, iv key, iv 0, iv (-1), iv 0, iv x0] [(.int 1)]))
    refine go_st (fun t k => XS.ineg X0.here hx rfl (hb hby d3_70) rfl k) ?_
    rw [show (-(1 : Int32)) = (-1 : Int32) from by decide]
    show Go _ _ _ _ (s₁.setTop (mkF m 71 #[rv ax, iv 0, iv 1, iv key, iv 0, iv (-1), iv 0, iv x0] [(.int (-1))]))
    obtain ⟨fs, hr, hrun, hended, hW, hsame⟩ := X0.leave (v := some (.int (-1))) (fun h => by rw [Bd.returns] at h; cases h)
    refine ⟨_, _, ?_, hrun, hended, _, _, rfl, ?_, ⟨_, rfl⟩, hW, hsame.mono (by decide) (by decide)⟩
    · exact retI X0 hx Bd.returns (hb hby d3_71) hr
    · show Q_bs0_010 _ _ _ _ _ _ _ _ s₁.heap _
      rw [e0]
      exact ⟨(-1 : Int32), rfl, N0, rfl, (Or.inr rfl)⟩
  · skip
    refine go_st (fun t k => XS.icmpYes X0.here hx rfl (pc0 := 48) (pc' := 60) rfl (hb hby d3_48) rfl (flt (hc2 : ¬ (key < x0))).2.2.2 (by decide) (by decide) k) ?_
    show Go _ _ _ _ (s₁.setTop (mkF m 60 #[rv ax, iv 0, iv 1, iv key, iv 0, iv 0, iv 0, iv x0] []))
    refine go_st (fun t k => XS.iload X0.here hx rfl (hb hby d3_60) rfl k) ?_
    show Go _ _ _ _ (s₁.setTop (mkF m 62 #[rv ax, iv 0, iv 1, iv key, iv 0, iv 0, iv 0, iv x0] [(.int 0)]))
    obtain ⟨fs, hr, hrun, hended, hW, hsame⟩ := X0.leave (v := some (.int 0)) (fun h => by rw [Bd.returns] at h; cases h)
    refine ⟨_, _, ?_, hrun, hended, _, _, rfl, ?_, ⟨_, rfl⟩, hW, hsame.mono (by decide) (by decide)⟩
    · exact retI X0 hx Bd.returns (hb hby d3_62) hr
    · show Q_bs0_010 _ _ _ _ _ _ _ _ s₁.heap _
      rw [e0]
      exact ⟨(0 : Int32), rfl, N0, rfl, (Or.inl rfl)⟩
def Q_bs_010 (Z : State) (ax : Addr) (kx : ClassId) (key : Int32) (x0 : Int32) (h0 : Heap) (n0 : Nat) (vR : Option Value) (h : Heap) (L : List Loc) : Prop := ∃ (r : Int32), vR = some (.int r) ∧ Fr n0 L ∧ h = h0 ∧ (r = (0 : Int32) ∨ r = (-1 : Int32))
theorem ef_bs_010 (m : MethodId) (x0 : Addr) (x1 : Int32) (x2 : Int32) (x3 : Int32) : entryFrame m #[(.ref x0), (.int x1), (.int x2), (.int x3)] 4 = mkF m 0 #[.val (.ref x0), .val (.int x1), .val (.int x2), .val (.int x3)] [] := by first | (simp [entryFrame, mkF, argsToLocals, Value.category]; done) | rfl
set_option maxRecDepth 65536 in
set_option maxHeartbeats 40000000 in
theorem rm_bs_010 (l : Launch) (Z : State) (a0 : Array Value) (hw : ∀ d ∈ tables_1, d.before a0 Z = true) (ws : List Jvm.Cond) (ax : Addr) (kx : ClassId) (key : Int32) (x0 : Int32) (h0 : Heap) (n0 : Nat) (Z0 : n0 ≤ h0.size) (H0 : Arv Z h0 ax kx .int (64 : Int32) [(.int x0)] (.int (0 : Int32))) (hr : ¬ (x0 < key)) :
    MetFree l (⟨"java/util/Arrays", "binarySearch", "([IIII)I"⟩ : MethodName) (head1 (Jvm.Cond.code (⟨"java/util/Arrays", "binarySearch", "([IIII)I"⟩ : MethodName) jdk_65_method_58_code 4 (some .int) :: ws) ({ frames := 1, cells := 0, slots := 0, locals := 19 } : Room)) (fun a U => a = #[(.ref ax), (.int 0), (.int 1), (.int key)] ∧ Z.Warmed39 U.vm ∧ U.heap = h0) (fun _ _ _ _ _ => True) (fun _ U o U' => ∃ v L, o = .returned v ∧ Q_bs_010 Z ax kx key x0 h0 n0 v U'.heap L ∧ FrameEnd U o U' L ({ frames := 1, cells := 0, slots := 0, locals := 19 } : Room).cells ({ frames := 1, cells := 0, slots := 0, locals := 19 } : Room).slots) := by
  refine MetFree.of_bodySF (plainFor_of_name pn_java_util_Arrays) hisR ?_
  intro p e s m args below meth c s₁ Bd hml0 hP hK
  obtain ⟨rfl, hZ, hh⟩ := hP
  have hx := Bd.exec
  have hby := Bd.bytes
  have hml : c.maxLocals = 4 := hml0
  have hown : s.vm.findClass "java/util/Arrays" = some m.cls := findClass_of_methodNamed Bd.named
  have hnm := (name_of_methodNamed Bd.named Bd.method).1
  have X0 : Stand p l e ({ frames := 1, cells := 0, slots := 0, locals := 19 } : Room) s m #[(.ref ax), (.int 0), (.int 1), (.int key)] below meth c s₁ [] 0 0 := Stand.of_body Bd
  have e0 : s₁.heap = h0 := by rw [← hh, Bd.state]; rfl
  have N0 := Fr.nil n0
  refine go_st (fun t k => castTop (ef_bs_010 m ax (0 : Int32) (1 : Int32) key) k) ?_
  show Go _ _ _ _ (s₁.setTop (mkF m 0 #[rv ax, iv 0, iv 1, iv key] []))
  refine go_st (fun t k => XS.aloadN X0.here hx rfl (hb hby d4_0) rfl rfl k) ?_
  show Go _ _ _ _ (s₁.setTop (mkF m 1 #[rv ax, iv 0, iv 1, iv key] [(.ref ax)]))
  obtain ⟨zc1, zA1, zq1, zS1, zN1, zH1, zG1⟩ := id H0
  refine go_st (fun t k => X0.arraylength hx (by rw [e0]; exact zA1.1) (State.isArrayOf_alike hZ.alike zA1.2.1) (g := (mkF m 1 #[rv ax, iv 0, iv 1, iv key] [(.ref ax)])) rfl rfl (hb hby d4_1) t k) ?_
  rw [len_of zS1 zN1]
  refine go_st (fun t k => XS.iloadN X0.here hx rfl (hb hby d4_2) rfl k) ?_
  refine go_st (fun t k => XS.iloadN X0.here hx rfl (hb hby d4_3) rfl k) ?_
  show Go _ _ _ _ (s₁.setTop (mkF m 4 #[rv ax, iv 0, iv 1, iv key] [(.int 1), (.int 0), (.int 64)]))
  obtain ⟨_, _, ⟨T2, L2, kk2, nn2⟩, -, X2, ⟨Lc2, hQ2, lq2, yq2, zq2⟩, st2⟩ := Jvm.LawKit.callS X0 hx (y := (⟨"java/util/Arrays", "rangeCheck", "(III)V"⟩ : MethodName)) hown (mvT hZ (w37 hw)) (mvT hZ (w38 hw)) (mvT hZ (w35 hw)) (mvT hZ (w39 hw)) (by decide) (backOf (W := 0) (rm_rc_01 l Z a0 hw []  h0 n0 (Nat.le_trans Z0 (Nat.le_refl _)) ) hZ (w39 hw) (w35 hw) (by decide) (by decide)) (g := (mkF m 4 #[rv ax, iv 0, iv 1, iv key] [(.int 1), (.int 0), (.int 64)])) rfl (by rw [hml]; rfl) (argsL := [(.int 64), (.int 0), (.int 1)]) (rest := []) (lenOf pd_0 rfl) rfl (by show 2 * 0 + _ ≤ _; exact Nat.le_of_eq rfl) (hb hby d4_4) (fun _ _ => ⟨rfl, e0, (by decide : 0 + 0 ≤ _), (by decide : 0 + 0 ≤ _)⟩)
  dsimp only [Pt.U, Pt.locs, Pt.cells, Pt.slots] at X2 lq2 yq2 zq2 st2 hQ2
  subst lq2 yq2 zq2
  obtain ⟨h2, e2⟩ : ∃ z, T2.heap = z := ⟨_, rfl⟩
  rw [e2] at hQ2
  obtain ⟨rfl, N2q, he2⟩ := hQ2
  have N2 := Fr.app N0 N2q
  rw [he2] at e2
  refine go_st st2 ?_
  show Go _ _ _ _ (T2.setTop (mkF m 7 #[rv ax, iv 0, iv 1, iv key] []))
  refine go_st (fun t k => XS.aloadN X2.here hx rfl (hb hby d4_7) rfl rfl k) ?_
  refine go_st (fun t k => XS.iloadN X2.here hx rfl (hb hby d4_8) rfl k) ?_
  refine go_st (fun t k => XS.iloadN X2.here hx rfl (hb hby d4_9) rfl k) ?_
  refine go_st (fun t k => XS.iloadN X2.here hx rfl (hb hby d4_10) rfl k) ?_
  show Go _ _ _ _ (T2.setTop (mkF m 11 #[rv ax, iv 0, iv 1, iv key] [(.int key), (.int 1), (.int 0), (.ref ax)]))
  obtain ⟨_, _, ⟨T3, L3, kk3, nn3⟩, -, X3, ⟨Lc3, hQ3, lq3, yq3, zq3⟩, st3⟩ := Jvm.LawKit.callS X2 hx (y := (⟨"java/util/Arrays", "binarySearch0", "([IIII)I"⟩ : MethodName)) hown (mvT hZ (w40 hw)) (mvT hZ (w41 hw)) (mvT hZ (w35 hw)) (mvT hZ (w42 hw)) (by decide) (backOf (W := 0) (rm_bs0_010 l Z a0 hw [] ax kx key x0 h0 n0 (Nat.le_trans Z0 (Nat.le_refl _)) H0 hr) hZ (w42 hw) (w35 hw) (by decide) (by decide)) (g := (mkF m 11 #[rv ax, iv 0, iv 1, iv key] [(.int key), (.int 1), (.int 0), (.ref ax)])) rfl (by rw [hml]; rfl) (argsL := [(.ref ax), (.int 0), (.int 1), (.int key)]) (rest := []) (lenOf pd_1 rfl) rfl (by show 2 * 0 + _ ≤ _; exact Nat.le_of_eq rfl) (hb hby d4_11) (fun _ _ => ⟨rfl, e2, (by decide : 0 + 0 ≤ _), (by decide : 0 + 0 ≤ _)⟩)
  dsimp only [Pt.U, Pt.locs, Pt.cells, Pt.slots] at X3 lq3 yq3 zq3 st3 hQ3
  subst lq3 yq3 zq3
  obtain ⟨h3, e3⟩ : ∃ z, T3.heap = z := ⟨_, rfl⟩
  rw [e3] at hQ3
  obtain ⟨r_3, rfl, N3q, he3, hres_3⟩ := hQ3
  have N3 := Fr.app N2 N3q
  rw [he3] at e3
  refine go_st st3 ?_
  show Go _ _ _ _ (T3.setTop (mkF m 14 #[rv ax, iv 0, iv 1, iv key] [(.int r_3)]))
  obtain ⟨fs, hr, hrun, hended, hW, hsame⟩ := X3.leave (v := some (.int r_3)) (fun h => by rw [Bd.returns] at h; cases h)
  refine ⟨_, _, ?_, hrun, hended, _, _, rfl, ?_, ⟨_, rfl⟩, hW, hsame.mono (by decide) (by decide)⟩
  · exact retI X3 hx Bd.returns (hb hby d4_14) hr
  · show Q_bs_010 _ _ _ _ _ _ _ _ T3.heap _
    rw [e3]
    exact ⟨r_3, rfl, N3, rfl, hres_3⟩
def Q_lb_010 (Z : State) (a1 : Addr) (ax : Addr) (al : Addr) (kx : ClassId) (kl : ClassId) (key : Int32) (line : Int32) (x0 : Int32) (l0 : Int32) (h0 : Heap) (n0 : Nat) (vR : Option Value) (h : Heap) (L : List Loc) : Prop := vR = some (.int line) ∧ Fr n0 L ∧ Keep h0 h [a1] ∧ (Exa Z h a1 cBE) ∧ (Fld Z h a1 cBE "indexes" "[I" (.ref ax)) ∧ (Fld Z h a1 cBE "lines" "[I" (.ref al)) ∧ (Fld Z h a1 cBE "first" "I" (.int 0)) ∧ (Fld Z h a1 cBE "count" "I" (.int 1)) ∧ (Arv Z h ax kx .int (64 : Int32) [(.int x0)] (.int (0 : Int32))) ∧ (Arv Z h al kl .int (64 : Int32) [(.int l0)] (.int (0 : Int32)))
theorem ef_lb_010 (m : MethodId) (x0 : Addr) (x1 : Int32) (x2 : Int32) : entryFrame m #[(.ref x0), (.int x1), (.int x2)] 6 = mkF m 0 #[.val (.ref x0), .val (.int x1), .val (.int x2), .unset, .unset, .unset] [] := by first | (simp [entryFrame, mkF, argsToLocals, Value.category]; done) | rfl
set_option maxRecDepth 65536 in
set_option maxHeartbeats 40000000 in
theorem rm_lb_010 (l : Launch) (Z : State) (a0 : Array Value) (hw : ∀ d ∈ tables_1, d.before a0 Z = true) (ws : List Jvm.Cond) (a1 : Addr) (ax : Addr) (al : Addr) (kx : ClassId) (kl : ClassId) (key : Int32) (line : Int32) (x0 : Int32) (l0 : Int32) (h0 : Heap) (n0 : Nat) (Z0 : n0 ≤ h0.size) (H0 : Exa Z h0 a1 cBE) (H1 : Fld Z h0 a1 cBE "indexes" "[I" (.ref ax)) (H2 : Fld Z h0 a1 cBE "lines" "[I" (.ref al)) (H3 : Fld Z h0 a1 cBE "first" "I" (.int 0)) (H4 : Fld Z h0 a1 cBE "count" "I" (.int 1)) (H5 : Arv Z h0 ax kx .int (64 : Int32) [(.int x0)] (.int (0 : Int32))) (H6 : Arv Z h0 al kl .int (64 : Int32) [(.int l0)] (.int (0 : Int32))) (ne_a1_ax : a1 ≠ ax) (ne_a1_al : a1 ≠ al) (ne_ax_al : ax ≠ al) (g_a1 : n0 ≤ a1) (hr : ¬ (x0 < key)) :
    MetFree l (⟨"com/example/nudge/nudge/tree/BlockEntries", "lineBefore", "(II)I"⟩ : MethodName) (head1 (Jvm.Cond.code (⟨"com/example/nudge/nudge/tree/BlockEntries", "lineBefore", "(II)I"⟩ : MethodName) prog_17_method_3_code 6 (some .int) :: ws) ({ frames := 2, cells := 0, slots := 0, locals := 34 } : Room)) (fun a U => a = #[(.ref a1), (.int key), (.int line)] ∧ Z.Warmed39 U.vm ∧ U.heap = h0) (fun _ _ _ _ _ => True) (fun _ U o U' => ∃ v L, o = .returned v ∧ Q_lb_010 Z a1 ax al kx kl key line x0 l0 h0 n0 v U'.heap L ∧ FrameEnd U o U' L ({ frames := 2, cells := 0, slots := 0, locals := 34 } : Room).cells ({ frames := 2, cells := 0, slots := 0, locals := 34 } : Room).slots) := by
  refine MetFree.of_bodySF (plainFor_of_name pn_com_example_nudge_nudge_tree_BlockEntries) hisR ?_
  intro p e s m args below meth c s₁ Bd hml0 hP hK
  obtain ⟨rfl, hZ, hh⟩ := hP
  have hx := Bd.exec
  have hby := Bd.bytes
  have hml : c.maxLocals = 6 := hml0
  have hown : s.vm.findClass "com/example/nudge/nudge/tree/BlockEntries" = some m.cls := findClass_of_methodNamed Bd.named
  have hnm := (name_of_methodNamed Bd.named Bd.method).1
  have X0 : Stand p l e ({ frames := 2, cells := 0, slots := 0, locals := 34 } : Room) s m #[(.ref a1), (.int key), (.int line)] below meth c s₁ [] 0 0 := Stand.of_body Bd
  have e0 : s₁.heap = h0 := by rw [← hh, Bd.state]; rfl
  have N0 := Fr.nil n0
  refine go_st (fun t k => castTop (ef_lb_010 m a1 key line) k) ?_
  show Go _ _ _ _ (s₁.setTop (mkF m 0 #[rv a1, iv key, iv line, .unset, .unset, .unset] []))
  refine go_st (fun t k => XS.aloadN X0.here hx rfl (hb hby d5_0) rfl rfl k) ?_
  show Go _ _ _ _ (s₁.setTop (mkF m 1 #[rv a1, iv key, iv line, .unset, .unset, .unset] [(.ref a1)]))
  obtain ⟨T1, X1, e1, st1⟩ := getF X0 hx hZ hown (host := "") (Or.inl (w15 hw)) Via.refl e0 H1 (g := (mkF m 1 #[rv a1, iv key, iv line, .unset, .unset, .unset] [(.ref a1)])) rfl rfl (hb hby d5_1)
  refine go_st (fun t k => st1 t k) ?_
  refine go_st (fun t k => XS.aloadN X1.here hx rfl (hb hby d5_4) rfl rfl k) ?_
  show Go _ _ _ _ (T1.setTop (mkF m 5 #[rv a1, iv key, iv line, .unset, .unset, .unset] [(.ref a1), (.ref ax)]))
  obtain ⟨T2, X2, e2, st2⟩ := getF X1 hx hZ hown (host := "") (Or.inl (w31 hw)) Via.refl e1 H3 (g := (mkF m 5 #[rv a1, iv key, iv line, .unset, .unset, .unset] [(.ref a1), (.ref ax)])) rfl rfl (hb hby d5_5)
  refine go_st (fun t k => st2 t k) ?_
  refine go_st (fun t k => XS.aloadN X2.here hx rfl (hb hby d5_8) rfl rfl k) ?_
  show Go _ _ _ _ (T2.setTop (mkF m 9 #[rv a1, iv key, iv line, .unset, .unset, .unset] [(.ref a1), (.int 0), (.ref ax)]))
  obtain ⟨T3, X3, e3, st3⟩ := getF X2 hx hZ hown (host := "") (Or.inl (w24 hw)) Via.refl e2 H4 (g := (mkF m 9 #[rv a1, iv key, iv line, .unset, .unset, .unset] [(.ref a1), (.int 0), (.ref ax)])) rfl rfl (hb hby d5_9)
  refine go_st (fun t k => st3 t k) ?_
  refine go_st (fun t k => XS.iloadN X3.here hx rfl (hb hby d5_12) rfl k) ?_
  show Go _ _ _ _ (T3.setTop (mkF m 13 #[rv a1, iv key, iv line, .unset, .unset, .unset] [(.int key), (.int 1), (.int 0), (.ref ax)]))
  obtain ⟨_, _, ⟨T4, L4, kk4, nn4⟩, -, X4, ⟨Lc4, hQ4, lq4, yq4, zq4⟩, st4⟩ := Jvm.LawKit.callS X3 hx (y := (⟨"java/util/Arrays", "binarySearch", "([IIII)I"⟩ : MethodName)) hown (mvT hZ (w33 hw)) (mvT hZ (w34 hw)) (mvT hZ (w35 hw)) (mvT hZ (w36 hw)) (by decide) (backOf (W := 0) (rm_bs_010 l Z a0 hw [] ax kx key x0 h0 n0 (Nat.le_trans Z0 (Nat.le_refl _)) H5 hr) hZ (w36 hw) (w35 hw) (by decide) (by decide)) (g := (mkF m 13 #[rv a1, iv key, iv line, .unset, .unset, .unset] [(.int key), (.int 1), (.int 0), (.ref ax)])) rfl (by rw [hml]; rfl) (argsL := [(.ref ax), (.int 0), (.int 1), (.int key)]) (rest := []) (lenOf pd_1 rfl) rfl (by show 2 * 0 + _ ≤ _; exact Nat.le_of_eq rfl) (hb hby d5_13) (fun _ _ => ⟨rfl, e3, (by decide : 0 + 0 ≤ _), (by decide : 0 + 0 ≤ _)⟩)
  dsimp only [Pt.U, Pt.locs, Pt.cells, Pt.slots] at X4 lq4 yq4 zq4 st4 hQ4
  subst lq4 yq4 zq4
  obtain ⟨h4, e4⟩ : ∃ z, T4.heap = z := ⟨_, rfl⟩
  rw [e4] at hQ4
  obtain ⟨r_4, rfl, N4q, he4, hres_4⟩ := hQ4
  have N4 := Fr.app N0 N4q
  rw [he4] at e4
  refine go_st st4 ?_
  show Go _ _ _ _ (T4.setTop (mkF m 16 #[rv a1, iv key, iv line, .unset, .unset, .unset] [(.int r_4)]))
  rcases hres_4 with rfl | rfl
  · skip
    show Go _ _ _ _ (T4.setTop (mkF m 16 #[rv a1, iv key, iv line, .unset, .unset, .unset] [(.int 0)]))
    refine go_st (fun t k => XS.istoreN X4.here hx rfl (hb hby d5_16) rfl (l' := #[rv a1, iv key, iv line, iv 0, .unset, .unset]) rfl k) ?_
    refine go_st (fun t k => XS.iloadN X4.here hx rfl (hb hby d5_17) rfl k) ?_
    show Go _ _ _ _ (T4.setTop (mkF m 18 #[rv a1, iv key, iv line, iv 0, .unset, .unset] [(.int 0)]))
    refine go_st (fun t k => XS.ifNo X4.here hx rfl (hb hby d5_18) rfl ((if0 _ _).trans (flt ((by decide) : ¬ ((0 : Int32) < (0 : Int32)))).1) k) ?_
    show Go _ _ _ _ (T4.setTop (mkF m 21 #[rv a1, iv key, iv line, iv 0, .unset, .unset] []))
    refine go_st (fun t k => XS.iloadN X4.here hx rfl (hb hby d5_21) rfl k) ?_
    refine go_st (fun t k => XS.goto X4.here hx rfl (pc0 := 22) (pc' := 29) rfl (hb hby d5_22) (by decide) (by decide) k) ?_
    show Go _ _ _ _ (T4.setTop (mkF m 29 #[rv a1, iv key, iv line, iv 0, .unset, .unset] [(.int 0)]))
    refine go_st (fun t k => XS.iconst X4.here hx rfl (hb hby d5_29) k) ?_
    show Go _ _ _ _ (T4.setTop (mkF m 30 #[rv a1, iv key, iv line, iv 0, .unset, .unset] [(.int 1), (.int 0)]))
    refine go_st (fun t k => XS.isub X4.here hx rfl (hb hby d5_30) rfl k) ?_
    rw [show ((0 : Int32) - (1 : Int32)) = (-1 : Int32) from by decide]
    show Go _ _ _ _ (T4.setTop (mkF m 31 #[rv a1, iv key, iv line, iv 0, .unset, .unset] [(.int (-1))]))
    refine go_st (fun t k => XS.istore X4.here hx rfl (hb hby d5_31) rfl (l' := #[rv a1, iv key, iv line, iv 0, iv (-1), .unset]) rfl k) ?_
    refine go_st (fun t k => XS.iloadN X4.here hx rfl (hb hby d5_33) rfl k) ?_
    refine go_st (fun t k => XS.istore X4.here hx rfl (hb hby d5_34) rfl (l' := #[rv a1, iv key, iv line, iv 0, iv (-1), iv line]) rfl k) ?_
    refine go_st (fun t k => XS.iload X4.here hx rfl (hb hby d5_36) rfl k) ?_
    refine go_st (fun t k => XS.aloadN X4.here hx rfl (hb hby d5_38) rfl rfl k) ?_
    show Go _ _ _ _ (T4.setTop (mkF m 39 #[rv a1, iv key, iv line, iv 0, iv (-1), iv line] [(.ref a1), (.int (-1))]))
    obtain ⟨T5, X5, e5, st5⟩ := getF X4 hx hZ hown (host := "") (Or.inl (w31 hw)) Via.refl e4 H3 (g := (mkF m 39 #[rv a1, iv key, iv line, iv 0, iv (-1), iv line] [(.ref a1), (.int (-1))])) rfl rfl (hb hby d5_39)
    refine go_st (fun t k => st5 t k) ?_
    show Go _ _ _ _ (T5.setTop (mkF m 42 #[rv a1, iv key, iv line, iv 0, iv (-1), iv line] [(.int 0), (.int (-1))]))
    refine go_st (fun t k => XS.icmpYes X5.here hx rfl (pc0 := 42) (pc' := 60) rfl (hb hby d5_42) rfl (tlt ((by decide) : (-1 : Int32) < (0 : Int32))).1 (by decide) (by decide) k) ?_
    show Go _ _ _ _ (T5.setTop (mkF m 60 #[rv a1, iv key, iv line, iv 0, iv (-1), iv line] []))
    refine go_st (fun t k => XS.iload X5.here hx rfl (hb hby d5_60) rfl k) ?_
    show Go _ _ _ _ (T5.setTop (mkF m 62 #[rv a1, iv key, iv line, iv 0, iv (-1), iv line] [(.int line)]))
    obtain ⟨fs, hr, hrun, hended, hW, hsame⟩ := X5.leave (v := some (.int line)) (fun h => by rw [Bd.returns] at h; cases h)
    refine ⟨_, _, ?_, hrun, hended, _, _, rfl, ?_, ⟨_, rfl⟩, hW, hsame.mono (by decide) (by decide)⟩
    · exact retI X5 hx Bd.returns (hb hby d5_62) hr
    · show Q_lb_010 _ _ _ _ _ _ _ _ _ _ _ _ _ T5.heap _
      rw [e5]
      exact ⟨rfl, N4, (Keep.refl h0 [a1]), H0, H1, H2, H3, H4, H5, H6⟩
  · skip
    show Go _ _ _ _ (T4.setTop (mkF m 16 #[rv a1, iv key, iv line, .unset, .unset, .unset] [(.int (-1))]))
    refine go_st (fun t k => XS.istoreN X4.here hx rfl (hb hby d5_16) rfl (l' := #[rv a1, iv key, iv line, iv (-1), .unset, .unset]) rfl k) ?_
    refine go_st (fun t k => XS.iloadN X4.here hx rfl (hb hby d5_17) rfl k) ?_
    show Go _ _ _ _ (T4.setTop (mkF m 18 #[rv a1, iv key, iv line, iv (-1), .unset, .unset] [(.int (-1))]))
    refine go_st (fun t k => XS.ifYes X4.here hx rfl (pc0 := 18) (pc' := 25) rfl (hb hby d5_18) rfl ((if0 _ _).trans (tlt ((by decide) : (-1 : Int32) < (0 : Int32))).1) (by decide) (by decide) k) ?_
    show Go _ _ _ _ (T4.setTop (mkF m 25 #[rv a1, iv key, iv line, iv (-1), .unset, .unset] []))
    refine go_st (fun t k => XS.iloadN X4.here hx rfl (hb hby d5_25) rfl k) ?_
    show Go _ _ _ _ (T4.setTop (mkF m 26 #[rv a1, iv key, iv line, iv (-1), .unset, .unset] [(.int (-1))]))
    refine go_st (fun t k => XS.ineg X4.here hx rfl (hb hby d5_26) rfl k) ?_
    rw [show (-(-1 : Int32)) = (1 : Int32) from by decide]
    show Go _ _ _ _ (T4.setTop (mkF m 27 #[rv a1, iv key, iv line, iv (-1), .unset, .unset] [(.int 1)]))
    refine go_st (fun t k => XS.iconst X4.here hx rfl (hb hby d5_27) k) ?_
    show Go _ _ _ _ (T4.setTop (mkF m 28 #[rv a1, iv key, iv line, iv (-1), .unset, .unset] [(.int 1), (.int 1)]))
    refine go_st (fun t k => XS.isub X4.here hx rfl (hb hby d5_28) rfl k) ?_
    rw [show ((1 : Int32) - (1 : Int32)) = (0 : Int32) from by decide]
    show Go _ _ _ _ (T4.setTop (mkF m 29 #[rv a1, iv key, iv line, iv (-1), .unset, .unset] [(.int 0)]))
    refine go_st (fun t k => XS.iconst X4.here hx rfl (hb hby d5_29) k) ?_
    show Go _ _ _ _ (T4.setTop (mkF m 30 #[rv a1, iv key, iv line, iv (-1), .unset, .unset] [(.int 1), (.int 0)]))
    refine go_st (fun t k => XS.isub X4.here hx rfl (hb hby d5_30) rfl k) ?_
    rw [show ((0 : Int32) - (1 : Int32)) = (-1 : Int32) from by decide]
    show Go _ _ _ _ (T4.setTop (mkF m 31 #[rv a1, iv key, iv line, iv (-1), .unset, .unset] [(.int (-1))]))
    refine go_st (fun t k => XS.istore X4.here hx rfl (hb hby d5_31) rfl (l' := #[rv a1, iv key, iv line, iv (-1), iv (-1), .unset]) rfl k) ?_
    refine go_st (fun t k => XS.iloadN X4.here hx rfl (hb hby d5_33) rfl k) ?_
    refine go_st (fun t k => XS.istore X4.here hx rfl (hb hby d5_34) rfl (l' := #[rv a1, iv key, iv line, iv (-1), iv (-1), iv line]) rfl k) ?_
    refine go_st (fun t k => XS.iload X4.here hx rfl (hb hby d5_36) rfl k) ?_
    refine go_st (fun t k => XS.aloadN X4.here hx rfl (hb hby d5_38) rfl rfl k) ?_
    show Go _ _ _ _ (T4.setTop (mkF m 39 #[rv a1, iv key, iv line, iv (-1), iv (-1), iv line] [(.ref a1), (.int (-1))]))
    obtain ⟨T6, X6, e6, st6⟩ := getF X4 hx hZ hown (host := "") (Or.inl (w31 hw)) Via.refl e4 H3 (g := (mkF m 39 #[rv a1, iv key, iv line, iv (-1), iv (-1), iv line] [(.ref a1), (.int (-1))])) rfl rfl (hb hby d5_39)
    refine go_st (fun t k => st6 t k) ?_
    show Go _ _ _ _ (T6.setTop (mkF m 42 #[rv a1, iv key, iv line, iv (-1), iv (-1), iv line] [(.int 0), (.int (-1))]))
    refine go_st (fun t k => XS.icmpYes X6.here hx rfl (pc0 := 42) (pc' := 60) rfl (hb hby d5_42) rfl (tlt ((by decide) : (-1 : Int32) < (0 : Int32))).1 (by decide) (by decide) k) ?_
    show Go _ _ _ _ (T6.setTop (mkF m 60 #[rv a1, iv key, iv line, iv (-1), iv (-1), iv line] []))
    refine go_st (fun t k => XS.iload X6.here hx rfl (hb hby d5_60) rfl k) ?_
    show Go _ _ _ _ (T6.setTop (mkF m 62 #[rv a1, iv key, iv line, iv (-1), iv (-1), iv line] [(.int line)]))
    obtain ⟨fs, hr, hrun, hended, hW, hsame⟩ := X6.leave (v := some (.int line)) (fun h => by rw [Bd.returns] at h; cases h)
    refine ⟨_, _, ?_, hrun, hended, _, _, rfl, ?_, ⟨_, rfl⟩, hW, hsame.mono (by decide) (by decide)⟩
    · exact retI X6 hx Bd.returns (hb hby d5_62) hr
    · show Q_lb_010 _ _ _ _ _ _ _ _ _ _ _ _ _ T6.heap _
      rw [e6]
      exact ⟨rfl, N4, (Keep.refl h0 [a1]), H0, H1, H2, H3, H4, H5, H6⟩
def Q_bs0_011 (Z : State) (ax : Addr) (kx : ClassId) (key : Int32) (x0 : Int32) (h0 : Heap) (n0 : Nat) (vR : Option Value) (h : Heap) (L : List Loc) : Prop := ∃ (r : Int32), vR = some (.int r) ∧ Fr n0 L ∧ h = h0 ∧ (r = (1 : Int32) ∨ r = (-2 : Int32))
theorem ef_bs0_011 (m : MethodId) (x0 : Addr) (x1 : Int32) (x2 : Int32) (x3 : Int32) : entryFrame m #[(.ref x0), (.int x1), (.int x2), (.int x3)] 8 = mkF m 0 #[.val (.ref x0), .val (.int x1), .val (.int x2), .val (.int x3), .unset, .unset, .unset, .unset] [] := by first | (simp [entryFrame, mkF, argsToLocals, Value.category]; done) | rfl
set_option maxRecDepth 65536 in
set_option maxHeartbeats 40000000 in
theorem rm_bs0_011 (l : Launch) (Z : State) (a0 : Array Value) (hw : ∀ d ∈ tables_1, d.before a0 Z = true) (ws : List Jvm.Cond) (ax : Addr) (kx : ClassId) (key : Int32) (x0 : Int32) (h0 : Heap) (n0 : Nat) (Z0 : n0 ≤ h0.size) (H0 : Arv Z h0 ax kx .int (64 : Int32) [(.int x0)] (.int (0 : Int32))) (hl : x0 < key) :
    MetFree l (⟨"java/util/Arrays", "binarySearch0", "([IIII)I"⟩ : MethodName) (head1 (Jvm.Cond.code (⟨"java/util/Arrays", "binarySearch0", "([IIII)I"⟩ : MethodName) jdk_65_method_59_code 8 (some .int) :: ws) ({ frames := 0, cells := 0, slots := 0, locals := 0 } : Room)) (fun a U => a = #[(.ref ax), (.int 0), (.int 1), (.int key)] ∧ Z.Warmed39 U.vm ∧ U.heap = h0) (fun _ _ _ _ _ => True) (fun _ U o U' => ∃ v L, o = .returned v ∧ Q_bs0_011 Z ax kx key x0 h0 n0 v U'.heap L ∧ FrameEnd U o U' L ({ frames := 0, cells := 0, slots := 0, locals := 0 } : Room).cells ({ frames := 0, cells := 0, slots := 0, locals := 0 } : Room).slots) := by
  refine MetFree.of_bodySF (plainFor_of_name pn_java_util_Arrays) hisR ?_
  intro p e s m args below meth c s₁ Bd hml0 hP hK
  obtain ⟨rfl, hZ, hh⟩ := hP
  have hx := Bd.exec
  have hby := Bd.bytes
  have hml : c.maxLocals = 8 := hml0
  have hown : s.vm.findClass "java/util/Arrays" = some m.cls := findClass_of_methodNamed Bd.named
  have hnm := (name_of_methodNamed Bd.named Bd.method).1
  have X0 : Stand p l e ({ frames := 0, cells := 0, slots := 0, locals := 0 } : Room) s m #[(.ref ax), (.int 0), (.int 1), (.int key)] below meth c s₁ [] 0 0 := Stand.of_body Bd
  have e0 : s₁.heap = h0 := by rw [← hh, Bd.state]; rfl
  have N0 := Fr.nil n0
  refine go_st (fun t k => castTop (ef_bs0_011 m ax (0 : Int32) (1 : Int32) key) k) ?_
  show Go _ _ _ _ (s₁.setTop (mkF m 0 #[rv ax, iv 0, iv 1, iv key, .unset, .unset, .unset, .unset] []))
  refine go_st (fun t k => XS.iloadN X0.here hx rfl (hb hby d3_0) rfl k) ?_
  refine go_st (fun t k => XS.istore X0.here hx rfl (hb hby d3_1) rfl (l' := #[rv ax, iv 0, iv 1, iv key, iv 0, .unset, .unset, .unset]) rfl k) ?_
  refine go_st (fun t k => XS.iloadN X0.here hx rfl (hb hby d3_3) rfl k) ?_
  refine go_st (fun t k => XS.iconst X0.here hx rfl (hb hby d3_4) k) ?_
  show Go _ _ _ _ (s₁.setTop (mkF m 5 #[rv ax, iv 0, iv 1, iv key, iv 0, .unset, .unset, .unset] [(.int 1), (.int 1)]))
  refine go_st (fun t k => XS.isub X0.here hx rfl (hb hby d3_5) rfl k) ?_
  rw [show ((1 : Int32) - (1 : Int32)) = (0 : Int32) from by decide]
  show Go _ _ _ _ (s₁.setTop (mkF m 6 #[rv ax, iv 0, iv 1, iv key, iv 0, .unset, .unset, .unset] [(.int 0)]))
  refine go_st (fun t k => XS.istore X0.here hx rfl (hb hby d3_6) rfl (l' := #[rv ax, iv 0, iv 1, iv key, iv 0, iv 0, .unset, .unset]) rfl k) ?_
  refine go_st (fun t k => XS.iload X0.here hx rfl (hb hby d3_8) rfl k) ?_
  refine go_st (fun t k => XS.iload X0.here hx rfl (hb hby d3_10) rfl k) ?_
  show Go _ _ _ _ (s₁.setTop (mkF m 12 #[rv ax, iv 0, iv 1, iv key, iv 0, iv 0, .unset, .unset] [(.int 0), (.int 0)]))
  refine go_st (fun t k => XS.icmpNo X0.here hx rfl (hb hby d3_12) rfl (flt ((by decide) : ¬ ((0 : Int32) < (0 : Int32)))).2.2.1 k) ?_
  show Go _ _ _ _ (s₁.setTop (mkF m 15 #[rv ax, iv 0, iv 1, iv key, iv 0, iv 0, .unset, .unset] []))
  refine go_st (fun t k => XS.iload X0.here hx rfl (hb hby d3_15) rfl k) ?_
  refine go_st (fun t k => XS.iload X0.here hx rfl (hb hby d3_17) rfl k) ?_
  show Go _ _ _ _ (s₁.setTop (mkF m 19 #[rv ax, iv 0, iv 1, iv key, iv 0, iv 0, .unset, .unset] [(.int 0), (.int 0)]))
  refine go_st (fun t k => XS.iadd X0.here hx rfl (hb hby d3_19) rfl k) ?_
  rw [show ((0 : Int32) + (0 : Int32)) = (0 : Int32) from by decide]
  show Go _ _ _ _ (s₁.setTop (mkF m 20 #[rv ax, iv 0, iv 1, iv key, iv 0, iv 0, .unset, .unset] [(.int 0)]))
  refine go_st (fun t k => XS.iconst X0.here hx rfl (hb hby d3_20) k) ?_
  show Go _ _ _ _ (s₁.setTop (mkF m 21 #[rv ax, iv 0, iv 1, iv key, iv 0, iv 0, .unset, .unset] [(.int 1), (.int 0)]))
  refine go_st (fun t k => XS.iushr X0.here hx rfl (hb hby d3_21) rfl k) ?_
  rw [show (((0 : Int32)).toUInt32 >>> ((1 : Int32) &&& 31).toUInt32).toInt32 = (0 : Int32) from by decide]
  show Go _ _ _ _ (s₁.setTop (mkF m 22 #[rv ax, iv 0, iv 1, iv key, iv 0, iv 0, .unset, .unset] [(.int 0)]))
  refine go_st (fun t k => XS.istore X0.here hx rfl (hb hby d3_22) rfl (l' := #[rv ax, iv 0, iv 1, iv key, iv 0, iv 0, iv 0, .unset]) rfl k) ?_
  refine go_st (fun t k => XS.aloadN X0.here hx rfl (hb hby d3_24) rfl rfl k) ?_
  refine go_st (fun t k => XS.iload X0.here hx rfl (hb hby d3_25) rfl k) ?_
  show Go _ _ _ _ (s₁.setTop (mkF m 27 #[rv ax, iv 0, iv 1, iv key, iv 0, iv 0, iv 0, .unset] [(.int 0), (.ref ax)]))
  obtain ⟨zc1, zA1, zq1, zS1, zN1, zH1, zG1⟩ := id H0
  have hin1 : ¬ ((0 : Int32) < 0 ∨ zc1.slots.size ≤ ((0 : Int32)).toNatClampNeg) := inb_of zS1 ⟨by decide, by decide⟩
  have hat1 : zc1.slots[((0 : Int32)).toNatClampNeg]? = some (.int x0) := Has.at zH1 hin1 rfl
  refine go_st (fun t k => X0.iaload hx (j := (0 : Int32)) (v := (.int x0)) (by rw [e0]; exact zA1.1) (State.isArrayOf_alike hZ.alike zA1.2.1) zA1.2.2 hin1 hat1 (g := (mkF m 27 #[rv ax, iv 0, iv 1, iv key, iv 0, iv 0, iv 0, .unset] [(.int 0), (.ref ax)])) rfl rfl (hb hby d3_27) t k) ?_
  refine go_st (fun t k => XS.istore X0.here hx rfl (hb hby d3_28) rfl (l' := #[rv ax, iv 0, iv 1, iv key, iv 0, iv 0, iv 0, iv x0]) rfl k) ?_
  refine go_st (fun t k => XS.iload X0.here hx rfl (hb hby d3_30) rfl k) ?_
  refine go_st (fun t k => XS.iloadN X0.here hx rfl (hb hby d3_32) rfl k) ?_
  show Go _ _ _ _ (s₁.setTop (mkF m 33 #[rv ax, iv 0, iv 1, iv key, iv 0, iv 0, iv 0, iv x0] [(.int key), (.int x0)]))
  refine go_st (fun t k => XS.icmpNo X0.here hx rfl (hb hby d3_33) rfl (tlt (hl : x0 < key)).2.1 k) ?_
  show Go _ _ _ _ (s₁.setTop (mkF m 36 #[rv ax, iv 0, iv 1, iv key, iv 0, iv 0, iv 0, iv x0] []))
  refine go_st (fun t k => XS.iload X0.here hx rfl (hb hby d3_36) rfl k) ?_
  refine go_st (fun t k => XS.iconst X0.here hx rfl (hb hby d3_38) k) ?_
  show Go _ _ _ _ (s₁.setTop (mkF m 39 #[rv ax, iv 0, iv 1, iv key, iv 0, iv 0, iv 0, iv x0] [(.int 1), (.int 0)]))
  refine go_st (fun t k => XS.iadd X0.here hx rfl (hb hby d3_39) rfl k) ?_
  rw [show ((0 : Int32) + (1 : Int32)) = (1 : Int32) from by decide]
  show Go _ _ _ _ (s₁.setTop (mkF m 40 #[rv ax, iv 0, iv 1, iv key, iv 0, iv 0, iv 0, iv x0] [(.int 1)]))
  refine go_st (fun t k => XS.istore X0.here hx rfl (hb hby d3_40) rfl (l' := #[rv ax, iv 0, iv 1, iv key, iv 1, iv 0, iv 0, iv x0]) rfl k) ?_
  refine go_st (fun t k => XS.goto X0.here hx rfl (pc0 := 42) (pc' := 63) rfl (hb hby d3_42) (by decide) (by decide) k) ?_
  show Go _ _ _ _ (s₁.setTop (mkF m 63 #[rv ax, iv 0, iv 1, iv key, iv 1, iv 0, iv 0, iv x0] []))
  refine go_st (fun t k => XS.goto X0.here hx rfl (pc0 := 63) (pc' := 8) rfl (hb hby d3_63) (by decide) (by decide) k) ?_
  show Go _ _ _ _ (s₁.setTop (mkF m 8 #[rv ax, iv 0, iv 1, iv key, iv 1, iv 0, iv 0, iv x0] []))
  refine go_st (fun t k => XS.iload X0.here hx rfl (hb hby d3_8) rfl k) ?_
  refine go_st (fun t k => XS.iload X0.here hx rfl (hb hby d3_10) rfl k) ?_
  show Go _ _ _ _ (s₁.setTop (mkF m 12 #[rv ax, iv 0, iv 1, iv key, iv 1, iv 0, iv 0, iv x0] [(.int 0), (.int 1)]))
  refine go_st (fun t k => XS.icmpYes X0.here hx rfl (pc0 := 12) (pc' := 66) rfl (hb hby d3_12) rfl (tlt ((by decide) : (0 : Int32) < (1 : Int32))).2.2.1 (by decide) (by decide) k) ?_
  show Go _ _ _ _ (s₁.setTop (mkF m 66 #[rv ax, iv 0, iv 1, iv key, iv 1, iv 0, iv 0, iv x0] []))
  refine go_st (fun t k => XS.iload X0.here hx rfl (hb hby d3_66) rfl k) ?_
  refine go_st (fun t k => XS.iconst X0.here hx rfl (hb hby d3_68) k) ?_
  show Go _ _ _ _ (s₁.setTop (mkF m 69 #[rv ax, iv 0, iv 1, iv key, iv 1, iv 0, iv 0, iv x0] [(.int 1), (.int 1)]))
  refine go_st (fun t k => XS.iadd X0.here hx rfl (hb hby d3_69) rfl k) ?_
  rw [show ((1 : Int32) + (1 : Int32)) = (2 : Int32) from by decide]
  show Go _ _ _ _ (s₁.setTop (mkF m 70 #[rv ax, iv 0, iv 1, iv key, iv 1, iv 0, iv 0, iv x0] [(.int 2)]))
  refine go_st (fun t k => XS.ineg X0.here hx rfl (hb hby d3_70) rfl k) ?_
  rw [show (-(2 : Int32)) = (-2 : Int32) from by decide]
  show Go _ _ _ _ (s₁.setTop (mkF m 71 #[rv ax, iv 0, iv 1, iv key, iv 1, iv 0, iv 0, iv x0] [(.int (-2))]))
  obtain ⟨fs, hr, hrun, hended, hW, hsame⟩ := X0.leave (v := some (.int (-2))) (fun h => by rw [Bd.returns] at h; cases h)
  refine ⟨_, _, ?_, hrun, hended, _, _, rfl, ?_, ⟨_, rfl⟩, hW, hsame.mono (by decide) (by decide)⟩
  · exact retI X0 hx Bd.returns (hb hby d3_71) hr
  · show Q_bs0_011 _ _ _ _ _ _ _ _ s₁.heap _
    rw [e0]
    exact ⟨(-2 : Int32), rfl, N0, rfl, (Or.inr rfl)⟩
def Q_bs_011 (Z : State) (ax : Addr) (kx : ClassId) (key : Int32) (x0 : Int32) (h0 : Heap) (n0 : Nat) (vR : Option Value) (h : Heap) (L : List Loc) : Prop := ∃ (r : Int32), vR = some (.int r) ∧ Fr n0 L ∧ h = h0 ∧ (r = (1 : Int32) ∨ r = (-2 : Int32))
theorem ef_bs_011 (m : MethodId) (x0 : Addr) (x1 : Int32) (x2 : Int32) (x3 : Int32) : entryFrame m #[(.ref x0), (.int x1), (.int x2), (.int x3)] 4 = mkF m 0 #[.val (.ref x0), .val (.int x1), .val (.int x2), .val (.int x3)] [] := by first | (simp [entryFrame, mkF, argsToLocals, Value.category]; done) | rfl
set_option maxRecDepth 65536 in
set_option maxHeartbeats 40000000 in
theorem rm_bs_011 (l : Launch) (Z : State) (a0 : Array Value) (hw : ∀ d ∈ tables_1, d.before a0 Z = true) (ws : List Jvm.Cond) (ax : Addr) (kx : ClassId) (key : Int32) (x0 : Int32) (h0 : Heap) (n0 : Nat) (Z0 : n0 ≤ h0.size) (H0 : Arv Z h0 ax kx .int (64 : Int32) [(.int x0)] (.int (0 : Int32))) (hl : x0 < key) :
    MetFree l (⟨"java/util/Arrays", "binarySearch", "([IIII)I"⟩ : MethodName) (head1 (Jvm.Cond.code (⟨"java/util/Arrays", "binarySearch", "([IIII)I"⟩ : MethodName) jdk_65_method_58_code 4 (some .int) :: ws) ({ frames := 1, cells := 0, slots := 0, locals := 19 } : Room)) (fun a U => a = #[(.ref ax), (.int 0), (.int 1), (.int key)] ∧ Z.Warmed39 U.vm ∧ U.heap = h0) (fun _ _ _ _ _ => True) (fun _ U o U' => ∃ v L, o = .returned v ∧ Q_bs_011 Z ax kx key x0 h0 n0 v U'.heap L ∧ FrameEnd U o U' L ({ frames := 1, cells := 0, slots := 0, locals := 19 } : Room).cells ({ frames := 1, cells := 0, slots := 0, locals := 19 } : Room).slots) := by
  refine MetFree.of_bodySF (plainFor_of_name pn_java_util_Arrays) hisR ?_
  intro p e s m args below meth c s₁ Bd hml0 hP hK
  obtain ⟨rfl, hZ, hh⟩ := hP
  have hx := Bd.exec
  have hby := Bd.bytes
  have hml : c.maxLocals = 4 := hml0
  have hown : s.vm.findClass "java/util/Arrays" = some m.cls := findClass_of_methodNamed Bd.named
  have hnm := (name_of_methodNamed Bd.named Bd.method).1
  have X0 : Stand p l e ({ frames := 1, cells := 0, slots := 0, locals := 19 } : Room) s m #[(.ref ax), (.int 0), (.int 1), (.int key)] below meth c s₁ [] 0 0 := Stand.of_body Bd
  have e0 : s₁.heap = h0 := by rw [← hh, Bd.state]; rfl
  have N0 := Fr.nil n0
  refine go_st (fun t k => castTop (ef_bs_011 m ax (0 : Int32) (1 : Int32) key) k) ?_
  show Go _ _ _ _ (s₁.setTop (mkF m 0 #[rv ax, iv 0, iv 1, iv key] []))
  refine go_st (fun t k => XS.aloadN X0.here hx rfl (hb hby d4_0) rfl rfl k) ?_
  show Go _ _ _ _ (s₁.setTop (mkF m 1 #[rv ax, iv 0, iv 1, iv key] [(.ref ax)]))
  obtain ⟨zc1, zA1, zq1, zS1, zN1, zH1, zG1⟩ := id H0
  refine go_st (fun t k => X0.arraylength hx (by rw [e0]; exact zA1.1) (State.isArrayOf_alike hZ.alike zA1.2.1) (g := (mkF m 1 #[rv ax, iv 0, iv 1, iv key] [(.ref ax)])) rfl rfl (hb hby d4_1) t k) ?_
  rw [len_of zS1 zN1]
  refine go_st (fun t k => XS.iloadN X0.here hx rfl (hb hby d4_2) rfl k) ?_
  refine go_st (fun t k => XS.iloadN X0.here hx rfl (hb hby d4_3) rfl k) ?_
  show Go _ _ _ _ (s₁.setTop (mkF m 4 #[rv ax, iv 0, iv 1, iv key] [(.int 1), (.int 0), (.int 64)]))
  obtain ⟨_, _, ⟨T2, L2, kk2, nn2⟩, -, X2, ⟨Lc2, hQ2, lq2, yq2, zq2⟩, st2⟩ := Jvm.LawKit.callS X0 hx (y := (⟨"java/util/Arrays", "rangeCheck", "(III)V"⟩ : MethodName)) hown (mvT hZ (w37 hw)) (mvT hZ (w38 hw)) (mvT hZ (w35 hw)) (mvT hZ (w39 hw)) (by decide) (backOf (W := 0) (rm_rc_01 l Z a0 hw []  h0 n0 (Nat.le_trans Z0 (Nat.le_refl _)) ) hZ (w39 hw) (w35 hw) (by decide) (by decide)) (g := (mkF m 4 #[rv ax, iv 0, iv 1, iv key] [(.int 1), (.int 0), (.int 64)])) rfl (by rw [hml]; rfl) (argsL := [(.int 64), (.int 0), (.int 1)]) (rest := []) (lenOf pd_0 rfl) rfl (by show 2 * 0 + _ ≤ _; exact Nat.le_of_eq rfl) (hb hby d4_4) (fun _ _ => ⟨rfl, e0, (by decide : 0 + 0 ≤ _), (by decide : 0 + 0 ≤ _)⟩)
  dsimp only [Pt.U, Pt.locs, Pt.cells, Pt.slots] at X2 lq2 yq2 zq2 st2 hQ2
  subst lq2 yq2 zq2
  obtain ⟨h2, e2⟩ : ∃ z, T2.heap = z := ⟨_, rfl⟩
  rw [e2] at hQ2
  obtain ⟨rfl, N2q, he2⟩ := hQ2
  have N2 := Fr.app N0 N2q
  rw [he2] at e2
  refine go_st st2 ?_
  show Go _ _ _ _ (T2.setTop (mkF m 7 #[rv ax, iv 0, iv 1, iv key] []))
  refine go_st (fun t k => XS.aloadN X2.here hx rfl (hb hby d4_7) rfl rfl k) ?_
  refine go_st (fun t k => XS.iloadN X2.here hx rfl (hb hby d4_8) rfl k) ?_
  refine go_st (fun t k => XS.iloadN X2.here hx rfl (hb hby d4_9) rfl k) ?_
  refine go_st (fun t k => XS.iloadN X2.here hx rfl (hb hby d4_10) rfl k) ?_
  show Go _ _ _ _ (T2.setTop (mkF m 11 #[rv ax, iv 0, iv 1, iv key] [(.int key), (.int 1), (.int 0), (.ref ax)]))
  obtain ⟨_, _, ⟨T3, L3, kk3, nn3⟩, -, X3, ⟨Lc3, hQ3, lq3, yq3, zq3⟩, st3⟩ := Jvm.LawKit.callS X2 hx (y := (⟨"java/util/Arrays", "binarySearch0", "([IIII)I"⟩ : MethodName)) hown (mvT hZ (w40 hw)) (mvT hZ (w41 hw)) (mvT hZ (w35 hw)) (mvT hZ (w42 hw)) (by decide) (backOf (W := 0) (rm_bs0_011 l Z a0 hw [] ax kx key x0 h0 n0 (Nat.le_trans Z0 (Nat.le_refl _)) H0 hl) hZ (w42 hw) (w35 hw) (by decide) (by decide)) (g := (mkF m 11 #[rv ax, iv 0, iv 1, iv key] [(.int key), (.int 1), (.int 0), (.ref ax)])) rfl (by rw [hml]; rfl) (argsL := [(.ref ax), (.int 0), (.int 1), (.int key)]) (rest := []) (lenOf pd_1 rfl) rfl (by show 2 * 0 + _ ≤ _; exact Nat.le_of_eq rfl) (hb hby d4_11) (fun _ _ => ⟨rfl, e2, (by decide : 0 + 0 ≤ _), (by decide : 0 + 0 ≤ _)⟩)
  dsimp only [Pt.U, Pt.locs, Pt.cells, Pt.slots] at X3 lq3 yq3 zq3 st3 hQ3
  subst lq3 yq3 zq3
  obtain ⟨h3, e3⟩ : ∃ z, T3.heap = z := ⟨_, rfl⟩
  rw [e3] at hQ3
  obtain ⟨r_3, rfl, N3q, he3, hres_3⟩ := hQ3
  have N3 := Fr.app N2 N3q
  rw [he3] at e3
  refine go_st st3 ?_
  show Go _ _ _ _ (T3.setTop (mkF m 14 #[rv ax, iv 0, iv 1, iv key] [(.int r_3)]))
  obtain ⟨fs, hr, hrun, hended, hW, hsame⟩ := X3.leave (v := some (.int r_3)) (fun h => by rw [Bd.returns] at h; cases h)
  refine ⟨_, _, ?_, hrun, hended, _, _, rfl, ?_, ⟨_, rfl⟩, hW, hsame.mono (by decide) (by decide)⟩
  · exact retI X3 hx Bd.returns (hb hby d4_14) hr
  · show Q_bs_011 _ _ _ _ _ _ _ _ T3.heap _
    rw [e3]
    exact ⟨r_3, rfl, N3, rfl, hres_3⟩
def Q_lb_011 (Z : State) (a1 : Addr) (ax : Addr) (al : Addr) (kx : ClassId) (kl : ClassId) (key : Int32) (line : Int32) (x0 : Int32) (l0 : Int32) (h0 : Heap) (n0 : Nat) (vR : Option Value) (h : Heap) (L : List Loc) : Prop := vR = some (.int l0) ∧ Fr n0 L ∧ Keep h0 h [a1] ∧ (Exa Z h a1 cBE) ∧ (Fld Z h a1 cBE "indexes" "[I" (.ref ax)) ∧ (Fld Z h a1 cBE "lines" "[I" (.ref al)) ∧ (Fld Z h a1 cBE "first" "I" (.int 0)) ∧ (Fld Z h a1 cBE "count" "I" (.int 1)) ∧ (Arv Z h ax kx .int (64 : Int32) [(.int x0)] (.int (0 : Int32))) ∧ (Arv Z h al kl .int (64 : Int32) [(.int l0)] (.int (0 : Int32)))
theorem ef_lb_011 (m : MethodId) (x0 : Addr) (x1 : Int32) (x2 : Int32) : entryFrame m #[(.ref x0), (.int x1), (.int x2)] 6 = mkF m 0 #[.val (.ref x0), .val (.int x1), .val (.int x2), .unset, .unset, .unset] [] := by first | (simp [entryFrame, mkF, argsToLocals, Value.category]; done) | rfl
set_option maxRecDepth 65536 in
set_option maxHeartbeats 40000000 in
theorem rm_lb_011 (l : Launch) (Z : State) (a0 : Array Value) (hw : ∀ d ∈ tables_1, d.before a0 Z = true) (ws : List Jvm.Cond) (a1 : Addr) (ax : Addr) (al : Addr) (kx : ClassId) (kl : ClassId) (key : Int32) (line : Int32) (x0 : Int32) (l0 : Int32) (h0 : Heap) (n0 : Nat) (Z0 : n0 ≤ h0.size) (H0 : Exa Z h0 a1 cBE) (H1 : Fld Z h0 a1 cBE "indexes" "[I" (.ref ax)) (H2 : Fld Z h0 a1 cBE "lines" "[I" (.ref al)) (H3 : Fld Z h0 a1 cBE "first" "I" (.int 0)) (H4 : Fld Z h0 a1 cBE "count" "I" (.int 1)) (H5 : Arv Z h0 ax kx .int (64 : Int32) [(.int x0)] (.int (0 : Int32))) (H6 : Arv Z h0 al kl .int (64 : Int32) [(.int l0)] (.int (0 : Int32))) (ne_a1_ax : a1 ≠ ax) (ne_a1_al : a1 ≠ al) (ne_ax_al : ax ≠ al) (g_a1 : n0 ≤ a1) (hl : x0 < key) :
    MetFree l (⟨"com/example/nudge/nudge/tree/BlockEntries", "lineBefore", "(II)I"⟩ : MethodName) (head1 (Jvm.Cond.code (⟨"com/example/nudge/nudge/tree/BlockEntries", "lineBefore", "(II)I"⟩ : MethodName) prog_17_method_3_code 6 (some .int) :: ws) ({ frames := 2, cells := 0, slots := 0, locals := 34 } : Room)) (fun a U => a = #[(.ref a1), (.int key), (.int line)] ∧ Z.Warmed39 U.vm ∧ U.heap = h0) (fun _ _ _ _ _ => True) (fun _ U o U' => ∃ v L, o = .returned v ∧ Q_lb_011 Z a1 ax al kx kl key line x0 l0 h0 n0 v U'.heap L ∧ FrameEnd U o U' L ({ frames := 2, cells := 0, slots := 0, locals := 34 } : Room).cells ({ frames := 2, cells := 0, slots := 0, locals := 34 } : Room).slots) := by
  refine MetFree.of_bodySF (plainFor_of_name pn_com_example_nudge_nudge_tree_BlockEntries) hisR ?_
  intro p e s m args below meth c s₁ Bd hml0 hP hK
  obtain ⟨rfl, hZ, hh⟩ := hP
  have hx := Bd.exec
  have hby := Bd.bytes
  have hml : c.maxLocals = 6 := hml0
  have hown : s.vm.findClass "com/example/nudge/nudge/tree/BlockEntries" = some m.cls := findClass_of_methodNamed Bd.named
  have hnm := (name_of_methodNamed Bd.named Bd.method).1
  have X0 : Stand p l e ({ frames := 2, cells := 0, slots := 0, locals := 34 } : Room) s m #[(.ref a1), (.int key), (.int line)] below meth c s₁ [] 0 0 := Stand.of_body Bd
  have e0 : s₁.heap = h0 := by rw [← hh, Bd.state]; rfl
  have N0 := Fr.nil n0
  refine go_st (fun t k => castTop (ef_lb_011 m a1 key line) k) ?_
  show Go _ _ _ _ (s₁.setTop (mkF m 0 #[rv a1, iv key, iv line, .unset, .unset, .unset] []))
  refine go_st (fun t k => XS.aloadN X0.here hx rfl (hb hby d5_0) rfl rfl k) ?_
  show Go _ _ _ _ (s₁.setTop (mkF m 1 #[rv a1, iv key, iv line, .unset, .unset, .unset] [(.ref a1)]))
  obtain ⟨T1, X1, e1, st1⟩ := getF X0 hx hZ hown (host := "") (Or.inl (w15 hw)) Via.refl e0 H1 (g := (mkF m 1 #[rv a1, iv key, iv line, .unset, .unset, .unset] [(.ref a1)])) rfl rfl (hb hby d5_1)
  refine go_st (fun t k => st1 t k) ?_
  refine go_st (fun t k => XS.aloadN X1.here hx rfl (hb hby d5_4) rfl rfl k) ?_
  show Go _ _ _ _ (T1.setTop (mkF m 5 #[rv a1, iv key, iv line, .unset, .unset, .unset] [(.ref a1), (.ref ax)]))
  obtain ⟨T2, X2, e2, st2⟩ := getF X1 hx hZ hown (host := "") (Or.inl (w31 hw)) Via.refl e1 H3 (g := (mkF m 5 #[rv a1, iv key, iv line, .unset, .unset, .unset] [(.ref a1), (.ref ax)])) rfl rfl (hb hby d5_5)
  refine go_st (fun t k => st2 t k) ?_
  refine go_st (fun t k => XS.aloadN X2.here hx rfl (hb hby d5_8) rfl rfl k) ?_
  show Go _ _ _ _ (T2.setTop (mkF m 9 #[rv a1, iv key, iv line, .unset, .unset, .unset] [(.ref a1), (.int 0), (.ref ax)]))
  obtain ⟨T3, X3, e3, st3⟩ := getF X2 hx hZ hown (host := "") (Or.inl (w24 hw)) Via.refl e2 H4 (g := (mkF m 9 #[rv a1, iv key, iv line, .unset, .unset, .unset] [(.ref a1), (.int 0), (.ref ax)])) rfl rfl (hb hby d5_9)
  refine go_st (fun t k => st3 t k) ?_
  refine go_st (fun t k => XS.iloadN X3.here hx rfl (hb hby d5_12) rfl k) ?_
  show Go _ _ _ _ (T3.setTop (mkF m 13 #[rv a1, iv key, iv line, .unset, .unset, .unset] [(.int key), (.int 1), (.int 0), (.ref ax)]))
  obtain ⟨_, _, ⟨T4, L4, kk4, nn4⟩, -, X4, ⟨Lc4, hQ4, lq4, yq4, zq4⟩, st4⟩ := Jvm.LawKit.callS X3 hx (y := (⟨"java/util/Arrays", "binarySearch", "([IIII)I"⟩ : MethodName)) hown (mvT hZ (w33 hw)) (mvT hZ (w34 hw)) (mvT hZ (w35 hw)) (mvT hZ (w36 hw)) (by decide) (backOf (W := 0) (rm_bs_011 l Z a0 hw [] ax kx key x0 h0 n0 (Nat.le_trans Z0 (Nat.le_refl _)) H5 hl) hZ (w36 hw) (w35 hw) (by decide) (by decide)) (g := (mkF m 13 #[rv a1, iv key, iv line, .unset, .unset, .unset] [(.int key), (.int 1), (.int 0), (.ref ax)])) rfl (by rw [hml]; rfl) (argsL := [(.ref ax), (.int 0), (.int 1), (.int key)]) (rest := []) (lenOf pd_1 rfl) rfl (by show 2 * 0 + _ ≤ _; exact Nat.le_of_eq rfl) (hb hby d5_13) (fun _ _ => ⟨rfl, e3, (by decide : 0 + 0 ≤ _), (by decide : 0 + 0 ≤ _)⟩)
  dsimp only [Pt.U, Pt.locs, Pt.cells, Pt.slots] at X4 lq4 yq4 zq4 st4 hQ4
  subst lq4 yq4 zq4
  obtain ⟨h4, e4⟩ : ∃ z, T4.heap = z := ⟨_, rfl⟩
  rw [e4] at hQ4
  obtain ⟨r_4, rfl, N4q, he4, hres_4⟩ := hQ4
  have N4 := Fr.app N0 N4q
  rw [he4] at e4
  refine go_st st4 ?_
  show Go _ _ _ _ (T4.setTop (mkF m 16 #[rv a1, iv key, iv line, .unset, .unset, .unset] [(.int r_4)]))
  rcases hres_4 with rfl | rfl
  · skip
    show Go _ _ _ _ (T4.setTop (mkF m 16 #[rv a1, iv key, iv line, .unset, .unset, .unset] [(.int 1)]))
    refine go_st (fun t k => XS.istoreN X4.here hx rfl (hb hby d5_16) rfl (l' := #[rv a1, iv key, iv line, iv 1, .unset, .unset]) rfl k) ?_
    refine go_st (fun t k => XS.iloadN X4.here hx rfl (hb hby d5_17) rfl k) ?_
    show Go _ _ _ _ (T4.setTop (mkF m 18 #[rv a1, iv key, iv line, iv 1, .unset, .unset] [(.int 1)]))
    refine go_st (fun t k => XS.ifNo X4.here hx rfl (hb hby d5_18) rfl ((if0 _ _).trans (flt ((by decide) : ¬ ((1 : Int32) < (0 : Int32)))).1) k) ?_
    show Go _ _ _ _ (T4.setTop (mkF m 21 #[rv a1, iv key, iv line, iv 1, .unset, .unset] []))
    refine go_st (fun t k => XS.iloadN X4.here hx rfl (hb hby d5_21) rfl k) ?_
    refine go_st (fun t k => XS.goto X4.here hx rfl (pc0 := 22) (pc' := 29) rfl (hb hby d5_22) (by decide) (by decide) k) ?_
    show Go _ _ _ _ (T4.setTop (mkF m 29 #[rv a1, iv key, iv line, iv 1, .unset, .unset] [(.int 1)]))
    refine go_st (fun t k => XS.iconst X4.here hx rfl (hb hby d5_29) k) ?_
    show Go _ _ _ _ (T4.setTop (mkF m 30 #[rv a1, iv key, iv line, iv 1, .unset, .unset] [(.int 1), (.int 1)]))
    refine go_st (fun t k => XS.isub X4.here hx rfl (hb hby d5_30) rfl k) ?_
    rw [show ((1 : Int32) - (1 : Int32)) = (0 : Int32) from by decide]
    show Go _ _ _ _ (T4.setTop (mkF m 31 #[rv a1, iv key, iv line, iv 1, .unset, .unset] [(.int 0)]))
    refine go_st (fun t k => XS.istore X4.here hx rfl (hb hby d5_31) rfl (l' := #[rv a1, iv key, iv line, iv 1, iv 0, .unset]) rfl k) ?_
    refine go_st (fun t k => XS.iloadN X4.here hx rfl (hb hby d5_33) rfl k) ?_
    refine go_st (fun t k => XS.istore X4.here hx rfl (hb hby d5_34) rfl (l' := #[rv a1, iv key, iv line, iv 1, iv 0, iv line]) rfl k) ?_
    refine go_st (fun t k => XS.iload X4.here hx rfl (hb hby d5_36) rfl k) ?_
    refine go_st (fun t k => XS.aloadN X4.here hx rfl (hb hby d5_38) rfl rfl k) ?_
    show Go _ _ _ _ (T4.setTop (mkF m 39 #[rv a1, iv key, iv line, iv 1, iv 0, iv line] [(.ref a1), (.int 0)]))
    obtain ⟨T5, X5, e5, st5⟩ := getF X4 hx hZ hown (host := "") (Or.inl (w31 hw)) Via.refl e4 H3 (g := (mkF m 39 #[rv a1, iv key, iv line, iv 1, iv 0, iv line] [(.ref a1), (.int 0)])) rfl rfl (hb hby d5_39)
    refine go_st (fun t k => st5 t k) ?_
    show Go _ _ _ _ (T5.setTop (mkF m 42 #[rv a1, iv key, iv line, iv 1, iv 0, iv line] [(.int 0), (.int 0)]))
    refine go_st (fun t k => XS.icmpNo X5.here hx rfl (hb hby d5_42) rfl (flt ((by decide) : ¬ ((0 : Int32) < (0 : Int32)))).1 k) ?_
    show Go _ _ _ _ (T5.setTop (mkF m 45 #[rv a1, iv key, iv line, iv 1, iv 0, iv line] []))
    refine go_st (fun t k => XS.aloadN X5.here hx rfl (hb hby d5_45) rfl rfl k) ?_
    show Go _ _ _ _ (T5.setTop (mkF m 46 #[rv a1, iv key, iv line, iv 1, iv 0, iv line] [(.ref a1)]))
    obtain ⟨T6, X6, e6, st6⟩ := getF X5 hx hZ hown (host := "") (Or.inl (w17 hw)) Via.refl e5 H2 (g := (mkF m 46 #[rv a1, iv key, iv line, iv 1, iv 0, iv line] [(.ref a1)])) rfl rfl (hb hby d5_46)
    refine go_st (fun t k => st6 t k) ?_
    refine go_st (fun t k => XS.iload X6.here hx rfl (hb hby d5_49) rfl k) ?_
    show Go _ _ _ _ (T6.setTop (mkF m 51 #[rv a1, iv key, iv line, iv 1, iv 0, iv line] [(.int 0), (.ref al)]))
    obtain ⟨zc7, zA7, zq7, zS7, zN7, zH7, zG7⟩ := id H6
    have hin7 : ¬ ((0 : Int32) < 0 ∨ zc7.slots.size ≤ ((0 : Int32)).toNatClampNeg) := inb_of zS7 ⟨by decide, by decide⟩
    have hat7 : zc7.slots[((0 : Int32)).toNatClampNeg]? = some (.int l0) := Has.at zH7 hin7 rfl
    refine go_st (fun t k => X6.iaload hx (j := (0 : Int32)) (v := (.int l0)) (by rw [e6]; exact zA7.1) (State.isArrayOf_alike hZ.alike zA7.2.1) zA7.2.2 hin7 hat7 (g := (mkF m 51 #[rv a1, iv key, iv line, iv 1, iv 0, iv line] [(.int 0), (.ref al)])) rfl rfl (hb hby d5_51) t k) ?_
    refine go_st (fun t k => XS.istore X6.here hx rfl (hb hby d5_52) rfl (l' := #[rv a1, iv key, iv line, iv 1, iv 0, iv l0]) rfl k) ?_
    refine go_st (fun t k => XS.aloadN X6.here hx rfl (hb hby d5_54) rfl rfl k) ?_
    refine go_st (fun t k => XS.iload X6.here hx rfl (hb hby d5_55) rfl k) ?_
    show Go _ _ _ _ (T6.setTop (mkF m 57 #[rv a1, iv key, iv line, iv 1, iv 0, iv l0] [(.int 0), (.ref a1)]))
    obtain ⟨T8, h8, X8, e8, W8, st8⟩ := putF X6 hx hZ hown (host := "") (Or.inl (w31 hw)) Via.refl e6 H3 H0 (Or.inl (w32 hw)) (w6 hw) (ty := .int) (by decide) rfl rfl (g := (mkF m 57 #[rv a1, iv key, iv line, iv 1, iv 0, iv l0] [(.int 0), (.ref a1)])) rfl rfl (hb hby d5_57)
    have N8 := Fr.snoc X8 N4 g_a1
    have f9 : Fld Z h8 a1 cBE "first" "I" (.int 0) := H3.same W8
    refine go_st (fun t k => st8 t k) ?_
    refine go_st (fun t k => XS.iload X8.here hx rfl (hb hby d5_60) rfl k) ?_
    show Go _ _ _ _ (T8.setTop (mkF m 62 #[rv a1, iv key, iv line, iv 1, iv 0, iv l0] [(.int l0)]))
    have f10 : Exa Z h8 a1 cBE := (H0.wr W8)
    have f11 : Fld Z h8 a1 cBE "indexes" "[I" (.ref ax) := (H1.other W8 (Or.inr (slot_ne (Or.inl (w16 hw)) (Or.inl (w32 hw)) (by decide) (t := (.array .int)) (t' := .int) (by decide) (by decide))))
    have f12 : Fld Z h8 a1 cBE "lines" "[I" (.ref al) := (H2.other W8 (Or.inr (slot_ne (Or.inl (w18 hw)) (Or.inl (w32 hw)) (by decide) (t := (.array .int)) (t' := .int) (by decide) (by decide))))
    have f13 : Fld Z h8 a1 cBE "count" "I" (.int 1) := (H4.other W8 (Or.inr (slot_ne (Or.inl (w25 hw)) (Or.inl (w32 hw)) (by decide) (t := .int) (t' := .int) (by decide) (by decide))))
    have f14 : Arv Z h8 ax kx .int (64 : Int32) [(.int x0)] (.int (0 : Int32)) := (H5.other W8 (Ne.symm ne_a1_ax))
    have f15 : Arv Z h8 al kl .int (64 : Int32) [(.int l0)] (.int (0 : Int32)) := (H6.other W8 (Ne.symm ne_a1_al))
    have ke16 : Keep h0 h8 [a1] := (Keep.wr (Keep.refl h0 [a1]) W8 (Or.inl (List.mem_of_getElem? (i := 0) rfl)))
    obtain ⟨fs, hr, hrun, hended, hW, hsame⟩ := X8.leave (v := some (.int l0)) (fun h => by rw [Bd.returns] at h; cases h)
    refine ⟨_, _, ?_, hrun, hended, _, _, rfl, ?_, ⟨_, rfl⟩, hW, hsame.mono (by decide) (by decide)⟩
    · exact retI X8 hx Bd.returns (hb hby d5_62) hr
    · show Q_lb_011 _ _ _ _ _ _ _ _ _ _ _ _ _ T8.heap _
      rw [e8]
      exact ⟨rfl, N8, ke16, f10, f11, f12, f9, f13, f14, f15⟩
  · skip
    show Go _ _ _ _ (T4.setTop (mkF m 16 #[rv a1, iv key, iv line, .unset, .unset, .unset] [(.int (-2))]))
    refine go_st (fun t k => XS.istoreN X4.here hx rfl (hb hby d5_16) rfl (l' := #[rv a1, iv key, iv line, iv (-2), .unset, .unset]) rfl k) ?_
    refine go_st (fun t k => XS.iloadN X4.here hx rfl (hb hby d5_17) rfl k) ?_
    show Go _ _ _ _ (T4.setTop (mkF m 18 #[rv a1, iv key, iv line, iv (-2), .unset, .unset] [(.int (-2))]))
    refine go_st (fun t k => XS.ifYes X4.here hx rfl (pc0 := 18) (pc' := 25) rfl (hb hby d5_18) rfl ((if0 _ _).trans (tlt ((by decide) : (-2 : Int32) < (0 : Int32))).1) (by decide) (by decide) k) ?_
    show Go _ _ _ _ (T4.setTop (mkF m 25 #[rv a1, iv key, iv line, iv (-2), .unset, .unset] []))
    refine go_st (fun t k => XS.iloadN X4.here hx rfl (hb hby d5_25) rfl k) ?_
    show Go _ _ _ _ (T4.setTop (mkF m 26 #[rv a1, iv key, iv line, iv (-2), .unset, .unset] [(.int (-2))]))
    refine go_st (fun t k => XS.ineg X4.here hx rfl (hb hby d5_26) rfl k) ?_
    rw [show (-(-2 : Int32)) = (2 : Int32) from by decide]
    show Go _ _ _ _ (T4.setTop (mkF m 27 #[rv a1, iv key, iv line, iv (-2), .unset, .unset] [(.int 2)]))
    refine go_st (fun t k => XS.iconst X4.here hx rfl (hb hby d5_27) k) ?_
    show Go _ _ _ _ (T4.setTop (mkF m 28 #[rv a1, iv key, iv line, iv (-2), .unset, .unset] [(.int 1), (.int 2)]))
    refine go_st (fun t k => XS.isub X4.here hx rfl (hb hby d5_28) rfl k) ?_
    rw [show ((2 : Int32) - (1 : Int32)) = (1 : Int32) from by decide]
    show Go _ _ _ _ (T4.setTop (mkF m 29 #[rv a1, iv key, iv line, iv (-2), .unset, .unset] [(.int 1)]))
    refine go_st (fun t k => XS.iconst X4.here hx rfl (hb hby d5_29) k) ?_
    show Go _ _ _ _ (T4.setTop (mkF m 30 #[rv a1, iv key, iv line, iv (-2), .unset, .unset] [(.int 1), (.int 1)]))
    refine go_st (fun t k => XS.isub X4.here hx rfl (hb hby d5_30) rfl k) ?_
    rw [show ((1 : Int32) - (1 : Int32)) = (0 : Int32) from by decide]
    show Go _ _ _ _ (T4.setTop (mkF m 31 #[rv a1, iv key, iv line, iv (-2), .unset, .unset] [(.int 0)]))
    refine go_st (fun t k => XS.istore X4.here hx rfl (hb hby d5_31) rfl (l' := #[rv a1, iv key, iv line, iv (-2), iv 0, .unset]) rfl k) ?_
    refine go_st (fun t k => XS.iloadN X4.here hx rfl (hb hby d5_33) rfl k) ?_
    refine go_st (fun t k => XS.istore X4.here hx rfl (hb hby d5_34) rfl (l' := #[rv a1, iv key, iv line, iv (-2), iv 0, iv line]) rfl k) ?_
    refine go_st (fun t k => XS.iload X4.here hx rfl (hb hby d5_36) rfl k) ?_
    refine go_st (fun t k => XS.aloadN X4.here hx rfl (hb hby d5_38) rfl rfl k) ?_
    show Go _ _ _ _ (T4.setTop (mkF m 39 #[rv a1, iv key, iv line, iv (-2), iv 0, iv line] [(.ref a1), (.int 0)]))
    obtain ⟨T17, X17, e17, st17⟩ := getF X4 hx hZ hown (host := "") (Or.inl (w31 hw)) Via.refl e4 H3 (g := (mkF m 39 #[rv a1, iv key, iv line, iv (-2), iv 0, iv line] [(.ref a1), (.int 0)])) rfl rfl (hb hby d5_39)
    refine go_st (fun t k => st17 t k) ?_
    show Go _ _ _ _ (T17.setTop (mkF m 42 #[rv a1, iv key, iv line, iv (-2), iv 0, iv line] [(.int 0), (.int 0)]))
    refine go_st (fun t k => XS.icmpNo X17.here hx rfl (hb hby d5_42) rfl (flt ((by decide) : ¬ ((0 : Int32) < (0 : Int32)))).1 k) ?_
    show Go _ _ _ _ (T17.setTop (mkF m 45 #[rv a1, iv key, iv line, iv (-2), iv 0, iv line] []))
    refine go_st (fun t k => XS.aloadN X17.here hx rfl (hb hby d5_45) rfl rfl k) ?_
    show Go _ _ _ _ (T17.setTop (mkF m 46 #[rv a1, iv key, iv line, iv (-2), iv 0, iv line] [(.ref a1)]))
    obtain ⟨T18, X18, e18, st18⟩ := getF X17 hx hZ hown (host := "") (Or.inl (w17 hw)) Via.refl e17 H2 (g := (mkF m 46 #[rv a1, iv key, iv line, iv (-2), iv 0, iv line] [(.ref a1)])) rfl rfl (hb hby d5_46)
    refine go_st (fun t k => st18 t k) ?_
    refine go_st (fun t k => XS.iload X18.here hx rfl (hb hby d5_49) rfl k) ?_
    show Go _ _ _ _ (T18.setTop (mkF m 51 #[rv a1, iv key, iv line, iv (-2), iv 0, iv line] [(.int 0), (.ref al)]))
    obtain ⟨zc19, zA19, zq19, zS19, zN19, zH19, zG19⟩ := id H6
    have hin19 : ¬ ((0 : Int32) < 0 ∨ zc19.slots.size ≤ ((0 : Int32)).toNatClampNeg) := inb_of zS19 ⟨by decide, by decide⟩
    have hat19 : zc19.slots[((0 : Int32)).toNatClampNeg]? = some (.int l0) := Has.at zH19 hin19 rfl
    refine go_st (fun t k => X18.iaload hx (j := (0 : Int32)) (v := (.int l0)) (by rw [e18]; exact zA19.1) (State.isArrayOf_alike hZ.alike zA19.2.1) zA19.2.2 hin19 hat19 (g := (mkF m 51 #[rv a1, iv key, iv line, iv (-2), iv 0, iv line] [(.int 0), (.ref al)])) rfl rfl (hb hby d5_51) t k) ?_
    refine go_st (fun t k => XS.istore X18.here hx rfl (hb hby d5_52) rfl (l' := #[rv a1, iv key, iv line, iv (-2), iv 0, iv l0]) rfl k) ?_
    refine go_st (fun t k => XS.aloadN X18.here hx rfl (hb hby d5_54) rfl rfl k) ?_
    refine go_st (fun t k => XS.iload X18.here hx rfl (hb hby d5_55) rfl k) ?_
    show Go _ _ _ _ (T18.setTop (mkF m 57 #[rv a1, iv key, iv line, iv (-2), iv 0, iv l0] [(.int 0), (.ref a1)]))
    obtain ⟨T20, h20, X20, e20, W20, st20⟩ := putF X18 hx hZ hown (host := "") (Or.inl (w31 hw)) Via.refl e18 H3 H0 (Or.inl (w32 hw)) (w6 hw) (ty := .int) (by decide) rfl rfl (g := (mkF m 57 #[rv a1, iv key, iv line, iv (-2), iv 0, iv l0] [(.int 0), (.ref a1)])) rfl rfl (hb hby d5_57)
    have N20 := Fr.snoc X20 N4 g_a1
    have f21 : Fld Z h20 a1 cBE "first" "I" (.int 0) := H3.same W20
    refine go_st (fun t k => st20 t k) ?_
    refine go_st (fun t k => XS.iload X20.here hx rfl (hb hby d5_60) rfl k) ?_
    show Go _ _ _ _ (T20.setTop (mkF m 62 #[rv a1, iv key, iv line, iv (-2), iv 0, iv l0] [(.int l0)]))
    have f22 : Exa Z h20 a1 cBE := (H0.wr W20)
    have f23 : Fld Z h20 a1 cBE "indexes" "[I" (.ref ax) := (H1.other W20 (Or.inr (slot_ne (Or.inl (w16 hw)) (Or.inl (w32 hw)) (by decide) (t := (.array .int)) (t' := .int) (by decide) (by decide))))
    have f24 : Fld Z h20 a1 cBE "lines" "[I" (.ref al) := (H2.other W20 (Or.inr (slot_ne (Or.inl (w18 hw)) (Or.inl (w32 hw)) (by decide) (t := (.array .int)) (t' := .int) (by decide) (by decide))))
    have f25 : Fld Z h20 a1 cBE "count" "I" (.int 1) := (H4.other W20 (Or.inr (slot_ne (Or.inl (w25 hw)) (Or.inl (w32 hw)) (by decide) (t := .int) (t' := .int) (by decide) (by decide))))
    have f26 : Arv Z h20 ax kx .int (64 : Int32) [(.int x0)] (.int (0 : Int32)) := (H5.other W20 (Ne.symm ne_a1_ax))
    have f27 : Arv Z h20 al kl .int (64 : Int32) [(.int l0)] (.int (0 : Int32)) := (H6.other W20 (Ne.symm ne_a1_al))
    have ke28 : Keep h0 h20 [a1] := (Keep.wr (Keep.refl h0 [a1]) W20 (Or.inl (List.mem_of_getElem? (i := 0) rfl)))
    obtain ⟨fs, hr, hrun, hended, hW, hsame⟩ := X20.leave (v := some (.int l0)) (fun h => by rw [Bd.returns] at h; cases h)
    refine ⟨_, _, ?_, hrun, hended, _, _, rfl, ?_, ⟨_, rfl⟩, hW, hsame.mono (by decide) (by decide)⟩
    · exact retI X20 hx Bd.returns (hb hby d5_62) hr
    · show Q_lb_011 _ _ _ _ _ _ _ _ _ _ _ _ _ T20.heap _
      rw [e20]
      exact ⟨rfl, N20, ke28, f22, f23, f24, f21, f25, f26, f27⟩
def Q_rc_02 (Z : State)  (h0 : Heap) (n0 : Nat) (vR : Option Value) (h : Heap) (L : List Loc) : Prop := vR = none ∧ Fr n0 L ∧ h = h0
theorem ef_rc_02 (m : MethodId) (x0 : Int32) (x1 : Int32) (x2 : Int32) : entryFrame m #[(.int x0), (.int x1), (.int x2)] 3 = mkF m 0 #[.val (.int x0), .val (.int x1), .val (.int x2)] [] := by first | (simp [entryFrame, mkF, argsToLocals, Value.category]; done) | rfl
set_option maxRecDepth 65536 in
set_option maxHeartbeats 40000000 in
theorem rm_rc_02 (l : Launch) (Z : State) (a0 : Array Value) (hw : ∀ d ∈ tables_1, d.before a0 Z = true) (ws : List Jvm.Cond)  (h0 : Heap) (n0 : Nat) (Z0 : n0 ≤ h0.size)  :
    MetFree l (⟨"java/util/Arrays", "rangeCheck", "(III)V"⟩ : MethodName) (head1 (Jvm.Cond.code (⟨"java/util/Arrays", "rangeCheck", "(III)V"⟩ : MethodName) jdk_65_method_30_code 3 none :: ws) ({ frames := 0, cells := 0, slots := 0, locals := 0 } : Room)) (fun a U => a = #[(.int 64), (.int 0), (.int 2)] ∧ Z.Warmed39 U.vm ∧ U.heap = h0) (fun _ _ _ _ _ => True) (fun _ U o U' => ∃ v L, o = .returned v ∧ Q_rc_02 Z h0 n0 v U'.heap L ∧ FrameEnd U o U' L ({ frames := 0, cells := 0, slots := 0, locals := 0 } : Room).cells ({ frames := 0, cells := 0, slots := 0, locals := 0 } : Room).slots) := by
  refine MetFree.of_bodySF (plainFor_of_name pn_java_util_Arrays) hisR ?_
  intro p e s m args below meth c s₁ Bd hml0 hP hK
  obtain ⟨rfl, hZ, hh⟩ := hP
  have hx := Bd.exec
  have hby := Bd.bytes
  have hml : c.maxLocals = 3 := hml0
  have hown : s.vm.findClass "java/util/Arrays" = some m.cls := findClass_of_methodNamed Bd.named
  have hnm := (name_of_methodNamed Bd.named Bd.method).1
  have X0 : Stand p l e ({ frames := 0, cells := 0, slots := 0, locals := 0 } : Room) s m #[(.int 64), (.int 0), (.int 2)] below meth c s₁ [] 0 0 := Stand.of_body Bd
  have e0 : s₁.heap = h0 := by rw [← hh, Bd.state]; rfl
  have N0 := Fr.nil n0
  refine go_st (fun t k => castTop (ef_rc_02 m (64 : Int32) (0 : Int32) (2 : Int32)) k) ?_
  show Go _ _ _ _ (s₁.setTop (mkF m 0 #[iv 64, iv 0, iv 2] []))
  refine go_st (fun t k => XS.iloadN X0.here hx rfl (hb hby d2_0) rfl k) ?_
  refine go_st (fun t k => XS.iloadN X0.here hx rfl (hb hby d2_1) rfl k) ?_
  show Go _ _ _ _ (s₁.setTop (mkF m 2 #[iv 64, iv 0, iv 2] [(.int 2), (.int 0)]))
  refine go_st (fun t k => XS.icmpYes X0.here hx rfl (pc0 := 2) (pc' := 46) rfl (hb hby d2_2) rfl (flt ((by decide) : ¬ ((2 : Int32) < (0 : Int32)))).2.2.2 (by decide) (by decide) k) ?_
  show Go _ _ _ _ (s₁.setTop (mkF m 46 #[iv 64, iv 0, iv 2] []))
  refine go_st (fun t k => XS.iloadN X0.here hx rfl (hb hby d2_46) rfl k) ?_
  show Go _ _ _ _ (s₁.setTop (mkF m 47 #[iv 64, iv 0, iv 2] [(.int 0)]))
  refine go_st (fun t k => XS.ifYes X0.here hx rfl (pc0 := 47) (pc' := 59) rfl (hb hby d2_47) rfl ((if0 _ _).trans (flt ((by decide) : ¬ ((0 : Int32) < (0 : Int32)))).2.1) (by decide) (by decide) k) ?_
  show Go _ _ _ _ (s₁.setTop (mkF m 59 #[iv 64, iv 0, iv 2] []))
  refine go_st (fun t k => XS.iloadN X0.here hx rfl (hb hby d2_59) rfl k) ?_
  refine go_st (fun t k => XS.iloadN X0.here hx rfl (hb hby d2_60) rfl k) ?_
  show Go _ _ _ _ (s₁.setTop (mkF m 61 #[iv 64, iv 0, iv 2] [(.int 64), (.int 2)]))
  refine go_st (fun t k => XS.icmpYes X0.here hx rfl (pc0 := 61) (pc' := 73) rfl (hb hby d2_61) rfl (flt ((by decide) : ¬ ((64 : Int32) < (2 : Int32)))).2.2.2 (by decide) (by decide) k) ?_
  show Go _ _ _ _ (s₁.setTop (mkF m 73 #[iv 64, iv 0, iv 2] []))
  obtain ⟨fs, hr, hrun, hended, hW, hsame⟩ := X0.leave (v := none) (fun _ => rfl)
  refine ⟨_, _, ?_, hrun, hended, _, _, rfl, ?_, ⟨_, rfl⟩, hW, hsame.mono (by decide) (by decide)⟩
  · exact X0.returnOut hx Bd.returns (hb hby d2_73) hr
  · show Q_rc_02 _ _ _ _ s₁.heap _
    rw [e0]
    exact ⟨rfl, N0, rfl⟩
def Q_bs0_020 (Z : State) (ax : Addr) (kx : ClassId) (key : Int32) (x0 : Int32) (x1 : Int32) (h0 : Heap) (n0 : Nat) (vR : Option Value) (h : Heap) (L : List Loc) : Prop := ∃ (r : Int32), vR = some (.int r) ∧ Fr n0 L ∧ h = h0 ∧ (r = (0 : Int32) ∨ r = (-1 : Int32))
theorem ef_bs0_020 (m : MethodId) (x0 : Addr) (x1 : Int32) (x2 : Int32) (x3 : Int32) : entryFrame m #[(.ref x0), (.int x1), (.int x2), (.int x3)] 8 = mkF m 0 #[.val (.ref x0), .val (.int x1), .val (.int x2), .val (.int x3), .unset, .unset, .unset, .unset] [] := by first | (simp [entryFrame, mkF, argsToLocals, Value.category]; done) | rfl
set_option maxRecDepth 65536 in
set_option maxHeartbeats 40000000 in
theorem rm_bs0_020 (l : Launch) (Z : State) (a0 : Array Value) (hw : ∀ d ∈ tables_1, d.before a0 Z = true) (ws : List Jvm.Cond) (ax : Addr) (kx : ClassId) (key : Int32) (x0 : Int32) (x1 : Int32) (h0 : Heap) (n0 : Nat) (Z0 : n0 ≤ h0.size) (H0 : Arv Z h0 ax kx .int (64 : Int32) [(.int x0), (.int x1)] (.int (0 : Int32))) (s0 : x0 < x1) (hr : ¬ (x0 < key)) :
    MetFree l (⟨"java/util/Arrays", "binarySearch0", "([IIII)I"⟩ : MethodName) (head1 (Jvm.Cond.code (⟨"java/util/Arrays", "binarySearch0", "([IIII)I"⟩ : MethodName) jdk_65_method_59_code 8 (some .int) :: ws) ({ frames := 0, cells := 0, slots := 0, locals := 0 } : Room)) (fun a U => a = #[(.ref ax), (.int 0), (.int 2), (.int key)] ∧ Z.Warmed39 U.vm ∧ U.heap = h0) (fun _ _ _ _ _ => True) (fun _ U o U' => ∃ v L, o = .returned v ∧ Q_bs0_020 Z ax kx key x0 x1 h0 n0 v U'.heap L ∧ FrameEnd U o U' L ({ frames := 0, cells := 0, slots := 0, locals := 0 } : Room).cells ({ frames := 0, cells := 0, slots := 0, locals := 0 } : Room).slots) := by
  refine MetFree.of_bodySF (plainFor_of_name pn_java_util_Arrays) hisR ?_
  intro p e s m args below meth c s₁ Bd hml0 hP hK
  obtain ⟨rfl, hZ, hh⟩ := hP
  have hx := Bd.exec
  have hby := Bd.bytes
  have hml : c.maxLocals = 8 := hml0
  have hown : s.vm.findClass "java/util/Arrays" = some m.cls := findClass_of_methodNamed Bd.named
  have hnm := (name_of_methodNamed Bd.named Bd.method).1
  have X0 : Stand p l e ({ frames := 0, cells := 0, slots := 0, locals := 0 } : Room) s m #[(.ref ax), (.int 0), (.int 2), (.int key)] below meth c s₁ [] 0 0 := Stand.of_body Bd
  have e0 : s₁.heap = h0 := by rw [← hh, Bd.state]; rfl
  have N0 := Fr.nil n0
  refine go_st (fun t k => castTop (ef_bs0_020 m ax (0 : Int32) (2 : Int32) key) k) ?_
  show Go _ _ _ _ (s₁.setTop (mkF m 0 #[rv ax, iv 0, iv 2, iv key, .unset, .unset, .unset, .unset] []))
  refine go_st (fun t k => XS.iloadN X0.here hx rfl (hb hby d3_0) rfl k) ?_
  refine go_st (fun t k => XS.istore X0.here hx rfl (hb hby d3_1) rfl (l' := #[rv ax, iv 0, iv 2, iv key, iv 0, .unset, .unset, .unset]) rfl k) ?_
  refine go_st (fun t k => XS.iloadN X0.here hx rfl (hb hby d3_3) rfl k) ?_
  refine go_st (fun t k => XS.iconst X0.here hx rfl (hb hby d3_4) k) ?_
  show Go _ _ _ _ (s₁.setTop (mkF m 5 #[rv ax, iv 0, iv 2, iv key, iv 0, .unset, .unset, .unset] [(.int 1), (.int 2)]))
  refine go_st (fun t k => XS.isub X0.here hx rfl (hb hby d3_5) rfl k) ?_
  rw [show ((2 : Int32) - (1 : Int32)) = (1 : Int32) from by decide]
  show Go _ _ _ _ (s₁.setTop (mkF m 6 #[rv ax, iv 0, iv 2, iv key, iv 0, .unset, .unset, .unset] [(.int 1)]))
  refine go_st (fun t k => XS.istore X0.here hx rfl (hb hby d3_6) rfl (l' := #[rv ax, iv 0, iv 2, iv key, iv 0, iv 1, .unset, .unset]) rfl k) ?_
  refine go_st (fun t k => XS.iload X0.here hx rfl (hb hby d3_8) rfl k) ?_
  refine go_st (fun t k => XS.iload X0.here hx rfl (hb hby d3_10) rfl k) ?_
  show Go _ _ _ _ (s₁.setTop (mkF m 12 #[rv ax, iv 0, iv 2, iv key, iv 0, iv 1, .unset, .unset] [(.int 1), (.int 0)]))
  refine go_st (fun t k => XS.icmpNo X0.here hx rfl (hb hby d3_12) rfl (flt ((by decide) : ¬ ((1 : Int32) < (0 : Int32)))).2.2.1 k) ?_
  show Go _ _ _ _ (s₁.setTop (mkF m 15 #[rv ax, iv 0, iv 2, iv key, iv 0, iv 1, .unset, .unset] []))
  refine go_st (fun t k => XS.iload X0.here hx rfl (hb hby d3_15) rfl k) ?_
  refine go_st (fun t k => XS.iload X0.here hx rfl (hb hby d3_17) rfl k) ?_
  show Go _ _ _ _ (s₁.setTop (mkF m 19 #[rv ax, iv 0, iv 2, iv key, iv 0, iv 1, .unset, .unset] [(.int 1), (.int 0)]))
  refine go_st (fun t k => XS.iadd X0.here hx rfl (hb hby d3_19) rfl k) ?_
  rw [show ((0 : Int32) + (1 : Int32)) = (1 : Int32) from by decide]
  show Go _ _ _ _ (s₁.setTop (mkF m 20 #[rv ax, iv 0, iv 2, iv key, iv 0, iv 1, .unset, .unset] [(.int 1)]))
  refine go_st (fun t k => XS.iconst X0.here hx rfl (hb hby d3_20) k) ?_
  show Go _ _ _ _ (s₁.setTop (mkF m 21 #[rv ax, iv 0, iv 2, iv key, iv 0, iv 1, .unset, .unset] [(.int 1), (.int 1)]))
  refine go_st (fun t k => XS.iushr X0.here hx rfl (hb hby d3_21) rfl k) ?_
  rw [show (((1 : Int32)).toUInt32 >>> ((1 : Int32) &&& 31).toUInt32).toInt32 = (0 : Int32) from by decide]
  show Go _ _ _ _ (s₁.setTop (mkF m 22 #[rv ax, iv 0, iv 2, iv key, iv 0, iv 1, .unset, .unset] [(.int 0)]))
  refine go_st (fun t k => XS.istore X0.here hx rfl (hb hby d3_22) rfl (l' := #[rv ax, iv 0, iv 2, iv key, iv 0, iv 1, iv 0, .unset]) rfl k) ?_
  refine go_st (fun t k => XS.aloadN X0.here hx rfl (hb hby d3_24) rfl rfl k) ?_
  refine go_st (fun t k => XS.iload X0.here hx rfl (hb hby d3_25) rfl k) ?_
  show Go _ _ _ _ (s₁.setTop (mkF m 27 #[rv ax, iv 0, iv 2, iv key, iv 0, iv 1, iv 0, .unset] [(.int 0), (.ref ax)]))
  obtain ⟨zc1, zA1, zq1, zS1, zN1, zH1, zG1⟩ := id H0
  have hin1 : ¬ ((0 : Int32) < 0 ∨ zc1.slots.size ≤ ((0 : Int32)).toNatClampNeg) := inb_of zS1 ⟨by decide, by decide⟩
  have hat1 : zc1.slots[((0 : Int32)).toNatClampNeg]? = some (.int x0) := Has.at zH1 hin1 rfl
  refine go_st (fun t k => X0.iaload hx (j := (0 : Int32)) (v := (.int x0)) (by rw [e0]; exact zA1.1) (State.isArrayOf_alike hZ.alike zA1.2.1) zA1.2.2 hin1 hat1 (g := (mkF m 27 #[rv ax, iv 0, iv 2, iv key, iv 0, iv 1, iv 0, .unset] [(.int 0), (.ref ax)])) rfl rfl (hb hby d3_27) t k) ?_
  refine go_st (fun t k => XS.istore X0.here hx rfl (hb hby d3_28) rfl (l' := #[rv ax, iv 0, iv 2, iv key, iv 0, iv 1, iv 0, iv x0]) rfl k) ?_
  refine go_st (fun t k => XS.iload X0.here hx rfl (hb hby d3_30) rfl k) ?_
  refine go_st (fun t k => XS.iloadN X0.here hx rfl (hb hby d3_32) rfl k) ?_
  show Go _ _ _ _ (s₁.setTop (mkF m 33 #[rv ax, iv 0, iv 2, iv key, iv 0, iv 1, iv 0, iv x0] [(.int key), (.int x0)]))
  refine go_st (fun t k => XS.icmpYes X0.here hx rfl (pc0 := 33) (pc' := 45) rfl (hb hby d3_33) rfl (flt (hr : ¬ (x0 < key))).2.1 (by decide) (by decide) k) ?_
  show Go _ _ _ _ (s₁.setTop (mkF m 45 #[rv ax, iv 0, iv 2, iv key, iv 0, iv 1, iv 0, iv x0] []))
  refine go_st (fun t k => XS.iload X0.here hx rfl (hb hby d3_45) rfl k) ?_
  refine go_st (fun t k => XS.iloadN X0.here hx rfl (hb hby d3_47) rfl k) ?_
  show Go _ _ _ _ (s₁.setTop (mkF m 48 #[rv ax, iv 0, iv 2, iv key, iv 0, iv 1, iv 0, iv x0] [(.int key), (.int x0)]))
  by_cases hc2 : key < x0
  · skip
    refine go_st (fun t k => XS.icmpNo X0.here hx rfl (hb hby d3_48) rfl (tlt (hc2 : key < x0)).2.2.2 k) ?_
    show Go _ _ _ _ (s₁.setTop (mkF m 51 #[rv ax, iv 0, iv 2, iv key, iv 0, iv 1, iv 0, iv x0] []))
    refine go_st (fun t k => XS.iload X0.here hx rfl (hb hby d3_51) rfl k) ?_
    refine go_st (fun t k => XS.iconst X0.here hx rfl (hb hby d3_53) k) ?_
    show Go _ _ _ _ (s₁.setTop (mkF m 54 #[rv ax, iv 0, iv 2, iv key, iv 0, iv 1, iv 0, iv x0] [(.int 1), (.int 0)]))
    refine go_st (fun t k => XS.isub X0.here hx rfl (hb hby d3_54) rfl k) ?_
    rw [show ((0 : Int32) - (1 : Int32)) = (-1 : Int32) from by decide]
    show Go _ _ _ _ (s₁.setTop (mkF m 55 #[rv ax, iv 0, iv 2, iv key, iv 0, iv 1, iv 0, iv x0] [(.int (-1))]))
    refine go_st (fun t k => XS.istore X0.here hx rfl (hb hby d3_55) rfl (l' := #[rv ax, iv 0, iv 2, iv key, iv 0, iv (-1), iv 0, iv x0]) rfl k) ?_
    refine go_st (fun t k => XS.goto X0.here hx rfl (pc0 := 57) (pc' := 63) rfl (hb hby d3_57) (by decide) (by decide) k) ?_
    show Go _ _ _ _ (s₁.setTop (mkF m 63 #[rv ax, iv 0, iv 2, iv key, iv 0, iv (-1), iv 0, iv x0] []))
    refine go_st (fun t k => XS.goto X0.here hx rfl (pc0 := 63) (pc' := 8) rfl (hb hby d3_63) (by decide) (by decide) k) ?_
    show Go _ _ _ _ (s₁.setTop (mkF m 8 #[rv ax, iv 0, iv 2, iv key, iv 0, iv (-1), iv 0, iv x0] []))
    refine go_st (fun t k => XS.iload X0.here hx rfl (hb hby d3_8) rfl k) ?_
    refine go_st (fun t k => XS.iload X0.here hx rfl (hb hby d3_10) rfl k) ?_
    show Go _ _ _ _ (s₁.setTop (mkF m 12 #[rv ax, iv 0, iv 2, iv key, iv 0, iv (-1), iv 0, iv x0] [(.int (-1)), (.int 0)]))
    refine go_st (fun t k => XS.icmpYes X0.here hx rfl (pc0 := 12) (pc' := 66) rfl (hb hby d3_12) rfl (tlt ((by decide) : (-1 : Int32) < (0 : Int32))).2.2.1 (by decide) (by decide) k) ?_
    show Go _ _ _ _ (s₁.setTop (mkF m 66 #[rv ax, iv 0, iv 2, iv key, iv 0, iv (-1), iv 0, iv x0] []))
    refine go_st (fun t k => XS.iload X0.here hx rfl (hb hby d3_66) rfl k) ?_
    refine go_st (fun t k => XS.iconst X0.here hx rfl (hb hby d3_68) k) ?_
    show Go _ _ _ _ (s₁.setTop (mkF m 69 #[rv ax, iv 0, iv 2, iv key, iv 0, iv (-1), iv 0, iv x0] [(.int 1), (.int 0)]))
    refine go_st (fun t k => XS.iadd X0.here hx rfl (hb hby d3_69) rfl k) ?_
    rw [show ((0 : Int32) + (1 : Int32)) = (1 : Int32) from by decide]
    show Go _ _ _ _ (s₁.setTop (mkF m 70 #[rv ax, iv 0, iv 2, iv key, iv 0, iv (-1), iv 0, iv x0] [(.int 1)]))
    refine go_st (fun t k => XS.ineg X0.here hx rfl (hb hby d3_70) rfl k) ?_
    rw [show (-(1 : Int32)) = (-1 : Int32) from by decide]
    show Go _ _ _ _ (s₁.setTop (mkF m 71 #[rv ax, iv 0, iv 2, iv key, iv 0, iv (-1), iv 0, iv x0] [(.int (-1))]))
    obtain ⟨fs, hr, hrun, hended, hW, hsame⟩ := X0.leave (v := some (.int (-1))) (fun h => by rw [Bd.returns] at h; cases h)
    refine ⟨_, _, ?_, hrun, hended, _, _, rfl, ?_, ⟨_, rfl⟩, hW, hsame.mono (by decide) (by decide)⟩
    · exact retI X0 hx Bd.returns (hb hby d3_71) hr
    · show Q_bs0_020 _ _ _ _ _ _ _ _ _ s₁.heap _
      rw [e0]
      exact ⟨(-1 : Int32), rfl, N0, rfl, (Or.inr rfl)⟩
  · skip
    refine go_st (fun t k => XS.icmpYes X0.here hx rfl (pc0 := 48) (pc' := 60) rfl (hb hby d3_48) rfl (flt (hc2 : ¬ (key < x0))).2.2.2 (by decide) (by decide) k) ?_
    show Go _ _ _ _ (s₁.setTop (mkF m 60 #[rv ax, iv 0, iv 2, iv key, iv 0, iv 1, iv 0, iv x0] []))
    refine go_st (fun t k => XS.iload X0.here hx rfl (hb hby d3_60) rfl k) ?_
    show Go _ _ _ _ (s₁.setTop (mkF m 62 #[rv ax, iv 0, iv 2, iv key, iv 0, iv 1, iv 0, iv x0] [(.int 0)]))
    obtain ⟨fs, hr, hrun, hended, hW, hsame⟩ := X0.leave (v := some (.int 0)) (fun h => by rw [Bd.returns] at h; cases h)
    refine ⟨_, _, ?_, hrun, hended, _, _, rfl, ?_, ⟨_, rfl⟩, hW, hsame.mono (by decide) (by decide)⟩
    · exact retI X0 hx Bd.returns (hb hby d3_62) hr
    · show Q_bs0_020 _ _ _ _ _ _ _ _ _ s₁.heap _
      rw [e0]
      exact ⟨(0 : Int32), rfl, N0, rfl, (Or.inl rfl)⟩
def Q_bs_020 (Z : State) (ax : Addr) (kx : ClassId) (key : Int32) (x0 : Int32) (x1 : Int32) (h0 : Heap) (n0 : Nat) (vR : Option Value) (h : Heap) (L : List Loc) : Prop := ∃ (r : Int32), vR = some (.int r) ∧ Fr n0 L ∧ h = h0 ∧ (r = (0 : Int32) ∨ r = (-1 : Int32))
theorem ef_bs_020 (m : MethodId) (x0 : Addr) (x1 : Int32) (x2 : Int32) (x3 : Int32) : entryFrame m #[(.ref x0), (.int x1), (.int x2), (.int x3)] 4 = mkF m 0 #[.val (.ref x0), .val (.int x1), .val (.int x2), .val (.int x3)] [] := by first | (simp [entryFrame, mkF, argsToLocals, Value.category]; done) | rfl
set_option maxRecDepth 65536 in
set_option maxHeartbeats 40000000 in
theorem rm_bs_020 (l : Launch) (Z : State) (a0 : Array Value) (hw : ∀ d ∈ tables_1, d.before a0 Z = true) (ws : List Jvm.Cond) (ax : Addr) (kx : ClassId) (key : Int32) (x0 : Int32) (x1 : Int32) (h0 : Heap) (n0 : Nat) (Z0 : n0 ≤ h0.size) (H0 : Arv Z h0 ax kx .int (64 : Int32) [(.int x0), (.int x1)] (.int (0 : Int32))) (s0 : x0 < x1) (hr : ¬ (x0 < key)) :
    MetFree l (⟨"java/util/Arrays", "binarySearch", "([IIII)I"⟩ : MethodName) (head1 (Jvm.Cond.code (⟨"java/util/Arrays", "binarySearch", "([IIII)I"⟩ : MethodName) jdk_65_method_58_code 4 (some .int) :: ws) ({ frames := 1, cells := 0, slots := 0, locals := 19 } : Room)) (fun a U => a = #[(.ref ax), (.int 0), (.int 2), (.int key)] ∧ Z.Warmed39 U.vm ∧ U.heap = h0) (fun _ _ _ _ _ => True) (fun _ U o U' => ∃ v L, o = .returned v ∧ Q_bs_020 Z ax kx key x0 x1 h0 n0 v U'.heap L ∧ FrameEnd U o U' L ({ frames := 1, cells := 0, slots := 0, locals := 19 } : Room).cells ({ frames := 1, cells := 0, slots := 0, locals := 19 } : Room).slots) := by
  refine MetFree.of_bodySF (plainFor_of_name pn_java_util_Arrays) hisR ?_
  intro p e s m args below meth c s₁ Bd hml0 hP hK
  obtain ⟨rfl, hZ, hh⟩ := hP
  have hx := Bd.exec
  have hby := Bd.bytes
  have hml : c.maxLocals = 4 := hml0
  have hown : s.vm.findClass "java/util/Arrays" = some m.cls := findClass_of_methodNamed Bd.named
  have hnm := (name_of_methodNamed Bd.named Bd.method).1
  have X0 : Stand p l e ({ frames := 1, cells := 0, slots := 0, locals := 19 } : Room) s m #[(.ref ax), (.int 0), (.int 2), (.int key)] below meth c s₁ [] 0 0 := Stand.of_body Bd
  have e0 : s₁.heap = h0 := by rw [← hh, Bd.state]; rfl
  have N0 := Fr.nil n0
  refine go_st (fun t k => castTop (ef_bs_020 m ax (0 : Int32) (2 : Int32) key) k) ?_
  show Go _ _ _ _ (s₁.setTop (mkF m 0 #[rv ax, iv 0, iv 2, iv key] []))
  refine go_st (fun t k => XS.aloadN X0.here hx rfl (hb hby d4_0) rfl rfl k) ?_
  show Go _ _ _ _ (s₁.setTop (mkF m 1 #[rv ax, iv 0, iv 2, iv key] [(.ref ax)]))
  obtain ⟨zc1, zA1, zq1, zS1, zN1, zH1, zG1⟩ := id H0
  refine go_st (fun t k => X0.arraylength hx (by rw [e0]; exact zA1.1) (State.isArrayOf_alike hZ.alike zA1.2.1) (g := (mkF m 1 #[rv ax, iv 0, iv 2, iv key] [(.ref ax)])) rfl rfl (hb hby d4_1) t k) ?_
  rw [len_of zS1 zN1]
  refine go_st (fun t k => XS.iloadN X0.here hx rfl (hb hby d4_2) rfl k) ?_
  refine go_st (fun t k => XS.iloadN X0.here hx rfl (hb hby d4_3) rfl k) ?_
  show Go _ _ _ _ (s₁.setTop (mkF m 4 #[rv ax, iv 0, iv 2, iv key] [(.int 2), (.int 0), (.int 64)]))
  obtain ⟨_, _, ⟨T2, L2, kk2, nn2⟩, -, X2, ⟨Lc2, hQ2, lq2, yq2, zq2⟩, st2⟩ := Jvm.LawKit.callS X0 hx (y := (⟨"java/util/Arrays", "rangeCheck", "(III)V"⟩ : MethodName)) hown (mvT hZ (w37 hw)) (mvT hZ (w38 hw)) (mvT hZ (w35 hw)) (mvT hZ (w39 hw)) (by decide) (backOf (W := 0) (rm_rc_02 l Z a0 hw []  h0 n0 (Nat.le_trans Z0 (Nat.le_refl _)) ) hZ (w39 hw) (w35 hw) (by decide) (by decide)) (g := (mkF m 4 #[rv ax, iv 0, iv 2, iv key] [(.int 2), (.int 0), (.int 64)])) rfl (by rw [hml]; rfl) (argsL := [(.int 64), (.int 0), (.int 2)]) (rest := []) (lenOf pd_0 rfl) rfl (by show 2 * 0 + _ ≤ _; exact Nat.le_of_eq rfl) (hb hby d4_4) (fun _ _ => ⟨rfl, e0, (by decide : 0 + 0 ≤ _), (by decide : 0 + 0 ≤ _)⟩)
  dsimp only [Pt.U, Pt.locs, Pt.cells, Pt.slots] at X2 lq2 yq2 zq2 st2 hQ2
  subst lq2 yq2 zq2
  obtain ⟨h2, e2⟩ : ∃ z, T2.heap = z := ⟨_, rfl⟩
  rw [e2] at hQ2
  obtain ⟨rfl, N2q, he2⟩ := hQ2
  have N2 := Fr.app N0 N2q
  rw [he2] at e2
  refine go_st st2 ?_
  show Go _ _ _ _ (T2.setTop (mkF m 7 #[rv ax, iv 0, iv 2, iv key] []))
  refine go_st (fun t k => XS.aloadN X2.here hx rfl (hb hby d4_7) rfl rfl k) ?_
  refine go_st (fun t k => XS.iloadN X2.here hx rfl (hb hby d4_8) rfl k) ?_
  refine go_st (fun t k => XS.iloadN X2.here hx rfl (hb hby d4_9) rfl k) ?_
  refine go_st (fun t k => XS.iloadN X2.here hx rfl (hb hby d4_10) rfl k) ?_
  show Go _ _ _ _ (T2.setTop (mkF m 11 #[rv ax, iv 0, iv 2, iv key] [(.int key), (.int 2), (.int 0), (.ref ax)]))
  obtain ⟨_, _, ⟨T3, L3, kk3, nn3⟩, -, X3, ⟨Lc3, hQ3, lq3, yq3, zq3⟩, st3⟩ := Jvm.LawKit.callS X2 hx (y := (⟨"java/util/Arrays", "binarySearch0", "([IIII)I"⟩ : MethodName)) hown (mvT hZ (w40 hw)) (mvT hZ (w41 hw)) (mvT hZ (w35 hw)) (mvT hZ (w42 hw)) (by decide) (backOf (W := 0) (rm_bs0_020 l Z a0 hw [] ax kx key x0 x1 h0 n0 (Nat.le_trans Z0 (Nat.le_refl _)) H0 s0 hr) hZ (w42 hw) (w35 hw) (by decide) (by decide)) (g := (mkF m 11 #[rv ax, iv 0, iv 2, iv key] [(.int key), (.int 2), (.int 0), (.ref ax)])) rfl (by rw [hml]; rfl) (argsL := [(.ref ax), (.int 0), (.int 2), (.int key)]) (rest := []) (lenOf pd_1 rfl) rfl (by show 2 * 0 + _ ≤ _; exact Nat.le_of_eq rfl) (hb hby d4_11) (fun _ _ => ⟨rfl, e2, (by decide : 0 + 0 ≤ _), (by decide : 0 + 0 ≤ _)⟩)
  dsimp only [Pt.U, Pt.locs, Pt.cells, Pt.slots] at X3 lq3 yq3 zq3 st3 hQ3
  subst lq3 yq3 zq3
  obtain ⟨h3, e3⟩ : ∃ z, T3.heap = z := ⟨_, rfl⟩
  rw [e3] at hQ3
  obtain ⟨r_3, rfl, N3q, he3, hres_3⟩ := hQ3
  have N3 := Fr.app N2 N3q
  rw [he3] at e3
  refine go_st st3 ?_
  show Go _ _ _ _ (T3.setTop (mkF m 14 #[rv ax, iv 0, iv 2, iv key] [(.int r_3)]))
  obtain ⟨fs, hr, hrun, hended, hW, hsame⟩ := X3.leave (v := some (.int r_3)) (fun h => by rw [Bd.returns] at h; cases h)
  refine ⟨_, _, ?_, hrun, hended, _, _, rfl, ?_, ⟨_, rfl⟩, hW, hsame.mono (by decide) (by decide)⟩
  · exact retI X3 hx Bd.returns (hb hby d4_14) hr
  · show Q_bs_020 _ _ _ _ _ _ _ _ _ T3.heap _
    rw [e3]
    exact ⟨r_3, rfl, N3, rfl, hres_3⟩
def Q_lb_020 (Z : State) (a1 : Addr) (ax : Addr) (al : Addr) (kx : ClassId) (kl : ClassId) (key : Int32) (line : Int32) (x0 : Int32) (x1 : Int32) (l0 : Int32) (l1 : Int32) (h0 : Heap) (n0 : Nat) (vR : Option Value) (h : Heap) (L : List Loc) : Prop := vR = some (.int line) ∧ Fr n0 L ∧ Keep h0 h [a1] ∧ (Exa Z h a1 cBE) ∧ (Fld Z h a1 cBE "indexes" "[I" (.ref ax)) ∧ (Fld Z h a1 cBE "lines" "[I" (.ref al)) ∧ (Fld Z h a1 cBE "first" "I" (.int 0)) ∧ (Fld Z h a1 cBE "count" "I" (.int 2)) ∧ (Arv Z h ax kx .int (64 : Int32) [(.int x0), (.int x1)] (.int (0 : Int32))) ∧ (Arv Z h al kl .int (64 : Int32) [(.int l0), (.int l1)] (.int (0 : Int32)))
theorem ef_lb_020 (m : MethodId) (x0 : Addr) (x1 : Int32) (x2 : Int32) : entryFrame m #[(.ref x0), (.int x1), (.int x2)] 6 = mkF m 0 #[.val (.ref x0), .val (.int x1), .val (.int x2), .unset, .unset, .unset] [] := by first | (simp [entryFrame, mkF, argsToLocals, Value.category]; done) | rfl
set_option maxRecDepth 65536 in
set_option maxHeartbeats 40000000 in
theorem rm_lb_020 (l : Launch) (Z : State) (a0 : Array Value) (hw : ∀ d ∈ tables_1, d.before a0 Z = true) (ws : List Jvm.Cond) (a1 : Addr) (ax : Addr) (al : Addr) (kx : ClassId) (kl : ClassId) (key : Int32) (line : Int32) (x0 : Int32) (x1 : Int32) (l0 : Int32) (l1 : Int32) (h0 : Heap) (n0 : Nat) (Z0 : n0 ≤ h0.size) (H0 : Exa Z h0 a1 cBE) (H1 : Fld Z h0 a1 cBE "indexes" "[I" (.ref ax)) (H2 : Fld Z h0 a1 cBE "lines" "[I" (.ref al)) (H3 : Fld Z h0 a1 cBE "first" "I" (.int 0)) (H4 : Fld Z h0 a1 cBE "count" "I" (.int 2)) (H5 : Arv Z h0 ax kx .int (64 : Int32) [(.int x0), (.int x1)] (.int (0 : Int32))) (H6 : Arv Z h0 al kl .int (64 : Int32) [(.int l0), (.int l1)] (.int (0 : Int32))) (ne_a1_ax : a1 ≠ ax) (ne_a1_al : a1 ≠ al) (ne_ax_al : ax ≠ al) (g_a1 : n0 ≤ a1) (s0 : x0 < x1) (hr : ¬ (x0 < key)) :
    MetFree l (⟨"com/example/nudge/nudge/tree/BlockEntries", "lineBefore", "(II)I"⟩ : MethodName) (head1 (Jvm.Cond.code (⟨"com/example/nudge/nudge/tree/BlockEntries", "lineBefore", "(II)I"⟩ : MethodName) prog_17_method_3_code 6 (some .int) :: ws) ({ frames := 2, cells := 0, slots := 0, locals := 34 } : Room)) (fun a U => a = #[(.ref a1), (.int key), (.int line)] ∧ Z.Warmed39 U.vm ∧ U.heap = h0) (fun _ _ _ _ _ => True) (fun _ U o U' => ∃ v L, o = .returned v ∧ Q_lb_020 Z a1 ax al kx kl key line x0 x1 l0 l1 h0 n0 v U'.heap L ∧ FrameEnd U o U' L ({ frames := 2, cells := 0, slots := 0, locals := 34 } : Room).cells ({ frames := 2, cells := 0, slots := 0, locals := 34 } : Room).slots) := by
  refine MetFree.of_bodySF (plainFor_of_name pn_com_example_nudge_nudge_tree_BlockEntries) hisR ?_
  intro p e s m args below meth c s₁ Bd hml0 hP hK
  obtain ⟨rfl, hZ, hh⟩ := hP
  have hx := Bd.exec
  have hby := Bd.bytes
  have hml : c.maxLocals = 6 := hml0
  have hown : s.vm.findClass "com/example/nudge/nudge/tree/BlockEntries" = some m.cls := findClass_of_methodNamed Bd.named
  have hnm := (name_of_methodNamed Bd.named Bd.method).1
  have X0 : Stand p l e ({ frames := 2, cells := 0, slots := 0, locals := 34 } : Room) s m #[(.ref a1), (.int key), (.int line)] below meth c s₁ [] 0 0 := Stand.of_body Bd
  have e0 : s₁.heap = h0 := by rw [← hh, Bd.state]; rfl
  have N0 := Fr.nil n0
  refine go_st (fun t k => castTop (ef_lb_020 m a1 key line) k) ?_
  show Go _ _ _ _ (s₁.setTop (mkF m 0 #[rv a1, iv key, iv line, .unset, .unset, .unset] []))
  refine go_st (fun t k => XS.aloadN X0.here hx rfl (hb hby d5_0) rfl rfl k) ?_
  show Go _ _ _ _ (s₁.setTop (mkF m 1 #[rv a1, iv key, iv line, .unset, .unset, .unset] [(.ref a1)]))
  obtain ⟨T1, X1, e1, st1⟩ := getF X0 hx hZ hown (host := "") (Or.inl (w15 hw)) Via.refl e0 H1 (g := (mkF m 1 #[rv a1, iv key, iv line, .unset, .unset, .unset] [(.ref a1)])) rfl rfl (hb hby d5_1)
  refine go_st (fun t k => st1 t k) ?_
  refine go_st (fun t k => XS.aloadN X1.here hx rfl (hb hby d5_4) rfl rfl k) ?_
  show Go _ _ _ _ (T1.setTop (mkF m 5 #[rv a1, iv key, iv line, .unset, .unset, .unset] [(.ref a1), (.ref ax)]))
  obtain ⟨T2, X2, e2, st2⟩ := getF X1 hx hZ hown (host := "") (Or.inl (w31 hw)) Via.refl e1 H3 (g := (mkF m 5 #[rv a1, iv key, iv line, .unset, .unset, .unset] [(.ref a1), (.ref ax)])) rfl rfl (hb hby d5_5)
  refine go_st (fun t k => st2 t k) ?_
  refine go_st (fun t k => XS.aloadN X2.here hx rfl (hb hby d5_8) rfl rfl k) ?_
  show Go _ _ _ _ (T2.setTop (mkF m 9 #[rv a1, iv key, iv line, .unset, .unset, .unset] [(.ref a1), (.int 0), (.ref ax)]))
  obtain ⟨T3, X3, e3, st3⟩ := getF X2 hx hZ hown (host := "") (Or.inl (w24 hw)) Via.refl e2 H4 (g := (mkF m 9 #[rv a1, iv key, iv line, .unset, .unset, .unset] [(.ref a1), (.int 0), (.ref ax)])) rfl rfl (hb hby d5_9)
  refine go_st (fun t k => st3 t k) ?_
  refine go_st (fun t k => XS.iloadN X3.here hx rfl (hb hby d5_12) rfl k) ?_
  show Go _ _ _ _ (T3.setTop (mkF m 13 #[rv a1, iv key, iv line, .unset, .unset, .unset] [(.int key), (.int 2), (.int 0), (.ref ax)]))
  obtain ⟨_, _, ⟨T4, L4, kk4, nn4⟩, -, X4, ⟨Lc4, hQ4, lq4, yq4, zq4⟩, st4⟩ := Jvm.LawKit.callS X3 hx (y := (⟨"java/util/Arrays", "binarySearch", "([IIII)I"⟩ : MethodName)) hown (mvT hZ (w33 hw)) (mvT hZ (w34 hw)) (mvT hZ (w35 hw)) (mvT hZ (w36 hw)) (by decide) (backOf (W := 0) (rm_bs_020 l Z a0 hw [] ax kx key x0 x1 h0 n0 (Nat.le_trans Z0 (Nat.le_refl _)) H5 s0 hr) hZ (w36 hw) (w35 hw) (by decide) (by decide)) (g := (mkF m 13 #[rv a1, iv key, iv line, .unset, .unset, .unset] [(.int key), (.int 2), (.int 0), (.ref ax)])) rfl (by rw [hml]; rfl) (argsL := [(.ref ax), (.int 0), (.int 2), (.int key)]) (rest := []) (lenOf pd_1 rfl) rfl (by show 2 * 0 + _ ≤ _; exact Nat.le_of_eq rfl) (hb hby d5_13) (fun _ _ => ⟨rfl, e3, (by decide : 0 + 0 ≤ _), (by decide : 0 + 0 ≤ _)⟩)
  dsimp only [Pt.U, Pt.locs, Pt.cells, Pt.slots] at X4 lq4 yq4 zq4 st4 hQ4
  subst lq4 yq4 zq4
  obtain ⟨h4, e4⟩ : ∃ z, T4.heap = z := ⟨_, rfl⟩
  rw [e4] at hQ4
  obtain ⟨r_4, rfl, N4q, he4, hres_4⟩ := hQ4
  have N4 := Fr.app N0 N4q
  rw [he4] at e4
  refine go_st st4 ?_
  show Go _ _ _ _ (T4.setTop (mkF m 16 #[rv a1, iv key, iv line, .unset, .unset, .unset] [(.int r_4)]))
  rcases hres_4 with rfl | rfl
  · skip
    show Go _ _ _ _ (T4.setTop (mkF m 16 #[rv a1, iv key, iv line, .unset, .unset, .unset] [(.int 0)]))
    refine go_st (fun t k => XS.istoreN X4.here hx rfl (hb hby d5_16) rfl (l' := #[rv a1, iv key, iv line, iv 0, .unset, .unset]) rfl k) ?_
    refine go_st (fun t k => XS.iloadN X4.here hx rfl (hb hby d5_17) rfl k) ?_
    show Go _ _ _ _ (T4.setTop (mkF m 18 #[rv a1, iv key, iv line, iv 0, .unset, .unset] [(.int 0)]))
    refine go_st (fun t k => XS.ifNo X4.here hx rfl (hb hby d5_18) rfl ((if0 _ _).trans (flt ((by decide) : ¬ ((0 : Int32) < (0 : Int32)))).1) k) ?_
    show Go _ _ _ _ (T4.setTop (mkF m 21 #[rv a1, iv key, iv line, iv 0, .unset, .unset] []))
    refine go_st (fun t k => XS.iloadN X4.here hx rfl (hb hby d5_21) rfl k) ?_
    refine go_st (fun t k => XS.goto X4.here hx rfl (pc0 := 22) (pc' := 29) rfl (hb hby d5_22) (by decide) (by decide) k) ?_
    show Go _ _ _ _ (T4.setTop (mkF m 29 #[rv a1, iv key, iv line, iv 0, .unset, .unset] [(.int 0)]))
    refine go_st (fun t k => XS.iconst X4.here hx rfl (hb hby d5_29) k) ?_
    show Go _ _ _ _ (T4.setTop (mkF m 30 #[rv a1, iv key, iv line, iv 0, .unset, .unset] [(.int 1), (.int 0)]))
    refine go_st (fun t k => XS.isub X4.here hx rfl (hb hby d5_30) rfl k) ?_
    rw [show ((0 : Int32) - (1 : Int32)) = (-1 : Int32) from by decide]
    show Go _ _ _ _ (T4.setTop (mkF m 31 #[rv a1, iv key, iv line, iv 0, .unset, .unset] [(.int (-1))]))
    refine go_st (fun t k => XS.istore X4.here hx rfl (hb hby d5_31) rfl (l' := #[rv a1, iv key, iv line, iv 0, iv (-1), .unset]) rfl k) ?_
    refine go_st (fun t k => XS.iloadN X4.here hx rfl (hb hby d5_33) rfl k) ?_
    refine go_st (fun t k => XS.istore X4.here hx rfl (hb hby d5_34) rfl (l' := #[rv a1, iv key, iv line, iv 0, iv (-1), iv line]) rfl k) ?_
    refine go_st (fun t k => XS.iload X4.here hx rfl (hb hby d5_36) rfl k) ?_
    refine go_st (fun t k => XS.aloadN X4.here hx rfl (hb hby d5_38) rfl rfl k) ?_
    show Go _ _ _ _ (T4.setTop (mkF m 39 #[rv a1, iv key, iv line, iv 0, iv (-1), iv line] [(.ref a1), (.int (-1))]))
    obtain ⟨T5, X5, e5, st5⟩ := getF X4 hx hZ hown (host := "") (Or.inl (w31 hw)) Via.refl e4 H3 (g := (mkF m 39 #[rv a1, iv key, iv line, iv 0, iv (-1), iv line] [(.ref a1), (.int (-1))])) rfl rfl (hb hby d5_39)
    refine go_st (fun t k => st5 t k) ?_
    show Go _ _ _ _ (T5.setTop (mkF m 42 #[rv a1, iv key, iv line, iv 0, iv (-1), iv line] [(.int 0), (.int (-1))]))
    refine go_st (fun t k => XS.icmpYes X5.here hx rfl (pc0 := 42) (pc' := 60) rfl (hb hby d5_42) rfl (tlt ((by decide) : (-1 : Int32) < (0 : Int32))).1 (by decide) (by decide) k) ?_
    show Go _ _ _ _ (T5.setTop (mkF m 60 #[rv a1, iv key, iv line, iv 0, iv (-1), iv line] []))
    refine go_st (fun t k => XS.iload X5.here hx rfl (hb hby d5_60) rfl k) ?_
    show Go _ _ _ _ (T5.setTop (mkF m 62 #[rv a1, iv key, iv line, iv 0, iv (-1), iv line] [(.int line)]))
    obtain ⟨fs, hr, hrun, hended, hW, hsame⟩ := X5.leave (v := some (.int line)) (fun h => by rw [Bd.returns] at h; cases h)
    refine ⟨_, _, ?_, hrun, hended, _, _, rfl, ?_, ⟨_, rfl⟩, hW, hsame.mono (by decide) (by decide)⟩
    · exact retI X5 hx Bd.returns (hb hby d5_62) hr
    · show Q_lb_020 _ _ _ _ _ _ _ _ _ _ _ _ _ _ _ T5.heap _
      rw [e5]
      exact ⟨rfl, N4, (Keep.refl h0 [a1]), H0, H1, H2, H3, H4, H5, H6⟩
  · skip
    show Go _ _ _ _ (T4.setTop (mkF m 16 #[rv a1, iv key, iv line, .unset, .unset, .unset] [(.int (-1))]))
    refine go_st (fun t k => XS.istoreN X4.here hx rfl (hb hby d5_16) rfl (l' := #[rv a1, iv key, iv line, iv (-1), .unset, .unset]) rfl k) ?_
    refine go_st (fun t k => XS.iloadN X4.here hx rfl (hb hby d5_17) rfl k) ?_
    show Go _ _ _ _ (T4.setTop (mkF m 18 #[rv a1, iv key, iv line, iv (-1), .unset, .unset] [(.int (-1))]))
    refine go_st (fun t k => XS.ifYes X4.here hx rfl (pc0 := 18) (pc' := 25) rfl (hb hby d5_18) rfl ((if0 _ _).trans (tlt ((by decide) : (-1 : Int32) < (0 : Int32))).1) (by decide) (by decide) k) ?_
    show Go _ _ _ _ (T4.setTop (mkF m 25 #[rv a1, iv key, iv line, iv (-1), .unset, .unset] []))
    refine go_st (fun t k => XS.iloadN X4.here hx rfl (hb hby d5_25) rfl k) ?_
    show Go _ _ _ _ (T4.setTop (mkF m 26 #[rv a1, iv key, iv line, iv (-1), .unset, .unset] [(.int (-1))]))
    refine go_st (fun t k => XS.ineg X4.here hx rfl (hb hby d5_26) rfl k) ?_
    rw [show (-(-1 : Int32)) = (1 : Int32) from by decide]
    show Go _ _ _ _ (T4.setTop (mkF m 27 #[rv a1, iv key, iv line, iv (-1), .unset, .unset] [(.int 1)]))
    refine go_st (fun t k => XS.iconst X4.here hx rfl (hb hby d5_27) k) ?_
    show Go _ _ _ _ (T4.setTop (mkF m 28 #[rv a1, iv key, iv line, iv (-1), .unset, .unset] [(.int 1), (.int 1)]))
    refine go_st (fun t k => XS.isub X4.here hx rfl (hb hby d5_28) rfl k) ?_
    rw [show ((1 : Int32) - (1 : Int32)) = (0 : Int32) from by decide]
    show Go _ _ _ _ (T4.setTop (mkF m 29 #[rv a1, iv key, iv line, iv (-1), .unset, .unset] [(.int 0)]))
    refine go_st (fun t k => XS.iconst X4.here hx rfl (hb hby d5_29) k) ?_
    show Go _ _ _ _ (T4.setTop (mkF m 30 #[rv a1, iv key, iv line, iv (-1), .unset, .unset] [(.int 1), (.int 0)]))
    refine go_st (fun t k => XS.isub X4.here hx rfl (hb hby d5_30) rfl k) ?_
    rw [show ((0 : Int32) - (1 : Int32)) = (-1 : Int32) from by decide]
    show Go _ _ _ _ (T4.setTop (mkF m 31 #[rv a1, iv key, iv line, iv (-1), .unset, .unset] [(.int (-1))]))
    refine go_st (fun t k => XS.istore X4.here hx rfl (hb hby d5_31) rfl (l' := #[rv a1, iv key, iv line, iv (-1), iv (-1), .unset]) rfl k) ?_
    refine go_st (fun t k => XS.iloadN X4.here hx rfl (hb hby d5_33) rfl k) ?_
    refine go_st (fun t k => XS.istore X4.here hx rfl (hb hby d5_34) rfl (l' := #[rv a1, iv key, iv line, iv (-1), iv (-1), iv line]) rfl k) ?_
    refine go_st (fun t k => XS.iload X4.here hx rfl (hb hby d5_36) rfl k) ?_
    refine go_st (fun t k => XS.aloadN X4.here hx rfl (hb hby d5_38) rfl rfl k) ?_
    show Go _ _ _ _ (T4.setTop (mkF m 39 #[rv a1, iv key, iv line, iv (-1), iv (-1), iv line] [(.ref a1), (.int (-1))]))
    obtain ⟨T6, X6, e6, st6⟩ := getF X4 hx hZ hown (host := "") (Or.inl (w31 hw)) Via.refl e4 H3 (g := (mkF m 39 #[rv a1, iv key, iv line, iv (-1), iv (-1), iv line] [(.ref a1), (.int (-1))])) rfl rfl (hb hby d5_39)
    refine go_st (fun t k => st6 t k) ?_
    show Go _ _ _ _ (T6.setTop (mkF m 42 #[rv a1, iv key, iv line, iv (-1), iv (-1), iv line] [(.int 0), (.int (-1))]))
    refine go_st (fun t k => XS.icmpYes X6.here hx rfl (pc0 := 42) (pc' := 60) rfl (hb hby d5_42) rfl (tlt ((by decide) : (-1 : Int32) < (0 : Int32))).1 (by decide) (by decide) k) ?_
    show Go _ _ _ _ (T6.setTop (mkF m 60 #[rv a1, iv key, iv line, iv (-1), iv (-1), iv line] []))
    refine go_st (fun t k => XS.iload X6.here hx rfl (hb hby d5_60) rfl k) ?_
    show Go _ _ _ _ (T6.setTop (mkF m 62 #[rv a1, iv key, iv line, iv (-1), iv (-1), iv line] [(.int line)]))
    obtain ⟨fs, hr, hrun, hended, hW, hsame⟩ := X6.leave (v := some (.int line)) (fun h => by rw [Bd.returns] at h; cases h)
    refine ⟨_, _, ?_, hrun, hended, _, _, rfl, ?_, ⟨_, rfl⟩, hW, hsame.mono (by decide) (by decide)⟩
    · exact retI X6 hx Bd.returns (hb hby d5_62) hr
    · show Q_lb_020 _ _ _ _ _ _ _ _ _ _ _ _ _ _ _ T6.heap _
      rw [e6]
      exact ⟨rfl, N4, (Keep.refl h0 [a1]), H0, H1, H2, H3, H4, H5, H6⟩
def Q_bs0_021 (Z : State) (ax : Addr) (kx : ClassId) (key : Int32) (x0 : Int32) (x1 : Int32) (h0 : Heap) (n0 : Nat) (vR : Option Value) (h : Heap) (L : List Loc) : Prop := ∃ (r : Int32), vR = some (.int r) ∧ Fr n0 L ∧ h = h0 ∧ (r = (1 : Int32) ∨ r = (-2 : Int32))
theorem ef_bs0_021 (m : MethodId) (x0 : Addr) (x1 : Int32) (x2 : Int32) (x3 : Int32) : entryFrame m #[(.ref x0), (.int x1), (.int x2), (.int x3)] 8 = mkF m 0 #[.val (.ref x0), .val (.int x1), .val (.int x2), .val (.int x3), .unset, .unset, .unset, .unset] [] := by first | (simp [entryFrame, mkF, argsToLocals, Value.category]; done) | rfl
set_option maxRecDepth 65536 in
set_option maxHeartbeats 40000000 in
theorem rm_bs0_021 (l : Launch) (Z : State) (a0 : Array Value) (hw : ∀ d ∈ tables_1, d.before a0 Z = true) (ws : List Jvm.Cond) (ax : Addr) (kx : ClassId) (key : Int32) (x0 : Int32) (x1 : Int32) (h0 : Heap) (n0 : Nat) (Z0 : n0 ≤ h0.size) (H0 : Arv Z h0 ax kx .int (64 : Int32) [(.int x0), (.int x1)] (.int (0 : Int32))) (s0 : x0 < x1) (hl : x0 < key) (hr : ¬ (x1 < key)) :
    MetFree l (⟨"java/util/Arrays", "binarySearch0", "([IIII)I"⟩ : MethodName) (head1 (Jvm.Cond.code (⟨"java/util/Arrays", "binarySearch0", "([IIII)I"⟩ : MethodName) jdk_65_method_59_code 8 (some .int) :: ws) ({ frames := 0, cells := 0, slots := 0, locals := 0 } : Room)) (fun a U => a = #[(.ref ax), (.int 0), (.int 2), (.int key)] ∧ Z.Warmed39 U.vm ∧ U.heap = h0) (fun _ _ _ _ _ => True) (fun _ U o U' => ∃ v L, o = .returned v ∧ Q_bs0_021 Z ax kx key x0 x1 h0 n0 v U'.heap L ∧ FrameEnd U o U' L ({ frames := 0, cells := 0, slots := 0, locals := 0 } : Room).cells ({ frames := 0, cells := 0, slots := 0, locals := 0 } : Room).slots) := by
  refine MetFree.of_bodySF (plainFor_of_name pn_java_util_Arrays) hisR ?_
  intro p e s m args below meth c s₁ Bd hml0 hP hK
  obtain ⟨rfl, hZ, hh⟩ := hP
  have hx := Bd.exec
  have hby := Bd.bytes
  have hml : c.maxLocals = 8 := hml0
  have hown : s.vm.findClass "java/util/Arrays" = some m.cls := findClass_of_methodNamed Bd.named
  have hnm := (name_of_methodNamed Bd.named Bd.method).1
  have X0 : Stand p l e ({ frames := 0, cells := 0, slots := 0, locals := 0 } : Room) s m #[(.ref ax), (.int 0), (.int 2), (.int key)] below meth c s₁ [] 0 0 := Stand.of_body Bd
  have e0 : s₁.heap = h0 := by rw [← hh, Bd.state]; rfl
  have N0 := Fr.nil n0
  refine go_st (fun t k => castTop (ef_bs0_021 m ax (0 : Int32) (2 : Int32) key) k) ?_
  show Go _ _ _ _ (s₁.setTop (mkF m 0 #[rv ax, iv 0, iv 2, iv key, .unset, .unset, .unset, .unset] []))
  refine go_st (fun t k => XS.iloadN X0.here hx rfl (hb hby d3_0) rfl k) ?_
  refine go_st (fun t k => XS.istore X0.here hx rfl (hb hby d3_1) rfl (l' := #[rv ax, iv 0, iv 2, iv key, iv 0, .unset, .unset, .unset]) rfl k) ?_
  refine go_st (fun t k => XS.iloadN X0.here hx rfl (hb hby d3_3) rfl k) ?_
  refine go_st (fun t k => XS.iconst X0.here hx rfl (hb hby d3_4) k) ?_
  show Go _ _ _ _ (s₁.setTop (mkF m 5 #[rv ax, iv 0, iv 2, iv key, iv 0, .unset, .unset, .unset] [(.int 1), (.int 2)]))
  refine go_st (fun t k => XS.isub X0.here hx rfl (hb hby d3_5) rfl k) ?_
  rw [show ((2 : Int32) - (1 : Int32)) = (1 : Int32) from by decide]
  show Go _ _ _ _ (s₁.setTop (mkF m 6 #[rv ax, iv 0, iv 2, iv key, iv 0, .unset, .unset, .unset] [(.int 1)]))
  refine go_st (fun t k => XS.istore X0.here hx rfl (hb hby d3_6) rfl (l' := #[rv ax, iv 0, iv 2, iv key, iv 0, iv 1, .unset, .unset]) rfl k) ?_
  refine go_st (fun t k => XS.iload X0.here hx rfl (hb hby d3_8) rfl k) ?_
  refine go_st (fun t k => XS.iload X0.here hx rfl (hb hby d3_10) rfl k) ?_
  show Go _ _ _ _ (s₁.setTop (mkF m 12 #[rv ax, iv 0, iv 2, iv key, iv 0, iv 1, .unset, .unset] [(.int 1), (.int 0)]))
  refine go_st (fun t k => XS.icmpNo X0.here hx rfl (hb hby d3_12) rfl (flt ((by decide) : ¬ ((1 : Int32) < (0 : Int32)))).2.2.1 k) ?_
  show Go _ _ _ _ (s₁.setTop (mkF m 15 #[rv ax, iv 0, iv 2, iv key, iv 0, iv 1, .unset, .unset] []))
  refine go_st (fun t k => XS.iload X0.here hx rfl (hb hby d3_15) rfl k) ?_
  refine go_st (fun t k => XS.iload X0.here hx rfl (hb hby d3_17) rfl k) ?_
  show Go _ _ _ _ (s₁.setTop (mkF m 19 #[rv ax, iv 0, iv 2, iv key, iv 0, iv 1, .unset, .unset] [(.int 1), (.int 0)]))
  refine go_st (fun t k => XS.iadd X0.here hx rfl (hb hby d3_19) rfl k) ?_
  rw [show ((0 : Int32) + (1 : Int32)) = (1 : Int32) from by decide]
  show Go _ _ _ _ (s₁.setTop (mkF m 20 #[rv ax, iv 0, iv 2, iv key, iv 0, iv 1, .unset, .unset] [(.int 1)]))
  refine go_st (fun t k => XS.iconst X0.here hx rfl (hb hby d3_20) k) ?_
  show Go _ _ _ _ (s₁.setTop (mkF m 21 #[rv ax, iv 0, iv 2, iv key, iv 0, iv 1, .unset, .unset] [(.int 1), (.int 1)]))
  refine go_st (fun t k => XS.iushr X0.here hx rfl (hb hby d3_21) rfl k) ?_
  rw [show (((1 : Int32)).toUInt32 >>> ((1 : Int32) &&& 31).toUInt32).toInt32 = (0 : Int32) from by decide]
  show Go _ _ _ _ (s₁.setTop (mkF m 22 #[rv ax, iv 0, iv 2, iv key, iv 0, iv 1, .unset, .unset] [(.int 0)]))
  refine go_st (fun t k => XS.istore X0.here hx rfl (hb hby d3_22) rfl (l' := #[rv ax, iv 0, iv 2, iv key, iv 0, iv 1, iv 0, .unset]) rfl k) ?_
  refine go_st (fun t k => XS.aloadN X0.here hx rfl (hb hby d3_24) rfl rfl k) ?_
  refine go_st (fun t k => XS.iload X0.here hx rfl (hb hby d3_25) rfl k) ?_
  show Go _ _ _ _ (s₁.setTop (mkF m 27 #[rv ax, iv 0, iv 2, iv key, iv 0, iv 1, iv 0, .unset] [(.int 0), (.ref ax)]))
  obtain ⟨zc1, zA1, zq1, zS1, zN1, zH1, zG1⟩ := id H0
  have hin1 : ¬ ((0 : Int32) < 0 ∨ zc1.slots.size ≤ ((0 : Int32)).toNatClampNeg) := inb_of zS1 ⟨by decide, by decide⟩
  have hat1 : zc1.slots[((0 : Int32)).toNatClampNeg]? = some (.int x0) := Has.at zH1 hin1 rfl
  refine go_st (fun t k => X0.iaload hx (j := (0 : Int32)) (v := (.int x0)) (by rw [e0]; exact zA1.1) (State.isArrayOf_alike hZ.alike zA1.2.1) zA1.2.2 hin1 hat1 (g := (mkF m 27 #[rv ax, iv 0, iv 2, iv key, iv 0, iv 1, iv 0, .unset] [(.int 0), (.ref ax)])) rfl rfl (hb hby d3_27) t k) ?_
  refine go_st (fun t k => XS.istore X0.here hx rfl (hb hby d3_28) rfl (l' := #[rv ax, iv 0, iv 2, iv key, iv 0, iv 1, iv 0, iv x0]) rfl k) ?_
  refine go_st (fun t k => XS.iload X0.here hx rfl (hb hby d3_30) rfl k) ?_
  refine go_st (fun t k => XS.iloadN X0.here hx rfl (hb hby d3_32) rfl k) ?_
  show Go _ _ _ _ (s₁.setTop (mkF m 33 #[rv ax, iv 0, iv 2, iv key, iv 0, iv 1, iv 0, iv x0] [(.int key), (.int x0)]))
  refine go_st (fun t k => XS.icmpNo X0.here hx rfl (hb hby d3_33) rfl (tlt (hl : x0 < key)).2.1 k) ?_
  show Go _ _ _ _ (s₁.setTop (mkF m 36 #[rv ax, iv 0, iv 2, iv key, iv 0, iv 1, iv 0, iv x0] []))
  refine go_st (fun t k => XS.iload X0.here hx rfl (hb hby d3_36) rfl k) ?_
  refine go_st (fun t k => XS.iconst X0.here hx rfl (hb hby d3_38) k) ?_
  show Go _ _ _ _ (s₁.setTop (mkF m 39 #[rv ax, iv 0, iv 2, iv key, iv 0, iv 1, iv 0, iv x0] [(.int 1), (.int 0)]))
  refine go_st (fun t k => XS.iadd X0.here hx rfl (hb hby d3_39) rfl k) ?_
  rw [show ((0 : Int32) + (1 : Int32)) = (1 : Int32) from by decide]
  show Go _ _ _ _ (s₁.setTop (mkF m 40 #[rv ax, iv 0, iv 2, iv key, iv 0, iv 1, iv 0, iv x0] [(.int 1)]))
  refine go_st (fun t k => XS.istore X0.here hx rfl (hb hby d3_40) rfl (l' := #[rv ax, iv 0, iv 2, iv key, iv 1, iv 1, iv 0, iv x0]) rfl k) ?_
  refine go_st (fun t k => XS.goto X0.here hx rfl (pc0 := 42) (pc' := 63) rfl (hb hby d3_42) (by decide) (by decide) k) ?_
  show Go _ _ _ _ (s₁.setTop (mkF m 63 #[rv ax, iv 0, iv 2, iv key, iv 1, iv 1, iv 0, iv x0] []))
  refine go_st (fun t k => XS.goto X0.here hx rfl (pc0 := 63) (pc' := 8) rfl (hb hby d3_63) (by decide) (by decide) k) ?_
  show Go _ _ _ _ (s₁.setTop (mkF m 8 #[rv ax, iv 0, iv 2, iv key, iv 1, iv 1, iv 0, iv x0] []))
  refine go_st (fun t k => XS.iload X0.here hx rfl (hb hby d3_8) rfl k) ?_
  refine go_st (fun t k => XS.iload X0.here hx rfl (hb hby d3_10) rfl k) ?_
  show Go _ _ _ _ (s₁.setTop (mkF m 12 #[rv ax, iv 0, iv 2, iv key, iv 1, iv 1, iv 0, iv x0] [(.int 1), (.int 1)]))
  refine go_st (fun t k => XS.icmpNo X0.here hx rfl (hb hby d3_12) rfl (flt ((by decide) : ¬ ((1 : Int32) < (1 : Int32)))).2.2.1 k) ?_
  show Go _ _ _ _ (s₁.setTop (mkF m 15 #[rv ax, iv 0, iv 2, iv key, iv 1, iv 1, iv 0, iv x0] []))
  refine go_st (fun t k => XS.iload X0.here hx rfl (hb hby d3_15) rfl k) ?_
  refine go_st (fun t k => XS.iload X0.here hx rfl (hb hby d3_17) rfl k) ?_
  show Go _ _ _ _ (s₁.setTop (mkF m 19 #[rv ax, iv 0, iv 2, iv key, iv 1, iv 1, iv 0, iv x0] [(.int 1), (.int 1)]))
  refine go_st (fun t k => XS.iadd X0.here hx rfl (hb hby d3_19) rfl k) ?_
  rw [show ((1 : Int32) + (1 : Int32)) = (2 : Int32) from by decide]
  show Go _ _ _ _ (s₁.setTop (mkF m 20 #[rv ax, iv 0, iv 2, iv key, iv 1, iv 1, iv 0, iv x0] [(.int 2)]))
  refine go_st (fun t k => XS.iconst X0.here hx rfl (hb hby d3_20) k) ?_
  show Go _ _ _ _ (s₁.setTop (mkF m 21 #[rv ax, iv 0, iv 2, iv key, iv 1, iv 1, iv 0, iv x0] [(.int 1), (.int 2)]))
  refine go_st (fun t k => XS.iushr X0.here hx rfl (hb hby d3_21) rfl k) ?_
  rw [show (((2 : Int32)).toUInt32 >>> ((1 : Int32) &&& 31).toUInt32).toInt32 = (1 : Int32) from by decide]
  show Go _ _ _ _ (s₁.setTop (mkF m 22 #[rv ax, iv 0, iv 2, iv key, iv 1, iv 1, iv 0, iv x0] [(.int 1)]))
  refine go_st (fun t k => XS.istore X0.here hx rfl (hb hby d3_22) rfl (l' := #[rv ax, iv 0, iv 2, iv key, iv 1, iv 1, iv 1, iv x0]) rfl k) ?_
  refine go_st (fun t k => XS.aloadN X0.here hx rfl (hb hby d3_24) rfl rfl k) ?_
  refine go_st (fun t k => XS.iload X0.here hx rfl (hb hby d3_25) rfl k) ?_
  show Go _ _ _ _ (s₁.setTop (mkF m 27 #[rv ax, iv 0, iv 2, iv key, iv 1, iv 1, iv 1, iv x0] [(.int 1), (.ref ax)]))
  obtain ⟨zc2, zA2, zq2, zS2, zN2, zH2, zG2⟩ := id H0
  have hin2 : ¬ ((1 : Int32) < 0 ∨ zc2.slots.size ≤ ((1 : Int32)).toNatClampNeg) := inb_of zS2 ⟨by decide, by decide⟩
  have hat2 : zc2.slots[((1 : Int32)).toNatClampNeg]? = some (.int x1) := Has.at zH2 hin2 rfl
  refine go_st (fun t k => X0.iaload hx (j := (1 : Int32)) (v := (.int x1)) (by rw [e0]; exact zA2.1) (State.isArrayOf_alike hZ.alike zA2.2.1) zA2.2.2 hin2 hat2 (g := (mkF m 27 #[rv ax, iv 0, iv 2, iv key, iv 1, iv 1, iv 1, iv x0] [(.int 1), (.ref ax)])) rfl rfl (hb hby d3_27) t k) ?_
  refine go_st (fun t k => XS.istore X0.here hx rfl (hb hby d3_28) rfl (l' := #[rv ax, iv 0, iv 2, iv key, iv 1, iv 1, iv 1, iv x1]) rfl k) ?_
  refine go_st (fun t k => XS.iload X0.here hx rfl (hb hby d3_30) rfl k) ?_
  refine go_st (fun t k => XS.iloadN X0.here hx rfl (hb hby d3_32) rfl k) ?_
  show Go _ _ _ _ (s₁.setTop (mkF m 33 #[rv ax, iv 0, iv 2, iv key, iv 1, iv 1, iv 1, iv x1] [(.int key), (.int x1)]))
  refine go_st (fun t k => XS.icmpYes X0.here hx rfl (pc0 := 33) (pc' := 45) rfl (hb hby d3_33) rfl (flt (hr : ¬ (x1 < key))).2.1 (by decide) (by decide) k) ?_
  show Go _ _ _ _ (s₁.setTop (mkF m 45 #[rv ax, iv 0, iv 2, iv key, iv 1, iv 1, iv 1, iv x1] []))
  refine go_st (fun t k => XS.iload X0.here hx rfl (hb hby d3_45) rfl k) ?_
  refine go_st (fun t k => XS.iloadN X0.here hx rfl (hb hby d3_47) rfl k) ?_
  show Go _ _ _ _ (s₁.setTop (mkF m 48 #[rv ax, iv 0, iv 2, iv key, iv 1, iv 1, iv 1, iv x1] [(.int key), (.int x1)]))
  by_cases hc3 : key < x1
  · skip
    refine go_st (fun t k => XS.icmpNo X0.here hx rfl (hb hby d3_48) rfl (tlt (hc3 : key < x1)).2.2.2 k) ?_
    show Go _ _ _ _ (s₁.setTop (mkF m 51 #[rv ax, iv 0, iv 2, iv key, iv 1, iv 1, iv 1, iv x1] []))
    refine go_st (fun t k => XS.iload X0.here hx rfl (hb hby d3_51) rfl k) ?_
    refine go_st (fun t k => XS.iconst X0.here hx rfl (hb hby d3_53) k) ?_
    show Go _ _ _ _ (s₁.setTop (mkF m 54 #[rv ax, iv 0, iv 2, iv key, iv 1, iv 1, iv 1, iv x1] [(.int 1), (.int 1)]))
    refine go_st (fun t k => XS.isub X0.here hx rfl (hb hby d3_54) rfl k) ?_
    rw [show ((1 : Int32) - (1 : Int32)) = (0 : Int32) from by decide]
    show Go _ _ _ _ (s₁.setTop (mkF m 55 #[rv ax, iv 0, iv 2, iv key, iv 1, iv 1, iv 1, iv x1] [(.int 0)]))
    refine go_st (fun t k => XS.istore X0.here hx rfl (hb hby d3_55) rfl (l' := #[rv ax, iv 0, iv 2, iv key, iv 1, iv 0, iv 1, iv x1]) rfl k) ?_
    refine go_st (fun t k => XS.goto X0.here hx rfl (pc0 := 57) (pc' := 63) rfl (hb hby d3_57) (by decide) (by decide) k) ?_
    show Go _ _ _ _ (s₁.setTop (mkF m 63 #[rv ax, iv 0, iv 2, iv key, iv 1, iv 0, iv 1, iv x1] []))
    refine go_st (fun t k => XS.goto X0.here hx rfl (pc0 := 63) (pc' := 8) rfl (hb hby d3_63) (by decide) (by decide) k) ?_
    show Go _ _ _ _ (s₁.setTop (mkF m 8 #[rv ax, iv 0, iv 2, iv key, iv 1, iv 0, iv 1, iv x1] []))
    refine go_st (fun t k => XS.iload X0.here hx rfl (hb hby d3_8) rfl k) ?_
    refine go_st (fun t k => XS.iload X0.here hx rfl (hb hby d3_10) rfl k) ?_
    show Go _ _ _ _ (s₁.setTop (mkF m 12 #[rv ax, iv 0, iv 2, iv key, iv 1, iv 0, iv 1, iv x1] [(.int 0), (.int 1)]))
    refine go_st (fun t k => XS.icmpYes X0.here hx rfl (pc0 := 12) (pc' := 66) rfl (hb hby d3_12) rfl (tlt ((by decide) : (0 : Int32) < (1 : Int32))).2.2.1 (by decide) (by decide) k) ?_
    show Go _ _ _ _ (s₁.setTop (mkF m 66 #[rv ax, iv 0, iv 2, iv key, iv 1, iv 0, iv 1, iv x1] []))
    refine go_st (fun t k => XS.iload X0.here hx rfl (hb hby d3_66) rfl k) ?_
    refine go_st (fun t k => XS.iconst X0.here hx rfl (hb hby d3_68) k) ?_
    show Go _ _ _ _ (s₁.setTop (mkF m 69 #[rv ax, iv 0, iv 2, iv key, iv 1, iv 0, iv 1, iv x1] [(.int 1), (.int 1)]))
    refine go_st (fun t k => XS.iadd X0.here hx rfl (hb hby d3_69) rfl k) ?_
    rw [show ((1 : Int32) + (1 : Int32)) = (2 : Int32) from by decide]
    show Go _ _ _ _ (s₁.setTop (mkF m 70 #[rv ax, iv 0, iv 2, iv key, iv 1, iv 0, iv 1, iv x1] [(.int 2)]))
    refine go_st (fun t k => XS.ineg X0.here hx rfl (hb hby d3_70) rfl k) ?_
    rw [show (-(2 : Int32)) = (-2 : Int32) from by decide]
    show Go _ _ _ _ (s₁.setTop (mkF m 71 #[rv ax, iv 0, iv 2, iv key, iv 1, iv 0, iv 1, iv x1] [(.int (-2))]))
    obtain ⟨fs, hr, hrun, hended, hW, hsame⟩ := X0.leave (v := some (.int (-2))) (fun h => by rw [Bd.returns] at h; cases h)
    refine ⟨_, _, ?_, hrun, hended, _, _, rfl, ?_, ⟨_, rfl⟩, hW, hsame.mono (by decide) (by decide)⟩
    · exact retI X0 hx Bd.returns (hb hby d3_71) hr
    · show Q_bs0_021 _ _ _ _ _ _ _ _ _ s₁.heap _
      rw [e0]
      exact ⟨(-2 : Int32), rfl, N0, rfl, (Or.inr rfl)⟩
  · skip
    refine go_st (fun t k => XS.icmpYes X0.here hx rfl (pc0 := 48) (pc' := 60) rfl (hb hby d3_48) rfl (flt (hc3 : ¬ (key < x1))).2.2.2 (by decide) (by decide) k) ?_
    show Go _ _ _ _ (s₁.setTop (mkF m 60 #[rv ax, iv 0, iv 2, iv key, iv 1, iv 1, iv 1, iv x1] []))
    refine go_st (fun t k => XS.iload X0.here hx rfl (hb hby d3_60) rfl k) ?_
    show Go _ _ _ _ (s₁.setTop (mkF m 62 #[rv ax, iv 0, iv 2, iv key, iv 1, iv 1, iv 1, iv x1] [(.int 1)]))
    obtain ⟨fs, hr, hrun, hended, hW, hsame⟩ := X0.leave (v := some (.int 1)) (fun h => by rw [Bd.returns] at h; cases h)
    refine ⟨_, _, ?_, hrun, hended, _, _, rfl, ?_, ⟨_, rfl⟩, hW, hsame.mono (by decide) (by decide)⟩
    · exact retI X0 hx Bd.returns (hb hby d3_62) hr
    · show Q_bs0_021 _ _ _ _ _ _ _ _ _ s₁.heap _
      rw [e0]
      exact ⟨(1 : Int32), rfl, N0, rfl, (Or.inl rfl)⟩
def Q_bs_021 (Z : State) (ax : Addr) (kx : ClassId) (key : Int32) (x0 : Int32) (x1 : Int32) (h0 : Heap) (n0 : Nat) (vR : Option Value) (h : Heap) (L : List Loc) : Prop := ∃ (r : Int32), vR = some (.int r) ∧ Fr n0 L ∧ h = h0 ∧ (r = (1 : Int32) ∨ r = (-2 : Int32))
theorem ef_bs_021 (m : MethodId) (x0 : Addr) (x1 : Int32) (x2 : Int32) (x3 : Int32) : entryFrame m #[(.ref x0), (.int x1), (.int x2), (.int x3)] 4 = mkF m 0 #[.val (.ref x0), .val (.int x1), .val (.int x2), .val (.int x3)] [] := by first | (simp [entryFrame, mkF, argsToLocals, Value.category]; done) | rfl
set_option maxRecDepth 65536 in
set_option maxHeartbeats 40000000 in
theorem rm_bs_021 (l : Launch) (Z : State) (a0 : Array Value) (hw : ∀ d ∈ tables_1, d.before a0 Z = true) (ws : List Jvm.Cond) (ax : Addr) (kx : ClassId) (key : Int32) (x0 : Int32) (x1 : Int32) (h0 : Heap) (n0 : Nat) (Z0 : n0 ≤ h0.size) (H0 : Arv Z h0 ax kx .int (64 : Int32) [(.int x0), (.int x1)] (.int (0 : Int32))) (s0 : x0 < x1) (hl : x0 < key) (hr : ¬ (x1 < key)) :
    MetFree l (⟨"java/util/Arrays", "binarySearch", "([IIII)I"⟩ : MethodName) (head1 (Jvm.Cond.code (⟨"java/util/Arrays", "binarySearch", "([IIII)I"⟩ : MethodName) jdk_65_method_58_code 4 (some .int) :: ws) ({ frames := 1, cells := 0, slots := 0, locals := 19 } : Room)) (fun a U => a = #[(.ref ax), (.int 0), (.int 2), (.int key)] ∧ Z.Warmed39 U.vm ∧ U.heap = h0) (fun _ _ _ _ _ => True) (fun _ U o U' => ∃ v L, o = .returned v ∧ Q_bs_021 Z ax kx key x0 x1 h0 n0 v U'.heap L ∧ FrameEnd U o U' L ({ frames := 1, cells := 0, slots := 0, locals := 19 } : Room).cells ({ frames := 1, cells := 0, slots := 0, locals := 19 } : Room).slots) := by
  refine MetFree.of_bodySF (plainFor_of_name pn_java_util_Arrays) hisR ?_
  intro p e s m args below meth c s₁ Bd hml0 hP hK
  obtain ⟨rfl, hZ, hh⟩ := hP
  have hx := Bd.exec
  have hby := Bd.bytes
  have hml : c.maxLocals = 4 := hml0
  have hown : s.vm.findClass "java/util/Arrays" = some m.cls := findClass_of_methodNamed Bd.named
  have hnm := (name_of_methodNamed Bd.named Bd.method).1
  have X0 : Stand p l e ({ frames := 1, cells := 0, slots := 0, locals := 19 } : Room) s m #[(.ref ax), (.int 0), (.int 2), (.int key)] below meth c s₁ [] 0 0 := Stand.of_body Bd
  have e0 : s₁.heap = h0 := by rw [← hh, Bd.state]; rfl
  have N0 := Fr.nil n0
  refine go_st (fun t k => castTop (ef_bs_021 m ax (0 : Int32) (2 : Int32) key) k) ?_
  show Go _ _ _ _ (s₁.setTop (mkF m 0 #[rv ax, iv 0, iv 2, iv key] []))
  refine go_st (fun t k => XS.aloadN X0.here hx rfl (hb hby d4_0) rfl rfl k) ?_
  show Go _ _ _ _ (s₁.setTop (mkF m 1 #[rv ax, iv 0, iv 2, iv key] [(.ref ax)]))
  obtain ⟨zc1, zA1, zq1, zS1, zN1, zH1, zG1⟩ := id H0
  refine go_st (fun t k => X0.arraylength hx (by rw [e0]; exact zA1.1) (State.isArrayOf_alike hZ.alike zA1.2.1) (g := (mkF m 1 #[rv ax, iv 0, iv 2, iv key] [(.ref ax)])) rfl rfl (hb hby d4_1) t k) ?_
  rw [len_of zS1 zN1]
  refine go_st (fun t k => XS.iloadN X0.here hx rfl (hb hby d4_2) rfl k) ?_
  refine go_st (fun t k => XS.iloadN X0.here hx rfl (hb hby d4_3) rfl k) ?_
  show Go _ _ _ _ (s₁.setTop (mkF m 4 #[rv ax, iv 0, iv 2, iv key] [(.int 2), (.int 0), (.int 64)]))
  obtain ⟨_, _, ⟨T2, L2, kk2, nn2⟩, -, X2, ⟨Lc2, hQ2, lq2, yq2, zq2⟩, st2⟩ := Jvm.LawKit.callS X0 hx (y := (⟨"java/util/Arrays", "rangeCheck", "(III)V"⟩ : MethodName)) hown (mvT hZ (w37 hw)) (mvT hZ (w38 hw)) (mvT hZ (w35 hw)) (mvT hZ (w39 hw)) (by decide) (backOf (W := 0) (rm_rc_02 l Z a0 hw []  h0 n0 (Nat.le_trans Z0 (Nat.le_refl _)) ) hZ (w39 hw) (w35 hw) (by decide) (by decide)) (g := (mkF m 4 #[rv ax, iv 0, iv 2, iv key] [(.int 2), (.int 0), (.int 64)])) rfl (by rw [hml]; rfl) (argsL := [(.int 64), (.int 0), (.int 2)]) (rest := []) (lenOf pd_0 rfl) rfl (by show 2 * 0 + _ ≤ _; exact Nat.le_of_eq rfl) (hb hby d4_4) (fun _ _ => ⟨rfl, e0, (by decide : 0 + 0 ≤ _), (by decide : 0 + 0 ≤ _)⟩)
  dsimp only [Pt.U, Pt.locs, Pt.cells, Pt.slots] at X2 lq2 yq2 zq2 st2 hQ2
  subst lq2 yq2 zq2
  obtain ⟨h2, e2⟩ : ∃ z, T2.heap = z := ⟨_, rfl⟩
  rw [e2] at hQ2
  obtain ⟨rfl, N2q, he2⟩ := hQ2
  have N2 := Fr.app N0 N2q
  rw [he2] at e2
  refine go_st st2 ?_
  show Go _ _ _ _ (T2.setTop (mkF m 7 #[rv ax, iv 0, iv 2, iv key] []))
  refine go_st (fun t k => XS.aloadN X2.here hx rfl (hb hby d4_7) rfl rfl k) ?_
  refine go_st (fun t k => XS.iloadN X2.here hx rfl (hb hby d4_8) rfl k) ?_
  refine go_st (fun t k => XS.iloadN X2.here hx rfl (hb hby d4_9) rfl k) ?_
  refine go_st (fun t k => XS.iloadN X2.here hx rfl (hb hby d4_10) rfl k) ?_
  show Go _ _ _ _ (T2.setTop (mkF m 11 #[rv ax, iv 0, iv 2, iv key] [(.int key), (.int 2), (.int 0), (.ref ax)]))
  obtain ⟨_, _, ⟨T3, L3, kk3, nn3⟩, -, X3, ⟨Lc3, hQ3, lq3, yq3, zq3⟩, st3⟩ := Jvm.LawKit.callS X2 hx (y := (⟨"java/util/Arrays", "binarySearch0", "([IIII)I"⟩ : MethodName)) hown (mvT hZ (w40 hw)) (mvT hZ (w41 hw)) (mvT hZ (w35 hw)) (mvT hZ (w42 hw)) (by decide) (backOf (W := 0) (rm_bs0_021 l Z a0 hw [] ax kx key x0 x1 h0 n0 (Nat.le_trans Z0 (Nat.le_refl _)) H0 s0 hl hr) hZ (w42 hw) (w35 hw) (by decide) (by decide)) (g := (mkF m 11 #[rv ax, iv 0, iv 2, iv key] [(.int key), (.int 2), (.int 0), (.ref ax)])) rfl (by rw [hml]; rfl) (argsL := [(.ref ax), (.int 0), (.int 2), (.int key)]) (rest := []) (lenOf pd_1 rfl) rfl (by show 2 * 0 + _ ≤ _; exact Nat.le_of_eq rfl) (hb hby d4_11) (fun _ _ => ⟨rfl, e2, (by decide : 0 + 0 ≤ _), (by decide : 0 + 0 ≤ _)⟩)
  dsimp only [Pt.U, Pt.locs, Pt.cells, Pt.slots] at X3 lq3 yq3 zq3 st3 hQ3
  subst lq3 yq3 zq3
  obtain ⟨h3, e3⟩ : ∃ z, T3.heap = z := ⟨_, rfl⟩
  rw [e3] at hQ3
  obtain ⟨r_3, rfl, N3q, he3, hres_3⟩ := hQ3
  have N3 := Fr.app N2 N3q
  rw [he3] at e3
  refine go_st st3 ?_
  show Go _ _ _ _ (T3.setTop (mkF m 14 #[rv ax, iv 0, iv 2, iv key] [(.int r_3)]))
  obtain ⟨fs, hr, hrun, hended, hW, hsame⟩ := X3.leave (v := some (.int r_3)) (fun h => by rw [Bd.returns] at h; cases h)
  refine ⟨_, _, ?_, hrun, hended, _, _, rfl, ?_, ⟨_, rfl⟩, hW, hsame.mono (by decide) (by decide)⟩
  · exact retI X3 hx Bd.returns (hb hby d4_14) hr
  · show Q_bs_021 _ _ _ _ _ _ _ _ _ T3.heap _
    rw [e3]
    exact ⟨r_3, rfl, N3, rfl, hres_3⟩
def Q_lb_021 (Z : State) (a1 : Addr) (ax : Addr) (al : Addr) (kx : ClassId) (kl : ClassId) (key : Int32) (line : Int32) (x0 : Int32) (x1 : Int32) (l0 : Int32) (l1 : Int32) (h0 : Heap) (n0 : Nat) (vR : Option Value) (h : Heap) (L : List Loc) : Prop := vR = some (.int l0) ∧ Fr n0 L ∧ Keep h0 h [a1] ∧ (Exa Z h a1 cBE) ∧ (Fld Z h a1 cBE "indexes" "[I" (.ref ax)) ∧ (Fld Z h a1 cBE "lines" "[I" (.ref al)) ∧ (Fld Z h a1 cBE "first" "I" (.int 0)) ∧ (Fld Z h a1 cBE "count" "I" (.int 2)) ∧ (Arv Z h ax kx .int (64 : Int32) [(.int x0), (.int x1)] (.int (0 : Int32))) ∧ (Arv Z h al kl .int (64 : Int32) [(.int l0), (.int l1)] (.int (0 : Int32)))
theorem ef_lb_021 (m : MethodId) (x0 : Addr) (x1 : Int32) (x2 : Int32) : entryFrame m #[(.ref x0), (.int x1), (.int x2)] 6 = mkF m 0 #[.val (.ref x0), .val (.int x1), .val (.int x2), .unset, .unset, .unset] [] := by first | (simp [entryFrame, mkF, argsToLocals, Value.category]; done) | rfl
set_option maxRecDepth 65536 in
set_option maxHeartbeats 40000000 in
theorem rm_lb_021 (l : Launch) (Z : State) (a0 : Array Value) (hw : ∀ d ∈ tables_1, d.before a0 Z = true) (ws : List Jvm.Cond) (a1 : Addr) (ax : Addr) (al : Addr) (kx : ClassId) (kl : ClassId) (key : Int32) (line : Int32) (x0 : Int32) (x1 : Int32) (l0 : Int32) (l1 : Int32) (h0 : Heap) (n0 : Nat) (Z0 : n0 ≤ h0.size) (H0 : Exa Z h0 a1 cBE) (H1 : Fld Z h0 a1 cBE "indexes" "[I" (.ref ax)) (H2 : Fld Z h0 a1 cBE "lines" "[I" (.ref al)) (H3 : Fld Z h0 a1 cBE "first" "I" (.int 0)) (H4 : Fld Z h0 a1 cBE "count" "I" (.int 2)) (H5 : Arv Z h0 ax kx .int (64 : Int32) [(.int x0), (.int x1)] (.int (0 : Int32))) (H6 : Arv Z h0 al kl .int (64 : Int32) [(.int l0), (.int l1)] (.int (0 : Int32))) (ne_a1_ax : a1 ≠ ax) (ne_a1_al : a1 ≠ al) (ne_ax_al : ax ≠ al) (g_a1 : n0 ≤ a1) (s0 : x0 < x1) (hl : x0 < key) (hr : ¬ (x1 < key)) :
    MetFree l (⟨"com/example/nudge/nudge/tree/BlockEntries", "lineBefore", "(II)I"⟩ : MethodName) (head1 (Jvm.Cond.code (⟨"com/example/nudge/nudge/tree/BlockEntries", "lineBefore", "(II)I"⟩ : MethodName) prog_17_method_3_code 6 (some .int) :: ws) ({ frames := 2, cells := 0, slots := 0, locals := 34 } : Room)) (fun a U => a = #[(.ref a1), (.int key), (.int line)] ∧ Z.Warmed39 U.vm ∧ U.heap = h0) (fun _ _ _ _ _ => True) (fun _ U o U' => ∃ v L, o = .returned v ∧ Q_lb_021 Z a1 ax al kx kl key line x0 x1 l0 l1 h0 n0 v U'.heap L ∧ FrameEnd U o U' L ({ frames := 2, cells := 0, slots := 0, locals := 34 } : Room).cells ({ frames := 2, cells := 0, slots := 0, locals := 34 } : Room).slots) := by
  refine MetFree.of_bodySF (plainFor_of_name pn_com_example_nudge_nudge_tree_BlockEntries) hisR ?_
  intro p e s m args below meth c s₁ Bd hml0 hP hK
  obtain ⟨rfl, hZ, hh⟩ := hP
  have hx := Bd.exec
  have hby := Bd.bytes
  have hml : c.maxLocals = 6 := hml0
  have hown : s.vm.findClass "com/example/nudge/nudge/tree/BlockEntries" = some m.cls := findClass_of_methodNamed Bd.named
  have hnm := (name_of_methodNamed Bd.named Bd.method).1
  have X0 : Stand p l e ({ frames := 2, cells := 0, slots := 0, locals := 34 } : Room) s m #[(.ref a1), (.int key), (.int line)] below meth c s₁ [] 0 0 := Stand.of_body Bd
  have e0 : s₁.heap = h0 := by rw [← hh, Bd.state]; rfl
  have N0 := Fr.nil n0
  refine go_st (fun t k => castTop (ef_lb_021 m a1 key line) k) ?_
  show Go _ _ _ _ (s₁.setTop (mkF m 0 #[rv a1, iv key, iv line, .unset, .unset, .unset] []))
  refine go_st (fun t k => XS.aloadN X0.here hx rfl (hb hby d5_0) rfl rfl k) ?_
  show Go _ _ _ _ (s₁.setTop (mkF m 1 #[rv a1, iv key, iv line, .unset, .unset, .unset] [(.ref a1)]))
  obtain ⟨T1, X1, e1, st1⟩ := getF X0 hx hZ hown (host := "") (Or.inl (w15 hw)) Via.refl e0 H1 (g := (mkF m 1 #[rv a1, iv key, iv line, .unset, .unset, .unset] [(.ref a1)])) rfl rfl (hb hby d5_1)
  refine go_st (fun t k => st1 t k) ?_
  refine go_st (fun t k => XS.aloadN X1.here hx rfl (hb hby d5_4) rfl rfl k) ?_
  show Go _ _ _ _ (T1.setTop (mkF m 5 #[rv a1, iv key, iv line, .unset, .unset, .unset] [(.ref a1), (.ref ax)]))
  obtain ⟨T2, X2, e2, st2⟩ := getF X1 hx hZ hown (host := "") (Or.inl (w31 hw)) Via.refl e1 H3 (g := (mkF m 5 #[rv a1, iv key, iv line, .unset, .unset, .unset] [(.ref a1), (.ref ax)])) rfl rfl (hb hby d5_5)
  refine go_st (fun t k => st2 t k) ?_
  refine go_st (fun t k => XS.aloadN X2.here hx rfl (hb hby d5_8) rfl rfl k) ?_
  show Go _ _ _ _ (T2.setTop (mkF m 9 #[rv a1, iv key, iv line, .unset, .unset, .unset] [(.ref a1), (.int 0), (.ref ax)]))
  obtain ⟨T3, X3, e3, st3⟩ := getF X2 hx hZ hown (host := "") (Or.inl (w24 hw)) Via.refl e2 H4 (g := (mkF m 9 #[rv a1, iv key, iv line, .unset, .unset, .unset] [(.ref a1), (.int 0), (.ref ax)])) rfl rfl (hb hby d5_9)
  refine go_st (fun t k => st3 t k) ?_
  refine go_st (fun t k => XS.iloadN X3.here hx rfl (hb hby d5_12) rfl k) ?_
  show Go _ _ _ _ (T3.setTop (mkF m 13 #[rv a1, iv key, iv line, .unset, .unset, .unset] [(.int key), (.int 2), (.int 0), (.ref ax)]))
  obtain ⟨_, _, ⟨T4, L4, kk4, nn4⟩, -, X4, ⟨Lc4, hQ4, lq4, yq4, zq4⟩, st4⟩ := Jvm.LawKit.callS X3 hx (y := (⟨"java/util/Arrays", "binarySearch", "([IIII)I"⟩ : MethodName)) hown (mvT hZ (w33 hw)) (mvT hZ (w34 hw)) (mvT hZ (w35 hw)) (mvT hZ (w36 hw)) (by decide) (backOf (W := 0) (rm_bs_021 l Z a0 hw [] ax kx key x0 x1 h0 n0 (Nat.le_trans Z0 (Nat.le_refl _)) H5 s0 hl hr) hZ (w36 hw) (w35 hw) (by decide) (by decide)) (g := (mkF m 13 #[rv a1, iv key, iv line, .unset, .unset, .unset] [(.int key), (.int 2), (.int 0), (.ref ax)])) rfl (by rw [hml]; rfl) (argsL := [(.ref ax), (.int 0), (.int 2), (.int key)]) (rest := []) (lenOf pd_1 rfl) rfl (by show 2 * 0 + _ ≤ _; exact Nat.le_of_eq rfl) (hb hby d5_13) (fun _ _ => ⟨rfl, e3, (by decide : 0 + 0 ≤ _), (by decide : 0 + 0 ≤ _)⟩)
  dsimp only [Pt.U, Pt.locs, Pt.cells, Pt.slots] at X4 lq4 yq4 zq4 st4 hQ4
  subst lq4 yq4 zq4
  obtain ⟨h4, e4⟩ : ∃ z, T4.heap = z := ⟨_, rfl⟩
  rw [e4] at hQ4
  obtain ⟨r_4, rfl, N4q, he4, hres_4⟩ := hQ4
  have N4 := Fr.app N0 N4q
  rw [he4] at e4
  refine go_st st4 ?_
  show Go _ _ _ _ (T4.setTop (mkF m 16 #[rv a1, iv key, iv line, .unset, .unset, .unset] [(.int r_4)]))
  rcases hres_4 with rfl | rfl
  · skip
    show Go _ _ _ _ (T4.setTop (mkF m 16 #[rv a1, iv key, iv line, .unset, .unset, .unset] [(.int 1)]))
    refine go_st (fun t k => XS.istoreN X4.here hx rfl (hb hby d5_16) rfl (l' := #[rv a1, iv key, iv line, iv 1, .unset, .unset]) rfl k) ?_
    refine go_st (fun t k => XS.iloadN X4.here hx rfl (hb hby d5_17) rfl k) ?_
    show Go _ _ _ _ (T4.setTop (mkF m 18 #[rv a1, iv key, iv line, iv 1, .unset, .unset] [(.int 1)]))
    refine go_st (fun t k => XS.ifNo X4.here hx rfl (hb hby d5_18) rfl ((if0 _ _).trans (flt ((by decide) : ¬ ((1 : Int32) < (0 : Int32)))).1) k) ?_
    show Go _ _ _ _ (T4.setTop (mkF m 21 #[rv a1, iv key, iv line, iv 1, .unset, .unset] []))
    refine go_st (fun t k => XS.iloadN X4.here hx rfl (hb hby d5_21) rfl k) ?_
    refine go_st (fun t k => XS.goto X4.here hx rfl (pc0 := 22) (pc' := 29) rfl (hb hby d5_22) (by decide) (by decide) k) ?_
    show Go _ _ _ _ (T4.setTop (mkF m 29 #[rv a1, iv key, iv line, iv 1, .unset, .unset] [(.int 1)]))
    refine go_st (fun t k => XS.iconst X4.here hx rfl (hb hby d5_29) k) ?_
    show Go _ _ _ _ (T4.setTop (mkF m 30 #[rv a1, iv key, iv line, iv 1, .unset, .unset] [(.int 1), (.int 1)]))
    refine go_st (fun t k => XS.isub X4.here hx rfl (hb hby d5_30) rfl k) ?_
    rw [show ((1 : Int32) - (1 : Int32)) = (0 : Int32) from by decide]
    show Go _ _ _ _ (T4.setTop (mkF m 31 #[rv a1, iv key, iv line, iv 1, .unset, .unset] [(.int 0)]))
    refine go_st (fun t k => XS.istore X4.here hx rfl (hb hby d5_31) rfl (l' := #[rv a1, iv key, iv line, iv 1, iv 0, .unset]) rfl k) ?_
    refine go_st (fun t k => XS.iloadN X4.here hx rfl (hb hby d5_33) rfl k) ?_
    refine go_st (fun t k => XS.istore X4.here hx rfl (hb hby d5_34) rfl (l' := #[rv a1, iv key, iv line, iv 1, iv 0, iv line]) rfl k) ?_
    refine go_st (fun t k => XS.iload X4.here hx rfl (hb hby d5_36) rfl k) ?_
    refine go_st (fun t k => XS.aloadN X4.here hx rfl (hb hby d5_38) rfl rfl k) ?_
    show Go _ _ _ _ (T4.setTop (mkF m 39 #[rv a1, iv key, iv line, iv 1, iv 0, iv line] [(.ref a1), (.int 0)]))
    obtain ⟨T5, X5, e5, st5⟩ := getF X4 hx hZ hown (host := "") (Or.inl (w31 hw)) Via.refl e4 H3 (g := (mkF m 39 #[rv a1, iv key, iv line, iv 1, iv 0, iv line] [(.ref a1), (.int 0)])) rfl rfl (hb hby d5_39)
    refine go_st (fun t k => st5 t k) ?_
    show Go _ _ _ _ (T5.setTop (mkF m 42 #[rv a1, iv key, iv line, iv 1, iv 0, iv line] [(.int 0), (.int 0)]))
    refine go_st (fun t k => XS.icmpNo X5.here hx rfl (hb hby d5_42) rfl (flt ((by decide) : ¬ ((0 : Int32) < (0 : Int32)))).1 k) ?_
    show Go _ _ _ _ (T5.setTop (mkF m 45 #[rv a1, iv key, iv line, iv 1, iv 0, iv line] []))
    refine go_st (fun t k => XS.aloadN X5.here hx rfl (hb hby d5_45) rfl rfl k) ?_
    show Go _ _ _ _ (T5.setTop (mkF m 46 #[rv a1, iv key, iv line, iv 1, iv 0, iv line] [(.ref a1)]))
    obtain ⟨T6, X6, e6, st6⟩ := getF X5 hx hZ hown (host := "") (Or.inl (w17 hw)) Via.refl e5 H2 (g := (mkF m 46 #[rv a1, iv key, iv line, iv 1, iv 0, iv line] [(.ref a1)])) rfl rfl (hb hby d5_46)
    refine go_st (fun t k => st6 t k) ?_
    refine go_st (fun t k => XS.iload X6.here hx rfl (hb hby d5_49) rfl k) ?_
    show Go _ _ _ _ (T6.setTop (mkF m 51 #[rv a1, iv key, iv line, iv 1, iv 0, iv line] [(.int 0), (.ref al)]))
    obtain ⟨zc7, zA7, zq7, zS7, zN7, zH7, zG7⟩ := id H6
    have hin7 : ¬ ((0 : Int32) < 0 ∨ zc7.slots.size ≤ ((0 : Int32)).toNatClampNeg) := inb_of zS7 ⟨by decide, by decide⟩
    have hat7 : zc7.slots[((0 : Int32)).toNatClampNeg]? = some (.int l0) := Has.at zH7 hin7 rfl
    refine go_st (fun t k => X6.iaload hx (j := (0 : Int32)) (v := (.int l0)) (by rw [e6]; exact zA7.1) (State.isArrayOf_alike hZ.alike zA7.2.1) zA7.2.2 hin7 hat7 (g := (mkF m 51 #[rv a1, iv key, iv line, iv 1, iv 0, iv line] [(.int 0), (.ref al)])) rfl rfl (hb hby d5_51) t k) ?_
    refine go_st (fun t k => XS.istore X6.here hx rfl (hb hby d5_52) rfl (l' := #[rv a1, iv key, iv line, iv 1, iv 0, iv l0]) rfl k) ?_
    refine go_st (fun t k => XS.aloadN X6.here hx rfl (hb hby d5_54) rfl rfl k) ?_
    refine go_st (fun t k => XS.iload X6.here hx rfl (hb hby d5_55) rfl k) ?_
    show Go _ _ _ _ (T6.setTop (mkF m 57 #[rv a1, iv key, iv line, iv 1, iv 0, iv l0] [(.int 0), (.ref a1)]))
    obtain ⟨T8, h8, X8, e8, W8, st8⟩ := putF X6 hx hZ hown (host := "") (Or.inl (w31 hw)) Via.refl e6 H3 H0 (Or.inl (w32 hw)) (w6 hw) (ty := .int) (by decide) rfl rfl (g := (mkF m 57 #[rv a1, iv key, iv line, iv 1, iv 0, iv l0] [(.int 0), (.ref a1)])) rfl rfl (hb hby d5_57)
    have N8 := Fr.snoc X8 N4 g_a1
    have f9 : Fld Z h8 a1 cBE "first" "I" (.int 0) := H3.same W8
    refine go_st (fun t k => st8 t k) ?_
    refine go_st (fun t k => XS.iload X8.here hx rfl (hb hby d5_60) rfl k) ?_
    show Go _ _ _ _ (T8.setTop (mkF m 62 #[rv a1, iv key, iv line, iv 1, iv 0, iv l0] [(.int l0)]))
    have f10 : Exa Z h8 a1 cBE := (H0.wr W8)
    have f11 : Fld Z h8 a1 cBE "indexes" "[I" (.ref ax) := (H1.other W8 (Or.inr (slot_ne (Or.inl (w16 hw)) (Or.inl (w32 hw)) (by decide) (t := (.array .int)) (t' := .int) (by decide) (by decide))))
    have f12 : Fld Z h8 a1 cBE "lines" "[I" (.ref al) := (H2.other W8 (Or.inr (slot_ne (Or.inl (w18 hw)) (Or.inl (w32 hw)) (by decide) (t := (.array .int)) (t' := .int) (by decide) (by decide))))
    have f13 : Fld Z h8 a1 cBE "count" "I" (.int 2) := (H4.other W8 (Or.inr (slot_ne (Or.inl (w25 hw)) (Or.inl (w32 hw)) (by decide) (t := .int) (t' := .int) (by decide) (by decide))))
    have f14 : Arv Z h8 ax kx .int (64 : Int32) [(.int x0), (.int x1)] (.int (0 : Int32)) := (H5.other W8 (Ne.symm ne_a1_ax))
    have f15 : Arv Z h8 al kl .int (64 : Int32) [(.int l0), (.int l1)] (.int (0 : Int32)) := (H6.other W8 (Ne.symm ne_a1_al))
    have ke16 : Keep h0 h8 [a1] := (Keep.wr (Keep.refl h0 [a1]) W8 (Or.inl (List.mem_of_getElem? (i := 0) rfl)))
    obtain ⟨fs, hr, hrun, hended, hW, hsame⟩ := X8.leave (v := some (.int l0)) (fun h => by rw [Bd.returns] at h; cases h)
    refine ⟨_, _, ?_, hrun, hended, _, _, rfl, ?_, ⟨_, rfl⟩, hW, hsame.mono (by decide) (by decide)⟩
    · exact retI X8 hx Bd.returns (hb hby d5_62) hr
    · show Q_lb_021 _ _ _ _ _ _ _ _ _ _ _ _ _ _ _ T8.heap _
      rw [e8]
      exact ⟨rfl, N8, ke16, f10, f11, f12, f9, f13, f14, f15⟩
  · skip
    show Go _ _ _ _ (T4.setTop (mkF m 16 #[rv a1, iv key, iv line, .unset, .unset, .unset] [(.int (-2))]))
    refine go_st (fun t k => XS.istoreN X4.here hx rfl (hb hby d5_16) rfl (l' := #[rv a1, iv key, iv line, iv (-2), .unset, .unset]) rfl k) ?_
    refine go_st (fun t k => XS.iloadN X4.here hx rfl (hb hby d5_17) rfl k) ?_
    show Go _ _ _ _ (T4.setTop (mkF m 18 #[rv a1, iv key, iv line, iv (-2), .unset, .unset] [(.int (-2))]))
    refine go_st (fun t k => XS.ifYes X4.here hx rfl (pc0 := 18) (pc' := 25) rfl (hb hby d5_18) rfl ((if0 _ _).trans (tlt ((by decide) : (-2 : Int32) < (0 : Int32))).1) (by decide) (by decide) k) ?_
    show Go _ _ _ _ (T4.setTop (mkF m 25 #[rv a1, iv key, iv line, iv (-2), .unset, .unset] []))
    refine go_st (fun t k => XS.iloadN X4.here hx rfl (hb hby d5_25) rfl k) ?_
    show Go _ _ _ _ (T4.setTop (mkF m 26 #[rv a1, iv key, iv line, iv (-2), .unset, .unset] [(.int (-2))]))
    refine go_st (fun t k => XS.ineg X4.here hx rfl (hb hby d5_26) rfl k) ?_
    rw [show (-(-2 : Int32)) = (2 : Int32) from by decide]
    show Go _ _ _ _ (T4.setTop (mkF m 27 #[rv a1, iv key, iv line, iv (-2), .unset, .unset] [(.int 2)]))
    refine go_st (fun t k => XS.iconst X4.here hx rfl (hb hby d5_27) k) ?_
    show Go _ _ _ _ (T4.setTop (mkF m 28 #[rv a1, iv key, iv line, iv (-2), .unset, .unset] [(.int 1), (.int 2)]))
    refine go_st (fun t k => XS.isub X4.here hx rfl (hb hby d5_28) rfl k) ?_
    rw [show ((2 : Int32) - (1 : Int32)) = (1 : Int32) from by decide]
    show Go _ _ _ _ (T4.setTop (mkF m 29 #[rv a1, iv key, iv line, iv (-2), .unset, .unset] [(.int 1)]))
    refine go_st (fun t k => XS.iconst X4.here hx rfl (hb hby d5_29) k) ?_
    show Go _ _ _ _ (T4.setTop (mkF m 30 #[rv a1, iv key, iv line, iv (-2), .unset, .unset] [(.int 1), (.int 1)]))
    refine go_st (fun t k => XS.isub X4.here hx rfl (hb hby d5_30) rfl k) ?_
    rw [show ((1 : Int32) - (1 : Int32)) = (0 : Int32) from by decide]
    show Go _ _ _ _ (T4.setTop (mkF m 31 #[rv a1, iv key, iv line, iv (-2), .unset, .unset] [(.int 0)]))
    refine go_st (fun t k => XS.istore X4.here hx rfl (hb hby d5_31) rfl (l' := #[rv a1, iv key, iv line, iv (-2), iv 0, .unset]) rfl k) ?_
    refine go_st (fun t k => XS.iloadN X4.here hx rfl (hb hby d5_33) rfl k) ?_
    refine go_st (fun t k => XS.istore X4.here hx rfl (hb hby d5_34) rfl (l' := #[rv a1, iv key, iv line, iv (-2), iv 0, iv line]) rfl k) ?_
    refine go_st (fun t k => XS.iload X4.here hx rfl (hb hby d5_36) rfl k) ?_
    refine go_st (fun t k => XS.aloadN X4.here hx rfl (hb hby d5_38) rfl rfl k) ?_
    show Go _ _ _ _ (T4.setTop (mkF m 39 #[rv a1, iv key, iv line, iv (-2), iv 0, iv line] [(.ref a1), (.int 0)]))
    obtain ⟨T17, X17, e17, st17⟩ := getF X4 hx hZ hown (host := "") (Or.inl (w31 hw)) Via.refl e4 H3 (g := (mkF m 39 #[rv a1, iv key, iv line, iv (-2), iv 0, iv line] [(.ref a1), (.int 0)])) rfl rfl (hb hby d5_39)
    refine go_st (fun t k => st17 t k) ?_
    show Go _ _ _ _ (T17.setTop (mkF m 42 #[rv a1, iv key, iv line, iv (-2), iv 0, iv line] [(.int 0), (.int 0)]))
    refine go_st (fun t k => XS.icmpNo X17.here hx rfl (hb hby d5_42) rfl (flt ((by decide) : ¬ ((0 : Int32) < (0 : Int32)))).1 k) ?_
    show Go _ _ _ _ (T17.setTop (mkF m 45 #[rv a1, iv key, iv line, iv (-2), iv 0, iv line] []))
    refine go_st (fun t k => XS.aloadN X17.here hx rfl (hb hby d5_45) rfl rfl k) ?_
    show Go _ _ _ _ (T17.setTop (mkF m 46 #[rv a1, iv key, iv line, iv (-2), iv 0, iv line] [(.ref a1)]))
    obtain ⟨T18, X18, e18, st18⟩ := getF X17 hx hZ hown (host := "") (Or.inl (w17 hw)) Via.refl e17 H2 (g := (mkF m 46 #[rv a1, iv key, iv line, iv (-2), iv 0, iv line] [(.ref a1)])) rfl rfl (hb hby d5_46)
    refine go_st (fun t k => st18 t k) ?_
    refine go_st (fun t k => XS.iload X18.here hx rfl (hb hby d5_49) rfl k) ?_
    show Go _ _ _ _ (T18.setTop (mkF m 51 #[rv a1, iv key, iv line, iv (-2), iv 0, iv line] [(.int 0), (.ref al)]))
    obtain ⟨zc19, zA19, zq19, zS19, zN19, zH19, zG19⟩ := id H6
    have hin19 : ¬ ((0 : Int32) < 0 ∨ zc19.slots.size ≤ ((0 : Int32)).toNatClampNeg) := inb_of zS19 ⟨by decide, by decide⟩
    have hat19 : zc19.slots[((0 : Int32)).toNatClampNeg]? = some (.int l0) := Has.at zH19 hin19 rfl
    refine go_st (fun t k => X18.iaload hx (j := (0 : Int32)) (v := (.int l0)) (by rw [e18]; exact zA19.1) (State.isArrayOf_alike hZ.alike zA19.2.1) zA19.2.2 hin19 hat19 (g := (mkF m 51 #[rv a1, iv key, iv line, iv (-2), iv 0, iv line] [(.int 0), (.ref al)])) rfl rfl (hb hby d5_51) t k) ?_
    refine go_st (fun t k => XS.istore X18.here hx rfl (hb hby d5_52) rfl (l' := #[rv a1, iv key, iv line, iv (-2), iv 0, iv l0]) rfl k) ?_
    refine go_st (fun t k => XS.aloadN X18.here hx rfl (hb hby d5_54) rfl rfl k) ?_
    refine go_st (fun t k => XS.iload X18.here hx rfl (hb hby d5_55) rfl k) ?_
    show Go _ _ _ _ (T18.setTop (mkF m 57 #[rv a1, iv key, iv line, iv (-2), iv 0, iv l0] [(.int 0), (.ref a1)]))
    obtain ⟨T20, h20, X20, e20, W20, st20⟩ := putF X18 hx hZ hown (host := "") (Or.inl (w31 hw)) Via.refl e18 H3 H0 (Or.inl (w32 hw)) (w6 hw) (ty := .int) (by decide) rfl rfl (g := (mkF m 57 #[rv a1, iv key, iv line, iv (-2), iv 0, iv l0] [(.int 0), (.ref a1)])) rfl rfl (hb hby d5_57)
    have N20 := Fr.snoc X20 N4 g_a1
    have f21 : Fld Z h20 a1 cBE "first" "I" (.int 0) := H3.same W20
    refine go_st (fun t k => st20 t k) ?_
    refine go_st (fun t k => XS.iload X20.here hx rfl (hb hby d5_60) rfl k) ?_
    show Go _ _ _ _ (T20.setTop (mkF m 62 #[rv a1, iv key, iv line, iv (-2), iv 0, iv l0] [(.int l0)]))
    have f22 : Exa Z h20 a1 cBE := (H0.wr W20)
    have f23 : Fld Z h20 a1 cBE "indexes" "[I" (.ref ax) := (H1.other W20 (Or.inr (slot_ne (Or.inl (w16 hw)) (Or.inl (w32 hw)) (by decide) (t := (.array .int)) (t' := .int) (by decide) (by decide))))
    have f24 : Fld Z h20 a1 cBE "lines" "[I" (.ref al) := (H2.other W20 (Or.inr (slot_ne (Or.inl (w18 hw)) (Or.inl (w32 hw)) (by decide) (t := (.array .int)) (t' := .int) (by decide) (by decide))))
    have f25 : Fld Z h20 a1 cBE "count" "I" (.int 2) := (H4.other W20 (Or.inr (slot_ne (Or.inl (w25 hw)) (Or.inl (w32 hw)) (by decide) (t := .int) (t' := .int) (by decide) (by decide))))
    have f26 : Arv Z h20 ax kx .int (64 : Int32) [(.int x0), (.int x1)] (.int (0 : Int32)) := (H5.other W20 (Ne.symm ne_a1_ax))
    have f27 : Arv Z h20 al kl .int (64 : Int32) [(.int l0), (.int l1)] (.int (0 : Int32)) := (H6.other W20 (Ne.symm ne_a1_al))
    have ke28 : Keep h0 h20 [a1] := (Keep.wr (Keep.refl h0 [a1]) W20 (Or.inl (List.mem_of_getElem? (i := 0) rfl)))
    obtain ⟨fs, hr, hrun, hended, hW, hsame⟩ := X20.leave (v := some (.int l0)) (fun h => by rw [Bd.returns] at h; cases h)
    refine ⟨_, _, ?_, hrun, hended, _, _, rfl, ?_, ⟨_, rfl⟩, hW, hsame.mono (by decide) (by decide)⟩
    · exact retI X20 hx Bd.returns (hb hby d5_62) hr
    · show Q_lb_021 _ _ _ _ _ _ _ _ _ _ _ _ _ _ _ T20.heap _
      rw [e20]
      exact ⟨rfl, N20, ke28, f22, f23, f24, f21, f25, f26, f27⟩
def Q_bs0_022 (Z : State) (ax : Addr) (kx : ClassId) (key : Int32) (x0 : Int32) (x1 : Int32) (h0 : Heap) (n0 : Nat) (vR : Option Value) (h : Heap) (L : List Loc) : Prop := ∃ (r : Int32), vR = some (.int r) ∧ Fr n0 L ∧ h = h0 ∧ (r = (2 : Int32) ∨ r = (-3 : Int32))
theorem ef_bs0_022 (m : MethodId) (x0 : Addr) (x1 : Int32) (x2 : Int32) (x3 : Int32) : entryFrame m #[(.ref x0), (.int x1), (.int x2), (.int x3)] 8 = mkF m 0 #[.val (.ref x0), .val (.int x1), .val (.int x2), .val (.int x3), .unset, .unset, .unset, .unset] [] := by first | (simp [entryFrame, mkF, argsToLocals, Value.category]; done) | rfl
set_option maxRecDepth 65536 in
set_option maxHeartbeats 40000000 in
theorem rm_bs0_022 (l : Launch) (Z : State) (a0 : Array Value) (hw : ∀ d ∈ tables_1, d.before a0 Z = true) (ws : List Jvm.Cond) (ax : Addr) (kx : ClassId) (key : Int32) (x0 : Int32) (x1 : Int32) (h0 : Heap) (n0 : Nat) (Z0 : n0 ≤ h0.size) (H0 : Arv Z h0 ax kx .int (64 : Int32) [(.int x0), (.int x1)] (.int (0 : Int32))) (s0 : x0 < x1) (hl : x1 < key) :
    MetFree l (⟨"java/util/Arrays", "binarySearch0", "([IIII)I"⟩ : MethodName) (head1 (Jvm.Cond.code (⟨"java/util/Arrays", "binarySearch0", "([IIII)I"⟩ : MethodName) jdk_65_method_59_code 8 (some .int) :: ws) ({ frames := 0, cells := 0, slots := 0, locals := 0 } : Room)) (fun a U => a = #[(.ref ax), (.int 0), (.int 2), (.int key)] ∧ Z.Warmed39 U.vm ∧ U.heap = h0) (fun _ _ _ _ _ => True) (fun _ U o U' => ∃ v L, o = .returned v ∧ Q_bs0_022 Z ax kx key x0 x1 h0 n0 v U'.heap L ∧ FrameEnd U o U' L ({ frames := 0, cells := 0, slots := 0, locals := 0 } : Room).cells ({ frames := 0, cells := 0, slots := 0, locals := 0 } : Room).slots) := by
  refine MetFree.of_bodySF (plainFor_of_name pn_java_util_Arrays) hisR ?_
  intro p e s m args below meth c s₁ Bd hml0 hP hK
  obtain ⟨rfl, hZ, hh⟩ := hP
  have hx := Bd.exec
  have hby := Bd.bytes
  have hml : c.maxLocals = 8 := hml0
  have hown : s.vm.findClass "java/util/Arrays" = some m.cls := findClass_of_methodNamed Bd.named
  have hnm := (name_of_methodNamed Bd.named Bd.method).1
  have X0 : Stand p l e ({ frames := 0, cells := 0, slots := 0, locals := 0 } : Room) s m #[(.ref ax), (.int 0), (.int 2), (.int key)] below meth c s₁ [] 0 0 := Stand.of_body Bd
  have e0 : s₁.heap = h0 := by rw [← hh, Bd.state]; rfl
  have N0 := Fr.nil n0
  refine go_st (fun t k => castTop (ef_bs0_022 m ax (0 : Int32) (2 : Int32) key) k) ?_
  show Go _ _ _ _ (s₁.setTop (mkF m 0 #[rv ax, iv 0, iv 2, iv key, .unset, .unset, .unset, .unset] []))
  refine go_st (fun t k => XS.iloadN X0.here hx rfl (hb hby d3_0) rfl k) ?_
  refine go_st (fun t k => XS.istore X0.here hx rfl (hb hby d3_1) rfl (l' := #[rv ax, iv 0, iv 2, iv key, iv 0, .unset, .unset, .unset]) rfl k) ?_
  refine go_st (fun t k => XS.iloadN X0.here hx rfl (hb hby d3_3) rfl k) ?_
  refine go_st (fun t k => XS.iconst X0.here hx rfl (hb hby d3_4) k) ?_
  show Go _ _ _ _ (s₁.setTop (mkF m 5 #[rv ax, iv 0, iv 2, iv key, iv 0, .unset, .unset, .unset] [(.int 1), (.int 2)]))
  refine go_st (fun t k => XS.isub X0.here hx rfl (hb hby d3_5) rfl k) ?_
  rw [show ((2 : Int32) - (1 : Int32)) = (1 : Int32) from by decide]
  show Go _ _ _ _ (s₁.setTop (mkF m 6 #[rv ax, iv 0, iv 2, iv key, iv 0, .unset, .unset, .unset] [(.int 1)]))
  refine go_st (fun t k => XS.istore X0.here hx rfl (hb hby d3_6) rfl (l' := #[rv ax, iv 0, iv 2, iv key, iv 0, iv 1, .unset, .unset]) rfl k) ?_
  refine go_st (fun t k => XS.iload X0.here hx rfl (hb hby d3_8) rfl k) ?_
  refine go_st (fun t k => XS.iload X0.here hx rfl (hb hby d3_10) rfl k) ?_
  show Go _ _ _ _ (s₁.setTop (mkF m 12 #[rv ax, iv 0, iv 2, iv key, iv 0, iv 1, .unset, .unset] [(.int 1), (.int 0)]))
  refine go_st (fun t k => XS.icmpNo X0.here hx rfl (hb hby d3_12) rfl (flt ((by decide) : ¬ ((1 : Int32) < (0 : Int32)))).2.2.1 k) ?_
  show Go _ _ _ _ (s₁.setTop (mkF m 15 #[rv ax, iv 0, iv 2, iv key, iv 0, iv 1, .unset, .unset] []))
  refine go_st (fun t k => XS.iload X0.here hx rfl (hb hby d3_15) rfl k) ?_
  refine go_st (fun t k => XS.iload X0.here hx rfl (hb hby d3_17) rfl k) ?_
  show Go _ _ _ _ (s₁.setTop (mkF m 19 #[rv ax, iv 0, iv 2, iv key, iv 0, iv 1, .unset, .unset] [(.int 1), (.int 0)]))
  refine go_st (fun t k => XS.iadd X0.here hx rfl (hb hby d3_19) rfl k) ?_
  rw [show ((0 : Int32) + (1 : Int32)) = (1 : Int32) from by decide]
  show Go _ _ _ _ (s₁.setTop (mkF m 20 #[rv ax, iv 0, iv 2, iv key, iv 0, iv 1, .unset, .unset] [(.int 1)]))
  refine go_st (fun t k => XS.iconst X0.here hx rfl (hb hby d3_20) k) ?_
  show Go _ _ _ _ (s₁.setTop (mkF m 21 #[rv ax, iv 0, iv 2, iv key, iv 0, iv 1, .unset, .unset] [(.int 1), (.int 1)]))
  refine go_st (fun t k => XS.iushr X0.here hx rfl (hb hby d3_21) rfl k) ?_
  rw [show (((1 : Int32)).toUInt32 >>> ((1 : Int32) &&& 31).toUInt32).toInt32 = (0 : Int32) from by decide]
  show Go _ _ _ _ (s₁.setTop (mkF m 22 #[rv ax, iv 0, iv 2, iv key, iv 0, iv 1, .unset, .unset] [(.int 0)]))
  refine go_st (fun t k => XS.istore X0.here hx rfl (hb hby d3_22) rfl (l' := #[rv ax, iv 0, iv 2, iv key, iv 0, iv 1, iv 0, .unset]) rfl k) ?_
  refine go_st (fun t k => XS.aloadN X0.here hx rfl (hb hby d3_24) rfl rfl k) ?_
  refine go_st (fun t k => XS.iload X0.here hx rfl (hb hby d3_25) rfl k) ?_
  show Go _ _ _ _ (s₁.setTop (mkF m 27 #[rv ax, iv 0, iv 2, iv key, iv 0, iv 1, iv 0, .unset] [(.int 0), (.ref ax)]))
  obtain ⟨zc1, zA1, zq1, zS1, zN1, zH1, zG1⟩ := id H0
  have hin1 : ¬ ((0 : Int32) < 0 ∨ zc1.slots.size ≤ ((0 : Int32)).toNatClampNeg) := inb_of zS1 ⟨by decide, by decide⟩
  have hat1 : zc1.slots[((0 : Int32)).toNatClampNeg]? = some (.int x0) := Has.at zH1 hin1 rfl
  refine go_st (fun t k => X0.iaload hx (j := (0 : Int32)) (v := (.int x0)) (by rw [e0]; exact zA1.1) (State.isArrayOf_alike hZ.alike zA1.2.1) zA1.2.2 hin1 hat1 (g := (mkF m 27 #[rv ax, iv 0, iv 2, iv key, iv 0, iv 1, iv 0, .unset] [(.int 0), (.ref ax)])) rfl rfl (hb hby d3_27) t k) ?_
  refine go_st (fun t k => XS.istore X0.here hx rfl (hb hby d3_28) rfl (l' := #[rv ax, iv 0, iv 2, iv key, iv 0, iv 1, iv 0, iv x0]) rfl k) ?_
  refine go_st (fun t k => XS.iload X0.here hx rfl (hb hby d3_30) rfl k) ?_
  refine go_st (fun t k => XS.iloadN X0.here hx rfl (hb hby d3_32) rfl k) ?_
  show Go _ _ _ _ (s₁.setTop (mkF m 33 #[rv ax, iv 0, iv 2, iv key, iv 0, iv 1, iv 0, iv x0] [(.int key), (.int x0)]))
  refine go_st (fun t k => XS.icmpNo X0.here hx rfl (hb hby d3_33) rfl (tlt ((pl_tr s0 hl) : x0 < key)).2.1 k) ?_
  show Go _ _ _ _ (s₁.setTop (mkF m 36 #[rv ax, iv 0, iv 2, iv key, iv 0, iv 1, iv 0, iv x0] []))
  refine go_st (fun t k => XS.iload X0.here hx rfl (hb hby d3_36) rfl k) ?_
  refine go_st (fun t k => XS.iconst X0.here hx rfl (hb hby d3_38) k) ?_
  show Go _ _ _ _ (s₁.setTop (mkF m 39 #[rv ax, iv 0, iv 2, iv key, iv 0, iv 1, iv 0, iv x0] [(.int 1), (.int 0)]))
  refine go_st (fun t k => XS.iadd X0.here hx rfl (hb hby d3_39) rfl k) ?_
  rw [show ((0 : Int32) + (1 : Int32)) = (1 : Int32) from by decide]
  show Go _ _ _ _ (s₁.setTop (mkF m 40 #[rv ax, iv 0, iv 2, iv key, iv 0, iv 1, iv 0, iv x0] [(.int 1)]))
  refine go_st (fun t k => XS.istore X0.here hx rfl (hb hby d3_40) rfl (l' := #[rv ax, iv 0, iv 2, iv key, iv 1, iv 1, iv 0, iv x0]) rfl k) ?_
  refine go_st (fun t k => XS.goto X0.here hx rfl (pc0 := 42) (pc' := 63) rfl (hb hby d3_42) (by decide) (by decide) k) ?_
  show Go _ _ _ _ (s₁.setTop (mkF m 63 #[rv ax, iv 0, iv 2, iv key, iv 1, iv 1, iv 0, iv x0] []))
  refine go_st (fun t k => XS.goto X0.here hx rfl (pc0 := 63) (pc' := 8) rfl (hb hby d3_63) (by decide) (by decide) k) ?_
  show Go _ _ _ _ (s₁.setTop (mkF m 8 #[rv ax, iv 0, iv 2, iv key, iv 1, iv 1, iv 0, iv x0] []))
  refine go_st (fun t k => XS.iload X0.here hx rfl (hb hby d3_8) rfl k) ?_
  refine go_st (fun t k => XS.iload X0.here hx rfl (hb hby d3_10) rfl k) ?_
  show Go _ _ _ _ (s₁.setTop (mkF m 12 #[rv ax, iv 0, iv 2, iv key, iv 1, iv 1, iv 0, iv x0] [(.int 1), (.int 1)]))
  refine go_st (fun t k => XS.icmpNo X0.here hx rfl (hb hby d3_12) rfl (flt ((by decide) : ¬ ((1 : Int32) < (1 : Int32)))).2.2.1 k) ?_
  show Go _ _ _ _ (s₁.setTop (mkF m 15 #[rv ax, iv 0, iv 2, iv key, iv 1, iv 1, iv 0, iv x0] []))
  refine go_st (fun t k => XS.iload X0.here hx rfl (hb hby d3_15) rfl k) ?_
  refine go_st (fun t k => XS.iload X0.here hx rfl (hb hby d3_17) rfl k) ?_
  show Go _ _ _ _ (s₁.setTop (mkF m 19 #[rv ax, iv 0, iv 2, iv key, iv 1, iv 1, iv 0, iv x0] [(.int 1), (.int 1)]))
  refine go_st (fun t k => XS.iadd X0.here hx rfl (hb hby d3_19) rfl k) ?_
  rw [show ((1 : Int32) + (1 : Int32)) = (2 : Int32) from by decide]
  show Go _ _ _ _ (s₁.setTop (mkF m 20 #[rv ax, iv 0, iv 2, iv key, iv 1, iv 1, iv 0, iv x0] [(.int 2)]))
  refine go_st (fun t k => XS.iconst X0.here hx rfl (hb hby d3_20) k) ?_
  show Go _ _ _ _ (s₁.setTop (mkF m 21 #[rv ax, iv 0, iv 2, iv key, iv 1, iv 1, iv 0, iv x0] [(.int 1), (.int 2)]))
  refine go_st (fun t k => XS.iushr X0.here hx rfl (hb hby d3_21) rfl k) ?_
  rw [show (((2 : Int32)).toUInt32 >>> ((1 : Int32) &&& 31).toUInt32).toInt32 = (1 : Int32) from by decide]
  show Go _ _ _ _ (s₁.setTop (mkF m 22 #[rv ax, iv 0, iv 2, iv key, iv 1, iv 1, iv 0, iv x0] [(.int 1)]))
  refine go_st (fun t k => XS.istore X0.here hx rfl (hb hby d3_22) rfl (l' := #[rv ax, iv 0, iv 2, iv key, iv 1, iv 1, iv 1, iv x0]) rfl k) ?_
  refine go_st (fun t k => XS.aloadN X0.here hx rfl (hb hby d3_24) rfl rfl k) ?_
  refine go_st (fun t k => XS.iload X0.here hx rfl (hb hby d3_25) rfl k) ?_
  show Go _ _ _ _ (s₁.setTop (mkF m 27 #[rv ax, iv 0, iv 2, iv key, iv 1, iv 1, iv 1, iv x0] [(.int 1), (.ref ax)]))
  obtain ⟨zc2, zA2, zq2, zS2, zN2, zH2, zG2⟩ := id H0
  have hin2 : ¬ ((1 : Int32) < 0 ∨ zc2.slots.size ≤ ((1 : Int32)).toNatClampNeg) := inb_of zS2 ⟨by decide, by decide⟩
  have hat2 : zc2.slots[((1 : Int32)).toNatClampNeg]? = some (.int x1) := Has.at zH2 hin2 rfl
  refine go_st (fun t k => X0.iaload hx (j := (1 : Int32)) (v := (.int x1)) (by rw [e0]; exact zA2.1) (State.isArrayOf_alike hZ.alike zA2.2.1) zA2.2.2 hin2 hat2 (g := (mkF m 27 #[rv ax, iv 0, iv 2, iv key, iv 1, iv 1, iv 1, iv x0] [(.int 1), (.ref ax)])) rfl rfl (hb hby d3_27) t k) ?_
  refine go_st (fun t k => XS.istore X0.here hx rfl (hb hby d3_28) rfl (l' := #[rv ax, iv 0, iv 2, iv key, iv 1, iv 1, iv 1, iv x1]) rfl k) ?_
  refine go_st (fun t k => XS.iload X0.here hx rfl (hb hby d3_30) rfl k) ?_
  refine go_st (fun t k => XS.iloadN X0.here hx rfl (hb hby d3_32) rfl k) ?_
  show Go _ _ _ _ (s₁.setTop (mkF m 33 #[rv ax, iv 0, iv 2, iv key, iv 1, iv 1, iv 1, iv x1] [(.int key), (.int x1)]))
  refine go_st (fun t k => XS.icmpNo X0.here hx rfl (hb hby d3_33) rfl (tlt (hl : x1 < key)).2.1 k) ?_
  show Go _ _ _ _ (s₁.setTop (mkF m 36 #[rv ax, iv 0, iv 2, iv key, iv 1, iv 1, iv 1, iv x1] []))
  refine go_st (fun t k => XS.iload X0.here hx rfl (hb hby d3_36) rfl k) ?_
  refine go_st (fun t k => XS.iconst X0.here hx rfl (hb hby d3_38) k) ?_
  show Go _ _ _ _ (s₁.setTop (mkF m 39 #[rv ax, iv 0, iv 2, iv key, iv 1, iv 1, iv 1, iv x1] [(.int 1), (.int 1)]))
  refine go_st (fun t k => XS.iadd X0.here hx rfl (hb hby d3_39) rfl k) ?_
  rw [show ((1 : Int32) + (1 : Int32)) = (2 : Int32) from by decide]
  show Go _ _ _ _ (s₁.setTop (mkF m 40 #[rv ax, iv 0, iv 2, iv key, iv 1, iv 1, iv 1, iv x1] [(.int 2)]))
  refine go_st (fun t k => XS.istore X0.here hx rfl (hb hby d3_40) rfl (l' := #[rv ax, iv 0, iv 2, iv key, iv 2, iv 1, iv 1, iv x1]) rfl k) ?_
  refine go_st (fun t k => XS.goto X0.here hx rfl (pc0 := 42) (pc' := 63) rfl (hb hby d3_42) (by decide) (by decide) k) ?_
  show Go _ _ _ _ (s₁.setTop (mkF m 63 #[rv ax, iv 0, iv 2, iv key, iv 2, iv 1, iv 1, iv x1] []))
  refine go_st (fun t k => XS.goto X0.here hx rfl (pc0 := 63) (pc' := 8) rfl (hb hby d3_63) (by decide) (by decide) k) ?_
  show Go _ _ _ _ (s₁.setTop (mkF m 8 #[rv ax, iv 0, iv 2, iv key, iv 2, iv 1, iv 1, iv x1] []))
  refine go_st (fun t k => XS.iload X0.here hx rfl (hb hby d3_8) rfl k) ?_
  refine go_st (fun t k => XS.iload X0.here hx rfl (hb hby d3_10) rfl k) ?_
  show Go _ _ _ _ (s₁.setTop (mkF m 12 #[rv ax, iv 0, iv 2, iv key, iv 2, iv 1, iv 1, iv x1] [(.int 1), (.int 2)]))
  refine go_st (fun t k => XS.icmpYes X0.here hx rfl (pc0 := 12) (pc' := 66) rfl (hb hby d3_12) rfl (tlt ((by decide) : (1 : Int32) < (2 : Int32))).2.2.1 (by decide) (by decide) k) ?_
  show Go _ _ _ _ (s₁.setTop (mkF m 66 #[rv ax, iv 0, iv 2, iv key, iv 2, iv 1, iv 1, iv x1] []))
  refine go_st (fun t k => XS.iload X0.here hx rfl (hb hby d3_66) rfl k) ?_
  refine go_st (fun t k => XS.iconst X0.here hx rfl (hb hby d3_68) k) ?_
  show Go _ _ _ _ (s₁.setTop (mkF m 69 #[rv ax, iv 0, iv 2, iv key, iv 2, iv 1, iv 1, iv x1] [(.int 1), (.int 2)]))
  refine go_st (fun t k => XS.iadd X0.here hx rfl (hb hby d3_69) rfl k) ?_
  rw [show ((2 : Int32) + (1 : Int32)) = (3 : Int32) from by decide]
  show Go _ _ _ _ (s₁.setTop (mkF m 70 #[rv ax, iv 0, iv 2, iv key, iv 2, iv 1, iv 1, iv x1] [(.int 3)]))
  refine go_st (fun t k => XS.ineg X0.here hx rfl (hb hby d3_70) rfl k) ?_
  rw [show (-(3 : Int32)) = (-3 : Int32) from by decide]
  show Go _ _ _ _ (s₁.setTop (mkF m 71 #[rv ax, iv 0, iv 2, iv key, iv 2, iv 1, iv 1, iv x1] [(.int (-3))]))
  obtain ⟨fs, hr, hrun, hended, hW, hsame⟩ := X0.leave (v := some (.int (-3))) (fun h => by rw [Bd.returns] at h; cases h)
  refine ⟨_, _, ?_, hrun, hended, _, _, rfl, ?_, ⟨_, rfl⟩, hW, hsame.mono (by decide) (by decide)⟩
  · exact retI X0 hx Bd.returns (hb hby d3_71) hr
  · show Q_bs0_022 _ _ _ _ _ _ _ _ _ s₁.heap _
    rw [e0]
    exact ⟨(-3 : Int32), rfl, N0, rfl, (Or.inr rfl)⟩
def Q_bs_022 (Z : State) (ax : Addr) (kx : ClassId) (key : Int32) (x0 : Int32) (x1 : Int32) (h0 : Heap) (n0 : Nat) (vR : Option Value) (h : Heap) (L : List Loc) : Prop := ∃ (r : Int32), vR = some (.int r) ∧ Fr n0 L ∧ h = h0 ∧ (r = (2 : Int32) ∨ r = (-3 : Int32))
theorem ef_bs_022 (m : MethodId) (x0 : Addr) (x1 : Int32) (x2 : Int32) (x3 : Int32) : entryFrame m #[(.ref x0), (.int x1), (.int x2), (.int x3)] 4 = mkF m 0 #[.val (.ref x0), .val (.int x1), .val (.int x2), .val (.int x3)] [] := by first | (simp [entryFrame, mkF, argsToLocals, Value.category]; done) | rfl
set_option maxRecDepth 65536 in
set_option maxHeartbeats 40000000 in
theorem rm_bs_022 (l : Launch) (Z : State) (a0 : Array Value) (hw : ∀ d ∈ tables_1, d.before a0 Z = true) (ws : List Jvm.Cond) (ax : Addr) (kx : ClassId) (key : Int32) (x0 : Int32) (x1 : Int32) (h0 : Heap) (n0 : Nat) (Z0 : n0 ≤ h0.size) (H0 : Arv Z h0 ax kx .int (64 : Int32) [(.int x0), (.int x1)] (.int (0 : Int32))) (s0 : x0 < x1) (hl : x1 < key) :
    MetFree l (⟨"java/util/Arrays", "binarySearch", "([IIII)I"⟩ : MethodName) (head1 (Jvm.Cond.code (⟨"java/util/Arrays", "binarySearch", "([IIII)I"⟩ : MethodName) jdk_65_method_58_code 4 (some .int) :: ws) ({ frames := 1, cells := 0, slots := 0, locals := 19 } : Room)) (fun a U => a = #[(.ref ax), (.int 0), (.int 2), (.int key)] ∧ Z.Warmed39 U.vm ∧ U.heap = h0) (fun _ _ _ _ _ => True) (fun _ U o U' => ∃ v L, o = .returned v ∧ Q_bs_022 Z ax kx key x0 x1 h0 n0 v U'.heap L ∧ FrameEnd U o U' L ({ frames := 1, cells := 0, slots := 0, locals := 19 } : Room).cells ({ frames := 1, cells := 0, slots := 0, locals := 19 } : Room).slots) := by
  refine MetFree.of_bodySF (plainFor_of_name pn_java_util_Arrays) hisR ?_
  intro p e s m args below meth c s₁ Bd hml0 hP hK
  obtain ⟨rfl, hZ, hh⟩ := hP
  have hx := Bd.exec
  have hby := Bd.bytes
  have hml : c.maxLocals = 4 := hml0
  have hown : s.vm.findClass "java/util/Arrays" = some m.cls := findClass_of_methodNamed Bd.named
  have hnm := (name_of_methodNamed Bd.named Bd.method).1
  have X0 : Stand p l e ({ frames := 1, cells := 0, slots := 0, locals := 19 } : Room) s m #[(.ref ax), (.int 0), (.int 2), (.int key)] below meth c s₁ [] 0 0 := Stand.of_body Bd
  have e0 : s₁.heap = h0 := by rw [← hh, Bd.state]; rfl
  have N0 := Fr.nil n0
  refine go_st (fun t k => castTop (ef_bs_022 m ax (0 : Int32) (2 : Int32) key) k) ?_
  show Go _ _ _ _ (s₁.setTop (mkF m 0 #[rv ax, iv 0, iv 2, iv key] []))
  refine go_st (fun t k => XS.aloadN X0.here hx rfl (hb hby d4_0) rfl rfl k) ?_
  show Go _ _ _ _ (s₁.setTop (mkF m 1 #[rv ax, iv 0, iv 2, iv key] [(.ref ax)]))
  obtain ⟨zc1, zA1, zq1, zS1, zN1, zH1, zG1⟩ := id H0
  refine go_st (fun t k => X0.arraylength hx (by rw [e0]; exact zA1.1) (State.isArrayOf_alike hZ.alike zA1.2.1) (g := (mkF m 1 #[rv ax, iv 0, iv 2, iv key] [(.ref ax)])) rfl rfl (hb hby d4_1) t k) ?_
  rw [len_of zS1 zN1]
  refine go_st (fun t k => XS.iloadN X0.here hx rfl (hb hby d4_2) rfl k) ?_
  refine go_st (fun t k => XS.iloadN X0.here hx rfl (hb hby d4_3) rfl k) ?_
  show Go _ _ _ _ (s₁.setTop (mkF m 4 #[rv ax, iv 0, iv 2, iv key] [(.int 2), (.int 0), (.int 64)]))
  obtain ⟨_, _, ⟨T2, L2, kk2, nn2⟩, -, X2, ⟨Lc2, hQ2, lq2, yq2, zq2⟩, st2⟩ := Jvm.LawKit.callS X0 hx (y := (⟨"java/util/Arrays", "rangeCheck", "(III)V"⟩ : MethodName)) hown (mvT hZ (w37 hw)) (mvT hZ (w38 hw)) (mvT hZ (w35 hw)) (mvT hZ (w39 hw)) (by decide) (backOf (W := 0) (rm_rc_02 l Z a0 hw []  h0 n0 (Nat.le_trans Z0 (Nat.le_refl _)) ) hZ (w39 hw) (w35 hw) (by decide) (by decide)) (g := (mkF m 4 #[rv ax, iv 0, iv 2, iv key] [(.int 2), (.int 0), (.int 64)])) rfl (by rw [hml]; rfl) (argsL := [(.int 64), (.int 0), (.int 2)]) (rest := []) (lenOf pd_0 rfl) rfl (by show 2 * 0 + _ ≤ _; exact Nat.le_of_eq rfl) (hb hby d4_4) (fun _ _ => ⟨rfl, e0, (by decide : 0 + 0 ≤ _), (by decide : 0 + 0 ≤ _)⟩)
  dsimp only [Pt.U, Pt.locs, Pt.cells, Pt.slots] at X2 lq2 yq2 zq2 st2 hQ2
  subst lq2 yq2 zq2
  obtain ⟨h2, e2⟩ : ∃ z, T2.heap = z := ⟨_, rfl⟩
  rw [e2] at hQ2
  obtain ⟨rfl, N2q, he2⟩ := hQ2
  have N2 := Fr.app N0 N2q
  rw [he2] at e2
  refine go_st st2 ?_
  show Go _ _ _ _ (T2.setTop (mkF m 7 #[rv ax, iv 0, iv 2, iv key] []))
  refine go_st (fun t k => XS.aloadN X2.here hx rfl (hb hby d4_7) rfl rfl k) ?_
  refine go_st (fun t k => XS.iloadN X2.here hx rfl (hb hby d4_8) rfl k) ?_
  refine go_st (fun t k => XS.iloadN X2.here hx rfl (hb hby d4_9) rfl k) ?_
  refine go_st (fun t k => XS.iloadN X2.here hx rfl (hb hby d4_10) rfl k) ?_
  show Go _ _ _ _ (T2.setTop (mkF m 11 #[rv ax, iv 0, iv 2, iv key] [(.int key), (.int 2), (.int 0), (.ref ax)]))
  obtain ⟨_, _, ⟨T3, L3, kk3, nn3⟩, -, X3, ⟨Lc3, hQ3, lq3, yq3, zq3⟩, st3⟩ := Jvm.LawKit.callS X2 hx (y := (⟨"java/util/Arrays", "binarySearch0", "([IIII)I"⟩ : MethodName)) hown (mvT hZ (w40 hw)) (mvT hZ (w41 hw)) (mvT hZ (w35 hw)) (mvT hZ (w42 hw)) (by decide) (backOf (W := 0) (rm_bs0_022 l Z a0 hw [] ax kx key x0 x1 h0 n0 (Nat.le_trans Z0 (Nat.le_refl _)) H0 s0 hl) hZ (w42 hw) (w35 hw) (by decide) (by decide)) (g := (mkF m 11 #[rv ax, iv 0, iv 2, iv key] [(.int key), (.int 2), (.int 0), (.ref ax)])) rfl (by rw [hml]; rfl) (argsL := [(.ref ax), (.int 0), (.int 2), (.int key)]) (rest := []) (lenOf pd_1 rfl) rfl (by show 2 * 0 + _ ≤ _; exact Nat.le_of_eq rfl) (hb hby d4_11) (fun _ _ => ⟨rfl, e2, (by decide : 0 + 0 ≤ _), (by decide : 0 + 0 ≤ _)⟩)
  dsimp only [Pt.U, Pt.locs, Pt.cells, Pt.slots] at X3 lq3 yq3 zq3 st3 hQ3
  subst lq3 yq3 zq3
  obtain ⟨h3, e3⟩ : ∃ z, T3.heap = z := ⟨_, rfl⟩
  rw [e3] at hQ3
  obtain ⟨r_3, rfl, N3q, he3, hres_3⟩ := hQ3
  have N3 := Fr.app N2 N3q
  rw [he3] at e3
  refine go_st st3 ?_
  show Go _ _ _ _ (T3.setTop (mkF m 14 #[rv ax, iv 0, iv 2, iv key] [(.int r_3)]))
  obtain ⟨fs, hr, hrun, hended, hW, hsame⟩ := X3.leave (v := some (.int r_3)) (fun h => by rw [Bd.returns] at h; cases h)
  refine ⟨_, _, ?_, hrun, hended, _, _, rfl, ?_, ⟨_, rfl⟩, hW, hsame.mono (by decide) (by decide)⟩
  · exact retI X3 hx Bd.returns (hb hby d4_14) hr
  · show Q_bs_022 _ _ _ _ _ _ _ _ _ T3.heap _
    rw [e3]
    exact ⟨r_3, rfl, N3, rfl, hres_3⟩
def Q_lb_022 (Z : State) (a1 : Addr) (ax : Addr) (al : Addr) (kx : ClassId) (kl : ClassId) (key : Int32) (line : Int32) (x0 : Int32) (x1 : Int32) (l0 : Int32) (l1 : Int32) (h0 : Heap) (n0 : Nat) (vR : Option Value) (h : Heap) (L : List Loc) : Prop := vR = some (.int l1) ∧ Fr n0 L ∧ Keep h0 h [a1] ∧ (Exa Z h a1 cBE) ∧ (Fld Z h a1 cBE "indexes" "[I" (.ref ax)) ∧ (Fld Z h a1 cBE "lines" "[I" (.ref al)) ∧ (Fld Z h a1 cBE "first" "I" (.int 1)) ∧ (Fld Z h a1 cBE "count" "I" (.int 2)) ∧ (Arv Z h ax kx .int (64 : Int32) [(.int x0), (.int x1)] (.int (0 : Int32))) ∧ (Arv Z h al kl .int (64 : Int32) [(.int l0), (.int l1)] (.int (0 : Int32)))
theorem ef_lb_022 (m : MethodId) (x0 : Addr) (x1 : Int32) (x2 : Int32) : entryFrame m #[(.ref x0), (.int x1), (.int x2)] 6 = mkF m 0 #[.val (.ref x0), .val (.int x1), .val (.int x2), .unset, .unset, .unset] [] := by first | (simp [entryFrame, mkF, argsToLocals, Value.category]; done) | rfl
set_option maxRecDepth 65536 in
set_option maxHeartbeats 40000000 in
theorem rm_lb_022 (l : Launch) (Z : State) (a0 : Array Value) (hw : ∀ d ∈ tables_1, d.before a0 Z = true) (ws : List Jvm.Cond) (a1 : Addr) (ax : Addr) (al : Addr) (kx : ClassId) (kl : ClassId) (key : Int32) (line : Int32) (x0 : Int32) (x1 : Int32) (l0 : Int32) (l1 : Int32) (h0 : Heap) (n0 : Nat) (Z0 : n0 ≤ h0.size) (H0 : Exa Z h0 a1 cBE) (H1 : Fld Z h0 a1 cBE "indexes" "[I" (.ref ax)) (H2 : Fld Z h0 a1 cBE "lines" "[I" (.ref al)) (H3 : Fld Z h0 a1 cBE "first" "I" (.int 0)) (H4 : Fld Z h0 a1 cBE "count" "I" (.int 2)) (H5 : Arv Z h0 ax kx .int (64 : Int32) [(.int x0), (.int x1)] (.int (0 : Int32))) (H6 : Arv Z h0 al kl .int (64 : Int32) [(.int l0), (.int l1)] (.int (0 : Int32))) (ne_a1_ax : a1 ≠ ax) (ne_a1_al : a1 ≠ al) (ne_ax_al : ax ≠ al) (g_a1 : n0 ≤ a1) (s0 : x0 < x1) (hl : x1 < key) :
    MetFree l (⟨"com/example/nudge/nudge/tree/BlockEntries", "lineBefore", "(II)I"⟩ : MethodName) (head1 (Jvm.Cond.code (⟨"com/example/nudge/nudge/tree/BlockEntries", "lineBefore", "(II)I"⟩ : MethodName) prog_17_method_3_code 6 (some .int) :: ws) ({ frames := 2, cells := 0, slots := 0, locals := 34 } : Room)) (fun a U => a = #[(.ref a1), (.int key), (.int line)] ∧ Z.Warmed39 U.vm ∧ U.heap = h0) (fun _ _ _ _ _ => True) (fun _ U o U' => ∃ v L, o = .returned v ∧ Q_lb_022 Z a1 ax al kx kl key line x0 x1 l0 l1 h0 n0 v U'.heap L ∧ FrameEnd U o U' L ({ frames := 2, cells := 0, slots := 0, locals := 34 } : Room).cells ({ frames := 2, cells := 0, slots := 0, locals := 34 } : Room).slots) := by
  refine MetFree.of_bodySF (plainFor_of_name pn_com_example_nudge_nudge_tree_BlockEntries) hisR ?_
  intro p e s m args below meth c s₁ Bd hml0 hP hK
  obtain ⟨rfl, hZ, hh⟩ := hP
  have hx := Bd.exec
  have hby := Bd.bytes
  have hml : c.maxLocals = 6 := hml0
  have hown : s.vm.findClass "com/example/nudge/nudge/tree/BlockEntries" = some m.cls := findClass_of_methodNamed Bd.named
  have hnm := (name_of_methodNamed Bd.named Bd.method).1
  have X0 : Stand p l e ({ frames := 2, cells := 0, slots := 0, locals := 34 } : Room) s m #[(.ref a1), (.int key), (.int line)] below meth c s₁ [] 0 0 := Stand.of_body Bd
  have e0 : s₁.heap = h0 := by rw [← hh, Bd.state]; rfl
  have N0 := Fr.nil n0
  refine go_st (fun t k => castTop (ef_lb_022 m a1 key line) k) ?_
  show Go _ _ _ _ (s₁.setTop (mkF m 0 #[rv a1, iv key, iv line, .unset, .unset, .unset] []))
  refine go_st (fun t k => XS.aloadN X0.here hx rfl (hb hby d5_0) rfl rfl k) ?_
  show Go _ _ _ _ (s₁.setTop (mkF m 1 #[rv a1, iv key, iv line, .unset, .unset, .unset] [(.ref a1)]))
  obtain ⟨T1, X1, e1, st1⟩ := getF X0 hx hZ hown (host := "") (Or.inl (w15 hw)) Via.refl e0 H1 (g := (mkF m 1 #[rv a1, iv key, iv line, .unset, .unset, .unset] [(.ref a1)])) rfl rfl (hb hby d5_1)
  refine go_st (fun t k => st1 t k) ?_
  refine go_st (fun t k => XS.aloadN X1.here hx rfl (hb hby d5_4) rfl rfl k) ?_
  show Go _ _ _ _ (T1.setTop (mkF m 5 #[rv a1, iv key, iv line, .unset, .unset, .unset] [(.ref a1), (.ref ax)]))
  obtain ⟨T2, X2, e2, st2⟩ := getF X1 hx hZ hown (host := "") (Or.inl (w31 hw)) Via.refl e1 H3 (g := (mkF m 5 #[rv a1, iv key, iv line, .unset, .unset, .unset] [(.ref a1), (.ref ax)])) rfl rfl (hb hby d5_5)
  refine go_st (fun t k => st2 t k) ?_
  refine go_st (fun t k => XS.aloadN X2.here hx rfl (hb hby d5_8) rfl rfl k) ?_
  show Go _ _ _ _ (T2.setTop (mkF m 9 #[rv a1, iv key, iv line, .unset, .unset, .unset] [(.ref a1), (.int 0), (.ref ax)]))
  obtain ⟨T3, X3, e3, st3⟩ := getF X2 hx hZ hown (host := "") (Or.inl (w24 hw)) Via.refl e2 H4 (g := (mkF m 9 #[rv a1, iv key, iv line, .unset, .unset, .unset] [(.ref a1), (.int 0), (.ref ax)])) rfl rfl (hb hby d5_9)
  refine go_st (fun t k => st3 t k) ?_
  refine go_st (fun t k => XS.iloadN X3.here hx rfl (hb hby d5_12) rfl k) ?_
  show Go _ _ _ _ (T3.setTop (mkF m 13 #[rv a1, iv key, iv line, .unset, .unset, .unset] [(.int key), (.int 2), (.int 0), (.ref ax)]))
  obtain ⟨_, _, ⟨T4, L4, kk4, nn4⟩, -, X4, ⟨Lc4, hQ4, lq4, yq4, zq4⟩, st4⟩ := Jvm.LawKit.callS X3 hx (y := (⟨"java/util/Arrays", "binarySearch", "([IIII)I"⟩ : MethodName)) hown (mvT hZ (w33 hw)) (mvT hZ (w34 hw)) (mvT hZ (w35 hw)) (mvT hZ (w36 hw)) (by decide) (backOf (W := 0) (rm_bs_022 l Z a0 hw [] ax kx key x0 x1 h0 n0 (Nat.le_trans Z0 (Nat.le_refl _)) H5 s0 hl) hZ (w36 hw) (w35 hw) (by decide) (by decide)) (g := (mkF m 13 #[rv a1, iv key, iv line, .unset, .unset, .unset] [(.int key), (.int 2), (.int 0), (.ref ax)])) rfl (by rw [hml]; rfl) (argsL := [(.ref ax), (.int 0), (.int 2), (.int key)]) (rest := []) (lenOf pd_1 rfl) rfl (by show 2 * 0 + _ ≤ _; exact Nat.le_of_eq rfl) (hb hby d5_13) (fun _ _ => ⟨rfl, e3, (by decide : 0 + 0 ≤ _), (by decide : 0 + 0 ≤ _)⟩)
  dsimp only [Pt.U, Pt.locs, Pt.cells, Pt.slots] at X4 lq4 yq4 zq4 st4 hQ4
  subst lq4 yq4 zq4
  obtain ⟨h4, e4⟩ : ∃ z, T4.heap = z := ⟨_, rfl⟩
  rw [e4] at hQ4
  obtain ⟨r_4, rfl, N4q, he4, hres_4⟩ := hQ4
  have N4 := Fr.app N0 N4q
  rw [he4] at e4
  refine go_st st4 ?_
  show Go _ _ _ _ (T4.setTop (mkF m 16 #[rv a1, iv key, iv line, .unset, .unset, .unset] [(.int r_4)]))
  rcases hres_4 with rfl | rfl
  · skip
    show Go _ _ _ _ (T4.setTop (mkF m 16 #[rv a1, iv key, iv line, .unset, .unset, .unset] [(.int 2)]))
    refine go_st (fun t k => XS.istoreN X4.here hx rfl (hb hby d5_16) rfl (l' := #[rv a1, iv key, iv line, iv 2, .unset, .unset]) rfl k) ?_
    refine go_st (fun t k => XS.iloadN X4.here hx rfl (hb hby d5_17) rfl k) ?_
    show Go _ _ _ _ (T4.setTop (mkF m 18 #[rv a1, iv key, iv line, iv 2, .unset, .unset] [(.int 2)]))
    refine go_st (fun t k => XS.ifNo X4.here hx rfl (hb hby d5_18) rfl ((if0 _ _).trans (flt ((by decide) : ¬ ((2 : Int32) < (0 : Int32)))).1) k) ?_
    show Go _ _ _ _ (T4.setTop (mkF m 21 #[rv a1, iv key, iv line, iv 2, .unset, .unset] []))
    refine go_st (fun t k => XS.iloadN X4.here hx rfl (hb hby d5_21) rfl k) ?_
    refine go_st (fun t k => XS.goto X4.here hx rfl (pc0 := 22) (pc' := 29) rfl (hb hby d5_22) (by decide) (by decide) k) ?_
    show Go _ _ _ _ (T4.setTop (mkF m 29 #[rv a1, iv key, iv line, iv 2, .unset, .unset] [(.int 2)]))
    refine go_st (fun t k => XS.iconst X4.here hx rfl (hb hby d5_29) k) ?_
    show Go _ _ _ _ (T4.setTop (mkF m 30 #[rv a1, iv key, iv line, iv 2, .unset, .unset] [(.int 1), (.int 2)]))
    refine go_st (fun t k => XS.isub X4.here hx rfl (hb hby d5_30) rfl k) ?_
    rw [show ((2 : Int32) - (1 : Int32)) = (1 : Int32) from by decide]
    show Go _ _ _ _ (T4.setTop (mkF m 31 #[rv a1, iv key, iv line, iv 2, .unset, .unset] [(.int 1)]))
    refine go_st (fun t k => XS.istore X4.here hx rfl (hb hby d5_31) rfl (l' := #[rv a1, iv key, iv line, iv 2, iv 1, .unset]) rfl k) ?_
    refine go_st (fun t k => XS.iloadN X4.here hx rfl (hb hby d5_33) rfl k) ?_
    refine go_st (fun t k => XS.istore X4.here hx rfl (hb hby d5_34) rfl (l' := #[rv a1, iv key, iv line, iv 2, iv 1, iv line]) rfl k) ?_
    refine go_st (fun t k => XS.iload X4.here hx rfl (hb hby d5_36) rfl k) ?_
    refine go_st (fun t k => XS.aloadN X4.here hx rfl (hb hby d5_38) rfl rfl k) ?_
    show Go _ _ _ _ (T4.setTop (mkF m 39 #[rv a1, iv key, iv line, iv 2, iv 1, iv line] [(.ref a1), (.int 1)]))
    obtain ⟨T5, X5, e5, st5⟩ := getF X4 hx hZ hown (host := "") (Or.inl (w31 hw)) Via.refl e4 H3 (g := (mkF m 39 #[rv a1, iv key, iv line, iv 2, iv 1, iv line] [(.ref a1), (.int 1)])) rfl rfl (hb hby d5_39)
    refine go_st (fun t k => st5 t k) ?_
    show Go _ _ _ _ (T5.setTop (mkF m 42 #[rv a1, iv key, iv line, iv 2, iv 1, iv line] [(.int 0), (.int 1)]))
    refine go_st (fun t k => XS.icmpNo X5.here hx rfl (hb hby d5_42) rfl (flt ((by decide) : ¬ ((1 : Int32) < (0 : Int32)))).1 k) ?_
    show Go _ _ _ _ (T5.setTop (mkF m 45 #[rv a1, iv key, iv line, iv 2, iv 1, iv line] []))
    refine go_st (fun t k => XS.aloadN X5.here hx rfl (hb hby d5_45) rfl rfl k) ?_
    show Go _ _ _ _ (T5.setTop (mkF m 46 #[rv a1, iv key, iv line, iv 2, iv 1, iv line] [(.ref a1)]))
    obtain ⟨T6, X6, e6, st6⟩ := getF X5 hx hZ hown (host := "") (Or.inl (w17 hw)) Via.refl e5 H2 (g := (mkF m 46 #[rv a1, iv key, iv line, iv 2, iv 1, iv line] [(.ref a1)])) rfl rfl (hb hby d5_46)
    refine go_st (fun t k => st6 t k) ?_
    refine go_st (fun t k => XS.iload X6.here hx rfl (hb hby d5_49) rfl k) ?_
    show Go _ _ _ _ (T6.setTop (mkF m 51 #[rv a1, iv key, iv line, iv 2, iv 1, iv line] [(.int 1), (.ref al)]))
    obtain ⟨zc7, zA7, zq7, zS7, zN7, zH7, zG7⟩ := id H6
    have hin7 : ¬ ((1 : Int32) < 0 ∨ zc7.slots.size ≤ ((1 : Int32)).toNatClampNeg) := inb_of zS7 ⟨by decide, by decide⟩
    have hat7 : zc7.slots[((1 : Int32)).toNatClampNeg]? = some (.int l1) := Has.at zH7 hin7 rfl
    refine go_st (fun t k => X6.iaload hx (j := (1 : Int32)) (v := (.int l1)) (by rw [e6]; exact zA7.1) (State.isArrayOf_alike hZ.alike zA7.2.1) zA7.2.2 hin7 hat7 (g := (mkF m 51 #[rv a1, iv key, iv line, iv 2, iv 1, iv line] [(.int 1), (.ref al)])) rfl rfl (hb hby d5_51) t k) ?_
    refine go_st (fun t k => XS.istore X6.here hx rfl (hb hby d5_52) rfl (l' := #[rv a1, iv key, iv line, iv 2, iv 1, iv l1]) rfl k) ?_
    refine go_st (fun t k => XS.aloadN X6.here hx rfl (hb hby d5_54) rfl rfl k) ?_
    refine go_st (fun t k => XS.iload X6.here hx rfl (hb hby d5_55) rfl k) ?_
    show Go _ _ _ _ (T6.setTop (mkF m 57 #[rv a1, iv key, iv line, iv 2, iv 1, iv l1] [(.int 1), (.ref a1)]))
    obtain ⟨T8, h8, X8, e8, W8, st8⟩ := putF X6 hx hZ hown (host := "") (Or.inl (w31 hw)) Via.refl e6 H3 H0 (Or.inl (w32 hw)) (w6 hw) (ty := .int) (by decide) rfl rfl (g := (mkF m 57 #[rv a1, iv key, iv line, iv 2, iv 1, iv l1] [(.int 1), (.ref a1)])) rfl rfl (hb hby d5_57)
    have N8 := Fr.snoc X8 N4 g_a1
    have f9 : Fld Z h8 a1 cBE "first" "I" (.int 1) := H3.same W8
    refine go_st (fun t k => st8 t k) ?_
    refine go_st (fun t k => XS.iload X8.here hx rfl (hb hby d5_60) rfl k) ?_
    show Go _ _ _ _ (T8.setTop (mkF m 62 #[rv a1, iv key, iv line, iv 2, iv 1, iv l1] [(.int l1)]))
    have f10 : Exa Z h8 a1 cBE := (H0.wr W8)
    have f11 : Fld Z h8 a1 cBE "indexes" "[I" (.ref ax) := (H1.other W8 (Or.inr (slot_ne (Or.inl (w16 hw)) (Or.inl (w32 hw)) (by decide) (t := (.array .int)) (t' := .int) (by decide) (by decide))))
    have f12 : Fld Z h8 a1 cBE "lines" "[I" (.ref al) := (H2.other W8 (Or.inr (slot_ne (Or.inl (w18 hw)) (Or.inl (w32 hw)) (by decide) (t := (.array .int)) (t' := .int) (by decide) (by decide))))
    have f13 : Fld Z h8 a1 cBE "count" "I" (.int 2) := (H4.other W8 (Or.inr (slot_ne (Or.inl (w25 hw)) (Or.inl (w32 hw)) (by decide) (t := .int) (t' := .int) (by decide) (by decide))))
    have f14 : Arv Z h8 ax kx .int (64 : Int32) [(.int x0), (.int x1)] (.int (0 : Int32)) := (H5.other W8 (Ne.symm ne_a1_ax))
    have f15 : Arv Z h8 al kl .int (64 : Int32) [(.int l0), (.int l1)] (.int (0 : Int32)) := (H6.other W8 (Ne.symm ne_a1_al))
    have ke16 : Keep h0 h8 [a1] := (Keep.wr (Keep.refl h0 [a1]) W8 (Or.inl (List.mem_of_getElem? (i := 0) rfl)))
    obtain ⟨fs, hr, hrun, hended, hW, hsame⟩ := X8.leave (v := some (.int l1)) (fun h => by rw [Bd.returns] at h; cases h)
    refine ⟨_, _, ?_, hrun, hended, _, _, rfl, ?_, ⟨_, rfl⟩, hW, hsame.mono (by decide) (by decide)⟩
    · exact retI X8 hx Bd.returns (hb hby d5_62) hr
    · show Q_lb_022 _ _ _ _ _ _ _ _ _ _ _ _ _ _ _ T8.heap _
      rw [e8]
      exact ⟨rfl, N8, ke16, f10, f11, f12, f9, f13, f14, f15⟩
  · skip
    show Go _ _ _ _ (T4.setTop (mkF m 16 #[rv a1, iv key, iv line, .unset, .unset, .unset] [(.int (-3))]))
    refine go_st (fun t k => XS.istoreN X4.here hx rfl (hb hby d5_16) rfl (l' := #[rv a1, iv key, iv line, iv (-3), .unset, .unset]) rfl k) ?_
    refine go_st (fun t k => XS.iloadN X4.here hx rfl (hb hby d5_17) rfl k) ?_
    show Go _ _ _ _ (T4.setTop (mkF m 18 #[rv a1, iv key, iv line, iv (-3), .unset, .unset] [(.int (-3))]))
    refine go_st (fun t k => XS.ifYes X4.here hx rfl (pc0 := 18) (pc' := 25) rfl (hb hby d5_18) rfl ((if0 _ _).trans (tlt ((by decide) : (-3 : Int32) < (0 : Int32))).1) (by decide) (by decide) k) ?_
    show Go _ _ _ _ (T4.setTop (mkF m 25 #[rv a1, iv key, iv line, iv (-3), .unset, .unset] []))
    refine go_st (fun t k => XS.iloadN X4.here hx rfl (hb hby d5_25) rfl k) ?_
    show Go _ _ _ _ (T4.setTop (mkF m 26 #[rv a1, iv key, iv line, iv (-3), .unset, .unset] [(.int (-3))]))
    refine go_st (fun t k => XS.ineg X4.here hx rfl (hb hby d5_26) rfl k) ?_
    rw [show (-(-3 : Int32)) = (3 : Int32) from by decide]
    show Go _ _ _ _ (T4.setTop (mkF m 27 #[rv a1, iv key, iv line, iv (-3), .unset, .unset] [(.int 3)]))
    refine go_st (fun t k => XS.iconst X4.here hx rfl (hb hby d5_27) k) ?_
    show Go _ _ _ _ (T4.setTop (mkF m 28 #[rv a1, iv key, iv line, iv (-3), .unset, .unset] [(.int 1), (.int 3)]))
    refine go_st (fun t k => XS.isub X4.here hx rfl (hb hby d5_28) rfl k) ?_
    rw [show ((3 : Int32) - (1 : Int32)) = (2 : Int32) from by decide]
    show Go _ _ _ _ (T4.setTop (mkF m 29 #[rv a1, iv key, iv line, iv (-3), .unset, .unset] [(.int 2)]))
    refine go_st (fun t k => XS.iconst X4.here hx rfl (hb hby d5_29) k) ?_
    show Go _ _ _ _ (T4.setTop (mkF m 30 #[rv a1, iv key, iv line, iv (-3), .unset, .unset] [(.int 1), (.int 2)]))
    refine go_st (fun t k => XS.isub X4.here hx rfl (hb hby d5_30) rfl k) ?_
    rw [show ((2 : Int32) - (1 : Int32)) = (1 : Int32) from by decide]
    show Go _ _ _ _ (T4.setTop (mkF m 31 #[rv a1, iv key, iv line, iv (-3), .unset, .unset] [(.int 1)]))
    refine go_st (fun t k => XS.istore X4.here hx rfl (hb hby d5_31) rfl (l' := #[rv a1, iv key, iv line, iv (-3), iv 1, .unset]) rfl k) ?_
    refine go_st (fun t k => XS.iloadN X4.here hx rfl (hb hby d5_33) rfl k) ?_
    refine go_st (fun t k => XS.istore X4.here hx rfl (hb hby d5_34) rfl (l' := #[rv a1, iv key, iv line, iv (-3), iv 1, iv line]) rfl k) ?_
    refine go_st (fun t k => XS.iload X4.here hx rfl (hb hby d5_36) rfl k) ?_
    refine go_st (fun t k => XS.aloadN X4.here hx rfl (hb hby d5_38) rfl rfl k) ?_
    show Go _ _ _ _ (T4.setTop (mkF m 39 #[rv a1, iv key, iv line, iv (-3), iv 1, iv line] [(.ref a1), (.int 1)]))
    obtain ⟨T17, X17, e17, st17⟩ := getF X4 hx hZ hown (host := "") (Or.inl (w31 hw)) Via.refl e4 H3 (g := (mkF m 39 #[rv a1, iv key, iv line, iv (-3), iv 1, iv line] [(.ref a1), (.int 1)])) rfl rfl (hb hby d5_39)
    refine go_st (fun t k => st17 t k) ?_
    show Go _ _ _ _ (T17.setTop (mkF m 42 #[rv a1, iv key, iv line, iv (-3), iv 1, iv line] [(.int 0), (.int 1)]))
    refine go_st (fun t k => XS.icmpNo X17.here hx rfl (hb hby d5_42) rfl (flt ((by decide) : ¬ ((1 : Int32) < (0 : Int32)))).1 k) ?_
    show Go _ _ _ _ (T17.setTop (mkF m 45 #[rv a1, iv key, iv line, iv (-3), iv 1, iv line] []))
    refine go_st (fun t k => XS.aloadN X17.here hx rfl (hb hby d5_45) rfl rfl k) ?_
    show Go _ _ _ _ (T17.setTop (mkF m 46 #[rv a1, iv key, iv line, iv (-3), iv 1, iv line] [(.ref a1)]))
    obtain ⟨T18, X18, e18, st18⟩ := getF X17 hx hZ hown (host := "") (Or.inl (w17 hw)) Via.refl e17 H2 (g := (mkF m 46 #[rv a1, iv key, iv line, iv (-3), iv 1, iv line] [(.ref a1)])) rfl rfl (hb hby d5_46)
    refine go_st (fun t k => st18 t k) ?_
    refine go_st (fun t k => XS.iload X18.here hx rfl (hb hby d5_49) rfl k) ?_
    show Go _ _ _ _ (T18.setTop (mkF m 51 #[rv a1, iv key, iv line, iv (-3), iv 1, iv line] [(.int 1), (.ref al)]))
    obtain ⟨zc19, zA19, zq19, zS19, zN19, zH19, zG19⟩ := id H6
    have hin19 : ¬ ((1 : Int32) < 0 ∨ zc19.slots.size ≤ ((1 : Int32)).toNatClampNeg) := inb_of zS19 ⟨by decide, by decide⟩
    have hat19 : zc19.slots[((1 : Int32)).toNatClampNeg]? = some (.int l1) := Has.at zH19 hin19 rfl
    refine go_st (fun t k => X18.iaload hx (j := (1 : Int32)) (v := (.int l1)) (by rw [e18]; exact zA19.1) (State.isArrayOf_alike hZ.alike zA19.2.1) zA19.2.2 hin19 hat19 (g := (mkF m 51 #[rv a1, iv key, iv line, iv (-3), iv 1, iv line] [(.int 1), (.ref al)])) rfl rfl (hb hby d5_51) t k) ?_
    refine go_st (fun t k => XS.istore X18.here hx rfl (hb hby d5_52) rfl (l' := #[rv a1, iv key, iv line, iv (-3), iv 1, iv l1]) rfl k) ?_
    refine go_st (fun t k => XS.aloadN X18.here hx rfl (hb hby d5_54) rfl rfl k) ?_
    refine go_st (fun t k => XS.iload X18.here hx rfl (hb hby d5_55) rfl k) ?_
    show Go _ _ _ _ (T18.setTop (mkF m 57 #[rv a1, iv key, iv line, iv (-3), iv 1, iv l1] [(.int 1), (.ref a1)]))
    obtain ⟨T20, h20, X20, e20, W20, st20⟩ := putF X18 hx hZ hown (host := "") (Or.inl (w31 hw)) Via.refl e18 H3 H0 (Or.inl (w32 hw)) (w6 hw) (ty := .int) (by decide) rfl rfl (g := (mkF m 57 #[rv a1, iv key, iv line, iv (-3), iv 1, iv l1] [(.int 1), (.ref a1)])) rfl rfl (hb hby d5_57)
    have N20 := Fr.snoc X20 N4 g_a1
    have f21 : Fld Z h20 a1 cBE "first" "I" (.int 1) := H3.same W20
    refine go_st (fun t k => st20 t k) ?_
    refine go_st (fun t k => XS.iload X20.here hx rfl (hb hby d5_60) rfl k) ?_
    show Go _ _ _ _ (T20.setTop (mkF m 62 #[rv a1, iv key, iv line, iv (-3), iv 1, iv l1] [(.int l1)]))
    have f22 : Exa Z h20 a1 cBE := (H0.wr W20)
    have f23 : Fld Z h20 a1 cBE "indexes" "[I" (.ref ax) := (H1.other W20 (Or.inr (slot_ne (Or.inl (w16 hw)) (Or.inl (w32 hw)) (by decide) (t := (.array .int)) (t' := .int) (by decide) (by decide))))
    have f24 : Fld Z h20 a1 cBE "lines" "[I" (.ref al) := (H2.other W20 (Or.inr (slot_ne (Or.inl (w18 hw)) (Or.inl (w32 hw)) (by decide) (t := (.array .int)) (t' := .int) (by decide) (by decide))))
    have f25 : Fld Z h20 a1 cBE "count" "I" (.int 2) := (H4.other W20 (Or.inr (slot_ne (Or.inl (w25 hw)) (Or.inl (w32 hw)) (by decide) (t := .int) (t' := .int) (by decide) (by decide))))
    have f26 : Arv Z h20 ax kx .int (64 : Int32) [(.int x0), (.int x1)] (.int (0 : Int32)) := (H5.other W20 (Ne.symm ne_a1_ax))
    have f27 : Arv Z h20 al kl .int (64 : Int32) [(.int l0), (.int l1)] (.int (0 : Int32)) := (H6.other W20 (Ne.symm ne_a1_al))
    have ke28 : Keep h0 h20 [a1] := (Keep.wr (Keep.refl h0 [a1]) W20 (Or.inl (List.mem_of_getElem? (i := 0) rfl)))
    obtain ⟨fs, hr, hrun, hended, hW, hsame⟩ := X20.leave (v := some (.int l1)) (fun h => by rw [Bd.returns] at h; cases h)
    refine ⟨_, _, ?_, hrun, hended, _, _, rfl, ?_, ⟨_, rfl⟩, hW, hsame.mono (by decide) (by decide)⟩
    · exact retI X20 hx Bd.returns (hb hby d5_62) hr
    · show Q_lb_022 _ _ _ _ _ _ _ _ _ _ _ _ _ _ _ T20.heap _
      rw [e20]
      exact ⟨rfl, N20, ke28, f22, f23, f24, f21, f25, f26, f27⟩
def Q_rc_12 (Z : State)  (h0 : Heap) (n0 : Nat) (vR : Option Value) (h : Heap) (L : List Loc) : Prop := vR = none ∧ Fr n0 L ∧ h = h0
theorem ef_rc_12 (m : MethodId) (x0 : Int32) (x1 : Int32) (x2 : Int32) : entryFrame m #[(.int x0), (.int x1), (.int x2)] 3 = mkF m 0 #[.val (.int x0), .val (.int x1), .val (.int x2)] [] := by first | (simp [entryFrame, mkF, argsToLocals, Value.category]; done) | rfl
set_option maxRecDepth 65536 in
set_option maxHeartbeats 40000000 in
theorem rm_rc_12 (l : Launch) (Z : State) (a0 : Array Value) (hw : ∀ d ∈ tables_1, d.before a0 Z = true) (ws : List Jvm.Cond)  (h0 : Heap) (n0 : Nat) (Z0 : n0 ≤ h0.size)  :
    MetFree l (⟨"java/util/Arrays", "rangeCheck", "(III)V"⟩ : MethodName) (head1 (Jvm.Cond.code (⟨"java/util/Arrays", "rangeCheck", "(III)V"⟩ : MethodName) jdk_65_method_30_code 3 none :: ws) ({ frames := 0, cells := 0, slots := 0, locals := 0 } : Room)) (fun a U => a = #[(.int 64), (.int 1), (.int 2)] ∧ Z.Warmed39 U.vm ∧ U.heap = h0) (fun _ _ _ _ _ => True) (fun _ U o U' => ∃ v L, o = .returned v ∧ Q_rc_12 Z h0 n0 v U'.heap L ∧ FrameEnd U o U' L ({ frames := 0, cells := 0, slots := 0, locals := 0 } : Room).cells ({ frames := 0, cells := 0, slots := 0, locals := 0 } : Room).slots) := by
  refine MetFree.of_bodySF (plainFor_of_name pn_java_util_Arrays) hisR ?_
  intro p e s m args below meth c s₁ Bd hml0 hP hK
  obtain ⟨rfl, hZ, hh⟩ := hP
  have hx := Bd.exec
  have hby := Bd.bytes
  have hml : c.maxLocals = 3 := hml0
  have hown : s.vm.findClass "java/util/Arrays" = some m.cls := findClass_of_methodNamed Bd.named
  have hnm := (name_of_methodNamed Bd.named Bd.method).1
  have X0 : Stand p l e ({ frames := 0, cells := 0, slots := 0, locals := 0 } : Room) s m #[(.int 64), (.int 1), (.int 2)] below meth c s₁ [] 0 0 := Stand.of_body Bd
  have e0 : s₁.heap = h0 := by rw [← hh, Bd.state]; rfl
  have N0 := Fr.nil n0
  refine go_st (fun t k => castTop (ef_rc_12 m (64 : Int32) (1 : Int32) (2 : Int32)) k) ?_
  show Go _ _ _ _ (s₁.setTop (mkF m 0 #[iv 64, iv 1, iv 2] []))
  refine go_st (fun t k => XS.iloadN X0.here hx rfl (hb hby d2_0) rfl k) ?_
  refine go_st (fun t k => XS.iloadN X0.here hx rfl (hb hby d2_1) rfl k) ?_
  show Go _ _ _ _ (s₁.setTop (mkF m 2 #[iv 64, iv 1, iv 2] [(.int 2), (.int 1)]))
  refine go_st (fun t k => XS.icmpYes X0.here hx rfl (pc0 := 2) (pc' := 46) rfl (hb hby d2_2) rfl (flt ((by decide) : ¬ ((2 : Int32) < (1 : Int32)))).2.2.2 (by decide) (by decide) k) ?_
  show Go _ _ _ _ (s₁.setTop (mkF m 46 #[iv 64, iv 1, iv 2] []))
  refine go_st (fun t k => XS.iloadN X0.here hx rfl (hb hby d2_46) rfl k) ?_
  show Go _ _ _ _ (s₁.setTop (mkF m 47 #[iv 64, iv 1, iv 2] [(.int 1)]))
  refine go_st (fun t k => XS.ifYes X0.here hx rfl (pc0 := 47) (pc' := 59) rfl (hb hby d2_47) rfl ((if0 _ _).trans (flt ((by decide) : ¬ ((1 : Int32) < (0 : Int32)))).2.1) (by decide) (by decide) k) ?_
  show Go _ _ _ _ (s₁.setTop (mkF m 59 #[iv 64, iv 1, iv 2] []))
  refine go_st (fun t k => XS.iloadN X0.here hx rfl (hb hby d2_59) rfl k) ?_
  refine go_st (fun t k => XS.iloadN X0.here hx rfl (hb hby d2_60) rfl k) ?_
  show Go _ _ _ _ (s₁.setTop (mkF m 61 #[iv 64, iv 1, iv 2] [(.int 64), (.int 2)]))
  refine go_st (fun t k => XS.icmpYes X0.here hx rfl (pc0 := 61) (pc' := 73) rfl (hb hby d2_61) rfl (flt ((by decide) : ¬ ((64 : Int32) < (2 : Int32)))).2.2.2 (by decide) (by decide) k) ?_
  show Go _ _ _ _ (s₁.setTop (mkF m 73 #[iv 64, iv 1, iv 2] []))
  obtain ⟨fs, hr, hrun, hended, hW, hsame⟩ := X0.leave (v := none) (fun _ => rfl)
  refine ⟨_, _, ?_, hrun, hended, _, _, rfl, ?_, ⟨_, rfl⟩, hW, hsame.mono (by decide) (by decide)⟩
  · exact X0.returnOut hx Bd.returns (hb hby d2_73) hr
  · show Q_rc_12 _ _ _ _ s₁.heap _
    rw [e0]
    exact ⟨rfl, N0, rfl⟩
def Q_bs0_122 (Z : State) (ax : Addr) (kx : ClassId) (key : Int32) (x0 : Int32) (x1 : Int32) (h0 : Heap) (n0 : Nat) (vR : Option Value) (h : Heap) (L : List Loc) : Prop := ∃ (r : Int32), vR = some (.int r) ∧ Fr n0 L ∧ h = h0 ∧ (r = (2 : Int32) ∨ r = (-3 : Int32))
theorem ef_bs0_122 (m : MethodId) (x0 : Addr) (x1 : Int32) (x2 : Int32) (x3 : Int32) : entryFrame m #[(.ref x0), (.int x1), (.int x2), (.int x3)] 8 = mkF m 0 #[.val (.ref x0), .val (.int x1), .val (.int x2), .val (.int x3), .unset, .unset, .unset, .unset] [] := by first | (simp [entryFrame, mkF, argsToLocals, Value.category]; done) | rfl
set_option maxRecDepth 65536 in
set_option maxHeartbeats 40000000 in
theorem rm_bs0_122 (l : Launch) (Z : State) (a0 : Array Value) (hw : ∀ d ∈ tables_1, d.before a0 Z = true) (ws : List Jvm.Cond) (ax : Addr) (kx : ClassId) (key : Int32) (x0 : Int32) (x1 : Int32) (h0 : Heap) (n0 : Nat) (Z0 : n0 ≤ h0.size) (H0 : Arv Z h0 ax kx .int (64 : Int32) [(.int x0), (.int x1)] (.int (0 : Int32))) (hl : x1 < key) :
    MetFree l (⟨"java/util/Arrays", "binarySearch0", "([IIII)I"⟩ : MethodName) (head1 (Jvm.Cond.code (⟨"java/util/Arrays", "binarySearch0", "([IIII)I"⟩ : MethodName) jdk_65_method_59_code 8 (some .int) :: ws) ({ frames := 0, cells := 0, slots := 0, locals := 0 } : Room)) (fun a U => a = #[(.ref ax), (.int 1), (.int 2), (.int key)] ∧ Z.Warmed39 U.vm ∧ U.heap = h0) (fun _ _ _ _ _ => True) (fun _ U o U' => ∃ v L, o = .returned v ∧ Q_bs0_122 Z ax kx key x0 x1 h0 n0 v U'.heap L ∧ FrameEnd U o U' L ({ frames := 0, cells := 0, slots := 0, locals := 0 } : Room).cells ({ frames := 0, cells := 0, slots := 0, locals := 0 } : Room).slots) := by
  refine MetFree.of_bodySF (plainFor_of_name pn_java_util_Arrays) hisR ?_
  intro p e s m args below meth c s₁ Bd hml0 hP hK
  obtain ⟨rfl, hZ, hh⟩ := hP
  have hx := Bd.exec
  have hby := Bd.bytes
  have hml : c.maxLocals = 8 := hml0
  have hown : s.vm.findClass "java/util/Arrays" = some m.cls := findClass_of_methodNamed Bd.named
  have hnm := (name_of_methodNamed Bd.named Bd.method).1
  have X0 : Stand p l e ({ frames := 0, cells := 0, slots := 0, locals := 0 } : Room) s m #[(.ref ax), (.int 1), (.int 2), (.int key)] below meth c s₁ [] 0 0 := Stand.of_body Bd
  have e0 : s₁.heap = h0 := by rw [← hh, Bd.state]; rfl
  have N0 := Fr.nil n0
  refine go_st (fun t k => castTop (ef_bs0_122 m ax (1 : Int32) (2 : Int32) key) k) ?_
  show Go _ _ _ _ (s₁.setTop (mkF m 0 #[rv ax, iv 1, iv 2, iv key, .unset, .unset, .unset, .unset] []))
  refine go_st (fun t k => XS.iloadN X0.here hx rfl (hb hby d3_0) rfl k) ?_
  refine go_st (fun t k => XS.istore X0.here hx rfl (hb hby d3_1) rfl (l' := #[rv ax, iv 1, iv 2, iv key, iv 1, .unset, .unset, .unset]) rfl k) ?_
  refine go_st (fun t k => XS.iloadN X0.here hx rfl (hb hby d3_3) rfl k) ?_
  refine go_st (fun t k => XS.iconst X0.here hx rfl (hb hby d3_4) k) ?_
  show Go _ _ _ _ (s₁.setTop (mkF m 5 #[rv ax, iv 1, iv 2, iv key, iv 1, .unset, .unset, .unset] [(.int 1), (.int 2)]))
  refine go_st (fun t k => XS.isub X0.here hx rfl (hb hby d3_5) rfl k) ?_
  rw [show ((2 : Int32) - (1 : Int32)) = (1 : Int32) from by decide]
  show Go _ _ _ _ (s₁.setTop (mkF m 6 #[rv ax, iv 1, iv 2, iv key, iv 1, .unset, .unset, .unset] [(.int 1)]))
  refine go_st (fun t k => XS.istore X0.here hx rfl (hb hby d3_6) rfl (l' := #[rv ax, iv 1, iv 2, iv key, iv 1, iv 1, .unset, .unset]) rfl k) ?_
  refine go_st (fun t k => XS.iload X0.here hx rfl (hb hby d3_8) rfl k) ?_
  refine go_st (fun t k => XS.iload X0.here hx rfl (hb hby d3_10) rfl k) ?_
  show Go _ _ _ _ (s₁.setTop (mkF m 12 #[rv ax, iv 1, iv 2, iv key, iv 1, iv 1, .unset, .unset] [(.int 1), (.int 1)]))
  refine go_st (fun t k => XS.icmpNo X0.here hx rfl (hb hby d3_12) rfl (flt ((by decide) : ¬ ((1 : Int32) < (1 : Int32)))).2.2.1 k) ?_
  show Go _ _ _ _ (s₁.setTop (mkF m 15 #[rv ax, iv 1, iv 2, iv key, iv 1, iv 1, .unset, .unset] []))
  refine go_st (fun t k => XS.iload X0.here hx rfl (hb hby d3_15) rfl k) ?_
  refine go_st (fun t k => XS.iload X0.here hx rfl (hb hby d3_17) rfl k) ?_
  show Go _ _ _ _ (s₁.setTop (mkF m 19 #[rv ax, iv 1, iv 2, iv key, iv 1, iv 1, .unset, .unset] [(.int 1), (.int 1)]))
  refine go_st (fun t k => XS.iadd X0.here hx rfl (hb hby d3_19) rfl k) ?_
  rw [show ((1 : Int32) + (1 : Int32)) = (2 : Int32) from by decide]
  show Go _ _ _ _ (s₁.setTop (mkF m 20 #[rv ax, iv 1, iv 2, iv key, iv 1, iv 1, .unset, .unset] [(.int 2)]))
  refine go_st (fun t k => XS.iconst X0.here hx rfl (hb hby d3_20) k) ?_
  show Go _ _ _ _ (s₁.setTop (mkF m 21 #[rv ax, iv 1, iv 2, iv key, iv 1, iv 1, .unset, .unset] [(.int 1), (.int 2)]))
  refine go_st (fun t k => XS.iushr X0.here hx rfl (hb hby d3_21) rfl k) ?_
  rw [show (((2 : Int32)).toUInt32 >>> ((1 : Int32) &&& 31).toUInt32).toInt32 = (1 : Int32) from by decide]
  show Go _ _ _ _ (s₁.setTop (mkF m 22 #[rv ax, iv 1, iv 2, iv key, iv 1, iv 1, .unset, .unset] [(.int 1)]))
  refine go_st (fun t k => XS.istore X0.here hx rfl (hb hby d3_22) rfl (l' := #[rv ax, iv 1, iv 2, iv key, iv 1, iv 1, iv 1, .unset]) rfl k) ?_
  refine go_st (fun t k => XS.aloadN X0.here hx rfl (hb hby d3_24) rfl rfl k) ?_
  refine go_st (fun t k => XS.iload X0.here hx rfl (hb hby d3_25) rfl k) ?_
  show Go _ _ _ _ (s₁.setTop (mkF m 27 #[rv ax, iv 1, iv 2, iv key, iv 1, iv 1, iv 1, .unset] [(.int 1), (.ref ax)]))
  obtain ⟨zc1, zA1, zq1, zS1, zN1, zH1, zG1⟩ := id H0
  have hin1 : ¬ ((1 : Int32) < 0 ∨ zc1.slots.size ≤ ((1 : Int32)).toNatClampNeg) := inb_of zS1 ⟨by decide, by decide⟩
  have hat1 : zc1.slots[((1 : Int32)).toNatClampNeg]? = some (.int x1) := Has.at zH1 hin1 rfl
  refine go_st (fun t k => X0.iaload hx (j := (1 : Int32)) (v := (.int x1)) (by rw [e0]; exact zA1.1) (State.isArrayOf_alike hZ.alike zA1.2.1) zA1.2.2 hin1 hat1 (g := (mkF m 27 #[rv ax, iv 1, iv 2, iv key, iv 1, iv 1, iv 1, .unset] [(.int 1), (.ref ax)])) rfl rfl (hb hby d3_27) t k) ?_
  refine go_st (fun t k => XS.istore X0.here hx rfl (hb hby d3_28) rfl (l' := #[rv ax, iv 1, iv 2, iv key, iv 1, iv 1, iv 1, iv x1]) rfl k) ?_
  refine go_st (fun t k => XS.iload X0.here hx rfl (hb hby d3_30) rfl k) ?_
  refine go_st (fun t k => XS.iloadN X0.here hx rfl (hb hby d3_32) rfl k) ?_
  show Go _ _ _ _ (s₁.setTop (mkF m 33 #[rv ax, iv 1, iv 2, iv key, iv 1, iv 1, iv 1, iv x1] [(.int key), (.int x1)]))
  refine go_st (fun t k => XS.icmpNo X0.here hx rfl (hb hby d3_33) rfl (tlt (hl : x1 < key)).2.1 k) ?_
  show Go _ _ _ _ (s₁.setTop (mkF m 36 #[rv ax, iv 1, iv 2, iv key, iv 1, iv 1, iv 1, iv x1] []))
  refine go_st (fun t k => XS.iload X0.here hx rfl (hb hby d3_36) rfl k) ?_
  refine go_st (fun t k => XS.iconst X0.here hx rfl (hb hby d3_38) k) ?_
  show Go _ _ _ _ (s₁.setTop (mkF m 39 #[rv ax, iv 1, iv 2, iv key, iv 1, iv 1, iv 1, iv x1] [(.int 1), (.int 1)]))
  refine go_st (fun t k => XS.iadd X0.here hx rfl (hb hby d3_39) rfl k) ?_
  rw [show ((1 : Int32) + (1 : Int32)) = (2 : Int32) from by decide]
  show Go _ _ _ _ (s₁.setTop (mkF m 40 #[rv ax, iv 1, iv 2, iv key, iv 1, iv 1, iv 1, iv x1] [(.int 2)]))
  refine go_st (fun t k => XS.istore X0.here hx rfl (hb hby d3_40) rfl (l' := #[rv ax, iv 1, iv 2, iv key, iv 2, iv 1, iv 1, iv x1]) rfl k) ?_
  refine go_st (fun t k => XS.goto X0.here hx rfl (pc0 := 42) (pc' := 63) rfl (hb hby d3_42) (by decide) (by decide) k) ?_
  show Go _ _ _ _ (s₁.setTop (mkF m 63 #[rv ax, iv 1, iv 2, iv key, iv 2, iv 1, iv 1, iv x1] []))
  refine go_st (fun t k => XS.goto X0.here hx rfl (pc0 := 63) (pc' := 8) rfl (hb hby d3_63) (by decide) (by decide) k) ?_
  show Go _ _ _ _ (s₁.setTop (mkF m 8 #[rv ax, iv 1, iv 2, iv key, iv 2, iv 1, iv 1, iv x1] []))
  refine go_st (fun t k => XS.iload X0.here hx rfl (hb hby d3_8) rfl k) ?_
  refine go_st (fun t k => XS.iload X0.here hx rfl (hb hby d3_10) rfl k) ?_
  show Go _ _ _ _ (s₁.setTop (mkF m 12 #[rv ax, iv 1, iv 2, iv key, iv 2, iv 1, iv 1, iv x1] [(.int 1), (.int 2)]))
  refine go_st (fun t k => XS.icmpYes X0.here hx rfl (pc0 := 12) (pc' := 66) rfl (hb hby d3_12) rfl (tlt ((by decide) : (1 : Int32) < (2 : Int32))).2.2.1 (by decide) (by decide) k) ?_
  show Go _ _ _ _ (s₁.setTop (mkF m 66 #[rv ax, iv 1, iv 2, iv key, iv 2, iv 1, iv 1, iv x1] []))
  refine go_st (fun t k => XS.iload X0.here hx rfl (hb hby d3_66) rfl k) ?_
  refine go_st (fun t k => XS.iconst X0.here hx rfl (hb hby d3_68) k) ?_
  show Go _ _ _ _ (s₁.setTop (mkF m 69 #[rv ax, iv 1, iv 2, iv key, iv 2, iv 1, iv 1, iv x1] [(.int 1), (.int 2)]))
  refine go_st (fun t k => XS.iadd X0.here hx rfl (hb hby d3_69) rfl k) ?_
  rw [show ((2 : Int32) + (1 : Int32)) = (3 : Int32) from by decide]
  show Go _ _ _ _ (s₁.setTop (mkF m 70 #[rv ax, iv 1, iv 2, iv key, iv 2, iv 1, iv 1, iv x1] [(.int 3)]))
  refine go_st (fun t k => XS.ineg X0.here hx rfl (hb hby d3_70) rfl k) ?_
  rw [show (-(3 : Int32)) = (-3 : Int32) from by decide]
  show Go _ _ _ _ (s₁.setTop (mkF m 71 #[rv ax, iv 1, iv 2, iv key, iv 2, iv 1, iv 1, iv x1] [(.int (-3))]))
  obtain ⟨fs, hr, hrun, hended, hW, hsame⟩ := X0.leave (v := some (.int (-3))) (fun h => by rw [Bd.returns] at h; cases h)
  refine ⟨_, _, ?_, hrun, hended, _, _, rfl, ?_, ⟨_, rfl⟩, hW, hsame.mono (by decide) (by decide)⟩
  · exact retI X0 hx Bd.returns (hb hby d3_71) hr
  · show Q_bs0_122 _ _ _ _ _ _ _ _ _ s₁.heap _
    rw [e0]
    exact ⟨(-3 : Int32), rfl, N0, rfl, (Or.inr rfl)⟩
def Q_bs_122 (Z : State) (ax : Addr) (kx : ClassId) (key : Int32) (x0 : Int32) (x1 : Int32) (h0 : Heap) (n0 : Nat) (vR : Option Value) (h : Heap) (L : List Loc) : Prop := ∃ (r : Int32), vR = some (.int r) ∧ Fr n0 L ∧ h = h0 ∧ (r = (2 : Int32) ∨ r = (-3 : Int32))
theorem ef_bs_122 (m : MethodId) (x0 : Addr) (x1 : Int32) (x2 : Int32) (x3 : Int32) : entryFrame m #[(.ref x0), (.int x1), (.int x2), (.int x3)] 4 = mkF m 0 #[.val (.ref x0), .val (.int x1), .val (.int x2), .val (.int x3)] [] := by first | (simp [entryFrame, mkF, argsToLocals, Value.category]; done) | rfl
set_option maxRecDepth 65536 in
set_option maxHeartbeats 40000000 in
theorem rm_bs_122 (l : Launch) (Z : State) (a0 : Array Value) (hw : ∀ d ∈ tables_1, d.before a0 Z = true) (ws : List Jvm.Cond) (ax : Addr) (kx : ClassId) (key : Int32) (x0 : Int32) (x1 : Int32) (h0 : Heap) (n0 : Nat) (Z0 : n0 ≤ h0.size) (H0 : Arv Z h0 ax kx .int (64 : Int32) [(.int x0), (.int x1)] (.int (0 : Int32))) (hl : x1 < key) :
    MetFree l (⟨"java/util/Arrays", "binarySearch", "([IIII)I"⟩ : MethodName) (head1 (Jvm.Cond.code (⟨"java/util/Arrays", "binarySearch", "([IIII)I"⟩ : MethodName) jdk_65_method_58_code 4 (some .int) :: ws) ({ frames := 1, cells := 0, slots := 0, locals := 19 } : Room)) (fun a U => a = #[(.ref ax), (.int 1), (.int 2), (.int key)] ∧ Z.Warmed39 U.vm ∧ U.heap = h0) (fun _ _ _ _ _ => True) (fun _ U o U' => ∃ v L, o = .returned v ∧ Q_bs_122 Z ax kx key x0 x1 h0 n0 v U'.heap L ∧ FrameEnd U o U' L ({ frames := 1, cells := 0, slots := 0, locals := 19 } : Room).cells ({ frames := 1, cells := 0, slots := 0, locals := 19 } : Room).slots) := by
  refine MetFree.of_bodySF (plainFor_of_name pn_java_util_Arrays) hisR ?_
  intro p e s m args below meth c s₁ Bd hml0 hP hK
  obtain ⟨rfl, hZ, hh⟩ := hP
  have hx := Bd.exec
  have hby := Bd.bytes
  have hml : c.maxLocals = 4 := hml0
  have hown : s.vm.findClass "java/util/Arrays" = some m.cls := findClass_of_methodNamed Bd.named
  have hnm := (name_of_methodNamed Bd.named Bd.method).1
  have X0 : Stand p l e ({ frames := 1, cells := 0, slots := 0, locals := 19 } : Room) s m #[(.ref ax), (.int 1), (.int 2), (.int key)] below meth c s₁ [] 0 0 := Stand.of_body Bd
  have e0 : s₁.heap = h0 := by rw [← hh, Bd.state]; rfl
  have N0 := Fr.nil n0
  refine go_st (fun t k => castTop (ef_bs_122 m ax (1 : Int32) (2 : Int32) key) k) ?_
  show Go _ _ _ _ (s₁.setTop (mkF m 0 #[rv ax, iv 1, iv 2, iv key] []))
  refine go_st (fun t k => XS.aloadN X0.here hx rfl (hb hby d4_0) rfl rfl k) ?_
  show Go _ _ _ _ (s₁.setTop (mkF m 1 #[rv ax, iv 1, iv 2, iv key] [(.ref ax)]))
  obtain ⟨zc1, zA1, zq1, zS1, zN1, zH1, zG1⟩ := id H0
  refine go_st (fun t k => X0.arraylength hx (by rw [e0]; exact zA1.1) (State.isArrayOf_alike hZ.alike zA1.2.1) (g := (mkF m 1 #[rv ax, iv 1, iv 2, iv key] [(.ref ax)])) rfl rfl (hb hby d4_1) t k) ?_
  rw [len_of zS1 zN1]
  refine go_st (fun t k => XS.iloadN X0.here hx rfl (hb hby d4_2) rfl k) ?_
  refine go_st (fun t k => XS.iloadN X0.here hx rfl (hb hby d4_3) rfl k) ?_
  show Go _ _ _ _ (s₁.setTop (mkF m 4 #[rv ax, iv 1, iv 2, iv key] [(.int 2), (.int 1), (.int 64)]))
  obtain ⟨_, _, ⟨T2, L2, kk2, nn2⟩, -, X2, ⟨Lc2, hQ2, lq2, yq2, zq2⟩, st2⟩ := Jvm.LawKit.callS X0 hx (y := (⟨"java/util/Arrays", "rangeCheck", "(III)V"⟩ : MethodName)) hown (mvT hZ (w37 hw)) (mvT hZ (w38 hw)) (mvT hZ (w35 hw)) (mvT hZ (w39 hw)) (by decide) (backOf (W := 0) (rm_rc_12 l Z a0 hw []  h0 n0 (Nat.le_trans Z0 (Nat.le_refl _)) ) hZ (w39 hw) (w35 hw) (by decide) (by decide)) (g := (mkF m 4 #[rv ax, iv 1, iv 2, iv key] [(.int 2), (.int 1), (.int 64)])) rfl (by rw [hml]; rfl) (argsL := [(.int 64), (.int 1), (.int 2)]) (rest := []) (lenOf pd_0 rfl) rfl (by show 2 * 0 + _ ≤ _; exact Nat.le_of_eq rfl) (hb hby d4_4) (fun _ _ => ⟨rfl, e0, (by decide : 0 + 0 ≤ _), (by decide : 0 + 0 ≤ _)⟩)
  dsimp only [Pt.U, Pt.locs, Pt.cells, Pt.slots] at X2 lq2 yq2 zq2 st2 hQ2
  subst lq2 yq2 zq2
  obtain ⟨h2, e2⟩ : ∃ z, T2.heap = z := ⟨_, rfl⟩
  rw [e2] at hQ2
  obtain ⟨rfl, N2q, he2⟩ := hQ2
  have N2 := Fr.app N0 N2q
  rw [he2] at e2
  refine go_st st2 ?_
  show Go _ _ _ _ (T2.setTop (mkF m 7 #[rv ax, iv 1, iv 2, iv key] []))
  refine go_st (fun t k => XS.aloadN X2.here hx rfl (hb hby d4_7) rfl rfl k) ?_
  refine go_st (fun t k => XS.iloadN X2.here hx rfl (hb hby d4_8) rfl k) ?_
  refine go_st (fun t k => XS.iloadN X2.here hx rfl (hb hby d4_9) rfl k) ?_
  refine go_st (fun t k => XS.iloadN X2.here hx rfl (hb hby d4_10) rfl k) ?_
  show Go _ _ _ _ (T2.setTop (mkF m 11 #[rv ax, iv 1, iv 2, iv key] [(.int key), (.int 2), (.int 1), (.ref ax)]))
  obtain ⟨_, _, ⟨T3, L3, kk3, nn3⟩, -, X3, ⟨Lc3, hQ3, lq3, yq3, zq3⟩, st3⟩ := Jvm.LawKit.callS X2 hx (y := (⟨"java/util/Arrays", "binarySearch0", "([IIII)I"⟩ : MethodName)) hown (mvT hZ (w40 hw)) (mvT hZ (w41 hw)) (mvT hZ (w35 hw)) (mvT hZ (w42 hw)) (by decide) (backOf (W := 0) (rm_bs0_122 l Z a0 hw [] ax kx key x0 x1 h0 n0 (Nat.le_trans Z0 (Nat.le_refl _)) H0 hl) hZ (w42 hw) (w35 hw) (by decide) (by decide)) (g := (mkF m 11 #[rv ax, iv 1, iv 2, iv key] [(.int key), (.int 2), (.int 1), (.ref ax)])) rfl (by rw [hml]; rfl) (argsL := [(.ref ax), (.int 1), (.int 2), (.int key)]) (rest := []) (lenOf pd_1 rfl) rfl (by show 2 * 0 + _ ≤ _; exact Nat.le_of_eq rfl) (hb hby d4_11) (fun _ _ => ⟨rfl, e2, (by decide : 0 + 0 ≤ _), (by decide : 0 + 0 ≤ _)⟩)
  dsimp only [Pt.U, Pt.locs, Pt.cells, Pt.slots] at X3 lq3 yq3 zq3 st3 hQ3
  subst lq3 yq3 zq3
  obtain ⟨h3, e3⟩ : ∃ z, T3.heap = z := ⟨_, rfl⟩
  rw [e3] at hQ3
  obtain ⟨r_3, rfl, N3q, he3, hres_3⟩ := hQ3
  have N3 := Fr.app N2 N3q
  rw [he3] at e3
  refine go_st st3 ?_
  show Go _ _ _ _ (T3.setTop (mkF m 14 #[rv ax, iv 1, iv 2, iv key] [(.int r_3)]))
  obtain ⟨fs, hr, hrun, hended, hW, hsame⟩ := X3.leave (v := some (.int r_3)) (fun h => by rw [Bd.returns] at h; cases h)
  refine ⟨_, _, ?_, hrun, hended, _, _, rfl, ?_, ⟨_, rfl⟩, hW, hsame.mono (by decide) (by decide)⟩
  · exact retI X3 hx Bd.returns (hb hby d4_14) hr
  · show Q_bs_122 _ _ _ _ _ _ _ _ _ T3.heap _
    rw [e3]
    exact ⟨r_3, rfl, N3, rfl, hres_3⟩
def Q_lb_122 (Z : State) (a1 : Addr) (ax : Addr) (al : Addr) (kx : ClassId) (kl : ClassId) (key : Int32) (line : Int32) (x0 : Int32) (x1 : Int32) (l0 : Int32) (l1 : Int32) (h0 : Heap) (n0 : Nat) (vR : Option Value) (h : Heap) (L : List Loc) : Prop := vR = some (.int l1) ∧ Fr n0 L ∧ Keep h0 h [a1] ∧ (Exa Z h a1 cBE) ∧ (Fld Z h a1 cBE "indexes" "[I" (.ref ax)) ∧ (Fld Z h a1 cBE "lines" "[I" (.ref al)) ∧ (Fld Z h a1 cBE "first" "I" (.int 1)) ∧ (Fld Z h a1 cBE "count" "I" (.int 2)) ∧ (Arv Z h ax kx .int (64 : Int32) [(.int x0), (.int x1)] (.int (0 : Int32))) ∧ (Arv Z h al kl .int (64 : Int32) [(.int l0), (.int l1)] (.int (0 : Int32)))
theorem ef_lb_122 (m : MethodId) (x0 : Addr) (x1 : Int32) (x2 : Int32) : entryFrame m #[(.ref x0), (.int x1), (.int x2)] 6 = mkF m 0 #[.val (.ref x0), .val (.int x1), .val (.int x2), .unset, .unset, .unset] [] := by first | (simp [entryFrame, mkF, argsToLocals, Value.category]; done) | rfl
set_option maxRecDepth 65536 in
set_option maxHeartbeats 40000000 in
theorem rm_lb_122 (l : Launch) (Z : State) (a0 : Array Value) (hw : ∀ d ∈ tables_1, d.before a0 Z = true) (ws : List Jvm.Cond) (a1 : Addr) (ax : Addr) (al : Addr) (kx : ClassId) (kl : ClassId) (key : Int32) (line : Int32) (x0 : Int32) (x1 : Int32) (l0 : Int32) (l1 : Int32) (h0 : Heap) (n0 : Nat) (Z0 : n0 ≤ h0.size) (H0 : Exa Z h0 a1 cBE) (H1 : Fld Z h0 a1 cBE "indexes" "[I" (.ref ax)) (H2 : Fld Z h0 a1 cBE "lines" "[I" (.ref al)) (H3 : Fld Z h0 a1 cBE "first" "I" (.int 1)) (H4 : Fld Z h0 a1 cBE "count" "I" (.int 2)) (H5 : Arv Z h0 ax kx .int (64 : Int32) [(.int x0), (.int x1)] (.int (0 : Int32))) (H6 : Arv Z h0 al kl .int (64 : Int32) [(.int l0), (.int l1)] (.int (0 : Int32))) (ne_a1_ax : a1 ≠ ax) (ne_a1_al : a1 ≠ al) (ne_ax_al : ax ≠ al) (g_a1 : n0 ≤ a1) (hl : x1 < key) :
    MetFree l (⟨"com/example/nudge/nudge/tree/BlockEntries", "lineBefore", "(II)I"⟩ : MethodName) (head1 (Jvm.Cond.code (⟨"com/example/nudge/nudge/tree/BlockEntries", "lineBefore", "(II)I"⟩ : MethodName) prog_17_method_3_code 6 (some .int) :: ws) ({ frames := 2, cells := 0, slots := 0, locals := 34 } : Room)) (fun a U => a = #[(.ref a1), (.int key), (.int line)] ∧ Z.Warmed39 U.vm ∧ U.heap = h0) (fun _ _ _ _ _ => True) (fun _ U o U' => ∃ v L, o = .returned v ∧ Q_lb_122 Z a1 ax al kx kl key line x0 x1 l0 l1 h0 n0 v U'.heap L ∧ FrameEnd U o U' L ({ frames := 2, cells := 0, slots := 0, locals := 34 } : Room).cells ({ frames := 2, cells := 0, slots := 0, locals := 34 } : Room).slots) := by
  refine MetFree.of_bodySF (plainFor_of_name pn_com_example_nudge_nudge_tree_BlockEntries) hisR ?_
  intro p e s m args below meth c s₁ Bd hml0 hP hK
  obtain ⟨rfl, hZ, hh⟩ := hP
  have hx := Bd.exec
  have hby := Bd.bytes
  have hml : c.maxLocals = 6 := hml0
  have hown : s.vm.findClass "com/example/nudge/nudge/tree/BlockEntries" = some m.cls := findClass_of_methodNamed Bd.named
  have hnm := (name_of_methodNamed Bd.named Bd.method).1
  have X0 : Stand p l e ({ frames := 2, cells := 0, slots := 0, locals := 34 } : Room) s m #[(.ref a1), (.int key), (.int line)] below meth c s₁ [] 0 0 := Stand.of_body Bd
  have e0 : s₁.heap = h0 := by rw [← hh, Bd.state]; rfl
  have N0 := Fr.nil n0
  refine go_st (fun t k => castTop (ef_lb_122 m a1 key line) k) ?_
  show Go _ _ _ _ (s₁.setTop (mkF m 0 #[rv a1, iv key, iv line, .unset, .unset, .unset] []))
  refine go_st (fun t k => XS.aloadN X0.here hx rfl (hb hby d5_0) rfl rfl k) ?_
  show Go _ _ _ _ (s₁.setTop (mkF m 1 #[rv a1, iv key, iv line, .unset, .unset, .unset] [(.ref a1)]))
  obtain ⟨T1, X1, e1, st1⟩ := getF X0 hx hZ hown (host := "") (Or.inl (w15 hw)) Via.refl e0 H1 (g := (mkF m 1 #[rv a1, iv key, iv line, .unset, .unset, .unset] [(.ref a1)])) rfl rfl (hb hby d5_1)
  refine go_st (fun t k => st1 t k) ?_
  refine go_st (fun t k => XS.aloadN X1.here hx rfl (hb hby d5_4) rfl rfl k) ?_
  show Go _ _ _ _ (T1.setTop (mkF m 5 #[rv a1, iv key, iv line, .unset, .unset, .unset] [(.ref a1), (.ref ax)]))
  obtain ⟨T2, X2, e2, st2⟩ := getF X1 hx hZ hown (host := "") (Or.inl (w31 hw)) Via.refl e1 H3 (g := (mkF m 5 #[rv a1, iv key, iv line, .unset, .unset, .unset] [(.ref a1), (.ref ax)])) rfl rfl (hb hby d5_5)
  refine go_st (fun t k => st2 t k) ?_
  refine go_st (fun t k => XS.aloadN X2.here hx rfl (hb hby d5_8) rfl rfl k) ?_
  show Go _ _ _ _ (T2.setTop (mkF m 9 #[rv a1, iv key, iv line, .unset, .unset, .unset] [(.ref a1), (.int 1), (.ref ax)]))
  obtain ⟨T3, X3, e3, st3⟩ := getF X2 hx hZ hown (host := "") (Or.inl (w24 hw)) Via.refl e2 H4 (g := (mkF m 9 #[rv a1, iv key, iv line, .unset, .unset, .unset] [(.ref a1), (.int 1), (.ref ax)])) rfl rfl (hb hby d5_9)
  refine go_st (fun t k => st3 t k) ?_
  refine go_st (fun t k => XS.iloadN X3.here hx rfl (hb hby d5_12) rfl k) ?_
  show Go _ _ _ _ (T3.setTop (mkF m 13 #[rv a1, iv key, iv line, .unset, .unset, .unset] [(.int key), (.int 2), (.int 1), (.ref ax)]))
  obtain ⟨_, _, ⟨T4, L4, kk4, nn4⟩, -, X4, ⟨Lc4, hQ4, lq4, yq4, zq4⟩, st4⟩ := Jvm.LawKit.callS X3 hx (y := (⟨"java/util/Arrays", "binarySearch", "([IIII)I"⟩ : MethodName)) hown (mvT hZ (w33 hw)) (mvT hZ (w34 hw)) (mvT hZ (w35 hw)) (mvT hZ (w36 hw)) (by decide) (backOf (W := 0) (rm_bs_122 l Z a0 hw [] ax kx key x0 x1 h0 n0 (Nat.le_trans Z0 (Nat.le_refl _)) H5 hl) hZ (w36 hw) (w35 hw) (by decide) (by decide)) (g := (mkF m 13 #[rv a1, iv key, iv line, .unset, .unset, .unset] [(.int key), (.int 2), (.int 1), (.ref ax)])) rfl (by rw [hml]; rfl) (argsL := [(.ref ax), (.int 1), (.int 2), (.int key)]) (rest := []) (lenOf pd_1 rfl) rfl (by show 2 * 0 + _ ≤ _; exact Nat.le_of_eq rfl) (hb hby d5_13) (fun _ _ => ⟨rfl, e3, (by decide : 0 + 0 ≤ _), (by decide : 0 + 0 ≤ _)⟩)
  dsimp only [Pt.U, Pt.locs, Pt.cells, Pt.slots] at X4 lq4 yq4 zq4 st4 hQ4
  subst lq4 yq4 zq4
  obtain ⟨h4, e4⟩ : ∃ z, T4.heap = z := ⟨_, rfl⟩
  rw [e4] at hQ4
  obtain ⟨r_4, rfl, N4q, he4, hres_4⟩ := hQ4
  have N4 := Fr.app N0 N4q
  rw [he4] at e4
  refine go_st st4 ?_
  show Go _ _ _ _ (T4.setTop (mkF m 16 #[rv a1, iv key, iv line, .unset, .unset, .unset] [(.int r_4)]))
  rcases hres_4 with rfl | rfl
  · skip
    show Go _ _ _ _ (T4.setTop (mkF m 16 #[rv a1, iv key, iv line, .unset, .unset, .unset] [(.int 2)]))
    refine go_st (fun t k => XS.istoreN X4.here hx rfl (hb hby d5_16) rfl (l' := #[rv a1, iv key, iv line, iv 2, .unset, .unset]) rfl k) ?_
    refine go_st (fun t k => XS.iloadN X4.here hx rfl (hb hby d5_17) rfl k) ?_
    show Go _ _ _ _ (T4.setTop (mkF m 18 #[rv a1, iv key, iv line, iv 2, .unset, .unset] [(.int 2)]))
    refine go_st (fun t k => XS.ifNo X4.here hx rfl (hb hby d5_18) rfl ((if0 _ _).trans (flt ((by decide) : ¬ ((2 : Int32) < (0 : Int32)))).1) k) ?_
    show Go _ _ _ _ (T4.setTop (mkF m 21 #[rv a1, iv key, iv line, iv 2, .unset, .unset] []))
    refine go_st (fun t k => XS.iloadN X4.here hx rfl (hb hby d5_21) rfl k) ?_
    refine go_st (fun t k => XS.goto X4.here hx rfl (pc0 := 22) (pc' := 29) rfl (hb hby d5_22) (by decide) (by decide) k) ?_
    show Go _ _ _ _ (T4.setTop (mkF m 29 #[rv a1, iv key, iv line, iv 2, .unset, .unset] [(.int 2)]))
    refine go_st (fun t k => XS.iconst X4.here hx rfl (hb hby d5_29) k) ?_
    show Go _ _ _ _ (T4.setTop (mkF m 30 #[rv a1, iv key, iv line, iv 2, .unset, .unset] [(.int 1), (.int 2)]))
    refine go_st (fun t k => XS.isub X4.here hx rfl (hb hby d5_30) rfl k) ?_
    rw [show ((2 : Int32) - (1 : Int32)) = (1 : Int32) from by decide]
    show Go _ _ _ _ (T4.setTop (mkF m 31 #[rv a1, iv key, iv line, iv 2, .unset, .unset] [(.int 1)]))
    refine go_st (fun t k => XS.istore X4.here hx rfl (hb hby d5_31) rfl (l' := #[rv a1, iv key, iv line, iv 2, iv 1, .unset]) rfl k) ?_
    refine go_st (fun t k => XS.iloadN X4.here hx rfl (hb hby d5_33) rfl k) ?_
    refine go_st (fun t k => XS.istore X4.here hx rfl (hb hby d5_34) rfl (l' := #[rv a1, iv key, iv line, iv 2, iv 1, iv line]) rfl k) ?_
    refine go_st (fun t k => XS.iload X4.here hx rfl (hb hby d5_36) rfl k) ?_
    refine go_st (fun t k => XS.aloadN X4.here hx rfl (hb hby d5_38) rfl rfl k) ?_
    show Go _ _ _ _ (T4.setTop (mkF m 39 #[rv a1, iv key, iv line, iv 2, iv 1, iv line] [(.ref a1), (.int 1)]))
    obtain ⟨T5, X5, e5, st5⟩ := getF X4 hx hZ hown (host := "") (Or.inl (w31 hw)) Via.refl e4 H3 (g := (mkF m 39 #[rv a1, iv key, iv line, iv 2, iv 1, iv line] [(.ref a1), (.int 1)])) rfl rfl (hb hby d5_39)
    refine go_st (fun t k => st5 t k) ?_
    show Go _ _ _ _ (T5.setTop (mkF m 42 #[rv a1, iv key, iv line, iv 2, iv 1, iv line] [(.int 1), (.int 1)]))
    refine go_st (fun t k => XS.icmpNo X5.here hx rfl (hb hby d5_42) rfl (flt ((by decide) : ¬ ((1 : Int32) < (1 : Int32)))).1 k) ?_
    show Go _ _ _ _ (T5.setTop (mkF m 45 #[rv a1, iv key, iv line, iv 2, iv 1, iv line] []))
    refine go_st (fun t k => XS.aloadN X5.here hx rfl (hb hby d5_45) rfl rfl k) ?_
    show Go _ _ _ _ (T5.setTop (mkF m 46 #[rv a1, iv key, iv line, iv 2, iv 1, iv line] [(.ref a1)]))
    obtain ⟨T6, X6, e6, st6⟩ := getF X5 hx hZ hown (host := "") (Or.inl (w17 hw)) Via.refl e5 H2 (g := (mkF m 46 #[rv a1, iv key, iv line, iv 2, iv 1, iv line] [(.ref a1)])) rfl rfl (hb hby d5_46)
    refine go_st (fun t k => st6 t k) ?_
    refine go_st (fun t k => XS.iload X6.here hx rfl (hb hby d5_49) rfl k) ?_
    show Go _ _ _ _ (T6.setTop (mkF m 51 #[rv a1, iv key, iv line, iv 2, iv 1, iv line] [(.int 1), (.ref al)]))
    obtain ⟨zc7, zA7, zq7, zS7, zN7, zH7, zG7⟩ := id H6
    have hin7 : ¬ ((1 : Int32) < 0 ∨ zc7.slots.size ≤ ((1 : Int32)).toNatClampNeg) := inb_of zS7 ⟨by decide, by decide⟩
    have hat7 : zc7.slots[((1 : Int32)).toNatClampNeg]? = some (.int l1) := Has.at zH7 hin7 rfl
    refine go_st (fun t k => X6.iaload hx (j := (1 : Int32)) (v := (.int l1)) (by rw [e6]; exact zA7.1) (State.isArrayOf_alike hZ.alike zA7.2.1) zA7.2.2 hin7 hat7 (g := (mkF m 51 #[rv a1, iv key, iv line, iv 2, iv 1, iv line] [(.int 1), (.ref al)])) rfl rfl (hb hby d5_51) t k) ?_
    refine go_st (fun t k => XS.istore X6.here hx rfl (hb hby d5_52) rfl (l' := #[rv a1, iv key, iv line, iv 2, iv 1, iv l1]) rfl k) ?_
    refine go_st (fun t k => XS.aloadN X6.here hx rfl (hb hby d5_54) rfl rfl k) ?_
    refine go_st (fun t k => XS.iload X6.here hx rfl (hb hby d5_55) rfl k) ?_
    show Go _ _ _ _ (T6.setTop (mkF m 57 #[rv a1, iv key, iv line, iv 2, iv 1, iv l1] [(.int 1), (.ref a1)]))
    obtain ⟨T8, h8, X8, e8, W8, st8⟩ := putF X6 hx hZ hown (host := "") (Or.inl (w31 hw)) Via.refl e6 H3 H0 (Or.inl (w32 hw)) (w6 hw) (ty := .int) (by decide) rfl rfl (g := (mkF m 57 #[rv a1, iv key, iv line, iv 2, iv 1, iv l1] [(.int 1), (.ref a1)])) rfl rfl (hb hby d5_57)
    have N8 := Fr.snoc X8 N4 g_a1
    have f9 : Fld Z h8 a1 cBE "first" "I" (.int 1) := H3.same W8
    refine go_st (fun t k => st8 t k) ?_
    refine go_st (fun t k => XS.iload X8.here hx rfl (hb hby d5_60) rfl k) ?_
    show Go _ _ _ _ (T8.setTop (mkF m 62 #[rv a1, iv key, iv line, iv 2, iv 1, iv l1] [(.int l1)]))
    have f10 : Exa Z h8 a1 cBE := (H0.wr W8)
    have f11 : Fld Z h8 a1 cBE "indexes" "[I" (.ref ax) := (H1.other W8 (Or.inr (slot_ne (Or.inl (w16 hw)) (Or.inl (w32 hw)) (by decide) (t := (.array .int)) (t' := .int) (by decide) (by decide))))
    have f12 : Fld Z h8 a1 cBE "lines" "[I" (.ref al) := (H2.other W8 (Or.inr (slot_ne (Or.inl (w18 hw)) (Or.inl (w32 hw)) (by decide) (t := (.array .int)) (t' := .int) (by decide) (by decide))))
    have f13 : Fld Z h8 a1 cBE "count" "I" (.int 2) := (H4.other W8 (Or.inr (slot_ne (Or.inl (w25 hw)) (Or.inl (w32 hw)) (by decide) (t := .int) (t' := .int) (by decide) (by decide))))
    have f14 : Arv Z h8 ax kx .int (64 : Int32) [(.int x0), (.int x1)] (.int (0 : Int32)) := (H5.other W8 (Ne.symm ne_a1_ax))
    have f15 : Arv Z h8 al kl .int (64 : Int32) [(.int l0), (.int l1)] (.int (0 : Int32)) := (H6.other W8 (Ne.symm ne_a1_al))
    have ke16 : Keep h0 h8 [a1] := (Keep.wr (Keep.refl h0 [a1]) W8 (Or.inl (List.mem_of_getElem? (i := 0) rfl)))
    obtain ⟨fs, hr, hrun, hended, hW, hsame⟩ := X8.leave (v := some (.int l1)) (fun h => by rw [Bd.returns] at h; cases h)
    refine ⟨_, _, ?_, hrun, hended, _, _, rfl, ?_, ⟨_, rfl⟩, hW, hsame.mono (by decide) (by decide)⟩
    · exact retI X8 hx Bd.returns (hb hby d5_62) hr
    · show Q_lb_122 _ _ _ _ _ _ _ _ _ _ _ _ _ _ _ T8.heap _
      rw [e8]
      exact ⟨rfl, N8, ke16, f10, f11, f12, f9, f13, f14, f15⟩
  · skip
    show Go _ _ _ _ (T4.setTop (mkF m 16 #[rv a1, iv key, iv line, .unset, .unset, .unset] [(.int (-3))]))
    refine go_st (fun t k => XS.istoreN X4.here hx rfl (hb hby d5_16) rfl (l' := #[rv a1, iv key, iv line, iv (-3), .unset, .unset]) rfl k) ?_
    refine go_st (fun t k => XS.iloadN X4.here hx rfl (hb hby d5_17) rfl k) ?_
    show Go _ _ _ _ (T4.setTop (mkF m 18 #[rv a1, iv key, iv line, iv (-3), .unset, .unset] [(.int (-3))]))
    refine go_st (fun t k => XS.ifYes X4.here hx rfl (pc0 := 18) (pc' := 25) rfl (hb hby d5_18) rfl ((if0 _ _).trans (tlt ((by decide) : (-3 : Int32) < (0 : Int32))).1) (by decide) (by decide) k) ?_
    show Go _ _ _ _ (T4.setTop (mkF m 25 #[rv a1, iv key, iv line, iv (-3), .unset, .unset] []))
    refine go_st (fun t k => XS.iloadN X4.here hx rfl (hb hby d5_25) rfl k) ?_
    show Go _ _ _ _ (T4.setTop (mkF m 26 #[rv a1, iv key, iv line, iv (-3), .unset, .unset] [(.int (-3))]))
    refine go_st (fun t k => XS.ineg X4.here hx rfl (hb hby d5_26) rfl k) ?_
    rw [show (-(-3 : Int32)) = (3 : Int32) from by decide]
    show Go _ _ _ _ (T4.setTop (mkF m 27 #[rv a1, iv key, iv line, iv (-3), .unset, .unset] [(.int 3)]))
    refine go_st (fun t k => XS.iconst X4.here hx rfl (hb hby d5_27) k) ?_
    show Go _ _ _ _ (T4.setTop (mkF m 28 #[rv a1, iv key, iv line, iv (-3), .unset, .unset] [(.int 1), (.int 3)]))
    refine go_st (fun t k => XS.isub X4.here hx rfl (hb hby d5_28) rfl k) ?_
    rw [show ((3 : Int32) - (1 : Int32)) = (2 : Int32) from by decide]
    show Go _ _ _ _ (T4.setTop (mkF m 29 #[rv a1, iv key, iv line, iv (-3), .unset, .unset] [(.int 2)]))
    refine go_st (fun t k => XS.iconst X4.here hx rfl (hb hby d5_29) k) ?_
    show Go _ _ _ _ (T4.setTop (mkF m 30 #[rv a1, iv key, iv line, iv (-3), .unset, .unset] [(.int 1), (.int 2)]))
    refine go_st (fun t k => XS.isub X4.here hx rfl (hb hby d5_30) rfl k) ?_
    rw [show ((2 : Int32) - (1 : Int32)) = (1 : Int32) from by decide]
    show Go _ _ _ _ (T4.setTop (mkF m 31 #[rv a1, iv key, iv line, iv (-3), .unset, .unset] [(.int 1)]))
    refine go_st (fun t k => XS.istore X4.here hx rfl (hb hby d5_31) rfl (l' := #[rv a1, iv key, iv line, iv (-3), iv 1, .unset]) rfl k) ?_
    refine go_st (fun t k => XS.iloadN X4.here hx rfl (hb hby d5_33) rfl k) ?_
    refine go_st (fun t k => XS.istore X4.here hx rfl (hb hby d5_34) rfl (l' := #[rv a1, iv key, iv line, iv (-3), iv 1, iv line]) rfl k) ?_
    refine go_st (fun t k => XS.iload X4.here hx rfl (hb hby d5_36) rfl k) ?_
    refine go_st (fun t k => XS.aloadN X4.here hx rfl (hb hby d5_38) rfl rfl k) ?_
    show Go _ _ _ _ (T4.setTop (mkF m 39 #[rv a1, iv key, iv line, iv (-3), iv 1, iv line] [(.ref a1), (.int 1)]))
    obtain ⟨T17, X17, e17, st17⟩ := getF X4 hx hZ hown (host := "") (Or.inl (w31 hw)) Via.refl e4 H3 (g := (mkF m 39 #[rv a1, iv key, iv line, iv (-3), iv 1, iv line] [(.ref a1), (.int 1)])) rfl rfl (hb hby d5_39)
    refine go_st (fun t k => st17 t k) ?_
    show Go _ _ _ _ (T17.setTop (mkF m 42 #[rv a1, iv key, iv line, iv (-3), iv 1, iv line] [(.int 1), (.int 1)]))
    refine go_st (fun t k => XS.icmpNo X17.here hx rfl (hb hby d5_42) rfl (flt ((by decide) : ¬ ((1 : Int32) < (1 : Int32)))).1 k) ?_
    show Go _ _ _ _ (T17.setTop (mkF m 45 #[rv a1, iv key, iv line, iv (-3), iv 1, iv line] []))
    refine go_st (fun t k => XS.aloadN X17.here hx rfl (hb hby d5_45) rfl rfl k) ?_
    show Go _ _ _ _ (T17.setTop (mkF m 46 #[rv a1, iv key, iv line, iv (-3), iv 1, iv line] [(.ref a1)]))
    obtain ⟨T18, X18, e18, st18⟩ := getF X17 hx hZ hown (host := "") (Or.inl (w17 hw)) Via.refl e17 H2 (g := (mkF m 46 #[rv a1, iv key, iv line, iv (-3), iv 1, iv line] [(.ref a1)])) rfl rfl (hb hby d5_46)
    refine go_st (fun t k => st18 t k) ?_
    refine go_st (fun t k => XS.iload X18.here hx rfl (hb hby d5_49) rfl k) ?_
    show Go _ _ _ _ (T18.setTop (mkF m 51 #[rv a1, iv key, iv line, iv (-3), iv 1, iv line] [(.int 1), (.ref al)]))
    obtain ⟨zc19, zA19, zq19, zS19, zN19, zH19, zG19⟩ := id H6
    have hin19 : ¬ ((1 : Int32) < 0 ∨ zc19.slots.size ≤ ((1 : Int32)).toNatClampNeg) := inb_of zS19 ⟨by decide, by decide⟩
    have hat19 : zc19.slots[((1 : Int32)).toNatClampNeg]? = some (.int l1) := Has.at zH19 hin19 rfl
    refine go_st (fun t k => X18.iaload hx (j := (1 : Int32)) (v := (.int l1)) (by rw [e18]; exact zA19.1) (State.isArrayOf_alike hZ.alike zA19.2.1) zA19.2.2 hin19 hat19 (g := (mkF m 51 #[rv a1, iv key, iv line, iv (-3), iv 1, iv line] [(.int 1), (.ref al)])) rfl rfl (hb hby d5_51) t k) ?_
    refine go_st (fun t k => XS.istore X18.here hx rfl (hb hby d5_52) rfl (l' := #[rv a1, iv key, iv line, iv (-3), iv 1, iv l1]) rfl k) ?_
    refine go_st (fun t k => XS.aloadN X18.here hx rfl (hb hby d5_54) rfl rfl k) ?_
    refine go_st (fun t k => XS.iload X18.here hx rfl (hb hby d5_55) rfl k) ?_
    show Go _ _ _ _ (T18.setTop (mkF m 57 #[rv a1, iv key, iv line, iv (-3), iv 1, iv l1] [(.int 1), (.ref a1)]))
    obtain ⟨T20, h20, X20, e20, W20, st20⟩ := putF X18 hx hZ hown (host := "") (Or.inl (w31 hw)) Via.refl e18 H3 H0 (Or.inl (w32 hw)) (w6 hw) (ty := .int) (by decide) rfl rfl (g := (mkF m 57 #[rv a1, iv key, iv line, iv (-3), iv 1, iv l1] [(.int 1), (.ref a1)])) rfl rfl (hb hby d5_57)
    have N20 := Fr.snoc X20 N4 g_a1
    have f21 : Fld Z h20 a1 cBE "first" "I" (.int 1) := H3.same W20
    refine go_st (fun t k => st20 t k) ?_
    refine go_st (fun t k => XS.iload X20.here hx rfl (hb hby d5_60) rfl k) ?_
    show Go _ _ _ _ (T20.setTop (mkF m 62 #[rv a1, iv key, iv line, iv (-3), iv 1, iv l1] [(.int l1)]))
    have f22 : Exa Z h20 a1 cBE := (H0.wr W20)
    have f23 : Fld Z h20 a1 cBE "indexes" "[I" (.ref ax) := (H1.other W20 (Or.inr (slot_ne (Or.inl (w16 hw)) (Or.inl (w32 hw)) (by decide) (t := (.array .int)) (t' := .int) (by decide) (by decide))))
    have f24 : Fld Z h20 a1 cBE "lines" "[I" (.ref al) := (H2.other W20 (Or.inr (slot_ne (Or.inl (w18 hw)) (Or.inl (w32 hw)) (by decide) (t := (.array .int)) (t' := .int) (by decide) (by decide))))
    have f25 : Fld Z h20 a1 cBE "count" "I" (.int 2) := (H4.other W20 (Or.inr (slot_ne (Or.inl (w25 hw)) (Or.inl (w32 hw)) (by decide) (t := .int) (t' := .int) (by decide) (by decide))))
    have f26 : Arv Z h20 ax kx .int (64 : Int32) [(.int x0), (.int x1)] (.int (0 : Int32)) := (H5.other W20 (Ne.symm ne_a1_ax))
    have f27 : Arv Z h20 al kl .int (64 : Int32) [(.int l0), (.int l1)] (.int (0 : Int32)) := (H6.other W20 (Ne.symm ne_a1_al))
    have ke28 : Keep h0 h20 [a1] := (Keep.wr (Keep.refl h0 [a1]) W20 (Or.inl (List.mem_of_getElem? (i := 0) rfl)))
    obtain ⟨fs, hr, hrun, hended, hW, hsame⟩ := X20.leave (v := some (.int l1)) (fun h => by rw [Bd.returns] at h; cases h)
    refine ⟨_, _, ?_, hrun, hended, _, _, rfl, ?_, ⟨_, rfl⟩, hW, hsame.mono (by decide) (by decide)⟩
    · exact retI X20 hx Bd.returns (hb hby d5_62) hr
    · show Q_lb_122 _ _ _ _ _ _ _ _ _ _ _ _ _ _ _ T20.heap _
      rw [e20]
      exact ⟨rfl, N20, ke28, f22, f23, f24, f21, f25, f26, f27⟩
def Q_rc_03 (Z : State)  (h0 : Heap) (n0 : Nat) (vR : Option Value) (h : Heap) (L : List Loc) : Prop := vR = none ∧ Fr n0 L ∧ h = h0
theorem ef_rc_03 (m : MethodId) (x0 : Int32) (x1 : Int32) (x2 : Int32) : entryFrame m #[(.int x0), (.int x1), (.int x2)] 3 = mkF m 0 #[.val (.int x0), .val (.int x1), .val (.int x2)] [] := by first | (simp [entryFrame, mkF, argsToLocals, Value.category]; done) | rfl
set_option maxRecDepth 65536 in
set_option maxHeartbeats 40000000 in
theorem rm_rc_03 (l : Launch) (Z : State) (a0 : Array Value) (hw : ∀ d ∈ tables_1, d.before a0 Z = true) (ws : List Jvm.Cond)  (h0 : Heap) (n0 : Nat) (Z0 : n0 ≤ h0.size)  :
    MetFree l (⟨"java/util/Arrays", "rangeCheck", "(III)V"⟩ : MethodName) (head1 (Jvm.Cond.code (⟨"java/util/Arrays", "rangeCheck", "(III)V"⟩ : MethodName) jdk_65_method_30_code 3 none :: ws) ({ frames := 0, cells := 0, slots := 0, locals := 0 } : Room)) (fun a U => a = #[(.int 64), (.int 0), (.int 3)] ∧ Z.Warmed39 U.vm ∧ U.heap = h0) (fun _ _ _ _ _ => True) (fun _ U o U' => ∃ v L, o = .returned v ∧ Q_rc_03 Z h0 n0 v U'.heap L ∧ FrameEnd U o U' L ({ frames := 0, cells := 0, slots := 0, locals := 0 } : Room).cells ({ frames := 0, cells := 0, slots := 0, locals := 0 } : Room).slots) := by
  refine MetFree.of_bodySF (plainFor_of_name pn_java_util_Arrays) hisR ?_
  intro p e s m args below meth c s₁ Bd hml0 hP hK
  obtain ⟨rfl, hZ, hh⟩ := hP
  have hx := Bd.exec
  have hby := Bd.bytes
  have hml : c.maxLocals = 3 := hml0
  have hown : s.vm.findClass "java/util/Arrays" = some m.cls := findClass_of_methodNamed Bd.named
  have hnm := (name_of_methodNamed Bd.named Bd.method).1
  have X0 : Stand p l e ({ frames := 0, cells := 0, slots := 0, locals := 0 } : Room) s m #[(.int 64), (.int 0), (.int 3)] below meth c s₁ [] 0 0 := Stand.of_body Bd
  have e0 : s₁.heap = h0 := by rw [← hh, Bd.state]; rfl
  have N0 := Fr.nil n0
  refine go_st (fun t k => castTop (ef_rc_03 m (64 : Int32) (0 : Int32) (3 : Int32)) k) ?_
  show Go _ _ _ _ (s₁.setTop (mkF m 0 #[iv 64, iv 0, iv 3] []))
  refine go_st (fun t k => XS.iloadN X0.here hx rfl (hb hby d2_0) rfl k) ?_
  refine go_st (fun t k => XS.iloadN X0.here hx rfl (hb hby d2_1) rfl k) ?_
  show Go _ _ _ _ (s₁.setTop (mkF m 2 #[iv 64, iv 0, iv 3] [(.int 3), (.int 0)]))
  refine go_st (fun t k => XS.icmpYes X0.here hx rfl (pc0 := 2) (pc' := 46) rfl (hb hby d2_2) rfl (flt ((by decide) : ¬ ((3 : Int32) < (0 : Int32)))).2.2.2 (by decide) (by decide) k) ?_
  show Go _ _ _ _ (s₁.setTop (mkF m 46 #[iv 64, iv 0, iv 3] []))
  refine go_st (fun t k => XS.iloadN X0.here hx rfl (hb hby d2_46) rfl k) ?_
  show Go _ _ _ _ (s₁.setTop (mkF m 47 #[iv 64, iv 0, iv 3] [(.int 0)]))
  refine go_st (fun t k => XS.ifYes X0.here hx rfl (pc0 := 47) (pc' := 59) rfl (hb hby d2_47) rfl ((if0 _ _).trans (flt ((by decide) : ¬ ((0 : Int32) < (0 : Int32)))).2.1) (by decide) (by decide) k) ?_
  show Go _ _ _ _ (s₁.setTop (mkF m 59 #[iv 64, iv 0, iv 3] []))
  refine go_st (fun t k => XS.iloadN X0.here hx rfl (hb hby d2_59) rfl k) ?_
  refine go_st (fun t k => XS.iloadN X0.here hx rfl (hb hby d2_60) rfl k) ?_
  show Go _ _ _ _ (s₁.setTop (mkF m 61 #[iv 64, iv 0, iv 3] [(.int 64), (.int 3)]))
  refine go_st (fun t k => XS.icmpYes X0.here hx rfl (pc0 := 61) (pc' := 73) rfl (hb hby d2_61) rfl (flt ((by decide) : ¬ ((64 : Int32) < (3 : Int32)))).2.2.2 (by decide) (by decide) k) ?_
  show Go _ _ _ _ (s₁.setTop (mkF m 73 #[iv 64, iv 0, iv 3] []))
  obtain ⟨fs, hr, hrun, hended, hW, hsame⟩ := X0.leave (v := none) (fun _ => rfl)
  refine ⟨_, _, ?_, hrun, hended, _, _, rfl, ?_, ⟨_, rfl⟩, hW, hsame.mono (by decide) (by decide)⟩
  · exact X0.returnOut hx Bd.returns (hb hby d2_73) hr
  · show Q_rc_03 _ _ _ _ s₁.heap _
    rw [e0]
    exact ⟨rfl, N0, rfl⟩
def Q_bs0_030 (Z : State) (ax : Addr) (kx : ClassId) (key : Int32) (x0 : Int32) (x1 : Int32) (x2 : Int32) (h0 : Heap) (n0 : Nat) (vR : Option Value) (h : Heap) (L : List Loc) : Prop := ∃ (r : Int32), vR = some (.int r) ∧ Fr n0 L ∧ h = h0 ∧ (r = (0 : Int32) ∨ r = (-1 : Int32))
theorem ef_bs0_030 (m : MethodId) (x0 : Addr) (x1 : Int32) (x2 : Int32) (x3 : Int32) : entryFrame m #[(.ref x0), (.int x1), (.int x2), (.int x3)] 8 = mkF m 0 #[.val (.ref x0), .val (.int x1), .val (.int x2), .val (.int x3), .unset, .unset, .unset, .unset] [] := by first | (simp [entryFrame, mkF, argsToLocals, Value.category]; done) | rfl
set_option maxRecDepth 65536 in
set_option maxHeartbeats 40000000 in
theorem rm_bs0_030 (l : Launch) (Z : State) (a0 : Array Value) (hw : ∀ d ∈ tables_1, d.before a0 Z = true) (ws : List Jvm.Cond) (ax : Addr) (kx : ClassId) (key : Int32) (x0 : Int32) (x1 : Int32) (x2 : Int32) (h0 : Heap) (n0 : Nat) (Z0 : n0 ≤ h0.size) (H0 : Arv Z h0 ax kx .int (64 : Int32) [(.int x0), (.int x1), (.int x2)] (.int (0 : Int32))) (s0 : x0 < x1) (s1 : x1 < x2) (hr : ¬ (x0 < key)) :
    MetFree l (⟨"java/util/Arrays", "binarySearch0", "([IIII)I"⟩ : MethodName) (head1 (Jvm.Cond.code (⟨"java/util/Arrays", "binarySearch0", "([IIII)I"⟩ : MethodName) jdk_65_method_59_code 8 (some .int) :: ws) ({ frames := 0, cells := 0, slots := 0, locals := 0 } : Room)) (fun a U => a = #[(.ref ax), (.int 0), (.int 3), (.int key)] ∧ Z.Warmed39 U.vm ∧ U.heap = h0) (fun _ _ _ _ _ => True) (fun _ U o U' => ∃ v L, o = .returned v ∧ Q_bs0_030 Z ax kx key x0 x1 x2 h0 n0 v U'.heap L ∧ FrameEnd U o U' L ({ frames := 0, cells := 0, slots := 0, locals := 0 } : Room).cells ({ frames := 0, cells := 0, slots := 0, locals := 0 } : Room).slots) := by
  refine MetFree.of_bodySF (plainFor_of_name pn_java_util_Arrays) hisR ?_
  intro p e s m args below meth c s₁ Bd hml0 hP hK
  obtain ⟨rfl, hZ, hh⟩ := hP
  have hx := Bd.exec
  have hby := Bd.bytes
  have hml : c.maxLocals = 8 := hml0
  have hown : s.vm.findClass "java/util/Arrays" = some m.cls := findClass_of_methodNamed Bd.named
  have hnm := (name_of_methodNamed Bd.named Bd.method).1
  have X0 : Stand p l e ({ frames := 0, cells := 0, slots := 0, locals := 0 } : Room) s m #[(.ref ax), (.int 0), (.int 3), (.int key)] below meth c s₁ [] 0 0 := Stand.of_body Bd
  have e0 : s₁.heap = h0 := by rw [← hh, Bd.state]; rfl
  have N0 := Fr.nil n0
  refine go_st (fun t k => castTop (ef_bs0_030 m ax (0 : Int32) (3 : Int32) key) k) ?_
  show Go _ _ _ _ (s₁.setTop (mkF m 0 #[rv ax, iv 0, iv 3, iv key, .unset, .unset, .unset, .unset] []))
  refine go_st (fun t k => XS.iloadN X0.here hx rfl (hb hby d3_0) rfl k) ?_
  refine go_st (fun t k => XS.istore X0.here hx rfl (hb hby d3_1) rfl (l' := #[rv ax, iv 0, iv 3, iv key, iv 0, .unset, .unset, .unset]) rfl k) ?_
  refine go_st (fun t k => XS.iloadN X0.here hx rfl (hb hby d3_3) rfl k) ?_
  refine go_st (fun t k => XS.iconst X0.here hx rfl (hb hby d3_4) k) ?_
  show Go _ _ _ _ (s₁.setTop (mkF m 5 #[rv ax, iv 0, iv 3, iv key, iv 0, .unset, .unset, .unset] [(.int 1), (.int 3)]))
  refine go_st (fun t k => XS.isub X0.here hx rfl (hb hby d3_5) rfl k) ?_
  rw [show ((3 : Int32) - (1 : Int32)) = (2 : Int32) from by decide]
  show Go _ _ _ _ (s₁.setTop (mkF m 6 #[rv ax, iv 0, iv 3, iv key, iv 0, .unset, .unset, .unset] [(.int 2)]))
  refine go_st (fun t k => XS.istore X0.here hx rfl (hb hby d3_6) rfl (l' := #[rv ax, iv 0, iv 3, iv key, iv 0, iv 2, .unset, .unset]) rfl k) ?_
  refine go_st (fun t k => XS.iload X0.here hx rfl (hb hby d3_8) rfl k) ?_
  refine go_st (fun t k => XS.iload X0.here hx rfl (hb hby d3_10) rfl k) ?_
  show Go _ _ _ _ (s₁.setTop (mkF m 12 #[rv ax, iv 0, iv 3, iv key, iv 0, iv 2, .unset, .unset] [(.int 2), (.int 0)]))
  refine go_st (fun t k => XS.icmpNo X0.here hx rfl (hb hby d3_12) rfl (flt ((by decide) : ¬ ((2 : Int32) < (0 : Int32)))).2.2.1 k) ?_
  show Go _ _ _ _ (s₁.setTop (mkF m 15 #[rv ax, iv 0, iv 3, iv key, iv 0, iv 2, .unset, .unset] []))
  refine go_st (fun t k => XS.iload X0.here hx rfl (hb hby d3_15) rfl k) ?_
  refine go_st (fun t k => XS.iload X0.here hx rfl (hb hby d3_17) rfl k) ?_
  show Go _ _ _ _ (s₁.setTop (mkF m 19 #[rv ax, iv 0, iv 3, iv key, iv 0, iv 2, .unset, .unset] [(.int 2), (.int 0)]))
  refine go_st (fun t k => XS.iadd X0.here hx rfl (hb hby d3_19) rfl k) ?_
  rw [show ((0 : Int32) + (2 : Int32)) = (2 : Int32) from by decide]
  show Go _ _ _ _ (s₁.setTop (mkF m 20 #[rv ax, iv 0, iv 3, iv key, iv 0, iv 2, .unset, .unset] [(.int 2)]))
  refine go_st (fun t k => XS.iconst X0.here hx rfl (hb hby d3_20) k) ?_
  show Go _ _ _ _ (s₁.setTop (mkF m 21 #[rv ax, iv 0, iv 3, iv key, iv 0, iv 2, .unset, .unset] [(.int 1), (.int 2)]))
  refine go_st (fun t k => XS.iushr X0.here hx rfl (hb hby d3_21) rfl k) ?_
  rw [show (((2 : Int32)).toUInt32 >>> ((1 : Int32) &&& 31).toUInt32).toInt32 = (1 : Int32) from by decide]
  show Go _ _ _ _ (s₁.setTop (mkF m 22 #[rv ax, iv 0, iv 3, iv key, iv 0, iv 2, .unset, .unset] [(.int 1)]))
  refine go_st (fun t k => XS.istore X0.here hx rfl (hb hby d3_22) rfl (l' := #[rv ax, iv 0, iv 3, iv key, iv 0, iv 2, iv 1, .unset]) rfl k) ?_
  refine go_st (fun t k => XS.aloadN X0.here hx rfl (hb hby d3_24) rfl rfl k) ?_
  refine go_st (fun t k => XS.iload X0.here hx rfl (hb hby d3_25) rfl k) ?_
  show Go _ _ _ _ (s₁.setTop (mkF m 27 #[rv ax, iv 0, iv 3, iv key, iv 0, iv 2, iv 1, .unset] [(.int 1), (.ref ax)]))
  obtain ⟨zc1, zA1, zq1, zS1, zN1, zH1, zG1⟩ := id H0
  have hin1 : ¬ ((1 : Int32) < 0 ∨ zc1.slots.size ≤ ((1 : Int32)).toNatClampNeg) := inb_of zS1 ⟨by decide, by decide⟩
  have hat1 : zc1.slots[((1 : Int32)).toNatClampNeg]? = some (.int x1) := Has.at zH1 hin1 rfl
  refine go_st (fun t k => X0.iaload hx (j := (1 : Int32)) (v := (.int x1)) (by rw [e0]; exact zA1.1) (State.isArrayOf_alike hZ.alike zA1.2.1) zA1.2.2 hin1 hat1 (g := (mkF m 27 #[rv ax, iv 0, iv 3, iv key, iv 0, iv 2, iv 1, .unset] [(.int 1), (.ref ax)])) rfl rfl (hb hby d3_27) t k) ?_
  refine go_st (fun t k => XS.istore X0.here hx rfl (hb hby d3_28) rfl (l' := #[rv ax, iv 0, iv 3, iv key, iv 0, iv 2, iv 1, iv x1]) rfl k) ?_
  refine go_st (fun t k => XS.iload X0.here hx rfl (hb hby d3_30) rfl k) ?_
  refine go_st (fun t k => XS.iloadN X0.here hx rfl (hb hby d3_32) rfl k) ?_
  show Go _ _ _ _ (s₁.setTop (mkF m 33 #[rv ax, iv 0, iv 3, iv key, iv 0, iv 2, iv 1, iv x1] [(.int key), (.int x1)]))
  refine go_st (fun t k => XS.icmpYes X0.here hx rfl (pc0 := 33) (pc' := 45) rfl (hb hby d3_33) rfl (flt ((pl_as (pl_lt (Int.lt_of_le_of_lt (pl_nof hr) (pl_of s0)))) : ¬ (x1 < key))).2.1 (by decide) (by decide) k) ?_
  show Go _ _ _ _ (s₁.setTop (mkF m 45 #[rv ax, iv 0, iv 3, iv key, iv 0, iv 2, iv 1, iv x1] []))
  refine go_st (fun t k => XS.iload X0.here hx rfl (hb hby d3_45) rfl k) ?_
  refine go_st (fun t k => XS.iloadN X0.here hx rfl (hb hby d3_47) rfl k) ?_
  show Go _ _ _ _ (s₁.setTop (mkF m 48 #[rv ax, iv 0, iv 3, iv key, iv 0, iv 2, iv 1, iv x1] [(.int key), (.int x1)]))
  refine go_st (fun t k => XS.icmpNo X0.here hx rfl (hb hby d3_48) rfl (tlt (pl_lt (Int.lt_of_le_of_lt (pl_nof hr) (pl_of s0)) : key < x1)).2.2.2 k) ?_
  show Go _ _ _ _ (s₁.setTop (mkF m 51 #[rv ax, iv 0, iv 3, iv key, iv 0, iv 2, iv 1, iv x1] []))
  refine go_st (fun t k => XS.iload X0.here hx rfl (hb hby d3_51) rfl k) ?_
  refine go_st (fun t k => XS.iconst X0.here hx rfl (hb hby d3_53) k) ?_
  show Go _ _ _ _ (s₁.setTop (mkF m 54 #[rv ax, iv 0, iv 3, iv key, iv 0, iv 2, iv 1, iv x1] [(.int 1), (.int 1)]))
  refine go_st (fun t k => XS.isub X0.here hx rfl (hb hby d3_54) rfl k) ?_
  rw [show ((1 : Int32) - (1 : Int32)) = (0 : Int32) from by decide]
  show Go _ _ _ _ (s₁.setTop (mkF m 55 #[rv ax, iv 0, iv 3, iv key, iv 0, iv 2, iv 1, iv x1] [(.int 0)]))
  refine go_st (fun t k => XS.istore X0.here hx rfl (hb hby d3_55) rfl (l' := #[rv ax, iv 0, iv 3, iv key, iv 0, iv 0, iv 1, iv x1]) rfl k) ?_
  refine go_st (fun t k => XS.goto X0.here hx rfl (pc0 := 57) (pc' := 63) rfl (hb hby d3_57) (by decide) (by decide) k) ?_
  show Go _ _ _ _ (s₁.setTop (mkF m 63 #[rv ax, iv 0, iv 3, iv key, iv 0, iv 0, iv 1, iv x1] []))
  refine go_st (fun t k => XS.goto X0.here hx rfl (pc0 := 63) (pc' := 8) rfl (hb hby d3_63) (by decide) (by decide) k) ?_
  show Go _ _ _ _ (s₁.setTop (mkF m 8 #[rv ax, iv 0, iv 3, iv key, iv 0, iv 0, iv 1, iv x1] []))
  refine go_st (fun t k => XS.iload X0.here hx rfl (hb hby d3_8) rfl k) ?_
  refine go_st (fun t k => XS.iload X0.here hx rfl (hb hby d3_10) rfl k) ?_
  show Go _ _ _ _ (s₁.setTop (mkF m 12 #[rv ax, iv 0, iv 3, iv key, iv 0, iv 0, iv 1, iv x1] [(.int 0), (.int 0)]))
  refine go_st (fun t k => XS.icmpNo X0.here hx rfl (hb hby d3_12) rfl (flt ((by decide) : ¬ ((0 : Int32) < (0 : Int32)))).2.2.1 k) ?_
  show Go _ _ _ _ (s₁.setTop (mkF m 15 #[rv ax, iv 0, iv 3, iv key, iv 0, iv 0, iv 1, iv x1] []))
  refine go_st (fun t k => XS.iload X0.here hx rfl (hb hby d3_15) rfl k) ?_
  refine go_st (fun t k => XS.iload X0.here hx rfl (hb hby d3_17) rfl k) ?_
  show Go _ _ _ _ (s₁.setTop (mkF m 19 #[rv ax, iv 0, iv 3, iv key, iv 0, iv 0, iv 1, iv x1] [(.int 0), (.int 0)]))
  refine go_st (fun t k => XS.iadd X0.here hx rfl (hb hby d3_19) rfl k) ?_
  rw [show ((0 : Int32) + (0 : Int32)) = (0 : Int32) from by decide]
  show Go _ _ _ _ (s₁.setTop (mkF m 20 #[rv ax, iv 0, iv 3, iv key, iv 0, iv 0, iv 1, iv x1] [(.int 0)]))
  refine go_st (fun t k => XS.iconst X0.here hx rfl (hb hby d3_20) k) ?_
  show Go _ _ _ _ (s₁.setTop (mkF m 21 #[rv ax, iv 0, iv 3, iv key, iv 0, iv 0, iv 1, iv x1] [(.int 1), (.int 0)]))
  refine go_st (fun t k => XS.iushr X0.here hx rfl (hb hby d3_21) rfl k) ?_
  rw [show (((0 : Int32)).toUInt32 >>> ((1 : Int32) &&& 31).toUInt32).toInt32 = (0 : Int32) from by decide]
  show Go _ _ _ _ (s₁.setTop (mkF m 22 #[rv ax, iv 0, iv 3, iv key, iv 0, iv 0, iv 1, iv x1] [(.int 0)]))
  refine go_st (fun t k => XS.istore X0.here hx rfl (hb hby d3_22) rfl (l' := #[rv ax, iv 0, iv 3, iv key, iv 0, iv 0, iv 0, iv x1]) rfl k) ?_
  refine go_st (fun t k => XS.aloadN X0.here hx rfl (hb hby d3_24) rfl rfl k) ?_
  refine go_st (fun t k => XS.iload X0.here hx rfl (hb hby d3_25) rfl k) ?_
  show Go _ _ _ _ (s₁.setTop (mkF m 27 #[rv ax, iv 0, iv 3, iv key, iv 0, iv 0, iv 0, iv x1] [(.int 0), (.ref ax)]))
  obtain ⟨zc2, zA2, zq2, zS2, zN2, zH2, zG2⟩ := id H0
  have hin2 : ¬ ((0 : Int32) < 0 ∨ zc2.slots.size ≤ ((0 : Int32)).toNatClampNeg) := inb_of zS2 ⟨by decide, by decide⟩
  have hat2 : zc2.slots[((0 : Int32)).toNatClampNeg]? = some (.int x0) := Has.at zH2 hin2 rfl
  refine go_st (fun t k => X0.iaload hx (j := (0 : Int32)) (v := (.int x0)) (by rw [e0]; exact zA2.1) (State.isArrayOf_alike hZ.alike zA2.2.1) zA2.2.2 hin2 hat2 (g := (mkF m 27 #[rv ax, iv 0, iv 3, iv key, iv 0, iv 0, iv 0, iv x1] [(.int 0), (.ref ax)])) rfl rfl (hb hby d3_27) t k) ?_
  refine go_st (fun t k => XS.istore X0.here hx rfl (hb hby d3_28) rfl (l' := #[rv ax, iv 0, iv 3, iv key, iv 0, iv 0, iv 0, iv x0]) rfl k) ?_
  refine go_st (fun t k => XS.iload X0.here hx rfl (hb hby d3_30) rfl k) ?_
  refine go_st (fun t k => XS.iloadN X0.here hx rfl (hb hby d3_32) rfl k) ?_
  show Go _ _ _ _ (s₁.setTop (mkF m 33 #[rv ax, iv 0, iv 3, iv key, iv 0, iv 0, iv 0, iv x0] [(.int key), (.int x0)]))
  refine go_st (fun t k => XS.icmpYes X0.here hx rfl (pc0 := 33) (pc' := 45) rfl (hb hby d3_33) rfl (flt (hr : ¬ (x0 < key))).2.1 (by decide) (by decide) k) ?_
  show Go _ _ _ _ (s₁.setTop (mkF m 45 #[rv ax, iv 0, iv 3, iv key, iv 0, iv 0, iv 0, iv x0] []))
  refine go_st (fun t k => XS.iload X0.here hx rfl (hb hby d3_45) rfl k) ?_
  refine go_st (fun t k => XS.iloadN X0.here hx rfl (hb hby d3_47) rfl k) ?_
  show Go _ _ _ _ (s₁.setTop (mkF m 48 #[rv ax, iv 0, iv 3, iv key, iv 0, iv 0, iv 0, iv x0] [(.int key), (.int x0)]))
  by_cases hc3 : key < x0
  · skip
    refine go_st (fun t k => XS.icmpNo X0.here hx rfl (hb hby d3_48) rfl (tlt (hc3 : key < x0)).2.2.2 k) ?_
    show Go _ _ _ _ (s₁.setTop (mkF m 51 #[rv ax, iv 0, iv 3, iv key, iv 0, iv 0, iv 0, iv x0] []))
    refine go_st (fun t k => XS.iload X0.here hx rfl (hb hby d3_51) rfl k) ?_
    refine go_st (fun t k => XS.iconst X0.here hx rfl (hb hby d3_53) k) ?_
    show Go _ _ _ _ (s₁.setTop (mkF m 54 #[rv ax, iv 0, iv 3, iv key, iv 0, iv 0, iv 0, iv x0] [(.int 1), (.int 0)]))
    refine go_st (fun t k => XS.isub X0.here hx rfl (hb hby d3_54) rfl k) ?_
    rw [show ((0 : Int32) - (1 : Int32)) = (-1 : Int32) from by decide]
    show Go _ _ _ _ (s₁.setTop (mkF m 55 #[rv ax, iv 0, iv 3, iv key, iv 0, iv 0, iv 0, iv x0] [(.int (-1))]))
    refine go_st (fun t k => XS.istore X0.here hx rfl (hb hby d3_55) rfl (l' := #[rv ax, iv 0, iv 3, iv key, iv 0, iv (-1), iv 0, iv x0]) rfl k) ?_
    refine go_st (fun t k => XS.goto X0.here hx rfl (pc0 := 57) (pc' := 63) rfl (hb hby d3_57) (by decide) (by decide) k) ?_
    show Go _ _ _ _ (s₁.setTop (mkF m 63 #[rv ax, iv 0, iv 3, iv key, iv 0, iv (-1), iv 0, iv x0] []))
    refine go_st (fun t k => XS.goto X0.here hx rfl (pc0 := 63) (pc' := 8) rfl (hb hby d3_63) (by decide) (by decide) k) ?_
    show Go _ _ _ _ (s₁.setTop (mkF m 8 #[rv ax, iv 0, iv 3, iv key, iv 0, iv (-1), iv 0, iv x0] []))
    refine go_st (fun t k => XS.iload X0.here hx rfl (hb hby d3_8) rfl k) ?_
    refine go_st (fun t k => XS.iload X0.here hx rfl (hb hby d3_10) rfl k) ?_
    show Go _ _ _ _ (s₁.setTop (mkF m 12 #[rv ax, iv 0, iv 3, iv key, iv 0, iv (-1), iv 0, iv x0] [(.int (-1)), (.int 0)]))
    refine go_st (fun t k => XS.icmpYes X0.here hx rfl (pc0 := 12) (pc' := 66) rfl (hb hby d3_12) rfl (tlt ((by decide) : (-1 : Int32) < (0 : Int32))).2.2.1 (by decide) (by decide) k) ?_
    show Go _ _ _ _ (s₁.setTop (mkF m 66 #[rv ax, iv 0, iv 3, iv key, iv 0, iv (-1), iv 0, iv x0] []))
    refine go_st (fun t k => XS.iload X0.here hx rfl (hb hby d3_66) rfl k) ?_
    refine go_st (fun t k => XS.iconst X0.here hx rfl (hb hby d3_68) k) ?_
    show Go _ _ _ _ (s₁.setTop (mkF m 69 #[rv ax, iv 0, iv 3, iv key, iv 0, iv (-1), iv 0, iv x0] [(.int 1), (.int 0)]))
    refine go_st (fun t k => XS.iadd X0.here hx rfl (hb hby d3_69) rfl k) ?_
    rw [show ((0 : Int32) + (1 : Int32)) = (1 : Int32) from by decide]
    show Go _ _ _ _ (s₁.setTop (mkF m 70 #[rv ax, iv 0, iv 3, iv key, iv 0, iv (-1), iv 0, iv x0] [(.int 1)]))
    refine go_st (fun t k => XS.ineg X0.here hx rfl (hb hby d3_70) rfl k) ?_
    rw [show (-(1 : Int32)) = (-1 : Int32) from by decide]
    show Go _ _ _ _ (s₁.setTop (mkF m 71 #[rv ax, iv 0, iv 3, iv key, iv 0, iv (-1), iv 0, iv x0] [(.int (-1))]))
    obtain ⟨fs, hr, hrun, hended, hW, hsame⟩ := X0.leave (v := some (.int (-1))) (fun h => by rw [Bd.returns] at h; cases h)
    refine ⟨_, _, ?_, hrun, hended, _, _, rfl, ?_, ⟨_, rfl⟩, hW, hsame.mono (by decide) (by decide)⟩
    · exact retI X0 hx Bd.returns (hb hby d3_71) hr
    · show Q_bs0_030 _ _ _ _ _ _ _ _ _ _ s₁.heap _
      rw [e0]
      exact ⟨(-1 : Int32), rfl, N0, rfl, (Or.inr rfl)⟩
  · skip
    refine go_st (fun t k => XS.icmpYes X0.here hx rfl (pc0 := 48) (pc' := 60) rfl (hb hby d3_48) rfl (flt (hc3 : ¬ (key < x0))).2.2.2 (by decide) (by decide) k) ?_
    show Go _ _ _ _ (s₁.setTop (mkF m 60 #[rv ax, iv 0, iv 3, iv key, iv 0, iv 0, iv 0, iv x0] []))
    refine go_st (fun t k => XS.iload X0.here hx rfl (hb hby d3_60) rfl k) ?_
    show Go _ _ _ _ (s₁.setTop (mkF m 62 #[rv ax, iv 0, iv 3, iv key, iv 0, iv 0, iv 0, iv x0] [(.int 0)]))
    obtain ⟨fs, hr, hrun, hended, hW, hsame⟩ := X0.leave (v := some (.int 0)) (fun h => by rw [Bd.returns] at h; cases h)
    refine ⟨_, _, ?_, hrun, hended, _, _, rfl, ?_, ⟨_, rfl⟩, hW, hsame.mono (by decide) (by decide)⟩
    · exact retI X0 hx Bd.returns (hb hby d3_62) hr
    · show Q_bs0_030 _ _ _ _ _ _ _ _ _ _ s₁.heap _
      rw [e0]
      exact ⟨(0 : Int32), rfl, N0, rfl, (Or.inl rfl)⟩
def Q_bs_030 (Z : State) (ax : Addr) (kx : ClassId) (key : Int32) (x0 : Int32) (x1 : Int32) (x2 : Int32) (h0 : Heap) (n0 : Nat) (vR : Option Value) (h : Heap) (L : List Loc) : Prop := ∃ (r : Int32), vR = some (.int r) ∧ Fr n0 L ∧ h = h0 ∧ (r = (0 : Int32) ∨ r = (-1 : Int32))
theorem ef_bs_030 (m : MethodId) (x0 : Addr) (x1 : Int32) (x2 : Int32) (x3 : Int32) : entryFrame m #[(.ref x0), (.int x1), (.int x2), (.int x3)] 4 = mkF m 0 #[.val (.ref x0), .val (.int x1), .val (.int x2), .val (.int x3)] [] := by first | (simp [entryFrame, mkF, argsToLocals, Value.category]; done) | rfl
set_option maxRecDepth 65536 in
set_option maxHeartbeats 40000000 in
theorem rm_bs_030 (l : Launch) (Z : State) (a0 : Array Value) (hw : ∀ d ∈ tables_1, d.before a0 Z = true) (ws : List Jvm.Cond) (ax : Addr) (kx : ClassId) (key : Int32) (x0 : Int32) (x1 : Int32) (x2 : Int32) (h0 : Heap) (n0 : Nat) (Z0 : n0 ≤ h0.size) (H0 : Arv Z h0 ax kx .int (64 : Int32) [(.int x0), (.int x1), (.int x2)] (.int (0 : Int32))) (s0 : x0 < x1) (s1 : x1 < x2) (hr : ¬ (x0 < key)) :
    MetFree l (⟨"java/util/Arrays", "binarySearch", "([IIII)I"⟩ : MethodName) (head1 (Jvm.Cond.code (⟨"java/util/Arrays", "binarySearch", "([IIII)I"⟩ : MethodName) jdk_65_method_58_code 4 (some .int) :: ws) ({ frames := 1, cells := 0, slots := 0, locals := 19 } : Room)) (fun a U => a = #[(.ref ax), (.int 0), (.int 3), (.int key)] ∧ Z.Warmed39 U.vm ∧ U.heap = h0) (fun _ _ _ _ _ => True) (fun _ U o U' => ∃ v L, o = .returned v ∧ Q_bs_030 Z ax kx key x0 x1 x2 h0 n0 v U'.heap L ∧ FrameEnd U o U' L ({ frames := 1, cells := 0, slots := 0, locals := 19 } : Room).cells ({ frames := 1, cells := 0, slots := 0, locals := 19 } : Room).slots) := by
  refine MetFree.of_bodySF (plainFor_of_name pn_java_util_Arrays) hisR ?_
  intro p e s m args below meth c s₁ Bd hml0 hP hK
  obtain ⟨rfl, hZ, hh⟩ := hP
  have hx := Bd.exec
  have hby := Bd.bytes
  have hml : c.maxLocals = 4 := hml0
  have hown : s.vm.findClass "java/util/Arrays" = some m.cls := findClass_of_methodNamed Bd.named
  have hnm := (name_of_methodNamed Bd.named Bd.method).1
  have X0 : Stand p l e ({ frames := 1, cells := 0, slots := 0, locals := 19 } : Room) s m #[(.ref ax), (.int 0), (.int 3), (.int key)] below meth c s₁ [] 0 0 := Stand.of_body Bd
  have e0 : s₁.heap = h0 := by rw [← hh, Bd.state]; rfl
  have N0 := Fr.nil n0
  refine go_st (fun t k => castTop (ef_bs_030 m ax (0 : Int32) (3 : Int32) key) k) ?_
  show Go _ _ _ _ (s₁.setTop (mkF m 0 #[rv ax, iv 0, iv 3, iv key] []))
  refine go_st (fun t k => XS.aloadN X0.here hx rfl (hb hby d4_0) rfl rfl k) ?_
  show Go _ _ _ _ (s₁.setTop (mkF m 1 #[rv ax, iv 0, iv 3, iv key] [(.ref ax)]))
  obtain ⟨zc1, zA1, zq1, zS1, zN1, zH1, zG1⟩ := id H0
  refine go_st (fun t k => X0.arraylength hx (by rw [e0]; exact zA1.1) (State.isArrayOf_alike hZ.alike zA1.2.1) (g := (mkF m 1 #[rv ax, iv 0, iv 3, iv key] [(.ref ax)])) rfl rfl (hb hby d4_1) t k) ?_
  rw [len_of zS1 zN1]
  refine go_st (fun t k => XS.iloadN X0.here hx rfl (hb hby d4_2) rfl k) ?_
  refine go_st (fun t k => XS.iloadN X0.here hx rfl (hb hby d4_3) rfl k) ?_
  show Go _ _ _ _ (s₁.setTop (mkF m 4 #[rv ax, iv 0, iv 3, iv key] [(.int 3), (.int 0), (.int 64)]))
  obtain ⟨_, _, ⟨T2, L2, kk2, nn2⟩, -, X2, ⟨Lc2, hQ2, lq2, yq2, zq2⟩, st2⟩ := Jvm.LawKit.callS X0 hx (y := (⟨"java/util/Arrays", "rangeCheck", "(III)V"⟩ : MethodName)) hown (mvT hZ (w37 hw)) (mvT hZ (w38 hw)) (mvT hZ (w35 hw)) (mvT hZ (w39 hw)) (by decide) (backOf (W := 0) (rm_rc_03 l Z a0 hw []  h0 n0 (Nat.le_trans Z0 (Nat.le_refl _)) ) hZ (w39 hw) (w35 hw) (by decide) (by decide)) (g := (mkF m 4 #[rv ax, iv 0, iv 3, iv key] [(.int 3), (.int 0), (.int 64)])) rfl (by rw [hml]; rfl) (argsL := [(.int 64), (.int 0), (.int 3)]) (rest := []) (lenOf pd_0 rfl) rfl (by show 2 * 0 + _ ≤ _; exact Nat.le_of_eq rfl) (hb hby d4_4) (fun _ _ => ⟨rfl, e0, (by decide : 0 + 0 ≤ _), (by decide : 0 + 0 ≤ _)⟩)
  dsimp only [Pt.U, Pt.locs, Pt.cells, Pt.slots] at X2 lq2 yq2 zq2 st2 hQ2
  subst lq2 yq2 zq2
  obtain ⟨h2, e2⟩ : ∃ z, T2.heap = z := ⟨_, rfl⟩
  rw [e2] at hQ2
  obtain ⟨rfl, N2q, he2⟩ := hQ2
  have N2 := Fr.app N0 N2q
  rw [he2] at e2
  refine go_st st2 ?_
  show Go _ _ _ _ (T2.setTop (mkF m 7 #[rv ax, iv 0, iv 3, iv key] []))
  refine go_st (fun t k => XS.aloadN X2.here hx rfl (hb hby d4_7) rfl rfl k) ?_
  refine go_st (fun t k => XS.iloadN X2.here hx rfl (hb hby d4_8) rfl k) ?_
  refine go_st (fun t k => XS.iloadN X2.here hx rfl (hb hby d4_9) rfl k) ?_
  refine go_st (fun t k => XS.iloadN X2.here hx rfl (hb hby d4_10) rfl k) ?_
  show Go _ _ _ _ (T2.setTop (mkF m 11 #[rv ax, iv 0, iv 3, iv key] [(.int key), (.int 3), (.int 0), (.ref ax)]))
  obtain ⟨_, _, ⟨T3, L3, kk3, nn3⟩, -, X3, ⟨Lc3, hQ3, lq3, yq3, zq3⟩, st3⟩ := Jvm.LawKit.callS X2 hx (y := (⟨"java/util/Arrays", "binarySearch0", "([IIII)I"⟩ : MethodName)) hown (mvT hZ (w40 hw)) (mvT hZ (w41 hw)) (mvT hZ (w35 hw)) (mvT hZ (w42 hw)) (by decide) (backOf (W := 0) (rm_bs0_030 l Z a0 hw [] ax kx key x0 x1 x2 h0 n0 (Nat.le_trans Z0 (Nat.le_refl _)) H0 s0 s1 hr) hZ (w42 hw) (w35 hw) (by decide) (by decide)) (g := (mkF m 11 #[rv ax, iv 0, iv 3, iv key] [(.int key), (.int 3), (.int 0), (.ref ax)])) rfl (by rw [hml]; rfl) (argsL := [(.ref ax), (.int 0), (.int 3), (.int key)]) (rest := []) (lenOf pd_1 rfl) rfl (by show 2 * 0 + _ ≤ _; exact Nat.le_of_eq rfl) (hb hby d4_11) (fun _ _ => ⟨rfl, e2, (by decide : 0 + 0 ≤ _), (by decide : 0 + 0 ≤ _)⟩)
  dsimp only [Pt.U, Pt.locs, Pt.cells, Pt.slots] at X3 lq3 yq3 zq3 st3 hQ3
  subst lq3 yq3 zq3
  obtain ⟨h3, e3⟩ : ∃ z, T3.heap = z := ⟨_, rfl⟩
  rw [e3] at hQ3
  obtain ⟨r_3, rfl, N3q, he3, hres_3⟩ := hQ3
  have N3 := Fr.app N2 N3q
  rw [he3] at e3
  refine go_st st3 ?_
  show Go _ _ _ _ (T3.setTop (mkF m 14 #[rv ax, iv 0, iv 3, iv key] [(.int r_3)]))
  obtain ⟨fs, hr, hrun, hended, hW, hsame⟩ := X3.leave (v := some (.int r_3)) (fun h => by rw [Bd.returns] at h; cases h)
  refine ⟨_, _, ?_, hrun, hended, _, _, rfl, ?_, ⟨_, rfl⟩, hW, hsame.mono (by decide) (by decide)⟩
  · exact retI X3 hx Bd.returns (hb hby d4_14) hr
  · show Q_bs_030 _ _ _ _ _ _ _ _ _ _ T3.heap _
    rw [e3]
    exact ⟨r_3, rfl, N3, rfl, hres_3⟩
def Q_lb_030 (Z : State) (a1 : Addr) (ax : Addr) (al : Addr) (kx : ClassId) (kl : ClassId) (key : Int32) (line : Int32) (x0 : Int32) (x1 : Int32) (x2 : Int32) (l0 : Int32) (l1 : Int32) (l2 : Int32) (h0 : Heap) (n0 : Nat) (vR : Option Value) (h : Heap) (L : List Loc) : Prop := vR = some (.int line) ∧ Fr n0 L ∧ Keep h0 h [a1] ∧ (Exa Z h a1 cBE) ∧ (Fld Z h a1 cBE "indexes" "[I" (.ref ax)) ∧ (Fld Z h a1 cBE "lines" "[I" (.ref al)) ∧ (Fld Z h a1 cBE "first" "I" (.int 0)) ∧ (Fld Z h a1 cBE "count" "I" (.int 3)) ∧ (Arv Z h ax kx .int (64 : Int32) [(.int x0), (.int x1), (.int x2)] (.int (0 : Int32))) ∧ (Arv Z h al kl .int (64 : Int32) [(.int l0), (.int l1), (.int l2)] (.int (0 : Int32)))
theorem ef_lb_030 (m : MethodId) (x0 : Addr) (x1 : Int32) (x2 : Int32) : entryFrame m #[(.ref x0), (.int x1), (.int x2)] 6 = mkF m 0 #[.val (.ref x0), .val (.int x1), .val (.int x2), .unset, .unset, .unset] [] := by first | (simp [entryFrame, mkF, argsToLocals, Value.category]; done) | rfl
set_option maxRecDepth 65536 in
set_option maxHeartbeats 40000000 in
theorem rm_lb_030 (l : Launch) (Z : State) (a0 : Array Value) (hw : ∀ d ∈ tables_1, d.before a0 Z = true) (ws : List Jvm.Cond) (a1 : Addr) (ax : Addr) (al : Addr) (kx : ClassId) (kl : ClassId) (key : Int32) (line : Int32) (x0 : Int32) (x1 : Int32) (x2 : Int32) (l0 : Int32) (l1 : Int32) (l2 : Int32) (h0 : Heap) (n0 : Nat) (Z0 : n0 ≤ h0.size) (H0 : Exa Z h0 a1 cBE) (H1 : Fld Z h0 a1 cBE "indexes" "[I" (.ref ax)) (H2 : Fld Z h0 a1 cBE "lines" "[I" (.ref al)) (H3 : Fld Z h0 a1 cBE "first" "I" (.int 0)) (H4 : Fld Z h0 a1 cBE "count" "I" (.int 3)) (H5 : Arv Z h0 ax kx .int (64 : Int32) [(.int x0), (.int x1), (.int x2)] (.int (0 : Int32))) (H6 : Arv Z h0 al kl .int (64 : Int32) [(.int l0), (.int l1), (.int l2)] (.int (0 : Int32))) (ne_a1_ax : a1 ≠ ax) (ne_a1_al : a1 ≠ al) (ne_ax_al : ax ≠ al) (g_a1 : n0 ≤ a1) (s0 : x0 < x1) (s1 : x1 < x2) (hr : ¬ (x0 < key)) :
    MetFree l (⟨"com/example/nudge/nudge/tree/BlockEntries", "lineBefore", "(II)I"⟩ : MethodName) (head1 (Jvm.Cond.code (⟨"com/example/nudge/nudge/tree/BlockEntries", "lineBefore", "(II)I"⟩ : MethodName) prog_17_method_3_code 6 (some .int) :: ws) ({ frames := 2, cells := 0, slots := 0, locals := 34 } : Room)) (fun a U => a = #[(.ref a1), (.int key), (.int line)] ∧ Z.Warmed39 U.vm ∧ U.heap = h0) (fun _ _ _ _ _ => True) (fun _ U o U' => ∃ v L, o = .returned v ∧ Q_lb_030 Z a1 ax al kx kl key line x0 x1 x2 l0 l1 l2 h0 n0 v U'.heap L ∧ FrameEnd U o U' L ({ frames := 2, cells := 0, slots := 0, locals := 34 } : Room).cells ({ frames := 2, cells := 0, slots := 0, locals := 34 } : Room).slots) := by
  refine MetFree.of_bodySF (plainFor_of_name pn_com_example_nudge_nudge_tree_BlockEntries) hisR ?_
  intro p e s m args below meth c s₁ Bd hml0 hP hK
  obtain ⟨rfl, hZ, hh⟩ := hP
  have hx := Bd.exec
  have hby := Bd.bytes
  have hml : c.maxLocals = 6 := hml0
  have hown : s.vm.findClass "com/example/nudge/nudge/tree/BlockEntries" = some m.cls := findClass_of_methodNamed Bd.named
  have hnm := (name_of_methodNamed Bd.named Bd.method).1
  have X0 : Stand p l e ({ frames := 2, cells := 0, slots := 0, locals := 34 } : Room) s m #[(.ref a1), (.int key), (.int line)] below meth c s₁ [] 0 0 := Stand.of_body Bd
  have e0 : s₁.heap = h0 := by rw [← hh, Bd.state]; rfl
  have N0 := Fr.nil n0
  refine go_st (fun t k => castTop (ef_lb_030 m a1 key line) k) ?_
  show Go _ _ _ _ (s₁.setTop (mkF m 0 #[rv a1, iv key, iv line, .unset, .unset, .unset] []))
  refine go_st (fun t k => XS.aloadN X0.here hx rfl (hb hby d5_0) rfl rfl k) ?_
  show Go _ _ _ _ (s₁.setTop (mkF m 1 #[rv a1, iv key, iv line, .unset, .unset, .unset] [(.ref a1)]))
  obtain ⟨T1, X1, e1, st1⟩ := getF X0 hx hZ hown (host := "") (Or.inl (w15 hw)) Via.refl e0 H1 (g := (mkF m 1 #[rv a1, iv key, iv line, .unset, .unset, .unset] [(.ref a1)])) rfl rfl (hb hby d5_1)
  refine go_st (fun t k => st1 t k) ?_
  refine go_st (fun t k => XS.aloadN X1.here hx rfl (hb hby d5_4) rfl rfl k) ?_
  show Go _ _ _ _ (T1.setTop (mkF m 5 #[rv a1, iv key, iv line, .unset, .unset, .unset] [(.ref a1), (.ref ax)]))
  obtain ⟨T2, X2, e2, st2⟩ := getF X1 hx hZ hown (host := "") (Or.inl (w31 hw)) Via.refl e1 H3 (g := (mkF m 5 #[rv a1, iv key, iv line, .unset, .unset, .unset] [(.ref a1), (.ref ax)])) rfl rfl (hb hby d5_5)
  refine go_st (fun t k => st2 t k) ?_
  refine go_st (fun t k => XS.aloadN X2.here hx rfl (hb hby d5_8) rfl rfl k) ?_
  show Go _ _ _ _ (T2.setTop (mkF m 9 #[rv a1, iv key, iv line, .unset, .unset, .unset] [(.ref a1), (.int 0), (.ref ax)]))
  obtain ⟨T3, X3, e3, st3⟩ := getF X2 hx hZ hown (host := "") (Or.inl (w24 hw)) Via.refl e2 H4 (g := (mkF m 9 #[rv a1, iv key, iv line, .unset, .unset, .unset] [(.ref a1), (.int 0), (.ref ax)])) rfl rfl (hb hby d5_9)
  refine go_st (fun t k => st3 t k) ?_
  refine go_st (fun t k => XS.iloadN X3.here hx rfl (hb hby d5_12) rfl k) ?_
  show Go _ _ _ _ (T3.setTop (mkF m 13 #[rv a1, iv key, iv line, .unset, .unset, .unset] [(.int key), (.int 3), (.int 0), (.ref ax)]))
  obtain ⟨_, _, ⟨T4, L4, kk4, nn4⟩, -, X4, ⟨Lc4, hQ4, lq4, yq4, zq4⟩, st4⟩ := Jvm.LawKit.callS X3 hx (y := (⟨"java/util/Arrays", "binarySearch", "([IIII)I"⟩ : MethodName)) hown (mvT hZ (w33 hw)) (mvT hZ (w34 hw)) (mvT hZ (w35 hw)) (mvT hZ (w36 hw)) (by decide) (backOf (W := 0) (rm_bs_030 l Z a0 hw [] ax kx key x0 x1 x2 h0 n0 (Nat.le_trans Z0 (Nat.le_refl _)) H5 s0 s1 hr) hZ (w36 hw) (w35 hw) (by decide) (by decide)) (g := (mkF m 13 #[rv a1, iv key, iv line, .unset, .unset, .unset] [(.int key), (.int 3), (.int 0), (.ref ax)])) rfl (by rw [hml]; rfl) (argsL := [(.ref ax), (.int 0), (.int 3), (.int key)]) (rest := []) (lenOf pd_1 rfl) rfl (by show 2 * 0 + _ ≤ _; exact Nat.le_of_eq rfl) (hb hby d5_13) (fun _ _ => ⟨rfl, e3, (by decide : 0 + 0 ≤ _), (by decide : 0 + 0 ≤ _)⟩)
  dsimp only [Pt.U, Pt.locs, Pt.cells, Pt.slots] at X4 lq4 yq4 zq4 st4 hQ4
  subst lq4 yq4 zq4
  obtain ⟨h4, e4⟩ : ∃ z, T4.heap = z := ⟨_, rfl⟩
  rw [e4] at hQ4
  obtain ⟨r_4, rfl, N4q, he4, hres_4⟩ := hQ4
  have N4 := Fr.app N0 N4q
  rw [he4] at e4
  refine go_st st4 ?_
  show Go _ _ _ _ (T4.setTop (mkF m 16 #[rv a1, iv key, iv line, .unset, .unset, .unset] [(.int r_4)]))
  rcases hres_4 with rfl | rfl
  · skip
    show Go _ _ _ _ (T4.setTop (mkF m 16 #[rv a1, iv key, iv line, .unset, .unset, .unset] [(.int 0)]))
    refine go_st (fun t k => XS.istoreN X4.here hx rfl (hb hby d5_16) rfl (l' := #[rv a1, iv key, iv line, iv 0, .unset, .unset]) rfl k) ?_
    refine go_st (fun t k => XS.iloadN X4.here hx rfl (hb hby d5_17) rfl k) ?_
    show Go _ _ _ _ (T4.setTop (mkF m 18 #[rv a1, iv key, iv line, iv 0, .unset, .unset] [(.int 0)]))
    refine go_st (fun t k => XS.ifNo X4.here hx rfl (hb hby d5_18) rfl ((if0 _ _).trans (flt ((by decide) : ¬ ((0 : Int32) < (0 : Int32)))).1) k) ?_
    show Go _ _ _ _ (T4.setTop (mkF m 21 #[rv a1, iv key, iv line, iv 0, .unset, .unset] []))
    refine go_st (fun t k => XS.iloadN X4.here hx rfl (hb hby d5_21) rfl k) ?_
    refine go_st (fun t k => XS.goto X4.here hx rfl (pc0 := 22) (pc' := 29) rfl (hb hby d5_22) (by decide) (by decide) k) ?_
    show Go _ _ _ _ (T4.setTop (mkF m 29 #[rv a1, iv key, iv line, iv 0, .unset, .unset] [(.int 0)]))
    refine go_st (fun t k => XS.iconst X4.here hx rfl (hb hby d5_29) k) ?_
    show Go _ _ _ _ (T4.setTop (mkF m 30 #[rv a1, iv key, iv line, iv 0, .unset, .unset] [(.int 1), (.int 0)]))
    refine go_st (fun t k => XS.isub X4.here hx rfl (hb hby d5_30) rfl k) ?_
    rw [show ((0 : Int32) - (1 : Int32)) = (-1 : Int32) from by decide]
    show Go _ _ _ _ (T4.setTop (mkF m 31 #[rv a1, iv key, iv line, iv 0, .unset, .unset] [(.int (-1))]))
    refine go_st (fun t k => XS.istore X4.here hx rfl (hb hby d5_31) rfl (l' := #[rv a1, iv key, iv line, iv 0, iv (-1), .unset]) rfl k) ?_
    refine go_st (fun t k => XS.iloadN X4.here hx rfl (hb hby d5_33) rfl k) ?_
    refine go_st (fun t k => XS.istore X4.here hx rfl (hb hby d5_34) rfl (l' := #[rv a1, iv key, iv line, iv 0, iv (-1), iv line]) rfl k) ?_
    refine go_st (fun t k => XS.iload X4.here hx rfl (hb hby d5_36) rfl k) ?_
    refine go_st (fun t k => XS.aloadN X4.here hx rfl (hb hby d5_38) rfl rfl k) ?_
    show Go _ _ _ _ (T4.setTop (mkF m 39 #[rv a1, iv key, iv line, iv 0, iv (-1), iv line] [(.ref a1), (.int (-1))]))
    obtain ⟨T5, X5, e5, st5⟩ := getF X4 hx hZ hown (host := "") (Or.inl (w31 hw)) Via.refl e4 H3 (g := (mkF m 39 #[rv a1, iv key, iv line, iv 0, iv (-1), iv line] [(.ref a1), (.int (-1))])) rfl rfl (hb hby d5_39)
    refine go_st (fun t k => st5 t k) ?_
    show Go _ _ _ _ (T5.setTop (mkF m 42 #[rv a1, iv key, iv line, iv 0, iv (-1), iv line] [(.int 0), (.int (-1))]))
    refine go_st (fun t k => XS.icmpYes X5.here hx rfl (pc0 := 42) (pc' := 60) rfl (hb hby d5_42) rfl (tlt ((by decide) : (-1 : Int32) < (0 : Int32))).1 (by decide) (by decide) k) ?_
    show Go _ _ _ _ (T5.setTop (mkF m 60 #[rv a1, iv key, iv line, iv 0, iv (-1), iv line] []))
    refine go_st (fun t k => XS.iload X5.here hx rfl (hb hby d5_60) rfl k) ?_
    show Go _ _ _ _ (T5.setTop (mkF m 62 #[rv a1, iv key, iv line, iv 0, iv (-1), iv line] [(.int line)]))
    obtain ⟨fs, hr, hrun, hended, hW, hsame⟩ := X5.leave (v := some (.int line)) (fun h => by rw [Bd.returns] at h; cases h)
    refine ⟨_, _, ?_, hrun, hended, _, _, rfl, ?_, ⟨_, rfl⟩, hW, hsame.mono (by decide) (by decide)⟩
    · exact retI X5 hx Bd.returns (hb hby d5_62) hr
    · show Q_lb_030 _ _ _ _ _ _ _ _ _ _ _ _ _ _ _ _ _ T5.heap _
      rw [e5]
      exact ⟨rfl, N4, (Keep.refl h0 [a1]), H0, H1, H2, H3, H4, H5, H6⟩
  · skip
    show Go _ _ _ _ (T4.setTop (mkF m 16 #[rv a1, iv key, iv line, .unset, .unset, .unset] [(.int (-1))]))
    refine go_st (fun t k => XS.istoreN X4.here hx rfl (hb hby d5_16) rfl (l' := #[rv a1, iv key, iv line, iv (-1), .unset, .unset]) rfl k) ?_
    refine go_st (fun t k => XS.iloadN X4.here hx rfl (hb hby d5_17) rfl k) ?_
    show Go _ _ _ _ (T4.setTop (mkF m 18 #[rv a1, iv key, iv line, iv (-1), .unset, .unset] [(.int (-1))]))
    refine go_st (fun t k => XS.ifYes X4.here hx rfl (pc0 := 18) (pc' := 25) rfl (hb hby d5_18) rfl ((if0 _ _).trans (tlt ((by decide) : (-1 : Int32) < (0 : Int32))).1) (by decide) (by decide) k) ?_
    show Go _ _ _ _ (T4.setTop (mkF m 25 #[rv a1, iv key, iv line, iv (-1), .unset, .unset] []))
    refine go_st (fun t k => XS.iloadN X4.here hx rfl (hb hby d5_25) rfl k) ?_
    show Go _ _ _ _ (T4.setTop (mkF m 26 #[rv a1, iv key, iv line, iv (-1), .unset, .unset] [(.int (-1))]))
    refine go_st (fun t k => XS.ineg X4.here hx rfl (hb hby d5_26) rfl k) ?_
    rw [show (-(-1 : Int32)) = (1 : Int32) from by decide]
    show Go _ _ _ _ (T4.setTop (mkF m 27 #[rv a1, iv key, iv line, iv (-1), .unset, .unset] [(.int 1)]))
    refine go_st (fun t k => XS.iconst X4.here hx rfl (hb hby d5_27) k) ?_
    show Go _ _ _ _ (T4.setTop (mkF m 28 #[rv a1, iv key, iv line, iv (-1), .unset, .unset] [(.int 1), (.int 1)]))
    refine go_st (fun t k => XS.isub X4.here hx rfl (hb hby d5_28) rfl k) ?_
    rw [show ((1 : Int32) - (1 : Int32)) = (0 : Int32) from by decide]
    show Go _ _ _ _ (T4.setTop (mkF m 29 #[rv a1, iv key, iv line, iv (-1), .unset, .unset] [(.int 0)]))
    refine go_st (fun t k => XS.iconst X4.here hx rfl (hb hby d5_29) k) ?_
    show Go _ _ _ _ (T4.setTop (mkF m 30 #[rv a1, iv key, iv line, iv (-1), .unset, .unset] [(.int 1), (.int 0)]))
    refine go_st (fun t k => XS.isub X4.here hx rfl (hb hby d5_30) rfl k) ?_
    rw [show ((0 : Int32) - (1 : Int32)) = (-1 : Int32) from by decide]
    show Go _ _ _ _ (T4.setTop (mkF m 31 #[rv a1, iv key, iv line, iv (-1), .unset, .unset] [(.int (-1))]))
    refine go_st (fun t k => XS.istore X4.here hx rfl (hb hby d5_31) rfl (l' := #[rv a1, iv key, iv line, iv (-1), iv (-1), .unset]) rfl k) ?_
    refine go_st (fun t k => XS.iloadN X4.here hx rfl (hb hby d5_33) rfl k) ?_
    refine go_st (fun t k => XS.istore X4.here hx rfl (hb hby d5_34) rfl (l' := #[rv a1, iv key, iv line, iv (-1), iv (-1), iv line]) rfl k) ?_
    refine go_st (fun t k => XS.iload X4.here hx rfl (hb hby d5_36) rfl k) ?_
    refine go_st (fun t k => XS.aloadN X4.here hx rfl (hb hby d5_38) rfl rfl k) ?_
    show Go _ _ _ _ (T4.setTop (mkF m 39 #[rv a1, iv key, iv line, iv (-1), iv (-1), iv line] [(.ref a1), (.int (-1))]))
    obtain ⟨T6, X6, e6, st6⟩ := getF X4 hx hZ hown (host := "") (Or.inl (w31 hw)) Via.refl e4 H3 (g := (mkF m 39 #[rv a1, iv key, iv line, iv (-1), iv (-1), iv line] [(.ref a1), (.int (-1))])) rfl rfl (hb hby d5_39)
    refine go_st (fun t k => st6 t k) ?_
    show Go _ _ _ _ (T6.setTop (mkF m 42 #[rv a1, iv key, iv line, iv (-1), iv (-1), iv line] [(.int 0), (.int (-1))]))
    refine go_st (fun t k => XS.icmpYes X6.here hx rfl (pc0 := 42) (pc' := 60) rfl (hb hby d5_42) rfl (tlt ((by decide) : (-1 : Int32) < (0 : Int32))).1 (by decide) (by decide) k) ?_
    show Go _ _ _ _ (T6.setTop (mkF m 60 #[rv a1, iv key, iv line, iv (-1), iv (-1), iv line] []))
    refine go_st (fun t k => XS.iload X6.here hx rfl (hb hby d5_60) rfl k) ?_
    show Go _ _ _ _ (T6.setTop (mkF m 62 #[rv a1, iv key, iv line, iv (-1), iv (-1), iv line] [(.int line)]))
    obtain ⟨fs, hr, hrun, hended, hW, hsame⟩ := X6.leave (v := some (.int line)) (fun h => by rw [Bd.returns] at h; cases h)
    refine ⟨_, _, ?_, hrun, hended, _, _, rfl, ?_, ⟨_, rfl⟩, hW, hsame.mono (by decide) (by decide)⟩
    · exact retI X6 hx Bd.returns (hb hby d5_62) hr
    · show Q_lb_030 _ _ _ _ _ _ _ _ _ _ _ _ _ _ _ _ _ T6.heap _
      rw [e6]
      exact ⟨rfl, N4, (Keep.refl h0 [a1]), H0, H1, H2, H3, H4, H5, H6⟩
def Q_bs0_031 (Z : State) (ax : Addr) (kx : ClassId) (key : Int32) (x0 : Int32) (x1 : Int32) (x2 : Int32) (h0 : Heap) (n0 : Nat) (vR : Option Value) (h : Heap) (L : List Loc) : Prop := ∃ (r : Int32), vR = some (.int r) ∧ Fr n0 L ∧ h = h0 ∧ (r = (1 : Int32) ∨ r = (-2 : Int32))
theorem ef_bs0_031 (m : MethodId) (x0 : Addr) (x1 : Int32) (x2 : Int32) (x3 : Int32) : entryFrame m #[(.ref x0), (.int x1), (.int x2), (.int x3)] 8 = mkF m 0 #[.val (.ref x0), .val (.int x1), .val (.int x2), .val (.int x3), .unset, .unset, .unset, .unset] [] := by first | (simp [entryFrame, mkF, argsToLocals, Value.category]; done) | rfl
set_option maxRecDepth 65536 in
set_option maxHeartbeats 40000000 in
theorem rm_bs0_031 (l : Launch) (Z : State) (a0 : Array Value) (hw : ∀ d ∈ tables_1, d.before a0 Z = true) (ws : List Jvm.Cond) (ax : Addr) (kx : ClassId) (key : Int32) (x0 : Int32) (x1 : Int32) (x2 : Int32) (h0 : Heap) (n0 : Nat) (Z0 : n0 ≤ h0.size) (H0 : Arv Z h0 ax kx .int (64 : Int32) [(.int x0), (.int x1), (.int x2)] (.int (0 : Int32))) (s0 : x0 < x1) (s1 : x1 < x2) (hl : x0 < key) (hr : ¬ (x1 < key)) :
    MetFree l (⟨"java/util/Arrays", "binarySearch0", "([IIII)I"⟩ : MethodName) (head1 (Jvm.Cond.code (⟨"java/util/Arrays", "binarySearch0", "([IIII)I"⟩ : MethodName) jdk_65_method_59_code 8 (some .int) :: ws) ({ frames := 0, cells := 0, slots := 0, locals := 0 } : Room)) (fun a U => a = #[(.ref ax), (.int 0), (.int 3), (.int key)] ∧ Z.Warmed39 U.vm ∧ U.heap = h0) (fun _ _ _ _ _ => True) (fun _ U o U' => ∃ v L, o = .returned v ∧ Q_bs0_031 Z ax kx key x0 x1 x2 h0 n0 v U'.heap L ∧ FrameEnd U o U' L ({ frames := 0, cells := 0, slots := 0, locals := 0 } : Room).cells ({ frames := 0, cells := 0, slots := 0, locals := 0 } : Room).slots) := by
  refine MetFree.of_bodySF (plainFor_of_name pn_java_util_Arrays) hisR ?_
  intro p e s m args below meth c s₁ Bd hml0 hP hK
  obtain ⟨rfl, hZ, hh⟩ := hP
  have hx := Bd.exec
  have hby := Bd.bytes
  have hml : c.maxLocals = 8 := hml0
  have hown : s.vm.findClass "java/util/Arrays" = some m.cls := findClass_of_methodNamed Bd.named
  have hnm := (name_of_methodNamed Bd.named Bd.method).1
  have X0 : Stand p l e ({ frames := 0, cells := 0, slots := 0, locals := 0 } : Room) s m #[(.ref ax), (.int 0), (.int 3), (.int key)] below meth c s₁ [] 0 0 := Stand.of_body Bd
  have e0 : s₁.heap = h0 := by rw [← hh, Bd.state]; rfl
  have N0 := Fr.nil n0
  refine go_st (fun t k => castTop (ef_bs0_031 m ax (0 : Int32) (3 : Int32) key) k) ?_
  show Go _ _ _ _ (s₁.setTop (mkF m 0 #[rv ax, iv 0, iv 3, iv key, .unset, .unset, .unset, .unset] []))
  refine go_st (fun t k => XS.iloadN X0.here hx rfl (hb hby d3_0) rfl k) ?_
  refine go_st (fun t k => XS.istore X0.here hx rfl (hb hby d3_1) rfl (l' := #[rv ax, iv 0, iv 3, iv key, iv 0, .unset, .unset, .unset]) rfl k) ?_
  refine go_st (fun t k => XS.iloadN X0.here hx rfl (hb hby d3_3) rfl k) ?_
  refine go_st (fun t k => XS.iconst X0.here hx rfl (hb hby d3_4) k) ?_
  show Go _ _ _ _ (s₁.setTop (mkF m 5 #[rv ax, iv 0, iv 3, iv key, iv 0, .unset, .unset, .unset] [(.int 1), (.int 3)]))
  refine go_st (fun t k => XS.isub X0.here hx rfl (hb hby d3_5) rfl k) ?_
  rw [show ((3 : Int32) - (1 : Int32)) = (2 : Int32) from by decide]
  show Go _ _ _ _ (s₁.setTop (mkF m 6 #[rv ax, iv 0, iv 3, iv key, iv 0, .unset, .unset, .unset] [(.int 2)]))
  refine go_st (fun t k => XS.istore X0.here hx rfl (hb hby d3_6) rfl (l' := #[rv ax, iv 0, iv 3, iv key, iv 0, iv 2, .unset, .unset]) rfl k) ?_
  refine go_st (fun t k => XS.iload X0.here hx rfl (hb hby d3_8) rfl k) ?_
  refine go_st (fun t k => XS.iload X0.here hx rfl (hb hby d3_10) rfl k) ?_
  show Go _ _ _ _ (s₁.setTop (mkF m 12 #[rv ax, iv 0, iv 3, iv key, iv 0, iv 2, .unset, .unset] [(.int 2), (.int 0)]))
  refine go_st (fun t k => XS.icmpNo X0.here hx rfl (hb hby d3_12) rfl (flt ((by decide) : ¬ ((2 : Int32) < (0 : Int32)))).2.2.1 k) ?_
  show Go _ _ _ _ (s₁.setTop (mkF m 15 #[rv ax, iv 0, iv 3, iv key, iv 0, iv 2, .unset, .unset] []))
  refine go_st (fun t k => XS.iload X0.here hx rfl (hb hby d3_15) rfl k) ?_
  refine go_st (fun t k => XS.iload X0.here hx rfl (hb hby d3_17) rfl k) ?_
  show Go _ _ _ _ (s₁.setTop (mkF m 19 #[rv ax, iv 0, iv 3, iv key, iv 0, iv 2, .unset, .unset] [(.int 2), (.int 0)]))
  refine go_st (fun t k => XS.iadd X0.here hx rfl (hb hby d3_19) rfl k) ?_
  rw [show ((0 : Int32) + (2 : Int32)) = (2 : Int32) from by decide]
  show Go _ _ _ _ (s₁.setTop (mkF m 20 #[rv ax, iv 0, iv 3, iv key, iv 0, iv 2, .unset, .unset] [(.int 2)]))
  refine go_st (fun t k => XS.iconst X0.here hx rfl (hb hby d3_20) k) ?_
  show Go _ _ _ _ (s₁.setTop (mkF m 21 #[rv ax, iv 0, iv 3, iv key, iv 0, iv 2, .unset, .unset] [(.int 1), (.int 2)]))
  refine go_st (fun t k => XS.iushr X0.here hx rfl (hb hby d3_21) rfl k) ?_
  rw [show (((2 : Int32)).toUInt32 >>> ((1 : Int32) &&& 31).toUInt32).toInt32 = (1 : Int32) from by decide]
  show Go _ _ _ _ (s₁.setTop (mkF m 22 #[rv ax, iv 0, iv 3, iv key, iv 0, iv 2, .unset, .unset] [(.int 1)]))
  refine go_st (fun t k => XS.istore X0.here hx rfl (hb hby d3_22) rfl (l' := #[rv ax, iv 0, iv 3, iv key, iv 0, iv 2, iv 1, .unset]) rfl k) ?_
  refine go_st (fun t k => XS.aloadN X0.here hx rfl (hb hby d3_24) rfl rfl k) ?_
  refine go_st (fun t k => XS.iload X0.here hx rfl (hb hby d3_25) rfl k) ?_
  show Go _ _ _ _ (s₁.setTop (mkF m 27 #[rv ax, iv 0, iv 3, iv key, iv 0, iv 2, iv 1, .unset] [(.int 1), (.ref ax)]))
  obtain ⟨zc1, zA1, zq1, zS1, zN1, zH1, zG1⟩ := id H0
  have hin1 : ¬ ((1 : Int32) < 0 ∨ zc1.slots.size ≤ ((1 : Int32)).toNatClampNeg) := inb_of zS1 ⟨by decide, by decide⟩
  have hat1 : zc1.slots[((1 : Int32)).toNatClampNeg]? = some (.int x1) := Has.at zH1 hin1 rfl
  refine go_st (fun t k => X0.iaload hx (j := (1 : Int32)) (v := (.int x1)) (by rw [e0]; exact zA1.1) (State.isArrayOf_alike hZ.alike zA1.2.1) zA1.2.2 hin1 hat1 (g := (mkF m 27 #[rv ax, iv 0, iv 3, iv key, iv 0, iv 2, iv 1, .unset] [(.int 1), (.ref ax)])) rfl rfl (hb hby d3_27) t k) ?_
  refine go_st (fun t k => XS.istore X0.here hx rfl (hb hby d3_28) rfl (l' := #[rv ax, iv 0, iv 3, iv key, iv 0, iv 2, iv 1, iv x1]) rfl k) ?_
  refine go_st (fun t k => XS.iload X0.here hx rfl (hb hby d3_30) rfl k) ?_
  refine go_st (fun t k => XS.iloadN X0.here hx rfl (hb hby d3_32) rfl k) ?_
  show Go _ _ _ _ (s₁.setTop (mkF m 33 #[rv ax, iv 0, iv 3, iv key, iv 0, iv 2, iv 1, iv x1] [(.int key), (.int x1)]))
  refine go_st (fun t k => XS.icmpYes X0.here hx rfl (pc0 := 33) (pc' := 45) rfl (hb hby d3_33) rfl (flt (hr : ¬ (x1 < key))).2.1 (by decide) (by decide) k) ?_
  show Go _ _ _ _ (s₁.setTop (mkF m 45 #[rv ax, iv 0, iv 3, iv key, iv 0, iv 2, iv 1, iv x1] []))
  refine go_st (fun t k => XS.iload X0.here hx rfl (hb hby d3_45) rfl k) ?_
  refine go_st (fun t k => XS.iloadN X0.here hx rfl (hb hby d3_47) rfl k) ?_
  show Go _ _ _ _ (s₁.setTop (mkF m 48 #[rv ax, iv 0, iv 3, iv key, iv 0, iv 2, iv 1, iv x1] [(.int key), (.int x1)]))
  by_cases hc2 : key < x1
  · skip
    refine go_st (fun t k => XS.icmpNo X0.here hx rfl (hb hby d3_48) rfl (tlt (hc2 : key < x1)).2.2.2 k) ?_
    show Go _ _ _ _ (s₁.setTop (mkF m 51 #[rv ax, iv 0, iv 3, iv key, iv 0, iv 2, iv 1, iv x1] []))
    refine go_st (fun t k => XS.iload X0.here hx rfl (hb hby d3_51) rfl k) ?_
    refine go_st (fun t k => XS.iconst X0.here hx rfl (hb hby d3_53) k) ?_
    show Go _ _ _ _ (s₁.setTop (mkF m 54 #[rv ax, iv 0, iv 3, iv key, iv 0, iv 2, iv 1, iv x1] [(.int 1), (.int 1)]))
    refine go_st (fun t k => XS.isub X0.here hx rfl (hb hby d3_54) rfl k) ?_
    rw [show ((1 : Int32) - (1 : Int32)) = (0 : Int32) from by decide]
    show Go _ _ _ _ (s₁.setTop (mkF m 55 #[rv ax, iv 0, iv 3, iv key, iv 0, iv 2, iv 1, iv x1] [(.int 0)]))
    refine go_st (fun t k => XS.istore X0.here hx rfl (hb hby d3_55) rfl (l' := #[rv ax, iv 0, iv 3, iv key, iv 0, iv 0, iv 1, iv x1]) rfl k) ?_
    refine go_st (fun t k => XS.goto X0.here hx rfl (pc0 := 57) (pc' := 63) rfl (hb hby d3_57) (by decide) (by decide) k) ?_
    show Go _ _ _ _ (s₁.setTop (mkF m 63 #[rv ax, iv 0, iv 3, iv key, iv 0, iv 0, iv 1, iv x1] []))
    refine go_st (fun t k => XS.goto X0.here hx rfl (pc0 := 63) (pc' := 8) rfl (hb hby d3_63) (by decide) (by decide) k) ?_
    show Go _ _ _ _ (s₁.setTop (mkF m 8 #[rv ax, iv 0, iv 3, iv key, iv 0, iv 0, iv 1, iv x1] []))
    refine go_st (fun t k => XS.iload X0.here hx rfl (hb hby d3_8) rfl k) ?_
    refine go_st (fun t k => XS.iload X0.here hx rfl (hb hby d3_10) rfl k) ?_
    show Go _ _ _ _ (s₁.setTop (mkF m 12 #[rv ax, iv 0, iv 3, iv key, iv 0, iv 0, iv 1, iv x1] [(.int 0), (.int 0)]))
    refine go_st (fun t k => XS.icmpNo X0.here hx rfl (hb hby d3_12) rfl (flt ((by decide) : ¬ ((0 : Int32) < (0 : Int32)))).2.2.1 k) ?_
    show Go _ _ _ _ (s₁.setTop (mkF m 15 #[rv ax, iv 0, iv 3, iv key, iv 0, iv 0, iv 1, iv x1] []))
    refine go_st (fun t k => XS.iload X0.here hx rfl (hb hby d3_15) rfl k) ?_
    refine go_st (fun t k => XS.iload X0.here hx rfl (hb hby d3_17) rfl k) ?_
    show Go _ _ _ _ (s₁.setTop (mkF m 19 #[rv ax, iv 0, iv 3, iv key, iv 0, iv 0, iv 1, iv x1] [(.int 0), (.int 0)]))
    refine go_st (fun t k => XS.iadd X0.here hx rfl (hb hby d3_19) rfl k) ?_
    rw [show ((0 : Int32) + (0 : Int32)) = (0 : Int32) from by decide]
    show Go _ _ _ _ (s₁.setTop (mkF m 20 #[rv ax, iv 0, iv 3, iv key, iv 0, iv 0, iv 1, iv x1] [(.int 0)]))
    refine go_st (fun t k => XS.iconst X0.here hx rfl (hb hby d3_20) k) ?_
    show Go _ _ _ _ (s₁.setTop (mkF m 21 #[rv ax, iv 0, iv 3, iv key, iv 0, iv 0, iv 1, iv x1] [(.int 1), (.int 0)]))
    refine go_st (fun t k => XS.iushr X0.here hx rfl (hb hby d3_21) rfl k) ?_
    rw [show (((0 : Int32)).toUInt32 >>> ((1 : Int32) &&& 31).toUInt32).toInt32 = (0 : Int32) from by decide]
    show Go _ _ _ _ (s₁.setTop (mkF m 22 #[rv ax, iv 0, iv 3, iv key, iv 0, iv 0, iv 1, iv x1] [(.int 0)]))
    refine go_st (fun t k => XS.istore X0.here hx rfl (hb hby d3_22) rfl (l' := #[rv ax, iv 0, iv 3, iv key, iv 0, iv 0, iv 0, iv x1]) rfl k) ?_
    refine go_st (fun t k => XS.aloadN X0.here hx rfl (hb hby d3_24) rfl rfl k) ?_
    refine go_st (fun t k => XS.iload X0.here hx rfl (hb hby d3_25) rfl k) ?_
    show Go _ _ _ _ (s₁.setTop (mkF m 27 #[rv ax, iv 0, iv 3, iv key, iv 0, iv 0, iv 0, iv x1] [(.int 0), (.ref ax)]))
    obtain ⟨zc3, zA3, zq3, zS3, zN3, zH3, zG3⟩ := id H0
    have hin3 : ¬ ((0 : Int32) < 0 ∨ zc3.slots.size ≤ ((0 : Int32)).toNatClampNeg) := inb_of zS3 ⟨by decide, by decide⟩
    have hat3 : zc3.slots[((0 : Int32)).toNatClampNeg]? = some (.int x0) := Has.at zH3 hin3 rfl
    refine go_st (fun t k => X0.iaload hx (j := (0 : Int32)) (v := (.int x0)) (by rw [e0]; exact zA3.1) (State.isArrayOf_alike hZ.alike zA3.2.1) zA3.2.2 hin3 hat3 (g := (mkF m 27 #[rv ax, iv 0, iv 3, iv key, iv 0, iv 0, iv 0, iv x1] [(.int 0), (.ref ax)])) rfl rfl (hb hby d3_27) t k) ?_
    refine go_st (fun t k => XS.istore X0.here hx rfl (hb hby d3_28) rfl (l' := #[rv ax, iv 0, iv 3, iv key, iv 0, iv 0, iv 0, iv x0]) rfl k) ?_
    refine go_st (fun t k => XS.iload X0.here hx rfl (hb hby d3_30) rfl k) ?_
    refine go_st (fun t k => XS.iloadN X0.here hx rfl (hb hby d3_32) rfl k) ?_
    show Go _ _ _ _ (s₁.setTop (mkF m 33 #[rv ax, iv 0, iv 3, iv key, iv 0, iv 0, iv 0, iv x0] [(.int key), (.int x0)]))
    refine go_st (fun t k => XS.icmpNo X0.here hx rfl (hb hby d3_33) rfl (tlt (hl : x0 < key)).2.1 k) ?_
    show Go _ _ _ _ (s₁.setTop (mkF m 36 #[rv ax, iv 0, iv 3, iv key, iv 0, iv 0, iv 0, iv x0] []))
    refine go_st (fun t k => XS.iload X0.here hx rfl (hb hby d3_36) rfl k) ?_
    refine go_st (fun t k => XS.iconst X0.here hx rfl (hb hby d3_38) k) ?_
    show Go _ _ _ _ (s₁.setTop (mkF m 39 #[rv ax, iv 0, iv 3, iv key, iv 0, iv 0, iv 0, iv x0] [(.int 1), (.int 0)]))
    refine go_st (fun t k => XS.iadd X0.here hx rfl (hb hby d3_39) rfl k) ?_
    rw [show ((0 : Int32) + (1 : Int32)) = (1 : Int32) from by decide]
    show Go _ _ _ _ (s₁.setTop (mkF m 40 #[rv ax, iv 0, iv 3, iv key, iv 0, iv 0, iv 0, iv x0] [(.int 1)]))
    refine go_st (fun t k => XS.istore X0.here hx rfl (hb hby d3_40) rfl (l' := #[rv ax, iv 0, iv 3, iv key, iv 1, iv 0, iv 0, iv x0]) rfl k) ?_
    refine go_st (fun t k => XS.goto X0.here hx rfl (pc0 := 42) (pc' := 63) rfl (hb hby d3_42) (by decide) (by decide) k) ?_
    show Go _ _ _ _ (s₁.setTop (mkF m 63 #[rv ax, iv 0, iv 3, iv key, iv 1, iv 0, iv 0, iv x0] []))
    refine go_st (fun t k => XS.goto X0.here hx rfl (pc0 := 63) (pc' := 8) rfl (hb hby d3_63) (by decide) (by decide) k) ?_
    show Go _ _ _ _ (s₁.setTop (mkF m 8 #[rv ax, iv 0, iv 3, iv key, iv 1, iv 0, iv 0, iv x0] []))
    refine go_st (fun t k => XS.iload X0.here hx rfl (hb hby d3_8) rfl k) ?_
    refine go_st (fun t k => XS.iload X0.here hx rfl (hb hby d3_10) rfl k) ?_
    show Go _ _ _ _ (s₁.setTop (mkF m 12 #[rv ax, iv 0, iv 3, iv key, iv 1, iv 0, iv 0, iv x0] [(.int 0), (.int 1)]))
    refine go_st (fun t k => XS.icmpYes X0.here hx rfl (pc0 := 12) (pc' := 66) rfl (hb hby d3_12) rfl (tlt ((by decide) : (0 : Int32) < (1 : Int32))).2.2.1 (by decide) (by decide) k) ?_
    show Go _ _ _ _ (s₁.setTop (mkF m 66 #[rv ax, iv 0, iv 3, iv key, iv 1, iv 0, iv 0, iv x0] []))
    refine go_st (fun t k => XS.iload X0.here hx rfl (hb hby d3_66) rfl k) ?_
    refine go_st (fun t k => XS.iconst X0.here hx rfl (hb hby d3_68) k) ?_
    show Go _ _ _ _ (s₁.setTop (mkF m 69 #[rv ax, iv 0, iv 3, iv key, iv 1, iv 0, iv 0, iv x0] [(.int 1), (.int 1)]))
    refine go_st (fun t k => XS.iadd X0.here hx rfl (hb hby d3_69) rfl k) ?_
    rw [show ((1 : Int32) + (1 : Int32)) = (2 : Int32) from by decide]
    show Go _ _ _ _ (s₁.setTop (mkF m 70 #[rv ax, iv 0, iv 3, iv key, iv 1, iv 0, iv 0, iv x0] [(.int 2)]))
    refine go_st (fun t k => XS.ineg X0.here hx rfl (hb hby d3_70) rfl k) ?_
    rw [show (-(2 : Int32)) = (-2 : Int32) from by decide]
    show Go _ _ _ _ (s₁.setTop (mkF m 71 #[rv ax, iv 0, iv 3, iv key, iv 1, iv 0, iv 0, iv x0] [(.int (-2))]))
    obtain ⟨fs, hr, hrun, hended, hW, hsame⟩ := X0.leave (v := some (.int (-2))) (fun h => by rw [Bd.returns] at h; cases h)
    refine ⟨_, _, ?_, hrun, hended, _, _, rfl, ?_, ⟨_, rfl⟩, hW, hsame.mono (by decide) (by decide)⟩
    · exact retI X0 hx Bd.returns (hb hby d3_71) hr
    · show Q_bs0_031 _ _ _ _ _ _ _ _ _ _ s₁.heap _
      rw [e0]
      exact ⟨(-2 : Int32), rfl, N0, rfl, (Or.inr rfl)⟩
  · skip
    refine go_st (fun t k => XS.icmpYes X0.here hx rfl (pc0 := 48) (pc' := 60) rfl (hb hby d3_48) rfl (flt (hc2 : ¬ (key < x1))).2.2.2 (by decide) (by decide) k) ?_
    show Go _ _ _ _ (s₁.setTop (mkF m 60 #[rv ax, iv 0, iv 3, iv key, iv 0, iv 2, iv 1, iv x1] []))
    refine go_st (fun t k => XS.iload X0.here hx rfl (hb hby d3_60) rfl k) ?_
    show Go _ _ _ _ (s₁.setTop (mkF m 62 #[rv ax, iv 0, iv 3, iv key, iv 0, iv 2, iv 1, iv x1] [(.int 1)]))
    obtain ⟨fs, hr, hrun, hended, hW, hsame⟩ := X0.leave (v := some (.int 1)) (fun h => by rw [Bd.returns] at h; cases h)
    refine ⟨_, _, ?_, hrun, hended, _, _, rfl, ?_, ⟨_, rfl⟩, hW, hsame.mono (by decide) (by decide)⟩
    · exact retI X0 hx Bd.returns (hb hby d3_62) hr
    · show Q_bs0_031 _ _ _ _ _ _ _ _ _ _ s₁.heap _
      rw [e0]
      exact ⟨(1 : Int32), rfl, N0, rfl, (Or.inl rfl)⟩
def Q_bs_031 (Z : State) (ax : Addr) (kx : ClassId) (key : Int32) (x0 : Int32) (x1 : Int32) (x2 : Int32) (h0 : Heap) (n0 : Nat) (vR : Option Value) (h : Heap) (L : List Loc) : Prop := ∃ (r : Int32), vR = some (.int r) ∧ Fr n0 L ∧ h = h0 ∧ (r = (1 : Int32) ∨ r = (-2 : Int32))
theorem ef_bs_031 (m : MethodId) (x0 : Addr) (x1 : Int32) (x2 : Int32) (x3 : Int32) : entryFrame m #[(.ref x0), (.int x1), (.int x2), (.int x3)] 4 = mkF m 0 #[.val (.ref x0), .val (.int x1), .val (.int x2), .val (.int x3)] [] := by first | (simp [entryFrame, mkF, argsToLocals, Value.category]; done) | rfl
set_option maxRecDepth 65536 in
set_option maxHeartbeats 40000000 in
theorem rm_bs_031 (l : Launch) (Z : State) (a0 : Array Value) (hw : ∀ d ∈ tables_1, d.before a0 Z = true) (ws : List Jvm.Cond) (ax : Addr) (kx : ClassId) (key : Int32) (x0 : Int32) (x1 : Int32) (x2 : Int32) (h0 : Heap) (n0 : Nat) (Z0 : n0 ≤ h0.size) (H0 : Arv Z h0 ax kx .int (64 : Int32) [(.int x0), (.int x1), (.int x2)] (.int (0 : Int32))) (s0 : x0 < x1) (s1 : x1 < x2) (hl : x0 < key) (hr : ¬ (x1 < key)) :
    MetFree l (⟨"java/util/Arrays", "binarySearch", "([IIII)I"⟩ : MethodName) (head1 (Jvm.Cond.code (⟨"java/util/Arrays", "binarySearch", "([IIII)I"⟩ : MethodName) jdk_65_method_58_code 4 (some .int) :: ws) ({ frames := 1, cells := 0, slots := 0, locals := 19 } : Room)) (fun a U => a = #[(.ref ax), (.int 0), (.int 3), (.int key)] ∧ Z.Warmed39 U.vm ∧ U.heap = h0) (fun _ _ _ _ _ => True) (fun _ U o U' => ∃ v L, o = .returned v ∧ Q_bs_031 Z ax kx key x0 x1 x2 h0 n0 v U'.heap L ∧ FrameEnd U o U' L ({ frames := 1, cells := 0, slots := 0, locals := 19 } : Room).cells ({ frames := 1, cells := 0, slots := 0, locals := 19 } : Room).slots) := by
  refine MetFree.of_bodySF (plainFor_of_name pn_java_util_Arrays) hisR ?_
  intro p e s m args below meth c s₁ Bd hml0 hP hK
  obtain ⟨rfl, hZ, hh⟩ := hP
  have hx := Bd.exec
  have hby := Bd.bytes
  have hml : c.maxLocals = 4 := hml0
  have hown : s.vm.findClass "java/util/Arrays" = some m.cls := findClass_of_methodNamed Bd.named
  have hnm := (name_of_methodNamed Bd.named Bd.method).1
  have X0 : Stand p l e ({ frames := 1, cells := 0, slots := 0, locals := 19 } : Room) s m #[(.ref ax), (.int 0), (.int 3), (.int key)] below meth c s₁ [] 0 0 := Stand.of_body Bd
  have e0 : s₁.heap = h0 := by rw [← hh, Bd.state]; rfl
  have N0 := Fr.nil n0
  refine go_st (fun t k => castTop (ef_bs_031 m ax (0 : Int32) (3 : Int32) key) k) ?_
  show Go _ _ _ _ (s₁.setTop (mkF m 0 #[rv ax, iv 0, iv 3, iv key] []))
  refine go_st (fun t k => XS.aloadN X0.here hx rfl (hb hby d4_0) rfl rfl k) ?_
  show Go _ _ _ _ (s₁.setTop (mkF m 1 #[rv ax, iv 0, iv 3, iv key] [(.ref ax)]))
  obtain ⟨zc1, zA1, zq1, zS1, zN1, zH1, zG1⟩ := id H0
  refine go_st (fun t k => X0.arraylength hx (by rw [e0]; exact zA1.1) (State.isArrayOf_alike hZ.alike zA1.2.1) (g := (mkF m 1 #[rv ax, iv 0, iv 3, iv key] [(.ref ax)])) rfl rfl (hb hby d4_1) t k) ?_
  rw [len_of zS1 zN1]
  refine go_st (fun t k => XS.iloadN X0.here hx rfl (hb hby d4_2) rfl k) ?_
  refine go_st (fun t k => XS.iloadN X0.here hx rfl (hb hby d4_3) rfl k) ?_
  show Go _ _ _ _ (s₁.setTop (mkF m 4 #[rv ax, iv 0, iv 3, iv key] [(.int 3), (.int 0), (.int 64)]))
  obtain ⟨_, _, ⟨T2, L2, kk2, nn2⟩, -, X2, ⟨Lc2, hQ2, lq2, yq2, zq2⟩, st2⟩ := Jvm.LawKit.callS X0 hx (y := (⟨"java/util/Arrays", "rangeCheck", "(III)V"⟩ : MethodName)) hown (mvT hZ (w37 hw)) (mvT hZ (w38 hw)) (mvT hZ (w35 hw)) (mvT hZ (w39 hw)) (by decide) (backOf (W := 0) (rm_rc_03 l Z a0 hw []  h0 n0 (Nat.le_trans Z0 (Nat.le_refl _)) ) hZ (w39 hw) (w35 hw) (by decide) (by decide)) (g := (mkF m 4 #[rv ax, iv 0, iv 3, iv key] [(.int 3), (.int 0), (.int 64)])) rfl (by rw [hml]; rfl) (argsL := [(.int 64), (.int 0), (.int 3)]) (rest := []) (lenOf pd_0 rfl) rfl (by show 2 * 0 + _ ≤ _; exact Nat.le_of_eq rfl) (hb hby d4_4) (fun _ _ => ⟨rfl, e0, (by decide : 0 + 0 ≤ _), (by decide : 0 + 0 ≤ _)⟩)
  dsimp only [Pt.U, Pt.locs, Pt.cells, Pt.slots] at X2 lq2 yq2 zq2 st2 hQ2
  subst lq2 yq2 zq2
  obtain ⟨h2, e2⟩ : ∃ z, T2.heap = z := ⟨_, rfl⟩
  rw [e2] at hQ2
  obtain ⟨rfl, N2q, he2⟩ := hQ2
  have N2 := Fr.app N0 N2q
  rw [he2] at e2
  refine go_st st2 ?_
  show Go _ _ _ _ (T2.setTop (mkF m 7 #[rv ax, iv 0, iv 3, iv key] []))
  refine go_st (fun t k => XS.aloadN X2.here hx rfl (hb hby d4_7) rfl rfl k) ?_
  refine go_st (fun t k => XS.iloadN X2.here hx rfl (hb hby d4_8) rfl k) ?_
  refine go_st (fun t k => XS.iloadN X2.here hx rfl (hb hby d4_9) rfl k) ?_
  refine go_st (fun t k => XS.iloadN X2.here hx rfl (hb hby d4_10) rfl k) ?_
  show Go _ _ _ _ (T2.setTop (mkF m 11 #[rv ax, iv 0, iv 3, iv key] [(.int key), (.int 3), (.int 0), (.ref ax)]))
  obtain ⟨_, _, ⟨T3, L3, kk3, nn3⟩, -, X3, ⟨Lc3, hQ3, lq3, yq3, zq3⟩, st3⟩ := Jvm.LawKit.callS X2 hx (y := (⟨"java/util/Arrays", "binarySearch0", "([IIII)I"⟩ : MethodName)) hown (mvT hZ (w40 hw)) (mvT hZ (w41 hw)) (mvT hZ (w35 hw)) (mvT hZ (w42 hw)) (by decide) (backOf (W := 0) (rm_bs0_031 l Z a0 hw [] ax kx key x0 x1 x2 h0 n0 (Nat.le_trans Z0 (Nat.le_refl _)) H0 s0 s1 hl hr) hZ (w42 hw) (w35 hw) (by decide) (by decide)) (g := (mkF m 11 #[rv ax, iv 0, iv 3, iv key] [(.int key), (.int 3), (.int 0), (.ref ax)])) rfl (by rw [hml]; rfl) (argsL := [(.ref ax), (.int 0), (.int 3), (.int key)]) (rest := []) (lenOf pd_1 rfl) rfl (by show 2 * 0 + _ ≤ _; exact Nat.le_of_eq rfl) (hb hby d4_11) (fun _ _ => ⟨rfl, e2, (by decide : 0 + 0 ≤ _), (by decide : 0 + 0 ≤ _)⟩)
  dsimp only [Pt.U, Pt.locs, Pt.cells, Pt.slots] at X3 lq3 yq3 zq3 st3 hQ3
  subst lq3 yq3 zq3
  obtain ⟨h3, e3⟩ : ∃ z, T3.heap = z := ⟨_, rfl⟩
  rw [e3] at hQ3
  obtain ⟨r_3, rfl, N3q, he3, hres_3⟩ := hQ3
  have N3 := Fr.app N2 N3q
  rw [he3] at e3
  refine go_st st3 ?_
  show Go _ _ _ _ (T3.setTop (mkF m 14 #[rv ax, iv 0, iv 3, iv key] [(.int r_3)]))
  obtain ⟨fs, hr, hrun, hended, hW, hsame⟩ := X3.leave (v := some (.int r_3)) (fun h => by rw [Bd.returns] at h; cases h)
  refine ⟨_, _, ?_, hrun, hended, _, _, rfl, ?_, ⟨_, rfl⟩, hW, hsame.mono (by decide) (by decide)⟩
  · exact retI X3 hx Bd.returns (hb hby d4_14) hr
  · show Q_bs_031 _ _ _ _ _ _ _ _ _ _ T3.heap _
    rw [e3]
    exact ⟨r_3, rfl, N3, rfl, hres_3⟩
def Q_lb_031 (Z : State) (a1 : Addr) (ax : Addr) (al : Addr) (kx : ClassId) (kl : ClassId) (key : Int32) (line : Int32) (x0 : Int32) (x1 : Int32) (x2 : Int32) (l0 : Int32) (l1 : Int32) (l2 : Int32) (h0 : Heap) (n0 : Nat) (vR : Option Value) (h : Heap) (L : List Loc) : Prop := vR = some (.int l0) ∧ Fr n0 L ∧ Keep h0 h [a1] ∧ (Exa Z h a1 cBE) ∧ (Fld Z h a1 cBE "indexes" "[I" (.ref ax)) ∧ (Fld Z h a1 cBE "lines" "[I" (.ref al)) ∧ (Fld Z h a1 cBE "first" "I" (.int 0)) ∧ (Fld Z h a1 cBE "count" "I" (.int 3)) ∧ (Arv Z h ax kx .int (64 : Int32) [(.int x0), (.int x1), (.int x2)] (.int (0 : Int32))) ∧ (Arv Z h al kl .int (64 : Int32) [(.int l0), (.int l1), (.int l2)] (.int (0 : Int32)))
theorem ef_lb_031 (m : MethodId) (x0 : Addr) (x1 : Int32) (x2 : Int32) : entryFrame m #[(.ref x0), (.int x1), (.int x2)] 6 = mkF m 0 #[.val (.ref x0), .val (.int x1), .val (.int x2), .unset, .unset, .unset] [] := by first | (simp [entryFrame, mkF, argsToLocals, Value.category]; done) | rfl
set_option maxRecDepth 65536 in
set_option maxHeartbeats 40000000 in
theorem rm_lb_031 (l : Launch) (Z : State) (a0 : Array Value) (hw : ∀ d ∈ tables_1, d.before a0 Z = true) (ws : List Jvm.Cond) (a1 : Addr) (ax : Addr) (al : Addr) (kx : ClassId) (kl : ClassId) (key : Int32) (line : Int32) (x0 : Int32) (x1 : Int32) (x2 : Int32) (l0 : Int32) (l1 : Int32) (l2 : Int32) (h0 : Heap) (n0 : Nat) (Z0 : n0 ≤ h0.size) (H0 : Exa Z h0 a1 cBE) (H1 : Fld Z h0 a1 cBE "indexes" "[I" (.ref ax)) (H2 : Fld Z h0 a1 cBE "lines" "[I" (.ref al)) (H3 : Fld Z h0 a1 cBE "first" "I" (.int 0)) (H4 : Fld Z h0 a1 cBE "count" "I" (.int 3)) (H5 : Arv Z h0 ax kx .int (64 : Int32) [(.int x0), (.int x1), (.int x2)] (.int (0 : Int32))) (H6 : Arv Z h0 al kl .int (64 : Int32) [(.int l0), (.int l1), (.int l2)] (.int (0 : Int32))) (ne_a1_ax : a1 ≠ ax) (ne_a1_al : a1 ≠ al) (ne_ax_al : ax ≠ al) (g_a1 : n0 ≤ a1) (s0 : x0 < x1) (s1 : x1 < x2) (hl : x0 < key) (hr : ¬ (x1 < key)) :
    MetFree l (⟨"com/example/nudge/nudge/tree/BlockEntries", "lineBefore", "(II)I"⟩ : MethodName) (head1 (Jvm.Cond.code (⟨"com/example/nudge/nudge/tree/BlockEntries", "lineBefore", "(II)I"⟩ : MethodName) prog_17_method_3_code 6 (some .int) :: ws) ({ frames := 2, cells := 0, slots := 0, locals := 34 } : Room)) (fun a U => a = #[(.ref a1), (.int key), (.int line)] ∧ Z.Warmed39 U.vm ∧ U.heap = h0) (fun _ _ _ _ _ => True) (fun _ U o U' => ∃ v L, o = .returned v ∧ Q_lb_031 Z a1 ax al kx kl key line x0 x1 x2 l0 l1 l2 h0 n0 v U'.heap L ∧ FrameEnd U o U' L ({ frames := 2, cells := 0, slots := 0, locals := 34 } : Room).cells ({ frames := 2, cells := 0, slots := 0, locals := 34 } : Room).slots) := by
  refine MetFree.of_bodySF (plainFor_of_name pn_com_example_nudge_nudge_tree_BlockEntries) hisR ?_
  intro p e s m args below meth c s₁ Bd hml0 hP hK
  obtain ⟨rfl, hZ, hh⟩ := hP
  have hx := Bd.exec
  have hby := Bd.bytes
  have hml : c.maxLocals = 6 := hml0
  have hown : s.vm.findClass "com/example/nudge/nudge/tree/BlockEntries" = some m.cls := findClass_of_methodNamed Bd.named
  have hnm := (name_of_methodNamed Bd.named Bd.method).1
  have X0 : Stand p l e ({ frames := 2, cells := 0, slots := 0, locals := 34 } : Room) s m #[(.ref a1), (.int key), (.int line)] below meth c s₁ [] 0 0 := Stand.of_body Bd
  have e0 : s₁.heap = h0 := by rw [← hh, Bd.state]; rfl
  have N0 := Fr.nil n0
  refine go_st (fun t k => castTop (ef_lb_031 m a1 key line) k) ?_
  show Go _ _ _ _ (s₁.setTop (mkF m 0 #[rv a1, iv key, iv line, .unset, .unset, .unset] []))
  refine go_st (fun t k => XS.aloadN X0.here hx rfl (hb hby d5_0) rfl rfl k) ?_
  show Go _ _ _ _ (s₁.setTop (mkF m 1 #[rv a1, iv key, iv line, .unset, .unset, .unset] [(.ref a1)]))
  obtain ⟨T1, X1, e1, st1⟩ := getF X0 hx hZ hown (host := "") (Or.inl (w15 hw)) Via.refl e0 H1 (g := (mkF m 1 #[rv a1, iv key, iv line, .unset, .unset, .unset] [(.ref a1)])) rfl rfl (hb hby d5_1)
  refine go_st (fun t k => st1 t k) ?_
  refine go_st (fun t k => XS.aloadN X1.here hx rfl (hb hby d5_4) rfl rfl k) ?_
  show Go _ _ _ _ (T1.setTop (mkF m 5 #[rv a1, iv key, iv line, .unset, .unset, .unset] [(.ref a1), (.ref ax)]))
  obtain ⟨T2, X2, e2, st2⟩ := getF X1 hx hZ hown (host := "") (Or.inl (w31 hw)) Via.refl e1 H3 (g := (mkF m 5 #[rv a1, iv key, iv line, .unset, .unset, .unset] [(.ref a1), (.ref ax)])) rfl rfl (hb hby d5_5)
  refine go_st (fun t k => st2 t k) ?_
  refine go_st (fun t k => XS.aloadN X2.here hx rfl (hb hby d5_8) rfl rfl k) ?_
  show Go _ _ _ _ (T2.setTop (mkF m 9 #[rv a1, iv key, iv line, .unset, .unset, .unset] [(.ref a1), (.int 0), (.ref ax)]))
  obtain ⟨T3, X3, e3, st3⟩ := getF X2 hx hZ hown (host := "") (Or.inl (w24 hw)) Via.refl e2 H4 (g := (mkF m 9 #[rv a1, iv key, iv line, .unset, .unset, .unset] [(.ref a1), (.int 0), (.ref ax)])) rfl rfl (hb hby d5_9)
  refine go_st (fun t k => st3 t k) ?_
  refine go_st (fun t k => XS.iloadN X3.here hx rfl (hb hby d5_12) rfl k) ?_
  show Go _ _ _ _ (T3.setTop (mkF m 13 #[rv a1, iv key, iv line, .unset, .unset, .unset] [(.int key), (.int 3), (.int 0), (.ref ax)]))
  obtain ⟨_, _, ⟨T4, L4, kk4, nn4⟩, -, X4, ⟨Lc4, hQ4, lq4, yq4, zq4⟩, st4⟩ := Jvm.LawKit.callS X3 hx (y := (⟨"java/util/Arrays", "binarySearch", "([IIII)I"⟩ : MethodName)) hown (mvT hZ (w33 hw)) (mvT hZ (w34 hw)) (mvT hZ (w35 hw)) (mvT hZ (w36 hw)) (by decide) (backOf (W := 0) (rm_bs_031 l Z a0 hw [] ax kx key x0 x1 x2 h0 n0 (Nat.le_trans Z0 (Nat.le_refl _)) H5 s0 s1 hl hr) hZ (w36 hw) (w35 hw) (by decide) (by decide)) (g := (mkF m 13 #[rv a1, iv key, iv line, .unset, .unset, .unset] [(.int key), (.int 3), (.int 0), (.ref ax)])) rfl (by rw [hml]; rfl) (argsL := [(.ref ax), (.int 0), (.int 3), (.int key)]) (rest := []) (lenOf pd_1 rfl) rfl (by show 2 * 0 + _ ≤ _; exact Nat.le_of_eq rfl) (hb hby d5_13) (fun _ _ => ⟨rfl, e3, (by decide : 0 + 0 ≤ _), (by decide : 0 + 0 ≤ _)⟩)
  dsimp only [Pt.U, Pt.locs, Pt.cells, Pt.slots] at X4 lq4 yq4 zq4 st4 hQ4
  subst lq4 yq4 zq4
  obtain ⟨h4, e4⟩ : ∃ z, T4.heap = z := ⟨_, rfl⟩
  rw [e4] at hQ4
  obtain ⟨r_4, rfl, N4q, he4, hres_4⟩ := hQ4
  have N4 := Fr.app N0 N4q
  rw [he4] at e4
  refine go_st st4 ?_
  show Go _ _ _ _ (T4.setTop (mkF m 16 #[rv a1, iv key, iv line, .unset, .unset, .unset] [(.int r_4)]))
  rcases hres_4 with rfl | rfl
  · skip
    show Go _ _ _ _ (T4.setTop (mkF m 16 #[rv a1, iv key, iv line, .unset, .unset, .unset] [(.int 1)]))
    refine go_st (fun t k => XS.istoreN X4.here hx rfl (hb hby d5_16) rfl (l' := #[rv a1, iv key, iv line, iv 1, .unset, .unset]) rfl k) ?_
    refine go_st (fun t k => XS.iloadN X4.here hx rfl (hb hby d5_17) rfl k) ?_
    show Go _ _ _ _ (T4.setTop (mkF m 18 #[rv a1, iv key, iv line, iv 1, .unset, .unset] [(.int 1)]))
    refine go_st (fun t k => XS.ifNo X4.here hx rfl (hb hby d5_18) rfl ((if0 _ _).trans (flt ((by decide) : ¬ ((1 : Int32) < (0 : Int32)))).1) k) ?_
    show Go _ _ _ _ (T4.setTop (mkF m 21 #[rv a1, iv key, iv line, iv 1, .unset, .unset] []))
    refine go_st (fun t k => XS.iloadN X4.here hx rfl (hb hby d5_21) rfl k) ?_
    refine go_st (fun t k => XS.goto X4.here hx rfl (pc0 := 22) (pc' := 29) rfl (hb hby d5_22) (by decide) (by decide) k) ?_
    show Go _ _ _ _ (T4.setTop (mkF m 29 #[rv a1, iv key, iv line, iv 1, .unset, .unset] [(.int 1)]))
    refine go_st (fun t k => XS.iconst X4.here hx rfl (hb hby d5_29) k) ?_
    show Go _ _ _ _ (T4.setTop (mkF m 30 #[rv a1, iv key, iv line, iv 1, .unset, .unset] [(.int 1), (.int 1)]))
    refine go_st (fun t k => XS.isub X4.here hx rfl (hb hby d5_30) rfl k) ?_
    rw [show ((1 : Int32) - (1 : Int32)) = (0 : Int32) from by decide]
    show Go _ _ _ _ (T4.setTop (mkF m 31 #[rv a1, iv key, iv line, iv 1, .unset, .unset] [(.int 0)]))
    refine go_st (fun t k => XS.istore X4.here hx rfl (hb hby d5_31) rfl (l' := #[rv a1, iv key, iv line, iv 1, iv 0, .unset]) rfl k) ?_
    refine go_st (fun t k => XS.iloadN X4.here hx rfl (hb hby d5_33) rfl k) ?_
    refine go_st (fun t k => XS.istore X4.here hx rfl (hb hby d5_34) rfl (l' := #[rv a1, iv key, iv line, iv 1, iv 0, iv line]) rfl k) ?_
    refine go_st (fun t k => XS.iload X4.here hx rfl (hb hby d5_36) rfl k) ?_
    refine go_st (fun t k => XS.aloadN X4.here hx rfl (hb hby d5_38) rfl rfl k) ?_
    show Go _ _ _ _ (T4.setTop (mkF m 39 #[rv a1, iv key, iv line, iv 1, iv 0, iv line] [(.ref a1), (.int 0)]))
    obtain ⟨T5, X5, e5, st5⟩ := getF X4 hx hZ hown (host := "") (Or.inl (w31 hw)) Via.refl e4 H3 (g := (mkF m 39 #[rv a1, iv key, iv line, iv 1, iv 0, iv line] [(.ref a1), (.int 0)])) rfl rfl (hb hby d5_39)
    refine go_st (fun t k => st5 t k) ?_
    show Go _ _ _ _ (T5.setTop (mkF m 42 #[rv a1, iv key, iv line, iv 1, iv 0, iv line] [(.int 0), (.int 0)]))
    refine go_st (fun t k => XS.icmpNo X5.here hx rfl (hb hby d5_42) rfl (flt ((by decide) : ¬ ((0 : Int32) < (0 : Int32)))).1 k) ?_
    show Go _ _ _ _ (T5.setTop (mkF m 45 #[rv a1, iv key, iv line, iv 1, iv 0, iv line] []))
    refine go_st (fun t k => XS.aloadN X5.here hx rfl (hb hby d5_45) rfl rfl k) ?_
    show Go _ _ _ _ (T5.setTop (mkF m 46 #[rv a1, iv key, iv line, iv 1, iv 0, iv line] [(.ref a1)]))
    obtain ⟨T6, X6, e6, st6⟩ := getF X5 hx hZ hown (host := "") (Or.inl (w17 hw)) Via.refl e5 H2 (g := (mkF m 46 #[rv a1, iv key, iv line, iv 1, iv 0, iv line] [(.ref a1)])) rfl rfl (hb hby d5_46)
    refine go_st (fun t k => st6 t k) ?_
    refine go_st (fun t k => XS.iload X6.here hx rfl (hb hby d5_49) rfl k) ?_
    show Go _ _ _ _ (T6.setTop (mkF m 51 #[rv a1, iv key, iv line, iv 1, iv 0, iv line] [(.int 0), (.ref al)]))
    obtain ⟨zc7, zA7, zq7, zS7, zN7, zH7, zG7⟩ := id H6
    have hin7 : ¬ ((0 : Int32) < 0 ∨ zc7.slots.size ≤ ((0 : Int32)).toNatClampNeg) := inb_of zS7 ⟨by decide, by decide⟩
    have hat7 : zc7.slots[((0 : Int32)).toNatClampNeg]? = some (.int l0) := Has.at zH7 hin7 rfl
    refine go_st (fun t k => X6.iaload hx (j := (0 : Int32)) (v := (.int l0)) (by rw [e6]; exact zA7.1) (State.isArrayOf_alike hZ.alike zA7.2.1) zA7.2.2 hin7 hat7 (g := (mkF m 51 #[rv a1, iv key, iv line, iv 1, iv 0, iv line] [(.int 0), (.ref al)])) rfl rfl (hb hby d5_51) t k) ?_
    refine go_st (fun t k => XS.istore X6.here hx rfl (hb hby d5_52) rfl (l' := #[rv a1, iv key, iv line, iv 1, iv 0, iv l0]) rfl k) ?_
    refine go_st (fun t k => XS.aloadN X6.here hx rfl (hb hby d5_54) rfl rfl k) ?_
    refine go_st (fun t k => XS.iload X6.here hx rfl (hb hby d5_55) rfl k) ?_
    show Go _ _ _ _ (T6.setTop (mkF m 57 #[rv a1, iv key, iv line, iv 1, iv 0, iv l0] [(.int 0), (.ref a1)]))
    obtain ⟨T8, h8, X8, e8, W8, st8⟩ := putF X6 hx hZ hown (host := "") (Or.inl (w31 hw)) Via.refl e6 H3 H0 (Or.inl (w32 hw)) (w6 hw) (ty := .int) (by decide) rfl rfl (g := (mkF m 57 #[rv a1, iv key, iv line, iv 1, iv 0, iv l0] [(.int 0), (.ref a1)])) rfl rfl (hb hby d5_57)
    have N8 := Fr.snoc X8 N4 g_a1
    have f9 : Fld Z h8 a1 cBE "first" "I" (.int 0) := H3.same W8
    refine go_st (fun t k => st8 t k) ?_
    refine go_st (fun t k => XS.iload X8.here hx rfl (hb hby d5_60) rfl k) ?_
    show Go _ _ _ _ (T8.setTop (mkF m 62 #[rv a1, iv key, iv line, iv 1, iv 0, iv l0] [(.int l0)]))
    have f10 : Exa Z h8 a1 cBE := (H0.wr W8)
    have f11 : Fld Z h8 a1 cBE "indexes" "[I" (.ref ax) := (H1.other W8 (Or.inr (slot_ne (Or.inl (w16 hw)) (Or.inl (w32 hw)) (by decide) (t := (.array .int)) (t' := .int) (by decide) (by decide))))
    have f12 : Fld Z h8 a1 cBE "lines" "[I" (.ref al) := (H2.other W8 (Or.inr (slot_ne (Or.inl (w18 hw)) (Or.inl (w32 hw)) (by decide) (t := (.array .int)) (t' := .int) (by decide) (by decide))))
    have f13 : Fld Z h8 a1 cBE "count" "I" (.int 3) := (H4.other W8 (Or.inr (slot_ne (Or.inl (w25 hw)) (Or.inl (w32 hw)) (by decide) (t := .int) (t' := .int) (by decide) (by decide))))
    have f14 : Arv Z h8 ax kx .int (64 : Int32) [(.int x0), (.int x1), (.int x2)] (.int (0 : Int32)) := (H5.other W8 (Ne.symm ne_a1_ax))
    have f15 : Arv Z h8 al kl .int (64 : Int32) [(.int l0), (.int l1), (.int l2)] (.int (0 : Int32)) := (H6.other W8 (Ne.symm ne_a1_al))
    have ke16 : Keep h0 h8 [a1] := (Keep.wr (Keep.refl h0 [a1]) W8 (Or.inl (List.mem_of_getElem? (i := 0) rfl)))
    obtain ⟨fs, hr, hrun, hended, hW, hsame⟩ := X8.leave (v := some (.int l0)) (fun h => by rw [Bd.returns] at h; cases h)
    refine ⟨_, _, ?_, hrun, hended, _, _, rfl, ?_, ⟨_, rfl⟩, hW, hsame.mono (by decide) (by decide)⟩
    · exact retI X8 hx Bd.returns (hb hby d5_62) hr
    · show Q_lb_031 _ _ _ _ _ _ _ _ _ _ _ _ _ _ _ _ _ T8.heap _
      rw [e8]
      exact ⟨rfl, N8, ke16, f10, f11, f12, f9, f13, f14, f15⟩
  · skip
    show Go _ _ _ _ (T4.setTop (mkF m 16 #[rv a1, iv key, iv line, .unset, .unset, .unset] [(.int (-2))]))
    refine go_st (fun t k => XS.istoreN X4.here hx rfl (hb hby d5_16) rfl (l' := #[rv a1, iv key, iv line, iv (-2), .unset, .unset]) rfl k) ?_
    refine go_st (fun t k => XS.iloadN X4.here hx rfl (hb hby d5_17) rfl k) ?_
    show Go _ _ _ _ (T4.setTop (mkF m 18 #[rv a1, iv key, iv line, iv (-2), .unset, .unset] [(.int (-2))]))
    refine go_st (fun t k => XS.ifYes X4.here hx rfl (pc0 := 18) (pc' := 25) rfl (hb hby d5_18) rfl ((if0 _ _).trans (tlt ((by decide) : (-2 : Int32) < (0 : Int32))).1) (by decide) (by decide) k) ?_
    show Go _ _ _ _ (T4.setTop (mkF m 25 #[rv a1, iv key, iv line, iv (-2), .unset, .unset] []))
    refine go_st (fun t k => XS.iloadN X4.here hx rfl (hb hby d5_25) rfl k) ?_
    show Go _ _ _ _ (T4.setTop (mkF m 26 #[rv a1, iv key, iv line, iv (-2), .unset, .unset] [(.int (-2))]))
    refine go_st (fun t k => XS.ineg X4.here hx rfl (hb hby d5_26) rfl k) ?_
    rw [show (-(-2 : Int32)) = (2 : Int32) from by decide]
    show Go _ _ _ _ (T4.setTop (mkF m 27 #[rv a1, iv key, iv line, iv (-2), .unset, .unset] [(.int 2)]))
    refine go_st (fun t k => XS.iconst X4.here hx rfl (hb hby d5_27) k) ?_
    show Go _ _ _ _ (T4.setTop (mkF m 28 #[rv a1, iv key, iv line, iv (-2), .unset, .unset] [(.int 1), (.int 2)]))
    refine go_st (fun t k => XS.isub X4.here hx rfl (hb hby d5_28) rfl k) ?_
    rw [show ((2 : Int32) - (1 : Int32)) = (1 : Int32) from by decide]
    show Go _ _ _ _ (T4.setTop (mkF m 29 #[rv a1, iv key, iv line, iv (-2), .unset, .unset] [(.int 1)]))
    refine go_st (fun t k => XS.iconst X4.here hx rfl (hb hby d5_29) k) ?_
    show Go _ _ _ _ (T4.setTop (mkF m 30 #[rv a1, iv key, iv line, iv (-2), .unset, .unset] [(.int 1), (.int 1)]))
    refine go_st (fun t k => XS.isub X4.here hx rfl (hb hby d5_30) rfl k) ?_
    rw [show ((1 : Int32) - (1 : Int32)) = (0 : Int32) from by decide]
    show Go _ _ _ _ (T4.setTop (mkF m 31 #[rv a1, iv key, iv line, iv (-2), .unset, .unset] [(.int 0)]))
    refine go_st (fun t k => XS.istore X4.here hx rfl (hb hby d5_31) rfl (l' := #[rv a1, iv key, iv line, iv (-2), iv 0, .unset]) rfl k) ?_
    refine go_st (fun t k => XS.iloadN X4.here hx rfl (hb hby d5_33) rfl k) ?_
    refine go_st (fun t k => XS.istore X4.here hx rfl (hb hby d5_34) rfl (l' := #[rv a1, iv key, iv line, iv (-2), iv 0, iv line]) rfl k) ?_
    refine go_st (fun t k => XS.iload X4.here hx rfl (hb hby d5_36) rfl k) ?_
    refine go_st (fun t k => XS.aloadN X4.here hx rfl (hb hby d5_38) rfl rfl k) ?_
    show Go _ _ _ _ (T4.setTop (mkF m 39 #[rv a1, iv key, iv line, iv (-2), iv 0, iv line] [(.ref a1), (.int 0)]))
    obtain ⟨T17, X17, e17, st17⟩ := getF X4 hx hZ hown (host := "") (Or.inl (w31 hw)) Via.refl e4 H3 (g := (mkF m 39 #[rv a1, iv key, iv line, iv (-2), iv 0, iv line] [(.ref a1), (.int 0)])) rfl rfl (hb hby d5_39)
    refine go_st (fun t k => st17 t k) ?_
    show Go _ _ _ _ (T17.setTop (mkF m 42 #[rv a1, iv key, iv line, iv (-2), iv 0, iv line] [(.int 0), (.int 0)]))
    refine go_st (fun t k => XS.icmpNo X17.here hx rfl (hb hby d5_42) rfl (flt ((by decide) : ¬ ((0 : Int32) < (0 : Int32)))).1 k) ?_
    show Go _ _ _ _ (T17.setTop (mkF m 45 #[rv a1, iv key, iv line, iv (-2), iv 0, iv line] []))
    refine go_st (fun t k => XS.aloadN X17.here hx rfl (hb hby d5_45) rfl rfl k) ?_
    show Go _ _ _ _ (T17.setTop (mkF m 46 #[rv a1, iv key, iv line, iv (-2), iv 0, iv line] [(.ref a1)]))
    obtain ⟨T18, X18, e18, st18⟩ := getF X17 hx hZ hown (host := "") (Or.inl (w17 hw)) Via.refl e17 H2 (g := (mkF m 46 #[rv a1, iv key, iv line, iv (-2), iv 0, iv line] [(.ref a1)])) rfl rfl (hb hby d5_46)
    refine go_st (fun t k => st18 t k) ?_
    refine go_st (fun t k => XS.iload X18.here hx rfl (hb hby d5_49) rfl k) ?_
    show Go _ _ _ _ (T18.setTop (mkF m 51 #[rv a1, iv key, iv line, iv (-2), iv 0, iv line] [(.int 0), (.ref al)]))
    obtain ⟨zc19, zA19, zq19, zS19, zN19, zH19, zG19⟩ := id H6
    have hin19 : ¬ ((0 : Int32) < 0 ∨ zc19.slots.size ≤ ((0 : Int32)).toNatClampNeg) := inb_of zS19 ⟨by decide, by decide⟩
    have hat19 : zc19.slots[((0 : Int32)).toNatClampNeg]? = some (.int l0) := Has.at zH19 hin19 rfl
    refine go_st (fun t k => X18.iaload hx (j := (0 : Int32)) (v := (.int l0)) (by rw [e18]; exact zA19.1) (State.isArrayOf_alike hZ.alike zA19.2.1) zA19.2.2 hin19 hat19 (g := (mkF m 51 #[rv a1, iv key, iv line, iv (-2), iv 0, iv line] [(.int 0), (.ref al)])) rfl rfl (hb hby d5_51) t k) ?_
    refine go_st (fun t k => XS.istore X18.here hx rfl (hb hby d5_52) rfl (l' := #[rv a1, iv key, iv line, iv (-2), iv 0, iv l0]) rfl k) ?_
    refine go_st (fun t k => XS.aloadN X18.here hx rfl (hb hby d5_54) rfl rfl k) ?_
    refine go_st (fun t k => XS.iload X18.here hx rfl (hb hby d5_55) rfl k) ?_
    show Go _ _ _ _ (T18.setTop (mkF m 57 #[rv a1, iv key, iv line, iv (-2), iv 0, iv l0] [(.int 0), (.ref a1)]))
    obtain ⟨T20, h20, X20, e20, W20, st20⟩ := putF X18 hx hZ hown (host := "") (Or.inl (w31 hw)) Via.refl e18 H3 H0 (Or.inl (w32 hw)) (w6 hw) (ty := .int) (by decide) rfl rfl (g := (mkF m 57 #[rv a1, iv key, iv line, iv (-2), iv 0, iv l0] [(.int 0), (.ref a1)])) rfl rfl (hb hby d5_57)
    have N20 := Fr.snoc X20 N4 g_a1
    have f21 : Fld Z h20 a1 cBE "first" "I" (.int 0) := H3.same W20
    refine go_st (fun t k => st20 t k) ?_
    refine go_st (fun t k => XS.iload X20.here hx rfl (hb hby d5_60) rfl k) ?_
    show Go _ _ _ _ (T20.setTop (mkF m 62 #[rv a1, iv key, iv line, iv (-2), iv 0, iv l0] [(.int l0)]))
    have f22 : Exa Z h20 a1 cBE := (H0.wr W20)
    have f23 : Fld Z h20 a1 cBE "indexes" "[I" (.ref ax) := (H1.other W20 (Or.inr (slot_ne (Or.inl (w16 hw)) (Or.inl (w32 hw)) (by decide) (t := (.array .int)) (t' := .int) (by decide) (by decide))))
    have f24 : Fld Z h20 a1 cBE "lines" "[I" (.ref al) := (H2.other W20 (Or.inr (slot_ne (Or.inl (w18 hw)) (Or.inl (w32 hw)) (by decide) (t := (.array .int)) (t' := .int) (by decide) (by decide))))
    have f25 : Fld Z h20 a1 cBE "count" "I" (.int 3) := (H4.other W20 (Or.inr (slot_ne (Or.inl (w25 hw)) (Or.inl (w32 hw)) (by decide) (t := .int) (t' := .int) (by decide) (by decide))))
    have f26 : Arv Z h20 ax kx .int (64 : Int32) [(.int x0), (.int x1), (.int x2)] (.int (0 : Int32)) := (H5.other W20 (Ne.symm ne_a1_ax))
    have f27 : Arv Z h20 al kl .int (64 : Int32) [(.int l0), (.int l1), (.int l2)] (.int (0 : Int32)) := (H6.other W20 (Ne.symm ne_a1_al))
    have ke28 : Keep h0 h20 [a1] := (Keep.wr (Keep.refl h0 [a1]) W20 (Or.inl (List.mem_of_getElem? (i := 0) rfl)))
    obtain ⟨fs, hr, hrun, hended, hW, hsame⟩ := X20.leave (v := some (.int l0)) (fun h => by rw [Bd.returns] at h; cases h)
    refine ⟨_, _, ?_, hrun, hended, _, _, rfl, ?_, ⟨_, rfl⟩, hW, hsame.mono (by decide) (by decide)⟩
    · exact retI X20 hx Bd.returns (hb hby d5_62) hr
    · show Q_lb_031 _ _ _ _ _ _ _ _ _ _ _ _ _ _ _ _ _ T20.heap _
      rw [e20]
      exact ⟨rfl, N20, ke28, f22, f23, f24, f21, f25, f26, f27⟩
def Q_bs0_032 (Z : State) (ax : Addr) (kx : ClassId) (key : Int32) (x0 : Int32) (x1 : Int32) (x2 : Int32) (h0 : Heap) (n0 : Nat) (vR : Option Value) (h : Heap) (L : List Loc) : Prop := ∃ (r : Int32), vR = some (.int r) ∧ Fr n0 L ∧ h = h0 ∧ (r = (2 : Int32) ∨ r = (-3 : Int32))
theorem ef_bs0_032 (m : MethodId) (x0 : Addr) (x1 : Int32) (x2 : Int32) (x3 : Int32) : entryFrame m #[(.ref x0), (.int x1), (.int x2), (.int x3)] 8 = mkF m 0 #[.val (.ref x0), .val (.int x1), .val (.int x2), .val (.int x3), .unset, .unset, .unset, .unset] [] := by first | (simp [entryFrame, mkF, argsToLocals, Value.category]; done) | rfl
set_option maxRecDepth 65536 in
set_option maxHeartbeats 40000000 in
theorem rm_bs0_032 (l : Launch) (Z : State) (a0 : Array Value) (hw : ∀ d ∈ tables_1, d.before a0 Z = true) (ws : List Jvm.Cond) (ax : Addr) (kx : ClassId) (key : Int32) (x0 : Int32) (x1 : Int32) (x2 : Int32) (h0 : Heap) (n0 : Nat) (Z0 : n0 ≤ h0.size) (H0 : Arv Z h0 ax kx .int (64 : Int32) [(.int x0), (.int x1), (.int x2)] (.int (0 : Int32))) (s0 : x0 < x1) (s1 : x1 < x2) (hl : x1 < key) (hr : ¬ (x2 < key)) :
    MetFree l (⟨"java/util/Arrays", "binarySearch0", "([IIII)I"⟩ : MethodName) (head1 (Jvm.Cond.code (⟨"java/util/Arrays", "binarySearch0", "([IIII)I"⟩ : MethodName) jdk_65_method_59_code 8 (some .int) :: ws) ({ frames := 0, cells := 0, slots := 0, locals := 0 } : Room)) (fun a U => a = #[(.ref ax), (.int 0), (.int 3), (.int key)] ∧ Z.Warmed39 U.vm ∧ U.heap = h0) (fun _ _ _ _ _ => True) (fun _ U o U' => ∃ v L, o = .returned v ∧ Q_bs0_032 Z ax kx key x0 x1 x2 h0 n0 v U'.heap L ∧ FrameEnd U o U' L ({ frames := 0, cells := 0, slots := 0, locals := 0 } : Room).cells ({ frames := 0, cells := 0, slots := 0, locals := 0 } : Room).slots) := by
  refine MetFree.of_bodySF (plainFor_of_name pn_java_util_Arrays) hisR ?_
  intro p e s m args below meth c s₁ Bd hml0 hP hK
  obtain ⟨rfl, hZ, hh⟩ := hP
  have hx := Bd.exec
  have hby := Bd.bytes
  have hml : c.maxLocals = 8 := hml0
  have hown : s.vm.findClass "java/util/Arrays" = some m.cls := findClass_of_methodNamed Bd.named
  have hnm := (name_of_methodNamed Bd.named Bd.method).1
  have X0 : Stand p l e ({ frames := 0, cells := 0, slots := 0, locals := 0 } : Room) s m #[(.ref ax), (.int 0), (.int 3), (.int key)] below meth c s₁ [] 0 0 := Stand.of_body Bd
  have e0 : s₁.heap = h0 := by rw [← hh, Bd.state]; rfl
  have N0 := Fr.nil n0
  refine go_st (fun t k => castTop (ef_bs0_032 m ax (0 : Int32) (3 : Int32) key) k) ?_
  show Go _ _ _ _ (s₁.setTop (mkF m 0 #[rv ax, iv 0, iv 3, iv key, .unset, .unset, .unset, .unset] []))
  refine go_st (fun t k => XS.iloadN X0.here hx rfl (hb hby d3_0) rfl k) ?_
  refine go_st (fun t k => XS.istore X0.here hx rfl (hb hby d3_1) rfl (l' := #[rv ax, iv 0, iv 3, iv key, iv 0, .unset, .unset, .unset]) rfl k) ?_
  refine go_st (fun t k => XS.iloadN X0.here hx rfl (hb hby d3_3) rfl k) ?_
  refine go_st (fun t k => XS.iconst X0.here hx rfl (hb hby d3_4) k) ?_
  show Go _ _ _ _ (s₁.setTop (mkF m 5 #[rv ax, iv 0, iv 3, iv key, iv 0, .unset, .unset, .unset] [(.int 1), (.int 3)]))
  refine go_st (fun t k => XS.isub X0.here hx rfl (hb hby d3_5) rfl k) ?_
  rw [show ((3 : Int32) - (1 : Int32)) = (2 : Int32) from by decide]
  show Go _ _ _ _ (s₁.setTop (mkF m 6 #[rv ax, iv 0, iv 3, iv key, iv 0, .unset, .unset, .unset] [(.int 2)]))
  refine go_st (fun t k => XS.istore X0.here hx rfl (hb hby d3_6) rfl (l' := #[rv ax, iv 0, iv 3, iv key, iv 0, iv 2, .unset, .unset]) rfl k) ?_
  refine go_st (fun t k => XS.iload X0.here hx rfl (hb hby d3_8) rfl k) ?_
  refine go_st (fun t k => XS.iload X0.here hx rfl (hb hby d3_10) rfl k) ?_
  show Go _ _ _ _ (s₁.setTop (mkF m 12 #[rv ax, iv 0, iv 3, iv key, iv 0, iv 2, .unset, .unset] [(.int 2), (.int 0)]))
  refine go_st (fun t k => XS.icmpNo X0.here hx rfl (hb hby d3_12) rfl (flt ((by decide) : ¬ ((2 : Int32) < (0 : Int32)))).2.2.1 k) ?_
  show Go _ _ _ _ (s₁.setTop (mkF m 15 #[rv ax, iv 0, iv 3, iv key, iv 0, iv 2, .unset, .unset] []))
  refine go_st (fun t k => XS.iload X0.here hx rfl (hb hby d3_15) rfl k) ?_
  refine go_st (fun t k => XS.iload X0.here hx rfl (hb hby d3_17) rfl k) ?_
  show Go _ _ _ _ (s₁.setTop (mkF m 19 #[rv ax, iv 0, iv 3, iv key, iv 0, iv 2, .unset, .unset] [(.int 2), (.int 0)]))
  refine go_st (fun t k => XS.iadd X0.here hx rfl (hb hby d3_19) rfl k) ?_
  rw [show ((0 : Int32) + (2 : Int32)) = (2 : Int32) from by decide]
  show Go _ _ _ _ (s₁.setTop (mkF m 20 #[rv ax, iv 0, iv 3, iv key, iv 0, iv 2, .unset, .unset] [(.int 2)]))
  refine go_st (fun t k => XS.iconst X0.here hx rfl (hb hby d3_20) k) ?_
  show Go _ _ _ _ (s₁.setTop (mkF m 21 #[rv ax, iv 0, iv 3, iv key, iv 0, iv 2, .unset, .unset] [(.int 1), (.int 2)]))
  refine go_st (fun t k => XS.iushr X0.here hx rfl (hb hby d3_21) rfl k) ?_
  rw [show (((2 : Int32)).toUInt32 >>> ((1 : Int32) &&& 31).toUInt32).toInt32 = (1 : Int32) from by decide]
  show Go _ _ _ _ (s₁.setTop (mkF m 22 #[rv ax, iv 0, iv 3, iv key, iv 0, iv 2, .unset, .unset] [(.int 1)]))
  refine go_st (fun t k => XS.istore X0.here hx rfl (hb hby d3_22) rfl (l' := #[rv ax, iv 0, iv 3, iv key, iv 0, iv 2, iv 1, .unset]) rfl k) ?_
  refine go_st (fun t k => XS.aloadN X0.here hx rfl (hb hby d3_24) rfl rfl k) ?_
  refine go_st (fun t k => XS.iload X0.here hx rfl (hb hby d3_25) rfl k) ?_
  show Go _ _ _ _ (s₁.setTop (mkF m 27 #[rv ax, iv 0, iv 3, iv key, iv 0, iv 2, iv 1, .unset] [(.int 1), (.ref ax)]))
  obtain ⟨zc1, zA1, zq1, zS1, zN1, zH1, zG1⟩ := id H0
  have hin1 : ¬ ((1 : Int32) < 0 ∨ zc1.slots.size ≤ ((1 : Int32)).toNatClampNeg) := inb_of zS1 ⟨by decide, by decide⟩
  have hat1 : zc1.slots[((1 : Int32)).toNatClampNeg]? = some (.int x1) := Has.at zH1 hin1 rfl
  refine go_st (fun t k => X0.iaload hx (j := (1 : Int32)) (v := (.int x1)) (by rw [e0]; exact zA1.1) (State.isArrayOf_alike hZ.alike zA1.2.1) zA1.2.2 hin1 hat1 (g := (mkF m 27 #[rv ax, iv 0, iv 3, iv key, iv 0, iv 2, iv 1, .unset] [(.int 1), (.ref ax)])) rfl rfl (hb hby d3_27) t k) ?_
  refine go_st (fun t k => XS.istore X0.here hx rfl (hb hby d3_28) rfl (l' := #[rv ax, iv 0, iv 3, iv key, iv 0, iv 2, iv 1, iv x1]) rfl k) ?_
  refine go_st (fun t k => XS.iload X0.here hx rfl (hb hby d3_30) rfl k) ?_
  refine go_st (fun t k => XS.iloadN X0.here hx rfl (hb hby d3_32) rfl k) ?_
  show Go _ _ _ _ (s₁.setTop (mkF m 33 #[rv ax, iv 0, iv 3, iv key, iv 0, iv 2, iv 1, iv x1] [(.int key), (.int x1)]))
  refine go_st (fun t k => XS.icmpNo X0.here hx rfl (hb hby d3_33) rfl (tlt (hl : x1 < key)).2.1 k) ?_
  show Go _ _ _ _ (s₁.setTop (mkF m 36 #[rv ax, iv 0, iv 3, iv key, iv 0, iv 2, iv 1, iv x1] []))
  refine go_st (fun t k => XS.iload X0.here hx rfl (hb hby d3_36) rfl k) ?_
  refine go_st (fun t k => XS.iconst X0.here hx rfl (hb hby d3_38) k) ?_
  show Go _ _ _ _ (s₁.setTop (mkF m 39 #[rv ax, iv 0, iv 3, iv key, iv 0, iv 2, iv 1, iv x1] [(.int 1), (.int 1)]))
  refine go_st (fun t k => XS.iadd X0.here hx rfl (hb hby d3_39) rfl k) ?_
  rw [show ((1 : Int32) + (1 : Int32)) = (2 : Int32) from by decide]
  show Go _ _ _ _ (s₁.setTop (mkF m 40 #[rv ax, iv 0, iv 3, iv key, iv 0, iv 2, iv 1, iv x1] [(.int 2)]))
  refine go_st (fun t k => XS.istore X0.here hx rfl (hb hby d3_40) rfl (l' := #[rv ax, iv 0, iv 3, iv key, iv 2, iv 2, iv 1, iv x1]) rfl k) ?_
  refine go_st (fun t k => XS.goto X0.here hx rfl (pc0 := 42) (pc' := 63) rfl (hb hby d3_42) (by decide) (by decide) k) ?_
  show Go _ _ _ _ (s₁.setTop (mkF m 63 #[rv ax, iv 0, iv 3, iv key, iv 2, iv 2, iv 1, iv x1] []))
  refine go_st (fun t k => XS.goto X0.here hx rfl (pc0 := 63) (pc' := 8) rfl (hb hby d3_63) (by decide) (by decide) k) ?_
  show Go _ _ _ _ (s₁.setTop (mkF m 8 #[rv ax, iv 0, iv 3, iv key, iv 2, iv 2, iv 1, iv x1] []))
  refine go_st (fun t k => XS.iload X0.here hx rfl (hb hby d3_8) rfl k) ?_
  refine go_st (fun t k => XS.iload X0.here hx rfl (hb hby d3_10) rfl k) ?_
  show Go _ _ _ _ (s₁.setTop (mkF m 12 #[rv ax, iv 0, iv 3, iv key, iv 2, iv 2, iv 1, iv x1] [(.int 2), (.int 2)]))
  refine go_st (fun t k => XS.icmpNo X0.here hx rfl (hb hby d3_12) rfl (flt ((by decide) : ¬ ((2 : Int32) < (2 : Int32)))).2.2.1 k) ?_
  show Go _ _ _ _ (s₁.setTop (mkF m 15 #[rv ax, iv 0, iv 3, iv key, iv 2, iv 2, iv 1, iv x1] []))
  refine go_st (fun t k => XS.iload X0.here hx rfl (hb hby d3_15) rfl k) ?_
  refine go_st (fun t k => XS.iload X0.here hx rfl (hb hby d3_17) rfl k) ?_
  show Go _ _ _ _ (s₁.setTop (mkF m 19 #[rv ax, iv 0, iv 3, iv key, iv 2, iv 2, iv 1, iv x1] [(.int 2), (.int 2)]))
  refine go_st (fun t k => XS.iadd X0.here hx rfl (hb hby d3_19) rfl k) ?_
  rw [show ((2 : Int32) + (2 : Int32)) = (4 : Int32) from by decide]
  show Go _ _ _ _ (s₁.setTop (mkF m 20 #[rv ax, iv 0, iv 3, iv key, iv 2, iv 2, iv 1, iv x1] [(.int 4)]))
  refine go_st (fun t k => XS.iconst X0.here hx rfl (hb hby d3_20) k) ?_
  show Go _ _ _ _ (s₁.setTop (mkF m 21 #[rv ax, iv 0, iv 3, iv key, iv 2, iv 2, iv 1, iv x1] [(.int 1), (.int 4)]))
  refine go_st (fun t k => XS.iushr X0.here hx rfl (hb hby d3_21) rfl k) ?_
  rw [show (((4 : Int32)).toUInt32 >>> ((1 : Int32) &&& 31).toUInt32).toInt32 = (2 : Int32) from by decide]
  show Go _ _ _ _ (s₁.setTop (mkF m 22 #[rv ax, iv 0, iv 3, iv key, iv 2, iv 2, iv 1, iv x1] [(.int 2)]))
  refine go_st (fun t k => XS.istore X0.here hx rfl (hb hby d3_22) rfl (l' := #[rv ax, iv 0, iv 3, iv key, iv 2, iv 2, iv 2, iv x1]) rfl k) ?_
  refine go_st (fun t k => XS.aloadN X0.here hx rfl (hb hby d3_24) rfl rfl k) ?_
  refine go_st (fun t k => XS.iload X0.here hx rfl (hb hby d3_25) rfl k) ?_
  show Go _ _ _ _ (s₁.setTop (mkF m 27 #[rv ax, iv 0, iv 3, iv key, iv 2, iv 2, iv 2, iv x1] [(.int 2), (.ref ax)]))
  obtain ⟨zc2, zA2, zq2, zS2, zN2, zH2, zG2⟩ := id H0
  have hin2 : ¬ ((2 : Int32) < 0 ∨ zc2.slots.size ≤ ((2 : Int32)).toNatClampNeg) := inb_of zS2 ⟨by decide, by decide⟩
  have hat2 : zc2.slots[((2 : Int32)).toNatClampNeg]? = some (.int x2) := Has.at zH2 hin2 rfl
  refine go_st (fun t k => X0.iaload hx (j := (2 : Int32)) (v := (.int x2)) (by rw [e0]; exact zA2.1) (State.isArrayOf_alike hZ.alike zA2.2.1) zA2.2.2 hin2 hat2 (g := (mkF m 27 #[rv ax, iv 0, iv 3, iv key, iv 2, iv 2, iv 2, iv x1] [(.int 2), (.ref ax)])) rfl rfl (hb hby d3_27) t k) ?_
  refine go_st (fun t k => XS.istore X0.here hx rfl (hb hby d3_28) rfl (l' := #[rv ax, iv 0, iv 3, iv key, iv 2, iv 2, iv 2, iv x2]) rfl k) ?_
  refine go_st (fun t k => XS.iload X0.here hx rfl (hb hby d3_30) rfl k) ?_
  refine go_st (fun t k => XS.iloadN X0.here hx rfl (hb hby d3_32) rfl k) ?_
  show Go _ _ _ _ (s₁.setTop (mkF m 33 #[rv ax, iv 0, iv 3, iv key, iv 2, iv 2, iv 2, iv x2] [(.int key), (.int x2)]))
  refine go_st (fun t k => XS.icmpYes X0.here hx rfl (pc0 := 33) (pc' := 45) rfl (hb hby d3_33) rfl (flt (hr : ¬ (x2 < key))).2.1 (by decide) (by decide) k) ?_
  show Go _ _ _ _ (s₁.setTop (mkF m 45 #[rv ax, iv 0, iv 3, iv key, iv 2, iv 2, iv 2, iv x2] []))
  refine go_st (fun t k => XS.iload X0.here hx rfl (hb hby d3_45) rfl k) ?_
  refine go_st (fun t k => XS.iloadN X0.here hx rfl (hb hby d3_47) rfl k) ?_
  show Go _ _ _ _ (s₁.setTop (mkF m 48 #[rv ax, iv 0, iv 3, iv key, iv 2, iv 2, iv 2, iv x2] [(.int key), (.int x2)]))
  by_cases hc3 : key < x2
  · skip
    refine go_st (fun t k => XS.icmpNo X0.here hx rfl (hb hby d3_48) rfl (tlt (hc3 : key < x2)).2.2.2 k) ?_
    show Go _ _ _ _ (s₁.setTop (mkF m 51 #[rv ax, iv 0, iv 3, iv key, iv 2, iv 2, iv 2, iv x2] []))
    refine go_st (fun t k => XS.iload X0.here hx rfl (hb hby d3_51) rfl k) ?_
    refine go_st (fun t k => XS.iconst X0.here hx rfl (hb hby d3_53) k) ?_
    show Go _ _ _ _ (s₁.setTop (mkF m 54 #[rv ax, iv 0, iv 3, iv key, iv 2, iv 2, iv 2, iv x2] [(.int 1), (.int 2)]))
    refine go_st (fun t k => XS.isub X0.here hx rfl (hb hby d3_54) rfl k) ?_
    rw [show ((2 : Int32) - (1 : Int32)) = (1 : Int32) from by decide]
    show Go _ _ _ _ (s₁.setTop (mkF m 55 #[rv ax, iv 0, iv 3, iv key, iv 2, iv 2, iv 2, iv x2] [(.int 1)]))
    refine go_st (fun t k => XS.istore X0.here hx rfl (hb hby d3_55) rfl (l' := #[rv ax, iv 0, iv 3, iv key, iv 2, iv 1, iv 2, iv x2]) rfl k) ?_
    refine go_st (fun t k => XS.goto X0.here hx rfl (pc0 := 57) (pc' := 63) rfl (hb hby d3_57) (by decide) (by decide) k) ?_
    show Go _ _ _ _ (s₁.setTop (mkF m 63 #[rv ax, iv 0, iv 3, iv key, iv 2, iv 1, iv 2, iv x2] []))
    refine go_st (fun t k => XS.goto X0.here hx rfl (pc0 := 63) (pc' := 8) rfl (hb hby d3_63) (by decide) (by decide) k) ?_
    show Go _ _ _ _ (s₁.setTop (mkF m 8 #[rv ax, iv 0, iv 3, iv key, iv 2, iv 1, iv 2, iv x2] []))
    refine go_st (fun t k => XS.iload X0.here hx rfl (hb hby d3_8) rfl k) ?_
    refine go_st (fun t k => XS.iload X0.here hx rfl (hb hby d3_10) rfl k) ?_
    show Go _ _ _ _ (s₁.setTop (mkF m 12 #[rv ax, iv 0, iv 3, iv key, iv 2, iv 1, iv 2, iv x2] [(.int 1), (.int 2)]))
    refine go_st (fun t k => XS.icmpYes X0.here hx rfl (pc0 := 12) (pc' := 66) rfl (hb hby d3_12) rfl (tlt ((by decide) : (1 : Int32) < (2 : Int32))).2.2.1 (by decide) (by decide) k) ?_
    show Go _ _ _ _ (s₁.setTop (mkF m 66 #[rv ax, iv 0, iv 3, iv key, iv 2, iv 1, iv 2, iv x2] []))
    refine go_st (fun t k => XS.iload X0.here hx rfl (hb hby d3_66) rfl k) ?_
    refine go_st (fun t k => XS.iconst X0.here hx rfl (hb hby d3_68) k) ?_
    show Go _ _ _ _ (s₁.setTop (mkF m 69 #[rv ax, iv 0, iv 3, iv key, iv 2, iv 1, iv 2, iv x2] [(.int 1), (.int 2)]))
    refine go_st (fun t k => XS.iadd X0.here hx rfl (hb hby d3_69) rfl k) ?_
    rw [show ((2 : Int32) + (1 : Int32)) = (3 : Int32) from by decide]
    show Go _ _ _ _ (s₁.setTop (mkF m 70 #[rv ax, iv 0, iv 3, iv key, iv 2, iv 1, iv 2, iv x2] [(.int 3)]))
    refine go_st (fun t k => XS.ineg X0.here hx rfl (hb hby d3_70) rfl k) ?_
    rw [show (-(3 : Int32)) = (-3 : Int32) from by decide]
    show Go _ _ _ _ (s₁.setTop (mkF m 71 #[rv ax, iv 0, iv 3, iv key, iv 2, iv 1, iv 2, iv x2] [(.int (-3))]))
    obtain ⟨fs, hr, hrun, hended, hW, hsame⟩ := X0.leave (v := some (.int (-3))) (fun h => by rw [Bd.returns] at h; cases h)
    refine ⟨_, _, ?_, hrun, hended, _, _, rfl, ?_, ⟨_, rfl⟩, hW, hsame.mono (by decide) (by decide)⟩
    · exact retI X0 hx Bd.returns (hb hby d3_71) hr
    · show Q_bs0_032 _ _ _ _ _ _ _ _ _ _ s₁.heap _
      rw [e0]
      exact ⟨(-3 : Int32), rfl, N0, rfl, (Or.inr rfl)⟩
  · skip
    refine go_st (fun t k => XS.icmpYes X0.here hx rfl (pc0 := 48) (pc' := 60) rfl (hb hby d3_48) rfl (flt (hc3 : ¬ (key < x2))).2.2.2 (by decide) (by decide) k) ?_
    show Go _ _ _ _ (s₁.setTop (mkF m 60 #[rv ax, iv 0, iv 3, iv key, iv 2, iv 2, iv 2, iv x2] []))
    refine go_st (fun t k => XS.iload X0.here hx rfl (hb hby d3_60) rfl k) ?_
    show Go _ _ _ _ (s₁.setTop (mkF m 62 #[rv ax, iv 0, iv 3, iv key, iv 2, iv 2, iv 2, iv x2] [(.int 2)]))
    obtain ⟨fs, hr, hrun, hended, hW, hsame⟩ := X0.leave (v := some (.int 2)) (fun h => by rw [Bd.returns] at h; cases h)
    refine ⟨_, _, ?_, hrun, hended, _, _, rfl, ?_, ⟨_, rfl⟩, hW, hsame.mono (by decide) (by decide)⟩
    · exact retI X0 hx Bd.returns (hb hby d3_62) hr
    · show Q_bs0_032 _ _ _ _ _ _ _ _ _ _ s₁.heap _
      rw [e0]
      exact ⟨(2 : Int32), rfl, N0, rfl, (Or.inl rfl)⟩
def Q_bs_032 (Z : State) (ax : Addr) (kx : ClassId) (key : Int32) (x0 : Int32) (x1 : Int32) (x2 : Int32) (h0 : Heap) (n0 : Nat) (vR : Option Value) (h : Heap) (L : List Loc) : Prop := ∃ (r : Int32), vR = some (.int r) ∧ Fr n0 L ∧ h = h0 ∧ (r = (2 : Int32) ∨ r = (-3 : Int32))
theorem ef_bs_032 (m : MethodId) (x0 : Addr) (x1 : Int32) (x2 : Int32) (x3 : Int32) : entryFrame m #[(.ref x0), (.int x1), (.int x2), (.int x3)] 4 = mkF m 0 #[.val (.ref x0), .val (.int x1), .val (.int x2), .val (.int x3)] [] := by first | (simp [entryFrame, mkF, argsToLocals, Value.category]; done) | rfl
set_option maxRecDepth 65536 in
set_option maxHeartbeats 40000000 in
theorem rm_bs_032 (l : Launch) (Z : State) (a0 : Array Value) (hw : ∀ d ∈ tables_1, d.before a0 Z = true) (ws : List Jvm.Cond) (ax : Addr) (kx : ClassId) (key : Int32) (x0 : Int32) (x1 : Int32) (x2 : Int32) (h0 : Heap) (n0 : Nat) (Z0 : n0 ≤ h0.size) (H0 : Arv Z h0 ax kx .int (64 : Int32) [(.int x0), (.int x1), (.int x2)] (.int (0 : Int32))) (s0 : x0 < x1) (s1 : x1 < x2) (hl : x1 < key) (hr : ¬ (x2 < key)) :
    MetFree l (⟨"java/util/Arrays", "binarySearch", "([IIII)I"⟩ : MethodName) (head1 (Jvm.Cond.code (⟨"java/util/Arrays", "binarySearch", "([IIII)I"⟩ : MethodName) jdk_65_method_58_code 4 (some .int) :: ws) ({ frames := 1, cells := 0, slots := 0, locals := 19 } : Room)) (fun a U => a = #[(.ref ax), (.int 0), (.int 3), (.int key)] ∧ Z.Warmed39 U.vm ∧ U.heap = h0) (fun _ _ _ _ _ => True) (fun _ U o U' => ∃ v L, o = .returned v ∧ Q_bs_032 Z ax kx key x0 x1 x2 h0 n0 v U'.heap L ∧ FrameEnd U o U' L ({ frames := 1, cells := 0, slots := 0, locals := 19 } : Room).cells ({ frames := 1, cells := 0, slots := 0, locals := 19 } : Room).slots) := by
  refine MetFree.of_bodySF (plainFor_of_name pn_java_util_Arrays) hisR ?_
  intro p e s m args below meth c s₁ Bd hml0 hP hK
  obtain ⟨rfl, hZ, hh⟩ := hP
  have hx := Bd.exec
  have hby := Bd.bytes
  have hml : c.maxLocals = 4 := hml0
  have hown : s.vm.findClass "java/util/Arrays" = some m.cls := findClass_of_methodNamed Bd.named
  have hnm := (name_of_methodNamed Bd.named Bd.method).1
  have X0 : Stand p l e ({ frames := 1, cells := 0, slots := 0, locals := 19 } : Room) s m #[(.ref ax), (.int 0), (.int 3), (.int key)] below meth c s₁ [] 0 0 := Stand.of_body Bd
  have e0 : s₁.heap = h0 := by rw [← hh, Bd.state]; rfl
  have N0 := Fr.nil n0
  refine go_st (fun t k => castTop (ef_bs_032 m ax (0 : Int32) (3 : Int32) key) k) ?_
  show Go _ _ _ _ (s₁.setTop (mkF m 0 #[rv ax, iv 0, iv 3, iv key] []))
  refine go_st (fun t k => XS.aloadN X0.here hx rfl (hb hby d4_0) rfl rfl k) ?_
  show Go _ _ _ _ (s₁.setTop (mkF m 1 #[rv ax, iv 0, iv 3, iv key] [(.ref ax)]))
  obtain ⟨zc1, zA1, zq1, zS1, zN1, zH1, zG1⟩ := id H0
  refine go_st (fun t k => X0.arraylength hx (by rw [e0]; exact zA1.1) (State.isArrayOf_alike hZ.alike zA1.2.1) (g := (mkF m 1 #[rv ax, iv 0, iv 3, iv key] [(.ref ax)])) rfl rfl (hb hby d4_1) t k) ?_
  rw [len_of zS1 zN1]
  refine go_st (fun t k => XS.iloadN X0.here hx rfl (hb hby d4_2) rfl k) ?_
  refine go_st (fun t k => XS.iloadN X0.here hx rfl (hb hby d4_3) rfl k) ?_
  show Go _ _ _ _ (s₁.setTop (mkF m 4 #[rv ax, iv 0, iv 3, iv key] [(.int 3), (.int 0), (.int 64)]))
  obtain ⟨_, _, ⟨T2, L2, kk2, nn2⟩, -, X2, ⟨Lc2, hQ2, lq2, yq2, zq2⟩, st2⟩ := Jvm.LawKit.callS X0 hx (y := (⟨"java/util/Arrays", "rangeCheck", "(III)V"⟩ : MethodName)) hown (mvT hZ (w37 hw)) (mvT hZ (w38 hw)) (mvT hZ (w35 hw)) (mvT hZ (w39 hw)) (by decide) (backOf (W := 0) (rm_rc_03 l Z a0 hw []  h0 n0 (Nat.le_trans Z0 (Nat.le_refl _)) ) hZ (w39 hw) (w35 hw) (by decide) (by decide)) (g := (mkF m 4 #[rv ax, iv 0, iv 3, iv key] [(.int 3), (.int 0), (.int 64)])) rfl (by rw [hml]; rfl) (argsL := [(.int 64), (.int 0), (.int 3)]) (rest := []) (lenOf pd_0 rfl) rfl (by show 2 * 0 + _ ≤ _; exact Nat.le_of_eq rfl) (hb hby d4_4) (fun _ _ => ⟨rfl, e0, (by decide : 0 + 0 ≤ _), (by decide : 0 + 0 ≤ _)⟩)
  dsimp only [Pt.U, Pt.locs, Pt.cells, Pt.slots] at X2 lq2 yq2 zq2 st2 hQ2
  subst lq2 yq2 zq2
  obtain ⟨h2, e2⟩ : ∃ z, T2.heap = z := ⟨_, rfl⟩
  rw [e2] at hQ2
  obtain ⟨rfl, N2q, he2⟩ := hQ2
  have N2 := Fr.app N0 N2q
  rw [he2] at e2
  refine go_st st2 ?_
  show Go _ _ _ _ (T2.setTop (mkF m 7 #[rv ax, iv 0, iv 3, iv key] []))
  refine go_st (fun t k => XS.aloadN X2.here hx rfl (hb hby d4_7) rfl rfl k) ?_
  refine go_st (fun t k => XS.iloadN X2.here hx rfl (hb hby d4_8) rfl k) ?_
  refine go_st (fun t k => XS.iloadN X2.here hx rfl (hb hby d4_9) rfl k) ?_
  refine go_st (fun t k => XS.iloadN X2.here hx rfl (hb hby d4_10) rfl k) ?_
  show Go _ _ _ _ (T2.setTop (mkF m 11 #[rv ax, iv 0, iv 3, iv key] [(.int key), (.int 3), (.int 0), (.ref ax)]))
  obtain ⟨_, _, ⟨T3, L3, kk3, nn3⟩, -, X3, ⟨Lc3, hQ3, lq3, yq3, zq3⟩, st3⟩ := Jvm.LawKit.callS X2 hx (y := (⟨"java/util/Arrays", "binarySearch0", "([IIII)I"⟩ : MethodName)) hown (mvT hZ (w40 hw)) (mvT hZ (w41 hw)) (mvT hZ (w35 hw)) (mvT hZ (w42 hw)) (by decide) (backOf (W := 0) (rm_bs0_032 l Z a0 hw [] ax kx key x0 x1 x2 h0 n0 (Nat.le_trans Z0 (Nat.le_refl _)) H0 s0 s1 hl hr) hZ (w42 hw) (w35 hw) (by decide) (by decide)) (g := (mkF m 11 #[rv ax, iv 0, iv 3, iv key] [(.int key), (.int 3), (.int 0), (.ref ax)])) rfl (by rw [hml]; rfl) (argsL := [(.ref ax), (.int 0), (.int 3), (.int key)]) (rest := []) (lenOf pd_1 rfl) rfl (by show 2 * 0 + _ ≤ _; exact Nat.le_of_eq rfl) (hb hby d4_11) (fun _ _ => ⟨rfl, e2, (by decide : 0 + 0 ≤ _), (by decide : 0 + 0 ≤ _)⟩)
  dsimp only [Pt.U, Pt.locs, Pt.cells, Pt.slots] at X3 lq3 yq3 zq3 st3 hQ3
  subst lq3 yq3 zq3
  obtain ⟨h3, e3⟩ : ∃ z, T3.heap = z := ⟨_, rfl⟩
  rw [e3] at hQ3
  obtain ⟨r_3, rfl, N3q, he3, hres_3⟩ := hQ3
  have N3 := Fr.app N2 N3q
  rw [he3] at e3
  refine go_st st3 ?_
  show Go _ _ _ _ (T3.setTop (mkF m 14 #[rv ax, iv 0, iv 3, iv key] [(.int r_3)]))
  obtain ⟨fs, hr, hrun, hended, hW, hsame⟩ := X3.leave (v := some (.int r_3)) (fun h => by rw [Bd.returns] at h; cases h)
  refine ⟨_, _, ?_, hrun, hended, _, _, rfl, ?_, ⟨_, rfl⟩, hW, hsame.mono (by decide) (by decide)⟩
  · exact retI X3 hx Bd.returns (hb hby d4_14) hr
  · show Q_bs_032 _ _ _ _ _ _ _ _ _ _ T3.heap _
    rw [e3]
    exact ⟨r_3, rfl, N3, rfl, hres_3⟩
def Q_lb_032 (Z : State) (a1 : Addr) (ax : Addr) (al : Addr) (kx : ClassId) (kl : ClassId) (key : Int32) (line : Int32) (x0 : Int32) (x1 : Int32) (x2 : Int32) (l0 : Int32) (l1 : Int32) (l2 : Int32) (h0 : Heap) (n0 : Nat) (vR : Option Value) (h : Heap) (L : List Loc) : Prop := vR = some (.int l1) ∧ Fr n0 L ∧ Keep h0 h [a1] ∧ (Exa Z h a1 cBE) ∧ (Fld Z h a1 cBE "indexes" "[I" (.ref ax)) ∧ (Fld Z h a1 cBE "lines" "[I" (.ref al)) ∧ (Fld Z h a1 cBE "first" "I" (.int 1)) ∧ (Fld Z h a1 cBE "count" "I" (.int 3)) ∧ (Arv Z h ax kx .int (64 : Int32) [(.int x0), (.int x1), (.int x2)] (.int (0 : Int32))) ∧ (Arv Z h al kl .int (64 : Int32) [(.int l0), (.int l1), (.int l2)] (.int (0 : Int32)))
theorem ef_lb_032 (m : MethodId) (x0 : Addr) (x1 : Int32) (x2 : Int32) : entryFrame m #[(.ref x0), (.int x1), (.int x2)] 6 = mkF m 0 #[.val (.ref x0), .val (.int x1), .val (.int x2), .unset, .unset, .unset] [] := by first | (simp [entryFrame, mkF, argsToLocals, Value.category]; done) | rfl
set_option maxRecDepth 65536 in
set_option maxHeartbeats 40000000 in
theorem rm_lb_032 (l : Launch) (Z : State) (a0 : Array Value) (hw : ∀ d ∈ tables_1, d.before a0 Z = true) (ws : List Jvm.Cond) (a1 : Addr) (ax : Addr) (al : Addr) (kx : ClassId) (kl : ClassId) (key : Int32) (line : Int32) (x0 : Int32) (x1 : Int32) (x2 : Int32) (l0 : Int32) (l1 : Int32) (l2 : Int32) (h0 : Heap) (n0 : Nat) (Z0 : n0 ≤ h0.size) (H0 : Exa Z h0 a1 cBE) (H1 : Fld Z h0 a1 cBE "indexes" "[I" (.ref ax)) (H2 : Fld Z h0 a1 cBE "lines" "[I" (.ref al)) (H3 : Fld Z h0 a1 cBE "first" "I" (.int 0)) (H4 : Fld Z h0 a1 cBE "count" "I" (.int 3)) (H5 : Arv Z h0 ax kx .int (64 : Int32) [(.int x0), (.int x1), (.int x2)] (.int (0 : Int32))) (H6 : Arv Z h0 al kl .int (64 : Int32) [(.int l0), (.int l1), (.int l2)] (.int (0 : Int32))) (ne_a1_ax : a1 ≠ ax) (ne_a1_al : a1 ≠ al) (ne_ax_al : ax ≠ al) (g_a1 : n0 ≤ a1) (s0 : x0 < x1) (s1 : x1 < x2) (hl : x1 < key) (hr : ¬ (x2 < key)) :
    MetFree l (⟨"com/example/nudge/nudge/tree/BlockEntries", "lineBefore", "(II)I"⟩ : MethodName) (head1 (Jvm.Cond.code (⟨"com/example/nudge/nudge/tree/BlockEntries", "lineBefore", "(II)I"⟩ : MethodName) prog_17_method_3_code 6 (some .int) :: ws) ({ frames := 2, cells := 0, slots := 0, locals := 34 } : Room)) (fun a U => a = #[(.ref a1), (.int key), (.int line)] ∧ Z.Warmed39 U.vm ∧ U.heap = h0) (fun _ _ _ _ _ => True) (fun _ U o U' => ∃ v L, o = .returned v ∧ Q_lb_032 Z a1 ax al kx kl key line x0 x1 x2 l0 l1 l2 h0 n0 v U'.heap L ∧ FrameEnd U o U' L ({ frames := 2, cells := 0, slots := 0, locals := 34 } : Room).cells ({ frames := 2, cells := 0, slots := 0, locals := 34 } : Room).slots) := by
  refine MetFree.of_bodySF (plainFor_of_name pn_com_example_nudge_nudge_tree_BlockEntries) hisR ?_
  intro p e s m args below meth c s₁ Bd hml0 hP hK
  obtain ⟨rfl, hZ, hh⟩ := hP
  have hx := Bd.exec
  have hby := Bd.bytes
  have hml : c.maxLocals = 6 := hml0
  have hown : s.vm.findClass "com/example/nudge/nudge/tree/BlockEntries" = some m.cls := findClass_of_methodNamed Bd.named
  have hnm := (name_of_methodNamed Bd.named Bd.method).1
  have X0 : Stand p l e ({ frames := 2, cells := 0, slots := 0, locals := 34 } : Room) s m #[(.ref a1), (.int key), (.int line)] below meth c s₁ [] 0 0 := Stand.of_body Bd
  have e0 : s₁.heap = h0 := by rw [← hh, Bd.state]; rfl
  have N0 := Fr.nil n0
  refine go_st (fun t k => castTop (ef_lb_032 m a1 key line) k) ?_
  show Go _ _ _ _ (s₁.setTop (mkF m 0 #[rv a1, iv key, iv line, .unset, .unset, .unset] []))
  refine go_st (fun t k => XS.aloadN X0.here hx rfl (hb hby d5_0) rfl rfl k) ?_
  show Go _ _ _ _ (s₁.setTop (mkF m 1 #[rv a1, iv key, iv line, .unset, .unset, .unset] [(.ref a1)]))
  obtain ⟨T1, X1, e1, st1⟩ := getF X0 hx hZ hown (host := "") (Or.inl (w15 hw)) Via.refl e0 H1 (g := (mkF m 1 #[rv a1, iv key, iv line, .unset, .unset, .unset] [(.ref a1)])) rfl rfl (hb hby d5_1)
  refine go_st (fun t k => st1 t k) ?_
  refine go_st (fun t k => XS.aloadN X1.here hx rfl (hb hby d5_4) rfl rfl k) ?_
  show Go _ _ _ _ (T1.setTop (mkF m 5 #[rv a1, iv key, iv line, .unset, .unset, .unset] [(.ref a1), (.ref ax)]))
  obtain ⟨T2, X2, e2, st2⟩ := getF X1 hx hZ hown (host := "") (Or.inl (w31 hw)) Via.refl e1 H3 (g := (mkF m 5 #[rv a1, iv key, iv line, .unset, .unset, .unset] [(.ref a1), (.ref ax)])) rfl rfl (hb hby d5_5)
  refine go_st (fun t k => st2 t k) ?_
  refine go_st (fun t k => XS.aloadN X2.here hx rfl (hb hby d5_8) rfl rfl k) ?_
  show Go _ _ _ _ (T2.setTop (mkF m 9 #[rv a1, iv key, iv line, .unset, .unset, .unset] [(.ref a1), (.int 0), (.ref ax)]))
  obtain ⟨T3, X3, e3, st3⟩ := getF X2 hx hZ hown (host := "") (Or.inl (w24 hw)) Via.refl e2 H4 (g := (mkF m 9 #[rv a1, iv key, iv line, .unset, .unset, .unset] [(.ref a1), (.int 0), (.ref ax)])) rfl rfl (hb hby d5_9)
  refine go_st (fun t k => st3 t k) ?_
  refine go_st (fun t k => XS.iloadN X3.here hx rfl (hb hby d5_12) rfl k) ?_
  show Go _ _ _ _ (T3.setTop (mkF m 13 #[rv a1, iv key, iv line, .unset, .unset, .unset] [(.int key), (.int 3), (.int 0), (.ref ax)]))
  obtain ⟨_, _, ⟨T4, L4, kk4, nn4⟩, -, X4, ⟨Lc4, hQ4, lq4, yq4, zq4⟩, st4⟩ := Jvm.LawKit.callS X3 hx (y := (⟨"java/util/Arrays", "binarySearch", "([IIII)I"⟩ : MethodName)) hown (mvT hZ (w33 hw)) (mvT hZ (w34 hw)) (mvT hZ (w35 hw)) (mvT hZ (w36 hw)) (by decide) (backOf (W := 0) (rm_bs_032 l Z a0 hw [] ax kx key x0 x1 x2 h0 n0 (Nat.le_trans Z0 (Nat.le_refl _)) H5 s0 s1 hl hr) hZ (w36 hw) (w35 hw) (by decide) (by decide)) (g := (mkF m 13 #[rv a1, iv key, iv line, .unset, .unset, .unset] [(.int key), (.int 3), (.int 0), (.ref ax)])) rfl (by rw [hml]; rfl) (argsL := [(.ref ax), (.int 0), (.int 3), (.int key)]) (rest := []) (lenOf pd_1 rfl) rfl (by show 2 * 0 + _ ≤ _; exact Nat.le_of_eq rfl) (hb hby d5_13) (fun _ _ => ⟨rfl, e3, (by decide : 0 + 0 ≤ _), (by decide : 0 + 0 ≤ _)⟩)
  dsimp only [Pt.U, Pt.locs, Pt.cells, Pt.slots] at X4 lq4 yq4 zq4 st4 hQ4
  subst lq4 yq4 zq4
  obtain ⟨h4, e4⟩ : ∃ z, T4.heap = z := ⟨_, rfl⟩
  rw [e4] at hQ4
  obtain ⟨r_4, rfl, N4q, he4, hres_4⟩ := hQ4
  have N4 := Fr.app N0 N4q
  rw [he4] at e4
  refine go_st st4 ?_
  show Go _ _ _ _ (T4.setTop (mkF m 16 #[rv a1, iv key, iv line, .unset, .unset, .unset] [(.int r_4)]))
  rcases hres_4 with rfl | rfl
  · skip
    show Go _ _ _ _ (T4.setTop (mkF m 16 #[rv a1, iv key, iv line, .unset, .unset, .unset] [(.int 2)]))
    refine go_st (fun t k => XS.istoreN X4.here hx rfl (hb hby d5_16) rfl (l' := #[rv a1, iv key, iv line, iv 2, .unset, .unset]) rfl k) ?_
    refine go_st (fun t k => XS.iloadN X4.here hx rfl (hb hby d5_17) rfl k) ?_
    show Go _ _ _ _ (T4.setTop (mkF m 18 #[rv a1, iv key, iv line, iv 2, .unset, .unset] [(.int 2)]))
    refine go_st (fun t k => XS.ifNo X4.here hx rfl (hb hby d5_18) rfl ((if0 _ _).trans (flt ((by decide) : ¬ ((2 : Int32) < (0 : Int32)))).1) k) ?_
    show Go _ _ _ _ (T4.setTop (mkF m 21 #[rv a1, iv key, iv line, iv 2, .unset, .unset] []))
    refine go_st (fun t k => XS.iloadN X4.here hx rfl (hb hby d5_21) rfl k) ?_
    refine go_st (fun t k => XS.goto X4.here hx rfl (pc0 := 22) (pc' := 29) rfl (hb hby d5_22) (by decide) (by decide) k) ?_
    show Go _ _ _ _ (T4.setTop (mkF m 29 #[rv a1, iv key, iv line, iv 2, .unset, .unset] [(.int 2)]))
    refine go_st (fun t k => XS.iconst X4.here hx rfl (hb hby d5_29) k) ?_
    show Go _ _ _ _ (T4.setTop (mkF m 30 #[rv a1, iv key, iv line, iv 2, .unset, .unset] [(.int 1), (.int 2)]))
    refine go_st (fun t k => XS.isub X4.here hx rfl (hb hby d5_30) rfl k) ?_
    rw [show ((2 : Int32) - (1 : Int32)) = (1 : Int32) from by decide]
    show Go _ _ _ _ (T4.setTop (mkF m 31 #[rv a1, iv key, iv line, iv 2, .unset, .unset] [(.int 1)]))
    refine go_st (fun t k => XS.istore X4.here hx rfl (hb hby d5_31) rfl (l' := #[rv a1, iv key, iv line, iv 2, iv 1, .unset]) rfl k) ?_
    refine go_st (fun t k => XS.iloadN X4.here hx rfl (hb hby d5_33) rfl k) ?_
    refine go_st (fun t k => XS.istore X4.here hx rfl (hb hby d5_34) rfl (l' := #[rv a1, iv key, iv line, iv 2, iv 1, iv line]) rfl k) ?_
    refine go_st (fun t k => XS.iload X4.here hx rfl (hb hby d5_36) rfl k) ?_
    refine go_st (fun t k => XS.aloadN X4.here hx rfl (hb hby d5_38) rfl rfl k) ?_
    show Go _ _ _ _ (T4.setTop (mkF m 39 #[rv a1, iv key, iv line, iv 2, iv 1, iv line] [(.ref a1), (.int 1)]))
    obtain ⟨T5, X5, e5, st5⟩ := getF X4 hx hZ hown (host := "") (Or.inl (w31 hw)) Via.refl e4 H3 (g := (mkF m 39 #[rv a1, iv key, iv line, iv 2, iv 1, iv line] [(.ref a1), (.int 1)])) rfl rfl (hb hby d5_39)
    refine go_st (fun t k => st5 t k) ?_
    show Go _ _ _ _ (T5.setTop (mkF m 42 #[rv a1, iv key, iv line, iv 2, iv 1, iv line] [(.int 0), (.int 1)]))
    refine go_st (fun t k => XS.icmpNo X5.here hx rfl (hb hby d5_42) rfl (flt ((by decide) : ¬ ((1 : Int32) < (0 : Int32)))).1 k) ?_
    show Go _ _ _ _ (T5.setTop (mkF m 45 #[rv a1, iv key, iv line, iv 2, iv 1, iv line] []))
    refine go_st (fun t k => XS.aloadN X5.here hx rfl (hb hby d5_45) rfl rfl k) ?_
    show Go _ _ _ _ (T5.setTop (mkF m 46 #[rv a1, iv key, iv line, iv 2, iv 1, iv line] [(.ref a1)]))
    obtain ⟨T6, X6, e6, st6⟩ := getF X5 hx hZ hown (host := "") (Or.inl (w17 hw)) Via.refl e5 H2 (g := (mkF m 46 #[rv a1, iv key, iv line, iv 2, iv 1, iv line] [(.ref a1)])) rfl rfl (hb hby d5_46)
    refine go_st (fun t k => st6 t k) ?_
    refine go_st (fun t k => XS.iload X6.here hx rfl (hb hby d5_49) rfl k) ?_
    show Go _ _ _ _ (T6.setTop (mkF m 51 #[rv a1, iv key, iv line, iv 2, iv 1, iv line] [(.int 1), (.ref al)]))
    obtain ⟨zc7, zA7, zq7, zS7, zN7, zH7, zG7⟩ := id H6
    have hin7 : ¬ ((1 : Int32) < 0 ∨ zc7.slots.size ≤ ((1 : Int32)).toNatClampNeg) := inb_of zS7 ⟨by decide, by decide⟩
    have hat7 : zc7.slots[((1 : Int32)).toNatClampNeg]? = some (.int l1) := Has.at zH7 hin7 rfl
    refine go_st (fun t k => X6.iaload hx (j := (1 : Int32)) (v := (.int l1)) (by rw [e6]; exact zA7.1) (State.isArrayOf_alike hZ.alike zA7.2.1) zA7.2.2 hin7 hat7 (g := (mkF m 51 #[rv a1, iv key, iv line, iv 2, iv 1, iv line] [(.int 1), (.ref al)])) rfl rfl (hb hby d5_51) t k) ?_
    refine go_st (fun t k => XS.istore X6.here hx rfl (hb hby d5_52) rfl (l' := #[rv a1, iv key, iv line, iv 2, iv 1, iv l1]) rfl k) ?_
    refine go_st (fun t k => XS.aloadN X6.here hx rfl (hb hby d5_54) rfl rfl k) ?_
    refine go_st (fun t k => XS.iload X6.here hx rfl (hb hby d5_55) rfl k) ?_
    show Go _ _ _ _ (T6.setTop (mkF m 57 #[rv a1, iv key, iv line, iv 2, iv 1, iv l1] [(.int 1), (.ref a1)]))
    obtain ⟨T8, h8, X8, e8, W8, st8⟩ := putF X6 hx hZ hown (host := "") (Or.inl (w31 hw)) Via.refl e6 H3 H0 (Or.inl (w32 hw)) (w6 hw) (ty := .int) (by decide) rfl rfl (g := (mkF m 57 #[rv a1, iv key, iv line, iv 2, iv 1, iv l1] [(.int 1), (.ref a1)])) rfl rfl (hb hby d5_57)
    have N8 := Fr.snoc X8 N4 g_a1
    have f9 : Fld Z h8 a1 cBE "first" "I" (.int 1) := H3.same W8
    refine go_st (fun t k => st8 t k) ?_
    refine go_st (fun t k => XS.iload X8.here hx rfl (hb hby d5_60) rfl k) ?_
    show Go _ _ _ _ (T8.setTop (mkF m 62 #[rv a1, iv key, iv line, iv 2, iv 1, iv l1] [(.int l1)]))
    have f10 : Exa Z h8 a1 cBE := (H0.wr W8)
    have f11 : Fld Z h8 a1 cBE "indexes" "[I" (.ref ax) := (H1.other W8 (Or.inr (slot_ne (Or.inl (w16 hw)) (Or.inl (w32 hw)) (by decide) (t := (.array .int)) (t' := .int) (by decide) (by decide))))
    have f12 : Fld Z h8 a1 cBE "lines" "[I" (.ref al) := (H2.other W8 (Or.inr (slot_ne (Or.inl (w18 hw)) (Or.inl (w32 hw)) (by decide) (t := (.array .int)) (t' := .int) (by decide) (by decide))))
    have f13 : Fld Z h8 a1 cBE "count" "I" (.int 3) := (H4.other W8 (Or.inr (slot_ne (Or.inl (w25 hw)) (Or.inl (w32 hw)) (by decide) (t := .int) (t' := .int) (by decide) (by decide))))
    have f14 : Arv Z h8 ax kx .int (64 : Int32) [(.int x0), (.int x1), (.int x2)] (.int (0 : Int32)) := (H5.other W8 (Ne.symm ne_a1_ax))
    have f15 : Arv Z h8 al kl .int (64 : Int32) [(.int l0), (.int l1), (.int l2)] (.int (0 : Int32)) := (H6.other W8 (Ne.symm ne_a1_al))
    have ke16 : Keep h0 h8 [a1] := (Keep.wr (Keep.refl h0 [a1]) W8 (Or.inl (List.mem_of_getElem? (i := 0) rfl)))
    obtain ⟨fs, hr, hrun, hended, hW, hsame⟩ := X8.leave (v := some (.int l1)) (fun h => by rw [Bd.returns] at h; cases h)
    refine ⟨_, _, ?_, hrun, hended, _, _, rfl, ?_, ⟨_, rfl⟩, hW, hsame.mono (by decide) (by decide)⟩
    · exact retI X8 hx Bd.returns (hb hby d5_62) hr
    · show Q_lb_032 _ _ _ _ _ _ _ _ _ _ _ _ _ _ _ _ _ T8.heap _
      rw [e8]
      exact ⟨rfl, N8, ke16, f10, f11, f12, f9, f13, f14, f15⟩
  · skip
    show Go _ _ _ _ (T4.setTop (mkF m 16 #[rv a1, iv key, iv line, .unset, .unset, .unset] [(.int (-3))]))
    refine go_st (fun t k => XS.istoreN X4.here hx rfl (hb hby d5_16) rfl (l' := #[rv a1, iv key, iv line, iv (-3), .unset, .unset]) rfl k) ?_
    refine go_st (fun t k => XS.iloadN X4.here hx rfl (hb hby d5_17) rfl k) ?_
    show Go _ _ _ _ (T4.setTop (mkF m 18 #[rv a1, iv key, iv line, iv (-3), .unset, .unset] [(.int (-3))]))
    refine go_st (fun t k => XS.ifYes X4.here hx rfl (pc0 := 18) (pc' := 25) rfl (hb hby d5_18) rfl ((if0 _ _).trans (tlt ((by decide) : (-3 : Int32) < (0 : Int32))).1) (by decide) (by decide) k) ?_
    show Go _ _ _ _ (T4.setTop (mkF m 25 #[rv a1, iv key, iv line, iv (-3), .unset, .unset] []))
    refine go_st (fun t k => XS.iloadN X4.here hx rfl (hb hby d5_25) rfl k) ?_
    show Go _ _ _ _ (T4.setTop (mkF m 26 #[rv a1, iv key, iv line, iv (-3), .unset, .unset] [(.int (-3))]))
    refine go_st (fun t k => XS.ineg X4.here hx rfl (hb hby d5_26) rfl k) ?_
    rw [show (-(-3 : Int32)) = (3 : Int32) from by decide]
    show Go _ _ _ _ (T4.setTop (mkF m 27 #[rv a1, iv key, iv line, iv (-3), .unset, .unset] [(.int 3)]))
    refine go_st (fun t k => XS.iconst X4.here hx rfl (hb hby d5_27) k) ?_
    show Go _ _ _ _ (T4.setTop (mkF m 28 #[rv a1, iv key, iv line, iv (-3), .unset, .unset] [(.int 1), (.int 3)]))
    refine go_st (fun t k => XS.isub X4.here hx rfl (hb hby d5_28) rfl k) ?_
    rw [show ((3 : Int32) - (1 : Int32)) = (2 : Int32) from by decide]
    show Go _ _ _ _ (T4.setTop (mkF m 29 #[rv a1, iv key, iv line, iv (-3), .unset, .unset] [(.int 2)]))
    refine go_st (fun t k => XS.iconst X4.here hx rfl (hb hby d5_29) k) ?_
    show Go _ _ _ _ (T4.setTop (mkF m 30 #[rv a1, iv key, iv line, iv (-3), .unset, .unset] [(.int 1), (.int 2)]))
    refine go_st (fun t k => XS.isub X4.here hx rfl (hb hby d5_30) rfl k) ?_
    rw [show ((2 : Int32) - (1 : Int32)) = (1 : Int32) from by decide]
    show Go _ _ _ _ (T4.setTop (mkF m 31 #[rv a1, iv key, iv line, iv (-3), .unset, .unset] [(.int 1)]))
    refine go_st (fun t k => XS.istore X4.here hx rfl (hb hby d5_31) rfl (l' := #[rv a1, iv key, iv line, iv (-3), iv 1, .unset]) rfl k) ?_
    refine go_st (fun t k => XS.iloadN X4.here hx rfl (hb hby d5_33) rfl k) ?_
    refine go_st (fun t k => XS.istore X4.here hx rfl (hb hby d5_34) rfl (l' := #[rv a1, iv key, iv line, iv (-3), iv 1, iv line]) rfl k) ?_
    refine go_st (fun t k => XS.iload X4.here hx rfl (hb hby d5_36) rfl k) ?_
    refine go_st (fun t k => XS.aloadN X4.here hx rfl (hb hby d5_38) rfl rfl k) ?_
    show Go _ _ _ _ (T4.setTop (mkF m 39 #[rv a1, iv key, iv line, iv (-3), iv 1, iv line] [(.ref a1), (.int 1)]))
    obtain ⟨T17, X17, e17, st17⟩ := getF X4 hx hZ hown (host := "") (Or.inl (w31 hw)) Via.refl e4 H3 (g := (mkF m 39 #[rv a1, iv key, iv line, iv (-3), iv 1, iv line] [(.ref a1), (.int 1)])) rfl rfl (hb hby d5_39)
    refine go_st (fun t k => st17 t k) ?_
    show Go _ _ _ _ (T17.setTop (mkF m 42 #[rv a1, iv key, iv line, iv (-3), iv 1, iv line] [(.int 0), (.int 1)]))
    refine go_st (fun t k => XS.icmpNo X17.here hx rfl (hb hby d5_42) rfl (flt ((by decide) : ¬ ((1 : Int32) < (0 : Int32)))).1 k) ?_
    show Go _ _ _ _ (T17.setTop (mkF m 45 #[rv a1, iv key, iv line, iv (-3), iv 1, iv line] []))
    refine go_st (fun t k => XS.aloadN X17.here hx rfl (hb hby d5_45) rfl rfl k) ?_
    show Go _ _ _ _ (T17.setTop (mkF m 46 #[rv a1, iv key, iv line, iv (-3), iv 1, iv line] [(.ref a1)]))
    obtain ⟨T18, X18, e18, st18⟩ := getF X17 hx hZ hown (host := "") (Or.inl (w17 hw)) Via.refl e17 H2 (g := (mkF m 46 #[rv a1, iv key, iv line, iv (-3), iv 1, iv line] [(.ref a1)])) rfl rfl (hb hby d5_46)
    refine go_st (fun t k => st18 t k) ?_
    refine go_st (fun t k => XS.iload X18.here hx rfl (hb hby d5_49) rfl k) ?_
    show Go _ _ _ _ (T18.setTop (mkF m 51 #[rv a1, iv key, iv line, iv (-3), iv 1, iv line] [(.int 1), (.ref al)]))
    obtain ⟨zc19, zA19, zq19, zS19, zN19, zH19, zG19⟩ := id H6
    have hin19 : ¬ ((1 : Int32) < 0 ∨ zc19.slots.size ≤ ((1 : Int32)).toNatClampNeg) := inb_of zS19 ⟨by decide, by decide⟩
    have hat19 : zc19.slots[((1 : Int32)).toNatClampNeg]? = some (.int l1) := Has.at zH19 hin19 rfl
    refine go_st (fun t k => X18.iaload hx (j := (1 : Int32)) (v := (.int l1)) (by rw [e18]; exact zA19.1) (State.isArrayOf_alike hZ.alike zA19.2.1) zA19.2.2 hin19 hat19 (g := (mkF m 51 #[rv a1, iv key, iv line, iv (-3), iv 1, iv line] [(.int 1), (.ref al)])) rfl rfl (hb hby d5_51) t k) ?_
    refine go_st (fun t k => XS.istore X18.here hx rfl (hb hby d5_52) rfl (l' := #[rv a1, iv key, iv line, iv (-3), iv 1, iv l1]) rfl k) ?_
    refine go_st (fun t k => XS.aloadN X18.here hx rfl (hb hby d5_54) rfl rfl k) ?_
    refine go_st (fun t k => XS.iload X18.here hx rfl (hb hby d5_55) rfl k) ?_
    show Go _ _ _ _ (T18.setTop (mkF m 57 #[rv a1, iv key, iv line, iv (-3), iv 1, iv l1] [(.int 1), (.ref a1)]))
    obtain ⟨T20, h20, X20, e20, W20, st20⟩ := putF X18 hx hZ hown (host := "") (Or.inl (w31 hw)) Via.refl e18 H3 H0 (Or.inl (w32 hw)) (w6 hw) (ty := .int) (by decide) rfl rfl (g := (mkF m 57 #[rv a1, iv key, iv line, iv (-3), iv 1, iv l1] [(.int 1), (.ref a1)])) rfl rfl (hb hby d5_57)
    have N20 := Fr.snoc X20 N4 g_a1
    have f21 : Fld Z h20 a1 cBE "first" "I" (.int 1) := H3.same W20
    refine go_st (fun t k => st20 t k) ?_
    refine go_st (fun t k => XS.iload X20.here hx rfl (hb hby d5_60) rfl k) ?_
    show Go _ _ _ _ (T20.setTop (mkF m 62 #[rv a1, iv key, iv line, iv (-3), iv 1, iv l1] [(.int l1)]))
    have f22 : Exa Z h20 a1 cBE := (H0.wr W20)
    have f23 : Fld Z h20 a1 cBE "indexes" "[I" (.ref ax) := (H1.other W20 (Or.inr (slot_ne (Or.inl (w16 hw)) (Or.inl (w32 hw)) (by decide) (t := (.array .int)) (t' := .int) (by decide) (by decide))))
    have f24 : Fld Z h20 a1 cBE "lines" "[I" (.ref al) := (H2.other W20 (Or.inr (slot_ne (Or.inl (w18 hw)) (Or.inl (w32 hw)) (by decide) (t := (.array .int)) (t' := .int) (by decide) (by decide))))
    have f25 : Fld Z h20 a1 cBE "count" "I" (.int 3) := (H4.other W20 (Or.inr (slot_ne (Or.inl (w25 hw)) (Or.inl (w32 hw)) (by decide) (t := .int) (t' := .int) (by decide) (by decide))))
    have f26 : Arv Z h20 ax kx .int (64 : Int32) [(.int x0), (.int x1), (.int x2)] (.int (0 : Int32)) := (H5.other W20 (Ne.symm ne_a1_ax))
    have f27 : Arv Z h20 al kl .int (64 : Int32) [(.int l0), (.int l1), (.int l2)] (.int (0 : Int32)) := (H6.other W20 (Ne.symm ne_a1_al))
    have ke28 : Keep h0 h20 [a1] := (Keep.wr (Keep.refl h0 [a1]) W20 (Or.inl (List.mem_of_getElem? (i := 0) rfl)))
    obtain ⟨fs, hr, hrun, hended, hW, hsame⟩ := X20.leave (v := some (.int l1)) (fun h => by rw [Bd.returns] at h; cases h)
    refine ⟨_, _, ?_, hrun, hended, _, _, rfl, ?_, ⟨_, rfl⟩, hW, hsame.mono (by decide) (by decide)⟩
    · exact retI X20 hx Bd.returns (hb hby d5_62) hr
    · show Q_lb_032 _ _ _ _ _ _ _ _ _ _ _ _ _ _ _ _ _ T20.heap _
      rw [e20]
      exact ⟨rfl, N20, ke28, f22, f23, f24, f21, f25, f26, f27⟩
def Q_bs0_033 (Z : State) (ax : Addr) (kx : ClassId) (key : Int32) (x0 : Int32) (x1 : Int32) (x2 : Int32) (h0 : Heap) (n0 : Nat) (vR : Option Value) (h : Heap) (L : List Loc) : Prop := ∃ (r : Int32), vR = some (.int r) ∧ Fr n0 L ∧ h = h0 ∧ (r = (3 : Int32) ∨ r = (-4 : Int32))
theorem ef_bs0_033 (m : MethodId) (x0 : Addr) (x1 : Int32) (x2 : Int32) (x3 : Int32) : entryFrame m #[(.ref x0), (.int x1), (.int x2), (.int x3)] 8 = mkF m 0 #[.val (.ref x0), .val (.int x1), .val (.int x2), .val (.int x3), .unset, .unset, .unset, .unset] [] := by first | (simp [entryFrame, mkF, argsToLocals, Value.category]; done) | rfl
set_option maxRecDepth 65536 in
set_option maxHeartbeats 40000000 in
theorem rm_bs0_033 (l : Launch) (Z : State) (a0 : Array Value) (hw : ∀ d ∈ tables_1, d.before a0 Z = true) (ws : List Jvm.Cond) (ax : Addr) (kx : ClassId) (key : Int32) (x0 : Int32) (x1 : Int32) (x2 : Int32) (h0 : Heap) (n0 : Nat) (Z0 : n0 ≤ h0.size) (H0 : Arv Z h0 ax kx .int (64 : Int32) [(.int x0), (.int x1), (.int x2)] (.int (0 : Int32))) (s0 : x0 < x1) (s1 : x1 < x2) (hl : x2 < key) :
    MetFree l (⟨"java/util/Arrays", "binarySearch0", "([IIII)I"⟩ : MethodName) (head1 (Jvm.Cond.code (⟨"java/util/Arrays", "binarySearch0", "([IIII)I"⟩ : MethodName) jdk_65_method_59_code 8 (some .int) :: ws) ({ frames := 0, cells := 0, slots := 0, locals := 0 } : Room)) (fun a U => a = #[(.ref ax), (.int 0), (.int 3), (.int key)] ∧ Z.Warmed39 U.vm ∧ U.heap = h0) (fun _ _ _ _ _ => True) (fun _ U o U' => ∃ v L, o = .returned v ∧ Q_bs0_033 Z ax kx key x0 x1 x2 h0 n0 v U'.heap L ∧ FrameEnd U o U' L ({ frames := 0, cells := 0, slots := 0, locals := 0 } : Room).cells ({ frames := 0, cells := 0, slots := 0, locals := 0 } : Room).slots) := by
  refine MetFree.of_bodySF (plainFor_of_name pn_java_util_Arrays) hisR ?_
  intro p e s m args below meth c s₁ Bd hml0 hP hK
  obtain ⟨rfl, hZ, hh⟩ := hP
  have hx := Bd.exec
  have hby := Bd.bytes
  have hml : c.maxLocals = 8 := hml0
  have hown : s.vm.findClass "java/util/Arrays" = some m.cls := findClass_of_methodNamed Bd.named
  have hnm := (name_of_methodNamed Bd.named Bd.method).1
  have X0 : Stand p l e ({ frames := 0, cells := 0, slots := 0, locals := 0 } : Room) s m #[(.ref ax), (.int 0), (.int 3), (.int key)] below meth c s₁ [] 0 0 := Stand.of_body Bd
  have e0 : s₁.heap = h0 := by rw [← hh, Bd.state]; rfl
  have N0 := Fr.nil n0
  refine go_st (fun t k => castTop (ef_bs0_033 m ax (0 : Int32) (3 : Int32) key) k) ?_
  show Go _ _ _ _ (s₁.setTop (mkF m 0 #[rv ax, iv 0, iv 3, iv key, .unset, .unset, .unset, .unset] []))
  refine go_st (fun t k => XS.iloadN X0.here hx rfl (hb hby d3_0) rfl k) ?_
  refine go_st (fun t k => XS.istore X0.here hx rfl (hb hby d3_1) rfl (l' := #[rv ax, iv 0, iv 3, iv key, iv 0, .unset, .unset, .unset]) rfl k) ?_
  refine go_st (fun t k => XS.iloadN X0.here hx rfl (hb hby d3_3) rfl k) ?_
  refine go_st (fun t k => XS.iconst X0.here hx rfl (hb hby d3_4) k) ?_
  show Go _ _ _ _ (s₁.setTop (mkF m 5 #[rv ax, iv 0, iv 3, iv key, iv 0, .unset, .unset, .unset] [(.int 1), (.int 3)]))
  refine go_st (fun t k => XS.isub X0.here hx rfl (hb hby d3_5) rfl k) ?_
  rw [show ((3 : Int32) - (1 : Int32)) = (2 : Int32) from by decide]
  show Go _ _ _ _ (s₁.setTop (mkF m 6 #[rv ax, iv 0, iv 3, iv key, iv 0, .unset, .unset, .unset] [(.int 2)]))
  refine go_st (fun t k => XS.istore X0.here hx rfl (hb hby d3_6) rfl (l' := #[rv ax, iv 0, iv 3, iv key, iv 0, iv 2, .unset, .unset]) rfl k) ?_
  refine go_st (fun t k => XS.iload X0.here hx rfl (hb hby d3_8) rfl k) ?_
  refine go_st (fun t k => XS.iload X0.here hx rfl (hb hby d3_10) rfl k) ?_
  show Go _ _ _ _ (s₁.setTop (mkF m 12 #[rv ax, iv 0, iv 3, iv key, iv 0, iv 2, .unset, .unset] [(.int 2), (.int 0)]))
  refine go_st (fun t k => XS.icmpNo X0.here hx rfl (hb hby d3_12) rfl (flt ((by decide) : ¬ ((2 : Int32) < (0 : Int32)))).2.2.1 k) ?_
  show Go _ _ _ _ (s₁.setTop (mkF m 15 #[rv ax, iv 0, iv 3, iv key, iv 0, iv 2, .unset, .unset] []))
  refine go_st (fun t k => XS.iload X0.here hx rfl (hb hby d3_15) rfl k) ?_
  refine go_st (fun t k => XS.iload X0.here hx rfl (hb hby d3_17) rfl k) ?_
  show Go _ _ _ _ (s₁.setTop (mkF m 19 #[rv ax, iv 0, iv 3, iv key, iv 0, iv 2, .unset, .unset] [(.int 2), (.int 0)]))
  refine go_st (fun t k => XS.iadd X0.here hx rfl (hb hby d3_19) rfl k) ?_
  rw [show ((0 : Int32) + (2 : Int32)) = (2 : Int32) from by decide]
  show Go _ _ _ _ (s₁.setTop (mkF m 20 #[rv ax, iv 0, iv 3, iv key, iv 0, iv 2, .unset, .unset] [(.int 2)]))
  refine go_st (fun t k => XS.iconst X0.here hx rfl (hb hby d3_20) k) ?_
  show Go _ _ _ _ (s₁.setTop (mkF m 21 #[rv ax, iv 0, iv 3, iv key, iv 0, iv 2, .unset, .unset] [(.int 1), (.int 2)]))
  refine go_st (fun t k => XS.iushr X0.here hx rfl (hb hby d3_21) rfl k) ?_
  rw [show (((2 : Int32)).toUInt32 >>> ((1 : Int32) &&& 31).toUInt32).toInt32 = (1 : Int32) from by decide]
  show Go _ _ _ _ (s₁.setTop (mkF m 22 #[rv ax, iv 0, iv 3, iv key, iv 0, iv 2, .unset, .unset] [(.int 1)]))
  refine go_st (fun t k => XS.istore X0.here hx rfl (hb hby d3_22) rfl (l' := #[rv ax, iv 0, iv 3, iv key, iv 0, iv 2, iv 1, .unset]) rfl k) ?_
  refine go_st (fun t k => XS.aloadN X0.here hx rfl (hb hby d3_24) rfl rfl k) ?_
  refine go_st (fun t k => XS.iload X0.here hx rfl (hb hby d3_25) rfl k) ?_
  show Go _ _ _ _ (s₁.setTop (mkF m 27 #[rv ax, iv 0, iv 3, iv key, iv 0, iv 2, iv 1, .unset] [(.int 1), (.ref ax)]))
  obtain ⟨zc1, zA1, zq1, zS1, zN1, zH1, zG1⟩ := id H0
  have hin1 : ¬ ((1 : Int32) < 0 ∨ zc1.slots.size ≤ ((1 : Int32)).toNatClampNeg) := inb_of zS1 ⟨by decide, by decide⟩
  have hat1 : zc1.slots[((1 : Int32)).toNatClampNeg]? = some (.int x1) := Has.at zH1 hin1 rfl
  refine go_st (fun t k => X0.iaload hx (j := (1 : Int32)) (v := (.int x1)) (by rw [e0]; exact zA1.1) (State.isArrayOf_alike hZ.alike zA1.2.1) zA1.2.2 hin1 hat1 (g := (mkF m 27 #[rv ax, iv 0, iv 3, iv key, iv 0, iv 2, iv 1, .unset] [(.int 1), (.ref ax)])) rfl rfl (hb hby d3_27) t k) ?_
  refine go_st (fun t k => XS.istore X0.here hx rfl (hb hby d3_28) rfl (l' := #[rv ax, iv 0, iv 3, iv key, iv 0, iv 2, iv 1, iv x1]) rfl k) ?_
  refine go_st (fun t k => XS.iload X0.here hx rfl (hb hby d3_30) rfl k) ?_
  refine go_st (fun t k => XS.iloadN X0.here hx rfl (hb hby d3_32) rfl k) ?_
  show Go _ _ _ _ (s₁.setTop (mkF m 33 #[rv ax, iv 0, iv 3, iv key, iv 0, iv 2, iv 1, iv x1] [(.int key), (.int x1)]))
  refine go_st (fun t k => XS.icmpNo X0.here hx rfl (hb hby d3_33) rfl (tlt ((pl_tr s1 hl) : x1 < key)).2.1 k) ?_
  show Go _ _ _ _ (s₁.setTop (mkF m 36 #[rv ax, iv 0, iv 3, iv key, iv 0, iv 2, iv 1, iv x1] []))
  refine go_st (fun t k => XS.iload X0.here hx rfl (hb hby d3_36) rfl k) ?_
  refine go_st (fun t k => XS.iconst X0.here hx rfl (hb hby d3_38) k) ?_
  show Go _ _ _ _ (s₁.setTop (mkF m 39 #[rv ax, iv 0, iv 3, iv key, iv 0, iv 2, iv 1, iv x1] [(.int 1), (.int 1)]))
  refine go_st (fun t k => XS.iadd X0.here hx rfl (hb hby d3_39) rfl k) ?_
  rw [show ((1 : Int32) + (1 : Int32)) = (2 : Int32) from by decide]
  show Go _ _ _ _ (s₁.setTop (mkF m 40 #[rv ax, iv 0, iv 3, iv key, iv 0, iv 2, iv 1, iv x1] [(.int 2)]))
  refine go_st (fun t k => XS.istore X0.here hx rfl (hb hby d3_40) rfl (l' := #[rv ax, iv 0, iv 3, iv key, iv 2, iv 2, iv 1, iv x1]) rfl k) ?_
  refine go_st (fun t k => XS.goto X0.here hx rfl (pc0 := 42) (pc' := 63) rfl (hb hby d3_42) (by decide) (by decide) k) ?_
  show Go _ _ _ _ (s₁.setTop (mkF m 63 #[rv ax, iv 0, iv 3, iv key, iv 2, iv 2, iv 1, iv x1] []))
  refine go_st (fun t k => XS.goto X0.here hx rfl (pc0 := 63) (pc' := 8) rfl (hb hby d3_63) (by decide) (by decide) k) ?_
  show Go _ _ _ _ (s₁.setTop (mkF m 8 #[rv ax, iv 0, iv 3, iv key, iv 2, iv 2, iv 1, iv x1] []))
  refine go_st (fun t k => XS.iload X0.here hx rfl (hb hby d3_8) rfl k) ?_
  refine go_st (fun t k => XS.iload X0.here hx rfl (hb hby d3_10) rfl k) ?_
  show Go _ _ _ _ (s₁.setTop (mkF m 12 #[rv ax, iv 0, iv 3, iv key, iv 2, iv 2, iv 1, iv x1] [(.int 2), (.int 2)]))
  refine go_st (fun t k => XS.icmpNo X0.here hx rfl (hb hby d3_12) rfl (flt ((by decide) : ¬ ((2 : Int32) < (2 : Int32)))).2.2.1 k) ?_
  show Go _ _ _ _ (s₁.setTop (mkF m 15 #[rv ax, iv 0, iv 3, iv key, iv 2, iv 2, iv 1, iv x1] []))
  refine go_st (fun t k => XS.iload X0.here hx rfl (hb hby d3_15) rfl k) ?_
  refine go_st (fun t k => XS.iload X0.here hx rfl (hb hby d3_17) rfl k) ?_
  show Go _ _ _ _ (s₁.setTop (mkF m 19 #[rv ax, iv 0, iv 3, iv key, iv 2, iv 2, iv 1, iv x1] [(.int 2), (.int 2)]))
  refine go_st (fun t k => XS.iadd X0.here hx rfl (hb hby d3_19) rfl k) ?_
  rw [show ((2 : Int32) + (2 : Int32)) = (4 : Int32) from by decide]
  show Go _ _ _ _ (s₁.setTop (mkF m 20 #[rv ax, iv 0, iv 3, iv key, iv 2, iv 2, iv 1, iv x1] [(.int 4)]))
  refine go_st (fun t k => XS.iconst X0.here hx rfl (hb hby d3_20) k) ?_
  show Go _ _ _ _ (s₁.setTop (mkF m 21 #[rv ax, iv 0, iv 3, iv key, iv 2, iv 2, iv 1, iv x1] [(.int 1), (.int 4)]))
  refine go_st (fun t k => XS.iushr X0.here hx rfl (hb hby d3_21) rfl k) ?_
  rw [show (((4 : Int32)).toUInt32 >>> ((1 : Int32) &&& 31).toUInt32).toInt32 = (2 : Int32) from by decide]
  show Go _ _ _ _ (s₁.setTop (mkF m 22 #[rv ax, iv 0, iv 3, iv key, iv 2, iv 2, iv 1, iv x1] [(.int 2)]))
  refine go_st (fun t k => XS.istore X0.here hx rfl (hb hby d3_22) rfl (l' := #[rv ax, iv 0, iv 3, iv key, iv 2, iv 2, iv 2, iv x1]) rfl k) ?_
  refine go_st (fun t k => XS.aloadN X0.here hx rfl (hb hby d3_24) rfl rfl k) ?_
  refine go_st (fun t k => XS.iload X0.here hx rfl (hb hby d3_25) rfl k) ?_
  show Go _ _ _ _ (s₁.setTop (mkF m 27 #[rv ax, iv 0, iv 3, iv key, iv 2, iv 2, iv 2, iv x1] [(.int 2), (.ref ax)]))
  obtain ⟨zc2, zA2, zq2, zS2, zN2, zH2, zG2⟩ := id H0
  have hin2 : ¬ ((2 : Int32) < 0 ∨ zc2.slots.size ≤ ((2 : Int32)).toNatClampNeg) := inb_of zS2 ⟨by decide, by decide⟩
  have hat2 : zc2.slots[((2 : Int32)).toNatClampNeg]? = some (.int x2) := Has.at zH2 hin2 rfl
  refine go_st (fun t k => X0.iaload hx (j := (2 : Int32)) (v := (.int x2)) (by rw [e0]; exact zA2.1) (State.isArrayOf_alike hZ.alike zA2.2.1) zA2.2.2 hin2 hat2 (g := (mkF m 27 #[rv ax, iv 0, iv 3, iv key, iv 2, iv 2, iv 2, iv x1] [(.int 2), (.ref ax)])) rfl rfl (hb hby d3_27) t k) ?_
  refine go_st (fun t k => XS.istore X0.here hx rfl (hb hby d3_28) rfl (l' := #[rv ax, iv 0, iv 3, iv key, iv 2, iv 2, iv 2, iv x2]) rfl k) ?_
  refine go_st (fun t k => XS.iload X0.here hx rfl (hb hby d3_30) rfl k) ?_
  refine go_st (fun t k => XS.iloadN X0.here hx rfl (hb hby d3_32) rfl k) ?_
  show Go _ _ _ _ (s₁.setTop (mkF m 33 #[rv ax, iv 0, iv 3, iv key, iv 2, iv 2, iv 2, iv x2] [(.int key), (.int x2)]))
  refine go_st (fun t k => XS.icmpNo X0.here hx rfl (hb hby d3_33) rfl (tlt (hl : x2 < key)).2.1 k) ?_
  show Go _ _ _ _ (s₁.setTop (mkF m 36 #[rv ax, iv 0, iv 3, iv key, iv 2, iv 2, iv 2, iv x2] []))
  refine go_st (fun t k => XS.iload X0.here hx rfl (hb hby d3_36) rfl k) ?_
  refine go_st (fun t k => XS.iconst X0.here hx rfl (hb hby d3_38) k) ?_
  show Go _ _ _ _ (s₁.setTop (mkF m 39 #[rv ax, iv 0, iv 3, iv key, iv 2, iv 2, iv 2, iv x2] [(.int 1), (.int 2)]))
  refine go_st (fun t k => XS.iadd X0.here hx rfl (hb hby d3_39) rfl k) ?_
  rw [show ((2 : Int32) + (1 : Int32)) = (3 : Int32) from by decide]
  show Go _ _ _ _ (s₁.setTop (mkF m 40 #[rv ax, iv 0, iv 3, iv key, iv 2, iv 2, iv 2, iv x2] [(.int 3)]))
  refine go_st (fun t k => XS.istore X0.here hx rfl (hb hby d3_40) rfl (l' := #[rv ax, iv 0, iv 3, iv key, iv 3, iv 2, iv 2, iv x2]) rfl k) ?_
  refine go_st (fun t k => XS.goto X0.here hx rfl (pc0 := 42) (pc' := 63) rfl (hb hby d3_42) (by decide) (by decide) k) ?_
  show Go _ _ _ _ (s₁.setTop (mkF m 63 #[rv ax, iv 0, iv 3, iv key, iv 3, iv 2, iv 2, iv x2] []))
  refine go_st (fun t k => XS.goto X0.here hx rfl (pc0 := 63) (pc' := 8) rfl (hb hby d3_63) (by decide) (by decide) k) ?_
  show Go _ _ _ _ (s₁.setTop (mkF m 8 #[rv ax, iv 0, iv 3, iv key, iv 3, iv 2, iv 2, iv x2] []))
  refine go_st (fun t k => XS.iload X0.here hx rfl (hb hby d3_8) rfl k) ?_
  refine go_st (fun t k => XS.iload X0.here hx rfl (hb hby d3_10) rfl k) ?_
  show Go _ _ _ _ (s₁.setTop (mkF m 12 #[rv ax, iv 0, iv 3, iv key, iv 3, iv 2, iv 2, iv x2] [(.int 2), (.int 3)]))
  refine go_st (fun t k => XS.icmpYes X0.here hx rfl (pc0 := 12) (pc' := 66) rfl (hb hby d3_12) rfl (tlt ((by decide) : (2 : Int32) < (3 : Int32))).2.2.1 (by decide) (by decide) k) ?_
  show Go _ _ _ _ (s₁.setTop (mkF m 66 #[rv ax, iv 0, iv 3, iv key, iv 3, iv 2, iv 2, iv x2] []))
  refine go_st (fun t k => XS.iload X0.here hx rfl (hb hby d3_66) rfl k) ?_
  refine go_st (fun t k => XS.iconst X0.here hx rfl (hb hby d3_68) k) ?_
  show Go _ _ _ _ (s₁.setTop (mkF m 69 #[rv ax, iv 0, iv 3, iv key, iv 3, iv 2, iv 2, iv x2] [(.int 1), (.int 3)]))
  refine go_st (fun t k => XS.iadd X0.here hx rfl (hb hby d3_69) rfl k) ?_
  rw [show ((3 : Int32) + (1 : Int32)) = (4 : Int32) from by decide]
  show Go _ _ _ _ (s₁.setTop (mkF m 70 #[rv ax, iv 0, iv 3, iv key, iv 3, iv 2, iv 2, iv x2] [(.int 4)]))
  refine go_st (fun t k => XS.ineg X0.here hx rfl (hb hby d3_70) rfl k) ?_
  rw [show (-(4 : Int32)) = (-4 : Int32) from by decide]
  show Go _ _ _ _ (s₁.setTop (mkF m 71 #[rv ax, iv 0, iv 3, iv key, iv 3, iv 2, iv 2, iv x2] [(.int (-4))]))
  obtain ⟨fs, hr, hrun, hended, hW, hsame⟩ := X0.leave (v := some (.int (-4))) (fun h => by rw [Bd.returns] at h; cases h)
  refine ⟨_, _, ?_, hrun, hended, _, _, rfl, ?_, ⟨_, rfl⟩, hW, hsame.mono (by decide) (by decide)⟩
  · exact retI X0 hx Bd.returns (hb hby d3_71) hr
  · show Q_bs0_033 _ _ _ _ _ _ _ _ _ _ s₁.heap _
    rw [e0]
    exact ⟨(-4 : Int32), rfl, N0, rfl, (Or.inr rfl)⟩
def Q_bs_033 (Z : State) (ax : Addr) (kx : ClassId) (key : Int32) (x0 : Int32) (x1 : Int32) (x2 : Int32) (h0 : Heap) (n0 : Nat) (vR : Option Value) (h : Heap) (L : List Loc) : Prop := ∃ (r : Int32), vR = some (.int r) ∧ Fr n0 L ∧ h = h0 ∧ (r = (3 : Int32) ∨ r = (-4 : Int32))
theorem ef_bs_033 (m : MethodId) (x0 : Addr) (x1 : Int32) (x2 : Int32) (x3 : Int32) : entryFrame m #[(.ref x0), (.int x1), (.int x2), (.int x3)] 4 = mkF m 0 #[.val (.ref x0), .val (.int x1), .val (.int x2), .val (.int x3)] [] := by first | (simp [entryFrame, mkF, argsToLocals, Value.category]; done) | rfl
set_option maxRecDepth 65536 in
set_option maxHeartbeats 40000000 in
theorem rm_bs_033 (l : Launch) (Z : State) (a0 : Array Value) (hw : ∀ d ∈ tables_1, d.before a0 Z = true) (ws : List Jvm.Cond) (ax : Addr) (kx : ClassId) (key : Int32) (x0 : Int32) (x1 : Int32) (x2 : Int32) (h0 : Heap) (n0 : Nat) (Z0 : n0 ≤ h0.size) (H0 : Arv Z h0 ax kx .int (64 : Int32) [(.int x0), (.int x1), (.int x2)] (.int (0 : Int32))) (s0 : x0 < x1) (s1 : x1 < x2) (hl : x2 < key) :
    MetFree l (⟨"java/util/Arrays", "binarySearch", "([IIII)I"⟩ : MethodName) (head1 (Jvm.Cond.code (⟨"java/util/Arrays", "binarySearch", "([IIII)I"⟩ : MethodName) jdk_65_method_58_code 4 (some .int) :: ws) ({ frames := 1, cells := 0, slots := 0, locals := 19 } : Room)) (fun a U => a = #[(.ref ax), (.int 0), (.int 3), (.int key)] ∧ Z.Warmed39 U.vm ∧ U.heap = h0) (fun _ _ _ _ _ => True) (fun _ U o U' => ∃ v L, o = .returned v ∧ Q_bs_033 Z ax kx key x0 x1 x2 h0 n0 v U'.heap L ∧ FrameEnd U o U' L ({ frames := 1, cells := 0, slots := 0, locals := 19 } : Room).cells ({ frames := 1, cells := 0, slots := 0, locals := 19 } : Room).slots) := by
  refine MetFree.of_bodySF (plainFor_of_name pn_java_util_Arrays) hisR ?_
  intro p e s m args below meth c s₁ Bd hml0 hP hK
  obtain ⟨rfl, hZ, hh⟩ := hP
  have hx := Bd.exec
  have hby := Bd.bytes
  have hml : c.maxLocals = 4 := hml0
  have hown : s.vm.findClass "java/util/Arrays" = some m.cls := findClass_of_methodNamed Bd.named
  have hnm := (name_of_methodNamed Bd.named Bd.method).1
  have X0 : Stand p l e ({ frames := 1, cells := 0, slots := 0, locals := 19 } : Room) s m #[(.ref ax), (.int 0), (.int 3), (.int key)] below meth c s₁ [] 0 0 := Stand.of_body Bd
  have e0 : s₁.heap = h0 := by rw [← hh, Bd.state]; rfl
  have N0 := Fr.nil n0
  refine go_st (fun t k => castTop (ef_bs_033 m ax (0 : Int32) (3 : Int32) key) k) ?_
  show Go _ _ _ _ (s₁.setTop (mkF m 0 #[rv ax, iv 0, iv 3, iv key] []))
  refine go_st (fun t k => XS.aloadN X0.here hx rfl (hb hby d4_0) rfl rfl k) ?_
  show Go _ _ _ _ (s₁.setTop (mkF m 1 #[rv ax, iv 0, iv 3, iv key] [(.ref ax)]))
  obtain ⟨zc1, zA1, zq1, zS1, zN1, zH1, zG1⟩ := id H0
  refine go_st (fun t k => X0.arraylength hx (by rw [e0]; exact zA1.1) (State.isArrayOf_alike hZ.alike zA1.2.1) (g := (mkF m 1 #[rv ax, iv 0, iv 3, iv key] [(.ref ax)])) rfl rfl (hb hby d4_1) t k) ?_
  rw [len_of zS1 zN1]
  refine go_st (fun t k => XS.iloadN X0.here hx rfl (hb hby d4_2) rfl k) ?_
  refine go_st (fun t k => XS.iloadN X0.here hx rfl (hb hby d4_3) rfl k) ?_
  show Go _ _ _ _ (s₁.setTop (mkF m 4 #[rv ax, iv 0, iv 3, iv key] [(.int 3), (.int 0), (.int 64)]))
  obtain ⟨_, _, ⟨T2, L2, kk2, nn2⟩, -, X2, ⟨Lc2, hQ2, lq2, yq2, zq2⟩, st2⟩ := Jvm.LawKit.callS X0 hx (y := (⟨"java/util/Arrays", "rangeCheck", "(III)V"⟩ : MethodName)) hown (mvT hZ (w37 hw)) (mvT hZ (w38 hw)) (mvT hZ (w35 hw)) (mvT hZ (w39 hw)) (by decide) (backOf (W := 0) (rm_rc_03 l Z a0 hw []  h0 n0 (Nat.le_trans Z0 (Nat.le_refl _)) ) hZ (w39 hw) (w35 hw) (by decide) (by decide)) (g := (mkF m 4 #[rv ax, iv 0, iv 3, iv key] [(.int 3), (.int 0), (.int 64)])) rfl (by rw [hml]; rfl) (argsL := [(.int 64), (.int 0), (.int 3)]) (rest := []) (lenOf pd_0 rfl) rfl (by show 2 * 0 + _ ≤ _; exact Nat.le_of_eq rfl) (hb hby d4_4) (fun _ _ => ⟨rfl, e0, (by decide : 0 + 0 ≤ _), (by decide : 0 + 0 ≤ _)⟩)
  dsimp only [Pt.U, Pt.locs, Pt.cells, Pt.slots] at X2 lq2 yq2 zq2 st2 hQ2
  subst lq2 yq2 zq2
  obtain ⟨h2, e2⟩ : ∃ z, T2.heap = z := ⟨_, rfl⟩
  rw [e2] at hQ2
  obtain ⟨rfl, N2q, he2⟩ := hQ2
  have N2 := Fr.app N0 N2q
  rw [he2] at e2
  refine go_st st2 ?_
  show Go _ _ _ _ (T2.setTop (mkF m 7 #[rv ax, iv 0, iv 3, iv key] []))
  refine go_st (fun t k => XS.aloadN X2.here hx rfl (hb hby d4_7) rfl rfl k) ?_
  refine go_st (fun t k => XS.iloadN X2.here hx rfl (hb hby d4_8) rfl k) ?_
  refine go_st (fun t k => XS.iloadN X2.here hx rfl (hb hby d4_9) rfl k) ?_
  refine go_st (fun t k => XS.iloadN X2.here hx rfl (hb hby d4_10) rfl k) ?_
  show Go _ _ _ _ (T2.setTop (mkF m 11 #[rv ax, iv 0, iv 3, iv key] [(.int key), (.int 3), (.int 0), (.ref ax)]))
  obtain ⟨_, _, ⟨T3, L3, kk3, nn3⟩, -, X3, ⟨Lc3, hQ3, lq3, yq3, zq3⟩, st3⟩ := Jvm.LawKit.callS X2 hx (y := (⟨"java/util/Arrays", "binarySearch0", "([IIII)I"⟩ : MethodName)) hown (mvT hZ (w40 hw)) (mvT hZ (w41 hw)) (mvT hZ (w35 hw)) (mvT hZ (w42 hw)) (by decide) (backOf (W := 0) (rm_bs0_033 l Z a0 hw [] ax kx key x0 x1 x2 h0 n0 (Nat.le_trans Z0 (Nat.le_refl _)) H0 s0 s1 hl) hZ (w42 hw) (w35 hw) (by decide) (by decide)) (g := (mkF m 11 #[rv ax, iv 0, iv 3, iv key] [(.int key), (.int 3), (.int 0), (.ref ax)])) rfl (by rw [hml]; rfl) (argsL := [(.ref ax), (.int 0), (.int 3), (.int key)]) (rest := []) (lenOf pd_1 rfl) rfl (by show 2 * 0 + _ ≤ _; exact Nat.le_of_eq rfl) (hb hby d4_11) (fun _ _ => ⟨rfl, e2, (by decide : 0 + 0 ≤ _), (by decide : 0 + 0 ≤ _)⟩)
  dsimp only [Pt.U, Pt.locs, Pt.cells, Pt.slots] at X3 lq3 yq3 zq3 st3 hQ3
  subst lq3 yq3 zq3
  obtain ⟨h3, e3⟩ : ∃ z, T3.heap = z := ⟨_, rfl⟩
  rw [e3] at hQ3
  obtain ⟨r_3, rfl, N3q, he3, hres_3⟩ := hQ3
  have N3 := Fr.app N2 N3q
  rw [he3] at e3
  refine go_st st3 ?_
  show Go _ _ _ _ (T3.setTop (mkF m 14 #[rv ax, iv 0, iv 3, iv key] [(.int r_3)]))
  obtain ⟨fs, hr, hrun, hended, hW, hsame⟩ := X3.leave (v := some (.int r_3)) (fun h => by rw [Bd.returns] at h; cases h)
  refine ⟨_, _, ?_, hrun, hended, _, _, rfl, ?_, ⟨_, rfl⟩, hW, hsame.mono (by decide) (by decide)⟩
  · exact retI X3 hx Bd.returns (hb hby d4_14) hr
  · show Q_bs_033 _ _ _ _ _ _ _ _ _ _ T3.heap _
    rw [e3]
    exact ⟨r_3, rfl, N3, rfl, hres_3⟩
def Q_lb_033 (Z : State) (a1 : Addr) (ax : Addr) (al : Addr) (kx : ClassId) (kl : ClassId) (key : Int32) (line : Int32) (x0 : Int32) (x1 : Int32) (x2 : Int32) (l0 : Int32) (l1 : Int32) (l2 : Int32) (h0 : Heap) (n0 : Nat) (vR : Option Value) (h : Heap) (L : List Loc) : Prop := vR = some (.int l2) ∧ Fr n0 L ∧ Keep h0 h [a1] ∧ (Exa Z h a1 cBE) ∧ (Fld Z h a1 cBE "indexes" "[I" (.ref ax)) ∧ (Fld Z h a1 cBE "lines" "[I" (.ref al)) ∧ (Fld Z h a1 cBE "first" "I" (.int 2)) ∧ (Fld Z h a1 cBE "count" "I" (.int 3)) ∧ (Arv Z h ax kx .int (64 : Int32) [(.int x0), (.int x1), (.int x2)] (.int (0 : Int32))) ∧ (Arv Z h al kl .int (64 : Int32) [(.int l0), (.int l1), (.int l2)] (.int (0 : Int32)))
theorem ef_lb_033 (m : MethodId) (x0 : Addr) (x1 : Int32) (x2 : Int32) : entryFrame m #[(.ref x0), (.int x1), (.int x2)] 6 = mkF m 0 #[.val (.ref x0), .val (.int x1), .val (.int x2), .unset, .unset, .unset] [] := by first | (simp [entryFrame, mkF, argsToLocals, Value.category]; done) | rfl
set_option maxRecDepth 65536 in
set_option maxHeartbeats 40000000 in
theorem rm_lb_033 (l : Launch) (Z : State) (a0 : Array Value) (hw : ∀ d ∈ tables_1, d.before a0 Z = true) (ws : List Jvm.Cond) (a1 : Addr) (ax : Addr) (al : Addr) (kx : ClassId) (kl : ClassId) (key : Int32) (line : Int32) (x0 : Int32) (x1 : Int32) (x2 : Int32) (l0 : Int32) (l1 : Int32) (l2 : Int32) (h0 : Heap) (n0 : Nat) (Z0 : n0 ≤ h0.size) (H0 : Exa Z h0 a1 cBE) (H1 : Fld Z h0 a1 cBE "indexes" "[I" (.ref ax)) (H2 : Fld Z h0 a1 cBE "lines" "[I" (.ref al)) (H3 : Fld Z h0 a1 cBE "first" "I" (.int 0)) (H4 : Fld Z h0 a1 cBE "count" "I" (.int 3)) (H5 : Arv Z h0 ax kx .int (64 : Int32) [(.int x0), (.int x1), (.int x2)] (.int (0 : Int32))) (H6 : Arv Z h0 al kl .int (64 : Int32) [(.int l0), (.int l1), (.int l2)] (.int (0 : Int32))) (ne_a1_ax : a1 ≠ ax) (ne_a1_al : a1 ≠ al) (ne_ax_al : ax ≠ al) (g_a1 : n0 ≤ a1) (s0 : x0 < x1) (s1 : x1 < x2) (hl : x2 < key) :
    MetFree l (⟨"com/example/nudge/nudge/tree/BlockEntries", "lineBefore", "(II)I"⟩ : MethodName) (head1 (Jvm.Cond.code (⟨"com/example/nudge/nudge/tree/BlockEntries", "lineBefore", "(II)I"⟩ : MethodName) prog_17_method_3_code 6 (some .int) :: ws) ({ frames := 2, cells := 0, slots := 0, locals := 34 } : Room)) (fun a U => a = #[(.ref a1), (.int key), (.int line)] ∧ Z.Warmed39 U.vm ∧ U.heap = h0) (fun _ _ _ _ _ => True) (fun _ U o U' => ∃ v L, o = .returned v ∧ Q_lb_033 Z a1 ax al kx kl key line x0 x1 x2 l0 l1 l2 h0 n0 v U'.heap L ∧ FrameEnd U o U' L ({ frames := 2, cells := 0, slots := 0, locals := 34 } : Room).cells ({ frames := 2, cells := 0, slots := 0, locals := 34 } : Room).slots) := by
  refine MetFree.of_bodySF (plainFor_of_name pn_com_example_nudge_nudge_tree_BlockEntries) hisR ?_
  intro p e s m args below meth c s₁ Bd hml0 hP hK
  obtain ⟨rfl, hZ, hh⟩ := hP
  have hx := Bd.exec
  have hby := Bd.bytes
  have hml : c.maxLocals = 6 := hml0
  have hown : s.vm.findClass "com/example/nudge/nudge/tree/BlockEntries" = some m.cls := findClass_of_methodNamed Bd.named
  have hnm := (name_of_methodNamed Bd.named Bd.method).1
  have X0 : Stand p l e ({ frames := 2, cells := 0, slots := 0, locals := 34 } : Room) s m #[(.ref a1), (.int key), (.int line)] below meth c s₁ [] 0 0 := Stand.of_body Bd
  have e0 : s₁.heap = h0 := by rw [← hh, Bd.state]; rfl
  have N0 := Fr.nil n0
  refine go_st (fun t k => castTop (ef_lb_033 m a1 key line) k) ?_
  show Go _ _ _ _ (s₁.setTop (mkF m 0 #[rv a1, iv key, iv line, .unset, .unset, .unset] []))
  refine go_st (fun t k => XS.aloadN X0.here hx rfl (hb hby d5_0) rfl rfl k) ?_
  show Go _ _ _ _ (s₁.setTop (mkF m 1 #[rv a1, iv key, iv line, .unset, .unset, .unset] [(.ref a1)]))
  obtain ⟨T1, X1, e1, st1⟩ := getF X0 hx hZ hown (host := "") (Or.inl (w15 hw)) Via.refl e0 H1 (g := (mkF m 1 #[rv a1, iv key, iv line, .unset, .unset, .unset] [(.ref a1)])) rfl rfl (hb hby d5_1)
  refine go_st (fun t k => st1 t k) ?_
  refine go_st (fun t k => XS.aloadN X1.here hx rfl (hb hby d5_4) rfl rfl k) ?_
  show Go _ _ _ _ (T1.setTop (mkF m 5 #[rv a1, iv key, iv line, .unset, .unset, .unset] [(.ref a1), (.ref ax)]))
  obtain ⟨T2, X2, e2, st2⟩ := getF X1 hx hZ hown (host := "") (Or.inl (w31 hw)) Via.refl e1 H3 (g := (mkF m 5 #[rv a1, iv key, iv line, .unset, .unset, .unset] [(.ref a1), (.ref ax)])) rfl rfl (hb hby d5_5)
  refine go_st (fun t k => st2 t k) ?_
  refine go_st (fun t k => XS.aloadN X2.here hx rfl (hb hby d5_8) rfl rfl k) ?_
  show Go _ _ _ _ (T2.setTop (mkF m 9 #[rv a1, iv key, iv line, .unset, .unset, .unset] [(.ref a1), (.int 0), (.ref ax)]))
  obtain ⟨T3, X3, e3, st3⟩ := getF X2 hx hZ hown (host := "") (Or.inl (w24 hw)) Via.refl e2 H4 (g := (mkF m 9 #[rv a1, iv key, iv line, .unset, .unset, .unset] [(.ref a1), (.int 0), (.ref ax)])) rfl rfl (hb hby d5_9)
  refine go_st (fun t k => st3 t k) ?_
  refine go_st (fun t k => XS.iloadN X3.here hx rfl (hb hby d5_12) rfl k) ?_
  show Go _ _ _ _ (T3.setTop (mkF m 13 #[rv a1, iv key, iv line, .unset, .unset, .unset] [(.int key), (.int 3), (.int 0), (.ref ax)]))
  obtain ⟨_, _, ⟨T4, L4, kk4, nn4⟩, -, X4, ⟨Lc4, hQ4, lq4, yq4, zq4⟩, st4⟩ := Jvm.LawKit.callS X3 hx (y := (⟨"java/util/Arrays", "binarySearch", "([IIII)I"⟩ : MethodName)) hown (mvT hZ (w33 hw)) (mvT hZ (w34 hw)) (mvT hZ (w35 hw)) (mvT hZ (w36 hw)) (by decide) (backOf (W := 0) (rm_bs_033 l Z a0 hw [] ax kx key x0 x1 x2 h0 n0 (Nat.le_trans Z0 (Nat.le_refl _)) H5 s0 s1 hl) hZ (w36 hw) (w35 hw) (by decide) (by decide)) (g := (mkF m 13 #[rv a1, iv key, iv line, .unset, .unset, .unset] [(.int key), (.int 3), (.int 0), (.ref ax)])) rfl (by rw [hml]; rfl) (argsL := [(.ref ax), (.int 0), (.int 3), (.int key)]) (rest := []) (lenOf pd_1 rfl) rfl (by show 2 * 0 + _ ≤ _; exact Nat.le_of_eq rfl) (hb hby d5_13) (fun _ _ => ⟨rfl, e3, (by decide : 0 + 0 ≤ _), (by decide : 0 + 0 ≤ _)⟩)
  dsimp only [Pt.U, Pt.locs, Pt.cells, Pt.slots] at X4 lq4 yq4 zq4 st4 hQ4
  subst lq4 yq4 zq4
  obtain ⟨h4, e4⟩ : ∃ z, T4.heap = z := ⟨_, rfl⟩
  rw [e4] at hQ4
  obtain ⟨r_4, rfl, N4q, he4, hres_4⟩ := hQ4
  have N4 := Fr.app N0 N4q
  rw [he4] at e4
  refine go_st st4 ?_
  show Go _ _ _ _ (T4.setTop (mkF m 16 #[rv a1, iv key, iv line, .unset, .unset, .unset] [(.int r_4)]))
  rcases hres_4 with rfl | rfl
  · skip
    show Go _ _ _ _ (T4.setTop (mkF m 16 #[rv a1, iv key, iv line, .unset, .unset, .unset] [(.int 3)]))
    refine go_st (fun t k => XS.istoreN X4.here hx rfl (hb hby d5_16) rfl (l' := #[rv a1, iv key, iv line, iv 3, .unset, .unset]) rfl k) ?_
    refine go_st (fun t k => XS.iloadN X4.here hx rfl (hb hby d5_17) rfl k) ?_
    show Go _ _ _ _ (T4.setTop (mkF m 18 #[rv a1, iv key, iv line, iv 3, .unset, .unset] [(.int 3)]))
    refine go_st (fun t k => XS.ifNo X4.here hx rfl (hb hby d5_18) rfl ((if0 _ _).trans (flt ((by decide) : ¬ ((3 : Int32) < (0 : Int32)))).1) k) ?_
    show Go _ _ _ _ (T4.setTop (mkF m 21 #[rv a1, iv key, iv line, iv 3, .unset, .unset] []))
    refine go_st (fun t k => XS.iloadN X4.here hx rfl (hb hby d5_21) rfl k) ?_
    refine go_st (fun t k => XS.goto X4.here hx rfl (pc0 := 22) (pc' := 29) rfl (hb hby d5_22) (by decide) (by decide) k) ?_
    show Go _ _ _ _ (T4.setTop (mkF m 29 #[rv a1, iv key, iv line, iv 3, .unset, .unset] [(.int 3)]))
    refine go_st (fun t k => XS.iconst X4.here hx rfl (hb hby d5_29) k) ?_
    show Go _ _ _ _ (T4.setTop (mkF m 30 #[rv a1, iv key, iv line, iv 3, .unset, .unset] [(.int 1), (.int 3)]))
    refine go_st (fun t k => XS.isub X4.here hx rfl (hb hby d5_30) rfl k) ?_
    rw [show ((3 : Int32) - (1 : Int32)) = (2 : Int32) from by decide]
    show Go _ _ _ _ (T4.setTop (mkF m 31 #[rv a1, iv key, iv line, iv 3, .unset, .unset] [(.int 2)]))
    refine go_st (fun t k => XS.istore X4.here hx rfl (hb hby d5_31) rfl (l' := #[rv a1, iv key, iv line, iv 3, iv 2, .unset]) rfl k) ?_
    refine go_st (fun t k => XS.iloadN X4.here hx rfl (hb hby d5_33) rfl k) ?_
    refine go_st (fun t k => XS.istore X4.here hx rfl (hb hby d5_34) rfl (l' := #[rv a1, iv key, iv line, iv 3, iv 2, iv line]) rfl k) ?_
    refine go_st (fun t k => XS.iload X4.here hx rfl (hb hby d5_36) rfl k) ?_
    refine go_st (fun t k => XS.aloadN X4.here hx rfl (hb hby d5_38) rfl rfl k) ?_
    show Go _ _ _ _ (T4.setTop (mkF m 39 #[rv a1, iv key, iv line, iv 3, iv 2, iv line] [(.ref a1), (.int 2)]))
    obtain ⟨T5, X5, e5, st5⟩ := getF X4 hx hZ hown (host := "") (Or.inl (w31 hw)) Via.refl e4 H3 (g := (mkF m 39 #[rv a1, iv key, iv line, iv 3, iv 2, iv line] [(.ref a1), (.int 2)])) rfl rfl (hb hby d5_39)
    refine go_st (fun t k => st5 t k) ?_
    show Go _ _ _ _ (T5.setTop (mkF m 42 #[rv a1, iv key, iv line, iv 3, iv 2, iv line] [(.int 0), (.int 2)]))
    refine go_st (fun t k => XS.icmpNo X5.here hx rfl (hb hby d5_42) rfl (flt ((by decide) : ¬ ((2 : Int32) < (0 : Int32)))).1 k) ?_
    show Go _ _ _ _ (T5.setTop (mkF m 45 #[rv a1, iv key, iv line, iv 3, iv 2, iv line] []))
    refine go_st (fun t k => XS.aloadN X5.here hx rfl (hb hby d5_45) rfl rfl k) ?_
    show Go _ _ _ _ (T5.setTop (mkF m 46 #[rv a1, iv key, iv line, iv 3, iv 2, iv line] [(.ref a1)]))
    obtain ⟨T6, X6, e6, st6⟩ := getF X5 hx hZ hown (host := "") (Or.inl (w17 hw)) Via.refl e5 H2 (g := (mkF m 46 #[rv a1, iv key, iv line, iv 3, iv 2, iv line] [(.ref a1)])) rfl rfl (hb hby d5_46)
    refine go_st (fun t k => st6 t k) ?_
    refine go_st (fun t k => XS.iload X6.here hx rfl (hb hby d5_49) rfl k) ?_
    show Go _ _ _ _ (T6.setTop (mkF m 51 #[rv a1, iv key, iv line, iv 3, iv 2, iv line] [(.int 2), (.ref al)]))
    obtain ⟨zc7, zA7, zq7, zS7, zN7, zH7, zG7⟩ := id H6
    have hin7 : ¬ ((2 : Int32) < 0 ∨ zc7.slots.size ≤ ((2 : Int32)).toNatClampNeg) := inb_of zS7 ⟨by decide, by decide⟩
    have hat7 : zc7.slots[((2 : Int32)).toNatClampNeg]? = some (.int l2) := Has.at zH7 hin7 rfl
    refine go_st (fun t k => X6.iaload hx (j := (2 : Int32)) (v := (.int l2)) (by rw [e6]; exact zA7.1) (State.isArrayOf_alike hZ.alike zA7.2.1) zA7.2.2 hin7 hat7 (g := (mkF m 51 #[rv a1, iv key, iv line, iv 3, iv 2, iv line] [(.int 2), (.ref al)])) rfl rfl (hb hby d5_51) t k) ?_
    refine go_st (fun t k => XS.istore X6.here hx rfl (hb hby d5_52) rfl (l' := #[rv a1, iv key, iv line, iv 3, iv 2, iv l2]) rfl k) ?_
    refine go_st (fun t k => XS.aloadN X6.here hx rfl (hb hby d5_54) rfl rfl k) ?_
    refine go_st (fun t k => XS.iload X6.here hx rfl (hb hby d5_55) rfl k) ?_
    show Go _ _ _ _ (T6.setTop (mkF m 57 #[rv a1, iv key, iv line, iv 3, iv 2, iv l2] [(.int 2), (.ref a1)]))
    obtain ⟨T8, h8, X8, e8, W8, st8⟩ := putF X6 hx hZ hown (host := "") (Or.inl (w31 hw)) Via.refl e6 H3 H0 (Or.inl (w32 hw)) (w6 hw) (ty := .int) (by decide) rfl rfl (g := (mkF m 57 #[rv a1, iv key, iv line, iv 3, iv 2, iv l2] [(.int 2), (.ref a1)])) rfl rfl (hb hby d5_57)
    have N8 := Fr.snoc X8 N4 g_a1
    have f9 : Fld Z h8 a1 cBE "first" "I" (.int 2) := H3.same W8
    refine go_st (fun t k => st8 t k) ?_
    refine go_st (fun t k => XS.iload X8.here hx rfl (hb hby d5_60) rfl k) ?_
    show Go _ _ _ _ (T8.setTop (mkF m 62 #[rv a1, iv key, iv line, iv 3, iv 2, iv l2] [(.int l2)]))
    have f10 : Exa Z h8 a1 cBE := (H0.wr W8)
    have f11 : Fld Z h8 a1 cBE "indexes" "[I" (.ref ax) := (H1.other W8 (Or.inr (slot_ne (Or.inl (w16 hw)) (Or.inl (w32 hw)) (by decide) (t := (.array .int)) (t' := .int) (by decide) (by decide))))
    have f12 : Fld Z h8 a1 cBE "lines" "[I" (.ref al) := (H2.other W8 (Or.inr (slot_ne (Or.inl (w18 hw)) (Or.inl (w32 hw)) (by decide) (t := (.array .int)) (t' := .int) (by decide) (by decide))))
    have f13 : Fld Z h8 a1 cBE "count" "I" (.int 3) := (H4.other W8 (Or.inr (slot_ne (Or.inl (w25 hw)) (Or.inl (w32 hw)) (by decide) (t := .int) (t' := .int) (by decide) (by decide))))
    have f14 : Arv Z h8 ax kx .int (64 : Int32) [(.int x0), (.int x1), (.int x2)] (.int (0 : Int32)) := (H5.other W8 (Ne.symm ne_a1_ax))
    have f15 : Arv Z h8 al kl .int (64 : Int32) [(.int l0), (.int l1), (.int l2)] (.int (0 : Int32)) := (H6.other W8 (Ne.symm ne_a1_al))
    have ke16 : Keep h0 h8 [a1] := (Keep.wr (Keep.refl h0 [a1]) W8 (Or.inl (List.mem_of_getElem? (i := 0) rfl)))
    obtain ⟨fs, hr, hrun, hended, hW, hsame⟩ := X8.leave (v := some (.int l2)) (fun h => by rw [Bd.returns] at h; cases h)
    refine ⟨_, _, ?_, hrun, hended, _, _, rfl, ?_, ⟨_, rfl⟩, hW, hsame.mono (by decide) (by decide)⟩
    · exact retI X8 hx Bd.returns (hb hby d5_62) hr
    · show Q_lb_033 _ _ _ _ _ _ _ _ _ _ _ _ _ _ _ _ _ T8.heap _
      rw [e8]
      exact ⟨rfl, N8, ke16, f10, f11, f12, f9, f13, f14, f15⟩
  · skip
    show Go _ _ _ _ (T4.setTop (mkF m 16 #[rv a1, iv key, iv line, .unset, .unset, .unset] [(.int (-4))]))
    refine go_st (fun t k => XS.istoreN X4.here hx rfl (hb hby d5_16) rfl (l' := #[rv a1, iv key, iv line, iv (-4), .unset, .unset]) rfl k) ?_
    refine go_st (fun t k => XS.iloadN X4.here hx rfl (hb hby d5_17) rfl k) ?_
    show Go _ _ _ _ (T4.setTop (mkF m 18 #[rv a1, iv key, iv line, iv (-4), .unset, .unset] [(.int (-4))]))
    refine go_st (fun t k => XS.ifYes X4.here hx rfl (pc0 := 18) (pc' := 25) rfl (hb hby d5_18) rfl ((if0 _ _).trans (tlt ((by decide) : (-4 : Int32) < (0 : Int32))).1) (by decide) (by decide) k) ?_
    show Go _ _ _ _ (T4.setTop (mkF m 25 #[rv a1, iv key, iv line, iv (-4), .unset, .unset] []))
    refine go_st (fun t k => XS.iloadN X4.here hx rfl (hb hby d5_25) rfl k) ?_
    show Go _ _ _ _ (T4.setTop (mkF m 26 #[rv a1, iv key, iv line, iv (-4), .unset, .unset] [(.int (-4))]))
    refine go_st (fun t k => XS.ineg X4.here hx rfl (hb hby d5_26) rfl k) ?_
    rw [show (-(-4 : Int32)) = (4 : Int32) from by decide]
    show Go _ _ _ _ (T4.setTop (mkF m 27 #[rv a1, iv key, iv line, iv (-4), .unset, .unset] [(.int 4)]))
    refine go_st (fun t k => XS.iconst X4.here hx rfl (hb hby d5_27) k) ?_
    show Go _ _ _ _ (T4.setTop (mkF m 28 #[rv a1, iv key, iv line, iv (-4), .unset, .unset] [(.int 1), (.int 4)]))
    refine go_st (fun t k => XS.isub X4.here hx rfl (hb hby d5_28) rfl k) ?_
    rw [show ((4 : Int32) - (1 : Int32)) = (3 : Int32) from by decide]
    show Go _ _ _ _ (T4.setTop (mkF m 29 #[rv a1, iv key, iv line, iv (-4), .unset, .unset] [(.int 3)]))
    refine go_st (fun t k => XS.iconst X4.here hx rfl (hb hby d5_29) k) ?_
    show Go _ _ _ _ (T4.setTop (mkF m 30 #[rv a1, iv key, iv line, iv (-4), .unset, .unset] [(.int 1), (.int 3)]))
    refine go_st (fun t k => XS.isub X4.here hx rfl (hb hby d5_30) rfl k) ?_
    rw [show ((3 : Int32) - (1 : Int32)) = (2 : Int32) from by decide]
    show Go _ _ _ _ (T4.setTop (mkF m 31 #[rv a1, iv key, iv line, iv (-4), .unset, .unset] [(.int 2)]))
    refine go_st (fun t k => XS.istore X4.here hx rfl (hb hby d5_31) rfl (l' := #[rv a1, iv key, iv line, iv (-4), iv 2, .unset]) rfl k) ?_
    refine go_st (fun t k => XS.iloadN X4.here hx rfl (hb hby d5_33) rfl k) ?_
    refine go_st (fun t k => XS.istore X4.here hx rfl (hb hby d5_34) rfl (l' := #[rv a1, iv key, iv line, iv (-4), iv 2, iv line]) rfl k) ?_
    refine go_st (fun t k => XS.iload X4.here hx rfl (hb hby d5_36) rfl k) ?_
    refine go_st (fun t k => XS.aloadN X4.here hx rfl (hb hby d5_38) rfl rfl k) ?_
    show Go _ _ _ _ (T4.setTop (mkF m 39 #[rv a1, iv key, iv line, iv (-4), iv 2, iv line] [(.ref a1), (.int 2)]))
    obtain ⟨T17, X17, e17, st17⟩ := getF X4 hx hZ hown (host := "") (Or.inl (w31 hw)) Via.refl e4 H3 (g := (mkF m 39 #[rv a1, iv key, iv line, iv (-4), iv 2, iv line] [(.ref a1), (.int 2)])) rfl rfl (hb hby d5_39)
    refine go_st (fun t k => st17 t k) ?_
    show Go _ _ _ _ (T17.setTop (mkF m 42 #[rv a1, iv key, iv line, iv (-4), iv 2, iv line] [(.int 0), (.int 2)]))
    refine go_st (fun t k => XS.icmpNo X17.here hx rfl (hb hby d5_42) rfl (flt ((by decide) : ¬ ((2 : Int32) < (0 : Int32)))).1 k) ?_
    show Go _ _ _ _ (T17.setTop (mkF m 45 #[rv a1, iv key, iv line, iv (-4), iv 2, iv line] []))
    refine go_st (fun t k => XS.aloadN X17.here hx rfl (hb hby d5_45) rfl rfl k) ?_
    show Go _ _ _ _ (T17.setTop (mkF m 46 #[rv a1, iv key, iv line, iv (-4), iv 2, iv line] [(.ref a1)]))
    obtain ⟨T18, X18, e18, st18⟩ := getF X17 hx hZ hown (host := "") (Or.inl (w17 hw)) Via.refl e17 H2 (g := (mkF m 46 #[rv a1, iv key, iv line, iv (-4), iv 2, iv line] [(.ref a1)])) rfl rfl (hb hby d5_46)
    refine go_st (fun t k => st18 t k) ?_
    refine go_st (fun t k => XS.iload X18.here hx rfl (hb hby d5_49) rfl k) ?_
    show Go _ _ _ _ (T18.setTop (mkF m 51 #[rv a1, iv key, iv line, iv (-4), iv 2, iv line] [(.int 2), (.ref al)]))
    obtain ⟨zc19, zA19, zq19, zS19, zN19, zH19, zG19⟩ := id H6
    have hin19 : ¬ ((2 : Int32) < 0 ∨ zc19.slots.size ≤ ((2 : Int32)).toNatClampNeg) := inb_of zS19 ⟨by decide, by decide⟩
    have hat19 : zc19.slots[((2 : Int32)).toNatClampNeg]? = some (.int l2) := Has.at zH19 hin19 rfl
    refine go_st (fun t k => X18.iaload hx (j := (2 : Int32)) (v := (.int l2)) (by rw [e18]; exact zA19.1) (State.isArrayOf_alike hZ.alike zA19.2.1) zA19.2.2 hin19 hat19 (g := (mkF m 51 #[rv a1, iv key, iv line, iv (-4), iv 2, iv line] [(.int 2), (.ref al)])) rfl rfl (hb hby d5_51) t k) ?_
    refine go_st (fun t k => XS.istore X18.here hx rfl (hb hby d5_52) rfl (l' := #[rv a1, iv key, iv line, iv (-4), iv 2, iv l2]) rfl k) ?_
    refine go_st (fun t k => XS.aloadN X18.here hx rfl (hb hby d5_54) rfl rfl k) ?_
    refine go_st (fun t k => XS.iload X18.here hx rfl (hb hby d5_55) rfl k) ?_
    show Go _ _ _ _ (T18.setTop (mkF m 57 #[rv a1, iv key, iv line, iv (-4), iv 2, iv l2] [(.int 2), (.ref a1)]))
    obtain ⟨T20, h20, X20, e20, W20, st20⟩ := putF X18 hx hZ hown (host := "") (Or.inl (w31 hw)) Via.refl e18 H3 H0 (Or.inl (w32 hw)) (w6 hw) (ty := .int) (by decide) rfl rfl (g := (mkF m 57 #[rv a1, iv key, iv line, iv (-4), iv 2, iv l2] [(.int 2), (.ref a1)])) rfl rfl (hb hby d5_57)
    have N20 := Fr.snoc X20 N4 g_a1
    have f21 : Fld Z h20 a1 cBE "first" "I" (.int 2) := H3.same W20
    refine go_st (fun t k => st20 t k) ?_
    refine go_st (fun t k => XS.iload X20.here hx rfl (hb hby d5_60) rfl k) ?_
    show Go _ _ _ _ (T20.setTop (mkF m 62 #[rv a1, iv key, iv line, iv (-4), iv 2, iv l2] [(.int l2)]))
    have f22 : Exa Z h20 a1 cBE := (H0.wr W20)
    have f23 : Fld Z h20 a1 cBE "indexes" "[I" (.ref ax) := (H1.other W20 (Or.inr (slot_ne (Or.inl (w16 hw)) (Or.inl (w32 hw)) (by decide) (t := (.array .int)) (t' := .int) (by decide) (by decide))))
    have f24 : Fld Z h20 a1 cBE "lines" "[I" (.ref al) := (H2.other W20 (Or.inr (slot_ne (Or.inl (w18 hw)) (Or.inl (w32 hw)) (by decide) (t := (.array .int)) (t' := .int) (by decide) (by decide))))
    have f25 : Fld Z h20 a1 cBE "count" "I" (.int 3) := (H4.other W20 (Or.inr (slot_ne (Or.inl (w25 hw)) (Or.inl (w32 hw)) (by decide) (t := .int) (t' := .int) (by decide) (by decide))))
    have f26 : Arv Z h20 ax kx .int (64 : Int32) [(.int x0), (.int x1), (.int x2)] (.int (0 : Int32)) := (H5.other W20 (Ne.symm ne_a1_ax))
    have f27 : Arv Z h20 al kl .int (64 : Int32) [(.int l0), (.int l1), (.int l2)] (.int (0 : Int32)) := (H6.other W20 (Ne.symm ne_a1_al))
    have ke28 : Keep h0 h20 [a1] := (Keep.wr (Keep.refl h0 [a1]) W20 (Or.inl (List.mem_of_getElem? (i := 0) rfl)))
    obtain ⟨fs, hr, hrun, hended, hW, hsame⟩ := X20.leave (v := some (.int l2)) (fun h => by rw [Bd.returns] at h; cases h)
    refine ⟨_, _, ?_, hrun, hended, _, _, rfl, ?_, ⟨_, rfl⟩, hW, hsame.mono (by decide) (by decide)⟩
    · exact retI X20 hx Bd.returns (hb hby d5_62) hr
    · show Q_lb_033 _ _ _ _ _ _ _ _ _ _ _ _ _ _ _ _ _ T20.heap _
      rw [e20]
      exact ⟨rfl, N20, ke28, f22, f23, f24, f21, f25, f26, f27⟩
def Q_rc_13 (Z : State)  (h0 : Heap) (n0 : Nat) (vR : Option Value) (h : Heap) (L : List Loc) : Prop := vR = none ∧ Fr n0 L ∧ h = h0
theorem ef_rc_13 (m : MethodId) (x0 : Int32) (x1 : Int32) (x2 : Int32) : entryFrame m #[(.int x0), (.int x1), (.int x2)] 3 = mkF m 0 #[.val (.int x0), .val (.int x1), .val (.int x2)] [] := by first | (simp [entryFrame, mkF, argsToLocals, Value.category]; done) | rfl
set_option maxRecDepth 65536 in
set_option maxHeartbeats 40000000 in
theorem rm_rc_13 (l : Launch) (Z : State) (a0 : Array Value) (hw : ∀ d ∈ tables_1, d.before a0 Z = true) (ws : List Jvm.Cond)  (h0 : Heap) (n0 : Nat) (Z0 : n0 ≤ h0.size)  :
    MetFree l (⟨"java/util/Arrays", "rangeCheck", "(III)V"⟩ : MethodName) (head1 (Jvm.Cond.code (⟨"java/util/Arrays", "rangeCheck", "(III)V"⟩ : MethodName) jdk_65_method_30_code 3 none :: ws) ({ frames := 0, cells := 0, slots := 0, locals := 0 } : Room)) (fun a U => a = #[(.int 64), (.int 1), (.int 3)] ∧ Z.Warmed39 U.vm ∧ U.heap = h0) (fun _ _ _ _ _ => True) (fun _ U o U' => ∃ v L, o = .returned v ∧ Q_rc_13 Z h0 n0 v U'.heap L ∧ FrameEnd U o U' L ({ frames := 0, cells := 0, slots := 0, locals := 0 } : Room).cells ({ frames := 0, cells := 0, slots := 0, locals := 0 } : Room).slots) := by
  refine MetFree.of_bodySF (plainFor_of_name pn_java_util_Arrays) hisR ?_
  intro p e s m args below meth c s₁ Bd hml0 hP hK
  obtain ⟨rfl, hZ, hh⟩ := hP
  have hx := Bd.exec
  have hby := Bd.bytes
  have hml : c.maxLocals = 3 := hml0
  have hown : s.vm.findClass "java/util/Arrays" = some m.cls := findClass_of_methodNamed Bd.named
  have hnm := (name_of_methodNamed Bd.named Bd.method).1
  have X0 : Stand p l e ({ frames := 0, cells := 0, slots := 0, locals := 0 } : Room) s m #[(.int 64), (.int 1), (.int 3)] below meth c s₁ [] 0 0 := Stand.of_body Bd
  have e0 : s₁.heap = h0 := by rw [← hh, Bd.state]; rfl
  have N0 := Fr.nil n0
  refine go_st (fun t k => castTop (ef_rc_13 m (64 : Int32) (1 : Int32) (3 : Int32)) k) ?_
  show Go _ _ _ _ (s₁.setTop (mkF m 0 #[iv 64, iv 1, iv 3] []))
  refine go_st (fun t k => XS.iloadN X0.here hx rfl (hb hby d2_0) rfl k) ?_
  refine go_st (fun t k => XS.iloadN X0.here hx rfl (hb hby d2_1) rfl k) ?_
  show Go _ _ _ _ (s₁.setTop (mkF m 2 #[iv 64, iv 1, iv 3] [(.int 3), (.int 1)]))
  refine go_st (fun t k => XS.icmpYes X0.here hx rfl (pc0 := 2) (pc' := 46) rfl (hb hby d2_2) rfl (flt ((by decide) : ¬ ((3 : Int32) < (1 : Int32)))).2.2.2 (by decide) (by decide) k) ?_
  show Go _ _ _ _ (s₁.setTop (mkF m 46 #[iv 64, iv 1, iv 3] []))
  refine go_st (fun t k => XS.iloadN X0.here hx rfl (hb hby d2_46) rfl k) ?_
  show Go _ _ _ _ (s₁.setTop (mkF m 47 #[iv 64, iv 1, iv 3] [(.int 1)]))
  refine go_st (fun t k => XS.ifYes X0.here hx rfl (pc0 := 47) (pc' := 59) rfl (hb hby d2_47) rfl ((if0 _ _).trans (flt ((by decide) : ¬ ((1 : Int32) < (0 : Int32)))).2.1) (by decide) (by decide) k) ?_
  show Go _ _ _ _ (s₁.setTop (mkF m 59 #[iv 64, iv 1, iv 3] []))
  refine go_st (fun t k => XS.iloadN X0.here hx rfl (hb hby d2_59) rfl k) ?_
  refine go_st (fun t k => XS.iloadN X0.here hx rfl (hb hby d2_60) rfl k) ?_
  show Go _ _ _ _ (s₁.setTop (mkF m 61 #[iv 64, iv 1, iv 3] [(.int 64), (.int 3)]))
  refine go_st (fun t k => XS.icmpYes X0.here hx rfl (pc0 := 61) (pc' := 73) rfl (hb hby d2_61) rfl (flt ((by decide) : ¬ ((64 : Int32) < (3 : Int32)))).2.2.2 (by decide) (by decide) k) ?_
  show Go _ _ _ _ (s₁.setTop (mkF m 73 #[iv 64, iv 1, iv 3] []))
  obtain ⟨fs, hr, hrun, hended, hW, hsame⟩ := X0.leave (v := none) (fun _ => rfl)
  refine ⟨_, _, ?_, hrun, hended, _, _, rfl, ?_, ⟨_, rfl⟩, hW, hsame.mono (by decide) (by decide)⟩
  · exact X0.returnOut hx Bd.returns (hb hby d2_73) hr
  · show Q_rc_13 _ _ _ _ s₁.heap _
    rw [e0]
    exact ⟨rfl, N0, rfl⟩
def Q_bs0_132 (Z : State) (ax : Addr) (kx : ClassId) (key : Int32) (x0 : Int32) (x1 : Int32) (x2 : Int32) (h0 : Heap) (n0 : Nat) (vR : Option Value) (h : Heap) (L : List Loc) : Prop := ∃ (r : Int32), vR = some (.int r) ∧ Fr n0 L ∧ h = h0 ∧ (r = (2 : Int32) ∨ r = (-3 : Int32))
theorem ef_bs0_132 (m : MethodId) (x0 : Addr) (x1 : Int32) (x2 : Int32) (x3 : Int32) : entryFrame m #[(.ref x0), (.int x1), (.int x2), (.int x3)] 8 = mkF m 0 #[.val (.ref x0), .val (.int x1), .val (.int x2), .val (.int x3), .unset, .unset, .unset, .unset] [] := by first | (simp [entryFrame, mkF, argsToLocals, Value.category]; done) | rfl
set_option maxRecDepth 65536 in
set_option maxHeartbeats 40000000 in
theorem rm_bs0_132 (l : Launch) (Z : State) (a0 : Array Value) (hw : ∀ d ∈ tables_1, d.before a0 Z = true) (ws : List Jvm.Cond) (ax : Addr) (kx : ClassId) (key : Int32) (x0 : Int32) (x1 : Int32) (x2 : Int32) (h0 : Heap) (n0 : Nat) (Z0 : n0 ≤ h0.size) (H0 : Arv Z h0 ax kx .int (64 : Int32) [(.int x0), (.int x1), (.int x2)] (.int (0 : Int32))) (s1 : x1 < x2) (hl : x1 < key) (hr : ¬ (x2 < key)) :
    MetFree l (⟨"java/util/Arrays", "binarySearch0", "([IIII)I"⟩ : MethodName) (head1 (Jvm.Cond.code (⟨"java/util/Arrays", "binarySearch0", "([IIII)I"⟩ : MethodName) jdk_65_method_59_code 8 (some .int) :: ws) ({ frames := 0, cells := 0, slots := 0, locals := 0 } : Room)) (fun a U => a = #[(.ref ax), (.int 1), (.int 3), (.int key)] ∧ Z.Warmed39 U.vm ∧ U.heap = h0) (fun _ _ _ _ _ => True) (fun _ U o U' => ∃ v L, o = .returned v ∧ Q_bs0_132 Z ax kx key x0 x1 x2 h0 n0 v U'.heap L ∧ FrameEnd U o U' L ({ frames := 0, cells := 0, slots := 0, locals := 0 } : Room).cells ({ frames := 0, cells := 0, slots := 0, locals := 0 } : Room).slots) := by
  refine MetFree.of_bodySF (plainFor_of_name pn_java_util_Arrays) hisR ?_
  intro p e s m args below meth c s₁ Bd hml0 hP hK
  obtain ⟨rfl, hZ, hh⟩ := hP
  have hx := Bd.exec
  have hby := Bd.bytes
  have hml : c.maxLocals = 8 := hml0
  have hown : s.vm.findClass "java/util/Arrays" = some m.cls := findClass_of_methodNamed Bd.named
  have hnm := (name_of_methodNamed Bd.named Bd.method).1
  have X0 : Stand p l e ({ frames := 0, cells := 0, slots := 0, locals := 0 } : Room) s m #[(.ref ax), (.int 1), (.int 3), (.int key)] below meth c s₁ [] 0 0 := Stand.of_body Bd
  have e0 : s₁.heap = h0 := by rw [← hh, Bd.state]; rfl
  have N0 := Fr.nil n0
  refine go_st (fun t k => castTop (ef_bs0_132 m ax (1 : Int32) (3 : Int32) key) k) ?_
  show Go _ _ _ _ (s₁.setTop (mkF m 0 #[rv ax, iv 1, iv 3, iv key, .unset, .unset, .unset, .unset] []))
  refine go_st (fun t k => XS.iloadN X0.here hx rfl (hb hby d3_0) rfl k) ?_
  refine go_st (fun t k => XS.istore X0.here hx rfl (hb hby d3_1) rfl (l' := #[rv ax, iv 1, iv 3, iv key, iv 1, .unset, .unset, .unset]) rfl k) ?_
  refine go_st (fun t k => XS.iloadN X0.here hx rfl (hb hby d3_3) rfl k) ?_
  refine go_st (fun t k => XS.iconst X0.here hx rfl (hb hby d3_4) k) ?_
  show Go _ _ _ _ (s₁.setTop (mkF m 5 #[rv ax, iv 1, iv 3, iv key, iv 1, .unset, .unset, .unset] [(.int 1), (.int 3)]))
  refine go_st (fun t k => XS.isub X0.here hx rfl (hb hby d3_5) rfl k) ?_
  rw [show ((3 : Int32) - (1 : Int32)) = (2 : Int32) from by decide]
  show Go _ _ _ _ (s₁.setTop (mkF m 6 #[rv ax, iv 1, iv 3, iv key, iv 1, .unset, .unset, .unset] [(.int 2)]))
  refine go_st (fun t k => XS.istore X0.here hx rfl (hb hby d3_6) rfl (l' := #[rv ax, iv 1, iv 3, iv key, iv 1, iv 2, .unset, .unset]) rfl k) ?_
  refine go_st (fun t k => XS.iload X0.here hx rfl (hb hby d3_8) rfl k) ?_
  refine go_st (fun t k => XS.iload X0.here hx rfl (hb hby d3_10) rfl k) ?_
  show Go _ _ _ _ (s₁.setTop (mkF m 12 #[rv ax, iv 1, iv 3, iv key, iv 1, iv 2, .unset, .unset] [(.int 2), (.int 1)]))
  refine go_st (fun t k => XS.icmpNo X0.here hx rfl (hb hby d3_12) rfl (flt ((by decide) : ¬ ((2 : Int32) < (1 : Int32)))).2.2.1 k) ?_
  show Go _ _ _ _ (s₁.setTop (mkF m 15 #[rv ax, iv 1, iv 3, iv key, iv 1, iv 2, .unset, .unset] []))
  refine go_st (fun t k => XS.iload X0.here hx rfl (hb hby d3_15) rfl k) ?_
  refine go_st (fun t k => XS.iload X0.here hx rfl (hb hby d3_17) rfl k) ?_
  show Go _ _ _ _ (s₁.setTop (mkF m 19 #[rv ax, iv 1, iv 3, iv key, iv 1, iv 2, .unset, .unset] [(.int 2), (.int 1)]))
  refine go_st (fun t k => XS.iadd X0.here hx rfl (hb hby d3_19) rfl k) ?_
  rw [show ((1 : Int32) + (2 : Int32)) = (3 : Int32) from by decide]
  show Go _ _ _ _ (s₁.setTop (mkF m 20 #[rv ax, iv 1, iv 3, iv key, iv 1, iv 2, .unset, .unset] [(.int 3)]))
  refine go_st (fun t k => XS.iconst X0.here hx rfl (hb hby d3_20) k) ?_
  show Go _ _ _ _ (s₁.setTop (mkF m 21 #[rv ax, iv 1, iv 3, iv key, iv 1, iv 2, .unset, .unset] [(.int 1), (.int 3)]))
  refine go_st (fun t k => XS.iushr X0.here hx rfl (hb hby d3_21) rfl k) ?_
  rw [show (((3 : Int32)).toUInt32 >>> ((1 : Int32) &&& 31).toUInt32).toInt32 = (1 : Int32) from by decide]
  show Go _ _ _ _ (s₁.setTop (mkF m 22 #[rv ax, iv 1, iv 3, iv key, iv 1, iv 2, .unset, .unset] [(.int 1)]))
  refine go_st (fun t k => XS.istore X0.here hx rfl (hb hby d3_22) rfl (l' := #[rv ax, iv 1, iv 3, iv key, iv 1, iv 2, iv 1, .unset]) rfl k) ?_
  refine go_st (fun t k => XS.aloadN X0.here hx rfl (hb hby d3_24) rfl rfl k) ?_
  refine go_st (fun t k => XS.iload X0.here hx rfl (hb hby d3_25) rfl k) ?_
  show Go _ _ _ _ (s₁.setTop (mkF m 27 #[rv ax, iv 1, iv 3, iv key, iv 1, iv 2, iv 1, .unset] [(.int 1), (.ref ax)]))
  obtain ⟨zc1, zA1, zq1, zS1, zN1, zH1, zG1⟩ := id H0
  have hin1 : ¬ ((1 : Int32) < 0 ∨ zc1.slots.size ≤ ((1 : Int32)).toNatClampNeg) := inb_of zS1 ⟨by decide, by decide⟩
  have hat1 : zc1.slots[((1 : Int32)).toNatClampNeg]? = some (.int x1) := Has.at zH1 hin1 rfl
  refine go_st (fun t k => X0.iaload hx (j := (1 : Int32)) (v := (.int x1)) (by rw [e0]; exact zA1.1) (State.isArrayOf_alike hZ.alike zA1.2.1) zA1.2.2 hin1 hat1 (g := (mkF m 27 #[rv ax, iv 1, iv 3, iv key, iv 1, iv 2, iv 1, .unset] [(.int 1), (.ref ax)])) rfl rfl (hb hby d3_27) t k) ?_
  refine go_st (fun t k => XS.istore X0.here hx rfl (hb hby d3_28) rfl (l' := #[rv ax, iv 1, iv 3, iv key, iv 1, iv 2, iv 1, iv x1]) rfl k) ?_
  refine go_st (fun t k => XS.iload X0.here hx rfl (hb hby d3_30) rfl k) ?_
  refine go_st (fun t k => XS.iloadN X0.here hx rfl (hb hby d3_32) rfl k) ?_
  show Go _ _ _ _ (s₁.setTop (mkF m 33 #[rv ax, iv 1, iv 3, iv key, iv 1, iv 2, iv 1, iv x1] [(.int key), (.int x1)]))
  refine go_st (fun t k => XS.icmpNo X0.here hx rfl (hb hby d3_33) rfl (tlt (hl : x1 < key)).2.1 k) ?_
  show Go _ _ _ _ (s₁.setTop (mkF m 36 #[rv ax, iv 1, iv 3, iv key, iv 1, iv 2, iv 1, iv x1] []))
  refine go_st (fun t k => XS.iload X0.here hx rfl (hb hby d3_36) rfl k) ?_
  refine go_st (fun t k => XS.iconst X0.here hx rfl (hb hby d3_38) k) ?_
  show Go _ _ _ _ (s₁.setTop (mkF m 39 #[rv ax, iv 1, iv 3, iv key, iv 1, iv 2, iv 1, iv x1] [(.int 1), (.int 1)]))
  refine go_st (fun t k => XS.iadd X0.here hx rfl (hb hby d3_39) rfl k) ?_
  rw [show ((1 : Int32) + (1 : Int32)) = (2 : Int32) from by decide]
  show Go _ _ _ _ (s₁.setTop (mkF m 40 #[rv ax, iv 1, iv 3, iv key, iv 1, iv 2, iv 1, iv x1] [(.int 2)]))
  refine go_st (fun t k => XS.istore X0.here hx rfl (hb hby d3_40) rfl (l' := #[rv ax, iv 1, iv 3, iv key, iv 2, iv 2, iv 1, iv x1]) rfl k) ?_
  refine go_st (fun t k => XS.goto X0.here hx rfl (pc0 := 42) (pc' := 63) rfl (hb hby d3_42) (by decide) (by decide) k) ?_
  show Go _ _ _ _ (s₁.setTop (mkF m 63 #[rv ax, iv 1, iv 3, iv key, iv 2, iv 2, iv 1, iv x1] []))
  refine go_st (fun t k => XS.goto X0.here hx rfl (pc0 := 63) (pc' := 8) rfl (hb hby d3_63) (by decide) (by decide) k) ?_
  show Go _ _ _ _ (s₁.setTop (mkF m 8 #[rv ax, iv 1, iv 3, iv key, iv 2, iv 2, iv 1, iv x1] []))
  refine go_st (fun t k => XS.iload X0.here hx rfl (hb hby d3_8) rfl k) ?_
  refine go_st (fun t k => XS.iload X0.here hx rfl (hb hby d3_10) rfl k) ?_
  show Go _ _ _ _ (s₁.setTop (mkF m 12 #[rv ax, iv 1, iv 3, iv key, iv 2, iv 2, iv 1, iv x1] [(.int 2), (.int 2)]))
  refine go_st (fun t k => XS.icmpNo X0.here hx rfl (hb hby d3_12) rfl (flt ((by decide) : ¬ ((2 : Int32) < (2 : Int32)))).2.2.1 k) ?_
  show Go _ _ _ _ (s₁.setTop (mkF m 15 #[rv ax, iv 1, iv 3, iv key, iv 2, iv 2, iv 1, iv x1] []))
  refine go_st (fun t k => XS.iload X0.here hx rfl (hb hby d3_15) rfl k) ?_
  refine go_st (fun t k => XS.iload X0.here hx rfl (hb hby d3_17) rfl k) ?_
  show Go _ _ _ _ (s₁.setTop (mkF m 19 #[rv ax, iv 1, iv 3, iv key, iv 2, iv 2, iv 1, iv x1] [(.int 2), (.int 2)]))
  refine go_st (fun t k => XS.iadd X0.here hx rfl (hb hby d3_19) rfl k) ?_
  rw [show ((2 : Int32) + (2 : Int32)) = (4 : Int32) from by decide]
  show Go _ _ _ _ (s₁.setTop (mkF m 20 #[rv ax, iv 1, iv 3, iv key, iv 2, iv 2, iv 1, iv x1] [(.int 4)]))
  refine go_st (fun t k => XS.iconst X0.here hx rfl (hb hby d3_20) k) ?_
  show Go _ _ _ _ (s₁.setTop (mkF m 21 #[rv ax, iv 1, iv 3, iv key, iv 2, iv 2, iv 1, iv x1] [(.int 1), (.int 4)]))
  refine go_st (fun t k => XS.iushr X0.here hx rfl (hb hby d3_21) rfl k) ?_
  rw [show (((4 : Int32)).toUInt32 >>> ((1 : Int32) &&& 31).toUInt32).toInt32 = (2 : Int32) from by decide]
  show Go _ _ _ _ (s₁.setTop (mkF m 22 #[rv ax, iv 1, iv 3, iv key, iv 2, iv 2, iv 1, iv x1] [(.int 2)]))
  refine go_st (fun t k => XS.istore X0.here hx rfl (hb hby d3_22) rfl (l' := #[rv ax, iv 1, iv 3, iv key, iv 2, iv 2, iv 2, iv x1]) rfl k) ?_
  refine go_st (fun t k => XS.aloadN X0.here hx rfl (hb hby d3_24) rfl rfl k) ?_
  refine go_st (fun t k => XS.iload X0.here hx rfl (hb hby d3_25) rfl k) ?_
  show Go _ _ _ _ (s₁.setTop (mkF m 27 #[rv ax, iv 1, iv 3, iv key, iv 2, iv 2, iv 2, iv x1] [(.int 2), (.ref ax)]))
  obtain ⟨zc2, zA2, zq2, zS2, zN2, zH2, zG2⟩ := id H0
  have hin2 : ¬ ((2 : Int32) < 0 ∨ zc2.slots.size ≤ ((2 : Int32)).toNatClampNeg) := inb_of zS2 ⟨by decide, by decide⟩
  have hat2 : zc2.slots[((2 : Int32)).toNatClampNeg]? = some (.int x2) := Has.at zH2 hin2 rfl
  refine go_st (fun t k => X0.iaload hx (j := (2 : Int32)) (v := (.int x2)) (by rw [e0]; exact zA2.1) (State.isArrayOf_alike hZ.alike zA2.2.1) zA2.2.2 hin2 hat2 (g := (mkF m 27 #[rv ax, iv 1, iv 3, iv key, iv 2, iv 2, iv 2, iv x1] [(.int 2), (.ref ax)])) rfl rfl (hb hby d3_27) t k) ?_
  refine go_st (fun t k => XS.istore X0.here hx rfl (hb hby d3_28) rfl (l' := #[rv ax, iv 1, iv 3, iv key, iv 2, iv 2, iv 2, iv x2]) rfl k) ?_
  refine go_st (fun t k => XS.iload X0.here hx rfl (hb hby d3_30) rfl k) ?_
  refine go_st (fun t k => XS.iloadN X0.here hx rfl (hb hby d3_32) rfl k) ?_
  show Go _ _ _ _ (s₁.setTop (mkF m 33 #[rv ax, iv 1, iv 3, iv key, iv 2, iv 2, iv 2, iv x2] [(.int key), (.int x2)]))
  refine go_st (fun t k => XS.icmpYes X0.here hx rfl (pc0 := 33) (pc' := 45) rfl (hb hby d3_33) rfl (flt (hr : ¬ (x2 < key))).2.1 (by decide) (by decide) k) ?_
  show Go _ _ _ _ (s₁.setTop (mkF m 45 #[rv ax, iv 1, iv 3, iv key, iv 2, iv 2, iv 2, iv x2] []))
  refine go_st (fun t k => XS.iload X0.here hx rfl (hb hby d3_45) rfl k) ?_
  refine go_st (fun t k => XS.iloadN X0.here hx rfl (hb hby d3_47) rfl k) ?_
  show Go _ _ _ _ (s₁.setTop (mkF m 48 #[rv ax, iv 1, iv 3, iv key, iv 2, iv 2, iv 2, iv x2] [(.int key), (.int x2)]))
  by_cases hc3 : key < x2
  · skip
    refine go_st (fun t k => XS.icmpNo X0.here hx rfl (hb hby d3_48) rfl (tlt (hc3 : key < x2)).2.2.2 k) ?_
    show Go _ _ _ _ (s₁.setTop (mkF m 51 #[rv ax, iv 1, iv 3, iv key, iv 2, iv 2, iv 2, iv x2] []))
    refine go_st (fun t k => XS.iload X0.here hx rfl (hb hby d3_51) rfl k) ?_
    refine go_st (fun t k => XS.iconst X0.here hx rfl (hb hby d3_53) k) ?_
    show Go _ _ _ _ (s₁.setTop (mkF m 54 #[rv ax, iv 1, iv 3, iv key, iv 2, iv 2, iv 2, iv x2] [(.int 1), (.int 2)]))
    refine go_st (fun t k => XS.isub X0.here hx rfl (hb hby d3_54) rfl k) ?_
    rw [show ((2 : Int32) - (1 : Int32)) = (1 : Int32) from by decide]
    show Go _ _ _ _ (s₁.setTop (mkF m 55 #[rv ax, iv 1, iv 3, iv key, iv 2, iv 2, iv 2, iv x2] [(.int 1)]))
    refine go_st (fun t k => XS.istore X0.here hx rfl (hb hby d3_55) rfl (l' := #[rv ax, iv 1, iv 3, iv key, iv 2, iv 1, iv 2, iv x2]) rfl k) ?_
    refine go_st (fun t k => XS.goto X0.here hx rfl (pc0 := 57) (pc' := 63) rfl (hb hby d3_57) (by decide) (by decide) k) ?_
    show Go _ _ _ _ (s₁.setTop (mkF m 63 #[rv ax, iv 1, iv 3, iv key, iv 2, iv 1, iv 2, iv x2] []))
    refine go_st (fun t k => XS.goto X0.here hx rfl (pc0 := 63) (pc' := 8) rfl (hb hby d3_63) (by decide) (by decide) k) ?_
    show Go _ _ _ _ (s₁.setTop (mkF m 8 #[rv ax, iv 1, iv 3, iv key, iv 2, iv 1, iv 2, iv x2] []))
    refine go_st (fun t k => XS.iload X0.here hx rfl (hb hby d3_8) rfl k) ?_
    refine go_st (fun t k => XS.iload X0.here hx rfl (hb hby d3_10) rfl k) ?_
    show Go _ _ _ _ (s₁.setTop (mkF m 12 #[rv ax, iv 1, iv 3, iv key, iv 2, iv 1, iv 2, iv x2] [(.int 1), (.int 2)]))
    refine go_st (fun t k => XS.icmpYes X0.here hx rfl (pc0 := 12) (pc' := 66) rfl (hb hby d3_12) rfl (tlt ((by decide) : (1 : Int32) < (2 : Int32))).2.2.1 (by decide) (by decide) k) ?_
    show Go _ _ _ _ (s₁.setTop (mkF m 66 #[rv ax, iv 1, iv 3, iv key, iv 2, iv 1, iv 2, iv x2] []))
    refine go_st (fun t k => XS.iload X0.here hx rfl (hb hby d3_66) rfl k) ?_
    refine go_st (fun t k => XS.iconst X0.here hx rfl (hb hby d3_68) k) ?_
    show Go _ _ _ _ (s₁.setTop (mkF m 69 #[rv ax, iv 1, iv 3, iv key, iv 2, iv 1, iv 2, iv x2] [(.int 1), (.int 2)]))
    refine go_st (fun t k => XS.iadd X0.here hx rfl (hb hby d3_69) rfl k) ?_
    rw [show ((2 : Int32) + (1 : Int32)) = (3 : Int32) from by decide]
    show Go _ _ _ _ (s₁.setTop (mkF m 70 #[rv ax, iv 1, iv 3, iv key, iv 2, iv 1, iv 2, iv x2] [(.int 3)]))
    refine go_st (fun t k => XS.ineg X0.here hx rfl (hb hby d3_70) rfl k) ?_
    rw [show (-(3 : Int32)) = (-3 : Int32) from by decide]
    show Go _ _ _ _ (s₁.setTop (mkF m 71 #[rv ax, iv 1, iv 3, iv key, iv 2, iv 1, iv 2, iv x2] [(.int (-3))]))
    obtain ⟨fs, hr, hrun, hended, hW, hsame⟩ := X0.leave (v := some (.int (-3))) (fun h => by rw [Bd.returns] at h; cases h)
    refine ⟨_, _, ?_, hrun, hended, _, _, rfl, ?_, ⟨_, rfl⟩, hW, hsame.mono (by decide) (by decide)⟩
    · exact retI X0 hx Bd.returns (hb hby d3_71) hr
    · show Q_bs0_132 _ _ _ _ _ _ _ _ _ _ s₁.heap _
      rw [e0]
      exact ⟨(-3 : Int32), rfl, N0, rfl, (Or.inr rfl)⟩
  · skip
    refine go_st (fun t k => XS.icmpYes X0.here hx rfl (pc0 := 48) (pc' := 60) rfl (hb hby d3_48) rfl (flt (hc3 : ¬ (key < x2))).2.2.2 (by decide) (by decide) k) ?_
    show Go _ _ _ _ (s₁.setTop (mkF m 60 #[rv ax, iv 1, iv 3, iv key, iv 2, iv 2, iv 2, iv x2] []))
    refine go_st (fun t k => XS.iload X0.here hx rfl (hb hby d3_60) rfl k) ?_
    show Go _ _ _ _ (s₁.setTop (mkF m 62 #[rv ax, iv 1, iv 3, iv key, iv 2, iv 2, iv 2, iv x2] [(.int 2)]))
    obtain ⟨fs, hr, hrun, hended, hW, hsame⟩ := X0.leave (v := some (.int 2)) (fun h => by rw [Bd.returns] at h; cases h)
    refine ⟨_, _, ?_, hrun, hended, _, _, rfl, ?_, ⟨_, rfl⟩, hW, hsame.mono (by decide) (by decide)⟩
    · exact retI X0 hx Bd.returns (hb hby d3_62) hr
    · show Q_bs0_132 _ _ _ _ _ _ _ _ _ _ s₁.heap _
      rw [e0]
      exact ⟨(2 : Int32), rfl, N0, rfl, (Or.inl rfl)⟩
def Q_bs_132 (Z : State) (ax : Addr) (kx : ClassId) (key : Int32) (x0 : Int32) (x1 : Int32) (x2 : Int32) (h0 : Heap) (n0 : Nat) (vR : Option Value) (h : Heap) (L : List Loc) : Prop := ∃ (r : Int32), vR = some (.int r) ∧ Fr n0 L ∧ h = h0 ∧ (r = (2 : Int32) ∨ r = (-3 : Int32))
theorem ef_bs_132 (m : MethodId) (x0 : Addr) (x1 : Int32) (x2 : Int32) (x3 : Int32) : entryFrame m #[(.ref x0), (.int x1), (.int x2), (.int x3)] 4 = mkF m 0 #[.val (.ref x0), .val (.int x1), .val (.int x2), .val (.int x3)] [] := by first | (simp [entryFrame, mkF, argsToLocals, Value.category]; done) | rfl
set_option maxRecDepth 65536 in
set_option maxHeartbeats 40000000 in
theorem rm_bs_132 (l : Launch) (Z : State) (a0 : Array Value) (hw : ∀ d ∈ tables_1, d.before a0 Z = true) (ws : List Jvm.Cond) (ax : Addr) (kx : ClassId) (key : Int32) (x0 : Int32) (x1 : Int32) (x2 : Int32) (h0 : Heap) (n0 : Nat) (Z0 : n0 ≤ h0.size) (H0 : Arv Z h0 ax kx .int (64 : Int32) [(.int x0), (.int x1), (.int x2)] (.int (0 : Int32))) (s1 : x1 < x2) (hl : x1 < key) (hr : ¬ (x2 < key)) :
    MetFree l (⟨"java/util/Arrays", "binarySearch", "([IIII)I"⟩ : MethodName) (head1 (Jvm.Cond.code (⟨"java/util/Arrays", "binarySearch", "([IIII)I"⟩ : MethodName) jdk_65_method_58_code 4 (some .int) :: ws) ({ frames := 1, cells := 0, slots := 0, locals := 19 } : Room)) (fun a U => a = #[(.ref ax), (.int 1), (.int 3), (.int key)] ∧ Z.Warmed39 U.vm ∧ U.heap = h0) (fun _ _ _ _ _ => True) (fun _ U o U' => ∃ v L, o = .returned v ∧ Q_bs_132 Z ax kx key x0 x1 x2 h0 n0 v U'.heap L ∧ FrameEnd U o U' L ({ frames := 1, cells := 0, slots := 0, locals := 19 } : Room).cells ({ frames := 1, cells := 0, slots := 0, locals := 19 } : Room).slots) := by
  refine MetFree.of_bodySF (plainFor_of_name pn_java_util_Arrays) hisR ?_
  intro p e s m args below meth c s₁ Bd hml0 hP hK
  obtain ⟨rfl, hZ, hh⟩ := hP
  have hx := Bd.exec
  have hby := Bd.bytes
  have hml : c.maxLocals = 4 := hml0
  have hown : s.vm.findClass "java/util/Arrays" = some m.cls := findClass_of_methodNamed Bd.named
  have hnm := (name_of_methodNamed Bd.named Bd.method).1
  have X0 : Stand p l e ({ frames := 1, cells := 0, slots := 0, locals := 19 } : Room) s m #[(.ref ax), (.int 1), (.int 3), (.int key)] below meth c s₁ [] 0 0 := Stand.of_body Bd
  have e0 : s₁.heap = h0 := by rw [← hh, Bd.state]; rfl
  have N0 := Fr.nil n0
  refine go_st (fun t k => castTop (ef_bs_132 m ax (1 : Int32) (3 : Int32) key) k) ?_
  show Go _ _ _ _ (s₁.setTop (mkF m 0 #[rv ax, iv 1, iv 3, iv key] []))
  refine go_st (fun t k => XS.aloadN X0.here hx rfl (hb hby d4_0) rfl rfl k) ?_
  show Go _ _ _ _ (s₁.setTop (mkF m 1 #[rv ax, iv 1, iv 3, iv key] [(.ref ax)]))
  obtain ⟨zc1, zA1, zq1, zS1, zN1, zH1, zG1⟩ := id H0
  refine go_st (fun t k => X0.arraylength hx (by rw [e0]; exact zA1.1) (State.isArrayOf_alike hZ.alike zA1.2.1) (g := (mkF m 1 #[rv ax, iv 1, iv 3, iv key] [(.ref ax)])) rfl rfl (hb hby d4_1) t k) ?_
  rw [len_of zS1 zN1]
  refine go_st (fun t k => XS.iloadN X0.here hx rfl (hb hby d4_2) rfl k) ?_
  refine go_st (fun t k => XS.iloadN X0.here hx rfl (hb hby d4_3) rfl k) ?_
  show Go _ _ _ _ (s₁.setTop (mkF m 4 #[rv ax, iv 1, iv 3, iv key] [(.int 3), (.int 1), (.int 64)]))
  obtain ⟨_, _, ⟨T2, L2, kk2, nn2⟩, -, X2, ⟨Lc2, hQ2, lq2, yq2, zq2⟩, st2⟩ := Jvm.LawKit.callS X0 hx (y := (⟨"java/util/Arrays", "rangeCheck", "(III)V"⟩ : MethodName)) hown (mvT hZ (w37 hw)) (mvT hZ (w38 hw)) (mvT hZ (w35 hw)) (mvT hZ (w39 hw)) (by decide) (backOf (W := 0) (rm_rc_13 l Z a0 hw []  h0 n0 (Nat.le_trans Z0 (Nat.le_refl _)) ) hZ (w39 hw) (w35 hw) (by decide) (by decide)) (g := (mkF m 4 #[rv ax, iv 1, iv 3, iv key] [(.int 3), (.int 1), (.int 64)])) rfl (by rw [hml]; rfl) (argsL := [(.int 64), (.int 1), (.int 3)]) (rest := []) (lenOf pd_0 rfl) rfl (by show 2 * 0 + _ ≤ _; exact Nat.le_of_eq rfl) (hb hby d4_4) (fun _ _ => ⟨rfl, e0, (by decide : 0 + 0 ≤ _), (by decide : 0 + 0 ≤ _)⟩)
  dsimp only [Pt.U, Pt.locs, Pt.cells, Pt.slots] at X2 lq2 yq2 zq2 st2 hQ2
  subst lq2 yq2 zq2
  obtain ⟨h2, e2⟩ : ∃ z, T2.heap = z := ⟨_, rfl⟩
  rw [e2] at hQ2
  obtain ⟨rfl, N2q, he2⟩ := hQ2
  have N2 := Fr.app N0 N2q
  rw [he2] at e2
  refine go_st st2 ?_
  show Go _ _ _ _ (T2.setTop (mkF m 7 #[rv ax, iv 1, iv 3, iv key] []))
  refine go_st (fun t k => XS.aloadN X2.here hx rfl (hb hby d4_7) rfl rfl k) ?_
  refine go_st (fun t k => XS.iloadN X2.here hx rfl (hb hby d4_8) rfl k) ?_
  refine go_st (fun t k => XS.iloadN X2.here hx rfl (hb hby d4_9) rfl k) ?_
  refine go_st (fun t k => XS.iloadN X2.here hx rfl (hb hby d4_10) rfl k) ?_
  show Go _ _ _ _ (T2.setTop (mkF m 11 #[rv ax, iv 1, iv 3, iv key] [(.int key), (.int 3), (.int 1), (.ref ax)]))
  obtain ⟨_, _, ⟨T3, L3, kk3, nn3⟩, -, X3, ⟨Lc3, hQ3, lq3, yq3, zq3⟩, st3⟩ := Jvm.LawKit.callS X2 hx (y := (⟨"java/util/Arrays", "binarySearch0", "([IIII)I"⟩ : MethodName)) hown (mvT hZ (w40 hw)) (mvT hZ (w41 hw)) (mvT hZ (w35 hw)) (mvT hZ (w42 hw)) (by decide) (backOf (W := 0) (rm_bs0_132 l Z a0 hw [] ax kx key x0 x1 x2 h0 n0 (Nat.le_trans Z0 (Nat.le_refl _)) H0 s1 hl hr) hZ (w42 hw) (w35 hw) (by decide) (by decide)) (g := (mkF m 11 #[rv ax, iv 1, iv 3, iv key] [(.int key), (.int 3), (.int 1), (.ref ax)])) rfl (by rw [hml]; rfl) (argsL := [(.ref ax), (.int 1), (.int 3), (.int key)]) (rest := []) (lenOf pd_1 rfl) rfl (by show 2 * 0 + _ ≤ _; exact Nat.le_of_eq rfl) (hb hby d4_11) (fun _ _ => ⟨rfl, e2, (by decide : 0 + 0 ≤ _), (by decide : 0 + 0 ≤ _)⟩)
  dsimp only [Pt.U, Pt.locs, Pt.cells, Pt.slots] at X3 lq3 yq3 zq3 st3 hQ3
  subst lq3 yq3 zq3
  obtain ⟨h3, e3⟩ : ∃ z, T3.heap = z := ⟨_, rfl⟩
  rw [e3] at hQ3
  obtain ⟨r_3, rfl, N3q, he3, hres_3⟩ := hQ3
  have N3 := Fr.app N2 N3q
  rw [he3] at e3
  refine go_st st3 ?_
  show Go _ _ _ _ (T3.setTop (mkF m 14 #[rv ax, iv 1, iv 3, iv key] [(.int r_3)]))
  obtain ⟨fs, hr, hrun, hended, hW, hsame⟩ := X3.leave (v := some (.int r_3)) (fun h => by rw [Bd.returns] at h; cases h)
  refine ⟨_, _, ?_, hrun, hended, _, _, rfl, ?_, ⟨_, rfl⟩, hW, hsame.mono (by decide) (by decide)⟩
  · exact retI X3 hx Bd.returns (hb hby d4_14) hr
  · show Q_bs_132 _ _ _ _ _ _ _ _ _ _ T3.heap _
    rw [e3]
    exact ⟨r_3, rfl, N3, rfl, hres_3⟩
def Q_lb_132 (Z : State) (a1 : Addr) (ax : Addr) (al : Addr) (kx : ClassId) (kl : ClassId) (key : Int32) (line : Int32) (x0 : Int32) (x1 : Int32) (x2 : Int32) (l0 : Int32) (l1 : Int32) (l2 : Int32) (h0 : Heap) (n0 : Nat) (vR : Option Value) (h : Heap) (L : List Loc) : Prop := vR = some (.int l1) ∧ Fr n0 L ∧ Keep h0 h [a1] ∧ (Exa Z h a1 cBE) ∧ (Fld Z h a1 cBE "indexes" "[I" (.ref ax)) ∧ (Fld Z h a1 cBE "lines" "[I" (.ref al)) ∧ (Fld Z h a1 cBE "first" "I" (.int 1)) ∧ (Fld Z h a1 cBE "count" "I" (.int 3)) ∧ (Arv Z h ax kx .int (64 : Int32) [(.int x0), (.int x1), (.int x2)] (.int (0 : Int32))) ∧ (Arv Z h al kl .int (64 : Int32) [(.int l0), (.int l1), (.int l2)] (.int (0 : Int32)))
theorem ef_lb_132 (m : MethodId) (x0 : Addr) (x1 : Int32) (x2 : Int32) : entryFrame m #[(.ref x0), (.int x1), (.int x2)] 6 = mkF m 0 #[.val (.ref x0), .val (.int x1), .val (.int x2), .unset, .unset, .unset] [] := by first | (simp [entryFrame, mkF, argsToLocals, Value.category]; done) | rfl
set_option maxRecDepth 65536 in
set_option maxHeartbeats 40000000 in
theorem rm_lb_132 (l : Launch) (Z : State) (a0 : Array Value) (hw : ∀ d ∈ tables_1, d.before a0 Z = true) (ws : List Jvm.Cond) (a1 : Addr) (ax : Addr) (al : Addr) (kx : ClassId) (kl : ClassId) (key : Int32) (line : Int32) (x0 : Int32) (x1 : Int32) (x2 : Int32) (l0 : Int32) (l1 : Int32) (l2 : Int32) (h0 : Heap) (n0 : Nat) (Z0 : n0 ≤ h0.size) (H0 : Exa Z h0 a1 cBE) (H1 : Fld Z h0 a1 cBE "indexes" "[I" (.ref ax)) (H2 : Fld Z h0 a1 cBE "lines" "[I" (.ref al)) (H3 : Fld Z h0 a1 cBE "first" "I" (.int 1)) (H4 : Fld Z h0 a1 cBE "count" "I" (.int 3)) (H5 : Arv Z h0 ax kx .int (64 : Int32) [(.int x0), (.int x1), (.int x2)] (.int (0 : Int32))) (H6 : Arv Z h0 al kl .int (64 : Int32) [(.int l0), (.int l1), (.int l2)] (.int (0 : Int32))) (ne_a1_ax : a1 ≠ ax) (ne_a1_al : a1 ≠ al) (ne_ax_al : ax ≠ al) (g_a1 : n0 ≤ a1) (s1 : x1 < x2) (hl : x1 < key) (hr : ¬ (x2 < key)) :
    MetFree l (⟨"com/example/nudge/nudge/tree/BlockEntries", "lineBefore", "(II)I"⟩ : MethodName) (head1 (Jvm.Cond.code (⟨"com/example/nudge/nudge/tree/BlockEntries", "lineBefore", "(II)I"⟩ : MethodName) prog_17_method_3_code 6 (some .int) :: ws) ({ frames := 2, cells := 0, slots := 0, locals := 34 } : Room)) (fun a U => a = #[(.ref a1), (.int key), (.int line)] ∧ Z.Warmed39 U.vm ∧ U.heap = h0) (fun _ _ _ _ _ => True) (fun _ U o U' => ∃ v L, o = .returned v ∧ Q_lb_132 Z a1 ax al kx kl key line x0 x1 x2 l0 l1 l2 h0 n0 v U'.heap L ∧ FrameEnd U o U' L ({ frames := 2, cells := 0, slots := 0, locals := 34 } : Room).cells ({ frames := 2, cells := 0, slots := 0, locals := 34 } : Room).slots) := by
  refine MetFree.of_bodySF (plainFor_of_name pn_com_example_nudge_nudge_tree_BlockEntries) hisR ?_
  intro p e s m args below meth c s₁ Bd hml0 hP hK
  obtain ⟨rfl, hZ, hh⟩ := hP
  have hx := Bd.exec
  have hby := Bd.bytes
  have hml : c.maxLocals = 6 := hml0
  have hown : s.vm.findClass "com/example/nudge/nudge/tree/BlockEntries" = some m.cls := findClass_of_methodNamed Bd.named
  have hnm := (name_of_methodNamed Bd.named Bd.method).1
  have X0 : Stand p l e ({ frames := 2, cells := 0, slots := 0, locals := 34 } : Room) s m #[(.ref a1), (.int key), (.int line)] below meth c s₁ [] 0 0 := Stand.of_body Bd
  have e0 : s₁.heap = h0 := by rw [← hh, Bd.state]; rfl
  have N0 := Fr.nil n0
  refine go_st (fun t k => castTop (ef_lb_132 m a1 key line) k) ?_
  show Go _ _ _ _ (s₁.setTop (mkF m 0 #[rv a1, iv key, iv line, .unset, .unset, .unset] []))
  refine go_st (fun t k => XS.aloadN X0.here hx rfl (hb hby d5_0) rfl rfl k) ?_
  show Go _ _ _ _ (s₁.setTop (mkF m 1 #[rv a1, iv key, iv line, .unset, .unset, .unset] [(.ref a1)]))
  obtain ⟨T1, X1, e1, st1⟩ := getF X0 hx hZ hown (host := "") (Or.inl (w15 hw)) Via.refl e0 H1 (g := (mkF m 1 #[rv a1, iv key, iv line, .unset, .unset, .unset] [(.ref a1)])) rfl rfl (hb hby d5_1)
  refine go_st (fun t k => st1 t k) ?_
  refine go_st (fun t k => XS.aloadN X1.here hx rfl (hb hby d5_4) rfl rfl k) ?_
  show Go _ _ _ _ (T1.setTop (mkF m 5 #[rv a1, iv key, iv line, .unset, .unset, .unset] [(.ref a1), (.ref ax)]))
  obtain ⟨T2, X2, e2, st2⟩ := getF X1 hx hZ hown (host := "") (Or.inl (w31 hw)) Via.refl e1 H3 (g := (mkF m 5 #[rv a1, iv key, iv line, .unset, .unset, .unset] [(.ref a1), (.ref ax)])) rfl rfl (hb hby d5_5)
  refine go_st (fun t k => st2 t k) ?_
  refine go_st (fun t k => XS.aloadN X2.here hx rfl (hb hby d5_8) rfl rfl k) ?_
  show Go _ _ _ _ (T2.setTop (mkF m 9 #[rv a1, iv key, iv line, .unset, .unset, .unset] [(.ref a1), (.int 1), (.ref ax)]))
  obtain ⟨T3, X3, e3, st3⟩ := getF X2 hx hZ hown (host := "") (Or.inl (w24 hw)) Via.refl e2 H4 (g := (mkF m 9 #[rv a1, iv key, iv line, .unset, .unset, .unset] [(.ref a1), (.int 1), (.ref ax)])) rfl rfl (hb hby d5_9)
  refine go_st (fun t k => st3 t k) ?_
  refine go_st (fun t k => XS.iloadN X3.here hx rfl (hb hby d5_12) rfl k) ?_
  show Go _ _ _ _ (T3.setTop (mkF m 13 #[rv a1, iv key, iv line, .unset, .unset, .unset] [(.int key), (.int 3), (.int 1), (.ref ax)]))
  obtain ⟨_, _, ⟨T4, L4, kk4, nn4⟩, -, X4, ⟨Lc4, hQ4, lq4, yq4, zq4⟩, st4⟩ := Jvm.LawKit.callS X3 hx (y := (⟨"java/util/Arrays", "binarySearch", "([IIII)I"⟩ : MethodName)) hown (mvT hZ (w33 hw)) (mvT hZ (w34 hw)) (mvT hZ (w35 hw)) (mvT hZ (w36 hw)) (by decide) (backOf (W := 0) (rm_bs_132 l Z a0 hw [] ax kx key x0 x1 x2 h0 n0 (Nat.le_trans Z0 (Nat.le_refl _)) H5 s1 hl hr) hZ (w36 hw) (w35 hw) (by decide) (by decide)) (g := (mkF m 13 #[rv a1, iv key, iv line, .unset, .unset, .unset] [(.int key), (.int 3), (.int 1), (.ref ax)])) rfl (by rw [hml]; rfl) (argsL := [(.ref ax), (.int 1), (.int 3), (.int key)]) (rest := []) (lenOf pd_1 rfl) rfl (by show 2 * 0 + _ ≤ _; exact Nat.le_of_eq rfl) (hb hby d5_13) (fun _ _ => ⟨rfl, e3, (by decide : 0 + 0 ≤ _), (by decide : 0 + 0 ≤ _)⟩)
  dsimp only [Pt.U, Pt.locs, Pt.cells, Pt.slots] at X4 lq4 yq4 zq4 st4 hQ4
  subst lq4 yq4 zq4
  obtain ⟨h4, e4⟩ : ∃ z, T4.heap = z := ⟨_, rfl⟩
  rw [e4] at hQ4
  obtain ⟨r_4, rfl, N4q, he4, hres_4⟩ := hQ4
  have N4 := Fr.app N0 N4q
  rw [he4] at e4
  refine go_st st4 ?_
  show Go _ _ _ _ (T4.setTop (mkF m 16 #[rv a1, iv key, iv line, .unset, .unset, .unset] [(.int r_4)]))
  rcases hres_4 with rfl | rfl
  · skip
    show Go _ _ _ _ (T4.setTop (mkF m 16 #[rv a1, iv key, iv line, .unset, .unset, .unset] [(.int 2)]))
    refine go_st (fun t k => XS.istoreN X4.here hx rfl (hb hby d5_16) rfl (l' := #[rv a1, iv key, iv line, iv 2, .unset, .unset]) rfl k) ?_
    refine go_st (fun t k => XS.iloadN X4.here hx rfl (hb hby d5_17) rfl k) ?_
    show Go _ _ _ _ (T4.setTop (mkF m 18 #[rv a1, iv key, iv line, iv 2, .unset, .unset] [(.int 2)]))
    refine go_st (fun t k => XS.ifNo X4.here hx rfl (hb hby d5_18) rfl ((if0 _ _).trans (flt ((by decide) : ¬ ((2 : Int32) < (0 : Int32)))).1) k) ?_
    show Go _ _ _ _ (T4.setTop (mkF m 21 #[rv a1, iv key, iv line, iv 2, .unset, .unset] []))
    refine go_st (fun t k => XS.iloadN X4.here hx rfl (hb hby d5_21) rfl k) ?_
    refine go_st (fun t k => XS.goto X4.here hx rfl (pc0 := 22) (pc' := 29) rfl (hb hby d5_22) (by decide) (by decide) k) ?_
    show Go _ _ _ _ (T4.setTop (mkF m 29 #[rv a1, iv key, iv line, iv 2, .unset, .unset] [(.int 2)]))
    refine go_st (fun t k => XS.iconst X4.here hx rfl (hb hby d5_29) k) ?_
    show Go _ _ _ _ (T4.setTop (mkF m 30 #[rv a1, iv key, iv line, iv 2, .unset, .unset] [(.int 1), (.int 2)]))
    refine go_st (fun t k => XS.isub X4.here hx rfl (hb hby d5_30) rfl k) ?_
    rw [show ((2 : Int32) - (1 : Int32)) = (1 : Int32) from by decide]
    show Go _ _ _ _ (T4.setTop (mkF m 31 #[rv a1, iv key, iv line, iv 2, .unset, .unset] [(.int 1)]))
    refine go_st (fun t k => XS.istore X4.here hx rfl (hb hby d5_31) rfl (l' := #[rv a1, iv key, iv line, iv 2, iv 1, .unset]) rfl k) ?_
    refine go_st (fun t k => XS.iloadN X4.here hx rfl (hb hby d5_33) rfl k) ?_
    refine go_st (fun t k => XS.istore X4.here hx rfl (hb hby d5_34) rfl (l' := #[rv a1, iv key, iv line, iv 2, iv 1, iv line]) rfl k) ?_
    refine go_st (fun t k => XS.iload X4.here hx rfl (hb hby d5_36) rfl k) ?_
    refine go_st (fun t k => XS.aloadN X4.here hx rfl (hb hby d5_38) rfl rfl k) ?_
    show Go _ _ _ _ (T4.setTop (mkF m 39 #[rv a1, iv key, iv line, iv 2, iv 1, iv line] [(.ref a1), (.int 1)]))
    obtain ⟨T5, X5, e5, st5⟩ := getF X4 hx hZ hown (host := "") (Or.inl (w31 hw)) Via.refl e4 H3 (g := (mkF m 39 #[rv a1, iv key, iv line, iv 2, iv 1, iv line] [(.ref a1), (.int 1)])) rfl rfl (hb hby d5_39)
    refine go_st (fun t k => st5 t k) ?_
    show Go _ _ _ _ (T5.setTop (mkF m 42 #[rv a1, iv key, iv line, iv 2, iv 1, iv line] [(.int 1), (.int 1)]))
    refine go_st (fun t k => XS.icmpNo X5.here hx rfl (hb hby d5_42) rfl (flt ((by decide) : ¬ ((1 : Int32) < (1 : Int32)))).1 k) ?_
    show Go _ _ _ _ (T5.setTop (mkF m 45 #[rv a1, iv key, iv line, iv 2, iv 1, iv line] []))
    refine go_st (fun t k => XS.aloadN X5.here hx rfl (hb hby d5_45) rfl rfl k) ?_
    show Go _ _ _ _ (T5.setTop (mkF m 46 #[rv a1, iv key, iv line, iv 2, iv 1, iv line] [(.ref a1)]))
    obtain ⟨T6, X6, e6, st6⟩ := getF X5 hx hZ hown (host := "") (Or.inl (w17 hw)) Via.refl e5 H2 (g := (mkF m 46 #[rv a1, iv key, iv line, iv 2, iv 1, iv line] [(.ref a1)])) rfl rfl (hb hby d5_46)
    refine go_st (fun t k => st6 t k) ?_
    refine go_st (fun t k => XS.iload X6.here hx rfl (hb hby d5_49) rfl k) ?_
    show Go _ _ _ _ (T6.setTop (mkF m 51 #[rv a1, iv key, iv line, iv 2, iv 1, iv line] [(.int 1), (.ref al)]))
    obtain ⟨zc7, zA7, zq7, zS7, zN7, zH7, zG7⟩ := id H6
    have hin7 : ¬ ((1 : Int32) < 0 ∨ zc7.slots.size ≤ ((1 : Int32)).toNatClampNeg) := inb_of zS7 ⟨by decide, by decide⟩
    have hat7 : zc7.slots[((1 : Int32)).toNatClampNeg]? = some (.int l1) := Has.at zH7 hin7 rfl
    refine go_st (fun t k => X6.iaload hx (j := (1 : Int32)) (v := (.int l1)) (by rw [e6]; exact zA7.1) (State.isArrayOf_alike hZ.alike zA7.2.1) zA7.2.2 hin7 hat7 (g := (mkF m 51 #[rv a1, iv key, iv line, iv 2, iv 1, iv line] [(.int 1), (.ref al)])) rfl rfl (hb hby d5_51) t k) ?_
    refine go_st (fun t k => XS.istore X6.here hx rfl (hb hby d5_52) rfl (l' := #[rv a1, iv key, iv line, iv 2, iv 1, iv l1]) rfl k) ?_
    refine go_st (fun t k => XS.aloadN X6.here hx rfl (hb hby d5_54) rfl rfl k) ?_
    refine go_st (fun t k => XS.iload X6.here hx rfl (hb hby d5_55) rfl k) ?_
    show Go _ _ _ _ (T6.setTop (mkF m 57 #[rv a1, iv key, iv line, iv 2, iv 1, iv l1] [(.int 1), (.ref a1)]))
    obtain ⟨T8, h8, X8, e8, W8, st8⟩ := putF X6 hx hZ hown (host := "") (Or.inl (w31 hw)) Via.refl e6 H3 H0 (Or.inl (w32 hw)) (w6 hw) (ty := .int) (by decide) rfl rfl (g := (mkF m 57 #[rv a1, iv key, iv line, iv 2, iv 1, iv l1] [(.int 1), (.ref a1)])) rfl rfl (hb hby d5_57)
    have N8 := Fr.snoc X8 N4 g_a1
    have f9 : Fld Z h8 a1 cBE "first" "I" (.int 1) := H3.same W8
    refine go_st (fun t k => st8 t k) ?_
    refine go_st (fun t k => XS.iload X8.here hx rfl (hb hby d5_60) rfl k) ?_
    show Go _ _ _ _ (T8.setTop (mkF m 62 #[rv a1, iv key, iv line, iv 2, iv 1, iv l1] [(.int l1)]))
    have f10 : Exa Z h8 a1 cBE := (H0.wr W8)
    have f11 : Fld Z h8 a1 cBE "indexes" "[I" (.ref ax) := (H1.other W8 (Or.inr (slot_ne (Or.inl (w16 hw)) (Or.inl (w32 hw)) (by decide) (t := (.array .int)) (t' := .int) (by decide) (by decide))))
    have f12 : Fld Z h8 a1 cBE "lines" "[I" (.ref al) := (H2.other W8 (Or.inr (slot_ne (Or.inl (w18 hw)) (Or.inl (w32 hw)) (by decide) (t := (.array .int)) (t' := .int) (by decide) (by decide))))
    have f13 : Fld Z h8 a1 cBE "count" "I" (.int 3) := (H4.other W8 (Or.inr (slot_ne (Or.inl (w25 hw)) (Or.inl (w32 hw)) (by decide) (t := .int) (t' := .int) (by decide) (by decide))))
    have f14 : Arv Z h8 ax kx .int (64 : Int32) [(.int x0), (.int x1), (.int x2)] (.int (0 : Int32)) := (H5.other W8 (Ne.symm ne_a1_ax))
    have f15 : Arv Z h8 al kl .int (64 : Int32) [(.int l0), (.int l1), (.int l2)] (.int (0 : Int32)) := (H6.other W8 (Ne.symm ne_a1_al))
    have ke16 : Keep h0 h8 [a1] := (Keep.wr (Keep.refl h0 [a1]) W8 (Or.inl (List.mem_of_getElem? (i := 0) rfl)))
    obtain ⟨fs, hr, hrun, hended, hW, hsame⟩ := X8.leave (v := some (.int l1)) (fun h => by rw [Bd.returns] at h; cases h)
    refine ⟨_, _, ?_, hrun, hended, _, _, rfl, ?_, ⟨_, rfl⟩, hW, hsame.mono (by decide) (by decide)⟩
    · exact retI X8 hx Bd.returns (hb hby d5_62) hr
    · show Q_lb_132 _ _ _ _ _ _ _ _ _ _ _ _ _ _ _ _ _ T8.heap _
      rw [e8]
      exact ⟨rfl, N8, ke16, f10, f11, f12, f9, f13, f14, f15⟩
  · skip
    show Go _ _ _ _ (T4.setTop (mkF m 16 #[rv a1, iv key, iv line, .unset, .unset, .unset] [(.int (-3))]))
    refine go_st (fun t k => XS.istoreN X4.here hx rfl (hb hby d5_16) rfl (l' := #[rv a1, iv key, iv line, iv (-3), .unset, .unset]) rfl k) ?_
    refine go_st (fun t k => XS.iloadN X4.here hx rfl (hb hby d5_17) rfl k) ?_
    show Go _ _ _ _ (T4.setTop (mkF m 18 #[rv a1, iv key, iv line, iv (-3), .unset, .unset] [(.int (-3))]))
    refine go_st (fun t k => XS.ifYes X4.here hx rfl (pc0 := 18) (pc' := 25) rfl (hb hby d5_18) rfl ((if0 _ _).trans (tlt ((by decide) : (-3 : Int32) < (0 : Int32))).1) (by decide) (by decide) k) ?_
    show Go _ _ _ _ (T4.setTop (mkF m 25 #[rv a1, iv key, iv line, iv (-3), .unset, .unset] []))
    refine go_st (fun t k => XS.iloadN X4.here hx rfl (hb hby d5_25) rfl k) ?_
    show Go _ _ _ _ (T4.setTop (mkF m 26 #[rv a1, iv key, iv line, iv (-3), .unset, .unset] [(.int (-3))]))
    refine go_st (fun t k => XS.ineg X4.here hx rfl (hb hby d5_26) rfl k) ?_
    rw [show (-(-3 : Int32)) = (3 : Int32) from by decide]
    show Go _ _ _ _ (T4.setTop (mkF m 27 #[rv a1, iv key, iv line, iv (-3), .unset, .unset] [(.int 3)]))
    refine go_st (fun t k => XS.iconst X4.here hx rfl (hb hby d5_27) k) ?_
    show Go _ _ _ _ (T4.setTop (mkF m 28 #[rv a1, iv key, iv line, iv (-3), .unset, .unset] [(.int 1), (.int 3)]))
    refine go_st (fun t k => XS.isub X4.here hx rfl (hb hby d5_28) rfl k) ?_
    rw [show ((3 : Int32) - (1 : Int32)) = (2 : Int32) from by decide]
    show Go _ _ _ _ (T4.setTop (mkF m 29 #[rv a1, iv key, iv line, iv (-3), .unset, .unset] [(.int 2)]))
    refine go_st (fun t k => XS.iconst X4.here hx rfl (hb hby d5_29) k) ?_
    show Go _ _ _ _ (T4.setTop (mkF m 30 #[rv a1, iv key, iv line, iv (-3), .unset, .unset] [(.int 1), (.int 2)]))
    refine go_st (fun t k => XS.isub X4.here hx rfl (hb hby d5_30) rfl k) ?_
    rw [show ((2 : Int32) - (1 : Int32)) = (1 : Int32) from by decide]
    show Go _ _ _ _ (T4.setTop (mkF m 31 #[rv a1, iv key, iv line, iv (-3), .unset, .unset] [(.int 1)]))
    refine go_st (fun t k => XS.istore X4.here hx rfl (hb hby d5_31) rfl (l' := #[rv a1, iv key, iv line, iv (-3), iv 1, .unset]) rfl k) ?_
    refine go_st (fun t k => XS.iloadN X4.here hx rfl (hb hby d5_33) rfl k) ?_
    refine go_st (fun t k => XS.istore X4.here hx rfl (hb hby d5_34) rfl (l' := #[rv a1, iv key, iv line, iv (-3), iv 1, iv line]) rfl k) ?_
    refine go_st (fun t k => XS.iload X4.here hx rfl (hb hby d5_36) rfl k) ?_
    refine go_st (fun t k => XS.aloadN X4.here hx rfl (hb hby d5_38) rfl rfl k) ?_
    show Go _ _ _ _ (T4.setTop (mkF m 39 #[rv a1, iv key, iv line, iv (-3), iv 1, iv line] [(.ref a1), (.int 1)]))
    obtain ⟨T17, X17, e17, st17⟩ := getF X4 hx hZ hown (host := "") (Or.inl (w31 hw)) Via.refl e4 H3 (g := (mkF m 39 #[rv a1, iv key, iv line, iv (-3), iv 1, iv line] [(.ref a1), (.int 1)])) rfl rfl (hb hby d5_39)
    refine go_st (fun t k => st17 t k) ?_
    show Go _ _ _ _ (T17.setTop (mkF m 42 #[rv a1, iv key, iv line, iv (-3), iv 1, iv line] [(.int 1), (.int 1)]))
    refine go_st (fun t k => XS.icmpNo X17.here hx rfl (hb hby d5_42) rfl (flt ((by decide) : ¬ ((1 : Int32) < (1 : Int32)))).1 k) ?_
    show Go _ _ _ _ (T17.setTop (mkF m 45 #[rv a1, iv key, iv line, iv (-3), iv 1, iv line] []))
    refine go_st (fun t k => XS.aloadN X17.here hx rfl (hb hby d5_45) rfl rfl k) ?_
    show Go _ _ _ _ (T17.setTop (mkF m 46 #[rv a1, iv key, iv line, iv (-3), iv 1, iv line] [(.ref a1)]))
    obtain ⟨T18, X18, e18, st18⟩ := getF X17 hx hZ hown (host := "") (Or.inl (w17 hw)) Via.refl e17 H2 (g := (mkF m 46 #[rv a1, iv key, iv line, iv (-3), iv 1, iv line] [(.ref a1)])) rfl rfl (hb hby d5_46)
    refine go_st (fun t k => st18 t k) ?_
    refine go_st (fun t k => XS.iload X18.here hx rfl (hb hby d5_49) rfl k) ?_
    show Go _ _ _ _ (T18.setTop (mkF m 51 #[rv a1, iv key, iv line, iv (-3), iv 1, iv line] [(.int 1), (.ref al)]))
    obtain ⟨zc19, zA19, zq19, zS19, zN19, zH19, zG19⟩ := id H6
    have hin19 : ¬ ((1 : Int32) < 0 ∨ zc19.slots.size ≤ ((1 : Int32)).toNatClampNeg) := inb_of zS19 ⟨by decide, by decide⟩
    have hat19 : zc19.slots[((1 : Int32)).toNatClampNeg]? = some (.int l1) := Has.at zH19 hin19 rfl
    refine go_st (fun t k => X18.iaload hx (j := (1 : Int32)) (v := (.int l1)) (by rw [e18]; exact zA19.1) (State.isArrayOf_alike hZ.alike zA19.2.1) zA19.2.2 hin19 hat19 (g := (mkF m 51 #[rv a1, iv key, iv line, iv (-3), iv 1, iv line] [(.int 1), (.ref al)])) rfl rfl (hb hby d5_51) t k) ?_
    refine go_st (fun t k => XS.istore X18.here hx rfl (hb hby d5_52) rfl (l' := #[rv a1, iv key, iv line, iv (-3), iv 1, iv l1]) rfl k) ?_
    refine go_st (fun t k => XS.aloadN X18.here hx rfl (hb hby d5_54) rfl rfl k) ?_
    refine go_st (fun t k => XS.iload X18.here hx rfl (hb hby d5_55) rfl k) ?_
    show Go _ _ _ _ (T18.setTop (mkF m 57 #[rv a1, iv key, iv line, iv (-3), iv 1, iv l1] [(.int 1), (.ref a1)]))
    obtain ⟨T20, h20, X20, e20, W20, st20⟩ := putF X18 hx hZ hown (host := "") (Or.inl (w31 hw)) Via.refl e18 H3 H0 (Or.inl (w32 hw)) (w6 hw) (ty := .int) (by decide) rfl rfl (g := (mkF m 57 #[rv a1, iv key, iv line, iv (-3), iv 1, iv l1] [(.int 1), (.ref a1)])) rfl rfl (hb hby d5_57)
    have N20 := Fr.snoc X20 N4 g_a1
    have f21 : Fld Z h20 a1 cBE "first" "I" (.int 1) := H3.same W20
    refine go_st (fun t k => st20 t k) ?_
    refine go_st (fun t k => XS.iload X20.here hx rfl (hb hby d5_60) rfl k) ?_
    show Go _ _ _ _ (T20.setTop (mkF m 62 #[rv a1, iv key, iv line, iv (-3), iv 1, iv l1] [(.int l1)]))
    have f22 : Exa Z h20 a1 cBE := (H0.wr W20)
    have f23 : Fld Z h20 a1 cBE "indexes" "[I" (.ref ax) := (H1.other W20 (Or.inr (slot_ne (Or.inl (w16 hw)) (Or.inl (w32 hw)) (by decide) (t := (.array .int)) (t' := .int) (by decide) (by decide))))
    have f24 : Fld Z h20 a1 cBE "lines" "[I" (.ref al) := (H2.other W20 (Or.inr (slot_ne (Or.inl (w18 hw)) (Or.inl (w32 hw)) (by decide) (t := (.array .int)) (t' := .int) (by decide) (by decide))))
    have f25 : Fld Z h20 a1 cBE "count" "I" (.int 3) := (H4.other W20 (Or.inr (slot_ne (Or.inl (w25 hw)) (Or.inl (w32 hw)) (by decide) (t := .int) (t' := .int) (by decide) (by decide))))
    have f26 : Arv Z h20 ax kx .int (64 : Int32) [(.int x0), (.int x1), (.int x2)] (.int (0 : Int32)) := (H5.other W20 (Ne.symm ne_a1_ax))
    have f27 : Arv Z h20 al kl .int (64 : Int32) [(.int l0), (.int l1), (.int l2)] (.int (0 : Int32)) := (H6.other W20 (Ne.symm ne_a1_al))
    have ke28 : Keep h0 h20 [a1] := (Keep.wr (Keep.refl h0 [a1]) W20 (Or.inl (List.mem_of_getElem? (i := 0) rfl)))
    obtain ⟨fs, hr, hrun, hended, hW, hsame⟩ := X20.leave (v := some (.int l1)) (fun h => by rw [Bd.returns] at h; cases h)
    refine ⟨_, _, ?_, hrun, hended, _, _, rfl, ?_, ⟨_, rfl⟩, hW, hsame.mono (by decide) (by decide)⟩
    · exact retI X20 hx Bd.returns (hb hby d5_62) hr
    · show Q_lb_132 _ _ _ _ _ _ _ _ _ _ _ _ _ _ _ _ _ T20.heap _
      rw [e20]
      exact ⟨rfl, N20, ke28, f22, f23, f24, f21, f25, f26, f27⟩
def Q_bs0_133 (Z : State) (ax : Addr) (kx : ClassId) (key : Int32) (x0 : Int32) (x1 : Int32) (x2 : Int32) (h0 : Heap) (n0 : Nat) (vR : Option Value) (h : Heap) (L : List Loc) : Prop := ∃ (r : Int32), vR = some (.int r) ∧ Fr n0 L ∧ h = h0 ∧ (r = (3 : Int32) ∨ r = (-4 : Int32))
theorem ef_bs0_133 (m : MethodId) (x0 : Addr) (x1 : Int32) (x2 : Int32) (x3 : Int32) : entryFrame m #[(.ref x0), (.int x1), (.int x2), (.int x3)] 8 = mkF m 0 #[.val (.ref x0), .val (.int x1), .val (.int x2), .val (.int x3), .unset, .unset, .unset, .unset] [] := by first | (simp [entryFrame, mkF, argsToLocals, Value.category]; done) | rfl
set_option maxRecDepth 65536 in
set_option maxHeartbeats 40000000 in
theorem rm_bs0_133 (l : Launch) (Z : State) (a0 : Array Value) (hw : ∀ d ∈ tables_1, d.before a0 Z = true) (ws : List Jvm.Cond) (ax : Addr) (kx : ClassId) (key : Int32) (x0 : Int32) (x1 : Int32) (x2 : Int32) (h0 : Heap) (n0 : Nat) (Z0 : n0 ≤ h0.size) (H0 : Arv Z h0 ax kx .int (64 : Int32) [(.int x0), (.int x1), (.int x2)] (.int (0 : Int32))) (s1 : x1 < x2) (hl : x2 < key) :
    MetFree l (⟨"java/util/Arrays", "binarySearch0", "([IIII)I"⟩ : MethodName) (head1 (Jvm.Cond.code (⟨"java/util/Arrays", "binarySearch0", "([IIII)I"⟩ : MethodName) jdk_65_method_59_code 8 (some .int) :: ws) ({ frames := 0, cells := 0, slots := 0, locals := 0 } : Room)) (fun a U => a = #[(.ref ax), (.int 1), (.int 3), (.int key)] ∧ Z.Warmed39 U.vm ∧ U.heap = h0) (fun _ _ _ _ _ => True) (fun _ U o U' => ∃ v L, o = .returned v ∧ Q_bs0_133 Z ax kx key x0 x1 x2 h0 n0 v U'.heap L ∧ FrameEnd U o U' L ({ frames := 0, cells := 0, slots := 0, locals := 0 } : Room).cells ({ frames := 0, cells := 0, slots := 0, locals := 0 } : Room).slots) := by
  refine MetFree.of_bodySF (plainFor_of_name pn_java_util_Arrays) hisR ?_
  intro p e s m args below meth c s₁ Bd hml0 hP hK
  obtain ⟨rfl, hZ, hh⟩ := hP
  have hx := Bd.exec
  have hby := Bd.bytes
  have hml : c.maxLocals = 8 := hml0
  have hown : s.vm.findClass "java/util/Arrays" = some m.cls := findClass_of_methodNamed Bd.named
  have hnm := (name_of_methodNamed Bd.named Bd.method).1
  have X0 : Stand p l e ({ frames := 0, cells := 0, slots := 0, locals := 0 } : Room) s m #[(.ref ax), (.int 1), (.int 3), (.int key)] below meth c s₁ [] 0 0 := Stand.of_body Bd
  have e0 : s₁.heap = h0 := by rw [← hh, Bd.state]; rfl
  have N0 := Fr.nil n0
  refine go_st (fun t k => castTop (ef_bs0_133 m ax (1 : Int32) (3 : Int32) key) k) ?_
  show Go _ _ _ _ (s₁.setTop (mkF m 0 #[rv ax, iv 1, iv 3, iv key, .unset, .unset, .unset, .unset] []))
  refine go_st (fun t k => XS.iloadN X0.here hx rfl (hb hby d3_0) rfl k) ?_
  refine go_st (fun t k => XS.istore X0.here hx rfl (hb hby d3_1) rfl (l' := #[rv ax, iv 1, iv 3, iv key, iv 1, .unset, .unset, .unset]) rfl k) ?_
  refine go_st (fun t k => XS.iloadN X0.here hx rfl (hb hby d3_3) rfl k) ?_
  refine go_st (fun t k => XS.iconst X0.here hx rfl (hb hby d3_4) k) ?_
  show Go _ _ _ _ (s₁.setTop (mkF m 5 #[rv ax, iv 1, iv 3, iv key, iv 1, .unset, .unset, .unset] [(.int 1), (.int 3)]))
  refine go_st (fun t k => XS.isub X0.here hx rfl (hb hby d3_5) rfl k) ?_
  rw [show ((3 : Int32) - (1 : Int32)) = (2 : Int32) from by decide]
  show Go _ _ _ _ (s₁.setTop (mkF m 6 #[rv ax, iv 1, iv 3, iv key, iv 1, .unset, .unset, .unset] [(.int 2)]))
  refine go_st (fun t k => XS.istore X0.here hx rfl (hb hby d3_6) rfl (l' := #[rv ax, iv 1, iv 3, iv key, iv 1, iv 2, .unset, .unset]) rfl k) ?_
  refine go_st (fun t k => XS.iload X0.here hx rfl (hb hby d3_8) rfl k) ?_
  refine go_st (fun t k => XS.iload X0.here hx rfl (hb hby d3_10) rfl k) ?_
  show Go _ _ _ _ (s₁.setTop (mkF m 12 #[rv ax, iv 1, iv 3, iv key, iv 1, iv 2, .unset, .unset] [(.int 2), (.int 1)]))
  refine go_st (fun t k => XS.icmpNo X0.here hx rfl (hb hby d3_12) rfl (flt ((by decide) : ¬ ((2 : Int32) < (1 : Int32)))).2.2.1 k) ?_
  show Go _ _ _ _ (s₁.setTop (mkF m 15 #[rv ax, iv 1, iv 3, iv key, iv 1, iv 2, .unset, .unset] []))
  refine go_st (fun t k => XS.iload X0.here hx rfl (hb hby d3_15) rfl k) ?_
  refine go_st (fun t k => XS.iload X0.here hx rfl (hb hby d3_17) rfl k) ?_
  show Go _ _ _ _ (s₁.setTop (mkF m 19 #[rv ax, iv 1, iv 3, iv key, iv 1, iv 2, .unset, .unset] [(.int 2), (.int 1)]))
  refine go_st (fun t k => XS.iadd X0.here hx rfl (hb hby d3_19) rfl k) ?_
  rw [show ((1 : Int32) + (2 : Int32)) = (3 : Int32) from by decide]
  show Go _ _ _ _ (s₁.setTop (mkF m 20 #[rv ax, iv 1, iv 3, iv key, iv 1, iv 2, .unset, .unset] [(.int 3)]))
  refine go_st (fun t k => XS.iconst X0.here hx rfl (hb hby d3_20) k) ?_
  show Go _ _ _ _ (s₁.setTop (mkF m 21 #[rv ax, iv 1, iv 3, iv key, iv 1, iv 2, .unset, .unset] [(.int 1), (.int 3)]))
  refine go_st (fun t k => XS.iushr X0.here hx rfl (hb hby d3_21) rfl k) ?_
  rw [show (((3 : Int32)).toUInt32 >>> ((1 : Int32) &&& 31).toUInt32).toInt32 = (1 : Int32) from by decide]
  show Go _ _ _ _ (s₁.setTop (mkF m 22 #[rv ax, iv 1, iv 3, iv key, iv 1, iv 2, .unset, .unset] [(.int 1)]))
  refine go_st (fun t k => XS.istore X0.here hx rfl (hb hby d3_22) rfl (l' := #[rv ax, iv 1, iv 3, iv key, iv 1, iv 2, iv 1, .unset]) rfl k) ?_
  refine go_st (fun t k => XS.aloadN X0.here hx rfl (hb hby d3_24) rfl rfl k) ?_
  refine go_st (fun t k => XS.iload X0.here hx rfl (hb hby d3_25) rfl k) ?_
  show Go _ _ _ _ (s₁.setTop (mkF m 27 #[rv ax, iv 1, iv 3, iv key, iv 1, iv 2, iv 1, .unset] [(.int 1), (.ref ax)]))
  obtain ⟨zc1, zA1, zq1, zS1, zN1, zH1, zG1⟩ := id H0
  have hin1 : ¬ ((1 : Int32) < 0 ∨ zc1.slots.size ≤ ((1 : Int32)).toNatClampNeg) := inb_of zS1 ⟨by decide, by decide⟩
  have hat1 : zc1.slots[((1 : Int32)).toNatClampNeg]? = some (.int x1) := Has.at zH1 hin1 rfl
  refine go_st (fun t k => X0.iaload hx (j := (1 : Int32)) (v := (.int x1)) (by rw [e0]; exact zA1.1) (State.isArrayOf_alike hZ.alike zA1.2.1) zA1.2.2 hin1 hat1 (g := (mkF m 27 #[rv ax, iv 1, iv 3, iv key, iv 1, iv 2, iv 1, .unset] [(.int 1), (.ref ax)])) rfl rfl (hb hby d3_27) t k) ?_
  refine go_st (fun t k => XS.istore X0.here hx rfl (hb hby d3_28) rfl (l' := #[rv ax, iv 1, iv 3, iv key, iv 1, iv 2, iv 1, iv x1]) rfl k) ?_
  refine go_st (fun t k => XS.iload X0.here hx rfl (hb hby d3_30) rfl k) ?_
  refine go_st (fun t k => XS.iloadN X0.here hx rfl (hb hby d3_32) rfl k) ?_
  show Go _ _ _ _ (s₁.setTop (mkF m 33 #[rv ax, iv 1, iv 3, iv key, iv 1, iv 2, iv 1, iv x1] [(.int key), (.int x1)]))
  refine go_st (fun t k => XS.icmpNo X0.here hx rfl (hb hby d3_33) rfl (tlt ((pl_tr s1 hl) : x1 < key)).2.1 k) ?_
  show Go _ _ _ _ (s₁.setTop (mkF m 36 #[rv ax, iv 1, iv 3, iv key, iv 1, iv 2, iv 1, iv x1] []))
  refine go_st (fun t k => XS.iload X0.here hx rfl (hb hby d3_36) rfl k) ?_
  refine go_st (fun t k => XS.iconst X0.here hx rfl (hb hby d3_38) k) ?_
  show Go _ _ _ _ (s₁.setTop (mkF m 39 #[rv ax, iv 1, iv 3, iv key, iv 1, iv 2, iv 1, iv x1] [(.int 1), (.int 1)]))
  refine go_st (fun t k => XS.iadd X0.here hx rfl (hb hby d3_39) rfl k) ?_
  rw [show ((1 : Int32) + (1 : Int32)) = (2 : Int32) from by decide]
  show Go _ _ _ _ (s₁.setTop (mkF m 40 #[rv ax, iv 1, iv 3, iv key, iv 1, iv 2, iv 1, iv x1] [(.int 2)]))
  refine go_st (fun t k => XS.istore X0.here hx rfl (hb hby d3_40) rfl (l' := #[rv ax, iv 1, iv 3, iv key, iv 2, iv 2, iv 1, iv x1]) rfl k) ?_
  refine go_st (fun t k => XS.goto X0.here hx rfl (pc0 := 42) (pc' := 63) rfl (hb hby d3_42) (by decide) (by decide) k) ?_
  show Go _ _ _ _ (s₁.setTop (mkF m 63 #[rv ax, iv 1, iv 3, iv key, iv 2, iv 2, iv 1, iv x1] []))
  refine go_st (fun t k => XS.goto X0.here hx rfl (pc0 := 63) (pc' := 8) rfl (hb hby d3_63) (by decide) (by decide) k) ?_
  show Go _ _ _ _ (s₁.setTop (mkF m 8 #[rv ax, iv 1, iv 3, iv key, iv 2, iv 2, iv 1, iv x1] []))
  refine go_st (fun t k => XS.iload X0.here hx rfl (hb hby d3_8) rfl k) ?_
  refine go_st (fun t k => XS.iload X0.here hx rfl (hb hby d3_10) rfl k) ?_
  show Go _ _ _ _ (s₁.setTop (mkF m 12 #[rv ax, iv 1, iv 3, iv key, iv 2, iv 2, iv 1, iv x1] [(.int 2), (.int 2)]))
  refine go_st (fun t k => XS.icmpNo X0.here hx rfl (hb hby d3_12) rfl (flt ((by decide) : ¬ ((2 : Int32) < (2 : Int32)))).2.2.1 k) ?_
  show Go _ _ _ _ (s₁.setTop (mkF m 15 #[rv ax, iv 1, iv 3, iv key, iv 2, iv 2, iv 1, iv x1] []))
  refine go_st (fun t k => XS.iload X0.here hx rfl (hb hby d3_15) rfl k) ?_
  refine go_st (fun t k => XS.iload X0.here hx rfl (hb hby d3_17) rfl k) ?_
  show Go _ _ _ _ (s₁.setTop (mkF m 19 #[rv ax, iv 1, iv 3, iv key, iv 2, iv 2, iv 1, iv x1] [(.int 2), (.int 2)]))
  refine go_st (fun t k => XS.iadd X0.here hx rfl (hb hby d3_19) rfl k) ?_
  rw [show ((2 : Int32) + (2 : Int32)) = (4 : Int32) from by decide]
  show Go _ _ _ _ (s₁.setTop (mkF m 20 #[rv ax, iv 1, iv 3, iv key, iv 2, iv 2, iv 1, iv x1] [(.int 4)]))
  refine go_st (fun t k => XS.iconst X0.here hx rfl (hb hby d3_20) k) ?_
  show Go _ _ _ _ (s₁.setTop (mkF m 21 #[rv ax, iv 1, iv 3, iv key, iv 2, iv 2, iv 1, iv x1] [(.int 1), (.int 4)]))
  refine go_st (fun t k => XS.iushr X0.here hx rfl (hb hby d3_21) rfl k) ?_
  rw [show (((4 : Int32)).toUInt32 >>> ((1 : Int32) &&& 31).toUInt32).toInt32 = (2 : Int32) from by decide]
  show Go _ _ _ _ (s₁.setTop (mkF m 22 #[rv ax, iv 1, iv 3, iv key, iv 2, iv 2, iv 1, iv x1] [(.int 2)]))
  refine go_st (fun t k => XS.istore X0.here hx rfl (hb hby d3_22) rfl (l' := #[rv ax, iv 1, iv 3, iv key, iv 2, iv 2, iv 2, iv x1]) rfl k) ?_
  refine go_st (fun t k => XS.aloadN X0.here hx rfl (hb hby d3_24) rfl rfl k) ?_
  refine go_st (fun t k => XS.iload X0.here hx rfl (hb hby d3_25) rfl k) ?_
  show Go _ _ _ _ (s₁.setTop (mkF m 27 #[rv ax, iv 1, iv 3, iv key, iv 2, iv 2, iv 2, iv x1] [(.int 2), (.ref ax)]))
  obtain ⟨zc2, zA2, zq2, zS2, zN2, zH2, zG2⟩ := id H0
  have hin2 : ¬ ((2 : Int32) < 0 ∨ zc2.slots.size ≤ ((2 : Int32)).toNatClampNeg) := inb_of zS2 ⟨by decide, by decide⟩
  have hat2 : zc2.slots[((2 : Int32)).toNatClampNeg]? = some (.int x2) := Has.at zH2 hin2 rfl
  refine go_st (fun t k => X0.iaload hx (j := (2 : Int32)) (v := (.int x2)) (by rw [e0]; exact zA2.1) (State.isArrayOf_alike hZ.alike zA2.2.1) zA2.2.2 hin2 hat2 (g := (mkF m 27 #[rv ax, iv 1, iv 3, iv key, iv 2, iv 2, iv 2, iv x1] [(.int 2), (.ref ax)])) rfl rfl (hb hby d3_27) t k) ?_
  refine go_st (fun t k => XS.istore X0.here hx rfl (hb hby d3_28) rfl (l' := #[rv ax, iv 1, iv 3, iv key, iv 2, iv 2, iv 2, iv x2]) rfl k) ?_
  refine go_st (fun t k => XS.iload X0.here hx rfl (hb hby d3_30) rfl k) ?_
  refine go_st (fun t k => XS.iloadN X0.here hx rfl (hb hby d3_32) rfl k) ?_
  show Go _ _ _ _ (s₁.setTop (mkF m 33 #[rv ax, iv 1, iv 3, iv key, iv 2, iv 2, iv 2, iv x2] [(.int key), (.int x2)]))
  refine go_st (fun t k => XS.icmpNo X0.here hx rfl (hb hby d3_33) rfl (tlt (hl : x2 < key)).2.1 k) ?_
  show Go _ _ _ _ (s₁.setTop (mkF m 36 #[rv ax, iv 1, iv 3, iv key, iv 2, iv 2, iv 2, iv x2] []))
  refine go_st (fun t k => XS.iload X0.here hx rfl (hb hby d3_36) rfl k) ?_
  refine go_st (fun t k => XS.iconst X0.here hx rfl (hb hby d3_38) k) ?_
  show Go _ _ _ _ (s₁.setTop (mkF m 39 #[rv ax, iv 1, iv 3, iv key, iv 2, iv 2, iv 2, iv x2] [(.int 1), (.int 2)]))
  refine go_st (fun t k => XS.iadd X0.here hx rfl (hb hby d3_39) rfl k) ?_
  rw [show ((2 : Int32) + (1 : Int32)) = (3 : Int32) from by decide]
  show Go _ _ _ _ (s₁.setTop (mkF m 40 #[rv ax, iv 1, iv 3, iv key, iv 2, iv 2, iv 2, iv x2] [(.int 3)]))
  refine go_st (fun t k => XS.istore X0.here hx rfl (hb hby d3_40) rfl (l' := #[rv ax, iv 1, iv 3, iv key, iv 3, iv 2, iv 2, iv x2]) rfl k) ?_
  refine go_st (fun t k => XS.goto X0.here hx rfl (pc0 := 42) (pc' := 63) rfl (hb hby d3_42) (by decide) (by decide) k) ?_
  show Go _ _ _ _ (s₁.setTop (mkF m 63 #[rv ax, iv 1, iv 3, iv key, iv 3, iv 2, iv 2, iv x2] []))
  refine go_st (fun t k => XS.goto X0.here hx rfl (pc0 := 63) (pc' := 8) rfl (hb hby d3_63) (by decide) (by decide) k) ?_
  show Go _ _ _ _ (s₁.setTop (mkF m 8 #[rv ax, iv 1, iv 3, iv key, iv 3, iv 2, iv 2, iv x2] []))
  refine go_st (fun t k => XS.iload X0.here hx rfl (hb hby d3_8) rfl k) ?_
  refine go_st (fun t k => XS.iload X0.here hx rfl (hb hby d3_10) rfl k) ?_
  show Go _ _ _ _ (s₁.setTop (mkF m 12 #[rv ax, iv 1, iv 3, iv key, iv 3, iv 2, iv 2, iv x2] [(.int 2), (.int 3)]))
  refine go_st (fun t k => XS.icmpYes X0.here hx rfl (pc0 := 12) (pc' := 66) rfl (hb hby d3_12) rfl (tlt ((by decide) : (2 : Int32) < (3 : Int32))).2.2.1 (by decide) (by decide) k) ?_
  show Go _ _ _ _ (s₁.setTop (mkF m 66 #[rv ax, iv 1, iv 3, iv key, iv 3, iv 2, iv 2, iv x2] []))
  refine go_st (fun t k => XS.iload X0.here hx rfl (hb hby d3_66) rfl k) ?_
  refine go_st (fun t k => XS.iconst X0.here hx rfl (hb hby d3_68) k) ?_
  show Go _ _ _ _ (s₁.setTop (mkF m 69 #[rv ax, iv 1, iv 3, iv key, iv 3, iv 2, iv 2, iv x2] [(.int 1), (.int 3)]))
  refine go_st (fun t k => XS.iadd X0.here hx rfl (hb hby d3_69) rfl k) ?_
  rw [show ((3 : Int32) + (1 : Int32)) = (4 : Int32) from by decide]
  show Go _ _ _ _ (s₁.setTop (mkF m 70 #[rv ax, iv 1, iv 3, iv key, iv 3, iv 2, iv 2, iv x2] [(.int 4)]))
  refine go_st (fun t k => XS.ineg X0.here hx rfl (hb hby d3_70) rfl k) ?_
  rw [show (-(4 : Int32)) = (-4 : Int32) from by decide]
  show Go _ _ _ _ (s₁.setTop (mkF m 71 #[rv ax, iv 1, iv 3, iv key, iv 3, iv 2, iv 2, iv x2] [(.int (-4))]))
  obtain ⟨fs, hr, hrun, hended, hW, hsame⟩ := X0.leave (v := some (.int (-4))) (fun h => by rw [Bd.returns] at h; cases h)
  refine ⟨_, _, ?_, hrun, hended, _, _, rfl, ?_, ⟨_, rfl⟩, hW, hsame.mono (by decide) (by decide)⟩
  · exact retI X0 hx Bd.returns (hb hby d3_71) hr
  · show Q_bs0_133 _ _ _ _ _ _ _ _ _ _ s₁.heap _
    rw [e0]
    exact ⟨(-4 : Int32), rfl, N0, rfl, (Or.inr rfl)⟩
def Q_bs_133 (Z : State) (ax : Addr) (kx : ClassId) (key : Int32) (x0 : Int32) (x1 : Int32) (x2 : Int32) (h0 : Heap) (n0 : Nat) (vR : Option Value) (h : Heap) (L : List Loc) : Prop := ∃ (r : Int32), vR = some (.int r) ∧ Fr n0 L ∧ h = h0 ∧ (r = (3 : Int32) ∨ r = (-4 : Int32))
theorem ef_bs_133 (m : MethodId) (x0 : Addr) (x1 : Int32) (x2 : Int32) (x3 : Int32) : entryFrame m #[(.ref x0), (.int x1), (.int x2), (.int x3)] 4 = mkF m 0 #[.val (.ref x0), .val (.int x1), .val (.int x2), .val (.int x3)] [] := by first | (simp [entryFrame, mkF, argsToLocals, Value.category]; done) | rfl
set_option maxRecDepth 65536 in
set_option maxHeartbeats 40000000 in
theorem rm_bs_133 (l : Launch) (Z : State) (a0 : Array Value) (hw : ∀ d ∈ tables_1, d.before a0 Z = true) (ws : List Jvm.Cond) (ax : Addr) (kx : ClassId) (key : Int32) (x0 : Int32) (x1 : Int32) (x2 : Int32) (h0 : Heap) (n0 : Nat) (Z0 : n0 ≤ h0.size) (H0 : Arv Z h0 ax kx .int (64 : Int32) [(.int x0), (.int x1), (.int x2)] (.int (0 : Int32))) (s1 : x1 < x2) (hl : x2 < key) :
    MetFree l (⟨"java/util/Arrays", "binarySearch", "([IIII)I"⟩ : MethodName) (head1 (Jvm.Cond.code (⟨"java/util/Arrays", "binarySearch", "([IIII)I"⟩ : MethodName) jdk_65_method_58_code 4 (some .int) :: ws) ({ frames := 1, cells := 0, slots := 0, locals := 19 } : Room)) (fun a U => a = #[(.ref ax), (.int 1), (.int 3), (.int key)] ∧ Z.Warmed39 U.vm ∧ U.heap = h0) (fun _ _ _ _ _ => True) (fun _ U o U' => ∃ v L, o = .returned v ∧ Q_bs_133 Z ax kx key x0 x1 x2 h0 n0 v U'.heap L ∧ FrameEnd U o U' L ({ frames := 1, cells := 0, slots := 0, locals := 19 } : Room).cells ({ frames := 1, cells := 0, slots := 0, locals := 19 } : Room).slots) := by
  refine MetFree.of_bodySF (plainFor_of_name pn_java_util_Arrays) hisR ?_
  intro p e s m args below meth c s₁ Bd hml0 hP hK
  obtain ⟨rfl, hZ, hh⟩ := hP
  have hx := Bd.exec
  have hby := Bd.bytes
  have hml : c.maxLocals = 4 := hml0
  have hown : s.vm.findClass "java/util/Arrays" = some m.cls := findClass_of_methodNamed Bd.named
  have hnm := (name_of_methodNamed Bd.named Bd.method).1
  have X0 : Stand p l e ({ frames := 1, cells := 0, slots := 0, locals := 19 } : Room) s m #[(.ref ax), (.int 1), (.int 3), (.int key)] below meth c s₁ [] 0 0 := Stand.of_body Bd
  have e0 : s₁.heap = h0 := by rw [← hh, Bd.state]; rfl
  have N0 := Fr.nil n0
  refine go_st (fun t k => castTop (ef_bs_133 m ax (1 : Int32) (3 : Int32) key) k) ?_
  show Go _ _ _ _ (s₁.setTop (mkF m 0 #[rv ax, iv 1, iv 3, iv key] []))
  refine go_st (fun t k => XS.aloadN X0.here hx rfl (hb hby d4_0) rfl rfl k) ?_
  show Go _ _ _ _ (s₁.setTop (mkF m 1 #[rv ax, iv 1, iv 3, iv key] [(.ref ax)]))
  obtain ⟨zc1, zA1, zq1, zS1, zN1, zH1, zG1⟩ := id H0
  refine go_st (fun t k => X0.arraylength hx (by rw [e0]; exact zA1.1) (State.isArrayOf_alike hZ.alike zA1.2.1) (g := (mkF m 1 #[rv ax, iv 1, iv 3, iv key] [(.ref ax)])) rfl rfl (hb hby d4_1) t k) ?_
  rw [len_of zS1 zN1]
  refine go_st (fun t k => XS.iloadN X0.here hx rfl (hb hby d4_2) rfl k) ?_
  refine go_st (fun t k => XS.iloadN X0.here hx rfl (hb hby d4_3) rfl k) ?_
  show Go _ _ _ _ (s₁.setTop (mkF m 4 #[rv ax, iv 1, iv 3, iv key] [(.int 3), (.int 1), (.int 64)]))
  obtain ⟨_, _, ⟨T2, L2, kk2, nn2⟩, -, X2, ⟨Lc2, hQ2, lq2, yq2, zq2⟩, st2⟩ := Jvm.LawKit.callS X0 hx (y := (⟨"java/util/Arrays", "rangeCheck", "(III)V"⟩ : MethodName)) hown (mvT hZ (w37 hw)) (mvT hZ (w38 hw)) (mvT hZ (w35 hw)) (mvT hZ (w39 hw)) (by decide) (backOf (W := 0) (rm_rc_13 l Z a0 hw []  h0 n0 (Nat.le_trans Z0 (Nat.le_refl _)) ) hZ (w39 hw) (w35 hw) (by decide) (by decide)) (g := (mkF m 4 #[rv ax, iv 1, iv 3, iv key] [(.int 3), (.int 1), (.int 64)])) rfl (by rw [hml]; rfl) (argsL := [(.int 64), (.int 1), (.int 3)]) (rest := []) (lenOf pd_0 rfl) rfl (by show 2 * 0 + _ ≤ _; exact Nat.le_of_eq rfl) (hb hby d4_4) (fun _ _ => ⟨rfl, e0, (by decide : 0 + 0 ≤ _), (by decide : 0 + 0 ≤ _)⟩)
  dsimp only [Pt.U, Pt.locs, Pt.cells, Pt.slots] at X2 lq2 yq2 zq2 st2 hQ2
  subst lq2 yq2 zq2
  obtain ⟨h2, e2⟩ : ∃ z, T2.heap = z := ⟨_, rfl⟩
  rw [e2] at hQ2
  obtain ⟨rfl, N2q, he2⟩ := hQ2
  have N2 := Fr.app N0 N2q
  rw [he2] at e2
  refine go_st st2 ?_
  show Go _ _ _ _ (T2.setTop (mkF m 7 #[rv ax, iv 1, iv 3, iv key] []))
  refine go_st (fun t k => XS.aloadN X2.here hx rfl (hb hby d4_7) rfl rfl k) ?_
  refine go_st (fun t k => XS.iloadN X2.here hx rfl (hb hby d4_8) rfl k) ?_
  refine go_st (fun t k => XS.iloadN X2.here hx rfl (hb hby d4_9) rfl k) ?_
  refine go_st (fun t k => XS.iloadN X2.here hx rfl (hb hby d4_10) rfl k) ?_
  show Go _ _ _ _ (T2.setTop (mkF m 11 #[rv ax, iv 1, iv 3, iv key] [(.int key), (.int 3), (.int 1), (.ref ax)]))
  obtain ⟨_, _, ⟨T3, L3, kk3, nn3⟩, -, X3, ⟨Lc3, hQ3, lq3, yq3, zq3⟩, st3⟩ := Jvm.LawKit.callS X2 hx (y := (⟨"java/util/Arrays", "binarySearch0", "([IIII)I"⟩ : MethodName)) hown (mvT hZ (w40 hw)) (mvT hZ (w41 hw)) (mvT hZ (w35 hw)) (mvT hZ (w42 hw)) (by decide) (backOf (W := 0) (rm_bs0_133 l Z a0 hw [] ax kx key x0 x1 x2 h0 n0 (Nat.le_trans Z0 (Nat.le_refl _)) H0 s1 hl) hZ (w42 hw) (w35 hw) (by decide) (by decide)) (g := (mkF m 11 #[rv ax, iv 1, iv 3, iv key] [(.int key), (.int 3), (.int 1), (.ref ax)])) rfl (by rw [hml]; rfl) (argsL := [(.ref ax), (.int 1), (.int 3), (.int key)]) (rest := []) (lenOf pd_1 rfl) rfl (by show 2 * 0 + _ ≤ _; exact Nat.le_of_eq rfl) (hb hby d4_11) (fun _ _ => ⟨rfl, e2, (by decide : 0 + 0 ≤ _), (by decide : 0 + 0 ≤ _)⟩)
  dsimp only [Pt.U, Pt.locs, Pt.cells, Pt.slots] at X3 lq3 yq3 zq3 st3 hQ3
  subst lq3 yq3 zq3
  obtain ⟨h3, e3⟩ : ∃ z, T3.heap = z := ⟨_, rfl⟩
  rw [e3] at hQ3
  obtain ⟨r_3, rfl, N3q, he3, hres_3⟩ := hQ3
  have N3 := Fr.app N2 N3q
  rw [he3] at e3
  refine go_st st3 ?_
  show Go _ _ _ _ (T3.setTop (mkF m 14 #[rv ax, iv 1, iv 3, iv key] [(.int r_3)]))
  obtain ⟨fs, hr, hrun, hended, hW, hsame⟩ := X3.leave (v := some (.int r_3)) (fun h => by rw [Bd.returns] at h; cases h)
  refine ⟨_, _, ?_, hrun, hended, _, _, rfl, ?_, ⟨_, rfl⟩, hW, hsame.mono (by decide) (by decide)⟩
  · exact retI X3 hx Bd.returns (hb hby d4_14) hr
  · show Q_bs_133 _ _ _ _ _ _ _ _ _ _ T3.heap _
    rw [e3]
    exact ⟨r_3, rfl, N3, rfl, hres_3⟩
def Q_lb_133 (Z : State) (a1 : Addr) (ax : Addr) (al : Addr) (kx : ClassId) (kl : ClassId) (key : Int32) (line : Int32) (x0 : Int32) (x1 : Int32) (x2 : Int32) (l0 : Int32) (l1 : Int32) (l2 : Int32) (h0 : Heap) (n0 : Nat) (vR : Option Value) (h : Heap) (L : List Loc) : Prop := vR = some (.int l2) ∧ Fr n0 L ∧ Keep h0 h [a1] ∧ (Exa Z h a1 cBE) ∧ (Fld Z h a1 cBE "indexes" "[I" (.ref ax)) ∧ (Fld Z h a1 cBE "lines" "[I" (.ref al)) ∧ (Fld Z h a1 cBE "first" "I" (.int 2)) ∧ (Fld Z h a1 cBE "count" "I" (.int 3)) ∧ (Arv Z h ax kx .int (64 : Int32) [(.int x0), (.int x1), (.int x2)] (.int (0 : Int32))) ∧ (Arv Z h al kl .int (64 : Int32) [(.int l0), (.int l1), (.int l2)] (.int (0 : Int32)))
theorem ef_lb_133 (m : MethodId) (x0 : Addr) (x1 : Int32) (x2 : Int32) : entryFrame m #[(.ref x0), (.int x1), (.int x2)] 6 = mkF m 0 #[.val (.ref x0), .val (.int x1), .val (.int x2), .unset, .unset, .unset] [] := by first | (simp [entryFrame, mkF, argsToLocals, Value.category]; done) | rfl
set_option maxRecDepth 65536 in
set_option maxHeartbeats 40000000 in
theorem rm_lb_133 (l : Launch) (Z : State) (a0 : Array Value) (hw : ∀ d ∈ tables_1, d.before a0 Z = true) (ws : List Jvm.Cond) (a1 : Addr) (ax : Addr) (al : Addr) (kx : ClassId) (kl : ClassId) (key : Int32) (line : Int32) (x0 : Int32) (x1 : Int32) (x2 : Int32) (l0 : Int32) (l1 : Int32) (l2 : Int32) (h0 : Heap) (n0 : Nat) (Z0 : n0 ≤ h0.size) (H0 : Exa Z h0 a1 cBE) (H1 : Fld Z h0 a1 cBE "indexes" "[I" (.ref ax)) (H2 : Fld Z h0 a1 cBE "lines" "[I" (.ref al)) (H3 : Fld Z h0 a1 cBE "first" "I" (.int 1)) (H4 : Fld Z h0 a1 cBE "count" "I" (.int 3)) (H5 : Arv Z h0 ax kx .int (64 : Int32) [(.int x0), (.int x1), (.int x2)] (.int (0 : Int32))) (H6 : Arv Z h0 al kl .int (64 : Int32) [(.int l0), (.int l1), (.int l2)] (.int (0 : Int32))) (ne_a1_ax : a1 ≠ ax) (ne_a1_al : a1 ≠ al) (ne_ax_al : ax ≠ al) (g_a1 : n0 ≤ a1) (s1 : x1 < x2) (hl : x2 < key) :
    MetFree l (⟨"com/example/nudge/nudge/tree/BlockEntries", "lineBefore", "(II)I"⟩ : MethodName) (head1 (Jvm.Cond.code (⟨"com/example/nudge/nudge/tree/BlockEntries", "lineBefore", "(II)I"⟩ : MethodName) prog_17_method_3_code 6 (some .int) :: ws) ({ frames := 2, cells := 0, slots := 0, locals := 34 } : Room)) (fun a U => a = #[(.ref a1), (.int key), (.int line)] ∧ Z.Warmed39 U.vm ∧ U.heap = h0) (fun _ _ _ _ _ => True) (fun _ U o U' => ∃ v L, o = .returned v ∧ Q_lb_133 Z a1 ax al kx kl key line x0 x1 x2 l0 l1 l2 h0 n0 v U'.heap L ∧ FrameEnd U o U' L ({ frames := 2, cells := 0, slots := 0, locals := 34 } : Room).cells ({ frames := 2, cells := 0, slots := 0, locals := 34 } : Room).slots) := by
  refine MetFree.of_bodySF (plainFor_of_name pn_com_example_nudge_nudge_tree_BlockEntries) hisR ?_
  intro p e s m args below meth c s₁ Bd hml0 hP hK
  obtain ⟨rfl, hZ, hh⟩ := hP
  have hx := Bd.exec
  have hby := Bd.bytes
  have hml : c.maxLocals = 6 := hml0
  have hown : s.vm.findClass "com/example/nudge/nudge/tree/BlockEntries" = some m.cls := findClass_of_methodNamed Bd.named
  have hnm := (name_of_methodNamed Bd.named Bd.method).1
  have X0 : Stand p l e ({ frames := 2, cells := 0, slots := 0, locals := 34 } : Room) s m #[(.ref a1), (.int key), (.int line)] below meth c s₁ [] 0 0 := Stand.of_body Bd
  have e0 : s₁.heap = h0 := by rw [← hh, Bd.state]; rfl
  have N0 := Fr.nil n0
  refine go_st (fun t k => castTop (ef_lb_133 m a1 key line) k) ?_
  show Go _ _ _ _ (s₁.setTop (mkF m 0 #[rv a1, iv key, iv line, .unset, .unset, .unset] []))
  refine go_st (fun t k => XS.aloadN X0.here hx rfl (hb hby d5_0) rfl rfl k) ?_
  show Go _ _ _ _ (s₁.setTop (mkF m 1 #[rv a1, iv key, iv line, .unset, .unset, .unset] [(.ref a1)]))
  obtain ⟨T1, X1, e1, st1⟩ := getF X0 hx hZ hown (host := "") (Or.inl (w15 hw)) Via.refl e0 H1 (g := (mkF m 1 #[rv a1, iv key, iv line, .unset, .unset, .unset] [(.ref a1)])) rfl rfl (hb hby d5_1)
  refine go_st (fun t k => st1 t k) ?_
  refine go_st (fun t k => XS.aloadN X1.here hx rfl (hb hby d5_4) rfl rfl k) ?_
  show Go _ _ _ _ (T1.setTop (mkF m 5 #[rv a1, iv key, iv line, .unset, .unset, .unset] [(.ref a1), (.ref ax)]))
  obtain ⟨T2, X2, e2, st2⟩ := getF X1 hx hZ hown (host := "") (Or.inl (w31 hw)) Via.refl e1 H3 (g := (mkF m 5 #[rv a1, iv key, iv line, .unset, .unset, .unset] [(.ref a1), (.ref ax)])) rfl rfl (hb hby d5_5)
  refine go_st (fun t k => st2 t k) ?_
  refine go_st (fun t k => XS.aloadN X2.here hx rfl (hb hby d5_8) rfl rfl k) ?_
  show Go _ _ _ _ (T2.setTop (mkF m 9 #[rv a1, iv key, iv line, .unset, .unset, .unset] [(.ref a1), (.int 1), (.ref ax)]))
  obtain ⟨T3, X3, e3, st3⟩ := getF X2 hx hZ hown (host := "") (Or.inl (w24 hw)) Via.refl e2 H4 (g := (mkF m 9 #[rv a1, iv key, iv line, .unset, .unset, .unset] [(.ref a1), (.int 1), (.ref ax)])) rfl rfl (hb hby d5_9)
  refine go_st (fun t k => st3 t k) ?_
  refine go_st (fun t k => XS.iloadN X3.here hx rfl (hb hby d5_12) rfl k) ?_
  show Go _ _ _ _ (T3.setTop (mkF m 13 #[rv a1, iv key, iv line, .unset, .unset, .unset] [(.int key), (.int 3), (.int 1), (.ref ax)]))
  obtain ⟨_, _, ⟨T4, L4, kk4, nn4⟩, -, X4, ⟨Lc4, hQ4, lq4, yq4, zq4⟩, st4⟩ := Jvm.LawKit.callS X3 hx (y := (⟨"java/util/Arrays", "binarySearch", "([IIII)I"⟩ : MethodName)) hown (mvT hZ (w33 hw)) (mvT hZ (w34 hw)) (mvT hZ (w35 hw)) (mvT hZ (w36 hw)) (by decide) (backOf (W := 0) (rm_bs_133 l Z a0 hw [] ax kx key x0 x1 x2 h0 n0 (Nat.le_trans Z0 (Nat.le_refl _)) H5 s1 hl) hZ (w36 hw) (w35 hw) (by decide) (by decide)) (g := (mkF m 13 #[rv a1, iv key, iv line, .unset, .unset, .unset] [(.int key), (.int 3), (.int 1), (.ref ax)])) rfl (by rw [hml]; rfl) (argsL := [(.ref ax), (.int 1), (.int 3), (.int key)]) (rest := []) (lenOf pd_1 rfl) rfl (by show 2 * 0 + _ ≤ _; exact Nat.le_of_eq rfl) (hb hby d5_13) (fun _ _ => ⟨rfl, e3, (by decide : 0 + 0 ≤ _), (by decide : 0 + 0 ≤ _)⟩)
  dsimp only [Pt.U, Pt.locs, Pt.cells, Pt.slots] at X4 lq4 yq4 zq4 st4 hQ4
  subst lq4 yq4 zq4
  obtain ⟨h4, e4⟩ : ∃ z, T4.heap = z := ⟨_, rfl⟩
  rw [e4] at hQ4
  obtain ⟨r_4, rfl, N4q, he4, hres_4⟩ := hQ4
  have N4 := Fr.app N0 N4q
  rw [he4] at e4
  refine go_st st4 ?_
  show Go _ _ _ _ (T4.setTop (mkF m 16 #[rv a1, iv key, iv line, .unset, .unset, .unset] [(.int r_4)]))
  rcases hres_4 with rfl | rfl
  · skip
    show Go _ _ _ _ (T4.setTop (mkF m 16 #[rv a1, iv key, iv line, .unset, .unset, .unset] [(.int 3)]))
    refine go_st (fun t k => XS.istoreN X4.here hx rfl (hb hby d5_16) rfl (l' := #[rv a1, iv key, iv line, iv 3, .unset, .unset]) rfl k) ?_
    refine go_st (fun t k => XS.iloadN X4.here hx rfl (hb hby d5_17) rfl k) ?_
    show Go _ _ _ _ (T4.setTop (mkF m 18 #[rv a1, iv key, iv line, iv 3, .unset, .unset] [(.int 3)]))
    refine go_st (fun t k => XS.ifNo X4.here hx rfl (hb hby d5_18) rfl ((if0 _ _).trans (flt ((by decide) : ¬ ((3 : Int32) < (0 : Int32)))).1) k) ?_
    show Go _ _ _ _ (T4.setTop (mkF m 21 #[rv a1, iv key, iv line, iv 3, .unset, .unset] []))
    refine go_st (fun t k => XS.iloadN X4.here hx rfl (hb hby d5_21) rfl k) ?_
    refine go_st (fun t k => XS.goto X4.here hx rfl (pc0 := 22) (pc' := 29) rfl (hb hby d5_22) (by decide) (by decide) k) ?_
    show Go _ _ _ _ (T4.setTop (mkF m 29 #[rv a1, iv key, iv line, iv 3, .unset, .unset] [(.int 3)]))
    refine go_st (fun t k => XS.iconst X4.here hx rfl (hb hby d5_29) k) ?_
    show Go _ _ _ _ (T4.setTop (mkF m 30 #[rv a1, iv key, iv line, iv 3, .unset, .unset] [(.int 1), (.int 3)]))
    refine go_st (fun t k => XS.isub X4.here hx rfl (hb hby d5_30) rfl k) ?_
    rw [show ((3 : Int32) - (1 : Int32)) = (2 : Int32) from by decide]
    show Go _ _ _ _ (T4.setTop (mkF m 31 #[rv a1, iv key, iv line, iv 3, .unset, .unset] [(.int 2)]))
    refine go_st (fun t k => XS.istore X4.here hx rfl (hb hby d5_31) rfl (l' := #[rv a1, iv key, iv line, iv 3, iv 2, .unset]) rfl k) ?_
    refine go_st (fun t k => XS.iloadN X4.here hx rfl (hb hby d5_33) rfl k) ?_
    refine go_st (fun t k => XS.istore X4.here hx rfl (hb hby d5_34) rfl (l' := #[rv a1, iv key, iv line, iv 3, iv 2, iv line]) rfl k) ?_
    refine go_st (fun t k => XS.iload X4.here hx rfl (hb hby d5_36) rfl k) ?_
    refine go_st (fun t k => XS.aloadN X4.here hx rfl (hb hby d5_38) rfl rfl k) ?_
    show Go _ _ _ _ (T4.setTop (mkF m 39 #[rv a1, iv key, iv line, iv 3, iv 2, iv line] [(.ref a1), (.int 2)]))
    obtain ⟨T5, X5, e5, st5⟩ := getF X4 hx hZ hown (host := "") (Or.inl (w31 hw)) Via.refl e4 H3 (g := (mkF m 39 #[rv a1, iv key, iv line, iv 3, iv 2, iv line] [(.ref a1), (.int 2)])) rfl rfl (hb hby d5_39)
    refine go_st (fun t k => st5 t k) ?_
    show Go _ _ _ _ (T5.setTop (mkF m 42 #[rv a1, iv key, iv line, iv 3, iv 2, iv line] [(.int 1), (.int 2)]))
    refine go_st (fun t k => XS.icmpNo X5.here hx rfl (hb hby d5_42) rfl (flt ((by decide) : ¬ ((2 : Int32) < (1 : Int32)))).1 k) ?_
    show Go _ _ _ _ (T5.setTop (mkF m 45 #[rv a1, iv key, iv line, iv 3, iv 2, iv line] []))
    refine go_st (fun t k => XS.aloadN X5.here hx rfl (hb hby d5_45) rfl rfl k) ?_
    show Go _ _ _ _ (T5.setTop (mkF m 46 #[rv a1, iv key, iv line, iv 3, iv 2, iv line] [(.ref a1)]))
    obtain ⟨T6, X6, e6, st6⟩ := getF X5 hx hZ hown (host := "") (Or.inl (w17 hw)) Via.refl e5 H2 (g := (mkF m 46 #[rv a1, iv key, iv line, iv 3, iv 2, iv line] [(.ref a1)])) rfl rfl (hb hby d5_46)
    refine go_st (fun t k => st6 t k) ?_
    refine go_st (fun t k => XS.iload X6.here hx rfl (hb hby d5_49) rfl k) ?_
    show Go _ _ _ _ (T6.setTop (mkF m 51 #[rv a1, iv key, iv line, iv 3, iv 2, iv line] [(.int 2), (.ref al)]))
    obtain ⟨zc7, zA7, zq7, zS7, zN7, zH7, zG7⟩ := id H6
    have hin7 : ¬ ((2 : Int32) < 0 ∨ zc7.slots.size ≤ ((2 : Int32)).toNatClampNeg) := inb_of zS7 ⟨by decide, by decide⟩
    have hat7 : zc7.slots[((2 : Int32)).toNatClampNeg]? = some (.int l2) := Has.at zH7 hin7 rfl
    refine go_st (fun t k => X6.iaload hx (j := (2 : Int32)) (v := (.int l2)) (by rw [e6]; exact zA7.1) (State.isArrayOf_alike hZ.alike zA7.2.1) zA7.2.2 hin7 hat7 (g := (mkF m 51 #[rv a1, iv key, iv line, iv 3, iv 2, iv line] [(.int 2), (.ref al)])) rfl rfl (hb hby d5_51) t k) ?_
    refine go_st (fun t k => XS.istore X6.here hx rfl (hb hby d5_52) rfl (l' := #[rv a1, iv key, iv line, iv 3, iv 2, iv l2]) rfl k) ?_
    refine go_st (fun t k => XS.aloadN X6.here hx rfl (hb hby d5_54) rfl rfl k) ?_
    refine go_st (fun t k => XS.iload X6.here hx rfl (hb hby d5_55) rfl k) ?_
    show Go _ _ _ _ (T6.setTop (mkF m 57 #[rv a1, iv key, iv line, iv 3, iv 2, iv l2] [(.int 2), (.ref a1)]))
    obtain ⟨T8, h8, X8, e8, W8, st8⟩ := putF X6 hx hZ hown (host := "") (Or.inl (w31 hw)) Via.refl e6 H3 H0 (Or.inl (w32 hw)) (w6 hw) (ty := .int) (by decide) rfl rfl (g := (mkF m 57 #[rv a1, iv key, iv line, iv 3, iv 2, iv l2] [(.int 2), (.ref a1)])) rfl rfl (hb hby d5_57)
    have N8 := Fr.snoc X8 N4 g_a1
    have f9 : Fld Z h8 a1 cBE "first" "I" (.int 2) := H3.same W8
    refine go_st (fun t k => st8 t k) ?_
    refine go_st (fun t k => XS.iload X8.here hx rfl (hb hby d5_60) rfl k) ?_
    show Go _ _ _ _ (T8.setTop (mkF m 62 #[rv a1, iv key, iv line, iv 3, iv 2, iv l2] [(.int l2)]))
    have f10 : Exa Z h8 a1 cBE := (H0.wr W8)
    have f11 : Fld Z h8 a1 cBE "indexes" "[I" (.ref ax) := (H1.other W8 (Or.inr (slot_ne (Or.inl (w16 hw)) (Or.inl (w32 hw)) (by decide) (t := (.array .int)) (t' := .int) (by decide) (by decide))))
    have f12 : Fld Z h8 a1 cBE "lines" "[I" (.ref al) := (H2.other W8 (Or.inr (slot_ne (Or.inl (w18 hw)) (Or.inl (w32 hw)) (by decide) (t := (.array .int)) (t' := .int) (by decide) (by decide))))
    have f13 : Fld Z h8 a1 cBE "count" "I" (.int 3) := (H4.other W8 (Or.inr (slot_ne (Or.inl (w25 hw)) (Or.inl (w32 hw)) (by decide) (t := .int) (t' := .int) (by decide) (by decide))))
    have f14 : Arv Z h8 ax kx .int (64 : Int32) [(.int x0), (.int x1), (.int x2)] (.int (0 : Int32)) := (H5.other W8 (Ne.symm ne_a1_ax))
    have f15 : Arv Z h8 al kl .int (64 : Int32) [(.int l0), (.int l1), (.int l2)] (.int (0 : Int32)) := (H6.other W8 (Ne.symm ne_a1_al))
    have ke16 : Keep h0 h8 [a1] := (Keep.wr (Keep.refl h0 [a1]) W8 (Or.inl (List.mem_of_getElem? (i := 0) rfl)))
    obtain ⟨fs, hr, hrun, hended, hW, hsame⟩ := X8.leave (v := some (.int l2)) (fun h => by rw [Bd.returns] at h; cases h)
    refine ⟨_, _, ?_, hrun, hended, _, _, rfl, ?_, ⟨_, rfl⟩, hW, hsame.mono (by decide) (by decide)⟩
    · exact retI X8 hx Bd.returns (hb hby d5_62) hr
    · show Q_lb_133 _ _ _ _ _ _ _ _ _ _ _ _ _ _ _ _ _ T8.heap _
      rw [e8]
      exact ⟨rfl, N8, ke16, f10, f11, f12, f9, f13, f14, f15⟩
  · skip
    show Go _ _ _ _ (T4.setTop (mkF m 16 #[rv a1, iv key, iv line, .unset, .unset, .unset] [(.int (-4))]))
    refine go_st (fun t k => XS.istoreN X4.here hx rfl (hb hby d5_16) rfl (l' := #[rv a1, iv key, iv line, iv (-4), .unset, .unset]) rfl k) ?_
    refine go_st (fun t k => XS.iloadN X4.here hx rfl (hb hby d5_17) rfl k) ?_
    show Go _ _ _ _ (T4.setTop (mkF m 18 #[rv a1, iv key, iv line, iv (-4), .unset, .unset] [(.int (-4))]))
    refine go_st (fun t k => XS.ifYes X4.here hx rfl (pc0 := 18) (pc' := 25) rfl (hb hby d5_18) rfl ((if0 _ _).trans (tlt ((by decide) : (-4 : Int32) < (0 : Int32))).1) (by decide) (by decide) k) ?_
    show Go _ _ _ _ (T4.setTop (mkF m 25 #[rv a1, iv key, iv line, iv (-4), .unset, .unset] []))
    refine go_st (fun t k => XS.iloadN X4.here hx rfl (hb hby d5_25) rfl k) ?_
    show Go _ _ _ _ (T4.setTop (mkF m 26 #[rv a1, iv key, iv line, iv (-4), .unset, .unset] [(.int (-4))]))
    refine go_st (fun t k => XS.ineg X4.here hx rfl (hb hby d5_26) rfl k) ?_
    rw [show (-(-4 : Int32)) = (4 : Int32) from by decide]
    show Go _ _ _ _ (T4.setTop (mkF m 27 #[rv a1, iv key, iv line, iv (-4), .unset, .unset] [(.int 4)]))
    refine go_st (fun t k => XS.iconst X4.here hx rfl (hb hby d5_27) k) ?_
    show Go _ _ _ _ (T4.setTop (mkF m 28 #[rv a1, iv key, iv line, iv (-4), .unset, .unset] [(.int 1), (.int 4)]))
    refine go_st (fun t k => XS.isub X4.here hx rfl (hb hby d5_28) rfl k) ?_
    rw [show ((4 : Int32) - (1 : Int32)) = (3 : Int32) from by decide]
    show Go _ _ _ _ (T4.setTop (mkF m 29 #[rv a1, iv key, iv line, iv (-4), .unset, .unset] [(.int 3)]))
    refine go_st (fun t k => XS.iconst X4.here hx rfl (hb hby d5_29) k) ?_
    show Go _ _ _ _ (T4.setTop (mkF m 30 #[rv a1, iv key, iv line, iv (-4), .unset, .unset] [(.int 1), (.int 3)]))
    refine go_st (fun t k => XS.isub X4.here hx rfl (hb hby d5_30) rfl k) ?_
    rw [show ((3 : Int32) - (1 : Int32)) = (2 : Int32) from by decide]
    show Go _ _ _ _ (T4.setTop (mkF m 31 #[rv a1, iv key, iv line, iv (-4), .unset, .unset] [(.int 2)]))
    refine go_st (fun t k => XS.istore X4.here hx rfl (hb hby d5_31) rfl (l' := #[rv a1, iv key, iv line, iv (-4), iv 2, .unset]) rfl k) ?_
    refine go_st (fun t k => XS.iloadN X4.here hx rfl (hb hby d5_33) rfl k) ?_
    refine go_st (fun t k => XS.istore X4.here hx rfl (hb hby d5_34) rfl (l' := #[rv a1, iv key, iv line, iv (-4), iv 2, iv line]) rfl k) ?_
    refine go_st (fun t k => XS.iload X4.here hx rfl (hb hby d5_36) rfl k) ?_
    refine go_st (fun t k => XS.aloadN X4.here hx rfl (hb hby d5_38) rfl rfl k) ?_
    show Go _ _ _ _ (T4.setTop (mkF m 39 #[rv a1, iv key, iv line, iv (-4), iv 2, iv line] [(.ref a1), (.int 2)]))
    obtain ⟨T17, X17, e17, st17⟩ := getF X4 hx hZ hown (host := "") (Or.inl (w31 hw)) Via.refl e4 H3 (g := (mkF m 39 #[rv a1, iv key, iv line, iv (-4), iv 2, iv line] [(.ref a1), (.int 2)])) rfl rfl (hb hby d5_39)
    refine go_st (fun t k => st17 t k) ?_
    show Go _ _ _ _ (T17.setTop (mkF m 42 #[rv a1, iv key, iv line, iv (-4), iv 2, iv line] [(.int 1), (.int 2)]))
    refine go_st (fun t k => XS.icmpNo X17.here hx rfl (hb hby d5_42) rfl (flt ((by decide) : ¬ ((2 : Int32) < (1 : Int32)))).1 k) ?_
    show Go _ _ _ _ (T17.setTop (mkF m 45 #[rv a1, iv key, iv line, iv (-4), iv 2, iv line] []))
    refine go_st (fun t k => XS.aloadN X17.here hx rfl (hb hby d5_45) rfl rfl k) ?_
    show Go _ _ _ _ (T17.setTop (mkF m 46 #[rv a1, iv key, iv line, iv (-4), iv 2, iv line] [(.ref a1)]))
    obtain ⟨T18, X18, e18, st18⟩ := getF X17 hx hZ hown (host := "") (Or.inl (w17 hw)) Via.refl e17 H2 (g := (mkF m 46 #[rv a1, iv key, iv line, iv (-4), iv 2, iv line] [(.ref a1)])) rfl rfl (hb hby d5_46)
    refine go_st (fun t k => st18 t k) ?_
    refine go_st (fun t k => XS.iload X18.here hx rfl (hb hby d5_49) rfl k) ?_
    show Go _ _ _ _ (T18.setTop (mkF m 51 #[rv a1, iv key, iv line, iv (-4), iv 2, iv line] [(.int 2), (.ref al)]))
    obtain ⟨zc19, zA19, zq19, zS19, zN19, zH19, zG19⟩ := id H6
    have hin19 : ¬ ((2 : Int32) < 0 ∨ zc19.slots.size ≤ ((2 : Int32)).toNatClampNeg) := inb_of zS19 ⟨by decide, by decide⟩
    have hat19 : zc19.slots[((2 : Int32)).toNatClampNeg]? = some (.int l2) := Has.at zH19 hin19 rfl
    refine go_st (fun t k => X18.iaload hx (j := (2 : Int32)) (v := (.int l2)) (by rw [e18]; exact zA19.1) (State.isArrayOf_alike hZ.alike zA19.2.1) zA19.2.2 hin19 hat19 (g := (mkF m 51 #[rv a1, iv key, iv line, iv (-4), iv 2, iv line] [(.int 2), (.ref al)])) rfl rfl (hb hby d5_51) t k) ?_
    refine go_st (fun t k => XS.istore X18.here hx rfl (hb hby d5_52) rfl (l' := #[rv a1, iv key, iv line, iv (-4), iv 2, iv l2]) rfl k) ?_
    refine go_st (fun t k => XS.aloadN X18.here hx rfl (hb hby d5_54) rfl rfl k) ?_
    refine go_st (fun t k => XS.iload X18.here hx rfl (hb hby d5_55) rfl k) ?_
    show Go _ _ _ _ (T18.setTop (mkF m 57 #[rv a1, iv key, iv line, iv (-4), iv 2, iv l2] [(.int 2), (.ref a1)]))
    obtain ⟨T20, h20, X20, e20, W20, st20⟩ := putF X18 hx hZ hown (host := "") (Or.inl (w31 hw)) Via.refl e18 H3 H0 (Or.inl (w32 hw)) (w6 hw) (ty := .int) (by decide) rfl rfl (g := (mkF m 57 #[rv a1, iv key, iv line, iv (-4), iv 2, iv l2] [(.int 2), (.ref a1)])) rfl rfl (hb hby d5_57)
    have N20 := Fr.snoc X20 N4 g_a1
    have f21 : Fld Z h20 a1 cBE "first" "I" (.int 2) := H3.same W20
    refine go_st (fun t k => st20 t k) ?_
    refine go_st (fun t k => XS.iload X20.here hx rfl (hb hby d5_60) rfl k) ?_
    show Go _ _ _ _ (T20.setTop (mkF m 62 #[rv a1, iv key, iv line, iv (-4), iv 2, iv l2] [(.int l2)]))
    have f22 : Exa Z h20 a1 cBE := (H0.wr W20)
    have f23 : Fld Z h20 a1 cBE "indexes" "[I" (.ref ax) := (H1.other W20 (Or.inr (slot_ne (Or.inl (w16 hw)) (Or.inl (w32 hw)) (by decide) (t := (.array .int)) (t' := .int) (by decide) (by decide))))
    have f24 : Fld Z h20 a1 cBE "lines" "[I" (.ref al) := (H2.other W20 (Or.inr (slot_ne (Or.inl (w18 hw)) (Or.inl (w32 hw)) (by decide) (t := (.array .int)) (t' := .int) (by decide) (by decide))))
    have f25 : Fld Z h20 a1 cBE "count" "I" (.int 3) := (H4.other W20 (Or.inr (slot_ne (Or.inl (w25 hw)) (Or.inl (w32 hw)) (by decide) (t := .int) (t' := .int) (by decide) (by decide))))
    have f26 : Arv Z h20 ax kx .int (64 : Int32) [(.int x0), (.int x1), (.int x2)] (.int (0 : Int32)) := (H5.other W20 (Ne.symm ne_a1_ax))
    have f27 : Arv Z h20 al kl .int (64 : Int32) [(.int l0), (.int l1), (.int l2)] (.int (0 : Int32)) := (H6.other W20 (Ne.symm ne_a1_al))
    have ke28 : Keep h0 h20 [a1] := (Keep.wr (Keep.refl h0 [a1]) W20 (Or.inl (List.mem_of_getElem? (i := 0) rfl)))
    obtain ⟨fs, hr, hrun, hended, hW, hsame⟩ := X20.leave (v := some (.int l2)) (fun h => by rw [Bd.returns] at h; cases h)
    refine ⟨_, _, ?_, hrun, hended, _, _, rfl, ?_, ⟨_, rfl⟩, hW, hsame.mono (by decide) (by decide)⟩
    · exact retI X20 hx Bd.returns (hb hby d5_62) hr
    · show Q_lb_133 _ _ _ _ _ _ _ _ _ _ _ _ _ _ _ _ _ T20.heap _
      rw [e20]
      exact ⟨rfl, N20, ke28, f22, f23, f24, f21, f25, f26, f27⟩
def Q_rc_23 (Z : State)  (h0 : Heap) (n0 : Nat) (vR : Option Value) (h : Heap) (L : List Loc) : Prop := vR = none ∧ Fr n0 L ∧ h = h0
theorem ef_rc_23 (m : MethodId) (x0 : Int32) (x1 : Int32) (x2 : Int32) : entryFrame m #[(.int x0), (.int x1), (.int x2)] 3 = mkF m 0 #[.val (.int x0), .val (.int x1), .val (.int x2)] [] := by first | (simp [entryFrame, mkF, argsToLocals, Value.category]; done) | rfl
set_option maxRecDepth 65536 in
set_option maxHeartbeats 40000000 in
theorem rm_rc_23 (l : Launch) (Z : State) (a0 : Array Value) (hw : ∀ d ∈ tables_1, d.before a0 Z = true) (ws : List Jvm.Cond)  (h0 : Heap) (n0 : Nat) (Z0 : n0 ≤ h0.size)  :
    MetFree l (⟨"java/util/Arrays", "rangeCheck", "(III)V"⟩ : MethodName) (head1 (Jvm.Cond.code (⟨"java/util/Arrays", "rangeCheck", "(III)V"⟩ : MethodName) jdk_65_method_30_code 3 none :: ws) ({ frames := 0, cells := 0, slots := 0, locals := 0 } : Room)) (fun a U => a = #[(.int 64), (.int 2), (.int 3)] ∧ Z.Warmed39 U.vm ∧ U.heap = h0) (fun _ _ _ _ _ => True) (fun _ U o U' => ∃ v L, o = .returned v ∧ Q_rc_23 Z h0 n0 v U'.heap L ∧ FrameEnd U o U' L ({ frames := 0, cells := 0, slots := 0, locals := 0 } : Room).cells ({ frames := 0, cells := 0, slots := 0, locals := 0 } : Room).slots) := by
  refine MetFree.of_bodySF (plainFor_of_name pn_java_util_Arrays) hisR ?_
  intro p e s m args below meth c s₁ Bd hml0 hP hK
  obtain ⟨rfl, hZ, hh⟩ := hP
  have hx := Bd.exec
  have hby := Bd.bytes
  have hml : c.maxLocals = 3 := hml0
  have hown : s.vm.findClass "java/util/Arrays" = some m.cls := findClass_of_methodNamed Bd.named
  have hnm := (name_of_methodNamed Bd.named Bd.method).1
  have X0 : Stand p l e ({ frames := 0, cells := 0, slots := 0, locals := 0 } : Room) s m #[(.int 64), (.int 2), (.int 3)] below meth c s₁ [] 0 0 := Stand.of_body Bd
  have e0 : s₁.heap = h0 := by rw [← hh, Bd.state]; rfl
  have N0 := Fr.nil n0
  refine go_st (fun t k => castTop (ef_rc_23 m (64 : Int32) (2 : Int32) (3 : Int32)) k) ?_
  show Go _ _ _ _ (s₁.setTop (mkF m 0 #[iv 64, iv 2, iv 3] []))
  refine go_st (fun t k => XS.iloadN X0.here hx rfl (hb hby d2_0) rfl k) ?_
  refine go_st (fun t k => XS.iloadN X0.here hx rfl (hb hby d2_1) rfl k) ?_
  show Go _ _ _ _ (s₁.setTop (mkF m 2 #[iv 64, iv 2, iv 3] [(.int 3), (.int 2)]))
  refine go_st (fun t k => XS.icmpYes X0.here hx rfl (pc0 := 2) (pc' := 46) rfl (hb hby d2_2) rfl (flt ((by decide) : ¬ ((3 : Int32) < (2 : Int32)))).2.2.2 (by decide) (by decide) k) ?_
  show Go _ _ _ _ (s₁.setTop (mkF m 46 #[iv 64, iv 2, iv 3] []))
  refine go_st (fun t k => XS.iloadN X0.here hx rfl (hb hby d2_46) rfl k) ?_
  show Go _ _ _ _ (s₁.setTop (mkF m 47 #[iv 64, iv 2, iv 3] [(.int 2)]))
  refine go_st (fun t k => XS.ifYes X0.here hx rfl (pc0 := 47) (pc' := 59) rfl (hb hby d2_47) rfl ((if0 _ _).trans (flt ((by decide) : ¬ ((2 : Int32) < (0 : Int32)))).2.1) (by decide) (by decide) k) ?_
  show Go _ _ _ _ (s₁.setTop (mkF m 59 #[iv 64, iv 2, iv 3] []))
  refine go_st (fun t k => XS.iloadN X0.here hx rfl (hb hby d2_59) rfl k) ?_
  refine go_st (fun t k => XS.iloadN X0.here hx rfl (hb hby d2_60) rfl k) ?_
  show Go _ _ _ _ (s₁.setTop (mkF m 61 #[iv 64, iv 2, iv 3] [(.int 64), (.int 3)]))
  refine go_st (fun t k => XS.icmpYes X0.here hx rfl (pc0 := 61) (pc' := 73) rfl (hb hby d2_61) rfl (flt ((by decide) : ¬ ((64 : Int32) < (3 : Int32)))).2.2.2 (by decide) (by decide) k) ?_
  show Go _ _ _ _ (s₁.setTop (mkF m 73 #[iv 64, iv 2, iv 3] []))
  obtain ⟨fs, hr, hrun, hended, hW, hsame⟩ := X0.leave (v := none) (fun _ => rfl)
  refine ⟨_, _, ?_, hrun, hended, _, _, rfl, ?_, ⟨_, rfl⟩, hW, hsame.mono (by decide) (by decide)⟩
  · exact X0.returnOut hx Bd.returns (hb hby d2_73) hr
  · show Q_rc_23 _ _ _ _ s₁.heap _
    rw [e0]
    exact ⟨rfl, N0, rfl⟩
def Q_bs0_233 (Z : State) (ax : Addr) (kx : ClassId) (key : Int32) (x0 : Int32) (x1 : Int32) (x2 : Int32) (h0 : Heap) (n0 : Nat) (vR : Option Value) (h : Heap) (L : List Loc) : Prop := ∃ (r : Int32), vR = some (.int r) ∧ Fr n0 L ∧ h = h0 ∧ (r = (3 : Int32) ∨ r = (-4 : Int32))
theorem ef_bs0_233 (m : MethodId) (x0 : Addr) (x1 : Int32) (x2 : Int32) (x3 : Int32) : entryFrame m #[(.ref x0), (.int x1), (.int x2), (.int x3)] 8 = mkF m 0 #[.val (.ref x0), .val (.int x1), .val (.int x2), .val (.int x3), .unset, .unset, .unset, .unset] [] := by first | (simp [entryFrame, mkF, argsToLocals, Value.category]; done) | rfl
set_option maxRecDepth 65536 in
set_option maxHeartbeats 40000000 in
theorem rm_bs0_233 (l : Launch) (Z : State) (a0 : Array Value) (hw : ∀ d ∈ tables_1, d.before a0 Z = true) (ws : List Jvm.Cond) (ax : Addr) (kx : ClassId) (key : Int32) (x0 : Int32) (x1 : Int32) (x2 : Int32) (h0 : Heap) (n0 : Nat) (Z0 : n0 ≤ h0.size) (H0 : Arv Z h0 ax kx .int (64 : Int32) [(.int x0), (.int x1), (.int x2)] (.int (0 : Int32))) (hl : x2 < key) :
    MetFree l (⟨"java/util/Arrays", "binarySearch0", "([IIII)I"⟩ : MethodName) (head1 (Jvm.Cond.code (⟨"java/util/Arrays", "binarySearch0", "([IIII)I"⟩ : MethodName) jdk_65_method_59_code 8 (some .int) :: ws) ({ frames := 0, cells := 0, slots := 0, locals := 0 } : Room)) (fun a U => a = #[(.ref ax), (.int 2), (.int 3), (.int key)] ∧ Z.Warmed39 U.vm ∧ U.heap = h0) (fun _ _ _ _ _ => True) (fun _ U o U' => ∃ v L, o = .returned v ∧ Q_bs0_233 Z ax kx key x0 x1 x2 h0 n0 v U'.heap L ∧ FrameEnd U o U' L ({ frames := 0, cells := 0, slots := 0, locals := 0 } : Room).cells ({ frames := 0, cells := 0, slots := 0, locals := 0 } : Room).slots) := by
  refine MetFree.of_bodySF (plainFor_of_name pn_java_util_Arrays) hisR ?_
  intro p e s m args below meth c s₁ Bd hml0 hP hK
  obtain ⟨rfl, hZ, hh⟩ := hP
  have hx := Bd.exec
  have hby := Bd.bytes
  have hml : c.maxLocals = 8 := hml0
  have hown : s.vm.findClass "java/util/Arrays" = some m.cls := findClass_of_methodNamed Bd.named
  have hnm := (name_of_methodNamed Bd.named Bd.method).1
  have X0 : Stand p l e ({ frames := 0, cells := 0, slots := 0, locals := 0 } : Room) s m #[(.ref ax), (.int 2), (.int 3), (.int key)] below meth c s₁ [] 0 0 := Stand.of_body Bd
  have e0 : s₁.heap = h0 := by rw [← hh, Bd.state]; rfl
  have N0 := Fr.nil n0
  refine go_st (fun t k => castTop (ef_bs0_233 m ax (2 : Int32) (3 : Int32) key) k) ?_
  show Go _ _ _ _ (s₁.setTop (mkF m 0 #[rv ax, iv 2, iv 3, iv key, .unset, .unset, .unset, .unset] []))
  refine go_st (fun t k => XS.iloadN X0.here hx rfl (hb hby d3_0) rfl k) ?_
  refine go_st (fun t k => XS.istore X0.here hx rfl (hb hby d3_1) rfl (l' := #[rv ax, iv 2, iv 3, iv key, iv 2, .unset, .unset, .unset]) rfl k) ?_
  refine go_st (fun t k => XS.iloadN X0.here hx rfl (hb hby d3_3) rfl k) ?_
  refine go_st (fun t k => XS.iconst X0.here hx rfl (hb hby d3_4) k) ?_
  show Go _ _ _ _ (s₁.setTop (mkF m 5 #[rv ax, iv 2, iv 3, iv key, iv 2, .unset, .unset, .unset] [(.int 1), (.int 3)]))
  refine go_st (fun t k => XS.isub X0.here hx rfl (hb hby d3_5) rfl k) ?_
  rw [show ((3 : Int32) - (1 : Int32)) = (2 : Int32) from by decide]
  show Go _ _ _ _ (s₁.setTop (mkF m 6 #[rv ax, iv 2, iv 3, iv key, iv 2, .unset, .unset, .unset] [(.int 2)]))
  refine go_st (fun t k => XS.istore X0.here hx rfl (hb hby d3_6) rfl (l' := #[rv ax, iv 2, iv 3, iv key, iv 2, iv 2, .unset, .unset]) rfl k) ?_
  refine go_st (fun t k => XS.iload X0.here hx rfl (hb hby d3_8) rfl k) ?_
  refine go_st (fun t k => XS.iload X0.here hx rfl (hb hby d3_10) rfl k) ?_
  show Go _ _ _ _ (s₁.setTop (mkF m 12 #[rv ax, iv 2, iv 3, iv key, iv 2, iv 2, .unset, .unset] [(.int 2), (.int 2)]))
  refine go_st (fun t k => XS.icmpNo X0.here hx rfl (hb hby d3_12) rfl (flt ((by decide) : ¬ ((2 : Int32) < (2 : Int32)))).2.2.1 k) ?_
  show Go _ _ _ _ (s₁.setTop (mkF m 15 #[rv ax, iv 2, iv 3, iv key, iv 2, iv 2, .unset, .unset] []))
  refine go_st (fun t k => XS.iload X0.here hx rfl (hb hby d3_15) rfl k) ?_
  refine go_st (fun t k => XS.iload X0.here hx rfl (hb hby d3_17) rfl k) ?_
  show Go _ _ _ _ (s₁.setTop (mkF m 19 #[rv ax, iv 2, iv 3, iv key, iv 2, iv 2, .unset, .unset] [(.int 2), (.int 2)]))
  refine go_st (fun t k => XS.iadd X0.here hx rfl (hb hby d3_19) rfl k) ?_
  rw [show ((2 : Int32) + (2 : Int32)) = (4 : Int32) from by decide]
  show Go _ _ _ _ (s₁.setTop (mkF m 20 #[rv ax, iv 2, iv 3, iv key, iv 2, iv 2, .unset, .unset] [(.int 4)]))
  refine go_st (fun t k => XS.iconst X0.here hx rfl (hb hby d3_20) k) ?_
  show Go _ _ _ _ (s₁.setTop (mkF m 21 #[rv ax, iv 2, iv 3, iv key, iv 2, iv 2, .unset, .unset] [(.int 1), (.int 4)]))
  refine go_st (fun t k => XS.iushr X0.here hx rfl (hb hby d3_21) rfl k) ?_
  rw [show (((4 : Int32)).toUInt32 >>> ((1 : Int32) &&& 31).toUInt32).toInt32 = (2 : Int32) from by decide]
  show Go _ _ _ _ (s₁.setTop (mkF m 22 #[rv ax, iv 2, iv 3, iv key, iv 2, iv 2, .unset, .unset] [(.int 2)]))
  refine go_st (fun t k => XS.istore X0.here hx rfl (hb hby d3_22) rfl (l' := #[rv ax, iv 2, iv 3, iv key, iv 2, iv 2, iv 2, .unset]) rfl k) ?_
  refine go_st (fun t k => XS.aloadN X0.here hx rfl (hb hby d3_24) rfl rfl k) ?_
  refine go_st (fun t k => XS.iload X0.here hx rfl (hb hby d3_25) rfl k) ?_
  show Go _ _ _ _ (s₁.setTop (mkF m 27 #[rv ax, iv 2, iv 3, iv key, iv 2, iv 2, iv 2, .unset] [(.int 2), (.ref ax)]))
  obtain ⟨zc1, zA1, zq1, zS1, zN1, zH1, zG1⟩ := id H0
  have hin1 : ¬ ((2 : Int32) < 0 ∨ zc1.slots.size ≤ ((2 : Int32)).toNatClampNeg) := inb_of zS1 ⟨by decide, by decide⟩
  have hat1 : zc1.slots[((2 : Int32)).toNatClampNeg]? = some (.int x2) := Has.at zH1 hin1 rfl
  refine go_st (fun t k => X0.iaload hx (j := (2 : Int32)) (v := (.int x2)) (by rw [e0]; exact zA1.1) (State.isArrayOf_alike hZ.alike zA1.2.1) zA1.2.2 hin1 hat1 (g := (mkF m 27 #[rv ax, iv 2, iv 3, iv key, iv 2, iv 2, iv 2, .unset] [(.int 2), (.ref ax)])) rfl rfl (hb hby d3_27) t k) ?_
  refine go_st (fun t k => XS.istore X0.here hx rfl (hb hby d3_28) rfl (l' := #[rv ax, iv 2, iv 3, iv key, iv 2, iv 2, iv 2, iv x2]) rfl k) ?_
  refine go_st (fun t k => XS.iload X0.here hx rfl (hb hby d3_30) rfl k) ?_
  refine go_st (fun t k => XS.iloadN X0.here hx rfl (hb hby d3_32) rfl k) ?_
  show Go _ _ _ _ (s₁.setTop (mkF m 33 #[rv ax, iv 2, iv 3, iv key, iv 2, iv 2, iv 2, iv x2] [(.int key), (.int x2)]))
  refine go_st (fun t k => XS.icmpNo X0.here hx rfl (hb hby d3_33) rfl (tlt (hl : x2 < key)).2.1 k) ?_
  show Go _ _ _ _ (s₁.setTop (mkF m 36 #[rv ax, iv 2, iv 3, iv key, iv 2, iv 2, iv 2, iv x2] []))
  refine go_st (fun t k => XS.iload X0.here hx rfl (hb hby d3_36) rfl k) ?_
  refine go_st (fun t k => XS.iconst X0.here hx rfl (hb hby d3_38) k) ?_
  show Go _ _ _ _ (s₁.setTop (mkF m 39 #[rv ax, iv 2, iv 3, iv key, iv 2, iv 2, iv 2, iv x2] [(.int 1), (.int 2)]))
  refine go_st (fun t k => XS.iadd X0.here hx rfl (hb hby d3_39) rfl k) ?_
  rw [show ((2 : Int32) + (1 : Int32)) = (3 : Int32) from by decide]
  show Go _ _ _ _ (s₁.setTop (mkF m 40 #[rv ax, iv 2, iv 3, iv key, iv 2, iv 2, iv 2, iv x2] [(.int 3)]))
  refine go_st (fun t k => XS.istore X0.here hx rfl (hb hby d3_40) rfl (l' := #[rv ax, iv 2, iv 3, iv key, iv 3, iv 2, iv 2, iv x2]) rfl k) ?_
  refine go_st (fun t k => XS.goto X0.here hx rfl (pc0 := 42) (pc' := 63) rfl (hb hby d3_42) (by decide) (by decide) k) ?_
  show Go _ _ _ _ (s₁.setTop (mkF m 63 #[rv ax, iv 2, iv 3, iv key, iv 3, iv 2, iv 2, iv x2] []))
  refine go_st (fun t k => XS.goto X0.here hx rfl (pc0 := 63) (pc' := 8) rfl (hb hby d3_63) (by decide) (by decide) k) ?_
  show Go _ _ _ _ (s₁.setTop (mkF m 8 #[rv ax, iv 2, iv 3, iv key, iv 3, iv 2, iv 2, iv x2] []))
  refine go_st (fun t k => XS.iload X0.here hx rfl (hb hby d3_8) rfl k) ?_
  refine go_st (fun t k => XS.iload X0.here hx rfl (hb hby d3_10) rfl k) ?_
  show Go _ _ _ _ (s₁.setTop (mkF m 12 #[rv ax, iv 2, iv 3, iv key, iv 3, iv 2, iv 2, iv x2] [(.int 2), (.int 3)]))
  refine go_st (fun t k => XS.icmpYes X0.here hx rfl (pc0 := 12) (pc' := 66) rfl (hb hby d3_12) rfl (tlt ((by decide) : (2 : Int32) < (3 : Int32))).2.2.1 (by decide) (by decide) k) ?_
  show Go _ _ _ _ (s₁.setTop (mkF m 66 #[rv ax, iv 2, iv 3, iv key, iv 3, iv 2, iv 2, iv x2] []))
  refine go_st (fun t k => XS.iload X0.here hx rfl (hb hby d3_66) rfl k) ?_
  refine go_st (fun t k => XS.iconst X0.here hx rfl (hb hby d3_68) k) ?_
  show Go _ _ _ _ (s₁.setTop (mkF m 69 #[rv ax, iv 2, iv 3, iv key, iv 3, iv 2, iv 2, iv x2] [(.int 1), (.int 3)]))
  refine go_st (fun t k => XS.iadd X0.here hx rfl (hb hby d3_69) rfl k) ?_
  rw [show ((3 : Int32) + (1 : Int32)) = (4 : Int32) from by decide]
  show Go _ _ _ _ (s₁.setTop (mkF m 70 #[rv ax, iv 2, iv 3, iv key, iv 3, iv 2, iv 2, iv x2] [(.int 4)]))
  refine go_st (fun t k => XS.ineg X0.here hx rfl (hb hby d3_70) rfl k) ?_
  rw [show (-(4 : Int32)) = (-4 : Int32) from by decide]
  show Go _ _ _ _ (s₁.setTop (mkF m 71 #[rv ax, iv 2, iv 3, iv key, iv 3, iv 2, iv 2, iv x2] [(.int (-4))]))
  obtain ⟨fs, hr, hrun, hended, hW, hsame⟩ := X0.leave (v := some (.int (-4))) (fun h => by rw [Bd.returns] at h; cases h)
  refine ⟨_, _, ?_, hrun, hended, _, _, rfl, ?_, ⟨_, rfl⟩, hW, hsame.mono (by decide) (by decide)⟩
  · exact retI X0 hx Bd.returns (hb hby d3_71) hr
  · show Q_bs0_233 _ _ _ _ _ _ _ _ _ _ s₁.heap _
    rw [e0]
    exact ⟨(-4 : Int32), rfl, N0, rfl, (Or.inr rfl)⟩
def Q_bs_233 (Z : State) (ax : Addr) (kx : ClassId) (key : Int32) (x0 : Int32) (x1 : Int32) (x2 : Int32) (h0 : Heap) (n0 : Nat) (vR : Option Value) (h : Heap) (L : List Loc) : Prop := ∃ (r : Int32), vR = some (.int r) ∧ Fr n0 L ∧ h = h0 ∧ (r = (3 : Int32) ∨ r = (-4 : Int32))
theorem ef_bs_233 (m : MethodId) (x0 : Addr) (x1 : Int32) (x2 : Int32) (x3 : Int32) : entryFrame m #[(.ref x0), (.int x1), (.int x2), (.int x3)] 4 = mkF m 0 #[.val (.ref x0), .val (.int x1), .val (.int x2), .val (.int x3)] [] := by first | (simp [entryFrame, mkF, argsToLocals, Value.category]; done) | rfl
set_option maxRecDepth 65536 in
set_option maxHeartbeats 40000000 in
theorem rm_bs_233 (l : Launch) (Z : State) (a0 : Array Value) (hw : ∀ d ∈ tables_1, d.before a0 Z = true) (ws : List Jvm.Cond) (ax : Addr) (kx : ClassId) (key : Int32) (x0 : Int32) (x1 : Int32) (x2 : Int32) (h0 : Heap) (n0 : Nat) (Z0 : n0 ≤ h0.size) (H0 : Arv Z h0 ax kx .int (64 : Int32) [(.int x0), (.int x1), (.int x2)] (.int (0 : Int32))) (hl : x2 < key) :
    MetFree l (⟨"java/util/Arrays", "binarySearch", "([IIII)I"⟩ : MethodName) (head1 (Jvm.Cond.code (⟨"java/util/Arrays", "binarySearch", "([IIII)I"⟩ : MethodName) jdk_65_method_58_code 4 (some .int) :: ws) ({ frames := 1, cells := 0, slots := 0, locals := 19 } : Room)) (fun a U => a = #[(.ref ax), (.int 2), (.int 3), (.int key)] ∧ Z.Warmed39 U.vm ∧ U.heap = h0) (fun _ _ _ _ _ => True) (fun _ U o U' => ∃ v L, o = .returned v ∧ Q_bs_233 Z ax kx key x0 x1 x2 h0 n0 v U'.heap L ∧ FrameEnd U o U' L ({ frames := 1, cells := 0, slots := 0, locals := 19 } : Room).cells ({ frames := 1, cells := 0, slots := 0, locals := 19 } : Room).slots) := by
  refine MetFree.of_bodySF (plainFor_of_name pn_java_util_Arrays) hisR ?_
  intro p e s m args below meth c s₁ Bd hml0 hP hK
  obtain ⟨rfl, hZ, hh⟩ := hP
  have hx := Bd.exec
  have hby := Bd.bytes
  have hml : c.maxLocals = 4 := hml0
  have hown : s.vm.findClass "java/util/Arrays" = some m.cls := findClass_of_methodNamed Bd.named
  have hnm := (name_of_methodNamed Bd.named Bd.method).1
  have X0 : Stand p l e ({ frames := 1, cells := 0, slots := 0, locals := 19 } : Room) s m #[(.ref ax), (.int 2), (.int 3), (.int key)] below meth c s₁ [] 0 0 := Stand.of_body Bd
  have e0 : s₁.heap = h0 := by rw [← hh, Bd.state]; rfl
  have N0 := Fr.nil n0
  refine go_st (fun t k => castTop (ef_bs_233 m ax (2 : Int32) (3 : Int32) key) k) ?_
  show Go _ _ _ _ (s₁.setTop (mkF m 0 #[rv ax, iv 2, iv 3, iv key] []))
  refine go_st (fun t k => XS.aloadN X0.here hx rfl (hb hby d4_0) rfl rfl k) ?_
  show Go _ _ _ _ (s₁.setTop (mkF m 1 #[rv ax, iv 2, iv 3, iv key] [(.ref ax)]))
  obtain ⟨zc1, zA1, zq1, zS1, zN1, zH1, zG1⟩ := id H0
  refine go_st (fun t k => X0.arraylength hx (by rw [e0]; exact zA1.1) (State.isArrayOf_alike hZ.alike zA1.2.1) (g := (mkF m 1 #[rv ax, iv 2, iv 3, iv key] [(.ref ax)])) rfl rfl (hb hby d4_1) t k) ?_
  rw [len_of zS1 zN1]
  refine go_st (fun t k => XS.iloadN X0.here hx rfl (hb hby d4_2) rfl k) ?_
  refine go_st (fun t k => XS.iloadN X0.here hx rfl (hb hby d4_3) rfl k) ?_
  show Go _ _ _ _ (s₁.setTop (mkF m 4 #[rv ax, iv 2, iv 3, iv key] [(.int 3), (.int 2), (.int 64)]))
  obtain ⟨_, _, ⟨T2, L2, kk2, nn2⟩, -, X2, ⟨Lc2, hQ2, lq2, yq2, zq2⟩, st2⟩ := Jvm.LawKit.callS X0 hx (y := (⟨"java/util/Arrays", "rangeCheck", "(III)V"⟩ : MethodName)) hown (mvT hZ (w37 hw)) (mvT hZ (w38 hw)) (mvT hZ (w35 hw)) (mvT hZ (w39 hw)) (by decide) (backOf (W := 0) (rm_rc_23 l Z a0 hw []  h0 n0 (Nat.le_trans Z0 (Nat.le_refl _)) ) hZ (w39 hw) (w35 hw) (by decide) (by decide)) (g := (mkF m 4 #[rv ax, iv 2, iv 3, iv key] [(.int 3), (.int 2), (.int 64)])) rfl (by rw [hml]; rfl) (argsL := [(.int 64), (.int 2), (.int 3)]) (rest := []) (lenOf pd_0 rfl) rfl (by show 2 * 0 + _ ≤ _; exact Nat.le_of_eq rfl) (hb hby d4_4) (fun _ _ => ⟨rfl, e0, (by decide : 0 + 0 ≤ _), (by decide : 0 + 0 ≤ _)⟩)
  dsimp only [Pt.U, Pt.locs, Pt.cells, Pt.slots] at X2 lq2 yq2 zq2 st2 hQ2
  subst lq2 yq2 zq2
  obtain ⟨h2, e2⟩ : ∃ z, T2.heap = z := ⟨_, rfl⟩
  rw [e2] at hQ2
  obtain ⟨rfl, N2q, he2⟩ := hQ2
  have N2 := Fr.app N0 N2q
  rw [he2] at e2
  refine go_st st2 ?_
  show Go _ _ _ _ (T2.setTop (mkF m 7 #[rv ax, iv 2, iv 3, iv key] []))
  refine go_st (fun t k => XS.aloadN X2.here hx rfl (hb hby d4_7) rfl rfl k) ?_
  refine go_st (fun t k => XS.iloadN X2.here hx rfl (hb hby d4_8) rfl k) ?_
  refine go_st (fun t k => XS.iloadN X2.here hx rfl (hb hby d4_9) rfl k) ?_
  refine go_st (fun t k => XS.iloadN X2.here hx rfl (hb hby d4_10) rfl k) ?_
  show Go _ _ _ _ (T2.setTop (mkF m 11 #[rv ax, iv 2, iv 3, iv key] [(.int key), (.int 3), (.int 2), (.ref ax)]))
  obtain ⟨_, _, ⟨T3, L3, kk3, nn3⟩, -, X3, ⟨Lc3, hQ3, lq3, yq3, zq3⟩, st3⟩ := Jvm.LawKit.callS X2 hx (y := (⟨"java/util/Arrays", "binarySearch0", "([IIII)I"⟩ : MethodName)) hown (mvT hZ (w40 hw)) (mvT hZ (w41 hw)) (mvT hZ (w35 hw)) (mvT hZ (w42 hw)) (by decide) (backOf (W := 0) (rm_bs0_233 l Z a0 hw [] ax kx key x0 x1 x2 h0 n0 (Nat.le_trans Z0 (Nat.le_refl _)) H0 hl) hZ (w42 hw) (w35 hw) (by decide) (by decide)) (g := (mkF m 11 #[rv ax, iv 2, iv 3, iv key] [(.int key), (.int 3), (.int 2), (.ref ax)])) rfl (by rw [hml]; rfl) (argsL := [(.ref ax), (.int 2), (.int 3), (.int key)]) (rest := []) (lenOf pd_1 rfl) rfl (by show 2 * 0 + _ ≤ _; exact Nat.le_of_eq rfl) (hb hby d4_11) (fun _ _ => ⟨rfl, e2, (by decide : 0 + 0 ≤ _), (by decide : 0 + 0 ≤ _)⟩)
  dsimp only [Pt.U, Pt.locs, Pt.cells, Pt.slots] at X3 lq3 yq3 zq3 st3 hQ3
  subst lq3 yq3 zq3
  obtain ⟨h3, e3⟩ : ∃ z, T3.heap = z := ⟨_, rfl⟩
  rw [e3] at hQ3
  obtain ⟨r_3, rfl, N3q, he3, hres_3⟩ := hQ3
  have N3 := Fr.app N2 N3q
  rw [he3] at e3
  refine go_st st3 ?_
  show Go _ _ _ _ (T3.setTop (mkF m 14 #[rv ax, iv 2, iv 3, iv key] [(.int r_3)]))
  obtain ⟨fs, hr, hrun, hended, hW, hsame⟩ := X3.leave (v := some (.int r_3)) (fun h => by rw [Bd.returns] at h; cases h)
  refine ⟨_, _, ?_, hrun, hended, _, _, rfl, ?_, ⟨_, rfl⟩, hW, hsame.mono (by decide) (by decide)⟩
  · exact retI X3 hx Bd.returns (hb hby d4_14) hr
  · show Q_bs_233 _ _ _ _ _ _ _ _ _ _ T3.heap _
    rw [e3]
    exact ⟨r_3, rfl, N3, rfl, hres_3⟩
def Q_lb_233 (Z : State) (a1 : Addr) (ax : Addr) (al : Addr) (kx : ClassId) (kl : ClassId) (key : Int32) (line : Int32) (x0 : Int32) (x1 : Int32) (x2 : Int32) (l0 : Int32) (l1 : Int32) (l2 : Int32) (h0 : Heap) (n0 : Nat) (vR : Option Value) (h : Heap) (L : List Loc) : Prop := vR = some (.int l2) ∧ Fr n0 L ∧ Keep h0 h [a1] ∧ (Exa Z h a1 cBE) ∧ (Fld Z h a1 cBE "indexes" "[I" (.ref ax)) ∧ (Fld Z h a1 cBE "lines" "[I" (.ref al)) ∧ (Fld Z h a1 cBE "first" "I" (.int 2)) ∧ (Fld Z h a1 cBE "count" "I" (.int 3)) ∧ (Arv Z h ax kx .int (64 : Int32) [(.int x0), (.int x1), (.int x2)] (.int (0 : Int32))) ∧ (Arv Z h al kl .int (64 : Int32) [(.int l0), (.int l1), (.int l2)] (.int (0 : Int32)))
theorem ef_lb_233 (m : MethodId) (x0 : Addr) (x1 : Int32) (x2 : Int32) : entryFrame m #[(.ref x0), (.int x1), (.int x2)] 6 = mkF m 0 #[.val (.ref x0), .val (.int x1), .val (.int x2), .unset, .unset, .unset] [] := by first | (simp [entryFrame, mkF, argsToLocals, Value.category]; done) | rfl
set_option maxRecDepth 65536 in
set_option maxHeartbeats 40000000 in
theorem rm_lb_233 (l : Launch) (Z : State) (a0 : Array Value) (hw : ∀ d ∈ tables_1, d.before a0 Z = true) (ws : List Jvm.Cond) (a1 : Addr) (ax : Addr) (al : Addr) (kx : ClassId) (kl : ClassId) (key : Int32) (line : Int32) (x0 : Int32) (x1 : Int32) (x2 : Int32) (l0 : Int32) (l1 : Int32) (l2 : Int32) (h0 : Heap) (n0 : Nat) (Z0 : n0 ≤ h0.size) (H0 : Exa Z h0 a1 cBE) (H1 : Fld Z h0 a1 cBE "indexes" "[I" (.ref ax)) (H2 : Fld Z h0 a1 cBE "lines" "[I" (.ref al)) (H3 : Fld Z h0 a1 cBE "first" "I" (.int 2)) (H4 : Fld Z h0 a1 cBE "count" "I" (.int 3)) (H5 : Arv Z h0 ax kx .int (64 : Int32) [(.int x0), (.int x1), (.int x2)] (.int (0 : Int32))) (H6 : Arv Z h0 al kl .int (64 : Int32) [(.int l0), (.int l1), (.int l2)] (.int (0 : Int32))) (ne_a1_ax : a1 ≠ ax) (ne_a1_al : a1 ≠ al) (ne_ax_al : ax ≠ al) (g_a1 : n0 ≤ a1) (hl : x2 < key) :
    MetFree l (⟨"com/example/nudge/nudge/tree/BlockEntries", "lineBefore", "(II)I"⟩ : MethodName) (head1 (Jvm.Cond.code (⟨"com/example/nudge/nudge/tree/BlockEntries", "lineBefore", "(II)I"⟩ : MethodName) prog_17_method_3_code 6 (some .int) :: ws) ({ frames := 2, cells := 0, slots := 0, locals := 34 } : Room)) (fun a U => a = #[(.ref a1), (.int key), (.int line)] ∧ Z.Warmed39 U.vm ∧ U.heap = h0) (fun _ _ _ _ _ => True) (fun _ U o U' => ∃ v L, o = .returned v ∧ Q_lb_233 Z a1 ax al kx kl key line x0 x1 x2 l0 l1 l2 h0 n0 v U'.heap L ∧ FrameEnd U o U' L ({ frames := 2, cells := 0, slots := 0, locals := 34 } : Room).cells ({ frames := 2, cells := 0, slots := 0, locals := 34 } : Room).slots) := by
  refine MetFree.of_bodySF (plainFor_of_name pn_com_example_nudge_nudge_tree_BlockEntries) hisR ?_
  intro p e s m args below meth c s₁ Bd hml0 hP hK
  obtain ⟨rfl, hZ, hh⟩ := hP
  have hx := Bd.exec
  have hby := Bd.bytes
  have hml : c.maxLocals = 6 := hml0
  have hown : s.vm.findClass "com/example/nudge/nudge/tree/BlockEntries" = some m.cls := findClass_of_methodNamed Bd.named
  have hnm := (name_of_methodNamed Bd.named Bd.method).1
  have X0 : Stand p l e ({ frames := 2, cells := 0, slots := 0, locals := 34 } : Room) s m #[(.ref a1), (.int key), (.int line)] below meth c s₁ [] 0 0 := Stand.of_body Bd
  have e0 : s₁.heap = h0 := by rw [← hh, Bd.state]; rfl
  have N0 := Fr.nil n0
  refine go_st (fun t k => castTop (ef_lb_233 m a1 key line) k) ?_
  show Go _ _ _ _ (s₁.setTop (mkF m 0 #[rv a1, iv key, iv line, .unset, .unset, .unset] []))
  refine go_st (fun t k => XS.aloadN X0.here hx rfl (hb hby d5_0) rfl rfl k) ?_
  show Go _ _ _ _ (s₁.setTop (mkF m 1 #[rv a1, iv key, iv line, .unset, .unset, .unset] [(.ref a1)]))
  obtain ⟨T1, X1, e1, st1⟩ := getF X0 hx hZ hown (host := "") (Or.inl (w15 hw)) Via.refl e0 H1 (g := (mkF m 1 #[rv a1, iv key, iv line, .unset, .unset, .unset] [(.ref a1)])) rfl rfl (hb hby d5_1)
  refine go_st (fun t k => st1 t k) ?_
  refine go_st (fun t k => XS.aloadN X1.here hx rfl (hb hby d5_4) rfl rfl k) ?_
  show Go _ _ _ _ (T1.setTop (mkF m 5 #[rv a1, iv key, iv line, .unset, .unset, .unset] [(.ref a1), (.ref ax)]))
  obtain ⟨T2, X2, e2, st2⟩ := getF X1 hx hZ hown (host := "") (Or.inl (w31 hw)) Via.refl e1 H3 (g := (mkF m 5 #[rv a1, iv key, iv line, .unset, .unset, .unset] [(.ref a1), (.ref ax)])) rfl rfl (hb hby d5_5)
  refine go_st (fun t k => st2 t k) ?_
  refine go_st (fun t k => XS.aloadN X2.here hx rfl (hb hby d5_8) rfl rfl k) ?_
  show Go _ _ _ _ (T2.setTop (mkF m 9 #[rv a1, iv key, iv line, .unset, .unset, .unset] [(.ref a1), (.int 2), (.ref ax)]))
  obtain ⟨T3, X3, e3, st3⟩ := getF X2 hx hZ hown (host := "") (Or.inl (w24 hw)) Via.refl e2 H4 (g := (mkF m 9 #[rv a1, iv key, iv line, .unset, .unset, .unset] [(.ref a1), (.int 2), (.ref ax)])) rfl rfl (hb hby d5_9)
  refine go_st (fun t k => st3 t k) ?_
  refine go_st (fun t k => XS.iloadN X3.here hx rfl (hb hby d5_12) rfl k) ?_
  show Go _ _ _ _ (T3.setTop (mkF m 13 #[rv a1, iv key, iv line, .unset, .unset, .unset] [(.int key), (.int 3), (.int 2), (.ref ax)]))
  obtain ⟨_, _, ⟨T4, L4, kk4, nn4⟩, -, X4, ⟨Lc4, hQ4, lq4, yq4, zq4⟩, st4⟩ := Jvm.LawKit.callS X3 hx (y := (⟨"java/util/Arrays", "binarySearch", "([IIII)I"⟩ : MethodName)) hown (mvT hZ (w33 hw)) (mvT hZ (w34 hw)) (mvT hZ (w35 hw)) (mvT hZ (w36 hw)) (by decide) (backOf (W := 0) (rm_bs_233 l Z a0 hw [] ax kx key x0 x1 x2 h0 n0 (Nat.le_trans Z0 (Nat.le_refl _)) H5 hl) hZ (w36 hw) (w35 hw) (by decide) (by decide)) (g := (mkF m 13 #[rv a1, iv key, iv line, .unset, .unset, .unset] [(.int key), (.int 3), (.int 2), (.ref ax)])) rfl (by rw [hml]; rfl) (argsL := [(.ref ax), (.int 2), (.int 3), (.int key)]) (rest := []) (lenOf pd_1 rfl) rfl (by show 2 * 0 + _ ≤ _; exact Nat.le_of_eq rfl) (hb hby d5_13) (fun _ _ => ⟨rfl, e3, (by decide : 0 + 0 ≤ _), (by decide : 0 + 0 ≤ _)⟩)
  dsimp only [Pt.U, Pt.locs, Pt.cells, Pt.slots] at X4 lq4 yq4 zq4 st4 hQ4
  subst lq4 yq4 zq4
  obtain ⟨h4, e4⟩ : ∃ z, T4.heap = z := ⟨_, rfl⟩
  rw [e4] at hQ4
  obtain ⟨r_4, rfl, N4q, he4, hres_4⟩ := hQ4
  have N4 := Fr.app N0 N4q
  rw [he4] at e4
  refine go_st st4 ?_
  show Go _ _ _ _ (T4.setTop (mkF m 16 #[rv a1, iv key, iv line, .unset, .unset, .unset] [(.int r_4)]))
  rcases hres_4 with rfl | rfl
  · skip
    show Go _ _ _ _ (T4.setTop (mkF m 16 #[rv a1, iv key, iv line, .unset, .unset, .unset] [(.int 3)]))
    refine go_st (fun t k => XS.istoreN X4.here hx rfl (hb hby d5_16) rfl (l' := #[rv a1, iv key, iv line, iv 3, .unset, .unset]) rfl k) ?_
    refine go_st (fun t k => XS.iloadN X4.here hx rfl (hb hby d5_17) rfl k) ?_
    show Go _ _ _ _ (T4.setTop (mkF m 18 #[rv a1, iv key, iv line, iv 3, .unset, .unset] [(.int 3)]))
    refine go_st (fun t k => XS.ifNo X4.here hx rfl (hb hby d5_18) rfl ((if0 _ _).trans (flt ((by decide) : ¬ ((3 : Int32) < (0 : Int32)))).1) k) ?_
    show Go _ _ _ _ (T4.setTop (mkF m 21 #[rv a1, iv key, iv line, iv 3, .unset, .unset] []))
    refine go_st (fun t k => XS.iloadN X4.here hx rfl (hb hby d5_21) rfl k) ?_
    refine go_st (fun t k => XS.goto X4.here hx rfl (pc0 := 22) (pc' := 29) rfl (hb hby d5_22) (by decide) (by decide) k) ?_
    show Go _ _ _ _ (T4.setTop (mkF m 29 #[rv a1, iv key, iv line, iv 3, .unset, .unset] [(.int 3)]))
    refine go_st (fun t k => XS.iconst X4.here hx rfl (hb hby d5_29) k) ?_
    show Go _ _ _ _ (T4.setTop (mkF m 30 #[rv a1, iv key, iv line, iv 3, .unset, .unset] [(.int 1), (.int 3)]))
    refine go_st (fun t k => XS.isub X4.here hx rfl (hb hby d5_30) rfl k) ?_
    rw [show ((3 : Int32) - (1 : Int32)) = (2 : Int32) from by decide]
    show Go _ _ _ _ (T4.setTop (mkF m 31 #[rv a1, iv key, iv line, iv 3, .unset, .unset] [(.int 2)]))
    refine go_st (fun t k => XS.istore X4.here hx rfl (hb hby d5_31) rfl (l' := #[rv a1, iv key, iv line, iv 3, iv 2, .unset]) rfl k) ?_
    refine go_st (fun t k => XS.iloadN X4.here hx rfl (hb hby d5_33) rfl k) ?_
    refine go_st (fun t k => XS.istore X4.here hx rfl (hb hby d5_34) rfl (l' := #[rv a1, iv key, iv line, iv 3, iv 2, iv line]) rfl k) ?_
    refine go_st (fun t k => XS.iload X4.here hx rfl (hb hby d5_36) rfl k) ?_
    refine go_st (fun t k => XS.aloadN X4.here hx rfl (hb hby d5_38) rfl rfl k) ?_
    show Go _ _ _ _ (T4.setTop (mkF m 39 #[rv a1, iv key, iv line, iv 3, iv 2, iv line] [(.ref a1), (.int 2)]))
    obtain ⟨T5, X5, e5, st5⟩ := getF X4 hx hZ hown (host := "") (Or.inl (w31 hw)) Via.refl e4 H3 (g := (mkF m 39 #[rv a1, iv key, iv line, iv 3, iv 2, iv line] [(.ref a1), (.int 2)])) rfl rfl (hb hby d5_39)
    refine go_st (fun t k => st5 t k) ?_
    show Go _ _ _ _ (T5.setTop (mkF m 42 #[rv a1, iv key, iv line, iv 3, iv 2, iv line] [(.int 2), (.int 2)]))
    refine go_st (fun t k => XS.icmpNo X5.here hx rfl (hb hby d5_42) rfl (flt ((by decide) : ¬ ((2 : Int32) < (2 : Int32)))).1 k) ?_
    show Go _ _ _ _ (T5.setTop (mkF m 45 #[rv a1, iv key, iv line, iv 3, iv 2, iv line] []))
    refine go_st (fun t k => XS.aloadN X5.here hx rfl (hb hby d5_45) rfl rfl k) ?_
    show Go _ _ _ _ (T5.setTop (mkF m 46 #[rv a1, iv key, iv line, iv 3, iv 2, iv line] [(.ref a1)]))
    obtain ⟨T6, X6, e6, st6⟩ := getF X5 hx hZ hown (host := "") (Or.inl (w17 hw)) Via.refl e5 H2 (g := (mkF m 46 #[rv a1, iv key, iv line, iv 3, iv 2, iv line] [(.ref a1)])) rfl rfl (hb hby d5_46)
    refine go_st (fun t k => st6 t k) ?_
    refine go_st (fun t k => XS.iload X6.here hx rfl (hb hby d5_49) rfl k) ?_
    show Go _ _ _ _ (T6.setTop (mkF m 51 #[rv a1, iv key, iv line, iv 3, iv 2, iv line] [(.int 2), (.ref al)]))
    obtain ⟨zc7, zA7, zq7, zS7, zN7, zH7, zG7⟩ := id H6
    have hin7 : ¬ ((2 : Int32) < 0 ∨ zc7.slots.size ≤ ((2 : Int32)).toNatClampNeg) := inb_of zS7 ⟨by decide, by decide⟩
    have hat7 : zc7.slots[((2 : Int32)).toNatClampNeg]? = some (.int l2) := Has.at zH7 hin7 rfl
    refine go_st (fun t k => X6.iaload hx (j := (2 : Int32)) (v := (.int l2)) (by rw [e6]; exact zA7.1) (State.isArrayOf_alike hZ.alike zA7.2.1) zA7.2.2 hin7 hat7 (g := (mkF m 51 #[rv a1, iv key, iv line, iv 3, iv 2, iv line] [(.int 2), (.ref al)])) rfl rfl (hb hby d5_51) t k) ?_
    refine go_st (fun t k => XS.istore X6.here hx rfl (hb hby d5_52) rfl (l' := #[rv a1, iv key, iv line, iv 3, iv 2, iv l2]) rfl k) ?_
    refine go_st (fun t k => XS.aloadN X6.here hx rfl (hb hby d5_54) rfl rfl k) ?_
    refine go_st (fun t k => XS.iload X6.here hx rfl (hb hby d5_55) rfl k) ?_
    show Go _ _ _ _ (T6.setTop (mkF m 57 #[rv a1, iv key, iv line, iv 3, iv 2, iv l2] [(.int 2), (.ref a1)]))
    obtain ⟨T8, h8, X8, e8, W8, st8⟩ := putF X6 hx hZ hown (host := "") (Or.inl (w31 hw)) Via.refl e6 H3 H0 (Or.inl (w32 hw)) (w6 hw) (ty := .int) (by decide) rfl rfl (g := (mkF m 57 #[rv a1, iv key, iv line, iv 3, iv 2, iv l2] [(.int 2), (.ref a1)])) rfl rfl (hb hby d5_57)
    have N8 := Fr.snoc X8 N4 g_a1
    have f9 : Fld Z h8 a1 cBE "first" "I" (.int 2) := H3.same W8
    refine go_st (fun t k => st8 t k) ?_
    refine go_st (fun t k => XS.iload X8.here hx rfl (hb hby d5_60) rfl k) ?_
    show Go _ _ _ _ (T8.setTop (mkF m 62 #[rv a1, iv key, iv line, iv 3, iv 2, iv l2] [(.int l2)]))
    have f10 : Exa Z h8 a1 cBE := (H0.wr W8)
    have f11 : Fld Z h8 a1 cBE "indexes" "[I" (.ref ax) := (H1.other W8 (Or.inr (slot_ne (Or.inl (w16 hw)) (Or.inl (w32 hw)) (by decide) (t := (.array .int)) (t' := .int) (by decide) (by decide))))
    have f12 : Fld Z h8 a1 cBE "lines" "[I" (.ref al) := (H2.other W8 (Or.inr (slot_ne (Or.inl (w18 hw)) (Or.inl (w32 hw)) (by decide) (t := (.array .int)) (t' := .int) (by decide) (by decide))))
    have f13 : Fld Z h8 a1 cBE "count" "I" (.int 3) := (H4.other W8 (Or.inr (slot_ne (Or.inl (w25 hw)) (Or.inl (w32 hw)) (by decide) (t := .int) (t' := .int) (by decide) (by decide))))
    have f14 : Arv Z h8 ax kx .int (64 : Int32) [(.int x0), (.int x1), (.int x2)] (.int (0 : Int32)) := (H5.other W8 (Ne.symm ne_a1_ax))
    have f15 : Arv Z h8 al kl .int (64 : Int32) [(.int l0), (.int l1), (.int l2)] (.int (0 : Int32)) := (H6.other W8 (Ne.symm ne_a1_al))
    have ke16 : Keep h0 h8 [a1] := (Keep.wr (Keep.refl h0 [a1]) W8 (Or.inl (List.mem_of_getElem? (i := 0) rfl)))
    obtain ⟨fs, hr, hrun, hended, hW, hsame⟩ := X8.leave (v := some (.int l2)) (fun h => by rw [Bd.returns] at h; cases h)
    refine ⟨_, _, ?_, hrun, hended, _, _, rfl, ?_, ⟨_, rfl⟩, hW, hsame.mono (by decide) (by decide)⟩
    · exact retI X8 hx Bd.returns (hb hby d5_62) hr
    · show Q_lb_233 _ _ _ _ _ _ _ _ _ _ _ _ _ _ _ _ _ T8.heap _
      rw [e8]
      exact ⟨rfl, N8, ke16, f10, f11, f12, f9, f13, f14, f15⟩
  · skip
    show Go _ _ _ _ (T4.setTop (mkF m 16 #[rv a1, iv key, iv line, .unset, .unset, .unset] [(.int (-4))]))
    refine go_st (fun t k => XS.istoreN X4.here hx rfl (hb hby d5_16) rfl (l' := #[rv a1, iv key, iv line, iv (-4), .unset, .unset]) rfl k) ?_
    refine go_st (fun t k => XS.iloadN X4.here hx rfl (hb hby d5_17) rfl k) ?_
    show Go _ _ _ _ (T4.setTop (mkF m 18 #[rv a1, iv key, iv line, iv (-4), .unset, .unset] [(.int (-4))]))
    refine go_st (fun t k => XS.ifYes X4.here hx rfl (pc0 := 18) (pc' := 25) rfl (hb hby d5_18) rfl ((if0 _ _).trans (tlt ((by decide) : (-4 : Int32) < (0 : Int32))).1) (by decide) (by decide) k) ?_
    show Go _ _ _ _ (T4.setTop (mkF m 25 #[rv a1, iv key, iv line, iv (-4), .unset, .unset] []))
    refine go_st (fun t k => XS.iloadN X4.here hx rfl (hb hby d5_25) rfl k) ?_
    show Go _ _ _ _ (T4.setTop (mkF m 26 #[rv a1, iv key, iv line, iv (-4), .unset, .unset] [(.int (-4))]))
    refine go_st (fun t k => XS.ineg X4.here hx rfl (hb hby d5_26) rfl k) ?_
    rw [show (-(-4 : Int32)) = (4 : Int32) from by decide]
    show Go _ _ _ _ (T4.setTop (mkF m 27 #[rv a1, iv key, iv line, iv (-4), .unset, .unset] [(.int 4)]))
    refine go_st (fun t k => XS.iconst X4.here hx rfl (hb hby d5_27) k) ?_
    show Go _ _ _ _ (T4.setTop (mkF m 28 #[rv a1, iv key, iv line, iv (-4), .unset, .unset] [(.int 1), (.int 4)]))
    refine go_st (fun t k => XS.isub X4.here hx rfl (hb hby d5_28) rfl k) ?_
    rw [show ((4 : Int32) - (1 : Int32)) = (3 : Int32) from by decide]
    show Go _ _ _ _ (T4.setTop (mkF m 29 #[rv a1, iv key, iv line, iv (-4), .unset, .unset] [(.int 3)]))
    refine go_st (fun t k => XS.iconst X4.here hx rfl (hb hby d5_29) k) ?_
    show Go _ _ _ _ (T4.setTop (mkF m 30 #[rv a1, iv key, iv line, iv (-4), .unset, .unset] [(.int 1), (.int 3)]))
    refine go_st (fun t k => XS.isub X4.here hx rfl (hb hby d5_30) rfl k) ?_
    rw [show ((3 : Int32) - (1 : Int32)) = (2 : Int32) from by decide]
    show Go _ _ _ _ (T4.setTop (mkF m 31 #[rv a1, iv key, iv line, iv (-4), .unset, .unset] [(.int 2)]))
    refine go_st (fun t k => XS.istore X4.here hx rfl (hb hby d5_31) rfl (l' := #[rv a1, iv key, iv line, iv (-4), iv 2, .unset]) rfl k) ?_
    refine go_st (fun t k => XS.iloadN X4.here hx rfl (hb hby d5_33) rfl k) ?_
    refine go_st (fun t k => XS.istore X4.here hx rfl (hb hby d5_34) rfl (l' := #[rv a1, iv key, iv line, iv (-4), iv 2, iv line]) rfl k) ?_
    refine go_st (fun t k => XS.iload X4.here hx rfl (hb hby d5_36) rfl k) ?_
    refine go_st (fun t k => XS.aloadN X4.here hx rfl (hb hby d5_38) rfl rfl k) ?_
    show Go _ _ _ _ (T4.setTop (mkF m 39 #[rv a1, iv key, iv line, iv (-4), iv 2, iv line] [(.ref a1), (.int 2)]))
    obtain ⟨T17, X17, e17, st17⟩ := getF X4 hx hZ hown (host := "") (Or.inl (w31 hw)) Via.refl e4 H3 (g := (mkF m 39 #[rv a1, iv key, iv line, iv (-4), iv 2, iv line] [(.ref a1), (.int 2)])) rfl rfl (hb hby d5_39)
    refine go_st (fun t k => st17 t k) ?_
    show Go _ _ _ _ (T17.setTop (mkF m 42 #[rv a1, iv key, iv line, iv (-4), iv 2, iv line] [(.int 2), (.int 2)]))
    refine go_st (fun t k => XS.icmpNo X17.here hx rfl (hb hby d5_42) rfl (flt ((by decide) : ¬ ((2 : Int32) < (2 : Int32)))).1 k) ?_
    show Go _ _ _ _ (T17.setTop (mkF m 45 #[rv a1, iv key, iv line, iv (-4), iv 2, iv line] []))
    refine go_st (fun t k => XS.aloadN X17.here hx rfl (hb hby d5_45) rfl rfl k) ?_
    show Go _ _ _ _ (T17.setTop (mkF m 46 #[rv a1, iv key, iv line, iv (-4), iv 2, iv line] [(.ref a1)]))
    obtain ⟨T18, X18, e18, st18⟩ := getF X17 hx hZ hown (host := "") (Or.inl (w17 hw)) Via.refl e17 H2 (g := (mkF m 46 #[rv a1, iv key, iv line, iv (-4), iv 2, iv line] [(.ref a1)])) rfl rfl (hb hby d5_46)
    refine go_st (fun t k => st18 t k) ?_
    refine go_st (fun t k => XS.iload X18.here hx rfl (hb hby d5_49) rfl k) ?_
    show Go _ _ _ _ (T18.setTop (mkF m 51 #[rv a1, iv key, iv line, iv (-4), iv 2, iv line] [(.int 2), (.ref al)]))
    obtain ⟨zc19, zA19, zq19, zS19, zN19, zH19, zG19⟩ := id H6
    have hin19 : ¬ ((2 : Int32) < 0 ∨ zc19.slots.size ≤ ((2 : Int32)).toNatClampNeg) := inb_of zS19 ⟨by decide, by decide⟩
    have hat19 : zc19.slots[((2 : Int32)).toNatClampNeg]? = some (.int l2) := Has.at zH19 hin19 rfl
    refine go_st (fun t k => X18.iaload hx (j := (2 : Int32)) (v := (.int l2)) (by rw [e18]; exact zA19.1) (State.isArrayOf_alike hZ.alike zA19.2.1) zA19.2.2 hin19 hat19 (g := (mkF m 51 #[rv a1, iv key, iv line, iv (-4), iv 2, iv line] [(.int 2), (.ref al)])) rfl rfl (hb hby d5_51) t k) ?_
    refine go_st (fun t k => XS.istore X18.here hx rfl (hb hby d5_52) rfl (l' := #[rv a1, iv key, iv line, iv (-4), iv 2, iv l2]) rfl k) ?_
    refine go_st (fun t k => XS.aloadN X18.here hx rfl (hb hby d5_54) rfl rfl k) ?_
    refine go_st (fun t k => XS.iload X18.here hx rfl (hb hby d5_55) rfl k) ?_
    show Go _ _ _ _ (T18.setTop (mkF m 57 #[rv a1, iv key, iv line, iv (-4), iv 2, iv l2] [(.int 2), (.ref a1)]))
    obtain ⟨T20, h20, X20, e20, W20, st20⟩ := putF X18 hx hZ hown (host := "") (Or.inl (w31 hw)) Via.refl e18 H3 H0 (Or.inl (w32 hw)) (w6 hw) (ty := .int) (by decide) rfl rfl (g := (mkF m 57 #[rv a1, iv key, iv line, iv (-4), iv 2, iv l2] [(.int 2), (.ref a1)])) rfl rfl (hb hby d5_57)
    have N20 := Fr.snoc X20 N4 g_a1
    have f21 : Fld Z h20 a1 cBE "first" "I" (.int 2) := H3.same W20
    refine go_st (fun t k => st20 t k) ?_
    refine go_st (fun t k => XS.iload X20.here hx rfl (hb hby d5_60) rfl k) ?_
    show Go _ _ _ _ (T20.setTop (mkF m 62 #[rv a1, iv key, iv line, iv (-4), iv 2, iv l2] [(.int l2)]))
    have f22 : Exa Z h20 a1 cBE := (H0.wr W20)
    have f23 : Fld Z h20 a1 cBE "indexes" "[I" (.ref ax) := (H1.other W20 (Or.inr (slot_ne (Or.inl (w16 hw)) (Or.inl (w32 hw)) (by decide) (t := (.array .int)) (t' := .int) (by decide) (by decide))))
    have f24 : Fld Z h20 a1 cBE "lines" "[I" (.ref al) := (H2.other W20 (Or.inr (slot_ne (Or.inl (w18 hw)) (Or.inl (w32 hw)) (by decide) (t := (.array .int)) (t' := .int) (by decide) (by decide))))
    have f25 : Fld Z h20 a1 cBE "count" "I" (.int 3) := (H4.other W20 (Or.inr (slot_ne (Or.inl (w25 hw)) (Or.inl (w32 hw)) (by decide) (t := .int) (t' := .int) (by decide) (by decide))))
    have f26 : Arv Z h20 ax kx .int (64 : Int32) [(.int x0), (.int x1), (.int x2)] (.int (0 : Int32)) := (H5.other W20 (Ne.symm ne_a1_ax))
    have f27 : Arv Z h20 al kl .int (64 : Int32) [(.int l0), (.int l1), (.int l2)] (.int (0 : Int32)) := (H6.other W20 (Ne.symm ne_a1_al))
    have ke28 : Keep h0 h20 [a1] := (Keep.wr (Keep.refl h0 [a1]) W20 (Or.inl (List.mem_of_getElem? (i := 0) rfl)))
    obtain ⟨fs, hr, hrun, hended, hW, hsame⟩ := X20.leave (v := some (.int l2)) (fun h => by rw [Bd.returns] at h; cases h)
    refine ⟨_, _, ?_, hrun, hended, _, _, rfl, ?_, ⟨_, rfl⟩, hW, hsame.mono (by decide) (by decide)⟩
    · exact retI X20 hx Bd.returns (hb hby d5_62) hr
    · show Q_lb_233 _ _ _ _ _ _ _ _ _ _ _ _ _ _ _ _ _ T20.heap _
      rw [e20]
      exact ⟨rfl, N20, ke28, f22, f23, f24, f21, f25, f26, f27⟩
def Q_exp_00 (Z : State) (key : Int32) (x0 : Int32) (x1 : Int32) (x2 : Int32) (l0 : Int32) (l1 : Int32) (l2 : Int32) (line : Int32) (h0 : Heap) (n0 : Nat) (vR : Option Value) (h : Heap) (L : List Loc) : Prop := vR = some (.int line) ∧ Fr n0 L ∧ h = h0
theorem ef_exp_00 (m : MethodId) (x0 : Int32) (x1 : Int32) (x2 : Int32) (x3 : Int32) (x4 : Int32) (x5 : Int32) (x6 : Int32) (x7 : Int32) (x8 : Int32) : entryFrame m #[(.int x0), (.int x1), (.int x2), (.int x3), (.int x4), (.int x5), (.int x6), (.int x7), (.int x8)] 9 = mkF m 0 #[.val (.int x0), .val (.int x1), .val (.int x2), .val (.int x3), .val (.int x4), .val (.int x5), .val (.int x6), .val (.int x7), .val (.int x8)] [] := by first | (simp [entryFrame, mkF, argsToLocals, Value.category]; done) | rfl
set_option maxRecDepth 65536 in
set_option maxHeartbeats 40000000 in
theorem rm_exp_00 (l : Launch) (Z : State) (a0 : Array Value) (hw : ∀ d ∈ tables_1, d.before a0 Z = true) (ws : List Jvm.Cond) (key : Int32) (x0 : Int32) (x1 : Int32) (x2 : Int32) (l0 : Int32) (l1 : Int32) (l2 : Int32) (line : Int32) (h0 : Heap) (n0 : Nat) (Z0 : n0 ≤ h0.size)  :
    MetFree l (⟨"com/example/nudge/nudge/tree/BlockEntriesLineBeforePinLaw", "expected", "(IIIIIIIII)I"⟩ : MethodName) (head1 (Jvm.Cond.code (⟨"com/example/nudge/nudge/tree/BlockEntriesLineBeforePinLaw", "expected", "(IIIIIIIII)I"⟩ : MethodName) method_2_code 9 (some .int) :: ws) ({ frames := 0, cells := 0, slots := 0, locals := 0 } : Room)) (fun a U => a = #[(.int key), (.int 0), (.int x0), (.int x1), (.int x2), (.int l0), (.int l1), (.int l2), (.int line)] ∧ Z.Warmed39 U.vm ∧ U.heap = h0) (fun _ _ _ _ _ => True) (fun _ U o U' => ∃ v L, o = .returned v ∧ Q_exp_00 Z key x0 x1 x2 l0 l1 l2 line h0 n0 v U'.heap L ∧ FrameEnd U o U' L ({ frames := 0, cells := 0, slots := 0, locals := 0 } : Room).cells ({ frames := 0, cells := 0, slots := 0, locals := 0 } : Room).slots) := by
  refine MetFree.of_bodySF (plainFor_of_name pn_com_example_nudge_nudge_tree_BlockEntriesLineBeforePinLaw) hisR ?_
  intro p e s m args below meth c s₁ Bd hml0 hP hK
  obtain ⟨rfl, hZ, hh⟩ := hP
  have hx := Bd.exec
  have hby := Bd.bytes
  have hml : c.maxLocals = 9 := hml0
  have hown : s.vm.findClass "com/example/nudge/nudge/tree/BlockEntriesLineBeforePinLaw" = some m.cls := findClass_of_methodNamed Bd.named
  have hnm := (name_of_methodNamed Bd.named Bd.method).1
  have X0 : Stand p l e ({ frames := 0, cells := 0, slots := 0, locals := 0 } : Room) s m #[(.int key), (.int 0), (.int x0), (.int x1), (.int x2), (.int l0), (.int l1), (.int l2), (.int line)] below meth c s₁ [] 0 0 := Stand.of_body Bd
  have e0 : s₁.heap = h0 := by rw [← hh, Bd.state]; rfl
  have N0 := Fr.nil n0
  refine go_st (fun t k => castTop (ef_exp_00 m key (0 : Int32) x0 x1 x2 l0 l1 l2 line) k) ?_
  show Go _ _ _ _ (s₁.setTop (mkF m 0 #[iv key, iv 0, iv x0, iv x1, iv x2, iv l0, iv l1, iv l2, iv line] []))
  refine go_st (fun t k => XS.iloadN X0.here hx rfl (hb hby d6_0) rfl k) ?_
  refine go_st (fun t k => XS.iconst X0.here hx rfl (hb hby d6_1) k) ?_
  show Go _ _ _ _ (s₁.setTop (mkF m 2 #[iv key, iv 0, iv x0, iv x1, iv x2, iv l0, iv l1, iv l2, iv line] [(.int 3), (.int 0)]))
  refine go_st (fun t k => XS.icmpYes X0.here hx rfl (pc0 := 2) (pc' := 14) rfl (hb hby d6_2) rfl (tlt ((by decide) : (0 : Int32) < (3 : Int32))).1 (by decide) (by decide) k) ?_
  show Go _ _ _ _ (s₁.setTop (mkF m 14 #[iv key, iv 0, iv x0, iv x1, iv x2, iv l0, iv l1, iv l2, iv line] []))
  refine go_st (fun t k => XS.iloadN X0.here hx rfl (hb hby d6_14) rfl k) ?_
  refine go_st (fun t k => XS.iconst X0.here hx rfl (hb hby d6_15) k) ?_
  show Go _ _ _ _ (s₁.setTop (mkF m 16 #[iv key, iv 0, iv x0, iv x1, iv x2, iv l0, iv l1, iv l2, iv line] [(.int 2), (.int 0)]))
  refine go_st (fun t k => XS.icmpYes X0.here hx rfl (pc0 := 16) (pc' := 27) rfl (hb hby d6_16) rfl (tlt ((by decide) : (0 : Int32) < (2 : Int32))).1 (by decide) (by decide) k) ?_
  show Go _ _ _ _ (s₁.setTop (mkF m 27 #[iv key, iv 0, iv x0, iv x1, iv x2, iv l0, iv l1, iv l2, iv line] []))
  refine go_st (fun t k => XS.iloadN X0.here hx rfl (hb hby d6_27) rfl k) ?_
  refine go_st (fun t k => XS.iconst X0.here hx rfl (hb hby d6_28) k) ?_
  show Go _ _ _ _ (s₁.setTop (mkF m 29 #[iv key, iv 0, iv x0, iv x1, iv x2, iv l0, iv l1, iv l2, iv line] [(.int 1), (.int 0)]))
  refine go_st (fun t k => XS.icmpYes X0.here hx rfl (pc0 := 29) (pc' := 40) rfl (hb hby d6_29) rfl (tlt ((by decide) : (0 : Int32) < (1 : Int32))).1 (by decide) (by decide) k) ?_
  show Go _ _ _ _ (s₁.setTop (mkF m 40 #[iv key, iv 0, iv x0, iv x1, iv x2, iv l0, iv l1, iv l2, iv line] []))
  refine go_st (fun t k => XS.iload X0.here hx rfl (hb hby d6_40) rfl k) ?_
  show Go _ _ _ _ (s₁.setTop (mkF m 42 #[iv key, iv 0, iv x0, iv x1, iv x2, iv l0, iv l1, iv l2, iv line] [(.int line)]))
  obtain ⟨fs, hr, hrun, hended, hW, hsame⟩ := X0.leave (v := some (.int line)) (fun h => by rw [Bd.returns] at h; cases h)
  refine ⟨_, _, ?_, hrun, hended, _, _, rfl, ?_, ⟨_, rfl⟩, hW, hsame.mono (by decide) (by decide)⟩
  · exact retI X0 hx Bd.returns (hb hby d6_42) hr
  · show Q_exp_00 _ _ _ _ _ _ _ _ _ _ _ _ s₁.heap _
    rw [e0]
    exact ⟨rfl, N0, rfl⟩
def Q_exp_10 (Z : State) (key : Int32) (x0 : Int32) (x1 : Int32) (x2 : Int32) (l0 : Int32) (l1 : Int32) (l2 : Int32) (line : Int32) (h0 : Heap) (n0 : Nat) (vR : Option Value) (h : Heap) (L : List Loc) : Prop := vR = some (.int line) ∧ Fr n0 L ∧ h = h0
theorem ef_exp_10 (m : MethodId) (x0 : Int32) (x1 : Int32) (x2 : Int32) (x3 : Int32) (x4 : Int32) (x5 : Int32) (x6 : Int32) (x7 : Int32) (x8 : Int32) : entryFrame m #[(.int x0), (.int x1), (.int x2), (.int x3), (.int x4), (.int x5), (.int x6), (.int x7), (.int x8)] 9 = mkF m 0 #[.val (.int x0), .val (.int x1), .val (.int x2), .val (.int x3), .val (.int x4), .val (.int x5), .val (.int x6), .val (.int x7), .val (.int x8)] [] := by first | (simp [entryFrame, mkF, argsToLocals, Value.category]; done) | rfl
set_option maxRecDepth 65536 in
set_option maxHeartbeats 40000000 in
theorem rm_exp_10 (l : Launch) (Z : State) (a0 : Array Value) (hw : ∀ d ∈ tables_1, d.before a0 Z = true) (ws : List Jvm.Cond) (key : Int32) (x0 : Int32) (x1 : Int32) (x2 : Int32) (l0 : Int32) (l1 : Int32) (l2 : Int32) (line : Int32) (h0 : Heap) (n0 : Nat) (Z0 : n0 ≤ h0.size) (hn0 : ¬ (x0 < key)) :
    MetFree l (⟨"com/example/nudge/nudge/tree/BlockEntriesLineBeforePinLaw", "expected", "(IIIIIIIII)I"⟩ : MethodName) (head1 (Jvm.Cond.code (⟨"com/example/nudge/nudge/tree/BlockEntriesLineBeforePinLaw", "expected", "(IIIIIIIII)I"⟩ : MethodName) method_2_code 9 (some .int) :: ws) ({ frames := 0, cells := 0, slots := 0, locals := 0 } : Room)) (fun a U => a = #[(.int key), (.int 1), (.int x0), (.int x1), (.int x2), (.int l0), (.int l1), (.int l2), (.int line)] ∧ Z.Warmed39 U.vm ∧ U.heap = h0) (fun _ _ _ _ _ => True) (fun _ U o U' => ∃ v L, o = .returned v ∧ Q_exp_10 Z key x0 x1 x2 l0 l1 l2 line h0 n0 v U'.heap L ∧ FrameEnd U o U' L ({ frames := 0, cells := 0, slots := 0, locals := 0 } : Room).cells ({ frames := 0, cells := 0, slots := 0, locals := 0 } : Room).slots) := by
  refine MetFree.of_bodySF (plainFor_of_name pn_com_example_nudge_nudge_tree_BlockEntriesLineBeforePinLaw) hisR ?_
  intro p e s m args below meth c s₁ Bd hml0 hP hK
  obtain ⟨rfl, hZ, hh⟩ := hP
  have hx := Bd.exec
  have hby := Bd.bytes
  have hml : c.maxLocals = 9 := hml0
  have hown : s.vm.findClass "com/example/nudge/nudge/tree/BlockEntriesLineBeforePinLaw" = some m.cls := findClass_of_methodNamed Bd.named
  have hnm := (name_of_methodNamed Bd.named Bd.method).1
  have X0 : Stand p l e ({ frames := 0, cells := 0, slots := 0, locals := 0 } : Room) s m #[(.int key), (.int 1), (.int x0), (.int x1), (.int x2), (.int l0), (.int l1), (.int l2), (.int line)] below meth c s₁ [] 0 0 := Stand.of_body Bd
  have e0 : s₁.heap = h0 := by rw [← hh, Bd.state]; rfl
  have N0 := Fr.nil n0
  refine go_st (fun t k => castTop (ef_exp_10 m key (1 : Int32) x0 x1 x2 l0 l1 l2 line) k) ?_
  show Go _ _ _ _ (s₁.setTop (mkF m 0 #[iv key, iv 1, iv x0, iv x1, iv x2, iv l0, iv l1, iv l2, iv line] []))
  refine go_st (fun t k => XS.iloadN X0.here hx rfl (hb hby d6_0) rfl k) ?_
  refine go_st (fun t k => XS.iconst X0.here hx rfl (hb hby d6_1) k) ?_
  show Go _ _ _ _ (s₁.setTop (mkF m 2 #[iv key, iv 1, iv x0, iv x1, iv x2, iv l0, iv l1, iv l2, iv line] [(.int 3), (.int 1)]))
  refine go_st (fun t k => XS.icmpYes X0.here hx rfl (pc0 := 2) (pc' := 14) rfl (hb hby d6_2) rfl (tlt ((by decide) : (1 : Int32) < (3 : Int32))).1 (by decide) (by decide) k) ?_
  show Go _ _ _ _ (s₁.setTop (mkF m 14 #[iv key, iv 1, iv x0, iv x1, iv x2, iv l0, iv l1, iv l2, iv line] []))
  refine go_st (fun t k => XS.iloadN X0.here hx rfl (hb hby d6_14) rfl k) ?_
  refine go_st (fun t k => XS.iconst X0.here hx rfl (hb hby d6_15) k) ?_
  show Go _ _ _ _ (s₁.setTop (mkF m 16 #[iv key, iv 1, iv x0, iv x1, iv x2, iv l0, iv l1, iv l2, iv line] [(.int 2), (.int 1)]))
  refine go_st (fun t k => XS.icmpYes X0.here hx rfl (pc0 := 16) (pc' := 27) rfl (hb hby d6_16) rfl (tlt ((by decide) : (1 : Int32) < (2 : Int32))).1 (by decide) (by decide) k) ?_
  show Go _ _ _ _ (s₁.setTop (mkF m 27 #[iv key, iv 1, iv x0, iv x1, iv x2, iv l0, iv l1, iv l2, iv line] []))
  refine go_st (fun t k => XS.iloadN X0.here hx rfl (hb hby d6_27) rfl k) ?_
  refine go_st (fun t k => XS.iconst X0.here hx rfl (hb hby d6_28) k) ?_
  show Go _ _ _ _ (s₁.setTop (mkF m 29 #[iv key, iv 1, iv x0, iv x1, iv x2, iv l0, iv l1, iv l2, iv line] [(.int 1), (.int 1)]))
  refine go_st (fun t k => XS.icmpNo X0.here hx rfl (hb hby d6_29) rfl (flt ((by decide) : ¬ ((1 : Int32) < (1 : Int32)))).1 k) ?_
  show Go _ _ _ _ (s₁.setTop (mkF m 32 #[iv key, iv 1, iv x0, iv x1, iv x2, iv l0, iv l1, iv l2, iv line] []))
  refine go_st (fun t k => XS.iloadN X0.here hx rfl (hb hby d6_32) rfl k) ?_
  refine go_st (fun t k => XS.iloadN X0.here hx rfl (hb hby d6_33) rfl k) ?_
  show Go _ _ _ _ (s₁.setTop (mkF m 34 #[iv key, iv 1, iv x0, iv x1, iv x2, iv l0, iv l1, iv l2, iv line] [(.int key), (.int x0)]))
  refine go_st (fun t k => XS.icmpYes X0.here hx rfl (pc0 := 34) (pc' := 40) rfl (hb hby d6_34) rfl (flt (hn0 : ¬ (x0 < key))).2.1 (by decide) (by decide) k) ?_
  show Go _ _ _ _ (s₁.setTop (mkF m 40 #[iv key, iv 1, iv x0, iv x1, iv x2, iv l0, iv l1, iv l2, iv line] []))
  refine go_st (fun t k => XS.iload X0.here hx rfl (hb hby d6_40) rfl k) ?_
  show Go _ _ _ _ (s₁.setTop (mkF m 42 #[iv key, iv 1, iv x0, iv x1, iv x2, iv l0, iv l1, iv l2, iv line] [(.int line)]))
  obtain ⟨fs, hr, hrun, hended, hW, hsame⟩ := X0.leave (v := some (.int line)) (fun h => by rw [Bd.returns] at h; cases h)
  refine ⟨_, _, ?_, hrun, hended, _, _, rfl, ?_, ⟨_, rfl⟩, hW, hsame.mono (by decide) (by decide)⟩
  · exact retI X0 hx Bd.returns (hb hby d6_42) hr
  · show Q_exp_10 _ _ _ _ _ _ _ _ _ _ _ _ s₁.heap _
    rw [e0]
    exact ⟨rfl, N0, rfl⟩
def Q_exp_11 (Z : State) (key : Int32) (x0 : Int32) (x1 : Int32) (x2 : Int32) (l0 : Int32) (l1 : Int32) (l2 : Int32) (line : Int32) (h0 : Heap) (n0 : Nat) (vR : Option Value) (h : Heap) (L : List Loc) : Prop := vR = some (.int l0) ∧ Fr n0 L ∧ h = h0
theorem ef_exp_11 (m : MethodId) (x0 : Int32) (x1 : Int32) (x2 : Int32) (x3 : Int32) (x4 : Int32) (x5 : Int32) (x6 : Int32) (x7 : Int32) (x8 : Int32) : entryFrame m #[(.int x0), (.int x1), (.int x2), (.int x3), (.int x4), (.int x5), (.int x6), (.int x7), (.int x8)] 9 = mkF m 0 #[.val (.int x0), .val (.int x1), .val (.int x2), .val (.int x3), .val (.int x4), .val (.int x5), .val (.int x6), .val (.int x7), .val (.int x8)] [] := by first | (simp [entryFrame, mkF, argsToLocals, Value.category]; done) | rfl
set_option maxRecDepth 65536 in
set_option maxHeartbeats 40000000 in
theorem rm_exp_11 (l : Launch) (Z : State) (a0 : Array Value) (hw : ∀ d ∈ tables_1, d.before a0 Z = true) (ws : List Jvm.Cond) (key : Int32) (x0 : Int32) (x1 : Int32) (x2 : Int32) (l0 : Int32) (l1 : Int32) (l2 : Int32) (line : Int32) (h0 : Heap) (n0 : Nat) (Z0 : n0 ≤ h0.size) (hl : x0 < key) :
    MetFree l (⟨"com/example/nudge/nudge/tree/BlockEntriesLineBeforePinLaw", "expected", "(IIIIIIIII)I"⟩ : MethodName) (head1 (Jvm.Cond.code (⟨"com/example/nudge/nudge/tree/BlockEntriesLineBeforePinLaw", "expected", "(IIIIIIIII)I"⟩ : MethodName) method_2_code 9 (some .int) :: ws) ({ frames := 0, cells := 0, slots := 0, locals := 0 } : Room)) (fun a U => a = #[(.int key), (.int 1), (.int x0), (.int x1), (.int x2), (.int l0), (.int l1), (.int l2), (.int line)] ∧ Z.Warmed39 U.vm ∧ U.heap = h0) (fun _ _ _ _ _ => True) (fun _ U o U' => ∃ v L, o = .returned v ∧ Q_exp_11 Z key x0 x1 x2 l0 l1 l2 line h0 n0 v U'.heap L ∧ FrameEnd U o U' L ({ frames := 0, cells := 0, slots := 0, locals := 0 } : Room).cells ({ frames := 0, cells := 0, slots := 0, locals := 0 } : Room).slots) := by
  refine MetFree.of_bodySF (plainFor_of_name pn_com_example_nudge_nudge_tree_BlockEntriesLineBeforePinLaw) hisR ?_
  intro p e s m args below meth c s₁ Bd hml0 hP hK
  obtain ⟨rfl, hZ, hh⟩ := hP
  have hx := Bd.exec
  have hby := Bd.bytes
  have hml : c.maxLocals = 9 := hml0
  have hown : s.vm.findClass "com/example/nudge/nudge/tree/BlockEntriesLineBeforePinLaw" = some m.cls := findClass_of_methodNamed Bd.named
  have hnm := (name_of_methodNamed Bd.named Bd.method).1
  have X0 : Stand p l e ({ frames := 0, cells := 0, slots := 0, locals := 0 } : Room) s m #[(.int key), (.int 1), (.int x0), (.int x1), (.int x2), (.int l0), (.int l1), (.int l2), (.int line)] below meth c s₁ [] 0 0 := Stand.of_body Bd
  have e0 : s₁.heap = h0 := by rw [← hh, Bd.state]; rfl
  have N0 := Fr.nil n0
  refine go_st (fun t k => castTop (ef_exp_11 m key (1 : Int32) x0 x1 x2 l0 l1 l2 line) k) ?_
  show Go _ _ _ _ (s₁.setTop (mkF m 0 #[iv key, iv 1, iv x0, iv x1, iv x2, iv l0, iv l1, iv l2, iv line] []))
  refine go_st (fun t k => XS.iloadN X0.here hx rfl (hb hby d6_0) rfl k) ?_
  refine go_st (fun t k => XS.iconst X0.here hx rfl (hb hby d6_1) k) ?_
  show Go _ _ _ _ (s₁.setTop (mkF m 2 #[iv key, iv 1, iv x0, iv x1, iv x2, iv l0, iv l1, iv l2, iv line] [(.int 3), (.int 1)]))
  refine go_st (fun t k => XS.icmpYes X0.here hx rfl (pc0 := 2) (pc' := 14) rfl (hb hby d6_2) rfl (tlt ((by decide) : (1 : Int32) < (3 : Int32))).1 (by decide) (by decide) k) ?_
  show Go _ _ _ _ (s₁.setTop (mkF m 14 #[iv key, iv 1, iv x0, iv x1, iv x2, iv l0, iv l1, iv l2, iv line] []))
  refine go_st (fun t k => XS.iloadN X0.here hx rfl (hb hby d6_14) rfl k) ?_
  refine go_st (fun t k => XS.iconst X0.here hx rfl (hb hby d6_15) k) ?_
  show Go _ _ _ _ (s₁.setTop (mkF m 16 #[iv key, iv 1, iv x0, iv x1, iv x2, iv l0, iv l1, iv l2, iv line] [(.int 2), (.int 1)]))
  refine go_st (fun t k => XS.icmpYes X0.here hx rfl (pc0 := 16) (pc' := 27) rfl (hb hby d6_16) rfl (tlt ((by decide) : (1 : Int32) < (2 : Int32))).1 (by decide) (by decide) k) ?_
  show Go _ _ _ _ (s₁.setTop (mkF m 27 #[iv key, iv 1, iv x0, iv x1, iv x2, iv l0, iv l1, iv l2, iv line] []))
  refine go_st (fun t k => XS.iloadN X0.here hx rfl (hb hby d6_27) rfl k) ?_
  refine go_st (fun t k => XS.iconst X0.here hx rfl (hb hby d6_28) k) ?_
  show Go _ _ _ _ (s₁.setTop (mkF m 29 #[iv key, iv 1, iv x0, iv x1, iv x2, iv l0, iv l1, iv l2, iv line] [(.int 1), (.int 1)]))
  refine go_st (fun t k => XS.icmpNo X0.here hx rfl (hb hby d6_29) rfl (flt ((by decide) : ¬ ((1 : Int32) < (1 : Int32)))).1 k) ?_
  show Go _ _ _ _ (s₁.setTop (mkF m 32 #[iv key, iv 1, iv x0, iv x1, iv x2, iv l0, iv l1, iv l2, iv line] []))
  refine go_st (fun t k => XS.iloadN X0.here hx rfl (hb hby d6_32) rfl k) ?_
  refine go_st (fun t k => XS.iloadN X0.here hx rfl (hb hby d6_33) rfl k) ?_
  show Go _ _ _ _ (s₁.setTop (mkF m 34 #[iv key, iv 1, iv x0, iv x1, iv x2, iv l0, iv l1, iv l2, iv line] [(.int key), (.int x0)]))
  refine go_st (fun t k => XS.icmpNo X0.here hx rfl (hb hby d6_34) rfl (tlt (hl : x0 < key)).2.1 k) ?_
  show Go _ _ _ _ (s₁.setTop (mkF m 37 #[iv key, iv 1, iv x0, iv x1, iv x2, iv l0, iv l1, iv l2, iv line] []))
  refine go_st (fun t k => XS.iload X0.here hx rfl (hb hby d6_37) rfl k) ?_
  show Go _ _ _ _ (s₁.setTop (mkF m 39 #[iv key, iv 1, iv x0, iv x1, iv x2, iv l0, iv l1, iv l2, iv line] [(.int l0)]))
  obtain ⟨fs, hr, hrun, hended, hW, hsame⟩ := X0.leave (v := some (.int l0)) (fun h => by rw [Bd.returns] at h; cases h)
  refine ⟨_, _, ?_, hrun, hended, _, _, rfl, ?_, ⟨_, rfl⟩, hW, hsame.mono (by decide) (by decide)⟩
  · exact retI X0 hx Bd.returns (hb hby d6_39) hr
  · show Q_exp_11 _ _ _ _ _ _ _ _ _ _ _ _ s₁.heap _
    rw [e0]
    exact ⟨rfl, N0, rfl⟩
def Q_exp_20 (Z : State) (key : Int32) (x0 : Int32) (x1 : Int32) (x2 : Int32) (l0 : Int32) (l1 : Int32) (l2 : Int32) (line : Int32) (h0 : Heap) (n0 : Nat) (vR : Option Value) (h : Heap) (L : List Loc) : Prop := vR = some (.int line) ∧ Fr n0 L ∧ h = h0
theorem ef_exp_20 (m : MethodId) (x0 : Int32) (x1 : Int32) (x2 : Int32) (x3 : Int32) (x4 : Int32) (x5 : Int32) (x6 : Int32) (x7 : Int32) (x8 : Int32) : entryFrame m #[(.int x0), (.int x1), (.int x2), (.int x3), (.int x4), (.int x5), (.int x6), (.int x7), (.int x8)] 9 = mkF m 0 #[.val (.int x0), .val (.int x1), .val (.int x2), .val (.int x3), .val (.int x4), .val (.int x5), .val (.int x6), .val (.int x7), .val (.int x8)] [] := by first | (simp [entryFrame, mkF, argsToLocals, Value.category]; done) | rfl
set_option maxRecDepth 65536 in
set_option maxHeartbeats 40000000 in
theorem rm_exp_20 (l : Launch) (Z : State) (a0 : Array Value) (hw : ∀ d ∈ tables_1, d.before a0 Z = true) (ws : List Jvm.Cond) (key : Int32) (x0 : Int32) (x1 : Int32) (x2 : Int32) (l0 : Int32) (l1 : Int32) (l2 : Int32) (line : Int32) (h0 : Heap) (n0 : Nat) (Z0 : n0 ≤ h0.size) (hn0 : ¬ (x0 < key)) (hn1 : ¬ (x1 < key)) :
    MetFree l (⟨"com/example/nudge/nudge/tree/BlockEntriesLineBeforePinLaw", "expected", "(IIIIIIIII)I"⟩ : MethodName) (head1 (Jvm.Cond.code (⟨"com/example/nudge/nudge/tree/BlockEntriesLineBeforePinLaw", "expected", "(IIIIIIIII)I"⟩ : MethodName) method_2_code 9 (some .int) :: ws) ({ frames := 0, cells := 0, slots := 0, locals := 0 } : Room)) (fun a U => a = #[(.int key), (.int 2), (.int x0), (.int x1), (.int x2), (.int l0), (.int l1), (.int l2), (.int line)] ∧ Z.Warmed39 U.vm ∧ U.heap = h0) (fun _ _ _ _ _ => True) (fun _ U o U' => ∃ v L, o = .returned v ∧ Q_exp_20 Z key x0 x1 x2 l0 l1 l2 line h0 n0 v U'.heap L ∧ FrameEnd U o U' L ({ frames := 0, cells := 0, slots := 0, locals := 0 } : Room).cells ({ frames := 0, cells := 0, slots := 0, locals := 0 } : Room).slots) := by
  refine MetFree.of_bodySF (plainFor_of_name pn_com_example_nudge_nudge_tree_BlockEntriesLineBeforePinLaw) hisR ?_
  intro p e s m args below meth c s₁ Bd hml0 hP hK
  obtain ⟨rfl, hZ, hh⟩ := hP
  have hx := Bd.exec
  have hby := Bd.bytes
  have hml : c.maxLocals = 9 := hml0
  have hown : s.vm.findClass "com/example/nudge/nudge/tree/BlockEntriesLineBeforePinLaw" = some m.cls := findClass_of_methodNamed Bd.named
  have hnm := (name_of_methodNamed Bd.named Bd.method).1
  have X0 : Stand p l e ({ frames := 0, cells := 0, slots := 0, locals := 0 } : Room) s m #[(.int key), (.int 2), (.int x0), (.int x1), (.int x2), (.int l0), (.int l1), (.int l2), (.int line)] below meth c s₁ [] 0 0 := Stand.of_body Bd
  have e0 : s₁.heap = h0 := by rw [← hh, Bd.state]; rfl
  have N0 := Fr.nil n0
  refine go_st (fun t k => castTop (ef_exp_20 m key (2 : Int32) x0 x1 x2 l0 l1 l2 line) k) ?_
  show Go _ _ _ _ (s₁.setTop (mkF m 0 #[iv key, iv 2, iv x0, iv x1, iv x2, iv l0, iv l1, iv l2, iv line] []))
  refine go_st (fun t k => XS.iloadN X0.here hx rfl (hb hby d6_0) rfl k) ?_
  refine go_st (fun t k => XS.iconst X0.here hx rfl (hb hby d6_1) k) ?_
  show Go _ _ _ _ (s₁.setTop (mkF m 2 #[iv key, iv 2, iv x0, iv x1, iv x2, iv l0, iv l1, iv l2, iv line] [(.int 3), (.int 2)]))
  refine go_st (fun t k => XS.icmpYes X0.here hx rfl (pc0 := 2) (pc' := 14) rfl (hb hby d6_2) rfl (tlt ((by decide) : (2 : Int32) < (3 : Int32))).1 (by decide) (by decide) k) ?_
  show Go _ _ _ _ (s₁.setTop (mkF m 14 #[iv key, iv 2, iv x0, iv x1, iv x2, iv l0, iv l1, iv l2, iv line] []))
  refine go_st (fun t k => XS.iloadN X0.here hx rfl (hb hby d6_14) rfl k) ?_
  refine go_st (fun t k => XS.iconst X0.here hx rfl (hb hby d6_15) k) ?_
  show Go _ _ _ _ (s₁.setTop (mkF m 16 #[iv key, iv 2, iv x0, iv x1, iv x2, iv l0, iv l1, iv l2, iv line] [(.int 2), (.int 2)]))
  refine go_st (fun t k => XS.icmpNo X0.here hx rfl (hb hby d6_16) rfl (flt ((by decide) : ¬ ((2 : Int32) < (2 : Int32)))).1 k) ?_
  show Go _ _ _ _ (s₁.setTop (mkF m 19 #[iv key, iv 2, iv x0, iv x1, iv x2, iv l0, iv l1, iv l2, iv line] []))
  refine go_st (fun t k => XS.iloadN X0.here hx rfl (hb hby d6_19) rfl k) ?_
  refine go_st (fun t k => XS.iloadN X0.here hx rfl (hb hby d6_20) rfl k) ?_
  show Go _ _ _ _ (s₁.setTop (mkF m 21 #[iv key, iv 2, iv x0, iv x1, iv x2, iv l0, iv l1, iv l2, iv line] [(.int key), (.int x1)]))
  refine go_st (fun t k => XS.icmpYes X0.here hx rfl (pc0 := 21) (pc' := 27) rfl (hb hby d6_21) rfl (flt (hn1 : ¬ (x1 < key))).2.1 (by decide) (by decide) k) ?_
  show Go _ _ _ _ (s₁.setTop (mkF m 27 #[iv key, iv 2, iv x0, iv x1, iv x2, iv l0, iv l1, iv l2, iv line] []))
  refine go_st (fun t k => XS.iloadN X0.here hx rfl (hb hby d6_27) rfl k) ?_
  refine go_st (fun t k => XS.iconst X0.here hx rfl (hb hby d6_28) k) ?_
  show Go _ _ _ _ (s₁.setTop (mkF m 29 #[iv key, iv 2, iv x0, iv x1, iv x2, iv l0, iv l1, iv l2, iv line] [(.int 1), (.int 2)]))
  refine go_st (fun t k => XS.icmpNo X0.here hx rfl (hb hby d6_29) rfl (flt ((by decide) : ¬ ((2 : Int32) < (1 : Int32)))).1 k) ?_
  show Go _ _ _ _ (s₁.setTop (mkF m 32 #[iv key, iv 2, iv x0, iv x1, iv x2, iv l0, iv l1, iv l2, iv line] []))
  refine go_st (fun t k => XS.iloadN X0.here hx rfl (hb hby d6_32) rfl k) ?_
  refine go_st (fun t k => XS.iloadN X0.here hx rfl (hb hby d6_33) rfl k) ?_
  show Go _ _ _ _ (s₁.setTop (mkF m 34 #[iv key, iv 2, iv x0, iv x1, iv x2, iv l0, iv l1, iv l2, iv line] [(.int key), (.int x0)]))
  refine go_st (fun t k => XS.icmpYes X0.here hx rfl (pc0 := 34) (pc' := 40) rfl (hb hby d6_34) rfl (flt (hn0 : ¬ (x0 < key))).2.1 (by decide) (by decide) k) ?_
  show Go _ _ _ _ (s₁.setTop (mkF m 40 #[iv key, iv 2, iv x0, iv x1, iv x2, iv l0, iv l1, iv l2, iv line] []))
  refine go_st (fun t k => XS.iload X0.here hx rfl (hb hby d6_40) rfl k) ?_
  show Go _ _ _ _ (s₁.setTop (mkF m 42 #[iv key, iv 2, iv x0, iv x1, iv x2, iv l0, iv l1, iv l2, iv line] [(.int line)]))
  obtain ⟨fs, hr, hrun, hended, hW, hsame⟩ := X0.leave (v := some (.int line)) (fun h => by rw [Bd.returns] at h; cases h)
  refine ⟨_, _, ?_, hrun, hended, _, _, rfl, ?_, ⟨_, rfl⟩, hW, hsame.mono (by decide) (by decide)⟩
  · exact retI X0 hx Bd.returns (hb hby d6_42) hr
  · show Q_exp_20 _ _ _ _ _ _ _ _ _ _ _ _ s₁.heap _
    rw [e0]
    exact ⟨rfl, N0, rfl⟩
def Q_exp_21 (Z : State) (key : Int32) (x0 : Int32) (x1 : Int32) (x2 : Int32) (l0 : Int32) (l1 : Int32) (l2 : Int32) (line : Int32) (h0 : Heap) (n0 : Nat) (vR : Option Value) (h : Heap) (L : List Loc) : Prop := vR = some (.int l0) ∧ Fr n0 L ∧ h = h0
theorem ef_exp_21 (m : MethodId) (x0 : Int32) (x1 : Int32) (x2 : Int32) (x3 : Int32) (x4 : Int32) (x5 : Int32) (x6 : Int32) (x7 : Int32) (x8 : Int32) : entryFrame m #[(.int x0), (.int x1), (.int x2), (.int x3), (.int x4), (.int x5), (.int x6), (.int x7), (.int x8)] 9 = mkF m 0 #[.val (.int x0), .val (.int x1), .val (.int x2), .val (.int x3), .val (.int x4), .val (.int x5), .val (.int x6), .val (.int x7), .val (.int x8)] [] := by first | (simp [entryFrame, mkF, argsToLocals, Value.category]; done) | rfl
set_option maxRecDepth 65536 in
set_option maxHeartbeats 40000000 in
theorem rm_exp_21 (l : Launch) (Z : State) (a0 : Array Value) (hw : ∀ d ∈ tables_1, d.before a0 Z = true) (ws : List Jvm.Cond) (key : Int32) (x0 : Int32) (x1 : Int32) (x2 : Int32) (l0 : Int32) (l1 : Int32) (l2 : Int32) (line : Int32) (h0 : Heap) (n0 : Nat) (Z0 : n0 ≤ h0.size) (hl : x0 < key) (hn1 : ¬ (x1 < key)) :
    MetFree l (⟨"com/example/nudge/nudge/tree/BlockEntriesLineBeforePinLaw", "expected", "(IIIIIIIII)I"⟩ : MethodName) (head1 (Jvm.Cond.code (⟨"com/example/nudge/nudge/tree/BlockEntriesLineBeforePinLaw", "expected", "(IIIIIIIII)I"⟩ : MethodName) method_2_code 9 (some .int) :: ws) ({ frames := 0, cells := 0, slots := 0, locals := 0 } : Room)) (fun a U => a = #[(.int key), (.int 2), (.int x0), (.int x1), (.int x2), (.int l0), (.int l1), (.int l2), (.int line)] ∧ Z.Warmed39 U.vm ∧ U.heap = h0) (fun _ _ _ _ _ => True) (fun _ U o U' => ∃ v L, o = .returned v ∧ Q_exp_21 Z key x0 x1 x2 l0 l1 l2 line h0 n0 v U'.heap L ∧ FrameEnd U o U' L ({ frames := 0, cells := 0, slots := 0, locals := 0 } : Room).cells ({ frames := 0, cells := 0, slots := 0, locals := 0 } : Room).slots) := by
  refine MetFree.of_bodySF (plainFor_of_name pn_com_example_nudge_nudge_tree_BlockEntriesLineBeforePinLaw) hisR ?_
  intro p e s m args below meth c s₁ Bd hml0 hP hK
  obtain ⟨rfl, hZ, hh⟩ := hP
  have hx := Bd.exec
  have hby := Bd.bytes
  have hml : c.maxLocals = 9 := hml0
  have hown : s.vm.findClass "com/example/nudge/nudge/tree/BlockEntriesLineBeforePinLaw" = some m.cls := findClass_of_methodNamed Bd.named
  have hnm := (name_of_methodNamed Bd.named Bd.method).1
  have X0 : Stand p l e ({ frames := 0, cells := 0, slots := 0, locals := 0 } : Room) s m #[(.int key), (.int 2), (.int x0), (.int x1), (.int x2), (.int l0), (.int l1), (.int l2), (.int line)] below meth c s₁ [] 0 0 := Stand.of_body Bd
  have e0 : s₁.heap = h0 := by rw [← hh, Bd.state]; rfl
  have N0 := Fr.nil n0
  refine go_st (fun t k => castTop (ef_exp_21 m key (2 : Int32) x0 x1 x2 l0 l1 l2 line) k) ?_
  show Go _ _ _ _ (s₁.setTop (mkF m 0 #[iv key, iv 2, iv x0, iv x1, iv x2, iv l0, iv l1, iv l2, iv line] []))
  refine go_st (fun t k => XS.iloadN X0.here hx rfl (hb hby d6_0) rfl k) ?_
  refine go_st (fun t k => XS.iconst X0.here hx rfl (hb hby d6_1) k) ?_
  show Go _ _ _ _ (s₁.setTop (mkF m 2 #[iv key, iv 2, iv x0, iv x1, iv x2, iv l0, iv l1, iv l2, iv line] [(.int 3), (.int 2)]))
  refine go_st (fun t k => XS.icmpYes X0.here hx rfl (pc0 := 2) (pc' := 14) rfl (hb hby d6_2) rfl (tlt ((by decide) : (2 : Int32) < (3 : Int32))).1 (by decide) (by decide) k) ?_
  show Go _ _ _ _ (s₁.setTop (mkF m 14 #[iv key, iv 2, iv x0, iv x1, iv x2, iv l0, iv l1, iv l2, iv line] []))
  refine go_st (fun t k => XS.iloadN X0.here hx rfl (hb hby d6_14) rfl k) ?_
  refine go_st (fun t k => XS.iconst X0.here hx rfl (hb hby d6_15) k) ?_
  show Go _ _ _ _ (s₁.setTop (mkF m 16 #[iv key, iv 2, iv x0, iv x1, iv x2, iv l0, iv l1, iv l2, iv line] [(.int 2), (.int 2)]))
  refine go_st (fun t k => XS.icmpNo X0.here hx rfl (hb hby d6_16) rfl (flt ((by decide) : ¬ ((2 : Int32) < (2 : Int32)))).1 k) ?_
  show Go _ _ _ _ (s₁.setTop (mkF m 19 #[iv key, iv 2, iv x0, iv x1, iv x2, iv l0, iv l1, iv l2, iv line] []))
  refine go_st (fun t k => XS.iloadN X0.here hx rfl (hb hby d6_19) rfl k) ?_
  refine go_st (fun t k => XS.iloadN X0.here hx rfl (hb hby d6_20) rfl k) ?_
  show Go _ _ _ _ (s₁.setTop (mkF m 21 #[iv key, iv 2, iv x0, iv x1, iv x2, iv l0, iv l1, iv l2, iv line] [(.int key), (.int x1)]))
  refine go_st (fun t k => XS.icmpYes X0.here hx rfl (pc0 := 21) (pc' := 27) rfl (hb hby d6_21) rfl (flt (hn1 : ¬ (x1 < key))).2.1 (by decide) (by decide) k) ?_
  show Go _ _ _ _ (s₁.setTop (mkF m 27 #[iv key, iv 2, iv x0, iv x1, iv x2, iv l0, iv l1, iv l2, iv line] []))
  refine go_st (fun t k => XS.iloadN X0.here hx rfl (hb hby d6_27) rfl k) ?_
  refine go_st (fun t k => XS.iconst X0.here hx rfl (hb hby d6_28) k) ?_
  show Go _ _ _ _ (s₁.setTop (mkF m 29 #[iv key, iv 2, iv x0, iv x1, iv x2, iv l0, iv l1, iv l2, iv line] [(.int 1), (.int 2)]))
  refine go_st (fun t k => XS.icmpNo X0.here hx rfl (hb hby d6_29) rfl (flt ((by decide) : ¬ ((2 : Int32) < (1 : Int32)))).1 k) ?_
  show Go _ _ _ _ (s₁.setTop (mkF m 32 #[iv key, iv 2, iv x0, iv x1, iv x2, iv l0, iv l1, iv l2, iv line] []))
  refine go_st (fun t k => XS.iloadN X0.here hx rfl (hb hby d6_32) rfl k) ?_
  refine go_st (fun t k => XS.iloadN X0.here hx rfl (hb hby d6_33) rfl k) ?_
  show Go _ _ _ _ (s₁.setTop (mkF m 34 #[iv key, iv 2, iv x0, iv x1, iv x2, iv l0, iv l1, iv l2, iv line] [(.int key), (.int x0)]))
  refine go_st (fun t k => XS.icmpNo X0.here hx rfl (hb hby d6_34) rfl (tlt (hl : x0 < key)).2.1 k) ?_
  show Go _ _ _ _ (s₁.setTop (mkF m 37 #[iv key, iv 2, iv x0, iv x1, iv x2, iv l0, iv l1, iv l2, iv line] []))
  refine go_st (fun t k => XS.iload X0.here hx rfl (hb hby d6_37) rfl k) ?_
  show Go _ _ _ _ (s₁.setTop (mkF m 39 #[iv key, iv 2, iv x0, iv x1, iv x2, iv l0, iv l1, iv l2, iv line] [(.int l0)]))
  obtain ⟨fs, hr, hrun, hended, hW, hsame⟩ := X0.leave (v := some (.int l0)) (fun h => by rw [Bd.returns] at h; cases h)
  refine ⟨_, _, ?_, hrun, hended, _, _, rfl, ?_, ⟨_, rfl⟩, hW, hsame.mono (by decide) (by decide)⟩
  · exact retI X0 hx Bd.returns (hb hby d6_39) hr
  · show Q_exp_21 _ _ _ _ _ _ _ _ _ _ _ _ s₁.heap _
    rw [e0]
    exact ⟨rfl, N0, rfl⟩
def Q_exp_22 (Z : State) (key : Int32) (x0 : Int32) (x1 : Int32) (x2 : Int32) (l0 : Int32) (l1 : Int32) (l2 : Int32) (line : Int32) (h0 : Heap) (n0 : Nat) (vR : Option Value) (h : Heap) (L : List Loc) : Prop := vR = some (.int l1) ∧ Fr n0 L ∧ h = h0
theorem ef_exp_22 (m : MethodId) (x0 : Int32) (x1 : Int32) (x2 : Int32) (x3 : Int32) (x4 : Int32) (x5 : Int32) (x6 : Int32) (x7 : Int32) (x8 : Int32) : entryFrame m #[(.int x0), (.int x1), (.int x2), (.int x3), (.int x4), (.int x5), (.int x6), (.int x7), (.int x8)] 9 = mkF m 0 #[.val (.int x0), .val (.int x1), .val (.int x2), .val (.int x3), .val (.int x4), .val (.int x5), .val (.int x6), .val (.int x7), .val (.int x8)] [] := by first | (simp [entryFrame, mkF, argsToLocals, Value.category]; done) | rfl
set_option maxRecDepth 65536 in
set_option maxHeartbeats 40000000 in
theorem rm_exp_22 (l : Launch) (Z : State) (a0 : Array Value) (hw : ∀ d ∈ tables_1, d.before a0 Z = true) (ws : List Jvm.Cond) (key : Int32) (x0 : Int32) (x1 : Int32) (x2 : Int32) (l0 : Int32) (l1 : Int32) (l2 : Int32) (line : Int32) (h0 : Heap) (n0 : Nat) (Z0 : n0 ≤ h0.size) (hl : x1 < key) :
    MetFree l (⟨"com/example/nudge/nudge/tree/BlockEntriesLineBeforePinLaw", "expected", "(IIIIIIIII)I"⟩ : MethodName) (head1 (Jvm.Cond.code (⟨"com/example/nudge/nudge/tree/BlockEntriesLineBeforePinLaw", "expected", "(IIIIIIIII)I"⟩ : MethodName) method_2_code 9 (some .int) :: ws) ({ frames := 0, cells := 0, slots := 0, locals := 0 } : Room)) (fun a U => a = #[(.int key), (.int 2), (.int x0), (.int x1), (.int x2), (.int l0), (.int l1), (.int l2), (.int line)] ∧ Z.Warmed39 U.vm ∧ U.heap = h0) (fun _ _ _ _ _ => True) (fun _ U o U' => ∃ v L, o = .returned v ∧ Q_exp_22 Z key x0 x1 x2 l0 l1 l2 line h0 n0 v U'.heap L ∧ FrameEnd U o U' L ({ frames := 0, cells := 0, slots := 0, locals := 0 } : Room).cells ({ frames := 0, cells := 0, slots := 0, locals := 0 } : Room).slots) := by
  refine MetFree.of_bodySF (plainFor_of_name pn_com_example_nudge_nudge_tree_BlockEntriesLineBeforePinLaw) hisR ?_
  intro p e s m args below meth c s₁ Bd hml0 hP hK
  obtain ⟨rfl, hZ, hh⟩ := hP
  have hx := Bd.exec
  have hby := Bd.bytes
  have hml : c.maxLocals = 9 := hml0
  have hown : s.vm.findClass "com/example/nudge/nudge/tree/BlockEntriesLineBeforePinLaw" = some m.cls := findClass_of_methodNamed Bd.named
  have hnm := (name_of_methodNamed Bd.named Bd.method).1
  have X0 : Stand p l e ({ frames := 0, cells := 0, slots := 0, locals := 0 } : Room) s m #[(.int key), (.int 2), (.int x0), (.int x1), (.int x2), (.int l0), (.int l1), (.int l2), (.int line)] below meth c s₁ [] 0 0 := Stand.of_body Bd
  have e0 : s₁.heap = h0 := by rw [← hh, Bd.state]; rfl
  have N0 := Fr.nil n0
  refine go_st (fun t k => castTop (ef_exp_22 m key (2 : Int32) x0 x1 x2 l0 l1 l2 line) k) ?_
  show Go _ _ _ _ (s₁.setTop (mkF m 0 #[iv key, iv 2, iv x0, iv x1, iv x2, iv l0, iv l1, iv l2, iv line] []))
  refine go_st (fun t k => XS.iloadN X0.here hx rfl (hb hby d6_0) rfl k) ?_
  refine go_st (fun t k => XS.iconst X0.here hx rfl (hb hby d6_1) k) ?_
  show Go _ _ _ _ (s₁.setTop (mkF m 2 #[iv key, iv 2, iv x0, iv x1, iv x2, iv l0, iv l1, iv l2, iv line] [(.int 3), (.int 2)]))
  refine go_st (fun t k => XS.icmpYes X0.here hx rfl (pc0 := 2) (pc' := 14) rfl (hb hby d6_2) rfl (tlt ((by decide) : (2 : Int32) < (3 : Int32))).1 (by decide) (by decide) k) ?_
  show Go _ _ _ _ (s₁.setTop (mkF m 14 #[iv key, iv 2, iv x0, iv x1, iv x2, iv l0, iv l1, iv l2, iv line] []))
  refine go_st (fun t k => XS.iloadN X0.here hx rfl (hb hby d6_14) rfl k) ?_
  refine go_st (fun t k => XS.iconst X0.here hx rfl (hb hby d6_15) k) ?_
  show Go _ _ _ _ (s₁.setTop (mkF m 16 #[iv key, iv 2, iv x0, iv x1, iv x2, iv l0, iv l1, iv l2, iv line] [(.int 2), (.int 2)]))
  refine go_st (fun t k => XS.icmpNo X0.here hx rfl (hb hby d6_16) rfl (flt ((by decide) : ¬ ((2 : Int32) < (2 : Int32)))).1 k) ?_
  show Go _ _ _ _ (s₁.setTop (mkF m 19 #[iv key, iv 2, iv x0, iv x1, iv x2, iv l0, iv l1, iv l2, iv line] []))
  refine go_st (fun t k => XS.iloadN X0.here hx rfl (hb hby d6_19) rfl k) ?_
  refine go_st (fun t k => XS.iloadN X0.here hx rfl (hb hby d6_20) rfl k) ?_
  show Go _ _ _ _ (s₁.setTop (mkF m 21 #[iv key, iv 2, iv x0, iv x1, iv x2, iv l0, iv l1, iv l2, iv line] [(.int key), (.int x1)]))
  refine go_st (fun t k => XS.icmpNo X0.here hx rfl (hb hby d6_21) rfl (tlt (hl : x1 < key)).2.1 k) ?_
  show Go _ _ _ _ (s₁.setTop (mkF m 24 #[iv key, iv 2, iv x0, iv x1, iv x2, iv l0, iv l1, iv l2, iv line] []))
  refine go_st (fun t k => XS.iload X0.here hx rfl (hb hby d6_24) rfl k) ?_
  show Go _ _ _ _ (s₁.setTop (mkF m 26 #[iv key, iv 2, iv x0, iv x1, iv x2, iv l0, iv l1, iv l2, iv line] [(.int l1)]))
  obtain ⟨fs, hr, hrun, hended, hW, hsame⟩ := X0.leave (v := some (.int l1)) (fun h => by rw [Bd.returns] at h; cases h)
  refine ⟨_, _, ?_, hrun, hended, _, _, rfl, ?_, ⟨_, rfl⟩, hW, hsame.mono (by decide) (by decide)⟩
  · exact retI X0 hx Bd.returns (hb hby d6_26) hr
  · show Q_exp_22 _ _ _ _ _ _ _ _ _ _ _ _ s₁.heap _
    rw [e0]
    exact ⟨rfl, N0, rfl⟩
def Q_exp_30 (Z : State) (key : Int32) (x0 : Int32) (x1 : Int32) (x2 : Int32) (l0 : Int32) (l1 : Int32) (l2 : Int32) (line : Int32) (h0 : Heap) (n0 : Nat) (vR : Option Value) (h : Heap) (L : List Loc) : Prop := vR = some (.int line) ∧ Fr n0 L ∧ h = h0
theorem ef_exp_30 (m : MethodId) (x0 : Int32) (x1 : Int32) (x2 : Int32) (x3 : Int32) (x4 : Int32) (x5 : Int32) (x6 : Int32) (x7 : Int32) (x8 : Int32) : entryFrame m #[(.int x0), (.int x1), (.int x2), (.int x3), (.int x4), (.int x5), (.int x6), (.int x7), (.int x8)] 9 = mkF m 0 #[.val (.int x0), .val (.int x1), .val (.int x2), .val (.int x3), .val (.int x4), .val (.int x5), .val (.int x6), .val (.int x7), .val (.int x8)] [] := by first | (simp [entryFrame, mkF, argsToLocals, Value.category]; done) | rfl
set_option maxRecDepth 65536 in
set_option maxHeartbeats 40000000 in
theorem rm_exp_30 (l : Launch) (Z : State) (a0 : Array Value) (hw : ∀ d ∈ tables_1, d.before a0 Z = true) (ws : List Jvm.Cond) (key : Int32) (x0 : Int32) (x1 : Int32) (x2 : Int32) (l0 : Int32) (l1 : Int32) (l2 : Int32) (line : Int32) (h0 : Heap) (n0 : Nat) (Z0 : n0 ≤ h0.size) (hn0 : ¬ (x0 < key)) (hn1 : ¬ (x1 < key)) (hn2 : ¬ (x2 < key)) :
    MetFree l (⟨"com/example/nudge/nudge/tree/BlockEntriesLineBeforePinLaw", "expected", "(IIIIIIIII)I"⟩ : MethodName) (head1 (Jvm.Cond.code (⟨"com/example/nudge/nudge/tree/BlockEntriesLineBeforePinLaw", "expected", "(IIIIIIIII)I"⟩ : MethodName) method_2_code 9 (some .int) :: ws) ({ frames := 0, cells := 0, slots := 0, locals := 0 } : Room)) (fun a U => a = #[(.int key), (.int 3), (.int x0), (.int x1), (.int x2), (.int l0), (.int l1), (.int l2), (.int line)] ∧ Z.Warmed39 U.vm ∧ U.heap = h0) (fun _ _ _ _ _ => True) (fun _ U o U' => ∃ v L, o = .returned v ∧ Q_exp_30 Z key x0 x1 x2 l0 l1 l2 line h0 n0 v U'.heap L ∧ FrameEnd U o U' L ({ frames := 0, cells := 0, slots := 0, locals := 0 } : Room).cells ({ frames := 0, cells := 0, slots := 0, locals := 0 } : Room).slots) := by
  refine MetFree.of_bodySF (plainFor_of_name pn_com_example_nudge_nudge_tree_BlockEntriesLineBeforePinLaw) hisR ?_
  intro p e s m args below meth c s₁ Bd hml0 hP hK
  obtain ⟨rfl, hZ, hh⟩ := hP
  have hx := Bd.exec
  have hby := Bd.bytes
  have hml : c.maxLocals = 9 := hml0
  have hown : s.vm.findClass "com/example/nudge/nudge/tree/BlockEntriesLineBeforePinLaw" = some m.cls := findClass_of_methodNamed Bd.named
  have hnm := (name_of_methodNamed Bd.named Bd.method).1
  have X0 : Stand p l e ({ frames := 0, cells := 0, slots := 0, locals := 0 } : Room) s m #[(.int key), (.int 3), (.int x0), (.int x1), (.int x2), (.int l0), (.int l1), (.int l2), (.int line)] below meth c s₁ [] 0 0 := Stand.of_body Bd
  have e0 : s₁.heap = h0 := by rw [← hh, Bd.state]; rfl
  have N0 := Fr.nil n0
  refine go_st (fun t k => castTop (ef_exp_30 m key (3 : Int32) x0 x1 x2 l0 l1 l2 line) k) ?_
  show Go _ _ _ _ (s₁.setTop (mkF m 0 #[iv key, iv 3, iv x0, iv x1, iv x2, iv l0, iv l1, iv l2, iv line] []))
  refine go_st (fun t k => XS.iloadN X0.here hx rfl (hb hby d6_0) rfl k) ?_
  refine go_st (fun t k => XS.iconst X0.here hx rfl (hb hby d6_1) k) ?_
  show Go _ _ _ _ (s₁.setTop (mkF m 2 #[iv key, iv 3, iv x0, iv x1, iv x2, iv l0, iv l1, iv l2, iv line] [(.int 3), (.int 3)]))
  refine go_st (fun t k => XS.icmpNo X0.here hx rfl (hb hby d6_2) rfl (flt ((by decide) : ¬ ((3 : Int32) < (3 : Int32)))).1 k) ?_
  show Go _ _ _ _ (s₁.setTop (mkF m 5 #[iv key, iv 3, iv x0, iv x1, iv x2, iv l0, iv l1, iv l2, iv line] []))
  refine go_st (fun t k => XS.iload X0.here hx rfl (hb hby d6_5) rfl k) ?_
  refine go_st (fun t k => XS.iloadN X0.here hx rfl (hb hby d6_7) rfl k) ?_
  show Go _ _ _ _ (s₁.setTop (mkF m 8 #[iv key, iv 3, iv x0, iv x1, iv x2, iv l0, iv l1, iv l2, iv line] [(.int key), (.int x2)]))
  refine go_st (fun t k => XS.icmpYes X0.here hx rfl (pc0 := 8) (pc' := 14) rfl (hb hby d6_8) rfl (flt (hn2 : ¬ (x2 < key))).2.1 (by decide) (by decide) k) ?_
  show Go _ _ _ _ (s₁.setTop (mkF m 14 #[iv key, iv 3, iv x0, iv x1, iv x2, iv l0, iv l1, iv l2, iv line] []))
  refine go_st (fun t k => XS.iloadN X0.here hx rfl (hb hby d6_14) rfl k) ?_
  refine go_st (fun t k => XS.iconst X0.here hx rfl (hb hby d6_15) k) ?_
  show Go _ _ _ _ (s₁.setTop (mkF m 16 #[iv key, iv 3, iv x0, iv x1, iv x2, iv l0, iv l1, iv l2, iv line] [(.int 2), (.int 3)]))
  refine go_st (fun t k => XS.icmpNo X0.here hx rfl (hb hby d6_16) rfl (flt ((by decide) : ¬ ((3 : Int32) < (2 : Int32)))).1 k) ?_
  show Go _ _ _ _ (s₁.setTop (mkF m 19 #[iv key, iv 3, iv x0, iv x1, iv x2, iv l0, iv l1, iv l2, iv line] []))
  refine go_st (fun t k => XS.iloadN X0.here hx rfl (hb hby d6_19) rfl k) ?_
  refine go_st (fun t k => XS.iloadN X0.here hx rfl (hb hby d6_20) rfl k) ?_
  show Go _ _ _ _ (s₁.setTop (mkF m 21 #[iv key, iv 3, iv x0, iv x1, iv x2, iv l0, iv l1, iv l2, iv line] [(.int key), (.int x1)]))
  refine go_st (fun t k => XS.icmpYes X0.here hx rfl (pc0 := 21) (pc' := 27) rfl (hb hby d6_21) rfl (flt (hn1 : ¬ (x1 < key))).2.1 (by decide) (by decide) k) ?_
  show Go _ _ _ _ (s₁.setTop (mkF m 27 #[iv key, iv 3, iv x0, iv x1, iv x2, iv l0, iv l1, iv l2, iv line] []))
  refine go_st (fun t k => XS.iloadN X0.here hx rfl (hb hby d6_27) rfl k) ?_
  refine go_st (fun t k => XS.iconst X0.here hx rfl (hb hby d6_28) k) ?_
  show Go _ _ _ _ (s₁.setTop (mkF m 29 #[iv key, iv 3, iv x0, iv x1, iv x2, iv l0, iv l1, iv l2, iv line] [(.int 1), (.int 3)]))
  refine go_st (fun t k => XS.icmpNo X0.here hx rfl (hb hby d6_29) rfl (flt ((by decide) : ¬ ((3 : Int32) < (1 : Int32)))).1 k) ?_
  show Go _ _ _ _ (s₁.setTop (mkF m 32 #[iv key, iv 3, iv x0, iv x1, iv x2, iv l0, iv l1, iv l2, iv line] []))
  refine go_st (fun t k => XS.iloadN X0.here hx rfl (hb hby d6_32) rfl k) ?_
  refine go_st (fun t k => XS.iloadN X0.here hx rfl (hb hby d6_33) rfl k) ?_
  show Go _ _ _ _ (s₁.setTop (mkF m 34 #[iv key, iv 3, iv x0, iv x1, iv x2, iv l0, iv l1, iv l2, iv line] [(.int key), (.int x0)]))
  refine go_st (fun t k => XS.icmpYes X0.here hx rfl (pc0 := 34) (pc' := 40) rfl (hb hby d6_34) rfl (flt (hn0 : ¬ (x0 < key))).2.1 (by decide) (by decide) k) ?_
  show Go _ _ _ _ (s₁.setTop (mkF m 40 #[iv key, iv 3, iv x0, iv x1, iv x2, iv l0, iv l1, iv l2, iv line] []))
  refine go_st (fun t k => XS.iload X0.here hx rfl (hb hby d6_40) rfl k) ?_
  show Go _ _ _ _ (s₁.setTop (mkF m 42 #[iv key, iv 3, iv x0, iv x1, iv x2, iv l0, iv l1, iv l2, iv line] [(.int line)]))
  obtain ⟨fs, hr, hrun, hended, hW, hsame⟩ := X0.leave (v := some (.int line)) (fun h => by rw [Bd.returns] at h; cases h)
  refine ⟨_, _, ?_, hrun, hended, _, _, rfl, ?_, ⟨_, rfl⟩, hW, hsame.mono (by decide) (by decide)⟩
  · exact retI X0 hx Bd.returns (hb hby d6_42) hr
  · show Q_exp_30 _ _ _ _ _ _ _ _ _ _ _ _ s₁.heap _
    rw [e0]
    exact ⟨rfl, N0, rfl⟩
def Q_exp_31 (Z : State) (key : Int32) (x0 : Int32) (x1 : Int32) (x2 : Int32) (l0 : Int32) (l1 : Int32) (l2 : Int32) (line : Int32) (h0 : Heap) (n0 : Nat) (vR : Option Value) (h : Heap) (L : List Loc) : Prop := vR = some (.int l0) ∧ Fr n0 L ∧ h = h0
theorem ef_exp_31 (m : MethodId) (x0 : Int32) (x1 : Int32) (x2 : Int32) (x3 : Int32) (x4 : Int32) (x5 : Int32) (x6 : Int32) (x7 : Int32) (x8 : Int32) : entryFrame m #[(.int x0), (.int x1), (.int x2), (.int x3), (.int x4), (.int x5), (.int x6), (.int x7), (.int x8)] 9 = mkF m 0 #[.val (.int x0), .val (.int x1), .val (.int x2), .val (.int x3), .val (.int x4), .val (.int x5), .val (.int x6), .val (.int x7), .val (.int x8)] [] := by first | (simp [entryFrame, mkF, argsToLocals, Value.category]; done) | rfl
set_option maxRecDepth 65536 in
set_option maxHeartbeats 40000000 in
theorem rm_exp_31 (l : Launch) (Z : State) (a0 : Array Value) (hw : ∀ d ∈ tables_1, d.before a0 Z = true) (ws : List Jvm.Cond) (key : Int32) (x0 : Int32) (x1 : Int32) (x2 : Int32) (l0 : Int32) (l1 : Int32) (l2 : Int32) (line : Int32) (h0 : Heap) (n0 : Nat) (Z0 : n0 ≤ h0.size) (hl : x0 < key) (hn1 : ¬ (x1 < key)) (hn2 : ¬ (x2 < key)) :
    MetFree l (⟨"com/example/nudge/nudge/tree/BlockEntriesLineBeforePinLaw", "expected", "(IIIIIIIII)I"⟩ : MethodName) (head1 (Jvm.Cond.code (⟨"com/example/nudge/nudge/tree/BlockEntriesLineBeforePinLaw", "expected", "(IIIIIIIII)I"⟩ : MethodName) method_2_code 9 (some .int) :: ws) ({ frames := 0, cells := 0, slots := 0, locals := 0 } : Room)) (fun a U => a = #[(.int key), (.int 3), (.int x0), (.int x1), (.int x2), (.int l0), (.int l1), (.int l2), (.int line)] ∧ Z.Warmed39 U.vm ∧ U.heap = h0) (fun _ _ _ _ _ => True) (fun _ U o U' => ∃ v L, o = .returned v ∧ Q_exp_31 Z key x0 x1 x2 l0 l1 l2 line h0 n0 v U'.heap L ∧ FrameEnd U o U' L ({ frames := 0, cells := 0, slots := 0, locals := 0 } : Room).cells ({ frames := 0, cells := 0, slots := 0, locals := 0 } : Room).slots) := by
  refine MetFree.of_bodySF (plainFor_of_name pn_com_example_nudge_nudge_tree_BlockEntriesLineBeforePinLaw) hisR ?_
  intro p e s m args below meth c s₁ Bd hml0 hP hK
  obtain ⟨rfl, hZ, hh⟩ := hP
  have hx := Bd.exec
  have hby := Bd.bytes
  have hml : c.maxLocals = 9 := hml0
  have hown : s.vm.findClass "com/example/nudge/nudge/tree/BlockEntriesLineBeforePinLaw" = some m.cls := findClass_of_methodNamed Bd.named
  have hnm := (name_of_methodNamed Bd.named Bd.method).1
  have X0 : Stand p l e ({ frames := 0, cells := 0, slots := 0, locals := 0 } : Room) s m #[(.int key), (.int 3), (.int x0), (.int x1), (.int x2), (.int l0), (.int l1), (.int l2), (.int line)] below meth c s₁ [] 0 0 := Stand.of_body Bd
  have e0 : s₁.heap = h0 := by rw [← hh, Bd.state]; rfl
  have N0 := Fr.nil n0
  refine go_st (fun t k => castTop (ef_exp_31 m key (3 : Int32) x0 x1 x2 l0 l1 l2 line) k) ?_
  show Go _ _ _ _ (s₁.setTop (mkF m 0 #[iv key, iv 3, iv x0, iv x1, iv x2, iv l0, iv l1, iv l2, iv line] []))
  refine go_st (fun t k => XS.iloadN X0.here hx rfl (hb hby d6_0) rfl k) ?_
  refine go_st (fun t k => XS.iconst X0.here hx rfl (hb hby d6_1) k) ?_
  show Go _ _ _ _ (s₁.setTop (mkF m 2 #[iv key, iv 3, iv x0, iv x1, iv x2, iv l0, iv l1, iv l2, iv line] [(.int 3), (.int 3)]))
  refine go_st (fun t k => XS.icmpNo X0.here hx rfl (hb hby d6_2) rfl (flt ((by decide) : ¬ ((3 : Int32) < (3 : Int32)))).1 k) ?_
  show Go _ _ _ _ (s₁.setTop (mkF m 5 #[iv key, iv 3, iv x0, iv x1, iv x2, iv l0, iv l1, iv l2, iv line] []))
  refine go_st (fun t k => XS.iload X0.here hx rfl (hb hby d6_5) rfl k) ?_
  refine go_st (fun t k => XS.iloadN X0.here hx rfl (hb hby d6_7) rfl k) ?_
  show Go _ _ _ _ (s₁.setTop (mkF m 8 #[iv key, iv 3, iv x0, iv x1, iv x2, iv l0, iv l1, iv l2, iv line] [(.int key), (.int x2)]))
  refine go_st (fun t k => XS.icmpYes X0.here hx rfl (pc0 := 8) (pc' := 14) rfl (hb hby d6_8) rfl (flt (hn2 : ¬ (x2 < key))).2.1 (by decide) (by decide) k) ?_
  show Go _ _ _ _ (s₁.setTop (mkF m 14 #[iv key, iv 3, iv x0, iv x1, iv x2, iv l0, iv l1, iv l2, iv line] []))
  refine go_st (fun t k => XS.iloadN X0.here hx rfl (hb hby d6_14) rfl k) ?_
  refine go_st (fun t k => XS.iconst X0.here hx rfl (hb hby d6_15) k) ?_
  show Go _ _ _ _ (s₁.setTop (mkF m 16 #[iv key, iv 3, iv x0, iv x1, iv x2, iv l0, iv l1, iv l2, iv line] [(.int 2), (.int 3)]))
  refine go_st (fun t k => XS.icmpNo X0.here hx rfl (hb hby d6_16) rfl (flt ((by decide) : ¬ ((3 : Int32) < (2 : Int32)))).1 k) ?_
  show Go _ _ _ _ (s₁.setTop (mkF m 19 #[iv key, iv 3, iv x0, iv x1, iv x2, iv l0, iv l1, iv l2, iv line] []))
  refine go_st (fun t k => XS.iloadN X0.here hx rfl (hb hby d6_19) rfl k) ?_
  refine go_st (fun t k => XS.iloadN X0.here hx rfl (hb hby d6_20) rfl k) ?_
  show Go _ _ _ _ (s₁.setTop (mkF m 21 #[iv key, iv 3, iv x0, iv x1, iv x2, iv l0, iv l1, iv l2, iv line] [(.int key), (.int x1)]))
  refine go_st (fun t k => XS.icmpYes X0.here hx rfl (pc0 := 21) (pc' := 27) rfl (hb hby d6_21) rfl (flt (hn1 : ¬ (x1 < key))).2.1 (by decide) (by decide) k) ?_
  show Go _ _ _ _ (s₁.setTop (mkF m 27 #[iv key, iv 3, iv x0, iv x1, iv x2, iv l0, iv l1, iv l2, iv line] []))
  refine go_st (fun t k => XS.iloadN X0.here hx rfl (hb hby d6_27) rfl k) ?_
  refine go_st (fun t k => XS.iconst X0.here hx rfl (hb hby d6_28) k) ?_
  show Go _ _ _ _ (s₁.setTop (mkF m 29 #[iv key, iv 3, iv x0, iv x1, iv x2, iv l0, iv l1, iv l2, iv line] [(.int 1), (.int 3)]))
  refine go_st (fun t k => XS.icmpNo X0.here hx rfl (hb hby d6_29) rfl (flt ((by decide) : ¬ ((3 : Int32) < (1 : Int32)))).1 k) ?_
  show Go _ _ _ _ (s₁.setTop (mkF m 32 #[iv key, iv 3, iv x0, iv x1, iv x2, iv l0, iv l1, iv l2, iv line] []))
  refine go_st (fun t k => XS.iloadN X0.here hx rfl (hb hby d6_32) rfl k) ?_
  refine go_st (fun t k => XS.iloadN X0.here hx rfl (hb hby d6_33) rfl k) ?_
  show Go _ _ _ _ (s₁.setTop (mkF m 34 #[iv key, iv 3, iv x0, iv x1, iv x2, iv l0, iv l1, iv l2, iv line] [(.int key), (.int x0)]))
  refine go_st (fun t k => XS.icmpNo X0.here hx rfl (hb hby d6_34) rfl (tlt (hl : x0 < key)).2.1 k) ?_
  show Go _ _ _ _ (s₁.setTop (mkF m 37 #[iv key, iv 3, iv x0, iv x1, iv x2, iv l0, iv l1, iv l2, iv line] []))
  refine go_st (fun t k => XS.iload X0.here hx rfl (hb hby d6_37) rfl k) ?_
  show Go _ _ _ _ (s₁.setTop (mkF m 39 #[iv key, iv 3, iv x0, iv x1, iv x2, iv l0, iv l1, iv l2, iv line] [(.int l0)]))
  obtain ⟨fs, hr, hrun, hended, hW, hsame⟩ := X0.leave (v := some (.int l0)) (fun h => by rw [Bd.returns] at h; cases h)
  refine ⟨_, _, ?_, hrun, hended, _, _, rfl, ?_, ⟨_, rfl⟩, hW, hsame.mono (by decide) (by decide)⟩
  · exact retI X0 hx Bd.returns (hb hby d6_39) hr
  · show Q_exp_31 _ _ _ _ _ _ _ _ _ _ _ _ s₁.heap _
    rw [e0]
    exact ⟨rfl, N0, rfl⟩
def Q_exp_32 (Z : State) (key : Int32) (x0 : Int32) (x1 : Int32) (x2 : Int32) (l0 : Int32) (l1 : Int32) (l2 : Int32) (line : Int32) (h0 : Heap) (n0 : Nat) (vR : Option Value) (h : Heap) (L : List Loc) : Prop := vR = some (.int l1) ∧ Fr n0 L ∧ h = h0
theorem ef_exp_32 (m : MethodId) (x0 : Int32) (x1 : Int32) (x2 : Int32) (x3 : Int32) (x4 : Int32) (x5 : Int32) (x6 : Int32) (x7 : Int32) (x8 : Int32) : entryFrame m #[(.int x0), (.int x1), (.int x2), (.int x3), (.int x4), (.int x5), (.int x6), (.int x7), (.int x8)] 9 = mkF m 0 #[.val (.int x0), .val (.int x1), .val (.int x2), .val (.int x3), .val (.int x4), .val (.int x5), .val (.int x6), .val (.int x7), .val (.int x8)] [] := by first | (simp [entryFrame, mkF, argsToLocals, Value.category]; done) | rfl
set_option maxRecDepth 65536 in
set_option maxHeartbeats 40000000 in
theorem rm_exp_32 (l : Launch) (Z : State) (a0 : Array Value) (hw : ∀ d ∈ tables_1, d.before a0 Z = true) (ws : List Jvm.Cond) (key : Int32) (x0 : Int32) (x1 : Int32) (x2 : Int32) (l0 : Int32) (l1 : Int32) (l2 : Int32) (line : Int32) (h0 : Heap) (n0 : Nat) (Z0 : n0 ≤ h0.size) (hl : x1 < key) (hn2 : ¬ (x2 < key)) :
    MetFree l (⟨"com/example/nudge/nudge/tree/BlockEntriesLineBeforePinLaw", "expected", "(IIIIIIIII)I"⟩ : MethodName) (head1 (Jvm.Cond.code (⟨"com/example/nudge/nudge/tree/BlockEntriesLineBeforePinLaw", "expected", "(IIIIIIIII)I"⟩ : MethodName) method_2_code 9 (some .int) :: ws) ({ frames := 0, cells := 0, slots := 0, locals := 0 } : Room)) (fun a U => a = #[(.int key), (.int 3), (.int x0), (.int x1), (.int x2), (.int l0), (.int l1), (.int l2), (.int line)] ∧ Z.Warmed39 U.vm ∧ U.heap = h0) (fun _ _ _ _ _ => True) (fun _ U o U' => ∃ v L, o = .returned v ∧ Q_exp_32 Z key x0 x1 x2 l0 l1 l2 line h0 n0 v U'.heap L ∧ FrameEnd U o U' L ({ frames := 0, cells := 0, slots := 0, locals := 0 } : Room).cells ({ frames := 0, cells := 0, slots := 0, locals := 0 } : Room).slots) := by
  refine MetFree.of_bodySF (plainFor_of_name pn_com_example_nudge_nudge_tree_BlockEntriesLineBeforePinLaw) hisR ?_
  intro p e s m args below meth c s₁ Bd hml0 hP hK
  obtain ⟨rfl, hZ, hh⟩ := hP
  have hx := Bd.exec
  have hby := Bd.bytes
  have hml : c.maxLocals = 9 := hml0
  have hown : s.vm.findClass "com/example/nudge/nudge/tree/BlockEntriesLineBeforePinLaw" = some m.cls := findClass_of_methodNamed Bd.named
  have hnm := (name_of_methodNamed Bd.named Bd.method).1
  have X0 : Stand p l e ({ frames := 0, cells := 0, slots := 0, locals := 0 } : Room) s m #[(.int key), (.int 3), (.int x0), (.int x1), (.int x2), (.int l0), (.int l1), (.int l2), (.int line)] below meth c s₁ [] 0 0 := Stand.of_body Bd
  have e0 : s₁.heap = h0 := by rw [← hh, Bd.state]; rfl
  have N0 := Fr.nil n0
  refine go_st (fun t k => castTop (ef_exp_32 m key (3 : Int32) x0 x1 x2 l0 l1 l2 line) k) ?_
  show Go _ _ _ _ (s₁.setTop (mkF m 0 #[iv key, iv 3, iv x0, iv x1, iv x2, iv l0, iv l1, iv l2, iv line] []))
  refine go_st (fun t k => XS.iloadN X0.here hx rfl (hb hby d6_0) rfl k) ?_
  refine go_st (fun t k => XS.iconst X0.here hx rfl (hb hby d6_1) k) ?_
  show Go _ _ _ _ (s₁.setTop (mkF m 2 #[iv key, iv 3, iv x0, iv x1, iv x2, iv l0, iv l1, iv l2, iv line] [(.int 3), (.int 3)]))
  refine go_st (fun t k => XS.icmpNo X0.here hx rfl (hb hby d6_2) rfl (flt ((by decide) : ¬ ((3 : Int32) < (3 : Int32)))).1 k) ?_
  show Go _ _ _ _ (s₁.setTop (mkF m 5 #[iv key, iv 3, iv x0, iv x1, iv x2, iv l0, iv l1, iv l2, iv line] []))
  refine go_st (fun t k => XS.iload X0.here hx rfl (hb hby d6_5) rfl k) ?_
  refine go_st (fun t k => XS.iloadN X0.here hx rfl (hb hby d6_7) rfl k) ?_
  show Go _ _ _ _ (s₁.setTop (mkF m 8 #[iv key, iv 3, iv x0, iv x1, iv x2, iv l0, iv l1, iv l2, iv line] [(.int key), (.int x2)]))
  refine go_st (fun t k => XS.icmpYes X0.here hx rfl (pc0 := 8) (pc' := 14) rfl (hb hby d6_8) rfl (flt (hn2 : ¬ (x2 < key))).2.1 (by decide) (by decide) k) ?_
  show Go _ _ _ _ (s₁.setTop (mkF m 14 #[iv key, iv 3, iv x0, iv x1, iv x2, iv l0, iv l1, iv l2, iv line] []))
  refine go_st (fun t k => XS.iloadN X0.here hx rfl (hb hby d6_14) rfl k) ?_
  refine go_st (fun t k => XS.iconst X0.here hx rfl (hb hby d6_15) k) ?_
  show Go _ _ _ _ (s₁.setTop (mkF m 16 #[iv key, iv 3, iv x0, iv x1, iv x2, iv l0, iv l1, iv l2, iv line] [(.int 2), (.int 3)]))
  refine go_st (fun t k => XS.icmpNo X0.here hx rfl (hb hby d6_16) rfl (flt ((by decide) : ¬ ((3 : Int32) < (2 : Int32)))).1 k) ?_
  show Go _ _ _ _ (s₁.setTop (mkF m 19 #[iv key, iv 3, iv x0, iv x1, iv x2, iv l0, iv l1, iv l2, iv line] []))
  refine go_st (fun t k => XS.iloadN X0.here hx rfl (hb hby d6_19) rfl k) ?_
  refine go_st (fun t k => XS.iloadN X0.here hx rfl (hb hby d6_20) rfl k) ?_
  show Go _ _ _ _ (s₁.setTop (mkF m 21 #[iv key, iv 3, iv x0, iv x1, iv x2, iv l0, iv l1, iv l2, iv line] [(.int key), (.int x1)]))
  refine go_st (fun t k => XS.icmpNo X0.here hx rfl (hb hby d6_21) rfl (tlt (hl : x1 < key)).2.1 k) ?_
  show Go _ _ _ _ (s₁.setTop (mkF m 24 #[iv key, iv 3, iv x0, iv x1, iv x2, iv l0, iv l1, iv l2, iv line] []))
  refine go_st (fun t k => XS.iload X0.here hx rfl (hb hby d6_24) rfl k) ?_
  show Go _ _ _ _ (s₁.setTop (mkF m 26 #[iv key, iv 3, iv x0, iv x1, iv x2, iv l0, iv l1, iv l2, iv line] [(.int l1)]))
  obtain ⟨fs, hr, hrun, hended, hW, hsame⟩ := X0.leave (v := some (.int l1)) (fun h => by rw [Bd.returns] at h; cases h)
  refine ⟨_, _, ?_, hrun, hended, _, _, rfl, ?_, ⟨_, rfl⟩, hW, hsame.mono (by decide) (by decide)⟩
  · exact retI X0 hx Bd.returns (hb hby d6_26) hr
  · show Q_exp_32 _ _ _ _ _ _ _ _ _ _ _ _ s₁.heap _
    rw [e0]
    exact ⟨rfl, N0, rfl⟩
def Q_exp_33 (Z : State) (key : Int32) (x0 : Int32) (x1 : Int32) (x2 : Int32) (l0 : Int32) (l1 : Int32) (l2 : Int32) (line : Int32) (h0 : Heap) (n0 : Nat) (vR : Option Value) (h : Heap) (L : List Loc) : Prop := vR = some (.int l2) ∧ Fr n0 L ∧ h = h0
theorem ef_exp_33 (m : MethodId) (x0 : Int32) (x1 : Int32) (x2 : Int32) (x3 : Int32) (x4 : Int32) (x5 : Int32) (x6 : Int32) (x7 : Int32) (x8 : Int32) : entryFrame m #[(.int x0), (.int x1), (.int x2), (.int x3), (.int x4), (.int x5), (.int x6), (.int x7), (.int x8)] 9 = mkF m 0 #[.val (.int x0), .val (.int x1), .val (.int x2), .val (.int x3), .val (.int x4), .val (.int x5), .val (.int x6), .val (.int x7), .val (.int x8)] [] := by first | (simp [entryFrame, mkF, argsToLocals, Value.category]; done) | rfl
set_option maxRecDepth 65536 in
set_option maxHeartbeats 40000000 in
theorem rm_exp_33 (l : Launch) (Z : State) (a0 : Array Value) (hw : ∀ d ∈ tables_1, d.before a0 Z = true) (ws : List Jvm.Cond) (key : Int32) (x0 : Int32) (x1 : Int32) (x2 : Int32) (l0 : Int32) (l1 : Int32) (l2 : Int32) (line : Int32) (h0 : Heap) (n0 : Nat) (Z0 : n0 ≤ h0.size) (hl : x2 < key) :
    MetFree l (⟨"com/example/nudge/nudge/tree/BlockEntriesLineBeforePinLaw", "expected", "(IIIIIIIII)I"⟩ : MethodName) (head1 (Jvm.Cond.code (⟨"com/example/nudge/nudge/tree/BlockEntriesLineBeforePinLaw", "expected", "(IIIIIIIII)I"⟩ : MethodName) method_2_code 9 (some .int) :: ws) ({ frames := 0, cells := 0, slots := 0, locals := 0 } : Room)) (fun a U => a = #[(.int key), (.int 3), (.int x0), (.int x1), (.int x2), (.int l0), (.int l1), (.int l2), (.int line)] ∧ Z.Warmed39 U.vm ∧ U.heap = h0) (fun _ _ _ _ _ => True) (fun _ U o U' => ∃ v L, o = .returned v ∧ Q_exp_33 Z key x0 x1 x2 l0 l1 l2 line h0 n0 v U'.heap L ∧ FrameEnd U o U' L ({ frames := 0, cells := 0, slots := 0, locals := 0 } : Room).cells ({ frames := 0, cells := 0, slots := 0, locals := 0 } : Room).slots) := by
  refine MetFree.of_bodySF (plainFor_of_name pn_com_example_nudge_nudge_tree_BlockEntriesLineBeforePinLaw) hisR ?_
  intro p e s m args below meth c s₁ Bd hml0 hP hK
  obtain ⟨rfl, hZ, hh⟩ := hP
  have hx := Bd.exec
  have hby := Bd.bytes
  have hml : c.maxLocals = 9 := hml0
  have hown : s.vm.findClass "com/example/nudge/nudge/tree/BlockEntriesLineBeforePinLaw" = some m.cls := findClass_of_methodNamed Bd.named
  have hnm := (name_of_methodNamed Bd.named Bd.method).1
  have X0 : Stand p l e ({ frames := 0, cells := 0, slots := 0, locals := 0 } : Room) s m #[(.int key), (.int 3), (.int x0), (.int x1), (.int x2), (.int l0), (.int l1), (.int l2), (.int line)] below meth c s₁ [] 0 0 := Stand.of_body Bd
  have e0 : s₁.heap = h0 := by rw [← hh, Bd.state]; rfl
  have N0 := Fr.nil n0
  refine go_st (fun t k => castTop (ef_exp_33 m key (3 : Int32) x0 x1 x2 l0 l1 l2 line) k) ?_
  show Go _ _ _ _ (s₁.setTop (mkF m 0 #[iv key, iv 3, iv x0, iv x1, iv x2, iv l0, iv l1, iv l2, iv line] []))
  refine go_st (fun t k => XS.iloadN X0.here hx rfl (hb hby d6_0) rfl k) ?_
  refine go_st (fun t k => XS.iconst X0.here hx rfl (hb hby d6_1) k) ?_
  show Go _ _ _ _ (s₁.setTop (mkF m 2 #[iv key, iv 3, iv x0, iv x1, iv x2, iv l0, iv l1, iv l2, iv line] [(.int 3), (.int 3)]))
  refine go_st (fun t k => XS.icmpNo X0.here hx rfl (hb hby d6_2) rfl (flt ((by decide) : ¬ ((3 : Int32) < (3 : Int32)))).1 k) ?_
  show Go _ _ _ _ (s₁.setTop (mkF m 5 #[iv key, iv 3, iv x0, iv x1, iv x2, iv l0, iv l1, iv l2, iv line] []))
  refine go_st (fun t k => XS.iload X0.here hx rfl (hb hby d6_5) rfl k) ?_
  refine go_st (fun t k => XS.iloadN X0.here hx rfl (hb hby d6_7) rfl k) ?_
  show Go _ _ _ _ (s₁.setTop (mkF m 8 #[iv key, iv 3, iv x0, iv x1, iv x2, iv l0, iv l1, iv l2, iv line] [(.int key), (.int x2)]))
  refine go_st (fun t k => XS.icmpNo X0.here hx rfl (hb hby d6_8) rfl (tlt (hl : x2 < key)).2.1 k) ?_
  show Go _ _ _ _ (s₁.setTop (mkF m 11 #[iv key, iv 3, iv x0, iv x1, iv x2, iv l0, iv l1, iv l2, iv line] []))
  refine go_st (fun t k => XS.iload X0.here hx rfl (hb hby d6_11) rfl k) ?_
  show Go _ _ _ _ (s₁.setTop (mkF m 13 #[iv key, iv 3, iv x0, iv x1, iv x2, iv l0, iv l1, iv l2, iv line] [(.int l2)]))
  obtain ⟨fs, hr, hrun, hended, hW, hsame⟩ := X0.leave (v := some (.int l2)) (fun h => by rw [Bd.returns] at h; cases h)
  refine ⟨_, _, ?_, hrun, hended, _, _, rfl, ?_, ⟨_, rfl⟩, hW, hsame.mono (by decide) (by decide)⟩
  · exact retI X0 hx Bd.returns (hb hby d6_13) hr
  · show Q_exp_33 _ _ _ _ _ _ _ _ _ _ _ _ s₁.heap _
    rw [e0]
    exact ⟨rfl, N0, rfl⟩
def Q_max (Z : State) (x : Int32) (y : Int32) (h0 : Heap) (n0 : Nat) (vR : Option Value) (h : Heap) (L : List Loc) : Prop := ∃ (r : Int32), vR = some (.int r) ∧ Fr n0 L ∧ h = h0 ∧ (x.toInt ≤ r.toInt ∧ y.toInt ≤ r.toInt ∧ (r = x ∨ r = y))
theorem ef_max (m : MethodId) (x0 : Int32) (x1 : Int32) : entryFrame m #[(.int x0), (.int x1)] 2 = mkF m 0 #[.val (.int x0), .val (.int x1)] [] := by first | (simp [entryFrame, mkF, argsToLocals, Value.category]; done) | rfl
set_option maxRecDepth 65536 in
set_option maxHeartbeats 40000000 in
theorem rm_max (l : Launch) (Z : State) (a0 : Array Value) (hw : ∀ d ∈ tables_1, d.before a0 Z = true) (ws : List Jvm.Cond) (x : Int32) (y : Int32) (h0 : Heap) (n0 : Nat) (Z0 : n0 ≤ h0.size)  :
    MetFree l (⟨"java/lang/Math", "max", "(II)I"⟩ : MethodName) (head1 (Jvm.Cond.code (⟨"java/lang/Math", "max", "(II)I"⟩ : MethodName) jdk_29_method_65_code 2 (some .int) :: ws) ({ frames := 0, cells := 0, slots := 0, locals := 0 } : Room)) (fun a U => a = #[(.int x), (.int y)] ∧ Z.Warmed39 U.vm ∧ U.heap = h0) (fun _ _ _ _ _ => True) (fun _ U o U' => ∃ v L, o = .returned v ∧ Q_max Z x y h0 n0 v U'.heap L ∧ FrameEnd U o U' L ({ frames := 0, cells := 0, slots := 0, locals := 0 } : Room).cells ({ frames := 0, cells := 0, slots := 0, locals := 0 } : Room).slots) := by
  refine MetFree.of_bodySF (by decide +kernel) hisR ?_
  intro p e s m args below meth c s₁ Bd hml0 hP hK
  obtain ⟨rfl, hZ, hh⟩ := hP
  have hx := Bd.exec
  have hby := Bd.bytes
  have hml : c.maxLocals = 2 := hml0
  have hown : s.vm.findClass "java/lang/Math" = some m.cls := findClass_of_methodNamed Bd.named
  have hnm := (name_of_methodNamed Bd.named Bd.method).1
  have X0 : Stand p l e ({ frames := 0, cells := 0, slots := 0, locals := 0 } : Room) s m #[(.int x), (.int y)] below meth c s₁ [] 0 0 := Stand.of_body Bd
  have e0 : s₁.heap = h0 := by rw [← hh, Bd.state]; rfl
  have N0 := Fr.nil n0
  refine go_st (fun t k => castTop (ef_max m x y) k) ?_
  show Go _ _ _ _ (s₁.setTop (mkF m 0 #[iv x, iv y] []))
  refine go_st (fun t k => XS.iloadN X0.here hx rfl (hb hby d7_0) rfl k) ?_
  refine go_st (fun t k => XS.iloadN X0.here hx rfl (hb hby d7_1) rfl k) ?_
  show Go _ _ _ _ (s₁.setTop (mkF m 2 #[iv x, iv y] [(.int y), (.int x)]))
  by_cases hc1 : x < y
  · skip
    refine go_st (fun t k => XS.icmpYes X0.here hx rfl (pc0 := 2) (pc' := 9) rfl (hb hby d7_2) rfl (tlt (hc1 : x < y)).1 (by decide) (by decide) k) ?_
    show Go _ _ _ _ (s₁.setTop (mkF m 9 #[iv x, iv y] []))
    refine go_st (fun t k => XS.iloadN X0.here hx rfl (hb hby d7_9) rfl k) ?_
    show Go _ _ _ _ (s₁.setTop (mkF m 10 #[iv x, iv y] [(.int y)]))
    obtain ⟨fs, hr, hrun, hended, hW, hsame⟩ := X0.leave (v := some (.int y)) (fun h => by rw [Bd.returns] at h; cases h)
    refine ⟨_, _, ?_, hrun, hended, _, _, rfl, ?_, ⟨_, rfl⟩, hW, hsame.mono (by decide) (by decide)⟩
    · exact retI X0 hx Bd.returns (hb hby d7_10) hr
    · show Q_max _ _ _ _ _ _ s₁.heap _
      rw [e0]
      exact ⟨y, rfl, N0, rfl, ⟨Int.le_of_lt (pl_of hc1), Int.le_refl _, Or.inr rfl⟩⟩
  · skip
    refine go_st (fun t k => XS.icmpNo X0.here hx rfl (hb hby d7_2) rfl (flt (hc1 : ¬ (x < y))).1 k) ?_
    show Go _ _ _ _ (s₁.setTop (mkF m 5 #[iv x, iv y] []))
    refine go_st (fun t k => XS.iloadN X0.here hx rfl (hb hby d7_5) rfl k) ?_
    refine go_st (fun t k => XS.goto X0.here hx rfl (pc0 := 6) (pc' := 10) rfl (hb hby d7_6) (by decide) (by decide) k) ?_
    show Go _ _ _ _ (s₁.setTop (mkF m 10 #[iv x, iv y] [(.int x)]))
    obtain ⟨fs, hr, hrun, hended, hW, hsame⟩ := X0.leave (v := some (.int x)) (fun h => by rw [Bd.returns] at h; cases h)
    refine ⟨_, _, ?_, hrun, hended, _, _, rfl, ?_, ⟨_, rfl⟩, hW, hsame.mono (by decide) (by decide)⟩
    · exact retI X0 hx Bd.returns (hb hby d7_10) hr
    · show Q_max _ _ _ _ _ _ s₁.heap _
      rw [e0]
      exact ⟨x, rfl, N0, rfl, ⟨Int.le_refl _, pl_nof hc1, Or.inl rfl⟩⟩
def Q_law (Z : State) (p0 : Int32) (p1 : Int32) (p2 : Int64) (p3 : Int32) (p4 : Int32) (p5 : Int32) (h0 : Heap) (n0 : Nat) (vR : Option Value) (h : Heap) (L : List Loc) : Prop := vR = some (.int 1) ∧ Fr n0 L ∧ Keep h0 h []
theorem ef_law (m : MethodId) (x0 : Int32) (x1 : Int32) (x2 : Int64) (x3 : Int32) (x4 : Int32) (x5 : Int32) : entryFrame m #[(.int x0), (.int x1), (.long x2), (.int x3), (.int x4), (.int x5)] maxLocals = mkF m 0 #[.val (.int x0), .val (.int x1), .val (.long x2), .second, .val (.int x3), .val (.int x4), .val (.int x5), .unset, .unset, .unset, .unset, .unset, .unset, .unset, .unset, .unset, .unset, .unset, .unset, .unset] [] := by first | (simp [entryFrame, mkF, argsToLocals, Value.category, maxLocals]; done) | rfl
set_option maxRecDepth 65536 in
set_option maxHeartbeats 40000000 in
theorem rm_law (l : Launch) (Z : State) (a0 : Array Value) (hw : ∀ d ∈ tables_1, d.before a0 Z = true) (ws : List Jvm.Cond) (p0 : Int32) (p1 : Int32) (p2 : Int64) (p3 : Int32) (p4 : Int32) (p5 : Int32) (h0 : Heap) (n0 : Nat) (Z0 : n0 ≤ h0.size)  :
    MetFree l x (head1 (Jvm.Cond.code x code maxLocals ret :: ws) room_1) (fun a U => a = #[(.int p0), (.int p1), (.long p2), (.int p3), (.int p4), (.int p5)] ∧ Z.Warmed39 U.vm ∧ U.heap = h0) (fun _ _ _ _ _ => True) (fun _ U o U' => ∃ v L, o = .returned v ∧ Q_law Z p0 p1 p2 p3 p4 p5 h0 n0 v U'.heap L ∧ FrameEnd U o U' L room_1.cells room_1.slots) := by
  refine MetFree.of_bodySF (plainFor_of_name pn_com_example_nudge_nudge_tree_BlockEntriesLineBeforePinLaw) hisR ?_
  intro p e s m args below meth c s₁ Bd hml0 hP hK
  obtain ⟨rfl, hZ, hh⟩ := hP
  have hx := Bd.exec
  have hby := Bd.bytes
  have hml : c.maxLocals = 20 := hml0
  have hown : s.vm.findClass "com/example/nudge/nudge/tree/BlockEntriesLineBeforePinLaw" = some m.cls := findClass_of_methodNamed Bd.named
  have hnm := (name_of_methodNamed Bd.named Bd.method).1
  have X0 : Stand p l e room_1 s m #[(.int p0), (.int p1), (.long p2), (.int p3), (.int p4), (.int p5)] below meth c s₁ [] 0 0 := Stand.of_body Bd
  have e0 : s₁.heap = h0 := by rw [← hh, Bd.state]; rfl
  have N0 := Fr.nil n0
  refine go_st (fun t k => castTop (ef_law m p0 p1 p2 p3 p4 p5) k) ?_
  show Go _ _ _ _ (s₁.setTop (mkF m 0 #[iv p0, iv p1, .val (.long p2), .second, iv p3, iv p4, iv p5, .unset, .unset, .unset, .unset, .unset, .unset, .unset, .unset, .unset, .unset, .unset, .unset, .unset] []))
  refine go_st (fun t k => XS.iloadN X0.here hx rfl (hb hby at_0) rfl k) ?_
  refine go_st (fun t k => XS.iconst X0.here hx rfl (hb hby at_1) k) ?_
  refine go_st (fun t k => XS.iand X0.here hx rfl (hb hby at_2) rfl k) ?_
  refine go_st (fun t k => XS.istore X0.here hx rfl (hb hby at_3) rfl (l' := #[iv p0, iv p1, .val (.long p2), .second, iv p3, iv p4, iv p5, iv (p1 &&& (3 : Int32)), .unset, .unset, .unset, .unset, .unset, .unset, .unset, .unset, .unset, .unset, .unset, .unset]) rfl k) ?_
  show Go _ _ _ _ (s₁.setTop (mkF m 5 #[iv p0, iv p1, .val (.long p2), .second, iv p3, iv p4, iv p5, iv (p1 &&& (3 : Int32)), .unset, .unset, .unset, .unset, .unset, .unset, .unset, .unset, .unset, .unset, .unset, .unset] []))
  obtain ⟨n_, h_n_⟩ : ∃ z, z = (p1 &&& (3 : Int32)) := ⟨_, rfl⟩
  rw [← h_n_]
  show Go _ _ _ _ (s₁.setTop (mkF m 5 #[iv p0, iv p1, .val (.long p2), .second, iv p3, iv p4, iv p5, iv n_, .unset, .unset, .unset, .unset, .unset, .unset, .unset, .unset, .unset, .unset, .unset, .unset] []))
  refine go_st (fun t k => XS.iloadN X0.here hx rfl (hb hby at_5) rfl k) ?_
  show Go _ _ _ _ (s₁.setTop (mkF m 6 #[iv p0, iv p1, .val (.long p2), .second, iv p3, iv p4, iv p5, iv n_, .unset, .unset, .unset, .unset, .unset, .unset, .unset, .unset, .unset, .unset, .unset, .unset] [(.int p0)]))
  refine go_st (fun t k => X0.ldcInt hx hown (mvT hZ (w0 hw)) (g := (mkF m 6 #[iv p0, iv p1, .val (.long p2), .second, iv p3, iv p4, iv p5, iv n_, .unset, .unset, .unset, .unset, .unset, .unset, .unset, .unset, .unset, .unset, .unset, .unset] [(.int p0)])) rfl (hb hby at_6) t k) ?_
  refine go_st (fun t k => XS.iand X0.here hx rfl (hb hby at_8) rfl k) ?_
  refine go_st (fun t k => XS.istore X0.here hx rfl (hb hby at_9) rfl (l' := #[iv p0, iv p1, .val (.long p2), .second, iv p3, iv p4, iv p5, iv n_, iv (p0 &&& (1073741823 : Int32)), .unset, .unset, .unset, .unset, .unset, .unset, .unset, .unset, .unset, .unset, .unset]) rfl k) ?_
  show Go _ _ _ _ (s₁.setTop (mkF m 11 #[iv p0, iv p1, .val (.long p2), .second, iv p3, iv p4, iv p5, iv n_, iv (p0 &&& (1073741823 : Int32)), .unset, .unset, .unset, .unset, .unset, .unset, .unset, .unset, .unset, .unset, .unset] []))
  obtain ⟨i0, h_i0⟩ : ∃ z, z = (p0 &&& (1073741823 : Int32)) := ⟨_, rfl⟩
  rw [← h_i0]
  show Go _ _ _ _ (s₁.setTop (mkF m 11 #[iv p0, iv p1, .val (.long p2), .second, iv p3, iv p4, iv p5, iv n_, iv i0, .unset, .unset, .unset, .unset, .unset, .unset, .unset, .unset, .unset, .unset, .unset] []))
  refine go_st (fun t k => XS.iload X0.here hx rfl (hb hby at_11) rfl k) ?_
  refine go_st (fun t k => XS.iloadN X0.here hx rfl (hb hby at_13) rfl k) ?_
  refine go_st (fun t k => XS.iconst X0.here hx rfl (hb hby at_14) k) ?_
  show Go _ _ _ _ (s₁.setTop (mkF m 15 #[iv p0, iv p1, .val (.long p2), .second, iv p3, iv p4, iv p5, iv n_, iv i0, .unset, .unset, .unset, .unset, .unset, .unset, .unset, .unset, .unset, .unset, .unset] [(.int 2), (.int p1), (.int i0)]))
  refine go_st (fun t k => XS.iushr X0.here hx rfl (hb hby at_15) rfl k) ?_
  refine go_st (fun t k => XS.sipush X0.here hx rfl (hb hby at_16) k) ?_
  refine go_st (fun t k => XS.iand X0.here hx rfl (hb hby at_19) rfl k) ?_
  show Go _ _ _ _ (s₁.setTop (mkF m 20 #[iv p0, iv p1, .val (.long p2), .second, iv p3, iv p4, iv p5, iv n_, iv i0, .unset, .unset, .unset, .unset, .unset, .unset, .unset, .unset, .unset, .unset, .unset] [(.int (((p1).toUInt32 >>> ((2 : Int32) &&& 31).toUInt32).toInt32 &&& (255 : Int32))), (.int i0)]))
  obtain ⟨d1, h_d1⟩ : ∃ z, z = (((p1).toUInt32 >>> ((2 : Int32) &&& 31).toUInt32).toInt32 &&& (255 : Int32)) := ⟨_, rfl⟩
  rw [← h_d1]
  show Go _ _ _ _ (s₁.setTop (mkF m 20 #[iv p0, iv p1, .val (.long p2), .second, iv p3, iv p4, iv p5, iv n_, iv i0, .unset, .unset, .unset, .unset, .unset, .unset, .unset, .unset, .unset, .unset, .unset] [(.int d1), (.int i0)]))
  refine go_st (fun t k => XS.iadd X0.here hx rfl (hb hby at_20) rfl k) ?_
  refine go_st (fun t k => XS.iconst X0.here hx rfl (hb hby at_21) k) ?_
  refine go_st (fun t k => XS.iadd X0.here hx rfl (hb hby at_22) rfl k) ?_
  refine go_st (fun t k => XS.istore X0.here hx rfl (hb hby at_23) rfl (l' := #[iv p0, iv p1, .val (.long p2), .second, iv p3, iv p4, iv p5, iv n_, iv i0, iv ((i0 + d1) + (1 : Int32)), .unset, .unset, .unset, .unset, .unset, .unset, .unset, .unset, .unset, .unset]) rfl k) ?_
  show Go _ _ _ _ (s₁.setTop (mkF m 25 #[iv p0, iv p1, .val (.long p2), .second, iv p3, iv p4, iv p5, iv n_, iv i0, iv ((i0 + d1) + (1 : Int32)), .unset, .unset, .unset, .unset, .unset, .unset, .unset, .unset, .unset, .unset] []))
  obtain ⟨i1, h_i1⟩ : ∃ z, z = ((i0 + d1) + (1 : Int32)) := ⟨_, rfl⟩
  rw [← h_i1]
  show Go _ _ _ _ (s₁.setTop (mkF m 25 #[iv p0, iv p1, .val (.long p2), .second, iv p3, iv p4, iv p5, iv n_, iv i0, iv i1, .unset, .unset, .unset, .unset, .unset, .unset, .unset, .unset, .unset, .unset] []))
  refine go_st (fun t k => XS.iload X0.here hx rfl (hb hby at_25) rfl k) ?_
  refine go_st (fun t k => XS.iloadN X0.here hx rfl (hb hby at_27) rfl k) ?_
  refine go_st (fun t k => XS.bipush X0.here hx rfl (hb hby at_28) k) ?_
  show Go _ _ _ _ (s₁.setTop (mkF m 30 #[iv p0, iv p1, .val (.long p2), .second, iv p3, iv p4, iv p5, iv n_, iv i0, iv i1, .unset, .unset, .unset, .unset, .unset, .unset, .unset, .unset, .unset, .unset] [(.int 10), (.int p1), (.int i1)]))
  refine go_st (fun t k => XS.iushr X0.here hx rfl (hb hby at_30) rfl k) ?_
  refine go_st (fun t k => XS.sipush X0.here hx rfl (hb hby at_31) k) ?_
  refine go_st (fun t k => XS.iand X0.here hx rfl (hb hby at_34) rfl k) ?_
  show Go _ _ _ _ (s₁.setTop (mkF m 35 #[iv p0, iv p1, .val (.long p2), .second, iv p3, iv p4, iv p5, iv n_, iv i0, iv i1, .unset, .unset, .unset, .unset, .unset, .unset, .unset, .unset, .unset, .unset] [(.int (((p1).toUInt32 >>> ((10 : Int32) &&& 31).toUInt32).toInt32 &&& (255 : Int32))), (.int i1)]))
  obtain ⟨d2, h_d2⟩ : ∃ z, z = (((p1).toUInt32 >>> ((10 : Int32) &&& 31).toUInt32).toInt32 &&& (255 : Int32)) := ⟨_, rfl⟩
  rw [← h_d2]
  show Go _ _ _ _ (s₁.setTop (mkF m 35 #[iv p0, iv p1, .val (.long p2), .second, iv p3, iv p4, iv p5, iv n_, iv i0, iv i1, .unset, .unset, .unset, .unset, .unset, .unset, .unset, .unset, .unset, .unset] [(.int d2), (.int i1)]))
  refine go_st (fun t k => XS.iadd X0.here hx rfl (hb hby at_35) rfl k) ?_
  refine go_st (fun t k => XS.iconst X0.here hx rfl (hb hby at_36) k) ?_
  refine go_st (fun t k => XS.iadd X0.here hx rfl (hb hby at_37) rfl k) ?_
  refine go_st (fun t k => XS.istore X0.here hx rfl (hb hby at_38) rfl (l' := #[iv p0, iv p1, .val (.long p2), .second, iv p3, iv p4, iv p5, iv n_, iv i0, iv i1, iv ((i1 + d2) + (1 : Int32)), .unset, .unset, .unset, .unset, .unset, .unset, .unset, .unset, .unset]) rfl k) ?_
  show Go _ _ _ _ (s₁.setTop (mkF m 40 #[iv p0, iv p1, .val (.long p2), .second, iv p3, iv p4, iv p5, iv n_, iv i0, iv i1, iv ((i1 + d2) + (1 : Int32)), .unset, .unset, .unset, .unset, .unset, .unset, .unset, .unset, .unset] []))
  obtain ⟨i2, h_i2⟩ : ∃ z, z = ((i1 + d2) + (1 : Int32)) := ⟨_, rfl⟩
  rw [← h_i2]
  show Go _ _ _ _ (s₁.setTop (mkF m 40 #[iv p0, iv p1, .val (.long p2), .second, iv p3, iv p4, iv p5, iv n_, iv i0, iv i1, iv i2, .unset, .unset, .unset, .unset, .unset, .unset, .unset, .unset, .unset] []))
  refine go_st (fun t k => XS.lloadN X0.here hx rfl (hb hby at_40) rfl k) ?_
  show Go _ _ _ _ (s₁.setTop (mkF m 41 #[iv p0, iv p1, .val (.long p2), .second, iv p3, iv p4, iv p5, iv n_, iv i0, iv i1, iv i2, .unset, .unset, .unset, .unset, .unset, .unset, .unset, .unset, .unset] [(.long p2)]))
  refine go_st (fun t k => XS.l2i X0.here hx rfl (hb hby at_41) rfl k) ?_
  refine go_st (fun t k => XS.istore X0.here hx rfl (hb hby at_42) rfl (l' := #[iv p0, iv p1, .val (.long p2), .second, iv p3, iv p4, iv p5, iv n_, iv i0, iv i1, iv i2, iv ((p2).toInt32), .unset, .unset, .unset, .unset, .unset, .unset, .unset, .unset]) rfl k) ?_
  show Go _ _ _ _ (s₁.setTop (mkF m 44 #[iv p0, iv p1, .val (.long p2), .second, iv p3, iv p4, iv p5, iv n_, iv i0, iv i1, iv i2, iv ((p2).toInt32), .unset, .unset, .unset, .unset, .unset, .unset, .unset, .unset] []))
  obtain ⟨m0, h_m0⟩ : ∃ z, z = ((p2).toInt32) := ⟨_, rfl⟩
  rw [← h_m0]
  show Go _ _ _ _ (s₁.setTop (mkF m 44 #[iv p0, iv p1, .val (.long p2), .second, iv p3, iv p4, iv p5, iv n_, iv i0, iv i1, iv i2, iv m0, .unset, .unset, .unset, .unset, .unset, .unset, .unset, .unset] []))
  refine go_st (fun t k => XS.lloadN X0.here hx rfl (hb hby at_44) rfl k) ?_
  refine go_st (fun t k => XS.bipush X0.here hx rfl (hb hby at_45) k) ?_
  show Go _ _ _ _ (s₁.setTop (mkF m 47 #[iv p0, iv p1, .val (.long p2), .second, iv p3, iv p4, iv p5, iv n_, iv i0, iv i1, iv i2, iv m0, .unset, .unset, .unset, .unset, .unset, .unset, .unset, .unset] [(.int 32), (.long p2)]))
  refine go_st (fun t k => XS.lushr X0.here hx rfl (hb hby at_47) rfl k) ?_
  show Go _ _ _ _ (s₁.setTop (mkF m 48 #[iv p0, iv p1, .val (.long p2), .second, iv p3, iv p4, iv p5, iv n_, iv i0, iv i1, iv i2, iv m0, .unset, .unset, .unset, .unset, .unset, .unset, .unset, .unset] [(.long ((p2).toUInt64 >>> ((32 : Int32) &&& 0x3f).toInt64.toUInt64).toInt64)]))
  refine go_st (fun t k => XS.l2i X0.here hx rfl (hb hby at_48) rfl k) ?_
  refine go_st (fun t k => XS.istore X0.here hx rfl (hb hby at_49) rfl (l' := #[iv p0, iv p1, .val (.long p2), .second, iv p3, iv p4, iv p5, iv n_, iv i0, iv i1, iv i2, iv m0, iv ((((p2).toUInt64 >>> ((32 : Int32) &&& 0x3f).toInt64.toUInt64).toInt64).toInt32), .unset, .unset, .unset, .unset, .unset, .unset, .unset]) rfl k) ?_
  show Go _ _ _ _ (s₁.setTop (mkF m 51 #[iv p0, iv p1, .val (.long p2), .second, iv p3, iv p4, iv p5, iv n_, iv i0, iv i1, iv i2, iv m0, iv ((((p2).toUInt64 >>> ((32 : Int32) &&& 0x3f).toInt64.toUInt64).toInt64).toInt32), .unset, .unset, .unset, .unset, .unset, .unset, .unset] []))
  obtain ⟨m1, h_m1⟩ : ∃ z, z = ((((p2).toUInt64 >>> ((32 : Int32) &&& 0x3f).toInt64.toUInt64).toInt64).toInt32) := ⟨_, rfl⟩
  rw [← h_m1]
  show Go _ _ _ _ (s₁.setTop (mkF m 51 #[iv p0, iv p1, .val (.long p2), .second, iv p3, iv p4, iv p5, iv n_, iv i0, iv i1, iv i2, iv m0, iv m1, .unset, .unset, .unset, .unset, .unset, .unset, .unset] []))
  refine go_st (fun t k => XS.iload X0.here hx rfl (hb hby at_51) rfl k) ?_
  refine go_st (fun t k => XS.istore X0.here hx rfl (hb hby at_53) rfl (l' := #[iv p0, iv p1, .val (.long p2), .second, iv p3, iv p4, iv p5, iv n_, iv i0, iv i1, iv i2, iv m0, iv m1, iv p3, .unset, .unset, .unset, .unset, .unset, .unset]) rfl k) ?_
  refine go_st (fun t k => XS.iconst X0.here hx rfl (hb hby at_55) k) ?_
  refine go_st (fun t k => XS.iload X0.here hx rfl (hb hby at_56) rfl k) ?_
  show Go _ _ _ _ (s₁.setTop (mkF m 58 #[iv p0, iv p1, .val (.long p2), .second, iv p3, iv p4, iv p5, iv n_, iv i0, iv i1, iv i2, iv m0, iv m1, iv p3, .unset, .unset, .unset, .unset, .unset, .unset] [(.int i0), (.int 0)]))
  refine go_st (fun t k => XS.iconst X0.here hx rfl (hb hby at_58) k) ?_
  refine go_st (fun t k => XS.isub X0.here hx rfl (hb hby at_59) rfl k) ?_
  refine go_st (fun t k => XS.iload X0.here hx rfl (hb hby at_60) rfl k) ?_
  refine go_st (fun t k => XS.sipush X0.here hx rfl (hb hby at_62) k) ?_
  refine go_st (fun t k => XS.iand X0.here hx rfl (hb hby at_65) rfl k) ?_
  show Go _ _ _ _ (s₁.setTop (mkF m 66 #[iv p0, iv p1, .val (.long p2), .second, iv p3, iv p4, iv p5, iv n_, iv i0, iv i1, iv i2, iv m0, iv m1, iv p3, .unset, .unset, .unset, .unset, .unset, .unset] [(.int (p4 &&& (1023 : Int32))), (.int (i0 - (1 : Int32))), (.int 0)]))
  obtain ⟨ee1, h_ee1⟩ : ∃ z, z = (p4 &&& (1023 : Int32)) := ⟨_, rfl⟩
  rw [← h_ee1]
  show Go _ _ _ _ (s₁.setTop (mkF m 66 #[iv p0, iv p1, .val (.long p2), .second, iv p3, iv p4, iv p5, iv n_, iv i0, iv i1, iv i2, iv m0, iv m1, iv p3, .unset, .unset, .unset, .unset, .unset, .unset] [(.int ee1), (.int (i0 - (1 : Int32))), (.int 0)]))
  refine go_st (fun t k => XS.iadd X0.here hx rfl (hb hby at_66) rfl k) ?_
  show Go _ _ _ _ (s₁.setTop (mkF m 67 #[iv p0, iv p1, .val (.long p2), .second, iv p3, iv p4, iv p5, iv n_, iv i0, iv i1, iv i2, iv m0, iv m1, iv p3, .unset, .unset, .unset, .unset, .unset, .unset] [(.int ((i0 - (1 : Int32)) + ee1)), (.int 0)]))
  obtain ⟨u1, h_u1⟩ : ∃ z, z = ((i0 - (1 : Int32)) + ee1) := ⟨_, rfl⟩
  rw [← h_u1]
  show Go _ _ _ _ (s₁.setTop (mkF m 67 #[iv p0, iv p1, .val (.long p2), .second, iv p3, iv p4, iv p5, iv n_, iv i0, iv i1, iv i2, iv m0, iv m1, iv p3, .unset, .unset, .unset, .unset, .unset, .unset] [(.int u1), (.int 0)]))
  obtain ⟨_, _, ⟨T1, L1, kk1, nn1⟩, -, X1, ⟨Lc1, hQ1, lq1, yq1, zq1⟩, st1⟩ := Jvm.LawKit.callS X0 hx (y := (⟨"java/lang/Math", "max", "(II)I"⟩ : MethodName)) hown (mvT hZ (w1 hw)) (mvT hZ (w2 hw)) (mvT hZ (w3 hw)) (mvT hZ (w4 hw)) (by decide) (backOf (W := 0) (rm_max l Z a0 hw [] (0 : Int32) u1 h0 n0 (Nat.le_trans Z0 (Nat.le_refl _)) ) hZ (w4 hw) (w3 hw) (by decide) (by decide)) (g := (mkF m 67 #[iv p0, iv p1, .val (.long p2), .second, iv p3, iv p4, iv p5, iv n_, iv i0, iv i1, iv i2, iv m0, iv m1, iv p3, .unset, .unset, .unset, .unset, .unset, .unset] [(.int u1), (.int 0)])) rfl (by rw [hml]; rfl) (argsL := [(.int 0), (.int u1)]) (rest := []) (lenOf pd_2 rfl) rfl (by show 2 * 0 + _ ≤ _; exact Nat.le_of_eq rfl) (hb hby at_67) (fun _ _ => ⟨rfl, e0, (by decide : 0 + 0 ≤ _), (by decide : 0 + 0 ≤ _)⟩)
  dsimp only [Pt.U, Pt.locs, Pt.cells, Pt.slots] at X1 lq1 yq1 zq1 st1 hQ1
  subst lq1 yq1 zq1
  obtain ⟨h1, e1⟩ : ∃ z, T1.heap = z := ⟨_, rfl⟩
  rw [e1] at hQ1
  obtain ⟨r_1, rfl, N1q, he1, hm_1⟩ := hQ1
  have N1 := Fr.app N0 N1q
  rw [he1] at e1
  refine go_st st1 ?_
  show Go _ _ _ _ (T1.setTop (mkF m 70 #[iv p0, iv p1, .val (.long p2), .second, iv p3, iv p4, iv p5, iv n_, iv i0, iv i1, iv i2, iv m0, iv m1, iv p3, .unset, .unset, .unset, .unset, .unset, .unset] [(.int r_1)]))
  refine go_st (fun t k => XS.istore X1.here hx rfl (hb hby at_70) rfl (l' := #[iv p0, iv p1, .val (.long p2), .second, iv p3, iv p4, iv p5, iv n_, iv i0, iv i1, iv i2, iv m0, iv m1, iv p3, iv r_1, .unset, .unset, .unset, .unset, .unset]) rfl k) ?_
  show Go _ _ _ _ (T1.setTop (mkF m 72 #[iv p0, iv p1, .val (.long p2), .second, iv p3, iv p4, iv p5, iv n_, iv i0, iv i1, iv i2, iv m0, iv m1, iv p3, iv r_1, .unset, .unset, .unset, .unset, .unset] []))
  refine go_st (fun t k => XS.iload X1.here hx rfl (hb hby at_72) rfl k) ?_
  refine go_st (fun t k => XS.iload X1.here hx rfl (hb hby at_74) rfl k) ?_
  refine go_st (fun t k => XS.bipush X1.here hx rfl (hb hby at_76) k) ?_
  show Go _ _ _ _ (T1.setTop (mkF m 78 #[iv p0, iv p1, .val (.long p2), .second, iv p3, iv p4, iv p5, iv n_, iv i0, iv i1, iv i2, iv m0, iv m1, iv p3, iv r_1, .unset, .unset, .unset, .unset, .unset] [(.int 10), (.int p4), (.int r_1)]))
  refine go_st (fun t k => XS.iushr X1.here hx rfl (hb hby at_78) rfl k) ?_
  refine go_st (fun t k => XS.sipush X1.here hx rfl (hb hby at_79) k) ?_
  refine go_st (fun t k => XS.iand X1.here hx rfl (hb hby at_82) rfl k) ?_
  show Go _ _ _ _ (T1.setTop (mkF m 83 #[iv p0, iv p1, .val (.long p2), .second, iv p3, iv p4, iv p5, iv n_, iv i0, iv i1, iv i2, iv m0, iv m1, iv p3, iv r_1, .unset, .unset, .unset, .unset, .unset] [(.int (((p4).toUInt32 >>> ((10 : Int32) &&& 31).toUInt32).toInt32 &&& (1023 : Int32))), (.int r_1)]))
  obtain ⟨ee2, h_ee2⟩ : ∃ z, z = (((p4).toUInt32 >>> ((10 : Int32) &&& 31).toUInt32).toInt32 &&& (1023 : Int32)) := ⟨_, rfl⟩
  rw [← h_ee2]
  show Go _ _ _ _ (T1.setTop (mkF m 83 #[iv p0, iv p1, .val (.long p2), .second, iv p3, iv p4, iv p5, iv n_, iv i0, iv i1, iv i2, iv m0, iv m1, iv p3, iv r_1, .unset, .unset, .unset, .unset, .unset] [(.int ee2), (.int r_1)]))
  refine go_st (fun t k => XS.iadd X1.here hx rfl (hb hby at_83) rfl k) ?_
  refine go_st (fun t k => XS.istore X1.here hx rfl (hb hby at_84) rfl (l' := #[iv p0, iv p1, .val (.long p2), .second, iv p3, iv p4, iv p5, iv n_, iv i0, iv i1, iv i2, iv m0, iv m1, iv p3, iv r_1, iv (r_1 + ee2), .unset, .unset, .unset, .unset]) rfl k) ?_
  show Go _ _ _ _ (T1.setTop (mkF m 86 #[iv p0, iv p1, .val (.long p2), .second, iv p3, iv p4, iv p5, iv n_, iv i0, iv i1, iv i2, iv m0, iv m1, iv p3, iv r_1, iv (r_1 + ee2), .unset, .unset, .unset, .unset] []))
  obtain ⟨q2, h_q2⟩ : ∃ z, z = (r_1 + ee2) := ⟨_, rfl⟩
  rw [← h_q2]
  show Go _ _ _ _ (T1.setTop (mkF m 86 #[iv p0, iv p1, .val (.long p2), .second, iv p3, iv p4, iv p5, iv n_, iv i0, iv i1, iv i2, iv m0, iv m1, iv p3, iv r_1, iv q2, .unset, .unset, .unset, .unset] []))
  refine go_st (fun t k => XS.iload X1.here hx rfl (hb hby at_86) rfl k) ?_
  refine go_st (fun t k => XS.iconst X1.here hx rfl (hb hby at_88) k) ?_
  show Go _ _ _ _ (T1.setTop (mkF m 89 #[iv p0, iv p1, .val (.long p2), .second, iv p3, iv p4, iv p5, iv n_, iv i0, iv i1, iv i2, iv m0, iv m1, iv p3, iv r_1, iv q2, .unset, .unset, .unset, .unset] [(.int (-1)), (.int p5)]))
  refine go_st (fun t k => XS.ixor X1.here hx rfl (hb hby at_89) rfl k) ?_
  refine go_st (fun t k => XS.istore X1.here hx rfl (hb hby at_90) rfl (l' := #[iv p0, iv p1, .val (.long p2), .second, iv p3, iv p4, iv p5, iv n_, iv i0, iv i1, iv i2, iv m0, iv m1, iv p3, iv r_1, iv q2, iv (p5 ^^^ (-1 : Int32)), .unset, .unset, .unset]) rfl k) ?_
  show Go _ _ _ _ (T1.setTop (mkF m 92 #[iv p0, iv p1, .val (.long p2), .second, iv p3, iv p4, iv p5, iv n_, iv i0, iv i1, iv i2, iv m0, iv m1, iv p3, iv r_1, iv q2, iv (p5 ^^^ (-1 : Int32)), .unset, .unset, .unset] []))
  obtain ⟨ln2, h_ln2⟩ : ∃ z, z = (p5 ^^^ (-1 : Int32)) := ⟨_, rfl⟩
  rw [← h_ln2]
  show Go _ _ _ _ (T1.setTop (mkF m 92 #[iv p0, iv p1, .val (.long p2), .second, iv p3, iv p4, iv p5, iv n_, iv i0, iv i1, iv i2, iv m0, iv m1, iv p3, iv r_1, iv q2, iv ln2, .unset, .unset, .unset] []))
  have rd1 : 0 ≤ d1.toInt ∧ d1.toInt ≤ 255 := by rw [h_d1]; exact c_and _ 255 (by decide)
  have rd2 : 0 ≤ d2.toInt ∧ d2.toInt ≤ 255 := by rw [h_d2]; exact c_and _ 255 (by decide)
  have re1 : 0 ≤ ee1.toInt ∧ ee1.toInt ≤ 1023 := by rw [h_ee1]; exact c_and _ 1023 (by decide)
  have re2 : 0 ≤ ee2.toInt ∧ ee2.toInt ≤ 1023 := by rw [h_ee2]; exact c_and _ 1023 (by decide)
  have ri0 : 0 ≤ i0.toInt ∧ i0.toInt ≤ 1073741823 := by rw [h_i0]; exact c_and _ 1073741823 (by decide)
  have one1 : (1 : Int32).toInt = 1 := rfl
  have zero1 : (0 : Int32).toInt = 0 := rfl
  have ri1 : i1.toInt = i0.toInt + d1.toInt + 1 := by rw [h_i1, pl_add (by rw [pl_add (by omega) (by omega)]; omega) (by rw [pl_add (by omega) (by omega)]; omega), pl_add (by omega) (by omega), one1]
  have ri2 : i2.toInt = i1.toInt + d2.toInt + 1 := by rw [h_i2, pl_add (by rw [pl_add (by omega) (by omega)]; omega) (by rw [pl_add (by omega) (by omega)]; omega), pl_add (by omega) (by omega), one1]
  have ru1 : u1.toInt = i0.toInt - 1 + ee1.toInt := by rw [h_u1, pl_add (by rw [pl_sub (by omega) (by omega)]; omega) (by rw [pl_sub (by omega) (by omega)]; omega), pl_sub (by omega) (by omega), one1]
  have rq1 : 0 ≤ r_1.toInt ∧ r_1.toInt ≤ 1073742845 := by obtain ⟨a, b, c⟩ := hm_1; rcases c with c | c <;> (have c0 := congrArg Int32.toInt c; omega)
  have rq2 : q2.toInt = r_1.toInt + ee2.toInt := by rw [h_q2, pl_add (by omega) (by omega)]
  have s0 : i0 < i1 := pl_lt (by omega)
  have s1 : i1 < i2 := pl_lt (by omega)
  have hn_ := pl_and3 p1
  rw [← h_n_] at hn_
  obtain ⟨T2, h2, X2, e2, E2, A2, D2, -, st2⟩ := newO X1 hx hZ hown (w5 hw) (w6 hw) (w7 hw) e1 (g := (mkF m 92 #[iv p0, iv p1, .val (.long p2), .second, iv p3, iv p4, iv p5, iv n_, iv i0, iv i1, iv i2, iv m0, iv m1, iv p3, iv r_1, iv q2, iv ln2, .unset, .unset, .unset] [])) rfl (hb hby at_92) (by decide) (by decide)
  obtain ⟨b2, gq2⟩ : ∃ z, z = h0.size := ⟨_, rfl⟩
  rw [← gq2] at A2 D2 st2
  have f3 : Fld Z h2 b2 cBE "indexes" "[I" .null := D2 (Or.inl (w16 hw)) (ty := (.array .int)) (by decide)
  have f4 : Fld Z h2 b2 cBE "lines" "[I" .null := D2 (Or.inl (w18 hw)) (ty := (.array .int)) (by decide)
  have f5 : Fld Z h2 b2 cBE "count" "I" (.int 0) := D2 (Or.inl (w25 hw)) (ty := .int) (by decide)
  have f6 : Fld Z h2 b2 cBE "first" "I" (.int 0) := D2 (Or.inl (w32 hw)) (ty := .int) (by decide)
  refine go_st (fun t k => st2 t k) ?_
  refine go_st (fun t k => XS.dup X2.here hx rfl (hb hby at_95) rfl rfl k) ?_
  show Go _ _ _ _ (T2.setTop (mkF m 96 #[iv p0, iv p1, .val (.long p2), .second, iv p3, iv p4, iv p5, iv n_, iv i0, iv i1, iv i2, iv m0, iv m1, iv p3, iv r_1, iv q2, iv ln2, .unset, .unset, .unset] [(.ref b2), (.ref b2)]))
  have g_b2 : n0 ≤ b2 := Nat.le_trans (Nat.le_trans Z0 (Nat.le_refl _)) (Nat.le_of_eq gq2.symm)
  obtain ⟨_, _, ⟨T7, L7, kk7, nn7⟩, -, X7, ⟨Lc7, hQ7, lq7, yq7, zq7⟩, st7⟩ := X2.specialBack hx (y := (⟨"com/example/nudge/nudge/tree/BlockEntries", "<init>", "()V"⟩ : MethodName)) rfl hown (mvT hZ (w8 hw)) (mvT hZ (w9 hw)) (mvT hZ (w10 hw)) (by decide) (backOf (W := 1) (rm_init l Z a0 hw [] b2 h2 n0 (Nat.le_trans Z0 E2.1) A2 f3 f4 f6 f5 g_b2) hZ (w10 hw) (w7 hw) (by decide) (by decide)) (g := (mkF m 96 #[iv p0, iv p1, .val (.long p2), .second, iv p3, iv p4, iv p5, iv n_, iv i0, iv i1, iv i2, iv m0, iv m1, iv p3, iv r_1, iv q2, iv ln2, .unset, .unset, .unset] [(.ref b2), (.ref b2)])) rfl (by rw [hml]; rfl) (Steps.refl _) (a := b2) (argsL := []) (rest := [(.ref b2)]) (lenOf pd_3 rfl) rfl (by show 2 * 0 + _ ≤ _; exact Nat.le_of_eq rfl) (hb hby at_96) (fun _ _ => ⟨rfl, e2, (by decide : 1 + 2 ≤ _), (by decide : 4 + 128 ≤ _)⟩)
  dsimp only [Pt.U, Pt.locs, Pt.cells, Pt.slots] at X7 lq7 yq7 zq7 st7 hQ7
  subst lq7 yq7 zq7
  obtain ⟨h7, e7⟩ : ∃ z, T7.heap = z := ⟨_, rfl⟩
  rw [e7] at hQ7
  obtain ⟨ax_7, al_7, kx_7, kl_7, rfl, N7q, K7, gf7_0, lf7_0, gf7_1, lf7_1, nx7_2, p7_3, p7_4, p7_5, p7_6, p7_7, p7_8, p7_9⟩ := hQ7
  have N7 := Fr.app N1 N7q
  refine go_tr st7 ?_
  show Go _ _ _ _ (T7.setTop (mkF m 99 #[iv p0, iv p1, .val (.long p2), .second, iv p3, iv p4, iv p5, iv n_, iv i0, iv i1, iv i2, iv m0, iv m1, iv p3, iv r_1, iv q2, iv ln2, .unset, .unset, .unset] [(.ref b2)]))
  refine go_st (fun t k => XS.astore X7.here hx rfl (hb hby at_99) rfl rfl (l' := #[iv p0, iv p1, .val (.long p2), .second, iv p3, iv p4, iv p5, iv n_, iv i0, iv i1, iv i2, iv m0, iv m1, iv p3, iv r_1, iv q2, iv ln2, rv b2, .unset, .unset]) rfl k) ?_
  show Go _ _ _ _ (T7.setTop (mkF m 101 #[iv p0, iv p1, .val (.long p2), .second, iv p3, iv p4, iv p5, iv n_, iv i0, iv i1, iv i2, iv m0, iv m1, iv p3, iv r_1, iv q2, iv ln2, rv b2, .unset, .unset] []))
  rcases hn_ with rfl | rfl | rfl | rfl
  · skip
    show Go _ _ _ _ (T7.setTop (mkF m 101 #[iv p0, iv p1, .val (.long p2), .second, iv p3, iv p4, iv p5, iv 0, iv i0, iv i1, iv i2, iv m0, iv m1, iv p3, iv r_1, iv q2, iv ln2, rv b2, .unset, .unset] []))
    refine go_st (fun t k => XS.iload X7.here hx rfl (hb hby at_101) rfl k) ?_
    refine go_st (fun t k => XS.iconst X7.here hx rfl (hb hby at_103) k) ?_
    show Go _ _ _ _ (T7.setTop (mkF m 104 #[iv p0, iv p1, .val (.long p2), .second, iv p3, iv p4, iv p5, iv 0, iv i0, iv i1, iv i2, iv m0, iv m1, iv p3, iv r_1, iv q2, iv ln2, rv b2, .unset, .unset] [(.int 1), (.int 0)]))
    refine go_st (fun t k => XS.icmpYes X7.here hx rfl (pc0 := 104) (pc' := 116) rfl (hb hby at_104) rfl (tlt ((by decide) : (0 : Int32) < (1 : Int32))).1 (by decide) (by decide) k) ?_
    show Go _ _ _ _ (T7.setTop (mkF m 116 #[iv p0, iv p1, .val (.long p2), .second, iv p3, iv p4, iv p5, iv 0, iv i0, iv i1, iv i2, iv m0, iv m1, iv p3, iv r_1, iv q2, iv ln2, rv b2, .unset, .unset] []))
    refine go_st (fun t k => XS.iload X7.here hx rfl (hb hby at_116) rfl k) ?_
    refine go_st (fun t k => XS.iconst X7.here hx rfl (hb hby at_118) k) ?_
    show Go _ _ _ _ (T7.setTop (mkF m 119 #[iv p0, iv p1, .val (.long p2), .second, iv p3, iv p4, iv p5, iv 0, iv i0, iv i1, iv i2, iv m0, iv m1, iv p3, iv r_1, iv q2, iv ln2, rv b2, .unset, .unset] [(.int 2), (.int 0)]))
    refine go_st (fun t k => XS.icmpYes X7.here hx rfl (pc0 := 119) (pc' := 131) rfl (hb hby at_119) rfl (tlt ((by decide) : (0 : Int32) < (2 : Int32))).1 (by decide) (by decide) k) ?_
    show Go _ _ _ _ (T7.setTop (mkF m 131 #[iv p0, iv p1, .val (.long p2), .second, iv p3, iv p4, iv p5, iv 0, iv i0, iv i1, iv i2, iv m0, iv m1, iv p3, iv r_1, iv q2, iv ln2, rv b2, .unset, .unset] []))
    refine go_st (fun t k => XS.iload X7.here hx rfl (hb hby at_131) rfl k) ?_
    refine go_st (fun t k => XS.iconst X7.here hx rfl (hb hby at_133) k) ?_
    show Go _ _ _ _ (T7.setTop (mkF m 134 #[iv p0, iv p1, .val (.long p2), .second, iv p3, iv p4, iv p5, iv 0, iv i0, iv i1, iv i2, iv m0, iv m1, iv p3, iv r_1, iv q2, iv ln2, rv b2, .unset, .unset] [(.int 3), (.int 0)]))
    refine go_st (fun t k => XS.icmpYes X7.here hx rfl (pc0 := 134) (pc' := 146) rfl (hb hby at_134) rfl (tlt ((by decide) : (0 : Int32) < (3 : Int32))).1 (by decide) (by decide) k) ?_
    show Go _ _ _ _ (T7.setTop (mkF m 146 #[iv p0, iv p1, .val (.long p2), .second, iv p3, iv p4, iv p5, iv 0, iv i0, iv i1, iv i2, iv m0, iv m1, iv p3, iv r_1, iv q2, iv ln2, rv b2, .unset, .unset] []))
    refine go_st (fun t k => XS.aload X7.here hx rfl (hb hby at_146) rfl rfl k) ?_
    refine go_st (fun t k => XS.iload X7.here hx rfl (hb hby at_148) rfl k) ?_
    refine go_st (fun t k => XS.iload X7.here hx rfl (hb hby at_150) rfl k) ?_
    show Go _ _ _ _ (T7.setTop (mkF m 152 #[iv p0, iv p1, .val (.long p2), .second, iv p3, iv p4, iv p5, iv 0, iv i0, iv i1, iv i2, iv m0, iv m1, iv p3, iv r_1, iv q2, iv ln2, rv b2, .unset, .unset] [(.int p5), (.int r_1), (.ref b2)]))
    have nq8 : b2 ≠ ax_7 := Nat.ne_of_lt (Nat.lt_of_lt_of_le (Nat.lt_of_lt_of_le A2.lt (Nat.le_refl _)) lf7_0)
    have nq9 : b2 ≠ al_7 := Nat.ne_of_lt (Nat.lt_of_lt_of_le (Nat.lt_of_lt_of_le A2.lt (Nat.le_refl _)) lf7_1)
    have sz10 : h0.size ≤ h7.size := (Nat.le_trans E2.1 K7.1)
    obtain ⟨cq11, kq11, q11a, q11b, q11c⟩ := isOf hZ e7 p7_3
    obtain ⟨_, _, ⟨T11, L11, kk11, nn11⟩, -, X11, ⟨Lc11, hQ11, lq11, yq11, zq11⟩, st11⟩ := X7.virtualBack hx (y := (⟨"com/example/nudge/nudge/tree/BlockEntries", "lineBefore", "(II)I"⟩ : MethodName)) (z := (⟨"com/example/nudge/nudge/tree/BlockEntries", "lineBefore", "(II)I"⟩ : MethodName)) hown (mvT hZ (w26 hw)) (mvT hZ (w27 hw)) (notFace_of_selects (args := #[]) (mvT hZ (w29 hw))) (mvT hZ (w29 hw)) (mvT hZ (w28 hw)) (by decide) (backOf (W := 0) (rm_lb_000 l Z a0 hw [] b2 ax_7 al_7 kx_7 kl_7 r_1 p5 h7 n0 (Nat.le_trans Z0 sz10) p7_3 p7_4 p7_5 p7_6 p7_7 p7_8 p7_9 nq8 nq9 nx7_2 g_b2) hZ (w30 hw) (w7 hw) (by decide) (by decide)) q11a q11c (g := (mkF m 152 #[iv p0, iv p1, .val (.long p2), .second, iv p3, iv p4, iv p5, iv 0, iv i0, iv i1, iv i2, iv m0, iv m1, iv p3, iv r_1, iv q2, iv ln2, rv b2, .unset, .unset] [(.int p5), (.int r_1), (.ref b2)])) rfl (by rw [hml]; rfl) (Steps.refl _) (argsL := [(.int r_1), (.int p5)]) (rest := []) (lenOf pd_2 rfl) rfl (by show 2 * 0 + _ ≤ _; exact Nat.le_of_eq rfl) (hb hby at_152) (fun _ _ => ⟨rfl, e7, (by decide : 3 + 0 ≤ _), (by decide : 132 + 0 ≤ _)⟩)
    dsimp only [Pt.U, Pt.locs, Pt.cells, Pt.slots] at X11 lq11 yq11 zq11 st11 hQ11
    subst lq11 yq11 zq11
    obtain ⟨h11, e11⟩ : ∃ z, T11.heap = z := ⟨_, rfl⟩
    rw [e11] at hQ11
    obtain ⟨rfl, N11q, K11, p11_0, p11_1, p11_2, p11_3, p11_4, p11_5, p11_6⟩ := hQ11
    have N11 := Fr.app N7 N11q
    refine go_tr st11 ?_
    show Go _ _ _ _ (T11.setTop (mkF m 155 #[iv p0, iv p1, .val (.long p2), .second, iv p3, iv p4, iv p5, iv 0, iv i0, iv i1, iv i2, iv m0, iv m1, iv p3, iv r_1, iv q2, iv ln2, rv b2, .unset, .unset] [(.int p5)]))
    refine go_st (fun t k => XS.istore X11.here hx rfl (hb hby at_155) rfl (l' := #[iv p0, iv p1, .val (.long p2), .second, iv p3, iv p4, iv p5, iv 0, iv i0, iv i1, iv i2, iv m0, iv m1, iv p3, iv r_1, iv q2, iv ln2, rv b2, iv p5, .unset]) rfl k) ?_
    refine go_st (fun t k => XS.aload X11.here hx rfl (hb hby at_157) rfl rfl k) ?_
    refine go_st (fun t k => XS.iload X11.here hx rfl (hb hby at_159) rfl k) ?_
    refine go_st (fun t k => XS.iload X11.here hx rfl (hb hby at_161) rfl k) ?_
    show Go _ _ _ _ (T11.setTop (mkF m 163 #[iv p0, iv p1, .val (.long p2), .second, iv p3, iv p4, iv p5, iv 0, iv i0, iv i1, iv i2, iv m0, iv m1, iv p3, iv r_1, iv q2, iv ln2, rv b2, iv p5, .unset] [(.int ln2), (.int q2), (.ref b2)]))
    have sz12 : h0.size ≤ h11.size := (Nat.le_trans sz10 K11.1)
    obtain ⟨cq13, kq13, q13a, q13b, q13c⟩ := isOf hZ e11 p11_0
    obtain ⟨_, _, ⟨T13, L13, kk13, nn13⟩, -, X13, ⟨Lc13, hQ13, lq13, yq13, zq13⟩, st13⟩ := X11.virtualBack hx (y := (⟨"com/example/nudge/nudge/tree/BlockEntries", "lineBefore", "(II)I"⟩ : MethodName)) (z := (⟨"com/example/nudge/nudge/tree/BlockEntries", "lineBefore", "(II)I"⟩ : MethodName)) hown (mvT hZ (w26 hw)) (mvT hZ (w27 hw)) (notFace_of_selects (args := #[]) (mvT hZ (w29 hw))) (mvT hZ (w29 hw)) (mvT hZ (w28 hw)) (by decide) (backOf (W := 0) (rm_lb_000 l Z a0 hw [] b2 ax_7 al_7 kx_7 kl_7 q2 ln2 h11 n0 (Nat.le_trans Z0 sz12) p11_0 p11_1 p11_2 p11_3 p11_4 p11_5 p11_6 nq8 nq9 nx7_2 g_b2) hZ (w30 hw) (w7 hw) (by decide) (by decide)) q13a q13c (g := (mkF m 163 #[iv p0, iv p1, .val (.long p2), .second, iv p3, iv p4, iv p5, iv 0, iv i0, iv i1, iv i2, iv m0, iv m1, iv p3, iv r_1, iv q2, iv ln2, rv b2, iv p5, .unset] [(.int ln2), (.int q2), (.ref b2)])) rfl (by rw [hml]; rfl) (Steps.refl _) (argsL := [(.int q2), (.int ln2)]) (rest := []) (lenOf pd_2 rfl) rfl (by show 2 * 0 + _ ≤ _; exact Nat.le_of_eq rfl) (hb hby at_163) (fun _ _ => ⟨rfl, e11, (by decide : 3 + 0 ≤ _), (by decide : 132 + 0 ≤ _)⟩)
    dsimp only [Pt.U, Pt.locs, Pt.cells, Pt.slots] at X13 lq13 yq13 zq13 st13 hQ13
    subst lq13 yq13 zq13
    obtain ⟨h13, e13⟩ : ∃ z, T13.heap = z := ⟨_, rfl⟩
    rw [e13] at hQ13
    obtain ⟨rfl, N13q, K13, p13_0, p13_1, p13_2, p13_3, p13_4, p13_5, p13_6⟩ := hQ13
    have N13 := Fr.app N11 N13q
    refine go_tr st13 ?_
    show Go _ _ _ _ (T13.setTop (mkF m 166 #[iv p0, iv p1, .val (.long p2), .second, iv p3, iv p4, iv p5, iv 0, iv i0, iv i1, iv i2, iv m0, iv m1, iv p3, iv r_1, iv q2, iv ln2, rv b2, iv p5, .unset] [(.int ln2)]))
    refine go_st (fun t k => XS.istore X13.here hx rfl (hb hby at_166) rfl (l' := #[iv p0, iv p1, .val (.long p2), .second, iv p3, iv p4, iv p5, iv 0, iv i0, iv i1, iv i2, iv m0, iv m1, iv p3, iv r_1, iv q2, iv ln2, rv b2, iv p5, iv ln2]) rfl k) ?_
    refine go_st (fun t k => XS.iload X13.here hx rfl (hb hby at_168) rfl k) ?_
    refine go_st (fun t k => XS.iload X13.here hx rfl (hb hby at_170) rfl k) ?_
    refine go_st (fun t k => XS.iload X13.here hx rfl (hb hby at_172) rfl k) ?_
    refine go_st (fun t k => XS.iload X13.here hx rfl (hb hby at_174) rfl k) ?_
    show Go _ _ _ _ (T13.setTop (mkF m 176 #[iv p0, iv p1, .val (.long p2), .second, iv p3, iv p4, iv p5, iv 0, iv i0, iv i1, iv i2, iv m0, iv m1, iv p3, iv r_1, iv q2, iv ln2, rv b2, iv p5, iv ln2] [(.int i0), (.int 0), (.int r_1), (.int p5)]))
    refine go_st (fun t k => XS.iload X13.here hx rfl (hb hby at_176) rfl k) ?_
    refine go_st (fun t k => XS.iload X13.here hx rfl (hb hby at_178) rfl k) ?_
    refine go_st (fun t k => XS.iload X13.here hx rfl (hb hby at_180) rfl k) ?_
    refine go_st (fun t k => XS.iload X13.here hx rfl (hb hby at_182) rfl k) ?_
    refine go_st (fun t k => XS.iload X13.here hx rfl (hb hby at_184) rfl k) ?_
    refine go_st (fun t k => XS.iload X13.here hx rfl (hb hby at_186) rfl k) ?_
    show Go _ _ _ _ (T13.setTop (mkF m 188 #[iv p0, iv p1, .val (.long p2), .second, iv p3, iv p4, iv p5, iv 0, iv i0, iv i1, iv i2, iv m0, iv m1, iv p3, iv r_1, iv q2, iv ln2, rv b2, iv p5, iv ln2] [(.int p5), (.int p3), (.int m1), (.int m0), (.int i2), (.int i1), (.int i0), (.int 0), (.int r_1), (.int p5)]))
    have sz14 : h0.size ≤ h13.size := (Nat.le_trans sz12 K13.1)
    obtain ⟨_, _, ⟨T15, L15, kk15, nn15⟩, -, X15, ⟨Lc15, hQ15, lq15, yq15, zq15⟩, st15⟩ := Jvm.LawKit.callS X13 hx (y := (⟨"com/example/nudge/nudge/tree/BlockEntriesLineBeforePinLaw", "expected", "(IIIIIIIII)I"⟩ : MethodName)) hown (mvT hZ (w43 hw)) (mvT hZ (w44 hw)) (mvT hZ (w45 hw)) (mvT hZ (w46 hw)) (by decide) (backOf (W := 1) (rm_exp_00 l Z a0 hw [] r_1 i0 i1 i2 m0 m1 p3 p5 h13 n0 (Nat.le_trans Z0 sz14) ) hZ (w46 hw) (w45 hw) (by decide) (by decide)) (g := (mkF m 188 #[iv p0, iv p1, .val (.long p2), .second, iv p3, iv p4, iv p5, iv 0, iv i0, iv i1, iv i2, iv m0, iv m1, iv p3, iv r_1, iv q2, iv ln2, rv b2, iv p5, iv ln2] [(.int p5), (.int p3), (.int m1), (.int m0), (.int i2), (.int i1), (.int i0), (.int 0), (.int r_1), (.int p5)])) rfl (by rw [hml]; rfl) (argsL := [(.int r_1), (.int 0), (.int i0), (.int i1), (.int i2), (.int m0), (.int m1), (.int p3), (.int p5)]) (rest := [(.int p5)]) (lenOf pd_4 rfl) rfl (by show 2 * 0 + _ ≤ _; exact Nat.le_of_eq rfl) (hb hby at_188) (fun _ _ => ⟨rfl, e13, (by decide : 3 + 0 ≤ _), (by decide : 132 + 0 ≤ _)⟩)
    dsimp only [Pt.U, Pt.locs, Pt.cells, Pt.slots] at X15 lq15 yq15 zq15 st15 hQ15
    subst lq15 yq15 zq15
    obtain ⟨h15, e15⟩ : ∃ z, T15.heap = z := ⟨_, rfl⟩
    rw [e15] at hQ15
    obtain ⟨rfl, N15q, he15⟩ := hQ15
    have N15 := Fr.app N13 N15q
    rw [he15] at e15
    refine go_st st15 ?_
    show Go _ _ _ _ (T15.setTop (mkF m 191 #[iv p0, iv p1, .val (.long p2), .second, iv p3, iv p4, iv p5, iv 0, iv i0, iv i1, iv i2, iv m0, iv m1, iv p3, iv r_1, iv q2, iv ln2, rv b2, iv p5, iv ln2] [(.int p5), (.int p5)]))
    refine go_st (fun t k => XS.icmpNo X15.here hx rfl (hb hby at_191) rfl (teq (rfl : p5 = p5)).2 k) ?_
    show Go _ _ _ _ (T15.setTop (mkF m 194 #[iv p0, iv p1, .val (.long p2), .second, iv p3, iv p4, iv p5, iv 0, iv i0, iv i1, iv i2, iv m0, iv m1, iv p3, iv r_1, iv q2, iv ln2, rv b2, iv p5, iv ln2] []))
    refine go_st (fun t k => XS.iload X15.here hx rfl (hb hby at_194) rfl k) ?_
    refine go_st (fun t k => XS.iload X15.here hx rfl (hb hby at_196) rfl k) ?_
    refine go_st (fun t k => XS.iload X15.here hx rfl (hb hby at_198) rfl k) ?_
    refine go_st (fun t k => XS.iload X15.here hx rfl (hb hby at_200) rfl k) ?_
    refine go_st (fun t k => XS.iload X15.here hx rfl (hb hby at_202) rfl k) ?_
    refine go_st (fun t k => XS.iload X15.here hx rfl (hb hby at_204) rfl k) ?_
    refine go_st (fun t k => XS.iload X15.here hx rfl (hb hby at_206) rfl k) ?_
    refine go_st (fun t k => XS.iload X15.here hx rfl (hb hby at_208) rfl k) ?_
    refine go_st (fun t k => XS.iload X15.here hx rfl (hb hby at_210) rfl k) ?_
    refine go_st (fun t k => XS.iload X15.here hx rfl (hb hby at_212) rfl k) ?_
    show Go _ _ _ _ (T15.setTop (mkF m 214 #[iv p0, iv p1, .val (.long p2), .second, iv p3, iv p4, iv p5, iv 0, iv i0, iv i1, iv i2, iv m0, iv m1, iv p3, iv r_1, iv q2, iv ln2, rv b2, iv p5, iv ln2] [(.int ln2), (.int p3), (.int m1), (.int m0), (.int i2), (.int i1), (.int i0), (.int 0), (.int q2), (.int ln2)]))
    obtain ⟨_, _, ⟨T16, L16, kk16, nn16⟩, -, X16, ⟨Lc16, hQ16, lq16, yq16, zq16⟩, st16⟩ := Jvm.LawKit.callS X15 hx (y := (⟨"com/example/nudge/nudge/tree/BlockEntriesLineBeforePinLaw", "expected", "(IIIIIIIII)I"⟩ : MethodName)) hown (mvT hZ (w43 hw)) (mvT hZ (w44 hw)) (mvT hZ (w45 hw)) (mvT hZ (w46 hw)) (by decide) (backOf (W := 1) (rm_exp_00 l Z a0 hw [] q2 i0 i1 i2 m0 m1 p3 ln2 h13 n0 (Nat.le_trans Z0 sz14) ) hZ (w46 hw) (w45 hw) (by decide) (by decide)) (g := (mkF m 214 #[iv p0, iv p1, .val (.long p2), .second, iv p3, iv p4, iv p5, iv 0, iv i0, iv i1, iv i2, iv m0, iv m1, iv p3, iv r_1, iv q2, iv ln2, rv b2, iv p5, iv ln2] [(.int ln2), (.int p3), (.int m1), (.int m0), (.int i2), (.int i1), (.int i0), (.int 0), (.int q2), (.int ln2)])) rfl (by rw [hml]; rfl) (argsL := [(.int q2), (.int 0), (.int i0), (.int i1), (.int i2), (.int m0), (.int m1), (.int p3), (.int ln2)]) (rest := [(.int ln2)]) (lenOf pd_4 rfl) rfl (by show 2 * 0 + _ ≤ _; exact Nat.le_of_eq rfl) (hb hby at_214) (fun _ _ => ⟨rfl, e15, (by decide : 3 + 0 ≤ _), (by decide : 132 + 0 ≤ _)⟩)
    dsimp only [Pt.U, Pt.locs, Pt.cells, Pt.slots] at X16 lq16 yq16 zq16 st16 hQ16
    subst lq16 yq16 zq16
    obtain ⟨h16, e16⟩ : ∃ z, T16.heap = z := ⟨_, rfl⟩
    rw [e16] at hQ16
    obtain ⟨rfl, N16q, he16⟩ := hQ16
    have N16 := Fr.app N15 N16q
    rw [he16] at e16
    refine go_st st16 ?_
    show Go _ _ _ _ (T16.setTop (mkF m 217 #[iv p0, iv p1, .val (.long p2), .second, iv p3, iv p4, iv p5, iv 0, iv i0, iv i1, iv i2, iv m0, iv m1, iv p3, iv r_1, iv q2, iv ln2, rv b2, iv p5, iv ln2] [(.int ln2), (.int ln2)]))
    refine go_st (fun t k => XS.icmpNo X16.here hx rfl (hb hby at_217) rfl (teq (rfl : ln2 = ln2)).2 k) ?_
    show Go _ _ _ _ (T16.setTop (mkF m 220 #[iv p0, iv p1, .val (.long p2), .second, iv p3, iv p4, iv p5, iv 0, iv i0, iv i1, iv i2, iv m0, iv m1, iv p3, iv r_1, iv q2, iv ln2, rv b2, iv p5, iv ln2] []))
    refine go_st (fun t k => XS.iconst X16.here hx rfl (hb hby at_220) k) ?_
    refine go_st (fun t k => XS.goto X16.here hx rfl (pc0 := 221) (pc' := 225) rfl (hb hby at_221) (by decide) (by decide) k) ?_
    show Go _ _ _ _ (T16.setTop (mkF m 225 #[iv p0, iv p1, .val (.long p2), .second, iv p3, iv p4, iv p5, iv 0, iv i0, iv i1, iv i2, iv m0, iv m1, iv p3, iv r_1, iv q2, iv ln2, rv b2, iv p5, iv ln2] [(.int 1)]))
    have ke17 : Keep h0 h2 [] := (Keep.ext (Keep.refl h0 []) E2)
    have ke18 : Keep h0 h7 [] := (Keep.trans ke17 K7 (allS (Or.inr (Nat.le_of_eq gq2.symm)) all0))
    have ke19 : Keep h0 h11 [] := (Keep.trans ke18 K11 (allS (Or.inr (Nat.le_of_eq gq2.symm)) all0))
    have ke20 : Keep h0 h13 [] := (Keep.trans ke19 K13 (allS (Or.inr (Nat.le_of_eq gq2.symm)) all0))
    obtain ⟨fs, hr, hrun, hended, hW, hsame⟩ := X16.leave (v := some (.int 1)) (fun h => by rw [Bd.returns] at h; cases h)
    refine ⟨_, _, ?_, hrun, hended, _, _, rfl, ?_, ⟨_, rfl⟩, hW, hsame.mono (by decide) (by decide)⟩
    · exact retN X16 hx (t := .boolean) Bd.returns (by simp) (hb hby at_225) hr
    · show Q_law _ _ _ _ _ _ _ _ _ _ T16.heap _
      rw [e16]
      exact ⟨rfl, N16, ke20⟩
  · skip
    show Go _ _ _ _ (T7.setTop (mkF m 101 #[iv p0, iv p1, .val (.long p2), .second, iv p3, iv p4, iv p5, iv 1, iv i0, iv i1, iv i2, iv m0, iv m1, iv p3, iv r_1, iv q2, iv ln2, rv b2, .unset, .unset] []))
    refine go_st (fun t k => XS.iload X7.here hx rfl (hb hby at_101) rfl k) ?_
    refine go_st (fun t k => XS.iconst X7.here hx rfl (hb hby at_103) k) ?_
    show Go _ _ _ _ (T7.setTop (mkF m 104 #[iv p0, iv p1, .val (.long p2), .second, iv p3, iv p4, iv p5, iv 1, iv i0, iv i1, iv i2, iv m0, iv m1, iv p3, iv r_1, iv q2, iv ln2, rv b2, .unset, .unset] [(.int 1), (.int 1)]))
    refine go_st (fun t k => XS.icmpNo X7.here hx rfl (hb hby at_104) rfl (flt ((by decide) : ¬ ((1 : Int32) < (1 : Int32)))).1 k) ?_
    show Go _ _ _ _ (T7.setTop (mkF m 107 #[iv p0, iv p1, .val (.long p2), .second, iv p3, iv p4, iv p5, iv 1, iv i0, iv i1, iv i2, iv m0, iv m1, iv p3, iv r_1, iv q2, iv ln2, rv b2, .unset, .unset] []))
    refine go_st (fun t k => XS.aload X7.here hx rfl (hb hby at_107) rfl rfl k) ?_
    refine go_st (fun t k => XS.iload X7.here hx rfl (hb hby at_109) rfl k) ?_
    refine go_st (fun t k => XS.iload X7.here hx rfl (hb hby at_111) rfl k) ?_
    show Go _ _ _ _ (T7.setTop (mkF m 113 #[iv p0, iv p1, .val (.long p2), .second, iv p3, iv p4, iv p5, iv 1, iv i0, iv i1, iv i2, iv m0, iv m1, iv p3, iv r_1, iv q2, iv ln2, rv b2, .unset, .unset] [(.int m0), (.int i0), (.ref b2)]))
    have nq21 : b2 ≠ ax_7 := Nat.ne_of_lt (Nat.lt_of_lt_of_le (Nat.lt_of_lt_of_le A2.lt (Nat.le_refl _)) lf7_0)
    have nq22 : b2 ≠ al_7 := Nat.ne_of_lt (Nat.lt_of_lt_of_le (Nat.lt_of_lt_of_le A2.lt (Nat.le_refl _)) lf7_1)
    have sz23 : h0.size ≤ h7.size := (Nat.le_trans E2.1 K7.1)
    obtain ⟨cq24, kq24, q24a, q24b, q24c⟩ := isOf hZ e7 p7_3
    obtain ⟨_, _, ⟨T24, L24, kk24, nn24⟩, -, X24, ⟨Lc24, hQ24, lq24, yq24, zq24⟩, st24⟩ := X7.virtualBack hx (y := (⟨"com/example/nudge/nudge/tree/BlockEntries", "note", "(II)V"⟩ : MethodName)) (z := (⟨"com/example/nudge/nudge/tree/BlockEntries", "note", "(II)V"⟩ : MethodName)) hown (mvT hZ (w19 hw)) (mvT hZ (w20 hw)) (notFace_of_selects (args := #[]) (mvT hZ (w22 hw))) (mvT hZ (w22 hw)) (mvT hZ (w21 hw)) (by decide) (backOf (W := 0) (rm_note0 l Z a0 hw [] b2 ax_7 al_7 kx_7 kl_7 i0 m0 h7 n0 (Nat.le_trans Z0 sz23) p7_3 p7_4 p7_5 p7_6 p7_7 p7_8 p7_9 nq21 nq22 nx7_2 g_b2 gf7_0 gf7_1) hZ (w23 hw) (w7 hw) (by decide) (by decide)) q24a q24c (g := (mkF m 113 #[iv p0, iv p1, .val (.long p2), .second, iv p3, iv p4, iv p5, iv 1, iv i0, iv i1, iv i2, iv m0, iv m1, iv p3, iv r_1, iv q2, iv ln2, rv b2, .unset, .unset] [(.int m0), (.int i0), (.ref b2)])) rfl (by rw [hml]; rfl) (Steps.refl _) (argsL := [(.int i0), (.int m0)]) (rest := []) (lenOf pd_5 rfl) rfl (by show 2 * 0 + _ ≤ _; exact Nat.le_of_eq rfl) (hb hby at_113) (fun _ _ => ⟨rfl, e7, (by decide : 3 + 0 ≤ _), (by decide : 132 + 0 ≤ _)⟩)
    dsimp only [Pt.U, Pt.locs, Pt.cells, Pt.slots] at X24 lq24 yq24 zq24 st24 hQ24
    subst lq24 yq24 zq24
    obtain ⟨h24, e24⟩ : ∃ z, T24.heap = z := ⟨_, rfl⟩
    rw [e24] at hQ24
    obtain ⟨rfl, N24q, K24, p24_0, p24_1, p24_2, p24_3, p24_4, p24_5, p24_6⟩ := hQ24
    have N24 := Fr.app N7 N24q
    refine go_tr st24 ?_
    show Go _ _ _ _ (T24.setTop (mkF m 116 #[iv p0, iv p1, .val (.long p2), .second, iv p3, iv p4, iv p5, iv 1, iv i0, iv i1, iv i2, iv m0, iv m1, iv p3, iv r_1, iv q2, iv ln2, rv b2, .unset, .unset] []))
    refine go_st (fun t k => XS.iload X24.here hx rfl (hb hby at_116) rfl k) ?_
    refine go_st (fun t k => XS.iconst X24.here hx rfl (hb hby at_118) k) ?_
    show Go _ _ _ _ (T24.setTop (mkF m 119 #[iv p0, iv p1, .val (.long p2), .second, iv p3, iv p4, iv p5, iv 1, iv i0, iv i1, iv i2, iv m0, iv m1, iv p3, iv r_1, iv q2, iv ln2, rv b2, .unset, .unset] [(.int 2), (.int 1)]))
    refine go_st (fun t k => XS.icmpYes X24.here hx rfl (pc0 := 119) (pc' := 131) rfl (hb hby at_119) rfl (tlt ((by decide) : (1 : Int32) < (2 : Int32))).1 (by decide) (by decide) k) ?_
    show Go _ _ _ _ (T24.setTop (mkF m 131 #[iv p0, iv p1, .val (.long p2), .second, iv p3, iv p4, iv p5, iv 1, iv i0, iv i1, iv i2, iv m0, iv m1, iv p3, iv r_1, iv q2, iv ln2, rv b2, .unset, .unset] []))
    refine go_st (fun t k => XS.iload X24.here hx rfl (hb hby at_131) rfl k) ?_
    refine go_st (fun t k => XS.iconst X24.here hx rfl (hb hby at_133) k) ?_
    show Go _ _ _ _ (T24.setTop (mkF m 134 #[iv p0, iv p1, .val (.long p2), .second, iv p3, iv p4, iv p5, iv 1, iv i0, iv i1, iv i2, iv m0, iv m1, iv p3, iv r_1, iv q2, iv ln2, rv b2, .unset, .unset] [(.int 3), (.int 1)]))
    refine go_st (fun t k => XS.icmpYes X24.here hx rfl (pc0 := 134) (pc' := 146) rfl (hb hby at_134) rfl (tlt ((by decide) : (1 : Int32) < (3 : Int32))).1 (by decide) (by decide) k) ?_
    show Go _ _ _ _ (T24.setTop (mkF m 146 #[iv p0, iv p1, .val (.long p2), .second, iv p3, iv p4, iv p5, iv 1, iv i0, iv i1, iv i2, iv m0, iv m1, iv p3, iv r_1, iv q2, iv ln2, rv b2, .unset, .unset] []))
    refine go_st (fun t k => XS.aload X24.here hx rfl (hb hby at_146) rfl rfl k) ?_
    refine go_st (fun t k => XS.iload X24.here hx rfl (hb hby at_148) rfl k) ?_
    refine go_st (fun t k => XS.iload X24.here hx rfl (hb hby at_150) rfl k) ?_
    show Go _ _ _ _ (T24.setTop (mkF m 152 #[iv p0, iv p1, .val (.long p2), .second, iv p3, iv p4, iv p5, iv 1, iv i0, iv i1, iv i2, iv m0, iv m1, iv p3, iv r_1, iv q2, iv ln2, rv b2, .unset, .unset] [(.int p5), (.int r_1), (.ref b2)]))
    by_cases hp25 : i0 < r_1
    · skip
      have sz26 : h0.size ≤ h24.size := (Nat.le_trans sz23 K24.1)
      obtain ⟨cq27, kq27, q27a, q27b, q27c⟩ := isOf hZ e24 p24_0
      obtain ⟨_, _, ⟨T27, L27, kk27, nn27⟩, -, X27, ⟨Lc27, hQ27, lq27, yq27, zq27⟩, st27⟩ := X24.virtualBack hx (y := (⟨"com/example/nudge/nudge/tree/BlockEntries", "lineBefore", "(II)I"⟩ : MethodName)) (z := (⟨"com/example/nudge/nudge/tree/BlockEntries", "lineBefore", "(II)I"⟩ : MethodName)) hown (mvT hZ (w26 hw)) (mvT hZ (w27 hw)) (notFace_of_selects (args := #[]) (mvT hZ (w29 hw))) (mvT hZ (w29 hw)) (mvT hZ (w28 hw)) (by decide) (backOf (W := 0) (rm_lb_011 l Z a0 hw [] b2 ax_7 al_7 kx_7 kl_7 r_1 p5 i0 m0 h24 n0 (Nat.le_trans Z0 sz26) p24_0 p24_1 p24_2 p24_3 p24_4 p24_5 p24_6 nq21 nq22 nx7_2 g_b2 hp25) hZ (w30 hw) (w7 hw) (by decide) (by decide)) q27a q27c (g := (mkF m 152 #[iv p0, iv p1, .val (.long p2), .second, iv p3, iv p4, iv p5, iv 1, iv i0, iv i1, iv i2, iv m0, iv m1, iv p3, iv r_1, iv q2, iv ln2, rv b2, .unset, .unset] [(.int p5), (.int r_1), (.ref b2)])) rfl (by rw [hml]; rfl) (Steps.refl _) (argsL := [(.int r_1), (.int p5)]) (rest := []) (lenOf pd_2 rfl) rfl (by show 2 * 0 + _ ≤ _; exact Nat.le_of_eq rfl) (hb hby at_152) (fun _ _ => ⟨rfl, e24, (by decide : 3 + 0 ≤ _), (by decide : 132 + 0 ≤ _)⟩)
      dsimp only [Pt.U, Pt.locs, Pt.cells, Pt.slots] at X27 lq27 yq27 zq27 st27 hQ27
      subst lq27 yq27 zq27
      obtain ⟨h27, e27⟩ : ∃ z, T27.heap = z := ⟨_, rfl⟩
      rw [e27] at hQ27
      obtain ⟨rfl, N27q, K27, p27_0, p27_1, p27_2, p27_3, p27_4, p27_5, p27_6⟩ := hQ27
      have N27 := Fr.app N24 N27q
      refine go_tr st27 ?_
      show Go _ _ _ _ (T27.setTop (mkF m 155 #[iv p0, iv p1, .val (.long p2), .second, iv p3, iv p4, iv p5, iv 1, iv i0, iv i1, iv i2, iv m0, iv m1, iv p3, iv r_1, iv q2, iv ln2, rv b2, .unset, .unset] [(.int m0)]))
      refine go_st (fun t k => XS.istore X27.here hx rfl (hb hby at_155) rfl (l' := #[iv p0, iv p1, .val (.long p2), .second, iv p3, iv p4, iv p5, iv 1, iv i0, iv i1, iv i2, iv m0, iv m1, iv p3, iv r_1, iv q2, iv ln2, rv b2, iv m0, .unset]) rfl k) ?_
      refine go_st (fun t k => XS.aload X27.here hx rfl (hb hby at_157) rfl rfl k) ?_
      refine go_st (fun t k => XS.iload X27.here hx rfl (hb hby at_159) rfl k) ?_
      refine go_st (fun t k => XS.iload X27.here hx rfl (hb hby at_161) rfl k) ?_
      show Go _ _ _ _ (T27.setTop (mkF m 163 #[iv p0, iv p1, .val (.long p2), .second, iv p3, iv p4, iv p5, iv 1, iv i0, iv i1, iv i2, iv m0, iv m1, iv p3, iv r_1, iv q2, iv ln2, rv b2, iv m0, .unset] [(.int ln2), (.int q2), (.ref b2)]))
      have hlq : i0 < q2 := pl_lt (by have := pl_of hp25; omega)
      have sz28 : h0.size ≤ h27.size := (Nat.le_trans sz26 K27.1)
      obtain ⟨cq29, kq29, q29a, q29b, q29c⟩ := isOf hZ e27 p27_0
      obtain ⟨_, _, ⟨T29, L29, kk29, nn29⟩, -, X29, ⟨Lc29, hQ29, lq29, yq29, zq29⟩, st29⟩ := X27.virtualBack hx (y := (⟨"com/example/nudge/nudge/tree/BlockEntries", "lineBefore", "(II)I"⟩ : MethodName)) (z := (⟨"com/example/nudge/nudge/tree/BlockEntries", "lineBefore", "(II)I"⟩ : MethodName)) hown (mvT hZ (w26 hw)) (mvT hZ (w27 hw)) (notFace_of_selects (args := #[]) (mvT hZ (w29 hw))) (mvT hZ (w29 hw)) (mvT hZ (w28 hw)) (by decide) (backOf (W := 0) (rm_lb_011 l Z a0 hw [] b2 ax_7 al_7 kx_7 kl_7 q2 ln2 i0 m0 h27 n0 (Nat.le_trans Z0 sz28) p27_0 p27_1 p27_2 p27_3 p27_4 p27_5 p27_6 nq21 nq22 nx7_2 g_b2 hlq) hZ (w30 hw) (w7 hw) (by decide) (by decide)) q29a q29c (g := (mkF m 163 #[iv p0, iv p1, .val (.long p2), .second, iv p3, iv p4, iv p5, iv 1, iv i0, iv i1, iv i2, iv m0, iv m1, iv p3, iv r_1, iv q2, iv ln2, rv b2, iv m0, .unset] [(.int ln2), (.int q2), (.ref b2)])) rfl (by rw [hml]; rfl) (Steps.refl _) (argsL := [(.int q2), (.int ln2)]) (rest := []) (lenOf pd_2 rfl) rfl (by show 2 * 0 + _ ≤ _; exact Nat.le_of_eq rfl) (hb hby at_163) (fun _ _ => ⟨rfl, e27, (by decide : 3 + 0 ≤ _), (by decide : 132 + 0 ≤ _)⟩)
      dsimp only [Pt.U, Pt.locs, Pt.cells, Pt.slots] at X29 lq29 yq29 zq29 st29 hQ29
      subst lq29 yq29 zq29
      obtain ⟨h29, e29⟩ : ∃ z, T29.heap = z := ⟨_, rfl⟩
      rw [e29] at hQ29
      obtain ⟨rfl, N29q, K29, p29_0, p29_1, p29_2, p29_3, p29_4, p29_5, p29_6⟩ := hQ29
      have N29 := Fr.app N27 N29q
      refine go_tr st29 ?_
      show Go _ _ _ _ (T29.setTop (mkF m 166 #[iv p0, iv p1, .val (.long p2), .second, iv p3, iv p4, iv p5, iv 1, iv i0, iv i1, iv i2, iv m0, iv m1, iv p3, iv r_1, iv q2, iv ln2, rv b2, iv m0, .unset] [(.int m0)]))
      refine go_st (fun t k => XS.istore X29.here hx rfl (hb hby at_166) rfl (l' := #[iv p0, iv p1, .val (.long p2), .second, iv p3, iv p4, iv p5, iv 1, iv i0, iv i1, iv i2, iv m0, iv m1, iv p3, iv r_1, iv q2, iv ln2, rv b2, iv m0, iv m0]) rfl k) ?_
      refine go_st (fun t k => XS.iload X29.here hx rfl (hb hby at_168) rfl k) ?_
      show Go _ _ _ _ (T29.setTop (mkF m 170 #[iv p0, iv p1, .val (.long p2), .second, iv p3, iv p4, iv p5, iv 1, iv i0, iv i1, iv i2, iv m0, iv m1, iv p3, iv r_1, iv q2, iv ln2, rv b2, iv m0, iv m0] [(.int m0)]))
      refine go_st (fun t k => XS.iload X29.here hx rfl (hb hby at_170) rfl k) ?_
      refine go_st (fun t k => XS.iload X29.here hx rfl (hb hby at_172) rfl k) ?_
      refine go_st (fun t k => XS.iload X29.here hx rfl (hb hby at_174) rfl k) ?_
      refine go_st (fun t k => XS.iload X29.here hx rfl (hb hby at_176) rfl k) ?_
      refine go_st (fun t k => XS.iload X29.here hx rfl (hb hby at_178) rfl k) ?_
      refine go_st (fun t k => XS.iload X29.here hx rfl (hb hby at_180) rfl k) ?_
      refine go_st (fun t k => XS.iload X29.here hx rfl (hb hby at_182) rfl k) ?_
      refine go_st (fun t k => XS.iload X29.here hx rfl (hb hby at_184) rfl k) ?_
      refine go_st (fun t k => XS.iload X29.here hx rfl (hb hby at_186) rfl k) ?_
      show Go _ _ _ _ (T29.setTop (mkF m 188 #[iv p0, iv p1, .val (.long p2), .second, iv p3, iv p4, iv p5, iv 1, iv i0, iv i1, iv i2, iv m0, iv m1, iv p3, iv r_1, iv q2, iv ln2, rv b2, iv m0, iv m0] [(.int p5), (.int p3), (.int m1), (.int m0), (.int i2), (.int i1), (.int i0), (.int 1), (.int r_1), (.int m0)]))
      have sz30 : h0.size ≤ h29.size := (Nat.le_trans sz28 K29.1)
      obtain ⟨_, _, ⟨T31, L31, kk31, nn31⟩, -, X31, ⟨Lc31, hQ31, lq31, yq31, zq31⟩, st31⟩ := Jvm.LawKit.callS X29 hx (y := (⟨"com/example/nudge/nudge/tree/BlockEntriesLineBeforePinLaw", "expected", "(IIIIIIIII)I"⟩ : MethodName)) hown (mvT hZ (w43 hw)) (mvT hZ (w44 hw)) (mvT hZ (w45 hw)) (mvT hZ (w46 hw)) (by decide) (backOf (W := 1) (rm_exp_11 l Z a0 hw [] r_1 i0 i1 i2 m0 m1 p3 p5 h29 n0 (Nat.le_trans Z0 sz30) hp25) hZ (w46 hw) (w45 hw) (by decide) (by decide)) (g := (mkF m 188 #[iv p0, iv p1, .val (.long p2), .second, iv p3, iv p4, iv p5, iv 1, iv i0, iv i1, iv i2, iv m0, iv m1, iv p3, iv r_1, iv q2, iv ln2, rv b2, iv m0, iv m0] [(.int p5), (.int p3), (.int m1), (.int m0), (.int i2), (.int i1), (.int i0), (.int 1), (.int r_1), (.int m0)])) rfl (by rw [hml]; rfl) (argsL := [(.int r_1), (.int 1), (.int i0), (.int i1), (.int i2), (.int m0), (.int m1), (.int p3), (.int p5)]) (rest := [(.int m0)]) (lenOf pd_4 rfl) rfl (by show 2 * 0 + _ ≤ _; exact Nat.le_of_eq rfl) (hb hby at_188) (fun _ _ => ⟨rfl, e29, (by decide : 3 + 0 ≤ _), (by decide : 132 + 0 ≤ _)⟩)
      dsimp only [Pt.U, Pt.locs, Pt.cells, Pt.slots] at X31 lq31 yq31 zq31 st31 hQ31
      subst lq31 yq31 zq31
      obtain ⟨h31, e31⟩ : ∃ z, T31.heap = z := ⟨_, rfl⟩
      rw [e31] at hQ31
      obtain ⟨rfl, N31q, he31⟩ := hQ31
      have N31 := Fr.app N29 N31q
      rw [he31] at e31
      refine go_st st31 ?_
      show Go _ _ _ _ (T31.setTop (mkF m 191 #[iv p0, iv p1, .val (.long p2), .second, iv p3, iv p4, iv p5, iv 1, iv i0, iv i1, iv i2, iv m0, iv m1, iv p3, iv r_1, iv q2, iv ln2, rv b2, iv m0, iv m0] [(.int m0), (.int m0)]))
      refine go_st (fun t k => XS.icmpNo X31.here hx rfl (hb hby at_191) rfl (teq (rfl : m0 = m0)).2 k) ?_
      show Go _ _ _ _ (T31.setTop (mkF m 194 #[iv p0, iv p1, .val (.long p2), .second, iv p3, iv p4, iv p5, iv 1, iv i0, iv i1, iv i2, iv m0, iv m1, iv p3, iv r_1, iv q2, iv ln2, rv b2, iv m0, iv m0] []))
      refine go_st (fun t k => XS.iload X31.here hx rfl (hb hby at_194) rfl k) ?_
      refine go_st (fun t k => XS.iload X31.here hx rfl (hb hby at_196) rfl k) ?_
      refine go_st (fun t k => XS.iload X31.here hx rfl (hb hby at_198) rfl k) ?_
      refine go_st (fun t k => XS.iload X31.here hx rfl (hb hby at_200) rfl k) ?_
      refine go_st (fun t k => XS.iload X31.here hx rfl (hb hby at_202) rfl k) ?_
      refine go_st (fun t k => XS.iload X31.here hx rfl (hb hby at_204) rfl k) ?_
      refine go_st (fun t k => XS.iload X31.here hx rfl (hb hby at_206) rfl k) ?_
      refine go_st (fun t k => XS.iload X31.here hx rfl (hb hby at_208) rfl k) ?_
      refine go_st (fun t k => XS.iload X31.here hx rfl (hb hby at_210) rfl k) ?_
      refine go_st (fun t k => XS.iload X31.here hx rfl (hb hby at_212) rfl k) ?_
      show Go _ _ _ _ (T31.setTop (mkF m 214 #[iv p0, iv p1, .val (.long p2), .second, iv p3, iv p4, iv p5, iv 1, iv i0, iv i1, iv i2, iv m0, iv m1, iv p3, iv r_1, iv q2, iv ln2, rv b2, iv m0, iv m0] [(.int ln2), (.int p3), (.int m1), (.int m0), (.int i2), (.int i1), (.int i0), (.int 1), (.int q2), (.int m0)]))
      obtain ⟨_, _, ⟨T32, L32, kk32, nn32⟩, -, X32, ⟨Lc32, hQ32, lq32, yq32, zq32⟩, st32⟩ := Jvm.LawKit.callS X31 hx (y := (⟨"com/example/nudge/nudge/tree/BlockEntriesLineBeforePinLaw", "expected", "(IIIIIIIII)I"⟩ : MethodName)) hown (mvT hZ (w43 hw)) (mvT hZ (w44 hw)) (mvT hZ (w45 hw)) (mvT hZ (w46 hw)) (by decide) (backOf (W := 1) (rm_exp_11 l Z a0 hw [] q2 i0 i1 i2 m0 m1 p3 ln2 h29 n0 (Nat.le_trans Z0 sz30) hlq) hZ (w46 hw) (w45 hw) (by decide) (by decide)) (g := (mkF m 214 #[iv p0, iv p1, .val (.long p2), .second, iv p3, iv p4, iv p5, iv 1, iv i0, iv i1, iv i2, iv m0, iv m1, iv p3, iv r_1, iv q2, iv ln2, rv b2, iv m0, iv m0] [(.int ln2), (.int p3), (.int m1), (.int m0), (.int i2), (.int i1), (.int i0), (.int 1), (.int q2), (.int m0)])) rfl (by rw [hml]; rfl) (argsL := [(.int q2), (.int 1), (.int i0), (.int i1), (.int i2), (.int m0), (.int m1), (.int p3), (.int ln2)]) (rest := [(.int m0)]) (lenOf pd_4 rfl) rfl (by show 2 * 0 + _ ≤ _; exact Nat.le_of_eq rfl) (hb hby at_214) (fun _ _ => ⟨rfl, e31, (by decide : 3 + 0 ≤ _), (by decide : 132 + 0 ≤ _)⟩)
      dsimp only [Pt.U, Pt.locs, Pt.cells, Pt.slots] at X32 lq32 yq32 zq32 st32 hQ32
      subst lq32 yq32 zq32
      obtain ⟨h32, e32⟩ : ∃ z, T32.heap = z := ⟨_, rfl⟩
      rw [e32] at hQ32
      obtain ⟨rfl, N32q, he32⟩ := hQ32
      have N32 := Fr.app N31 N32q
      rw [he32] at e32
      refine go_st st32 ?_
      show Go _ _ _ _ (T32.setTop (mkF m 217 #[iv p0, iv p1, .val (.long p2), .second, iv p3, iv p4, iv p5, iv 1, iv i0, iv i1, iv i2, iv m0, iv m1, iv p3, iv r_1, iv q2, iv ln2, rv b2, iv m0, iv m0] [(.int m0), (.int m0)]))
      refine go_st (fun t k => XS.icmpNo X32.here hx rfl (hb hby at_217) rfl (teq (rfl : m0 = m0)).2 k) ?_
      show Go _ _ _ _ (T32.setTop (mkF m 220 #[iv p0, iv p1, .val (.long p2), .second, iv p3, iv p4, iv p5, iv 1, iv i0, iv i1, iv i2, iv m0, iv m1, iv p3, iv r_1, iv q2, iv ln2, rv b2, iv m0, iv m0] []))
      refine go_st (fun t k => XS.iconst X32.here hx rfl (hb hby at_220) k) ?_
      refine go_st (fun t k => XS.goto X32.here hx rfl (pc0 := 221) (pc' := 225) rfl (hb hby at_221) (by decide) (by decide) k) ?_
      show Go _ _ _ _ (T32.setTop (mkF m 225 #[iv p0, iv p1, .val (.long p2), .second, iv p3, iv p4, iv p5, iv 1, iv i0, iv i1, iv i2, iv m0, iv m1, iv p3, iv r_1, iv q2, iv ln2, rv b2, iv m0, iv m0] [(.int 1)]))
      have ke33 : Keep h0 h2 [] := (Keep.ext (Keep.refl h0 []) E2)
      have ke34 : Keep h0 h7 [] := (Keep.trans ke33 K7 (allS (Or.inr (Nat.le_of_eq gq2.symm)) all0))
      have ke35 : Keep h0 h24 [] := (Keep.trans ke34 K24 (allS (Or.inr (Nat.le_of_eq gq2.symm)) (allS (Or.inr (Nat.le_trans E2.1 lf7_0)) (allS (Or.inr (Nat.le_trans E2.1 lf7_1)) all0))))
      have ke36 : Keep h0 h27 [] := (Keep.trans ke35 K27 (allS (Or.inr (Nat.le_of_eq gq2.symm)) all0))
      have ke37 : Keep h0 h29 [] := (Keep.trans ke36 K29 (allS (Or.inr (Nat.le_of_eq gq2.symm)) all0))
      obtain ⟨fs, hr, hrun, hended, hW, hsame⟩ := X32.leave (v := some (.int 1)) (fun h => by rw [Bd.returns] at h; cases h)
      refine ⟨_, _, ?_, hrun, hended, _, _, rfl, ?_, ⟨_, rfl⟩, hW, hsame.mono (by decide) (by decide)⟩
      · exact retN X32 hx (t := .boolean) Bd.returns (by simp) (hb hby at_225) hr
      · show Q_law _ _ _ _ _ _ _ _ _ _ T32.heap _
        rw [e32]
        exact ⟨rfl, N32, ke37⟩
    · skip
      have sz38 : h0.size ≤ h24.size := (Nat.le_trans sz23 K24.1)
      obtain ⟨cq39, kq39, q39a, q39b, q39c⟩ := isOf hZ e24 p24_0
      obtain ⟨_, _, ⟨T39, L39, kk39, nn39⟩, -, X39, ⟨Lc39, hQ39, lq39, yq39, zq39⟩, st39⟩ := X24.virtualBack hx (y := (⟨"com/example/nudge/nudge/tree/BlockEntries", "lineBefore", "(II)I"⟩ : MethodName)) (z := (⟨"com/example/nudge/nudge/tree/BlockEntries", "lineBefore", "(II)I"⟩ : MethodName)) hown (mvT hZ (w26 hw)) (mvT hZ (w27 hw)) (notFace_of_selects (args := #[]) (mvT hZ (w29 hw))) (mvT hZ (w29 hw)) (mvT hZ (w28 hw)) (by decide) (backOf (W := 0) (rm_lb_010 l Z a0 hw [] b2 ax_7 al_7 kx_7 kl_7 r_1 p5 i0 m0 h24 n0 (Nat.le_trans Z0 sz38) p24_0 p24_1 p24_2 p24_3 p24_4 p24_5 p24_6 nq21 nq22 nx7_2 g_b2 hp25) hZ (w30 hw) (w7 hw) (by decide) (by decide)) q39a q39c (g := (mkF m 152 #[iv p0, iv p1, .val (.long p2), .second, iv p3, iv p4, iv p5, iv 1, iv i0, iv i1, iv i2, iv m0, iv m1, iv p3, iv r_1, iv q2, iv ln2, rv b2, .unset, .unset] [(.int p5), (.int r_1), (.ref b2)])) rfl (by rw [hml]; rfl) (Steps.refl _) (argsL := [(.int r_1), (.int p5)]) (rest := []) (lenOf pd_2 rfl) rfl (by show 2 * 0 + _ ≤ _; exact Nat.le_of_eq rfl) (hb hby at_152) (fun _ _ => ⟨rfl, e24, (by decide : 3 + 0 ≤ _), (by decide : 132 + 0 ≤ _)⟩)
      dsimp only [Pt.U, Pt.locs, Pt.cells, Pt.slots] at X39 lq39 yq39 zq39 st39 hQ39
      subst lq39 yq39 zq39
      obtain ⟨h39, e39⟩ : ∃ z, T39.heap = z := ⟨_, rfl⟩
      rw [e39] at hQ39
      obtain ⟨rfl, N39q, K39, p39_0, p39_1, p39_2, p39_3, p39_4, p39_5, p39_6⟩ := hQ39
      have N39 := Fr.app N24 N39q
      refine go_tr st39 ?_
      show Go _ _ _ _ (T39.setTop (mkF m 155 #[iv p0, iv p1, .val (.long p2), .second, iv p3, iv p4, iv p5, iv 1, iv i0, iv i1, iv i2, iv m0, iv m1, iv p3, iv r_1, iv q2, iv ln2, rv b2, .unset, .unset] [(.int p5)]))
      refine go_st (fun t k => XS.istore X39.here hx rfl (hb hby at_155) rfl (l' := #[iv p0, iv p1, .val (.long p2), .second, iv p3, iv p4, iv p5, iv 1, iv i0, iv i1, iv i2, iv m0, iv m1, iv p3, iv r_1, iv q2, iv ln2, rv b2, iv p5, .unset]) rfl k) ?_
      refine go_st (fun t k => XS.aload X39.here hx rfl (hb hby at_157) rfl rfl k) ?_
      refine go_st (fun t k => XS.iload X39.here hx rfl (hb hby at_159) rfl k) ?_
      refine go_st (fun t k => XS.iload X39.here hx rfl (hb hby at_161) rfl k) ?_
      show Go _ _ _ _ (T39.setTop (mkF m 163 #[iv p0, iv p1, .val (.long p2), .second, iv p3, iv p4, iv p5, iv 1, iv i0, iv i1, iv i2, iv m0, iv m1, iv p3, iv r_1, iv q2, iv ln2, rv b2, iv p5, .unset] [(.int ln2), (.int q2), (.ref b2)]))
      by_cases hp40 : i0 < q2
      · skip
        have sz41 : h0.size ≤ h39.size := (Nat.le_trans sz38 K39.1)
        obtain ⟨cq42, kq42, q42a, q42b, q42c⟩ := isOf hZ e39 p39_0
        obtain ⟨_, _, ⟨T42, L42, kk42, nn42⟩, -, X42, ⟨Lc42, hQ42, lq42, yq42, zq42⟩, st42⟩ := X39.virtualBack hx (y := (⟨"com/example/nudge/nudge/tree/BlockEntries", "lineBefore", "(II)I"⟩ : MethodName)) (z := (⟨"com/example/nudge/nudge/tree/BlockEntries", "lineBefore", "(II)I"⟩ : MethodName)) hown (mvT hZ (w26 hw)) (mvT hZ (w27 hw)) (notFace_of_selects (args := #[]) (mvT hZ (w29 hw))) (mvT hZ (w29 hw)) (mvT hZ (w28 hw)) (by decide) (backOf (W := 0) (rm_lb_011 l Z a0 hw [] b2 ax_7 al_7 kx_7 kl_7 q2 ln2 i0 m0 h39 n0 (Nat.le_trans Z0 sz41) p39_0 p39_1 p39_2 p39_3 p39_4 p39_5 p39_6 nq21 nq22 nx7_2 g_b2 hp40) hZ (w30 hw) (w7 hw) (by decide) (by decide)) q42a q42c (g := (mkF m 163 #[iv p0, iv p1, .val (.long p2), .second, iv p3, iv p4, iv p5, iv 1, iv i0, iv i1, iv i2, iv m0, iv m1, iv p3, iv r_1, iv q2, iv ln2, rv b2, iv p5, .unset] [(.int ln2), (.int q2), (.ref b2)])) rfl (by rw [hml]; rfl) (Steps.refl _) (argsL := [(.int q2), (.int ln2)]) (rest := []) (lenOf pd_2 rfl) rfl (by show 2 * 0 + _ ≤ _; exact Nat.le_of_eq rfl) (hb hby at_163) (fun _ _ => ⟨rfl, e39, (by decide : 3 + 0 ≤ _), (by decide : 132 + 0 ≤ _)⟩)
        dsimp only [Pt.U, Pt.locs, Pt.cells, Pt.slots] at X42 lq42 yq42 zq42 st42 hQ42
        subst lq42 yq42 zq42
        obtain ⟨h42, e42⟩ : ∃ z, T42.heap = z := ⟨_, rfl⟩
        rw [e42] at hQ42
        obtain ⟨rfl, N42q, K42, p42_0, p42_1, p42_2, p42_3, p42_4, p42_5, p42_6⟩ := hQ42
        have N42 := Fr.app N39 N42q
        refine go_tr st42 ?_
        show Go _ _ _ _ (T42.setTop (mkF m 166 #[iv p0, iv p1, .val (.long p2), .second, iv p3, iv p4, iv p5, iv 1, iv i0, iv i1, iv i2, iv m0, iv m1, iv p3, iv r_1, iv q2, iv ln2, rv b2, iv p5, .unset] [(.int m0)]))
        refine go_st (fun t k => XS.istore X42.here hx rfl (hb hby at_166) rfl (l' := #[iv p0, iv p1, .val (.long p2), .second, iv p3, iv p4, iv p5, iv 1, iv i0, iv i1, iv i2, iv m0, iv m1, iv p3, iv r_1, iv q2, iv ln2, rv b2, iv p5, iv m0]) rfl k) ?_
        refine go_st (fun t k => XS.iload X42.here hx rfl (hb hby at_168) rfl k) ?_
        show Go _ _ _ _ (T42.setTop (mkF m 170 #[iv p0, iv p1, .val (.long p2), .second, iv p3, iv p4, iv p5, iv 1, iv i0, iv i1, iv i2, iv m0, iv m1, iv p3, iv r_1, iv q2, iv ln2, rv b2, iv p5, iv m0] [(.int p5)]))
        refine go_st (fun t k => XS.iload X42.here hx rfl (hb hby at_170) rfl k) ?_
        refine go_st (fun t k => XS.iload X42.here hx rfl (hb hby at_172) rfl k) ?_
        refine go_st (fun t k => XS.iload X42.here hx rfl (hb hby at_174) rfl k) ?_
        refine go_st (fun t k => XS.iload X42.here hx rfl (hb hby at_176) rfl k) ?_
        refine go_st (fun t k => XS.iload X42.here hx rfl (hb hby at_178) rfl k) ?_
        refine go_st (fun t k => XS.iload X42.here hx rfl (hb hby at_180) rfl k) ?_
        refine go_st (fun t k => XS.iload X42.here hx rfl (hb hby at_182) rfl k) ?_
        refine go_st (fun t k => XS.iload X42.here hx rfl (hb hby at_184) rfl k) ?_
        refine go_st (fun t k => XS.iload X42.here hx rfl (hb hby at_186) rfl k) ?_
        show Go _ _ _ _ (T42.setTop (mkF m 188 #[iv p0, iv p1, .val (.long p2), .second, iv p3, iv p4, iv p5, iv 1, iv i0, iv i1, iv i2, iv m0, iv m1, iv p3, iv r_1, iv q2, iv ln2, rv b2, iv p5, iv m0] [(.int p5), (.int p3), (.int m1), (.int m0), (.int i2), (.int i1), (.int i0), (.int 1), (.int r_1), (.int p5)]))
        have sz43 : h0.size ≤ h42.size := (Nat.le_trans sz41 K42.1)
        obtain ⟨_, _, ⟨T44, L44, kk44, nn44⟩, -, X44, ⟨Lc44, hQ44, lq44, yq44, zq44⟩, st44⟩ := Jvm.LawKit.callS X42 hx (y := (⟨"com/example/nudge/nudge/tree/BlockEntriesLineBeforePinLaw", "expected", "(IIIIIIIII)I"⟩ : MethodName)) hown (mvT hZ (w43 hw)) (mvT hZ (w44 hw)) (mvT hZ (w45 hw)) (mvT hZ (w46 hw)) (by decide) (backOf (W := 1) (rm_exp_10 l Z a0 hw [] r_1 i0 i1 i2 m0 m1 p3 p5 h42 n0 (Nat.le_trans Z0 sz43) hp25) hZ (w46 hw) (w45 hw) (by decide) (by decide)) (g := (mkF m 188 #[iv p0, iv p1, .val (.long p2), .second, iv p3, iv p4, iv p5, iv 1, iv i0, iv i1, iv i2, iv m0, iv m1, iv p3, iv r_1, iv q2, iv ln2, rv b2, iv p5, iv m0] [(.int p5), (.int p3), (.int m1), (.int m0), (.int i2), (.int i1), (.int i0), (.int 1), (.int r_1), (.int p5)])) rfl (by rw [hml]; rfl) (argsL := [(.int r_1), (.int 1), (.int i0), (.int i1), (.int i2), (.int m0), (.int m1), (.int p3), (.int p5)]) (rest := [(.int p5)]) (lenOf pd_4 rfl) rfl (by show 2 * 0 + _ ≤ _; exact Nat.le_of_eq rfl) (hb hby at_188) (fun _ _ => ⟨rfl, e42, (by decide : 3 + 0 ≤ _), (by decide : 132 + 0 ≤ _)⟩)
        dsimp only [Pt.U, Pt.locs, Pt.cells, Pt.slots] at X44 lq44 yq44 zq44 st44 hQ44
        subst lq44 yq44 zq44
        obtain ⟨h44, e44⟩ : ∃ z, T44.heap = z := ⟨_, rfl⟩
        rw [e44] at hQ44
        obtain ⟨rfl, N44q, he44⟩ := hQ44
        have N44 := Fr.app N42 N44q
        rw [he44] at e44
        refine go_st st44 ?_
        show Go _ _ _ _ (T44.setTop (mkF m 191 #[iv p0, iv p1, .val (.long p2), .second, iv p3, iv p4, iv p5, iv 1, iv i0, iv i1, iv i2, iv m0, iv m1, iv p3, iv r_1, iv q2, iv ln2, rv b2, iv p5, iv m0] [(.int p5), (.int p5)]))
        refine go_st (fun t k => XS.icmpNo X44.here hx rfl (hb hby at_191) rfl (teq (rfl : p5 = p5)).2 k) ?_
        show Go _ _ _ _ (T44.setTop (mkF m 194 #[iv p0, iv p1, .val (.long p2), .second, iv p3, iv p4, iv p5, iv 1, iv i0, iv i1, iv i2, iv m0, iv m1, iv p3, iv r_1, iv q2, iv ln2, rv b2, iv p5, iv m0] []))
        refine go_st (fun t k => XS.iload X44.here hx rfl (hb hby at_194) rfl k) ?_
        refine go_st (fun t k => XS.iload X44.here hx rfl (hb hby at_196) rfl k) ?_
        refine go_st (fun t k => XS.iload X44.here hx rfl (hb hby at_198) rfl k) ?_
        refine go_st (fun t k => XS.iload X44.here hx rfl (hb hby at_200) rfl k) ?_
        refine go_st (fun t k => XS.iload X44.here hx rfl (hb hby at_202) rfl k) ?_
        refine go_st (fun t k => XS.iload X44.here hx rfl (hb hby at_204) rfl k) ?_
        refine go_st (fun t k => XS.iload X44.here hx rfl (hb hby at_206) rfl k) ?_
        refine go_st (fun t k => XS.iload X44.here hx rfl (hb hby at_208) rfl k) ?_
        refine go_st (fun t k => XS.iload X44.here hx rfl (hb hby at_210) rfl k) ?_
        refine go_st (fun t k => XS.iload X44.here hx rfl (hb hby at_212) rfl k) ?_
        show Go _ _ _ _ (T44.setTop (mkF m 214 #[iv p0, iv p1, .val (.long p2), .second, iv p3, iv p4, iv p5, iv 1, iv i0, iv i1, iv i2, iv m0, iv m1, iv p3, iv r_1, iv q2, iv ln2, rv b2, iv p5, iv m0] [(.int ln2), (.int p3), (.int m1), (.int m0), (.int i2), (.int i1), (.int i0), (.int 1), (.int q2), (.int m0)]))
        obtain ⟨_, _, ⟨T45, L45, kk45, nn45⟩, -, X45, ⟨Lc45, hQ45, lq45, yq45, zq45⟩, st45⟩ := Jvm.LawKit.callS X44 hx (y := (⟨"com/example/nudge/nudge/tree/BlockEntriesLineBeforePinLaw", "expected", "(IIIIIIIII)I"⟩ : MethodName)) hown (mvT hZ (w43 hw)) (mvT hZ (w44 hw)) (mvT hZ (w45 hw)) (mvT hZ (w46 hw)) (by decide) (backOf (W := 1) (rm_exp_11 l Z a0 hw [] q2 i0 i1 i2 m0 m1 p3 ln2 h42 n0 (Nat.le_trans Z0 sz43) hp40) hZ (w46 hw) (w45 hw) (by decide) (by decide)) (g := (mkF m 214 #[iv p0, iv p1, .val (.long p2), .second, iv p3, iv p4, iv p5, iv 1, iv i0, iv i1, iv i2, iv m0, iv m1, iv p3, iv r_1, iv q2, iv ln2, rv b2, iv p5, iv m0] [(.int ln2), (.int p3), (.int m1), (.int m0), (.int i2), (.int i1), (.int i0), (.int 1), (.int q2), (.int m0)])) rfl (by rw [hml]; rfl) (argsL := [(.int q2), (.int 1), (.int i0), (.int i1), (.int i2), (.int m0), (.int m1), (.int p3), (.int ln2)]) (rest := [(.int m0)]) (lenOf pd_4 rfl) rfl (by show 2 * 0 + _ ≤ _; exact Nat.le_of_eq rfl) (hb hby at_214) (fun _ _ => ⟨rfl, e44, (by decide : 3 + 0 ≤ _), (by decide : 132 + 0 ≤ _)⟩)
        dsimp only [Pt.U, Pt.locs, Pt.cells, Pt.slots] at X45 lq45 yq45 zq45 st45 hQ45
        subst lq45 yq45 zq45
        obtain ⟨h45, e45⟩ : ∃ z, T45.heap = z := ⟨_, rfl⟩
        rw [e45] at hQ45
        obtain ⟨rfl, N45q, he45⟩ := hQ45
        have N45 := Fr.app N44 N45q
        rw [he45] at e45
        refine go_st st45 ?_
        show Go _ _ _ _ (T45.setTop (mkF m 217 #[iv p0, iv p1, .val (.long p2), .second, iv p3, iv p4, iv p5, iv 1, iv i0, iv i1, iv i2, iv m0, iv m1, iv p3, iv r_1, iv q2, iv ln2, rv b2, iv p5, iv m0] [(.int m0), (.int m0)]))
        refine go_st (fun t k => XS.icmpNo X45.here hx rfl (hb hby at_217) rfl (teq (rfl : m0 = m0)).2 k) ?_
        show Go _ _ _ _ (T45.setTop (mkF m 220 #[iv p0, iv p1, .val (.long p2), .second, iv p3, iv p4, iv p5, iv 1, iv i0, iv i1, iv i2, iv m0, iv m1, iv p3, iv r_1, iv q2, iv ln2, rv b2, iv p5, iv m0] []))
        refine go_st (fun t k => XS.iconst X45.here hx rfl (hb hby at_220) k) ?_
        refine go_st (fun t k => XS.goto X45.here hx rfl (pc0 := 221) (pc' := 225) rfl (hb hby at_221) (by decide) (by decide) k) ?_
        show Go _ _ _ _ (T45.setTop (mkF m 225 #[iv p0, iv p1, .val (.long p2), .second, iv p3, iv p4, iv p5, iv 1, iv i0, iv i1, iv i2, iv m0, iv m1, iv p3, iv r_1, iv q2, iv ln2, rv b2, iv p5, iv m0] [(.int 1)]))
        have ke46 : Keep h0 h2 [] := (Keep.ext (Keep.refl h0 []) E2)
        have ke47 : Keep h0 h7 [] := (Keep.trans ke46 K7 (allS (Or.inr (Nat.le_of_eq gq2.symm)) all0))
        have ke48 : Keep h0 h24 [] := (Keep.trans ke47 K24 (allS (Or.inr (Nat.le_of_eq gq2.symm)) (allS (Or.inr (Nat.le_trans E2.1 lf7_0)) (allS (Or.inr (Nat.le_trans E2.1 lf7_1)) all0))))
        have ke49 : Keep h0 h39 [] := (Keep.trans ke48 K39 (allS (Or.inr (Nat.le_of_eq gq2.symm)) all0))
        have ke50 : Keep h0 h42 [] := (Keep.trans ke49 K42 (allS (Or.inr (Nat.le_of_eq gq2.symm)) all0))
        obtain ⟨fs, hr, hrun, hended, hW, hsame⟩ := X45.leave (v := some (.int 1)) (fun h => by rw [Bd.returns] at h; cases h)
        refine ⟨_, _, ?_, hrun, hended, _, _, rfl, ?_, ⟨_, rfl⟩, hW, hsame.mono (by decide) (by decide)⟩
        · exact retN X45 hx (t := .boolean) Bd.returns (by simp) (hb hby at_225) hr
        · show Q_law _ _ _ _ _ _ _ _ _ _ T45.heap _
          rw [e45]
          exact ⟨rfl, N45, ke50⟩
      · skip
        have sz51 : h0.size ≤ h39.size := (Nat.le_trans sz38 K39.1)
        obtain ⟨cq52, kq52, q52a, q52b, q52c⟩ := isOf hZ e39 p39_0
        obtain ⟨_, _, ⟨T52, L52, kk52, nn52⟩, -, X52, ⟨Lc52, hQ52, lq52, yq52, zq52⟩, st52⟩ := X39.virtualBack hx (y := (⟨"com/example/nudge/nudge/tree/BlockEntries", "lineBefore", "(II)I"⟩ : MethodName)) (z := (⟨"com/example/nudge/nudge/tree/BlockEntries", "lineBefore", "(II)I"⟩ : MethodName)) hown (mvT hZ (w26 hw)) (mvT hZ (w27 hw)) (notFace_of_selects (args := #[]) (mvT hZ (w29 hw))) (mvT hZ (w29 hw)) (mvT hZ (w28 hw)) (by decide) (backOf (W := 0) (rm_lb_010 l Z a0 hw [] b2 ax_7 al_7 kx_7 kl_7 q2 ln2 i0 m0 h39 n0 (Nat.le_trans Z0 sz51) p39_0 p39_1 p39_2 p39_3 p39_4 p39_5 p39_6 nq21 nq22 nx7_2 g_b2 hp40) hZ (w30 hw) (w7 hw) (by decide) (by decide)) q52a q52c (g := (mkF m 163 #[iv p0, iv p1, .val (.long p2), .second, iv p3, iv p4, iv p5, iv 1, iv i0, iv i1, iv i2, iv m0, iv m1, iv p3, iv r_1, iv q2, iv ln2, rv b2, iv p5, .unset] [(.int ln2), (.int q2), (.ref b2)])) rfl (by rw [hml]; rfl) (Steps.refl _) (argsL := [(.int q2), (.int ln2)]) (rest := []) (lenOf pd_2 rfl) rfl (by show 2 * 0 + _ ≤ _; exact Nat.le_of_eq rfl) (hb hby at_163) (fun _ _ => ⟨rfl, e39, (by decide : 3 + 0 ≤ _), (by decide : 132 + 0 ≤ _)⟩)
        dsimp only [Pt.U, Pt.locs, Pt.cells, Pt.slots] at X52 lq52 yq52 zq52 st52 hQ52
        subst lq52 yq52 zq52
        obtain ⟨h52, e52⟩ : ∃ z, T52.heap = z := ⟨_, rfl⟩
        rw [e52] at hQ52
        obtain ⟨rfl, N52q, K52, p52_0, p52_1, p52_2, p52_3, p52_4, p52_5, p52_6⟩ := hQ52
        have N52 := Fr.app N39 N52q
        refine go_tr st52 ?_
        show Go _ _ _ _ (T52.setTop (mkF m 166 #[iv p0, iv p1, .val (.long p2), .second, iv p3, iv p4, iv p5, iv 1, iv i0, iv i1, iv i2, iv m0, iv m1, iv p3, iv r_1, iv q2, iv ln2, rv b2, iv p5, .unset] [(.int ln2)]))
        refine go_st (fun t k => XS.istore X52.here hx rfl (hb hby at_166) rfl (l' := #[iv p0, iv p1, .val (.long p2), .second, iv p3, iv p4, iv p5, iv 1, iv i0, iv i1, iv i2, iv m0, iv m1, iv p3, iv r_1, iv q2, iv ln2, rv b2, iv p5, iv ln2]) rfl k) ?_
        refine go_st (fun t k => XS.iload X52.here hx rfl (hb hby at_168) rfl k) ?_
        show Go _ _ _ _ (T52.setTop (mkF m 170 #[iv p0, iv p1, .val (.long p2), .second, iv p3, iv p4, iv p5, iv 1, iv i0, iv i1, iv i2, iv m0, iv m1, iv p3, iv r_1, iv q2, iv ln2, rv b2, iv p5, iv ln2] [(.int p5)]))
        refine go_st (fun t k => XS.iload X52.here hx rfl (hb hby at_170) rfl k) ?_
        refine go_st (fun t k => XS.iload X52.here hx rfl (hb hby at_172) rfl k) ?_
        refine go_st (fun t k => XS.iload X52.here hx rfl (hb hby at_174) rfl k) ?_
        refine go_st (fun t k => XS.iload X52.here hx rfl (hb hby at_176) rfl k) ?_
        refine go_st (fun t k => XS.iload X52.here hx rfl (hb hby at_178) rfl k) ?_
        refine go_st (fun t k => XS.iload X52.here hx rfl (hb hby at_180) rfl k) ?_
        refine go_st (fun t k => XS.iload X52.here hx rfl (hb hby at_182) rfl k) ?_
        refine go_st (fun t k => XS.iload X52.here hx rfl (hb hby at_184) rfl k) ?_
        refine go_st (fun t k => XS.iload X52.here hx rfl (hb hby at_186) rfl k) ?_
        show Go _ _ _ _ (T52.setTop (mkF m 188 #[iv p0, iv p1, .val (.long p2), .second, iv p3, iv p4, iv p5, iv 1, iv i0, iv i1, iv i2, iv m0, iv m1, iv p3, iv r_1, iv q2, iv ln2, rv b2, iv p5, iv ln2] [(.int p5), (.int p3), (.int m1), (.int m0), (.int i2), (.int i1), (.int i0), (.int 1), (.int r_1), (.int p5)]))
        have sz53 : h0.size ≤ h52.size := (Nat.le_trans sz51 K52.1)
        obtain ⟨_, _, ⟨T54, L54, kk54, nn54⟩, -, X54, ⟨Lc54, hQ54, lq54, yq54, zq54⟩, st54⟩ := Jvm.LawKit.callS X52 hx (y := (⟨"com/example/nudge/nudge/tree/BlockEntriesLineBeforePinLaw", "expected", "(IIIIIIIII)I"⟩ : MethodName)) hown (mvT hZ (w43 hw)) (mvT hZ (w44 hw)) (mvT hZ (w45 hw)) (mvT hZ (w46 hw)) (by decide) (backOf (W := 1) (rm_exp_10 l Z a0 hw [] r_1 i0 i1 i2 m0 m1 p3 p5 h52 n0 (Nat.le_trans Z0 sz53) hp25) hZ (w46 hw) (w45 hw) (by decide) (by decide)) (g := (mkF m 188 #[iv p0, iv p1, .val (.long p2), .second, iv p3, iv p4, iv p5, iv 1, iv i0, iv i1, iv i2, iv m0, iv m1, iv p3, iv r_1, iv q2, iv ln2, rv b2, iv p5, iv ln2] [(.int p5), (.int p3), (.int m1), (.int m0), (.int i2), (.int i1), (.int i0), (.int 1), (.int r_1), (.int p5)])) rfl (by rw [hml]; rfl) (argsL := [(.int r_1), (.int 1), (.int i0), (.int i1), (.int i2), (.int m0), (.int m1), (.int p3), (.int p5)]) (rest := [(.int p5)]) (lenOf pd_4 rfl) rfl (by show 2 * 0 + _ ≤ _; exact Nat.le_of_eq rfl) (hb hby at_188) (fun _ _ => ⟨rfl, e52, (by decide : 3 + 0 ≤ _), (by decide : 132 + 0 ≤ _)⟩)
        dsimp only [Pt.U, Pt.locs, Pt.cells, Pt.slots] at X54 lq54 yq54 zq54 st54 hQ54
        subst lq54 yq54 zq54
        obtain ⟨h54, e54⟩ : ∃ z, T54.heap = z := ⟨_, rfl⟩
        rw [e54] at hQ54
        obtain ⟨rfl, N54q, he54⟩ := hQ54
        have N54 := Fr.app N52 N54q
        rw [he54] at e54
        refine go_st st54 ?_
        show Go _ _ _ _ (T54.setTop (mkF m 191 #[iv p0, iv p1, .val (.long p2), .second, iv p3, iv p4, iv p5, iv 1, iv i0, iv i1, iv i2, iv m0, iv m1, iv p3, iv r_1, iv q2, iv ln2, rv b2, iv p5, iv ln2] [(.int p5), (.int p5)]))
        refine go_st (fun t k => XS.icmpNo X54.here hx rfl (hb hby at_191) rfl (teq (rfl : p5 = p5)).2 k) ?_
        show Go _ _ _ _ (T54.setTop (mkF m 194 #[iv p0, iv p1, .val (.long p2), .second, iv p3, iv p4, iv p5, iv 1, iv i0, iv i1, iv i2, iv m0, iv m1, iv p3, iv r_1, iv q2, iv ln2, rv b2, iv p5, iv ln2] []))
        refine go_st (fun t k => XS.iload X54.here hx rfl (hb hby at_194) rfl k) ?_
        refine go_st (fun t k => XS.iload X54.here hx rfl (hb hby at_196) rfl k) ?_
        refine go_st (fun t k => XS.iload X54.here hx rfl (hb hby at_198) rfl k) ?_
        refine go_st (fun t k => XS.iload X54.here hx rfl (hb hby at_200) rfl k) ?_
        refine go_st (fun t k => XS.iload X54.here hx rfl (hb hby at_202) rfl k) ?_
        refine go_st (fun t k => XS.iload X54.here hx rfl (hb hby at_204) rfl k) ?_
        refine go_st (fun t k => XS.iload X54.here hx rfl (hb hby at_206) rfl k) ?_
        refine go_st (fun t k => XS.iload X54.here hx rfl (hb hby at_208) rfl k) ?_
        refine go_st (fun t k => XS.iload X54.here hx rfl (hb hby at_210) rfl k) ?_
        refine go_st (fun t k => XS.iload X54.here hx rfl (hb hby at_212) rfl k) ?_
        show Go _ _ _ _ (T54.setTop (mkF m 214 #[iv p0, iv p1, .val (.long p2), .second, iv p3, iv p4, iv p5, iv 1, iv i0, iv i1, iv i2, iv m0, iv m1, iv p3, iv r_1, iv q2, iv ln2, rv b2, iv p5, iv ln2] [(.int ln2), (.int p3), (.int m1), (.int m0), (.int i2), (.int i1), (.int i0), (.int 1), (.int q2), (.int ln2)]))
        obtain ⟨_, _, ⟨T55, L55, kk55, nn55⟩, -, X55, ⟨Lc55, hQ55, lq55, yq55, zq55⟩, st55⟩ := Jvm.LawKit.callS X54 hx (y := (⟨"com/example/nudge/nudge/tree/BlockEntriesLineBeforePinLaw", "expected", "(IIIIIIIII)I"⟩ : MethodName)) hown (mvT hZ (w43 hw)) (mvT hZ (w44 hw)) (mvT hZ (w45 hw)) (mvT hZ (w46 hw)) (by decide) (backOf (W := 1) (rm_exp_10 l Z a0 hw [] q2 i0 i1 i2 m0 m1 p3 ln2 h52 n0 (Nat.le_trans Z0 sz53) hp40) hZ (w46 hw) (w45 hw) (by decide) (by decide)) (g := (mkF m 214 #[iv p0, iv p1, .val (.long p2), .second, iv p3, iv p4, iv p5, iv 1, iv i0, iv i1, iv i2, iv m0, iv m1, iv p3, iv r_1, iv q2, iv ln2, rv b2, iv p5, iv ln2] [(.int ln2), (.int p3), (.int m1), (.int m0), (.int i2), (.int i1), (.int i0), (.int 1), (.int q2), (.int ln2)])) rfl (by rw [hml]; rfl) (argsL := [(.int q2), (.int 1), (.int i0), (.int i1), (.int i2), (.int m0), (.int m1), (.int p3), (.int ln2)]) (rest := [(.int ln2)]) (lenOf pd_4 rfl) rfl (by show 2 * 0 + _ ≤ _; exact Nat.le_of_eq rfl) (hb hby at_214) (fun _ _ => ⟨rfl, e54, (by decide : 3 + 0 ≤ _), (by decide : 132 + 0 ≤ _)⟩)
        dsimp only [Pt.U, Pt.locs, Pt.cells, Pt.slots] at X55 lq55 yq55 zq55 st55 hQ55
        subst lq55 yq55 zq55
        obtain ⟨h55, e55⟩ : ∃ z, T55.heap = z := ⟨_, rfl⟩
        rw [e55] at hQ55
        obtain ⟨rfl, N55q, he55⟩ := hQ55
        have N55 := Fr.app N54 N55q
        rw [he55] at e55
        refine go_st st55 ?_
        show Go _ _ _ _ (T55.setTop (mkF m 217 #[iv p0, iv p1, .val (.long p2), .second, iv p3, iv p4, iv p5, iv 1, iv i0, iv i1, iv i2, iv m0, iv m1, iv p3, iv r_1, iv q2, iv ln2, rv b2, iv p5, iv ln2] [(.int ln2), (.int ln2)]))
        refine go_st (fun t k => XS.icmpNo X55.here hx rfl (hb hby at_217) rfl (teq (rfl : ln2 = ln2)).2 k) ?_
        show Go _ _ _ _ (T55.setTop (mkF m 220 #[iv p0, iv p1, .val (.long p2), .second, iv p3, iv p4, iv p5, iv 1, iv i0, iv i1, iv i2, iv m0, iv m1, iv p3, iv r_1, iv q2, iv ln2, rv b2, iv p5, iv ln2] []))
        refine go_st (fun t k => XS.iconst X55.here hx rfl (hb hby at_220) k) ?_
        refine go_st (fun t k => XS.goto X55.here hx rfl (pc0 := 221) (pc' := 225) rfl (hb hby at_221) (by decide) (by decide) k) ?_
        show Go _ _ _ _ (T55.setTop (mkF m 225 #[iv p0, iv p1, .val (.long p2), .second, iv p3, iv p4, iv p5, iv 1, iv i0, iv i1, iv i2, iv m0, iv m1, iv p3, iv r_1, iv q2, iv ln2, rv b2, iv p5, iv ln2] [(.int 1)]))
        have ke56 : Keep h0 h2 [] := (Keep.ext (Keep.refl h0 []) E2)
        have ke57 : Keep h0 h7 [] := (Keep.trans ke56 K7 (allS (Or.inr (Nat.le_of_eq gq2.symm)) all0))
        have ke58 : Keep h0 h24 [] := (Keep.trans ke57 K24 (allS (Or.inr (Nat.le_of_eq gq2.symm)) (allS (Or.inr (Nat.le_trans E2.1 lf7_0)) (allS (Or.inr (Nat.le_trans E2.1 lf7_1)) all0))))
        have ke59 : Keep h0 h39 [] := (Keep.trans ke58 K39 (allS (Or.inr (Nat.le_of_eq gq2.symm)) all0))
        have ke60 : Keep h0 h52 [] := (Keep.trans ke59 K52 (allS (Or.inr (Nat.le_of_eq gq2.symm)) all0))
        obtain ⟨fs, hr, hrun, hended, hW, hsame⟩ := X55.leave (v := some (.int 1)) (fun h => by rw [Bd.returns] at h; cases h)
        refine ⟨_, _, ?_, hrun, hended, _, _, rfl, ?_, ⟨_, rfl⟩, hW, hsame.mono (by decide) (by decide)⟩
        · exact retN X55 hx (t := .boolean) Bd.returns (by simp) (hb hby at_225) hr
        · show Q_law _ _ _ _ _ _ _ _ _ _ T55.heap _
          rw [e55]
          exact ⟨rfl, N55, ke60⟩
  · skip
    show Go _ _ _ _ (T7.setTop (mkF m 101 #[iv p0, iv p1, .val (.long p2), .second, iv p3, iv p4, iv p5, iv 2, iv i0, iv i1, iv i2, iv m0, iv m1, iv p3, iv r_1, iv q2, iv ln2, rv b2, .unset, .unset] []))
    refine go_st (fun t k => XS.iload X7.here hx rfl (hb hby at_101) rfl k) ?_
    refine go_st (fun t k => XS.iconst X7.here hx rfl (hb hby at_103) k) ?_
    show Go _ _ _ _ (T7.setTop (mkF m 104 #[iv p0, iv p1, .val (.long p2), .second, iv p3, iv p4, iv p5, iv 2, iv i0, iv i1, iv i2, iv m0, iv m1, iv p3, iv r_1, iv q2, iv ln2, rv b2, .unset, .unset] [(.int 1), (.int 2)]))
    refine go_st (fun t k => XS.icmpNo X7.here hx rfl (hb hby at_104) rfl (flt ((by decide) : ¬ ((2 : Int32) < (1 : Int32)))).1 k) ?_
    show Go _ _ _ _ (T7.setTop (mkF m 107 #[iv p0, iv p1, .val (.long p2), .second, iv p3, iv p4, iv p5, iv 2, iv i0, iv i1, iv i2, iv m0, iv m1, iv p3, iv r_1, iv q2, iv ln2, rv b2, .unset, .unset] []))
    refine go_st (fun t k => XS.aload X7.here hx rfl (hb hby at_107) rfl rfl k) ?_
    refine go_st (fun t k => XS.iload X7.here hx rfl (hb hby at_109) rfl k) ?_
    refine go_st (fun t k => XS.iload X7.here hx rfl (hb hby at_111) rfl k) ?_
    show Go _ _ _ _ (T7.setTop (mkF m 113 #[iv p0, iv p1, .val (.long p2), .second, iv p3, iv p4, iv p5, iv 2, iv i0, iv i1, iv i2, iv m0, iv m1, iv p3, iv r_1, iv q2, iv ln2, rv b2, .unset, .unset] [(.int m0), (.int i0), (.ref b2)]))
    have nq61 : b2 ≠ ax_7 := Nat.ne_of_lt (Nat.lt_of_lt_of_le (Nat.lt_of_lt_of_le A2.lt (Nat.le_refl _)) lf7_0)
    have nq62 : b2 ≠ al_7 := Nat.ne_of_lt (Nat.lt_of_lt_of_le (Nat.lt_of_lt_of_le A2.lt (Nat.le_refl _)) lf7_1)
    have sz63 : h0.size ≤ h7.size := (Nat.le_trans E2.1 K7.1)
    obtain ⟨cq64, kq64, q64a, q64b, q64c⟩ := isOf hZ e7 p7_3
    obtain ⟨_, _, ⟨T64, L64, kk64, nn64⟩, -, X64, ⟨Lc64, hQ64, lq64, yq64, zq64⟩, st64⟩ := X7.virtualBack hx (y := (⟨"com/example/nudge/nudge/tree/BlockEntries", "note", "(II)V"⟩ : MethodName)) (z := (⟨"com/example/nudge/nudge/tree/BlockEntries", "note", "(II)V"⟩ : MethodName)) hown (mvT hZ (w19 hw)) (mvT hZ (w20 hw)) (notFace_of_selects (args := #[]) (mvT hZ (w22 hw))) (mvT hZ (w22 hw)) (mvT hZ (w21 hw)) (by decide) (backOf (W := 0) (rm_note0 l Z a0 hw [] b2 ax_7 al_7 kx_7 kl_7 i0 m0 h7 n0 (Nat.le_trans Z0 sz63) p7_3 p7_4 p7_5 p7_6 p7_7 p7_8 p7_9 nq61 nq62 nx7_2 g_b2 gf7_0 gf7_1) hZ (w23 hw) (w7 hw) (by decide) (by decide)) q64a q64c (g := (mkF m 113 #[iv p0, iv p1, .val (.long p2), .second, iv p3, iv p4, iv p5, iv 2, iv i0, iv i1, iv i2, iv m0, iv m1, iv p3, iv r_1, iv q2, iv ln2, rv b2, .unset, .unset] [(.int m0), (.int i0), (.ref b2)])) rfl (by rw [hml]; rfl) (Steps.refl _) (argsL := [(.int i0), (.int m0)]) (rest := []) (lenOf pd_5 rfl) rfl (by show 2 * 0 + _ ≤ _; exact Nat.le_of_eq rfl) (hb hby at_113) (fun _ _ => ⟨rfl, e7, (by decide : 3 + 0 ≤ _), (by decide : 132 + 0 ≤ _)⟩)
    dsimp only [Pt.U, Pt.locs, Pt.cells, Pt.slots] at X64 lq64 yq64 zq64 st64 hQ64
    subst lq64 yq64 zq64
    obtain ⟨h64, e64⟩ : ∃ z, T64.heap = z := ⟨_, rfl⟩
    rw [e64] at hQ64
    obtain ⟨rfl, N64q, K64, p64_0, p64_1, p64_2, p64_3, p64_4, p64_5, p64_6⟩ := hQ64
    have N64 := Fr.app N7 N64q
    refine go_tr st64 ?_
    show Go _ _ _ _ (T64.setTop (mkF m 116 #[iv p0, iv p1, .val (.long p2), .second, iv p3, iv p4, iv p5, iv 2, iv i0, iv i1, iv i2, iv m0, iv m1, iv p3, iv r_1, iv q2, iv ln2, rv b2, .unset, .unset] []))
    refine go_st (fun t k => XS.iload X64.here hx rfl (hb hby at_116) rfl k) ?_
    refine go_st (fun t k => XS.iconst X64.here hx rfl (hb hby at_118) k) ?_
    show Go _ _ _ _ (T64.setTop (mkF m 119 #[iv p0, iv p1, .val (.long p2), .second, iv p3, iv p4, iv p5, iv 2, iv i0, iv i1, iv i2, iv m0, iv m1, iv p3, iv r_1, iv q2, iv ln2, rv b2, .unset, .unset] [(.int 2), (.int 2)]))
    refine go_st (fun t k => XS.icmpNo X64.here hx rfl (hb hby at_119) rfl (flt ((by decide) : ¬ ((2 : Int32) < (2 : Int32)))).1 k) ?_
    show Go _ _ _ _ (T64.setTop (mkF m 122 #[iv p0, iv p1, .val (.long p2), .second, iv p3, iv p4, iv p5, iv 2, iv i0, iv i1, iv i2, iv m0, iv m1, iv p3, iv r_1, iv q2, iv ln2, rv b2, .unset, .unset] []))
    refine go_st (fun t k => XS.aload X64.here hx rfl (hb hby at_122) rfl rfl k) ?_
    refine go_st (fun t k => XS.iload X64.here hx rfl (hb hby at_124) rfl k) ?_
    refine go_st (fun t k => XS.iload X64.here hx rfl (hb hby at_126) rfl k) ?_
    show Go _ _ _ _ (T64.setTop (mkF m 128 #[iv p0, iv p1, .val (.long p2), .second, iv p3, iv p4, iv p5, iv 2, iv i0, iv i1, iv i2, iv m0, iv m1, iv p3, iv r_1, iv q2, iv ln2, rv b2, .unset, .unset] [(.int m1), (.int i1), (.ref b2)]))
    have sz65 : h0.size ≤ h64.size := (Nat.le_trans sz63 K64.1)
    obtain ⟨cq66, kq66, q66a, q66b, q66c⟩ := isOf hZ e64 p64_0
    obtain ⟨_, _, ⟨T66, L66, kk66, nn66⟩, -, X66, ⟨Lc66, hQ66, lq66, yq66, zq66⟩, st66⟩ := X64.virtualBack hx (y := (⟨"com/example/nudge/nudge/tree/BlockEntries", "note", "(II)V"⟩ : MethodName)) (z := (⟨"com/example/nudge/nudge/tree/BlockEntries", "note", "(II)V"⟩ : MethodName)) hown (mvT hZ (w19 hw)) (mvT hZ (w20 hw)) (notFace_of_selects (args := #[]) (mvT hZ (w22 hw))) (mvT hZ (w22 hw)) (mvT hZ (w21 hw)) (by decide) (backOf (W := 0) (rm_note1 l Z a0 hw [] b2 ax_7 al_7 kx_7 kl_7 i1 m1 i0 m0 h64 n0 (Nat.le_trans Z0 sz65) p64_0 p64_1 p64_2 p64_3 p64_4 p64_5 p64_6 nq61 nq62 nx7_2 g_b2 gf7_0 gf7_1) hZ (w23 hw) (w7 hw) (by decide) (by decide)) q66a q66c (g := (mkF m 128 #[iv p0, iv p1, .val (.long p2), .second, iv p3, iv p4, iv p5, iv 2, iv i0, iv i1, iv i2, iv m0, iv m1, iv p3, iv r_1, iv q2, iv ln2, rv b2, .unset, .unset] [(.int m1), (.int i1), (.ref b2)])) rfl (by rw [hml]; rfl) (Steps.refl _) (argsL := [(.int i1), (.int m1)]) (rest := []) (lenOf pd_5 rfl) rfl (by show 2 * 0 + _ ≤ _; exact Nat.le_of_eq rfl) (hb hby at_128) (fun _ _ => ⟨rfl, e64, (by decide : 3 + 0 ≤ _), (by decide : 132 + 0 ≤ _)⟩)
    dsimp only [Pt.U, Pt.locs, Pt.cells, Pt.slots] at X66 lq66 yq66 zq66 st66 hQ66
    subst lq66 yq66 zq66
    obtain ⟨h66, e66⟩ : ∃ z, T66.heap = z := ⟨_, rfl⟩
    rw [e66] at hQ66
    obtain ⟨rfl, N66q, K66, p66_0, p66_1, p66_2, p66_3, p66_4, p66_5, p66_6⟩ := hQ66
    have N66 := Fr.app N64 N66q
    refine go_tr st66 ?_
    show Go _ _ _ _ (T66.setTop (mkF m 131 #[iv p0, iv p1, .val (.long p2), .second, iv p3, iv p4, iv p5, iv 2, iv i0, iv i1, iv i2, iv m0, iv m1, iv p3, iv r_1, iv q2, iv ln2, rv b2, .unset, .unset] []))
    refine go_st (fun t k => XS.iload X66.here hx rfl (hb hby at_131) rfl k) ?_
    refine go_st (fun t k => XS.iconst X66.here hx rfl (hb hby at_133) k) ?_
    show Go _ _ _ _ (T66.setTop (mkF m 134 #[iv p0, iv p1, .val (.long p2), .second, iv p3, iv p4, iv p5, iv 2, iv i0, iv i1, iv i2, iv m0, iv m1, iv p3, iv r_1, iv q2, iv ln2, rv b2, .unset, .unset] [(.int 3), (.int 2)]))
    refine go_st (fun t k => XS.icmpYes X66.here hx rfl (pc0 := 134) (pc' := 146) rfl (hb hby at_134) rfl (tlt ((by decide) : (2 : Int32) < (3 : Int32))).1 (by decide) (by decide) k) ?_
    show Go _ _ _ _ (T66.setTop (mkF m 146 #[iv p0, iv p1, .val (.long p2), .second, iv p3, iv p4, iv p5, iv 2, iv i0, iv i1, iv i2, iv m0, iv m1, iv p3, iv r_1, iv q2, iv ln2, rv b2, .unset, .unset] []))
    refine go_st (fun t k => XS.aload X66.here hx rfl (hb hby at_146) rfl rfl k) ?_
    refine go_st (fun t k => XS.iload X66.here hx rfl (hb hby at_148) rfl k) ?_
    refine go_st (fun t k => XS.iload X66.here hx rfl (hb hby at_150) rfl k) ?_
    show Go _ _ _ _ (T66.setTop (mkF m 152 #[iv p0, iv p1, .val (.long p2), .second, iv p3, iv p4, iv p5, iv 2, iv i0, iv i1, iv i2, iv m0, iv m1, iv p3, iv r_1, iv q2, iv ln2, rv b2, .unset, .unset] [(.int p5), (.int r_1), (.ref b2)]))
    by_cases hp67 : i1 < r_1
    · skip
      have sz68 : h0.size ≤ h66.size := (Nat.le_trans sz65 K66.1)
      obtain ⟨cq69, kq69, q69a, q69b, q69c⟩ := isOf hZ e66 p66_0
      obtain ⟨_, _, ⟨T69, L69, kk69, nn69⟩, -, X69, ⟨Lc69, hQ69, lq69, yq69, zq69⟩, st69⟩ := X66.virtualBack hx (y := (⟨"com/example/nudge/nudge/tree/BlockEntries", "lineBefore", "(II)I"⟩ : MethodName)) (z := (⟨"com/example/nudge/nudge/tree/BlockEntries", "lineBefore", "(II)I"⟩ : MethodName)) hown (mvT hZ (w26 hw)) (mvT hZ (w27 hw)) (notFace_of_selects (args := #[]) (mvT hZ (w29 hw))) (mvT hZ (w29 hw)) (mvT hZ (w28 hw)) (by decide) (backOf (W := 0) (rm_lb_022 l Z a0 hw [] b2 ax_7 al_7 kx_7 kl_7 r_1 p5 i0 i1 m0 m1 h66 n0 (Nat.le_trans Z0 sz68) p66_0 p66_1 p66_2 p66_3 p66_4 p66_5 p66_6 nq61 nq62 nx7_2 g_b2 s0 hp67) hZ (w30 hw) (w7 hw) (by decide) (by decide)) q69a q69c (g := (mkF m 152 #[iv p0, iv p1, .val (.long p2), .second, iv p3, iv p4, iv p5, iv 2, iv i0, iv i1, iv i2, iv m0, iv m1, iv p3, iv r_1, iv q2, iv ln2, rv b2, .unset, .unset] [(.int p5), (.int r_1), (.ref b2)])) rfl (by rw [hml]; rfl) (Steps.refl _) (argsL := [(.int r_1), (.int p5)]) (rest := []) (lenOf pd_2 rfl) rfl (by show 2 * 0 + _ ≤ _; exact Nat.le_of_eq rfl) (hb hby at_152) (fun _ _ => ⟨rfl, e66, (by decide : 3 + 0 ≤ _), (by decide : 132 + 0 ≤ _)⟩)
      dsimp only [Pt.U, Pt.locs, Pt.cells, Pt.slots] at X69 lq69 yq69 zq69 st69 hQ69
      subst lq69 yq69 zq69
      obtain ⟨h69, e69⟩ : ∃ z, T69.heap = z := ⟨_, rfl⟩
      rw [e69] at hQ69
      obtain ⟨rfl, N69q, K69, p69_0, p69_1, p69_2, p69_3, p69_4, p69_5, p69_6⟩ := hQ69
      have N69 := Fr.app N66 N69q
      refine go_tr st69 ?_
      show Go _ _ _ _ (T69.setTop (mkF m 155 #[iv p0, iv p1, .val (.long p2), .second, iv p3, iv p4, iv p5, iv 2, iv i0, iv i1, iv i2, iv m0, iv m1, iv p3, iv r_1, iv q2, iv ln2, rv b2, .unset, .unset] [(.int m1)]))
      refine go_st (fun t k => XS.istore X69.here hx rfl (hb hby at_155) rfl (l' := #[iv p0, iv p1, .val (.long p2), .second, iv p3, iv p4, iv p5, iv 2, iv i0, iv i1, iv i2, iv m0, iv m1, iv p3, iv r_1, iv q2, iv ln2, rv b2, iv m1, .unset]) rfl k) ?_
      refine go_st (fun t k => XS.aload X69.here hx rfl (hb hby at_157) rfl rfl k) ?_
      refine go_st (fun t k => XS.iload X69.here hx rfl (hb hby at_159) rfl k) ?_
      show Go _ _ _ _ (T69.setTop (mkF m 161 #[iv p0, iv p1, .val (.long p2), .second, iv p3, iv p4, iv p5, iv 2, iv i0, iv i1, iv i2, iv m0, iv m1, iv p3, iv r_1, iv q2, iv ln2, rv b2, iv m1, .unset] [(.int q2), (.ref b2)]))
      refine go_st (fun t k => XS.iload X69.here hx rfl (hb hby at_161) rfl k) ?_
      show Go _ _ _ _ (T69.setTop (mkF m 163 #[iv p0, iv p1, .val (.long p2), .second, iv p3, iv p4, iv p5, iv 2, iv i0, iv i1, iv i2, iv m0, iv m1, iv p3, iv r_1, iv q2, iv ln2, rv b2, iv m1, .unset] [(.int ln2), (.int q2), (.ref b2)]))
      have hlq : i1 < q2 := pl_lt (by have := pl_of hp67; omega)
      have sz70 : h0.size ≤ h69.size := (Nat.le_trans sz68 K69.1)
      obtain ⟨cq71, kq71, q71a, q71b, q71c⟩ := isOf hZ e69 p69_0
      obtain ⟨_, _, ⟨T71, L71, kk71, nn71⟩, -, X71, ⟨Lc71, hQ71, lq71, yq71, zq71⟩, st71⟩ := X69.virtualBack hx (y := (⟨"com/example/nudge/nudge/tree/BlockEntries", "lineBefore", "(II)I"⟩ : MethodName)) (z := (⟨"com/example/nudge/nudge/tree/BlockEntries", "lineBefore", "(II)I"⟩ : MethodName)) hown (mvT hZ (w26 hw)) (mvT hZ (w27 hw)) (notFace_of_selects (args := #[]) (mvT hZ (w29 hw))) (mvT hZ (w29 hw)) (mvT hZ (w28 hw)) (by decide) (backOf (W := 0) (rm_lb_122 l Z a0 hw [] b2 ax_7 al_7 kx_7 kl_7 q2 ln2 i0 i1 m0 m1 h69 n0 (Nat.le_trans Z0 sz70) p69_0 p69_1 p69_2 p69_3 p69_4 p69_5 p69_6 nq61 nq62 nx7_2 g_b2 hlq) hZ (w30 hw) (w7 hw) (by decide) (by decide)) q71a q71c (g := (mkF m 163 #[iv p0, iv p1, .val (.long p2), .second, iv p3, iv p4, iv p5, iv 2, iv i0, iv i1, iv i2, iv m0, iv m1, iv p3, iv r_1, iv q2, iv ln2, rv b2, iv m1, .unset] [(.int ln2), (.int q2), (.ref b2)])) rfl (by rw [hml]; rfl) (Steps.refl _) (argsL := [(.int q2), (.int ln2)]) (rest := []) (lenOf pd_2 rfl) rfl (by show 2 * 0 + _ ≤ _; exact Nat.le_of_eq rfl) (hb hby at_163) (fun _ _ => ⟨rfl, e69, (by decide : 3 + 0 ≤ _), (by decide : 132 + 0 ≤ _)⟩)
      dsimp only [Pt.U, Pt.locs, Pt.cells, Pt.slots] at X71 lq71 yq71 zq71 st71 hQ71
      subst lq71 yq71 zq71
      obtain ⟨h71, e71⟩ : ∃ z, T71.heap = z := ⟨_, rfl⟩
      rw [e71] at hQ71
      obtain ⟨rfl, N71q, K71, p71_0, p71_1, p71_2, p71_3, p71_4, p71_5, p71_6⟩ := hQ71
      have N71 := Fr.app N69 N71q
      refine go_tr st71 ?_
      show Go _ _ _ _ (T71.setTop (mkF m 166 #[iv p0, iv p1, .val (.long p2), .second, iv p3, iv p4, iv p5, iv 2, iv i0, iv i1, iv i2, iv m0, iv m1, iv p3, iv r_1, iv q2, iv ln2, rv b2, iv m1, .unset] [(.int m1)]))
      refine go_st (fun t k => XS.istore X71.here hx rfl (hb hby at_166) rfl (l' := #[iv p0, iv p1, .val (.long p2), .second, iv p3, iv p4, iv p5, iv 2, iv i0, iv i1, iv i2, iv m0, iv m1, iv p3, iv r_1, iv q2, iv ln2, rv b2, iv m1, iv m1]) rfl k) ?_
      refine go_st (fun t k => XS.iload X71.here hx rfl (hb hby at_168) rfl k) ?_
      refine go_st (fun t k => XS.iload X71.here hx rfl (hb hby at_170) rfl k) ?_
      refine go_st (fun t k => XS.iload X71.here hx rfl (hb hby at_172) rfl k) ?_
      refine go_st (fun t k => XS.iload X71.here hx rfl (hb hby at_174) rfl k) ?_
      refine go_st (fun t k => XS.iload X71.here hx rfl (hb hby at_176) rfl k) ?_
      refine go_st (fun t k => XS.iload X71.here hx rfl (hb hby at_178) rfl k) ?_
      refine go_st (fun t k => XS.iload X71.here hx rfl (hb hby at_180) rfl k) ?_
      refine go_st (fun t k => XS.iload X71.here hx rfl (hb hby at_182) rfl k) ?_
      refine go_st (fun t k => XS.iload X71.here hx rfl (hb hby at_184) rfl k) ?_
      refine go_st (fun t k => XS.iload X71.here hx rfl (hb hby at_186) rfl k) ?_
      show Go _ _ _ _ (T71.setTop (mkF m 188 #[iv p0, iv p1, .val (.long p2), .second, iv p3, iv p4, iv p5, iv 2, iv i0, iv i1, iv i2, iv m0, iv m1, iv p3, iv r_1, iv q2, iv ln2, rv b2, iv m1, iv m1] [(.int p5), (.int p3), (.int m1), (.int m0), (.int i2), (.int i1), (.int i0), (.int 2), (.int r_1), (.int m1)]))
      have sz72 : h0.size ≤ h71.size := (Nat.le_trans sz70 K71.1)
      obtain ⟨_, _, ⟨T73, L73, kk73, nn73⟩, -, X73, ⟨Lc73, hQ73, lq73, yq73, zq73⟩, st73⟩ := Jvm.LawKit.callS X71 hx (y := (⟨"com/example/nudge/nudge/tree/BlockEntriesLineBeforePinLaw", "expected", "(IIIIIIIII)I"⟩ : MethodName)) hown (mvT hZ (w43 hw)) (mvT hZ (w44 hw)) (mvT hZ (w45 hw)) (mvT hZ (w46 hw)) (by decide) (backOf (W := 1) (rm_exp_22 l Z a0 hw [] r_1 i0 i1 i2 m0 m1 p3 p5 h71 n0 (Nat.le_trans Z0 sz72) hp67) hZ (w46 hw) (w45 hw) (by decide) (by decide)) (g := (mkF m 188 #[iv p0, iv p1, .val (.long p2), .second, iv p3, iv p4, iv p5, iv 2, iv i0, iv i1, iv i2, iv m0, iv m1, iv p3, iv r_1, iv q2, iv ln2, rv b2, iv m1, iv m1] [(.int p5), (.int p3), (.int m1), (.int m0), (.int i2), (.int i1), (.int i0), (.int 2), (.int r_1), (.int m1)])) rfl (by rw [hml]; rfl) (argsL := [(.int r_1), (.int 2), (.int i0), (.int i1), (.int i2), (.int m0), (.int m1), (.int p3), (.int p5)]) (rest := [(.int m1)]) (lenOf pd_4 rfl) rfl (by show 2 * 0 + _ ≤ _; exact Nat.le_of_eq rfl) (hb hby at_188) (fun _ _ => ⟨rfl, e71, (by decide : 3 + 0 ≤ _), (by decide : 132 + 0 ≤ _)⟩)
      dsimp only [Pt.U, Pt.locs, Pt.cells, Pt.slots] at X73 lq73 yq73 zq73 st73 hQ73
      subst lq73 yq73 zq73
      obtain ⟨h73, e73⟩ : ∃ z, T73.heap = z := ⟨_, rfl⟩
      rw [e73] at hQ73
      obtain ⟨rfl, N73q, he73⟩ := hQ73
      have N73 := Fr.app N71 N73q
      rw [he73] at e73
      refine go_st st73 ?_
      show Go _ _ _ _ (T73.setTop (mkF m 191 #[iv p0, iv p1, .val (.long p2), .second, iv p3, iv p4, iv p5, iv 2, iv i0, iv i1, iv i2, iv m0, iv m1, iv p3, iv r_1, iv q2, iv ln2, rv b2, iv m1, iv m1] [(.int m1), (.int m1)]))
      refine go_st (fun t k => XS.icmpNo X73.here hx rfl (hb hby at_191) rfl (teq (rfl : m1 = m1)).2 k) ?_
      show Go _ _ _ _ (T73.setTop (mkF m 194 #[iv p0, iv p1, .val (.long p2), .second, iv p3, iv p4, iv p5, iv 2, iv i0, iv i1, iv i2, iv m0, iv m1, iv p3, iv r_1, iv q2, iv ln2, rv b2, iv m1, iv m1] []))
      refine go_st (fun t k => XS.iload X73.here hx rfl (hb hby at_194) rfl k) ?_
      refine go_st (fun t k => XS.iload X73.here hx rfl (hb hby at_196) rfl k) ?_
      refine go_st (fun t k => XS.iload X73.here hx rfl (hb hby at_198) rfl k) ?_
      refine go_st (fun t k => XS.iload X73.here hx rfl (hb hby at_200) rfl k) ?_
      refine go_st (fun t k => XS.iload X73.here hx rfl (hb hby at_202) rfl k) ?_
      refine go_st (fun t k => XS.iload X73.here hx rfl (hb hby at_204) rfl k) ?_
      refine go_st (fun t k => XS.iload X73.here hx rfl (hb hby at_206) rfl k) ?_
      refine go_st (fun t k => XS.iload X73.here hx rfl (hb hby at_208) rfl k) ?_
      refine go_st (fun t k => XS.iload X73.here hx rfl (hb hby at_210) rfl k) ?_
      refine go_st (fun t k => XS.iload X73.here hx rfl (hb hby at_212) rfl k) ?_
      show Go _ _ _ _ (T73.setTop (mkF m 214 #[iv p0, iv p1, .val (.long p2), .second, iv p3, iv p4, iv p5, iv 2, iv i0, iv i1, iv i2, iv m0, iv m1, iv p3, iv r_1, iv q2, iv ln2, rv b2, iv m1, iv m1] [(.int ln2), (.int p3), (.int m1), (.int m0), (.int i2), (.int i1), (.int i0), (.int 2), (.int q2), (.int m1)]))
      obtain ⟨_, _, ⟨T74, L74, kk74, nn74⟩, -, X74, ⟨Lc74, hQ74, lq74, yq74, zq74⟩, st74⟩ := Jvm.LawKit.callS X73 hx (y := (⟨"com/example/nudge/nudge/tree/BlockEntriesLineBeforePinLaw", "expected", "(IIIIIIIII)I"⟩ : MethodName)) hown (mvT hZ (w43 hw)) (mvT hZ (w44 hw)) (mvT hZ (w45 hw)) (mvT hZ (w46 hw)) (by decide) (backOf (W := 1) (rm_exp_22 l Z a0 hw [] q2 i0 i1 i2 m0 m1 p3 ln2 h71 n0 (Nat.le_trans Z0 sz72) hlq) hZ (w46 hw) (w45 hw) (by decide) (by decide)) (g := (mkF m 214 #[iv p0, iv p1, .val (.long p2), .second, iv p3, iv p4, iv p5, iv 2, iv i0, iv i1, iv i2, iv m0, iv m1, iv p3, iv r_1, iv q2, iv ln2, rv b2, iv m1, iv m1] [(.int ln2), (.int p3), (.int m1), (.int m0), (.int i2), (.int i1), (.int i0), (.int 2), (.int q2), (.int m1)])) rfl (by rw [hml]; rfl) (argsL := [(.int q2), (.int 2), (.int i0), (.int i1), (.int i2), (.int m0), (.int m1), (.int p3), (.int ln2)]) (rest := [(.int m1)]) (lenOf pd_4 rfl) rfl (by show 2 * 0 + _ ≤ _; exact Nat.le_of_eq rfl) (hb hby at_214) (fun _ _ => ⟨rfl, e73, (by decide : 3 + 0 ≤ _), (by decide : 132 + 0 ≤ _)⟩)
      dsimp only [Pt.U, Pt.locs, Pt.cells, Pt.slots] at X74 lq74 yq74 zq74 st74 hQ74
      subst lq74 yq74 zq74
      obtain ⟨h74, e74⟩ : ∃ z, T74.heap = z := ⟨_, rfl⟩
      rw [e74] at hQ74
      obtain ⟨rfl, N74q, he74⟩ := hQ74
      have N74 := Fr.app N73 N74q
      rw [he74] at e74
      refine go_st st74 ?_
      show Go _ _ _ _ (T74.setTop (mkF m 217 #[iv p0, iv p1, .val (.long p2), .second, iv p3, iv p4, iv p5, iv 2, iv i0, iv i1, iv i2, iv m0, iv m1, iv p3, iv r_1, iv q2, iv ln2, rv b2, iv m1, iv m1] [(.int m1), (.int m1)]))
      refine go_st (fun t k => XS.icmpNo X74.here hx rfl (hb hby at_217) rfl (teq (rfl : m1 = m1)).2 k) ?_
      show Go _ _ _ _ (T74.setTop (mkF m 220 #[iv p0, iv p1, .val (.long p2), .second, iv p3, iv p4, iv p5, iv 2, iv i0, iv i1, iv i2, iv m0, iv m1, iv p3, iv r_1, iv q2, iv ln2, rv b2, iv m1, iv m1] []))
      refine go_st (fun t k => XS.iconst X74.here hx rfl (hb hby at_220) k) ?_
      refine go_st (fun t k => XS.goto X74.here hx rfl (pc0 := 221) (pc' := 225) rfl (hb hby at_221) (by decide) (by decide) k) ?_
      show Go _ _ _ _ (T74.setTop (mkF m 225 #[iv p0, iv p1, .val (.long p2), .second, iv p3, iv p4, iv p5, iv 2, iv i0, iv i1, iv i2, iv m0, iv m1, iv p3, iv r_1, iv q2, iv ln2, rv b2, iv m1, iv m1] [(.int 1)]))
      have ke75 : Keep h0 h2 [] := (Keep.ext (Keep.refl h0 []) E2)
      have ke76 : Keep h0 h7 [] := (Keep.trans ke75 K7 (allS (Or.inr (Nat.le_of_eq gq2.symm)) all0))
      have ke77 : Keep h0 h64 [] := (Keep.trans ke76 K64 (allS (Or.inr (Nat.le_of_eq gq2.symm)) (allS (Or.inr (Nat.le_trans E2.1 lf7_0)) (allS (Or.inr (Nat.le_trans E2.1 lf7_1)) all0))))
      have ke78 : Keep h0 h66 [] := (Keep.trans ke77 K66 (allS (Or.inr (Nat.le_of_eq gq2.symm)) (allS (Or.inr (Nat.le_trans E2.1 lf7_0)) (allS (Or.inr (Nat.le_trans E2.1 lf7_1)) all0))))
      have ke79 : Keep h0 h69 [] := (Keep.trans ke78 K69 (allS (Or.inr (Nat.le_of_eq gq2.symm)) all0))
      have ke80 : Keep h0 h71 [] := (Keep.trans ke79 K71 (allS (Or.inr (Nat.le_of_eq gq2.symm)) all0))
      obtain ⟨fs, hr, hrun, hended, hW, hsame⟩ := X74.leave (v := some (.int 1)) (fun h => by rw [Bd.returns] at h; cases h)
      refine ⟨_, _, ?_, hrun, hended, _, _, rfl, ?_, ⟨_, rfl⟩, hW, hsame.mono (by decide) (by decide)⟩
      · exact retN X74 hx (t := .boolean) Bd.returns (by simp) (hb hby at_225) hr
      · show Q_law _ _ _ _ _ _ _ _ _ _ T74.heap _
        rw [e74]
        exact ⟨rfl, N74, ke80⟩
    · skip
      by_cases hp81 : i0 < r_1
      · skip
        have sz82 : h0.size ≤ h66.size := (Nat.le_trans sz65 K66.1)
        obtain ⟨cq83, kq83, q83a, q83b, q83c⟩ := isOf hZ e66 p66_0
        obtain ⟨_, _, ⟨T83, L83, kk83, nn83⟩, -, X83, ⟨Lc83, hQ83, lq83, yq83, zq83⟩, st83⟩ := X66.virtualBack hx (y := (⟨"com/example/nudge/nudge/tree/BlockEntries", "lineBefore", "(II)I"⟩ : MethodName)) (z := (⟨"com/example/nudge/nudge/tree/BlockEntries", "lineBefore", "(II)I"⟩ : MethodName)) hown (mvT hZ (w26 hw)) (mvT hZ (w27 hw)) (notFace_of_selects (args := #[]) (mvT hZ (w29 hw))) (mvT hZ (w29 hw)) (mvT hZ (w28 hw)) (by decide) (backOf (W := 0) (rm_lb_021 l Z a0 hw [] b2 ax_7 al_7 kx_7 kl_7 r_1 p5 i0 i1 m0 m1 h66 n0 (Nat.le_trans Z0 sz82) p66_0 p66_1 p66_2 p66_3 p66_4 p66_5 p66_6 nq61 nq62 nx7_2 g_b2 s0 hp81 hp67) hZ (w30 hw) (w7 hw) (by decide) (by decide)) q83a q83c (g := (mkF m 152 #[iv p0, iv p1, .val (.long p2), .second, iv p3, iv p4, iv p5, iv 2, iv i0, iv i1, iv i2, iv m0, iv m1, iv p3, iv r_1, iv q2, iv ln2, rv b2, .unset, .unset] [(.int p5), (.int r_1), (.ref b2)])) rfl (by rw [hml]; rfl) (Steps.refl _) (argsL := [(.int r_1), (.int p5)]) (rest := []) (lenOf pd_2 rfl) rfl (by show 2 * 0 + _ ≤ _; exact Nat.le_of_eq rfl) (hb hby at_152) (fun _ _ => ⟨rfl, e66, (by decide : 3 + 0 ≤ _), (by decide : 132 + 0 ≤ _)⟩)
        dsimp only [Pt.U, Pt.locs, Pt.cells, Pt.slots] at X83 lq83 yq83 zq83 st83 hQ83
        subst lq83 yq83 zq83
        obtain ⟨h83, e83⟩ : ∃ z, T83.heap = z := ⟨_, rfl⟩
        rw [e83] at hQ83
        obtain ⟨rfl, N83q, K83, p83_0, p83_1, p83_2, p83_3, p83_4, p83_5, p83_6⟩ := hQ83
        have N83 := Fr.app N66 N83q
        refine go_tr st83 ?_
        show Go _ _ _ _ (T83.setTop (mkF m 155 #[iv p0, iv p1, .val (.long p2), .second, iv p3, iv p4, iv p5, iv 2, iv i0, iv i1, iv i2, iv m0, iv m1, iv p3, iv r_1, iv q2, iv ln2, rv b2, .unset, .unset] [(.int m0)]))
        refine go_st (fun t k => XS.istore X83.here hx rfl (hb hby at_155) rfl (l' := #[iv p0, iv p1, .val (.long p2), .second, iv p3, iv p4, iv p5, iv 2, iv i0, iv i1, iv i2, iv m0, iv m1, iv p3, iv r_1, iv q2, iv ln2, rv b2, iv m0, .unset]) rfl k) ?_
        refine go_st (fun t k => XS.aload X83.here hx rfl (hb hby at_157) rfl rfl k) ?_
        refine go_st (fun t k => XS.iload X83.here hx rfl (hb hby at_159) rfl k) ?_
        show Go _ _ _ _ (T83.setTop (mkF m 161 #[iv p0, iv p1, .val (.long p2), .second, iv p3, iv p4, iv p5, iv 2, iv i0, iv i1, iv i2, iv m0, iv m1, iv p3, iv r_1, iv q2, iv ln2, rv b2, iv m0, .unset] [(.int q2), (.ref b2)]))
        refine go_st (fun t k => XS.iload X83.here hx rfl (hb hby at_161) rfl k) ?_
        show Go _ _ _ _ (T83.setTop (mkF m 163 #[iv p0, iv p1, .val (.long p2), .second, iv p3, iv p4, iv p5, iv 2, iv i0, iv i1, iv i2, iv m0, iv m1, iv p3, iv r_1, iv q2, iv ln2, rv b2, iv m0, .unset] [(.int ln2), (.int q2), (.ref b2)]))
        by_cases hp84 : i1 < q2
        · skip
          have sz85 : h0.size ≤ h83.size := (Nat.le_trans sz82 K83.1)
          obtain ⟨cq86, kq86, q86a, q86b, q86c⟩ := isOf hZ e83 p83_0
          obtain ⟨_, _, ⟨T86, L86, kk86, nn86⟩, -, X86, ⟨Lc86, hQ86, lq86, yq86, zq86⟩, st86⟩ := X83.virtualBack hx (y := (⟨"com/example/nudge/nudge/tree/BlockEntries", "lineBefore", "(II)I"⟩ : MethodName)) (z := (⟨"com/example/nudge/nudge/tree/BlockEntries", "lineBefore", "(II)I"⟩ : MethodName)) hown (mvT hZ (w26 hw)) (mvT hZ (w27 hw)) (notFace_of_selects (args := #[]) (mvT hZ (w29 hw))) (mvT hZ (w29 hw)) (mvT hZ (w28 hw)) (by decide) (backOf (W := 0) (rm_lb_022 l Z a0 hw [] b2 ax_7 al_7 kx_7 kl_7 q2 ln2 i0 i1 m0 m1 h83 n0 (Nat.le_trans Z0 sz85) p83_0 p83_1 p83_2 p83_3 p83_4 p83_5 p83_6 nq61 nq62 nx7_2 g_b2 s0 hp84) hZ (w30 hw) (w7 hw) (by decide) (by decide)) q86a q86c (g := (mkF m 163 #[iv p0, iv p1, .val (.long p2), .second, iv p3, iv p4, iv p5, iv 2, iv i0, iv i1, iv i2, iv m0, iv m1, iv p3, iv r_1, iv q2, iv ln2, rv b2, iv m0, .unset] [(.int ln2), (.int q2), (.ref b2)])) rfl (by rw [hml]; rfl) (Steps.refl _) (argsL := [(.int q2), (.int ln2)]) (rest := []) (lenOf pd_2 rfl) rfl (by show 2 * 0 + _ ≤ _; exact Nat.le_of_eq rfl) (hb hby at_163) (fun _ _ => ⟨rfl, e83, (by decide : 3 + 0 ≤ _), (by decide : 132 + 0 ≤ _)⟩)
          dsimp only [Pt.U, Pt.locs, Pt.cells, Pt.slots] at X86 lq86 yq86 zq86 st86 hQ86
          subst lq86 yq86 zq86
          obtain ⟨h86, e86⟩ : ∃ z, T86.heap = z := ⟨_, rfl⟩
          rw [e86] at hQ86
          obtain ⟨rfl, N86q, K86, p86_0, p86_1, p86_2, p86_3, p86_4, p86_5, p86_6⟩ := hQ86
          have N86 := Fr.app N83 N86q
          refine go_tr st86 ?_
          show Go _ _ _ _ (T86.setTop (mkF m 166 #[iv p0, iv p1, .val (.long p2), .second, iv p3, iv p4, iv p5, iv 2, iv i0, iv i1, iv i2, iv m0, iv m1, iv p3, iv r_1, iv q2, iv ln2, rv b2, iv m0, .unset] [(.int m1)]))
          refine go_st (fun t k => XS.istore X86.here hx rfl (hb hby at_166) rfl (l' := #[iv p0, iv p1, .val (.long p2), .second, iv p3, iv p4, iv p5, iv 2, iv i0, iv i1, iv i2, iv m0, iv m1, iv p3, iv r_1, iv q2, iv ln2, rv b2, iv m0, iv m1]) rfl k) ?_
          refine go_st (fun t k => XS.iload X86.here hx rfl (hb hby at_168) rfl k) ?_
          refine go_st (fun t k => XS.iload X86.here hx rfl (hb hby at_170) rfl k) ?_
          refine go_st (fun t k => XS.iload X86.here hx rfl (hb hby at_172) rfl k) ?_
          refine go_st (fun t k => XS.iload X86.here hx rfl (hb hby at_174) rfl k) ?_
          refine go_st (fun t k => XS.iload X86.here hx rfl (hb hby at_176) rfl k) ?_
          refine go_st (fun t k => XS.iload X86.here hx rfl (hb hby at_178) rfl k) ?_
          refine go_st (fun t k => XS.iload X86.here hx rfl (hb hby at_180) rfl k) ?_
          refine go_st (fun t k => XS.iload X86.here hx rfl (hb hby at_182) rfl k) ?_
          refine go_st (fun t k => XS.iload X86.here hx rfl (hb hby at_184) rfl k) ?_
          refine go_st (fun t k => XS.iload X86.here hx rfl (hb hby at_186) rfl k) ?_
          show Go _ _ _ _ (T86.setTop (mkF m 188 #[iv p0, iv p1, .val (.long p2), .second, iv p3, iv p4, iv p5, iv 2, iv i0, iv i1, iv i2, iv m0, iv m1, iv p3, iv r_1, iv q2, iv ln2, rv b2, iv m0, iv m1] [(.int p5), (.int p3), (.int m1), (.int m0), (.int i2), (.int i1), (.int i0), (.int 2), (.int r_1), (.int m0)]))
          have sz87 : h0.size ≤ h86.size := (Nat.le_trans sz85 K86.1)
          obtain ⟨_, _, ⟨T88, L88, kk88, nn88⟩, -, X88, ⟨Lc88, hQ88, lq88, yq88, zq88⟩, st88⟩ := Jvm.LawKit.callS X86 hx (y := (⟨"com/example/nudge/nudge/tree/BlockEntriesLineBeforePinLaw", "expected", "(IIIIIIIII)I"⟩ : MethodName)) hown (mvT hZ (w43 hw)) (mvT hZ (w44 hw)) (mvT hZ (w45 hw)) (mvT hZ (w46 hw)) (by decide) (backOf (W := 1) (rm_exp_21 l Z a0 hw [] r_1 i0 i1 i2 m0 m1 p3 p5 h86 n0 (Nat.le_trans Z0 sz87) hp81 hp67) hZ (w46 hw) (w45 hw) (by decide) (by decide)) (g := (mkF m 188 #[iv p0, iv p1, .val (.long p2), .second, iv p3, iv p4, iv p5, iv 2, iv i0, iv i1, iv i2, iv m0, iv m1, iv p3, iv r_1, iv q2, iv ln2, rv b2, iv m0, iv m1] [(.int p5), (.int p3), (.int m1), (.int m0), (.int i2), (.int i1), (.int i0), (.int 2), (.int r_1), (.int m0)])) rfl (by rw [hml]; rfl) (argsL := [(.int r_1), (.int 2), (.int i0), (.int i1), (.int i2), (.int m0), (.int m1), (.int p3), (.int p5)]) (rest := [(.int m0)]) (lenOf pd_4 rfl) rfl (by show 2 * 0 + _ ≤ _; exact Nat.le_of_eq rfl) (hb hby at_188) (fun _ _ => ⟨rfl, e86, (by decide : 3 + 0 ≤ _), (by decide : 132 + 0 ≤ _)⟩)
          dsimp only [Pt.U, Pt.locs, Pt.cells, Pt.slots] at X88 lq88 yq88 zq88 st88 hQ88
          subst lq88 yq88 zq88
          obtain ⟨h88, e88⟩ : ∃ z, T88.heap = z := ⟨_, rfl⟩
          rw [e88] at hQ88
          obtain ⟨rfl, N88q, he88⟩ := hQ88
          have N88 := Fr.app N86 N88q
          rw [he88] at e88
          refine go_st st88 ?_
          show Go _ _ _ _ (T88.setTop (mkF m 191 #[iv p0, iv p1, .val (.long p2), .second, iv p3, iv p4, iv p5, iv 2, iv i0, iv i1, iv i2, iv m0, iv m1, iv p3, iv r_1, iv q2, iv ln2, rv b2, iv m0, iv m1] [(.int m0), (.int m0)]))
          refine go_st (fun t k => XS.icmpNo X88.here hx rfl (hb hby at_191) rfl (teq (rfl : m0 = m0)).2 k) ?_
          show Go _ _ _ _ (T88.setTop (mkF m 194 #[iv p0, iv p1, .val (.long p2), .second, iv p3, iv p4, iv p5, iv 2, iv i0, iv i1, iv i2, iv m0, iv m1, iv p3, iv r_1, iv q2, iv ln2, rv b2, iv m0, iv m1] []))
          refine go_st (fun t k => XS.iload X88.here hx rfl (hb hby at_194) rfl k) ?_
          refine go_st (fun t k => XS.iload X88.here hx rfl (hb hby at_196) rfl k) ?_
          refine go_st (fun t k => XS.iload X88.here hx rfl (hb hby at_198) rfl k) ?_
          refine go_st (fun t k => XS.iload X88.here hx rfl (hb hby at_200) rfl k) ?_
          refine go_st (fun t k => XS.iload X88.here hx rfl (hb hby at_202) rfl k) ?_
          refine go_st (fun t k => XS.iload X88.here hx rfl (hb hby at_204) rfl k) ?_
          refine go_st (fun t k => XS.iload X88.here hx rfl (hb hby at_206) rfl k) ?_
          refine go_st (fun t k => XS.iload X88.here hx rfl (hb hby at_208) rfl k) ?_
          refine go_st (fun t k => XS.iload X88.here hx rfl (hb hby at_210) rfl k) ?_
          refine go_st (fun t k => XS.iload X88.here hx rfl (hb hby at_212) rfl k) ?_
          show Go _ _ _ _ (T88.setTop (mkF m 214 #[iv p0, iv p1, .val (.long p2), .second, iv p3, iv p4, iv p5, iv 2, iv i0, iv i1, iv i2, iv m0, iv m1, iv p3, iv r_1, iv q2, iv ln2, rv b2, iv m0, iv m1] [(.int ln2), (.int p3), (.int m1), (.int m0), (.int i2), (.int i1), (.int i0), (.int 2), (.int q2), (.int m1)]))
          obtain ⟨_, _, ⟨T89, L89, kk89, nn89⟩, -, X89, ⟨Lc89, hQ89, lq89, yq89, zq89⟩, st89⟩ := Jvm.LawKit.callS X88 hx (y := (⟨"com/example/nudge/nudge/tree/BlockEntriesLineBeforePinLaw", "expected", "(IIIIIIIII)I"⟩ : MethodName)) hown (mvT hZ (w43 hw)) (mvT hZ (w44 hw)) (mvT hZ (w45 hw)) (mvT hZ (w46 hw)) (by decide) (backOf (W := 1) (rm_exp_22 l Z a0 hw [] q2 i0 i1 i2 m0 m1 p3 ln2 h86 n0 (Nat.le_trans Z0 sz87) hp84) hZ (w46 hw) (w45 hw) (by decide) (by decide)) (g := (mkF m 214 #[iv p0, iv p1, .val (.long p2), .second, iv p3, iv p4, iv p5, iv 2, iv i0, iv i1, iv i2, iv m0, iv m1, iv p3, iv r_1, iv q2, iv ln2, rv b2, iv m0, iv m1] [(.int ln2), (.int p3), (.int m1), (.int m0), (.int i2), (.int i1), (.int i0), (.int 2), (.int q2), (.int m1)])) rfl (by rw [hml]; rfl) (argsL := [(.int q2), (.int 2), (.int i0), (.int i1), (.int i2), (.int m0), (.int m1), (.int p3), (.int ln2)]) (rest := [(.int m1)]) (lenOf pd_4 rfl) rfl (by show 2 * 0 + _ ≤ _; exact Nat.le_of_eq rfl) (hb hby at_214) (fun _ _ => ⟨rfl, e88, (by decide : 3 + 0 ≤ _), (by decide : 132 + 0 ≤ _)⟩)
          dsimp only [Pt.U, Pt.locs, Pt.cells, Pt.slots] at X89 lq89 yq89 zq89 st89 hQ89
          subst lq89 yq89 zq89
          obtain ⟨h89, e89⟩ : ∃ z, T89.heap = z := ⟨_, rfl⟩
          rw [e89] at hQ89
          obtain ⟨rfl, N89q, he89⟩ := hQ89
          have N89 := Fr.app N88 N89q
          rw [he89] at e89
          refine go_st st89 ?_
          show Go _ _ _ _ (T89.setTop (mkF m 217 #[iv p0, iv p1, .val (.long p2), .second, iv p3, iv p4, iv p5, iv 2, iv i0, iv i1, iv i2, iv m0, iv m1, iv p3, iv r_1, iv q2, iv ln2, rv b2, iv m0, iv m1] [(.int m1), (.int m1)]))
          refine go_st (fun t k => XS.icmpNo X89.here hx rfl (hb hby at_217) rfl (teq (rfl : m1 = m1)).2 k) ?_
          show Go _ _ _ _ (T89.setTop (mkF m 220 #[iv p0, iv p1, .val (.long p2), .second, iv p3, iv p4, iv p5, iv 2, iv i0, iv i1, iv i2, iv m0, iv m1, iv p3, iv r_1, iv q2, iv ln2, rv b2, iv m0, iv m1] []))
          refine go_st (fun t k => XS.iconst X89.here hx rfl (hb hby at_220) k) ?_
          refine go_st (fun t k => XS.goto X89.here hx rfl (pc0 := 221) (pc' := 225) rfl (hb hby at_221) (by decide) (by decide) k) ?_
          show Go _ _ _ _ (T89.setTop (mkF m 225 #[iv p0, iv p1, .val (.long p2), .second, iv p3, iv p4, iv p5, iv 2, iv i0, iv i1, iv i2, iv m0, iv m1, iv p3, iv r_1, iv q2, iv ln2, rv b2, iv m0, iv m1] [(.int 1)]))
          have ke90 : Keep h0 h2 [] := (Keep.ext (Keep.refl h0 []) E2)
          have ke91 : Keep h0 h7 [] := (Keep.trans ke90 K7 (allS (Or.inr (Nat.le_of_eq gq2.symm)) all0))
          have ke92 : Keep h0 h64 [] := (Keep.trans ke91 K64 (allS (Or.inr (Nat.le_of_eq gq2.symm)) (allS (Or.inr (Nat.le_trans E2.1 lf7_0)) (allS (Or.inr (Nat.le_trans E2.1 lf7_1)) all0))))
          have ke93 : Keep h0 h66 [] := (Keep.trans ke92 K66 (allS (Or.inr (Nat.le_of_eq gq2.symm)) (allS (Or.inr (Nat.le_trans E2.1 lf7_0)) (allS (Or.inr (Nat.le_trans E2.1 lf7_1)) all0))))
          have ke94 : Keep h0 h83 [] := (Keep.trans ke93 K83 (allS (Or.inr (Nat.le_of_eq gq2.symm)) all0))
          have ke95 : Keep h0 h86 [] := (Keep.trans ke94 K86 (allS (Or.inr (Nat.le_of_eq gq2.symm)) all0))
          obtain ⟨fs, hr, hrun, hended, hW, hsame⟩ := X89.leave (v := some (.int 1)) (fun h => by rw [Bd.returns] at h; cases h)
          refine ⟨_, _, ?_, hrun, hended, _, _, rfl, ?_, ⟨_, rfl⟩, hW, hsame.mono (by decide) (by decide)⟩
          · exact retN X89 hx (t := .boolean) Bd.returns (by simp) (hb hby at_225) hr
          · show Q_law _ _ _ _ _ _ _ _ _ _ T89.heap _
            rw [e89]
            exact ⟨rfl, N89, ke95⟩
        · skip
          have hlq : i0 < q2 := pl_lt (by have := pl_of hp81; omega)
          have sz96 : h0.size ≤ h83.size := (Nat.le_trans sz82 K83.1)
          obtain ⟨cq97, kq97, q97a, q97b, q97c⟩ := isOf hZ e83 p83_0
          obtain ⟨_, _, ⟨T97, L97, kk97, nn97⟩, -, X97, ⟨Lc97, hQ97, lq97, yq97, zq97⟩, st97⟩ := X83.virtualBack hx (y := (⟨"com/example/nudge/nudge/tree/BlockEntries", "lineBefore", "(II)I"⟩ : MethodName)) (z := (⟨"com/example/nudge/nudge/tree/BlockEntries", "lineBefore", "(II)I"⟩ : MethodName)) hown (mvT hZ (w26 hw)) (mvT hZ (w27 hw)) (notFace_of_selects (args := #[]) (mvT hZ (w29 hw))) (mvT hZ (w29 hw)) (mvT hZ (w28 hw)) (by decide) (backOf (W := 0) (rm_lb_021 l Z a0 hw [] b2 ax_7 al_7 kx_7 kl_7 q2 ln2 i0 i1 m0 m1 h83 n0 (Nat.le_trans Z0 sz96) p83_0 p83_1 p83_2 p83_3 p83_4 p83_5 p83_6 nq61 nq62 nx7_2 g_b2 s0 hlq hp84) hZ (w30 hw) (w7 hw) (by decide) (by decide)) q97a q97c (g := (mkF m 163 #[iv p0, iv p1, .val (.long p2), .second, iv p3, iv p4, iv p5, iv 2, iv i0, iv i1, iv i2, iv m0, iv m1, iv p3, iv r_1, iv q2, iv ln2, rv b2, iv m0, .unset] [(.int ln2), (.int q2), (.ref b2)])) rfl (by rw [hml]; rfl) (Steps.refl _) (argsL := [(.int q2), (.int ln2)]) (rest := []) (lenOf pd_2 rfl) rfl (by show 2 * 0 + _ ≤ _; exact Nat.le_of_eq rfl) (hb hby at_163) (fun _ _ => ⟨rfl, e83, (by decide : 3 + 0 ≤ _), (by decide : 132 + 0 ≤ _)⟩)
          dsimp only [Pt.U, Pt.locs, Pt.cells, Pt.slots] at X97 lq97 yq97 zq97 st97 hQ97
          subst lq97 yq97 zq97
          obtain ⟨h97, e97⟩ : ∃ z, T97.heap = z := ⟨_, rfl⟩
          rw [e97] at hQ97
          obtain ⟨rfl, N97q, K97, p97_0, p97_1, p97_2, p97_3, p97_4, p97_5, p97_6⟩ := hQ97
          have N97 := Fr.app N83 N97q
          refine go_tr st97 ?_
          show Go _ _ _ _ (T97.setTop (mkF m 166 #[iv p0, iv p1, .val (.long p2), .second, iv p3, iv p4, iv p5, iv 2, iv i0, iv i1, iv i2, iv m0, iv m1, iv p3, iv r_1, iv q2, iv ln2, rv b2, iv m0, .unset] [(.int m0)]))
          refine go_st (fun t k => XS.istore X97.here hx rfl (hb hby at_166) rfl (l' := #[iv p0, iv p1, .val (.long p2), .second, iv p3, iv p4, iv p5, iv 2, iv i0, iv i1, iv i2, iv m0, iv m1, iv p3, iv r_1, iv q2, iv ln2, rv b2, iv m0, iv m0]) rfl k) ?_
          refine go_st (fun t k => XS.iload X97.here hx rfl (hb hby at_168) rfl k) ?_
          refine go_st (fun t k => XS.iload X97.here hx rfl (hb hby at_170) rfl k) ?_
          refine go_st (fun t k => XS.iload X97.here hx rfl (hb hby at_172) rfl k) ?_
          refine go_st (fun t k => XS.iload X97.here hx rfl (hb hby at_174) rfl k) ?_
          refine go_st (fun t k => XS.iload X97.here hx rfl (hb hby at_176) rfl k) ?_
          refine go_st (fun t k => XS.iload X97.here hx rfl (hb hby at_178) rfl k) ?_
          refine go_st (fun t k => XS.iload X97.here hx rfl (hb hby at_180) rfl k) ?_
          refine go_st (fun t k => XS.iload X97.here hx rfl (hb hby at_182) rfl k) ?_
          refine go_st (fun t k => XS.iload X97.here hx rfl (hb hby at_184) rfl k) ?_
          refine go_st (fun t k => XS.iload X97.here hx rfl (hb hby at_186) rfl k) ?_
          show Go _ _ _ _ (T97.setTop (mkF m 188 #[iv p0, iv p1, .val (.long p2), .second, iv p3, iv p4, iv p5, iv 2, iv i0, iv i1, iv i2, iv m0, iv m1, iv p3, iv r_1, iv q2, iv ln2, rv b2, iv m0, iv m0] [(.int p5), (.int p3), (.int m1), (.int m0), (.int i2), (.int i1), (.int i0), (.int 2), (.int r_1), (.int m0)]))
          have sz98 : h0.size ≤ h97.size := (Nat.le_trans sz96 K97.1)
          obtain ⟨_, _, ⟨T99, L99, kk99, nn99⟩, -, X99, ⟨Lc99, hQ99, lq99, yq99, zq99⟩, st99⟩ := Jvm.LawKit.callS X97 hx (y := (⟨"com/example/nudge/nudge/tree/BlockEntriesLineBeforePinLaw", "expected", "(IIIIIIIII)I"⟩ : MethodName)) hown (mvT hZ (w43 hw)) (mvT hZ (w44 hw)) (mvT hZ (w45 hw)) (mvT hZ (w46 hw)) (by decide) (backOf (W := 1) (rm_exp_21 l Z a0 hw [] r_1 i0 i1 i2 m0 m1 p3 p5 h97 n0 (Nat.le_trans Z0 sz98) hp81 hp67) hZ (w46 hw) (w45 hw) (by decide) (by decide)) (g := (mkF m 188 #[iv p0, iv p1, .val (.long p2), .second, iv p3, iv p4, iv p5, iv 2, iv i0, iv i1, iv i2, iv m0, iv m1, iv p3, iv r_1, iv q2, iv ln2, rv b2, iv m0, iv m0] [(.int p5), (.int p3), (.int m1), (.int m0), (.int i2), (.int i1), (.int i0), (.int 2), (.int r_1), (.int m0)])) rfl (by rw [hml]; rfl) (argsL := [(.int r_1), (.int 2), (.int i0), (.int i1), (.int i2), (.int m0), (.int m1), (.int p3), (.int p5)]) (rest := [(.int m0)]) (lenOf pd_4 rfl) rfl (by show 2 * 0 + _ ≤ _; exact Nat.le_of_eq rfl) (hb hby at_188) (fun _ _ => ⟨rfl, e97, (by decide : 3 + 0 ≤ _), (by decide : 132 + 0 ≤ _)⟩)
          dsimp only [Pt.U, Pt.locs, Pt.cells, Pt.slots] at X99 lq99 yq99 zq99 st99 hQ99
          subst lq99 yq99 zq99
          obtain ⟨h99, e99⟩ : ∃ z, T99.heap = z := ⟨_, rfl⟩
          rw [e99] at hQ99
          obtain ⟨rfl, N99q, he99⟩ := hQ99
          have N99 := Fr.app N97 N99q
          rw [he99] at e99
          refine go_st st99 ?_
          show Go _ _ _ _ (T99.setTop (mkF m 191 #[iv p0, iv p1, .val (.long p2), .second, iv p3, iv p4, iv p5, iv 2, iv i0, iv i1, iv i2, iv m0, iv m1, iv p3, iv r_1, iv q2, iv ln2, rv b2, iv m0, iv m0] [(.int m0), (.int m0)]))
          refine go_st (fun t k => XS.icmpNo X99.here hx rfl (hb hby at_191) rfl (teq (rfl : m0 = m0)).2 k) ?_
          show Go _ _ _ _ (T99.setTop (mkF m 194 #[iv p0, iv p1, .val (.long p2), .second, iv p3, iv p4, iv p5, iv 2, iv i0, iv i1, iv i2, iv m0, iv m1, iv p3, iv r_1, iv q2, iv ln2, rv b2, iv m0, iv m0] []))
          refine go_st (fun t k => XS.iload X99.here hx rfl (hb hby at_194) rfl k) ?_
          refine go_st (fun t k => XS.iload X99.here hx rfl (hb hby at_196) rfl k) ?_
          refine go_st (fun t k => XS.iload X99.here hx rfl (hb hby at_198) rfl k) ?_
          refine go_st (fun t k => XS.iload X99.here hx rfl (hb hby at_200) rfl k) ?_
          refine go_st (fun t k => XS.iload X99.here hx rfl (hb hby at_202) rfl k) ?_
          refine go_st (fun t k => XS.iload X99.here hx rfl (hb hby at_204) rfl k) ?_
          refine go_st (fun t k => XS.iload X99.here hx rfl (hb hby at_206) rfl k) ?_
          refine go_st (fun t k => XS.iload X99.here hx rfl (hb hby at_208) rfl k) ?_
          refine go_st (fun t k => XS.iload X99.here hx rfl (hb hby at_210) rfl k) ?_
          refine go_st (fun t k => XS.iload X99.here hx rfl (hb hby at_212) rfl k) ?_
          show Go _ _ _ _ (T99.setTop (mkF m 214 #[iv p0, iv p1, .val (.long p2), .second, iv p3, iv p4, iv p5, iv 2, iv i0, iv i1, iv i2, iv m0, iv m1, iv p3, iv r_1, iv q2, iv ln2, rv b2, iv m0, iv m0] [(.int ln2), (.int p3), (.int m1), (.int m0), (.int i2), (.int i1), (.int i0), (.int 2), (.int q2), (.int m0)]))
          obtain ⟨_, _, ⟨T100, L100, kk100, nn100⟩, -, X100, ⟨Lc100, hQ100, lq100, yq100, zq100⟩, st100⟩ := Jvm.LawKit.callS X99 hx (y := (⟨"com/example/nudge/nudge/tree/BlockEntriesLineBeforePinLaw", "expected", "(IIIIIIIII)I"⟩ : MethodName)) hown (mvT hZ (w43 hw)) (mvT hZ (w44 hw)) (mvT hZ (w45 hw)) (mvT hZ (w46 hw)) (by decide) (backOf (W := 1) (rm_exp_21 l Z a0 hw [] q2 i0 i1 i2 m0 m1 p3 ln2 h97 n0 (Nat.le_trans Z0 sz98) hlq hp84) hZ (w46 hw) (w45 hw) (by decide) (by decide)) (g := (mkF m 214 #[iv p0, iv p1, .val (.long p2), .second, iv p3, iv p4, iv p5, iv 2, iv i0, iv i1, iv i2, iv m0, iv m1, iv p3, iv r_1, iv q2, iv ln2, rv b2, iv m0, iv m0] [(.int ln2), (.int p3), (.int m1), (.int m0), (.int i2), (.int i1), (.int i0), (.int 2), (.int q2), (.int m0)])) rfl (by rw [hml]; rfl) (argsL := [(.int q2), (.int 2), (.int i0), (.int i1), (.int i2), (.int m0), (.int m1), (.int p3), (.int ln2)]) (rest := [(.int m0)]) (lenOf pd_4 rfl) rfl (by show 2 * 0 + _ ≤ _; exact Nat.le_of_eq rfl) (hb hby at_214) (fun _ _ => ⟨rfl, e99, (by decide : 3 + 0 ≤ _), (by decide : 132 + 0 ≤ _)⟩)
          dsimp only [Pt.U, Pt.locs, Pt.cells, Pt.slots] at X100 lq100 yq100 zq100 st100 hQ100
          subst lq100 yq100 zq100
          obtain ⟨h100, e100⟩ : ∃ z, T100.heap = z := ⟨_, rfl⟩
          rw [e100] at hQ100
          obtain ⟨rfl, N100q, he100⟩ := hQ100
          have N100 := Fr.app N99 N100q
          rw [he100] at e100
          refine go_st st100 ?_
          show Go _ _ _ _ (T100.setTop (mkF m 217 #[iv p0, iv p1, .val (.long p2), .second, iv p3, iv p4, iv p5, iv 2, iv i0, iv i1, iv i2, iv m0, iv m1, iv p3, iv r_1, iv q2, iv ln2, rv b2, iv m0, iv m0] [(.int m0), (.int m0)]))
          refine go_st (fun t k => XS.icmpNo X100.here hx rfl (hb hby at_217) rfl (teq (rfl : m0 = m0)).2 k) ?_
          show Go _ _ _ _ (T100.setTop (mkF m 220 #[iv p0, iv p1, .val (.long p2), .second, iv p3, iv p4, iv p5, iv 2, iv i0, iv i1, iv i2, iv m0, iv m1, iv p3, iv r_1, iv q2, iv ln2, rv b2, iv m0, iv m0] []))
          refine go_st (fun t k => XS.iconst X100.here hx rfl (hb hby at_220) k) ?_
          refine go_st (fun t k => XS.goto X100.here hx rfl (pc0 := 221) (pc' := 225) rfl (hb hby at_221) (by decide) (by decide) k) ?_
          show Go _ _ _ _ (T100.setTop (mkF m 225 #[iv p0, iv p1, .val (.long p2), .second, iv p3, iv p4, iv p5, iv 2, iv i0, iv i1, iv i2, iv m0, iv m1, iv p3, iv r_1, iv q2, iv ln2, rv b2, iv m0, iv m0] [(.int 1)]))
          have ke101 : Keep h0 h2 [] := (Keep.ext (Keep.refl h0 []) E2)
          have ke102 : Keep h0 h7 [] := (Keep.trans ke101 K7 (allS (Or.inr (Nat.le_of_eq gq2.symm)) all0))
          have ke103 : Keep h0 h64 [] := (Keep.trans ke102 K64 (allS (Or.inr (Nat.le_of_eq gq2.symm)) (allS (Or.inr (Nat.le_trans E2.1 lf7_0)) (allS (Or.inr (Nat.le_trans E2.1 lf7_1)) all0))))
          have ke104 : Keep h0 h66 [] := (Keep.trans ke103 K66 (allS (Or.inr (Nat.le_of_eq gq2.symm)) (allS (Or.inr (Nat.le_trans E2.1 lf7_0)) (allS (Or.inr (Nat.le_trans E2.1 lf7_1)) all0))))
          have ke105 : Keep h0 h83 [] := (Keep.trans ke104 K83 (allS (Or.inr (Nat.le_of_eq gq2.symm)) all0))
          have ke106 : Keep h0 h97 [] := (Keep.trans ke105 K97 (allS (Or.inr (Nat.le_of_eq gq2.symm)) all0))
          obtain ⟨fs, hr, hrun, hended, hW, hsame⟩ := X100.leave (v := some (.int 1)) (fun h => by rw [Bd.returns] at h; cases h)
          refine ⟨_, _, ?_, hrun, hended, _, _, rfl, ?_, ⟨_, rfl⟩, hW, hsame.mono (by decide) (by decide)⟩
          · exact retN X100 hx (t := .boolean) Bd.returns (by simp) (hb hby at_225) hr
          · show Q_law _ _ _ _ _ _ _ _ _ _ T100.heap _
            rw [e100]
            exact ⟨rfl, N100, ke106⟩
      · skip
        have sz107 : h0.size ≤ h66.size := (Nat.le_trans sz65 K66.1)
        obtain ⟨cq108, kq108, q108a, q108b, q108c⟩ := isOf hZ e66 p66_0
        obtain ⟨_, _, ⟨T108, L108, kk108, nn108⟩, -, X108, ⟨Lc108, hQ108, lq108, yq108, zq108⟩, st108⟩ := X66.virtualBack hx (y := (⟨"com/example/nudge/nudge/tree/BlockEntries", "lineBefore", "(II)I"⟩ : MethodName)) (z := (⟨"com/example/nudge/nudge/tree/BlockEntries", "lineBefore", "(II)I"⟩ : MethodName)) hown (mvT hZ (w26 hw)) (mvT hZ (w27 hw)) (notFace_of_selects (args := #[]) (mvT hZ (w29 hw))) (mvT hZ (w29 hw)) (mvT hZ (w28 hw)) (by decide) (backOf (W := 0) (rm_lb_020 l Z a0 hw [] b2 ax_7 al_7 kx_7 kl_7 r_1 p5 i0 i1 m0 m1 h66 n0 (Nat.le_trans Z0 sz107) p66_0 p66_1 p66_2 p66_3 p66_4 p66_5 p66_6 nq61 nq62 nx7_2 g_b2 s0 hp81) hZ (w30 hw) (w7 hw) (by decide) (by decide)) q108a q108c (g := (mkF m 152 #[iv p0, iv p1, .val (.long p2), .second, iv p3, iv p4, iv p5, iv 2, iv i0, iv i1, iv i2, iv m0, iv m1, iv p3, iv r_1, iv q2, iv ln2, rv b2, .unset, .unset] [(.int p5), (.int r_1), (.ref b2)])) rfl (by rw [hml]; rfl) (Steps.refl _) (argsL := [(.int r_1), (.int p5)]) (rest := []) (lenOf pd_2 rfl) rfl (by show 2 * 0 + _ ≤ _; exact Nat.le_of_eq rfl) (hb hby at_152) (fun _ _ => ⟨rfl, e66, (by decide : 3 + 0 ≤ _), (by decide : 132 + 0 ≤ _)⟩)
        dsimp only [Pt.U, Pt.locs, Pt.cells, Pt.slots] at X108 lq108 yq108 zq108 st108 hQ108
        subst lq108 yq108 zq108
        obtain ⟨h108, e108⟩ : ∃ z, T108.heap = z := ⟨_, rfl⟩
        rw [e108] at hQ108
        obtain ⟨rfl, N108q, K108, p108_0, p108_1, p108_2, p108_3, p108_4, p108_5, p108_6⟩ := hQ108
        have N108 := Fr.app N66 N108q
        refine go_tr st108 ?_
        show Go _ _ _ _ (T108.setTop (mkF m 155 #[iv p0, iv p1, .val (.long p2), .second, iv p3, iv p4, iv p5, iv 2, iv i0, iv i1, iv i2, iv m0, iv m1, iv p3, iv r_1, iv q2, iv ln2, rv b2, .unset, .unset] [(.int p5)]))
        refine go_st (fun t k => XS.istore X108.here hx rfl (hb hby at_155) rfl (l' := #[iv p0, iv p1, .val (.long p2), .second, iv p3, iv p4, iv p5, iv 2, iv i0, iv i1, iv i2, iv m0, iv m1, iv p3, iv r_1, iv q2, iv ln2, rv b2, iv p5, .unset]) rfl k) ?_
        refine go_st (fun t k => XS.aload X108.here hx rfl (hb hby at_157) rfl rfl k) ?_
        refine go_st (fun t k => XS.iload X108.here hx rfl (hb hby at_159) rfl k) ?_
        show Go _ _ _ _ (T108.setTop (mkF m 161 #[iv p0, iv p1, .val (.long p2), .second, iv p3, iv p4, iv p5, iv 2, iv i0, iv i1, iv i2, iv m0, iv m1, iv p3, iv r_1, iv q2, iv ln2, rv b2, iv p5, .unset] [(.int q2), (.ref b2)]))
        refine go_st (fun t k => XS.iload X108.here hx rfl (hb hby at_161) rfl k) ?_
        show Go _ _ _ _ (T108.setTop (mkF m 163 #[iv p0, iv p1, .val (.long p2), .second, iv p3, iv p4, iv p5, iv 2, iv i0, iv i1, iv i2, iv m0, iv m1, iv p3, iv r_1, iv q2, iv ln2, rv b2, iv p5, .unset] [(.int ln2), (.int q2), (.ref b2)]))
        by_cases hp109 : i1 < q2
        · skip
          have sz110 : h0.size ≤ h108.size := (Nat.le_trans sz107 K108.1)
          obtain ⟨cq111, kq111, q111a, q111b, q111c⟩ := isOf hZ e108 p108_0
          obtain ⟨_, _, ⟨T111, L111, kk111, nn111⟩, -, X111, ⟨Lc111, hQ111, lq111, yq111, zq111⟩, st111⟩ := X108.virtualBack hx (y := (⟨"com/example/nudge/nudge/tree/BlockEntries", "lineBefore", "(II)I"⟩ : MethodName)) (z := (⟨"com/example/nudge/nudge/tree/BlockEntries", "lineBefore", "(II)I"⟩ : MethodName)) hown (mvT hZ (w26 hw)) (mvT hZ (w27 hw)) (notFace_of_selects (args := #[]) (mvT hZ (w29 hw))) (mvT hZ (w29 hw)) (mvT hZ (w28 hw)) (by decide) (backOf (W := 0) (rm_lb_022 l Z a0 hw [] b2 ax_7 al_7 kx_7 kl_7 q2 ln2 i0 i1 m0 m1 h108 n0 (Nat.le_trans Z0 sz110) p108_0 p108_1 p108_2 p108_3 p108_4 p108_5 p108_6 nq61 nq62 nx7_2 g_b2 s0 hp109) hZ (w30 hw) (w7 hw) (by decide) (by decide)) q111a q111c (g := (mkF m 163 #[iv p0, iv p1, .val (.long p2), .second, iv p3, iv p4, iv p5, iv 2, iv i0, iv i1, iv i2, iv m0, iv m1, iv p3, iv r_1, iv q2, iv ln2, rv b2, iv p5, .unset] [(.int ln2), (.int q2), (.ref b2)])) rfl (by rw [hml]; rfl) (Steps.refl _) (argsL := [(.int q2), (.int ln2)]) (rest := []) (lenOf pd_2 rfl) rfl (by show 2 * 0 + _ ≤ _; exact Nat.le_of_eq rfl) (hb hby at_163) (fun _ _ => ⟨rfl, e108, (by decide : 3 + 0 ≤ _), (by decide : 132 + 0 ≤ _)⟩)
          dsimp only [Pt.U, Pt.locs, Pt.cells, Pt.slots] at X111 lq111 yq111 zq111 st111 hQ111
          subst lq111 yq111 zq111
          obtain ⟨h111, e111⟩ : ∃ z, T111.heap = z := ⟨_, rfl⟩
          rw [e111] at hQ111
          obtain ⟨rfl, N111q, K111, p111_0, p111_1, p111_2, p111_3, p111_4, p111_5, p111_6⟩ := hQ111
          have N111 := Fr.app N108 N111q
          refine go_tr st111 ?_
          show Go _ _ _ _ (T111.setTop (mkF m 166 #[iv p0, iv p1, .val (.long p2), .second, iv p3, iv p4, iv p5, iv 2, iv i0, iv i1, iv i2, iv m0, iv m1, iv p3, iv r_1, iv q2, iv ln2, rv b2, iv p5, .unset] [(.int m1)]))
          refine go_st (fun t k => XS.istore X111.here hx rfl (hb hby at_166) rfl (l' := #[iv p0, iv p1, .val (.long p2), .second, iv p3, iv p4, iv p5, iv 2, iv i0, iv i1, iv i2, iv m0, iv m1, iv p3, iv r_1, iv q2, iv ln2, rv b2, iv p5, iv m1]) rfl k) ?_
          refine go_st (fun t k => XS.iload X111.here hx rfl (hb hby at_168) rfl k) ?_
          refine go_st (fun t k => XS.iload X111.here hx rfl (hb hby at_170) rfl k) ?_
          refine go_st (fun t k => XS.iload X111.here hx rfl (hb hby at_172) rfl k) ?_
          refine go_st (fun t k => XS.iload X111.here hx rfl (hb hby at_174) rfl k) ?_
          refine go_st (fun t k => XS.iload X111.here hx rfl (hb hby at_176) rfl k) ?_
          refine go_st (fun t k => XS.iload X111.here hx rfl (hb hby at_178) rfl k) ?_
          refine go_st (fun t k => XS.iload X111.here hx rfl (hb hby at_180) rfl k) ?_
          refine go_st (fun t k => XS.iload X111.here hx rfl (hb hby at_182) rfl k) ?_
          refine go_st (fun t k => XS.iload X111.here hx rfl (hb hby at_184) rfl k) ?_
          refine go_st (fun t k => XS.iload X111.here hx rfl (hb hby at_186) rfl k) ?_
          show Go _ _ _ _ (T111.setTop (mkF m 188 #[iv p0, iv p1, .val (.long p2), .second, iv p3, iv p4, iv p5, iv 2, iv i0, iv i1, iv i2, iv m0, iv m1, iv p3, iv r_1, iv q2, iv ln2, rv b2, iv p5, iv m1] [(.int p5), (.int p3), (.int m1), (.int m0), (.int i2), (.int i1), (.int i0), (.int 2), (.int r_1), (.int p5)]))
          have sz112 : h0.size ≤ h111.size := (Nat.le_trans sz110 K111.1)
          obtain ⟨_, _, ⟨T113, L113, kk113, nn113⟩, -, X113, ⟨Lc113, hQ113, lq113, yq113, zq113⟩, st113⟩ := Jvm.LawKit.callS X111 hx (y := (⟨"com/example/nudge/nudge/tree/BlockEntriesLineBeforePinLaw", "expected", "(IIIIIIIII)I"⟩ : MethodName)) hown (mvT hZ (w43 hw)) (mvT hZ (w44 hw)) (mvT hZ (w45 hw)) (mvT hZ (w46 hw)) (by decide) (backOf (W := 1) (rm_exp_20 l Z a0 hw [] r_1 i0 i1 i2 m0 m1 p3 p5 h111 n0 (Nat.le_trans Z0 sz112) hp81 hp67) hZ (w46 hw) (w45 hw) (by decide) (by decide)) (g := (mkF m 188 #[iv p0, iv p1, .val (.long p2), .second, iv p3, iv p4, iv p5, iv 2, iv i0, iv i1, iv i2, iv m0, iv m1, iv p3, iv r_1, iv q2, iv ln2, rv b2, iv p5, iv m1] [(.int p5), (.int p3), (.int m1), (.int m0), (.int i2), (.int i1), (.int i0), (.int 2), (.int r_1), (.int p5)])) rfl (by rw [hml]; rfl) (argsL := [(.int r_1), (.int 2), (.int i0), (.int i1), (.int i2), (.int m0), (.int m1), (.int p3), (.int p5)]) (rest := [(.int p5)]) (lenOf pd_4 rfl) rfl (by show 2 * 0 + _ ≤ _; exact Nat.le_of_eq rfl) (hb hby at_188) (fun _ _ => ⟨rfl, e111, (by decide : 3 + 0 ≤ _), (by decide : 132 + 0 ≤ _)⟩)
          dsimp only [Pt.U, Pt.locs, Pt.cells, Pt.slots] at X113 lq113 yq113 zq113 st113 hQ113
          subst lq113 yq113 zq113
          obtain ⟨h113, e113⟩ : ∃ z, T113.heap = z := ⟨_, rfl⟩
          rw [e113] at hQ113
          obtain ⟨rfl, N113q, he113⟩ := hQ113
          have N113 := Fr.app N111 N113q
          rw [he113] at e113
          refine go_st st113 ?_
          show Go _ _ _ _ (T113.setTop (mkF m 191 #[iv p0, iv p1, .val (.long p2), .second, iv p3, iv p4, iv p5, iv 2, iv i0, iv i1, iv i2, iv m0, iv m1, iv p3, iv r_1, iv q2, iv ln2, rv b2, iv p5, iv m1] [(.int p5), (.int p5)]))
          refine go_st (fun t k => XS.icmpNo X113.here hx rfl (hb hby at_191) rfl (teq (rfl : p5 = p5)).2 k) ?_
          show Go _ _ _ _ (T113.setTop (mkF m 194 #[iv p0, iv p1, .val (.long p2), .second, iv p3, iv p4, iv p5, iv 2, iv i0, iv i1, iv i2, iv m0, iv m1, iv p3, iv r_1, iv q2, iv ln2, rv b2, iv p5, iv m1] []))
          refine go_st (fun t k => XS.iload X113.here hx rfl (hb hby at_194) rfl k) ?_
          refine go_st (fun t k => XS.iload X113.here hx rfl (hb hby at_196) rfl k) ?_
          refine go_st (fun t k => XS.iload X113.here hx rfl (hb hby at_198) rfl k) ?_
          refine go_st (fun t k => XS.iload X113.here hx rfl (hb hby at_200) rfl k) ?_
          refine go_st (fun t k => XS.iload X113.here hx rfl (hb hby at_202) rfl k) ?_
          refine go_st (fun t k => XS.iload X113.here hx rfl (hb hby at_204) rfl k) ?_
          refine go_st (fun t k => XS.iload X113.here hx rfl (hb hby at_206) rfl k) ?_
          refine go_st (fun t k => XS.iload X113.here hx rfl (hb hby at_208) rfl k) ?_
          refine go_st (fun t k => XS.iload X113.here hx rfl (hb hby at_210) rfl k) ?_
          refine go_st (fun t k => XS.iload X113.here hx rfl (hb hby at_212) rfl k) ?_
          show Go _ _ _ _ (T113.setTop (mkF m 214 #[iv p0, iv p1, .val (.long p2), .second, iv p3, iv p4, iv p5, iv 2, iv i0, iv i1, iv i2, iv m0, iv m1, iv p3, iv r_1, iv q2, iv ln2, rv b2, iv p5, iv m1] [(.int ln2), (.int p3), (.int m1), (.int m0), (.int i2), (.int i1), (.int i0), (.int 2), (.int q2), (.int m1)]))
          obtain ⟨_, _, ⟨T114, L114, kk114, nn114⟩, -, X114, ⟨Lc114, hQ114, lq114, yq114, zq114⟩, st114⟩ := Jvm.LawKit.callS X113 hx (y := (⟨"com/example/nudge/nudge/tree/BlockEntriesLineBeforePinLaw", "expected", "(IIIIIIIII)I"⟩ : MethodName)) hown (mvT hZ (w43 hw)) (mvT hZ (w44 hw)) (mvT hZ (w45 hw)) (mvT hZ (w46 hw)) (by decide) (backOf (W := 1) (rm_exp_22 l Z a0 hw [] q2 i0 i1 i2 m0 m1 p3 ln2 h111 n0 (Nat.le_trans Z0 sz112) hp109) hZ (w46 hw) (w45 hw) (by decide) (by decide)) (g := (mkF m 214 #[iv p0, iv p1, .val (.long p2), .second, iv p3, iv p4, iv p5, iv 2, iv i0, iv i1, iv i2, iv m0, iv m1, iv p3, iv r_1, iv q2, iv ln2, rv b2, iv p5, iv m1] [(.int ln2), (.int p3), (.int m1), (.int m0), (.int i2), (.int i1), (.int i0), (.int 2), (.int q2), (.int m1)])) rfl (by rw [hml]; rfl) (argsL := [(.int q2), (.int 2), (.int i0), (.int i1), (.int i2), (.int m0), (.int m1), (.int p3), (.int ln2)]) (rest := [(.int m1)]) (lenOf pd_4 rfl) rfl (by show 2 * 0 + _ ≤ _; exact Nat.le_of_eq rfl) (hb hby at_214) (fun _ _ => ⟨rfl, e113, (by decide : 3 + 0 ≤ _), (by decide : 132 + 0 ≤ _)⟩)
          dsimp only [Pt.U, Pt.locs, Pt.cells, Pt.slots] at X114 lq114 yq114 zq114 st114 hQ114
          subst lq114 yq114 zq114
          obtain ⟨h114, e114⟩ : ∃ z, T114.heap = z := ⟨_, rfl⟩
          rw [e114] at hQ114
          obtain ⟨rfl, N114q, he114⟩ := hQ114
          have N114 := Fr.app N113 N114q
          rw [he114] at e114
          refine go_st st114 ?_
          show Go _ _ _ _ (T114.setTop (mkF m 217 #[iv p0, iv p1, .val (.long p2), .second, iv p3, iv p4, iv p5, iv 2, iv i0, iv i1, iv i2, iv m0, iv m1, iv p3, iv r_1, iv q2, iv ln2, rv b2, iv p5, iv m1] [(.int m1), (.int m1)]))
          refine go_st (fun t k => XS.icmpNo X114.here hx rfl (hb hby at_217) rfl (teq (rfl : m1 = m1)).2 k) ?_
          show Go _ _ _ _ (T114.setTop (mkF m 220 #[iv p0, iv p1, .val (.long p2), .second, iv p3, iv p4, iv p5, iv 2, iv i0, iv i1, iv i2, iv m0, iv m1, iv p3, iv r_1, iv q2, iv ln2, rv b2, iv p5, iv m1] []))
          refine go_st (fun t k => XS.iconst X114.here hx rfl (hb hby at_220) k) ?_
          refine go_st (fun t k => XS.goto X114.here hx rfl (pc0 := 221) (pc' := 225) rfl (hb hby at_221) (by decide) (by decide) k) ?_
          show Go _ _ _ _ (T114.setTop (mkF m 225 #[iv p0, iv p1, .val (.long p2), .second, iv p3, iv p4, iv p5, iv 2, iv i0, iv i1, iv i2, iv m0, iv m1, iv p3, iv r_1, iv q2, iv ln2, rv b2, iv p5, iv m1] [(.int 1)]))
          have ke115 : Keep h0 h2 [] := (Keep.ext (Keep.refl h0 []) E2)
          have ke116 : Keep h0 h7 [] := (Keep.trans ke115 K7 (allS (Or.inr (Nat.le_of_eq gq2.symm)) all0))
          have ke117 : Keep h0 h64 [] := (Keep.trans ke116 K64 (allS (Or.inr (Nat.le_of_eq gq2.symm)) (allS (Or.inr (Nat.le_trans E2.1 lf7_0)) (allS (Or.inr (Nat.le_trans E2.1 lf7_1)) all0))))
          have ke118 : Keep h0 h66 [] := (Keep.trans ke117 K66 (allS (Or.inr (Nat.le_of_eq gq2.symm)) (allS (Or.inr (Nat.le_trans E2.1 lf7_0)) (allS (Or.inr (Nat.le_trans E2.1 lf7_1)) all0))))
          have ke119 : Keep h0 h108 [] := (Keep.trans ke118 K108 (allS (Or.inr (Nat.le_of_eq gq2.symm)) all0))
          have ke120 : Keep h0 h111 [] := (Keep.trans ke119 K111 (allS (Or.inr (Nat.le_of_eq gq2.symm)) all0))
          obtain ⟨fs, hr, hrun, hended, hW, hsame⟩ := X114.leave (v := some (.int 1)) (fun h => by rw [Bd.returns] at h; cases h)
          refine ⟨_, _, ?_, hrun, hended, _, _, rfl, ?_, ⟨_, rfl⟩, hW, hsame.mono (by decide) (by decide)⟩
          · exact retN X114 hx (t := .boolean) Bd.returns (by simp) (hb hby at_225) hr
          · show Q_law _ _ _ _ _ _ _ _ _ _ T114.heap _
            rw [e114]
            exact ⟨rfl, N114, ke120⟩
        · skip
          by_cases hp121 : i0 < q2
          · skip
            have sz122 : h0.size ≤ h108.size := (Nat.le_trans sz107 K108.1)
            obtain ⟨cq123, kq123, q123a, q123b, q123c⟩ := isOf hZ e108 p108_0
            obtain ⟨_, _, ⟨T123, L123, kk123, nn123⟩, -, X123, ⟨Lc123, hQ123, lq123, yq123, zq123⟩, st123⟩ := X108.virtualBack hx (y := (⟨"com/example/nudge/nudge/tree/BlockEntries", "lineBefore", "(II)I"⟩ : MethodName)) (z := (⟨"com/example/nudge/nudge/tree/BlockEntries", "lineBefore", "(II)I"⟩ : MethodName)) hown (mvT hZ (w26 hw)) (mvT hZ (w27 hw)) (notFace_of_selects (args := #[]) (mvT hZ (w29 hw))) (mvT hZ (w29 hw)) (mvT hZ (w28 hw)) (by decide) (backOf (W := 0) (rm_lb_021 l Z a0 hw [] b2 ax_7 al_7 kx_7 kl_7 q2 ln2 i0 i1 m0 m1 h108 n0 (Nat.le_trans Z0 sz122) p108_0 p108_1 p108_2 p108_3 p108_4 p108_5 p108_6 nq61 nq62 nx7_2 g_b2 s0 hp121 hp109) hZ (w30 hw) (w7 hw) (by decide) (by decide)) q123a q123c (g := (mkF m 163 #[iv p0, iv p1, .val (.long p2), .second, iv p3, iv p4, iv p5, iv 2, iv i0, iv i1, iv i2, iv m0, iv m1, iv p3, iv r_1, iv q2, iv ln2, rv b2, iv p5, .unset] [(.int ln2), (.int q2), (.ref b2)])) rfl (by rw [hml]; rfl) (Steps.refl _) (argsL := [(.int q2), (.int ln2)]) (rest := []) (lenOf pd_2 rfl) rfl (by show 2 * 0 + _ ≤ _; exact Nat.le_of_eq rfl) (hb hby at_163) (fun _ _ => ⟨rfl, e108, (by decide : 3 + 0 ≤ _), (by decide : 132 + 0 ≤ _)⟩)
            dsimp only [Pt.U, Pt.locs, Pt.cells, Pt.slots] at X123 lq123 yq123 zq123 st123 hQ123
            subst lq123 yq123 zq123
            obtain ⟨h123, e123⟩ : ∃ z, T123.heap = z := ⟨_, rfl⟩
            rw [e123] at hQ123
            obtain ⟨rfl, N123q, K123, p123_0, p123_1, p123_2, p123_3, p123_4, p123_5, p123_6⟩ := hQ123
            have N123 := Fr.app N108 N123q
            refine go_tr st123 ?_
            show Go _ _ _ _ (T123.setTop (mkF m 166 #[iv p0, iv p1, .val (.long p2), .second, iv p3, iv p4, iv p5, iv 2, iv i0, iv i1, iv i2, iv m0, iv m1, iv p3, iv r_1, iv q2, iv ln2, rv b2, iv p5, .unset] [(.int m0)]))
            refine go_st (fun t k => XS.istore X123.here hx rfl (hb hby at_166) rfl (l' := #[iv p0, iv p1, .val (.long p2), .second, iv p3, iv p4, iv p5, iv 2, iv i0, iv i1, iv i2, iv m0, iv m1, iv p3, iv r_1, iv q2, iv ln2, rv b2, iv p5, iv m0]) rfl k) ?_
            refine go_st (fun t k => XS.iload X123.here hx rfl (hb hby at_168) rfl k) ?_
            refine go_st (fun t k => XS.iload X123.here hx rfl (hb hby at_170) rfl k) ?_
            refine go_st (fun t k => XS.iload X123.here hx rfl (hb hby at_172) rfl k) ?_
            refine go_st (fun t k => XS.iload X123.here hx rfl (hb hby at_174) rfl k) ?_
            refine go_st (fun t k => XS.iload X123.here hx rfl (hb hby at_176) rfl k) ?_
            refine go_st (fun t k => XS.iload X123.here hx rfl (hb hby at_178) rfl k) ?_
            refine go_st (fun t k => XS.iload X123.here hx rfl (hb hby at_180) rfl k) ?_
            refine go_st (fun t k => XS.iload X123.here hx rfl (hb hby at_182) rfl k) ?_
            refine go_st (fun t k => XS.iload X123.here hx rfl (hb hby at_184) rfl k) ?_
            refine go_st (fun t k => XS.iload X123.here hx rfl (hb hby at_186) rfl k) ?_
            show Go _ _ _ _ (T123.setTop (mkF m 188 #[iv p0, iv p1, .val (.long p2), .second, iv p3, iv p4, iv p5, iv 2, iv i0, iv i1, iv i2, iv m0, iv m1, iv p3, iv r_1, iv q2, iv ln2, rv b2, iv p5, iv m0] [(.int p5), (.int p3), (.int m1), (.int m0), (.int i2), (.int i1), (.int i0), (.int 2), (.int r_1), (.int p5)]))
            have sz124 : h0.size ≤ h123.size := (Nat.le_trans sz122 K123.1)
            obtain ⟨_, _, ⟨T125, L125, kk125, nn125⟩, -, X125, ⟨Lc125, hQ125, lq125, yq125, zq125⟩, st125⟩ := Jvm.LawKit.callS X123 hx (y := (⟨"com/example/nudge/nudge/tree/BlockEntriesLineBeforePinLaw", "expected", "(IIIIIIIII)I"⟩ : MethodName)) hown (mvT hZ (w43 hw)) (mvT hZ (w44 hw)) (mvT hZ (w45 hw)) (mvT hZ (w46 hw)) (by decide) (backOf (W := 1) (rm_exp_20 l Z a0 hw [] r_1 i0 i1 i2 m0 m1 p3 p5 h123 n0 (Nat.le_trans Z0 sz124) hp81 hp67) hZ (w46 hw) (w45 hw) (by decide) (by decide)) (g := (mkF m 188 #[iv p0, iv p1, .val (.long p2), .second, iv p3, iv p4, iv p5, iv 2, iv i0, iv i1, iv i2, iv m0, iv m1, iv p3, iv r_1, iv q2, iv ln2, rv b2, iv p5, iv m0] [(.int p5), (.int p3), (.int m1), (.int m0), (.int i2), (.int i1), (.int i0), (.int 2), (.int r_1), (.int p5)])) rfl (by rw [hml]; rfl) (argsL := [(.int r_1), (.int 2), (.int i0), (.int i1), (.int i2), (.int m0), (.int m1), (.int p3), (.int p5)]) (rest := [(.int p5)]) (lenOf pd_4 rfl) rfl (by show 2 * 0 + _ ≤ _; exact Nat.le_of_eq rfl) (hb hby at_188) (fun _ _ => ⟨rfl, e123, (by decide : 3 + 0 ≤ _), (by decide : 132 + 0 ≤ _)⟩)
            dsimp only [Pt.U, Pt.locs, Pt.cells, Pt.slots] at X125 lq125 yq125 zq125 st125 hQ125
            subst lq125 yq125 zq125
            obtain ⟨h125, e125⟩ : ∃ z, T125.heap = z := ⟨_, rfl⟩
            rw [e125] at hQ125
            obtain ⟨rfl, N125q, he125⟩ := hQ125
            have N125 := Fr.app N123 N125q
            rw [he125] at e125
            refine go_st st125 ?_
            show Go _ _ _ _ (T125.setTop (mkF m 191 #[iv p0, iv p1, .val (.long p2), .second, iv p3, iv p4, iv p5, iv 2, iv i0, iv i1, iv i2, iv m0, iv m1, iv p3, iv r_1, iv q2, iv ln2, rv b2, iv p5, iv m0] [(.int p5), (.int p5)]))
            refine go_st (fun t k => XS.icmpNo X125.here hx rfl (hb hby at_191) rfl (teq (rfl : p5 = p5)).2 k) ?_
            show Go _ _ _ _ (T125.setTop (mkF m 194 #[iv p0, iv p1, .val (.long p2), .second, iv p3, iv p4, iv p5, iv 2, iv i0, iv i1, iv i2, iv m0, iv m1, iv p3, iv r_1, iv q2, iv ln2, rv b2, iv p5, iv m0] []))
            refine go_st (fun t k => XS.iload X125.here hx rfl (hb hby at_194) rfl k) ?_
            refine go_st (fun t k => XS.iload X125.here hx rfl (hb hby at_196) rfl k) ?_
            refine go_st (fun t k => XS.iload X125.here hx rfl (hb hby at_198) rfl k) ?_
            refine go_st (fun t k => XS.iload X125.here hx rfl (hb hby at_200) rfl k) ?_
            refine go_st (fun t k => XS.iload X125.here hx rfl (hb hby at_202) rfl k) ?_
            refine go_st (fun t k => XS.iload X125.here hx rfl (hb hby at_204) rfl k) ?_
            refine go_st (fun t k => XS.iload X125.here hx rfl (hb hby at_206) rfl k) ?_
            refine go_st (fun t k => XS.iload X125.here hx rfl (hb hby at_208) rfl k) ?_
            refine go_st (fun t k => XS.iload X125.here hx rfl (hb hby at_210) rfl k) ?_
            refine go_st (fun t k => XS.iload X125.here hx rfl (hb hby at_212) rfl k) ?_
            show Go _ _ _ _ (T125.setTop (mkF m 214 #[iv p0, iv p1, .val (.long p2), .second, iv p3, iv p4, iv p5, iv 2, iv i0, iv i1, iv i2, iv m0, iv m1, iv p3, iv r_1, iv q2, iv ln2, rv b2, iv p5, iv m0] [(.int ln2), (.int p3), (.int m1), (.int m0), (.int i2), (.int i1), (.int i0), (.int 2), (.int q2), (.int m0)]))
            obtain ⟨_, _, ⟨T126, L126, kk126, nn126⟩, -, X126, ⟨Lc126, hQ126, lq126, yq126, zq126⟩, st126⟩ := Jvm.LawKit.callS X125 hx (y := (⟨"com/example/nudge/nudge/tree/BlockEntriesLineBeforePinLaw", "expected", "(IIIIIIIII)I"⟩ : MethodName)) hown (mvT hZ (w43 hw)) (mvT hZ (w44 hw)) (mvT hZ (w45 hw)) (mvT hZ (w46 hw)) (by decide) (backOf (W := 1) (rm_exp_21 l Z a0 hw [] q2 i0 i1 i2 m0 m1 p3 ln2 h123 n0 (Nat.le_trans Z0 sz124) hp121 hp109) hZ (w46 hw) (w45 hw) (by decide) (by decide)) (g := (mkF m 214 #[iv p0, iv p1, .val (.long p2), .second, iv p3, iv p4, iv p5, iv 2, iv i0, iv i1, iv i2, iv m0, iv m1, iv p3, iv r_1, iv q2, iv ln2, rv b2, iv p5, iv m0] [(.int ln2), (.int p3), (.int m1), (.int m0), (.int i2), (.int i1), (.int i0), (.int 2), (.int q2), (.int m0)])) rfl (by rw [hml]; rfl) (argsL := [(.int q2), (.int 2), (.int i0), (.int i1), (.int i2), (.int m0), (.int m1), (.int p3), (.int ln2)]) (rest := [(.int m0)]) (lenOf pd_4 rfl) rfl (by show 2 * 0 + _ ≤ _; exact Nat.le_of_eq rfl) (hb hby at_214) (fun _ _ => ⟨rfl, e125, (by decide : 3 + 0 ≤ _), (by decide : 132 + 0 ≤ _)⟩)
            dsimp only [Pt.U, Pt.locs, Pt.cells, Pt.slots] at X126 lq126 yq126 zq126 st126 hQ126
            subst lq126 yq126 zq126
            obtain ⟨h126, e126⟩ : ∃ z, T126.heap = z := ⟨_, rfl⟩
            rw [e126] at hQ126
            obtain ⟨rfl, N126q, he126⟩ := hQ126
            have N126 := Fr.app N125 N126q
            rw [he126] at e126
            refine go_st st126 ?_
            show Go _ _ _ _ (T126.setTop (mkF m 217 #[iv p0, iv p1, .val (.long p2), .second, iv p3, iv p4, iv p5, iv 2, iv i0, iv i1, iv i2, iv m0, iv m1, iv p3, iv r_1, iv q2, iv ln2, rv b2, iv p5, iv m0] [(.int m0), (.int m0)]))
            refine go_st (fun t k => XS.icmpNo X126.here hx rfl (hb hby at_217) rfl (teq (rfl : m0 = m0)).2 k) ?_
            show Go _ _ _ _ (T126.setTop (mkF m 220 #[iv p0, iv p1, .val (.long p2), .second, iv p3, iv p4, iv p5, iv 2, iv i0, iv i1, iv i2, iv m0, iv m1, iv p3, iv r_1, iv q2, iv ln2, rv b2, iv p5, iv m0] []))
            refine go_st (fun t k => XS.iconst X126.here hx rfl (hb hby at_220) k) ?_
            refine go_st (fun t k => XS.goto X126.here hx rfl (pc0 := 221) (pc' := 225) rfl (hb hby at_221) (by decide) (by decide) k) ?_
            show Go _ _ _ _ (T126.setTop (mkF m 225 #[iv p0, iv p1, .val (.long p2), .second, iv p3, iv p4, iv p5, iv 2, iv i0, iv i1, iv i2, iv m0, iv m1, iv p3, iv r_1, iv q2, iv ln2, rv b2, iv p5, iv m0] [(.int 1)]))
            have ke127 : Keep h0 h2 [] := (Keep.ext (Keep.refl h0 []) E2)
            have ke128 : Keep h0 h7 [] := (Keep.trans ke127 K7 (allS (Or.inr (Nat.le_of_eq gq2.symm)) all0))
            have ke129 : Keep h0 h64 [] := (Keep.trans ke128 K64 (allS (Or.inr (Nat.le_of_eq gq2.symm)) (allS (Or.inr (Nat.le_trans E2.1 lf7_0)) (allS (Or.inr (Nat.le_trans E2.1 lf7_1)) all0))))
            have ke130 : Keep h0 h66 [] := (Keep.trans ke129 K66 (allS (Or.inr (Nat.le_of_eq gq2.symm)) (allS (Or.inr (Nat.le_trans E2.1 lf7_0)) (allS (Or.inr (Nat.le_trans E2.1 lf7_1)) all0))))
            have ke131 : Keep h0 h108 [] := (Keep.trans ke130 K108 (allS (Or.inr (Nat.le_of_eq gq2.symm)) all0))
            have ke132 : Keep h0 h123 [] := (Keep.trans ke131 K123 (allS (Or.inr (Nat.le_of_eq gq2.symm)) all0))
            obtain ⟨fs, hr, hrun, hended, hW, hsame⟩ := X126.leave (v := some (.int 1)) (fun h => by rw [Bd.returns] at h; cases h)
            refine ⟨_, _, ?_, hrun, hended, _, _, rfl, ?_, ⟨_, rfl⟩, hW, hsame.mono (by decide) (by decide)⟩
            · exact retN X126 hx (t := .boolean) Bd.returns (by simp) (hb hby at_225) hr
            · show Q_law _ _ _ _ _ _ _ _ _ _ T126.heap _
              rw [e126]
              exact ⟨rfl, N126, ke132⟩
          · skip
            have sz133 : h0.size ≤ h108.size := (Nat.le_trans sz107 K108.1)
            obtain ⟨cq134, kq134, q134a, q134b, q134c⟩ := isOf hZ e108 p108_0
            obtain ⟨_, _, ⟨T134, L134, kk134, nn134⟩, -, X134, ⟨Lc134, hQ134, lq134, yq134, zq134⟩, st134⟩ := X108.virtualBack hx (y := (⟨"com/example/nudge/nudge/tree/BlockEntries", "lineBefore", "(II)I"⟩ : MethodName)) (z := (⟨"com/example/nudge/nudge/tree/BlockEntries", "lineBefore", "(II)I"⟩ : MethodName)) hown (mvT hZ (w26 hw)) (mvT hZ (w27 hw)) (notFace_of_selects (args := #[]) (mvT hZ (w29 hw))) (mvT hZ (w29 hw)) (mvT hZ (w28 hw)) (by decide) (backOf (W := 0) (rm_lb_020 l Z a0 hw [] b2 ax_7 al_7 kx_7 kl_7 q2 ln2 i0 i1 m0 m1 h108 n0 (Nat.le_trans Z0 sz133) p108_0 p108_1 p108_2 p108_3 p108_4 p108_5 p108_6 nq61 nq62 nx7_2 g_b2 s0 hp121) hZ (w30 hw) (w7 hw) (by decide) (by decide)) q134a q134c (g := (mkF m 163 #[iv p0, iv p1, .val (.long p2), .second, iv p3, iv p4, iv p5, iv 2, iv i0, iv i1, iv i2, iv m0, iv m1, iv p3, iv r_1, iv q2, iv ln2, rv b2, iv p5, .unset] [(.int ln2), (.int q2), (.ref b2)])) rfl (by rw [hml]; rfl) (Steps.refl _) (argsL := [(.int q2), (.int ln2)]) (rest := []) (lenOf pd_2 rfl) rfl (by show 2 * 0 + _ ≤ _; exact Nat.le_of_eq rfl) (hb hby at_163) (fun _ _ => ⟨rfl, e108, (by decide : 3 + 0 ≤ _), (by decide : 132 + 0 ≤ _)⟩)
            dsimp only [Pt.U, Pt.locs, Pt.cells, Pt.slots] at X134 lq134 yq134 zq134 st134 hQ134
            subst lq134 yq134 zq134
            obtain ⟨h134, e134⟩ : ∃ z, T134.heap = z := ⟨_, rfl⟩
            rw [e134] at hQ134
            obtain ⟨rfl, N134q, K134, p134_0, p134_1, p134_2, p134_3, p134_4, p134_5, p134_6⟩ := hQ134
            have N134 := Fr.app N108 N134q
            refine go_tr st134 ?_
            show Go _ _ _ _ (T134.setTop (mkF m 166 #[iv p0, iv p1, .val (.long p2), .second, iv p3, iv p4, iv p5, iv 2, iv i0, iv i1, iv i2, iv m0, iv m1, iv p3, iv r_1, iv q2, iv ln2, rv b2, iv p5, .unset] [(.int ln2)]))
            refine go_st (fun t k => XS.istore X134.here hx rfl (hb hby at_166) rfl (l' := #[iv p0, iv p1, .val (.long p2), .second, iv p3, iv p4, iv p5, iv 2, iv i0, iv i1, iv i2, iv m0, iv m1, iv p3, iv r_1, iv q2, iv ln2, rv b2, iv p5, iv ln2]) rfl k) ?_
            refine go_st (fun t k => XS.iload X134.here hx rfl (hb hby at_168) rfl k) ?_
            refine go_st (fun t k => XS.iload X134.here hx rfl (hb hby at_170) rfl k) ?_
            refine go_st (fun t k => XS.iload X134.here hx rfl (hb hby at_172) rfl k) ?_
            refine go_st (fun t k => XS.iload X134.here hx rfl (hb hby at_174) rfl k) ?_
            refine go_st (fun t k => XS.iload X134.here hx rfl (hb hby at_176) rfl k) ?_
            refine go_st (fun t k => XS.iload X134.here hx rfl (hb hby at_178) rfl k) ?_
            refine go_st (fun t k => XS.iload X134.here hx rfl (hb hby at_180) rfl k) ?_
            refine go_st (fun t k => XS.iload X134.here hx rfl (hb hby at_182) rfl k) ?_
            refine go_st (fun t k => XS.iload X134.here hx rfl (hb hby at_184) rfl k) ?_
            refine go_st (fun t k => XS.iload X134.here hx rfl (hb hby at_186) rfl k) ?_
            show Go _ _ _ _ (T134.setTop (mkF m 188 #[iv p0, iv p1, .val (.long p2), .second, iv p3, iv p4, iv p5, iv 2, iv i0, iv i1, iv i2, iv m0, iv m1, iv p3, iv r_1, iv q2, iv ln2, rv b2, iv p5, iv ln2] [(.int p5), (.int p3), (.int m1), (.int m0), (.int i2), (.int i1), (.int i0), (.int 2), (.int r_1), (.int p5)]))
            have sz135 : h0.size ≤ h134.size := (Nat.le_trans sz133 K134.1)
            obtain ⟨_, _, ⟨T136, L136, kk136, nn136⟩, -, X136, ⟨Lc136, hQ136, lq136, yq136, zq136⟩, st136⟩ := Jvm.LawKit.callS X134 hx (y := (⟨"com/example/nudge/nudge/tree/BlockEntriesLineBeforePinLaw", "expected", "(IIIIIIIII)I"⟩ : MethodName)) hown (mvT hZ (w43 hw)) (mvT hZ (w44 hw)) (mvT hZ (w45 hw)) (mvT hZ (w46 hw)) (by decide) (backOf (W := 1) (rm_exp_20 l Z a0 hw [] r_1 i0 i1 i2 m0 m1 p3 p5 h134 n0 (Nat.le_trans Z0 sz135) hp81 hp67) hZ (w46 hw) (w45 hw) (by decide) (by decide)) (g := (mkF m 188 #[iv p0, iv p1, .val (.long p2), .second, iv p3, iv p4, iv p5, iv 2, iv i0, iv i1, iv i2, iv m0, iv m1, iv p3, iv r_1, iv q2, iv ln2, rv b2, iv p5, iv ln2] [(.int p5), (.int p3), (.int m1), (.int m0), (.int i2), (.int i1), (.int i0), (.int 2), (.int r_1), (.int p5)])) rfl (by rw [hml]; rfl) (argsL := [(.int r_1), (.int 2), (.int i0), (.int i1), (.int i2), (.int m0), (.int m1), (.int p3), (.int p5)]) (rest := [(.int p5)]) (lenOf pd_4 rfl) rfl (by show 2 * 0 + _ ≤ _; exact Nat.le_of_eq rfl) (hb hby at_188) (fun _ _ => ⟨rfl, e134, (by decide : 3 + 0 ≤ _), (by decide : 132 + 0 ≤ _)⟩)
            dsimp only [Pt.U, Pt.locs, Pt.cells, Pt.slots] at X136 lq136 yq136 zq136 st136 hQ136
            subst lq136 yq136 zq136
            obtain ⟨h136, e136⟩ : ∃ z, T136.heap = z := ⟨_, rfl⟩
            rw [e136] at hQ136
            obtain ⟨rfl, N136q, he136⟩ := hQ136
            have N136 := Fr.app N134 N136q
            rw [he136] at e136
            refine go_st st136 ?_
            show Go _ _ _ _ (T136.setTop (mkF m 191 #[iv p0, iv p1, .val (.long p2), .second, iv p3, iv p4, iv p5, iv 2, iv i0, iv i1, iv i2, iv m0, iv m1, iv p3, iv r_1, iv q2, iv ln2, rv b2, iv p5, iv ln2] [(.int p5), (.int p5)]))
            refine go_st (fun t k => XS.icmpNo X136.here hx rfl (hb hby at_191) rfl (teq (rfl : p5 = p5)).2 k) ?_
            show Go _ _ _ _ (T136.setTop (mkF m 194 #[iv p0, iv p1, .val (.long p2), .second, iv p3, iv p4, iv p5, iv 2, iv i0, iv i1, iv i2, iv m0, iv m1, iv p3, iv r_1, iv q2, iv ln2, rv b2, iv p5, iv ln2] []))
            refine go_st (fun t k => XS.iload X136.here hx rfl (hb hby at_194) rfl k) ?_
            refine go_st (fun t k => XS.iload X136.here hx rfl (hb hby at_196) rfl k) ?_
            refine go_st (fun t k => XS.iload X136.here hx rfl (hb hby at_198) rfl k) ?_
            refine go_st (fun t k => XS.iload X136.here hx rfl (hb hby at_200) rfl k) ?_
            refine go_st (fun t k => XS.iload X136.here hx rfl (hb hby at_202) rfl k) ?_
            refine go_st (fun t k => XS.iload X136.here hx rfl (hb hby at_204) rfl k) ?_
            refine go_st (fun t k => XS.iload X136.here hx rfl (hb hby at_206) rfl k) ?_
            refine go_st (fun t k => XS.iload X136.here hx rfl (hb hby at_208) rfl k) ?_
            refine go_st (fun t k => XS.iload X136.here hx rfl (hb hby at_210) rfl k) ?_
            refine go_st (fun t k => XS.iload X136.here hx rfl (hb hby at_212) rfl k) ?_
            show Go _ _ _ _ (T136.setTop (mkF m 214 #[iv p0, iv p1, .val (.long p2), .second, iv p3, iv p4, iv p5, iv 2, iv i0, iv i1, iv i2, iv m0, iv m1, iv p3, iv r_1, iv q2, iv ln2, rv b2, iv p5, iv ln2] [(.int ln2), (.int p3), (.int m1), (.int m0), (.int i2), (.int i1), (.int i0), (.int 2), (.int q2), (.int ln2)]))
            obtain ⟨_, _, ⟨T137, L137, kk137, nn137⟩, -, X137, ⟨Lc137, hQ137, lq137, yq137, zq137⟩, st137⟩ := Jvm.LawKit.callS X136 hx (y := (⟨"com/example/nudge/nudge/tree/BlockEntriesLineBeforePinLaw", "expected", "(IIIIIIIII)I"⟩ : MethodName)) hown (mvT hZ (w43 hw)) (mvT hZ (w44 hw)) (mvT hZ (w45 hw)) (mvT hZ (w46 hw)) (by decide) (backOf (W := 1) (rm_exp_20 l Z a0 hw [] q2 i0 i1 i2 m0 m1 p3 ln2 h134 n0 (Nat.le_trans Z0 sz135) hp121 hp109) hZ (w46 hw) (w45 hw) (by decide) (by decide)) (g := (mkF m 214 #[iv p0, iv p1, .val (.long p2), .second, iv p3, iv p4, iv p5, iv 2, iv i0, iv i1, iv i2, iv m0, iv m1, iv p3, iv r_1, iv q2, iv ln2, rv b2, iv p5, iv ln2] [(.int ln2), (.int p3), (.int m1), (.int m0), (.int i2), (.int i1), (.int i0), (.int 2), (.int q2), (.int ln2)])) rfl (by rw [hml]; rfl) (argsL := [(.int q2), (.int 2), (.int i0), (.int i1), (.int i2), (.int m0), (.int m1), (.int p3), (.int ln2)]) (rest := [(.int ln2)]) (lenOf pd_4 rfl) rfl (by show 2 * 0 + _ ≤ _; exact Nat.le_of_eq rfl) (hb hby at_214) (fun _ _ => ⟨rfl, e136, (by decide : 3 + 0 ≤ _), (by decide : 132 + 0 ≤ _)⟩)
            dsimp only [Pt.U, Pt.locs, Pt.cells, Pt.slots] at X137 lq137 yq137 zq137 st137 hQ137
            subst lq137 yq137 zq137
            obtain ⟨h137, e137⟩ : ∃ z, T137.heap = z := ⟨_, rfl⟩
            rw [e137] at hQ137
            obtain ⟨rfl, N137q, he137⟩ := hQ137
            have N137 := Fr.app N136 N137q
            rw [he137] at e137
            refine go_st st137 ?_
            show Go _ _ _ _ (T137.setTop (mkF m 217 #[iv p0, iv p1, .val (.long p2), .second, iv p3, iv p4, iv p5, iv 2, iv i0, iv i1, iv i2, iv m0, iv m1, iv p3, iv r_1, iv q2, iv ln2, rv b2, iv p5, iv ln2] [(.int ln2), (.int ln2)]))
            refine go_st (fun t k => XS.icmpNo X137.here hx rfl (hb hby at_217) rfl (teq (rfl : ln2 = ln2)).2 k) ?_
            show Go _ _ _ _ (T137.setTop (mkF m 220 #[iv p0, iv p1, .val (.long p2), .second, iv p3, iv p4, iv p5, iv 2, iv i0, iv i1, iv i2, iv m0, iv m1, iv p3, iv r_1, iv q2, iv ln2, rv b2, iv p5, iv ln2] []))
            refine go_st (fun t k => XS.iconst X137.here hx rfl (hb hby at_220) k) ?_
            refine go_st (fun t k => XS.goto X137.here hx rfl (pc0 := 221) (pc' := 225) rfl (hb hby at_221) (by decide) (by decide) k) ?_
            show Go _ _ _ _ (T137.setTop (mkF m 225 #[iv p0, iv p1, .val (.long p2), .second, iv p3, iv p4, iv p5, iv 2, iv i0, iv i1, iv i2, iv m0, iv m1, iv p3, iv r_1, iv q2, iv ln2, rv b2, iv p5, iv ln2] [(.int 1)]))
            have ke138 : Keep h0 h2 [] := (Keep.ext (Keep.refl h0 []) E2)
            have ke139 : Keep h0 h7 [] := (Keep.trans ke138 K7 (allS (Or.inr (Nat.le_of_eq gq2.symm)) all0))
            have ke140 : Keep h0 h64 [] := (Keep.trans ke139 K64 (allS (Or.inr (Nat.le_of_eq gq2.symm)) (allS (Or.inr (Nat.le_trans E2.1 lf7_0)) (allS (Or.inr (Nat.le_trans E2.1 lf7_1)) all0))))
            have ke141 : Keep h0 h66 [] := (Keep.trans ke140 K66 (allS (Or.inr (Nat.le_of_eq gq2.symm)) (allS (Or.inr (Nat.le_trans E2.1 lf7_0)) (allS (Or.inr (Nat.le_trans E2.1 lf7_1)) all0))))
            have ke142 : Keep h0 h108 [] := (Keep.trans ke141 K108 (allS (Or.inr (Nat.le_of_eq gq2.symm)) all0))
            have ke143 : Keep h0 h134 [] := (Keep.trans ke142 K134 (allS (Or.inr (Nat.le_of_eq gq2.symm)) all0))
            obtain ⟨fs, hr, hrun, hended, hW, hsame⟩ := X137.leave (v := some (.int 1)) (fun h => by rw [Bd.returns] at h; cases h)
            refine ⟨_, _, ?_, hrun, hended, _, _, rfl, ?_, ⟨_, rfl⟩, hW, hsame.mono (by decide) (by decide)⟩
            · exact retN X137 hx (t := .boolean) Bd.returns (by simp) (hb hby at_225) hr
            · show Q_law _ _ _ _ _ _ _ _ _ _ T137.heap _
              rw [e137]
              exact ⟨rfl, N137, ke143⟩
  · skip
    show Go _ _ _ _ (T7.setTop (mkF m 101 #[iv p0, iv p1, .val (.long p2), .second, iv p3, iv p4, iv p5, iv 3, iv i0, iv i1, iv i2, iv m0, iv m1, iv p3, iv r_1, iv q2, iv ln2, rv b2, .unset, .unset] []))
    refine go_st (fun t k => XS.iload X7.here hx rfl (hb hby at_101) rfl k) ?_
    refine go_st (fun t k => XS.iconst X7.here hx rfl (hb hby at_103) k) ?_
    show Go _ _ _ _ (T7.setTop (mkF m 104 #[iv p0, iv p1, .val (.long p2), .second, iv p3, iv p4, iv p5, iv 3, iv i0, iv i1, iv i2, iv m0, iv m1, iv p3, iv r_1, iv q2, iv ln2, rv b2, .unset, .unset] [(.int 1), (.int 3)]))
    refine go_st (fun t k => XS.icmpNo X7.here hx rfl (hb hby at_104) rfl (flt ((by decide) : ¬ ((3 : Int32) < (1 : Int32)))).1 k) ?_
    show Go _ _ _ _ (T7.setTop (mkF m 107 #[iv p0, iv p1, .val (.long p2), .second, iv p3, iv p4, iv p5, iv 3, iv i0, iv i1, iv i2, iv m0, iv m1, iv p3, iv r_1, iv q2, iv ln2, rv b2, .unset, .unset] []))
    refine go_st (fun t k => XS.aload X7.here hx rfl (hb hby at_107) rfl rfl k) ?_
    refine go_st (fun t k => XS.iload X7.here hx rfl (hb hby at_109) rfl k) ?_
    refine go_st (fun t k => XS.iload X7.here hx rfl (hb hby at_111) rfl k) ?_
    show Go _ _ _ _ (T7.setTop (mkF m 113 #[iv p0, iv p1, .val (.long p2), .second, iv p3, iv p4, iv p5, iv 3, iv i0, iv i1, iv i2, iv m0, iv m1, iv p3, iv r_1, iv q2, iv ln2, rv b2, .unset, .unset] [(.int m0), (.int i0), (.ref b2)]))
    have nq144 : b2 ≠ ax_7 := Nat.ne_of_lt (Nat.lt_of_lt_of_le (Nat.lt_of_lt_of_le A2.lt (Nat.le_refl _)) lf7_0)
    have nq145 : b2 ≠ al_7 := Nat.ne_of_lt (Nat.lt_of_lt_of_le (Nat.lt_of_lt_of_le A2.lt (Nat.le_refl _)) lf7_1)
    have sz146 : h0.size ≤ h7.size := (Nat.le_trans E2.1 K7.1)
    obtain ⟨cq147, kq147, q147a, q147b, q147c⟩ := isOf hZ e7 p7_3
    obtain ⟨_, _, ⟨T147, L147, kk147, nn147⟩, -, X147, ⟨Lc147, hQ147, lq147, yq147, zq147⟩, st147⟩ := X7.virtualBack hx (y := (⟨"com/example/nudge/nudge/tree/BlockEntries", "note", "(II)V"⟩ : MethodName)) (z := (⟨"com/example/nudge/nudge/tree/BlockEntries", "note", "(II)V"⟩ : MethodName)) hown (mvT hZ (w19 hw)) (mvT hZ (w20 hw)) (notFace_of_selects (args := #[]) (mvT hZ (w22 hw))) (mvT hZ (w22 hw)) (mvT hZ (w21 hw)) (by decide) (backOf (W := 0) (rm_note0 l Z a0 hw [] b2 ax_7 al_7 kx_7 kl_7 i0 m0 h7 n0 (Nat.le_trans Z0 sz146) p7_3 p7_4 p7_5 p7_6 p7_7 p7_8 p7_9 nq144 nq145 nx7_2 g_b2 gf7_0 gf7_1) hZ (w23 hw) (w7 hw) (by decide) (by decide)) q147a q147c (g := (mkF m 113 #[iv p0, iv p1, .val (.long p2), .second, iv p3, iv p4, iv p5, iv 3, iv i0, iv i1, iv i2, iv m0, iv m1, iv p3, iv r_1, iv q2, iv ln2, rv b2, .unset, .unset] [(.int m0), (.int i0), (.ref b2)])) rfl (by rw [hml]; rfl) (Steps.refl _) (argsL := [(.int i0), (.int m0)]) (rest := []) (lenOf pd_5 rfl) rfl (by show 2 * 0 + _ ≤ _; exact Nat.le_of_eq rfl) (hb hby at_113) (fun _ _ => ⟨rfl, e7, (by decide : 3 + 0 ≤ _), (by decide : 132 + 0 ≤ _)⟩)
    dsimp only [Pt.U, Pt.locs, Pt.cells, Pt.slots] at X147 lq147 yq147 zq147 st147 hQ147
    subst lq147 yq147 zq147
    obtain ⟨h147, e147⟩ : ∃ z, T147.heap = z := ⟨_, rfl⟩
    rw [e147] at hQ147
    obtain ⟨rfl, N147q, K147, p147_0, p147_1, p147_2, p147_3, p147_4, p147_5, p147_6⟩ := hQ147
    have N147 := Fr.app N7 N147q
    refine go_tr st147 ?_
    show Go _ _ _ _ (T147.setTop (mkF m 116 #[iv p0, iv p1, .val (.long p2), .second, iv p3, iv p4, iv p5, iv 3, iv i0, iv i1, iv i2, iv m0, iv m1, iv p3, iv r_1, iv q2, iv ln2, rv b2, .unset, .unset] []))
    refine go_st (fun t k => XS.iload X147.here hx rfl (hb hby at_116) rfl k) ?_
    refine go_st (fun t k => XS.iconst X147.here hx rfl (hb hby at_118) k) ?_
    show Go _ _ _ _ (T147.setTop (mkF m 119 #[iv p0, iv p1, .val (.long p2), .second, iv p3, iv p4, iv p5, iv 3, iv i0, iv i1, iv i2, iv m0, iv m1, iv p3, iv r_1, iv q2, iv ln2, rv b2, .unset, .unset] [(.int 2), (.int 3)]))
    refine go_st (fun t k => XS.icmpNo X147.here hx rfl (hb hby at_119) rfl (flt ((by decide) : ¬ ((3 : Int32) < (2 : Int32)))).1 k) ?_
    show Go _ _ _ _ (T147.setTop (mkF m 122 #[iv p0, iv p1, .val (.long p2), .second, iv p3, iv p4, iv p5, iv 3, iv i0, iv i1, iv i2, iv m0, iv m1, iv p3, iv r_1, iv q2, iv ln2, rv b2, .unset, .unset] []))
    refine go_st (fun t k => XS.aload X147.here hx rfl (hb hby at_122) rfl rfl k) ?_
    refine go_st (fun t k => XS.iload X147.here hx rfl (hb hby at_124) rfl k) ?_
    refine go_st (fun t k => XS.iload X147.here hx rfl (hb hby at_126) rfl k) ?_
    show Go _ _ _ _ (T147.setTop (mkF m 128 #[iv p0, iv p1, .val (.long p2), .second, iv p3, iv p4, iv p5, iv 3, iv i0, iv i1, iv i2, iv m0, iv m1, iv p3, iv r_1, iv q2, iv ln2, rv b2, .unset, .unset] [(.int m1), (.int i1), (.ref b2)]))
    have sz148 : h0.size ≤ h147.size := (Nat.le_trans sz146 K147.1)
    obtain ⟨cq149, kq149, q149a, q149b, q149c⟩ := isOf hZ e147 p147_0
    obtain ⟨_, _, ⟨T149, L149, kk149, nn149⟩, -, X149, ⟨Lc149, hQ149, lq149, yq149, zq149⟩, st149⟩ := X147.virtualBack hx (y := (⟨"com/example/nudge/nudge/tree/BlockEntries", "note", "(II)V"⟩ : MethodName)) (z := (⟨"com/example/nudge/nudge/tree/BlockEntries", "note", "(II)V"⟩ : MethodName)) hown (mvT hZ (w19 hw)) (mvT hZ (w20 hw)) (notFace_of_selects (args := #[]) (mvT hZ (w22 hw))) (mvT hZ (w22 hw)) (mvT hZ (w21 hw)) (by decide) (backOf (W := 0) (rm_note1 l Z a0 hw [] b2 ax_7 al_7 kx_7 kl_7 i1 m1 i0 m0 h147 n0 (Nat.le_trans Z0 sz148) p147_0 p147_1 p147_2 p147_3 p147_4 p147_5 p147_6 nq144 nq145 nx7_2 g_b2 gf7_0 gf7_1) hZ (w23 hw) (w7 hw) (by decide) (by decide)) q149a q149c (g := (mkF m 128 #[iv p0, iv p1, .val (.long p2), .second, iv p3, iv p4, iv p5, iv 3, iv i0, iv i1, iv i2, iv m0, iv m1, iv p3, iv r_1, iv q2, iv ln2, rv b2, .unset, .unset] [(.int m1), (.int i1), (.ref b2)])) rfl (by rw [hml]; rfl) (Steps.refl _) (argsL := [(.int i1), (.int m1)]) (rest := []) (lenOf pd_5 rfl) rfl (by show 2 * 0 + _ ≤ _; exact Nat.le_of_eq rfl) (hb hby at_128) (fun _ _ => ⟨rfl, e147, (by decide : 3 + 0 ≤ _), (by decide : 132 + 0 ≤ _)⟩)
    dsimp only [Pt.U, Pt.locs, Pt.cells, Pt.slots] at X149 lq149 yq149 zq149 st149 hQ149
    subst lq149 yq149 zq149
    obtain ⟨h149, e149⟩ : ∃ z, T149.heap = z := ⟨_, rfl⟩
    rw [e149] at hQ149
    obtain ⟨rfl, N149q, K149, p149_0, p149_1, p149_2, p149_3, p149_4, p149_5, p149_6⟩ := hQ149
    have N149 := Fr.app N147 N149q
    refine go_tr st149 ?_
    show Go _ _ _ _ (T149.setTop (mkF m 131 #[iv p0, iv p1, .val (.long p2), .second, iv p3, iv p4, iv p5, iv 3, iv i0, iv i1, iv i2, iv m0, iv m1, iv p3, iv r_1, iv q2, iv ln2, rv b2, .unset, .unset] []))
    refine go_st (fun t k => XS.iload X149.here hx rfl (hb hby at_131) rfl k) ?_
    refine go_st (fun t k => XS.iconst X149.here hx rfl (hb hby at_133) k) ?_
    show Go _ _ _ _ (T149.setTop (mkF m 134 #[iv p0, iv p1, .val (.long p2), .second, iv p3, iv p4, iv p5, iv 3, iv i0, iv i1, iv i2, iv m0, iv m1, iv p3, iv r_1, iv q2, iv ln2, rv b2, .unset, .unset] [(.int 3), (.int 3)]))
    refine go_st (fun t k => XS.icmpNo X149.here hx rfl (hb hby at_134) rfl (flt ((by decide) : ¬ ((3 : Int32) < (3 : Int32)))).1 k) ?_
    show Go _ _ _ _ (T149.setTop (mkF m 137 #[iv p0, iv p1, .val (.long p2), .second, iv p3, iv p4, iv p5, iv 3, iv i0, iv i1, iv i2, iv m0, iv m1, iv p3, iv r_1, iv q2, iv ln2, rv b2, .unset, .unset] []))
    refine go_st (fun t k => XS.aload X149.here hx rfl (hb hby at_137) rfl rfl k) ?_
    refine go_st (fun t k => XS.iload X149.here hx rfl (hb hby at_139) rfl k) ?_
    refine go_st (fun t k => XS.iload X149.here hx rfl (hb hby at_141) rfl k) ?_
    show Go _ _ _ _ (T149.setTop (mkF m 143 #[iv p0, iv p1, .val (.long p2), .second, iv p3, iv p4, iv p5, iv 3, iv i0, iv i1, iv i2, iv m0, iv m1, iv p3, iv r_1, iv q2, iv ln2, rv b2, .unset, .unset] [(.int p3), (.int i2), (.ref b2)]))
    have sz150 : h0.size ≤ h149.size := (Nat.le_trans sz148 K149.1)
    obtain ⟨cq151, kq151, q151a, q151b, q151c⟩ := isOf hZ e149 p149_0
    obtain ⟨_, _, ⟨T151, L151, kk151, nn151⟩, -, X151, ⟨Lc151, hQ151, lq151, yq151, zq151⟩, st151⟩ := X149.virtualBack hx (y := (⟨"com/example/nudge/nudge/tree/BlockEntries", "note", "(II)V"⟩ : MethodName)) (z := (⟨"com/example/nudge/nudge/tree/BlockEntries", "note", "(II)V"⟩ : MethodName)) hown (mvT hZ (w19 hw)) (mvT hZ (w20 hw)) (notFace_of_selects (args := #[]) (mvT hZ (w22 hw))) (mvT hZ (w22 hw)) (mvT hZ (w21 hw)) (by decide) (backOf (W := 0) (rm_note2 l Z a0 hw [] b2 ax_7 al_7 kx_7 kl_7 i2 p3 i0 i1 m0 m1 h149 n0 (Nat.le_trans Z0 sz150) p149_0 p149_1 p149_2 p149_3 p149_4 p149_5 p149_6 nq144 nq145 nx7_2 g_b2 gf7_0 gf7_1) hZ (w23 hw) (w7 hw) (by decide) (by decide)) q151a q151c (g := (mkF m 143 #[iv p0, iv p1, .val (.long p2), .second, iv p3, iv p4, iv p5, iv 3, iv i0, iv i1, iv i2, iv m0, iv m1, iv p3, iv r_1, iv q2, iv ln2, rv b2, .unset, .unset] [(.int p3), (.int i2), (.ref b2)])) rfl (by rw [hml]; rfl) (Steps.refl _) (argsL := [(.int i2), (.int p3)]) (rest := []) (lenOf pd_5 rfl) rfl (by show 2 * 0 + _ ≤ _; exact Nat.le_of_eq rfl) (hb hby at_143) (fun _ _ => ⟨rfl, e149, (by decide : 3 + 0 ≤ _), (by decide : 132 + 0 ≤ _)⟩)
    dsimp only [Pt.U, Pt.locs, Pt.cells, Pt.slots] at X151 lq151 yq151 zq151 st151 hQ151
    subst lq151 yq151 zq151
    obtain ⟨h151, e151⟩ : ∃ z, T151.heap = z := ⟨_, rfl⟩
    rw [e151] at hQ151
    obtain ⟨rfl, N151q, K151, p151_0, p151_1, p151_2, p151_3, p151_4, p151_5, p151_6⟩ := hQ151
    have N151 := Fr.app N149 N151q
    refine go_tr st151 ?_
    show Go _ _ _ _ (T151.setTop (mkF m 146 #[iv p0, iv p1, .val (.long p2), .second, iv p3, iv p4, iv p5, iv 3, iv i0, iv i1, iv i2, iv m0, iv m1, iv p3, iv r_1, iv q2, iv ln2, rv b2, .unset, .unset] []))
    refine go_st (fun t k => XS.aload X151.here hx rfl (hb hby at_146) rfl rfl k) ?_
    refine go_st (fun t k => XS.iload X151.here hx rfl (hb hby at_148) rfl k) ?_
    refine go_st (fun t k => XS.iload X151.here hx rfl (hb hby at_150) rfl k) ?_
    show Go _ _ _ _ (T151.setTop (mkF m 152 #[iv p0, iv p1, .val (.long p2), .second, iv p3, iv p4, iv p5, iv 3, iv i0, iv i1, iv i2, iv m0, iv m1, iv p3, iv r_1, iv q2, iv ln2, rv b2, .unset, .unset] [(.int p5), (.int r_1), (.ref b2)]))
    by_cases hp152 : i2 < r_1
    · skip
      have sz153 : h0.size ≤ h151.size := (Nat.le_trans sz150 K151.1)
      obtain ⟨cq154, kq154, q154a, q154b, q154c⟩ := isOf hZ e151 p151_0
      obtain ⟨_, _, ⟨T154, L154, kk154, nn154⟩, -, X154, ⟨Lc154, hQ154, lq154, yq154, zq154⟩, st154⟩ := X151.virtualBack hx (y := (⟨"com/example/nudge/nudge/tree/BlockEntries", "lineBefore", "(II)I"⟩ : MethodName)) (z := (⟨"com/example/nudge/nudge/tree/BlockEntries", "lineBefore", "(II)I"⟩ : MethodName)) hown (mvT hZ (w26 hw)) (mvT hZ (w27 hw)) (notFace_of_selects (args := #[]) (mvT hZ (w29 hw))) (mvT hZ (w29 hw)) (mvT hZ (w28 hw)) (by decide) (backOf (W := 0) (rm_lb_033 l Z a0 hw [] b2 ax_7 al_7 kx_7 kl_7 r_1 p5 i0 i1 i2 m0 m1 p3 h151 n0 (Nat.le_trans Z0 sz153) p151_0 p151_1 p151_2 p151_3 p151_4 p151_5 p151_6 nq144 nq145 nx7_2 g_b2 s0 s1 hp152) hZ (w30 hw) (w7 hw) (by decide) (by decide)) q154a q154c (g := (mkF m 152 #[iv p0, iv p1, .val (.long p2), .second, iv p3, iv p4, iv p5, iv 3, iv i0, iv i1, iv i2, iv m0, iv m1, iv p3, iv r_1, iv q2, iv ln2, rv b2, .unset, .unset] [(.int p5), (.int r_1), (.ref b2)])) rfl (by rw [hml]; rfl) (Steps.refl _) (argsL := [(.int r_1), (.int p5)]) (rest := []) (lenOf pd_2 rfl) rfl (by show 2 * 0 + _ ≤ _; exact Nat.le_of_eq rfl) (hb hby at_152) (fun _ _ => ⟨rfl, e151, (by decide : 3 + 0 ≤ _), (by decide : 132 + 0 ≤ _)⟩)
      dsimp only [Pt.U, Pt.locs, Pt.cells, Pt.slots] at X154 lq154 yq154 zq154 st154 hQ154
      subst lq154 yq154 zq154
      obtain ⟨h154, e154⟩ : ∃ z, T154.heap = z := ⟨_, rfl⟩
      rw [e154] at hQ154
      obtain ⟨rfl, N154q, K154, p154_0, p154_1, p154_2, p154_3, p154_4, p154_5, p154_6⟩ := hQ154
      have N154 := Fr.app N151 N154q
      refine go_tr st154 ?_
      show Go _ _ _ _ (T154.setTop (mkF m 155 #[iv p0, iv p1, .val (.long p2), .second, iv p3, iv p4, iv p5, iv 3, iv i0, iv i1, iv i2, iv m0, iv m1, iv p3, iv r_1, iv q2, iv ln2, rv b2, .unset, .unset] [(.int p3)]))
      refine go_st (fun t k => XS.istore X154.here hx rfl (hb hby at_155) rfl (l' := #[iv p0, iv p1, .val (.long p2), .second, iv p3, iv p4, iv p5, iv 3, iv i0, iv i1, iv i2, iv m0, iv m1, iv p3, iv r_1, iv q2, iv ln2, rv b2, iv p3, .unset]) rfl k) ?_
      refine go_st (fun t k => XS.aload X154.here hx rfl (hb hby at_157) rfl rfl k) ?_
      refine go_st (fun t k => XS.iload X154.here hx rfl (hb hby at_159) rfl k) ?_
      refine go_st (fun t k => XS.iload X154.here hx rfl (hb hby at_161) rfl k) ?_
      show Go _ _ _ _ (T154.setTop (mkF m 163 #[iv p0, iv p1, .val (.long p2), .second, iv p3, iv p4, iv p5, iv 3, iv i0, iv i1, iv i2, iv m0, iv m1, iv p3, iv r_1, iv q2, iv ln2, rv b2, iv p3, .unset] [(.int ln2), (.int q2), (.ref b2)]))
      have hlq : i2 < q2 := pl_lt (by have := pl_of hp152; omega)
      have sz155 : h0.size ≤ h154.size := (Nat.le_trans sz153 K154.1)
      obtain ⟨cq156, kq156, q156a, q156b, q156c⟩ := isOf hZ e154 p154_0
      obtain ⟨_, _, ⟨T156, L156, kk156, nn156⟩, -, X156, ⟨Lc156, hQ156, lq156, yq156, zq156⟩, st156⟩ := X154.virtualBack hx (y := (⟨"com/example/nudge/nudge/tree/BlockEntries", "lineBefore", "(II)I"⟩ : MethodName)) (z := (⟨"com/example/nudge/nudge/tree/BlockEntries", "lineBefore", "(II)I"⟩ : MethodName)) hown (mvT hZ (w26 hw)) (mvT hZ (w27 hw)) (notFace_of_selects (args := #[]) (mvT hZ (w29 hw))) (mvT hZ (w29 hw)) (mvT hZ (w28 hw)) (by decide) (backOf (W := 0) (rm_lb_233 l Z a0 hw [] b2 ax_7 al_7 kx_7 kl_7 q2 ln2 i0 i1 i2 m0 m1 p3 h154 n0 (Nat.le_trans Z0 sz155) p154_0 p154_1 p154_2 p154_3 p154_4 p154_5 p154_6 nq144 nq145 nx7_2 g_b2 hlq) hZ (w30 hw) (w7 hw) (by decide) (by decide)) q156a q156c (g := (mkF m 163 #[iv p0, iv p1, .val (.long p2), .second, iv p3, iv p4, iv p5, iv 3, iv i0, iv i1, iv i2, iv m0, iv m1, iv p3, iv r_1, iv q2, iv ln2, rv b2, iv p3, .unset] [(.int ln2), (.int q2), (.ref b2)])) rfl (by rw [hml]; rfl) (Steps.refl _) (argsL := [(.int q2), (.int ln2)]) (rest := []) (lenOf pd_2 rfl) rfl (by show 2 * 0 + _ ≤ _; exact Nat.le_of_eq rfl) (hb hby at_163) (fun _ _ => ⟨rfl, e154, (by decide : 3 + 0 ≤ _), (by decide : 132 + 0 ≤ _)⟩)
      dsimp only [Pt.U, Pt.locs, Pt.cells, Pt.slots] at X156 lq156 yq156 zq156 st156 hQ156
      subst lq156 yq156 zq156
      obtain ⟨h156, e156⟩ : ∃ z, T156.heap = z := ⟨_, rfl⟩
      rw [e156] at hQ156
      obtain ⟨rfl, N156q, K156, p156_0, p156_1, p156_2, p156_3, p156_4, p156_5, p156_6⟩ := hQ156
      have N156 := Fr.app N154 N156q
      refine go_tr st156 ?_
      show Go _ _ _ _ (T156.setTop (mkF m 166 #[iv p0, iv p1, .val (.long p2), .second, iv p3, iv p4, iv p5, iv 3, iv i0, iv i1, iv i2, iv m0, iv m1, iv p3, iv r_1, iv q2, iv ln2, rv b2, iv p3, .unset] [(.int p3)]))
      refine go_st (fun t k => XS.istore X156.here hx rfl (hb hby at_166) rfl (l' := #[iv p0, iv p1, .val (.long p2), .second, iv p3, iv p4, iv p5, iv 3, iv i0, iv i1, iv i2, iv m0, iv m1, iv p3, iv r_1, iv q2, iv ln2, rv b2, iv p3, iv p3]) rfl k) ?_
      refine go_st (fun t k => XS.iload X156.here hx rfl (hb hby at_168) rfl k) ?_
      refine go_st (fun t k => XS.iload X156.here hx rfl (hb hby at_170) rfl k) ?_
      refine go_st (fun t k => XS.iload X156.here hx rfl (hb hby at_172) rfl k) ?_
      refine go_st (fun t k => XS.iload X156.here hx rfl (hb hby at_174) rfl k) ?_
      refine go_st (fun t k => XS.iload X156.here hx rfl (hb hby at_176) rfl k) ?_
      refine go_st (fun t k => XS.iload X156.here hx rfl (hb hby at_178) rfl k) ?_
      refine go_st (fun t k => XS.iload X156.here hx rfl (hb hby at_180) rfl k) ?_
      refine go_st (fun t k => XS.iload X156.here hx rfl (hb hby at_182) rfl k) ?_
      refine go_st (fun t k => XS.iload X156.here hx rfl (hb hby at_184) rfl k) ?_
      refine go_st (fun t k => XS.iload X156.here hx rfl (hb hby at_186) rfl k) ?_
      show Go _ _ _ _ (T156.setTop (mkF m 188 #[iv p0, iv p1, .val (.long p2), .second, iv p3, iv p4, iv p5, iv 3, iv i0, iv i1, iv i2, iv m0, iv m1, iv p3, iv r_1, iv q2, iv ln2, rv b2, iv p3, iv p3] [(.int p5), (.int p3), (.int m1), (.int m0), (.int i2), (.int i1), (.int i0), (.int 3), (.int r_1), (.int p3)]))
      have sz157 : h0.size ≤ h156.size := (Nat.le_trans sz155 K156.1)
      obtain ⟨_, _, ⟨T158, L158, kk158, nn158⟩, -, X158, ⟨Lc158, hQ158, lq158, yq158, zq158⟩, st158⟩ := Jvm.LawKit.callS X156 hx (y := (⟨"com/example/nudge/nudge/tree/BlockEntriesLineBeforePinLaw", "expected", "(IIIIIIIII)I"⟩ : MethodName)) hown (mvT hZ (w43 hw)) (mvT hZ (w44 hw)) (mvT hZ (w45 hw)) (mvT hZ (w46 hw)) (by decide) (backOf (W := 1) (rm_exp_33 l Z a0 hw [] r_1 i0 i1 i2 m0 m1 p3 p5 h156 n0 (Nat.le_trans Z0 sz157) hp152) hZ (w46 hw) (w45 hw) (by decide) (by decide)) (g := (mkF m 188 #[iv p0, iv p1, .val (.long p2), .second, iv p3, iv p4, iv p5, iv 3, iv i0, iv i1, iv i2, iv m0, iv m1, iv p3, iv r_1, iv q2, iv ln2, rv b2, iv p3, iv p3] [(.int p5), (.int p3), (.int m1), (.int m0), (.int i2), (.int i1), (.int i0), (.int 3), (.int r_1), (.int p3)])) rfl (by rw [hml]; rfl) (argsL := [(.int r_1), (.int 3), (.int i0), (.int i1), (.int i2), (.int m0), (.int m1), (.int p3), (.int p5)]) (rest := [(.int p3)]) (lenOf pd_4 rfl) rfl (by show 2 * 0 + _ ≤ _; exact Nat.le_of_eq rfl) (hb hby at_188) (fun _ _ => ⟨rfl, e156, (by decide : 3 + 0 ≤ _), (by decide : 132 + 0 ≤ _)⟩)
      dsimp only [Pt.U, Pt.locs, Pt.cells, Pt.slots] at X158 lq158 yq158 zq158 st158 hQ158
      subst lq158 yq158 zq158
      obtain ⟨h158, e158⟩ : ∃ z, T158.heap = z := ⟨_, rfl⟩
      rw [e158] at hQ158
      obtain ⟨rfl, N158q, he158⟩ := hQ158
      have N158 := Fr.app N156 N158q
      rw [he158] at e158
      refine go_st st158 ?_
      show Go _ _ _ _ (T158.setTop (mkF m 191 #[iv p0, iv p1, .val (.long p2), .second, iv p3, iv p4, iv p5, iv 3, iv i0, iv i1, iv i2, iv m0, iv m1, iv p3, iv r_1, iv q2, iv ln2, rv b2, iv p3, iv p3] [(.int p3), (.int p3)]))
      refine go_st (fun t k => XS.icmpNo X158.here hx rfl (hb hby at_191) rfl (teq (rfl : p3 = p3)).2 k) ?_
      show Go _ _ _ _ (T158.setTop (mkF m 194 #[iv p0, iv p1, .val (.long p2), .second, iv p3, iv p4, iv p5, iv 3, iv i0, iv i1, iv i2, iv m0, iv m1, iv p3, iv r_1, iv q2, iv ln2, rv b2, iv p3, iv p3] []))
      refine go_st (fun t k => XS.iload X158.here hx rfl (hb hby at_194) rfl k) ?_
      refine go_st (fun t k => XS.iload X158.here hx rfl (hb hby at_196) rfl k) ?_
      refine go_st (fun t k => XS.iload X158.here hx rfl (hb hby at_198) rfl k) ?_
      refine go_st (fun t k => XS.iload X158.here hx rfl (hb hby at_200) rfl k) ?_
      refine go_st (fun t k => XS.iload X158.here hx rfl (hb hby at_202) rfl k) ?_
      refine go_st (fun t k => XS.iload X158.here hx rfl (hb hby at_204) rfl k) ?_
      refine go_st (fun t k => XS.iload X158.here hx rfl (hb hby at_206) rfl k) ?_
      refine go_st (fun t k => XS.iload X158.here hx rfl (hb hby at_208) rfl k) ?_
      refine go_st (fun t k => XS.iload X158.here hx rfl (hb hby at_210) rfl k) ?_
      refine go_st (fun t k => XS.iload X158.here hx rfl (hb hby at_212) rfl k) ?_
      show Go _ _ _ _ (T158.setTop (mkF m 214 #[iv p0, iv p1, .val (.long p2), .second, iv p3, iv p4, iv p5, iv 3, iv i0, iv i1, iv i2, iv m0, iv m1, iv p3, iv r_1, iv q2, iv ln2, rv b2, iv p3, iv p3] [(.int ln2), (.int p3), (.int m1), (.int m0), (.int i2), (.int i1), (.int i0), (.int 3), (.int q2), (.int p3)]))
      obtain ⟨_, _, ⟨T159, L159, kk159, nn159⟩, -, X159, ⟨Lc159, hQ159, lq159, yq159, zq159⟩, st159⟩ := Jvm.LawKit.callS X158 hx (y := (⟨"com/example/nudge/nudge/tree/BlockEntriesLineBeforePinLaw", "expected", "(IIIIIIIII)I"⟩ : MethodName)) hown (mvT hZ (w43 hw)) (mvT hZ (w44 hw)) (mvT hZ (w45 hw)) (mvT hZ (w46 hw)) (by decide) (backOf (W := 1) (rm_exp_33 l Z a0 hw [] q2 i0 i1 i2 m0 m1 p3 ln2 h156 n0 (Nat.le_trans Z0 sz157) hlq) hZ (w46 hw) (w45 hw) (by decide) (by decide)) (g := (mkF m 214 #[iv p0, iv p1, .val (.long p2), .second, iv p3, iv p4, iv p5, iv 3, iv i0, iv i1, iv i2, iv m0, iv m1, iv p3, iv r_1, iv q2, iv ln2, rv b2, iv p3, iv p3] [(.int ln2), (.int p3), (.int m1), (.int m0), (.int i2), (.int i1), (.int i0), (.int 3), (.int q2), (.int p3)])) rfl (by rw [hml]; rfl) (argsL := [(.int q2), (.int 3), (.int i0), (.int i1), (.int i2), (.int m0), (.int m1), (.int p3), (.int ln2)]) (rest := [(.int p3)]) (lenOf pd_4 rfl) rfl (by show 2 * 0 + _ ≤ _; exact Nat.le_of_eq rfl) (hb hby at_214) (fun _ _ => ⟨rfl, e158, (by decide : 3 + 0 ≤ _), (by decide : 132 + 0 ≤ _)⟩)
      dsimp only [Pt.U, Pt.locs, Pt.cells, Pt.slots] at X159 lq159 yq159 zq159 st159 hQ159
      subst lq159 yq159 zq159
      obtain ⟨h159, e159⟩ : ∃ z, T159.heap = z := ⟨_, rfl⟩
      rw [e159] at hQ159
      obtain ⟨rfl, N159q, he159⟩ := hQ159
      have N159 := Fr.app N158 N159q
      rw [he159] at e159
      refine go_st st159 ?_
      show Go _ _ _ _ (T159.setTop (mkF m 217 #[iv p0, iv p1, .val (.long p2), .second, iv p3, iv p4, iv p5, iv 3, iv i0, iv i1, iv i2, iv m0, iv m1, iv p3, iv r_1, iv q2, iv ln2, rv b2, iv p3, iv p3] [(.int p3), (.int p3)]))
      refine go_st (fun t k => XS.icmpNo X159.here hx rfl (hb hby at_217) rfl (teq (rfl : p3 = p3)).2 k) ?_
      show Go _ _ _ _ (T159.setTop (mkF m 220 #[iv p0, iv p1, .val (.long p2), .second, iv p3, iv p4, iv p5, iv 3, iv i0, iv i1, iv i2, iv m0, iv m1, iv p3, iv r_1, iv q2, iv ln2, rv b2, iv p3, iv p3] []))
      refine go_st (fun t k => XS.iconst X159.here hx rfl (hb hby at_220) k) ?_
      refine go_st (fun t k => XS.goto X159.here hx rfl (pc0 := 221) (pc' := 225) rfl (hb hby at_221) (by decide) (by decide) k) ?_
      show Go _ _ _ _ (T159.setTop (mkF m 225 #[iv p0, iv p1, .val (.long p2), .second, iv p3, iv p4, iv p5, iv 3, iv i0, iv i1, iv i2, iv m0, iv m1, iv p3, iv r_1, iv q2, iv ln2, rv b2, iv p3, iv p3] [(.int 1)]))
      have ke160 : Keep h0 h2 [] := (Keep.ext (Keep.refl h0 []) E2)
      have ke161 : Keep h0 h7 [] := (Keep.trans ke160 K7 (allS (Or.inr (Nat.le_of_eq gq2.symm)) all0))
      have ke162 : Keep h0 h147 [] := (Keep.trans ke161 K147 (allS (Or.inr (Nat.le_of_eq gq2.symm)) (allS (Or.inr (Nat.le_trans E2.1 lf7_0)) (allS (Or.inr (Nat.le_trans E2.1 lf7_1)) all0))))
      have ke163 : Keep h0 h149 [] := (Keep.trans ke162 K149 (allS (Or.inr (Nat.le_of_eq gq2.symm)) (allS (Or.inr (Nat.le_trans E2.1 lf7_0)) (allS (Or.inr (Nat.le_trans E2.1 lf7_1)) all0))))
      have ke164 : Keep h0 h151 [] := (Keep.trans ke163 K151 (allS (Or.inr (Nat.le_of_eq gq2.symm)) (allS (Or.inr (Nat.le_trans E2.1 lf7_0)) (allS (Or.inr (Nat.le_trans E2.1 lf7_1)) all0))))
      have ke165 : Keep h0 h154 [] := (Keep.trans ke164 K154 (allS (Or.inr (Nat.le_of_eq gq2.symm)) all0))
      have ke166 : Keep h0 h156 [] := (Keep.trans ke165 K156 (allS (Or.inr (Nat.le_of_eq gq2.symm)) all0))
      obtain ⟨fs, hr, hrun, hended, hW, hsame⟩ := X159.leave (v := some (.int 1)) (fun h => by rw [Bd.returns] at h; cases h)
      refine ⟨_, _, ?_, hrun, hended, _, _, rfl, ?_, ⟨_, rfl⟩, hW, hsame.mono (by decide) (by decide)⟩
      · exact retN X159 hx (t := .boolean) Bd.returns (by simp) (hb hby at_225) hr
      · show Q_law _ _ _ _ _ _ _ _ _ _ T159.heap _
        rw [e159]
        exact ⟨rfl, N159, ke166⟩
    · skip
      by_cases hp167 : i1 < r_1
      · skip
        have sz168 : h0.size ≤ h151.size := (Nat.le_trans sz150 K151.1)
        obtain ⟨cq169, kq169, q169a, q169b, q169c⟩ := isOf hZ e151 p151_0
        obtain ⟨_, _, ⟨T169, L169, kk169, nn169⟩, -, X169, ⟨Lc169, hQ169, lq169, yq169, zq169⟩, st169⟩ := X151.virtualBack hx (y := (⟨"com/example/nudge/nudge/tree/BlockEntries", "lineBefore", "(II)I"⟩ : MethodName)) (z := (⟨"com/example/nudge/nudge/tree/BlockEntries", "lineBefore", "(II)I"⟩ : MethodName)) hown (mvT hZ (w26 hw)) (mvT hZ (w27 hw)) (notFace_of_selects (args := #[]) (mvT hZ (w29 hw))) (mvT hZ (w29 hw)) (mvT hZ (w28 hw)) (by decide) (backOf (W := 0) (rm_lb_032 l Z a0 hw [] b2 ax_7 al_7 kx_7 kl_7 r_1 p5 i0 i1 i2 m0 m1 p3 h151 n0 (Nat.le_trans Z0 sz168) p151_0 p151_1 p151_2 p151_3 p151_4 p151_5 p151_6 nq144 nq145 nx7_2 g_b2 s0 s1 hp167 hp152) hZ (w30 hw) (w7 hw) (by decide) (by decide)) q169a q169c (g := (mkF m 152 #[iv p0, iv p1, .val (.long p2), .second, iv p3, iv p4, iv p5, iv 3, iv i0, iv i1, iv i2, iv m0, iv m1, iv p3, iv r_1, iv q2, iv ln2, rv b2, .unset, .unset] [(.int p5), (.int r_1), (.ref b2)])) rfl (by rw [hml]; rfl) (Steps.refl _) (argsL := [(.int r_1), (.int p5)]) (rest := []) (lenOf pd_2 rfl) rfl (by show 2 * 0 + _ ≤ _; exact Nat.le_of_eq rfl) (hb hby at_152) (fun _ _ => ⟨rfl, e151, (by decide : 3 + 0 ≤ _), (by decide : 132 + 0 ≤ _)⟩)
        dsimp only [Pt.U, Pt.locs, Pt.cells, Pt.slots] at X169 lq169 yq169 zq169 st169 hQ169
        subst lq169 yq169 zq169
        obtain ⟨h169, e169⟩ : ∃ z, T169.heap = z := ⟨_, rfl⟩
        rw [e169] at hQ169
        obtain ⟨rfl, N169q, K169, p169_0, p169_1, p169_2, p169_3, p169_4, p169_5, p169_6⟩ := hQ169
        have N169 := Fr.app N151 N169q
        refine go_tr st169 ?_
        show Go _ _ _ _ (T169.setTop (mkF m 155 #[iv p0, iv p1, .val (.long p2), .second, iv p3, iv p4, iv p5, iv 3, iv i0, iv i1, iv i2, iv m0, iv m1, iv p3, iv r_1, iv q2, iv ln2, rv b2, .unset, .unset] [(.int m1)]))
        refine go_st (fun t k => XS.istore X169.here hx rfl (hb hby at_155) rfl (l' := #[iv p0, iv p1, .val (.long p2), .second, iv p3, iv p4, iv p5, iv 3, iv i0, iv i1, iv i2, iv m0, iv m1, iv p3, iv r_1, iv q2, iv ln2, rv b2, iv m1, .unset]) rfl k) ?_
        refine go_st (fun t k => XS.aload X169.here hx rfl (hb hby at_157) rfl rfl k) ?_
        refine go_st (fun t k => XS.iload X169.here hx rfl (hb hby at_159) rfl k) ?_
        refine go_st (fun t k => XS.iload X169.here hx rfl (hb hby at_161) rfl k) ?_
        show Go _ _ _ _ (T169.setTop (mkF m 163 #[iv p0, iv p1, .val (.long p2), .second, iv p3, iv p4, iv p5, iv 3, iv i0, iv i1, iv i2, iv m0, iv m1, iv p3, iv r_1, iv q2, iv ln2, rv b2, iv m1, .unset] [(.int ln2), (.int q2), (.ref b2)]))
        by_cases hp170 : i2 < q2
        · skip
          have sz171 : h0.size ≤ h169.size := (Nat.le_trans sz168 K169.1)
          obtain ⟨cq172, kq172, q172a, q172b, q172c⟩ := isOf hZ e169 p169_0
          obtain ⟨_, _, ⟨T172, L172, kk172, nn172⟩, -, X172, ⟨Lc172, hQ172, lq172, yq172, zq172⟩, st172⟩ := X169.virtualBack hx (y := (⟨"com/example/nudge/nudge/tree/BlockEntries", "lineBefore", "(II)I"⟩ : MethodName)) (z := (⟨"com/example/nudge/nudge/tree/BlockEntries", "lineBefore", "(II)I"⟩ : MethodName)) hown (mvT hZ (w26 hw)) (mvT hZ (w27 hw)) (notFace_of_selects (args := #[]) (mvT hZ (w29 hw))) (mvT hZ (w29 hw)) (mvT hZ (w28 hw)) (by decide) (backOf (W := 0) (rm_lb_133 l Z a0 hw [] b2 ax_7 al_7 kx_7 kl_7 q2 ln2 i0 i1 i2 m0 m1 p3 h169 n0 (Nat.le_trans Z0 sz171) p169_0 p169_1 p169_2 p169_3 p169_4 p169_5 p169_6 nq144 nq145 nx7_2 g_b2 s1 hp170) hZ (w30 hw) (w7 hw) (by decide) (by decide)) q172a q172c (g := (mkF m 163 #[iv p0, iv p1, .val (.long p2), .second, iv p3, iv p4, iv p5, iv 3, iv i0, iv i1, iv i2, iv m0, iv m1, iv p3, iv r_1, iv q2, iv ln2, rv b2, iv m1, .unset] [(.int ln2), (.int q2), (.ref b2)])) rfl (by rw [hml]; rfl) (Steps.refl _) (argsL := [(.int q2), (.int ln2)]) (rest := []) (lenOf pd_2 rfl) rfl (by show 2 * 0 + _ ≤ _; exact Nat.le_of_eq rfl) (hb hby at_163) (fun _ _ => ⟨rfl, e169, (by decide : 3 + 0 ≤ _), (by decide : 132 + 0 ≤ _)⟩)
          dsimp only [Pt.U, Pt.locs, Pt.cells, Pt.slots] at X172 lq172 yq172 zq172 st172 hQ172
          subst lq172 yq172 zq172
          obtain ⟨h172, e172⟩ : ∃ z, T172.heap = z := ⟨_, rfl⟩
          rw [e172] at hQ172
          obtain ⟨rfl, N172q, K172, p172_0, p172_1, p172_2, p172_3, p172_4, p172_5, p172_6⟩ := hQ172
          have N172 := Fr.app N169 N172q
          refine go_tr st172 ?_
          show Go _ _ _ _ (T172.setTop (mkF m 166 #[iv p0, iv p1, .val (.long p2), .second, iv p3, iv p4, iv p5, iv 3, iv i0, iv i1, iv i2, iv m0, iv m1, iv p3, iv r_1, iv q2, iv ln2, rv b2, iv m1, .unset] [(.int p3)]))
          refine go_st (fun t k => XS.istore X172.here hx rfl (hb hby at_166) rfl (l' := #[iv p0, iv p1, .val (.long p2), .second, iv p3, iv p4, iv p5, iv 3, iv i0, iv i1, iv i2, iv m0, iv m1, iv p3, iv r_1, iv q2, iv ln2, rv b2, iv m1, iv p3]) rfl k) ?_
          refine go_st (fun t k => XS.iload X172.here hx rfl (hb hby at_168) rfl k) ?_
          refine go_st (fun t k => XS.iload X172.here hx rfl (hb hby at_170) rfl k) ?_
          refine go_st (fun t k => XS.iload X172.here hx rfl (hb hby at_172) rfl k) ?_
          refine go_st (fun t k => XS.iload X172.here hx rfl (hb hby at_174) rfl k) ?_
          refine go_st (fun t k => XS.iload X172.here hx rfl (hb hby at_176) rfl k) ?_
          refine go_st (fun t k => XS.iload X172.here hx rfl (hb hby at_178) rfl k) ?_
          refine go_st (fun t k => XS.iload X172.here hx rfl (hb hby at_180) rfl k) ?_
          refine go_st (fun t k => XS.iload X172.here hx rfl (hb hby at_182) rfl k) ?_
          refine go_st (fun t k => XS.iload X172.here hx rfl (hb hby at_184) rfl k) ?_
          refine go_st (fun t k => XS.iload X172.here hx rfl (hb hby at_186) rfl k) ?_
          show Go _ _ _ _ (T172.setTop (mkF m 188 #[iv p0, iv p1, .val (.long p2), .second, iv p3, iv p4, iv p5, iv 3, iv i0, iv i1, iv i2, iv m0, iv m1, iv p3, iv r_1, iv q2, iv ln2, rv b2, iv m1, iv p3] [(.int p5), (.int p3), (.int m1), (.int m0), (.int i2), (.int i1), (.int i0), (.int 3), (.int r_1), (.int m1)]))
          have sz173 : h0.size ≤ h172.size := (Nat.le_trans sz171 K172.1)
          obtain ⟨_, _, ⟨T174, L174, kk174, nn174⟩, -, X174, ⟨Lc174, hQ174, lq174, yq174, zq174⟩, st174⟩ := Jvm.LawKit.callS X172 hx (y := (⟨"com/example/nudge/nudge/tree/BlockEntriesLineBeforePinLaw", "expected", "(IIIIIIIII)I"⟩ : MethodName)) hown (mvT hZ (w43 hw)) (mvT hZ (w44 hw)) (mvT hZ (w45 hw)) (mvT hZ (w46 hw)) (by decide) (backOf (W := 1) (rm_exp_32 l Z a0 hw [] r_1 i0 i1 i2 m0 m1 p3 p5 h172 n0 (Nat.le_trans Z0 sz173) hp167 hp152) hZ (w46 hw) (w45 hw) (by decide) (by decide)) (g := (mkF m 188 #[iv p0, iv p1, .val (.long p2), .second, iv p3, iv p4, iv p5, iv 3, iv i0, iv i1, iv i2, iv m0, iv m1, iv p3, iv r_1, iv q2, iv ln2, rv b2, iv m1, iv p3] [(.int p5), (.int p3), (.int m1), (.int m0), (.int i2), (.int i1), (.int i0), (.int 3), (.int r_1), (.int m1)])) rfl (by rw [hml]; rfl) (argsL := [(.int r_1), (.int 3), (.int i0), (.int i1), (.int i2), (.int m0), (.int m1), (.int p3), (.int p5)]) (rest := [(.int m1)]) (lenOf pd_4 rfl) rfl (by show 2 * 0 + _ ≤ _; exact Nat.le_of_eq rfl) (hb hby at_188) (fun _ _ => ⟨rfl, e172, (by decide : 3 + 0 ≤ _), (by decide : 132 + 0 ≤ _)⟩)
          dsimp only [Pt.U, Pt.locs, Pt.cells, Pt.slots] at X174 lq174 yq174 zq174 st174 hQ174
          subst lq174 yq174 zq174
          obtain ⟨h174, e174⟩ : ∃ z, T174.heap = z := ⟨_, rfl⟩
          rw [e174] at hQ174
          obtain ⟨rfl, N174q, he174⟩ := hQ174
          have N174 := Fr.app N172 N174q
          rw [he174] at e174
          refine go_st st174 ?_
          show Go _ _ _ _ (T174.setTop (mkF m 191 #[iv p0, iv p1, .val (.long p2), .second, iv p3, iv p4, iv p5, iv 3, iv i0, iv i1, iv i2, iv m0, iv m1, iv p3, iv r_1, iv q2, iv ln2, rv b2, iv m1, iv p3] [(.int m1), (.int m1)]))
          refine go_st (fun t k => XS.icmpNo X174.here hx rfl (hb hby at_191) rfl (teq (rfl : m1 = m1)).2 k) ?_
          show Go _ _ _ _ (T174.setTop (mkF m 194 #[iv p0, iv p1, .val (.long p2), .second, iv p3, iv p4, iv p5, iv 3, iv i0, iv i1, iv i2, iv m0, iv m1, iv p3, iv r_1, iv q2, iv ln2, rv b2, iv m1, iv p3] []))
          refine go_st (fun t k => XS.iload X174.here hx rfl (hb hby at_194) rfl k) ?_
          refine go_st (fun t k => XS.iload X174.here hx rfl (hb hby at_196) rfl k) ?_
          refine go_st (fun t k => XS.iload X174.here hx rfl (hb hby at_198) rfl k) ?_
          refine go_st (fun t k => XS.iload X174.here hx rfl (hb hby at_200) rfl k) ?_
          refine go_st (fun t k => XS.iload X174.here hx rfl (hb hby at_202) rfl k) ?_
          refine go_st (fun t k => XS.iload X174.here hx rfl (hb hby at_204) rfl k) ?_
          refine go_st (fun t k => XS.iload X174.here hx rfl (hb hby at_206) rfl k) ?_
          refine go_st (fun t k => XS.iload X174.here hx rfl (hb hby at_208) rfl k) ?_
          refine go_st (fun t k => XS.iload X174.here hx rfl (hb hby at_210) rfl k) ?_
          refine go_st (fun t k => XS.iload X174.here hx rfl (hb hby at_212) rfl k) ?_
          show Go _ _ _ _ (T174.setTop (mkF m 214 #[iv p0, iv p1, .val (.long p2), .second, iv p3, iv p4, iv p5, iv 3, iv i0, iv i1, iv i2, iv m0, iv m1, iv p3, iv r_1, iv q2, iv ln2, rv b2, iv m1, iv p3] [(.int ln2), (.int p3), (.int m1), (.int m0), (.int i2), (.int i1), (.int i0), (.int 3), (.int q2), (.int p3)]))
          obtain ⟨_, _, ⟨T175, L175, kk175, nn175⟩, -, X175, ⟨Lc175, hQ175, lq175, yq175, zq175⟩, st175⟩ := Jvm.LawKit.callS X174 hx (y := (⟨"com/example/nudge/nudge/tree/BlockEntriesLineBeforePinLaw", "expected", "(IIIIIIIII)I"⟩ : MethodName)) hown (mvT hZ (w43 hw)) (mvT hZ (w44 hw)) (mvT hZ (w45 hw)) (mvT hZ (w46 hw)) (by decide) (backOf (W := 1) (rm_exp_33 l Z a0 hw [] q2 i0 i1 i2 m0 m1 p3 ln2 h172 n0 (Nat.le_trans Z0 sz173) hp170) hZ (w46 hw) (w45 hw) (by decide) (by decide)) (g := (mkF m 214 #[iv p0, iv p1, .val (.long p2), .second, iv p3, iv p4, iv p5, iv 3, iv i0, iv i1, iv i2, iv m0, iv m1, iv p3, iv r_1, iv q2, iv ln2, rv b2, iv m1, iv p3] [(.int ln2), (.int p3), (.int m1), (.int m0), (.int i2), (.int i1), (.int i0), (.int 3), (.int q2), (.int p3)])) rfl (by rw [hml]; rfl) (argsL := [(.int q2), (.int 3), (.int i0), (.int i1), (.int i2), (.int m0), (.int m1), (.int p3), (.int ln2)]) (rest := [(.int p3)]) (lenOf pd_4 rfl) rfl (by show 2 * 0 + _ ≤ _; exact Nat.le_of_eq rfl) (hb hby at_214) (fun _ _ => ⟨rfl, e174, (by decide : 3 + 0 ≤ _), (by decide : 132 + 0 ≤ _)⟩)
          dsimp only [Pt.U, Pt.locs, Pt.cells, Pt.slots] at X175 lq175 yq175 zq175 st175 hQ175
          subst lq175 yq175 zq175
          obtain ⟨h175, e175⟩ : ∃ z, T175.heap = z := ⟨_, rfl⟩
          rw [e175] at hQ175
          obtain ⟨rfl, N175q, he175⟩ := hQ175
          have N175 := Fr.app N174 N175q
          rw [he175] at e175
          refine go_st st175 ?_
          show Go _ _ _ _ (T175.setTop (mkF m 217 #[iv p0, iv p1, .val (.long p2), .second, iv p3, iv p4, iv p5, iv 3, iv i0, iv i1, iv i2, iv m0, iv m1, iv p3, iv r_1, iv q2, iv ln2, rv b2, iv m1, iv p3] [(.int p3), (.int p3)]))
          refine go_st (fun t k => XS.icmpNo X175.here hx rfl (hb hby at_217) rfl (teq (rfl : p3 = p3)).2 k) ?_
          show Go _ _ _ _ (T175.setTop (mkF m 220 #[iv p0, iv p1, .val (.long p2), .second, iv p3, iv p4, iv p5, iv 3, iv i0, iv i1, iv i2, iv m0, iv m1, iv p3, iv r_1, iv q2, iv ln2, rv b2, iv m1, iv p3] []))
          refine go_st (fun t k => XS.iconst X175.here hx rfl (hb hby at_220) k) ?_
          refine go_st (fun t k => XS.goto X175.here hx rfl (pc0 := 221) (pc' := 225) rfl (hb hby at_221) (by decide) (by decide) k) ?_
          show Go _ _ _ _ (T175.setTop (mkF m 225 #[iv p0, iv p1, .val (.long p2), .second, iv p3, iv p4, iv p5, iv 3, iv i0, iv i1, iv i2, iv m0, iv m1, iv p3, iv r_1, iv q2, iv ln2, rv b2, iv m1, iv p3] [(.int 1)]))
          have ke176 : Keep h0 h2 [] := (Keep.ext (Keep.refl h0 []) E2)
          have ke177 : Keep h0 h7 [] := (Keep.trans ke176 K7 (allS (Or.inr (Nat.le_of_eq gq2.symm)) all0))
          have ke178 : Keep h0 h147 [] := (Keep.trans ke177 K147 (allS (Or.inr (Nat.le_of_eq gq2.symm)) (allS (Or.inr (Nat.le_trans E2.1 lf7_0)) (allS (Or.inr (Nat.le_trans E2.1 lf7_1)) all0))))
          have ke179 : Keep h0 h149 [] := (Keep.trans ke178 K149 (allS (Or.inr (Nat.le_of_eq gq2.symm)) (allS (Or.inr (Nat.le_trans E2.1 lf7_0)) (allS (Or.inr (Nat.le_trans E2.1 lf7_1)) all0))))
          have ke180 : Keep h0 h151 [] := (Keep.trans ke179 K151 (allS (Or.inr (Nat.le_of_eq gq2.symm)) (allS (Or.inr (Nat.le_trans E2.1 lf7_0)) (allS (Or.inr (Nat.le_trans E2.1 lf7_1)) all0))))
          have ke181 : Keep h0 h169 [] := (Keep.trans ke180 K169 (allS (Or.inr (Nat.le_of_eq gq2.symm)) all0))
          have ke182 : Keep h0 h172 [] := (Keep.trans ke181 K172 (allS (Or.inr (Nat.le_of_eq gq2.symm)) all0))
          obtain ⟨fs, hr, hrun, hended, hW, hsame⟩ := X175.leave (v := some (.int 1)) (fun h => by rw [Bd.returns] at h; cases h)
          refine ⟨_, _, ?_, hrun, hended, _, _, rfl, ?_, ⟨_, rfl⟩, hW, hsame.mono (by decide) (by decide)⟩
          · exact retN X175 hx (t := .boolean) Bd.returns (by simp) (hb hby at_225) hr
          · show Q_law _ _ _ _ _ _ _ _ _ _ T175.heap _
            rw [e175]
            exact ⟨rfl, N175, ke182⟩
        · skip
          have hlq : i1 < q2 := pl_lt (by have := pl_of hp167; omega)
          have sz183 : h0.size ≤ h169.size := (Nat.le_trans sz168 K169.1)
          obtain ⟨cq184, kq184, q184a, q184b, q184c⟩ := isOf hZ e169 p169_0
          obtain ⟨_, _, ⟨T184, L184, kk184, nn184⟩, -, X184, ⟨Lc184, hQ184, lq184, yq184, zq184⟩, st184⟩ := X169.virtualBack hx (y := (⟨"com/example/nudge/nudge/tree/BlockEntries", "lineBefore", "(II)I"⟩ : MethodName)) (z := (⟨"com/example/nudge/nudge/tree/BlockEntries", "lineBefore", "(II)I"⟩ : MethodName)) hown (mvT hZ (w26 hw)) (mvT hZ (w27 hw)) (notFace_of_selects (args := #[]) (mvT hZ (w29 hw))) (mvT hZ (w29 hw)) (mvT hZ (w28 hw)) (by decide) (backOf (W := 0) (rm_lb_132 l Z a0 hw [] b2 ax_7 al_7 kx_7 kl_7 q2 ln2 i0 i1 i2 m0 m1 p3 h169 n0 (Nat.le_trans Z0 sz183) p169_0 p169_1 p169_2 p169_3 p169_4 p169_5 p169_6 nq144 nq145 nx7_2 g_b2 s1 hlq hp170) hZ (w30 hw) (w7 hw) (by decide) (by decide)) q184a q184c (g := (mkF m 163 #[iv p0, iv p1, .val (.long p2), .second, iv p3, iv p4, iv p5, iv 3, iv i0, iv i1, iv i2, iv m0, iv m1, iv p3, iv r_1, iv q2, iv ln2, rv b2, iv m1, .unset] [(.int ln2), (.int q2), (.ref b2)])) rfl (by rw [hml]; rfl) (Steps.refl _) (argsL := [(.int q2), (.int ln2)]) (rest := []) (lenOf pd_2 rfl) rfl (by show 2 * 0 + _ ≤ _; exact Nat.le_of_eq rfl) (hb hby at_163) (fun _ _ => ⟨rfl, e169, (by decide : 3 + 0 ≤ _), (by decide : 132 + 0 ≤ _)⟩)
          dsimp only [Pt.U, Pt.locs, Pt.cells, Pt.slots] at X184 lq184 yq184 zq184 st184 hQ184
          subst lq184 yq184 zq184
          obtain ⟨h184, e184⟩ : ∃ z, T184.heap = z := ⟨_, rfl⟩
          rw [e184] at hQ184
          obtain ⟨rfl, N184q, K184, p184_0, p184_1, p184_2, p184_3, p184_4, p184_5, p184_6⟩ := hQ184
          have N184 := Fr.app N169 N184q
          refine go_tr st184 ?_
          show Go _ _ _ _ (T184.setTop (mkF m 166 #[iv p0, iv p1, .val (.long p2), .second, iv p3, iv p4, iv p5, iv 3, iv i0, iv i1, iv i2, iv m0, iv m1, iv p3, iv r_1, iv q2, iv ln2, rv b2, iv m1, .unset] [(.int m1)]))
          refine go_st (fun t k => XS.istore X184.here hx rfl (hb hby at_166) rfl (l' := #[iv p0, iv p1, .val (.long p2), .second, iv p3, iv p4, iv p5, iv 3, iv i0, iv i1, iv i2, iv m0, iv m1, iv p3, iv r_1, iv q2, iv ln2, rv b2, iv m1, iv m1]) rfl k) ?_
          refine go_st (fun t k => XS.iload X184.here hx rfl (hb hby at_168) rfl k) ?_
          refine go_st (fun t k => XS.iload X184.here hx rfl (hb hby at_170) rfl k) ?_
          refine go_st (fun t k => XS.iload X184.here hx rfl (hb hby at_172) rfl k) ?_
          refine go_st (fun t k => XS.iload X184.here hx rfl (hb hby at_174) rfl k) ?_
          refine go_st (fun t k => XS.iload X184.here hx rfl (hb hby at_176) rfl k) ?_
          refine go_st (fun t k => XS.iload X184.here hx rfl (hb hby at_178) rfl k) ?_
          refine go_st (fun t k => XS.iload X184.here hx rfl (hb hby at_180) rfl k) ?_
          refine go_st (fun t k => XS.iload X184.here hx rfl (hb hby at_182) rfl k) ?_
          refine go_st (fun t k => XS.iload X184.here hx rfl (hb hby at_184) rfl k) ?_
          refine go_st (fun t k => XS.iload X184.here hx rfl (hb hby at_186) rfl k) ?_
          show Go _ _ _ _ (T184.setTop (mkF m 188 #[iv p0, iv p1, .val (.long p2), .second, iv p3, iv p4, iv p5, iv 3, iv i0, iv i1, iv i2, iv m0, iv m1, iv p3, iv r_1, iv q2, iv ln2, rv b2, iv m1, iv m1] [(.int p5), (.int p3), (.int m1), (.int m0), (.int i2), (.int i1), (.int i0), (.int 3), (.int r_1), (.int m1)]))
          have sz185 : h0.size ≤ h184.size := (Nat.le_trans sz183 K184.1)
          obtain ⟨_, _, ⟨T186, L186, kk186, nn186⟩, -, X186, ⟨Lc186, hQ186, lq186, yq186, zq186⟩, st186⟩ := Jvm.LawKit.callS X184 hx (y := (⟨"com/example/nudge/nudge/tree/BlockEntriesLineBeforePinLaw", "expected", "(IIIIIIIII)I"⟩ : MethodName)) hown (mvT hZ (w43 hw)) (mvT hZ (w44 hw)) (mvT hZ (w45 hw)) (mvT hZ (w46 hw)) (by decide) (backOf (W := 1) (rm_exp_32 l Z a0 hw [] r_1 i0 i1 i2 m0 m1 p3 p5 h184 n0 (Nat.le_trans Z0 sz185) hp167 hp152) hZ (w46 hw) (w45 hw) (by decide) (by decide)) (g := (mkF m 188 #[iv p0, iv p1, .val (.long p2), .second, iv p3, iv p4, iv p5, iv 3, iv i0, iv i1, iv i2, iv m0, iv m1, iv p3, iv r_1, iv q2, iv ln2, rv b2, iv m1, iv m1] [(.int p5), (.int p3), (.int m1), (.int m0), (.int i2), (.int i1), (.int i0), (.int 3), (.int r_1), (.int m1)])) rfl (by rw [hml]; rfl) (argsL := [(.int r_1), (.int 3), (.int i0), (.int i1), (.int i2), (.int m0), (.int m1), (.int p3), (.int p5)]) (rest := [(.int m1)]) (lenOf pd_4 rfl) rfl (by show 2 * 0 + _ ≤ _; exact Nat.le_of_eq rfl) (hb hby at_188) (fun _ _ => ⟨rfl, e184, (by decide : 3 + 0 ≤ _), (by decide : 132 + 0 ≤ _)⟩)
          dsimp only [Pt.U, Pt.locs, Pt.cells, Pt.slots] at X186 lq186 yq186 zq186 st186 hQ186
          subst lq186 yq186 zq186
          obtain ⟨h186, e186⟩ : ∃ z, T186.heap = z := ⟨_, rfl⟩
          rw [e186] at hQ186
          obtain ⟨rfl, N186q, he186⟩ := hQ186
          have N186 := Fr.app N184 N186q
          rw [he186] at e186
          refine go_st st186 ?_
          show Go _ _ _ _ (T186.setTop (mkF m 191 #[iv p0, iv p1, .val (.long p2), .second, iv p3, iv p4, iv p5, iv 3, iv i0, iv i1, iv i2, iv m0, iv m1, iv p3, iv r_1, iv q2, iv ln2, rv b2, iv m1, iv m1] [(.int m1), (.int m1)]))
          refine go_st (fun t k => XS.icmpNo X186.here hx rfl (hb hby at_191) rfl (teq (rfl : m1 = m1)).2 k) ?_
          show Go _ _ _ _ (T186.setTop (mkF m 194 #[iv p0, iv p1, .val (.long p2), .second, iv p3, iv p4, iv p5, iv 3, iv i0, iv i1, iv i2, iv m0, iv m1, iv p3, iv r_1, iv q2, iv ln2, rv b2, iv m1, iv m1] []))
          refine go_st (fun t k => XS.iload X186.here hx rfl (hb hby at_194) rfl k) ?_
          refine go_st (fun t k => XS.iload X186.here hx rfl (hb hby at_196) rfl k) ?_
          refine go_st (fun t k => XS.iload X186.here hx rfl (hb hby at_198) rfl k) ?_
          refine go_st (fun t k => XS.iload X186.here hx rfl (hb hby at_200) rfl k) ?_
          refine go_st (fun t k => XS.iload X186.here hx rfl (hb hby at_202) rfl k) ?_
          refine go_st (fun t k => XS.iload X186.here hx rfl (hb hby at_204) rfl k) ?_
          refine go_st (fun t k => XS.iload X186.here hx rfl (hb hby at_206) rfl k) ?_
          refine go_st (fun t k => XS.iload X186.here hx rfl (hb hby at_208) rfl k) ?_
          refine go_st (fun t k => XS.iload X186.here hx rfl (hb hby at_210) rfl k) ?_
          refine go_st (fun t k => XS.iload X186.here hx rfl (hb hby at_212) rfl k) ?_
          show Go _ _ _ _ (T186.setTop (mkF m 214 #[iv p0, iv p1, .val (.long p2), .second, iv p3, iv p4, iv p5, iv 3, iv i0, iv i1, iv i2, iv m0, iv m1, iv p3, iv r_1, iv q2, iv ln2, rv b2, iv m1, iv m1] [(.int ln2), (.int p3), (.int m1), (.int m0), (.int i2), (.int i1), (.int i0), (.int 3), (.int q2), (.int m1)]))
          obtain ⟨_, _, ⟨T187, L187, kk187, nn187⟩, -, X187, ⟨Lc187, hQ187, lq187, yq187, zq187⟩, st187⟩ := Jvm.LawKit.callS X186 hx (y := (⟨"com/example/nudge/nudge/tree/BlockEntriesLineBeforePinLaw", "expected", "(IIIIIIIII)I"⟩ : MethodName)) hown (mvT hZ (w43 hw)) (mvT hZ (w44 hw)) (mvT hZ (w45 hw)) (mvT hZ (w46 hw)) (by decide) (backOf (W := 1) (rm_exp_32 l Z a0 hw [] q2 i0 i1 i2 m0 m1 p3 ln2 h184 n0 (Nat.le_trans Z0 sz185) hlq hp170) hZ (w46 hw) (w45 hw) (by decide) (by decide)) (g := (mkF m 214 #[iv p0, iv p1, .val (.long p2), .second, iv p3, iv p4, iv p5, iv 3, iv i0, iv i1, iv i2, iv m0, iv m1, iv p3, iv r_1, iv q2, iv ln2, rv b2, iv m1, iv m1] [(.int ln2), (.int p3), (.int m1), (.int m0), (.int i2), (.int i1), (.int i0), (.int 3), (.int q2), (.int m1)])) rfl (by rw [hml]; rfl) (argsL := [(.int q2), (.int 3), (.int i0), (.int i1), (.int i2), (.int m0), (.int m1), (.int p3), (.int ln2)]) (rest := [(.int m1)]) (lenOf pd_4 rfl) rfl (by show 2 * 0 + _ ≤ _; exact Nat.le_of_eq rfl) (hb hby at_214) (fun _ _ => ⟨rfl, e186, (by decide : 3 + 0 ≤ _), (by decide : 132 + 0 ≤ _)⟩)
          dsimp only [Pt.U, Pt.locs, Pt.cells, Pt.slots] at X187 lq187 yq187 zq187 st187 hQ187
          subst lq187 yq187 zq187
          obtain ⟨h187, e187⟩ : ∃ z, T187.heap = z := ⟨_, rfl⟩
          rw [e187] at hQ187
          obtain ⟨rfl, N187q, he187⟩ := hQ187
          have N187 := Fr.app N186 N187q
          rw [he187] at e187
          refine go_st st187 ?_
          show Go _ _ _ _ (T187.setTop (mkF m 217 #[iv p0, iv p1, .val (.long p2), .second, iv p3, iv p4, iv p5, iv 3, iv i0, iv i1, iv i2, iv m0, iv m1, iv p3, iv r_1, iv q2, iv ln2, rv b2, iv m1, iv m1] [(.int m1), (.int m1)]))
          refine go_st (fun t k => XS.icmpNo X187.here hx rfl (hb hby at_217) rfl (teq (rfl : m1 = m1)).2 k) ?_
          show Go _ _ _ _ (T187.setTop (mkF m 220 #[iv p0, iv p1, .val (.long p2), .second, iv p3, iv p4, iv p5, iv 3, iv i0, iv i1, iv i2, iv m0, iv m1, iv p3, iv r_1, iv q2, iv ln2, rv b2, iv m1, iv m1] []))
          refine go_st (fun t k => XS.iconst X187.here hx rfl (hb hby at_220) k) ?_
          refine go_st (fun t k => XS.goto X187.here hx rfl (pc0 := 221) (pc' := 225) rfl (hb hby at_221) (by decide) (by decide) k) ?_
          show Go _ _ _ _ (T187.setTop (mkF m 225 #[iv p0, iv p1, .val (.long p2), .second, iv p3, iv p4, iv p5, iv 3, iv i0, iv i1, iv i2, iv m0, iv m1, iv p3, iv r_1, iv q2, iv ln2, rv b2, iv m1, iv m1] [(.int 1)]))
          have ke188 : Keep h0 h2 [] := (Keep.ext (Keep.refl h0 []) E2)
          have ke189 : Keep h0 h7 [] := (Keep.trans ke188 K7 (allS (Or.inr (Nat.le_of_eq gq2.symm)) all0))
          have ke190 : Keep h0 h147 [] := (Keep.trans ke189 K147 (allS (Or.inr (Nat.le_of_eq gq2.symm)) (allS (Or.inr (Nat.le_trans E2.1 lf7_0)) (allS (Or.inr (Nat.le_trans E2.1 lf7_1)) all0))))
          have ke191 : Keep h0 h149 [] := (Keep.trans ke190 K149 (allS (Or.inr (Nat.le_of_eq gq2.symm)) (allS (Or.inr (Nat.le_trans E2.1 lf7_0)) (allS (Or.inr (Nat.le_trans E2.1 lf7_1)) all0))))
          have ke192 : Keep h0 h151 [] := (Keep.trans ke191 K151 (allS (Or.inr (Nat.le_of_eq gq2.symm)) (allS (Or.inr (Nat.le_trans E2.1 lf7_0)) (allS (Or.inr (Nat.le_trans E2.1 lf7_1)) all0))))
          have ke193 : Keep h0 h169 [] := (Keep.trans ke192 K169 (allS (Or.inr (Nat.le_of_eq gq2.symm)) all0))
          have ke194 : Keep h0 h184 [] := (Keep.trans ke193 K184 (allS (Or.inr (Nat.le_of_eq gq2.symm)) all0))
          obtain ⟨fs, hr, hrun, hended, hW, hsame⟩ := X187.leave (v := some (.int 1)) (fun h => by rw [Bd.returns] at h; cases h)
          refine ⟨_, _, ?_, hrun, hended, _, _, rfl, ?_, ⟨_, rfl⟩, hW, hsame.mono (by decide) (by decide)⟩
          · exact retN X187 hx (t := .boolean) Bd.returns (by simp) (hb hby at_225) hr
          · show Q_law _ _ _ _ _ _ _ _ _ _ T187.heap _
            rw [e187]
            exact ⟨rfl, N187, ke194⟩
      · skip
        by_cases hp195 : i0 < r_1
        · skip
          have sz196 : h0.size ≤ h151.size := (Nat.le_trans sz150 K151.1)
          obtain ⟨cq197, kq197, q197a, q197b, q197c⟩ := isOf hZ e151 p151_0
          obtain ⟨_, _, ⟨T197, L197, kk197, nn197⟩, -, X197, ⟨Lc197, hQ197, lq197, yq197, zq197⟩, st197⟩ := X151.virtualBack hx (y := (⟨"com/example/nudge/nudge/tree/BlockEntries", "lineBefore", "(II)I"⟩ : MethodName)) (z := (⟨"com/example/nudge/nudge/tree/BlockEntries", "lineBefore", "(II)I"⟩ : MethodName)) hown (mvT hZ (w26 hw)) (mvT hZ (w27 hw)) (notFace_of_selects (args := #[]) (mvT hZ (w29 hw))) (mvT hZ (w29 hw)) (mvT hZ (w28 hw)) (by decide) (backOf (W := 0) (rm_lb_031 l Z a0 hw [] b2 ax_7 al_7 kx_7 kl_7 r_1 p5 i0 i1 i2 m0 m1 p3 h151 n0 (Nat.le_trans Z0 sz196) p151_0 p151_1 p151_2 p151_3 p151_4 p151_5 p151_6 nq144 nq145 nx7_2 g_b2 s0 s1 hp195 hp167) hZ (w30 hw) (w7 hw) (by decide) (by decide)) q197a q197c (g := (mkF m 152 #[iv p0, iv p1, .val (.long p2), .second, iv p3, iv p4, iv p5, iv 3, iv i0, iv i1, iv i2, iv m0, iv m1, iv p3, iv r_1, iv q2, iv ln2, rv b2, .unset, .unset] [(.int p5), (.int r_1), (.ref b2)])) rfl (by rw [hml]; rfl) (Steps.refl _) (argsL := [(.int r_1), (.int p5)]) (rest := []) (lenOf pd_2 rfl) rfl (by show 2 * 0 + _ ≤ _; exact Nat.le_of_eq rfl) (hb hby at_152) (fun _ _ => ⟨rfl, e151, (by decide : 3 + 0 ≤ _), (by decide : 132 + 0 ≤ _)⟩)
          dsimp only [Pt.U, Pt.locs, Pt.cells, Pt.slots] at X197 lq197 yq197 zq197 st197 hQ197
          subst lq197 yq197 zq197
          obtain ⟨h197, e197⟩ : ∃ z, T197.heap = z := ⟨_, rfl⟩
          rw [e197] at hQ197
          obtain ⟨rfl, N197q, K197, p197_0, p197_1, p197_2, p197_3, p197_4, p197_5, p197_6⟩ := hQ197
          have N197 := Fr.app N151 N197q
          refine go_tr st197 ?_
          show Go _ _ _ _ (T197.setTop (mkF m 155 #[iv p0, iv p1, .val (.long p2), .second, iv p3, iv p4, iv p5, iv 3, iv i0, iv i1, iv i2, iv m0, iv m1, iv p3, iv r_1, iv q2, iv ln2, rv b2, .unset, .unset] [(.int m0)]))
          refine go_st (fun t k => XS.istore X197.here hx rfl (hb hby at_155) rfl (l' := #[iv p0, iv p1, .val (.long p2), .second, iv p3, iv p4, iv p5, iv 3, iv i0, iv i1, iv i2, iv m0, iv m1, iv p3, iv r_1, iv q2, iv ln2, rv b2, iv m0, .unset]) rfl k) ?_
          refine go_st (fun t k => XS.aload X197.here hx rfl (hb hby at_157) rfl rfl k) ?_
          refine go_st (fun t k => XS.iload X197.here hx rfl (hb hby at_159) rfl k) ?_
          refine go_st (fun t k => XS.iload X197.here hx rfl (hb hby at_161) rfl k) ?_
          show Go _ _ _ _ (T197.setTop (mkF m 163 #[iv p0, iv p1, .val (.long p2), .second, iv p3, iv p4, iv p5, iv 3, iv i0, iv i1, iv i2, iv m0, iv m1, iv p3, iv r_1, iv q2, iv ln2, rv b2, iv m0, .unset] [(.int ln2), (.int q2), (.ref b2)]))
          by_cases hp198 : i2 < q2
          · skip
            have sz199 : h0.size ≤ h197.size := (Nat.le_trans sz196 K197.1)
            obtain ⟨cq200, kq200, q200a, q200b, q200c⟩ := isOf hZ e197 p197_0
            obtain ⟨_, _, ⟨T200, L200, kk200, nn200⟩, -, X200, ⟨Lc200, hQ200, lq200, yq200, zq200⟩, st200⟩ := X197.virtualBack hx (y := (⟨"com/example/nudge/nudge/tree/BlockEntries", "lineBefore", "(II)I"⟩ : MethodName)) (z := (⟨"com/example/nudge/nudge/tree/BlockEntries", "lineBefore", "(II)I"⟩ : MethodName)) hown (mvT hZ (w26 hw)) (mvT hZ (w27 hw)) (notFace_of_selects (args := #[]) (mvT hZ (w29 hw))) (mvT hZ (w29 hw)) (mvT hZ (w28 hw)) (by decide) (backOf (W := 0) (rm_lb_033 l Z a0 hw [] b2 ax_7 al_7 kx_7 kl_7 q2 ln2 i0 i1 i2 m0 m1 p3 h197 n0 (Nat.le_trans Z0 sz199) p197_0 p197_1 p197_2 p197_3 p197_4 p197_5 p197_6 nq144 nq145 nx7_2 g_b2 s0 s1 hp198) hZ (w30 hw) (w7 hw) (by decide) (by decide)) q200a q200c (g := (mkF m 163 #[iv p0, iv p1, .val (.long p2), .second, iv p3, iv p4, iv p5, iv 3, iv i0, iv i1, iv i2, iv m0, iv m1, iv p3, iv r_1, iv q2, iv ln2, rv b2, iv m0, .unset] [(.int ln2), (.int q2), (.ref b2)])) rfl (by rw [hml]; rfl) (Steps.refl _) (argsL := [(.int q2), (.int ln2)]) (rest := []) (lenOf pd_2 rfl) rfl (by show 2 * 0 + _ ≤ _; exact Nat.le_of_eq rfl) (hb hby at_163) (fun _ _ => ⟨rfl, e197, (by decide : 3 + 0 ≤ _), (by decide : 132 + 0 ≤ _)⟩)
            dsimp only [Pt.U, Pt.locs, Pt.cells, Pt.slots] at X200 lq200 yq200 zq200 st200 hQ200
            subst lq200 yq200 zq200
            obtain ⟨h200, e200⟩ : ∃ z, T200.heap = z := ⟨_, rfl⟩
            rw [e200] at hQ200
            obtain ⟨rfl, N200q, K200, p200_0, p200_1, p200_2, p200_3, p200_4, p200_5, p200_6⟩ := hQ200
            have N200 := Fr.app N197 N200q
            refine go_tr st200 ?_
            show Go _ _ _ _ (T200.setTop (mkF m 166 #[iv p0, iv p1, .val (.long p2), .second, iv p3, iv p4, iv p5, iv 3, iv i0, iv i1, iv i2, iv m0, iv m1, iv p3, iv r_1, iv q2, iv ln2, rv b2, iv m0, .unset] [(.int p3)]))
            refine go_st (fun t k => XS.istore X200.here hx rfl (hb hby at_166) rfl (l' := #[iv p0, iv p1, .val (.long p2), .second, iv p3, iv p4, iv p5, iv 3, iv i0, iv i1, iv i2, iv m0, iv m1, iv p3, iv r_1, iv q2, iv ln2, rv b2, iv m0, iv p3]) rfl k) ?_
            refine go_st (fun t k => XS.iload X200.here hx rfl (hb hby at_168) rfl k) ?_
            refine go_st (fun t k => XS.iload X200.here hx rfl (hb hby at_170) rfl k) ?_
            refine go_st (fun t k => XS.iload X200.here hx rfl (hb hby at_172) rfl k) ?_
            refine go_st (fun t k => XS.iload X200.here hx rfl (hb hby at_174) rfl k) ?_
            refine go_st (fun t k => XS.iload X200.here hx rfl (hb hby at_176) rfl k) ?_
            refine go_st (fun t k => XS.iload X200.here hx rfl (hb hby at_178) rfl k) ?_
            refine go_st (fun t k => XS.iload X200.here hx rfl (hb hby at_180) rfl k) ?_
            refine go_st (fun t k => XS.iload X200.here hx rfl (hb hby at_182) rfl k) ?_
            refine go_st (fun t k => XS.iload X200.here hx rfl (hb hby at_184) rfl k) ?_
            refine go_st (fun t k => XS.iload X200.here hx rfl (hb hby at_186) rfl k) ?_
            show Go _ _ _ _ (T200.setTop (mkF m 188 #[iv p0, iv p1, .val (.long p2), .second, iv p3, iv p4, iv p5, iv 3, iv i0, iv i1, iv i2, iv m0, iv m1, iv p3, iv r_1, iv q2, iv ln2, rv b2, iv m0, iv p3] [(.int p5), (.int p3), (.int m1), (.int m0), (.int i2), (.int i1), (.int i0), (.int 3), (.int r_1), (.int m0)]))
            have sz201 : h0.size ≤ h200.size := (Nat.le_trans sz199 K200.1)
            obtain ⟨_, _, ⟨T202, L202, kk202, nn202⟩, -, X202, ⟨Lc202, hQ202, lq202, yq202, zq202⟩, st202⟩ := Jvm.LawKit.callS X200 hx (y := (⟨"com/example/nudge/nudge/tree/BlockEntriesLineBeforePinLaw", "expected", "(IIIIIIIII)I"⟩ : MethodName)) hown (mvT hZ (w43 hw)) (mvT hZ (w44 hw)) (mvT hZ (w45 hw)) (mvT hZ (w46 hw)) (by decide) (backOf (W := 1) (rm_exp_31 l Z a0 hw [] r_1 i0 i1 i2 m0 m1 p3 p5 h200 n0 (Nat.le_trans Z0 sz201) hp195 hp167 hp152) hZ (w46 hw) (w45 hw) (by decide) (by decide)) (g := (mkF m 188 #[iv p0, iv p1, .val (.long p2), .second, iv p3, iv p4, iv p5, iv 3, iv i0, iv i1, iv i2, iv m0, iv m1, iv p3, iv r_1, iv q2, iv ln2, rv b2, iv m0, iv p3] [(.int p5), (.int p3), (.int m1), (.int m0), (.int i2), (.int i1), (.int i0), (.int 3), (.int r_1), (.int m0)])) rfl (by rw [hml]; rfl) (argsL := [(.int r_1), (.int 3), (.int i0), (.int i1), (.int i2), (.int m0), (.int m1), (.int p3), (.int p5)]) (rest := [(.int m0)]) (lenOf pd_4 rfl) rfl (by show 2 * 0 + _ ≤ _; exact Nat.le_of_eq rfl) (hb hby at_188) (fun _ _ => ⟨rfl, e200, (by decide : 3 + 0 ≤ _), (by decide : 132 + 0 ≤ _)⟩)
            dsimp only [Pt.U, Pt.locs, Pt.cells, Pt.slots] at X202 lq202 yq202 zq202 st202 hQ202
            subst lq202 yq202 zq202
            obtain ⟨h202, e202⟩ : ∃ z, T202.heap = z := ⟨_, rfl⟩
            rw [e202] at hQ202
            obtain ⟨rfl, N202q, he202⟩ := hQ202
            have N202 := Fr.app N200 N202q
            rw [he202] at e202
            refine go_st st202 ?_
            show Go _ _ _ _ (T202.setTop (mkF m 191 #[iv p0, iv p1, .val (.long p2), .second, iv p3, iv p4, iv p5, iv 3, iv i0, iv i1, iv i2, iv m0, iv m1, iv p3, iv r_1, iv q2, iv ln2, rv b2, iv m0, iv p3] [(.int m0), (.int m0)]))
            refine go_st (fun t k => XS.icmpNo X202.here hx rfl (hb hby at_191) rfl (teq (rfl : m0 = m0)).2 k) ?_
            show Go _ _ _ _ (T202.setTop (mkF m 194 #[iv p0, iv p1, .val (.long p2), .second, iv p3, iv p4, iv p5, iv 3, iv i0, iv i1, iv i2, iv m0, iv m1, iv p3, iv r_1, iv q2, iv ln2, rv b2, iv m0, iv p3] []))
            refine go_st (fun t k => XS.iload X202.here hx rfl (hb hby at_194) rfl k) ?_
            refine go_st (fun t k => XS.iload X202.here hx rfl (hb hby at_196) rfl k) ?_
            refine go_st (fun t k => XS.iload X202.here hx rfl (hb hby at_198) rfl k) ?_
            refine go_st (fun t k => XS.iload X202.here hx rfl (hb hby at_200) rfl k) ?_
            refine go_st (fun t k => XS.iload X202.here hx rfl (hb hby at_202) rfl k) ?_
            refine go_st (fun t k => XS.iload X202.here hx rfl (hb hby at_204) rfl k) ?_
            refine go_st (fun t k => XS.iload X202.here hx rfl (hb hby at_206) rfl k) ?_
            refine go_st (fun t k => XS.iload X202.here hx rfl (hb hby at_208) rfl k) ?_
            refine go_st (fun t k => XS.iload X202.here hx rfl (hb hby at_210) rfl k) ?_
            refine go_st (fun t k => XS.iload X202.here hx rfl (hb hby at_212) rfl k) ?_
            show Go _ _ _ _ (T202.setTop (mkF m 214 #[iv p0, iv p1, .val (.long p2), .second, iv p3, iv p4, iv p5, iv 3, iv i0, iv i1, iv i2, iv m0, iv m1, iv p3, iv r_1, iv q2, iv ln2, rv b2, iv m0, iv p3] [(.int ln2), (.int p3), (.int m1), (.int m0), (.int i2), (.int i1), (.int i0), (.int 3), (.int q2), (.int p3)]))
            obtain ⟨_, _, ⟨T203, L203, kk203, nn203⟩, -, X203, ⟨Lc203, hQ203, lq203, yq203, zq203⟩, st203⟩ := Jvm.LawKit.callS X202 hx (y := (⟨"com/example/nudge/nudge/tree/BlockEntriesLineBeforePinLaw", "expected", "(IIIIIIIII)I"⟩ : MethodName)) hown (mvT hZ (w43 hw)) (mvT hZ (w44 hw)) (mvT hZ (w45 hw)) (mvT hZ (w46 hw)) (by decide) (backOf (W := 1) (rm_exp_33 l Z a0 hw [] q2 i0 i1 i2 m0 m1 p3 ln2 h200 n0 (Nat.le_trans Z0 sz201) hp198) hZ (w46 hw) (w45 hw) (by decide) (by decide)) (g := (mkF m 214 #[iv p0, iv p1, .val (.long p2), .second, iv p3, iv p4, iv p5, iv 3, iv i0, iv i1, iv i2, iv m0, iv m1, iv p3, iv r_1, iv q2, iv ln2, rv b2, iv m0, iv p3] [(.int ln2), (.int p3), (.int m1), (.int m0), (.int i2), (.int i1), (.int i0), (.int 3), (.int q2), (.int p3)])) rfl (by rw [hml]; rfl) (argsL := [(.int q2), (.int 3), (.int i0), (.int i1), (.int i2), (.int m0), (.int m1), (.int p3), (.int ln2)]) (rest := [(.int p3)]) (lenOf pd_4 rfl) rfl (by show 2 * 0 + _ ≤ _; exact Nat.le_of_eq rfl) (hb hby at_214) (fun _ _ => ⟨rfl, e202, (by decide : 3 + 0 ≤ _), (by decide : 132 + 0 ≤ _)⟩)
            dsimp only [Pt.U, Pt.locs, Pt.cells, Pt.slots] at X203 lq203 yq203 zq203 st203 hQ203
            subst lq203 yq203 zq203
            obtain ⟨h203, e203⟩ : ∃ z, T203.heap = z := ⟨_, rfl⟩
            rw [e203] at hQ203
            obtain ⟨rfl, N203q, he203⟩ := hQ203
            have N203 := Fr.app N202 N203q
            rw [he203] at e203
            refine go_st st203 ?_
            show Go _ _ _ _ (T203.setTop (mkF m 217 #[iv p0, iv p1, .val (.long p2), .second, iv p3, iv p4, iv p5, iv 3, iv i0, iv i1, iv i2, iv m0, iv m1, iv p3, iv r_1, iv q2, iv ln2, rv b2, iv m0, iv p3] [(.int p3), (.int p3)]))
            refine go_st (fun t k => XS.icmpNo X203.here hx rfl (hb hby at_217) rfl (teq (rfl : p3 = p3)).2 k) ?_
            show Go _ _ _ _ (T203.setTop (mkF m 220 #[iv p0, iv p1, .val (.long p2), .second, iv p3, iv p4, iv p5, iv 3, iv i0, iv i1, iv i2, iv m0, iv m1, iv p3, iv r_1, iv q2, iv ln2, rv b2, iv m0, iv p3] []))
            refine go_st (fun t k => XS.iconst X203.here hx rfl (hb hby at_220) k) ?_
            refine go_st (fun t k => XS.goto X203.here hx rfl (pc0 := 221) (pc' := 225) rfl (hb hby at_221) (by decide) (by decide) k) ?_
            show Go _ _ _ _ (T203.setTop (mkF m 225 #[iv p0, iv p1, .val (.long p2), .second, iv p3, iv p4, iv p5, iv 3, iv i0, iv i1, iv i2, iv m0, iv m1, iv p3, iv r_1, iv q2, iv ln2, rv b2, iv m0, iv p3] [(.int 1)]))
            have ke204 : Keep h0 h2 [] := (Keep.ext (Keep.refl h0 []) E2)
            have ke205 : Keep h0 h7 [] := (Keep.trans ke204 K7 (allS (Or.inr (Nat.le_of_eq gq2.symm)) all0))
            have ke206 : Keep h0 h147 [] := (Keep.trans ke205 K147 (allS (Or.inr (Nat.le_of_eq gq2.symm)) (allS (Or.inr (Nat.le_trans E2.1 lf7_0)) (allS (Or.inr (Nat.le_trans E2.1 lf7_1)) all0))))
            have ke207 : Keep h0 h149 [] := (Keep.trans ke206 K149 (allS (Or.inr (Nat.le_of_eq gq2.symm)) (allS (Or.inr (Nat.le_trans E2.1 lf7_0)) (allS (Or.inr (Nat.le_trans E2.1 lf7_1)) all0))))
            have ke208 : Keep h0 h151 [] := (Keep.trans ke207 K151 (allS (Or.inr (Nat.le_of_eq gq2.symm)) (allS (Or.inr (Nat.le_trans E2.1 lf7_0)) (allS (Or.inr (Nat.le_trans E2.1 lf7_1)) all0))))
            have ke209 : Keep h0 h197 [] := (Keep.trans ke208 K197 (allS (Or.inr (Nat.le_of_eq gq2.symm)) all0))
            have ke210 : Keep h0 h200 [] := (Keep.trans ke209 K200 (allS (Or.inr (Nat.le_of_eq gq2.symm)) all0))
            obtain ⟨fs, hr, hrun, hended, hW, hsame⟩ := X203.leave (v := some (.int 1)) (fun h => by rw [Bd.returns] at h; cases h)
            refine ⟨_, _, ?_, hrun, hended, _, _, rfl, ?_, ⟨_, rfl⟩, hW, hsame.mono (by decide) (by decide)⟩
            · exact retN X203 hx (t := .boolean) Bd.returns (by simp) (hb hby at_225) hr
            · show Q_law _ _ _ _ _ _ _ _ _ _ T203.heap _
              rw [e203]
              exact ⟨rfl, N203, ke210⟩
          · skip
            by_cases hp211 : i1 < q2
            · skip
              have sz212 : h0.size ≤ h197.size := (Nat.le_trans sz196 K197.1)
              obtain ⟨cq213, kq213, q213a, q213b, q213c⟩ := isOf hZ e197 p197_0
              obtain ⟨_, _, ⟨T213, L213, kk213, nn213⟩, -, X213, ⟨Lc213, hQ213, lq213, yq213, zq213⟩, st213⟩ := X197.virtualBack hx (y := (⟨"com/example/nudge/nudge/tree/BlockEntries", "lineBefore", "(II)I"⟩ : MethodName)) (z := (⟨"com/example/nudge/nudge/tree/BlockEntries", "lineBefore", "(II)I"⟩ : MethodName)) hown (mvT hZ (w26 hw)) (mvT hZ (w27 hw)) (notFace_of_selects (args := #[]) (mvT hZ (w29 hw))) (mvT hZ (w29 hw)) (mvT hZ (w28 hw)) (by decide) (backOf (W := 0) (rm_lb_032 l Z a0 hw [] b2 ax_7 al_7 kx_7 kl_7 q2 ln2 i0 i1 i2 m0 m1 p3 h197 n0 (Nat.le_trans Z0 sz212) p197_0 p197_1 p197_2 p197_3 p197_4 p197_5 p197_6 nq144 nq145 nx7_2 g_b2 s0 s1 hp211 hp198) hZ (w30 hw) (w7 hw) (by decide) (by decide)) q213a q213c (g := (mkF m 163 #[iv p0, iv p1, .val (.long p2), .second, iv p3, iv p4, iv p5, iv 3, iv i0, iv i1, iv i2, iv m0, iv m1, iv p3, iv r_1, iv q2, iv ln2, rv b2, iv m0, .unset] [(.int ln2), (.int q2), (.ref b2)])) rfl (by rw [hml]; rfl) (Steps.refl _) (argsL := [(.int q2), (.int ln2)]) (rest := []) (lenOf pd_2 rfl) rfl (by show 2 * 0 + _ ≤ _; exact Nat.le_of_eq rfl) (hb hby at_163) (fun _ _ => ⟨rfl, e197, (by decide : 3 + 0 ≤ _), (by decide : 132 + 0 ≤ _)⟩)
              dsimp only [Pt.U, Pt.locs, Pt.cells, Pt.slots] at X213 lq213 yq213 zq213 st213 hQ213
              subst lq213 yq213 zq213
              obtain ⟨h213, e213⟩ : ∃ z, T213.heap = z := ⟨_, rfl⟩
              rw [e213] at hQ213
              obtain ⟨rfl, N213q, K213, p213_0, p213_1, p213_2, p213_3, p213_4, p213_5, p213_6⟩ := hQ213
              have N213 := Fr.app N197 N213q
              refine go_tr st213 ?_
              show Go _ _ _ _ (T213.setTop (mkF m 166 #[iv p0, iv p1, .val (.long p2), .second, iv p3, iv p4, iv p5, iv 3, iv i0, iv i1, iv i2, iv m0, iv m1, iv p3, iv r_1, iv q2, iv ln2, rv b2, iv m0, .unset] [(.int m1)]))
              refine go_st (fun t k => XS.istore X213.here hx rfl (hb hby at_166) rfl (l' := #[iv p0, iv p1, .val (.long p2), .second, iv p3, iv p4, iv p5, iv 3, iv i0, iv i1, iv i2, iv m0, iv m1, iv p3, iv r_1, iv q2, iv ln2, rv b2, iv m0, iv m1]) rfl k) ?_
              refine go_st (fun t k => XS.iload X213.here hx rfl (hb hby at_168) rfl k) ?_
              refine go_st (fun t k => XS.iload X213.here hx rfl (hb hby at_170) rfl k) ?_
              refine go_st (fun t k => XS.iload X213.here hx rfl (hb hby at_172) rfl k) ?_
              refine go_st (fun t k => XS.iload X213.here hx rfl (hb hby at_174) rfl k) ?_
              refine go_st (fun t k => XS.iload X213.here hx rfl (hb hby at_176) rfl k) ?_
              refine go_st (fun t k => XS.iload X213.here hx rfl (hb hby at_178) rfl k) ?_
              refine go_st (fun t k => XS.iload X213.here hx rfl (hb hby at_180) rfl k) ?_
              refine go_st (fun t k => XS.iload X213.here hx rfl (hb hby at_182) rfl k) ?_
              refine go_st (fun t k => XS.iload X213.here hx rfl (hb hby at_184) rfl k) ?_
              refine go_st (fun t k => XS.iload X213.here hx rfl (hb hby at_186) rfl k) ?_
              show Go _ _ _ _ (T213.setTop (mkF m 188 #[iv p0, iv p1, .val (.long p2), .second, iv p3, iv p4, iv p5, iv 3, iv i0, iv i1, iv i2, iv m0, iv m1, iv p3, iv r_1, iv q2, iv ln2, rv b2, iv m0, iv m1] [(.int p5), (.int p3), (.int m1), (.int m0), (.int i2), (.int i1), (.int i0), (.int 3), (.int r_1), (.int m0)]))
              have sz214 : h0.size ≤ h213.size := (Nat.le_trans sz212 K213.1)
              obtain ⟨_, _, ⟨T215, L215, kk215, nn215⟩, -, X215, ⟨Lc215, hQ215, lq215, yq215, zq215⟩, st215⟩ := Jvm.LawKit.callS X213 hx (y := (⟨"com/example/nudge/nudge/tree/BlockEntriesLineBeforePinLaw", "expected", "(IIIIIIIII)I"⟩ : MethodName)) hown (mvT hZ (w43 hw)) (mvT hZ (w44 hw)) (mvT hZ (w45 hw)) (mvT hZ (w46 hw)) (by decide) (backOf (W := 1) (rm_exp_31 l Z a0 hw [] r_1 i0 i1 i2 m0 m1 p3 p5 h213 n0 (Nat.le_trans Z0 sz214) hp195 hp167 hp152) hZ (w46 hw) (w45 hw) (by decide) (by decide)) (g := (mkF m 188 #[iv p0, iv p1, .val (.long p2), .second, iv p3, iv p4, iv p5, iv 3, iv i0, iv i1, iv i2, iv m0, iv m1, iv p3, iv r_1, iv q2, iv ln2, rv b2, iv m0, iv m1] [(.int p5), (.int p3), (.int m1), (.int m0), (.int i2), (.int i1), (.int i0), (.int 3), (.int r_1), (.int m0)])) rfl (by rw [hml]; rfl) (argsL := [(.int r_1), (.int 3), (.int i0), (.int i1), (.int i2), (.int m0), (.int m1), (.int p3), (.int p5)]) (rest := [(.int m0)]) (lenOf pd_4 rfl) rfl (by show 2 * 0 + _ ≤ _; exact Nat.le_of_eq rfl) (hb hby at_188) (fun _ _ => ⟨rfl, e213, (by decide : 3 + 0 ≤ _), (by decide : 132 + 0 ≤ _)⟩)
              dsimp only [Pt.U, Pt.locs, Pt.cells, Pt.slots] at X215 lq215 yq215 zq215 st215 hQ215
              subst lq215 yq215 zq215
              obtain ⟨h215, e215⟩ : ∃ z, T215.heap = z := ⟨_, rfl⟩
              rw [e215] at hQ215
              obtain ⟨rfl, N215q, he215⟩ := hQ215
              have N215 := Fr.app N213 N215q
              rw [he215] at e215
              refine go_st st215 ?_
              show Go _ _ _ _ (T215.setTop (mkF m 191 #[iv p0, iv p1, .val (.long p2), .second, iv p3, iv p4, iv p5, iv 3, iv i0, iv i1, iv i2, iv m0, iv m1, iv p3, iv r_1, iv q2, iv ln2, rv b2, iv m0, iv m1] [(.int m0), (.int m0)]))
              refine go_st (fun t k => XS.icmpNo X215.here hx rfl (hb hby at_191) rfl (teq (rfl : m0 = m0)).2 k) ?_
              show Go _ _ _ _ (T215.setTop (mkF m 194 #[iv p0, iv p1, .val (.long p2), .second, iv p3, iv p4, iv p5, iv 3, iv i0, iv i1, iv i2, iv m0, iv m1, iv p3, iv r_1, iv q2, iv ln2, rv b2, iv m0, iv m1] []))
              refine go_st (fun t k => XS.iload X215.here hx rfl (hb hby at_194) rfl k) ?_
              refine go_st (fun t k => XS.iload X215.here hx rfl (hb hby at_196) rfl k) ?_
              refine go_st (fun t k => XS.iload X215.here hx rfl (hb hby at_198) rfl k) ?_
              refine go_st (fun t k => XS.iload X215.here hx rfl (hb hby at_200) rfl k) ?_
              refine go_st (fun t k => XS.iload X215.here hx rfl (hb hby at_202) rfl k) ?_
              refine go_st (fun t k => XS.iload X215.here hx rfl (hb hby at_204) rfl k) ?_
              refine go_st (fun t k => XS.iload X215.here hx rfl (hb hby at_206) rfl k) ?_
              refine go_st (fun t k => XS.iload X215.here hx rfl (hb hby at_208) rfl k) ?_
              refine go_st (fun t k => XS.iload X215.here hx rfl (hb hby at_210) rfl k) ?_
              refine go_st (fun t k => XS.iload X215.here hx rfl (hb hby at_212) rfl k) ?_
              show Go _ _ _ _ (T215.setTop (mkF m 214 #[iv p0, iv p1, .val (.long p2), .second, iv p3, iv p4, iv p5, iv 3, iv i0, iv i1, iv i2, iv m0, iv m1, iv p3, iv r_1, iv q2, iv ln2, rv b2, iv m0, iv m1] [(.int ln2), (.int p3), (.int m1), (.int m0), (.int i2), (.int i1), (.int i0), (.int 3), (.int q2), (.int m1)]))
              obtain ⟨_, _, ⟨T216, L216, kk216, nn216⟩, -, X216, ⟨Lc216, hQ216, lq216, yq216, zq216⟩, st216⟩ := Jvm.LawKit.callS X215 hx (y := (⟨"com/example/nudge/nudge/tree/BlockEntriesLineBeforePinLaw", "expected", "(IIIIIIIII)I"⟩ : MethodName)) hown (mvT hZ (w43 hw)) (mvT hZ (w44 hw)) (mvT hZ (w45 hw)) (mvT hZ (w46 hw)) (by decide) (backOf (W := 1) (rm_exp_32 l Z a0 hw [] q2 i0 i1 i2 m0 m1 p3 ln2 h213 n0 (Nat.le_trans Z0 sz214) hp211 hp198) hZ (w46 hw) (w45 hw) (by decide) (by decide)) (g := (mkF m 214 #[iv p0, iv p1, .val (.long p2), .second, iv p3, iv p4, iv p5, iv 3, iv i0, iv i1, iv i2, iv m0, iv m1, iv p3, iv r_1, iv q2, iv ln2, rv b2, iv m0, iv m1] [(.int ln2), (.int p3), (.int m1), (.int m0), (.int i2), (.int i1), (.int i0), (.int 3), (.int q2), (.int m1)])) rfl (by rw [hml]; rfl) (argsL := [(.int q2), (.int 3), (.int i0), (.int i1), (.int i2), (.int m0), (.int m1), (.int p3), (.int ln2)]) (rest := [(.int m1)]) (lenOf pd_4 rfl) rfl (by show 2 * 0 + _ ≤ _; exact Nat.le_of_eq rfl) (hb hby at_214) (fun _ _ => ⟨rfl, e215, (by decide : 3 + 0 ≤ _), (by decide : 132 + 0 ≤ _)⟩)
              dsimp only [Pt.U, Pt.locs, Pt.cells, Pt.slots] at X216 lq216 yq216 zq216 st216 hQ216
              subst lq216 yq216 zq216
              obtain ⟨h216, e216⟩ : ∃ z, T216.heap = z := ⟨_, rfl⟩
              rw [e216] at hQ216
              obtain ⟨rfl, N216q, he216⟩ := hQ216
              have N216 := Fr.app N215 N216q
              rw [he216] at e216
              refine go_st st216 ?_
              show Go _ _ _ _ (T216.setTop (mkF m 217 #[iv p0, iv p1, .val (.long p2), .second, iv p3, iv p4, iv p5, iv 3, iv i0, iv i1, iv i2, iv m0, iv m1, iv p3, iv r_1, iv q2, iv ln2, rv b2, iv m0, iv m1] [(.int m1), (.int m1)]))
              refine go_st (fun t k => XS.icmpNo X216.here hx rfl (hb hby at_217) rfl (teq (rfl : m1 = m1)).2 k) ?_
              show Go _ _ _ _ (T216.setTop (mkF m 220 #[iv p0, iv p1, .val (.long p2), .second, iv p3, iv p4, iv p5, iv 3, iv i0, iv i1, iv i2, iv m0, iv m1, iv p3, iv r_1, iv q2, iv ln2, rv b2, iv m0, iv m1] []))
              refine go_st (fun t k => XS.iconst X216.here hx rfl (hb hby at_220) k) ?_
              refine go_st (fun t k => XS.goto X216.here hx rfl (pc0 := 221) (pc' := 225) rfl (hb hby at_221) (by decide) (by decide) k) ?_
              show Go _ _ _ _ (T216.setTop (mkF m 225 #[iv p0, iv p1, .val (.long p2), .second, iv p3, iv p4, iv p5, iv 3, iv i0, iv i1, iv i2, iv m0, iv m1, iv p3, iv r_1, iv q2, iv ln2, rv b2, iv m0, iv m1] [(.int 1)]))
              have ke217 : Keep h0 h2 [] := (Keep.ext (Keep.refl h0 []) E2)
              have ke218 : Keep h0 h7 [] := (Keep.trans ke217 K7 (allS (Or.inr (Nat.le_of_eq gq2.symm)) all0))
              have ke219 : Keep h0 h147 [] := (Keep.trans ke218 K147 (allS (Or.inr (Nat.le_of_eq gq2.symm)) (allS (Or.inr (Nat.le_trans E2.1 lf7_0)) (allS (Or.inr (Nat.le_trans E2.1 lf7_1)) all0))))
              have ke220 : Keep h0 h149 [] := (Keep.trans ke219 K149 (allS (Or.inr (Nat.le_of_eq gq2.symm)) (allS (Or.inr (Nat.le_trans E2.1 lf7_0)) (allS (Or.inr (Nat.le_trans E2.1 lf7_1)) all0))))
              have ke221 : Keep h0 h151 [] := (Keep.trans ke220 K151 (allS (Or.inr (Nat.le_of_eq gq2.symm)) (allS (Or.inr (Nat.le_trans E2.1 lf7_0)) (allS (Or.inr (Nat.le_trans E2.1 lf7_1)) all0))))
              have ke222 : Keep h0 h197 [] := (Keep.trans ke221 K197 (allS (Or.inr (Nat.le_of_eq gq2.symm)) all0))
              have ke223 : Keep h0 h213 [] := (Keep.trans ke222 K213 (allS (Or.inr (Nat.le_of_eq gq2.symm)) all0))
              obtain ⟨fs, hr, hrun, hended, hW, hsame⟩ := X216.leave (v := some (.int 1)) (fun h => by rw [Bd.returns] at h; cases h)
              refine ⟨_, _, ?_, hrun, hended, _, _, rfl, ?_, ⟨_, rfl⟩, hW, hsame.mono (by decide) (by decide)⟩
              · exact retN X216 hx (t := .boolean) Bd.returns (by simp) (hb hby at_225) hr
              · show Q_law _ _ _ _ _ _ _ _ _ _ T216.heap _
                rw [e216]
                exact ⟨rfl, N216, ke223⟩
            · skip
              have hlq : i0 < q2 := pl_lt (by have := pl_of hp195; omega)
              have sz224 : h0.size ≤ h197.size := (Nat.le_trans sz196 K197.1)
              obtain ⟨cq225, kq225, q225a, q225b, q225c⟩ := isOf hZ e197 p197_0
              obtain ⟨_, _, ⟨T225, L225, kk225, nn225⟩, -, X225, ⟨Lc225, hQ225, lq225, yq225, zq225⟩, st225⟩ := X197.virtualBack hx (y := (⟨"com/example/nudge/nudge/tree/BlockEntries", "lineBefore", "(II)I"⟩ : MethodName)) (z := (⟨"com/example/nudge/nudge/tree/BlockEntries", "lineBefore", "(II)I"⟩ : MethodName)) hown (mvT hZ (w26 hw)) (mvT hZ (w27 hw)) (notFace_of_selects (args := #[]) (mvT hZ (w29 hw))) (mvT hZ (w29 hw)) (mvT hZ (w28 hw)) (by decide) (backOf (W := 0) (rm_lb_031 l Z a0 hw [] b2 ax_7 al_7 kx_7 kl_7 q2 ln2 i0 i1 i2 m0 m1 p3 h197 n0 (Nat.le_trans Z0 sz224) p197_0 p197_1 p197_2 p197_3 p197_4 p197_5 p197_6 nq144 nq145 nx7_2 g_b2 s0 s1 hlq hp211) hZ (w30 hw) (w7 hw) (by decide) (by decide)) q225a q225c (g := (mkF m 163 #[iv p0, iv p1, .val (.long p2), .second, iv p3, iv p4, iv p5, iv 3, iv i0, iv i1, iv i2, iv m0, iv m1, iv p3, iv r_1, iv q2, iv ln2, rv b2, iv m0, .unset] [(.int ln2), (.int q2), (.ref b2)])) rfl (by rw [hml]; rfl) (Steps.refl _) (argsL := [(.int q2), (.int ln2)]) (rest := []) (lenOf pd_2 rfl) rfl (by show 2 * 0 + _ ≤ _; exact Nat.le_of_eq rfl) (hb hby at_163) (fun _ _ => ⟨rfl, e197, (by decide : 3 + 0 ≤ _), (by decide : 132 + 0 ≤ _)⟩)
              dsimp only [Pt.U, Pt.locs, Pt.cells, Pt.slots] at X225 lq225 yq225 zq225 st225 hQ225
              subst lq225 yq225 zq225
              obtain ⟨h225, e225⟩ : ∃ z, T225.heap = z := ⟨_, rfl⟩
              rw [e225] at hQ225
              obtain ⟨rfl, N225q, K225, p225_0, p225_1, p225_2, p225_3, p225_4, p225_5, p225_6⟩ := hQ225
              have N225 := Fr.app N197 N225q
              refine go_tr st225 ?_
              show Go _ _ _ _ (T225.setTop (mkF m 166 #[iv p0, iv p1, .val (.long p2), .second, iv p3, iv p4, iv p5, iv 3, iv i0, iv i1, iv i2, iv m0, iv m1, iv p3, iv r_1, iv q2, iv ln2, rv b2, iv m0, .unset] [(.int m0)]))
              refine go_st (fun t k => XS.istore X225.here hx rfl (hb hby at_166) rfl (l' := #[iv p0, iv p1, .val (.long p2), .second, iv p3, iv p4, iv p5, iv 3, iv i0, iv i1, iv i2, iv m0, iv m1, iv p3, iv r_1, iv q2, iv ln2, rv b2, iv m0, iv m0]) rfl k) ?_
              refine go_st (fun t k => XS.iload X225.here hx rfl (hb hby at_168) rfl k) ?_
              refine go_st (fun t k => XS.iload X225.here hx rfl (hb hby at_170) rfl k) ?_
              refine go_st (fun t k => XS.iload X225.here hx rfl (hb hby at_172) rfl k) ?_
              refine go_st (fun t k => XS.iload X225.here hx rfl (hb hby at_174) rfl k) ?_
              refine go_st (fun t k => XS.iload X225.here hx rfl (hb hby at_176) rfl k) ?_
              refine go_st (fun t k => XS.iload X225.here hx rfl (hb hby at_178) rfl k) ?_
              refine go_st (fun t k => XS.iload X225.here hx rfl (hb hby at_180) rfl k) ?_
              refine go_st (fun t k => XS.iload X225.here hx rfl (hb hby at_182) rfl k) ?_
              refine go_st (fun t k => XS.iload X225.here hx rfl (hb hby at_184) rfl k) ?_
              refine go_st (fun t k => XS.iload X225.here hx rfl (hb hby at_186) rfl k) ?_
              show Go _ _ _ _ (T225.setTop (mkF m 188 #[iv p0, iv p1, .val (.long p2), .second, iv p3, iv p4, iv p5, iv 3, iv i0, iv i1, iv i2, iv m0, iv m1, iv p3, iv r_1, iv q2, iv ln2, rv b2, iv m0, iv m0] [(.int p5), (.int p3), (.int m1), (.int m0), (.int i2), (.int i1), (.int i0), (.int 3), (.int r_1), (.int m0)]))
              have sz226 : h0.size ≤ h225.size := (Nat.le_trans sz224 K225.1)
              obtain ⟨_, _, ⟨T227, L227, kk227, nn227⟩, -, X227, ⟨Lc227, hQ227, lq227, yq227, zq227⟩, st227⟩ := Jvm.LawKit.callS X225 hx (y := (⟨"com/example/nudge/nudge/tree/BlockEntriesLineBeforePinLaw", "expected", "(IIIIIIIII)I"⟩ : MethodName)) hown (mvT hZ (w43 hw)) (mvT hZ (w44 hw)) (mvT hZ (w45 hw)) (mvT hZ (w46 hw)) (by decide) (backOf (W := 1) (rm_exp_31 l Z a0 hw [] r_1 i0 i1 i2 m0 m1 p3 p5 h225 n0 (Nat.le_trans Z0 sz226) hp195 hp167 hp152) hZ (w46 hw) (w45 hw) (by decide) (by decide)) (g := (mkF m 188 #[iv p0, iv p1, .val (.long p2), .second, iv p3, iv p4, iv p5, iv 3, iv i0, iv i1, iv i2, iv m0, iv m1, iv p3, iv r_1, iv q2, iv ln2, rv b2, iv m0, iv m0] [(.int p5), (.int p3), (.int m1), (.int m0), (.int i2), (.int i1), (.int i0), (.int 3), (.int r_1), (.int m0)])) rfl (by rw [hml]; rfl) (argsL := [(.int r_1), (.int 3), (.int i0), (.int i1), (.int i2), (.int m0), (.int m1), (.int p3), (.int p5)]) (rest := [(.int m0)]) (lenOf pd_4 rfl) rfl (by show 2 * 0 + _ ≤ _; exact Nat.le_of_eq rfl) (hb hby at_188) (fun _ _ => ⟨rfl, e225, (by decide : 3 + 0 ≤ _), (by decide : 132 + 0 ≤ _)⟩)
              dsimp only [Pt.U, Pt.locs, Pt.cells, Pt.slots] at X227 lq227 yq227 zq227 st227 hQ227
              subst lq227 yq227 zq227
              obtain ⟨h227, e227⟩ : ∃ z, T227.heap = z := ⟨_, rfl⟩
              rw [e227] at hQ227
              obtain ⟨rfl, N227q, he227⟩ := hQ227
              have N227 := Fr.app N225 N227q
              rw [he227] at e227
              refine go_st st227 ?_
              show Go _ _ _ _ (T227.setTop (mkF m 191 #[iv p0, iv p1, .val (.long p2), .second, iv p3, iv p4, iv p5, iv 3, iv i0, iv i1, iv i2, iv m0, iv m1, iv p3, iv r_1, iv q2, iv ln2, rv b2, iv m0, iv m0] [(.int m0), (.int m0)]))
              refine go_st (fun t k => XS.icmpNo X227.here hx rfl (hb hby at_191) rfl (teq (rfl : m0 = m0)).2 k) ?_
              show Go _ _ _ _ (T227.setTop (mkF m 194 #[iv p0, iv p1, .val (.long p2), .second, iv p3, iv p4, iv p5, iv 3, iv i0, iv i1, iv i2, iv m0, iv m1, iv p3, iv r_1, iv q2, iv ln2, rv b2, iv m0, iv m0] []))
              refine go_st (fun t k => XS.iload X227.here hx rfl (hb hby at_194) rfl k) ?_
              refine go_st (fun t k => XS.iload X227.here hx rfl (hb hby at_196) rfl k) ?_
              refine go_st (fun t k => XS.iload X227.here hx rfl (hb hby at_198) rfl k) ?_
              refine go_st (fun t k => XS.iload X227.here hx rfl (hb hby at_200) rfl k) ?_
              refine go_st (fun t k => XS.iload X227.here hx rfl (hb hby at_202) rfl k) ?_
              refine go_st (fun t k => XS.iload X227.here hx rfl (hb hby at_204) rfl k) ?_
              refine go_st (fun t k => XS.iload X227.here hx rfl (hb hby at_206) rfl k) ?_
              refine go_st (fun t k => XS.iload X227.here hx rfl (hb hby at_208) rfl k) ?_
              refine go_st (fun t k => XS.iload X227.here hx rfl (hb hby at_210) rfl k) ?_
              refine go_st (fun t k => XS.iload X227.here hx rfl (hb hby at_212) rfl k) ?_
              show Go _ _ _ _ (T227.setTop (mkF m 214 #[iv p0, iv p1, .val (.long p2), .second, iv p3, iv p4, iv p5, iv 3, iv i0, iv i1, iv i2, iv m0, iv m1, iv p3, iv r_1, iv q2, iv ln2, rv b2, iv m0, iv m0] [(.int ln2), (.int p3), (.int m1), (.int m0), (.int i2), (.int i1), (.int i0), (.int 3), (.int q2), (.int m0)]))
              obtain ⟨_, _, ⟨T228, L228, kk228, nn228⟩, -, X228, ⟨Lc228, hQ228, lq228, yq228, zq228⟩, st228⟩ := Jvm.LawKit.callS X227 hx (y := (⟨"com/example/nudge/nudge/tree/BlockEntriesLineBeforePinLaw", "expected", "(IIIIIIIII)I"⟩ : MethodName)) hown (mvT hZ (w43 hw)) (mvT hZ (w44 hw)) (mvT hZ (w45 hw)) (mvT hZ (w46 hw)) (by decide) (backOf (W := 1) (rm_exp_31 l Z a0 hw [] q2 i0 i1 i2 m0 m1 p3 ln2 h225 n0 (Nat.le_trans Z0 sz226) hlq hp211 hp198) hZ (w46 hw) (w45 hw) (by decide) (by decide)) (g := (mkF m 214 #[iv p0, iv p1, .val (.long p2), .second, iv p3, iv p4, iv p5, iv 3, iv i0, iv i1, iv i2, iv m0, iv m1, iv p3, iv r_1, iv q2, iv ln2, rv b2, iv m0, iv m0] [(.int ln2), (.int p3), (.int m1), (.int m0), (.int i2), (.int i1), (.int i0), (.int 3), (.int q2), (.int m0)])) rfl (by rw [hml]; rfl) (argsL := [(.int q2), (.int 3), (.int i0), (.int i1), (.int i2), (.int m0), (.int m1), (.int p3), (.int ln2)]) (rest := [(.int m0)]) (lenOf pd_4 rfl) rfl (by show 2 * 0 + _ ≤ _; exact Nat.le_of_eq rfl) (hb hby at_214) (fun _ _ => ⟨rfl, e227, (by decide : 3 + 0 ≤ _), (by decide : 132 + 0 ≤ _)⟩)
              dsimp only [Pt.U, Pt.locs, Pt.cells, Pt.slots] at X228 lq228 yq228 zq228 st228 hQ228
              subst lq228 yq228 zq228
              obtain ⟨h228, e228⟩ : ∃ z, T228.heap = z := ⟨_, rfl⟩
              rw [e228] at hQ228
              obtain ⟨rfl, N228q, he228⟩ := hQ228
              have N228 := Fr.app N227 N228q
              rw [he228] at e228
              refine go_st st228 ?_
              show Go _ _ _ _ (T228.setTop (mkF m 217 #[iv p0, iv p1, .val (.long p2), .second, iv p3, iv p4, iv p5, iv 3, iv i0, iv i1, iv i2, iv m0, iv m1, iv p3, iv r_1, iv q2, iv ln2, rv b2, iv m0, iv m0] [(.int m0), (.int m0)]))
              refine go_st (fun t k => XS.icmpNo X228.here hx rfl (hb hby at_217) rfl (teq (rfl : m0 = m0)).2 k) ?_
              show Go _ _ _ _ (T228.setTop (mkF m 220 #[iv p0, iv p1, .val (.long p2), .second, iv p3, iv p4, iv p5, iv 3, iv i0, iv i1, iv i2, iv m0, iv m1, iv p3, iv r_1, iv q2, iv ln2, rv b2, iv m0, iv m0] []))
              refine go_st (fun t k => XS.iconst X228.here hx rfl (hb hby at_220) k) ?_
              refine go_st (fun t k => XS.goto X228.here hx rfl (pc0 := 221) (pc' := 225) rfl (hb hby at_221) (by decide) (by decide) k) ?_
              show Go _ _ _ _ (T228.setTop (mkF m 225 #[iv p0, iv p1, .val (.long p2), .second, iv p3, iv p4, iv p5, iv 3, iv i0, iv i1, iv i2, iv m0, iv m1, iv p3, iv r_1, iv q2, iv ln2, rv b2, iv m0, iv m0] [(.int 1)]))
              have ke229 : Keep h0 h2 [] := (Keep.ext (Keep.refl h0 []) E2)
              have ke230 : Keep h0 h7 [] := (Keep.trans ke229 K7 (allS (Or.inr (Nat.le_of_eq gq2.symm)) all0))
              have ke231 : Keep h0 h147 [] := (Keep.trans ke230 K147 (allS (Or.inr (Nat.le_of_eq gq2.symm)) (allS (Or.inr (Nat.le_trans E2.1 lf7_0)) (allS (Or.inr (Nat.le_trans E2.1 lf7_1)) all0))))
              have ke232 : Keep h0 h149 [] := (Keep.trans ke231 K149 (allS (Or.inr (Nat.le_of_eq gq2.symm)) (allS (Or.inr (Nat.le_trans E2.1 lf7_0)) (allS (Or.inr (Nat.le_trans E2.1 lf7_1)) all0))))
              have ke233 : Keep h0 h151 [] := (Keep.trans ke232 K151 (allS (Or.inr (Nat.le_of_eq gq2.symm)) (allS (Or.inr (Nat.le_trans E2.1 lf7_0)) (allS (Or.inr (Nat.le_trans E2.1 lf7_1)) all0))))
              have ke234 : Keep h0 h197 [] := (Keep.trans ke233 K197 (allS (Or.inr (Nat.le_of_eq gq2.symm)) all0))
              have ke235 : Keep h0 h225 [] := (Keep.trans ke234 K225 (allS (Or.inr (Nat.le_of_eq gq2.symm)) all0))
              obtain ⟨fs, hr, hrun, hended, hW, hsame⟩ := X228.leave (v := some (.int 1)) (fun h => by rw [Bd.returns] at h; cases h)
              refine ⟨_, _, ?_, hrun, hended, _, _, rfl, ?_, ⟨_, rfl⟩, hW, hsame.mono (by decide) (by decide)⟩
              · exact retN X228 hx (t := .boolean) Bd.returns (by simp) (hb hby at_225) hr
              · show Q_law _ _ _ _ _ _ _ _ _ _ T228.heap _
                rw [e228]
                exact ⟨rfl, N228, ke235⟩
        · skip
          have sz236 : h0.size ≤ h151.size := (Nat.le_trans sz150 K151.1)
          obtain ⟨cq237, kq237, q237a, q237b, q237c⟩ := isOf hZ e151 p151_0
          obtain ⟨_, _, ⟨T237, L237, kk237, nn237⟩, -, X237, ⟨Lc237, hQ237, lq237, yq237, zq237⟩, st237⟩ := X151.virtualBack hx (y := (⟨"com/example/nudge/nudge/tree/BlockEntries", "lineBefore", "(II)I"⟩ : MethodName)) (z := (⟨"com/example/nudge/nudge/tree/BlockEntries", "lineBefore", "(II)I"⟩ : MethodName)) hown (mvT hZ (w26 hw)) (mvT hZ (w27 hw)) (notFace_of_selects (args := #[]) (mvT hZ (w29 hw))) (mvT hZ (w29 hw)) (mvT hZ (w28 hw)) (by decide) (backOf (W := 0) (rm_lb_030 l Z a0 hw [] b2 ax_7 al_7 kx_7 kl_7 r_1 p5 i0 i1 i2 m0 m1 p3 h151 n0 (Nat.le_trans Z0 sz236) p151_0 p151_1 p151_2 p151_3 p151_4 p151_5 p151_6 nq144 nq145 nx7_2 g_b2 s0 s1 hp195) hZ (w30 hw) (w7 hw) (by decide) (by decide)) q237a q237c (g := (mkF m 152 #[iv p0, iv p1, .val (.long p2), .second, iv p3, iv p4, iv p5, iv 3, iv i0, iv i1, iv i2, iv m0, iv m1, iv p3, iv r_1, iv q2, iv ln2, rv b2, .unset, .unset] [(.int p5), (.int r_1), (.ref b2)])) rfl (by rw [hml]; rfl) (Steps.refl _) (argsL := [(.int r_1), (.int p5)]) (rest := []) (lenOf pd_2 rfl) rfl (by show 2 * 0 + _ ≤ _; exact Nat.le_of_eq rfl) (hb hby at_152) (fun _ _ => ⟨rfl, e151, (by decide : 3 + 0 ≤ _), (by decide : 132 + 0 ≤ _)⟩)
          dsimp only [Pt.U, Pt.locs, Pt.cells, Pt.slots] at X237 lq237 yq237 zq237 st237 hQ237
          subst lq237 yq237 zq237
          obtain ⟨h237, e237⟩ : ∃ z, T237.heap = z := ⟨_, rfl⟩
          rw [e237] at hQ237
          obtain ⟨rfl, N237q, K237, p237_0, p237_1, p237_2, p237_3, p237_4, p237_5, p237_6⟩ := hQ237
          have N237 := Fr.app N151 N237q
          refine go_tr st237 ?_
          show Go _ _ _ _ (T237.setTop (mkF m 155 #[iv p0, iv p1, .val (.long p2), .second, iv p3, iv p4, iv p5, iv 3, iv i0, iv i1, iv i2, iv m0, iv m1, iv p3, iv r_1, iv q2, iv ln2, rv b2, .unset, .unset] [(.int p5)]))
          refine go_st (fun t k => XS.istore X237.here hx rfl (hb hby at_155) rfl (l' := #[iv p0, iv p1, .val (.long p2), .second, iv p3, iv p4, iv p5, iv 3, iv i0, iv i1, iv i2, iv m0, iv m1, iv p3, iv r_1, iv q2, iv ln2, rv b2, iv p5, .unset]) rfl k) ?_
          refine go_st (fun t k => XS.aload X237.here hx rfl (hb hby at_157) rfl rfl k) ?_
          refine go_st (fun t k => XS.iload X237.here hx rfl (hb hby at_159) rfl k) ?_
          refine go_st (fun t k => XS.iload X237.here hx rfl (hb hby at_161) rfl k) ?_
          show Go _ _ _ _ (T237.setTop (mkF m 163 #[iv p0, iv p1, .val (.long p2), .second, iv p3, iv p4, iv p5, iv 3, iv i0, iv i1, iv i2, iv m0, iv m1, iv p3, iv r_1, iv q2, iv ln2, rv b2, iv p5, .unset] [(.int ln2), (.int q2), (.ref b2)]))
          by_cases hp238 : i2 < q2
          · skip
            have sz239 : h0.size ≤ h237.size := (Nat.le_trans sz236 K237.1)
            obtain ⟨cq240, kq240, q240a, q240b, q240c⟩ := isOf hZ e237 p237_0
            obtain ⟨_, _, ⟨T240, L240, kk240, nn240⟩, -, X240, ⟨Lc240, hQ240, lq240, yq240, zq240⟩, st240⟩ := X237.virtualBack hx (y := (⟨"com/example/nudge/nudge/tree/BlockEntries", "lineBefore", "(II)I"⟩ : MethodName)) (z := (⟨"com/example/nudge/nudge/tree/BlockEntries", "lineBefore", "(II)I"⟩ : MethodName)) hown (mvT hZ (w26 hw)) (mvT hZ (w27 hw)) (notFace_of_selects (args := #[]) (mvT hZ (w29 hw))) (mvT hZ (w29 hw)) (mvT hZ (w28 hw)) (by decide) (backOf (W := 0) (rm_lb_033 l Z a0 hw [] b2 ax_7 al_7 kx_7 kl_7 q2 ln2 i0 i1 i2 m0 m1 p3 h237 n0 (Nat.le_trans Z0 sz239) p237_0 p237_1 p237_2 p237_3 p237_4 p237_5 p237_6 nq144 nq145 nx7_2 g_b2 s0 s1 hp238) hZ (w30 hw) (w7 hw) (by decide) (by decide)) q240a q240c (g := (mkF m 163 #[iv p0, iv p1, .val (.long p2), .second, iv p3, iv p4, iv p5, iv 3, iv i0, iv i1, iv i2, iv m0, iv m1, iv p3, iv r_1, iv q2, iv ln2, rv b2, iv p5, .unset] [(.int ln2), (.int q2), (.ref b2)])) rfl (by rw [hml]; rfl) (Steps.refl _) (argsL := [(.int q2), (.int ln2)]) (rest := []) (lenOf pd_2 rfl) rfl (by show 2 * 0 + _ ≤ _; exact Nat.le_of_eq rfl) (hb hby at_163) (fun _ _ => ⟨rfl, e237, (by decide : 3 + 0 ≤ _), (by decide : 132 + 0 ≤ _)⟩)
            dsimp only [Pt.U, Pt.locs, Pt.cells, Pt.slots] at X240 lq240 yq240 zq240 st240 hQ240
            subst lq240 yq240 zq240
            obtain ⟨h240, e240⟩ : ∃ z, T240.heap = z := ⟨_, rfl⟩
            rw [e240] at hQ240
            obtain ⟨rfl, N240q, K240, p240_0, p240_1, p240_2, p240_3, p240_4, p240_5, p240_6⟩ := hQ240
            have N240 := Fr.app N237 N240q
            refine go_tr st240 ?_
            show Go _ _ _ _ (T240.setTop (mkF m 166 #[iv p0, iv p1, .val (.long p2), .second, iv p3, iv p4, iv p5, iv 3, iv i0, iv i1, iv i2, iv m0, iv m1, iv p3, iv r_1, iv q2, iv ln2, rv b2, iv p5, .unset] [(.int p3)]))
            refine go_st (fun t k => XS.istore X240.here hx rfl (hb hby at_166) rfl (l' := #[iv p0, iv p1, .val (.long p2), .second, iv p3, iv p4, iv p5, iv 3, iv i0, iv i1, iv i2, iv m0, iv m1, iv p3, iv r_1, iv q2, iv ln2, rv b2, iv p5, iv p3]) rfl k) ?_
            refine go_st (fun t k => XS.iload X240.here hx rfl (hb hby at_168) rfl k) ?_
            refine go_st (fun t k => XS.iload X240.here hx rfl (hb hby at_170) rfl k) ?_
            refine go_st (fun t k => XS.iload X240.here hx rfl (hb hby at_172) rfl k) ?_
            refine go_st (fun t k => XS.iload X240.here hx rfl (hb hby at_174) rfl k) ?_
            refine go_st (fun t k => XS.iload X240.here hx rfl (hb hby at_176) rfl k) ?_
            refine go_st (fun t k => XS.iload X240.here hx rfl (hb hby at_178) rfl k) ?_
            refine go_st (fun t k => XS.iload X240.here hx rfl (hb hby at_180) rfl k) ?_
            refine go_st (fun t k => XS.iload X240.here hx rfl (hb hby at_182) rfl k) ?_
            refine go_st (fun t k => XS.iload X240.here hx rfl (hb hby at_184) rfl k) ?_
            refine go_st (fun t k => XS.iload X240.here hx rfl (hb hby at_186) rfl k) ?_
            show Go _ _ _ _ (T240.setTop (mkF m 188 #[iv p0, iv p1, .val (.long p2), .second, iv p3, iv p4, iv p5, iv 3, iv i0, iv i1, iv i2, iv m0, iv m1, iv p3, iv r_1, iv q2, iv ln2, rv b2, iv p5, iv p3] [(.int p5), (.int p3), (.int m1), (.int m0), (.int i2), (.int i1), (.int i0), (.int 3), (.int r_1), (.int p5)]))
            have sz241 : h0.size ≤ h240.size := (Nat.le_trans sz239 K240.1)
            obtain ⟨_, _, ⟨T242, L242, kk242, nn242⟩, -, X242, ⟨Lc242, hQ242, lq242, yq242, zq242⟩, st242⟩ := Jvm.LawKit.callS X240 hx (y := (⟨"com/example/nudge/nudge/tree/BlockEntriesLineBeforePinLaw", "expected", "(IIIIIIIII)I"⟩ : MethodName)) hown (mvT hZ (w43 hw)) (mvT hZ (w44 hw)) (mvT hZ (w45 hw)) (mvT hZ (w46 hw)) (by decide) (backOf (W := 1) (rm_exp_30 l Z a0 hw [] r_1 i0 i1 i2 m0 m1 p3 p5 h240 n0 (Nat.le_trans Z0 sz241) hp195 hp167 hp152) hZ (w46 hw) (w45 hw) (by decide) (by decide)) (g := (mkF m 188 #[iv p0, iv p1, .val (.long p2), .second, iv p3, iv p4, iv p5, iv 3, iv i0, iv i1, iv i2, iv m0, iv m1, iv p3, iv r_1, iv q2, iv ln2, rv b2, iv p5, iv p3] [(.int p5), (.int p3), (.int m1), (.int m0), (.int i2), (.int i1), (.int i0), (.int 3), (.int r_1), (.int p5)])) rfl (by rw [hml]; rfl) (argsL := [(.int r_1), (.int 3), (.int i0), (.int i1), (.int i2), (.int m0), (.int m1), (.int p3), (.int p5)]) (rest := [(.int p5)]) (lenOf pd_4 rfl) rfl (by show 2 * 0 + _ ≤ _; exact Nat.le_of_eq rfl) (hb hby at_188) (fun _ _ => ⟨rfl, e240, (by decide : 3 + 0 ≤ _), (by decide : 132 + 0 ≤ _)⟩)
            dsimp only [Pt.U, Pt.locs, Pt.cells, Pt.slots] at X242 lq242 yq242 zq242 st242 hQ242
            subst lq242 yq242 zq242
            obtain ⟨h242, e242⟩ : ∃ z, T242.heap = z := ⟨_, rfl⟩
            rw [e242] at hQ242
            obtain ⟨rfl, N242q, he242⟩ := hQ242
            have N242 := Fr.app N240 N242q
            rw [he242] at e242
            refine go_st st242 ?_
            show Go _ _ _ _ (T242.setTop (mkF m 191 #[iv p0, iv p1, .val (.long p2), .second, iv p3, iv p4, iv p5, iv 3, iv i0, iv i1, iv i2, iv m0, iv m1, iv p3, iv r_1, iv q2, iv ln2, rv b2, iv p5, iv p3] [(.int p5), (.int p5)]))
            refine go_st (fun t k => XS.icmpNo X242.here hx rfl (hb hby at_191) rfl (teq (rfl : p5 = p5)).2 k) ?_
            show Go _ _ _ _ (T242.setTop (mkF m 194 #[iv p0, iv p1, .val (.long p2), .second, iv p3, iv p4, iv p5, iv 3, iv i0, iv i1, iv i2, iv m0, iv m1, iv p3, iv r_1, iv q2, iv ln2, rv b2, iv p5, iv p3] []))
            refine go_st (fun t k => XS.iload X242.here hx rfl (hb hby at_194) rfl k) ?_
            refine go_st (fun t k => XS.iload X242.here hx rfl (hb hby at_196) rfl k) ?_
            refine go_st (fun t k => XS.iload X242.here hx rfl (hb hby at_198) rfl k) ?_
            refine go_st (fun t k => XS.iload X242.here hx rfl (hb hby at_200) rfl k) ?_
            refine go_st (fun t k => XS.iload X242.here hx rfl (hb hby at_202) rfl k) ?_
            refine go_st (fun t k => XS.iload X242.here hx rfl (hb hby at_204) rfl k) ?_
            refine go_st (fun t k => XS.iload X242.here hx rfl (hb hby at_206) rfl k) ?_
            refine go_st (fun t k => XS.iload X242.here hx rfl (hb hby at_208) rfl k) ?_
            refine go_st (fun t k => XS.iload X242.here hx rfl (hb hby at_210) rfl k) ?_
            refine go_st (fun t k => XS.iload X242.here hx rfl (hb hby at_212) rfl k) ?_
            show Go _ _ _ _ (T242.setTop (mkF m 214 #[iv p0, iv p1, .val (.long p2), .second, iv p3, iv p4, iv p5, iv 3, iv i0, iv i1, iv i2, iv m0, iv m1, iv p3, iv r_1, iv q2, iv ln2, rv b2, iv p5, iv p3] [(.int ln2), (.int p3), (.int m1), (.int m0), (.int i2), (.int i1), (.int i0), (.int 3), (.int q2), (.int p3)]))
            obtain ⟨_, _, ⟨T243, L243, kk243, nn243⟩, -, X243, ⟨Lc243, hQ243, lq243, yq243, zq243⟩, st243⟩ := Jvm.LawKit.callS X242 hx (y := (⟨"com/example/nudge/nudge/tree/BlockEntriesLineBeforePinLaw", "expected", "(IIIIIIIII)I"⟩ : MethodName)) hown (mvT hZ (w43 hw)) (mvT hZ (w44 hw)) (mvT hZ (w45 hw)) (mvT hZ (w46 hw)) (by decide) (backOf (W := 1) (rm_exp_33 l Z a0 hw [] q2 i0 i1 i2 m0 m1 p3 ln2 h240 n0 (Nat.le_trans Z0 sz241) hp238) hZ (w46 hw) (w45 hw) (by decide) (by decide)) (g := (mkF m 214 #[iv p0, iv p1, .val (.long p2), .second, iv p3, iv p4, iv p5, iv 3, iv i0, iv i1, iv i2, iv m0, iv m1, iv p3, iv r_1, iv q2, iv ln2, rv b2, iv p5, iv p3] [(.int ln2), (.int p3), (.int m1), (.int m0), (.int i2), (.int i1), (.int i0), (.int 3), (.int q2), (.int p3)])) rfl (by rw [hml]; rfl) (argsL := [(.int q2), (.int 3), (.int i0), (.int i1), (.int i2), (.int m0), (.int m1), (.int p3), (.int ln2)]) (rest := [(.int p3)]) (lenOf pd_4 rfl) rfl (by show 2 * 0 + _ ≤ _; exact Nat.le_of_eq rfl) (hb hby at_214) (fun _ _ => ⟨rfl, e242, (by decide : 3 + 0 ≤ _), (by decide : 132 + 0 ≤ _)⟩)
            dsimp only [Pt.U, Pt.locs, Pt.cells, Pt.slots] at X243 lq243 yq243 zq243 st243 hQ243
            subst lq243 yq243 zq243
            obtain ⟨h243, e243⟩ : ∃ z, T243.heap = z := ⟨_, rfl⟩
            rw [e243] at hQ243
            obtain ⟨rfl, N243q, he243⟩ := hQ243
            have N243 := Fr.app N242 N243q
            rw [he243] at e243
            refine go_st st243 ?_
            show Go _ _ _ _ (T243.setTop (mkF m 217 #[iv p0, iv p1, .val (.long p2), .second, iv p3, iv p4, iv p5, iv 3, iv i0, iv i1, iv i2, iv m0, iv m1, iv p3, iv r_1, iv q2, iv ln2, rv b2, iv p5, iv p3] [(.int p3), (.int p3)]))
            refine go_st (fun t k => XS.icmpNo X243.here hx rfl (hb hby at_217) rfl (teq (rfl : p3 = p3)).2 k) ?_
            show Go _ _ _ _ (T243.setTop (mkF m 220 #[iv p0, iv p1, .val (.long p2), .second, iv p3, iv p4, iv p5, iv 3, iv i0, iv i1, iv i2, iv m0, iv m1, iv p3, iv r_1, iv q2, iv ln2, rv b2, iv p5, iv p3] []))
            refine go_st (fun t k => XS.iconst X243.here hx rfl (hb hby at_220) k) ?_
            refine go_st (fun t k => XS.goto X243.here hx rfl (pc0 := 221) (pc' := 225) rfl (hb hby at_221) (by decide) (by decide) k) ?_
            show Go _ _ _ _ (T243.setTop (mkF m 225 #[iv p0, iv p1, .val (.long p2), .second, iv p3, iv p4, iv p5, iv 3, iv i0, iv i1, iv i2, iv m0, iv m1, iv p3, iv r_1, iv q2, iv ln2, rv b2, iv p5, iv p3] [(.int 1)]))
            have ke244 : Keep h0 h2 [] := (Keep.ext (Keep.refl h0 []) E2)
            have ke245 : Keep h0 h7 [] := (Keep.trans ke244 K7 (allS (Or.inr (Nat.le_of_eq gq2.symm)) all0))
            have ke246 : Keep h0 h147 [] := (Keep.trans ke245 K147 (allS (Or.inr (Nat.le_of_eq gq2.symm)) (allS (Or.inr (Nat.le_trans E2.1 lf7_0)) (allS (Or.inr (Nat.le_trans E2.1 lf7_1)) all0))))
            have ke247 : Keep h0 h149 [] := (Keep.trans ke246 K149 (allS (Or.inr (Nat.le_of_eq gq2.symm)) (allS (Or.inr (Nat.le_trans E2.1 lf7_0)) (allS (Or.inr (Nat.le_trans E2.1 lf7_1)) all0))))
            have ke248 : Keep h0 h151 [] := (Keep.trans ke247 K151 (allS (Or.inr (Nat.le_of_eq gq2.symm)) (allS (Or.inr (Nat.le_trans E2.1 lf7_0)) (allS (Or.inr (Nat.le_trans E2.1 lf7_1)) all0))))
            have ke249 : Keep h0 h237 [] := (Keep.trans ke248 K237 (allS (Or.inr (Nat.le_of_eq gq2.symm)) all0))
            have ke250 : Keep h0 h240 [] := (Keep.trans ke249 K240 (allS (Or.inr (Nat.le_of_eq gq2.symm)) all0))
            obtain ⟨fs, hr, hrun, hended, hW, hsame⟩ := X243.leave (v := some (.int 1)) (fun h => by rw [Bd.returns] at h; cases h)
            refine ⟨_, _, ?_, hrun, hended, _, _, rfl, ?_, ⟨_, rfl⟩, hW, hsame.mono (by decide) (by decide)⟩
            · exact retN X243 hx (t := .boolean) Bd.returns (by simp) (hb hby at_225) hr
            · show Q_law _ _ _ _ _ _ _ _ _ _ T243.heap _
              rw [e243]
              exact ⟨rfl, N243, ke250⟩
          · skip
            by_cases hp251 : i1 < q2
            · skip
              have sz252 : h0.size ≤ h237.size := (Nat.le_trans sz236 K237.1)
              obtain ⟨cq253, kq253, q253a, q253b, q253c⟩ := isOf hZ e237 p237_0
              obtain ⟨_, _, ⟨T253, L253, kk253, nn253⟩, -, X253, ⟨Lc253, hQ253, lq253, yq253, zq253⟩, st253⟩ := X237.virtualBack hx (y := (⟨"com/example/nudge/nudge/tree/BlockEntries", "lineBefore", "(II)I"⟩ : MethodName)) (z := (⟨"com/example/nudge/nudge/tree/BlockEntries", "lineBefore", "(II)I"⟩ : MethodName)) hown (mvT hZ (w26 hw)) (mvT hZ (w27 hw)) (notFace_of_selects (args := #[]) (mvT hZ (w29 hw))) (mvT hZ (w29 hw)) (mvT hZ (w28 hw)) (by decide) (backOf (W := 0) (rm_lb_032 l Z a0 hw [] b2 ax_7 al_7 kx_7 kl_7 q2 ln2 i0 i1 i2 m0 m1 p3 h237 n0 (Nat.le_trans Z0 sz252) p237_0 p237_1 p237_2 p237_3 p237_4 p237_5 p237_6 nq144 nq145 nx7_2 g_b2 s0 s1 hp251 hp238) hZ (w30 hw) (w7 hw) (by decide) (by decide)) q253a q253c (g := (mkF m 163 #[iv p0, iv p1, .val (.long p2), .second, iv p3, iv p4, iv p5, iv 3, iv i0, iv i1, iv i2, iv m0, iv m1, iv p3, iv r_1, iv q2, iv ln2, rv b2, iv p5, .unset] [(.int ln2), (.int q2), (.ref b2)])) rfl (by rw [hml]; rfl) (Steps.refl _) (argsL := [(.int q2), (.int ln2)]) (rest := []) (lenOf pd_2 rfl) rfl (by show 2 * 0 + _ ≤ _; exact Nat.le_of_eq rfl) (hb hby at_163) (fun _ _ => ⟨rfl, e237, (by decide : 3 + 0 ≤ _), (by decide : 132 + 0 ≤ _)⟩)
              dsimp only [Pt.U, Pt.locs, Pt.cells, Pt.slots] at X253 lq253 yq253 zq253 st253 hQ253
              subst lq253 yq253 zq253
              obtain ⟨h253, e253⟩ : ∃ z, T253.heap = z := ⟨_, rfl⟩
              rw [e253] at hQ253
              obtain ⟨rfl, N253q, K253, p253_0, p253_1, p253_2, p253_3, p253_4, p253_5, p253_6⟩ := hQ253
              have N253 := Fr.app N237 N253q
              refine go_tr st253 ?_
              show Go _ _ _ _ (T253.setTop (mkF m 166 #[iv p0, iv p1, .val (.long p2), .second, iv p3, iv p4, iv p5, iv 3, iv i0, iv i1, iv i2, iv m0, iv m1, iv p3, iv r_1, iv q2, iv ln2, rv b2, iv p5, .unset] [(.int m1)]))
              refine go_st (fun t k => XS.istore X253.here hx rfl (hb hby at_166) rfl (l' := #[iv p0, iv p1, .val (.long p2), .second, iv p3, iv p4, iv p5, iv 3, iv i0, iv i1, iv i2, iv m0, iv m1, iv p3, iv r_1, iv q2, iv ln2, rv b2, iv p5, iv m1]) rfl k) ?_
              refine go_st (fun t k => XS.iload X253.here hx rfl (hb hby at_168) rfl k) ?_
              refine go_st (fun t k => XS.iload X253.here hx rfl (hb hby at_170) rfl k) ?_
              refine go_st (fun t k => XS.iload X253.here hx rfl (hb hby at_172) rfl k) ?_
              refine go_st (fun t k => XS.iload X253.here hx rfl (hb hby at_174) rfl k) ?_
              refine go_st (fun t k => XS.iload X253.here hx rfl (hb hby at_176) rfl k) ?_
              refine go_st (fun t k => XS.iload X253.here hx rfl (hb hby at_178) rfl k) ?_
              refine go_st (fun t k => XS.iload X253.here hx rfl (hb hby at_180) rfl k) ?_
              refine go_st (fun t k => XS.iload X253.here hx rfl (hb hby at_182) rfl k) ?_
              refine go_st (fun t k => XS.iload X253.here hx rfl (hb hby at_184) rfl k) ?_
              refine go_st (fun t k => XS.iload X253.here hx rfl (hb hby at_186) rfl k) ?_
              show Go _ _ _ _ (T253.setTop (mkF m 188 #[iv p0, iv p1, .val (.long p2), .second, iv p3, iv p4, iv p5, iv 3, iv i0, iv i1, iv i2, iv m0, iv m1, iv p3, iv r_1, iv q2, iv ln2, rv b2, iv p5, iv m1] [(.int p5), (.int p3), (.int m1), (.int m0), (.int i2), (.int i1), (.int i0), (.int 3), (.int r_1), (.int p5)]))
              have sz254 : h0.size ≤ h253.size := (Nat.le_trans sz252 K253.1)
              obtain ⟨_, _, ⟨T255, L255, kk255, nn255⟩, -, X255, ⟨Lc255, hQ255, lq255, yq255, zq255⟩, st255⟩ := Jvm.LawKit.callS X253 hx (y := (⟨"com/example/nudge/nudge/tree/BlockEntriesLineBeforePinLaw", "expected", "(IIIIIIIII)I"⟩ : MethodName)) hown (mvT hZ (w43 hw)) (mvT hZ (w44 hw)) (mvT hZ (w45 hw)) (mvT hZ (w46 hw)) (by decide) (backOf (W := 1) (rm_exp_30 l Z a0 hw [] r_1 i0 i1 i2 m0 m1 p3 p5 h253 n0 (Nat.le_trans Z0 sz254) hp195 hp167 hp152) hZ (w46 hw) (w45 hw) (by decide) (by decide)) (g := (mkF m 188 #[iv p0, iv p1, .val (.long p2), .second, iv p3, iv p4, iv p5, iv 3, iv i0, iv i1, iv i2, iv m0, iv m1, iv p3, iv r_1, iv q2, iv ln2, rv b2, iv p5, iv m1] [(.int p5), (.int p3), (.int m1), (.int m0), (.int i2), (.int i1), (.int i0), (.int 3), (.int r_1), (.int p5)])) rfl (by rw [hml]; rfl) (argsL := [(.int r_1), (.int 3), (.int i0), (.int i1), (.int i2), (.int m0), (.int m1), (.int p3), (.int p5)]) (rest := [(.int p5)]) (lenOf pd_4 rfl) rfl (by show 2 * 0 + _ ≤ _; exact Nat.le_of_eq rfl) (hb hby at_188) (fun _ _ => ⟨rfl, e253, (by decide : 3 + 0 ≤ _), (by decide : 132 + 0 ≤ _)⟩)
              dsimp only [Pt.U, Pt.locs, Pt.cells, Pt.slots] at X255 lq255 yq255 zq255 st255 hQ255
              subst lq255 yq255 zq255
              obtain ⟨h255, e255⟩ : ∃ z, T255.heap = z := ⟨_, rfl⟩
              rw [e255] at hQ255
              obtain ⟨rfl, N255q, he255⟩ := hQ255
              have N255 := Fr.app N253 N255q
              rw [he255] at e255
              refine go_st st255 ?_
              show Go _ _ _ _ (T255.setTop (mkF m 191 #[iv p0, iv p1, .val (.long p2), .second, iv p3, iv p4, iv p5, iv 3, iv i0, iv i1, iv i2, iv m0, iv m1, iv p3, iv r_1, iv q2, iv ln2, rv b2, iv p5, iv m1] [(.int p5), (.int p5)]))
              refine go_st (fun t k => XS.icmpNo X255.here hx rfl (hb hby at_191) rfl (teq (rfl : p5 = p5)).2 k) ?_
              show Go _ _ _ _ (T255.setTop (mkF m 194 #[iv p0, iv p1, .val (.long p2), .second, iv p3, iv p4, iv p5, iv 3, iv i0, iv i1, iv i2, iv m0, iv m1, iv p3, iv r_1, iv q2, iv ln2, rv b2, iv p5, iv m1] []))
              refine go_st (fun t k => XS.iload X255.here hx rfl (hb hby at_194) rfl k) ?_
              refine go_st (fun t k => XS.iload X255.here hx rfl (hb hby at_196) rfl k) ?_
              refine go_st (fun t k => XS.iload X255.here hx rfl (hb hby at_198) rfl k) ?_
              refine go_st (fun t k => XS.iload X255.here hx rfl (hb hby at_200) rfl k) ?_
              refine go_st (fun t k => XS.iload X255.here hx rfl (hb hby at_202) rfl k) ?_
              refine go_st (fun t k => XS.iload X255.here hx rfl (hb hby at_204) rfl k) ?_
              refine go_st (fun t k => XS.iload X255.here hx rfl (hb hby at_206) rfl k) ?_
              refine go_st (fun t k => XS.iload X255.here hx rfl (hb hby at_208) rfl k) ?_
              refine go_st (fun t k => XS.iload X255.here hx rfl (hb hby at_210) rfl k) ?_
              refine go_st (fun t k => XS.iload X255.here hx rfl (hb hby at_212) rfl k) ?_
              show Go _ _ _ _ (T255.setTop (mkF m 214 #[iv p0, iv p1, .val (.long p2), .second, iv p3, iv p4, iv p5, iv 3, iv i0, iv i1, iv i2, iv m0, iv m1, iv p3, iv r_1, iv q2, iv ln2, rv b2, iv p5, iv m1] [(.int ln2), (.int p3), (.int m1), (.int m0), (.int i2), (.int i1), (.int i0), (.int 3), (.int q2), (.int m1)]))
              obtain ⟨_, _, ⟨T256, L256, kk256, nn256⟩, -, X256, ⟨Lc256, hQ256, lq256, yq256, zq256⟩, st256⟩ := Jvm.LawKit.callS X255 hx (y := (⟨"com/example/nudge/nudge/tree/BlockEntriesLineBeforePinLaw", "expected", "(IIIIIIIII)I"⟩ : MethodName)) hown (mvT hZ (w43 hw)) (mvT hZ (w44 hw)) (mvT hZ (w45 hw)) (mvT hZ (w46 hw)) (by decide) (backOf (W := 1) (rm_exp_32 l Z a0 hw [] q2 i0 i1 i2 m0 m1 p3 ln2 h253 n0 (Nat.le_trans Z0 sz254) hp251 hp238) hZ (w46 hw) (w45 hw) (by decide) (by decide)) (g := (mkF m 214 #[iv p0, iv p1, .val (.long p2), .second, iv p3, iv p4, iv p5, iv 3, iv i0, iv i1, iv i2, iv m0, iv m1, iv p3, iv r_1, iv q2, iv ln2, rv b2, iv p5, iv m1] [(.int ln2), (.int p3), (.int m1), (.int m0), (.int i2), (.int i1), (.int i0), (.int 3), (.int q2), (.int m1)])) rfl (by rw [hml]; rfl) (argsL := [(.int q2), (.int 3), (.int i0), (.int i1), (.int i2), (.int m0), (.int m1), (.int p3), (.int ln2)]) (rest := [(.int m1)]) (lenOf pd_4 rfl) rfl (by show 2 * 0 + _ ≤ _; exact Nat.le_of_eq rfl) (hb hby at_214) (fun _ _ => ⟨rfl, e255, (by decide : 3 + 0 ≤ _), (by decide : 132 + 0 ≤ _)⟩)
              dsimp only [Pt.U, Pt.locs, Pt.cells, Pt.slots] at X256 lq256 yq256 zq256 st256 hQ256
              subst lq256 yq256 zq256
              obtain ⟨h256, e256⟩ : ∃ z, T256.heap = z := ⟨_, rfl⟩
              rw [e256] at hQ256
              obtain ⟨rfl, N256q, he256⟩ := hQ256
              have N256 := Fr.app N255 N256q
              rw [he256] at e256
              refine go_st st256 ?_
              show Go _ _ _ _ (T256.setTop (mkF m 217 #[iv p0, iv p1, .val (.long p2), .second, iv p3, iv p4, iv p5, iv 3, iv i0, iv i1, iv i2, iv m0, iv m1, iv p3, iv r_1, iv q2, iv ln2, rv b2, iv p5, iv m1] [(.int m1), (.int m1)]))
              refine go_st (fun t k => XS.icmpNo X256.here hx rfl (hb hby at_217) rfl (teq (rfl : m1 = m1)).2 k) ?_
              show Go _ _ _ _ (T256.setTop (mkF m 220 #[iv p0, iv p1, .val (.long p2), .second, iv p3, iv p4, iv p5, iv 3, iv i0, iv i1, iv i2, iv m0, iv m1, iv p3, iv r_1, iv q2, iv ln2, rv b2, iv p5, iv m1] []))
              refine go_st (fun t k => XS.iconst X256.here hx rfl (hb hby at_220) k) ?_
              refine go_st (fun t k => XS.goto X256.here hx rfl (pc0 := 221) (pc' := 225) rfl (hb hby at_221) (by decide) (by decide) k) ?_
              show Go _ _ _ _ (T256.setTop (mkF m 225 #[iv p0, iv p1, .val (.long p2), .second, iv p3, iv p4, iv p5, iv 3, iv i0, iv i1, iv i2, iv m0, iv m1, iv p3, iv r_1, iv q2, iv ln2, rv b2, iv p5, iv m1] [(.int 1)]))
              have ke257 : Keep h0 h2 [] := (Keep.ext (Keep.refl h0 []) E2)
              have ke258 : Keep h0 h7 [] := (Keep.trans ke257 K7 (allS (Or.inr (Nat.le_of_eq gq2.symm)) all0))
              have ke259 : Keep h0 h147 [] := (Keep.trans ke258 K147 (allS (Or.inr (Nat.le_of_eq gq2.symm)) (allS (Or.inr (Nat.le_trans E2.1 lf7_0)) (allS (Or.inr (Nat.le_trans E2.1 lf7_1)) all0))))
              have ke260 : Keep h0 h149 [] := (Keep.trans ke259 K149 (allS (Or.inr (Nat.le_of_eq gq2.symm)) (allS (Or.inr (Nat.le_trans E2.1 lf7_0)) (allS (Or.inr (Nat.le_trans E2.1 lf7_1)) all0))))
              have ke261 : Keep h0 h151 [] := (Keep.trans ke260 K151 (allS (Or.inr (Nat.le_of_eq gq2.symm)) (allS (Or.inr (Nat.le_trans E2.1 lf7_0)) (allS (Or.inr (Nat.le_trans E2.1 lf7_1)) all0))))
              have ke262 : Keep h0 h237 [] := (Keep.trans ke261 K237 (allS (Or.inr (Nat.le_of_eq gq2.symm)) all0))
              have ke263 : Keep h0 h253 [] := (Keep.trans ke262 K253 (allS (Or.inr (Nat.le_of_eq gq2.symm)) all0))
              obtain ⟨fs, hr, hrun, hended, hW, hsame⟩ := X256.leave (v := some (.int 1)) (fun h => by rw [Bd.returns] at h; cases h)
              refine ⟨_, _, ?_, hrun, hended, _, _, rfl, ?_, ⟨_, rfl⟩, hW, hsame.mono (by decide) (by decide)⟩
              · exact retN X256 hx (t := .boolean) Bd.returns (by simp) (hb hby at_225) hr
              · show Q_law _ _ _ _ _ _ _ _ _ _ T256.heap _
                rw [e256]
                exact ⟨rfl, N256, ke263⟩
            · skip
              by_cases hp264 : i0 < q2
              · skip
                have sz265 : h0.size ≤ h237.size := (Nat.le_trans sz236 K237.1)
                obtain ⟨cq266, kq266, q266a, q266b, q266c⟩ := isOf hZ e237 p237_0
                obtain ⟨_, _, ⟨T266, L266, kk266, nn266⟩, -, X266, ⟨Lc266, hQ266, lq266, yq266, zq266⟩, st266⟩ := X237.virtualBack hx (y := (⟨"com/example/nudge/nudge/tree/BlockEntries", "lineBefore", "(II)I"⟩ : MethodName)) (z := (⟨"com/example/nudge/nudge/tree/BlockEntries", "lineBefore", "(II)I"⟩ : MethodName)) hown (mvT hZ (w26 hw)) (mvT hZ (w27 hw)) (notFace_of_selects (args := #[]) (mvT hZ (w29 hw))) (mvT hZ (w29 hw)) (mvT hZ (w28 hw)) (by decide) (backOf (W := 0) (rm_lb_031 l Z a0 hw [] b2 ax_7 al_7 kx_7 kl_7 q2 ln2 i0 i1 i2 m0 m1 p3 h237 n0 (Nat.le_trans Z0 sz265) p237_0 p237_1 p237_2 p237_3 p237_4 p237_5 p237_6 nq144 nq145 nx7_2 g_b2 s0 s1 hp264 hp251) hZ (w30 hw) (w7 hw) (by decide) (by decide)) q266a q266c (g := (mkF m 163 #[iv p0, iv p1, .val (.long p2), .second, iv p3, iv p4, iv p5, iv 3, iv i0, iv i1, iv i2, iv m0, iv m1, iv p3, iv r_1, iv q2, iv ln2, rv b2, iv p5, .unset] [(.int ln2), (.int q2), (.ref b2)])) rfl (by rw [hml]; rfl) (Steps.refl _) (argsL := [(.int q2), (.int ln2)]) (rest := []) (lenOf pd_2 rfl) rfl (by show 2 * 0 + _ ≤ _; exact Nat.le_of_eq rfl) (hb hby at_163) (fun _ _ => ⟨rfl, e237, (by decide : 3 + 0 ≤ _), (by decide : 132 + 0 ≤ _)⟩)
                dsimp only [Pt.U, Pt.locs, Pt.cells, Pt.slots] at X266 lq266 yq266 zq266 st266 hQ266
                subst lq266 yq266 zq266
                obtain ⟨h266, e266⟩ : ∃ z, T266.heap = z := ⟨_, rfl⟩
                rw [e266] at hQ266
                obtain ⟨rfl, N266q, K266, p266_0, p266_1, p266_2, p266_3, p266_4, p266_5, p266_6⟩ := hQ266
                have N266 := Fr.app N237 N266q
                refine go_tr st266 ?_
                show Go _ _ _ _ (T266.setTop (mkF m 166 #[iv p0, iv p1, .val (.long p2), .second, iv p3, iv p4, iv p5, iv 3, iv i0, iv i1, iv i2, iv m0, iv m1, iv p3, iv r_1, iv q2, iv ln2, rv b2, iv p5, .unset] [(.int m0)]))
                refine go_st (fun t k => XS.istore X266.here hx rfl (hb hby at_166) rfl (l' := #[iv p0, iv p1, .val (.long p2), .second, iv p3, iv p4, iv p5, iv 3, iv i0, iv i1, iv i2, iv m0, iv m1, iv p3, iv r_1, iv q2, iv ln2, rv b2, iv p5, iv m0]) rfl k) ?_
                refine go_st (fun t k => XS.iload X266.here hx rfl (hb hby at_168) rfl k) ?_
                refine go_st (fun t k => XS.iload X266.here hx rfl (hb hby at_170) rfl k) ?_
                refine go_st (fun t k => XS.iload X266.here hx rfl (hb hby at_172) rfl k) ?_
                refine go_st (fun t k => XS.iload X266.here hx rfl (hb hby at_174) rfl k) ?_
                refine go_st (fun t k => XS.iload X266.here hx rfl (hb hby at_176) rfl k) ?_
                refine go_st (fun t k => XS.iload X266.here hx rfl (hb hby at_178) rfl k) ?_
                refine go_st (fun t k => XS.iload X266.here hx rfl (hb hby at_180) rfl k) ?_
                refine go_st (fun t k => XS.iload X266.here hx rfl (hb hby at_182) rfl k) ?_
                refine go_st (fun t k => XS.iload X266.here hx rfl (hb hby at_184) rfl k) ?_
                refine go_st (fun t k => XS.iload X266.here hx rfl (hb hby at_186) rfl k) ?_
                show Go _ _ _ _ (T266.setTop (mkF m 188 #[iv p0, iv p1, .val (.long p2), .second, iv p3, iv p4, iv p5, iv 3, iv i0, iv i1, iv i2, iv m0, iv m1, iv p3, iv r_1, iv q2, iv ln2, rv b2, iv p5, iv m0] [(.int p5), (.int p3), (.int m1), (.int m0), (.int i2), (.int i1), (.int i0), (.int 3), (.int r_1), (.int p5)]))
                have sz267 : h0.size ≤ h266.size := (Nat.le_trans sz265 K266.1)
                obtain ⟨_, _, ⟨T268, L268, kk268, nn268⟩, -, X268, ⟨Lc268, hQ268, lq268, yq268, zq268⟩, st268⟩ := Jvm.LawKit.callS X266 hx (y := (⟨"com/example/nudge/nudge/tree/BlockEntriesLineBeforePinLaw", "expected", "(IIIIIIIII)I"⟩ : MethodName)) hown (mvT hZ (w43 hw)) (mvT hZ (w44 hw)) (mvT hZ (w45 hw)) (mvT hZ (w46 hw)) (by decide) (backOf (W := 1) (rm_exp_30 l Z a0 hw [] r_1 i0 i1 i2 m0 m1 p3 p5 h266 n0 (Nat.le_trans Z0 sz267) hp195 hp167 hp152) hZ (w46 hw) (w45 hw) (by decide) (by decide)) (g := (mkF m 188 #[iv p0, iv p1, .val (.long p2), .second, iv p3, iv p4, iv p5, iv 3, iv i0, iv i1, iv i2, iv m0, iv m1, iv p3, iv r_1, iv q2, iv ln2, rv b2, iv p5, iv m0] [(.int p5), (.int p3), (.int m1), (.int m0), (.int i2), (.int i1), (.int i0), (.int 3), (.int r_1), (.int p5)])) rfl (by rw [hml]; rfl) (argsL := [(.int r_1), (.int 3), (.int i0), (.int i1), (.int i2), (.int m0), (.int m1), (.int p3), (.int p5)]) (rest := [(.int p5)]) (lenOf pd_4 rfl) rfl (by show 2 * 0 + _ ≤ _; exact Nat.le_of_eq rfl) (hb hby at_188) (fun _ _ => ⟨rfl, e266, (by decide : 3 + 0 ≤ _), (by decide : 132 + 0 ≤ _)⟩)
                dsimp only [Pt.U, Pt.locs, Pt.cells, Pt.slots] at X268 lq268 yq268 zq268 st268 hQ268
                subst lq268 yq268 zq268
                obtain ⟨h268, e268⟩ : ∃ z, T268.heap = z := ⟨_, rfl⟩
                rw [e268] at hQ268
                obtain ⟨rfl, N268q, he268⟩ := hQ268
                have N268 := Fr.app N266 N268q
                rw [he268] at e268
                refine go_st st268 ?_
                show Go _ _ _ _ (T268.setTop (mkF m 191 #[iv p0, iv p1, .val (.long p2), .second, iv p3, iv p4, iv p5, iv 3, iv i0, iv i1, iv i2, iv m0, iv m1, iv p3, iv r_1, iv q2, iv ln2, rv b2, iv p5, iv m0] [(.int p5), (.int p5)]))
                refine go_st (fun t k => XS.icmpNo X268.here hx rfl (hb hby at_191) rfl (teq (rfl : p5 = p5)).2 k) ?_
                show Go _ _ _ _ (T268.setTop (mkF m 194 #[iv p0, iv p1, .val (.long p2), .second, iv p3, iv p4, iv p5, iv 3, iv i0, iv i1, iv i2, iv m0, iv m1, iv p3, iv r_1, iv q2, iv ln2, rv b2, iv p5, iv m0] []))
                refine go_st (fun t k => XS.iload X268.here hx rfl (hb hby at_194) rfl k) ?_
                refine go_st (fun t k => XS.iload X268.here hx rfl (hb hby at_196) rfl k) ?_
                refine go_st (fun t k => XS.iload X268.here hx rfl (hb hby at_198) rfl k) ?_
                refine go_st (fun t k => XS.iload X268.here hx rfl (hb hby at_200) rfl k) ?_
                refine go_st (fun t k => XS.iload X268.here hx rfl (hb hby at_202) rfl k) ?_
                refine go_st (fun t k => XS.iload X268.here hx rfl (hb hby at_204) rfl k) ?_
                refine go_st (fun t k => XS.iload X268.here hx rfl (hb hby at_206) rfl k) ?_
                refine go_st (fun t k => XS.iload X268.here hx rfl (hb hby at_208) rfl k) ?_
                refine go_st (fun t k => XS.iload X268.here hx rfl (hb hby at_210) rfl k) ?_
                refine go_st (fun t k => XS.iload X268.here hx rfl (hb hby at_212) rfl k) ?_
                show Go _ _ _ _ (T268.setTop (mkF m 214 #[iv p0, iv p1, .val (.long p2), .second, iv p3, iv p4, iv p5, iv 3, iv i0, iv i1, iv i2, iv m0, iv m1, iv p3, iv r_1, iv q2, iv ln2, rv b2, iv p5, iv m0] [(.int ln2), (.int p3), (.int m1), (.int m0), (.int i2), (.int i1), (.int i0), (.int 3), (.int q2), (.int m0)]))
                obtain ⟨_, _, ⟨T269, L269, kk269, nn269⟩, -, X269, ⟨Lc269, hQ269, lq269, yq269, zq269⟩, st269⟩ := Jvm.LawKit.callS X268 hx (y := (⟨"com/example/nudge/nudge/tree/BlockEntriesLineBeforePinLaw", "expected", "(IIIIIIIII)I"⟩ : MethodName)) hown (mvT hZ (w43 hw)) (mvT hZ (w44 hw)) (mvT hZ (w45 hw)) (mvT hZ (w46 hw)) (by decide) (backOf (W := 1) (rm_exp_31 l Z a0 hw [] q2 i0 i1 i2 m0 m1 p3 ln2 h266 n0 (Nat.le_trans Z0 sz267) hp264 hp251 hp238) hZ (w46 hw) (w45 hw) (by decide) (by decide)) (g := (mkF m 214 #[iv p0, iv p1, .val (.long p2), .second, iv p3, iv p4, iv p5, iv 3, iv i0, iv i1, iv i2, iv m0, iv m1, iv p3, iv r_1, iv q2, iv ln2, rv b2, iv p5, iv m0] [(.int ln2), (.int p3), (.int m1), (.int m0), (.int i2), (.int i1), (.int i0), (.int 3), (.int q2), (.int m0)])) rfl (by rw [hml]; rfl) (argsL := [(.int q2), (.int 3), (.int i0), (.int i1), (.int i2), (.int m0), (.int m1), (.int p3), (.int ln2)]) (rest := [(.int m0)]) (lenOf pd_4 rfl) rfl (by show 2 * 0 + _ ≤ _; exact Nat.le_of_eq rfl) (hb hby at_214) (fun _ _ => ⟨rfl, e268, (by decide : 3 + 0 ≤ _), (by decide : 132 + 0 ≤ _)⟩)
                dsimp only [Pt.U, Pt.locs, Pt.cells, Pt.slots] at X269 lq269 yq269 zq269 st269 hQ269
                subst lq269 yq269 zq269
                obtain ⟨h269, e269⟩ : ∃ z, T269.heap = z := ⟨_, rfl⟩
                rw [e269] at hQ269
                obtain ⟨rfl, N269q, he269⟩ := hQ269
                have N269 := Fr.app N268 N269q
                rw [he269] at e269
                refine go_st st269 ?_
                show Go _ _ _ _ (T269.setTop (mkF m 217 #[iv p0, iv p1, .val (.long p2), .second, iv p3, iv p4, iv p5, iv 3, iv i0, iv i1, iv i2, iv m0, iv m1, iv p3, iv r_1, iv q2, iv ln2, rv b2, iv p5, iv m0] [(.int m0), (.int m0)]))
                refine go_st (fun t k => XS.icmpNo X269.here hx rfl (hb hby at_217) rfl (teq (rfl : m0 = m0)).2 k) ?_
                show Go _ _ _ _ (T269.setTop (mkF m 220 #[iv p0, iv p1, .val (.long p2), .second, iv p3, iv p4, iv p5, iv 3, iv i0, iv i1, iv i2, iv m0, iv m1, iv p3, iv r_1, iv q2, iv ln2, rv b2, iv p5, iv m0] []))
                refine go_st (fun t k => XS.iconst X269.here hx rfl (hb hby at_220) k) ?_
                refine go_st (fun t k => XS.goto X269.here hx rfl (pc0 := 221) (pc' := 225) rfl (hb hby at_221) (by decide) (by decide) k) ?_
                show Go _ _ _ _ (T269.setTop (mkF m 225 #[iv p0, iv p1, .val (.long p2), .second, iv p3, iv p4, iv p5, iv 3, iv i0, iv i1, iv i2, iv m0, iv m1, iv p3, iv r_1, iv q2, iv ln2, rv b2, iv p5, iv m0] [(.int 1)]))
                have ke270 : Keep h0 h2 [] := (Keep.ext (Keep.refl h0 []) E2)
                have ke271 : Keep h0 h7 [] := (Keep.trans ke270 K7 (allS (Or.inr (Nat.le_of_eq gq2.symm)) all0))
                have ke272 : Keep h0 h147 [] := (Keep.trans ke271 K147 (allS (Or.inr (Nat.le_of_eq gq2.symm)) (allS (Or.inr (Nat.le_trans E2.1 lf7_0)) (allS (Or.inr (Nat.le_trans E2.1 lf7_1)) all0))))
                have ke273 : Keep h0 h149 [] := (Keep.trans ke272 K149 (allS (Or.inr (Nat.le_of_eq gq2.symm)) (allS (Or.inr (Nat.le_trans E2.1 lf7_0)) (allS (Or.inr (Nat.le_trans E2.1 lf7_1)) all0))))
                have ke274 : Keep h0 h151 [] := (Keep.trans ke273 K151 (allS (Or.inr (Nat.le_of_eq gq2.symm)) (allS (Or.inr (Nat.le_trans E2.1 lf7_0)) (allS (Or.inr (Nat.le_trans E2.1 lf7_1)) all0))))
                have ke275 : Keep h0 h237 [] := (Keep.trans ke274 K237 (allS (Or.inr (Nat.le_of_eq gq2.symm)) all0))
                have ke276 : Keep h0 h266 [] := (Keep.trans ke275 K266 (allS (Or.inr (Nat.le_of_eq gq2.symm)) all0))
                obtain ⟨fs, hr, hrun, hended, hW, hsame⟩ := X269.leave (v := some (.int 1)) (fun h => by rw [Bd.returns] at h; cases h)
                refine ⟨_, _, ?_, hrun, hended, _, _, rfl, ?_, ⟨_, rfl⟩, hW, hsame.mono (by decide) (by decide)⟩
                · exact retN X269 hx (t := .boolean) Bd.returns (by simp) (hb hby at_225) hr
                · show Q_law _ _ _ _ _ _ _ _ _ _ T269.heap _
                  rw [e269]
                  exact ⟨rfl, N269, ke276⟩
              · skip
                have sz277 : h0.size ≤ h237.size := (Nat.le_trans sz236 K237.1)
                obtain ⟨cq278, kq278, q278a, q278b, q278c⟩ := isOf hZ e237 p237_0
                obtain ⟨_, _, ⟨T278, L278, kk278, nn278⟩, -, X278, ⟨Lc278, hQ278, lq278, yq278, zq278⟩, st278⟩ := X237.virtualBack hx (y := (⟨"com/example/nudge/nudge/tree/BlockEntries", "lineBefore", "(II)I"⟩ : MethodName)) (z := (⟨"com/example/nudge/nudge/tree/BlockEntries", "lineBefore", "(II)I"⟩ : MethodName)) hown (mvT hZ (w26 hw)) (mvT hZ (w27 hw)) (notFace_of_selects (args := #[]) (mvT hZ (w29 hw))) (mvT hZ (w29 hw)) (mvT hZ (w28 hw)) (by decide) (backOf (W := 0) (rm_lb_030 l Z a0 hw [] b2 ax_7 al_7 kx_7 kl_7 q2 ln2 i0 i1 i2 m0 m1 p3 h237 n0 (Nat.le_trans Z0 sz277) p237_0 p237_1 p237_2 p237_3 p237_4 p237_5 p237_6 nq144 nq145 nx7_2 g_b2 s0 s1 hp264) hZ (w30 hw) (w7 hw) (by decide) (by decide)) q278a q278c (g := (mkF m 163 #[iv p0, iv p1, .val (.long p2), .second, iv p3, iv p4, iv p5, iv 3, iv i0, iv i1, iv i2, iv m0, iv m1, iv p3, iv r_1, iv q2, iv ln2, rv b2, iv p5, .unset] [(.int ln2), (.int q2), (.ref b2)])) rfl (by rw [hml]; rfl) (Steps.refl _) (argsL := [(.int q2), (.int ln2)]) (rest := []) (lenOf pd_2 rfl) rfl (by show 2 * 0 + _ ≤ _; exact Nat.le_of_eq rfl) (hb hby at_163) (fun _ _ => ⟨rfl, e237, (by decide : 3 + 0 ≤ _), (by decide : 132 + 0 ≤ _)⟩)
                dsimp only [Pt.U, Pt.locs, Pt.cells, Pt.slots] at X278 lq278 yq278 zq278 st278 hQ278
                subst lq278 yq278 zq278
                obtain ⟨h278, e278⟩ : ∃ z, T278.heap = z := ⟨_, rfl⟩
                rw [e278] at hQ278
                obtain ⟨rfl, N278q, K278, p278_0, p278_1, p278_2, p278_3, p278_4, p278_5, p278_6⟩ := hQ278
                have N278 := Fr.app N237 N278q
                refine go_tr st278 ?_
                show Go _ _ _ _ (T278.setTop (mkF m 166 #[iv p0, iv p1, .val (.long p2), .second, iv p3, iv p4, iv p5, iv 3, iv i0, iv i1, iv i2, iv m0, iv m1, iv p3, iv r_1, iv q2, iv ln2, rv b2, iv p5, .unset] [(.int ln2)]))
                refine go_st (fun t k => XS.istore X278.here hx rfl (hb hby at_166) rfl (l' := #[iv p0, iv p1, .val (.long p2), .second, iv p3, iv p4, iv p5, iv 3, iv i0, iv i1, iv i2, iv m0, iv m1, iv p3, iv r_1, iv q2, iv ln2, rv b2, iv p5, iv ln2]) rfl k) ?_
                refine go_st (fun t k => XS.iload X278.here hx rfl (hb hby at_168) rfl k) ?_
                refine go_st (fun t k => XS.iload X278.here hx rfl (hb hby at_170) rfl k) ?_
                refine go_st (fun t k => XS.iload X278.here hx rfl (hb hby at_172) rfl k) ?_
                refine go_st (fun t k => XS.iload X278.here hx rfl (hb hby at_174) rfl k) ?_
                refine go_st (fun t k => XS.iload X278.here hx rfl (hb hby at_176) rfl k) ?_
                refine go_st (fun t k => XS.iload X278.here hx rfl (hb hby at_178) rfl k) ?_
                refine go_st (fun t k => XS.iload X278.here hx rfl (hb hby at_180) rfl k) ?_
                refine go_st (fun t k => XS.iload X278.here hx rfl (hb hby at_182) rfl k) ?_
                refine go_st (fun t k => XS.iload X278.here hx rfl (hb hby at_184) rfl k) ?_
                refine go_st (fun t k => XS.iload X278.here hx rfl (hb hby at_186) rfl k) ?_
                show Go _ _ _ _ (T278.setTop (mkF m 188 #[iv p0, iv p1, .val (.long p2), .second, iv p3, iv p4, iv p5, iv 3, iv i0, iv i1, iv i2, iv m0, iv m1, iv p3, iv r_1, iv q2, iv ln2, rv b2, iv p5, iv ln2] [(.int p5), (.int p3), (.int m1), (.int m0), (.int i2), (.int i1), (.int i0), (.int 3), (.int r_1), (.int p5)]))
                have sz279 : h0.size ≤ h278.size := (Nat.le_trans sz277 K278.1)
                obtain ⟨_, _, ⟨T280, L280, kk280, nn280⟩, -, X280, ⟨Lc280, hQ280, lq280, yq280, zq280⟩, st280⟩ := Jvm.LawKit.callS X278 hx (y := (⟨"com/example/nudge/nudge/tree/BlockEntriesLineBeforePinLaw", "expected", "(IIIIIIIII)I"⟩ : MethodName)) hown (mvT hZ (w43 hw)) (mvT hZ (w44 hw)) (mvT hZ (w45 hw)) (mvT hZ (w46 hw)) (by decide) (backOf (W := 1) (rm_exp_30 l Z a0 hw [] r_1 i0 i1 i2 m0 m1 p3 p5 h278 n0 (Nat.le_trans Z0 sz279) hp195 hp167 hp152) hZ (w46 hw) (w45 hw) (by decide) (by decide)) (g := (mkF m 188 #[iv p0, iv p1, .val (.long p2), .second, iv p3, iv p4, iv p5, iv 3, iv i0, iv i1, iv i2, iv m0, iv m1, iv p3, iv r_1, iv q2, iv ln2, rv b2, iv p5, iv ln2] [(.int p5), (.int p3), (.int m1), (.int m0), (.int i2), (.int i1), (.int i0), (.int 3), (.int r_1), (.int p5)])) rfl (by rw [hml]; rfl) (argsL := [(.int r_1), (.int 3), (.int i0), (.int i1), (.int i2), (.int m0), (.int m1), (.int p3), (.int p5)]) (rest := [(.int p5)]) (lenOf pd_4 rfl) rfl (by show 2 * 0 + _ ≤ _; exact Nat.le_of_eq rfl) (hb hby at_188) (fun _ _ => ⟨rfl, e278, (by decide : 3 + 0 ≤ _), (by decide : 132 + 0 ≤ _)⟩)
                dsimp only [Pt.U, Pt.locs, Pt.cells, Pt.slots] at X280 lq280 yq280 zq280 st280 hQ280
                subst lq280 yq280 zq280
                obtain ⟨h280, e280⟩ : ∃ z, T280.heap = z := ⟨_, rfl⟩
                rw [e280] at hQ280
                obtain ⟨rfl, N280q, he280⟩ := hQ280
                have N280 := Fr.app N278 N280q
                rw [he280] at e280
                refine go_st st280 ?_
                show Go _ _ _ _ (T280.setTop (mkF m 191 #[iv p0, iv p1, .val (.long p2), .second, iv p3, iv p4, iv p5, iv 3, iv i0, iv i1, iv i2, iv m0, iv m1, iv p3, iv r_1, iv q2, iv ln2, rv b2, iv p5, iv ln2] [(.int p5), (.int p5)]))
                refine go_st (fun t k => XS.icmpNo X280.here hx rfl (hb hby at_191) rfl (teq (rfl : p5 = p5)).2 k) ?_
                show Go _ _ _ _ (T280.setTop (mkF m 194 #[iv p0, iv p1, .val (.long p2), .second, iv p3, iv p4, iv p5, iv 3, iv i0, iv i1, iv i2, iv m0, iv m1, iv p3, iv r_1, iv q2, iv ln2, rv b2, iv p5, iv ln2] []))
                refine go_st (fun t k => XS.iload X280.here hx rfl (hb hby at_194) rfl k) ?_
                refine go_st (fun t k => XS.iload X280.here hx rfl (hb hby at_196) rfl k) ?_
                refine go_st (fun t k => XS.iload X280.here hx rfl (hb hby at_198) rfl k) ?_
                refine go_st (fun t k => XS.iload X280.here hx rfl (hb hby at_200) rfl k) ?_
                refine go_st (fun t k => XS.iload X280.here hx rfl (hb hby at_202) rfl k) ?_
                refine go_st (fun t k => XS.iload X280.here hx rfl (hb hby at_204) rfl k) ?_
                refine go_st (fun t k => XS.iload X280.here hx rfl (hb hby at_206) rfl k) ?_
                refine go_st (fun t k => XS.iload X280.here hx rfl (hb hby at_208) rfl k) ?_
                refine go_st (fun t k => XS.iload X280.here hx rfl (hb hby at_210) rfl k) ?_
                refine go_st (fun t k => XS.iload X280.here hx rfl (hb hby at_212) rfl k) ?_
                show Go _ _ _ _ (T280.setTop (mkF m 214 #[iv p0, iv p1, .val (.long p2), .second, iv p3, iv p4, iv p5, iv 3, iv i0, iv i1, iv i2, iv m0, iv m1, iv p3, iv r_1, iv q2, iv ln2, rv b2, iv p5, iv ln2] [(.int ln2), (.int p3), (.int m1), (.int m0), (.int i2), (.int i1), (.int i0), (.int 3), (.int q2), (.int ln2)]))
                obtain ⟨_, _, ⟨T281, L281, kk281, nn281⟩, -, X281, ⟨Lc281, hQ281, lq281, yq281, zq281⟩, st281⟩ := Jvm.LawKit.callS X280 hx (y := (⟨"com/example/nudge/nudge/tree/BlockEntriesLineBeforePinLaw", "expected", "(IIIIIIIII)I"⟩ : MethodName)) hown (mvT hZ (w43 hw)) (mvT hZ (w44 hw)) (mvT hZ (w45 hw)) (mvT hZ (w46 hw)) (by decide) (backOf (W := 1) (rm_exp_30 l Z a0 hw [] q2 i0 i1 i2 m0 m1 p3 ln2 h278 n0 (Nat.le_trans Z0 sz279) hp264 hp251 hp238) hZ (w46 hw) (w45 hw) (by decide) (by decide)) (g := (mkF m 214 #[iv p0, iv p1, .val (.long p2), .second, iv p3, iv p4, iv p5, iv 3, iv i0, iv i1, iv i2, iv m0, iv m1, iv p3, iv r_1, iv q2, iv ln2, rv b2, iv p5, iv ln2] [(.int ln2), (.int p3), (.int m1), (.int m0), (.int i2), (.int i1), (.int i0), (.int 3), (.int q2), (.int ln2)])) rfl (by rw [hml]; rfl) (argsL := [(.int q2), (.int 3), (.int i0), (.int i1), (.int i2), (.int m0), (.int m1), (.int p3), (.int ln2)]) (rest := [(.int ln2)]) (lenOf pd_4 rfl) rfl (by show 2 * 0 + _ ≤ _; exact Nat.le_of_eq rfl) (hb hby at_214) (fun _ _ => ⟨rfl, e280, (by decide : 3 + 0 ≤ _), (by decide : 132 + 0 ≤ _)⟩)
                dsimp only [Pt.U, Pt.locs, Pt.cells, Pt.slots] at X281 lq281 yq281 zq281 st281 hQ281
                subst lq281 yq281 zq281
                obtain ⟨h281, e281⟩ : ∃ z, T281.heap = z := ⟨_, rfl⟩
                rw [e281] at hQ281
                obtain ⟨rfl, N281q, he281⟩ := hQ281
                have N281 := Fr.app N280 N281q
                rw [he281] at e281
                refine go_st st281 ?_
                show Go _ _ _ _ (T281.setTop (mkF m 217 #[iv p0, iv p1, .val (.long p2), .second, iv p3, iv p4, iv p5, iv 3, iv i0, iv i1, iv i2, iv m0, iv m1, iv p3, iv r_1, iv q2, iv ln2, rv b2, iv p5, iv ln2] [(.int ln2), (.int ln2)]))
                refine go_st (fun t k => XS.icmpNo X281.here hx rfl (hb hby at_217) rfl (teq (rfl : ln2 = ln2)).2 k) ?_
                show Go _ _ _ _ (T281.setTop (mkF m 220 #[iv p0, iv p1, .val (.long p2), .second, iv p3, iv p4, iv p5, iv 3, iv i0, iv i1, iv i2, iv m0, iv m1, iv p3, iv r_1, iv q2, iv ln2, rv b2, iv p5, iv ln2] []))
                refine go_st (fun t k => XS.iconst X281.here hx rfl (hb hby at_220) k) ?_
                refine go_st (fun t k => XS.goto X281.here hx rfl (pc0 := 221) (pc' := 225) rfl (hb hby at_221) (by decide) (by decide) k) ?_
                show Go _ _ _ _ (T281.setTop (mkF m 225 #[iv p0, iv p1, .val (.long p2), .second, iv p3, iv p4, iv p5, iv 3, iv i0, iv i1, iv i2, iv m0, iv m1, iv p3, iv r_1, iv q2, iv ln2, rv b2, iv p5, iv ln2] [(.int 1)]))
                have ke282 : Keep h0 h2 [] := (Keep.ext (Keep.refl h0 []) E2)
                have ke283 : Keep h0 h7 [] := (Keep.trans ke282 K7 (allS (Or.inr (Nat.le_of_eq gq2.symm)) all0))
                have ke284 : Keep h0 h147 [] := (Keep.trans ke283 K147 (allS (Or.inr (Nat.le_of_eq gq2.symm)) (allS (Or.inr (Nat.le_trans E2.1 lf7_0)) (allS (Or.inr (Nat.le_trans E2.1 lf7_1)) all0))))
                have ke285 : Keep h0 h149 [] := (Keep.trans ke284 K149 (allS (Or.inr (Nat.le_of_eq gq2.symm)) (allS (Or.inr (Nat.le_trans E2.1 lf7_0)) (allS (Or.inr (Nat.le_trans E2.1 lf7_1)) all0))))
                have ke286 : Keep h0 h151 [] := (Keep.trans ke285 K151 (allS (Or.inr (Nat.le_of_eq gq2.symm)) (allS (Or.inr (Nat.le_trans E2.1 lf7_0)) (allS (Or.inr (Nat.le_trans E2.1 lf7_1)) all0))))
                have ke287 : Keep h0 h237 [] := (Keep.trans ke286 K237 (allS (Or.inr (Nat.le_of_eq gq2.symm)) all0))
                have ke288 : Keep h0 h278 [] := (Keep.trans ke287 K278 (allS (Or.inr (Nat.le_of_eq gq2.symm)) all0))
                obtain ⟨fs, hr, hrun, hended, hW, hsame⟩ := X281.leave (v := some (.int 1)) (fun h => by rw [Bd.returns] at h; cases h)
                refine ⟨_, _, ?_, hrun, hended, _, _, rfl, ?_, ⟨_, rfl⟩, hW, hsame.mono (by decide) (by decide)⟩
                · exact retN X281 hx (t := .boolean) Bd.returns (by simp) (hb hby at_225) hr
                · show Q_law _ _ _ _ _ _ _ _ _ _ T281.heap _
                  rw [e281]
                  exact ⟨rfl, N281, ke288⟩
set_option maxRecDepth 65536 in
set_option maxHeartbeats 40000000 in
theorem comes_1 {Post : Tables → Env → Array Value → State → Outcome → State → Prop} (hpost : ∀ tb e args s v u, (limb_1_1.after args s (.returned v) u = true ∧ limb_1_2.after args s (.returned v) u = true ∧ True) → FrameEnd s (.returned v) u (Jvm.fieldLocs frame_1_writes args s ++ Jvm.arrayLocs frame_1_arrays args s ++ Jvm.staticLocs frame_1_statics s) 16 384 → Post tb e args s (.returned v) u) :
    ArmFor flags0 classFile x code maxLocals ret World_1 tables_1 room_1 Calls_1 rest_1 Pre_1 Post := by
  intro l hfl _ _ p e ha hc hk s m args below hf hA hF happ hP
  obtain ⟨hcalls, hrest, hpre⟩ := hP
  obtain ⟨-, -, -, hnamed, -, -, -, hat⟩ := (Spec.applies_iff hf).mp happ
  obtain ⟨hg, hn⟩ := and_e (Cond.before_iff.mp (show (Jvm.Cond.and given_1 narrow_1).before args s = true from hpre))
  obtain ⟨hcnt, ha0⟩ := and_e hg
  obtain ⟨gi0, ha1⟩ := and_e ha0
  obtain ⟨gi1, ha2⟩ := and_e ha1
  obtain ⟨gi2, ha3⟩ := and_e ha2
  obtain ⟨gi3, ha4⟩ := and_e ha3
  obtain ⟨gi4, ha5⟩ := and_e ha4
  have gi5 := ha5
  obtain ⟨w0_, w1_, w2_, w3_, w4_, w5_, rfl⟩ : ∃ w0_ w1_ w2_ w3_ w4_ w5_ : Value, args = #[w0_, w1_, w2_, w3_, w4_, w5_] := by
    have hs : args.size = 6 := by simpa [Cond.value, given_1] using hcnt
    obtain ⟨L⟩ := args
    match L, hs with
    | [w0_, w1_, w2_, w3_, w4_, w5_], _ => exact ⟨w0_, w1_, w2_, w3_, w4_, w5_, rfl⟩
  have hw := fun d (hd : d ∈ tables_1) => atoms_spec (ws := Jvm.Cond.code x code maxLocals ret :: tables_1) hat d (List.mem_cons_of_mem _ hd)
  have hfit : Fit s := fun {y c} hc i hi => by
    obtain ⟨ha, rfl⟩ := Array.getElem?_eq_some_iff.mp hc
    have q := List.all_eq_true.mp ((Array.all_eq_true_iff_forall_mem.mp hF) _ (Array.getElem_mem ha)) i (List.mem_range.mpr hi)
    simpa [Array.getElem?_eq_getElem hi] using q
  obtain ⟨i0, ei0⟩ := is_v gi0
  obtain rfl : w0_ = (.int i0) := Option.some.inj ei0
  obtain ⟨i1, ei1⟩ := is_v gi1
  obtain rfl : w1_ = (.int i1) := Option.some.inj ei1
  obtain ⟨i2, ei2⟩ := isL_v gi2
  obtain rfl : w2_ = (.long i2) := Option.some.inj ei2
  obtain ⟨i3, ei3⟩ := is_v gi3
  obtain rfl : w3_ = (.int i3) := Option.some.inj ei3
  obtain ⟨i4, ei4⟩ := is_v gi4
  obtain rfl : w4_ = (.int i4) := Option.some.inj ei4
  obtain ⟨i5, ei5⟩ := is_v gi5
  obtain rfl : w5_ = (.int i5) := Option.some.inj ei5
  obtain ⟨n, o, h1, h2, h3, _, L, rfl, ⟨rfl, N, -⟩, hq⟩ := rm_law l s _ hw tables_1 i0 i1 i2 i3 i4 i5 s.heap s.heap.size (Nat.le_refl _) p e ha hc hk s m _ below hf ((Spec.applies_iff_loose hf).mp happ).1 ⟨rfl, State.Warmed39.refl s, rfl⟩ trivial
  refine ⟨n, _, h1, h2, h3, hpost _ _ _ _ _ _ ⟨Cond.after_iff.mpr rfl, Cond.after_iff.mpr (eq_i res_at (Term.int_eval (1)) rfl), trivial⟩ ⟨hq.1, hq.2.1, (hq.2.2.sift fun y hy => Or.inr (N y hy)).mono (by decide) (by decide)⟩⟩
theorem main_1_1 : Claimed_1_1 := comes_1 fun _ _ _ _ _ _ h hF => ⟨h.1, hF⟩
theorem main_1_2 : Claimed_1_2 := comes_1 fun _ _ _ _ _ _ h hF => ⟨h.2.1, hF⟩
end Jvm.Pilot.@@N@@
namespace Jvm.Pilot.@@N@@
open Jvm Jvm.ClassFile Sem Op Lib Jvm.Free Jvm.Stand Jvm.Pilot.@@N@@.Jvm.D
/-! MADE BY PROGRAM (witnessworld.py) out of the Statement's table words and the real class files: 11 classes; the members and pool entries that the words name. The judged class is class 1, her method 2. -/
namespace start1
open Jvm.ClassFile
def u (s : String) : CpInfo := .utf8 (stringToUtf16 s)
/-- a pool by its gaps: so many unusable entries, then the entry; so many at the end -/
def gap : Nat → List CpInfo → List CpInfo
  | 0, r => r
  | n + 1, r => .unusable :: gap n r
def poolList (es : List (Nat × CpInfo)) (last : Nat) : List CpInfo := es.foldr (fun e r => gap e.1 (e.2 :: r)) (gap last [])
def pool (es : List (Nat × CpInfo)) (last : Nat) : Array CpInfo := ⟨poolList es last⟩
def fileOf (pool : Array CpInfo) (this : Nat) (attrs : Array Attribute := #[]) (ms : Array MethodInfo := #[]) (fl : Nat := 33) (sup : Nat := 0) (ifs : Array Nat := #[]) (fds : Array FieldInfo := #[]) : ClassFile where
  minorVersion := 0
  majorVersion := 65
  constantPool := pool
  accessFlags := fl
  thisClass := this
  superClass := sup
  interfaces := ifs
  fields := fds
  methods := ms
  attributes := attrs
def plain (name : String) (sup : Option ClassId) : Class where
  name := name
  kind := .ordinary
  loader := none
  accessFlags := 33
  super := sup
  interfaces := #[]
  cf := none
  fields := #[]
  methods := #[]
  instanceTypes := #[]
  staticTypes := #[]
  resolved := #[]
  callSites := []
  init := .initialized
  statics := none
  mirror := none

def pool0 : Array CpInfo := pool [(5, u "<init>"), (0, u "()V"), (1, .class_ 10), (1, u "java/lang/Object")] 113

def k0c0 : Code := { maxStack := 0, maxLocals := 1, code := object_method_1_code, exceptionTable := #[], attributes := #[] }
def k0m0 : Method := { name := "<init>", desc := "()V", sig := { parameters := [], returnType := none }, accessFlags := 1, code := some k0c0 }
/-- java/lang/Object -/
def k0 : Class := { plain "java/lang/Object" none with
  accessFlags := 33
  interfaces := #[]
  cf := some (fileOf pool0 8 #[] #[{ accessFlags := 1, nameIndex := 5, descriptorIndex := 6, attributes := #[] }] 33 0 #[] #[])
  fields := #[]
  methods := #[k0m0]
  instanceTypes := #[]
  staticTypes := #[]
  resolved := Array.replicate 124 none
  statics := none }

def pool1 : Array CpInfo := pool [(2, .class_ 4), (0, .nameAndType 5 6), (0, u "java/lang/Object"), (0, u "<init>"), (0, u "()V"), (0, .integer 1073741823), (0, .methodref 9 10), (0, .class_ 11), (0, .nameAndType 12 13), (0, u "java/lang/Math"), (0, u "max"), (0, u "(II)I"), (0, .class_ 15), (0, u "com/example/nudge/nudge/tree/BlockEntries"), (0, .methodref 14 3), (0, .methodref 14 18), (0, .nameAndType 19 20), (0, u "note"), (0, u "(II)V"), (0, .methodref 14 22), (0, .nameAndType 23 13), (0, u "lineBefore"), (0, .methodref 25 26), (0, .class_ 27), (0, .nameAndType 28 29), (0, u "com/example/nudge/nudge/tree/BlockEntriesLineBeforePinLaw"), (0, u "expected"), (0, u "(IIIIIIIII)I"), (3, u "law"), (0, u "(IIJIII)Z")] 2

def k1m0 : Method := { name := "<init>", desc := "()V", sig := { parameters := [], returnType := none }, accessFlags := 2, code := none }
def k1c1 : Code := { maxStack := 2, maxLocals := 9, code := method_2_code, exceptionTable := #[], attributes := #[] }
def k1m1 : Method := { name := "expected", desc := "(IIIIIIIII)I", sig := { parameters := [.int, .int, .int, .int, .int, .int, .int, .int, .int], returnType := some .int }, accessFlags := 10, code := some k1c1 }
def k1c2 : Code := { maxStack := 10, maxLocals := 20, code := code, exceptionTable := #[], attributes := #[] }
def k1m2 : Method := { name := "law", desc := "(IIJIII)Z", sig := { parameters := [.int, .int, .long, .int, .int, .int], returnType := some .boolean }, accessFlags := 9, code := some k1c2 }
/-- com/example/nudge/nudge/tree/BlockEntriesLineBeforePinLaw -/
def k1 : Class := { plain "com/example/nudge/nudge/tree/BlockEntriesLineBeforePinLaw" (some 0) with
  accessFlags := 49
  interfaces := #[]
  cf := some (fileOf pool1 25 #[] #[{ accessFlags := 2, nameIndex := 5, descriptorIndex := 6, attributes := #[] }, { accessFlags := 10, nameIndex := 28, descriptorIndex := 29, attributes := #[] }, { accessFlags := 9, nameIndex := 33, descriptorIndex := 34, attributes := #[] }] 49 2 #[] #[])
  fields := #[]
  methods := #[k1m0, k1m1, k1m2]
  instanceTypes := #[]
  staticTypes := #[]
  resolved := Array.replicate 37 none
  statics := none }

def pool2 : Array CpInfo := pool [(1, .class_ 2), (0, u "java/lang/Math"), (1, .class_ 6), (1, u "java/lang/Object"), (0, u "<init>"), (0, u "()V"), (89, .class_ 100), (1, u "java/lang/Math$RandomNumberGeneratorHolder"), (71, u "negativeZeroFloatBits"), (0, u "J"), (2, u "negativeZeroDoubleBits"), (21, u "max"), (46, u "$assertionsDisabled"), (0, u "Z"), (88, u "(II)I"), (2, u "twoToTheDoubleScaleDown"), (0, u "D"), (4, u "twoToTheDoubleScaleUp"), (9, u "E"), (3, u "PI"), (2, u "TAU"), (2, u "DEGREES_TO_RADIANS"), (0, u "RADIANS_TO_DEGREES")] 94

def k2m0 : Method := { name := "<init>", desc := "()V", sig := { parameters := [], returnType := none }, accessFlags := 2, code := none }
def k2c1 : Code := { maxStack := 2, maxLocals := 2, code := jdk_29_method_65_code, exceptionTable := #[], attributes := #[] }
def k2m1 : Method := { name := "max", desc := "(II)I", sig := { parameters := [.int, .int], returnType := some .int }, accessFlags := 9, code := some k2c1 }
/-- java/lang/Math -/
def k2 : Class := { plain "java/lang/Math" (some 0) with
  accessFlags := 49
  interfaces := #[]
  cf := some (fileOf pool2 1 #[.nestMembers #[98]] #[{ accessFlags := 2, nameIndex := 7, descriptorIndex := 8, attributes := #[] }, { accessFlags := 9, nameIndex := 198, descriptorIndex := 335, attributes := #[] }] 49 4 #[] #[{ accessFlags := 25, nameIndex := 354, descriptorIndex := 339, attributes := #[] }, { accessFlags := 25, nameIndex := 358, descriptorIndex := 339, attributes := #[] }, { accessFlags := 25, nameIndex := 361, descriptorIndex := 339, attributes := #[] }, { accessFlags := 26, nameIndex := 364, descriptorIndex := 339, attributes := #[] }, { accessFlags := 26, nameIndex := 365, descriptorIndex := 339, attributes := #[] }, { accessFlags := 26, nameIndex := 172, descriptorIndex := 173, attributes := #[] }, { accessFlags := 26, nameIndex := 176, descriptorIndex := 173, attributes := #[] }, { accessFlags := 8, nameIndex := 344, descriptorIndex := 339, attributes := #[] }, { accessFlags := 8, nameIndex := 338, descriptorIndex := 339, attributes := #[] }, { accessFlags := 4120, nameIndex := 245, descriptorIndex := 246, attributes := #[] }])
  fields := #[{ name := "E", type := .double, accessFlags := 25, slot := 0, constantValue := 0 }, { name := "PI", type := .double, accessFlags := 25, slot := 1, constantValue := 0 }, { name := "TAU", type := .double, accessFlags := 25, slot := 2, constantValue := 0 }, { name := "DEGREES_TO_RADIANS", type := .double, accessFlags := 26, slot := 3, constantValue := 0 }, { name := "RADIANS_TO_DEGREES", type := .double, accessFlags := 26, slot := 4, constantValue := 0 }, { name := "negativeZeroFloatBits", type := .long, accessFlags := 26, slot := 5, constantValue := 0 }, { name := "negativeZeroDoubleBits", type := .long, accessFlags := 26, slot := 6, constantValue := 0 }, { name := "twoToTheDoubleScaleUp", type := .double, accessFlags := 8, slot := 7, constantValue := 0 }, { name := "twoToTheDoubleScaleDown", type := .double, accessFlags := 8, slot := 8, constantValue := 0 }, { name := "$assertionsDisabled", type := .boolean, accessFlags := 4120, slot := 9, constantValue := 0 }]
  methods := #[k2m0, k2m1]
  instanceTypes := #[]
  staticTypes := #[.double, .double, .double, .double, .double, .long, .long, .double, .double, .boolean]
  resolved := Array.replicate 460 none
  statics := none }

def pool3 : Array CpInfo := pool [(1, .methodref 2 3), (0, .class_ 4), (0, .nameAndType 5 6), (0, u "java/lang/Object"), (0, u "<init>"), (0, u "()V"), (0, .fieldref 8 9), (0, .class_ 10), (0, .nameAndType 11 12), (0, u "com/example/nudge/nudge/tree/BlockEntries"), (0, u "indexes"), (0, u "[I"), (0, .fieldref 8 14), (0, .nameAndType 15 12), (0, u "lines"), (0, .fieldref 8 17), (0, .nameAndType 18 19), (0, u "count"), (0, u "I"), (0, .fieldref 8 21), (0, .nameAndType 22 19), (0, u "first"), (7, .class_ 32), (1, u "java/util/Arrays"), (2, .methodref 30 36), (0, .nameAndType 37 38), (0, u "binarySearch"), (0, u "([IIII)I"), (2, u "note"), (0, u "(II)V"), (1, u "lineBefore"), (0, u "(II)I")] 2

def k3c0 : Code := { maxStack := 2, maxLocals := 1, code := prog_17_method_1_code, exceptionTable := #[], attributes := #[] }
def k3m0 : Method := { name := "<init>", desc := "()V", sig := { parameters := [], returnType := none }, accessFlags := 0, code := some k3c0 }
def k3c1 : Code := { maxStack := 5, maxLocals := 3, code := prog_17_method_2_code, exceptionTable := #[], attributes := #[] }
def k3m1 : Method := { name := "note", desc := "(II)V", sig := { parameters := [.int, .int], returnType := none }, accessFlags := 0, code := some k3c1 }
def k3c2 : Code := { maxStack := 4, maxLocals := 6, code := prog_17_method_3_code, exceptionTable := #[], attributes := #[] }
def k3m2 : Method := { name := "lineBefore", desc := "(II)I", sig := { parameters := [.int, .int], returnType := some .int }, accessFlags := 0, code := some k3c2 }
/-- com/example/nudge/nudge/tree/BlockEntries -/
def k3 : Class := { plain "com/example/nudge/nudge/tree/BlockEntries" (some 0) with
  accessFlags := 48
  interfaces := #[]
  cf := some (fileOf pool3 8 #[] #[{ accessFlags := 0, nameIndex := 5, descriptorIndex := 6, attributes := #[] }, { accessFlags := 0, nameIndex := 41, descriptorIndex := 42, attributes := #[] }, { accessFlags := 0, nameIndex := 44, descriptorIndex := 45, attributes := #[] }] 48 2 #[] #[{ accessFlags := 2, nameIndex := 11, descriptorIndex := 12, attributes := #[] }, { accessFlags := 2, nameIndex := 15, descriptorIndex := 12, attributes := #[] }, { accessFlags := 2, nameIndex := 22, descriptorIndex := 19, attributes := #[] }, { accessFlags := 2, nameIndex := 18, descriptorIndex := 19, attributes := #[] }])
  fields := #[{ name := "indexes", type := (.array .int), accessFlags := 2, slot := 0, constantValue := 0 }, { name := "lines", type := (.array .int), accessFlags := 2, slot := 1, constantValue := 0 }, { name := "first", type := .int, accessFlags := 2, slot := 2, constantValue := 0 }, { name := "count", type := .int, accessFlags := 2, slot := 3, constantValue := 0 }]
  methods := #[k3m0, k3m1, k3m2]
  instanceTypes := #[(.array .int), (.array .int), .int, .int]
  staticTypes := #[]
  resolved := Array.replicate 48 none
  statics := none }

def pool4 : Array CpInfo := pool [(2, .class_ 4), (1, u "java/lang/Object"), (0, u "<init>"), (0, u "()V"), (6, .methodref 14 15), (0, .class_ 16), (0, .nameAndType 17 18), (0, u "java/util/Arrays"), (0, u "rangeCheck"), (0, u "(III)V"), (55, .class_ 76), (1, u "java/util/Arrays$NaturalOrder"), (36, .class_ 115), (1, u "java/util/Arrays$LegacyMergeSort"), (1, u "Z"), (89, u "binarySearch0"), (1, .methodref 14 210), (0, .nameAndType 207 211), (0, u "([IIII)I"), (163, .class_ 376), (0, u "java/util/Arrays$ArrayList"), (68, u "$assertionsDisabled"), (269, u "MIN_ARRAY_SORT_GRAN"), (0, u "I"), (2, u "INSERTIONSORT_THRESHOLD"), (74, u "binarySearch"), (180, .class_ 976), (0, u "java/util/Arrays$ArrayItr")] 52

def k4m0 : Method := { name := "<init>", desc := "()V", sig := { parameters := [], returnType := none }, accessFlags := 2, code := none }
def k4c1 : Code := { maxStack := 4, maxLocals := 3, code := jdk_65_method_30_code, exceptionTable := #[], attributes := #[] }
def k4m1 : Method := { name := "rangeCheck", desc := "(III)V", sig := { parameters := [.int, .int, .int], returnType := none }, accessFlags := 8, code := some k4c1 }
def k4c2 : Code := { maxStack := 4, maxLocals := 4, code := jdk_65_method_58_code, exceptionTable := #[], attributes := #[] }
def k4m2 : Method := { name := "binarySearch", desc := "([IIII)I", sig := { parameters := [(.array .int), .int, .int, .int], returnType := some .int }, accessFlags := 9, code := some k4c2 }
def k4c3 : Code := { maxStack := 2, maxLocals := 8, code := jdk_65_method_59_code, exceptionTable := #[], attributes := #[] }
def k4m3 : Method := { name := "binarySearch0", desc := "([IIII)I", sig := { parameters := [(.array .int), .int, .int, .int], returnType := some .int }, accessFlags := 10, code := some k4c3 }
/-- java/util/Arrays -/
def k4 : Class := { plain "java/util/Arrays" (some 0) with
  accessFlags := 49
  interfaces := #[]
  cf := some (fileOf pool4 14 #[.nestMembers #[975, 375, 113, 74]] #[{ accessFlags := 2, nameIndex := 5, descriptorIndex := 6, attributes := #[] }, { accessFlags := 8, nameIndex := 17, descriptorIndex := 18, attributes := #[] }, { accessFlags := 9, nameIndex := 794, descriptorIndex := 211, attributes := #[] }, { accessFlags := 10, nameIndex := 207, descriptorIndex := 211, attributes := #[] }] 49 2 #[] #[{ accessFlags := 26, nameIndex := 715, descriptorIndex := 716, attributes := #[] }, { accessFlags := 26, nameIndex := 719, descriptorIndex := 716, attributes := #[] }, { accessFlags := 4120, nameIndex := 445, descriptorIndex := 117, attributes := #[] }])
  fields := #[{ name := "MIN_ARRAY_SORT_GRAN", type := .int, accessFlags := 26, slot := 0, constantValue := 0 }, { name := "INSERTIONSORT_THRESHOLD", type := .int, accessFlags := 26, slot := 1, constantValue := 0 }, { name := "$assertionsDisabled", type := .boolean, accessFlags := 4120, slot := 2, constantValue := 0 }]
  methods := #[k4m0, k4m1, k4m2, k4m3]
  instanceTypes := #[]
  staticTypes := #[.int, .int, .boolean]
  resolved := Array.replicate 1029 none
  statics := none }

def pool5 : Array CpInfo := pool [(1, u "java/lang/Cloneable"), (0, .class_ 1), (0, u "java/lang/Object"), (0, .class_ 3)] 3

/-- java/lang/Cloneable -/
def k5 : Class := { plain "java/lang/Cloneable" (some 0) with
  accessFlags := 1537
  interfaces := #[]
  cf := some (fileOf pool5 2 #[] #[] 1537 4 #[] #[])
  fields := #[]
  methods := #[]
  instanceTypes := #[]
  staticTypes := #[]
  resolved := Array.replicate 8 none
  statics := none }

def pool6 : Array CpInfo := pool [(1, u "java/io/Serializable"), (0, .class_ 1), (0, u "java/lang/Object"), (0, .class_ 3)] 3

/-- java/io/Serializable -/
def k6 : Class := { plain "java/io/Serializable" (some 0) with
  accessFlags := 1537
  interfaces := #[]
  cf := some (fileOf pool6 2 #[] #[] 1537 4 #[] #[])
  fields := #[]
  methods := #[]
  instanceTypes := #[]
  staticTypes := #[]
  resolved := Array.replicate 8 none
  statics := none }

/-- the primitive byte -/
def k7 : Class := { plain "byte" none with kind := .primitive 'B', accessFlags := 0x411 }
/-- [B -/
def k8 : Class := { plain "[B" (some 0) with kind := .array 7 .byte, interfaces := #[5, 6], accessFlags := 1041 }

/-- the primitive int -/
def k9 : Class := { plain "int" none with kind := .primitive 'I', accessFlags := 0x411 }
/-- [I -/
def k10 : Class := { plain "[I" (some 0) with kind := .array 9 .int, interfaces := #[5, 6], accessFlags := 1041 }

def heap : Heap := #[]
def classes : Array Class := #[k0, k1, k2, k3, k4, k5, k6, k7, k8, k9, k10]
def interned : List (Array UInt16 × Addr) := []
def slotsUsed : Nat := 0
def theMethod : MethodId := ⟨1, 2⟩
def args0 : Array Value := #[.int 5, .int 7, .long 1, .int 2, .int 3, .int 3]
def aboutOver (below : List Frame) : State where
  vm := { classes := classes, interned := interned.toArray }
  heap := heap
  slotsUsed := slotsUsed
  threads := #[{ frames := .invoking theMethod args0 :: below }]
def below0 : List Frame := [.native { method := ⟨0, 0⟩, args := #[] }]
def about1 : State := aboutOver below0
def p0 : Program := .bare "" "" ""
def e0 : Env := launch0.env 0 0 0
theorem w_frames : about1.frames = Frame.invoking theMethod args0 :: below0 := rfl
set_option maxRecDepth 65536 in
theorem w_args : argsFit about1.vm theMethod args0 = true := by decide +kernel
set_option maxRecDepth 65536 in
theorem w_heap : heapFits about1 = true := by decide +kernel
set_option maxRecDepth 65536 in
theorem w_runnable : about1.curStatus? = some .runnable := by decide +kernel
set_option maxRecDepth 65536 in
theorem w_alone : about1.alone = true := by decide +kernel
set_option maxRecDepth 65536 in
theorem w_named : about1.methodNamed? x = some theMethod := by decide +kernel
set_option maxRecDepth 65536 in
theorem w_hears : about1.hears theMethod below0 = true := by decide +kernel
set_option maxRecDepth 65536 in
theorem w_ripe : about1.ripe theMethod args0 below0 = true := by decide +kernel
theorem w_running : about1.status = .running := rfl
set_option maxRecDepth 65536 in
theorem w_room : about1.hasRoom e0.platform room_1 = true :=
  launch0.hasRoom_least _ room_1 (by decide +kernel) (by decide +kernel) (by decide +kernel) (by decide +kernel) (by decide +kernel) (by decide +kernel)
theorem allAtoms_all (ts : List Jvm.Cond) (a : Array Jvm.Value) (st : Jvm.State) : (allAtoms ts).before a st = ts.all (fun c => c.before a st) := by
  induction ts with
  | nil => rfl
  | cons c t ih =>
    show (Jvm.Cond.and c (allAtoms t)).before a st = _
    rw [Jvm.Cond.before_and, ih, List.all_cons]
def words1 : List Jvm.Cond := Jvm.Cond.code x code maxLocals ret :: tables_1
/-- a 'code' word, met by the world's own term for the bytes: nothing is compared byte by byte -/
theorem code_word {y : MethodName} {bytes : ByteArray} {mx : Nat} {rt : Option FieldType} {a : Array Value} {s : State} {m : MethodId} {meth : Method} {c : Code} (h1 : s.methodNamed? y = some m) (h2 : s.vm.method? m = some meth) (h3 : meth.code = some c) (h4 : c.code = bytes)
    (h5 : (c.maxLocals == mx && c.exceptionTable.isEmpty && decide (c.maxStack ≤ mostOperands) && decide (meth.sig.returnType = rt) && !meth.locks && decide (parseMethodDescriptor y.desc = some meth.sig)) = true) : (Jvm.Cond.code y bytes mx rt).before a s = true := by
  simp only [Bool.and_eq_true, beq_iff_eq, Bool.not_eq_true', decide_eq_true_eq] at h5
  obtain ⟨⟨⟨⟨⟨g1, g2⟩, g3⟩, g4⟩, g5⟩, g6⟩ := h5
  simp [Cond.before, Cond.holds, Cond.value, h1, h2, h3, h4, g1, g2, g3, g4, g5, g6]
def isCode : Jvm.Cond → Bool
  | .code _ _ _ _ => true
  | _ => false
theorem all_split {L : List Jvm.Cond} {P : Jvm.Cond → Bool} (h1 : L.all (fun c => isCode c || P c) = true) (h2 : ∀ c ∈ L.filter isCode, P c = true) : L.all P = true := by
  refine List.all_eq_true.mpr fun c hc => ?_
  have h := List.all_eq_true.mp h1 c hc
  rcases Bool.eq_false_or_eq_true (isCode c) with hi | hi
  · exact h2 c (List.mem_filter.mpr ⟨hc, hi⟩)
  · simpa [hi] using h
set_option maxRecDepth 65536 in
theorem w_c0 : (Jvm.Cond.code x code maxLocals ret).before args0 about1 = true := code_word (m := ⟨1, 2⟩) (meth := k1m2) (c := k1c2) (by decide +kernel) rfl rfl rfl (by decide +kernel)
set_option maxRecDepth 65536 in
theorem w_c1 : (Jvm.Cond.code ({ cls := "java/lang/Math", name := "max", desc := "(II)I" } : Jvm.MethodName) jdk_29_method_65_code (2 : Nat) (Option.some Jvm.ClassFile.FieldType.int)).before args0 about1 = true := code_word (m := ⟨2, 1⟩) (meth := k2m1) (c := k2c1) (by decide +kernel) rfl rfl rfl (by decide +kernel)
set_option maxRecDepth 65536 in
theorem w_c2 : (Jvm.Cond.code ({ cls := "com/example/nudge/nudge/tree/BlockEntries", name := "<init>", desc := "()V" } : Jvm.MethodName) prog_17_method_1_code (1 : Nat) (Option.none : Option Jvm.ClassFile.FieldType)).before args0 about1 = true := code_word (m := ⟨3, 0⟩) (meth := k3m0) (c := k3c0) (by decide +kernel) rfl rfl rfl (by decide +kernel)
set_option maxRecDepth 65536 in
theorem w_c3 : (Jvm.Cond.code ({ cls := "java/lang/Object", name := "<init>", desc := "()V" } : Jvm.MethodName) object_method_1_code (1 : Nat) (Option.none : Option Jvm.ClassFile.FieldType)).before args0 about1 = true := code_word (m := ⟨0, 0⟩) (meth := k0m0) (c := k0c0) (by decide +kernel) rfl rfl rfl (by decide +kernel)
set_option maxRecDepth 65536 in
theorem w_c4 : (Jvm.Cond.code ({ cls := "com/example/nudge/nudge/tree/BlockEntries", name := "note", desc := "(II)V" } : Jvm.MethodName) prog_17_method_2_code (3 : Nat) (Option.none : Option Jvm.ClassFile.FieldType)).before args0 about1 = true := code_word (m := ⟨3, 1⟩) (meth := k3m1) (c := k3c1) (by decide +kernel) rfl rfl rfl (by decide +kernel)
set_option maxRecDepth 65536 in
theorem w_c5 : (Jvm.Cond.code ({ cls := "com/example/nudge/nudge/tree/BlockEntries", name := "lineBefore", desc := "(II)I" } : Jvm.MethodName) prog_17_method_3_code (6 : Nat) (Option.some Jvm.ClassFile.FieldType.int)).before args0 about1 = true := code_word (m := ⟨3, 2⟩) (meth := k3m2) (c := k3c2) (by decide +kernel) rfl rfl rfl (by decide +kernel)
set_option maxRecDepth 65536 in
theorem w_c6 : (Jvm.Cond.code ({ cls := "java/util/Arrays", name := "binarySearch", desc := "([IIII)I" } : Jvm.MethodName) jdk_65_method_58_code (4 : Nat) (Option.some Jvm.ClassFile.FieldType.int)).before args0 about1 = true := code_word (m := ⟨4, 2⟩) (meth := k4m2) (c := k4c2) (by decide +kernel) rfl rfl rfl (by decide +kernel)
set_option maxRecDepth 65536 in
theorem w_c7 : (Jvm.Cond.code ({ cls := "java/util/Arrays", name := "rangeCheck", desc := "(III)V" } : Jvm.MethodName) jdk_65_method_30_code (3 : Nat) (Option.none : Option Jvm.ClassFile.FieldType)).before args0 about1 = true := code_word (m := ⟨4, 1⟩) (meth := k4m1) (c := k4c1) (by decide +kernel) rfl rfl rfl (by decide +kernel)
set_option maxRecDepth 65536 in
theorem w_c8 : (Jvm.Cond.code ({ cls := "java/util/Arrays", name := "binarySearch0", desc := "([IIII)I" } : Jvm.MethodName) jdk_65_method_59_code (8 : Nat) (Option.some Jvm.ClassFile.FieldType.int)).before args0 about1 = true := code_word (m := ⟨4, 3⟩) (meth := k4m3) (c := k4c3) (by decide +kernel) rfl rfl rfl (by decide +kernel)
set_option maxRecDepth 65536 in
theorem w_c9 : (Jvm.Cond.code ({ cls := "com/example/nudge/nudge/tree/BlockEntriesLineBeforePinLaw", name := "expected", desc := "(IIIIIIIII)I" } : Jvm.MethodName) method_2_code (9 : Nat) (Option.some Jvm.ClassFile.FieldType.int)).before args0 about1 = true := code_word (m := ⟨1, 1⟩) (meth := k1m1) (c := k1c1) (by decide +kernel) rfl rfl rfl (by decide +kernel)
def codes1 : List Jvm.Cond := [Jvm.Cond.code x code maxLocals ret, Jvm.Cond.code ({ cls := "java/lang/Math", name := "max", desc := "(II)I" } : Jvm.MethodName) jdk_29_method_65_code (2 : Nat) (Option.some Jvm.ClassFile.FieldType.int), Jvm.Cond.code ({ cls := "com/example/nudge/nudge/tree/BlockEntries", name := "<init>", desc := "()V" } : Jvm.MethodName) prog_17_method_1_code (1 : Nat) (Option.none : Option Jvm.ClassFile.FieldType), Jvm.Cond.code ({ cls := "java/lang/Object", name := "<init>", desc := "()V" } : Jvm.MethodName) object_method_1_code (1 : Nat) (Option.none : Option Jvm.ClassFile.FieldType), Jvm.Cond.code ({ cls := "com/example/nudge/nudge/tree/BlockEntries", name := "note", desc := "(II)V" } : Jvm.MethodName) prog_17_method_2_code (3 : Nat) (Option.none : Option Jvm.ClassFile.FieldType), Jvm.Cond.code ({ cls := "com/example/nudge/nudge/tree/BlockEntries", name := "lineBefore", desc := "(II)I" } : Jvm.MethodName) prog_17_method_3_code (6 : Nat) (Option.some Jvm.ClassFile.FieldType.int), Jvm.Cond.code ({ cls := "java/util/Arrays", name := "binarySearch", desc := "([IIII)I" } : Jvm.MethodName) jdk_65_method_58_code (4 : Nat) (Option.some Jvm.ClassFile.FieldType.int), Jvm.Cond.code ({ cls := "java/util/Arrays", name := "rangeCheck", desc := "(III)V" } : Jvm.MethodName) jdk_65_method_30_code (3 : Nat) (Option.none : Option Jvm.ClassFile.FieldType), Jvm.Cond.code ({ cls := "java/util/Arrays", name := "binarySearch0", desc := "([IIII)I" } : Jvm.MethodName) jdk_65_method_59_code (8 : Nat) (Option.some Jvm.ClassFile.FieldType.int), Jvm.Cond.code ({ cls := "com/example/nudge/nudge/tree/BlockEntriesLineBeforePinLaw", name := "expected", desc := "(IIIIIIIII)I" } : Jvm.MethodName) method_2_code (9 : Nat) (Option.some Jvm.ClassFile.FieldType.int)]
set_option maxRecDepth 65536 in
theorem codes_eq : words1.filter isCode = codes1 := rfl
theorem w_codes : ∀ c ∈ words1.filter isCode, c.before args0 about1 = true := by
  rw [codes_eq]
  intro c hc
  simp only [codes1, List.mem_cons, List.not_mem_nil, or_false] at hc
  rcases hc with rfl | rfl | rfl | rfl | rfl | rfl | rfl | rfl | rfl | rfl
  · exact w_c0
  · exact w_c1
  · exact w_c2
  · exact w_c3
  · exact w_c4
  · exact w_c5
  · exact w_c6
  · exact w_c7
  · exact w_c8
  · exact w_c9
set_option maxRecDepth 65536 in
theorem w_t1 : (words1.take 24).all (fun c => isCode c || c.before args0 about1) = true := by decide +kernel
set_option maxRecDepth 65536 in
theorem w_t2 : (words1.drop 24).all (fun c => isCode c || c.before args0 about1) = true := by decide +kernel
theorem w_tables : (allAtoms (Jvm.Cond.code x code maxLocals ret :: tables_1)).before args0 about1 = true := by
  rw [allAtoms_all]
  show words1.all (fun c => c.before args0 about1) = true
  refine all_split ?_ w_codes
  rw [← List.take_append_drop 24 words1, List.all_append, w_t1, w_t2]
  rfl
set_option maxRecDepth 65536 in
theorem w_case : (Jvm.Cond.and given_1 narrow_1).before args0 about1 = true := by decide +kernel
theorem w_applies : (headSpec (Jvm.Cond.code x code maxLocals ret :: tables_1) room_1).applies x e0.platform about1 = true :=
  (Spec.applies_iff w_frames).mpr ⟨w_running, w_runnable, w_alone, w_named, w_hears, w_ripe, w_room, w_tables⟩
theorem atStart : AtStart classFile x code maxLocals ret World_1 tables_1 room_1 Calls_1 rest_1 Pre_1 launch0 p0 e0 about1 theMethod args0 below0 :=
  ⟨lists_1, trivial, launch0.admits_env _ _ _, launch0.least_env, fairChoices_fair.cas, fairChoices_fair.clock, w_frames, w_args, w_heap, w_applies, trivial, trivial, w_case⟩
end start1
theorem witness_1 : WitnessClaimed_1 := ⟨start1.p0, start1.e0, start1.about1, start1.theMethod, start1.args0, start1.below0, start1.atStart⟩
end Jvm.Pilot.@@N@@
