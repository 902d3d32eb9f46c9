import JvmDerived
import JvmDerived.Pilot.@@N@@Statement
import JvmDerived.Pilot.@@N@@Code
set_option linter.unusedVariables false
set_option linter.unusedSimpArgs false
namespace Jvm.RoadKit
open Sem ClassFile Op Lib Jvm.Stand Jvm.Free Jvm.LawKit
section New
variable {p : Program} {l : Launch} {e : Env} {R : Room} {s : State} {m : MethodId} {args : Array Value} {below : List Frame} {meth : Method} {c : Code} {T : State} {locs : List Loc} {cells slots : Nat}
theorem retI (X : Stand p l e R s m args below meth c T locs cells slots) (hx : p.tables.exec = Jvm.exec) {pc : Nat} {Ls : Array Slot} {z : Int32} {rest : List Value} (hret : meth.sig.returnType = some .int) (hd : decode c.code pc = .ok (.ireturn, 1)) {fs : List Frame}
    (hl : ∀ (f : JFrame) (acts : List Action), f.method = m → f.locked = none → f.entered = [] → (doReturn e (T.setTop f) acts (some (.int z))).1 = T.setFrames fs) : Steps p.tables e below (T.setTop (mkF m pc Ls (.int z :: rest))) (T.setFrames fs) := by
  have hm' : T.vm.method? m = some meth := X.method'
  have hn : narrow .int (.int z) = .int z := rfl
  show Steps p.tables e below (T.setTop { method := m, pc := pc, locals := Ls, stack := _ :: rest, locked := none }) _
  jvm_step X.here [X.here.top, hx, hd, hm', hret, hn]
  first | (intro acts; rw [hl _ acts rfl rfl rfl]) | rw [hl _ _ rfl rfl rfl]
  exact Steps.refl _
end New
end Jvm.RoadKit
namespace Jvm.Pilot.@@N@@
open Jvm Jvm.ClassFile Sem Op Lib Jvm.Free Jvm.Stand Jvm.LawKit Jvm.RoadKit Bundle Jvm.Pilot.@@N@@.Jvm.D
/-- where the walk stands, and what is still to come of it -/
abbrev Go (tb : Tables) (e : Env) (below : List Frame) (P : State → Outcome → Prop) (σ : State) : Prop := ∃ s₂ o, Steps tb e below σ s₂ ∧ P s₂ o
theorem go_st {tb : Tables} {e : Env} {below : List Frame} {P : State → Outcome → Prop} {σ σ' : State} (st : ∀ t, Steps tb e below σ' t → Steps tb e below σ t) (k : Go tb e below P σ') : Go tb e below P σ := by
  obtain ⟨a, b, c, d⟩ := k; exact ⟨a, b, st _ c, d⟩
theorem go_tr {tb : Tables} {e : Env} {below : List Frame} {P : State → Outcome → Prop} {σ σ' : State} (st : Steps tb e below σ σ') (k : Go tb e below P σ') : Go tb e below P σ := by
  obtain ⟨a, b, c, d⟩ := k; exact ⟨a, b, st.trans c, d⟩
theorem go_named {tb : Tables} {e : Env} {below : List Frame} {P : State → Outcome → Prop} {σ : State} (k : ∀ P', P' = P → Go tb e below P' σ) : Go tb e below P σ := k P rfl
theorem ext_rfl (h : Heap) : Ext h h := ⟨Nat.le_refl _, fun _ _ q => q⟩
theorem ext_tr {h h' h'' : Heap} (E : Ext h h') (E' : Ext h' h'') : Ext h h'' := ⟨Nat.le_trans E.1 E'.1, fun a c q => E'.2 a c (E.2 a c q)⟩
theorem ext_keep {h h' h'' : Heap} {ws : List Addr} (E : Ext h h') (K : Keep h' h'' ws) (q : ∀ x ∈ ws, h.size ≤ x) : Ext h h'' :=
  ⟨Nat.le_trans E.1 K.1, fun a c r => K.2.1 a c (E.2 a c r) fun z => absurd (Array.getElem?_eq_some_iff.mp r).1 (Nat.not_lt.mpr (q a z))⟩
theorem ext_wr {h h' h'' : Heap} {b : Addr} {sl : Nat} {v : Value} (E : Ext h h') (W : Wr h' h'' b sl v) (q : h.size ≤ b) : Ext h h'' := ext_keep E (Keep.of_wr W) (allS q all0)
theorem keep_of_ext {h h' : Heap} (E : Ext h h') : Keep h h' [] := (Keep.refl h []).ext E
theorem ref_cat {v : Value} (h : v.isRef = true) : v.category = 1 := by rcases ref_cases h with rfl | ⟨a, rfl⟩ <;> rfl
theorem ref_fits {v : Value} (C : String) (h : v.isRef = true) : fits (.object C) v = true := by rcases ref_cases h with rfl | ⟨a, rfl⟩ <;> rfl
theorem ref_narrow {v : Value} (C : String) (h : v.isRef = true) : narrow (.object C) v = v := by rcases ref_cases h with rfl | ⟨a, rfl⟩ <;> rfl
theorem pn_com_example_nudge_nudge_tree_BlockEntries : plainName "com/example/nudge/nudge/tree/BlockEntries" = true := by first | (simp [plainName, overriddenIn]; done) | decide +kernel
theorem d0_0 : decode prog_17_method_1_code 0 = .ok (.aload_n 0, 1) := by decide +kernel
theorem d0_1 : decode prog_17_method_1_code 1 = .ok (.invokespecial 1, 3) := by decide +kernel
theorem w7 {Z : State} {a0 : Array Value} (hw : ∀ d ∈ tables_1, d.before a0 Z = true) : (Jvm.Cond.methodLink "com/example/nudge/nudge/tree/BlockEntries" (1 : Nat) ({ cls := "java/lang/Object", name := "<init>", desc := "()V" } : Jvm.MethodName)).before a0 Z = true := hw _ (List.mem_of_getElem? (i := 7) rfl)
theorem w8 {Z : State} {a0 : Array Value} (hw : ∀ d ∈ tables_1, d.before a0 Z = true) : (Jvm.Cond.instanceMethod ({ cls := "java/lang/Object", name := "<init>", desc := "()V" } : Jvm.MethodName)).before a0 Z = true := hw _ (List.mem_of_getElem? (i := 8) rfl)
theorem w9 {Z : State} {a0 : Array Value} (hw : ∀ d ∈ tables_1, d.before a0 Z = true) : (Jvm.Cond.code ({ cls := "java/lang/Object", name := "<init>", desc := "()V" } : Jvm.MethodName) object_method_1_code (1 : Nat) (Option.none : Option Jvm.ClassFile.FieldType)).before a0 Z = true := hw _ (List.mem_of_getElem? (i := 9) rfl)
theorem d0_4 : decode prog_17_method_1_code 4 = .ok (.aload_n 0, 1) := by decide +kernel
theorem d0_5 : decode prog_17_method_1_code 5 = .ok (.bipush 64, 2) := by decide +kernel
theorem d0_7 : decode prog_17_method_1_code 7 = .ok (.newarray .int, 2) := by decide +kernel
theorem w10 {Z : State} {a0 : Array Value} (hw : ∀ d ∈ tables_1, d.before a0 Z = true) : (Jvm.Cond.arrayClass Jvm.ClassFile.FieldType.int).before a0 Z = true := hw _ (List.mem_of_getElem? (i := 10) rfl)
theorem d0_9 : decode prog_17_method_1_code 9 = .ok (.putfield 7, 3) := by decide +kernel
theorem w11 {Z : State} {a0 : Array Value} (hw : ∀ d ∈ tables_1, d.before a0 Z = true) : (Jvm.Cond.fieldLink "com/example/nudge/nudge/tree/BlockEntries" (7 : Nat) "com/example/nudge/nudge/tree/BlockEntries" "indexes" "[I").before a0 Z = true := hw _ (List.mem_of_getElem? (i := 11) rfl)
theorem w12 {Z : State} {a0 : Array Value} (hw : ∀ d ∈ tables_1, d.before a0 Z = true) : (Jvm.Cond.lays "com/example/nudge/nudge/tree/BlockEntries" "com/example/nudge/nudge/tree/BlockEntries" "indexes" "[I").before a0 Z = true := hw _ (List.mem_of_getElem? (i := 12) rfl)
theorem w2 {Z : State} {a0 : Array Value} (hw : ∀ d ∈ tables_1, d.before a0 Z = true) : (Jvm.Cond.instantiable "com/example/nudge/nudge/tree/BlockEntries" (4 : Nat)).before a0 Z = true := hw _ (List.mem_of_getElem? (i := 2) rfl)
theorem d0_12 : decode prog_17_method_1_code 12 = .ok (.aload_n 0, 1) := by decide +kernel
theorem d0_13 : decode prog_17_method_1_code 13 = .ok (.bipush 64, 2) := by decide +kernel
theorem d0_15 : decode prog_17_method_1_code 15 = .ok (.newarray .int, 2) := by decide +kernel
theorem d0_17 : decode prog_17_method_1_code 17 = .ok (.putfield 13, 3) := by decide +kernel
theorem w13 {Z : State} {a0 : Array Value} (hw : ∀ d ∈ tables_1, d.before a0 Z = true) : (Jvm.Cond.fieldLink "com/example/nudge/nudge/tree/BlockEntries" (13 : Nat) "com/example/nudge/nudge/tree/BlockEntries" "lines" "[I").before a0 Z = true := hw _ (List.mem_of_getElem? (i := 13) rfl)
theorem w14 {Z : State} {a0 : Array Value} (hw : ∀ d ∈ tables_1, d.before a0 Z = true) : (Jvm.Cond.lays "com/example/nudge/nudge/tree/BlockEntries" "com/example/nudge/nudge/tree/BlockEntries" "lines" "[I").before a0 Z = true := hw _ (List.mem_of_getElem? (i := 14) rfl)
theorem d0_20 : decode prog_17_method_1_code 20 = .ok (.return_, 1) := by decide +kernel
theorem w28 {Z : State} {a0 : Array Value} (hw : ∀ d ∈ tables_1, d.before a0 Z = true) : (Jvm.Cond.lays "com/example/nudge/nudge/tree/BlockEntries" "com/example/nudge/nudge/tree/BlockEntries" "first" "I").before a0 Z = true := hw _ (List.mem_of_getElem? (i := 28) rfl)
theorem w21 {Z : State} {a0 : Array Value} (hw : ∀ d ∈ tables_1, d.before a0 Z = true) : (Jvm.Cond.lays "com/example/nudge/nudge/tree/BlockEntries" "com/example/nudge/nudge/tree/BlockEntries" "count" "I").before a0 Z = true := hw _ (List.mem_of_getElem? (i := 21) rfl)
theorem d1_0 : decode prog_17_method_2_code 0 = .ok (.aload_n 0, 1) := by decide +kernel
theorem d1_1 : decode prog_17_method_2_code 1 = .ok (.getfield 16, 3) := by decide +kernel
theorem w20 {Z : State} {a0 : Array Value} (hw : ∀ d ∈ tables_1, d.before a0 Z = true) : (Jvm.Cond.fieldLink "com/example/nudge/nudge/tree/BlockEntries" (16 : Nat) "com/example/nudge/nudge/tree/BlockEntries" "count" "I").before a0 Z = true := hw _ (List.mem_of_getElem? (i := 20) rfl)
theorem d1_4 : decode prog_17_method_2_code 4 = .ok (.aload_n 0, 1) := by decide +kernel
theorem d1_5 : decode prog_17_method_2_code 5 = .ok (.getfield 7, 3) := by decide +kernel
theorem d1_8 : decode prog_17_method_2_code 8 = .ok (.arraylength, 1) := by decide +kernel
theorem d1_9 : decode prog_17_method_2_code 9 = .ok (.if_icmp .ne 111, 3) := by decide +kernel
theorem d1_120 : decode prog_17_method_2_code 120 = .ok (.aload_n 0, 1) := by decide +kernel
theorem d1_121 : decode prog_17_method_2_code 121 = .ok (.getfield 7, 3) := by decide +kernel
theorem d1_124 : decode prog_17_method_2_code 124 = .ok (.aload_n 0, 1) := by decide +kernel
theorem d1_125 : decode prog_17_method_2_code 125 = .ok (.getfield 16, 3) := by decide +kernel
theorem d1_128 : decode prog_17_method_2_code 128 = .ok (.iload_n 1, 1) := by decide +kernel
theorem d1_129 : decode prog_17_method_2_code 129 = .ok (.iastore, 1) := by decide +kernel
theorem d1_130 : decode prog_17_method_2_code 130 = .ok (.aload_n 0, 1) := by decide +kernel
theorem d1_131 : decode prog_17_method_2_code 131 = .ok (.getfield 13, 3) := by decide +kernel
theorem d1_134 : decode prog_17_method_2_code 134 = .ok (.aload_n 0, 1) := by decide +kernel
theorem d1_135 : decode prog_17_method_2_code 135 = .ok (.getfield 16, 3) := by decide +kernel
theorem d1_138 : decode prog_17_method_2_code 138 = .ok (.iload_n 2, 1) := by decide +kernel
theorem d1_139 : decode prog_17_method_2_code 139 = .ok (.iastore, 1) := by decide +kernel
theorem d1_140 : decode prog_17_method_2_code 140 = .ok (.aload_n 0, 1) := by decide +kernel
theorem d1_141 : decode prog_17_method_2_code 141 = .ok (.dup, 1) := by decide +kernel
theorem d1_142 : decode prog_17_method_2_code 142 = .ok (.getfield 16, 3) := by decide +kernel
theorem d1_145 : decode prog_17_method_2_code 145 = .ok (.iconst 1, 1) := by decide +kernel
theorem d1_146 : decode prog_17_method_2_code 146 = .ok (.iadd, 1) := by decide +kernel
theorem d1_147 : decode prog_17_method_2_code 147 = .ok (.putfield 16, 3) := by decide +kernel
theorem d1_150 : decode prog_17_method_2_code 150 = .ok (.return_, 1) := by decide +kernel
theorem pn_java_util_Arrays : plainName "java/util/Arrays" = true := by first | (simp [plainName, overriddenIn]; done) | decide +kernel
theorem d2_0 : decode jdk_65_method_30_code 0 = .ok (.iload_n 1, 1) := by decide +kernel
theorem d2_1 : decode jdk_65_method_30_code 1 = .ok (.iload_n 2, 1) := by decide +kernel
theorem d2_2 : decode jdk_65_method_30_code 2 = .ok (.if_icmp .le 44, 3) := by decide +kernel
theorem d2_46 : decode jdk_65_method_30_code 46 = .ok (.iload_n 1, 1) := by decide +kernel
theorem d2_47 : decode jdk_65_method_30_code 47 = .ok (.ifCond .ge 12, 3) := by decide +kernel
theorem d2_59 : decode jdk_65_method_30_code 59 = .ok (.iload_n 2, 1) := by decide +kernel
theorem d2_60 : decode jdk_65_method_30_code 60 = .ok (.iload_n 0, 1) := by decide +kernel
theorem d2_61 : decode jdk_65_method_30_code 61 = .ok (.if_icmp .le 12, 3) := by decide +kernel
theorem d2_73 : decode jdk_65_method_30_code 73 = .ok (.return_, 1) := by decide +kernel
theorem d3_0 : decode jdk_65_method_59_code 0 = .ok (.iload_n 1, 1) := by decide +kernel
theorem d3_1 : decode jdk_65_method_59_code 1 = .ok (.istore 4, 2) := by decide +kernel
theorem d3_3 : decode jdk_65_method_59_code 3 = .ok (.iload_n 2, 1) := by decide +kernel
theorem d3_4 : decode jdk_65_method_59_code 4 = .ok (.iconst 1, 1) := by decide +kernel
theorem d3_5 : decode jdk_65_method_59_code 5 = .ok (.isub, 1) := by decide +kernel
theorem d3_6 : decode jdk_65_method_59_code 6 = .ok (.istore 5, 2) := by decide +kernel
theorem d3_8 : decode jdk_65_method_59_code 8 = .ok (.iload 4, 2) := by decide +kernel
theorem d3_10 : decode jdk_65_method_59_code 10 = .ok (.iload 5, 2) := by decide +kernel
theorem d3_12 : decode jdk_65_method_59_code 12 = .ok (.if_icmp .gt 54, 3) := by decide +kernel
theorem d3_15 : decode jdk_65_method_59_code 15 = .ok (.iload 4, 2) := by decide +kernel
theorem d3_17 : decode jdk_65_method_59_code 17 = .ok (.iload 5, 2) := by decide +kernel
theorem d3_19 : decode jdk_65_method_59_code 19 = .ok (.iadd, 1) := by decide +kernel
theorem d3_20 : decode jdk_65_method_59_code 20 = .ok (.iconst 1, 1) := by decide +kernel
theorem d3_21 : decode jdk_65_method_59_code 21 = .ok (.iushr, 1) := by decide +kernel
theorem d3_22 : decode jdk_65_method_59_code 22 = .ok (.istore 6, 2) := by decide +kernel
theorem d3_24 : decode jdk_65_method_59_code 24 = .ok (.aload_n 0, 1) := by decide +kernel
theorem d3_25 : decode jdk_65_method_59_code 25 = .ok (.iload 6, 2) := by decide +kernel
theorem d3_27 : decode jdk_65_method_59_code 27 = .ok (.iaload, 1) := by decide +kernel
theorem d3_28 : decode jdk_65_method_59_code 28 = .ok (.istore 7, 2) := by decide +kernel
theorem d3_30 : decode jdk_65_method_59_code 30 = .ok (.iload 7, 2) := by decide +kernel
theorem d3_32 : decode jdk_65_method_59_code 32 = .ok (.iload_n 3, 1) := by decide +kernel
theorem d3_33 : decode jdk_65_method_59_code 33 = .ok (.if_icmp .ge 12, 3) := by decide +kernel
theorem d3_45 : decode jdk_65_method_59_code 45 = .ok (.iload 7, 2) := by decide +kernel
theorem d3_47 : decode jdk_65_method_59_code 47 = .ok (.iload_n 3, 1) := by decide +kernel
theorem d3_48 : decode jdk_65_method_59_code 48 = .ok (.if_icmp .le 12, 3) := by decide +kernel
theorem d3_51 : decode jdk_65_method_59_code 51 = .ok (.iload 6, 2) := by decide +kernel
theorem d3_53 : decode jdk_65_method_59_code 53 = .ok (.iconst 1, 1) := by decide +kernel
theorem d3_54 : decode jdk_65_method_59_code 54 = .ok (.isub, 1) := by decide +kernel
theorem d3_55 : decode jdk_65_method_59_code 55 = .ok (.istore 5, 2) := by decide +kernel
theorem d3_57 : decode jdk_65_method_59_code 57 = .ok (.goto 6, 3) := by decide +kernel
theorem d3_63 : decode jdk_65_method_59_code 63 = .ok (.goto (-55), 3) := by decide +kernel
theorem d3_66 : decode jdk_65_method_59_code 66 = .ok (.iload 4, 2) := by decide +kernel
theorem d3_68 : decode jdk_65_method_59_code 68 = .ok (.iconst 1, 1) := by decide +kernel
theorem d3_69 : decode jdk_65_method_59_code 69 = .ok (.iadd, 1) := by decide +kernel
theorem d3_70 : decode jdk_65_method_59_code 70 = .ok (.ineg, 1) := by decide +kernel
theorem d3_71 : decode jdk_65_method_59_code 71 = .ok (.ireturn, 1) := by decide +kernel
theorem d3_60 : decode jdk_65_method_59_code 60 = .ok (.iload 6, 2) := by decide +kernel
theorem d3_62 : decode jdk_65_method_59_code 62 = .ok (.ireturn, 1) := by decide +kernel
theorem d4_0 : decode jdk_65_method_58_code 0 = .ok (.aload_n 0, 1) := by decide +kernel
theorem d4_1 : decode jdk_65_method_58_code 1 = .ok (.arraylength, 1) := by decide +kernel
theorem d4_2 : decode jdk_65_method_58_code 2 = .ok (.iload_n 1, 1) := by decide +kernel
theorem d4_3 : decode jdk_65_method_58_code 3 = .ok (.iload_n 2, 1) := by decide +kernel
theorem d4_4 : decode jdk_65_method_58_code 4 = .ok (.invokestatic 13, 3) := by decide +kernel
theorem w35 {Z : State} {a0 : Array Value} (hw : ∀ d ∈ tables_1, d.before a0 Z = true) : (Jvm.Cond.code ({ cls := "java/util/Arrays", name := "rangeCheck", desc := "(III)V" } : Jvm.MethodName) jdk_65_method_30_code (3 : Nat) (Option.none : Option Jvm.ClassFile.FieldType)).before a0 Z = true := hw _ (List.mem_of_getElem? (i := 35) rfl)
theorem w31 {Z : State} {a0 : Array Value} (hw : ∀ d ∈ tables_1, d.before a0 Z = true) : (Jvm.Cond.initialized "java/util/Arrays").before a0 Z = true := hw _ (List.mem_of_getElem? (i := 31) rfl)
theorem pd_0 : parseMethodDescriptor "(III)V" = some ⟨[.int, .int, .int], none⟩ := by decide +kernel
theorem w33 {Z : State} {a0 : Array Value} (hw : ∀ d ∈ tables_1, d.before a0 Z = true) : (Jvm.Cond.methodLink "java/util/Arrays" (13 : Nat) ({ cls := "java/util/Arrays", name := "rangeCheck", desc := "(III)V" } : Jvm.MethodName)).before a0 Z = true := hw _ (List.mem_of_getElem? (i := 33) rfl)
theorem w34 {Z : State} {a0 : Array Value} (hw : ∀ d ∈ tables_1, d.before a0 Z = true) : (Jvm.Cond.static ({ cls := "java/util/Arrays", name := "rangeCheck", desc := "(III)V" } : Jvm.MethodName)).before a0 Z = true := hw _ (List.mem_of_getElem? (i := 34) rfl)
theorem d4_7 : decode jdk_65_method_58_code 7 = .ok (.aload_n 0, 1) := by decide +kernel
theorem d4_8 : decode jdk_65_method_58_code 8 = .ok (.iload_n 1, 1) := by decide +kernel
theorem d4_9 : decode jdk_65_method_58_code 9 = .ok (.iload_n 2, 1) := by decide +kernel
theorem d4_10 : decode jdk_65_method_58_code 10 = .ok (.iload_n 3, 1) := by decide +kernel
theorem d4_11 : decode jdk_65_method_58_code 11 = .ok (.invokestatic 209, 3) := by decide +kernel
theorem w38 {Z : State} {a0 : Array Value} (hw : ∀ d ∈ tables_1, d.before a0 Z = true) : (Jvm.Cond.code ({ cls := "java/util/Arrays", name := "binarySearch0", desc := "([IIII)I" } : Jvm.MethodName) jdk_65_method_59_code (8 : Nat) (Option.some Jvm.ClassFile.FieldType.int)).before a0 Z = true := hw _ (List.mem_of_getElem? (i := 38) rfl)
theorem pd_1 : parseMethodDescriptor "([IIII)I" = some ⟨[(.array .int), .int, .int, .int], some .int⟩ := by decide +kernel
theorem w36 {Z : State} {a0 : Array Value} (hw : ∀ d ∈ tables_1, d.before a0 Z = true) : (Jvm.Cond.methodLink "java/util/Arrays" (209 : Nat) ({ cls := "java/util/Arrays", name := "binarySearch0", desc := "([IIII)I" } : Jvm.MethodName)).before a0 Z = true := hw _ (List.mem_of_getElem? (i := 36) rfl)
theorem w37 {Z : State} {a0 : Array Value} (hw : ∀ d ∈ tables_1, d.before a0 Z = true) : (Jvm.Cond.static ({ cls := "java/util/Arrays", name := "binarySearch0", desc := "([IIII)I" } : Jvm.MethodName)).before a0 Z = true := hw _ (List.mem_of_getElem? (i := 37) rfl)
theorem d4_14 : decode jdk_65_method_58_code 14 = .ok (.ireturn, 1) := by decide +kernel
theorem d5_0 : decode prog_17_method_3_code 0 = .ok (.aload_n 0, 1) := by decide +kernel
theorem d5_1 : decode prog_17_method_3_code 1 = .ok (.getfield 7, 3) := by decide +kernel
theorem d5_4 : decode prog_17_method_3_code 4 = .ok (.aload_n 0, 1) := by decide +kernel
theorem d5_5 : decode prog_17_method_3_code 5 = .ok (.getfield 20, 3) := by decide +kernel
theorem w27 {Z : State} {a0 : Array Value} (hw : ∀ d ∈ tables_1, d.before a0 Z = true) : (Jvm.Cond.fieldLink "com/example/nudge/nudge/tree/BlockEntries" (20 : Nat) "com/example/nudge/nudge/tree/BlockEntries" "first" "I").before a0 Z = true := hw _ (List.mem_of_getElem? (i := 27) rfl)
theorem d5_8 : decode prog_17_method_3_code 8 = .ok (.aload_n 0, 1) := by decide +kernel
theorem d5_9 : decode prog_17_method_3_code 9 = .ok (.getfield 16, 3) := by decide +kernel
theorem d5_12 : decode prog_17_method_3_code 12 = .ok (.iload_n 1, 1) := by decide +kernel
theorem d5_13 : decode prog_17_method_3_code 13 = .ok (.invokestatic 35, 3) := by decide +kernel
theorem w32 {Z : State} {a0 : Array Value} (hw : ∀ d ∈ tables_1, d.before a0 Z = true) : (Jvm.Cond.code ({ cls := "java/util/Arrays", name := "binarySearch", desc := "([IIII)I" } : Jvm.MethodName) jdk_65_method_58_code (4 : Nat) (Option.some Jvm.ClassFile.FieldType.int)).before a0 Z = true := hw _ (List.mem_of_getElem? (i := 32) rfl)
theorem w29 {Z : State} {a0 : Array Value} (hw : ∀ d ∈ tables_1, d.before a0 Z = true) : (Jvm.Cond.methodLink "com/example/nudge/nudge/tree/BlockEntries" (35 : Nat) ({ cls := "java/util/Arrays", name := "binarySearch", desc := "([IIII)I" } : Jvm.MethodName)).before a0 Z = true := hw _ (List.mem_of_getElem? (i := 29) rfl)
theorem w30 {Z : State} {a0 : Array Value} (hw : ∀ d ∈ tables_1, d.before a0 Z = true) : (Jvm.Cond.static ({ cls := "java/util/Arrays", name := "binarySearch", desc := "([IIII)I" } : Jvm.MethodName)).before a0 Z = true := hw _ (List.mem_of_getElem? (i := 30) rfl)
theorem d5_16 : decode prog_17_method_3_code 16 = .ok (.istore_n 3, 1) := by decide +kernel
theorem d5_17 : decode prog_17_method_3_code 17 = .ok (.iload_n 3, 1) := by decide +kernel
theorem d5_18 : decode prog_17_method_3_code 18 = .ok (.ifCond .lt 7, 3) := by decide +kernel
theorem d5_21 : decode prog_17_method_3_code 21 = .ok (.iload_n 3, 1) := by decide +kernel
theorem d5_22 : decode prog_17_method_3_code 22 = .ok (.goto 7, 3) := by decide +kernel
theorem d5_29 : decode prog_17_method_3_code 29 = .ok (.iconst 1, 1) := by decide +kernel
theorem d5_30 : decode prog_17_method_3_code 30 = .ok (.isub, 1) := by decide +kernel
theorem d5_31 : decode prog_17_method_3_code 31 = .ok (.istore 4, 2) := by decide +kernel
theorem d5_33 : decode prog_17_method_3_code 33 = .ok (.iload_n 2, 1) := by decide +kernel
theorem d5_34 : decode prog_17_method_3_code 34 = .ok (.istore 5, 2) := by decide +kernel
theorem d5_36 : decode prog_17_method_3_code 36 = .ok (.iload 4, 2) := by decide +kernel
theorem d5_38 : decode prog_17_method_3_code 38 = .ok (.aload_n 0, 1) := by decide +kernel
theorem d5_39 : decode prog_17_method_3_code 39 = .ok (.getfield 20, 3) := by decide +kernel
theorem d5_42 : decode prog_17_method_3_code 42 = .ok (.if_icmp .lt 18, 3) := by decide +kernel
theorem d5_60 : decode prog_17_method_3_code 60 = .ok (.iload 5, 2) := by decide +kernel
theorem d5_62 : decode prog_17_method_3_code 62 = .ok (.ireturn, 1) := by decide +kernel
theorem d5_25 : decode prog_17_method_3_code 25 = .ok (.iload_n 3, 1) := by decide +kernel
theorem d5_26 : decode prog_17_method_3_code 26 = .ok (.ineg, 1) := by decide +kernel
theorem d5_27 : decode prog_17_method_3_code 27 = .ok (.iconst 1, 1) := by decide +kernel
theorem d5_28 : decode prog_17_method_3_code 28 = .ok (.isub, 1) := by decide +kernel
theorem d3_36 : decode jdk_65_method_59_code 36 = .ok (.iload 6, 2) := by decide +kernel
theorem d3_38 : decode jdk_65_method_59_code 38 = .ok (.iconst 1, 1) := by decide +kernel
theorem d3_39 : decode jdk_65_method_59_code 39 = .ok (.iadd, 1) := by decide +kernel
theorem d3_40 : decode jdk_65_method_59_code 40 = .ok (.istore 4, 2) := by decide +kernel
theorem d3_42 : decode jdk_65_method_59_code 42 = .ok (.goto 21, 3) := by decide +kernel
theorem d5_45 : decode prog_17_method_3_code 45 = .ok (.aload_n 0, 1) := by decide +kernel
theorem d5_46 : decode prog_17_method_3_code 46 = .ok (.getfield 13, 3) := by decide +kernel
theorem d5_49 : decode prog_17_method_3_code 49 = .ok (.iload 4, 2) := by decide +kernel
theorem d5_51 : decode prog_17_method_3_code 51 = .ok (.iaload, 1) := by decide +kernel
theorem d5_52 : decode prog_17_method_3_code 52 = .ok (.istore 5, 2) := by decide +kernel
theorem d5_54 : decode prog_17_method_3_code 54 = .ok (.aload_n 0, 1) := by decide +kernel
theorem d5_55 : decode prog_17_method_3_code 55 = .ok (.iload 4, 2) := by decide +kernel
theorem d5_57 : decode prog_17_method_3_code 57 = .ok (.putfield 20, 3) := by decide +kernel
theorem pn_com_example_nudge_nudge_tree_BlockEntriesNotePinLaw : plainName "com/example/nudge/nudge/tree/BlockEntriesNotePinLaw" = true := by first | (simp [plainName, overriddenIn]; done) | decide +kernel
theorem w0 {Z : State} {a0 : Array Value} (hw : ∀ d ∈ tables_1, d.before a0 Z = true) : (Jvm.Cond.constant "com/example/nudge/nudge/tree/BlockEntriesNotePinLaw" (7 : Nat) (1073741823 : Int32)).before a0 Z = true := hw _ (List.mem_of_getElem? (i := 0) rfl)
theorem w1 {Z : State} {a0 : Array Value} (hw : ∀ d ∈ tables_1, d.before a0 Z = true) : (Jvm.Cond.classLink "com/example/nudge/nudge/tree/BlockEntriesNotePinLaw" (8 : Nat) "com/example/nudge/nudge/tree/BlockEntries").before a0 Z = true := hw _ (List.mem_of_getElem? (i := 1) rfl)
theorem w3 {Z : State} {a0 : Array Value} (hw : ∀ d ∈ tables_1, d.before a0 Z = true) : (Jvm.Cond.initialized "com/example/nudge/nudge/tree/BlockEntries").before a0 Z = true := hw _ (List.mem_of_getElem? (i := 3) rfl)
theorem w6 {Z : State} {a0 : Array Value} (hw : ∀ d ∈ tables_1, d.before a0 Z = true) : (Jvm.Cond.code ({ cls := "com/example/nudge/nudge/tree/BlockEntries", name := "<init>", desc := "()V" } : Jvm.MethodName) prog_17_method_1_code (1 : Nat) (Option.none : Option Jvm.ClassFile.FieldType)).before a0 Z = true := hw _ (List.mem_of_getElem? (i := 6) rfl)
theorem pd_2 : parseMethodDescriptor "()V" = some ⟨[], none⟩ := by decide +kernel
theorem w4 {Z : State} {a0 : Array Value} (hw : ∀ d ∈ tables_1, d.before a0 Z = true) : (Jvm.Cond.methodLink "com/example/nudge/nudge/tree/BlockEntriesNotePinLaw" (10 : Nat) ({ cls := "com/example/nudge/nudge/tree/BlockEntries", name := "<init>", desc := "()V" } : Jvm.MethodName)).before a0 Z = true := hw _ (List.mem_of_getElem? (i := 4) rfl)
theorem w5 {Z : State} {a0 : Array Value} (hw : ∀ d ∈ tables_1, d.before a0 Z = true) : (Jvm.Cond.instanceMethod ({ cls := "com/example/nudge/nudge/tree/BlockEntries", name := "<init>", desc := "()V" } : Jvm.MethodName)).before a0 Z = true := hw _ (List.mem_of_getElem? (i := 5) rfl)
theorem w19 {Z : State} {a0 : Array Value} (hw : ∀ d ∈ tables_1, d.before a0 Z = true) : (Jvm.Cond.code ({ cls := "com/example/nudge/nudge/tree/BlockEntries", name := "note", desc := "(II)V" } : Jvm.MethodName) prog_17_method_2_code (3 : Nat) (Option.none : Option Jvm.ClassFile.FieldType)).before a0 Z = true := hw _ (List.mem_of_getElem? (i := 19) rfl)
theorem pd_3 : parseMethodDescriptor "(II)V" = some ⟨[.int, .int], none⟩ := by decide +kernel
theorem w15 {Z : State} {a0 : Array Value} (hw : ∀ d ∈ tables_1, d.before a0 Z = true) : (Jvm.Cond.methodLink "com/example/nudge/nudge/tree/BlockEntriesNotePinLaw" (11 : Nat) ({ cls := "com/example/nudge/nudge/tree/BlockEntries", name := "note", desc := "(II)V" } : Jvm.MethodName)).before a0 Z = true := hw _ (List.mem_of_getElem? (i := 15) rfl)
theorem w18 {Z : State} {a0 : Array Value} (hw : ∀ d ∈ tables_1, d.before a0 Z = true) : (Jvm.Cond.selects "com/example/nudge/nudge/tree/BlockEntries" ({ cls := "com/example/nudge/nudge/tree/BlockEntries", name := "note", desc := "(II)V" } : Jvm.MethodName) ({ cls := "com/example/nudge/nudge/tree/BlockEntries", name := "note", desc := "(II)V" } : Jvm.MethodName)).before a0 Z = true := hw _ (List.mem_of_getElem? (i := 18) rfl)
theorem w16 {Z : State} {a0 : Array Value} (hw : ∀ d ∈ tables_1, d.before a0 Z = true) : (Jvm.Cond.declares ({ cls := "com/example/nudge/nudge/tree/BlockEntries", name := "note", desc := "(II)V" } : Jvm.MethodName)).before a0 Z = true := hw _ (List.mem_of_getElem? (i := 16) rfl)
theorem w17 {Z : State} {a0 : Array Value} (hw : ∀ d ∈ tables_1, d.before a0 Z = true) : (Jvm.Cond.instanceMethod ({ cls := "com/example/nudge/nudge/tree/BlockEntries", name := "note", desc := "(II)V" } : Jvm.MethodName)).before a0 Z = true := hw _ (List.mem_of_getElem? (i := 17) rfl)
theorem w26 {Z : State} {a0 : Array Value} (hw : ∀ d ∈ tables_1, d.before a0 Z = true) : (Jvm.Cond.code ({ cls := "com/example/nudge/nudge/tree/BlockEntries", name := "lineBefore", desc := "(II)I" } : Jvm.MethodName) prog_17_method_3_code (6 : Nat) (Option.some Jvm.ClassFile.FieldType.int)).before a0 Z = true := hw _ (List.mem_of_getElem? (i := 26) rfl)
theorem pd_4 : parseMethodDescriptor "(II)I" = some ⟨[.int, .int], some .int⟩ := by decide +kernel
theorem w22 {Z : State} {a0 : Array Value} (hw : ∀ d ∈ tables_1, d.before a0 Z = true) : (Jvm.Cond.methodLink "com/example/nudge/nudge/tree/BlockEntriesNotePinLaw" (15 : Nat) ({ cls := "com/example/nudge/nudge/tree/BlockEntries", name := "lineBefore", desc := "(II)I" } : Jvm.MethodName)).before a0 Z = true := hw _ (List.mem_of_getElem? (i := 22) rfl)
theorem w25 {Z : State} {a0 : Array Value} (hw : ∀ d ∈ tables_1, d.before a0 Z = true) : (Jvm.Cond.selects "com/example/nudge/nudge/tree/BlockEntries" ({ cls := "com/example/nudge/nudge/tree/BlockEntries", name := "lineBefore", desc := "(II)I" } : Jvm.MethodName) ({ cls := "com/example/nudge/nudge/tree/BlockEntries", name := "lineBefore", desc := "(II)I" } : Jvm.MethodName)).before a0 Z = true := hw _ (List.mem_of_getElem? (i := 25) rfl)
theorem w23 {Z : State} {a0 : Array Value} (hw : ∀ d ∈ tables_1, d.before a0 Z = true) : (Jvm.Cond.declares ({ cls := "com/example/nudge/nudge/tree/BlockEntries", name := "lineBefore", desc := "(II)I" } : Jvm.MethodName)).before a0 Z = true := hw _ (List.mem_of_getElem? (i := 23) rfl)
theorem w24 {Z : State} {a0 : Array Value} (hw : ∀ d ∈ tables_1, d.before a0 Z = true) : (Jvm.Cond.instanceMethod ({ cls := "com/example/nudge/nudge/tree/BlockEntries", name := "lineBefore", desc := "(II)I" } : Jvm.MethodName)).before a0 Z = true := hw _ (List.mem_of_getElem? (i := 24) rfl)
theorem pl_rng (x : Int32) : -2147483648 ≤ x.toInt ∧ x.toInt ≤ 2147483647 := by
  have h1 := Int32.le_toInt x; have h2 := Int32.toInt_lt x
  constructor <;> omega
theorem pl_add {a b : Int32} (h1 : -2147483648 ≤ a.toInt + b.toInt) (h2 : a.toInt + b.toInt ≤ 2147483647) : (a + b).toInt = a.toInt + b.toInt := by
  have h := c_iadd a b; have := pl_rng (a + b); omega
theorem pl_sub {a b : Int32} (h1 : -2147483648 ≤ a.toInt - b.toInt) (h2 : a.toInt - b.toInt ≤ 2147483647) : (a - b).toInt = a.toInt - b.toInt := by
  have h := c_isub a b; have := pl_rng (a - b); omega
theorem pl_lt {a b : Int32} (h : a.toInt < b.toInt) : a < b := Int32.lt_iff_toInt_lt.mpr h
theorem pl_nlt {a b : Int32} (h : b.toInt ≤ a.toInt) : ¬ a < b := fun q => absurd (Int32.lt_iff_toInt_lt.mp q) (by omega)
theorem pl_of {a b : Int32} (h : a < b) : a.toInt < b.toInt := Int32.lt_iff_toInt_lt.mp h
theorem pl_nof {a b : Int32} (h : ¬ a < b) : b.toInt ≤ a.toInt := by
  have q : ¬ a.toInt < b.toInt := fun q => h (Int32.lt_iff_toInt_lt.mpr q)
  omega
theorem pl_tr {a b c : Int32} (h : a < b) (h' : b < c) : a < c := pl_lt (Int.lt_trans (pl_of h) (pl_of h'))
theorem pl_trn {a b c : Int32} (h : a < b) (h' : ¬ c < b) : a < c := pl_lt (Int.lt_of_lt_of_le (pl_of h) (pl_nof h'))
theorem pl_as {a b : Int32} (h : a < b) : ¬ b < a := pl_nlt (Int.le_of_lt (pl_of h))

def Q_init (Z : State) (a1 : Addr) (h0 : Heap) (n0 : Nat) (vR : Option Value) (h : Heap) (L : List Loc) : Prop := ∃ (ax : Addr) (al : Addr) (kx : ClassId) (kl : ClassId), vR = none ∧ Fr n0 L ∧ Keep h0 h [a1] ∧ n0 ≤ ax ∧ h0.size ≤ ax ∧ n0 ≤ al ∧ h0.size ≤ al ∧ ax ≠ al ∧ (Exa Z h a1 "com/example/nudge/nudge/tree/BlockEntries") ∧ (Fld Z h a1 "com/example/nudge/nudge/tree/BlockEntries" "indexes" "[I" (.ref ax)) ∧ (Fld Z h a1 "com/example/nudge/nudge/tree/BlockEntries" "lines" "[I" (.ref al)) ∧ (Fld Z h a1 "com/example/nudge/nudge/tree/BlockEntries" "first" "I" (.int 0)) ∧ (Fld Z h a1 "com/example/nudge/nudge/tree/BlockEntries" "count" "I" (.int 0)) ∧ (Arv Z h ax kx .int (64 : Int32) [] (.int (0 : Int32))) ∧ (Arv Z h al kl .int (64 : Int32) [] (.int (0 : Int32)))
theorem ef_init (m : MethodId) (x0 : Addr) : entryFrame m #[(.ref x0)] 1 = mkF m 0 #[.val (.ref x0)] [] := by first | (simp [entryFrame, mkF, argsToLocals, Value.category]; done) | rfl
set_option maxRecDepth 65536 in
set_option maxHeartbeats 40000000 in
theorem rm_init (l : Launch) (Z : State) (a0 : Array Value) (hw : ∀ d ∈ tables_1, d.before a0 Z = true) (ws : List Jvm.Cond) (a1 : Addr) (h0 : Heap) (n0 : Nat) (Z0 : n0 ≤ h0.size) (H0 : Exa Z h0 a1 "com/example/nudge/nudge/tree/BlockEntries") (H1 : Fld Z h0 a1 "com/example/nudge/nudge/tree/BlockEntries" "indexes" "[I" .null) (H2 : Fld Z h0 a1 "com/example/nudge/nudge/tree/BlockEntries" "lines" "[I" .null) (H3 : Fld Z h0 a1 "com/example/nudge/nudge/tree/BlockEntries" "first" "I" (.int 0)) (H4 : Fld Z h0 a1 "com/example/nudge/nudge/tree/BlockEntries" "count" "I" (.int 0)) (g_a1 : n0 ≤ a1) :
    MetFree l (⟨"com/example/nudge/nudge/tree/BlockEntries", "<init>", "()V"⟩ : MethodName) (head1 (Jvm.Cond.code (⟨"com/example/nudge/nudge/tree/BlockEntries", "<init>", "()V"⟩ : MethodName) prog_17_method_1_code 1 none :: ws) ({ frames := 1, cells := 2, slots := 128, locals := 12 } : Room)) (fun a U => a = #[(.ref a1)] ∧ Z.Warmed39 U.vm ∧ U.heap = h0) (fun _ _ _ _ _ => True) (fun _ U o U' => ∃ v L, o = .returned v ∧ Q_init Z a1 h0 n0 v U'.heap L ∧ FrameEnd U o U' L ({ frames := 1, cells := 2, slots := 128, locals := 12 } : Room).cells ({ frames := 1, cells := 2, slots := 128, locals := 12 } : Room).slots) := by
  refine MetFree.of_bodySF (plainFor_of_name pn_com_example_nudge_nudge_tree_BlockEntries) hisR ?_
  intro p e s m args below meth c s₁ Bd hml0 hP hK
  obtain ⟨rfl, hZ, hh⟩ := hP
  have hx := Bd.exec
  have hby := Bd.bytes
  have hml : c.maxLocals = 1 := hml0
  have hown : s.vm.findClass "com/example/nudge/nudge/tree/BlockEntries" = some m.cls := findClass_of_methodNamed Bd.named
  have hnm := (name_of_methodNamed Bd.named Bd.method).1
  have X0 : Stand p l e ({ frames := 1, cells := 2, slots := 128, locals := 12 } : Room) s m #[(.ref a1)] below meth c s₁ [] 0 0 := Stand.of_body Bd
  have e0 : s₁.heap = h0 := by rw [← hh, Bd.state]; rfl
  have N0 := Fr.nil n0
  refine go_st (fun t k => castTop (ef_init m a1) k) ?_
  show Go _ _ _ _ (s₁.setTop (mkF m 0 #[rv a1] []))
  refine go_st (fun t k => XS.aloadN X0.here hx rfl (hb hby d0_0) rfl rfl k) ?_
  show Go _ _ _ _ (s₁.setTop (mkF m 1 #[rv a1] [(.ref a1)]))
  obtain ⟨T1, X1, e1, st1⟩ := initO X0 hx hZ hown (w7 hw) (w8 hw) (w9 hw) e0 (g := (mkF m 1 #[rv a1] [(.ref a1)])) rfl (by rw [hml]; rfl) rfl (hb hby d0_1) (by decide) (W := 0) (by show 2 * 0 + _ ≤ _; exact Nat.le_of_eq rfl) (by decide)
  refine go_st (fun t k => st1 t k) ?_
  show Go _ _ _ _ (T1.setTop (mkF m 4 #[rv a1] []))
  refine go_st (fun t k => XS.aloadN X1.here hx rfl (hb hby d0_4) rfl rfl k) ?_
  show Go _ _ _ _ (T1.setTop (mkF m 5 #[rv a1] [(.ref a1)]))
  refine go_st (fun t k => XS.bipush X1.here hx rfl (hb hby d0_5) k) ?_
  show Go _ _ _ _ (T1.setTop (mkF m 7 #[rv a1] [(.int 64), (.ref a1)]))
  obtain ⟨T2, h2, kc2, X2, e2, E2, A2, st2⟩ := newP X1 hx hZ (aty := .int) (w10 hw) e1 (g := (mkF m 7 #[rv a1] [(.int 64), (.ref a1)])) rfl (hb hby d0_7) rfl (by decide) (cap := 64) (by decide) (by decide) (by decide) (by decide)
  obtain ⟨b2, gq2⟩ : ∃ z, z = h0.size := ⟨_, rfl⟩
  rw [← gq2] at A2 st2
  have f3 : Arv Z h2 b2 kc2 .int (64 : Int32) [] (.int 0) := (Arv.new A2 (by decide)).pad (pad_rep [] (.int 0) 0)
  refine go_st (fun t k => st2 t k) ?_
  show Go _ _ _ _ (T2.setTop (mkF m 9 #[rv a1] [(.ref b2), (.ref a1)]))
  have f4 : Fld Z h2 a1 "com/example/nudge/nudge/tree/BlockEntries" "indexes" "[I" .null := (H1.ext E2)
  have f5 : Exa Z h2 a1 "com/example/nudge/nudge/tree/BlockEntries" := (H0.ext E2)
  obtain ⟨T6, h6, X6, e6, W6, st6⟩ := putF X2 hx hZ hown (host := "") (Or.inl (w11 hw)) Via.refl e2 f4 f5 (Or.inl (w12 hw)) (w2 hw) (ty := (.array .int)) (by decide) rfl rfl (g := (mkF m 9 #[rv a1] [(.ref b2), (.ref a1)])) rfl rfl (hb hby d0_9)
  have N6 := Fr.snoc X6 N0 g_a1
  have f7 : Fld Z h6 a1 "com/example/nudge/nudge/tree/BlockEntries" "indexes" "[I" (.ref b2) := f4.same W6
  refine go_st (fun t k => st6 t k) ?_
  show Go _ _ _ _ (T6.setTop (mkF m 12 #[rv a1] []))
  refine go_st (fun t k => XS.aloadN X6.here hx rfl (hb hby d0_12) rfl rfl k) ?_
  show Go _ _ _ _ (T6.setTop (mkF m 13 #[rv a1] [(.ref a1)]))
  refine go_st (fun t k => XS.bipush X6.here hx rfl (hb hby d0_13) k) ?_
  show Go _ _ _ _ (T6.setTop (mkF m 15 #[rv a1] [(.int 64), (.ref a1)]))
  obtain ⟨T8, h8, kc8, X8, e8, E8, A8, st8⟩ := newP X6 hx hZ (aty := .int) (w10 hw) e6 (g := (mkF m 15 #[rv a1] [(.int 64), (.ref a1)])) rfl (hb hby d0_15) rfl (by decide) (cap := 64) (by decide) (by decide) (by decide) (by decide)
  obtain ⟨b8, gq8⟩ : ∃ z, z = h6.size := ⟨_, rfl⟩
  rw [← gq8] at A8 st8
  have f9 : Arv Z h8 b8 kc8 .int (64 : Int32) [] (.int 0) := (Arv.new A8 (by decide)).pad (pad_rep [] (.int 0) 0)
  refine go_st (fun t k => st8 t k) ?_
  show Go _ _ _ _ (T8.setTop (mkF m 17 #[rv a1] [(.ref b8), (.ref a1)]))
  have f10 : Fld Z h8 a1 "com/example/nudge/nudge/tree/BlockEntries" "lines" "[I" .null := (((H2.ext E2).other W6 (Or.inr (slot_ne (Or.inl (w14 hw)) (Or.inl (w12 hw)) (by decide) (t := (.array .int)) (t' := (.array .int)) (by decide) (by decide)))).ext E8)
  have f11 : Exa Z h8 a1 "com/example/nudge/nudge/tree/BlockEntries" := ((f5.wr W6).ext E8)
  obtain ⟨T12, h12, X12, e12, W12, st12⟩ := putF X8 hx hZ hown (host := "") (Or.inl (w13 hw)) Via.refl e8 f10 f11 (Or.inl (w14 hw)) (w2 hw) (ty := (.array .int)) (by decide) rfl rfl (g := (mkF m 17 #[rv a1] [(.ref b8), (.ref a1)])) rfl rfl (hb hby d0_17)
  have N12 := Fr.snoc X12 N6 g_a1
  have f13 : Fld Z h12 a1 "com/example/nudge/nudge/tree/BlockEntries" "lines" "[I" (.ref b8) := f10.same W12
  refine go_st (fun t k => st12 t k) ?_
  show Go _ _ _ _ (T12.setTop (mkF m 20 #[rv a1] []))
  have g_b2 : n0 ≤ b2 := Nat.le_trans (Nat.le_trans Z0 (Nat.le_refl _)) (Nat.le_of_eq gq2.symm)
  have sz14 : h0.size ≤ h6.size := (Nat.le_trans E2.1 (Nat.le_of_eq W6.size.symm))
  have g_b8 : n0 ≤ b8 := Nat.le_trans (Nat.le_trans Z0 sz14) (Nat.le_of_eq gq8.symm)
  have nq15 : b2 ≠ b8 := Nat.ne_of_lt (Nat.lt_of_lt_of_le (Nat.lt_of_lt_of_le f3.lt (Nat.le_of_eq W6.size.symm)) (Nat.le_of_eq gq8.symm))
  have f16 : Exa Z h12 a1 "com/example/nudge/nudge/tree/BlockEntries" := (f11.wr W12)
  have f17 : Fld Z h12 a1 "com/example/nudge/nudge/tree/BlockEntries" "indexes" "[I" (.ref b2) := ((f7.ext E8).other W12 (Or.inr (slot_ne (Or.inl (w12 hw)) (Or.inl (w14 hw)) (by decide) (t := (.array .int)) (t' := (.array .int)) (by decide) (by decide))))
  have f18 : Fld Z h12 a1 "com/example/nudge/nudge/tree/BlockEntries" "first" "I" (.int 0) := ((((H3.ext E2).other W6 (Or.inr (slot_ne (Or.inl (w28 hw)) (Or.inl (w12 hw)) (by decide) (t := .int) (t' := (.array .int)) (by decide) (by decide)))).ext E8).other W12 (Or.inr (slot_ne (Or.inl (w28 hw)) (Or.inl (w14 hw)) (by decide) (t := .int) (t' := (.array .int)) (by decide) (by decide))))
  have f19 : Fld Z h12 a1 "com/example/nudge/nudge/tree/BlockEntries" "count" "I" (.int 0) := ((((H4.ext E2).other W6 (Or.inr (slot_ne (Or.inl (w21 hw)) (Or.inl (w12 hw)) (by decide) (t := .int) (t' := (.array .int)) (by decide) (by decide)))).ext E8).other W12 (Or.inr (slot_ne (Or.inl (w21 hw)) (Or.inl (w14 hw)) (by decide) (t := .int) (t' := (.array .int)) (by decide) (by decide))))
  have nq20 : a1 ≠ b2 := Nat.ne_of_lt (Nat.lt_of_lt_of_le (Nat.lt_of_lt_of_le H0.lt (Nat.le_refl _)) (Nat.le_of_eq gq2.symm))
  have f21 : Arv Z h12 b2 kc2 .int (64 : Int32) [] (.int 0) := (((f3.other W6 (Ne.symm nq20)).ext E8).other W12 (Ne.symm nq20))
  have nq22 : a1 ≠ b8 := Nat.ne_of_lt (Nat.lt_of_lt_of_le (Nat.lt_of_lt_of_le H0.lt sz14) (Nat.le_of_eq gq8.symm))
  have f23 : Arv Z h12 b8 kc8 .int (64 : Int32) [] (.int 0) := (f9.other W12 (Ne.symm nq22))
  have ke24 : Keep h0 h2 [a1] := (Keep.ext (Keep.refl h0 [a1]) E2)
  have ke25 : Keep h0 h6 [a1] := (Keep.wr ke24 W6 (Or.inl (List.mem_of_getElem? (i := 0) rfl)))
  have ke26 : Keep h0 h8 [a1] := (Keep.ext ke25 E8)
  have ke27 : Keep h0 h12 [a1] := (Keep.wr ke26 W12 (Or.inl (List.mem_of_getElem? (i := 0) rfl)))
  obtain ⟨fs, hr, hrun, hended, hW, hsame⟩ := X12.leave (v := none) (fun _ => rfl)
  refine ⟨_, _, ?_, hrun, hended, _, _, rfl, ?_, ⟨_, rfl⟩, hW, hsame.mono (by decide) (by decide)⟩
  · exact X12.returnOut hx Bd.returns (hb hby d0_20) hr
  · show Q_init _ _ _ _ _ T12.heap _
    rw [e12]
    exact ⟨b2, b8, kc2, kc8, rfl, N12, ke27, g_b2, (Nat.le_of_eq gq2.symm), g_b8, (Nat.le_trans sz14 (Nat.le_of_eq gq8.symm)), nq15, f16, f17, f13, f18, f19, f21, f23⟩
def Q_note0 (Z : State) (a1 : Addr) (ax : Addr) (al : Addr) (kx : ClassId) (kl : ClassId) (i : Int32) (ln : Int32) (h0 : Heap) (n0 : Nat) (vR : Option Value) (h : Heap) (L : List Loc) : Prop := vR = none ∧ Fr n0 L ∧ Keep h0 h [a1, ax, al] ∧ (Exa Z h a1 "com/example/nudge/nudge/tree/BlockEntries") ∧ (Fld Z h a1 "com/example/nudge/nudge/tree/BlockEntries" "indexes" "[I" (.ref ax)) ∧ (Fld Z h a1 "com/example/nudge/nudge/tree/BlockEntries" "lines" "[I" (.ref al)) ∧ (Fld Z h a1 "com/example/nudge/nudge/tree/BlockEntries" "first" "I" (.int 0)) ∧ (Fld Z h a1 "com/example/nudge/nudge/tree/BlockEntries" "count" "I" (.int 1)) ∧ (Arv Z h ax kx .int (64 : Int32) [(.int i)] (.int (0 : Int32))) ∧ (Arv Z h al kl .int (64 : Int32) [(.int ln)] (.int (0 : Int32)))
theorem ef_note0 (m : MethodId) (x0 : Addr) (x1 : Int32) (x2 : Int32) : entryFrame m #[(.ref x0), (.int x1), (.int x2)] 3 = mkF m 0 #[.val (.ref x0), .val (.int x1), .val (.int x2)] [] := by first | (simp [entryFrame, mkF, argsToLocals, Value.category]; done) | rfl
set_option maxRecDepth 65536 in
set_option maxHeartbeats 40000000 in
theorem rm_note0 (l : Launch) (Z : State) (a0 : Array Value) (hw : ∀ d ∈ tables_1, d.before a0 Z = true) (ws : List Jvm.Cond) (a1 : Addr) (ax : Addr) (al : Addr) (kx : ClassId) (kl : ClassId) (i : Int32) (ln : Int32) (h0 : Heap) (n0 : Nat) (Z0 : n0 ≤ h0.size) (H0 : Exa Z h0 a1 "com/example/nudge/nudge/tree/BlockEntries") (H1 : Fld Z h0 a1 "com/example/nudge/nudge/tree/BlockEntries" "indexes" "[I" (.ref ax)) (H2 : Fld Z h0 a1 "com/example/nudge/nudge/tree/BlockEntries" "lines" "[I" (.ref al)) (H3 : Fld Z h0 a1 "com/example/nudge/nudge/tree/BlockEntries" "first" "I" (.int 0)) (H4 : Fld Z h0 a1 "com/example/nudge/nudge/tree/BlockEntries" "count" "I" (.int 0)) (H5 : Arv Z h0 ax kx .int (64 : Int32) [] (.int (0 : Int32))) (H6 : Arv Z h0 al kl .int (64 : Int32) [] (.int (0 : Int32))) (ne_a1_ax : a1 ≠ ax) (ne_a1_al : a1 ≠ al) (ne_ax_al : ax ≠ al) (g_a1 : n0 ≤ a1) (g_ax : n0 ≤ ax) (g_al : n0 ≤ al) :
    MetFree l (⟨"com/example/nudge/nudge/tree/BlockEntries", "note", "(II)V"⟩ : MethodName) (head1 (Jvm.Cond.code (⟨"com/example/nudge/nudge/tree/BlockEntries", "note", "(II)V"⟩ : MethodName) prog_17_method_2_code 3 none :: ws) ({ frames := 0, cells := 0, slots := 0, locals := 0 } : Room)) (fun a U => a = #[(.ref a1), (.int i), (.int ln)] ∧ Z.Warmed39 U.vm ∧ U.heap = h0) (fun _ _ _ _ _ => True) (fun _ U o U' => ∃ v L, o = .returned v ∧ Q_note0 Z a1 ax al kx kl i ln h0 n0 v U'.heap L ∧ FrameEnd U o U' L ({ frames := 0, cells := 0, slots := 0, locals := 0 } : Room).cells ({ frames := 0, cells := 0, slots := 0, locals := 0 } : Room).slots) := by
  refine MetFree.of_bodySF (plainFor_of_name pn_com_example_nudge_nudge_tree_BlockEntries) hisR ?_
  intro p e s m args below meth c s₁ Bd hml0 hP hK
  obtain ⟨rfl, hZ, hh⟩ := hP
  have hx := Bd.exec
  have hby := Bd.bytes
  have hml : c.maxLocals = 3 := hml0
  have hown : s.vm.findClass "com/example/nudge/nudge/tree/BlockEntries" = some m.cls := findClass_of_methodNamed Bd.named
  have hnm := (name_of_methodNamed Bd.named Bd.method).1
  have X0 : Stand p l e ({ frames := 0, cells := 0, slots := 0, locals := 0 } : Room) s m #[(.ref a1), (.int i), (.int ln)] below meth c s₁ [] 0 0 := Stand.of_body Bd
  have e0 : s₁.heap = h0 := by rw [← hh, Bd.state]; rfl
  have N0 := Fr.nil n0
  refine go_st (fun t k => castTop (ef_note0 m a1 i ln) k) ?_
  show Go _ _ _ _ (s₁.setTop (mkF m 0 #[rv a1, iv i, iv ln] []))
  refine go_st (fun t k => XS.aloadN X0.here hx rfl (hb hby d1_0) rfl rfl k) ?_
  show Go _ _ _ _ (s₁.setTop (mkF m 1 #[rv a1, iv i, iv ln] [(.ref a1)]))
  obtain ⟨T1, X1, e1, st1⟩ := getF X0 hx hZ hown (host := "") (Or.inl (w20 hw)) Via.refl e0 H4 (g := (mkF m 1 #[rv a1, iv i, iv ln] [(.ref a1)])) rfl rfl (hb hby d1_1)
  refine go_st (fun t k => st1 t k) ?_
  show Go _ _ _ _ (T1.setTop (mkF m 4 #[rv a1, iv i, iv ln] [(.int 0)]))
  refine go_st (fun t k => XS.aloadN X1.here hx rfl (hb hby d1_4) rfl rfl k) ?_
  show Go _ _ _ _ (T1.setTop (mkF m 5 #[rv a1, iv i, iv ln] [(.ref a1), (.int 0)]))
  obtain ⟨T2, X2, e2, st2⟩ := getF X1 hx hZ hown (host := "") (Or.inl (w11 hw)) Via.refl e1 H1 (g := (mkF m 5 #[rv a1, iv i, iv ln] [(.ref a1), (.int 0)])) rfl rfl (hb hby d1_5)
  refine go_st (fun t k => st2 t k) ?_
  show Go _ _ _ _ (T2.setTop (mkF m 8 #[rv a1, iv i, iv ln] [(.ref ax), (.int 0)]))
  obtain ⟨zc3, zA3, zq3, zS3, zN3, zH3, zG3⟩ := id H5
  refine go_st (fun t k => X2.arraylength hx (by rw [e2]; exact zA3.1) (State.isArrayOf_alike hZ.alike zA3.2.1) (g := (mkF m 8 #[rv a1, iv i, iv ln] [(.ref ax), (.int 0)])) rfl rfl (hb hby d1_8) t k) ?_
  rw [len_of zS3 zN3]
  show Go _ _ _ _ (T2.setTop (mkF m 9 #[rv a1, iv i, iv ln] [(.int 64), (.int 0)]))
  refine go_st (fun t k => XS.icmpYes X2.here hx rfl (pc0 := 9) (pc' := 120) rfl (hb hby d1_9) rfl (feq ((by decide) : ¬ ((0 : Int32) = (64 : Int32)))).2 (by decide) (by decide) k) ?_
  show Go _ _ _ _ (T2.setTop (mkF m 120 #[rv a1, iv i, iv ln] []))
  refine go_st (fun t k => XS.aloadN X2.here hx rfl (hb hby d1_120) rfl rfl k) ?_
  show Go _ _ _ _ (T2.setTop (mkF m 121 #[rv a1, iv i, iv ln] [(.ref a1)]))
  obtain ⟨T4, X4, e4, st4⟩ := getF X2 hx hZ hown (host := "") (Or.inl (w11 hw)) Via.refl e2 H1 (g := (mkF m 121 #[rv a1, iv i, iv ln] [(.ref a1)])) rfl rfl (hb hby d1_121)
  refine go_st (fun t k => st4 t k) ?_
  show Go _ _ _ _ (T4.setTop (mkF m 124 #[rv a1, iv i, iv ln] [(.ref ax)]))
  refine go_st (fun t k => XS.aloadN X4.here hx rfl (hb hby d1_124) rfl rfl k) ?_
  show Go _ _ _ _ (T4.setTop (mkF m 125 #[rv a1, iv i, iv ln] [(.ref a1), (.ref ax)]))
  obtain ⟨T5, X5, e5, st5⟩ := getF X4 hx hZ hown (host := "") (Or.inl (w20 hw)) Via.refl e4 H4 (g := (mkF m 125 #[rv a1, iv i, iv ln] [(.ref a1), (.ref ax)])) rfl rfl (hb hby d1_125)
  refine go_st (fun t k => st5 t k) ?_
  show Go _ _ _ _ (T5.setTop (mkF m 128 #[rv a1, iv i, iv ln] [(.int 0), (.ref ax)]))
  refine go_st (fun t k => XS.iloadN X5.here hx rfl (hb hby d1_128) rfl k) ?_
  show Go _ _ _ _ (T5.setTop (mkF m 129 #[rv a1, iv i, iv ln] [(.int i), (.int 0), (.ref ax)]))
  have f6 : Arv Z h0 ax kx .int (64 : Int32) [(.int 0)] (.int (0 : Int32)) := H5.pad (pad_rep [] (.int 0) 1)
  obtain ⟨zc7, zA7, zq7, zS7, zN7, zH7, zG7⟩ := id f6
  have hin7 : ¬ ((0 : Int32) < 0 ∨ zc7.slots.size ≤ ((0 : Int32)).toNatClampNeg) := inb_of zS7 ⟨by decide, by decide⟩
  obtain ⟨T7, h7, X7, e7, W7, st7⟩ := stI X5 hx hZ e5 zA7 (j := (0 : Int32)) hin7 (g := (mkF m 129 #[rv a1, iv i, iv ln] [(.int i), (.int 0), (.ref ax)])) rfl rfl (hb hby d1_129)
  have N7 := Fr.snoc X7 N0 g_ax
  have f8 : Arv Z h7 ax kx .int (64 : Int32) [(.int i)] (.int (0 : Int32)) := Arv.set zA7 zq7 zS7 zN7 zH7 zG7 rfl W7 0 rfl (Nat.le_of_ble_eq_true rfl)
  refine go_st (fun t k => st7 t k) ?_
  show Go _ _ _ _ (T7.setTop (mkF m 130 #[rv a1, iv i, iv ln] []))
  refine go_st (fun t k => XS.aloadN X7.here hx rfl (hb hby d1_130) rfl rfl k) ?_
  show Go _ _ _ _ (T7.setTop (mkF m 131 #[rv a1, iv i, iv ln] [(.ref a1)]))
  have f9 : Fld Z h7 a1 "com/example/nudge/nudge/tree/BlockEntries" "lines" "[I" (.ref al) := (H2.other W7 (Or.inl ne_a1_ax))
  obtain ⟨T10, X10, e10, st10⟩ := getF X7 hx hZ hown (host := "") (Or.inl (w13 hw)) Via.refl e7 f9 (g := (mkF m 131 #[rv a1, iv i, iv ln] [(.ref a1)])) rfl rfl (hb hby d1_131)
  refine go_st (fun t k => st10 t k) ?_
  show Go _ _ _ _ (T10.setTop (mkF m 134 #[rv a1, iv i, iv ln] [(.ref al)]))
  refine go_st (fun t k => XS.aloadN X10.here hx rfl (hb hby d1_134) rfl rfl k) ?_
  show Go _ _ _ _ (T10.setTop (mkF m 135 #[rv a1, iv i, iv ln] [(.ref a1), (.ref al)]))
  have f11 : Fld Z h7 a1 "com/example/nudge/nudge/tree/BlockEntries" "count" "I" (.int 0) := (H4.other W7 (Or.inl ne_a1_ax))
  obtain ⟨T12, X12, e12, st12⟩ := getF X10 hx hZ hown (host := "") (Or.inl (w20 hw)) Via.refl e10 f11 (g := (mkF m 135 #[rv a1, iv i, iv ln] [(.ref a1), (.ref al)])) rfl rfl (hb hby d1_135)
  refine go_st (fun t k => st12 t k) ?_
  show Go _ _ _ _ (T12.setTop (mkF m 138 #[rv a1, iv i, iv ln] [(.int 0), (.ref al)]))
  refine go_st (fun t k => XS.iloadN X12.here hx rfl (hb hby d1_138) rfl k) ?_
  show Go _ _ _ _ (T12.setTop (mkF m 139 #[rv a1, iv i, iv ln] [(.int ln), (.int 0), (.ref al)]))
  have f13 : Arv Z h7 al kl .int (64 : Int32) [] (.int (0 : Int32)) := (H6.other W7 (Ne.symm ne_ax_al))
  have f14 : Arv Z h7 al kl .int (64 : Int32) [(.int 0)] (.int (0 : Int32)) := f13.pad (pad_rep [] (.int 0) 1)
  obtain ⟨zc15, zA15, zq15, zS15, zN15, zH15, zG15⟩ := id f14
  have hin15 : ¬ ((0 : Int32) < 0 ∨ zc15.slots.size ≤ ((0 : Int32)).toNatClampNeg) := inb_of zS15 ⟨by decide, by decide⟩
  obtain ⟨T15, h15, X15, e15, W15, st15⟩ := stI X12 hx hZ e12 zA15 (j := (0 : Int32)) hin15 (g := (mkF m 139 #[rv a1, iv i, iv ln] [(.int ln), (.int 0), (.ref al)])) rfl rfl (hb hby d1_139)
  have N15 := Fr.snoc X15 N7 g_al
  have f16 : Arv Z h15 al kl .int (64 : Int32) [(.int ln)] (.int (0 : Int32)) := Arv.set zA15 zq15 zS15 zN15 zH15 zG15 rfl W15 0 rfl (Nat.le_of_ble_eq_true rfl)
  refine go_st (fun t k => st15 t k) ?_
  show Go _ _ _ _ (T15.setTop (mkF m 140 #[rv a1, iv i, iv ln] []))
  refine go_st (fun t k => XS.aloadN X15.here hx rfl (hb hby d1_140) rfl rfl k) ?_
  show Go _ _ _ _ (T15.setTop (mkF m 141 #[rv a1, iv i, iv ln] [(.ref a1)]))
  refine go_st (fun t k => XS.dup X15.here hx rfl (hb hby d1_141) rfl rfl k) ?_
  show Go _ _ _ _ (T15.setTop (mkF m 142 #[rv a1, iv i, iv ln] [(.ref a1), (.ref a1)]))
  have f17 : Fld Z h15 a1 "com/example/nudge/nudge/tree/BlockEntries" "count" "I" (.int 0) := (f11.other W15 (Or.inl ne_a1_al))
  obtain ⟨T18, X18, e18, st18⟩ := getF X15 hx hZ hown (host := "") (Or.inl (w20 hw)) Via.refl e15 f17 (g := (mkF m 142 #[rv a1, iv i, iv ln] [(.ref a1), (.ref a1)])) rfl rfl (hb hby d1_142)
  refine go_st (fun t k => st18 t k) ?_
  show Go _ _ _ _ (T18.setTop (mkF m 145 #[rv a1, iv i, iv ln] [(.int 0), (.ref a1)]))
  refine go_st (fun t k => XS.iconst X18.here hx rfl (hb hby d1_145) k) ?_
  show Go _ _ _ _ (T18.setTop (mkF m 146 #[rv a1, iv i, iv ln] [(.int 1), (.int 0), (.ref a1)]))
  refine go_st (fun t k => XS.iadd X18.here hx rfl (hb hby d1_146) rfl k) ?_
  rw [show ((0 : Int32) + (1 : Int32)) = (1 : Int32) from by decide]
  show Go _ _ _ _ (T18.setTop (mkF m 147 #[rv a1, iv i, iv ln] [(.int 1), (.ref a1)]))
  have f19 : Exa Z h15 a1 "com/example/nudge/nudge/tree/BlockEntries" := ((H0.wr W7).wr W15)
  obtain ⟨T20, h20, X20, e20, W20, st20⟩ := putF X18 hx hZ hown (host := "") (Or.inl (w20 hw)) Via.refl e18 f17 f19 (Or.inl (w21 hw)) (w2 hw) (ty := .int) (by decide) rfl rfl (g := (mkF m 147 #[rv a1, iv i, iv ln] [(.int 1), (.ref a1)])) rfl rfl (hb hby d1_147)
  have N20 := Fr.snoc X20 N15 g_a1
  have f21 : Fld Z h20 a1 "com/example/nudge/nudge/tree/BlockEntries" "count" "I" (.int 1) := f17.same W20
  refine go_st (fun t k => st20 t k) ?_
  show Go _ _ _ _ (T20.setTop (mkF m 150 #[rv a1, iv i, iv ln] []))
  have f22 : Exa Z h20 a1 "com/example/nudge/nudge/tree/BlockEntries" := (f19.wr W20)
  have f23 : Fld Z h20 a1 "com/example/nudge/nudge/tree/BlockEntries" "indexes" "[I" (.ref ax) := (((H1.other W7 (Or.inl ne_a1_ax)).other W15 (Or.inl ne_a1_al)).other W20 (Or.inr (slot_ne (Or.inl (w12 hw)) (Or.inl (w21 hw)) (by decide) (t := (.array .int)) (t' := .int) (by decide) (by decide))))
  have f24 : Fld Z h20 a1 "com/example/nudge/nudge/tree/BlockEntries" "lines" "[I" (.ref al) := ((f9.other W15 (Or.inl ne_a1_al)).other W20 (Or.inr (slot_ne (Or.inl (w14 hw)) (Or.inl (w21 hw)) (by decide) (t := (.array .int)) (t' := .int) (by decide) (by decide))))
  have f25 : Fld Z h20 a1 "com/example/nudge/nudge/tree/BlockEntries" "first" "I" (.int 0) := (((H3.other W7 (Or.inl ne_a1_ax)).other W15 (Or.inl ne_a1_al)).other W20 (Or.inr (slot_ne (Or.inl (w28 hw)) (Or.inl (w21 hw)) (by decide) (t := .int) (t' := .int) (by decide) (by decide))))
  have f26 : Arv Z h20 ax kx .int (64 : Int32) [(.int i)] (.int (0 : Int32)) := ((f8.other W15 ne_ax_al).other W20 (Ne.symm ne_a1_ax))
  have f27 : Arv Z h20 al kl .int (64 : Int32) [(.int ln)] (.int (0 : Int32)) := (f16.other W20 (Ne.symm ne_a1_al))
  have ke28 : Keep h0 h7 [a1, ax, al] := (Keep.wr (Keep.refl h0 [a1, ax, al]) W7 (Or.inl (List.mem_of_getElem? (i := 1) rfl)))
  have ke29 : Keep h0 h15 [a1, ax, al] := (Keep.wr ke28 W15 (Or.inl (List.mem_of_getElem? (i := 2) rfl)))
  have ke30 : Keep h0 h20 [a1, ax, al] := (Keep.wr ke29 W20 (Or.inl (List.mem_of_getElem? (i := 0) rfl)))
  obtain ⟨fs, hr, hrun, hended, hW, hsame⟩ := X20.leave (v := none) (fun _ => rfl)
  refine ⟨_, _, ?_, hrun, hended, _, _, rfl, ?_, ⟨_, rfl⟩, hW, hsame.mono (by decide) (by decide)⟩
  · exact X20.returnOut hx Bd.returns (hb hby d1_150) hr
  · show Q_note0 _ _ _ _ _ _ _ _ _ _ _ T20.heap _
    rw [e20]
    exact ⟨rfl, N20, ke30, f22, f23, f24, f25, f21, f26, f27⟩
def Q_note1 (Z : State) (a1 : Addr) (ax : Addr) (al : Addr) (kx : ClassId) (kl : ClassId) (i : Int32) (ln : Int32) (x0 : Int32) (l0 : Int32) (h0 : Heap) (n0 : Nat) (vR : Option Value) (h : Heap) (L : List Loc) : Prop := vR = none ∧ Fr n0 L ∧ Keep h0 h [a1, ax, al] ∧ (Exa Z h a1 "com/example/nudge/nudge/tree/BlockEntries") ∧ (Fld Z h a1 "com/example/nudge/nudge/tree/BlockEntries" "indexes" "[I" (.ref ax)) ∧ (Fld Z h a1 "com/example/nudge/nudge/tree/BlockEntries" "lines" "[I" (.ref al)) ∧ (Fld Z h a1 "com/example/nudge/nudge/tree/BlockEntries" "first" "I" (.int 0)) ∧ (Fld Z h a1 "com/example/nudge/nudge/tree/BlockEntries" "count" "I" (.int 2)) ∧ (Arv Z h ax kx .int (64 : Int32) [(.int x0), (.int i)] (.int (0 : Int32))) ∧ (Arv Z h al kl .int (64 : Int32) [(.int l0), (.int ln)] (.int (0 : Int32)))
theorem ef_note1 (m : MethodId) (x0 : Addr) (x1 : Int32) (x2 : Int32) : entryFrame m #[(.ref x0), (.int x1), (.int x2)] 3 = mkF m 0 #[.val (.ref x0), .val (.int x1), .val (.int x2)] [] := by first | (simp [entryFrame, mkF, argsToLocals, Value.category]; done) | rfl
set_option maxRecDepth 65536 in
set_option maxHeartbeats 40000000 in
theorem rm_note1 (l : Launch) (Z : State) (a0 : Array Value) (hw : ∀ d ∈ tables_1, d.before a0 Z = true) (ws : List Jvm.Cond) (a1 : Addr) (ax : Addr) (al : Addr) (kx : ClassId) (kl : ClassId) (i : Int32) (ln : Int32) (x0 : Int32) (l0 : Int32) (h0 : Heap) (n0 : Nat) (Z0 : n0 ≤ h0.size) (H0 : Exa Z h0 a1 "com/example/nudge/nudge/tree/BlockEntries") (H1 : Fld Z h0 a1 "com/example/nudge/nudge/tree/BlockEntries" "indexes" "[I" (.ref ax)) (H2 : Fld Z h0 a1 "com/example/nudge/nudge/tree/BlockEntries" "lines" "[I" (.ref al)) (H3 : Fld Z h0 a1 "com/example/nudge/nudge/tree/BlockEntries" "first" "I" (.int 0)) (H4 : Fld Z h0 a1 "com/example/nudge/nudge/tree/BlockEntries" "count" "I" (.int 1)) (H5 : Arv Z h0 ax kx .int (64 : Int32) [(.int x0)] (.int (0 : Int32))) (H6 : Arv Z h0 al kl .int (64 : Int32) [(.int l0)] (.int (0 : Int32))) (ne_a1_ax : a1 ≠ ax) (ne_a1_al : a1 ≠ al) (ne_ax_al : ax ≠ al) (g_a1 : n0 ≤ a1) (g_ax : n0 ≤ ax) (g_al : n0 ≤ al) :
    MetFree l (⟨"com/example/nudge/nudge/tree/BlockEntries", "note", "(II)V"⟩ : MethodName) (head1 (Jvm.Cond.code (⟨"com/example/nudge/nudge/tree/BlockEntries", "note", "(II)V"⟩ : MethodName) prog_17_method_2_code 3 none :: ws) ({ frames := 0, cells := 0, slots := 0, locals := 0 } : Room)) (fun a U => a = #[(.ref a1), (.int i), (.int ln)] ∧ Z.Warmed39 U.vm ∧ U.heap = h0) (fun _ _ _ _ _ => True) (fun _ U o U' => ∃ v L, o = .returned v ∧ Q_note1 Z a1 ax al kx kl i ln x0 l0 h0 n0 v U'.heap L ∧ FrameEnd U o U' L ({ frames := 0, cells := 0, slots := 0, locals := 0 } : Room).cells ({ frames := 0, cells := 0, slots := 0, locals := 0 } : Room).slots) := by
  refine MetFree.of_bodySF (plainFor_of_name pn_com_example_nudge_nudge_tree_BlockEntries) hisR ?_
  intro p e s m args below meth c s₁ Bd hml0 hP hK
  obtain ⟨rfl, hZ, hh⟩ := hP
  have hx := Bd.exec
  have hby := Bd.bytes
  have hml : c.maxLocals = 3 := hml0
  have hown : s.vm.findClass "com/example/nudge/nudge/tree/BlockEntries" = some m.cls := findClass_of_methodNamed Bd.named
  have hnm := (name_of_methodNamed Bd.named Bd.method).1
  have X0 : Stand p l e ({ frames := 0, cells := 0, slots := 0, locals := 0 } : Room) s m #[(.ref a1), (.int i), (.int ln)] below meth c s₁ [] 0 0 := Stand.of_body Bd
  have e0 : s₁.heap = h0 := by rw [← hh, Bd.state]; rfl
  have N0 := Fr.nil n0
  refine go_st (fun t k => castTop (ef_note1 m a1 i ln) k) ?_
  show Go _ _ _ _ (s₁.setTop (mkF m 0 #[rv a1, iv i, iv ln] []))
  refine go_st (fun t k => XS.aloadN X0.here hx rfl (hb hby d1_0) rfl rfl k) ?_
  show Go _ _ _ _ (s₁.setTop (mkF m 1 #[rv a1, iv i, iv ln] [(.ref a1)]))
  obtain ⟨T1, X1, e1, st1⟩ := getF X0 hx hZ hown (host := "") (Or.inl (w20 hw)) Via.refl e0 H4 (g := (mkF m 1 #[rv a1, iv i, iv ln] [(.ref a1)])) rfl rfl (hb hby d1_1)
  refine go_st (fun t k => st1 t k) ?_
  show Go _ _ _ _ (T1.setTop (mkF m 4 #[rv a1, iv i, iv ln] [(.int 1)]))
  refine go_st (fun t k => XS.aloadN X1.here hx rfl (hb hby d1_4) rfl rfl k) ?_
  show Go _ _ _ _ (T1.setTop (mkF m 5 #[rv a1, iv i, iv ln] [(.ref a1), (.int 1)]))
  obtain ⟨T2, X2, e2, st2⟩ := getF X1 hx hZ hown (host := "") (Or.inl (w11 hw)) Via.refl e1 H1 (g := (mkF m 5 #[rv a1, iv i, iv ln] [(.ref a1), (.int 1)])) rfl rfl (hb hby d1_5)
  refine go_st (fun t k => st2 t k) ?_
  show Go _ _ _ _ (T2.setTop (mkF m 8 #[rv a1, iv i, iv ln] [(.ref ax), (.int 1)]))
  obtain ⟨zc3, zA3, zq3, zS3, zN3, zH3, zG3⟩ := id H5
  refine go_st (fun t k => X2.arraylength hx (by rw [e2]; exact zA3.1) (State.isArrayOf_alike hZ.alike zA3.2.1) (g := (mkF m 8 #[rv a1, iv i, iv ln] [(.ref ax), (.int 1)])) rfl rfl (hb hby d1_8) t k) ?_
  rw [len_of zS3 zN3]
  show Go _ _ _ _ (T2.setTop (mkF m 9 #[rv a1, iv i, iv ln] [(.int 64), (.int 1)]))
  refine go_st (fun t k => XS.icmpYes X2.here hx rfl (pc0 := 9) (pc' := 120) rfl (hb hby d1_9) rfl (feq ((by decide) : ¬ ((1 : Int32) = (64 : Int32)))).2 (by decide) (by decide) k) ?_
  show Go _ _ _ _ (T2.setTop (mkF m 120 #[rv a1, iv i, iv ln] []))
  refine go_st (fun t k => XS.aloadN X2.here hx rfl (hb hby d1_120) rfl rfl k) ?_
  show Go _ _ _ _ (T2.setTop (mkF m 121 #[rv a1, iv i, iv ln] [(.ref a1)]))
  obtain ⟨T4, X4, e4, st4⟩ := getF X2 hx hZ hown (host := "") (Or.inl (w11 hw)) Via.refl e2 H1 (g := (mkF m 121 #[rv a1, iv i, iv ln] [(.ref a1)])) rfl rfl (hb hby d1_121)
  refine go_st (fun t k => st4 t k) ?_
  show Go _ _ _ _ (T4.setTop (mkF m 124 #[rv a1, iv i, iv ln] [(.ref ax)]))
  refine go_st (fun t k => XS.aloadN X4.here hx rfl (hb hby d1_124) rfl rfl k) ?_
  show Go _ _ _ _ (T4.setTop (mkF m 125 #[rv a1, iv i, iv ln] [(.ref a1), (.ref ax)]))
  obtain ⟨T5, X5, e5, st5⟩ := getF X4 hx hZ hown (host := "") (Or.inl (w20 hw)) Via.refl e4 H4 (g := (mkF m 125 #[rv a1, iv i, iv ln] [(.ref a1), (.ref ax)])) rfl rfl (hb hby d1_125)
  refine go_st (fun t k => st5 t k) ?_
  show Go _ _ _ _ (T5.setTop (mkF m 128 #[rv a1, iv i, iv ln] [(.int 1), (.ref ax)]))
  refine go_st (fun t k => XS.iloadN X5.here hx rfl (hb hby d1_128) rfl k) ?_
  show Go _ _ _ _ (T5.setTop (mkF m 129 #[rv a1, iv i, iv ln] [(.int i), (.int 1), (.ref ax)]))
  have f6 : Arv Z h0 ax kx .int (64 : Int32) [(.int x0), (.int 0)] (.int (0 : Int32)) := H5.pad (pad_rep [(.int x0)] (.int 0) 1)
  obtain ⟨zc7, zA7, zq7, zS7, zN7, zH7, zG7⟩ := id f6
  have hin7 : ¬ ((1 : Int32) < 0 ∨ zc7.slots.size ≤ ((1 : Int32)).toNatClampNeg) := inb_of zS7 ⟨by decide, by decide⟩
  obtain ⟨T7, h7, X7, e7, W7, st7⟩ := stI X5 hx hZ e5 zA7 (j := (1 : Int32)) hin7 (g := (mkF m 129 #[rv a1, iv i, iv ln] [(.int i), (.int 1), (.ref ax)])) rfl rfl (hb hby d1_129)
  have N7 := Fr.snoc X7 N0 g_ax
  have f8 : Arv Z h7 ax kx .int (64 : Int32) [(.int x0), (.int i)] (.int (0 : Int32)) := Arv.set zA7 zq7 zS7 zN7 zH7 zG7 rfl W7 1 rfl (Nat.le_of_ble_eq_true rfl)
  refine go_st (fun t k => st7 t k) ?_
  show Go _ _ _ _ (T7.setTop (mkF m 130 #[rv a1, iv i, iv ln] []))
  refine go_st (fun t k => XS.aloadN X7.here hx rfl (hb hby d1_130) rfl rfl k) ?_
  show Go _ _ _ _ (T7.setTop (mkF m 131 #[rv a1, iv i, iv ln] [(.ref a1)]))
  have f9 : Fld Z h7 a1 "com/example/nudge/nudge/tree/BlockEntries" "lines" "[I" (.ref al) := (H2.other W7 (Or.inl ne_a1_ax))
  obtain ⟨T10, X10, e10, st10⟩ := getF X7 hx hZ hown (host := "") (Or.inl (w13 hw)) Via.refl e7 f9 (g := (mkF m 131 #[rv a1, iv i, iv ln] [(.ref a1)])) rfl rfl (hb hby d1_131)
  refine go_st (fun t k => st10 t k) ?_
  show Go _ _ _ _ (T10.setTop (mkF m 134 #[rv a1, iv i, iv ln] [(.ref al)]))
  refine go_st (fun t k => XS.aloadN X10.here hx rfl (hb hby d1_134) rfl rfl k) ?_
  show Go _ _ _ _ (T10.setTop (mkF m 135 #[rv a1, iv i, iv ln] [(.ref a1), (.ref al)]))
  have f11 : Fld Z h7 a1 "com/example/nudge/nudge/tree/BlockEntries" "count" "I" (.int 1) := (H4.other W7 (Or.inl ne_a1_ax))
  obtain ⟨T12, X12, e12, st12⟩ := getF X10 hx hZ hown (host := "") (Or.inl (w20 hw)) Via.refl e10 f11 (g := (mkF m 135 #[rv a1, iv i, iv ln] [(.ref a1), (.ref al)])) rfl rfl (hb hby d1_135)
  refine go_st (fun t k => st12 t k) ?_
  show Go _ _ _ _ (T12.setTop (mkF m 138 #[rv a1, iv i, iv ln] [(.int 1), (.ref al)]))
  refine go_st (fun t k => XS.iloadN X12.here hx rfl (hb hby d1_138) rfl k) ?_
  show Go _ _ _ _ (T12.setTop (mkF m 139 #[rv a1, iv i, iv ln] [(.int ln), (.int 1), (.ref al)]))
  have f13 : Arv Z h7 al kl .int (64 : Int32) [(.int l0)] (.int (0 : Int32)) := (H6.other W7 (Ne.symm ne_ax_al))
  have f14 : Arv Z h7 al kl .int (64 : Int32) [(.int l0), (.int 0)] (.int (0 : Int32)) := f13.pad (pad_rep [(.int l0)] (.int 0) 1)
  obtain ⟨zc15, zA15, zq15, zS15, zN15, zH15, zG15⟩ := id f14
  have hin15 : ¬ ((1 : Int32) < 0 ∨ zc15.slots.size ≤ ((1 : Int32)).toNatClampNeg) := inb_of zS15 ⟨by decide, by decide⟩
  obtain ⟨T15, h15, X15, e15, W15, st15⟩ := stI X12 hx hZ e12 zA15 (j := (1 : Int32)) hin15 (g := (mkF m 139 #[rv a1, iv i, iv ln] [(.int ln), (.int 1), (.ref al)])) rfl rfl (hb hby d1_139)
  have N15 := Fr.snoc X15 N7 g_al
  have f16 : Arv Z h15 al kl .int (64 : Int32) [(.int l0), (.int ln)] (.int (0 : Int32)) := Arv.set zA15 zq15 zS15 zN15 zH15 zG15 rfl W15 1 rfl (Nat.le_of_ble_eq_true rfl)
  refine go_st (fun t k => st15 t k) ?_
  show Go _ _ _ _ (T15.setTop (mkF m 140 #[rv a1, iv i, iv ln] []))
  refine go_st (fun t k => XS.aloadN X15.here hx rfl (hb hby d1_140) rfl rfl k) ?_
  show Go _ _ _ _ (T15.setTop (mkF m 141 #[rv a1, iv i, iv ln] [(.ref a1)]))
  refine go_st (fun t k => XS.dup X15.here hx rfl (hb hby d1_141) rfl rfl k) ?_
  show Go _ _ _ _ (T15.setTop (mkF m 142 #[rv a1, iv i, iv ln] [(.ref a1), (.ref a1)]))
  have f17 : Fld Z h15 a1 "com/example/nudge/nudge/tree/BlockEntries" "count" "I" (.int 1) := (f11.other W15 (Or.inl ne_a1_al))
  obtain ⟨T18, X18, e18, st18⟩ := getF X15 hx hZ hown (host := "") (Or.inl (w20 hw)) Via.refl e15 f17 (g := (mkF m 142 #[rv a1, iv i, iv ln] [(.ref a1), (.ref a1)])) rfl rfl (hb hby d1_142)
  refine go_st (fun t k => st18 t k) ?_
  show Go _ _ _ _ (T18.setTop (mkF m 145 #[rv a1, iv i, iv ln] [(.int 1), (.ref a1)]))
  refine go_st (fun t k => XS.iconst X18.here hx rfl (hb hby d1_145) k) ?_
  show Go _ _ _ _ (T18.setTop (mkF m 146 #[rv a1, iv i, iv ln] [(.int 1), (.int 1), (.ref a1)]))
  refine go_st (fun t k => XS.iadd X18.here hx rfl (hb hby d1_146) rfl k) ?_
  rw [show ((1 : Int32) + (1 : Int32)) = (2 : Int32) from by decide]
  show Go _ _ _ _ (T18.setTop (mkF m 147 #[rv a1, iv i, iv ln] [(.int 2), (.ref a1)]))
  have f19 : Exa Z h15 a1 "com/example/nudge/nudge/tree/BlockEntries" := ((H0.wr W7).wr W15)
  obtain ⟨T20, h20, X20, e20, W20, st20⟩ := putF X18 hx hZ hown (host := "") (Or.inl (w20 hw)) Via.refl e18 f17 f19 (Or.inl (w21 hw)) (w2 hw) (ty := .int) (by decide) rfl rfl (g := (mkF m 147 #[rv a1, iv i, iv ln] [(.int 2), (.ref a1)])) rfl rfl (hb hby d1_147)
  have N20 := Fr.snoc X20 N15 g_a1
  have f21 : Fld Z h20 a1 "com/example/nudge/nudge/tree/BlockEntries" "count" "I" (.int 2) := f17.same W20
  refine go_st (fun t k => st20 t k) ?_
  show Go _ _ _ _ (T20.setTop (mkF m 150 #[rv a1, iv i, iv ln] []))
  have f22 : Exa Z h20 a1 "com/example/nudge/nudge/tree/BlockEntries" := (f19.wr W20)
  have f23 : Fld Z h20 a1 "com/example/nudge/nudge/tree/BlockEntries" "indexes" "[I" (.ref ax) := (((H1.other W7 (Or.inl ne_a1_ax)).other W15 (Or.inl ne_a1_al)).other W20 (Or.inr (slot_ne (Or.inl (w12 hw)) (Or.inl (w21 hw)) (by decide) (t := (.array .int)) (t' := .int) (by decide) (by decide))))
  have f24 : Fld Z h20 a1 "com/example/nudge/nudge/tree/BlockEntries" "lines" "[I" (.ref al) := ((f9.other W15 (Or.inl ne_a1_al)).other W20 (Or.inr (slot_ne (Or.inl (w14 hw)) (Or.inl (w21 hw)) (by decide) (t := (.array .int)) (t' := .int) (by decide) (by decide))))
  have f25 : Fld Z h20 a1 "com/example/nudge/nudge/tree/BlockEntries" "first" "I" (.int 0) := (((H3.other W7 (Or.inl ne_a1_ax)).other W15 (Or.inl ne_a1_al)).other W20 (Or.inr (slot_ne (Or.inl (w28 hw)) (Or.inl (w21 hw)) (by decide) (t := .int) (t' := .int) (by decide) (by decide))))
  have f26 : Arv Z h20 ax kx .int (64 : Int32) [(.int x0), (.int i)] (.int (0 : Int32)) := ((f8.other W15 ne_ax_al).other W20 (Ne.symm ne_a1_ax))
  have f27 : Arv Z h20 al kl .int (64 : Int32) [(.int l0), (.int ln)] (.int (0 : Int32)) := (f16.other W20 (Ne.symm ne_a1_al))
  have ke28 : Keep h0 h7 [a1, ax, al] := (Keep.wr (Keep.refl h0 [a1, ax, al]) W7 (Or.inl (List.mem_of_getElem? (i := 1) rfl)))
  have ke29 : Keep h0 h15 [a1, ax, al] := (Keep.wr ke28 W15 (Or.inl (List.mem_of_getElem? (i := 2) rfl)))
  have ke30 : Keep h0 h20 [a1, ax, al] := (Keep.wr ke29 W20 (Or.inl (List.mem_of_getElem? (i := 0) rfl)))
  obtain ⟨fs, hr, hrun, hended, hW, hsame⟩ := X20.leave (v := none) (fun _ => rfl)
  refine ⟨_, _, ?_, hrun, hended, _, _, rfl, ?_, ⟨_, rfl⟩, hW, hsame.mono (by decide) (by decide)⟩
  · exact X20.returnOut hx Bd.returns (hb hby d1_150) hr
  · show Q_note1 _ _ _ _ _ _ _ _ _ _ _ _ _ T20.heap _
    rw [e20]
    exact ⟨rfl, N20, ke30, f22, f23, f24, f25, f21, f26, f27⟩
def Q_note2 (Z : State) (a1 : Addr) (ax : Addr) (al : Addr) (kx : ClassId) (kl : ClassId) (i : Int32) (ln : Int32) (x0 : Int32) (x1 : Int32) (l0 : Int32) (l1 : Int32) (h0 : Heap) (n0 : Nat) (vR : Option Value) (h : Heap) (L : List Loc) : Prop := vR = none ∧ Fr n0 L ∧ Keep h0 h [a1, ax, al] ∧ (Exa Z h a1 "com/example/nudge/nudge/tree/BlockEntries") ∧ (Fld Z h a1 "com/example/nudge/nudge/tree/BlockEntries" "indexes" "[I" (.ref ax)) ∧ (Fld Z h a1 "com/example/nudge/nudge/tree/BlockEntries" "lines" "[I" (.ref al)) ∧ (Fld Z h a1 "com/example/nudge/nudge/tree/BlockEntries" "first" "I" (.int 0)) ∧ (Fld Z h a1 "com/example/nudge/nudge/tree/BlockEntries" "count" "I" (.int 3)) ∧ (Arv Z h ax kx .int (64 : Int32) [(.int x0), (.int x1), (.int i)] (.int (0 : Int32))) ∧ (Arv Z h al kl .int (64 : Int32) [(.int l0), (.int l1), (.int ln)] (.int (0 : Int32)))
theorem ef_note2 (m : MethodId) (x0 : Addr) (x1 : Int32) (x2 : Int32) : entryFrame m #[(.ref x0), (.int x1), (.int x2)] 3 = mkF m 0 #[.val (.ref x0), .val (.int x1), .val (.int x2)] [] := by first | (simp [entryFrame, mkF, argsToLocals, Value.category]; done) | rfl
set_option maxRecDepth 65536 in
set_option maxHeartbeats 40000000 in
theorem rm_note2 (l : Launch) (Z : State) (a0 : Array Value) (hw : ∀ d ∈ tables_1, d.before a0 Z = true) (ws : List Jvm.Cond) (a1 : Addr) (ax : Addr) (al : Addr) (kx : ClassId) (kl : ClassId) (i : Int32) (ln : Int32) (x0 : Int32) (x1 : Int32) (l0 : Int32) (l1 : Int32) (h0 : Heap) (n0 : Nat) (Z0 : n0 ≤ h0.size) (H0 : Exa Z h0 a1 "com/example/nudge/nudge/tree/BlockEntries") (H1 : Fld Z h0 a1 "com/example/nudge/nudge/tree/BlockEntries" "indexes" "[I" (.ref ax)) (H2 : Fld Z h0 a1 "com/example/nudge/nudge/tree/BlockEntries" "lines" "[I" (.ref al)) (H3 : Fld Z h0 a1 "com/example/nudge/nudge/tree/BlockEntries" "first" "I" (.int 0)) (H4 : Fld Z h0 a1 "com/example/nudge/nudge/tree/BlockEntries" "count" "I" (.int 2)) (H5 : Arv Z h0 ax kx .int (64 : Int32) [(.int x0), (.int x1)] (.int (0 : Int32))) (H6 : Arv Z h0 al kl .int (64 : Int32) [(.int l0), (.int l1)] (.int (0 : Int32))) (ne_a1_ax : a1 ≠ ax) (ne_a1_al : a1 ≠ al) (ne_ax_al : ax ≠ al) (g_a1 : n0 ≤ a1) (g_ax : n0 ≤ ax) (g_al : n0 ≤ al) :
    MetFree l (⟨"com/example/nudge/nudge/tree/BlockEntries", "note", "(II)V"⟩ : MethodName) (head1 (Jvm.Cond.code (⟨"com/example/nudge/nudge/tree/BlockEntries", "note", "(II)V"⟩ : MethodName) prog_17_method_2_code 3 none :: ws) ({ frames := 0, cells := 0, slots := 0, locals := 0 } : Room)) (fun a U => a = #[(.ref a1), (.int i), (.int ln)] ∧ Z.Warmed39 U.vm ∧ U.heap = h0) (fun _ _ _ _ _ => True) (fun _ U o U' => ∃ v L, o = .returned v ∧ Q_note2 Z a1 ax al kx kl i ln x0 x1 l0 l1 h0 n0 v U'.heap L ∧ FrameEnd U o U' L ({ frames := 0, cells := 0, slots := 0, locals := 0 } : Room).cells ({ frames := 0, cells := 0, slots := 0, locals := 0 } : Room).slots) := by
  refine MetFree.of_bodySF (plainFor_of_name pn_com_example_nudge_nudge_tree_BlockEntries) hisR ?_
  intro p e s m args below meth c s₁ Bd hml0 hP hK
  obtain ⟨rfl, hZ, hh⟩ := hP
  have hx := Bd.exec
  have hby := Bd.bytes
  have hml : c.maxLocals = 3 := hml0
  have hown : s.vm.findClass "com/example/nudge/nudge/tree/BlockEntries" = some m.cls := findClass_of_methodNamed Bd.named
  have hnm := (name_of_methodNamed Bd.named Bd.method).1
  have X0 : Stand p l e ({ frames := 0, cells := 0, slots := 0, locals := 0 } : Room) s m #[(.ref a1), (.int i), (.int ln)] below meth c s₁ [] 0 0 := Stand.of_body Bd
  have e0 : s₁.heap = h0 := by rw [← hh, Bd.state]; rfl
  have N0 := Fr.nil n0
  refine go_st (fun t k => castTop (ef_note2 m a1 i ln) k) ?_
  show Go _ _ _ _ (s₁.setTop (mkF m 0 #[rv a1, iv i, iv ln] []))
  refine go_st (fun t k => XS.aloadN X0.here hx rfl (hb hby d1_0) rfl rfl k) ?_
  show Go _ _ _ _ (s₁.setTop (mkF m 1 #[rv a1, iv i, iv ln] [(.ref a1)]))
  obtain ⟨T1, X1, e1, st1⟩ := getF X0 hx hZ hown (host := "") (Or.inl (w20 hw)) Via.refl e0 H4 (g := (mkF m 1 #[rv a1, iv i, iv ln] [(.ref a1)])) rfl rfl (hb hby d1_1)
  refine go_st (fun t k => st1 t k) ?_
  show Go _ _ _ _ (T1.setTop (mkF m 4 #[rv a1, iv i, iv ln] [(.int 2)]))
  refine go_st (fun t k => XS.aloadN X1.here hx rfl (hb hby d1_4) rfl rfl k) ?_
  show Go _ _ _ _ (T1.setTop (mkF m 5 #[rv a1, iv i, iv ln] [(.ref a1), (.int 2)]))
  obtain ⟨T2, X2, e2, st2⟩ := getF X1 hx hZ hown (host := "") (Or.inl (w11 hw)) Via.refl e1 H1 (g := (mkF m 5 #[rv a1, iv i, iv ln] [(.ref a1), (.int 2)])) rfl rfl (hb hby d1_5)
  refine go_st (fun t k => st2 t k) ?_
  show Go _ _ _ _ (T2.setTop (mkF m 8 #[rv a1, iv i, iv ln] [(.ref ax), (.int 2)]))
  obtain ⟨zc3, zA3, zq3, zS3, zN3, zH3, zG3⟩ := id H5
  refine go_st (fun t k => X2.arraylength hx (by rw [e2]; exact zA3.1) (State.isArrayOf_alike hZ.alike zA3.2.1) (g := (mkF m 8 #[rv a1, iv i, iv ln] [(.ref ax), (.int 2)])) rfl rfl (hb hby d1_8) t k) ?_
  rw [len_of zS3 zN3]
  show Go _ _ _ _ (T2.setTop (mkF m 9 #[rv a1, iv i, iv ln] [(.int 64), (.int 2)]))
  refine go_st (fun t k => XS.icmpYes X2.here hx rfl (pc0 := 9) (pc' := 120) rfl (hb hby d1_9) rfl (feq ((by decide) : ¬ ((2 : Int32) = (64 : Int32)))).2 (by decide) (by decide) k) ?_
  show Go _ _ _ _ (T2.setTop (mkF m 120 #[rv a1, iv i, iv ln] []))
  refine go_st (fun t k => XS.aloadN X2.here hx rfl (hb hby d1_120) rfl rfl k) ?_
  show Go _ _ _ _ (T2.setTop (mkF m 121 #[rv a1, iv i, iv ln] [(.ref a1)]))
  obtain ⟨T4, X4, e4, st4⟩ := getF X2 hx hZ hown (host := "") (Or.inl (w11 hw)) Via.refl e2 H1 (g := (mkF m 121 #[rv a1, iv i, iv ln] [(.ref a1)])) rfl rfl (hb hby d1_121)
  refine go_st (fun t k => st4 t k) ?_
  show Go _ _ _ _ (T4.setTop (mkF m 124 #[rv a1, iv i, iv ln] [(.ref ax)]))
  refine go_st (fun t k => XS.aloadN X4.here hx rfl (hb hby d1_124) rfl rfl k) ?_
  show Go _ _ _ _ (T4.setTop (mkF m 125 #[rv a1, iv i, iv ln] [(.ref a1), (.ref ax)]))
  obtain ⟨T5, X5, e5, st5⟩ := getF X4 hx hZ hown (host := "") (Or.inl (w20 hw)) Via.refl e4 H4 (g := (mkF m 125 #[rv a1, iv i, iv ln] [(.ref a1), (.ref ax)])) rfl rfl (hb hby d1_125)
  refine go_st (fun t k => st5 t k) ?_
  show Go _ _ _ _ (T5.setTop (mkF m 128 #[rv a1, iv i, iv ln] [(.int 2), (.ref ax)]))
  refine go_st (fun t k => XS.iloadN X5.here hx rfl (hb hby d1_128) rfl k) ?_
  show Go _ _ _ _ (T5.setTop (mkF m 129 #[rv a1, iv i, iv ln] [(.int i), (.int 2), (.ref ax)]))
  have f6 : Arv Z h0 ax kx .int (64 : Int32) [(.int x0), (.int x1), (.int 0)] (.int (0 : Int32)) := H5.pad (pad_rep [(.int x0), (.int x1)] (.int 0) 1)
  obtain ⟨zc7, zA7, zq7, zS7, zN7, zH7, zG7⟩ := id f6
  have hin7 : ¬ ((2 : Int32) < 0 ∨ zc7.slots.size ≤ ((2 : Int32)).toNatClampNeg) := inb_of zS7 ⟨by decide, by decide⟩
  obtain ⟨T7, h7, X7, e7, W7, st7⟩ := stI X5 hx hZ e5 zA7 (j := (2 : Int32)) hin7 (g := (mkF m 129 #[rv a1, iv i, iv ln] [(.int i), (.int 2), (.ref ax)])) rfl rfl (hb hby d1_129)
  have N7 := Fr.snoc X7 N0 g_ax
  have f8 : Arv Z h7 ax kx .int (64 : Int32) [(.int x0), (.int x1), (.int i)] (.int (0 : Int32)) := Arv.set zA7 zq7 zS7 zN7 zH7 zG7 rfl W7 2 rfl (Nat.le_of_ble_eq_true rfl)
  refine go_st (fun t k => st7 t k) ?_
  show Go _ _ _ _ (T7.setTop (mkF m 130 #[rv a1, iv i, iv ln] []))
  refine go_st (fun t k => XS.aloadN X7.here hx rfl (hb hby d1_130) rfl rfl k) ?_
  show Go _ _ _ _ (T7.setTop (mkF m 131 #[rv a1, iv i, iv ln] [(.ref a1)]))
  have f9 : Fld Z h7 a1 "com/example/nudge/nudge/tree/BlockEntries" "lines" "[I" (.ref al) := (H2.other W7 (Or.inl ne_a1_ax))
  obtain ⟨T10, X10, e10, st10⟩ := getF X7 hx hZ hown (host := "") (Or.inl (w13 hw)) Via.refl e7 f9 (g := (mkF m 131 #[rv a1, iv i, iv ln] [(.ref a1)])) rfl rfl (hb hby d1_131)
  refine go_st (fun t k => st10 t k) ?_
  show Go _ _ _ _ (T10.setTop (mkF m 134 #[rv a1, iv i, iv ln] [(.ref al)]))
  refine go_st (fun t k => XS.aloadN X10.here hx rfl (hb hby d1_134) rfl rfl k) ?_
  show Go _ _ _ _ (T10.setTop (mkF m 135 #[rv a1, iv i, iv ln] [(.ref a1), (.ref al)]))
  have f11 : Fld Z h7 a1 "com/example/nudge/nudge/tree/BlockEntries" "count" "I" (.int 2) := (H4.other W7 (Or.inl ne_a1_ax))
  obtain ⟨T12, X12, e12, st12⟩ := getF X10 hx hZ hown (host := "") (Or.inl (w20 hw)) Via.refl e10 f11 (g := (mkF m 135 #[rv a1, iv i, iv ln] [(.ref a1), (.ref al)])) rfl rfl (hb hby d1_135)
  refine go_st (fun t k => st12 t k) ?_
  show Go _ _ _ _ (T12.setTop (mkF m 138 #[rv a1, iv i, iv ln] [(.int 2), (.ref al)]))
  refine go_st (fun t k => XS.iloadN X12.here hx rfl (hb hby d1_138) rfl k) ?_
  show Go _ _ _ _ (T12.setTop (mkF m 139 #[rv a1, iv i, iv ln] [(.int ln), (.int 2), (.ref al)]))
  have f13 : Arv Z h7 al kl .int (64 : Int32) [(.int l0), (.int l1)] (.int (0 : Int32)) := (H6.other W7 (Ne.symm ne_ax_al))
  have f14 : Arv Z h7 al kl .int (64 : Int32) [(.int l0), (.int l1), (.int 0)] (.int (0 : Int32)) := f13.pad (pad_rep [(.int l0), (.int l1)] (.int 0) 1)
  obtain ⟨zc15, zA15, zq15, zS15, zN15, zH15, zG15⟩ := id f14
  have hin15 : ¬ ((2 : Int32) < 0 ∨ zc15.slots.size ≤ ((2 : Int32)).toNatClampNeg) := inb_of zS15 ⟨by decide, by decide⟩
  obtain ⟨T15, h15, X15, e15, W15, st15⟩ := stI X12 hx hZ e12 zA15 (j := (2 : Int32)) hin15 (g := (mkF m 139 #[rv a1, iv i, iv ln] [(.int ln), (.int 2), (.ref al)])) rfl rfl (hb hby d1_139)
  have N15 := Fr.snoc X15 N7 g_al
  have f16 : Arv Z h15 al kl .int (64 : Int32) [(.int l0), (.int l1), (.int ln)] (.int (0 : Int32)) := Arv.set zA15 zq15 zS15 zN15 zH15 zG15 rfl W15 2 rfl (Nat.le_of_ble_eq_true rfl)
  refine go_st (fun t k => st15 t k) ?_
  show Go _ _ _ _ (T15.setTop (mkF m 140 #[rv a1, iv i, iv ln] []))
  refine go_st (fun t k => XS.aloadN X15.here hx rfl (hb hby d1_140) rfl rfl k) ?_
  show Go _ _ _ _ (T15.setTop (mkF m 141 #[rv a1, iv i, iv ln] [(.ref a1)]))
  refine go_st (fun t k => XS.dup X15.here hx rfl (hb hby d1_141) rfl rfl k) ?_
  show Go _ _ _ _ (T15.setTop (mkF m 142 #[rv a1, iv i, iv ln] [(.ref a1), (.ref a1)]))
  have f17 : Fld Z h15 a1 "com/example/nudge/nudge/tree/BlockEntries" "count" "I" (.int 2) := (f11.other W15 (Or.inl ne_a1_al))
  obtain ⟨T18, X18, e18, st18⟩ := getF X15 hx hZ hown (host := "") (Or.inl (w20 hw)) Via.refl e15 f17 (g := (mkF m 142 #[rv a1, iv i, iv ln] [(.ref a1), (.ref a1)])) rfl rfl (hb hby d1_142)
  refine go_st (fun t k => st18 t k) ?_
  show Go _ _ _ _ (T18.setTop (mkF m 145 #[rv a1, iv i, iv ln] [(.int 2), (.ref a1)]))
  refine go_st (fun t k => XS.iconst X18.here hx rfl (hb hby d1_145) k) ?_
  show Go _ _ _ _ (T18.setTop (mkF m 146 #[rv a1, iv i, iv ln] [(.int 1), (.int 2), (.ref a1)]))
  refine go_st (fun t k => XS.iadd X18.here hx rfl (hb hby d1_146) rfl k) ?_
  rw [show ((2 : Int32) + (1 : Int32)) = (3 : Int32) from by decide]
  show Go _ _ _ _ (T18.setTop (mkF m 147 #[rv a1, iv i, iv ln] [(.int 3), (.ref a1)]))
  have f19 : Exa Z h15 a1 "com/example/nudge/nudge/tree/BlockEntries" := ((H0.wr W7).wr W15)
  obtain ⟨T20, h20, X20, e20, W20, st20⟩ := putF X18 hx hZ hown (host := "") (Or.inl (w20 hw)) Via.refl e18 f17 f19 (Or.inl (w21 hw)) (w2 hw) (ty := .int) (by decide) rfl rfl (g := (mkF m 147 #[rv a1, iv i, iv ln] [(.int 3), (.ref a1)])) rfl rfl (hb hby d1_147)
  have N20 := Fr.snoc X20 N15 g_a1
  have f21 : Fld Z h20 a1 "com/example/nudge/nudge/tree/BlockEntries" "count" "I" (.int 3) := f17.same W20
  refine go_st (fun t k => st20 t k) ?_
  show Go _ _ _ _ (T20.setTop (mkF m 150 #[rv a1, iv i, iv ln] []))
  have f22 : Exa Z h20 a1 "com/example/nudge/nudge/tree/BlockEntries" := (f19.wr W20)
  have f23 : Fld Z h20 a1 "com/example/nudge/nudge/tree/BlockEntries" "indexes" "[I" (.ref ax) := (((H1.other W7 (Or.inl ne_a1_ax)).other W15 (Or.inl ne_a1_al)).other W20 (Or.inr (slot_ne (Or.inl (w12 hw)) (Or.inl (w21 hw)) (by decide) (t := (.array .int)) (t' := .int) (by decide) (by decide))))
  have f24 : Fld Z h20 a1 "com/example/nudge/nudge/tree/BlockEntries" "lines" "[I" (.ref al) := ((f9.other W15 (Or.inl ne_a1_al)).other W20 (Or.inr (slot_ne (Or.inl (w14 hw)) (Or.inl (w21 hw)) (by decide) (t := (.array .int)) (t' := .int) (by decide) (by decide))))
  have f25 : Fld Z h20 a1 "com/example/nudge/nudge/tree/BlockEntries" "first" "I" (.int 0) := (((H3.other W7 (Or.inl ne_a1_ax)).other W15 (Or.inl ne_a1_al)).other W20 (Or.inr (slot_ne (Or.inl (w28 hw)) (Or.inl (w21 hw)) (by decide) (t := .int) (t' := .int) (by decide) (by decide))))
  have f26 : Arv Z h20 ax kx .int (64 : Int32) [(.int x0), (.int x1), (.int i)] (.int (0 : Int32)) := ((f8.other W15 ne_ax_al).other W20 (Ne.symm ne_a1_ax))
  have f27 : Arv Z h20 al kl .int (64 : Int32) [(.int l0), (.int l1), (.int ln)] (.int (0 : Int32)) := (f16.other W20 (Ne.symm ne_a1_al))
  have ke28 : Keep h0 h7 [a1, ax, al] := (Keep.wr (Keep.refl h0 [a1, ax, al]) W7 (Or.inl (List.mem_of_getElem? (i := 1) rfl)))
  have ke29 : Keep h0 h15 [a1, ax, al] := (Keep.wr ke28 W15 (Or.inl (List.mem_of_getElem? (i := 2) rfl)))
  have ke30 : Keep h0 h20 [a1, ax, al] := (Keep.wr ke29 W20 (Or.inl (List.mem_of_getElem? (i := 0) rfl)))
  obtain ⟨fs, hr, hrun, hended, hW, hsame⟩ := X20.leave (v := none) (fun _ => rfl)
  refine ⟨_, _, ?_, hrun, hended, _, _, rfl, ?_, ⟨_, rfl⟩, hW, hsame.mono (by decide) (by decide)⟩
  · exact X20.returnOut hx Bd.returns (hb hby d1_150) hr
  · show Q_note2 _ _ _ _ _ _ _ _ _ _ _ _ _ _ _ T20.heap _
    rw [e20]
    exact ⟨rfl, N20, ke30, f22, f23, f24, f25, f21, f26, f27⟩
def Q_rc_03 (Z : State)  (h0 : Heap) (n0 : Nat) (vR : Option Value) (h : Heap) (L : List Loc) : Prop := vR = none ∧ Fr n0 L ∧ h = h0
theorem ef_rc_03 (m : MethodId) (x0 : Int32) (x1 : Int32) (x2 : Int32) : entryFrame m #[(.int x0), (.int x1), (.int x2)] 3 = mkF m 0 #[.val (.int x0), .val (.int x1), .val (.int x2)] [] := by first | (simp [entryFrame, mkF, argsToLocals, Value.category]; done) | rfl
set_option maxRecDepth 65536 in
set_option maxHeartbeats 40000000 in
theorem rm_rc_03 (l : Launch) (Z : State) (a0 : Array Value) (hw : ∀ d ∈ tables_1, d.before a0 Z = true) (ws : List Jvm.Cond)  (h0 : Heap) (n0 : Nat) (Z0 : n0 ≤ h0.size)  :
    MetFree l (⟨"java/util/Arrays", "rangeCheck", "(III)V"⟩ : MethodName) (head1 (Jvm.Cond.code (⟨"java/util/Arrays", "rangeCheck", "(III)V"⟩ : MethodName) jdk_65_method_30_code 3 none :: ws) ({ frames := 0, cells := 0, slots := 0, locals := 0 } : Room)) (fun a U => a = #[(.int 64), (.int 0), (.int 3)] ∧ Z.Warmed39 U.vm ∧ U.heap = h0) (fun _ _ _ _ _ => True) (fun _ U o U' => ∃ v L, o = .returned v ∧ Q_rc_03 Z h0 n0 v U'.heap L ∧ FrameEnd U o U' L ({ frames := 0, cells := 0, slots := 0, locals := 0 } : Room).cells ({ frames := 0, cells := 0, slots := 0, locals := 0 } : Room).slots) := by
  refine MetFree.of_bodySF (plainFor_of_name pn_java_util_Arrays) hisR ?_
  intro p e s m args below meth c s₁ Bd hml0 hP hK
  obtain ⟨rfl, hZ, hh⟩ := hP
  have hx := Bd.exec
  have hby := Bd.bytes
  have hml : c.maxLocals = 3 := hml0
  have hown : s.vm.findClass "java/util/Arrays" = some m.cls := findClass_of_methodNamed Bd.named
  have hnm := (name_of_methodNamed Bd.named Bd.method).1
  have X0 : Stand p l e ({ frames := 0, cells := 0, slots := 0, locals := 0 } : Room) s m #[(.int 64), (.int 0), (.int 3)] below meth c s₁ [] 0 0 := Stand.of_body Bd
  have e0 : s₁.heap = h0 := by rw [← hh, Bd.state]; rfl
  have N0 := Fr.nil n0
  refine go_st (fun t k => castTop (ef_rc_03 m (64 : Int32) (0 : Int32) (3 : Int32)) k) ?_
  show Go _ _ _ _ (s₁.setTop (mkF m 0 #[iv 64, iv 0, iv 3] []))
  refine go_st (fun t k => XS.iloadN X0.here hx rfl (hb hby d2_0) rfl k) ?_
  show Go _ _ _ _ (s₁.setTop (mkF m 1 #[iv 64, iv 0, iv 3] [(.int 0)]))
  refine go_st (fun t k => XS.iloadN X0.here hx rfl (hb hby d2_1) rfl k) ?_
  show Go _ _ _ _ (s₁.setTop (mkF m 2 #[iv 64, iv 0, iv 3] [(.int 3), (.int 0)]))
  refine go_st (fun t k => XS.icmpYes X0.here hx rfl (pc0 := 2) (pc' := 46) rfl (hb hby d2_2) rfl (flt ((by decide) : ¬ ((3 : Int32) < (0 : Int32)))).2.2.2 (by decide) (by decide) k) ?_
  show Go _ _ _ _ (s₁.setTop (mkF m 46 #[iv 64, iv 0, iv 3] []))
  refine go_st (fun t k => XS.iloadN X0.here hx rfl (hb hby d2_46) rfl k) ?_
  show Go _ _ _ _ (s₁.setTop (mkF m 47 #[iv 64, iv 0, iv 3] [(.int 0)]))
  refine go_st (fun t k => XS.ifYes X0.here hx rfl (pc0 := 47) (pc' := 59) rfl (hb hby d2_47) rfl ((if0 _ _).trans (flt ((by decide) : ¬ ((0 : Int32) < (0 : Int32)))).2.1) (by decide) (by decide) k) ?_
  show Go _ _ _ _ (s₁.setTop (mkF m 59 #[iv 64, iv 0, iv 3] []))
  refine go_st (fun t k => XS.iloadN X0.here hx rfl (hb hby d2_59) rfl k) ?_
  show Go _ _ _ _ (s₁.setTop (mkF m 60 #[iv 64, iv 0, iv 3] [(.int 3)]))
  refine go_st (fun t k => XS.iloadN X0.here hx rfl (hb hby d2_60) rfl k) ?_
  show Go _ _ _ _ (s₁.setTop (mkF m 61 #[iv 64, iv 0, iv 3] [(.int 64), (.int 3)]))
  refine go_st (fun t k => XS.icmpYes X0.here hx rfl (pc0 := 61) (pc' := 73) rfl (hb hby d2_61) rfl (flt ((by decide) : ¬ ((64 : Int32) < (3 : Int32)))).2.2.2 (by decide) (by decide) k) ?_
  show Go _ _ _ _ (s₁.setTop (mkF m 73 #[iv 64, iv 0, iv 3] []))
  obtain ⟨fs, hr, hrun, hended, hW, hsame⟩ := X0.leave (v := none) (fun _ => rfl)
  refine ⟨_, _, ?_, hrun, hended, _, _, rfl, ?_, ⟨_, rfl⟩, hW, hsame.mono (by decide) (by decide)⟩
  · exact X0.returnOut hx Bd.returns (hb hby d2_73) hr
  · show Q_rc_03 _ _ _ _ s₁.heap _
    rw [e0]
    exact ⟨rfl, N0, rfl⟩
def Q_bs0_030 (Z : State) (ax : Addr) (kx : ClassId) (key : Int32) (x0 : Int32) (x1 : Int32) (x2 : Int32) (h0 : Heap) (n0 : Nat) (vR : Option Value) (h : Heap) (L : List Loc) : Prop := ∃ (r : Int32), vR = some (.int r) ∧ Fr n0 L ∧ h = h0 ∧ (r = (0 : Int32) ∨ r = (-1 : Int32))
theorem ef_bs0_030 (m : MethodId) (x0 : Addr) (x1 : Int32) (x2 : Int32) (x3 : Int32) : entryFrame m #[(.ref x0), (.int x1), (.int x2), (.int x3)] 8 = mkF m 0 #[.val (.ref x0), .val (.int x1), .val (.int x2), .val (.int x3), .unset, .unset, .unset, .unset] [] := by first | (simp [entryFrame, mkF, argsToLocals, Value.category]; done) | rfl
set_option maxRecDepth 65536 in
set_option maxHeartbeats 40000000 in
theorem rm_bs0_030 (l : Launch) (Z : State) (a0 : Array Value) (hw : ∀ d ∈ tables_1, d.before a0 Z = true) (ws : List Jvm.Cond) (ax : Addr) (kx : ClassId) (key : Int32) (x0 : Int32) (x1 : Int32) (x2 : Int32) (h0 : Heap) (n0 : Nat) (Z0 : n0 ≤ h0.size) (H0 : Arv Z h0 ax kx .int (64 : Int32) [(.int x0), (.int x1), (.int x2)] (.int (0 : Int32))) (s0 : x0 < x1) (s1 : x1 < x2) (hr : ¬ (x0 < key)) :
    MetFree l (⟨"java/util/Arrays", "binarySearch0", "([IIII)I"⟩ : MethodName) (head1 (Jvm.Cond.code (⟨"java/util/Arrays", "binarySearch0", "([IIII)I"⟩ : MethodName) jdk_65_method_59_code 8 (some .int) :: ws) ({ frames := 0, cells := 0, slots := 0, locals := 0 } : Room)) (fun a U => a = #[(.ref ax), (.int 0), (.int 3), (.int key)] ∧ Z.Warmed39 U.vm ∧ U.heap = h0) (fun _ _ _ _ _ => True) (fun _ U o U' => ∃ v L, o = .returned v ∧ Q_bs0_030 Z ax kx key x0 x1 x2 h0 n0 v U'.heap L ∧ FrameEnd U o U' L ({ frames := 0, cells := 0, slots := 0, locals := 0 } : Room).cells ({ frames := 0, cells := 0, slots := 0, locals := 0 } : Room).slots) := by
  refine MetFree.of_bodySF (plainFor_of_name pn_java_util_Arrays) hisR ?_
  intro p e s m args below meth c s₁ Bd hml0 hP hK
  obtain ⟨rfl, hZ, hh⟩ := hP
  have hx := Bd.exec
  have hby := Bd.bytes
  have hml : c.maxLocals = 8 := hml0
  have hown : s.vm.findClass "java/util/Arrays" = some m.cls := findClass_of_methodNamed Bd.named
  have hnm := (name_of_methodNamed Bd.named Bd.method).1
  have X0 : Stand p l e ({ frames := 0, cells := 0, slots := 0, locals := 0 } : Room) s m #[(.ref ax), (.int 0), (.int 3), (.int key)] below meth c s₁ [] 0 0 := Stand.of_body Bd
  have e0 : s₁.heap = h0 := by rw [← hh, Bd.state]; rfl
  have N0 := Fr.nil n0
  refine go_st (fun t k => castTop (ef_bs0_030 m ax (0 : Int32) (3 : Int32) key) k) ?_
  show Go _ _ _ _ (s₁.setTop (mkF m 0 #[rv ax, iv 0, iv 3, iv key, .unset, .unset, .unset, .unset] []))
  refine go_st (fun t k => XS.iloadN X0.here hx rfl (hb hby d3_0) rfl k) ?_
  show Go _ _ _ _ (s₁.setTop (mkF m 1 #[rv ax, iv 0, iv 3, iv key, .unset, .unset, .unset, .unset] [(.int 0)]))
  refine go_st (fun t k => XS.istore X0.here hx rfl (hb hby d3_1) rfl (l' := #[rv ax, iv 0, iv 3, iv key, iv 0, .unset, .unset, .unset]) rfl k) ?_
  show Go _ _ _ _ (s₁.setTop (mkF m 3 #[rv ax, iv 0, iv 3, iv key, iv 0, .unset, .unset, .unset] []))
  refine go_st (fun t k => XS.iloadN X0.here hx rfl (hb hby d3_3) rfl k) ?_
  show Go _ _ _ _ (s₁.setTop (mkF m 4 #[rv ax, iv 0, iv 3, iv key, iv 0, .unset, .unset, .unset] [(.int 3)]))
  refine go_st (fun t k => XS.iconst X0.here hx rfl (hb hby d3_4) k) ?_
  show Go _ _ _ _ (s₁.setTop (mkF m 5 #[rv ax, iv 0, iv 3, iv key, iv 0, .unset, .unset, .unset] [(.int 1), (.int 3)]))
  refine go_st (fun t k => XS.isub X0.here hx rfl (hb hby d3_5) rfl k) ?_
  rw [show ((3 : Int32) - (1 : Int32)) = (2 : Int32) from by decide]
  show Go _ _ _ _ (s₁.setTop (mkF m 6 #[rv ax, iv 0, iv 3, iv key, iv 0, .unset, .unset, .unset] [(.int 2)]))
  refine go_st (fun t k => XS.istore X0.here hx rfl (hb hby d3_6) rfl (l' := #[rv ax, iv 0, iv 3, iv key, iv 0, iv 2, .unset, .unset]) rfl k) ?_
  show Go _ _ _ _ (s₁.setTop (mkF m 8 #[rv ax, iv 0, iv 3, iv key, iv 0, iv 2, .unset, .unset] []))
  refine go_st (fun t k => XS.iload X0.here hx rfl (hb hby d3_8) rfl k) ?_
  show Go _ _ _ _ (s₁.setTop (mkF m 10 #[rv ax, iv 0, iv 3, iv key, iv 0, iv 2, .unset, .unset] [(.int 0)]))
  refine go_st (fun t k => XS.iload X0.here hx rfl (hb hby d3_10) rfl k) ?_
  show Go _ _ _ _ (s₁.setTop (mkF m 12 #[rv ax, iv 0, iv 3, iv key, iv 0, iv 2, .unset, .unset] [(.int 2), (.int 0)]))
  refine go_st (fun t k => XS.icmpNo X0.here hx rfl (hb hby d3_12) rfl (flt ((by decide) : ¬ ((2 : Int32) < (0 : Int32)))).2.2.1 k) ?_
  show Go _ _ _ _ (s₁.setTop (mkF m 15 #[rv ax, iv 0, iv 3, iv key, iv 0, iv 2, .unset, .unset] []))
  refine go_st (fun t k => XS.iload X0.here hx rfl (hb hby d3_15) rfl k) ?_
  show Go _ _ _ _ (s₁.setTop (mkF m 17 #[rv ax, iv 0, iv 3, iv key, iv 0, iv 2, .unset, .unset] [(.int 0)]))
  refine go_st (fun t k => XS.iload X0.here hx rfl (hb hby d3_17) rfl k) ?_
  show Go _ _ _ _ (s₁.setTop (mkF m 19 #[rv ax, iv 0, iv 3, iv key, iv 0, iv 2, .unset, .unset] [(.int 2), (.int 0)]))
  refine go_st (fun t k => XS.iadd X0.here hx rfl (hb hby d3_19) rfl k) ?_
  rw [show ((0 : Int32) + (2 : Int32)) = (2 : Int32) from by decide]
  show Go _ _ _ _ (s₁.setTop (mkF m 20 #[rv ax, iv 0, iv 3, iv key, iv 0, iv 2, .unset, .unset] [(.int 2)]))
  refine go_st (fun t k => XS.iconst X0.here hx rfl (hb hby d3_20) k) ?_
  show Go _ _ _ _ (s₁.setTop (mkF m 21 #[rv ax, iv 0, iv 3, iv key, iv 0, iv 2, .unset, .unset] [(.int 1), (.int 2)]))
  refine go_st (fun t k => XS.iushr X0.here hx rfl (hb hby d3_21) rfl k) ?_
  rw [show (((2 : Int32)).toUInt32 >>> ((1 : Int32) &&& 31).toUInt32).toInt32 = (1 : Int32) from by decide]
  show Go _ _ _ _ (s₁.setTop (mkF m 22 #[rv ax, iv 0, iv 3, iv key, iv 0, iv 2, .unset, .unset] [(.int 1)]))
  refine go_st (fun t k => XS.istore X0.here hx rfl (hb hby d3_22) rfl (l' := #[rv ax, iv 0, iv 3, iv key, iv 0, iv 2, iv 1, .unset]) rfl k) ?_
  show Go _ _ _ _ (s₁.setTop (mkF m 24 #[rv ax, iv 0, iv 3, iv key, iv 0, iv 2, iv 1, .unset] []))
  refine go_st (fun t k => XS.aloadN X0.here hx rfl (hb hby d3_24) rfl rfl k) ?_
  show Go _ _ _ _ (s₁.setTop (mkF m 25 #[rv ax, iv 0, iv 3, iv key, iv 0, iv 2, iv 1, .unset] [(.ref ax)]))
  refine go_st (fun t k => XS.iload X0.here hx rfl (hb hby d3_25) rfl k) ?_
  show Go _ _ _ _ (s₁.setTop (mkF m 27 #[rv ax, iv 0, iv 3, iv key, iv 0, iv 2, iv 1, .unset] [(.int 1), (.ref ax)]))
  obtain ⟨zc1, zA1, zq1, zS1, zN1, zH1, zG1⟩ := id H0
  have hin1 : ¬ ((1 : Int32) < 0 ∨ zc1.slots.size ≤ ((1 : Int32)).toNatClampNeg) := inb_of zS1 ⟨by decide, by decide⟩
  have hat1 : zc1.slots[((1 : Int32)).toNatClampNeg]? = some (.int x1) := Has.at zH1 hin1 rfl
  refine go_st (fun t k => X0.iaload hx (j := (1 : Int32)) (v := (.int x1)) (by rw [e0]; exact zA1.1) (State.isArrayOf_alike hZ.alike zA1.2.1) zA1.2.2 hin1 hat1 (g := (mkF m 27 #[rv ax, iv 0, iv 3, iv key, iv 0, iv 2, iv 1, .unset] [(.int 1), (.ref ax)])) rfl rfl (hb hby d3_27) t k) ?_
  show Go _ _ _ _ (s₁.setTop (mkF m 28 #[rv ax, iv 0, iv 3, iv key, iv 0, iv 2, iv 1, .unset] [(.int x1)]))
  refine go_st (fun t k => XS.istore X0.here hx rfl (hb hby d3_28) rfl (l' := #[rv ax, iv 0, iv 3, iv key, iv 0, iv 2, iv 1, iv x1]) rfl k) ?_
  show Go _ _ _ _ (s₁.setTop (mkF m 30 #[rv ax, iv 0, iv 3, iv key, iv 0, iv 2, iv 1, iv x1] []))
  refine go_st (fun t k => XS.iload X0.here hx rfl (hb hby d3_30) rfl k) ?_
  show Go _ _ _ _ (s₁.setTop (mkF m 32 #[rv ax, iv 0, iv 3, iv key, iv 0, iv 2, iv 1, iv x1] [(.int x1)]))
  refine go_st (fun t k => XS.iloadN X0.here hx rfl (hb hby d3_32) rfl k) ?_
  show Go _ _ _ _ (s₁.setTop (mkF m 33 #[rv ax, iv 0, iv 3, iv key, iv 0, iv 2, iv 1, iv x1] [(.int key), (.int x1)]))
  refine go_st (fun t k => XS.icmpYes X0.here hx rfl (pc0 := 33) (pc' := 45) rfl (hb hby d3_33) rfl (flt ((pl_as (pl_lt (Int.lt_of_le_of_lt (pl_nof hr) (pl_of s0)))) : ¬ (x1 < key))).2.1 (by decide) (by decide) k) ?_
  show Go _ _ _ _ (s₁.setTop (mkF m 45 #[rv ax, iv 0, iv 3, iv key, iv 0, iv 2, iv 1, iv x1] []))
  refine go_st (fun t k => XS.iload X0.here hx rfl (hb hby d3_45) rfl k) ?_
  show Go _ _ _ _ (s₁.setTop (mkF m 47 #[rv ax, iv 0, iv 3, iv key, iv 0, iv 2, iv 1, iv x1] [(.int x1)]))
  refine go_st (fun t k => XS.iloadN X0.here hx rfl (hb hby d3_47) rfl k) ?_
  show Go _ _ _ _ (s₁.setTop (mkF m 48 #[rv ax, iv 0, iv 3, iv key, iv 0, iv 2, iv 1, iv x1] [(.int key), (.int x1)]))
  refine go_st (fun t k => XS.icmpNo X0.here hx rfl (hb hby d3_48) rfl (tlt (pl_lt (Int.lt_of_le_of_lt (pl_nof hr) (pl_of s0)) : key < x1)).2.2.2 k) ?_
  show Go _ _ _ _ (s₁.setTop (mkF m 51 #[rv ax, iv 0, iv 3, iv key, iv 0, iv 2, iv 1, iv x1] []))
  refine go_st (fun t k => XS.iload X0.here hx rfl (hb hby d3_51) rfl k) ?_
  show Go _ _ _ _ (s₁.setTop (mkF m 53 #[rv ax, iv 0, iv 3, iv key, iv 0, iv 2, iv 1, iv x1] [(.int 1)]))
  refine go_st (fun t k => XS.iconst X0.here hx rfl (hb hby d3_53) k) ?_
  show Go _ _ _ _ (s₁.setTop (mkF m 54 #[rv ax, iv 0, iv 3, iv key, iv 0, iv 2, iv 1, iv x1] [(.int 1), (.int 1)]))
  refine go_st (fun t k => XS.isub X0.here hx rfl (hb hby d3_54) rfl k) ?_
  rw [show ((1 : Int32) - (1 : Int32)) = (0 : Int32) from by decide]
  show Go _ _ _ _ (s₁.setTop (mkF m 55 #[rv ax, iv 0, iv 3, iv key, iv 0, iv 2, iv 1, iv x1] [(.int 0)]))
  refine go_st (fun t k => XS.istore X0.here hx rfl (hb hby d3_55) rfl (l' := #[rv ax, iv 0, iv 3, iv key, iv 0, iv 0, iv 1, iv x1]) rfl k) ?_
  show Go _ _ _ _ (s₁.setTop (mkF m 57 #[rv ax, iv 0, iv 3, iv key, iv 0, iv 0, iv 1, iv x1] []))
  refine go_st (fun t k => XS.goto X0.here hx rfl (pc0 := 57) (pc' := 63) rfl (hb hby d3_57) (by decide) (by decide) k) ?_
  show Go _ _ _ _ (s₁.setTop (mkF m 63 #[rv ax, iv 0, iv 3, iv key, iv 0, iv 0, iv 1, iv x1] []))
  refine go_st (fun t k => XS.goto X0.here hx rfl (pc0 := 63) (pc' := 8) rfl (hb hby d3_63) (by decide) (by decide) k) ?_
  show Go _ _ _ _ (s₁.setTop (mkF m 8 #[rv ax, iv 0, iv 3, iv key, iv 0, iv 0, iv 1, iv x1] []))
  refine go_st (fun t k => XS.iload X0.here hx rfl (hb hby d3_8) rfl k) ?_
  show Go _ _ _ _ (s₁.setTop (mkF m 10 #[rv ax, iv 0, iv 3, iv key, iv 0, iv 0, iv 1, iv x1] [(.int 0)]))
  refine go_st (fun t k => XS.iload X0.here hx rfl (hb hby d3_10) rfl k) ?_
  show Go _ _ _ _ (s₁.setTop (mkF m 12 #[rv ax, iv 0, iv 3, iv key, iv 0, iv 0, iv 1, iv x1] [(.int 0), (.int 0)]))
  refine go_st (fun t k => XS.icmpNo X0.here hx rfl (hb hby d3_12) rfl (flt ((by decide) : ¬ ((0 : Int32) < (0 : Int32)))).2.2.1 k) ?_
  show Go _ _ _ _ (s₁.setTop (mkF m 15 #[rv ax, iv 0, iv 3, iv key, iv 0, iv 0, iv 1, iv x1] []))
  refine go_st (fun t k => XS.iload X0.here hx rfl (hb hby d3_15) rfl k) ?_
  show Go _ _ _ _ (s₁.setTop (mkF m 17 #[rv ax, iv 0, iv 3, iv key, iv 0, iv 0, iv 1, iv x1] [(.int 0)]))
  refine go_st (fun t k => XS.iload X0.here hx rfl (hb hby d3_17) rfl k) ?_
  show Go _ _ _ _ (s₁.setTop (mkF m 19 #[rv ax, iv 0, iv 3, iv key, iv 0, iv 0, iv 1, iv x1] [(.int 0), (.int 0)]))
  refine go_st (fun t k => XS.iadd X0.here hx rfl (hb hby d3_19) rfl k) ?_
  rw [show ((0 : Int32) + (0 : Int32)) = (0 : Int32) from by decide]
  show Go _ _ _ _ (s₁.setTop (mkF m 20 #[rv ax, iv 0, iv 3, iv key, iv 0, iv 0, iv 1, iv x1] [(.int 0)]))
  refine go_st (fun t k => XS.iconst X0.here hx rfl (hb hby d3_20) k) ?_
  show Go _ _ _ _ (s₁.setTop (mkF m 21 #[rv ax, iv 0, iv 3, iv key, iv 0, iv 0, iv 1, iv x1] [(.int 1), (.int 0)]))
  refine go_st (fun t k => XS.iushr X0.here hx rfl (hb hby d3_21) rfl k) ?_
  rw [show (((0 : Int32)).toUInt32 >>> ((1 : Int32) &&& 31).toUInt32).toInt32 = (0 : Int32) from by decide]
  show Go _ _ _ _ (s₁.setTop (mkF m 22 #[rv ax, iv 0, iv 3, iv key, iv 0, iv 0, iv 1, iv x1] [(.int 0)]))
  refine go_st (fun t k => XS.istore X0.here hx rfl (hb hby d3_22) rfl (l' := #[rv ax, iv 0, iv 3, iv key, iv 0, iv 0, iv 0, iv x1]) rfl k) ?_
  show Go _ _ _ _ (s₁.setTop (mkF m 24 #[rv ax, iv 0, iv 3, iv key, iv 0, iv 0, iv 0, iv x1] []))
  refine go_st (fun t k => XS.aloadN X0.here hx rfl (hb hby d3_24) rfl rfl k) ?_
  show Go _ _ _ _ (s₁.setTop (mkF m 25 #[rv ax, iv 0, iv 3, iv key, iv 0, iv 0, iv 0, iv x1] [(.ref ax)]))
  refine go_st (fun t k => XS.iload X0.here hx rfl (hb hby d3_25) rfl k) ?_
  show Go _ _ _ _ (s₁.setTop (mkF m 27 #[rv ax, iv 0, iv 3, iv key, iv 0, iv 0, iv 0, iv x1] [(.int 0), (.ref ax)]))
  obtain ⟨zc2, zA2, zq2, zS2, zN2, zH2, zG2⟩ := id H0
  have hin2 : ¬ ((0 : Int32) < 0 ∨ zc2.slots.size ≤ ((0 : Int32)).toNatClampNeg) := inb_of zS2 ⟨by decide, by decide⟩
  have hat2 : zc2.slots[((0 : Int32)).toNatClampNeg]? = some (.int x0) := Has.at zH2 hin2 rfl
  refine go_st (fun t k => X0.iaload hx (j := (0 : Int32)) (v := (.int x0)) (by rw [e0]; exact zA2.1) (State.isArrayOf_alike hZ.alike zA2.2.1) zA2.2.2 hin2 hat2 (g := (mkF m 27 #[rv ax, iv 0, iv 3, iv key, iv 0, iv 0, iv 0, iv x1] [(.int 0), (.ref ax)])) rfl rfl (hb hby d3_27) t k) ?_
  show Go _ _ _ _ (s₁.setTop (mkF m 28 #[rv ax, iv 0, iv 3, iv key, iv 0, iv 0, iv 0, iv x1] [(.int x0)]))
  refine go_st (fun t k => XS.istore X0.here hx rfl (hb hby d3_28) rfl (l' := #[rv ax, iv 0, iv 3, iv key, iv 0, iv 0, iv 0, iv x0]) rfl k) ?_
  show Go _ _ _ _ (s₁.setTop (mkF m 30 #[rv ax, iv 0, iv 3, iv key, iv 0, iv 0, iv 0, iv x0] []))
  refine go_st (fun t k => XS.iload X0.here hx rfl (hb hby d3_30) rfl k) ?_
  show Go _ _ _ _ (s₁.setTop (mkF m 32 #[rv ax, iv 0, iv 3, iv key, iv 0, iv 0, iv 0, iv x0] [(.int x0)]))
  refine go_st (fun t k => XS.iloadN X0.here hx rfl (hb hby d3_32) rfl k) ?_
  show Go _ _ _ _ (s₁.setTop (mkF m 33 #[rv ax, iv 0, iv 3, iv key, iv 0, iv 0, iv 0, iv x0] [(.int key), (.int x0)]))
  refine go_st (fun t k => XS.icmpYes X0.here hx rfl (pc0 := 33) (pc' := 45) rfl (hb hby d3_33) rfl (flt (hr : ¬ (x0 < key))).2.1 (by decide) (by decide) k) ?_
  show Go _ _ _ _ (s₁.setTop (mkF m 45 #[rv ax, iv 0, iv 3, iv key, iv 0, iv 0, iv 0, iv x0] []))
  refine go_st (fun t k => XS.iload X0.here hx rfl (hb hby d3_45) rfl k) ?_
  show Go _ _ _ _ (s₁.setTop (mkF m 47 #[rv ax, iv 0, iv 3, iv key, iv 0, iv 0, iv 0, iv x0] [(.int x0)]))
  refine go_st (fun t k => XS.iloadN X0.here hx rfl (hb hby d3_47) rfl k) ?_
  show Go _ _ _ _ (s₁.setTop (mkF m 48 #[rv ax, iv 0, iv 3, iv key, iv 0, iv 0, iv 0, iv x0] [(.int key), (.int x0)]))
  by_cases hc3 : key < x0
  · skip
    refine go_st (fun t k => XS.icmpNo X0.here hx rfl (hb hby d3_48) rfl (tlt (hc3 : key < x0)).2.2.2 k) ?_
    show Go _ _ _ _ (s₁.setTop (mkF m 51 #[rv ax, iv 0, iv 3, iv key, iv 0, iv 0, iv 0, iv x0] []))
    refine go_st (fun t k => XS.iload X0.here hx rfl (hb hby d3_51) rfl k) ?_
    show Go _ _ _ _ (s₁.setTop (mkF m 53 #[rv ax, iv 0, iv 3, iv key, iv 0, iv 0, iv 0, iv x0] [(.int 0)]))
    refine go_st (fun t k => XS.iconst X0.here hx rfl (hb hby d3_53) k) ?_
    show Go _ _ _ _ (s₁.setTop (mkF m 54 #[rv ax, iv 0, iv 3, iv key, iv 0, iv 0, iv 0, iv x0] [(.int 1), (.int 0)]))
    refine go_st (fun t k => XS.isub X0.here hx rfl (hb hby d3_54) rfl k) ?_
    rw [show ((0 : Int32) - (1 : Int32)) = (-1 : Int32) from by decide]
    show Go _ _ _ _ (s₁.setTop (mkF m 55 #[rv ax, iv 0, iv 3, iv key, iv 0, iv 0, iv 0, iv x0] [(.int (-1))]))
    refine go_st (fun t k => XS.istore X0.here hx rfl (hb hby d3_55) rfl (l' := #[rv ax, iv 0, iv 3, iv key, iv 0, iv (-1), iv 0, iv x0]) rfl k) ?_
    show Go _ _ _ _ (s₁.setTop (mkF m 57 #[rv ax, iv 0, iv 3, iv key, iv 0, iv (-1), iv 0, iv x0] []))
    refine go_st (fun t k => XS.goto X0.here hx rfl (pc0 := 57) (pc' := 63) rfl (hb hby d3_57) (by decide) (by decide) k) ?_
    show Go _ _ _ _ (s₁.setTop (mkF m 63 #[rv ax, iv 0, iv 3, iv key, iv 0, iv (-1), iv 0, iv x0] []))
    refine go_st (fun t k => XS.goto X0.here hx rfl (pc0 := 63) (pc' := 8) rfl (hb hby d3_63) (by decide) (by decide) k) ?_
    show Go _ _ _ _ (s₁.setTop (mkF m 8 #[rv ax, iv 0, iv 3, iv key, iv 0, iv (-1), iv 0, iv x0] []))
    refine go_st (fun t k => XS.iload X0.here hx rfl (hb hby d3_8) rfl k) ?_
    show Go _ _ _ _ (s₁.setTop (mkF m 10 #[rv ax, iv 0, iv 3, iv key, iv 0, iv (-1), iv 0, iv x0] [(.int 0)]))
    refine go_st (fun t k => XS.iload X0.here hx rfl (hb hby d3_10) rfl k) ?_
    show Go _ _ _ _ (s₁.setTop (mkF m 12 #[rv ax, iv 0, iv 3, iv key, iv 0, iv (-1), iv 0, iv x0] [(.int (-1)), (.int 0)]))
    refine go_st (fun t k => XS.icmpYes X0.here hx rfl (pc0 := 12) (pc' := 66) rfl (hb hby d3_12) rfl (tlt ((by decide) : (-1 : Int32) < (0 : Int32))).2.2.1 (by decide) (by decide) k) ?_
    show Go _ _ _ _ (s₁.setTop (mkF m 66 #[rv ax, iv 0, iv 3, iv key, iv 0, iv (-1), iv 0, iv x0] []))
    refine go_st (fun t k => XS.iload X0.here hx rfl (hb hby d3_66) rfl k) ?_
    show Go _ _ _ _ (s₁.setTop (mkF m 68 #[rv ax, iv 0, iv 3, iv key, iv 0, iv (-1), iv 0, iv x0] [(.int 0)]))
    refine go_st (fun t k => XS.iconst X0.here hx rfl (hb hby d3_68) k) ?_
    show Go _ _ _ _ (s₁.setTop (mkF m 69 #[rv ax, iv 0, iv 3, iv key, iv 0, iv (-1), iv 0, iv x0] [(.int 1), (.int 0)]))
    refine go_st (fun t k => XS.iadd X0.here hx rfl (hb hby d3_69) rfl k) ?_
    rw [show ((0 : Int32) + (1 : Int32)) = (1 : Int32) from by decide]
    show Go _ _ _ _ (s₁.setTop (mkF m 70 #[rv ax, iv 0, iv 3, iv key, iv 0, iv (-1), iv 0, iv x0] [(.int 1)]))
    refine go_st (fun t k => XS.ineg X0.here hx rfl (hb hby d3_70) rfl k) ?_
    rw [show (-(1 : Int32)) = (-1 : Int32) from by decide]
    show Go _ _ _ _ (s₁.setTop (mkF m 71 #[rv ax, iv 0, iv 3, iv key, iv 0, iv (-1), iv 0, iv x0] [(.int (-1))]))
    obtain ⟨fs, hr, hrun, hended, hW, hsame⟩ := X0.leave (v := some (.int (-1))) (fun h => by rw [Bd.returns] at h; cases h)
    refine ⟨_, _, ?_, hrun, hended, _, _, rfl, ?_, ⟨_, rfl⟩, hW, hsame.mono (by decide) (by decide)⟩
    · exact retI X0 hx Bd.returns (hb hby d3_71) hr
    · show Q_bs0_030 _ _ _ _ _ _ _ _ _ _ s₁.heap _
      rw [e0]
      exact ⟨(-1 : Int32), rfl, N0, rfl, (Or.inr rfl)⟩
  · skip
    refine go_st (fun t k => XS.icmpYes X0.here hx rfl (pc0 := 48) (pc' := 60) rfl (hb hby d3_48) rfl (flt (hc3 : ¬ (key < x0))).2.2.2 (by decide) (by decide) k) ?_
    show Go _ _ _ _ (s₁.setTop (mkF m 60 #[rv ax, iv 0, iv 3, iv key, iv 0, iv 0, iv 0, iv x0] []))
    refine go_st (fun t k => XS.iload X0.here hx rfl (hb hby d3_60) rfl k) ?_
    show Go _ _ _ _ (s₁.setTop (mkF m 62 #[rv ax, iv 0, iv 3, iv key, iv 0, iv 0, iv 0, iv x0] [(.int 0)]))
    obtain ⟨fs, hr, hrun, hended, hW, hsame⟩ := X0.leave (v := some (.int 0)) (fun h => by rw [Bd.returns] at h; cases h)
    refine ⟨_, _, ?_, hrun, hended, _, _, rfl, ?_, ⟨_, rfl⟩, hW, hsame.mono (by decide) (by decide)⟩
    · exact retI X0 hx Bd.returns (hb hby d3_62) hr
    · show Q_bs0_030 _ _ _ _ _ _ _ _ _ _ s₁.heap _
      rw [e0]
      exact ⟨(0 : Int32), rfl, N0, rfl, (Or.inl rfl)⟩
def Q_bs_030 (Z : State) (ax : Addr) (kx : ClassId) (key : Int32) (x0 : Int32) (x1 : Int32) (x2 : Int32) (h0 : Heap) (n0 : Nat) (vR : Option Value) (h : Heap) (L : List Loc) : Prop := ∃ (r : Int32), vR = some (.int r) ∧ Fr n0 L ∧ h = h0 ∧ (r = (0 : Int32) ∨ r = (-1 : Int32))
theorem ef_bs_030 (m : MethodId) (x0 : Addr) (x1 : Int32) (x2 : Int32) (x3 : Int32) : entryFrame m #[(.ref x0), (.int x1), (.int x2), (.int x3)] 4 = mkF m 0 #[.val (.ref x0), .val (.int x1), .val (.int x2), .val (.int x3)] [] := by first | (simp [entryFrame, mkF, argsToLocals, Value.category]; done) | rfl
set_option maxRecDepth 65536 in
set_option maxHeartbeats 40000000 in
theorem rm_bs_030 (l : Launch) (Z : State) (a0 : Array Value) (hw : ∀ d ∈ tables_1, d.before a0 Z = true) (ws : List Jvm.Cond) (ax : Addr) (kx : ClassId) (key : Int32) (x0 : Int32) (x1 : Int32) (x2 : Int32) (h0 : Heap) (n0 : Nat) (Z0 : n0 ≤ h0.size) (H0 : Arv Z h0 ax kx .int (64 : Int32) [(.int x0), (.int x1), (.int x2)] (.int (0 : Int32))) (s0 : x0 < x1) (s1 : x1 < x2) (hr : ¬ (x0 < key)) :
    MetFree l (⟨"java/util/Arrays", "binarySearch", "([IIII)I"⟩ : MethodName) (head1 (Jvm.Cond.code (⟨"java/util/Arrays", "binarySearch", "([IIII)I"⟩ : MethodName) jdk_65_method_58_code 4 (some .int) :: ws) ({ frames := 1, cells := 0, slots := 0, locals := 19 } : Room)) (fun a U => a = #[(.ref ax), (.int 0), (.int 3), (.int key)] ∧ Z.Warmed39 U.vm ∧ U.heap = h0) (fun _ _ _ _ _ => True) (fun _ U o U' => ∃ v L, o = .returned v ∧ Q_bs_030 Z ax kx key x0 x1 x2 h0 n0 v U'.heap L ∧ FrameEnd U o U' L ({ frames := 1, cells := 0, slots := 0, locals := 19 } : Room).cells ({ frames := 1, cells := 0, slots := 0, locals := 19 } : Room).slots) := by
  refine MetFree.of_bodySF (plainFor_of_name pn_java_util_Arrays) hisR ?_
  intro p e s m args below meth c s₁ Bd hml0 hP hK
  obtain ⟨rfl, hZ, hh⟩ := hP
  have hx := Bd.exec
  have hby := Bd.bytes
  have hml : c.maxLocals = 4 := hml0
  have hown : s.vm.findClass "java/util/Arrays" = some m.cls := findClass_of_methodNamed Bd.named
  have hnm := (name_of_methodNamed Bd.named Bd.method).1
  have X0 : Stand p l e ({ frames := 1, cells := 0, slots := 0, locals := 19 } : Room) s m #[(.ref ax), (.int 0), (.int 3), (.int key)] below meth c s₁ [] 0 0 := Stand.of_body Bd
  have e0 : s₁.heap = h0 := by rw [← hh, Bd.state]; rfl
  have N0 := Fr.nil n0
  refine go_st (fun t k => castTop (ef_bs_030 m ax (0 : Int32) (3 : Int32) key) k) ?_
  show Go _ _ _ _ (s₁.setTop (mkF m 0 #[rv ax, iv 0, iv 3, iv key] []))
  refine go_st (fun t k => XS.aloadN X0.here hx rfl (hb hby d4_0) rfl rfl k) ?_
  show Go _ _ _ _ (s₁.setTop (mkF m 1 #[rv ax, iv 0, iv 3, iv key] [(.ref ax)]))
  obtain ⟨zc1, zA1, zq1, zS1, zN1, zH1, zG1⟩ := id H0
  refine go_st (fun t k => X0.arraylength hx (by rw [e0]; exact zA1.1) (State.isArrayOf_alike hZ.alike zA1.2.1) (g := (mkF m 1 #[rv ax, iv 0, iv 3, iv key] [(.ref ax)])) rfl rfl (hb hby d4_1) t k) ?_
  rw [len_of zS1 zN1]
  show Go _ _ _ _ (s₁.setTop (mkF m 2 #[rv ax, iv 0, iv 3, iv key] [(.int 64)]))
  refine go_st (fun t k => XS.iloadN X0.here hx rfl (hb hby d4_2) rfl k) ?_
  show Go _ _ _ _ (s₁.setTop (mkF m 3 #[rv ax, iv 0, iv 3, iv key] [(.int 0), (.int 64)]))
  refine go_st (fun t k => XS.iloadN X0.here hx rfl (hb hby d4_3) rfl k) ?_
  show Go _ _ _ _ (s₁.setTop (mkF m 4 #[rv ax, iv 0, iv 3, iv key] [(.int 3), (.int 0), (.int 64)]))
  obtain ⟨_, _, ⟨T2, L2, kk2, nn2⟩, -, X2, ⟨Lc2, hQ2, lq2, yq2, zq2⟩, st2⟩ := Jvm.LawKit.callS X0 hx (y := (⟨"java/util/Arrays", "rangeCheck", "(III)V"⟩ : MethodName)) hown (mvT hZ (w33 hw)) (mvT hZ (w34 hw)) (mvT hZ (w31 hw)) (mvT hZ (w35 hw)) (by decide) (backOf (W := 0) (rm_rc_03 l Z a0 hw []  h0 n0 (Nat.le_trans Z0 (Nat.le_refl _)) ) hZ (w35 hw) (w31 hw) (by decide) (by decide)) (g := (mkF m 4 #[rv ax, iv 0, iv 3, iv key] [(.int 3), (.int 0), (.int 64)])) rfl (by rw [hml]; rfl) (argsL := [(.int 64), (.int 0), (.int 3)]) (rest := []) (lenOf pd_0 rfl) rfl (by show 2 * 0 + _ ≤ _; exact Nat.le_of_eq rfl) (hb hby d4_4) (fun _ _ => ⟨rfl, e0, (by decide : 0 + 0 ≤ _), (by decide : 0 + 0 ≤ _)⟩)
  dsimp only [Pt.U, Pt.locs, Pt.cells, Pt.slots] at X2 lq2 yq2 zq2 st2 hQ2
  subst lq2 yq2 zq2
  obtain ⟨h2, e2⟩ : ∃ z, T2.heap = z := ⟨_, rfl⟩
  rw [e2] at hQ2
  obtain ⟨rfl, N2q, he2⟩ := hQ2
  have N2 := Fr.app N0 N2q
  rw [he2] at e2
  refine go_st st2 ?_
  show Go _ _ _ _ (T2.setTop (mkF m 7 #[rv ax, iv 0, iv 3, iv key] []))
  refine go_st (fun t k => XS.aloadN X2.here hx rfl (hb hby d4_7) rfl rfl k) ?_
  show Go _ _ _ _ (T2.setTop (mkF m 8 #[rv ax, iv 0, iv 3, iv key] [(.ref ax)]))
  refine go_st (fun t k => XS.iloadN X2.here hx rfl (hb hby d4_8) rfl k) ?_
  show Go _ _ _ _ (T2.setTop (mkF m 9 #[rv ax, iv 0, iv 3, iv key] [(.int 0), (.ref ax)]))
  refine go_st (fun t k => XS.iloadN X2.here hx rfl (hb hby d4_9) rfl k) ?_
  show Go _ _ _ _ (T2.setTop (mkF m 10 #[rv ax, iv 0, iv 3, iv key] [(.int 3), (.int 0), (.ref ax)]))
  refine go_st (fun t k => XS.iloadN X2.here hx rfl (hb hby d4_10) rfl k) ?_
  show Go _ _ _ _ (T2.setTop (mkF m 11 #[rv ax, iv 0, iv 3, iv key] [(.int key), (.int 3), (.int 0), (.ref ax)]))
  obtain ⟨_, _, ⟨T3, L3, kk3, nn3⟩, -, X3, ⟨Lc3, hQ3, lq3, yq3, zq3⟩, st3⟩ := Jvm.LawKit.callS X2 hx (y := (⟨"java/util/Arrays", "binarySearch0", "([IIII)I"⟩ : MethodName)) hown (mvT hZ (w36 hw)) (mvT hZ (w37 hw)) (mvT hZ (w31 hw)) (mvT hZ (w38 hw)) (by decide) (backOf (W := 0) (rm_bs0_030 l Z a0 hw [] ax kx key x0 x1 x2 h0 n0 (Nat.le_trans Z0 (Nat.le_refl _)) H0 s0 s1 hr) hZ (w38 hw) (w31 hw) (by decide) (by decide)) (g := (mkF m 11 #[rv ax, iv 0, iv 3, iv key] [(.int key), (.int 3), (.int 0), (.ref ax)])) rfl (by rw [hml]; rfl) (argsL := [(.ref ax), (.int 0), (.int 3), (.int key)]) (rest := []) (lenOf pd_1 rfl) rfl (by show 2 * 0 + _ ≤ _; exact Nat.le_of_eq rfl) (hb hby d4_11) (fun _ _ => ⟨rfl, e2, (by decide : 0 + 0 ≤ _), (by decide : 0 + 0 ≤ _)⟩)
  dsimp only [Pt.U, Pt.locs, Pt.cells, Pt.slots] at X3 lq3 yq3 zq3 st3 hQ3
  subst lq3 yq3 zq3
  obtain ⟨h3, e3⟩ : ∃ z, T3.heap = z := ⟨_, rfl⟩
  rw [e3] at hQ3
  obtain ⟨r_3, rfl, N3q, he3, hres_3⟩ := hQ3
  have N3 := Fr.app N2 N3q
  rw [he3] at e3
  refine go_st st3 ?_
  show Go _ _ _ _ (T3.setTop (mkF m 14 #[rv ax, iv 0, iv 3, iv key] [(.int r_3)]))
  obtain ⟨fs, hr, hrun, hended, hW, hsame⟩ := X3.leave (v := some (.int r_3)) (fun h => by rw [Bd.returns] at h; cases h)
  refine ⟨_, _, ?_, hrun, hended, _, _, rfl, ?_, ⟨_, rfl⟩, hW, hsame.mono (by decide) (by decide)⟩
  · exact retI X3 hx Bd.returns (hb hby d4_14) hr
  · show Q_bs_030 _ _ _ _ _ _ _ _ _ _ T3.heap _
    rw [e3]
    exact ⟨r_3, rfl, N3, rfl, hres_3⟩
def Q_lb_030 (Z : State) (a1 : Addr) (ax : Addr) (al : Addr) (kx : ClassId) (kl : ClassId) (key : Int32) (line : Int32) (x0 : Int32) (x1 : Int32) (x2 : Int32) (l0 : Int32) (l1 : Int32) (l2 : Int32) (h0 : Heap) (n0 : Nat) (vR : Option Value) (h : Heap) (L : List Loc) : Prop := vR = some (.int line) ∧ Fr n0 L ∧ Keep h0 h [a1] ∧ (Exa Z h a1 "com/example/nudge/nudge/tree/BlockEntries") ∧ (Fld Z h a1 "com/example/nudge/nudge/tree/BlockEntries" "indexes" "[I" (.ref ax)) ∧ (Fld Z h a1 "com/example/nudge/nudge/tree/BlockEntries" "lines" "[I" (.ref al)) ∧ (Fld Z h a1 "com/example/nudge/nudge/tree/BlockEntries" "first" "I" (.int 0)) ∧ (Fld Z h a1 "com/example/nudge/nudge/tree/BlockEntries" "count" "I" (.int 3)) ∧ (Arv Z h ax kx .int (64 : Int32) [(.int x0), (.int x1), (.int x2)] (.int (0 : Int32))) ∧ (Arv Z h al kl .int (64 : Int32) [(.int l0), (.int l1), (.int l2)] (.int (0 : Int32)))
theorem ef_lb_030 (m : MethodId) (x0 : Addr) (x1 : Int32) (x2 : Int32) : entryFrame m #[(.ref x0), (.int x1), (.int x2)] 6 = mkF m 0 #[.val (.ref x0), .val (.int x1), .val (.int x2), .unset, .unset, .unset] [] := by first | (simp [entryFrame, mkF, argsToLocals, Value.category]; done) | rfl
set_option maxRecDepth 65536 in
set_option maxHeartbeats 40000000 in
theorem rm_lb_030 (l : Launch) (Z : State) (a0 : Array Value) (hw : ∀ d ∈ tables_1, d.before a0 Z = true) (ws : List Jvm.Cond) (a1 : Addr) (ax : Addr) (al : Addr) (kx : ClassId) (kl : ClassId) (key : Int32) (line : Int32) (x0 : Int32) (x1 : Int32) (x2 : Int32) (l0 : Int32) (l1 : Int32) (l2 : Int32) (h0 : Heap) (n0 : Nat) (Z0 : n0 ≤ h0.size) (H0 : Exa Z h0 a1 "com/example/nudge/nudge/tree/BlockEntries") (H1 : Fld Z h0 a1 "com/example/nudge/nudge/tree/BlockEntries" "indexes" "[I" (.ref ax)) (H2 : Fld Z h0 a1 "com/example/nudge/nudge/tree/BlockEntries" "lines" "[I" (.ref al)) (H3 : Fld Z h0 a1 "com/example/nudge/nudge/tree/BlockEntries" "first" "I" (.int 0)) (H4 : Fld Z h0 a1 "com/example/nudge/nudge/tree/BlockEntries" "count" "I" (.int 3)) (H5 : Arv Z h0 ax kx .int (64 : Int32) [(.int x0), (.int x1), (.int x2)] (.int (0 : Int32))) (H6 : Arv Z h0 al kl .int (64 : Int32) [(.int l0), (.int l1), (.int l2)] (.int (0 : Int32))) (ne_a1_ax : a1 ≠ ax) (ne_a1_al : a1 ≠ al) (ne_ax_al : ax ≠ al) (g_a1 : n0 ≤ a1) (s0 : x0 < x1) (s1 : x1 < x2) (hr : ¬ (x0 < key)) :
    MetFree l (⟨"com/example/nudge/nudge/tree/BlockEntries", "lineBefore", "(II)I"⟩ : MethodName) (head1 (Jvm.Cond.code (⟨"com/example/nudge/nudge/tree/BlockEntries", "lineBefore", "(II)I"⟩ : MethodName) prog_17_method_3_code 6 (some .int) :: ws) ({ frames := 2, cells := 0, slots := 0, locals := 34 } : Room)) (fun a U => a = #[(.ref a1), (.int key), (.int line)] ∧ Z.Warmed39 U.vm ∧ U.heap = h0) (fun _ _ _ _ _ => True) (fun _ U o U' => ∃ v L, o = .returned v ∧ Q_lb_030 Z a1 ax al kx kl key line x0 x1 x2 l0 l1 l2 h0 n0 v U'.heap L ∧ FrameEnd U o U' L ({ frames := 2, cells := 0, slots := 0, locals := 34 } : Room).cells ({ frames := 2, cells := 0, slots := 0, locals := 34 } : Room).slots) := by
  refine MetFree.of_bodySF (plainFor_of_name pn_com_example_nudge_nudge_tree_BlockEntries) hisR ?_
  intro p e s m args below meth c s₁ Bd hml0 hP hK
  obtain ⟨rfl, hZ, hh⟩ := hP
  have hx := Bd.exec
  have hby := Bd.bytes
  have hml : c.maxLocals = 6 := hml0
  have hown : s.vm.findClass "com/example/nudge/nudge/tree/BlockEntries" = some m.cls := findClass_of_methodNamed Bd.named
  have hnm := (name_of_methodNamed Bd.named Bd.method).1
  have X0 : Stand p l e ({ frames := 2, cells := 0, slots := 0, locals := 34 } : Room) s m #[(.ref a1), (.int key), (.int line)] below meth c s₁ [] 0 0 := Stand.of_body Bd
  have e0 : s₁.heap = h0 := by rw [← hh, Bd.state]; rfl
  have N0 := Fr.nil n0
  refine go_st (fun t k => castTop (ef_lb_030 m a1 key line) k) ?_
  show Go _ _ _ _ (s₁.setTop (mkF m 0 #[rv a1, iv key, iv line, .unset, .unset, .unset] []))
  refine go_st (fun t k => XS.aloadN X0.here hx rfl (hb hby d5_0) rfl rfl k) ?_
  show Go _ _ _ _ (s₁.setTop (mkF m 1 #[rv a1, iv key, iv line, .unset, .unset, .unset] [(.ref a1)]))
  obtain ⟨T1, X1, e1, st1⟩ := getF X0 hx hZ hown (host := "") (Or.inl (w11 hw)) Via.refl e0 H1 (g := (mkF m 1 #[rv a1, iv key, iv line, .unset, .unset, .unset] [(.ref a1)])) rfl rfl (hb hby d5_1)
  refine go_st (fun t k => st1 t k) ?_
  show Go _ _ _ _ (T1.setTop (mkF m 4 #[rv a1, iv key, iv line, .unset, .unset, .unset] [(.ref ax)]))
  refine go_st (fun t k => XS.aloadN X1.here hx rfl (hb hby d5_4) rfl rfl k) ?_
  show Go _ _ _ _ (T1.setTop (mkF m 5 #[rv a1, iv key, iv line, .unset, .unset, .unset] [(.ref a1), (.ref ax)]))
  obtain ⟨T2, X2, e2, st2⟩ := getF X1 hx hZ hown (host := "") (Or.inl (w27 hw)) Via.refl e1 H3 (g := (mkF m 5 #[rv a1, iv key, iv line, .unset, .unset, .unset] [(.ref a1), (.ref ax)])) rfl rfl (hb hby d5_5)
  refine go_st (fun t k => st2 t k) ?_
  show Go _ _ _ _ (T2.setTop (mkF m 8 #[rv a1, iv key, iv line, .unset, .unset, .unset] [(.int 0), (.ref ax)]))
  refine go_st (fun t k => XS.aloadN X2.here hx rfl (hb hby d5_8) rfl rfl k) ?_
  show Go _ _ _ _ (T2.setTop (mkF m 9 #[rv a1, iv key, iv line, .unset, .unset, .unset] [(.ref a1), (.int 0), (.ref ax)]))
  obtain ⟨T3, X3, e3, st3⟩ := getF X2 hx hZ hown (host := "") (Or.inl (w20 hw)) Via.refl e2 H4 (g := (mkF m 9 #[rv a1, iv key, iv line, .unset, .unset, .unset] [(.ref a1), (.int 0), (.ref ax)])) rfl rfl (hb hby d5_9)
  refine go_st (fun t k => st3 t k) ?_
  show Go _ _ _ _ (T3.setTop (mkF m 12 #[rv a1, iv key, iv line, .unset, .unset, .unset] [(.int 3), (.int 0), (.ref ax)]))
  refine go_st (fun t k => XS.iloadN X3.here hx rfl (hb hby d5_12) rfl k) ?_
  show Go _ _ _ _ (T3.setTop (mkF m 13 #[rv a1, iv key, iv line, .unset, .unset, .unset] [(.int key), (.int 3), (.int 0), (.ref ax)]))
  obtain ⟨_, _, ⟨T4, L4, kk4, nn4⟩, -, X4, ⟨Lc4, hQ4, lq4, yq4, zq4⟩, st4⟩ := Jvm.LawKit.callS X3 hx (y := (⟨"java/util/Arrays", "binarySearch", "([IIII)I"⟩ : MethodName)) hown (mvT hZ (w29 hw)) (mvT hZ (w30 hw)) (mvT hZ (w31 hw)) (mvT hZ (w32 hw)) (by decide) (backOf (W := 0) (rm_bs_030 l Z a0 hw [] ax kx key x0 x1 x2 h0 n0 (Nat.le_trans Z0 (Nat.le_refl _)) H5 s0 s1 hr) hZ (w32 hw) (w31 hw) (by decide) (by decide)) (g := (mkF m 13 #[rv a1, iv key, iv line, .unset, .unset, .unset] [(.int key), (.int 3), (.int 0), (.ref ax)])) rfl (by rw [hml]; rfl) (argsL := [(.ref ax), (.int 0), (.int 3), (.int key)]) (rest := []) (lenOf pd_1 rfl) rfl (by show 2 * 0 + _ ≤ _; exact Nat.le_of_eq rfl) (hb hby d5_13) (fun _ _ => ⟨rfl, e3, (by decide : 0 + 0 ≤ _), (by decide : 0 + 0 ≤ _)⟩)
  dsimp only [Pt.U, Pt.locs, Pt.cells, Pt.slots] at X4 lq4 yq4 zq4 st4 hQ4
  subst lq4 yq4 zq4
  obtain ⟨h4, e4⟩ : ∃ z, T4.heap = z := ⟨_, rfl⟩
  rw [e4] at hQ4
  obtain ⟨r_4, rfl, N4q, he4, hres_4⟩ := hQ4
  have N4 := Fr.app N0 N4q
  rw [he4] at e4
  refine go_st st4 ?_
  show Go _ _ _ _ (T4.setTop (mkF m 16 #[rv a1, iv key, iv line, .unset, .unset, .unset] [(.int r_4)]))
  rcases hres_4 with rfl | rfl
  · skip
    show Go _ _ _ _ (T4.setTop (mkF m 16 #[rv a1, iv key, iv line, .unset, .unset, .unset] [(.int 0)]))
    refine go_st (fun t k => XS.istoreN X4.here hx rfl (hb hby d5_16) rfl (l' := #[rv a1, iv key, iv line, iv 0, .unset, .unset]) rfl k) ?_
    show Go _ _ _ _ (T4.setTop (mkF m 17 #[rv a1, iv key, iv line, iv 0, .unset, .unset] []))
    refine go_st (fun t k => XS.iloadN X4.here hx rfl (hb hby d5_17) rfl k) ?_
    show Go _ _ _ _ (T4.setTop (mkF m 18 #[rv a1, iv key, iv line, iv 0, .unset, .unset] [(.int 0)]))
    refine go_st (fun t k => XS.ifNo X4.here hx rfl (hb hby d5_18) rfl ((if0 _ _).trans (flt ((by decide) : ¬ ((0 : Int32) < (0 : Int32)))).1) k) ?_
    show Go _ _ _ _ (T4.setTop (mkF m 21 #[rv a1, iv key, iv line, iv 0, .unset, .unset] []))
    refine go_st (fun t k => XS.iloadN X4.here hx rfl (hb hby d5_21) rfl k) ?_
    show Go _ _ _ _ (T4.setTop (mkF m 22 #[rv a1, iv key, iv line, iv 0, .unset, .unset] [(.int 0)]))
    refine go_st (fun t k => XS.goto X4.here hx rfl (pc0 := 22) (pc' := 29) rfl (hb hby d5_22) (by decide) (by decide) k) ?_
    show Go _ _ _ _ (T4.setTop (mkF m 29 #[rv a1, iv key, iv line, iv 0, .unset, .unset] [(.int 0)]))
    refine go_st (fun t k => XS.iconst X4.here hx rfl (hb hby d5_29) k) ?_
    show Go _ _ _ _ (T4.setTop (mkF m 30 #[rv a1, iv key, iv line, iv 0, .unset, .unset] [(.int 1), (.int 0)]))
    refine go_st (fun t k => XS.isub X4.here hx rfl (hb hby d5_30) rfl k) ?_
    rw [show ((0 : Int32) - (1 : Int32)) = (-1 : Int32) from by decide]
    show Go _ _ _ _ (T4.setTop (mkF m 31 #[rv a1, iv key, iv line, iv 0, .unset, .unset] [(.int (-1))]))
    refine go_st (fun t k => XS.istore X4.here hx rfl (hb hby d5_31) rfl (l' := #[rv a1, iv key, iv line, iv 0, iv (-1), .unset]) rfl k) ?_
    show Go _ _ _ _ (T4.setTop (mkF m 33 #[rv a1, iv key, iv line, iv 0, iv (-1), .unset] []))
    refine go_st (fun t k => XS.iloadN X4.here hx rfl (hb hby d5_33) rfl k) ?_
    show Go _ _ _ _ (T4.setTop (mkF m 34 #[rv a1, iv key, iv line, iv 0, iv (-1), .unset] [(.int line)]))
    refine go_st (fun t k => XS.istore X4.here hx rfl (hb hby d5_34) rfl (l' := #[rv a1, iv key, iv line, iv 0, iv (-1), iv line]) rfl k) ?_
    show Go _ _ _ _ (T4.setTop (mkF m 36 #[rv a1, iv key, iv line, iv 0, iv (-1), iv line] []))
    refine go_st (fun t k => XS.iload X4.here hx rfl (hb hby d5_36) rfl k) ?_
    show Go _ _ _ _ (T4.setTop (mkF m 38 #[rv a1, iv key, iv line, iv 0, iv (-1), iv line] [(.int (-1))]))
    refine go_st (fun t k => XS.aloadN X4.here hx rfl (hb hby d5_38) rfl rfl k) ?_
    show Go _ _ _ _ (T4.setTop (mkF m 39 #[rv a1, iv key, iv line, iv 0, iv (-1), iv line] [(.ref a1), (.int (-1))]))
    obtain ⟨T5, X5, e5, st5⟩ := getF X4 hx hZ hown (host := "") (Or.inl (w27 hw)) Via.refl e4 H3 (g := (mkF m 39 #[rv a1, iv key, iv line, iv 0, iv (-1), iv line] [(.ref a1), (.int (-1))])) rfl rfl (hb hby d5_39)
    refine go_st (fun t k => st5 t k) ?_
    show Go _ _ _ _ (T5.setTop (mkF m 42 #[rv a1, iv key, iv line, iv 0, iv (-1), iv line] [(.int 0), (.int (-1))]))
    refine go_st (fun t k => XS.icmpYes X5.here hx rfl (pc0 := 42) (pc' := 60) rfl (hb hby d5_42) rfl (tlt ((by decide) : (-1 : Int32) < (0 : Int32))).1 (by decide) (by decide) k) ?_
    show Go _ _ _ _ (T5.setTop (mkF m 60 #[rv a1, iv key, iv line, iv 0, iv (-1), iv line] []))
    refine go_st (fun t k => XS.iload X5.here hx rfl (hb hby d5_60) rfl k) ?_
    show Go _ _ _ _ (T5.setTop (mkF m 62 #[rv a1, iv key, iv line, iv 0, iv (-1), iv line] [(.int line)]))
    obtain ⟨fs, hr, hrun, hended, hW, hsame⟩ := X5.leave (v := some (.int line)) (fun h => by rw [Bd.returns] at h; cases h)
    refine ⟨_, _, ?_, hrun, hended, _, _, rfl, ?_, ⟨_, rfl⟩, hW, hsame.mono (by decide) (by decide)⟩
    · exact retI X5 hx Bd.returns (hb hby d5_62) hr
    · show Q_lb_030 _ _ _ _ _ _ _ _ _ _ _ _ _ _ _ _ _ T5.heap _
      rw [e5]
      exact ⟨rfl, N4, (Keep.refl h0 [a1]), H0, H1, H2, H3, H4, H5, H6⟩
  · skip
    show Go _ _ _ _ (T4.setTop (mkF m 16 #[rv a1, iv key, iv line, .unset, .unset, .unset] [(.int (-1))]))
    refine go_st (fun t k => XS.istoreN X4.here hx rfl (hb hby d5_16) rfl (l' := #[rv a1, iv key, iv line, iv (-1), .unset, .unset]) rfl k) ?_
    show Go _ _ _ _ (T4.setTop (mkF m 17 #[rv a1, iv key, iv line, iv (-1), .unset, .unset] []))
    refine go_st (fun t k => XS.iloadN X4.here hx rfl (hb hby d5_17) rfl k) ?_
    show Go _ _ _ _ (T4.setTop (mkF m 18 #[rv a1, iv key, iv line, iv (-1), .unset, .unset] [(.int (-1))]))
    refine go_st (fun t k => XS.ifYes X4.here hx rfl (pc0 := 18) (pc' := 25) rfl (hb hby d5_18) rfl ((if0 _ _).trans (tlt ((by decide) : (-1 : Int32) < (0 : Int32))).1) (by decide) (by decide) k) ?_
    show Go _ _ _ _ (T4.setTop (mkF m 25 #[rv a1, iv key, iv line, iv (-1), .unset, .unset] []))
    refine go_st (fun t k => XS.iloadN X4.here hx rfl (hb hby d5_25) rfl k) ?_
    show Go _ _ _ _ (T4.setTop (mkF m 26 #[rv a1, iv key, iv line, iv (-1), .unset, .unset] [(.int (-1))]))
    refine go_st (fun t k => XS.ineg X4.here hx rfl (hb hby d5_26) rfl k) ?_
    rw [show (-(-1 : Int32)) = (1 : Int32) from by decide]
    show Go _ _ _ _ (T4.setTop (mkF m 27 #[rv a1, iv key, iv line, iv (-1), .unset, .unset] [(.int 1)]))
    refine go_st (fun t k => XS.iconst X4.here hx rfl (hb hby d5_27) k) ?_
    show Go _ _ _ _ (T4.setTop (mkF m 28 #[rv a1, iv key, iv line, iv (-1), .unset, .unset] [(.int 1), (.int 1)]))
    refine go_st (fun t k => XS.isub X4.here hx rfl (hb hby d5_28) rfl k) ?_
    rw [show ((1 : Int32) - (1 : Int32)) = (0 : Int32) from by decide]
    show Go _ _ _ _ (T4.setTop (mkF m 29 #[rv a1, iv key, iv line, iv (-1), .unset, .unset] [(.int 0)]))
    refine go_st (fun t k => XS.iconst X4.here hx rfl (hb hby d5_29) k) ?_
    show Go _ _ _ _ (T4.setTop (mkF m 30 #[rv a1, iv key, iv line, iv (-1), .unset, .unset] [(.int 1), (.int 0)]))
    refine go_st (fun t k => XS.isub X4.here hx rfl (hb hby d5_30) rfl k) ?_
    rw [show ((0 : Int32) - (1 : Int32)) = (-1 : Int32) from by decide]
    show Go _ _ _ _ (T4.setTop (mkF m 31 #[rv a1, iv key, iv line, iv (-1), .unset, .unset] [(.int (-1))]))
    refine go_st (fun t k => XS.istore X4.here hx rfl (hb hby d5_31) rfl (l' := #[rv a1, iv key, iv line, iv (-1), iv (-1), .unset]) rfl k) ?_
    show Go _ _ _ _ (T4.setTop (mkF m 33 #[rv a1, iv key, iv line, iv (-1), iv (-1), .unset] []))
    refine go_st (fun t k => XS.iloadN X4.here hx rfl (hb hby d5_33) rfl k) ?_
    show Go _ _ _ _ (T4.setTop (mkF m 34 #[rv a1, iv key, iv line, iv (-1), iv (-1), .unset] [(.int line)]))
    refine go_st (fun t k => XS.istore X4.here hx rfl (hb hby d5_34) rfl (l' := #[rv a1, iv key, iv line, iv (-1), iv (-1), iv line]) rfl k) ?_
    show Go _ _ _ _ (T4.setTop (mkF m 36 #[rv a1, iv key, iv line, iv (-1), iv (-1), iv line] []))
    refine go_st (fun t k => XS.iload X4.here hx rfl (hb hby d5_36) rfl k) ?_
    show Go _ _ _ _ (T4.setTop (mkF m 38 #[rv a1, iv key, iv line, iv (-1), iv (-1), iv line] [(.int (-1))]))
    refine go_st (fun t k => XS.aloadN X4.here hx rfl (hb hby d5_38) rfl rfl k) ?_
    show Go _ _ _ _ (T4.setTop (mkF m 39 #[rv a1, iv key, iv line, iv (-1), iv (-1), iv line] [(.ref a1), (.int (-1))]))
    obtain ⟨T6, X6, e6, st6⟩ := getF X4 hx hZ hown (host := "") (Or.inl (w27 hw)) Via.refl e4 H3 (g := (mkF m 39 #[rv a1, iv key, iv line, iv (-1), iv (-1), iv line] [(.ref a1), (.int (-1))])) rfl rfl (hb hby d5_39)
    refine go_st (fun t k => st6 t k) ?_
    show Go _ _ _ _ (T6.setTop (mkF m 42 #[rv a1, iv key, iv line, iv (-1), iv (-1), iv line] [(.int 0), (.int (-1))]))
    refine go_st (fun t k => XS.icmpYes X6.here hx rfl (pc0 := 42) (pc' := 60) rfl (hb hby d5_42) rfl (tlt ((by decide) : (-1 : Int32) < (0 : Int32))).1 (by decide) (by decide) k) ?_
    show Go _ _ _ _ (T6.setTop (mkF m 60 #[rv a1, iv key, iv line, iv (-1), iv (-1), iv line] []))
    refine go_st (fun t k => XS.iload X6.here hx rfl (hb hby d5_60) rfl k) ?_
    show Go _ _ _ _ (T6.setTop (mkF m 62 #[rv a1, iv key, iv line, iv (-1), iv (-1), iv line] [(.int line)]))
    obtain ⟨fs, hr, hrun, hended, hW, hsame⟩ := X6.leave (v := some (.int line)) (fun h => by rw [Bd.returns] at h; cases h)
    refine ⟨_, _, ?_, hrun, hended, _, _, rfl, ?_, ⟨_, rfl⟩, hW, hsame.mono (by decide) (by decide)⟩
    · exact retI X6 hx Bd.returns (hb hby d5_62) hr
    · show Q_lb_030 _ _ _ _ _ _ _ _ _ _ _ _ _ _ _ _ _ T6.heap _
      rw [e6]
      exact ⟨rfl, N4, (Keep.refl h0 [a1]), H0, H1, H2, H3, H4, H5, H6⟩
def Q_bs0_031 (Z : State) (ax : Addr) (kx : ClassId) (key : Int32) (x0 : Int32) (x1 : Int32) (x2 : Int32) (h0 : Heap) (n0 : Nat) (vR : Option Value) (h : Heap) (L : List Loc) : Prop := ∃ (r : Int32), vR = some (.int r) ∧ Fr n0 L ∧ h = h0 ∧ (r = (1 : Int32) ∨ r = (-2 : Int32))
theorem ef_bs0_031 (m : MethodId) (x0 : Addr) (x1 : Int32) (x2 : Int32) (x3 : Int32) : entryFrame m #[(.ref x0), (.int x1), (.int x2), (.int x3)] 8 = mkF m 0 #[.val (.ref x0), .val (.int x1), .val (.int x2), .val (.int x3), .unset, .unset, .unset, .unset] [] := by first | (simp [entryFrame, mkF, argsToLocals, Value.category]; done) | rfl
set_option maxRecDepth 65536 in
set_option maxHeartbeats 40000000 in
theorem rm_bs0_031 (l : Launch) (Z : State) (a0 : Array Value) (hw : ∀ d ∈ tables_1, d.before a0 Z = true) (ws : List Jvm.Cond) (ax : Addr) (kx : ClassId) (key : Int32) (x0 : Int32) (x1 : Int32) (x2 : Int32) (h0 : Heap) (n0 : Nat) (Z0 : n0 ≤ h0.size) (H0 : Arv Z h0 ax kx .int (64 : Int32) [(.int x0), (.int x1), (.int x2)] (.int (0 : Int32))) (s0 : x0 < x1) (s1 : x1 < x2) (hl : x0 < key) (hr : ¬ (x1 < key)) :
    MetFree l (⟨"java/util/Arrays", "binarySearch0", "([IIII)I"⟩ : MethodName) (head1 (Jvm.Cond.code (⟨"java/util/Arrays", "binarySearch0", "([IIII)I"⟩ : MethodName) jdk_65_method_59_code 8 (some .int) :: ws) ({ frames := 0, cells := 0, slots := 0, locals := 0 } : Room)) (fun a U => a = #[(.ref ax), (.int 0), (.int 3), (.int key)] ∧ Z.Warmed39 U.vm ∧ U.heap = h0) (fun _ _ _ _ _ => True) (fun _ U o U' => ∃ v L, o = .returned v ∧ Q_bs0_031 Z ax kx key x0 x1 x2 h0 n0 v U'.heap L ∧ FrameEnd U o U' L ({ frames := 0, cells := 0, slots := 0, locals := 0 } : Room).cells ({ frames := 0, cells := 0, slots := 0, locals := 0 } : Room).slots) := by
  refine MetFree.of_bodySF (plainFor_of_name pn_java_util_Arrays) hisR ?_
  intro p e s m args below meth c s₁ Bd hml0 hP hK
  obtain ⟨rfl, hZ, hh⟩ := hP
  have hx := Bd.exec
  have hby := Bd.bytes
  have hml : c.maxLocals = 8 := hml0
  have hown : s.vm.findClass "java/util/Arrays" = some m.cls := findClass_of_methodNamed Bd.named
  have hnm := (name_of_methodNamed Bd.named Bd.method).1
  have X0 : Stand p l e ({ frames := 0, cells := 0, slots := 0, locals := 0 } : Room) s m #[(.ref ax), (.int 0), (.int 3), (.int key)] below meth c s₁ [] 0 0 := Stand.of_body Bd
  have e0 : s₁.heap = h0 := by rw [← hh, Bd.state]; rfl
  have N0 := Fr.nil n0
  refine go_st (fun t k => castTop (ef_bs0_031 m ax (0 : Int32) (3 : Int32) key) k) ?_
  show Go _ _ _ _ (s₁.setTop (mkF m 0 #[rv ax, iv 0, iv 3, iv key, .unset, .unset, .unset, .unset] []))
  refine go_st (fun t k => XS.iloadN X0.here hx rfl (hb hby d3_0) rfl k) ?_
  show Go _ _ _ _ (s₁.setTop (mkF m 1 #[rv ax, iv 0, iv 3, iv key, .unset, .unset, .unset, .unset] [(.int 0)]))
  refine go_st (fun t k => XS.istore X0.here hx rfl (hb hby d3_1) rfl (l' := #[rv ax, iv 0, iv 3, iv key, iv 0, .unset, .unset, .unset]) rfl k) ?_
  show Go _ _ _ _ (s₁.setTop (mkF m 3 #[rv ax, iv 0, iv 3, iv key, iv 0, .unset, .unset, .unset] []))
  refine go_st (fun t k => XS.iloadN X0.here hx rfl (hb hby d3_3) rfl k) ?_
  show Go _ _ _ _ (s₁.setTop (mkF m 4 #[rv ax, iv 0, iv 3, iv key, iv 0, .unset, .unset, .unset] [(.int 3)]))
  refine go_st (fun t k => XS.iconst X0.here hx rfl (hb hby d3_4) k) ?_
  show Go _ _ _ _ (s₁.setTop (mkF m 5 #[rv ax, iv 0, iv 3, iv key, iv 0, .unset, .unset, .unset] [(.int 1), (.int 3)]))
  refine go_st (fun t k => XS.isub X0.here hx rfl (hb hby d3_5) rfl k) ?_
  rw [show ((3 : Int32) - (1 : Int32)) = (2 : Int32) from by decide]
  show Go _ _ _ _ (s₁.setTop (mkF m 6 #[rv ax, iv 0, iv 3, iv key, iv 0, .unset, .unset, .unset] [(.int 2)]))
  refine go_st (fun t k => XS.istore X0.here hx rfl (hb hby d3_6) rfl (l' := #[rv ax, iv 0, iv 3, iv key, iv 0, iv 2, .unset, .unset]) rfl k) ?_
  show Go _ _ _ _ (s₁.setTop (mkF m 8 #[rv ax, iv 0, iv 3, iv key, iv 0, iv 2, .unset, .unset] []))
  refine go_st (fun t k => XS.iload X0.here hx rfl (hb hby d3_8) rfl k) ?_
  show Go _ _ _ _ (s₁.setTop (mkF m 10 #[rv ax, iv 0, iv 3, iv key, iv 0, iv 2, .unset, .unset] [(.int 0)]))
  refine go_st (fun t k => XS.iload X0.here hx rfl (hb hby d3_10) rfl k) ?_
  show Go _ _ _ _ (s₁.setTop (mkF m 12 #[rv ax, iv 0, iv 3, iv key, iv 0, iv 2, .unset, .unset] [(.int 2), (.int 0)]))
  refine go_st (fun t k => XS.icmpNo X0.here hx rfl (hb hby d3_12) rfl (flt ((by decide) : ¬ ((2 : Int32) < (0 : Int32)))).2.2.1 k) ?_
  show Go _ _ _ _ (s₁.setTop (mkF m 15 #[rv ax, iv 0, iv 3, iv key, iv 0, iv 2, .unset, .unset] []))
  refine go_st (fun t k => XS.iload X0.here hx rfl (hb hby d3_15) rfl k) ?_
  show Go _ _ _ _ (s₁.setTop (mkF m 17 #[rv ax, iv 0, iv 3, iv key, iv 0, iv 2, .unset, .unset] [(.int 0)]))
  refine go_st (fun t k => XS.iload X0.here hx rfl (hb hby d3_17) rfl k) ?_
  show Go _ _ _ _ (s₁.setTop (mkF m 19 #[rv ax, iv 0, iv 3, iv key, iv 0, iv 2, .unset, .unset] [(.int 2), (.int 0)]))
  refine go_st (fun t k => XS.iadd X0.here hx rfl (hb hby d3_19) rfl k) ?_
  rw [show ((0 : Int32) + (2 : Int32)) = (2 : Int32) from by decide]
  show Go _ _ _ _ (s₁.setTop (mkF m 20 #[rv ax, iv 0, iv 3, iv key, iv 0, iv 2, .unset, .unset] [(.int 2)]))
  refine go_st (fun t k => XS.iconst X0.here hx rfl (hb hby d3_20) k) ?_
  show Go _ _ _ _ (s₁.setTop (mkF m 21 #[rv ax, iv 0, iv 3, iv key, iv 0, iv 2, .unset, .unset] [(.int 1), (.int 2)]))
  refine go_st (fun t k => XS.iushr X0.here hx rfl (hb hby d3_21) rfl k) ?_
  rw [show (((2 : Int32)).toUInt32 >>> ((1 : Int32) &&& 31).toUInt32).toInt32 = (1 : Int32) from by decide]
  show Go _ _ _ _ (s₁.setTop (mkF m 22 #[rv ax, iv 0, iv 3, iv key, iv 0, iv 2, .unset, .unset] [(.int 1)]))
  refine go_st (fun t k => XS.istore X0.here hx rfl (hb hby d3_22) rfl (l' := #[rv ax, iv 0, iv 3, iv key, iv 0, iv 2, iv 1, .unset]) rfl k) ?_
  show Go _ _ _ _ (s₁.setTop (mkF m 24 #[rv ax, iv 0, iv 3, iv key, iv 0, iv 2, iv 1, .unset] []))
  refine go_st (fun t k => XS.aloadN X0.here hx rfl (hb hby d3_24) rfl rfl k) ?_
  show Go _ _ _ _ (s₁.setTop (mkF m 25 #[rv ax, iv 0, iv 3, iv key, iv 0, iv 2, iv 1, .unset] [(.ref ax)]))
  refine go_st (fun t k => XS.iload X0.here hx rfl (hb hby d3_25) rfl k) ?_
  show Go _ _ _ _ (s₁.setTop (mkF m 27 #[rv ax, iv 0, iv 3, iv key, iv 0, iv 2, iv 1, .unset] [(.int 1), (.ref ax)]))
  obtain ⟨zc1, zA1, zq1, zS1, zN1, zH1, zG1⟩ := id H0
  have hin1 : ¬ ((1 : Int32) < 0 ∨ zc1.slots.size ≤ ((1 : Int32)).toNatClampNeg) := inb_of zS1 ⟨by decide, by decide⟩
  have hat1 : zc1.slots[((1 : Int32)).toNatClampNeg]? = some (.int x1) := Has.at zH1 hin1 rfl
  refine go_st (fun t k => X0.iaload hx (j := (1 : Int32)) (v := (.int x1)) (by rw [e0]; exact zA1.1) (State.isArrayOf_alike hZ.alike zA1.2.1) zA1.2.2 hin1 hat1 (g := (mkF m 27 #[rv ax, iv 0, iv 3, iv key, iv 0, iv 2, iv 1, .unset] [(.int 1), (.ref ax)])) rfl rfl (hb hby d3_27) t k) ?_
  show Go _ _ _ _ (s₁.setTop (mkF m 28 #[rv ax, iv 0, iv 3, iv key, iv 0, iv 2, iv 1, .unset] [(.int x1)]))
  refine go_st (fun t k => XS.istore X0.here hx rfl (hb hby d3_28) rfl (l' := #[rv ax, iv 0, iv 3, iv key, iv 0, iv 2, iv 1, iv x1]) rfl k) ?_
  show Go _ _ _ _ (s₁.setTop (mkF m 30 #[rv ax, iv 0, iv 3, iv key, iv 0, iv 2, iv 1, iv x1] []))
  refine go_st (fun t k => XS.iload X0.here hx rfl (hb hby d3_30) rfl k) ?_
  show Go _ _ _ _ (s₁.setTop (mkF m 32 #[rv ax, iv 0, iv 3, iv key, iv 0, iv 2, iv 1, iv x1] [(.int x1)]))
  refine go_st (fun t k => XS.iloadN X0.here hx rfl (hb hby d3_32) rfl k) ?_
  show Go _ _ _ _ (s₁.setTop (mkF m 33 #[rv ax, iv 0, iv 3, iv key, iv 0, iv 2, iv 1, iv x1] [(.int key), (.int x1)]))
  refine go_st (fun t k => XS.icmpYes X0.here hx rfl (pc0 := 33) (pc' := 45) rfl (hb hby d3_33) rfl (flt (hr : ¬ (x1 < key))).2.1 (by decide) (by decide) k) ?_
  show Go _ _ _ _ (s₁.setTop (mkF m 45 #[rv ax, iv 0, iv 3, iv key, iv 0, iv 2, iv 1, iv x1] []))
  refine go_st (fun t k => XS.iload X0.here hx rfl (hb hby d3_45) rfl k) ?_
  show Go _ _ _ _ (s₁.setTop (mkF m 47 #[rv ax, iv 0, iv 3, iv key, iv 0, iv 2, iv 1, iv x1] [(.int x1)]))
  refine go_st (fun t k => XS.iloadN X0.here hx rfl (hb hby d3_47) rfl k) ?_
  show Go _ _ _ _ (s₁.setTop (mkF m 48 #[rv ax, iv 0, iv 3, iv key, iv 0, iv 2, iv 1, iv x1] [(.int key), (.int x1)]))
  by_cases hc2 : key < x1
  · skip
    refine go_st (fun t k => XS.icmpNo X0.here hx rfl (hb hby d3_48) rfl (tlt (hc2 : key < x1)).2.2.2 k) ?_
    show Go _ _ _ _ (s₁.setTop (mkF m 51 #[rv ax, iv 0, iv 3, iv key, iv 0, iv 2, iv 1, iv x1] []))
    refine go_st (fun t k => XS.iload X0.here hx rfl (hb hby d3_51) rfl k) ?_
    show Go _ _ _ _ (s₁.setTop (mkF m 53 #[rv ax, iv 0, iv 3, iv key, iv 0, iv 2, iv 1, iv x1] [(.int 1)]))
    refine go_st (fun t k => XS.iconst X0.here hx rfl (hb hby d3_53) k) ?_
    show Go _ _ _ _ (s₁.setTop (mkF m 54 #[rv ax, iv 0, iv 3, iv key, iv 0, iv 2, iv 1, iv x1] [(.int 1), (.int 1)]))
    refine go_st (fun t k => XS.isub X0.here hx rfl (hb hby d3_54) rfl k) ?_
    rw [show ((1 : Int32) - (1 : Int32)) = (0 : Int32) from by decide]
    show Go _ _ _ _ (s₁.setTop (mkF m 55 #[rv ax, iv 0, iv 3, iv key, iv 0, iv 2, iv 1, iv x1] [(.int 0)]))
    refine go_st (fun t k => XS.istore X0.here hx rfl (hb hby d3_55) rfl (l' := #[rv ax, iv 0, iv 3, iv key, iv 0, iv 0, iv 1, iv x1]) rfl k) ?_
    show Go _ _ _ _ (s₁.setTop (mkF m 57 #[rv ax, iv 0, iv 3, iv key, iv 0, iv 0, iv 1, iv x1] []))
    refine go_st (fun t k => XS.goto X0.here hx rfl (pc0 := 57) (pc' := 63) rfl (hb hby d3_57) (by decide) (by decide) k) ?_
    show Go _ _ _ _ (s₁.setTop (mkF m 63 #[rv ax, iv 0, iv 3, iv key, iv 0, iv 0, iv 1, iv x1] []))
    refine go_st (fun t k => XS.goto X0.here hx rfl (pc0 := 63) (pc' := 8) rfl (hb hby d3_63) (by decide) (by decide) k) ?_
    show Go _ _ _ _ (s₁.setTop (mkF m 8 #[rv ax, iv 0, iv 3, iv key, iv 0, iv 0, iv 1, iv x1] []))
    refine go_st (fun t k => XS.iload X0.here hx rfl (hb hby d3_8) rfl k) ?_
    show Go _ _ _ _ (s₁.setTop (mkF m 10 #[rv ax, iv 0, iv 3, iv key, iv 0, iv 0, iv 1, iv x1] [(.int 0)]))
    refine go_st (fun t k => XS.iload X0.here hx rfl (hb hby d3_10) rfl k) ?_
    show Go _ _ _ _ (s₁.setTop (mkF m 12 #[rv ax, iv 0, iv 3, iv key, iv 0, iv 0, iv 1, iv x1] [(.int 0), (.int 0)]))
    refine go_st (fun t k => XS.icmpNo X0.here hx rfl (hb hby d3_12) rfl (flt ((by decide) : ¬ ((0 : Int32) < (0 : Int32)))).2.2.1 k) ?_
    show Go _ _ _ _ (s₁.setTop (mkF m 15 #[rv ax, iv 0, iv 3, iv key, iv 0, iv 0, iv 1, iv x1] []))
    refine go_st (fun t k => XS.iload X0.here hx rfl (hb hby d3_15) rfl k) ?_
    show Go _ _ _ _ (s₁.setTop (mkF m 17 #[rv ax, iv 0, iv 3, iv key, iv 0, iv 0, iv 1, iv x1] [(.int 0)]))
    refine go_st (fun t k => XS.iload X0.here hx rfl (hb hby d3_17) rfl k) ?_
    show Go _ _ _ _ (s₁.setTop (mkF m 19 #[rv ax, iv 0, iv 3, iv key, iv 0, iv 0, iv 1, iv x1] [(.int 0), (.int 0)]))
    refine go_st (fun t k => XS.iadd X0.here hx rfl (hb hby d3_19) rfl k) ?_
    rw [show ((0 : Int32) + (0 : Int32)) = (0 : Int32) from by decide]
    show Go _ _ _ _ (s₁.setTop (mkF m 20 #[rv ax, iv 0, iv 3, iv key, iv 0, iv 0, iv 1, iv x1] [(.int 0)]))
    refine go_st (fun t k => XS.iconst X0.here hx rfl (hb hby d3_20) k) ?_
    show Go _ _ _ _ (s₁.setTop (mkF m 21 #[rv ax, iv 0, iv 3, iv key, iv 0, iv 0, iv 1, iv x1] [(.int 1), (.int 0)]))
    refine go_st (fun t k => XS.iushr X0.here hx rfl (hb hby d3_21) rfl k) ?_
    rw [show (((0 : Int32)).toUInt32 >>> ((1 : Int32) &&& 31).toUInt32).toInt32 = (0 : Int32) from by decide]
    show Go _ _ _ _ (s₁.setTop (mkF m 22 #[rv ax, iv 0, iv 3, iv key, iv 0, iv 0, iv 1, iv x1] [(.int 0)]))
    refine go_st (fun t k => XS.istore X0.here hx rfl (hb hby d3_22) rfl (l' := #[rv ax, iv 0, iv 3, iv key, iv 0, iv 0, iv 0, iv x1]) rfl k) ?_
    show Go _ _ _ _ (s₁.setTop (mkF m 24 #[rv ax, iv 0, iv 3, iv key, iv 0, iv 0, iv 0, iv x1] []))
    refine go_st (fun t k => XS.aloadN X0.here hx rfl (hb hby d3_24) rfl rfl k) ?_
    show Go _ _ _ _ (s₁.setTop (mkF m 25 #[rv ax, iv 0, iv 3, iv key, iv 0, iv 0, iv 0, iv x1] [(.ref ax)]))
    refine go_st (fun t k => XS.iload X0.here hx rfl (hb hby d3_25) rfl k) ?_
    show Go _ _ _ _ (s₁.setTop (mkF m 27 #[rv ax, iv 0, iv 3, iv key, iv 0, iv 0, iv 0, iv x1] [(.int 0), (.ref ax)]))
    obtain ⟨zc3, zA3, zq3, zS3, zN3, zH3, zG3⟩ := id H0
    have hin3 : ¬ ((0 : Int32) < 0 ∨ zc3.slots.size ≤ ((0 : Int32)).toNatClampNeg) := inb_of zS3 ⟨by decide, by decide⟩
    have hat3 : zc3.slots[((0 : Int32)).toNatClampNeg]? = some (.int x0) := Has.at zH3 hin3 rfl
    refine go_st (fun t k => X0.iaload hx (j := (0 : Int32)) (v := (.int x0)) (by rw [e0]; exact zA3.1) (State.isArrayOf_alike hZ.alike zA3.2.1) zA3.2.2 hin3 hat3 (g := (mkF m 27 #[rv ax, iv 0, iv 3, iv key, iv 0, iv 0, iv 0, iv x1] [(.int 0), (.ref ax)])) rfl rfl (hb hby d3_27) t k) ?_
    show Go _ _ _ _ (s₁.setTop (mkF m 28 #[rv ax, iv 0, iv 3, iv key, iv 0, iv 0, iv 0, iv x1] [(.int x0)]))
    refine go_st (fun t k => XS.istore X0.here hx rfl (hb hby d3_28) rfl (l' := #[rv ax, iv 0, iv 3, iv key, iv 0, iv 0, iv 0, iv x0]) rfl k) ?_
    show Go _ _ _ _ (s₁.setTop (mkF m 30 #[rv ax, iv 0, iv 3, iv key, iv 0, iv 0, iv 0, iv x0] []))
    refine go_st (fun t k => XS.iload X0.here hx rfl (hb hby d3_30) rfl k) ?_
    show Go _ _ _ _ (s₁.setTop (mkF m 32 #[rv ax, iv 0, iv 3, iv key, iv 0, iv 0, iv 0, iv x0] [(.int x0)]))
    refine go_st (fun t k => XS.iloadN X0.here hx rfl (hb hby d3_32) rfl k) ?_
    show Go _ _ _ _ (s₁.setTop (mkF m 33 #[rv ax, iv 0, iv 3, iv key, iv 0, iv 0, iv 0, iv x0] [(.int key), (.int x0)]))
    refine go_st (fun t k => XS.icmpNo X0.here hx rfl (hb hby d3_33) rfl (tlt (hl : x0 < key)).2.1 k) ?_
    show Go _ _ _ _ (s₁.setTop (mkF m 36 #[rv ax, iv 0, iv 3, iv key, iv 0, iv 0, iv 0, iv x0] []))
    refine go_st (fun t k => XS.iload X0.here hx rfl (hb hby d3_36) rfl k) ?_
    show Go _ _ _ _ (s₁.setTop (mkF m 38 #[rv ax, iv 0, iv 3, iv key, iv 0, iv 0, iv 0, iv x0] [(.int 0)]))
    refine go_st (fun t k => XS.iconst X0.here hx rfl (hb hby d3_38) k) ?_
    show Go _ _ _ _ (s₁.setTop (mkF m 39 #[rv ax, iv 0, iv 3, iv key, iv 0, iv 0, iv 0, iv x0] [(.int 1), (.int 0)]))
    refine go_st (fun t k => XS.iadd X0.here hx rfl (hb hby d3_39) rfl k) ?_
    rw [show ((0 : Int32) + (1 : Int32)) = (1 : Int32) from by decide]
    show Go _ _ _ _ (s₁.setTop (mkF m 40 #[rv ax, iv 0, iv 3, iv key, iv 0, iv 0, iv 0, iv x0] [(.int 1)]))
    refine go_st (fun t k => XS.istore X0.here hx rfl (hb hby d3_40) rfl (l' := #[rv ax, iv 0, iv 3, iv key, iv 1, iv 0, iv 0, iv x0]) rfl k) ?_
    show Go _ _ _ _ (s₁.setTop (mkF m 42 #[rv ax, iv 0, iv 3, iv key, iv 1, iv 0, iv 0, iv x0] []))
    refine go_st (fun t k => XS.goto X0.here hx rfl (pc0 := 42) (pc' := 63) rfl (hb hby d3_42) (by decide) (by decide) k) ?_
    show Go _ _ _ _ (s₁.setTop (mkF m 63 #[rv ax, iv 0, iv 3, iv key, iv 1, iv 0, iv 0, iv x0] []))
    refine go_st (fun t k => XS.goto X0.here hx rfl (pc0 := 63) (pc' := 8) rfl (hb hby d3_63) (by decide) (by decide) k) ?_
    show Go _ _ _ _ (s₁.setTop (mkF m 8 #[rv ax, iv 0, iv 3, iv key, iv 1, iv 0, iv 0, iv x0] []))
    refine go_st (fun t k => XS.iload X0.here hx rfl (hb hby d3_8) rfl k) ?_
    show Go _ _ _ _ (s₁.setTop (mkF m 10 #[rv ax, iv 0, iv 3, iv key, iv 1, iv 0, iv 0, iv x0] [(.int 1)]))
    refine go_st (fun t k => XS.iload X0.here hx rfl (hb hby d3_10) rfl k) ?_
    show Go _ _ _ _ (s₁.setTop (mkF m 12 #[rv ax, iv 0, iv 3, iv key, iv 1, iv 0, iv 0, iv x0] [(.int 0), (.int 1)]))
    refine go_st (fun t k => XS.icmpYes X0.here hx rfl (pc0 := 12) (pc' := 66) rfl (hb hby d3_12) rfl (tlt ((by decide) : (0 : Int32) < (1 : Int32))).2.2.1 (by decide) (by decide) k) ?_
    show Go _ _ _ _ (s₁.setTop (mkF m 66 #[rv ax, iv 0, iv 3, iv key, iv 1, iv 0, iv 0, iv x0] []))
    refine go_st (fun t k => XS.iload X0.here hx rfl (hb hby d3_66) rfl k) ?_
    show Go _ _ _ _ (s₁.setTop (mkF m 68 #[rv ax, iv 0, iv 3, iv key, iv 1, iv 0, iv 0, iv x0] [(.int 1)]))
    refine go_st (fun t k => XS.iconst X0.here hx rfl (hb hby d3_68) k) ?_
    show Go _ _ _ _ (s₁.setTop (mkF m 69 #[rv ax, iv 0, iv 3, iv key, iv 1, iv 0, iv 0, iv x0] [(.int 1), (.int 1)]))
    refine go_st (fun t k => XS.iadd X0.here hx rfl (hb hby d3_69) rfl k) ?_
    rw [show ((1 : Int32) + (1 : Int32)) = (2 : Int32) from by decide]
    show Go _ _ _ _ (s₁.setTop (mkF m 70 #[rv ax, iv 0, iv 3, iv key, iv 1, iv 0, iv 0, iv x0] [(.int 2)]))
    refine go_st (fun t k => XS.ineg X0.here hx rfl (hb hby d3_70) rfl k) ?_
    rw [show (-(2 : Int32)) = (-2 : Int32) from by decide]
    show Go _ _ _ _ (s₁.setTop (mkF m 71 #[rv ax, iv 0, iv 3, iv key, iv 1, iv 0, iv 0, iv x0] [(.int (-2))]))
    obtain ⟨fs, hr, hrun, hended, hW, hsame⟩ := X0.leave (v := some (.int (-2))) (fun h => by rw [Bd.returns] at h; cases h)
    refine ⟨_, _, ?_, hrun, hended, _, _, rfl, ?_, ⟨_, rfl⟩, hW, hsame.mono (by decide) (by decide)⟩
    · exact retI X0 hx Bd.returns (hb hby d3_71) hr
    · show Q_bs0_031 _ _ _ _ _ _ _ _ _ _ s₁.heap _
      rw [e0]
      exact ⟨(-2 : Int32), rfl, N0, rfl, (Or.inr rfl)⟩
  · skip
    refine go_st (fun t k => XS.icmpYes X0.here hx rfl (pc0 := 48) (pc' := 60) rfl (hb hby d3_48) rfl (flt (hc2 : ¬ (key < x1))).2.2.2 (by decide) (by decide) k) ?_
    show Go _ _ _ _ (s₁.setTop (mkF m 60 #[rv ax, iv 0, iv 3, iv key, iv 0, iv 2, iv 1, iv x1] []))
    refine go_st (fun t k => XS.iload X0.here hx rfl (hb hby d3_60) rfl k) ?_
    show Go _ _ _ _ (s₁.setTop (mkF m 62 #[rv ax, iv 0, iv 3, iv key, iv 0, iv 2, iv 1, iv x1] [(.int 1)]))
    obtain ⟨fs, hr, hrun, hended, hW, hsame⟩ := X0.leave (v := some (.int 1)) (fun h => by rw [Bd.returns] at h; cases h)
    refine ⟨_, _, ?_, hrun, hended, _, _, rfl, ?_, ⟨_, rfl⟩, hW, hsame.mono (by decide) (by decide)⟩
    · exact retI X0 hx Bd.returns (hb hby d3_62) hr
    · show Q_bs0_031 _ _ _ _ _ _ _ _ _ _ s₁.heap _
      rw [e0]
      exact ⟨(1 : Int32), rfl, N0, rfl, (Or.inl rfl)⟩
def Q_bs_031 (Z : State) (ax : Addr) (kx : ClassId) (key : Int32) (x0 : Int32) (x1 : Int32) (x2 : Int32) (h0 : Heap) (n0 : Nat) (vR : Option Value) (h : Heap) (L : List Loc) : Prop := ∃ (r : Int32), vR = some (.int r) ∧ Fr n0 L ∧ h = h0 ∧ (r = (1 : Int32) ∨ r = (-2 : Int32))
theorem ef_bs_031 (m : MethodId) (x0 : Addr) (x1 : Int32) (x2 : Int32) (x3 : Int32) : entryFrame m #[(.ref x0), (.int x1), (.int x2), (.int x3)] 4 = mkF m 0 #[.val (.ref x0), .val (.int x1), .val (.int x2), .val (.int x3)] [] := by first | (simp [entryFrame, mkF, argsToLocals, Value.category]; done) | rfl
set_option maxRecDepth 65536 in
set_option maxHeartbeats 40000000 in
theorem rm_bs_031 (l : Launch) (Z : State) (a0 : Array Value) (hw : ∀ d ∈ tables_1, d.before a0 Z = true) (ws : List Jvm.Cond) (ax : Addr) (kx : ClassId) (key : Int32) (x0 : Int32) (x1 : Int32) (x2 : Int32) (h0 : Heap) (n0 : Nat) (Z0 : n0 ≤ h0.size) (H0 : Arv Z h0 ax kx .int (64 : Int32) [(.int x0), (.int x1), (.int x2)] (.int (0 : Int32))) (s0 : x0 < x1) (s1 : x1 < x2) (hl : x0 < key) (hr : ¬ (x1 < key)) :
    MetFree l (⟨"java/util/Arrays", "binarySearch", "([IIII)I"⟩ : MethodName) (head1 (Jvm.Cond.code (⟨"java/util/Arrays", "binarySearch", "([IIII)I"⟩ : MethodName) jdk_65_method_58_code 4 (some .int) :: ws) ({ frames := 1, cells := 0, slots := 0, locals := 19 } : Room)) (fun a U => a = #[(.ref ax), (.int 0), (.int 3), (.int key)] ∧ Z.Warmed39 U.vm ∧ U.heap = h0) (fun _ _ _ _ _ => True) (fun _ U o U' => ∃ v L, o = .returned v ∧ Q_bs_031 Z ax kx key x0 x1 x2 h0 n0 v U'.heap L ∧ FrameEnd U o U' L ({ frames := 1, cells := 0, slots := 0, locals := 19 } : Room).cells ({ frames := 1, cells := 0, slots := 0, locals := 19 } : Room).slots) := by
  refine MetFree.of_bodySF (plainFor_of_name pn_java_util_Arrays) hisR ?_
  intro p e s m args below meth c s₁ Bd hml0 hP hK
  obtain ⟨rfl, hZ, hh⟩ := hP
  have hx := Bd.exec
  have hby := Bd.bytes
  have hml : c.maxLocals = 4 := hml0
  have hown : s.vm.findClass "java/util/Arrays" = some m.cls := findClass_of_methodNamed Bd.named
  have hnm := (name_of_methodNamed Bd.named Bd.method).1
  have X0 : Stand p l e ({ frames := 1, cells := 0, slots := 0, locals := 19 } : Room) s m #[(.ref ax), (.int 0), (.int 3), (.int key)] below meth c s₁ [] 0 0 := Stand.of_body Bd
  have e0 : s₁.heap = h0 := by rw [← hh, Bd.state]; rfl
  have N0 := Fr.nil n0
  refine go_st (fun t k => castTop (ef_bs_031 m ax (0 : Int32) (3 : Int32) key) k) ?_
  show Go _ _ _ _ (s₁.setTop (mkF m 0 #[rv ax, iv 0, iv 3, iv key] []))
  refine go_st (fun t k => XS.aloadN X0.here hx rfl (hb hby d4_0) rfl rfl k) ?_
  show Go _ _ _ _ (s₁.setTop (mkF m 1 #[rv ax, iv 0, iv 3, iv key] [(.ref ax)]))
  obtain ⟨zc1, zA1, zq1, zS1, zN1, zH1, zG1⟩ := id H0
  refine go_st (fun t k => X0.arraylength hx (by rw [e0]; exact zA1.1) (State.isArrayOf_alike hZ.alike zA1.2.1) (g := (mkF m 1 #[rv ax, iv 0, iv 3, iv key] [(.ref ax)])) rfl rfl (hb hby d4_1) t k) ?_
  rw [len_of zS1 zN1]
  show Go _ _ _ _ (s₁.setTop (mkF m 2 #[rv ax, iv 0, iv 3, iv key] [(.int 64)]))
  refine go_st (fun t k => XS.iloadN X0.here hx rfl (hb hby d4_2) rfl k) ?_
  show Go _ _ _ _ (s₁.setTop (mkF m 3 #[rv ax, iv 0, iv 3, iv key] [(.int 0), (.int 64)]))
  refine go_st (fun t k => XS.iloadN X0.here hx rfl (hb hby d4_3) rfl k) ?_
  show Go _ _ _ _ (s₁.setTop (mkF m 4 #[rv ax, iv 0, iv 3, iv key] [(.int 3), (.int 0), (.int 64)]))
  obtain ⟨_, _, ⟨T2, L2, kk2, nn2⟩, -, X2, ⟨Lc2, hQ2, lq2, yq2, zq2⟩, st2⟩ := Jvm.LawKit.callS X0 hx (y := (⟨"java/util/Arrays", "rangeCheck", "(III)V"⟩ : MethodName)) hown (mvT hZ (w33 hw)) (mvT hZ (w34 hw)) (mvT hZ (w31 hw)) (mvT hZ (w35 hw)) (by decide) (backOf (W := 0) (rm_rc_03 l Z a0 hw []  h0 n0 (Nat.le_trans Z0 (Nat.le_refl _)) ) hZ (w35 hw) (w31 hw) (by decide) (by decide)) (g := (mkF m 4 #[rv ax, iv 0, iv 3, iv key] [(.int 3), (.int 0), (.int 64)])) rfl (by rw [hml]; rfl) (argsL := [(.int 64), (.int 0), (.int 3)]) (rest := []) (lenOf pd_0 rfl) rfl (by show 2 * 0 + _ ≤ _; exact Nat.le_of_eq rfl) (hb hby d4_4) (fun _ _ => ⟨rfl, e0, (by decide : 0 + 0 ≤ _), (by decide : 0 + 0 ≤ _)⟩)
  dsimp only [Pt.U, Pt.locs, Pt.cells, Pt.slots] at X2 lq2 yq2 zq2 st2 hQ2
  subst lq2 yq2 zq2
  obtain ⟨h2, e2⟩ : ∃ z, T2.heap = z := ⟨_, rfl⟩
  rw [e2] at hQ2
  obtain ⟨rfl, N2q, he2⟩ := hQ2
  have N2 := Fr.app N0 N2q
  rw [he2] at e2
  refine go_st st2 ?_
  show Go _ _ _ _ (T2.setTop (mkF m 7 #[rv ax, iv 0, iv 3, iv key] []))
  refine go_st (fun t k => XS.aloadN X2.here hx rfl (hb hby d4_7) rfl rfl k) ?_
  show Go _ _ _ _ (T2.setTop (mkF m 8 #[rv ax, iv 0, iv 3, iv key] [(.ref ax)]))
  refine go_st (fun t k => XS.iloadN X2.here hx rfl (hb hby d4_8) rfl k) ?_
  show Go _ _ _ _ (T2.setTop (mkF m 9 #[rv ax, iv 0, iv 3, iv key] [(.int 0), (.ref ax)]))
  refine go_st (fun t k => XS.iloadN X2.here hx rfl (hb hby d4_9) rfl k) ?_
  show Go _ _ _ _ (T2.setTop (mkF m 10 #[rv ax, iv 0, iv 3, iv key] [(.int 3), (.int 0), (.ref ax)]))
  refine go_st (fun t k => XS.iloadN X2.here hx rfl (hb hby d4_10) rfl k) ?_
  show Go _ _ _ _ (T2.setTop (mkF m 11 #[rv ax, iv 0, iv 3, iv key] [(.int key), (.int 3), (.int 0), (.ref ax)]))
  obtain ⟨_, _, ⟨T3, L3, kk3, nn3⟩, -, X3, ⟨Lc3, hQ3, lq3, yq3, zq3⟩, st3⟩ := Jvm.LawKit.callS X2 hx (y := (⟨"java/util/Arrays", "binarySearch0", "([IIII)I"⟩ : MethodName)) hown (mvT hZ (w36 hw)) (mvT hZ (w37 hw)) (mvT hZ (w31 hw)) (mvT hZ (w38 hw)) (by decide) (backOf (W := 0) (rm_bs0_031 l Z a0 hw [] ax kx key x0 x1 x2 h0 n0 (Nat.le_trans Z0 (Nat.le_refl _)) H0 s0 s1 hl hr) hZ (w38 hw) (w31 hw) (by decide) (by decide)) (g := (mkF m 11 #[rv ax, iv 0, iv 3, iv key] [(.int key), (.int 3), (.int 0), (.ref ax)])) rfl (by rw [hml]; rfl) (argsL := [(.ref ax), (.int 0), (.int 3), (.int key)]) (rest := []) (lenOf pd_1 rfl) rfl (by show 2 * 0 + _ ≤ _; exact Nat.le_of_eq rfl) (hb hby d4_11) (fun _ _ => ⟨rfl, e2, (by decide : 0 + 0 ≤ _), (by decide : 0 + 0 ≤ _)⟩)
  dsimp only [Pt.U, Pt.locs, Pt.cells, Pt.slots] at X3 lq3 yq3 zq3 st3 hQ3
  subst lq3 yq3 zq3
  obtain ⟨h3, e3⟩ : ∃ z, T3.heap = z := ⟨_, rfl⟩
  rw [e3] at hQ3
  obtain ⟨r_3, rfl, N3q, he3, hres_3⟩ := hQ3
  have N3 := Fr.app N2 N3q
  rw [he3] at e3
  refine go_st st3 ?_
  show Go _ _ _ _ (T3.setTop (mkF m 14 #[rv ax, iv 0, iv 3, iv key] [(.int r_3)]))
  obtain ⟨fs, hr, hrun, hended, hW, hsame⟩ := X3.leave (v := some (.int r_3)) (fun h => by rw [Bd.returns] at h; cases h)
  refine ⟨_, _, ?_, hrun, hended, _, _, rfl, ?_, ⟨_, rfl⟩, hW, hsame.mono (by decide) (by decide)⟩
  · exact retI X3 hx Bd.returns (hb hby d4_14) hr
  · show Q_bs_031 _ _ _ _ _ _ _ _ _ _ T3.heap _
    rw [e3]
    exact ⟨r_3, rfl, N3, rfl, hres_3⟩
def Q_lb_031 (Z : State) (a1 : Addr) (ax : Addr) (al : Addr) (kx : ClassId) (kl : ClassId) (key : Int32) (line : Int32) (x0 : Int32) (x1 : Int32) (x2 : Int32) (l0 : Int32) (l1 : Int32) (l2 : Int32) (h0 : Heap) (n0 : Nat) (vR : Option Value) (h : Heap) (L : List Loc) : Prop := vR = some (.int l0) ∧ Fr n0 L ∧ Keep h0 h [a1] ∧ (Exa Z h a1 "com/example/nudge/nudge/tree/BlockEntries") ∧ (Fld Z h a1 "com/example/nudge/nudge/tree/BlockEntries" "indexes" "[I" (.ref ax)) ∧ (Fld Z h a1 "com/example/nudge/nudge/tree/BlockEntries" "lines" "[I" (.ref al)) ∧ (Fld Z h a1 "com/example/nudge/nudge/tree/BlockEntries" "first" "I" (.int 0)) ∧ (Fld Z h a1 "com/example/nudge/nudge/tree/BlockEntries" "count" "I" (.int 3)) ∧ (Arv Z h ax kx .int (64 : Int32) [(.int x0), (.int x1), (.int x2)] (.int (0 : Int32))) ∧ (Arv Z h al kl .int (64 : Int32) [(.int l0), (.int l1), (.int l2)] (.int (0 : Int32)))
theorem ef_lb_031 (m : MethodId) (x0 : Addr) (x1 : Int32) (x2 : Int32) : entryFrame m #[(.ref x0), (.int x1), (.int x2)] 6 = mkF m 0 #[.val (.ref x0), .val (.int x1), .val (.int x2), .unset, .unset, .unset] [] := by first | (simp [entryFrame, mkF, argsToLocals, Value.category]; done) | rfl
set_option maxRecDepth 65536 in
set_option maxHeartbeats 40000000 in
theorem rm_lb_031 (l : Launch) (Z : State) (a0 : Array Value) (hw : ∀ d ∈ tables_1, d.before a0 Z = true) (ws : List Jvm.Cond) (a1 : Addr) (ax : Addr) (al : Addr) (kx : ClassId) (kl : ClassId) (key : Int32) (line : Int32) (x0 : Int32) (x1 : Int32) (x2 : Int32) (l0 : Int32) (l1 : Int32) (l2 : Int32) (h0 : Heap) (n0 : Nat) (Z0 : n0 ≤ h0.size) (H0 : Exa Z h0 a1 "com/example/nudge/nudge/tree/BlockEntries") (H1 : Fld Z h0 a1 "com/example/nudge/nudge/tree/BlockEntries" "indexes" "[I" (.ref ax)) (H2 : Fld Z h0 a1 "com/example/nudge/nudge/tree/BlockEntries" "lines" "[I" (.ref al)) (H3 : Fld Z h0 a1 "com/example/nudge/nudge/tree/BlockEntries" "first" "I" (.int 0)) (H4 : Fld Z h0 a1 "com/example/nudge/nudge/tree/BlockEntries" "count" "I" (.int 3)) (H5 : Arv Z h0 ax kx .int (64 : Int32) [(.int x0), (.int x1), (.int x2)] (.int (0 : Int32))) (H6 : Arv Z h0 al kl .int (64 : Int32) [(.int l0), (.int l1), (.int l2)] (.int (0 : Int32))) (ne_a1_ax : a1 ≠ ax) (ne_a1_al : a1 ≠ al) (ne_ax_al : ax ≠ al) (g_a1 : n0 ≤ a1) (s0 : x0 < x1) (s1 : x1 < x2) (hl : x0 < key) (hr : ¬ (x1 < key)) :
    MetFree l (⟨"com/example/nudge/nudge/tree/BlockEntries", "lineBefore", "(II)I"⟩ : MethodName) (head1 (Jvm.Cond.code (⟨"com/example/nudge/nudge/tree/BlockEntries", "lineBefore", "(II)I"⟩ : MethodName) prog_17_method_3_code 6 (some .int) :: ws) ({ frames := 2, cells := 0, slots := 0, locals := 34 } : Room)) (fun a U => a = #[(.ref a1), (.int key), (.int line)] ∧ Z.Warmed39 U.vm ∧ U.heap = h0) (fun _ _ _ _ _ => True) (fun _ U o U' => ∃ v L, o = .returned v ∧ Q_lb_031 Z a1 ax al kx kl key line x0 x1 x2 l0 l1 l2 h0 n0 v U'.heap L ∧ FrameEnd U o U' L ({ frames := 2, cells := 0, slots := 0, locals := 34 } : Room).cells ({ frames := 2, cells := 0, slots := 0, locals := 34 } : Room).slots) := by
  refine MetFree.of_bodySF (plainFor_of_name pn_com_example_nudge_nudge_tree_BlockEntries) hisR ?_
  intro p e s m args below meth c s₁ Bd hml0 hP hK
  obtain ⟨rfl, hZ, hh⟩ := hP
  have hx := Bd.exec
  have hby := Bd.bytes
  have hml : c.maxLocals = 6 := hml0
  have hown : s.vm.findClass "com/example/nudge/nudge/tree/BlockEntries" = some m.cls := findClass_of_methodNamed Bd.named
  have hnm := (name_of_methodNamed Bd.named Bd.method).1
  have X0 : Stand p l e ({ frames := 2, cells := 0, slots := 0, locals := 34 } : Room) s m #[(.ref a1), (.int key), (.int line)] below meth c s₁ [] 0 0 := Stand.of_body Bd
  have e0 : s₁.heap = h0 := by rw [← hh, Bd.state]; rfl
  have N0 := Fr.nil n0
  refine go_st (fun t k => castTop (ef_lb_031 m a1 key line) k) ?_
  show Go _ _ _ _ (s₁.setTop (mkF m 0 #[rv a1, iv key, iv line, .unset, .unset, .unset] []))
  refine go_st (fun t k => XS.aloadN X0.here hx rfl (hb hby d5_0) rfl rfl k) ?_
  show Go _ _ _ _ (s₁.setTop (mkF m 1 #[rv a1, iv key, iv line, .unset, .unset, .unset] [(.ref a1)]))
  obtain ⟨T1, X1, e1, st1⟩ := getF X0 hx hZ hown (host := "") (Or.inl (w11 hw)) Via.refl e0 H1 (g := (mkF m 1 #[rv a1, iv key, iv line, .unset, .unset, .unset] [(.ref a1)])) rfl rfl (hb hby d5_1)
  refine go_st (fun t k => st1 t k) ?_
  show Go _ _ _ _ (T1.setTop (mkF m 4 #[rv a1, iv key, iv line, .unset, .unset, .unset] [(.ref ax)]))
  refine go_st (fun t k => XS.aloadN X1.here hx rfl (hb hby d5_4) rfl rfl k) ?_
  show Go _ _ _ _ (T1.setTop (mkF m 5 #[rv a1, iv key, iv line, .unset, .unset, .unset] [(.ref a1), (.ref ax)]))
  obtain ⟨T2, X2, e2, st2⟩ := getF X1 hx hZ hown (host := "") (Or.inl (w27 hw)) Via.refl e1 H3 (g := (mkF m 5 #[rv a1, iv key, iv line, .unset, .unset, .unset] [(.ref a1), (.ref ax)])) rfl rfl (hb hby d5_5)
  refine go_st (fun t k => st2 t k) ?_
  show Go _ _ _ _ (T2.setTop (mkF m 8 #[rv a1, iv key, iv line, .unset, .unset, .unset] [(.int 0), (.ref ax)]))
  refine go_st (fun t k => XS.aloadN X2.here hx rfl (hb hby d5_8) rfl rfl k) ?_
  show Go _ _ _ _ (T2.setTop (mkF m 9 #[rv a1, iv key, iv line, .unset, .unset, .unset] [(.ref a1), (.int 0), (.ref ax)]))
  obtain ⟨T3, X3, e3, st3⟩ := getF X2 hx hZ hown (host := "") (Or.inl (w20 hw)) Via.refl e2 H4 (g := (mkF m 9 #[rv a1, iv key, iv line, .unset, .unset, .unset] [(.ref a1), (.int 0), (.ref ax)])) rfl rfl (hb hby d5_9)
  refine go_st (fun t k => st3 t k) ?_
  show Go _ _ _ _ (T3.setTop (mkF m 12 #[rv a1, iv key, iv line, .unset, .unset, .unset] [(.int 3), (.int 0), (.ref ax)]))
  refine go_st (fun t k => XS.iloadN X3.here hx rfl (hb hby d5_12) rfl k) ?_
  show Go _ _ _ _ (T3.setTop (mkF m 13 #[rv a1, iv key, iv line, .unset, .unset, .unset] [(.int key), (.int 3), (.int 0), (.ref ax)]))
  obtain ⟨_, _, ⟨T4, L4, kk4, nn4⟩, -, X4, ⟨Lc4, hQ4, lq4, yq4, zq4⟩, st4⟩ := Jvm.LawKit.callS X3 hx (y := (⟨"java/util/Arrays", "binarySearch", "([IIII)I"⟩ : MethodName)) hown (mvT hZ (w29 hw)) (mvT hZ (w30 hw)) (mvT hZ (w31 hw)) (mvT hZ (w32 hw)) (by decide) (backOf (W := 0) (rm_bs_031 l Z a0 hw [] ax kx key x0 x1 x2 h0 n0 (Nat.le_trans Z0 (Nat.le_refl _)) H5 s0 s1 hl hr) hZ (w32 hw) (w31 hw) (by decide) (by decide)) (g := (mkF m 13 #[rv a1, iv key, iv line, .unset, .unset, .unset] [(.int key), (.int 3), (.int 0), (.ref ax)])) rfl (by rw [hml]; rfl) (argsL := [(.ref ax), (.int 0), (.int 3), (.int key)]) (rest := []) (lenOf pd_1 rfl) rfl (by show 2 * 0 + _ ≤ _; exact Nat.le_of_eq rfl) (hb hby d5_13) (fun _ _ => ⟨rfl, e3, (by decide : 0 + 0 ≤ _), (by decide : 0 + 0 ≤ _)⟩)
  dsimp only [Pt.U, Pt.locs, Pt.cells, Pt.slots] at X4 lq4 yq4 zq4 st4 hQ4
  subst lq4 yq4 zq4
  obtain ⟨h4, e4⟩ : ∃ z, T4.heap = z := ⟨_, rfl⟩
  rw [e4] at hQ4
  obtain ⟨r_4, rfl, N4q, he4, hres_4⟩ := hQ4
  have N4 := Fr.app N0 N4q
  rw [he4] at e4
  refine go_st st4 ?_
  show Go _ _ _ _ (T4.setTop (mkF m 16 #[rv a1, iv key, iv line, .unset, .unset, .unset] [(.int r_4)]))
  rcases hres_4 with rfl | rfl
  · skip
    show Go _ _ _ _ (T4.setTop (mkF m 16 #[rv a1, iv key, iv line, .unset, .unset, .unset] [(.int 1)]))
    refine go_st (fun t k => XS.istoreN X4.here hx rfl (hb hby d5_16) rfl (l' := #[rv a1, iv key, iv line, iv 1, .unset, .unset]) rfl k) ?_
    show Go _ _ _ _ (T4.setTop (mkF m 17 #[rv a1, iv key, iv line, iv 1, .unset, .unset] []))
    refine go_st (fun t k => XS.iloadN X4.here hx rfl (hb hby d5_17) rfl k) ?_
    show Go _ _ _ _ (T4.setTop (mkF m 18 #[rv a1, iv key, iv line, iv 1, .unset, .unset] [(.int 1)]))
    refine go_st (fun t k => XS.ifNo X4.here hx rfl (hb hby d5_18) rfl ((if0 _ _).trans (flt ((by decide) : ¬ ((1 : Int32) < (0 : Int32)))).1) k) ?_
    show Go _ _ _ _ (T4.setTop (mkF m 21 #[rv a1, iv key, iv line, iv 1, .unset, .unset] []))
    refine go_st (fun t k => XS.iloadN X4.here hx rfl (hb hby d5_21) rfl k) ?_
    show Go _ _ _ _ (T4.setTop (mkF m 22 #[rv a1, iv key, iv line, iv 1, .unset, .unset] [(.int 1)]))
    refine go_st (fun t k => XS.goto X4.here hx rfl (pc0 := 22) (pc' := 29) rfl (hb hby d5_22) (by decide) (by decide) k) ?_
    show Go _ _ _ _ (T4.setTop (mkF m 29 #[rv a1, iv key, iv line, iv 1, .unset, .unset] [(.int 1)]))
    refine go_st (fun t k => XS.iconst X4.here hx rfl (hb hby d5_29) k) ?_
    show Go _ _ _ _ (T4.setTop (mkF m 30 #[rv a1, iv key, iv line, iv 1, .unset, .unset] [(.int 1), (.int 1)]))
    refine go_st (fun t k => XS.isub X4.here hx rfl (hb hby d5_30) rfl k) ?_
    rw [show ((1 : Int32) - (1 : Int32)) = (0 : Int32) from by decide]
    show Go _ _ _ _ (T4.setTop (mkF m 31 #[rv a1, iv key, iv line, iv 1, .unset, .unset] [(.int 0)]))
    refine go_st (fun t k => XS.istore X4.here hx rfl (hb hby d5_31) rfl (l' := #[rv a1, iv key, iv line, iv 1, iv 0, .unset]) rfl k) ?_
    show Go _ _ _ _ (T4.setTop (mkF m 33 #[rv a1, iv key, iv line, iv 1, iv 0, .unset] []))
    refine go_st (fun t k => XS.iloadN X4.here hx rfl (hb hby d5_33) rfl k) ?_
    show Go _ _ _ _ (T4.setTop (mkF m 34 #[rv a1, iv key, iv line, iv 1, iv 0, .unset] [(.int line)]))
    refine go_st (fun t k => XS.istore X4.here hx rfl (hb hby d5_34) rfl (l' := #[rv a1, iv key, iv line, iv 1, iv 0, iv line]) rfl k) ?_
    show Go _ _ _ _ (T4.setTop (mkF m 36 #[rv a1, iv key, iv line, iv 1, iv 0, iv line] []))
    refine go_st (fun t k => XS.iload X4.here hx rfl (hb hby d5_36) rfl k) ?_
    show Go _ _ _ _ (T4.setTop (mkF m 38 #[rv a1, iv key, iv line, iv 1, iv 0, iv line] [(.int 0)]))
    refine go_st (fun t k => XS.aloadN X4.here hx rfl (hb hby d5_38) rfl rfl k) ?_
    show Go _ _ _ _ (T4.setTop (mkF m 39 #[rv a1, iv key, iv line, iv 1, iv 0, iv line] [(.ref a1), (.int 0)]))
    obtain ⟨T5, X5, e5, st5⟩ := getF X4 hx hZ hown (host := "") (Or.inl (w27 hw)) Via.refl e4 H3 (g := (mkF m 39 #[rv a1, iv key, iv line, iv 1, iv 0, iv line] [(.ref a1), (.int 0)])) rfl rfl (hb hby d5_39)
    refine go_st (fun t k => st5 t k) ?_
    show Go _ _ _ _ (T5.setTop (mkF m 42 #[rv a1, iv key, iv line, iv 1, iv 0, iv line] [(.int 0), (.int 0)]))
    refine go_st (fun t k => XS.icmpNo X5.here hx rfl (hb hby d5_42) rfl (flt ((by decide) : ¬ ((0 : Int32) < (0 : Int32)))).1 k) ?_
    show Go _ _ _ _ (T5.setTop (mkF m 45 #[rv a1, iv key, iv line, iv 1, iv 0, iv line] []))
    refine go_st (fun t k => XS.aloadN X5.here hx rfl (hb hby d5_45) rfl rfl k) ?_
    show Go _ _ _ _ (T5.setTop (mkF m 46 #[rv a1, iv key, iv line, iv 1, iv 0, iv line] [(.ref a1)]))
    obtain ⟨T6, X6, e6, st6⟩ := getF X5 hx hZ hown (host := "") (Or.inl (w13 hw)) Via.refl e5 H2 (g := (mkF m 46 #[rv a1, iv key, iv line, iv 1, iv 0, iv line] [(.ref a1)])) rfl rfl (hb hby d5_46)
    refine go_st (fun t k => st6 t k) ?_
    show Go _ _ _ _ (T6.setTop (mkF m 49 #[rv a1, iv key, iv line, iv 1, iv 0, iv line] [(.ref al)]))
    refine go_st (fun t k => XS.iload X6.here hx rfl (hb hby d5_49) rfl k) ?_
    show Go _ _ _ _ (T6.setTop (mkF m 51 #[rv a1, iv key, iv line, iv 1, iv 0, iv line] [(.int 0), (.ref al)]))
    obtain ⟨zc7, zA7, zq7, zS7, zN7, zH7, zG7⟩ := id H6
    have hin7 : ¬ ((0 : Int32) < 0 ∨ zc7.slots.size ≤ ((0 : Int32)).toNatClampNeg) := inb_of zS7 ⟨by decide, by decide⟩
    have hat7 : zc7.slots[((0 : Int32)).toNatClampNeg]? = some (.int l0) := Has.at zH7 hin7 rfl
    refine go_st (fun t k => X6.iaload hx (j := (0 : Int32)) (v := (.int l0)) (by rw [e6]; exact zA7.1) (State.isArrayOf_alike hZ.alike zA7.2.1) zA7.2.2 hin7 hat7 (g := (mkF m 51 #[rv a1, iv key, iv line, iv 1, iv 0, iv line] [(.int 0), (.ref al)])) rfl rfl (hb hby d5_51) t k) ?_
    show Go _ _ _ _ (T6.setTop (mkF m 52 #[rv a1, iv key, iv line, iv 1, iv 0, iv line] [(.int l0)]))
    refine go_st (fun t k => XS.istore X6.here hx rfl (hb hby d5_52) rfl (l' := #[rv a1, iv key, iv line, iv 1, iv 0, iv l0]) rfl k) ?_
    show Go _ _ _ _ (T6.setTop (mkF m 54 #[rv a1, iv key, iv line, iv 1, iv 0, iv l0] []))
    refine go_st (fun t k => XS.aloadN X6.here hx rfl (hb hby d5_54) rfl rfl k) ?_
    show Go _ _ _ _ (T6.setTop (mkF m 55 #[rv a1, iv key, iv line, iv 1, iv 0, iv l0] [(.ref a1)]))
    refine go_st (fun t k => XS.iload X6.here hx rfl (hb hby d5_55) rfl k) ?_
    show Go _ _ _ _ (T6.setTop (mkF m 57 #[rv a1, iv key, iv line, iv 1, iv 0, iv l0] [(.int 0), (.ref a1)]))
    obtain ⟨T8, h8, X8, e8, W8, st8⟩ := putF X6 hx hZ hown (host := "") (Or.inl (w27 hw)) Via.refl e6 H3 H0 (Or.inl (w28 hw)) (w2 hw) (ty := .int) (by decide) rfl rfl (g := (mkF m 57 #[rv a1, iv key, iv line, iv 1, iv 0, iv l0] [(.int 0), (.ref a1)])) rfl rfl (hb hby d5_57)
    have N8 := Fr.snoc X8 N4 g_a1
    have f9 : Fld Z h8 a1 "com/example/nudge/nudge/tree/BlockEntries" "first" "I" (.int 0) := H3.same W8
    refine go_st (fun t k => st8 t k) ?_
    show Go _ _ _ _ (T8.setTop (mkF m 60 #[rv a1, iv key, iv line, iv 1, iv 0, iv l0] []))
    refine go_st (fun t k => XS.iload X8.here hx rfl (hb hby d5_60) rfl k) ?_
    show Go _ _ _ _ (T8.setTop (mkF m 62 #[rv a1, iv key, iv line, iv 1, iv 0, iv l0] [(.int l0)]))
    have f10 : Exa Z h8 a1 "com/example/nudge/nudge/tree/BlockEntries" := (H0.wr W8)
    have f11 : Fld Z h8 a1 "com/example/nudge/nudge/tree/BlockEntries" "indexes" "[I" (.ref ax) := (H1.other W8 (Or.inr (slot_ne (Or.inl (w12 hw)) (Or.inl (w28 hw)) (by decide) (t := (.array .int)) (t' := .int) (by decide) (by decide))))
    have f12 : Fld Z h8 a1 "com/example/nudge/nudge/tree/BlockEntries" "lines" "[I" (.ref al) := (H2.other W8 (Or.inr (slot_ne (Or.inl (w14 hw)) (Or.inl (w28 hw)) (by decide) (t := (.array .int)) (t' := .int) (by decide) (by decide))))
    have f13 : Fld Z h8 a1 "com/example/nudge/nudge/tree/BlockEntries" "count" "I" (.int 3) := (H4.other W8 (Or.inr (slot_ne (Or.inl (w21 hw)) (Or.inl (w28 hw)) (by decide) (t := .int) (t' := .int) (by decide) (by decide))))
    have f14 : Arv Z h8 ax kx .int (64 : Int32) [(.int x0), (.int x1), (.int x2)] (.int (0 : Int32)) := (H5.other W8 (Ne.symm ne_a1_ax))
    have f15 : Arv Z h8 al kl .int (64 : Int32) [(.int l0), (.int l1), (.int l2)] (.int (0 : Int32)) := (H6.other W8 (Ne.symm ne_a1_al))
    have ke16 : Keep h0 h8 [a1] := (Keep.wr (Keep.refl h0 [a1]) W8 (Or.inl (List.mem_of_getElem? (i := 0) rfl)))
    obtain ⟨fs, hr, hrun, hended, hW, hsame⟩ := X8.leave (v := some (.int l0)) (fun h => by rw [Bd.returns] at h; cases h)
    refine ⟨_, _, ?_, hrun, hended, _, _, rfl, ?_, ⟨_, rfl⟩, hW, hsame.mono (by decide) (by decide)⟩
    · exact retI X8 hx Bd.returns (hb hby d5_62) hr
    · show Q_lb_031 _ _ _ _ _ _ _ _ _ _ _ _ _ _ _ _ _ T8.heap _
      rw [e8]
      exact ⟨rfl, N8, ke16, f10, f11, f12, f9, f13, f14, f15⟩
  · skip
    show Go _ _ _ _ (T4.setTop (mkF m 16 #[rv a1, iv key, iv line, .unset, .unset, .unset] [(.int (-2))]))
    refine go_st (fun t k => XS.istoreN X4.here hx rfl (hb hby d5_16) rfl (l' := #[rv a1, iv key, iv line, iv (-2), .unset, .unset]) rfl k) ?_
    show Go _ _ _ _ (T4.setTop (mkF m 17 #[rv a1, iv key, iv line, iv (-2), .unset, .unset] []))
    refine go_st (fun t k => XS.iloadN X4.here hx rfl (hb hby d5_17) rfl k) ?_
    show Go _ _ _ _ (T4.setTop (mkF m 18 #[rv a1, iv key, iv line, iv (-2), .unset, .unset] [(.int (-2))]))
    refine go_st (fun t k => XS.ifYes X4.here hx rfl (pc0 := 18) (pc' := 25) rfl (hb hby d5_18) rfl ((if0 _ _).trans (tlt ((by decide) : (-2 : Int32) < (0 : Int32))).1) (by decide) (by decide) k) ?_
    show Go _ _ _ _ (T4.setTop (mkF m 25 #[rv a1, iv key, iv line, iv (-2), .unset, .unset] []))
    refine go_st (fun t k => XS.iloadN X4.here hx rfl (hb hby d5_25) rfl k) ?_
    show Go _ _ _ _ (T4.setTop (mkF m 26 #[rv a1, iv key, iv line, iv (-2), .unset, .unset] [(.int (-2))]))
    refine go_st (fun t k => XS.ineg X4.here hx rfl (hb hby d5_26) rfl k) ?_
    rw [show (-(-2 : Int32)) = (2 : Int32) from by decide]
    show Go _ _ _ _ (T4.setTop (mkF m 27 #[rv a1, iv key, iv line, iv (-2), .unset, .unset] [(.int 2)]))
    refine go_st (fun t k => XS.iconst X4.here hx rfl (hb hby d5_27) k) ?_
    show Go _ _ _ _ (T4.setTop (mkF m 28 #[rv a1, iv key, iv line, iv (-2), .unset, .unset] [(.int 1), (.int 2)]))
    refine go_st (fun t k => XS.isub X4.here hx rfl (hb hby d5_28) rfl k) ?_
    rw [show ((2 : Int32) - (1 : Int32)) = (1 : Int32) from by decide]
    show Go _ _ _ _ (T4.setTop (mkF m 29 #[rv a1, iv key, iv line, iv (-2), .unset, .unset] [(.int 1)]))
    refine go_st (fun t k => XS.iconst X4.here hx rfl (hb hby d5_29) k) ?_
    show Go _ _ _ _ (T4.setTop (mkF m 30 #[rv a1, iv key, iv line, iv (-2), .unset, .unset] [(.int 1), (.int 1)]))
    refine go_st (fun t k => XS.isub X4.here hx rfl (hb hby d5_30) rfl k) ?_
    rw [show ((1 : Int32) - (1 : Int32)) = (0 : Int32) from by decide]
    show Go _ _ _ _ (T4.setTop (mkF m 31 #[rv a1, iv key, iv line, iv (-2), .unset, .unset] [(.int 0)]))
    refine go_st (fun t k => XS.istore X4.here hx rfl (hb hby d5_31) rfl (l' := #[rv a1, iv key, iv line, iv (-2), iv 0, .unset]) rfl k) ?_
    show Go _ _ _ _ (T4.setTop (mkF m 33 #[rv a1, iv key, iv line, iv (-2), iv 0, .unset] []))
    refine go_st (fun t k => XS.iloadN X4.here hx rfl (hb hby d5_33) rfl k) ?_
    show Go _ _ _ _ (T4.setTop (mkF m 34 #[rv a1, iv key, iv line, iv (-2), iv 0, .unset] [(.int line)]))
    refine go_st (fun t k => XS.istore X4.here hx rfl (hb hby d5_34) rfl (l' := #[rv a1, iv key, iv line, iv (-2), iv 0, iv line]) rfl k) ?_
    show Go _ _ _ _ (T4.setTop (mkF m 36 #[rv a1, iv key, iv line, iv (-2), iv 0, iv line] []))
    refine go_st (fun t k => XS.iload X4.here hx rfl (hb hby d5_36) rfl k) ?_
    show Go _ _ _ _ (T4.setTop (mkF m 38 #[rv a1, iv key, iv line, iv (-2), iv 0, iv line] [(.int 0)]))
    refine go_st (fun t k => XS.aloadN X4.here hx rfl (hb hby d5_38) rfl rfl k) ?_
    show Go _ _ _ _ (T4.setTop (mkF m 39 #[rv a1, iv key, iv line, iv (-2), iv 0, iv line] [(.ref a1), (.int 0)]))
    obtain ⟨T17, X17, e17, st17⟩ := getF X4 hx hZ hown (host := "") (Or.inl (w27 hw)) Via.refl e4 H3 (g := (mkF m 39 #[rv a1, iv key, iv line, iv (-2), iv 0, iv line] [(.ref a1), (.int 0)])) rfl rfl (hb hby d5_39)
    refine go_st (fun t k => st17 t k) ?_
    show Go _ _ _ _ (T17.setTop (mkF m 42 #[rv a1, iv key, iv line, iv (-2), iv 0, iv line] [(.int 0), (.int 0)]))
    refine go_st (fun t k => XS.icmpNo X17.here hx rfl (hb hby d5_42) rfl (flt ((by decide) : ¬ ((0 : Int32) < (0 : Int32)))).1 k) ?_
    show Go _ _ _ _ (T17.setTop (mkF m 45 #[rv a1, iv key, iv line, iv (-2), iv 0, iv line] []))
    refine go_st (fun t k => XS.aloadN X17.here hx rfl (hb hby d5_45) rfl rfl k) ?_
    show Go _ _ _ _ (T17.setTop (mkF m 46 #[rv a1, iv key, iv line, iv (-2), iv 0, iv line] [(.ref a1)]))
    obtain ⟨T18, X18, e18, st18⟩ := getF X17 hx hZ hown (host := "") (Or.inl (w13 hw)) Via.refl e17 H2 (g := (mkF m 46 #[rv a1, iv key, iv line, iv (-2), iv 0, iv line] [(.ref a1)])) rfl rfl (hb hby d5_46)
    refine go_st (fun t k => st18 t k) ?_
    show Go _ _ _ _ (T18.setTop (mkF m 49 #[rv a1, iv key, iv line, iv (-2), iv 0, iv line] [(.ref al)]))
    refine go_st (fun t k => XS.iload X18.here hx rfl (hb hby d5_49) rfl k) ?_
    show Go _ _ _ _ (T18.setTop (mkF m 51 #[rv a1, iv key, iv line, iv (-2), iv 0, iv line] [(.int 0), (.ref al)]))
    obtain ⟨zc19, zA19, zq19, zS19, zN19, zH19, zG19⟩ := id H6
    have hin19 : ¬ ((0 : Int32) < 0 ∨ zc19.slots.size ≤ ((0 : Int32)).toNatClampNeg) := inb_of zS19 ⟨by decide, by decide⟩
    have hat19 : zc19.slots[((0 : Int32)).toNatClampNeg]? = some (.int l0) := Has.at zH19 hin19 rfl
    refine go_st (fun t k => X18.iaload hx (j := (0 : Int32)) (v := (.int l0)) (by rw [e18]; exact zA19.1) (State.isArrayOf_alike hZ.alike zA19.2.1) zA19.2.2 hin19 hat19 (g := (mkF m 51 #[rv a1, iv key, iv line, iv (-2), iv 0, iv line] [(.int 0), (.ref al)])) rfl rfl (hb hby d5_51) t k) ?_
    show Go _ _ _ _ (T18.setTop (mkF m 52 #[rv a1, iv key, iv line, iv (-2), iv 0, iv line] [(.int l0)]))
    refine go_st (fun t k => XS.istore X18.here hx rfl (hb hby d5_52) rfl (l' := #[rv a1, iv key, iv line, iv (-2), iv 0, iv l0]) rfl k) ?_
    show Go _ _ _ _ (T18.setTop (mkF m 54 #[rv a1, iv key, iv line, iv (-2), iv 0, iv l0] []))
    refine go_st (fun t k => XS.aloadN X18.here hx rfl (hb hby d5_54) rfl rfl k) ?_
    show Go _ _ _ _ (T18.setTop (mkF m 55 #[rv a1, iv key, iv line, iv (-2), iv 0, iv l0] [(.ref a1)]))
    refine go_st (fun t k => XS.iload X18.here hx rfl (hb hby d5_55) rfl k) ?_
    show Go _ _ _ _ (T18.setTop (mkF m 57 #[rv a1, iv key, iv line, iv (-2), iv 0, iv l0] [(.int 0), (.ref a1)]))
    obtain ⟨T20, h20, X20, e20, W20, st20⟩ := putF X18 hx hZ hown (host := "") (Or.inl (w27 hw)) Via.refl e18 H3 H0 (Or.inl (w28 hw)) (w2 hw) (ty := .int) (by decide) rfl rfl (g := (mkF m 57 #[rv a1, iv key, iv line, iv (-2), iv 0, iv l0] [(.int 0), (.ref a1)])) rfl rfl (hb hby d5_57)
    have N20 := Fr.snoc X20 N4 g_a1
    have f21 : Fld Z h20 a1 "com/example/nudge/nudge/tree/BlockEntries" "first" "I" (.int 0) := H3.same W20
    refine go_st (fun t k => st20 t k) ?_
    show Go _ _ _ _ (T20.setTop (mkF m 60 #[rv a1, iv key, iv line, iv (-2), iv 0, iv l0] []))
    refine go_st (fun t k => XS.iload X20.here hx rfl (hb hby d5_60) rfl k) ?_
    show Go _ _ _ _ (T20.setTop (mkF m 62 #[rv a1, iv key, iv line, iv (-2), iv 0, iv l0] [(.int l0)]))
    have f22 : Exa Z h20 a1 "com/example/nudge/nudge/tree/BlockEntries" := (H0.wr W20)
    have f23 : Fld Z h20 a1 "com/example/nudge/nudge/tree/BlockEntries" "indexes" "[I" (.ref ax) := (H1.other W20 (Or.inr (slot_ne (Or.inl (w12 hw)) (Or.inl (w28 hw)) (by decide) (t := (.array .int)) (t' := .int) (by decide) (by decide))))
    have f24 : Fld Z h20 a1 "com/example/nudge/nudge/tree/BlockEntries" "lines" "[I" (.ref al) := (H2.other W20 (Or.inr (slot_ne (Or.inl (w14 hw)) (Or.inl (w28 hw)) (by decide) (t := (.array .int)) (t' := .int) (by decide) (by decide))))
    have f25 : Fld Z h20 a1 "com/example/nudge/nudge/tree/BlockEntries" "count" "I" (.int 3) := (H4.other W20 (Or.inr (slot_ne (Or.inl (w21 hw)) (Or.inl (w28 hw)) (by decide) (t := .int) (t' := .int) (by decide) (by decide))))
    have f26 : Arv Z h20 ax kx .int (64 : Int32) [(.int x0), (.int x1), (.int x2)] (.int (0 : Int32)) := (H5.other W20 (Ne.symm ne_a1_ax))
    have f27 : Arv Z h20 al kl .int (64 : Int32) [(.int l0), (.int l1), (.int l2)] (.int (0 : Int32)) := (H6.other W20 (Ne.symm ne_a1_al))
    have ke28 : Keep h0 h20 [a1] := (Keep.wr (Keep.refl h0 [a1]) W20 (Or.inl (List.mem_of_getElem? (i := 0) rfl)))
    obtain ⟨fs, hr, hrun, hended, hW, hsame⟩ := X20.leave (v := some (.int l0)) (fun h => by rw [Bd.returns] at h; cases h)
    refine ⟨_, _, ?_, hrun, hended, _, _, rfl, ?_, ⟨_, rfl⟩, hW, hsame.mono (by decide) (by decide)⟩
    · exact retI X20 hx Bd.returns (hb hby d5_62) hr
    · show Q_lb_031 _ _ _ _ _ _ _ _ _ _ _ _ _ _ _ _ _ T20.heap _
      rw [e20]
      exact ⟨rfl, N20, ke28, f22, f23, f24, f21, f25, f26, f27⟩
def Q_bs0_032 (Z : State) (ax : Addr) (kx : ClassId) (key : Int32) (x0 : Int32) (x1 : Int32) (x2 : Int32) (h0 : Heap) (n0 : Nat) (vR : Option Value) (h : Heap) (L : List Loc) : Prop := ∃ (r : Int32), vR = some (.int r) ∧ Fr n0 L ∧ h = h0 ∧ (r = (2 : Int32) ∨ r = (-3 : Int32))
theorem ef_bs0_032 (m : MethodId) (x0 : Addr) (x1 : Int32) (x2 : Int32) (x3 : Int32) : entryFrame m #[(.ref x0), (.int x1), (.int x2), (.int x3)] 8 = mkF m 0 #[.val (.ref x0), .val (.int x1), .val (.int x2), .val (.int x3), .unset, .unset, .unset, .unset] [] := by first | (simp [entryFrame, mkF, argsToLocals, Value.category]; done) | rfl
set_option maxRecDepth 65536 in
set_option maxHeartbeats 40000000 in
theorem rm_bs0_032 (l : Launch) (Z : State) (a0 : Array Value) (hw : ∀ d ∈ tables_1, d.before a0 Z = true) (ws : List Jvm.Cond) (ax : Addr) (kx : ClassId) (key : Int32) (x0 : Int32) (x1 : Int32) (x2 : Int32) (h0 : Heap) (n0 : Nat) (Z0 : n0 ≤ h0.size) (H0 : Arv Z h0 ax kx .int (64 : Int32) [(.int x0), (.int x1), (.int x2)] (.int (0 : Int32))) (s0 : x0 < x1) (s1 : x1 < x2) (hl : x1 < key) (hr : ¬ (x2 < key)) :
    MetFree l (⟨"java/util/Arrays", "binarySearch0", "([IIII)I"⟩ : MethodName) (head1 (Jvm.Cond.code (⟨"java/util/Arrays", "binarySearch0", "([IIII)I"⟩ : MethodName) jdk_65_method_59_code 8 (some .int) :: ws) ({ frames := 0, cells := 0, slots := 0, locals := 0 } : Room)) (fun a U => a = #[(.ref ax), (.int 0), (.int 3), (.int key)] ∧ Z.Warmed39 U.vm ∧ U.heap = h0) (fun _ _ _ _ _ => True) (fun _ U o U' => ∃ v L, o = .returned v ∧ Q_bs0_032 Z ax kx key x0 x1 x2 h0 n0 v U'.heap L ∧ FrameEnd U o U' L ({ frames := 0, cells := 0, slots := 0, locals := 0 } : Room).cells ({ frames := 0, cells := 0, slots := 0, locals := 0 } : Room).slots) := by
  refine MetFree.of_bodySF (plainFor_of_name pn_java_util_Arrays) hisR ?_
  intro p e s m args below meth c s₁ Bd hml0 hP hK
  obtain ⟨rfl, hZ, hh⟩ := hP
  have hx := Bd.exec
  have hby := Bd.bytes
  have hml : c.maxLocals = 8 := hml0
  have hown : s.vm.findClass "java/util/Arrays" = some m.cls := findClass_of_methodNamed Bd.named
  have hnm := (name_of_methodNamed Bd.named Bd.method).1
  have X0 : Stand p l e ({ frames := 0, cells := 0, slots := 0, locals := 0 } : Room) s m #[(.ref ax), (.int 0), (.int 3), (.int key)] below meth c s₁ [] 0 0 := Stand.of_body Bd
  have e0 : s₁.heap = h0 := by rw [← hh, Bd.state]; rfl
  have N0 := Fr.nil n0
  refine go_st (fun t k => castTop (ef_bs0_032 m ax (0 : Int32) (3 : Int32) key) k) ?_
  show Go _ _ _ _ (s₁.setTop (mkF m 0 #[rv ax, iv 0, iv 3, iv key, .unset, .unset, .unset, .unset] []))
  refine go_st (fun t k => XS.iloadN X0.here hx rfl (hb hby d3_0) rfl k) ?_
  show Go _ _ _ _ (s₁.setTop (mkF m 1 #[rv ax, iv 0, iv 3, iv key, .unset, .unset, .unset, .unset] [(.int 0)]))
  refine go_st (fun t k => XS.istore X0.here hx rfl (hb hby d3_1) rfl (l' := #[rv ax, iv 0, iv 3, iv key, iv 0, .unset, .unset, .unset]) rfl k) ?_
  show Go _ _ _ _ (s₁.setTop (mkF m 3 #[rv ax, iv 0, iv 3, iv key, iv 0, .unset, .unset, .unset] []))
  refine go_st (fun t k => XS.iloadN X0.here hx rfl (hb hby d3_3) rfl k) ?_
  show Go _ _ _ _ (s₁.setTop (mkF m 4 #[rv ax, iv 0, iv 3, iv key, iv 0, .unset, .unset, .unset] [(.int 3)]))
  refine go_st (fun t k => XS.iconst X0.here hx rfl (hb hby d3_4) k) ?_
  show Go _ _ _ _ (s₁.setTop (mkF m 5 #[rv ax, iv 0, iv 3, iv key, iv 0, .unset, .unset, .unset] [(.int 1), (.int 3)]))
  refine go_st (fun t k => XS.isub X0.here hx rfl (hb hby d3_5) rfl k) ?_
  rw [show ((3 : Int32) - (1 : Int32)) = (2 : Int32) from by decide]
  show Go _ _ _ _ (s₁.setTop (mkF m 6 #[rv ax, iv 0, iv 3, iv key, iv 0, .unset, .unset, .unset] [(.int 2)]))
  refine go_st (fun t k => XS.istore X0.here hx rfl (hb hby d3_6) rfl (l' := #[rv ax, iv 0, iv 3, iv key, iv 0, iv 2, .unset, .unset]) rfl k) ?_
  show Go _ _ _ _ (s₁.setTop (mkF m 8 #[rv ax, iv 0, iv 3, iv key, iv 0, iv 2, .unset, .unset] []))
  refine go_st (fun t k => XS.iload X0.here hx rfl (hb hby d3_8) rfl k) ?_
  show Go _ _ _ _ (s₁.setTop (mkF m 10 #[rv ax, iv 0, iv 3, iv key, iv 0, iv 2, .unset, .unset] [(.int 0)]))
  refine go_st (fun t k => XS.iload X0.here hx rfl (hb hby d3_10) rfl k) ?_
  show Go _ _ _ _ (s₁.setTop (mkF m 12 #[rv ax, iv 0, iv 3, iv key, iv 0, iv 2, .unset, .unset] [(.int 2), (.int 0)]))
  refine go_st (fun t k => XS.icmpNo X0.here hx rfl (hb hby d3_12) rfl (flt ((by decide) : ¬ ((2 : Int32) < (0 : Int32)))).2.2.1 k) ?_
  show Go _ _ _ _ (s₁.setTop (mkF m 15 #[rv ax, iv 0, iv 3, iv key, iv 0, iv 2, .unset, .unset] []))
  refine go_st (fun t k => XS.iload X0.here hx rfl (hb hby d3_15) rfl k) ?_
  show Go _ _ _ _ (s₁.setTop (mkF m 17 #[rv ax, iv 0, iv 3, iv key, iv 0, iv 2, .unset, .unset] [(.int 0)]))
  refine go_st (fun t k => XS.iload X0.here hx rfl (hb hby d3_17) rfl k) ?_
  show Go _ _ _ _ (s₁.setTop (mkF m 19 #[rv ax, iv 0, iv 3, iv key, iv 0, iv 2, .unset, .unset] [(.int 2), (.int 0)]))
  refine go_st (fun t k => XS.iadd X0.here hx rfl (hb hby d3_19) rfl k) ?_
  rw [show ((0 : Int32) + (2 : Int32)) = (2 : Int32) from by decide]
  show Go _ _ _ _ (s₁.setTop (mkF m 20 #[rv ax, iv 0, iv 3, iv key, iv 0, iv 2, .unset, .unset] [(.int 2)]))
  refine go_st (fun t k => XS.iconst X0.here hx rfl (hb hby d3_20) k) ?_
  show Go _ _ _ _ (s₁.setTop (mkF m 21 #[rv ax, iv 0, iv 3, iv key, iv 0, iv 2, .unset, .unset] [(.int 1), (.int 2)]))
  refine go_st (fun t k => XS.iushr X0.here hx rfl (hb hby d3_21) rfl k) ?_
  rw [show (((2 : Int32)).toUInt32 >>> ((1 : Int32) &&& 31).toUInt32).toInt32 = (1 : Int32) from by decide]
  show Go _ _ _ _ (s₁.setTop (mkF m 22 #[rv ax, iv 0, iv 3, iv key, iv 0, iv 2, .unset, .unset] [(.int 1)]))
  refine go_st (fun t k => XS.istore X0.here hx rfl (hb hby d3_22) rfl (l' := #[rv ax, iv 0, iv 3, iv key, iv 0, iv 2, iv 1, .unset]) rfl k) ?_
  show Go _ _ _ _ (s₁.setTop (mkF m 24 #[rv ax, iv 0, iv 3, iv key, iv 0, iv 2, iv 1, .unset] []))
  refine go_st (fun t k => XS.aloadN X0.here hx rfl (hb hby d3_24) rfl rfl k) ?_
  show Go _ _ _ _ (s₁.setTop (mkF m 25 #[rv ax, iv 0, iv 3, iv key, iv 0, iv 2, iv 1, .unset] [(.ref ax)]))
  refine go_st (fun t k => XS.iload X0.here hx rfl (hb hby d3_25) rfl k) ?_
  show Go _ _ _ _ (s₁.setTop (mkF m 27 #[rv ax, iv 0, iv 3, iv key, iv 0, iv 2, iv 1, .unset] [(.int 1), (.ref ax)]))
  obtain ⟨zc1, zA1, zq1, zS1, zN1, zH1, zG1⟩ := id H0
  have hin1 : ¬ ((1 : Int32) < 0 ∨ zc1.slots.size ≤ ((1 : Int32)).toNatClampNeg) := inb_of zS1 ⟨by decide, by decide⟩
  have hat1 : zc1.slots[((1 : Int32)).toNatClampNeg]? = some (.int x1) := Has.at zH1 hin1 rfl
  refine go_st (fun t k => X0.iaload hx (j := (1 : Int32)) (v := (.int x1)) (by rw [e0]; exact zA1.1) (State.isArrayOf_alike hZ.alike zA1.2.1) zA1.2.2 hin1 hat1 (g := (mkF m 27 #[rv ax, iv 0, iv 3, iv key, iv 0, iv 2, iv 1, .unset] [(.int 1), (.ref ax)])) rfl rfl (hb hby d3_27) t k) ?_
  show Go _ _ _ _ (s₁.setTop (mkF m 28 #[rv ax, iv 0, iv 3, iv key, iv 0, iv 2, iv 1, .unset] [(.int x1)]))
  refine go_st (fun t k => XS.istore X0.here hx rfl (hb hby d3_28) rfl (l' := #[rv ax, iv 0, iv 3, iv key, iv 0, iv 2, iv 1, iv x1]) rfl k) ?_
  show Go _ _ _ _ (s₁.setTop (mkF m 30 #[rv ax, iv 0, iv 3, iv key, iv 0, iv 2, iv 1, iv x1] []))
  refine go_st (fun t k => XS.iload X0.here hx rfl (hb hby d3_30) rfl k) ?_
  show Go _ _ _ _ (s₁.setTop (mkF m 32 #[rv ax, iv 0, iv 3, iv key, iv 0, iv 2, iv 1, iv x1] [(.int x1)]))
  refine go_st (fun t k => XS.iloadN X0.here hx rfl (hb hby d3_32) rfl k) ?_
  show Go _ _ _ _ (s₁.setTop (mkF m 33 #[rv ax, iv 0, iv 3, iv key, iv 0, iv 2, iv 1, iv x1] [(.int key), (.int x1)]))
  refine go_st (fun t k => XS.icmpNo X0.here hx rfl (hb hby d3_33) rfl (tlt (hl : x1 < key)).2.1 k) ?_
  show Go _ _ _ _ (s₁.setTop (mkF m 36 #[rv ax, iv 0, iv 3, iv key, iv 0, iv 2, iv 1, iv x1] []))
  refine go_st (fun t k => XS.iload X0.here hx rfl (hb hby d3_36) rfl k) ?_
  show Go _ _ _ _ (s₁.setTop (mkF m 38 #[rv ax, iv 0, iv 3, iv key, iv 0, iv 2, iv 1, iv x1] [(.int 1)]))
  refine go_st (fun t k => XS.iconst X0.here hx rfl (hb hby d3_38) k) ?_
  show Go _ _ _ _ (s₁.setTop (mkF m 39 #[rv ax, iv 0, iv 3, iv key, iv 0, iv 2, iv 1, iv x1] [(.int 1), (.int 1)]))
  refine go_st (fun t k => XS.iadd X0.here hx rfl (hb hby d3_39) rfl k) ?_
  rw [show ((1 : Int32) + (1 : Int32)) = (2 : Int32) from by decide]
  show Go _ _ _ _ (s₁.setTop (mkF m 40 #[rv ax, iv 0, iv 3, iv key, iv 0, iv 2, iv 1, iv x1] [(.int 2)]))
  refine go_st (fun t k => XS.istore X0.here hx rfl (hb hby d3_40) rfl (l' := #[rv ax, iv 0, iv 3, iv key, iv 2, iv 2, iv 1, iv x1]) rfl k) ?_
  show Go _ _ _ _ (s₁.setTop (mkF m 42 #[rv ax, iv 0, iv 3, iv key, iv 2, iv 2, iv 1, iv x1] []))
  refine go_st (fun t k => XS.goto X0.here hx rfl (pc0 := 42) (pc' := 63) rfl (hb hby d3_42) (by decide) (by decide) k) ?_
  show Go _ _ _ _ (s₁.setTop (mkF m 63 #[rv ax, iv 0, iv 3, iv key, iv 2, iv 2, iv 1, iv x1] []))
  refine go_st (fun t k => XS.goto X0.here hx rfl (pc0 := 63) (pc' := 8) rfl (hb hby d3_63) (by decide) (by decide) k) ?_
  show Go _ _ _ _ (s₁.setTop (mkF m 8 #[rv ax, iv 0, iv 3, iv key, iv 2, iv 2, iv 1, iv x1] []))
  refine go_st (fun t k => XS.iload X0.here hx rfl (hb hby d3_8) rfl k) ?_
  show Go _ _ _ _ (s₁.setTop (mkF m 10 #[rv ax, iv 0, iv 3, iv key, iv 2, iv 2, iv 1, iv x1] [(.int 2)]))
  refine go_st (fun t k => XS.iload X0.here hx rfl (hb hby d3_10) rfl k) ?_
  show Go _ _ _ _ (s₁.setTop (mkF m 12 #[rv ax, iv 0, iv 3, iv key, iv 2, iv 2, iv 1, iv x1] [(.int 2), (.int 2)]))
  refine go_st (fun t k => XS.icmpNo X0.here hx rfl (hb hby d3_12) rfl (flt ((by decide) : ¬ ((2 : Int32) < (2 : Int32)))).2.2.1 k) ?_
  show Go _ _ _ _ (s₁.setTop (mkF m 15 #[rv ax, iv 0, iv 3, iv key, iv 2, iv 2, iv 1, iv x1] []))
  refine go_st (fun t k => XS.iload X0.here hx rfl (hb hby d3_15) rfl k) ?_
  show Go _ _ _ _ (s₁.setTop (mkF m 17 #[rv ax, iv 0, iv 3, iv key, iv 2, iv 2, iv 1, iv x1] [(.int 2)]))
  refine go_st (fun t k => XS.iload X0.here hx rfl (hb hby d3_17) rfl k) ?_
  show Go _ _ _ _ (s₁.setTop (mkF m 19 #[rv ax, iv 0, iv 3, iv key, iv 2, iv 2, iv 1, iv x1] [(.int 2), (.int 2)]))
  refine go_st (fun t k => XS.iadd X0.here hx rfl (hb hby d3_19) rfl k) ?_
  rw [show ((2 : Int32) + (2 : Int32)) = (4 : Int32) from by decide]
  show Go _ _ _ _ (s₁.setTop (mkF m 20 #[rv ax, iv 0, iv 3, iv key, iv 2, iv 2, iv 1, iv x1] [(.int 4)]))
  refine go_st (fun t k => XS.iconst X0.here hx rfl (hb hby d3_20) k) ?_
  show Go _ _ _ _ (s₁.setTop (mkF m 21 #[rv ax, iv 0, iv 3, iv key, iv 2, iv 2, iv 1, iv x1] [(.int 1), (.int 4)]))
  refine go_st (fun t k => XS.iushr X0.here hx rfl (hb hby d3_21) rfl k) ?_
  rw [show (((4 : Int32)).toUInt32 >>> ((1 : Int32) &&& 31).toUInt32).toInt32 = (2 : Int32) from by decide]
  show Go _ _ _ _ (s₁.setTop (mkF m 22 #[rv ax, iv 0, iv 3, iv key, iv 2, iv 2, iv 1, iv x1] [(.int 2)]))
  refine go_st (fun t k => XS.istore X0.here hx rfl (hb hby d3_22) rfl (l' := #[rv ax, iv 0, iv 3, iv key, iv 2, iv 2, iv 2, iv x1]) rfl k) ?_
  show Go _ _ _ _ (s₁.setTop (mkF m 24 #[rv ax, iv 0, iv 3, iv key, iv 2, iv 2, iv 2, iv x1] []))
  refine go_st (fun t k => XS.aloadN X0.here hx rfl (hb hby d3_24) rfl rfl k) ?_
  show Go _ _ _ _ (s₁.setTop (mkF m 25 #[rv ax, iv 0, iv 3, iv key, iv 2, iv 2, iv 2, iv x1] [(.ref ax)]))
  refine go_st (fun t k => XS.iload X0.here hx rfl (hb hby d3_25) rfl k) ?_
  show Go _ _ _ _ (s₁.setTop (mkF m 27 #[rv ax, iv 0, iv 3, iv key, iv 2, iv 2, iv 2, iv x1] [(.int 2), (.ref ax)]))
  obtain ⟨zc2, zA2, zq2, zS2, zN2, zH2, zG2⟩ := id H0
  have hin2 : ¬ ((2 : Int32) < 0 ∨ zc2.slots.size ≤ ((2 : Int32)).toNatClampNeg) := inb_of zS2 ⟨by decide, by decide⟩
  have hat2 : zc2.slots[((2 : Int32)).toNatClampNeg]? = some (.int x2) := Has.at zH2 hin2 rfl
  refine go_st (fun t k => X0.iaload hx (j := (2 : Int32)) (v := (.int x2)) (by rw [e0]; exact zA2.1) (State.isArrayOf_alike hZ.alike zA2.2.1) zA2.2.2 hin2 hat2 (g := (mkF m 27 #[rv ax, iv 0, iv 3, iv key, iv 2, iv 2, iv 2, iv x1] [(.int 2), (.ref ax)])) rfl rfl (hb hby d3_27) t k) ?_
  show Go _ _ _ _ (s₁.setTop (mkF m 28 #[rv ax, iv 0, iv 3, iv key, iv 2, iv 2, iv 2, iv x1] [(.int x2)]))
  refine go_st (fun t k => XS.istore X0.here hx rfl (hb hby d3_28) rfl (l' := #[rv ax, iv 0, iv 3, iv key, iv 2, iv 2, iv 2, iv x2]) rfl k) ?_
  show Go _ _ _ _ (s₁.setTop (mkF m 30 #[rv ax, iv 0, iv 3, iv key, iv 2, iv 2, iv 2, iv x2] []))
  refine go_st (fun t k => XS.iload X0.here hx rfl (hb hby d3_30) rfl k) ?_
  show Go _ _ _ _ (s₁.setTop (mkF m 32 #[rv ax, iv 0, iv 3, iv key, iv 2, iv 2, iv 2, iv x2] [(.int x2)]))
  refine go_st (fun t k => XS.iloadN X0.here hx rfl (hb hby d3_32) rfl k) ?_
  show Go _ _ _ _ (s₁.setTop (mkF m 33 #[rv ax, iv 0, iv 3, iv key, iv 2, iv 2, iv 2, iv x2] [(.int key), (.int x2)]))
  refine go_st (fun t k => XS.icmpYes X0.here hx rfl (pc0 := 33) (pc' := 45) rfl (hb hby d3_33) rfl (flt (hr : ¬ (x2 < key))).2.1 (by decide) (by decide) k) ?_
  show Go _ _ _ _ (s₁.setTop (mkF m 45 #[rv ax, iv 0, iv 3, iv key, iv 2, iv 2, iv 2, iv x2] []))
  refine go_st (fun t k => XS.iload X0.here hx rfl (hb hby d3_45) rfl k) ?_
  show Go _ _ _ _ (s₁.setTop (mkF m 47 #[rv ax, iv 0, iv 3, iv key, iv 2, iv 2, iv 2, iv x2] [(.int x2)]))
  refine go_st (fun t k => XS.iloadN X0.here hx rfl (hb hby d3_47) rfl k) ?_
  show Go _ _ _ _ (s₁.setTop (mkF m 48 #[rv ax, iv 0, iv 3, iv key, iv 2, iv 2, iv 2, iv x2] [(.int key), (.int x2)]))
  by_cases hc3 : key < x2
  · skip
    refine go_st (fun t k => XS.icmpNo X0.here hx rfl (hb hby d3_48) rfl (tlt (hc3 : key < x2)).2.2.2 k) ?_
    show Go _ _ _ _ (s₁.setTop (mkF m 51 #[rv ax, iv 0, iv 3, iv key, iv 2, iv 2, iv 2, iv x2] []))
    refine go_st (fun t k => XS.iload X0.here hx rfl (hb hby d3_51) rfl k) ?_
    show Go _ _ _ _ (s₁.setTop (mkF m 53 #[rv ax, iv 0, iv 3, iv key, iv 2, iv 2, iv 2, iv x2] [(.int 2)]))
    refine go_st (fun t k => XS.iconst X0.here hx rfl (hb hby d3_53) k) ?_
    show Go _ _ _ _ (s₁.setTop (mkF m 54 #[rv ax, iv 0, iv 3, iv key, iv 2, iv 2, iv 2, iv x2] [(.int 1), (.int 2)]))
    refine go_st (fun t k => XS.isub X0.here hx rfl (hb hby d3_54) rfl k) ?_
    rw [show ((2 : Int32) - (1 : Int32)) = (1 : Int32) from by decide]
    show Go _ _ _ _ (s₁.setTop (mkF m 55 #[rv ax, iv 0, iv 3, iv key, iv 2, iv 2, iv 2, iv x2] [(.int 1)]))
    refine go_st (fun t k => XS.istore X0.here hx rfl (hb hby d3_55) rfl (l' := #[rv ax, iv 0, iv 3, iv key, iv 2, iv 1, iv 2, iv x2]) rfl k) ?_
    show Go _ _ _ _ (s₁.setTop (mkF m 57 #[rv ax, iv 0, iv 3, iv key, iv 2, iv 1, iv 2, iv x2] []))
    refine go_st (fun t k => XS.goto X0.here hx rfl (pc0 := 57) (pc' := 63) rfl (hb hby d3_57) (by decide) (by decide) k) ?_
    show Go _ _ _ _ (s₁.setTop (mkF m 63 #[rv ax, iv 0, iv 3, iv key, iv 2, iv 1, iv 2, iv x2] []))
    refine go_st (fun t k => XS.goto X0.here hx rfl (pc0 := 63) (pc' := 8) rfl (hb hby d3_63) (by decide) (by decide) k) ?_
    show Go _ _ _ _ (s₁.setTop (mkF m 8 #[rv ax, iv 0, iv 3, iv key, iv 2, iv 1, iv 2, iv x2] []))
    refine go_st (fun t k => XS.iload X0.here hx rfl (hb hby d3_8) rfl k) ?_
    show Go _ _ _ _ (s₁.setTop (mkF m 10 #[rv ax, iv 0, iv 3, iv key, iv 2, iv 1, iv 2, iv x2] [(.int 2)]))
    refine go_st (fun t k => XS.iload X0.here hx rfl (hb hby d3_10) rfl k) ?_
    show Go _ _ _ _ (s₁.setTop (mkF m 12 #[rv ax, iv 0, iv 3, iv key, iv 2, iv 1, iv 2, iv x2] [(.int 1), (.int 2)]))
    refine go_st (fun t k => XS.icmpYes X0.here hx rfl (pc0 := 12) (pc' := 66) rfl (hb hby d3_12) rfl (tlt ((by decide) : (1 : Int32) < (2 : Int32))).2.2.1 (by decide) (by decide) k) ?_
    show Go _ _ _ _ (s₁.setTop (mkF m 66 #[rv ax, iv 0, iv 3, iv key, iv 2, iv 1, iv 2, iv x2] []))
    refine go_st (fun t k => XS.iload X0.here hx rfl (hb hby d3_66) rfl k) ?_
    show Go _ _ _ _ (s₁.setTop (mkF m 68 #[rv ax, iv 0, iv 3, iv key, iv 2, iv 1, iv 2, iv x2] [(.int 2)]))
    refine go_st (fun t k => XS.iconst X0.here hx rfl (hb hby d3_68) k) ?_
    show Go _ _ _ _ (s₁.setTop (mkF m 69 #[rv ax, iv 0, iv 3, iv key, iv 2, iv 1, iv 2, iv x2] [(.int 1), (.int 2)]))
    refine go_st (fun t k => XS.iadd X0.here hx rfl (hb hby d3_69) rfl k) ?_
    rw [show ((2 : Int32) + (1 : Int32)) = (3 : Int32) from by decide]
    show Go _ _ _ _ (s₁.setTop (mkF m 70 #[rv ax, iv 0, iv 3, iv key, iv 2, iv 1, iv 2, iv x2] [(.int 3)]))
    refine go_st (fun t k => XS.ineg X0.here hx rfl (hb hby d3_70) rfl k) ?_
    rw [show (-(3 : Int32)) = (-3 : Int32) from by decide]
    show Go _ _ _ _ (s₁.setTop (mkF m 71 #[rv ax, iv 0, iv 3, iv key, iv 2, iv 1, iv 2, iv x2] [(.int (-3))]))
    obtain ⟨fs, hr, hrun, hended, hW, hsame⟩ := X0.leave (v := some (.int (-3))) (fun h => by rw [Bd.returns] at h; cases h)
    refine ⟨_, _, ?_, hrun, hended, _, _, rfl, ?_, ⟨_, rfl⟩, hW, hsame.mono (by decide) (by decide)⟩
    · exact retI X0 hx Bd.returns (hb hby d3_71) hr
    · show Q_bs0_032 _ _ _ _ _ _ _ _ _ _ s₁.heap _
      rw [e0]
      exact ⟨(-3 : Int32), rfl, N0, rfl, (Or.inr rfl)⟩
  · skip
    refine go_st (fun t k => XS.icmpYes X0.here hx rfl (pc0 := 48) (pc' := 60) rfl (hb hby d3_48) rfl (flt (hc3 : ¬ (key < x2))).2.2.2 (by decide) (by decide) k) ?_
    show Go _ _ _ _ (s₁.setTop (mkF m 60 #[rv ax, iv 0, iv 3, iv key, iv 2, iv 2, iv 2, iv x2] []))
    refine go_st (fun t k => XS.iload X0.here hx rfl (hb hby d3_60) rfl k) ?_
    show Go _ _ _ _ (s₁.setTop (mkF m 62 #[rv ax, iv 0, iv 3, iv key, iv 2, iv 2, iv 2, iv x2] [(.int 2)]))
    obtain ⟨fs, hr, hrun, hended, hW, hsame⟩ := X0.leave (v := some (.int 2)) (fun h => by rw [Bd.returns] at h; cases h)
    refine ⟨_, _, ?_, hrun, hended, _, _, rfl, ?_, ⟨_, rfl⟩, hW, hsame.mono (by decide) (by decide)⟩
    · exact retI X0 hx Bd.returns (hb hby d3_62) hr
    · show Q_bs0_032 _ _ _ _ _ _ _ _ _ _ s₁.heap _
      rw [e0]
      exact ⟨(2 : Int32), rfl, N0, rfl, (Or.inl rfl)⟩
def Q_bs_032 (Z : State) (ax : Addr) (kx : ClassId) (key : Int32) (x0 : Int32) (x1 : Int32) (x2 : Int32) (h0 : Heap) (n0 : Nat) (vR : Option Value) (h : Heap) (L : List Loc) : Prop := ∃ (r : Int32), vR = some (.int r) ∧ Fr n0 L ∧ h = h0 ∧ (r = (2 : Int32) ∨ r = (-3 : Int32))
theorem ef_bs_032 (m : MethodId) (x0 : Addr) (x1 : Int32) (x2 : Int32) (x3 : Int32) : entryFrame m #[(.ref x0), (.int x1), (.int x2), (.int x3)] 4 = mkF m 0 #[.val (.ref x0), .val (.int x1), .val (.int x2), .val (.int x3)] [] := by first | (simp [entryFrame, mkF, argsToLocals, Value.category]; done) | rfl
set_option maxRecDepth 65536 in
set_option maxHeartbeats 40000000 in
theorem rm_bs_032 (l : Launch) (Z : State) (a0 : Array Value) (hw : ∀ d ∈ tables_1, d.before a0 Z = true) (ws : List Jvm.Cond) (ax : Addr) (kx : ClassId) (key : Int32) (x0 : Int32) (x1 : Int32) (x2 : Int32) (h0 : Heap) (n0 : Nat) (Z0 : n0 ≤ h0.size) (H0 : Arv Z h0 ax kx .int (64 : Int32) [(.int x0), (.int x1), (.int x2)] (.int (0 : Int32))) (s0 : x0 < x1) (s1 : x1 < x2) (hl : x1 < key) (hr : ¬ (x2 < key)) :
    MetFree l (⟨"java/util/Arrays", "binarySearch", "([IIII)I"⟩ : MethodName) (head1 (Jvm.Cond.code (⟨"java/util/Arrays", "binarySearch", "([IIII)I"⟩ : MethodName) jdk_65_method_58_code 4 (some .int) :: ws) ({ frames := 1, cells := 0, slots := 0, locals := 19 } : Room)) (fun a U => a = #[(.ref ax), (.int 0), (.int 3), (.int key)] ∧ Z.Warmed39 U.vm ∧ U.heap = h0) (fun _ _ _ _ _ => True) (fun _ U o U' => ∃ v L, o = .returned v ∧ Q_bs_032 Z ax kx key x0 x1 x2 h0 n0 v U'.heap L ∧ FrameEnd U o U' L ({ frames := 1, cells := 0, slots := 0, locals := 19 } : Room).cells ({ frames := 1, cells := 0, slots := 0, locals := 19 } : Room).slots) := by
  refine MetFree.of_bodySF (plainFor_of_name pn_java_util_Arrays) hisR ?_
  intro p e s m args below meth c s₁ Bd hml0 hP hK
  obtain ⟨rfl, hZ, hh⟩ := hP
  have hx := Bd.exec
  have hby := Bd.bytes
  have hml : c.maxLocals = 4 := hml0
  have hown : s.vm.findClass "java/util/Arrays" = some m.cls := findClass_of_methodNamed Bd.named
  have hnm := (name_of_methodNamed Bd.named Bd.method).1
  have X0 : Stand p l e ({ frames := 1, cells := 0, slots := 0, locals := 19 } : Room) s m #[(.ref ax), (.int 0), (.int 3), (.int key)] below meth c s₁ [] 0 0 := Stand.of_body Bd
  have e0 : s₁.heap = h0 := by rw [← hh, Bd.state]; rfl
  have N0 := Fr.nil n0
  refine go_st (fun t k => castTop (ef_bs_032 m ax (0 : Int32) (3 : Int32) key) k) ?_
  show Go _ _ _ _ (s₁.setTop (mkF m 0 #[rv ax, iv 0, iv 3, iv key] []))
  refine go_st (fun t k => XS.aloadN X0.here hx rfl (hb hby d4_0) rfl rfl k) ?_
  show Go _ _ _ _ (s₁.setTop (mkF m 1 #[rv ax, iv 0, iv 3, iv key] [(.ref ax)]))
  obtain ⟨zc1, zA1, zq1, zS1, zN1, zH1, zG1⟩ := id H0
  refine go_st (fun t k => X0.arraylength hx (by rw [e0]; exact zA1.1) (State.isArrayOf_alike hZ.alike zA1.2.1) (g := (mkF m 1 #[rv ax, iv 0, iv 3, iv key] [(.ref ax)])) rfl rfl (hb hby d4_1) t k) ?_
  rw [len_of zS1 zN1]
  show Go _ _ _ _ (s₁.setTop (mkF m 2 #[rv ax, iv 0, iv 3, iv key] [(.int 64)]))
  refine go_st (fun t k => XS.iloadN X0.here hx rfl (hb hby d4_2) rfl k) ?_
  show Go _ _ _ _ (s₁.setTop (mkF m 3 #[rv ax, iv 0, iv 3, iv key] [(.int 0), (.int 64)]))
  refine go_st (fun t k => XS.iloadN X0.here hx rfl (hb hby d4_3) rfl k) ?_
  show Go _ _ _ _ (s₁.setTop (mkF m 4 #[rv ax, iv 0, iv 3, iv key] [(.int 3), (.int 0), (.int 64)]))
  obtain ⟨_, _, ⟨T2, L2, kk2, nn2⟩, -, X2, ⟨Lc2, hQ2, lq2, yq2, zq2⟩, st2⟩ := Jvm.LawKit.callS X0 hx (y := (⟨"java/util/Arrays", "rangeCheck", "(III)V"⟩ : MethodName)) hown (mvT hZ (w33 hw)) (mvT hZ (w34 hw)) (mvT hZ (w31 hw)) (mvT hZ (w35 hw)) (by decide) (backOf (W := 0) (rm_rc_03 l Z a0 hw []  h0 n0 (Nat.le_trans Z0 (Nat.le_refl _)) ) hZ (w35 hw) (w31 hw) (by decide) (by decide)) (g := (mkF m 4 #[rv ax, iv 0, iv 3, iv key] [(.int 3), (.int 0), (.int 64)])) rfl (by rw [hml]; rfl) (argsL := [(.int 64), (.int 0), (.int 3)]) (rest := []) (lenOf pd_0 rfl) rfl (by show 2 * 0 + _ ≤ _; exact Nat.le_of_eq rfl) (hb hby d4_4) (fun _ _ => ⟨rfl, e0, (by decide : 0 + 0 ≤ _), (by decide : 0 + 0 ≤ _)⟩)
  dsimp only [Pt.U, Pt.locs, Pt.cells, Pt.slots] at X2 lq2 yq2 zq2 st2 hQ2
  subst lq2 yq2 zq2
  obtain ⟨h2, e2⟩ : ∃ z, T2.heap = z := ⟨_, rfl⟩
  rw [e2] at hQ2
  obtain ⟨rfl, N2q, he2⟩ := hQ2
  have N2 := Fr.app N0 N2q
  rw [he2] at e2
  refine go_st st2 ?_
  show Go _ _ _ _ (T2.setTop (mkF m 7 #[rv ax, iv 0, iv 3, iv key] []))
  refine go_st (fun t k => XS.aloadN X2.here hx rfl (hb hby d4_7) rfl rfl k) ?_
  show Go _ _ _ _ (T2.setTop (mkF m 8 #[rv ax, iv 0, iv 3, iv key] [(.ref ax)]))
  refine go_st (fun t k => XS.iloadN X2.here hx rfl (hb hby d4_8) rfl k) ?_
  show Go _ _ _ _ (T2.setTop (mkF m 9 #[rv ax, iv 0, iv 3, iv key] [(.int 0), (.ref ax)]))
  refine go_st (fun t k => XS.iloadN X2.here hx rfl (hb hby d4_9) rfl k) ?_
  show Go _ _ _ _ (T2.setTop (mkF m 10 #[rv ax, iv 0, iv 3, iv key] [(.int 3), (.int 0), (.ref ax)]))
  refine go_st (fun t k => XS.iloadN X2.here hx rfl (hb hby d4_10) rfl k) ?_
  show Go _ _ _ _ (T2.setTop (mkF m 11 #[rv ax, iv 0, iv 3, iv key] [(.int key), (.int 3), (.int 0), (.ref ax)]))
  obtain ⟨_, _, ⟨T3, L3, kk3, nn3⟩, -, X3, ⟨Lc3, hQ3, lq3, yq3, zq3⟩, st3⟩ := Jvm.LawKit.callS X2 hx (y := (⟨"java/util/Arrays", "binarySearch0", "([IIII)I"⟩ : MethodName)) hown (mvT hZ (w36 hw)) (mvT hZ (w37 hw)) (mvT hZ (w31 hw)) (mvT hZ (w38 hw)) (by decide) (backOf (W := 0) (rm_bs0_032 l Z a0 hw [] ax kx key x0 x1 x2 h0 n0 (Nat.le_trans Z0 (Nat.le_refl _)) H0 s0 s1 hl hr) hZ (w38 hw) (w31 hw) (by decide) (by decide)) (g := (mkF m 11 #[rv ax, iv 0, iv 3, iv key] [(.int key), (.int 3), (.int 0), (.ref ax)])) rfl (by rw [hml]; rfl) (argsL := [(.ref ax), (.int 0), (.int 3), (.int key)]) (rest := []) (lenOf pd_1 rfl) rfl (by show 2 * 0 + _ ≤ _; exact Nat.le_of_eq rfl) (hb hby d4_11) (fun _ _ => ⟨rfl, e2, (by decide : 0 + 0 ≤ _), (by decide : 0 + 0 ≤ _)⟩)
  dsimp only [Pt.U, Pt.locs, Pt.cells, Pt.slots] at X3 lq3 yq3 zq3 st3 hQ3
  subst lq3 yq3 zq3
  obtain ⟨h3, e3⟩ : ∃ z, T3.heap = z := ⟨_, rfl⟩
  rw [e3] at hQ3
  obtain ⟨r_3, rfl, N3q, he3, hres_3⟩ := hQ3
  have N3 := Fr.app N2 N3q
  rw [he3] at e3
  refine go_st st3 ?_
  show Go _ _ _ _ (T3.setTop (mkF m 14 #[rv ax, iv 0, iv 3, iv key] [(.int r_3)]))
  obtain ⟨fs, hr, hrun, hended, hW, hsame⟩ := X3.leave (v := some (.int r_3)) (fun h => by rw [Bd.returns] at h; cases h)
  refine ⟨_, _, ?_, hrun, hended, _, _, rfl, ?_, ⟨_, rfl⟩, hW, hsame.mono (by decide) (by decide)⟩
  · exact retI X3 hx Bd.returns (hb hby d4_14) hr
  · show Q_bs_032 _ _ _ _ _ _ _ _ _ _ T3.heap _
    rw [e3]
    exact ⟨r_3, rfl, N3, rfl, hres_3⟩
def Q_lb_032 (Z : State) (a1 : Addr) (ax : Addr) (al : Addr) (kx : ClassId) (kl : ClassId) (key : Int32) (line : Int32) (x0 : Int32) (x1 : Int32) (x2 : Int32) (l0 : Int32) (l1 : Int32) (l2 : Int32) (h0 : Heap) (n0 : Nat) (vR : Option Value) (h : Heap) (L : List Loc) : Prop := vR = some (.int l1) ∧ Fr n0 L ∧ Keep h0 h [a1] ∧ (Exa Z h a1 "com/example/nudge/nudge/tree/BlockEntries") ∧ (Fld Z h a1 "com/example/nudge/nudge/tree/BlockEntries" "indexes" "[I" (.ref ax)) ∧ (Fld Z h a1 "com/example/nudge/nudge/tree/BlockEntries" "lines" "[I" (.ref al)) ∧ (Fld Z h a1 "com/example/nudge/nudge/tree/BlockEntries" "first" "I" (.int 1)) ∧ (Fld Z h a1 "com/example/nudge/nudge/tree/BlockEntries" "count" "I" (.int 3)) ∧ (Arv Z h ax kx .int (64 : Int32) [(.int x0), (.int x1), (.int x2)] (.int (0 : Int32))) ∧ (Arv Z h al kl .int (64 : Int32) [(.int l0), (.int l1), (.int l2)] (.int (0 : Int32)))
theorem ef_lb_032 (m : MethodId) (x0 : Addr) (x1 : Int32) (x2 : Int32) : entryFrame m #[(.ref x0), (.int x1), (.int x2)] 6 = mkF m 0 #[.val (.ref x0), .val (.int x1), .val (.int x2), .unset, .unset, .unset] [] := by first | (simp [entryFrame, mkF, argsToLocals, Value.category]; done) | rfl
set_option maxRecDepth 65536 in
set_option maxHeartbeats 40000000 in
theorem rm_lb_032 (l : Launch) (Z : State) (a0 : Array Value) (hw : ∀ d ∈ tables_1, d.before a0 Z = true) (ws : List Jvm.Cond) (a1 : Addr) (ax : Addr) (al : Addr) (kx : ClassId) (kl : ClassId) (key : Int32) (line : Int32) (x0 : Int32) (x1 : Int32) (x2 : Int32) (l0 : Int32) (l1 : Int32) (l2 : Int32) (h0 : Heap) (n0 : Nat) (Z0 : n0 ≤ h0.size) (H0 : Exa Z h0 a1 "com/example/nudge/nudge/tree/BlockEntries") (H1 : Fld Z h0 a1 "com/example/nudge/nudge/tree/BlockEntries" "indexes" "[I" (.ref ax)) (H2 : Fld Z h0 a1 "com/example/nudge/nudge/tree/BlockEntries" "lines" "[I" (.ref al)) (H3 : Fld Z h0 a1 "com/example/nudge/nudge/tree/BlockEntries" "first" "I" (.int 0)) (H4 : Fld Z h0 a1 "com/example/nudge/nudge/tree/BlockEntries" "count" "I" (.int 3)) (H5 : Arv Z h0 ax kx .int (64 : Int32) [(.int x0), (.int x1), (.int x2)] (.int (0 : Int32))) (H6 : Arv Z h0 al kl .int (64 : Int32) [(.int l0), (.int l1), (.int l2)] (.int (0 : Int32))) (ne_a1_ax : a1 ≠ ax) (ne_a1_al : a1 ≠ al) (ne_ax_al : ax ≠ al) (g_a1 : n0 ≤ a1) (s0 : x0 < x1) (s1 : x1 < x2) (hl : x1 < key) (hr : ¬ (x2 < key)) :
    MetFree l (⟨"com/example/nudge/nudge/tree/BlockEntries", "lineBefore", "(II)I"⟩ : MethodName) (head1 (Jvm.Cond.code (⟨"com/example/nudge/nudge/tree/BlockEntries", "lineBefore", "(II)I"⟩ : MethodName) prog_17_method_3_code 6 (some .int) :: ws) ({ frames := 2, cells := 0, slots := 0, locals := 34 } : Room)) (fun a U => a = #[(.ref a1), (.int key), (.int line)] ∧ Z.Warmed39 U.vm ∧ U.heap = h0) (fun _ _ _ _ _ => True) (fun _ U o U' => ∃ v L, o = .returned v ∧ Q_lb_032 Z a1 ax al kx kl key line x0 x1 x2 l0 l1 l2 h0 n0 v U'.heap L ∧ FrameEnd U o U' L ({ frames := 2, cells := 0, slots := 0, locals := 34 } : Room).cells ({ frames := 2, cells := 0, slots := 0, locals := 34 } : Room).slots) := by
  refine MetFree.of_bodySF (plainFor_of_name pn_com_example_nudge_nudge_tree_BlockEntries) hisR ?_
  intro p e s m args below meth c s₁ Bd hml0 hP hK
  obtain ⟨rfl, hZ, hh⟩ := hP
  have hx := Bd.exec
  have hby := Bd.bytes
  have hml : c.maxLocals = 6 := hml0
  have hown : s.vm.findClass "com/example/nudge/nudge/tree/BlockEntries" = some m.cls := findClass_of_methodNamed Bd.named
  have hnm := (name_of_methodNamed Bd.named Bd.method).1
  have X0 : Stand p l e ({ frames := 2, cells := 0, slots := 0, locals := 34 } : Room) s m #[(.ref a1), (.int key), (.int line)] below meth c s₁ [] 0 0 := Stand.of_body Bd
  have e0 : s₁.heap = h0 := by rw [← hh, Bd.state]; rfl
  have N0 := Fr.nil n0
  refine go_st (fun t k => castTop (ef_lb_032 m a1 key line) k) ?_
  show Go _ _ _ _ (s₁.setTop (mkF m 0 #[rv a1, iv key, iv line, .unset, .unset, .unset] []))
  refine go_st (fun t k => XS.aloadN X0.here hx rfl (hb hby d5_0) rfl rfl k) ?_
  show Go _ _ _ _ (s₁.setTop (mkF m 1 #[rv a1, iv key, iv line, .unset, .unset, .unset] [(.ref a1)]))
  obtain ⟨T1, X1, e1, st1⟩ := getF X0 hx hZ hown (host := "") (Or.inl (w11 hw)) Via.refl e0 H1 (g := (mkF m 1 #[rv a1, iv key, iv line, .unset, .unset, .unset] [(.ref a1)])) rfl rfl (hb hby d5_1)
  refine go_st (fun t k => st1 t k) ?_
  show Go _ _ _ _ (T1.setTop (mkF m 4 #[rv a1, iv key, iv line, .unset, .unset, .unset] [(.ref ax)]))
  refine go_st (fun t k => XS.aloadN X1.here hx rfl (hb hby d5_4) rfl rfl k) ?_
  show Go _ _ _ _ (T1.setTop (mkF m 5 #[rv a1, iv key, iv line, .unset, .unset, .unset] [(.ref a1), (.ref ax)]))
  obtain ⟨T2, X2, e2, st2⟩ := getF X1 hx hZ hown (host := "") (Or.inl (w27 hw)) Via.refl e1 H3 (g := (mkF m 5 #[rv a1, iv key, iv line, .unset, .unset, .unset] [(.ref a1), (.ref ax)])) rfl rfl (hb hby d5_5)
  refine go_st (fun t k => st2 t k) ?_
  show Go _ _ _ _ (T2.setTop (mkF m 8 #[rv a1, iv key, iv line, .unset, .unset, .unset] [(.int 0), (.ref ax)]))
  refine go_st (fun t k => XS.aloadN X2.here hx rfl (hb hby d5_8) rfl rfl k) ?_
  show Go _ _ _ _ (T2.setTop (mkF m 9 #[rv a1, iv key, iv line, .unset, .unset, .unset] [(.ref a1), (.int 0), (.ref ax)]))
  obtain ⟨T3, X3, e3, st3⟩ := getF X2 hx hZ hown (host := "") (Or.inl (w20 hw)) Via.refl e2 H4 (g := (mkF m 9 #[rv a1, iv key, iv line, .unset, .unset, .unset] [(.ref a1), (.int 0), (.ref ax)])) rfl rfl (hb hby d5_9)
  refine go_st (fun t k => st3 t k) ?_
  show Go _ _ _ _ (T3.setTop (mkF m 12 #[rv a1, iv key, iv line, .unset, .unset, .unset] [(.int 3), (.int 0), (.ref ax)]))
  refine go_st (fun t k => XS.iloadN X3.here hx rfl (hb hby d5_12) rfl k) ?_
  show Go _ _ _ _ (T3.setTop (mkF m 13 #[rv a1, iv key, iv line, .unset, .unset, .unset] [(.int key), (.int 3), (.int 0), (.ref ax)]))
  obtain ⟨_, _, ⟨T4, L4, kk4, nn4⟩, -, X4, ⟨Lc4, hQ4, lq4, yq4, zq4⟩, st4⟩ := Jvm.LawKit.callS X3 hx (y := (⟨"java/util/Arrays", "binarySearch", "([IIII)I"⟩ : MethodName)) hown (mvT hZ (w29 hw)) (mvT hZ (w30 hw)) (mvT hZ (w31 hw)) (mvT hZ (w32 hw)) (by decide) (backOf (W := 0) (rm_bs_032 l Z a0 hw [] ax kx key x0 x1 x2 h0 n0 (Nat.le_trans Z0 (Nat.le_refl _)) H5 s0 s1 hl hr) hZ (w32 hw) (w31 hw) (by decide) (by decide)) (g := (mkF m 13 #[rv a1, iv key, iv line, .unset, .unset, .unset] [(.int key), (.int 3), (.int 0), (.ref ax)])) rfl (by rw [hml]; rfl) (argsL := [(.ref ax), (.int 0), (.int 3), (.int key)]) (rest := []) (lenOf pd_1 rfl) rfl (by show 2 * 0 + _ ≤ _; exact Nat.le_of_eq rfl) (hb hby d5_13) (fun _ _ => ⟨rfl, e3, (by decide : 0 + 0 ≤ _), (by decide : 0 + 0 ≤ _)⟩)
  dsimp only [Pt.U, Pt.locs, Pt.cells, Pt.slots] at X4 lq4 yq4 zq4 st4 hQ4
  subst lq4 yq4 zq4
  obtain ⟨h4, e4⟩ : ∃ z, T4.heap = z := ⟨_, rfl⟩
  rw [e4] at hQ4
  obtain ⟨r_4, rfl, N4q, he4, hres_4⟩ := hQ4
  have N4 := Fr.app N0 N4q
  rw [he4] at e4
  refine go_st st4 ?_
  show Go _ _ _ _ (T4.setTop (mkF m 16 #[rv a1, iv key, iv line, .unset, .unset, .unset] [(.int r_4)]))
  rcases hres_4 with rfl | rfl
  · skip
    show Go _ _ _ _ (T4.setTop (mkF m 16 #[rv a1, iv key, iv line, .unset, .unset, .unset] [(.int 2)]))
    refine go_st (fun t k => XS.istoreN X4.here hx rfl (hb hby d5_16) rfl (l' := #[rv a1, iv key, iv line, iv 2, .unset, .unset]) rfl k) ?_
    show Go _ _ _ _ (T4.setTop (mkF m 17 #[rv a1, iv key, iv line, iv 2, .unset, .unset] []))
    refine go_st (fun t k => XS.iloadN X4.here hx rfl (hb hby d5_17) rfl k) ?_
    show Go _ _ _ _ (T4.setTop (mkF m 18 #[rv a1, iv key, iv line, iv 2, .unset, .unset] [(.int 2)]))
    refine go_st (fun t k => XS.ifNo X4.here hx rfl (hb hby d5_18) rfl ((if0 _ _).trans (flt ((by decide) : ¬ ((2 : Int32) < (0 : Int32)))).1) k) ?_
    show Go _ _ _ _ (T4.setTop (mkF m 21 #[rv a1, iv key, iv line, iv 2, .unset, .unset] []))
    refine go_st (fun t k => XS.iloadN X4.here hx rfl (hb hby d5_21) rfl k) ?_
    show Go _ _ _ _ (T4.setTop (mkF m 22 #[rv a1, iv key, iv line, iv 2, .unset, .unset] [(.int 2)]))
    refine go_st (fun t k => XS.goto X4.here hx rfl (pc0 := 22) (pc' := 29) rfl (hb hby d5_22) (by decide) (by decide) k) ?_
    show Go _ _ _ _ (T4.setTop (mkF m 29 #[rv a1, iv key, iv line, iv 2, .unset, .unset] [(.int 2)]))
    refine go_st (fun t k => XS.iconst X4.here hx rfl (hb hby d5_29) k) ?_
    show Go _ _ _ _ (T4.setTop (mkF m 30 #[rv a1, iv key, iv line, iv 2, .unset, .unset] [(.int 1), (.int 2)]))
    refine go_st (fun t k => XS.isub X4.here hx rfl (hb hby d5_30) rfl k) ?_
    rw [show ((2 : Int32) - (1 : Int32)) = (1 : Int32) from by decide]
    show Go _ _ _ _ (T4.setTop (mkF m 31 #[rv a1, iv key, iv line, iv 2, .unset, .unset] [(.int 1)]))
    refine go_st (fun t k => XS.istore X4.here hx rfl (hb hby d5_31) rfl (l' := #[rv a1, iv key, iv line, iv 2, iv 1, .unset]) rfl k) ?_
    show Go _ _ _ _ (T4.setTop (mkF m 33 #[rv a1, iv key, iv line, iv 2, iv 1, .unset] []))
    refine go_st (fun t k => XS.iloadN X4.here hx rfl (hb hby d5_33) rfl k) ?_
    show Go _ _ _ _ (T4.setTop (mkF m 34 #[rv a1, iv key, iv line, iv 2, iv 1, .unset] [(.int line)]))
    refine go_st (fun t k => XS.istore X4.here hx rfl (hb hby d5_34) rfl (l' := #[rv a1, iv key, iv line, iv 2, iv 1, iv line]) rfl k) ?_
    show Go _ _ _ _ (T4.setTop (mkF m 36 #[rv a1, iv key, iv line, iv 2, iv 1, iv line] []))
    refine go_st (fun t k => XS.iload X4.here hx rfl (hb hby d5_36) rfl k) ?_
    show Go _ _ _ _ (T4.setTop (mkF m 38 #[rv a1, iv key, iv line, iv 2, iv 1, iv line] [(.int 1)]))
    refine go_st (fun t k => XS.aloadN X4.here hx rfl (hb hby d5_38) rfl rfl k) ?_
    show Go _ _ _ _ (T4.setTop (mkF m 39 #[rv a1, iv key, iv line, iv 2, iv 1, iv line] [(.ref a1), (.int 1)]))
    obtain ⟨T5, X5, e5, st5⟩ := getF X4 hx hZ hown (host := "") (Or.inl (w27 hw)) Via.refl e4 H3 (g := (mkF m 39 #[rv a1, iv key, iv line, iv 2, iv 1, iv line] [(.ref a1), (.int 1)])) rfl rfl (hb hby d5_39)
    refine go_st (fun t k => st5 t k) ?_
    show Go _ _ _ _ (T5.setTop (mkF m 42 #[rv a1, iv key, iv line, iv 2, iv 1, iv line] [(.int 0), (.int 1)]))
    refine go_st (fun t k => XS.icmpNo X5.here hx rfl (hb hby d5_42) rfl (flt ((by decide) : ¬ ((1 : Int32) < (0 : Int32)))).1 k) ?_
    show Go _ _ _ _ (T5.setTop (mkF m 45 #[rv a1, iv key, iv line, iv 2, iv 1, iv line] []))
    refine go_st (fun t k => XS.aloadN X5.here hx rfl (hb hby d5_45) rfl rfl k) ?_
    show Go _ _ _ _ (T5.setTop (mkF m 46 #[rv a1, iv key, iv line, iv 2, iv 1, iv line] [(.ref a1)]))
    obtain ⟨T6, X6, e6, st6⟩ := getF X5 hx hZ hown (host := "") (Or.inl (w13 hw)) Via.refl e5 H2 (g := (mkF m 46 #[rv a1, iv key, iv line, iv 2, iv 1, iv line] [(.ref a1)])) rfl rfl (hb hby d5_46)
    refine go_st (fun t k => st6 t k) ?_
    show Go _ _ _ _ (T6.setTop (mkF m 49 #[rv a1, iv key, iv line, iv 2, iv 1, iv line] [(.ref al)]))
    refine go_st (fun t k => XS.iload X6.here hx rfl (hb hby d5_49) rfl k) ?_
    show Go _ _ _ _ (T6.setTop (mkF m 51 #[rv a1, iv key, iv line, iv 2, iv 1, iv line] [(.int 1), (.ref al)]))
    obtain ⟨zc7, zA7, zq7, zS7, zN7, zH7, zG7⟩ := id H6
    have hin7 : ¬ ((1 : Int32) < 0 ∨ zc7.slots.size ≤ ((1 : Int32)).toNatClampNeg) := inb_of zS7 ⟨by decide, by decide⟩
    have hat7 : zc7.slots[((1 : Int32)).toNatClampNeg]? = some (.int l1) := Has.at zH7 hin7 rfl
    refine go_st (fun t k => X6.iaload hx (j := (1 : Int32)) (v := (.int l1)) (by rw [e6]; exact zA7.1) (State.isArrayOf_alike hZ.alike zA7.2.1) zA7.2.2 hin7 hat7 (g := (mkF m 51 #[rv a1, iv key, iv line, iv 2, iv 1, iv line] [(.int 1), (.ref al)])) rfl rfl (hb hby d5_51) t k) ?_
    show Go _ _ _ _ (T6.setTop (mkF m 52 #[rv a1, iv key, iv line, iv 2, iv 1, iv line] [(.int l1)]))
    refine go_st (fun t k => XS.istore X6.here hx rfl (hb hby d5_52) rfl (l' := #[rv a1, iv key, iv line, iv 2, iv 1, iv l1]) rfl k) ?_
    show Go _ _ _ _ (T6.setTop (mkF m 54 #[rv a1, iv key, iv line, iv 2, iv 1, iv l1] []))
    refine go_st (fun t k => XS.aloadN X6.here hx rfl (hb hby d5_54) rfl rfl k) ?_
    show Go _ _ _ _ (T6.setTop (mkF m 55 #[rv a1, iv key, iv line, iv 2, iv 1, iv l1] [(.ref a1)]))
    refine go_st (fun t k => XS.iload X6.here hx rfl (hb hby d5_55) rfl k) ?_
    show Go _ _ _ _ (T6.setTop (mkF m 57 #[rv a1, iv key, iv line, iv 2, iv 1, iv l1] [(.int 1), (.ref a1)]))
    obtain ⟨T8, h8, X8, e8, W8, st8⟩ := putF X6 hx hZ hown (host := "") (Or.inl (w27 hw)) Via.refl e6 H3 H0 (Or.inl (w28 hw)) (w2 hw) (ty := .int) (by decide) rfl rfl (g := (mkF m 57 #[rv a1, iv key, iv line, iv 2, iv 1, iv l1] [(.int 1), (.ref a1)])) rfl rfl (hb hby d5_57)
    have N8 := Fr.snoc X8 N4 g_a1
    have f9 : Fld Z h8 a1 "com/example/nudge/nudge/tree/BlockEntries" "first" "I" (.int 1) := H3.same W8
    refine go_st (fun t k => st8 t k) ?_
    show Go _ _ _ _ (T8.setTop (mkF m 60 #[rv a1, iv key, iv line, iv 2, iv 1, iv l1] []))
    refine go_st (fun t k => XS.iload X8.here hx rfl (hb hby d5_60) rfl k) ?_
    show Go _ _ _ _ (T8.setTop (mkF m 62 #[rv a1, iv key, iv line, iv 2, iv 1, iv l1] [(.int l1)]))
    have f10 : Exa Z h8 a1 "com/example/nudge/nudge/tree/BlockEntries" := (H0.wr W8)
    have f11 : Fld Z h8 a1 "com/example/nudge/nudge/tree/BlockEntries" "indexes" "[I" (.ref ax) := (H1.other W8 (Or.inr (slot_ne (Or.inl (w12 hw)) (Or.inl (w28 hw)) (by decide) (t := (.array .int)) (t' := .int) (by decide) (by decide))))
    have f12 : Fld Z h8 a1 "com/example/nudge/nudge/tree/BlockEntries" "lines" "[I" (.ref al) := (H2.other W8 (Or.inr (slot_ne (Or.inl (w14 hw)) (Or.inl (w28 hw)) (by decide) (t := (.array .int)) (t' := .int) (by decide) (by decide))))
    have f13 : Fld Z h8 a1 "com/example/nudge/nudge/tree/BlockEntries" "count" "I" (.int 3) := (H4.other W8 (Or.inr (slot_ne (Or.inl (w21 hw)) (Or.inl (w28 hw)) (by decide) (t := .int) (t' := .int) (by decide) (by decide))))
    have f14 : Arv Z h8 ax kx .int (64 : Int32) [(.int x0), (.int x1), (.int x2)] (.int (0 : Int32)) := (H5.other W8 (Ne.symm ne_a1_ax))
    have f15 : Arv Z h8 al kl .int (64 : Int32) [(.int l0), (.int l1), (.int l2)] (.int (0 : Int32)) := (H6.other W8 (Ne.symm ne_a1_al))
    have ke16 : Keep h0 h8 [a1] := (Keep.wr (Keep.refl h0 [a1]) W8 (Or.inl (List.mem_of_getElem? (i := 0) rfl)))
    obtain ⟨fs, hr, hrun, hended, hW, hsame⟩ := X8.leave (v := some (.int l1)) (fun h => by rw [Bd.returns] at h; cases h)
    refine ⟨_, _, ?_, hrun, hended, _, _, rfl, ?_, ⟨_, rfl⟩, hW, hsame.mono (by decide) (by decide)⟩
    · exact retI X8 hx Bd.returns (hb hby d5_62) hr
    · show Q_lb_032 _ _ _ _ _ _ _ _ _ _ _ _ _ _ _ _ _ T8.heap _
      rw [e8]
      exact ⟨rfl, N8, ke16, f10, f11, f12, f9, f13, f14, f15⟩
  · skip
    show Go _ _ _ _ (T4.setTop (mkF m 16 #[rv a1, iv key, iv line, .unset, .unset, .unset] [(.int (-3))]))
    refine go_st (fun t k => XS.istoreN X4.here hx rfl (hb hby d5_16) rfl (l' := #[rv a1, iv key, iv line, iv (-3), .unset, .unset]) rfl k) ?_
    show Go _ _ _ _ (T4.setTop (mkF m 17 #[rv a1, iv key, iv line, iv (-3), .unset, .unset] []))
    refine go_st (fun t k => XS.iloadN X4.here hx rfl (hb hby d5_17) rfl k) ?_
    show Go _ _ _ _ (T4.setTop (mkF m 18 #[rv a1, iv key, iv line, iv (-3), .unset, .unset] [(.int (-3))]))
    refine go_st (fun t k => XS.ifYes X4.here hx rfl (pc0 := 18) (pc' := 25) rfl (hb hby d5_18) rfl ((if0 _ _).trans (tlt ((by decide) : (-3 : Int32) < (0 : Int32))).1) (by decide) (by decide) k) ?_
    show Go _ _ _ _ (T4.setTop (mkF m 25 #[rv a1, iv key, iv line, iv (-3), .unset, .unset] []))
    refine go_st (fun t k => XS.iloadN X4.here hx rfl (hb hby d5_25) rfl k) ?_
    show Go _ _ _ _ (T4.setTop (mkF m 26 #[rv a1, iv key, iv line, iv (-3), .unset, .unset] [(.int (-3))]))
    refine go_st (fun t k => XS.ineg X4.here hx rfl (hb hby d5_26) rfl k) ?_
    rw [show (-(-3 : Int32)) = (3 : Int32) from by decide]
    show Go _ _ _ _ (T4.setTop (mkF m 27 #[rv a1, iv key, iv line, iv (-3), .unset, .unset] [(.int 3)]))
    refine go_st (fun t k => XS.iconst X4.here hx rfl (hb hby d5_27) k) ?_
    show Go _ _ _ _ (T4.setTop (mkF m 28 #[rv a1, iv key, iv line, iv (-3), .unset, .unset] [(.int 1), (.int 3)]))
    refine go_st (fun t k => XS.isub X4.here hx rfl (hb hby d5_28) rfl k) ?_
    rw [show ((3 : Int32) - (1 : Int32)) = (2 : Int32) from by decide]
    show Go _ _ _ _ (T4.setTop (mkF m 29 #[rv a1, iv key, iv line, iv (-3), .unset, .unset] [(.int 2)]))
    refine go_st (fun t k => XS.iconst X4.here hx rfl (hb hby d5_29) k) ?_
    show Go _ _ _ _ (T4.setTop (mkF m 30 #[rv a1, iv key, iv line, iv (-3), .unset, .unset] [(.int 1), (.int 2)]))
    refine go_st (fun t k => XS.isub X4.here hx rfl (hb hby d5_30) rfl k) ?_
    rw [show ((2 : Int32) - (1 : Int32)) = (1 : Int32) from by decide]
    show Go _ _ _ _ (T4.setTop (mkF m 31 #[rv a1, iv key, iv line, iv (-3), .unset, .unset] [(.int 1)]))
    refine go_st (fun t k => XS.istore X4.here hx rfl (hb hby d5_31) rfl (l' := #[rv a1, iv key, iv line, iv (-3), iv 1, .unset]) rfl k) ?_
    show Go _ _ _ _ (T4.setTop (mkF m 33 #[rv a1, iv key, iv line, iv (-3), iv 1, .unset] []))
    refine go_st (fun t k => XS.iloadN X4.here hx rfl (hb hby d5_33) rfl k) ?_
    show Go _ _ _ _ (T4.setTop (mkF m 34 #[rv a1, iv key, iv line, iv (-3), iv 1, .unset] [(.int line)]))
    refine go_st (fun t k => XS.istore X4.here hx rfl (hb hby d5_34) rfl (l' := #[rv a1, iv key, iv line, iv (-3), iv 1, iv line]) rfl k) ?_
    show Go _ _ _ _ (T4.setTop (mkF m 36 #[rv a1, iv key, iv line, iv (-3), iv 1, iv line] []))
    refine go_st (fun t k => XS.iload X4.here hx rfl (hb hby d5_36) rfl k) ?_
    show Go _ _ _ _ (T4.setTop (mkF m 38 #[rv a1, iv key, iv line, iv (-3), iv 1, iv line] [(.int 1)]))
    refine go_st (fun t k => XS.aloadN X4.here hx rfl (hb hby d5_38) rfl rfl k) ?_
    show Go _ _ _ _ (T4.setTop (mkF m 39 #[rv a1, iv key, iv line, iv (-3), iv 1, iv line] [(.ref a1), (.int 1)]))
    obtain ⟨T17, X17, e17, st17⟩ := getF X4 hx hZ hown (host := "") (Or.inl (w27 hw)) Via.refl e4 H3 (g := (mkF m 39 #[rv a1, iv key, iv line, iv (-3), iv 1, iv line] [(.ref a1), (.int 1)])) rfl rfl (hb hby d5_39)
    refine go_st (fun t k => st17 t k) ?_
    show Go _ _ _ _ (T17.setTop (mkF m 42 #[rv a1, iv key, iv line, iv (-3), iv 1, iv line] [(.int 0), (.int 1)]))
    refine go_st (fun t k => XS.icmpNo X17.here hx rfl (hb hby d5_42) rfl (flt ((by decide) : ¬ ((1 : Int32) < (0 : Int32)))).1 k) ?_
    show Go _ _ _ _ (T17.setTop (mkF m 45 #[rv a1, iv key, iv line, iv (-3), iv 1, iv line] []))
    refine go_st (fun t k => XS.aloadN X17.here hx rfl (hb hby d5_45) rfl rfl k) ?_
    show Go _ _ _ _ (T17.setTop (mkF m 46 #[rv a1, iv key, iv line, iv (-3), iv 1, iv line] [(.ref a1)]))
    obtain ⟨T18, X18, e18, st18⟩ := getF X17 hx hZ hown (host := "") (Or.inl (w13 hw)) Via.refl e17 H2 (g := (mkF m 46 #[rv a1, iv key, iv line, iv (-3), iv 1, iv line] [(.ref a1)])) rfl rfl (hb hby d5_46)
    refine go_st (fun t k => st18 t k) ?_
    show Go _ _ _ _ (T18.setTop (mkF m 49 #[rv a1, iv key, iv line, iv (-3), iv 1, iv line] [(.ref al)]))
    refine go_st (fun t k => XS.iload X18.here hx rfl (hb hby d5_49) rfl k) ?_
    show Go _ _ _ _ (T18.setTop (mkF m 51 #[rv a1, iv key, iv line, iv (-3), iv 1, iv line] [(.int 1), (.ref al)]))
    obtain ⟨zc19, zA19, zq19, zS19, zN19, zH19, zG19⟩ := id H6
    have hin19 : ¬ ((1 : Int32) < 0 ∨ zc19.slots.size ≤ ((1 : Int32)).toNatClampNeg) := inb_of zS19 ⟨by decide, by decide⟩
    have hat19 : zc19.slots[((1 : Int32)).toNatClampNeg]? = some (.int l1) := Has.at zH19 hin19 rfl
    refine go_st (fun t k => X18.iaload hx (j := (1 : Int32)) (v := (.int l1)) (by rw [e18]; exact zA19.1) (State.isArrayOf_alike hZ.alike zA19.2.1) zA19.2.2 hin19 hat19 (g := (mkF m 51 #[rv a1, iv key, iv line, iv (-3), iv 1, iv line] [(.int 1), (.ref al)])) rfl rfl (hb hby d5_51) t k) ?_
    show Go _ _ _ _ (T18.setTop (mkF m 52 #[rv a1, iv key, iv line, iv (-3), iv 1, iv line] [(.int l1)]))
    refine go_st (fun t k => XS.istore X18.here hx rfl (hb hby d5_52) rfl (l' := #[rv a1, iv key, iv line, iv (-3), iv 1, iv l1]) rfl k) ?_
    show Go _ _ _ _ (T18.setTop (mkF m 54 #[rv a1, iv key, iv line, iv (-3), iv 1, iv l1] []))
    refine go_st (fun t k => XS.aloadN X18.here hx rfl (hb hby d5_54) rfl rfl k) ?_
    show Go _ _ _ _ (T18.setTop (mkF m 55 #[rv a1, iv key, iv line, iv (-3), iv 1, iv l1] [(.ref a1)]))
    refine go_st (fun t k => XS.iload X18.here hx rfl (hb hby d5_55) rfl k) ?_
    show Go _ _ _ _ (T18.setTop (mkF m 57 #[rv a1, iv key, iv line, iv (-3), iv 1, iv l1] [(.int 1), (.ref a1)]))
    obtain ⟨T20, h20, X20, e20, W20, st20⟩ := putF X18 hx hZ hown (host := "") (Or.inl (w27 hw)) Via.refl e18 H3 H0 (Or.inl (w28 hw)) (w2 hw) (ty := .int) (by decide) rfl rfl (g := (mkF m 57 #[rv a1, iv key, iv line, iv (-3), iv 1, iv l1] [(.int 1), (.ref a1)])) rfl rfl (hb hby d5_57)
    have N20 := Fr.snoc X20 N4 g_a1
    have f21 : Fld Z h20 a1 "com/example/nudge/nudge/tree/BlockEntries" "first" "I" (.int 1) := H3.same W20
    refine go_st (fun t k => st20 t k) ?_
    show Go _ _ _ _ (T20.setTop (mkF m 60 #[rv a1, iv key, iv line, iv (-3), iv 1, iv l1] []))
    refine go_st (fun t k => XS.iload X20.here hx rfl (hb hby d5_60) rfl k) ?_
    show Go _ _ _ _ (T20.setTop (mkF m 62 #[rv a1, iv key, iv line, iv (-3), iv 1, iv l1] [(.int l1)]))
    have f22 : Exa Z h20 a1 "com/example/nudge/nudge/tree/BlockEntries" := (H0.wr W20)
    have f23 : Fld Z h20 a1 "com/example/nudge/nudge/tree/BlockEntries" "indexes" "[I" (.ref ax) := (H1.other W20 (Or.inr (slot_ne (Or.inl (w12 hw)) (Or.inl (w28 hw)) (by decide) (t := (.array .int)) (t' := .int) (by decide) (by decide))))
    have f24 : Fld Z h20 a1 "com/example/nudge/nudge/tree/BlockEntries" "lines" "[I" (.ref al) := (H2.other W20 (Or.inr (slot_ne (Or.inl (w14 hw)) (Or.inl (w28 hw)) (by decide) (t := (.array .int)) (t' := .int) (by decide) (by decide))))
    have f25 : Fld Z h20 a1 "com/example/nudge/nudge/tree/BlockEntries" "count" "I" (.int 3) := (H4.other W20 (Or.inr (slot_ne (Or.inl (w21 hw)) (Or.inl (w28 hw)) (by decide) (t := .int) (t' := .int) (by decide) (by decide))))
    have f26 : Arv Z h20 ax kx .int (64 : Int32) [(.int x0), (.int x1), (.int x2)] (.int (0 : Int32)) := (H5.other W20 (Ne.symm ne_a1_ax))
    have f27 : Arv Z h20 al kl .int (64 : Int32) [(.int l0), (.int l1), (.int l2)] (.int (0 : Int32)) := (H6.other W20 (Ne.symm ne_a1_al))
    have ke28 : Keep h0 h20 [a1] := (Keep.wr (Keep.refl h0 [a1]) W20 (Or.inl (List.mem_of_getElem? (i := 0) rfl)))
    obtain ⟨fs, hr, hrun, hended, hW, hsame⟩ := X20.leave (v := some (.int l1)) (fun h => by rw [Bd.returns] at h; cases h)
    refine ⟨_, _, ?_, hrun, hended, _, _, rfl, ?_, ⟨_, rfl⟩, hW, hsame.mono (by decide) (by decide)⟩
    · exact retI X20 hx Bd.returns (hb hby d5_62) hr
    · show Q_lb_032 _ _ _ _ _ _ _ _ _ _ _ _ _ _ _ _ _ T20.heap _
      rw [e20]
      exact ⟨rfl, N20, ke28, f22, f23, f24, f21, f25, f26, f27⟩
def Q_bs0_033 (Z : State) (ax : Addr) (kx : ClassId) (key : Int32) (x0 : Int32) (x1 : Int32) (x2 : Int32) (h0 : Heap) (n0 : Nat) (vR : Option Value) (h : Heap) (L : List Loc) : Prop := ∃ (r : Int32), vR = some (.int r) ∧ Fr n0 L ∧ h = h0 ∧ (r = (3 : Int32) ∨ r = (-4 : Int32))
theorem ef_bs0_033 (m : MethodId) (x0 : Addr) (x1 : Int32) (x2 : Int32) (x3 : Int32) : entryFrame m #[(.ref x0), (.int x1), (.int x2), (.int x3)] 8 = mkF m 0 #[.val (.ref x0), .val (.int x1), .val (.int x2), .val (.int x3), .unset, .unset, .unset, .unset] [] := by first | (simp [entryFrame, mkF, argsToLocals, Value.category]; done) | rfl
set_option maxRecDepth 65536 in
set_option maxHeartbeats 40000000 in
theorem rm_bs0_033 (l : Launch) (Z : State) (a0 : Array Value) (hw : ∀ d ∈ tables_1, d.before a0 Z = true) (ws : List Jvm.Cond) (ax : Addr) (kx : ClassId) (key : Int32) (x0 : Int32) (x1 : Int32) (x2 : Int32) (h0 : Heap) (n0 : Nat) (Z0 : n0 ≤ h0.size) (H0 : Arv Z h0 ax kx .int (64 : Int32) [(.int x0), (.int x1), (.int x2)] (.int (0 : Int32))) (s0 : x0 < x1) (s1 : x1 < x2) (hl : x2 < key) :
    MetFree l (⟨"java/util/Arrays", "binarySearch0", "([IIII)I"⟩ : MethodName) (head1 (Jvm.Cond.code (⟨"java/util/Arrays", "binarySearch0", "([IIII)I"⟩ : MethodName) jdk_65_method_59_code 8 (some .int) :: ws) ({ frames := 0, cells := 0, slots := 0, locals := 0 } : Room)) (fun a U => a = #[(.ref ax), (.int 0), (.int 3), (.int key)] ∧ Z.Warmed39 U.vm ∧ U.heap = h0) (fun _ _ _ _ _ => True) (fun _ U o U' => ∃ v L, o = .returned v ∧ Q_bs0_033 Z ax kx key x0 x1 x2 h0 n0 v U'.heap L ∧ FrameEnd U o U' L ({ frames := 0, cells := 0, slots := 0, locals := 0 } : Room).cells ({ frames := 0, cells := 0, slots := 0, locals := 0 } : Room).slots) := by
  refine MetFree.of_bodySF (plainFor_of_name pn_java_util_Arrays) hisR ?_
  intro p e s m args below meth c s₁ Bd hml0 hP hK
  obtain ⟨rfl, hZ, hh⟩ := hP
  have hx := Bd.exec
  have hby := Bd.bytes
  have hml : c.maxLocals = 8 := hml0
  have hown : s.vm.findClass "java/util/Arrays" = some m.cls := findClass_of_methodNamed Bd.named
  have hnm := (name_of_methodNamed Bd.named Bd.method).1
  have X0 : Stand p l e ({ frames := 0, cells := 0, slots := 0, locals := 0 } : Room) s m #[(.ref ax), (.int 0), (.int 3), (.int key)] below meth c s₁ [] 0 0 := Stand.of_body Bd
  have e0 : s₁.heap = h0 := by rw [← hh, Bd.state]; rfl
  have N0 := Fr.nil n0
  refine go_st (fun t k => castTop (ef_bs0_033 m ax (0 : Int32) (3 : Int32) key) k) ?_
  show Go _ _ _ _ (s₁.setTop (mkF m 0 #[rv ax, iv 0, iv 3, iv key, .unset, .unset, .unset, .unset] []))
  refine go_st (fun t k => XS.iloadN X0.here hx rfl (hb hby d3_0) rfl k) ?_
  show Go _ _ _ _ (s₁.setTop (mkF m 1 #[rv ax, iv 0, iv 3, iv key, .unset, .unset, .unset, .unset] [(.int 0)]))
  refine go_st (fun t k => XS.istore X0.here hx rfl (hb hby d3_1) rfl (l' := #[rv ax, iv 0, iv 3, iv key, iv 0, .unset, .unset, .unset]) rfl k) ?_
  show Go _ _ _ _ (s₁.setTop (mkF m 3 #[rv ax, iv 0, iv 3, iv key, iv 0, .unset, .unset, .unset] []))
  refine go_st (fun t k => XS.iloadN X0.here hx rfl (hb hby d3_3) rfl k) ?_
  show Go _ _ _ _ (s₁.setTop (mkF m 4 #[rv ax, iv 0, iv 3, iv key, iv 0, .unset, .unset, .unset] [(.int 3)]))
  refine go_st (fun t k => XS.iconst X0.here hx rfl (hb hby d3_4) k) ?_
  show Go _ _ _ _ (s₁.setTop (mkF m 5 #[rv ax, iv 0, iv 3, iv key, iv 0, .unset, .unset, .unset] [(.int 1), (.int 3)]))
  refine go_st (fun t k => XS.isub X0.here hx rfl (hb hby d3_5) rfl k) ?_
  rw [show ((3 : Int32) - (1 : Int32)) = (2 : Int32) from by decide]
  show Go _ _ _ _ (s₁.setTop (mkF m 6 #[rv ax, iv 0, iv 3, iv key, iv 0, .unset, .unset, .unset] [(.int 2)]))
  refine go_st (fun t k => XS.istore X0.here hx rfl (hb hby d3_6) rfl (l' := #[rv ax, iv 0, iv 3, iv key, iv 0, iv 2, .unset, .unset]) rfl k) ?_
  show Go _ _ _ _ (s₁.setTop (mkF m 8 #[rv ax, iv 0, iv 3, iv key, iv 0, iv 2, .unset, .unset] []))
  refine go_st (fun t k => XS.iload X0.here hx rfl (hb hby d3_8) rfl k) ?_
  show Go _ _ _ _ (s₁.setTop (mkF m 10 #[rv ax, iv 0, iv 3, iv key, iv 0, iv 2, .unset, .unset] [(.int 0)]))
  refine go_st (fun t k => XS.iload X0.here hx rfl (hb hby d3_10) rfl k) ?_
  show Go _ _ _ _ (s₁.setTop (mkF m 12 #[rv ax, iv 0, iv 3, iv key, iv 0, iv 2, .unset, .unset] [(.int 2), (.int 0)]))
  refine go_st (fun t k => XS.icmpNo X0.here hx rfl (hb hby d3_12) rfl (flt ((by decide) : ¬ ((2 : Int32) < (0 : Int32)))).2.2.1 k) ?_
  show Go _ _ _ _ (s₁.setTop (mkF m 15 #[rv ax, iv 0, iv 3, iv key, iv 0, iv 2, .unset, .unset] []))
  refine go_st (fun t k => XS.iload X0.here hx rfl (hb hby d3_15) rfl k) ?_
  show Go _ _ _ _ (s₁.setTop (mkF m 17 #[rv ax, iv 0, iv 3, iv key, iv 0, iv 2, .unset, .unset] [(.int 0)]))
  refine go_st (fun t k => XS.iload X0.here hx rfl (hb hby d3_17) rfl k) ?_
  show Go _ _ _ _ (s₁.setTop (mkF m 19 #[rv ax, iv 0, iv 3, iv key, iv 0, iv 2, .unset, .unset] [(.int 2), (.int 0)]))
  refine go_st (fun t k => XS.iadd X0.here hx rfl (hb hby d3_19) rfl k) ?_
  rw [show ((0 : Int32) + (2 : Int32)) = (2 : Int32) from by decide]
  show Go _ _ _ _ (s₁.setTop (mkF m 20 #[rv ax, iv 0, iv 3, iv key, iv 0, iv 2, .unset, .unset] [(.int 2)]))
  refine go_st (fun t k => XS.iconst X0.here hx rfl (hb hby d3_20) k) ?_
  show Go _ _ _ _ (s₁.setTop (mkF m 21 #[rv ax, iv 0, iv 3, iv key, iv 0, iv 2, .unset, .unset] [(.int 1), (.int 2)]))
  refine go_st (fun t k => XS.iushr X0.here hx rfl (hb hby d3_21) rfl k) ?_
  rw [show (((2 : Int32)).toUInt32 >>> ((1 : Int32) &&& 31).toUInt32).toInt32 = (1 : Int32) from by decide]
  show Go _ _ _ _ (s₁.setTop (mkF m 22 #[rv ax, iv 0, iv 3, iv key, iv 0, iv 2, .unset, .unset] [(.int 1)]))
  refine go_st (fun t k => XS.istore X0.here hx rfl (hb hby d3_22) rfl (l' := #[rv ax, iv 0, iv 3, iv key, iv 0, iv 2, iv 1, .unset]) rfl k) ?_
  show Go _ _ _ _ (s₁.setTop (mkF m 24 #[rv ax, iv 0, iv 3, iv key, iv 0, iv 2, iv 1, .unset] []))
  refine go_st (fun t k => XS.aloadN X0.here hx rfl (hb hby d3_24) rfl rfl k) ?_
  show Go _ _ _ _ (s₁.setTop (mkF m 25 #[rv ax, iv 0, iv 3, iv key, iv 0, iv 2, iv 1, .unset] [(.ref ax)]))
  refine go_st (fun t k => XS.iload X0.here hx rfl (hb hby d3_25) rfl k) ?_
  show Go _ _ _ _ (s₁.setTop (mkF m 27 #[rv ax, iv 0, iv 3, iv key, iv 0, iv 2, iv 1, .unset] [(.int 1), (.ref ax)]))
  obtain ⟨zc1, zA1, zq1, zS1, zN1, zH1, zG1⟩ := id H0
  have hin1 : ¬ ((1 : Int32) < 0 ∨ zc1.slots.size ≤ ((1 : Int32)).toNatClampNeg) := inb_of zS1 ⟨by decide, by decide⟩
  have hat1 : zc1.slots[((1 : Int32)).toNatClampNeg]? = some (.int x1) := Has.at zH1 hin1 rfl
  refine go_st (fun t k => X0.iaload hx (j := (1 : Int32)) (v := (.int x1)) (by rw [e0]; exact zA1.1) (State.isArrayOf_alike hZ.alike zA1.2.1) zA1.2.2 hin1 hat1 (g := (mkF m 27 #[rv ax, iv 0, iv 3, iv key, iv 0, iv 2, iv 1, .unset] [(.int 1), (.ref ax)])) rfl rfl (hb hby d3_27) t k) ?_
  show Go _ _ _ _ (s₁.setTop (mkF m 28 #[rv ax, iv 0, iv 3, iv key, iv 0, iv 2, iv 1, .unset] [(.int x1)]))
  refine go_st (fun t k => XS.istore X0.here hx rfl (hb hby d3_28) rfl (l' := #[rv ax, iv 0, iv 3, iv key, iv 0, iv 2, iv 1, iv x1]) rfl k) ?_
  show Go _ _ _ _ (s₁.setTop (mkF m 30 #[rv ax, iv 0, iv 3, iv key, iv 0, iv 2, iv 1, iv x1] []))
  refine go_st (fun t k => XS.iload X0.here hx rfl (hb hby d3_30) rfl k) ?_
  show Go _ _ _ _ (s₁.setTop (mkF m 32 #[rv ax, iv 0, iv 3, iv key, iv 0, iv 2, iv 1, iv x1] [(.int x1)]))
  refine go_st (fun t k => XS.iloadN X0.here hx rfl (hb hby d3_32) rfl k) ?_
  show Go _ _ _ _ (s₁.setTop (mkF m 33 #[rv ax, iv 0, iv 3, iv key, iv 0, iv 2, iv 1, iv x1] [(.int key), (.int x1)]))
  refine go_st (fun t k => XS.icmpNo X0.here hx rfl (hb hby d3_33) rfl (tlt ((pl_tr s1 hl) : x1 < key)).2.1 k) ?_
  show Go _ _ _ _ (s₁.setTop (mkF m 36 #[rv ax, iv 0, iv 3, iv key, iv 0, iv 2, iv 1, iv x1] []))
  refine go_st (fun t k => XS.iload X0.here hx rfl (hb hby d3_36) rfl k) ?_
  show Go _ _ _ _ (s₁.setTop (mkF m 38 #[rv ax, iv 0, iv 3, iv key, iv 0, iv 2, iv 1, iv x1] [(.int 1)]))
  refine go_st (fun t k => XS.iconst X0.here hx rfl (hb hby d3_38) k) ?_
  show Go _ _ _ _ (s₁.setTop (mkF m 39 #[rv ax, iv 0, iv 3, iv key, iv 0, iv 2, iv 1, iv x1] [(.int 1), (.int 1)]))
  refine go_st (fun t k => XS.iadd X0.here hx rfl (hb hby d3_39) rfl k) ?_
  rw [show ((1 : Int32) + (1 : Int32)) = (2 : Int32) from by decide]
  show Go _ _ _ _ (s₁.setTop (mkF m 40 #[rv ax, iv 0, iv 3, iv key, iv 0, iv 2, iv 1, iv x1] [(.int 2)]))
  refine go_st (fun t k => XS.istore X0.here hx rfl (hb hby d3_40) rfl (l' := #[rv ax, iv 0, iv 3, iv key, iv 2, iv 2, iv 1, iv x1]) rfl k) ?_
  show Go _ _ _ _ (s₁.setTop (mkF m 42 #[rv ax, iv 0, iv 3, iv key, iv 2, iv 2, iv 1, iv x1] []))
  refine go_st (fun t k => XS.goto X0.here hx rfl (pc0 := 42) (pc' := 63) rfl (hb hby d3_42) (by decide) (by decide) k) ?_
  show Go _ _ _ _ (s₁.setTop (mkF m 63 #[rv ax, iv 0, iv 3, iv key, iv 2, iv 2, iv 1, iv x1] []))
  refine go_st (fun t k => XS.goto X0.here hx rfl (pc0 := 63) (pc' := 8) rfl (hb hby d3_63) (by decide) (by decide) k) ?_
  show Go _ _ _ _ (s₁.setTop (mkF m 8 #[rv ax, iv 0, iv 3, iv key, iv 2, iv 2, iv 1, iv x1] []))
  refine go_st (fun t k => XS.iload X0.here hx rfl (hb hby d3_8) rfl k) ?_
  show Go _ _ _ _ (s₁.setTop (mkF m 10 #[rv ax, iv 0, iv 3, iv key, iv 2, iv 2, iv 1, iv x1] [(.int 2)]))
  refine go_st (fun t k => XS.iload X0.here hx rfl (hb hby d3_10) rfl k) ?_
  show Go _ _ _ _ (s₁.setTop (mkF m 12 #[rv ax, iv 0, iv 3, iv key, iv 2, iv 2, iv 1, iv x1] [(.int 2), (.int 2)]))
  refine go_st (fun t k => XS.icmpNo X0.here hx rfl (hb hby d3_12) rfl (flt ((by decide) : ¬ ((2 : Int32) < (2 : Int32)))).2.2.1 k) ?_
  show Go _ _ _ _ (s₁.setTop (mkF m 15 #[rv ax, iv 0, iv 3, iv key, iv 2, iv 2, iv 1, iv x1] []))
  refine go_st (fun t k => XS.iload X0.here hx rfl (hb hby d3_15) rfl k) ?_
  show Go _ _ _ _ (s₁.setTop (mkF m 17 #[rv ax, iv 0, iv 3, iv key, iv 2, iv 2, iv 1, iv x1] [(.int 2)]))
  refine go_st (fun t k => XS.iload X0.here hx rfl (hb hby d3_17) rfl k) ?_
  show Go _ _ _ _ (s₁.setTop (mkF m 19 #[rv ax, iv 0, iv 3, iv key, iv 2, iv 2, iv 1, iv x1] [(.int 2), (.int 2)]))
  refine go_st (fun t k => XS.iadd X0.here hx rfl (hb hby d3_19) rfl k) ?_
  rw [show ((2 : Int32) + (2 : Int32)) = (4 : Int32) from by decide]
  show Go _ _ _ _ (s₁.setTop (mkF m 20 #[rv ax, iv 0, iv 3, iv key, iv 2, iv 2, iv 1, iv x1] [(.int 4)]))
  refine go_st (fun t k => XS.iconst X0.here hx rfl (hb hby d3_20) k) ?_
  show Go _ _ _ _ (s₁.setTop (mkF m 21 #[rv ax, iv 0, iv 3, iv key, iv 2, iv 2, iv 1, iv x1] [(.int 1), (.int 4)]))
  refine go_st (fun t k => XS.iushr X0.here hx rfl (hb hby d3_21) rfl k) ?_
  rw [show (((4 : Int32)).toUInt32 >>> ((1 : Int32) &&& 31).toUInt32).toInt32 = (2 : Int32) from by decide]
  show Go _ _ _ _ (s₁.setTop (mkF m 22 #[rv ax, iv 0, iv 3, iv key, iv 2, iv 2, iv 1, iv x1] [(.int 2)]))
  refine go_st (fun t k => XS.istore X0.here hx rfl (hb hby d3_22) rfl (l' := #[rv ax, iv 0, iv 3, iv key, iv 2, iv 2, iv 2, iv x1]) rfl k) ?_
  show Go _ _ _ _ (s₁.setTop (mkF m 24 #[rv ax, iv 0, iv 3, iv key, iv 2, iv 2, iv 2, iv x1] []))
  refine go_st (fun t k => XS.aloadN X0.here hx rfl (hb hby d3_24) rfl rfl k) ?_
  show Go _ _ _ _ (s₁.setTop (mkF m 25 #[rv ax, iv 0, iv 3, iv key, iv 2, iv 2, iv 2, iv x1] [(.ref ax)]))
  refine go_st (fun t k => XS.iload X0.here hx rfl (hb hby d3_25) rfl k) ?_
  show Go _ _ _ _ (s₁.setTop (mkF m 27 #[rv ax, iv 0, iv 3, iv key, iv 2, iv 2, iv 2, iv x1] [(.int 2), (.ref ax)]))
  obtain ⟨zc2, zA2, zq2, zS2, zN2, zH2, zG2⟩ := id H0
  have hin2 : ¬ ((2 : Int32) < 0 ∨ zc2.slots.size ≤ ((2 : Int32)).toNatClampNeg) := inb_of zS2 ⟨by decide, by decide⟩
  have hat2 : zc2.slots[((2 : Int32)).toNatClampNeg]? = some (.int x2) := Has.at zH2 hin2 rfl
  refine go_st (fun t k => X0.iaload hx (j := (2 : Int32)) (v := (.int x2)) (by rw [e0]; exact zA2.1) (State.isArrayOf_alike hZ.alike zA2.2.1) zA2.2.2 hin2 hat2 (g := (mkF m 27 #[rv ax, iv 0, iv 3, iv key, iv 2, iv 2, iv 2, iv x1] [(.int 2), (.ref ax)])) rfl rfl (hb hby d3_27) t k) ?_
  show Go _ _ _ _ (s₁.setTop (mkF m 28 #[rv ax, iv 0, iv 3, iv key, iv 2, iv 2, iv 2, iv x1] [(.int x2)]))
  refine go_st (fun t k => XS.istore X0.here hx rfl (hb hby d3_28) rfl (l' := #[rv ax, iv 0, iv 3, iv key, iv 2, iv 2, iv 2, iv x2]) rfl k) ?_
  show Go _ _ _ _ (s₁.setTop (mkF m 30 #[rv ax, iv 0, iv 3, iv key, iv 2, iv 2, iv 2, iv x2] []))
  refine go_st (fun t k => XS.iload X0.here hx rfl (hb hby d3_30) rfl k) ?_
  show Go _ _ _ _ (s₁.setTop (mkF m 32 #[rv ax, iv 0, iv 3, iv key, iv 2, iv 2, iv 2, iv x2] [(.int x2)]))
  refine go_st (fun t k => XS.iloadN X0.here hx rfl (hb hby d3_32) rfl k) ?_
  show Go _ _ _ _ (s₁.setTop (mkF m 33 #[rv ax, iv 0, iv 3, iv key, iv 2, iv 2, iv 2, iv x2] [(.int key), (.int x2)]))
  refine go_st (fun t k => XS.icmpNo X0.here hx rfl (hb hby d3_33) rfl (tlt (hl : x2 < key)).2.1 k) ?_
  show Go _ _ _ _ (s₁.setTop (mkF m 36 #[rv ax, iv 0, iv 3, iv key, iv 2, iv 2, iv 2, iv x2] []))
  refine go_st (fun t k => XS.iload X0.here hx rfl (hb hby d3_36) rfl k) ?_
  show Go _ _ _ _ (s₁.setTop (mkF m 38 #[rv ax, iv 0, iv 3, iv key, iv 2, iv 2, iv 2, iv x2] [(.int 2)]))
  refine go_st (fun t k => XS.iconst X0.here hx rfl (hb hby d3_38) k) ?_
  show Go _ _ _ _ (s₁.setTop (mkF m 39 #[rv ax, iv 0, iv 3, iv key, iv 2, iv 2, iv 2, iv x2] [(.int 1), (.int 2)]))
  refine go_st (fun t k => XS.iadd X0.here hx rfl (hb hby d3_39) rfl k) ?_
  rw [show ((2 : Int32) + (1 : Int32)) = (3 : Int32) from by decide]
  show Go _ _ _ _ (s₁.setTop (mkF m 40 #[rv ax, iv 0, iv 3, iv key, iv 2, iv 2, iv 2, iv x2] [(.int 3)]))
  refine go_st (fun t k => XS.istore X0.here hx rfl (hb hby d3_40) rfl (l' := #[rv ax, iv 0, iv 3, iv key, iv 3, iv 2, iv 2, iv x2]) rfl k) ?_
  show Go _ _ _ _ (s₁.setTop (mkF m 42 #[rv ax, iv 0, iv 3, iv key, iv 3, iv 2, iv 2, iv x2] []))
  refine go_st (fun t k => XS.goto X0.here hx rfl (pc0 := 42) (pc' := 63) rfl (hb hby d3_42) (by decide) (by decide) k) ?_
  show Go _ _ _ _ (s₁.setTop (mkF m 63 #[rv ax, iv 0, iv 3, iv key, iv 3, iv 2, iv 2, iv x2] []))
  refine go_st (fun t k => XS.goto X0.here hx rfl (pc0 := 63) (pc' := 8) rfl (hb hby d3_63) (by decide) (by decide) k) ?_
  show Go _ _ _ _ (s₁.setTop (mkF m 8 #[rv ax, iv 0, iv 3, iv key, iv 3, iv 2, iv 2, iv x2] []))
  refine go_st (fun t k => XS.iload X0.here hx rfl (hb hby d3_8) rfl k) ?_
  show Go _ _ _ _ (s₁.setTop (mkF m 10 #[rv ax, iv 0, iv 3, iv key, iv 3, iv 2, iv 2, iv x2] [(.int 3)]))
  refine go_st (fun t k => XS.iload X0.here hx rfl (hb hby d3_10) rfl k) ?_
  show Go _ _ _ _ (s₁.setTop (mkF m 12 #[rv ax, iv 0, iv 3, iv key, iv 3, iv 2, iv 2, iv x2] [(.int 2), (.int 3)]))
  refine go_st (fun t k => XS.icmpYes X0.here hx rfl (pc0 := 12) (pc' := 66) rfl (hb hby d3_12) rfl (tlt ((by decide) : (2 : Int32) < (3 : Int32))).2.2.1 (by decide) (by decide) k) ?_
  show Go _ _ _ _ (s₁.setTop (mkF m 66 #[rv ax, iv 0, iv 3, iv key, iv 3, iv 2, iv 2, iv x2] []))
  refine go_st (fun t k => XS.iload X0.here hx rfl (hb hby d3_66) rfl k) ?_
  show Go _ _ _ _ (s₁.setTop (mkF m 68 #[rv ax, iv 0, iv 3, iv key, iv 3, iv 2, iv 2, iv x2] [(.int 3)]))
  refine go_st (fun t k => XS.iconst X0.here hx rfl (hb hby d3_68) k) ?_
  show Go _ _ _ _ (s₁.setTop (mkF m 69 #[rv ax, iv 0, iv 3, iv key, iv 3, iv 2, iv 2, iv x2] [(.int 1), (.int 3)]))
  refine go_st (fun t k => XS.iadd X0.here hx rfl (hb hby d3_69) rfl k) ?_
  rw [show ((3 : Int32) + (1 : Int32)) = (4 : Int32) from by decide]
  show Go _ _ _ _ (s₁.setTop (mkF m 70 #[rv ax, iv 0, iv 3, iv key, iv 3, iv 2, iv 2, iv x2] [(.int 4)]))
  refine go_st (fun t k => XS.ineg X0.here hx rfl (hb hby d3_70) rfl k) ?_
  rw [show (-(4 : Int32)) = (-4 : Int32) from by decide]
  show Go _ _ _ _ (s₁.setTop (mkF m 71 #[rv ax, iv 0, iv 3, iv key, iv 3, iv 2, iv 2, iv x2] [(.int (-4))]))
  obtain ⟨fs, hr, hrun, hended, hW, hsame⟩ := X0.leave (v := some (.int (-4))) (fun h => by rw [Bd.returns] at h; cases h)
  refine ⟨_, _, ?_, hrun, hended, _, _, rfl, ?_, ⟨_, rfl⟩, hW, hsame.mono (by decide) (by decide)⟩
  · exact retI X0 hx Bd.returns (hb hby d3_71) hr
  · show Q_bs0_033 _ _ _ _ _ _ _ _ _ _ s₁.heap _
    rw [e0]
    exact ⟨(-4 : Int32), rfl, N0, rfl, (Or.inr rfl)⟩
def Q_bs_033 (Z : State) (ax : Addr) (kx : ClassId) (key : Int32) (x0 : Int32) (x1 : Int32) (x2 : Int32) (h0 : Heap) (n0 : Nat) (vR : Option Value) (h : Heap) (L : List Loc) : Prop := ∃ (r : Int32), vR = some (.int r) ∧ Fr n0 L ∧ h = h0 ∧ (r = (3 : Int32) ∨ r = (-4 : Int32))
theorem ef_bs_033 (m : MethodId) (x0 : Addr) (x1 : Int32) (x2 : Int32) (x3 : Int32) : entryFrame m #[(.ref x0), (.int x1), (.int x2), (.int x3)] 4 = mkF m 0 #[.val (.ref x0), .val (.int x1), .val (.int x2), .val (.int x3)] [] := by first | (simp [entryFrame, mkF, argsToLocals, Value.category]; done) | rfl
set_option maxRecDepth 65536 in
set_option maxHeartbeats 40000000 in
theorem rm_bs_033 (l : Launch) (Z : State) (a0 : Array Value) (hw : ∀ d ∈ tables_1, d.before a0 Z = true) (ws : List Jvm.Cond) (ax : Addr) (kx : ClassId) (key : Int32) (x0 : Int32) (x1 : Int32) (x2 : Int32) (h0 : Heap) (n0 : Nat) (Z0 : n0 ≤ h0.size) (H0 : Arv Z h0 ax kx .int (64 : Int32) [(.int x0), (.int x1), (.int x2)] (.int (0 : Int32))) (s0 : x0 < x1) (s1 : x1 < x2) (hl : x2 < key) :
    MetFree l (⟨"java/util/Arrays", "binarySearch", "([IIII)I"⟩ : MethodName) (head1 (Jvm.Cond.code (⟨"java/util/Arrays", "binarySearch", "([IIII)I"⟩ : MethodName) jdk_65_method_58_code 4 (some .int) :: ws) ({ frames := 1, cells := 0, slots := 0, locals := 19 } : Room)) (fun a U => a = #[(.ref ax), (.int 0), (.int 3), (.int key)] ∧ Z.Warmed39 U.vm ∧ U.heap = h0) (fun _ _ _ _ _ => True) (fun _ U o U' => ∃ v L, o = .returned v ∧ Q_bs_033 Z ax kx key x0 x1 x2 h0 n0 v U'.heap L ∧ FrameEnd U o U' L ({ frames := 1, cells := 0, slots := 0, locals := 19 } : Room).cells ({ frames := 1, cells := 0, slots := 0, locals := 19 } : Room).slots) := by
  refine MetFree.of_bodySF (plainFor_of_name pn_java_util_Arrays) hisR ?_
  intro p e s m args below meth c s₁ Bd hml0 hP hK
  obtain ⟨rfl, hZ, hh⟩ := hP
  have hx := Bd.exec
  have hby := Bd.bytes
  have hml : c.maxLocals = 4 := hml0
  have hown : s.vm.findClass "java/util/Arrays" = some m.cls := findClass_of_methodNamed Bd.named
  have hnm := (name_of_methodNamed Bd.named Bd.method).1
  have X0 : Stand p l e ({ frames := 1, cells := 0, slots := 0, locals := 19 } : Room) s m #[(.ref ax), (.int 0), (.int 3), (.int key)] below meth c s₁ [] 0 0 := Stand.of_body Bd
  have e0 : s₁.heap = h0 := by rw [← hh, Bd.state]; rfl
  have N0 := Fr.nil n0
  refine go_st (fun t k => castTop (ef_bs_033 m ax (0 : Int32) (3 : Int32) key) k) ?_
  show Go _ _ _ _ (s₁.setTop (mkF m 0 #[rv ax, iv 0, iv 3, iv key] []))
  refine go_st (fun t k => XS.aloadN X0.here hx rfl (hb hby d4_0) rfl rfl k) ?_
  show Go _ _ _ _ (s₁.setTop (mkF m 1 #[rv ax, iv 0, iv 3, iv key] [(.ref ax)]))
  obtain ⟨zc1, zA1, zq1, zS1, zN1, zH1, zG1⟩ := id H0
  refine go_st (fun t k => X0.arraylength hx (by rw [e0]; exact zA1.1) (State.isArrayOf_alike hZ.alike zA1.2.1) (g := (mkF m 1 #[rv ax, iv 0, iv 3, iv key] [(.ref ax)])) rfl rfl (hb hby d4_1) t k) ?_
  rw [len_of zS1 zN1]
  show Go _ _ _ _ (s₁.setTop (mkF m 2 #[rv ax, iv 0, iv 3, iv key] [(.int 64)]))
  refine go_st (fun t k => XS.iloadN X0.here hx rfl (hb hby d4_2) rfl k) ?_
  show Go _ _ _ _ (s₁.setTop (mkF m 3 #[rv ax, iv 0, iv 3, iv key] [(.int 0), (.int 64)]))
  refine go_st (fun t k => XS.iloadN X0.here hx rfl (hb hby d4_3) rfl k) ?_
  show Go _ _ _ _ (s₁.setTop (mkF m 4 #[rv ax, iv 0, iv 3, iv key] [(.int 3), (.int 0), (.int 64)]))
  obtain ⟨_, _, ⟨T2, L2, kk2, nn2⟩, -, X2, ⟨Lc2, hQ2, lq2, yq2, zq2⟩, st2⟩ := Jvm.LawKit.callS X0 hx (y := (⟨"java/util/Arrays", "rangeCheck", "(III)V"⟩ : MethodName)) hown (mvT hZ (w33 hw)) (mvT hZ (w34 hw)) (mvT hZ (w31 hw)) (mvT hZ (w35 hw)) (by decide) (backOf (W := 0) (rm_rc_03 l Z a0 hw []  h0 n0 (Nat.le_trans Z0 (Nat.le_refl _)) ) hZ (w35 hw) (w31 hw) (by decide) (by decide)) (g := (mkF m 4 #[rv ax, iv 0, iv 3, iv key] [(.int 3), (.int 0), (.int 64)])) rfl (by rw [hml]; rfl) (argsL := [(.int 64), (.int 0), (.int 3)]) (rest := []) (lenOf pd_0 rfl) rfl (by show 2 * 0 + _ ≤ _; exact Nat.le_of_eq rfl) (hb hby d4_4) (fun _ _ => ⟨rfl, e0, (by decide : 0 + 0 ≤ _), (by decide : 0 + 0 ≤ _)⟩)
  dsimp only [Pt.U, Pt.locs, Pt.cells, Pt.slots] at X2 lq2 yq2 zq2 st2 hQ2
  subst lq2 yq2 zq2
  obtain ⟨h2, e2⟩ : ∃ z, T2.heap = z := ⟨_, rfl⟩
  rw [e2] at hQ2
  obtain ⟨rfl, N2q, he2⟩ := hQ2
  have N2 := Fr.app N0 N2q
  rw [he2] at e2
  refine go_st st2 ?_
  show Go _ _ _ _ (T2.setTop (mkF m 7 #[rv ax, iv 0, iv 3, iv key] []))
  refine go_st (fun t k => XS.aloadN X2.here hx rfl (hb hby d4_7) rfl rfl k) ?_
  show Go _ _ _ _ (T2.setTop (mkF m 8 #[rv ax, iv 0, iv 3, iv key] [(.ref ax)]))
  refine go_st (fun t k => XS.iloadN X2.here hx rfl (hb hby d4_8) rfl k) ?_
  show Go _ _ _ _ (T2.setTop (mkF m 9 #[rv ax, iv 0, iv 3, iv key] [(.int 0), (.ref ax)]))
  refine go_st (fun t k => XS.iloadN X2.here hx rfl (hb hby d4_9) rfl k) ?_
  show Go _ _ _ _ (T2.setTop (mkF m 10 #[rv ax, iv 0, iv 3, iv key] [(.int 3), (.int 0), (.ref ax)]))
  refine go_st (fun t k => XS.iloadN X2.here hx rfl (hb hby d4_10) rfl k) ?_
  show Go _ _ _ _ (T2.setTop (mkF m 11 #[rv ax, iv 0, iv 3, iv key] [(.int key), (.int 3), (.int 0), (.ref ax)]))
  obtain ⟨_, _, ⟨T3, L3, kk3, nn3⟩, -, X3, ⟨Lc3, hQ3, lq3, yq3, zq3⟩, st3⟩ := Jvm.LawKit.callS X2 hx (y := (⟨"java/util/Arrays", "binarySearch0", "([IIII)I"⟩ : MethodName)) hown (mvT hZ (w36 hw)) (mvT hZ (w37 hw)) (mvT hZ (w31 hw)) (mvT hZ (w38 hw)) (by decide) (backOf (W := 0) (rm_bs0_033 l Z a0 hw [] ax kx key x0 x1 x2 h0 n0 (Nat.le_trans Z0 (Nat.le_refl _)) H0 s0 s1 hl) hZ (w38 hw) (w31 hw) (by decide) (by decide)) (g := (mkF m 11 #[rv ax, iv 0, iv 3, iv key] [(.int key), (.int 3), (.int 0), (.ref ax)])) rfl (by rw [hml]; rfl) (argsL := [(.ref ax), (.int 0), (.int 3), (.int key)]) (rest := []) (lenOf pd_1 rfl) rfl (by show 2 * 0 + _ ≤ _; exact Nat.le_of_eq rfl) (hb hby d4_11) (fun _ _ => ⟨rfl, e2, (by decide : 0 + 0 ≤ _), (by decide : 0 + 0 ≤ _)⟩)
  dsimp only [Pt.U, Pt.locs, Pt.cells, Pt.slots] at X3 lq3 yq3 zq3 st3 hQ3
  subst lq3 yq3 zq3
  obtain ⟨h3, e3⟩ : ∃ z, T3.heap = z := ⟨_, rfl⟩
  rw [e3] at hQ3
  obtain ⟨r_3, rfl, N3q, he3, hres_3⟩ := hQ3
  have N3 := Fr.app N2 N3q
  rw [he3] at e3
  refine go_st st3 ?_
  show Go _ _ _ _ (T3.setTop (mkF m 14 #[rv ax, iv 0, iv 3, iv key] [(.int r_3)]))
  obtain ⟨fs, hr, hrun, hended, hW, hsame⟩ := X3.leave (v := some (.int r_3)) (fun h => by rw [Bd.returns] at h; cases h)
  refine ⟨_, _, ?_, hrun, hended, _, _, rfl, ?_, ⟨_, rfl⟩, hW, hsame.mono (by decide) (by decide)⟩
  · exact retI X3 hx Bd.returns (hb hby d4_14) hr
  · show Q_bs_033 _ _ _ _ _ _ _ _ _ _ T3.heap _
    rw [e3]
    exact ⟨r_3, rfl, N3, rfl, hres_3⟩
def Q_lb_033 (Z : State) (a1 : Addr) (ax : Addr) (al : Addr) (kx : ClassId) (kl : ClassId) (key : Int32) (line : Int32) (x0 : Int32) (x1 : Int32) (x2 : Int32) (l0 : Int32) (l1 : Int32) (l2 : Int32) (h0 : Heap) (n0 : Nat) (vR : Option Value) (h : Heap) (L : List Loc) : Prop := vR = some (.int l2) ∧ Fr n0 L ∧ Keep h0 h [a1] ∧ (Exa Z h a1 "com/example/nudge/nudge/tree/BlockEntries") ∧ (Fld Z h a1 "com/example/nudge/nudge/tree/BlockEntries" "indexes" "[I" (.ref ax)) ∧ (Fld Z h a1 "com/example/nudge/nudge/tree/BlockEntries" "lines" "[I" (.ref al)) ∧ (Fld Z h a1 "com/example/nudge/nudge/tree/BlockEntries" "first" "I" (.int 2)) ∧ (Fld Z h a1 "com/example/nudge/nudge/tree/BlockEntries" "count" "I" (.int 3)) ∧ (Arv Z h ax kx .int (64 : Int32) [(.int x0), (.int x1), (.int x2)] (.int (0 : Int32))) ∧ (Arv Z h al kl .int (64 : Int32) [(.int l0), (.int l1), (.int l2)] (.int (0 : Int32)))
theorem ef_lb_033 (m : MethodId) (x0 : Addr) (x1 : Int32) (x2 : Int32) : entryFrame m #[(.ref x0), (.int x1), (.int x2)] 6 = mkF m 0 #[.val (.ref x0), .val (.int x1), .val (.int x2), .unset, .unset, .unset] [] := by first | (simp [entryFrame, mkF, argsToLocals, Value.category]; done) | rfl
set_option maxRecDepth 65536 in
set_option maxHeartbeats 40000000 in
theorem rm_lb_033 (l : Launch) (Z : State) (a0 : Array Value) (hw : ∀ d ∈ tables_1, d.before a0 Z = true) (ws : List Jvm.Cond) (a1 : Addr) (ax : Addr) (al : Addr) (kx : ClassId) (kl : ClassId) (key : Int32) (line : Int32) (x0 : Int32) (x1 : Int32) (x2 : Int32) (l0 : Int32) (l1 : Int32) (l2 : Int32) (h0 : Heap) (n0 : Nat) (Z0 : n0 ≤ h0.size) (H0 : Exa Z h0 a1 "com/example/nudge/nudge/tree/BlockEntries") (H1 : Fld Z h0 a1 "com/example/nudge/nudge/tree/BlockEntries" "indexes" "[I" (.ref ax)) (H2 : Fld Z h0 a1 "com/example/nudge/nudge/tree/BlockEntries" "lines" "[I" (.ref al)) (H3 : Fld Z h0 a1 "com/example/nudge/nudge/tree/BlockEntries" "first" "I" (.int 0)) (H4 : Fld Z h0 a1 "com/example/nudge/nudge/tree/BlockEntries" "count" "I" (.int 3)) (H5 : Arv Z h0 ax kx .int (64 : Int32) [(.int x0), (.int x1), (.int x2)] (.int (0 : Int32))) (H6 : Arv Z h0 al kl .int (64 : Int32) [(.int l0), (.int l1), (.int l2)] (.int (0 : Int32))) (ne_a1_ax : a1 ≠ ax) (ne_a1_al : a1 ≠ al) (ne_ax_al : ax ≠ al) (g_a1 : n0 ≤ a1) (s0 : x0 < x1) (s1 : x1 < x2) (hl : x2 < key) :
    MetFree l (⟨"com/example/nudge/nudge/tree/BlockEntries", "lineBefore", "(II)I"⟩ : MethodName) (head1 (Jvm.Cond.code (⟨"com/example/nudge/nudge/tree/BlockEntries", "lineBefore", "(II)I"⟩ : MethodName) prog_17_method_3_code 6 (some .int) :: ws) ({ frames := 2, cells := 0, slots := 0, locals := 34 } : Room)) (fun a U => a = #[(.ref a1), (.int key), (.int line)] ∧ Z.Warmed39 U.vm ∧ U.heap = h0) (fun _ _ _ _ _ => True) (fun _ U o U' => ∃ v L, o = .returned v ∧ Q_lb_033 Z a1 ax al kx kl key line x0 x1 x2 l0 l1 l2 h0 n0 v U'.heap L ∧ FrameEnd U o U' L ({ frames := 2, cells := 0, slots := 0, locals := 34 } : Room).cells ({ frames := 2, cells := 0, slots := 0, locals := 34 } : Room).slots) := by
  refine MetFree.of_bodySF (plainFor_of_name pn_com_example_nudge_nudge_tree_BlockEntries) hisR ?_
  intro p e s m args below meth c s₁ Bd hml0 hP hK
  obtain ⟨rfl, hZ, hh⟩ := hP
  have hx := Bd.exec
  have hby := Bd.bytes
  have hml : c.maxLocals = 6 := hml0
  have hown : s.vm.findClass "com/example/nudge/nudge/tree/BlockEntries" = some m.cls := findClass_of_methodNamed Bd.named
  have hnm := (name_of_methodNamed Bd.named Bd.method).1
  have X0 : Stand p l e ({ frames := 2, cells := 0, slots := 0, locals := 34 } : Room) s m #[(.ref a1), (.int key), (.int line)] below meth c s₁ [] 0 0 := Stand.of_body Bd
  have e0 : s₁.heap = h0 := by rw [← hh, Bd.state]; rfl
  have N0 := Fr.nil n0
  refine go_st (fun t k => castTop (ef_lb_033 m a1 key line) k) ?_
  show Go _ _ _ _ (s₁.setTop (mkF m 0 #[rv a1, iv key, iv line, .unset, .unset, .unset] []))
  refine go_st (fun t k => XS.aloadN X0.here hx rfl (hb hby d5_0) rfl rfl k) ?_
  show Go _ _ _ _ (s₁.setTop (mkF m 1 #[rv a1, iv key, iv line, .unset, .unset, .unset] [(.ref a1)]))
  obtain ⟨T1, X1, e1, st1⟩ := getF X0 hx hZ hown (host := "") (Or.inl (w11 hw)) Via.refl e0 H1 (g := (mkF m 1 #[rv a1, iv key, iv line, .unset, .unset, .unset] [(.ref a1)])) rfl rfl (hb hby d5_1)
  refine go_st (fun t k => st1 t k) ?_
  show Go _ _ _ _ (T1.setTop (mkF m 4 #[rv a1, iv key, iv line, .unset, .unset, .unset] [(.ref ax)]))
  refine go_st (fun t k => XS.aloadN X1.here hx rfl (hb hby d5_4) rfl rfl k) ?_
  show Go _ _ _ _ (T1.setTop (mkF m 5 #[rv a1, iv key, iv line, .unset, .unset, .unset] [(.ref a1), (.ref ax)]))
  obtain ⟨T2, X2, e2, st2⟩ := getF X1 hx hZ hown (host := "") (Or.inl (w27 hw)) Via.refl e1 H3 (g := (mkF m 5 #[rv a1, iv key, iv line, .unset, .unset, .unset] [(.ref a1), (.ref ax)])) rfl rfl (hb hby d5_5)
  refine go_st (fun t k => st2 t k) ?_
  show Go _ _ _ _ (T2.setTop (mkF m 8 #[rv a1, iv key, iv line, .unset, .unset, .unset] [(.int 0), (.ref ax)]))
  refine go_st (fun t k => XS.aloadN X2.here hx rfl (hb hby d5_8) rfl rfl k) ?_
  show Go _ _ _ _ (T2.setTop (mkF m 9 #[rv a1, iv key, iv line, .unset, .unset, .unset] [(.ref a1), (.int 0), (.ref ax)]))
  obtain ⟨T3, X3, e3, st3⟩ := getF X2 hx hZ hown (host := "") (Or.inl (w20 hw)) Via.refl e2 H4 (g := (mkF m 9 #[rv a1, iv key, iv line, .unset, .unset, .unset] [(.ref a1), (.int 0), (.ref ax)])) rfl rfl (hb hby d5_9)
  refine go_st (fun t k => st3 t k) ?_
  show Go _ _ _ _ (T3.setTop (mkF m 12 #[rv a1, iv key, iv line, .unset, .unset, .unset] [(.int 3), (.int 0), (.ref ax)]))
  refine go_st (fun t k => XS.iloadN X3.here hx rfl (hb hby d5_12) rfl k) ?_
  show Go _ _ _ _ (T3.setTop (mkF m 13 #[rv a1, iv key, iv line, .unset, .unset, .unset] [(.int key), (.int 3), (.int 0), (.ref ax)]))
  obtain ⟨_, _, ⟨T4, L4, kk4, nn4⟩, -, X4, ⟨Lc4, hQ4, lq4, yq4, zq4⟩, st4⟩ := Jvm.LawKit.callS X3 hx (y := (⟨"java/util/Arrays", "binarySearch", "([IIII)I"⟩ : MethodName)) hown (mvT hZ (w29 hw)) (mvT hZ (w30 hw)) (mvT hZ (w31 hw)) (mvT hZ (w32 hw)) (by decide) (backOf (W := 0) (rm_bs_033 l Z a0 hw [] ax kx key x0 x1 x2 h0 n0 (Nat.le_trans Z0 (Nat.le_refl _)) H5 s0 s1 hl) hZ (w32 hw) (w31 hw) (by decide) (by decide)) (g := (mkF m 13 #[rv a1, iv key, iv line, .unset, .unset, .unset] [(.int key), (.int 3), (.int 0), (.ref ax)])) rfl (by rw [hml]; rfl) (argsL := [(.ref ax), (.int 0), (.int 3), (.int key)]) (rest := []) (lenOf pd_1 rfl) rfl (by show 2 * 0 + _ ≤ _; exact Nat.le_of_eq rfl) (hb hby d5_13) (fun _ _ => ⟨rfl, e3, (by decide : 0 + 0 ≤ _), (by decide : 0 + 0 ≤ _)⟩)
  dsimp only [Pt.U, Pt.locs, Pt.cells, Pt.slots] at X4 lq4 yq4 zq4 st4 hQ4
  subst lq4 yq4 zq4
  obtain ⟨h4, e4⟩ : ∃ z, T4.heap = z := ⟨_, rfl⟩
  rw [e4] at hQ4
  obtain ⟨r_4, rfl, N4q, he4, hres_4⟩ := hQ4
  have N4 := Fr.app N0 N4q
  rw [he4] at e4
  refine go_st st4 ?_
  show Go _ _ _ _ (T4.setTop (mkF m 16 #[rv a1, iv key, iv line, .unset, .unset, .unset] [(.int r_4)]))
  rcases hres_4 with rfl | rfl
  · skip
    show Go _ _ _ _ (T4.setTop (mkF m 16 #[rv a1, iv key, iv line, .unset, .unset, .unset] [(.int 3)]))
    refine go_st (fun t k => XS.istoreN X4.here hx rfl (hb hby d5_16) rfl (l' := #[rv a1, iv key, iv line, iv 3, .unset, .unset]) rfl k) ?_
    show Go _ _ _ _ (T4.setTop (mkF m 17 #[rv a1, iv key, iv line, iv 3, .unset, .unset] []))
    refine go_st (fun t k => XS.iloadN X4.here hx rfl (hb hby d5_17) rfl k) ?_
    show Go _ _ _ _ (T4.setTop (mkF m 18 #[rv a1, iv key, iv line, iv 3, .unset, .unset] [(.int 3)]))
    refine go_st (fun t k => XS.ifNo X4.here hx rfl (hb hby d5_18) rfl ((if0 _ _).trans (flt ((by decide) : ¬ ((3 : Int32) < (0 : Int32)))).1) k) ?_
    show Go _ _ _ _ (T4.setTop (mkF m 21 #[rv a1, iv key, iv line, iv 3, .unset, .unset] []))
    refine go_st (fun t k => XS.iloadN X4.here hx rfl (hb hby d5_21) rfl k) ?_
    show Go _ _ _ _ (T4.setTop (mkF m 22 #[rv a1, iv key, iv line, iv 3, .unset, .unset] [(.int 3)]))
    refine go_st (fun t k => XS.goto X4.here hx rfl (pc0 := 22) (pc' := 29) rfl (hb hby d5_22) (by decide) (by decide) k) ?_
    show Go _ _ _ _ (T4.setTop (mkF m 29 #[rv a1, iv key, iv line, iv 3, .unset, .unset] [(.int 3)]))
    refine go_st (fun t k => XS.iconst X4.here hx rfl (hb hby d5_29) k) ?_
    show Go _ _ _ _ (T4.setTop (mkF m 30 #[rv a1, iv key, iv line, iv 3, .unset, .unset] [(.int 1), (.int 3)]))
    refine go_st (fun t k => XS.isub X4.here hx rfl (hb hby d5_30) rfl k) ?_
    rw [show ((3 : Int32) - (1 : Int32)) = (2 : Int32) from by decide]
    show Go _ _ _ _ (T4.setTop (mkF m 31 #[rv a1, iv key, iv line, iv 3, .unset, .unset] [(.int 2)]))
    refine go_st (fun t k => XS.istore X4.here hx rfl (hb hby d5_31) rfl (l' := #[rv a1, iv key, iv line, iv 3, iv 2, .unset]) rfl k) ?_
    show Go _ _ _ _ (T4.setTop (mkF m 33 #[rv a1, iv key, iv line, iv 3, iv 2, .unset] []))
    refine go_st (fun t k => XS.iloadN X4.here hx rfl (hb hby d5_33) rfl k) ?_
    show Go _ _ _ _ (T4.setTop (mkF m 34 #[rv a1, iv key, iv line, iv 3, iv 2, .unset] [(.int line)]))
    refine go_st (fun t k => XS.istore X4.here hx rfl (hb hby d5_34) rfl (l' := #[rv a1, iv key, iv line, iv 3, iv 2, iv line]) rfl k) ?_
    show Go _ _ _ _ (T4.setTop (mkF m 36 #[rv a1, iv key, iv line, iv 3, iv 2, iv line] []))
    refine go_st (fun t k => XS.iload X4.here hx rfl (hb hby d5_36) rfl k) ?_
    show Go _ _ _ _ (T4.setTop (mkF m 38 #[rv a1, iv key, iv line, iv 3, iv 2, iv line] [(.int 2)]))
    refine go_st (fun t k => XS.aloadN X4.here hx rfl (hb hby d5_38) rfl rfl k) ?_
    show Go _ _ _ _ (T4.setTop (mkF m 39 #[rv a1, iv key, iv line, iv 3, iv 2, iv line] [(.ref a1), (.int 2)]))
    obtain ⟨T5, X5, e5, st5⟩ := getF X4 hx hZ hown (host := "") (Or.inl (w27 hw)) Via.refl e4 H3 (g := (mkF m 39 #[rv a1, iv key, iv line, iv 3, iv 2, iv line] [(.ref a1), (.int 2)])) rfl rfl (hb hby d5_39)
    refine go_st (fun t k => st5 t k) ?_
    show Go _ _ _ _ (T5.setTop (mkF m 42 #[rv a1, iv key, iv line, iv 3, iv 2, iv line] [(.int 0), (.int 2)]))
    refine go_st (fun t k => XS.icmpNo X5.here hx rfl (hb hby d5_42) rfl (flt ((by decide) : ¬ ((2 : Int32) < (0 : Int32)))).1 k) ?_
    show Go _ _ _ _ (T5.setTop (mkF m 45 #[rv a1, iv key, iv line, iv 3, iv 2, iv line] []))
    refine go_st (fun t k => XS.aloadN X5.here hx rfl (hb hby d5_45) rfl rfl k) ?_
    show Go _ _ _ _ (T5.setTop (mkF m 46 #[rv a1, iv key, iv line, iv 3, iv 2, iv line] [(.ref a1)]))
    obtain ⟨T6, X6, e6, st6⟩ := getF X5 hx hZ hown (host := "") (Or.inl (w13 hw)) Via.refl e5 H2 (g := (mkF m 46 #[rv a1, iv key, iv line, iv 3, iv 2, iv line] [(.ref a1)])) rfl rfl (hb hby d5_46)
    refine go_st (fun t k => st6 t k) ?_
    show Go _ _ _ _ (T6.setTop (mkF m 49 #[rv a1, iv key, iv line, iv 3, iv 2, iv line] [(.ref al)]))
    refine go_st (fun t k => XS.iload X6.here hx rfl (hb hby d5_49) rfl k) ?_
    show Go _ _ _ _ (T6.setTop (mkF m 51 #[rv a1, iv key, iv line, iv 3, iv 2, iv line] [(.int 2), (.ref al)]))
    obtain ⟨zc7, zA7, zq7, zS7, zN7, zH7, zG7⟩ := id H6
    have hin7 : ¬ ((2 : Int32) < 0 ∨ zc7.slots.size ≤ ((2 : Int32)).toNatClampNeg) := inb_of zS7 ⟨by decide, by decide⟩
    have hat7 : zc7.slots[((2 : Int32)).toNatClampNeg]? = some (.int l2) := Has.at zH7 hin7 rfl
    refine go_st (fun t k => X6.iaload hx (j := (2 : Int32)) (v := (.int l2)) (by rw [e6]; exact zA7.1) (State.isArrayOf_alike hZ.alike zA7.2.1) zA7.2.2 hin7 hat7 (g := (mkF m 51 #[rv a1, iv key, iv line, iv 3, iv 2, iv line] [(.int 2), (.ref al)])) rfl rfl (hb hby d5_51) t k) ?_
    show Go _ _ _ _ (T6.setTop (mkF m 52 #[rv a1, iv key, iv line, iv 3, iv 2, iv line] [(.int l2)]))
    refine go_st (fun t k => XS.istore X6.here hx rfl (hb hby d5_52) rfl (l' := #[rv a1, iv key, iv line, iv 3, iv 2, iv l2]) rfl k) ?_
    show Go _ _ _ _ (T6.setTop (mkF m 54 #[rv a1, iv key, iv line, iv 3, iv 2, iv l2] []))
    refine go_st (fun t k => XS.aloadN X6.here hx rfl (hb hby d5_54) rfl rfl k) ?_
    show Go _ _ _ _ (T6.setTop (mkF m 55 #[rv a1, iv key, iv line, iv 3, iv 2, iv l2] [(.ref a1)]))
    refine go_st (fun t k => XS.iload X6.here hx rfl (hb hby d5_55) rfl k) ?_
    show Go _ _ _ _ (T6.setTop (mkF m 57 #[rv a1, iv key, iv line, iv 3, iv 2, iv l2] [(.int 2), (.ref a1)]))
    obtain ⟨T8, h8, X8, e8, W8, st8⟩ := putF X6 hx hZ hown (host := "") (Or.inl (w27 hw)) Via.refl e6 H3 H0 (Or.inl (w28 hw)) (w2 hw) (ty := .int) (by decide) rfl rfl (g := (mkF m 57 #[rv a1, iv key, iv line, iv 3, iv 2, iv l2] [(.int 2), (.ref a1)])) rfl rfl (hb hby d5_57)
    have N8 := Fr.snoc X8 N4 g_a1
    have f9 : Fld Z h8 a1 "com/example/nudge/nudge/tree/BlockEntries" "first" "I" (.int 2) := H3.same W8
    refine go_st (fun t k => st8 t k) ?_
    show Go _ _ _ _ (T8.setTop (mkF m 60 #[rv a1, iv key, iv line, iv 3, iv 2, iv l2] []))
    refine go_st (fun t k => XS.iload X8.here hx rfl (hb hby d5_60) rfl k) ?_
    show Go _ _ _ _ (T8.setTop (mkF m 62 #[rv a1, iv key, iv line, iv 3, iv 2, iv l2] [(.int l2)]))
    have f10 : Exa Z h8 a1 "com/example/nudge/nudge/tree/BlockEntries" := (H0.wr W8)
    have f11 : Fld Z h8 a1 "com/example/nudge/nudge/tree/BlockEntries" "indexes" "[I" (.ref ax) := (H1.other W8 (Or.inr (slot_ne (Or.inl (w12 hw)) (Or.inl (w28 hw)) (by decide) (t := (.array .int)) (t' := .int) (by decide) (by decide))))
    have f12 : Fld Z h8 a1 "com/example/nudge/nudge/tree/BlockEntries" "lines" "[I" (.ref al) := (H2.other W8 (Or.inr (slot_ne (Or.inl (w14 hw)) (Or.inl (w28 hw)) (by decide) (t := (.array .int)) (t' := .int) (by decide) (by decide))))
    have f13 : Fld Z h8 a1 "com/example/nudge/nudge/tree/BlockEntries" "count" "I" (.int 3) := (H4.other W8 (Or.inr (slot_ne (Or.inl (w21 hw)) (Or.inl (w28 hw)) (by decide) (t := .int) (t' := .int) (by decide) (by decide))))
    have f14 : Arv Z h8 ax kx .int (64 : Int32) [(.int x0), (.int x1), (.int x2)] (.int (0 : Int32)) := (H5.other W8 (Ne.symm ne_a1_ax))
    have f15 : Arv Z h8 al kl .int (64 : Int32) [(.int l0), (.int l1), (.int l2)] (.int (0 : Int32)) := (H6.other W8 (Ne.symm ne_a1_al))
    have ke16 : Keep h0 h8 [a1] := (Keep.wr (Keep.refl h0 [a1]) W8 (Or.inl (List.mem_of_getElem? (i := 0) rfl)))
    obtain ⟨fs, hr, hrun, hended, hW, hsame⟩ := X8.leave (v := some (.int l2)) (fun h => by rw [Bd.returns] at h; cases h)
    refine ⟨_, _, ?_, hrun, hended, _, _, rfl, ?_, ⟨_, rfl⟩, hW, hsame.mono (by decide) (by decide)⟩
    · exact retI X8 hx Bd.returns (hb hby d5_62) hr
    · show Q_lb_033 _ _ _ _ _ _ _ _ _ _ _ _ _ _ _ _ _ T8.heap _
      rw [e8]
      exact ⟨rfl, N8, ke16, f10, f11, f12, f9, f13, f14, f15⟩
  · skip
    show Go _ _ _ _ (T4.setTop (mkF m 16 #[rv a1, iv key, iv line, .unset, .unset, .unset] [(.int (-4))]))
    refine go_st (fun t k => XS.istoreN X4.here hx rfl (hb hby d5_16) rfl (l' := #[rv a1, iv key, iv line, iv (-4), .unset, .unset]) rfl k) ?_
    show Go _ _ _ _ (T4.setTop (mkF m 17 #[rv a1, iv key, iv line, iv (-4), .unset, .unset] []))
    refine go_st (fun t k => XS.iloadN X4.here hx rfl (hb hby d5_17) rfl k) ?_
    show Go _ _ _ _ (T4.setTop (mkF m 18 #[rv a1, iv key, iv line, iv (-4), .unset, .unset] [(.int (-4))]))
    refine go_st (fun t k => XS.ifYes X4.here hx rfl (pc0 := 18) (pc' := 25) rfl (hb hby d5_18) rfl ((if0 _ _).trans (tlt ((by decide) : (-4 : Int32) < (0 : Int32))).1) (by decide) (by decide) k) ?_
    show Go _ _ _ _ (T4.setTop (mkF m 25 #[rv a1, iv key, iv line, iv (-4), .unset, .unset] []))
    refine go_st (fun t k => XS.iloadN X4.here hx rfl (hb hby d5_25) rfl k) ?_
    show Go _ _ _ _ (T4.setTop (mkF m 26 #[rv a1, iv key, iv line, iv (-4), .unset, .unset] [(.int (-4))]))
    refine go_st (fun t k => XS.ineg X4.here hx rfl (hb hby d5_26) rfl k) ?_
    rw [show (-(-4 : Int32)) = (4 : Int32) from by decide]
    show Go _ _ _ _ (T4.setTop (mkF m 27 #[rv a1, iv key, iv line, iv (-4), .unset, .unset] [(.int 4)]))
    refine go_st (fun t k => XS.iconst X4.here hx rfl (hb hby d5_27) k) ?_
    show Go _ _ _ _ (T4.setTop (mkF m 28 #[rv a1, iv key, iv line, iv (-4), .unset, .unset] [(.int 1), (.int 4)]))
    refine go_st (fun t k => XS.isub X4.here hx rfl (hb hby d5_28) rfl k) ?_
    rw [show ((4 : Int32) - (1 : Int32)) = (3 : Int32) from by decide]
    show Go _ _ _ _ (T4.setTop (mkF m 29 #[rv a1, iv key, iv line, iv (-4), .unset, .unset] [(.int 3)]))
    refine go_st (fun t k => XS.iconst X4.here hx rfl (hb hby d5_29) k) ?_
    show Go _ _ _ _ (T4.setTop (mkF m 30 #[rv a1, iv key, iv line, iv (-4), .unset, .unset] [(.int 1), (.int 3)]))
    refine go_st (fun t k => XS.isub X4.here hx rfl (hb hby d5_30) rfl k) ?_
    rw [show ((3 : Int32) - (1 : Int32)) = (2 : Int32) from by decide]
    show Go _ _ _ _ (T4.setTop (mkF m 31 #[rv a1, iv key, iv line, iv (-4), .unset, .unset] [(.int 2)]))
    refine go_st (fun t k => XS.istore X4.here hx rfl (hb hby d5_31) rfl (l' := #[rv a1, iv key, iv line, iv (-4), iv 2, .unset]) rfl k) ?_
    show Go _ _ _ _ (T4.setTop (mkF m 33 #[rv a1, iv key, iv line, iv (-4), iv 2, .unset] []))
    refine go_st (fun t k => XS.iloadN X4.here hx rfl (hb hby d5_33) rfl k) ?_
    show Go _ _ _ _ (T4.setTop (mkF m 34 #[rv a1, iv key, iv line, iv (-4), iv 2, .unset] [(.int line)]))
    refine go_st (fun t k => XS.istore X4.here hx rfl (hb hby d5_34) rfl (l' := #[rv a1, iv key, iv line, iv (-4), iv 2, iv line]) rfl k) ?_
    show Go _ _ _ _ (T4.setTop (mkF m 36 #[rv a1, iv key, iv line, iv (-4), iv 2, iv line] []))
    refine go_st (fun t k => XS.iload X4.here hx rfl (hb hby d5_36) rfl k) ?_
    show Go _ _ _ _ (T4.setTop (mkF m 38 #[rv a1, iv key, iv line, iv (-4), iv 2, iv line] [(.int 2)]))
    refine go_st (fun t k => XS.aloadN X4.here hx rfl (hb hby d5_38) rfl rfl k) ?_
    show Go _ _ _ _ (T4.setTop (mkF m 39 #[rv a1, iv key, iv line, iv (-4), iv 2, iv line] [(.ref a1), (.int 2)]))
    obtain ⟨T17, X17, e17, st17⟩ := getF X4 hx hZ hown (host := "") (Or.inl (w27 hw)) Via.refl e4 H3 (g := (mkF m 39 #[rv a1, iv key, iv line, iv (-4), iv 2, iv line] [(.ref a1), (.int 2)])) rfl rfl (hb hby d5_39)
    refine go_st (fun t k => st17 t k) ?_
    show Go _ _ _ _ (T17.setTop (mkF m 42 #[rv a1, iv key, iv line, iv (-4), iv 2, iv line] [(.int 0), (.int 2)]))
    refine go_st (fun t k => XS.icmpNo X17.here hx rfl (hb hby d5_42) rfl (flt ((by decide) : ¬ ((2 : Int32) < (0 : Int32)))).1 k) ?_
    show Go _ _ _ _ (T17.setTop (mkF m 45 #[rv a1, iv key, iv line, iv (-4), iv 2, iv line] []))
    refine go_st (fun t k => XS.aloadN X17.here hx rfl (hb hby d5_45) rfl rfl k) ?_
    show Go _ _ _ _ (T17.setTop (mkF m 46 #[rv a1, iv key, iv line, iv (-4), iv 2, iv line] [(.ref a1)]))
    obtain ⟨T18, X18, e18, st18⟩ := getF X17 hx hZ hown (host := "") (Or.inl (w13 hw)) Via.refl e17 H2 (g := (mkF m 46 #[rv a1, iv key, iv line, iv (-4), iv 2, iv line] [(.ref a1)])) rfl rfl (hb hby d5_46)
    refine go_st (fun t k => st18 t k) ?_
    show Go _ _ _ _ (T18.setTop (mkF m 49 #[rv a1, iv key, iv line, iv (-4), iv 2, iv line] [(.ref al)]))
    refine go_st (fun t k => XS.iload X18.here hx rfl (hb hby d5_49) rfl k) ?_
    show Go _ _ _ _ (T18.setTop (mkF m 51 #[rv a1, iv key, iv line, iv (-4), iv 2, iv line] [(.int 2), (.ref al)]))
    obtain ⟨zc19, zA19, zq19, zS19, zN19, zH19, zG19⟩ := id H6
    have hin19 : ¬ ((2 : Int32) < 0 ∨ zc19.slots.size ≤ ((2 : Int32)).toNatClampNeg) := inb_of zS19 ⟨by decide, by decide⟩
    have hat19 : zc19.slots[((2 : Int32)).toNatClampNeg]? = some (.int l2) := Has.at zH19 hin19 rfl
    refine go_st (fun t k => X18.iaload hx (j := (2 : Int32)) (v := (.int l2)) (by rw [e18]; exact zA19.1) (State.isArrayOf_alike hZ.alike zA19.2.1) zA19.2.2 hin19 hat19 (g := (mkF m 51 #[rv a1, iv key, iv line, iv (-4), iv 2, iv line] [(.int 2), (.ref al)])) rfl rfl (hb hby d5_51) t k) ?_
    show Go _ _ _ _ (T18.setTop (mkF m 52 #[rv a1, iv key, iv line, iv (-4), iv 2, iv line] [(.int l2)]))
    refine go_st (fun t k => XS.istore X18.here hx rfl (hb hby d5_52) rfl (l' := #[rv a1, iv key, iv line, iv (-4), iv 2, iv l2]) rfl k) ?_
    show Go _ _ _ _ (T18.setTop (mkF m 54 #[rv a1, iv key, iv line, iv (-4), iv 2, iv l2] []))
    refine go_st (fun t k => XS.aloadN X18.here hx rfl (hb hby d5_54) rfl rfl k) ?_
    show Go _ _ _ _ (T18.setTop (mkF m 55 #[rv a1, iv key, iv line, iv (-4), iv 2, iv l2] [(.ref a1)]))
    refine go_st (fun t k => XS.iload X18.here hx rfl (hb hby d5_55) rfl k) ?_
    show Go _ _ _ _ (T18.setTop (mkF m 57 #[rv a1, iv key, iv line, iv (-4), iv 2, iv l2] [(.int 2), (.ref a1)]))
    obtain ⟨T20, h20, X20, e20, W20, st20⟩ := putF X18 hx hZ hown (host := "") (Or.inl (w27 hw)) Via.refl e18 H3 H0 (Or.inl (w28 hw)) (w2 hw) (ty := .int) (by decide) rfl rfl (g := (mkF m 57 #[rv a1, iv key, iv line, iv (-4), iv 2, iv l2] [(.int 2), (.ref a1)])) rfl rfl (hb hby d5_57)
    have N20 := Fr.snoc X20 N4 g_a1
    have f21 : Fld Z h20 a1 "com/example/nudge/nudge/tree/BlockEntries" "first" "I" (.int 2) := H3.same W20
    refine go_st (fun t k => st20 t k) ?_
    show Go _ _ _ _ (T20.setTop (mkF m 60 #[rv a1, iv key, iv line, iv (-4), iv 2, iv l2] []))
    refine go_st (fun t k => XS.iload X20.here hx rfl (hb hby d5_60) rfl k) ?_
    show Go _ _ _ _ (T20.setTop (mkF m 62 #[rv a1, iv key, iv line, iv (-4), iv 2, iv l2] [(.int l2)]))
    have f22 : Exa Z h20 a1 "com/example/nudge/nudge/tree/BlockEntries" := (H0.wr W20)
    have f23 : Fld Z h20 a1 "com/example/nudge/nudge/tree/BlockEntries" "indexes" "[I" (.ref ax) := (H1.other W20 (Or.inr (slot_ne (Or.inl (w12 hw)) (Or.inl (w28 hw)) (by decide) (t := (.array .int)) (t' := .int) (by decide) (by decide))))
    have f24 : Fld Z h20 a1 "com/example/nudge/nudge/tree/BlockEntries" "lines" "[I" (.ref al) := (H2.other W20 (Or.inr (slot_ne (Or.inl (w14 hw)) (Or.inl (w28 hw)) (by decide) (t := (.array .int)) (t' := .int) (by decide) (by decide))))
    have f25 : Fld Z h20 a1 "com/example/nudge/nudge/tree/BlockEntries" "count" "I" (.int 3) := (H4.other W20 (Or.inr (slot_ne (Or.inl (w21 hw)) (Or.inl (w28 hw)) (by decide) (t := .int) (t' := .int) (by decide) (by decide))))
    have f26 : Arv Z h20 ax kx .int (64 : Int32) [(.int x0), (.int x1), (.int x2)] (.int (0 : Int32)) := (H5.other W20 (Ne.symm ne_a1_ax))
    have f27 : Arv Z h20 al kl .int (64 : Int32) [(.int l0), (.int l1), (.int l2)] (.int (0 : Int32)) := (H6.other W20 (Ne.symm ne_a1_al))
    have ke28 : Keep h0 h20 [a1] := (Keep.wr (Keep.refl h0 [a1]) W20 (Or.inl (List.mem_of_getElem? (i := 0) rfl)))
    obtain ⟨fs, hr, hrun, hended, hW, hsame⟩ := X20.leave (v := some (.int l2)) (fun h => by rw [Bd.returns] at h; cases h)
    refine ⟨_, _, ?_, hrun, hended, _, _, rfl, ?_, ⟨_, rfl⟩, hW, hsame.mono (by decide) (by decide)⟩
    · exact retI X20 hx Bd.returns (hb hby d5_62) hr
    · show Q_lb_033 _ _ _ _ _ _ _ _ _ _ _ _ _ _ _ _ _ T20.heap _
      rw [e20]
      exact ⟨rfl, N20, ke28, f22, f23, f24, f21, f25, f26, f27⟩
def Q_rc_13 (Z : State)  (h0 : Heap) (n0 : Nat) (vR : Option Value) (h : Heap) (L : List Loc) : Prop := vR = none ∧ Fr n0 L ∧ h = h0
theorem ef_rc_13 (m : MethodId) (x0 : Int32) (x1 : Int32) (x2 : Int32) : entryFrame m #[(.int x0), (.int x1), (.int x2)] 3 = mkF m 0 #[.val (.int x0), .val (.int x1), .val (.int x2)] [] := by first | (simp [entryFrame, mkF, argsToLocals, Value.category]; done) | rfl
set_option maxRecDepth 65536 in
set_option maxHeartbeats 40000000 in
theorem rm_rc_13 (l : Launch) (Z : State) (a0 : Array Value) (hw : ∀ d ∈ tables_1, d.before a0 Z = true) (ws : List Jvm.Cond)  (h0 : Heap) (n0 : Nat) (Z0 : n0 ≤ h0.size)  :
    MetFree l (⟨"java/util/Arrays", "rangeCheck", "(III)V"⟩ : MethodName) (head1 (Jvm.Cond.code (⟨"java/util/Arrays", "rangeCheck", "(III)V"⟩ : MethodName) jdk_65_method_30_code 3 none :: ws) ({ frames := 0, cells := 0, slots := 0, locals := 0 } : Room)) (fun a U => a = #[(.int 64), (.int 1), (.int 3)] ∧ Z.Warmed39 U.vm ∧ U.heap = h0) (fun _ _ _ _ _ => True) (fun _ U o U' => ∃ v L, o = .returned v ∧ Q_rc_13 Z h0 n0 v U'.heap L ∧ FrameEnd U o U' L ({ frames := 0, cells := 0, slots := 0, locals := 0 } : Room).cells ({ frames := 0, cells := 0, slots := 0, locals := 0 } : Room).slots) := by
  refine MetFree.of_bodySF (plainFor_of_name pn_java_util_Arrays) hisR ?_
  intro p e s m args below meth c s₁ Bd hml0 hP hK
  obtain ⟨rfl, hZ, hh⟩ := hP
  have hx := Bd.exec
  have hby := Bd.bytes
  have hml : c.maxLocals = 3 := hml0
  have hown : s.vm.findClass "java/util/Arrays" = some m.cls := findClass_of_methodNamed Bd.named
  have hnm := (name_of_methodNamed Bd.named Bd.method).1
  have X0 : Stand p l e ({ frames := 0, cells := 0, slots := 0, locals := 0 } : Room) s m #[(.int 64), (.int 1), (.int 3)] below meth c s₁ [] 0 0 := Stand.of_body Bd
  have e0 : s₁.heap = h0 := by rw [← hh, Bd.state]; rfl
  have N0 := Fr.nil n0
  refine go_st (fun t k => castTop (ef_rc_13 m (64 : Int32) (1 : Int32) (3 : Int32)) k) ?_
  show Go _ _ _ _ (s₁.setTop (mkF m 0 #[iv 64, iv 1, iv 3] []))
  refine go_st (fun t k => XS.iloadN X0.here hx rfl (hb hby d2_0) rfl k) ?_
  show Go _ _ _ _ (s₁.setTop (mkF m 1 #[iv 64, iv 1, iv 3] [(.int 1)]))
  refine go_st (fun t k => XS.iloadN X0.here hx rfl (hb hby d2_1) rfl k) ?_
  show Go _ _ _ _ (s₁.setTop (mkF m 2 #[iv 64, iv 1, iv 3] [(.int 3), (.int 1)]))
  refine go_st (fun t k => XS.icmpYes X0.here hx rfl (pc0 := 2) (pc' := 46) rfl (hb hby d2_2) rfl (flt ((by decide) : ¬ ((3 : Int32) < (1 : Int32)))).2.2.2 (by decide) (by decide) k) ?_
  show Go _ _ _ _ (s₁.setTop (mkF m 46 #[iv 64, iv 1, iv 3] []))
  refine go_st (fun t k => XS.iloadN X0.here hx rfl (hb hby d2_46) rfl k) ?_
  show Go _ _ _ _ (s₁.setTop (mkF m 47 #[iv 64, iv 1, iv 3] [(.int 1)]))
  refine go_st (fun t k => XS.ifYes X0.here hx rfl (pc0 := 47) (pc' := 59) rfl (hb hby d2_47) rfl ((if0 _ _).trans (flt ((by decide) : ¬ ((1 : Int32) < (0 : Int32)))).2.1) (by decide) (by decide) k) ?_
  show Go _ _ _ _ (s₁.setTop (mkF m 59 #[iv 64, iv 1, iv 3] []))
  refine go_st (fun t k => XS.iloadN X0.here hx rfl (hb hby d2_59) rfl k) ?_
  show Go _ _ _ _ (s₁.setTop (mkF m 60 #[iv 64, iv 1, iv 3] [(.int 3)]))
  refine go_st (fun t k => XS.iloadN X0.here hx rfl (hb hby d2_60) rfl k) ?_
  show Go _ _ _ _ (s₁.setTop (mkF m 61 #[iv 64, iv 1, iv 3] [(.int 64), (.int 3)]))
  refine go_st (fun t k => XS.icmpYes X0.here hx rfl (pc0 := 61) (pc' := 73) rfl (hb hby d2_61) rfl (flt ((by decide) : ¬ ((64 : Int32) < (3 : Int32)))).2.2.2 (by decide) (by decide) k) ?_
  show Go _ _ _ _ (s₁.setTop (mkF m 73 #[iv 64, iv 1, iv 3] []))
  obtain ⟨fs, hr, hrun, hended, hW, hsame⟩ := X0.leave (v := none) (fun _ => rfl)
  refine ⟨_, _, ?_, hrun, hended, _, _, rfl, ?_, ⟨_, rfl⟩, hW, hsame.mono (by decide) (by decide)⟩
  · exact X0.returnOut hx Bd.returns (hb hby d2_73) hr
  · show Q_rc_13 _ _ _ _ s₁.heap _
    rw [e0]
    exact ⟨rfl, N0, rfl⟩
def Q_bs0_133 (Z : State) (ax : Addr) (kx : ClassId) (key : Int32) (x0 : Int32) (x1 : Int32) (x2 : Int32) (h0 : Heap) (n0 : Nat) (vR : Option Value) (h : Heap) (L : List Loc) : Prop := ∃ (r : Int32), vR = some (.int r) ∧ Fr n0 L ∧ h = h0 ∧ (r = (3 : Int32) ∨ r = (-4 : Int32))
theorem ef_bs0_133 (m : MethodId) (x0 : Addr) (x1 : Int32) (x2 : Int32) (x3 : Int32) : entryFrame m #[(.ref x0), (.int x1), (.int x2), (.int x3)] 8 = mkF m 0 #[.val (.ref x0), .val (.int x1), .val (.int x2), .val (.int x3), .unset, .unset, .unset, .unset] [] := by first | (simp [entryFrame, mkF, argsToLocals, Value.category]; done) | rfl
set_option maxRecDepth 65536 in
set_option maxHeartbeats 40000000 in
theorem rm_bs0_133 (l : Launch) (Z : State) (a0 : Array Value) (hw : ∀ d ∈ tables_1, d.before a0 Z = true) (ws : List Jvm.Cond) (ax : Addr) (kx : ClassId) (key : Int32) (x0 : Int32) (x1 : Int32) (x2 : Int32) (h0 : Heap) (n0 : Nat) (Z0 : n0 ≤ h0.size) (H0 : Arv Z h0 ax kx .int (64 : Int32) [(.int x0), (.int x1), (.int x2)] (.int (0 : Int32))) (s1 : x1 < x2) (hl : x2 < key) :
    MetFree l (⟨"java/util/Arrays", "binarySearch0", "([IIII)I"⟩ : MethodName) (head1 (Jvm.Cond.code (⟨"java/util/Arrays", "binarySearch0", "([IIII)I"⟩ : MethodName) jdk_65_method_59_code 8 (some .int) :: ws) ({ frames := 0, cells := 0, slots := 0, locals := 0 } : Room)) (fun a U => a = #[(.ref ax), (.int 1), (.int 3), (.int key)] ∧ Z.Warmed39 U.vm ∧ U.heap = h0) (fun _ _ _ _ _ => True) (fun _ U o U' => ∃ v L, o = .returned v ∧ Q_bs0_133 Z ax kx key x0 x1 x2 h0 n0 v U'.heap L ∧ FrameEnd U o U' L ({ frames := 0, cells := 0, slots := 0, locals := 0 } : Room).cells ({ frames := 0, cells := 0, slots := 0, locals := 0 } : Room).slots) := by
  refine MetFree.of_bodySF (plainFor_of_name pn_java_util_Arrays) hisR ?_
  intro p e s m args below meth c s₁ Bd hml0 hP hK
  obtain ⟨rfl, hZ, hh⟩ := hP
  have hx := Bd.exec
  have hby := Bd.bytes
  have hml : c.maxLocals = 8 := hml0
  have hown : s.vm.findClass "java/util/Arrays" = some m.cls := findClass_of_methodNamed Bd.named
  have hnm := (name_of_methodNamed Bd.named Bd.method).1
  have X0 : Stand p l e ({ frames := 0, cells := 0, slots := 0, locals := 0 } : Room) s m #[(.ref ax), (.int 1), (.int 3), (.int key)] below meth c s₁ [] 0 0 := Stand.of_body Bd
  have e0 : s₁.heap = h0 := by rw [← hh, Bd.state]; rfl
  have N0 := Fr.nil n0
  refine go_st (fun t k => castTop (ef_bs0_133 m ax (1 : Int32) (3 : Int32) key) k) ?_
  show Go _ _ _ _ (s₁.setTop (mkF m 0 #[rv ax, iv 1, iv 3, iv key, .unset, .unset, .unset, .unset] []))
  refine go_st (fun t k => XS.iloadN X0.here hx rfl (hb hby d3_0) rfl k) ?_
  show Go _ _ _ _ (s₁.setTop (mkF m 1 #[rv ax, iv 1, iv 3, iv key, .unset, .unset, .unset, .unset] [(.int 1)]))
  refine go_st (fun t k => XS.istore X0.here hx rfl (hb hby d3_1) rfl (l' := #[rv ax, iv 1, iv 3, iv key, iv 1, .unset, .unset, .unset]) rfl k) ?_
  show Go _ _ _ _ (s₁.setTop (mkF m 3 #[rv ax, iv 1, iv 3, iv key, iv 1, .unset, .unset, .unset] []))
  refine go_st (fun t k => XS.iloadN X0.here hx rfl (hb hby d3_3) rfl k) ?_
  show Go _ _ _ _ (s₁.setTop (mkF m 4 #[rv ax, iv 1, iv 3, iv key, iv 1, .unset, .unset, .unset] [(.int 3)]))
  refine go_st (fun t k => XS.iconst X0.here hx rfl (hb hby d3_4) k) ?_
  show Go _ _ _ _ (s₁.setTop (mkF m 5 #[rv ax, iv 1, iv 3, iv key, iv 1, .unset, .unset, .unset] [(.int 1), (.int 3)]))
  refine go_st (fun t k => XS.isub X0.here hx rfl (hb hby d3_5) rfl k) ?_
  rw [show ((3 : Int32) - (1 : Int32)) = (2 : Int32) from by decide]
  show Go _ _ _ _ (s₁.setTop (mkF m 6 #[rv ax, iv 1, iv 3, iv key, iv 1, .unset, .unset, .unset] [(.int 2)]))
  refine go_st (fun t k => XS.istore X0.here hx rfl (hb hby d3_6) rfl (l' := #[rv ax, iv 1, iv 3, iv key, iv 1, iv 2, .unset, .unset]) rfl k) ?_
  show Go _ _ _ _ (s₁.setTop (mkF m 8 #[rv ax, iv 1, iv 3, iv key, iv 1, iv 2, .unset, .unset] []))
  refine go_st (fun t k => XS.iload X0.here hx rfl (hb hby d3_8) rfl k) ?_
  show Go _ _ _ _ (s₁.setTop (mkF m 10 #[rv ax, iv 1, iv 3, iv key, iv 1, iv 2, .unset, .unset] [(.int 1)]))
  refine go_st (fun t k => XS.iload X0.here hx rfl (hb hby d3_10) rfl k) ?_
  show Go _ _ _ _ (s₁.setTop (mkF m 12 #[rv ax, iv 1, iv 3, iv key, iv 1, iv 2, .unset, .unset] [(.int 2), (.int 1)]))
  refine go_st (fun t k => XS.icmpNo X0.here hx rfl (hb hby d3_12) rfl (flt ((by decide) : ¬ ((2 : Int32) < (1 : Int32)))).2.2.1 k) ?_
  show Go _ _ _ _ (s₁.setTop (mkF m 15 #[rv ax, iv 1, iv 3, iv key, iv 1, iv 2, .unset, .unset] []))
  refine go_st (fun t k => XS.iload X0.here hx rfl (hb hby d3_15) rfl k) ?_
  show Go _ _ _ _ (s₁.setTop (mkF m 17 #[rv ax, iv 1, iv 3, iv key, iv 1, iv 2, .unset, .unset] [(.int 1)]))
  refine go_st (fun t k => XS.iload X0.here hx rfl (hb hby d3_17) rfl k) ?_
  show Go _ _ _ _ (s₁.setTop (mkF m 19 #[rv ax, iv 1, iv 3, iv key, iv 1, iv 2, .unset, .unset] [(.int 2), (.int 1)]))
  refine go_st (fun t k => XS.iadd X0.here hx rfl (hb hby d3_19) rfl k) ?_
  rw [show ((1 : Int32) + (2 : Int32)) = (3 : Int32) from by decide]
  show Go _ _ _ _ (s₁.setTop (mkF m 20 #[rv ax, iv 1, iv 3, iv key, iv 1, iv 2, .unset, .unset] [(.int 3)]))
  refine go_st (fun t k => XS.iconst X0.here hx rfl (hb hby d3_20) k) ?_
  show Go _ _ _ _ (s₁.setTop (mkF m 21 #[rv ax, iv 1, iv 3, iv key, iv 1, iv 2, .unset, .unset] [(.int 1), (.int 3)]))
  refine go_st (fun t k => XS.iushr X0.here hx rfl (hb hby d3_21) rfl k) ?_
  rw [show (((3 : Int32)).toUInt32 >>> ((1 : Int32) &&& 31).toUInt32).toInt32 = (1 : Int32) from by decide]
  show Go _ _ _ _ (s₁.setTop (mkF m 22 #[rv ax, iv 1, iv 3, iv key, iv 1, iv 2, .unset, .unset] [(.int 1)]))
  refine go_st (fun t k => XS.istore X0.here hx rfl (hb hby d3_22) rfl (l' := #[rv ax, iv 1, iv 3, iv key, iv 1, iv 2, iv 1, .unset]) rfl k) ?_
  show Go _ _ _ _ (s₁.setTop (mkF m 24 #[rv ax, iv 1, iv 3, iv key, iv 1, iv 2, iv 1, .unset] []))
  refine go_st (fun t k => XS.aloadN X0.here hx rfl (hb hby d3_24) rfl rfl k) ?_
  show Go _ _ _ _ (s₁.setTop (mkF m 25 #[rv ax, iv 1, iv 3, iv key, iv 1, iv 2, iv 1, .unset] [(.ref ax)]))
  refine go_st (fun t k => XS.iload X0.here hx rfl (hb hby d3_25) rfl k) ?_
  show Go _ _ _ _ (s₁.setTop (mkF m 27 #[rv ax, iv 1, iv 3, iv key, iv 1, iv 2, iv 1, .unset] [(.int 1), (.ref ax)]))
  obtain ⟨zc1, zA1, zq1, zS1, zN1, zH1, zG1⟩ := id H0
  have hin1 : ¬ ((1 : Int32) < 0 ∨ zc1.slots.size ≤ ((1 : Int32)).toNatClampNeg) := inb_of zS1 ⟨by decide, by decide⟩
  have hat1 : zc1.slots[((1 : Int32)).toNatClampNeg]? = some (.int x1) := Has.at zH1 hin1 rfl
  refine go_st (fun t k => X0.iaload hx (j := (1 : Int32)) (v := (.int x1)) (by rw [e0]; exact zA1.1) (State.isArrayOf_alike hZ.alike zA1.2.1) zA1.2.2 hin1 hat1 (g := (mkF m 27 #[rv ax, iv 1, iv 3, iv key, iv 1, iv 2, iv 1, .unset] [(.int 1), (.ref ax)])) rfl rfl (hb hby d3_27) t k) ?_
  show Go _ _ _ _ (s₁.setTop (mkF m 28 #[rv ax, iv 1, iv 3, iv key, iv 1, iv 2, iv 1, .unset] [(.int x1)]))
  refine go_st (fun t k => XS.istore X0.here hx rfl (hb hby d3_28) rfl (l' := #[rv ax, iv 1, iv 3, iv key, iv 1, iv 2, iv 1, iv x1]) rfl k) ?_
  show Go _ _ _ _ (s₁.setTop (mkF m 30 #[rv ax, iv 1, iv 3, iv key, iv 1, iv 2, iv 1, iv x1] []))
  refine go_st (fun t k => XS.iload X0.here hx rfl (hb hby d3_30) rfl k) ?_
  show Go _ _ _ _ (s₁.setTop (mkF m 32 #[rv ax, iv 1, iv 3, iv key, iv 1, iv 2, iv 1, iv x1] [(.int x1)]))
  refine go_st (fun t k => XS.iloadN X0.here hx rfl (hb hby d3_32) rfl k) ?_
  show Go _ _ _ _ (s₁.setTop (mkF m 33 #[rv ax, iv 1, iv 3, iv key, iv 1, iv 2, iv 1, iv x1] [(.int key), (.int x1)]))
  refine go_st (fun t k => XS.icmpNo X0.here hx rfl (hb hby d3_33) rfl (tlt ((pl_tr s1 hl) : x1 < key)).2.1 k) ?_
  show Go _ _ _ _ (s₁.setTop (mkF m 36 #[rv ax, iv 1, iv 3, iv key, iv 1, iv 2, iv 1, iv x1] []))
  refine go_st (fun t k => XS.iload X0.here hx rfl (hb hby d3_36) rfl k) ?_
  show Go _ _ _ _ (s₁.setTop (mkF m 38 #[rv ax, iv 1, iv 3, iv key, iv 1, iv 2, iv 1, iv x1] [(.int 1)]))
  refine go_st (fun t k => XS.iconst X0.here hx rfl (hb hby d3_38) k) ?_
  show Go _ _ _ _ (s₁.setTop (mkF m 39 #[rv ax, iv 1, iv 3, iv key, iv 1, iv 2, iv 1, iv x1] [(.int 1), (.int 1)]))
  refine go_st (fun t k => XS.iadd X0.here hx rfl (hb hby d3_39) rfl k) ?_
  rw [show ((1 : Int32) + (1 : Int32)) = (2 : Int32) from by decide]
  show Go _ _ _ _ (s₁.setTop (mkF m 40 #[rv ax, iv 1, iv 3, iv key, iv 1, iv 2, iv 1, iv x1] [(.int 2)]))
  refine go_st (fun t k => XS.istore X0.here hx rfl (hb hby d3_40) rfl (l' := #[rv ax, iv 1, iv 3, iv key, iv 2, iv 2, iv 1, iv x1]) rfl k) ?_
  show Go _ _ _ _ (s₁.setTop (mkF m 42 #[rv ax, iv 1, iv 3, iv key, iv 2, iv 2, iv 1, iv x1] []))
  refine go_st (fun t k => XS.goto X0.here hx rfl (pc0 := 42) (pc' := 63) rfl (hb hby d3_42) (by decide) (by decide) k) ?_
  show Go _ _ _ _ (s₁.setTop (mkF m 63 #[rv ax, iv 1, iv 3, iv key, iv 2, iv 2, iv 1, iv x1] []))
  refine go_st (fun t k => XS.goto X0.here hx rfl (pc0 := 63) (pc' := 8) rfl (hb hby d3_63) (by decide) (by decide) k) ?_
  show Go _ _ _ _ (s₁.setTop (mkF m 8 #[rv ax, iv 1, iv 3, iv key, iv 2, iv 2, iv 1, iv x1] []))
  refine go_st (fun t k => XS.iload X0.here hx rfl (hb hby d3_8) rfl k) ?_
  show Go _ _ _ _ (s₁.setTop (mkF m 10 #[rv ax, iv 1, iv 3, iv key, iv 2, iv 2, iv 1, iv x1] [(.int 2)]))
  refine go_st (fun t k => XS.iload X0.here hx rfl (hb hby d3_10) rfl k) ?_
  show Go _ _ _ _ (s₁.setTop (mkF m 12 #[rv ax, iv 1, iv 3, iv key, iv 2, iv 2, iv 1, iv x1] [(.int 2), (.int 2)]))
  refine go_st (fun t k => XS.icmpNo X0.here hx rfl (hb hby d3_12) rfl (flt ((by decide) : ¬ ((2 : Int32) < (2 : Int32)))).2.2.1 k) ?_
  show Go _ _ _ _ (s₁.setTop (mkF m 15 #[rv ax, iv 1, iv 3, iv key, iv 2, iv 2, iv 1, iv x1] []))
  refine go_st (fun t k => XS.iload X0.here hx rfl (hb hby d3_15) rfl k) ?_
  show Go _ _ _ _ (s₁.setTop (mkF m 17 #[rv ax, iv 1, iv 3, iv key, iv 2, iv 2, iv 1, iv x1] [(.int 2)]))
  refine go_st (fun t k => XS.iload X0.here hx rfl (hb hby d3_17) rfl k) ?_
  show Go _ _ _ _ (s₁.setTop (mkF m 19 #[rv ax, iv 1, iv 3, iv key, iv 2, iv 2, iv 1, iv x1] [(.int 2), (.int 2)]))
  refine go_st (fun t k => XS.iadd X0.here hx rfl (hb hby d3_19) rfl k) ?_
  rw [show ((2 : Int32) + (2 : Int32)) = (4 : Int32) from by decide]
  show Go _ _ _ _ (s₁.setTop (mkF m 20 #[rv ax, iv 1, iv 3, iv key, iv 2, iv 2, iv 1, iv x1] [(.int 4)]))
  refine go_st (fun t k => XS.iconst X0.here hx rfl (hb hby d3_20) k) ?_
  show Go _ _ _ _ (s₁.setTop (mkF m 21 #[rv ax, iv 1, iv 3, iv key, iv 2, iv 2, iv 1, iv x1] [(.int 1), (.int 4)]))
  refine go_st (fun t k => XS.iushr X0.here hx rfl (hb hby d3_21) rfl k) ?_
  rw [show (((4 : Int32)).toUInt32 >>> ((1 : Int32) &&& 31).toUInt32).toInt32 = (2 : Int32) from by decide]
  show Go _ _ _ _ (s₁.setTop (mkF m 22 #[rv ax, iv 1, iv 3, iv key, iv 2, iv 2, iv 1, iv x1] [(.int 2)]))
  refine go_st (fun t k => XS.istore X0.here hx rfl (hb hby d3_22) rfl (l' := #[rv ax, iv 1, iv 3, iv key, iv 2, iv 2, iv 2, iv x1]) rfl k) ?_
  show Go _ _ _ _ (s₁.setTop (mkF m 24 #[rv ax, iv 1, iv 3, iv key, iv 2, iv 2, iv 2, iv x1] []))
  refine go_st (fun t k => XS.aloadN X0.here hx rfl (hb hby d3_24) rfl rfl k) ?_
  show Go _ _ _ _ (s₁.setTop (mkF m 25 #[rv ax, iv 1, iv 3, iv key, iv 2, iv 2, iv 2, iv x1] [(.ref ax)]))
  refine go_st (fun t k => XS.iload X0.here hx rfl (hb hby d3_25) rfl k) ?_
  show Go _ _ _ _ (s₁.setTop (mkF m 27 #[rv ax, iv 1, iv 3, iv key, iv 2, iv 2, iv 2, iv x1] [(.int 2), (.ref ax)]))
  obtain ⟨zc2, zA2, zq2, zS2, zN2, zH2, zG2⟩ := id H0
  have hin2 : ¬ ((2 : Int32) < 0 ∨ zc2.slots.size ≤ ((2 : Int32)).toNatClampNeg) := inb_of zS2 ⟨by decide, by decide⟩
  have hat2 : zc2.slots[((2 : Int32)).toNatClampNeg]? = some (.int x2) := Has.at zH2 hin2 rfl
  refine go_st (fun t k => X0.iaload hx (j := (2 : Int32)) (v := (.int x2)) (by rw [e0]; exact zA2.1) (State.isArrayOf_alike hZ.alike zA2.2.1) zA2.2.2 hin2 hat2 (g := (mkF m 27 #[rv ax, iv 1, iv 3, iv key, iv 2, iv 2, iv 2, iv x1] [(.int 2), (.ref ax)])) rfl rfl (hb hby d3_27) t k) ?_
  show Go _ _ _ _ (s₁.setTop (mkF m 28 #[rv ax, iv 1, iv 3, iv key, iv 2, iv 2, iv 2, iv x1] [(.int x2)]))
  refine go_st (fun t k => XS.istore X0.here hx rfl (hb hby d3_28) rfl (l' := #[rv ax, iv 1, iv 3, iv key, iv 2, iv 2, iv 2, iv x2]) rfl k) ?_
  show Go _ _ _ _ (s₁.setTop (mkF m 30 #[rv ax, iv 1, iv 3, iv key, iv 2, iv 2, iv 2, iv x2] []))
  refine go_st (fun t k => XS.iload X0.here hx rfl (hb hby d3_30) rfl k) ?_
  show Go _ _ _ _ (s₁.setTop (mkF m 32 #[rv ax, iv 1, iv 3, iv key, iv 2, iv 2, iv 2, iv x2] [(.int x2)]))
  refine go_st (fun t k => XS.iloadN X0.here hx rfl (hb hby d3_32) rfl k) ?_
  show Go _ _ _ _ (s₁.setTop (mkF m 33 #[rv ax, iv 1, iv 3, iv key, iv 2, iv 2, iv 2, iv x2] [(.int key), (.int x2)]))
  refine go_st (fun t k => XS.icmpNo X0.here hx rfl (hb hby d3_33) rfl (tlt (hl : x2 < key)).2.1 k) ?_
  show Go _ _ _ _ (s₁.setTop (mkF m 36 #[rv ax, iv 1, iv 3, iv key, iv 2, iv 2, iv 2, iv x2] []))
  refine go_st (fun t k => XS.iload X0.here hx rfl (hb hby d3_36) rfl k) ?_
  show Go _ _ _ _ (s₁.setTop (mkF m 38 #[rv ax, iv 1, iv 3, iv key, iv 2, iv 2, iv 2, iv x2] [(.int 2)]))
  refine go_st (fun t k => XS.iconst X0.here hx rfl (hb hby d3_38) k) ?_
  show Go _ _ _ _ (s₁.setTop (mkF m 39 #[rv ax, iv 1, iv 3, iv key, iv 2, iv 2, iv 2, iv x2] [(.int 1), (.int 2)]))
  refine go_st (fun t k => XS.iadd X0.here hx rfl (hb hby d3_39) rfl k) ?_
  rw [show ((2 : Int32) + (1 : Int32)) = (3 : Int32) from by decide]
  show Go _ _ _ _ (s₁.setTop (mkF m 40 #[rv ax, iv 1, iv 3, iv key, iv 2, iv 2, iv 2, iv x2] [(.int 3)]))
  refine go_st (fun t k => XS.istore X0.here hx rfl (hb hby d3_40) rfl (l' := #[rv ax, iv 1, iv 3, iv key, iv 3, iv 2, iv 2, iv x2]) rfl k) ?_
  show Go _ _ _ _ (s₁.setTop (mkF m 42 #[rv ax, iv 1, iv 3, iv key, iv 3, iv 2, iv 2, iv x2] []))
  refine go_st (fun t k => XS.goto X0.here hx rfl (pc0 := 42) (pc' := 63) rfl (hb hby d3_42) (by decide) (by decide) k) ?_
  show Go _ _ _ _ (s₁.setTop (mkF m 63 #[rv ax, iv 1, iv 3, iv key, iv 3, iv 2, iv 2, iv x2] []))
  refine go_st (fun t k => XS.goto X0.here hx rfl (pc0 := 63) (pc' := 8) rfl (hb hby d3_63) (by decide) (by decide) k) ?_
  show Go _ _ _ _ (s₁.setTop (mkF m 8 #[rv ax, iv 1, iv 3, iv key, iv 3, iv 2, iv 2, iv x2] []))
  refine go_st (fun t k => XS.iload X0.here hx rfl (hb hby d3_8) rfl k) ?_
  show Go _ _ _ _ (s₁.setTop (mkF m 10 #[rv ax, iv 1, iv 3, iv key, iv 3, iv 2, iv 2, iv x2] [(.int 3)]))
  refine go_st (fun t k => XS.iload X0.here hx rfl (hb hby d3_10) rfl k) ?_
  show Go _ _ _ _ (s₁.setTop (mkF m 12 #[rv ax, iv 1, iv 3, iv key, iv 3, iv 2, iv 2, iv x2] [(.int 2), (.int 3)]))
  refine go_st (fun t k => XS.icmpYes X0.here hx rfl (pc0 := 12) (pc' := 66) rfl (hb hby d3_12) rfl (tlt ((by decide) : (2 : Int32) < (3 : Int32))).2.2.1 (by decide) (by decide) k) ?_
  show Go _ _ _ _ (s₁.setTop (mkF m 66 #[rv ax, iv 1, iv 3, iv key, iv 3, iv 2, iv 2, iv x2] []))
  refine go_st (fun t k => XS.iload X0.here hx rfl (hb hby d3_66) rfl k) ?_
  show Go _ _ _ _ (s₁.setTop (mkF m 68 #[rv ax, iv 1, iv 3, iv key, iv 3, iv 2, iv 2, iv x2] [(.int 3)]))
  refine go_st (fun t k => XS.iconst X0.here hx rfl (hb hby d3_68) k) ?_
  show Go _ _ _ _ (s₁.setTop (mkF m 69 #[rv ax, iv 1, iv 3, iv key, iv 3, iv 2, iv 2, iv x2] [(.int 1), (.int 3)]))
  refine go_st (fun t k => XS.iadd X0.here hx rfl (hb hby d3_69) rfl k) ?_
  rw [show ((3 : Int32) + (1 : Int32)) = (4 : Int32) from by decide]
  show Go _ _ _ _ (s₁.setTop (mkF m 70 #[rv ax, iv 1, iv 3, iv key, iv 3, iv 2, iv 2, iv x2] [(.int 4)]))
  refine go_st (fun t k => XS.ineg X0.here hx rfl (hb hby d3_70) rfl k) ?_
  rw [show (-(4 : Int32)) = (-4 : Int32) from by decide]
  show Go _ _ _ _ (s₁.setTop (mkF m 71 #[rv ax, iv 1, iv 3, iv key, iv 3, iv 2, iv 2, iv x2] [(.int (-4))]))
  obtain ⟨fs, hr, hrun, hended, hW, hsame⟩ := X0.leave (v := some (.int (-4))) (fun h => by rw [Bd.returns] at h; cases h)
  refine ⟨_, _, ?_, hrun, hended, _, _, rfl, ?_, ⟨_, rfl⟩, hW, hsame.mono (by decide) (by decide)⟩
  · exact retI X0 hx Bd.returns (hb hby d3_71) hr
  · show Q_bs0_133 _ _ _ _ _ _ _ _ _ _ s₁.heap _
    rw [e0]
    exact ⟨(-4 : Int32), rfl, N0, rfl, (Or.inr rfl)⟩
def Q_bs_133 (Z : State) (ax : Addr) (kx : ClassId) (key : Int32) (x0 : Int32) (x1 : Int32) (x2 : Int32) (h0 : Heap) (n0 : Nat) (vR : Option Value) (h : Heap) (L : List Loc) : Prop := ∃ (r : Int32), vR = some (.int r) ∧ Fr n0 L ∧ h = h0 ∧ (r = (3 : Int32) ∨ r = (-4 : Int32))
theorem ef_bs_133 (m : MethodId) (x0 : Addr) (x1 : Int32) (x2 : Int32) (x3 : Int32) : entryFrame m #[(.ref x0), (.int x1), (.int x2), (.int x3)] 4 = mkF m 0 #[.val (.ref x0), .val (.int x1), .val (.int x2), .val (.int x3)] [] := by first | (simp [entryFrame, mkF, argsToLocals, Value.category]; done) | rfl
set_option maxRecDepth 65536 in
set_option maxHeartbeats 40000000 in
theorem rm_bs_133 (l : Launch) (Z : State) (a0 : Array Value) (hw : ∀ d ∈ tables_1, d.before a0 Z = true) (ws : List Jvm.Cond) (ax : Addr) (kx : ClassId) (key : Int32) (x0 : Int32) (x1 : Int32) (x2 : Int32) (h0 : Heap) (n0 : Nat) (Z0 : n0 ≤ h0.size) (H0 : Arv Z h0 ax kx .int (64 : Int32) [(.int x0), (.int x1), (.int x2)] (.int (0 : Int32))) (s1 : x1 < x2) (hl : x2 < key) :
    MetFree l (⟨"java/util/Arrays", "binarySearch", "([IIII)I"⟩ : MethodName) (head1 (Jvm.Cond.code (⟨"java/util/Arrays", "binarySearch", "([IIII)I"⟩ : MethodName) jdk_65_method_58_code 4 (some .int) :: ws) ({ frames := 1, cells := 0, slots := 0, locals := 19 } : Room)) (fun a U => a = #[(.ref ax), (.int 1), (.int 3), (.int key)] ∧ Z.Warmed39 U.vm ∧ U.heap = h0) (fun _ _ _ _ _ => True) (fun _ U o U' => ∃ v L, o = .returned v ∧ Q_bs_133 Z ax kx key x0 x1 x2 h0 n0 v U'.heap L ∧ FrameEnd U o U' L ({ frames := 1, cells := 0, slots := 0, locals := 19 } : Room).cells ({ frames := 1, cells := 0, slots := 0, locals := 19 } : Room).slots) := by
  refine MetFree.of_bodySF (plainFor_of_name pn_java_util_Arrays) hisR ?_
  intro p e s m args below meth c s₁ Bd hml0 hP hK
  obtain ⟨rfl, hZ, hh⟩ := hP
  have hx := Bd.exec
  have hby := Bd.bytes
  have hml : c.maxLocals = 4 := hml0
  have hown : s.vm.findClass "java/util/Arrays" = some m.cls := findClass_of_methodNamed Bd.named
  have hnm := (name_of_methodNamed Bd.named Bd.method).1
  have X0 : Stand p l e ({ frames := 1, cells := 0, slots := 0, locals := 19 } : Room) s m #[(.ref ax), (.int 1), (.int 3), (.int key)] below meth c s₁ [] 0 0 := Stand.of_body Bd
  have e0 : s₁.heap = h0 := by rw [← hh, Bd.state]; rfl
  have N0 := Fr.nil n0
  refine go_st (fun t k => castTop (ef_bs_133 m ax (1 : Int32) (3 : Int32) key) k) ?_
  show Go _ _ _ _ (s₁.setTop (mkF m 0 #[rv ax, iv 1, iv 3, iv key] []))
  refine go_st (fun t k => XS.aloadN X0.here hx rfl (hb hby d4_0) rfl rfl k) ?_
  show Go _ _ _ _ (s₁.setTop (mkF m 1 #[rv ax, iv 1, iv 3, iv key] [(.ref ax)]))
  obtain ⟨zc1, zA1, zq1, zS1, zN1, zH1, zG1⟩ := id H0
  refine go_st (fun t k => X0.arraylength hx (by rw [e0]; exact zA1.1) (State.isArrayOf_alike hZ.alike zA1.2.1) (g := (mkF m 1 #[rv ax, iv 1, iv 3, iv key] [(.ref ax)])) rfl rfl (hb hby d4_1) t k) ?_
  rw [len_of zS1 zN1]
  show Go _ _ _ _ (s₁.setTop (mkF m 2 #[rv ax, iv 1, iv 3, iv key] [(.int 64)]))
  refine go_st (fun t k => XS.iloadN X0.here hx rfl (hb hby d4_2) rfl k) ?_
  show Go _ _ _ _ (s₁.setTop (mkF m 3 #[rv ax, iv 1, iv 3, iv key] [(.int 1), (.int 64)]))
  refine go_st (fun t k => XS.iloadN X0.here hx rfl (hb hby d4_3) rfl k) ?_
  show Go _ _ _ _ (s₁.setTop (mkF m 4 #[rv ax, iv 1, iv 3, iv key] [(.int 3), (.int 1), (.int 64)]))
  obtain ⟨_, _, ⟨T2, L2, kk2, nn2⟩, -, X2, ⟨Lc2, hQ2, lq2, yq2, zq2⟩, st2⟩ := Jvm.LawKit.callS X0 hx (y := (⟨"java/util/Arrays", "rangeCheck", "(III)V"⟩ : MethodName)) hown (mvT hZ (w33 hw)) (mvT hZ (w34 hw)) (mvT hZ (w31 hw)) (mvT hZ (w35 hw)) (by decide) (backOf (W := 0) (rm_rc_13 l Z a0 hw []  h0 n0 (Nat.le_trans Z0 (Nat.le_refl _)) ) hZ (w35 hw) (w31 hw) (by decide) (by decide)) (g := (mkF m 4 #[rv ax, iv 1, iv 3, iv key] [(.int 3), (.int 1), (.int 64)])) rfl (by rw [hml]; rfl) (argsL := [(.int 64), (.int 1), (.int 3)]) (rest := []) (lenOf pd_0 rfl) rfl (by show 2 * 0 + _ ≤ _; exact Nat.le_of_eq rfl) (hb hby d4_4) (fun _ _ => ⟨rfl, e0, (by decide : 0 + 0 ≤ _), (by decide : 0 + 0 ≤ _)⟩)
  dsimp only [Pt.U, Pt.locs, Pt.cells, Pt.slots] at X2 lq2 yq2 zq2 st2 hQ2
  subst lq2 yq2 zq2
  obtain ⟨h2, e2⟩ : ∃ z, T2.heap = z := ⟨_, rfl⟩
  rw [e2] at hQ2
  obtain ⟨rfl, N2q, he2⟩ := hQ2
  have N2 := Fr.app N0 N2q
  rw [he2] at e2
  refine go_st st2 ?_
  show Go _ _ _ _ (T2.setTop (mkF m 7 #[rv ax, iv 1, iv 3, iv key] []))
  refine go_st (fun t k => XS.aloadN X2.here hx rfl (hb hby d4_7) rfl rfl k) ?_
  show Go _ _ _ _ (T2.setTop (mkF m 8 #[rv ax, iv 1, iv 3, iv key] [(.ref ax)]))
  refine go_st (fun t k => XS.iloadN X2.here hx rfl (hb hby d4_8) rfl k) ?_
  show Go _ _ _ _ (T2.setTop (mkF m 9 #[rv ax, iv 1, iv 3, iv key] [(.int 1), (.ref ax)]))
  refine go_st (fun t k => XS.iloadN X2.here hx rfl (hb hby d4_9) rfl k) ?_
  show Go _ _ _ _ (T2.setTop (mkF m 10 #[rv ax, iv 1, iv 3, iv key] [(.int 3), (.int 1), (.ref ax)]))
  refine go_st (fun t k => XS.iloadN X2.here hx rfl (hb hby d4_10) rfl k) ?_
  show Go _ _ _ _ (T2.setTop (mkF m 11 #[rv ax, iv 1, iv 3, iv key] [(.int key), (.int 3), (.int 1), (.ref ax)]))
  obtain ⟨_, _, ⟨T3, L3, kk3, nn3⟩, -, X3, ⟨Lc3, hQ3, lq3, yq3, zq3⟩, st3⟩ := Jvm.LawKit.callS X2 hx (y := (⟨"java/util/Arrays", "binarySearch0", "([IIII)I"⟩ : MethodName)) hown (mvT hZ (w36 hw)) (mvT hZ (w37 hw)) (mvT hZ (w31 hw)) (mvT hZ (w38 hw)) (by decide) (backOf (W := 0) (rm_bs0_133 l Z a0 hw [] ax kx key x0 x1 x2 h0 n0 (Nat.le_trans Z0 (Nat.le_refl _)) H0 s1 hl) hZ (w38 hw) (w31 hw) (by decide) (by decide)) (g := (mkF m 11 #[rv ax, iv 1, iv 3, iv key] [(.int key), (.int 3), (.int 1), (.ref ax)])) rfl (by rw [hml]; rfl) (argsL := [(.ref ax), (.int 1), (.int 3), (.int key)]) (rest := []) (lenOf pd_1 rfl) rfl (by show 2 * 0 + _ ≤ _; exact Nat.le_of_eq rfl) (hb hby d4_11) (fun _ _ => ⟨rfl, e2, (by decide : 0 + 0 ≤ _), (by decide : 0 + 0 ≤ _)⟩)
  dsimp only [Pt.U, Pt.locs, Pt.cells, Pt.slots] at X3 lq3 yq3 zq3 st3 hQ3
  subst lq3 yq3 zq3
  obtain ⟨h3, e3⟩ : ∃ z, T3.heap = z := ⟨_, rfl⟩
  rw [e3] at hQ3
  obtain ⟨r_3, rfl, N3q, he3, hres_3⟩ := hQ3
  have N3 := Fr.app N2 N3q
  rw [he3] at e3
  refine go_st st3 ?_
  show Go _ _ _ _ (T3.setTop (mkF m 14 #[rv ax, iv 1, iv 3, iv key] [(.int r_3)]))
  obtain ⟨fs, hr, hrun, hended, hW, hsame⟩ := X3.leave (v := some (.int r_3)) (fun h => by rw [Bd.returns] at h; cases h)
  refine ⟨_, _, ?_, hrun, hended, _, _, rfl, ?_, ⟨_, rfl⟩, hW, hsame.mono (by decide) (by decide)⟩
  · exact retI X3 hx Bd.returns (hb hby d4_14) hr
  · show Q_bs_133 _ _ _ _ _ _ _ _ _ _ T3.heap _
    rw [e3]
    exact ⟨r_3, rfl, N3, rfl, hres_3⟩
def Q_lb_133 (Z : State) (a1 : Addr) (ax : Addr) (al : Addr) (kx : ClassId) (kl : ClassId) (key : Int32) (line : Int32) (x0 : Int32) (x1 : Int32) (x2 : Int32) (l0 : Int32) (l1 : Int32) (l2 : Int32) (h0 : Heap) (n0 : Nat) (vR : Option Value) (h : Heap) (L : List Loc) : Prop := vR = some (.int l2) ∧ Fr n0 L ∧ Keep h0 h [a1] ∧ (Exa Z h a1 "com/example/nudge/nudge/tree/BlockEntries") ∧ (Fld Z h a1 "com/example/nudge/nudge/tree/BlockEntries" "indexes" "[I" (.ref ax)) ∧ (Fld Z h a1 "com/example/nudge/nudge/tree/BlockEntries" "lines" "[I" (.ref al)) ∧ (Fld Z h a1 "com/example/nudge/nudge/tree/BlockEntries" "first" "I" (.int 2)) ∧ (Fld Z h a1 "com/example/nudge/nudge/tree/BlockEntries" "count" "I" (.int 3)) ∧ (Arv Z h ax kx .int (64 : Int32) [(.int x0), (.int x1), (.int x2)] (.int (0 : Int32))) ∧ (Arv Z h al kl .int (64 : Int32) [(.int l0), (.int l1), (.int l2)] (.int (0 : Int32)))
theorem ef_lb_133 (m : MethodId) (x0 : Addr) (x1 : Int32) (x2 : Int32) : entryFrame m #[(.ref x0), (.int x1), (.int x2)] 6 = mkF m 0 #[.val (.ref x0), .val (.int x1), .val (.int x2), .unset, .unset, .unset] [] := by first | (simp [entryFrame, mkF, argsToLocals, Value.category]; done) | rfl
set_option maxRecDepth 65536 in
set_option maxHeartbeats 40000000 in
theorem rm_lb_133 (l : Launch) (Z : State) (a0 : Array Value) (hw : ∀ d ∈ tables_1, d.before a0 Z = true) (ws : List Jvm.Cond) (a1 : Addr) (ax : Addr) (al : Addr) (kx : ClassId) (kl : ClassId) (key : Int32) (line : Int32) (x0 : Int32) (x1 : Int32) (x2 : Int32) (l0 : Int32) (l1 : Int32) (l2 : Int32) (h0 : Heap) (n0 : Nat) (Z0 : n0 ≤ h0.size) (H0 : Exa Z h0 a1 "com/example/nudge/nudge/tree/BlockEntries") (H1 : Fld Z h0 a1 "com/example/nudge/nudge/tree/BlockEntries" "indexes" "[I" (.ref ax)) (H2 : Fld Z h0 a1 "com/example/nudge/nudge/tree/BlockEntries" "lines" "[I" (.ref al)) (H3 : Fld Z h0 a1 "com/example/nudge/nudge/tree/BlockEntries" "first" "I" (.int 1)) (H4 : Fld Z h0 a1 "com/example/nudge/nudge/tree/BlockEntries" "count" "I" (.int 3)) (H5 : Arv Z h0 ax kx .int (64 : Int32) [(.int x0), (.int x1), (.int x2)] (.int (0 : Int32))) (H6 : Arv Z h0 al kl .int (64 : Int32) [(.int l0), (.int l1), (.int l2)] (.int (0 : Int32))) (ne_a1_ax : a1 ≠ ax) (ne_a1_al : a1 ≠ al) (ne_ax_al : ax ≠ al) (g_a1 : n0 ≤ a1) (s1 : x1 < x2) (hl : x2 < key) :
    MetFree l (⟨"com/example/nudge/nudge/tree/BlockEntries", "lineBefore", "(II)I"⟩ : MethodName) (head1 (Jvm.Cond.code (⟨"com/example/nudge/nudge/tree/BlockEntries", "lineBefore", "(II)I"⟩ : MethodName) prog_17_method_3_code 6 (some .int) :: ws) ({ frames := 2, cells := 0, slots := 0, locals := 34 } : Room)) (fun a U => a = #[(.ref a1), (.int key), (.int line)] ∧ Z.Warmed39 U.vm ∧ U.heap = h0) (fun _ _ _ _ _ => True) (fun _ U o U' => ∃ v L, o = .returned v ∧ Q_lb_133 Z a1 ax al kx kl key line x0 x1 x2 l0 l1 l2 h0 n0 v U'.heap L ∧ FrameEnd U o U' L ({ frames := 2, cells := 0, slots := 0, locals := 34 } : Room).cells ({ frames := 2, cells := 0, slots := 0, locals := 34 } : Room).slots) := by
  refine MetFree.of_bodySF (plainFor_of_name pn_com_example_nudge_nudge_tree_BlockEntries) hisR ?_
  intro p e s m args below meth c s₁ Bd hml0 hP hK
  obtain ⟨rfl, hZ, hh⟩ := hP
  have hx := Bd.exec
  have hby := Bd.bytes
  have hml : c.maxLocals = 6 := hml0
  have hown : s.vm.findClass "com/example/nudge/nudge/tree/BlockEntries" = some m.cls := findClass_of_methodNamed Bd.named
  have hnm := (name_of_methodNamed Bd.named Bd.method).1
  have X0 : Stand p l e ({ frames := 2, cells := 0, slots := 0, locals := 34 } : Room) s m #[(.ref a1), (.int key), (.int line)] below meth c s₁ [] 0 0 := Stand.of_body Bd
  have e0 : s₁.heap = h0 := by rw [← hh, Bd.state]; rfl
  have N0 := Fr.nil n0
  refine go_st (fun t k => castTop (ef_lb_133 m a1 key line) k) ?_
  show Go _ _ _ _ (s₁.setTop (mkF m 0 #[rv a1, iv key, iv line, .unset, .unset, .unset] []))
  refine go_st (fun t k => XS.aloadN X0.here hx rfl (hb hby d5_0) rfl rfl k) ?_
  show Go _ _ _ _ (s₁.setTop (mkF m 1 #[rv a1, iv key, iv line, .unset, .unset, .unset] [(.ref a1)]))
  obtain ⟨T1, X1, e1, st1⟩ := getF X0 hx hZ hown (host := "") (Or.inl (w11 hw)) Via.refl e0 H1 (g := (mkF m 1 #[rv a1, iv key, iv line, .unset, .unset, .unset] [(.ref a1)])) rfl rfl (hb hby d5_1)
  refine go_st (fun t k => st1 t k) ?_
  show Go _ _ _ _ (T1.setTop (mkF m 4 #[rv a1, iv key, iv line, .unset, .unset, .unset] [(.ref ax)]))
  refine go_st (fun t k => XS.aloadN X1.here hx rfl (hb hby d5_4) rfl rfl k) ?_
  show Go _ _ _ _ (T1.setTop (mkF m 5 #[rv a1, iv key, iv line, .unset, .unset, .unset] [(.ref a1), (.ref ax)]))
  obtain ⟨T2, X2, e2, st2⟩ := getF X1 hx hZ hown (host := "") (Or.inl (w27 hw)) Via.refl e1 H3 (g := (mkF m 5 #[rv a1, iv key, iv line, .unset, .unset, .unset] [(.ref a1), (.ref ax)])) rfl rfl (hb hby d5_5)
  refine go_st (fun t k => st2 t k) ?_
  show Go _ _ _ _ (T2.setTop (mkF m 8 #[rv a1, iv key, iv line, .unset, .unset, .unset] [(.int 1), (.ref ax)]))
  refine go_st (fun t k => XS.aloadN X2.here hx rfl (hb hby d5_8) rfl rfl k) ?_
  show Go _ _ _ _ (T2.setTop (mkF m 9 #[rv a1, iv key, iv line, .unset, .unset, .unset] [(.ref a1), (.int 1), (.ref ax)]))
  obtain ⟨T3, X3, e3, st3⟩ := getF X2 hx hZ hown (host := "") (Or.inl (w20 hw)) Via.refl e2 H4 (g := (mkF m 9 #[rv a1, iv key, iv line, .unset, .unset, .unset] [(.ref a1), (.int 1), (.ref ax)])) rfl rfl (hb hby d5_9)
  refine go_st (fun t k => st3 t k) ?_
  show Go _ _ _ _ (T3.setTop (mkF m 12 #[rv a1, iv key, iv line, .unset, .unset, .unset] [(.int 3), (.int 1), (.ref ax)]))
  refine go_st (fun t k => XS.iloadN X3.here hx rfl (hb hby d5_12) rfl k) ?_
  show Go _ _ _ _ (T3.setTop (mkF m 13 #[rv a1, iv key, iv line, .unset, .unset, .unset] [(.int key), (.int 3), (.int 1), (.ref ax)]))
  obtain ⟨_, _, ⟨T4, L4, kk4, nn4⟩, -, X4, ⟨Lc4, hQ4, lq4, yq4, zq4⟩, st4⟩ := Jvm.LawKit.callS X3 hx (y := (⟨"java/util/Arrays", "binarySearch", "([IIII)I"⟩ : MethodName)) hown (mvT hZ (w29 hw)) (mvT hZ (w30 hw)) (mvT hZ (w31 hw)) (mvT hZ (w32 hw)) (by decide) (backOf (W := 0) (rm_bs_133 l Z a0 hw [] ax kx key x0 x1 x2 h0 n0 (Nat.le_trans Z0 (Nat.le_refl _)) H5 s1 hl) hZ (w32 hw) (w31 hw) (by decide) (by decide)) (g := (mkF m 13 #[rv a1, iv key, iv line, .unset, .unset, .unset] [(.int key), (.int 3), (.int 1), (.ref ax)])) rfl (by rw [hml]; rfl) (argsL := [(.ref ax), (.int 1), (.int 3), (.int key)]) (rest := []) (lenOf pd_1 rfl) rfl (by show 2 * 0 + _ ≤ _; exact Nat.le_of_eq rfl) (hb hby d5_13) (fun _ _ => ⟨rfl, e3, (by decide : 0 + 0 ≤ _), (by decide : 0 + 0 ≤ _)⟩)
  dsimp only [Pt.U, Pt.locs, Pt.cells, Pt.slots] at X4 lq4 yq4 zq4 st4 hQ4
  subst lq4 yq4 zq4
  obtain ⟨h4, e4⟩ : ∃ z, T4.heap = z := ⟨_, rfl⟩
  rw [e4] at hQ4
  obtain ⟨r_4, rfl, N4q, he4, hres_4⟩ := hQ4
  have N4 := Fr.app N0 N4q
  rw [he4] at e4
  refine go_st st4 ?_
  show Go _ _ _ _ (T4.setTop (mkF m 16 #[rv a1, iv key, iv line, .unset, .unset, .unset] [(.int r_4)]))
  rcases hres_4 with rfl | rfl
  · skip
    show Go _ _ _ _ (T4.setTop (mkF m 16 #[rv a1, iv key, iv line, .unset, .unset, .unset] [(.int 3)]))
    refine go_st (fun t k => XS.istoreN X4.here hx rfl (hb hby d5_16) rfl (l' := #[rv a1, iv key, iv line, iv 3, .unset, .unset]) rfl k) ?_
    show Go _ _ _ _ (T4.setTop (mkF m 17 #[rv a1, iv key, iv line, iv 3, .unset, .unset] []))
    refine go_st (fun t k => XS.iloadN X4.here hx rfl (hb hby d5_17) rfl k) ?_
    show Go _ _ _ _ (T4.setTop (mkF m 18 #[rv a1, iv key, iv line, iv 3, .unset, .unset] [(.int 3)]))
    refine go_st (fun t k => XS.ifNo X4.here hx rfl (hb hby d5_18) rfl ((if0 _ _).trans (flt ((by decide) : ¬ ((3 : Int32) < (0 : Int32)))).1) k) ?_
    show Go _ _ _ _ (T4.setTop (mkF m 21 #[rv a1, iv key, iv line, iv 3, .unset, .unset] []))
    refine go_st (fun t k => XS.iloadN X4.here hx rfl (hb hby d5_21) rfl k) ?_
    show Go _ _ _ _ (T4.setTop (mkF m 22 #[rv a1, iv key, iv line, iv 3, .unset, .unset] [(.int 3)]))
    refine go_st (fun t k => XS.goto X4.here hx rfl (pc0 := 22) (pc' := 29) rfl (hb hby d5_22) (by decide) (by decide) k) ?_
    show Go _ _ _ _ (T4.setTop (mkF m 29 #[rv a1, iv key, iv line, iv 3, .unset, .unset] [(.int 3)]))
    refine go_st (fun t k => XS.iconst X4.here hx rfl (hb hby d5_29) k) ?_
    show Go _ _ _ _ (T4.setTop (mkF m 30 #[rv a1, iv key, iv line, iv 3, .unset, .unset] [(.int 1), (.int 3)]))
    refine go_st (fun t k => XS.isub X4.here hx rfl (hb hby d5_30) rfl k) ?_
    rw [show ((3 : Int32) - (1 : Int32)) = (2 : Int32) from by decide]
    show Go _ _ _ _ (T4.setTop (mkF m 31 #[rv a1, iv key, iv line, iv 3, .unset, .unset] [(.int 2)]))
    refine go_st (fun t k => XS.istore X4.here hx rfl (hb hby d5_31) rfl (l' := #[rv a1, iv key, iv line, iv 3, iv 2, .unset]) rfl k) ?_
    show Go _ _ _ _ (T4.setTop (mkF m 33 #[rv a1, iv key, iv line, iv 3, iv 2, .unset] []))
    refine go_st (fun t k => XS.iloadN X4.here hx rfl (hb hby d5_33) rfl k) ?_
    show Go _ _ _ _ (T4.setTop (mkF m 34 #[rv a1, iv key, iv line, iv 3, iv 2, .unset] [(.int line)]))
    refine go_st (fun t k => XS.istore X4.here hx rfl (hb hby d5_34) rfl (l' := #[rv a1, iv key, iv line, iv 3, iv 2, iv line]) rfl k) ?_
    show Go _ _ _ _ (T4.setTop (mkF m 36 #[rv a1, iv key, iv line, iv 3, iv 2, iv line] []))
    refine go_st (fun t k => XS.iload X4.here hx rfl (hb hby d5_36) rfl k) ?_
    show Go _ _ _ _ (T4.setTop (mkF m 38 #[rv a1, iv key, iv line, iv 3, iv 2, iv line] [(.int 2)]))
    refine go_st (fun t k => XS.aloadN X4.here hx rfl (hb hby d5_38) rfl rfl k) ?_
    show Go _ _ _ _ (T4.setTop (mkF m 39 #[rv a1, iv key, iv line, iv 3, iv 2, iv line] [(.ref a1), (.int 2)]))
    obtain ⟨T5, X5, e5, st5⟩ := getF X4 hx hZ hown (host := "") (Or.inl (w27 hw)) Via.refl e4 H3 (g := (mkF m 39 #[rv a1, iv key, iv line, iv 3, iv 2, iv line] [(.ref a1), (.int 2)])) rfl rfl (hb hby d5_39)
    refine go_st (fun t k => st5 t k) ?_
    show Go _ _ _ _ (T5.setTop (mkF m 42 #[rv a1, iv key, iv line, iv 3, iv 2, iv line] [(.int 1), (.int 2)]))
    refine go_st (fun t k => XS.icmpNo X5.here hx rfl (hb hby d5_42) rfl (flt ((by decide) : ¬ ((2 : Int32) < (1 : Int32)))).1 k) ?_
    show Go _ _ _ _ (T5.setTop (mkF m 45 #[rv a1, iv key, iv line, iv 3, iv 2, iv line] []))
    refine go_st (fun t k => XS.aloadN X5.here hx rfl (hb hby d5_45) rfl rfl k) ?_
    show Go _ _ _ _ (T5.setTop (mkF m 46 #[rv a1, iv key, iv line, iv 3, iv 2, iv line] [(.ref a1)]))
    obtain ⟨T6, X6, e6, st6⟩ := getF X5 hx hZ hown (host := "") (Or.inl (w13 hw)) Via.refl e5 H2 (g := (mkF m 46 #[rv a1, iv key, iv line, iv 3, iv 2, iv line] [(.ref a1)])) rfl rfl (hb hby d5_46)
    refine go_st (fun t k => st6 t k) ?_
    show Go _ _ _ _ (T6.setTop (mkF m 49 #[rv a1, iv key, iv line, iv 3, iv 2, iv line] [(.ref al)]))
    refine go_st (fun t k => XS.iload X6.here hx rfl (hb hby d5_49) rfl k) ?_
    show Go _ _ _ _ (T6.setTop (mkF m 51 #[rv a1, iv key, iv line, iv 3, iv 2, iv line] [(.int 2), (.ref al)]))
    obtain ⟨zc7, zA7, zq7, zS7, zN7, zH7, zG7⟩ := id H6
    have hin7 : ¬ ((2 : Int32) < 0 ∨ zc7.slots.size ≤ ((2 : Int32)).toNatClampNeg) := inb_of zS7 ⟨by decide, by decide⟩
    have hat7 : zc7.slots[((2 : Int32)).toNatClampNeg]? = some (.int l2) := Has.at zH7 hin7 rfl
    refine go_st (fun t k => X6.iaload hx (j := (2 : Int32)) (v := (.int l2)) (by rw [e6]; exact zA7.1) (State.isArrayOf_alike hZ.alike zA7.2.1) zA7.2.2 hin7 hat7 (g := (mkF m 51 #[rv a1, iv key, iv line, iv 3, iv 2, iv line] [(.int 2), (.ref al)])) rfl rfl (hb hby d5_51) t k) ?_
    show Go _ _ _ _ (T6.setTop (mkF m 52 #[rv a1, iv key, iv line, iv 3, iv 2, iv line] [(.int l2)]))
    refine go_st (fun t k => XS.istore X6.here hx rfl (hb hby d5_52) rfl (l' := #[rv a1, iv key, iv line, iv 3, iv 2, iv l2]) rfl k) ?_
    show Go _ _ _ _ (T6.setTop (mkF m 54 #[rv a1, iv key, iv line, iv 3, iv 2, iv l2] []))
    refine go_st (fun t k => XS.aloadN X6.here hx rfl (hb hby d5_54) rfl rfl k) ?_
    show Go _ _ _ _ (T6.setTop (mkF m 55 #[rv a1, iv key, iv line, iv 3, iv 2, iv l2] [(.ref a1)]))
    refine go_st (fun t k => XS.iload X6.here hx rfl (hb hby d5_55) rfl k) ?_
    show Go _ _ _ _ (T6.setTop (mkF m 57 #[rv a1, iv key, iv line, iv 3, iv 2, iv l2] [(.int 2), (.ref a1)]))
    obtain ⟨T8, h8, X8, e8, W8, st8⟩ := putF X6 hx hZ hown (host := "") (Or.inl (w27 hw)) Via.refl e6 H3 H0 (Or.inl (w28 hw)) (w2 hw) (ty := .int) (by decide) rfl rfl (g := (mkF m 57 #[rv a1, iv key, iv line, iv 3, iv 2, iv l2] [(.int 2), (.ref a1)])) rfl rfl (hb hby d5_57)
    have N8 := Fr.snoc X8 N4 g_a1
    have f9 : Fld Z h8 a1 "com/example/nudge/nudge/tree/BlockEntries" "first" "I" (.int 2) := H3.same W8
    refine go_st (fun t k => st8 t k) ?_
    show Go _ _ _ _ (T8.setTop (mkF m 60 #[rv a1, iv key, iv line, iv 3, iv 2, iv l2] []))
    refine go_st (fun t k => XS.iload X8.here hx rfl (hb hby d5_60) rfl k) ?_
    show Go _ _ _ _ (T8.setTop (mkF m 62 #[rv a1, iv key, iv line, iv 3, iv 2, iv l2] [(.int l2)]))
    have f10 : Exa Z h8 a1 "com/example/nudge/nudge/tree/BlockEntries" := (H0.wr W8)
    have f11 : Fld Z h8 a1 "com/example/nudge/nudge/tree/BlockEntries" "indexes" "[I" (.ref ax) := (H1.other W8 (Or.inr (slot_ne (Or.inl (w12 hw)) (Or.inl (w28 hw)) (by decide) (t := (.array .int)) (t' := .int) (by decide) (by decide))))
    have f12 : Fld Z h8 a1 "com/example/nudge/nudge/tree/BlockEntries" "lines" "[I" (.ref al) := (H2.other W8 (Or.inr (slot_ne (Or.inl (w14 hw)) (Or.inl (w28 hw)) (by decide) (t := (.array .int)) (t' := .int) (by decide) (by decide))))
    have f13 : Fld Z h8 a1 "com/example/nudge/nudge/tree/BlockEntries" "count" "I" (.int 3) := (H4.other W8 (Or.inr (slot_ne (Or.inl (w21 hw)) (Or.inl (w28 hw)) (by decide) (t := .int) (t' := .int) (by decide) (by decide))))
    have f14 : Arv Z h8 ax kx .int (64 : Int32) [(.int x0), (.int x1), (.int x2)] (.int (0 : Int32)) := (H5.other W8 (Ne.symm ne_a1_ax))
    have f15 : Arv Z h8 al kl .int (64 : Int32) [(.int l0), (.int l1), (.int l2)] (.int (0 : Int32)) := (H6.other W8 (Ne.symm ne_a1_al))
    have ke16 : Keep h0 h8 [a1] := (Keep.wr (Keep.refl h0 [a1]) W8 (Or.inl (List.mem_of_getElem? (i := 0) rfl)))
    obtain ⟨fs, hr, hrun, hended, hW, hsame⟩ := X8.leave (v := some (.int l2)) (fun h => by rw [Bd.returns] at h; cases h)
    refine ⟨_, _, ?_, hrun, hended, _, _, rfl, ?_, ⟨_, rfl⟩, hW, hsame.mono (by decide) (by decide)⟩
    · exact retI X8 hx Bd.returns (hb hby d5_62) hr
    · show Q_lb_133 _ _ _ _ _ _ _ _ _ _ _ _ _ _ _ _ _ T8.heap _
      rw [e8]
      exact ⟨rfl, N8, ke16, f10, f11, f12, f9, f13, f14, f15⟩
  · skip
    show Go _ _ _ _ (T4.setTop (mkF m 16 #[rv a1, iv key, iv line, .unset, .unset, .unset] [(.int (-4))]))
    refine go_st (fun t k => XS.istoreN X4.here hx rfl (hb hby d5_16) rfl (l' := #[rv a1, iv key, iv line, iv (-4), .unset, .unset]) rfl k) ?_
    show Go _ _ _ _ (T4.setTop (mkF m 17 #[rv a1, iv key, iv line, iv (-4), .unset, .unset] []))
    refine go_st (fun t k => XS.iloadN X4.here hx rfl (hb hby d5_17) rfl k) ?_
    show Go _ _ _ _ (T4.setTop (mkF m 18 #[rv a1, iv key, iv line, iv (-4), .unset, .unset] [(.int (-4))]))
    refine go_st (fun t k => XS.ifYes X4.here hx rfl (pc0 := 18) (pc' := 25) rfl (hb hby d5_18) rfl ((if0 _ _).trans (tlt ((by decide) : (-4 : Int32) < (0 : Int32))).1) (by decide) (by decide) k) ?_
    show Go _ _ _ _ (T4.setTop (mkF m 25 #[rv a1, iv key, iv line, iv (-4), .unset, .unset] []))
    refine go_st (fun t k => XS.iloadN X4.here hx rfl (hb hby d5_25) rfl k) ?_
    show Go _ _ _ _ (T4.setTop (mkF m 26 #[rv a1, iv key, iv line, iv (-4), .unset, .unset] [(.int (-4))]))
    refine go_st (fun t k => XS.ineg X4.here hx rfl (hb hby d5_26) rfl k) ?_
    rw [show (-(-4 : Int32)) = (4 : Int32) from by decide]
    show Go _ _ _ _ (T4.setTop (mkF m 27 #[rv a1, iv key, iv line, iv (-4), .unset, .unset] [(.int 4)]))
    refine go_st (fun t k => XS.iconst X4.here hx rfl (hb hby d5_27) k) ?_
    show Go _ _ _ _ (T4.setTop (mkF m 28 #[rv a1, iv key, iv line, iv (-4), .unset, .unset] [(.int 1), (.int 4)]))
    refine go_st (fun t k => XS.isub X4.here hx rfl (hb hby d5_28) rfl k) ?_
    rw [show ((4 : Int32) - (1 : Int32)) = (3 : Int32) from by decide]
    show Go _ _ _ _ (T4.setTop (mkF m 29 #[rv a1, iv key, iv line, iv (-4), .unset, .unset] [(.int 3)]))
    refine go_st (fun t k => XS.iconst X4.here hx rfl (hb hby d5_29) k) ?_
    show Go _ _ _ _ (T4.setTop (mkF m 30 #[rv a1, iv key, iv line, iv (-4), .unset, .unset] [(.int 1), (.int 3)]))
    refine go_st (fun t k => XS.isub X4.here hx rfl (hb hby d5_30) rfl k) ?_
    rw [show ((3 : Int32) - (1 : Int32)) = (2 : Int32) from by decide]
    show Go _ _ _ _ (T4.setTop (mkF m 31 #[rv a1, iv key, iv line, iv (-4), .unset, .unset] [(.int 2)]))
    refine go_st (fun t k => XS.istore X4.here hx rfl (hb hby d5_31) rfl (l' := #[rv a1, iv key, iv line, iv (-4), iv 2, .unset]) rfl k) ?_
    show Go _ _ _ _ (T4.setTop (mkF m 33 #[rv a1, iv key, iv line, iv (-4), iv 2, .unset] []))
    refine go_st (fun t k => XS.iloadN X4.here hx rfl (hb hby d5_33) rfl k) ?_
    show Go _ _ _ _ (T4.setTop (mkF m 34 #[rv a1, iv key, iv line, iv (-4), iv 2, .unset] [(.int line)]))
    refine go_st (fun t k => XS.istore X4.here hx rfl (hb hby d5_34) rfl (l' := #[rv a1, iv key, iv line, iv (-4), iv 2, iv line]) rfl k) ?_
    show Go _ _ _ _ (T4.setTop (mkF m 36 #[rv a1, iv key, iv line, iv (-4), iv 2, iv line] []))
    refine go_st (fun t k => XS.iload X4.here hx rfl (hb hby d5_36) rfl k) ?_
    show Go _ _ _ _ (T4.setTop (mkF m 38 #[rv a1, iv key, iv line, iv (-4), iv 2, iv line] [(.int 2)]))
    refine go_st (fun t k => XS.aloadN X4.here hx rfl (hb hby d5_38) rfl rfl k) ?_
    show Go _ _ _ _ (T4.setTop (mkF m 39 #[rv a1, iv key, iv line, iv (-4), iv 2, iv line] [(.ref a1), (.int 2)]))
    obtain ⟨T17, X17, e17, st17⟩ := getF X4 hx hZ hown (host := "") (Or.inl (w27 hw)) Via.refl e4 H3 (g := (mkF m 39 #[rv a1, iv key, iv line, iv (-4), iv 2, iv line] [(.ref a1), (.int 2)])) rfl rfl (hb hby d5_39)
    refine go_st (fun t k => st17 t k) ?_
    show Go _ _ _ _ (T17.setTop (mkF m 42 #[rv a1, iv key, iv line, iv (-4), iv 2, iv line] [(.int 1), (.int 2)]))
    refine go_st (fun t k => XS.icmpNo X17.here hx rfl (hb hby d5_42) rfl (flt ((by decide) : ¬ ((2 : Int32) < (1 : Int32)))).1 k) ?_
    show Go _ _ _ _ (T17.setTop (mkF m 45 #[rv a1, iv key, iv line, iv (-4), iv 2, iv line] []))
    refine go_st (fun t k => XS.aloadN X17.here hx rfl (hb hby d5_45) rfl rfl k) ?_
    show Go _ _ _ _ (T17.setTop (mkF m 46 #[rv a1, iv key, iv line, iv (-4), iv 2, iv line] [(.ref a1)]))
    obtain ⟨T18, X18, e18, st18⟩ := getF X17 hx hZ hown (host := "") (Or.inl (w13 hw)) Via.refl e17 H2 (g := (mkF m 46 #[rv a1, iv key, iv line, iv (-4), iv 2, iv line] [(.ref a1)])) rfl rfl (hb hby d5_46)
    refine go_st (fun t k => st18 t k) ?_
    show Go _ _ _ _ (T18.setTop (mkF m 49 #[rv a1, iv key, iv line, iv (-4), iv 2, iv line] [(.ref al)]))
    refine go_st (fun t k => XS.iload X18.here hx rfl (hb hby d5_49) rfl k) ?_
    show Go _ _ _ _ (T18.setTop (mkF m 51 #[rv a1, iv key, iv line, iv (-4), iv 2, iv line] [(.int 2), (.ref al)]))
    obtain ⟨zc19, zA19, zq19, zS19, zN19, zH19, zG19⟩ := id H6
    have hin19 : ¬ ((2 : Int32) < 0 ∨ zc19.slots.size ≤ ((2 : Int32)).toNatClampNeg) := inb_of zS19 ⟨by decide, by decide⟩
    have hat19 : zc19.slots[((2 : Int32)).toNatClampNeg]? = some (.int l2) := Has.at zH19 hin19 rfl
    refine go_st (fun t k => X18.iaload hx (j := (2 : Int32)) (v := (.int l2)) (by rw [e18]; exact zA19.1) (State.isArrayOf_alike hZ.alike zA19.2.1) zA19.2.2 hin19 hat19 (g := (mkF m 51 #[rv a1, iv key, iv line, iv (-4), iv 2, iv line] [(.int 2), (.ref al)])) rfl rfl (hb hby d5_51) t k) ?_
    show Go _ _ _ _ (T18.setTop (mkF m 52 #[rv a1, iv key, iv line, iv (-4), iv 2, iv line] [(.int l2)]))
    refine go_st (fun t k => XS.istore X18.here hx rfl (hb hby d5_52) rfl (l' := #[rv a1, iv key, iv line, iv (-4), iv 2, iv l2]) rfl k) ?_
    show Go _ _ _ _ (T18.setTop (mkF m 54 #[rv a1, iv key, iv line, iv (-4), iv 2, iv l2] []))
    refine go_st (fun t k => XS.aloadN X18.here hx rfl (hb hby d5_54) rfl rfl k) ?_
    show Go _ _ _ _ (T18.setTop (mkF m 55 #[rv a1, iv key, iv line, iv (-4), iv 2, iv l2] [(.ref a1)]))
    refine go_st (fun t k => XS.iload X18.here hx rfl (hb hby d5_55) rfl k) ?_
    show Go _ _ _ _ (T18.setTop (mkF m 57 #[rv a1, iv key, iv line, iv (-4), iv 2, iv l2] [(.int 2), (.ref a1)]))
    obtain ⟨T20, h20, X20, e20, W20, st20⟩ := putF X18 hx hZ hown (host := "") (Or.inl (w27 hw)) Via.refl e18 H3 H0 (Or.inl (w28 hw)) (w2 hw) (ty := .int) (by decide) rfl rfl (g := (mkF m 57 #[rv a1, iv key, iv line, iv (-4), iv 2, iv l2] [(.int 2), (.ref a1)])) rfl rfl (hb hby d5_57)
    have N20 := Fr.snoc X20 N4 g_a1
    have f21 : Fld Z h20 a1 "com/example/nudge/nudge/tree/BlockEntries" "first" "I" (.int 2) := H3.same W20
    refine go_st (fun t k => st20 t k) ?_
    show Go _ _ _ _ (T20.setTop (mkF m 60 #[rv a1, iv key, iv line, iv (-4), iv 2, iv l2] []))
    refine go_st (fun t k => XS.iload X20.here hx rfl (hb hby d5_60) rfl k) ?_
    show Go _ _ _ _ (T20.setTop (mkF m 62 #[rv a1, iv key, iv line, iv (-4), iv 2, iv l2] [(.int l2)]))
    have f22 : Exa Z h20 a1 "com/example/nudge/nudge/tree/BlockEntries" := (H0.wr W20)
    have f23 : Fld Z h20 a1 "com/example/nudge/nudge/tree/BlockEntries" "indexes" "[I" (.ref ax) := (H1.other W20 (Or.inr (slot_ne (Or.inl (w12 hw)) (Or.inl (w28 hw)) (by decide) (t := (.array .int)) (t' := .int) (by decide) (by decide))))
    have f24 : Fld Z h20 a1 "com/example/nudge/nudge/tree/BlockEntries" "lines" "[I" (.ref al) := (H2.other W20 (Or.inr (slot_ne (Or.inl (w14 hw)) (Or.inl (w28 hw)) (by decide) (t := (.array .int)) (t' := .int) (by decide) (by decide))))
    have f25 : Fld Z h20 a1 "com/example/nudge/nudge/tree/BlockEntries" "count" "I" (.int 3) := (H4.other W20 (Or.inr (slot_ne (Or.inl (w21 hw)) (Or.inl (w28 hw)) (by decide) (t := .int) (t' := .int) (by decide) (by decide))))
    have f26 : Arv Z h20 ax kx .int (64 : Int32) [(.int x0), (.int x1), (.int x2)] (.int (0 : Int32)) := (H5.other W20 (Ne.symm ne_a1_ax))
    have f27 : Arv Z h20 al kl .int (64 : Int32) [(.int l0), (.int l1), (.int l2)] (.int (0 : Int32)) := (H6.other W20 (Ne.symm ne_a1_al))
    have ke28 : Keep h0 h20 [a1] := (Keep.wr (Keep.refl h0 [a1]) W20 (Or.inl (List.mem_of_getElem? (i := 0) rfl)))
    obtain ⟨fs, hr, hrun, hended, hW, hsame⟩ := X20.leave (v := some (.int l2)) (fun h => by rw [Bd.returns] at h; cases h)
    refine ⟨_, _, ?_, hrun, hended, _, _, rfl, ?_, ⟨_, rfl⟩, hW, hsame.mono (by decide) (by decide)⟩
    · exact retI X20 hx Bd.returns (hb hby d5_62) hr
    · show Q_lb_133 _ _ _ _ _ _ _ _ _ _ _ _ _ _ _ _ _ T20.heap _
      rw [e20]
      exact ⟨rfl, N20, ke28, f22, f23, f24, f21, f25, f26, f27⟩
def Q_rc_23 (Z : State)  (h0 : Heap) (n0 : Nat) (vR : Option Value) (h : Heap) (L : List Loc) : Prop := vR = none ∧ Fr n0 L ∧ h = h0
theorem ef_rc_23 (m : MethodId) (x0 : Int32) (x1 : Int32) (x2 : Int32) : entryFrame m #[(.int x0), (.int x1), (.int x2)] 3 = mkF m 0 #[.val (.int x0), .val (.int x1), .val (.int x2)] [] := by first | (simp [entryFrame, mkF, argsToLocals, Value.category]; done) | rfl
set_option maxRecDepth 65536 in
set_option maxHeartbeats 40000000 in
theorem rm_rc_23 (l : Launch) (Z : State) (a0 : Array Value) (hw : ∀ d ∈ tables_1, d.before a0 Z = true) (ws : List Jvm.Cond)  (h0 : Heap) (n0 : Nat) (Z0 : n0 ≤ h0.size)  :
    MetFree l (⟨"java/util/Arrays", "rangeCheck", "(III)V"⟩ : MethodName) (head1 (Jvm.Cond.code (⟨"java/util/Arrays", "rangeCheck", "(III)V"⟩ : MethodName) jdk_65_method_30_code 3 none :: ws) ({ frames := 0, cells := 0, slots := 0, locals := 0 } : Room)) (fun a U => a = #[(.int 64), (.int 2), (.int 3)] ∧ Z.Warmed39 U.vm ∧ U.heap = h0) (fun _ _ _ _ _ => True) (fun _ U o U' => ∃ v L, o = .returned v ∧ Q_rc_23 Z h0 n0 v U'.heap L ∧ FrameEnd U o U' L ({ frames := 0, cells := 0, slots := 0, locals := 0 } : Room).cells ({ frames := 0, cells := 0, slots := 0, locals := 0 } : Room).slots) := by
  refine MetFree.of_bodySF (plainFor_of_name pn_java_util_Arrays) hisR ?_
  intro p e s m args below meth c s₁ Bd hml0 hP hK
  obtain ⟨rfl, hZ, hh⟩ := hP
  have hx := Bd.exec
  have hby := Bd.bytes
  have hml : c.maxLocals = 3 := hml0
  have hown : s.vm.findClass "java/util/Arrays" = some m.cls := findClass_of_methodNamed Bd.named
  have hnm := (name_of_methodNamed Bd.named Bd.method).1
  have X0 : Stand p l e ({ frames := 0, cells := 0, slots := 0, locals := 0 } : Room) s m #[(.int 64), (.int 2), (.int 3)] below meth c s₁ [] 0 0 := Stand.of_body Bd
  have e0 : s₁.heap = h0 := by rw [← hh, Bd.state]; rfl
  have N0 := Fr.nil n0
  refine go_st (fun t k => castTop (ef_rc_23 m (64 : Int32) (2 : Int32) (3 : Int32)) k) ?_
  show Go _ _ _ _ (s₁.setTop (mkF m 0 #[iv 64, iv 2, iv 3] []))
  refine go_st (fun t k => XS.iloadN X0.here hx rfl (hb hby d2_0) rfl k) ?_
  show Go _ _ _ _ (s₁.setTop (mkF m 1 #[iv 64, iv 2, iv 3] [(.int 2)]))
  refine go_st (fun t k => XS.iloadN X0.here hx rfl (hb hby d2_1) rfl k) ?_
  show Go _ _ _ _ (s₁.setTop (mkF m 2 #[iv 64, iv 2, iv 3] [(.int 3), (.int 2)]))
  refine go_st (fun t k => XS.icmpYes X0.here hx rfl (pc0 := 2) (pc' := 46) rfl (hb hby d2_2) rfl (flt ((by decide) : ¬ ((3 : Int32) < (2 : Int32)))).2.2.2 (by decide) (by decide) k) ?_
  show Go _ _ _ _ (s₁.setTop (mkF m 46 #[iv 64, iv 2, iv 3] []))
  refine go_st (fun t k => XS.iloadN X0.here hx rfl (hb hby d2_46) rfl k) ?_
  show Go _ _ _ _ (s₁.setTop (mkF m 47 #[iv 64, iv 2, iv 3] [(.int 2)]))
  refine go_st (fun t k => XS.ifYes X0.here hx rfl (pc0 := 47) (pc' := 59) rfl (hb hby d2_47) rfl ((if0 _ _).trans (flt ((by decide) : ¬ ((2 : Int32) < (0 : Int32)))).2.1) (by decide) (by decide) k) ?_
  show Go _ _ _ _ (s₁.setTop (mkF m 59 #[iv 64, iv 2, iv 3] []))
  refine go_st (fun t k => XS.iloadN X0.here hx rfl (hb hby d2_59) rfl k) ?_
  show Go _ _ _ _ (s₁.setTop (mkF m 60 #[iv 64, iv 2, iv 3] [(.int 3)]))
  refine go_st (fun t k => XS.iloadN X0.here hx rfl (hb hby d2_60) rfl k) ?_
  show Go _ _ _ _ (s₁.setTop (mkF m 61 #[iv 64, iv 2, iv 3] [(.int 64), (.int 3)]))
  refine go_st (fun t k => XS.icmpYes X0.here hx rfl (pc0 := 61) (pc' := 73) rfl (hb hby d2_61) rfl (flt ((by decide) : ¬ ((64 : Int32) < (3 : Int32)))).2.2.2 (by decide) (by decide) k) ?_
  show Go _ _ _ _ (s₁.setTop (mkF m 73 #[iv 64, iv 2, iv 3] []))
  obtain ⟨fs, hr, hrun, hended, hW, hsame⟩ := X0.leave (v := none) (fun _ => rfl)
  refine ⟨_, _, ?_, hrun, hended, _, _, rfl, ?_, ⟨_, rfl⟩, hW, hsame.mono (by decide) (by decide)⟩
  · exact X0.returnOut hx Bd.returns (hb hby d2_73) hr
  · show Q_rc_23 _ _ _ _ s₁.heap _
    rw [e0]
    exact ⟨rfl, N0, rfl⟩
def Q_bs0_233 (Z : State) (ax : Addr) (kx : ClassId) (key : Int32) (x0 : Int32) (x1 : Int32) (x2 : Int32) (h0 : Heap) (n0 : Nat) (vR : Option Value) (h : Heap) (L : List Loc) : Prop := ∃ (r : Int32), vR = some (.int r) ∧ Fr n0 L ∧ h = h0 ∧ (r = (3 : Int32) ∨ r = (-4 : Int32))
theorem ef_bs0_233 (m : MethodId) (x0 : Addr) (x1 : Int32) (x2 : Int32) (x3 : Int32) : entryFrame m #[(.ref x0), (.int x1), (.int x2), (.int x3)] 8 = mkF m 0 #[.val (.ref x0), .val (.int x1), .val (.int x2), .val (.int x3), .unset, .unset, .unset, .unset] [] := by first | (simp [entryFrame, mkF, argsToLocals, Value.category]; done) | rfl
set_option maxRecDepth 65536 in
set_option maxHeartbeats 40000000 in
theorem rm_bs0_233 (l : Launch) (Z : State) (a0 : Array Value) (hw : ∀ d ∈ tables_1, d.before a0 Z = true) (ws : List Jvm.Cond) (ax : Addr) (kx : ClassId) (key : Int32) (x0 : Int32) (x1 : Int32) (x2 : Int32) (h0 : Heap) (n0 : Nat) (Z0 : n0 ≤ h0.size) (H0 : Arv Z h0 ax kx .int (64 : Int32) [(.int x0), (.int x1), (.int x2)] (.int (0 : Int32))) (hl : x2 < key) :
    MetFree l (⟨"java/util/Arrays", "binarySearch0", "([IIII)I"⟩ : MethodName) (head1 (Jvm.Cond.code (⟨"java/util/Arrays", "binarySearch0", "([IIII)I"⟩ : MethodName) jdk_65_method_59_code 8 (some .int) :: ws) ({ frames := 0, cells := 0, slots := 0, locals := 0 } : Room)) (fun a U => a = #[(.ref ax), (.int 2), (.int 3), (.int key)] ∧ Z.Warmed39 U.vm ∧ U.heap = h0) (fun _ _ _ _ _ => True) (fun _ U o U' => ∃ v L, o = .returned v ∧ Q_bs0_233 Z ax kx key x0 x1 x2 h0 n0 v U'.heap L ∧ FrameEnd U o U' L ({ frames := 0, cells := 0, slots := 0, locals := 0 } : Room).cells ({ frames := 0, cells := 0, slots := 0, locals := 0 } : Room).slots) := by
  refine MetFree.of_bodySF (plainFor_of_name pn_java_util_Arrays) hisR ?_
  intro p e s m args below meth c s₁ Bd hml0 hP hK
  obtain ⟨rfl, hZ, hh⟩ := hP
  have hx := Bd.exec
  have hby := Bd.bytes
  have hml : c.maxLocals = 8 := hml0
  have hown : s.vm.findClass "java/util/Arrays" = some m.cls := findClass_of_methodNamed Bd.named
  have hnm := (name_of_methodNamed Bd.named Bd.method).1
  have X0 : Stand p l e ({ frames := 0, cells := 0, slots := 0, locals := 0 } : Room) s m #[(.ref ax), (.int 2), (.int 3), (.int key)] below meth c s₁ [] 0 0 := Stand.of_body Bd
  have e0 : s₁.heap = h0 := by rw [← hh, Bd.state]; rfl
  have N0 := Fr.nil n0
  refine go_st (fun t k => castTop (ef_bs0_233 m ax (2 : Int32) (3 : Int32) key) k) ?_
  show Go _ _ _ _ (s₁.setTop (mkF m 0 #[rv ax, iv 2, iv 3, iv key, .unset, .unset, .unset, .unset] []))
  refine go_st (fun t k => XS.iloadN X0.here hx rfl (hb hby d3_0) rfl k) ?_
  show Go _ _ _ _ (s₁.setTop (mkF m 1 #[rv ax, iv 2, iv 3, iv key, .unset, .unset, .unset, .unset] [(.int 2)]))
  refine go_st (fun t k => XS.istore X0.here hx rfl (hb hby d3_1) rfl (l' := #[rv ax, iv 2, iv 3, iv key, iv 2, .unset, .unset, .unset]) rfl k) ?_
  show Go _ _ _ _ (s₁.setTop (mkF m 3 #[rv ax, iv 2, iv 3, iv key, iv 2, .unset, .unset, .unset] []))
  refine go_st (fun t k => XS.iloadN X0.here hx rfl (hb hby d3_3) rfl k) ?_
  show Go _ _ _ _ (s₁.setTop (mkF m 4 #[rv ax, iv 2, iv 3, iv key, iv 2, .unset, .unset, .unset] [(.int 3)]))
  refine go_st (fun t k => XS.iconst X0.here hx rfl (hb hby d3_4) k) ?_
  show Go _ _ _ _ (s₁.setTop (mkF m 5 #[rv ax, iv 2, iv 3, iv key, iv 2, .unset, .unset, .unset] [(.int 1), (.int 3)]))
  refine go_st (fun t k => XS.isub X0.here hx rfl (hb hby d3_5) rfl k) ?_
  rw [show ((3 : Int32) - (1 : Int32)) = (2 : Int32) from by decide]
  show Go _ _ _ _ (s₁.setTop (mkF m 6 #[rv ax, iv 2, iv 3, iv key, iv 2, .unset, .unset, .unset] [(.int 2)]))
  refine go_st (fun t k => XS.istore X0.here hx rfl (hb hby d3_6) rfl (l' := #[rv ax, iv 2, iv 3, iv key, iv 2, iv 2, .unset, .unset]) rfl k) ?_
  show Go _ _ _ _ (s₁.setTop (mkF m 8 #[rv ax, iv 2, iv 3, iv key, iv 2, iv 2, .unset, .unset] []))
  refine go_st (fun t k => XS.iload X0.here hx rfl (hb hby d3_8) rfl k) ?_
  show Go _ _ _ _ (s₁.setTop (mkF m 10 #[rv ax, iv 2, iv 3, iv key, iv 2, iv 2, .unset, .unset] [(.int 2)]))
  refine go_st (fun t k => XS.iload X0.here hx rfl (hb hby d3_10) rfl k) ?_
  show Go _ _ _ _ (s₁.setTop (mkF m 12 #[rv ax, iv 2, iv 3, iv key, iv 2, iv 2, .unset, .unset] [(.int 2), (.int 2)]))
  refine go_st (fun t k => XS.icmpNo X0.here hx rfl (hb hby d3_12) rfl (flt ((by decide) : ¬ ((2 : Int32) < (2 : Int32)))).2.2.1 k) ?_
  show Go _ _ _ _ (s₁.setTop (mkF m 15 #[rv ax, iv 2, iv 3, iv key, iv 2, iv 2, .unset, .unset] []))
  refine go_st (fun t k => XS.iload X0.here hx rfl (hb hby d3_15) rfl k) ?_
  show Go _ _ _ _ (s₁.setTop (mkF m 17 #[rv ax, iv 2, iv 3, iv key, iv 2, iv 2, .unset, .unset] [(.int 2)]))
  refine go_st (fun t k => XS.iload X0.here hx rfl (hb hby d3_17) rfl k) ?_
  show Go _ _ _ _ (s₁.setTop (mkF m 19 #[rv ax, iv 2, iv 3, iv key, iv 2, iv 2, .unset, .unset] [(.int 2), (.int 2)]))
  refine go_st (fun t k => XS.iadd X0.here hx rfl (hb hby d3_19) rfl k) ?_
  rw [show ((2 : Int32) + (2 : Int32)) = (4 : Int32) from by decide]
  show Go _ _ _ _ (s₁.setTop (mkF m 20 #[rv ax, iv 2, iv 3, iv key, iv 2, iv 2, .unset, .unset] [(.int 4)]))
  refine go_st (fun t k => XS.iconst X0.here hx rfl (hb hby d3_20) k) ?_
  show Go _ _ _ _ (s₁.setTop (mkF m 21 #[rv ax, iv 2, iv 3, iv key, iv 2, iv 2, .unset, .unset] [(.int 1), (.int 4)]))
  refine go_st (fun t k => XS.iushr X0.here hx rfl (hb hby d3_21) rfl k) ?_
  rw [show (((4 : Int32)).toUInt32 >>> ((1 : Int32) &&& 31).toUInt32).toInt32 = (2 : Int32) from by decide]
  show Go _ _ _ _ (s₁.setTop (mkF m 22 #[rv ax, iv 2, iv 3, iv key, iv 2, iv 2, .unset, .unset] [(.int 2)]))
  refine go_st (fun t k => XS.istore X0.here hx rfl (hb hby d3_22) rfl (l' := #[rv ax, iv 2, iv 3, iv key, iv 2, iv 2, iv 2, .unset]) rfl k) ?_
  show Go _ _ _ _ (s₁.setTop (mkF m 24 #[rv ax, iv 2, iv 3, iv key, iv 2, iv 2, iv 2, .unset] []))
  refine go_st (fun t k => XS.aloadN X0.here hx rfl (hb hby d3_24) rfl rfl k) ?_
  show Go _ _ _ _ (s₁.setTop (mkF m 25 #[rv ax, iv 2, iv 3, iv key, iv 2, iv 2, iv 2, .unset] [(.ref ax)]))
  refine go_st (fun t k => XS.iload X0.here hx rfl (hb hby d3_25) rfl k) ?_
  show Go _ _ _ _ (s₁.setTop (mkF m 27 #[rv ax, iv 2, iv 3, iv key, iv 2, iv 2, iv 2, .unset] [(.int 2), (.ref ax)]))
  obtain ⟨zc1, zA1, zq1, zS1, zN1, zH1, zG1⟩ := id H0
  have hin1 : ¬ ((2 : Int32) < 0 ∨ zc1.slots.size ≤ ((2 : Int32)).toNatClampNeg) := inb_of zS1 ⟨by decide, by decide⟩
  have hat1 : zc1.slots[((2 : Int32)).toNatClampNeg]? = some (.int x2) := Has.at zH1 hin1 rfl
  refine go_st (fun t k => X0.iaload hx (j := (2 : Int32)) (v := (.int x2)) (by rw [e0]; exact zA1.1) (State.isArrayOf_alike hZ.alike zA1.2.1) zA1.2.2 hin1 hat1 (g := (mkF m 27 #[rv ax, iv 2, iv 3, iv key, iv 2, iv 2, iv 2, .unset] [(.int 2), (.ref ax)])) rfl rfl (hb hby d3_27) t k) ?_
  show Go _ _ _ _ (s₁.setTop (mkF m 28 #[rv ax, iv 2, iv 3, iv key, iv 2, iv 2, iv 2, .unset] [(.int x2)]))
  refine go_st (fun t k => XS.istore X0.here hx rfl (hb hby d3_28) rfl (l' := #[rv ax, iv 2, iv 3, iv key, iv 2, iv 2, iv 2, iv x2]) rfl k) ?_
  show Go _ _ _ _ (s₁.setTop (mkF m 30 #[rv ax, iv 2, iv 3, iv key, iv 2, iv 2, iv 2, iv x2] []))
  refine go_st (fun t k => XS.iload X0.here hx rfl (hb hby d3_30) rfl k) ?_
  show Go _ _ _ _ (s₁.setTop (mkF m 32 #[rv ax, iv 2, iv 3, iv key, iv 2, iv 2, iv 2, iv x2] [(.int x2)]))
  refine go_st (fun t k => XS.iloadN X0.here hx rfl (hb hby d3_32) rfl k) ?_
  show Go _ _ _ _ (s₁.setTop (mkF m 33 #[rv ax, iv 2, iv 3, iv key, iv 2, iv 2, iv 2, iv x2] [(.int key), (.int x2)]))
  refine go_st (fun t k => XS.icmpNo X0.here hx rfl (hb hby d3_33) rfl (tlt (hl : x2 < key)).2.1 k) ?_
  show Go _ _ _ _ (s₁.setTop (mkF m 36 #[rv ax, iv 2, iv 3, iv key, iv 2, iv 2, iv 2, iv x2] []))
  refine go_st (fun t k => XS.iload X0.here hx rfl (hb hby d3_36) rfl k) ?_
  show Go _ _ _ _ (s₁.setTop (mkF m 38 #[rv ax, iv 2, iv 3, iv key, iv 2, iv 2, iv 2, iv x2] [(.int 2)]))
  refine go_st (fun t k => XS.iconst X0.here hx rfl (hb hby d3_38) k) ?_
  show Go _ _ _ _ (s₁.setTop (mkF m 39 #[rv ax, iv 2, iv 3, iv key, iv 2, iv 2, iv 2, iv x2] [(.int 1), (.int 2)]))
  refine go_st (fun t k => XS.iadd X0.here hx rfl (hb hby d3_39) rfl k) ?_
  rw [show ((2 : Int32) + (1 : Int32)) = (3 : Int32) from by decide]
  show Go _ _ _ _ (s₁.setTop (mkF m 40 #[rv ax, iv 2, iv 3, iv key, iv 2, iv 2, iv 2, iv x2] [(.int 3)]))
  refine go_st (fun t k => XS.istore X0.here hx rfl (hb hby d3_40) rfl (l' := #[rv ax, iv 2, iv 3, iv key, iv 3, iv 2, iv 2, iv x2]) rfl k) ?_
  show Go _ _ _ _ (s₁.setTop (mkF m 42 #[rv ax, iv 2, iv 3, iv key, iv 3, iv 2, iv 2, iv x2] []))
  refine go_st (fun t k => XS.goto X0.here hx rfl (pc0 := 42) (pc' := 63) rfl (hb hby d3_42) (by decide) (by decide) k) ?_
  show Go _ _ _ _ (s₁.setTop (mkF m 63 #[rv ax, iv 2, iv 3, iv key, iv 3, iv 2, iv 2, iv x2] []))
  refine go_st (fun t k => XS.goto X0.here hx rfl (pc0 := 63) (pc' := 8) rfl (hb hby d3_63) (by decide) (by decide) k) ?_
  show Go _ _ _ _ (s₁.setTop (mkF m 8 #[rv ax, iv 2, iv 3, iv key, iv 3, iv 2, iv 2, iv x2] []))
  refine go_st (fun t k => XS.iload X0.here hx rfl (hb hby d3_8) rfl k) ?_
  show Go _ _ _ _ (s₁.setTop (mkF m 10 #[rv ax, iv 2, iv 3, iv key, iv 3, iv 2, iv 2, iv x2] [(.int 3)]))
  refine go_st (fun t k => XS.iload X0.here hx rfl (hb hby d3_10) rfl k) ?_
  show Go _ _ _ _ (s₁.setTop (mkF m 12 #[rv ax, iv 2, iv 3, iv key, iv 3, iv 2, iv 2, iv x2] [(.int 2), (.int 3)]))
  refine go_st (fun t k => XS.icmpYes X0.here hx rfl (pc0 := 12) (pc' := 66) rfl (hb hby d3_12) rfl (tlt ((by decide) : (2 : Int32) < (3 : Int32))).2.2.1 (by decide) (by decide) k) ?_
  show Go _ _ _ _ (s₁.setTop (mkF m 66 #[rv ax, iv 2, iv 3, iv key, iv 3, iv 2, iv 2, iv x2] []))
  refine go_st (fun t k => XS.iload X0.here hx rfl (hb hby d3_66) rfl k) ?_
  show Go _ _ _ _ (s₁.setTop (mkF m 68 #[rv ax, iv 2, iv 3, iv key, iv 3, iv 2, iv 2, iv x2] [(.int 3)]))
  refine go_st (fun t k => XS.iconst X0.here hx rfl (hb hby d3_68) k) ?_
  show Go _ _ _ _ (s₁.setTop (mkF m 69 #[rv ax, iv 2, iv 3, iv key, iv 3, iv 2, iv 2, iv x2] [(.int 1), (.int 3)]))
  refine go_st (fun t k => XS.iadd X0.here hx rfl (hb hby d3_69) rfl k) ?_
  rw [show ((3 : Int32) + (1 : Int32)) = (4 : Int32) from by decide]
  show Go _ _ _ _ (s₁.setTop (mkF m 70 #[rv ax, iv 2, iv 3, iv key, iv 3, iv 2, iv 2, iv x2] [(.int 4)]))
  refine go_st (fun t k => XS.ineg X0.here hx rfl (hb hby d3_70) rfl k) ?_
  rw [show (-(4 : Int32)) = (-4 : Int32) from by decide]
  show Go _ _ _ _ (s₁.setTop (mkF m 71 #[rv ax, iv 2, iv 3, iv key, iv 3, iv 2, iv 2, iv x2] [(.int (-4))]))
  obtain ⟨fs, hr, hrun, hended, hW, hsame⟩ := X0.leave (v := some (.int (-4))) (fun h => by rw [Bd.returns] at h; cases h)
  refine ⟨_, _, ?_, hrun, hended, _, _, rfl, ?_, ⟨_, rfl⟩, hW, hsame.mono (by decide) (by decide)⟩
  · exact retI X0 hx Bd.returns (hb hby d3_71) hr
  · show Q_bs0_233 _ _ _ _ _ _ _ _ _ _ s₁.heap _
    rw [e0]
    exact ⟨(-4 : Int32), rfl, N0, rfl, (Or.inr rfl)⟩
def Q_bs_233 (Z : State) (ax : Addr) (kx : ClassId) (key : Int32) (x0 : Int32) (x1 : Int32) (x2 : Int32) (h0 : Heap) (n0 : Nat) (vR : Option Value) (h : Heap) (L : List Loc) : Prop := ∃ (r : Int32), vR = some (.int r) ∧ Fr n0 L ∧ h = h0 ∧ (r = (3 : Int32) ∨ r = (-4 : Int32))
theorem ef_bs_233 (m : MethodId) (x0 : Addr) (x1 : Int32) (x2 : Int32) (x3 : Int32) : entryFrame m #[(.ref x0), (.int x1), (.int x2), (.int x3)] 4 = mkF m 0 #[.val (.ref x0), .val (.int x1), .val (.int x2), .val (.int x3)] [] := by first | (simp [entryFrame, mkF, argsToLocals, Value.category]; done) | rfl
set_option maxRecDepth 65536 in
set_option maxHeartbeats 40000000 in
theorem rm_bs_233 (l : Launch) (Z : State) (a0 : Array Value) (hw : ∀ d ∈ tables_1, d.before a0 Z = true) (ws : List Jvm.Cond) (ax : Addr) (kx : ClassId) (key : Int32) (x0 : Int32) (x1 : Int32) (x2 : Int32) (h0 : Heap) (n0 : Nat) (Z0 : n0 ≤ h0.size) (H0 : Arv Z h0 ax kx .int (64 : Int32) [(.int x0), (.int x1), (.int x2)] (.int (0 : Int32))) (hl : x2 < key) :
    MetFree l (⟨"java/util/Arrays", "binarySearch", "([IIII)I"⟩ : MethodName) (head1 (Jvm.Cond.code (⟨"java/util/Arrays", "binarySearch", "([IIII)I"⟩ : MethodName) jdk_65_method_58_code 4 (some .int) :: ws) ({ frames := 1, cells := 0, slots := 0, locals := 19 } : Room)) (fun a U => a = #[(.ref ax), (.int 2), (.int 3), (.int key)] ∧ Z.Warmed39 U.vm ∧ U.heap = h0) (fun _ _ _ _ _ => True) (fun _ U o U' => ∃ v L, o = .returned v ∧ Q_bs_233 Z ax kx key x0 x1 x2 h0 n0 v U'.heap L ∧ FrameEnd U o U' L ({ frames := 1, cells := 0, slots := 0, locals := 19 } : Room).cells ({ frames := 1, cells := 0, slots := 0, locals := 19 } : Room).slots) := by
  refine MetFree.of_bodySF (plainFor_of_name pn_java_util_Arrays) hisR ?_
  intro p e s m args below meth c s₁ Bd hml0 hP hK
  obtain ⟨rfl, hZ, hh⟩ := hP
  have hx := Bd.exec
  have hby := Bd.bytes
  have hml : c.maxLocals = 4 := hml0
  have hown : s.vm.findClass "java/util/Arrays" = some m.cls := findClass_of_methodNamed Bd.named
  have hnm := (name_of_methodNamed Bd.named Bd.method).1
  have X0 : Stand p l e ({ frames := 1, cells := 0, slots := 0, locals := 19 } : Room) s m #[(.ref ax), (.int 2), (.int 3), (.int key)] below meth c s₁ [] 0 0 := Stand.of_body Bd
  have e0 : s₁.heap = h0 := by rw [← hh, Bd.state]; rfl
  have N0 := Fr.nil n0
  refine go_st (fun t k => castTop (ef_bs_233 m ax (2 : Int32) (3 : Int32) key) k) ?_
  show Go _ _ _ _ (s₁.setTop (mkF m 0 #[rv ax, iv 2, iv 3, iv key] []))
  refine go_st (fun t k => XS.aloadN X0.here hx rfl (hb hby d4_0) rfl rfl k) ?_
  show Go _ _ _ _ (s₁.setTop (mkF m 1 #[rv ax, iv 2, iv 3, iv key] [(.ref ax)]))
  obtain ⟨zc1, zA1, zq1, zS1, zN1, zH1, zG1⟩ := id H0
  refine go_st (fun t k => X0.arraylength hx (by rw [e0]; exact zA1.1) (State.isArrayOf_alike hZ.alike zA1.2.1) (g := (mkF m 1 #[rv ax, iv 2, iv 3, iv key] [(.ref ax)])) rfl rfl (hb hby d4_1) t k) ?_
  rw [len_of zS1 zN1]
  show Go _ _ _ _ (s₁.setTop (mkF m 2 #[rv ax, iv 2, iv 3, iv key] [(.int 64)]))
  refine go_st (fun t k => XS.iloadN X0.here hx rfl (hb hby d4_2) rfl k) ?_
  show Go _ _ _ _ (s₁.setTop (mkF m 3 #[rv ax, iv 2, iv 3, iv key] [(.int 2), (.int 64)]))
  refine go_st (fun t k => XS.iloadN X0.here hx rfl (hb hby d4_3) rfl k) ?_
  show Go _ _ _ _ (s₁.setTop (mkF m 4 #[rv ax, iv 2, iv 3, iv key] [(.int 3), (.int 2), (.int 64)]))
  obtain ⟨_, _, ⟨T2, L2, kk2, nn2⟩, -, X2, ⟨Lc2, hQ2, lq2, yq2, zq2⟩, st2⟩ := Jvm.LawKit.callS X0 hx (y := (⟨"java/util/Arrays", "rangeCheck", "(III)V"⟩ : MethodName)) hown (mvT hZ (w33 hw)) (mvT hZ (w34 hw)) (mvT hZ (w31 hw)) (mvT hZ (w35 hw)) (by decide) (backOf (W := 0) (rm_rc_23 l Z a0 hw []  h0 n0 (Nat.le_trans Z0 (Nat.le_refl _)) ) hZ (w35 hw) (w31 hw) (by decide) (by decide)) (g := (mkF m 4 #[rv ax, iv 2, iv 3, iv key] [(.int 3), (.int 2), (.int 64)])) rfl (by rw [hml]; rfl) (argsL := [(.int 64), (.int 2), (.int 3)]) (rest := []) (lenOf pd_0 rfl) rfl (by show 2 * 0 + _ ≤ _; exact Nat.le_of_eq rfl) (hb hby d4_4) (fun _ _ => ⟨rfl, e0, (by decide : 0 + 0 ≤ _), (by decide : 0 + 0 ≤ _)⟩)
  dsimp only [Pt.U, Pt.locs, Pt.cells, Pt.slots] at X2 lq2 yq2 zq2 st2 hQ2
  subst lq2 yq2 zq2
  obtain ⟨h2, e2⟩ : ∃ z, T2.heap = z := ⟨_, rfl⟩
  rw [e2] at hQ2
  obtain ⟨rfl, N2q, he2⟩ := hQ2
  have N2 := Fr.app N0 N2q
  rw [he2] at e2
  refine go_st st2 ?_
  show Go _ _ _ _ (T2.setTop (mkF m 7 #[rv ax, iv 2, iv 3, iv key] []))
  refine go_st (fun t k => XS.aloadN X2.here hx rfl (hb hby d4_7) rfl rfl k) ?_
  show Go _ _ _ _ (T2.setTop (mkF m 8 #[rv ax, iv 2, iv 3, iv key] [(.ref ax)]))
  refine go_st (fun t k => XS.iloadN X2.here hx rfl (hb hby d4_8) rfl k) ?_
  show Go _ _ _ _ (T2.setTop (mkF m 9 #[rv ax, iv 2, iv 3, iv key] [(.int 2), (.ref ax)]))
  refine go_st (fun t k => XS.iloadN X2.here hx rfl (hb hby d4_9) rfl k) ?_
  show Go _ _ _ _ (T2.setTop (mkF m 10 #[rv ax, iv 2, iv 3, iv key] [(.int 3), (.int 2), (.ref ax)]))
  refine go_st (fun t k => XS.iloadN X2.here hx rfl (hb hby d4_10) rfl k) ?_
  show Go _ _ _ _ (T2.setTop (mkF m 11 #[rv ax, iv 2, iv 3, iv key] [(.int key), (.int 3), (.int 2), (.ref ax)]))
  obtain ⟨_, _, ⟨T3, L3, kk3, nn3⟩, -, X3, ⟨Lc3, hQ3, lq3, yq3, zq3⟩, st3⟩ := Jvm.LawKit.callS X2 hx (y := (⟨"java/util/Arrays", "binarySearch0", "([IIII)I"⟩ : MethodName)) hown (mvT hZ (w36 hw)) (mvT hZ (w37 hw)) (mvT hZ (w31 hw)) (mvT hZ (w38 hw)) (by decide) (backOf (W := 0) (rm_bs0_233 l Z a0 hw [] ax kx key x0 x1 x2 h0 n0 (Nat.le_trans Z0 (Nat.le_refl _)) H0 hl) hZ (w38 hw) (w31 hw) (by decide) (by decide)) (g := (mkF m 11 #[rv ax, iv 2, iv 3, iv key] [(.int key), (.int 3), (.int 2), (.ref ax)])) rfl (by rw [hml]; rfl) (argsL := [(.ref ax), (.int 2), (.int 3), (.int key)]) (rest := []) (lenOf pd_1 rfl) rfl (by show 2 * 0 + _ ≤ _; exact Nat.le_of_eq rfl) (hb hby d4_11) (fun _ _ => ⟨rfl, e2, (by decide : 0 + 0 ≤ _), (by decide : 0 + 0 ≤ _)⟩)
  dsimp only [Pt.U, Pt.locs, Pt.cells, Pt.slots] at X3 lq3 yq3 zq3 st3 hQ3
  subst lq3 yq3 zq3
  obtain ⟨h3, e3⟩ : ∃ z, T3.heap = z := ⟨_, rfl⟩
  rw [e3] at hQ3
  obtain ⟨r_3, rfl, N3q, he3, hres_3⟩ := hQ3
  have N3 := Fr.app N2 N3q
  rw [he3] at e3
  refine go_st st3 ?_
  show Go _ _ _ _ (T3.setTop (mkF m 14 #[rv ax, iv 2, iv 3, iv key] [(.int r_3)]))
  obtain ⟨fs, hr, hrun, hended, hW, hsame⟩ := X3.leave (v := some (.int r_3)) (fun h => by rw [Bd.returns] at h; cases h)
  refine ⟨_, _, ?_, hrun, hended, _, _, rfl, ?_, ⟨_, rfl⟩, hW, hsame.mono (by decide) (by decide)⟩
  · exact retI X3 hx Bd.returns (hb hby d4_14) hr
  · show Q_bs_233 _ _ _ _ _ _ _ _ _ _ T3.heap _
    rw [e3]
    exact ⟨r_3, rfl, N3, rfl, hres_3⟩
def Q_lb_233 (Z : State) (a1 : Addr) (ax : Addr) (al : Addr) (kx : ClassId) (kl : ClassId) (key : Int32) (line : Int32) (x0 : Int32) (x1 : Int32) (x2 : Int32) (l0 : Int32) (l1 : Int32) (l2 : Int32) (h0 : Heap) (n0 : Nat) (vR : Option Value) (h : Heap) (L : List Loc) : Prop := vR = some (.int l2) ∧ Fr n0 L ∧ Keep h0 h [a1] ∧ (Exa Z h a1 "com/example/nudge/nudge/tree/BlockEntries") ∧ (Fld Z h a1 "com/example/nudge/nudge/tree/BlockEntries" "indexes" "[I" (.ref ax)) ∧ (Fld Z h a1 "com/example/nudge/nudge/tree/BlockEntries" "lines" "[I" (.ref al)) ∧ (Fld Z h a1 "com/example/nudge/nudge/tree/BlockEntries" "first" "I" (.int 2)) ∧ (Fld Z h a1 "com/example/nudge/nudge/tree/BlockEntries" "count" "I" (.int 3)) ∧ (Arv Z h ax kx .int (64 : Int32) [(.int x0), (.int x1), (.int x2)] (.int (0 : Int32))) ∧ (Arv Z h al kl .int (64 : Int32) [(.int l0), (.int l1), (.int l2)] (.int (0 : Int32)))
theorem ef_lb_233 (m : MethodId) (x0 : Addr) (x1 : Int32) (x2 : Int32) : entryFrame m #[(.ref x0), (.int x1), (.int x2)] 6 = mkF m 0 #[.val (.ref x0), .val (.int x1), .val (.int x2), .unset, .unset, .unset] [] := by first | (simp [entryFrame, mkF, argsToLocals, Value.category]; done) | rfl
set_option maxRecDepth 65536 in
set_option maxHeartbeats 40000000 in
theorem rm_lb_233 (l : Launch) (Z : State) (a0 : Array Value) (hw : ∀ d ∈ tables_1, d.before a0 Z = true) (ws : List Jvm.Cond) (a1 : Addr) (ax : Addr) (al : Addr) (kx : ClassId) (kl : ClassId) (key : Int32) (line : Int32) (x0 : Int32) (x1 : Int32) (x2 : Int32) (l0 : Int32) (l1 : Int32) (l2 : Int32) (h0 : Heap) (n0 : Nat) (Z0 : n0 ≤ h0.size) (H0 : Exa Z h0 a1 "com/example/nudge/nudge/tree/BlockEntries") (H1 : Fld Z h0 a1 "com/example/nudge/nudge/tree/BlockEntries" "indexes" "[I" (.ref ax)) (H2 : Fld Z h0 a1 "com/example/nudge/nudge/tree/BlockEntries" "lines" "[I" (.ref al)) (H3 : Fld Z h0 a1 "com/example/nudge/nudge/tree/BlockEntries" "first" "I" (.int 2)) (H4 : Fld Z h0 a1 "com/example/nudge/nudge/tree/BlockEntries" "count" "I" (.int 3)) (H5 : Arv Z h0 ax kx .int (64 : Int32) [(.int x0), (.int x1), (.int x2)] (.int (0 : Int32))) (H6 : Arv Z h0 al kl .int (64 : Int32) [(.int l0), (.int l1), (.int l2)] (.int (0 : Int32))) (ne_a1_ax : a1 ≠ ax) (ne_a1_al : a1 ≠ al) (ne_ax_al : ax ≠ al) (g_a1 : n0 ≤ a1) (hl : x2 < key) :
    MetFree l (⟨"com/example/nudge/nudge/tree/BlockEntries", "lineBefore", "(II)I"⟩ : MethodName) (head1 (Jvm.Cond.code (⟨"com/example/nudge/nudge/tree/BlockEntries", "lineBefore", "(II)I"⟩ : MethodName) prog_17_method_3_code 6 (some .int) :: ws) ({ frames := 2, cells := 0, slots := 0, locals := 34 } : Room)) (fun a U => a = #[(.ref a1), (.int key), (.int line)] ∧ Z.Warmed39 U.vm ∧ U.heap = h0) (fun _ _ _ _ _ => True) (fun _ U o U' => ∃ v L, o = .returned v ∧ Q_lb_233 Z a1 ax al kx kl key line x0 x1 x2 l0 l1 l2 h0 n0 v U'.heap L ∧ FrameEnd U o U' L ({ frames := 2, cells := 0, slots := 0, locals := 34 } : Room).cells ({ frames := 2, cells := 0, slots := 0, locals := 34 } : Room).slots) := by
  refine MetFree.of_bodySF (plainFor_of_name pn_com_example_nudge_nudge_tree_BlockEntries) hisR ?_
  intro p e s m args below meth c s₁ Bd hml0 hP hK
  obtain ⟨rfl, hZ, hh⟩ := hP
  have hx := Bd.exec
  have hby := Bd.bytes
  have hml : c.maxLocals = 6 := hml0
  have hown : s.vm.findClass "com/example/nudge/nudge/tree/BlockEntries" = some m.cls := findClass_of_methodNamed Bd.named
  have hnm := (name_of_methodNamed Bd.named Bd.method).1
  have X0 : Stand p l e ({ frames := 2, cells := 0, slots := 0, locals := 34 } : Room) s m #[(.ref a1), (.int key), (.int line)] below meth c s₁ [] 0 0 := Stand.of_body Bd
  have e0 : s₁.heap = h0 := by rw [← hh, Bd.state]; rfl
  have N0 := Fr.nil n0
  refine go_st (fun t k => castTop (ef_lb_233 m a1 key line) k) ?_
  show Go _ _ _ _ (s₁.setTop (mkF m 0 #[rv a1, iv key, iv line, .unset, .unset, .unset] []))
  refine go_st (fun t k => XS.aloadN X0.here hx rfl (hb hby d5_0) rfl rfl k) ?_
  show Go _ _ _ _ (s₁.setTop (mkF m 1 #[rv a1, iv key, iv line, .unset, .unset, .unset] [(.ref a1)]))
  obtain ⟨T1, X1, e1, st1⟩ := getF X0 hx hZ hown (host := "") (Or.inl (w11 hw)) Via.refl e0 H1 (g := (mkF m 1 #[rv a1, iv key, iv line, .unset, .unset, .unset] [(.ref a1)])) rfl rfl (hb hby d5_1)
  refine go_st (fun t k => st1 t k) ?_
  show Go _ _ _ _ (T1.setTop (mkF m 4 #[rv a1, iv key, iv line, .unset, .unset, .unset] [(.ref ax)]))
  refine go_st (fun t k => XS.aloadN X1.here hx rfl (hb hby d5_4) rfl rfl k) ?_
  show Go _ _ _ _ (T1.setTop (mkF m 5 #[rv a1, iv key, iv line, .unset, .unset, .unset] [(.ref a1), (.ref ax)]))
  obtain ⟨T2, X2, e2, st2⟩ := getF X1 hx hZ hown (host := "") (Or.inl (w27 hw)) Via.refl e1 H3 (g := (mkF m 5 #[rv a1, iv key, iv line, .unset, .unset, .unset] [(.ref a1), (.ref ax)])) rfl rfl (hb hby d5_5)
  refine go_st (fun t k => st2 t k) ?_
  show Go _ _ _ _ (T2.setTop (mkF m 8 #[rv a1, iv key, iv line, .unset, .unset, .unset] [(.int 2), (.ref ax)]))
  refine go_st (fun t k => XS.aloadN X2.here hx rfl (hb hby d5_8) rfl rfl k) ?_
  show Go _ _ _ _ (T2.setTop (mkF m 9 #[rv a1, iv key, iv line, .unset, .unset, .unset] [(.ref a1), (.int 2), (.ref ax)]))
  obtain ⟨T3, X3, e3, st3⟩ := getF X2 hx hZ hown (host := "") (Or.inl (w20 hw)) Via.refl e2 H4 (g := (mkF m 9 #[rv a1, iv key, iv line, .unset, .unset, .unset] [(.ref a1), (.int 2), (.ref ax)])) rfl rfl (hb hby d5_9)
  refine go_st (fun t k => st3 t k) ?_
  show Go _ _ _ _ (T3.setTop (mkF m 12 #[rv a1, iv key, iv line, .unset, .unset, .unset] [(.int 3), (.int 2), (.ref ax)]))
  refine go_st (fun t k => XS.iloadN X3.here hx rfl (hb hby d5_12) rfl k) ?_
  show Go _ _ _ _ (T3.setTop (mkF m 13 #[rv a1, iv key, iv line, .unset, .unset, .unset] [(.int key), (.int 3), (.int 2), (.ref ax)]))
  obtain ⟨_, _, ⟨T4, L4, kk4, nn4⟩, -, X4, ⟨Lc4, hQ4, lq4, yq4, zq4⟩, st4⟩ := Jvm.LawKit.callS X3 hx (y := (⟨"java/util/Arrays", "binarySearch", "([IIII)I"⟩ : MethodName)) hown (mvT hZ (w29 hw)) (mvT hZ (w30 hw)) (mvT hZ (w31 hw)) (mvT hZ (w32 hw)) (by decide) (backOf (W := 0) (rm_bs_233 l Z a0 hw [] ax kx key x0 x1 x2 h0 n0 (Nat.le_trans Z0 (Nat.le_refl _)) H5 hl) hZ (w32 hw) (w31 hw) (by decide) (by decide)) (g := (mkF m 13 #[rv a1, iv key, iv line, .unset, .unset, .unset] [(.int key), (.int 3), (.int 2), (.ref ax)])) rfl (by rw [hml]; rfl) (argsL := [(.ref ax), (.int 2), (.int 3), (.int key)]) (rest := []) (lenOf pd_1 rfl) rfl (by show 2 * 0 + _ ≤ _; exact Nat.le_of_eq rfl) (hb hby d5_13) (fun _ _ => ⟨rfl, e3, (by decide : 0 + 0 ≤ _), (by decide : 0 + 0 ≤ _)⟩)
  dsimp only [Pt.U, Pt.locs, Pt.cells, Pt.slots] at X4 lq4 yq4 zq4 st4 hQ4
  subst lq4 yq4 zq4
  obtain ⟨h4, e4⟩ : ∃ z, T4.heap = z := ⟨_, rfl⟩
  rw [e4] at hQ4
  obtain ⟨r_4, rfl, N4q, he4, hres_4⟩ := hQ4
  have N4 := Fr.app N0 N4q
  rw [he4] at e4
  refine go_st st4 ?_
  show Go _ _ _ _ (T4.setTop (mkF m 16 #[rv a1, iv key, iv line, .unset, .unset, .unset] [(.int r_4)]))
  rcases hres_4 with rfl | rfl
  · skip
    show Go _ _ _ _ (T4.setTop (mkF m 16 #[rv a1, iv key, iv line, .unset, .unset, .unset] [(.int 3)]))
    refine go_st (fun t k => XS.istoreN X4.here hx rfl (hb hby d5_16) rfl (l' := #[rv a1, iv key, iv line, iv 3, .unset, .unset]) rfl k) ?_
    show Go _ _ _ _ (T4.setTop (mkF m 17 #[rv a1, iv key, iv line, iv 3, .unset, .unset] []))
    refine go_st (fun t k => XS.iloadN X4.here hx rfl (hb hby d5_17) rfl k) ?_
    show Go _ _ _ _ (T4.setTop (mkF m 18 #[rv a1, iv key, iv line, iv 3, .unset, .unset] [(.int 3)]))
    refine go_st (fun t k => XS.ifNo X4.here hx rfl (hb hby d5_18) rfl ((if0 _ _).trans (flt ((by decide) : ¬ ((3 : Int32) < (0 : Int32)))).1) k) ?_
    show Go _ _ _ _ (T4.setTop (mkF m 21 #[rv a1, iv key, iv line, iv 3, .unset, .unset] []))
    refine go_st (fun t k => XS.iloadN X4.here hx rfl (hb hby d5_21) rfl k) ?_
    show Go _ _ _ _ (T4.setTop (mkF m 22 #[rv a1, iv key, iv line, iv 3, .unset, .unset] [(.int 3)]))
    refine go_st (fun t k => XS.goto X4.here hx rfl (pc0 := 22) (pc' := 29) rfl (hb hby d5_22) (by decide) (by decide) k) ?_
    show Go _ _ _ _ (T4.setTop (mkF m 29 #[rv a1, iv key, iv line, iv 3, .unset, .unset] [(.int 3)]))
    refine go_st (fun t k => XS.iconst X4.here hx rfl (hb hby d5_29) k) ?_
    show Go _ _ _ _ (T4.setTop (mkF m 30 #[rv a1, iv key, iv line, iv 3, .unset, .unset] [(.int 1), (.int 3)]))
    refine go_st (fun t k => XS.isub X4.here hx rfl (hb hby d5_30) rfl k) ?_
    rw [show ((3 : Int32) - (1 : Int32)) = (2 : Int32) from by decide]
    show Go _ _ _ _ (T4.setTop (mkF m 31 #[rv a1, iv key, iv line, iv 3, .unset, .unset] [(.int 2)]))
    refine go_st (fun t k => XS.istore X4.here hx rfl (hb hby d5_31) rfl (l' := #[rv a1, iv key, iv line, iv 3, iv 2, .unset]) rfl k) ?_
    show Go _ _ _ _ (T4.setTop (mkF m 33 #[rv a1, iv key, iv line, iv 3, iv 2, .unset] []))
    refine go_st (fun t k => XS.iloadN X4.here hx rfl (hb hby d5_33) rfl k) ?_
    show Go _ _ _ _ (T4.setTop (mkF m 34 #[rv a1, iv key, iv line, iv 3, iv 2, .unset] [(.int line)]))
    refine go_st (fun t k => XS.istore X4.here hx rfl (hb hby d5_34) rfl (l' := #[rv a1, iv key, iv line, iv 3, iv 2, iv line]) rfl k) ?_
    show Go _ _ _ _ (T4.setTop (mkF m 36 #[rv a1, iv key, iv line, iv 3, iv 2, iv line] []))
    refine go_st (fun t k => XS.iload X4.here hx rfl (hb hby d5_36) rfl k) ?_
    show Go _ _ _ _ (T4.setTop (mkF m 38 #[rv a1, iv key, iv line, iv 3, iv 2, iv line] [(.int 2)]))
    refine go_st (fun t k => XS.aloadN X4.here hx rfl (hb hby d5_38) rfl rfl k) ?_
    show Go _ _ _ _ (T4.setTop (mkF m 39 #[rv a1, iv key, iv line, iv 3, iv 2, iv line] [(.ref a1), (.int 2)]))
    obtain ⟨T5, X5, e5, st5⟩ := getF X4 hx hZ hown (host := "") (Or.inl (w27 hw)) Via.refl e4 H3 (g := (mkF m 39 #[rv a1, iv key, iv line, iv 3, iv 2, iv line] [(.ref a1), (.int 2)])) rfl rfl (hb hby d5_39)
    refine go_st (fun t k => st5 t k) ?_
    show Go _ _ _ _ (T5.setTop (mkF m 42 #[rv a1, iv key, iv line, iv 3, iv 2, iv line] [(.int 2), (.int 2)]))
    refine go_st (fun t k => XS.icmpNo X5.here hx rfl (hb hby d5_42) rfl (flt ((by decide) : ¬ ((2 : Int32) < (2 : Int32)))).1 k) ?_
    show Go _ _ _ _ (T5.setTop (mkF m 45 #[rv a1, iv key, iv line, iv 3, iv 2, iv line] []))
    refine go_st (fun t k => XS.aloadN X5.here hx rfl (hb hby d5_45) rfl rfl k) ?_
    show Go _ _ _ _ (T5.setTop (mkF m 46 #[rv a1, iv key, iv line, iv 3, iv 2, iv line] [(.ref a1)]))
    obtain ⟨T6, X6, e6, st6⟩ := getF X5 hx hZ hown (host := "") (Or.inl (w13 hw)) Via.refl e5 H2 (g := (mkF m 46 #[rv a1, iv key, iv line, iv 3, iv 2, iv line] [(.ref a1)])) rfl rfl (hb hby d5_46)
    refine go_st (fun t k => st6 t k) ?_
    show Go _ _ _ _ (T6.setTop (mkF m 49 #[rv a1, iv key, iv line, iv 3, iv 2, iv line] [(.ref al)]))
    refine go_st (fun t k => XS.iload X6.here hx rfl (hb hby d5_49) rfl k) ?_
    show Go _ _ _ _ (T6.setTop (mkF m 51 #[rv a1, iv key, iv line, iv 3, iv 2, iv line] [(.int 2), (.ref al)]))
    obtain ⟨zc7, zA7, zq7, zS7, zN7, zH7, zG7⟩ := id H6
    have hin7 : ¬ ((2 : Int32) < 0 ∨ zc7.slots.size ≤ ((2 : Int32)).toNatClampNeg) := inb_of zS7 ⟨by decide, by decide⟩
    have hat7 : zc7.slots[((2 : Int32)).toNatClampNeg]? = some (.int l2) := Has.at zH7 hin7 rfl
    refine go_st (fun t k => X6.iaload hx (j := (2 : Int32)) (v := (.int l2)) (by rw [e6]; exact zA7.1) (State.isArrayOf_alike hZ.alike zA7.2.1) zA7.2.2 hin7 hat7 (g := (mkF m 51 #[rv a1, iv key, iv line, iv 3, iv 2, iv line] [(.int 2), (.ref al)])) rfl rfl (hb hby d5_51) t k) ?_
    show Go _ _ _ _ (T6.setTop (mkF m 52 #[rv a1, iv key, iv line, iv 3, iv 2, iv line] [(.int l2)]))
    refine go_st (fun t k => XS.istore X6.here hx rfl (hb hby d5_52) rfl (l' := #[rv a1, iv key, iv line, iv 3, iv 2, iv l2]) rfl k) ?_
    show Go _ _ _ _ (T6.setTop (mkF m 54 #[rv a1, iv key, iv line, iv 3, iv 2, iv l2] []))
    refine go_st (fun t k => XS.aloadN X6.here hx rfl (hb hby d5_54) rfl rfl k) ?_
    show Go _ _ _ _ (T6.setTop (mkF m 55 #[rv a1, iv key, iv line, iv 3, iv 2, iv l2] [(.ref a1)]))
    refine go_st (fun t k => XS.iload X6.here hx rfl (hb hby d5_55) rfl k) ?_
    show Go _ _ _ _ (T6.setTop (mkF m 57 #[rv a1, iv key, iv line, iv 3, iv 2, iv l2] [(.int 2), (.ref a1)]))
    obtain ⟨T8, h8, X8, e8, W8, st8⟩ := putF X6 hx hZ hown (host := "") (Or.inl (w27 hw)) Via.refl e6 H3 H0 (Or.inl (w28 hw)) (w2 hw) (ty := .int) (by decide) rfl rfl (g := (mkF m 57 #[rv a1, iv key, iv line, iv 3, iv 2, iv l2] [(.int 2), (.ref a1)])) rfl rfl (hb hby d5_57)
    have N8 := Fr.snoc X8 N4 g_a1
    have f9 : Fld Z h8 a1 "com/example/nudge/nudge/tree/BlockEntries" "first" "I" (.int 2) := H3.same W8
    refine go_st (fun t k => st8 t k) ?_
    show Go _ _ _ _ (T8.setTop (mkF m 60 #[rv a1, iv key, iv line, iv 3, iv 2, iv l2] []))
    refine go_st (fun t k => XS.iload X8.here hx rfl (hb hby d5_60) rfl k) ?_
    show Go _ _ _ _ (T8.setTop (mkF m 62 #[rv a1, iv key, iv line, iv 3, iv 2, iv l2] [(.int l2)]))
    have f10 : Exa Z h8 a1 "com/example/nudge/nudge/tree/BlockEntries" := (H0.wr W8)
    have f11 : Fld Z h8 a1 "com/example/nudge/nudge/tree/BlockEntries" "indexes" "[I" (.ref ax) := (H1.other W8 (Or.inr (slot_ne (Or.inl (w12 hw)) (Or.inl (w28 hw)) (by decide) (t := (.array .int)) (t' := .int) (by decide) (by decide))))
    have f12 : Fld Z h8 a1 "com/example/nudge/nudge/tree/BlockEntries" "lines" "[I" (.ref al) := (H2.other W8 (Or.inr (slot_ne (Or.inl (w14 hw)) (Or.inl (w28 hw)) (by decide) (t := (.array .int)) (t' := .int) (by decide) (by decide))))
    have f13 : Fld Z h8 a1 "com/example/nudge/nudge/tree/BlockEntries" "count" "I" (.int 3) := (H4.other W8 (Or.inr (slot_ne (Or.inl (w21 hw)) (Or.inl (w28 hw)) (by decide) (t := .int) (t' := .int) (by decide) (by decide))))
    have f14 : Arv Z h8 ax kx .int (64 : Int32) [(.int x0), (.int x1), (.int x2)] (.int (0 : Int32)) := (H5.other W8 (Ne.symm ne_a1_ax))
    have f15 : Arv Z h8 al kl .int (64 : Int32) [(.int l0), (.int l1), (.int l2)] (.int (0 : Int32)) := (H6.other W8 (Ne.symm ne_a1_al))
    have ke16 : Keep h0 h8 [a1] := (Keep.wr (Keep.refl h0 [a1]) W8 (Or.inl (List.mem_of_getElem? (i := 0) rfl)))
    obtain ⟨fs, hr, hrun, hended, hW, hsame⟩ := X8.leave (v := some (.int l2)) (fun h => by rw [Bd.returns] at h; cases h)
    refine ⟨_, _, ?_, hrun, hended, _, _, rfl, ?_, ⟨_, rfl⟩, hW, hsame.mono (by decide) (by decide)⟩
    · exact retI X8 hx Bd.returns (hb hby d5_62) hr
    · show Q_lb_233 _ _ _ _ _ _ _ _ _ _ _ _ _ _ _ _ _ T8.heap _
      rw [e8]
      exact ⟨rfl, N8, ke16, f10, f11, f12, f9, f13, f14, f15⟩
  · skip
    show Go _ _ _ _ (T4.setTop (mkF m 16 #[rv a1, iv key, iv line, .unset, .unset, .unset] [(.int (-4))]))
    refine go_st (fun t k => XS.istoreN X4.here hx rfl (hb hby d5_16) rfl (l' := #[rv a1, iv key, iv line, iv (-4), .unset, .unset]) rfl k) ?_
    show Go _ _ _ _ (T4.setTop (mkF m 17 #[rv a1, iv key, iv line, iv (-4), .unset, .unset] []))
    refine go_st (fun t k => XS.iloadN X4.here hx rfl (hb hby d5_17) rfl k) ?_
    show Go _ _ _ _ (T4.setTop (mkF m 18 #[rv a1, iv key, iv line, iv (-4), .unset, .unset] [(.int (-4))]))
    refine go_st (fun t k => XS.ifYes X4.here hx rfl (pc0 := 18) (pc' := 25) rfl (hb hby d5_18) rfl ((if0 _ _).trans (tlt ((by decide) : (-4 : Int32) < (0 : Int32))).1) (by decide) (by decide) k) ?_
    show Go _ _ _ _ (T4.setTop (mkF m 25 #[rv a1, iv key, iv line, iv (-4), .unset, .unset] []))
    refine go_st (fun t k => XS.iloadN X4.here hx rfl (hb hby d5_25) rfl k) ?_
    show Go _ _ _ _ (T4.setTop (mkF m 26 #[rv a1, iv key, iv line, iv (-4), .unset, .unset] [(.int (-4))]))
    refine go_st (fun t k => XS.ineg X4.here hx rfl (hb hby d5_26) rfl k) ?_
    rw [show (-(-4 : Int32)) = (4 : Int32) from by decide]
    show Go _ _ _ _ (T4.setTop (mkF m 27 #[rv a1, iv key, iv line, iv (-4), .unset, .unset] [(.int 4)]))
    refine go_st (fun t k => XS.iconst X4.here hx rfl (hb hby d5_27) k) ?_
    show Go _ _ _ _ (T4.setTop (mkF m 28 #[rv a1, iv key, iv line, iv (-4), .unset, .unset] [(.int 1), (.int 4)]))
    refine go_st (fun t k => XS.isub X4.here hx rfl (hb hby d5_28) rfl k) ?_
    rw [show ((4 : Int32) - (1 : Int32)) = (3 : Int32) from by decide]
    show Go _ _ _ _ (T4.setTop (mkF m 29 #[rv a1, iv key, iv line, iv (-4), .unset, .unset] [(.int 3)]))
    refine go_st (fun t k => XS.iconst X4.here hx rfl (hb hby d5_29) k) ?_
    show Go _ _ _ _ (T4.setTop (mkF m 30 #[rv a1, iv key, iv line, iv (-4), .unset, .unset] [(.int 1), (.int 3)]))
    refine go_st (fun t k => XS.isub X4.here hx rfl (hb hby d5_30) rfl k) ?_
    rw [show ((3 : Int32) - (1 : Int32)) = (2 : Int32) from by decide]
    show Go _ _ _ _ (T4.setTop (mkF m 31 #[rv a1, iv key, iv line, iv (-4), .unset, .unset] [(.int 2)]))
    refine go_st (fun t k => XS.istore X4.here hx rfl (hb hby d5_31) rfl (l' := #[rv a1, iv key, iv line, iv (-4), iv 2, .unset]) rfl k) ?_
    show Go _ _ _ _ (T4.setTop (mkF m 33 #[rv a1, iv key, iv line, iv (-4), iv 2, .unset] []))
    refine go_st (fun t k => XS.iloadN X4.here hx rfl (hb hby d5_33) rfl k) ?_
    show Go _ _ _ _ (T4.setTop (mkF m 34 #[rv a1, iv key, iv line, iv (-4), iv 2, .unset] [(.int line)]))
    refine go_st (fun t k => XS.istore X4.here hx rfl (hb hby d5_34) rfl (l' := #[rv a1, iv key, iv line, iv (-4), iv 2, iv line]) rfl k) ?_
    show Go _ _ _ _ (T4.setTop (mkF m 36 #[rv a1, iv key, iv line, iv (-4), iv 2, iv line] []))
    refine go_st (fun t k => XS.iload X4.here hx rfl (hb hby d5_36) rfl k) ?_
    show Go _ _ _ _ (T4.setTop (mkF m 38 #[rv a1, iv key, iv line, iv (-4), iv 2, iv line] [(.int 2)]))
    refine go_st (fun t k => XS.aloadN X4.here hx rfl (hb hby d5_38) rfl rfl k) ?_
    show Go _ _ _ _ (T4.setTop (mkF m 39 #[rv a1, iv key, iv line, iv (-4), iv 2, iv line] [(.ref a1), (.int 2)]))
    obtain ⟨T17, X17, e17, st17⟩ := getF X4 hx hZ hown (host := "") (Or.inl (w27 hw)) Via.refl e4 H3 (g := (mkF m 39 #[rv a1, iv key, iv line, iv (-4), iv 2, iv line] [(.ref a1), (.int 2)])) rfl rfl (hb hby d5_39)
    refine go_st (fun t k => st17 t k) ?_
    show Go _ _ _ _ (T17.setTop (mkF m 42 #[rv a1, iv key, iv line, iv (-4), iv 2, iv line] [(.int 2), (.int 2)]))
    refine go_st (fun t k => XS.icmpNo X17.here hx rfl (hb hby d5_42) rfl (flt ((by decide) : ¬ ((2 : Int32) < (2 : Int32)))).1 k) ?_
    show Go _ _ _ _ (T17.setTop (mkF m 45 #[rv a1, iv key, iv line, iv (-4), iv 2, iv line] []))
    refine go_st (fun t k => XS.aloadN X17.here hx rfl (hb hby d5_45) rfl rfl k) ?_
    show Go _ _ _ _ (T17.setTop (mkF m 46 #[rv a1, iv key, iv line, iv (-4), iv 2, iv line] [(.ref a1)]))
    obtain ⟨T18, X18, e18, st18⟩ := getF X17 hx hZ hown (host := "") (Or.inl (w13 hw)) Via.refl e17 H2 (g := (mkF m 46 #[rv a1, iv key, iv line, iv (-4), iv 2, iv line] [(.ref a1)])) rfl rfl (hb hby d5_46)
    refine go_st (fun t k => st18 t k) ?_
    show Go _ _ _ _ (T18.setTop (mkF m 49 #[rv a1, iv key, iv line, iv (-4), iv 2, iv line] [(.ref al)]))
    refine go_st (fun t k => XS.iload X18.here hx rfl (hb hby d5_49) rfl k) ?_
    show Go _ _ _ _ (T18.setTop (mkF m 51 #[rv a1, iv key, iv line, iv (-4), iv 2, iv line] [(.int 2), (.ref al)]))
    obtain ⟨zc19, zA19, zq19, zS19, zN19, zH19, zG19⟩ := id H6
    have hin19 : ¬ ((2 : Int32) < 0 ∨ zc19.slots.size ≤ ((2 : Int32)).toNatClampNeg) := inb_of zS19 ⟨by decide, by decide⟩
    have hat19 : zc19.slots[((2 : Int32)).toNatClampNeg]? = some (.int l2) := Has.at zH19 hin19 rfl
    refine go_st (fun t k => X18.iaload hx (j := (2 : Int32)) (v := (.int l2)) (by rw [e18]; exact zA19.1) (State.isArrayOf_alike hZ.alike zA19.2.1) zA19.2.2 hin19 hat19 (g := (mkF m 51 #[rv a1, iv key, iv line, iv (-4), iv 2, iv line] [(.int 2), (.ref al)])) rfl rfl (hb hby d5_51) t k) ?_
    show Go _ _ _ _ (T18.setTop (mkF m 52 #[rv a1, iv key, iv line, iv (-4), iv 2, iv line] [(.int l2)]))
    refine go_st (fun t k => XS.istore X18.here hx rfl (hb hby d5_52) rfl (l' := #[rv a1, iv key, iv line, iv (-4), iv 2, iv l2]) rfl k) ?_
    show Go _ _ _ _ (T18.setTop (mkF m 54 #[rv a1, iv key, iv line, iv (-4), iv 2, iv l2] []))
    refine go_st (fun t k => XS.aloadN X18.here hx rfl (hb hby d5_54) rfl rfl k) ?_
    show Go _ _ _ _ (T18.setTop (mkF m 55 #[rv a1, iv key, iv line, iv (-4), iv 2, iv l2] [(.ref a1)]))
    refine go_st (fun t k => XS.iload X18.here hx rfl (hb hby d5_55) rfl k) ?_
    show Go _ _ _ _ (T18.setTop (mkF m 57 #[rv a1, iv key, iv line, iv (-4), iv 2, iv l2] [(.int 2), (.ref a1)]))
    obtain ⟨T20, h20, X20, e20, W20, st20⟩ := putF X18 hx hZ hown (host := "") (Or.inl (w27 hw)) Via.refl e18 H3 H0 (Or.inl (w28 hw)) (w2 hw) (ty := .int) (by decide) rfl rfl (g := (mkF m 57 #[rv a1, iv key, iv line, iv (-4), iv 2, iv l2] [(.int 2), (.ref a1)])) rfl rfl (hb hby d5_57)
    have N20 := Fr.snoc X20 N4 g_a1
    have f21 : Fld Z h20 a1 "com/example/nudge/nudge/tree/BlockEntries" "first" "I" (.int 2) := H3.same W20
    refine go_st (fun t k => st20 t k) ?_
    show Go _ _ _ _ (T20.setTop (mkF m 60 #[rv a1, iv key, iv line, iv (-4), iv 2, iv l2] []))
    refine go_st (fun t k => XS.iload X20.here hx rfl (hb hby d5_60) rfl k) ?_
    show Go _ _ _ _ (T20.setTop (mkF m 62 #[rv a1, iv key, iv line, iv (-4), iv 2, iv l2] [(.int l2)]))
    have f22 : Exa Z h20 a1 "com/example/nudge/nudge/tree/BlockEntries" := (H0.wr W20)
    have f23 : Fld Z h20 a1 "com/example/nudge/nudge/tree/BlockEntries" "indexes" "[I" (.ref ax) := (H1.other W20 (Or.inr (slot_ne (Or.inl (w12 hw)) (Or.inl (w28 hw)) (by decide) (t := (.array .int)) (t' := .int) (by decide) (by decide))))
    have f24 : Fld Z h20 a1 "com/example/nudge/nudge/tree/BlockEntries" "lines" "[I" (.ref al) := (H2.other W20 (Or.inr (slot_ne (Or.inl (w14 hw)) (Or.inl (w28 hw)) (by decide) (t := (.array .int)) (t' := .int) (by decide) (by decide))))
    have f25 : Fld Z h20 a1 "com/example/nudge/nudge/tree/BlockEntries" "count" "I" (.int 3) := (H4.other W20 (Or.inr (slot_ne (Or.inl (w21 hw)) (Or.inl (w28 hw)) (by decide) (t := .int) (t' := .int) (by decide) (by decide))))
    have f26 : Arv Z h20 ax kx .int (64 : Int32) [(.int x0), (.int x1), (.int x2)] (.int (0 : Int32)) := (H5.other W20 (Ne.symm ne_a1_ax))
    have f27 : Arv Z h20 al kl .int (64 : Int32) [(.int l0), (.int l1), (.int l2)] (.int (0 : Int32)) := (H6.other W20 (Ne.symm ne_a1_al))
    have ke28 : Keep h0 h20 [a1] := (Keep.wr (Keep.refl h0 [a1]) W20 (Or.inl (List.mem_of_getElem? (i := 0) rfl)))
    obtain ⟨fs, hr, hrun, hended, hW, hsame⟩ := X20.leave (v := some (.int l2)) (fun h => by rw [Bd.returns] at h; cases h)
    refine ⟨_, _, ?_, hrun, hended, _, _, rfl, ?_, ⟨_, rfl⟩, hW, hsame.mono (by decide) (by decide)⟩
    · exact retI X20 hx Bd.returns (hb hby d5_62) hr
    · show Q_lb_233 _ _ _ _ _ _ _ _ _ _ _ _ _ _ _ _ _ T20.heap _
      rw [e20]
      exact ⟨rfl, N20, ke28, f22, f23, f24, f21, f25, f26, f27⟩
def Q_law (Z : State) (p0 : Int32) (p1 : Int32) (p2 : Int32) (p3 : Int32) (p4 : Int32) (p5 : Int32) (h0 : Heap) (n0 : Nat) (vR : Option Value) (h : Heap) (L : List Loc) : Prop := vR = some (.int 1) ∧ Fr n0 L ∧ Keep h0 h []
theorem ef_law (m : MethodId) (x0 : Int32) (x1 : Int32) (x2 : Int32) (x3 : Int32) (x4 : Int32) (x5 : Int32) : entryFrame m #[(.int x0), (.int x1), (.int x2), (.int x3), (.int x4), (.int x5)] maxLocals = mkF m 0 #[.val (.int x0), .val (.int x1), .val (.int x2), .val (.int x3), .val (.int x4), .val (.int x5), .unset, .unset, .unset, .unset, .unset, .unset, .unset, .unset, .unset, .unset, .unset, .unset] [] := by first | (simp [entryFrame, mkF, argsToLocals, Value.category, maxLocals]; done) | rfl
set_option maxRecDepth 65536 in
set_option maxHeartbeats 40000000 in
theorem rm_law (l : Launch) (Z : State) (a0 : Array Value) (hw : ∀ d ∈ tables_1, d.before a0 Z = true) (ws : List Jvm.Cond) (p0 : Int32) (p1 : Int32) (p2 : Int32) (p3 : Int32) (p4 : Int32) (p5 : Int32) (h0 : Heap) (n0 : Nat) (Z0 : n0 ≤ h0.size)  :
    MetFree l x (head1 (Jvm.Cond.code x code maxLocals ret :: ws) room_1) (fun a U => a = #[(.int p0), (.int p1), (.int p2), (.int p3), (.int p4), (.int p5)] ∧ Z.Warmed39 U.vm ∧ U.heap = h0) (fun _ _ _ _ _ => True) (fun _ U o U' => ∃ v L, o = .returned v ∧ Q_law Z p0 p1 p2 p3 p4 p5 h0 n0 v U'.heap L ∧ FrameEnd U o U' L room_1.cells room_1.slots) := by
  refine MetFree.of_bodySF (plainFor_of_name pn_com_example_nudge_nudge_tree_BlockEntriesNotePinLaw) hisR ?_
  intro p e s m args below meth c s₁ Bd hml0 hP hK
  obtain ⟨rfl, hZ, hh⟩ := hP
  have hx := Bd.exec
  have hby := Bd.bytes
  have hml : c.maxLocals = 18 := hml0
  have hown : s.vm.findClass "com/example/nudge/nudge/tree/BlockEntriesNotePinLaw" = some m.cls := findClass_of_methodNamed Bd.named
  have hnm := (name_of_methodNamed Bd.named Bd.method).1
  have X0 : Stand p l e room_1 s m #[(.int p0), (.int p1), (.int p2), (.int p3), (.int p4), (.int p5)] below meth c s₁ [] 0 0 := Stand.of_body Bd
  have e0 : s₁.heap = h0 := by rw [← hh, Bd.state]; rfl
  have N0 := Fr.nil n0
  refine go_st (fun t k => castTop (ef_law m p0 p1 p2 p3 p4 p5) k) ?_
  show Go _ _ _ _ (s₁.setTop (mkF m 0 #[iv p0, iv p1, iv p2, iv p3, iv p4, iv p5, .unset, .unset, .unset, .unset, .unset, .unset, .unset, .unset, .unset, .unset, .unset, .unset] []))
  refine go_st (fun t k => XS.iloadN X0.here hx rfl (hb hby at_0) rfl k) ?_
  show Go _ _ _ _ (s₁.setTop (mkF m 1 #[iv p0, iv p1, iv p2, iv p3, iv p4, iv p5, .unset, .unset, .unset, .unset, .unset, .unset, .unset, .unset, .unset, .unset, .unset, .unset] [(.int p1)]))
  refine go_st (fun t k => XS.sipush X0.here hx rfl (hb hby at_1) k) ?_
  show Go _ _ _ _ (s₁.setTop (mkF m 4 #[iv p0, iv p1, iv p2, iv p3, iv p4, iv p5, .unset, .unset, .unset, .unset, .unset, .unset, .unset, .unset, .unset, .unset, .unset, .unset] [(.int 255), (.int p1)]))
  refine go_st (fun t k => XS.iand X0.here hx rfl (hb hby at_4) rfl k) ?_
  show Go _ _ _ _ (s₁.setTop (mkF m 5 #[iv p0, iv p1, iv p2, iv p3, iv p4, iv p5, .unset, .unset, .unset, .unset, .unset, .unset, .unset, .unset, .unset, .unset, .unset, .unset] [(.int (p1 &&& (255 : Int32)))]))
  refine go_st (fun t k => XS.istore X0.here hx rfl (hb hby at_5) rfl (l' := #[iv p0, iv p1, iv p2, iv p3, iv p4, iv p5, iv (p1 &&& (255 : Int32)), .unset, .unset, .unset, .unset, .unset, .unset, .unset, .unset, .unset, .unset, .unset]) rfl k) ?_
  show Go _ _ _ _ (s₁.setTop (mkF m 7 #[iv p0, iv p1, iv p2, iv p3, iv p4, iv p5, iv (p1 &&& (255 : Int32)), .unset, .unset, .unset, .unset, .unset, .unset, .unset, .unset, .unset, .unset, .unset] []))
  obtain ⟨d1, h_d1⟩ : ∃ z, z = (p1 &&& (255 : Int32)) := ⟨_, rfl⟩
  rw [← h_d1]
  show Go _ _ _ _ (s₁.setTop (mkF m 7 #[iv p0, iv p1, iv p2, iv p3, iv p4, iv p5, iv d1, .unset, .unset, .unset, .unset, .unset, .unset, .unset, .unset, .unset, .unset, .unset] []))
  refine go_st (fun t k => XS.iloadN X0.here hx rfl (hb hby at_7) rfl k) ?_
  show Go _ _ _ _ (s₁.setTop (mkF m 8 #[iv p0, iv p1, iv p2, iv p3, iv p4, iv p5, iv d1, .unset, .unset, .unset, .unset, .unset, .unset, .unset, .unset, .unset, .unset, .unset] [(.int p1)]))
  refine go_st (fun t k => XS.bipush X0.here hx rfl (hb hby at_8) k) ?_
  show Go _ _ _ _ (s₁.setTop (mkF m 10 #[iv p0, iv p1, iv p2, iv p3, iv p4, iv p5, iv d1, .unset, .unset, .unset, .unset, .unset, .unset, .unset, .unset, .unset, .unset, .unset] [(.int 8), (.int p1)]))
  refine go_st (fun t k => XS.iushr X0.here hx rfl (hb hby at_10) rfl k) ?_
  show Go _ _ _ _ (s₁.setTop (mkF m 11 #[iv p0, iv p1, iv p2, iv p3, iv p4, iv p5, iv d1, .unset, .unset, .unset, .unset, .unset, .unset, .unset, .unset, .unset, .unset, .unset] [(.int ((p1).toUInt32 >>> ((8 : Int32) &&& 31).toUInt32).toInt32)]))
  refine go_st (fun t k => XS.sipush X0.here hx rfl (hb hby at_11) k) ?_
  show Go _ _ _ _ (s₁.setTop (mkF m 14 #[iv p0, iv p1, iv p2, iv p3, iv p4, iv p5, iv d1, .unset, .unset, .unset, .unset, .unset, .unset, .unset, .unset, .unset, .unset, .unset] [(.int 255), (.int ((p1).toUInt32 >>> ((8 : Int32) &&& 31).toUInt32).toInt32)]))
  refine go_st (fun t k => XS.iand X0.here hx rfl (hb hby at_14) rfl k) ?_
  show Go _ _ _ _ (s₁.setTop (mkF m 15 #[iv p0, iv p1, iv p2, iv p3, iv p4, iv p5, iv d1, .unset, .unset, .unset, .unset, .unset, .unset, .unset, .unset, .unset, .unset, .unset] [(.int (((p1).toUInt32 >>> ((8 : Int32) &&& 31).toUInt32).toInt32 &&& (255 : Int32)))]))
  refine go_st (fun t k => XS.istore X0.here hx rfl (hb hby at_15) rfl (l' := #[iv p0, iv p1, iv p2, iv p3, iv p4, iv p5, iv d1, iv (((p1).toUInt32 >>> ((8 : Int32) &&& 31).toUInt32).toInt32 &&& (255 : Int32)), .unset, .unset, .unset, .unset, .unset, .unset, .unset, .unset, .unset, .unset]) rfl k) ?_
  show Go _ _ _ _ (s₁.setTop (mkF m 17 #[iv p0, iv p1, iv p2, iv p3, iv p4, iv p5, iv d1, iv (((p1).toUInt32 >>> ((8 : Int32) &&& 31).toUInt32).toInt32 &&& (255 : Int32)), .unset, .unset, .unset, .unset, .unset, .unset, .unset, .unset, .unset, .unset] []))
  obtain ⟨d2, h_d2⟩ : ∃ z, z = (((p1).toUInt32 >>> ((8 : Int32) &&& 31).toUInt32).toInt32 &&& (255 : Int32)) := ⟨_, rfl⟩
  rw [← h_d2]
  show Go _ _ _ _ (s₁.setTop (mkF m 17 #[iv p0, iv p1, iv p2, iv p3, iv p4, iv p5, iv d1, iv d2, .unset, .unset, .unset, .unset, .unset, .unset, .unset, .unset, .unset, .unset] []))
  refine go_st (fun t k => XS.iloadN X0.here hx rfl (hb hby at_17) rfl k) ?_
  show Go _ _ _ _ (s₁.setTop (mkF m 18 #[iv p0, iv p1, iv p2, iv p3, iv p4, iv p5, iv d1, iv d2, .unset, .unset, .unset, .unset, .unset, .unset, .unset, .unset, .unset, .unset] [(.int p1)]))
  refine go_st (fun t k => XS.bipush X0.here hx rfl (hb hby at_18) k) ?_
  show Go _ _ _ _ (s₁.setTop (mkF m 20 #[iv p0, iv p1, iv p2, iv p3, iv p4, iv p5, iv d1, iv d2, .unset, .unset, .unset, .unset, .unset, .unset, .unset, .unset, .unset, .unset] [(.int 16), (.int p1)]))
  refine go_st (fun t k => XS.iushr X0.here hx rfl (hb hby at_20) rfl k) ?_
  show Go _ _ _ _ (s₁.setTop (mkF m 21 #[iv p0, iv p1, iv p2, iv p3, iv p4, iv p5, iv d1, iv d2, .unset, .unset, .unset, .unset, .unset, .unset, .unset, .unset, .unset, .unset] [(.int ((p1).toUInt32 >>> ((16 : Int32) &&& 31).toUInt32).toInt32)]))
  refine go_st (fun t k => XS.bipush X0.here hx rfl (hb hby at_21) k) ?_
  show Go _ _ _ _ (s₁.setTop (mkF m 23 #[iv p0, iv p1, iv p2, iv p3, iv p4, iv p5, iv d1, iv d2, .unset, .unset, .unset, .unset, .unset, .unset, .unset, .unset, .unset, .unset] [(.int 7), (.int ((p1).toUInt32 >>> ((16 : Int32) &&& 31).toUInt32).toInt32)]))
  refine go_st (fun t k => XS.iand X0.here hx rfl (hb hby at_23) rfl k) ?_
  show Go _ _ _ _ (s₁.setTop (mkF m 24 #[iv p0, iv p1, iv p2, iv p3, iv p4, iv p5, iv d1, iv d2, .unset, .unset, .unset, .unset, .unset, .unset, .unset, .unset, .unset, .unset] [(.int (((p1).toUInt32 >>> ((16 : Int32) &&& 31).toUInt32).toInt32 &&& (7 : Int32)))]))
  refine go_st (fun t k => XS.iconst X0.here hx rfl (hb hby at_24) k) ?_
  show Go _ _ _ _ (s₁.setTop (mkF m 25 #[iv p0, iv p1, iv p2, iv p3, iv p4, iv p5, iv d1, iv d2, .unset, .unset, .unset, .unset, .unset, .unset, .unset, .unset, .unset, .unset] [(.int 5), (.int (((p1).toUInt32 >>> ((16 : Int32) &&& 31).toUInt32).toInt32 &&& (7 : Int32)))]))
  refine go_st (fun t k => iremM X0 hx rfl (hb hby at_25) rfl (by decide) k) ?_
  show Go _ _ _ _ (s₁.setTop (mkF m 26 #[iv p0, iv p1, iv p2, iv p3, iv p4, iv p5, iv d1, iv d2, .unset, .unset, .unset, .unset, .unset, .unset, .unset, .unset, .unset, .unset] [(.int ((((p1).toUInt32 >>> ((16 : Int32) &&& 31).toUInt32).toInt32 &&& (7 : Int32)) % (5 : Int32)))]))
  refine go_st (fun t k => XS.istore X0.here hx rfl (hb hby at_26) rfl (l' := #[iv p0, iv p1, iv p2, iv p3, iv p4, iv p5, iv d1, iv d2, iv ((((p1).toUInt32 >>> ((16 : Int32) &&& 31).toUInt32).toInt32 &&& (7 : Int32)) % (5 : Int32)), .unset, .unset, .unset, .unset, .unset, .unset, .unset, .unset, .unset]) rfl k) ?_
  show Go _ _ _ _ (s₁.setTop (mkF m 28 #[iv p0, iv p1, iv p2, iv p3, iv p4, iv p5, iv d1, iv d2, iv ((((p1).toUInt32 >>> ((16 : Int32) &&& 31).toUInt32).toInt32 &&& (7 : Int32)) % (5 : Int32)), .unset, .unset, .unset, .unset, .unset, .unset, .unset, .unset, .unset] []))
  obtain ⟨sel, h_sel⟩ : ∃ z, z = ((((p1).toUInt32 >>> ((16 : Int32) &&& 31).toUInt32).toInt32 &&& (7 : Int32)) % (5 : Int32)) := ⟨_, rfl⟩
  rw [← h_sel]
  show Go _ _ _ _ (s₁.setTop (mkF m 28 #[iv p0, iv p1, iv p2, iv p3, iv p4, iv p5, iv d1, iv d2, iv sel, .unset, .unset, .unset, .unset, .unset, .unset, .unset, .unset, .unset] []))
  refine go_st (fun t k => XS.iloadN X0.here hx rfl (hb hby at_28) rfl k) ?_
  show Go _ _ _ _ (s₁.setTop (mkF m 29 #[iv p0, iv p1, iv p2, iv p3, iv p4, iv p5, iv d1, iv d2, iv sel, .unset, .unset, .unset, .unset, .unset, .unset, .unset, .unset, .unset] [(.int p1)]))
  refine go_st (fun t k => XS.bipush X0.here hx rfl (hb hby at_29) k) ?_
  show Go _ _ _ _ (s₁.setTop (mkF m 31 #[iv p0, iv p1, iv p2, iv p3, iv p4, iv p5, iv d1, iv d2, iv sel, .unset, .unset, .unset, .unset, .unset, .unset, .unset, .unset, .unset] [(.int 19), (.int p1)]))
  refine go_st (fun t k => XS.iushr X0.here hx rfl (hb hby at_31) rfl k) ?_
  show Go _ _ _ _ (s₁.setTop (mkF m 32 #[iv p0, iv p1, iv p2, iv p3, iv p4, iv p5, iv d1, iv d2, iv sel, .unset, .unset, .unset, .unset, .unset, .unset, .unset, .unset, .unset] [(.int ((p1).toUInt32 >>> ((19 : Int32) &&& 31).toUInt32).toInt32)]))
  refine go_st (fun t k => XS.sipush X0.here hx rfl (hb hby at_32) k) ?_
  show Go _ _ _ _ (s₁.setTop (mkF m 35 #[iv p0, iv p1, iv p2, iv p3, iv p4, iv p5, iv d1, iv d2, iv sel, .unset, .unset, .unset, .unset, .unset, .unset, .unset, .unset, .unset] [(.int 255), (.int ((p1).toUInt32 >>> ((19 : Int32) &&& 31).toUInt32).toInt32)]))
  refine go_st (fun t k => XS.iand X0.here hx rfl (hb hby at_35) rfl k) ?_
  show Go _ _ _ _ (s₁.setTop (mkF m 36 #[iv p0, iv p1, iv p2, iv p3, iv p4, iv p5, iv d1, iv d2, iv sel, .unset, .unset, .unset, .unset, .unset, .unset, .unset, .unset, .unset] [(.int (((p1).toUInt32 >>> ((19 : Int32) &&& 31).toUInt32).toInt32 &&& (255 : Int32)))]))
  refine go_st (fun t k => XS.istore X0.here hx rfl (hb hby at_36) rfl (l' := #[iv p0, iv p1, iv p2, iv p3, iv p4, iv p5, iv d1, iv d2, iv sel, iv (((p1).toUInt32 >>> ((19 : Int32) &&& 31).toUInt32).toInt32 &&& (255 : Int32)), .unset, .unset, .unset, .unset, .unset, .unset, .unset, .unset]) rfl k) ?_
  show Go _ _ _ _ (s₁.setTop (mkF m 38 #[iv p0, iv p1, iv p2, iv p3, iv p4, iv p5, iv d1, iv d2, iv sel, iv (((p1).toUInt32 >>> ((19 : Int32) &&& 31).toUInt32).toInt32 &&& (255 : Int32)), .unset, .unset, .unset, .unset, .unset, .unset, .unset, .unset] []))
  obtain ⟨e_, h_e_⟩ : ∃ z, z = (((p1).toUInt32 >>> ((19 : Int32) &&& 31).toUInt32).toInt32 &&& (255 : Int32)) := ⟨_, rfl⟩
  rw [← h_e_]
  show Go _ _ _ _ (s₁.setTop (mkF m 38 #[iv p0, iv p1, iv p2, iv p3, iv p4, iv p5, iv d1, iv d2, iv sel, iv e_, .unset, .unset, .unset, .unset, .unset, .unset, .unset, .unset] []))
  refine go_st (fun t k => XS.iloadN X0.here hx rfl (hb hby at_38) rfl k) ?_
  show Go _ _ _ _ (s₁.setTop (mkF m 39 #[iv p0, iv p1, iv p2, iv p3, iv p4, iv p5, iv d1, iv d2, iv sel, iv e_, .unset, .unset, .unset, .unset, .unset, .unset, .unset, .unset] [(.int p0)]))
  refine go_st (fun t k => X0.ldcInt hx hown (mvT hZ (w0 hw)) (g := (mkF m 39 #[iv p0, iv p1, iv p2, iv p3, iv p4, iv p5, iv d1, iv d2, iv sel, iv e_, .unset, .unset, .unset, .unset, .unset, .unset, .unset, .unset] [(.int p0)])) rfl (hb hby at_39) t k) ?_
  show Go _ _ _ _ (s₁.setTop (mkF m 41 #[iv p0, iv p1, iv p2, iv p3, iv p4, iv p5, iv d1, iv d2, iv sel, iv e_, .unset, .unset, .unset, .unset, .unset, .unset, .unset, .unset] [(.int 1073741823), (.int p0)]))
  refine go_st (fun t k => XS.iand X0.here hx rfl (hb hby at_41) rfl k) ?_
  show Go _ _ _ _ (s₁.setTop (mkF m 42 #[iv p0, iv p1, iv p2, iv p3, iv p4, iv p5, iv d1, iv d2, iv sel, iv e_, .unset, .unset, .unset, .unset, .unset, .unset, .unset, .unset] [(.int (p0 &&& (1073741823 : Int32)))]))
  refine go_st (fun t k => XS.istore X0.here hx rfl (hb hby at_42) rfl (l' := #[iv p0, iv p1, iv p2, iv p3, iv p4, iv p5, iv d1, iv d2, iv sel, iv e_, iv (p0 &&& (1073741823 : Int32)), .unset, .unset, .unset, .unset, .unset, .unset, .unset]) rfl k) ?_
  show Go _ _ _ _ (s₁.setTop (mkF m 44 #[iv p0, iv p1, iv p2, iv p3, iv p4, iv p5, iv d1, iv d2, iv sel, iv e_, iv (p0 &&& (1073741823 : Int32)), .unset, .unset, .unset, .unset, .unset, .unset, .unset] []))
  obtain ⟨i1, h_i1⟩ : ∃ z, z = (p0 &&& (1073741823 : Int32)) := ⟨_, rfl⟩
  rw [← h_i1]
  show Go _ _ _ _ (s₁.setTop (mkF m 44 #[iv p0, iv p1, iv p2, iv p3, iv p4, iv p5, iv d1, iv d2, iv sel, iv e_, iv i1, .unset, .unset, .unset, .unset, .unset, .unset, .unset] []))
  refine go_st (fun t k => XS.iload X0.here hx rfl (hb hby at_44) rfl k) ?_
  show Go _ _ _ _ (s₁.setTop (mkF m 46 #[iv p0, iv p1, iv p2, iv p3, iv p4, iv p5, iv d1, iv d2, iv sel, iv e_, iv i1, .unset, .unset, .unset, .unset, .unset, .unset, .unset] [(.int i1)]))
  refine go_st (fun t k => XS.iconst X0.here hx rfl (hb hby at_46) k) ?_
  show Go _ _ _ _ (s₁.setTop (mkF m 47 #[iv p0, iv p1, iv p2, iv p3, iv p4, iv p5, iv d1, iv d2, iv sel, iv e_, iv i1, .unset, .unset, .unset, .unset, .unset, .unset, .unset] [(.int 1), (.int i1)]))
  refine go_st (fun t k => XS.iadd X0.here hx rfl (hb hby at_47) rfl k) ?_
  show Go _ _ _ _ (s₁.setTop (mkF m 48 #[iv p0, iv p1, iv p2, iv p3, iv p4, iv p5, iv d1, iv d2, iv sel, iv e_, iv i1, .unset, .unset, .unset, .unset, .unset, .unset, .unset] [(.int (i1 + (1 : Int32)))]))
  refine go_st (fun t k => XS.iload X0.here hx rfl (hb hby at_48) rfl k) ?_
  show Go _ _ _ _ (s₁.setTop (mkF m 50 #[iv p0, iv p1, iv p2, iv p3, iv p4, iv p5, iv d1, iv d2, iv sel, iv e_, iv i1, .unset, .unset, .unset, .unset, .unset, .unset, .unset] [(.int d1), (.int (i1 + (1 : Int32)))]))
  refine go_st (fun t k => XS.iadd X0.here hx rfl (hb hby at_50) rfl k) ?_
  show Go _ _ _ _ (s₁.setTop (mkF m 51 #[iv p0, iv p1, iv p2, iv p3, iv p4, iv p5, iv d1, iv d2, iv sel, iv e_, iv i1, .unset, .unset, .unset, .unset, .unset, .unset, .unset] [(.int ((i1 + (1 : Int32)) + d1))]))
  refine go_st (fun t k => XS.istore X0.here hx rfl (hb hby at_51) rfl (l' := #[iv p0, iv p1, iv p2, iv p3, iv p4, iv p5, iv d1, iv d2, iv sel, iv e_, iv i1, iv ((i1 + (1 : Int32)) + d1), .unset, .unset, .unset, .unset, .unset, .unset]) rfl k) ?_
  show Go _ _ _ _ (s₁.setTop (mkF m 53 #[iv p0, iv p1, iv p2, iv p3, iv p4, iv p5, iv d1, iv d2, iv sel, iv e_, iv i1, iv ((i1 + (1 : Int32)) + d1), .unset, .unset, .unset, .unset, .unset, .unset] []))
  obtain ⟨i2, h_i2⟩ : ∃ z, z = ((i1 + (1 : Int32)) + d1) := ⟨_, rfl⟩
  rw [← h_i2]
  show Go _ _ _ _ (s₁.setTop (mkF m 53 #[iv p0, iv p1, iv p2, iv p3, iv p4, iv p5, iv d1, iv d2, iv sel, iv e_, iv i1, iv i2, .unset, .unset, .unset, .unset, .unset, .unset] []))
  refine go_st (fun t k => XS.iload X0.here hx rfl (hb hby at_53) rfl k) ?_
  show Go _ _ _ _ (s₁.setTop (mkF m 55 #[iv p0, iv p1, iv p2, iv p3, iv p4, iv p5, iv d1, iv d2, iv sel, iv e_, iv i1, iv i2, .unset, .unset, .unset, .unset, .unset, .unset] [(.int i2)]))
  refine go_st (fun t k => XS.iconst X0.here hx rfl (hb hby at_55) k) ?_
  show Go _ _ _ _ (s₁.setTop (mkF m 56 #[iv p0, iv p1, iv p2, iv p3, iv p4, iv p5, iv d1, iv d2, iv sel, iv e_, iv i1, iv i2, .unset, .unset, .unset, .unset, .unset, .unset] [(.int 1), (.int i2)]))
  refine go_st (fun t k => XS.iadd X0.here hx rfl (hb hby at_56) rfl k) ?_
  show Go _ _ _ _ (s₁.setTop (mkF m 57 #[iv p0, iv p1, iv p2, iv p3, iv p4, iv p5, iv d1, iv d2, iv sel, iv e_, iv i1, iv i2, .unset, .unset, .unset, .unset, .unset, .unset] [(.int (i2 + (1 : Int32)))]))
  refine go_st (fun t k => XS.iload X0.here hx rfl (hb hby at_57) rfl k) ?_
  show Go _ _ _ _ (s₁.setTop (mkF m 59 #[iv p0, iv p1, iv p2, iv p3, iv p4, iv p5, iv d1, iv d2, iv sel, iv e_, iv i1, iv i2, .unset, .unset, .unset, .unset, .unset, .unset] [(.int d2), (.int (i2 + (1 : Int32)))]))
  refine go_st (fun t k => XS.iadd X0.here hx rfl (hb hby at_59) rfl k) ?_
  show Go _ _ _ _ (s₁.setTop (mkF m 60 #[iv p0, iv p1, iv p2, iv p3, iv p4, iv p5, iv d1, iv d2, iv sel, iv e_, iv i1, iv i2, .unset, .unset, .unset, .unset, .unset, .unset] [(.int ((i2 + (1 : Int32)) + d2))]))
  refine go_st (fun t k => XS.istore X0.here hx rfl (hb hby at_60) rfl (l' := #[iv p0, iv p1, iv p2, iv p3, iv p4, iv p5, iv d1, iv d2, iv sel, iv e_, iv i1, iv i2, iv ((i2 + (1 : Int32)) + d2), .unset, .unset, .unset, .unset, .unset]) rfl k) ?_
  show Go _ _ _ _ (s₁.setTop (mkF m 62 #[iv p0, iv p1, iv p2, iv p3, iv p4, iv p5, iv d1, iv d2, iv sel, iv e_, iv i1, iv i2, iv ((i2 + (1 : Int32)) + d2), .unset, .unset, .unset, .unset, .unset] []))
  obtain ⟨i3, h_i3⟩ : ∃ z, z = ((i2 + (1 : Int32)) + d2) := ⟨_, rfl⟩
  rw [← h_i3]
  show Go _ _ _ _ (s₁.setTop (mkF m 62 #[iv p0, iv p1, iv p2, iv p3, iv p4, iv p5, iv d1, iv d2, iv sel, iv e_, iv i1, iv i2, iv i3, .unset, .unset, .unset, .unset, .unset] []))
  have rd1 : 0 ≤ d1.toInt ∧ d1.toInt ≤ 255 := by rw [h_d1]; exact c_and _ 255 (by decide)
  have rd2 : 0 ≤ d2.toInt ∧ d2.toInt ≤ 255 := by rw [h_d2]; exact c_and _ 255 (by decide)
  have re : 0 ≤ e_.toInt ∧ e_.toInt ≤ 255 := by rw [h_e_]; exact c_and _ 255 (by decide)
  have ri1 : 0 ≤ i1.toInt ∧ i1.toInt ≤ 1073741823 := by rw [h_i1]; exact c_and _ 1073741823 (by decide)
  have one1 : (1 : Int32).toInt = 1 := rfl
  have ri2 : i2.toInt = i1.toInt + 1 + d1.toInt := by rw [h_i2, pl_add (by rw [pl_add (by omega) (by omega)]; omega) (by rw [pl_add (by omega) (by omega)]; omega), pl_add (by omega) (by omega), one1]
  have ri3 : i3.toInt = i2.toInt + 1 + d2.toInt := by rw [h_i3, pl_add (by rw [pl_add (by omega) (by omega)]; omega) (by rw [pl_add (by omega) (by omega)]; omega), pl_add (by omega) (by omega), one1]
  have s0 : i1 < i2 := pl_lt (by omega)
  have s1 : i2 < i3 := pl_lt (by omega)
  obtain ⟨T1, h1, X1, e1, E1, A1, D1, -, st1⟩ := newO X0 hx hZ hown (w1 hw) (w2 hw) (w3 hw) e0 (g := (mkF m 62 #[iv p0, iv p1, iv p2, iv p3, iv p4, iv p5, iv d1, iv d2, iv sel, iv e_, iv i1, iv i2, iv i3, .unset, .unset, .unset, .unset, .unset] [])) rfl (hb hby at_62) (by decide) (by decide)
  obtain ⟨b1, gq1⟩ : ∃ z, z = h0.size := ⟨_, rfl⟩
  rw [← gq1] at A1 D1 st1
  have f2 : Fld Z h1 b1 "com/example/nudge/nudge/tree/BlockEntries" "indexes" "[I" .null := D1 (Or.inl (w12 hw)) (ty := (.array .int)) (by decide)
  have f3 : Fld Z h1 b1 "com/example/nudge/nudge/tree/BlockEntries" "lines" "[I" .null := D1 (Or.inl (w14 hw)) (ty := (.array .int)) (by decide)
  have f4 : Fld Z h1 b1 "com/example/nudge/nudge/tree/BlockEntries" "count" "I" (.int 0) := D1 (Or.inl (w21 hw)) (ty := .int) (by decide)
  have f5 : Fld Z h1 b1 "com/example/nudge/nudge/tree/BlockEntries" "first" "I" (.int 0) := D1 (Or.inl (w28 hw)) (ty := .int) (by decide)
  refine go_st (fun t k => st1 t k) ?_
  show Go _ _ _ _ (T1.setTop (mkF m 65 #[iv p0, iv p1, iv p2, iv p3, iv p4, iv p5, iv d1, iv d2, iv sel, iv e_, iv i1, iv i2, iv i3, .unset, .unset, .unset, .unset, .unset] [(.ref b1)]))
  refine go_st (fun t k => XS.dup X1.here hx rfl (hb hby at_65) rfl rfl k) ?_
  show Go _ _ _ _ (T1.setTop (mkF m 66 #[iv p0, iv p1, iv p2, iv p3, iv p4, iv p5, iv d1, iv d2, iv sel, iv e_, iv i1, iv i2, iv i3, .unset, .unset, .unset, .unset, .unset] [(.ref b1), (.ref b1)]))
  have g_b1 : n0 ≤ b1 := Nat.le_trans (Nat.le_trans Z0 (Nat.le_refl _)) (Nat.le_of_eq gq1.symm)
  obtain ⟨_, _, ⟨T6, L6, kk6, nn6⟩, -, X6, ⟨Lc6, hQ6, lq6, yq6, zq6⟩, st6⟩ := X1.specialBack hx (y := (⟨"com/example/nudge/nudge/tree/BlockEntries", "<init>", "()V"⟩ : MethodName)) rfl hown (mvT hZ (w4 hw)) (mvT hZ (w5 hw)) (mvT hZ (w6 hw)) (by decide) (backOf (W := 1) (rm_init l Z a0 hw [] b1 h1 n0 (Nat.le_trans Z0 E1.1) A1 f2 f3 f5 f4 g_b1) hZ (w6 hw) (w3 hw) (by decide) (by decide)) (g := (mkF m 66 #[iv p0, iv p1, iv p2, iv p3, iv p4, iv p5, iv d1, iv d2, iv sel, iv e_, iv i1, iv i2, iv i3, .unset, .unset, .unset, .unset, .unset] [(.ref b1), (.ref b1)])) rfl (by rw [hml]; rfl) (Steps.refl _) (a := b1) (argsL := []) (rest := [(.ref b1)]) (lenOf pd_2 rfl) rfl (by show 2 * 0 + _ ≤ _; exact Nat.le_of_eq rfl) (hb hby at_66) (fun _ _ => ⟨rfl, e1, (by decide : 1 + 2 ≤ _), (by decide : 4 + 128 ≤ _)⟩)
  dsimp only [Pt.U, Pt.locs, Pt.cells, Pt.slots] at X6 lq6 yq6 zq6 st6 hQ6
  subst lq6 yq6 zq6
  obtain ⟨h6, e6⟩ : ∃ z, T6.heap = z := ⟨_, rfl⟩
  rw [e6] at hQ6
  obtain ⟨ax_6, al_6, kx_6, kl_6, rfl, N6q, K6, gf6_0, lf6_0, gf6_1, lf6_1, nx6_2, p6_3, p6_4, p6_5, p6_6, p6_7, p6_8, p6_9⟩ := hQ6
  have N6 := Fr.app N0 N6q
  refine go_tr st6 ?_
  show Go _ _ _ _ (T6.setTop (mkF m 69 #[iv p0, iv p1, iv p2, iv p3, iv p4, iv p5, iv d1, iv d2, iv sel, iv e_, iv i1, iv i2, iv i3, .unset, .unset, .unset, .unset, .unset] [(.ref b1)]))
  refine go_st (fun t k => XS.astore X6.here hx rfl (hb hby at_69) rfl rfl (l' := #[iv p0, iv p1, iv p2, iv p3, iv p4, iv p5, iv d1, iv d2, iv sel, iv e_, iv i1, iv i2, iv i3, rv b1, .unset, .unset, .unset, .unset]) rfl k) ?_
  show Go _ _ _ _ (T6.setTop (mkF m 71 #[iv p0, iv p1, iv p2, iv p3, iv p4, iv p5, iv d1, iv d2, iv sel, iv e_, iv i1, iv i2, iv i3, rv b1, .unset, .unset, .unset, .unset] []))
  refine go_st (fun t k => XS.aload X6.here hx rfl (hb hby at_71) rfl rfl k) ?_
  show Go _ _ _ _ (T6.setTop (mkF m 73 #[iv p0, iv p1, iv p2, iv p3, iv p4, iv p5, iv d1, iv d2, iv sel, iv e_, iv i1, iv i2, iv i3, rv b1, .unset, .unset, .unset, .unset] [(.ref b1)]))
  refine go_st (fun t k => XS.iload X6.here hx rfl (hb hby at_73) rfl k) ?_
  show Go _ _ _ _ (T6.setTop (mkF m 75 #[iv p0, iv p1, iv p2, iv p3, iv p4, iv p5, iv d1, iv d2, iv sel, iv e_, iv i1, iv i2, iv i3, rv b1, .unset, .unset, .unset, .unset] [(.int i1), (.ref b1)]))
  refine go_st (fun t k => XS.iloadN X6.here hx rfl (hb hby at_75) rfl k) ?_
  show Go _ _ _ _ (T6.setTop (mkF m 76 #[iv p0, iv p1, iv p2, iv p3, iv p4, iv p5, iv d1, iv d2, iv sel, iv e_, iv i1, iv i2, iv i3, rv b1, .unset, .unset, .unset, .unset] [(.int p2), (.int i1), (.ref b1)]))
  have nq7 : b1 ≠ ax_6 := Nat.ne_of_lt (Nat.lt_of_lt_of_le (Nat.lt_of_lt_of_le A1.lt (Nat.le_refl _)) lf6_0)
  have nq8 : b1 ≠ al_6 := Nat.ne_of_lt (Nat.lt_of_lt_of_le (Nat.lt_of_lt_of_le A1.lt (Nat.le_refl _)) lf6_1)
  have sz9 : h0.size ≤ h6.size := (Nat.le_trans E1.1 K6.1)
  obtain ⟨cq10, kq10, q10a, q10b, q10c⟩ := isOf hZ e6 p6_3
  obtain ⟨_, _, ⟨T10, L10, kk10, nn10⟩, -, X10, ⟨Lc10, hQ10, lq10, yq10, zq10⟩, st10⟩ := X6.virtualBack hx (y := (⟨"com/example/nudge/nudge/tree/BlockEntries", "note", "(II)V"⟩ : MethodName)) (z := (⟨"com/example/nudge/nudge/tree/BlockEntries", "note", "(II)V"⟩ : MethodName)) hown (mvT hZ (w15 hw)) (mvT hZ (w16 hw)) (notFace_of_selects (args := #[]) (mvT hZ (w18 hw))) (mvT hZ (w18 hw)) (mvT hZ (w17 hw)) (by decide) (backOf (W := 0) (rm_note0 l Z a0 hw [] b1 ax_6 al_6 kx_6 kl_6 i1 p2 h6 n0 (Nat.le_trans Z0 sz9) p6_3 p6_4 p6_5 p6_6 p6_7 p6_8 p6_9 nq7 nq8 nx6_2 g_b1 gf6_0 gf6_1) hZ (w19 hw) (w3 hw) (by decide) (by decide)) q10a q10c (g := (mkF m 76 #[iv p0, iv p1, iv p2, iv p3, iv p4, iv p5, iv d1, iv d2, iv sel, iv e_, iv i1, iv i2, iv i3, rv b1, .unset, .unset, .unset, .unset] [(.int p2), (.int i1), (.ref b1)])) rfl (by rw [hml]; rfl) (Steps.refl _) (argsL := [(.int i1), (.int p2)]) (rest := []) (lenOf pd_3 rfl) rfl (by show 2 * 0 + _ ≤ _; exact Nat.le_of_eq rfl) (hb hby at_76) (fun _ _ => ⟨rfl, e6, (by decide : 3 + 0 ≤ _), (by decide : 132 + 0 ≤ _)⟩)
  dsimp only [Pt.U, Pt.locs, Pt.cells, Pt.slots] at X10 lq10 yq10 zq10 st10 hQ10
  subst lq10 yq10 zq10
  obtain ⟨h10, e10⟩ : ∃ z, T10.heap = z := ⟨_, rfl⟩
  rw [e10] at hQ10
  obtain ⟨rfl, N10q, K10, p10_0, p10_1, p10_2, p10_3, p10_4, p10_5, p10_6⟩ := hQ10
  have N10 := Fr.app N6 N10q
  refine go_tr st10 ?_
  show Go _ _ _ _ (T10.setTop (mkF m 79 #[iv p0, iv p1, iv p2, iv p3, iv p4, iv p5, iv d1, iv d2, iv sel, iv e_, iv i1, iv i2, iv i3, rv b1, .unset, .unset, .unset, .unset] []))
  refine go_st (fun t k => XS.aload X10.here hx rfl (hb hby at_79) rfl rfl k) ?_
  show Go _ _ _ _ (T10.setTop (mkF m 81 #[iv p0, iv p1, iv p2, iv p3, iv p4, iv p5, iv d1, iv d2, iv sel, iv e_, iv i1, iv i2, iv i3, rv b1, .unset, .unset, .unset, .unset] [(.ref b1)]))
  refine go_st (fun t k => XS.iload X10.here hx rfl (hb hby at_81) rfl k) ?_
  show Go _ _ _ _ (T10.setTop (mkF m 83 #[iv p0, iv p1, iv p2, iv p3, iv p4, iv p5, iv d1, iv d2, iv sel, iv e_, iv i1, iv i2, iv i3, rv b1, .unset, .unset, .unset, .unset] [(.int i2), (.ref b1)]))
  refine go_st (fun t k => XS.iloadN X10.here hx rfl (hb hby at_83) rfl k) ?_
  show Go _ _ _ _ (T10.setTop (mkF m 84 #[iv p0, iv p1, iv p2, iv p3, iv p4, iv p5, iv d1, iv d2, iv sel, iv e_, iv i1, iv i2, iv i3, rv b1, .unset, .unset, .unset, .unset] [(.int p3), (.int i2), (.ref b1)]))
  have sz11 : h0.size ≤ h10.size := (Nat.le_trans sz9 K10.1)
  obtain ⟨cq12, kq12, q12a, q12b, q12c⟩ := isOf hZ e10 p10_0
  obtain ⟨_, _, ⟨T12, L12, kk12, nn12⟩, -, X12, ⟨Lc12, hQ12, lq12, yq12, zq12⟩, st12⟩ := X10.virtualBack hx (y := (⟨"com/example/nudge/nudge/tree/BlockEntries", "note", "(II)V"⟩ : MethodName)) (z := (⟨"com/example/nudge/nudge/tree/BlockEntries", "note", "(II)V"⟩ : MethodName)) hown (mvT hZ (w15 hw)) (mvT hZ (w16 hw)) (notFace_of_selects (args := #[]) (mvT hZ (w18 hw))) (mvT hZ (w18 hw)) (mvT hZ (w17 hw)) (by decide) (backOf (W := 0) (rm_note1 l Z a0 hw [] b1 ax_6 al_6 kx_6 kl_6 i2 p3 i1 p2 h10 n0 (Nat.le_trans Z0 sz11) p10_0 p10_1 p10_2 p10_3 p10_4 p10_5 p10_6 nq7 nq8 nx6_2 g_b1 gf6_0 gf6_1) hZ (w19 hw) (w3 hw) (by decide) (by decide)) q12a q12c (g := (mkF m 84 #[iv p0, iv p1, iv p2, iv p3, iv p4, iv p5, iv d1, iv d2, iv sel, iv e_, iv i1, iv i2, iv i3, rv b1, .unset, .unset, .unset, .unset] [(.int p3), (.int i2), (.ref b1)])) rfl (by rw [hml]; rfl) (Steps.refl _) (argsL := [(.int i2), (.int p3)]) (rest := []) (lenOf pd_3 rfl) rfl (by show 2 * 0 + _ ≤ _; exact Nat.le_of_eq rfl) (hb hby at_84) (fun _ _ => ⟨rfl, e10, (by decide : 3 + 0 ≤ _), (by decide : 132 + 0 ≤ _)⟩)
  dsimp only [Pt.U, Pt.locs, Pt.cells, Pt.slots] at X12 lq12 yq12 zq12 st12 hQ12
  subst lq12 yq12 zq12
  obtain ⟨h12, e12⟩ : ∃ z, T12.heap = z := ⟨_, rfl⟩
  rw [e12] at hQ12
  obtain ⟨rfl, N12q, K12, p12_0, p12_1, p12_2, p12_3, p12_4, p12_5, p12_6⟩ := hQ12
  have N12 := Fr.app N10 N12q
  refine go_tr st12 ?_
  show Go _ _ _ _ (T12.setTop (mkF m 87 #[iv p0, iv p1, iv p2, iv p3, iv p4, iv p5, iv d1, iv d2, iv sel, iv e_, iv i1, iv i2, iv i3, rv b1, .unset, .unset, .unset, .unset] []))
  refine go_st (fun t k => XS.aload X12.here hx rfl (hb hby at_87) rfl rfl k) ?_
  show Go _ _ _ _ (T12.setTop (mkF m 89 #[iv p0, iv p1, iv p2, iv p3, iv p4, iv p5, iv d1, iv d2, iv sel, iv e_, iv i1, iv i2, iv i3, rv b1, .unset, .unset, .unset, .unset] [(.ref b1)]))
  refine go_st (fun t k => XS.iload X12.here hx rfl (hb hby at_89) rfl k) ?_
  show Go _ _ _ _ (T12.setTop (mkF m 91 #[iv p0, iv p1, iv p2, iv p3, iv p4, iv p5, iv d1, iv d2, iv sel, iv e_, iv i1, iv i2, iv i3, rv b1, .unset, .unset, .unset, .unset] [(.int i3), (.ref b1)]))
  refine go_st (fun t k => XS.iload X12.here hx rfl (hb hby at_91) rfl k) ?_
  show Go _ _ _ _ (T12.setTop (mkF m 93 #[iv p0, iv p1, iv p2, iv p3, iv p4, iv p5, iv d1, iv d2, iv sel, iv e_, iv i1, iv i2, iv i3, rv b1, .unset, .unset, .unset, .unset] [(.int p4), (.int i3), (.ref b1)]))
  have sz13 : h0.size ≤ h12.size := (Nat.le_trans sz11 K12.1)
  obtain ⟨cq14, kq14, q14a, q14b, q14c⟩ := isOf hZ e12 p12_0
  obtain ⟨_, _, ⟨T14, L14, kk14, nn14⟩, -, X14, ⟨Lc14, hQ14, lq14, yq14, zq14⟩, st14⟩ := X12.virtualBack hx (y := (⟨"com/example/nudge/nudge/tree/BlockEntries", "note", "(II)V"⟩ : MethodName)) (z := (⟨"com/example/nudge/nudge/tree/BlockEntries", "note", "(II)V"⟩ : MethodName)) hown (mvT hZ (w15 hw)) (mvT hZ (w16 hw)) (notFace_of_selects (args := #[]) (mvT hZ (w18 hw))) (mvT hZ (w18 hw)) (mvT hZ (w17 hw)) (by decide) (backOf (W := 0) (rm_note2 l Z a0 hw [] b1 ax_6 al_6 kx_6 kl_6 i3 p4 i1 i2 p2 p3 h12 n0 (Nat.le_trans Z0 sz13) p12_0 p12_1 p12_2 p12_3 p12_4 p12_5 p12_6 nq7 nq8 nx6_2 g_b1 gf6_0 gf6_1) hZ (w19 hw) (w3 hw) (by decide) (by decide)) q14a q14c (g := (mkF m 93 #[iv p0, iv p1, iv p2, iv p3, iv p4, iv p5, iv d1, iv d2, iv sel, iv e_, iv i1, iv i2, iv i3, rv b1, .unset, .unset, .unset, .unset] [(.int p4), (.int i3), (.ref b1)])) rfl (by rw [hml]; rfl) (Steps.refl _) (argsL := [(.int i3), (.int p4)]) (rest := []) (lenOf pd_3 rfl) rfl (by show 2 * 0 + _ ≤ _; exact Nat.le_of_eq rfl) (hb hby at_93) (fun _ _ => ⟨rfl, e12, (by decide : 3 + 0 ≤ _), (by decide : 132 + 0 ≤ _)⟩)
  dsimp only [Pt.U, Pt.locs, Pt.cells, Pt.slots] at X14 lq14 yq14 zq14 st14 hQ14
  subst lq14 yq14 zq14
  obtain ⟨h14, e14⟩ : ∃ z, T14.heap = z := ⟨_, rfl⟩
  rw [e14] at hQ14
  obtain ⟨rfl, N14q, K14, p14_0, p14_1, p14_2, p14_3, p14_4, p14_5, p14_6⟩ := hQ14
  have N14 := Fr.app N12 N14q
  refine go_tr st14 ?_
  show Go _ _ _ _ (T14.setTop (mkF m 96 #[iv p0, iv p1, iv p2, iv p3, iv p4, iv p5, iv d1, iv d2, iv sel, iv e_, iv i1, iv i2, iv i3, rv b1, .unset, .unset, .unset, .unset] []))
  refine go_st (fun t k => XS.iload X14.here hx rfl (hb hby at_96) rfl k) ?_
  show Go _ _ _ _ (T14.setTop (mkF m 98 #[iv p0, iv p1, iv p2, iv p3, iv p4, iv p5, iv d1, iv d2, iv sel, iv e_, iv i1, iv i2, iv i3, rv b1, .unset, .unset, .unset, .unset] [(.int sel)]))
  by_cases hc15 : sel = (0 : Int32)
  · skip
    refine go_st (fun t k => XS.ifNo X14.here hx rfl (hb hby at_98) rfl ((if0 _ _).trans (teq (hc15 : sel = (0 : Int32))).2) k) ?_
    show Go _ _ _ _ (T14.setTop (mkF m 101 #[iv p0, iv p1, iv p2, iv p3, iv p4, iv p5, iv d1, iv d2, iv sel, iv e_, iv i1, iv i2, iv i3, rv b1, .unset, .unset, .unset, .unset] []))
    refine go_st (fun t k => XS.iload X14.here hx rfl (hb hby at_101) rfl k) ?_
    show Go _ _ _ _ (T14.setTop (mkF m 103 #[iv p0, iv p1, iv p2, iv p3, iv p4, iv p5, iv d1, iv d2, iv sel, iv e_, iv i1, iv i2, iv i3, rv b1, .unset, .unset, .unset, .unset] [(.int i1)]))
    refine go_st (fun t k => XS.iconst X14.here hx rfl (hb hby at_103) k) ?_
    show Go _ _ _ _ (T14.setTop (mkF m 104 #[iv p0, iv p1, iv p2, iv p3, iv p4, iv p5, iv d1, iv d2, iv sel, iv e_, iv i1, iv i2, iv i3, rv b1, .unset, .unset, .unset, .unset] [(.int 1), (.int i1)]))
    refine go_st (fun t k => XS.isub X14.here hx rfl (hb hby at_104) rfl k) ?_
    show Go _ _ _ _ (T14.setTop (mkF m 105 #[iv p0, iv p1, iv p2, iv p3, iv p4, iv p5, iv d1, iv d2, iv sel, iv e_, iv i1, iv i2, iv i3, rv b1, .unset, .unset, .unset, .unset] [(.int (i1 - (1 : Int32)))]))
    refine go_st (fun t k => XS.iload X14.here hx rfl (hb hby at_105) rfl k) ?_
    show Go _ _ _ _ (T14.setTop (mkF m 107 #[iv p0, iv p1, iv p2, iv p3, iv p4, iv p5, iv d1, iv d2, iv sel, iv e_, iv i1, iv i2, iv i3, rv b1, .unset, .unset, .unset, .unset] [(.int e_), (.int (i1 - (1 : Int32)))]))
    refine go_st (fun t k => XS.isub X14.here hx rfl (hb hby at_107) rfl k) ?_
    show Go _ _ _ _ (T14.setTop (mkF m 108 #[iv p0, iv p1, iv p2, iv p3, iv p4, iv p5, iv d1, iv d2, iv sel, iv e_, iv i1, iv i2, iv i3, rv b1, .unset, .unset, .unset, .unset] [(.int ((i1 - (1 : Int32)) - e_))]))
    refine go_st (fun t k => XS.istore X14.here hx rfl (hb hby at_108) rfl (l' := #[iv p0, iv p1, iv p2, iv p3, iv p4, iv p5, iv d1, iv d2, iv sel, iv e_, iv i1, iv i2, iv i3, rv b1, iv ((i1 - (1 : Int32)) - e_), .unset, .unset, .unset]) rfl k) ?_
    show Go _ _ _ _ (T14.setTop (mkF m 110 #[iv p0, iv p1, iv p2, iv p3, iv p4, iv p5, iv d1, iv d2, iv sel, iv e_, iv i1, iv i2, iv i3, rv b1, iv ((i1 - (1 : Int32)) - e_), .unset, .unset, .unset] []))
    refine go_st (fun t k => XS.iload X14.here hx rfl (hb hby at_110) rfl k) ?_
    show Go _ _ _ _ (T14.setTop (mkF m 112 #[iv p0, iv p1, iv p2, iv p3, iv p4, iv p5, iv d1, iv d2, iv sel, iv e_, iv i1, iv i2, iv i3, rv b1, iv ((i1 - (1 : Int32)) - e_), .unset, .unset, .unset] [(.int p5)]))
    refine go_st (fun t k => XS.istore X14.here hx rfl (hb hby at_112) rfl (l' := #[iv p0, iv p1, iv p2, iv p3, iv p4, iv p5, iv d1, iv d2, iv sel, iv e_, iv i1, iv i2, iv i3, rv b1, iv ((i1 - (1 : Int32)) - e_), iv p5, .unset, .unset]) rfl k) ?_
    show Go _ _ _ _ (T14.setTop (mkF m 114 #[iv p0, iv p1, iv p2, iv p3, iv p4, iv p5, iv d1, iv d2, iv sel, iv e_, iv i1, iv i2, iv i3, rv b1, iv ((i1 - (1 : Int32)) - e_), iv p5, .unset, .unset] []))
    refine go_st (fun t k => XS.goto X14.here hx rfl (pc0 := 114) (pc' := 199) rfl (hb hby at_114) (by decide) (by decide) k) ?_
    show Go _ _ _ _ (T14.setTop (mkF m 199 #[iv p0, iv p1, iv p2, iv p3, iv p4, iv p5, iv d1, iv d2, iv sel, iv e_, iv i1, iv i2, iv i3, rv b1, iv ((i1 - (1 : Int32)) - e_), iv p5, .unset, .unset] []))
    obtain ⟨q_, h_q_⟩ : ∃ z, z = ((i1 - (1 : Int32)) - e_) := ⟨_, rfl⟩
    rw [← h_q_]
    show Go _ _ _ _ (T14.setTop (mkF m 199 #[iv p0, iv p1, iv p2, iv p3, iv p4, iv p5, iv d1, iv d2, iv sel, iv e_, iv i1, iv i2, iv i3, rv b1, iv q_, iv p5, .unset, .unset] []))
    have hq : q_.toInt = i1.toInt - 1 - e_.toInt := by rw [h_q_, pl_sub (by rw [pl_sub (by omega) (by omega)]; omega) (by rw [pl_sub (by omega) (by omega)]; omega), pl_sub (by omega) (by omega), one1]
    refine go_st (fun t k => XS.aload X14.here hx rfl (hb hby at_199) rfl rfl k) ?_
    show Go _ _ _ _ (T14.setTop (mkF m 201 #[iv p0, iv p1, iv p2, iv p3, iv p4, iv p5, iv d1, iv d2, iv sel, iv e_, iv i1, iv i2, iv i3, rv b1, iv q_, iv p5, .unset, .unset] [(.ref b1)]))
    refine go_st (fun t k => XS.iload X14.here hx rfl (hb hby at_201) rfl k) ?_
    show Go _ _ _ _ (T14.setTop (mkF m 203 #[iv p0, iv p1, iv p2, iv p3, iv p4, iv p5, iv d1, iv d2, iv sel, iv e_, iv i1, iv i2, iv i3, rv b1, iv q_, iv p5, .unset, .unset] [(.int q_), (.ref b1)]))
    refine go_st (fun t k => XS.iload X14.here hx rfl (hb hby at_203) rfl k) ?_
    show Go _ _ _ _ (T14.setTop (mkF m 205 #[iv p0, iv p1, iv p2, iv p3, iv p4, iv p5, iv d1, iv d2, iv sel, iv e_, iv i1, iv i2, iv i3, rv b1, iv q_, iv p5, .unset, .unset] [(.int p5), (.int q_), (.ref b1)]))
    have sz16 : h0.size ≤ h14.size := (Nat.le_trans sz13 K14.1)
    obtain ⟨cq17, kq17, q17a, q17b, q17c⟩ := isOf hZ e14 p14_0
    obtain ⟨_, _, ⟨T17, L17, kk17, nn17⟩, -, X17, ⟨Lc17, hQ17, lq17, yq17, zq17⟩, st17⟩ := X14.virtualBack hx (y := (⟨"com/example/nudge/nudge/tree/BlockEntries", "lineBefore", "(II)I"⟩ : MethodName)) (z := (⟨"com/example/nudge/nudge/tree/BlockEntries", "lineBefore", "(II)I"⟩ : MethodName)) hown (mvT hZ (w22 hw)) (mvT hZ (w23 hw)) (notFace_of_selects (args := #[]) (mvT hZ (w25 hw))) (mvT hZ (w25 hw)) (mvT hZ (w24 hw)) (by decide) (backOf (W := 0) (rm_lb_030 l Z a0 hw [] b1 ax_6 al_6 kx_6 kl_6 q_ p5 i1 i2 i3 p2 p3 p4 h14 n0 (Nat.le_trans Z0 sz16) p14_0 p14_1 p14_2 p14_3 p14_4 p14_5 p14_6 nq7 nq8 nx6_2 g_b1 s0 s1 (pl_nlt (by omega))) hZ (w26 hw) (w3 hw) (by decide) (by decide)) q17a q17c (g := (mkF m 205 #[iv p0, iv p1, iv p2, iv p3, iv p4, iv p5, iv d1, iv d2, iv sel, iv e_, iv i1, iv i2, iv i3, rv b1, iv q_, iv p5, .unset, .unset] [(.int p5), (.int q_), (.ref b1)])) rfl (by rw [hml]; rfl) (Steps.refl _) (argsL := [(.int q_), (.int p5)]) (rest := []) (lenOf pd_4 rfl) rfl (by show 2 * 0 + _ ≤ _; exact Nat.le_of_eq rfl) (hb hby at_205) (fun _ _ => ⟨rfl, e14, (by decide : 3 + 0 ≤ _), (by decide : 132 + 0 ≤ _)⟩)
    dsimp only [Pt.U, Pt.locs, Pt.cells, Pt.slots] at X17 lq17 yq17 zq17 st17 hQ17
    subst lq17 yq17 zq17
    obtain ⟨h17, e17⟩ : ∃ z, T17.heap = z := ⟨_, rfl⟩
    rw [e17] at hQ17
    obtain ⟨rfl, N17q, K17, p17_0, p17_1, p17_2, p17_3, p17_4, p17_5, p17_6⟩ := hQ17
    have N17 := Fr.app N14 N17q
    refine go_tr st17 ?_
    show Go _ _ _ _ (T17.setTop (mkF m 208 #[iv p0, iv p1, iv p2, iv p3, iv p4, iv p5, iv d1, iv d2, iv sel, iv e_, iv i1, iv i2, iv i3, rv b1, iv q_, iv p5, .unset, .unset] [(.int p5)]))
    refine go_st (fun t k => XS.istore X17.here hx rfl (hb hby at_208) rfl (l' := #[iv p0, iv p1, iv p2, iv p3, iv p4, iv p5, iv d1, iv d2, iv sel, iv e_, iv i1, iv i2, iv i3, rv b1, iv q_, iv p5, iv p5, .unset]) rfl k) ?_
    show Go _ _ _ _ (T17.setTop (mkF m 210 #[iv p0, iv p1, iv p2, iv p3, iv p4, iv p5, iv d1, iv d2, iv sel, iv e_, iv i1, iv i2, iv i3, rv b1, iv q_, iv p5, iv p5, .unset] []))
    refine go_st (fun t k => XS.aload X17.here hx rfl (hb hby at_210) rfl rfl k) ?_
    show Go _ _ _ _ (T17.setTop (mkF m 212 #[iv p0, iv p1, iv p2, iv p3, iv p4, iv p5, iv d1, iv d2, iv sel, iv e_, iv i1, iv i2, iv i3, rv b1, iv q_, iv p5, iv p5, .unset] [(.ref b1)]))
    refine go_st (fun t k => XS.iload X17.here hx rfl (hb hby at_212) rfl k) ?_
    show Go _ _ _ _ (T17.setTop (mkF m 214 #[iv p0, iv p1, iv p2, iv p3, iv p4, iv p5, iv d1, iv d2, iv sel, iv e_, iv i1, iv i2, iv i3, rv b1, iv q_, iv p5, iv p5, .unset] [(.int i3), (.ref b1)]))
    refine go_st (fun t k => XS.sipush X17.here hx rfl (hb hby at_214) k) ?_
    show Go _ _ _ _ (T17.setTop (mkF m 217 #[iv p0, iv p1, iv p2, iv p3, iv p4, iv p5, iv d1, iv d2, iv sel, iv e_, iv i1, iv i2, iv i3, rv b1, iv q_, iv p5, iv p5, .unset] [(.int 257), (.int i3), (.ref b1)]))
    refine go_st (fun t k => XS.iadd X17.here hx rfl (hb hby at_217) rfl k) ?_
    show Go _ _ _ _ (T17.setTop (mkF m 218 #[iv p0, iv p1, iv p2, iv p3, iv p4, iv p5, iv d1, iv d2, iv sel, iv e_, iv i1, iv i2, iv i3, rv b1, iv q_, iv p5, iv p5, .unset] [(.int (i3 + (257 : Int32))), (.ref b1)]))
    refine go_st (fun t k => XS.iload X17.here hx rfl (hb hby at_218) rfl k) ?_
    show Go _ _ _ _ (T17.setTop (mkF m 220 #[iv p0, iv p1, iv p2, iv p3, iv p4, iv p5, iv d1, iv d2, iv sel, iv e_, iv i1, iv i2, iv i3, rv b1, iv q_, iv p5, iv p5, .unset] [(.int p5), (.int (i3 + (257 : Int32))), (.ref b1)]))
    have hk2 : (i3 + (257 : Int32)).toInt = i3.toInt + 257 := by have q : (257 : Int32).toInt = 257 := rfl; rw [pl_add (by omega) (by omega), q]
    have sz18 : h0.size ≤ h17.size := (Nat.le_trans sz16 K17.1)
    obtain ⟨cq19, kq19, q19a, q19b, q19c⟩ := isOf hZ e17 p17_0
    obtain ⟨_, _, ⟨T19, L19, kk19, nn19⟩, -, X19, ⟨Lc19, hQ19, lq19, yq19, zq19⟩, st19⟩ := X17.virtualBack hx (y := (⟨"com/example/nudge/nudge/tree/BlockEntries", "lineBefore", "(II)I"⟩ : MethodName)) (z := (⟨"com/example/nudge/nudge/tree/BlockEntries", "lineBefore", "(II)I"⟩ : MethodName)) hown (mvT hZ (w22 hw)) (mvT hZ (w23 hw)) (notFace_of_selects (args := #[]) (mvT hZ (w25 hw))) (mvT hZ (w25 hw)) (mvT hZ (w24 hw)) (by decide) (backOf (W := 0) (rm_lb_033 l Z a0 hw [] b1 ax_6 al_6 kx_6 kl_6 (i3 + (257 : Int32)) p5 i1 i2 i3 p2 p3 p4 h17 n0 (Nat.le_trans Z0 sz18) p17_0 p17_1 p17_2 p17_3 p17_4 p17_5 p17_6 nq7 nq8 nx6_2 g_b1 s0 s1 (pl_lt (by omega))) hZ (w26 hw) (w3 hw) (by decide) (by decide)) q19a q19c (g := (mkF m 220 #[iv p0, iv p1, iv p2, iv p3, iv p4, iv p5, iv d1, iv d2, iv sel, iv e_, iv i1, iv i2, iv i3, rv b1, iv q_, iv p5, iv p5, .unset] [(.int p5), (.int (i3 + (257 : Int32))), (.ref b1)])) rfl (by rw [hml]; rfl) (Steps.refl _) (argsL := [(.int (i3 + (257 : Int32))), (.int p5)]) (rest := []) (lenOf pd_4 rfl) rfl (by show 2 * 0 + _ ≤ _; exact Nat.le_of_eq rfl) (hb hby at_220) (fun _ _ => ⟨rfl, e17, (by decide : 3 + 0 ≤ _), (by decide : 132 + 0 ≤ _)⟩)
    dsimp only [Pt.U, Pt.locs, Pt.cells, Pt.slots] at X19 lq19 yq19 zq19 st19 hQ19
    subst lq19 yq19 zq19
    obtain ⟨h19, e19⟩ : ∃ z, T19.heap = z := ⟨_, rfl⟩
    rw [e19] at hQ19
    obtain ⟨rfl, N19q, K19, p19_0, p19_1, p19_2, p19_3, p19_4, p19_5, p19_6⟩ := hQ19
    have N19 := Fr.app N17 N19q
    refine go_tr st19 ?_
    show Go _ _ _ _ (T19.setTop (mkF m 223 #[iv p0, iv p1, iv p2, iv p3, iv p4, iv p5, iv d1, iv d2, iv sel, iv e_, iv i1, iv i2, iv i3, rv b1, iv q_, iv p5, iv p5, .unset] [(.int p4)]))
    refine go_st (fun t k => XS.istore X19.here hx rfl (hb hby at_223) rfl (l' := #[iv p0, iv p1, iv p2, iv p3, iv p4, iv p5, iv d1, iv d2, iv sel, iv e_, iv i1, iv i2, iv i3, rv b1, iv q_, iv p5, iv p5, iv p4]) rfl k) ?_
    show Go _ _ _ _ (T19.setTop (mkF m 225 #[iv p0, iv p1, iv p2, iv p3, iv p4, iv p5, iv d1, iv d2, iv sel, iv e_, iv i1, iv i2, iv i3, rv b1, iv q_, iv p5, iv p5, iv p4] []))
    refine go_st (fun t k => XS.iload X19.here hx rfl (hb hby at_225) rfl k) ?_
    show Go _ _ _ _ (T19.setTop (mkF m 227 #[iv p0, iv p1, iv p2, iv p3, iv p4, iv p5, iv d1, iv d2, iv sel, iv e_, iv i1, iv i2, iv i3, rv b1, iv q_, iv p5, iv p5, iv p4] [(.int p5)]))
    refine go_st (fun t k => XS.iload X19.here hx rfl (hb hby at_227) rfl k) ?_
    show Go _ _ _ _ (T19.setTop (mkF m 229 #[iv p0, iv p1, iv p2, iv p3, iv p4, iv p5, iv d1, iv d2, iv sel, iv e_, iv i1, iv i2, iv i3, rv b1, iv q_, iv p5, iv p5, iv p4] [(.int p5), (.int p5)]))
    refine go_st (fun t k => XS.icmpNo X19.here hx rfl (hb hby at_229) rfl (teq (rfl : p5 = p5)).2 k) ?_
    show Go _ _ _ _ (T19.setTop (mkF m 232 #[iv p0, iv p1, iv p2, iv p3, iv p4, iv p5, iv d1, iv d2, iv sel, iv e_, iv i1, iv i2, iv i3, rv b1, iv q_, iv p5, iv p5, iv p4] []))
    refine go_st (fun t k => XS.iload X19.here hx rfl (hb hby at_232) rfl k) ?_
    show Go _ _ _ _ (T19.setTop (mkF m 234 #[iv p0, iv p1, iv p2, iv p3, iv p4, iv p5, iv d1, iv d2, iv sel, iv e_, iv i1, iv i2, iv i3, rv b1, iv q_, iv p5, iv p5, iv p4] [(.int p4)]))
    refine go_st (fun t k => XS.iload X19.here hx rfl (hb hby at_234) rfl k) ?_
    show Go _ _ _ _ (T19.setTop (mkF m 236 #[iv p0, iv p1, iv p2, iv p3, iv p4, iv p5, iv d1, iv d2, iv sel, iv e_, iv i1, iv i2, iv i3, rv b1, iv q_, iv p5, iv p5, iv p4] [(.int p4), (.int p4)]))
    refine go_st (fun t k => XS.icmpNo X19.here hx rfl (hb hby at_236) rfl (teq (rfl : p4 = p4)).2 k) ?_
    show Go _ _ _ _ (T19.setTop (mkF m 239 #[iv p0, iv p1, iv p2, iv p3, iv p4, iv p5, iv d1, iv d2, iv sel, iv e_, iv i1, iv i2, iv i3, rv b1, iv q_, iv p5, iv p5, iv p4] []))
    refine go_st (fun t k => XS.iconst X19.here hx rfl (hb hby at_239) k) ?_
    show Go _ _ _ _ (T19.setTop (mkF m 240 #[iv p0, iv p1, iv p2, iv p3, iv p4, iv p5, iv d1, iv d2, iv sel, iv e_, iv i1, iv i2, iv i3, rv b1, iv q_, iv p5, iv p5, iv p4] [(.int 1)]))
    refine go_st (fun t k => XS.goto X19.here hx rfl (pc0 := 240) (pc' := 244) rfl (hb hby at_240) (by decide) (by decide) k) ?_
    show Go _ _ _ _ (T19.setTop (mkF m 244 #[iv p0, iv p1, iv p2, iv p3, iv p4, iv p5, iv d1, iv d2, iv sel, iv e_, iv i1, iv i2, iv i3, rv b1, iv q_, iv p5, iv p5, iv p4] [(.int 1)]))
    have ke20 : Keep h0 h1 [] := (Keep.ext (Keep.refl h0 []) E1)
    have ke21 : Keep h0 h6 [] := (Keep.trans ke20 K6 (allS (Or.inr (Nat.le_of_eq gq1.symm)) all0))
    have ke22 : Keep h0 h10 [] := (Keep.trans ke21 K10 (allS (Or.inr (Nat.le_of_eq gq1.symm)) (allS (Or.inr (Nat.le_trans E1.1 lf6_0)) (allS (Or.inr (Nat.le_trans E1.1 lf6_1)) all0))))
    have ke23 : Keep h0 h12 [] := (Keep.trans ke22 K12 (allS (Or.inr (Nat.le_of_eq gq1.symm)) (allS (Or.inr (Nat.le_trans E1.1 lf6_0)) (allS (Or.inr (Nat.le_trans E1.1 lf6_1)) all0))))
    have ke24 : Keep h0 h14 [] := (Keep.trans ke23 K14 (allS (Or.inr (Nat.le_of_eq gq1.symm)) (allS (Or.inr (Nat.le_trans E1.1 lf6_0)) (allS (Or.inr (Nat.le_trans E1.1 lf6_1)) all0))))
    have ke25 : Keep h0 h17 [] := (Keep.trans ke24 K17 (allS (Or.inr (Nat.le_of_eq gq1.symm)) all0))
    have ke26 : Keep h0 h19 [] := (Keep.trans ke25 K19 (allS (Or.inr (Nat.le_of_eq gq1.symm)) all0))
    obtain ⟨fs, hr, hrun, hended, hW, hsame⟩ := X19.leave (v := some (.int 1)) (fun h => by rw [Bd.returns] at h; cases h)
    refine ⟨_, _, ?_, hrun, hended, _, _, rfl, ?_, ⟨_, rfl⟩, hW, hsame.mono (by decide) (by decide)⟩
    · exact retN X19 hx (t := .boolean) Bd.returns (by simp) (hb hby at_244) hr
    · show Q_law _ _ _ _ _ _ _ _ _ _ T19.heap _
      rw [e19]
      exact ⟨rfl, N19, ke26⟩
  · skip
    refine go_st (fun t k => XS.ifYes X14.here hx rfl (pc0 := 98) (pc' := 117) rfl (hb hby at_98) rfl ((if0 _ _).trans (feq (hc15 : ¬ (sel = (0 : Int32)))).2) (by decide) (by decide) k) ?_
    show Go _ _ _ _ (T14.setTop (mkF m 117 #[iv p0, iv p1, iv p2, iv p3, iv p4, iv p5, iv d1, iv d2, iv sel, iv e_, iv i1, iv i2, iv i3, rv b1, .unset, .unset, .unset, .unset] []))
    refine go_st (fun t k => XS.iload X14.here hx rfl (hb hby at_117) rfl k) ?_
    show Go _ _ _ _ (T14.setTop (mkF m 119 #[iv p0, iv p1, iv p2, iv p3, iv p4, iv p5, iv d1, iv d2, iv sel, iv e_, iv i1, iv i2, iv i3, rv b1, .unset, .unset, .unset, .unset] [(.int sel)]))
    refine go_st (fun t k => XS.iconst X14.here hx rfl (hb hby at_119) k) ?_
    show Go _ _ _ _ (T14.setTop (mkF m 120 #[iv p0, iv p1, iv p2, iv p3, iv p4, iv p5, iv d1, iv d2, iv sel, iv e_, iv i1, iv i2, iv i3, rv b1, .unset, .unset, .unset, .unset] [(.int 1), (.int sel)]))
    by_cases hc27 : sel = (1 : Int32)
    · skip
      refine go_st (fun t k => XS.icmpNo X14.here hx rfl (hb hby at_120) rfl (teq (hc27 : sel = (1 : Int32))).2 k) ?_
      show Go _ _ _ _ (T14.setTop (mkF m 123 #[iv p0, iv p1, iv p2, iv p3, iv p4, iv p5, iv d1, iv d2, iv sel, iv e_, iv i1, iv i2, iv i3, rv b1, .unset, .unset, .unset, .unset] []))
      refine go_st (fun t k => XS.iload X14.here hx rfl (hb hby at_123) rfl k) ?_
      show Go _ _ _ _ (T14.setTop (mkF m 125 #[iv p0, iv p1, iv p2, iv p3, iv p4, iv p5, iv d1, iv d2, iv sel, iv e_, iv i1, iv i2, iv i3, rv b1, .unset, .unset, .unset, .unset] [(.int i1)]))
      refine go_st (fun t k => XS.istore X14.here hx rfl (hb hby at_125) rfl (l' := #[iv p0, iv p1, iv p2, iv p3, iv p4, iv p5, iv d1, iv d2, iv sel, iv e_, iv i1, iv i2, iv i3, rv b1, iv i1, .unset, .unset, .unset]) rfl k) ?_
      show Go _ _ _ _ (T14.setTop (mkF m 127 #[iv p0, iv p1, iv p2, iv p3, iv p4, iv p5, iv d1, iv d2, iv sel, iv e_, iv i1, iv i2, iv i3, rv b1, iv i1, .unset, .unset, .unset] []))
      refine go_st (fun t k => XS.iload X14.here hx rfl (hb hby at_127) rfl k) ?_
      show Go _ _ _ _ (T14.setTop (mkF m 129 #[iv p0, iv p1, iv p2, iv p3, iv p4, iv p5, iv d1, iv d2, iv sel, iv e_, iv i1, iv i2, iv i3, rv b1, iv i1, .unset, .unset, .unset] [(.int p5)]))
      refine go_st (fun t k => XS.istore X14.here hx rfl (hb hby at_129) rfl (l' := #[iv p0, iv p1, iv p2, iv p3, iv p4, iv p5, iv d1, iv d2, iv sel, iv e_, iv i1, iv i2, iv i3, rv b1, iv i1, iv p5, .unset, .unset]) rfl k) ?_
      show Go _ _ _ _ (T14.setTop (mkF m 131 #[iv p0, iv p1, iv p2, iv p3, iv p4, iv p5, iv d1, iv d2, iv sel, iv e_, iv i1, iv i2, iv i3, rv b1, iv i1, iv p5, .unset, .unset] []))
      refine go_st (fun t k => XS.goto X14.here hx rfl (pc0 := 131) (pc' := 199) rfl (hb hby at_131) (by decide) (by decide) k) ?_
      show Go _ _ _ _ (T14.setTop (mkF m 199 #[iv p0, iv p1, iv p2, iv p3, iv p4, iv p5, iv d1, iv d2, iv sel, iv e_, iv i1, iv i2, iv i3, rv b1, iv i1, iv p5, .unset, .unset] []))
      obtain ⟨q_, h_q_⟩ : ∃ z, z = i1 := ⟨_, rfl⟩
      rw [← h_q_]
      show Go _ _ _ _ (T14.setTop (mkF m 199 #[iv p0, iv p1, iv p2, iv p3, iv p4, iv p5, iv d1, iv d2, iv sel, iv e_, iv q_, iv i2, iv i3, rv b1, iv q_, iv p5, .unset, .unset] []))
      have hq : q_.toInt = i1.toInt := by rw [h_q_]
      refine go_st (fun t k => XS.aload X14.here hx rfl (hb hby at_199) rfl rfl k) ?_
      show Go _ _ _ _ (T14.setTop (mkF m 201 #[iv p0, iv p1, iv p2, iv p3, iv p4, iv p5, iv d1, iv d2, iv sel, iv e_, iv q_, iv i2, iv i3, rv b1, iv q_, iv p5, .unset, .unset] [(.ref b1)]))
      refine go_st (fun t k => XS.iload X14.here hx rfl (hb hby at_201) rfl k) ?_
      show Go _ _ _ _ (T14.setTop (mkF m 203 #[iv p0, iv p1, iv p2, iv p3, iv p4, iv p5, iv d1, iv d2, iv sel, iv e_, iv q_, iv i2, iv i3, rv b1, iv q_, iv p5, .unset, .unset] [(.int q_), (.ref b1)]))
      refine go_st (fun t k => XS.iload X14.here hx rfl (hb hby at_203) rfl k) ?_
      show Go _ _ _ _ (T14.setTop (mkF m 205 #[iv p0, iv p1, iv p2, iv p3, iv p4, iv p5, iv d1, iv d2, iv sel, iv e_, iv q_, iv i2, iv i3, rv b1, iv q_, iv p5, .unset, .unset] [(.int p5), (.int q_), (.ref b1)]))
      have sz28 : h0.size ≤ h14.size := (Nat.le_trans sz13 K14.1)
      obtain ⟨cq29, kq29, q29a, q29b, q29c⟩ := isOf hZ e14 p14_0
      obtain ⟨_, _, ⟨T29, L29, kk29, nn29⟩, -, X29, ⟨Lc29, hQ29, lq29, yq29, zq29⟩, st29⟩ := X14.virtualBack hx (y := (⟨"com/example/nudge/nudge/tree/BlockEntries", "lineBefore", "(II)I"⟩ : MethodName)) (z := (⟨"com/example/nudge/nudge/tree/BlockEntries", "lineBefore", "(II)I"⟩ : MethodName)) hown (mvT hZ (w22 hw)) (mvT hZ (w23 hw)) (notFace_of_selects (args := #[]) (mvT hZ (w25 hw))) (mvT hZ (w25 hw)) (mvT hZ (w24 hw)) (by decide) (backOf (W := 0) (rm_lb_030 l Z a0 hw [] b1 ax_6 al_6 kx_6 kl_6 q_ p5 i1 i2 i3 p2 p3 p4 h14 n0 (Nat.le_trans Z0 sz28) p14_0 p14_1 p14_2 p14_3 p14_4 p14_5 p14_6 nq7 nq8 nx6_2 g_b1 s0 s1 (pl_nlt (by omega))) hZ (w26 hw) (w3 hw) (by decide) (by decide)) q29a q29c (g := (mkF m 205 #[iv p0, iv p1, iv p2, iv p3, iv p4, iv p5, iv d1, iv d2, iv sel, iv e_, iv q_, iv i2, iv i3, rv b1, iv q_, iv p5, .unset, .unset] [(.int p5), (.int q_), (.ref b1)])) rfl (by rw [hml]; rfl) (Steps.refl _) (argsL := [(.int q_), (.int p5)]) (rest := []) (lenOf pd_4 rfl) rfl (by show 2 * 0 + _ ≤ _; exact Nat.le_of_eq rfl) (hb hby at_205) (fun _ _ => ⟨rfl, e14, (by decide : 3 + 0 ≤ _), (by decide : 132 + 0 ≤ _)⟩)
      dsimp only [Pt.U, Pt.locs, Pt.cells, Pt.slots] at X29 lq29 yq29 zq29 st29 hQ29
      subst lq29 yq29 zq29
      obtain ⟨h29, e29⟩ : ∃ z, T29.heap = z := ⟨_, rfl⟩
      rw [e29] at hQ29
      obtain ⟨rfl, N29q, K29, p29_0, p29_1, p29_2, p29_3, p29_4, p29_5, p29_6⟩ := hQ29
      have N29 := Fr.app N14 N29q
      refine go_tr st29 ?_
      show Go _ _ _ _ (T29.setTop (mkF m 208 #[iv p0, iv p1, iv p2, iv p3, iv p4, iv p5, iv d1, iv d2, iv sel, iv e_, iv q_, iv i2, iv i3, rv b1, iv q_, iv p5, .unset, .unset] [(.int p5)]))
      refine go_st (fun t k => XS.istore X29.here hx rfl (hb hby at_208) rfl (l' := #[iv p0, iv p1, iv p2, iv p3, iv p4, iv p5, iv d1, iv d2, iv sel, iv e_, iv q_, iv i2, iv i3, rv b1, iv q_, iv p5, iv p5, .unset]) rfl k) ?_
      show Go _ _ _ _ (T29.setTop (mkF m 210 #[iv p0, iv p1, iv p2, iv p3, iv p4, iv p5, iv d1, iv d2, iv sel, iv e_, iv q_, iv i2, iv i3, rv b1, iv q_, iv p5, iv p5, .unset] []))
      refine go_st (fun t k => XS.aload X29.here hx rfl (hb hby at_210) rfl rfl k) ?_
      show Go _ _ _ _ (T29.setTop (mkF m 212 #[iv p0, iv p1, iv p2, iv p3, iv p4, iv p5, iv d1, iv d2, iv sel, iv e_, iv q_, iv i2, iv i3, rv b1, iv q_, iv p5, iv p5, .unset] [(.ref b1)]))
      refine go_st (fun t k => XS.iload X29.here hx rfl (hb hby at_212) rfl k) ?_
      show Go _ _ _ _ (T29.setTop (mkF m 214 #[iv p0, iv p1, iv p2, iv p3, iv p4, iv p5, iv d1, iv d2, iv sel, iv e_, iv q_, iv i2, iv i3, rv b1, iv q_, iv p5, iv p5, .unset] [(.int i3), (.ref b1)]))
      refine go_st (fun t k => XS.sipush X29.here hx rfl (hb hby at_214) k) ?_
      show Go _ _ _ _ (T29.setTop (mkF m 217 #[iv p0, iv p1, iv p2, iv p3, iv p4, iv p5, iv d1, iv d2, iv sel, iv e_, iv q_, iv i2, iv i3, rv b1, iv q_, iv p5, iv p5, .unset] [(.int 257), (.int i3), (.ref b1)]))
      refine go_st (fun t k => XS.iadd X29.here hx rfl (hb hby at_217) rfl k) ?_
      show Go _ _ _ _ (T29.setTop (mkF m 218 #[iv p0, iv p1, iv p2, iv p3, iv p4, iv p5, iv d1, iv d2, iv sel, iv e_, iv q_, iv i2, iv i3, rv b1, iv q_, iv p5, iv p5, .unset] [(.int (i3 + (257 : Int32))), (.ref b1)]))
      refine go_st (fun t k => XS.iload X29.here hx rfl (hb hby at_218) rfl k) ?_
      show Go _ _ _ _ (T29.setTop (mkF m 220 #[iv p0, iv p1, iv p2, iv p3, iv p4, iv p5, iv d1, iv d2, iv sel, iv e_, iv q_, iv i2, iv i3, rv b1, iv q_, iv p5, iv p5, .unset] [(.int p5), (.int (i3 + (257 : Int32))), (.ref b1)]))
      have hk2 : (i3 + (257 : Int32)).toInt = i3.toInt + 257 := by have q : (257 : Int32).toInt = 257 := rfl; rw [pl_add (by omega) (by omega), q]
      have sz30 : h0.size ≤ h29.size := (Nat.le_trans sz28 K29.1)
      obtain ⟨cq31, kq31, q31a, q31b, q31c⟩ := isOf hZ e29 p29_0
      obtain ⟨_, _, ⟨T31, L31, kk31, nn31⟩, -, X31, ⟨Lc31, hQ31, lq31, yq31, zq31⟩, st31⟩ := X29.virtualBack hx (y := (⟨"com/example/nudge/nudge/tree/BlockEntries", "lineBefore", "(II)I"⟩ : MethodName)) (z := (⟨"com/example/nudge/nudge/tree/BlockEntries", "lineBefore", "(II)I"⟩ : MethodName)) hown (mvT hZ (w22 hw)) (mvT hZ (w23 hw)) (notFace_of_selects (args := #[]) (mvT hZ (w25 hw))) (mvT hZ (w25 hw)) (mvT hZ (w24 hw)) (by decide) (backOf (W := 0) (rm_lb_033 l Z a0 hw [] b1 ax_6 al_6 kx_6 kl_6 (i3 + (257 : Int32)) p5 i1 i2 i3 p2 p3 p4 h29 n0 (Nat.le_trans Z0 sz30) p29_0 p29_1 p29_2 p29_3 p29_4 p29_5 p29_6 nq7 nq8 nx6_2 g_b1 s0 s1 (pl_lt (by omega))) hZ (w26 hw) (w3 hw) (by decide) (by decide)) q31a q31c (g := (mkF m 220 #[iv p0, iv p1, iv p2, iv p3, iv p4, iv p5, iv d1, iv d2, iv sel, iv e_, iv q_, iv i2, iv i3, rv b1, iv q_, iv p5, iv p5, .unset] [(.int p5), (.int (i3 + (257 : Int32))), (.ref b1)])) rfl (by rw [hml]; rfl) (Steps.refl _) (argsL := [(.int (i3 + (257 : Int32))), (.int p5)]) (rest := []) (lenOf pd_4 rfl) rfl (by show 2 * 0 + _ ≤ _; exact Nat.le_of_eq rfl) (hb hby at_220) (fun _ _ => ⟨rfl, e29, (by decide : 3 + 0 ≤ _), (by decide : 132 + 0 ≤ _)⟩)
      dsimp only [Pt.U, Pt.locs, Pt.cells, Pt.slots] at X31 lq31 yq31 zq31 st31 hQ31
      subst lq31 yq31 zq31
      obtain ⟨h31, e31⟩ : ∃ z, T31.heap = z := ⟨_, rfl⟩
      rw [e31] at hQ31
      obtain ⟨rfl, N31q, K31, p31_0, p31_1, p31_2, p31_3, p31_4, p31_5, p31_6⟩ := hQ31
      have N31 := Fr.app N29 N31q
      refine go_tr st31 ?_
      show Go _ _ _ _ (T31.setTop (mkF m 223 #[iv p0, iv p1, iv p2, iv p3, iv p4, iv p5, iv d1, iv d2, iv sel, iv e_, iv q_, iv i2, iv i3, rv b1, iv q_, iv p5, iv p5, .unset] [(.int p4)]))
      refine go_st (fun t k => XS.istore X31.here hx rfl (hb hby at_223) rfl (l' := #[iv p0, iv p1, iv p2, iv p3, iv p4, iv p5, iv d1, iv d2, iv sel, iv e_, iv q_, iv i2, iv i3, rv b1, iv q_, iv p5, iv p5, iv p4]) rfl k) ?_
      show Go _ _ _ _ (T31.setTop (mkF m 225 #[iv p0, iv p1, iv p2, iv p3, iv p4, iv p5, iv d1, iv d2, iv sel, iv e_, iv q_, iv i2, iv i3, rv b1, iv q_, iv p5, iv p5, iv p4] []))
      refine go_st (fun t k => XS.iload X31.here hx rfl (hb hby at_225) rfl k) ?_
      show Go _ _ _ _ (T31.setTop (mkF m 227 #[iv p0, iv p1, iv p2, iv p3, iv p4, iv p5, iv d1, iv d2, iv sel, iv e_, iv q_, iv i2, iv i3, rv b1, iv q_, iv p5, iv p5, iv p4] [(.int p5)]))
      refine go_st (fun t k => XS.iload X31.here hx rfl (hb hby at_227) rfl k) ?_
      show Go _ _ _ _ (T31.setTop (mkF m 229 #[iv p0, iv p1, iv p2, iv p3, iv p4, iv p5, iv d1, iv d2, iv sel, iv e_, iv q_, iv i2, iv i3, rv b1, iv q_, iv p5, iv p5, iv p4] [(.int p5), (.int p5)]))
      refine go_st (fun t k => XS.icmpNo X31.here hx rfl (hb hby at_229) rfl (teq (rfl : p5 = p5)).2 k) ?_
      show Go _ _ _ _ (T31.setTop (mkF m 232 #[iv p0, iv p1, iv p2, iv p3, iv p4, iv p5, iv d1, iv d2, iv sel, iv e_, iv q_, iv i2, iv i3, rv b1, iv q_, iv p5, iv p5, iv p4] []))
      refine go_st (fun t k => XS.iload X31.here hx rfl (hb hby at_232) rfl k) ?_
      show Go _ _ _ _ (T31.setTop (mkF m 234 #[iv p0, iv p1, iv p2, iv p3, iv p4, iv p5, iv d1, iv d2, iv sel, iv e_, iv q_, iv i2, iv i3, rv b1, iv q_, iv p5, iv p5, iv p4] [(.int p4)]))
      refine go_st (fun t k => XS.iload X31.here hx rfl (hb hby at_234) rfl k) ?_
      show Go _ _ _ _ (T31.setTop (mkF m 236 #[iv p0, iv p1, iv p2, iv p3, iv p4, iv p5, iv d1, iv d2, iv sel, iv e_, iv q_, iv i2, iv i3, rv b1, iv q_, iv p5, iv p5, iv p4] [(.int p4), (.int p4)]))
      refine go_st (fun t k => XS.icmpNo X31.here hx rfl (hb hby at_236) rfl (teq (rfl : p4 = p4)).2 k) ?_
      show Go _ _ _ _ (T31.setTop (mkF m 239 #[iv p0, iv p1, iv p2, iv p3, iv p4, iv p5, iv d1, iv d2, iv sel, iv e_, iv q_, iv i2, iv i3, rv b1, iv q_, iv p5, iv p5, iv p4] []))
      refine go_st (fun t k => XS.iconst X31.here hx rfl (hb hby at_239) k) ?_
      show Go _ _ _ _ (T31.setTop (mkF m 240 #[iv p0, iv p1, iv p2, iv p3, iv p4, iv p5, iv d1, iv d2, iv sel, iv e_, iv q_, iv i2, iv i3, rv b1, iv q_, iv p5, iv p5, iv p4] [(.int 1)]))
      refine go_st (fun t k => XS.goto X31.here hx rfl (pc0 := 240) (pc' := 244) rfl (hb hby at_240) (by decide) (by decide) k) ?_
      show Go _ _ _ _ (T31.setTop (mkF m 244 #[iv p0, iv p1, iv p2, iv p3, iv p4, iv p5, iv d1, iv d2, iv sel, iv e_, iv q_, iv i2, iv i3, rv b1, iv q_, iv p5, iv p5, iv p4] [(.int 1)]))
      have ke32 : Keep h0 h1 [] := (Keep.ext (Keep.refl h0 []) E1)
      have ke33 : Keep h0 h6 [] := (Keep.trans ke32 K6 (allS (Or.inr (Nat.le_of_eq gq1.symm)) all0))
      have ke34 : Keep h0 h10 [] := (Keep.trans ke33 K10 (allS (Or.inr (Nat.le_of_eq gq1.symm)) (allS (Or.inr (Nat.le_trans E1.1 lf6_0)) (allS (Or.inr (Nat.le_trans E1.1 lf6_1)) all0))))
      have ke35 : Keep h0 h12 [] := (Keep.trans ke34 K12 (allS (Or.inr (Nat.le_of_eq gq1.symm)) (allS (Or.inr (Nat.le_trans E1.1 lf6_0)) (allS (Or.inr (Nat.le_trans E1.1 lf6_1)) all0))))
      have ke36 : Keep h0 h14 [] := (Keep.trans ke35 K14 (allS (Or.inr (Nat.le_of_eq gq1.symm)) (allS (Or.inr (Nat.le_trans E1.1 lf6_0)) (allS (Or.inr (Nat.le_trans E1.1 lf6_1)) all0))))
      have ke37 : Keep h0 h29 [] := (Keep.trans ke36 K29 (allS (Or.inr (Nat.le_of_eq gq1.symm)) all0))
      have ke38 : Keep h0 h31 [] := (Keep.trans ke37 K31 (allS (Or.inr (Nat.le_of_eq gq1.symm)) all0))
      obtain ⟨fs, hr, hrun, hended, hW, hsame⟩ := X31.leave (v := some (.int 1)) (fun h => by rw [Bd.returns] at h; cases h)
      refine ⟨_, _, ?_, hrun, hended, _, _, rfl, ?_, ⟨_, rfl⟩, hW, hsame.mono (by decide) (by decide)⟩
      · exact retN X31 hx (t := .boolean) Bd.returns (by simp) (hb hby at_244) hr
      · show Q_law _ _ _ _ _ _ _ _ _ _ T31.heap _
        rw [e31]
        exact ⟨rfl, N31, ke38⟩
    · skip
      refine go_st (fun t k => XS.icmpYes X14.here hx rfl (pc0 := 120) (pc' := 134) rfl (hb hby at_120) rfl (feq (hc27 : ¬ (sel = (1 : Int32)))).2 (by decide) (by decide) k) ?_
      show Go _ _ _ _ (T14.setTop (mkF m 134 #[iv p0, iv p1, iv p2, iv p3, iv p4, iv p5, iv d1, iv d2, iv sel, iv e_, iv i1, iv i2, iv i3, rv b1, .unset, .unset, .unset, .unset] []))
      refine go_st (fun t k => XS.iload X14.here hx rfl (hb hby at_134) rfl k) ?_
      show Go _ _ _ _ (T14.setTop (mkF m 136 #[iv p0, iv p1, iv p2, iv p3, iv p4, iv p5, iv d1, iv d2, iv sel, iv e_, iv i1, iv i2, iv i3, rv b1, .unset, .unset, .unset, .unset] [(.int sel)]))
      refine go_st (fun t k => XS.iconst X14.here hx rfl (hb hby at_136) k) ?_
      show Go _ _ _ _ (T14.setTop (mkF m 137 #[iv p0, iv p1, iv p2, iv p3, iv p4, iv p5, iv d1, iv d2, iv sel, iv e_, iv i1, iv i2, iv i3, rv b1, .unset, .unset, .unset, .unset] [(.int 2), (.int sel)]))
      by_cases hc39 : sel = (2 : Int32)
      · skip
        refine go_st (fun t k => XS.icmpNo X14.here hx rfl (hb hby at_137) rfl (teq (hc39 : sel = (2 : Int32))).2 k) ?_
        show Go _ _ _ _ (T14.setTop (mkF m 140 #[iv p0, iv p1, iv p2, iv p3, iv p4, iv p5, iv d1, iv d2, iv sel, iv e_, iv i1, iv i2, iv i3, rv b1, .unset, .unset, .unset, .unset] []))
        refine go_st (fun t k => XS.iload X14.here hx rfl (hb hby at_140) rfl k) ?_
        show Go _ _ _ _ (T14.setTop (mkF m 142 #[iv p0, iv p1, iv p2, iv p3, iv p4, iv p5, iv d1, iv d2, iv sel, iv e_, iv i1, iv i2, iv i3, rv b1, .unset, .unset, .unset, .unset] [(.int i1)]))
        refine go_st (fun t k => XS.iconst X14.here hx rfl (hb hby at_142) k) ?_
        show Go _ _ _ _ (T14.setTop (mkF m 143 #[iv p0, iv p1, iv p2, iv p3, iv p4, iv p5, iv d1, iv d2, iv sel, iv e_, iv i1, iv i2, iv i3, rv b1, .unset, .unset, .unset, .unset] [(.int 1), (.int i1)]))
        refine go_st (fun t k => XS.iadd X14.here hx rfl (hb hby at_143) rfl k) ?_
        show Go _ _ _ _ (T14.setTop (mkF m 144 #[iv p0, iv p1, iv p2, iv p3, iv p4, iv p5, iv d1, iv d2, iv sel, iv e_, iv i1, iv i2, iv i3, rv b1, .unset, .unset, .unset, .unset] [(.int (i1 + (1 : Int32)))]))
        refine go_st (fun t k => XS.iload X14.here hx rfl (hb hby at_144) rfl k) ?_
        show Go _ _ _ _ (T14.setTop (mkF m 146 #[iv p0, iv p1, iv p2, iv p3, iv p4, iv p5, iv d1, iv d2, iv sel, iv e_, iv i1, iv i2, iv i3, rv b1, .unset, .unset, .unset, .unset] [(.int e_), (.int (i1 + (1 : Int32)))]))
        refine go_st (fun t k => XS.iload X14.here hx rfl (hb hby at_146) rfl k) ?_
        show Go _ _ _ _ (T14.setTop (mkF m 148 #[iv p0, iv p1, iv p2, iv p3, iv p4, iv p5, iv d1, iv d2, iv sel, iv e_, iv i1, iv i2, iv i3, rv b1, .unset, .unset, .unset, .unset] [(.int d1), (.int e_), (.int (i1 + (1 : Int32)))]))
        refine go_st (fun t k => XS.iconst X14.here hx rfl (hb hby at_148) k) ?_
        show Go _ _ _ _ (T14.setTop (mkF m 149 #[iv p0, iv p1, iv p2, iv p3, iv p4, iv p5, iv d1, iv d2, iv sel, iv e_, iv i1, iv i2, iv i3, rv b1, .unset, .unset, .unset, .unset] [(.int 1), (.int d1), (.int e_), (.int (i1 + (1 : Int32)))]))
        refine go_st (fun t k => XS.iadd X14.here hx rfl (hb hby at_149) rfl k) ?_
        show Go _ _ _ _ (T14.setTop (mkF m 150 #[iv p0, iv p1, iv p2, iv p3, iv p4, iv p5, iv d1, iv d2, iv sel, iv e_, iv i1, iv i2, iv i3, rv b1, .unset, .unset, .unset, .unset] [(.int (d1 + (1 : Int32))), (.int e_), (.int (i1 + (1 : Int32)))]))
        refine go_st (fun t k => iremM X14 hx rfl (hb hby at_150) rfl (fun q => by have h1 : (d1 + (1 : Int32)).toInt = d1.toInt + 1 := (by rw [pl_add (by omega) (by omega), one1]); rw [q] at h1; have h0 : (0 : Int32).toInt = 0 := rfl; omega) k) ?_
        show Go _ _ _ _ (T14.setTop (mkF m 151 #[iv p0, iv p1, iv p2, iv p3, iv p4, iv p5, iv d1, iv d2, iv sel, iv e_, iv i1, iv i2, iv i3, rv b1, .unset, .unset, .unset, .unset] [(.int (e_ % (d1 + (1 : Int32)))), (.int (i1 + (1 : Int32)))]))
        refine go_st (fun t k => XS.iadd X14.here hx rfl (hb hby at_151) rfl k) ?_
        show Go _ _ _ _ (T14.setTop (mkF m 152 #[iv p0, iv p1, iv p2, iv p3, iv p4, iv p5, iv d1, iv d2, iv sel, iv e_, iv i1, iv i2, iv i3, rv b1, .unset, .unset, .unset, .unset] [(.int ((i1 + (1 : Int32)) + (e_ % (d1 + (1 : Int32)))))]))
        refine go_st (fun t k => XS.istore X14.here hx rfl (hb hby at_152) rfl (l' := #[iv p0, iv p1, iv p2, iv p3, iv p4, iv p5, iv d1, iv d2, iv sel, iv e_, iv i1, iv i2, iv i3, rv b1, iv ((i1 + (1 : Int32)) + (e_ % (d1 + (1 : Int32)))), .unset, .unset, .unset]) rfl k) ?_
        show Go _ _ _ _ (T14.setTop (mkF m 154 #[iv p0, iv p1, iv p2, iv p3, iv p4, iv p5, iv d1, iv d2, iv sel, iv e_, iv i1, iv i2, iv i3, rv b1, iv ((i1 + (1 : Int32)) + (e_ % (d1 + (1 : Int32)))), .unset, .unset, .unset] []))
        refine go_st (fun t k => XS.iloadN X14.here hx rfl (hb hby at_154) rfl k) ?_
        show Go _ _ _ _ (T14.setTop (mkF m 155 #[iv p0, iv p1, iv p2, iv p3, iv p4, iv p5, iv d1, iv d2, iv sel, iv e_, iv i1, iv i2, iv i3, rv b1, iv ((i1 + (1 : Int32)) + (e_ % (d1 + (1 : Int32)))), .unset, .unset, .unset] [(.int p2)]))
        refine go_st (fun t k => XS.istore X14.here hx rfl (hb hby at_155) rfl (l' := #[iv p0, iv p1, iv p2, iv p3, iv p4, iv p5, iv d1, iv d2, iv sel, iv e_, iv i1, iv i2, iv i3, rv b1, iv ((i1 + (1 : Int32)) + (e_ % (d1 + (1 : Int32)))), iv p2, .unset, .unset]) rfl k) ?_
        show Go _ _ _ _ (T14.setTop (mkF m 157 #[iv p0, iv p1, iv p2, iv p3, iv p4, iv p5, iv d1, iv d2, iv sel, iv e_, iv i1, iv i2, iv i3, rv b1, iv ((i1 + (1 : Int32)) + (e_ % (d1 + (1 : Int32)))), iv p2, .unset, .unset] []))
        refine go_st (fun t k => XS.goto X14.here hx rfl (pc0 := 157) (pc' := 199) rfl (hb hby at_157) (by decide) (by decide) k) ?_
        show Go _ _ _ _ (T14.setTop (mkF m 199 #[iv p0, iv p1, iv p2, iv p3, iv p4, iv p5, iv d1, iv d2, iv sel, iv e_, iv i1, iv i2, iv i3, rv b1, iv ((i1 + (1 : Int32)) + (e_ % (d1 + (1 : Int32)))), iv p2, .unset, .unset] []))
        obtain ⟨q_, h_q_⟩ : ∃ z, z = ((i1 + (1 : Int32)) + (e_ % (d1 + (1 : Int32)))) := ⟨_, rfl⟩
        rw [← h_q_]
        show Go _ _ _ _ (T14.setTop (mkF m 199 #[iv p0, iv p1, iv p2, iv p3, iv p4, iv p5, iv d1, iv d2, iv sel, iv e_, iv i1, iv i2, iv i3, rv b1, iv q_, iv p2, .unset, .unset] []))
        have hm1 : (d1 + (1 : Int32)).toInt = d1.toInt + 1 := by rw [pl_add (by omega) (by omega), one1]
        have hm := (c_iremV e_ (d1 + (1 : Int32))).1 (by omega) (by omega)
        have ha : (i1 + (1 : Int32)).toInt = i1.toInt + 1 := by rw [pl_add (by omega) (by omega), one1]
        have hq : q_.toInt = i1.toInt + 1 + (e_ % (d1 + (1 : Int32))).toInt := by rw [h_q_, pl_add (by omega) (by omega), ha]
        refine go_st (fun t k => XS.aload X14.here hx rfl (hb hby at_199) rfl rfl k) ?_
        show Go _ _ _ _ (T14.setTop (mkF m 201 #[iv p0, iv p1, iv p2, iv p3, iv p4, iv p5, iv d1, iv d2, iv sel, iv e_, iv i1, iv i2, iv i3, rv b1, iv q_, iv p2, .unset, .unset] [(.ref b1)]))
        refine go_st (fun t k => XS.iload X14.here hx rfl (hb hby at_201) rfl k) ?_
        show Go _ _ _ _ (T14.setTop (mkF m 203 #[iv p0, iv p1, iv p2, iv p3, iv p4, iv p5, iv d1, iv d2, iv sel, iv e_, iv i1, iv i2, iv i3, rv b1, iv q_, iv p2, .unset, .unset] [(.int q_), (.ref b1)]))
        refine go_st (fun t k => XS.iload X14.here hx rfl (hb hby at_203) rfl k) ?_
        show Go _ _ _ _ (T14.setTop (mkF m 205 #[iv p0, iv p1, iv p2, iv p3, iv p4, iv p5, iv d1, iv d2, iv sel, iv e_, iv i1, iv i2, iv i3, rv b1, iv q_, iv p2, .unset, .unset] [(.int p5), (.int q_), (.ref b1)]))
        have sz40 : h0.size ≤ h14.size := (Nat.le_trans sz13 K14.1)
        obtain ⟨cq41, kq41, q41a, q41b, q41c⟩ := isOf hZ e14 p14_0
        obtain ⟨_, _, ⟨T41, L41, kk41, nn41⟩, -, X41, ⟨Lc41, hQ41, lq41, yq41, zq41⟩, st41⟩ := X14.virtualBack hx (y := (⟨"com/example/nudge/nudge/tree/BlockEntries", "lineBefore", "(II)I"⟩ : MethodName)) (z := (⟨"com/example/nudge/nudge/tree/BlockEntries", "lineBefore", "(II)I"⟩ : MethodName)) hown (mvT hZ (w22 hw)) (mvT hZ (w23 hw)) (notFace_of_selects (args := #[]) (mvT hZ (w25 hw))) (mvT hZ (w25 hw)) (mvT hZ (w24 hw)) (by decide) (backOf (W := 0) (rm_lb_031 l Z a0 hw [] b1 ax_6 al_6 kx_6 kl_6 q_ p5 i1 i2 i3 p2 p3 p4 h14 n0 (Nat.le_trans Z0 sz40) p14_0 p14_1 p14_2 p14_3 p14_4 p14_5 p14_6 nq7 nq8 nx6_2 g_b1 s0 s1 (pl_lt (by omega)) (pl_nlt (by omega))) hZ (w26 hw) (w3 hw) (by decide) (by decide)) q41a q41c (g := (mkF m 205 #[iv p0, iv p1, iv p2, iv p3, iv p4, iv p5, iv d1, iv d2, iv sel, iv e_, iv i1, iv i2, iv i3, rv b1, iv q_, iv p2, .unset, .unset] [(.int p5), (.int q_), (.ref b1)])) rfl (by rw [hml]; rfl) (Steps.refl _) (argsL := [(.int q_), (.int p5)]) (rest := []) (lenOf pd_4 rfl) rfl (by show 2 * 0 + _ ≤ _; exact Nat.le_of_eq rfl) (hb hby at_205) (fun _ _ => ⟨rfl, e14, (by decide : 3 + 0 ≤ _), (by decide : 132 + 0 ≤ _)⟩)
        dsimp only [Pt.U, Pt.locs, Pt.cells, Pt.slots] at X41 lq41 yq41 zq41 st41 hQ41
        subst lq41 yq41 zq41
        obtain ⟨h41, e41⟩ : ∃ z, T41.heap = z := ⟨_, rfl⟩
        rw [e41] at hQ41
        obtain ⟨rfl, N41q, K41, p41_0, p41_1, p41_2, p41_3, p41_4, p41_5, p41_6⟩ := hQ41
        have N41 := Fr.app N14 N41q
        refine go_tr st41 ?_
        show Go _ _ _ _ (T41.setTop (mkF m 208 #[iv p0, iv p1, iv p2, iv p3, iv p4, iv p5, iv d1, iv d2, iv sel, iv e_, iv i1, iv i2, iv i3, rv b1, iv q_, iv p2, .unset, .unset] [(.int p2)]))
        refine go_st (fun t k => XS.istore X41.here hx rfl (hb hby at_208) rfl (l' := #[iv p0, iv p1, iv p2, iv p3, iv p4, iv p5, iv d1, iv d2, iv sel, iv e_, iv i1, iv i2, iv i3, rv b1, iv q_, iv p2, iv p2, .unset]) rfl k) ?_
        show Go _ _ _ _ (T41.setTop (mkF m 210 #[iv p0, iv p1, iv p2, iv p3, iv p4, iv p5, iv d1, iv d2, iv sel, iv e_, iv i1, iv i2, iv i3, rv b1, iv q_, iv p2, iv p2, .unset] []))
        refine go_st (fun t k => XS.aload X41.here hx rfl (hb hby at_210) rfl rfl k) ?_
        show Go _ _ _ _ (T41.setTop (mkF m 212 #[iv p0, iv p1, iv p2, iv p3, iv p4, iv p5, iv d1, iv d2, iv sel, iv e_, iv i1, iv i2, iv i3, rv b1, iv q_, iv p2, iv p2, .unset] [(.ref b1)]))
        refine go_st (fun t k => XS.iload X41.here hx rfl (hb hby at_212) rfl k) ?_
        show Go _ _ _ _ (T41.setTop (mkF m 214 #[iv p0, iv p1, iv p2, iv p3, iv p4, iv p5, iv d1, iv d2, iv sel, iv e_, iv i1, iv i2, iv i3, rv b1, iv q_, iv p2, iv p2, .unset] [(.int i3), (.ref b1)]))
        refine go_st (fun t k => XS.sipush X41.here hx rfl (hb hby at_214) k) ?_
        show Go _ _ _ _ (T41.setTop (mkF m 217 #[iv p0, iv p1, iv p2, iv p3, iv p4, iv p5, iv d1, iv d2, iv sel, iv e_, iv i1, iv i2, iv i3, rv b1, iv q_, iv p2, iv p2, .unset] [(.int 257), (.int i3), (.ref b1)]))
        refine go_st (fun t k => XS.iadd X41.here hx rfl (hb hby at_217) rfl k) ?_
        show Go _ _ _ _ (T41.setTop (mkF m 218 #[iv p0, iv p1, iv p2, iv p3, iv p4, iv p5, iv d1, iv d2, iv sel, iv e_, iv i1, iv i2, iv i3, rv b1, iv q_, iv p2, iv p2, .unset] [(.int (i3 + (257 : Int32))), (.ref b1)]))
        refine go_st (fun t k => XS.iload X41.here hx rfl (hb hby at_218) rfl k) ?_
        show Go _ _ _ _ (T41.setTop (mkF m 220 #[iv p0, iv p1, iv p2, iv p3, iv p4, iv p5, iv d1, iv d2, iv sel, iv e_, iv i1, iv i2, iv i3, rv b1, iv q_, iv p2, iv p2, .unset] [(.int p5), (.int (i3 + (257 : Int32))), (.ref b1)]))
        have hk2 : (i3 + (257 : Int32)).toInt = i3.toInt + 257 := by have q : (257 : Int32).toInt = 257 := rfl; rw [pl_add (by omega) (by omega), q]
        have sz42 : h0.size ≤ h41.size := (Nat.le_trans sz40 K41.1)
        obtain ⟨cq43, kq43, q43a, q43b, q43c⟩ := isOf hZ e41 p41_0
        obtain ⟨_, _, ⟨T43, L43, kk43, nn43⟩, -, X43, ⟨Lc43, hQ43, lq43, yq43, zq43⟩, st43⟩ := X41.virtualBack hx (y := (⟨"com/example/nudge/nudge/tree/BlockEntries", "lineBefore", "(II)I"⟩ : MethodName)) (z := (⟨"com/example/nudge/nudge/tree/BlockEntries", "lineBefore", "(II)I"⟩ : MethodName)) hown (mvT hZ (w22 hw)) (mvT hZ (w23 hw)) (notFace_of_selects (args := #[]) (mvT hZ (w25 hw))) (mvT hZ (w25 hw)) (mvT hZ (w24 hw)) (by decide) (backOf (W := 0) (rm_lb_033 l Z a0 hw [] b1 ax_6 al_6 kx_6 kl_6 (i3 + (257 : Int32)) p5 i1 i2 i3 p2 p3 p4 h41 n0 (Nat.le_trans Z0 sz42) p41_0 p41_1 p41_2 p41_3 p41_4 p41_5 p41_6 nq7 nq8 nx6_2 g_b1 s0 s1 (pl_lt (by omega))) hZ (w26 hw) (w3 hw) (by decide) (by decide)) q43a q43c (g := (mkF m 220 #[iv p0, iv p1, iv p2, iv p3, iv p4, iv p5, iv d1, iv d2, iv sel, iv e_, iv i1, iv i2, iv i3, rv b1, iv q_, iv p2, iv p2, .unset] [(.int p5), (.int (i3 + (257 : Int32))), (.ref b1)])) rfl (by rw [hml]; rfl) (Steps.refl _) (argsL := [(.int (i3 + (257 : Int32))), (.int p5)]) (rest := []) (lenOf pd_4 rfl) rfl (by show 2 * 0 + _ ≤ _; exact Nat.le_of_eq rfl) (hb hby at_220) (fun _ _ => ⟨rfl, e41, (by decide : 3 + 0 ≤ _), (by decide : 132 + 0 ≤ _)⟩)
        dsimp only [Pt.U, Pt.locs, Pt.cells, Pt.slots] at X43 lq43 yq43 zq43 st43 hQ43
        subst lq43 yq43 zq43
        obtain ⟨h43, e43⟩ : ∃ z, T43.heap = z := ⟨_, rfl⟩
        rw [e43] at hQ43
        obtain ⟨rfl, N43q, K43, p43_0, p43_1, p43_2, p43_3, p43_4, p43_5, p43_6⟩ := hQ43
        have N43 := Fr.app N41 N43q
        refine go_tr st43 ?_
        show Go _ _ _ _ (T43.setTop (mkF m 223 #[iv p0, iv p1, iv p2, iv p3, iv p4, iv p5, iv d1, iv d2, iv sel, iv e_, iv i1, iv i2, iv i3, rv b1, iv q_, iv p2, iv p2, .unset] [(.int p4)]))
        refine go_st (fun t k => XS.istore X43.here hx rfl (hb hby at_223) rfl (l' := #[iv p0, iv p1, iv p2, iv p3, iv p4, iv p5, iv d1, iv d2, iv sel, iv e_, iv i1, iv i2, iv i3, rv b1, iv q_, iv p2, iv p2, iv p4]) rfl k) ?_
        show Go _ _ _ _ (T43.setTop (mkF m 225 #[iv p0, iv p1, iv p2, iv p3, iv p4, iv p5, iv d1, iv d2, iv sel, iv e_, iv i1, iv i2, iv i3, rv b1, iv q_, iv p2, iv p2, iv p4] []))
        refine go_st (fun t k => XS.iload X43.here hx rfl (hb hby at_225) rfl k) ?_
        show Go _ _ _ _ (T43.setTop (mkF m 227 #[iv p0, iv p1, iv p2, iv p3, iv p4, iv p5, iv d1, iv d2, iv sel, iv e_, iv i1, iv i2, iv i3, rv b1, iv q_, iv p2, iv p2, iv p4] [(.int p2)]))
        refine go_st (fun t k => XS.iload X43.here hx rfl (hb hby at_227) rfl k) ?_
        show Go _ _ _ _ (T43.setTop (mkF m 229 #[iv p0, iv p1, iv p2, iv p3, iv p4, iv p5, iv d1, iv d2, iv sel, iv e_, iv i1, iv i2, iv i3, rv b1, iv q_, iv p2, iv p2, iv p4] [(.int p2), (.int p2)]))
        refine go_st (fun t k => XS.icmpNo X43.here hx rfl (hb hby at_229) rfl (teq (rfl : p2 = p2)).2 k) ?_
        show Go _ _ _ _ (T43.setTop (mkF m 232 #[iv p0, iv p1, iv p2, iv p3, iv p4, iv p5, iv d1, iv d2, iv sel, iv e_, iv i1, iv i2, iv i3, rv b1, iv q_, iv p2, iv p2, iv p4] []))
        refine go_st (fun t k => XS.iload X43.here hx rfl (hb hby at_232) rfl k) ?_
        show Go _ _ _ _ (T43.setTop (mkF m 234 #[iv p0, iv p1, iv p2, iv p3, iv p4, iv p5, iv d1, iv d2, iv sel, iv e_, iv i1, iv i2, iv i3, rv b1, iv q_, iv p2, iv p2, iv p4] [(.int p4)]))
        refine go_st (fun t k => XS.iload X43.here hx rfl (hb hby at_234) rfl k) ?_
        show Go _ _ _ _ (T43.setTop (mkF m 236 #[iv p0, iv p1, iv p2, iv p3, iv p4, iv p5, iv d1, iv d2, iv sel, iv e_, iv i1, iv i2, iv i3, rv b1, iv q_, iv p2, iv p2, iv p4] [(.int p4), (.int p4)]))
        refine go_st (fun t k => XS.icmpNo X43.here hx rfl (hb hby at_236) rfl (teq (rfl : p4 = p4)).2 k) ?_
        show Go _ _ _ _ (T43.setTop (mkF m 239 #[iv p0, iv p1, iv p2, iv p3, iv p4, iv p5, iv d1, iv d2, iv sel, iv e_, iv i1, iv i2, iv i3, rv b1, iv q_, iv p2, iv p2, iv p4] []))
        refine go_st (fun t k => XS.iconst X43.here hx rfl (hb hby at_239) k) ?_
        show Go _ _ _ _ (T43.setTop (mkF m 240 #[iv p0, iv p1, iv p2, iv p3, iv p4, iv p5, iv d1, iv d2, iv sel, iv e_, iv i1, iv i2, iv i3, rv b1, iv q_, iv p2, iv p2, iv p4] [(.int 1)]))
        refine go_st (fun t k => XS.goto X43.here hx rfl (pc0 := 240) (pc' := 244) rfl (hb hby at_240) (by decide) (by decide) k) ?_
        show Go _ _ _ _ (T43.setTop (mkF m 244 #[iv p0, iv p1, iv p2, iv p3, iv p4, iv p5, iv d1, iv d2, iv sel, iv e_, iv i1, iv i2, iv i3, rv b1, iv q_, iv p2, iv p2, iv p4] [(.int 1)]))
        have ke44 : Keep h0 h1 [] := (Keep.ext (Keep.refl h0 []) E1)
        have ke45 : Keep h0 h6 [] := (Keep.trans ke44 K6 (allS (Or.inr (Nat.le_of_eq gq1.symm)) all0))
        have ke46 : Keep h0 h10 [] := (Keep.trans ke45 K10 (allS (Or.inr (Nat.le_of_eq gq1.symm)) (allS (Or.inr (Nat.le_trans E1.1 lf6_0)) (allS (Or.inr (Nat.le_trans E1.1 lf6_1)) all0))))
        have ke47 : Keep h0 h12 [] := (Keep.trans ke46 K12 (allS (Or.inr (Nat.le_of_eq gq1.symm)) (allS (Or.inr (Nat.le_trans E1.1 lf6_0)) (allS (Or.inr (Nat.le_trans E1.1 lf6_1)) all0))))
        have ke48 : Keep h0 h14 [] := (Keep.trans ke47 K14 (allS (Or.inr (Nat.le_of_eq gq1.symm)) (allS (Or.inr (Nat.le_trans E1.1 lf6_0)) (allS (Or.inr (Nat.le_trans E1.1 lf6_1)) all0))))
        have ke49 : Keep h0 h41 [] := (Keep.trans ke48 K41 (allS (Or.inr (Nat.le_of_eq gq1.symm)) all0))
        have ke50 : Keep h0 h43 [] := (Keep.trans ke49 K43 (allS (Or.inr (Nat.le_of_eq gq1.symm)) all0))
        obtain ⟨fs, hr, hrun, hended, hW, hsame⟩ := X43.leave (v := some (.int 1)) (fun h => by rw [Bd.returns] at h; cases h)
        refine ⟨_, _, ?_, hrun, hended, _, _, rfl, ?_, ⟨_, rfl⟩, hW, hsame.mono (by decide) (by decide)⟩
        · exact retN X43 hx (t := .boolean) Bd.returns (by simp) (hb hby at_244) hr
        · show Q_law _ _ _ _ _ _ _ _ _ _ T43.heap _
          rw [e43]
          exact ⟨rfl, N43, ke50⟩
      · skip
        refine go_st (fun t k => XS.icmpYes X14.here hx rfl (pc0 := 137) (pc' := 160) rfl (hb hby at_137) rfl (feq (hc39 : ¬ (sel = (2 : Int32)))).2 (by decide) (by decide) k) ?_
        show Go _ _ _ _ (T14.setTop (mkF m 160 #[iv p0, iv p1, iv p2, iv p3, iv p4, iv p5, iv d1, iv d2, iv sel, iv e_, iv i1, iv i2, iv i3, rv b1, .unset, .unset, .unset, .unset] []))
        refine go_st (fun t k => XS.iload X14.here hx rfl (hb hby at_160) rfl k) ?_
        show Go _ _ _ _ (T14.setTop (mkF m 162 #[iv p0, iv p1, iv p2, iv p3, iv p4, iv p5, iv d1, iv d2, iv sel, iv e_, iv i1, iv i2, iv i3, rv b1, .unset, .unset, .unset, .unset] [(.int sel)]))
        refine go_st (fun t k => XS.iconst X14.here hx rfl (hb hby at_162) k) ?_
        show Go _ _ _ _ (T14.setTop (mkF m 163 #[iv p0, iv p1, iv p2, iv p3, iv p4, iv p5, iv d1, iv d2, iv sel, iv e_, iv i1, iv i2, iv i3, rv b1, .unset, .unset, .unset, .unset] [(.int 3), (.int sel)]))
        by_cases hc51 : sel = (3 : Int32)
        · skip
          refine go_st (fun t k => XS.icmpNo X14.here hx rfl (hb hby at_163) rfl (teq (hc51 : sel = (3 : Int32))).2 k) ?_
          show Go _ _ _ _ (T14.setTop (mkF m 166 #[iv p0, iv p1, iv p2, iv p3, iv p4, iv p5, iv d1, iv d2, iv sel, iv e_, iv i1, iv i2, iv i3, rv b1, .unset, .unset, .unset, .unset] []))
          refine go_st (fun t k => XS.iload X14.here hx rfl (hb hby at_166) rfl k) ?_
          show Go _ _ _ _ (T14.setTop (mkF m 168 #[iv p0, iv p1, iv p2, iv p3, iv p4, iv p5, iv d1, iv d2, iv sel, iv e_, iv i1, iv i2, iv i3, rv b1, .unset, .unset, .unset, .unset] [(.int i2)]))
          refine go_st (fun t k => XS.iconst X14.here hx rfl (hb hby at_168) k) ?_
          show Go _ _ _ _ (T14.setTop (mkF m 169 #[iv p0, iv p1, iv p2, iv p3, iv p4, iv p5, iv d1, iv d2, iv sel, iv e_, iv i1, iv i2, iv i3, rv b1, .unset, .unset, .unset, .unset] [(.int 1), (.int i2)]))
          refine go_st (fun t k => XS.iadd X14.here hx rfl (hb hby at_169) rfl k) ?_
          show Go _ _ _ _ (T14.setTop (mkF m 170 #[iv p0, iv p1, iv p2, iv p3, iv p4, iv p5, iv d1, iv d2, iv sel, iv e_, iv i1, iv i2, iv i3, rv b1, .unset, .unset, .unset, .unset] [(.int (i2 + (1 : Int32)))]))
          refine go_st (fun t k => XS.iload X14.here hx rfl (hb hby at_170) rfl k) ?_
          show Go _ _ _ _ (T14.setTop (mkF m 172 #[iv p0, iv p1, iv p2, iv p3, iv p4, iv p5, iv d1, iv d2, iv sel, iv e_, iv i1, iv i2, iv i3, rv b1, .unset, .unset, .unset, .unset] [(.int e_), (.int (i2 + (1 : Int32)))]))
          refine go_st (fun t k => XS.iload X14.here hx rfl (hb hby at_172) rfl k) ?_
          show Go _ _ _ _ (T14.setTop (mkF m 174 #[iv p0, iv p1, iv p2, iv p3, iv p4, iv p5, iv d1, iv d2, iv sel, iv e_, iv i1, iv i2, iv i3, rv b1, .unset, .unset, .unset, .unset] [(.int d2), (.int e_), (.int (i2 + (1 : Int32)))]))
          refine go_st (fun t k => XS.iconst X14.here hx rfl (hb hby at_174) k) ?_
          show Go _ _ _ _ (T14.setTop (mkF m 175 #[iv p0, iv p1, iv p2, iv p3, iv p4, iv p5, iv d1, iv d2, iv sel, iv e_, iv i1, iv i2, iv i3, rv b1, .unset, .unset, .unset, .unset] [(.int 1), (.int d2), (.int e_), (.int (i2 + (1 : Int32)))]))
          refine go_st (fun t k => XS.iadd X14.here hx rfl (hb hby at_175) rfl k) ?_
          show Go _ _ _ _ (T14.setTop (mkF m 176 #[iv p0, iv p1, iv p2, iv p3, iv p4, iv p5, iv d1, iv d2, iv sel, iv e_, iv i1, iv i2, iv i3, rv b1, .unset, .unset, .unset, .unset] [(.int (d2 + (1 : Int32))), (.int e_), (.int (i2 + (1 : Int32)))]))
          refine go_st (fun t k => iremM X14 hx rfl (hb hby at_176) rfl (fun q => by have h1 : (d2 + (1 : Int32)).toInt = d2.toInt + 1 := (by rw [pl_add (by omega) (by omega), one1]); rw [q] at h1; have h0 : (0 : Int32).toInt = 0 := rfl; omega) k) ?_
          show Go _ _ _ _ (T14.setTop (mkF m 177 #[iv p0, iv p1, iv p2, iv p3, iv p4, iv p5, iv d1, iv d2, iv sel, iv e_, iv i1, iv i2, iv i3, rv b1, .unset, .unset, .unset, .unset] [(.int (e_ % (d2 + (1 : Int32)))), (.int (i2 + (1 : Int32)))]))
          refine go_st (fun t k => XS.iadd X14.here hx rfl (hb hby at_177) rfl k) ?_
          show Go _ _ _ _ (T14.setTop (mkF m 178 #[iv p0, iv p1, iv p2, iv p3, iv p4, iv p5, iv d1, iv d2, iv sel, iv e_, iv i1, iv i2, iv i3, rv b1, .unset, .unset, .unset, .unset] [(.int ((i2 + (1 : Int32)) + (e_ % (d2 + (1 : Int32)))))]))
          refine go_st (fun t k => XS.istore X14.here hx rfl (hb hby at_178) rfl (l' := #[iv p0, iv p1, iv p2, iv p3, iv p4, iv p5, iv d1, iv d2, iv sel, iv e_, iv i1, iv i2, iv i3, rv b1, iv ((i2 + (1 : Int32)) + (e_ % (d2 + (1 : Int32)))), .unset, .unset, .unset]) rfl k) ?_
          show Go _ _ _ _ (T14.setTop (mkF m 180 #[iv p0, iv p1, iv p2, iv p3, iv p4, iv p5, iv d1, iv d2, iv sel, iv e_, iv i1, iv i2, iv i3, rv b1, iv ((i2 + (1 : Int32)) + (e_ % (d2 + (1 : Int32)))), .unset, .unset, .unset] []))
          refine go_st (fun t k => XS.iloadN X14.here hx rfl (hb hby at_180) rfl k) ?_
          show Go _ _ _ _ (T14.setTop (mkF m 181 #[iv p0, iv p1, iv p2, iv p3, iv p4, iv p5, iv d1, iv d2, iv sel, iv e_, iv i1, iv i2, iv i3, rv b1, iv ((i2 + (1 : Int32)) + (e_ % (d2 + (1 : Int32)))), .unset, .unset, .unset] [(.int p3)]))
          refine go_st (fun t k => XS.istore X14.here hx rfl (hb hby at_181) rfl (l' := #[iv p0, iv p1, iv p2, iv p3, iv p4, iv p5, iv d1, iv d2, iv sel, iv e_, iv i1, iv i2, iv i3, rv b1, iv ((i2 + (1 : Int32)) + (e_ % (d2 + (1 : Int32)))), iv p3, .unset, .unset]) rfl k) ?_
          show Go _ _ _ _ (T14.setTop (mkF m 183 #[iv p0, iv p1, iv p2, iv p3, iv p4, iv p5, iv d1, iv d2, iv sel, iv e_, iv i1, iv i2, iv i3, rv b1, iv ((i2 + (1 : Int32)) + (e_ % (d2 + (1 : Int32)))), iv p3, .unset, .unset] []))
          refine go_st (fun t k => XS.goto X14.here hx rfl (pc0 := 183) (pc' := 199) rfl (hb hby at_183) (by decide) (by decide) k) ?_
          show Go _ _ _ _ (T14.setTop (mkF m 199 #[iv p0, iv p1, iv p2, iv p3, iv p4, iv p5, iv d1, iv d2, iv sel, iv e_, iv i1, iv i2, iv i3, rv b1, iv ((i2 + (1 : Int32)) + (e_ % (d2 + (1 : Int32)))), iv p3, .unset, .unset] []))
          obtain ⟨q_, h_q_⟩ : ∃ z, z = ((i2 + (1 : Int32)) + (e_ % (d2 + (1 : Int32)))) := ⟨_, rfl⟩
          rw [← h_q_]
          show Go _ _ _ _ (T14.setTop (mkF m 199 #[iv p0, iv p1, iv p2, iv p3, iv p4, iv p5, iv d1, iv d2, iv sel, iv e_, iv i1, iv i2, iv i3, rv b1, iv q_, iv p3, .unset, .unset] []))
          have hm1 : (d2 + (1 : Int32)).toInt = d2.toInt + 1 := by rw [pl_add (by omega) (by omega), one1]
          have hm := (c_iremV e_ (d2 + (1 : Int32))).1 (by omega) (by omega)
          have ha : (i2 + (1 : Int32)).toInt = i2.toInt + 1 := by rw [pl_add (by omega) (by omega), one1]
          have hq : q_.toInt = i2.toInt + 1 + (e_ % (d2 + (1 : Int32))).toInt := by rw [h_q_, pl_add (by omega) (by omega), ha]
          refine go_st (fun t k => XS.aload X14.here hx rfl (hb hby at_199) rfl rfl k) ?_
          show Go _ _ _ _ (T14.setTop (mkF m 201 #[iv p0, iv p1, iv p2, iv p3, iv p4, iv p5, iv d1, iv d2, iv sel, iv e_, iv i1, iv i2, iv i3, rv b1, iv q_, iv p3, .unset, .unset] [(.ref b1)]))
          refine go_st (fun t k => XS.iload X14.here hx rfl (hb hby at_201) rfl k) ?_
          show Go _ _ _ _ (T14.setTop (mkF m 203 #[iv p0, iv p1, iv p2, iv p3, iv p4, iv p5, iv d1, iv d2, iv sel, iv e_, iv i1, iv i2, iv i3, rv b1, iv q_, iv p3, .unset, .unset] [(.int q_), (.ref b1)]))
          refine go_st (fun t k => XS.iload X14.here hx rfl (hb hby at_203) rfl k) ?_
          show Go _ _ _ _ (T14.setTop (mkF m 205 #[iv p0, iv p1, iv p2, iv p3, iv p4, iv p5, iv d1, iv d2, iv sel, iv e_, iv i1, iv i2, iv i3, rv b1, iv q_, iv p3, .unset, .unset] [(.int p5), (.int q_), (.ref b1)]))
          have sz52 : h0.size ≤ h14.size := (Nat.le_trans sz13 K14.1)
          obtain ⟨cq53, kq53, q53a, q53b, q53c⟩ := isOf hZ e14 p14_0
          obtain ⟨_, _, ⟨T53, L53, kk53, nn53⟩, -, X53, ⟨Lc53, hQ53, lq53, yq53, zq53⟩, st53⟩ := X14.virtualBack hx (y := (⟨"com/example/nudge/nudge/tree/BlockEntries", "lineBefore", "(II)I"⟩ : MethodName)) (z := (⟨"com/example/nudge/nudge/tree/BlockEntries", "lineBefore", "(II)I"⟩ : MethodName)) hown (mvT hZ (w22 hw)) (mvT hZ (w23 hw)) (notFace_of_selects (args := #[]) (mvT hZ (w25 hw))) (mvT hZ (w25 hw)) (mvT hZ (w24 hw)) (by decide) (backOf (W := 0) (rm_lb_032 l Z a0 hw [] b1 ax_6 al_6 kx_6 kl_6 q_ p5 i1 i2 i3 p2 p3 p4 h14 n0 (Nat.le_trans Z0 sz52) p14_0 p14_1 p14_2 p14_3 p14_4 p14_5 p14_6 nq7 nq8 nx6_2 g_b1 s0 s1 (pl_lt (by omega)) (pl_nlt (by omega))) hZ (w26 hw) (w3 hw) (by decide) (by decide)) q53a q53c (g := (mkF m 205 #[iv p0, iv p1, iv p2, iv p3, iv p4, iv p5, iv d1, iv d2, iv sel, iv e_, iv i1, iv i2, iv i3, rv b1, iv q_, iv p3, .unset, .unset] [(.int p5), (.int q_), (.ref b1)])) rfl (by rw [hml]; rfl) (Steps.refl _) (argsL := [(.int q_), (.int p5)]) (rest := []) (lenOf pd_4 rfl) rfl (by show 2 * 0 + _ ≤ _; exact Nat.le_of_eq rfl) (hb hby at_205) (fun _ _ => ⟨rfl, e14, (by decide : 3 + 0 ≤ _), (by decide : 132 + 0 ≤ _)⟩)
          dsimp only [Pt.U, Pt.locs, Pt.cells, Pt.slots] at X53 lq53 yq53 zq53 st53 hQ53
          subst lq53 yq53 zq53
          obtain ⟨h53, e53⟩ : ∃ z, T53.heap = z := ⟨_, rfl⟩
          rw [e53] at hQ53
          obtain ⟨rfl, N53q, K53, p53_0, p53_1, p53_2, p53_3, p53_4, p53_5, p53_6⟩ := hQ53
          have N53 := Fr.app N14 N53q
          refine go_tr st53 ?_
          show Go _ _ _ _ (T53.setTop (mkF m 208 #[iv p0, iv p1, iv p2, iv p3, iv p4, iv p5, iv d1, iv d2, iv sel, iv e_, iv i1, iv i2, iv i3, rv b1, iv q_, iv p3, .unset, .unset] [(.int p3)]))
          refine go_st (fun t k => XS.istore X53.here hx rfl (hb hby at_208) rfl (l' := #[iv p0, iv p1, iv p2, iv p3, iv p4, iv p5, iv d1, iv d2, iv sel, iv e_, iv i1, iv i2, iv i3, rv b1, iv q_, iv p3, iv p3, .unset]) rfl k) ?_
          show Go _ _ _ _ (T53.setTop (mkF m 210 #[iv p0, iv p1, iv p2, iv p3, iv p4, iv p5, iv d1, iv d2, iv sel, iv e_, iv i1, iv i2, iv i3, rv b1, iv q_, iv p3, iv p3, .unset] []))
          refine go_st (fun t k => XS.aload X53.here hx rfl (hb hby at_210) rfl rfl k) ?_
          show Go _ _ _ _ (T53.setTop (mkF m 212 #[iv p0, iv p1, iv p2, iv p3, iv p4, iv p5, iv d1, iv d2, iv sel, iv e_, iv i1, iv i2, iv i3, rv b1, iv q_, iv p3, iv p3, .unset] [(.ref b1)]))
          refine go_st (fun t k => XS.iload X53.here hx rfl (hb hby at_212) rfl k) ?_
          show Go _ _ _ _ (T53.setTop (mkF m 214 #[iv p0, iv p1, iv p2, iv p3, iv p4, iv p5, iv d1, iv d2, iv sel, iv e_, iv i1, iv i2, iv i3, rv b1, iv q_, iv p3, iv p3, .unset] [(.int i3), (.ref b1)]))
          refine go_st (fun t k => XS.sipush X53.here hx rfl (hb hby at_214) k) ?_
          show Go _ _ _ _ (T53.setTop (mkF m 217 #[iv p0, iv p1, iv p2, iv p3, iv p4, iv p5, iv d1, iv d2, iv sel, iv e_, iv i1, iv i2, iv i3, rv b1, iv q_, iv p3, iv p3, .unset] [(.int 257), (.int i3), (.ref b1)]))
          refine go_st (fun t k => XS.iadd X53.here hx rfl (hb hby at_217) rfl k) ?_
          show Go _ _ _ _ (T53.setTop (mkF m 218 #[iv p0, iv p1, iv p2, iv p3, iv p4, iv p5, iv d1, iv d2, iv sel, iv e_, iv i1, iv i2, iv i3, rv b1, iv q_, iv p3, iv p3, .unset] [(.int (i3 + (257 : Int32))), (.ref b1)]))
          refine go_st (fun t k => XS.iload X53.here hx rfl (hb hby at_218) rfl k) ?_
          show Go _ _ _ _ (T53.setTop (mkF m 220 #[iv p0, iv p1, iv p2, iv p3, iv p4, iv p5, iv d1, iv d2, iv sel, iv e_, iv i1, iv i2, iv i3, rv b1, iv q_, iv p3, iv p3, .unset] [(.int p5), (.int (i3 + (257 : Int32))), (.ref b1)]))
          have hk2 : (i3 + (257 : Int32)).toInt = i3.toInt + 257 := by have q : (257 : Int32).toInt = 257 := rfl; rw [pl_add (by omega) (by omega), q]
          have sz54 : h0.size ≤ h53.size := (Nat.le_trans sz52 K53.1)
          obtain ⟨cq55, kq55, q55a, q55b, q55c⟩ := isOf hZ e53 p53_0
          obtain ⟨_, _, ⟨T55, L55, kk55, nn55⟩, -, X55, ⟨Lc55, hQ55, lq55, yq55, zq55⟩, st55⟩ := X53.virtualBack hx (y := (⟨"com/example/nudge/nudge/tree/BlockEntries", "lineBefore", "(II)I"⟩ : MethodName)) (z := (⟨"com/example/nudge/nudge/tree/BlockEntries", "lineBefore", "(II)I"⟩ : MethodName)) hown (mvT hZ (w22 hw)) (mvT hZ (w23 hw)) (notFace_of_selects (args := #[]) (mvT hZ (w25 hw))) (mvT hZ (w25 hw)) (mvT hZ (w24 hw)) (by decide) (backOf (W := 0) (rm_lb_133 l Z a0 hw [] b1 ax_6 al_6 kx_6 kl_6 (i3 + (257 : Int32)) p5 i1 i2 i3 p2 p3 p4 h53 n0 (Nat.le_trans Z0 sz54) p53_0 p53_1 p53_2 p53_3 p53_4 p53_5 p53_6 nq7 nq8 nx6_2 g_b1 s1 (pl_lt (by omega))) hZ (w26 hw) (w3 hw) (by decide) (by decide)) q55a q55c (g := (mkF m 220 #[iv p0, iv p1, iv p2, iv p3, iv p4, iv p5, iv d1, iv d2, iv sel, iv e_, iv i1, iv i2, iv i3, rv b1, iv q_, iv p3, iv p3, .unset] [(.int p5), (.int (i3 + (257 : Int32))), (.ref b1)])) rfl (by rw [hml]; rfl) (Steps.refl _) (argsL := [(.int (i3 + (257 : Int32))), (.int p5)]) (rest := []) (lenOf pd_4 rfl) rfl (by show 2 * 0 + _ ≤ _; exact Nat.le_of_eq rfl) (hb hby at_220) (fun _ _ => ⟨rfl, e53, (by decide : 3 + 0 ≤ _), (by decide : 132 + 0 ≤ _)⟩)
          dsimp only [Pt.U, Pt.locs, Pt.cells, Pt.slots] at X55 lq55 yq55 zq55 st55 hQ55
          subst lq55 yq55 zq55
          obtain ⟨h55, e55⟩ : ∃ z, T55.heap = z := ⟨_, rfl⟩
          rw [e55] at hQ55
          obtain ⟨rfl, N55q, K55, p55_0, p55_1, p55_2, p55_3, p55_4, p55_5, p55_6⟩ := hQ55
          have N55 := Fr.app N53 N55q
          refine go_tr st55 ?_
          show Go _ _ _ _ (T55.setTop (mkF m 223 #[iv p0, iv p1, iv p2, iv p3, iv p4, iv p5, iv d1, iv d2, iv sel, iv e_, iv i1, iv i2, iv i3, rv b1, iv q_, iv p3, iv p3, .unset] [(.int p4)]))
          refine go_st (fun t k => XS.istore X55.here hx rfl (hb hby at_223) rfl (l' := #[iv p0, iv p1, iv p2, iv p3, iv p4, iv p5, iv d1, iv d2, iv sel, iv e_, iv i1, iv i2, iv i3, rv b1, iv q_, iv p3, iv p3, iv p4]) rfl k) ?_
          show Go _ _ _ _ (T55.setTop (mkF m 225 #[iv p0, iv p1, iv p2, iv p3, iv p4, iv p5, iv d1, iv d2, iv sel, iv e_, iv i1, iv i2, iv i3, rv b1, iv q_, iv p3, iv p3, iv p4] []))
          refine go_st (fun t k => XS.iload X55.here hx rfl (hb hby at_225) rfl k) ?_
          show Go _ _ _ _ (T55.setTop (mkF m 227 #[iv p0, iv p1, iv p2, iv p3, iv p4, iv p5, iv d1, iv d2, iv sel, iv e_, iv i1, iv i2, iv i3, rv b1, iv q_, iv p3, iv p3, iv p4] [(.int p3)]))
          refine go_st (fun t k => XS.iload X55.here hx rfl (hb hby at_227) rfl k) ?_
          show Go _ _ _ _ (T55.setTop (mkF m 229 #[iv p0, iv p1, iv p2, iv p3, iv p4, iv p5, iv d1, iv d2, iv sel, iv e_, iv i1, iv i2, iv i3, rv b1, iv q_, iv p3, iv p3, iv p4] [(.int p3), (.int p3)]))
          refine go_st (fun t k => XS.icmpNo X55.here hx rfl (hb hby at_229) rfl (teq (rfl : p3 = p3)).2 k) ?_
          show Go _ _ _ _ (T55.setTop (mkF m 232 #[iv p0, iv p1, iv p2, iv p3, iv p4, iv p5, iv d1, iv d2, iv sel, iv e_, iv i1, iv i2, iv i3, rv b1, iv q_, iv p3, iv p3, iv p4] []))
          refine go_st (fun t k => XS.iload X55.here hx rfl (hb hby at_232) rfl k) ?_
          show Go _ _ _ _ (T55.setTop (mkF m 234 #[iv p0, iv p1, iv p2, iv p3, iv p4, iv p5, iv d1, iv d2, iv sel, iv e_, iv i1, iv i2, iv i3, rv b1, iv q_, iv p3, iv p3, iv p4] [(.int p4)]))
          refine go_st (fun t k => XS.iload X55.here hx rfl (hb hby at_234) rfl k) ?_
          show Go _ _ _ _ (T55.setTop (mkF m 236 #[iv p0, iv p1, iv p2, iv p3, iv p4, iv p5, iv d1, iv d2, iv sel, iv e_, iv i1, iv i2, iv i3, rv b1, iv q_, iv p3, iv p3, iv p4] [(.int p4), (.int p4)]))
          refine go_st (fun t k => XS.icmpNo X55.here hx rfl (hb hby at_236) rfl (teq (rfl : p4 = p4)).2 k) ?_
          show Go _ _ _ _ (T55.setTop (mkF m 239 #[iv p0, iv p1, iv p2, iv p3, iv p4, iv p5, iv d1, iv d2, iv sel, iv e_, iv i1, iv i2, iv i3, rv b1, iv q_, iv p3, iv p3, iv p4] []))
          refine go_st (fun t k => XS.iconst X55.here hx rfl (hb hby at_239) k) ?_
          show Go _ _ _ _ (T55.setTop (mkF m 240 #[iv p0, iv p1, iv p2, iv p3, iv p4, iv p5, iv d1, iv d2, iv sel, iv e_, iv i1, iv i2, iv i3, rv b1, iv q_, iv p3, iv p3, iv p4] [(.int 1)]))
          refine go_st (fun t k => XS.goto X55.here hx rfl (pc0 := 240) (pc' := 244) rfl (hb hby at_240) (by decide) (by decide) k) ?_
          show Go _ _ _ _ (T55.setTop (mkF m 244 #[iv p0, iv p1, iv p2, iv p3, iv p4, iv p5, iv d1, iv d2, iv sel, iv e_, iv i1, iv i2, iv i3, rv b1, iv q_, iv p3, iv p3, iv p4] [(.int 1)]))
          have ke56 : Keep h0 h1 [] := (Keep.ext (Keep.refl h0 []) E1)
          have ke57 : Keep h0 h6 [] := (Keep.trans ke56 K6 (allS (Or.inr (Nat.le_of_eq gq1.symm)) all0))
          have ke58 : Keep h0 h10 [] := (Keep.trans ke57 K10 (allS (Or.inr (Nat.le_of_eq gq1.symm)) (allS (Or.inr (Nat.le_trans E1.1 lf6_0)) (allS (Or.inr (Nat.le_trans E1.1 lf6_1)) all0))))
          have ke59 : Keep h0 h12 [] := (Keep.trans ke58 K12 (allS (Or.inr (Nat.le_of_eq gq1.symm)) (allS (Or.inr (Nat.le_trans E1.1 lf6_0)) (allS (Or.inr (Nat.le_trans E1.1 lf6_1)) all0))))
          have ke60 : Keep h0 h14 [] := (Keep.trans ke59 K14 (allS (Or.inr (Nat.le_of_eq gq1.symm)) (allS (Or.inr (Nat.le_trans E1.1 lf6_0)) (allS (Or.inr (Nat.le_trans E1.1 lf6_1)) all0))))
          have ke61 : Keep h0 h53 [] := (Keep.trans ke60 K53 (allS (Or.inr (Nat.le_of_eq gq1.symm)) all0))
          have ke62 : Keep h0 h55 [] := (Keep.trans ke61 K55 (allS (Or.inr (Nat.le_of_eq gq1.symm)) all0))
          obtain ⟨fs, hr, hrun, hended, hW, hsame⟩ := X55.leave (v := some (.int 1)) (fun h => by rw [Bd.returns] at h; cases h)
          refine ⟨_, _, ?_, hrun, hended, _, _, rfl, ?_, ⟨_, rfl⟩, hW, hsame.mono (by decide) (by decide)⟩
          · exact retN X55 hx (t := .boolean) Bd.returns (by simp) (hb hby at_244) hr
          · show Q_law _ _ _ _ _ _ _ _ _ _ T55.heap _
            rw [e55]
            exact ⟨rfl, N55, ke62⟩
        · skip
          refine go_st (fun t k => XS.icmpYes X14.here hx rfl (pc0 := 163) (pc' := 186) rfl (hb hby at_163) rfl (feq (hc51 : ¬ (sel = (3 : Int32)))).2 (by decide) (by decide) k) ?_
          show Go _ _ _ _ (T14.setTop (mkF m 186 #[iv p0, iv p1, iv p2, iv p3, iv p4, iv p5, iv d1, iv d2, iv sel, iv e_, iv i1, iv i2, iv i3, rv b1, .unset, .unset, .unset, .unset] []))
          refine go_st (fun t k => XS.iload X14.here hx rfl (hb hby at_186) rfl k) ?_
          show Go _ _ _ _ (T14.setTop (mkF m 188 #[iv p0, iv p1, iv p2, iv p3, iv p4, iv p5, iv d1, iv d2, iv sel, iv e_, iv i1, iv i2, iv i3, rv b1, .unset, .unset, .unset, .unset] [(.int i3)]))
          refine go_st (fun t k => XS.iconst X14.here hx rfl (hb hby at_188) k) ?_
          show Go _ _ _ _ (T14.setTop (mkF m 189 #[iv p0, iv p1, iv p2, iv p3, iv p4, iv p5, iv d1, iv d2, iv sel, iv e_, iv i1, iv i2, iv i3, rv b1, .unset, .unset, .unset, .unset] [(.int 1), (.int i3)]))
          refine go_st (fun t k => XS.iadd X14.here hx rfl (hb hby at_189) rfl k) ?_
          show Go _ _ _ _ (T14.setTop (mkF m 190 #[iv p0, iv p1, iv p2, iv p3, iv p4, iv p5, iv d1, iv d2, iv sel, iv e_, iv i1, iv i2, iv i3, rv b1, .unset, .unset, .unset, .unset] [(.int (i3 + (1 : Int32)))]))
          refine go_st (fun t k => XS.iload X14.here hx rfl (hb hby at_190) rfl k) ?_
          show Go _ _ _ _ (T14.setTop (mkF m 192 #[iv p0, iv p1, iv p2, iv p3, iv p4, iv p5, iv d1, iv d2, iv sel, iv e_, iv i1, iv i2, iv i3, rv b1, .unset, .unset, .unset, .unset] [(.int e_), (.int (i3 + (1 : Int32)))]))
          refine go_st (fun t k => XS.iadd X14.here hx rfl (hb hby at_192) rfl k) ?_
          show Go _ _ _ _ (T14.setTop (mkF m 193 #[iv p0, iv p1, iv p2, iv p3, iv p4, iv p5, iv d1, iv d2, iv sel, iv e_, iv i1, iv i2, iv i3, rv b1, .unset, .unset, .unset, .unset] [(.int ((i3 + (1 : Int32)) + e_))]))
          refine go_st (fun t k => XS.istore X14.here hx rfl (hb hby at_193) rfl (l' := #[iv p0, iv p1, iv p2, iv p3, iv p4, iv p5, iv d1, iv d2, iv sel, iv e_, iv i1, iv i2, iv i3, rv b1, iv ((i3 + (1 : Int32)) + e_), .unset, .unset, .unset]) rfl k) ?_
          show Go _ _ _ _ (T14.setTop (mkF m 195 #[iv p0, iv p1, iv p2, iv p3, iv p4, iv p5, iv d1, iv d2, iv sel, iv e_, iv i1, iv i2, iv i3, rv b1, iv ((i3 + (1 : Int32)) + e_), .unset, .unset, .unset] []))
          refine go_st (fun t k => XS.iload X14.here hx rfl (hb hby at_195) rfl k) ?_
          show Go _ _ _ _ (T14.setTop (mkF m 197 #[iv p0, iv p1, iv p2, iv p3, iv p4, iv p5, iv d1, iv d2, iv sel, iv e_, iv i1, iv i2, iv i3, rv b1, iv ((i3 + (1 : Int32)) + e_), .unset, .unset, .unset] [(.int p4)]))
          refine go_st (fun t k => XS.istore X14.here hx rfl (hb hby at_197) rfl (l' := #[iv p0, iv p1, iv p2, iv p3, iv p4, iv p5, iv d1, iv d2, iv sel, iv e_, iv i1, iv i2, iv i3, rv b1, iv ((i3 + (1 : Int32)) + e_), iv p4, .unset, .unset]) rfl k) ?_
          show Go _ _ _ _ (T14.setTop (mkF m 199 #[iv p0, iv p1, iv p2, iv p3, iv p4, iv p5, iv d1, iv d2, iv sel, iv e_, iv i1, iv i2, iv i3, rv b1, iv ((i3 + (1 : Int32)) + e_), iv p4, .unset, .unset] []))
          obtain ⟨q_, h_q_⟩ : ∃ z, z = ((i3 + (1 : Int32)) + e_) := ⟨_, rfl⟩
          rw [← h_q_]
          show Go _ _ _ _ (T14.setTop (mkF m 199 #[iv p0, iv p1, iv p2, iv p3, iv p4, iv p5, iv d1, iv d2, iv sel, iv e_, iv i1, iv i2, iv i3, rv b1, iv q_, iv p4, .unset, .unset] []))
          have ha : (i3 + (1 : Int32)).toInt = i3.toInt + 1 := by rw [pl_add (by omega) (by omega), one1]
          have hq : q_.toInt = i3.toInt + 1 + e_.toInt := by rw [h_q_, pl_add (by omega) (by omega), ha]
          refine go_st (fun t k => XS.aload X14.here hx rfl (hb hby at_199) rfl rfl k) ?_
          show Go _ _ _ _ (T14.setTop (mkF m 201 #[iv p0, iv p1, iv p2, iv p3, iv p4, iv p5, iv d1, iv d2, iv sel, iv e_, iv i1, iv i2, iv i3, rv b1, iv q_, iv p4, .unset, .unset] [(.ref b1)]))
          refine go_st (fun t k => XS.iload X14.here hx rfl (hb hby at_201) rfl k) ?_
          show Go _ _ _ _ (T14.setTop (mkF m 203 #[iv p0, iv p1, iv p2, iv p3, iv p4, iv p5, iv d1, iv d2, iv sel, iv e_, iv i1, iv i2, iv i3, rv b1, iv q_, iv p4, .unset, .unset] [(.int q_), (.ref b1)]))
          refine go_st (fun t k => XS.iload X14.here hx rfl (hb hby at_203) rfl k) ?_
          show Go _ _ _ _ (T14.setTop (mkF m 205 #[iv p0, iv p1, iv p2, iv p3, iv p4, iv p5, iv d1, iv d2, iv sel, iv e_, iv i1, iv i2, iv i3, rv b1, iv q_, iv p4, .unset, .unset] [(.int p5), (.int q_), (.ref b1)]))
          have sz63 : h0.size ≤ h14.size := (Nat.le_trans sz13 K14.1)
          obtain ⟨cq64, kq64, q64a, q64b, q64c⟩ := isOf hZ e14 p14_0
          obtain ⟨_, _, ⟨T64, L64, kk64, nn64⟩, -, X64, ⟨Lc64, hQ64, lq64, yq64, zq64⟩, st64⟩ := X14.virtualBack hx (y := (⟨"com/example/nudge/nudge/tree/BlockEntries", "lineBefore", "(II)I"⟩ : MethodName)) (z := (⟨"com/example/nudge/nudge/tree/BlockEntries", "lineBefore", "(II)I"⟩ : MethodName)) hown (mvT hZ (w22 hw)) (mvT hZ (w23 hw)) (notFace_of_selects (args := #[]) (mvT hZ (w25 hw))) (mvT hZ (w25 hw)) (mvT hZ (w24 hw)) (by decide) (backOf (W := 0) (rm_lb_033 l Z a0 hw [] b1 ax_6 al_6 kx_6 kl_6 q_ p5 i1 i2 i3 p2 p3 p4 h14 n0 (Nat.le_trans Z0 sz63) p14_0 p14_1 p14_2 p14_3 p14_4 p14_5 p14_6 nq7 nq8 nx6_2 g_b1 s0 s1 (pl_lt (by omega))) hZ (w26 hw) (w3 hw) (by decide) (by decide)) q64a q64c (g := (mkF m 205 #[iv p0, iv p1, iv p2, iv p3, iv p4, iv p5, iv d1, iv d2, iv sel, iv e_, iv i1, iv i2, iv i3, rv b1, iv q_, iv p4, .unset, .unset] [(.int p5), (.int q_), (.ref b1)])) rfl (by rw [hml]; rfl) (Steps.refl _) (argsL := [(.int q_), (.int p5)]) (rest := []) (lenOf pd_4 rfl) rfl (by show 2 * 0 + _ ≤ _; exact Nat.le_of_eq rfl) (hb hby at_205) (fun _ _ => ⟨rfl, e14, (by decide : 3 + 0 ≤ _), (by decide : 132 + 0 ≤ _)⟩)
          dsimp only [Pt.U, Pt.locs, Pt.cells, Pt.slots] at X64 lq64 yq64 zq64 st64 hQ64
          subst lq64 yq64 zq64
          obtain ⟨h64, e64⟩ : ∃ z, T64.heap = z := ⟨_, rfl⟩
          rw [e64] at hQ64
          obtain ⟨rfl, N64q, K64, p64_0, p64_1, p64_2, p64_3, p64_4, p64_5, p64_6⟩ := hQ64
          have N64 := Fr.app N14 N64q
          refine go_tr st64 ?_
          show Go _ _ _ _ (T64.setTop (mkF m 208 #[iv p0, iv p1, iv p2, iv p3, iv p4, iv p5, iv d1, iv d2, iv sel, iv e_, iv i1, iv i2, iv i3, rv b1, iv q_, iv p4, .unset, .unset] [(.int p4)]))
          refine go_st (fun t k => XS.istore X64.here hx rfl (hb hby at_208) rfl (l' := #[iv p0, iv p1, iv p2, iv p3, iv p4, iv p5, iv d1, iv d2, iv sel, iv e_, iv i1, iv i2, iv i3, rv b1, iv q_, iv p4, iv p4, .unset]) rfl k) ?_
          show Go _ _ _ _ (T64.setTop (mkF m 210 #[iv p0, iv p1, iv p2, iv p3, iv p4, iv p5, iv d1, iv d2, iv sel, iv e_, iv i1, iv i2, iv i3, rv b1, iv q_, iv p4, iv p4, .unset] []))
          refine go_st (fun t k => XS.aload X64.here hx rfl (hb hby at_210) rfl rfl k) ?_
          show Go _ _ _ _ (T64.setTop (mkF m 212 #[iv p0, iv p1, iv p2, iv p3, iv p4, iv p5, iv d1, iv d2, iv sel, iv e_, iv i1, iv i2, iv i3, rv b1, iv q_, iv p4, iv p4, .unset] [(.ref b1)]))
          refine go_st (fun t k => XS.iload X64.here hx rfl (hb hby at_212) rfl k) ?_
          show Go _ _ _ _ (T64.setTop (mkF m 214 #[iv p0, iv p1, iv p2, iv p3, iv p4, iv p5, iv d1, iv d2, iv sel, iv e_, iv i1, iv i2, iv i3, rv b1, iv q_, iv p4, iv p4, .unset] [(.int i3), (.ref b1)]))
          refine go_st (fun t k => XS.sipush X64.here hx rfl (hb hby at_214) k) ?_
          show Go _ _ _ _ (T64.setTop (mkF m 217 #[iv p0, iv p1, iv p2, iv p3, iv p4, iv p5, iv d1, iv d2, iv sel, iv e_, iv i1, iv i2, iv i3, rv b1, iv q_, iv p4, iv p4, .unset] [(.int 257), (.int i3), (.ref b1)]))
          refine go_st (fun t k => XS.iadd X64.here hx rfl (hb hby at_217) rfl k) ?_
          show Go _ _ _ _ (T64.setTop (mkF m 218 #[iv p0, iv p1, iv p2, iv p3, iv p4, iv p5, iv d1, iv d2, iv sel, iv e_, iv i1, iv i2, iv i3, rv b1, iv q_, iv p4, iv p4, .unset] [(.int (i3 + (257 : Int32))), (.ref b1)]))
          refine go_st (fun t k => XS.iload X64.here hx rfl (hb hby at_218) rfl k) ?_
          show Go _ _ _ _ (T64.setTop (mkF m 220 #[iv p0, iv p1, iv p2, iv p3, iv p4, iv p5, iv d1, iv d2, iv sel, iv e_, iv i1, iv i2, iv i3, rv b1, iv q_, iv p4, iv p4, .unset] [(.int p5), (.int (i3 + (257 : Int32))), (.ref b1)]))
          have hk2 : (i3 + (257 : Int32)).toInt = i3.toInt + 257 := by have q : (257 : Int32).toInt = 257 := rfl; rw [pl_add (by omega) (by omega), q]
          have sz65 : h0.size ≤ h64.size := (Nat.le_trans sz63 K64.1)
          obtain ⟨cq66, kq66, q66a, q66b, q66c⟩ := isOf hZ e64 p64_0
          obtain ⟨_, _, ⟨T66, L66, kk66, nn66⟩, -, X66, ⟨Lc66, hQ66, lq66, yq66, zq66⟩, st66⟩ := X64.virtualBack hx (y := (⟨"com/example/nudge/nudge/tree/BlockEntries", "lineBefore", "(II)I"⟩ : MethodName)) (z := (⟨"com/example/nudge/nudge/tree/BlockEntries", "lineBefore", "(II)I"⟩ : MethodName)) hown (mvT hZ (w22 hw)) (mvT hZ (w23 hw)) (notFace_of_selects (args := #[]) (mvT hZ (w25 hw))) (mvT hZ (w25 hw)) (mvT hZ (w24 hw)) (by decide) (backOf (W := 0) (rm_lb_233 l Z a0 hw [] b1 ax_6 al_6 kx_6 kl_6 (i3 + (257 : Int32)) p5 i1 i2 i3 p2 p3 p4 h64 n0 (Nat.le_trans Z0 sz65) p64_0 p64_1 p64_2 p64_3 p64_4 p64_5 p64_6 nq7 nq8 nx6_2 g_b1 (pl_lt (by omega))) hZ (w26 hw) (w3 hw) (by decide) (by decide)) q66a q66c (g := (mkF m 220 #[iv p0, iv p1, iv p2, iv p3, iv p4, iv p5, iv d1, iv d2, iv sel, iv e_, iv i1, iv i2, iv i3, rv b1, iv q_, iv p4, iv p4, .unset] [(.int p5), (.int (i3 + (257 : Int32))), (.ref b1)])) rfl (by rw [hml]; rfl) (Steps.refl _) (argsL := [(.int (i3 + (257 : Int32))), (.int p5)]) (rest := []) (lenOf pd_4 rfl) rfl (by show 2 * 0 + _ ≤ _; exact Nat.le_of_eq rfl) (hb hby at_220) (fun _ _ => ⟨rfl, e64, (by decide : 3 + 0 ≤ _), (by decide : 132 + 0 ≤ _)⟩)
          dsimp only [Pt.U, Pt.locs, Pt.cells, Pt.slots] at X66 lq66 yq66 zq66 st66 hQ66
          subst lq66 yq66 zq66
          obtain ⟨h66, e66⟩ : ∃ z, T66.heap = z := ⟨_, rfl⟩
          rw [e66] at hQ66
          obtain ⟨rfl, N66q, K66, p66_0, p66_1, p66_2, p66_3, p66_4, p66_5, p66_6⟩ := hQ66
          have N66 := Fr.app N64 N66q
          refine go_tr st66 ?_
          show Go _ _ _ _ (T66.setTop (mkF m 223 #[iv p0, iv p1, iv p2, iv p3, iv p4, iv p5, iv d1, iv d2, iv sel, iv e_, iv i1, iv i2, iv i3, rv b1, iv q_, iv p4, iv p4, .unset] [(.int p4)]))
          refine go_st (fun t k => XS.istore X66.here hx rfl (hb hby at_223) rfl (l' := #[iv p0, iv p1, iv p2, iv p3, iv p4, iv p5, iv d1, iv d2, iv sel, iv e_, iv i1, iv i2, iv i3, rv b1, iv q_, iv p4, iv p4, iv p4]) rfl k) ?_
          show Go _ _ _ _ (T66.setTop (mkF m 225 #[iv p0, iv p1, iv p2, iv p3, iv p4, iv p5, iv d1, iv d2, iv sel, iv e_, iv i1, iv i2, iv i3, rv b1, iv q_, iv p4, iv p4, iv p4] []))
          refine go_st (fun t k => XS.iload X66.here hx rfl (hb hby at_225) rfl k) ?_
          show Go _ _ _ _ (T66.setTop (mkF m 227 #[iv p0, iv p1, iv p2, iv p3, iv p4, iv p5, iv d1, iv d2, iv sel, iv e_, iv i1, iv i2, iv i3, rv b1, iv q_, iv p4, iv p4, iv p4] [(.int p4)]))
          refine go_st (fun t k => XS.iload X66.here hx rfl (hb hby at_227) rfl k) ?_
          show Go _ _ _ _ (T66.setTop (mkF m 229 #[iv p0, iv p1, iv p2, iv p3, iv p4, iv p5, iv d1, iv d2, iv sel, iv e_, iv i1, iv i2, iv i3, rv b1, iv q_, iv p4, iv p4, iv p4] [(.int p4), (.int p4)]))
          refine go_st (fun t k => XS.icmpNo X66.here hx rfl (hb hby at_229) rfl (teq (rfl : p4 = p4)).2 k) ?_
          show Go _ _ _ _ (T66.setTop (mkF m 232 #[iv p0, iv p1, iv p2, iv p3, iv p4, iv p5, iv d1, iv d2, iv sel, iv e_, iv i1, iv i2, iv i3, rv b1, iv q_, iv p4, iv p4, iv p4] []))
          refine go_st (fun t k => XS.iload X66.here hx rfl (hb hby at_232) rfl k) ?_
          show Go _ _ _ _ (T66.setTop (mkF m 234 #[iv p0, iv p1, iv p2, iv p3, iv p4, iv p5, iv d1, iv d2, iv sel, iv e_, iv i1, iv i2, iv i3, rv b1, iv q_, iv p4, iv p4, iv p4] [(.int p4)]))
          refine go_st (fun t k => XS.iload X66.here hx rfl (hb hby at_234) rfl k) ?_
          show Go _ _ _ _ (T66.setTop (mkF m 236 #[iv p0, iv p1, iv p2, iv p3, iv p4, iv p5, iv d1, iv d2, iv sel, iv e_, iv i1, iv i2, iv i3, rv b1, iv q_, iv p4, iv p4, iv p4] [(.int p4), (.int p4)]))
          refine go_st (fun t k => XS.icmpNo X66.here hx rfl (hb hby at_236) rfl (teq (rfl : p4 = p4)).2 k) ?_
          show Go _ _ _ _ (T66.setTop (mkF m 239 #[iv p0, iv p1, iv p2, iv p3, iv p4, iv p5, iv d1, iv d2, iv sel, iv e_, iv i1, iv i2, iv i3, rv b1, iv q_, iv p4, iv p4, iv p4] []))
          refine go_st (fun t k => XS.iconst X66.here hx rfl (hb hby at_239) k) ?_
          show Go _ _ _ _ (T66.setTop (mkF m 240 #[iv p0, iv p1, iv p2, iv p3, iv p4, iv p5, iv d1, iv d2, iv sel, iv e_, iv i1, iv i2, iv i3, rv b1, iv q_, iv p4, iv p4, iv p4] [(.int 1)]))
          refine go_st (fun t k => XS.goto X66.here hx rfl (pc0 := 240) (pc' := 244) rfl (hb hby at_240) (by decide) (by decide) k) ?_
          show Go _ _ _ _ (T66.setTop (mkF m 244 #[iv p0, iv p1, iv p2, iv p3, iv p4, iv p5, iv d1, iv d2, iv sel, iv e_, iv i1, iv i2, iv i3, rv b1, iv q_, iv p4, iv p4, iv p4] [(.int 1)]))
          have ke67 : Keep h0 h1 [] := (Keep.ext (Keep.refl h0 []) E1)
          have ke68 : Keep h0 h6 [] := (Keep.trans ke67 K6 (allS (Or.inr (Nat.le_of_eq gq1.symm)) all0))
          have ke69 : Keep h0 h10 [] := (Keep.trans ke68 K10 (allS (Or.inr (Nat.le_of_eq gq1.symm)) (allS (Or.inr (Nat.le_trans E1.1 lf6_0)) (allS (Or.inr (Nat.le_trans E1.1 lf6_1)) all0))))
          have ke70 : Keep h0 h12 [] := (Keep.trans ke69 K12 (allS (Or.inr (Nat.le_of_eq gq1.symm)) (allS (Or.inr (Nat.le_trans E1.1 lf6_0)) (allS (Or.inr (Nat.le_trans E1.1 lf6_1)) all0))))
          have ke71 : Keep h0 h14 [] := (Keep.trans ke70 K14 (allS (Or.inr (Nat.le_of_eq gq1.symm)) (allS (Or.inr (Nat.le_trans E1.1 lf6_0)) (allS (Or.inr (Nat.le_trans E1.1 lf6_1)) all0))))
          have ke72 : Keep h0 h64 [] := (Keep.trans ke71 K64 (allS (Or.inr (Nat.le_of_eq gq1.symm)) all0))
          have ke73 : Keep h0 h66 [] := (Keep.trans ke72 K66 (allS (Or.inr (Nat.le_of_eq gq1.symm)) all0))
          obtain ⟨fs, hr, hrun, hended, hW, hsame⟩ := X66.leave (v := some (.int 1)) (fun h => by rw [Bd.returns] at h; cases h)
          refine ⟨_, _, ?_, hrun, hended, _, _, rfl, ?_, ⟨_, rfl⟩, hW, hsame.mono (by decide) (by decide)⟩
          · exact retN X66 hx (t := .boolean) Bd.returns (by simp) (hb hby at_244) hr
          · show Q_law _ _ _ _ _ _ _ _ _ _ T66.heap _
            rw [e66]
            exact ⟨rfl, N66, ke73⟩
set_option maxRecDepth 65536 in
set_option maxHeartbeats 40000000 in
theorem comes_1 {Post : Tables → Env → Array Value → State → Outcome → State → Prop} (hpost : ∀ tb e args s v u, (limb_1_1.after args s (.returned v) u = true ∧ limb_1_2.after args s (.returned v) u = true ∧ True) → FrameEnd s (.returned v) u (Jvm.fieldLocs frame_1_writes args s ++ Jvm.arrayLocs frame_1_arrays args s ++ Jvm.staticLocs frame_1_statics s) 16 384 → Post tb e args s (.returned v) u) :
    ArmFor flags0 classFile x code maxLocals ret World_1 tables_1 room_1 Calls_1 rest_1 Pre_1 Post := by
  intro l hfl _ _ p e ha hc hk s m args below hf hA hF happ hP
  obtain ⟨hcalls, hrest, hpre⟩ := hP
  obtain ⟨-, -, -, hnamed, -, -, -, hat⟩ := (Spec.applies_iff hf).mp happ
  obtain ⟨hg, hn⟩ := and_e (Cond.before_iff.mp (show (Jvm.Cond.and given_1 narrow_1).before args s = true from hpre))
  obtain ⟨hcnt, ha0⟩ := and_e hg
  obtain ⟨gi0, ha1⟩ := and_e ha0
  obtain ⟨gi1, ha2⟩ := and_e ha1
  obtain ⟨gi2, ha3⟩ := and_e ha2
  obtain ⟨gi3, ha4⟩ := and_e ha3
  obtain ⟨gi4, ha5⟩ := and_e ha4
  have gi5 := ha5
  obtain ⟨w0_, w1_, w2_, w3_, w4_, w5_, rfl⟩ : ∃ w0_ w1_ w2_ w3_ w4_ w5_ : Value, args = #[w0_, w1_, w2_, w3_, w4_, w5_] := by
    have hs : args.size = 6 := by simpa [Cond.value, given_1] using hcnt
    obtain ⟨L⟩ := args
    match L, hs with
    | [w0_, w1_, w2_, w3_, w4_, w5_], _ => exact ⟨w0_, w1_, w2_, w3_, w4_, w5_, rfl⟩
  have hw := fun d (hd : d ∈ tables_1) => atoms_spec (ws := Jvm.Cond.code x code maxLocals ret :: tables_1) hat d (List.mem_cons_of_mem _ hd)
  have hfit : Fit s := fun {y c} hc i hi => by
    obtain ⟨ha, rfl⟩ := Array.getElem?_eq_some_iff.mp hc
    have q := List.all_eq_true.mp ((Array.all_eq_true_iff_forall_mem.mp hF) _ (Array.getElem_mem ha)) i (List.mem_range.mpr hi)
    simpa [Array.getElem?_eq_getElem hi] using q
  obtain ⟨i0, ei0⟩ := is_v gi0
  obtain rfl : w0_ = (.int i0) := Option.some.inj ei0
  obtain ⟨i1, ei1⟩ := is_v gi1
  obtain rfl : w1_ = (.int i1) := Option.some.inj ei1
  obtain ⟨i2, ei2⟩ := is_v gi2
  obtain rfl : w2_ = (.int i2) := Option.some.inj ei2
  obtain ⟨i3, ei3⟩ := is_v gi3
  obtain rfl : w3_ = (.int i3) := Option.some.inj ei3
  obtain ⟨i4, ei4⟩ := is_v gi4
  obtain rfl : w4_ = (.int i4) := Option.some.inj ei4
  obtain ⟨i5, ei5⟩ := is_v gi5
  obtain rfl : w5_ = (.int i5) := Option.some.inj ei5
  obtain ⟨n, o, h1, h2, h3, _, L, rfl, ⟨rfl, N, -⟩, hq⟩ := rm_law l s _ hw tables_1 i0 i1 i2 i3 i4 i5 s.heap s.heap.size (Nat.le_refl _) p e ha hc hk s m _ below hf ((Spec.applies_iff_loose hf).mp happ).1 ⟨rfl, State.Warmed39.refl s, rfl⟩ trivial
  refine ⟨n, _, h1, h2, h3, hpost _ _ _ _ _ _ ⟨Cond.after_iff.mpr rfl, Cond.after_iff.mpr (eq_i res_at (Term.int_eval (1)) rfl), trivial⟩ ⟨hq.1, hq.2.1, (hq.2.2.sift fun y hy => Or.inr (N y hy)).mono (by decide) (by decide)⟩⟩
theorem main_1_1 : Claimed_1_1 := comes_1 fun _ _ _ _ _ _ h hF => ⟨h.1, hF⟩
theorem main_1_2 : Claimed_1_2 := comes_1 fun _ _ _ _ _ _ h hF => ⟨h.2.1, hF⟩
end Jvm.Pilot.@@N@@
namespace Jvm.Pilot.@@N@@
open Jvm Jvm.ClassFile Sem Op Lib Jvm.Free Jvm.Stand Jvm.Pilot.@@N@@.Jvm.D
/-! MADE BY PROGRAM (witnessworld.py) out of the Statement's table words and the real class files: 10 classes; the members and pool entries that the words name. The judged class is class 1, her method 1. -/
namespace start1
open Jvm.ClassFile
def u (s : String) : CpInfo := .utf8 (stringToUtf16 s)
/-- a pool by its gaps: so many unusable entries, then the entry; so many at the end -/
def gap : Nat → List CpInfo → List CpInfo
  | 0, r => r
  | n + 1, r => .unusable :: gap n r
def poolList (es : List (Nat × CpInfo)) (last : Nat) : List CpInfo := es.foldr (fun e r => gap e.1 (e.2 :: r)) (gap last [])
def pool (es : List (Nat × CpInfo)) (last : Nat) : Array CpInfo := ⟨poolList es last⟩
def fileOf (pool : Array CpInfo) (this : Nat) (attrs : Array Attribute := #[]) (ms : Array MethodInfo := #[]) (fl : Nat := 33) (sup : Nat := 0) (ifs : Array Nat := #[]) (fds : Array FieldInfo := #[]) : ClassFile where
  minorVersion := 0
  majorVersion := 65
  constantPool := pool
  accessFlags := fl
  thisClass := this
  superClass := sup
  interfaces := ifs
  fields := fds
  methods := ms
  attributes := attrs
def plain (name : String) (sup : Option ClassId) : Class where
  name := name
  kind := .ordinary
  loader := none
  accessFlags := 33
  super := sup
  interfaces := #[]
  cf := none
  fields := #[]
  methods := #[]
  instanceTypes := #[]
  staticTypes := #[]
  resolved := #[]
  callSites := []
  init := .initialized
  statics := none
  mirror := none

def pool0 : Array CpInfo := pool [(5, u "<init>"), (0, u "()V"), (1, .class_ 10), (1, u "java/lang/Object")] 113

def k0c0 : Code := { maxStack := 0, maxLocals := 1, code := object_method_1_code, exceptionTable := #[], attributes := #[] }
def k0m0 : Method := { name := "<init>", desc := "()V", sig := { parameters := [], returnType := none }, accessFlags := 1, code := some k0c0 }
/-- java/lang/Object -/
def k0 : Class := { plain "java/lang/Object" none with
  accessFlags := 33
  interfaces := #[]
  cf := some (fileOf pool0 8 #[] #[{ accessFlags := 1, nameIndex := 5, descriptorIndex := 6, attributes := #[] }] 33 0 #[] #[])
  fields := #[]
  methods := #[k0m0]
  instanceTypes := #[]
  staticTypes := #[]
  resolved := Array.replicate 124 none
  statics := none }

def pool1 : Array CpInfo := pool [(2, .class_ 4), (0, .nameAndType 5 6), (0, u "java/lang/Object"), (0, u "<init>"), (0, u "()V"), (0, .integer 1073741823), (0, .class_ 9), (0, u "com/example/nudge/nudge/tree/BlockEntries"), (0, .methodref 8 3), (0, .methodref 8 12), (0, .nameAndType 13 14), (0, u "note"), (0, u "(II)V"), (0, .methodref 8 16), (0, .nameAndType 17 18), (0, u "lineBefore"), (0, u "(II)I"), (0, .class_ 20), (0, u "com/example/nudge/nudge/tree/BlockEntriesNotePinLaw"), (2, u "law"), (0, u "(IIIIII)Z")] 3

def k1m0 : Method := { name := "<init>", desc := "()V", sig := { parameters := [], returnType := none }, accessFlags := 1, code := none }
def k1c1 : Code := { maxStack := 4, maxLocals := 18, code := code, exceptionTable := #[], attributes := #[] }
def k1m1 : Method := { name := "law", desc := "(IIIIII)Z", sig := { parameters := [.int, .int, .int, .int, .int, .int], returnType := some .boolean }, accessFlags := 9, code := some k1c1 }
/-- com/example/nudge/nudge/tree/BlockEntriesNotePinLaw -/
def k1 : Class := { plain "com/example/nudge/nudge/tree/BlockEntriesNotePinLaw" (some 0) with
  accessFlags := 49
  interfaces := #[]
  cf := some (fileOf pool1 19 #[] #[{ accessFlags := 1, nameIndex := 5, descriptorIndex := 6, attributes := #[] }, { accessFlags := 9, nameIndex := 23, descriptorIndex := 24, attributes := #[] }] 49 2 #[] #[])
  fields := #[]
  methods := #[k1m0, k1m1]
  instanceTypes := #[]
  staticTypes := #[]
  resolved := Array.replicate 28 none
  statics := none }

def pool2 : Array CpInfo := pool [(1, .methodref 2 3), (0, .class_ 4), (0, .nameAndType 5 6), (0, u "java/lang/Object"), (0, u "<init>"), (0, u "()V"), (0, .fieldref 8 9), (0, .class_ 10), (0, .nameAndType 11 12), (0, u "com/example/nudge/nudge/tree/BlockEntries"), (0, u "indexes"), (0, u "[I"), (0, .fieldref 8 14), (0, .nameAndType 15 12), (0, u "lines"), (0, .fieldref 8 17), (0, .nameAndType 18 19), (0, u "count"), (0, u "I"), (0, .fieldref 8 21), (0, .nameAndType 22 19), (0, u "first"), (7, .class_ 32), (1, u "java/util/Arrays"), (2, .methodref 30 36), (0, .nameAndType 37 38), (0, u "binarySearch"), (0, u "([IIII)I"), (2, u "note"), (0, u "(II)V"), (1, u "lineBefore"), (0, u "(II)I")] 2

def k2c0 : Code := { maxStack := 2, maxLocals := 1, code := prog_17_method_1_code, exceptionTable := #[], attributes := #[] }
def k2m0 : Method := { name := "<init>", desc := "()V", sig := { parameters := [], returnType := none }, accessFlags := 0, code := some k2c0 }
def k2c1 : Code := { maxStack := 5, maxLocals := 3, code := prog_17_method_2_code, exceptionTable := #[], attributes := #[] }
def k2m1 : Method := { name := "note", desc := "(II)V", sig := { parameters := [.int, .int], returnType := none }, accessFlags := 0, code := some k2c1 }
def k2c2 : Code := { maxStack := 4, maxLocals := 6, code := prog_17_method_3_code, exceptionTable := #[], attributes := #[] }
def k2m2 : Method := { name := "lineBefore", desc := "(II)I", sig := { parameters := [.int, .int], returnType := some .int }, accessFlags := 0, code := some k2c2 }
/-- com/example/nudge/nudge/tree/BlockEntries -/
def k2 : Class := { plain "com/example/nudge/nudge/tree/BlockEntries" (some 0) with
  accessFlags := 48
  interfaces := #[]
  cf := some (fileOf pool2 8 #[] #[{ accessFlags := 0, nameIndex := 5, descriptorIndex := 6, attributes := #[] }, { accessFlags := 0, nameIndex := 41, descriptorIndex := 42, attributes := #[] }, { accessFlags := 0, nameIndex := 44, descriptorIndex := 45, attributes := #[] }] 48 2 #[] #[{ accessFlags := 2, nameIndex := 11, descriptorIndex := 12, attributes := #[] }, { accessFlags := 2, nameIndex := 15, descriptorIndex := 12, attributes := #[] }, { accessFlags := 2, nameIndex := 22, descriptorIndex := 19, attributes := #[] }, { accessFlags := 2, nameIndex := 18, descriptorIndex := 19, attributes := #[] }])
  fields := #[{ name := "indexes", type := (.array .int), accessFlags := 2, slot := 0, constantValue := 0 }, { name := "lines", type := (.array .int), accessFlags := 2, slot := 1, constantValue := 0 }, { name := "first", type := .int, accessFlags := 2, slot := 2, constantValue := 0 }, { name := "count", type := .int, accessFlags := 2, slot := 3, constantValue := 0 }]
  methods := #[k2m0, k2m1, k2m2]
  instanceTypes := #[(.array .int), (.array .int), .int, .int]
  staticTypes := #[]
  resolved := Array.replicate 48 none
  statics := none }

def pool3 : Array CpInfo := pool [(2, .class_ 4), (1, u "java/lang/Object"), (0, u "<init>"), (0, u "()V"), (6, .methodref 14 15), (0, .class_ 16), (0, .nameAndType 17 18), (0, u "java/util/Arrays"), (0, u "rangeCheck"), (0, u "(III)V"), (55, .class_ 76), (1, u "java/util/Arrays$NaturalOrder"), (36, .class_ 115), (1, u "java/util/Arrays$LegacyMergeSort"), (1, u "Z"), (89, u "binarySearch0"), (1, .methodref 14 210), (0, .nameAndType 207 211), (0, u "([IIII)I"), (163, .class_ 376), (0, u "java/util/Arrays$ArrayList"), (68, u "$assertionsDisabled"), (269, u "MIN_ARRAY_SORT_GRAN"), (0, u "I"), (2, u "INSERTIONSORT_THRESHOLD"), (74, u "binarySearch"), (180, .class_ 976), (0, u "java/util/Arrays$ArrayItr")] 52

def k3m0 : Method := { name := "<init>", desc := "()V", sig := { parameters := [], returnType := none }, accessFlags := 2, code := none }
def k3c1 : Code := { maxStack := 4, maxLocals := 3, code := jdk_65_method_30_code, exceptionTable := #[], attributes := #[] }
def k3m1 : Method := { name := "rangeCheck", desc := "(III)V", sig := { parameters := [.int, .int, .int], returnType := none }, accessFlags := 8, code := some k3c1 }
def k3c2 : Code := { maxStack := 4, maxLocals := 4, code := jdk_65_method_58_code, exceptionTable := #[], attributes := #[] }
def k3m2 : Method := { name := "binarySearch", desc := "([IIII)I", sig := { parameters := [(.array .int), .int, .int, .int], returnType := some .int }, accessFlags := 9, code := some k3c2 }
def k3c3 : Code := { maxStack := 2, maxLocals := 8, code := jdk_65_method_59_code, exceptionTable := #[], attributes := #[] }
def k3m3 : Method := { name := "binarySearch0", desc := "([IIII)I", sig := { parameters := [(.array .int), .int, .int, .int], returnType := some .int }, accessFlags := 10, code := some k3c3 }
/-- java/util/Arrays -/
def k3 : Class := { plain "java/util/Arrays" (some 0) with
  accessFlags := 49
  interfaces := #[]
  cf := some (fileOf pool3 14 #[.nestMembers #[975, 375, 113, 74]] #[{ accessFlags := 2, nameIndex := 5, descriptorIndex := 6, attributes := #[] }, { accessFlags := 8, nameIndex := 17, descriptorIndex := 18, attributes := #[] }, { accessFlags := 9, nameIndex := 794, descriptorIndex := 211, attributes := #[] }, { accessFlags := 10, nameIndex := 207, descriptorIndex := 211, attributes := #[] }] 49 2 #[] #[{ accessFlags := 26, nameIndex := 715, descriptorIndex := 716, attributes := #[] }, { accessFlags := 26, nameIndex := 719, descriptorIndex := 716, attributes := #[] }, { accessFlags := 4120, nameIndex := 445, descriptorIndex := 117, attributes := #[] }])
  fields := #[{ name := "MIN_ARRAY_SORT_GRAN", type := .int, accessFlags := 26, slot := 0, constantValue := 0 }, { name := "INSERTIONSORT_THRESHOLD", type := .int, accessFlags := 26, slot := 1, constantValue := 0 }, { name := "$assertionsDisabled", type := .boolean, accessFlags := 4120, slot := 2, constantValue := 0 }]
  methods := #[k3m0, k3m1, k3m2, k3m3]
  instanceTypes := #[]
  staticTypes := #[.int, .int, .boolean]
  resolved := Array.replicate 1029 none
  statics := none }

def pool4 : Array CpInfo := pool [(1, u "java/lang/Cloneable"), (0, .class_ 1), (0, u "java/lang/Object"), (0, .class_ 3)] 3

/-- java/lang/Cloneable -/
def k4 : Class := { plain "java/lang/Cloneable" (some 0) with
  accessFlags := 1537
  interfaces := #[]
  cf := some (fileOf pool4 2 #[] #[] 1537 4 #[] #[])
  fields := #[]
  methods := #[]
  instanceTypes := #[]
  staticTypes := #[]
  resolved := Array.replicate 8 none
  statics := none }

def pool5 : Array CpInfo := pool [(1, u "java/io/Serializable"), (0, .class_ 1), (0, u "java/lang/Object"), (0, .class_ 3)] 3

/-- java/io/Serializable -/
def k5 : Class := { plain "java/io/Serializable" (some 0) with
  accessFlags := 1537
  interfaces := #[]
  cf := some (fileOf pool5 2 #[] #[] 1537 4 #[] #[])
  fields := #[]
  methods := #[]
  instanceTypes := #[]
  staticTypes := #[]
  resolved := Array.replicate 8 none
  statics := none }

/-- the primitive byte -/
def k6 : Class := { plain "byte" none with kind := .primitive 'B', accessFlags := 0x411 }
/-- [B -/
def k7 : Class := { plain "[B" (some 0) with kind := .array 6 .byte, interfaces := #[4, 5], accessFlags := 1041 }

/-- the primitive int -/
def k8 : Class := { plain "int" none with kind := .primitive 'I', accessFlags := 0x411 }
/-- [I -/
def k9 : Class := { plain "[I" (some 0) with kind := .array 8 .int, interfaces := #[4, 5], accessFlags := 1041 }

def heap : Heap := #[]
def classes : Array Class := #[k0, k1, k2, k3, k4, k5, k6, k7, k8, k9]
def interned : List (Array UInt16 × Addr) := []
def slotsUsed : Nat := 0
def theMethod : MethodId := ⟨1, 1⟩
def args0 : Array Value := #[.int 5, .int 7, .int 1, .int 2, .int 3, .int 4]
def aboutOver (below : List Frame) : State where
  vm := { classes := classes, interned := interned.toArray }
  heap := heap
  slotsUsed := slotsUsed
  threads := #[{ frames := .invoking theMethod args0 :: below }]
def below0 : List Frame := [.native { method := ⟨0, 0⟩, args := #[] }]
def about1 : State := aboutOver below0
def p0 : Program := .bare "" "" ""
def e0 : Env := launch0.env 0 0 0
theorem w_frames : about1.frames = Frame.invoking theMethod args0 :: below0 := rfl
set_option maxRecDepth 65536 in
theorem w_args : argsFit about1.vm theMethod args0 = true := by decide +kernel
set_option maxRecDepth 65536 in
theorem w_heap : heapFits about1 = true := by decide +kernel
set_option maxRecDepth 65536 in
theorem w_runnable : about1.curStatus? = some .runnable := by decide +kernel
set_option maxRecDepth 65536 in
theorem w_alone : about1.alone = true := by decide +kernel
set_option maxRecDepth 65536 in
theorem w_named : about1.methodNamed? x = some theMethod := by decide +kernel
set_option maxRecDepth 65536 in
theorem w_hears : about1.hears theMethod below0 = true := by decide +kernel
set_option maxRecDepth 65536 in
theorem w_ripe : about1.ripe theMethod args0 below0 = true := by decide +kernel
theorem w_running : about1.status = .running := rfl
set_option maxRecDepth 65536 in
theorem w_room : about1.hasRoom e0.platform room_1 = true :=
  launch0.hasRoom_least _ room_1 (by decide +kernel) (by decide +kernel) (by decide +kernel) (by decide +kernel) (by decide +kernel) (by decide +kernel)
theorem allAtoms_all (ts : List Jvm.Cond) (a : Array Jvm.Value) (st : Jvm.State) : (allAtoms ts).before a st = ts.all (fun c => c.before a st) := by
  induction ts with
  | nil => rfl
  | cons c t ih =>
    show (Jvm.Cond.and c (allAtoms t)).before a st = _
    rw [Jvm.Cond.before_and, ih, List.all_cons]
def words1 : List Jvm.Cond := Jvm.Cond.code x code maxLocals ret :: tables_1
/-- a 'code' word, met by the world's own term for the bytes: nothing is compared byte by byte -/
theorem code_word {y : MethodName} {bytes : ByteArray} {mx : Nat} {rt : Option FieldType} {a : Array Value} {s : State} {m : MethodId} {meth : Method} {c : Code} (h1 : s.methodNamed? y = some m) (h2 : s.vm.method? m = some meth) (h3 : meth.code = some c) (h4 : c.code = bytes)
    (h5 : (c.maxLocals == mx && c.exceptionTable.isEmpty && decide (c.maxStack ≤ mostOperands) && decide (meth.sig.returnType = rt) && !meth.locks && decide (parseMethodDescriptor y.desc = some meth.sig)) = true) : (Jvm.Cond.code y bytes mx rt).before a s = true := by
  simp only [Bool.and_eq_true, beq_iff_eq, Bool.not_eq_true', decide_eq_true_eq] at h5
  obtain ⟨⟨⟨⟨⟨g1, g2⟩, g3⟩, g4⟩, g5⟩, g6⟩ := h5
  simp [Cond.before, Cond.holds, Cond.value, h1, h2, h3, h4, g1, g2, g3, g4, g5, g6]
def isCode : Jvm.Cond → Bool
  | .code _ _ _ _ => true
  | _ => false
theorem all_split {L : List Jvm.Cond} {P : Jvm.Cond → Bool} (h1 : L.all (fun c => isCode c || P c) = true) (h2 : ∀ c ∈ L.filter isCode, P c = true) : L.all P = true := by
  refine List.all_eq_true.mpr fun c hc => ?_
  have h := List.all_eq_true.mp h1 c hc
  rcases Bool.eq_false_or_eq_true (isCode c) with hi | hi
  · exact h2 c (List.mem_filter.mpr ⟨hc, hi⟩)
  · simpa [hi] using h
set_option maxRecDepth 65536 in
theorem w_c0 : (Jvm.Cond.code x code maxLocals ret).before args0 about1 = true := code_word (m := ⟨1, 1⟩) (meth := k1m1) (c := k1c1) (by decide +kernel) rfl rfl rfl (by decide +kernel)
set_option maxRecDepth 65536 in
theorem w_c1 : (Jvm.Cond.code ({ cls := "com/example/nudge/nudge/tree/BlockEntries", name := "<init>", desc := "()V" } : Jvm.MethodName) prog_17_method_1_code (1 : Nat) (Option.none : Option Jvm.ClassFile.FieldType)).before args0 about1 = true := code_word (m := ⟨2, 0⟩) (meth := k2m0) (c := k2c0) (by decide +kernel) rfl rfl rfl (by decide +kernel)
set_option maxRecDepth 65536 in
theorem w_c2 : (Jvm.Cond.code ({ cls := "java/lang/Object", name := "<init>", desc := "()V" } : Jvm.MethodName) object_method_1_code (1 : Nat) (Option.none : Option Jvm.ClassFile.FieldType)).before args0 about1 = true := code_word (m := ⟨0, 0⟩) (meth := k0m0) (c := k0c0) (by decide +kernel) rfl rfl rfl (by decide +kernel)
set_option maxRecDepth 65536 in
theorem w_c3 : (Jvm.Cond.code ({ cls := "com/example/nudge/nudge/tree/BlockEntries", name := "note", desc := "(II)V" } : Jvm.MethodName) prog_17_method_2_code (3 : Nat) (Option.none : Option Jvm.ClassFile.FieldType)).before args0 about1 = true := code_word (m := ⟨2, 1⟩) (meth := k2m1) (c := k2c1) (by decide +kernel) rfl rfl rfl (by decide +kernel)
set_option maxRecDepth 65536 in
theorem w_c4 : (Jvm.Cond.code ({ cls := "com/example/nudge/nudge/tree/BlockEntries", name := "lineBefore", desc := "(II)I" } : Jvm.MethodName) prog_17_method_3_code (6 : Nat) (Option.some Jvm.ClassFile.FieldType.int)).before args0 about1 = true := code_word (m := ⟨2, 2⟩) (meth := k2m2) (c := k2c2) (by decide +kernel) rfl rfl rfl (by decide +kernel)
set_option maxRecDepth 65536 in
theorem w_c5 : (Jvm.Cond.code ({ cls := "java/util/Arrays", name := "binarySearch", desc := "([IIII)I" } : Jvm.MethodName) jdk_65_method_58_code (4 : Nat) (Option.some Jvm.ClassFile.FieldType.int)).before args0 about1 = true := code_word (m := ⟨3, 2⟩) (meth := k3m2) (c := k3c2) (by decide +kernel) rfl rfl rfl (by decide +kernel)
set_option maxRecDepth 65536 in
theorem w_c6 : (Jvm.Cond.code ({ cls := "java/util/Arrays", name := "rangeCheck", desc := "(III)V" } : Jvm.MethodName) jdk_65_method_30_code (3 : Nat) (Option.none : Option Jvm.ClassFile.FieldType)).before args0 about1 = true := code_word (m := ⟨3, 1⟩) (meth := k3m1) (c := k3c1) (by decide +kernel) rfl rfl rfl (by decide +kernel)
set_option maxRecDepth 65536 in
theorem w_c7 : (Jvm.Cond.code ({ cls := "java/util/Arrays", name := "binarySearch0", desc := "([IIII)I" } : Jvm.MethodName) jdk_65_method_59_code (8 : Nat) (Option.some Jvm.ClassFile.FieldType.int)).before args0 about1 = true := code_word (m := ⟨3, 3⟩) (meth := k3m3) (c := k3c3) (by decide +kernel) rfl rfl rfl (by decide +kernel)
def codes1 : List Jvm.Cond := [Jvm.Cond.code x code maxLocals ret, Jvm.Cond.code ({ cls := "com/example/nudge/nudge/tree/BlockEntries", name := "<init>", desc := "()V" } : Jvm.MethodName) prog_17_method_1_code (1 : Nat) (Option.none : Option Jvm.ClassFile.FieldType), Jvm.Cond.code ({ cls := "java/lang/Object", name := "<init>", desc := "()V" } : Jvm.MethodName) object_method_1_code (1 : Nat) (Option.none : Option Jvm.ClassFile.FieldType), Jvm.Cond.code ({ cls := "com/example/nudge/nudge/tree/BlockEntries", name := "note", desc := "(II)V" } : Jvm.MethodName) prog_17_method_2_code (3 : Nat) (Option.none : Option Jvm.ClassFile.FieldType), Jvm.Cond.code ({ cls := "com/example/nudge/nudge/tree/BlockEntries", name := "lineBefore", desc := "(II)I" } : Jvm.MethodName) prog_17_method_3_code (6 : Nat) (Option.some Jvm.ClassFile.FieldType.int), Jvm.Cond.code ({ cls := "java/util/Arrays", name := "binarySearch", desc := "([IIII)I" } : Jvm.MethodName) jdk_65_method_58_code (4 : Nat) (Option.some Jvm.ClassFile.FieldType.int), Jvm.Cond.code ({ cls := "java/util/Arrays", name := "rangeCheck", desc := "(III)V" } : Jvm.MethodName) jdk_65_method_30_code (3 : Nat) (Option.none : Option Jvm.ClassFile.FieldType), Jvm.Cond.code ({ cls := "java/util/Arrays", name := "binarySearch0", desc := "([IIII)I" } : Jvm.MethodName) jdk_65_method_59_code (8 : Nat) (Option.some Jvm.ClassFile.FieldType.int)]
set_option maxRecDepth 65536 in
theorem codes_eq : words1.filter isCode = codes1 := rfl
theorem w_codes : ∀ c ∈ words1.filter isCode, c.before args0 about1 = true := by
  rw [codes_eq]
  intro c hc
  simp only [codes1, List.mem_cons, List.not_mem_nil, or_false] at hc
  rcases hc with rfl | rfl | rfl | rfl | rfl | rfl | rfl | rfl
  · exact w_c0
  · exact w_c1
  · exact w_c2
  · exact w_c3
  · exact w_c4
  · exact w_c5
  · exact w_c6
  · exact w_c7
set_option maxRecDepth 65536 in
theorem w_t1 : (words1.take 24).all (fun c => isCode c || c.before args0 about1) = true := by decide +kernel
set_option maxRecDepth 65536 in
theorem w_t2 : (words1.drop 24).all (fun c => isCode c || c.before args0 about1) = true := by decide +kernel
theorem w_tables : (allAtoms (Jvm.Cond.code x code maxLocals ret :: tables_1)).before args0 about1 = true := by
  rw [allAtoms_all]
  show words1.all (fun c => c.before args0 about1) = true
  refine all_split ?_ w_codes
  rw [← List.take_append_drop 24 words1, List.all_append, w_t1, w_t2]
  rfl
set_option maxRecDepth 65536 in
theorem w_case : (Jvm.Cond.and given_1 narrow_1).before args0 about1 = true := by decide +kernel
theorem w_applies : (headSpec (Jvm.Cond.code x code maxLocals ret :: tables_1) room_1).applies x e0.platform about1 = true :=
  (Spec.applies_iff w_frames).mpr ⟨w_running, w_runnable, w_alone, w_named, w_hears, w_ripe, w_room, w_tables⟩
theorem atStart : AtStart classFile x code maxLocals ret World_1 tables_1 room_1 Calls_1 rest_1 Pre_1 launch0 p0 e0 about1 theMethod args0 below0 :=
  ⟨lists_1, trivial, launch0.admits_env _ _ _, launch0.least_env, fairChoices_fair.cas, fairChoices_fair.clock, w_frames, w_args, w_heap, w_applies, trivial, trivial, w_case⟩
end start1
theorem witness_1 : WitnessClaimed_1 := ⟨start1.p0, start1.e0, start1.about1, start1.theMethod, start1.args0, start1.below0, start1.atStart⟩
end Jvm.Pilot.@@N@@
