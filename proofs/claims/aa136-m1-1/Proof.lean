import JvmDerived
import JvmDerived.Pilot.@@N@@Statement
import JvmDerived.Pilot.@@N@@Code
set_option linter.unusedVariables false
set_option linter.unusedSimpArgs false
namespace Jvm.RoadKit
open Sem ClassFile Op Lib Jvm.Stand Jvm.Free Jvm.LawKit
section New
variable {p : Program} {l : Launch} {e : Env} {R : Room} {s : State} {m : MethodId} {args : Array Value} {below : List Frame} {meth : Method} {c : Code} {T : State} {locs : List Loc} {cells slots : Nat}
theorem retI (X : Stand p l e R s m args below meth c T locs cells slots) (hx : p.tables.exec = Jvm.exec) {pc : Nat} {Ls : Array Slot} {z : Int32} {rest : List Value} (hret : meth.sig.returnType = some .int) (hd : decode c.code pc = .ok (.ireturn, 1)) {fs : List Frame}
    (hl : ∀ (f : JFrame) (acts : List Action), f.method = m → f.locked = none → f.entered = [] → (doReturn e (T.setTop f) acts (some (.int z))).1 = T.setFrames fs) : Steps p.tables e below (T.setTop (mkF m pc Ls (.int z :: rest))) (T.setFrames fs) := by
  have hm' : T.vm.method? m = some meth := X.method'
  have hn : narrow .int (.int z) = .int z := rfl
  show Steps p.tables e below (T.setTop { method := m, pc := pc, locals := Ls, stack := _ :: rest, locked := none }) _
  jvm_step X.here [X.here.top, hx, hd, hm', hret, hn]
  first | (intro acts; rw [hl _ acts rfl rfl rfl]) | rw [hl _ _ rfl rfl rfl]
  exact Steps.refl _
end New
theorem own_old_le {Z : State} {n0 : Nat} {h : Heap} (O : Old Z n0 h) : n0 ≤ h.size := O.1 ▸ O.2.1
theorem own_reb {s Z : State} {vm1 : Vm} {n : Nat} {own : String} {i : ClassId} (hZ : Z.Warmed39 s.vm) (hown : s.vm.findClass own = some i) (h2 : s.Since vm1 n) : Z.Warmed39 (s.setVm vm1).vm ∧ (s.setVm vm1).vm.findClass own = some i := ⟨State.Warmed39.trans hZ h2.1, (h2.1.alike.findClass _ _).trans hown⟩
theorem own_keep_eq {h0 h h' : Heap} {ws : List Addr} (K : Keep h0 h ws) (e : h' = h) : Keep h0 h' ws := e ▸ K
end Jvm.RoadKit
namespace Jvm.Pilot.@@N@@
open Jvm Jvm.ClassFile Sem Op Lib Jvm.Free Jvm.Stand Jvm.LawKit Jvm.RoadKit Bundle Jvm.Pilot.@@N@@.Jvm.D

theorem own_back (x y : Int64) : (x + y) + (-y) = x := by rw [Int64.add_assoc, Int64.add_right_neg, Int64.add_zero]
theorem w_0 {a0 : Array Value} {Z : State} (hw : ∀ d ∈ tables_1, d.before a0 Z = true) : (Jvm.Cond.classLink "com/example/shelfmark/shelfmark/ingest/FileReportPlusPinLaw" (8 : Nat) "com/example/shelfmark/shelfmark/ingest/FileReport").before a0 Z = true := hw _ (List.mem_of_getElem? (i := 0) rfl)
theorem w_1 {a0 : Array Value} {Z : State} (hw : ∀ d ∈ tables_1, d.before a0 Z = true) : (Jvm.Cond.instantiable "com/example/shelfmark/shelfmark/ingest/FileReport" (5 : Nat)).before a0 Z = true := hw _ (List.mem_of_getElem? (i := 1) rfl)
theorem w_2 {a0 : Array Value} {Z : State} (hw : ∀ d ∈ tables_1, d.before a0 Z = true) : (Jvm.Cond.initialized "com/example/shelfmark/shelfmark/ingest/FileReport").before a0 Z = true := hw _ (List.mem_of_getElem? (i := 2) rfl)
theorem w_3 {a0 : Array Value} {Z : State} (hw : ∀ d ∈ tables_1, d.before a0 Z = true) : (Jvm.Cond.methodLink "com/example/shelfmark/shelfmark/ingest/FileReportPlusPinLaw" (25 : Nat) ({ cls := "com/example/shelfmark/shelfmark/ingest/FileReport", name := "<init>", desc := "(JJJJJ)V" } : Jvm.MethodName)).before a0 Z = true := hw _ (List.mem_of_getElem? (i := 3) rfl)
theorem w_4 {a0 : Array Value} {Z : State} (hw : ∀ d ∈ tables_1, d.before a0 Z = true) : (Jvm.Cond.instanceMethod ({ cls := "com/example/shelfmark/shelfmark/ingest/FileReport", name := "<init>", desc := "(JJJJJ)V" } : Jvm.MethodName)).before a0 Z = true := hw _ (List.mem_of_getElem? (i := 4) rfl)
theorem w_5 {a0 : Array Value} {Z : State} (hw : ∀ d ∈ tables_1, d.before a0 Z = true) : (Jvm.Cond.code ({ cls := "com/example/shelfmark/shelfmark/ingest/FileReport", name := "<init>", desc := "(JJJJJ)V" } : Jvm.MethodName) prog_24_method_1_code (11 : Nat) (Option.none : Option Jvm.ClassFile.FieldType)).before a0 Z = true := hw _ (List.mem_of_getElem? (i := 5) rfl)
theorem w_6 {a0 : Array Value} {Z : State} (hw : ∀ d ∈ tables_1, d.before a0 Z = true) : (Jvm.Cond.methodLink "com/example/shelfmark/shelfmark/ingest/FileReport" (1 : Nat) ({ cls := "java/lang/Record", name := "<init>", desc := "()V" } : Jvm.MethodName)).before a0 Z = true := hw _ (List.mem_of_getElem? (i := 6) rfl)
theorem w_7 {a0 : Array Value} {Z : State} (hw : ∀ d ∈ tables_1, d.before a0 Z = true) : (Jvm.Cond.instanceMethod ({ cls := "java/lang/Record", name := "<init>", desc := "()V" } : Jvm.MethodName)).before a0 Z = true := hw _ (List.mem_of_getElem? (i := 7) rfl)
theorem w_9 {a0 : Array Value} {Z : State} (hw : ∀ d ∈ tables_1, d.before a0 Z = true) : (Jvm.Cond.initialized "java/lang/Record").before a0 Z = true := hw _ (List.mem_of_getElem? (i := 9) rfl)
theorem w_10 {a0 : Array Value} {Z : State} (hw : ∀ d ∈ tables_1, d.before a0 Z = true) : (Jvm.Cond.code ({ cls := "java/lang/Record", name := "<init>", desc := "()V" } : Jvm.MethodName) jdk_30_method_1_code (1 : Nat) (Option.none : Option Jvm.ClassFile.FieldType)).before a0 Z = true := hw _ (List.mem_of_getElem? (i := 10) rfl)
theorem w_11 {a0 : Array Value} {Z : State} (hw : ∀ d ∈ tables_1, d.before a0 Z = true) : (Jvm.Cond.methodLink "java/lang/Record" (1 : Nat) ({ cls := "java/lang/Object", name := "<init>", desc := "()V" } : Jvm.MethodName)).before a0 Z = true := hw _ (List.mem_of_getElem? (i := 11) rfl)
theorem w_12 {a0 : Array Value} {Z : State} (hw : ∀ d ∈ tables_1, d.before a0 Z = true) : (Jvm.Cond.instanceMethod ({ cls := "java/lang/Object", name := "<init>", desc := "()V" } : Jvm.MethodName)).before a0 Z = true := hw _ (List.mem_of_getElem? (i := 12) rfl)
theorem w_13 {a0 : Array Value} {Z : State} (hw : ∀ d ∈ tables_1, d.before a0 Z = true) : (Jvm.Cond.code ({ cls := "java/lang/Object", name := "<init>", desc := "()V" } : Jvm.MethodName) object_method_1_code (1 : Nat) (Option.none : Option Jvm.ClassFile.FieldType)).before a0 Z = true := hw _ (List.mem_of_getElem? (i := 13) rfl)
theorem w_14 {a0 : Array Value} {Z : State} (hw : ∀ d ∈ tables_1, d.before a0 Z = true) : (Jvm.Cond.fieldLink "com/example/shelfmark/shelfmark/ingest/FileReport" (7 : Nat) "com/example/shelfmark/shelfmark/ingest/FileReport" "read" "J").before a0 Z = true := hw _ (List.mem_of_getElem? (i := 14) rfl)
theorem w_15 {a0 : Array Value} {Z : State} (hw : ∀ d ∈ tables_1, d.before a0 Z = true) : (Jvm.Cond.laysFinal "com/example/shelfmark/shelfmark/ingest/FileReport" "com/example/shelfmark/shelfmark/ingest/FileReport" "read" "J").before a0 Z = true := hw _ (List.mem_of_getElem? (i := 15) rfl)
theorem w_16 {a0 : Array Value} {Z : State} (hw : ∀ d ∈ tables_1, d.before a0 Z = true) : (Jvm.Cond.fieldLink "com/example/shelfmark/shelfmark/ingest/FileReport" (13 : Nat) "com/example/shelfmark/shelfmark/ingest/FileReport" "added" "J").before a0 Z = true := hw _ (List.mem_of_getElem? (i := 16) rfl)
theorem w_17 {a0 : Array Value} {Z : State} (hw : ∀ d ∈ tables_1, d.before a0 Z = true) : (Jvm.Cond.laysFinal "com/example/shelfmark/shelfmark/ingest/FileReport" "com/example/shelfmark/shelfmark/ingest/FileReport" "added" "J").before a0 Z = true := hw _ (List.mem_of_getElem? (i := 17) rfl)
theorem w_18 {a0 : Array Value} {Z : State} (hw : ∀ d ∈ tables_1, d.before a0 Z = true) : (Jvm.Cond.fieldLink "com/example/shelfmark/shelfmark/ingest/FileReport" (16 : Nat) "com/example/shelfmark/shelfmark/ingest/FileReport" "updated" "J").before a0 Z = true := hw _ (List.mem_of_getElem? (i := 18) rfl)
theorem w_19 {a0 : Array Value} {Z : State} (hw : ∀ d ∈ tables_1, d.before a0 Z = true) : (Jvm.Cond.laysFinal "com/example/shelfmark/shelfmark/ingest/FileReport" "com/example/shelfmark/shelfmark/ingest/FileReport" "updated" "J").before a0 Z = true := hw _ (List.mem_of_getElem? (i := 19) rfl)
theorem w_20 {a0 : Array Value} {Z : State} (hw : ∀ d ∈ tables_1, d.before a0 Z = true) : (Jvm.Cond.fieldLink "com/example/shelfmark/shelfmark/ingest/FileReport" (19 : Nat) "com/example/shelfmark/shelfmark/ingest/FileReport" "deleted" "J").before a0 Z = true := hw _ (List.mem_of_getElem? (i := 20) rfl)
theorem w_21 {a0 : Array Value} {Z : State} (hw : ∀ d ∈ tables_1, d.before a0 Z = true) : (Jvm.Cond.laysFinal "com/example/shelfmark/shelfmark/ingest/FileReport" "com/example/shelfmark/shelfmark/ingest/FileReport" "deleted" "J").before a0 Z = true := hw _ (List.mem_of_getElem? (i := 21) rfl)
theorem w_22 {a0 : Array Value} {Z : State} (hw : ∀ d ∈ tables_1, d.before a0 Z = true) : (Jvm.Cond.fieldLink "com/example/shelfmark/shelfmark/ingest/FileReport" (22 : Nat) "com/example/shelfmark/shelfmark/ingest/FileReport" "rejected" "J").before a0 Z = true := hw _ (List.mem_of_getElem? (i := 22) rfl)
theorem w_23 {a0 : Array Value} {Z : State} (hw : ∀ d ∈ tables_1, d.before a0 Z = true) : (Jvm.Cond.laysFinal "com/example/shelfmark/shelfmark/ingest/FileReport" "com/example/shelfmark/shelfmark/ingest/FileReport" "rejected" "J").before a0 Z = true := hw _ (List.mem_of_getElem? (i := 23) rfl)
theorem w_24 {a0 : Array Value} {Z : State} (hw : ∀ d ∈ tables_1, d.before a0 Z = true) : (Jvm.Cond.fieldLink "com/example/shelfmark/shelfmark/ingest/FileReportPlusPinLaw" (28 : Nat) "com/example/shelfmark/shelfmark/ingest/FileReport" "NONE" "Lcom/example/shelfmark/shelfmark/ingest/FileReport;").before a0 Z = true := hw _ (List.mem_of_getElem? (i := 24) rfl)
theorem w_25 {a0 : Array Value} {Z : State} (hw : ∀ d ∈ tables_1, d.before a0 Z = true) : (Jvm.Cond.laysStatic "com/example/shelfmark/shelfmark/ingest/FileReport" "NONE" "Lcom/example/shelfmark/shelfmark/ingest/FileReport;").before a0 Z = true := hw _ (List.mem_of_getElem? (i := 25) rfl)
theorem w_26 {a0 : Array Value} {Z : State} (hw : ∀ d ∈ tables_1, d.before a0 Z = true) : (Jvm.Cond.methodLink "com/example/shelfmark/shelfmark/ingest/FileReportPlusPinLaw" (32 : Nat) ({ cls := "com/example/shelfmark/shelfmark/ingest/FileReport", name := "plus", desc := "(Lcom/example/shelfmark/shelfmark/ingest/FileReport;)Lcom/example/shelfmark/shelfmark/ingest/FileReport;" } : Jvm.MethodName)).before a0 Z = true := hw _ (List.mem_of_getElem? (i := 26) rfl)
theorem w_27 {a0 : Array Value} {Z : State} (hw : ∀ d ∈ tables_1, d.before a0 Z = true) : (Jvm.Cond.declares ({ cls := "com/example/shelfmark/shelfmark/ingest/FileReport", name := "plus", desc := "(Lcom/example/shelfmark/shelfmark/ingest/FileReport;)Lcom/example/shelfmark/shelfmark/ingest/FileReport;" } : Jvm.MethodName)).before a0 Z = true := hw _ (List.mem_of_getElem? (i := 27) rfl)
theorem w_28 {a0 : Array Value} {Z : State} (hw : ∀ d ∈ tables_1, d.before a0 Z = true) : (Jvm.Cond.instanceMethod ({ cls := "com/example/shelfmark/shelfmark/ingest/FileReport", name := "plus", desc := "(Lcom/example/shelfmark/shelfmark/ingest/FileReport;)Lcom/example/shelfmark/shelfmark/ingest/FileReport;" } : Jvm.MethodName)).before a0 Z = true := hw _ (List.mem_of_getElem? (i := 28) rfl)
theorem w_29 {a0 : Array Value} {Z : State} (hw : ∀ d ∈ tables_1, d.before a0 Z = true) : (Jvm.Cond.selects "com/example/shelfmark/shelfmark/ingest/FileReport" ({ cls := "com/example/shelfmark/shelfmark/ingest/FileReport", name := "plus", desc := "(Lcom/example/shelfmark/shelfmark/ingest/FileReport;)Lcom/example/shelfmark/shelfmark/ingest/FileReport;" } : Jvm.MethodName) ({ cls := "com/example/shelfmark/shelfmark/ingest/FileReport", name := "plus", desc := "(Lcom/example/shelfmark/shelfmark/ingest/FileReport;)Lcom/example/shelfmark/shelfmark/ingest/FileReport;" } : Jvm.MethodName)).before a0 Z = true := hw _ (List.mem_of_getElem? (i := 29) rfl)
theorem w_30 {a0 : Array Value} {Z : State} (hw : ∀ d ∈ tables_1, d.before a0 Z = true) : (Jvm.Cond.code ({ cls := "com/example/shelfmark/shelfmark/ingest/FileReport", name := "plus", desc := "(Lcom/example/shelfmark/shelfmark/ingest/FileReport;)Lcom/example/shelfmark/shelfmark/ingest/FileReport;" } : Jvm.MethodName) prog_24_method_2_code (2 : Nat) (Option.some (Jvm.ClassFile.FieldType.object "com/example/shelfmark/shelfmark/ingest/FileReport"))).before a0 Z = true := hw _ (List.mem_of_getElem? (i := 30) rfl)
theorem w_31 {a0 : Array Value} {Z : State} (hw : ∀ d ∈ tables_1, d.before a0 Z = true) : (Jvm.Cond.classLink "com/example/shelfmark/shelfmark/ingest/FileReport" (8 : Nat) "com/example/shelfmark/shelfmark/ingest/FileReport").before a0 Z = true := hw _ (List.mem_of_getElem? (i := 31) rfl)
theorem w_32 {a0 : Array Value} {Z : State} (hw : ∀ d ∈ tables_1, d.before a0 Z = true) : (Jvm.Cond.methodLink "com/example/shelfmark/shelfmark/ingest/FileReport" (25 : Nat) ({ cls := "com/example/shelfmark/shelfmark/ingest/FileReport", name := "<init>", desc := "(JJJJJ)V" } : Jvm.MethodName)).before a0 Z = true := hw _ (List.mem_of_getElem? (i := 32) rfl)
theorem w_33 {a0 : Array Value} {Z : State} (hw : ∀ d ∈ tables_1, d.before a0 Z = true) : (Jvm.Cond.methodLink "com/example/shelfmark/shelfmark/ingest/FileReportPlusPinLaw" (36 : Nat) ({ cls := "com/example/shelfmark/shelfmark/ingest/FileReportPlusPinLaw", name := "same", desc := "(Lcom/example/shelfmark/shelfmark/ingest/FileReport;Lcom/example/shelfmark/shelfmark/ingest/FileReport;)Z" } : Jvm.MethodName)).before a0 Z = true := hw _ (List.mem_of_getElem? (i := 33) rfl)
theorem w_34 {a0 : Array Value} {Z : State} (hw : ∀ d ∈ tables_1, d.before a0 Z = true) : (Jvm.Cond.static ({ cls := "com/example/shelfmark/shelfmark/ingest/FileReportPlusPinLaw", name := "same", desc := "(Lcom/example/shelfmark/shelfmark/ingest/FileReport;Lcom/example/shelfmark/shelfmark/ingest/FileReport;)Z" } : Jvm.MethodName)).before a0 Z = true := hw _ (List.mem_of_getElem? (i := 34) rfl)
theorem w_35 {a0 : Array Value} {Z : State} (hw : ∀ d ∈ tables_1, d.before a0 Z = true) : (Jvm.Cond.initialized "com/example/shelfmark/shelfmark/ingest/FileReportPlusPinLaw").before a0 Z = true := hw _ (List.mem_of_getElem? (i := 35) rfl)
theorem w_36 {a0 : Array Value} {Z : State} (hw : ∀ d ∈ tables_1, d.before a0 Z = true) : (Jvm.Cond.code ({ cls := "com/example/shelfmark/shelfmark/ingest/FileReportPlusPinLaw", name := "same", desc := "(Lcom/example/shelfmark/shelfmark/ingest/FileReport;Lcom/example/shelfmark/shelfmark/ingest/FileReport;)Z" } : Jvm.MethodName) method_2_code (2 : Nat) (Option.some Jvm.ClassFile.FieldType.boolean)).before a0 Z = true := hw _ (List.mem_of_getElem? (i := 36) rfl)
theorem w_37 {a0 : Array Value} {Z : State} (hw : ∀ d ∈ tables_1, d.before a0 Z = true) : (Jvm.Cond.methodLink "com/example/shelfmark/shelfmark/ingest/FileReportPlusPinLaw" (7 : Nat) ({ cls := "com/example/shelfmark/shelfmark/ingest/FileReport", name := "read", desc := "()J" } : Jvm.MethodName)).before a0 Z = true := hw _ (List.mem_of_getElem? (i := 37) rfl)
theorem w_38 {a0 : Array Value} {Z : State} (hw : ∀ d ∈ tables_1, d.before a0 Z = true) : (Jvm.Cond.declares ({ cls := "com/example/shelfmark/shelfmark/ingest/FileReport", name := "read", desc := "()J" } : Jvm.MethodName)).before a0 Z = true := hw _ (List.mem_of_getElem? (i := 38) rfl)
theorem w_39 {a0 : Array Value} {Z : State} (hw : ∀ d ∈ tables_1, d.before a0 Z = true) : (Jvm.Cond.instanceMethod ({ cls := "com/example/shelfmark/shelfmark/ingest/FileReport", name := "read", desc := "()J" } : Jvm.MethodName)).before a0 Z = true := hw _ (List.mem_of_getElem? (i := 39) rfl)
theorem w_40 {a0 : Array Value} {Z : State} (hw : ∀ d ∈ tables_1, d.before a0 Z = true) : (Jvm.Cond.selects "com/example/shelfmark/shelfmark/ingest/FileReport" ({ cls := "com/example/shelfmark/shelfmark/ingest/FileReport", name := "read", desc := "()J" } : Jvm.MethodName) ({ cls := "com/example/shelfmark/shelfmark/ingest/FileReport", name := "read", desc := "()J" } : Jvm.MethodName)).before a0 Z = true := hw _ (List.mem_of_getElem? (i := 40) rfl)
theorem w_41 {a0 : Array Value} {Z : State} (hw : ∀ d ∈ tables_1, d.before a0 Z = true) : (Jvm.Cond.code ({ cls := "com/example/shelfmark/shelfmark/ingest/FileReport", name := "read", desc := "()J" } : Jvm.MethodName) prog_24_method_7_code (1 : Nat) (Option.some Jvm.ClassFile.FieldType.long)).before a0 Z = true := hw _ (List.mem_of_getElem? (i := 41) rfl)
theorem w_42 {a0 : Array Value} {Z : State} (hw : ∀ d ∈ tables_1, d.before a0 Z = true) : (Jvm.Cond.methodLink "com/example/shelfmark/shelfmark/ingest/FileReportPlusPinLaw" (13 : Nat) ({ cls := "com/example/shelfmark/shelfmark/ingest/FileReport", name := "added", desc := "()J" } : Jvm.MethodName)).before a0 Z = true := hw _ (List.mem_of_getElem? (i := 42) rfl)
theorem w_43 {a0 : Array Value} {Z : State} (hw : ∀ d ∈ tables_1, d.before a0 Z = true) : (Jvm.Cond.declares ({ cls := "com/example/shelfmark/shelfmark/ingest/FileReport", name := "added", desc := "()J" } : Jvm.MethodName)).before a0 Z = true := hw _ (List.mem_of_getElem? (i := 43) rfl)
theorem w_44 {a0 : Array Value} {Z : State} (hw : ∀ d ∈ tables_1, d.before a0 Z = true) : (Jvm.Cond.instanceMethod ({ cls := "com/example/shelfmark/shelfmark/ingest/FileReport", name := "added", desc := "()J" } : Jvm.MethodName)).before a0 Z = true := hw _ (List.mem_of_getElem? (i := 44) rfl)
theorem w_45 {a0 : Array Value} {Z : State} (hw : ∀ d ∈ tables_1, d.before a0 Z = true) : (Jvm.Cond.selects "com/example/shelfmark/shelfmark/ingest/FileReport" ({ cls := "com/example/shelfmark/shelfmark/ingest/FileReport", name := "added", desc := "()J" } : Jvm.MethodName) ({ cls := "com/example/shelfmark/shelfmark/ingest/FileReport", name := "added", desc := "()J" } : Jvm.MethodName)).before a0 Z = true := hw _ (List.mem_of_getElem? (i := 45) rfl)
theorem w_46 {a0 : Array Value} {Z : State} (hw : ∀ d ∈ tables_1, d.before a0 Z = true) : (Jvm.Cond.code ({ cls := "com/example/shelfmark/shelfmark/ingest/FileReport", name := "added", desc := "()J" } : Jvm.MethodName) prog_24_method_8_code (1 : Nat) (Option.some Jvm.ClassFile.FieldType.long)).before a0 Z = true := hw _ (List.mem_of_getElem? (i := 46) rfl)
theorem w_47 {a0 : Array Value} {Z : State} (hw : ∀ d ∈ tables_1, d.before a0 Z = true) : (Jvm.Cond.methodLink "com/example/shelfmark/shelfmark/ingest/FileReportPlusPinLaw" (16 : Nat) ({ cls := "com/example/shelfmark/shelfmark/ingest/FileReport", name := "updated", desc := "()J" } : Jvm.MethodName)).before a0 Z = true := hw _ (List.mem_of_getElem? (i := 47) rfl)
theorem w_48 {a0 : Array Value} {Z : State} (hw : ∀ d ∈ tables_1, d.before a0 Z = true) : (Jvm.Cond.declares ({ cls := "com/example/shelfmark/shelfmark/ingest/FileReport", name := "updated", desc := "()J" } : Jvm.MethodName)).before a0 Z = true := hw _ (List.mem_of_getElem? (i := 48) rfl)
theorem w_49 {a0 : Array Value} {Z : State} (hw : ∀ d ∈ tables_1, d.before a0 Z = true) : (Jvm.Cond.instanceMethod ({ cls := "com/example/shelfmark/shelfmark/ingest/FileReport", name := "updated", desc := "()J" } : Jvm.MethodName)).before a0 Z = true := hw _ (List.mem_of_getElem? (i := 49) rfl)
theorem w_50 {a0 : Array Value} {Z : State} (hw : ∀ d ∈ tables_1, d.before a0 Z = true) : (Jvm.Cond.selects "com/example/shelfmark/shelfmark/ingest/FileReport" ({ cls := "com/example/shelfmark/shelfmark/ingest/FileReport", name := "updated", desc := "()J" } : Jvm.MethodName) ({ cls := "com/example/shelfmark/shelfmark/ingest/FileReport", name := "updated", desc := "()J" } : Jvm.MethodName)).before a0 Z = true := hw _ (List.mem_of_getElem? (i := 50) rfl)
theorem w_51 {a0 : Array Value} {Z : State} (hw : ∀ d ∈ tables_1, d.before a0 Z = true) : (Jvm.Cond.code ({ cls := "com/example/shelfmark/shelfmark/ingest/FileReport", name := "updated", desc := "()J" } : Jvm.MethodName) prog_24_method_9_code (1 : Nat) (Option.some Jvm.ClassFile.FieldType.long)).before a0 Z = true := hw _ (List.mem_of_getElem? (i := 51) rfl)
theorem w_52 {a0 : Array Value} {Z : State} (hw : ∀ d ∈ tables_1, d.before a0 Z = true) : (Jvm.Cond.methodLink "com/example/shelfmark/shelfmark/ingest/FileReportPlusPinLaw" (19 : Nat) ({ cls := "com/example/shelfmark/shelfmark/ingest/FileReport", name := "deleted", desc := "()J" } : Jvm.MethodName)).before a0 Z = true := hw _ (List.mem_of_getElem? (i := 52) rfl)
theorem w_53 {a0 : Array Value} {Z : State} (hw : ∀ d ∈ tables_1, d.before a0 Z = true) : (Jvm.Cond.declares ({ cls := "com/example/shelfmark/shelfmark/ingest/FileReport", name := "deleted", desc := "()J" } : Jvm.MethodName)).before a0 Z = true := hw _ (List.mem_of_getElem? (i := 53) rfl)
theorem w_54 {a0 : Array Value} {Z : State} (hw : ∀ d ∈ tables_1, d.before a0 Z = true) : (Jvm.Cond.instanceMethod ({ cls := "com/example/shelfmark/shelfmark/ingest/FileReport", name := "deleted", desc := "()J" } : Jvm.MethodName)).before a0 Z = true := hw _ (List.mem_of_getElem? (i := 54) rfl)
theorem w_55 {a0 : Array Value} {Z : State} (hw : ∀ d ∈ tables_1, d.before a0 Z = true) : (Jvm.Cond.selects "com/example/shelfmark/shelfmark/ingest/FileReport" ({ cls := "com/example/shelfmark/shelfmark/ingest/FileReport", name := "deleted", desc := "()J" } : Jvm.MethodName) ({ cls := "com/example/shelfmark/shelfmark/ingest/FileReport", name := "deleted", desc := "()J" } : Jvm.MethodName)).before a0 Z = true := hw _ (List.mem_of_getElem? (i := 55) rfl)
theorem w_56 {a0 : Array Value} {Z : State} (hw : ∀ d ∈ tables_1, d.before a0 Z = true) : (Jvm.Cond.code ({ cls := "com/example/shelfmark/shelfmark/ingest/FileReport", name := "deleted", desc := "()J" } : Jvm.MethodName) prog_24_method_10_code (1 : Nat) (Option.some Jvm.ClassFile.FieldType.long)).before a0 Z = true := hw _ (List.mem_of_getElem? (i := 56) rfl)
theorem w_57 {a0 : Array Value} {Z : State} (hw : ∀ d ∈ tables_1, d.before a0 Z = true) : (Jvm.Cond.methodLink "com/example/shelfmark/shelfmark/ingest/FileReportPlusPinLaw" (22 : Nat) ({ cls := "com/example/shelfmark/shelfmark/ingest/FileReport", name := "rejected", desc := "()J" } : Jvm.MethodName)).before a0 Z = true := hw _ (List.mem_of_getElem? (i := 57) rfl)
theorem w_58 {a0 : Array Value} {Z : State} (hw : ∀ d ∈ tables_1, d.before a0 Z = true) : (Jvm.Cond.declares ({ cls := "com/example/shelfmark/shelfmark/ingest/FileReport", name := "rejected", desc := "()J" } : Jvm.MethodName)).before a0 Z = true := hw _ (List.mem_of_getElem? (i := 58) rfl)
theorem w_59 {a0 : Array Value} {Z : State} (hw : ∀ d ∈ tables_1, d.before a0 Z = true) : (Jvm.Cond.instanceMethod ({ cls := "com/example/shelfmark/shelfmark/ingest/FileReport", name := "rejected", desc := "()J" } : Jvm.MethodName)).before a0 Z = true := hw _ (List.mem_of_getElem? (i := 59) rfl)
theorem w_60 {a0 : Array Value} {Z : State} (hw : ∀ d ∈ tables_1, d.before a0 Z = true) : (Jvm.Cond.selects "com/example/shelfmark/shelfmark/ingest/FileReport" ({ cls := "com/example/shelfmark/shelfmark/ingest/FileReport", name := "rejected", desc := "()J" } : Jvm.MethodName) ({ cls := "com/example/shelfmark/shelfmark/ingest/FileReport", name := "rejected", desc := "()J" } : Jvm.MethodName)).before a0 Z = true := hw _ (List.mem_of_getElem? (i := 60) rfl)
theorem w_61 {a0 : Array Value} {Z : State} (hw : ∀ d ∈ tables_1, d.before a0 Z = true) : (Jvm.Cond.code ({ cls := "com/example/shelfmark/shelfmark/ingest/FileReport", name := "rejected", desc := "()J" } : Jvm.MethodName) prog_24_method_11_code (1 : Nat) (Option.some Jvm.ClassFile.FieldType.long)).before a0 Z = true := hw _ (List.mem_of_getElem? (i := 61) rfl)
theorem d2_0 : decode jdk_30_method_1_code 0 = .ok (.aload_n 0, 1) := by decide +kernel
theorem d2_1 : decode jdk_30_method_1_code 1 = .ok (.invokespecial 1, 3) := by decide +kernel
theorem d2_4 : decode jdk_30_method_1_code 4 = .ok (.return_, 1) := by decide +kernel
def Q_recInit (Z : State) (a : Addr) (h0 : Heap) (n0 : Nat) (v : Option Value) (h : Heap) (L : List Loc) : Prop := v = none ∧ Fr n0 L ∧ Keep h0 h []
theorem pn_java_lang_Record : plainName "java/lang/Record" = true := by first | (simp [plainName, overriddenIn]; done) | decide +kernel
theorem ef_rm_recInit (m : MethodId) (x0 : Addr) : entryFrame m #[(.ref x0)] 1 = mkF m 0 #[.val (.ref x0)] [] := by first | (simp [entryFrame, mkF, argsToLocals, Value.category]; done) | rfl
set_option maxRecDepth 65536 in
set_option maxHeartbeats 40000000 in
theorem rm_recInit (l : Launch) (Z : State) (a0 : Array Value) (hw : ∀ d ∈ tables_1, d.before a0 Z = true) (ws : List Jvm.Cond) (a : Addr) (h0 : Heap) (n0 : Nat) (O0 : Old Z n0 h0) :
    MetFree l (⟨"java/lang/Record", "<init>", "()V"⟩ : MethodName) (head1 (Jvm.Cond.code (⟨"java/lang/Record", "<init>", "()V"⟩ : MethodName) jdk_30_method_1_code 1 none :: ws) ({ frames := 1, cells := 0, slots := 0, locals := 12 } : Room)) (fun as' U => as' = #[(.ref a)] ∧ Z.Warmed39 U.vm ∧ U.heap = h0) (fun _ _ _ _ _ => True) (fun _ U o U' => ∃ v L, o = .returned v ∧ Q_recInit Z a h0 n0 v U'.heap L ∧ FrameEnd U o U' L ({ frames := 1, cells := 0, slots := 0, locals := 12 } : Room).cells ({ frames := 1, cells := 0, slots := 0, locals := 12 } : Room).slots) := by
  refine MetFree.of_bodySF (plainFor_of_name pn_java_lang_Record) hisR ?_
  intro p e s m args below meth c s₁ Bd hml0 hP hK
  obtain ⟨rfl, hZ, hh⟩ := hP
  have hx := Bd.exec
  have hby := Bd.bytes
  have hml : c.maxLocals = 1 := hml0
  have hown : s.vm.findClass "java/lang/Record" = some m.cls := findClass_of_methodNamed Bd.named
  have hnm := (name_of_methodNamed Bd.named Bd.method).1
  have X0 : Stand p l e ({ frames := 1, cells := 0, slots := 0, locals := 12 } : Room) s m #[(.ref a)] below meth c s₁ [] 0 0 := Stand.of_body Bd
  have e0 : s₁.heap = h0 := by rw [← hh, Bd.state]; rfl
  have N0 := Fr.nil n0
  have K0 : Keep h0 h0 [] := Keep.refl _ _
  have pre0 : ∀ t, Steps p.tables e below (s₁.setTop (mkF m 0 #[.val (.ref a)] [])) t → Steps p.tables e below (s₁.setTop (entryFrame m #[(.ref a)] 1)) t := fun t k => castTop (ef_rm_recInit m a) k
  obtain ⟨T1, X1, e1, st1⟩ := initO X0 hx hZ hown (w_11 hw) (w_12 hw) (w_13 hw) e0 (g := (mkF m 1 #[.val (.ref a)] [(.ref a)])) rfl (by rw [hml]; rfl) rfl (hb hby d2_1) (by decide) (W := 0) (by show 2 * 0 + _ ≤ _; exact Nat.le_of_eq rfl) (by decide)
  obtain ⟨fs, hr, hrun, hended, hW, hsame⟩ := X1.leave (v := none) (fun _ => rfl)
  refine ⟨_, _, pre0 _ ?_, hrun, hended, _, _, rfl, ?_, ⟨_, rfl⟩, hW, hsame.mono (by decide) (by decide)⟩
  · show Steps p.tables e below (s₁.setTop (mkF m 0 #[.val (.ref a)] [])) _
    refine XS.aloadN X0.here hx rfl (hb hby d2_0) rfl rfl ?_
    show Steps p.tables e below (s₁.setTop (mkF m 1 #[.val (.ref a)] [(.ref a)])) _
    refine st1 _ ?_
    show Steps p.tables e below (T1.setTop (mkF m 4 #[.val (.ref a)] [])) _
    exact X1.returnOut hx Bd.returns (hb hby d2_4) hr
  · show Q_recInit Z a h0 n0 _ T1.heap _
    rw [e1]
    exact ⟨rfl, N0, K0⟩
theorem d1_0 : decode prog_24_method_1_code 0 = .ok (.aload_n 0, 1) := by decide +kernel
theorem pd_0 : parseMethodDescriptor "()V" = some ⟨[], none⟩ := by decide +kernel
theorem d1_1 : decode prog_24_method_1_code 1 = .ok (.invokespecial 1, 3) := by decide +kernel
theorem d1_4 : decode prog_24_method_1_code 4 = .ok (.aload_n 0, 1) := by decide +kernel
theorem d1_5 : decode prog_24_method_1_code 5 = .ok (.lload_n 1, 1) := by decide +kernel
theorem d1_6 : decode prog_24_method_1_code 6 = .ok (.putfield 7, 3) := by decide +kernel
theorem d1_9 : decode prog_24_method_1_code 9 = .ok (.aload_n 0, 1) := by decide +kernel
theorem d1_10 : decode prog_24_method_1_code 10 = .ok (.lload_n 3, 1) := by decide +kernel
theorem d1_11 : decode prog_24_method_1_code 11 = .ok (.putfield 13, 3) := by decide +kernel
theorem d1_14 : decode prog_24_method_1_code 14 = .ok (.aload_n 0, 1) := by decide +kernel
theorem d1_15 : decode prog_24_method_1_code 15 = .ok (.lload 5, 2) := by decide +kernel
theorem d1_17 : decode prog_24_method_1_code 17 = .ok (.putfield 16, 3) := by decide +kernel
theorem d1_20 : decode prog_24_method_1_code 20 = .ok (.aload_n 0, 1) := by decide +kernel
theorem d1_21 : decode prog_24_method_1_code 21 = .ok (.lload 7, 2) := by decide +kernel
theorem d1_23 : decode prog_24_method_1_code 23 = .ok (.putfield 19, 3) := by decide +kernel
theorem d1_26 : decode prog_24_method_1_code 26 = .ok (.aload_n 0, 1) := by decide +kernel
theorem d1_27 : decode prog_24_method_1_code 27 = .ok (.lload 9, 2) := by decide +kernel
theorem d1_29 : decode prog_24_method_1_code 29 = .ok (.putfield 22, 3) := by decide +kernel
theorem d1_32 : decode prog_24_method_1_code 32 = .ok (.return_, 1) := by decide +kernel
def Q_init (Z : State) (a : Addr) (q0 : Int64) (q1 : Int64) (q2 : Int64) (q3 : Int64) (q4 : Int64) (h0 : Heap) (n0 : Nat) (v : Option Value) (h : Heap) (L : List Loc) : Prop := v = none ∧ Fr n0 L ∧ Keep h0 h [a] ∧ (Exa Z h a "com/example/shelfmark/shelfmark/ingest/FileReport") ∧ (Fld Z h a "com/example/shelfmark/shelfmark/ingest/FileReport" "read" "J" (.long q0)) ∧ (Fld Z h a "com/example/shelfmark/shelfmark/ingest/FileReport" "added" "J" (.long q1)) ∧ (Fld Z h a "com/example/shelfmark/shelfmark/ingest/FileReport" "updated" "J" (.long q2)) ∧ (Fld Z h a "com/example/shelfmark/shelfmark/ingest/FileReport" "deleted" "J" (.long q3)) ∧ (Fld Z h a "com/example/shelfmark/shelfmark/ingest/FileReport" "rejected" "J" (.long q4))
theorem pn_com_example_shelfmark_shelfmark_ingest_FileReport : plainName "com/example/shelfmark/shelfmark/ingest/FileReport" = true := by first | (simp [plainName, overriddenIn]; done) | decide +kernel
theorem ef_rm_init (m : MethodId) (x0 : Addr) (x1 : Int64) (x2 : Int64) (x3 : Int64) (x4 : Int64) (x5 : Int64) : entryFrame m #[(.ref x0), (.long x1), (.long x2), (.long x3), (.long x4), (.long x5)] 11 = mkF m 0 #[.val (.ref x0), .val (.long x1), .second, .val (.long x2), .second, .val (.long x3), .second, .val (.long x4), .second, .val (.long x5), .second] [] := by first | (simp [entryFrame, mkF, argsToLocals, Value.category]; done) | rfl
set_option maxRecDepth 65536 in
set_option maxHeartbeats 40000000 in
theorem rm_init (l : Launch) (Z : State) (a0 : Array Value) (hw : ∀ d ∈ tables_1, d.before a0 Z = true) (ws : List Jvm.Cond) (a : Addr) (q0 : Int64) (q1 : Int64) (q2 : Int64) (q3 : Int64) (q4 : Int64) (h0 : Heap) (n0 : Nat) (O0 : Old Z n0 h0) (E_a : Exa Z h0 a "com/example/shelfmark/shelfmark/ingest/FileReport") (F0 : Fld Z h0 a "com/example/shelfmark/shelfmark/ingest/FileReport" "read" "J" (.long (0 : Int64))) (F1 : Fld Z h0 a "com/example/shelfmark/shelfmark/ingest/FileReport" "added" "J" (.long (0 : Int64))) (F2 : Fld Z h0 a "com/example/shelfmark/shelfmark/ingest/FileReport" "updated" "J" (.long (0 : Int64))) (F3 : Fld Z h0 a "com/example/shelfmark/shelfmark/ingest/FileReport" "deleted" "J" (.long (0 : Int64))) (F4 : Fld Z h0 a "com/example/shelfmark/shelfmark/ingest/FileReport" "rejected" "J" (.long (0 : Int64))) (g_a : n0 ≤ a) :
    MetFree l (⟨"com/example/shelfmark/shelfmark/ingest/FileReport", "<init>", "(JJJJJ)V"⟩ : MethodName) (head1 (Jvm.Cond.code (⟨"com/example/shelfmark/shelfmark/ingest/FileReport", "<init>", "(JJJJJ)V"⟩ : MethodName) prog_24_method_1_code 11 none :: ws) ({ frames := 2, cells := 0, slots := 0, locals := 24 } : Room)) (fun as' U => as' = #[(.ref a), (.long q0), (.long q1), (.long q2), (.long q3), (.long q4)] ∧ Z.Warmed39 U.vm ∧ U.heap = h0) (fun _ _ _ _ _ => True) (fun _ U o U' => ∃ v L, o = .returned v ∧ Q_init Z a q0 q1 q2 q3 q4 h0 n0 v U'.heap L ∧ FrameEnd U o U' L ({ frames := 2, cells := 0, slots := 0, locals := 24 } : Room).cells ({ frames := 2, cells := 0, slots := 0, locals := 24 } : Room).slots) := by
  refine MetFree.of_bodySF (plainFor_of_name pn_com_example_shelfmark_shelfmark_ingest_FileReport) hisR ?_
  intro p e s m args below meth c s₁ Bd hml0 hP hK
  obtain ⟨rfl, hZ, hh⟩ := hP
  have hx := Bd.exec
  have hby := Bd.bytes
  have hml : c.maxLocals = 11 := hml0
  have hown : s.vm.findClass "com/example/shelfmark/shelfmark/ingest/FileReport" = some m.cls := findClass_of_methodNamed Bd.named
  have hnm := (name_of_methodNamed Bd.named Bd.method).1
  have X0 : Stand p l e ({ frames := 2, cells := 0, slots := 0, locals := 24 } : Room) s m #[(.ref a), (.long q0), (.long q1), (.long q2), (.long q3), (.long q4)] below meth c s₁ [] 0 0 := Stand.of_body Bd
  have e0 : s₁.heap = h0 := by rw [← hh, Bd.state]; rfl
  have N0 := Fr.nil n0
  have K0 : Keep h0 h0 [a] := Keep.refl _ _
  have pre0 : ∀ t, Steps p.tables e below (s₁.setTop (mkF m 0 #[.val (.ref a), .val (.long q0), .second, .val (.long q1), .second, .val (.long q2), .second, .val (.long q3), .second, .val (.long q4), .second] [])) t → Steps p.tables e below (s₁.setTop (entryFrame m #[(.ref a), (.long q0), (.long q1), (.long q2), (.long q3), (.long q4)] 11)) t := fun t k => castTop (ef_rm_init m a q0 q1 q2 q3 q4) k
  obtain ⟨_, _, ⟨T1, Lo1, kk1, nn1⟩, -, X1, ⟨Lc1, hQ1, ll1, yy1, zz1⟩, st1⟩ := X0.specialBack hx (y := (⟨"java/lang/Record", "<init>", "()V"⟩ : MethodName)) rfl hown (mvT hZ (w_6 hw)) (mvT hZ (w_7 hw)) (mvT hZ (w_10 hw)) (by decide) (backOf (W := 0) (rm_recInit l Z a0 hw [] a h0 n0 O0 ) hZ (w_10 hw) (w_9 hw) (by decide) (by decide)) (g := (mkF m 1 #[.val (.ref a), .val (.long q0), .second, .val (.long q1), .second, .val (.long q2), .second, .val (.long q3), .second, .val (.long q4), .second] [(.ref a)])) rfl (by rw [hml]; rfl) (Steps.refl _) (a := a) (argsL := []) (rest := []) (lenOf pd_0 rfl) rfl (by show 2 * 0 + _ ≤ _; exact Nat.le_of_eq rfl) (hb hby d1_1) (fun _ _ => ⟨rfl, e0, (by decide : 0 + 0 ≤ _), (by decide : 0 + 0 ≤ _)⟩)
  dsimp only [Pt.U, Pt.locs, Pt.cells, Pt.slots] at X1 ll1 yy1 zz1 st1 hQ1
  subst ll1 yy1 zz1
  obtain ⟨rfl, N1q, K1q⟩ := hQ1
  have N1 := Fr.app N0 N1q
  have f1 : Keep h0 T1.heap [a] := K0.trans K1q all0
  have f2 : Old Z n0 T1.heap := O0.keep K1q all0
  have f3 : Fld Z T1.heap a "com/example/shelfmark/shelfmark/ingest/FileReport" "read" "J" (.long (0 : Int64)) := F0.keep K1q nin0
  have f4 : Exa Z T1.heap a "com/example/shelfmark/shelfmark/ingest/FileReport" := E_a.keep K1q
  obtain ⟨T6, h6, X6, e6, Wr6, st6⟩ := putF X1 hx hZ hown (host := "") (Or.inl (w_14 hw)) Via.refl rfl f3 f4 (Or.inr ⟨(w_15 hw), rfl, hnm⟩) (w_1 hw) (ty := .long) (by decide) rfl rfl (g := (mkF m 6 #[.val (.ref a), .val (.long q0), .second, .val (.long q1), .second, .val (.long q2), .second, .val (.long q3), .second, .val (.long q4), .second] [(.long q0), (.ref a)])) rfl rfl (hb hby d1_6)
  have f5 : Keep h0 h6 [a] := f1.wr Wr6 (Or.inl (List.mem_of_getElem? (i := 0) rfl))
  have f6 : Old Z n0 h6 := f2.wr Wr6 g_a
  have f7 : Fld Z h6 a "com/example/shelfmark/shelfmark/ingest/FileReport" "read" "J" (.long q0) := f3.same Wr6
  have N6 := Fr.snoc X6 N1 g_a
  have f8 : Fld Z T1.heap a "com/example/shelfmark/shelfmark/ingest/FileReport" "added" "J" (.long (0 : Int64)) := F1.keep K1q nin0
  have f9 : Fld Z h6 a "com/example/shelfmark/shelfmark/ingest/FileReport" "added" "J" (.long (0 : Int64)) := f8.other Wr6 (Or.inr (slot_ne (Or.inr (w_17 hw)) (Or.inr (w_15 hw)) (by decide) (t := .long) (t' := .long) (by decide) (by decide)))
  have f10 : Exa Z h6 a "com/example/shelfmark/shelfmark/ingest/FileReport" := f4.wr Wr6
  obtain ⟨T11, h11, X11, e11, Wr11, st11⟩ := putF X6 hx hZ hown (host := "") (Or.inl (w_16 hw)) Via.refl e6 f9 f10 (Or.inr ⟨(w_17 hw), rfl, hnm⟩) (w_1 hw) (ty := .long) (by decide) rfl rfl (g := (mkF m 11 #[.val (.ref a), .val (.long q0), .second, .val (.long q1), .second, .val (.long q2), .second, .val (.long q3), .second, .val (.long q4), .second] [(.long q1), (.ref a)])) rfl rfl (hb hby d1_11)
  have f11 : Keep h0 h11 [a] := f5.wr Wr11 (Or.inl (List.mem_of_getElem? (i := 0) rfl))
  have f12 : Old Z n0 h11 := f6.wr Wr11 g_a
  have f13 : Fld Z h11 a "com/example/shelfmark/shelfmark/ingest/FileReport" "added" "J" (.long q1) := f9.same Wr11
  have N11 := Fr.snoc X11 N6 g_a
  have f14 : Fld Z T1.heap a "com/example/shelfmark/shelfmark/ingest/FileReport" "updated" "J" (.long (0 : Int64)) := F2.keep K1q nin0
  have f15 : Fld Z h6 a "com/example/shelfmark/shelfmark/ingest/FileReport" "updated" "J" (.long (0 : Int64)) := f14.other Wr6 (Or.inr (slot_ne (Or.inr (w_19 hw)) (Or.inr (w_15 hw)) (by decide) (t := .long) (t' := .long) (by decide) (by decide)))
  have f16 : Fld Z h11 a "com/example/shelfmark/shelfmark/ingest/FileReport" "updated" "J" (.long (0 : Int64)) := f15.other Wr11 (Or.inr (slot_ne (Or.inr (w_19 hw)) (Or.inr (w_17 hw)) (by decide) (t := .long) (t' := .long) (by decide) (by decide)))
  have f17 : Exa Z h11 a "com/example/shelfmark/shelfmark/ingest/FileReport" := f10.wr Wr11
  obtain ⟨T17, h17, X17, e17, Wr17, st17⟩ := putF X11 hx hZ hown (host := "") (Or.inl (w_18 hw)) Via.refl e11 f16 f17 (Or.inr ⟨(w_19 hw), rfl, hnm⟩) (w_1 hw) (ty := .long) (by decide) rfl rfl (g := (mkF m 17 #[.val (.ref a), .val (.long q0), .second, .val (.long q1), .second, .val (.long q2), .second, .val (.long q3), .second, .val (.long q4), .second] [(.long q2), (.ref a)])) rfl rfl (hb hby d1_17)
  have f18 : Keep h0 h17 [a] := f11.wr Wr17 (Or.inl (List.mem_of_getElem? (i := 0) rfl))
  have f19 : Old Z n0 h17 := f12.wr Wr17 g_a
  have f20 : Fld Z h17 a "com/example/shelfmark/shelfmark/ingest/FileReport" "updated" "J" (.long q2) := f16.same Wr17
  have N17 := Fr.snoc X17 N11 g_a
  have f21 : Fld Z T1.heap a "com/example/shelfmark/shelfmark/ingest/FileReport" "deleted" "J" (.long (0 : Int64)) := F3.keep K1q nin0
  have f22 : Fld Z h6 a "com/example/shelfmark/shelfmark/ingest/FileReport" "deleted" "J" (.long (0 : Int64)) := f21.other Wr6 (Or.inr (slot_ne (Or.inr (w_21 hw)) (Or.inr (w_15 hw)) (by decide) (t := .long) (t' := .long) (by decide) (by decide)))
  have f23 : Fld Z h11 a "com/example/shelfmark/shelfmark/ingest/FileReport" "deleted" "J" (.long (0 : Int64)) := f22.other Wr11 (Or.inr (slot_ne (Or.inr (w_21 hw)) (Or.inr (w_17 hw)) (by decide) (t := .long) (t' := .long) (by decide) (by decide)))
  have f24 : Fld Z h17 a "com/example/shelfmark/shelfmark/ingest/FileReport" "deleted" "J" (.long (0 : Int64)) := f23.other Wr17 (Or.inr (slot_ne (Or.inr (w_21 hw)) (Or.inr (w_19 hw)) (by decide) (t := .long) (t' := .long) (by decide) (by decide)))
  have f25 : Exa Z h17 a "com/example/shelfmark/shelfmark/ingest/FileReport" := f17.wr Wr17
  obtain ⟨T23, h23, X23, e23, Wr23, st23⟩ := putF X17 hx hZ hown (host := "") (Or.inl (w_20 hw)) Via.refl e17 f24 f25 (Or.inr ⟨(w_21 hw), rfl, hnm⟩) (w_1 hw) (ty := .long) (by decide) rfl rfl (g := (mkF m 23 #[.val (.ref a), .val (.long q0), .second, .val (.long q1), .second, .val (.long q2), .second, .val (.long q3), .second, .val (.long q4), .second] [(.long q3), (.ref a)])) rfl rfl (hb hby d1_23)
  have f26 : Keep h0 h23 [a] := f18.wr Wr23 (Or.inl (List.mem_of_getElem? (i := 0) rfl))
  have f27 : Old Z n0 h23 := f19.wr Wr23 g_a
  have f28 : Fld Z h23 a "com/example/shelfmark/shelfmark/ingest/FileReport" "deleted" "J" (.long q3) := f24.same Wr23
  have N23 := Fr.snoc X23 N17 g_a
  have f29 : Fld Z T1.heap a "com/example/shelfmark/shelfmark/ingest/FileReport" "rejected" "J" (.long (0 : Int64)) := F4.keep K1q nin0
  have f30 : Fld Z h6 a "com/example/shelfmark/shelfmark/ingest/FileReport" "rejected" "J" (.long (0 : Int64)) := f29.other Wr6 (Or.inr (slot_ne (Or.inr (w_23 hw)) (Or.inr (w_15 hw)) (by decide) (t := .long) (t' := .long) (by decide) (by decide)))
  have f31 : Fld Z h11 a "com/example/shelfmark/shelfmark/ingest/FileReport" "rejected" "J" (.long (0 : Int64)) := f30.other Wr11 (Or.inr (slot_ne (Or.inr (w_23 hw)) (Or.inr (w_17 hw)) (by decide) (t := .long) (t' := .long) (by decide) (by decide)))
  have f32 : Fld Z h17 a "com/example/shelfmark/shelfmark/ingest/FileReport" "rejected" "J" (.long (0 : Int64)) := f31.other Wr17 (Or.inr (slot_ne (Or.inr (w_23 hw)) (Or.inr (w_19 hw)) (by decide) (t := .long) (t' := .long) (by decide) (by decide)))
  have f33 : Fld Z h23 a "com/example/shelfmark/shelfmark/ingest/FileReport" "rejected" "J" (.long (0 : Int64)) := f32.other Wr23 (Or.inr (slot_ne (Or.inr (w_23 hw)) (Or.inr (w_21 hw)) (by decide) (t := .long) (t' := .long) (by decide) (by decide)))
  have f34 : Exa Z h23 a "com/example/shelfmark/shelfmark/ingest/FileReport" := f25.wr Wr23
  obtain ⟨T29, h29, X29, e29, Wr29, st29⟩ := putF X23 hx hZ hown (host := "") (Or.inl (w_22 hw)) Via.refl e23 f33 f34 (Or.inr ⟨(w_23 hw), rfl, hnm⟩) (w_1 hw) (ty := .long) (by decide) rfl rfl (g := (mkF m 29 #[.val (.ref a), .val (.long q0), .second, .val (.long q1), .second, .val (.long q2), .second, .val (.long q3), .second, .val (.long q4), .second] [(.long q4), (.ref a)])) rfl rfl (hb hby d1_29)
  have f35 : Keep h0 h29 [a] := f26.wr Wr29 (Or.inl (List.mem_of_getElem? (i := 0) rfl))
  have f36 : Old Z n0 h29 := f27.wr Wr29 g_a
  have f37 : Fld Z h29 a "com/example/shelfmark/shelfmark/ingest/FileReport" "rejected" "J" (.long q4) := f33.same Wr29
  have N29 := Fr.snoc X29 N23 g_a
  have f38 : Exa Z h29 a "com/example/shelfmark/shelfmark/ingest/FileReport" := f34.wr Wr29
  have f39 : Fld Z h11 a "com/example/shelfmark/shelfmark/ingest/FileReport" "read" "J" (.long q0) := f7.other Wr11 (Or.inr (slot_ne (Or.inr (w_15 hw)) (Or.inr (w_17 hw)) (by decide) (t := .long) (t' := .long) (by decide) (by decide)))
  have f40 : Fld Z h17 a "com/example/shelfmark/shelfmark/ingest/FileReport" "read" "J" (.long q0) := f39.other Wr17 (Or.inr (slot_ne (Or.inr (w_15 hw)) (Or.inr (w_19 hw)) (by decide) (t := .long) (t' := .long) (by decide) (by decide)))
  have f41 : Fld Z h23 a "com/example/shelfmark/shelfmark/ingest/FileReport" "read" "J" (.long q0) := f40.other Wr23 (Or.inr (slot_ne (Or.inr (w_15 hw)) (Or.inr (w_21 hw)) (by decide) (t := .long) (t' := .long) (by decide) (by decide)))
  have f42 : Fld Z h29 a "com/example/shelfmark/shelfmark/ingest/FileReport" "read" "J" (.long q0) := f41.other Wr29 (Or.inr (slot_ne (Or.inr (w_15 hw)) (Or.inr (w_23 hw)) (by decide) (t := .long) (t' := .long) (by decide) (by decide)))
  have f43 : Fld Z h17 a "com/example/shelfmark/shelfmark/ingest/FileReport" "added" "J" (.long q1) := f13.other Wr17 (Or.inr (slot_ne (Or.inr (w_17 hw)) (Or.inr (w_19 hw)) (by decide) (t := .long) (t' := .long) (by decide) (by decide)))
  have f44 : Fld Z h23 a "com/example/shelfmark/shelfmark/ingest/FileReport" "added" "J" (.long q1) := f43.other Wr23 (Or.inr (slot_ne (Or.inr (w_17 hw)) (Or.inr (w_21 hw)) (by decide) (t := .long) (t' := .long) (by decide) (by decide)))
  have f45 : Fld Z h29 a "com/example/shelfmark/shelfmark/ingest/FileReport" "added" "J" (.long q1) := f44.other Wr29 (Or.inr (slot_ne (Or.inr (w_17 hw)) (Or.inr (w_23 hw)) (by decide) (t := .long) (t' := .long) (by decide) (by decide)))
  have f46 : Fld Z h23 a "com/example/shelfmark/shelfmark/ingest/FileReport" "updated" "J" (.long q2) := f20.other Wr23 (Or.inr (slot_ne (Or.inr (w_19 hw)) (Or.inr (w_21 hw)) (by decide) (t := .long) (t' := .long) (by decide) (by decide)))
  have f47 : Fld Z h29 a "com/example/shelfmark/shelfmark/ingest/FileReport" "updated" "J" (.long q2) := f46.other Wr29 (Or.inr (slot_ne (Or.inr (w_19 hw)) (Or.inr (w_23 hw)) (by decide) (t := .long) (t' := .long) (by decide) (by decide)))
  have f48 : Fld Z h29 a "com/example/shelfmark/shelfmark/ingest/FileReport" "deleted" "J" (.long q3) := f28.other Wr29 (Or.inr (slot_ne (Or.inr (w_21 hw)) (Or.inr (w_23 hw)) (by decide) (t := .long) (t' := .long) (by decide) (by decide)))
  obtain ⟨fs, hr, hrun, hended, hW, hsame⟩ := X29.leave (v := none) (fun _ => rfl)
  refine ⟨_, _, pre0 _ ?_, hrun, hended, _, _, rfl, ?_, ⟨_, rfl⟩, hW, hsame.mono (by decide) (by decide)⟩
  · show Steps p.tables e below (s₁.setTop (mkF m 0 #[.val (.ref a), .val (.long q0), .second, .val (.long q1), .second, .val (.long q2), .second, .val (.long q3), .second, .val (.long q4), .second] [])) _
    refine XS.aloadN X0.here hx rfl (hb hby d1_0) rfl rfl ?_
    show Steps p.tables e below (s₁.setTop (mkF m 1 #[.val (.ref a), .val (.long q0), .second, .val (.long q1), .second, .val (.long q2), .second, .val (.long q3), .second, .val (.long q4), .second] [(.ref a)])) _
    refine st1.trans ?_
    show Steps p.tables e below (T1.setTop (mkF m 4 #[.val (.ref a), .val (.long q0), .second, .val (.long q1), .second, .val (.long q2), .second, .val (.long q3), .second, .val (.long q4), .second] [])) _
    refine XS.aloadN X1.here hx rfl (hb hby d1_4) rfl rfl ?_
    show Steps p.tables e below (T1.setTop (mkF m 5 #[.val (.ref a), .val (.long q0), .second, .val (.long q1), .second, .val (.long q2), .second, .val (.long q3), .second, .val (.long q4), .second] [(.ref a)])) _
    refine XS.lloadN X1.here hx rfl (hb hby d1_5) rfl ?_
    show Steps p.tables e below (T1.setTop (mkF m 6 #[.val (.ref a), .val (.long q0), .second, .val (.long q1), .second, .val (.long q2), .second, .val (.long q3), .second, .val (.long q4), .second] [(.long q0), (.ref a)])) _
    refine st6 _ ?_
    show Steps p.tables e below (T6.setTop (mkF m 9 #[.val (.ref a), .val (.long q0), .second, .val (.long q1), .second, .val (.long q2), .second, .val (.long q3), .second, .val (.long q4), .second] [])) _
    refine XS.aloadN X6.here hx rfl (hb hby d1_9) rfl rfl ?_
    show Steps p.tables e below (T6.setTop (mkF m 10 #[.val (.ref a), .val (.long q0), .second, .val (.long q1), .second, .val (.long q2), .second, .val (.long q3), .second, .val (.long q4), .second] [(.ref a)])) _
    refine XS.lloadN X6.here hx rfl (hb hby d1_10) rfl ?_
    show Steps p.tables e below (T6.setTop (mkF m 11 #[.val (.ref a), .val (.long q0), .second, .val (.long q1), .second, .val (.long q2), .second, .val (.long q3), .second, .val (.long q4), .second] [(.long q1), (.ref a)])) _
    refine st11 _ ?_
    show Steps p.tables e below (T11.setTop (mkF m 14 #[.val (.ref a), .val (.long q0), .second, .val (.long q1), .second, .val (.long q2), .second, .val (.long q3), .second, .val (.long q4), .second] [])) _
    refine XS.aloadN X11.here hx rfl (hb hby d1_14) rfl rfl ?_
    show Steps p.tables e below (T11.setTop (mkF m 15 #[.val (.ref a), .val (.long q0), .second, .val (.long q1), .second, .val (.long q2), .second, .val (.long q3), .second, .val (.long q4), .second] [(.ref a)])) _
    refine XS.lload X11.here hx rfl (hb hby d1_15) rfl ?_
    show Steps p.tables e below (T11.setTop (mkF m 17 #[.val (.ref a), .val (.long q0), .second, .val (.long q1), .second, .val (.long q2), .second, .val (.long q3), .second, .val (.long q4), .second] [(.long q2), (.ref a)])) _
    refine st17 _ ?_
    show Steps p.tables e below (T17.setTop (mkF m 20 #[.val (.ref a), .val (.long q0), .second, .val (.long q1), .second, .val (.long q2), .second, .val (.long q3), .second, .val (.long q4), .second] [])) _
    refine XS.aloadN X17.here hx rfl (hb hby d1_20) rfl rfl ?_
    show Steps p.tables e below (T17.setTop (mkF m 21 #[.val (.ref a), .val (.long q0), .second, .val (.long q1), .second, .val (.long q2), .second, .val (.long q3), .second, .val (.long q4), .second] [(.ref a)])) _
    refine XS.lload X17.here hx rfl (hb hby d1_21) rfl ?_
    show Steps p.tables e below (T17.setTop (mkF m 23 #[.val (.ref a), .val (.long q0), .second, .val (.long q1), .second, .val (.long q2), .second, .val (.long q3), .second, .val (.long q4), .second] [(.long q3), (.ref a)])) _
    refine st23 _ ?_
    show Steps p.tables e below (T23.setTop (mkF m 26 #[.val (.ref a), .val (.long q0), .second, .val (.long q1), .second, .val (.long q2), .second, .val (.long q3), .second, .val (.long q4), .second] [])) _
    refine XS.aloadN X23.here hx rfl (hb hby d1_26) rfl rfl ?_
    show Steps p.tables e below (T23.setTop (mkF m 27 #[.val (.ref a), .val (.long q0), .second, .val (.long q1), .second, .val (.long q2), .second, .val (.long q3), .second, .val (.long q4), .second] [(.ref a)])) _
    refine XS.lload X23.here hx rfl (hb hby d1_27) rfl ?_
    show Steps p.tables e below (T23.setTop (mkF m 29 #[.val (.ref a), .val (.long q0), .second, .val (.long q1), .second, .val (.long q2), .second, .val (.long q3), .second, .val (.long q4), .second] [(.long q4), (.ref a)])) _
    refine st29 _ ?_
    show Steps p.tables e below (T29.setTop (mkF m 32 #[.val (.ref a), .val (.long q0), .second, .val (.long q1), .second, .val (.long q2), .second, .val (.long q3), .second, .val (.long q4), .second] [])) _
    exact X29.returnOut hx Bd.returns (hb hby d1_32) hr
  · show Q_init Z a q0 q1 q2 q3 q4 h0 n0 _ T29.heap _
    rw [e29]
    exact ⟨rfl, N29, f35, f38, f42, f45, f47, f48, f37⟩
theorem d4_0 : decode prog_24_method_2_code 0 = .ok (.new 8, 3) := by decide +kernel
theorem d4_3 : decode prog_24_method_2_code 3 = .ok (.dup, 1) := by decide +kernel
theorem d4_4 : decode prog_24_method_2_code 4 = .ok (.aload_n 0, 1) := by decide +kernel
theorem d4_5 : decode prog_24_method_2_code 5 = .ok (.getfield 7, 3) := by decide +kernel
theorem d4_8 : decode prog_24_method_2_code 8 = .ok (.aload_n 1, 1) := by decide +kernel
theorem d4_9 : decode prog_24_method_2_code 9 = .ok (.getfield 7, 3) := by decide +kernel
theorem d4_12 : decode prog_24_method_2_code 12 = .ok (.ladd, 1) := by decide +kernel
theorem d4_13 : decode prog_24_method_2_code 13 = .ok (.aload_n 0, 1) := by decide +kernel
theorem d4_14 : decode prog_24_method_2_code 14 = .ok (.getfield 13, 3) := by decide +kernel
theorem d4_17 : decode prog_24_method_2_code 17 = .ok (.aload_n 1, 1) := by decide +kernel
theorem d4_18 : decode prog_24_method_2_code 18 = .ok (.getfield 13, 3) := by decide +kernel
theorem d4_21 : decode prog_24_method_2_code 21 = .ok (.ladd, 1) := by decide +kernel
theorem d4_22 : decode prog_24_method_2_code 22 = .ok (.aload_n 0, 1) := by decide +kernel
theorem d4_23 : decode prog_24_method_2_code 23 = .ok (.getfield 16, 3) := by decide +kernel
theorem d4_26 : decode prog_24_method_2_code 26 = .ok (.aload_n 1, 1) := by decide +kernel
theorem d4_27 : decode prog_24_method_2_code 27 = .ok (.getfield 16, 3) := by decide +kernel
theorem d4_30 : decode prog_24_method_2_code 30 = .ok (.ladd, 1) := by decide +kernel
theorem d4_31 : decode prog_24_method_2_code 31 = .ok (.aload_n 0, 1) := by decide +kernel
theorem d4_32 : decode prog_24_method_2_code 32 = .ok (.getfield 19, 3) := by decide +kernel
theorem d4_35 : decode prog_24_method_2_code 35 = .ok (.aload_n 1, 1) := by decide +kernel
theorem d4_36 : decode prog_24_method_2_code 36 = .ok (.getfield 19, 3) := by decide +kernel
theorem d4_39 : decode prog_24_method_2_code 39 = .ok (.ladd, 1) := by decide +kernel
theorem d4_40 : decode prog_24_method_2_code 40 = .ok (.aload_n 0, 1) := by decide +kernel
theorem d4_41 : decode prog_24_method_2_code 41 = .ok (.getfield 22, 3) := by decide +kernel
theorem d4_44 : decode prog_24_method_2_code 44 = .ok (.aload_n 1, 1) := by decide +kernel
theorem d4_45 : decode prog_24_method_2_code 45 = .ok (.getfield 22, 3) := by decide +kernel
theorem d4_48 : decode prog_24_method_2_code 48 = .ok (.ladd, 1) := by decide +kernel
theorem pd_1 : parseMethodDescriptor "(JJJJJ)V" = some ⟨[.long, .long, .long, .long, .long], none⟩ := by decide +kernel
theorem d4_49 : decode prog_24_method_2_code 49 = .ok (.invokespecial 25, 3) := by decide +kernel
theorem d4_52 : decode prog_24_method_2_code 52 = .ok (.areturn, 1) := by decide +kernel
def Q_plus (Z : State) (a : Addr) (b : Addr) (x0 : Int64) (x1 : Int64) (x2 : Int64) (x3 : Int64) (x4 : Int64) (y0 : Int64) (y1 : Int64) (y2 : Int64) (y3 : Int64) (y4 : Int64) (h0 : Heap) (n0 : Nat) (v : Option Value) (h : Heap) (L : List Loc) : Prop := ∃ d : Addr, v = some (.ref d) ∧ Fr n0 L ∧ Keep h0 h [] ∧ (h0.size ≤ d) ∧ (Exa Z h d "com/example/shelfmark/shelfmark/ingest/FileReport") ∧ (Fld Z h d "com/example/shelfmark/shelfmark/ingest/FileReport" "read" "J" (.long (x0 + y0))) ∧ (Fld Z h d "com/example/shelfmark/shelfmark/ingest/FileReport" "added" "J" (.long (x1 + y1))) ∧ (Fld Z h d "com/example/shelfmark/shelfmark/ingest/FileReport" "updated" "J" (.long (x2 + y2))) ∧ (Fld Z h d "com/example/shelfmark/shelfmark/ingest/FileReport" "deleted" "J" (.long (x3 + y3))) ∧ (Fld Z h d "com/example/shelfmark/shelfmark/ingest/FileReport" "rejected" "J" (.long (x4 + y4)))
theorem ef_rm_plus (m : MethodId) (x0 : Addr) (x1 : Addr) : entryFrame m #[(.ref x0), (.ref x1)] 2 = mkF m 0 #[.val (.ref x0), .val (.ref x1)] [] := by first | (simp [entryFrame, mkF, argsToLocals, Value.category]; done) | rfl
set_option maxRecDepth 65536 in
set_option maxHeartbeats 40000000 in
theorem rm_plus (l : Launch) (Z : State) (a0 : Array Value) (hw : ∀ d ∈ tables_1, d.before a0 Z = true) (ws : List Jvm.Cond) (a : Addr) (b : Addr) (x0 : Int64) (x1 : Int64) (x2 : Int64) (x3 : Int64) (x4 : Int64) (y0 : Int64) (y1 : Int64) (y2 : Int64) (y3 : Int64) (y4 : Int64) (h0 : Heap) (n0 : Nat) (O0 : Old Z n0 h0) (F0 : Fld Z h0 a "com/example/shelfmark/shelfmark/ingest/FileReport" "read" "J" (.long x0)) (F1 : Fld Z h0 a "com/example/shelfmark/shelfmark/ingest/FileReport" "added" "J" (.long x1)) (F2 : Fld Z h0 a "com/example/shelfmark/shelfmark/ingest/FileReport" "updated" "J" (.long x2)) (F3 : Fld Z h0 a "com/example/shelfmark/shelfmark/ingest/FileReport" "deleted" "J" (.long x3)) (F4 : Fld Z h0 a "com/example/shelfmark/shelfmark/ingest/FileReport" "rejected" "J" (.long x4)) (G0 : Fld Z h0 b "com/example/shelfmark/shelfmark/ingest/FileReport" "read" "J" (.long y0)) (G1 : Fld Z h0 b "com/example/shelfmark/shelfmark/ingest/FileReport" "added" "J" (.long y1)) (G2 : Fld Z h0 b "com/example/shelfmark/shelfmark/ingest/FileReport" "updated" "J" (.long y2)) (G3 : Fld Z h0 b "com/example/shelfmark/shelfmark/ingest/FileReport" "deleted" "J" (.long y3)) (G4 : Fld Z h0 b "com/example/shelfmark/shelfmark/ingest/FileReport" "rejected" "J" (.long y4)) :
    MetFree l (⟨"com/example/shelfmark/shelfmark/ingest/FileReport", "plus", "(Lcom/example/shelfmark/shelfmark/ingest/FileReport;)Lcom/example/shelfmark/shelfmark/ingest/FileReport;"⟩ : MethodName) (head1 (Jvm.Cond.code (⟨"com/example/shelfmark/shelfmark/ingest/FileReport", "plus", "(Lcom/example/shelfmark/shelfmark/ingest/FileReport;)Lcom/example/shelfmark/shelfmark/ingest/FileReport;"⟩ : MethodName) prog_24_method_2_code 2 (some (.object "com/example/shelfmark/shelfmark/ingest/FileReport")) :: ws) ({ frames := 3, cells := 1, slots := 5, locals := 47 } : Room)) (fun as' U => as' = #[(.ref a), (.ref b)] ∧ Z.Warmed39 U.vm ∧ U.heap = h0) (fun _ _ _ _ _ => True) (fun _ U o U' => ∃ v L, o = .returned v ∧ Q_plus Z a b x0 x1 x2 x3 x4 y0 y1 y2 y3 y4 h0 n0 v U'.heap L ∧ FrameEnd U o U' L ({ frames := 3, cells := 1, slots := 5, locals := 47 } : Room).cells ({ frames := 3, cells := 1, slots := 5, locals := 47 } : Room).slots) := by
  refine MetFree.of_bodySF (plainFor_of_name pn_com_example_shelfmark_shelfmark_ingest_FileReport) hisR ?_
  intro p e s m args below meth c s₁ Bd hml0 hP hK
  obtain ⟨rfl, hZ, hh⟩ := hP
  have hx := Bd.exec
  have hby := Bd.bytes
  have hml : c.maxLocals = 2 := hml0
  have hown : s.vm.findClass "com/example/shelfmark/shelfmark/ingest/FileReport" = some m.cls := findClass_of_methodNamed Bd.named
  have hnm := (name_of_methodNamed Bd.named Bd.method).1
  have X0 : Stand p l e ({ frames := 3, cells := 1, slots := 5, locals := 47 } : Room) s m #[(.ref a), (.ref b)] below meth c s₁ [] 0 0 := Stand.of_body Bd
  have e0 : s₁.heap = h0 := by rw [← hh, Bd.state]; rfl
  have N0 := Fr.nil n0
  have K0 : Keep h0 h0 [] := Keep.refl _ _
  have pre0 : ∀ t, Steps p.tables e below (s₁.setTop (mkF m 0 #[.val (.ref a), .val (.ref b)] [])) t → Steps p.tables e below (s₁.setTop (entryFrame m #[(.ref a), (.ref b)] 2)) t := fun t k => castTop (ef_rm_plus m a b) k
  obtain ⟨T0_, h0_, X0_, e0_, Ex0_, Aa0_, Df0_, -, st0_⟩ := newO X0 hx hZ hown (w_31 hw) (w_1 hw) (w_2 hw) e0 (g := (mkF m 0 #[.val (.ref a), .val (.ref b)] [])) rfl (hb hby d4_0) (by decide) (by decide)
  obtain ⟨b0_, gg0_⟩ : ∃ z, z = h0.size := ⟨_, rfl⟩
  rw [← gg0_] at Aa0_ Df0_ st0_
  have f1 : Keep h0 h0_ [] := K0.ext Ex0_
  have f2 : Old Z n0 h0_ := O0.ext Ex0_
  have f3 : Fld Z h0_ b0_ "com/example/shelfmark/shelfmark/ingest/FileReport" "read" "J" (.long (0 : Int64)) := Df0_ (Or.inr (w_15 hw)) (ty := .long) (by decide)
  have f4 : Fld Z h0_ b0_ "com/example/shelfmark/shelfmark/ingest/FileReport" "added" "J" (.long (0 : Int64)) := Df0_ (Or.inr (w_17 hw)) (ty := .long) (by decide)
  have f5 : Fld Z h0_ b0_ "com/example/shelfmark/shelfmark/ingest/FileReport" "updated" "J" (.long (0 : Int64)) := Df0_ (Or.inr (w_19 hw)) (ty := .long) (by decide)
  have f6 : Fld Z h0_ b0_ "com/example/shelfmark/shelfmark/ingest/FileReport" "deleted" "J" (.long (0 : Int64)) := Df0_ (Or.inr (w_21 hw)) (ty := .long) (by decide)
  have f7 : Fld Z h0_ b0_ "com/example/shelfmark/shelfmark/ingest/FileReport" "rejected" "J" (.long (0 : Int64)) := Df0_ (Or.inr (w_23 hw)) (ty := .long) (by decide)
  have f8 : Fld Z h0_ a "com/example/shelfmark/shelfmark/ingest/FileReport" "read" "J" (.long x0) := F0.ext Ex0_
  obtain ⟨T5, X5, e5, st5⟩ := getF X0_ hx hZ hown (host := "") (Or.inl (w_14 hw)) Via.refl e0_ f8 (g := (mkF m 5 #[.val (.ref a), .val (.ref b)] [(.ref a), (.ref b0_), (.ref b0_)])) rfl rfl (hb hby d4_5)
  have f9 : Fld Z h0_ b "com/example/shelfmark/shelfmark/ingest/FileReport" "read" "J" (.long y0) := G0.ext Ex0_
  obtain ⟨T9, X9, e9, st9⟩ := getF X5 hx hZ hown (host := "") (Or.inl (w_14 hw)) Via.refl e5 f9 (g := (mkF m 9 #[.val (.ref a), .val (.ref b)] [(.ref b), (.long x0), (.ref b0_), (.ref b0_)])) rfl rfl (hb hby d4_9)
  have f10 : Fld Z h0_ a "com/example/shelfmark/shelfmark/ingest/FileReport" "added" "J" (.long x1) := F1.ext Ex0_
  obtain ⟨T14, X14, e14, st14⟩ := getF X9 hx hZ hown (host := "") (Or.inl (w_16 hw)) Via.refl e9 f10 (g := (mkF m 14 #[.val (.ref a), .val (.ref b)] [(.ref a), (.long (x0 + y0)), (.ref b0_), (.ref b0_)])) rfl rfl (hb hby d4_14)
  have f11 : Fld Z h0_ b "com/example/shelfmark/shelfmark/ingest/FileReport" "added" "J" (.long y1) := G1.ext Ex0_
  obtain ⟨T18, X18, e18, st18⟩ := getF X14 hx hZ hown (host := "") (Or.inl (w_16 hw)) Via.refl e14 f11 (g := (mkF m 18 #[.val (.ref a), .val (.ref b)] [(.ref b), (.long x1), (.long (x0 + y0)), (.ref b0_), (.ref b0_)])) rfl rfl (hb hby d4_18)
  have f12 : Fld Z h0_ a "com/example/shelfmark/shelfmark/ingest/FileReport" "updated" "J" (.long x2) := F2.ext Ex0_
  obtain ⟨T23, X23, e23, st23⟩ := getF X18 hx hZ hown (host := "") (Or.inl (w_18 hw)) Via.refl e18 f12 (g := (mkF m 23 #[.val (.ref a), .val (.ref b)] [(.ref a), (.long (x1 + y1)), (.long (x0 + y0)), (.ref b0_), (.ref b0_)])) rfl rfl (hb hby d4_23)
  have f13 : Fld Z h0_ b "com/example/shelfmark/shelfmark/ingest/FileReport" "updated" "J" (.long y2) := G2.ext Ex0_
  obtain ⟨T27, X27, e27, st27⟩ := getF X23 hx hZ hown (host := "") (Or.inl (w_18 hw)) Via.refl e23 f13 (g := (mkF m 27 #[.val (.ref a), .val (.ref b)] [(.ref b), (.long x2), (.long (x1 + y1)), (.long (x0 + y0)), (.ref b0_), (.ref b0_)])) rfl rfl (hb hby d4_27)
  have f14 : Fld Z h0_ a "com/example/shelfmark/shelfmark/ingest/FileReport" "deleted" "J" (.long x3) := F3.ext Ex0_
  obtain ⟨T32, X32, e32, st32⟩ := getF X27 hx hZ hown (host := "") (Or.inl (w_20 hw)) Via.refl e27 f14 (g := (mkF m 32 #[.val (.ref a), .val (.ref b)] [(.ref a), (.long (x2 + y2)), (.long (x1 + y1)), (.long (x0 + y0)), (.ref b0_), (.ref b0_)])) rfl rfl (hb hby d4_32)
  have f15 : Fld Z h0_ b "com/example/shelfmark/shelfmark/ingest/FileReport" "deleted" "J" (.long y3) := G3.ext Ex0_
  obtain ⟨T36, X36, e36, st36⟩ := getF X32 hx hZ hown (host := "") (Or.inl (w_20 hw)) Via.refl e32 f15 (g := (mkF m 36 #[.val (.ref a), .val (.ref b)] [(.ref b), (.long x3), (.long (x2 + y2)), (.long (x1 + y1)), (.long (x0 + y0)), (.ref b0_), (.ref b0_)])) rfl rfl (hb hby d4_36)
  have f16 : Fld Z h0_ a "com/example/shelfmark/shelfmark/ingest/FileReport" "rejected" "J" (.long x4) := F4.ext Ex0_
  obtain ⟨T41, X41, e41, st41⟩ := getF X36 hx hZ hown (host := "") (Or.inl (w_22 hw)) Via.refl e36 f16 (g := (mkF m 41 #[.val (.ref a), .val (.ref b)] [(.ref a), (.long (x3 + y3)), (.long (x2 + y2)), (.long (x1 + y1)), (.long (x0 + y0)), (.ref b0_), (.ref b0_)])) rfl rfl (hb hby d4_41)
  have f17 : Fld Z h0_ b "com/example/shelfmark/shelfmark/ingest/FileReport" "rejected" "J" (.long y4) := G4.ext Ex0_
  obtain ⟨T45, X45, e45, st45⟩ := getF X41 hx hZ hown (host := "") (Or.inl (w_22 hw)) Via.refl e41 f17 (g := (mkF m 45 #[.val (.ref a), .val (.ref b)] [(.ref b), (.long x4), (.long (x3 + y3)), (.long (x2 + y2)), (.long (x1 + y1)), (.long (x0 + y0)), (.ref b0_), (.ref b0_)])) rfl rfl (hb hby d4_45)
  have f18 : n0 ≤ b0_ := Nat.le_trans (own_old_le O0) (Nat.le_of_eq gg0_.symm)
  obtain ⟨_, _, ⟨T49, Lo49, kk49, nn49⟩, -, X49, ⟨Lc49, hQ49, ll49, yy49, zz49⟩, st49⟩ := X45.specialBack hx (y := (⟨"com/example/shelfmark/shelfmark/ingest/FileReport", "<init>", "(JJJJJ)V"⟩ : MethodName)) rfl hown (mvT hZ (w_32 hw)) (mvT hZ (w_4 hw)) (mvT hZ (w_5 hw)) (by decide) (backOf (W := 1) (rm_init l Z a0 hw [] b0_ ((x0 + y0)) ((x1 + y1)) ((x2 + y2)) ((x3 + y3)) ((x4 + y4)) h0_ n0 f2 Aa0_ f3 f4 f5 f6 f7 f18) hZ (w_5 hw) (w_2 hw) (by decide) (by decide)) (g := (mkF m 49 #[.val (.ref a), .val (.ref b)] [(.long (x4 + y4)), (.long (x3 + y3)), (.long (x2 + y2)), (.long (x1 + y1)), (.long (x0 + y0)), (.ref b0_), (.ref b0_)])) rfl (by rw [hml]; rfl) (Steps.refl _) (a := b0_) (argsL := [(.long (x0 + y0)), (.long (x1 + y1)), (.long (x2 + y2)), (.long (x3 + y3)), (.long (x4 + y4))]) (rest := [(.ref b0_)]) (lenOf pd_1 rfl) rfl (by show 2 * 0 + _ ≤ _; exact Nat.le_of_eq rfl) (hb hby d4_49) (fun _ _ => ⟨rfl, e45, (by decide : 1 + 0 ≤ _), (by decide : 5 + 0 ≤ _)⟩)
  dsimp only [Pt.U, Pt.locs, Pt.cells, Pt.slots] at X49 ll49 yy49 zz49 st49 hQ49
  subst ll49 yy49 zz49
  obtain ⟨rfl, N49q, K49q, p49_0, p49_1, p49_2, p49_3, p49_4, p49_5⟩ := hQ49
  have N49 := Fr.app N0 N49q
  have f19 : h0.size ≤ b0_ := Nat.le_trans K0.1 (Nat.le_of_eq gg0_.symm)
  have f20 : Keep h0 T49.heap [] := f1.trans K49q (allS (Or.inr f19) all0)
  have f21 : Old Z n0 T49.heap := f2.keep K49q (allS f18 all0)
  obtain ⟨fs, hr, hrun, hended, hW, hsame⟩ := X49.leave (v := some (.ref b0_)) (fun h => by rw [Bd.returns] at h; cases h)
  refine ⟨_, _, pre0 _ ?_, hrun, hended, _, _, rfl, ?_, ⟨_, rfl⟩, hW, hsame.mono (by decide) (by decide)⟩
  · show Steps p.tables e below (s₁.setTop (mkF m 0 #[.val (.ref a), .val (.ref b)] [])) _
    refine st0_ _ ?_
    show Steps p.tables e below (T0_.setTop (mkF m 3 #[.val (.ref a), .val (.ref b)] [(.ref b0_)])) _
    refine XS.dup X0_.here hx rfl (hb hby d4_3) rfl rfl ?_
    show Steps p.tables e below (T0_.setTop (mkF m 4 #[.val (.ref a), .val (.ref b)] [(.ref b0_), (.ref b0_)])) _
    refine XS.aloadN X0_.here hx rfl (hb hby d4_4) rfl rfl ?_
    show Steps p.tables e below (T0_.setTop (mkF m 5 #[.val (.ref a), .val (.ref b)] [(.ref a), (.ref b0_), (.ref b0_)])) _
    refine st5 _ ?_
    show Steps p.tables e below (T5.setTop (mkF m 8 #[.val (.ref a), .val (.ref b)] [(.long x0), (.ref b0_), (.ref b0_)])) _
    refine XS.aloadN X5.here hx rfl (hb hby d4_8) rfl rfl ?_
    show Steps p.tables e below (T5.setTop (mkF m 9 #[.val (.ref a), .val (.ref b)] [(.ref b), (.long x0), (.ref b0_), (.ref b0_)])) _
    refine st9 _ ?_
    show Steps p.tables e below (T9.setTop (mkF m 12 #[.val (.ref a), .val (.ref b)] [(.long y0), (.long x0), (.ref b0_), (.ref b0_)])) _
    refine XS.ladd X9.here hx rfl (hb hby d4_12) rfl ?_
    show Steps p.tables e below (T9.setTop (mkF m 13 #[.val (.ref a), .val (.ref b)] [(.long (x0 + y0)), (.ref b0_), (.ref b0_)])) _
    refine XS.aloadN X9.here hx rfl (hb hby d4_13) rfl rfl ?_
    show Steps p.tables e below (T9.setTop (mkF m 14 #[.val (.ref a), .val (.ref b)] [(.ref a), (.long (x0 + y0)), (.ref b0_), (.ref b0_)])) _
    refine st14 _ ?_
    show Steps p.tables e below (T14.setTop (mkF m 17 #[.val (.ref a), .val (.ref b)] [(.long x1), (.long (x0 + y0)), (.ref b0_), (.ref b0_)])) _
    refine XS.aloadN X14.here hx rfl (hb hby d4_17) rfl rfl ?_
    show Steps p.tables e below (T14.setTop (mkF m 18 #[.val (.ref a), .val (.ref b)] [(.ref b), (.long x1), (.long (x0 + y0)), (.ref b0_), (.ref b0_)])) _
    refine st18 _ ?_
    show Steps p.tables e below (T18.setTop (mkF m 21 #[.val (.ref a), .val (.ref b)] [(.long y1), (.long x1), (.long (x0 + y0)), (.ref b0_), (.ref b0_)])) _
    refine XS.ladd X18.here hx rfl (hb hby d4_21) rfl ?_
    show Steps p.tables e below (T18.setTop (mkF m 22 #[.val (.ref a), .val (.ref b)] [(.long (x1 + y1)), (.long (x0 + y0)), (.ref b0_), (.ref b0_)])) _
    refine XS.aloadN X18.here hx rfl (hb hby d4_22) rfl rfl ?_
    show Steps p.tables e below (T18.setTop (mkF m 23 #[.val (.ref a), .val (.ref b)] [(.ref a), (.long (x1 + y1)), (.long (x0 + y0)), (.ref b0_), (.ref b0_)])) _
    refine st23 _ ?_
    show Steps p.tables e below (T23.setTop (mkF m 26 #[.val (.ref a), .val (.ref b)] [(.long x2), (.long (x1 + y1)), (.long (x0 + y0)), (.ref b0_), (.ref b0_)])) _
    refine XS.aloadN X23.here hx rfl (hb hby d4_26) rfl rfl ?_
    show Steps p.tables e below (T23.setTop (mkF m 27 #[.val (.ref a), .val (.ref b)] [(.ref b), (.long x2), (.long (x1 + y1)), (.long (x0 + y0)), (.ref b0_), (.ref b0_)])) _
    refine st27 _ ?_
    show Steps p.tables e below (T27.setTop (mkF m 30 #[.val (.ref a), .val (.ref b)] [(.long y2), (.long x2), (.long (x1 + y1)), (.long (x0 + y0)), (.ref b0_), (.ref b0_)])) _
    refine XS.ladd X27.here hx rfl (hb hby d4_30) rfl ?_
    show Steps p.tables e below (T27.setTop (mkF m 31 #[.val (.ref a), .val (.ref b)] [(.long (x2 + y2)), (.long (x1 + y1)), (.long (x0 + y0)), (.ref b0_), (.ref b0_)])) _
    refine XS.aloadN X27.here hx rfl (hb hby d4_31) rfl rfl ?_
    show Steps p.tables e below (T27.setTop (mkF m 32 #[.val (.ref a), .val (.ref b)] [(.ref a), (.long (x2 + y2)), (.long (x1 + y1)), (.long (x0 + y0)), (.ref b0_), (.ref b0_)])) _
    refine st32 _ ?_
    show Steps p.tables e below (T32.setTop (mkF m 35 #[.val (.ref a), .val (.ref b)] [(.long x3), (.long (x2 + y2)), (.long (x1 + y1)), (.long (x0 + y0)), (.ref b0_), (.ref b0_)])) _
    refine XS.aloadN X32.here hx rfl (hb hby d4_35) rfl rfl ?_
    show Steps p.tables e below (T32.setTop (mkF m 36 #[.val (.ref a), .val (.ref b)] [(.ref b), (.long x3), (.long (x2 + y2)), (.long (x1 + y1)), (.long (x0 + y0)), (.ref b0_), (.ref b0_)])) _
    refine st36 _ ?_
    show Steps p.tables e below (T36.setTop (mkF m 39 #[.val (.ref a), .val (.ref b)] [(.long y3), (.long x3), (.long (x2 + y2)), (.long (x1 + y1)), (.long (x0 + y0)), (.ref b0_), (.ref b0_)])) _
    refine XS.ladd X36.here hx rfl (hb hby d4_39) rfl ?_
    show Steps p.tables e below (T36.setTop (mkF m 40 #[.val (.ref a), .val (.ref b)] [(.long (x3 + y3)), (.long (x2 + y2)), (.long (x1 + y1)), (.long (x0 + y0)), (.ref b0_), (.ref b0_)])) _
    refine XS.aloadN X36.here hx rfl (hb hby d4_40) rfl rfl ?_
    show Steps p.tables e below (T36.setTop (mkF m 41 #[.val (.ref a), .val (.ref b)] [(.ref a), (.long (x3 + y3)), (.long (x2 + y2)), (.long (x1 + y1)), (.long (x0 + y0)), (.ref b0_), (.ref b0_)])) _
    refine st41 _ ?_
    show Steps p.tables e below (T41.setTop (mkF m 44 #[.val (.ref a), .val (.ref b)] [(.long x4), (.long (x3 + y3)), (.long (x2 + y2)), (.long (x1 + y1)), (.long (x0 + y0)), (.ref b0_), (.ref b0_)])) _
    refine XS.aloadN X41.here hx rfl (hb hby d4_44) rfl rfl ?_
    show Steps p.tables e below (T41.setTop (mkF m 45 #[.val (.ref a), .val (.ref b)] [(.ref b), (.long x4), (.long (x3 + y3)), (.long (x2 + y2)), (.long (x1 + y1)), (.long (x0 + y0)), (.ref b0_), (.ref b0_)])) _
    refine st45 _ ?_
    show Steps p.tables e below (T45.setTop (mkF m 48 #[.val (.ref a), .val (.ref b)] [(.long y4), (.long x4), (.long (x3 + y3)), (.long (x2 + y2)), (.long (x1 + y1)), (.long (x0 + y0)), (.ref b0_), (.ref b0_)])) _
    refine XS.ladd X45.here hx rfl (hb hby d4_48) rfl ?_
    show Steps p.tables e below (T45.setTop (mkF m 49 #[.val (.ref a), .val (.ref b)] [(.long (x4 + y4)), (.long (x3 + y3)), (.long (x2 + y2)), (.long (x1 + y1)), (.long (x0 + y0)), (.ref b0_), (.ref b0_)])) _
    refine st49.trans ?_
    show Steps p.tables e below (T49.setTop (mkF m 52 #[.val (.ref a), .val (.ref b)] [(.ref b0_)])) _
    jvm_step X49.here [X49.here.top, hx, (hb hby d4_52), X49.method', Bd.returns, Value.isRef, FieldType.isReference]
    first | (intro acts; rw [hr _ acts rfl rfl rfl]) | rw [hr _ _ rfl rfl rfl]
    exact Steps.refl _
  · show Q_plus Z a b x0 x1 x2 x3 x4 y0 y1 y2 y3 y4 h0 n0 _ T49.heap _
    exact ⟨b0_, rfl, N49, f20, f19, p49_0, p49_1, p49_2, p49_3, p49_4, p49_5⟩
theorem d6_0 : decode prog_24_method_7_code 0 = .ok (.aload_n 0, 1) := by decide +kernel
theorem d6_1 : decode prog_24_method_7_code 1 = .ok (.getfield 7, 3) := by decide +kernel
theorem d6_4 : decode prog_24_method_7_code 4 = .ok (.lreturn, 1) := by decide +kernel
def Q_read (Z : State) (a : Addr) (x0 : Int64) (h0 : Heap) (n0 : Nat) (v : Option Value) (h : Heap) (L : List Loc) : Prop := v = some (.long x0) ∧ Fr n0 L ∧ Keep h0 h []
theorem ef_rm_read (m : MethodId) (x0 : Addr) : entryFrame m #[(.ref x0)] 1 = mkF m 0 #[.val (.ref x0)] [] := by first | (simp [entryFrame, mkF, argsToLocals, Value.category]; done) | rfl
set_option maxRecDepth 65536 in
set_option maxHeartbeats 40000000 in
theorem rm_read (l : Launch) (Z : State) (a0 : Array Value) (hw : ∀ d ∈ tables_1, d.before a0 Z = true) (ws : List Jvm.Cond) (a : Addr) (x0 : Int64) (h0 : Heap) (n0 : Nat) (O0 : Old Z n0 h0) (F0 : Fld Z h0 a "com/example/shelfmark/shelfmark/ingest/FileReport" "read" "J" (.long x0)) :
    MetFree l (⟨"com/example/shelfmark/shelfmark/ingest/FileReport", "read", "()J"⟩ : MethodName) (head1 (Jvm.Cond.code (⟨"com/example/shelfmark/shelfmark/ingest/FileReport", "read", "()J"⟩ : MethodName) prog_24_method_7_code 1 (some .long) :: ws) ({ frames := 0, cells := 0, slots := 0, locals := 0 } : Room)) (fun as' U => as' = #[(.ref a)] ∧ Z.Warmed39 U.vm ∧ U.heap = h0) (fun _ _ _ _ _ => True) (fun _ U o U' => ∃ v L, o = .returned v ∧ Q_read Z a x0 h0 n0 v U'.heap L ∧ FrameEnd U o U' L ({ frames := 0, cells := 0, slots := 0, locals := 0 } : Room).cells ({ frames := 0, cells := 0, slots := 0, locals := 0 } : Room).slots) := by
  refine MetFree.of_bodySF (plainFor_of_name pn_com_example_shelfmark_shelfmark_ingest_FileReport) hisR ?_
  intro p e s m args below meth c s₁ Bd hml0 hP hK
  obtain ⟨rfl, hZ, hh⟩ := hP
  have hx := Bd.exec
  have hby := Bd.bytes
  have hml : c.maxLocals = 1 := hml0
  have hown : s.vm.findClass "com/example/shelfmark/shelfmark/ingest/FileReport" = some m.cls := findClass_of_methodNamed Bd.named
  have hnm := (name_of_methodNamed Bd.named Bd.method).1
  have X0 : Stand p l e ({ frames := 0, cells := 0, slots := 0, locals := 0 } : Room) s m #[(.ref a)] below meth c s₁ [] 0 0 := Stand.of_body Bd
  have e0 : s₁.heap = h0 := by rw [← hh, Bd.state]; rfl
  have N0 := Fr.nil n0
  have K0 : Keep h0 h0 [] := Keep.refl _ _
  have pre0 : ∀ t, Steps p.tables e below (s₁.setTop (mkF m 0 #[.val (.ref a)] [])) t → Steps p.tables e below (s₁.setTop (entryFrame m #[(.ref a)] 1)) t := fun t k => castTop (ef_rm_read m a) k
  obtain ⟨T1, X1, e1, st1⟩ := getF X0 hx hZ hown (host := "") (Or.inl (w_14 hw)) Via.refl e0 F0 (g := (mkF m 1 #[.val (.ref a)] [(.ref a)])) rfl rfl (hb hby d6_1)
  obtain ⟨fs, hr, hrun, hended, hW, hsame⟩ := X1.leave (v := some (.long x0)) (fun h => by rw [Bd.returns] at h; cases h)
  refine ⟨_, _, pre0 _ ?_, hrun, hended, _, _, rfl, ?_, ⟨_, rfl⟩, hW, hsame.mono (by decide) (by decide)⟩
  · show Steps p.tables e below (s₁.setTop (mkF m 0 #[.val (.ref a)] [])) _
    refine XS.aloadN X0.here hx rfl (hb hby d6_0) rfl rfl ?_
    show Steps p.tables e below (s₁.setTop (mkF m 1 #[.val (.ref a)] [(.ref a)])) _
    refine st1 _ ?_
    show Steps p.tables e below (T1.setTop (mkF m 4 #[.val (.ref a)] [(.long x0)])) _
    jvm_step X1.here [X1.here.top, hx, (hb hby d6_4), X1.method', Bd.returns, narrow]
    first | (intro acts; rw [hr _ acts rfl rfl rfl]) | rw [hr _ _ rfl rfl rfl]
    exact Steps.refl _
  · show Q_read Z a x0 h0 n0 _ T1.heap _
    rw [e1]
    exact ⟨rfl, N0, K0⟩
theorem d7_0 : decode prog_24_method_8_code 0 = .ok (.aload_n 0, 1) := by decide +kernel
theorem d7_1 : decode prog_24_method_8_code 1 = .ok (.getfield 13, 3) := by decide +kernel
theorem d7_4 : decode prog_24_method_8_code 4 = .ok (.lreturn, 1) := by decide +kernel
def Q_added (Z : State) (a : Addr) (x0 : Int64) (h0 : Heap) (n0 : Nat) (v : Option Value) (h : Heap) (L : List Loc) : Prop := v = some (.long x0) ∧ Fr n0 L ∧ Keep h0 h []
theorem ef_rm_added (m : MethodId) (x0 : Addr) : entryFrame m #[(.ref x0)] 1 = mkF m 0 #[.val (.ref x0)] [] := by first | (simp [entryFrame, mkF, argsToLocals, Value.category]; done) | rfl
set_option maxRecDepth 65536 in
set_option maxHeartbeats 40000000 in
theorem rm_added (l : Launch) (Z : State) (a0 : Array Value) (hw : ∀ d ∈ tables_1, d.before a0 Z = true) (ws : List Jvm.Cond) (a : Addr) (x0 : Int64) (h0 : Heap) (n0 : Nat) (O0 : Old Z n0 h0) (F0 : Fld Z h0 a "com/example/shelfmark/shelfmark/ingest/FileReport" "added" "J" (.long x0)) :
    MetFree l (⟨"com/example/shelfmark/shelfmark/ingest/FileReport", "added", "()J"⟩ : MethodName) (head1 (Jvm.Cond.code (⟨"com/example/shelfmark/shelfmark/ingest/FileReport", "added", "()J"⟩ : MethodName) prog_24_method_8_code 1 (some .long) :: ws) ({ frames := 0, cells := 0, slots := 0, locals := 0 } : Room)) (fun as' U => as' = #[(.ref a)] ∧ Z.Warmed39 U.vm ∧ U.heap = h0) (fun _ _ _ _ _ => True) (fun _ U o U' => ∃ v L, o = .returned v ∧ Q_added Z a x0 h0 n0 v U'.heap L ∧ FrameEnd U o U' L ({ frames := 0, cells := 0, slots := 0, locals := 0 } : Room).cells ({ frames := 0, cells := 0, slots := 0, locals := 0 } : Room).slots) := by
  refine MetFree.of_bodySF (plainFor_of_name pn_com_example_shelfmark_shelfmark_ingest_FileReport) hisR ?_
  intro p e s m args below meth c s₁ Bd hml0 hP hK
  obtain ⟨rfl, hZ, hh⟩ := hP
  have hx := Bd.exec
  have hby := Bd.bytes
  have hml : c.maxLocals = 1 := hml0
  have hown : s.vm.findClass "com/example/shelfmark/shelfmark/ingest/FileReport" = some m.cls := findClass_of_methodNamed Bd.named
  have hnm := (name_of_methodNamed Bd.named Bd.method).1
  have X0 : Stand p l e ({ frames := 0, cells := 0, slots := 0, locals := 0 } : Room) s m #[(.ref a)] below meth c s₁ [] 0 0 := Stand.of_body Bd
  have e0 : s₁.heap = h0 := by rw [← hh, Bd.state]; rfl
  have N0 := Fr.nil n0
  have K0 : Keep h0 h0 [] := Keep.refl _ _
  have pre0 : ∀ t, Steps p.tables e below (s₁.setTop (mkF m 0 #[.val (.ref a)] [])) t → Steps p.tables e below (s₁.setTop (entryFrame m #[(.ref a)] 1)) t := fun t k => castTop (ef_rm_added m a) k
  obtain ⟨T1, X1, e1, st1⟩ := getF X0 hx hZ hown (host := "") (Or.inl (w_16 hw)) Via.refl e0 F0 (g := (mkF m 1 #[.val (.ref a)] [(.ref a)])) rfl rfl (hb hby d7_1)
  obtain ⟨fs, hr, hrun, hended, hW, hsame⟩ := X1.leave (v := some (.long x0)) (fun h => by rw [Bd.returns] at h; cases h)
  refine ⟨_, _, pre0 _ ?_, hrun, hended, _, _, rfl, ?_, ⟨_, rfl⟩, hW, hsame.mono (by decide) (by decide)⟩
  · show Steps p.tables e below (s₁.setTop (mkF m 0 #[.val (.ref a)] [])) _
    refine XS.aloadN X0.here hx rfl (hb hby d7_0) rfl rfl ?_
    show Steps p.tables e below (s₁.setTop (mkF m 1 #[.val (.ref a)] [(.ref a)])) _
    refine st1 _ ?_
    show Steps p.tables e below (T1.setTop (mkF m 4 #[.val (.ref a)] [(.long x0)])) _
    jvm_step X1.here [X1.here.top, hx, (hb hby d7_4), X1.method', Bd.returns, narrow]
    first | (intro acts; rw [hr _ acts rfl rfl rfl]) | rw [hr _ _ rfl rfl rfl]
    exact Steps.refl _
  · show Q_added Z a x0 h0 n0 _ T1.heap _
    rw [e1]
    exact ⟨rfl, N0, K0⟩
theorem d8_0 : decode prog_24_method_9_code 0 = .ok (.aload_n 0, 1) := by decide +kernel
theorem d8_1 : decode prog_24_method_9_code 1 = .ok (.getfield 16, 3) := by decide +kernel
theorem d8_4 : decode prog_24_method_9_code 4 = .ok (.lreturn, 1) := by decide +kernel
def Q_updated (Z : State) (a : Addr) (x0 : Int64) (h0 : Heap) (n0 : Nat) (v : Option Value) (h : Heap) (L : List Loc) : Prop := v = some (.long x0) ∧ Fr n0 L ∧ Keep h0 h []
theorem ef_rm_updated (m : MethodId) (x0 : Addr) : entryFrame m #[(.ref x0)] 1 = mkF m 0 #[.val (.ref x0)] [] := by first | (simp [entryFrame, mkF, argsToLocals, Value.category]; done) | rfl
set_option maxRecDepth 65536 in
set_option maxHeartbeats 40000000 in
theorem rm_updated (l : Launch) (Z : State) (a0 : Array Value) (hw : ∀ d ∈ tables_1, d.before a0 Z = true) (ws : List Jvm.Cond) (a : Addr) (x0 : Int64) (h0 : Heap) (n0 : Nat) (O0 : Old Z n0 h0) (F0 : Fld Z h0 a "com/example/shelfmark/shelfmark/ingest/FileReport" "updated" "J" (.long x0)) :
    MetFree l (⟨"com/example/shelfmark/shelfmark/ingest/FileReport", "updated", "()J"⟩ : MethodName) (head1 (Jvm.Cond.code (⟨"com/example/shelfmark/shelfmark/ingest/FileReport", "updated", "()J"⟩ : MethodName) prog_24_method_9_code 1 (some .long) :: ws) ({ frames := 0, cells := 0, slots := 0, locals := 0 } : Room)) (fun as' U => as' = #[(.ref a)] ∧ Z.Warmed39 U.vm ∧ U.heap = h0) (fun _ _ _ _ _ => True) (fun _ U o U' => ∃ v L, o = .returned v ∧ Q_updated Z a x0 h0 n0 v U'.heap L ∧ FrameEnd U o U' L ({ frames := 0, cells := 0, slots := 0, locals := 0 } : Room).cells ({ frames := 0, cells := 0, slots := 0, locals := 0 } : Room).slots) := by
  refine MetFree.of_bodySF (plainFor_of_name pn_com_example_shelfmark_shelfmark_ingest_FileReport) hisR ?_
  intro p e s m args below meth c s₁ Bd hml0 hP hK
  obtain ⟨rfl, hZ, hh⟩ := hP
  have hx := Bd.exec
  have hby := Bd.bytes
  have hml : c.maxLocals = 1 := hml0
  have hown : s.vm.findClass "com/example/shelfmark/shelfmark/ingest/FileReport" = some m.cls := findClass_of_methodNamed Bd.named
  have hnm := (name_of_methodNamed Bd.named Bd.method).1
  have X0 : Stand p l e ({ frames := 0, cells := 0, slots := 0, locals := 0 } : Room) s m #[(.ref a)] below meth c s₁ [] 0 0 := Stand.of_body Bd
  have e0 : s₁.heap = h0 := by rw [← hh, Bd.state]; rfl
  have N0 := Fr.nil n0
  have K0 : Keep h0 h0 [] := Keep.refl _ _
  have pre0 : ∀ t, Steps p.tables e below (s₁.setTop (mkF m 0 #[.val (.ref a)] [])) t → Steps p.tables e below (s₁.setTop (entryFrame m #[(.ref a)] 1)) t := fun t k => castTop (ef_rm_updated m a) k
  obtain ⟨T1, X1, e1, st1⟩ := getF X0 hx hZ hown (host := "") (Or.inl (w_18 hw)) Via.refl e0 F0 (g := (mkF m 1 #[.val (.ref a)] [(.ref a)])) rfl rfl (hb hby d8_1)
  obtain ⟨fs, hr, hrun, hended, hW, hsame⟩ := X1.leave (v := some (.long x0)) (fun h => by rw [Bd.returns] at h; cases h)
  refine ⟨_, _, pre0 _ ?_, hrun, hended, _, _, rfl, ?_, ⟨_, rfl⟩, hW, hsame.mono (by decide) (by decide)⟩
  · show Steps p.tables e below (s₁.setTop (mkF m 0 #[.val (.ref a)] [])) _
    refine XS.aloadN X0.here hx rfl (hb hby d8_0) rfl rfl ?_
    show Steps p.tables e below (s₁.setTop (mkF m 1 #[.val (.ref a)] [(.ref a)])) _
    refine st1 _ ?_
    show Steps p.tables e below (T1.setTop (mkF m 4 #[.val (.ref a)] [(.long x0)])) _
    jvm_step X1.here [X1.here.top, hx, (hb hby d8_4), X1.method', Bd.returns, narrow]
    first | (intro acts; rw [hr _ acts rfl rfl rfl]) | rw [hr _ _ rfl rfl rfl]
    exact Steps.refl _
  · show Q_updated Z a x0 h0 n0 _ T1.heap _
    rw [e1]
    exact ⟨rfl, N0, K0⟩
theorem d9_0 : decode prog_24_method_10_code 0 = .ok (.aload_n 0, 1) := by decide +kernel
theorem d9_1 : decode prog_24_method_10_code 1 = .ok (.getfield 19, 3) := by decide +kernel
theorem d9_4 : decode prog_24_method_10_code 4 = .ok (.lreturn, 1) := by decide +kernel
def Q_deleted (Z : State) (a : Addr) (x0 : Int64) (h0 : Heap) (n0 : Nat) (v : Option Value) (h : Heap) (L : List Loc) : Prop := v = some (.long x0) ∧ Fr n0 L ∧ Keep h0 h []
theorem ef_rm_deleted (m : MethodId) (x0 : Addr) : entryFrame m #[(.ref x0)] 1 = mkF m 0 #[.val (.ref x0)] [] := by first | (simp [entryFrame, mkF, argsToLocals, Value.category]; done) | rfl
set_option maxRecDepth 65536 in
set_option maxHeartbeats 40000000 in
theorem rm_deleted (l : Launch) (Z : State) (a0 : Array Value) (hw : ∀ d ∈ tables_1, d.before a0 Z = true) (ws : List Jvm.Cond) (a : Addr) (x0 : Int64) (h0 : Heap) (n0 : Nat) (O0 : Old Z n0 h0) (F0 : Fld Z h0 a "com/example/shelfmark/shelfmark/ingest/FileReport" "deleted" "J" (.long x0)) :
    MetFree l (⟨"com/example/shelfmark/shelfmark/ingest/FileReport", "deleted", "()J"⟩ : MethodName) (head1 (Jvm.Cond.code (⟨"com/example/shelfmark/shelfmark/ingest/FileReport", "deleted", "()J"⟩ : MethodName) prog_24_method_10_code 1 (some .long) :: ws) ({ frames := 0, cells := 0, slots := 0, locals := 0 } : Room)) (fun as' U => as' = #[(.ref a)] ∧ Z.Warmed39 U.vm ∧ U.heap = h0) (fun _ _ _ _ _ => True) (fun _ U o U' => ∃ v L, o = .returned v ∧ Q_deleted Z a x0 h0 n0 v U'.heap L ∧ FrameEnd U o U' L ({ frames := 0, cells := 0, slots := 0, locals := 0 } : Room).cells ({ frames := 0, cells := 0, slots := 0, locals := 0 } : Room).slots) := by
  refine MetFree.of_bodySF (plainFor_of_name pn_com_example_shelfmark_shelfmark_ingest_FileReport) hisR ?_
  intro p e s m args below meth c s₁ Bd hml0 hP hK
  obtain ⟨rfl, hZ, hh⟩ := hP
  have hx := Bd.exec
  have hby := Bd.bytes
  have hml : c.maxLocals = 1 := hml0
  have hown : s.vm.findClass "com/example/shelfmark/shelfmark/ingest/FileReport" = some m.cls := findClass_of_methodNamed Bd.named
  have hnm := (name_of_methodNamed Bd.named Bd.method).1
  have X0 : Stand p l e ({ frames := 0, cells := 0, slots := 0, locals := 0 } : Room) s m #[(.ref a)] below meth c s₁ [] 0 0 := Stand.of_body Bd
  have e0 : s₁.heap = h0 := by rw [← hh, Bd.state]; rfl
  have N0 := Fr.nil n0
  have K0 : Keep h0 h0 [] := Keep.refl _ _
  have pre0 : ∀ t, Steps p.tables e below (s₁.setTop (mkF m 0 #[.val (.ref a)] [])) t → Steps p.tables e below (s₁.setTop (entryFrame m #[(.ref a)] 1)) t := fun t k => castTop (ef_rm_deleted m a) k
  obtain ⟨T1, X1, e1, st1⟩ := getF X0 hx hZ hown (host := "") (Or.inl (w_20 hw)) Via.refl e0 F0 (g := (mkF m 1 #[.val (.ref a)] [(.ref a)])) rfl rfl (hb hby d9_1)
  obtain ⟨fs, hr, hrun, hended, hW, hsame⟩ := X1.leave (v := some (.long x0)) (fun h => by rw [Bd.returns] at h; cases h)
  refine ⟨_, _, pre0 _ ?_, hrun, hended, _, _, rfl, ?_, ⟨_, rfl⟩, hW, hsame.mono (by decide) (by decide)⟩
  · show Steps p.tables e below (s₁.setTop (mkF m 0 #[.val (.ref a)] [])) _
    refine XS.aloadN X0.here hx rfl (hb hby d9_0) rfl rfl ?_
    show Steps p.tables e below (s₁.setTop (mkF m 1 #[.val (.ref a)] [(.ref a)])) _
    refine st1 _ ?_
    show Steps p.tables e below (T1.setTop (mkF m 4 #[.val (.ref a)] [(.long x0)])) _
    jvm_step X1.here [X1.here.top, hx, (hb hby d9_4), X1.method', Bd.returns, narrow]
    first | (intro acts; rw [hr _ acts rfl rfl rfl]) | rw [hr _ _ rfl rfl rfl]
    exact Steps.refl _
  · show Q_deleted Z a x0 h0 n0 _ T1.heap _
    rw [e1]
    exact ⟨rfl, N0, K0⟩
theorem d10_0 : decode prog_24_method_11_code 0 = .ok (.aload_n 0, 1) := by decide +kernel
theorem d10_1 : decode prog_24_method_11_code 1 = .ok (.getfield 22, 3) := by decide +kernel
theorem d10_4 : decode prog_24_method_11_code 4 = .ok (.lreturn, 1) := by decide +kernel
def Q_rejected (Z : State) (a : Addr) (x0 : Int64) (h0 : Heap) (n0 : Nat) (v : Option Value) (h : Heap) (L : List Loc) : Prop := v = some (.long x0) ∧ Fr n0 L ∧ Keep h0 h []
theorem ef_rm_rejected (m : MethodId) (x0 : Addr) : entryFrame m #[(.ref x0)] 1 = mkF m 0 #[.val (.ref x0)] [] := by first | (simp [entryFrame, mkF, argsToLocals, Value.category]; done) | rfl
set_option maxRecDepth 65536 in
set_option maxHeartbeats 40000000 in
theorem rm_rejected (l : Launch) (Z : State) (a0 : Array Value) (hw : ∀ d ∈ tables_1, d.before a0 Z = true) (ws : List Jvm.Cond) (a : Addr) (x0 : Int64) (h0 : Heap) (n0 : Nat) (O0 : Old Z n0 h0) (F0 : Fld Z h0 a "com/example/shelfmark/shelfmark/ingest/FileReport" "rejected" "J" (.long x0)) :
    MetFree l (⟨"com/example/shelfmark/shelfmark/ingest/FileReport", "rejected", "()J"⟩ : MethodName) (head1 (Jvm.Cond.code (⟨"com/example/shelfmark/shelfmark/ingest/FileReport", "rejected", "()J"⟩ : MethodName) prog_24_method_11_code 1 (some .long) :: ws) ({ frames := 0, cells := 0, slots := 0, locals := 0 } : Room)) (fun as' U => as' = #[(.ref a)] ∧ Z.Warmed39 U.vm ∧ U.heap = h0) (fun _ _ _ _ _ => True) (fun _ U o U' => ∃ v L, o = .returned v ∧ Q_rejected Z a x0 h0 n0 v U'.heap L ∧ FrameEnd U o U' L ({ frames := 0, cells := 0, slots := 0, locals := 0 } : Room).cells ({ frames := 0, cells := 0, slots := 0, locals := 0 } : Room).slots) := by
  refine MetFree.of_bodySF (plainFor_of_name pn_com_example_shelfmark_shelfmark_ingest_FileReport) hisR ?_
  intro p e s m args below meth c s₁ Bd hml0 hP hK
  obtain ⟨rfl, hZ, hh⟩ := hP
  have hx := Bd.exec
  have hby := Bd.bytes
  have hml : c.maxLocals = 1 := hml0
  have hown : s.vm.findClass "com/example/shelfmark/shelfmark/ingest/FileReport" = some m.cls := findClass_of_methodNamed Bd.named
  have hnm := (name_of_methodNamed Bd.named Bd.method).1
  have X0 : Stand p l e ({ frames := 0, cells := 0, slots := 0, locals := 0 } : Room) s m #[(.ref a)] below meth c s₁ [] 0 0 := Stand.of_body Bd
  have e0 : s₁.heap = h0 := by rw [← hh, Bd.state]; rfl
  have N0 := Fr.nil n0
  have K0 : Keep h0 h0 [] := Keep.refl _ _
  have pre0 : ∀ t, Steps p.tables e below (s₁.setTop (mkF m 0 #[.val (.ref a)] [])) t → Steps p.tables e below (s₁.setTop (entryFrame m #[(.ref a)] 1)) t := fun t k => castTop (ef_rm_rejected m a) k
  obtain ⟨T1, X1, e1, st1⟩ := getF X0 hx hZ hown (host := "") (Or.inl (w_22 hw)) Via.refl e0 F0 (g := (mkF m 1 #[.val (.ref a)] [(.ref a)])) rfl rfl (hb hby d10_1)
  obtain ⟨fs, hr, hrun, hended, hW, hsame⟩ := X1.leave (v := some (.long x0)) (fun h => by rw [Bd.returns] at h; cases h)
  refine ⟨_, _, pre0 _ ?_, hrun, hended, _, _, rfl, ?_, ⟨_, rfl⟩, hW, hsame.mono (by decide) (by decide)⟩
  · show Steps p.tables e below (s₁.setTop (mkF m 0 #[.val (.ref a)] [])) _
    refine XS.aloadN X0.here hx rfl (hb hby d10_0) rfl rfl ?_
    show Steps p.tables e below (s₁.setTop (mkF m 1 #[.val (.ref a)] [(.ref a)])) _
    refine st1 _ ?_
    show Steps p.tables e below (T1.setTop (mkF m 4 #[.val (.ref a)] [(.long x0)])) _
    jvm_step X1.here [X1.here.top, hx, (hb hby d10_4), X1.method', Bd.returns, narrow]
    first | (intro acts; rw [hr _ acts rfl rfl rfl]) | rw [hr _ _ rfl rfl rfl]
    exact Steps.refl _
  · show Q_rejected Z a x0 h0 n0 _ T1.heap _
    rw [e1]
    exact ⟨rfl, N0, K0⟩
theorem d5_0 : decode method_2_code 0 = .ok (.aload_n 0, 1) := by decide +kernel
theorem pd_2 : parseMethodDescriptor "()J" = some ⟨[], some .long⟩ := by decide +kernel
theorem d5_1 : decode method_2_code 1 = .ok (.invokevirtual 7, 3) := by decide +kernel
theorem d5_4 : decode method_2_code 4 = .ok (.aload_n 1, 1) := by decide +kernel
theorem d5_5 : decode method_2_code 5 = .ok (.invokevirtual 7, 3) := by decide +kernel
theorem d5_8 : decode method_2_code 8 = .ok (.lcmp, 1) := by decide +kernel
theorem d5_9 : decode method_2_code 9 = .ok (.ifCond .ne 55, 3) := by decide +kernel
theorem d5_12 : decode method_2_code 12 = .ok (.aload_n 0, 1) := by decide +kernel
theorem d5_13 : decode method_2_code 13 = .ok (.invokevirtual 13, 3) := by decide +kernel
theorem d5_16 : decode method_2_code 16 = .ok (.aload_n 1, 1) := by decide +kernel
theorem d5_17 : decode method_2_code 17 = .ok (.invokevirtual 13, 3) := by decide +kernel
theorem d5_20 : decode method_2_code 20 = .ok (.lcmp, 1) := by decide +kernel
theorem d5_21 : decode method_2_code 21 = .ok (.ifCond .ne 43, 3) := by decide +kernel
theorem d5_24 : decode method_2_code 24 = .ok (.aload_n 0, 1) := by decide +kernel
theorem d5_25 : decode method_2_code 25 = .ok (.invokevirtual 16, 3) := by decide +kernel
theorem d5_28 : decode method_2_code 28 = .ok (.aload_n 1, 1) := by decide +kernel
theorem d5_29 : decode method_2_code 29 = .ok (.invokevirtual 16, 3) := by decide +kernel
theorem d5_32 : decode method_2_code 32 = .ok (.lcmp, 1) := by decide +kernel
theorem d5_33 : decode method_2_code 33 = .ok (.ifCond .ne 31, 3) := by decide +kernel
theorem d5_36 : decode method_2_code 36 = .ok (.aload_n 0, 1) := by decide +kernel
theorem d5_37 : decode method_2_code 37 = .ok (.invokevirtual 19, 3) := by decide +kernel
theorem d5_40 : decode method_2_code 40 = .ok (.aload_n 1, 1) := by decide +kernel
theorem d5_41 : decode method_2_code 41 = .ok (.invokevirtual 19, 3) := by decide +kernel
theorem d5_44 : decode method_2_code 44 = .ok (.lcmp, 1) := by decide +kernel
theorem d5_45 : decode method_2_code 45 = .ok (.ifCond .ne 19, 3) := by decide +kernel
theorem d5_48 : decode method_2_code 48 = .ok (.aload_n 0, 1) := by decide +kernel
theorem d5_49 : decode method_2_code 49 = .ok (.invokevirtual 22, 3) := by decide +kernel
theorem d5_52 : decode method_2_code 52 = .ok (.aload_n 1, 1) := by decide +kernel
theorem d5_53 : decode method_2_code 53 = .ok (.invokevirtual 22, 3) := by decide +kernel
theorem d5_56 : decode method_2_code 56 = .ok (.lcmp, 1) := by decide +kernel
theorem d5_57 : decode method_2_code 57 = .ok (.ifCond .ne 7, 3) := by decide +kernel
theorem d5_60 : decode method_2_code 60 = .ok (.iconst 1, 1) := by decide +kernel
theorem d5_61 : decode method_2_code 61 = .ok (.goto 4, 3) := by decide +kernel
theorem d5_65 : decode method_2_code 65 = .ok (.ireturn, 1) := by decide +kernel
def Q_same (Z : State) (a : Addr) (b : Addr) (x0 : Int64) (x1 : Int64) (x2 : Int64) (x3 : Int64) (x4 : Int64) (y0 : Int64) (y1 : Int64) (y2 : Int64) (y3 : Int64) (y4 : Int64) (h0 : Heap) (n0 : Nat) (v : Option Value) (h : Heap) (L : List Loc) : Prop := v = some (.int (1 : Int32)) ∧ Fr n0 L ∧ Keep h0 h []
theorem pn_com_example_shelfmark_shelfmark_ingest_FileReportPlusPinLaw : plainName "com/example/shelfmark/shelfmark/ingest/FileReportPlusPinLaw" = true := by first | (simp [plainName, overriddenIn]; done) | decide +kernel
theorem ef_rm_same (m : MethodId) (x0 : Addr) (x1 : Addr) : entryFrame m #[(.ref x0), (.ref x1)] 2 = mkF m 0 #[.val (.ref x0), .val (.ref x1)] [] := by first | (simp [entryFrame, mkF, argsToLocals, Value.category]; done) | rfl
set_option maxRecDepth 65536 in
set_option maxHeartbeats 40000000 in
theorem rm_same (l : Launch) (Z : State) (a0 : Array Value) (hw : ∀ d ∈ tables_1, d.before a0 Z = true) (ws : List Jvm.Cond) (a : Addr) (b : Addr) (x0 : Int64) (x1 : Int64) (x2 : Int64) (x3 : Int64) (x4 : Int64) (y0 : Int64) (y1 : Int64) (y2 : Int64) (y3 : Int64) (y4 : Int64) (h0 : Heap) (n0 : Nat) (O0 : Old Z n0 h0) (E_a : Exa Z h0 a "com/example/shelfmark/shelfmark/ingest/FileReport") (E_b : Exa Z h0 b "com/example/shelfmark/shelfmark/ingest/FileReport") (F0 : Fld Z h0 a "com/example/shelfmark/shelfmark/ingest/FileReport" "read" "J" (.long x0)) (F1 : Fld Z h0 a "com/example/shelfmark/shelfmark/ingest/FileReport" "added" "J" (.long x1)) (F2 : Fld Z h0 a "com/example/shelfmark/shelfmark/ingest/FileReport" "updated" "J" (.long x2)) (F3 : Fld Z h0 a "com/example/shelfmark/shelfmark/ingest/FileReport" "deleted" "J" (.long x3)) (F4 : Fld Z h0 a "com/example/shelfmark/shelfmark/ingest/FileReport" "rejected" "J" (.long x4)) (G0 : Fld Z h0 b "com/example/shelfmark/shelfmark/ingest/FileReport" "read" "J" (.long y0)) (G1 : Fld Z h0 b "com/example/shelfmark/shelfmark/ingest/FileReport" "added" "J" (.long y1)) (G2 : Fld Z h0 b "com/example/shelfmark/shelfmark/ingest/FileReport" "updated" "J" (.long y2)) (G3 : Fld Z h0 b "com/example/shelfmark/shelfmark/ingest/FileReport" "deleted" "J" (.long y3)) (G4 : Fld Z h0 b "com/example/shelfmark/shelfmark/ingest/FileReport" "rejected" "J" (.long y4)) (q0 : x0 = y0) (q1 : x1 = y1) (q2 : x2 = y2) (q3 : x3 = y3) (q4 : x4 = y4) :
    MetFree l (⟨"com/example/shelfmark/shelfmark/ingest/FileReportPlusPinLaw", "same", "(Lcom/example/shelfmark/shelfmark/ingest/FileReport;Lcom/example/shelfmark/shelfmark/ingest/FileReport;)Z"⟩ : MethodName) (head1 (Jvm.Cond.code (⟨"com/example/shelfmark/shelfmark/ingest/FileReportPlusPinLaw", "same", "(Lcom/example/shelfmark/shelfmark/ingest/FileReport;Lcom/example/shelfmark/shelfmark/ingest/FileReport;)Z"⟩ : MethodName) method_2_code 2 (some .boolean) :: ws) ({ frames := 1, cells := 0, slots := 0, locals := 14 } : Room)) (fun as' U => as' = #[(.ref a), (.ref b)] ∧ Z.Warmed39 U.vm ∧ U.heap = h0) (fun _ _ _ _ _ => True) (fun _ U o U' => ∃ v L, o = .returned v ∧ Q_same Z a b x0 x1 x2 x3 x4 y0 y1 y2 y3 y4 h0 n0 v U'.heap L ∧ FrameEnd U o U' L ({ frames := 1, cells := 0, slots := 0, locals := 14 } : Room).cells ({ frames := 1, cells := 0, slots := 0, locals := 14 } : Room).slots) := by
  refine MetFree.of_bodySF (plainFor_of_name pn_com_example_shelfmark_shelfmark_ingest_FileReportPlusPinLaw) hisR ?_
  intro p e s m args below meth c s₁ Bd hml0 hP hK
  obtain ⟨rfl, hZ, hh⟩ := hP
  have hx := Bd.exec
  have hby := Bd.bytes
  have hml : c.maxLocals = 2 := hml0
  have hown : s.vm.findClass "com/example/shelfmark/shelfmark/ingest/FileReportPlusPinLaw" = some m.cls := findClass_of_methodNamed Bd.named
  have hnm := (name_of_methodNamed Bd.named Bd.method).1
  have X0 : Stand p l e ({ frames := 1, cells := 0, slots := 0, locals := 14 } : Room) s m #[(.ref a), (.ref b)] below meth c s₁ [] 0 0 := Stand.of_body Bd
  have e0 : s₁.heap = h0 := by rw [← hh, Bd.state]; rfl
  have N0 := Fr.nil n0
  have K0 : Keep h0 h0 [] := Keep.refl _ _
  have pre0 : ∀ t, Steps p.tables e below (s₁.setTop (mkF m 0 #[.val (.ref a), .val (.ref b)] [])) t → Steps p.tables e below (s₁.setTop (entryFrame m #[(.ref a), (.ref b)] 2)) t := fun t k => castTop (ef_rm_same m a b) k
  obtain ⟨cq1, kq1, q1a, q1b, q1c⟩ := isOf hZ e0 E_a
  obtain ⟨_, _, ⟨T1, Lo1, kk1, nn1⟩, -, X1, ⟨Lc1, hQ1, ll1, yy1, zz1⟩, st1⟩ := X0.virtualBack hx (y := (⟨"com/example/shelfmark/shelfmark/ingest/FileReport", "read", "()J"⟩ : MethodName)) (z := (⟨"com/example/shelfmark/shelfmark/ingest/FileReport", "read", "()J"⟩ : MethodName)) hown (mvT hZ (w_37 hw)) (mvT hZ (w_38 hw)) (notFace_of_selects (args := #[]) (mvT hZ (w_40 hw))) (mvT hZ (w_40 hw)) (mvT hZ (w_39 hw)) (by decide) (backOf (W := 0) (rm_read l Z a0 hw [] a x0 h0 n0 O0 F0) hZ (w_41 hw) (w_2 hw) (by decide) (by decide)) q1a q1c (g := (mkF m 1 #[.val (.ref a), .val (.ref b)] [(.ref a)])) rfl (by rw [hml]; rfl) (Steps.refl _) (argsL := []) (rest := []) (lenOf pd_2 rfl) rfl (by show 2 * 0 + _ ≤ _; exact Nat.le_of_eq rfl) (hb hby d5_1) (fun _ _ => ⟨rfl, e0, (by decide : 0 + 0 ≤ _), (by decide : 0 + 0 ≤ _)⟩)
  dsimp only [Pt.U, Pt.locs, Pt.cells, Pt.slots] at X1 ll1 yy1 zz1 st1 hQ1
  subst ll1 yy1 zz1
  obtain ⟨rfl, N1q, K1q⟩ := hQ1
  have N1 := Fr.app N0 N1q
  have f1 : Keep h0 T1.heap [] := K0.trans K1q all0
  have f2 : Old Z n0 T1.heap := O0.keep K1q all0
  have f3 : Fld Z T1.heap b "com/example/shelfmark/shelfmark/ingest/FileReport" "read" "J" (.long y0) := G0.keep K1q nin0
  have f4 : Exa Z T1.heap b "com/example/shelfmark/shelfmark/ingest/FileReport" := E_b.keep K1q
  obtain ⟨cq5, kq5, q5a, q5b, q5c⟩ := isOf hZ rfl f4
  obtain ⟨_, _, ⟨T5, Lo5, kk5, nn5⟩, -, X5, ⟨Lc5, hQ5, ll5, yy5, zz5⟩, st5⟩ := X1.virtualBack hx (y := (⟨"com/example/shelfmark/shelfmark/ingest/FileReport", "read", "()J"⟩ : MethodName)) (z := (⟨"com/example/shelfmark/shelfmark/ingest/FileReport", "read", "()J"⟩ : MethodName)) hown (mvT hZ (w_37 hw)) (mvT hZ (w_38 hw)) (notFace_of_selects (args := #[]) (mvT hZ (w_40 hw))) (mvT hZ (w_40 hw)) (mvT hZ (w_39 hw)) (by decide) (backOf (W := 2) (rm_read l Z a0 hw [] b y0 T1.heap n0 f2 f3) hZ (w_41 hw) (w_2 hw) (by decide) (by decide)) q5a q5c (g := (mkF m 5 #[.val (.ref a), .val (.ref b)] [(.ref b), (.long x0)])) rfl (by rw [hml]; rfl) (Steps.refl _) (argsL := []) (rest := [(.long x0)]) (lenOf pd_2 rfl) rfl (by show 2 * 0 + _ ≤ _; exact Nat.le_of_eq rfl) (hb hby d5_5) (fun _ _ => ⟨rfl, rfl, (by decide : 0 + 0 ≤ _), (by decide : 0 + 0 ≤ _)⟩)
  dsimp only [Pt.U, Pt.locs, Pt.cells, Pt.slots] at X5 ll5 yy5 zz5 st5 hQ5
  subst ll5 yy5 zz5
  obtain ⟨rfl, N5q, K5q⟩ := hQ5
  have N5 := Fr.app N1 N5q
  have f5 : Keep h0 T5.heap [] := f1.trans K5q all0
  have f6 : Old Z n0 T5.heap := f2.keep K5q all0
  have f7 : Fld Z T1.heap a "com/example/shelfmark/shelfmark/ingest/FileReport" "added" "J" (.long x1) := F1.keep K1q nin0
  have f8 : Fld Z T5.heap a "com/example/shelfmark/shelfmark/ingest/FileReport" "added" "J" (.long x1) := f7.keep K5q nin0
  have f9 : Exa Z T1.heap a "com/example/shelfmark/shelfmark/ingest/FileReport" := E_a.keep K1q
  have f10 : Exa Z T5.heap a "com/example/shelfmark/shelfmark/ingest/FileReport" := f9.keep K5q
  obtain ⟨cq13, kq13, q13a, q13b, q13c⟩ := isOf hZ rfl f10
  obtain ⟨_, _, ⟨T13, Lo13, kk13, nn13⟩, -, X13, ⟨Lc13, hQ13, ll13, yy13, zz13⟩, st13⟩ := X5.virtualBack hx (y := (⟨"com/example/shelfmark/shelfmark/ingest/FileReport", "added", "()J"⟩ : MethodName)) (z := (⟨"com/example/shelfmark/shelfmark/ingest/FileReport", "added", "()J"⟩ : MethodName)) hown (mvT hZ (w_42 hw)) (mvT hZ (w_43 hw)) (notFace_of_selects (args := #[]) (mvT hZ (w_45 hw))) (mvT hZ (w_45 hw)) (mvT hZ (w_44 hw)) (by decide) (backOf (W := 0) (rm_added l Z a0 hw [] a x1 T5.heap n0 f6 f8) hZ (w_46 hw) (w_2 hw) (by decide) (by decide)) q13a q13c (g := (mkF m 13 #[.val (.ref a), .val (.ref b)] [(.ref a)])) rfl (by rw [hml]; rfl) (Steps.refl _) (argsL := []) (rest := []) (lenOf pd_2 rfl) rfl (by show 2 * 0 + _ ≤ _; exact Nat.le_of_eq rfl) (hb hby d5_13) (fun _ _ => ⟨rfl, rfl, (by decide : 0 + 0 ≤ _), (by decide : 0 + 0 ≤ _)⟩)
  dsimp only [Pt.U, Pt.locs, Pt.cells, Pt.slots] at X13 ll13 yy13 zz13 st13 hQ13
  subst ll13 yy13 zz13
  obtain ⟨rfl, N13q, K13q⟩ := hQ13
  have N13 := Fr.app N5 N13q
  have f11 : Keep h0 T13.heap [] := f5.trans K13q all0
  have f12 : Old Z n0 T13.heap := f6.keep K13q all0
  have f13 : Fld Z T1.heap b "com/example/shelfmark/shelfmark/ingest/FileReport" "added" "J" (.long y1) := G1.keep K1q nin0
  have f14 : Fld Z T5.heap b "com/example/shelfmark/shelfmark/ingest/FileReport" "added" "J" (.long y1) := f13.keep K5q nin0
  have f15 : Fld Z T13.heap b "com/example/shelfmark/shelfmark/ingest/FileReport" "added" "J" (.long y1) := f14.keep K13q nin0
  have f16 : Exa Z T5.heap b "com/example/shelfmark/shelfmark/ingest/FileReport" := f4.keep K5q
  have f17 : Exa Z T13.heap b "com/example/shelfmark/shelfmark/ingest/FileReport" := f16.keep K13q
  obtain ⟨cq17, kq17, q17a, q17b, q17c⟩ := isOf hZ rfl f17
  obtain ⟨_, _, ⟨T17, Lo17, kk17, nn17⟩, -, X17, ⟨Lc17, hQ17, ll17, yy17, zz17⟩, st17⟩ := X13.virtualBack hx (y := (⟨"com/example/shelfmark/shelfmark/ingest/FileReport", "added", "()J"⟩ : MethodName)) (z := (⟨"com/example/shelfmark/shelfmark/ingest/FileReport", "added", "()J"⟩ : MethodName)) hown (mvT hZ (w_42 hw)) (mvT hZ (w_43 hw)) (notFace_of_selects (args := #[]) (mvT hZ (w_45 hw))) (mvT hZ (w_45 hw)) (mvT hZ (w_44 hw)) (by decide) (backOf (W := 2) (rm_added l Z a0 hw [] b y1 T13.heap n0 f12 f15) hZ (w_46 hw) (w_2 hw) (by decide) (by decide)) q17a q17c (g := (mkF m 17 #[.val (.ref a), .val (.ref b)] [(.ref b), (.long x1)])) rfl (by rw [hml]; rfl) (Steps.refl _) (argsL := []) (rest := [(.long x1)]) (lenOf pd_2 rfl) rfl (by show 2 * 0 + _ ≤ _; exact Nat.le_of_eq rfl) (hb hby d5_17) (fun _ _ => ⟨rfl, rfl, (by decide : 0 + 0 ≤ _), (by decide : 0 + 0 ≤ _)⟩)
  dsimp only [Pt.U, Pt.locs, Pt.cells, Pt.slots] at X17 ll17 yy17 zz17 st17 hQ17
  subst ll17 yy17 zz17
  obtain ⟨rfl, N17q, K17q⟩ := hQ17
  have N17 := Fr.app N13 N17q
  have f18 : Keep h0 T17.heap [] := f11.trans K17q all0
  have f19 : Old Z n0 T17.heap := f12.keep K17q all0
  have f20 : Fld Z T1.heap a "com/example/shelfmark/shelfmark/ingest/FileReport" "updated" "J" (.long x2) := F2.keep K1q nin0
  have f21 : Fld Z T5.heap a "com/example/shelfmark/shelfmark/ingest/FileReport" "updated" "J" (.long x2) := f20.keep K5q nin0
  have f22 : Fld Z T13.heap a "com/example/shelfmark/shelfmark/ingest/FileReport" "updated" "J" (.long x2) := f21.keep K13q nin0
  have f23 : Fld Z T17.heap a "com/example/shelfmark/shelfmark/ingest/FileReport" "updated" "J" (.long x2) := f22.keep K17q nin0
  have f24 : Exa Z T13.heap a "com/example/shelfmark/shelfmark/ingest/FileReport" := f10.keep K13q
  have f25 : Exa Z T17.heap a "com/example/shelfmark/shelfmark/ingest/FileReport" := f24.keep K17q
  obtain ⟨cq25, kq25, q25a, q25b, q25c⟩ := isOf hZ rfl f25
  obtain ⟨_, _, ⟨T25, Lo25, kk25, nn25⟩, -, X25, ⟨Lc25, hQ25, ll25, yy25, zz25⟩, st25⟩ := X17.virtualBack hx (y := (⟨"com/example/shelfmark/shelfmark/ingest/FileReport", "updated", "()J"⟩ : MethodName)) (z := (⟨"com/example/shelfmark/shelfmark/ingest/FileReport", "updated", "()J"⟩ : MethodName)) hown (mvT hZ (w_47 hw)) (mvT hZ (w_48 hw)) (notFace_of_selects (args := #[]) (mvT hZ (w_50 hw))) (mvT hZ (w_50 hw)) (mvT hZ (w_49 hw)) (by decide) (backOf (W := 0) (rm_updated l Z a0 hw [] a x2 T17.heap n0 f19 f23) hZ (w_51 hw) (w_2 hw) (by decide) (by decide)) q25a q25c (g := (mkF m 25 #[.val (.ref a), .val (.ref b)] [(.ref a)])) rfl (by rw [hml]; rfl) (Steps.refl _) (argsL := []) (rest := []) (lenOf pd_2 rfl) rfl (by show 2 * 0 + _ ≤ _; exact Nat.le_of_eq rfl) (hb hby d5_25) (fun _ _ => ⟨rfl, rfl, (by decide : 0 + 0 ≤ _), (by decide : 0 + 0 ≤ _)⟩)
  dsimp only [Pt.U, Pt.locs, Pt.cells, Pt.slots] at X25 ll25 yy25 zz25 st25 hQ25
  subst ll25 yy25 zz25
  obtain ⟨rfl, N25q, K25q⟩ := hQ25
  have N25 := Fr.app N17 N25q
  have f26 : Keep h0 T25.heap [] := f18.trans K25q all0
  have f27 : Old Z n0 T25.heap := f19.keep K25q all0
  have f28 : Fld Z T1.heap b "com/example/shelfmark/shelfmark/ingest/FileReport" "updated" "J" (.long y2) := G2.keep K1q nin0
  have f29 : Fld Z T5.heap b "com/example/shelfmark/shelfmark/ingest/FileReport" "updated" "J" (.long y2) := f28.keep K5q nin0
  have f30 : Fld Z T13.heap b "com/example/shelfmark/shelfmark/ingest/FileReport" "updated" "J" (.long y2) := f29.keep K13q nin0
  have f31 : Fld Z T17.heap b "com/example/shelfmark/shelfmark/ingest/FileReport" "updated" "J" (.long y2) := f30.keep K17q nin0
  have f32 : Fld Z T25.heap b "com/example/shelfmark/shelfmark/ingest/FileReport" "updated" "J" (.long y2) := f31.keep K25q nin0
  have f33 : Exa Z T17.heap b "com/example/shelfmark/shelfmark/ingest/FileReport" := f17.keep K17q
  have f34 : Exa Z T25.heap b "com/example/shelfmark/shelfmark/ingest/FileReport" := f33.keep K25q
  obtain ⟨cq29, kq29, q29a, q29b, q29c⟩ := isOf hZ rfl f34
  obtain ⟨_, _, ⟨T29, Lo29, kk29, nn29⟩, -, X29, ⟨Lc29, hQ29, ll29, yy29, zz29⟩, st29⟩ := X25.virtualBack hx (y := (⟨"com/example/shelfmark/shelfmark/ingest/FileReport", "updated", "()J"⟩ : MethodName)) (z := (⟨"com/example/shelfmark/shelfmark/ingest/FileReport", "updated", "()J"⟩ : MethodName)) hown (mvT hZ (w_47 hw)) (mvT hZ (w_48 hw)) (notFace_of_selects (args := #[]) (mvT hZ (w_50 hw))) (mvT hZ (w_50 hw)) (mvT hZ (w_49 hw)) (by decide) (backOf (W := 2) (rm_updated l Z a0 hw [] b y2 T25.heap n0 f27 f32) hZ (w_51 hw) (w_2 hw) (by decide) (by decide)) q29a q29c (g := (mkF m 29 #[.val (.ref a), .val (.ref b)] [(.ref b), (.long x2)])) rfl (by rw [hml]; rfl) (Steps.refl _) (argsL := []) (rest := [(.long x2)]) (lenOf pd_2 rfl) rfl (by show 2 * 0 + _ ≤ _; exact Nat.le_of_eq rfl) (hb hby d5_29) (fun _ _ => ⟨rfl, rfl, (by decide : 0 + 0 ≤ _), (by decide : 0 + 0 ≤ _)⟩)
  dsimp only [Pt.U, Pt.locs, Pt.cells, Pt.slots] at X29 ll29 yy29 zz29 st29 hQ29
  subst ll29 yy29 zz29
  obtain ⟨rfl, N29q, K29q⟩ := hQ29
  have N29 := Fr.app N25 N29q
  have f35 : Keep h0 T29.heap [] := f26.trans K29q all0
  have f36 : Old Z n0 T29.heap := f27.keep K29q all0
  have f37 : Fld Z T1.heap a "com/example/shelfmark/shelfmark/ingest/FileReport" "deleted" "J" (.long x3) := F3.keep K1q nin0
  have f38 : Fld Z T5.heap a "com/example/shelfmark/shelfmark/ingest/FileReport" "deleted" "J" (.long x3) := f37.keep K5q nin0
  have f39 : Fld Z T13.heap a "com/example/shelfmark/shelfmark/ingest/FileReport" "deleted" "J" (.long x3) := f38.keep K13q nin0
  have f40 : Fld Z T17.heap a "com/example/shelfmark/shelfmark/ingest/FileReport" "deleted" "J" (.long x3) := f39.keep K17q nin0
  have f41 : Fld Z T25.heap a "com/example/shelfmark/shelfmark/ingest/FileReport" "deleted" "J" (.long x3) := f40.keep K25q nin0
  have f42 : Fld Z T29.heap a "com/example/shelfmark/shelfmark/ingest/FileReport" "deleted" "J" (.long x3) := f41.keep K29q nin0
  have f43 : Exa Z T25.heap a "com/example/shelfmark/shelfmark/ingest/FileReport" := f25.keep K25q
  have f44 : Exa Z T29.heap a "com/example/shelfmark/shelfmark/ingest/FileReport" := f43.keep K29q
  obtain ⟨cq37, kq37, q37a, q37b, q37c⟩ := isOf hZ rfl f44
  obtain ⟨_, _, ⟨T37, Lo37, kk37, nn37⟩, -, X37, ⟨Lc37, hQ37, ll37, yy37, zz37⟩, st37⟩ := X29.virtualBack hx (y := (⟨"com/example/shelfmark/shelfmark/ingest/FileReport", "deleted", "()J"⟩ : MethodName)) (z := (⟨"com/example/shelfmark/shelfmark/ingest/FileReport", "deleted", "()J"⟩ : MethodName)) hown (mvT hZ (w_52 hw)) (mvT hZ (w_53 hw)) (notFace_of_selects (args := #[]) (mvT hZ (w_55 hw))) (mvT hZ (w_55 hw)) (mvT hZ (w_54 hw)) (by decide) (backOf (W := 0) (rm_deleted l Z a0 hw [] a x3 T29.heap n0 f36 f42) hZ (w_56 hw) (w_2 hw) (by decide) (by decide)) q37a q37c (g := (mkF m 37 #[.val (.ref a), .val (.ref b)] [(.ref a)])) rfl (by rw [hml]; rfl) (Steps.refl _) (argsL := []) (rest := []) (lenOf pd_2 rfl) rfl (by show 2 * 0 + _ ≤ _; exact Nat.le_of_eq rfl) (hb hby d5_37) (fun _ _ => ⟨rfl, rfl, (by decide : 0 + 0 ≤ _), (by decide : 0 + 0 ≤ _)⟩)
  dsimp only [Pt.U, Pt.locs, Pt.cells, Pt.slots] at X37 ll37 yy37 zz37 st37 hQ37
  subst ll37 yy37 zz37
  obtain ⟨rfl, N37q, K37q⟩ := hQ37
  have N37 := Fr.app N29 N37q
  have f45 : Keep h0 T37.heap [] := f35.trans K37q all0
  have f46 : Old Z n0 T37.heap := f36.keep K37q all0
  have f47 : Fld Z T1.heap b "com/example/shelfmark/shelfmark/ingest/FileReport" "deleted" "J" (.long y3) := G3.keep K1q nin0
  have f48 : Fld Z T5.heap b "com/example/shelfmark/shelfmark/ingest/FileReport" "deleted" "J" (.long y3) := f47.keep K5q nin0
  have f49 : Fld Z T13.heap b "com/example/shelfmark/shelfmark/ingest/FileReport" "deleted" "J" (.long y3) := f48.keep K13q nin0
  have f50 : Fld Z T17.heap b "com/example/shelfmark/shelfmark/ingest/FileReport" "deleted" "J" (.long y3) := f49.keep K17q nin0
  have f51 : Fld Z T25.heap b "com/example/shelfmark/shelfmark/ingest/FileReport" "deleted" "J" (.long y3) := f50.keep K25q nin0
  have f52 : Fld Z T29.heap b "com/example/shelfmark/shelfmark/ingest/FileReport" "deleted" "J" (.long y3) := f51.keep K29q nin0
  have f53 : Fld Z T37.heap b "com/example/shelfmark/shelfmark/ingest/FileReport" "deleted" "J" (.long y3) := f52.keep K37q nin0
  have f54 : Exa Z T29.heap b "com/example/shelfmark/shelfmark/ingest/FileReport" := f34.keep K29q
  have f55 : Exa Z T37.heap b "com/example/shelfmark/shelfmark/ingest/FileReport" := f54.keep K37q
  obtain ⟨cq41, kq41, q41a, q41b, q41c⟩ := isOf hZ rfl f55
  obtain ⟨_, _, ⟨T41, Lo41, kk41, nn41⟩, -, X41, ⟨Lc41, hQ41, ll41, yy41, zz41⟩, st41⟩ := X37.virtualBack hx (y := (⟨"com/example/shelfmark/shelfmark/ingest/FileReport", "deleted", "()J"⟩ : MethodName)) (z := (⟨"com/example/shelfmark/shelfmark/ingest/FileReport", "deleted", "()J"⟩ : MethodName)) hown (mvT hZ (w_52 hw)) (mvT hZ (w_53 hw)) (notFace_of_selects (args := #[]) (mvT hZ (w_55 hw))) (mvT hZ (w_55 hw)) (mvT hZ (w_54 hw)) (by decide) (backOf (W := 2) (rm_deleted l Z a0 hw [] b y3 T37.heap n0 f46 f53) hZ (w_56 hw) (w_2 hw) (by decide) (by decide)) q41a q41c (g := (mkF m 41 #[.val (.ref a), .val (.ref b)] [(.ref b), (.long x3)])) rfl (by rw [hml]; rfl) (Steps.refl _) (argsL := []) (rest := [(.long x3)]) (lenOf pd_2 rfl) rfl (by show 2 * 0 + _ ≤ _; exact Nat.le_of_eq rfl) (hb hby d5_41) (fun _ _ => ⟨rfl, rfl, (by decide : 0 + 0 ≤ _), (by decide : 0 + 0 ≤ _)⟩)
  dsimp only [Pt.U, Pt.locs, Pt.cells, Pt.slots] at X41 ll41 yy41 zz41 st41 hQ41
  subst ll41 yy41 zz41
  obtain ⟨rfl, N41q, K41q⟩ := hQ41
  have N41 := Fr.app N37 N41q
  have f56 : Keep h0 T41.heap [] := f45.trans K41q all0
  have f57 : Old Z n0 T41.heap := f46.keep K41q all0
  have f58 : Fld Z T1.heap a "com/example/shelfmark/shelfmark/ingest/FileReport" "rejected" "J" (.long x4) := F4.keep K1q nin0
  have f59 : Fld Z T5.heap a "com/example/shelfmark/shelfmark/ingest/FileReport" "rejected" "J" (.long x4) := f58.keep K5q nin0
  have f60 : Fld Z T13.heap a "com/example/shelfmark/shelfmark/ingest/FileReport" "rejected" "J" (.long x4) := f59.keep K13q nin0
  have f61 : Fld Z T17.heap a "com/example/shelfmark/shelfmark/ingest/FileReport" "rejected" "J" (.long x4) := f60.keep K17q nin0
  have f62 : Fld Z T25.heap a "com/example/shelfmark/shelfmark/ingest/FileReport" "rejected" "J" (.long x4) := f61.keep K25q nin0
  have f63 : Fld Z T29.heap a "com/example/shelfmark/shelfmark/ingest/FileReport" "rejected" "J" (.long x4) := f62.keep K29q nin0
  have f64 : Fld Z T37.heap a "com/example/shelfmark/shelfmark/ingest/FileReport" "rejected" "J" (.long x4) := f63.keep K37q nin0
  have f65 : Fld Z T41.heap a "com/example/shelfmark/shelfmark/ingest/FileReport" "rejected" "J" (.long x4) := f64.keep K41q nin0
  have f66 : Exa Z T37.heap a "com/example/shelfmark/shelfmark/ingest/FileReport" := f44.keep K37q
  have f67 : Exa Z T41.heap a "com/example/shelfmark/shelfmark/ingest/FileReport" := f66.keep K41q
  obtain ⟨cq49, kq49, q49a, q49b, q49c⟩ := isOf hZ rfl f67
  obtain ⟨_, _, ⟨T49, Lo49, kk49, nn49⟩, -, X49, ⟨Lc49, hQ49, ll49, yy49, zz49⟩, st49⟩ := X41.virtualBack hx (y := (⟨"com/example/shelfmark/shelfmark/ingest/FileReport", "rejected", "()J"⟩ : MethodName)) (z := (⟨"com/example/shelfmark/shelfmark/ingest/FileReport", "rejected", "()J"⟩ : MethodName)) hown (mvT hZ (w_57 hw)) (mvT hZ (w_58 hw)) (notFace_of_selects (args := #[]) (mvT hZ (w_60 hw))) (mvT hZ (w_60 hw)) (mvT hZ (w_59 hw)) (by decide) (backOf (W := 0) (rm_rejected l Z a0 hw [] a x4 T41.heap n0 f57 f65) hZ (w_61 hw) (w_2 hw) (by decide) (by decide)) q49a q49c (g := (mkF m 49 #[.val (.ref a), .val (.ref b)] [(.ref a)])) rfl (by rw [hml]; rfl) (Steps.refl _) (argsL := []) (rest := []) (lenOf pd_2 rfl) rfl (by show 2 * 0 + _ ≤ _; exact Nat.le_of_eq rfl) (hb hby d5_49) (fun _ _ => ⟨rfl, rfl, (by decide : 0 + 0 ≤ _), (by decide : 0 + 0 ≤ _)⟩)
  dsimp only [Pt.U, Pt.locs, Pt.cells, Pt.slots] at X49 ll49 yy49 zz49 st49 hQ49
  subst ll49 yy49 zz49
  obtain ⟨rfl, N49q, K49q⟩ := hQ49
  have N49 := Fr.app N41 N49q
  have f68 : Keep h0 T49.heap [] := f56.trans K49q all0
  have f69 : Old Z n0 T49.heap := f57.keep K49q all0
  have f70 : Fld Z T1.heap b "com/example/shelfmark/shelfmark/ingest/FileReport" "rejected" "J" (.long y4) := G4.keep K1q nin0
  have f71 : Fld Z T5.heap b "com/example/shelfmark/shelfmark/ingest/FileReport" "rejected" "J" (.long y4) := f70.keep K5q nin0
  have f72 : Fld Z T13.heap b "com/example/shelfmark/shelfmark/ingest/FileReport" "rejected" "J" (.long y4) := f71.keep K13q nin0
  have f73 : Fld Z T17.heap b "com/example/shelfmark/shelfmark/ingest/FileReport" "rejected" "J" (.long y4) := f72.keep K17q nin0
  have f74 : Fld Z T25.heap b "com/example/shelfmark/shelfmark/ingest/FileReport" "rejected" "J" (.long y4) := f73.keep K25q nin0
  have f75 : Fld Z T29.heap b "com/example/shelfmark/shelfmark/ingest/FileReport" "rejected" "J" (.long y4) := f74.keep K29q nin0
  have f76 : Fld Z T37.heap b "com/example/shelfmark/shelfmark/ingest/FileReport" "rejected" "J" (.long y4) := f75.keep K37q nin0
  have f77 : Fld Z T41.heap b "com/example/shelfmark/shelfmark/ingest/FileReport" "rejected" "J" (.long y4) := f76.keep K41q nin0
  have f78 : Fld Z T49.heap b "com/example/shelfmark/shelfmark/ingest/FileReport" "rejected" "J" (.long y4) := f77.keep K49q nin0
  have f79 : Exa Z T41.heap b "com/example/shelfmark/shelfmark/ingest/FileReport" := f55.keep K41q
  have f80 : Exa Z T49.heap b "com/example/shelfmark/shelfmark/ingest/FileReport" := f79.keep K49q
  obtain ⟨cq53, kq53, q53a, q53b, q53c⟩ := isOf hZ rfl f80
  obtain ⟨_, _, ⟨T53, Lo53, kk53, nn53⟩, -, X53, ⟨Lc53, hQ53, ll53, yy53, zz53⟩, st53⟩ := X49.virtualBack hx (y := (⟨"com/example/shelfmark/shelfmark/ingest/FileReport", "rejected", "()J"⟩ : MethodName)) (z := (⟨"com/example/shelfmark/shelfmark/ingest/FileReport", "rejected", "()J"⟩ : MethodName)) hown (mvT hZ (w_57 hw)) (mvT hZ (w_58 hw)) (notFace_of_selects (args := #[]) (mvT hZ (w_60 hw))) (mvT hZ (w_60 hw)) (mvT hZ (w_59 hw)) (by decide) (backOf (W := 2) (rm_rejected l Z a0 hw [] b y4 T49.heap n0 f69 f78) hZ (w_61 hw) (w_2 hw) (by decide) (by decide)) q53a q53c (g := (mkF m 53 #[.val (.ref a), .val (.ref b)] [(.ref b), (.long x4)])) rfl (by rw [hml]; rfl) (Steps.refl _) (argsL := []) (rest := [(.long x4)]) (lenOf pd_2 rfl) rfl (by show 2 * 0 + _ ≤ _; exact Nat.le_of_eq rfl) (hb hby d5_53) (fun _ _ => ⟨rfl, rfl, (by decide : 0 + 0 ≤ _), (by decide : 0 + 0 ≤ _)⟩)
  dsimp only [Pt.U, Pt.locs, Pt.cells, Pt.slots] at X53 ll53 yy53 zz53 st53 hQ53
  subst ll53 yy53 zz53
  obtain ⟨rfl, N53q, K53q⟩ := hQ53
  have N53 := Fr.app N49 N53q
  have f81 : Keep h0 T53.heap [] := f68.trans K53q all0
  have f82 : Old Z n0 T53.heap := f69.keep K53q all0
  obtain ⟨fs, hr, hrun, hended, hW, hsame⟩ := X53.leave (v := some (.int (1 : Int32))) (fun h => by rw [Bd.returns] at h; cases h)
  refine ⟨_, _, pre0 _ ?_, hrun, hended, _, _, rfl, ?_, ⟨_, rfl⟩, hW, hsame.mono (by decide) (by decide)⟩
  · show Steps p.tables e below (s₁.setTop (mkF m 0 #[.val (.ref a), .val (.ref b)] [])) _
    refine XS.aloadN X0.here hx rfl (hb hby d5_0) rfl rfl ?_
    show Steps p.tables e below (s₁.setTop (mkF m 1 #[.val (.ref a), .val (.ref b)] [(.ref a)])) _
    refine st1.trans ?_
    show Steps p.tables e below (T1.setTop (mkF m 4 #[.val (.ref a), .val (.ref b)] [(.long x0)])) _
    refine XS.aloadN X1.here hx rfl (hb hby d5_4) rfl rfl ?_
    show Steps p.tables e below (T1.setTop (mkF m 5 #[.val (.ref a), .val (.ref b)] [(.ref b), (.long x0)])) _
    refine st5.trans ?_
    show Steps p.tables e below (T5.setTop (mkF m 8 #[.val (.ref a), .val (.ref b)] [(.long y0), (.long x0)])) _
    refine XS.lcmp X5.here hx rfl (hb hby d5_8) rfl ?_
    show Steps p.tables e below (T5.setTop (mkF m 9 #[.val (.ref a), .val (.ref b)] [(.int (lcmpW x0 y0))])) _
    refine XS.ifNo X5.here hx rfl (hb hby d5_9) rfl ((if0 _ _).trans (teq ((lw_eq x0 y0).mpr q0)).2) ?_
    show Steps p.tables e below (T5.setTop (mkF m 12 #[.val (.ref a), .val (.ref b)] [])) _
    refine XS.aloadN X5.here hx rfl (hb hby d5_12) rfl rfl ?_
    show Steps p.tables e below (T5.setTop (mkF m 13 #[.val (.ref a), .val (.ref b)] [(.ref a)])) _
    refine st13.trans ?_
    show Steps p.tables e below (T13.setTop (mkF m 16 #[.val (.ref a), .val (.ref b)] [(.long x1)])) _
    refine XS.aloadN X13.here hx rfl (hb hby d5_16) rfl rfl ?_
    show Steps p.tables e below (T13.setTop (mkF m 17 #[.val (.ref a), .val (.ref b)] [(.ref b), (.long x1)])) _
    refine st17.trans ?_
    show Steps p.tables e below (T17.setTop (mkF m 20 #[.val (.ref a), .val (.ref b)] [(.long y1), (.long x1)])) _
    refine XS.lcmp X17.here hx rfl (hb hby d5_20) rfl ?_
    show Steps p.tables e below (T17.setTop (mkF m 21 #[.val (.ref a), .val (.ref b)] [(.int (lcmpW x1 y1))])) _
    refine XS.ifNo X17.here hx rfl (hb hby d5_21) rfl ((if0 _ _).trans (teq ((lw_eq x1 y1).mpr q1)).2) ?_
    show Steps p.tables e below (T17.setTop (mkF m 24 #[.val (.ref a), .val (.ref b)] [])) _
    refine XS.aloadN X17.here hx rfl (hb hby d5_24) rfl rfl ?_
    show Steps p.tables e below (T17.setTop (mkF m 25 #[.val (.ref a), .val (.ref b)] [(.ref a)])) _
    refine st25.trans ?_
    show Steps p.tables e below (T25.setTop (mkF m 28 #[.val (.ref a), .val (.ref b)] [(.long x2)])) _
    refine XS.aloadN X25.here hx rfl (hb hby d5_28) rfl rfl ?_
    show Steps p.tables e below (T25.setTop (mkF m 29 #[.val (.ref a), .val (.ref b)] [(.ref b), (.long x2)])) _
    refine st29.trans ?_
    show Steps p.tables e below (T29.setTop (mkF m 32 #[.val (.ref a), .val (.ref b)] [(.long y2), (.long x2)])) _
    refine XS.lcmp X29.here hx rfl (hb hby d5_32) rfl ?_
    show Steps p.tables e below (T29.setTop (mkF m 33 #[.val (.ref a), .val (.ref b)] [(.int (lcmpW x2 y2))])) _
    refine XS.ifNo X29.here hx rfl (hb hby d5_33) rfl ((if0 _ _).trans (teq ((lw_eq x2 y2).mpr q2)).2) ?_
    show Steps p.tables e below (T29.setTop (mkF m 36 #[.val (.ref a), .val (.ref b)] [])) _
    refine XS.aloadN X29.here hx rfl (hb hby d5_36) rfl rfl ?_
    show Steps p.tables e below (T29.setTop (mkF m 37 #[.val (.ref a), .val (.ref b)] [(.ref a)])) _
    refine st37.trans ?_
    show Steps p.tables e below (T37.setTop (mkF m 40 #[.val (.ref a), .val (.ref b)] [(.long x3)])) _
    refine XS.aloadN X37.here hx rfl (hb hby d5_40) rfl rfl ?_
    show Steps p.tables e below (T37.setTop (mkF m 41 #[.val (.ref a), .val (.ref b)] [(.ref b), (.long x3)])) _
    refine st41.trans ?_
    show Steps p.tables e below (T41.setTop (mkF m 44 #[.val (.ref a), .val (.ref b)] [(.long y3), (.long x3)])) _
    refine XS.lcmp X41.here hx rfl (hb hby d5_44) rfl ?_
    show Steps p.tables e below (T41.setTop (mkF m 45 #[.val (.ref a), .val (.ref b)] [(.int (lcmpW x3 y3))])) _
    refine XS.ifNo X41.here hx rfl (hb hby d5_45) rfl ((if0 _ _).trans (teq ((lw_eq x3 y3).mpr q3)).2) ?_
    show Steps p.tables e below (T41.setTop (mkF m 48 #[.val (.ref a), .val (.ref b)] [])) _
    refine XS.aloadN X41.here hx rfl (hb hby d5_48) rfl rfl ?_
    show Steps p.tables e below (T41.setTop (mkF m 49 #[.val (.ref a), .val (.ref b)] [(.ref a)])) _
    refine st49.trans ?_
    show Steps p.tables e below (T49.setTop (mkF m 52 #[.val (.ref a), .val (.ref b)] [(.long x4)])) _
    refine XS.aloadN X49.here hx rfl (hb hby d5_52) rfl rfl ?_
    show Steps p.tables e below (T49.setTop (mkF m 53 #[.val (.ref a), .val (.ref b)] [(.ref b), (.long x4)])) _
    refine st53.trans ?_
    show Steps p.tables e below (T53.setTop (mkF m 56 #[.val (.ref a), .val (.ref b)] [(.long y4), (.long x4)])) _
    refine XS.lcmp X53.here hx rfl (hb hby d5_56) rfl ?_
    show Steps p.tables e below (T53.setTop (mkF m 57 #[.val (.ref a), .val (.ref b)] [(.int (lcmpW x4 y4))])) _
    refine XS.ifNo X53.here hx rfl (hb hby d5_57) rfl ((if0 _ _).trans (teq ((lw_eq x4 y4).mpr q4)).2) ?_
    show Steps p.tables e below (T53.setTop (mkF m 60 #[.val (.ref a), .val (.ref b)] [])) _
    refine XS.iconst X53.here hx rfl (hb hby d5_60) ?_
    show Steps p.tables e below (T53.setTop (mkF m 61 #[.val (.ref a), .val (.ref b)] [(.int (1 : Int32))])) _
    refine XS.goto X53.here hx rfl (pc0 := 61) (pc' := 65) rfl (hb hby d5_61) (by decide) (by decide) ?_
    show Steps p.tables e below (T53.setTop (mkF m 65 #[.val (.ref a), .val (.ref b)] [(.int (1 : Int32))])) _
    exact retN X53 hx (t := .boolean) Bd.returns (by simp) (hb hby d5_65) hr
  · show Q_same Z a b x0 x1 x2 x3 x4 y0 y1 y2 y3 y4 h0 n0 _ T53.heap _
    exact ⟨rfl, N53, f81⟩
theorem pd_3 : parseMethodDescriptor "(Lcom/example/shelfmark/shelfmark/ingest/FileReport;)Lcom/example/shelfmark/shelfmark/ingest/FileReport;" = some ⟨[(.object "com/example/shelfmark/shelfmark/ingest/FileReport")], some (.object "com/example/shelfmark/shelfmark/ingest/FileReport")⟩ := by decide +kernel
theorem pd_4 : parseMethodDescriptor "(Lcom/example/shelfmark/shelfmark/ingest/FileReport;Lcom/example/shelfmark/shelfmark/ingest/FileReport;)Z" = some ⟨[(.object "com/example/shelfmark/shelfmark/ingest/FileReport"), (.object "com/example/shelfmark/shelfmark/ingest/FileReport")], some .boolean⟩ := by decide +kernel
def Q_law (Z : State) (p0 : Int64) (p1 : Int64) (p2 : Int64) (p3 : Int64) (p4 : Int64) (p5 : Int64) (w : Addr) (h0 : Heap) (n0 : Nat) (v : Option Value) (h : Heap) (L : List Loc) : Prop := v = some (.int (1 : Int32)) ∧ Fr n0 L ∧ Keep h0 h []
theorem ef_rm_law (m : MethodId) (x0 : Int64) (x1 : Int64) (x2 : Int64) (x3 : Int64) (x4 : Int64) (x5 : Int64) : entryFrame m #[(.long x0), (.long x1), (.long x2), (.long x3), (.long x4), (.long x5)] maxLocals = mkF m 0 #[.val (.long x0), .second, .val (.long x1), .second, .val (.long x2), .second, .val (.long x3), .second, .val (.long x4), .second, .val (.long x5), .second, .unset, .unset, .unset, .unset, .unset, .unset, .unset] [] := by first | (simp [entryFrame, mkF, argsToLocals, Value.category, maxLocals]; done) | rfl
set_option maxRecDepth 65536 in
set_option maxHeartbeats 40000000 in
theorem rm_law (l : Launch) (Z : State) (a0 : Array Value) (hw : ∀ d ∈ tables_1, d.before a0 Z = true) (ws : List Jvm.Cond) (p0 : Int64) (p1 : Int64) (p2 : Int64) (p3 : Int64) (p4 : Int64) (p5 : Int64) (w : Addr) (h0 : Heap) (n0 : Nat) (O0 : Old Z n0 h0) (S_NONE : Sta Z Z.heap "com/example/shelfmark/shelfmark/ingest/FileReport" "NONE" "Lcom/example/shelfmark/shelfmark/ingest/FileReport;" (.ref w)) (E_w : Exa Z Z.heap w "com/example/shelfmark/shelfmark/ingest/FileReport") (Z0 : Fld Z Z.heap w "com/example/shelfmark/shelfmark/ingest/FileReport" "read" "J" (.long (0 : Int64))) (Z1 : Fld Z Z.heap w "com/example/shelfmark/shelfmark/ingest/FileReport" "added" "J" (.long (0 : Int64))) (Z2 : Fld Z Z.heap w "com/example/shelfmark/shelfmark/ingest/FileReport" "updated" "J" (.long (0 : Int64))) (Z3 : Fld Z Z.heap w "com/example/shelfmark/shelfmark/ingest/FileReport" "deleted" "J" (.long (0 : Int64))) (Z4 : Fld Z Z.heap w "com/example/shelfmark/shelfmark/ingest/FileReport" "rejected" "J" (.long (0 : Int64))) :
    MetFree l x (head1 (Jvm.Cond.code x code maxLocals ret :: ws) room_1) (fun as' U => as' = #[(.long p0), (.long p1), (.long p2), (.long p3), (.long p4), (.long p5)] ∧ Z.Warmed39 U.vm ∧ U.heap = h0) (fun _ _ _ _ _ => True) (fun _ U o U' => ∃ v L, o = .returned v ∧ Q_law Z p0 p1 p2 p3 p4 p5 w h0 n0 v U'.heap L ∧ FrameEnd U o U' L room_1.cells room_1.slots) := by
  refine MetFree.of_bodySF (plainFor_of_name pn_com_example_shelfmark_shelfmark_ingest_FileReportPlusPinLaw) hisR ?_
  intro p e s m args below meth c s₁ Bd hml0 hP hK
  obtain ⟨rfl, hZ, hh⟩ := hP
  have hx := Bd.exec
  have hby := Bd.bytes
  have hml : c.maxLocals = 19 := hml0
  have hown : s.vm.findClass "com/example/shelfmark/shelfmark/ingest/FileReportPlusPinLaw" = some m.cls := findClass_of_methodNamed Bd.named
  have hnm := (name_of_methodNamed Bd.named Bd.method).1
  have X0 : Stand p l e room_1 s m #[(.long p0), (.long p1), (.long p2), (.long p3), (.long p4), (.long p5)] below meth c s₁ [] 0 0 := Stand.of_body Bd
  have e0 : s₁.heap = h0 := by rw [← hh, Bd.state]; rfl
  have N0 := Fr.nil n0
  have K0 : Keep h0 h0 [] := Keep.refl _ _
  have pre0 : ∀ t, Steps p.tables e below (s₁.setTop (mkF m 0 #[.val (.long p0), .second, .val (.long p1), .second, .val (.long p2), .second, .val (.long p3), .second, .val (.long p4), .second, .val (.long p5), .second, .unset, .unset, .unset, .unset, .unset, .unset, .unset] [])) t → Steps p.tables e below (s₁.setTop (entryFrame m #[(.long p0), (.long p1), (.long p2), (.long p3), (.long p4), (.long p5)] maxLocals)) t := fun t k => castTop (ef_rm_law m p0 p1 p2 p3 p4 p5) k
  obtain ⟨T0_, h0_, X0_, e0_, Ex0_, Aa0_, Df0_, -, st0_⟩ := newO X0 hx hZ hown (w_0 hw) (w_1 hw) (w_2 hw) e0 (g := (mkF m 0 #[.val (.long p0), .second, .val (.long p1), .second, .val (.long p2), .second, .val (.long p3), .second, .val (.long p4), .second, .val (.long p5), .second, .unset, .unset, .unset, .unset, .unset, .unset, .unset] [])) rfl (hb hby at_0) (by decide) (by decide)
  obtain ⟨b0_, gg0_⟩ : ∃ z, z = h0.size := ⟨_, rfl⟩
  rw [← gg0_] at Aa0_ Df0_ st0_
  have f1 : Keep h0 h0_ [] := K0.ext Ex0_
  have f2 : Old Z n0 h0_ := O0.ext Ex0_
  have f3 : Fld Z h0_ b0_ "com/example/shelfmark/shelfmark/ingest/FileReport" "read" "J" (.long (0 : Int64)) := Df0_ (Or.inr (w_15 hw)) (ty := .long) (by decide)
  have f4 : Fld Z h0_ b0_ "com/example/shelfmark/shelfmark/ingest/FileReport" "added" "J" (.long (0 : Int64)) := Df0_ (Or.inr (w_17 hw)) (ty := .long) (by decide)
  have f5 : Fld Z h0_ b0_ "com/example/shelfmark/shelfmark/ingest/FileReport" "updated" "J" (.long (0 : Int64)) := Df0_ (Or.inr (w_19 hw)) (ty := .long) (by decide)
  have f6 : Fld Z h0_ b0_ "com/example/shelfmark/shelfmark/ingest/FileReport" "deleted" "J" (.long (0 : Int64)) := Df0_ (Or.inr (w_21 hw)) (ty := .long) (by decide)
  have f7 : Fld Z h0_ b0_ "com/example/shelfmark/shelfmark/ingest/FileReport" "rejected" "J" (.long (0 : Int64)) := Df0_ (Or.inr (w_23 hw)) (ty := .long) (by decide)
  have f8 : n0 ≤ b0_ := Nat.le_trans (own_old_le O0) (Nat.le_of_eq gg0_.symm)
  obtain ⟨_, _, ⟨T12, Lo12, kk12, nn12⟩, -, X12, ⟨Lc12, hQ12, ll12, yy12, zz12⟩, st12⟩ := X0_.specialBack hx (y := (⟨"com/example/shelfmark/shelfmark/ingest/FileReport", "<init>", "(JJJJJ)V"⟩ : MethodName)) rfl hown (mvT hZ (w_3 hw)) (mvT hZ (w_4 hw)) (mvT hZ (w_5 hw)) (by decide) (backOf (W := 1) (rm_init l Z a0 hw [] b0_ p0 p1 p2 p3 p4 h0_ n0 f2 Aa0_ f3 f4 f5 f6 f7 f8) hZ (w_5 hw) (w_2 hw) (by decide) (by decide)) (g := (mkF m 12 #[.val (.long p0), .second, .val (.long p1), .second, .val (.long p2), .second, .val (.long p3), .second, .val (.long p4), .second, .val (.long p5), .second, .unset, .unset, .unset, .unset, .unset, .unset, .unset] [(.long p4), (.long p3), (.long p2), (.long p1), (.long p0), (.ref b0_), (.ref b0_)])) rfl (by rw [hml]; rfl) (Steps.refl _) (a := b0_) (argsL := [(.long p0), (.long p1), (.long p2), (.long p3), (.long p4)]) (rest := [(.ref b0_)]) (lenOf pd_1 rfl) rfl (by show 2 * 0 + _ ≤ _; exact Nat.le_of_eq rfl) (hb hby at_12) (fun _ _ => ⟨rfl, e0_, (by decide : 1 + 0 ≤ _), (by decide : 5 + 0 ≤ _)⟩)
  dsimp only [Pt.U, Pt.locs, Pt.cells, Pt.slots] at X12 ll12 yy12 zz12 st12 hQ12
  subst ll12 yy12 zz12
  obtain ⟨rfl, N12q, K12q, p12_0, p12_1, p12_2, p12_3, p12_4, p12_5⟩ := hQ12
  have N12 := Fr.app N0 N12q
  have f9 : h0.size ≤ b0_ := Nat.le_trans K0.1 (Nat.le_of_eq gg0_.symm)
  have f10 : Keep h0 T12.heap [] := f1.trans K12q (allS (Or.inr f9) all0)
  have f11 : Old Z n0 T12.heap := f2.keep K12q (allS f8 all0)
  obtain ⟨T17, h17, X17, e17, Ex17, Aa17, Df17, -, st17⟩ := newO X12 hx hZ hown (w_0 hw) (w_1 hw) (w_2 hw) rfl (g := (mkF m 17 #[.val (.long p0), .second, .val (.long p1), .second, .val (.long p2), .second, .val (.long p3), .second, .val (.long p4), .second, .val (.long p5), .second, .val (.ref b0_), .unset, .unset, .unset, .unset, .unset, .unset] [])) rfl (hb hby at_17) (by decide) (by decide)
  obtain ⟨b17, gg17⟩ : ∃ z, z = T12.heap.size := ⟨_, rfl⟩
  rw [← gg17] at Aa17 Df17 st17
  have f12 : Keep h0 h17 [] := f10.ext Ex17
  have f13 : Old Z n0 h17 := f11.ext Ex17
  have f14 : Fld Z h17 b17 "com/example/shelfmark/shelfmark/ingest/FileReport" "read" "J" (.long (0 : Int64)) := Df17 (Or.inr (w_15 hw)) (ty := .long) (by decide)
  have f15 : Fld Z h17 b17 "com/example/shelfmark/shelfmark/ingest/FileReport" "added" "J" (.long (0 : Int64)) := Df17 (Or.inr (w_17 hw)) (ty := .long) (by decide)
  have f16 : Fld Z h17 b17 "com/example/shelfmark/shelfmark/ingest/FileReport" "updated" "J" (.long (0 : Int64)) := Df17 (Or.inr (w_19 hw)) (ty := .long) (by decide)
  have f17 : Fld Z h17 b17 "com/example/shelfmark/shelfmark/ingest/FileReport" "deleted" "J" (.long (0 : Int64)) := Df17 (Or.inr (w_21 hw)) (ty := .long) (by decide)
  have f18 : Fld Z h17 b17 "com/example/shelfmark/shelfmark/ingest/FileReport" "rejected" "J" (.long (0 : Int64)) := Df17 (Or.inr (w_23 hw)) (ty := .long) (by decide)
  have f19 : n0 ≤ b17 := Nat.le_trans (own_old_le f11) (Nat.le_of_eq gg17.symm)
  obtain ⟨_, _, ⟨T30, Lo30, kk30, nn30⟩, -, X30, ⟨Lc30, hQ30, ll30, yy30, zz30⟩, st30⟩ := X17.specialBack hx (y := (⟨"com/example/shelfmark/shelfmark/ingest/FileReport", "<init>", "(JJJJJ)V"⟩ : MethodName)) rfl hown (mvT hZ (w_3 hw)) (mvT hZ (w_4 hw)) (mvT hZ (w_5 hw)) (by decide) (backOf (W := 1) (rm_init l Z a0 hw [] b17 p5 p4 p3 p2 p1 h17 n0 f13 Aa17 f14 f15 f16 f17 f18 f19) hZ (w_5 hw) (w_2 hw) (by decide) (by decide)) (g := (mkF m 30 #[.val (.long p0), .second, .val (.long p1), .second, .val (.long p2), .second, .val (.long p3), .second, .val (.long p4), .second, .val (.long p5), .second, .val (.ref b0_), .unset, .unset, .unset, .unset, .unset, .unset] [(.long p1), (.long p2), (.long p3), (.long p4), (.long p5), (.ref b17), (.ref b17)])) rfl (by rw [hml]; rfl) (Steps.refl _) (a := b17) (argsL := [(.long p5), (.long p4), (.long p3), (.long p2), (.long p1)]) (rest := [(.ref b17)]) (lenOf pd_1 rfl) rfl (by show 2 * 0 + _ ≤ _; exact Nat.le_of_eq rfl) (hb hby at_30) (fun _ _ => ⟨rfl, e17, (by decide : 2 + 0 ≤ _), (by decide : 10 + 0 ≤ _)⟩)
  dsimp only [Pt.U, Pt.locs, Pt.cells, Pt.slots] at X30 ll30 yy30 zz30 st30 hQ30
  subst ll30 yy30 zz30
  obtain ⟨rfl, N30q, K30q, p30_0, p30_1, p30_2, p30_3, p30_4, p30_5⟩ := hQ30
  have N30 := Fr.app N12 N30q
  have f20 : h0.size ≤ b17 := Nat.le_trans f10.1 (Nat.le_of_eq gg17.symm)
  have f21 : Keep h0 T30.heap [] := f12.trans K30q (allS (Or.inr f20) all0)
  have f22 : Old Z n0 T30.heap := f13.keep K30q (allS f19 all0)
  obtain ⟨T35, h35, X35, e35, Ex35, Aa35, Df35, -, st35⟩ := newO X30 hx hZ hown (w_0 hw) (w_1 hw) (w_2 hw) rfl (g := (mkF m 35 #[.val (.long p0), .second, .val (.long p1), .second, .val (.long p2), .second, .val (.long p3), .second, .val (.long p4), .second, .val (.long p5), .second, .val (.ref b0_), .val (.ref b17), .unset, .unset, .unset, .unset, .unset] [])) rfl (hb hby at_35) (by decide) (by decide)
  obtain ⟨b35, gg35⟩ : ∃ z, z = T30.heap.size := ⟨_, rfl⟩
  rw [← gg35] at Aa35 Df35 st35
  have f23 : Keep h0 h35 [] := f21.ext Ex35
  have f24 : Old Z n0 h35 := f22.ext Ex35
  have f25 : Fld Z h35 b35 "com/example/shelfmark/shelfmark/ingest/FileReport" "read" "J" (.long (0 : Int64)) := Df35 (Or.inr (w_15 hw)) (ty := .long) (by decide)
  have f26 : Fld Z h35 b35 "com/example/shelfmark/shelfmark/ingest/FileReport" "added" "J" (.long (0 : Int64)) := Df35 (Or.inr (w_17 hw)) (ty := .long) (by decide)
  have f27 : Fld Z h35 b35 "com/example/shelfmark/shelfmark/ingest/FileReport" "updated" "J" (.long (0 : Int64)) := Df35 (Or.inr (w_19 hw)) (ty := .long) (by decide)
  have f28 : Fld Z h35 b35 "com/example/shelfmark/shelfmark/ingest/FileReport" "deleted" "J" (.long (0 : Int64)) := Df35 (Or.inr (w_21 hw)) (ty := .long) (by decide)
  have f29 : Fld Z h35 b35 "com/example/shelfmark/shelfmark/ingest/FileReport" "rejected" "J" (.long (0 : Int64)) := Df35 (Or.inr (w_23 hw)) (ty := .long) (by decide)
  have f30 : n0 ≤ b35 := Nat.le_trans (own_old_le f22) (Nat.le_of_eq gg35.symm)
  obtain ⟨_, _, ⟨T53, Lo53, kk53, nn53⟩, -, X53, ⟨Lc53, hQ53, ll53, yy53, zz53⟩, st53⟩ := X35.specialBack hx (y := (⟨"com/example/shelfmark/shelfmark/ingest/FileReport", "<init>", "(JJJJJ)V"⟩ : MethodName)) rfl hown (mvT hZ (w_3 hw)) (mvT hZ (w_4 hw)) (mvT hZ (w_5 hw)) (by decide) (backOf (W := 1) (rm_init l Z a0 hw [] b35 (-p5) (-p4) (-p3) (-p2) (-p1) h35 n0 f24 Aa35 f25 f26 f27 f28 f29 f30) hZ (w_5 hw) (w_2 hw) (by decide) (by decide)) (g := (mkF m 53 #[.val (.long p0), .second, .val (.long p1), .second, .val (.long p2), .second, .val (.long p3), .second, .val (.long p4), .second, .val (.long p5), .second, .val (.ref b0_), .val (.ref b17), .unset, .unset, .unset, .unset, .unset] [(.long (-p1)), (.long (-p2)), (.long (-p3)), (.long (-p4)), (.long (-p5)), (.ref b35), (.ref b35)])) rfl (by rw [hml]; rfl) (Steps.refl _) (a := b35) (argsL := [(.long (-p5)), (.long (-p4)), (.long (-p3)), (.long (-p2)), (.long (-p1))]) (rest := [(.ref b35)]) (lenOf pd_1 rfl) rfl (by show 2 * 0 + _ ≤ _; exact Nat.le_of_eq rfl) (hb hby at_53) (fun _ _ => ⟨rfl, e35, (by decide : 3 + 0 ≤ _), (by decide : 15 + 0 ≤ _)⟩)
  dsimp only [Pt.U, Pt.locs, Pt.cells, Pt.slots] at X53 ll53 yy53 zz53 st53 hQ53
  subst ll53 yy53 zz53
  obtain ⟨rfl, N53q, K53q, p53_0, p53_1, p53_2, p53_3, p53_4, p53_5⟩ := hQ53
  have N53 := Fr.app N30 N53q
  have f31 : h0.size ≤ b35 := Nat.le_trans f21.1 (Nat.le_of_eq gg35.symm)
  have f32 : Keep h0 T53.heap [] := f23.trans K53q (allS (Or.inr f31) all0)
  have f33 : Old Z n0 T53.heap := f24.keep K53q (allS f30 all0)
  obtain ⟨T58, X58, e58, st58⟩ := getS2 X53 hx hZ hown (host := "") (Or.inl (w_24 hw)) Via.refl rfl (S_NONE.ext f33.2) (g := (mkF m 58 #[.val (.long p0), .second, .val (.long p1), .second, .val (.long p2), .second, .val (.long p3), .second, .val (.long p4), .second, .val (.long p5), .second, .val (.ref b0_), .val (.ref b17), .val (.ref b35), .unset, .unset, .unset, .unset] [])) rfl (hb hby at_58)
  have f34 : Fld Z h17 b0_ "com/example/shelfmark/shelfmark/ingest/FileReport" "read" "J" (.long p0) := p12_1.ext Ex17
  have f35 : Fld Z T30.heap b0_ "com/example/shelfmark/shelfmark/ingest/FileReport" "read" "J" (.long p0) := f34.keep K30q (ninS (Nat.ne_of_lt (Nat.lt_of_lt_of_le p12_0.lt (Nat.le_of_eq gg17.symm))) nin0)
  have f36 : Fld Z h35 b0_ "com/example/shelfmark/shelfmark/ingest/FileReport" "read" "J" (.long p0) := f35.ext Ex35
  have f37 : Exa Z h17 b0_ "com/example/shelfmark/shelfmark/ingest/FileReport" := p12_0.ext Ex17
  have f38 : Exa Z T30.heap b0_ "com/example/shelfmark/shelfmark/ingest/FileReport" := f37.keep K30q
  have f39 : Fld Z T53.heap b0_ "com/example/shelfmark/shelfmark/ingest/FileReport" "read" "J" (.long p0) := f36.keep K53q (ninS (Nat.ne_of_lt (Nat.lt_of_lt_of_le f38.lt (Nat.le_of_eq gg35.symm))) nin0)
  have f40 : Fld Z h17 b0_ "com/example/shelfmark/shelfmark/ingest/FileReport" "added" "J" (.long p1) := p12_2.ext Ex17
  have f41 : Fld Z T30.heap b0_ "com/example/shelfmark/shelfmark/ingest/FileReport" "added" "J" (.long p1) := f40.keep K30q (ninS (Nat.ne_of_lt (Nat.lt_of_lt_of_le p12_0.lt (Nat.le_of_eq gg17.symm))) nin0)
  have f42 : Fld Z h35 b0_ "com/example/shelfmark/shelfmark/ingest/FileReport" "added" "J" (.long p1) := f41.ext Ex35
  have f43 : Fld Z T53.heap b0_ "com/example/shelfmark/shelfmark/ingest/FileReport" "added" "J" (.long p1) := f42.keep K53q (ninS (Nat.ne_of_lt (Nat.lt_of_lt_of_le f38.lt (Nat.le_of_eq gg35.symm))) nin0)
  have f44 : Fld Z h17 b0_ "com/example/shelfmark/shelfmark/ingest/FileReport" "updated" "J" (.long p2) := p12_3.ext Ex17
  have f45 : Fld Z T30.heap b0_ "com/example/shelfmark/shelfmark/ingest/FileReport" "updated" "J" (.long p2) := f44.keep K30q (ninS (Nat.ne_of_lt (Nat.lt_of_lt_of_le p12_0.lt (Nat.le_of_eq gg17.symm))) nin0)
  have f46 : Fld Z h35 b0_ "com/example/shelfmark/shelfmark/ingest/FileReport" "updated" "J" (.long p2) := f45.ext Ex35
  have f47 : Fld Z T53.heap b0_ "com/example/shelfmark/shelfmark/ingest/FileReport" "updated" "J" (.long p2) := f46.keep K53q (ninS (Nat.ne_of_lt (Nat.lt_of_lt_of_le f38.lt (Nat.le_of_eq gg35.symm))) nin0)
  have f48 : Fld Z h17 b0_ "com/example/shelfmark/shelfmark/ingest/FileReport" "deleted" "J" (.long p3) := p12_4.ext Ex17
  have f49 : Fld Z T30.heap b0_ "com/example/shelfmark/shelfmark/ingest/FileReport" "deleted" "J" (.long p3) := f48.keep K30q (ninS (Nat.ne_of_lt (Nat.lt_of_lt_of_le p12_0.lt (Nat.le_of_eq gg17.symm))) nin0)
  have f50 : Fld Z h35 b0_ "com/example/shelfmark/shelfmark/ingest/FileReport" "deleted" "J" (.long p3) := f49.ext Ex35
  have f51 : Fld Z T53.heap b0_ "com/example/shelfmark/shelfmark/ingest/FileReport" "deleted" "J" (.long p3) := f50.keep K53q (ninS (Nat.ne_of_lt (Nat.lt_of_lt_of_le f38.lt (Nat.le_of_eq gg35.symm))) nin0)
  have f52 : Fld Z h17 b0_ "com/example/shelfmark/shelfmark/ingest/FileReport" "rejected" "J" (.long p4) := p12_5.ext Ex17
  have f53 : Fld Z T30.heap b0_ "com/example/shelfmark/shelfmark/ingest/FileReport" "rejected" "J" (.long p4) := f52.keep K30q (ninS (Nat.ne_of_lt (Nat.lt_of_lt_of_le p12_0.lt (Nat.le_of_eq gg17.symm))) nin0)
  have f54 : Fld Z h35 b0_ "com/example/shelfmark/shelfmark/ingest/FileReport" "rejected" "J" (.long p4) := f53.ext Ex35
  have f55 : Fld Z T53.heap b0_ "com/example/shelfmark/shelfmark/ingest/FileReport" "rejected" "J" (.long p4) := f54.keep K53q (ninS (Nat.ne_of_lt (Nat.lt_of_lt_of_le f38.lt (Nat.le_of_eq gg35.symm))) nin0)
  obtain ⟨cq63, kq63, q63a, q63b, q63c⟩ := isOf hZ e58 (E_w.ext f33.2)
  obtain ⟨_, _, ⟨T63, Lo63, kk63, nn63⟩, -, X63, ⟨Lc63, hQ63, ll63, yy63, zz63⟩, st63⟩ := X58.virtualBack hx (y := (⟨"com/example/shelfmark/shelfmark/ingest/FileReport", "plus", "(Lcom/example/shelfmark/shelfmark/ingest/FileReport;)Lcom/example/shelfmark/shelfmark/ingest/FileReport;"⟩ : MethodName)) (z := (⟨"com/example/shelfmark/shelfmark/ingest/FileReport", "plus", "(Lcom/example/shelfmark/shelfmark/ingest/FileReport;)Lcom/example/shelfmark/shelfmark/ingest/FileReport;"⟩ : MethodName)) hown (mvT hZ (w_26 hw)) (mvT hZ (w_27 hw)) (notFace_of_selects (args := #[]) (mvT hZ (w_29 hw))) (mvT hZ (w_29 hw)) (mvT hZ (w_28 hw)) (by decide) (backOf (W := 0) (rm_plus l Z a0 hw [] w b0_ ((0 : Int64)) ((0 : Int64)) ((0 : Int64)) ((0 : Int64)) ((0 : Int64)) p0 p1 p2 p3 p4 T53.heap n0 f33 (Z0.ext f33.2) (Z1.ext f33.2) (Z2.ext f33.2) (Z3.ext f33.2) (Z4.ext f33.2) f39 f43 f47 f51 f55) hZ (w_30 hw) (w_2 hw) (by decide) (by decide)) q63a q63c (g := (mkF m 63 #[.val (.long p0), .second, .val (.long p1), .second, .val (.long p2), .second, .val (.long p3), .second, .val (.long p4), .second, .val (.long p5), .second, .val (.ref b0_), .val (.ref b17), .val (.ref b35), .unset, .unset, .unset, .unset] [(.ref b0_), (.ref w)])) rfl (by rw [hml]; rfl) (Steps.refl _) (argsL := [(.ref b0_)]) (rest := []) (lenOf pd_3 rfl) rfl (by show 2 * 0 + _ ≤ _; exact Nat.le_of_eq rfl) (hb hby at_63) (fun _ _ => ⟨rfl, e58, (by decide : 3 + 1 ≤ _), (by decide : 15 + 5 ≤ _)⟩)
  dsimp only [Pt.U, Pt.locs, Pt.cells, Pt.slots] at X63 ll63 yy63 zz63 st63 hQ63
  subst ll63 yy63 zz63
  obtain ⟨d63, rfl, N63q, K63q, p63_0, p63_1, p63_2, p63_3, p63_4, p63_5, p63_6⟩ := hQ63
  have N63 := Fr.app N53 N63q
  have f56 : Keep h0 T63.heap [] := f32.trans K63q all0
  have f57 : Old Z n0 T63.heap := f33.keep K63q all0
  have f58 : Fld Z T63.heap b0_ "com/example/shelfmark/shelfmark/ingest/FileReport" "read" "J" (.long p0) := f39.keep K63q nin0
  have f59 : Fld Z T63.heap b0_ "com/example/shelfmark/shelfmark/ingest/FileReport" "added" "J" (.long p1) := f43.keep K63q nin0
  have f60 : Fld Z T63.heap b0_ "com/example/shelfmark/shelfmark/ingest/FileReport" "updated" "J" (.long p2) := f47.keep K63q nin0
  have f61 : Fld Z T63.heap b0_ "com/example/shelfmark/shelfmark/ingest/FileReport" "deleted" "J" (.long p3) := f51.keep K63q nin0
  have f62 : Fld Z T63.heap b0_ "com/example/shelfmark/shelfmark/ingest/FileReport" "rejected" "J" (.long p4) := f55.keep K63q nin0
  have f63 : Fld Z h35 b17 "com/example/shelfmark/shelfmark/ingest/FileReport" "read" "J" (.long p5) := p30_1.ext Ex35
  have f64 : Fld Z T53.heap b17 "com/example/shelfmark/shelfmark/ingest/FileReport" "read" "J" (.long p5) := f63.keep K53q (ninS (Nat.ne_of_lt (Nat.lt_of_lt_of_le p30_0.lt (Nat.le_of_eq gg35.symm))) nin0)
  have f65 : Fld Z T63.heap b17 "com/example/shelfmark/shelfmark/ingest/FileReport" "read" "J" (.long p5) := f64.keep K63q nin0
  have f66 : Fld Z h35 b17 "com/example/shelfmark/shelfmark/ingest/FileReport" "added" "J" (.long p4) := p30_2.ext Ex35
  have f67 : Fld Z T53.heap b17 "com/example/shelfmark/shelfmark/ingest/FileReport" "added" "J" (.long p4) := f66.keep K53q (ninS (Nat.ne_of_lt (Nat.lt_of_lt_of_le p30_0.lt (Nat.le_of_eq gg35.symm))) nin0)
  have f68 : Fld Z T63.heap b17 "com/example/shelfmark/shelfmark/ingest/FileReport" "added" "J" (.long p4) := f67.keep K63q nin0
  have f69 : Fld Z h35 b17 "com/example/shelfmark/shelfmark/ingest/FileReport" "updated" "J" (.long p3) := p30_3.ext Ex35
  have f70 : Fld Z T53.heap b17 "com/example/shelfmark/shelfmark/ingest/FileReport" "updated" "J" (.long p3) := f69.keep K53q (ninS (Nat.ne_of_lt (Nat.lt_of_lt_of_le p30_0.lt (Nat.le_of_eq gg35.symm))) nin0)
  have f71 : Fld Z T63.heap b17 "com/example/shelfmark/shelfmark/ingest/FileReport" "updated" "J" (.long p3) := f70.keep K63q nin0
  have f72 : Fld Z h35 b17 "com/example/shelfmark/shelfmark/ingest/FileReport" "deleted" "J" (.long p2) := p30_4.ext Ex35
  have f73 : Fld Z T53.heap b17 "com/example/shelfmark/shelfmark/ingest/FileReport" "deleted" "J" (.long p2) := f72.keep K53q (ninS (Nat.ne_of_lt (Nat.lt_of_lt_of_le p30_0.lt (Nat.le_of_eq gg35.symm))) nin0)
  have f74 : Fld Z T63.heap b17 "com/example/shelfmark/shelfmark/ingest/FileReport" "deleted" "J" (.long p2) := f73.keep K63q nin0
  have f75 : Fld Z h35 b17 "com/example/shelfmark/shelfmark/ingest/FileReport" "rejected" "J" (.long p1) := p30_5.ext Ex35
  have f76 : Fld Z T53.heap b17 "com/example/shelfmark/shelfmark/ingest/FileReport" "rejected" "J" (.long p1) := f75.keep K53q (ninS (Nat.ne_of_lt (Nat.lt_of_lt_of_le p30_0.lt (Nat.le_of_eq gg35.symm))) nin0)
  have f77 : Fld Z T63.heap b17 "com/example/shelfmark/shelfmark/ingest/FileReport" "rejected" "J" (.long p1) := f76.keep K63q nin0
  have f78 : Exa Z h35 b0_ "com/example/shelfmark/shelfmark/ingest/FileReport" := f38.ext Ex35
  have f79 : Exa Z T53.heap b0_ "com/example/shelfmark/shelfmark/ingest/FileReport" := f78.keep K53q
  have f80 : Exa Z T63.heap b0_ "com/example/shelfmark/shelfmark/ingest/FileReport" := f79.keep K63q
  obtain ⟨cq72, kq72, q72a, q72b, q72c⟩ := isOf hZ rfl f80
  obtain ⟨_, _, ⟨T72, Lo72, kk72, nn72⟩, -, X72, ⟨Lc72, hQ72, ll72, yy72, zz72⟩, st72⟩ := X63.virtualBack hx (y := (⟨"com/example/shelfmark/shelfmark/ingest/FileReport", "plus", "(Lcom/example/shelfmark/shelfmark/ingest/FileReport;)Lcom/example/shelfmark/shelfmark/ingest/FileReport;"⟩ : MethodName)) (z := (⟨"com/example/shelfmark/shelfmark/ingest/FileReport", "plus", "(Lcom/example/shelfmark/shelfmark/ingest/FileReport;)Lcom/example/shelfmark/shelfmark/ingest/FileReport;"⟩ : MethodName)) hown (mvT hZ (w_26 hw)) (mvT hZ (w_27 hw)) (notFace_of_selects (args := #[]) (mvT hZ (w_29 hw))) (mvT hZ (w_29 hw)) (mvT hZ (w_28 hw)) (by decide) (backOf (W := 0) (rm_plus l Z a0 hw [] b0_ b17 p0 p1 p2 p3 p4 p5 p4 p3 p2 p1 T63.heap n0 f57 f58 f59 f60 f61 f62 f65 f68 f71 f74 f77) hZ (w_30 hw) (w_2 hw) (by decide) (by decide)) q72a q72c (g := (mkF m 72 #[.val (.long p0), .second, .val (.long p1), .second, .val (.long p2), .second, .val (.long p3), .second, .val (.long p4), .second, .val (.long p5), .second, .val (.ref b0_), .val (.ref b17), .val (.ref b35), .val (.ref d63), .unset, .unset, .unset] [(.ref b17), (.ref b0_)])) rfl (by rw [hml]; rfl) (Steps.refl _) (argsL := [(.ref b17)]) (rest := []) (lenOf pd_3 rfl) rfl (by show 2 * 0 + _ ≤ _; exact Nat.le_of_eq rfl) (hb hby at_72) (fun _ _ => ⟨rfl, rfl, (by decide : 4 + 1 ≤ _), (by decide : 20 + 5 ≤ _)⟩)
  dsimp only [Pt.U, Pt.locs, Pt.cells, Pt.slots] at X72 ll72 yy72 zz72 st72 hQ72
  subst ll72 yy72 zz72
  obtain ⟨d72, rfl, N72q, K72q, p72_0, p72_1, p72_2, p72_3, p72_4, p72_5, p72_6⟩ := hQ72
  have N72 := Fr.app N63 N72q
  have f81 : Keep h0 T72.heap [] := f56.trans K72q all0
  have f82 : Old Z n0 T72.heap := f57.keep K72q all0
  have f83 : Fld Z T72.heap b17 "com/example/shelfmark/shelfmark/ingest/FileReport" "read" "J" (.long p5) := f65.keep K72q nin0
  have f84 : Fld Z T72.heap b17 "com/example/shelfmark/shelfmark/ingest/FileReport" "added" "J" (.long p4) := f68.keep K72q nin0
  have f85 : Fld Z T72.heap b17 "com/example/shelfmark/shelfmark/ingest/FileReport" "updated" "J" (.long p3) := f71.keep K72q nin0
  have f86 : Fld Z T72.heap b17 "com/example/shelfmark/shelfmark/ingest/FileReport" "deleted" "J" (.long p2) := f74.keep K72q nin0
  have f87 : Fld Z T72.heap b17 "com/example/shelfmark/shelfmark/ingest/FileReport" "rejected" "J" (.long p1) := f77.keep K72q nin0
  have f88 : Fld Z T72.heap b0_ "com/example/shelfmark/shelfmark/ingest/FileReport" "read" "J" (.long p0) := f58.keep K72q nin0
  have f89 : Fld Z T72.heap b0_ "com/example/shelfmark/shelfmark/ingest/FileReport" "added" "J" (.long p1) := f59.keep K72q nin0
  have f90 : Fld Z T72.heap b0_ "com/example/shelfmark/shelfmark/ingest/FileReport" "updated" "J" (.long p2) := f60.keep K72q nin0
  have f91 : Fld Z T72.heap b0_ "com/example/shelfmark/shelfmark/ingest/FileReport" "deleted" "J" (.long p3) := f61.keep K72q nin0
  have f92 : Fld Z T72.heap b0_ "com/example/shelfmark/shelfmark/ingest/FileReport" "rejected" "J" (.long p4) := f62.keep K72q nin0
  have f93 : Exa Z h35 b17 "com/example/shelfmark/shelfmark/ingest/FileReport" := p30_0.ext Ex35
  have f94 : Exa Z T53.heap b17 "com/example/shelfmark/shelfmark/ingest/FileReport" := f93.keep K53q
  have f95 : Exa Z T63.heap b17 "com/example/shelfmark/shelfmark/ingest/FileReport" := f94.keep K63q
  have f96 : Exa Z T72.heap b17 "com/example/shelfmark/shelfmark/ingest/FileReport" := f95.keep K72q
  obtain ⟨cq81, kq81, q81a, q81b, q81c⟩ := isOf hZ rfl f96
  obtain ⟨_, _, ⟨T81, Lo81, kk81, nn81⟩, -, X81, ⟨Lc81, hQ81, ll81, yy81, zz81⟩, st81⟩ := X72.virtualBack hx (y := (⟨"com/example/shelfmark/shelfmark/ingest/FileReport", "plus", "(Lcom/example/shelfmark/shelfmark/ingest/FileReport;)Lcom/example/shelfmark/shelfmark/ingest/FileReport;"⟩ : MethodName)) (z := (⟨"com/example/shelfmark/shelfmark/ingest/FileReport", "plus", "(Lcom/example/shelfmark/shelfmark/ingest/FileReport;)Lcom/example/shelfmark/shelfmark/ingest/FileReport;"⟩ : MethodName)) hown (mvT hZ (w_26 hw)) (mvT hZ (w_27 hw)) (notFace_of_selects (args := #[]) (mvT hZ (w_29 hw))) (mvT hZ (w_29 hw)) (mvT hZ (w_28 hw)) (by decide) (backOf (W := 0) (rm_plus l Z a0 hw [] b17 b0_ p5 p4 p3 p2 p1 p0 p1 p2 p3 p4 T72.heap n0 f82 f83 f84 f85 f86 f87 f88 f89 f90 f91 f92) hZ (w_30 hw) (w_2 hw) (by decide) (by decide)) q81a q81c (g := (mkF m 81 #[.val (.long p0), .second, .val (.long p1), .second, .val (.long p2), .second, .val (.long p3), .second, .val (.long p4), .second, .val (.long p5), .second, .val (.ref b0_), .val (.ref b17), .val (.ref b35), .val (.ref d63), .val (.ref d72), .unset, .unset] [(.ref b0_), (.ref b17)])) rfl (by rw [hml]; rfl) (Steps.refl _) (argsL := [(.ref b0_)]) (rest := []) (lenOf pd_3 rfl) rfl (by show 2 * 0 + _ ≤ _; exact Nat.le_of_eq rfl) (hb hby at_81) (fun _ _ => ⟨rfl, rfl, (by decide : 5 + 1 ≤ _), (by decide : 25 + 5 ≤ _)⟩)
  dsimp only [Pt.U, Pt.locs, Pt.cells, Pt.slots] at X81 ll81 yy81 zz81 st81 hQ81
  subst ll81 yy81 zz81
  obtain ⟨d81, rfl, N81q, K81q, p81_0, p81_1, p81_2, p81_3, p81_4, p81_5, p81_6⟩ := hQ81
  have N81 := Fr.app N72 N81q
  have f97 : Keep h0 T81.heap [] := f81.trans K81q all0
  have f98 : Old Z n0 T81.heap := f82.keep K81q all0
  have f99 : Fld Z T81.heap d72 "com/example/shelfmark/shelfmark/ingest/FileReport" "read" "J" (.long (p0 + p5)) := p72_2.keep K81q nin0
  have f100 : Fld Z T81.heap d72 "com/example/shelfmark/shelfmark/ingest/FileReport" "added" "J" (.long (p1 + p4)) := p72_3.keep K81q nin0
  have f101 : Fld Z T81.heap d72 "com/example/shelfmark/shelfmark/ingest/FileReport" "updated" "J" (.long (p2 + p3)) := p72_4.keep K81q nin0
  have f102 : Fld Z T81.heap d72 "com/example/shelfmark/shelfmark/ingest/FileReport" "deleted" "J" (.long (p3 + p2)) := p72_5.keep K81q nin0
  have f103 : Fld Z T81.heap d72 "com/example/shelfmark/shelfmark/ingest/FileReport" "rejected" "J" (.long (p4 + p1)) := p72_6.keep K81q nin0
  have f104 : Fld Z T63.heap b35 "com/example/shelfmark/shelfmark/ingest/FileReport" "read" "J" (.long (-p5)) := p53_1.keep K63q nin0
  have f105 : Fld Z T72.heap b35 "com/example/shelfmark/shelfmark/ingest/FileReport" "read" "J" (.long (-p5)) := f104.keep K72q nin0
  have f106 : Fld Z T81.heap b35 "com/example/shelfmark/shelfmark/ingest/FileReport" "read" "J" (.long (-p5)) := f105.keep K81q nin0
  have f107 : Fld Z T63.heap b35 "com/example/shelfmark/shelfmark/ingest/FileReport" "added" "J" (.long (-p4)) := p53_2.keep K63q nin0
  have f108 : Fld Z T72.heap b35 "com/example/shelfmark/shelfmark/ingest/FileReport" "added" "J" (.long (-p4)) := f107.keep K72q nin0
  have f109 : Fld Z T81.heap b35 "com/example/shelfmark/shelfmark/ingest/FileReport" "added" "J" (.long (-p4)) := f108.keep K81q nin0
  have f110 : Fld Z T63.heap b35 "com/example/shelfmark/shelfmark/ingest/FileReport" "updated" "J" (.long (-p3)) := p53_3.keep K63q nin0
  have f111 : Fld Z T72.heap b35 "com/example/shelfmark/shelfmark/ingest/FileReport" "updated" "J" (.long (-p3)) := f110.keep K72q nin0
  have f112 : Fld Z T81.heap b35 "com/example/shelfmark/shelfmark/ingest/FileReport" "updated" "J" (.long (-p3)) := f111.keep K81q nin0
  have f113 : Fld Z T63.heap b35 "com/example/shelfmark/shelfmark/ingest/FileReport" "deleted" "J" (.long (-p2)) := p53_4.keep K63q nin0
  have f114 : Fld Z T72.heap b35 "com/example/shelfmark/shelfmark/ingest/FileReport" "deleted" "J" (.long (-p2)) := f113.keep K72q nin0
  have f115 : Fld Z T81.heap b35 "com/example/shelfmark/shelfmark/ingest/FileReport" "deleted" "J" (.long (-p2)) := f114.keep K81q nin0
  have f116 : Fld Z T63.heap b35 "com/example/shelfmark/shelfmark/ingest/FileReport" "rejected" "J" (.long (-p1)) := p53_5.keep K63q nin0
  have f117 : Fld Z T72.heap b35 "com/example/shelfmark/shelfmark/ingest/FileReport" "rejected" "J" (.long (-p1)) := f116.keep K72q nin0
  have f118 : Fld Z T81.heap b35 "com/example/shelfmark/shelfmark/ingest/FileReport" "rejected" "J" (.long (-p1)) := f117.keep K81q nin0
  have f119 : Exa Z T81.heap d72 "com/example/shelfmark/shelfmark/ingest/FileReport" := p72_1.keep K81q
  obtain ⟨cq90, kq90, q90a, q90b, q90c⟩ := isOf hZ rfl f119
  obtain ⟨_, _, ⟨T90, Lo90, kk90, nn90⟩, -, X90, ⟨Lc90, hQ90, ll90, yy90, zz90⟩, st90⟩ := X81.virtualBack hx (y := (⟨"com/example/shelfmark/shelfmark/ingest/FileReport", "plus", "(Lcom/example/shelfmark/shelfmark/ingest/FileReport;)Lcom/example/shelfmark/shelfmark/ingest/FileReport;"⟩ : MethodName)) (z := (⟨"com/example/shelfmark/shelfmark/ingest/FileReport", "plus", "(Lcom/example/shelfmark/shelfmark/ingest/FileReport;)Lcom/example/shelfmark/shelfmark/ingest/FileReport;"⟩ : MethodName)) hown (mvT hZ (w_26 hw)) (mvT hZ (w_27 hw)) (notFace_of_selects (args := #[]) (mvT hZ (w_29 hw))) (mvT hZ (w_29 hw)) (mvT hZ (w_28 hw)) (by decide) (backOf (W := 0) (rm_plus l Z a0 hw [] d72 b35 ((p0 + p5)) ((p1 + p4)) ((p2 + p3)) ((p3 + p2)) ((p4 + p1)) (-p5) (-p4) (-p3) (-p2) (-p1) T81.heap n0 f98 f99 f100 f101 f102 f103 f106 f109 f112 f115 f118) hZ (w_30 hw) (w_2 hw) (by decide) (by decide)) q90a q90c (g := (mkF m 90 #[.val (.long p0), .second, .val (.long p1), .second, .val (.long p2), .second, .val (.long p3), .second, .val (.long p4), .second, .val (.long p5), .second, .val (.ref b0_), .val (.ref b17), .val (.ref b35), .val (.ref d63), .val (.ref d72), .val (.ref d81), .unset] [(.ref b35), (.ref d72)])) rfl (by rw [hml]; rfl) (Steps.refl _) (argsL := [(.ref b35)]) (rest := []) (lenOf pd_3 rfl) rfl (by show 2 * 0 + _ ≤ _; exact Nat.le_of_eq rfl) (hb hby at_90) (fun _ _ => ⟨rfl, rfl, (by decide : 6 + 1 ≤ _), (by decide : 30 + 5 ≤ _)⟩)
  dsimp only [Pt.U, Pt.locs, Pt.cells, Pt.slots] at X90 ll90 yy90 zz90 st90 hQ90
  subst ll90 yy90 zz90
  obtain ⟨d90, rfl, N90q, K90q, p90_0, p90_1, p90_2, p90_3, p90_4, p90_5, p90_6⟩ := hQ90
  have N90 := Fr.app N81 N90q
  have f120 : Keep h0 T90.heap [] := f97.trans K90q all0
  have f121 : Old Z n0 T90.heap := f98.keep K90q all0
  have f122 : Exa Z T72.heap d63 "com/example/shelfmark/shelfmark/ingest/FileReport" := p63_1.keep K72q
  have f123 : Exa Z T81.heap d63 "com/example/shelfmark/shelfmark/ingest/FileReport" := f122.keep K81q
  have f124 : Exa Z T90.heap d63 "com/example/shelfmark/shelfmark/ingest/FileReport" := f123.keep K90q
  have f125 : Exa Z T72.heap b0_ "com/example/shelfmark/shelfmark/ingest/FileReport" := f80.keep K72q
  have f126 : Exa Z T81.heap b0_ "com/example/shelfmark/shelfmark/ingest/FileReport" := f125.keep K81q
  have f127 : Exa Z T90.heap b0_ "com/example/shelfmark/shelfmark/ingest/FileReport" := f126.keep K90q
  have f128 : Fld Z T72.heap d63 "com/example/shelfmark/shelfmark/ingest/FileReport" "read" "J" (.long ((0 : Int64) + p0)) := p63_2.keep K72q nin0
  have f129 : Fld Z T81.heap d63 "com/example/shelfmark/shelfmark/ingest/FileReport" "read" "J" (.long ((0 : Int64) + p0)) := f128.keep K81q nin0
  have f130 : Fld Z T90.heap d63 "com/example/shelfmark/shelfmark/ingest/FileReport" "read" "J" (.long ((0 : Int64) + p0)) := f129.keep K90q nin0
  have f131 : Fld Z T72.heap d63 "com/example/shelfmark/shelfmark/ingest/FileReport" "added" "J" (.long ((0 : Int64) + p1)) := p63_3.keep K72q nin0
  have f132 : Fld Z T81.heap d63 "com/example/shelfmark/shelfmark/ingest/FileReport" "added" "J" (.long ((0 : Int64) + p1)) := f131.keep K81q nin0
  have f133 : Fld Z T90.heap d63 "com/example/shelfmark/shelfmark/ingest/FileReport" "added" "J" (.long ((0 : Int64) + p1)) := f132.keep K90q nin0
  have f134 : Fld Z T72.heap d63 "com/example/shelfmark/shelfmark/ingest/FileReport" "updated" "J" (.long ((0 : Int64) + p2)) := p63_4.keep K72q nin0
  have f135 : Fld Z T81.heap d63 "com/example/shelfmark/shelfmark/ingest/FileReport" "updated" "J" (.long ((0 : Int64) + p2)) := f134.keep K81q nin0
  have f136 : Fld Z T90.heap d63 "com/example/shelfmark/shelfmark/ingest/FileReport" "updated" "J" (.long ((0 : Int64) + p2)) := f135.keep K90q nin0
  have f137 : Fld Z T72.heap d63 "com/example/shelfmark/shelfmark/ingest/FileReport" "deleted" "J" (.long ((0 : Int64) + p3)) := p63_5.keep K72q nin0
  have f138 : Fld Z T81.heap d63 "com/example/shelfmark/shelfmark/ingest/FileReport" "deleted" "J" (.long ((0 : Int64) + p3)) := f137.keep K81q nin0
  have f139 : Fld Z T90.heap d63 "com/example/shelfmark/shelfmark/ingest/FileReport" "deleted" "J" (.long ((0 : Int64) + p3)) := f138.keep K90q nin0
  have f140 : Fld Z T72.heap d63 "com/example/shelfmark/shelfmark/ingest/FileReport" "rejected" "J" (.long ((0 : Int64) + p4)) := p63_6.keep K72q nin0
  have f141 : Fld Z T81.heap d63 "com/example/shelfmark/shelfmark/ingest/FileReport" "rejected" "J" (.long ((0 : Int64) + p4)) := f140.keep K81q nin0
  have f142 : Fld Z T90.heap d63 "com/example/shelfmark/shelfmark/ingest/FileReport" "rejected" "J" (.long ((0 : Int64) + p4)) := f141.keep K90q nin0
  have f143 : Fld Z T81.heap b0_ "com/example/shelfmark/shelfmark/ingest/FileReport" "read" "J" (.long p0) := f88.keep K81q nin0
  have f144 : Fld Z T90.heap b0_ "com/example/shelfmark/shelfmark/ingest/FileReport" "read" "J" (.long p0) := f143.keep K90q nin0
  have f145 : Fld Z T81.heap b0_ "com/example/shelfmark/shelfmark/ingest/FileReport" "added" "J" (.long p1) := f89.keep K81q nin0
  have f146 : Fld Z T90.heap b0_ "com/example/shelfmark/shelfmark/ingest/FileReport" "added" "J" (.long p1) := f145.keep K90q nin0
  have f147 : Fld Z T81.heap b0_ "com/example/shelfmark/shelfmark/ingest/FileReport" "updated" "J" (.long p2) := f90.keep K81q nin0
  have f148 : Fld Z T90.heap b0_ "com/example/shelfmark/shelfmark/ingest/FileReport" "updated" "J" (.long p2) := f147.keep K90q nin0
  have f149 : Fld Z T81.heap b0_ "com/example/shelfmark/shelfmark/ingest/FileReport" "deleted" "J" (.long p3) := f91.keep K81q nin0
  have f150 : Fld Z T90.heap b0_ "com/example/shelfmark/shelfmark/ingest/FileReport" "deleted" "J" (.long p3) := f149.keep K90q nin0
  have f151 : Fld Z T81.heap b0_ "com/example/shelfmark/shelfmark/ingest/FileReport" "rejected" "J" (.long p4) := f92.keep K81q nin0
  have f152 : Fld Z T90.heap b0_ "com/example/shelfmark/shelfmark/ingest/FileReport" "rejected" "J" (.long p4) := f151.keep K90q nin0
  obtain ⟨_, _, ⟨T99, Lo99, kk99, nn99⟩, -, X99, ⟨Lc99, hQ99, ll99, yy99, zz99⟩, st99⟩ := Jvm.LawKit.callS X90 hx (y := (⟨"com/example/shelfmark/shelfmark/ingest/FileReportPlusPinLaw", "same", "(Lcom/example/shelfmark/shelfmark/ingest/FileReport;Lcom/example/shelfmark/shelfmark/ingest/FileReport;)Z"⟩ : MethodName)) hown (mvT hZ (w_33 hw)) (mvT hZ (w_34 hw)) (mvT hZ (w_35 hw)) (mvT hZ (w_36 hw)) (by decide) (backOf (W := 0) (rm_same l Z a0 hw [] d63 b0_ (((0 : Int64) + p0)) (((0 : Int64) + p1)) (((0 : Int64) + p2)) (((0 : Int64) + p3)) (((0 : Int64) + p4)) p0 p1 p2 p3 p4 T90.heap n0 f121 f124 f127 f130 f133 f136 f139 f142 f144 f146 f148 f150 f152 (Int64.zero_add _) (Int64.zero_add _) (Int64.zero_add _) (Int64.zero_add _) (Int64.zero_add _)) hZ (w_36 hw) (w_35 hw) (by decide) (by decide)) (g := (mkF m 99 #[.val (.long p0), .second, .val (.long p1), .second, .val (.long p2), .second, .val (.long p3), .second, .val (.long p4), .second, .val (.long p5), .second, .val (.ref b0_), .val (.ref b17), .val (.ref b35), .val (.ref d63), .val (.ref d72), .val (.ref d81), .val (.ref d90)] [(.ref b0_), (.ref d63)])) rfl (by rw [hml]; rfl) (argsL := [(.ref d63), (.ref b0_)]) (rest := []) (lenOf pd_4 rfl) rfl (by show 2 * 0 + _ ≤ _; exact Nat.le_of_eq rfl) (hb hby at_99) (fun _ _ => ⟨rfl, rfl, (by decide : 7 + 0 ≤ _), (by decide : 35 + 0 ≤ _)⟩)
  dsimp only [Pt.U, Pt.locs, Pt.cells, Pt.slots] at X99 ll99 yy99 zz99 st99 hQ99
  subst ll99 yy99 zz99
  obtain ⟨rfl, N99q, K99q⟩ := hQ99
  have N99 := Fr.app N90 N99q
  have f153 : Keep h0 T99.heap [] := f120.trans K99q all0
  have f154 : Old Z n0 T99.heap := f121.keep K99q all0
  have f155 : Exa Z T90.heap d72 "com/example/shelfmark/shelfmark/ingest/FileReport" := f119.keep K90q
  have f156 : Exa Z T99.heap d72 "com/example/shelfmark/shelfmark/ingest/FileReport" := f155.keep K99q
  have f157 : Exa Z T90.heap d81 "com/example/shelfmark/shelfmark/ingest/FileReport" := p81_1.keep K90q
  have f158 : Exa Z T99.heap d81 "com/example/shelfmark/shelfmark/ingest/FileReport" := f157.keep K99q
  have f159 : Fld Z T90.heap d72 "com/example/shelfmark/shelfmark/ingest/FileReport" "read" "J" (.long (p0 + p5)) := f99.keep K90q nin0
  have f160 : Fld Z T99.heap d72 "com/example/shelfmark/shelfmark/ingest/FileReport" "read" "J" (.long (p0 + p5)) := f159.keep K99q nin0
  have f161 : Fld Z T90.heap d72 "com/example/shelfmark/shelfmark/ingest/FileReport" "added" "J" (.long (p1 + p4)) := f100.keep K90q nin0
  have f162 : Fld Z T99.heap d72 "com/example/shelfmark/shelfmark/ingest/FileReport" "added" "J" (.long (p1 + p4)) := f161.keep K99q nin0
  have f163 : Fld Z T90.heap d72 "com/example/shelfmark/shelfmark/ingest/FileReport" "updated" "J" (.long (p2 + p3)) := f101.keep K90q nin0
  have f164 : Fld Z T99.heap d72 "com/example/shelfmark/shelfmark/ingest/FileReport" "updated" "J" (.long (p2 + p3)) := f163.keep K99q nin0
  have f165 : Fld Z T90.heap d72 "com/example/shelfmark/shelfmark/ingest/FileReport" "deleted" "J" (.long (p3 + p2)) := f102.keep K90q nin0
  have f166 : Fld Z T99.heap d72 "com/example/shelfmark/shelfmark/ingest/FileReport" "deleted" "J" (.long (p3 + p2)) := f165.keep K99q nin0
  have f167 : Fld Z T90.heap d72 "com/example/shelfmark/shelfmark/ingest/FileReport" "rejected" "J" (.long (p4 + p1)) := f103.keep K90q nin0
  have f168 : Fld Z T99.heap d72 "com/example/shelfmark/shelfmark/ingest/FileReport" "rejected" "J" (.long (p4 + p1)) := f167.keep K99q nin0
  have f169 : Fld Z T90.heap d81 "com/example/shelfmark/shelfmark/ingest/FileReport" "read" "J" (.long (p5 + p0)) := p81_2.keep K90q nin0
  have f170 : Fld Z T99.heap d81 "com/example/shelfmark/shelfmark/ingest/FileReport" "read" "J" (.long (p5 + p0)) := f169.keep K99q nin0
  have f171 : Fld Z T90.heap d81 "com/example/shelfmark/shelfmark/ingest/FileReport" "added" "J" (.long (p4 + p1)) := p81_3.keep K90q nin0
  have f172 : Fld Z T99.heap d81 "com/example/shelfmark/shelfmark/ingest/FileReport" "added" "J" (.long (p4 + p1)) := f171.keep K99q nin0
  have f173 : Fld Z T90.heap d81 "com/example/shelfmark/shelfmark/ingest/FileReport" "updated" "J" (.long (p3 + p2)) := p81_4.keep K90q nin0
  have f174 : Fld Z T99.heap d81 "com/example/shelfmark/shelfmark/ingest/FileReport" "updated" "J" (.long (p3 + p2)) := f173.keep K99q nin0
  have f175 : Fld Z T90.heap d81 "com/example/shelfmark/shelfmark/ingest/FileReport" "deleted" "J" (.long (p2 + p3)) := p81_5.keep K90q nin0
  have f176 : Fld Z T99.heap d81 "com/example/shelfmark/shelfmark/ingest/FileReport" "deleted" "J" (.long (p2 + p3)) := f175.keep K99q nin0
  have f177 : Fld Z T90.heap d81 "com/example/shelfmark/shelfmark/ingest/FileReport" "rejected" "J" (.long (p1 + p4)) := p81_6.keep K90q nin0
  have f178 : Fld Z T99.heap d81 "com/example/shelfmark/shelfmark/ingest/FileReport" "rejected" "J" (.long (p1 + p4)) := f177.keep K99q nin0
  obtain ⟨_, _, ⟨T109, Lo109, kk109, nn109⟩, -, X109, ⟨Lc109, hQ109, ll109, yy109, zz109⟩, st109⟩ := Jvm.LawKit.callS X99 hx (y := (⟨"com/example/shelfmark/shelfmark/ingest/FileReportPlusPinLaw", "same", "(Lcom/example/shelfmark/shelfmark/ingest/FileReport;Lcom/example/shelfmark/shelfmark/ingest/FileReport;)Z"⟩ : MethodName)) hown (mvT hZ (w_33 hw)) (mvT hZ (w_34 hw)) (mvT hZ (w_35 hw)) (mvT hZ (w_36 hw)) (by decide) (backOf (W := 0) (rm_same l Z a0 hw [] d72 d81 ((p0 + p5)) ((p1 + p4)) ((p2 + p3)) ((p3 + p2)) ((p4 + p1)) ((p5 + p0)) ((p4 + p1)) ((p3 + p2)) ((p2 + p3)) ((p1 + p4)) T99.heap n0 f154 f156 f158 f160 f162 f164 f166 f168 f170 f172 f174 f176 f178 (Int64.add_comm _ _) (Int64.add_comm _ _) (Int64.add_comm _ _) (Int64.add_comm _ _) (Int64.add_comm _ _)) hZ (w_36 hw) (w_35 hw) (by decide) (by decide)) (g := (mkF m 109 #[.val (.long p0), .second, .val (.long p1), .second, .val (.long p2), .second, .val (.long p3), .second, .val (.long p4), .second, .val (.long p5), .second, .val (.ref b0_), .val (.ref b17), .val (.ref b35), .val (.ref d63), .val (.ref d72), .val (.ref d81), .val (.ref d90)] [(.ref d81), (.ref d72)])) rfl (by rw [hml]; rfl) (argsL := [(.ref d72), (.ref d81)]) (rest := []) (lenOf pd_4 rfl) rfl (by show 2 * 0 + _ ≤ _; exact Nat.le_of_eq rfl) (hb hby at_109) (fun _ _ => ⟨rfl, rfl, (by decide : 7 + 0 ≤ _), (by decide : 35 + 0 ≤ _)⟩)
  dsimp only [Pt.U, Pt.locs, Pt.cells, Pt.slots] at X109 ll109 yy109 zz109 st109 hQ109
  subst ll109 yy109 zz109
  obtain ⟨rfl, N109q, K109q⟩ := hQ109
  have N109 := Fr.app N99 N109q
  have f179 : Keep h0 T109.heap [] := f153.trans K109q all0
  have f180 : Old Z n0 T109.heap := f154.keep K109q all0
  have f181 : Exa Z T99.heap d90 "com/example/shelfmark/shelfmark/ingest/FileReport" := p90_1.keep K99q
  have f182 : Exa Z T109.heap d90 "com/example/shelfmark/shelfmark/ingest/FileReport" := f181.keep K109q
  have f183 : Exa Z T99.heap b0_ "com/example/shelfmark/shelfmark/ingest/FileReport" := f127.keep K99q
  have f184 : Exa Z T109.heap b0_ "com/example/shelfmark/shelfmark/ingest/FileReport" := f183.keep K109q
  have f185 : Fld Z T99.heap d90 "com/example/shelfmark/shelfmark/ingest/FileReport" "read" "J" (.long ((p0 + p5) + (-p5))) := p90_2.keep K99q nin0
  have f186 : Fld Z T109.heap d90 "com/example/shelfmark/shelfmark/ingest/FileReport" "read" "J" (.long ((p0 + p5) + (-p5))) := f185.keep K109q nin0
  have f187 : Fld Z T99.heap d90 "com/example/shelfmark/shelfmark/ingest/FileReport" "added" "J" (.long ((p1 + p4) + (-p4))) := p90_3.keep K99q nin0
  have f188 : Fld Z T109.heap d90 "com/example/shelfmark/shelfmark/ingest/FileReport" "added" "J" (.long ((p1 + p4) + (-p4))) := f187.keep K109q nin0
  have f189 : Fld Z T99.heap d90 "com/example/shelfmark/shelfmark/ingest/FileReport" "updated" "J" (.long ((p2 + p3) + (-p3))) := p90_4.keep K99q nin0
  have f190 : Fld Z T109.heap d90 "com/example/shelfmark/shelfmark/ingest/FileReport" "updated" "J" (.long ((p2 + p3) + (-p3))) := f189.keep K109q nin0
  have f191 : Fld Z T99.heap d90 "com/example/shelfmark/shelfmark/ingest/FileReport" "deleted" "J" (.long ((p3 + p2) + (-p2))) := p90_5.keep K99q nin0
  have f192 : Fld Z T109.heap d90 "com/example/shelfmark/shelfmark/ingest/FileReport" "deleted" "J" (.long ((p3 + p2) + (-p2))) := f191.keep K109q nin0
  have f193 : Fld Z T99.heap d90 "com/example/shelfmark/shelfmark/ingest/FileReport" "rejected" "J" (.long ((p4 + p1) + (-p1))) := p90_6.keep K99q nin0
  have f194 : Fld Z T109.heap d90 "com/example/shelfmark/shelfmark/ingest/FileReport" "rejected" "J" (.long ((p4 + p1) + (-p1))) := f193.keep K109q nin0
  have f195 : Fld Z T99.heap b0_ "com/example/shelfmark/shelfmark/ingest/FileReport" "read" "J" (.long p0) := f144.keep K99q nin0
  have f196 : Fld Z T109.heap b0_ "com/example/shelfmark/shelfmark/ingest/FileReport" "read" "J" (.long p0) := f195.keep K109q nin0
  have f197 : Fld Z T99.heap b0_ "com/example/shelfmark/shelfmark/ingest/FileReport" "added" "J" (.long p1) := f146.keep K99q nin0
  have f198 : Fld Z T109.heap b0_ "com/example/shelfmark/shelfmark/ingest/FileReport" "added" "J" (.long p1) := f197.keep K109q nin0
  have f199 : Fld Z T99.heap b0_ "com/example/shelfmark/shelfmark/ingest/FileReport" "updated" "J" (.long p2) := f148.keep K99q nin0
  have f200 : Fld Z T109.heap b0_ "com/example/shelfmark/shelfmark/ingest/FileReport" "updated" "J" (.long p2) := f199.keep K109q nin0
  have f201 : Fld Z T99.heap b0_ "com/example/shelfmark/shelfmark/ingest/FileReport" "deleted" "J" (.long p3) := f150.keep K99q nin0
  have f202 : Fld Z T109.heap b0_ "com/example/shelfmark/shelfmark/ingest/FileReport" "deleted" "J" (.long p3) := f201.keep K109q nin0
  have f203 : Fld Z T99.heap b0_ "com/example/shelfmark/shelfmark/ingest/FileReport" "rejected" "J" (.long p4) := f152.keep K99q nin0
  have f204 : Fld Z T109.heap b0_ "com/example/shelfmark/shelfmark/ingest/FileReport" "rejected" "J" (.long p4) := f203.keep K109q nin0
  obtain ⟨_, _, ⟨T119, Lo119, kk119, nn119⟩, -, X119, ⟨Lc119, hQ119, ll119, yy119, zz119⟩, st119⟩ := Jvm.LawKit.callS X109 hx (y := (⟨"com/example/shelfmark/shelfmark/ingest/FileReportPlusPinLaw", "same", "(Lcom/example/shelfmark/shelfmark/ingest/FileReport;Lcom/example/shelfmark/shelfmark/ingest/FileReport;)Z"⟩ : MethodName)) hown (mvT hZ (w_33 hw)) (mvT hZ (w_34 hw)) (mvT hZ (w_35 hw)) (mvT hZ (w_36 hw)) (by decide) (backOf (W := 0) (rm_same l Z a0 hw [] d90 b0_ (((p0 + p5) + (-p5))) (((p1 + p4) + (-p4))) (((p2 + p3) + (-p3))) (((p3 + p2) + (-p2))) (((p4 + p1) + (-p1))) p0 p1 p2 p3 p4 T109.heap n0 f180 f182 f184 f186 f188 f190 f192 f194 f196 f198 f200 f202 f204 (own_back _ _) (own_back _ _) (own_back _ _) (own_back _ _) (own_back _ _)) hZ (w_36 hw) (w_35 hw) (by decide) (by decide)) (g := (mkF m 119 #[.val (.long p0), .second, .val (.long p1), .second, .val (.long p2), .second, .val (.long p3), .second, .val (.long p4), .second, .val (.long p5), .second, .val (.ref b0_), .val (.ref b17), .val (.ref b35), .val (.ref d63), .val (.ref d72), .val (.ref d81), .val (.ref d90)] [(.ref b0_), (.ref d90)])) rfl (by rw [hml]; rfl) (argsL := [(.ref d90), (.ref b0_)]) (rest := []) (lenOf pd_4 rfl) rfl (by show 2 * 0 + _ ≤ _; exact Nat.le_of_eq rfl) (hb hby at_119) (fun _ _ => ⟨rfl, rfl, (by decide : 7 + 0 ≤ _), (by decide : 35 + 0 ≤ _)⟩)
  dsimp only [Pt.U, Pt.locs, Pt.cells, Pt.slots] at X119 ll119 yy119 zz119 st119 hQ119
  subst ll119 yy119 zz119
  obtain ⟨rfl, N119q, K119q⟩ := hQ119
  have N119 := Fr.app N109 N119q
  have f205 : Keep h0 T119.heap [] := f179.trans K119q all0
  have f206 : Old Z n0 T119.heap := f180.keep K119q all0
  obtain ⟨fs, hr, hrun, hended, hW, hsame⟩ := X119.leave (v := some (.int (1 : Int32))) (fun h => by rw [Bd.returns] at h; cases h)
  refine ⟨_, _, pre0 _ ?_, hrun, hended, _, _, rfl, ?_, ⟨_, rfl⟩, hW, hsame.mono (by decide) (by decide)⟩
  · show Steps p.tables e below (s₁.setTop (mkF m 0 #[.val (.long p0), .second, .val (.long p1), .second, .val (.long p2), .second, .val (.long p3), .second, .val (.long p4), .second, .val (.long p5), .second, .unset, .unset, .unset, .unset, .unset, .unset, .unset] [])) _
    refine st0_ _ ?_
    show Steps p.tables e below (T0_.setTop (mkF m 3 #[.val (.long p0), .second, .val (.long p1), .second, .val (.long p2), .second, .val (.long p3), .second, .val (.long p4), .second, .val (.long p5), .second, .unset, .unset, .unset, .unset, .unset, .unset, .unset] [(.ref b0_)])) _
    refine XS.dup X0_.here hx rfl (hb hby at_3) rfl rfl ?_
    show Steps p.tables e below (T0_.setTop (mkF m 4 #[.val (.long p0), .second, .val (.long p1), .second, .val (.long p2), .second, .val (.long p3), .second, .val (.long p4), .second, .val (.long p5), .second, .unset, .unset, .unset, .unset, .unset, .unset, .unset] [(.ref b0_), (.ref b0_)])) _
    refine XS.lloadN X0_.here hx rfl (hb hby at_4) rfl ?_
    show Steps p.tables e below (T0_.setTop (mkF m 5 #[.val (.long p0), .second, .val (.long p1), .second, .val (.long p2), .second, .val (.long p3), .second, .val (.long p4), .second, .val (.long p5), .second, .unset, .unset, .unset, .unset, .unset, .unset, .unset] [(.long p0), (.ref b0_), (.ref b0_)])) _
    refine XS.lloadN X0_.here hx rfl (hb hby at_5) rfl ?_
    show Steps p.tables e below (T0_.setTop (mkF m 6 #[.val (.long p0), .second, .val (.long p1), .second, .val (.long p2), .second, .val (.long p3), .second, .val (.long p4), .second, .val (.long p5), .second, .unset, .unset, .unset, .unset, .unset, .unset, .unset] [(.long p1), (.long p0), (.ref b0_), (.ref b0_)])) _
    refine XS.lload X0_.here hx rfl (hb hby at_6) rfl ?_
    show Steps p.tables e below (T0_.setTop (mkF m 8 #[.val (.long p0), .second, .val (.long p1), .second, .val (.long p2), .second, .val (.long p3), .second, .val (.long p4), .second, .val (.long p5), .second, .unset, .unset, .unset, .unset, .unset, .unset, .unset] [(.long p2), (.long p1), (.long p0), (.ref b0_), (.ref b0_)])) _
    refine XS.lload X0_.here hx rfl (hb hby at_8) rfl ?_
    show Steps p.tables e below (T0_.setTop (mkF m 10 #[.val (.long p0), .second, .val (.long p1), .second, .val (.long p2), .second, .val (.long p3), .second, .val (.long p4), .second, .val (.long p5), .second, .unset, .unset, .unset, .unset, .unset, .unset, .unset] [(.long p3), (.long p2), (.long p1), (.long p0), (.ref b0_), (.ref b0_)])) _
    refine XS.lload X0_.here hx rfl (hb hby at_10) rfl ?_
    show Steps p.tables e below (T0_.setTop (mkF m 12 #[.val (.long p0), .second, .val (.long p1), .second, .val (.long p2), .second, .val (.long p3), .second, .val (.long p4), .second, .val (.long p5), .second, .unset, .unset, .unset, .unset, .unset, .unset, .unset] [(.long p4), (.long p3), (.long p2), (.long p1), (.long p0), (.ref b0_), (.ref b0_)])) _
    refine st12.trans ?_
    show Steps p.tables e below (T12.setTop (mkF m 15 #[.val (.long p0), .second, .val (.long p1), .second, .val (.long p2), .second, .val (.long p3), .second, .val (.long p4), .second, .val (.long p5), .second, .unset, .unset, .unset, .unset, .unset, .unset, .unset] [(.ref b0_)])) _
    refine XS.astore X12.here hx rfl (hb hby at_15) rfl rfl (l' := #[.val (.long p0), .second, .val (.long p1), .second, .val (.long p2), .second, .val (.long p3), .second, .val (.long p4), .second, .val (.long p5), .second, .val (.ref b0_), .unset, .unset, .unset, .unset, .unset, .unset]) rfl ?_
    show Steps p.tables e below (T12.setTop (mkF m 17 #[.val (.long p0), .second, .val (.long p1), .second, .val (.long p2), .second, .val (.long p3), .second, .val (.long p4), .second, .val (.long p5), .second, .val (.ref b0_), .unset, .unset, .unset, .unset, .unset, .unset] [])) _
    refine st17 _ ?_
    show Steps p.tables e below (T17.setTop (mkF m 20 #[.val (.long p0), .second, .val (.long p1), .second, .val (.long p2), .second, .val (.long p3), .second, .val (.long p4), .second, .val (.long p5), .second, .val (.ref b0_), .unset, .unset, .unset, .unset, .unset, .unset] [(.ref b17)])) _
    refine XS.dup X17.here hx rfl (hb hby at_20) rfl rfl ?_
    show Steps p.tables e below (T17.setTop (mkF m 21 #[.val (.long p0), .second, .val (.long p1), .second, .val (.long p2), .second, .val (.long p3), .second, .val (.long p4), .second, .val (.long p5), .second, .val (.ref b0_), .unset, .unset, .unset, .unset, .unset, .unset] [(.ref b17), (.ref b17)])) _
    refine XS.lload X17.here hx rfl (hb hby at_21) rfl ?_
    show Steps p.tables e below (T17.setTop (mkF m 23 #[.val (.long p0), .second, .val (.long p1), .second, .val (.long p2), .second, .val (.long p3), .second, .val (.long p4), .second, .val (.long p5), .second, .val (.ref b0_), .unset, .unset, .unset, .unset, .unset, .unset] [(.long p5), (.ref b17), (.ref b17)])) _
    refine XS.lload X17.here hx rfl (hb hby at_23) rfl ?_
    show Steps p.tables e below (T17.setTop (mkF m 25 #[.val (.long p0), .second, .val (.long p1), .second, .val (.long p2), .second, .val (.long p3), .second, .val (.long p4), .second, .val (.long p5), .second, .val (.ref b0_), .unset, .unset, .unset, .unset, .unset, .unset] [(.long p4), (.long p5), (.ref b17), (.ref b17)])) _
    refine XS.lload X17.here hx rfl (hb hby at_25) rfl ?_
    show Steps p.tables e below (T17.setTop (mkF m 27 #[.val (.long p0), .second, .val (.long p1), .second, .val (.long p2), .second, .val (.long p3), .second, .val (.long p4), .second, .val (.long p5), .second, .val (.ref b0_), .unset, .unset, .unset, .unset, .unset, .unset] [(.long p3), (.long p4), (.long p5), (.ref b17), (.ref b17)])) _
    refine XS.lload X17.here hx rfl (hb hby at_27) rfl ?_
    show Steps p.tables e below (T17.setTop (mkF m 29 #[.val (.long p0), .second, .val (.long p1), .second, .val (.long p2), .second, .val (.long p3), .second, .val (.long p4), .second, .val (.long p5), .second, .val (.ref b0_), .unset, .unset, .unset, .unset, .unset, .unset] [(.long p2), (.long p3), (.long p4), (.long p5), (.ref b17), (.ref b17)])) _
    refine XS.lloadN X17.here hx rfl (hb hby at_29) rfl ?_
    show Steps p.tables e below (T17.setTop (mkF m 30 #[.val (.long p0), .second, .val (.long p1), .second, .val (.long p2), .second, .val (.long p3), .second, .val (.long p4), .second, .val (.long p5), .second, .val (.ref b0_), .unset, .unset, .unset, .unset, .unset, .unset] [(.long p1), (.long p2), (.long p3), (.long p4), (.long p5), (.ref b17), (.ref b17)])) _
    refine st30.trans ?_
    show Steps p.tables e below (T30.setTop (mkF m 33 #[.val (.long p0), .second, .val (.long p1), .second, .val (.long p2), .second, .val (.long p3), .second, .val (.long p4), .second, .val (.long p5), .second, .val (.ref b0_), .unset, .unset, .unset, .unset, .unset, .unset] [(.ref b17)])) _
    refine XS.astore X30.here hx rfl (hb hby at_33) rfl rfl (l' := #[.val (.long p0), .second, .val (.long p1), .second, .val (.long p2), .second, .val (.long p3), .second, .val (.long p4), .second, .val (.long p5), .second, .val (.ref b0_), .val (.ref b17), .unset, .unset, .unset, .unset, .unset]) rfl ?_
    show Steps p.tables e below (T30.setTop (mkF m 35 #[.val (.long p0), .second, .val (.long p1), .second, .val (.long p2), .second, .val (.long p3), .second, .val (.long p4), .second, .val (.long p5), .second, .val (.ref b0_), .val (.ref b17), .unset, .unset, .unset, .unset, .unset] [])) _
    refine st35 _ ?_
    show Steps p.tables e below (T35.setTop (mkF m 38 #[.val (.long p0), .second, .val (.long p1), .second, .val (.long p2), .second, .val (.long p3), .second, .val (.long p4), .second, .val (.long p5), .second, .val (.ref b0_), .val (.ref b17), .unset, .unset, .unset, .unset, .unset] [(.ref b35)])) _
    refine XS.dup X35.here hx rfl (hb hby at_38) rfl rfl ?_
    show Steps p.tables e below (T35.setTop (mkF m 39 #[.val (.long p0), .second, .val (.long p1), .second, .val (.long p2), .second, .val (.long p3), .second, .val (.long p4), .second, .val (.long p5), .second, .val (.ref b0_), .val (.ref b17), .unset, .unset, .unset, .unset, .unset] [(.ref b35), (.ref b35)])) _
    refine XS.lload X35.here hx rfl (hb hby at_39) rfl ?_
    show Steps p.tables e below (T35.setTop (mkF m 41 #[.val (.long p0), .second, .val (.long p1), .second, .val (.long p2), .second, .val (.long p3), .second, .val (.long p4), .second, .val (.long p5), .second, .val (.ref b0_), .val (.ref b17), .unset, .unset, .unset, .unset, .unset] [(.long p5), (.ref b35), (.ref b35)])) _
    refine XS.lneg X35.here hx rfl (hb hby at_41) rfl ?_
    show Steps p.tables e below (T35.setTop (mkF m 42 #[.val (.long p0), .second, .val (.long p1), .second, .val (.long p2), .second, .val (.long p3), .second, .val (.long p4), .second, .val (.long p5), .second, .val (.ref b0_), .val (.ref b17), .unset, .unset, .unset, .unset, .unset] [(.long (-p5)), (.ref b35), (.ref b35)])) _
    refine XS.lload X35.here hx rfl (hb hby at_42) rfl ?_
    show Steps p.tables e below (T35.setTop (mkF m 44 #[.val (.long p0), .second, .val (.long p1), .second, .val (.long p2), .second, .val (.long p3), .second, .val (.long p4), .second, .val (.long p5), .second, .val (.ref b0_), .val (.ref b17), .unset, .unset, .unset, .unset, .unset] [(.long p4), (.long (-p5)), (.ref b35), (.ref b35)])) _
    refine XS.lneg X35.here hx rfl (hb hby at_44) rfl ?_
    show Steps p.tables e below (T35.setTop (mkF m 45 #[.val (.long p0), .second, .val (.long p1), .second, .val (.long p2), .second, .val (.long p3), .second, .val (.long p4), .second, .val (.long p5), .second, .val (.ref b0_), .val (.ref b17), .unset, .unset, .unset, .unset, .unset] [(.long (-p4)), (.long (-p5)), (.ref b35), (.ref b35)])) _
    refine XS.lload X35.here hx rfl (hb hby at_45) rfl ?_
    show Steps p.tables e below (T35.setTop (mkF m 47 #[.val (.long p0), .second, .val (.long p1), .second, .val (.long p2), .second, .val (.long p3), .second, .val (.long p4), .second, .val (.long p5), .second, .val (.ref b0_), .val (.ref b17), .unset, .unset, .unset, .unset, .unset] [(.long p3), (.long (-p4)), (.long (-p5)), (.ref b35), (.ref b35)])) _
    refine XS.lneg X35.here hx rfl (hb hby at_47) rfl ?_
    show Steps p.tables e below (T35.setTop (mkF m 48 #[.val (.long p0), .second, .val (.long p1), .second, .val (.long p2), .second, .val (.long p3), .second, .val (.long p4), .second, .val (.long p5), .second, .val (.ref b0_), .val (.ref b17), .unset, .unset, .unset, .unset, .unset] [(.long (-p3)), (.long (-p4)), (.long (-p5)), (.ref b35), (.ref b35)])) _
    refine XS.lload X35.here hx rfl (hb hby at_48) rfl ?_
    show Steps p.tables e below (T35.setTop (mkF m 50 #[.val (.long p0), .second, .val (.long p1), .second, .val (.long p2), .second, .val (.long p3), .second, .val (.long p4), .second, .val (.long p5), .second, .val (.ref b0_), .val (.ref b17), .unset, .unset, .unset, .unset, .unset] [(.long p2), (.long (-p3)), (.long (-p4)), (.long (-p5)), (.ref b35), (.ref b35)])) _
    refine XS.lneg X35.here hx rfl (hb hby at_50) rfl ?_
    show Steps p.tables e below (T35.setTop (mkF m 51 #[.val (.long p0), .second, .val (.long p1), .second, .val (.long p2), .second, .val (.long p3), .second, .val (.long p4), .second, .val (.long p5), .second, .val (.ref b0_), .val (.ref b17), .unset, .unset, .unset, .unset, .unset] [(.long (-p2)), (.long (-p3)), (.long (-p4)), (.long (-p5)), (.ref b35), (.ref b35)])) _
    refine XS.lloadN X35.here hx rfl (hb hby at_51) rfl ?_
    show Steps p.tables e below (T35.setTop (mkF m 52 #[.val (.long p0), .second, .val (.long p1), .second, .val (.long p2), .second, .val (.long p3), .second, .val (.long p4), .second, .val (.long p5), .second, .val (.ref b0_), .val (.ref b17), .unset, .unset, .unset, .unset, .unset] [(.long p1), (.long (-p2)), (.long (-p3)), (.long (-p4)), (.long (-p5)), (.ref b35), (.ref b35)])) _
    refine XS.lneg X35.here hx rfl (hb hby at_52) rfl ?_
    show Steps p.tables e below (T35.setTop (mkF m 53 #[.val (.long p0), .second, .val (.long p1), .second, .val (.long p2), .second, .val (.long p3), .second, .val (.long p4), .second, .val (.long p5), .second, .val (.ref b0_), .val (.ref b17), .unset, .unset, .unset, .unset, .unset] [(.long (-p1)), (.long (-p2)), (.long (-p3)), (.long (-p4)), (.long (-p5)), (.ref b35), (.ref b35)])) _
    refine st53.trans ?_
    show Steps p.tables e below (T53.setTop (mkF m 56 #[.val (.long p0), .second, .val (.long p1), .second, .val (.long p2), .second, .val (.long p3), .second, .val (.long p4), .second, .val (.long p5), .second, .val (.ref b0_), .val (.ref b17), .unset, .unset, .unset, .unset, .unset] [(.ref b35)])) _
    refine XS.astore X53.here hx rfl (hb hby at_56) rfl rfl (l' := #[.val (.long p0), .second, .val (.long p1), .second, .val (.long p2), .second, .val (.long p3), .second, .val (.long p4), .second, .val (.long p5), .second, .val (.ref b0_), .val (.ref b17), .val (.ref b35), .unset, .unset, .unset, .unset]) rfl ?_
    show Steps p.tables e below (T53.setTop (mkF m 58 #[.val (.long p0), .second, .val (.long p1), .second, .val (.long p2), .second, .val (.long p3), .second, .val (.long p4), .second, .val (.long p5), .second, .val (.ref b0_), .val (.ref b17), .val (.ref b35), .unset, .unset, .unset, .unset] [])) _
    refine st58 _ ?_
    show Steps p.tables e below (T58.setTop (mkF m 61 #[.val (.long p0), .second, .val (.long p1), .second, .val (.long p2), .second, .val (.long p3), .second, .val (.long p4), .second, .val (.long p5), .second, .val (.ref b0_), .val (.ref b17), .val (.ref b35), .unset, .unset, .unset, .unset] [(.ref w)])) _
    refine XS.aload X58.here hx rfl (hb hby at_61) rfl rfl ?_
    show Steps p.tables e below (T58.setTop (mkF m 63 #[.val (.long p0), .second, .val (.long p1), .second, .val (.long p2), .second, .val (.long p3), .second, .val (.long p4), .second, .val (.long p5), .second, .val (.ref b0_), .val (.ref b17), .val (.ref b35), .unset, .unset, .unset, .unset] [(.ref b0_), (.ref w)])) _
    refine st63.trans ?_
    show Steps p.tables e below (T63.setTop (mkF m 66 #[.val (.long p0), .second, .val (.long p1), .second, .val (.long p2), .second, .val (.long p3), .second, .val (.long p4), .second, .val (.long p5), .second, .val (.ref b0_), .val (.ref b17), .val (.ref b35), .unset, .unset, .unset, .unset] [(.ref d63)])) _
    refine XS.astore X63.here hx rfl (hb hby at_66) rfl rfl (l' := #[.val (.long p0), .second, .val (.long p1), .second, .val (.long p2), .second, .val (.long p3), .second, .val (.long p4), .second, .val (.long p5), .second, .val (.ref b0_), .val (.ref b17), .val (.ref b35), .val (.ref d63), .unset, .unset, .unset]) rfl ?_
    show Steps p.tables e below (T63.setTop (mkF m 68 #[.val (.long p0), .second, .val (.long p1), .second, .val (.long p2), .second, .val (.long p3), .second, .val (.long p4), .second, .val (.long p5), .second, .val (.ref b0_), .val (.ref b17), .val (.ref b35), .val (.ref d63), .unset, .unset, .unset] [])) _
    refine XS.aload X63.here hx rfl (hb hby at_68) rfl rfl ?_
    show Steps p.tables e below (T63.setTop (mkF m 70 #[.val (.long p0), .second, .val (.long p1), .second, .val (.long p2), .second, .val (.long p3), .second, .val (.long p4), .second, .val (.long p5), .second, .val (.ref b0_), .val (.ref b17), .val (.ref b35), .val (.ref d63), .unset, .unset, .unset] [(.ref b0_)])) _
    refine XS.aload X63.here hx rfl (hb hby at_70) rfl rfl ?_
    show Steps p.tables e below (T63.setTop (mkF m 72 #[.val (.long p0), .second, .val (.long p1), .second, .val (.long p2), .second, .val (.long p3), .second, .val (.long p4), .second, .val (.long p5), .second, .val (.ref b0_), .val (.ref b17), .val (.ref b35), .val (.ref d63), .unset, .unset, .unset] [(.ref b17), (.ref b0_)])) _
    refine st72.trans ?_
    show Steps p.tables e below (T72.setTop (mkF m 75 #[.val (.long p0), .second, .val (.long p1), .second, .val (.long p2), .second, .val (.long p3), .second, .val (.long p4), .second, .val (.long p5), .second, .val (.ref b0_), .val (.ref b17), .val (.ref b35), .val (.ref d63), .unset, .unset, .unset] [(.ref d72)])) _
    refine XS.astore X72.here hx rfl (hb hby at_75) rfl rfl (l' := #[.val (.long p0), .second, .val (.long p1), .second, .val (.long p2), .second, .val (.long p3), .second, .val (.long p4), .second, .val (.long p5), .second, .val (.ref b0_), .val (.ref b17), .val (.ref b35), .val (.ref d63), .val (.ref d72), .unset, .unset]) rfl ?_
    show Steps p.tables e below (T72.setTop (mkF m 77 #[.val (.long p0), .second, .val (.long p1), .second, .val (.long p2), .second, .val (.long p3), .second, .val (.long p4), .second, .val (.long p5), .second, .val (.ref b0_), .val (.ref b17), .val (.ref b35), .val (.ref d63), .val (.ref d72), .unset, .unset] [])) _
    refine XS.aload X72.here hx rfl (hb hby at_77) rfl rfl ?_
    show Steps p.tables e below (T72.setTop (mkF m 79 #[.val (.long p0), .second, .val (.long p1), .second, .val (.long p2), .second, .val (.long p3), .second, .val (.long p4), .second, .val (.long p5), .second, .val (.ref b0_), .val (.ref b17), .val (.ref b35), .val (.ref d63), .val (.ref d72), .unset, .unset] [(.ref b17)])) _
    refine XS.aload X72.here hx rfl (hb hby at_79) rfl rfl ?_
    show Steps p.tables e below (T72.setTop (mkF m 81 #[.val (.long p0), .second, .val (.long p1), .second, .val (.long p2), .second, .val (.long p3), .second, .val (.long p4), .second, .val (.long p5), .second, .val (.ref b0_), .val (.ref b17), .val (.ref b35), .val (.ref d63), .val (.ref d72), .unset, .unset] [(.ref b0_), (.ref b17)])) _
    refine st81.trans ?_
    show Steps p.tables e below (T81.setTop (mkF m 84 #[.val (.long p0), .second, .val (.long p1), .second, .val (.long p2), .second, .val (.long p3), .second, .val (.long p4), .second, .val (.long p5), .second, .val (.ref b0_), .val (.ref b17), .val (.ref b35), .val (.ref d63), .val (.ref d72), .unset, .unset] [(.ref d81)])) _
    refine XS.astore X81.here hx rfl (hb hby at_84) rfl rfl (l' := #[.val (.long p0), .second, .val (.long p1), .second, .val (.long p2), .second, .val (.long p3), .second, .val (.long p4), .second, .val (.long p5), .second, .val (.ref b0_), .val (.ref b17), .val (.ref b35), .val (.ref d63), .val (.ref d72), .val (.ref d81), .unset]) rfl ?_
    show Steps p.tables e below (T81.setTop (mkF m 86 #[.val (.long p0), .second, .val (.long p1), .second, .val (.long p2), .second, .val (.long p3), .second, .val (.long p4), .second, .val (.long p5), .second, .val (.ref b0_), .val (.ref b17), .val (.ref b35), .val (.ref d63), .val (.ref d72), .val (.ref d81), .unset] [])) _
    refine XS.aload X81.here hx rfl (hb hby at_86) rfl rfl ?_
    show Steps p.tables e below (T81.setTop (mkF m 88 #[.val (.long p0), .second, .val (.long p1), .second, .val (.long p2), .second, .val (.long p3), .second, .val (.long p4), .second, .val (.long p5), .second, .val (.ref b0_), .val (.ref b17), .val (.ref b35), .val (.ref d63), .val (.ref d72), .val (.ref d81), .unset] [(.ref d72)])) _
    refine XS.aload X81.here hx rfl (hb hby at_88) rfl rfl ?_
    show Steps p.tables e below (T81.setTop (mkF m 90 #[.val (.long p0), .second, .val (.long p1), .second, .val (.long p2), .second, .val (.long p3), .second, .val (.long p4), .second, .val (.long p5), .second, .val (.ref b0_), .val (.ref b17), .val (.ref b35), .val (.ref d63), .val (.ref d72), .val (.ref d81), .unset] [(.ref b35), (.ref d72)])) _
    refine st90.trans ?_
    show Steps p.tables e below (T90.setTop (mkF m 93 #[.val (.long p0), .second, .val (.long p1), .second, .val (.long p2), .second, .val (.long p3), .second, .val (.long p4), .second, .val (.long p5), .second, .val (.ref b0_), .val (.ref b17), .val (.ref b35), .val (.ref d63), .val (.ref d72), .val (.ref d81), .unset] [(.ref d90)])) _
    refine XS.astore X90.here hx rfl (hb hby at_93) rfl rfl (l' := #[.val (.long p0), .second, .val (.long p1), .second, .val (.long p2), .second, .val (.long p3), .second, .val (.long p4), .second, .val (.long p5), .second, .val (.ref b0_), .val (.ref b17), .val (.ref b35), .val (.ref d63), .val (.ref d72), .val (.ref d81), .val (.ref d90)]) rfl ?_
    show Steps p.tables e below (T90.setTop (mkF m 95 #[.val (.long p0), .second, .val (.long p1), .second, .val (.long p2), .second, .val (.long p3), .second, .val (.long p4), .second, .val (.long p5), .second, .val (.ref b0_), .val (.ref b17), .val (.ref b35), .val (.ref d63), .val (.ref d72), .val (.ref d81), .val (.ref d90)] [])) _
    refine XS.aload X90.here hx rfl (hb hby at_95) rfl rfl ?_
    show Steps p.tables e below (T90.setTop (mkF m 97 #[.val (.long p0), .second, .val (.long p1), .second, .val (.long p2), .second, .val (.long p3), .second, .val (.long p4), .second, .val (.long p5), .second, .val (.ref b0_), .val (.ref b17), .val (.ref b35), .val (.ref d63), .val (.ref d72), .val (.ref d81), .val (.ref d90)] [(.ref d63)])) _
    refine XS.aload X90.here hx rfl (hb hby at_97) rfl rfl ?_
    show Steps p.tables e below (T90.setTop (mkF m 99 #[.val (.long p0), .second, .val (.long p1), .second, .val (.long p2), .second, .val (.long p3), .second, .val (.long p4), .second, .val (.long p5), .second, .val (.ref b0_), .val (.ref b17), .val (.ref b35), .val (.ref d63), .val (.ref d72), .val (.ref d81), .val (.ref d90)] [(.ref b0_), (.ref d63)])) _
    refine st99 _ ?_
    show Steps p.tables e below (T99.setTop (mkF m 102 #[.val (.long p0), .second, .val (.long p1), .second, .val (.long p2), .second, .val (.long p3), .second, .val (.long p4), .second, .val (.long p5), .second, .val (.ref b0_), .val (.ref b17), .val (.ref b35), .val (.ref d63), .val (.ref d72), .val (.ref d81), .val (.ref d90)] [(.int (1 : Int32))])) _
    refine XS.ifNo X99.here hx rfl (hb hby at_102) rfl ((if0 _ _).trans (feq (by decide : ¬ ((1 : Int32) = (0 : Int32)))).1) ?_
    show Steps p.tables e below (T99.setTop (mkF m 105 #[.val (.long p0), .second, .val (.long p1), .second, .val (.long p2), .second, .val (.long p3), .second, .val (.long p4), .second, .val (.long p5), .second, .val (.ref b0_), .val (.ref b17), .val (.ref b35), .val (.ref d63), .val (.ref d72), .val (.ref d81), .val (.ref d90)] [])) _
    refine XS.aload X99.here hx rfl (hb hby at_105) rfl rfl ?_
    show Steps p.tables e below (T99.setTop (mkF m 107 #[.val (.long p0), .second, .val (.long p1), .second, .val (.long p2), .second, .val (.long p3), .second, .val (.long p4), .second, .val (.long p5), .second, .val (.ref b0_), .val (.ref b17), .val (.ref b35), .val (.ref d63), .val (.ref d72), .val (.ref d81), .val (.ref d90)] [(.ref d72)])) _
    refine XS.aload X99.here hx rfl (hb hby at_107) rfl rfl ?_
    show Steps p.tables e below (T99.setTop (mkF m 109 #[.val (.long p0), .second, .val (.long p1), .second, .val (.long p2), .second, .val (.long p3), .second, .val (.long p4), .second, .val (.long p5), .second, .val (.ref b0_), .val (.ref b17), .val (.ref b35), .val (.ref d63), .val (.ref d72), .val (.ref d81), .val (.ref d90)] [(.ref d81), (.ref d72)])) _
    refine st109 _ ?_
    show Steps p.tables e below (T109.setTop (mkF m 112 #[.val (.long p0), .second, .val (.long p1), .second, .val (.long p2), .second, .val (.long p3), .second, .val (.long p4), .second, .val (.long p5), .second, .val (.ref b0_), .val (.ref b17), .val (.ref b35), .val (.ref d63), .val (.ref d72), .val (.ref d81), .val (.ref d90)] [(.int (1 : Int32))])) _
    refine XS.ifNo X109.here hx rfl (hb hby at_112) rfl ((if0 _ _).trans (feq (by decide : ¬ ((1 : Int32) = (0 : Int32)))).1) ?_
    show Steps p.tables e below (T109.setTop (mkF m 115 #[.val (.long p0), .second, .val (.long p1), .second, .val (.long p2), .second, .val (.long p3), .second, .val (.long p4), .second, .val (.long p5), .second, .val (.ref b0_), .val (.ref b17), .val (.ref b35), .val (.ref d63), .val (.ref d72), .val (.ref d81), .val (.ref d90)] [])) _
    refine XS.aload X109.here hx rfl (hb hby at_115) rfl rfl ?_
    show Steps p.tables e below (T109.setTop (mkF m 117 #[.val (.long p0), .second, .val (.long p1), .second, .val (.long p2), .second, .val (.long p3), .second, .val (.long p4), .second, .val (.long p5), .second, .val (.ref b0_), .val (.ref b17), .val (.ref b35), .val (.ref d63), .val (.ref d72), .val (.ref d81), .val (.ref d90)] [(.ref d90)])) _
    refine XS.aload X109.here hx rfl (hb hby at_117) rfl rfl ?_
    show Steps p.tables e below (T109.setTop (mkF m 119 #[.val (.long p0), .second, .val (.long p1), .second, .val (.long p2), .second, .val (.long p3), .second, .val (.long p4), .second, .val (.long p5), .second, .val (.ref b0_), .val (.ref b17), .val (.ref b35), .val (.ref d63), .val (.ref d72), .val (.ref d81), .val (.ref d90)] [(.ref b0_), (.ref d90)])) _
    refine st119 _ ?_
    show Steps p.tables e below (T119.setTop (mkF m 122 #[.val (.long p0), .second, .val (.long p1), .second, .val (.long p2), .second, .val (.long p3), .second, .val (.long p4), .second, .val (.long p5), .second, .val (.ref b0_), .val (.ref b17), .val (.ref b35), .val (.ref d63), .val (.ref d72), .val (.ref d81), .val (.ref d90)] [(.int (1 : Int32))])) _
    refine XS.ifNo X119.here hx rfl (hb hby at_122) rfl ((if0 _ _).trans (feq (by decide : ¬ ((1 : Int32) = (0 : Int32)))).1) ?_
    show Steps p.tables e below (T119.setTop (mkF m 125 #[.val (.long p0), .second, .val (.long p1), .second, .val (.long p2), .second, .val (.long p3), .second, .val (.long p4), .second, .val (.long p5), .second, .val (.ref b0_), .val (.ref b17), .val (.ref b35), .val (.ref d63), .val (.ref d72), .val (.ref d81), .val (.ref d90)] [])) _
    refine XS.iconst X119.here hx rfl (hb hby at_125) ?_
    show Steps p.tables e below (T119.setTop (mkF m 126 #[.val (.long p0), .second, .val (.long p1), .second, .val (.long p2), .second, .val (.long p3), .second, .val (.long p4), .second, .val (.long p5), .second, .val (.ref b0_), .val (.ref b17), .val (.ref b35), .val (.ref d63), .val (.ref d72), .val (.ref d81), .val (.ref d90)] [(.int (1 : Int32))])) _
    refine XS.goto X119.here hx rfl (pc0 := 126) (pc' := 130) rfl (hb hby at_126) (by decide) (by decide) ?_
    show Steps p.tables e below (T119.setTop (mkF m 130 #[.val (.long p0), .second, .val (.long p1), .second, .val (.long p2), .second, .val (.long p3), .second, .val (.long p4), .second, .val (.long p5), .second, .val (.ref b0_), .val (.ref b17), .val (.ref b35), .val (.ref d63), .val (.ref d72), .val (.ref d81), .val (.ref d90)] [(.int (1 : Int32))])) _
    exact retN X119 hx (t := .boolean) Bd.returns (by simp) (hb hby at_130) hr
  · show Q_law Z p0 p1 p2 p3 p4 p5 w h0 n0 _ T119.heap _
    exact ⟨rfl, N119, f205⟩
set_option maxRecDepth 65536 in
set_option maxHeartbeats 40000000 in
theorem comes_1 {Post : Tables → Env → Array Value → State → Outcome → State → Prop} (hpost : ∀ tb e args s v u, (limb_1_1.after args s (.returned v) u = true ∧ limb_1_2.after args s (.returned v) u = true ∧ True) → FrameEnd s (.returned v) u (Jvm.fieldLocs frame_1_writes args s ++ Jvm.arrayLocs frame_1_arrays args s ++ Jvm.staticLocs frame_1_statics s) 24 192 → Post tb e args s (.returned v) u) :
    ArmFor flags0 classFile x code maxLocals ret World_1 tables_1 room_1 Calls_1 rest_1 Pre_1 Post := by
  intro l hfl _ _ p e ha hc hk s m args below hf hA hF happ hP
  obtain ⟨hcalls, hrest, hpre⟩ := hP
  obtain ⟨-, -, -, hnamed, -, -, -, hat⟩ := (Spec.applies_iff hf).mp happ
  obtain ⟨hg, hn⟩ := and_e (Cond.before_iff.mp (show (Jvm.Cond.and given_1 narrow_1).before args s = true from hpre))
  obtain ⟨hcount, hgs0⟩ := and_e hg
  obtain ⟨ha0, hgs1⟩ := and_e hgs0
  obtain ⟨ha1, hgs2⟩ := and_e hgs1
  obtain ⟨ha2, hgs3⟩ := and_e hgs2
  obtain ⟨ha3, hgs4⟩ := and_e hgs3
  obtain ⟨ha4, hgs5⟩ := and_e hgs4
  have ha5 := hgs5
  obtain ⟨w0, w1, w2, w3, w4, w5, rfl⟩ : ∃ w0 w1 w2 w3 w4 w5 : Value, args = #[w0, w1, w2, w3, w4, w5] := by
    have hs : args.size = 6 := by simpa [Cond.value, given_1] using hcount
    obtain ⟨L⟩ := args
    match L, hs with
    | [w0, w1, w2, w3, w4, w5], _ => exact ⟨w0, w1, w2, w3, w4, w5, rfl⟩
  have hw := fun d (hd : d ∈ tables_1) => atoms_spec (ws := Jvm.Cond.code x code maxLocals ret :: tables_1) hat d (List.mem_cons_of_mem _ hd)
  have hfit : Fit s := fun {y c} hc i hi => by
    obtain ⟨ha, rfl⟩ := Array.getElem?_eq_some_iff.mp hc
    have q := List.all_eq_true.mp ((Array.all_eq_true_iff_forall_mem.mp hF) _ (Array.getElem_mem ha)) i (List.mem_range.mpr hi)
    simpa [Array.getElem?_eq_getElem hi] using q
  obtain ⟨i0, ei0⟩ := isL_v ha0
  obtain rfl : w0 = (.long i0) := Option.some.inj ei0
  obtain ⟨i1, ei1⟩ := isL_v ha1
  obtain rfl : w1 = (.long i1) := Option.some.inj ei1
  obtain ⟨i2, ei2⟩ := isL_v ha2
  obtain rfl : w2 = (.long i2) := Option.some.inj ei2
  obtain ⟨i3, ei3⟩ := isL_v ha3
  obtain rfl : w3 = (.long i3) := Option.some.inj ei3
  obtain ⟨i4, ei4⟩ := isL_v ha4
  obtain rfl : w4 = (.long i4) := Option.some.inj ei4
  obtain ⟨i5, ei5⟩ := isL_v ha5
  obtain rfl : w5 = (.long i5) := Option.some.inj ei5
  obtain ⟨x0, y0⟩ := and_e hn
  obtain ⟨w, ew⟩ := exa_v x0
  have E_w := Exa.start ew x0
  have S_w := Sta.start ew (Or.inr ⟨(w_2 hw), (w_25 hw)⟩)
  obtain ⟨x1, y1⟩ := and_e y0
  have F0 := Fld.start ((fld_at ew).symm.trans (eqv_l (long_at _) x1))
  obtain ⟨x2, y2⟩ := and_e y1
  have F1 := Fld.start ((fld_at ew).symm.trans (eqv_l (long_at _) x2))
  obtain ⟨x3, y3⟩ := and_e y2
  have F2 := Fld.start ((fld_at ew).symm.trans (eqv_l (long_at _) x3))
  obtain ⟨x4, y4⟩ := and_e y3
  have F3 := Fld.start ((fld_at ew).symm.trans (eqv_l (long_at _) x4))
  have F4 := Fld.start ((fld_at ew).symm.trans (eqv_l (long_at _) y4))
  obtain ⟨n, o, h1, h2, h3, _, L, rfl, ⟨rfl, N, -⟩, hq⟩ := rm_law l s _ hw tables_1 i0 i1 i2 i3 i4 i5 w s.heap s.heap.size (Old.start s) S_w E_w F0 F1 F2 F3 F4 p e ha hc hk s m _ below hf ((Spec.applies_iff_loose hf).mp happ).1 ⟨rfl, State.Warmed39.refl s, rfl⟩ trivial
  refine ⟨n, _, h1, h2, h3, hpost _ _ _ _ _ _ ⟨Cond.after_iff.mpr rfl, Cond.after_iff.mpr (eq_i res_at (Term.int_eval (1)) rfl), trivial⟩ ⟨hq.1, hq.2.1, (hq.2.2.sift fun y hy => Or.inr (N y hy)).mono (by decide) (by decide)⟩⟩
theorem main_1_1 : Claimed_1_1 := comes_1 fun _ _ _ _ _ _ h hF => ⟨h.1, hF⟩
theorem main_1_2 : Claimed_1_2 := comes_1 fun _ _ _ _ _ _ h hF => ⟨h.2.1, hF⟩
end Jvm.Pilot.@@N@@
namespace Jvm.Pilot.@@N@@
open Jvm Jvm.ClassFile Sem Op Lib Jvm.Free Jvm.Stand Jvm.Pilot.@@N@@.Jvm.D
/-! MADE BY PROGRAM (witnessworld.py) out of the Statement's table words and the real class files: 10 classes; the members and pool entries that the words name. The judged class is class 1, her method 2. -/
namespace start1
open Jvm.ClassFile
def u (s : String) : CpInfo := .utf8 (stringToUtf16 s)
/-- a pool by its gaps: so many unusable entries, then the entry; so many at the end -/
def gap : Nat → List CpInfo → List CpInfo
  | 0, r => r
  | n + 1, r => .unusable :: gap n r
def poolList (es : List (Nat × CpInfo)) (last : Nat) : List CpInfo := es.foldr (fun e r => gap e.1 (e.2 :: r)) (gap last [])
def pool (es : List (Nat × CpInfo)) (last : Nat) : Array CpInfo := ⟨poolList es last⟩
def fileOf (pool : Array CpInfo) (this : Nat) (attrs : Array Attribute := #[]) (ms : Array MethodInfo := #[]) (fl : Nat := 33) (sup : Nat := 0) (ifs : Array Nat := #[]) (fds : Array FieldInfo := #[]) : ClassFile where
  minorVersion := 0
  majorVersion := 65
  constantPool := pool
  accessFlags := fl
  thisClass := this
  superClass := sup
  interfaces := ifs
  fields := fds
  methods := ms
  attributes := attrs
def plain (name : String) (sup : Option ClassId) : Class where
  name := name
  kind := .ordinary
  loader := none
  accessFlags := 33
  super := sup
  interfaces := #[]
  cf := none
  fields := #[]
  methods := #[]
  instanceTypes := #[]
  staticTypes := #[]
  resolved := #[]
  callSites := []
  init := .initialized
  statics := none
  mirror := none

def pool0 : Array CpInfo := pool [(5, u "<init>"), (0, u "()V"), (1, .class_ 10), (1, u "java/lang/Object")] 113

def k0c0 : Code := { maxStack := 0, maxLocals := 1, code := object_method_1_code, exceptionTable := #[], attributes := #[] }
def k0m0 : Method := { name := "<init>", desc := "()V", sig := { parameters := [], returnType := none }, accessFlags := 1, code := some k0c0 }
/-- java/lang/Object -/
def k0 : Class := { plain "java/lang/Object" none with
  accessFlags := 33
  interfaces := #[]
  cf := some (fileOf pool0 8 #[] #[{ accessFlags := 1, nameIndex := 5, descriptorIndex := 6, attributes := #[] }] 33 0 #[] #[])
  fields := #[]
  methods := #[k0m0]
  instanceTypes := #[]
  staticTypes := #[]
  resolved := Array.replicate 124 none
  statics := none }

def pool1 : Array CpInfo := pool [(2, .class_ 4), (1, u "java/lang/Object"), (0, u "<init>"), (0, u "()V"), (0, .methodref 8 9), (0, .class_ 10), (0, .nameAndType 11 12), (0, u "com/example/shelfmark/shelfmark/ingest/FileReport"), (0, u "read"), (0, u "()J"), (0, .methodref 8 14), (0, .nameAndType 15 12), (0, u "added"), (0, .methodref 8 17), (0, .nameAndType 18 12), (0, u "updated"), (0, .methodref 8 20), (0, .nameAndType 21 12), (0, u "deleted"), (0, .methodref 8 23), (0, .nameAndType 24 12), (0, u "rejected"), (0, .methodref 8 26), (0, .nameAndType 5 27), (0, u "(JJJJJ)V"), (0, .fieldref 8 29), (0, .nameAndType 30 31), (0, u "NONE"), (0, u "Lcom/example/shelfmark/shelfmark/ingest/FileReport;"), (0, .methodref 8 33), (0, .nameAndType 34 35), (0, u "plus"), (0, u "(Lcom/example/shelfmark/shelfmark/ingest/FileReport;)Lcom/example/shelfmark/shelfmark/ingest/FileReport;"), (0, .methodref 37 38), (0, .class_ 39), (0, .nameAndType 40 41), (0, u "com/example/shelfmark/shelfmark/ingest/FileReportPlusPinLaw"), (0, u "same"), (0, u "(Lcom/example/shelfmark/shelfmark/ingest/FileReport;Lcom/example/shelfmark/shelfmark/ingest/FileReport;)Z"), (3, u "law"), (0, u "(JJJJJJ)Z")] 2

def k1m0 : Method := { name := "<init>", desc := "()V", sig := { parameters := [], returnType := none }, accessFlags := 1, code := none }
def k1c1 : Code := { maxStack := 4, maxLocals := 2, code := method_2_code, exceptionTable := #[], attributes := #[] }
def k1m1 : Method := { name := "same", desc := "(Lcom/example/shelfmark/shelfmark/ingest/FileReport;Lcom/example/shelfmark/shelfmark/ingest/FileReport;)Z", sig := { parameters := [(.object "com/example/shelfmark/shelfmark/ingest/FileReport"), (.object "com/example/shelfmark/shelfmark/ingest/FileReport")], returnType := some .boolean }, accessFlags := 10, code := some k1c1 }
def k1c2 : Code := { maxStack := 12, maxLocals := 19, code := code, exceptionTable := #[], attributes := #[] }
def k1m2 : Method := { name := "law", desc := "(JJJJJJ)Z", sig := { parameters := [.long, .long, .long, .long, .long, .long], returnType := some .boolean }, accessFlags := 9, code := some k1c2 }
/-- com/example/shelfmark/shelfmark/ingest/FileReportPlusPinLaw -/
def k1 : Class := { plain "com/example/shelfmark/shelfmark/ingest/FileReportPlusPinLaw" (some 0) with
  accessFlags := 49
  interfaces := #[]
  cf := some (fileOf pool1 37 #[] #[{ accessFlags := 1, nameIndex := 5, descriptorIndex := 6, attributes := #[] }, { accessFlags := 10, nameIndex := 40, descriptorIndex := 41, attributes := #[] }, { accessFlags := 9, nameIndex := 45, descriptorIndex := 46, attributes := #[] }] 49 2 #[] #[])
  fields := #[]
  methods := #[k1m0, k1m1, k1m2]
  instanceTypes := #[]
  staticTypes := #[]
  resolved := Array.replicate 49 none
  statics := none }

def pool2 : Array CpInfo := pool [(1, .methodref 2 3), (0, .class_ 4), (0, .nameAndType 5 6), (0, u "java/lang/Object"), (0, u "<init>"), (0, u "()V"), (0, .class_ 8), (0, u "java/lang/Record")] 13

def k2c0 : Code := { maxStack := 1, maxLocals := 1, code := jdk_30_method_1_code, exceptionTable := #[], attributes := #[] }
def k2m0 : Method := { name := "<init>", desc := "()V", sig := { parameters := [], returnType := none }, accessFlags := 4, code := some k2c0 }
/-- java/lang/Record -/
def k2 : Class := { plain "java/lang/Record" (some 0) with
  accessFlags := 1057
  interfaces := #[]
  cf := some (fileOf pool2 7 #[] #[{ accessFlags := 4, nameIndex := 5, descriptorIndex := 6, attributes := #[] }] 1057 2 #[] #[])
  fields := #[]
  methods := #[k2m0]
  instanceTypes := #[]
  staticTypes := #[]
  resolved := Array.replicate 22 none
  statics := none }

def pool3 : Array CpInfo := pool [(1, .methodref 2 3), (0, .class_ 4), (0, .nameAndType 5 6), (0, u "java/lang/Record"), (0, u "<init>"), (0, u "()V"), (0, .fieldref 8 9), (0, .class_ 10), (0, .nameAndType 11 12), (0, u "com/example/shelfmark/shelfmark/ingest/FileReport"), (0, u "read"), (0, u "J"), (0, .fieldref 8 14), (0, .nameAndType 15 12), (0, u "added"), (0, .fieldref 8 17), (0, .nameAndType 18 12), (0, u "updated"), (0, .fieldref 8 20), (0, .nameAndType 21 12), (0, u "deleted"), (0, .fieldref 8 23), (0, .nameAndType 24 12), (0, u "rejected"), (0, .methodref 8 26), (0, .nameAndType 5 27), (0, u "(JJJJJ)V"), (30, u "NONE"), (0, u "Lcom/example/shelfmark/shelfmark/ingest/FileReport;"), (3, u "plus"), (0, u "(Lcom/example/shelfmark/shelfmark/ingest/FileReport;)Lcom/example/shelfmark/shelfmark/ingest/FileReport;"), (4, u "()J")] 25

def k3c0 : Code := { maxStack := 3, maxLocals := 11, code := prog_24_method_1_code, exceptionTable := #[], attributes := #[] }
def k3m0 : Method := { name := "<init>", desc := "(JJJJJ)V", sig := { parameters := [.long, .long, .long, .long, .long], returnType := none }, accessFlags := 1, code := some k3c0 }
def k3c1 : Code := { maxStack := 14, maxLocals := 2, code := prog_24_method_2_code, exceptionTable := #[], attributes := #[] }
def k3m1 : Method := { name := "plus", desc := "(Lcom/example/shelfmark/shelfmark/ingest/FileReport;)Lcom/example/shelfmark/shelfmark/ingest/FileReport;", sig := { parameters := [(.object "com/example/shelfmark/shelfmark/ingest/FileReport")], returnType := some (.object "com/example/shelfmark/shelfmark/ingest/FileReport") }, accessFlags := 1, code := some k3c1 }
def k3c2 : Code := { maxStack := 2, maxLocals := 1, code := prog_24_method_7_code, exceptionTable := #[], attributes := #[] }
def k3m2 : Method := { name := "read", desc := "()J", sig := { parameters := [], returnType := some .long }, accessFlags := 1, code := some k3c2 }
def k3c3 : Code := { maxStack := 2, maxLocals := 1, code := prog_24_method_8_code, exceptionTable := #[], attributes := #[] }
def k3m3 : Method := { name := "added", desc := "()J", sig := { parameters := [], returnType := some .long }, accessFlags := 1, code := some k3c3 }
def k3c4 : Code := { maxStack := 2, maxLocals := 1, code := prog_24_method_9_code, exceptionTable := #[], attributes := #[] }
def k3m4 : Method := { name := "updated", desc := "()J", sig := { parameters := [], returnType := some .long }, accessFlags := 1, code := some k3c4 }
def k3c5 : Code := { maxStack := 2, maxLocals := 1, code := prog_24_method_10_code, exceptionTable := #[], attributes := #[] }
def k3m5 : Method := { name := "deleted", desc := "()J", sig := { parameters := [], returnType := some .long }, accessFlags := 1, code := some k3c5 }
def k3c6 : Code := { maxStack := 2, maxLocals := 1, code := prog_24_method_11_code, exceptionTable := #[], attributes := #[] }
def k3m6 : Method := { name := "rejected", desc := "()J", sig := { parameters := [], returnType := some .long }, accessFlags := 1, code := some k3c6 }
/-- com/example/shelfmark/shelfmark/ingest/FileReport -/
def k3 : Class := { plain "com/example/shelfmark/shelfmark/ingest/FileReport" (some 2) with
  accessFlags := 49
  interfaces := #[]
  cf := some (fileOf pool3 8 #[] #[{ accessFlags := 1, nameIndex := 5, descriptorIndex := 27, attributes := #[] }, { accessFlags := 1, nameIndex := 63, descriptorIndex := 64, attributes := #[] }, { accessFlags := 1, nameIndex := 11, descriptorIndex := 69, attributes := #[] }, { accessFlags := 1, nameIndex := 15, descriptorIndex := 69, attributes := #[] }, { accessFlags := 1, nameIndex := 18, descriptorIndex := 69, attributes := #[] }, { accessFlags := 1, nameIndex := 21, descriptorIndex := 69, attributes := #[] }, { accessFlags := 1, nameIndex := 24, descriptorIndex := 69, attributes := #[] }] 49 2 #[] #[{ accessFlags := 18, nameIndex := 11, descriptorIndex := 12, attributes := #[] }, { accessFlags := 18, nameIndex := 15, descriptorIndex := 12, attributes := #[] }, { accessFlags := 18, nameIndex := 18, descriptorIndex := 12, attributes := #[] }, { accessFlags := 18, nameIndex := 21, descriptorIndex := 12, attributes := #[] }, { accessFlags := 18, nameIndex := 24, descriptorIndex := 12, attributes := #[] }, { accessFlags := 25, nameIndex := 58, descriptorIndex := 59, attributes := #[] }])
  fields := #[{ name := "read", type := .long, accessFlags := 18, slot := 0, constantValue := 0 }, { name := "added", type := .long, accessFlags := 18, slot := 1, constantValue := 0 }, { name := "updated", type := .long, accessFlags := 18, slot := 2, constantValue := 0 }, { name := "deleted", type := .long, accessFlags := 18, slot := 3, constantValue := 0 }, { name := "rejected", type := .long, accessFlags := 18, slot := 4, constantValue := 0 }, { name := "NONE", type := (.object "com/example/shelfmark/shelfmark/ingest/FileReport"), accessFlags := 25, slot := 0, constantValue := 0 }]
  methods := #[k3m0, k3m1, k3m2, k3m3, k3m4, k3m5, k3m6]
  instanceTypes := #[.long, .long, .long, .long, .long]
  staticTypes := #[(.object "com/example/shelfmark/shelfmark/ingest/FileReport")]
  resolved := Array.replicate 95 none
  statics := some 0 }

def pool4 : Array CpInfo := pool [(1, u "java/lang/Cloneable"), (0, .class_ 1), (0, u "java/lang/Object"), (0, .class_ 3)] 3

/-- java/lang/Cloneable -/
def k4 : Class := { plain "java/lang/Cloneable" (some 0) with
  accessFlags := 1537
  interfaces := #[]
  cf := some (fileOf pool4 2 #[] #[] 1537 4 #[] #[])
  fields := #[]
  methods := #[]
  instanceTypes := #[]
  staticTypes := #[]
  resolved := Array.replicate 8 none
  statics := none }

def pool5 : Array CpInfo := pool [(1, u "java/io/Serializable"), (0, .class_ 1), (0, u "java/lang/Object"), (0, .class_ 3)] 3

/-- java/io/Serializable -/
def k5 : Class := { plain "java/io/Serializable" (some 0) with
  accessFlags := 1537
  interfaces := #[]
  cf := some (fileOf pool5 2 #[] #[] 1537 4 #[] #[])
  fields := #[]
  methods := #[]
  instanceTypes := #[]
  staticTypes := #[]
  resolved := Array.replicate 8 none
  statics := none }

/-- the primitive byte -/
def k6 : Class := { plain "byte" none with kind := .primitive 'B', accessFlags := 0x411 }
/-- [B -/
def k7 : Class := { plain "[B" (some 0) with kind := .array 6 .byte, interfaces := #[4, 5], accessFlags := 1041 }

/-- the primitive int -/
def k8 : Class := { plain "int" none with kind := .primitive 'I', accessFlags := 0x411 }
/-- [I -/
def k9 : Class := { plain "[I" (some 0) with kind := .array 8 .int, interfaces := #[4, 5], accessFlags := 1041 }

def heap : Heap := #[{ cls := 3, slots := #[.ref 1], vm := .statics 3 },
  { cls := 3, slots := #[.long 0, .long 0, .long 0, .long 0, .long 0], vm := .none }]
def classes : Array Class := #[k0, k1, k2, k3, k4, k5, k6, k7, k8, k9]
def interned : List (Array UInt16 × Addr) := []
def slotsUsed : Nat := 6
def theMethod : MethodId := ⟨1, 2⟩
def args0 : Array Value := #[.long 5, .long 3, .long 2, .long 7, .long 1, .long 4]
def aboutOver (below : List Frame) : State where
  vm := { classes := classes, interned := interned.toArray }
  heap := heap
  slotsUsed := slotsUsed
  threads := #[{ frames := .invoking theMethod args0 :: below }]
def below0 : List Frame := [.native { method := ⟨0, 0⟩, args := #[] }]
def about1 : State := aboutOver below0
def p0 : Program := .bare "" "" ""
def e0 : Env := launch0.env 0 0 0
theorem w_frames : about1.frames = Frame.invoking theMethod args0 :: below0 := rfl
set_option maxRecDepth 65536 in
theorem w_args : argsFit about1.vm theMethod args0 = true := by decide +kernel
set_option maxRecDepth 65536 in
theorem w_heap : heapFits about1 = true := by decide +kernel
set_option maxRecDepth 65536 in
theorem w_runnable : about1.curStatus? = some .runnable := by decide +kernel
set_option maxRecDepth 65536 in
theorem w_alone : about1.alone = true := by decide +kernel
set_option maxRecDepth 65536 in
theorem w_named : about1.methodNamed? x = some theMethod := by decide +kernel
set_option maxRecDepth 65536 in
theorem w_hears : about1.hears theMethod below0 = true := by decide +kernel
set_option maxRecDepth 65536 in
theorem w_ripe : about1.ripe theMethod args0 below0 = true := by decide +kernel
theorem w_running : about1.status = .running := rfl
set_option maxRecDepth 65536 in
theorem w_room : about1.hasRoom e0.platform room_1 = true :=
  launch0.hasRoom_least _ room_1 (by decide +kernel) (by decide +kernel) (by decide +kernel) (by decide +kernel) (by decide +kernel) (by decide +kernel)
theorem allAtoms_all (ts : List Jvm.Cond) (a : Array Jvm.Value) (st : Jvm.State) : (allAtoms ts).before a st = ts.all (fun c => c.before a st) := by
  induction ts with
  | nil => rfl
  | cons c t ih =>
    show (Jvm.Cond.and c (allAtoms t)).before a st = _
    rw [Jvm.Cond.before_and, ih, List.all_cons]
def words1 : List Jvm.Cond := Jvm.Cond.code x code maxLocals ret :: tables_1
/-- a 'code' word, met by the world's own term for the bytes: nothing is compared byte by byte -/
theorem code_word {y : MethodName} {bytes : ByteArray} {mx : Nat} {rt : Option FieldType} {a : Array Value} {s : State} {m : MethodId} {meth : Method} {c : Code} (h1 : s.methodNamed? y = some m) (h2 : s.vm.method? m = some meth) (h3 : meth.code = some c) (h4 : c.code = bytes)
    (h5 : (c.maxLocals == mx && c.exceptionTable.isEmpty && decide (c.maxStack ≤ mostOperands) && decide (meth.sig.returnType = rt) && !meth.locks && decide (parseMethodDescriptor y.desc = some meth.sig)) = true) : (Jvm.Cond.code y bytes mx rt).before a s = true := by
  simp only [Bool.and_eq_true, beq_iff_eq, Bool.not_eq_true', decide_eq_true_eq] at h5
  obtain ⟨⟨⟨⟨⟨g1, g2⟩, g3⟩, g4⟩, g5⟩, g6⟩ := h5
  simp [Cond.before, Cond.holds, Cond.value, h1, h2, h3, h4, g1, g2, g3, g4, g5, g6]
def isCode : Jvm.Cond → Bool
  | .code _ _ _ _ => true
  | _ => false
theorem all_split {L : List Jvm.Cond} {P : Jvm.Cond → Bool} (h1 : L.all (fun c => isCode c || P c) = true) (h2 : ∀ c ∈ L.filter isCode, P c = true) : L.all P = true := by
  refine List.all_eq_true.mpr fun c hc => ?_
  have h := List.all_eq_true.mp h1 c hc
  rcases Bool.eq_false_or_eq_true (isCode c) with hi | hi
  · exact h2 c (List.mem_filter.mpr ⟨hc, hi⟩)
  · simpa [hi] using h
set_option maxRecDepth 65536 in
theorem w_c0 : (Jvm.Cond.code x code maxLocals ret).before args0 about1 = true := code_word (m := ⟨1, 2⟩) (meth := k1m2) (c := k1c2) (by decide +kernel) rfl rfl rfl (by decide +kernel)
set_option maxRecDepth 65536 in
theorem w_c1 : (Jvm.Cond.code ({ cls := "com/example/shelfmark/shelfmark/ingest/FileReport", name := "<init>", desc := "(JJJJJ)V" } : Jvm.MethodName) prog_24_method_1_code (11 : Nat) (Option.none : Option Jvm.ClassFile.FieldType)).before args0 about1 = true := code_word (m := ⟨3, 0⟩) (meth := k3m0) (c := k3c0) (by decide +kernel) rfl rfl rfl (by decide +kernel)
set_option maxRecDepth 65536 in
theorem w_c2 : (Jvm.Cond.code ({ cls := "java/lang/Record", name := "<init>", desc := "()V" } : Jvm.MethodName) jdk_30_method_1_code (1 : Nat) (Option.none : Option Jvm.ClassFile.FieldType)).before args0 about1 = true := code_word (m := ⟨2, 0⟩) (meth := k2m0) (c := k2c0) (by decide +kernel) rfl rfl rfl (by decide +kernel)
set_option maxRecDepth 65536 in
theorem w_c3 : (Jvm.Cond.code ({ cls := "java/lang/Object", name := "<init>", desc := "()V" } : Jvm.MethodName) object_method_1_code (1 : Nat) (Option.none : Option Jvm.ClassFile.FieldType)).before args0 about1 = true := code_word (m := ⟨0, 0⟩) (meth := k0m0) (c := k0c0) (by decide +kernel) rfl rfl rfl (by decide +kernel)
set_option maxRecDepth 65536 in
theorem w_c4 : (Jvm.Cond.code ({ cls := "com/example/shelfmark/shelfmark/ingest/FileReport", name := "plus", desc := "(Lcom/example/shelfmark/shelfmark/ingest/FileReport;)Lcom/example/shelfmark/shelfmark/ingest/FileReport;" } : Jvm.MethodName) prog_24_method_2_code (2 : Nat) (Option.some (Jvm.ClassFile.FieldType.object "com/example/shelfmark/shelfmark/ingest/FileReport"))).before args0 about1 = true := code_word (m := ⟨3, 1⟩) (meth := k3m1) (c := k3c1) (by decide +kernel) rfl rfl rfl (by decide +kernel)
set_option maxRecDepth 65536 in
theorem w_c5 : (Jvm.Cond.code ({ cls := "com/example/shelfmark/shelfmark/ingest/FileReportPlusPinLaw", name := "same", desc := "(Lcom/example/shelfmark/shelfmark/ingest/FileReport;Lcom/example/shelfmark/shelfmark/ingest/FileReport;)Z" } : Jvm.MethodName) method_2_code (2 : Nat) (Option.some Jvm.ClassFile.FieldType.boolean)).before args0 about1 = true := code_word (m := ⟨1, 1⟩) (meth := k1m1) (c := k1c1) (by decide +kernel) rfl rfl rfl (by decide +kernel)
set_option maxRecDepth 65536 in
theorem w_c6 : (Jvm.Cond.code ({ cls := "com/example/shelfmark/shelfmark/ingest/FileReport", name := "read", desc := "()J" } : Jvm.MethodName) prog_24_method_7_code (1 : Nat) (Option.some Jvm.ClassFile.FieldType.long)).before args0 about1 = true := code_word (m := ⟨3, 2⟩) (meth := k3m2) (c := k3c2) (by decide +kernel) rfl rfl rfl (by decide +kernel)
set_option maxRecDepth 65536 in
theorem w_c7 : (Jvm.Cond.code ({ cls := "com/example/shelfmark/shelfmark/ingest/FileReport", name := "added", desc := "()J" } : Jvm.MethodName) prog_24_method_8_code (1 : Nat) (Option.some Jvm.ClassFile.FieldType.long)).before args0 about1 = true := code_word (m := ⟨3, 3⟩) (meth := k3m3) (c := k3c3) (by decide +kernel) rfl rfl rfl (by decide +kernel)
set_option maxRecDepth 65536 in
theorem w_c8 : (Jvm.Cond.code ({ cls := "com/example/shelfmark/shelfmark/ingest/FileReport", name := "updated", desc := "()J" } : Jvm.MethodName) prog_24_method_9_code (1 : Nat) (Option.some Jvm.ClassFile.FieldType.long)).before args0 about1 = true := code_word (m := ⟨3, 4⟩) (meth := k3m4) (c := k3c4) (by decide +kernel) rfl rfl rfl (by decide +kernel)
set_option maxRecDepth 65536 in
theorem w_c9 : (Jvm.Cond.code ({ cls := "com/example/shelfmark/shelfmark/ingest/FileReport", name := "deleted", desc := "()J" } : Jvm.MethodName) prog_24_method_10_code (1 : Nat) (Option.some Jvm.ClassFile.FieldType.long)).before args0 about1 = true := code_word (m := ⟨3, 5⟩) (meth := k3m5) (c := k3c5) (by decide +kernel) rfl rfl rfl (by decide +kernel)
set_option maxRecDepth 65536 in
theorem w_c10 : (Jvm.Cond.code ({ cls := "com/example/shelfmark/shelfmark/ingest/FileReport", name := "rejected", desc := "()J" } : Jvm.MethodName) prog_24_method_11_code (1 : Nat) (Option.some Jvm.ClassFile.FieldType.long)).before args0 about1 = true := code_word (m := ⟨3, 6⟩) (meth := k3m6) (c := k3c6) (by decide +kernel) rfl rfl rfl (by decide +kernel)
def codes1 : List Jvm.Cond := [Jvm.Cond.code x code maxLocals ret, Jvm.Cond.code ({ cls := "com/example/shelfmark/shelfmark/ingest/FileReport", name := "<init>", desc := "(JJJJJ)V" } : Jvm.MethodName) prog_24_method_1_code (11 : Nat) (Option.none : Option Jvm.ClassFile.FieldType), Jvm.Cond.code ({ cls := "java/lang/Record", name := "<init>", desc := "()V" } : Jvm.MethodName) jdk_30_method_1_code (1 : Nat) (Option.none : Option Jvm.ClassFile.FieldType), Jvm.Cond.code ({ cls := "java/lang/Object", name := "<init>", desc := "()V" } : Jvm.MethodName) object_method_1_code (1 : Nat) (Option.none : Option Jvm.ClassFile.FieldType), Jvm.Cond.code ({ cls := "com/example/shelfmark/shelfmark/ingest/FileReport", name := "plus", desc := "(Lcom/example/shelfmark/shelfmark/ingest/FileReport;)Lcom/example/shelfmark/shelfmark/ingest/FileReport;" } : Jvm.MethodName) prog_24_method_2_code (2 : Nat) (Option.some (Jvm.ClassFile.FieldType.object "com/example/shelfmark/shelfmark/ingest/FileReport")), Jvm.Cond.code ({ cls := "com/example/shelfmark/shelfmark/ingest/FileReportPlusPinLaw", name := "same", desc := "(Lcom/example/shelfmark/shelfmark/ingest/FileReport;Lcom/example/shelfmark/shelfmark/ingest/FileReport;)Z" } : Jvm.MethodName) method_2_code (2 : Nat) (Option.some Jvm.ClassFile.FieldType.boolean), Jvm.Cond.code ({ cls := "com/example/shelfmark/shelfmark/ingest/FileReport", name := "read", desc := "()J" } : Jvm.MethodName) prog_24_method_7_code (1 : Nat) (Option.some Jvm.ClassFile.FieldType.long), Jvm.Cond.code ({ cls := "com/example/shelfmark/shelfmark/ingest/FileReport", name := "added", desc := "()J" } : Jvm.MethodName) prog_24_method_8_code (1 : Nat) (Option.some Jvm.ClassFile.FieldType.long), Jvm.Cond.code ({ cls := "com/example/shelfmark/shelfmark/ingest/FileReport", name := "updated", desc := "()J" } : Jvm.MethodName) prog_24_method_9_code (1 : Nat) (Option.some Jvm.ClassFile.FieldType.long), Jvm.Cond.code ({ cls := "com/example/shelfmark/shelfmark/ingest/FileReport", name := "deleted", desc := "()J" } : Jvm.MethodName) prog_24_method_10_code (1 : Nat) (Option.some Jvm.ClassFile.FieldType.long), Jvm.Cond.code ({ cls := "com/example/shelfmark/shelfmark/ingest/FileReport", name := "rejected", desc := "()J" } : Jvm.MethodName) prog_24_method_11_code (1 : Nat) (Option.some Jvm.ClassFile.FieldType.long)]
set_option maxRecDepth 65536 in
theorem codes_eq : words1.filter isCode = codes1 := rfl
theorem w_codes : ∀ c ∈ words1.filter isCode, c.before args0 about1 = true := by
  rw [codes_eq]
  intro c hc
  simp only [codes1, List.mem_cons, List.not_mem_nil, or_false] at hc
  rcases hc with rfl | rfl | rfl | rfl | rfl | rfl | rfl | rfl | rfl | rfl | rfl
  · exact w_c0
  · exact w_c1
  · exact w_c2
  · exact w_c3
  · exact w_c4
  · exact w_c5
  · exact w_c6
  · exact w_c7
  · exact w_c8
  · exact w_c9
  · exact w_c10
set_option maxRecDepth 65536 in
theorem w_t1 : (words1.take 24).all (fun c => isCode c || c.before args0 about1) = true := by decide +kernel
set_option maxRecDepth 65536 in
theorem w_t2 : ((words1.drop 24).take 24).all (fun c => isCode c || c.before args0 about1) = true := by decide +kernel
set_option maxRecDepth 65536 in
theorem w_t3 : ((words1.drop 24).drop 24).all (fun c => isCode c || c.before args0 about1) = true := by decide +kernel
theorem w_tables : (allAtoms (Jvm.Cond.code x code maxLocals ret :: tables_1)).before args0 about1 = true := by
  rw [allAtoms_all]
  show words1.all (fun c => c.before args0 about1) = true
  refine all_split ?_ w_codes
  rw [← List.take_append_drop 24 words1, List.all_append, w_t1, ← List.take_append_drop 24 (words1.drop 24), List.all_append, w_t2, w_t3]
  rfl
set_option maxRecDepth 65536 in
theorem w_case : (Jvm.Cond.and given_1 narrow_1).before args0 about1 = true := by decide +kernel
theorem w_applies : (headSpec (Jvm.Cond.code x code maxLocals ret :: tables_1) room_1).applies x e0.platform about1 = true :=
  (Spec.applies_iff w_frames).mpr ⟨w_running, w_runnable, w_alone, w_named, w_hears, w_ripe, w_room, w_tables⟩
theorem atStart : AtStart classFile x code maxLocals ret World_1 tables_1 room_1 Calls_1 rest_1 Pre_1 launch0 p0 e0 about1 theMethod args0 below0 :=
  ⟨lists_1, trivial, launch0.admits_env _ _ _, launch0.least_env, fairChoices_fair.cas, fairChoices_fair.clock, w_frames, w_args, w_heap, w_applies, trivial, trivial, w_case⟩
end start1
theorem witness_1 : WitnessClaimed_1 := ⟨start1.p0, start1.e0, start1.about1, start1.theMethod, start1.args0, start1.below0, start1.atStart⟩
end Jvm.Pilot.@@N@@
