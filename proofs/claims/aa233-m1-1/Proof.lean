import JvmDerived
import JvmDerived.Pilot.@@N@@Statement
import JvmDerived.Pilot.@@N@@Code
set_option linter.unusedVariables false
set_option linter.unusedSimpArgs false
namespace Jvm.RoadKit
open Sem ClassFile Op Lib Jvm.Stand Jvm.Free Jvm.LawKit
section New
variable {p : Program} {l : Launch} {e : Env} {R : Room} {s : State} {m : MethodId} {args : Array Value} {below : List Frame} {meth : Method} {c : Code} {T : State} {locs : List Loc} {cells slots : Nat}
theorem retI (X : Stand p l e R s m args below meth c T locs cells slots) (hx : p.tables.exec = Jvm.exec) {pc : Nat} {Ls : Array Slot} {z : Int32} {rest : List Value} (hret : meth.sig.returnType = some .int) (hd : decode c.code pc = .ok (.ireturn, 1)) {fs : List Frame}
    (hl : ∀ (f : JFrame) (acts : List Action), f.method = m → f.locked = none → f.entered = [] → (doReturn e (T.setTop f) acts (some (.int z))).1 = T.setFrames fs) : Steps p.tables e below (T.setTop (mkF m pc Ls (.int z :: rest))) (T.setFrames fs) := by
  have hm' : T.vm.method? m = some meth := X.method'
  have hn : narrow .int (.int z) = .int z := rfl
  show Steps p.tables e below (T.setTop { method := m, pc := pc, locals := Ls, stack := _ :: rest, locked := none }) _
  jvm_step X.here [X.here.top, hx, hd, hm', hret, hn]
  first | (intro acts; rw [hl _ acts rfl rfl rfl]) | rw [hl _ _ rfl rfl rfl]
  exact Steps.refl _
end New
theorem own_old_le {Z : State} {n0 : Nat} {h : Heap} (O : Old Z n0 h) : n0 ≤ h.size := O.1 ▸ O.2.1
theorem own_reb {s Z : State} {vm1 : Vm} {n : Nat} {own : String} {i : ClassId} (hZ : Z.Warmed39 s.vm) (hown : s.vm.findClass own = some i) (h2 : s.Since vm1 n) : Z.Warmed39 (s.setVm vm1).vm ∧ (s.setVm vm1).vm.findClass own = some i := ⟨State.Warmed39.trans hZ h2.1, (h2.1.alike.findClass _ _).trans hown⟩
theorem own_keep_eq {h0 h h' : Heap} {ws : List Addr} (K : Keep h0 h ws) (e : h' = h) : Keep h0 h' ws := e ▸ K
end Jvm.RoadKit
namespace Jvm.Pilot.@@N@@
open Jvm Jvm.ClassFile Sem Op Lib Jvm.Free Jvm.Stand Jvm.LawKit Jvm.RoadKit Bundle Jvm.Pilot.@@N@@.Jvm.D
theorem w_0 {a0 : Array Value} {Z : State} (hw : ∀ d ∈ tables_1, d.before a0 Z = true) : (Jvm.Cond.constant "com/example/tempered_tableau/temperedtableau/reasoner/tableau/DependenciesOfPinLaw" (7 : Nat) (2147483647 : Int32)).before a0 Z = true := hw _ (List.mem_of_getElem? (i := 0) rfl)
theorem w_1 {a0 : Array Value} {Z : State} (hw : ∀ d ∈ tables_1, d.before a0 Z = true) : (Jvm.Cond.methodLink "com/example/tempered_tableau/temperedtableau/reasoner/tableau/DependenciesOfPinLaw" (8 : Nat) ({ cls := "com/example/tempered_tableau/temperedtableau/reasoner/tableau/Dependencies", name := "of", desc := "(I)Lcom/example/tempered_tableau/temperedtableau/reasoner/tableau/Dependencies;" } : Jvm.MethodName)).before a0 Z = true := hw _ (List.mem_of_getElem? (i := 1) rfl)
theorem w_2 {a0 : Array Value} {Z : State} (hw : ∀ d ∈ tables_1, d.before a0 Z = true) : (Jvm.Cond.static ({ cls := "com/example/tempered_tableau/temperedtableau/reasoner/tableau/Dependencies", name := "of", desc := "(I)Lcom/example/tempered_tableau/temperedtableau/reasoner/tableau/Dependencies;" } : Jvm.MethodName)).before a0 Z = true := hw _ (List.mem_of_getElem? (i := 2) rfl)
theorem w_3 {a0 : Array Value} {Z : State} (hw : ∀ d ∈ tables_1, d.before a0 Z = true) : (Jvm.Cond.initialized "com/example/tempered_tableau/temperedtableau/reasoner/tableau/Dependencies").before a0 Z = true := hw _ (List.mem_of_getElem? (i := 3) rfl)
theorem w_4 {a0 : Array Value} {Z : State} (hw : ∀ d ∈ tables_1, d.before a0 Z = true) : (Jvm.Cond.code ({ cls := "com/example/tempered_tableau/temperedtableau/reasoner/tableau/Dependencies", name := "of", desc := "(I)Lcom/example/tempered_tableau/temperedtableau/reasoner/tableau/Dependencies;" } : Jvm.MethodName) prog_10_method_2_code (1 : Nat) (Option.some (Jvm.ClassFile.FieldType.object "com/example/tempered_tableau/temperedtableau/reasoner/tableau/Dependencies"))).before a0 Z = true := hw _ (List.mem_of_getElem? (i := 4) rfl)
theorem w_5 {a0 : Array Value} {Z : State} (hw : ∀ d ∈ tables_1, d.before a0 Z = true) : (Jvm.Cond.classLink "com/example/tempered_tableau/temperedtableau/reasoner/tableau/Dependencies" (8 : Nat) "com/example/tempered_tableau/temperedtableau/reasoner/tableau/Dependencies").before a0 Z = true := hw _ (List.mem_of_getElem? (i := 5) rfl)
theorem w_6 {a0 : Array Value} {Z : State} (hw : ∀ d ∈ tables_1, d.before a0 Z = true) : (Jvm.Cond.instantiable "com/example/tempered_tableau/temperedtableau/reasoner/tableau/Dependencies" (2 : Nat)).before a0 Z = true := hw _ (List.mem_of_getElem? (i := 6) rfl)
theorem w_7 {a0 : Array Value} {Z : State} (hw : ∀ d ∈ tables_1, d.before a0 Z = true) : (Jvm.Cond.fieldLink "com/example/tempered_tableau/temperedtableau/reasoner/tableau/Dependencies" (17 : Nat) "com/example/tempered_tableau/temperedtableau/reasoner/tableau/Dependencies" "NONE" "Lcom/example/tempered_tableau/temperedtableau/reasoner/tableau/Dependencies;").before a0 Z = true := hw _ (List.mem_of_getElem? (i := 7) rfl)
theorem w_8 {a0 : Array Value} {Z : State} (hw : ∀ d ∈ tables_1, d.before a0 Z = true) : (Jvm.Cond.laysStatic "com/example/tempered_tableau/temperedtableau/reasoner/tableau/Dependencies" "NONE" "Lcom/example/tempered_tableau/temperedtableau/reasoner/tableau/Dependencies;").before a0 Z = true := hw _ (List.mem_of_getElem? (i := 8) rfl)
theorem w_9 {a0 : Array Value} {Z : State} (hw : ∀ d ∈ tables_1, d.before a0 Z = true) : (Jvm.Cond.methodLink "com/example/tempered_tableau/temperedtableau/reasoner/tableau/Dependencies" (20 : Nat) ({ cls := "com/example/tempered_tableau/temperedtableau/reasoner/tableau/Dependencies", name := "<init>", desc := "(ILcom/example/tempered_tableau/temperedtableau/reasoner/tableau/Dependencies;)V" } : Jvm.MethodName)).before a0 Z = true := hw _ (List.mem_of_getElem? (i := 9) rfl)
theorem w_10 {a0 : Array Value} {Z : State} (hw : ∀ d ∈ tables_1, d.before a0 Z = true) : (Jvm.Cond.instanceMethod ({ cls := "com/example/tempered_tableau/temperedtableau/reasoner/tableau/Dependencies", name := "<init>", desc := "(ILcom/example/tempered_tableau/temperedtableau/reasoner/tableau/Dependencies;)V" } : Jvm.MethodName)).before a0 Z = true := hw _ (List.mem_of_getElem? (i := 10) rfl)
theorem w_11 {a0 : Array Value} {Z : State} (hw : ∀ d ∈ tables_1, d.before a0 Z = true) : (Jvm.Cond.code ({ cls := "com/example/tempered_tableau/temperedtableau/reasoner/tableau/Dependencies", name := "<init>", desc := "(ILcom/example/tempered_tableau/temperedtableau/reasoner/tableau/Dependencies;)V" } : Jvm.MethodName) prog_10_method_1_code (3 : Nat) (Option.none : Option Jvm.ClassFile.FieldType)).before a0 Z = true := hw _ (List.mem_of_getElem? (i := 11) rfl)
theorem w_12 {a0 : Array Value} {Z : State} (hw : ∀ d ∈ tables_1, d.before a0 Z = true) : (Jvm.Cond.methodLink "com/example/tempered_tableau/temperedtableau/reasoner/tableau/Dependencies" (1 : Nat) ({ cls := "java/lang/Object", name := "<init>", desc := "()V" } : Jvm.MethodName)).before a0 Z = true := hw _ (List.mem_of_getElem? (i := 12) rfl)
theorem w_13 {a0 : Array Value} {Z : State} (hw : ∀ d ∈ tables_1, d.before a0 Z = true) : (Jvm.Cond.instanceMethod ({ cls := "java/lang/Object", name := "<init>", desc := "()V" } : Jvm.MethodName)).before a0 Z = true := hw _ (List.mem_of_getElem? (i := 13) rfl)
theorem w_14 {a0 : Array Value} {Z : State} (hw : ∀ d ∈ tables_1, d.before a0 Z = true) : (Jvm.Cond.code ({ cls := "java/lang/Object", name := "<init>", desc := "()V" } : Jvm.MethodName) object_method_1_code (1 : Nat) (Option.none : Option Jvm.ClassFile.FieldType)).before a0 Z = true := hw _ (List.mem_of_getElem? (i := 14) rfl)
theorem w_15 {a0 : Array Value} {Z : State} (hw : ∀ d ∈ tables_1, d.before a0 Z = true) : (Jvm.Cond.fieldLink "com/example/tempered_tableau/temperedtableau/reasoner/tableau/Dependencies" (7 : Nat) "com/example/tempered_tableau/temperedtableau/reasoner/tableau/Dependencies" "latest" "I").before a0 Z = true := hw _ (List.mem_of_getElem? (i := 15) rfl)
theorem w_16 {a0 : Array Value} {Z : State} (hw : ∀ d ∈ tables_1, d.before a0 Z = true) : (Jvm.Cond.laysFinal "com/example/tempered_tableau/temperedtableau/reasoner/tableau/Dependencies" "com/example/tempered_tableau/temperedtableau/reasoner/tableau/Dependencies" "latest" "I").before a0 Z = true := hw _ (List.mem_of_getElem? (i := 16) rfl)
theorem w_17 {a0 : Array Value} {Z : State} (hw : ∀ d ∈ tables_1, d.before a0 Z = true) : (Jvm.Cond.fieldLink "com/example/tempered_tableau/temperedtableau/reasoner/tableau/Dependencies" (13 : Nat) "com/example/tempered_tableau/temperedtableau/reasoner/tableau/Dependencies" "earlier" "Lcom/example/tempered_tableau/temperedtableau/reasoner/tableau/Dependencies;").before a0 Z = true := hw _ (List.mem_of_getElem? (i := 17) rfl)
theorem w_18 {a0 : Array Value} {Z : State} (hw : ∀ d ∈ tables_1, d.before a0 Z = true) : (Jvm.Cond.laysFinal "com/example/tempered_tableau/temperedtableau/reasoner/tableau/Dependencies" "com/example/tempered_tableau/temperedtableau/reasoner/tableau/Dependencies" "earlier" "Lcom/example/tempered_tableau/temperedtableau/reasoner/tableau/Dependencies;").before a0 Z = true := hw _ (List.mem_of_getElem? (i := 18) rfl)
theorem w_19 {a0 : Array Value} {Z : State} (hw : ∀ d ∈ tables_1, d.before a0 Z = true) : (Jvm.Cond.methodLink "com/example/tempered_tableau/temperedtableau/reasoner/tableau/DependenciesOfPinLaw" (14 : Nat) ({ cls := "com/example/tempered_tableau/temperedtableau/reasoner/tableau/Dependencies", name := "isEmpty", desc := "()Z" } : Jvm.MethodName)).before a0 Z = true := hw _ (List.mem_of_getElem? (i := 19) rfl)
theorem w_20 {a0 : Array Value} {Z : State} (hw : ∀ d ∈ tables_1, d.before a0 Z = true) : (Jvm.Cond.declares ({ cls := "com/example/tempered_tableau/temperedtableau/reasoner/tableau/Dependencies", name := "isEmpty", desc := "()Z" } : Jvm.MethodName)).before a0 Z = true := hw _ (List.mem_of_getElem? (i := 20) rfl)
theorem w_21 {a0 : Array Value} {Z : State} (hw : ∀ d ∈ tables_1, d.before a0 Z = true) : (Jvm.Cond.instanceMethod ({ cls := "com/example/tempered_tableau/temperedtableau/reasoner/tableau/Dependencies", name := "isEmpty", desc := "()Z" } : Jvm.MethodName)).before a0 Z = true := hw _ (List.mem_of_getElem? (i := 21) rfl)
theorem w_22 {a0 : Array Value} {Z : State} (hw : ∀ d ∈ tables_1, d.before a0 Z = true) : (Jvm.Cond.selects "com/example/tempered_tableau/temperedtableau/reasoner/tableau/Dependencies" ({ cls := "com/example/tempered_tableau/temperedtableau/reasoner/tableau/Dependencies", name := "isEmpty", desc := "()Z" } : Jvm.MethodName) ({ cls := "com/example/tempered_tableau/temperedtableau/reasoner/tableau/Dependencies", name := "isEmpty", desc := "()Z" } : Jvm.MethodName)).before a0 Z = true := hw _ (List.mem_of_getElem? (i := 22) rfl)
theorem w_23 {a0 : Array Value} {Z : State} (hw : ∀ d ∈ tables_1, d.before a0 Z = true) : (Jvm.Cond.code ({ cls := "com/example/tempered_tableau/temperedtableau/reasoner/tableau/Dependencies", name := "isEmpty", desc := "()Z" } : Jvm.MethodName) prog_10_method_3_code (1 : Nat) (Option.some Jvm.ClassFile.FieldType.boolean)).before a0 Z = true := hw _ (List.mem_of_getElem? (i := 23) rfl)
theorem w_24 {a0 : Array Value} {Z : State} (hw : ∀ d ∈ tables_1, d.before a0 Z = true) : (Jvm.Cond.methodLink "com/example/tempered_tableau/temperedtableau/reasoner/tableau/DependenciesOfPinLaw" (18 : Nat) ({ cls := "com/example/tempered_tableau/temperedtableau/reasoner/tableau/Dependencies", name := "latest", desc := "()I" } : Jvm.MethodName)).before a0 Z = true := hw _ (List.mem_of_getElem? (i := 24) rfl)
theorem w_25 {a0 : Array Value} {Z : State} (hw : ∀ d ∈ tables_1, d.before a0 Z = true) : (Jvm.Cond.declares ({ cls := "com/example/tempered_tableau/temperedtableau/reasoner/tableau/Dependencies", name := "latest", desc := "()I" } : Jvm.MethodName)).before a0 Z = true := hw _ (List.mem_of_getElem? (i := 25) rfl)
theorem w_26 {a0 : Array Value} {Z : State} (hw : ∀ d ∈ tables_1, d.before a0 Z = true) : (Jvm.Cond.instanceMethod ({ cls := "com/example/tempered_tableau/temperedtableau/reasoner/tableau/Dependencies", name := "latest", desc := "()I" } : Jvm.MethodName)).before a0 Z = true := hw _ (List.mem_of_getElem? (i := 26) rfl)
theorem w_27 {a0 : Array Value} {Z : State} (hw : ∀ d ∈ tables_1, d.before a0 Z = true) : (Jvm.Cond.selects "com/example/tempered_tableau/temperedtableau/reasoner/tableau/Dependencies" ({ cls := "com/example/tempered_tableau/temperedtableau/reasoner/tableau/Dependencies", name := "latest", desc := "()I" } : Jvm.MethodName) ({ cls := "com/example/tempered_tableau/temperedtableau/reasoner/tableau/Dependencies", name := "latest", desc := "()I" } : Jvm.MethodName)).before a0 Z = true := hw _ (List.mem_of_getElem? (i := 27) rfl)
theorem w_28 {a0 : Array Value} {Z : State} (hw : ∀ d ∈ tables_1, d.before a0 Z = true) : (Jvm.Cond.code ({ cls := "com/example/tempered_tableau/temperedtableau/reasoner/tableau/Dependencies", name := "latest", desc := "()I" } : Jvm.MethodName) prog_10_method_4_code (1 : Nat) (Option.some Jvm.ClassFile.FieldType.int)).before a0 Z = true := hw _ (List.mem_of_getElem? (i := 28) rfl)
theorem w_29 {a0 : Array Value} {Z : State} (hw : ∀ d ∈ tables_1, d.before a0 Z = true) : (Jvm.Cond.methodLink "com/example/tempered_tableau/temperedtableau/reasoner/tableau/DependenciesOfPinLaw" (22 : Nat) ({ cls := "com/example/tempered_tableau/temperedtableau/reasoner/tableau/Dependencies", name := "before", desc := "(I)Lcom/example/tempered_tableau/temperedtableau/reasoner/tableau/Dependencies;" } : Jvm.MethodName)).before a0 Z = true := hw _ (List.mem_of_getElem? (i := 29) rfl)
theorem w_30 {a0 : Array Value} {Z : State} (hw : ∀ d ∈ tables_1, d.before a0 Z = true) : (Jvm.Cond.declares ({ cls := "com/example/tempered_tableau/temperedtableau/reasoner/tableau/Dependencies", name := "before", desc := "(I)Lcom/example/tempered_tableau/temperedtableau/reasoner/tableau/Dependencies;" } : Jvm.MethodName)).before a0 Z = true := hw _ (List.mem_of_getElem? (i := 30) rfl)
theorem w_31 {a0 : Array Value} {Z : State} (hw : ∀ d ∈ tables_1, d.before a0 Z = true) : (Jvm.Cond.instanceMethod ({ cls := "com/example/tempered_tableau/temperedtableau/reasoner/tableau/Dependencies", name := "before", desc := "(I)Lcom/example/tempered_tableau/temperedtableau/reasoner/tableau/Dependencies;" } : Jvm.MethodName)).before a0 Z = true := hw _ (List.mem_of_getElem? (i := 31) rfl)
theorem w_32 {a0 : Array Value} {Z : State} (hw : ∀ d ∈ tables_1, d.before a0 Z = true) : (Jvm.Cond.selects "com/example/tempered_tableau/temperedtableau/reasoner/tableau/Dependencies" ({ cls := "com/example/tempered_tableau/temperedtableau/reasoner/tableau/Dependencies", name := "before", desc := "(I)Lcom/example/tempered_tableau/temperedtableau/reasoner/tableau/Dependencies;" } : Jvm.MethodName) ({ cls := "com/example/tempered_tableau/temperedtableau/reasoner/tableau/Dependencies", name := "before", desc := "(I)Lcom/example/tempered_tableau/temperedtableau/reasoner/tableau/Dependencies;" } : Jvm.MethodName)).before a0 Z = true := hw _ (List.mem_of_getElem? (i := 32) rfl)
theorem w_33 {a0 : Array Value} {Z : State} (hw : ∀ d ∈ tables_1, d.before a0 Z = true) : (Jvm.Cond.code ({ cls := "com/example/tempered_tableau/temperedtableau/reasoner/tableau/Dependencies", name := "before", desc := "(I)Lcom/example/tempered_tableau/temperedtableau/reasoner/tableau/Dependencies;" } : Jvm.MethodName) prog_10_method_7_code (3 : Nat) (Option.some (Jvm.ClassFile.FieldType.object "com/example/tempered_tableau/temperedtableau/reasoner/tableau/Dependencies"))).before a0 Z = true := hw _ (List.mem_of_getElem? (i := 33) rfl)
theorem d2_0 : decode prog_10_method_1_code 0 = .ok (.aload_n 0, 1) := by decide +kernel
theorem d2_1 : decode prog_10_method_1_code 1 = .ok (.invokespecial 1, 3) := by decide +kernel
theorem d2_4 : decode prog_10_method_1_code 4 = .ok (.aload_n 0, 1) := by decide +kernel
theorem d2_5 : decode prog_10_method_1_code 5 = .ok (.iload_n 1, 1) := by decide +kernel
theorem d2_6 : decode prog_10_method_1_code 6 = .ok (.putfield 7, 3) := by decide +kernel
theorem d2_9 : decode prog_10_method_1_code 9 = .ok (.aload_n 0, 1) := by decide +kernel
theorem d2_10 : decode prog_10_method_1_code 10 = .ok (.aload_n 2, 1) := by decide +kernel
theorem d2_11 : decode prog_10_method_1_code 11 = .ok (.putfield 13, 3) := by decide +kernel
theorem d2_14 : decode prog_10_method_1_code 14 = .ok (.return_, 1) := by decide +kernel
def Q_init (Z : State) (a : Addr) (p1 : Int32) (w : Addr) (h0 : Heap) (n0 : Nat) (v : Option Value) (h : Heap) (L : List Loc) : Prop := v = none ∧ Fr n0 L ∧ Keep h0 h [a] ∧ (Exa Z h a "com/example/tempered_tableau/temperedtableau/reasoner/tableau/Dependencies") ∧ (Fld Z h a "com/example/tempered_tableau/temperedtableau/reasoner/tableau/Dependencies" "latest" "I" (.int p1)) ∧ (Fld Z h a "com/example/tempered_tableau/temperedtableau/reasoner/tableau/Dependencies" "earlier" "Lcom/example/tempered_tableau/temperedtableau/reasoner/tableau/Dependencies;" (.ref w))
theorem pn_com_example_tempered_tableau_temperedtableau_reasoner_tableau_Dependencies : plainName "com/example/tempered_tableau/temperedtableau/reasoner/tableau/Dependencies" = true := by first | (simp [plainName, overriddenIn]; done) | decide +kernel
theorem ef_rm_init (m : MethodId) (x0 : Addr) (x1 : Int32) (x2 : Addr) : entryFrame m #[(.ref x0), (.int x1), (.ref x2)] 3 = mkF m 0 #[.val (.ref x0), .val (.int x1), .val (.ref x2)] [] := by first | (simp [entryFrame, mkF, argsToLocals, Value.category]; done) | rfl
set_option maxRecDepth 65536 in
set_option maxHeartbeats 40000000 in
theorem rm_init (l : Launch) (Z : State) (a0 : Array Value) (hw : ∀ d ∈ tables_1, d.before a0 Z = true) (ws : List Jvm.Cond) (a : Addr) (p1 : Int32) (w : Addr) (h0 : Heap) (n0 : Nat) (O0 : Old Z n0 h0) (E_a : Exa Z h0 a "com/example/tempered_tableau/temperedtableau/reasoner/tableau/Dependencies") (F1 : Fld Z h0 a "com/example/tempered_tableau/temperedtableau/reasoner/tableau/Dependencies" "latest" "I" (.int (0 : Int32))) (F2 : Fld Z h0 a "com/example/tempered_tableau/temperedtableau/reasoner/tableau/Dependencies" "earlier" "Lcom/example/tempered_tableau/temperedtableau/reasoner/tableau/Dependencies;" .null) (g_a : n0 ≤ a) :
    MetFree l (⟨"com/example/tempered_tableau/temperedtableau/reasoner/tableau/Dependencies", "<init>", "(ILcom/example/tempered_tableau/temperedtableau/reasoner/tableau/Dependencies;)V"⟩ : MethodName) (head1 (Jvm.Cond.code (⟨"com/example/tempered_tableau/temperedtableau/reasoner/tableau/Dependencies", "<init>", "(ILcom/example/tempered_tableau/temperedtableau/reasoner/tableau/Dependencies;)V"⟩ : MethodName) prog_10_method_1_code 3 none :: ws) ({ frames := 1, cells := 0, slots := 0, locals := 12 } : Room)) (fun as' U => as' = #[(.ref a), (.int p1), (.ref w)] ∧ Z.Warmed39 U.vm ∧ U.heap = h0) (fun _ _ _ _ _ => True) (fun _ U o U' => ∃ v L, o = .returned v ∧ Q_init Z a p1 w h0 n0 v U'.heap L ∧ FrameEnd U o U' L ({ frames := 1, cells := 0, slots := 0, locals := 12 } : Room).cells ({ frames := 1, cells := 0, slots := 0, locals := 12 } : Room).slots) := by
  refine MetFree.of_bodySF (plainFor_of_name pn_com_example_tempered_tableau_temperedtableau_reasoner_tableau_Dependencies) hisR ?_
  intro p e s m args below meth c s₁ Bd hml0 hP hK
  obtain ⟨rfl, hZ, hh⟩ := hP
  have hx := Bd.exec
  have hby := Bd.bytes
  have hml : c.maxLocals = 3 := hml0
  have hown : s.vm.findClass "com/example/tempered_tableau/temperedtableau/reasoner/tableau/Dependencies" = some m.cls := findClass_of_methodNamed Bd.named
  have hnm := (name_of_methodNamed Bd.named Bd.method).1
  have X0 : Stand p l e ({ frames := 1, cells := 0, slots := 0, locals := 12 } : Room) s m #[(.ref a), (.int p1), (.ref w)] below meth c s₁ [] 0 0 := Stand.of_body Bd
  have e0 : s₁.heap = h0 := by rw [← hh, Bd.state]; rfl
  have N0 := Fr.nil n0
  have K0 : Keep h0 h0 [a] := Keep.refl _ _
  have pre0 : ∀ t, Steps p.tables e below (s₁.setTop (mkF m 0 #[.val (.ref a), .val (.int p1), .val (.ref w)] [])) t → Steps p.tables e below (s₁.setTop (entryFrame m #[(.ref a), (.int p1), (.ref w)] 3)) t := fun t k => castTop (ef_rm_init m a p1 w) k
  obtain ⟨T1, X1, e1, st1⟩ := initO X0 hx hZ hown (w_12 hw) (w_13 hw) (w_14 hw) e0 (g := (mkF m 1 #[.val (.ref a), .val (.int p1), .val (.ref w)] [(.ref a)])) rfl (by rw [hml]; rfl) rfl (hb hby d2_1) (by decide) (W := 0) (by show 2 * 0 + _ ≤ _; exact Nat.le_of_eq rfl) (by decide)
  obtain ⟨T6, h6, X6, e6, Wr6, st6⟩ := putF X1 hx hZ hown (host := "") (Or.inl (w_15 hw)) Via.refl e1 F1 E_a (Or.inr ⟨(w_16 hw), rfl, hnm⟩) (w_6 hw) (ty := .int) (by decide) rfl rfl (g := (mkF m 6 #[.val (.ref a), .val (.int p1), .val (.ref w)] [(.int p1), (.ref a)])) rfl rfl (hb hby d2_6)
  have f1 : Keep h0 h6 [a] := K0.wr Wr6 (Or.inl (List.mem_of_getElem? (i := 0) rfl))
  have f2 : Old Z n0 h6 := O0.wr Wr6 g_a
  have f3 : Fld Z h6 a "com/example/tempered_tableau/temperedtableau/reasoner/tableau/Dependencies" "latest" "I" (.int p1) := F1.same Wr6
  have N6 := Fr.snoc X6 N0 g_a
  have f4 : Fld Z h6 a "com/example/tempered_tableau/temperedtableau/reasoner/tableau/Dependencies" "earlier" "Lcom/example/tempered_tableau/temperedtableau/reasoner/tableau/Dependencies;" .null := F2.other Wr6 (Or.inr (slot_ne (Or.inr (w_18 hw)) (Or.inr (w_16 hw)) (by decide) (t := (.object "com/example/tempered_tableau/temperedtableau/reasoner/tableau/Dependencies")) (t' := .int) (by decide) (by decide)))
  have f5 : Exa Z h6 a "com/example/tempered_tableau/temperedtableau/reasoner/tableau/Dependencies" := E_a.wr Wr6
  obtain ⟨T11, h11, X11, e11, Wr11, st11⟩ := putF X6 hx hZ hown (host := "") (Or.inl (w_17 hw)) Via.refl e6 f4 f5 (Or.inr ⟨(w_18 hw), rfl, hnm⟩) (w_6 hw) (ty := (.object "com/example/tempered_tableau/temperedtableau/reasoner/tableau/Dependencies")) (by decide) rfl rfl (g := (mkF m 11 #[.val (.ref a), .val (.int p1), .val (.ref w)] [(.ref w), (.ref a)])) rfl rfl (hb hby d2_11)
  have f6 : Keep h0 h11 [a] := f1.wr Wr11 (Or.inl (List.mem_of_getElem? (i := 0) rfl))
  have f7 : Old Z n0 h11 := f2.wr Wr11 g_a
  have f8 : Fld Z h11 a "com/example/tempered_tableau/temperedtableau/reasoner/tableau/Dependencies" "earlier" "Lcom/example/tempered_tableau/temperedtableau/reasoner/tableau/Dependencies;" (.ref w) := f4.same Wr11
  have N11 := Fr.snoc X11 N6 g_a
  have f9 : Exa Z h11 a "com/example/tempered_tableau/temperedtableau/reasoner/tableau/Dependencies" := f5.wr Wr11
  have f10 : Fld Z h11 a "com/example/tempered_tableau/temperedtableau/reasoner/tableau/Dependencies" "latest" "I" (.int p1) := f3.other Wr11 (Or.inr (slot_ne (Or.inr (w_16 hw)) (Or.inr (w_18 hw)) (by decide) (t := .int) (t' := (.object "com/example/tempered_tableau/temperedtableau/reasoner/tableau/Dependencies")) (by decide) (by decide)))
  obtain ⟨fs, hr, hrun, hended, hW, hsame⟩ := X11.leave (v := none) (fun _ => rfl)
  refine ⟨_, _, pre0 _ ?_, hrun, hended, _, _, rfl, ?_, ⟨_, rfl⟩, hW, hsame.mono (by decide) (by decide)⟩
  · show Steps p.tables e below (s₁.setTop (mkF m 0 #[.val (.ref a), .val (.int p1), .val (.ref w)] [])) _
    refine XS.aloadN X0.here hx rfl (hb hby d2_0) rfl rfl ?_
    show Steps p.tables e below (s₁.setTop (mkF m 1 #[.val (.ref a), .val (.int p1), .val (.ref w)] [(.ref a)])) _
    refine st1 _ ?_
    show Steps p.tables e below (T1.setTop (mkF m 4 #[.val (.ref a), .val (.int p1), .val (.ref w)] [])) _
    refine XS.aloadN X1.here hx rfl (hb hby d2_4) rfl rfl ?_
    show Steps p.tables e below (T1.setTop (mkF m 5 #[.val (.ref a), .val (.int p1), .val (.ref w)] [(.ref a)])) _
    refine XS.iloadN X1.here hx rfl (hb hby d2_5) rfl ?_
    show Steps p.tables e below (T1.setTop (mkF m 6 #[.val (.ref a), .val (.int p1), .val (.ref w)] [(.int p1), (.ref a)])) _
    refine st6 _ ?_
    show Steps p.tables e below (T6.setTop (mkF m 9 #[.val (.ref a), .val (.int p1), .val (.ref w)] [])) _
    refine XS.aloadN X6.here hx rfl (hb hby d2_9) rfl rfl ?_
    show Steps p.tables e below (T6.setTop (mkF m 10 #[.val (.ref a), .val (.int p1), .val (.ref w)] [(.ref a)])) _
    refine XS.aloadN X6.here hx rfl (hb hby d2_10) rfl rfl ?_
    show Steps p.tables e below (T6.setTop (mkF m 11 #[.val (.ref a), .val (.int p1), .val (.ref w)] [(.ref w), (.ref a)])) _
    refine st11 _ ?_
    show Steps p.tables e below (T11.setTop (mkF m 14 #[.val (.ref a), .val (.int p1), .val (.ref w)] [])) _
    exact X11.returnOut hx Bd.returns (hb hby d2_14) hr
  · show Q_init Z a p1 w h0 n0 _ T11.heap _
    rw [e11]
    exact ⟨rfl, N11, f6, f9, f10, f8⟩
theorem d1_0 : decode prog_10_method_2_code 0 = .ok (.new 8, 3) := by decide +kernel
theorem d1_3 : decode prog_10_method_2_code 3 = .ok (.dup, 1) := by decide +kernel
theorem d1_4 : decode prog_10_method_2_code 4 = .ok (.iload_n 0, 1) := by decide +kernel
theorem d1_5 : decode prog_10_method_2_code 5 = .ok (.getstatic 17, 3) := by decide +kernel
theorem pd_0 : parseMethodDescriptor "(ILcom/example/tempered_tableau/temperedtableau/reasoner/tableau/Dependencies;)V" = some ⟨[.int, (.object "com/example/tempered_tableau/temperedtableau/reasoner/tableau/Dependencies")], none⟩ := by decide +kernel
theorem d1_8 : decode prog_10_method_2_code 8 = .ok (.invokespecial 20, 3) := by decide +kernel
theorem d1_11 : decode prog_10_method_2_code 11 = .ok (.areturn, 1) := by decide +kernel
def Q_of (Z : State) (p1 : Int32) (w : Addr) (h0 : Heap) (n0 : Nat) (v : Option Value) (h : Heap) (L : List Loc) : Prop := ∃ b : Addr, v = some (.ref b) ∧ Fr n0 L ∧ Keep h0 h [] ∧ (h0.size ≤ b) ∧ (Exa Z h b "com/example/tempered_tableau/temperedtableau/reasoner/tableau/Dependencies") ∧ (Fld Z h b "com/example/tempered_tableau/temperedtableau/reasoner/tableau/Dependencies" "latest" "I" (.int p1)) ∧ (Fld Z h b "com/example/tempered_tableau/temperedtableau/reasoner/tableau/Dependencies" "earlier" "Lcom/example/tempered_tableau/temperedtableau/reasoner/tableau/Dependencies;" (.ref w))
theorem ef_rm_of (m : MethodId) (x0 : Int32) : entryFrame m #[(.int x0)] 1 = mkF m 0 #[.val (.int x0)] [] := by first | (simp [entryFrame, mkF, argsToLocals, Value.category]; done) | rfl
set_option maxRecDepth 65536 in
set_option maxHeartbeats 40000000 in
theorem rm_of (l : Launch) (Z : State) (a0 : Array Value) (hw : ∀ d ∈ tables_1, d.before a0 Z = true) (ws : List Jvm.Cond) (p1 : Int32) (w : Addr) (h0 : Heap) (n0 : Nat) (O0 : Old Z n0 h0) (S_NONE : Sta Z Z.heap "com/example/tempered_tableau/temperedtableau/reasoner/tableau/Dependencies" "NONE" "Lcom/example/tempered_tableau/temperedtableau/reasoner/tableau/Dependencies;" (.ref w)) :
    MetFree l (⟨"com/example/tempered_tableau/temperedtableau/reasoner/tableau/Dependencies", "of", "(I)Lcom/example/tempered_tableau/temperedtableau/reasoner/tableau/Dependencies;"⟩ : MethodName) (head1 (Jvm.Cond.code (⟨"com/example/tempered_tableau/temperedtableau/reasoner/tableau/Dependencies", "of", "(I)Lcom/example/tempered_tableau/temperedtableau/reasoner/tableau/Dependencies;"⟩ : MethodName) prog_10_method_2_code 1 (some (.object "com/example/tempered_tableau/temperedtableau/reasoner/tableau/Dependencies")) :: ws) ({ frames := 2, cells := 1, slots := 2, locals := 27 } : Room)) (fun as' U => as' = #[(.int p1)] ∧ Z.Warmed39 U.vm ∧ U.heap = h0) (fun _ _ _ _ _ => True) (fun _ U o U' => ∃ v L, o = .returned v ∧ Q_of Z p1 w h0 n0 v U'.heap L ∧ FrameEnd U o U' L ({ frames := 2, cells := 1, slots := 2, locals := 27 } : Room).cells ({ frames := 2, cells := 1, slots := 2, locals := 27 } : Room).slots) := by
  refine MetFree.of_bodySF (plainFor_of_name pn_com_example_tempered_tableau_temperedtableau_reasoner_tableau_Dependencies) hisR ?_
  intro p e s m args below meth c s₁ Bd hml0 hP hK
  obtain ⟨rfl, hZ, hh⟩ := hP
  have hx := Bd.exec
  have hby := Bd.bytes
  have hml : c.maxLocals = 1 := hml0
  have hown : s.vm.findClass "com/example/tempered_tableau/temperedtableau/reasoner/tableau/Dependencies" = some m.cls := findClass_of_methodNamed Bd.named
  have hnm := (name_of_methodNamed Bd.named Bd.method).1
  have X0 : Stand p l e ({ frames := 2, cells := 1, slots := 2, locals := 27 } : Room) s m #[(.int p1)] below meth c s₁ [] 0 0 := Stand.of_body Bd
  have e0 : s₁.heap = h0 := by rw [← hh, Bd.state]; rfl
  have N0 := Fr.nil n0
  have K0 : Keep h0 h0 [] := Keep.refl _ _
  have pre0 : ∀ t, Steps p.tables e below (s₁.setTop (mkF m 0 #[.val (.int p1)] [])) t → Steps p.tables e below (s₁.setTop (entryFrame m #[(.int p1)] 1)) t := fun t k => castTop (ef_rm_of m p1) k
  obtain ⟨T0_, h0_, X0_, e0_, Ex0_, Aa0_, Df0_, -, st0_⟩ := newO X0 hx hZ hown (w_5 hw) (w_6 hw) (w_3 hw) e0 (g := (mkF m 0 #[.val (.int p1)] [])) rfl (hb hby d1_0) (by decide) (by decide)
  obtain ⟨b0_, gg0_⟩ : ∃ z, z = h0.size := ⟨_, rfl⟩
  rw [← gg0_] at Aa0_ Df0_ st0_
  have f1 : Keep h0 h0_ [] := K0.ext Ex0_
  have f2 : Old Z n0 h0_ := O0.ext Ex0_
  have f3 : Fld Z h0_ b0_ "com/example/tempered_tableau/temperedtableau/reasoner/tableau/Dependencies" "latest" "I" (.int (0 : Int32)) := Df0_ (Or.inr (w_16 hw)) (ty := .int) (by decide)
  have f4 : Fld Z h0_ b0_ "com/example/tempered_tableau/temperedtableau/reasoner/tableau/Dependencies" "earlier" "Lcom/example/tempered_tableau/temperedtableau/reasoner/tableau/Dependencies;" .null := Df0_ (Or.inr (w_18 hw)) (ty := (.object "com/example/tempered_tableau/temperedtableau/reasoner/tableau/Dependencies")) (by decide)
  obtain ⟨T5, X5, e5, st5⟩ := getS2 X0_ hx hZ hown (host := "") (Or.inl (w_7 hw)) Via.refl e0_ (S_NONE.ext f2.2) (g := (mkF m 5 #[.val (.int p1)] [(.int p1), (.ref b0_), (.ref b0_)])) rfl (hb hby d1_5)
  have f5 : n0 ≤ b0_ := Nat.le_trans (own_old_le O0) (Nat.le_of_eq gg0_.symm)
  obtain ⟨_, _, ⟨T8, Lo8, kk8, nn8⟩, -, X8, ⟨Lc8, hQ8, ll8, yy8, zz8⟩, st8⟩ := X5.specialBack hx (y := (⟨"com/example/tempered_tableau/temperedtableau/reasoner/tableau/Dependencies", "<init>", "(ILcom/example/tempered_tableau/temperedtableau/reasoner/tableau/Dependencies;)V"⟩ : MethodName)) rfl hown (mvT hZ (w_9 hw)) (mvT hZ (w_10 hw)) (mvT hZ (w_11 hw)) (by decide) (backOf (W := 1) (rm_init l Z a0 hw [] b0_ p1 w h0_ n0 f2 Aa0_ f3 f4 f5) hZ (w_11 hw) (w_3 hw) (by decide) (by decide)) (g := (mkF m 8 #[.val (.int p1)] [(.ref w), (.int p1), (.ref b0_), (.ref b0_)])) rfl (by rw [hml]; rfl) (Steps.refl _) (a := b0_) (argsL := [(.int p1), (.ref w)]) (rest := [(.ref b0_)]) (lenOf pd_0 rfl) rfl (by show 2 * 0 + _ ≤ _; exact Nat.le_of_eq rfl) (hb hby d1_8) (fun _ _ => ⟨rfl, e5, (by decide : 1 + 0 ≤ _), (by decide : 2 + 0 ≤ _)⟩)
  dsimp only [Pt.U, Pt.locs, Pt.cells, Pt.slots] at X8 ll8 yy8 zz8 st8 hQ8
  subst ll8 yy8 zz8
  obtain ⟨rfl, N8q, K8q, p8_0, p8_1, p8_2⟩ := hQ8
  have N8 := Fr.app N0 N8q
  have f6 : h0.size ≤ b0_ := Nat.le_trans K0.1 (Nat.le_of_eq gg0_.symm)
  have f7 : Keep h0 T8.heap [] := f1.trans K8q (allS (Or.inr f6) all0)
  have f8 : Old Z n0 T8.heap := f2.keep K8q (allS f5 all0)
  obtain ⟨fs, hr, hrun, hended, hW, hsame⟩ := X8.leave (v := some (.ref b0_)) (fun h => by rw [Bd.returns] at h; cases h)
  refine ⟨_, _, pre0 _ ?_, hrun, hended, _, _, rfl, ?_, ⟨_, rfl⟩, hW, hsame.mono (by decide) (by decide)⟩
  · show Steps p.tables e below (s₁.setTop (mkF m 0 #[.val (.int p1)] [])) _
    refine st0_ _ ?_
    show Steps p.tables e below (T0_.setTop (mkF m 3 #[.val (.int p1)] [(.ref b0_)])) _
    refine XS.dup X0_.here hx rfl (hb hby d1_3) rfl rfl ?_
    show Steps p.tables e below (T0_.setTop (mkF m 4 #[.val (.int p1)] [(.ref b0_), (.ref b0_)])) _
    refine XS.iloadN X0_.here hx rfl (hb hby d1_4) rfl ?_
    show Steps p.tables e below (T0_.setTop (mkF m 5 #[.val (.int p1)] [(.int p1), (.ref b0_), (.ref b0_)])) _
    refine st5 _ ?_
    show Steps p.tables e below (T5.setTop (mkF m 8 #[.val (.int p1)] [(.ref w), (.int p1), (.ref b0_), (.ref b0_)])) _
    refine st8.trans ?_
    show Steps p.tables e below (T8.setTop (mkF m 11 #[.val (.int p1)] [(.ref b0_)])) _
    jvm_step X8.here [X8.here.top, hx, (hb hby d1_11), X8.method', Bd.returns, Value.isRef, FieldType.isReference]
    first | (intro acts; rw [hr _ acts rfl rfl rfl]) | rw [hr _ _ rfl rfl rfl]
    exact Steps.refl _
  · show Q_of Z p1 w h0 n0 _ T8.heap _
    exact ⟨b0_, rfl, N8, f7, f6, p8_0, p8_1, p8_2⟩
theorem d4_0 : decode prog_10_method_3_code 0 = .ok (.aload_n 0, 1) := by decide +kernel
theorem d4_1 : decode prog_10_method_3_code 1 = .ok (.getstatic 17, 3) := by decide +kernel
theorem d4_4 : decode prog_10_method_3_code 4 = .ok (.if_acmp .ne 7, 3) := by decide +kernel
theorem d4_7 : decode prog_10_method_3_code 7 = .ok (.iconst 1, 1) := by decide +kernel
theorem d4_8 : decode prog_10_method_3_code 8 = .ok (.goto 4, 3) := by decide +kernel
theorem d4_12 : decode prog_10_method_3_code 12 = .ok (.ireturn, 1) := by decide +kernel
def Q_emptyY (Z : State) (w : Addr) (h0 : Heap) (n0 : Nat) (v : Option Value) (h : Heap) (L : List Loc) : Prop := v = some (.int (1 : Int32)) ∧ Fr n0 L ∧ Keep h0 h []
theorem ef_rm_emptyY (m : MethodId) (x0 : Addr) : entryFrame m #[(.ref x0)] 1 = mkF m 0 #[.val (.ref x0)] [] := by first | (simp [entryFrame, mkF, argsToLocals, Value.category]; done) | rfl
set_option maxRecDepth 65536 in
set_option maxHeartbeats 40000000 in
theorem rm_emptyY (l : Launch) (Z : State) (a0 : Array Value) (hw : ∀ d ∈ tables_1, d.before a0 Z = true) (ws : List Jvm.Cond) (w : Addr) (h0 : Heap) (n0 : Nat) (O0 : Old Z n0 h0) (S_NONE : Sta Z Z.heap "com/example/tempered_tableau/temperedtableau/reasoner/tableau/Dependencies" "NONE" "Lcom/example/tempered_tableau/temperedtableau/reasoner/tableau/Dependencies;" (.ref w)) :
    MetFree l (⟨"com/example/tempered_tableau/temperedtableau/reasoner/tableau/Dependencies", "isEmpty", "()Z"⟩ : MethodName) (head1 (Jvm.Cond.code (⟨"com/example/tempered_tableau/temperedtableau/reasoner/tableau/Dependencies", "isEmpty", "()Z"⟩ : MethodName) prog_10_method_3_code 1 (some .boolean) :: ws) ({ frames := 0, cells := 0, slots := 0, locals := 0 } : Room)) (fun as' U => as' = #[(.ref w)] ∧ Z.Warmed39 U.vm ∧ U.heap = h0) (fun _ _ _ _ _ => True) (fun _ U o U' => ∃ v L, o = .returned v ∧ Q_emptyY Z w h0 n0 v U'.heap L ∧ FrameEnd U o U' L ({ frames := 0, cells := 0, slots := 0, locals := 0 } : Room).cells ({ frames := 0, cells := 0, slots := 0, locals := 0 } : Room).slots) := by
  refine MetFree.of_bodySF (plainFor_of_name pn_com_example_tempered_tableau_temperedtableau_reasoner_tableau_Dependencies) hisR ?_
  intro p e s m args below meth c s₁ Bd hml0 hP hK
  obtain ⟨rfl, hZ, hh⟩ := hP
  have hx := Bd.exec
  have hby := Bd.bytes
  have hml : c.maxLocals = 1 := hml0
  have hown : s.vm.findClass "com/example/tempered_tableau/temperedtableau/reasoner/tableau/Dependencies" = some m.cls := findClass_of_methodNamed Bd.named
  have hnm := (name_of_methodNamed Bd.named Bd.method).1
  have X0 : Stand p l e ({ frames := 0, cells := 0, slots := 0, locals := 0 } : Room) s m #[(.ref w)] below meth c s₁ [] 0 0 := Stand.of_body Bd
  have e0 : s₁.heap = h0 := by rw [← hh, Bd.state]; rfl
  have N0 := Fr.nil n0
  have K0 : Keep h0 h0 [] := Keep.refl _ _
  have pre0 : ∀ t, Steps p.tables e below (s₁.setTop (mkF m 0 #[.val (.ref w)] [])) t → Steps p.tables e below (s₁.setTop (entryFrame m #[(.ref w)] 1)) t := fun t k => castTop (ef_rm_emptyY m w) k
  obtain ⟨T1, X1, e1, st1⟩ := getS2 X0 hx hZ hown (host := "") (Or.inl (w_7 hw)) Via.refl e0 (S_NONE.ext O0.2) (g := (mkF m 1 #[.val (.ref w)] [(.ref w)])) rfl (hb hby d4_1)
  obtain ⟨fs, hr, hrun, hended, hW, hsame⟩ := X1.leave (v := some (.int (1 : Int32))) (fun h => by rw [Bd.returns] at h; cases h)
  refine ⟨_, _, pre0 _ ?_, hrun, hended, _, _, rfl, ?_, ⟨_, rfl⟩, hW, hsame.mono (by decide) (by decide)⟩
  · show Steps p.tables e below (s₁.setTop (mkF m 0 #[.val (.ref w)] [])) _
    refine XS.aloadN X0.here hx rfl (hb hby d4_0) rfl rfl ?_
    show Steps p.tables e below (s₁.setTop (mkF m 1 #[.val (.ref w)] [(.ref w)])) _
    refine st1 _ ?_
    show Steps p.tables e below (T1.setTop (mkF m 4 #[.val (.ref w)] [(.ref w), (.ref w)])) _
    refine Jvm.RoadKit.acmp (g := (mkF m 4 #[.val (.ref w)] [(.ref w), (.ref w)])) X1 hx rfl rfl rfl (pc0 := 4) (pc' := 7) (same := true) rfl (hb hby d4_4) rfl (decide_eq_true rfl) (by decide) (by decide) ?_
    show Steps p.tables e below (T1.setTop (mkF m 7 #[.val (.ref w)] [])) _
    refine XS.iconst X1.here hx rfl (hb hby d4_7) ?_
    show Steps p.tables e below (T1.setTop (mkF m 8 #[.val (.ref w)] [(.int (1 : Int32))])) _
    refine XS.goto X1.here hx rfl (pc0 := 8) (pc' := 12) rfl (hb hby d4_8) (by decide) (by decide) ?_
    show Steps p.tables e below (T1.setTop (mkF m 12 #[.val (.ref w)] [(.int (1 : Int32))])) _
    exact retN X1 hx (t := .boolean) Bd.returns (by simp) (hb hby d4_12) hr
  · show Q_emptyY Z w h0 n0 _ T1.heap _
    rw [e1]
    exact ⟨rfl, N0, K0⟩
theorem d4_11 : decode prog_10_method_3_code 11 = .ok (.iconst 0, 1) := by decide +kernel
def Q_emptyN (Z : State) (a : Addr) (w : Addr) (h0 : Heap) (n0 : Nat) (v : Option Value) (h : Heap) (L : List Loc) : Prop := v = some (.int (0 : Int32)) ∧ Fr n0 L ∧ Keep h0 h []
theorem ef_rm_emptyN (m : MethodId) (x0 : Addr) : entryFrame m #[(.ref x0)] 1 = mkF m 0 #[.val (.ref x0)] [] := by first | (simp [entryFrame, mkF, argsToLocals, Value.category]; done) | rfl
set_option maxRecDepth 65536 in
set_option maxHeartbeats 40000000 in
theorem rm_emptyN (l : Launch) (Z : State) (a0 : Array Value) (hw : ∀ d ∈ tables_1, d.before a0 Z = true) (ws : List Jvm.Cond) (a : Addr) (w : Addr) (h0 : Heap) (n0 : Nat) (O0 : Old Z n0 h0) (S_NONE : Sta Z Z.heap "com/example/tempered_tableau/temperedtableau/reasoner/tableau/Dependencies" "NONE" "Lcom/example/tempered_tableau/temperedtableau/reasoner/tableau/Dependencies;" (.ref w)) (ne_aw : a ≠ w) :
    MetFree l (⟨"com/example/tempered_tableau/temperedtableau/reasoner/tableau/Dependencies", "isEmpty", "()Z"⟩ : MethodName) (head1 (Jvm.Cond.code (⟨"com/example/tempered_tableau/temperedtableau/reasoner/tableau/Dependencies", "isEmpty", "()Z"⟩ : MethodName) prog_10_method_3_code 1 (some .boolean) :: ws) ({ frames := 0, cells := 0, slots := 0, locals := 0 } : Room)) (fun as' U => as' = #[(.ref a)] ∧ Z.Warmed39 U.vm ∧ U.heap = h0) (fun _ _ _ _ _ => True) (fun _ U o U' => ∃ v L, o = .returned v ∧ Q_emptyN Z a w h0 n0 v U'.heap L ∧ FrameEnd U o U' L ({ frames := 0, cells := 0, slots := 0, locals := 0 } : Room).cells ({ frames := 0, cells := 0, slots := 0, locals := 0 } : Room).slots) := by
  refine MetFree.of_bodySF (plainFor_of_name pn_com_example_tempered_tableau_temperedtableau_reasoner_tableau_Dependencies) hisR ?_
  intro p e s m args below meth c s₁ Bd hml0 hP hK
  obtain ⟨rfl, hZ, hh⟩ := hP
  have hx := Bd.exec
  have hby := Bd.bytes
  have hml : c.maxLocals = 1 := hml0
  have hown : s.vm.findClass "com/example/tempered_tableau/temperedtableau/reasoner/tableau/Dependencies" = some m.cls := findClass_of_methodNamed Bd.named
  have hnm := (name_of_methodNamed Bd.named Bd.method).1
  have X0 : Stand p l e ({ frames := 0, cells := 0, slots := 0, locals := 0 } : Room) s m #[(.ref a)] below meth c s₁ [] 0 0 := Stand.of_body Bd
  have e0 : s₁.heap = h0 := by rw [← hh, Bd.state]; rfl
  have N0 := Fr.nil n0
  have K0 : Keep h0 h0 [] := Keep.refl _ _
  have pre0 : ∀ t, Steps p.tables e below (s₁.setTop (mkF m 0 #[.val (.ref a)] [])) t → Steps p.tables e below (s₁.setTop (entryFrame m #[(.ref a)] 1)) t := fun t k => castTop (ef_rm_emptyN m a) k
  obtain ⟨T1, X1, e1, st1⟩ := getS2 X0 hx hZ hown (host := "") (Or.inl (w_7 hw)) Via.refl e0 (S_NONE.ext O0.2) (g := (mkF m 1 #[.val (.ref a)] [(.ref a)])) rfl (hb hby d4_1)
  obtain ⟨fs, hr, hrun, hended, hW, hsame⟩ := X1.leave (v := some (.int (0 : Int32))) (fun h => by rw [Bd.returns] at h; cases h)
  refine ⟨_, _, pre0 _ ?_, hrun, hended, _, _, rfl, ?_, ⟨_, rfl⟩, hW, hsame.mono (by decide) (by decide)⟩
  · show Steps p.tables e below (s₁.setTop (mkF m 0 #[.val (.ref a)] [])) _
    refine XS.aloadN X0.here hx rfl (hb hby d4_0) rfl rfl ?_
    show Steps p.tables e below (s₁.setTop (mkF m 1 #[.val (.ref a)] [(.ref a)])) _
    refine st1 _ ?_
    show Steps p.tables e below (T1.setTop (mkF m 4 #[.val (.ref a)] [(.ref w), (.ref a)])) _
    refine Jvm.RoadKit.acmp (g := (mkF m 4 #[.val (.ref a)] [(.ref w), (.ref a)])) X1 hx rfl rfl rfl (pc0 := 4) (pc' := 11) (same := false) rfl (hb hby d4_4) rfl (decide_eq_false fun q => ne_aw (Value.ref.inj q)) (by decide) (by decide) ?_
    show Steps p.tables e below (T1.setTop (mkF m 11 #[.val (.ref a)] [])) _
    refine XS.iconst X1.here hx rfl (hb hby d4_11) ?_
    show Steps p.tables e below (T1.setTop (mkF m 12 #[.val (.ref a)] [(.int (0 : Int32))])) _
    exact retN X1 hx (t := .boolean) Bd.returns (by simp) (hb hby d4_12) hr
  · show Q_emptyN Z a w h0 n0 _ T1.heap _
    rw [e1]
    exact ⟨rfl, N0, K0⟩
theorem d5_0 : decode prog_10_method_4_code 0 = .ok (.aload_n 0, 1) := by decide +kernel
theorem d5_1 : decode prog_10_method_4_code 1 = .ok (.getfield 7, 3) := by decide +kernel
theorem d5_4 : decode prog_10_method_4_code 4 = .ok (.ireturn, 1) := by decide +kernel
def Q_latest (Z : State) (a : Addr) (v1 : Int32) (h0 : Heap) (n0 : Nat) (v : Option Value) (h : Heap) (L : List Loc) : Prop := v = some (.int v1) ∧ Fr n0 L ∧ Keep h0 h []
theorem ef_rm_latest (m : MethodId) (x0 : Addr) : entryFrame m #[(.ref x0)] 1 = mkF m 0 #[.val (.ref x0)] [] := by first | (simp [entryFrame, mkF, argsToLocals, Value.category]; done) | rfl
set_option maxRecDepth 65536 in
set_option maxHeartbeats 40000000 in
theorem rm_latest (l : Launch) (Z : State) (a0 : Array Value) (hw : ∀ d ∈ tables_1, d.before a0 Z = true) (ws : List Jvm.Cond) (a : Addr) (v1 : Int32) (h0 : Heap) (n0 : Nat) (O0 : Old Z n0 h0) (F1 : Fld Z h0 a "com/example/tempered_tableau/temperedtableau/reasoner/tableau/Dependencies" "latest" "I" (.int v1)) :
    MetFree l (⟨"com/example/tempered_tableau/temperedtableau/reasoner/tableau/Dependencies", "latest", "()I"⟩ : MethodName) (head1 (Jvm.Cond.code (⟨"com/example/tempered_tableau/temperedtableau/reasoner/tableau/Dependencies", "latest", "()I"⟩ : MethodName) prog_10_method_4_code 1 (some .int) :: ws) ({ frames := 0, cells := 0, slots := 0, locals := 0 } : Room)) (fun as' U => as' = #[(.ref a)] ∧ Z.Warmed39 U.vm ∧ U.heap = h0) (fun _ _ _ _ _ => True) (fun _ U o U' => ∃ v L, o = .returned v ∧ Q_latest Z a v1 h0 n0 v U'.heap L ∧ FrameEnd U o U' L ({ frames := 0, cells := 0, slots := 0, locals := 0 } : Room).cells ({ frames := 0, cells := 0, slots := 0, locals := 0 } : Room).slots) := by
  refine MetFree.of_bodySF (plainFor_of_name pn_com_example_tempered_tableau_temperedtableau_reasoner_tableau_Dependencies) hisR ?_
  intro p e s m args below meth c s₁ Bd hml0 hP hK
  obtain ⟨rfl, hZ, hh⟩ := hP
  have hx := Bd.exec
  have hby := Bd.bytes
  have hml : c.maxLocals = 1 := hml0
  have hown : s.vm.findClass "com/example/tempered_tableau/temperedtableau/reasoner/tableau/Dependencies" = some m.cls := findClass_of_methodNamed Bd.named
  have hnm := (name_of_methodNamed Bd.named Bd.method).1
  have X0 : Stand p l e ({ frames := 0, cells := 0, slots := 0, locals := 0 } : Room) s m #[(.ref a)] below meth c s₁ [] 0 0 := Stand.of_body Bd
  have e0 : s₁.heap = h0 := by rw [← hh, Bd.state]; rfl
  have N0 := Fr.nil n0
  have K0 : Keep h0 h0 [] := Keep.refl _ _
  have pre0 : ∀ t, Steps p.tables e below (s₁.setTop (mkF m 0 #[.val (.ref a)] [])) t → Steps p.tables e below (s₁.setTop (entryFrame m #[(.ref a)] 1)) t := fun t k => castTop (ef_rm_latest m a) k
  obtain ⟨T1, X1, e1, st1⟩ := getF X0 hx hZ hown (host := "") (Or.inl (w_15 hw)) Via.refl e0 F1 (g := (mkF m 1 #[.val (.ref a)] [(.ref a)])) rfl rfl (hb hby d5_1)
  obtain ⟨fs, hr, hrun, hended, hW, hsame⟩ := X1.leave (v := some (.int v1)) (fun h => by rw [Bd.returns] at h; cases h)
  refine ⟨_, _, pre0 _ ?_, hrun, hended, _, _, rfl, ?_, ⟨_, rfl⟩, hW, hsame.mono (by decide) (by decide)⟩
  · show Steps p.tables e below (s₁.setTop (mkF m 0 #[.val (.ref a)] [])) _
    refine XS.aloadN X0.here hx rfl (hb hby d5_0) rfl rfl ?_
    show Steps p.tables e below (s₁.setTop (mkF m 1 #[.val (.ref a)] [(.ref a)])) _
    refine st1 _ ?_
    show Steps p.tables e below (T1.setTop (mkF m 4 #[.val (.ref a)] [(.int v1)])) _
    exact retI X1 hx Bd.returns (hb hby d5_4) hr
  · show Q_latest Z a v1 h0 n0 _ T1.heap _
    rw [e1]
    exact ⟨rfl, N0, K0⟩
theorem d6_0 : decode prog_10_method_7_code 0 = .ok (.aload_n 0, 1) := by decide +kernel
theorem d6_1 : decode prog_10_method_7_code 1 = .ok (.astore_n 2, 1) := by decide +kernel
theorem d6_2 : decode prog_10_method_7_code 2 = .ok (.aload_n 2, 1) := by decide +kernel
theorem d6_3 : decode prog_10_method_7_code 3 = .ok (.getstatic 17, 3) := by decide +kernel
theorem d6_6 : decode prog_10_method_7_code 6 = .ok (.if_acmp .eq 19, 3) := by decide +kernel
theorem d6_9 : decode prog_10_method_7_code 9 = .ok (.aload_n 2, 1) := by decide +kernel
theorem d6_10 : decode prog_10_method_7_code 10 = .ok (.getfield 7, 3) := by decide +kernel
theorem d6_13 : decode prog_10_method_7_code 13 = .ok (.iload_n 1, 1) := by decide +kernel
theorem d6_14 : decode prog_10_method_7_code 14 = .ok (.if_icmp .lt 11, 3) := by decide +kernel
theorem d6_17 : decode prog_10_method_7_code 17 = .ok (.aload_n 2, 1) := by decide +kernel
theorem d6_18 : decode prog_10_method_7_code 18 = .ok (.getfield 13, 3) := by decide +kernel
theorem d6_21 : decode prog_10_method_7_code 21 = .ok (.astore_n 2, 1) := by decide +kernel
theorem d6_22 : decode prog_10_method_7_code 22 = .ok (.goto (-20), 3) := by decide +kernel
theorem d6_25 : decode prog_10_method_7_code 25 = .ok (.aload_n 2, 1) := by decide +kernel
theorem d6_26 : decode prog_10_method_7_code 26 = .ok (.areturn, 1) := by decide +kernel
def Q_beforeE (Z : State) (a : Addr) (q : Int32) (w : Addr) (v1 : Int32) (h0 : Heap) (n0 : Nat) (v : Option Value) (h : Heap) (L : List Loc) : Prop := v = some (.ref w) ∧ Fr n0 L ∧ Keep h0 h []
theorem ef_rm_beforeE (m : MethodId) (x0 : Addr) (x1 : Int32) : entryFrame m #[(.ref x0), (.int x1)] 3 = mkF m 0 #[.val (.ref x0), .val (.int x1), .unset] [] := by first | (simp [entryFrame, mkF, argsToLocals, Value.category]; done) | rfl
set_option maxRecDepth 65536 in
set_option maxHeartbeats 40000000 in
theorem rm_beforeE (l : Launch) (Z : State) (a0 : Array Value) (hw : ∀ d ∈ tables_1, d.before a0 Z = true) (ws : List Jvm.Cond) (a : Addr) (q : Int32) (w : Addr) (v1 : Int32) (h0 : Heap) (n0 : Nat) (O0 : Old Z n0 h0) (S_NONE : Sta Z Z.heap "com/example/tempered_tableau/temperedtableau/reasoner/tableau/Dependencies" "NONE" "Lcom/example/tempered_tableau/temperedtableau/reasoner/tableau/Dependencies;" (.ref w)) (F1 : Fld Z h0 a "com/example/tempered_tableau/temperedtableau/reasoner/tableau/Dependencies" "latest" "I" (.int v1)) (F2 : Fld Z h0 a "com/example/tempered_tableau/temperedtableau/reasoner/tableau/Dependencies" "earlier" "Lcom/example/tempered_tableau/temperedtableau/reasoner/tableau/Dependencies;" (.ref w)) (ne_aw : a ≠ w) (hge : ¬ (v1 < q)) :
    MetFree l (⟨"com/example/tempered_tableau/temperedtableau/reasoner/tableau/Dependencies", "before", "(I)Lcom/example/tempered_tableau/temperedtableau/reasoner/tableau/Dependencies;"⟩ : MethodName) (head1 (Jvm.Cond.code (⟨"com/example/tempered_tableau/temperedtableau/reasoner/tableau/Dependencies", "before", "(I)Lcom/example/tempered_tableau/temperedtableau/reasoner/tableau/Dependencies;"⟩ : MethodName) prog_10_method_7_code 3 (some (.object "com/example/tempered_tableau/temperedtableau/reasoner/tableau/Dependencies")) :: ws) ({ frames := 0, cells := 0, slots := 0, locals := 0 } : Room)) (fun as' U => as' = #[(.ref a), (.int q)] ∧ Z.Warmed39 U.vm ∧ U.heap = h0) (fun _ _ _ _ _ => True) (fun _ U o U' => ∃ v L, o = .returned v ∧ Q_beforeE Z a q w v1 h0 n0 v U'.heap L ∧ FrameEnd U o U' L ({ frames := 0, cells := 0, slots := 0, locals := 0 } : Room).cells ({ frames := 0, cells := 0, slots := 0, locals := 0 } : Room).slots) := by
  refine MetFree.of_bodySF (plainFor_of_name pn_com_example_tempered_tableau_temperedtableau_reasoner_tableau_Dependencies) hisR ?_
  intro p e s m args below meth c s₁ Bd hml0 hP hK
  obtain ⟨rfl, hZ, hh⟩ := hP
  have hx := Bd.exec
  have hby := Bd.bytes
  have hml : c.maxLocals = 3 := hml0
  have hown : s.vm.findClass "com/example/tempered_tableau/temperedtableau/reasoner/tableau/Dependencies" = some m.cls := findClass_of_methodNamed Bd.named
  have hnm := (name_of_methodNamed Bd.named Bd.method).1
  have X0 : Stand p l e ({ frames := 0, cells := 0, slots := 0, locals := 0 } : Room) s m #[(.ref a), (.int q)] below meth c s₁ [] 0 0 := Stand.of_body Bd
  have e0 : s₁.heap = h0 := by rw [← hh, Bd.state]; rfl
  have N0 := Fr.nil n0
  have K0 : Keep h0 h0 [] := Keep.refl _ _
  have pre0 : ∀ t, Steps p.tables e below (s₁.setTop (mkF m 0 #[.val (.ref a), .val (.int q), .unset] [])) t → Steps p.tables e below (s₁.setTop (entryFrame m #[(.ref a), (.int q)] 3)) t := fun t k => castTop (ef_rm_beforeE m a q) k
  obtain ⟨T3, X3, e3, st3⟩ := getS2 X0 hx hZ hown (host := "") (Or.inl (w_7 hw)) Via.refl e0 (S_NONE.ext O0.2) (g := (mkF m 3 #[.val (.ref a), .val (.int q), .val (.ref a)] [(.ref a)])) rfl (hb hby d6_3)
  obtain ⟨T10, X10, e10, st10⟩ := getF X3 hx hZ hown (host := "") (Or.inl (w_15 hw)) Via.refl e3 F1 (g := (mkF m 10 #[.val (.ref a), .val (.int q), .val (.ref a)] [(.ref a)])) rfl rfl (hb hby d6_10)
  obtain ⟨T18, X18, e18, st18⟩ := getF X10 hx hZ hown (host := "") (Or.inl (w_17 hw)) Via.refl e10 F2 (g := (mkF m 18 #[.val (.ref a), .val (.int q), .val (.ref a)] [(.ref a)])) rfl rfl (hb hby d6_18)
  obtain ⟨T3_2, X3_2, e3_2, st3_2⟩ := getS2 X18 hx hZ hown (host := "") (Or.inl (w_7 hw)) Via.refl e18 (S_NONE.ext O0.2) (g := (mkF m 3 #[.val (.ref a), .val (.int q), .val (.ref w)] [(.ref w)])) rfl (hb hby d6_3)
  obtain ⟨fs, hr, hrun, hended, hW, hsame⟩ := X3_2.leave (v := some (.ref w)) (fun h => by rw [Bd.returns] at h; cases h)
  refine ⟨_, _, pre0 _ ?_, hrun, hended, _, _, rfl, ?_, ⟨_, rfl⟩, hW, hsame.mono (by decide) (by decide)⟩
  · show Steps p.tables e below (s₁.setTop (mkF m 0 #[.val (.ref a), .val (.int q), .unset] [])) _
    refine XS.aloadN X0.here hx rfl (hb hby d6_0) rfl rfl ?_
    show Steps p.tables e below (s₁.setTop (mkF m 1 #[.val (.ref a), .val (.int q), .unset] [(.ref a)])) _
    refine XS.astoreN X0.here hx rfl (hb hby d6_1) rfl rfl (l' := #[.val (.ref a), .val (.int q), .val (.ref a)]) rfl ?_
    show Steps p.tables e below (s₁.setTop (mkF m 2 #[.val (.ref a), .val (.int q), .val (.ref a)] [])) _
    refine XS.aloadN X0.here hx rfl (hb hby d6_2) rfl rfl ?_
    show Steps p.tables e below (s₁.setTop (mkF m 3 #[.val (.ref a), .val (.int q), .val (.ref a)] [(.ref a)])) _
    refine st3 _ ?_
    show Steps p.tables e below (T3.setTop (mkF m 6 #[.val (.ref a), .val (.int q), .val (.ref a)] [(.ref w), (.ref a)])) _
    refine Jvm.RoadKit.acmp (g := (mkF m 6 #[.val (.ref a), .val (.int q), .val (.ref a)] [(.ref w), (.ref a)])) X3 hx rfl rfl rfl (pc0 := 6) (pc' := 9) (same := false) rfl (hb hby d6_6) rfl (decide_eq_false fun q => ne_aw (Value.ref.inj q)) (by decide) (by decide) ?_
    show Steps p.tables e below (T3.setTop (mkF m 9 #[.val (.ref a), .val (.int q), .val (.ref a)] [])) _
    refine XS.aloadN X3.here hx rfl (hb hby d6_9) rfl rfl ?_
    show Steps p.tables e below (T3.setTop (mkF m 10 #[.val (.ref a), .val (.int q), .val (.ref a)] [(.ref a)])) _
    refine st10 _ ?_
    show Steps p.tables e below (T10.setTop (mkF m 13 #[.val (.ref a), .val (.int q), .val (.ref a)] [(.int v1)])) _
    refine XS.iloadN X10.here hx rfl (hb hby d6_13) rfl ?_
    show Steps p.tables e below (T10.setTop (mkF m 14 #[.val (.ref a), .val (.int q), .val (.ref a)] [(.int q), (.int v1)])) _
    refine XS.icmpNo X10.here hx rfl (hb hby d6_14) rfl (flt hge).1 ?_
    show Steps p.tables e below (T10.setTop (mkF m 17 #[.val (.ref a), .val (.int q), .val (.ref a)] [])) _
    refine XS.aloadN X10.here hx rfl (hb hby d6_17) rfl rfl ?_
    show Steps p.tables e below (T10.setTop (mkF m 18 #[.val (.ref a), .val (.int q), .val (.ref a)] [(.ref a)])) _
    refine st18 _ ?_
    show Steps p.tables e below (T18.setTop (mkF m 21 #[.val (.ref a), .val (.int q), .val (.ref a)] [(.ref w)])) _
    refine XS.astoreN X18.here hx rfl (hb hby d6_21) rfl rfl (l' := #[.val (.ref a), .val (.int q), .val (.ref w)]) rfl ?_
    show Steps p.tables e below (T18.setTop (mkF m 22 #[.val (.ref a), .val (.int q), .val (.ref w)] [])) _
    refine XS.goto X18.here hx rfl (pc0 := 22) (pc' := 2) rfl (hb hby d6_22) (by decide) (by decide) ?_
    show Steps p.tables e below (T18.setTop (mkF m 2 #[.val (.ref a), .val (.int q), .val (.ref w)] [])) _
    refine XS.aloadN X18.here hx rfl (hb hby d6_2) rfl rfl ?_
    show Steps p.tables e below (T18.setTop (mkF m 3 #[.val (.ref a), .val (.int q), .val (.ref w)] [(.ref w)])) _
    refine st3_2 _ ?_
    show Steps p.tables e below (T3_2.setTop (mkF m 6 #[.val (.ref a), .val (.int q), .val (.ref w)] [(.ref w), (.ref w)])) _
    refine Jvm.RoadKit.acmp (g := (mkF m 6 #[.val (.ref a), .val (.int q), .val (.ref w)] [(.ref w), (.ref w)])) X3_2 hx rfl rfl rfl (pc0 := 6) (pc' := 25) (same := true) rfl (hb hby d6_6) rfl (decide_eq_true rfl) (by decide) (by decide) ?_
    show Steps p.tables e below (T3_2.setTop (mkF m 25 #[.val (.ref a), .val (.int q), .val (.ref w)] [])) _
    refine XS.aloadN X3_2.here hx rfl (hb hby d6_25) rfl rfl ?_
    show Steps p.tables e below (T3_2.setTop (mkF m 26 #[.val (.ref a), .val (.int q), .val (.ref w)] [(.ref w)])) _
    jvm_step X3_2.here [X3_2.here.top, hx, (hb hby d6_26), X3_2.method', Bd.returns, Value.isRef, FieldType.isReference]
    first | (intro acts; rw [hr _ acts rfl rfl rfl]) | rw [hr _ _ rfl rfl rfl]
    exact Steps.refl _
  · show Q_beforeE Z a q w v1 h0 n0 _ T3_2.heap _
    rw [e3_2]
    exact ⟨rfl, N0, K0⟩
def Q_beforeS (Z : State) (a : Addr) (q : Int32) (w : Addr) (v1 : Int32) (h0 : Heap) (n0 : Nat) (v : Option Value) (h : Heap) (L : List Loc) : Prop := v = some (.ref a) ∧ Fr n0 L ∧ Keep h0 h []
theorem ef_rm_beforeS (m : MethodId) (x0 : Addr) (x1 : Int32) : entryFrame m #[(.ref x0), (.int x1)] 3 = mkF m 0 #[.val (.ref x0), .val (.int x1), .unset] [] := by first | (simp [entryFrame, mkF, argsToLocals, Value.category]; done) | rfl
set_option maxRecDepth 65536 in
set_option maxHeartbeats 40000000 in
theorem rm_beforeS (l : Launch) (Z : State) (a0 : Array Value) (hw : ∀ d ∈ tables_1, d.before a0 Z = true) (ws : List Jvm.Cond) (a : Addr) (q : Int32) (w : Addr) (v1 : Int32) (h0 : Heap) (n0 : Nat) (O0 : Old Z n0 h0) (S_NONE : Sta Z Z.heap "com/example/tempered_tableau/temperedtableau/reasoner/tableau/Dependencies" "NONE" "Lcom/example/tempered_tableau/temperedtableau/reasoner/tableau/Dependencies;" (.ref w)) (F1 : Fld Z h0 a "com/example/tempered_tableau/temperedtableau/reasoner/tableau/Dependencies" "latest" "I" (.int v1)) (ne_aw : a ≠ w) (hlt : v1 < q) :
    MetFree l (⟨"com/example/tempered_tableau/temperedtableau/reasoner/tableau/Dependencies", "before", "(I)Lcom/example/tempered_tableau/temperedtableau/reasoner/tableau/Dependencies;"⟩ : MethodName) (head1 (Jvm.Cond.code (⟨"com/example/tempered_tableau/temperedtableau/reasoner/tableau/Dependencies", "before", "(I)Lcom/example/tempered_tableau/temperedtableau/reasoner/tableau/Dependencies;"⟩ : MethodName) prog_10_method_7_code 3 (some (.object "com/example/tempered_tableau/temperedtableau/reasoner/tableau/Dependencies")) :: ws) ({ frames := 0, cells := 0, slots := 0, locals := 0 } : Room)) (fun as' U => as' = #[(.ref a), (.int q)] ∧ Z.Warmed39 U.vm ∧ U.heap = h0) (fun _ _ _ _ _ => True) (fun _ U o U' => ∃ v L, o = .returned v ∧ Q_beforeS Z a q w v1 h0 n0 v U'.heap L ∧ FrameEnd U o U' L ({ frames := 0, cells := 0, slots := 0, locals := 0 } : Room).cells ({ frames := 0, cells := 0, slots := 0, locals := 0 } : Room).slots) := by
  refine MetFree.of_bodySF (plainFor_of_name pn_com_example_tempered_tableau_temperedtableau_reasoner_tableau_Dependencies) hisR ?_
  intro p e s m args below meth c s₁ Bd hml0 hP hK
  obtain ⟨rfl, hZ, hh⟩ := hP
  have hx := Bd.exec
  have hby := Bd.bytes
  have hml : c.maxLocals = 3 := hml0
  have hown : s.vm.findClass "com/example/tempered_tableau/temperedtableau/reasoner/tableau/Dependencies" = some m.cls := findClass_of_methodNamed Bd.named
  have hnm := (name_of_methodNamed Bd.named Bd.method).1
  have X0 : Stand p l e ({ frames := 0, cells := 0, slots := 0, locals := 0 } : Room) s m #[(.ref a), (.int q)] below meth c s₁ [] 0 0 := Stand.of_body Bd
  have e0 : s₁.heap = h0 := by rw [← hh, Bd.state]; rfl
  have N0 := Fr.nil n0
  have K0 : Keep h0 h0 [] := Keep.refl _ _
  have pre0 : ∀ t, Steps p.tables e below (s₁.setTop (mkF m 0 #[.val (.ref a), .val (.int q), .unset] [])) t → Steps p.tables e below (s₁.setTop (entryFrame m #[(.ref a), (.int q)] 3)) t := fun t k => castTop (ef_rm_beforeS m a q) k
  obtain ⟨T3, X3, e3, st3⟩ := getS2 X0 hx hZ hown (host := "") (Or.inl (w_7 hw)) Via.refl e0 (S_NONE.ext O0.2) (g := (mkF m 3 #[.val (.ref a), .val (.int q), .val (.ref a)] [(.ref a)])) rfl (hb hby d6_3)
  obtain ⟨T10, X10, e10, st10⟩ := getF X3 hx hZ hown (host := "") (Or.inl (w_15 hw)) Via.refl e3 F1 (g := (mkF m 10 #[.val (.ref a), .val (.int q), .val (.ref a)] [(.ref a)])) rfl rfl (hb hby d6_10)
  obtain ⟨fs, hr, hrun, hended, hW, hsame⟩ := X10.leave (v := some (.ref a)) (fun h => by rw [Bd.returns] at h; cases h)
  refine ⟨_, _, pre0 _ ?_, hrun, hended, _, _, rfl, ?_, ⟨_, rfl⟩, hW, hsame.mono (by decide) (by decide)⟩
  · show Steps p.tables e below (s₁.setTop (mkF m 0 #[.val (.ref a), .val (.int q), .unset] [])) _
    refine XS.aloadN X0.here hx rfl (hb hby d6_0) rfl rfl ?_
    show Steps p.tables e below (s₁.setTop (mkF m 1 #[.val (.ref a), .val (.int q), .unset] [(.ref a)])) _
    refine XS.astoreN X0.here hx rfl (hb hby d6_1) rfl rfl (l' := #[.val (.ref a), .val (.int q), .val (.ref a)]) rfl ?_
    show Steps p.tables e below (s₁.setTop (mkF m 2 #[.val (.ref a), .val (.int q), .val (.ref a)] [])) _
    refine XS.aloadN X0.here hx rfl (hb hby d6_2) rfl rfl ?_
    show Steps p.tables e below (s₁.setTop (mkF m 3 #[.val (.ref a), .val (.int q), .val (.ref a)] [(.ref a)])) _
    refine st3 _ ?_
    show Steps p.tables e below (T3.setTop (mkF m 6 #[.val (.ref a), .val (.int q), .val (.ref a)] [(.ref w), (.ref a)])) _
    refine Jvm.RoadKit.acmp (g := (mkF m 6 #[.val (.ref a), .val (.int q), .val (.ref a)] [(.ref w), (.ref a)])) X3 hx rfl rfl rfl (pc0 := 6) (pc' := 9) (same := false) rfl (hb hby d6_6) rfl (decide_eq_false fun q => ne_aw (Value.ref.inj q)) (by decide) (by decide) ?_
    show Steps p.tables e below (T3.setTop (mkF m 9 #[.val (.ref a), .val (.int q), .val (.ref a)] [])) _
    refine XS.aloadN X3.here hx rfl (hb hby d6_9) rfl rfl ?_
    show Steps p.tables e below (T3.setTop (mkF m 10 #[.val (.ref a), .val (.int q), .val (.ref a)] [(.ref a)])) _
    refine st10 _ ?_
    show Steps p.tables e below (T10.setTop (mkF m 13 #[.val (.ref a), .val (.int q), .val (.ref a)] [(.int v1)])) _
    refine XS.iloadN X10.here hx rfl (hb hby d6_13) rfl ?_
    show Steps p.tables e below (T10.setTop (mkF m 14 #[.val (.ref a), .val (.int q), .val (.ref a)] [(.int q), (.int v1)])) _
    refine XS.icmpYes X10.here hx rfl (pc0 := 14) (pc' := 25) rfl (hb hby d6_14) rfl (tlt hlt).1 (by decide) (by decide) ?_
    show Steps p.tables e below (T10.setTop (mkF m 25 #[.val (.ref a), .val (.int q), .val (.ref a)] [])) _
    refine XS.aloadN X10.here hx rfl (hb hby d6_25) rfl rfl ?_
    show Steps p.tables e below (T10.setTop (mkF m 26 #[.val (.ref a), .val (.int q), .val (.ref a)] [(.ref a)])) _
    jvm_step X10.here [X10.here.top, hx, (hb hby d6_26), X10.method', Bd.returns, Value.isRef, FieldType.isReference]
    first | (intro acts; rw [hr _ acts rfl rfl rfl]) | rw [hr _ _ rfl rfl rfl]
    exact Steps.refl _
  · show Q_beforeS Z a q w v1 h0 n0 _ T10.heap _
    rw [e10]
    exact ⟨rfl, N0, K0⟩
theorem pd_1 : parseMethodDescriptor "(I)Lcom/example/tempered_tableau/temperedtableau/reasoner/tableau/Dependencies;" = some ⟨[.int], some (.object "com/example/tempered_tableau/temperedtableau/reasoner/tableau/Dependencies")⟩ := by decide +kernel
theorem pd_2 : parseMethodDescriptor "()Z" = some ⟨[], some .boolean⟩ := by decide +kernel
theorem pd_3 : parseMethodDescriptor "()I" = some ⟨[], some .int⟩ := by decide +kernel
def Q_law (Z : State) (p1 : Int32) (p2 : Int32) (w : Addr) (h0 : Heap) (n0 : Nat) (v : Option Value) (h : Heap) (L : List Loc) : Prop := v = some (.int (1 : Int32)) ∧ Fr n0 L ∧ Keep h0 h []
theorem pn_com_example_tempered_tableau_temperedtableau_reasoner_tableau_DependenciesOfPinLaw : plainName "com/example/tempered_tableau/temperedtableau/reasoner/tableau/DependenciesOfPinLaw" = true := by first | (simp [plainName, overriddenIn]; done) | decide +kernel
theorem ef_rm_law_ge (m : MethodId) (x0 : Int32) (x1 : Int32) : entryFrame m #[(.int x0), (.int x1)] maxLocals = mkF m 0 #[.val (.int x0), .val (.int x1), .unset, .unset, .unset, .unset] [] := by first | (simp [entryFrame, mkF, argsToLocals, Value.category, maxLocals]; done) | rfl
set_option maxRecDepth 65536 in
set_option maxHeartbeats 40000000 in
theorem rm_law_ge (l : Launch) (Z : State) (a0 : Array Value) (hw : ∀ d ∈ tables_1, d.before a0 Z = true) (ws : List Jvm.Cond) (p1 : Int32) (p2 : Int32) (w : Addr) (h0 : Heap) (n0 : Nat) (O0 : Old Z n0 h0) (S_NONE : Sta Z Z.heap "com/example/tempered_tableau/temperedtableau/reasoner/tableau/Dependencies" "NONE" "Lcom/example/tempered_tableau/temperedtableau/reasoner/tableau/Dependencies;" (.ref w)) (E_w : Exa Z Z.heap w "com/example/tempered_tableau/temperedtableau/reasoner/tableau/Dependencies") (hc38 : ¬ ((p1 &&& (2147483647 : Int32)) < p2)) :
    MetFree l x (head1 (Jvm.Cond.code x code maxLocals ret :: ws) room_1) (fun as' U => as' = #[(.int p1), (.int p2)] ∧ Z.Warmed39 U.vm ∧ U.heap = h0) (fun _ _ _ _ _ => True) (fun _ U o U' => ∃ v L, o = .returned v ∧ Q_law Z p1 p2 w h0 n0 v U'.heap L ∧ FrameEnd U o U' L room_1.cells room_1.slots) := by
  refine MetFree.of_bodySF (plainFor_of_name pn_com_example_tempered_tableau_temperedtableau_reasoner_tableau_DependenciesOfPinLaw) hisR ?_
  intro p e s m args below meth c s₁ Bd hml0 hP hK
  obtain ⟨rfl, hZ, hh⟩ := hP
  have hx := Bd.exec
  have hby := Bd.bytes
  have hml : c.maxLocals = 6 := hml0
  have hown : s.vm.findClass "com/example/tempered_tableau/temperedtableau/reasoner/tableau/DependenciesOfPinLaw" = some m.cls := findClass_of_methodNamed Bd.named
  have hnm := (name_of_methodNamed Bd.named Bd.method).1
  have X0 : Stand p l e room_1 s m #[(.int p1), (.int p2)] below meth c s₁ [] 0 0 := Stand.of_body Bd
  have e0 : s₁.heap = h0 := by rw [← hh, Bd.state]; rfl
  have N0 := Fr.nil n0
  have K0 : Keep h0 h0 [] := Keep.refl _ _
  have pre0 : ∀ t, Steps p.tables e below (s₁.setTop (mkF m 0 #[.val (.int p1), .val (.int p2), .unset, .unset, .unset, .unset] [])) t → Steps p.tables e below (s₁.setTop (entryFrame m #[(.int p1), (.int p2)] maxLocals)) t := fun t k => castTop (ef_rm_law_ge m p1 p2) k
  obtain ⟨_, _, ⟨T6, Lo6, kk6, nn6⟩, -, X6, ⟨Lc6, hQ6, ll6, yy6, zz6⟩, st6⟩ := Jvm.LawKit.callS X0 hx (y := (⟨"com/example/tempered_tableau/temperedtableau/reasoner/tableau/Dependencies", "of", "(I)Lcom/example/tempered_tableau/temperedtableau/reasoner/tableau/Dependencies;"⟩ : MethodName)) hown (mvT hZ (w_1 hw)) (mvT hZ (w_2 hw)) (mvT hZ (w_3 hw)) (mvT hZ (w_4 hw)) (by decide) (backOf (W := 0) (rm_of l Z a0 hw [] ((p1 &&& (2147483647 : Int32))) w h0 n0 O0 S_NONE) hZ (w_4 hw) (w_3 hw) (by decide) (by decide)) (g := (mkF m 6 #[.val (.int p1), .val (.int p2), .val (.int (p1 &&& (2147483647 : Int32))), .unset, .unset, .unset] [(.int (p1 &&& (2147483647 : Int32)))])) rfl (by rw [hml]; rfl) (argsL := [(.int (p1 &&& (2147483647 : Int32)))]) (rest := []) (lenOf pd_1 rfl) rfl (by show 2 * 0 + _ ≤ _; exact Nat.le_of_eq rfl) (hb hby at_6) (fun _ _ => ⟨rfl, e0, (by decide : 0 + 1 ≤ _), (by decide : 0 + 2 ≤ _)⟩)
  dsimp only [Pt.U, Pt.locs, Pt.cells, Pt.slots] at X6 ll6 yy6 zz6 st6 hQ6
  subst ll6 yy6 zz6
  obtain ⟨b6, rfl, N6q, K6q, p6_0, p6_1, p6_2, p6_3⟩ := hQ6
  have N6 := Fr.app N0 N6q
  have f1 : Keep h0 T6.heap [] := K0.trans K6q all0
  have f2 : Old Z n0 T6.heap := O0.keep K6q all0
  have f3 : n0 ≤ b6 := Nat.le_trans (own_old_le O0) p6_0
  obtain ⟨cq11, kq11, q11a, q11b, q11c⟩ := isOf hZ rfl p6_1
  obtain ⟨_, _, ⟨T11, Lo11, kk11, nn11⟩, -, X11, ⟨Lc11, hQ11, ll11, yy11, zz11⟩, st11⟩ := X6.virtualBack hx (y := (⟨"com/example/tempered_tableau/temperedtableau/reasoner/tableau/Dependencies", "isEmpty", "()Z"⟩ : MethodName)) (z := (⟨"com/example/tempered_tableau/temperedtableau/reasoner/tableau/Dependencies", "isEmpty", "()Z"⟩ : MethodName)) hown (mvT hZ (w_19 hw)) (mvT hZ (w_20 hw)) (notFace_of_selects (args := #[]) (mvT hZ (w_22 hw))) (mvT hZ (w_22 hw)) (mvT hZ (w_21 hw)) (by decide) (backOf (W := 0) (rm_emptyN l Z a0 hw [] b6 w T6.heap n0 f2 S_NONE (Ne.symm (O0.ne E_w.lt f3))) hZ (w_23 hw) (w_3 hw) (by decide) (by decide)) q11a q11c (g := (mkF m 11 #[.val (.int p1), .val (.int p2), .val (.int (p1 &&& (2147483647 : Int32))), .val (.ref b6), .unset, .unset] [(.ref b6)])) rfl (by rw [hml]; rfl) (Steps.refl _) (argsL := []) (rest := []) (lenOf pd_2 rfl) rfl (by show 2 * 0 + _ ≤ _; exact Nat.le_of_eq rfl) (hb hby at_11) (fun _ _ => ⟨rfl, rfl, (by decide : 1 + 0 ≤ _), (by decide : 2 + 0 ≤ _)⟩)
  dsimp only [Pt.U, Pt.locs, Pt.cells, Pt.slots] at X11 ll11 yy11 zz11 st11 hQ11
  subst ll11 yy11 zz11
  obtain ⟨rfl, N11q, K11q⟩ := hQ11
  have N11 := Fr.app N6 N11q
  have f4 : Keep h0 T11.heap [] := f1.trans K11q all0
  have f5 : Old Z n0 T11.heap := f2.keep K11q all0
  have f6 : Fld Z T11.heap b6 "com/example/tempered_tableau/temperedtableau/reasoner/tableau/Dependencies" "latest" "I" (.int (p1 &&& (2147483647 : Int32))) := p6_2.keep K11q nin0
  have f7 : Exa Z T11.heap b6 "com/example/tempered_tableau/temperedtableau/reasoner/tableau/Dependencies" := p6_1.keep K11q
  obtain ⟨cq20, kq20, q20a, q20b, q20c⟩ := isOf hZ rfl f7
  obtain ⟨_, _, ⟨T20, Lo20, kk20, nn20⟩, -, X20, ⟨Lc20, hQ20, ll20, yy20, zz20⟩, st20⟩ := X11.virtualBack hx (y := (⟨"com/example/tempered_tableau/temperedtableau/reasoner/tableau/Dependencies", "latest", "()I"⟩ : MethodName)) (z := (⟨"com/example/tempered_tableau/temperedtableau/reasoner/tableau/Dependencies", "latest", "()I"⟩ : MethodName)) hown (mvT hZ (w_24 hw)) (mvT hZ (w_25 hw)) (notFace_of_selects (args := #[]) (mvT hZ (w_27 hw))) (mvT hZ (w_27 hw)) (mvT hZ (w_26 hw)) (by decide) (backOf (W := 0) (rm_latest l Z a0 hw [] b6 ((p1 &&& (2147483647 : Int32))) T11.heap n0 f5 f6) hZ (w_28 hw) (w_3 hw) (by decide) (by decide)) q20a q20c (g := (mkF m 20 #[.val (.int p1), .val (.int p2), .val (.int (p1 &&& (2147483647 : Int32))), .val (.ref b6), .unset, .unset] [(.ref b6)])) rfl (by rw [hml]; rfl) (Steps.refl _) (argsL := []) (rest := []) (lenOf pd_3 rfl) rfl (by show 2 * 0 + _ ≤ _; exact Nat.le_of_eq rfl) (hb hby at_20) (fun _ _ => ⟨rfl, rfl, (by decide : 1 + 0 ≤ _), (by decide : 2 + 0 ≤ _)⟩)
  dsimp only [Pt.U, Pt.locs, Pt.cells, Pt.slots] at X20 ll20 yy20 zz20 st20 hQ20
  subst ll20 yy20 zz20
  obtain ⟨rfl, N20q, K20q⟩ := hQ20
  have N20 := Fr.app N11 N20q
  have f8 : Keep h0 T20.heap [] := f4.trans K20q all0
  have f9 : Old Z n0 T20.heap := f5.keep K20q all0
  have f10 : Fld Z T20.heap b6 "com/example/tempered_tableau/temperedtableau/reasoner/tableau/Dependencies" "latest" "I" (.int (p1 &&& (2147483647 : Int32))) := f6.keep K20q nin0
  have f11 : Fld Z T11.heap b6 "com/example/tempered_tableau/temperedtableau/reasoner/tableau/Dependencies" "earlier" "Lcom/example/tempered_tableau/temperedtableau/reasoner/tableau/Dependencies;" (.ref w) := p6_3.keep K11q nin0
  have f12 : Fld Z T20.heap b6 "com/example/tempered_tableau/temperedtableau/reasoner/tableau/Dependencies" "earlier" "Lcom/example/tempered_tableau/temperedtableau/reasoner/tableau/Dependencies;" (.ref w) := f11.keep K20q nin0
  have f13 : Exa Z T20.heap b6 "com/example/tempered_tableau/temperedtableau/reasoner/tableau/Dependencies" := f7.keep K20q
  obtain ⟨cq31, kq31, q31a, q31b, q31c⟩ := isOf hZ rfl f13
  obtain ⟨_, _, ⟨T31, Lo31, kk31, nn31⟩, -, X31, ⟨Lc31, hQ31, ll31, yy31, zz31⟩, st31⟩ := X20.virtualBack hx (y := (⟨"com/example/tempered_tableau/temperedtableau/reasoner/tableau/Dependencies", "before", "(I)Lcom/example/tempered_tableau/temperedtableau/reasoner/tableau/Dependencies;"⟩ : MethodName)) (z := (⟨"com/example/tempered_tableau/temperedtableau/reasoner/tableau/Dependencies", "before", "(I)Lcom/example/tempered_tableau/temperedtableau/reasoner/tableau/Dependencies;"⟩ : MethodName)) hown (mvT hZ (w_29 hw)) (mvT hZ (w_30 hw)) (notFace_of_selects (args := #[]) (mvT hZ (w_32 hw))) (mvT hZ (w_32 hw)) (mvT hZ (w_31 hw)) (by decide) (backOf (W := 0) (rm_beforeE l Z a0 hw [] b6 p2 w ((p1 &&& (2147483647 : Int32))) T20.heap n0 f9 S_NONE f10 f12 (Ne.symm (O0.ne E_w.lt f3)) hc38) hZ (w_33 hw) (w_3 hw) (by decide) (by decide)) q31a q31c (g := (mkF m 31 #[.val (.int p1), .val (.int p2), .val (.int (p1 &&& (2147483647 : Int32))), .val (.ref b6), .unset, .unset] [(.int p2), (.ref b6)])) rfl (by rw [hml]; rfl) (Steps.refl _) (argsL := [(.int p2)]) (rest := []) (lenOf pd_1 rfl) rfl (by show 2 * 0 + _ ≤ _; exact Nat.le_of_eq rfl) (hb hby at_31) (fun _ _ => ⟨rfl, rfl, (by decide : 1 + 0 ≤ _), (by decide : 2 + 0 ≤ _)⟩)
  dsimp only [Pt.U, Pt.locs, Pt.cells, Pt.slots] at X31 ll31 yy31 zz31 st31 hQ31
  subst ll31 yy31 zz31
  obtain ⟨rfl, N31q, K31q⟩ := hQ31
  have N31 := Fr.app N20 N31q
  have f14 : Keep h0 T31.heap [] := f8.trans K31q all0
  have f15 : Old Z n0 T31.heap := f9.keep K31q all0
  obtain ⟨cq43, kq43, q43a, q43b, q43c⟩ := isOf hZ rfl (E_w.ext f15.2)
  obtain ⟨_, _, ⟨T43, Lo43, kk43, nn43⟩, -, X43, ⟨Lc43, hQ43, ll43, yy43, zz43⟩, st43⟩ := X31.virtualBack hx (y := (⟨"com/example/tempered_tableau/temperedtableau/reasoner/tableau/Dependencies", "isEmpty", "()Z"⟩ : MethodName)) (z := (⟨"com/example/tempered_tableau/temperedtableau/reasoner/tableau/Dependencies", "isEmpty", "()Z"⟩ : MethodName)) hown (mvT hZ (w_19 hw)) (mvT hZ (w_20 hw)) (notFace_of_selects (args := #[]) (mvT hZ (w_22 hw))) (mvT hZ (w_22 hw)) (mvT hZ (w_21 hw)) (by decide) (backOf (W := 0) (rm_emptyY l Z a0 hw [] w T31.heap n0 f15 S_NONE) hZ (w_23 hw) (w_3 hw) (by decide) (by decide)) q43a q43c (g := (mkF m 43 #[.val (.int p1), .val (.int p2), .val (.int (p1 &&& (2147483647 : Int32))), .val (.ref b6), .val (.ref w), .unset] [(.ref w)])) rfl (by rw [hml]; rfl) (Steps.refl _) (argsL := []) (rest := []) (lenOf pd_2 rfl) rfl (by show 2 * 0 + _ ≤ _; exact Nat.le_of_eq rfl) (hb hby at_43) (fun _ _ => ⟨rfl, rfl, (by decide : 1 + 0 ≤ _), (by decide : 2 + 0 ≤ _)⟩)
  dsimp only [Pt.U, Pt.locs, Pt.cells, Pt.slots] at X43 ll43 yy43 zz43 st43 hQ43
  subst ll43 yy43 zz43
  obtain ⟨rfl, N43q, K43q⟩ := hQ43
  have N43 := Fr.app N31 N43q
  have f16 : Keep h0 T43.heap [] := f14.trans K43q all0
  have f17 : Old Z n0 T43.heap := f15.keep K43q all0
  have f18 : Fld Z T31.heap b6 "com/example/tempered_tableau/temperedtableau/reasoner/tableau/Dependencies" "latest" "I" (.int (p1 &&& (2147483647 : Int32))) := f10.keep K31q nin0
  have f19 : Fld Z T43.heap b6 "com/example/tempered_tableau/temperedtableau/reasoner/tableau/Dependencies" "latest" "I" (.int (p1 &&& (2147483647 : Int32))) := f18.keep K43q nin0
  have f20 : Fld Z T31.heap b6 "com/example/tempered_tableau/temperedtableau/reasoner/tableau/Dependencies" "earlier" "Lcom/example/tempered_tableau/temperedtableau/reasoner/tableau/Dependencies;" (.ref w) := f12.keep K31q nin0
  have f21 : Fld Z T43.heap b6 "com/example/tempered_tableau/temperedtableau/reasoner/tableau/Dependencies" "earlier" "Lcom/example/tempered_tableau/temperedtableau/reasoner/tableau/Dependencies;" (.ref w) := f20.keep K43q nin0
  have f22 : Exa Z T31.heap b6 "com/example/tempered_tableau/temperedtableau/reasoner/tableau/Dependencies" := f13.keep K31q
  have f23 : Exa Z T43.heap b6 "com/example/tempered_tableau/temperedtableau/reasoner/tableau/Dependencies" := f22.keep K43q
  obtain ⟨cq61, kq61, q61a, q61b, q61c⟩ := isOf hZ rfl f23
  obtain ⟨_, _, ⟨T61, Lo61, kk61, nn61⟩, -, X61, ⟨Lc61, hQ61, ll61, yy61, zz61⟩, st61⟩ := X43.virtualBack hx (y := (⟨"com/example/tempered_tableau/temperedtableau/reasoner/tableau/Dependencies", "before", "(I)Lcom/example/tempered_tableau/temperedtableau/reasoner/tableau/Dependencies;"⟩ : MethodName)) (z := (⟨"com/example/tempered_tableau/temperedtableau/reasoner/tableau/Dependencies", "before", "(I)Lcom/example/tempered_tableau/temperedtableau/reasoner/tableau/Dependencies;"⟩ : MethodName)) hown (mvT hZ (w_29 hw)) (mvT hZ (w_30 hw)) (notFace_of_selects (args := #[]) (mvT hZ (w_32 hw))) (mvT hZ (w_32 hw)) (mvT hZ (w_31 hw)) (by decide) (backOf (W := 0) (rm_beforeE l Z a0 hw [] b6 ((p1 &&& (2147483647 : Int32))) w ((p1 &&& (2147483647 : Int32))) T43.heap n0 f17 S_NONE f19 f21 (Ne.symm (O0.ne E_w.lt f3)) Int32.lt_irrefl) hZ (w_33 hw) (w_3 hw) (by decide) (by decide)) q61a q61c (g := (mkF m 61 #[.val (.int p1), .val (.int p2), .val (.int (p1 &&& (2147483647 : Int32))), .val (.ref b6), .val (.ref w), .unset] [(.int (p1 &&& (2147483647 : Int32))), (.ref b6)])) rfl (by rw [hml]; rfl) (Steps.refl _) (argsL := [(.int (p1 &&& (2147483647 : Int32)))]) (rest := []) (lenOf pd_1 rfl) rfl (by show 2 * 0 + _ ≤ _; exact Nat.le_of_eq rfl) (hb hby at_61) (fun _ _ => ⟨rfl, rfl, (by decide : 1 + 0 ≤ _), (by decide : 2 + 0 ≤ _)⟩)
  dsimp only [Pt.U, Pt.locs, Pt.cells, Pt.slots] at X61 ll61 yy61 zz61 st61 hQ61
  subst ll61 yy61 zz61
  obtain ⟨rfl, N61q, K61q⟩ := hQ61
  have N61 := Fr.app N43 N61q
  have f24 : Keep h0 T61.heap [] := f16.trans K61q all0
  have f25 : Old Z n0 T61.heap := f17.keep K61q all0
  obtain ⟨cq68, kq68, q68a, q68b, q68c⟩ := isOf hZ rfl (E_w.ext f25.2)
  obtain ⟨_, _, ⟨T68, Lo68, kk68, nn68⟩, -, X68, ⟨Lc68, hQ68, ll68, yy68, zz68⟩, st68⟩ := X61.virtualBack hx (y := (⟨"com/example/tempered_tableau/temperedtableau/reasoner/tableau/Dependencies", "isEmpty", "()Z"⟩ : MethodName)) (z := (⟨"com/example/tempered_tableau/temperedtableau/reasoner/tableau/Dependencies", "isEmpty", "()Z"⟩ : MethodName)) hown (mvT hZ (w_19 hw)) (mvT hZ (w_20 hw)) (notFace_of_selects (args := #[]) (mvT hZ (w_22 hw))) (mvT hZ (w_22 hw)) (mvT hZ (w_21 hw)) (by decide) (backOf (W := 0) (rm_emptyY l Z a0 hw [] w T61.heap n0 f25 S_NONE) hZ (w_23 hw) (w_3 hw) (by decide) (by decide)) q68a q68c (g := (mkF m 68 #[.val (.int p1), .val (.int p2), .val (.int (p1 &&& (2147483647 : Int32))), .val (.ref b6), .val (.ref w), .val (.ref w)] [(.ref w)])) rfl (by rw [hml]; rfl) (Steps.refl _) (argsL := []) (rest := []) (lenOf pd_2 rfl) rfl (by show 2 * 0 + _ ≤ _; exact Nat.le_of_eq rfl) (hb hby at_68) (fun _ _ => ⟨rfl, rfl, (by decide : 1 + 0 ≤ _), (by decide : 2 + 0 ≤ _)⟩)
  dsimp only [Pt.U, Pt.locs, Pt.cells, Pt.slots] at X68 ll68 yy68 zz68 st68 hQ68
  subst ll68 yy68 zz68
  obtain ⟨rfl, N68q, K68q⟩ := hQ68
  have N68 := Fr.app N61 N68q
  have f26 : Keep h0 T68.heap [] := f24.trans K68q all0
  have f27 : Old Z n0 T68.heap := f25.keep K68q all0
  obtain ⟨fs, hr, hrun, hended, hW, hsame⟩ := X68.leave (v := some (.int (1 : Int32))) (fun h => by rw [Bd.returns] at h; cases h)
  refine ⟨_, _, pre0 _ ?_, hrun, hended, _, _, rfl, ?_, ⟨_, rfl⟩, hW, hsame.mono (by decide) (by decide)⟩
  · show Steps p.tables e below (s₁.setTop (mkF m 0 #[.val (.int p1), .val (.int p2), .unset, .unset, .unset, .unset] [])) _
    refine XS.iloadN X0.here hx rfl (hb hby at_0) rfl ?_
    show Steps p.tables e below (s₁.setTop (mkF m 1 #[.val (.int p1), .val (.int p2), .unset, .unset, .unset, .unset] [(.int p1)])) _
    refine Jvm.Stand.ldcI X0 hx hown (mvT hZ (w_0 hw)) rfl (hb hby at_1) ?_
    show Steps p.tables e below (s₁.setTop (mkF m 3 #[.val (.int p1), .val (.int p2), .unset, .unset, .unset, .unset] [(.int (2147483647 : Int32)), (.int p1)])) _
    refine XS.iand X0.here hx rfl (hb hby at_3) rfl ?_
    show Steps p.tables e below (s₁.setTop (mkF m 4 #[.val (.int p1), .val (.int p2), .unset, .unset, .unset, .unset] [(.int (p1 &&& (2147483647 : Int32)))])) _
    refine XS.istoreN X0.here hx rfl (hb hby at_4) rfl (l' := #[.val (.int p1), .val (.int p2), .val (.int (p1 &&& (2147483647 : Int32))), .unset, .unset, .unset]) rfl ?_
    show Steps p.tables e below (s₁.setTop (mkF m 5 #[.val (.int p1), .val (.int p2), .val (.int (p1 &&& (2147483647 : Int32))), .unset, .unset, .unset] [])) _
    refine XS.iloadN X0.here hx rfl (hb hby at_5) rfl ?_
    show Steps p.tables e below (s₁.setTop (mkF m 6 #[.val (.int p1), .val (.int p2), .val (.int (p1 &&& (2147483647 : Int32))), .unset, .unset, .unset] [(.int (p1 &&& (2147483647 : Int32)))])) _
    refine st6 _ ?_
    show Steps p.tables e below (T6.setTop (mkF m 9 #[.val (.int p1), .val (.int p2), .val (.int (p1 &&& (2147483647 : Int32))), .unset, .unset, .unset] [(.ref b6)])) _
    refine XS.astoreN X6.here hx rfl (hb hby at_9) rfl rfl (l' := #[.val (.int p1), .val (.int p2), .val (.int (p1 &&& (2147483647 : Int32))), .val (.ref b6), .unset, .unset]) rfl ?_
    show Steps p.tables e below (T6.setTop (mkF m 10 #[.val (.int p1), .val (.int p2), .val (.int (p1 &&& (2147483647 : Int32))), .val (.ref b6), .unset, .unset] [])) _
    refine XS.aloadN X6.here hx rfl (hb hby at_10) rfl rfl ?_
    show Steps p.tables e below (T6.setTop (mkF m 11 #[.val (.int p1), .val (.int p2), .val (.int (p1 &&& (2147483647 : Int32))), .val (.ref b6), .unset, .unset] [(.ref b6)])) _
    refine st11.trans ?_
    show Steps p.tables e below (T11.setTop (mkF m 14 #[.val (.int p1), .val (.int p2), .val (.int (p1 &&& (2147483647 : Int32))), .val (.ref b6), .unset, .unset] [(.int (0 : Int32))])) _
    refine XS.ifYes X11.here hx rfl (pc0 := 14) (pc' := 19) rfl (hb hby at_14) rfl ((if0 _ _).trans (teq (by decide : (0 : Int32) = (0 : Int32))).1) (by decide) (by decide) ?_
    show Steps p.tables e below (T11.setTop (mkF m 19 #[.val (.int p1), .val (.int p2), .val (.int (p1 &&& (2147483647 : Int32))), .val (.ref b6), .unset, .unset] [])) _
    refine XS.aloadN X11.here hx rfl (hb hby at_19) rfl rfl ?_
    show Steps p.tables e below (T11.setTop (mkF m 20 #[.val (.int p1), .val (.int p2), .val (.int (p1 &&& (2147483647 : Int32))), .val (.ref b6), .unset, .unset] [(.ref b6)])) _
    refine st20.trans ?_
    show Steps p.tables e below (T20.setTop (mkF m 23 #[.val (.int p1), .val (.int p2), .val (.int (p1 &&& (2147483647 : Int32))), .val (.ref b6), .unset, .unset] [(.int (p1 &&& (2147483647 : Int32)))])) _
    refine XS.iloadN X20.here hx rfl (hb hby at_23) rfl ?_
    show Steps p.tables e below (T20.setTop (mkF m 24 #[.val (.int p1), .val (.int p2), .val (.int (p1 &&& (2147483647 : Int32))), .val (.ref b6), .unset, .unset] [(.int (p1 &&& (2147483647 : Int32))), (.int (p1 &&& (2147483647 : Int32)))])) _
    refine XS.icmpYes X20.here hx rfl (pc0 := 24) (pc' := 29) rfl (hb hby at_24) rfl (teq (rfl : (p1 &&& (2147483647 : Int32)) = (p1 &&& (2147483647 : Int32)))).1 (by decide) (by decide) ?_
    show Steps p.tables e below (T20.setTop (mkF m 29 #[.val (.int p1), .val (.int p2), .val (.int (p1 &&& (2147483647 : Int32))), .val (.ref b6), .unset, .unset] [])) _
    refine XS.aloadN X20.here hx rfl (hb hby at_29) rfl rfl ?_
    show Steps p.tables e below (T20.setTop (mkF m 30 #[.val (.int p1), .val (.int p2), .val (.int (p1 &&& (2147483647 : Int32))), .val (.ref b6), .unset, .unset] [(.ref b6)])) _
    refine XS.iloadN X20.here hx rfl (hb hby at_30) rfl ?_
    show Steps p.tables e below (T20.setTop (mkF m 31 #[.val (.int p1), .val (.int p2), .val (.int (p1 &&& (2147483647 : Int32))), .val (.ref b6), .unset, .unset] [(.int p2), (.ref b6)])) _
    refine st31.trans ?_
    show Steps p.tables e below (T31.setTop (mkF m 34 #[.val (.int p1), .val (.int p2), .val (.int (p1 &&& (2147483647 : Int32))), .val (.ref b6), .unset, .unset] [(.ref w)])) _
    refine XS.astore X31.here hx rfl (hb hby at_34) rfl rfl (l' := #[.val (.int p1), .val (.int p2), .val (.int (p1 &&& (2147483647 : Int32))), .val (.ref b6), .val (.ref w), .unset]) rfl ?_
    show Steps p.tables e below (T31.setTop (mkF m 36 #[.val (.int p1), .val (.int p2), .val (.int (p1 &&& (2147483647 : Int32))), .val (.ref b6), .val (.ref w), .unset] [])) _
    refine XS.iloadN X31.here hx rfl (hb hby at_36) rfl ?_
    show Steps p.tables e below (T31.setTop (mkF m 37 #[.val (.int p1), .val (.int p2), .val (.int (p1 &&& (2147483647 : Int32))), .val (.ref b6), .val (.ref w), .unset] [(.int (p1 &&& (2147483647 : Int32)))])) _
    refine XS.iloadN X31.here hx rfl (hb hby at_37) rfl ?_
    show Steps p.tables e below (T31.setTop (mkF m 38 #[.val (.int p1), .val (.int p2), .val (.int (p1 &&& (2147483647 : Int32))), .val (.ref b6), .val (.ref w), .unset] [(.int p2), (.int (p1 &&& (2147483647 : Int32)))])) _
    refine XS.icmpNo X31.here hx rfl (hb hby at_38) rfl (flt hc38).1 ?_
    show Steps p.tables e below (T31.setTop (mkF m 41 #[.val (.int p1), .val (.int p2), .val (.int (p1 &&& (2147483647 : Int32))), .val (.ref b6), .val (.ref w), .unset] [])) _
    refine XS.aload X31.here hx rfl (hb hby at_41) rfl rfl ?_
    show Steps p.tables e below (T31.setTop (mkF m 43 #[.val (.int p1), .val (.int p2), .val (.int (p1 &&& (2147483647 : Int32))), .val (.ref b6), .val (.ref w), .unset] [(.ref w)])) _
    refine st43.trans ?_
    show Steps p.tables e below (T43.setTop (mkF m 46 #[.val (.int p1), .val (.int p2), .val (.int (p1 &&& (2147483647 : Int32))), .val (.ref b6), .val (.ref w), .unset] [(.int (1 : Int32))])) _
    refine XS.ifYes X43.here hx rfl (pc0 := 46) (pc' := 59) rfl (hb hby at_46) rfl ((if0 _ _).trans (feq (by decide : ¬ ((1 : Int32) = (0 : Int32)))).2) (by decide) (by decide) ?_
    show Steps p.tables e below (T43.setTop (mkF m 59 #[.val (.int p1), .val (.int p2), .val (.int (p1 &&& (2147483647 : Int32))), .val (.ref b6), .val (.ref w), .unset] [])) _
    refine XS.aloadN X43.here hx rfl (hb hby at_59) rfl rfl ?_
    show Steps p.tables e below (T43.setTop (mkF m 60 #[.val (.int p1), .val (.int p2), .val (.int (p1 &&& (2147483647 : Int32))), .val (.ref b6), .val (.ref w), .unset] [(.ref b6)])) _
    refine XS.iloadN X43.here hx rfl (hb hby at_60) rfl ?_
    show Steps p.tables e below (T43.setTop (mkF m 61 #[.val (.int p1), .val (.int p2), .val (.int (p1 &&& (2147483647 : Int32))), .val (.ref b6), .val (.ref w), .unset] [(.int (p1 &&& (2147483647 : Int32))), (.ref b6)])) _
    refine st61.trans ?_
    show Steps p.tables e below (T61.setTop (mkF m 64 #[.val (.int p1), .val (.int p2), .val (.int (p1 &&& (2147483647 : Int32))), .val (.ref b6), .val (.ref w), .unset] [(.ref w)])) _
    refine XS.astore X61.here hx rfl (hb hby at_64) rfl rfl (l' := #[.val (.int p1), .val (.int p2), .val (.int (p1 &&& (2147483647 : Int32))), .val (.ref b6), .val (.ref w), .val (.ref w)]) rfl ?_
    show Steps p.tables e below (T61.setTop (mkF m 66 #[.val (.int p1), .val (.int p2), .val (.int (p1 &&& (2147483647 : Int32))), .val (.ref b6), .val (.ref w), .val (.ref w)] [])) _
    refine XS.aload X61.here hx rfl (hb hby at_66) rfl rfl ?_
    show Steps p.tables e below (T61.setTop (mkF m 68 #[.val (.int p1), .val (.int p2), .val (.int (p1 &&& (2147483647 : Int32))), .val (.ref b6), .val (.ref w), .val (.ref w)] [(.ref w)])) _
    refine st68.trans ?_
    show Steps p.tables e below (T68.setTop (mkF m 71 #[.val (.int p1), .val (.int p2), .val (.int (p1 &&& (2147483647 : Int32))), .val (.ref b6), .val (.ref w), .val (.ref w)] [(.int (1 : Int32))])) _
    exact retN X68 hx (t := .boolean) Bd.returns (by simp) (hb hby at_71) hr
  · show Q_law Z p1 p2 w h0 n0 _ T68.heap _
    exact ⟨rfl, N68, f26⟩
theorem ef_rm_law_lt (m : MethodId) (x0 : Int32) (x1 : Int32) : entryFrame m #[(.int x0), (.int x1)] maxLocals = mkF m 0 #[.val (.int x0), .val (.int x1), .unset, .unset, .unset, .unset] [] := by first | (simp [entryFrame, mkF, argsToLocals, Value.category, maxLocals]; done) | rfl
set_option maxRecDepth 65536 in
set_option maxHeartbeats 40000000 in
theorem rm_law_lt (l : Launch) (Z : State) (a0 : Array Value) (hw : ∀ d ∈ tables_1, d.before a0 Z = true) (ws : List Jvm.Cond) (p1 : Int32) (p2 : Int32) (w : Addr) (h0 : Heap) (n0 : Nat) (O0 : Old Z n0 h0) (S_NONE : Sta Z Z.heap "com/example/tempered_tableau/temperedtableau/reasoner/tableau/Dependencies" "NONE" "Lcom/example/tempered_tableau/temperedtableau/reasoner/tableau/Dependencies;" (.ref w)) (E_w : Exa Z Z.heap w "com/example/tempered_tableau/temperedtableau/reasoner/tableau/Dependencies") (hc38 : (p1 &&& (2147483647 : Int32)) < p2) :
    MetFree l x (head1 (Jvm.Cond.code x code maxLocals ret :: ws) room_1) (fun as' U => as' = #[(.int p1), (.int p2)] ∧ Z.Warmed39 U.vm ∧ U.heap = h0) (fun _ _ _ _ _ => True) (fun _ U o U' => ∃ v L, o = .returned v ∧ Q_law Z p1 p2 w h0 n0 v U'.heap L ∧ FrameEnd U o U' L room_1.cells room_1.slots) := by
  refine MetFree.of_bodySF (plainFor_of_name pn_com_example_tempered_tableau_temperedtableau_reasoner_tableau_DependenciesOfPinLaw) hisR ?_
  intro p e s m args below meth c s₁ Bd hml0 hP hK
  obtain ⟨rfl, hZ, hh⟩ := hP
  have hx := Bd.exec
  have hby := Bd.bytes
  have hml : c.maxLocals = 6 := hml0
  have hown : s.vm.findClass "com/example/tempered_tableau/temperedtableau/reasoner/tableau/DependenciesOfPinLaw" = some m.cls := findClass_of_methodNamed Bd.named
  have hnm := (name_of_methodNamed Bd.named Bd.method).1
  have X0 : Stand p l e room_1 s m #[(.int p1), (.int p2)] below meth c s₁ [] 0 0 := Stand.of_body Bd
  have e0 : s₁.heap = h0 := by rw [← hh, Bd.state]; rfl
  have N0 := Fr.nil n0
  have K0 : Keep h0 h0 [] := Keep.refl _ _
  have pre0 : ∀ t, Steps p.tables e below (s₁.setTop (mkF m 0 #[.val (.int p1), .val (.int p2), .unset, .unset, .unset, .unset] [])) t → Steps p.tables e below (s₁.setTop (entryFrame m #[(.int p1), (.int p2)] maxLocals)) t := fun t k => castTop (ef_rm_law_lt m p1 p2) k
  obtain ⟨_, _, ⟨T6, Lo6, kk6, nn6⟩, -, X6, ⟨Lc6, hQ6, ll6, yy6, zz6⟩, st6⟩ := Jvm.LawKit.callS X0 hx (y := (⟨"com/example/tempered_tableau/temperedtableau/reasoner/tableau/Dependencies", "of", "(I)Lcom/example/tempered_tableau/temperedtableau/reasoner/tableau/Dependencies;"⟩ : MethodName)) hown (mvT hZ (w_1 hw)) (mvT hZ (w_2 hw)) (mvT hZ (w_3 hw)) (mvT hZ (w_4 hw)) (by decide) (backOf (W := 0) (rm_of l Z a0 hw [] ((p1 &&& (2147483647 : Int32))) w h0 n0 O0 S_NONE) hZ (w_4 hw) (w_3 hw) (by decide) (by decide)) (g := (mkF m 6 #[.val (.int p1), .val (.int p2), .val (.int (p1 &&& (2147483647 : Int32))), .unset, .unset, .unset] [(.int (p1 &&& (2147483647 : Int32)))])) rfl (by rw [hml]; rfl) (argsL := [(.int (p1 &&& (2147483647 : Int32)))]) (rest := []) (lenOf pd_1 rfl) rfl (by show 2 * 0 + _ ≤ _; exact Nat.le_of_eq rfl) (hb hby at_6) (fun _ _ => ⟨rfl, e0, (by decide : 0 + 1 ≤ _), (by decide : 0 + 2 ≤ _)⟩)
  dsimp only [Pt.U, Pt.locs, Pt.cells, Pt.slots] at X6 ll6 yy6 zz6 st6 hQ6
  subst ll6 yy6 zz6
  obtain ⟨b6, rfl, N6q, K6q, p6_0, p6_1, p6_2, p6_3⟩ := hQ6
  have N6 := Fr.app N0 N6q
  have f1 : Keep h0 T6.heap [] := K0.trans K6q all0
  have f2 : Old Z n0 T6.heap := O0.keep K6q all0
  have f3 : n0 ≤ b6 := Nat.le_trans (own_old_le O0) p6_0
  obtain ⟨cq11, kq11, q11a, q11b, q11c⟩ := isOf hZ rfl p6_1
  obtain ⟨_, _, ⟨T11, Lo11, kk11, nn11⟩, -, X11, ⟨Lc11, hQ11, ll11, yy11, zz11⟩, st11⟩ := X6.virtualBack hx (y := (⟨"com/example/tempered_tableau/temperedtableau/reasoner/tableau/Dependencies", "isEmpty", "()Z"⟩ : MethodName)) (z := (⟨"com/example/tempered_tableau/temperedtableau/reasoner/tableau/Dependencies", "isEmpty", "()Z"⟩ : MethodName)) hown (mvT hZ (w_19 hw)) (mvT hZ (w_20 hw)) (notFace_of_selects (args := #[]) (mvT hZ (w_22 hw))) (mvT hZ (w_22 hw)) (mvT hZ (w_21 hw)) (by decide) (backOf (W := 0) (rm_emptyN l Z a0 hw [] b6 w T6.heap n0 f2 S_NONE (Ne.symm (O0.ne E_w.lt f3))) hZ (w_23 hw) (w_3 hw) (by decide) (by decide)) q11a q11c (g := (mkF m 11 #[.val (.int p1), .val (.int p2), .val (.int (p1 &&& (2147483647 : Int32))), .val (.ref b6), .unset, .unset] [(.ref b6)])) rfl (by rw [hml]; rfl) (Steps.refl _) (argsL := []) (rest := []) (lenOf pd_2 rfl) rfl (by show 2 * 0 + _ ≤ _; exact Nat.le_of_eq rfl) (hb hby at_11) (fun _ _ => ⟨rfl, rfl, (by decide : 1 + 0 ≤ _), (by decide : 2 + 0 ≤ _)⟩)
  dsimp only [Pt.U, Pt.locs, Pt.cells, Pt.slots] at X11 ll11 yy11 zz11 st11 hQ11
  subst ll11 yy11 zz11
  obtain ⟨rfl, N11q, K11q⟩ := hQ11
  have N11 := Fr.app N6 N11q
  have f4 : Keep h0 T11.heap [] := f1.trans K11q all0
  have f5 : Old Z n0 T11.heap := f2.keep K11q all0
  have f6 : Fld Z T11.heap b6 "com/example/tempered_tableau/temperedtableau/reasoner/tableau/Dependencies" "latest" "I" (.int (p1 &&& (2147483647 : Int32))) := p6_2.keep K11q nin0
  have f7 : Exa Z T11.heap b6 "com/example/tempered_tableau/temperedtableau/reasoner/tableau/Dependencies" := p6_1.keep K11q
  obtain ⟨cq20, kq20, q20a, q20b, q20c⟩ := isOf hZ rfl f7
  obtain ⟨_, _, ⟨T20, Lo20, kk20, nn20⟩, -, X20, ⟨Lc20, hQ20, ll20, yy20, zz20⟩, st20⟩ := X11.virtualBack hx (y := (⟨"com/example/tempered_tableau/temperedtableau/reasoner/tableau/Dependencies", "latest", "()I"⟩ : MethodName)) (z := (⟨"com/example/tempered_tableau/temperedtableau/reasoner/tableau/Dependencies", "latest", "()I"⟩ : MethodName)) hown (mvT hZ (w_24 hw)) (mvT hZ (w_25 hw)) (notFace_of_selects (args := #[]) (mvT hZ (w_27 hw))) (mvT hZ (w_27 hw)) (mvT hZ (w_26 hw)) (by decide) (backOf (W := 0) (rm_latest l Z a0 hw [] b6 ((p1 &&& (2147483647 : Int32))) T11.heap n0 f5 f6) hZ (w_28 hw) (w_3 hw) (by decide) (by decide)) q20a q20c (g := (mkF m 20 #[.val (.int p1), .val (.int p2), .val (.int (p1 &&& (2147483647 : Int32))), .val (.ref b6), .unset, .unset] [(.ref b6)])) rfl (by rw [hml]; rfl) (Steps.refl _) (argsL := []) (rest := []) (lenOf pd_3 rfl) rfl (by show 2 * 0 + _ ≤ _; exact Nat.le_of_eq rfl) (hb hby at_20) (fun _ _ => ⟨rfl, rfl, (by decide : 1 + 0 ≤ _), (by decide : 2 + 0 ≤ _)⟩)
  dsimp only [Pt.U, Pt.locs, Pt.cells, Pt.slots] at X20 ll20 yy20 zz20 st20 hQ20
  subst ll20 yy20 zz20
  obtain ⟨rfl, N20q, K20q⟩ := hQ20
  have N20 := Fr.app N11 N20q
  have f8 : Keep h0 T20.heap [] := f4.trans K20q all0
  have f9 : Old Z n0 T20.heap := f5.keep K20q all0
  have f10 : Fld Z T20.heap b6 "com/example/tempered_tableau/temperedtableau/reasoner/tableau/Dependencies" "latest" "I" (.int (p1 &&& (2147483647 : Int32))) := f6.keep K20q nin0
  have f11 : Exa Z T20.heap b6 "com/example/tempered_tableau/temperedtableau/reasoner/tableau/Dependencies" := f7.keep K20q
  obtain ⟨cq31, kq31, q31a, q31b, q31c⟩ := isOf hZ rfl f11
  obtain ⟨_, _, ⟨T31, Lo31, kk31, nn31⟩, -, X31, ⟨Lc31, hQ31, ll31, yy31, zz31⟩, st31⟩ := X20.virtualBack hx (y := (⟨"com/example/tempered_tableau/temperedtableau/reasoner/tableau/Dependencies", "before", "(I)Lcom/example/tempered_tableau/temperedtableau/reasoner/tableau/Dependencies;"⟩ : MethodName)) (z := (⟨"com/example/tempered_tableau/temperedtableau/reasoner/tableau/Dependencies", "before", "(I)Lcom/example/tempered_tableau/temperedtableau/reasoner/tableau/Dependencies;"⟩ : MethodName)) hown (mvT hZ (w_29 hw)) (mvT hZ (w_30 hw)) (notFace_of_selects (args := #[]) (mvT hZ (w_32 hw))) (mvT hZ (w_32 hw)) (mvT hZ (w_31 hw)) (by decide) (backOf (W := 0) (rm_beforeS l Z a0 hw [] b6 p2 w ((p1 &&& (2147483647 : Int32))) T20.heap n0 f9 S_NONE f10 (Ne.symm (O0.ne E_w.lt f3)) hc38) hZ (w_33 hw) (w_3 hw) (by decide) (by decide)) q31a q31c (g := (mkF m 31 #[.val (.int p1), .val (.int p2), .val (.int (p1 &&& (2147483647 : Int32))), .val (.ref b6), .unset, .unset] [(.int p2), (.ref b6)])) rfl (by rw [hml]; rfl) (Steps.refl _) (argsL := [(.int p2)]) (rest := []) (lenOf pd_1 rfl) rfl (by show 2 * 0 + _ ≤ _; exact Nat.le_of_eq rfl) (hb hby at_31) (fun _ _ => ⟨rfl, rfl, (by decide : 1 + 0 ≤ _), (by decide : 2 + 0 ≤ _)⟩)
  dsimp only [Pt.U, Pt.locs, Pt.cells, Pt.slots] at X31 ll31 yy31 zz31 st31 hQ31
  subst ll31 yy31 zz31
  obtain ⟨rfl, N31q, K31q⟩ := hQ31
  have N31 := Fr.app N20 N31q
  have f12 : Keep h0 T31.heap [] := f8.trans K31q all0
  have f13 : Old Z n0 T31.heap := f9.keep K31q all0
  have f14 : Fld Z T31.heap b6 "com/example/tempered_tableau/temperedtableau/reasoner/tableau/Dependencies" "latest" "I" (.int (p1 &&& (2147483647 : Int32))) := f10.keep K31q nin0
  have f15 : Fld Z T11.heap b6 "com/example/tempered_tableau/temperedtableau/reasoner/tableau/Dependencies" "earlier" "Lcom/example/tempered_tableau/temperedtableau/reasoner/tableau/Dependencies;" (.ref w) := p6_3.keep K11q nin0
  have f16 : Fld Z T20.heap b6 "com/example/tempered_tableau/temperedtableau/reasoner/tableau/Dependencies" "earlier" "Lcom/example/tempered_tableau/temperedtableau/reasoner/tableau/Dependencies;" (.ref w) := f15.keep K20q nin0
  have f17 : Fld Z T31.heap b6 "com/example/tempered_tableau/temperedtableau/reasoner/tableau/Dependencies" "earlier" "Lcom/example/tempered_tableau/temperedtableau/reasoner/tableau/Dependencies;" (.ref w) := f16.keep K31q nin0
  have f18 : Exa Z T31.heap b6 "com/example/tempered_tableau/temperedtableau/reasoner/tableau/Dependencies" := f11.keep K31q
  obtain ⟨cq61, kq61, q61a, q61b, q61c⟩ := isOf hZ rfl f18
  obtain ⟨_, _, ⟨T61, Lo61, kk61, nn61⟩, -, X61, ⟨Lc61, hQ61, ll61, yy61, zz61⟩, st61⟩ := X31.virtualBack hx (y := (⟨"com/example/tempered_tableau/temperedtableau/reasoner/tableau/Dependencies", "before", "(I)Lcom/example/tempered_tableau/temperedtableau/reasoner/tableau/Dependencies;"⟩ : MethodName)) (z := (⟨"com/example/tempered_tableau/temperedtableau/reasoner/tableau/Dependencies", "before", "(I)Lcom/example/tempered_tableau/temperedtableau/reasoner/tableau/Dependencies;"⟩ : MethodName)) hown (mvT hZ (w_29 hw)) (mvT hZ (w_30 hw)) (notFace_of_selects (args := #[]) (mvT hZ (w_32 hw))) (mvT hZ (w_32 hw)) (mvT hZ (w_31 hw)) (by decide) (backOf (W := 0) (rm_beforeE l Z a0 hw [] b6 ((p1 &&& (2147483647 : Int32))) w ((p1 &&& (2147483647 : Int32))) T31.heap n0 f13 S_NONE f14 f17 (Ne.symm (O0.ne E_w.lt f3)) Int32.lt_irrefl) hZ (w_33 hw) (w_3 hw) (by decide) (by decide)) q61a q61c (g := (mkF m 61 #[.val (.int p1), .val (.int p2), .val (.int (p1 &&& (2147483647 : Int32))), .val (.ref b6), .val (.ref b6), .unset] [(.int (p1 &&& (2147483647 : Int32))), (.ref b6)])) rfl (by rw [hml]; rfl) (Steps.refl _) (argsL := [(.int (p1 &&& (2147483647 : Int32)))]) (rest := []) (lenOf pd_1 rfl) rfl (by show 2 * 0 + _ ≤ _; exact Nat.le_of_eq rfl) (hb hby at_61) (fun _ _ => ⟨rfl, rfl, (by decide : 1 + 0 ≤ _), (by decide : 2 + 0 ≤ _)⟩)
  dsimp only [Pt.U, Pt.locs, Pt.cells, Pt.slots] at X61 ll61 yy61 zz61 st61 hQ61
  subst ll61 yy61 zz61
  obtain ⟨rfl, N61q, K61q⟩ := hQ61
  have N61 := Fr.app N31 N61q
  have f19 : Keep h0 T61.heap [] := f12.trans K61q all0
  have f20 : Old Z n0 T61.heap := f13.keep K61q all0
  obtain ⟨cq68, kq68, q68a, q68b, q68c⟩ := isOf hZ rfl (E_w.ext f20.2)
  obtain ⟨_, _, ⟨T68, Lo68, kk68, nn68⟩, -, X68, ⟨Lc68, hQ68, ll68, yy68, zz68⟩, st68⟩ := X61.virtualBack hx (y := (⟨"com/example/tempered_tableau/temperedtableau/reasoner/tableau/Dependencies", "isEmpty", "()Z"⟩ : MethodName)) (z := (⟨"com/example/tempered_tableau/temperedtableau/reasoner/tableau/Dependencies", "isEmpty", "()Z"⟩ : MethodName)) hown (mvT hZ (w_19 hw)) (mvT hZ (w_20 hw)) (notFace_of_selects (args := #[]) (mvT hZ (w_22 hw))) (mvT hZ (w_22 hw)) (mvT hZ (w_21 hw)) (by decide) (backOf (W := 0) (rm_emptyY l Z a0 hw [] w T61.heap n0 f20 S_NONE) hZ (w_23 hw) (w_3 hw) (by decide) (by decide)) q68a q68c (g := (mkF m 68 #[.val (.int p1), .val (.int p2), .val (.int (p1 &&& (2147483647 : Int32))), .val (.ref b6), .val (.ref b6), .val (.ref w)] [(.ref w)])) rfl (by rw [hml]; rfl) (Steps.refl _) (argsL := []) (rest := []) (lenOf pd_2 rfl) rfl (by show 2 * 0 + _ ≤ _; exact Nat.le_of_eq rfl) (hb hby at_68) (fun _ _ => ⟨rfl, rfl, (by decide : 1 + 0 ≤ _), (by decide : 2 + 0 ≤ _)⟩)
  dsimp only [Pt.U, Pt.locs, Pt.cells, Pt.slots] at X68 ll68 yy68 zz68 st68 hQ68
  subst ll68 yy68 zz68
  obtain ⟨rfl, N68q, K68q⟩ := hQ68
  have N68 := Fr.app N61 N68q
  have f21 : Keep h0 T68.heap [] := f19.trans K68q all0
  have f22 : Old Z n0 T68.heap := f20.keep K68q all0
  obtain ⟨fs, hr, hrun, hended, hW, hsame⟩ := X68.leave (v := some (.int (1 : Int32))) (fun h => by rw [Bd.returns] at h; cases h)
  refine ⟨_, _, pre0 _ ?_, hrun, hended, _, _, rfl, ?_, ⟨_, rfl⟩, hW, hsame.mono (by decide) (by decide)⟩
  · show Steps p.tables e below (s₁.setTop (mkF m 0 #[.val (.int p1), .val (.int p2), .unset, .unset, .unset, .unset] [])) _
    refine XS.iloadN X0.here hx rfl (hb hby at_0) rfl ?_
    show Steps p.tables e below (s₁.setTop (mkF m 1 #[.val (.int p1), .val (.int p2), .unset, .unset, .unset, .unset] [(.int p1)])) _
    refine Jvm.Stand.ldcI X0 hx hown (mvT hZ (w_0 hw)) rfl (hb hby at_1) ?_
    show Steps p.tables e below (s₁.setTop (mkF m 3 #[.val (.int p1), .val (.int p2), .unset, .unset, .unset, .unset] [(.int (2147483647 : Int32)), (.int p1)])) _
    refine XS.iand X0.here hx rfl (hb hby at_3) rfl ?_
    show Steps p.tables e below (s₁.setTop (mkF m 4 #[.val (.int p1), .val (.int p2), .unset, .unset, .unset, .unset] [(.int (p1 &&& (2147483647 : Int32)))])) _
    refine XS.istoreN X0.here hx rfl (hb hby at_4) rfl (l' := #[.val (.int p1), .val (.int p2), .val (.int (p1 &&& (2147483647 : Int32))), .unset, .unset, .unset]) rfl ?_
    show Steps p.tables e below (s₁.setTop (mkF m 5 #[.val (.int p1), .val (.int p2), .val (.int (p1 &&& (2147483647 : Int32))), .unset, .unset, .unset] [])) _
    refine XS.iloadN X0.here hx rfl (hb hby at_5) rfl ?_
    show Steps p.tables e below (s₁.setTop (mkF m 6 #[.val (.int p1), .val (.int p2), .val (.int (p1 &&& (2147483647 : Int32))), .unset, .unset, .unset] [(.int (p1 &&& (2147483647 : Int32)))])) _
    refine st6 _ ?_
    show Steps p.tables e below (T6.setTop (mkF m 9 #[.val (.int p1), .val (.int p2), .val (.int (p1 &&& (2147483647 : Int32))), .unset, .unset, .unset] [(.ref b6)])) _
    refine XS.astoreN X6.here hx rfl (hb hby at_9) rfl rfl (l' := #[.val (.int p1), .val (.int p2), .val (.int (p1 &&& (2147483647 : Int32))), .val (.ref b6), .unset, .unset]) rfl ?_
    show Steps p.tables e below (T6.setTop (mkF m 10 #[.val (.int p1), .val (.int p2), .val (.int (p1 &&& (2147483647 : Int32))), .val (.ref b6), .unset, .unset] [])) _
    refine XS.aloadN X6.here hx rfl (hb hby at_10) rfl rfl ?_
    show Steps p.tables e below (T6.setTop (mkF m 11 #[.val (.int p1), .val (.int p2), .val (.int (p1 &&& (2147483647 : Int32))), .val (.ref b6), .unset, .unset] [(.ref b6)])) _
    refine st11.trans ?_
    show Steps p.tables e below (T11.setTop (mkF m 14 #[.val (.int p1), .val (.int p2), .val (.int (p1 &&& (2147483647 : Int32))), .val (.ref b6), .unset, .unset] [(.int (0 : Int32))])) _
    refine XS.ifYes X11.here hx rfl (pc0 := 14) (pc' := 19) rfl (hb hby at_14) rfl ((if0 _ _).trans (teq (by decide : (0 : Int32) = (0 : Int32))).1) (by decide) (by decide) ?_
    show Steps p.tables e below (T11.setTop (mkF m 19 #[.val (.int p1), .val (.int p2), .val (.int (p1 &&& (2147483647 : Int32))), .val (.ref b6), .unset, .unset] [])) _
    refine XS.aloadN X11.here hx rfl (hb hby at_19) rfl rfl ?_
    show Steps p.tables e below (T11.setTop (mkF m 20 #[.val (.int p1), .val (.int p2), .val (.int (p1 &&& (2147483647 : Int32))), .val (.ref b6), .unset, .unset] [(.ref b6)])) _
    refine st20.trans ?_
    show Steps p.tables e below (T20.setTop (mkF m 23 #[.val (.int p1), .val (.int p2), .val (.int (p1 &&& (2147483647 : Int32))), .val (.ref b6), .unset, .unset] [(.int (p1 &&& (2147483647 : Int32)))])) _
    refine XS.iloadN X20.here hx rfl (hb hby at_23) rfl ?_
    show Steps p.tables e below (T20.setTop (mkF m 24 #[.val (.int p1), .val (.int p2), .val (.int (p1 &&& (2147483647 : Int32))), .val (.ref b6), .unset, .unset] [(.int (p1 &&& (2147483647 : Int32))), (.int (p1 &&& (2147483647 : Int32)))])) _
    refine XS.icmpYes X20.here hx rfl (pc0 := 24) (pc' := 29) rfl (hb hby at_24) rfl (teq (rfl : (p1 &&& (2147483647 : Int32)) = (p1 &&& (2147483647 : Int32)))).1 (by decide) (by decide) ?_
    show Steps p.tables e below (T20.setTop (mkF m 29 #[.val (.int p1), .val (.int p2), .val (.int (p1 &&& (2147483647 : Int32))), .val (.ref b6), .unset, .unset] [])) _
    refine XS.aloadN X20.here hx rfl (hb hby at_29) rfl rfl ?_
    show Steps p.tables e below (T20.setTop (mkF m 30 #[.val (.int p1), .val (.int p2), .val (.int (p1 &&& (2147483647 : Int32))), .val (.ref b6), .unset, .unset] [(.ref b6)])) _
    refine XS.iloadN X20.here hx rfl (hb hby at_30) rfl ?_
    show Steps p.tables e below (T20.setTop (mkF m 31 #[.val (.int p1), .val (.int p2), .val (.int (p1 &&& (2147483647 : Int32))), .val (.ref b6), .unset, .unset] [(.int p2), (.ref b6)])) _
    refine st31.trans ?_
    show Steps p.tables e below (T31.setTop (mkF m 34 #[.val (.int p1), .val (.int p2), .val (.int (p1 &&& (2147483647 : Int32))), .val (.ref b6), .unset, .unset] [(.ref b6)])) _
    refine XS.astore X31.here hx rfl (hb hby at_34) rfl rfl (l' := #[.val (.int p1), .val (.int p2), .val (.int (p1 &&& (2147483647 : Int32))), .val (.ref b6), .val (.ref b6), .unset]) rfl ?_
    show Steps p.tables e below (T31.setTop (mkF m 36 #[.val (.int p1), .val (.int p2), .val (.int (p1 &&& (2147483647 : Int32))), .val (.ref b6), .val (.ref b6), .unset] [])) _
    refine XS.iloadN X31.here hx rfl (hb hby at_36) rfl ?_
    show Steps p.tables e below (T31.setTop (mkF m 37 #[.val (.int p1), .val (.int p2), .val (.int (p1 &&& (2147483647 : Int32))), .val (.ref b6), .val (.ref b6), .unset] [(.int (p1 &&& (2147483647 : Int32)))])) _
    refine XS.iloadN X31.here hx rfl (hb hby at_37) rfl ?_
    show Steps p.tables e below (T31.setTop (mkF m 38 #[.val (.int p1), .val (.int p2), .val (.int (p1 &&& (2147483647 : Int32))), .val (.ref b6), .val (.ref b6), .unset] [(.int p2), (.int (p1 &&& (2147483647 : Int32)))])) _
    refine XS.icmpYes X31.here hx rfl (pc0 := 38) (pc' := 51) rfl (hb hby at_38) rfl (tlt hc38).1 (by decide) (by decide) ?_
    show Steps p.tables e below (T31.setTop (mkF m 51 #[.val (.int p1), .val (.int p2), .val (.int (p1 &&& (2147483647 : Int32))), .val (.ref b6), .val (.ref b6), .unset] [])) _
    refine XS.aload X31.here hx rfl (hb hby at_51) rfl rfl ?_
    show Steps p.tables e below (T31.setTop (mkF m 53 #[.val (.int p1), .val (.int p2), .val (.int (p1 &&& (2147483647 : Int32))), .val (.ref b6), .val (.ref b6), .unset] [(.ref b6)])) _
    refine XS.aloadN X31.here hx rfl (hb hby at_53) rfl rfl ?_
    show Steps p.tables e below (T31.setTop (mkF m 54 #[.val (.int p1), .val (.int p2), .val (.int (p1 &&& (2147483647 : Int32))), .val (.ref b6), .val (.ref b6), .unset] [(.ref b6), (.ref b6)])) _
    refine Jvm.RoadKit.acmp (g := (mkF m 54 #[.val (.int p1), .val (.int p2), .val (.int (p1 &&& (2147483647 : Int32))), .val (.ref b6), .val (.ref b6), .unset] [(.ref b6), (.ref b6)])) X31 hx rfl rfl rfl (pc0 := 54) (pc' := 59) (same := true) rfl (hb hby at_54) rfl (decide_eq_true rfl) (by decide) (by decide) ?_
    show Steps p.tables e below (T31.setTop (mkF m 59 #[.val (.int p1), .val (.int p2), .val (.int (p1 &&& (2147483647 : Int32))), .val (.ref b6), .val (.ref b6), .unset] [])) _
    refine XS.aloadN X31.here hx rfl (hb hby at_59) rfl rfl ?_
    show Steps p.tables e below (T31.setTop (mkF m 60 #[.val (.int p1), .val (.int p2), .val (.int (p1 &&& (2147483647 : Int32))), .val (.ref b6), .val (.ref b6), .unset] [(.ref b6)])) _
    refine XS.iloadN X31.here hx rfl (hb hby at_60) rfl ?_
    show Steps p.tables e below (T31.setTop (mkF m 61 #[.val (.int p1), .val (.int p2), .val (.int (p1 &&& (2147483647 : Int32))), .val (.ref b6), .val (.ref b6), .unset] [(.int (p1 &&& (2147483647 : Int32))), (.ref b6)])) _
    refine st61.trans ?_
    show Steps p.tables e below (T61.setTop (mkF m 64 #[.val (.int p1), .val (.int p2), .val (.int (p1 &&& (2147483647 : Int32))), .val (.ref b6), .val (.ref b6), .unset] [(.ref w)])) _
    refine XS.astore X61.here hx rfl (hb hby at_64) rfl rfl (l' := #[.val (.int p1), .val (.int p2), .val (.int (p1 &&& (2147483647 : Int32))), .val (.ref b6), .val (.ref b6), .val (.ref w)]) rfl ?_
    show Steps p.tables e below (T61.setTop (mkF m 66 #[.val (.int p1), .val (.int p2), .val (.int (p1 &&& (2147483647 : Int32))), .val (.ref b6), .val (.ref b6), .val (.ref w)] [])) _
    refine XS.aload X61.here hx rfl (hb hby at_66) rfl rfl ?_
    show Steps p.tables e below (T61.setTop (mkF m 68 #[.val (.int p1), .val (.int p2), .val (.int (p1 &&& (2147483647 : Int32))), .val (.ref b6), .val (.ref b6), .val (.ref w)] [(.ref w)])) _
    refine st68.trans ?_
    show Steps p.tables e below (T68.setTop (mkF m 71 #[.val (.int p1), .val (.int p2), .val (.int (p1 &&& (2147483647 : Int32))), .val (.ref b6), .val (.ref b6), .val (.ref w)] [(.int (1 : Int32))])) _
    exact retN X68 hx (t := .boolean) Bd.returns (by simp) (hb hby at_71) hr
  · show Q_law Z p1 p2 w h0 n0 _ T68.heap _
    exact ⟨rfl, N68, f21⟩
theorem rm_law (l : Launch) (Z : State) (a0 : Array Value) (hw : ∀ d ∈ tables_1, d.before a0 Z = true) (ws : List Jvm.Cond) (p1 : Int32) (p2 : Int32) (w : Addr) (h0 : Heap) (n0 : Nat) (O0 : Old Z n0 h0) (S_NONE : Sta Z Z.heap "com/example/tempered_tableau/temperedtableau/reasoner/tableau/Dependencies" "NONE" "Lcom/example/tempered_tableau/temperedtableau/reasoner/tableau/Dependencies;" (.ref w)) (E_w : Exa Z Z.heap w "com/example/tempered_tableau/temperedtableau/reasoner/tableau/Dependencies") :
    MetFree l x (head1 (Jvm.Cond.code x code maxLocals ret :: ws) room_1) (fun as' U => as' = #[(.int p1), (.int p2)] ∧ Z.Warmed39 U.vm ∧ U.heap = h0) (fun _ _ _ _ _ => True) (fun _ U o U' => ∃ v L, o = .returned v ∧ Q_law Z p1 p2 w h0 n0 v U'.heap L ∧ FrameEnd U o U' L room_1.cells room_1.slots) := by
  by_cases h : (p1 &&& (2147483647 : Int32)) < p2
  · exact rm_law_lt l Z a0 hw ws p1 p2 w h0 n0 O0 S_NONE E_w h
  · exact rm_law_ge l Z a0 hw ws p1 p2 w h0 n0 O0 S_NONE E_w h
set_option maxRecDepth 65536 in
set_option maxHeartbeats 40000000 in
theorem comes_1 {Post : Tables → Env → Array Value → State → Outcome → State → Prop} (hpost : ∀ tb e args s v u, (limb_1_1.after args s (.returned v) u = true ∧ limb_1_2.after args s (.returned v) u = true ∧ True) → FrameEnd s (.returned v) u (Jvm.fieldLocs frame_1_writes args s ++ Jvm.arrayLocs frame_1_arrays args s ++ Jvm.staticLocs frame_1_statics s) 16 128 → Post tb e args s (.returned v) u) :
    ArmFor flags0 classFile x code maxLocals ret World_1 tables_1 room_1 Calls_1 rest_1 Pre_1 Post := by
  intro l hfl _ _ p e ha hc hk s m args below hf hA hF happ hP
  obtain ⟨hcalls, hrest, hpre⟩ := hP
  obtain ⟨-, -, -, hnamed, -, -, -, hat⟩ := (Spec.applies_iff hf).mp happ
  obtain ⟨hg, hn⟩ := and_e (Cond.before_iff.mp (show (Jvm.Cond.and given_1 narrow_1).before args s = true from hpre))
  obtain ⟨hcount, hgs0⟩ := and_e hg
  obtain ⟨ha0, hgs1⟩ := and_e hgs0
  have ha1 := hgs1
  obtain ⟨w0, w1, rfl⟩ : ∃ w0 w1 : Value, args = #[w0, w1] := by
    have hs : args.size = 2 := by simpa [Cond.value, given_1] using hcount
    obtain ⟨L⟩ := args
    match L, hs with
    | [w0, w1], _ => exact ⟨w0, w1, rfl⟩
  have hw := fun d (hd : d ∈ tables_1) => atoms_spec (ws := Jvm.Cond.code x code maxLocals ret :: tables_1) hat d (List.mem_cons_of_mem _ hd)
  have hfit : Fit s := fun {y c} hc i hi => by
    obtain ⟨ha, rfl⟩ := Array.getElem?_eq_some_iff.mp hc
    have q := List.all_eq_true.mp ((Array.all_eq_true_iff_forall_mem.mp hF) _ (Array.getElem_mem ha)) i (List.mem_range.mpr hi)
    simpa [Array.getElem?_eq_getElem hi] using q
  obtain ⟨i0, ei0⟩ := is_v ha0
  obtain rfl : w0 = (.int i0) := Option.some.inj ei0
  obtain ⟨i1, ei1⟩ := is_v ha1
  obtain rfl : w1 = (.int i1) := Option.some.inj ei1
  obtain ⟨w, ew⟩ := exa_v hn
  have E_w := Exa.start ew hn
  have S_w := Sta.start ew (Or.inr ⟨(w_3 hw), (w_8 hw)⟩)
  obtain ⟨n, o, h1, h2, h3, _, L, rfl, ⟨rfl, N, -⟩, hq⟩ := rm_law l s _ hw tables_1 i0 i1 w s.heap s.heap.size (Old.start s) S_w E_w p e ha hc hk s m _ below hf ((Spec.applies_iff_loose hf).mp happ).1 ⟨rfl, State.Warmed39.refl s, rfl⟩ trivial
  refine ⟨n, _, h1, h2, h3, hpost _ _ _ _ _ _ ⟨Cond.after_iff.mpr rfl, Cond.after_iff.mpr (eq_i res_at (Term.int_eval (1)) rfl), trivial⟩ ⟨hq.1, hq.2.1, (hq.2.2.sift fun y hy => Or.inr (N y hy)).mono (by decide) (by decide)⟩⟩
theorem main_1_1 : Claimed_1_1 := comes_1 fun _ _ _ _ _ _ h hF => ⟨h.1, hF⟩
theorem main_1_2 : Claimed_1_2 := comes_1 fun _ _ _ _ _ _ h hF => ⟨h.2.1, hF⟩
end Jvm.Pilot.@@N@@
namespace Jvm.Pilot.@@N@@
open Jvm Jvm.ClassFile Sem Op Lib Jvm.Free Jvm.Stand Jvm.Pilot.@@N@@.Jvm.D
/-! MADE BY PROGRAM (witnessworld.py) out of the Statement's table words and the real class files: 9 classes; the members and pool entries that the words name. The judged class is class 1, her method 1. -/
namespace start1
open Jvm.ClassFile
def u (s : String) : CpInfo := .utf8 (stringToUtf16 s)
/-- a pool by its gaps: so many unusable entries, then the entry; so many at the end -/
def gap : Nat → List CpInfo → List CpInfo
  | 0, r => r
  | n + 1, r => .unusable :: gap n r
def poolList (es : List (Nat × CpInfo)) (last : Nat) : List CpInfo := es.foldr (fun e r => gap e.1 (e.2 :: r)) (gap last [])
def pool (es : List (Nat × CpInfo)) (last : Nat) : Array CpInfo := ⟨poolList es last⟩
def fileOf (pool : Array CpInfo) (this : Nat) (attrs : Array Attribute := #[]) (ms : Array MethodInfo := #[]) (fl : Nat := 33) (sup : Nat := 0) (ifs : Array Nat := #[]) (fds : Array FieldInfo := #[]) : ClassFile where
  minorVersion := 0
  majorVersion := 65
  constantPool := pool
  accessFlags := fl
  thisClass := this
  superClass := sup
  interfaces := ifs
  fields := fds
  methods := ms
  attributes := attrs
def plain (name : String) (sup : Option ClassId) : Class where
  name := name
  kind := .ordinary
  loader := none
  accessFlags := 33
  super := sup
  interfaces := #[]
  cf := none
  fields := #[]
  methods := #[]
  instanceTypes := #[]
  staticTypes := #[]
  resolved := #[]
  callSites := []
  init := .initialized
  statics := none
  mirror := none

def pool0 : Array CpInfo := pool [(5, u "<init>"), (0, u "()V"), (1, .class_ 10), (1, u "java/lang/Object")] 113

def k0c0 : Code := { maxStack := 0, maxLocals := 1, code := object_method_1_code, exceptionTable := #[], attributes := #[] }
def k0m0 : Method := { name := "<init>", desc := "()V", sig := { parameters := [], returnType := none }, accessFlags := 1, code := some k0c0 }
/-- java/lang/Object -/
def k0 : Class := { plain "java/lang/Object" none with
  accessFlags := 33
  interfaces := #[]
  cf := some (fileOf pool0 8 #[] #[{ accessFlags := 1, nameIndex := 5, descriptorIndex := 6, attributes := #[] }] 33 0 #[] #[])
  fields := #[]
  methods := #[k0m0]
  instanceTypes := #[]
  staticTypes := #[]
  resolved := Array.replicate 124 none
  statics := none }

def pool1 : Array CpInfo := pool [(2, .class_ 4), (1, u "java/lang/Object"), (0, u "<init>"), (0, u "()V"), (0, .integer 2147483647), (0, .methodref 9 10), (0, .class_ 11), (0, .nameAndType 12 13), (0, u "com/example/tempered_tableau/temperedtableau/reasoner/tableau/Dependencies"), (0, u "of"), (0, u "(I)Lcom/example/tempered_tableau/temperedtableau/reasoner/tableau/Dependencies;"), (0, .methodref 9 15), (0, .nameAndType 16 17), (0, u "isEmpty"), (0, u "()Z"), (0, .methodref 9 19), (0, .nameAndType 20 21), (0, u "latest"), (0, u "()I"), (0, .methodref 9 23), (0, .nameAndType 24 13), (0, u "before"), (0, .class_ 26), (0, u "com/example/tempered_tableau/temperedtableau/reasoner/tableau/DependenciesOfPinLaw"), (2, u "law"), (0, u "(II)Z")] 3

def k1m0 : Method := { name := "<init>", desc := "()V", sig := { parameters := [], returnType := none }, accessFlags := 1, code := none }
def k1c1 : Code := { maxStack := 2, maxLocals := 6, code := code, exceptionTable := #[], attributes := #[] }
def k1m1 : Method := { name := "law", desc := "(II)Z", sig := { parameters := [.int, .int], returnType := some .boolean }, accessFlags := 9, code := some k1c1 }
/-- com/example/tempered_tableau/temperedtableau/reasoner/tableau/DependenciesOfPinLaw -/
def k1 : Class := { plain "com/example/tempered_tableau/temperedtableau/reasoner/tableau/DependenciesOfPinLaw" (some 0) with
  accessFlags := 49
  interfaces := #[]
  cf := some (fileOf pool1 25 #[] #[{ accessFlags := 1, nameIndex := 5, descriptorIndex := 6, attributes := #[] }, { accessFlags := 9, nameIndex := 29, descriptorIndex := 30, attributes := #[] }] 49 2 #[] #[])
  fields := #[]
  methods := #[k1m0, k1m1]
  instanceTypes := #[]
  staticTypes := #[]
  resolved := Array.replicate 34 none
  statics := none }

def pool2 : Array CpInfo := pool [(1, .methodref 2 3), (0, .class_ 4), (0, .nameAndType 5 6), (0, u "java/lang/Object"), (0, u "<init>"), (0, u "()V"), (0, .fieldref 8 9), (0, .class_ 10), (0, .nameAndType 11 12), (0, u "com/example/tempered_tableau/temperedtableau/reasoner/tableau/Dependencies"), (0, u "latest"), (0, u "I"), (0, .fieldref 8 14), (0, .nameAndType 15 16), (0, u "earlier"), (0, u "Lcom/example/tempered_tableau/temperedtableau/reasoner/tableau/Dependencies;"), (0, .fieldref 8 18), (0, .nameAndType 19 16), (0, u "NONE"), (0, .methodref 8 21), (0, .nameAndType 5 22), (0, u "(ILcom/example/tempered_tableau/temperedtableau/reasoner/tableau/Dependencies;)V"), (12, u "of"), (0, u "(I)Lcom/example/tempered_tableau/temperedtableau/reasoner/tableau/Dependencies;"), (0, u "isEmpty"), (0, u "()Z"), (1, u "()I"), (3, u "before")] 3

def k2c0 : Code := { maxStack := 2, maxLocals := 3, code := prog_10_method_1_code, exceptionTable := #[], attributes := #[] }
def k2m0 : Method := { name := "<init>", desc := "(ILcom/example/tempered_tableau/temperedtableau/reasoner/tableau/Dependencies;)V", sig := { parameters := [.int, (.object "com/example/tempered_tableau/temperedtableau/reasoner/tableau/Dependencies")], returnType := none }, accessFlags := 2, code := some k2c0 }
def k2c1 : Code := { maxStack := 4, maxLocals := 1, code := prog_10_method_2_code, exceptionTable := #[], attributes := #[] }
def k2m1 : Method := { name := "of", desc := "(I)Lcom/example/tempered_tableau/temperedtableau/reasoner/tableau/Dependencies;", sig := { parameters := [.int], returnType := some (.object "com/example/tempered_tableau/temperedtableau/reasoner/tableau/Dependencies") }, accessFlags := 8, code := some k2c1 }
def k2c2 : Code := { maxStack := 2, maxLocals := 1, code := prog_10_method_3_code, exceptionTable := #[], attributes := #[] }
def k2m2 : Method := { name := "isEmpty", desc := "()Z", sig := { parameters := [], returnType := some .boolean }, accessFlags := 0, code := some k2c2 }
def k2c3 : Code := { maxStack := 1, maxLocals := 1, code := prog_10_method_4_code, exceptionTable := #[], attributes := #[] }
def k2m3 : Method := { name := "latest", desc := "()I", sig := { parameters := [], returnType := some .int }, accessFlags := 0, code := some k2c3 }
def k2c4 : Code := { maxStack := 2, maxLocals := 3, code := prog_10_method_7_code, exceptionTable := #[], attributes := #[] }
def k2m4 : Method := { name := "before", desc := "(I)Lcom/example/tempered_tableau/temperedtableau/reasoner/tableau/Dependencies;", sig := { parameters := [.int], returnType := some (.object "com/example/tempered_tableau/temperedtableau/reasoner/tableau/Dependencies") }, accessFlags := 0, code := some k2c4 }
/-- com/example/tempered_tableau/temperedtableau/reasoner/tableau/Dependencies -/
def k2 : Class := { plain "com/example/tempered_tableau/temperedtableau/reasoner/tableau/Dependencies" (some 0) with
  accessFlags := 48
  interfaces := #[]
  cf := some (fileOf pool2 8 #[] #[{ accessFlags := 2, nameIndex := 5, descriptorIndex := 22, attributes := #[] }, { accessFlags := 8, nameIndex := 35, descriptorIndex := 36, attributes := #[] }, { accessFlags := 0, nameIndex := 37, descriptorIndex := 38, attributes := #[] }, { accessFlags := 0, nameIndex := 11, descriptorIndex := 40, attributes := #[] }, { accessFlags := 0, nameIndex := 44, descriptorIndex := 36, attributes := #[] }] 48 2 #[] #[{ accessFlags := 24, nameIndex := 19, descriptorIndex := 16, attributes := #[] }, { accessFlags := 18, nameIndex := 11, descriptorIndex := 12, attributes := #[] }, { accessFlags := 18, nameIndex := 15, descriptorIndex := 16, attributes := #[] }])
  fields := #[{ name := "NONE", type := (.object "com/example/tempered_tableau/temperedtableau/reasoner/tableau/Dependencies"), accessFlags := 24, slot := 0, constantValue := 0 }, { name := "latest", type := .int, accessFlags := 18, slot := 0, constantValue := 0 }, { name := "earlier", type := (.object "com/example/tempered_tableau/temperedtableau/reasoner/tableau/Dependencies"), accessFlags := 18, slot := 1, constantValue := 0 }]
  methods := #[k2m0, k2m1, k2m2, k2m3, k2m4]
  instanceTypes := #[.int, (.object "com/example/tempered_tableau/temperedtableau/reasoner/tableau/Dependencies")]
  staticTypes := #[(.object "com/example/tempered_tableau/temperedtableau/reasoner/tableau/Dependencies")]
  resolved := Array.replicate 48 none
  statics := some 0 }

def pool3 : Array CpInfo := pool [(1, u "java/lang/Cloneable"), (0, .class_ 1), (0, u "java/lang/Object"), (0, .class_ 3)] 3

/-- java/lang/Cloneable -/
def k3 : Class := { plain "java/lang/Cloneable" (some 0) with
  accessFlags := 1537
  interfaces := #[]
  cf := some (fileOf pool3 2 #[] #[] 1537 4 #[] #[])
  fields := #[]
  methods := #[]
  instanceTypes := #[]
  staticTypes := #[]
  resolved := Array.replicate 8 none
  statics := none }

def pool4 : Array CpInfo := pool [(1, u "java/io/Serializable"), (0, .class_ 1), (0, u "java/lang/Object"), (0, .class_ 3)] 3

/-- java/io/Serializable -/
def k4 : Class := { plain "java/io/Serializable" (some 0) with
  accessFlags := 1537
  interfaces := #[]
  cf := some (fileOf pool4 2 #[] #[] 1537 4 #[] #[])
  fields := #[]
  methods := #[]
  instanceTypes := #[]
  staticTypes := #[]
  resolved := Array.replicate 8 none
  statics := none }

/-- the primitive byte -/
def k5 : Class := { plain "byte" none with kind := .primitive 'B', accessFlags := 0x411 }
/-- [B -/
def k6 : Class := { plain "[B" (some 0) with kind := .array 5 .byte, interfaces := #[3, 4], accessFlags := 1041 }

/-- the primitive int -/
def k7 : Class := { plain "int" none with kind := .primitive 'I', accessFlags := 0x411 }
/-- [I -/
def k8 : Class := { plain "[I" (some 0) with kind := .array 7 .int, interfaces := #[3, 4], accessFlags := 1041 }

def heap : Heap := #[{ cls := 2, slots := #[.ref 1], vm := .statics 2 },
  { cls := 2, slots := #[.int 0, .null], vm := .none }]
def classes : Array Class := #[k0, k1, k2, k3, k4, k5, k6, k7, k8]
def interned : List (Array UInt16 × Addr) := []
def slotsUsed : Nat := 3
def theMethod : MethodId := ⟨1, 1⟩
def args0 : Array Value := #[.int 5, .int 3]
def aboutOver (below : List Frame) : State where
  vm := { classes := classes, interned := interned.toArray }
  heap := heap
  slotsUsed := slotsUsed
  threads := #[{ frames := .invoking theMethod args0 :: below }]
def below0 : List Frame := [.native { method := ⟨0, 0⟩, args := #[] }]
def about1 : State := aboutOver below0
def p0 : Program := .bare "" "" ""
def e0 : Env := launch0.env 0 0 0
theorem w_frames : about1.frames = Frame.invoking theMethod args0 :: below0 := rfl
set_option maxRecDepth 65536 in
theorem w_args : argsFit about1.vm theMethod args0 = true := by decide +kernel
set_option maxRecDepth 65536 in
theorem w_heap : heapFits about1 = true := by decide +kernel
set_option maxRecDepth 65536 in
theorem w_runnable : about1.curStatus? = some .runnable := by decide +kernel
set_option maxRecDepth 65536 in
theorem w_alone : about1.alone = true := by decide +kernel
set_option maxRecDepth 65536 in
theorem w_named : about1.methodNamed? x = some theMethod := by decide +kernel
set_option maxRecDepth 65536 in
theorem w_hears : about1.hears theMethod below0 = true := by decide +kernel
set_option maxRecDepth 65536 in
theorem w_ripe : about1.ripe theMethod args0 below0 = true := by decide +kernel
theorem w_running : about1.status = .running := rfl
set_option maxRecDepth 65536 in
theorem w_room : about1.hasRoom e0.platform room_1 = true :=
  launch0.hasRoom_least _ room_1 (by decide +kernel) (by decide +kernel) (by decide +kernel) (by decide +kernel) (by decide +kernel) (by decide +kernel)
theorem allAtoms_all (ts : List Jvm.Cond) (a : Array Jvm.Value) (st : Jvm.State) : (allAtoms ts).before a st = ts.all (fun c => c.before a st) := by
  induction ts with
  | nil => rfl
  | cons c t ih =>
    show (Jvm.Cond.and c (allAtoms t)).before a st = _
    rw [Jvm.Cond.before_and, ih, List.all_cons]
def words1 : List Jvm.Cond := Jvm.Cond.code x code maxLocals ret :: tables_1
/-- a 'code' word, met by the world's own term for the bytes: nothing is compared byte by byte -/
theorem code_word {y : MethodName} {bytes : ByteArray} {mx : Nat} {rt : Option FieldType} {a : Array Value} {s : State} {m : MethodId} {meth : Method} {c : Code} (h1 : s.methodNamed? y = some m) (h2 : s.vm.method? m = some meth) (h3 : meth.code = some c) (h4 : c.code = bytes)
    (h5 : (c.maxLocals == mx && c.exceptionTable.isEmpty && decide (c.maxStack ≤ mostOperands) && decide (meth.sig.returnType = rt) && !meth.locks && decide (parseMethodDescriptor y.desc = some meth.sig)) = true) : (Jvm.Cond.code y bytes mx rt).before a s = true := by
  simp only [Bool.and_eq_true, beq_iff_eq, Bool.not_eq_true', decide_eq_true_eq] at h5
  obtain ⟨⟨⟨⟨⟨g1, g2⟩, g3⟩, g4⟩, g5⟩, g6⟩ := h5
  simp [Cond.before, Cond.holds, Cond.value, h1, h2, h3, h4, g1, g2, g3, g4, g5, g6]
def isCode : Jvm.Cond → Bool
  | .code _ _ _ _ => true
  | _ => false
theorem all_split {L : List Jvm.Cond} {P : Jvm.Cond → Bool} (h1 : L.all (fun c => isCode c || P c) = true) (h2 : ∀ c ∈ L.filter isCode, P c = true) : L.all P = true := by
  refine List.all_eq_true.mpr fun c hc => ?_
  have h := List.all_eq_true.mp h1 c hc
  rcases Bool.eq_false_or_eq_true (isCode c) with hi | hi
  · exact h2 c (List.mem_filter.mpr ⟨hc, hi⟩)
  · simpa [hi] using h
set_option maxRecDepth 65536 in
theorem w_c0 : (Jvm.Cond.code x code maxLocals ret).before args0 about1 = true := code_word (m := ⟨1, 1⟩) (meth := k1m1) (c := k1c1) (by decide +kernel) rfl rfl rfl (by decide +kernel)
set_option maxRecDepth 65536 in
theorem w_c1 : (Jvm.Cond.code ({ cls := "com/example/tempered_tableau/temperedtableau/reasoner/tableau/Dependencies", name := "of", desc := "(I)Lcom/example/tempered_tableau/temperedtableau/reasoner/tableau/Dependencies;" } : Jvm.MethodName) prog_10_method_2_code (1 : Nat) (Option.some (Jvm.ClassFile.FieldType.object "com/example/tempered_tableau/temperedtableau/reasoner/tableau/Dependencies"))).before args0 about1 = true := code_word (m := ⟨2, 1⟩) (meth := k2m1) (c := k2c1) (by decide +kernel) rfl rfl rfl (by decide +kernel)
set_option maxRecDepth 65536 in
theorem w_c2 : (Jvm.Cond.code ({ cls := "com/example/tempered_tableau/temperedtableau/reasoner/tableau/Dependencies", name := "<init>", desc := "(ILcom/example/tempered_tableau/temperedtableau/reasoner/tableau/Dependencies;)V" } : Jvm.MethodName) prog_10_method_1_code (3 : Nat) (Option.none : Option Jvm.ClassFile.FieldType)).before args0 about1 = true := code_word (m := ⟨2, 0⟩) (meth := k2m0) (c := k2c0) (by decide +kernel) rfl rfl rfl (by decide +kernel)
set_option maxRecDepth 65536 in
theorem w_c3 : (Jvm.Cond.code ({ cls := "java/lang/Object", name := "<init>", desc := "()V" } : Jvm.MethodName) object_method_1_code (1 : Nat) (Option.none : Option Jvm.ClassFile.FieldType)).before args0 about1 = true := code_word (m := ⟨0, 0⟩) (meth := k0m0) (c := k0c0) (by decide +kernel) rfl rfl rfl (by decide +kernel)
set_option maxRecDepth 65536 in
theorem w_c4 : (Jvm.Cond.code ({ cls := "com/example/tempered_tableau/temperedtableau/reasoner/tableau/Dependencies", name := "isEmpty", desc := "()Z" } : Jvm.MethodName) prog_10_method_3_code (1 : Nat) (Option.some Jvm.ClassFile.FieldType.boolean)).before args0 about1 = true := code_word (m := ⟨2, 2⟩) (meth := k2m2) (c := k2c2) (by decide +kernel) rfl rfl rfl (by decide +kernel)
set_option maxRecDepth 65536 in
theorem w_c5 : (Jvm.Cond.code ({ cls := "com/example/tempered_tableau/temperedtableau/reasoner/tableau/Dependencies", name := "latest", desc := "()I" } : Jvm.MethodName) prog_10_method_4_code (1 : Nat) (Option.some Jvm.ClassFile.FieldType.int)).before args0 about1 = true := code_word (m := ⟨2, 3⟩) (meth := k2m3) (c := k2c3) (by decide +kernel) rfl rfl rfl (by decide +kernel)
set_option maxRecDepth 65536 in
theorem w_c6 : (Jvm.Cond.code ({ cls := "com/example/tempered_tableau/temperedtableau/reasoner/tableau/Dependencies", name := "before", desc := "(I)Lcom/example/tempered_tableau/temperedtableau/reasoner/tableau/Dependencies;" } : Jvm.MethodName) prog_10_method_7_code (3 : Nat) (Option.some (Jvm.ClassFile.FieldType.object "com/example/tempered_tableau/temperedtableau/reasoner/tableau/Dependencies"))).before args0 about1 = true := code_word (m := ⟨2, 4⟩) (meth := k2m4) (c := k2c4) (by decide +kernel) rfl rfl rfl (by decide +kernel)
def codes1 : List Jvm.Cond := [Jvm.Cond.code x code maxLocals ret, Jvm.Cond.code ({ cls := "com/example/tempered_tableau/temperedtableau/reasoner/tableau/Dependencies", name := "of", desc := "(I)Lcom/example/tempered_tableau/temperedtableau/reasoner/tableau/Dependencies;" } : Jvm.MethodName) prog_10_method_2_code (1 : Nat) (Option.some (Jvm.ClassFile.FieldType.object "com/example/tempered_tableau/temperedtableau/reasoner/tableau/Dependencies")), Jvm.Cond.code ({ cls := "com/example/tempered_tableau/temperedtableau/reasoner/tableau/Dependencies", name := "<init>", desc := "(ILcom/example/tempered_tableau/temperedtableau/reasoner/tableau/Dependencies;)V" } : Jvm.MethodName) prog_10_method_1_code (3 : Nat) (Option.none : Option Jvm.ClassFile.FieldType), Jvm.Cond.code ({ cls := "java/lang/Object", name := "<init>", desc := "()V" } : Jvm.MethodName) object_method_1_code (1 : Nat) (Option.none : Option Jvm.ClassFile.FieldType), Jvm.Cond.code ({ cls := "com/example/tempered_tableau/temperedtableau/reasoner/tableau/Dependencies", name := "isEmpty", desc := "()Z" } : Jvm.MethodName) prog_10_method_3_code (1 : Nat) (Option.some Jvm.ClassFile.FieldType.boolean), Jvm.Cond.code ({ cls := "com/example/tempered_tableau/temperedtableau/reasoner/tableau/Dependencies", name := "latest", desc := "()I" } : Jvm.MethodName) prog_10_method_4_code (1 : Nat) (Option.some Jvm.ClassFile.FieldType.int), Jvm.Cond.code ({ cls := "com/example/tempered_tableau/temperedtableau/reasoner/tableau/Dependencies", name := "before", desc := "(I)Lcom/example/tempered_tableau/temperedtableau/reasoner/tableau/Dependencies;" } : Jvm.MethodName) prog_10_method_7_code (3 : Nat) (Option.some (Jvm.ClassFile.FieldType.object "com/example/tempered_tableau/temperedtableau/reasoner/tableau/Dependencies"))]
set_option maxRecDepth 65536 in
theorem codes_eq : words1.filter isCode = codes1 := rfl
theorem w_codes : ∀ c ∈ words1.filter isCode, c.before args0 about1 = true := by
  rw [codes_eq]
  intro c hc
  simp only [codes1, List.mem_cons, List.not_mem_nil, or_false] at hc
  rcases hc with rfl | rfl | rfl | rfl | rfl | rfl | rfl
  · exact w_c0
  · exact w_c1
  · exact w_c2
  · exact w_c3
  · exact w_c4
  · exact w_c5
  · exact w_c6
set_option maxRecDepth 65536 in
theorem w_t1 : (words1.take 24).all (fun c => isCode c || c.before args0 about1) = true := by decide +kernel
set_option maxRecDepth 65536 in
theorem w_t2 : (words1.drop 24).all (fun c => isCode c || c.before args0 about1) = true := by decide +kernel
theorem w_tables : (allAtoms (Jvm.Cond.code x code maxLocals ret :: tables_1)).before args0 about1 = true := by
  rw [allAtoms_all]
  show words1.all (fun c => c.before args0 about1) = true
  refine all_split ?_ w_codes
  rw [← List.take_append_drop 24 words1, List.all_append, w_t1, w_t2]
  rfl
set_option maxRecDepth 65536 in
theorem w_case : (Jvm.Cond.and given_1 narrow_1).before args0 about1 = true := by decide +kernel
theorem w_applies : (headSpec (Jvm.Cond.code x code maxLocals ret :: tables_1) room_1).applies x e0.platform about1 = true :=
  (Spec.applies_iff w_frames).mpr ⟨w_running, w_runnable, w_alone, w_named, w_hears, w_ripe, w_room, w_tables⟩
theorem atStart : AtStart classFile x code maxLocals ret World_1 tables_1 room_1 Calls_1 rest_1 Pre_1 launch0 p0 e0 about1 theMethod args0 below0 :=
  ⟨lists_1, trivial, launch0.admits_env _ _ _, launch0.least_env, fairChoices_fair.cas, fairChoices_fair.clock, w_frames, w_args, w_heap, w_applies, trivial, trivial, w_case⟩
end start1
theorem witness_1 : WitnessClaimed_1 := ⟨start1.p0, start1.e0, start1.about1, start1.theMethod, start1.args0, start1.below0, start1.atStart⟩
end Jvm.Pilot.@@N@@
