import JvmDerived
import JvmDerived.Pilot.@@N@@Statement
import JvmDerived.Pilot.@@N@@Code
set_option linter.unusedVariables false
set_option linter.unusedSimpArgs false
namespace Jvm.RoadKit
open Sem ClassFile Op Lib Jvm.Stand Jvm.Free Jvm.LawKit
section New
variable {p : Program} {l : Launch} {e : Env} {R : Room} {s : State} {m : MethodId} {args : Array Value} {below : List Frame} {meth : Method} {c : Code} {T : State} {locs : List Loc} {cells slots : Nat}
theorem retI (X : Stand p l e R s m args below meth c T locs cells slots) (hx : p.tables.exec = Jvm.exec) {pc : Nat} {Ls : Array Slot} {z : Int32} {rest : List Value} (hret : meth.sig.returnType = some .int) (hd : decode c.code pc = .ok (.ireturn, 1)) {fs : List Frame}
    (hl : ∀ (f : JFrame) (acts : List Action), f.method = m → f.locked = none → f.entered = [] → (doReturn e (T.setTop f) acts (some (.int z))).1 = T.setFrames fs) : Steps p.tables e below (T.setTop (mkF m pc Ls (.int z :: rest))) (T.setFrames fs) := by
  have hm' : T.vm.method? m = some meth := X.method'
  have hn : narrow .int (.int z) = .int z := rfl
  show Steps p.tables e below (T.setTop { method := m, pc := pc, locals := Ls, stack := _ :: rest, locked := none }) _
  jvm_step X.here [X.here.top, hx, hd, hm', hret, hn]
  first | (intro acts; rw [hl _ acts rfl rfl rfl]) | rw [hl _ _ rfl rfl rfl]
  exact Steps.refl _
end New
theorem own_old_le {Z : State} {n0 : Nat} {h : Heap} (O : Old Z n0 h) : n0 ≤ h.size := O.1 ▸ O.2.1
theorem own_reb {s Z : State} {vm1 : Vm} {n : Nat} {own : String} {i : ClassId} (hZ : Z.Warmed39 s.vm) (hown : s.vm.findClass own = some i) (h2 : s.Since vm1 n) : Z.Warmed39 (s.setVm vm1).vm ∧ (s.setVm vm1).vm.findClass own = some i := ⟨State.Warmed39.trans hZ h2.1, (h2.1.alike.findClass _ _).trans hown⟩
theorem own_keep_eq {h0 h h' : Heap} {ws : List Addr} (K : Keep h0 h ws) (e : h' = h) : Keep h0 h' ws := e ▸ K
end Jvm.RoadKit
namespace Jvm.Pilot.@@N@@
open Jvm Jvm.ClassFile Sem Op Lib Jvm.Free Jvm.Stand Jvm.LawKit Jvm.RoadKit Bundle Jvm.Pilot.@@N@@.Jvm.D
theorem w_0 {a0 : Array Value} {Z : State} (hw : ∀ d ∈ tables_1, d.before a0 Z = true) : (Jvm.Cond.classLink "com/example/lotista/lotista/retorno/FormIsTextPinLaw" (7 : Nat) "com/example/lotista/lotista/retorno/EventField$Form").before a0 Z = true := hw _ (List.mem_of_getElem? (i := 0) rfl)
theorem w_1 {a0 : Array Value} {Z : State} (hw : ∀ d ∈ tables_1, d.before a0 Z = true) : (Jvm.Cond.arrayOver (Jvm.ClassFile.FieldType.object "com/example/lotista/lotista/retorno/EventField$Form")).before a0 Z = true := hw _ (List.mem_of_getElem? (i := 1) rfl)
theorem w_2 {a0 : Array Value} {Z : State} (hw : ∀ d ∈ tables_1, d.before a0 Z = true) : (Jvm.Cond.fieldLink "com/example/lotista/lotista/retorno/FormIsTextPinLaw" (9 : Nat) "com/example/lotista/lotista/retorno/EventField$Form" "NUMBER" "Lcom/example/lotista/lotista/retorno/EventField$Form;").before a0 Z = true := hw _ (List.mem_of_getElem? (i := 2) rfl)
theorem w_3 {a0 : Array Value} {Z : State} (hw : ∀ d ∈ tables_1, d.before a0 Z = true) : (Jvm.Cond.initialized "com/example/lotista/lotista/retorno/EventField$Form").before a0 Z = true := hw _ (List.mem_of_getElem? (i := 3) rfl)
theorem w_4 {a0 : Array Value} {Z : State} (hw : ∀ d ∈ tables_1, d.before a0 Z = true) : (Jvm.Cond.laysStatic "com/example/lotista/lotista/retorno/EventField$Form" "NUMBER" "Lcom/example/lotista/lotista/retorno/EventField$Form;").before a0 Z = true := hw _ (List.mem_of_getElem? (i := 4) rfl)
theorem w_6 {a0 : Array Value} {Z : State} (hw : ∀ d ∈ tables_1, d.before a0 Z = true) : (Jvm.Cond.fieldLink "com/example/lotista/lotista/retorno/FormIsTextPinLaw" (13 : Nat) "com/example/lotista/lotista/retorno/EventField$Form" "CODE" "Lcom/example/lotista/lotista/retorno/EventField$Form;").before a0 Z = true := hw _ (List.mem_of_getElem? (i := 6) rfl)
theorem w_7 {a0 : Array Value} {Z : State} (hw : ∀ d ∈ tables_1, d.before a0 Z = true) : (Jvm.Cond.laysStatic "com/example/lotista/lotista/retorno/EventField$Form" "CODE" "Lcom/example/lotista/lotista/retorno/EventField$Form;").before a0 Z = true := hw _ (List.mem_of_getElem? (i := 7) rfl)
theorem w_8 {a0 : Array Value} {Z : State} (hw : ∀ d ∈ tables_1, d.before a0 Z = true) : (Jvm.Cond.fieldLink "com/example/lotista/lotista/retorno/FormIsTextPinLaw" (16 : Nat) "com/example/lotista/lotista/retorno/EventField$Form" "ALPHANUMERIC_CODE" "Lcom/example/lotista/lotista/retorno/EventField$Form;").before a0 Z = true := hw _ (List.mem_of_getElem? (i := 8) rfl)
theorem w_9 {a0 : Array Value} {Z : State} (hw : ∀ d ∈ tables_1, d.before a0 Z = true) : (Jvm.Cond.laysStatic "com/example/lotista/lotista/retorno/EventField$Form" "ALPHANUMERIC_CODE" "Lcom/example/lotista/lotista/retorno/EventField$Form;").before a0 Z = true := hw _ (List.mem_of_getElem? (i := 9) rfl)
theorem w_10 {a0 : Array Value} {Z : State} (hw : ∀ d ∈ tables_1, d.before a0 Z = true) : (Jvm.Cond.fieldLink "com/example/lotista/lotista/retorno/FormIsTextPinLaw" (19 : Nat) "com/example/lotista/lotista/retorno/EventField$Form" "TEXT" "Lcom/example/lotista/lotista/retorno/EventField$Form;").before a0 Z = true := hw _ (List.mem_of_getElem? (i := 10) rfl)
theorem w_11 {a0 : Array Value} {Z : State} (hw : ∀ d ∈ tables_1, d.before a0 Z = true) : (Jvm.Cond.laysStatic "com/example/lotista/lotista/retorno/EventField$Form" "TEXT" "Lcom/example/lotista/lotista/retorno/EventField$Form;").before a0 Z = true := hw _ (List.mem_of_getElem? (i := 11) rfl)
theorem w_12 {a0 : Array Value} {Z : State} (hw : ∀ d ∈ tables_1, d.before a0 Z = true) : (Jvm.Cond.fieldLink "com/example/lotista/lotista/retorno/FormIsTextPinLaw" (22 : Nat) "com/example/lotista/lotista/retorno/EventField$Form" "MONEY" "Lcom/example/lotista/lotista/retorno/EventField$Form;").before a0 Z = true := hw _ (List.mem_of_getElem? (i := 12) rfl)
theorem w_13 {a0 : Array Value} {Z : State} (hw : ∀ d ∈ tables_1, d.before a0 Z = true) : (Jvm.Cond.laysStatic "com/example/lotista/lotista/retorno/EventField$Form" "MONEY" "Lcom/example/lotista/lotista/retorno/EventField$Form;").before a0 Z = true := hw _ (List.mem_of_getElem? (i := 13) rfl)
theorem w_14 {a0 : Array Value} {Z : State} (hw : ∀ d ∈ tables_1, d.before a0 Z = true) : (Jvm.Cond.fieldLink "com/example/lotista/lotista/retorno/FormIsTextPinLaw" (25 : Nat) "com/example/lotista/lotista/retorno/EventField$Form" "DATE" "Lcom/example/lotista/lotista/retorno/EventField$Form;").before a0 Z = true := hw _ (List.mem_of_getElem? (i := 14) rfl)
theorem w_15 {a0 : Array Value} {Z : State} (hw : ∀ d ∈ tables_1, d.before a0 Z = true) : (Jvm.Cond.laysStatic "com/example/lotista/lotista/retorno/EventField$Form" "DATE" "Lcom/example/lotista/lotista/retorno/EventField$Form;").before a0 Z = true := hw _ (List.mem_of_getElem? (i := 15) rfl)
theorem w_16 {a0 : Array Value} {Z : State} (hw : ∀ d ∈ tables_1, d.before a0 Z = true) : (Jvm.Cond.fieldLink "com/example/lotista/lotista/retorno/FormIsTextPinLaw" (28 : Nat) "com/example/lotista/lotista/retorno/EventField$Form" "GIVEN_DATE" "Lcom/example/lotista/lotista/retorno/EventField$Form;").before a0 Z = true := hw _ (List.mem_of_getElem? (i := 16) rfl)
theorem w_17 {a0 : Array Value} {Z : State} (hw : ∀ d ∈ tables_1, d.before a0 Z = true) : (Jvm.Cond.laysStatic "com/example/lotista/lotista/retorno/EventField$Form" "GIVEN_DATE" "Lcom/example/lotista/lotista/retorno/EventField$Form;").before a0 Z = true := hw _ (List.mem_of_getElem? (i := 17) rfl)
theorem w_18 {a0 : Array Value} {Z : State} (hw : ∀ d ∈ tables_1, d.before a0 Z = true) : (Jvm.Cond.fieldLink "com/example/lotista/lotista/retorno/FormIsTextPinLaw" (31 : Nat) "com/example/lotista/lotista/retorno/EventField$Form" "CODES" "Lcom/example/lotista/lotista/retorno/EventField$Form;").before a0 Z = true := hw _ (List.mem_of_getElem? (i := 18) rfl)
theorem w_19 {a0 : Array Value} {Z : State} (hw : ∀ d ∈ tables_1, d.before a0 Z = true) : (Jvm.Cond.laysStatic "com/example/lotista/lotista/retorno/EventField$Form" "CODES" "Lcom/example/lotista/lotista/retorno/EventField$Form;").before a0 Z = true := hw _ (List.mem_of_getElem? (i := 19) rfl)
theorem w_20 {a0 : Array Value} {Z : State} (hw : ∀ d ∈ tables_1, d.before a0 Z = true) : (Jvm.Cond.constant "com/example/lotista/lotista/retorno/FormIsTextPinLaw" (34 : Nat) (2147483647 : Int32)).before a0 Z = true := hw _ (List.mem_of_getElem? (i := 20) rfl)
theorem w_21 {a0 : Array Value} {Z : State} (hw : ∀ d ∈ tables_1, d.before a0 Z = true) : (Jvm.Cond.methodLink "com/example/lotista/lotista/retorno/FormIsTextPinLaw" (35 : Nat) ({ cls := "com/example/lotista/lotista/retorno/EventField$Form", name := "isText", desc := "()Z" } : Jvm.MethodName)).before a0 Z = true := hw _ (List.mem_of_getElem? (i := 21) rfl)
theorem w_22 {a0 : Array Value} {Z : State} (hw : ∀ d ∈ tables_1, d.before a0 Z = true) : (Jvm.Cond.declares ({ cls := "com/example/lotista/lotista/retorno/EventField$Form", name := "isText", desc := "()Z" } : Jvm.MethodName)).before a0 Z = true := hw _ (List.mem_of_getElem? (i := 22) rfl)
theorem w_23 {a0 : Array Value} {Z : State} (hw : ∀ d ∈ tables_1, d.before a0 Z = true) : (Jvm.Cond.instanceMethod ({ cls := "com/example/lotista/lotista/retorno/EventField$Form", name := "isText", desc := "()Z" } : Jvm.MethodName)).before a0 Z = true := hw _ (List.mem_of_getElem? (i := 23) rfl)
theorem w_24 {a0 : Array Value} {Z : State} (hw : ∀ d ∈ tables_1, d.before a0 Z = true) : (Jvm.Cond.selects "com/example/lotista/lotista/retorno/EventField$Form" ({ cls := "com/example/lotista/lotista/retorno/EventField$Form", name := "isText", desc := "()Z" } : Jvm.MethodName) ({ cls := "com/example/lotista/lotista/retorno/EventField$Form", name := "isText", desc := "()Z" } : Jvm.MethodName)).before a0 Z = true := hw _ (List.mem_of_getElem? (i := 24) rfl)
theorem w_25 {a0 : Array Value} {Z : State} (hw : ∀ d ∈ tables_1, d.before a0 Z = true) : (Jvm.Cond.code ({ cls := "com/example/lotista/lotista/retorno/EventField$Form", name := "isText", desc := "()Z" } : Jvm.MethodName) prog_123_method_4_code (1 : Nat) (Option.some Jvm.ClassFile.FieldType.boolean)).before a0 Z = true := hw _ (List.mem_of_getElem? (i := 25) rfl)
theorem w_26 {a0 : Array Value} {Z : State} (hw : ∀ d ∈ tables_1, d.before a0 Z = true) : (Jvm.Cond.fieldLink "com/example/lotista/lotista/retorno/EventField$Form" (7 : Nat) "com/example/lotista/lotista/retorno/EventField$Form" "CODE" "Lcom/example/lotista/lotista/retorno/EventField$Form;").before a0 Z = true := hw _ (List.mem_of_getElem? (i := 26) rfl)
theorem w_27 {a0 : Array Value} {Z : State} (hw : ∀ d ∈ tables_1, d.before a0 Z = true) : (Jvm.Cond.fieldLink "com/example/lotista/lotista/retorno/EventField$Form" (10 : Nat) "com/example/lotista/lotista/retorno/EventField$Form" "ALPHANUMERIC_CODE" "Lcom/example/lotista/lotista/retorno/EventField$Form;").before a0 Z = true := hw _ (List.mem_of_getElem? (i := 27) rfl)
theorem w_28 {a0 : Array Value} {Z : State} (hw : ∀ d ∈ tables_1, d.before a0 Z = true) : (Jvm.Cond.fieldLink "com/example/lotista/lotista/retorno/EventField$Form" (13 : Nat) "com/example/lotista/lotista/retorno/EventField$Form" "TEXT" "Lcom/example/lotista/lotista/retorno/EventField$Form;").before a0 Z = true := hw _ (List.mem_of_getElem? (i := 28) rfl)
theorem d1_0 : decode prog_123_method_4_code 0 = .ok (.aload_n 0, 1) := by decide +kernel
theorem d1_1 : decode prog_123_method_4_code 1 = .ok (.getstatic 7, 3) := by decide +kernel
theorem d1_4 : decode prog_123_method_4_code 4 = .ok (.if_acmp .eq 17, 3) := by decide +kernel
theorem d1_21 : decode prog_123_method_4_code 21 = .ok (.iconst 1, 1) := by decide +kernel
theorem d1_22 : decode prog_123_method_4_code 22 = .ok (.goto 4, 3) := by decide +kernel
theorem d1_26 : decode prog_123_method_4_code 26 = .ok (.ireturn, 1) := by decide +kernel
def Q_t1 (Z : State) (w1 : Addr) (h0 : Heap) (n0 : Nat) (v : Option Value) (h : Heap) (L : List Loc) : Prop := v = some (.int (1 : Int32)) ∧ Fr n0 L ∧ Keep h0 h []
theorem pn_com_example_lotista_lotista_retorno_EventField_Form : plainName "com/example/lotista/lotista/retorno/EventField$Form" = true := by first | (simp [plainName, overriddenIn]; done) | decide +kernel
theorem ef_rm_t1 (m : MethodId) (x0 : Addr) : entryFrame m #[(.ref x0)] 1 = mkF m 0 #[.val (.ref x0)] [] := by first | (simp [entryFrame, mkF, argsToLocals, Value.category]; done) | rfl
set_option maxRecDepth 65536 in
set_option maxHeartbeats 40000000 in
theorem rm_t1 (l : Launch) (Z : State) (a0 : Array Value) (hw : ∀ d ∈ tables_1, d.before a0 Z = true) (ws : List Jvm.Cond) (w1 : Addr) (h0 : Heap) (n0 : Nat) (O0 : Old Z n0 h0) (S1 : Sta Z Z.heap "com/example/lotista/lotista/retorno/EventField$Form" "CODE" "Lcom/example/lotista/lotista/retorno/EventField$Form;" (.ref w1)) :
    MetFree l (⟨"com/example/lotista/lotista/retorno/EventField$Form", "isText", "()Z"⟩ : MethodName) (head1 (Jvm.Cond.code (⟨"com/example/lotista/lotista/retorno/EventField$Form", "isText", "()Z"⟩ : MethodName) prog_123_method_4_code 1 (some .boolean) :: ws) ({ frames := 0, cells := 0, slots := 0, locals := 0 } : Room)) (fun as' U => as' = #[(.ref w1)] ∧ Z.Warmed39 U.vm ∧ U.heap = h0) (fun _ _ _ _ _ => True) (fun _ U o U' => ∃ v L, o = .returned v ∧ Q_t1 Z w1 h0 n0 v U'.heap L ∧ FrameEnd U o U' L ({ frames := 0, cells := 0, slots := 0, locals := 0 } : Room).cells ({ frames := 0, cells := 0, slots := 0, locals := 0 } : Room).slots) := by
  refine MetFree.of_bodySF (plainFor_of_name pn_com_example_lotista_lotista_retorno_EventField_Form) hisR ?_
  intro p e s m args below meth c s₁ Bd hml0 hP hK
  obtain ⟨rfl, hZ, hh⟩ := hP
  have hx := Bd.exec
  have hby := Bd.bytes
  have hml : c.maxLocals = 1 := hml0
  have hown : s.vm.findClass "com/example/lotista/lotista/retorno/EventField$Form" = some m.cls := findClass_of_methodNamed Bd.named
  have hnm := (name_of_methodNamed Bd.named Bd.method).1
  have X0 : Stand p l e ({ frames := 0, cells := 0, slots := 0, locals := 0 } : Room) s m #[(.ref w1)] below meth c s₁ [] 0 0 := Stand.of_body Bd
  have e0 : s₁.heap = h0 := by rw [← hh, Bd.state]; rfl
  have N0 := Fr.nil n0
  have K0 : Keep h0 h0 [] := Keep.refl _ _
  have pre0 : ∀ t, Steps p.tables e below (s₁.setTop (mkF m 0 #[.val (.ref w1)] [])) t → Steps p.tables e below (s₁.setTop (entryFrame m #[(.ref w1)] 1)) t := fun t k => castTop (ef_rm_t1 m w1) k
  obtain ⟨T1, X1, e1, st1⟩ := getS2 X0 hx hZ hown (host := "") (Or.inl (w_26 hw)) Via.refl e0 (S1.ext O0.2) (g := (mkF m 1 #[.val (.ref w1)] [(.ref w1)])) rfl (hb hby d1_1)
  obtain ⟨fs, hr, hrun, hended, hW, hsame⟩ := X1.leave (v := some (.int (1 : Int32))) (fun h => by rw [Bd.returns] at h; cases h)
  refine ⟨_, _, pre0 _ ?_, hrun, hended, _, _, rfl, ?_, ⟨_, rfl⟩, hW, hsame.mono (by decide) (by decide)⟩
  · show Steps p.tables e below (s₁.setTop (mkF m 0 #[.val (.ref w1)] [])) _
    refine XS.aloadN X0.here hx rfl (hb hby d1_0) rfl rfl ?_
    show Steps p.tables e below (s₁.setTop (mkF m 1 #[.val (.ref w1)] [(.ref w1)])) _
    refine st1 _ ?_
    show Steps p.tables e below (T1.setTop (mkF m 4 #[.val (.ref w1)] [(.ref w1), (.ref w1)])) _
    refine Jvm.RoadKit.acmp (g := (mkF m 4 #[.val (.ref w1)] [(.ref w1), (.ref w1)])) X1 hx rfl rfl rfl (pc0 := 4) (pc' := 21) (same := true) rfl (hb hby d1_4) rfl (decide_eq_true rfl) (by decide) (by decide) ?_
    show Steps p.tables e below (T1.setTop (mkF m 21 #[.val (.ref w1)] [])) _
    refine XS.iconst X1.here hx rfl (hb hby d1_21) ?_
    show Steps p.tables e below (T1.setTop (mkF m 22 #[.val (.ref w1)] [(.int (1 : Int32))])) _
    refine XS.goto X1.here hx rfl (pc0 := 22) (pc' := 26) rfl (hb hby d1_22) (by decide) (by decide) ?_
    show Steps p.tables e below (T1.setTop (mkF m 26 #[.val (.ref w1)] [(.int (1 : Int32))])) _
    exact retN X1 hx (t := .boolean) Bd.returns (by simp) (hb hby d1_26) hr
  · show Q_t1 Z w1 h0 n0 _ T1.heap _
    rw [e1]
    exact ⟨rfl, N0, K0⟩
theorem d1_7 : decode prog_123_method_4_code 7 = .ok (.aload_n 0, 1) := by decide +kernel
theorem d1_8 : decode prog_123_method_4_code 8 = .ok (.getstatic 10, 3) := by decide +kernel
theorem d1_11 : decode prog_123_method_4_code 11 = .ok (.if_acmp .eq 10, 3) := by decide +kernel
def Q_t2 (Z : State) (w1 : Addr) (w2 : Addr) (h0 : Heap) (n0 : Nat) (v : Option Value) (h : Heap) (L : List Loc) : Prop := v = some (.int (1 : Int32)) ∧ Fr n0 L ∧ Keep h0 h []
theorem ef_rm_t2 (m : MethodId) (x0 : Addr) : entryFrame m #[(.ref x0)] 1 = mkF m 0 #[.val (.ref x0)] [] := by first | (simp [entryFrame, mkF, argsToLocals, Value.category]; done) | rfl
set_option maxRecDepth 65536 in
set_option maxHeartbeats 40000000 in
theorem rm_t2 (l : Launch) (Z : State) (a0 : Array Value) (hw : ∀ d ∈ tables_1, d.before a0 Z = true) (ws : List Jvm.Cond) (w1 : Addr) (w2 : Addr) (h0 : Heap) (n0 : Nat) (O0 : Old Z n0 h0) (S1 : Sta Z Z.heap "com/example/lotista/lotista/retorno/EventField$Form" "CODE" "Lcom/example/lotista/lotista/retorno/EventField$Form;" (.ref w1)) (S2 : Sta Z Z.heap "com/example/lotista/lotista/retorno/EventField$Form" "ALPHANUMERIC_CODE" "Lcom/example/lotista/lotista/retorno/EventField$Form;" (.ref w2)) (n1 : w2 ≠ w1) :
    MetFree l (⟨"com/example/lotista/lotista/retorno/EventField$Form", "isText", "()Z"⟩ : MethodName) (head1 (Jvm.Cond.code (⟨"com/example/lotista/lotista/retorno/EventField$Form", "isText", "()Z"⟩ : MethodName) prog_123_method_4_code 1 (some .boolean) :: ws) ({ frames := 0, cells := 0, slots := 0, locals := 0 } : Room)) (fun as' U => as' = #[(.ref w2)] ∧ Z.Warmed39 U.vm ∧ U.heap = h0) (fun _ _ _ _ _ => True) (fun _ U o U' => ∃ v L, o = .returned v ∧ Q_t2 Z w1 w2 h0 n0 v U'.heap L ∧ FrameEnd U o U' L ({ frames := 0, cells := 0, slots := 0, locals := 0 } : Room).cells ({ frames := 0, cells := 0, slots := 0, locals := 0 } : Room).slots) := by
  refine MetFree.of_bodySF (plainFor_of_name pn_com_example_lotista_lotista_retorno_EventField_Form) hisR ?_
  intro p e s m args below meth c s₁ Bd hml0 hP hK
  obtain ⟨rfl, hZ, hh⟩ := hP
  have hx := Bd.exec
  have hby := Bd.bytes
  have hml : c.maxLocals = 1 := hml0
  have hown : s.vm.findClass "com/example/lotista/lotista/retorno/EventField$Form" = some m.cls := findClass_of_methodNamed Bd.named
  have hnm := (name_of_methodNamed Bd.named Bd.method).1
  have X0 : Stand p l e ({ frames := 0, cells := 0, slots := 0, locals := 0 } : Room) s m #[(.ref w2)] below meth c s₁ [] 0 0 := Stand.of_body Bd
  have e0 : s₁.heap = h0 := by rw [← hh, Bd.state]; rfl
  have N0 := Fr.nil n0
  have K0 : Keep h0 h0 [] := Keep.refl _ _
  have pre0 : ∀ t, Steps p.tables e below (s₁.setTop (mkF m 0 #[.val (.ref w2)] [])) t → Steps p.tables e below (s₁.setTop (entryFrame m #[(.ref w2)] 1)) t := fun t k => castTop (ef_rm_t2 m w2) k
  obtain ⟨T1, X1, e1, st1⟩ := getS2 X0 hx hZ hown (host := "") (Or.inl (w_26 hw)) Via.refl e0 (S1.ext O0.2) (g := (mkF m 1 #[.val (.ref w2)] [(.ref w2)])) rfl (hb hby d1_1)
  obtain ⟨T8, X8, e8, st8⟩ := getS2 X1 hx hZ hown (host := "") (Or.inl (w_27 hw)) Via.refl e1 (S2.ext O0.2) (g := (mkF m 8 #[.val (.ref w2)] [(.ref w2)])) rfl (hb hby d1_8)
  obtain ⟨fs, hr, hrun, hended, hW, hsame⟩ := X8.leave (v := some (.int (1 : Int32))) (fun h => by rw [Bd.returns] at h; cases h)
  refine ⟨_, _, pre0 _ ?_, hrun, hended, _, _, rfl, ?_, ⟨_, rfl⟩, hW, hsame.mono (by decide) (by decide)⟩
  · show Steps p.tables e below (s₁.setTop (mkF m 0 #[.val (.ref w2)] [])) _
    refine XS.aloadN X0.here hx rfl (hb hby d1_0) rfl rfl ?_
    show Steps p.tables e below (s₁.setTop (mkF m 1 #[.val (.ref w2)] [(.ref w2)])) _
    refine st1 _ ?_
    show Steps p.tables e below (T1.setTop (mkF m 4 #[.val (.ref w2)] [(.ref w1), (.ref w2)])) _
    refine Jvm.RoadKit.acmp (g := (mkF m 4 #[.val (.ref w2)] [(.ref w1), (.ref w2)])) X1 hx rfl rfl rfl (pc0 := 4) (pc' := 7) (same := false) rfl (hb hby d1_4) rfl (decide_eq_false fun q => n1 (Value.ref.inj q)) (by decide) (by decide) ?_
    show Steps p.tables e below (T1.setTop (mkF m 7 #[.val (.ref w2)] [])) _
    refine XS.aloadN X1.here hx rfl (hb hby d1_7) rfl rfl ?_
    show Steps p.tables e below (T1.setTop (mkF m 8 #[.val (.ref w2)] [(.ref w2)])) _
    refine st8 _ ?_
    show Steps p.tables e below (T8.setTop (mkF m 11 #[.val (.ref w2)] [(.ref w2), (.ref w2)])) _
    refine Jvm.RoadKit.acmp (g := (mkF m 11 #[.val (.ref w2)] [(.ref w2), (.ref w2)])) X8 hx rfl rfl rfl (pc0 := 11) (pc' := 21) (same := true) rfl (hb hby d1_11) rfl (decide_eq_true rfl) (by decide) (by decide) ?_
    show Steps p.tables e below (T8.setTop (mkF m 21 #[.val (.ref w2)] [])) _
    refine XS.iconst X8.here hx rfl (hb hby d1_21) ?_
    show Steps p.tables e below (T8.setTop (mkF m 22 #[.val (.ref w2)] [(.int (1 : Int32))])) _
    refine XS.goto X8.here hx rfl (pc0 := 22) (pc' := 26) rfl (hb hby d1_22) (by decide) (by decide) ?_
    show Steps p.tables e below (T8.setTop (mkF m 26 #[.val (.ref w2)] [(.int (1 : Int32))])) _
    exact retN X8 hx (t := .boolean) Bd.returns (by simp) (hb hby d1_26) hr
  · show Q_t2 Z w1 w2 h0 n0 _ T8.heap _
    rw [e8]
    exact ⟨rfl, N0, K0⟩
theorem d1_14 : decode prog_123_method_4_code 14 = .ok (.aload_n 0, 1) := by decide +kernel
theorem d1_15 : decode prog_123_method_4_code 15 = .ok (.getstatic 13, 3) := by decide +kernel
theorem d1_18 : decode prog_123_method_4_code 18 = .ok (.if_acmp .ne 7, 3) := by decide +kernel
def Q_t3 (Z : State) (w1 : Addr) (w2 : Addr) (w3 : Addr) (h0 : Heap) (n0 : Nat) (v : Option Value) (h : Heap) (L : List Loc) : Prop := v = some (.int (1 : Int32)) ∧ Fr n0 L ∧ Keep h0 h []
theorem ef_rm_t3 (m : MethodId) (x0 : Addr) : entryFrame m #[(.ref x0)] 1 = mkF m 0 #[.val (.ref x0)] [] := by first | (simp [entryFrame, mkF, argsToLocals, Value.category]; done) | rfl
set_option maxRecDepth 65536 in
set_option maxHeartbeats 40000000 in
theorem rm_t3 (l : Launch) (Z : State) (a0 : Array Value) (hw : ∀ d ∈ tables_1, d.before a0 Z = true) (ws : List Jvm.Cond) (w1 : Addr) (w2 : Addr) (w3 : Addr) (h0 : Heap) (n0 : Nat) (O0 : Old Z n0 h0) (S1 : Sta Z Z.heap "com/example/lotista/lotista/retorno/EventField$Form" "CODE" "Lcom/example/lotista/lotista/retorno/EventField$Form;" (.ref w1)) (S2 : Sta Z Z.heap "com/example/lotista/lotista/retorno/EventField$Form" "ALPHANUMERIC_CODE" "Lcom/example/lotista/lotista/retorno/EventField$Form;" (.ref w2)) (S3 : Sta Z Z.heap "com/example/lotista/lotista/retorno/EventField$Form" "TEXT" "Lcom/example/lotista/lotista/retorno/EventField$Form;" (.ref w3)) (n1 : w3 ≠ w1) (n2 : w3 ≠ w2) :
    MetFree l (⟨"com/example/lotista/lotista/retorno/EventField$Form", "isText", "()Z"⟩ : MethodName) (head1 (Jvm.Cond.code (⟨"com/example/lotista/lotista/retorno/EventField$Form", "isText", "()Z"⟩ : MethodName) prog_123_method_4_code 1 (some .boolean) :: ws) ({ frames := 0, cells := 0, slots := 0, locals := 0 } : Room)) (fun as' U => as' = #[(.ref w3)] ∧ Z.Warmed39 U.vm ∧ U.heap = h0) (fun _ _ _ _ _ => True) (fun _ U o U' => ∃ v L, o = .returned v ∧ Q_t3 Z w1 w2 w3 h0 n0 v U'.heap L ∧ FrameEnd U o U' L ({ frames := 0, cells := 0, slots := 0, locals := 0 } : Room).cells ({ frames := 0, cells := 0, slots := 0, locals := 0 } : Room).slots) := by
  refine MetFree.of_bodySF (plainFor_of_name pn_com_example_lotista_lotista_retorno_EventField_Form) hisR ?_
  intro p e s m args below meth c s₁ Bd hml0 hP hK
  obtain ⟨rfl, hZ, hh⟩ := hP
  have hx := Bd.exec
  have hby := Bd.bytes
  have hml : c.maxLocals = 1 := hml0
  have hown : s.vm.findClass "com/example/lotista/lotista/retorno/EventField$Form" = some m.cls := findClass_of_methodNamed Bd.named
  have hnm := (name_of_methodNamed Bd.named Bd.method).1
  have X0 : Stand p l e ({ frames := 0, cells := 0, slots := 0, locals := 0 } : Room) s m #[(.ref w3)] below meth c s₁ [] 0 0 := Stand.of_body Bd
  have e0 : s₁.heap = h0 := by rw [← hh, Bd.state]; rfl
  have N0 := Fr.nil n0
  have K0 : Keep h0 h0 [] := Keep.refl _ _
  have pre0 : ∀ t, Steps p.tables e below (s₁.setTop (mkF m 0 #[.val (.ref w3)] [])) t → Steps p.tables e below (s₁.setTop (entryFrame m #[(.ref w3)] 1)) t := fun t k => castTop (ef_rm_t3 m w3) k
  obtain ⟨T1, X1, e1, st1⟩ := getS2 X0 hx hZ hown (host := "") (Or.inl (w_26 hw)) Via.refl e0 (S1.ext O0.2) (g := (mkF m 1 #[.val (.ref w3)] [(.ref w3)])) rfl (hb hby d1_1)
  obtain ⟨T8, X8, e8, st8⟩ := getS2 X1 hx hZ hown (host := "") (Or.inl (w_27 hw)) Via.refl e1 (S2.ext O0.2) (g := (mkF m 8 #[.val (.ref w3)] [(.ref w3)])) rfl (hb hby d1_8)
  obtain ⟨T15, X15, e15, st15⟩ := getS2 X8 hx hZ hown (host := "") (Or.inl (w_28 hw)) Via.refl e8 (S3.ext O0.2) (g := (mkF m 15 #[.val (.ref w3)] [(.ref w3)])) rfl (hb hby d1_15)
  obtain ⟨fs, hr, hrun, hended, hW, hsame⟩ := X15.leave (v := some (.int (1 : Int32))) (fun h => by rw [Bd.returns] at h; cases h)
  refine ⟨_, _, pre0 _ ?_, hrun, hended, _, _, rfl, ?_, ⟨_, rfl⟩, hW, hsame.mono (by decide) (by decide)⟩
  · show Steps p.tables e below (s₁.setTop (mkF m 0 #[.val (.ref w3)] [])) _
    refine XS.aloadN X0.here hx rfl (hb hby d1_0) rfl rfl ?_
    show Steps p.tables e below (s₁.setTop (mkF m 1 #[.val (.ref w3)] [(.ref w3)])) _
    refine st1 _ ?_
    show Steps p.tables e below (T1.setTop (mkF m 4 #[.val (.ref w3)] [(.ref w1), (.ref w3)])) _
    refine Jvm.RoadKit.acmp (g := (mkF m 4 #[.val (.ref w3)] [(.ref w1), (.ref w3)])) X1 hx rfl rfl rfl (pc0 := 4) (pc' := 7) (same := false) rfl (hb hby d1_4) rfl (decide_eq_false fun q => n1 (Value.ref.inj q)) (by decide) (by decide) ?_
    show Steps p.tables e below (T1.setTop (mkF m 7 #[.val (.ref w3)] [])) _
    refine XS.aloadN X1.here hx rfl (hb hby d1_7) rfl rfl ?_
    show Steps p.tables e below (T1.setTop (mkF m 8 #[.val (.ref w3)] [(.ref w3)])) _
    refine st8 _ ?_
    show Steps p.tables e below (T8.setTop (mkF m 11 #[.val (.ref w3)] [(.ref w2), (.ref w3)])) _
    refine Jvm.RoadKit.acmp (g := (mkF m 11 #[.val (.ref w3)] [(.ref w2), (.ref w3)])) X8 hx rfl rfl rfl (pc0 := 11) (pc' := 14) (same := false) rfl (hb hby d1_11) rfl (decide_eq_false fun q => n2 (Value.ref.inj q)) (by decide) (by decide) ?_
    show Steps p.tables e below (T8.setTop (mkF m 14 #[.val (.ref w3)] [])) _
    refine XS.aloadN X8.here hx rfl (hb hby d1_14) rfl rfl ?_
    show Steps p.tables e below (T8.setTop (mkF m 15 #[.val (.ref w3)] [(.ref w3)])) _
    refine st15 _ ?_
    show Steps p.tables e below (T15.setTop (mkF m 18 #[.val (.ref w3)] [(.ref w3), (.ref w3)])) _
    refine Jvm.RoadKit.acmp (g := (mkF m 18 #[.val (.ref w3)] [(.ref w3), (.ref w3)])) X15 hx rfl rfl rfl (pc0 := 18) (pc' := 21) (same := true) rfl (hb hby d1_18) rfl (decide_eq_true rfl) (by decide) (by decide) ?_
    show Steps p.tables e below (T15.setTop (mkF m 21 #[.val (.ref w3)] [])) _
    refine XS.iconst X15.here hx rfl (hb hby d1_21) ?_
    show Steps p.tables e below (T15.setTop (mkF m 22 #[.val (.ref w3)] [(.int (1 : Int32))])) _
    refine XS.goto X15.here hx rfl (pc0 := 22) (pc' := 26) rfl (hb hby d1_22) (by decide) (by decide) ?_
    show Steps p.tables e below (T15.setTop (mkF m 26 #[.val (.ref w3)] [(.int (1 : Int32))])) _
    exact retN X15 hx (t := .boolean) Bd.returns (by simp) (hb hby d1_26) hr
  · show Q_t3 Z w1 w2 w3 h0 n0 _ T15.heap _
    rw [e15]
    exact ⟨rfl, N0, K0⟩
theorem d1_25 : decode prog_123_method_4_code 25 = .ok (.iconst 0, 1) := by decide +kernel
def Q_tN (Z : State) (a : Addr) (w1 : Addr) (w2 : Addr) (w3 : Addr) (h0 : Heap) (n0 : Nat) (v : Option Value) (h : Heap) (L : List Loc) : Prop := v = some (.int (0 : Int32)) ∧ Fr n0 L ∧ Keep h0 h []
theorem ef_rm_tN (m : MethodId) (x0 : Addr) : entryFrame m #[(.ref x0)] 1 = mkF m 0 #[.val (.ref x0)] [] := by first | (simp [entryFrame, mkF, argsToLocals, Value.category]; done) | rfl
set_option maxRecDepth 65536 in
set_option maxHeartbeats 40000000 in
theorem rm_tN (l : Launch) (Z : State) (a0 : Array Value) (hw : ∀ d ∈ tables_1, d.before a0 Z = true) (ws : List Jvm.Cond) (a : Addr) (w1 : Addr) (w2 : Addr) (w3 : Addr) (h0 : Heap) (n0 : Nat) (O0 : Old Z n0 h0) (S1 : Sta Z Z.heap "com/example/lotista/lotista/retorno/EventField$Form" "CODE" "Lcom/example/lotista/lotista/retorno/EventField$Form;" (.ref w1)) (S2 : Sta Z Z.heap "com/example/lotista/lotista/retorno/EventField$Form" "ALPHANUMERIC_CODE" "Lcom/example/lotista/lotista/retorno/EventField$Form;" (.ref w2)) (S3 : Sta Z Z.heap "com/example/lotista/lotista/retorno/EventField$Form" "TEXT" "Lcom/example/lotista/lotista/retorno/EventField$Form;" (.ref w3)) (n1 : a ≠ w1) (n2 : a ≠ w2) (n3 : a ≠ w3) :
    MetFree l (⟨"com/example/lotista/lotista/retorno/EventField$Form", "isText", "()Z"⟩ : MethodName) (head1 (Jvm.Cond.code (⟨"com/example/lotista/lotista/retorno/EventField$Form", "isText", "()Z"⟩ : MethodName) prog_123_method_4_code 1 (some .boolean) :: ws) ({ frames := 0, cells := 0, slots := 0, locals := 0 } : Room)) (fun as' U => as' = #[(.ref a)] ∧ Z.Warmed39 U.vm ∧ U.heap = h0) (fun _ _ _ _ _ => True) (fun _ U o U' => ∃ v L, o = .returned v ∧ Q_tN Z a w1 w2 w3 h0 n0 v U'.heap L ∧ FrameEnd U o U' L ({ frames := 0, cells := 0, slots := 0, locals := 0 } : Room).cells ({ frames := 0, cells := 0, slots := 0, locals := 0 } : Room).slots) := by
  refine MetFree.of_bodySF (plainFor_of_name pn_com_example_lotista_lotista_retorno_EventField_Form) hisR ?_
  intro p e s m args below meth c s₁ Bd hml0 hP hK
  obtain ⟨rfl, hZ, hh⟩ := hP
  have hx := Bd.exec
  have hby := Bd.bytes
  have hml : c.maxLocals = 1 := hml0
  have hown : s.vm.findClass "com/example/lotista/lotista/retorno/EventField$Form" = some m.cls := findClass_of_methodNamed Bd.named
  have hnm := (name_of_methodNamed Bd.named Bd.method).1
  have X0 : Stand p l e ({ frames := 0, cells := 0, slots := 0, locals := 0 } : Room) s m #[(.ref a)] below meth c s₁ [] 0 0 := Stand.of_body Bd
  have e0 : s₁.heap = h0 := by rw [← hh, Bd.state]; rfl
  have N0 := Fr.nil n0
  have K0 : Keep h0 h0 [] := Keep.refl _ _
  have pre0 : ∀ t, Steps p.tables e below (s₁.setTop (mkF m 0 #[.val (.ref a)] [])) t → Steps p.tables e below (s₁.setTop (entryFrame m #[(.ref a)] 1)) t := fun t k => castTop (ef_rm_tN m a) k
  obtain ⟨T1, X1, e1, st1⟩ := getS2 X0 hx hZ hown (host := "") (Or.inl (w_26 hw)) Via.refl e0 (S1.ext O0.2) (g := (mkF m 1 #[.val (.ref a)] [(.ref a)])) rfl (hb hby d1_1)
  obtain ⟨T8, X8, e8, st8⟩ := getS2 X1 hx hZ hown (host := "") (Or.inl (w_27 hw)) Via.refl e1 (S2.ext O0.2) (g := (mkF m 8 #[.val (.ref a)] [(.ref a)])) rfl (hb hby d1_8)
  obtain ⟨T15, X15, e15, st15⟩ := getS2 X8 hx hZ hown (host := "") (Or.inl (w_28 hw)) Via.refl e8 (S3.ext O0.2) (g := (mkF m 15 #[.val (.ref a)] [(.ref a)])) rfl (hb hby d1_15)
  obtain ⟨fs, hr, hrun, hended, hW, hsame⟩ := X15.leave (v := some (.int (0 : Int32))) (fun h => by rw [Bd.returns] at h; cases h)
  refine ⟨_, _, pre0 _ ?_, hrun, hended, _, _, rfl, ?_, ⟨_, rfl⟩, hW, hsame.mono (by decide) (by decide)⟩
  · show Steps p.tables e below (s₁.setTop (mkF m 0 #[.val (.ref a)] [])) _
    refine XS.aloadN X0.here hx rfl (hb hby d1_0) rfl rfl ?_
    show Steps p.tables e below (s₁.setTop (mkF m 1 #[.val (.ref a)] [(.ref a)])) _
    refine st1 _ ?_
    show Steps p.tables e below (T1.setTop (mkF m 4 #[.val (.ref a)] [(.ref w1), (.ref a)])) _
    refine Jvm.RoadKit.acmp (g := (mkF m 4 #[.val (.ref a)] [(.ref w1), (.ref a)])) X1 hx rfl rfl rfl (pc0 := 4) (pc' := 7) (same := false) rfl (hb hby d1_4) rfl (decide_eq_false fun q => n1 (Value.ref.inj q)) (by decide) (by decide) ?_
    show Steps p.tables e below (T1.setTop (mkF m 7 #[.val (.ref a)] [])) _
    refine XS.aloadN X1.here hx rfl (hb hby d1_7) rfl rfl ?_
    show Steps p.tables e below (T1.setTop (mkF m 8 #[.val (.ref a)] [(.ref a)])) _
    refine st8 _ ?_
    show Steps p.tables e below (T8.setTop (mkF m 11 #[.val (.ref a)] [(.ref w2), (.ref a)])) _
    refine Jvm.RoadKit.acmp (g := (mkF m 11 #[.val (.ref a)] [(.ref w2), (.ref a)])) X8 hx rfl rfl rfl (pc0 := 11) (pc' := 14) (same := false) rfl (hb hby d1_11) rfl (decide_eq_false fun q => n2 (Value.ref.inj q)) (by decide) (by decide) ?_
    show Steps p.tables e below (T8.setTop (mkF m 14 #[.val (.ref a)] [])) _
    refine XS.aloadN X8.here hx rfl (hb hby d1_14) rfl rfl ?_
    show Steps p.tables e below (T8.setTop (mkF m 15 #[.val (.ref a)] [(.ref a)])) _
    refine st15 _ ?_
    show Steps p.tables e below (T15.setTop (mkF m 18 #[.val (.ref a)] [(.ref w3), (.ref a)])) _
    refine Jvm.RoadKit.acmp (g := (mkF m 18 #[.val (.ref a)] [(.ref w3), (.ref a)])) X15 hx rfl rfl rfl (pc0 := 18) (pc' := 25) (same := false) rfl (hb hby d1_18) rfl (decide_eq_false fun q => n3 (Value.ref.inj q)) (by decide) (by decide) ?_
    show Steps p.tables e below (T15.setTop (mkF m 25 #[.val (.ref a)] [])) _
    refine XS.iconst X15.here hx rfl (hb hby d1_25) ?_
    show Steps p.tables e below (T15.setTop (mkF m 26 #[.val (.ref a)] [(.int (0 : Int32))])) _
    exact retN X15 hx (t := .boolean) Bd.returns (by simp) (hb hby d1_26) hr
  · show Q_tN Z a w1 w2 w3 h0 n0 _ T15.heap _
    rw [e15]
    exact ⟨rfl, N0, K0⟩
theorem pd_0 : parseMethodDescriptor "()Z" = some ⟨[], some .boolean⟩ := by decide +kernel
def Q_law (Z : State) (p1 : Int32) (w0 : Addr) (w1 : Addr) (w2 : Addr) (w3 : Addr) (w4 : Addr) (w5 : Addr) (w6 : Addr) (w7 : Addr) (h0 : Heap) (n0 : Nat) (v : Option Value) (h : Heap) (L : List Loc) : Prop := v = some (.int (1 : Int32)) ∧ Fr n0 L ∧ Keep h0 h []
theorem pn_com_example_lotista_lotista_retorno_FormIsTextPinLaw : plainName "com/example/lotista/lotista/retorno/FormIsTextPinLaw" = true := by first | (simp [plainName, overriddenIn]; done) | decide +kernel
theorem ef_rm_law_0 (m : MethodId) (x0 : Int32) : entryFrame m #[(.int x0)] maxLocals = mkF m 0 #[.val (.int x0), .unset, .unset, .unset] [] := by first | (simp [entryFrame, mkF, argsToLocals, Value.category, maxLocals]; done) | rfl
set_option maxRecDepth 65536 in
set_option maxHeartbeats 40000000 in
theorem rm_law_0 (l : Launch) (Z : State) (a0 : Array Value) (hw : ∀ d ∈ tables_1, d.before a0 Z = true) (ws : List Jvm.Cond) (p1 : Int32) (w0 : Addr) (w1 : Addr) (w2 : Addr) (w3 : Addr) (w4 : Addr) (w5 : Addr) (w6 : Addr) (w7 : Addr) (h0 : Heap) (n0 : Nat) (O0 : Old Z n0 h0) (S0 : Sta Z Z.heap "com/example/lotista/lotista/retorno/EventField$Form" "NUMBER" "Lcom/example/lotista/lotista/retorno/EventField$Form;" (.ref w0)) (S1 : Sta Z Z.heap "com/example/lotista/lotista/retorno/EventField$Form" "CODE" "Lcom/example/lotista/lotista/retorno/EventField$Form;" (.ref w1)) (S2 : Sta Z Z.heap "com/example/lotista/lotista/retorno/EventField$Form" "ALPHANUMERIC_CODE" "Lcom/example/lotista/lotista/retorno/EventField$Form;" (.ref w2)) (S3 : Sta Z Z.heap "com/example/lotista/lotista/retorno/EventField$Form" "TEXT" "Lcom/example/lotista/lotista/retorno/EventField$Form;" (.ref w3)) (S4 : Sta Z Z.heap "com/example/lotista/lotista/retorno/EventField$Form" "MONEY" "Lcom/example/lotista/lotista/retorno/EventField$Form;" (.ref w4)) (S5 : Sta Z Z.heap "com/example/lotista/lotista/retorno/EventField$Form" "DATE" "Lcom/example/lotista/lotista/retorno/EventField$Form;" (.ref w5)) (S6 : Sta Z Z.heap "com/example/lotista/lotista/retorno/EventField$Form" "GIVEN_DATE" "Lcom/example/lotista/lotista/retorno/EventField$Form;" (.ref w6)) (S7 : Sta Z Z.heap "com/example/lotista/lotista/retorno/EventField$Form" "CODES" "Lcom/example/lotista/lotista/retorno/EventField$Form;" (.ref w7)) (E0 : Exa Z Z.heap w0 "com/example/lotista/lotista/retorno/EventField$Form") (E1 : Exa Z Z.heap w1 "com/example/lotista/lotista/retorno/EventField$Form") (E2 : Exa Z Z.heap w2 "com/example/lotista/lotista/retorno/EventField$Form") (E3 : Exa Z Z.heap w3 "com/example/lotista/lotista/retorno/EventField$Form") (E4 : Exa Z Z.heap w4 "com/example/lotista/lotista/retorno/EventField$Form") (E5 : Exa Z Z.heap w5 "com/example/lotista/lotista/retorno/EventField$Form") (E6 : Exa Z Z.heap w6 "com/example/lotista/lotista/retorno/EventField$Form") (E7 : Exa Z Z.heap w7 "com/example/lotista/lotista/retorno/EventField$Form") (n0_1 : w0 ≠ w1) (n0_2 : w0 ≠ w2) (n0_3 : w0 ≠ w3) (n2_1 : w2 ≠ w1) (n3_1 : w3 ≠ w1) (n3_2 : w3 ≠ w2) (n4_1 : w4 ≠ w1) (n4_2 : w4 ≠ w2) (n4_3 : w4 ≠ w3) (n5_1 : w5 ≠ w1) (n5_2 : w5 ≠ w2) (n5_3 : w5 ≠ w3) (n6_1 : w6 ≠ w1) (n6_2 : w6 ≠ w2) (n6_3 : w6 ≠ w3) (n7_1 : w7 ≠ w1) (n7_2 : w7 ≠ w2) (n7_3 : w7 ≠ w3) (hi : ((p1 &&& (2147483647 : Int32)) % (8 : Int32)) = (0 : Int32)) :
    MetFree l x (head1 (Jvm.Cond.code x code maxLocals ret :: ws) room_1) (fun as' U => as' = #[(.int p1)] ∧ Z.Warmed39 U.vm ∧ U.heap = h0) (fun _ _ _ _ _ => True) (fun _ U o U' => ∃ v L, o = .returned v ∧ Q_law Z p1 w0 w1 w2 w3 w4 w5 w6 w7 h0 n0 v U'.heap L ∧ FrameEnd U o U' L room_1.cells room_1.slots) := by
  refine MetFree.of_bodySF (plainFor_of_name pn_com_example_lotista_lotista_retorno_FormIsTextPinLaw) hisR ?_
  intro p e s m args below meth c s₁ Bd hml0 hP hK
  obtain ⟨rfl, hZ, hh⟩ := hP
  have hx := Bd.exec
  have hby := Bd.bytes
  have hml : c.maxLocals = 4 := hml0
  have hown : s.vm.findClass "com/example/lotista/lotista/retorno/FormIsTextPinLaw" = some m.cls := findClass_of_methodNamed Bd.named
  have hnm := (name_of_methodNamed Bd.named Bd.method).1
  have X0 : Stand p l e room_1 s m #[(.int p1)] below meth c s₁ [] 0 0 := Stand.of_body Bd
  have e0 : s₁.heap = h0 := by rw [← hh, Bd.state]; rfl
  have N0 := Fr.nil n0
  have K0 : Keep h0 h0 [] := Keep.refl _ _
  have pre0 : ∀ t, Steps p.tables e below (s₁.setTop (mkF m 0 #[.val (.int p1), .unset, .unset, .unset] [])) t → Steps p.tables e below (s₁.setTop (entryFrame m #[(.int p1)] maxLocals)) t := fun t k => castTop (ef_rm_law_0 m p1) k
  obtain ⟨T2, h2, kc2, X2, e2, Ex2, Aa2, Bb2, Ov2, st2⟩ := newRE X0 hx hZ hown (w_0 hw) (w_1 hw) e0 (g := (mkF m 2 #[.val (.int p1), .unset, .unset, .unset] [(.int (8 : Int32))])) rfl (hb hby at_2) rfl (by decide) (cap := 8) (by decide) (by decide) (by decide) (by decide) (ad := "[Lcom/example/lotista/lotista/retorno/EventField$Form;") (by first | rfl | decide +kernel)
  obtain ⟨b2, gg2⟩ : ∃ z, z = h0.size := ⟨_, rfl⟩
  rw [← gg2] at Aa2 Bb2 st2
  have f1 : Keep h0 h2 [] := K0.ext Ex2
  have f2 : Old Z n0 h2 := O0.ext Ex2
  have f3 : Arv Z h2 b2 kc2 (.object "com/example/lotista/lotista/retorno/EventField$Form") (8 : Int32) [.null, .null, .null, .null, .null, .null, .null, .null] .null := (Arv.new Aa2 (by decide)).pad (pad_rep [] .null 8)
  obtain ⟨T7, X7, e7, st7⟩ := getS2 X2 hx hZ hown (host := "") (Or.inl (w_2 hw)) Via.refl e2 (S0.ext f2.2) (g := (mkF m 7 #[.val (.int p1), .unset, .unset, .unset] [(.int (0 : Int32)), (.ref b2), (.ref b2)])) rfl (hb hby at_7)
  obtain ⟨cl10, Ar10, qq10, Sz10, NN10, HH10, GG10⟩ := (id f3)
  have hin10 : ¬ ((0 : Int32) < 0 ∨ cl10.slots.size ≤ ((0 : Int32)).toNatClampNeg) := inb_of Sz10 ⟨by decide, by decide⟩
  obtain ⟨T10, h10, X10, e10, Wr10, st10⟩ := stR X7 hx hZ e7 Ar10 (j := (0 : Int32)) hin10 rfl (Sto.ofV Ar10 qq10 Ov2 (Ins.self (E0.ext f2.2))) (g := (mkF m 10 #[.val (.int p1), .unset, .unset, .unset] [(.ref w0), (.int (0 : Int32)), (.ref b2), (.ref b2)])) rfl rfl (hb hby at_10)
  have f5 : h0.size ≤ b2 := Nat.le_trans K0.1 (Nat.le_of_eq gg2.symm)
  have f6 : n0 ≤ b2 := Nat.le_trans (own_old_le O0) (Nat.le_of_eq gg2.symm)
  have f7 : Keep h0 h10 [] := f1.wr Wr10 (Or.inr f5)
  have f8 : Old Z n0 h10 := f2.wr Wr10 f6
  have f9 : Arv Z h10 b2 kc2 (.object "com/example/lotista/lotista/retorno/EventField$Form") (8 : Int32) [(.ref w0), .null, .null, .null, .null, .null, .null, .null] .null := Arv.set Ar10 qq10 Sz10 NN10 HH10 GG10 rfl Wr10 0 rfl (Nat.le_of_ble_eq_true rfl)
  have N10 := Fr.snoc X10 N0 f6
  obtain ⟨T13, X13, e13, st13⟩ := getS2 X10 hx hZ hown (host := "") (Or.inl (w_6 hw)) Via.refl e10 (S1.ext f8.2) (g := (mkF m 13 #[.val (.int p1), .unset, .unset, .unset] [(.int (1 : Int32)), (.ref b2), (.ref b2)])) rfl (hb hby at_13)
  obtain ⟨cl16, Ar16, qq16, Sz16, NN16, HH16, GG16⟩ := (id f9)
  have hin16 : ¬ ((1 : Int32) < 0 ∨ cl16.slots.size ≤ ((1 : Int32)).toNatClampNeg) := inb_of Sz16 ⟨by decide, by decide⟩
  obtain ⟨T16, h16, X16, e16, Wr16, st16⟩ := stR X13 hx hZ e13 Ar16 (j := (1 : Int32)) hin16 rfl (Sto.ofV Ar16 qq16 Ov2 (Ins.self (E1.ext f8.2))) (g := (mkF m 16 #[.val (.int p1), .unset, .unset, .unset] [(.ref w1), (.int (1 : Int32)), (.ref b2), (.ref b2)])) rfl rfl (hb hby at_16)
  have f11 : Keep h0 h16 [] := f7.wr Wr16 (Or.inr f5)
  have f12 : Old Z n0 h16 := f8.wr Wr16 f6
  have f13 : Arv Z h16 b2 kc2 (.object "com/example/lotista/lotista/retorno/EventField$Form") (8 : Int32) [(.ref w0), (.ref w1), .null, .null, .null, .null, .null, .null] .null := Arv.set Ar16 qq16 Sz16 NN16 HH16 GG16 rfl Wr16 1 rfl (Nat.le_of_ble_eq_true rfl)
  have N16 := Fr.snoc X16 N10 f6
  obtain ⟨T19, X19, e19, st19⟩ := getS2 X16 hx hZ hown (host := "") (Or.inl (w_8 hw)) Via.refl e16 (S2.ext f12.2) (g := (mkF m 19 #[.val (.int p1), .unset, .unset, .unset] [(.int (2 : Int32)), (.ref b2), (.ref b2)])) rfl (hb hby at_19)
  obtain ⟨cl22, Ar22, qq22, Sz22, NN22, HH22, GG22⟩ := (id f13)
  have hin22 : ¬ ((2 : Int32) < 0 ∨ cl22.slots.size ≤ ((2 : Int32)).toNatClampNeg) := inb_of Sz22 ⟨by decide, by decide⟩
  obtain ⟨T22, h22, X22, e22, Wr22, st22⟩ := stR X19 hx hZ e19 Ar22 (j := (2 : Int32)) hin22 rfl (Sto.ofV Ar22 qq22 Ov2 (Ins.self (E2.ext f12.2))) (g := (mkF m 22 #[.val (.int p1), .unset, .unset, .unset] [(.ref w2), (.int (2 : Int32)), (.ref b2), (.ref b2)])) rfl rfl (hb hby at_22)
  have f15 : Keep h0 h22 [] := f11.wr Wr22 (Or.inr f5)
  have f16 : Old Z n0 h22 := f12.wr Wr22 f6
  have f17 : Arv Z h22 b2 kc2 (.object "com/example/lotista/lotista/retorno/EventField$Form") (8 : Int32) [(.ref w0), (.ref w1), (.ref w2), .null, .null, .null, .null, .null] .null := Arv.set Ar22 qq22 Sz22 NN22 HH22 GG22 rfl Wr22 2 rfl (Nat.le_of_ble_eq_true rfl)
  have N22 := Fr.snoc X22 N16 f6
  obtain ⟨T25, X25, e25, st25⟩ := getS2 X22 hx hZ hown (host := "") (Or.inl (w_10 hw)) Via.refl e22 (S3.ext f16.2) (g := (mkF m 25 #[.val (.int p1), .unset, .unset, .unset] [(.int (3 : Int32)), (.ref b2), (.ref b2)])) rfl (hb hby at_25)
  obtain ⟨cl28, Ar28, qq28, Sz28, NN28, HH28, GG28⟩ := (id f17)
  have hin28 : ¬ ((3 : Int32) < 0 ∨ cl28.slots.size ≤ ((3 : Int32)).toNatClampNeg) := inb_of Sz28 ⟨by decide, by decide⟩
  obtain ⟨T28, h28, X28, e28, Wr28, st28⟩ := stR X25 hx hZ e25 Ar28 (j := (3 : Int32)) hin28 rfl (Sto.ofV Ar28 qq28 Ov2 (Ins.self (E3.ext f16.2))) (g := (mkF m 28 #[.val (.int p1), .unset, .unset, .unset] [(.ref w3), (.int (3 : Int32)), (.ref b2), (.ref b2)])) rfl rfl (hb hby at_28)
  have f19 : Keep h0 h28 [] := f15.wr Wr28 (Or.inr f5)
  have f20 : Old Z n0 h28 := f16.wr Wr28 f6
  have f21 : Arv Z h28 b2 kc2 (.object "com/example/lotista/lotista/retorno/EventField$Form") (8 : Int32) [(.ref w0), (.ref w1), (.ref w2), (.ref w3), .null, .null, .null, .null] .null := Arv.set Ar28 qq28 Sz28 NN28 HH28 GG28 rfl Wr28 3 rfl (Nat.le_of_ble_eq_true rfl)
  have N28 := Fr.snoc X28 N22 f6
  obtain ⟨T31, X31, e31, st31⟩ := getS2 X28 hx hZ hown (host := "") (Or.inl (w_12 hw)) Via.refl e28 (S4.ext f20.2) (g := (mkF m 31 #[.val (.int p1), .unset, .unset, .unset] [(.int (4 : Int32)), (.ref b2), (.ref b2)])) rfl (hb hby at_31)
  obtain ⟨cl34, Ar34, qq34, Sz34, NN34, HH34, GG34⟩ := (id f21)
  have hin34 : ¬ ((4 : Int32) < 0 ∨ cl34.slots.size ≤ ((4 : Int32)).toNatClampNeg) := inb_of Sz34 ⟨by decide, by decide⟩
  obtain ⟨T34, h34, X34, e34, Wr34, st34⟩ := stR X31 hx hZ e31 Ar34 (j := (4 : Int32)) hin34 rfl (Sto.ofV Ar34 qq34 Ov2 (Ins.self (E4.ext f20.2))) (g := (mkF m 34 #[.val (.int p1), .unset, .unset, .unset] [(.ref w4), (.int (4 : Int32)), (.ref b2), (.ref b2)])) rfl rfl (hb hby at_34)
  have f23 : Keep h0 h34 [] := f19.wr Wr34 (Or.inr f5)
  have f24 : Old Z n0 h34 := f20.wr Wr34 f6
  have f25 : Arv Z h34 b2 kc2 (.object "com/example/lotista/lotista/retorno/EventField$Form") (8 : Int32) [(.ref w0), (.ref w1), (.ref w2), (.ref w3), (.ref w4), .null, .null, .null] .null := Arv.set Ar34 qq34 Sz34 NN34 HH34 GG34 rfl Wr34 4 rfl (Nat.le_of_ble_eq_true rfl)
  have N34 := Fr.snoc X34 N28 f6
  obtain ⟨T37, X37, e37, st37⟩ := getS2 X34 hx hZ hown (host := "") (Or.inl (w_14 hw)) Via.refl e34 (S5.ext f24.2) (g := (mkF m 37 #[.val (.int p1), .unset, .unset, .unset] [(.int (5 : Int32)), (.ref b2), (.ref b2)])) rfl (hb hby at_37)
  obtain ⟨cl40, Ar40, qq40, Sz40, NN40, HH40, GG40⟩ := (id f25)
  have hin40 : ¬ ((5 : Int32) < 0 ∨ cl40.slots.size ≤ ((5 : Int32)).toNatClampNeg) := inb_of Sz40 ⟨by decide, by decide⟩
  obtain ⟨T40, h40, X40, e40, Wr40, st40⟩ := stR X37 hx hZ e37 Ar40 (j := (5 : Int32)) hin40 rfl (Sto.ofV Ar40 qq40 Ov2 (Ins.self (E5.ext f24.2))) (g := (mkF m 40 #[.val (.int p1), .unset, .unset, .unset] [(.ref w5), (.int (5 : Int32)), (.ref b2), (.ref b2)])) rfl rfl (hb hby at_40)
  have f27 : Keep h0 h40 [] := f23.wr Wr40 (Or.inr f5)
  have f28 : Old Z n0 h40 := f24.wr Wr40 f6
  have f29 : Arv Z h40 b2 kc2 (.object "com/example/lotista/lotista/retorno/EventField$Form") (8 : Int32) [(.ref w0), (.ref w1), (.ref w2), (.ref w3), (.ref w4), (.ref w5), .null, .null] .null := Arv.set Ar40 qq40 Sz40 NN40 HH40 GG40 rfl Wr40 5 rfl (Nat.le_of_ble_eq_true rfl)
  have N40 := Fr.snoc X40 N34 f6
  obtain ⟨T44, X44, e44, st44⟩ := getS2 X40 hx hZ hown (host := "") (Or.inl (w_16 hw)) Via.refl e40 (S6.ext f28.2) (g := (mkF m 44 #[.val (.int p1), .unset, .unset, .unset] [(.int (6 : Int32)), (.ref b2), (.ref b2)])) rfl (hb hby at_44)
  obtain ⟨cl47, Ar47, qq47, Sz47, NN47, HH47, GG47⟩ := (id f29)
  have hin47 : ¬ ((6 : Int32) < 0 ∨ cl47.slots.size ≤ ((6 : Int32)).toNatClampNeg) := inb_of Sz47 ⟨by decide, by decide⟩
  obtain ⟨T47, h47, X47, e47, Wr47, st47⟩ := stR X44 hx hZ e44 Ar47 (j := (6 : Int32)) hin47 rfl (Sto.ofV Ar47 qq47 Ov2 (Ins.self (E6.ext f28.2))) (g := (mkF m 47 #[.val (.int p1), .unset, .unset, .unset] [(.ref w6), (.int (6 : Int32)), (.ref b2), (.ref b2)])) rfl rfl (hb hby at_47)
  have f31 : Keep h0 h47 [] := f27.wr Wr47 (Or.inr f5)
  have f32 : Old Z n0 h47 := f28.wr Wr47 f6
  have f33 : Arv Z h47 b2 kc2 (.object "com/example/lotista/lotista/retorno/EventField$Form") (8 : Int32) [(.ref w0), (.ref w1), (.ref w2), (.ref w3), (.ref w4), (.ref w5), (.ref w6), .null] .null := Arv.set Ar47 qq47 Sz47 NN47 HH47 GG47 rfl Wr47 6 rfl (Nat.le_of_ble_eq_true rfl)
  have N47 := Fr.snoc X47 N40 f6
  obtain ⟨T51, X51, e51, st51⟩ := getS2 X47 hx hZ hown (host := "") (Or.inl (w_18 hw)) Via.refl e47 (S7.ext f32.2) (g := (mkF m 51 #[.val (.int p1), .unset, .unset, .unset] [(.int (7 : Int32)), (.ref b2), (.ref b2)])) rfl (hb hby at_51)
  obtain ⟨cl54, Ar54, qq54, Sz54, NN54, HH54, GG54⟩ := (id f33)
  have hin54 : ¬ ((7 : Int32) < 0 ∨ cl54.slots.size ≤ ((7 : Int32)).toNatClampNeg) := inb_of Sz54 ⟨by decide, by decide⟩
  obtain ⟨T54, h54, X54, e54, Wr54, st54⟩ := stR X51 hx hZ e51 Ar54 (j := (7 : Int32)) hin54 rfl (Sto.ofV Ar54 qq54 Ov2 (Ins.self (E7.ext f32.2))) (g := (mkF m 54 #[.val (.int p1), .unset, .unset, .unset] [(.ref w7), (.int (7 : Int32)), (.ref b2), (.ref b2)])) rfl rfl (hb hby at_54)
  have f35 : Keep h0 h54 [] := f31.wr Wr54 (Or.inr f5)
  have f36 : Old Z n0 h54 := f32.wr Wr54 f6
  have f37 : Arv Z h54 b2 kc2 (.object "com/example/lotista/lotista/retorno/EventField$Form") (8 : Int32) [(.ref w0), (.ref w1), (.ref w2), (.ref w3), (.ref w4), (.ref w5), (.ref w6), (.ref w7)] .null := Arv.set Ar54 qq54 Sz54 NN54 HH54 GG54 rfl Wr54 7 rfl (Nat.le_of_ble_eq_true rfl)
  have N54 := Fr.snoc X54 N47 f6
  obtain ⟨cl87, Ar87, qq87, Sz87, NN87, HH87, GG87⟩ := (id f37)
  have hin87 : ¬ ((0 : Int32) < 0 ∨ cl87.slots.size ≤ ((0 : Int32)).toNatClampNeg) := inb_of Sz87 ⟨by decide, by decide⟩
  have f39 : cl87.slots[((0 : Int32)).toNatClampNeg]? = some (.ref w0) := HH87.at hin87 rfl
  obtain ⟨cq88, kq88, q88a, q88b, q88c⟩ := isOf hZ e54 (E0.ext f36.2)
  obtain ⟨_, _, ⟨T88, Lo88, kk88, nn88⟩, -, X88, ⟨Lc88, hQ88, ll88, yy88, zz88⟩, st88⟩ := X54.virtualBack hx (y := (⟨"com/example/lotista/lotista/retorno/EventField$Form", "isText", "()Z"⟩ : MethodName)) (z := (⟨"com/example/lotista/lotista/retorno/EventField$Form", "isText", "()Z"⟩ : MethodName)) hown (mvT hZ (w_21 hw)) (mvT hZ (w_22 hw)) (notFace_of_selects (args := #[]) (mvT hZ (w_24 hw))) (mvT hZ (w_24 hw)) (mvT hZ (w_23 hw)) (by decide) (backOf (W := 0) (rm_tN l Z a0 hw [] w0 w1 w2 w3 h54 n0 f36 S1 S2 S3 n0_1 n0_2 n0_3) hZ (w_25 hw) (w_3 hw) (by decide) (by decide)) q88a q88c (g := (mkF m 88 #[.val (.int p1), .val (.ref b2), .val (.int (0 : Int32)), .val (.int (0 : Int32))] [(.ref w0)])) rfl (by rw [hml]; rfl) (Steps.refl _) (argsL := []) (rest := []) (lenOf pd_0 rfl) rfl (by show 2 * 0 + _ ≤ _; exact Nat.le_of_eq rfl) (hb hby at_88) (fun _ _ => ⟨rfl, e54, (by decide : 1 + 0 ≤ _), (by decide : 8 + 0 ≤ _)⟩)
  dsimp only [Pt.U, Pt.locs, Pt.cells, Pt.slots] at X88 ll88 yy88 zz88 st88 hQ88
  subst ll88 yy88 zz88
  obtain ⟨rfl, N88q, K88q⟩ := hQ88
  have N88 := Fr.app N54 N88q
  have f40 : Keep h0 T88.heap [] := f35.trans K88q all0
  have f41 : Old Z n0 T88.heap := f36.keep K88q all0
  obtain ⟨fs, hr, hrun, hended, hW, hsame⟩ := X88.leave (v := some (.int (1 : Int32))) (fun h => by rw [Bd.returns] at h; cases h)
  refine ⟨_, _, pre0 _ ?_, hrun, hended, _, _, rfl, ?_, ⟨_, rfl⟩, hW, hsame.mono (by decide) (by decide)⟩
  · show Steps p.tables e below (s₁.setTop (mkF m 0 #[.val (.int p1), .unset, .unset, .unset] [])) _
    refine XS.bipush X0.here hx rfl (hb hby at_0) ?_
    show Steps p.tables e below (s₁.setTop (mkF m 2 #[.val (.int p1), .unset, .unset, .unset] [(.int (8 : Int32))])) _
    refine st2 _ ?_
    show Steps p.tables e below (T2.setTop (mkF m 5 #[.val (.int p1), .unset, .unset, .unset] [(.ref b2)])) _
    refine XS.dup X2.here hx rfl (hb hby at_5) rfl rfl ?_
    show Steps p.tables e below (T2.setTop (mkF m 6 #[.val (.int p1), .unset, .unset, .unset] [(.ref b2), (.ref b2)])) _
    refine XS.iconst X2.here hx rfl (hb hby at_6) ?_
    show Steps p.tables e below (T2.setTop (mkF m 7 #[.val (.int p1), .unset, .unset, .unset] [(.int (0 : Int32)), (.ref b2), (.ref b2)])) _
    refine st7 _ ?_
    show Steps p.tables e below (T7.setTop (mkF m 10 #[.val (.int p1), .unset, .unset, .unset] [(.ref w0), (.int (0 : Int32)), (.ref b2), (.ref b2)])) _
    refine st10 _ ?_
    show Steps p.tables e below (T10.setTop (mkF m 11 #[.val (.int p1), .unset, .unset, .unset] [(.ref b2)])) _
    refine XS.dup X10.here hx rfl (hb hby at_11) rfl rfl ?_
    show Steps p.tables e below (T10.setTop (mkF m 12 #[.val (.int p1), .unset, .unset, .unset] [(.ref b2), (.ref b2)])) _
    refine XS.iconst X10.here hx rfl (hb hby at_12) ?_
    show Steps p.tables e below (T10.setTop (mkF m 13 #[.val (.int p1), .unset, .unset, .unset] [(.int (1 : Int32)), (.ref b2), (.ref b2)])) _
    refine st13 _ ?_
    show Steps p.tables e below (T13.setTop (mkF m 16 #[.val (.int p1), .unset, .unset, .unset] [(.ref w1), (.int (1 : Int32)), (.ref b2), (.ref b2)])) _
    refine st16 _ ?_
    show Steps p.tables e below (T16.setTop (mkF m 17 #[.val (.int p1), .unset, .unset, .unset] [(.ref b2)])) _
    refine XS.dup X16.here hx rfl (hb hby at_17) rfl rfl ?_
    show Steps p.tables e below (T16.setTop (mkF m 18 #[.val (.int p1), .unset, .unset, .unset] [(.ref b2), (.ref b2)])) _
    refine XS.iconst X16.here hx rfl (hb hby at_18) ?_
    show Steps p.tables e below (T16.setTop (mkF m 19 #[.val (.int p1), .unset, .unset, .unset] [(.int (2 : Int32)), (.ref b2), (.ref b2)])) _
    refine st19 _ ?_
    show Steps p.tables e below (T19.setTop (mkF m 22 #[.val (.int p1), .unset, .unset, .unset] [(.ref w2), (.int (2 : Int32)), (.ref b2), (.ref b2)])) _
    refine st22 _ ?_
    show Steps p.tables e below (T22.setTop (mkF m 23 #[.val (.int p1), .unset, .unset, .unset] [(.ref b2)])) _
    refine XS.dup X22.here hx rfl (hb hby at_23) rfl rfl ?_
    show Steps p.tables e below (T22.setTop (mkF m 24 #[.val (.int p1), .unset, .unset, .unset] [(.ref b2), (.ref b2)])) _
    refine XS.iconst X22.here hx rfl (hb hby at_24) ?_
    show Steps p.tables e below (T22.setTop (mkF m 25 #[.val (.int p1), .unset, .unset, .unset] [(.int (3 : Int32)), (.ref b2), (.ref b2)])) _
    refine st25 _ ?_
    show Steps p.tables e below (T25.setTop (mkF m 28 #[.val (.int p1), .unset, .unset, .unset] [(.ref w3), (.int (3 : Int32)), (.ref b2), (.ref b2)])) _
    refine st28 _ ?_
    show Steps p.tables e below (T28.setTop (mkF m 29 #[.val (.int p1), .unset, .unset, .unset] [(.ref b2)])) _
    refine XS.dup X28.here hx rfl (hb hby at_29) rfl rfl ?_
    show Steps p.tables e below (T28.setTop (mkF m 30 #[.val (.int p1), .unset, .unset, .unset] [(.ref b2), (.ref b2)])) _
    refine XS.iconst X28.here hx rfl (hb hby at_30) ?_
    show Steps p.tables e below (T28.setTop (mkF m 31 #[.val (.int p1), .unset, .unset, .unset] [(.int (4 : Int32)), (.ref b2), (.ref b2)])) _
    refine st31 _ ?_
    show Steps p.tables e below (T31.setTop (mkF m 34 #[.val (.int p1), .unset, .unset, .unset] [(.ref w4), (.int (4 : Int32)), (.ref b2), (.ref b2)])) _
    refine st34 _ ?_
    show Steps p.tables e below (T34.setTop (mkF m 35 #[.val (.int p1), .unset, .unset, .unset] [(.ref b2)])) _
    refine XS.dup X34.here hx rfl (hb hby at_35) rfl rfl ?_
    show Steps p.tables e below (T34.setTop (mkF m 36 #[.val (.int p1), .unset, .unset, .unset] [(.ref b2), (.ref b2)])) _
    refine XS.iconst X34.here hx rfl (hb hby at_36) ?_
    show Steps p.tables e below (T34.setTop (mkF m 37 #[.val (.int p1), .unset, .unset, .unset] [(.int (5 : Int32)), (.ref b2), (.ref b2)])) _
    refine st37 _ ?_
    show Steps p.tables e below (T37.setTop (mkF m 40 #[.val (.int p1), .unset, .unset, .unset] [(.ref w5), (.int (5 : Int32)), (.ref b2), (.ref b2)])) _
    refine st40 _ ?_
    show Steps p.tables e below (T40.setTop (mkF m 41 #[.val (.int p1), .unset, .unset, .unset] [(.ref b2)])) _
    refine XS.dup X40.here hx rfl (hb hby at_41) rfl rfl ?_
    show Steps p.tables e below (T40.setTop (mkF m 42 #[.val (.int p1), .unset, .unset, .unset] [(.ref b2), (.ref b2)])) _
    refine XS.bipush X40.here hx rfl (hb hby at_42) ?_
    show Steps p.tables e below (T40.setTop (mkF m 44 #[.val (.int p1), .unset, .unset, .unset] [(.int (6 : Int32)), (.ref b2), (.ref b2)])) _
    refine st44 _ ?_
    show Steps p.tables e below (T44.setTop (mkF m 47 #[.val (.int p1), .unset, .unset, .unset] [(.ref w6), (.int (6 : Int32)), (.ref b2), (.ref b2)])) _
    refine st47 _ ?_
    show Steps p.tables e below (T47.setTop (mkF m 48 #[.val (.int p1), .unset, .unset, .unset] [(.ref b2)])) _
    refine XS.dup X47.here hx rfl (hb hby at_48) rfl rfl ?_
    show Steps p.tables e below (T47.setTop (mkF m 49 #[.val (.int p1), .unset, .unset, .unset] [(.ref b2), (.ref b2)])) _
    refine XS.bipush X47.here hx rfl (hb hby at_49) ?_
    show Steps p.tables e below (T47.setTop (mkF m 51 #[.val (.int p1), .unset, .unset, .unset] [(.int (7 : Int32)), (.ref b2), (.ref b2)])) _
    refine st51 _ ?_
    show Steps p.tables e below (T51.setTop (mkF m 54 #[.val (.int p1), .unset, .unset, .unset] [(.ref w7), (.int (7 : Int32)), (.ref b2), (.ref b2)])) _
    refine st54 _ ?_
    show Steps p.tables e below (T54.setTop (mkF m 55 #[.val (.int p1), .unset, .unset, .unset] [(.ref b2)])) _
    refine XS.astoreN X54.here hx rfl (hb hby at_55) rfl rfl (l' := #[.val (.int p1), .val (.ref b2), .unset, .unset]) rfl ?_
    show Steps p.tables e below (T54.setTop (mkF m 56 #[.val (.int p1), .val (.ref b2), .unset, .unset] [])) _
    refine XS.iloadN X54.here hx rfl (hb hby at_56) rfl ?_
    show Steps p.tables e below (T54.setTop (mkF m 57 #[.val (.int p1), .val (.ref b2), .unset, .unset] [(.int p1)])) _
    refine Jvm.Stand.ldcI X54 hx hown (mvT hZ (w_20 hw)) rfl (hb hby at_57) ?_
    show Steps p.tables e below (T54.setTop (mkF m 59 #[.val (.int p1), .val (.ref b2), .unset, .unset] [(.int (2147483647 : Int32)), (.int p1)])) _
    refine XS.iand X54.here hx rfl (hb hby at_59) rfl ?_
    show Steps p.tables e below (T54.setTop (mkF m 60 #[.val (.int p1), .val (.ref b2), .unset, .unset] [(.int (p1 &&& (2147483647 : Int32)))])) _
    refine XS.bipush X54.here hx rfl (hb hby at_60) ?_
    show Steps p.tables e below (T54.setTop (mkF m 62 #[.val (.int p1), .val (.ref b2), .unset, .unset] [(.int (8 : Int32)), (.int (p1 &&& (2147483647 : Int32)))])) _
    refine Jvm.RoadKit.iremM X54 hx rfl (hb hby at_62) rfl (by decide) ?_
    show Steps p.tables e below (T54.setTop (mkF m 63 #[.val (.int p1), .val (.ref b2), .unset, .unset] [(.int ((p1 &&& (2147483647 : Int32)) % (8 : Int32)))])) _
    rw [hi]
    show Steps p.tables e below (T54.setTop (mkF m 63 #[.val (.int p1), .val (.ref b2), .unset, .unset] [(.int (0 : Int32))])) _
    refine XS.istoreN X54.here hx rfl (hb hby at_63) rfl (l' := #[.val (.int p1), .val (.ref b2), .val (.int (0 : Int32)), .unset]) rfl ?_
    show Steps p.tables e below (T54.setTop (mkF m 64 #[.val (.int p1), .val (.ref b2), .val (.int (0 : Int32)), .unset] [])) _
    refine XS.iloadN X54.here hx rfl (hb hby at_64) rfl ?_
    show Steps p.tables e below (T54.setTop (mkF m 65 #[.val (.int p1), .val (.ref b2), .val (.int (0 : Int32)), .unset] [(.int (0 : Int32))])) _
    refine XS.iconst X54.here hx rfl (hb hby at_65) ?_
    show Steps p.tables e below (T54.setTop (mkF m 66 #[.val (.int p1), .val (.ref b2), .val (.int (0 : Int32)), .unset] [(.int (1 : Int32)), (.int (0 : Int32))])) _
    refine XS.icmpNo X54.here hx rfl (hb hby at_66) rfl (feq (by decide : ¬ ((0 : Int32) = (1 : Int32)))).1 ?_
    show Steps p.tables e below (T54.setTop (mkF m 69 #[.val (.int p1), .val (.ref b2), .val (.int (0 : Int32)), .unset] [])) _
    refine XS.iloadN X54.here hx rfl (hb hby at_69) rfl ?_
    show Steps p.tables e below (T54.setTop (mkF m 70 #[.val (.int p1), .val (.ref b2), .val (.int (0 : Int32)), .unset] [(.int (0 : Int32))])) _
    refine XS.iconst X54.here hx rfl (hb hby at_70) ?_
    show Steps p.tables e below (T54.setTop (mkF m 71 #[.val (.int p1), .val (.ref b2), .val (.int (0 : Int32)), .unset] [(.int (2 : Int32)), (.int (0 : Int32))])) _
    refine XS.icmpNo X54.here hx rfl (hb hby at_71) rfl (feq (by decide : ¬ ((0 : Int32) = (2 : Int32)))).1 ?_
    show Steps p.tables e below (T54.setTop (mkF m 74 #[.val (.int p1), .val (.ref b2), .val (.int (0 : Int32)), .unset] [])) _
    refine XS.iloadN X54.here hx rfl (hb hby at_74) rfl ?_
    show Steps p.tables e below (T54.setTop (mkF m 75 #[.val (.int p1), .val (.ref b2), .val (.int (0 : Int32)), .unset] [(.int (0 : Int32))])) _
    refine XS.iconst X54.here hx rfl (hb hby at_75) ?_
    show Steps p.tables e below (T54.setTop (mkF m 76 #[.val (.int p1), .val (.ref b2), .val (.int (0 : Int32)), .unset] [(.int (3 : Int32)), (.int (0 : Int32))])) _
    refine XS.icmpYes X54.here hx rfl (pc0 := 76) (pc' := 83) rfl (hb hby at_76) rfl (feq (by decide : ¬ ((0 : Int32) = (3 : Int32)))).2 (by decide) (by decide) ?_
    show Steps p.tables e below (T54.setTop (mkF m 83 #[.val (.int p1), .val (.ref b2), .val (.int (0 : Int32)), .unset] [])) _
    refine XS.iconst X54.here hx rfl (hb hby at_83) ?_
    show Steps p.tables e below (T54.setTop (mkF m 84 #[.val (.int p1), .val (.ref b2), .val (.int (0 : Int32)), .unset] [(.int (0 : Int32))])) _
    refine XS.istoreN X54.here hx rfl (hb hby at_84) rfl (l' := #[.val (.int p1), .val (.ref b2), .val (.int (0 : Int32)), .val (.int (0 : Int32))]) rfl ?_
    show Steps p.tables e below (T54.setTop (mkF m 85 #[.val (.int p1), .val (.ref b2), .val (.int (0 : Int32)), .val (.int (0 : Int32))] [])) _
    refine XS.aloadN X54.here hx rfl (hb hby at_85) rfl rfl ?_
    show Steps p.tables e below (T54.setTop (mkF m 86 #[.val (.int p1), .val (.ref b2), .val (.int (0 : Int32)), .val (.int (0 : Int32))] [(.ref b2)])) _
    refine XS.iloadN X54.here hx rfl (hb hby at_86) rfl ?_
    show Steps p.tables e below (T54.setTop (mkF m 87 #[.val (.int p1), .val (.ref b2), .val (.int (0 : Int32)), .val (.int (0 : Int32))] [(.int (0 : Int32)), (.ref b2)])) _
    refine X54.aaload hx (j := (0 : Int32)) (v := (.ref w0)) (by rw [e54]; exact Ar87.1) (State.isArrayOf_alike hZ.alike Ar87.2.1) rfl Ar87.2.2 hin87 f39 (g := (mkF m 87 #[.val (.int p1), .val (.ref b2), .val (.int (0 : Int32)), .val (.int (0 : Int32))] [(.int (0 : Int32)), (.ref b2)])) rfl rfl (hb hby at_87) _ ?_
    show Steps p.tables e below (T54.setTop (mkF m 88 #[.val (.int p1), .val (.ref b2), .val (.int (0 : Int32)), .val (.int (0 : Int32))] [(.ref w0)])) _
    refine st88.trans ?_
    show Steps p.tables e below (T88.setTop (mkF m 91 #[.val (.int p1), .val (.ref b2), .val (.int (0 : Int32)), .val (.int (0 : Int32))] [(.int (0 : Int32))])) _
    refine XS.iloadN X88.here hx rfl (hb hby at_91) rfl ?_
    show Steps p.tables e below (T88.setTop (mkF m 92 #[.val (.int p1), .val (.ref b2), .val (.int (0 : Int32)), .val (.int (0 : Int32))] [(.int (0 : Int32)), (.int (0 : Int32))])) _
    refine XS.icmpNo X88.here hx rfl (hb hby at_92) rfl (teq (by decide : (0 : Int32) = (0 : Int32))).2 ?_
    show Steps p.tables e below (T88.setTop (mkF m 95 #[.val (.int p1), .val (.ref b2), .val (.int (0 : Int32)), .val (.int (0 : Int32))] [])) _
    refine XS.iconst X88.here hx rfl (hb hby at_95) ?_
    show Steps p.tables e below (T88.setTop (mkF m 96 #[.val (.int p1), .val (.ref b2), .val (.int (0 : Int32)), .val (.int (0 : Int32))] [(.int (1 : Int32))])) _
    refine XS.goto X88.here hx rfl (pc0 := 96) (pc' := 100) rfl (hb hby at_96) (by decide) (by decide) ?_
    show Steps p.tables e below (T88.setTop (mkF m 100 #[.val (.int p1), .val (.ref b2), .val (.int (0 : Int32)), .val (.int (0 : Int32))] [(.int (1 : Int32))])) _
    exact retN X88 hx (t := .boolean) Bd.returns (by simp) (hb hby at_100) hr
  · show Q_law Z p1 w0 w1 w2 w3 w4 w5 w6 w7 h0 n0 _ T88.heap _
    exact ⟨rfl, N88, f40⟩
theorem ef_rm_law_1 (m : MethodId) (x0 : Int32) : entryFrame m #[(.int x0)] maxLocals = mkF m 0 #[.val (.int x0), .unset, .unset, .unset] [] := by first | (simp [entryFrame, mkF, argsToLocals, Value.category, maxLocals]; done) | rfl
set_option maxRecDepth 65536 in
set_option maxHeartbeats 40000000 in
theorem rm_law_1 (l : Launch) (Z : State) (a0 : Array Value) (hw : ∀ d ∈ tables_1, d.before a0 Z = true) (ws : List Jvm.Cond) (p1 : Int32) (w0 : Addr) (w1 : Addr) (w2 : Addr) (w3 : Addr) (w4 : Addr) (w5 : Addr) (w6 : Addr) (w7 : Addr) (h0 : Heap) (n0 : Nat) (O0 : Old Z n0 h0) (S0 : Sta Z Z.heap "com/example/lotista/lotista/retorno/EventField$Form" "NUMBER" "Lcom/example/lotista/lotista/retorno/EventField$Form;" (.ref w0)) (S1 : Sta Z Z.heap "com/example/lotista/lotista/retorno/EventField$Form" "CODE" "Lcom/example/lotista/lotista/retorno/EventField$Form;" (.ref w1)) (S2 : Sta Z Z.heap "com/example/lotista/lotista/retorno/EventField$Form" "ALPHANUMERIC_CODE" "Lcom/example/lotista/lotista/retorno/EventField$Form;" (.ref w2)) (S3 : Sta Z Z.heap "com/example/lotista/lotista/retorno/EventField$Form" "TEXT" "Lcom/example/lotista/lotista/retorno/EventField$Form;" (.ref w3)) (S4 : Sta Z Z.heap "com/example/lotista/lotista/retorno/EventField$Form" "MONEY" "Lcom/example/lotista/lotista/retorno/EventField$Form;" (.ref w4)) (S5 : Sta Z Z.heap "com/example/lotista/lotista/retorno/EventField$Form" "DATE" "Lcom/example/lotista/lotista/retorno/EventField$Form;" (.ref w5)) (S6 : Sta Z Z.heap "com/example/lotista/lotista/retorno/EventField$Form" "GIVEN_DATE" "Lcom/example/lotista/lotista/retorno/EventField$Form;" (.ref w6)) (S7 : Sta Z Z.heap "com/example/lotista/lotista/retorno/EventField$Form" "CODES" "Lcom/example/lotista/lotista/retorno/EventField$Form;" (.ref w7)) (E0 : Exa Z Z.heap w0 "com/example/lotista/lotista/retorno/EventField$Form") (E1 : Exa Z Z.heap w1 "com/example/lotista/lotista/retorno/EventField$Form") (E2 : Exa Z Z.heap w2 "com/example/lotista/lotista/retorno/EventField$Form") (E3 : Exa Z Z.heap w3 "com/example/lotista/lotista/retorno/EventField$Form") (E4 : Exa Z Z.heap w4 "com/example/lotista/lotista/retorno/EventField$Form") (E5 : Exa Z Z.heap w5 "com/example/lotista/lotista/retorno/EventField$Form") (E6 : Exa Z Z.heap w6 "com/example/lotista/lotista/retorno/EventField$Form") (E7 : Exa Z Z.heap w7 "com/example/lotista/lotista/retorno/EventField$Form") (n0_1 : w0 ≠ w1) (n0_2 : w0 ≠ w2) (n0_3 : w0 ≠ w3) (n2_1 : w2 ≠ w1) (n3_1 : w3 ≠ w1) (n3_2 : w3 ≠ w2) (n4_1 : w4 ≠ w1) (n4_2 : w4 ≠ w2) (n4_3 : w4 ≠ w3) (n5_1 : w5 ≠ w1) (n5_2 : w5 ≠ w2) (n5_3 : w5 ≠ w3) (n6_1 : w6 ≠ w1) (n6_2 : w6 ≠ w2) (n6_3 : w6 ≠ w3) (n7_1 : w7 ≠ w1) (n7_2 : w7 ≠ w2) (n7_3 : w7 ≠ w3) (hi : ((p1 &&& (2147483647 : Int32)) % (8 : Int32)) = (1 : Int32)) :
    MetFree l x (head1 (Jvm.Cond.code x code maxLocals ret :: ws) room_1) (fun as' U => as' = #[(.int p1)] ∧ Z.Warmed39 U.vm ∧ U.heap = h0) (fun _ _ _ _ _ => True) (fun _ U o U' => ∃ v L, o = .returned v ∧ Q_law Z p1 w0 w1 w2 w3 w4 w5 w6 w7 h0 n0 v U'.heap L ∧ FrameEnd U o U' L room_1.cells room_1.slots) := by
  refine MetFree.of_bodySF (plainFor_of_name pn_com_example_lotista_lotista_retorno_FormIsTextPinLaw) hisR ?_
  intro p e s m args below meth c s₁ Bd hml0 hP hK
  obtain ⟨rfl, hZ, hh⟩ := hP
  have hx := Bd.exec
  have hby := Bd.bytes
  have hml : c.maxLocals = 4 := hml0
  have hown : s.vm.findClass "com/example/lotista/lotista/retorno/FormIsTextPinLaw" = some m.cls := findClass_of_methodNamed Bd.named
  have hnm := (name_of_methodNamed Bd.named Bd.method).1
  have X0 : Stand p l e room_1 s m #[(.int p1)] below meth c s₁ [] 0 0 := Stand.of_body Bd
  have e0 : s₁.heap = h0 := by rw [← hh, Bd.state]; rfl
  have N0 := Fr.nil n0
  have K0 : Keep h0 h0 [] := Keep.refl _ _
  have pre0 : ∀ t, Steps p.tables e below (s₁.setTop (mkF m 0 #[.val (.int p1), .unset, .unset, .unset] [])) t → Steps p.tables e below (s₁.setTop (entryFrame m #[(.int p1)] maxLocals)) t := fun t k => castTop (ef_rm_law_1 m p1) k
  obtain ⟨T2, h2, kc2, X2, e2, Ex2, Aa2, Bb2, Ov2, st2⟩ := newRE X0 hx hZ hown (w_0 hw) (w_1 hw) e0 (g := (mkF m 2 #[.val (.int p1), .unset, .unset, .unset] [(.int (8 : Int32))])) rfl (hb hby at_2) rfl (by decide) (cap := 8) (by decide) (by decide) (by decide) (by decide) (ad := "[Lcom/example/lotista/lotista/retorno/EventField$Form;") (by first | rfl | decide +kernel)
  obtain ⟨b2, gg2⟩ : ∃ z, z = h0.size := ⟨_, rfl⟩
  rw [← gg2] at Aa2 Bb2 st2
  have f1 : Keep h0 h2 [] := K0.ext Ex2
  have f2 : Old Z n0 h2 := O0.ext Ex2
  have f3 : Arv Z h2 b2 kc2 (.object "com/example/lotista/lotista/retorno/EventField$Form") (8 : Int32) [.null, .null, .null, .null, .null, .null, .null, .null] .null := (Arv.new Aa2 (by decide)).pad (pad_rep [] .null 8)
  obtain ⟨T7, X7, e7, st7⟩ := getS2 X2 hx hZ hown (host := "") (Or.inl (w_2 hw)) Via.refl e2 (S0.ext f2.2) (g := (mkF m 7 #[.val (.int p1), .unset, .unset, .unset] [(.int (0 : Int32)), (.ref b2), (.ref b2)])) rfl (hb hby at_7)
  obtain ⟨cl10, Ar10, qq10, Sz10, NN10, HH10, GG10⟩ := (id f3)
  have hin10 : ¬ ((0 : Int32) < 0 ∨ cl10.slots.size ≤ ((0 : Int32)).toNatClampNeg) := inb_of Sz10 ⟨by decide, by decide⟩
  obtain ⟨T10, h10, X10, e10, Wr10, st10⟩ := stR X7 hx hZ e7 Ar10 (j := (0 : Int32)) hin10 rfl (Sto.ofV Ar10 qq10 Ov2 (Ins.self (E0.ext f2.2))) (g := (mkF m 10 #[.val (.int p1), .unset, .unset, .unset] [(.ref w0), (.int (0 : Int32)), (.ref b2), (.ref b2)])) rfl rfl (hb hby at_10)
  have f5 : h0.size ≤ b2 := Nat.le_trans K0.1 (Nat.le_of_eq gg2.symm)
  have f6 : n0 ≤ b2 := Nat.le_trans (own_old_le O0) (Nat.le_of_eq gg2.symm)
  have f7 : Keep h0 h10 [] := f1.wr Wr10 (Or.inr f5)
  have f8 : Old Z n0 h10 := f2.wr Wr10 f6
  have f9 : Arv Z h10 b2 kc2 (.object "com/example/lotista/lotista/retorno/EventField$Form") (8 : Int32) [(.ref w0), .null, .null, .null, .null, .null, .null, .null] .null := Arv.set Ar10 qq10 Sz10 NN10 HH10 GG10 rfl Wr10 0 rfl (Nat.le_of_ble_eq_true rfl)
  have N10 := Fr.snoc X10 N0 f6
  obtain ⟨T13, X13, e13, st13⟩ := getS2 X10 hx hZ hown (host := "") (Or.inl (w_6 hw)) Via.refl e10 (S1.ext f8.2) (g := (mkF m 13 #[.val (.int p1), .unset, .unset, .unset] [(.int (1 : Int32)), (.ref b2), (.ref b2)])) rfl (hb hby at_13)
  obtain ⟨cl16, Ar16, qq16, Sz16, NN16, HH16, GG16⟩ := (id f9)
  have hin16 : ¬ ((1 : Int32) < 0 ∨ cl16.slots.size ≤ ((1 : Int32)).toNatClampNeg) := inb_of Sz16 ⟨by decide, by decide⟩
  obtain ⟨T16, h16, X16, e16, Wr16, st16⟩ := stR X13 hx hZ e13 Ar16 (j := (1 : Int32)) hin16 rfl (Sto.ofV Ar16 qq16 Ov2 (Ins.self (E1.ext f8.2))) (g := (mkF m 16 #[.val (.int p1), .unset, .unset, .unset] [(.ref w1), (.int (1 : Int32)), (.ref b2), (.ref b2)])) rfl rfl (hb hby at_16)
  have f11 : Keep h0 h16 [] := f7.wr Wr16 (Or.inr f5)
  have f12 : Old Z n0 h16 := f8.wr Wr16 f6
  have f13 : Arv Z h16 b2 kc2 (.object "com/example/lotista/lotista/retorno/EventField$Form") (8 : Int32) [(.ref w0), (.ref w1), .null, .null, .null, .null, .null, .null] .null := Arv.set Ar16 qq16 Sz16 NN16 HH16 GG16 rfl Wr16 1 rfl (Nat.le_of_ble_eq_true rfl)
  have N16 := Fr.snoc X16 N10 f6
  obtain ⟨T19, X19, e19, st19⟩ := getS2 X16 hx hZ hown (host := "") (Or.inl (w_8 hw)) Via.refl e16 (S2.ext f12.2) (g := (mkF m 19 #[.val (.int p1), .unset, .unset, .unset] [(.int (2 : Int32)), (.ref b2), (.ref b2)])) rfl (hb hby at_19)
  obtain ⟨cl22, Ar22, qq22, Sz22, NN22, HH22, GG22⟩ := (id f13)
  have hin22 : ¬ ((2 : Int32) < 0 ∨ cl22.slots.size ≤ ((2 : Int32)).toNatClampNeg) := inb_of Sz22 ⟨by decide, by decide⟩
  obtain ⟨T22, h22, X22, e22, Wr22, st22⟩ := stR X19 hx hZ e19 Ar22 (j := (2 : Int32)) hin22 rfl (Sto.ofV Ar22 qq22 Ov2 (Ins.self (E2.ext f12.2))) (g := (mkF m 22 #[.val (.int p1), .unset, .unset, .unset] [(.ref w2), (.int (2 : Int32)), (.ref b2), (.ref b2)])) rfl rfl (hb hby at_22)
  have f15 : Keep h0 h22 [] := f11.wr Wr22 (Or.inr f5)
  have f16 : Old Z n0 h22 := f12.wr Wr22 f6
  have f17 : Arv Z h22 b2 kc2 (.object "com/example/lotista/lotista/retorno/EventField$Form") (8 : Int32) [(.ref w0), (.ref w1), (.ref w2), .null, .null, .null, .null, .null] .null := Arv.set Ar22 qq22 Sz22 NN22 HH22 GG22 rfl Wr22 2 rfl (Nat.le_of_ble_eq_true rfl)
  have N22 := Fr.snoc X22 N16 f6
  obtain ⟨T25, X25, e25, st25⟩ := getS2 X22 hx hZ hown (host := "") (Or.inl (w_10 hw)) Via.refl e22 (S3.ext f16.2) (g := (mkF m 25 #[.val (.int p1), .unset, .unset, .unset] [(.int (3 : Int32)), (.ref b2), (.ref b2)])) rfl (hb hby at_25)
  obtain ⟨cl28, Ar28, qq28, Sz28, NN28, HH28, GG28⟩ := (id f17)
  have hin28 : ¬ ((3 : Int32) < 0 ∨ cl28.slots.size ≤ ((3 : Int32)).toNatClampNeg) := inb_of Sz28 ⟨by decide, by decide⟩
  obtain ⟨T28, h28, X28, e28, Wr28, st28⟩ := stR X25 hx hZ e25 Ar28 (j := (3 : Int32)) hin28 rfl (Sto.ofV Ar28 qq28 Ov2 (Ins.self (E3.ext f16.2))) (g := (mkF m 28 #[.val (.int p1), .unset, .unset, .unset] [(.ref w3), (.int (3 : Int32)), (.ref b2), (.ref b2)])) rfl rfl (hb hby at_28)
  have f19 : Keep h0 h28 [] := f15.wr Wr28 (Or.inr f5)
  have f20 : Old Z n0 h28 := f16.wr Wr28 f6
  have f21 : Arv Z h28 b2 kc2 (.object "com/example/lotista/lotista/retorno/EventField$Form") (8 : Int32) [(.ref w0), (.ref w1), (.ref w2), (.ref w3), .null, .null, .null, .null] .null := Arv.set Ar28 qq28 Sz28 NN28 HH28 GG28 rfl Wr28 3 rfl (Nat.le_of_ble_eq_true rfl)
  have N28 := Fr.snoc X28 N22 f6
  obtain ⟨T31, X31, e31, st31⟩ := getS2 X28 hx hZ hown (host := "") (Or.inl (w_12 hw)) Via.refl e28 (S4.ext f20.2) (g := (mkF m 31 #[.val (.int p1), .unset, .unset, .unset] [(.int (4 : Int32)), (.ref b2), (.ref b2)])) rfl (hb hby at_31)
  obtain ⟨cl34, Ar34, qq34, Sz34, NN34, HH34, GG34⟩ := (id f21)
  have hin34 : ¬ ((4 : Int32) < 0 ∨ cl34.slots.size ≤ ((4 : Int32)).toNatClampNeg) := inb_of Sz34 ⟨by decide, by decide⟩
  obtain ⟨T34, h34, X34, e34, Wr34, st34⟩ := stR X31 hx hZ e31 Ar34 (j := (4 : Int32)) hin34 rfl (Sto.ofV Ar34 qq34 Ov2 (Ins.self (E4.ext f20.2))) (g := (mkF m 34 #[.val (.int p1), .unset, .unset, .unset] [(.ref w4), (.int (4 : Int32)), (.ref b2), (.ref b2)])) rfl rfl (hb hby at_34)
  have f23 : Keep h0 h34 [] := f19.wr Wr34 (Or.inr f5)
  have f24 : Old Z n0 h34 := f20.wr Wr34 f6
  have f25 : Arv Z h34 b2 kc2 (.object "com/example/lotista/lotista/retorno/EventField$Form") (8 : Int32) [(.ref w0), (.ref w1), (.ref w2), (.ref w3), (.ref w4), .null, .null, .null] .null := Arv.set Ar34 qq34 Sz34 NN34 HH34 GG34 rfl Wr34 4 rfl (Nat.le_of_ble_eq_true rfl)
  have N34 := Fr.snoc X34 N28 f6
  obtain ⟨T37, X37, e37, st37⟩ := getS2 X34 hx hZ hown (host := "") (Or.inl (w_14 hw)) Via.refl e34 (S5.ext f24.2) (g := (mkF m 37 #[.val (.int p1), .unset, .unset, .unset] [(.int (5 : Int32)), (.ref b2), (.ref b2)])) rfl (hb hby at_37)
  obtain ⟨cl40, Ar40, qq40, Sz40, NN40, HH40, GG40⟩ := (id f25)
  have hin40 : ¬ ((5 : Int32) < 0 ∨ cl40.slots.size ≤ ((5 : Int32)).toNatClampNeg) := inb_of Sz40 ⟨by decide, by decide⟩
  obtain ⟨T40, h40, X40, e40, Wr40, st40⟩ := stR X37 hx hZ e37 Ar40 (j := (5 : Int32)) hin40 rfl (Sto.ofV Ar40 qq40 Ov2 (Ins.self (E5.ext f24.2))) (g := (mkF m 40 #[.val (.int p1), .unset, .unset, .unset] [(.ref w5), (.int (5 : Int32)), (.ref b2), (.ref b2)])) rfl rfl (hb hby at_40)
  have f27 : Keep h0 h40 [] := f23.wr Wr40 (Or.inr f5)
  have f28 : Old Z n0 h40 := f24.wr Wr40 f6
  have f29 : Arv Z h40 b2 kc2 (.object "com/example/lotista/lotista/retorno/EventField$Form") (8 : Int32) [(.ref w0), (.ref w1), (.ref w2), (.ref w3), (.ref w4), (.ref w5), .null, .null] .null := Arv.set Ar40 qq40 Sz40 NN40 HH40 GG40 rfl Wr40 5 rfl (Nat.le_of_ble_eq_true rfl)
  have N40 := Fr.snoc X40 N34 f6
  obtain ⟨T44, X44, e44, st44⟩ := getS2 X40 hx hZ hown (host := "") (Or.inl (w_16 hw)) Via.refl e40 (S6.ext f28.2) (g := (mkF m 44 #[.val (.int p1), .unset, .unset, .unset] [(.int (6 : Int32)), (.ref b2), (.ref b2)])) rfl (hb hby at_44)
  obtain ⟨cl47, Ar47, qq47, Sz47, NN47, HH47, GG47⟩ := (id f29)
  have hin47 : ¬ ((6 : Int32) < 0 ∨ cl47.slots.size ≤ ((6 : Int32)).toNatClampNeg) := inb_of Sz47 ⟨by decide, by decide⟩
  obtain ⟨T47, h47, X47, e47, Wr47, st47⟩ := stR X44 hx hZ e44 Ar47 (j := (6 : Int32)) hin47 rfl (Sto.ofV Ar47 qq47 Ov2 (Ins.self (E6.ext f28.2))) (g := (mkF m 47 #[.val (.int p1), .unset, .unset, .unset] [(.ref w6), (.int (6 : Int32)), (.ref b2), (.ref b2)])) rfl rfl (hb hby at_47)
  have f31 : Keep h0 h47 [] := f27.wr Wr47 (Or.inr f5)
  have f32 : Old Z n0 h47 := f28.wr Wr47 f6
  have f33 : Arv Z h47 b2 kc2 (.object "com/example/lotista/lotista/retorno/EventField$Form") (8 : Int32) [(.ref w0), (.ref w1), (.ref w2), (.ref w3), (.ref w4), (.ref w5), (.ref w6), .null] .null := Arv.set Ar47 qq47 Sz47 NN47 HH47 GG47 rfl Wr47 6 rfl (Nat.le_of_ble_eq_true rfl)
  have N47 := Fr.snoc X47 N40 f6
  obtain ⟨T51, X51, e51, st51⟩ := getS2 X47 hx hZ hown (host := "") (Or.inl (w_18 hw)) Via.refl e47 (S7.ext f32.2) (g := (mkF m 51 #[.val (.int p1), .unset, .unset, .unset] [(.int (7 : Int32)), (.ref b2), (.ref b2)])) rfl (hb hby at_51)
  obtain ⟨cl54, Ar54, qq54, Sz54, NN54, HH54, GG54⟩ := (id f33)
  have hin54 : ¬ ((7 : Int32) < 0 ∨ cl54.slots.size ≤ ((7 : Int32)).toNatClampNeg) := inb_of Sz54 ⟨by decide, by decide⟩
  obtain ⟨T54, h54, X54, e54, Wr54, st54⟩ := stR X51 hx hZ e51 Ar54 (j := (7 : Int32)) hin54 rfl (Sto.ofV Ar54 qq54 Ov2 (Ins.self (E7.ext f32.2))) (g := (mkF m 54 #[.val (.int p1), .unset, .unset, .unset] [(.ref w7), (.int (7 : Int32)), (.ref b2), (.ref b2)])) rfl rfl (hb hby at_54)
  have f35 : Keep h0 h54 [] := f31.wr Wr54 (Or.inr f5)
  have f36 : Old Z n0 h54 := f32.wr Wr54 f6
  have f37 : Arv Z h54 b2 kc2 (.object "com/example/lotista/lotista/retorno/EventField$Form") (8 : Int32) [(.ref w0), (.ref w1), (.ref w2), (.ref w3), (.ref w4), (.ref w5), (.ref w6), (.ref w7)] .null := Arv.set Ar54 qq54 Sz54 NN54 HH54 GG54 rfl Wr54 7 rfl (Nat.le_of_ble_eq_true rfl)
  have N54 := Fr.snoc X54 N47 f6
  obtain ⟨cl87, Ar87, qq87, Sz87, NN87, HH87, GG87⟩ := (id f37)
  have hin87 : ¬ ((1 : Int32) < 0 ∨ cl87.slots.size ≤ ((1 : Int32)).toNatClampNeg) := inb_of Sz87 ⟨by decide, by decide⟩
  have f39 : cl87.slots[((1 : Int32)).toNatClampNeg]? = some (.ref w1) := HH87.at hin87 rfl
  obtain ⟨cq88, kq88, q88a, q88b, q88c⟩ := isOf hZ e54 (E1.ext f36.2)
  obtain ⟨_, _, ⟨T88, Lo88, kk88, nn88⟩, -, X88, ⟨Lc88, hQ88, ll88, yy88, zz88⟩, st88⟩ := X54.virtualBack hx (y := (⟨"com/example/lotista/lotista/retorno/EventField$Form", "isText", "()Z"⟩ : MethodName)) (z := (⟨"com/example/lotista/lotista/retorno/EventField$Form", "isText", "()Z"⟩ : MethodName)) hown (mvT hZ (w_21 hw)) (mvT hZ (w_22 hw)) (notFace_of_selects (args := #[]) (mvT hZ (w_24 hw))) (mvT hZ (w_24 hw)) (mvT hZ (w_23 hw)) (by decide) (backOf (W := 0) (rm_t1 l Z a0 hw [] w1 h54 n0 f36 S1) hZ (w_25 hw) (w_3 hw) (by decide) (by decide)) q88a q88c (g := (mkF m 88 #[.val (.int p1), .val (.ref b2), .val (.int (1 : Int32)), .val (.int (1 : Int32))] [(.ref w1)])) rfl (by rw [hml]; rfl) (Steps.refl _) (argsL := []) (rest := []) (lenOf pd_0 rfl) rfl (by show 2 * 0 + _ ≤ _; exact Nat.le_of_eq rfl) (hb hby at_88) (fun _ _ => ⟨rfl, e54, (by decide : 1 + 0 ≤ _), (by decide : 8 + 0 ≤ _)⟩)
  dsimp only [Pt.U, Pt.locs, Pt.cells, Pt.slots] at X88 ll88 yy88 zz88 st88 hQ88
  subst ll88 yy88 zz88
  obtain ⟨rfl, N88q, K88q⟩ := hQ88
  have N88 := Fr.app N54 N88q
  have f40 : Keep h0 T88.heap [] := f35.trans K88q all0
  have f41 : Old Z n0 T88.heap := f36.keep K88q all0
  obtain ⟨fs, hr, hrun, hended, hW, hsame⟩ := X88.leave (v := some (.int (1 : Int32))) (fun h => by rw [Bd.returns] at h; cases h)
  refine ⟨_, _, pre0 _ ?_, hrun, hended, _, _, rfl, ?_, ⟨_, rfl⟩, hW, hsame.mono (by decide) (by decide)⟩
  · show Steps p.tables e below (s₁.setTop (mkF m 0 #[.val (.int p1), .unset, .unset, .unset] [])) _
    refine XS.bipush X0.here hx rfl (hb hby at_0) ?_
    show Steps p.tables e below (s₁.setTop (mkF m 2 #[.val (.int p1), .unset, .unset, .unset] [(.int (8 : Int32))])) _
    refine st2 _ ?_
    show Steps p.tables e below (T2.setTop (mkF m 5 #[.val (.int p1), .unset, .unset, .unset] [(.ref b2)])) _
    refine XS.dup X2.here hx rfl (hb hby at_5) rfl rfl ?_
    show Steps p.tables e below (T2.setTop (mkF m 6 #[.val (.int p1), .unset, .unset, .unset] [(.ref b2), (.ref b2)])) _
    refine XS.iconst X2.here hx rfl (hb hby at_6) ?_
    show Steps p.tables e below (T2.setTop (mkF m 7 #[.val (.int p1), .unset, .unset, .unset] [(.int (0 : Int32)), (.ref b2), (.ref b2)])) _
    refine st7 _ ?_
    show Steps p.tables e below (T7.setTop (mkF m 10 #[.val (.int p1), .unset, .unset, .unset] [(.ref w0), (.int (0 : Int32)), (.ref b2), (.ref b2)])) _
    refine st10 _ ?_
    show Steps p.tables e below (T10.setTop (mkF m 11 #[.val (.int p1), .unset, .unset, .unset] [(.ref b2)])) _
    refine XS.dup X10.here hx rfl (hb hby at_11) rfl rfl ?_
    show Steps p.tables e below (T10.setTop (mkF m 12 #[.val (.int p1), .unset, .unset, .unset] [(.ref b2), (.ref b2)])) _
    refine XS.iconst X10.here hx rfl (hb hby at_12) ?_
    show Steps p.tables e below (T10.setTop (mkF m 13 #[.val (.int p1), .unset, .unset, .unset] [(.int (1 : Int32)), (.ref b2), (.ref b2)])) _
    refine st13 _ ?_
    show Steps p.tables e below (T13.setTop (mkF m 16 #[.val (.int p1), .unset, .unset, .unset] [(.ref w1), (.int (1 : Int32)), (.ref b2), (.ref b2)])) _
    refine st16 _ ?_
    show Steps p.tables e below (T16.setTop (mkF m 17 #[.val (.int p1), .unset, .unset, .unset] [(.ref b2)])) _
    refine XS.dup X16.here hx rfl (hb hby at_17) rfl rfl ?_
    show Steps p.tables e below (T16.setTop (mkF m 18 #[.val (.int p1), .unset, .unset, .unset] [(.ref b2), (.ref b2)])) _
    refine XS.iconst X16.here hx rfl (hb hby at_18) ?_
    show Steps p.tables e below (T16.setTop (mkF m 19 #[.val (.int p1), .unset, .unset, .unset] [(.int (2 : Int32)), (.ref b2), (.ref b2)])) _
    refine st19 _ ?_
    show Steps p.tables e below (T19.setTop (mkF m 22 #[.val (.int p1), .unset, .unset, .unset] [(.ref w2), (.int (2 : Int32)), (.ref b2), (.ref b2)])) _
    refine st22 _ ?_
    show Steps p.tables e below (T22.setTop (mkF m 23 #[.val (.int p1), .unset, .unset, .unset] [(.ref b2)])) _
    refine XS.dup X22.here hx rfl (hb hby at_23) rfl rfl ?_
    show Steps p.tables e below (T22.setTop (mkF m 24 #[.val (.int p1), .unset, .unset, .unset] [(.ref b2), (.ref b2)])) _
    refine XS.iconst X22.here hx rfl (hb hby at_24) ?_
    show Steps p.tables e below (T22.setTop (mkF m 25 #[.val (.int p1), .unset, .unset, .unset] [(.int (3 : Int32)), (.ref b2), (.ref b2)])) _
    refine st25 _ ?_
    show Steps p.tables e below (T25.setTop (mkF m 28 #[.val (.int p1), .unset, .unset, .unset] [(.ref w3), (.int (3 : Int32)), (.ref b2), (.ref b2)])) _
    refine st28 _ ?_
    show Steps p.tables e below (T28.setTop (mkF m 29 #[.val (.int p1), .unset, .unset, .unset] [(.ref b2)])) _
    refine XS.dup X28.here hx rfl (hb hby at_29) rfl rfl ?_
    show Steps p.tables e below (T28.setTop (mkF m 30 #[.val (.int p1), .unset, .unset, .unset] [(.ref b2), (.ref b2)])) _
    refine XS.iconst X28.here hx rfl (hb hby at_30) ?_
    show Steps p.tables e below (T28.setTop (mkF m 31 #[.val (.int p1), .unset, .unset, .unset] [(.int (4 : Int32)), (.ref b2), (.ref b2)])) _
    refine st31 _ ?_
    show Steps p.tables e below (T31.setTop (mkF m 34 #[.val (.int p1), .unset, .unset, .unset] [(.ref w4), (.int (4 : Int32)), (.ref b2), (.ref b2)])) _
    refine st34 _ ?_
    show Steps p.tables e below (T34.setTop (mkF m 35 #[.val (.int p1), .unset, .unset, .unset] [(.ref b2)])) _
    refine XS.dup X34.here hx rfl (hb hby at_35) rfl rfl ?_
    show Steps p.tables e below (T34.setTop (mkF m 36 #[.val (.int p1), .unset, .unset, .unset] [(.ref b2), (.ref b2)])) _
    refine XS.iconst X34.here hx rfl (hb hby at_36) ?_
    show Steps p.tables e below (T34.setTop (mkF m 37 #[.val (.int p1), .unset, .unset, .unset] [(.int (5 : Int32)), (.ref b2), (.ref b2)])) _
    refine st37 _ ?_
    show Steps p.tables e below (T37.setTop (mkF m 40 #[.val (.int p1), .unset, .unset, .unset] [(.ref w5), (.int (5 : Int32)), (.ref b2), (.ref b2)])) _
    refine st40 _ ?_
    show Steps p.tables e below (T40.setTop (mkF m 41 #[.val (.int p1), .unset, .unset, .unset] [(.ref b2)])) _
    refine XS.dup X40.here hx rfl (hb hby at_41) rfl rfl ?_
    show Steps p.tables e below (T40.setTop (mkF m 42 #[.val (.int p1), .unset, .unset, .unset] [(.ref b2), (.ref b2)])) _
    refine XS.bipush X40.here hx rfl (hb hby at_42) ?_
    show Steps p.tables e below (T40.setTop (mkF m 44 #[.val (.int p1), .unset, .unset, .unset] [(.int (6 : Int32)), (.ref b2), (.ref b2)])) _
    refine st44 _ ?_
    show Steps p.tables e below (T44.setTop (mkF m 47 #[.val (.int p1), .unset, .unset, .unset] [(.ref w6), (.int (6 : Int32)), (.ref b2), (.ref b2)])) _
    refine st47 _ ?_
    show Steps p.tables e below (T47.setTop (mkF m 48 #[.val (.int p1), .unset, .unset, .unset] [(.ref b2)])) _
    refine XS.dup X47.here hx rfl (hb hby at_48) rfl rfl ?_
    show Steps p.tables e below (T47.setTop (mkF m 49 #[.val (.int p1), .unset, .unset, .unset] [(.ref b2), (.ref b2)])) _
    refine XS.bipush X47.here hx rfl (hb hby at_49) ?_
    show Steps p.tables e below (T47.setTop (mkF m 51 #[.val (.int p1), .unset, .unset, .unset] [(.int (7 : Int32)), (.ref b2), (.ref b2)])) _
    refine st51 _ ?_
    show Steps p.tables e below (T51.setTop (mkF m 54 #[.val (.int p1), .unset, .unset, .unset] [(.ref w7), (.int (7 : Int32)), (.ref b2), (.ref b2)])) _
    refine st54 _ ?_
    show Steps p.tables e below (T54.setTop (mkF m 55 #[.val (.int p1), .unset, .unset, .unset] [(.ref b2)])) _
    refine XS.astoreN X54.here hx rfl (hb hby at_55) rfl rfl (l' := #[.val (.int p1), .val (.ref b2), .unset, .unset]) rfl ?_
    show Steps p.tables e below (T54.setTop (mkF m 56 #[.val (.int p1), .val (.ref b2), .unset, .unset] [])) _
    refine XS.iloadN X54.here hx rfl (hb hby at_56) rfl ?_
    show Steps p.tables e below (T54.setTop (mkF m 57 #[.val (.int p1), .val (.ref b2), .unset, .unset] [(.int p1)])) _
    refine Jvm.Stand.ldcI X54 hx hown (mvT hZ (w_20 hw)) rfl (hb hby at_57) ?_
    show Steps p.tables e below (T54.setTop (mkF m 59 #[.val (.int p1), .val (.ref b2), .unset, .unset] [(.int (2147483647 : Int32)), (.int p1)])) _
    refine XS.iand X54.here hx rfl (hb hby at_59) rfl ?_
    show Steps p.tables e below (T54.setTop (mkF m 60 #[.val (.int p1), .val (.ref b2), .unset, .unset] [(.int (p1 &&& (2147483647 : Int32)))])) _
    refine XS.bipush X54.here hx rfl (hb hby at_60) ?_
    show Steps p.tables e below (T54.setTop (mkF m 62 #[.val (.int p1), .val (.ref b2), .unset, .unset] [(.int (8 : Int32)), (.int (p1 &&& (2147483647 : Int32)))])) _
    refine Jvm.RoadKit.iremM X54 hx rfl (hb hby at_62) rfl (by decide) ?_
    show Steps p.tables e below (T54.setTop (mkF m 63 #[.val (.int p1), .val (.ref b2), .unset, .unset] [(.int ((p1 &&& (2147483647 : Int32)) % (8 : Int32)))])) _
    rw [hi]
    show Steps p.tables e below (T54.setTop (mkF m 63 #[.val (.int p1), .val (.ref b2), .unset, .unset] [(.int (1 : Int32))])) _
    refine XS.istoreN X54.here hx rfl (hb hby at_63) rfl (l' := #[.val (.int p1), .val (.ref b2), .val (.int (1 : Int32)), .unset]) rfl ?_
    show Steps p.tables e below (T54.setTop (mkF m 64 #[.val (.int p1), .val (.ref b2), .val (.int (1 : Int32)), .unset] [])) _
    refine XS.iloadN X54.here hx rfl (hb hby at_64) rfl ?_
    show Steps p.tables e below (T54.setTop (mkF m 65 #[.val (.int p1), .val (.ref b2), .val (.int (1 : Int32)), .unset] [(.int (1 : Int32))])) _
    refine XS.iconst X54.here hx rfl (hb hby at_65) ?_
    show Steps p.tables e below (T54.setTop (mkF m 66 #[.val (.int p1), .val (.ref b2), .val (.int (1 : Int32)), .unset] [(.int (1 : Int32)), (.int (1 : Int32))])) _
    refine XS.icmpYes X54.here hx rfl (pc0 := 66) (pc' := 79) rfl (hb hby at_66) rfl (teq (by decide : (1 : Int32) = (1 : Int32))).1 (by decide) (by decide) ?_
    show Steps p.tables e below (T54.setTop (mkF m 79 #[.val (.int p1), .val (.ref b2), .val (.int (1 : Int32)), .unset] [])) _
    refine XS.iconst X54.here hx rfl (hb hby at_79) ?_
    show Steps p.tables e below (T54.setTop (mkF m 80 #[.val (.int p1), .val (.ref b2), .val (.int (1 : Int32)), .unset] [(.int (1 : Int32))])) _
    refine XS.goto X54.here hx rfl (pc0 := 80) (pc' := 84) rfl (hb hby at_80) (by decide) (by decide) ?_
    show Steps p.tables e below (T54.setTop (mkF m 84 #[.val (.int p1), .val (.ref b2), .val (.int (1 : Int32)), .unset] [(.int (1 : Int32))])) _
    refine XS.istoreN X54.here hx rfl (hb hby at_84) rfl (l' := #[.val (.int p1), .val (.ref b2), .val (.int (1 : Int32)), .val (.int (1 : Int32))]) rfl ?_
    show Steps p.tables e below (T54.setTop (mkF m 85 #[.val (.int p1), .val (.ref b2), .val (.int (1 : Int32)), .val (.int (1 : Int32))] [])) _
    refine XS.aloadN X54.here hx rfl (hb hby at_85) rfl rfl ?_
    show Steps p.tables e below (T54.setTop (mkF m 86 #[.val (.int p1), .val (.ref b2), .val (.int (1 : Int32)), .val (.int (1 : Int32))] [(.ref b2)])) _
    refine XS.iloadN X54.here hx rfl (hb hby at_86) rfl ?_
    show Steps p.tables e below (T54.setTop (mkF m 87 #[.val (.int p1), .val (.ref b2), .val (.int (1 : Int32)), .val (.int (1 : Int32))] [(.int (1 : Int32)), (.ref b2)])) _
    refine X54.aaload hx (j := (1 : Int32)) (v := (.ref w1)) (by rw [e54]; exact Ar87.1) (State.isArrayOf_alike hZ.alike Ar87.2.1) rfl Ar87.2.2 hin87 f39 (g := (mkF m 87 #[.val (.int p1), .val (.ref b2), .val (.int (1 : Int32)), .val (.int (1 : Int32))] [(.int (1 : Int32)), (.ref b2)])) rfl rfl (hb hby at_87) _ ?_
    show Steps p.tables e below (T54.setTop (mkF m 88 #[.val (.int p1), .val (.ref b2), .val (.int (1 : Int32)), .val (.int (1 : Int32))] [(.ref w1)])) _
    refine st88.trans ?_
    show Steps p.tables e below (T88.setTop (mkF m 91 #[.val (.int p1), .val (.ref b2), .val (.int (1 : Int32)), .val (.int (1 : Int32))] [(.int (1 : Int32))])) _
    refine XS.iloadN X88.here hx rfl (hb hby at_91) rfl ?_
    show Steps p.tables e below (T88.setTop (mkF m 92 #[.val (.int p1), .val (.ref b2), .val (.int (1 : Int32)), .val (.int (1 : Int32))] [(.int (1 : Int32)), (.int (1 : Int32))])) _
    refine XS.icmpNo X88.here hx rfl (hb hby at_92) rfl (teq (by decide : (1 : Int32) = (1 : Int32))).2 ?_
    show Steps p.tables e below (T88.setTop (mkF m 95 #[.val (.int p1), .val (.ref b2), .val (.int (1 : Int32)), .val (.int (1 : Int32))] [])) _
    refine XS.iconst X88.here hx rfl (hb hby at_95) ?_
    show Steps p.tables e below (T88.setTop (mkF m 96 #[.val (.int p1), .val (.ref b2), .val (.int (1 : Int32)), .val (.int (1 : Int32))] [(.int (1 : Int32))])) _
    refine XS.goto X88.here hx rfl (pc0 := 96) (pc' := 100) rfl (hb hby at_96) (by decide) (by decide) ?_
    show Steps p.tables e below (T88.setTop (mkF m 100 #[.val (.int p1), .val (.ref b2), .val (.int (1 : Int32)), .val (.int (1 : Int32))] [(.int (1 : Int32))])) _
    exact retN X88 hx (t := .boolean) Bd.returns (by simp) (hb hby at_100) hr
  · show Q_law Z p1 w0 w1 w2 w3 w4 w5 w6 w7 h0 n0 _ T88.heap _
    exact ⟨rfl, N88, f40⟩
theorem ef_rm_law_2 (m : MethodId) (x0 : Int32) : entryFrame m #[(.int x0)] maxLocals = mkF m 0 #[.val (.int x0), .unset, .unset, .unset] [] := by first | (simp [entryFrame, mkF, argsToLocals, Value.category, maxLocals]; done) | rfl
set_option maxRecDepth 65536 in
set_option maxHeartbeats 40000000 in
theorem rm_law_2 (l : Launch) (Z : State) (a0 : Array Value) (hw : ∀ d ∈ tables_1, d.before a0 Z = true) (ws : List Jvm.Cond) (p1 : Int32) (w0 : Addr) (w1 : Addr) (w2 : Addr) (w3 : Addr) (w4 : Addr) (w5 : Addr) (w6 : Addr) (w7 : Addr) (h0 : Heap) (n0 : Nat) (O0 : Old Z n0 h0) (S0 : Sta Z Z.heap "com/example/lotista/lotista/retorno/EventField$Form" "NUMBER" "Lcom/example/lotista/lotista/retorno/EventField$Form;" (.ref w0)) (S1 : Sta Z Z.heap "com/example/lotista/lotista/retorno/EventField$Form" "CODE" "Lcom/example/lotista/lotista/retorno/EventField$Form;" (.ref w1)) (S2 : Sta Z Z.heap "com/example/lotista/lotista/retorno/EventField$Form" "ALPHANUMERIC_CODE" "Lcom/example/lotista/lotista/retorno/EventField$Form;" (.ref w2)) (S3 : Sta Z Z.heap "com/example/lotista/lotista/retorno/EventField$Form" "TEXT" "Lcom/example/lotista/lotista/retorno/EventField$Form;" (.ref w3)) (S4 : Sta Z Z.heap "com/example/lotista/lotista/retorno/EventField$Form" "MONEY" "Lcom/example/lotista/lotista/retorno/EventField$Form;" (.ref w4)) (S5 : Sta Z Z.heap "com/example/lotista/lotista/retorno/EventField$Form" "DATE" "Lcom/example/lotista/lotista/retorno/EventField$Form;" (.ref w5)) (S6 : Sta Z Z.heap "com/example/lotista/lotista/retorno/EventField$Form" "GIVEN_DATE" "Lcom/example/lotista/lotista/retorno/EventField$Form;" (.ref w6)) (S7 : Sta Z Z.heap "com/example/lotista/lotista/retorno/EventField$Form" "CODES" "Lcom/example/lotista/lotista/retorno/EventField$Form;" (.ref w7)) (E0 : Exa Z Z.heap w0 "com/example/lotista/lotista/retorno/EventField$Form") (E1 : Exa Z Z.heap w1 "com/example/lotista/lotista/retorno/EventField$Form") (E2 : Exa Z Z.heap w2 "com/example/lotista/lotista/retorno/EventField$Form") (E3 : Exa Z Z.heap w3 "com/example/lotista/lotista/retorno/EventField$Form") (E4 : Exa Z Z.heap w4 "com/example/lotista/lotista/retorno/EventField$Form") (E5 : Exa Z Z.heap w5 "com/example/lotista/lotista/retorno/EventField$Form") (E6 : Exa Z Z.heap w6 "com/example/lotista/lotista/retorno/EventField$Form") (E7 : Exa Z Z.heap w7 "com/example/lotista/lotista/retorno/EventField$Form") (n0_1 : w0 ≠ w1) (n0_2 : w0 ≠ w2) (n0_3 : w0 ≠ w3) (n2_1 : w2 ≠ w1) (n3_1 : w3 ≠ w1) (n3_2 : w3 ≠ w2) (n4_1 : w4 ≠ w1) (n4_2 : w4 ≠ w2) (n4_3 : w4 ≠ w3) (n5_1 : w5 ≠ w1) (n5_2 : w5 ≠ w2) (n5_3 : w5 ≠ w3) (n6_1 : w6 ≠ w1) (n6_2 : w6 ≠ w2) (n6_3 : w6 ≠ w3) (n7_1 : w7 ≠ w1) (n7_2 : w7 ≠ w2) (n7_3 : w7 ≠ w3) (hi : ((p1 &&& (2147483647 : Int32)) % (8 : Int32)) = (2 : Int32)) :
    MetFree l x (head1 (Jvm.Cond.code x code maxLocals ret :: ws) room_1) (fun as' U => as' = #[(.int p1)] ∧ Z.Warmed39 U.vm ∧ U.heap = h0) (fun _ _ _ _ _ => True) (fun _ U o U' => ∃ v L, o = .returned v ∧ Q_law Z p1 w0 w1 w2 w3 w4 w5 w6 w7 h0 n0 v U'.heap L ∧ FrameEnd U o U' L room_1.cells room_1.slots) := by
  refine MetFree.of_bodySF (plainFor_of_name pn_com_example_lotista_lotista_retorno_FormIsTextPinLaw) hisR ?_
  intro p e s m args below meth c s₁ Bd hml0 hP hK
  obtain ⟨rfl, hZ, hh⟩ := hP
  have hx := Bd.exec
  have hby := Bd.bytes
  have hml : c.maxLocals = 4 := hml0
  have hown : s.vm.findClass "com/example/lotista/lotista/retorno/FormIsTextPinLaw" = some m.cls := findClass_of_methodNamed Bd.named
  have hnm := (name_of_methodNamed Bd.named Bd.method).1
  have X0 : Stand p l e room_1 s m #[(.int p1)] below meth c s₁ [] 0 0 := Stand.of_body Bd
  have e0 : s₁.heap = h0 := by rw [← hh, Bd.state]; rfl
  have N0 := Fr.nil n0
  have K0 : Keep h0 h0 [] := Keep.refl _ _
  have pre0 : ∀ t, Steps p.tables e below (s₁.setTop (mkF m 0 #[.val (.int p1), .unset, .unset, .unset] [])) t → Steps p.tables e below (s₁.setTop (entryFrame m #[(.int p1)] maxLocals)) t := fun t k => castTop (ef_rm_law_2 m p1) k
  obtain ⟨T2, h2, kc2, X2, e2, Ex2, Aa2, Bb2, Ov2, st2⟩ := newRE X0 hx hZ hown (w_0 hw) (w_1 hw) e0 (g := (mkF m 2 #[.val (.int p1), .unset, .unset, .unset] [(.int (8 : Int32))])) rfl (hb hby at_2) rfl (by decide) (cap := 8) (by decide) (by decide) (by decide) (by decide) (ad := "[Lcom/example/lotista/lotista/retorno/EventField$Form;") (by first | rfl | decide +kernel)
  obtain ⟨b2, gg2⟩ : ∃ z, z = h0.size := ⟨_, rfl⟩
  rw [← gg2] at Aa2 Bb2 st2
  have f1 : Keep h0 h2 [] := K0.ext Ex2
  have f2 : Old Z n0 h2 := O0.ext Ex2
  have f3 : Arv Z h2 b2 kc2 (.object "com/example/lotista/lotista/retorno/EventField$Form") (8 : Int32) [.null, .null, .null, .null, .null, .null, .null, .null] .null := (Arv.new Aa2 (by decide)).pad (pad_rep [] .null 8)
  obtain ⟨T7, X7, e7, st7⟩ := getS2 X2 hx hZ hown (host := "") (Or.inl (w_2 hw)) Via.refl e2 (S0.ext f2.2) (g := (mkF m 7 #[.val (.int p1), .unset, .unset, .unset] [(.int (0 : Int32)), (.ref b2), (.ref b2)])) rfl (hb hby at_7)
  obtain ⟨cl10, Ar10, qq10, Sz10, NN10, HH10, GG10⟩ := (id f3)
  have hin10 : ¬ ((0 : Int32) < 0 ∨ cl10.slots.size ≤ ((0 : Int32)).toNatClampNeg) := inb_of Sz10 ⟨by decide, by decide⟩
  obtain ⟨T10, h10, X10, e10, Wr10, st10⟩ := stR X7 hx hZ e7 Ar10 (j := (0 : Int32)) hin10 rfl (Sto.ofV Ar10 qq10 Ov2 (Ins.self (E0.ext f2.2))) (g := (mkF m 10 #[.val (.int p1), .unset, .unset, .unset] [(.ref w0), (.int (0 : Int32)), (.ref b2), (.ref b2)])) rfl rfl (hb hby at_10)
  have f5 : h0.size ≤ b2 := Nat.le_trans K0.1 (Nat.le_of_eq gg2.symm)
  have f6 : n0 ≤ b2 := Nat.le_trans (own_old_le O0) (Nat.le_of_eq gg2.symm)
  have f7 : Keep h0 h10 [] := f1.wr Wr10 (Or.inr f5)
  have f8 : Old Z n0 h10 := f2.wr Wr10 f6
  have f9 : Arv Z h10 b2 kc2 (.object "com/example/lotista/lotista/retorno/EventField$Form") (8 : Int32) [(.ref w0), .null, .null, .null, .null, .null, .null, .null] .null := Arv.set Ar10 qq10 Sz10 NN10 HH10 GG10 rfl Wr10 0 rfl (Nat.le_of_ble_eq_true rfl)
  have N10 := Fr.snoc X10 N0 f6
  obtain ⟨T13, X13, e13, st13⟩ := getS2 X10 hx hZ hown (host := "") (Or.inl (w_6 hw)) Via.refl e10 (S1.ext f8.2) (g := (mkF m 13 #[.val (.int p1), .unset, .unset, .unset] [(.int (1 : Int32)), (.ref b2), (.ref b2)])) rfl (hb hby at_13)
  obtain ⟨cl16, Ar16, qq16, Sz16, NN16, HH16, GG16⟩ := (id f9)
  have hin16 : ¬ ((1 : Int32) < 0 ∨ cl16.slots.size ≤ ((1 : Int32)).toNatClampNeg) := inb_of Sz16 ⟨by decide, by decide⟩
  obtain ⟨T16, h16, X16, e16, Wr16, st16⟩ := stR X13 hx hZ e13 Ar16 (j := (1 : Int32)) hin16 rfl (Sto.ofV Ar16 qq16 Ov2 (Ins.self (E1.ext f8.2))) (g := (mkF m 16 #[.val (.int p1), .unset, .unset, .unset] [(.ref w1), (.int (1 : Int32)), (.ref b2), (.ref b2)])) rfl rfl (hb hby at_16)
  have f11 : Keep h0 h16 [] := f7.wr Wr16 (Or.inr f5)
  have f12 : Old Z n0 h16 := f8.wr Wr16 f6
  have f13 : Arv Z h16 b2 kc2 (.object "com/example/lotista/lotista/retorno/EventField$Form") (8 : Int32) [(.ref w0), (.ref w1), .null, .null, .null, .null, .null, .null] .null := Arv.set Ar16 qq16 Sz16 NN16 HH16 GG16 rfl Wr16 1 rfl (Nat.le_of_ble_eq_true rfl)
  have N16 := Fr.snoc X16 N10 f6
  obtain ⟨T19, X19, e19, st19⟩ := getS2 X16 hx hZ hown (host := "") (Or.inl (w_8 hw)) Via.refl e16 (S2.ext f12.2) (g := (mkF m 19 #[.val (.int p1), .unset, .unset, .unset] [(.int (2 : Int32)), (.ref b2), (.ref b2)])) rfl (hb hby at_19)
  obtain ⟨cl22, Ar22, qq22, Sz22, NN22, HH22, GG22⟩ := (id f13)
  have hin22 : ¬ ((2 : Int32) < 0 ∨ cl22.slots.size ≤ ((2 : Int32)).toNatClampNeg) := inb_of Sz22 ⟨by decide, by decide⟩
  obtain ⟨T22, h22, X22, e22, Wr22, st22⟩ := stR X19 hx hZ e19 Ar22 (j := (2 : Int32)) hin22 rfl (Sto.ofV Ar22 qq22 Ov2 (Ins.self (E2.ext f12.2))) (g := (mkF m 22 #[.val (.int p1), .unset, .unset, .unset] [(.ref w2), (.int (2 : Int32)), (.ref b2), (.ref b2)])) rfl rfl (hb hby at_22)
  have f15 : Keep h0 h22 [] := f11.wr Wr22 (Or.inr f5)
  have f16 : Old Z n0 h22 := f12.wr Wr22 f6
  have f17 : Arv Z h22 b2 kc2 (.object "com/example/lotista/lotista/retorno/EventField$Form") (8 : Int32) [(.ref w0), (.ref w1), (.ref w2), .null, .null, .null, .null, .null] .null := Arv.set Ar22 qq22 Sz22 NN22 HH22 GG22 rfl Wr22 2 rfl (Nat.le_of_ble_eq_true rfl)
  have N22 := Fr.snoc X22 N16 f6
  obtain ⟨T25, X25, e25, st25⟩ := getS2 X22 hx hZ hown (host := "") (Or.inl (w_10 hw)) Via.refl e22 (S3.ext f16.2) (g := (mkF m 25 #[.val (.int p1), .unset, .unset, .unset] [(.int (3 : Int32)), (.ref b2), (.ref b2)])) rfl (hb hby at_25)
  obtain ⟨cl28, Ar28, qq28, Sz28, NN28, HH28, GG28⟩ := (id f17)
  have hin28 : ¬ ((3 : Int32) < 0 ∨ cl28.slots.size ≤ ((3 : Int32)).toNatClampNeg) := inb_of Sz28 ⟨by decide, by decide⟩
  obtain ⟨T28, h28, X28, e28, Wr28, st28⟩ := stR X25 hx hZ e25 Ar28 (j := (3 : Int32)) hin28 rfl (Sto.ofV Ar28 qq28 Ov2 (Ins.self (E3.ext f16.2))) (g := (mkF m 28 #[.val (.int p1), .unset, .unset, .unset] [(.ref w3), (.int (3 : Int32)), (.ref b2), (.ref b2)])) rfl rfl (hb hby at_28)
  have f19 : Keep h0 h28 [] := f15.wr Wr28 (Or.inr f5)
  have f20 : Old Z n0 h28 := f16.wr Wr28 f6
  have f21 : Arv Z h28 b2 kc2 (.object "com/example/lotista/lotista/retorno/EventField$Form") (8 : Int32) [(.ref w0), (.ref w1), (.ref w2), (.ref w3), .null, .null, .null, .null] .null := Arv.set Ar28 qq28 Sz28 NN28 HH28 GG28 rfl Wr28 3 rfl (Nat.le_of_ble_eq_true rfl)
  have N28 := Fr.snoc X28 N22 f6
  obtain ⟨T31, X31, e31, st31⟩ := getS2 X28 hx hZ hown (host := "") (Or.inl (w_12 hw)) Via.refl e28 (S4.ext f20.2) (g := (mkF m 31 #[.val (.int p1), .unset, .unset, .unset] [(.int (4 : Int32)), (.ref b2), (.ref b2)])) rfl (hb hby at_31)
  obtain ⟨cl34, Ar34, qq34, Sz34, NN34, HH34, GG34⟩ := (id f21)
  have hin34 : ¬ ((4 : Int32) < 0 ∨ cl34.slots.size ≤ ((4 : Int32)).toNatClampNeg) := inb_of Sz34 ⟨by decide, by decide⟩
  obtain ⟨T34, h34, X34, e34, Wr34, st34⟩ := stR X31 hx hZ e31 Ar34 (j := (4 : Int32)) hin34 rfl (Sto.ofV Ar34 qq34 Ov2 (Ins.self (E4.ext f20.2))) (g := (mkF m 34 #[.val (.int p1), .unset, .unset, .unset] [(.ref w4), (.int (4 : Int32)), (.ref b2), (.ref b2)])) rfl rfl (hb hby at_34)
  have f23 : Keep h0 h34 [] := f19.wr Wr34 (Or.inr f5)
  have f24 : Old Z n0 h34 := f20.wr Wr34 f6
  have f25 : Arv Z h34 b2 kc2 (.object "com/example/lotista/lotista/retorno/EventField$Form") (8 : Int32) [(.ref w0), (.ref w1), (.ref w2), (.ref w3), (.ref w4), .null, .null, .null] .null := Arv.set Ar34 qq34 Sz34 NN34 HH34 GG34 rfl Wr34 4 rfl (Nat.le_of_ble_eq_true rfl)
  have N34 := Fr.snoc X34 N28 f6
  obtain ⟨T37, X37, e37, st37⟩ := getS2 X34 hx hZ hown (host := "") (Or.inl (w_14 hw)) Via.refl e34 (S5.ext f24.2) (g := (mkF m 37 #[.val (.int p1), .unset, .unset, .unset] [(.int (5 : Int32)), (.ref b2), (.ref b2)])) rfl (hb hby at_37)
  obtain ⟨cl40, Ar40, qq40, Sz40, NN40, HH40, GG40⟩ := (id f25)
  have hin40 : ¬ ((5 : Int32) < 0 ∨ cl40.slots.size ≤ ((5 : Int32)).toNatClampNeg) := inb_of Sz40 ⟨by decide, by decide⟩
  obtain ⟨T40, h40, X40, e40, Wr40, st40⟩ := stR X37 hx hZ e37 Ar40 (j := (5 : Int32)) hin40 rfl (Sto.ofV Ar40 qq40 Ov2 (Ins.self (E5.ext f24.2))) (g := (mkF m 40 #[.val (.int p1), .unset, .unset, .unset] [(.ref w5), (.int (5 : Int32)), (.ref b2), (.ref b2)])) rfl rfl (hb hby at_40)
  have f27 : Keep h0 h40 [] := f23.wr Wr40 (Or.inr f5)
  have f28 : Old Z n0 h40 := f24.wr Wr40 f6
  have f29 : Arv Z h40 b2 kc2 (.object "com/example/lotista/lotista/retorno/EventField$Form") (8 : Int32) [(.ref w0), (.ref w1), (.ref w2), (.ref w3), (.ref w4), (.ref w5), .null, .null] .null := Arv.set Ar40 qq40 Sz40 NN40 HH40 GG40 rfl Wr40 5 rfl (Nat.le_of_ble_eq_true rfl)
  have N40 := Fr.snoc X40 N34 f6
  obtain ⟨T44, X44, e44, st44⟩ := getS2 X40 hx hZ hown (host := "") (Or.inl (w_16 hw)) Via.refl e40 (S6.ext f28.2) (g := (mkF m 44 #[.val (.int p1), .unset, .unset, .unset] [(.int (6 : Int32)), (.ref b2), (.ref b2)])) rfl (hb hby at_44)
  obtain ⟨cl47, Ar47, qq47, Sz47, NN47, HH47, GG47⟩ := (id f29)
  have hin47 : ¬ ((6 : Int32) < 0 ∨ cl47.slots.size ≤ ((6 : Int32)).toNatClampNeg) := inb_of Sz47 ⟨by decide, by decide⟩
  obtain ⟨T47, h47, X47, e47, Wr47, st47⟩ := stR X44 hx hZ e44 Ar47 (j := (6 : Int32)) hin47 rfl (Sto.ofV Ar47 qq47 Ov2 (Ins.self (E6.ext f28.2))) (g := (mkF m 47 #[.val (.int p1), .unset, .unset, .unset] [(.ref w6), (.int (6 : Int32)), (.ref b2), (.ref b2)])) rfl rfl (hb hby at_47)
  have f31 : Keep h0 h47 [] := f27.wr Wr47 (Or.inr f5)
  have f32 : Old Z n0 h47 := f28.wr Wr47 f6
  have f33 : Arv Z h47 b2 kc2 (.object "com/example/lotista/lotista/retorno/EventField$Form") (8 : Int32) [(.ref w0), (.ref w1), (.ref w2), (.ref w3), (.ref w4), (.ref w5), (.ref w6), .null] .null := Arv.set Ar47 qq47 Sz47 NN47 HH47 GG47 rfl Wr47 6 rfl (Nat.le_of_ble_eq_true rfl)
  have N47 := Fr.snoc X47 N40 f6
  obtain ⟨T51, X51, e51, st51⟩ := getS2 X47 hx hZ hown (host := "") (Or.inl (w_18 hw)) Via.refl e47 (S7.ext f32.2) (g := (mkF m 51 #[.val (.int p1), .unset, .unset, .unset] [(.int (7 : Int32)), (.ref b2), (.ref b2)])) rfl (hb hby at_51)
  obtain ⟨cl54, Ar54, qq54, Sz54, NN54, HH54, GG54⟩ := (id f33)
  have hin54 : ¬ ((7 : Int32) < 0 ∨ cl54.slots.size ≤ ((7 : Int32)).toNatClampNeg) := inb_of Sz54 ⟨by decide, by decide⟩
  obtain ⟨T54, h54, X54, e54, Wr54, st54⟩ := stR X51 hx hZ e51 Ar54 (j := (7 : Int32)) hin54 rfl (Sto.ofV Ar54 qq54 Ov2 (Ins.self (E7.ext f32.2))) (g := (mkF m 54 #[.val (.int p1), .unset, .unset, .unset] [(.ref w7), (.int (7 : Int32)), (.ref b2), (.ref b2)])) rfl rfl (hb hby at_54)
  have f35 : Keep h0 h54 [] := f31.wr Wr54 (Or.inr f5)
  have f36 : Old Z n0 h54 := f32.wr Wr54 f6
  have f37 : Arv Z h54 b2 kc2 (.object "com/example/lotista/lotista/retorno/EventField$Form") (8 : Int32) [(.ref w0), (.ref w1), (.ref w2), (.ref w3), (.ref w4), (.ref w5), (.ref w6), (.ref w7)] .null := Arv.set Ar54 qq54 Sz54 NN54 HH54 GG54 rfl Wr54 7 rfl (Nat.le_of_ble_eq_true rfl)
  have N54 := Fr.snoc X54 N47 f6
  obtain ⟨cl87, Ar87, qq87, Sz87, NN87, HH87, GG87⟩ := (id f37)
  have hin87 : ¬ ((2 : Int32) < 0 ∨ cl87.slots.size ≤ ((2 : Int32)).toNatClampNeg) := inb_of Sz87 ⟨by decide, by decide⟩
  have f39 : cl87.slots[((2 : Int32)).toNatClampNeg]? = some (.ref w2) := HH87.at hin87 rfl
  obtain ⟨cq88, kq88, q88a, q88b, q88c⟩ := isOf hZ e54 (E2.ext f36.2)
  obtain ⟨_, _, ⟨T88, Lo88, kk88, nn88⟩, -, X88, ⟨Lc88, hQ88, ll88, yy88, zz88⟩, st88⟩ := X54.virtualBack hx (y := (⟨"com/example/lotista/lotista/retorno/EventField$Form", "isText", "()Z"⟩ : MethodName)) (z := (⟨"com/example/lotista/lotista/retorno/EventField$Form", "isText", "()Z"⟩ : MethodName)) hown (mvT hZ (w_21 hw)) (mvT hZ (w_22 hw)) (notFace_of_selects (args := #[]) (mvT hZ (w_24 hw))) (mvT hZ (w_24 hw)) (mvT hZ (w_23 hw)) (by decide) (backOf (W := 0) (rm_t2 l Z a0 hw [] w1 w2 h54 n0 f36 S1 S2 n2_1) hZ (w_25 hw) (w_3 hw) (by decide) (by decide)) q88a q88c (g := (mkF m 88 #[.val (.int p1), .val (.ref b2), .val (.int (2 : Int32)), .val (.int (1 : Int32))] [(.ref w2)])) rfl (by rw [hml]; rfl) (Steps.refl _) (argsL := []) (rest := []) (lenOf pd_0 rfl) rfl (by show 2 * 0 + _ ≤ _; exact Nat.le_of_eq rfl) (hb hby at_88) (fun _ _ => ⟨rfl, e54, (by decide : 1 + 0 ≤ _), (by decide : 8 + 0 ≤ _)⟩)
  dsimp only [Pt.U, Pt.locs, Pt.cells, Pt.slots] at X88 ll88 yy88 zz88 st88 hQ88
  subst ll88 yy88 zz88
  obtain ⟨rfl, N88q, K88q⟩ := hQ88
  have N88 := Fr.app N54 N88q
  have f40 : Keep h0 T88.heap [] := f35.trans K88q all0
  have f41 : Old Z n0 T88.heap := f36.keep K88q all0
  obtain ⟨fs, hr, hrun, hended, hW, hsame⟩ := X88.leave (v := some (.int (1 : Int32))) (fun h => by rw [Bd.returns] at h; cases h)
  refine ⟨_, _, pre0 _ ?_, hrun, hended, _, _, rfl, ?_, ⟨_, rfl⟩, hW, hsame.mono (by decide) (by decide)⟩
  · show Steps p.tables e below (s₁.setTop (mkF m 0 #[.val (.int p1), .unset, .unset, .unset] [])) _
    refine XS.bipush X0.here hx rfl (hb hby at_0) ?_
    show Steps p.tables e below (s₁.setTop (mkF m 2 #[.val (.int p1), .unset, .unset, .unset] [(.int (8 : Int32))])) _
    refine st2 _ ?_
    show Steps p.tables e below (T2.setTop (mkF m 5 #[.val (.int p1), .unset, .unset, .unset] [(.ref b2)])) _
    refine XS.dup X2.here hx rfl (hb hby at_5) rfl rfl ?_
    show Steps p.tables e below (T2.setTop (mkF m 6 #[.val (.int p1), .unset, .unset, .unset] [(.ref b2), (.ref b2)])) _
    refine XS.iconst X2.here hx rfl (hb hby at_6) ?_
    show Steps p.tables e below (T2.setTop (mkF m 7 #[.val (.int p1), .unset, .unset, .unset] [(.int (0 : Int32)), (.ref b2), (.ref b2)])) _
    refine st7 _ ?_
    show Steps p.tables e below (T7.setTop (mkF m 10 #[.val (.int p1), .unset, .unset, .unset] [(.ref w0), (.int (0 : Int32)), (.ref b2), (.ref b2)])) _
    refine st10 _ ?_
    show Steps p.tables e below (T10.setTop (mkF m 11 #[.val (.int p1), .unset, .unset, .unset] [(.ref b2)])) _
    refine XS.dup X10.here hx rfl (hb hby at_11) rfl rfl ?_
    show Steps p.tables e below (T10.setTop (mkF m 12 #[.val (.int p1), .unset, .unset, .unset] [(.ref b2), (.ref b2)])) _
    refine XS.iconst X10.here hx rfl (hb hby at_12) ?_
    show Steps p.tables e below (T10.setTop (mkF m 13 #[.val (.int p1), .unset, .unset, .unset] [(.int (1 : Int32)), (.ref b2), (.ref b2)])) _
    refine st13 _ ?_
    show Steps p.tables e below (T13.setTop (mkF m 16 #[.val (.int p1), .unset, .unset, .unset] [(.ref w1), (.int (1 : Int32)), (.ref b2), (.ref b2)])) _
    refine st16 _ ?_
    show Steps p.tables e below (T16.setTop (mkF m 17 #[.val (.int p1), .unset, .unset, .unset] [(.ref b2)])) _
    refine XS.dup X16.here hx rfl (hb hby at_17) rfl rfl ?_
    show Steps p.tables e below (T16.setTop (mkF m 18 #[.val (.int p1), .unset, .unset, .unset] [(.ref b2), (.ref b2)])) _
    refine XS.iconst X16.here hx rfl (hb hby at_18) ?_
    show Steps p.tables e below (T16.setTop (mkF m 19 #[.val (.int p1), .unset, .unset, .unset] [(.int (2 : Int32)), (.ref b2), (.ref b2)])) _
    refine st19 _ ?_
    show Steps p.tables e below (T19.setTop (mkF m 22 #[.val (.int p1), .unset, .unset, .unset] [(.ref w2), (.int (2 : Int32)), (.ref b2), (.ref b2)])) _
    refine st22 _ ?_
    show Steps p.tables e below (T22.setTop (mkF m 23 #[.val (.int p1), .unset, .unset, .unset] [(.ref b2)])) _
    refine XS.dup X22.here hx rfl (hb hby at_23) rfl rfl ?_
    show Steps p.tables e below (T22.setTop (mkF m 24 #[.val (.int p1), .unset, .unset, .unset] [(.ref b2), (.ref b2)])) _
    refine XS.iconst X22.here hx rfl (hb hby at_24) ?_
    show Steps p.tables e below (T22.setTop (mkF m 25 #[.val (.int p1), .unset, .unset, .unset] [(.int (3 : Int32)), (.ref b2), (.ref b2)])) _
    refine st25 _ ?_
    show Steps p.tables e below (T25.setTop (mkF m 28 #[.val (.int p1), .unset, .unset, .unset] [(.ref w3), (.int (3 : Int32)), (.ref b2), (.ref b2)])) _
    refine st28 _ ?_
    show Steps p.tables e below (T28.setTop (mkF m 29 #[.val (.int p1), .unset, .unset, .unset] [(.ref b2)])) _
    refine XS.dup X28.here hx rfl (hb hby at_29) rfl rfl ?_
    show Steps p.tables e below (T28.setTop (mkF m 30 #[.val (.int p1), .unset, .unset, .unset] [(.ref b2), (.ref b2)])) _
    refine XS.iconst X28.here hx rfl (hb hby at_30) ?_
    show Steps p.tables e below (T28.setTop (mkF m 31 #[.val (.int p1), .unset, .unset, .unset] [(.int (4 : Int32)), (.ref b2), (.ref b2)])) _
    refine st31 _ ?_
    show Steps p.tables e below (T31.setTop (mkF m 34 #[.val (.int p1), .unset, .unset, .unset] [(.ref w4), (.int (4 : Int32)), (.ref b2), (.ref b2)])) _
    refine st34 _ ?_
    show Steps p.tables e below (T34.setTop (mkF m 35 #[.val (.int p1), .unset, .unset, .unset] [(.ref b2)])) _
    refine XS.dup X34.here hx rfl (hb hby at_35) rfl rfl ?_
    show Steps p.tables e below (T34.setTop (mkF m 36 #[.val (.int p1), .unset, .unset, .unset] [(.ref b2), (.ref b2)])) _
    refine XS.iconst X34.here hx rfl (hb hby at_36) ?_
    show Steps p.tables e below (T34.setTop (mkF m 37 #[.val (.int p1), .unset, .unset, .unset] [(.int (5 : Int32)), (.ref b2), (.ref b2)])) _
    refine st37 _ ?_
    show Steps p.tables e below (T37.setTop (mkF m 40 #[.val (.int p1), .unset, .unset, .unset] [(.ref w5), (.int (5 : Int32)), (.ref b2), (.ref b2)])) _
    refine st40 _ ?_
    show Steps p.tables e below (T40.setTop (mkF m 41 #[.val (.int p1), .unset, .unset, .unset] [(.ref b2)])) _
    refine XS.dup X40.here hx rfl (hb hby at_41) rfl rfl ?_
    show Steps p.tables e below (T40.setTop (mkF m 42 #[.val (.int p1), .unset, .unset, .unset] [(.ref b2), (.ref b2)])) _
    refine XS.bipush X40.here hx rfl (hb hby at_42) ?_
    show Steps p.tables e below (T40.setTop (mkF m 44 #[.val (.int p1), .unset, .unset, .unset] [(.int (6 : Int32)), (.ref b2), (.ref b2)])) _
    refine st44 _ ?_
    show Steps p.tables e below (T44.setTop (mkF m 47 #[.val (.int p1), .unset, .unset, .unset] [(.ref w6), (.int (6 : Int32)), (.ref b2), (.ref b2)])) _
    refine st47 _ ?_
    show Steps p.tables e below (T47.setTop (mkF m 48 #[.val (.int p1), .unset, .unset, .unset] [(.ref b2)])) _
    refine XS.dup X47.here hx rfl (hb hby at_48) rfl rfl ?_
    show Steps p.tables e below (T47.setTop (mkF m 49 #[.val (.int p1), .unset, .unset, .unset] [(.ref b2), (.ref b2)])) _
    refine XS.bipush X47.here hx rfl (hb hby at_49) ?_
    show Steps p.tables e below (T47.setTop (mkF m 51 #[.val (.int p1), .unset, .unset, .unset] [(.int (7 : Int32)), (.ref b2), (.ref b2)])) _
    refine st51 _ ?_
    show Steps p.tables e below (T51.setTop (mkF m 54 #[.val (.int p1), .unset, .unset, .unset] [(.ref w7), (.int (7 : Int32)), (.ref b2), (.ref b2)])) _
    refine st54 _ ?_
    show Steps p.tables e below (T54.setTop (mkF m 55 #[.val (.int p1), .unset, .unset, .unset] [(.ref b2)])) _
    refine XS.astoreN X54.here hx rfl (hb hby at_55) rfl rfl (l' := #[.val (.int p1), .val (.ref b2), .unset, .unset]) rfl ?_
    show Steps p.tables e below (T54.setTop (mkF m 56 #[.val (.int p1), .val (.ref b2), .unset, .unset] [])) _
    refine XS.iloadN X54.here hx rfl (hb hby at_56) rfl ?_
    show Steps p.tables e below (T54.setTop (mkF m 57 #[.val (.int p1), .val (.ref b2), .unset, .unset] [(.int p1)])) _
    refine Jvm.Stand.ldcI X54 hx hown (mvT hZ (w_20 hw)) rfl (hb hby at_57) ?_
    show Steps p.tables e below (T54.setTop (mkF m 59 #[.val (.int p1), .val (.ref b2), .unset, .unset] [(.int (2147483647 : Int32)), (.int p1)])) _
    refine XS.iand X54.here hx rfl (hb hby at_59) rfl ?_
    show Steps p.tables e below (T54.setTop (mkF m 60 #[.val (.int p1), .val (.ref b2), .unset, .unset] [(.int (p1 &&& (2147483647 : Int32)))])) _
    refine XS.bipush X54.here hx rfl (hb hby at_60) ?_
    show Steps p.tables e below (T54.setTop (mkF m 62 #[.val (.int p1), .val (.ref b2), .unset, .unset] [(.int (8 : Int32)), (.int (p1 &&& (2147483647 : Int32)))])) _
    refine Jvm.RoadKit.iremM X54 hx rfl (hb hby at_62) rfl (by decide) ?_
    show Steps p.tables e below (T54.setTop (mkF m 63 #[.val (.int p1), .val (.ref b2), .unset, .unset] [(.int ((p1 &&& (2147483647 : Int32)) % (8 : Int32)))])) _
    rw [hi]
    show Steps p.tables e below (T54.setTop (mkF m 63 #[.val (.int p1), .val (.ref b2), .unset, .unset] [(.int (2 : Int32))])) _
    refine XS.istoreN X54.here hx rfl (hb hby at_63) rfl (l' := #[.val (.int p1), .val (.ref b2), .val (.int (2 : Int32)), .unset]) rfl ?_
    show Steps p.tables e below (T54.setTop (mkF m 64 #[.val (.int p1), .val (.ref b2), .val (.int (2 : Int32)), .unset] [])) _
    refine XS.iloadN X54.here hx rfl (hb hby at_64) rfl ?_
    show Steps p.tables e below (T54.setTop (mkF m 65 #[.val (.int p1), .val (.ref b2), .val (.int (2 : Int32)), .unset] [(.int (2 : Int32))])) _
    refine XS.iconst X54.here hx rfl (hb hby at_65) ?_
    show Steps p.tables e below (T54.setTop (mkF m 66 #[.val (.int p1), .val (.ref b2), .val (.int (2 : Int32)), .unset] [(.int (1 : Int32)), (.int (2 : Int32))])) _
    refine XS.icmpNo X54.here hx rfl (hb hby at_66) rfl (feq (by decide : ¬ ((2 : Int32) = (1 : Int32)))).1 ?_
    show Steps p.tables e below (T54.setTop (mkF m 69 #[.val (.int p1), .val (.ref b2), .val (.int (2 : Int32)), .unset] [])) _
    refine XS.iloadN X54.here hx rfl (hb hby at_69) rfl ?_
    show Steps p.tables e below (T54.setTop (mkF m 70 #[.val (.int p1), .val (.ref b2), .val (.int (2 : Int32)), .unset] [(.int (2 : Int32))])) _
    refine XS.iconst X54.here hx rfl (hb hby at_70) ?_
    show Steps p.tables e below (T54.setTop (mkF m 71 #[.val (.int p1), .val (.ref b2), .val (.int (2 : Int32)), .unset] [(.int (2 : Int32)), (.int (2 : Int32))])) _
    refine XS.icmpYes X54.here hx rfl (pc0 := 71) (pc' := 79) rfl (hb hby at_71) rfl (teq (by decide : (2 : Int32) = (2 : Int32))).1 (by decide) (by decide) ?_
    show Steps p.tables e below (T54.setTop (mkF m 79 #[.val (.int p1), .val (.ref b2), .val (.int (2 : Int32)), .unset] [])) _
    refine XS.iconst X54.here hx rfl (hb hby at_79) ?_
    show Steps p.tables e below (T54.setTop (mkF m 80 #[.val (.int p1), .val (.ref b2), .val (.int (2 : Int32)), .unset] [(.int (1 : Int32))])) _
    refine XS.goto X54.here hx rfl (pc0 := 80) (pc' := 84) rfl (hb hby at_80) (by decide) (by decide) ?_
    show Steps p.tables e below (T54.setTop (mkF m 84 #[.val (.int p1), .val (.ref b2), .val (.int (2 : Int32)), .unset] [(.int (1 : Int32))])) _
    refine XS.istoreN X54.here hx rfl (hb hby at_84) rfl (l' := #[.val (.int p1), .val (.ref b2), .val (.int (2 : Int32)), .val (.int (1 : Int32))]) rfl ?_
    show Steps p.tables e below (T54.setTop (mkF m 85 #[.val (.int p1), .val (.ref b2), .val (.int (2 : Int32)), .val (.int (1 : Int32))] [])) _
    refine XS.aloadN X54.here hx rfl (hb hby at_85) rfl rfl ?_
    show Steps p.tables e below (T54.setTop (mkF m 86 #[.val (.int p1), .val (.ref b2), .val (.int (2 : Int32)), .val (.int (1 : Int32))] [(.ref b2)])) _
    refine XS.iloadN X54.here hx rfl (hb hby at_86) rfl ?_
    show Steps p.tables e below (T54.setTop (mkF m 87 #[.val (.int p1), .val (.ref b2), .val (.int (2 : Int32)), .val (.int (1 : Int32))] [(.int (2 : Int32)), (.ref b2)])) _
    refine X54.aaload hx (j := (2 : Int32)) (v := (.ref w2)) (by rw [e54]; exact Ar87.1) (State.isArrayOf_alike hZ.alike Ar87.2.1) rfl Ar87.2.2 hin87 f39 (g := (mkF m 87 #[.val (.int p1), .val (.ref b2), .val (.int (2 : Int32)), .val (.int (1 : Int32))] [(.int (2 : Int32)), (.ref b2)])) rfl rfl (hb hby at_87) _ ?_
    show Steps p.tables e below (T54.setTop (mkF m 88 #[.val (.int p1), .val (.ref b2), .val (.int (2 : Int32)), .val (.int (1 : Int32))] [(.ref w2)])) _
    refine st88.trans ?_
    show Steps p.tables e below (T88.setTop (mkF m 91 #[.val (.int p1), .val (.ref b2), .val (.int (2 : Int32)), .val (.int (1 : Int32))] [(.int (1 : Int32))])) _
    refine XS.iloadN X88.here hx rfl (hb hby at_91) rfl ?_
    show Steps p.tables e below (T88.setTop (mkF m 92 #[.val (.int p1), .val (.ref b2), .val (.int (2 : Int32)), .val (.int (1 : Int32))] [(.int (1 : Int32)), (.int (1 : Int32))])) _
    refine XS.icmpNo X88.here hx rfl (hb hby at_92) rfl (teq (by decide : (1 : Int32) = (1 : Int32))).2 ?_
    show Steps p.tables e below (T88.setTop (mkF m 95 #[.val (.int p1), .val (.ref b2), .val (.int (2 : Int32)), .val (.int (1 : Int32))] [])) _
    refine XS.iconst X88.here hx rfl (hb hby at_95) ?_
    show Steps p.tables e below (T88.setTop (mkF m 96 #[.val (.int p1), .val (.ref b2), .val (.int (2 : Int32)), .val (.int (1 : Int32))] [(.int (1 : Int32))])) _
    refine XS.goto X88.here hx rfl (pc0 := 96) (pc' := 100) rfl (hb hby at_96) (by decide) (by decide) ?_
    show Steps p.tables e below (T88.setTop (mkF m 100 #[.val (.int p1), .val (.ref b2), .val (.int (2 : Int32)), .val (.int (1 : Int32))] [(.int (1 : Int32))])) _
    exact retN X88 hx (t := .boolean) Bd.returns (by simp) (hb hby at_100) hr
  · show Q_law Z p1 w0 w1 w2 w3 w4 w5 w6 w7 h0 n0 _ T88.heap _
    exact ⟨rfl, N88, f40⟩
theorem ef_rm_law_3 (m : MethodId) (x0 : Int32) : entryFrame m #[(.int x0)] maxLocals = mkF m 0 #[.val (.int x0), .unset, .unset, .unset] [] := by first | (simp [entryFrame, mkF, argsToLocals, Value.category, maxLocals]; done) | rfl
set_option maxRecDepth 65536 in
set_option maxHeartbeats 40000000 in
theorem rm_law_3 (l : Launch) (Z : State) (a0 : Array Value) (hw : ∀ d ∈ tables_1, d.before a0 Z = true) (ws : List Jvm.Cond) (p1 : Int32) (w0 : Addr) (w1 : Addr) (w2 : Addr) (w3 : Addr) (w4 : Addr) (w5 : Addr) (w6 : Addr) (w7 : Addr) (h0 : Heap) (n0 : Nat) (O0 : Old Z n0 h0) (S0 : Sta Z Z.heap "com/example/lotista/lotista/retorno/EventField$Form" "NUMBER" "Lcom/example/lotista/lotista/retorno/EventField$Form;" (.ref w0)) (S1 : Sta Z Z.heap "com/example/lotista/lotista/retorno/EventField$Form" "CODE" "Lcom/example/lotista/lotista/retorno/EventField$Form;" (.ref w1)) (S2 : Sta Z Z.heap "com/example/lotista/lotista/retorno/EventField$Form" "ALPHANUMERIC_CODE" "Lcom/example/lotista/lotista/retorno/EventField$Form;" (.ref w2)) (S3 : Sta Z Z.heap "com/example/lotista/lotista/retorno/EventField$Form" "TEXT" "Lcom/example/lotista/lotista/retorno/EventField$Form;" (.ref w3)) (S4 : Sta Z Z.heap "com/example/lotista/lotista/retorno/EventField$Form" "MONEY" "Lcom/example/lotista/lotista/retorno/EventField$Form;" (.ref w4)) (S5 : Sta Z Z.heap "com/example/lotista/lotista/retorno/EventField$Form" "DATE" "Lcom/example/lotista/lotista/retorno/EventField$Form;" (.ref w5)) (S6 : Sta Z Z.heap "com/example/lotista/lotista/retorno/EventField$Form" "GIVEN_DATE" "Lcom/example/lotista/lotista/retorno/EventField$Form;" (.ref w6)) (S7 : Sta Z Z.heap "com/example/lotista/lotista/retorno/EventField$Form" "CODES" "Lcom/example/lotista/lotista/retorno/EventField$Form;" (.ref w7)) (E0 : Exa Z Z.heap w0 "com/example/lotista/lotista/retorno/EventField$Form") (E1 : Exa Z Z.heap w1 "com/example/lotista/lotista/retorno/EventField$Form") (E2 : Exa Z Z.heap w2 "com/example/lotista/lotista/retorno/EventField$Form") (E3 : Exa Z Z.heap w3 "com/example/lotista/lotista/retorno/EventField$Form") (E4 : Exa Z Z.heap w4 "com/example/lotista/lotista/retorno/EventField$Form") (E5 : Exa Z Z.heap w5 "com/example/lotista/lotista/retorno/EventField$Form") (E6 : Exa Z Z.heap w6 "com/example/lotista/lotista/retorno/EventField$Form") (E7 : Exa Z Z.heap w7 "com/example/lotista/lotista/retorno/EventField$Form") (n0_1 : w0 ≠ w1) (n0_2 : w0 ≠ w2) (n0_3 : w0 ≠ w3) (n2_1 : w2 ≠ w1) (n3_1 : w3 ≠ w1) (n3_2 : w3 ≠ w2) (n4_1 : w4 ≠ w1) (n4_2 : w4 ≠ w2) (n4_3 : w4 ≠ w3) (n5_1 : w5 ≠ w1) (n5_2 : w5 ≠ w2) (n5_3 : w5 ≠ w3) (n6_1 : w6 ≠ w1) (n6_2 : w6 ≠ w2) (n6_3 : w6 ≠ w3) (n7_1 : w7 ≠ w1) (n7_2 : w7 ≠ w2) (n7_3 : w7 ≠ w3) (hi : ((p1 &&& (2147483647 : Int32)) % (8 : Int32)) = (3 : Int32)) :
    MetFree l x (head1 (Jvm.Cond.code x code maxLocals ret :: ws) room_1) (fun as' U => as' = #[(.int p1)] ∧ Z.Warmed39 U.vm ∧ U.heap = h0) (fun _ _ _ _ _ => True) (fun _ U o U' => ∃ v L, o = .returned v ∧ Q_law Z p1 w0 w1 w2 w3 w4 w5 w6 w7 h0 n0 v U'.heap L ∧ FrameEnd U o U' L room_1.cells room_1.slots) := by
  refine MetFree.of_bodySF (plainFor_of_name pn_com_example_lotista_lotista_retorno_FormIsTextPinLaw) hisR ?_
  intro p e s m args below meth c s₁ Bd hml0 hP hK
  obtain ⟨rfl, hZ, hh⟩ := hP
  have hx := Bd.exec
  have hby := Bd.bytes
  have hml : c.maxLocals = 4 := hml0
  have hown : s.vm.findClass "com/example/lotista/lotista/retorno/FormIsTextPinLaw" = some m.cls := findClass_of_methodNamed Bd.named
  have hnm := (name_of_methodNamed Bd.named Bd.method).1
  have X0 : Stand p l e room_1 s m #[(.int p1)] below meth c s₁ [] 0 0 := Stand.of_body Bd
  have e0 : s₁.heap = h0 := by rw [← hh, Bd.state]; rfl
  have N0 := Fr.nil n0
  have K0 : Keep h0 h0 [] := Keep.refl _ _
  have pre0 : ∀ t, Steps p.tables e below (s₁.setTop (mkF m 0 #[.val (.int p1), .unset, .unset, .unset] [])) t → Steps p.tables e below (s₁.setTop (entryFrame m #[(.int p1)] maxLocals)) t := fun t k => castTop (ef_rm_law_3 m p1) k
  obtain ⟨T2, h2, kc2, X2, e2, Ex2, Aa2, Bb2, Ov2, st2⟩ := newRE X0 hx hZ hown (w_0 hw) (w_1 hw) e0 (g := (mkF m 2 #[.val (.int p1), .unset, .unset, .unset] [(.int (8 : Int32))])) rfl (hb hby at_2) rfl (by decide) (cap := 8) (by decide) (by decide) (by decide) (by decide) (ad := "[Lcom/example/lotista/lotista/retorno/EventField$Form;") (by first | rfl | decide +kernel)
  obtain ⟨b2, gg2⟩ : ∃ z, z = h0.size := ⟨_, rfl⟩
  rw [← gg2] at Aa2 Bb2 st2
  have f1 : Keep h0 h2 [] := K0.ext Ex2
  have f2 : Old Z n0 h2 := O0.ext Ex2
  have f3 : Arv Z h2 b2 kc2 (.object "com/example/lotista/lotista/retorno/EventField$Form") (8 : Int32) [.null, .null, .null, .null, .null, .null, .null, .null] .null := (Arv.new Aa2 (by decide)).pad (pad_rep [] .null 8)
  obtain ⟨T7, X7, e7, st7⟩ := getS2 X2 hx hZ hown (host := "") (Or.inl (w_2 hw)) Via.refl e2 (S0.ext f2.2) (g := (mkF m 7 #[.val (.int p1), .unset, .unset, .unset] [(.int (0 : Int32)), (.ref b2), (.ref b2)])) rfl (hb hby at_7)
  obtain ⟨cl10, Ar10, qq10, Sz10, NN10, HH10, GG10⟩ := (id f3)
  have hin10 : ¬ ((0 : Int32) < 0 ∨ cl10.slots.size ≤ ((0 : Int32)).toNatClampNeg) := inb_of Sz10 ⟨by decide, by decide⟩
  obtain ⟨T10, h10, X10, e10, Wr10, st10⟩ := stR X7 hx hZ e7 Ar10 (j := (0 : Int32)) hin10 rfl (Sto.ofV Ar10 qq10 Ov2 (Ins.self (E0.ext f2.2))) (g := (mkF m 10 #[.val (.int p1), .unset, .unset, .unset] [(.ref w0), (.int (0 : Int32)), (.ref b2), (.ref b2)])) rfl rfl (hb hby at_10)
  have f5 : h0.size ≤ b2 := Nat.le_trans K0.1 (Nat.le_of_eq gg2.symm)
  have f6 : n0 ≤ b2 := Nat.le_trans (own_old_le O0) (Nat.le_of_eq gg2.symm)
  have f7 : Keep h0 h10 [] := f1.wr Wr10 (Or.inr f5)
  have f8 : Old Z n0 h10 := f2.wr Wr10 f6
  have f9 : Arv Z h10 b2 kc2 (.object "com/example/lotista/lotista/retorno/EventField$Form") (8 : Int32) [(.ref w0), .null, .null, .null, .null, .null, .null, .null] .null := Arv.set Ar10 qq10 Sz10 NN10 HH10 GG10 rfl Wr10 0 rfl (Nat.le_of_ble_eq_true rfl)
  have N10 := Fr.snoc X10 N0 f6
  obtain ⟨T13, X13, e13, st13⟩ := getS2 X10 hx hZ hown (host := "") (Or.inl (w_6 hw)) Via.refl e10 (S1.ext f8.2) (g := (mkF m 13 #[.val (.int p1), .unset, .unset, .unset] [(.int (1 : Int32)), (.ref b2), (.ref b2)])) rfl (hb hby at_13)
  obtain ⟨cl16, Ar16, qq16, Sz16, NN16, HH16, GG16⟩ := (id f9)
  have hin16 : ¬ ((1 : Int32) < 0 ∨ cl16.slots.size ≤ ((1 : Int32)).toNatClampNeg) := inb_of Sz16 ⟨by decide, by decide⟩
  obtain ⟨T16, h16, X16, e16, Wr16, st16⟩ := stR X13 hx hZ e13 Ar16 (j := (1 : Int32)) hin16 rfl (Sto.ofV Ar16 qq16 Ov2 (Ins.self (E1.ext f8.2))) (g := (mkF m 16 #[.val (.int p1), .unset, .unset, .unset] [(.ref w1), (.int (1 : Int32)), (.ref b2), (.ref b2)])) rfl rfl (hb hby at_16)
  have f11 : Keep h0 h16 [] := f7.wr Wr16 (Or.inr f5)
  have f12 : Old Z n0 h16 := f8.wr Wr16 f6
  have f13 : Arv Z h16 b2 kc2 (.object "com/example/lotista/lotista/retorno/EventField$Form") (8 : Int32) [(.ref w0), (.ref w1), .null, .null, .null, .null, .null, .null] .null := Arv.set Ar16 qq16 Sz16 NN16 HH16 GG16 rfl Wr16 1 rfl (Nat.le_of_ble_eq_true rfl)
  have N16 := Fr.snoc X16 N10 f6
  obtain ⟨T19, X19, e19, st19⟩ := getS2 X16 hx hZ hown (host := "") (Or.inl (w_8 hw)) Via.refl e16 (S2.ext f12.2) (g := (mkF m 19 #[.val (.int p1), .unset, .unset, .unset] [(.int (2 : Int32)), (.ref b2), (.ref b2)])) rfl (hb hby at_19)
  obtain ⟨cl22, Ar22, qq22, Sz22, NN22, HH22, GG22⟩ := (id f13)
  have hin22 : ¬ ((2 : Int32) < 0 ∨ cl22.slots.size ≤ ((2 : Int32)).toNatClampNeg) := inb_of Sz22 ⟨by decide, by decide⟩
  obtain ⟨T22, h22, X22, e22, Wr22, st22⟩ := stR X19 hx hZ e19 Ar22 (j := (2 : Int32)) hin22 rfl (Sto.ofV Ar22 qq22 Ov2 (Ins.self (E2.ext f12.2))) (g := (mkF m 22 #[.val (.int p1), .unset, .unset, .unset] [(.ref w2), (.int (2 : Int32)), (.ref b2), (.ref b2)])) rfl rfl (hb hby at_22)
  have f15 : Keep h0 h22 [] := f11.wr Wr22 (Or.inr f5)
  have f16 : Old Z n0 h22 := f12.wr Wr22 f6
  have f17 : Arv Z h22 b2 kc2 (.object "com/example/lotista/lotista/retorno/EventField$Form") (8 : Int32) [(.ref w0), (.ref w1), (.ref w2), .null, .null, .null, .null, .null] .null := Arv.set Ar22 qq22 Sz22 NN22 HH22 GG22 rfl Wr22 2 rfl (Nat.le_of_ble_eq_true rfl)
  have N22 := Fr.snoc X22 N16 f6
  obtain ⟨T25, X25, e25, st25⟩ := getS2 X22 hx hZ hown (host := "") (Or.inl (w_10 hw)) Via.refl e22 (S3.ext f16.2) (g := (mkF m 25 #[.val (.int p1), .unset, .unset, .unset] [(.int (3 : Int32)), (.ref b2), (.ref b2)])) rfl (hb hby at_25)
  obtain ⟨cl28, Ar28, qq28, Sz28, NN28, HH28, GG28⟩ := (id f17)
  have hin28 : ¬ ((3 : Int32) < 0 ∨ cl28.slots.size ≤ ((3 : Int32)).toNatClampNeg) := inb_of Sz28 ⟨by decide, by decide⟩
  obtain ⟨T28, h28, X28, e28, Wr28, st28⟩ := stR X25 hx hZ e25 Ar28 (j := (3 : Int32)) hin28 rfl (Sto.ofV Ar28 qq28 Ov2 (Ins.self (E3.ext f16.2))) (g := (mkF m 28 #[.val (.int p1), .unset, .unset, .unset] [(.ref w3), (.int (3 : Int32)), (.ref b2), (.ref b2)])) rfl rfl (hb hby at_28)
  have f19 : Keep h0 h28 [] := f15.wr Wr28 (Or.inr f5)
  have f20 : Old Z n0 h28 := f16.wr Wr28 f6
  have f21 : Arv Z h28 b2 kc2 (.object "com/example/lotista/lotista/retorno/EventField$Form") (8 : Int32) [(.ref w0), (.ref w1), (.ref w2), (.ref w3), .null, .null, .null, .null] .null := Arv.set Ar28 qq28 Sz28 NN28 HH28 GG28 rfl Wr28 3 rfl (Nat.le_of_ble_eq_true rfl)
  have N28 := Fr.snoc X28 N22 f6
  obtain ⟨T31, X31, e31, st31⟩ := getS2 X28 hx hZ hown (host := "") (Or.inl (w_12 hw)) Via.refl e28 (S4.ext f20.2) (g := (mkF m 31 #[.val (.int p1), .unset, .unset, .unset] [(.int (4 : Int32)), (.ref b2), (.ref b2)])) rfl (hb hby at_31)
  obtain ⟨cl34, Ar34, qq34, Sz34, NN34, HH34, GG34⟩ := (id f21)
  have hin34 : ¬ ((4 : Int32) < 0 ∨ cl34.slots.size ≤ ((4 : Int32)).toNatClampNeg) := inb_of Sz34 ⟨by decide, by decide⟩
  obtain ⟨T34, h34, X34, e34, Wr34, st34⟩ := stR X31 hx hZ e31 Ar34 (j := (4 : Int32)) hin34 rfl (Sto.ofV Ar34 qq34 Ov2 (Ins.self (E4.ext f20.2))) (g := (mkF m 34 #[.val (.int p1), .unset, .unset, .unset] [(.ref w4), (.int (4 : Int32)), (.ref b2), (.ref b2)])) rfl rfl (hb hby at_34)
  have f23 : Keep h0 h34 [] := f19.wr Wr34 (Or.inr f5)
  have f24 : Old Z n0 h34 := f20.wr Wr34 f6
  have f25 : Arv Z h34 b2 kc2 (.object "com/example/lotista/lotista/retorno/EventField$Form") (8 : Int32) [(.ref w0), (.ref w1), (.ref w2), (.ref w3), (.ref w4), .null, .null, .null] .null := Arv.set Ar34 qq34 Sz34 NN34 HH34 GG34 rfl Wr34 4 rfl (Nat.le_of_ble_eq_true rfl)
  have N34 := Fr.snoc X34 N28 f6
  obtain ⟨T37, X37, e37, st37⟩ := getS2 X34 hx hZ hown (host := "") (Or.inl (w_14 hw)) Via.refl e34 (S5.ext f24.2) (g := (mkF m 37 #[.val (.int p1), .unset, .unset, .unset] [(.int (5 : Int32)), (.ref b2), (.ref b2)])) rfl (hb hby at_37)
  obtain ⟨cl40, Ar40, qq40, Sz40, NN40, HH40, GG40⟩ := (id f25)
  have hin40 : ¬ ((5 : Int32) < 0 ∨ cl40.slots.size ≤ ((5 : Int32)).toNatClampNeg) := inb_of Sz40 ⟨by decide, by decide⟩
  obtain ⟨T40, h40, X40, e40, Wr40, st40⟩ := stR X37 hx hZ e37 Ar40 (j := (5 : Int32)) hin40 rfl (Sto.ofV Ar40 qq40 Ov2 (Ins.self (E5.ext f24.2))) (g := (mkF m 40 #[.val (.int p1), .unset, .unset, .unset] [(.ref w5), (.int (5 : Int32)), (.ref b2), (.ref b2)])) rfl rfl (hb hby at_40)
  have f27 : Keep h0 h40 [] := f23.wr Wr40 (Or.inr f5)
  have f28 : Old Z n0 h40 := f24.wr Wr40 f6
  have f29 : Arv Z h40 b2 kc2 (.object "com/example/lotista/lotista/retorno/EventField$Form") (8 : Int32) [(.ref w0), (.ref w1), (.ref w2), (.ref w3), (.ref w4), (.ref w5), .null, .null] .null := Arv.set Ar40 qq40 Sz40 NN40 HH40 GG40 rfl Wr40 5 rfl (Nat.le_of_ble_eq_true rfl)
  have N40 := Fr.snoc X40 N34 f6
  obtain ⟨T44, X44, e44, st44⟩ := getS2 X40 hx hZ hown (host := "") (Or.inl (w_16 hw)) Via.refl e40 (S6.ext f28.2) (g := (mkF m 44 #[.val (.int p1), .unset, .unset, .unset] [(.int (6 : Int32)), (.ref b2), (.ref b2)])) rfl (hb hby at_44)
  obtain ⟨cl47, Ar47, qq47, Sz47, NN47, HH47, GG47⟩ := (id f29)
  have hin47 : ¬ ((6 : Int32) < 0 ∨ cl47.slots.size ≤ ((6 : Int32)).toNatClampNeg) := inb_of Sz47 ⟨by decide, by decide⟩
  obtain ⟨T47, h47, X47, e47, Wr47, st47⟩ := stR X44 hx hZ e44 Ar47 (j := (6 : Int32)) hin47 rfl (Sto.ofV Ar47 qq47 Ov2 (Ins.self (E6.ext f28.2))) (g := (mkF m 47 #[.val (.int p1), .unset, .unset, .unset] [(.ref w6), (.int (6 : Int32)), (.ref b2), (.ref b2)])) rfl rfl (hb hby at_47)
  have f31 : Keep h0 h47 [] := f27.wr Wr47 (Or.inr f5)
  have f32 : Old Z n0 h47 := f28.wr Wr47 f6
  have f33 : Arv Z h47 b2 kc2 (.object "com/example/lotista/lotista/retorno/EventField$Form") (8 : Int32) [(.ref w0), (.ref w1), (.ref w2), (.ref w3), (.ref w4), (.ref w5), (.ref w6), .null] .null := Arv.set Ar47 qq47 Sz47 NN47 HH47 GG47 rfl Wr47 6 rfl (Nat.le_of_ble_eq_true rfl)
  have N47 := Fr.snoc X47 N40 f6
  obtain ⟨T51, X51, e51, st51⟩ := getS2 X47 hx hZ hown (host := "") (Or.inl (w_18 hw)) Via.refl e47 (S7.ext f32.2) (g := (mkF m 51 #[.val (.int p1), .unset, .unset, .unset] [(.int (7 : Int32)), (.ref b2), (.ref b2)])) rfl (hb hby at_51)
  obtain ⟨cl54, Ar54, qq54, Sz54, NN54, HH54, GG54⟩ := (id f33)
  have hin54 : ¬ ((7 : Int32) < 0 ∨ cl54.slots.size ≤ ((7 : Int32)).toNatClampNeg) := inb_of Sz54 ⟨by decide, by decide⟩
  obtain ⟨T54, h54, X54, e54, Wr54, st54⟩ := stR X51 hx hZ e51 Ar54 (j := (7 : Int32)) hin54 rfl (Sto.ofV Ar54 qq54 Ov2 (Ins.self (E7.ext f32.2))) (g := (mkF m 54 #[.val (.int p1), .unset, .unset, .unset] [(.ref w7), (.int (7 : Int32)), (.ref b2), (.ref b2)])) rfl rfl (hb hby at_54)
  have f35 : Keep h0 h54 [] := f31.wr Wr54 (Or.inr f5)
  have f36 : Old Z n0 h54 := f32.wr Wr54 f6
  have f37 : Arv Z h54 b2 kc2 (.object "com/example/lotista/lotista/retorno/EventField$Form") (8 : Int32) [(.ref w0), (.ref w1), (.ref w2), (.ref w3), (.ref w4), (.ref w5), (.ref w6), (.ref w7)] .null := Arv.set Ar54 qq54 Sz54 NN54 HH54 GG54 rfl Wr54 7 rfl (Nat.le_of_ble_eq_true rfl)
  have N54 := Fr.snoc X54 N47 f6
  obtain ⟨cl87, Ar87, qq87, Sz87, NN87, HH87, GG87⟩ := (id f37)
  have hin87 : ¬ ((3 : Int32) < 0 ∨ cl87.slots.size ≤ ((3 : Int32)).toNatClampNeg) := inb_of Sz87 ⟨by decide, by decide⟩
  have f39 : cl87.slots[((3 : Int32)).toNatClampNeg]? = some (.ref w3) := HH87.at hin87 rfl
  obtain ⟨cq88, kq88, q88a, q88b, q88c⟩ := isOf hZ e54 (E3.ext f36.2)
  obtain ⟨_, _, ⟨T88, Lo88, kk88, nn88⟩, -, X88, ⟨Lc88, hQ88, ll88, yy88, zz88⟩, st88⟩ := X54.virtualBack hx (y := (⟨"com/example/lotista/lotista/retorno/EventField$Form", "isText", "()Z"⟩ : MethodName)) (z := (⟨"com/example/lotista/lotista/retorno/EventField$Form", "isText", "()Z"⟩ : MethodName)) hown (mvT hZ (w_21 hw)) (mvT hZ (w_22 hw)) (notFace_of_selects (args := #[]) (mvT hZ (w_24 hw))) (mvT hZ (w_24 hw)) (mvT hZ (w_23 hw)) (by decide) (backOf (W := 0) (rm_t3 l Z a0 hw [] w1 w2 w3 h54 n0 f36 S1 S2 S3 n3_1 n3_2) hZ (w_25 hw) (w_3 hw) (by decide) (by decide)) q88a q88c (g := (mkF m 88 #[.val (.int p1), .val (.ref b2), .val (.int (3 : Int32)), .val (.int (1 : Int32))] [(.ref w3)])) rfl (by rw [hml]; rfl) (Steps.refl _) (argsL := []) (rest := []) (lenOf pd_0 rfl) rfl (by show 2 * 0 + _ ≤ _; exact Nat.le_of_eq rfl) (hb hby at_88) (fun _ _ => ⟨rfl, e54, (by decide : 1 + 0 ≤ _), (by decide : 8 + 0 ≤ _)⟩)
  dsimp only [Pt.U, Pt.locs, Pt.cells, Pt.slots] at X88 ll88 yy88 zz88 st88 hQ88
  subst ll88 yy88 zz88
  obtain ⟨rfl, N88q, K88q⟩ := hQ88
  have N88 := Fr.app N54 N88q
  have f40 : Keep h0 T88.heap [] := f35.trans K88q all0
  have f41 : Old Z n0 T88.heap := f36.keep K88q all0
  obtain ⟨fs, hr, hrun, hended, hW, hsame⟩ := X88.leave (v := some (.int (1 : Int32))) (fun h => by rw [Bd.returns] at h; cases h)
  refine ⟨_, _, pre0 _ ?_, hrun, hended, _, _, rfl, ?_, ⟨_, rfl⟩, hW, hsame.mono (by decide) (by decide)⟩
  · show Steps p.tables e below (s₁.setTop (mkF m 0 #[.val (.int p1), .unset, .unset, .unset] [])) _
    refine XS.bipush X0.here hx rfl (hb hby at_0) ?_
    show Steps p.tables e below (s₁.setTop (mkF m 2 #[.val (.int p1), .unset, .unset, .unset] [(.int (8 : Int32))])) _
    refine st2 _ ?_
    show Steps p.tables e below (T2.setTop (mkF m 5 #[.val (.int p1), .unset, .unset, .unset] [(.ref b2)])) _
    refine XS.dup X2.here hx rfl (hb hby at_5) rfl rfl ?_
    show Steps p.tables e below (T2.setTop (mkF m 6 #[.val (.int p1), .unset, .unset, .unset] [(.ref b2), (.ref b2)])) _
    refine XS.iconst X2.here hx rfl (hb hby at_6) ?_
    show Steps p.tables e below (T2.setTop (mkF m 7 #[.val (.int p1), .unset, .unset, .unset] [(.int (0 : Int32)), (.ref b2), (.ref b2)])) _
    refine st7 _ ?_
    show Steps p.tables e below (T7.setTop (mkF m 10 #[.val (.int p1), .unset, .unset, .unset] [(.ref w0), (.int (0 : Int32)), (.ref b2), (.ref b2)])) _
    refine st10 _ ?_
    show Steps p.tables e below (T10.setTop (mkF m 11 #[.val (.int p1), .unset, .unset, .unset] [(.ref b2)])) _
    refine XS.dup X10.here hx rfl (hb hby at_11) rfl rfl ?_
    show Steps p.tables e below (T10.setTop (mkF m 12 #[.val (.int p1), .unset, .unset, .unset] [(.ref b2), (.ref b2)])) _
    refine XS.iconst X10.here hx rfl (hb hby at_12) ?_
    show Steps p.tables e below (T10.setTop (mkF m 13 #[.val (.int p1), .unset, .unset, .unset] [(.int (1 : Int32)), (.ref b2), (.ref b2)])) _
    refine st13 _ ?_
    show Steps p.tables e below (T13.setTop (mkF m 16 #[.val (.int p1), .unset, .unset, .unset] [(.ref w1), (.int (1 : Int32)), (.ref b2), (.ref b2)])) _
    refine st16 _ ?_
    show Steps p.tables e below (T16.setTop (mkF m 17 #[.val (.int p1), .unset, .unset, .unset] [(.ref b2)])) _
    refine XS.dup X16.here hx rfl (hb hby at_17) rfl rfl ?_
    show Steps p.tables e below (T16.setTop (mkF m 18 #[.val (.int p1), .unset, .unset, .unset] [(.ref b2), (.ref b2)])) _
    refine XS.iconst X16.here hx rfl (hb hby at_18) ?_
    show Steps p.tables e below (T16.setTop (mkF m 19 #[.val (.int p1), .unset, .unset, .unset] [(.int (2 : Int32)), (.ref b2), (.ref b2)])) _
    refine st19 _ ?_
    show Steps p.tables e below (T19.setTop (mkF m 22 #[.val (.int p1), .unset, .unset, .unset] [(.ref w2), (.int (2 : Int32)), (.ref b2), (.ref b2)])) _
    refine st22 _ ?_
    show Steps p.tables e below (T22.setTop (mkF m 23 #[.val (.int p1), .unset, .unset, .unset] [(.ref b2)])) _
    refine XS.dup X22.here hx rfl (hb hby at_23) rfl rfl ?_
    show Steps p.tables e below (T22.setTop (mkF m 24 #[.val (.int p1), .unset, .unset, .unset] [(.ref b2), (.ref b2)])) _
    refine XS.iconst X22.here hx rfl (hb hby at_24) ?_
    show Steps p.tables e below (T22.setTop (mkF m 25 #[.val (.int p1), .unset, .unset, .unset] [(.int (3 : Int32)), (.ref b2), (.ref b2)])) _
    refine st25 _ ?_
    show Steps p.tables e below (T25.setTop (mkF m 28 #[.val (.int p1), .unset, .unset, .unset] [(.ref w3), (.int (3 : Int32)), (.ref b2), (.ref b2)])) _
    refine st28 _ ?_
    show Steps p.tables e below (T28.setTop (mkF m 29 #[.val (.int p1), .unset, .unset, .unset] [(.ref b2)])) _
    refine XS.dup X28.here hx rfl (hb hby at_29) rfl rfl ?_
    show Steps p.tables e below (T28.setTop (mkF m 30 #[.val (.int p1), .unset, .unset, .unset] [(.ref b2), (.ref b2)])) _
    refine XS.iconst X28.here hx rfl (hb hby at_30) ?_
    show Steps p.tables e below (T28.setTop (mkF m 31 #[.val (.int p1), .unset, .unset, .unset] [(.int (4 : Int32)), (.ref b2), (.ref b2)])) _
    refine st31 _ ?_
    show Steps p.tables e below (T31.setTop (mkF m 34 #[.val (.int p1), .unset, .unset, .unset] [(.ref w4), (.int (4 : Int32)), (.ref b2), (.ref b2)])) _
    refine st34 _ ?_
    show Steps p.tables e below (T34.setTop (mkF m 35 #[.val (.int p1), .unset, .unset, .unset] [(.ref b2)])) _
    refine XS.dup X34.here hx rfl (hb hby at_35) rfl rfl ?_
    show Steps p.tables e below (T34.setTop (mkF m 36 #[.val (.int p1), .unset, .unset, .unset] [(.ref b2), (.ref b2)])) _
    refine XS.iconst X34.here hx rfl (hb hby at_36) ?_
    show Steps p.tables e below (T34.setTop (mkF m 37 #[.val (.int p1), .unset, .unset, .unset] [(.int (5 : Int32)), (.ref b2), (.ref b2)])) _
    refine st37 _ ?_
    show Steps p.tables e below (T37.setTop (mkF m 40 #[.val (.int p1), .unset, .unset, .unset] [(.ref w5), (.int (5 : Int32)), (.ref b2), (.ref b2)])) _
    refine st40 _ ?_
    show Steps p.tables e below (T40.setTop (mkF m 41 #[.val (.int p1), .unset, .unset, .unset] [(.ref b2)])) _
    refine XS.dup X40.here hx rfl (hb hby at_41) rfl rfl ?_
    show Steps p.tables e below (T40.setTop (mkF m 42 #[.val (.int p1), .unset, .unset, .unset] [(.ref b2), (.ref b2)])) _
    refine XS.bipush X40.here hx rfl (hb hby at_42) ?_
    show Steps p.tables e below (T40.setTop (mkF m 44 #[.val (.int p1), .unset, .unset, .unset] [(.int (6 : Int32)), (.ref b2), (.ref b2)])) _
    refine st44 _ ?_
    show Steps p.tables e below (T44.setTop (mkF m 47 #[.val (.int p1), .unset, .unset, .unset] [(.ref w6), (.int (6 : Int32)), (.ref b2), (.ref b2)])) _
    refine st47 _ ?_
    show Steps p.tables e below (T47.setTop (mkF m 48 #[.val (.int p1), .unset, .unset, .unset] [(.ref b2)])) _
    refine XS.dup X47.here hx rfl (hb hby at_48) rfl rfl ?_
    show Steps p.tables e below (T47.setTop (mkF m 49 #[.val (.int p1), .unset, .unset, .unset] [(.ref b2), (.ref b2)])) _
    refine XS.bipush X47.here hx rfl (hb hby at_49) ?_
    show Steps p.tables e below (T47.setTop (mkF m 51 #[.val (.int p1), .unset, .unset, .unset] [(.int (7 : Int32)), (.ref b2), (.ref b2)])) _
    refine st51 _ ?_
    show Steps p.tables e below (T51.setTop (mkF m 54 #[.val (.int p1), .unset, .unset, .unset] [(.ref w7), (.int (7 : Int32)), (.ref b2), (.ref b2)])) _
    refine st54 _ ?_
    show Steps p.tables e below (T54.setTop (mkF m 55 #[.val (.int p1), .unset, .unset, .unset] [(.ref b2)])) _
    refine XS.astoreN X54.here hx rfl (hb hby at_55) rfl rfl (l' := #[.val (.int p1), .val (.ref b2), .unset, .unset]) rfl ?_
    show Steps p.tables e below (T54.setTop (mkF m 56 #[.val (.int p1), .val (.ref b2), .unset, .unset] [])) _
    refine XS.iloadN X54.here hx rfl (hb hby at_56) rfl ?_
    show Steps p.tables e below (T54.setTop (mkF m 57 #[.val (.int p1), .val (.ref b2), .unset, .unset] [(.int p1)])) _
    refine Jvm.Stand.ldcI X54 hx hown (mvT hZ (w_20 hw)) rfl (hb hby at_57) ?_
    show Steps p.tables e below (T54.setTop (mkF m 59 #[.val (.int p1), .val (.ref b2), .unset, .unset] [(.int (2147483647 : Int32)), (.int p1)])) _
    refine XS.iand X54.here hx rfl (hb hby at_59) rfl ?_
    show Steps p.tables e below (T54.setTop (mkF m 60 #[.val (.int p1), .val (.ref b2), .unset, .unset] [(.int (p1 &&& (2147483647 : Int32)))])) _
    refine XS.bipush X54.here hx rfl (hb hby at_60) ?_
    show Steps p.tables e below (T54.setTop (mkF m 62 #[.val (.int p1), .val (.ref b2), .unset, .unset] [(.int (8 : Int32)), (.int (p1 &&& (2147483647 : Int32)))])) _
    refine Jvm.RoadKit.iremM X54 hx rfl (hb hby at_62) rfl (by decide) ?_
    show Steps p.tables e below (T54.setTop (mkF m 63 #[.val (.int p1), .val (.ref b2), .unset, .unset] [(.int ((p1 &&& (2147483647 : Int32)) % (8 : Int32)))])) _
    rw [hi]
    show Steps p.tables e below (T54.setTop (mkF m 63 #[.val (.int p1), .val (.ref b2), .unset, .unset] [(.int (3 : Int32))])) _
    refine XS.istoreN X54.here hx rfl (hb hby at_63) rfl (l' := #[.val (.int p1), .val (.ref b2), .val (.int (3 : Int32)), .unset]) rfl ?_
    show Steps p.tables e below (T54.setTop (mkF m 64 #[.val (.int p1), .val (.ref b2), .val (.int (3 : Int32)), .unset] [])) _
    refine XS.iloadN X54.here hx rfl (hb hby at_64) rfl ?_
    show Steps p.tables e below (T54.setTop (mkF m 65 #[.val (.int p1), .val (.ref b2), .val (.int (3 : Int32)), .unset] [(.int (3 : Int32))])) _
    refine XS.iconst X54.here hx rfl (hb hby at_65) ?_
    show Steps p.tables e below (T54.setTop (mkF m 66 #[.val (.int p1), .val (.ref b2), .val (.int (3 : Int32)), .unset] [(.int (1 : Int32)), (.int (3 : Int32))])) _
    refine XS.icmpNo X54.here hx rfl (hb hby at_66) rfl (feq (by decide : ¬ ((3 : Int32) = (1 : Int32)))).1 ?_
    show Steps p.tables e below (T54.setTop (mkF m 69 #[.val (.int p1), .val (.ref b2), .val (.int (3 : Int32)), .unset] [])) _
    refine XS.iloadN X54.here hx rfl (hb hby at_69) rfl ?_
    show Steps p.tables e below (T54.setTop (mkF m 70 #[.val (.int p1), .val (.ref b2), .val (.int (3 : Int32)), .unset] [(.int (3 : Int32))])) _
    refine XS.iconst X54.here hx rfl (hb hby at_70) ?_
    show Steps p.tables e below (T54.setTop (mkF m 71 #[.val (.int p1), .val (.ref b2), .val (.int (3 : Int32)), .unset] [(.int (2 : Int32)), (.int (3 : Int32))])) _
    refine XS.icmpNo X54.here hx rfl (hb hby at_71) rfl (feq (by decide : ¬ ((3 : Int32) = (2 : Int32)))).1 ?_
    show Steps p.tables e below (T54.setTop (mkF m 74 #[.val (.int p1), .val (.ref b2), .val (.int (3 : Int32)), .unset] [])) _
    refine XS.iloadN X54.here hx rfl (hb hby at_74) rfl ?_
    show Steps p.tables e below (T54.setTop (mkF m 75 #[.val (.int p1), .val (.ref b2), .val (.int (3 : Int32)), .unset] [(.int (3 : Int32))])) _
    refine XS.iconst X54.here hx rfl (hb hby at_75) ?_
    show Steps p.tables e below (T54.setTop (mkF m 76 #[.val (.int p1), .val (.ref b2), .val (.int (3 : Int32)), .unset] [(.int (3 : Int32)), (.int (3 : Int32))])) _
    refine XS.icmpNo X54.here hx rfl (hb hby at_76) rfl (teq (by decide : (3 : Int32) = (3 : Int32))).2 ?_
    show Steps p.tables e below (T54.setTop (mkF m 79 #[.val (.int p1), .val (.ref b2), .val (.int (3 : Int32)), .unset] [])) _
    refine XS.iconst X54.here hx rfl (hb hby at_79) ?_
    show Steps p.tables e below (T54.setTop (mkF m 80 #[.val (.int p1), .val (.ref b2), .val (.int (3 : Int32)), .unset] [(.int (1 : Int32))])) _
    refine XS.goto X54.here hx rfl (pc0 := 80) (pc' := 84) rfl (hb hby at_80) (by decide) (by decide) ?_
    show Steps p.tables e below (T54.setTop (mkF m 84 #[.val (.int p1), .val (.ref b2), .val (.int (3 : Int32)), .unset] [(.int (1 : Int32))])) _
    refine XS.istoreN X54.here hx rfl (hb hby at_84) rfl (l' := #[.val (.int p1), .val (.ref b2), .val (.int (3 : Int32)), .val (.int (1 : Int32))]) rfl ?_
    show Steps p.tables e below (T54.setTop (mkF m 85 #[.val (.int p1), .val (.ref b2), .val (.int (3 : Int32)), .val (.int (1 : Int32))] [])) _
    refine XS.aloadN X54.here hx rfl (hb hby at_85) rfl rfl ?_
    show Steps p.tables e below (T54.setTop (mkF m 86 #[.val (.int p1), .val (.ref b2), .val (.int (3 : Int32)), .val (.int (1 : Int32))] [(.ref b2)])) _
    refine XS.iloadN X54.here hx rfl (hb hby at_86) rfl ?_
    show Steps p.tables e below (T54.setTop (mkF m 87 #[.val (.int p1), .val (.ref b2), .val (.int (3 : Int32)), .val (.int (1 : Int32))] [(.int (3 : Int32)), (.ref b2)])) _
    refine X54.aaload hx (j := (3 : Int32)) (v := (.ref w3)) (by rw [e54]; exact Ar87.1) (State.isArrayOf_alike hZ.alike Ar87.2.1) rfl Ar87.2.2 hin87 f39 (g := (mkF m 87 #[.val (.int p1), .val (.ref b2), .val (.int (3 : Int32)), .val (.int (1 : Int32))] [(.int (3 : Int32)), (.ref b2)])) rfl rfl (hb hby at_87) _ ?_
    show Steps p.tables e below (T54.setTop (mkF m 88 #[.val (.int p1), .val (.ref b2), .val (.int (3 : Int32)), .val (.int (1 : Int32))] [(.ref w3)])) _
    refine st88.trans ?_
    show Steps p.tables e below (T88.setTop (mkF m 91 #[.val (.int p1), .val (.ref b2), .val (.int (3 : Int32)), .val (.int (1 : Int32))] [(.int (1 : Int32))])) _
    refine XS.iloadN X88.here hx rfl (hb hby at_91) rfl ?_
    show Steps p.tables e below (T88.setTop (mkF m 92 #[.val (.int p1), .val (.ref b2), .val (.int (3 : Int32)), .val (.int (1 : Int32))] [(.int (1 : Int32)), (.int (1 : Int32))])) _
    refine XS.icmpNo X88.here hx rfl (hb hby at_92) rfl (teq (by decide : (1 : Int32) = (1 : Int32))).2 ?_
    show Steps p.tables e below (T88.setTop (mkF m 95 #[.val (.int p1), .val (.ref b2), .val (.int (3 : Int32)), .val (.int (1 : Int32))] [])) _
    refine XS.iconst X88.here hx rfl (hb hby at_95) ?_
    show Steps p.tables e below (T88.setTop (mkF m 96 #[.val (.int p1), .val (.ref b2), .val (.int (3 : Int32)), .val (.int (1 : Int32))] [(.int (1 : Int32))])) _
    refine XS.goto X88.here hx rfl (pc0 := 96) (pc' := 100) rfl (hb hby at_96) (by decide) (by decide) ?_
    show Steps p.tables e below (T88.setTop (mkF m 100 #[.val (.int p1), .val (.ref b2), .val (.int (3 : Int32)), .val (.int (1 : Int32))] [(.int (1 : Int32))])) _
    exact retN X88 hx (t := .boolean) Bd.returns (by simp) (hb hby at_100) hr
  · show Q_law Z p1 w0 w1 w2 w3 w4 w5 w6 w7 h0 n0 _ T88.heap _
    exact ⟨rfl, N88, f40⟩
theorem ef_rm_law_4 (m : MethodId) (x0 : Int32) : entryFrame m #[(.int x0)] maxLocals = mkF m 0 #[.val (.int x0), .unset, .unset, .unset] [] := by first | (simp [entryFrame, mkF, argsToLocals, Value.category, maxLocals]; done) | rfl
set_option maxRecDepth 65536 in
set_option maxHeartbeats 40000000 in
theorem rm_law_4 (l : Launch) (Z : State) (a0 : Array Value) (hw : ∀ d ∈ tables_1, d.before a0 Z = true) (ws : List Jvm.Cond) (p1 : Int32) (w0 : Addr) (w1 : Addr) (w2 : Addr) (w3 : Addr) (w4 : Addr) (w5 : Addr) (w6 : Addr) (w7 : Addr) (h0 : Heap) (n0 : Nat) (O0 : Old Z n0 h0) (S0 : Sta Z Z.heap "com/example/lotista/lotista/retorno/EventField$Form" "NUMBER" "Lcom/example/lotista/lotista/retorno/EventField$Form;" (.ref w0)) (S1 : Sta Z Z.heap "com/example/lotista/lotista/retorno/EventField$Form" "CODE" "Lcom/example/lotista/lotista/retorno/EventField$Form;" (.ref w1)) (S2 : Sta Z Z.heap "com/example/lotista/lotista/retorno/EventField$Form" "ALPHANUMERIC_CODE" "Lcom/example/lotista/lotista/retorno/EventField$Form;" (.ref w2)) (S3 : Sta Z Z.heap "com/example/lotista/lotista/retorno/EventField$Form" "TEXT" "Lcom/example/lotista/lotista/retorno/EventField$Form;" (.ref w3)) (S4 : Sta Z Z.heap "com/example/lotista/lotista/retorno/EventField$Form" "MONEY" "Lcom/example/lotista/lotista/retorno/EventField$Form;" (.ref w4)) (S5 : Sta Z Z.heap "com/example/lotista/lotista/retorno/EventField$Form" "DATE" "Lcom/example/lotista/lotista/retorno/EventField$Form;" (.ref w5)) (S6 : Sta Z Z.heap "com/example/lotista/lotista/retorno/EventField$Form" "GIVEN_DATE" "Lcom/example/lotista/lotista/retorno/EventField$Form;" (.ref w6)) (S7 : Sta Z Z.heap "com/example/lotista/lotista/retorno/EventField$Form" "CODES" "Lcom/example/lotista/lotista/retorno/EventField$Form;" (.ref w7)) (E0 : Exa Z Z.heap w0 "com/example/lotista/lotista/retorno/EventField$Form") (E1 : Exa Z Z.heap w1 "com/example/lotista/lotista/retorno/EventField$Form") (E2 : Exa Z Z.heap w2 "com/example/lotista/lotista/retorno/EventField$Form") (E3 : Exa Z Z.heap w3 "com/example/lotista/lotista/retorno/EventField$Form") (E4 : Exa Z Z.heap w4 "com/example/lotista/lotista/retorno/EventField$Form") (E5 : Exa Z Z.heap w5 "com/example/lotista/lotista/retorno/EventField$Form") (E6 : Exa Z Z.heap w6 "com/example/lotista/lotista/retorno/EventField$Form") (E7 : Exa Z Z.heap w7 "com/example/lotista/lotista/retorno/EventField$Form") (n0_1 : w0 ≠ w1) (n0_2 : w0 ≠ w2) (n0_3 : w0 ≠ w3) (n2_1 : w2 ≠ w1) (n3_1 : w3 ≠ w1) (n3_2 : w3 ≠ w2) (n4_1 : w4 ≠ w1) (n4_2 : w4 ≠ w2) (n4_3 : w4 ≠ w3) (n5_1 : w5 ≠ w1) (n5_2 : w5 ≠ w2) (n5_3 : w5 ≠ w3) (n6_1 : w6 ≠ w1) (n6_2 : w6 ≠ w2) (n6_3 : w6 ≠ w3) (n7_1 : w7 ≠ w1) (n7_2 : w7 ≠ w2) (n7_3 : w7 ≠ w3) (hi : ((p1 &&& (2147483647 : Int32)) % (8 : Int32)) = (4 : Int32)) :
    MetFree l x (head1 (Jvm.Cond.code x code maxLocals ret :: ws) room_1) (fun as' U => as' = #[(.int p1)] ∧ Z.Warmed39 U.vm ∧ U.heap = h0) (fun _ _ _ _ _ => True) (fun _ U o U' => ∃ v L, o = .returned v ∧ Q_law Z p1 w0 w1 w2 w3 w4 w5 w6 w7 h0 n0 v U'.heap L ∧ FrameEnd U o U' L room_1.cells room_1.slots) := by
  refine MetFree.of_bodySF (plainFor_of_name pn_com_example_lotista_lotista_retorno_FormIsTextPinLaw) hisR ?_
  intro p e s m args below meth c s₁ Bd hml0 hP hK
  obtain ⟨rfl, hZ, hh⟩ := hP
  have hx := Bd.exec
  have hby := Bd.bytes
  have hml : c.maxLocals = 4 := hml0
  have hown : s.vm.findClass "com/example/lotista/lotista/retorno/FormIsTextPinLaw" = some m.cls := findClass_of_methodNamed Bd.named
  have hnm := (name_of_methodNamed Bd.named Bd.method).1
  have X0 : Stand p l e room_1 s m #[(.int p1)] below meth c s₁ [] 0 0 := Stand.of_body Bd
  have e0 : s₁.heap = h0 := by rw [← hh, Bd.state]; rfl
  have N0 := Fr.nil n0
  have K0 : Keep h0 h0 [] := Keep.refl _ _
  have pre0 : ∀ t, Steps p.tables e below (s₁.setTop (mkF m 0 #[.val (.int p1), .unset, .unset, .unset] [])) t → Steps p.tables e below (s₁.setTop (entryFrame m #[(.int p1)] maxLocals)) t := fun t k => castTop (ef_rm_law_4 m p1) k
  obtain ⟨T2, h2, kc2, X2, e2, Ex2, Aa2, Bb2, Ov2, st2⟩ := newRE X0 hx hZ hown (w_0 hw) (w_1 hw) e0 (g := (mkF m 2 #[.val (.int p1), .unset, .unset, .unset] [(.int (8 : Int32))])) rfl (hb hby at_2) rfl (by decide) (cap := 8) (by decide) (by decide) (by decide) (by decide) (ad := "[Lcom/example/lotista/lotista/retorno/EventField$Form;") (by first | rfl | decide +kernel)
  obtain ⟨b2, gg2⟩ : ∃ z, z = h0.size := ⟨_, rfl⟩
  rw [← gg2] at Aa2 Bb2 st2
  have f1 : Keep h0 h2 [] := K0.ext Ex2
  have f2 : Old Z n0 h2 := O0.ext Ex2
  have f3 : Arv Z h2 b2 kc2 (.object "com/example/lotista/lotista/retorno/EventField$Form") (8 : Int32) [.null, .null, .null, .null, .null, .null, .null, .null] .null := (Arv.new Aa2 (by decide)).pad (pad_rep [] .null 8)
  obtain ⟨T7, X7, e7, st7⟩ := getS2 X2 hx hZ hown (host := "") (Or.inl (w_2 hw)) Via.refl e2 (S0.ext f2.2) (g := (mkF m 7 #[.val (.int p1), .unset, .unset, .unset] [(.int (0 : Int32)), (.ref b2), (.ref b2)])) rfl (hb hby at_7)
  obtain ⟨cl10, Ar10, qq10, Sz10, NN10, HH10, GG10⟩ := (id f3)
  have hin10 : ¬ ((0 : Int32) < 0 ∨ cl10.slots.size ≤ ((0 : Int32)).toNatClampNeg) := inb_of Sz10 ⟨by decide, by decide⟩
  obtain ⟨T10, h10, X10, e10, Wr10, st10⟩ := stR X7 hx hZ e7 Ar10 (j := (0 : Int32)) hin10 rfl (Sto.ofV Ar10 qq10 Ov2 (Ins.self (E0.ext f2.2))) (g := (mkF m 10 #[.val (.int p1), .unset, .unset, .unset] [(.ref w0), (.int (0 : Int32)), (.ref b2), (.ref b2)])) rfl rfl (hb hby at_10)
  have f5 : h0.size ≤ b2 := Nat.le_trans K0.1 (Nat.le_of_eq gg2.symm)
  have f6 : n0 ≤ b2 := Nat.le_trans (own_old_le O0) (Nat.le_of_eq gg2.symm)
  have f7 : Keep h0 h10 [] := f1.wr Wr10 (Or.inr f5)
  have f8 : Old Z n0 h10 := f2.wr Wr10 f6
  have f9 : Arv Z h10 b2 kc2 (.object "com/example/lotista/lotista/retorno/EventField$Form") (8 : Int32) [(.ref w0), .null, .null, .null, .null, .null, .null, .null] .null := Arv.set Ar10 qq10 Sz10 NN10 HH10 GG10 rfl Wr10 0 rfl (Nat.le_of_ble_eq_true rfl)
  have N10 := Fr.snoc X10 N0 f6
  obtain ⟨T13, X13, e13, st13⟩ := getS2 X10 hx hZ hown (host := "") (Or.inl (w_6 hw)) Via.refl e10 (S1.ext f8.2) (g := (mkF m 13 #[.val (.int p1), .unset, .unset, .unset] [(.int (1 : Int32)), (.ref b2), (.ref b2)])) rfl (hb hby at_13)
  obtain ⟨cl16, Ar16, qq16, Sz16, NN16, HH16, GG16⟩ := (id f9)
  have hin16 : ¬ ((1 : Int32) < 0 ∨ cl16.slots.size ≤ ((1 : Int32)).toNatClampNeg) := inb_of Sz16 ⟨by decide, by decide⟩
  obtain ⟨T16, h16, X16, e16, Wr16, st16⟩ := stR X13 hx hZ e13 Ar16 (j := (1 : Int32)) hin16 rfl (Sto.ofV Ar16 qq16 Ov2 (Ins.self (E1.ext f8.2))) (g := (mkF m 16 #[.val (.int p1), .unset, .unset, .unset] [(.ref w1), (.int (1 : Int32)), (.ref b2), (.ref b2)])) rfl rfl (hb hby at_16)
  have f11 : Keep h0 h16 [] := f7.wr Wr16 (Or.inr f5)
  have f12 : Old Z n0 h16 := f8.wr Wr16 f6
  have f13 : Arv Z h16 b2 kc2 (.object "com/example/lotista/lotista/retorno/EventField$Form") (8 : Int32) [(.ref w0), (.ref w1), .null, .null, .null, .null, .null, .null] .null := Arv.set Ar16 qq16 Sz16 NN16 HH16 GG16 rfl Wr16 1 rfl (Nat.le_of_ble_eq_true rfl)
  have N16 := Fr.snoc X16 N10 f6
  obtain ⟨T19, X19, e19, st19⟩ := getS2 X16 hx hZ hown (host := "") (Or.inl (w_8 hw)) Via.refl e16 (S2.ext f12.2) (g := (mkF m 19 #[.val (.int p1), .unset, .unset, .unset] [(.int (2 : Int32)), (.ref b2), (.ref b2)])) rfl (hb hby at_19)
  obtain ⟨cl22, Ar22, qq22, Sz22, NN22, HH22, GG22⟩ := (id f13)
  have hin22 : ¬ ((2 : Int32) < 0 ∨ cl22.slots.size ≤ ((2 : Int32)).toNatClampNeg) := inb_of Sz22 ⟨by decide, by decide⟩
  obtain ⟨T22, h22, X22, e22, Wr22, st22⟩ := stR X19 hx hZ e19 Ar22 (j := (2 : Int32)) hin22 rfl (Sto.ofV Ar22 qq22 Ov2 (Ins.self (E2.ext f12.2))) (g := (mkF m 22 #[.val (.int p1), .unset, .unset, .unset] [(.ref w2), (.int (2 : Int32)), (.ref b2), (.ref b2)])) rfl rfl (hb hby at_22)
  have f15 : Keep h0 h22 [] := f11.wr Wr22 (Or.inr f5)
  have f16 : Old Z n0 h22 := f12.wr Wr22 f6
  have f17 : Arv Z h22 b2 kc2 (.object "com/example/lotista/lotista/retorno/EventField$Form") (8 : Int32) [(.ref w0), (.ref w1), (.ref w2), .null, .null, .null, .null, .null] .null := Arv.set Ar22 qq22 Sz22 NN22 HH22 GG22 rfl Wr22 2 rfl (Nat.le_of_ble_eq_true rfl)
  have N22 := Fr.snoc X22 N16 f6
  obtain ⟨T25, X25, e25, st25⟩ := getS2 X22 hx hZ hown (host := "") (Or.inl (w_10 hw)) Via.refl e22 (S3.ext f16.2) (g := (mkF m 25 #[.val (.int p1), .unset, .unset, .unset] [(.int (3 : Int32)), (.ref b2), (.ref b2)])) rfl (hb hby at_25)
  obtain ⟨cl28, Ar28, qq28, Sz28, NN28, HH28, GG28⟩ := (id f17)
  have hin28 : ¬ ((3 : Int32) < 0 ∨ cl28.slots.size ≤ ((3 : Int32)).toNatClampNeg) := inb_of Sz28 ⟨by decide, by decide⟩
  obtain ⟨T28, h28, X28, e28, Wr28, st28⟩ := stR X25 hx hZ e25 Ar28 (j := (3 : Int32)) hin28 rfl (Sto.ofV Ar28 qq28 Ov2 (Ins.self (E3.ext f16.2))) (g := (mkF m 28 #[.val (.int p1), .unset, .unset, .unset] [(.ref w3), (.int (3 : Int32)), (.ref b2), (.ref b2)])) rfl rfl (hb hby at_28)
  have f19 : Keep h0 h28 [] := f15.wr Wr28 (Or.inr f5)
  have f20 : Old Z n0 h28 := f16.wr Wr28 f6
  have f21 : Arv Z h28 b2 kc2 (.object "com/example/lotista/lotista/retorno/EventField$Form") (8 : Int32) [(.ref w0), (.ref w1), (.ref w2), (.ref w3), .null, .null, .null, .null] .null := Arv.set Ar28 qq28 Sz28 NN28 HH28 GG28 rfl Wr28 3 rfl (Nat.le_of_ble_eq_true rfl)
  have N28 := Fr.snoc X28 N22 f6
  obtain ⟨T31, X31, e31, st31⟩ := getS2 X28 hx hZ hown (host := "") (Or.inl (w_12 hw)) Via.refl e28 (S4.ext f20.2) (g := (mkF m 31 #[.val (.int p1), .unset, .unset, .unset] [(.int (4 : Int32)), (.ref b2), (.ref b2)])) rfl (hb hby at_31)
  obtain ⟨cl34, Ar34, qq34, Sz34, NN34, HH34, GG34⟩ := (id f21)
  have hin34 : ¬ ((4 : Int32) < 0 ∨ cl34.slots.size ≤ ((4 : Int32)).toNatClampNeg) := inb_of Sz34 ⟨by decide, by decide⟩
  obtain ⟨T34, h34, X34, e34, Wr34, st34⟩ := stR X31 hx hZ e31 Ar34 (j := (4 : Int32)) hin34 rfl (Sto.ofV Ar34 qq34 Ov2 (Ins.self (E4.ext f20.2))) (g := (mkF m 34 #[.val (.int p1), .unset, .unset, .unset] [(.ref w4), (.int (4 : Int32)), (.ref b2), (.ref b2)])) rfl rfl (hb hby at_34)
  have f23 : Keep h0 h34 [] := f19.wr Wr34 (Or.inr f5)
  have f24 : Old Z n0 h34 := f20.wr Wr34 f6
  have f25 : Arv Z h34 b2 kc2 (.object "com/example/lotista/lotista/retorno/EventField$Form") (8 : Int32) [(.ref w0), (.ref w1), (.ref w2), (.ref w3), (.ref w4), .null, .null, .null] .null := Arv.set Ar34 qq34 Sz34 NN34 HH34 GG34 rfl Wr34 4 rfl (Nat.le_of_ble_eq_true rfl)
  have N34 := Fr.snoc X34 N28 f6
  obtain ⟨T37, X37, e37, st37⟩ := getS2 X34 hx hZ hown (host := "") (Or.inl (w_14 hw)) Via.refl e34 (S5.ext f24.2) (g := (mkF m 37 #[.val (.int p1), .unset, .unset, .unset] [(.int (5 : Int32)), (.ref b2), (.ref b2)])) rfl (hb hby at_37)
  obtain ⟨cl40, Ar40, qq40, Sz40, NN40, HH40, GG40⟩ := (id f25)
  have hin40 : ¬ ((5 : Int32) < 0 ∨ cl40.slots.size ≤ ((5 : Int32)).toNatClampNeg) := inb_of Sz40 ⟨by decide, by decide⟩
  obtain ⟨T40, h40, X40, e40, Wr40, st40⟩ := stR X37 hx hZ e37 Ar40 (j := (5 : Int32)) hin40 rfl (Sto.ofV Ar40 qq40 Ov2 (Ins.self (E5.ext f24.2))) (g := (mkF m 40 #[.val (.int p1), .unset, .unset, .unset] [(.ref w5), (.int (5 : Int32)), (.ref b2), (.ref b2)])) rfl rfl (hb hby at_40)
  have f27 : Keep h0 h40 [] := f23.wr Wr40 (Or.inr f5)
  have f28 : Old Z n0 h40 := f24.wr Wr40 f6
  have f29 : Arv Z h40 b2 kc2 (.object "com/example/lotista/lotista/retorno/EventField$Form") (8 : Int32) [(.ref w0), (.ref w1), (.ref w2), (.ref w3), (.ref w4), (.ref w5), .null, .null] .null := Arv.set Ar40 qq40 Sz40 NN40 HH40 GG40 rfl Wr40 5 rfl (Nat.le_of_ble_eq_true rfl)
  have N40 := Fr.snoc X40 N34 f6
  obtain ⟨T44, X44, e44, st44⟩ := getS2 X40 hx hZ hown (host := "") (Or.inl (w_16 hw)) Via.refl e40 (S6.ext f28.2) (g := (mkF m 44 #[.val (.int p1), .unset, .unset, .unset] [(.int (6 : Int32)), (.ref b2), (.ref b2)])) rfl (hb hby at_44)
  obtain ⟨cl47, Ar47, qq47, Sz47, NN47, HH47, GG47⟩ := (id f29)
  have hin47 : ¬ ((6 : Int32) < 0 ∨ cl47.slots.size ≤ ((6 : Int32)).toNatClampNeg) := inb_of Sz47 ⟨by decide, by decide⟩
  obtain ⟨T47, h47, X47, e47, Wr47, st47⟩ := stR X44 hx hZ e44 Ar47 (j := (6 : Int32)) hin47 rfl (Sto.ofV Ar47 qq47 Ov2 (Ins.self (E6.ext f28.2))) (g := (mkF m 47 #[.val (.int p1), .unset, .unset, .unset] [(.ref w6), (.int (6 : Int32)), (.ref b2), (.ref b2)])) rfl rfl (hb hby at_47)
  have f31 : Keep h0 h47 [] := f27.wr Wr47 (Or.inr f5)
  have f32 : Old Z n0 h47 := f28.wr Wr47 f6
  have f33 : Arv Z h47 b2 kc2 (.object "com/example/lotista/lotista/retorno/EventField$Form") (8 : Int32) [(.ref w0), (.ref w1), (.ref w2), (.ref w3), (.ref w4), (.ref w5), (.ref w6), .null] .null := Arv.set Ar47 qq47 Sz47 NN47 HH47 GG47 rfl Wr47 6 rfl (Nat.le_of_ble_eq_true rfl)
  have N47 := Fr.snoc X47 N40 f6
  obtain ⟨T51, X51, e51, st51⟩ := getS2 X47 hx hZ hown (host := "") (Or.inl (w_18 hw)) Via.refl e47 (S7.ext f32.2) (g := (mkF m 51 #[.val (.int p1), .unset, .unset, .unset] [(.int (7 : Int32)), (.ref b2), (.ref b2)])) rfl (hb hby at_51)
  obtain ⟨cl54, Ar54, qq54, Sz54, NN54, HH54, GG54⟩ := (id f33)
  have hin54 : ¬ ((7 : Int32) < 0 ∨ cl54.slots.size ≤ ((7 : Int32)).toNatClampNeg) := inb_of Sz54 ⟨by decide, by decide⟩
  obtain ⟨T54, h54, X54, e54, Wr54, st54⟩ := stR X51 hx hZ e51 Ar54 (j := (7 : Int32)) hin54 rfl (Sto.ofV Ar54 qq54 Ov2 (Ins.self (E7.ext f32.2))) (g := (mkF m 54 #[.val (.int p1), .unset, .unset, .unset] [(.ref w7), (.int (7 : Int32)), (.ref b2), (.ref b2)])) rfl rfl (hb hby at_54)
  have f35 : Keep h0 h54 [] := f31.wr Wr54 (Or.inr f5)
  have f36 : Old Z n0 h54 := f32.wr Wr54 f6
  have f37 : Arv Z h54 b2 kc2 (.object "com/example/lotista/lotista/retorno/EventField$Form") (8 : Int32) [(.ref w0), (.ref w1), (.ref w2), (.ref w3), (.ref w4), (.ref w5), (.ref w6), (.ref w7)] .null := Arv.set Ar54 qq54 Sz54 NN54 HH54 GG54 rfl Wr54 7 rfl (Nat.le_of_ble_eq_true rfl)
  have N54 := Fr.snoc X54 N47 f6
  obtain ⟨cl87, Ar87, qq87, Sz87, NN87, HH87, GG87⟩ := (id f37)
  have hin87 : ¬ ((4 : Int32) < 0 ∨ cl87.slots.size ≤ ((4 : Int32)).toNatClampNeg) := inb_of Sz87 ⟨by decide, by decide⟩
  have f39 : cl87.slots[((4 : Int32)).toNatClampNeg]? = some (.ref w4) := HH87.at hin87 rfl
  obtain ⟨cq88, kq88, q88a, q88b, q88c⟩ := isOf hZ e54 (E4.ext f36.2)
  obtain ⟨_, _, ⟨T88, Lo88, kk88, nn88⟩, -, X88, ⟨Lc88, hQ88, ll88, yy88, zz88⟩, st88⟩ := X54.virtualBack hx (y := (⟨"com/example/lotista/lotista/retorno/EventField$Form", "isText", "()Z"⟩ : MethodName)) (z := (⟨"com/example/lotista/lotista/retorno/EventField$Form", "isText", "()Z"⟩ : MethodName)) hown (mvT hZ (w_21 hw)) (mvT hZ (w_22 hw)) (notFace_of_selects (args := #[]) (mvT hZ (w_24 hw))) (mvT hZ (w_24 hw)) (mvT hZ (w_23 hw)) (by decide) (backOf (W := 0) (rm_tN l Z a0 hw [] w4 w1 w2 w3 h54 n0 f36 S1 S2 S3 n4_1 n4_2 n4_3) hZ (w_25 hw) (w_3 hw) (by decide) (by decide)) q88a q88c (g := (mkF m 88 #[.val (.int p1), .val (.ref b2), .val (.int (4 : Int32)), .val (.int (0 : Int32))] [(.ref w4)])) rfl (by rw [hml]; rfl) (Steps.refl _) (argsL := []) (rest := []) (lenOf pd_0 rfl) rfl (by show 2 * 0 + _ ≤ _; exact Nat.le_of_eq rfl) (hb hby at_88) (fun _ _ => ⟨rfl, e54, (by decide : 1 + 0 ≤ _), (by decide : 8 + 0 ≤ _)⟩)
  dsimp only [Pt.U, Pt.locs, Pt.cells, Pt.slots] at X88 ll88 yy88 zz88 st88 hQ88
  subst ll88 yy88 zz88
  obtain ⟨rfl, N88q, K88q⟩ := hQ88
  have N88 := Fr.app N54 N88q
  have f40 : Keep h0 T88.heap [] := f35.trans K88q all0
  have f41 : Old Z n0 T88.heap := f36.keep K88q all0
  obtain ⟨fs, hr, hrun, hended, hW, hsame⟩ := X88.leave (v := some (.int (1 : Int32))) (fun h => by rw [Bd.returns] at h; cases h)
  refine ⟨_, _, pre0 _ ?_, hrun, hended, _, _, rfl, ?_, ⟨_, rfl⟩, hW, hsame.mono (by decide) (by decide)⟩
  · show Steps p.tables e below (s₁.setTop (mkF m 0 #[.val (.int p1), .unset, .unset, .unset] [])) _
    refine XS.bipush X0.here hx rfl (hb hby at_0) ?_
    show Steps p.tables e below (s₁.setTop (mkF m 2 #[.val (.int p1), .unset, .unset, .unset] [(.int (8 : Int32))])) _
    refine st2 _ ?_
    show Steps p.tables e below (T2.setTop (mkF m 5 #[.val (.int p1), .unset, .unset, .unset] [(.ref b2)])) _
    refine XS.dup X2.here hx rfl (hb hby at_5) rfl rfl ?_
    show Steps p.tables e below (T2.setTop (mkF m 6 #[.val (.int p1), .unset, .unset, .unset] [(.ref b2), (.ref b2)])) _
    refine XS.iconst X2.here hx rfl (hb hby at_6) ?_
    show Steps p.tables e below (T2.setTop (mkF m 7 #[.val (.int p1), .unset, .unset, .unset] [(.int (0 : Int32)), (.ref b2), (.ref b2)])) _
    refine st7 _ ?_
    show Steps p.tables e below (T7.setTop (mkF m 10 #[.val (.int p1), .unset, .unset, .unset] [(.ref w0), (.int (0 : Int32)), (.ref b2), (.ref b2)])) _
    refine st10 _ ?_
    show Steps p.tables e below (T10.setTop (mkF m 11 #[.val (.int p1), .unset, .unset, .unset] [(.ref b2)])) _
    refine XS.dup X10.here hx rfl (hb hby at_11) rfl rfl ?_
    show Steps p.tables e below (T10.setTop (mkF m 12 #[.val (.int p1), .unset, .unset, .unset] [(.ref b2), (.ref b2)])) _
    refine XS.iconst X10.here hx rfl (hb hby at_12) ?_
    show Steps p.tables e below (T10.setTop (mkF m 13 #[.val (.int p1), .unset, .unset, .unset] [(.int (1 : Int32)), (.ref b2), (.ref b2)])) _
    refine st13 _ ?_
    show Steps p.tables e below (T13.setTop (mkF m 16 #[.val (.int p1), .unset, .unset, .unset] [(.ref w1), (.int (1 : Int32)), (.ref b2), (.ref b2)])) _
    refine st16 _ ?_
    show Steps p.tables e below (T16.setTop (mkF m 17 #[.val (.int p1), .unset, .unset, .unset] [(.ref b2)])) _
    refine XS.dup X16.here hx rfl (hb hby at_17) rfl rfl ?_
    show Steps p.tables e below (T16.setTop (mkF m 18 #[.val (.int p1), .unset, .unset, .unset] [(.ref b2), (.ref b2)])) _
    refine XS.iconst X16.here hx rfl (hb hby at_18) ?_
    show Steps p.tables e below (T16.setTop (mkF m 19 #[.val (.int p1), .unset, .unset, .unset] [(.int (2 : Int32)), (.ref b2), (.ref b2)])) _
    refine st19 _ ?_
    show Steps p.tables e below (T19.setTop (mkF m 22 #[.val (.int p1), .unset, .unset, .unset] [(.ref w2), (.int (2 : Int32)), (.ref b2), (.ref b2)])) _
    refine st22 _ ?_
    show Steps p.tables e below (T22.setTop (mkF m 23 #[.val (.int p1), .unset, .unset, .unset] [(.ref b2)])) _
    refine XS.dup X22.here hx rfl (hb hby at_23) rfl rfl ?_
    show Steps p.tables e below (T22.setTop (mkF m 24 #[.val (.int p1), .unset, .unset, .unset] [(.ref b2), (.ref b2)])) _
    refine XS.iconst X22.here hx rfl (hb hby at_24) ?_
    show Steps p.tables e below (T22.setTop (mkF m 25 #[.val (.int p1), .unset, .unset, .unset] [(.int (3 : Int32)), (.ref b2), (.ref b2)])) _
    refine st25 _ ?_
    show Steps p.tables e below (T25.setTop (mkF m 28 #[.val (.int p1), .unset, .unset, .unset] [(.ref w3), (.int (3 : Int32)), (.ref b2), (.ref b2)])) _
    refine st28 _ ?_
    show Steps p.tables e below (T28.setTop (mkF m 29 #[.val (.int p1), .unset, .unset, .unset] [(.ref b2)])) _
    refine XS.dup X28.here hx rfl (hb hby at_29) rfl rfl ?_
    show Steps p.tables e below (T28.setTop (mkF m 30 #[.val (.int p1), .unset, .unset, .unset] [(.ref b2), (.ref b2)])) _
    refine XS.iconst X28.here hx rfl (hb hby at_30) ?_
    show Steps p.tables e below (T28.setTop (mkF m 31 #[.val (.int p1), .unset, .unset, .unset] [(.int (4 : Int32)), (.ref b2), (.ref b2)])) _
    refine st31 _ ?_
    show Steps p.tables e below (T31.setTop (mkF m 34 #[.val (.int p1), .unset, .unset, .unset] [(.ref w4), (.int (4 : Int32)), (.ref b2), (.ref b2)])) _
    refine st34 _ ?_
    show Steps p.tables e below (T34.setTop (mkF m 35 #[.val (.int p1), .unset, .unset, .unset] [(.ref b2)])) _
    refine XS.dup X34.here hx rfl (hb hby at_35) rfl rfl ?_
    show Steps p.tables e below (T34.setTop (mkF m 36 #[.val (.int p1), .unset, .unset, .unset] [(.ref b2), (.ref b2)])) _
    refine XS.iconst X34.here hx rfl (hb hby at_36) ?_
    show Steps p.tables e below (T34.setTop (mkF m 37 #[.val (.int p1), .unset, .unset, .unset] [(.int (5 : Int32)), (.ref b2), (.ref b2)])) _
    refine st37 _ ?_
    show Steps p.tables e below (T37.setTop (mkF m 40 #[.val (.int p1), .unset, .unset, .unset] [(.ref w5), (.int (5 : Int32)), (.ref b2), (.ref b2)])) _
    refine st40 _ ?_
    show Steps p.tables e below (T40.setTop (mkF m 41 #[.val (.int p1), .unset, .unset, .unset] [(.ref b2)])) _
    refine XS.dup X40.here hx rfl (hb hby at_41) rfl rfl ?_
    show Steps p.tables e below (T40.setTop (mkF m 42 #[.val (.int p1), .unset, .unset, .unset] [(.ref b2), (.ref b2)])) _
    refine XS.bipush X40.here hx rfl (hb hby at_42) ?_
    show Steps p.tables e below (T40.setTop (mkF m 44 #[.val (.int p1), .unset, .unset, .unset] [(.int (6 : Int32)), (.ref b2), (.ref b2)])) _
    refine st44 _ ?_
    show Steps p.tables e below (T44.setTop (mkF m 47 #[.val (.int p1), .unset, .unset, .unset] [(.ref w6), (.int (6 : Int32)), (.ref b2), (.ref b2)])) _
    refine st47 _ ?_
    show Steps p.tables e below (T47.setTop (mkF m 48 #[.val (.int p1), .unset, .unset, .unset] [(.ref b2)])) _
    refine XS.dup X47.here hx rfl (hb hby at_48) rfl rfl ?_
    show Steps p.tables e below (T47.setTop (mkF m 49 #[.val (.int p1), .unset, .unset, .unset] [(.ref b2), (.ref b2)])) _
    refine XS.bipush X47.here hx rfl (hb hby at_49) ?_
    show Steps p.tables e below (T47.setTop (mkF m 51 #[.val (.int p1), .unset, .unset, .unset] [(.int (7 : Int32)), (.ref b2), (.ref b2)])) _
    refine st51 _ ?_
    show Steps p.tables e below (T51.setTop (mkF m 54 #[.val (.int p1), .unset, .unset, .unset] [(.ref w7), (.int (7 : Int32)), (.ref b2), (.ref b2)])) _
    refine st54 _ ?_
    show Steps p.tables e below (T54.setTop (mkF m 55 #[.val (.int p1), .unset, .unset, .unset] [(.ref b2)])) _
    refine XS.astoreN X54.here hx rfl (hb hby at_55) rfl rfl (l' := #[.val (.int p1), .val (.ref b2), .unset, .unset]) rfl ?_
    show Steps p.tables e below (T54.setTop (mkF m 56 #[.val (.int p1), .val (.ref b2), .unset, .unset] [])) _
    refine XS.iloadN X54.here hx rfl (hb hby at_56) rfl ?_
    show Steps p.tables e below (T54.setTop (mkF m 57 #[.val (.int p1), .val (.ref b2), .unset, .unset] [(.int p1)])) _
    refine Jvm.Stand.ldcI X54 hx hown (mvT hZ (w_20 hw)) rfl (hb hby at_57) ?_
    show Steps p.tables e below (T54.setTop (mkF m 59 #[.val (.int p1), .val (.ref b2), .unset, .unset] [(.int (2147483647 : Int32)), (.int p1)])) _
    refine XS.iand X54.here hx rfl (hb hby at_59) rfl ?_
    show Steps p.tables e below (T54.setTop (mkF m 60 #[.val (.int p1), .val (.ref b2), .unset, .unset] [(.int (p1 &&& (2147483647 : Int32)))])) _
    refine XS.bipush X54.here hx rfl (hb hby at_60) ?_
    show Steps p.tables e below (T54.setTop (mkF m 62 #[.val (.int p1), .val (.ref b2), .unset, .unset] [(.int (8 : Int32)), (.int (p1 &&& (2147483647 : Int32)))])) _
    refine Jvm.RoadKit.iremM X54 hx rfl (hb hby at_62) rfl (by decide) ?_
    show Steps p.tables e below (T54.setTop (mkF m 63 #[.val (.int p1), .val (.ref b2), .unset, .unset] [(.int ((p1 &&& (2147483647 : Int32)) % (8 : Int32)))])) _
    rw [hi]
    show Steps p.tables e below (T54.setTop (mkF m 63 #[.val (.int p1), .val (.ref b2), .unset, .unset] [(.int (4 : Int32))])) _
    refine XS.istoreN X54.here hx rfl (hb hby at_63) rfl (l' := #[.val (.int p1), .val (.ref b2), .val (.int (4 : Int32)), .unset]) rfl ?_
    show Steps p.tables e below (T54.setTop (mkF m 64 #[.val (.int p1), .val (.ref b2), .val (.int (4 : Int32)), .unset] [])) _
    refine XS.iloadN X54.here hx rfl (hb hby at_64) rfl ?_
    show Steps p.tables e below (T54.setTop (mkF m 65 #[.val (.int p1), .val (.ref b2), .val (.int (4 : Int32)), .unset] [(.int (4 : Int32))])) _
    refine XS.iconst X54.here hx rfl (hb hby at_65) ?_
    show Steps p.tables e below (T54.setTop (mkF m 66 #[.val (.int p1), .val (.ref b2), .val (.int (4 : Int32)), .unset] [(.int (1 : Int32)), (.int (4 : Int32))])) _
    refine XS.icmpNo X54.here hx rfl (hb hby at_66) rfl (feq (by decide : ¬ ((4 : Int32) = (1 : Int32)))).1 ?_
    show Steps p.tables e below (T54.setTop (mkF m 69 #[.val (.int p1), .val (.ref b2), .val (.int (4 : Int32)), .unset] [])) _
    refine XS.iloadN X54.here hx rfl (hb hby at_69) rfl ?_
    show Steps p.tables e below (T54.setTop (mkF m 70 #[.val (.int p1), .val (.ref b2), .val (.int (4 : Int32)), .unset] [(.int (4 : Int32))])) _
    refine XS.iconst X54.here hx rfl (hb hby at_70) ?_
    show Steps p.tables e below (T54.setTop (mkF m 71 #[.val (.int p1), .val (.ref b2), .val (.int (4 : Int32)), .unset] [(.int (2 : Int32)), (.int (4 : Int32))])) _
    refine XS.icmpNo X54.here hx rfl (hb hby at_71) rfl (feq (by decide : ¬ ((4 : Int32) = (2 : Int32)))).1 ?_
    show Steps p.tables e below (T54.setTop (mkF m 74 #[.val (.int p1), .val (.ref b2), .val (.int (4 : Int32)), .unset] [])) _
    refine XS.iloadN X54.here hx rfl (hb hby at_74) rfl ?_
    show Steps p.tables e below (T54.setTop (mkF m 75 #[.val (.int p1), .val (.ref b2), .val (.int (4 : Int32)), .unset] [(.int (4 : Int32))])) _
    refine XS.iconst X54.here hx rfl (hb hby at_75) ?_
    show Steps p.tables e below (T54.setTop (mkF m 76 #[.val (.int p1), .val (.ref b2), .val (.int (4 : Int32)), .unset] [(.int (3 : Int32)), (.int (4 : Int32))])) _
    refine XS.icmpYes X54.here hx rfl (pc0 := 76) (pc' := 83) rfl (hb hby at_76) rfl (feq (by decide : ¬ ((4 : Int32) = (3 : Int32)))).2 (by decide) (by decide) ?_
    show Steps p.tables e below (T54.setTop (mkF m 83 #[.val (.int p1), .val (.ref b2), .val (.int (4 : Int32)), .unset] [])) _
    refine XS.iconst X54.here hx rfl (hb hby at_83) ?_
    show Steps p.tables e below (T54.setTop (mkF m 84 #[.val (.int p1), .val (.ref b2), .val (.int (4 : Int32)), .unset] [(.int (0 : Int32))])) _
    refine XS.istoreN X54.here hx rfl (hb hby at_84) rfl (l' := #[.val (.int p1), .val (.ref b2), .val (.int (4 : Int32)), .val (.int (0 : Int32))]) rfl ?_
    show Steps p.tables e below (T54.setTop (mkF m 85 #[.val (.int p1), .val (.ref b2), .val (.int (4 : Int32)), .val (.int (0 : Int32))] [])) _
    refine XS.aloadN X54.here hx rfl (hb hby at_85) rfl rfl ?_
    show Steps p.tables e below (T54.setTop (mkF m 86 #[.val (.int p1), .val (.ref b2), .val (.int (4 : Int32)), .val (.int (0 : Int32))] [(.ref b2)])) _
    refine XS.iloadN X54.here hx rfl (hb hby at_86) rfl ?_
    show Steps p.tables e below (T54.setTop (mkF m 87 #[.val (.int p1), .val (.ref b2), .val (.int (4 : Int32)), .val (.int (0 : Int32))] [(.int (4 : Int32)), (.ref b2)])) _
    refine X54.aaload hx (j := (4 : Int32)) (v := (.ref w4)) (by rw [e54]; exact Ar87.1) (State.isArrayOf_alike hZ.alike Ar87.2.1) rfl Ar87.2.2 hin87 f39 (g := (mkF m 87 #[.val (.int p1), .val (.ref b2), .val (.int (4 : Int32)), .val (.int (0 : Int32))] [(.int (4 : Int32)), (.ref b2)])) rfl rfl (hb hby at_87) _ ?_
    show Steps p.tables e below (T54.setTop (mkF m 88 #[.val (.int p1), .val (.ref b2), .val (.int (4 : Int32)), .val (.int (0 : Int32))] [(.ref w4)])) _
    refine st88.trans ?_
    show Steps p.tables e below (T88.setTop (mkF m 91 #[.val (.int p1), .val (.ref b2), .val (.int (4 : Int32)), .val (.int (0 : Int32))] [(.int (0 : Int32))])) _
    refine XS.iloadN X88.here hx rfl (hb hby at_91) rfl ?_
    show Steps p.tables e below (T88.setTop (mkF m 92 #[.val (.int p1), .val (.ref b2), .val (.int (4 : Int32)), .val (.int (0 : Int32))] [(.int (0 : Int32)), (.int (0 : Int32))])) _
    refine XS.icmpNo X88.here hx rfl (hb hby at_92) rfl (teq (by decide : (0 : Int32) = (0 : Int32))).2 ?_
    show Steps p.tables e below (T88.setTop (mkF m 95 #[.val (.int p1), .val (.ref b2), .val (.int (4 : Int32)), .val (.int (0 : Int32))] [])) _
    refine XS.iconst X88.here hx rfl (hb hby at_95) ?_
    show Steps p.tables e below (T88.setTop (mkF m 96 #[.val (.int p1), .val (.ref b2), .val (.int (4 : Int32)), .val (.int (0 : Int32))] [(.int (1 : Int32))])) _
    refine XS.goto X88.here hx rfl (pc0 := 96) (pc' := 100) rfl (hb hby at_96) (by decide) (by decide) ?_
    show Steps p.tables e below (T88.setTop (mkF m 100 #[.val (.int p1), .val (.ref b2), .val (.int (4 : Int32)), .val (.int (0 : Int32))] [(.int (1 : Int32))])) _
    exact retN X88 hx (t := .boolean) Bd.returns (by simp) (hb hby at_100) hr
  · show Q_law Z p1 w0 w1 w2 w3 w4 w5 w6 w7 h0 n0 _ T88.heap _
    exact ⟨rfl, N88, f40⟩
theorem ef_rm_law_5 (m : MethodId) (x0 : Int32) : entryFrame m #[(.int x0)] maxLocals = mkF m 0 #[.val (.int x0), .unset, .unset, .unset] [] := by first | (simp [entryFrame, mkF, argsToLocals, Value.category, maxLocals]; done) | rfl
set_option maxRecDepth 65536 in
set_option maxHeartbeats 40000000 in
theorem rm_law_5 (l : Launch) (Z : State) (a0 : Array Value) (hw : ∀ d ∈ tables_1, d.before a0 Z = true) (ws : List Jvm.Cond) (p1 : Int32) (w0 : Addr) (w1 : Addr) (w2 : Addr) (w3 : Addr) (w4 : Addr) (w5 : Addr) (w6 : Addr) (w7 : Addr) (h0 : Heap) (n0 : Nat) (O0 : Old Z n0 h0) (S0 : Sta Z Z.heap "com/example/lotista/lotista/retorno/EventField$Form" "NUMBER" "Lcom/example/lotista/lotista/retorno/EventField$Form;" (.ref w0)) (S1 : Sta Z Z.heap "com/example/lotista/lotista/retorno/EventField$Form" "CODE" "Lcom/example/lotista/lotista/retorno/EventField$Form;" (.ref w1)) (S2 : Sta Z Z.heap "com/example/lotista/lotista/retorno/EventField$Form" "ALPHANUMERIC_CODE" "Lcom/example/lotista/lotista/retorno/EventField$Form;" (.ref w2)) (S3 : Sta Z Z.heap "com/example/lotista/lotista/retorno/EventField$Form" "TEXT" "Lcom/example/lotista/lotista/retorno/EventField$Form;" (.ref w3)) (S4 : Sta Z Z.heap "com/example/lotista/lotista/retorno/EventField$Form" "MONEY" "Lcom/example/lotista/lotista/retorno/EventField$Form;" (.ref w4)) (S5 : Sta Z Z.heap "com/example/lotista/lotista/retorno/EventField$Form" "DATE" "Lcom/example/lotista/lotista/retorno/EventField$Form;" (.ref w5)) (S6 : Sta Z Z.heap "com/example/lotista/lotista/retorno/EventField$Form" "GIVEN_DATE" "Lcom/example/lotista/lotista/retorno/EventField$Form;" (.ref w6)) (S7 : Sta Z Z.heap "com/example/lotista/lotista/retorno/EventField$Form" "CODES" "Lcom/example/lotista/lotista/retorno/EventField$Form;" (.ref w7)) (E0 : Exa Z Z.heap w0 "com/example/lotista/lotista/retorno/EventField$Form") (E1 : Exa Z Z.heap w1 "com/example/lotista/lotista/retorno/EventField$Form") (E2 : Exa Z Z.heap w2 "com/example/lotista/lotista/retorno/EventField$Form") (E3 : Exa Z Z.heap w3 "com/example/lotista/lotista/retorno/EventField$Form") (E4 : Exa Z Z.heap w4 "com/example/lotista/lotista/retorno/EventField$Form") (E5 : Exa Z Z.heap w5 "com/example/lotista/lotista/retorno/EventField$Form") (E6 : Exa Z Z.heap w6 "com/example/lotista/lotista/retorno/EventField$Form") (E7 : Exa Z Z.heap w7 "com/example/lotista/lotista/retorno/EventField$Form") (n0_1 : w0 ≠ w1) (n0_2 : w0 ≠ w2) (n0_3 : w0 ≠ w3) (n2_1 : w2 ≠ w1) (n3_1 : w3 ≠ w1) (n3_2 : w3 ≠ w2) (n4_1 : w4 ≠ w1) (n4_2 : w4 ≠ w2) (n4_3 : w4 ≠ w3) (n5_1 : w5 ≠ w1) (n5_2 : w5 ≠ w2) (n5_3 : w5 ≠ w3) (n6_1 : w6 ≠ w1) (n6_2 : w6 ≠ w2) (n6_3 : w6 ≠ w3) (n7_1 : w7 ≠ w1) (n7_2 : w7 ≠ w2) (n7_3 : w7 ≠ w3) (hi : ((p1 &&& (2147483647 : Int32)) % (8 : Int32)) = (5 : Int32)) :
    MetFree l x (head1 (Jvm.Cond.code x code maxLocals ret :: ws) room_1) (fun as' U => as' = #[(.int p1)] ∧ Z.Warmed39 U.vm ∧ U.heap = h0) (fun _ _ _ _ _ => True) (fun _ U o U' => ∃ v L, o = .returned v ∧ Q_law Z p1 w0 w1 w2 w3 w4 w5 w6 w7 h0 n0 v U'.heap L ∧ FrameEnd U o U' L room_1.cells room_1.slots) := by
  refine MetFree.of_bodySF (plainFor_of_name pn_com_example_lotista_lotista_retorno_FormIsTextPinLaw) hisR ?_
  intro p e s m args below meth c s₁ Bd hml0 hP hK
  obtain ⟨rfl, hZ, hh⟩ := hP
  have hx := Bd.exec
  have hby := Bd.bytes
  have hml : c.maxLocals = 4 := hml0
  have hown : s.vm.findClass "com/example/lotista/lotista/retorno/FormIsTextPinLaw" = some m.cls := findClass_of_methodNamed Bd.named
  have hnm := (name_of_methodNamed Bd.named Bd.method).1
  have X0 : Stand p l e room_1 s m #[(.int p1)] below meth c s₁ [] 0 0 := Stand.of_body Bd
  have e0 : s₁.heap = h0 := by rw [← hh, Bd.state]; rfl
  have N0 := Fr.nil n0
  have K0 : Keep h0 h0 [] := Keep.refl _ _
  have pre0 : ∀ t, Steps p.tables e below (s₁.setTop (mkF m 0 #[.val (.int p1), .unset, .unset, .unset] [])) t → Steps p.tables e below (s₁.setTop (entryFrame m #[(.int p1)] maxLocals)) t := fun t k => castTop (ef_rm_law_5 m p1) k
  obtain ⟨T2, h2, kc2, X2, e2, Ex2, Aa2, Bb2, Ov2, st2⟩ := newRE X0 hx hZ hown (w_0 hw) (w_1 hw) e0 (g := (mkF m 2 #[.val (.int p1), .unset, .unset, .unset] [(.int (8 : Int32))])) rfl (hb hby at_2) rfl (by decide) (cap := 8) (by decide) (by decide) (by decide) (by decide) (ad := "[Lcom/example/lotista/lotista/retorno/EventField$Form;") (by first | rfl | decide +kernel)
  obtain ⟨b2, gg2⟩ : ∃ z, z = h0.size := ⟨_, rfl⟩
  rw [← gg2] at Aa2 Bb2 st2
  have f1 : Keep h0 h2 [] := K0.ext Ex2
  have f2 : Old Z n0 h2 := O0.ext Ex2
  have f3 : Arv Z h2 b2 kc2 (.object "com/example/lotista/lotista/retorno/EventField$Form") (8 : Int32) [.null, .null, .null, .null, .null, .null, .null, .null] .null := (Arv.new Aa2 (by decide)).pad (pad_rep [] .null 8)
  obtain ⟨T7, X7, e7, st7⟩ := getS2 X2 hx hZ hown (host := "") (Or.inl (w_2 hw)) Via.refl e2 (S0.ext f2.2) (g := (mkF m 7 #[.val (.int p1), .unset, .unset, .unset] [(.int (0 : Int32)), (.ref b2), (.ref b2)])) rfl (hb hby at_7)
  obtain ⟨cl10, Ar10, qq10, Sz10, NN10, HH10, GG10⟩ := (id f3)
  have hin10 : ¬ ((0 : Int32) < 0 ∨ cl10.slots.size ≤ ((0 : Int32)).toNatClampNeg) := inb_of Sz10 ⟨by decide, by decide⟩
  obtain ⟨T10, h10, X10, e10, Wr10, st10⟩ := stR X7 hx hZ e7 Ar10 (j := (0 : Int32)) hin10 rfl (Sto.ofV Ar10 qq10 Ov2 (Ins.self (E0.ext f2.2))) (g := (mkF m 10 #[.val (.int p1), .unset, .unset, .unset] [(.ref w0), (.int (0 : Int32)), (.ref b2), (.ref b2)])) rfl rfl (hb hby at_10)
  have f5 : h0.size ≤ b2 := Nat.le_trans K0.1 (Nat.le_of_eq gg2.symm)
  have f6 : n0 ≤ b2 := Nat.le_trans (own_old_le O0) (Nat.le_of_eq gg2.symm)
  have f7 : Keep h0 h10 [] := f1.wr Wr10 (Or.inr f5)
  have f8 : Old Z n0 h10 := f2.wr Wr10 f6
  have f9 : Arv Z h10 b2 kc2 (.object "com/example/lotista/lotista/retorno/EventField$Form") (8 : Int32) [(.ref w0), .null, .null, .null, .null, .null, .null, .null] .null := Arv.set Ar10 qq10 Sz10 NN10 HH10 GG10 rfl Wr10 0 rfl (Nat.le_of_ble_eq_true rfl)
  have N10 := Fr.snoc X10 N0 f6
  obtain ⟨T13, X13, e13, st13⟩ := getS2 X10 hx hZ hown (host := "") (Or.inl (w_6 hw)) Via.refl e10 (S1.ext f8.2) (g := (mkF m 13 #[.val (.int p1), .unset, .unset, .unset] [(.int (1 : Int32)), (.ref b2), (.ref b2)])) rfl (hb hby at_13)
  obtain ⟨cl16, Ar16, qq16, Sz16, NN16, HH16, GG16⟩ := (id f9)
  have hin16 : ¬ ((1 : Int32) < 0 ∨ cl16.slots.size ≤ ((1 : Int32)).toNatClampNeg) := inb_of Sz16 ⟨by decide, by decide⟩
  obtain ⟨T16, h16, X16, e16, Wr16, st16⟩ := stR X13 hx hZ e13 Ar16 (j := (1 : Int32)) hin16 rfl (Sto.ofV Ar16 qq16 Ov2 (Ins.self (E1.ext f8.2))) (g := (mkF m 16 #[.val (.int p1), .unset, .unset, .unset] [(.ref w1), (.int (1 : Int32)), (.ref b2), (.ref b2)])) rfl rfl (hb hby at_16)
  have f11 : Keep h0 h16 [] := f7.wr Wr16 (Or.inr f5)
  have f12 : Old Z n0 h16 := f8.wr Wr16 f6
  have f13 : Arv Z h16 b2 kc2 (.object "com/example/lotista/lotista/retorno/EventField$Form") (8 : Int32) [(.ref w0), (.ref w1), .null, .null, .null, .null, .null, .null] .null := Arv.set Ar16 qq16 Sz16 NN16 HH16 GG16 rfl Wr16 1 rfl (Nat.le_of_ble_eq_true rfl)
  have N16 := Fr.snoc X16 N10 f6
  obtain ⟨T19, X19, e19, st19⟩ := getS2 X16 hx hZ hown (host := "") (Or.inl (w_8 hw)) Via.refl e16 (S2.ext f12.2) (g := (mkF m 19 #[.val (.int p1), .unset, .unset, .unset] [(.int (2 : Int32)), (.ref b2), (.ref b2)])) rfl (hb hby at_19)
  obtain ⟨cl22, Ar22, qq22, Sz22, NN22, HH22, GG22⟩ := (id f13)
  have hin22 : ¬ ((2 : Int32) < 0 ∨ cl22.slots.size ≤ ((2 : Int32)).toNatClampNeg) := inb_of Sz22 ⟨by decide, by decide⟩
  obtain ⟨T22, h22, X22, e22, Wr22, st22⟩ := stR X19 hx hZ e19 Ar22 (j := (2 : Int32)) hin22 rfl (Sto.ofV Ar22 qq22 Ov2 (Ins.self (E2.ext f12.2))) (g := (mkF m 22 #[.val (.int p1), .unset, .unset, .unset] [(.ref w2), (.int (2 : Int32)), (.ref b2), (.ref b2)])) rfl rfl (hb hby at_22)
  have f15 : Keep h0 h22 [] := f11.wr Wr22 (Or.inr f5)
  have f16 : Old Z n0 h22 := f12.wr Wr22 f6
  have f17 : Arv Z h22 b2 kc2 (.object "com/example/lotista/lotista/retorno/EventField$Form") (8 : Int32) [(.ref w0), (.ref w1), (.ref w2), .null, .null, .null, .null, .null] .null := Arv.set Ar22 qq22 Sz22 NN22 HH22 GG22 rfl Wr22 2 rfl (Nat.le_of_ble_eq_true rfl)
  have N22 := Fr.snoc X22 N16 f6
  obtain ⟨T25, X25, e25, st25⟩ := getS2 X22 hx hZ hown (host := "") (Or.inl (w_10 hw)) Via.refl e22 (S3.ext f16.2) (g := (mkF m 25 #[.val (.int p1), .unset, .unset, .unset] [(.int (3 : Int32)), (.ref b2), (.ref b2)])) rfl (hb hby at_25)
  obtain ⟨cl28, Ar28, qq28, Sz28, NN28, HH28, GG28⟩ := (id f17)
  have hin28 : ¬ ((3 : Int32) < 0 ∨ cl28.slots.size ≤ ((3 : Int32)).toNatClampNeg) := inb_of Sz28 ⟨by decide, by decide⟩
  obtain ⟨T28, h28, X28, e28, Wr28, st28⟩ := stR X25 hx hZ e25 Ar28 (j := (3 : Int32)) hin28 rfl (Sto.ofV Ar28 qq28 Ov2 (Ins.self (E3.ext f16.2))) (g := (mkF m 28 #[.val (.int p1), .unset, .unset, .unset] [(.ref w3), (.int (3 : Int32)), (.ref b2), (.ref b2)])) rfl rfl (hb hby at_28)
  have f19 : Keep h0 h28 [] := f15.wr Wr28 (Or.inr f5)
  have f20 : Old Z n0 h28 := f16.wr Wr28 f6
  have f21 : Arv Z h28 b2 kc2 (.object "com/example/lotista/lotista/retorno/EventField$Form") (8 : Int32) [(.ref w0), (.ref w1), (.ref w2), (.ref w3), .null, .null, .null, .null] .null := Arv.set Ar28 qq28 Sz28 NN28 HH28 GG28 rfl Wr28 3 rfl (Nat.le_of_ble_eq_true rfl)
  have N28 := Fr.snoc X28 N22 f6
  obtain ⟨T31, X31, e31, st31⟩ := getS2 X28 hx hZ hown (host := "") (Or.inl (w_12 hw)) Via.refl e28 (S4.ext f20.2) (g := (mkF m 31 #[.val (.int p1), .unset, .unset, .unset] [(.int (4 : Int32)), (.ref b2), (.ref b2)])) rfl (hb hby at_31)
  obtain ⟨cl34, Ar34, qq34, Sz34, NN34, HH34, GG34⟩ := (id f21)
  have hin34 : ¬ ((4 : Int32) < 0 ∨ cl34.slots.size ≤ ((4 : Int32)).toNatClampNeg) := inb_of Sz34 ⟨by decide, by decide⟩
  obtain ⟨T34, h34, X34, e34, Wr34, st34⟩ := stR X31 hx hZ e31 Ar34 (j := (4 : Int32)) hin34 rfl (Sto.ofV Ar34 qq34 Ov2 (Ins.self (E4.ext f20.2))) (g := (mkF m 34 #[.val (.int p1), .unset, .unset, .unset] [(.ref w4), (.int (4 : Int32)), (.ref b2), (.ref b2)])) rfl rfl (hb hby at_34)
  have f23 : Keep h0 h34 [] := f19.wr Wr34 (Or.inr f5)
  have f24 : Old Z n0 h34 := f20.wr Wr34 f6
  have f25 : Arv Z h34 b2 kc2 (.object "com/example/lotista/lotista/retorno/EventField$Form") (8 : Int32) [(.ref w0), (.ref w1), (.ref w2), (.ref w3), (.ref w4), .null, .null, .null] .null := Arv.set Ar34 qq34 Sz34 NN34 HH34 GG34 rfl Wr34 4 rfl (Nat.le_of_ble_eq_true rfl)
  have N34 := Fr.snoc X34 N28 f6
  obtain ⟨T37, X37, e37, st37⟩ := getS2 X34 hx hZ hown (host := "") (Or.inl (w_14 hw)) Via.refl e34 (S5.ext f24.2) (g := (mkF m 37 #[.val (.int p1), .unset, .unset, .unset] [(.int (5 : Int32)), (.ref b2), (.ref b2)])) rfl (hb hby at_37)
  obtain ⟨cl40, Ar40, qq40, Sz40, NN40, HH40, GG40⟩ := (id f25)
  have hin40 : ¬ ((5 : Int32) < 0 ∨ cl40.slots.size ≤ ((5 : Int32)).toNatClampNeg) := inb_of Sz40 ⟨by decide, by decide⟩
  obtain ⟨T40, h40, X40, e40, Wr40, st40⟩ := stR X37 hx hZ e37 Ar40 (j := (5 : Int32)) hin40 rfl (Sto.ofV Ar40 qq40 Ov2 (Ins.self (E5.ext f24.2))) (g := (mkF m 40 #[.val (.int p1), .unset, .unset, .unset] [(.ref w5), (.int (5 : Int32)), (.ref b2), (.ref b2)])) rfl rfl (hb hby at_40)
  have f27 : Keep h0 h40 [] := f23.wr Wr40 (Or.inr f5)
  have f28 : Old Z n0 h40 := f24.wr Wr40 f6
  have f29 : Arv Z h40 b2 kc2 (.object "com/example/lotista/lotista/retorno/EventField$Form") (8 : Int32) [(.ref w0), (.ref w1), (.ref w2), (.ref w3), (.ref w4), (.ref w5), .null, .null] .null := Arv.set Ar40 qq40 Sz40 NN40 HH40 GG40 rfl Wr40 5 rfl (Nat.le_of_ble_eq_true rfl)
  have N40 := Fr.snoc X40 N34 f6
  obtain ⟨T44, X44, e44, st44⟩ := getS2 X40 hx hZ hown (host := "") (Or.inl (w_16 hw)) Via.refl e40 (S6.ext f28.2) (g := (mkF m 44 #[.val (.int p1), .unset, .unset, .unset] [(.int (6 : Int32)), (.ref b2), (.ref b2)])) rfl (hb hby at_44)
  obtain ⟨cl47, Ar47, qq47, Sz47, NN47, HH47, GG47⟩ := (id f29)
  have hin47 : ¬ ((6 : Int32) < 0 ∨ cl47.slots.size ≤ ((6 : Int32)).toNatClampNeg) := inb_of Sz47 ⟨by decide, by decide⟩
  obtain ⟨T47, h47, X47, e47, Wr47, st47⟩ := stR X44 hx hZ e44 Ar47 (j := (6 : Int32)) hin47 rfl (Sto.ofV Ar47 qq47 Ov2 (Ins.self (E6.ext f28.2))) (g := (mkF m 47 #[.val (.int p1), .unset, .unset, .unset] [(.ref w6), (.int (6 : Int32)), (.ref b2), (.ref b2)])) rfl rfl (hb hby at_47)
  have f31 : Keep h0 h47 [] := f27.wr Wr47 (Or.inr f5)
  have f32 : Old Z n0 h47 := f28.wr Wr47 f6
  have f33 : Arv Z h47 b2 kc2 (.object "com/example/lotista/lotista/retorno/EventField$Form") (8 : Int32) [(.ref w0), (.ref w1), (.ref w2), (.ref w3), (.ref w4), (.ref w5), (.ref w6), .null] .null := Arv.set Ar47 qq47 Sz47 NN47 HH47 GG47 rfl Wr47 6 rfl (Nat.le_of_ble_eq_true rfl)
  have N47 := Fr.snoc X47 N40 f6
  obtain ⟨T51, X51, e51, st51⟩ := getS2 X47 hx hZ hown (host := "") (Or.inl (w_18 hw)) Via.refl e47 (S7.ext f32.2) (g := (mkF m 51 #[.val (.int p1), .unset, .unset, .unset] [(.int (7 : Int32)), (.ref b2), (.ref b2)])) rfl (hb hby at_51)
  obtain ⟨cl54, Ar54, qq54, Sz54, NN54, HH54, GG54⟩ := (id f33)
  have hin54 : ¬ ((7 : Int32) < 0 ∨ cl54.slots.size ≤ ((7 : Int32)).toNatClampNeg) := inb_of Sz54 ⟨by decide, by decide⟩
  obtain ⟨T54, h54, X54, e54, Wr54, st54⟩ := stR X51 hx hZ e51 Ar54 (j := (7 : Int32)) hin54 rfl (Sto.ofV Ar54 qq54 Ov2 (Ins.self (E7.ext f32.2))) (g := (mkF m 54 #[.val (.int p1), .unset, .unset, .unset] [(.ref w7), (.int (7 : Int32)), (.ref b2), (.ref b2)])) rfl rfl (hb hby at_54)
  have f35 : Keep h0 h54 [] := f31.wr Wr54 (Or.inr f5)
  have f36 : Old Z n0 h54 := f32.wr Wr54 f6
  have f37 : Arv Z h54 b2 kc2 (.object "com/example/lotista/lotista/retorno/EventField$Form") (8 : Int32) [(.ref w0), (.ref w1), (.ref w2), (.ref w3), (.ref w4), (.ref w5), (.ref w6), (.ref w7)] .null := Arv.set Ar54 qq54 Sz54 NN54 HH54 GG54 rfl Wr54 7 rfl (Nat.le_of_ble_eq_true rfl)
  have N54 := Fr.snoc X54 N47 f6
  obtain ⟨cl87, Ar87, qq87, Sz87, NN87, HH87, GG87⟩ := (id f37)
  have hin87 : ¬ ((5 : Int32) < 0 ∨ cl87.slots.size ≤ ((5 : Int32)).toNatClampNeg) := inb_of Sz87 ⟨by decide, by decide⟩
  have f39 : cl87.slots[((5 : Int32)).toNatClampNeg]? = some (.ref w5) := HH87.at hin87 rfl
  obtain ⟨cq88, kq88, q88a, q88b, q88c⟩ := isOf hZ e54 (E5.ext f36.2)
  obtain ⟨_, _, ⟨T88, Lo88, kk88, nn88⟩, -, X88, ⟨Lc88, hQ88, ll88, yy88, zz88⟩, st88⟩ := X54.virtualBack hx (y := (⟨"com/example/lotista/lotista/retorno/EventField$Form", "isText", "()Z"⟩ : MethodName)) (z := (⟨"com/example/lotista/lotista/retorno/EventField$Form", "isText", "()Z"⟩ : MethodName)) hown (mvT hZ (w_21 hw)) (mvT hZ (w_22 hw)) (notFace_of_selects (args := #[]) (mvT hZ (w_24 hw))) (mvT hZ (w_24 hw)) (mvT hZ (w_23 hw)) (by decide) (backOf (W := 0) (rm_tN l Z a0 hw [] w5 w1 w2 w3 h54 n0 f36 S1 S2 S3 n5_1 n5_2 n5_3) hZ (w_25 hw) (w_3 hw) (by decide) (by decide)) q88a q88c (g := (mkF m 88 #[.val (.int p1), .val (.ref b2), .val (.int (5 : Int32)), .val (.int (0 : Int32))] [(.ref w5)])) rfl (by rw [hml]; rfl) (Steps.refl _) (argsL := []) (rest := []) (lenOf pd_0 rfl) rfl (by show 2 * 0 + _ ≤ _; exact Nat.le_of_eq rfl) (hb hby at_88) (fun _ _ => ⟨rfl, e54, (by decide : 1 + 0 ≤ _), (by decide : 8 + 0 ≤ _)⟩)
  dsimp only [Pt.U, Pt.locs, Pt.cells, Pt.slots] at X88 ll88 yy88 zz88 st88 hQ88
  subst ll88 yy88 zz88
  obtain ⟨rfl, N88q, K88q⟩ := hQ88
  have N88 := Fr.app N54 N88q
  have f40 : Keep h0 T88.heap [] := f35.trans K88q all0
  have f41 : Old Z n0 T88.heap := f36.keep K88q all0
  obtain ⟨fs, hr, hrun, hended, hW, hsame⟩ := X88.leave (v := some (.int (1 : Int32))) (fun h => by rw [Bd.returns] at h; cases h)
  refine ⟨_, _, pre0 _ ?_, hrun, hended, _, _, rfl, ?_, ⟨_, rfl⟩, hW, hsame.mono (by decide) (by decide)⟩
  · show Steps p.tables e below (s₁.setTop (mkF m 0 #[.val (.int p1), .unset, .unset, .unset] [])) _
    refine XS.bipush X0.here hx rfl (hb hby at_0) ?_
    show Steps p.tables e below (s₁.setTop (mkF m 2 #[.val (.int p1), .unset, .unset, .unset] [(.int (8 : Int32))])) _
    refine st2 _ ?_
    show Steps p.tables e below (T2.setTop (mkF m 5 #[.val (.int p1), .unset, .unset, .unset] [(.ref b2)])) _
    refine XS.dup X2.here hx rfl (hb hby at_5) rfl rfl ?_
    show Steps p.tables e below (T2.setTop (mkF m 6 #[.val (.int p1), .unset, .unset, .unset] [(.ref b2), (.ref b2)])) _
    refine XS.iconst X2.here hx rfl (hb hby at_6) ?_
    show Steps p.tables e below (T2.setTop (mkF m 7 #[.val (.int p1), .unset, .unset, .unset] [(.int (0 : Int32)), (.ref b2), (.ref b2)])) _
    refine st7 _ ?_
    show Steps p.tables e below (T7.setTop (mkF m 10 #[.val (.int p1), .unset, .unset, .unset] [(.ref w0), (.int (0 : Int32)), (.ref b2), (.ref b2)])) _
    refine st10 _ ?_
    show Steps p.tables e below (T10.setTop (mkF m 11 #[.val (.int p1), .unset, .unset, .unset] [(.ref b2)])) _
    refine XS.dup X10.here hx rfl (hb hby at_11) rfl rfl ?_
    show Steps p.tables e below (T10.setTop (mkF m 12 #[.val (.int p1), .unset, .unset, .unset] [(.ref b2), (.ref b2)])) _
    refine XS.iconst X10.here hx rfl (hb hby at_12) ?_
    show Steps p.tables e below (T10.setTop (mkF m 13 #[.val (.int p1), .unset, .unset, .unset] [(.int (1 : Int32)), (.ref b2), (.ref b2)])) _
    refine st13 _ ?_
    show Steps p.tables e below (T13.setTop (mkF m 16 #[.val (.int p1), .unset, .unset, .unset] [(.ref w1), (.int (1 : Int32)), (.ref b2), (.ref b2)])) _
    refine st16 _ ?_
    show Steps p.tables e below (T16.setTop (mkF m 17 #[.val (.int p1), .unset, .unset, .unset] [(.ref b2)])) _
    refine XS.dup X16.here hx rfl (hb hby at_17) rfl rfl ?_
    show Steps p.tables e below (T16.setTop (mkF m 18 #[.val (.int p1), .unset, .unset, .unset] [(.ref b2), (.ref b2)])) _
    refine XS.iconst X16.here hx rfl (hb hby at_18) ?_
    show Steps p.tables e below (T16.setTop (mkF m 19 #[.val (.int p1), .unset, .unset, .unset] [(.int (2 : Int32)), (.ref b2), (.ref b2)])) _
    refine st19 _ ?_
    show Steps p.tables e below (T19.setTop (mkF m 22 #[.val (.int p1), .unset, .unset, .unset] [(.ref w2), (.int (2 : Int32)), (.ref b2), (.ref b2)])) _
    refine st22 _ ?_
    show Steps p.tables e below (T22.setTop (mkF m 23 #[.val (.int p1), .unset, .unset, .unset] [(.ref b2)])) _
    refine XS.dup X22.here hx rfl (hb hby at_23) rfl rfl ?_
    show Steps p.tables e below (T22.setTop (mkF m 24 #[.val (.int p1), .unset, .unset, .unset] [(.ref b2), (.ref b2)])) _
    refine XS.iconst X22.here hx rfl (hb hby at_24) ?_
    show Steps p.tables e below (T22.setTop (mkF m 25 #[.val (.int p1), .unset, .unset, .unset] [(.int (3 : Int32)), (.ref b2), (.ref b2)])) _
    refine st25 _ ?_
    show Steps p.tables e below (T25.setTop (mkF m 28 #[.val (.int p1), .unset, .unset, .unset] [(.ref w3), (.int (3 : Int32)), (.ref b2), (.ref b2)])) _
    refine st28 _ ?_
    show Steps p.tables e below (T28.setTop (mkF m 29 #[.val (.int p1), .unset, .unset, .unset] [(.ref b2)])) _
    refine XS.dup X28.here hx rfl (hb hby at_29) rfl rfl ?_
    show Steps p.tables e below (T28.setTop (mkF m 30 #[.val (.int p1), .unset, .unset, .unset] [(.ref b2), (.ref b2)])) _
    refine XS.iconst X28.here hx rfl (hb hby at_30) ?_
    show Steps p.tables e below (T28.setTop (mkF m 31 #[.val (.int p1), .unset, .unset, .unset] [(.int (4 : Int32)), (.ref b2), (.ref b2)])) _
    refine st31 _ ?_
    show Steps p.tables e below (T31.setTop (mkF m 34 #[.val (.int p1), .unset, .unset, .unset] [(.ref w4), (.int (4 : Int32)), (.ref b2), (.ref b2)])) _
    refine st34 _ ?_
    show Steps p.tables e below (T34.setTop (mkF m 35 #[.val (.int p1), .unset, .unset, .unset] [(.ref b2)])) _
    refine XS.dup X34.here hx rfl (hb hby at_35) rfl rfl ?_
    show Steps p.tables e below (T34.setTop (mkF m 36 #[.val (.int p1), .unset, .unset, .unset] [(.ref b2), (.ref b2)])) _
    refine XS.iconst X34.here hx rfl (hb hby at_36) ?_
    show Steps p.tables e below (T34.setTop (mkF m 37 #[.val (.int p1), .unset, .unset, .unset] [(.int (5 : Int32)), (.ref b2), (.ref b2)])) _
    refine st37 _ ?_
    show Steps p.tables e below (T37.setTop (mkF m 40 #[.val (.int p1), .unset, .unset, .unset] [(.ref w5), (.int (5 : Int32)), (.ref b2), (.ref b2)])) _
    refine st40 _ ?_
    show Steps p.tables e below (T40.setTop (mkF m 41 #[.val (.int p1), .unset, .unset, .unset] [(.ref b2)])) _
    refine XS.dup X40.here hx rfl (hb hby at_41) rfl rfl ?_
    show Steps p.tables e below (T40.setTop (mkF m 42 #[.val (.int p1), .unset, .unset, .unset] [(.ref b2), (.ref b2)])) _
    refine XS.bipush X40.here hx rfl (hb hby at_42) ?_
    show Steps p.tables e below (T40.setTop (mkF m 44 #[.val (.int p1), .unset, .unset, .unset] [(.int (6 : Int32)), (.ref b2), (.ref b2)])) _
    refine st44 _ ?_
    show Steps p.tables e below (T44.setTop (mkF m 47 #[.val (.int p1), .unset, .unset, .unset] [(.ref w6), (.int (6 : Int32)), (.ref b2), (.ref b2)])) _
    refine st47 _ ?_
    show Steps p.tables e below (T47.setTop (mkF m 48 #[.val (.int p1), .unset, .unset, .unset] [(.ref b2)])) _
    refine XS.dup X47.here hx rfl (hb hby at_48) rfl rfl ?_
    show Steps p.tables e below (T47.setTop (mkF m 49 #[.val (.int p1), .unset, .unset, .unset] [(.ref b2), (.ref b2)])) _
    refine XS.bipush X47.here hx rfl (hb hby at_49) ?_
    show Steps p.tables e below (T47.setTop (mkF m 51 #[.val (.int p1), .unset, .unset, .unset] [(.int (7 : Int32)), (.ref b2), (.ref b2)])) _
    refine st51 _ ?_
    show Steps p.tables e below (T51.setTop (mkF m 54 #[.val (.int p1), .unset, .unset, .unset] [(.ref w7), (.int (7 : Int32)), (.ref b2), (.ref b2)])) _
    refine st54 _ ?_
    show Steps p.tables e below (T54.setTop (mkF m 55 #[.val (.int p1), .unset, .unset, .unset] [(.ref b2)])) _
    refine XS.astoreN X54.here hx rfl (hb hby at_55) rfl rfl (l' := #[.val (.int p1), .val (.ref b2), .unset, .unset]) rfl ?_
    show Steps p.tables e below (T54.setTop (mkF m 56 #[.val (.int p1), .val (.ref b2), .unset, .unset] [])) _
    refine XS.iloadN X54.here hx rfl (hb hby at_56) rfl ?_
    show Steps p.tables e below (T54.setTop (mkF m 57 #[.val (.int p1), .val (.ref b2), .unset, .unset] [(.int p1)])) _
    refine Jvm.Stand.ldcI X54 hx hown (mvT hZ (w_20 hw)) rfl (hb hby at_57) ?_
    show Steps p.tables e below (T54.setTop (mkF m 59 #[.val (.int p1), .val (.ref b2), .unset, .unset] [(.int (2147483647 : Int32)), (.int p1)])) _
    refine XS.iand X54.here hx rfl (hb hby at_59) rfl ?_
    show Steps p.tables e below (T54.setTop (mkF m 60 #[.val (.int p1), .val (.ref b2), .unset, .unset] [(.int (p1 &&& (2147483647 : Int32)))])) _
    refine XS.bipush X54.here hx rfl (hb hby at_60) ?_
    show Steps p.tables e below (T54.setTop (mkF m 62 #[.val (.int p1), .val (.ref b2), .unset, .unset] [(.int (8 : Int32)), (.int (p1 &&& (2147483647 : Int32)))])) _
    refine Jvm.RoadKit.iremM X54 hx rfl (hb hby at_62) rfl (by decide) ?_
    show Steps p.tables e below (T54.setTop (mkF m 63 #[.val (.int p1), .val (.ref b2), .unset, .unset] [(.int ((p1 &&& (2147483647 : Int32)) % (8 : Int32)))])) _
    rw [hi]
    show Steps p.tables e below (T54.setTop (mkF m 63 #[.val (.int p1), .val (.ref b2), .unset, .unset] [(.int (5 : Int32))])) _
    refine XS.istoreN X54.here hx rfl (hb hby at_63) rfl (l' := #[.val (.int p1), .val (.ref b2), .val (.int (5 : Int32)), .unset]) rfl ?_
    show Steps p.tables e below (T54.setTop (mkF m 64 #[.val (.int p1), .val (.ref b2), .val (.int (5 : Int32)), .unset] [])) _
    refine XS.iloadN X54.here hx rfl (hb hby at_64) rfl ?_
    show Steps p.tables e below (T54.setTop (mkF m 65 #[.val (.int p1), .val (.ref b2), .val (.int (5 : Int32)), .unset] [(.int (5 : Int32))])) _
    refine XS.iconst X54.here hx rfl (hb hby at_65) ?_
    show Steps p.tables e below (T54.setTop (mkF m 66 #[.val (.int p1), .val (.ref b2), .val (.int (5 : Int32)), .unset] [(.int (1 : Int32)), (.int (5 : Int32))])) _
    refine XS.icmpNo X54.here hx rfl (hb hby at_66) rfl (feq (by decide : ¬ ((5 : Int32) = (1 : Int32)))).1 ?_
    show Steps p.tables e below (T54.setTop (mkF m 69 #[.val (.int p1), .val (.ref b2), .val (.int (5 : Int32)), .unset] [])) _
    refine XS.iloadN X54.here hx rfl (hb hby at_69) rfl ?_
    show Steps p.tables e below (T54.setTop (mkF m 70 #[.val (.int p1), .val (.ref b2), .val (.int (5 : Int32)), .unset] [(.int (5 : Int32))])) _
    refine XS.iconst X54.here hx rfl (hb hby at_70) ?_
    show Steps p.tables e below (T54.setTop (mkF m 71 #[.val (.int p1), .val (.ref b2), .val (.int (5 : Int32)), .unset] [(.int (2 : Int32)), (.int (5 : Int32))])) _
    refine XS.icmpNo X54.here hx rfl (hb hby at_71) rfl (feq (by decide : ¬ ((5 : Int32) = (2 : Int32)))).1 ?_
    show Steps p.tables e below (T54.setTop (mkF m 74 #[.val (.int p1), .val (.ref b2), .val (.int (5 : Int32)), .unset] [])) _
    refine XS.iloadN X54.here hx rfl (hb hby at_74) rfl ?_
    show Steps p.tables e below (T54.setTop (mkF m 75 #[.val (.int p1), .val (.ref b2), .val (.int (5 : Int32)), .unset] [(.int (5 : Int32))])) _
    refine XS.iconst X54.here hx rfl (hb hby at_75) ?_
    show Steps p.tables e below (T54.setTop (mkF m 76 #[.val (.int p1), .val (.ref b2), .val (.int (5 : Int32)), .unset] [(.int (3 : Int32)), (.int (5 : Int32))])) _
    refine XS.icmpYes X54.here hx rfl (pc0 := 76) (pc' := 83) rfl (hb hby at_76) rfl (feq (by decide : ¬ ((5 : Int32) = (3 : Int32)))).2 (by decide) (by decide) ?_
    show Steps p.tables e below (T54.setTop (mkF m 83 #[.val (.int p1), .val (.ref b2), .val (.int (5 : Int32)), .unset] [])) _
    refine XS.iconst X54.here hx rfl (hb hby at_83) ?_
    show Steps p.tables e below (T54.setTop (mkF m 84 #[.val (.int p1), .val (.ref b2), .val (.int (5 : Int32)), .unset] [(.int (0 : Int32))])) _
    refine XS.istoreN X54.here hx rfl (hb hby at_84) rfl (l' := #[.val (.int p1), .val (.ref b2), .val (.int (5 : Int32)), .val (.int (0 : Int32))]) rfl ?_
    show Steps p.tables e below (T54.setTop (mkF m 85 #[.val (.int p1), .val (.ref b2), .val (.int (5 : Int32)), .val (.int (0 : Int32))] [])) _
    refine XS.aloadN X54.here hx rfl (hb hby at_85) rfl rfl ?_
    show Steps p.tables e below (T54.setTop (mkF m 86 #[.val (.int p1), .val (.ref b2), .val (.int (5 : Int32)), .val (.int (0 : Int32))] [(.ref b2)])) _
    refine XS.iloadN X54.here hx rfl (hb hby at_86) rfl ?_
    show Steps p.tables e below (T54.setTop (mkF m 87 #[.val (.int p1), .val (.ref b2), .val (.int (5 : Int32)), .val (.int (0 : Int32))] [(.int (5 : Int32)), (.ref b2)])) _
    refine X54.aaload hx (j := (5 : Int32)) (v := (.ref w5)) (by rw [e54]; exact Ar87.1) (State.isArrayOf_alike hZ.alike Ar87.2.1) rfl Ar87.2.2 hin87 f39 (g := (mkF m 87 #[.val (.int p1), .val (.ref b2), .val (.int (5 : Int32)), .val (.int (0 : Int32))] [(.int (5 : Int32)), (.ref b2)])) rfl rfl (hb hby at_87) _ ?_
    show Steps p.tables e below (T54.setTop (mkF m 88 #[.val (.int p1), .val (.ref b2), .val (.int (5 : Int32)), .val (.int (0 : Int32))] [(.ref w5)])) _
    refine st88.trans ?_
    show Steps p.tables e below (T88.setTop (mkF m 91 #[.val (.int p1), .val (.ref b2), .val (.int (5 : Int32)), .val (.int (0 : Int32))] [(.int (0 : Int32))])) _
    refine XS.iloadN X88.here hx rfl (hb hby at_91) rfl ?_
    show Steps p.tables e below (T88.setTop (mkF m 92 #[.val (.int p1), .val (.ref b2), .val (.int (5 : Int32)), .val (.int (0 : Int32))] [(.int (0 : Int32)), (.int (0 : Int32))])) _
    refine XS.icmpNo X88.here hx rfl (hb hby at_92) rfl (teq (by decide : (0 : Int32) = (0 : Int32))).2 ?_
    show Steps p.tables e below (T88.setTop (mkF m 95 #[.val (.int p1), .val (.ref b2), .val (.int (5 : Int32)), .val (.int (0 : Int32))] [])) _
    refine XS.iconst X88.here hx rfl (hb hby at_95) ?_
    show Steps p.tables e below (T88.setTop (mkF m 96 #[.val (.int p1), .val (.ref b2), .val (.int (5 : Int32)), .val (.int (0 : Int32))] [(.int (1 : Int32))])) _
    refine XS.goto X88.here hx rfl (pc0 := 96) (pc' := 100) rfl (hb hby at_96) (by decide) (by decide) ?_
    show Steps p.tables e below (T88.setTop (mkF m 100 #[.val (.int p1), .val (.ref b2), .val (.int (5 : Int32)), .val (.int (0 : Int32))] [(.int (1 : Int32))])) _
    exact retN X88 hx (t := .boolean) Bd.returns (by simp) (hb hby at_100) hr
  · show Q_law Z p1 w0 w1 w2 w3 w4 w5 w6 w7 h0 n0 _ T88.heap _
    exact ⟨rfl, N88, f40⟩
theorem ef_rm_law_6 (m : MethodId) (x0 : Int32) : entryFrame m #[(.int x0)] maxLocals = mkF m 0 #[.val (.int x0), .unset, .unset, .unset] [] := by first | (simp [entryFrame, mkF, argsToLocals, Value.category, maxLocals]; done) | rfl
set_option maxRecDepth 65536 in
set_option maxHeartbeats 40000000 in
theorem rm_law_6 (l : Launch) (Z : State) (a0 : Array Value) (hw : ∀ d ∈ tables_1, d.before a0 Z = true) (ws : List Jvm.Cond) (p1 : Int32) (w0 : Addr) (w1 : Addr) (w2 : Addr) (w3 : Addr) (w4 : Addr) (w5 : Addr) (w6 : Addr) (w7 : Addr) (h0 : Heap) (n0 : Nat) (O0 : Old Z n0 h0) (S0 : Sta Z Z.heap "com/example/lotista/lotista/retorno/EventField$Form" "NUMBER" "Lcom/example/lotista/lotista/retorno/EventField$Form;" (.ref w0)) (S1 : Sta Z Z.heap "com/example/lotista/lotista/retorno/EventField$Form" "CODE" "Lcom/example/lotista/lotista/retorno/EventField$Form;" (.ref w1)) (S2 : Sta Z Z.heap "com/example/lotista/lotista/retorno/EventField$Form" "ALPHANUMERIC_CODE" "Lcom/example/lotista/lotista/retorno/EventField$Form;" (.ref w2)) (S3 : Sta Z Z.heap "com/example/lotista/lotista/retorno/EventField$Form" "TEXT" "Lcom/example/lotista/lotista/retorno/EventField$Form;" (.ref w3)) (S4 : Sta Z Z.heap "com/example/lotista/lotista/retorno/EventField$Form" "MONEY" "Lcom/example/lotista/lotista/retorno/EventField$Form;" (.ref w4)) (S5 : Sta Z Z.heap "com/example/lotista/lotista/retorno/EventField$Form" "DATE" "Lcom/example/lotista/lotista/retorno/EventField$Form;" (.ref w5)) (S6 : Sta Z Z.heap "com/example/lotista/lotista/retorno/EventField$Form" "GIVEN_DATE" "Lcom/example/lotista/lotista/retorno/EventField$Form;" (.ref w6)) (S7 : Sta Z Z.heap "com/example/lotista/lotista/retorno/EventField$Form" "CODES" "Lcom/example/lotista/lotista/retorno/EventField$Form;" (.ref w7)) (E0 : Exa Z Z.heap w0 "com/example/lotista/lotista/retorno/EventField$Form") (E1 : Exa Z Z.heap w1 "com/example/lotista/lotista/retorno/EventField$Form") (E2 : Exa Z Z.heap w2 "com/example/lotista/lotista/retorno/EventField$Form") (E3 : Exa Z Z.heap w3 "com/example/lotista/lotista/retorno/EventField$Form") (E4 : Exa Z Z.heap w4 "com/example/lotista/lotista/retorno/EventField$Form") (E5 : Exa Z Z.heap w5 "com/example/lotista/lotista/retorno/EventField$Form") (E6 : Exa Z Z.heap w6 "com/example/lotista/lotista/retorno/EventField$Form") (E7 : Exa Z Z.heap w7 "com/example/lotista/lotista/retorno/EventField$Form") (n0_1 : w0 ≠ w1) (n0_2 : w0 ≠ w2) (n0_3 : w0 ≠ w3) (n2_1 : w2 ≠ w1) (n3_1 : w3 ≠ w1) (n3_2 : w3 ≠ w2) (n4_1 : w4 ≠ w1) (n4_2 : w4 ≠ w2) (n4_3 : w4 ≠ w3) (n5_1 : w5 ≠ w1) (n5_2 : w5 ≠ w2) (n5_3 : w5 ≠ w3) (n6_1 : w6 ≠ w1) (n6_2 : w6 ≠ w2) (n6_3 : w6 ≠ w3) (n7_1 : w7 ≠ w1) (n7_2 : w7 ≠ w2) (n7_3 : w7 ≠ w3) (hi : ((p1 &&& (2147483647 : Int32)) % (8 : Int32)) = (6 : Int32)) :
    MetFree l x (head1 (Jvm.Cond.code x code maxLocals ret :: ws) room_1) (fun as' U => as' = #[(.int p1)] ∧ Z.Warmed39 U.vm ∧ U.heap = h0) (fun _ _ _ _ _ => True) (fun _ U o U' => ∃ v L, o = .returned v ∧ Q_law Z p1 w0 w1 w2 w3 w4 w5 w6 w7 h0 n0 v U'.heap L ∧ FrameEnd U o U' L room_1.cells room_1.slots) := by
  refine MetFree.of_bodySF (plainFor_of_name pn_com_example_lotista_lotista_retorno_FormIsTextPinLaw) hisR ?_
  intro p e s m args below meth c s₁ Bd hml0 hP hK
  obtain ⟨rfl, hZ, hh⟩ := hP
  have hx := Bd.exec
  have hby := Bd.bytes
  have hml : c.maxLocals = 4 := hml0
  have hown : s.vm.findClass "com/example/lotista/lotista/retorno/FormIsTextPinLaw" = some m.cls := findClass_of_methodNamed Bd.named
  have hnm := (name_of_methodNamed Bd.named Bd.method).1
  have X0 : Stand p l e room_1 s m #[(.int p1)] below meth c s₁ [] 0 0 := Stand.of_body Bd
  have e0 : s₁.heap = h0 := by rw [← hh, Bd.state]; rfl
  have N0 := Fr.nil n0
  have K0 : Keep h0 h0 [] := Keep.refl _ _
  have pre0 : ∀ t, Steps p.tables e below (s₁.setTop (mkF m 0 #[.val (.int p1), .unset, .unset, .unset] [])) t → Steps p.tables e below (s₁.setTop (entryFrame m #[(.int p1)] maxLocals)) t := fun t k => castTop (ef_rm_law_6 m p1) k
  obtain ⟨T2, h2, kc2, X2, e2, Ex2, Aa2, Bb2, Ov2, st2⟩ := newRE X0 hx hZ hown (w_0 hw) (w_1 hw) e0 (g := (mkF m 2 #[.val (.int p1), .unset, .unset, .unset] [(.int (8 : Int32))])) rfl (hb hby at_2) rfl (by decide) (cap := 8) (by decide) (by decide) (by decide) (by decide) (ad := "[Lcom/example/lotista/lotista/retorno/EventField$Form;") (by first | rfl | decide +kernel)
  obtain ⟨b2, gg2⟩ : ∃ z, z = h0.size := ⟨_, rfl⟩
  rw [← gg2] at Aa2 Bb2 st2
  have f1 : Keep h0 h2 [] := K0.ext Ex2
  have f2 : Old Z n0 h2 := O0.ext Ex2
  have f3 : Arv Z h2 b2 kc2 (.object "com/example/lotista/lotista/retorno/EventField$Form") (8 : Int32) [.null, .null, .null, .null, .null, .null, .null, .null] .null := (Arv.new Aa2 (by decide)).pad (pad_rep [] .null 8)
  obtain ⟨T7, X7, e7, st7⟩ := getS2 X2 hx hZ hown (host := "") (Or.inl (w_2 hw)) Via.refl e2 (S0.ext f2.2) (g := (mkF m 7 #[.val (.int p1), .unset, .unset, .unset] [(.int (0 : Int32)), (.ref b2), (.ref b2)])) rfl (hb hby at_7)
  obtain ⟨cl10, Ar10, qq10, Sz10, NN10, HH10, GG10⟩ := (id f3)
  have hin10 : ¬ ((0 : Int32) < 0 ∨ cl10.slots.size ≤ ((0 : Int32)).toNatClampNeg) := inb_of Sz10 ⟨by decide, by decide⟩
  obtain ⟨T10, h10, X10, e10, Wr10, st10⟩ := stR X7 hx hZ e7 Ar10 (j := (0 : Int32)) hin10 rfl (Sto.ofV Ar10 qq10 Ov2 (Ins.self (E0.ext f2.2))) (g := (mkF m 10 #[.val (.int p1), .unset, .unset, .unset] [(.ref w0), (.int (0 : Int32)), (.ref b2), (.ref b2)])) rfl rfl (hb hby at_10)
  have f5 : h0.size ≤ b2 := Nat.le_trans K0.1 (Nat.le_of_eq gg2.symm)
  have f6 : n0 ≤ b2 := Nat.le_trans (own_old_le O0) (Nat.le_of_eq gg2.symm)
  have f7 : Keep h0 h10 [] := f1.wr Wr10 (Or.inr f5)
  have f8 : Old Z n0 h10 := f2.wr Wr10 f6
  have f9 : Arv Z h10 b2 kc2 (.object "com/example/lotista/lotista/retorno/EventField$Form") (8 : Int32) [(.ref w0), .null, .null, .null, .null, .null, .null, .null] .null := Arv.set Ar10 qq10 Sz10 NN10 HH10 GG10 rfl Wr10 0 rfl (Nat.le_of_ble_eq_true rfl)
  have N10 := Fr.snoc X10 N0 f6
  obtain ⟨T13, X13, e13, st13⟩ := getS2 X10 hx hZ hown (host := "") (Or.inl (w_6 hw)) Via.refl e10 (S1.ext f8.2) (g := (mkF m 13 #[.val (.int p1), .unset, .unset, .unset] [(.int (1 : Int32)), (.ref b2), (.ref b2)])) rfl (hb hby at_13)
  obtain ⟨cl16, Ar16, qq16, Sz16, NN16, HH16, GG16⟩ := (id f9)
  have hin16 : ¬ ((1 : Int32) < 0 ∨ cl16.slots.size ≤ ((1 : Int32)).toNatClampNeg) := inb_of Sz16 ⟨by decide, by decide⟩
  obtain ⟨T16, h16, X16, e16, Wr16, st16⟩ := stR X13 hx hZ e13 Ar16 (j := (1 : Int32)) hin16 rfl (Sto.ofV Ar16 qq16 Ov2 (Ins.self (E1.ext f8.2))) (g := (mkF m 16 #[.val (.int p1), .unset, .unset, .unset] [(.ref w1), (.int (1 : Int32)), (.ref b2), (.ref b2)])) rfl rfl (hb hby at_16)
  have f11 : Keep h0 h16 [] := f7.wr Wr16 (Or.inr f5)
  have f12 : Old Z n0 h16 := f8.wr Wr16 f6
  have f13 : Arv Z h16 b2 kc2 (.object "com/example/lotista/lotista/retorno/EventField$Form") (8 : Int32) [(.ref w0), (.ref w1), .null, .null, .null, .null, .null, .null] .null := Arv.set Ar16 qq16 Sz16 NN16 HH16 GG16 rfl Wr16 1 rfl (Nat.le_of_ble_eq_true rfl)
  have N16 := Fr.snoc X16 N10 f6
  obtain ⟨T19, X19, e19, st19⟩ := getS2 X16 hx hZ hown (host := "") (Or.inl (w_8 hw)) Via.refl e16 (S2.ext f12.2) (g := (mkF m 19 #[.val (.int p1), .unset, .unset, .unset] [(.int (2 : Int32)), (.ref b2), (.ref b2)])) rfl (hb hby at_19)
  obtain ⟨cl22, Ar22, qq22, Sz22, NN22, HH22, GG22⟩ := (id f13)
  have hin22 : ¬ ((2 : Int32) < 0 ∨ cl22.slots.size ≤ ((2 : Int32)).toNatClampNeg) := inb_of Sz22 ⟨by decide, by decide⟩
  obtain ⟨T22, h22, X22, e22, Wr22, st22⟩ := stR X19 hx hZ e19 Ar22 (j := (2 : Int32)) hin22 rfl (Sto.ofV Ar22 qq22 Ov2 (Ins.self (E2.ext f12.2))) (g := (mkF m 22 #[.val (.int p1), .unset, .unset, .unset] [(.ref w2), (.int (2 : Int32)), (.ref b2), (.ref b2)])) rfl rfl (hb hby at_22)
  have f15 : Keep h0 h22 [] := f11.wr Wr22 (Or.inr f5)
  have f16 : Old Z n0 h22 := f12.wr Wr22 f6
  have f17 : Arv Z h22 b2 kc2 (.object "com/example/lotista/lotista/retorno/EventField$Form") (8 : Int32) [(.ref w0), (.ref w1), (.ref w2), .null, .null, .null, .null, .null] .null := Arv.set Ar22 qq22 Sz22 NN22 HH22 GG22 rfl Wr22 2 rfl (Nat.le_of_ble_eq_true rfl)
  have N22 := Fr.snoc X22 N16 f6
  obtain ⟨T25, X25, e25, st25⟩ := getS2 X22 hx hZ hown (host := "") (Or.inl (w_10 hw)) Via.refl e22 (S3.ext f16.2) (g := (mkF m 25 #[.val (.int p1), .unset, .unset, .unset] [(.int (3 : Int32)), (.ref b2), (.ref b2)])) rfl (hb hby at_25)
  obtain ⟨cl28, Ar28, qq28, Sz28, NN28, HH28, GG28⟩ := (id f17)
  have hin28 : ¬ ((3 : Int32) < 0 ∨ cl28.slots.size ≤ ((3 : Int32)).toNatClampNeg) := inb_of Sz28 ⟨by decide, by decide⟩
  obtain ⟨T28, h28, X28, e28, Wr28, st28⟩ := stR X25 hx hZ e25 Ar28 (j := (3 : Int32)) hin28 rfl (Sto.ofV Ar28 qq28 Ov2 (Ins.self (E3.ext f16.2))) (g := (mkF m 28 #[.val (.int p1), .unset, .unset, .unset] [(.ref w3), (.int (3 : Int32)), (.ref b2), (.ref b2)])) rfl rfl (hb hby at_28)
  have f19 : Keep h0 h28 [] := f15.wr Wr28 (Or.inr f5)
  have f20 : Old Z n0 h28 := f16.wr Wr28 f6
  have f21 : Arv Z h28 b2 kc2 (.object "com/example/lotista/lotista/retorno/EventField$Form") (8 : Int32) [(.ref w0), (.ref w1), (.ref w2), (.ref w3), .null, .null, .null, .null] .null := Arv.set Ar28 qq28 Sz28 NN28 HH28 GG28 rfl Wr28 3 rfl (Nat.le_of_ble_eq_true rfl)
  have N28 := Fr.snoc X28 N22 f6
  obtain ⟨T31, X31, e31, st31⟩ := getS2 X28 hx hZ hown (host := "") (Or.inl (w_12 hw)) Via.refl e28 (S4.ext f20.2) (g := (mkF m 31 #[.val (.int p1), .unset, .unset, .unset] [(.int (4 : Int32)), (.ref b2), (.ref b2)])) rfl (hb hby at_31)
  obtain ⟨cl34, Ar34, qq34, Sz34, NN34, HH34, GG34⟩ := (id f21)
  have hin34 : ¬ ((4 : Int32) < 0 ∨ cl34.slots.size ≤ ((4 : Int32)).toNatClampNeg) := inb_of Sz34 ⟨by decide, by decide⟩
  obtain ⟨T34, h34, X34, e34, Wr34, st34⟩ := stR X31 hx hZ e31 Ar34 (j := (4 : Int32)) hin34 rfl (Sto.ofV Ar34 qq34 Ov2 (Ins.self (E4.ext f20.2))) (g := (mkF m 34 #[.val (.int p1), .unset, .unset, .unset] [(.ref w4), (.int (4 : Int32)), (.ref b2), (.ref b2)])) rfl rfl (hb hby at_34)
  have f23 : Keep h0 h34 [] := f19.wr Wr34 (Or.inr f5)
  have f24 : Old Z n0 h34 := f20.wr Wr34 f6
  have f25 : Arv Z h34 b2 kc2 (.object "com/example/lotista/lotista/retorno/EventField$Form") (8 : Int32) [(.ref w0), (.ref w1), (.ref w2), (.ref w3), (.ref w4), .null, .null, .null] .null := Arv.set Ar34 qq34 Sz34 NN34 HH34 GG34 rfl Wr34 4 rfl (Nat.le_of_ble_eq_true rfl)
  have N34 := Fr.snoc X34 N28 f6
  obtain ⟨T37, X37, e37, st37⟩ := getS2 X34 hx hZ hown (host := "") (Or.inl (w_14 hw)) Via.refl e34 (S5.ext f24.2) (g := (mkF m 37 #[.val (.int p1), .unset, .unset, .unset] [(.int (5 : Int32)), (.ref b2), (.ref b2)])) rfl (hb hby at_37)
  obtain ⟨cl40, Ar40, qq40, Sz40, NN40, HH40, GG40⟩ := (id f25)
  have hin40 : ¬ ((5 : Int32) < 0 ∨ cl40.slots.size ≤ ((5 : Int32)).toNatClampNeg) := inb_of Sz40 ⟨by decide, by decide⟩
  obtain ⟨T40, h40, X40, e40, Wr40, st40⟩ := stR X37 hx hZ e37 Ar40 (j := (5 : Int32)) hin40 rfl (Sto.ofV Ar40 qq40 Ov2 (Ins.self (E5.ext f24.2))) (g := (mkF m 40 #[.val (.int p1), .unset, .unset, .unset] [(.ref w5), (.int (5 : Int32)), (.ref b2), (.ref b2)])) rfl rfl (hb hby at_40)
  have f27 : Keep h0 h40 [] := f23.wr Wr40 (Or.inr f5)
  have f28 : Old Z n0 h40 := f24.wr Wr40 f6
  have f29 : Arv Z h40 b2 kc2 (.object "com/example/lotista/lotista/retorno/EventField$Form") (8 : Int32) [(.ref w0), (.ref w1), (.ref w2), (.ref w3), (.ref w4), (.ref w5), .null, .null] .null := Arv.set Ar40 qq40 Sz40 NN40 HH40 GG40 rfl Wr40 5 rfl (Nat.le_of_ble_eq_true rfl)
  have N40 := Fr.snoc X40 N34 f6
  obtain ⟨T44, X44, e44, st44⟩ := getS2 X40 hx hZ hown (host := "") (Or.inl (w_16 hw)) Via.refl e40 (S6.ext f28.2) (g := (mkF m 44 #[.val (.int p1), .unset, .unset, .unset] [(.int (6 : Int32)), (.ref b2), (.ref b2)])) rfl (hb hby at_44)
  obtain ⟨cl47, Ar47, qq47, Sz47, NN47, HH47, GG47⟩ := (id f29)
  have hin47 : ¬ ((6 : Int32) < 0 ∨ cl47.slots.size ≤ ((6 : Int32)).toNatClampNeg) := inb_of Sz47 ⟨by decide, by decide⟩
  obtain ⟨T47, h47, X47, e47, Wr47, st47⟩ := stR X44 hx hZ e44 Ar47 (j := (6 : Int32)) hin47 rfl (Sto.ofV Ar47 qq47 Ov2 (Ins.self (E6.ext f28.2))) (g := (mkF m 47 #[.val (.int p1), .unset, .unset, .unset] [(.ref w6), (.int (6 : Int32)), (.ref b2), (.ref b2)])) rfl rfl (hb hby at_47)
  have f31 : Keep h0 h47 [] := f27.wr Wr47 (Or.inr f5)
  have f32 : Old Z n0 h47 := f28.wr Wr47 f6
  have f33 : Arv Z h47 b2 kc2 (.object "com/example/lotista/lotista/retorno/EventField$Form") (8 : Int32) [(.ref w0), (.ref w1), (.ref w2), (.ref w3), (.ref w4), (.ref w5), (.ref w6), .null] .null := Arv.set Ar47 qq47 Sz47 NN47 HH47 GG47 rfl Wr47 6 rfl (Nat.le_of_ble_eq_true rfl)
  have N47 := Fr.snoc X47 N40 f6
  obtain ⟨T51, X51, e51, st51⟩ := getS2 X47 hx hZ hown (host := "") (Or.inl (w_18 hw)) Via.refl e47 (S7.ext f32.2) (g := (mkF m 51 #[.val (.int p1), .unset, .unset, .unset] [(.int (7 : Int32)), (.ref b2), (.ref b2)])) rfl (hb hby at_51)
  obtain ⟨cl54, Ar54, qq54, Sz54, NN54, HH54, GG54⟩ := (id f33)
  have hin54 : ¬ ((7 : Int32) < 0 ∨ cl54.slots.size ≤ ((7 : Int32)).toNatClampNeg) := inb_of Sz54 ⟨by decide, by decide⟩
  obtain ⟨T54, h54, X54, e54, Wr54, st54⟩ := stR X51 hx hZ e51 Ar54 (j := (7 : Int32)) hin54 rfl (Sto.ofV Ar54 qq54 Ov2 (Ins.self (E7.ext f32.2))) (g := (mkF m 54 #[.val (.int p1), .unset, .unset, .unset] [(.ref w7), (.int (7 : Int32)), (.ref b2), (.ref b2)])) rfl rfl (hb hby at_54)
  have f35 : Keep h0 h54 [] := f31.wr Wr54 (Or.inr f5)
  have f36 : Old Z n0 h54 := f32.wr Wr54 f6
  have f37 : Arv Z h54 b2 kc2 (.object "com/example/lotista/lotista/retorno/EventField$Form") (8 : Int32) [(.ref w0), (.ref w1), (.ref w2), (.ref w3), (.ref w4), (.ref w5), (.ref w6), (.ref w7)] .null := Arv.set Ar54 qq54 Sz54 NN54 HH54 GG54 rfl Wr54 7 rfl (Nat.le_of_ble_eq_true rfl)
  have N54 := Fr.snoc X54 N47 f6
  obtain ⟨cl87, Ar87, qq87, Sz87, NN87, HH87, GG87⟩ := (id f37)
  have hin87 : ¬ ((6 : Int32) < 0 ∨ cl87.slots.size ≤ ((6 : Int32)).toNatClampNeg) := inb_of Sz87 ⟨by decide, by decide⟩
  have f39 : cl87.slots[((6 : Int32)).toNatClampNeg]? = some (.ref w6) := HH87.at hin87 rfl
  obtain ⟨cq88, kq88, q88a, q88b, q88c⟩ := isOf hZ e54 (E6.ext f36.2)
  obtain ⟨_, _, ⟨T88, Lo88, kk88, nn88⟩, -, X88, ⟨Lc88, hQ88, ll88, yy88, zz88⟩, st88⟩ := X54.virtualBack hx (y := (⟨"com/example/lotista/lotista/retorno/EventField$Form", "isText", "()Z"⟩ : MethodName)) (z := (⟨"com/example/lotista/lotista/retorno/EventField$Form", "isText", "()Z"⟩ : MethodName)) hown (mvT hZ (w_21 hw)) (mvT hZ (w_22 hw)) (notFace_of_selects (args := #[]) (mvT hZ (w_24 hw))) (mvT hZ (w_24 hw)) (mvT hZ (w_23 hw)) (by decide) (backOf (W := 0) (rm_tN l Z a0 hw [] w6 w1 w2 w3 h54 n0 f36 S1 S2 S3 n6_1 n6_2 n6_3) hZ (w_25 hw) (w_3 hw) (by decide) (by decide)) q88a q88c (g := (mkF m 88 #[.val (.int p1), .val (.ref b2), .val (.int (6 : Int32)), .val (.int (0 : Int32))] [(.ref w6)])) rfl (by rw [hml]; rfl) (Steps.refl _) (argsL := []) (rest := []) (lenOf pd_0 rfl) rfl (by show 2 * 0 + _ ≤ _; exact Nat.le_of_eq rfl) (hb hby at_88) (fun _ _ => ⟨rfl, e54, (by decide : 1 + 0 ≤ _), (by decide : 8 + 0 ≤ _)⟩)
  dsimp only [Pt.U, Pt.locs, Pt.cells, Pt.slots] at X88 ll88 yy88 zz88 st88 hQ88
  subst ll88 yy88 zz88
  obtain ⟨rfl, N88q, K88q⟩ := hQ88
  have N88 := Fr.app N54 N88q
  have f40 : Keep h0 T88.heap [] := f35.trans K88q all0
  have f41 : Old Z n0 T88.heap := f36.keep K88q all0
  obtain ⟨fs, hr, hrun, hended, hW, hsame⟩ := X88.leave (v := some (.int (1 : Int32))) (fun h => by rw [Bd.returns] at h; cases h)
  refine ⟨_, _, pre0 _ ?_, hrun, hended, _, _, rfl, ?_, ⟨_, rfl⟩, hW, hsame.mono (by decide) (by decide)⟩
  · show Steps p.tables e below (s₁.setTop (mkF m 0 #[.val (.int p1), .unset, .unset, .unset] [])) _
    refine XS.bipush X0.here hx rfl (hb hby at_0) ?_
    show Steps p.tables e below (s₁.setTop (mkF m 2 #[.val (.int p1), .unset, .unset, .unset] [(.int (8 : Int32))])) _
    refine st2 _ ?_
    show Steps p.tables e below (T2.setTop (mkF m 5 #[.val (.int p1), .unset, .unset, .unset] [(.ref b2)])) _
    refine XS.dup X2.here hx rfl (hb hby at_5) rfl rfl ?_
    show Steps p.tables e below (T2.setTop (mkF m 6 #[.val (.int p1), .unset, .unset, .unset] [(.ref b2), (.ref b2)])) _
    refine XS.iconst X2.here hx rfl (hb hby at_6) ?_
    show Steps p.tables e below (T2.setTop (mkF m 7 #[.val (.int p1), .unset, .unset, .unset] [(.int (0 : Int32)), (.ref b2), (.ref b2)])) _
    refine st7 _ ?_
    show Steps p.tables e below (T7.setTop (mkF m 10 #[.val (.int p1), .unset, .unset, .unset] [(.ref w0), (.int (0 : Int32)), (.ref b2), (.ref b2)])) _
    refine st10 _ ?_
    show Steps p.tables e below (T10.setTop (mkF m 11 #[.val (.int p1), .unset, .unset, .unset] [(.ref b2)])) _
    refine XS.dup X10.here hx rfl (hb hby at_11) rfl rfl ?_
    show Steps p.tables e below (T10.setTop (mkF m 12 #[.val (.int p1), .unset, .unset, .unset] [(.ref b2), (.ref b2)])) _
    refine XS.iconst X10.here hx rfl (hb hby at_12) ?_
    show Steps p.tables e below (T10.setTop (mkF m 13 #[.val (.int p1), .unset, .unset, .unset] [(.int (1 : Int32)), (.ref b2), (.ref b2)])) _
    refine st13 _ ?_
    show Steps p.tables e below (T13.setTop (mkF m 16 #[.val (.int p1), .unset, .unset, .unset] [(.ref w1), (.int (1 : Int32)), (.ref b2), (.ref b2)])) _
    refine st16 _ ?_
    show Steps p.tables e below (T16.setTop (mkF m 17 #[.val (.int p1), .unset, .unset, .unset] [(.ref b2)])) _
    refine XS.dup X16.here hx rfl (hb hby at_17) rfl rfl ?_
    show Steps p.tables e below (T16.setTop (mkF m 18 #[.val (.int p1), .unset, .unset, .unset] [(.ref b2), (.ref b2)])) _
    refine XS.iconst X16.here hx rfl (hb hby at_18) ?_
    show Steps p.tables e below (T16.setTop (mkF m 19 #[.val (.int p1), .unset, .unset, .unset] [(.int (2 : Int32)), (.ref b2), (.ref b2)])) _
    refine st19 _ ?_
    show Steps p.tables e below (T19.setTop (mkF m 22 #[.val (.int p1), .unset, .unset, .unset] [(.ref w2), (.int (2 : Int32)), (.ref b2), (.ref b2)])) _
    refine st22 _ ?_
    show Steps p.tables e below (T22.setTop (mkF m 23 #[.val (.int p1), .unset, .unset, .unset] [(.ref b2)])) _
    refine XS.dup X22.here hx rfl (hb hby at_23) rfl rfl ?_
    show Steps p.tables e below (T22.setTop (mkF m 24 #[.val (.int p1), .unset, .unset, .unset] [(.ref b2), (.ref b2)])) _
    refine XS.iconst X22.here hx rfl (hb hby at_24) ?_
    show Steps p.tables e below (T22.setTop (mkF m 25 #[.val (.int p1), .unset, .unset, .unset] [(.int (3 : Int32)), (.ref b2), (.ref b2)])) _
    refine st25 _ ?_
    show Steps p.tables e below (T25.setTop (mkF m 28 #[.val (.int p1), .unset, .unset, .unset] [(.ref w3), (.int (3 : Int32)), (.ref b2), (.ref b2)])) _
    refine st28 _ ?_
    show Steps p.tables e below (T28.setTop (mkF m 29 #[.val (.int p1), .unset, .unset, .unset] [(.ref b2)])) _
    refine XS.dup X28.here hx rfl (hb hby at_29) rfl rfl ?_
    show Steps p.tables e below (T28.setTop (mkF m 30 #[.val (.int p1), .unset, .unset, .unset] [(.ref b2), (.ref b2)])) _
    refine XS.iconst X28.here hx rfl (hb hby at_30) ?_
    show Steps p.tables e below (T28.setTop (mkF m 31 #[.val (.int p1), .unset, .unset, .unset] [(.int (4 : Int32)), (.ref b2), (.ref b2)])) _
    refine st31 _ ?_
    show Steps p.tables e below (T31.setTop (mkF m 34 #[.val (.int p1), .unset, .unset, .unset] [(.ref w4), (.int (4 : Int32)), (.ref b2), (.ref b2)])) _
    refine st34 _ ?_
    show Steps p.tables e below (T34.setTop (mkF m 35 #[.val (.int p1), .unset, .unset, .unset] [(.ref b2)])) _
    refine XS.dup X34.here hx rfl (hb hby at_35) rfl rfl ?_
    show Steps p.tables e below (T34.setTop (mkF m 36 #[.val (.int p1), .unset, .unset, .unset] [(.ref b2), (.ref b2)])) _
    refine XS.iconst X34.here hx rfl (hb hby at_36) ?_
    show Steps p.tables e below (T34.setTop (mkF m 37 #[.val (.int p1), .unset, .unset, .unset] [(.int (5 : Int32)), (.ref b2), (.ref b2)])) _
    refine st37 _ ?_
    show Steps p.tables e below (T37.setTop (mkF m 40 #[.val (.int p1), .unset, .unset, .unset] [(.ref w5), (.int (5 : Int32)), (.ref b2), (.ref b2)])) _
    refine st40 _ ?_
    show Steps p.tables e below (T40.setTop (mkF m 41 #[.val (.int p1), .unset, .unset, .unset] [(.ref b2)])) _
    refine XS.dup X40.here hx rfl (hb hby at_41) rfl rfl ?_
    show Steps p.tables e below (T40.setTop (mkF m 42 #[.val (.int p1), .unset, .unset, .unset] [(.ref b2), (.ref b2)])) _
    refine XS.bipush X40.here hx rfl (hb hby at_42) ?_
    show Steps p.tables e below (T40.setTop (mkF m 44 #[.val (.int p1), .unset, .unset, .unset] [(.int (6 : Int32)), (.ref b2), (.ref b2)])) _
    refine st44 _ ?_
    show Steps p.tables e below (T44.setTop (mkF m 47 #[.val (.int p1), .unset, .unset, .unset] [(.ref w6), (.int (6 : Int32)), (.ref b2), (.ref b2)])) _
    refine st47 _ ?_
    show Steps p.tables e below (T47.setTop (mkF m 48 #[.val (.int p1), .unset, .unset, .unset] [(.ref b2)])) _
    refine XS.dup X47.here hx rfl (hb hby at_48) rfl rfl ?_
    show Steps p.tables e below (T47.setTop (mkF m 49 #[.val (.int p1), .unset, .unset, .unset] [(.ref b2), (.ref b2)])) _
    refine XS.bipush X47.here hx rfl (hb hby at_49) ?_
    show Steps p.tables e below (T47.setTop (mkF m 51 #[.val (.int p1), .unset, .unset, .unset] [(.int (7 : Int32)), (.ref b2), (.ref b2)])) _
    refine st51 _ ?_
    show Steps p.tables e below (T51.setTop (mkF m 54 #[.val (.int p1), .unset, .unset, .unset] [(.ref w7), (.int (7 : Int32)), (.ref b2), (.ref b2)])) _
    refine st54 _ ?_
    show Steps p.tables e below (T54.setTop (mkF m 55 #[.val (.int p1), .unset, .unset, .unset] [(.ref b2)])) _
    refine XS.astoreN X54.here hx rfl (hb hby at_55) rfl rfl (l' := #[.val (.int p1), .val (.ref b2), .unset, .unset]) rfl ?_
    show Steps p.tables e below (T54.setTop (mkF m 56 #[.val (.int p1), .val (.ref b2), .unset, .unset] [])) _
    refine XS.iloadN X54.here hx rfl (hb hby at_56) rfl ?_
    show Steps p.tables e below (T54.setTop (mkF m 57 #[.val (.int p1), .val (.ref b2), .unset, .unset] [(.int p1)])) _
    refine Jvm.Stand.ldcI X54 hx hown (mvT hZ (w_20 hw)) rfl (hb hby at_57) ?_
    show Steps p.tables e below (T54.setTop (mkF m 59 #[.val (.int p1), .val (.ref b2), .unset, .unset] [(.int (2147483647 : Int32)), (.int p1)])) _
    refine XS.iand X54.here hx rfl (hb hby at_59) rfl ?_
    show Steps p.tables e below (T54.setTop (mkF m 60 #[.val (.int p1), .val (.ref b2), .unset, .unset] [(.int (p1 &&& (2147483647 : Int32)))])) _
    refine XS.bipush X54.here hx rfl (hb hby at_60) ?_
    show Steps p.tables e below (T54.setTop (mkF m 62 #[.val (.int p1), .val (.ref b2), .unset, .unset] [(.int (8 : Int32)), (.int (p1 &&& (2147483647 : Int32)))])) _
    refine Jvm.RoadKit.iremM X54 hx rfl (hb hby at_62) rfl (by decide) ?_
    show Steps p.tables e below (T54.setTop (mkF m 63 #[.val (.int p1), .val (.ref b2), .unset, .unset] [(.int ((p1 &&& (2147483647 : Int32)) % (8 : Int32)))])) _
    rw [hi]
    show Steps p.tables e below (T54.setTop (mkF m 63 #[.val (.int p1), .val (.ref b2), .unset, .unset] [(.int (6 : Int32))])) _
    refine XS.istoreN X54.here hx rfl (hb hby at_63) rfl (l' := #[.val (.int p1), .val (.ref b2), .val (.int (6 : Int32)), .unset]) rfl ?_
    show Steps p.tables e below (T54.setTop (mkF m 64 #[.val (.int p1), .val (.ref b2), .val (.int (6 : Int32)), .unset] [])) _
    refine XS.iloadN X54.here hx rfl (hb hby at_64) rfl ?_
    show Steps p.tables e below (T54.setTop (mkF m 65 #[.val (.int p1), .val (.ref b2), .val (.int (6 : Int32)), .unset] [(.int (6 : Int32))])) _
    refine XS.iconst X54.here hx rfl (hb hby at_65) ?_
    show Steps p.tables e below (T54.setTop (mkF m 66 #[.val (.int p1), .val (.ref b2), .val (.int (6 : Int32)), .unset] [(.int (1 : Int32)), (.int (6 : Int32))])) _
    refine XS.icmpNo X54.here hx rfl (hb hby at_66) rfl (feq (by decide : ¬ ((6 : Int32) = (1 : Int32)))).1 ?_
    show Steps p.tables e below (T54.setTop (mkF m 69 #[.val (.int p1), .val (.ref b2), .val (.int (6 : Int32)), .unset] [])) _
    refine XS.iloadN X54.here hx rfl (hb hby at_69) rfl ?_
    show Steps p.tables e below (T54.setTop (mkF m 70 #[.val (.int p1), .val (.ref b2), .val (.int (6 : Int32)), .unset] [(.int (6 : Int32))])) _
    refine XS.iconst X54.here hx rfl (hb hby at_70) ?_
    show Steps p.tables e below (T54.setTop (mkF m 71 #[.val (.int p1), .val (.ref b2), .val (.int (6 : Int32)), .unset] [(.int (2 : Int32)), (.int (6 : Int32))])) _
    refine XS.icmpNo X54.here hx rfl (hb hby at_71) rfl (feq (by decide : ¬ ((6 : Int32) = (2 : Int32)))).1 ?_
    show Steps p.tables e below (T54.setTop (mkF m 74 #[.val (.int p1), .val (.ref b2), .val (.int (6 : Int32)), .unset] [])) _
    refine XS.iloadN X54.here hx rfl (hb hby at_74) rfl ?_
    show Steps p.tables e below (T54.setTop (mkF m 75 #[.val (.int p1), .val (.ref b2), .val (.int (6 : Int32)), .unset] [(.int (6 : Int32))])) _
    refine XS.iconst X54.here hx rfl (hb hby at_75) ?_
    show Steps p.tables e below (T54.setTop (mkF m 76 #[.val (.int p1), .val (.ref b2), .val (.int (6 : Int32)), .unset] [(.int (3 : Int32)), (.int (6 : Int32))])) _
    refine XS.icmpYes X54.here hx rfl (pc0 := 76) (pc' := 83) rfl (hb hby at_76) rfl (feq (by decide : ¬ ((6 : Int32) = (3 : Int32)))).2 (by decide) (by decide) ?_
    show Steps p.tables e below (T54.setTop (mkF m 83 #[.val (.int p1), .val (.ref b2), .val (.int (6 : Int32)), .unset] [])) _
    refine XS.iconst X54.here hx rfl (hb hby at_83) ?_
    show Steps p.tables e below (T54.setTop (mkF m 84 #[.val (.int p1), .val (.ref b2), .val (.int (6 : Int32)), .unset] [(.int (0 : Int32))])) _
    refine XS.istoreN X54.here hx rfl (hb hby at_84) rfl (l' := #[.val (.int p1), .val (.ref b2), .val (.int (6 : Int32)), .val (.int (0 : Int32))]) rfl ?_
    show Steps p.tables e below (T54.setTop (mkF m 85 #[.val (.int p1), .val (.ref b2), .val (.int (6 : Int32)), .val (.int (0 : Int32))] [])) _
    refine XS.aloadN X54.here hx rfl (hb hby at_85) rfl rfl ?_
    show Steps p.tables e below (T54.setTop (mkF m 86 #[.val (.int p1), .val (.ref b2), .val (.int (6 : Int32)), .val (.int (0 : Int32))] [(.ref b2)])) _
    refine XS.iloadN X54.here hx rfl (hb hby at_86) rfl ?_
    show Steps p.tables e below (T54.setTop (mkF m 87 #[.val (.int p1), .val (.ref b2), .val (.int (6 : Int32)), .val (.int (0 : Int32))] [(.int (6 : Int32)), (.ref b2)])) _
    refine X54.aaload hx (j := (6 : Int32)) (v := (.ref w6)) (by rw [e54]; exact Ar87.1) (State.isArrayOf_alike hZ.alike Ar87.2.1) rfl Ar87.2.2 hin87 f39 (g := (mkF m 87 #[.val (.int p1), .val (.ref b2), .val (.int (6 : Int32)), .val (.int (0 : Int32))] [(.int (6 : Int32)), (.ref b2)])) rfl rfl (hb hby at_87) _ ?_
    show Steps p.tables e below (T54.setTop (mkF m 88 #[.val (.int p1), .val (.ref b2), .val (.int (6 : Int32)), .val (.int (0 : Int32))] [(.ref w6)])) _
    refine st88.trans ?_
    show Steps p.tables e below (T88.setTop (mkF m 91 #[.val (.int p1), .val (.ref b2), .val (.int (6 : Int32)), .val (.int (0 : Int32))] [(.int (0 : Int32))])) _
    refine XS.iloadN X88.here hx rfl (hb hby at_91) rfl ?_
    show Steps p.tables e below (T88.setTop (mkF m 92 #[.val (.int p1), .val (.ref b2), .val (.int (6 : Int32)), .val (.int (0 : Int32))] [(.int (0 : Int32)), (.int (0 : Int32))])) _
    refine XS.icmpNo X88.here hx rfl (hb hby at_92) rfl (teq (by decide : (0 : Int32) = (0 : Int32))).2 ?_
    show Steps p.tables e below (T88.setTop (mkF m 95 #[.val (.int p1), .val (.ref b2), .val (.int (6 : Int32)), .val (.int (0 : Int32))] [])) _
    refine XS.iconst X88.here hx rfl (hb hby at_95) ?_
    show Steps p.tables e below (T88.setTop (mkF m 96 #[.val (.int p1), .val (.ref b2), .val (.int (6 : Int32)), .val (.int (0 : Int32))] [(.int (1 : Int32))])) _
    refine XS.goto X88.here hx rfl (pc0 := 96) (pc' := 100) rfl (hb hby at_96) (by decide) (by decide) ?_
    show Steps p.tables e below (T88.setTop (mkF m 100 #[.val (.int p1), .val (.ref b2), .val (.int (6 : Int32)), .val (.int (0 : Int32))] [(.int (1 : Int32))])) _
    exact retN X88 hx (t := .boolean) Bd.returns (by simp) (hb hby at_100) hr
  · show Q_law Z p1 w0 w1 w2 w3 w4 w5 w6 w7 h0 n0 _ T88.heap _
    exact ⟨rfl, N88, f40⟩
theorem ef_rm_law_7 (m : MethodId) (x0 : Int32) : entryFrame m #[(.int x0)] maxLocals = mkF m 0 #[.val (.int x0), .unset, .unset, .unset] [] := by first | (simp [entryFrame, mkF, argsToLocals, Value.category, maxLocals]; done) | rfl
set_option maxRecDepth 65536 in
set_option maxHeartbeats 40000000 in
theorem rm_law_7 (l : Launch) (Z : State) (a0 : Array Value) (hw : ∀ d ∈ tables_1, d.before a0 Z = true) (ws : List Jvm.Cond) (p1 : Int32) (w0 : Addr) (w1 : Addr) (w2 : Addr) (w3 : Addr) (w4 : Addr) (w5 : Addr) (w6 : Addr) (w7 : Addr) (h0 : Heap) (n0 : Nat) (O0 : Old Z n0 h0) (S0 : Sta Z Z.heap "com/example/lotista/lotista/retorno/EventField$Form" "NUMBER" "Lcom/example/lotista/lotista/retorno/EventField$Form;" (.ref w0)) (S1 : Sta Z Z.heap "com/example/lotista/lotista/retorno/EventField$Form" "CODE" "Lcom/example/lotista/lotista/retorno/EventField$Form;" (.ref w1)) (S2 : Sta Z Z.heap "com/example/lotista/lotista/retorno/EventField$Form" "ALPHANUMERIC_CODE" "Lcom/example/lotista/lotista/retorno/EventField$Form;" (.ref w2)) (S3 : Sta Z Z.heap "com/example/lotista/lotista/retorno/EventField$Form" "TEXT" "Lcom/example/lotista/lotista/retorno/EventField$Form;" (.ref w3)) (S4 : Sta Z Z.heap "com/example/lotista/lotista/retorno/EventField$Form" "MONEY" "Lcom/example/lotista/lotista/retorno/EventField$Form;" (.ref w4)) (S5 : Sta Z Z.heap "com/example/lotista/lotista/retorno/EventField$Form" "DATE" "Lcom/example/lotista/lotista/retorno/EventField$Form;" (.ref w5)) (S6 : Sta Z Z.heap "com/example/lotista/lotista/retorno/EventField$Form" "GIVEN_DATE" "Lcom/example/lotista/lotista/retorno/EventField$Form;" (.ref w6)) (S7 : Sta Z Z.heap "com/example/lotista/lotista/retorno/EventField$Form" "CODES" "Lcom/example/lotista/lotista/retorno/EventField$Form;" (.ref w7)) (E0 : Exa Z Z.heap w0 "com/example/lotista/lotista/retorno/EventField$Form") (E1 : Exa Z Z.heap w1 "com/example/lotista/lotista/retorno/EventField$Form") (E2 : Exa Z Z.heap w2 "com/example/lotista/lotista/retorno/EventField$Form") (E3 : Exa Z Z.heap w3 "com/example/lotista/lotista/retorno/EventField$Form") (E4 : Exa Z Z.heap w4 "com/example/lotista/lotista/retorno/EventField$Form") (E5 : Exa Z Z.heap w5 "com/example/lotista/lotista/retorno/EventField$Form") (E6 : Exa Z Z.heap w6 "com/example/lotista/lotista/retorno/EventField$Form") (E7 : Exa Z Z.heap w7 "com/example/lotista/lotista/retorno/EventField$Form") (n0_1 : w0 ≠ w1) (n0_2 : w0 ≠ w2) (n0_3 : w0 ≠ w3) (n2_1 : w2 ≠ w1) (n3_1 : w3 ≠ w1) (n3_2 : w3 ≠ w2) (n4_1 : w4 ≠ w1) (n4_2 : w4 ≠ w2) (n4_3 : w4 ≠ w3) (n5_1 : w5 ≠ w1) (n5_2 : w5 ≠ w2) (n5_3 : w5 ≠ w3) (n6_1 : w6 ≠ w1) (n6_2 : w6 ≠ w2) (n6_3 : w6 ≠ w3) (n7_1 : w7 ≠ w1) (n7_2 : w7 ≠ w2) (n7_3 : w7 ≠ w3) (hi : ((p1 &&& (2147483647 : Int32)) % (8 : Int32)) = (7 : Int32)) :
    MetFree l x (head1 (Jvm.Cond.code x code maxLocals ret :: ws) room_1) (fun as' U => as' = #[(.int p1)] ∧ Z.Warmed39 U.vm ∧ U.heap = h0) (fun _ _ _ _ _ => True) (fun _ U o U' => ∃ v L, o = .returned v ∧ Q_law Z p1 w0 w1 w2 w3 w4 w5 w6 w7 h0 n0 v U'.heap L ∧ FrameEnd U o U' L room_1.cells room_1.slots) := by
  refine MetFree.of_bodySF (plainFor_of_name pn_com_example_lotista_lotista_retorno_FormIsTextPinLaw) hisR ?_
  intro p e s m args below meth c s₁ Bd hml0 hP hK
  obtain ⟨rfl, hZ, hh⟩ := hP
  have hx := Bd.exec
  have hby := Bd.bytes
  have hml : c.maxLocals = 4 := hml0
  have hown : s.vm.findClass "com/example/lotista/lotista/retorno/FormIsTextPinLaw" = some m.cls := findClass_of_methodNamed Bd.named
  have hnm := (name_of_methodNamed Bd.named Bd.method).1
  have X0 : Stand p l e room_1 s m #[(.int p1)] below meth c s₁ [] 0 0 := Stand.of_body Bd
  have e0 : s₁.heap = h0 := by rw [← hh, Bd.state]; rfl
  have N0 := Fr.nil n0
  have K0 : Keep h0 h0 [] := Keep.refl _ _
  have pre0 : ∀ t, Steps p.tables e below (s₁.setTop (mkF m 0 #[.val (.int p1), .unset, .unset, .unset] [])) t → Steps p.tables e below (s₁.setTop (entryFrame m #[(.int p1)] maxLocals)) t := fun t k => castTop (ef_rm_law_7 m p1) k
  obtain ⟨T2, h2, kc2, X2, e2, Ex2, Aa2, Bb2, Ov2, st2⟩ := newRE X0 hx hZ hown (w_0 hw) (w_1 hw) e0 (g := (mkF m 2 #[.val (.int p1), .unset, .unset, .unset] [(.int (8 : Int32))])) rfl (hb hby at_2) rfl (by decide) (cap := 8) (by decide) (by decide) (by decide) (by decide) (ad := "[Lcom/example/lotista/lotista/retorno/EventField$Form;") (by first | rfl | decide +kernel)
  obtain ⟨b2, gg2⟩ : ∃ z, z = h0.size := ⟨_, rfl⟩
  rw [← gg2] at Aa2 Bb2 st2
  have f1 : Keep h0 h2 [] := K0.ext Ex2
  have f2 : Old Z n0 h2 := O0.ext Ex2
  have f3 : Arv Z h2 b2 kc2 (.object "com/example/lotista/lotista/retorno/EventField$Form") (8 : Int32) [.null, .null, .null, .null, .null, .null, .null, .null] .null := (Arv.new Aa2 (by decide)).pad (pad_rep [] .null 8)
  obtain ⟨T7, X7, e7, st7⟩ := getS2 X2 hx hZ hown (host := "") (Or.inl (w_2 hw)) Via.refl e2 (S0.ext f2.2) (g := (mkF m 7 #[.val (.int p1), .unset, .unset, .unset] [(.int (0 : Int32)), (.ref b2), (.ref b2)])) rfl (hb hby at_7)
  obtain ⟨cl10, Ar10, qq10, Sz10, NN10, HH10, GG10⟩ := (id f3)
  have hin10 : ¬ ((0 : Int32) < 0 ∨ cl10.slots.size ≤ ((0 : Int32)).toNatClampNeg) := inb_of Sz10 ⟨by decide, by decide⟩
  obtain ⟨T10, h10, X10, e10, Wr10, st10⟩ := stR X7 hx hZ e7 Ar10 (j := (0 : Int32)) hin10 rfl (Sto.ofV Ar10 qq10 Ov2 (Ins.self (E0.ext f2.2))) (g := (mkF m 10 #[.val (.int p1), .unset, .unset, .unset] [(.ref w0), (.int (0 : Int32)), (.ref b2), (.ref b2)])) rfl rfl (hb hby at_10)
  have f5 : h0.size ≤ b2 := Nat.le_trans K0.1 (Nat.le_of_eq gg2.symm)
  have f6 : n0 ≤ b2 := Nat.le_trans (own_old_le O0) (Nat.le_of_eq gg2.symm)
  have f7 : Keep h0 h10 [] := f1.wr Wr10 (Or.inr f5)
  have f8 : Old Z n0 h10 := f2.wr Wr10 f6
  have f9 : Arv Z h10 b2 kc2 (.object "com/example/lotista/lotista/retorno/EventField$Form") (8 : Int32) [(.ref w0), .null, .null, .null, .null, .null, .null, .null] .null := Arv.set Ar10 qq10 Sz10 NN10 HH10 GG10 rfl Wr10 0 rfl (Nat.le_of_ble_eq_true rfl)
  have N10 := Fr.snoc X10 N0 f6
  obtain ⟨T13, X13, e13, st13⟩ := getS2 X10 hx hZ hown (host := "") (Or.inl (w_6 hw)) Via.refl e10 (S1.ext f8.2) (g := (mkF m 13 #[.val (.int p1), .unset, .unset, .unset] [(.int (1 : Int32)), (.ref b2), (.ref b2)])) rfl (hb hby at_13)
  obtain ⟨cl16, Ar16, qq16, Sz16, NN16, HH16, GG16⟩ := (id f9)
  have hin16 : ¬ ((1 : Int32) < 0 ∨ cl16.slots.size ≤ ((1 : Int32)).toNatClampNeg) := inb_of Sz16 ⟨by decide, by decide⟩
  obtain ⟨T16, h16, X16, e16, Wr16, st16⟩ := stR X13 hx hZ e13 Ar16 (j := (1 : Int32)) hin16 rfl (Sto.ofV Ar16 qq16 Ov2 (Ins.self (E1.ext f8.2))) (g := (mkF m 16 #[.val (.int p1), .unset, .unset, .unset] [(.ref w1), (.int (1 : Int32)), (.ref b2), (.ref b2)])) rfl rfl (hb hby at_16)
  have f11 : Keep h0 h16 [] := f7.wr Wr16 (Or.inr f5)
  have f12 : Old Z n0 h16 := f8.wr Wr16 f6
  have f13 : Arv Z h16 b2 kc2 (.object "com/example/lotista/lotista/retorno/EventField$Form") (8 : Int32) [(.ref w0), (.ref w1), .null, .null, .null, .null, .null, .null] .null := Arv.set Ar16 qq16 Sz16 NN16 HH16 GG16 rfl Wr16 1 rfl (Nat.le_of_ble_eq_true rfl)
  have N16 := Fr.snoc X16 N10 f6
  obtain ⟨T19, X19, e19, st19⟩ := getS2 X16 hx hZ hown (host := "") (Or.inl (w_8 hw)) Via.refl e16 (S2.ext f12.2) (g := (mkF m 19 #[.val (.int p1), .unset, .unset, .unset] [(.int (2 : Int32)), (.ref b2), (.ref b2)])) rfl (hb hby at_19)
  obtain ⟨cl22, Ar22, qq22, Sz22, NN22, HH22, GG22⟩ := (id f13)
  have hin22 : ¬ ((2 : Int32) < 0 ∨ cl22.slots.size ≤ ((2 : Int32)).toNatClampNeg) := inb_of Sz22 ⟨by decide, by decide⟩
  obtain ⟨T22, h22, X22, e22, Wr22, st22⟩ := stR X19 hx hZ e19 Ar22 (j := (2 : Int32)) hin22 rfl (Sto.ofV Ar22 qq22 Ov2 (Ins.self (E2.ext f12.2))) (g := (mkF m 22 #[.val (.int p1), .unset, .unset, .unset] [(.ref w2), (.int (2 : Int32)), (.ref b2), (.ref b2)])) rfl rfl (hb hby at_22)
  have f15 : Keep h0 h22 [] := f11.wr Wr22 (Or.inr f5)
  have f16 : Old Z n0 h22 := f12.wr Wr22 f6
  have f17 : Arv Z h22 b2 kc2 (.object "com/example/lotista/lotista/retorno/EventField$Form") (8 : Int32) [(.ref w0), (.ref w1), (.ref w2), .null, .null, .null, .null, .null] .null := Arv.set Ar22 qq22 Sz22 NN22 HH22 GG22 rfl Wr22 2 rfl (Nat.le_of_ble_eq_true rfl)
  have N22 := Fr.snoc X22 N16 f6
  obtain ⟨T25, X25, e25, st25⟩ := getS2 X22 hx hZ hown (host := "") (Or.inl (w_10 hw)) Via.refl e22 (S3.ext f16.2) (g := (mkF m 25 #[.val (.int p1), .unset, .unset, .unset] [(.int (3 : Int32)), (.ref b2), (.ref b2)])) rfl (hb hby at_25)
  obtain ⟨cl28, Ar28, qq28, Sz28, NN28, HH28, GG28⟩ := (id f17)
  have hin28 : ¬ ((3 : Int32) < 0 ∨ cl28.slots.size ≤ ((3 : Int32)).toNatClampNeg) := inb_of Sz28 ⟨by decide, by decide⟩
  obtain ⟨T28, h28, X28, e28, Wr28, st28⟩ := stR X25 hx hZ e25 Ar28 (j := (3 : Int32)) hin28 rfl (Sto.ofV Ar28 qq28 Ov2 (Ins.self (E3.ext f16.2))) (g := (mkF m 28 #[.val (.int p1), .unset, .unset, .unset] [(.ref w3), (.int (3 : Int32)), (.ref b2), (.ref b2)])) rfl rfl (hb hby at_28)
  have f19 : Keep h0 h28 [] := f15.wr Wr28 (Or.inr f5)
  have f20 : Old Z n0 h28 := f16.wr Wr28 f6
  have f21 : Arv Z h28 b2 kc2 (.object "com/example/lotista/lotista/retorno/EventField$Form") (8 : Int32) [(.ref w0), (.ref w1), (.ref w2), (.ref w3), .null, .null, .null, .null] .null := Arv.set Ar28 qq28 Sz28 NN28 HH28 GG28 rfl Wr28 3 rfl (Nat.le_of_ble_eq_true rfl)
  have N28 := Fr.snoc X28 N22 f6
  obtain ⟨T31, X31, e31, st31⟩ := getS2 X28 hx hZ hown (host := "") (Or.inl (w_12 hw)) Via.refl e28 (S4.ext f20.2) (g := (mkF m 31 #[.val (.int p1), .unset, .unset, .unset] [(.int (4 : Int32)), (.ref b2), (.ref b2)])) rfl (hb hby at_31)
  obtain ⟨cl34, Ar34, qq34, Sz34, NN34, HH34, GG34⟩ := (id f21)
  have hin34 : ¬ ((4 : Int32) < 0 ∨ cl34.slots.size ≤ ((4 : Int32)).toNatClampNeg) := inb_of Sz34 ⟨by decide, by decide⟩
  obtain ⟨T34, h34, X34, e34, Wr34, st34⟩ := stR X31 hx hZ e31 Ar34 (j := (4 : Int32)) hin34 rfl (Sto.ofV Ar34 qq34 Ov2 (Ins.self (E4.ext f20.2))) (g := (mkF m 34 #[.val (.int p1), .unset, .unset, .unset] [(.ref w4), (.int (4 : Int32)), (.ref b2), (.ref b2)])) rfl rfl (hb hby at_34)
  have f23 : Keep h0 h34 [] := f19.wr Wr34 (Or.inr f5)
  have f24 : Old Z n0 h34 := f20.wr Wr34 f6
  have f25 : Arv Z h34 b2 kc2 (.object "com/example/lotista/lotista/retorno/EventField$Form") (8 : Int32) [(.ref w0), (.ref w1), (.ref w2), (.ref w3), (.ref w4), .null, .null, .null] .null := Arv.set Ar34 qq34 Sz34 NN34 HH34 GG34 rfl Wr34 4 rfl (Nat.le_of_ble_eq_true rfl)
  have N34 := Fr.snoc X34 N28 f6
  obtain ⟨T37, X37, e37, st37⟩ := getS2 X34 hx hZ hown (host := "") (Or.inl (w_14 hw)) Via.refl e34 (S5.ext f24.2) (g := (mkF m 37 #[.val (.int p1), .unset, .unset, .unset] [(.int (5 : Int32)), (.ref b2), (.ref b2)])) rfl (hb hby at_37)
  obtain ⟨cl40, Ar40, qq40, Sz40, NN40, HH40, GG40⟩ := (id f25)
  have hin40 : ¬ ((5 : Int32) < 0 ∨ cl40.slots.size ≤ ((5 : Int32)).toNatClampNeg) := inb_of Sz40 ⟨by decide, by decide⟩
  obtain ⟨T40, h40, X40, e40, Wr40, st40⟩ := stR X37 hx hZ e37 Ar40 (j := (5 : Int32)) hin40 rfl (Sto.ofV Ar40 qq40 Ov2 (Ins.self (E5.ext f24.2))) (g := (mkF m 40 #[.val (.int p1), .unset, .unset, .unset] [(.ref w5), (.int (5 : Int32)), (.ref b2), (.ref b2)])) rfl rfl (hb hby at_40)
  have f27 : Keep h0 h40 [] := f23.wr Wr40 (Or.inr f5)
  have f28 : Old Z n0 h40 := f24.wr Wr40 f6
  have f29 : Arv Z h40 b2 kc2 (.object "com/example/lotista/lotista/retorno/EventField$Form") (8 : Int32) [(.ref w0), (.ref w1), (.ref w2), (.ref w3), (.ref w4), (.ref w5), .null, .null] .null := Arv.set Ar40 qq40 Sz40 NN40 HH40 GG40 rfl Wr40 5 rfl (Nat.le_of_ble_eq_true rfl)
  have N40 := Fr.snoc X40 N34 f6
  obtain ⟨T44, X44, e44, st44⟩ := getS2 X40 hx hZ hown (host := "") (Or.inl (w_16 hw)) Via.refl e40 (S6.ext f28.2) (g := (mkF m 44 #[.val (.int p1), .unset, .unset, .unset] [(.int (6 : Int32)), (.ref b2), (.ref b2)])) rfl (hb hby at_44)
  obtain ⟨cl47, Ar47, qq47, Sz47, NN47, HH47, GG47⟩ := (id f29)
  have hin47 : ¬ ((6 : Int32) < 0 ∨ cl47.slots.size ≤ ((6 : Int32)).toNatClampNeg) := inb_of Sz47 ⟨by decide, by decide⟩
  obtain ⟨T47, h47, X47, e47, Wr47, st47⟩ := stR X44 hx hZ e44 Ar47 (j := (6 : Int32)) hin47 rfl (Sto.ofV Ar47 qq47 Ov2 (Ins.self (E6.ext f28.2))) (g := (mkF m 47 #[.val (.int p1), .unset, .unset, .unset] [(.ref w6), (.int (6 : Int32)), (.ref b2), (.ref b2)])) rfl rfl (hb hby at_47)
  have f31 : Keep h0 h47 [] := f27.wr Wr47 (Or.inr f5)
  have f32 : Old Z n0 h47 := f28.wr Wr47 f6
  have f33 : Arv Z h47 b2 kc2 (.object "com/example/lotista/lotista/retorno/EventField$Form") (8 : Int32) [(.ref w0), (.ref w1), (.ref w2), (.ref w3), (.ref w4), (.ref w5), (.ref w6), .null] .null := Arv.set Ar47 qq47 Sz47 NN47 HH47 GG47 rfl Wr47 6 rfl (Nat.le_of_ble_eq_true rfl)
  have N47 := Fr.snoc X47 N40 f6
  obtain ⟨T51, X51, e51, st51⟩ := getS2 X47 hx hZ hown (host := "") (Or.inl (w_18 hw)) Via.refl e47 (S7.ext f32.2) (g := (mkF m 51 #[.val (.int p1), .unset, .unset, .unset] [(.int (7 : Int32)), (.ref b2), (.ref b2)])) rfl (hb hby at_51)
  obtain ⟨cl54, Ar54, qq54, Sz54, NN54, HH54, GG54⟩ := (id f33)
  have hin54 : ¬ ((7 : Int32) < 0 ∨ cl54.slots.size ≤ ((7 : Int32)).toNatClampNeg) := inb_of Sz54 ⟨by decide, by decide⟩
  obtain ⟨T54, h54, X54, e54, Wr54, st54⟩ := stR X51 hx hZ e51 Ar54 (j := (7 : Int32)) hin54 rfl (Sto.ofV Ar54 qq54 Ov2 (Ins.self (E7.ext f32.2))) (g := (mkF m 54 #[.val (.int p1), .unset, .unset, .unset] [(.ref w7), (.int (7 : Int32)), (.ref b2), (.ref b2)])) rfl rfl (hb hby at_54)
  have f35 : Keep h0 h54 [] := f31.wr Wr54 (Or.inr f5)
  have f36 : Old Z n0 h54 := f32.wr Wr54 f6
  have f37 : Arv Z h54 b2 kc2 (.object "com/example/lotista/lotista/retorno/EventField$Form") (8 : Int32) [(.ref w0), (.ref w1), (.ref w2), (.ref w3), (.ref w4), (.ref w5), (.ref w6), (.ref w7)] .null := Arv.set Ar54 qq54 Sz54 NN54 HH54 GG54 rfl Wr54 7 rfl (Nat.le_of_ble_eq_true rfl)
  have N54 := Fr.snoc X54 N47 f6
  obtain ⟨cl87, Ar87, qq87, Sz87, NN87, HH87, GG87⟩ := (id f37)
  have hin87 : ¬ ((7 : Int32) < 0 ∨ cl87.slots.size ≤ ((7 : Int32)).toNatClampNeg) := inb_of Sz87 ⟨by decide, by decide⟩
  have f39 : cl87.slots[((7 : Int32)).toNatClampNeg]? = some (.ref w7) := HH87.at hin87 rfl
  obtain ⟨cq88, kq88, q88a, q88b, q88c⟩ := isOf hZ e54 (E7.ext f36.2)
  obtain ⟨_, _, ⟨T88, Lo88, kk88, nn88⟩, -, X88, ⟨Lc88, hQ88, ll88, yy88, zz88⟩, st88⟩ := X54.virtualBack hx (y := (⟨"com/example/lotista/lotista/retorno/EventField$Form", "isText", "()Z"⟩ : MethodName)) (z := (⟨"com/example/lotista/lotista/retorno/EventField$Form", "isText", "()Z"⟩ : MethodName)) hown (mvT hZ (w_21 hw)) (mvT hZ (w_22 hw)) (notFace_of_selects (args := #[]) (mvT hZ (w_24 hw))) (mvT hZ (w_24 hw)) (mvT hZ (w_23 hw)) (by decide) (backOf (W := 0) (rm_tN l Z a0 hw [] w7 w1 w2 w3 h54 n0 f36 S1 S2 S3 n7_1 n7_2 n7_3) hZ (w_25 hw) (w_3 hw) (by decide) (by decide)) q88a q88c (g := (mkF m 88 #[.val (.int p1), .val (.ref b2), .val (.int (7 : Int32)), .val (.int (0 : Int32))] [(.ref w7)])) rfl (by rw [hml]; rfl) (Steps.refl _) (argsL := []) (rest := []) (lenOf pd_0 rfl) rfl (by show 2 * 0 + _ ≤ _; exact Nat.le_of_eq rfl) (hb hby at_88) (fun _ _ => ⟨rfl, e54, (by decide : 1 + 0 ≤ _), (by decide : 8 + 0 ≤ _)⟩)
  dsimp only [Pt.U, Pt.locs, Pt.cells, Pt.slots] at X88 ll88 yy88 zz88 st88 hQ88
  subst ll88 yy88 zz88
  obtain ⟨rfl, N88q, K88q⟩ := hQ88
  have N88 := Fr.app N54 N88q
  have f40 : Keep h0 T88.heap [] := f35.trans K88q all0
  have f41 : Old Z n0 T88.heap := f36.keep K88q all0
  obtain ⟨fs, hr, hrun, hended, hW, hsame⟩ := X88.leave (v := some (.int (1 : Int32))) (fun h => by rw [Bd.returns] at h; cases h)
  refine ⟨_, _, pre0 _ ?_, hrun, hended, _, _, rfl, ?_, ⟨_, rfl⟩, hW, hsame.mono (by decide) (by decide)⟩
  · show Steps p.tables e below (s₁.setTop (mkF m 0 #[.val (.int p1), .unset, .unset, .unset] [])) _
    refine XS.bipush X0.here hx rfl (hb hby at_0) ?_
    show Steps p.tables e below (s₁.setTop (mkF m 2 #[.val (.int p1), .unset, .unset, .unset] [(.int (8 : Int32))])) _
    refine st2 _ ?_
    show Steps p.tables e below (T2.setTop (mkF m 5 #[.val (.int p1), .unset, .unset, .unset] [(.ref b2)])) _
    refine XS.dup X2.here hx rfl (hb hby at_5) rfl rfl ?_
    show Steps p.tables e below (T2.setTop (mkF m 6 #[.val (.int p1), .unset, .unset, .unset] [(.ref b2), (.ref b2)])) _
    refine XS.iconst X2.here hx rfl (hb hby at_6) ?_
    show Steps p.tables e below (T2.setTop (mkF m 7 #[.val (.int p1), .unset, .unset, .unset] [(.int (0 : Int32)), (.ref b2), (.ref b2)])) _
    refine st7 _ ?_
    show Steps p.tables e below (T7.setTop (mkF m 10 #[.val (.int p1), .unset, .unset, .unset] [(.ref w0), (.int (0 : Int32)), (.ref b2), (.ref b2)])) _
    refine st10 _ ?_
    show Steps p.tables e below (T10.setTop (mkF m 11 #[.val (.int p1), .unset, .unset, .unset] [(.ref b2)])) _
    refine XS.dup X10.here hx rfl (hb hby at_11) rfl rfl ?_
    show Steps p.tables e below (T10.setTop (mkF m 12 #[.val (.int p1), .unset, .unset, .unset] [(.ref b2), (.ref b2)])) _
    refine XS.iconst X10.here hx rfl (hb hby at_12) ?_
    show Steps p.tables e below (T10.setTop (mkF m 13 #[.val (.int p1), .unset, .unset, .unset] [(.int (1 : Int32)), (.ref b2), (.ref b2)])) _
    refine st13 _ ?_
    show Steps p.tables e below (T13.setTop (mkF m 16 #[.val (.int p1), .unset, .unset, .unset] [(.ref w1), (.int (1 : Int32)), (.ref b2), (.ref b2)])) _
    refine st16 _ ?_
    show Steps p.tables e below (T16.setTop (mkF m 17 #[.val (.int p1), .unset, .unset, .unset] [(.ref b2)])) _
    refine XS.dup X16.here hx rfl (hb hby at_17) rfl rfl ?_
    show Steps p.tables e below (T16.setTop (mkF m 18 #[.val (.int p1), .unset, .unset, .unset] [(.ref b2), (.ref b2)])) _
    refine XS.iconst X16.here hx rfl (hb hby at_18) ?_
    show Steps p.tables e below (T16.setTop (mkF m 19 #[.val (.int p1), .unset, .unset, .unset] [(.int (2 : Int32)), (.ref b2), (.ref b2)])) _
    refine st19 _ ?_
    show Steps p.tables e below (T19.setTop (mkF m 22 #[.val (.int p1), .unset, .unset, .unset] [(.ref w2), (.int (2 : Int32)), (.ref b2), (.ref b2)])) _
    refine st22 _ ?_
    show Steps p.tables e below (T22.setTop (mkF m 23 #[.val (.int p1), .unset, .unset, .unset] [(.ref b2)])) _
    refine XS.dup X22.here hx rfl (hb hby at_23) rfl rfl ?_
    show Steps p.tables e below (T22.setTop (mkF m 24 #[.val (.int p1), .unset, .unset, .unset] [(.ref b2), (.ref b2)])) _
    refine XS.iconst X22.here hx rfl (hb hby at_24) ?_
    show Steps p.tables e below (T22.setTop (mkF m 25 #[.val (.int p1), .unset, .unset, .unset] [(.int (3 : Int32)), (.ref b2), (.ref b2)])) _
    refine st25 _ ?_
    show Steps p.tables e below (T25.setTop (mkF m 28 #[.val (.int p1), .unset, .unset, .unset] [(.ref w3), (.int (3 : Int32)), (.ref b2), (.ref b2)])) _
    refine st28 _ ?_
    show Steps p.tables e below (T28.setTop (mkF m 29 #[.val (.int p1), .unset, .unset, .unset] [(.ref b2)])) _
    refine XS.dup X28.here hx rfl (hb hby at_29) rfl rfl ?_
    show Steps p.tables e below (T28.setTop (mkF m 30 #[.val (.int p1), .unset, .unset, .unset] [(.ref b2), (.ref b2)])) _
    refine XS.iconst X28.here hx rfl (hb hby at_30) ?_
    show Steps p.tables e below (T28.setTop (mkF m 31 #[.val (.int p1), .unset, .unset, .unset] [(.int (4 : Int32)), (.ref b2), (.ref b2)])) _
    refine st31 _ ?_
    show Steps p.tables e below (T31.setTop (mkF m 34 #[.val (.int p1), .unset, .unset, .unset] [(.ref w4), (.int (4 : Int32)), (.ref b2), (.ref b2)])) _
    refine st34 _ ?_
    show Steps p.tables e below (T34.setTop (mkF m 35 #[.val (.int p1), .unset, .unset, .unset] [(.ref b2)])) _
    refine XS.dup X34.here hx rfl (hb hby at_35) rfl rfl ?_
    show Steps p.tables e below (T34.setTop (mkF m 36 #[.val (.int p1), .unset, .unset, .unset] [(.ref b2), (.ref b2)])) _
    refine XS.iconst X34.here hx rfl (hb hby at_36) ?_
    show Steps p.tables e below (T34.setTop (mkF m 37 #[.val (.int p1), .unset, .unset, .unset] [(.int (5 : Int32)), (.ref b2), (.ref b2)])) _
    refine st37 _ ?_
    show Steps p.tables e below (T37.setTop (mkF m 40 #[.val (.int p1), .unset, .unset, .unset] [(.ref w5), (.int (5 : Int32)), (.ref b2), (.ref b2)])) _
    refine st40 _ ?_
    show Steps p.tables e below (T40.setTop (mkF m 41 #[.val (.int p1), .unset, .unset, .unset] [(.ref b2)])) _
    refine XS.dup X40.here hx rfl (hb hby at_41) rfl rfl ?_
    show Steps p.tables e below (T40.setTop (mkF m 42 #[.val (.int p1), .unset, .unset, .unset] [(.ref b2), (.ref b2)])) _
    refine XS.bipush X40.here hx rfl (hb hby at_42) ?_
    show Steps p.tables e below (T40.setTop (mkF m 44 #[.val (.int p1), .unset, .unset, .unset] [(.int (6 : Int32)), (.ref b2), (.ref b2)])) _
    refine st44 _ ?_
    show Steps p.tables e below (T44.setTop (mkF m 47 #[.val (.int p1), .unset, .unset, .unset] [(.ref w6), (.int (6 : Int32)), (.ref b2), (.ref b2)])) _
    refine st47 _ ?_
    show Steps p.tables e below (T47.setTop (mkF m 48 #[.val (.int p1), .unset, .unset, .unset] [(.ref b2)])) _
    refine XS.dup X47.here hx rfl (hb hby at_48) rfl rfl ?_
    show Steps p.tables e below (T47.setTop (mkF m 49 #[.val (.int p1), .unset, .unset, .unset] [(.ref b2), (.ref b2)])) _
    refine XS.bipush X47.here hx rfl (hb hby at_49) ?_
    show Steps p.tables e below (T47.setTop (mkF m 51 #[.val (.int p1), .unset, .unset, .unset] [(.int (7 : Int32)), (.ref b2), (.ref b2)])) _
    refine st51 _ ?_
    show Steps p.tables e below (T51.setTop (mkF m 54 #[.val (.int p1), .unset, .unset, .unset] [(.ref w7), (.int (7 : Int32)), (.ref b2), (.ref b2)])) _
    refine st54 _ ?_
    show Steps p.tables e below (T54.setTop (mkF m 55 #[.val (.int p1), .unset, .unset, .unset] [(.ref b2)])) _
    refine XS.astoreN X54.here hx rfl (hb hby at_55) rfl rfl (l' := #[.val (.int p1), .val (.ref b2), .unset, .unset]) rfl ?_
    show Steps p.tables e below (T54.setTop (mkF m 56 #[.val (.int p1), .val (.ref b2), .unset, .unset] [])) _
    refine XS.iloadN X54.here hx rfl (hb hby at_56) rfl ?_
    show Steps p.tables e below (T54.setTop (mkF m 57 #[.val (.int p1), .val (.ref b2), .unset, .unset] [(.int p1)])) _
    refine Jvm.Stand.ldcI X54 hx hown (mvT hZ (w_20 hw)) rfl (hb hby at_57) ?_
    show Steps p.tables e below (T54.setTop (mkF m 59 #[.val (.int p1), .val (.ref b2), .unset, .unset] [(.int (2147483647 : Int32)), (.int p1)])) _
    refine XS.iand X54.here hx rfl (hb hby at_59) rfl ?_
    show Steps p.tables e below (T54.setTop (mkF m 60 #[.val (.int p1), .val (.ref b2), .unset, .unset] [(.int (p1 &&& (2147483647 : Int32)))])) _
    refine XS.bipush X54.here hx rfl (hb hby at_60) ?_
    show Steps p.tables e below (T54.setTop (mkF m 62 #[.val (.int p1), .val (.ref b2), .unset, .unset] [(.int (8 : Int32)), (.int (p1 &&& (2147483647 : Int32)))])) _
    refine Jvm.RoadKit.iremM X54 hx rfl (hb hby at_62) rfl (by decide) ?_
    show Steps p.tables e below (T54.setTop (mkF m 63 #[.val (.int p1), .val (.ref b2), .unset, .unset] [(.int ((p1 &&& (2147483647 : Int32)) % (8 : Int32)))])) _
    rw [hi]
    show Steps p.tables e below (T54.setTop (mkF m 63 #[.val (.int p1), .val (.ref b2), .unset, .unset] [(.int (7 : Int32))])) _
    refine XS.istoreN X54.here hx rfl (hb hby at_63) rfl (l' := #[.val (.int p1), .val (.ref b2), .val (.int (7 : Int32)), .unset]) rfl ?_
    show Steps p.tables e below (T54.setTop (mkF m 64 #[.val (.int p1), .val (.ref b2), .val (.int (7 : Int32)), .unset] [])) _
    refine XS.iloadN X54.here hx rfl (hb hby at_64) rfl ?_
    show Steps p.tables e below (T54.setTop (mkF m 65 #[.val (.int p1), .val (.ref b2), .val (.int (7 : Int32)), .unset] [(.int (7 : Int32))])) _
    refine XS.iconst X54.here hx rfl (hb hby at_65) ?_
    show Steps p.tables e below (T54.setTop (mkF m 66 #[.val (.int p1), .val (.ref b2), .val (.int (7 : Int32)), .unset] [(.int (1 : Int32)), (.int (7 : Int32))])) _
    refine XS.icmpNo X54.here hx rfl (hb hby at_66) rfl (feq (by decide : ¬ ((7 : Int32) = (1 : Int32)))).1 ?_
    show Steps p.tables e below (T54.setTop (mkF m 69 #[.val (.int p1), .val (.ref b2), .val (.int (7 : Int32)), .unset] [])) _
    refine XS.iloadN X54.here hx rfl (hb hby at_69) rfl ?_
    show Steps p.tables e below (T54.setTop (mkF m 70 #[.val (.int p1), .val (.ref b2), .val (.int (7 : Int32)), .unset] [(.int (7 : Int32))])) _
    refine XS.iconst X54.here hx rfl (hb hby at_70) ?_
    show Steps p.tables e below (T54.setTop (mkF m 71 #[.val (.int p1), .val (.ref b2), .val (.int (7 : Int32)), .unset] [(.int (2 : Int32)), (.int (7 : Int32))])) _
    refine XS.icmpNo X54.here hx rfl (hb hby at_71) rfl (feq (by decide : ¬ ((7 : Int32) = (2 : Int32)))).1 ?_
    show Steps p.tables e below (T54.setTop (mkF m 74 #[.val (.int p1), .val (.ref b2), .val (.int (7 : Int32)), .unset] [])) _
    refine XS.iloadN X54.here hx rfl (hb hby at_74) rfl ?_
    show Steps p.tables e below (T54.setTop (mkF m 75 #[.val (.int p1), .val (.ref b2), .val (.int (7 : Int32)), .unset] [(.int (7 : Int32))])) _
    refine XS.iconst X54.here hx rfl (hb hby at_75) ?_
    show Steps p.tables e below (T54.setTop (mkF m 76 #[.val (.int p1), .val (.ref b2), .val (.int (7 : Int32)), .unset] [(.int (3 : Int32)), (.int (7 : Int32))])) _
    refine XS.icmpYes X54.here hx rfl (pc0 := 76) (pc' := 83) rfl (hb hby at_76) rfl (feq (by decide : ¬ ((7 : Int32) = (3 : Int32)))).2 (by decide) (by decide) ?_
    show Steps p.tables e below (T54.setTop (mkF m 83 #[.val (.int p1), .val (.ref b2), .val (.int (7 : Int32)), .unset] [])) _
    refine XS.iconst X54.here hx rfl (hb hby at_83) ?_
    show Steps p.tables e below (T54.setTop (mkF m 84 #[.val (.int p1), .val (.ref b2), .val (.int (7 : Int32)), .unset] [(.int (0 : Int32))])) _
    refine XS.istoreN X54.here hx rfl (hb hby at_84) rfl (l' := #[.val (.int p1), .val (.ref b2), .val (.int (7 : Int32)), .val (.int (0 : Int32))]) rfl ?_
    show Steps p.tables e below (T54.setTop (mkF m 85 #[.val (.int p1), .val (.ref b2), .val (.int (7 : Int32)), .val (.int (0 : Int32))] [])) _
    refine XS.aloadN X54.here hx rfl (hb hby at_85) rfl rfl ?_
    show Steps p.tables e below (T54.setTop (mkF m 86 #[.val (.int p1), .val (.ref b2), .val (.int (7 : Int32)), .val (.int (0 : Int32))] [(.ref b2)])) _
    refine XS.iloadN X54.here hx rfl (hb hby at_86) rfl ?_
    show Steps p.tables e below (T54.setTop (mkF m 87 #[.val (.int p1), .val (.ref b2), .val (.int (7 : Int32)), .val (.int (0 : Int32))] [(.int (7 : Int32)), (.ref b2)])) _
    refine X54.aaload hx (j := (7 : Int32)) (v := (.ref w7)) (by rw [e54]; exact Ar87.1) (State.isArrayOf_alike hZ.alike Ar87.2.1) rfl Ar87.2.2 hin87 f39 (g := (mkF m 87 #[.val (.int p1), .val (.ref b2), .val (.int (7 : Int32)), .val (.int (0 : Int32))] [(.int (7 : Int32)), (.ref b2)])) rfl rfl (hb hby at_87) _ ?_
    show Steps p.tables e below (T54.setTop (mkF m 88 #[.val (.int p1), .val (.ref b2), .val (.int (7 : Int32)), .val (.int (0 : Int32))] [(.ref w7)])) _
    refine st88.trans ?_
    show Steps p.tables e below (T88.setTop (mkF m 91 #[.val (.int p1), .val (.ref b2), .val (.int (7 : Int32)), .val (.int (0 : Int32))] [(.int (0 : Int32))])) _
    refine XS.iloadN X88.here hx rfl (hb hby at_91) rfl ?_
    show Steps p.tables e below (T88.setTop (mkF m 92 #[.val (.int p1), .val (.ref b2), .val (.int (7 : Int32)), .val (.int (0 : Int32))] [(.int (0 : Int32)), (.int (0 : Int32))])) _
    refine XS.icmpNo X88.here hx rfl (hb hby at_92) rfl (teq (by decide : (0 : Int32) = (0 : Int32))).2 ?_
    show Steps p.tables e below (T88.setTop (mkF m 95 #[.val (.int p1), .val (.ref b2), .val (.int (7 : Int32)), .val (.int (0 : Int32))] [])) _
    refine XS.iconst X88.here hx rfl (hb hby at_95) ?_
    show Steps p.tables e below (T88.setTop (mkF m 96 #[.val (.int p1), .val (.ref b2), .val (.int (7 : Int32)), .val (.int (0 : Int32))] [(.int (1 : Int32))])) _
    refine XS.goto X88.here hx rfl (pc0 := 96) (pc' := 100) rfl (hb hby at_96) (by decide) (by decide) ?_
    show Steps p.tables e below (T88.setTop (mkF m 100 #[.val (.int p1), .val (.ref b2), .val (.int (7 : Int32)), .val (.int (0 : Int32))] [(.int (1 : Int32))])) _
    exact retN X88 hx (t := .boolean) Bd.returns (by simp) (hb hby at_100) hr
  · show Q_law Z p1 w0 w1 w2 w3 w4 w5 w6 w7 h0 n0 _ T88.heap _
    exact ⟨rfl, N88, f40⟩
theorem own_mod8 (p1 : Int32) : ((p1 &&& (2147483647 : Int32)) % (8 : Int32)) = (0 : Int32) ∨ ((p1 &&& (2147483647 : Int32)) % (8 : Int32)) = (1 : Int32) ∨ ((p1 &&& (2147483647 : Int32)) % (8 : Int32)) = (2 : Int32) ∨ ((p1 &&& (2147483647 : Int32)) % (8 : Int32)) = (3 : Int32) ∨ ((p1 &&& (2147483647 : Int32)) % (8 : Int32)) = (4 : Int32) ∨ ((p1 &&& (2147483647 : Int32)) % (8 : Int32)) = (5 : Int32) ∨ ((p1 &&& (2147483647 : Int32)) % (8 : Int32)) = (6 : Int32) ∨ ((p1 &&& (2147483647 : Int32)) % (8 : Int32)) = (7 : Int32) := by
  have e := c_mask p1 2147483647 31 (by decide) rfl
  have r := (c_irem (p1 &&& (2147483647 : Int32)) 8 8 rfl).1 (by omega)
  have k : ∀ j : Int32, ((p1 &&& (2147483647 : Int32)) % (8 : Int32)).toInt = j.toInt → ((p1 &&& (2147483647 : Int32)) % (8 : Int32)) = j := fun j u => Int32.toInt_inj.mp u
  by_cases h0 : ((p1 &&& (2147483647 : Int32)) % (8 : Int32)).toInt = 0
  · exact (Or.inl (k (0 : Int32) h0))
  by_cases h1 : ((p1 &&& (2147483647 : Int32)) % (8 : Int32)).toInt = 1
  · exact (Or.inr (Or.inl (k (1 : Int32) h1)))
  by_cases h2 : ((p1 &&& (2147483647 : Int32)) % (8 : Int32)).toInt = 2
  · exact (Or.inr (Or.inr (Or.inl (k (2 : Int32) h2))))
  by_cases h3 : ((p1 &&& (2147483647 : Int32)) % (8 : Int32)).toInt = 3
  · exact (Or.inr (Or.inr (Or.inr (Or.inl (k (3 : Int32) h3)))))
  by_cases h4 : ((p1 &&& (2147483647 : Int32)) % (8 : Int32)).toInt = 4
  · exact (Or.inr (Or.inr (Or.inr (Or.inr (Or.inl (k (4 : Int32) h4))))))
  by_cases h5 : ((p1 &&& (2147483647 : Int32)) % (8 : Int32)).toInt = 5
  · exact (Or.inr (Or.inr (Or.inr (Or.inr (Or.inr (Or.inl (k (5 : Int32) h5)))))))
  by_cases h6 : ((p1 &&& (2147483647 : Int32)) % (8 : Int32)).toInt = 6
  · exact (Or.inr (Or.inr (Or.inr (Or.inr (Or.inr (Or.inr (Or.inl (k (6 : Int32) h6))))))))
  by_cases h7 : ((p1 &&& (2147483647 : Int32)) % (8 : Int32)).toInt = 7
  · exact (Or.inr (Or.inr (Or.inr (Or.inr (Or.inr (Or.inr (Or.inr ((k (7 : Int32) h7)))))))))
  omega
theorem rm_law (l : Launch) (Z : State) (a0 : Array Value) (hw : ∀ d ∈ tables_1, d.before a0 Z = true) (ws : List Jvm.Cond) (p1 : Int32) (w0 : Addr) (w1 : Addr) (w2 : Addr) (w3 : Addr) (w4 : Addr) (w5 : Addr) (w6 : Addr) (w7 : Addr) (h0 : Heap) (n0 : Nat) (O0 : Old Z n0 h0) (S0 : Sta Z Z.heap "com/example/lotista/lotista/retorno/EventField$Form" "NUMBER" "Lcom/example/lotista/lotista/retorno/EventField$Form;" (.ref w0)) (S1 : Sta Z Z.heap "com/example/lotista/lotista/retorno/EventField$Form" "CODE" "Lcom/example/lotista/lotista/retorno/EventField$Form;" (.ref w1)) (S2 : Sta Z Z.heap "com/example/lotista/lotista/retorno/EventField$Form" "ALPHANUMERIC_CODE" "Lcom/example/lotista/lotista/retorno/EventField$Form;" (.ref w2)) (S3 : Sta Z Z.heap "com/example/lotista/lotista/retorno/EventField$Form" "TEXT" "Lcom/example/lotista/lotista/retorno/EventField$Form;" (.ref w3)) (S4 : Sta Z Z.heap "com/example/lotista/lotista/retorno/EventField$Form" "MONEY" "Lcom/example/lotista/lotista/retorno/EventField$Form;" (.ref w4)) (S5 : Sta Z Z.heap "com/example/lotista/lotista/retorno/EventField$Form" "DATE" "Lcom/example/lotista/lotista/retorno/EventField$Form;" (.ref w5)) (S6 : Sta Z Z.heap "com/example/lotista/lotista/retorno/EventField$Form" "GIVEN_DATE" "Lcom/example/lotista/lotista/retorno/EventField$Form;" (.ref w6)) (S7 : Sta Z Z.heap "com/example/lotista/lotista/retorno/EventField$Form" "CODES" "Lcom/example/lotista/lotista/retorno/EventField$Form;" (.ref w7)) (E0 : Exa Z Z.heap w0 "com/example/lotista/lotista/retorno/EventField$Form") (E1 : Exa Z Z.heap w1 "com/example/lotista/lotista/retorno/EventField$Form") (E2 : Exa Z Z.heap w2 "com/example/lotista/lotista/retorno/EventField$Form") (E3 : Exa Z Z.heap w3 "com/example/lotista/lotista/retorno/EventField$Form") (E4 : Exa Z Z.heap w4 "com/example/lotista/lotista/retorno/EventField$Form") (E5 : Exa Z Z.heap w5 "com/example/lotista/lotista/retorno/EventField$Form") (E6 : Exa Z Z.heap w6 "com/example/lotista/lotista/retorno/EventField$Form") (E7 : Exa Z Z.heap w7 "com/example/lotista/lotista/retorno/EventField$Form") (n0_1 : w0 ≠ w1) (n0_2 : w0 ≠ w2) (n0_3 : w0 ≠ w3) (n2_1 : w2 ≠ w1) (n3_1 : w3 ≠ w1) (n3_2 : w3 ≠ w2) (n4_1 : w4 ≠ w1) (n4_2 : w4 ≠ w2) (n4_3 : w4 ≠ w3) (n5_1 : w5 ≠ w1) (n5_2 : w5 ≠ w2) (n5_3 : w5 ≠ w3) (n6_1 : w6 ≠ w1) (n6_2 : w6 ≠ w2) (n6_3 : w6 ≠ w3) (n7_1 : w7 ≠ w1) (n7_2 : w7 ≠ w2) (n7_3 : w7 ≠ w3) :
    MetFree l x (head1 (Jvm.Cond.code x code maxLocals ret :: ws) room_1) (fun as' U => as' = #[(.int p1)] ∧ Z.Warmed39 U.vm ∧ U.heap = h0) (fun _ _ _ _ _ => True) (fun _ U o U' => ∃ v L, o = .returned v ∧ Q_law Z p1 w0 w1 w2 w3 w4 w5 w6 w7 h0 n0 v U'.heap L ∧ FrameEnd U o U' L room_1.cells room_1.slots) := by
  rcases own_mod8 p1 with h | h | h | h | h | h | h | h
  · exact rm_law_0 l Z a0 hw ws p1 w0 w1 w2 w3 w4 w5 w6 w7 h0 n0 O0 S0 S1 S2 S3 S4 S5 S6 S7 E0 E1 E2 E3 E4 E5 E6 E7 n0_1 n0_2 n0_3 n2_1 n3_1 n3_2 n4_1 n4_2 n4_3 n5_1 n5_2 n5_3 n6_1 n6_2 n6_3 n7_1 n7_2 n7_3 h
  · exact rm_law_1 l Z a0 hw ws p1 w0 w1 w2 w3 w4 w5 w6 w7 h0 n0 O0 S0 S1 S2 S3 S4 S5 S6 S7 E0 E1 E2 E3 E4 E5 E6 E7 n0_1 n0_2 n0_3 n2_1 n3_1 n3_2 n4_1 n4_2 n4_3 n5_1 n5_2 n5_3 n6_1 n6_2 n6_3 n7_1 n7_2 n7_3 h
  · exact rm_law_2 l Z a0 hw ws p1 w0 w1 w2 w3 w4 w5 w6 w7 h0 n0 O0 S0 S1 S2 S3 S4 S5 S6 S7 E0 E1 E2 E3 E4 E5 E6 E7 n0_1 n0_2 n0_3 n2_1 n3_1 n3_2 n4_1 n4_2 n4_3 n5_1 n5_2 n5_3 n6_1 n6_2 n6_3 n7_1 n7_2 n7_3 h
  · exact rm_law_3 l Z a0 hw ws p1 w0 w1 w2 w3 w4 w5 w6 w7 h0 n0 O0 S0 S1 S2 S3 S4 S5 S6 S7 E0 E1 E2 E3 E4 E5 E6 E7 n0_1 n0_2 n0_3 n2_1 n3_1 n3_2 n4_1 n4_2 n4_3 n5_1 n5_2 n5_3 n6_1 n6_2 n6_3 n7_1 n7_2 n7_3 h
  · exact rm_law_4 l Z a0 hw ws p1 w0 w1 w2 w3 w4 w5 w6 w7 h0 n0 O0 S0 S1 S2 S3 S4 S5 S6 S7 E0 E1 E2 E3 E4 E5 E6 E7 n0_1 n0_2 n0_3 n2_1 n3_1 n3_2 n4_1 n4_2 n4_3 n5_1 n5_2 n5_3 n6_1 n6_2 n6_3 n7_1 n7_2 n7_3 h
  · exact rm_law_5 l Z a0 hw ws p1 w0 w1 w2 w3 w4 w5 w6 w7 h0 n0 O0 S0 S1 S2 S3 S4 S5 S6 S7 E0 E1 E2 E3 E4 E5 E6 E7 n0_1 n0_2 n0_3 n2_1 n3_1 n3_2 n4_1 n4_2 n4_3 n5_1 n5_2 n5_3 n6_1 n6_2 n6_3 n7_1 n7_2 n7_3 h
  · exact rm_law_6 l Z a0 hw ws p1 w0 w1 w2 w3 w4 w5 w6 w7 h0 n0 O0 S0 S1 S2 S3 S4 S5 S6 S7 E0 E1 E2 E3 E4 E5 E6 E7 n0_1 n0_2 n0_3 n2_1 n3_1 n3_2 n4_1 n4_2 n4_3 n5_1 n5_2 n5_3 n6_1 n6_2 n6_3 n7_1 n7_2 n7_3 h
  · exact rm_law_7 l Z a0 hw ws p1 w0 w1 w2 w3 w4 w5 w6 w7 h0 n0 O0 S0 S1 S2 S3 S4 S5 S6 S7 E0 E1 E2 E3 E4 E5 E6 E7 n0_1 n0_2 n0_3 n2_1 n3_1 n3_2 n4_1 n4_2 n4_3 n5_1 n5_2 n5_3 n6_1 n6_2 n6_3 n7_1 n7_2 n7_3 h
set_option maxRecDepth 65536 in
set_option maxHeartbeats 40000000 in
theorem comes_1 {Post : Tables → Env → Array Value → State → Outcome → State → Prop} (hpost : ∀ tb e args s v u, (limb_1_1.after args s (.returned v) u = true ∧ limb_1_2.after args s (.returned v) u = true ∧ True) → FrameEnd s (.returned v) u (Jvm.fieldLocs frame_1_writes args s ++ Jvm.arrayLocs frame_1_arrays args s ++ Jvm.staticLocs frame_1_statics s) 16 128 → Post tb e args s (.returned v) u) :
    ArmFor flags0 classFile x code maxLocals ret World_1 tables_1 room_1 Calls_1 rest_1 Pre_1 Post := by
  intro l hfl _ _ p e ha hc hk s m args below hf hA hF happ hP
  obtain ⟨hcalls, hrest, hpre⟩ := hP
  obtain ⟨-, -, -, hnamed, -, -, -, hat⟩ := (Spec.applies_iff hf).mp happ
  obtain ⟨hg, hn⟩ := and_e (Cond.before_iff.mp (show (Jvm.Cond.and given_1 narrow_1).before args s = true from hpre))
  obtain ⟨hcount, hgs0⟩ := and_e hg
  have ha0 := hgs0
  obtain ⟨w0, rfl⟩ : ∃ w0 : Value, args = #[w0] := by
    have hs : args.size = 1 := by simpa [Cond.value, given_1] using hcount
    obtain ⟨L⟩ := args
    match L, hs with
    | [w0], _ => exact ⟨w0, rfl⟩
  have hw := fun d (hd : d ∈ tables_1) => atoms_spec (ws := Jvm.Cond.code x code maxLocals ret :: tables_1) hat d (List.mem_cons_of_mem _ hd)
  have hfit : Fit s := fun {y c} hc i hi => by
    obtain ⟨ha, rfl⟩ := Array.getElem?_eq_some_iff.mp hc
    have q := List.all_eq_true.mp ((Array.all_eq_true_iff_forall_mem.mp hF) _ (Array.getElem_mem ha)) i (List.mem_range.mpr hi)
    simpa [Array.getElem?_eq_getElem hi] using q
  obtain ⟨i0, ei0⟩ := is_v ha0
  obtain rfl : w0 = (.int i0) := Option.some.inj ei0
  obtain ⟨x0, y0⟩ := and_e hn
  obtain ⟨w10, ew0⟩ := exa_v x0
  have E0 := Exa.start ew0 x0
  have S0 := Sta.start ew0 (Or.inr ⟨(w_3 hw), (w_4 hw)⟩)
  obtain ⟨x1, y1⟩ := and_e y0
  obtain ⟨w11, ew1⟩ := exa_v x1
  have E1 := Exa.start ew1 x1
  have S1 := Sta.start ew1 (Or.inr ⟨(w_3 hw), (w_7 hw)⟩)
  obtain ⟨x2, y2⟩ := and_e y1
  obtain ⟨w12, ew2⟩ := exa_v x2
  have E2 := Exa.start ew2 x2
  have S2 := Sta.start ew2 (Or.inr ⟨(w_3 hw), (w_9 hw)⟩)
  obtain ⟨x3, y3⟩ := and_e y2
  obtain ⟨w13, ew3⟩ := exa_v x3
  have E3 := Exa.start ew3 x3
  have S3 := Sta.start ew3 (Or.inr ⟨(w_3 hw), (w_11 hw)⟩)
  obtain ⟨x4, y4⟩ := and_e y3
  obtain ⟨w14, ew4⟩ := exa_v x4
  have E4 := Exa.start ew4 x4
  have S4 := Sta.start ew4 (Or.inr ⟨(w_3 hw), (w_13 hw)⟩)
  obtain ⟨x5, y5⟩ := and_e y4
  obtain ⟨w15, ew5⟩ := exa_v x5
  have E5 := Exa.start ew5 x5
  have S5 := Sta.start ew5 (Or.inr ⟨(w_3 hw), (w_15 hw)⟩)
  obtain ⟨x6, y6⟩ := and_e y5
  obtain ⟨w16, ew6⟩ := exa_v x6
  have E6 := Exa.start ew6 x6
  have S6 := Sta.start ew6 (Or.inr ⟨(w_3 hw), (w_17 hw)⟩)
  obtain ⟨x7, y7⟩ := and_e y6
  obtain ⟨w17, ew7⟩ := exa_v x7
  have E7 := Exa.start ew7 x7
  have S7 := Sta.start ew7 (Or.inr ⟨(w_3 hw), (w_19 hw)⟩)
  obtain ⟨x8, y8⟩ := and_e y7
  have F0 := Fld.start ((fld_at ew0).symm.trans (eqv_i (Term.int_eval _) x8))
  obtain ⟨x9, y9⟩ := and_e y8
  have F1 := Fld.start ((fld_at ew1).symm.trans (eqv_i (Term.int_eval _) x9))
  obtain ⟨x10, y10⟩ := and_e y9
  have F2 := Fld.start ((fld_at ew2).symm.trans (eqv_i (Term.int_eval _) x10))
  obtain ⟨x11, y11⟩ := and_e y10
  have F3 := Fld.start ((fld_at ew3).symm.trans (eqv_i (Term.int_eval _) x11))
  obtain ⟨x12, y12⟩ := and_e y11
  have F6 := Fld.start ((fld_at ew6).symm.trans (eqv_i (Term.int_eval _) x12))
  obtain ⟨x13, y13⟩ := and_e y12
  have F7 := Fld.start ((fld_at ew7).symm.trans (eqv_i (Term.int_eval _) x13))
  obtain ⟨x14, y14⟩ := and_e y13
  have F4 := Fld.start ((fld_at ew4).symm.trans (eqv_i (Term.int_eval _) x14))
  have F5 := Fld.start ((fld_at ew5).symm.trans (eqv_i (Term.int_eval _) y14))
  obtain ⟨n, o, h1, h2, h3, _, L, rfl, ⟨rfl, N, -⟩, hq⟩ := rm_law l s _ hw tables_1 i0 w10 w11 w12 w13 w14 w15 w16 w17 s.heap s.heap.size (Old.start s) S0 S1 S2 S3 S4 S5 S6 S7 E0 E1 E2 E3 E4 E5 E6 E7 (Fld.ne F0 F1 (by decide)) (Fld.ne F0 F2 (by decide)) (Fld.ne F0 F3 (by decide)) (Fld.ne F2 F1 (by decide)) (Fld.ne F3 F1 (by decide)) (Fld.ne F3 F2 (by decide)) (Fld.ne F4 F1 (by decide)) (Fld.ne F4 F2 (by decide)) (Fld.ne F4 F3 (by decide)) (Fld.ne F5 F1 (by decide)) (Fld.ne F5 F2 (by decide)) (Fld.ne F5 F3 (by decide)) (Fld.ne F6 F1 (by decide)) (Fld.ne F6 F2 (by decide)) (Fld.ne F6 F3 (by decide)) (Fld.ne F7 F1 (by decide)) (Fld.ne F7 F2 (by decide)) (Fld.ne F7 F3 (by decide)) p e ha hc hk s m _ below hf ((Spec.applies_iff_loose hf).mp happ).1 ⟨rfl, State.Warmed39.refl s, rfl⟩ trivial
  refine ⟨n, _, h1, h2, h3, hpost _ _ _ _ _ _ ⟨Cond.after_iff.mpr rfl, Cond.after_iff.mpr (eq_i res_at (Term.int_eval (1)) rfl), trivial⟩ ⟨hq.1, hq.2.1, (hq.2.2.sift fun y hy => Or.inr (N y hy)).mono (by decide) (by decide)⟩⟩
theorem main_1_1 : Claimed_1_1 := comes_1 fun _ _ _ _ _ _ h hF => ⟨h.1, hF⟩
theorem main_1_2 : Claimed_1_2 := comes_1 fun _ _ _ _ _ _ h hF => ⟨h.2.1, hF⟩
end Jvm.Pilot.@@N@@
namespace Jvm.Pilot.@@N@@
open Jvm Jvm.ClassFile Sem Op Lib Jvm.Free Jvm.Stand Jvm.Pilot.@@N@@.Jvm.D
/-! MADE BY PROGRAM (witnessworld.py) out of the Statement's table words and the real class files: 13 classes; the members and pool entries that the words name. The judged class is class 1, her method 1. -/
namespace start1
open Jvm.ClassFile
def u (s : String) : CpInfo := .utf8 (stringToUtf16 s)
/-- a pool by its gaps: so many unusable entries, then the entry; so many at the end -/
def gap : Nat → List CpInfo → List CpInfo
  | 0, r => r
  | n + 1, r => .unusable :: gap n r
def poolList (es : List (Nat × CpInfo)) (last : Nat) : List CpInfo := es.foldr (fun e r => gap e.1 (e.2 :: r)) (gap last [])
def pool (es : List (Nat × CpInfo)) (last : Nat) : Array CpInfo := ⟨poolList es last⟩
def fileOf (pool : Array CpInfo) (this : Nat) (attrs : Array Attribute := #[]) (ms : Array MethodInfo := #[]) (fl : Nat := 33) (sup : Nat := 0) (ifs : Array Nat := #[]) (fds : Array FieldInfo := #[]) : ClassFile where
  minorVersion := 0
  majorVersion := 65
  constantPool := pool
  accessFlags := fl
  thisClass := this
  superClass := sup
  interfaces := ifs
  fields := fds
  methods := ms
  attributes := attrs
def plain (name : String) (sup : Option ClassId) : Class where
  name := name
  kind := .ordinary
  loader := none
  accessFlags := 33
  super := sup
  interfaces := #[]
  cf := none
  fields := #[]
  methods := #[]
  instanceTypes := #[]
  staticTypes := #[]
  resolved := #[]
  callSites := []
  init := .initialized
  statics := none
  mirror := none

def pool0 : Array CpInfo := pool [(5, u "<init>"), (0, u "()V"), (1, .class_ 10), (1, u "java/lang/Object")] 113

def k0m0 : Method := { name := "<init>", desc := "()V", sig := { parameters := [], returnType := none }, accessFlags := 1, code := none }
/-- java/lang/Object -/
def k0 : Class := { plain "java/lang/Object" none with
  accessFlags := 33
  interfaces := #[]
  cf := some (fileOf pool0 8 #[] #[{ accessFlags := 1, nameIndex := 5, descriptorIndex := 6, attributes := #[] }] 33 0 #[] #[])
  fields := #[]
  methods := #[k0m0]
  instanceTypes := #[]
  staticTypes := #[]
  resolved := Array.replicate 124 none
  statics := none }

def pool1 : Array CpInfo := pool [(2, .class_ 4), (1, u "java/lang/Object"), (0, u "<init>"), (0, u "()V"), (0, .class_ 8), (0, u "com/example/lotista/lotista/retorno/EventField$Form"), (0, .fieldref 7 10), (0, .nameAndType 11 12), (0, u "NUMBER"), (0, u "Lcom/example/lotista/lotista/retorno/EventField$Form;"), (0, .fieldref 7 14), (0, .nameAndType 15 12), (0, u "CODE"), (0, .fieldref 7 17), (0, .nameAndType 18 12), (0, u "ALPHANUMERIC_CODE"), (0, .fieldref 7 20), (0, .nameAndType 21 12), (0, u "TEXT"), (0, .fieldref 7 23), (0, .nameAndType 24 12), (0, u "MONEY"), (0, .fieldref 7 26), (0, .nameAndType 27 12), (0, u "DATE"), (0, .fieldref 7 29), (0, .nameAndType 30 12), (0, u "GIVEN_DATE"), (0, .fieldref 7 32), (0, .nameAndType 33 12), (0, u "CODES"), (0, .integer 2147483647), (0, .methodref 7 36), (0, .nameAndType 37 38), (0, u "isText"), (0, u "()Z"), (0, .class_ 40), (0, u "com/example/lotista/lotista/retorno/FormIsTextPinLaw"), (2, u "law"), (0, u "(I)Z")] 9

def k1m0 : Method := { name := "<init>", desc := "()V", sig := { parameters := [], returnType := none }, accessFlags := 2, code := none }
def k1c1 : Code := { maxStack := 4, maxLocals := 4, code := code, exceptionTable := #[], attributes := #[] }
def k1m1 : Method := { name := "law", desc := "(I)Z", sig := { parameters := [.int], returnType := some .boolean }, accessFlags := 9, code := some k1c1 }
/-- com/example/lotista/lotista/retorno/FormIsTextPinLaw -/
def k1 : Class := { plain "com/example/lotista/lotista/retorno/FormIsTextPinLaw" (some 0) with
  accessFlags := 49
  interfaces := #[]
  cf := some (fileOf pool1 39 #[] #[{ accessFlags := 2, nameIndex := 5, descriptorIndex := 6, attributes := #[] }, { accessFlags := 9, nameIndex := 43, descriptorIndex := 44, attributes := #[] }] 49 2 #[] #[])
  fields := #[]
  methods := #[k1m0, k1m1]
  instanceTypes := #[]
  staticTypes := #[]
  resolved := Array.replicate 54 none
  statics := none }

def pool2 : Array CpInfo := pool [(1, .class_ 2), (0, u "java/lang/constant/Constable"), (0, .class_ 4), (0, u "java/lang/Object")] 6

/-- java/lang/constant/Constable -/
def k2 : Class := { plain "java/lang/constant/Constable" (some 0) with
  accessFlags := 1537
  interfaces := #[]
  cf := some (fileOf pool2 1 #[] #[] 1537 3 #[] #[])
  fields := #[]
  methods := #[]
  instanceTypes := #[]
  staticTypes := #[]
  resolved := Array.replicate 11 none
  statics := none }

def pool3 : Array CpInfo := pool [(1, .class_ 2), (0, u "java/lang/Comparable"), (0, .class_ 4), (0, u "java/lang/Object")] 7

/-- java/lang/Comparable -/
def k3 : Class := { plain "java/lang/Comparable" (some 0) with
  accessFlags := 1537
  interfaces := #[]
  cf := some (fileOf pool3 1 #[] #[] 1537 3 #[] #[])
  fields := #[]
  methods := #[]
  instanceTypes := #[]
  staticTypes := #[]
  resolved := Array.replicate 12 none
  statics := none }

def pool4 : Array CpInfo := pool [(1, .class_ 2), (0, u "java/io/Serializable"), (0, .class_ 4), (0, u "java/lang/Object")] 2

/-- java/io/Serializable -/
def k4 : Class := { plain "java/io/Serializable" (some 0) with
  accessFlags := 1537
  interfaces := #[]
  cf := some (fileOf pool4 1 #[] #[] 1537 3 #[] #[])
  fields := #[]
  methods := #[]
  instanceTypes := #[]
  staticTypes := #[]
  resolved := Array.replicate 7 none
  statics := none }

def pool5 : Array CpInfo := pool [(2, .class_ 4), (1, u "java/lang/Enum"), (0, u "name"), (0, u "Ljava/lang/String;"), (2, u "ordinal"), (0, u "I"), (1, .class_ 14), (1, u "java/lang/Object"), (4, u "hash"), (86, .class_ 108), (1, u "java/lang/Enum$EnumDesc"), (2, .class_ 112), (0, u "java/lang/constant/Constable"), (0, .class_ 114), (0, u "java/lang/Comparable"), (0, .class_ 116), (0, u "java/io/Serializable")] 87

/-- java/lang/Enum -/
def k5 : Class := { plain "java/lang/Enum" (some 0) with
  accessFlags := 1057
  interfaces := #[2, 3, 4]
  cf := some (fileOf pool5 2 #[.nestMembers #[106]] #[] 1057 12 #[111, 113, 115] #[{ accessFlags := 18, nameIndex := 5, descriptorIndex := 6, attributes := #[] }, { accessFlags := 18, nameIndex := 9, descriptorIndex := 10, attributes := #[] }, { accessFlags := 2, nameIndex := 19, descriptorIndex := 10, attributes := #[] }])
  fields := #[{ name := "name", type := (.object "java/lang/String"), accessFlags := 18, slot := 0, constantValue := 0 }, { name := "ordinal", type := .int, accessFlags := 18, slot := 1, constantValue := 0 }, { name := "hash", type := .int, accessFlags := 2, slot := 2, constantValue := 0 }]
  methods := #[]
  instanceTypes := #[(.object "java/lang/String"), .int, .int]
  staticTypes := #[]
  resolved := Array.replicate 204 none
  statics := none }

def pool6 : Array CpInfo := pool [(1, .class_ 2), (0, u "com/example/lotista/lotista/retorno/EventField$Form"), (2, u "NUMBER"), (0, u "Lcom/example/lotista/lotista/retorno/EventField$Form;"), (0, .fieldref 1 8), (0, .nameAndType 9 6), (0, u "CODE"), (0, .fieldref 1 11), (0, .nameAndType 12 6), (0, u "ALPHANUMERIC_CODE"), (0, .fieldref 1 14), (0, .nameAndType 15 6), (0, u "TEXT"), (2, u "MONEY"), (2, u "DATE"), (2, u "GIVEN_DATE"), (2, u "CODES"), (2, u "$VALUES"), (0, u "[Lcom/example/lotista/lotista/retorno/EventField$Form;"), (6, .class_ 40), (1, u "java/lang/Enum"), (26, u "isText"), (0, u "()Z"), (6, .class_ 76), (0, u "com/example/lotista/lotista/retorno/EventField")] 2

def k6c0 : Code := { maxStack := 2, maxLocals := 1, code := prog_123_method_4_code, exceptionTable := #[], attributes := #[] }
def k6m0 : Method := { name := "isText", desc := "()Z", sig := { parameters := [], returnType := some .boolean }, accessFlags := 1, code := some k6c0 }
/-- com/example/lotista/lotista/retorno/EventField$Form -/
def k6 : Class := { plain "com/example/lotista/lotista/retorno/EventField$Form" (some 5) with
  accessFlags := 16433
  interfaces := #[]
  cf := some (fileOf pool6 1 #[.nestHost 75] #[{ accessFlags := 1, nameIndex := 67, descriptorIndex := 68, attributes := #[] }] 16433 38 #[] #[{ accessFlags := 16409, nameIndex := 5, descriptorIndex := 6, attributes := #[] }, { accessFlags := 16409, nameIndex := 9, descriptorIndex := 6, attributes := #[] }, { accessFlags := 16409, nameIndex := 12, descriptorIndex := 6, attributes := #[] }, { accessFlags := 16409, nameIndex := 15, descriptorIndex := 6, attributes := #[] }, { accessFlags := 16409, nameIndex := 18, descriptorIndex := 6, attributes := #[] }, { accessFlags := 16409, nameIndex := 21, descriptorIndex := 6, attributes := #[] }, { accessFlags := 16409, nameIndex := 24, descriptorIndex := 6, attributes := #[] }, { accessFlags := 16409, nameIndex := 27, descriptorIndex := 6, attributes := #[] }, { accessFlags := 4122, nameIndex := 30, descriptorIndex := 31, attributes := #[] }])
  fields := #[{ name := "NUMBER", type := (.object "com/example/lotista/lotista/retorno/EventField$Form"), accessFlags := 16409, slot := 0, constantValue := 0 }, { name := "CODE", type := (.object "com/example/lotista/lotista/retorno/EventField$Form"), accessFlags := 16409, slot := 1, constantValue := 0 }, { name := "ALPHANUMERIC_CODE", type := (.object "com/example/lotista/lotista/retorno/EventField$Form"), accessFlags := 16409, slot := 2, constantValue := 0 }, { name := "TEXT", type := (.object "com/example/lotista/lotista/retorno/EventField$Form"), accessFlags := 16409, slot := 3, constantValue := 0 }, { name := "MONEY", type := (.object "com/example/lotista/lotista/retorno/EventField$Form"), accessFlags := 16409, slot := 4, constantValue := 0 }, { name := "DATE", type := (.object "com/example/lotista/lotista/retorno/EventField$Form"), accessFlags := 16409, slot := 5, constantValue := 0 }, { name := "GIVEN_DATE", type := (.object "com/example/lotista/lotista/retorno/EventField$Form"), accessFlags := 16409, slot := 6, constantValue := 0 }, { name := "CODES", type := (.object "com/example/lotista/lotista/retorno/EventField$Form"), accessFlags := 16409, slot := 7, constantValue := 0 }, { name := "$VALUES", type := (.array (.object "com/example/lotista/lotista/retorno/EventField$Form")), accessFlags := 4122, slot := 8, constantValue := 0 }]
  methods := #[k6m0]
  instanceTypes := #[(.object "java/lang/String"), .int, .int]
  staticTypes := #[(.object "com/example/lotista/lotista/retorno/EventField$Form"), (.object "com/example/lotista/lotista/retorno/EventField$Form"), (.object "com/example/lotista/lotista/retorno/EventField$Form"), (.object "com/example/lotista/lotista/retorno/EventField$Form"), (.object "com/example/lotista/lotista/retorno/EventField$Form"), (.object "com/example/lotista/lotista/retorno/EventField$Form"), (.object "com/example/lotista/lotista/retorno/EventField$Form"), (.object "com/example/lotista/lotista/retorno/EventField$Form"), (.array (.object "com/example/lotista/lotista/retorno/EventField$Form"))]
  resolved := Array.replicate 79 none
  statics := some 0 }

def pool7 : Array CpInfo := pool [(1, u "java/lang/Cloneable"), (0, .class_ 1), (0, u "java/lang/Object"), (0, .class_ 3)] 3

/-- java/lang/Cloneable -/
def k7 : Class := { plain "java/lang/Cloneable" (some 0) with
  accessFlags := 1537
  interfaces := #[]
  cf := some (fileOf pool7 2 #[] #[] 1537 4 #[] #[])
  fields := #[]
  methods := #[]
  instanceTypes := #[]
  staticTypes := #[]
  resolved := Array.replicate 8 none
  statics := none }

/-- the primitive byte -/
def k8 : Class := { plain "byte" none with kind := .primitive 'B', accessFlags := 0x411 }
/-- [B -/
def k9 : Class := { plain "[B" (some 0) with kind := .array 8 .byte, interfaces := #[7, 4], accessFlags := 1041 }

/-- the primitive int -/
def k10 : Class := { plain "int" none with kind := .primitive 'I', accessFlags := 0x411 }
/-- [I -/
def k11 : Class := { plain "[I" (some 0) with kind := .array 10 .int, interfaces := #[7, 4], accessFlags := 1041 }

/-- [Lcom/example/lotista/lotista/retorno/EventField$Form; -/
def k12 : Class := { plain "[Lcom/example/lotista/lotista/retorno/EventField$Form;" (some 0) with kind := .array 6 (.object "com/example/lotista/lotista/retorno/EventField$Form"), interfaces := #[7, 4], accessFlags := 1041 }

def heap : Heap := #[{ cls := 6, slots := #[.ref 1, .ref 2, .ref 3, .ref 4, .ref 5, .ref 6, .ref 7, .ref 8, .null], vm := .statics 6 },
  { cls := 6, slots := #[.null, .int 0, .int 0], vm := .none },
  { cls := 6, slots := #[.null, .int 1, .int 0], vm := .none },
  { cls := 6, slots := #[.null, .int 2, .int 0], vm := .none },
  { cls := 6, slots := #[.null, .int 3, .int 0], vm := .none },
  { cls := 6, slots := #[.null, .int 4, .int 0], vm := .none },
  { cls := 6, slots := #[.null, .int 5, .int 0], vm := .none },
  { cls := 6, slots := #[.null, .int 6, .int 0], vm := .none },
  { cls := 6, slots := #[.null, .int 7, .int 0], vm := .none }]
def classes : Array Class := #[k0, k1, k2, k3, k4, k5, k6, k7, k8, k9, k10, k11, k12]
def interned : List (Array UInt16 × Addr) := []
def slotsUsed : Nat := 33
def theMethod : MethodId := ⟨1, 1⟩
def args0 : Array Value := #[.int 5]
def aboutOver (below : List Frame) : State where
  vm := { classes := classes, interned := interned.toArray }
  heap := heap
  slotsUsed := slotsUsed
  threads := #[{ frames := .invoking theMethod args0 :: below }]
def below0 : List Frame := [.native { method := ⟨0, 0⟩, args := #[] }]
def about1 : State := aboutOver below0
def p0 : Program := .bare "" "" ""
def e0 : Env := launch0.env 0 0 0
theorem w_frames : about1.frames = Frame.invoking theMethod args0 :: below0 := rfl
set_option maxRecDepth 65536 in
theorem w_args : argsFit about1.vm theMethod args0 = true := by decide +kernel
set_option maxRecDepth 65536 in
theorem w_heap : heapFits about1 = true := by decide +kernel
set_option maxRecDepth 65536 in
theorem w_runnable : about1.curStatus? = some .runnable := by decide +kernel
set_option maxRecDepth 65536 in
theorem w_alone : about1.alone = true := by decide +kernel
set_option maxRecDepth 65536 in
theorem w_named : about1.methodNamed? x = some theMethod := by decide +kernel
set_option maxRecDepth 65536 in
theorem w_hears : about1.hears theMethod below0 = true := by decide +kernel
set_option maxRecDepth 65536 in
theorem w_ripe : about1.ripe theMethod args0 below0 = true := by decide +kernel
theorem w_running : about1.status = .running := rfl
set_option maxRecDepth 65536 in
theorem w_room : about1.hasRoom e0.platform room_1 = true :=
  launch0.hasRoom_least _ room_1 (by decide +kernel) (by decide +kernel) (by decide +kernel) (by decide +kernel) (by decide +kernel) (by decide +kernel)
theorem allAtoms_all (ts : List Jvm.Cond) (a : Array Jvm.Value) (st : Jvm.State) : (allAtoms ts).before a st = ts.all (fun c => c.before a st) := by
  induction ts with
  | nil => rfl
  | cons c t ih =>
    show (Jvm.Cond.and c (allAtoms t)).before a st = _
    rw [Jvm.Cond.before_and, ih, List.all_cons]
def words1 : List Jvm.Cond := Jvm.Cond.code x code maxLocals ret :: tables_1
/-- a 'code' word, met by the world's own term for the bytes: nothing is compared byte by byte -/
theorem code_word {y : MethodName} {bytes : ByteArray} {mx : Nat} {rt : Option FieldType} {a : Array Value} {s : State} {m : MethodId} {meth : Method} {c : Code} (h1 : s.methodNamed? y = some m) (h2 : s.vm.method? m = some meth) (h3 : meth.code = some c) (h4 : c.code = bytes)
    (h5 : (c.maxLocals == mx && c.exceptionTable.isEmpty && decide (c.maxStack ≤ mostOperands) && decide (meth.sig.returnType = rt) && !meth.locks && decide (parseMethodDescriptor y.desc = some meth.sig)) = true) : (Jvm.Cond.code y bytes mx rt).before a s = true := by
  simp only [Bool.and_eq_true, beq_iff_eq, Bool.not_eq_true', decide_eq_true_eq] at h5
  obtain ⟨⟨⟨⟨⟨g1, g2⟩, g3⟩, g4⟩, g5⟩, g6⟩ := h5
  simp [Cond.before, Cond.holds, Cond.value, h1, h2, h3, h4, g1, g2, g3, g4, g5, g6]
def isCode : Jvm.Cond → Bool
  | .code _ _ _ _ => true
  | _ => false
theorem all_split {L : List Jvm.Cond} {P : Jvm.Cond → Bool} (h1 : L.all (fun c => isCode c || P c) = true) (h2 : ∀ c ∈ L.filter isCode, P c = true) : L.all P = true := by
  refine List.all_eq_true.mpr fun c hc => ?_
  have h := List.all_eq_true.mp h1 c hc
  rcases Bool.eq_false_or_eq_true (isCode c) with hi | hi
  · exact h2 c (List.mem_filter.mpr ⟨hc, hi⟩)
  · simpa [hi] using h
set_option maxRecDepth 65536 in
theorem w_c0 : (Jvm.Cond.code x code maxLocals ret).before args0 about1 = true := code_word (m := ⟨1, 1⟩) (meth := k1m1) (c := k1c1) (by decide +kernel) rfl rfl rfl (by decide +kernel)
set_option maxRecDepth 65536 in
theorem w_c1 : (Jvm.Cond.code ({ cls := "com/example/lotista/lotista/retorno/EventField$Form", name := "isText", desc := "()Z" } : Jvm.MethodName) prog_123_method_4_code (1 : Nat) (Option.some Jvm.ClassFile.FieldType.boolean)).before args0 about1 = true := code_word (m := ⟨6, 0⟩) (meth := k6m0) (c := k6c0) (by decide +kernel) rfl rfl rfl (by decide +kernel)
def codes1 : List Jvm.Cond := [Jvm.Cond.code x code maxLocals ret, Jvm.Cond.code ({ cls := "com/example/lotista/lotista/retorno/EventField$Form", name := "isText", desc := "()Z" } : Jvm.MethodName) prog_123_method_4_code (1 : Nat) (Option.some Jvm.ClassFile.FieldType.boolean)]
set_option maxRecDepth 65536 in
theorem codes_eq : words1.filter isCode = codes1 := rfl
theorem w_codes : ∀ c ∈ words1.filter isCode, c.before args0 about1 = true := by
  rw [codes_eq]
  intro c hc
  simp only [codes1, List.mem_cons, List.not_mem_nil, or_false] at hc
  rcases hc with rfl | rfl
  · exact w_c0
  · exact w_c1
set_option maxRecDepth 65536 in
theorem w_t1 : (words1.take 24).all (fun c => isCode c || c.before args0 about1) = true := by decide +kernel
set_option maxRecDepth 65536 in
theorem w_t2 : (words1.drop 24).all (fun c => isCode c || c.before args0 about1) = true := by decide +kernel
theorem w_tables : (allAtoms (Jvm.Cond.code x code maxLocals ret :: tables_1)).before args0 about1 = true := by
  rw [allAtoms_all]
  show words1.all (fun c => c.before args0 about1) = true
  refine all_split ?_ w_codes
  rw [← List.take_append_drop 24 words1, List.all_append, w_t1, w_t2]
  rfl
set_option maxRecDepth 65536 in
theorem w_case : (Jvm.Cond.and given_1 narrow_1).before args0 about1 = true := by decide +kernel
theorem w_applies : (headSpec (Jvm.Cond.code x code maxLocals ret :: tables_1) room_1).applies x e0.platform about1 = true :=
  (Spec.applies_iff w_frames).mpr ⟨w_running, w_runnable, w_alone, w_named, w_hears, w_ripe, w_room, w_tables⟩
theorem atStart : AtStart classFile x code maxLocals ret World_1 tables_1 room_1 Calls_1 rest_1 Pre_1 launch0 p0 e0 about1 theMethod args0 below0 :=
  ⟨lists_1, trivial, launch0.admits_env _ _ _, launch0.least_env, fairChoices_fair.cas, fairChoices_fair.clock, w_frames, w_args, w_heap, w_applies, trivial, trivial, w_case⟩
end start1
theorem witness_1 : WitnessClaimed_1 := ⟨start1.p0, start1.e0, start1.about1, start1.theMethod, start1.args0, start1.below0, start1.atStart⟩
end Jvm.Pilot.@@N@@
