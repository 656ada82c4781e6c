import JvmDerived
import JvmDerived.Pilot.@@N@@Statement
import JvmDerived.Pilot.@@N@@Code
set_option linter.unusedVariables false
set_option linter.unusedSimpArgs false
namespace Jvm.RoadKit
open Sem ClassFile Op Lib Jvm.Stand Jvm.Free Jvm.LawKit
section New
variable {p : Program} {l : Launch} {e : Env} {R : Room} {s : State} {m : MethodId} {args : Array Value} {below : List Frame} {meth : Method} {c : Code} {T : State} {locs : List Loc} {cells slots : Nat}
theorem retI (X : Stand p l e R s m args below meth c T locs cells slots) (hx : p.tables.exec = Jvm.exec) {pc : Nat} {Ls : Array Slot} {z : Int32} {rest : List Value} (hret : meth.sig.returnType = some .int) (hd : decode c.code pc = .ok (.ireturn, 1)) {fs : List Frame}
    (hl : ∀ (f : JFrame) (acts : List Action), f.method = m → f.locked = none → f.entered = [] → (doReturn e (T.setTop f) acts (some (.int z))).1 = T.setFrames fs) : Steps p.tables e below (T.setTop (mkF m pc Ls (.int z :: rest))) (T.setFrames fs) := by
  have hm' : T.vm.method? m = some meth := X.method'
  have hn : narrow .int (.int z) = .int z := rfl
  show Steps p.tables e below (T.setTop { method := m, pc := pc, locals := Ls, stack := _ :: rest, locked := none }) _
  jvm_step X.here [X.here.top, hx, hd, hm', hret, hn]
  first | (intro acts; rw [hl _ acts rfl rfl rfl]) | rw [hl _ _ rfl rfl rfl]
  exact Steps.refl _
end New
theorem own_old_le {Z : State} {n0 : Nat} {h : Heap} (O : Old Z n0 h) : n0 ≤ h.size := O.1 ▸ O.2.1
theorem own_reb {s Z : State} {vm1 : Vm} {n : Nat} {own : String} {i : ClassId} (hZ : Z.Warmed39 s.vm) (hown : s.vm.findClass own = some i) (h2 : s.Since vm1 n) : Z.Warmed39 (s.setVm vm1).vm ∧ (s.setVm vm1).vm.findClass own = some i := ⟨State.Warmed39.trans hZ h2.1, (h2.1.alike.findClass _ _).trans hown⟩
theorem own_keep_eq {h0 h h' : Heap} {ws : List Addr} (K : Keep h0 h ws) (e : h' = h) : Keep h0 h' ws := e ▸ K
end Jvm.RoadKit
namespace Jvm.Pilot.@@N@@
open Jvm Jvm.ClassFile Sem Op Lib Jvm.Free Jvm.Stand Jvm.LawKit Jvm.RoadKit Bundle Jvm.Pilot.@@N@@.Jvm.D

theorem own_static_idx {C n d : String} {args : Array Value} {Z : State} {o : Option Outcome} (idx : List Nat) : (Term.static C n d).eval args Z o idx Z = (Term.static C n d).eval args Z o [] Z := by simp [Term.eval]
theorem own_sub_at {args : Array Value} {Z : State} {o : Option Outcome} {idx : List Nat} {t : Term} {j k : Int32} (h : t.eval args Z o idx Z = some (.int j)) : (Term.sub t (Term.int k)).eval args Z o idx Z = some (.int (j - k)) := by simp [Term.eval, h]
theorem own_len {args : Array Value} {Z : State} {t : Term} {a : Addr} {cl : Cell} {ty : FieldType} {z : Int32} (A : Jvm.RoadKit.Arr Z Z.heap a cl ty) (ht : t.eval args Z none [] Z = some (.ref a)) (h : (Term.length t).eval args Z none [] Z = some (.int z)) : cl.slots.size < 2 ^ 31 ∧ cl.slots.size.toInt32 = z := by
  have hA := A.fin (Vm.Alike.refl _)
  simp [Term.eval, ht, hA] at h
  exact h
theorem w_0 {a0 : Array Value} {Z : State} (hw : ∀ d ∈ tables_1, d.before a0 Z = true) : (Jvm.Cond.classLink "com/example/countinghouse/countinghouse/ResultRowPinLaw" (2 : Nat) "java/lang/Object").before a0 Z = true := hw _ (List.mem_of_getElem? (i := 0) rfl)
theorem w_1 {a0 : Array Value} {Z : State} (hw : ∀ d ∈ tables_1, d.before a0 Z = true) : (Jvm.Cond.arrayOver (Jvm.ClassFile.FieldType.object "java/lang/Object")).before a0 Z = true := hw _ (List.mem_of_getElem? (i := 1) rfl)
theorem w_2 {a0 : Array Value} {Z : State} (hw : ∀ d ∈ tables_1, d.before a0 Z = true) : (Jvm.Cond.methodLink "com/example/countinghouse/countinghouse/ResultRowPinLaw" (7 : Nat) ({ cls := "java/lang/Integer", name := "valueOf", desc := "(I)Ljava/lang/Integer;" } : Jvm.MethodName)).before a0 Z = true := hw _ (List.mem_of_getElem? (i := 2) rfl)
theorem w_3 {a0 : Array Value} {Z : State} (hw : ∀ d ∈ tables_1, d.before a0 Z = true) : (Jvm.Cond.static ({ cls := "java/lang/Integer", name := "valueOf", desc := "(I)Ljava/lang/Integer;" } : Jvm.MethodName)).before a0 Z = true := hw _ (List.mem_of_getElem? (i := 3) rfl)
theorem w_4 {a0 : Array Value} {Z : State} (hw : ∀ d ∈ tables_1, d.before a0 Z = true) : (Jvm.Cond.initialized "java/lang/Integer").before a0 Z = true := hw _ (List.mem_of_getElem? (i := 4) rfl)
theorem w_5 {a0 : Array Value} {Z : State} (hw : ∀ d ∈ tables_1, d.before a0 Z = true) : (Jvm.Cond.code ({ cls := "java/lang/Integer", name := "valueOf", desc := "(I)Ljava/lang/Integer;" } : Jvm.MethodName) jdk_33_method_22_code (1 : Nat) (Option.some (Jvm.ClassFile.FieldType.object "java/lang/Integer"))).before a0 Z = true := hw _ (List.mem_of_getElem? (i := 5) rfl)
theorem w_6 {a0 : Array Value} {Z : State} (hw : ∀ d ∈ tables_1, d.before a0 Z = true) : (Jvm.Cond.fieldLink "java/lang/Integer" (191 : Nat) "java/lang/Integer$IntegerCache" "high" "I").before a0 Z = true := hw _ (List.mem_of_getElem? (i := 6) rfl)
theorem w_7 {a0 : Array Value} {Z : State} (hw : ∀ d ∈ tables_1, d.before a0 Z = true) : (Jvm.Cond.initialized "java/lang/Integer$IntegerCache").before a0 Z = true := hw _ (List.mem_of_getElem? (i := 7) rfl)
theorem w_8 {a0 : Array Value} {Z : State} (hw : ∀ d ∈ tables_1, d.before a0 Z = true) : (Jvm.Cond.fieldLink "java/lang/Integer" (195 : Nat) "java/lang/Integer$IntegerCache" "cache" "[Ljava/lang/Integer;").before a0 Z = true := hw _ (List.mem_of_getElem? (i := 8) rfl)
theorem w_9 {a0 : Array Value} {Z : State} (hw : ∀ d ∈ tables_1, d.before a0 Z = true) : (Jvm.Cond.castable "java/lang/Integer" "java/lang/Object").before a0 Z = true := hw _ (List.mem_of_getElem? (i := 9) rfl)
theorem w_10 {a0 : Array Value} {Z : State} (hw : ∀ d ∈ tables_1, d.before a0 Z = true) : (Jvm.Cond.classLink "com/example/countinghouse/countinghouse/ResultRowPinLaw" (13 : Nat) "java/util/ArrayList").before a0 Z = true := hw _ (List.mem_of_getElem? (i := 10) rfl)
theorem w_11 {a0 : Array Value} {Z : State} (hw : ∀ d ∈ tables_1, d.before a0 Z = true) : (Jvm.Cond.instantiable "java/util/ArrayList" (3 : Nat)).before a0 Z = true := hw _ (List.mem_of_getElem? (i := 11) rfl)
theorem w_12 {a0 : Array Value} {Z : State} (hw : ∀ d ∈ tables_1, d.before a0 Z = true) : (Jvm.Cond.initialized "java/util/ArrayList").before a0 Z = true := hw _ (List.mem_of_getElem? (i := 12) rfl)
theorem w_13 {a0 : Array Value} {Z : State} (hw : ∀ d ∈ tables_1, d.before a0 Z = true) : (Jvm.Cond.methodLink "com/example/countinghouse/countinghouse/ResultRowPinLaw" (15 : Nat) ({ cls := "java/util/ArrayList", name := "<init>", desc := "()V" } : Jvm.MethodName)).before a0 Z = true := hw _ (List.mem_of_getElem? (i := 13) rfl)
theorem w_14 {a0 : Array Value} {Z : State} (hw : ∀ d ∈ tables_1, d.before a0 Z = true) : (Jvm.Cond.instanceMethod ({ cls := "java/util/ArrayList", name := "<init>", desc := "()V" } : Jvm.MethodName)).before a0 Z = true := hw _ (List.mem_of_getElem? (i := 14) rfl)
theorem w_15 {a0 : Array Value} {Z : State} (hw : ∀ d ∈ tables_1, d.before a0 Z = true) : (Jvm.Cond.code ({ cls := "java/util/ArrayList", name := "<init>", desc := "()V" } : Jvm.MethodName) jdk_38_method_2_code (1 : Nat) (Option.none : Option Jvm.ClassFile.FieldType)).before a0 Z = true := hw _ (List.mem_of_getElem? (i := 15) rfl)
theorem w_16 {a0 : Array Value} {Z : State} (hw : ∀ d ∈ tables_1, d.before a0 Z = true) : (Jvm.Cond.methodLink "java/util/ArrayList" (1 : Nat) ({ cls := "java/util/AbstractList", name := "<init>", desc := "()V" } : Jvm.MethodName)).before a0 Z = true := hw _ (List.mem_of_getElem? (i := 16) rfl)
theorem w_17 {a0 : Array Value} {Z : State} (hw : ∀ d ∈ tables_1, d.before a0 Z = true) : (Jvm.Cond.instanceMethod ({ cls := "java/util/AbstractList", name := "<init>", desc := "()V" } : Jvm.MethodName)).before a0 Z = true := hw _ (List.mem_of_getElem? (i := 17) rfl)
theorem w_20 {a0 : Array Value} {Z : State} (hw : ∀ d ∈ tables_1, d.before a0 Z = true) : (Jvm.Cond.initialized "java/util/AbstractList").before a0 Z = true := hw _ (List.mem_of_getElem? (i := 20) rfl)
theorem w_21 {a0 : Array Value} {Z : State} (hw : ∀ d ∈ tables_1, d.before a0 Z = true) : (Jvm.Cond.code ({ cls := "java/util/AbstractList", name := "<init>", desc := "()V" } : Jvm.MethodName) jdk_39_method_1_code (1 : Nat) (Option.none : Option Jvm.ClassFile.FieldType)).before a0 Z = true := hw _ (List.mem_of_getElem? (i := 21) rfl)
theorem w_22 {a0 : Array Value} {Z : State} (hw : ∀ d ∈ tables_1, d.before a0 Z = true) : (Jvm.Cond.methodLink "java/util/AbstractList" (1 : Nat) ({ cls := "java/util/AbstractCollection", name := "<init>", desc := "()V" } : Jvm.MethodName)).before a0 Z = true := hw _ (List.mem_of_getElem? (i := 22) rfl)
theorem w_23 {a0 : Array Value} {Z : State} (hw : ∀ d ∈ tables_1, d.before a0 Z = true) : (Jvm.Cond.instanceMethod ({ cls := "java/util/AbstractCollection", name := "<init>", desc := "()V" } : Jvm.MethodName)).before a0 Z = true := hw _ (List.mem_of_getElem? (i := 23) rfl)
theorem w_26 {a0 : Array Value} {Z : State} (hw : ∀ d ∈ tables_1, d.before a0 Z = true) : (Jvm.Cond.initialized "java/util/AbstractCollection").before a0 Z = true := hw _ (List.mem_of_getElem? (i := 26) rfl)
theorem w_27 {a0 : Array Value} {Z : State} (hw : ∀ d ∈ tables_1, d.before a0 Z = true) : (Jvm.Cond.code ({ cls := "java/util/AbstractCollection", name := "<init>", desc := "()V" } : Jvm.MethodName) jdk_22_method_1_code (1 : Nat) (Option.none : Option Jvm.ClassFile.FieldType)).before a0 Z = true := hw _ (List.mem_of_getElem? (i := 27) rfl)
theorem w_28 {a0 : Array Value} {Z : State} (hw : ∀ d ∈ tables_1, d.before a0 Z = true) : (Jvm.Cond.methodLink "java/util/AbstractCollection" (1 : Nat) ({ cls := "java/lang/Object", name := "<init>", desc := "()V" } : Jvm.MethodName)).before a0 Z = true := hw _ (List.mem_of_getElem? (i := 28) rfl)
theorem w_29 {a0 : Array Value} {Z : State} (hw : ∀ d ∈ tables_1, d.before a0 Z = true) : (Jvm.Cond.instanceMethod ({ cls := "java/lang/Object", name := "<init>", desc := "()V" } : Jvm.MethodName)).before a0 Z = true := hw _ (List.mem_of_getElem? (i := 29) rfl)
theorem w_30 {a0 : Array Value} {Z : State} (hw : ∀ d ∈ tables_1, d.before a0 Z = true) : (Jvm.Cond.code ({ cls := "java/lang/Object", name := "<init>", desc := "()V" } : Jvm.MethodName) object_method_1_code (1 : Nat) (Option.none : Option Jvm.ClassFile.FieldType)).before a0 Z = true := hw _ (List.mem_of_getElem? (i := 30) rfl)
theorem w_31 {a0 : Array Value} {Z : State} (hw : ∀ d ∈ tables_1, d.before a0 Z = true) : (Jvm.Cond.fieldLink "java/util/AbstractList" (7 : Nat) "java/util/AbstractList" "modCount" "I").before a0 Z = true := hw _ (List.mem_of_getElem? (i := 31) rfl)
theorem w_32 {a0 : Array Value} {Z : State} (hw : ∀ d ∈ tables_1, d.before a0 Z = true) : (Jvm.Cond.lays "java/util/ArrayList" "java/util/AbstractList" "modCount" "I").before a0 Z = true := hw _ (List.mem_of_getElem? (i := 32) rfl)
theorem w_33 {a0 : Array Value} {Z : State} (hw : ∀ d ∈ tables_1, d.before a0 Z = true) : (Jvm.Cond.fieldLink "java/util/ArrayList" (39 : Nat) "java/util/ArrayList" "DEFAULTCAPACITY_EMPTY_ELEMENTDATA" "[Ljava/lang/Object;").before a0 Z = true := hw _ (List.mem_of_getElem? (i := 33) rfl)
theorem w_34 {a0 : Array Value} {Z : State} (hw : ∀ d ∈ tables_1, d.before a0 Z = true) : (Jvm.Cond.fieldLink "java/util/ArrayList" (9 : Nat) "java/util/ArrayList" "elementData" "[Ljava/lang/Object;").before a0 Z = true := hw _ (List.mem_of_getElem? (i := 34) rfl)
theorem w_35 {a0 : Array Value} {Z : State} (hw : ∀ d ∈ tables_1, d.before a0 Z = true) : (Jvm.Cond.lays "java/util/ArrayList" "java/util/ArrayList" "elementData" "[Ljava/lang/Object;").before a0 Z = true := hw _ (List.mem_of_getElem? (i := 35) rfl)
theorem w_36 {a0 : Array Value} {Z : State} (hw : ∀ d ∈ tables_1, d.before a0 Z = true) : (Jvm.Cond.classLink "com/example/countinghouse/countinghouse/ResultRowPinLaw" (20 : Nat) "com/example/countinghouse/countinghouse/RoundTrip$Result").before a0 Z = true := hw _ (List.mem_of_getElem? (i := 36) rfl)
theorem w_37 {a0 : Array Value} {Z : State} (hw : ∀ d ∈ tables_1, d.before a0 Z = true) : (Jvm.Cond.instantiable "com/example/countinghouse/countinghouse/RoundTrip$Result" (2 : Nat)).before a0 Z = true := hw _ (List.mem_of_getElem? (i := 37) rfl)
theorem w_38 {a0 : Array Value} {Z : State} (hw : ∀ d ∈ tables_1, d.before a0 Z = true) : (Jvm.Cond.initialized "com/example/countinghouse/countinghouse/RoundTrip$Result").before a0 Z = true := hw _ (List.mem_of_getElem? (i := 38) rfl)
theorem w_39 {a0 : Array Value} {Z : State} (hw : ∀ d ∈ tables_1, d.before a0 Z = true) : (Jvm.Cond.methodLink "com/example/countinghouse/countinghouse/ResultRowPinLaw" (22 : Nat) ({ cls := "com/example/countinghouse/countinghouse/RoundTrip$Result", name := "<init>", desc := "(Ljava/util/List;I)V" } : Jvm.MethodName)).before a0 Z = true := hw _ (List.mem_of_getElem? (i := 39) rfl)
theorem w_40 {a0 : Array Value} {Z : State} (hw : ∀ d ∈ tables_1, d.before a0 Z = true) : (Jvm.Cond.instanceMethod ({ cls := "com/example/countinghouse/countinghouse/RoundTrip$Result", name := "<init>", desc := "(Ljava/util/List;I)V" } : Jvm.MethodName)).before a0 Z = true := hw _ (List.mem_of_getElem? (i := 40) rfl)
theorem w_41 {a0 : Array Value} {Z : State} (hw : ∀ d ∈ tables_1, d.before a0 Z = true) : (Jvm.Cond.code ({ cls := "com/example/countinghouse/countinghouse/RoundTrip$Result", name := "<init>", desc := "(Ljava/util/List;I)V" } : Jvm.MethodName) prog_8_method_1_code (3 : Nat) (Option.none : Option Jvm.ClassFile.FieldType)).before a0 Z = true := hw _ (List.mem_of_getElem? (i := 41) rfl)
theorem w_42 {a0 : Array Value} {Z : State} (hw : ∀ d ∈ tables_1, d.before a0 Z = true) : (Jvm.Cond.methodLink "com/example/countinghouse/countinghouse/RoundTrip$Result" (1 : Nat) ({ cls := "java/lang/Record", name := "<init>", desc := "()V" } : Jvm.MethodName)).before a0 Z = true := hw _ (List.mem_of_getElem? (i := 42) rfl)
theorem w_43 {a0 : Array Value} {Z : State} (hw : ∀ d ∈ tables_1, d.before a0 Z = true) : (Jvm.Cond.instanceMethod ({ cls := "java/lang/Record", name := "<init>", desc := "()V" } : Jvm.MethodName)).before a0 Z = true := hw _ (List.mem_of_getElem? (i := 43) rfl)
theorem w_45 {a0 : Array Value} {Z : State} (hw : ∀ d ∈ tables_1, d.before a0 Z = true) : (Jvm.Cond.initialized "java/lang/Record").before a0 Z = true := hw _ (List.mem_of_getElem? (i := 45) rfl)
theorem w_46 {a0 : Array Value} {Z : State} (hw : ∀ d ∈ tables_1, d.before a0 Z = true) : (Jvm.Cond.code ({ cls := "java/lang/Record", name := "<init>", desc := "()V" } : Jvm.MethodName) jdk_30_method_1_code (1 : Nat) (Option.none : Option Jvm.ClassFile.FieldType)).before a0 Z = true := hw _ (List.mem_of_getElem? (i := 46) rfl)
theorem w_47 {a0 : Array Value} {Z : State} (hw : ∀ d ∈ tables_1, d.before a0 Z = true) : (Jvm.Cond.methodLink "java/lang/Record" (1 : Nat) ({ cls := "java/lang/Object", name := "<init>", desc := "()V" } : Jvm.MethodName)).before a0 Z = true := hw _ (List.mem_of_getElem? (i := 47) rfl)
theorem w_48 {a0 : Array Value} {Z : State} (hw : ∀ d ∈ tables_1, d.before a0 Z = true) : (Jvm.Cond.fieldLink "com/example/countinghouse/countinghouse/RoundTrip$Result" (7 : Nat) "com/example/countinghouse/countinghouse/RoundTrip$Result" "rows" "Ljava/util/List;").before a0 Z = true := hw _ (List.mem_of_getElem? (i := 48) rfl)
theorem w_49 {a0 : Array Value} {Z : State} (hw : ∀ d ∈ tables_1, d.before a0 Z = true) : (Jvm.Cond.laysFinal "com/example/countinghouse/countinghouse/RoundTrip$Result" "com/example/countinghouse/countinghouse/RoundTrip$Result" "rows" "Ljava/util/List;").before a0 Z = true := hw _ (List.mem_of_getElem? (i := 49) rfl)
theorem w_50 {a0 : Array Value} {Z : State} (hw : ∀ d ∈ tables_1, d.before a0 Z = true) : (Jvm.Cond.fieldLink "com/example/countinghouse/countinghouse/RoundTrip$Result" (13 : Nat) "com/example/countinghouse/countinghouse/RoundTrip$Result" "changed" "I").before a0 Z = true := hw _ (List.mem_of_getElem? (i := 50) rfl)
theorem w_51 {a0 : Array Value} {Z : State} (hw : ∀ d ∈ tables_1, d.before a0 Z = true) : (Jvm.Cond.laysFinal "com/example/countinghouse/countinghouse/RoundTrip$Result" "com/example/countinghouse/countinghouse/RoundTrip$Result" "changed" "I").before a0 Z = true := hw _ (List.mem_of_getElem? (i := 51) rfl)
theorem w_52 {a0 : Array Value} {Z : State} (hw : ∀ d ∈ tables_1, d.before a0 Z = true) : (Jvm.Cond.methodLink "com/example/countinghouse/countinghouse/ResultRowPinLaw" (25 : Nat) ({ cls := "com/example/countinghouse/countinghouse/RoundTrip$Result", name := "row", desc := "()[Ljava/lang/Object;" } : Jvm.MethodName)).before a0 Z = true := hw _ (List.mem_of_getElem? (i := 52) rfl)
theorem w_53 {a0 : Array Value} {Z : State} (hw : ∀ d ∈ tables_1, d.before a0 Z = true) : (Jvm.Cond.declares ({ cls := "com/example/countinghouse/countinghouse/RoundTrip$Result", name := "row", desc := "()[Ljava/lang/Object;" } : Jvm.MethodName)).before a0 Z = true := hw _ (List.mem_of_getElem? (i := 53) rfl)
theorem w_54 {a0 : Array Value} {Z : State} (hw : ∀ d ∈ tables_1, d.before a0 Z = true) : (Jvm.Cond.instanceMethod ({ cls := "com/example/countinghouse/countinghouse/RoundTrip$Result", name := "row", desc := "()[Ljava/lang/Object;" } : Jvm.MethodName)).before a0 Z = true := hw _ (List.mem_of_getElem? (i := 54) rfl)
theorem w_55 {a0 : Array Value} {Z : State} (hw : ∀ d ∈ tables_1, d.before a0 Z = true) : (Jvm.Cond.selects "com/example/countinghouse/countinghouse/RoundTrip$Result" ({ cls := "com/example/countinghouse/countinghouse/RoundTrip$Result", name := "row", desc := "()[Ljava/lang/Object;" } : Jvm.MethodName) ({ cls := "com/example/countinghouse/countinghouse/RoundTrip$Result", name := "row", desc := "()[Ljava/lang/Object;" } : Jvm.MethodName)).before a0 Z = true := hw _ (List.mem_of_getElem? (i := 55) rfl)
theorem w_56 {a0 : Array Value} {Z : State} (hw : ∀ d ∈ tables_1, d.before a0 Z = true) : (Jvm.Cond.code ({ cls := "com/example/countinghouse/countinghouse/RoundTrip$Result", name := "row", desc := "()[Ljava/lang/Object;" } : Jvm.MethodName) prog_8_method_2_code (1 : Nat) (Option.some (Jvm.ClassFile.FieldType.array (Jvm.ClassFile.FieldType.object "java/lang/Object")))).before a0 Z = true := hw _ (List.mem_of_getElem? (i := 56) rfl)
theorem w_57 {a0 : Array Value} {Z : State} (hw : ∀ d ∈ tables_1, d.before a0 Z = true) : (Jvm.Cond.methodLink "com/example/countinghouse/countinghouse/RoundTrip$Result" (17 : Nat) ({ cls := "java/util/List", name := "isEmpty", desc := "()Z" } : Jvm.MethodName)).before a0 Z = true := hw _ (List.mem_of_getElem? (i := 57) rfl)
theorem w_58 {a0 : Array Value} {Z : State} (hw : ∀ d ∈ tables_1, d.before a0 Z = true) : (Jvm.Cond.declares ({ cls := "java/util/List", name := "isEmpty", desc := "()Z" } : Jvm.MethodName)).before a0 Z = true := hw _ (List.mem_of_getElem? (i := 58) rfl)
theorem w_59 {a0 : Array Value} {Z : State} (hw : ∀ d ∈ tables_1, d.before a0 Z = true) : (Jvm.Cond.interfaceMethod "java/util/List" "java/util/List" "isEmpty" "()Z").before a0 Z = true := hw _ (List.mem_of_getElem? (i := 59) rfl)
theorem w_60 {a0 : Array Value} {Z : State} (hw : ∀ d ∈ tables_1, d.before a0 Z = true) : (Jvm.Cond.selects "java/util/ArrayList" ({ cls := "java/util/List", name := "isEmpty", desc := "()Z" } : Jvm.MethodName) ({ cls := "java/util/ArrayList", name := "isEmpty", desc := "()Z" } : Jvm.MethodName)).before a0 Z = true := hw _ (List.mem_of_getElem? (i := 60) rfl)
theorem w_61 {a0 : Array Value} {Z : State} (hw : ∀ d ∈ tables_1, d.before a0 Z = true) : (Jvm.Cond.instanceMethod ({ cls := "java/util/ArrayList", name := "isEmpty", desc := "()Z" } : Jvm.MethodName)).before a0 Z = true := hw _ (List.mem_of_getElem? (i := 61) rfl)
theorem w_62 {a0 : Array Value} {Z : State} (hw : ∀ d ∈ tables_1, d.before a0 Z = true) : (Jvm.Cond.publicMethod ({ cls := "java/util/ArrayList", name := "isEmpty", desc := "()Z" } : Jvm.MethodName)).before a0 Z = true := hw _ (List.mem_of_getElem? (i := 62) rfl)
theorem w_63 {a0 : Array Value} {Z : State} (hw : ∀ d ∈ tables_1, d.before a0 Z = true) : (Jvm.Cond.unhidden "java/util/ArrayList" "isEmpty" "()Z").before a0 Z = true := hw _ (List.mem_of_getElem? (i := 63) rfl)
theorem w_64 {a0 : Array Value} {Z : State} (hw : ∀ d ∈ tables_1, d.before a0 Z = true) : (Jvm.Cond.castable "java/util/ArrayList" "java/util/List").before a0 Z = true := hw _ (List.mem_of_getElem? (i := 64) rfl)
theorem w_65 {a0 : Array Value} {Z : State} (hw : ∀ d ∈ tables_1, d.before a0 Z = true) : (Jvm.Cond.code ({ cls := "java/util/ArrayList", name := "isEmpty", desc := "()Z" } : Jvm.MethodName) jdk_38_method_9_code (1 : Nat) (Option.some Jvm.ClassFile.FieldType.boolean)).before a0 Z = true := hw _ (List.mem_of_getElem? (i := 65) rfl)
theorem w_66 {a0 : Array Value} {Z : State} (hw : ∀ d ∈ tables_1, d.before a0 Z = true) : (Jvm.Cond.fieldLink "java/util/ArrayList" (48 : Nat) "java/util/ArrayList" "size" "I").before a0 Z = true := hw _ (List.mem_of_getElem? (i := 66) rfl)
theorem w_67 {a0 : Array Value} {Z : State} (hw : ∀ d ∈ tables_1, d.before a0 Z = true) : (Jvm.Cond.lays "java/util/ArrayList" "java/util/ArrayList" "size" "I").before a0 Z = true := hw _ (List.mem_of_getElem? (i := 67) rfl)
theorem w_68 {a0 : Array Value} {Z : State} (hw : ∀ d ∈ tables_1, d.before a0 Z = true) : (Jvm.Cond.methodLink "com/example/countinghouse/countinghouse/ResultRowPinLaw" (33 : Nat) ({ cls := "com/example/countinghouse/countinghouse/RoundTrip$Result", name := "rows", desc := "()Ljava/util/List;" } : Jvm.MethodName)).before a0 Z = true := hw _ (List.mem_of_getElem? (i := 68) rfl)
theorem w_69 {a0 : Array Value} {Z : State} (hw : ∀ d ∈ tables_1, d.before a0 Z = true) : (Jvm.Cond.declares ({ cls := "com/example/countinghouse/countinghouse/RoundTrip$Result", name := "rows", desc := "()Ljava/util/List;" } : Jvm.MethodName)).before a0 Z = true := hw _ (List.mem_of_getElem? (i := 69) rfl)
theorem w_70 {a0 : Array Value} {Z : State} (hw : ∀ d ∈ tables_1, d.before a0 Z = true) : (Jvm.Cond.instanceMethod ({ cls := "com/example/countinghouse/countinghouse/RoundTrip$Result", name := "rows", desc := "()Ljava/util/List;" } : Jvm.MethodName)).before a0 Z = true := hw _ (List.mem_of_getElem? (i := 70) rfl)
theorem w_71 {a0 : Array Value} {Z : State} (hw : ∀ d ∈ tables_1, d.before a0 Z = true) : (Jvm.Cond.selects "com/example/countinghouse/countinghouse/RoundTrip$Result" ({ cls := "com/example/countinghouse/countinghouse/RoundTrip$Result", name := "rows", desc := "()Ljava/util/List;" } : Jvm.MethodName) ({ cls := "com/example/countinghouse/countinghouse/RoundTrip$Result", name := "rows", desc := "()Ljava/util/List;" } : Jvm.MethodName)).before a0 Z = true := hw _ (List.mem_of_getElem? (i := 71) rfl)
theorem w_72 {a0 : Array Value} {Z : State} (hw : ∀ d ∈ tables_1, d.before a0 Z = true) : (Jvm.Cond.code ({ cls := "com/example/countinghouse/countinghouse/RoundTrip$Result", name := "rows", desc := "()Ljava/util/List;" } : Jvm.MethodName) prog_8_method_6_code (1 : Nat) (Option.some (Jvm.ClassFile.FieldType.object "java/util/List"))).before a0 Z = true := hw _ (List.mem_of_getElem? (i := 72) rfl)
theorem w_73 {a0 : Array Value} {Z : State} (hw : ∀ d ∈ tables_1, d.before a0 Z = true) : (Jvm.Cond.methodLink "com/example/countinghouse/countinghouse/ResultRowPinLaw" (37 : Nat) ({ cls := "java/util/List", name := "size", desc := "()I" } : Jvm.MethodName)).before a0 Z = true := hw _ (List.mem_of_getElem? (i := 73) rfl)
theorem w_74 {a0 : Array Value} {Z : State} (hw : ∀ d ∈ tables_1, d.before a0 Z = true) : (Jvm.Cond.declares ({ cls := "java/util/List", name := "size", desc := "()I" } : Jvm.MethodName)).before a0 Z = true := hw _ (List.mem_of_getElem? (i := 74) rfl)
theorem w_75 {a0 : Array Value} {Z : State} (hw : ∀ d ∈ tables_1, d.before a0 Z = true) : (Jvm.Cond.interfaceMethod "java/util/List" "java/util/List" "size" "()I").before a0 Z = true := hw _ (List.mem_of_getElem? (i := 75) rfl)
theorem w_76 {a0 : Array Value} {Z : State} (hw : ∀ d ∈ tables_1, d.before a0 Z = true) : (Jvm.Cond.selects "java/util/ArrayList" ({ cls := "java/util/List", name := "size", desc := "()I" } : Jvm.MethodName) ({ cls := "java/util/ArrayList", name := "size", desc := "()I" } : Jvm.MethodName)).before a0 Z = true := hw _ (List.mem_of_getElem? (i := 76) rfl)
theorem w_77 {a0 : Array Value} {Z : State} (hw : ∀ d ∈ tables_1, d.before a0 Z = true) : (Jvm.Cond.instanceMethod ({ cls := "java/util/ArrayList", name := "size", desc := "()I" } : Jvm.MethodName)).before a0 Z = true := hw _ (List.mem_of_getElem? (i := 77) rfl)
theorem w_78 {a0 : Array Value} {Z : State} (hw : ∀ d ∈ tables_1, d.before a0 Z = true) : (Jvm.Cond.publicMethod ({ cls := "java/util/ArrayList", name := "size", desc := "()I" } : Jvm.MethodName)).before a0 Z = true := hw _ (List.mem_of_getElem? (i := 78) rfl)
theorem w_79 {a0 : Array Value} {Z : State} (hw : ∀ d ∈ tables_1, d.before a0 Z = true) : (Jvm.Cond.unhidden "java/util/ArrayList" "size" "()I").before a0 Z = true := hw _ (List.mem_of_getElem? (i := 79) rfl)
theorem w_80 {a0 : Array Value} {Z : State} (hw : ∀ d ∈ tables_1, d.before a0 Z = true) : (Jvm.Cond.code ({ cls := "java/util/ArrayList", name := "size", desc := "()I" } : Jvm.MethodName) jdk_38_method_8_code (1 : Nat) (Option.some Jvm.ClassFile.FieldType.int)).before a0 Z = true := hw _ (List.mem_of_getElem? (i := 80) rfl)
theorem w_81 {a0 : Array Value} {Z : State} (hw : ∀ d ∈ tables_1, d.before a0 Z = true) : (Jvm.Cond.methodLink "com/example/countinghouse/countinghouse/ResultRowPinLaw" (42 : Nat) ({ cls := "com/example/countinghouse/countinghouse/RoundTrip$Result", name := "changed", desc := "()I" } : Jvm.MethodName)).before a0 Z = true := hw _ (List.mem_of_getElem? (i := 81) rfl)
theorem w_82 {a0 : Array Value} {Z : State} (hw : ∀ d ∈ tables_1, d.before a0 Z = true) : (Jvm.Cond.declares ({ cls := "com/example/countinghouse/countinghouse/RoundTrip$Result", name := "changed", desc := "()I" } : Jvm.MethodName)).before a0 Z = true := hw _ (List.mem_of_getElem? (i := 82) rfl)
theorem w_83 {a0 : Array Value} {Z : State} (hw : ∀ d ∈ tables_1, d.before a0 Z = true) : (Jvm.Cond.instanceMethod ({ cls := "com/example/countinghouse/countinghouse/RoundTrip$Result", name := "changed", desc := "()I" } : Jvm.MethodName)).before a0 Z = true := hw _ (List.mem_of_getElem? (i := 83) rfl)
theorem w_84 {a0 : Array Value} {Z : State} (hw : ∀ d ∈ tables_1, d.before a0 Z = true) : (Jvm.Cond.selects "com/example/countinghouse/countinghouse/RoundTrip$Result" ({ cls := "com/example/countinghouse/countinghouse/RoundTrip$Result", name := "changed", desc := "()I" } : Jvm.MethodName) ({ cls := "com/example/countinghouse/countinghouse/RoundTrip$Result", name := "changed", desc := "()I" } : Jvm.MethodName)).before a0 Z = true := hw _ (List.mem_of_getElem? (i := 84) rfl)
theorem w_85 {a0 : Array Value} {Z : State} (hw : ∀ d ∈ tables_1, d.before a0 Z = true) : (Jvm.Cond.code ({ cls := "com/example/countinghouse/countinghouse/RoundTrip$Result", name := "changed", desc := "()I" } : Jvm.MethodName) prog_8_method_7_code (1 : Nat) (Option.some Jvm.ClassFile.FieldType.int)).before a0 Z = true := hw _ (List.mem_of_getElem? (i := 85) rfl)
theorem w_86 {a0 : Array Value} {Z : State} (hw : ∀ d ∈ tables_1, d.before a0 Z = true) : (Jvm.Cond.classLink "java/lang/Integer" (1 : Nat) "java/lang/Integer").before a0 Z = true := hw _ (List.mem_of_getElem? (i := 86) rfl)
theorem w_87 {a0 : Array Value} {Z : State} (hw : ∀ d ∈ tables_1, d.before a0 Z = true) : (Jvm.Cond.instantiable "java/lang/Integer" (1 : Nat)).before a0 Z = true := hw _ (List.mem_of_getElem? (i := 87) rfl)
theorem w_88 {a0 : Array Value} {Z : State} (hw : ∀ d ∈ tables_1, d.before a0 Z = true) : (Jvm.Cond.methodLink "java/lang/Integer" (199 : Nat) ({ cls := "java/lang/Integer", name := "<init>", desc := "(I)V" } : Jvm.MethodName)).before a0 Z = true := hw _ (List.mem_of_getElem? (i := 88) rfl)
theorem w_89 {a0 : Array Value} {Z : State} (hw : ∀ d ∈ tables_1, d.before a0 Z = true) : (Jvm.Cond.instanceMethod ({ cls := "java/lang/Integer", name := "<init>", desc := "(I)V" } : Jvm.MethodName)).before a0 Z = true := hw _ (List.mem_of_getElem? (i := 89) rfl)
theorem w_91 {a0 : Array Value} {Z : State} (hw : ∀ d ∈ tables_1, d.before a0 Z = true) : (Jvm.Cond.code ({ cls := "java/lang/Integer", name := "<init>", desc := "(I)V" } : Jvm.MethodName) jdk_33_method_23_code (2 : Nat) (Option.none : Option Jvm.ClassFile.FieldType)).before a0 Z = true := hw _ (List.mem_of_getElem? (i := 91) rfl)
theorem w_92 {a0 : Array Value} {Z : State} (hw : ∀ d ∈ tables_1, d.before a0 Z = true) : (Jvm.Cond.methodLink "java/lang/Integer" (202 : Nat) ({ cls := "java/lang/Number", name := "<init>", desc := "()V" } : Jvm.MethodName)).before a0 Z = true := hw _ (List.mem_of_getElem? (i := 92) rfl)
theorem w_93 {a0 : Array Value} {Z : State} (hw : ∀ d ∈ tables_1, d.before a0 Z = true) : (Jvm.Cond.instanceMethod ({ cls := "java/lang/Number", name := "<init>", desc := "()V" } : Jvm.MethodName)).before a0 Z = true := hw _ (List.mem_of_getElem? (i := 93) rfl)
theorem w_96 {a0 : Array Value} {Z : State} (hw : ∀ d ∈ tables_1, d.before a0 Z = true) : (Jvm.Cond.initialized "java/lang/Number").before a0 Z = true := hw _ (List.mem_of_getElem? (i := 96) rfl)
theorem w_97 {a0 : Array Value} {Z : State} (hw : ∀ d ∈ tables_1, d.before a0 Z = true) : (Jvm.Cond.code ({ cls := "java/lang/Number", name := "<init>", desc := "()V" } : Jvm.MethodName) jdk_18_method_1_code (1 : Nat) (Option.none : Option Jvm.ClassFile.FieldType)).before a0 Z = true := hw _ (List.mem_of_getElem? (i := 97) rfl)
theorem w_98 {a0 : Array Value} {Z : State} (hw : ∀ d ∈ tables_1, d.before a0 Z = true) : (Jvm.Cond.methodLink "java/lang/Number" (1 : Nat) ({ cls := "java/lang/Object", name := "<init>", desc := "()V" } : Jvm.MethodName)).before a0 Z = true := hw _ (List.mem_of_getElem? (i := 98) rfl)
theorem w_99 {a0 : Array Value} {Z : State} (hw : ∀ d ∈ tables_1, d.before a0 Z = true) : (Jvm.Cond.fieldLink "java/lang/Integer" (205 : Nat) "java/lang/Integer" "value" "I").before a0 Z = true := hw _ (List.mem_of_getElem? (i := 99) rfl)
theorem w_100 {a0 : Array Value} {Z : State} (hw : ∀ d ∈ tables_1, d.before a0 Z = true) : (Jvm.Cond.laysFinal "java/lang/Integer" "java/lang/Integer" "value" "I").before a0 Z = true := hw _ (List.mem_of_getElem? (i := 100) rfl)
theorem w_101 {a0 : Array Value} {Z : State} (hw : ∀ d ∈ tables_1, d.before a0 Z = true) : (Jvm.Cond.methodLink "com/example/countinghouse/countinghouse/ResultRowPinLaw" (16 : Nat) ({ cls := "java/util/ArrayList", name := "add", desc := "(Ljava/lang/Object;)Z" } : Jvm.MethodName)).before a0 Z = true := hw _ (List.mem_of_getElem? (i := 101) rfl)
theorem w_102 {a0 : Array Value} {Z : State} (hw : ∀ d ∈ tables_1, d.before a0 Z = true) : (Jvm.Cond.declares ({ cls := "java/util/ArrayList", name := "add", desc := "(Ljava/lang/Object;)Z" } : Jvm.MethodName)).before a0 Z = true := hw _ (List.mem_of_getElem? (i := 102) rfl)
theorem w_103 {a0 : Array Value} {Z : State} (hw : ∀ d ∈ tables_1, d.before a0 Z = true) : (Jvm.Cond.instanceMethod ({ cls := "java/util/ArrayList", name := "add", desc := "(Ljava/lang/Object;)Z" } : Jvm.MethodName)).before a0 Z = true := hw _ (List.mem_of_getElem? (i := 103) rfl)
theorem w_104 {a0 : Array Value} {Z : State} (hw : ∀ d ∈ tables_1, d.before a0 Z = true) : (Jvm.Cond.selects "java/util/ArrayList" ({ cls := "java/util/ArrayList", name := "add", desc := "(Ljava/lang/Object;)Z" } : Jvm.MethodName) ({ cls := "java/util/ArrayList", name := "add", desc := "(Ljava/lang/Object;)Z" } : Jvm.MethodName)).before a0 Z = true := hw _ (List.mem_of_getElem? (i := 104) rfl)
theorem w_105 {a0 : Array Value} {Z : State} (hw : ∀ d ∈ tables_1, d.before a0 Z = true) : (Jvm.Cond.code ({ cls := "java/util/ArrayList", name := "add", desc := "(Ljava/lang/Object;)Z" } : Jvm.MethodName) jdk_38_method_25_code (2 : Nat) (Option.some Jvm.ClassFile.FieldType.boolean)).before a0 Z = true := hw _ (List.mem_of_getElem? (i := 105) rfl)
theorem w_106 {a0 : Array Value} {Z : State} (hw : ∀ d ∈ tables_1, d.before a0 Z = true) : (Jvm.Cond.fieldLink "java/util/ArrayList" (63 : Nat) "java/util/ArrayList" "modCount" "I").before a0 Z = true := hw _ (List.mem_of_getElem? (i := 106) rfl)
theorem w_107 {a0 : Array Value} {Z : State} (hw : ∀ d ∈ tables_1, d.before a0 Z = true) : (Jvm.Cond.sameField "java/util/ArrayList" "java/util/AbstractList" "modCount" "I").before a0 Z = true := hw _ (List.mem_of_getElem? (i := 107) rfl)
theorem w_108 {a0 : Array Value} {Z : State} (hw : ∀ d ∈ tables_1, d.before a0 Z = true) : (Jvm.Cond.methodLink "java/util/ArrayList" (131 : Nat) ({ cls := "java/util/ArrayList", name := "add", desc := "(Ljava/lang/Object;[Ljava/lang/Object;I)V" } : Jvm.MethodName)).before a0 Z = true := hw _ (List.mem_of_getElem? (i := 108) rfl)
theorem w_109 {a0 : Array Value} {Z : State} (hw : ∀ d ∈ tables_1, d.before a0 Z = true) : (Jvm.Cond.instanceMethod ({ cls := "java/util/ArrayList", name := "add", desc := "(Ljava/lang/Object;[Ljava/lang/Object;I)V" } : Jvm.MethodName)).before a0 Z = true := hw _ (List.mem_of_getElem? (i := 109) rfl)
theorem w_110 {a0 : Array Value} {Z : State} (hw : ∀ d ∈ tables_1, d.before a0 Z = true) : (Jvm.Cond.privateMethod ({ cls := "java/util/ArrayList", name := "add", desc := "(Ljava/lang/Object;[Ljava/lang/Object;I)V" } : Jvm.MethodName)).before a0 Z = true := hw _ (List.mem_of_getElem? (i := 110) rfl)
theorem w_111 {a0 : Array Value} {Z : State} (hw : ∀ d ∈ tables_1, d.before a0 Z = true) : (Jvm.Cond.selects "java/util/ArrayList" ({ cls := "java/util/ArrayList", name := "add", desc := "(Ljava/lang/Object;[Ljava/lang/Object;I)V" } : Jvm.MethodName) ({ cls := "java/util/ArrayList", name := "add", desc := "(Ljava/lang/Object;[Ljava/lang/Object;I)V" } : Jvm.MethodName)).before a0 Z = true := hw _ (List.mem_of_getElem? (i := 111) rfl)
theorem w_112 {a0 : Array Value} {Z : State} (hw : ∀ d ∈ tables_1, d.before a0 Z = true) : (Jvm.Cond.code ({ cls := "java/util/ArrayList", name := "add", desc := "(Ljava/lang/Object;[Ljava/lang/Object;I)V" } : Jvm.MethodName) jdk_38_method_24_code (4 : Nat) (Option.none : Option Jvm.ClassFile.FieldType)).before a0 Z = true := hw _ (List.mem_of_getElem? (i := 112) rfl)
theorem w_113 {a0 : Array Value} {Z : State} (hw : ∀ d ∈ tables_1, d.before a0 Z = true) : (Jvm.Cond.methodLink "java/util/ArrayList" (129 : Nat) ({ cls := "java/util/ArrayList", name := "grow", desc := "()[Ljava/lang/Object;" } : Jvm.MethodName)).before a0 Z = true := hw _ (List.mem_of_getElem? (i := 113) rfl)
theorem w_114 {a0 : Array Value} {Z : State} (hw : ∀ d ∈ tables_1, d.before a0 Z = true) : (Jvm.Cond.instanceMethod ({ cls := "java/util/ArrayList", name := "grow", desc := "()[Ljava/lang/Object;" } : Jvm.MethodName)).before a0 Z = true := hw _ (List.mem_of_getElem? (i := 114) rfl)
theorem w_115 {a0 : Array Value} {Z : State} (hw : ∀ d ∈ tables_1, d.before a0 Z = true) : (Jvm.Cond.privateMethod ({ cls := "java/util/ArrayList", name := "grow", desc := "()[Ljava/lang/Object;" } : Jvm.MethodName)).before a0 Z = true := hw _ (List.mem_of_getElem? (i := 115) rfl)
theorem w_116 {a0 : Array Value} {Z : State} (hw : ∀ d ∈ tables_1, d.before a0 Z = true) : (Jvm.Cond.selects "java/util/ArrayList" ({ cls := "java/util/ArrayList", name := "grow", desc := "()[Ljava/lang/Object;" } : Jvm.MethodName) ({ cls := "java/util/ArrayList", name := "grow", desc := "()[Ljava/lang/Object;" } : Jvm.MethodName)).before a0 Z = true := hw _ (List.mem_of_getElem? (i := 116) rfl)
theorem w_117 {a0 : Array Value} {Z : State} (hw : ∀ d ∈ tables_1, d.before a0 Z = true) : (Jvm.Cond.code ({ cls := "java/util/ArrayList", name := "grow", desc := "()[Ljava/lang/Object;" } : Jvm.MethodName) jdk_38_method_7_code (1 : Nat) (Option.some (Jvm.ClassFile.FieldType.array (Jvm.ClassFile.FieldType.object "java/lang/Object")))).before a0 Z = true := hw _ (List.mem_of_getElem? (i := 117) rfl)
theorem w_118 {a0 : Array Value} {Z : State} (hw : ∀ d ∈ tables_1, d.before a0 Z = true) : (Jvm.Cond.methodLink "java/util/ArrayList" (69 : Nat) ({ cls := "java/util/ArrayList", name := "grow", desc := "(I)[Ljava/lang/Object;" } : Jvm.MethodName)).before a0 Z = true := hw _ (List.mem_of_getElem? (i := 118) rfl)
theorem w_119 {a0 : Array Value} {Z : State} (hw : ∀ d ∈ tables_1, d.before a0 Z = true) : (Jvm.Cond.instanceMethod ({ cls := "java/util/ArrayList", name := "grow", desc := "(I)[Ljava/lang/Object;" } : Jvm.MethodName)).before a0 Z = true := hw _ (List.mem_of_getElem? (i := 119) rfl)
theorem w_120 {a0 : Array Value} {Z : State} (hw : ∀ d ∈ tables_1, d.before a0 Z = true) : (Jvm.Cond.privateMethod ({ cls := "java/util/ArrayList", name := "grow", desc := "(I)[Ljava/lang/Object;" } : Jvm.MethodName)).before a0 Z = true := hw _ (List.mem_of_getElem? (i := 120) rfl)
theorem w_121 {a0 : Array Value} {Z : State} (hw : ∀ d ∈ tables_1, d.before a0 Z = true) : (Jvm.Cond.selects "java/util/ArrayList" ({ cls := "java/util/ArrayList", name := "grow", desc := "(I)[Ljava/lang/Object;" } : Jvm.MethodName) ({ cls := "java/util/ArrayList", name := "grow", desc := "(I)[Ljava/lang/Object;" } : Jvm.MethodName)).before a0 Z = true := hw _ (List.mem_of_getElem? (i := 121) rfl)
theorem w_122 {a0 : Array Value} {Z : State} (hw : ∀ d ∈ tables_1, d.before a0 Z = true) : (Jvm.Cond.code ({ cls := "java/util/ArrayList", name := "grow", desc := "(I)[Ljava/lang/Object;" } : Jvm.MethodName) jdk_38_method_6_code (4 : Nat) (Option.some (Jvm.ClassFile.FieldType.array (Jvm.ClassFile.FieldType.object "java/lang/Object")))).before a0 Z = true := hw _ (List.mem_of_getElem? (i := 122) rfl)
theorem w_123 {a0 : Array Value} {Z : State} (hw : ∀ d ∈ tables_1, d.before a0 Z = true) : (Jvm.Cond.methodLink "java/util/ArrayList" (79 : Nat) ({ cls := "java/lang/Math", name := "max", desc := "(II)I" } : Jvm.MethodName)).before a0 Z = true := hw _ (List.mem_of_getElem? (i := 123) rfl)
theorem w_124 {a0 : Array Value} {Z : State} (hw : ∀ d ∈ tables_1, d.before a0 Z = true) : (Jvm.Cond.static ({ cls := "java/lang/Math", name := "max", desc := "(II)I" } : Jvm.MethodName)).before a0 Z = true := hw _ (List.mem_of_getElem? (i := 124) rfl)
theorem w_125 {a0 : Array Value} {Z : State} (hw : ∀ d ∈ tables_1, d.before a0 Z = true) : (Jvm.Cond.initialized "java/lang/Math").before a0 Z = true := hw _ (List.mem_of_getElem? (i := 125) rfl)
theorem w_126 {a0 : Array Value} {Z : State} (hw : ∀ d ∈ tables_1, d.before a0 Z = true) : (Jvm.Cond.code ({ cls := "java/lang/Math", name := "max", desc := "(II)I" } : Jvm.MethodName) jdk_29_method_65_code (2 : Nat) (Option.some Jvm.ClassFile.FieldType.int)).before a0 Z = true := hw _ (List.mem_of_getElem? (i := 126) rfl)
theorem w_127 {a0 : Array Value} {Z : State} (hw : ∀ d ∈ tables_1, d.before a0 Z = true) : (Jvm.Cond.classLink "java/util/ArrayList" (7 : Nat) "java/lang/Object").before a0 Z = true := hw _ (List.mem_of_getElem? (i := 127) rfl)
theorem w_128 {a0 : Array Value} {Z : State} (hw : ∀ d ∈ tables_1, d.before a0 Z = true) : (Jvm.Cond.castable "[Ljava/lang/Object;" "java/lang/Object").before a0 Z = true := hw _ (List.mem_of_getElem? (i := 128) rfl)
theorem w_129 {a0 : Array Value} {Z : State} (hw : ∀ d ∈ tables_1, d.before a0 Z = true) : (Jvm.Cond.methodLink "com/example/countinghouse/countinghouse/RoundTrip$Result" (23 : Nat) ({ cls := "java/util/List", name := "get", desc := "(I)Ljava/lang/Object;" } : Jvm.MethodName)).before a0 Z = true := hw _ (List.mem_of_getElem? (i := 129) rfl)
theorem w_130 {a0 : Array Value} {Z : State} (hw : ∀ d ∈ tables_1, d.before a0 Z = true) : (Jvm.Cond.declares ({ cls := "java/util/List", name := "get", desc := "(I)Ljava/lang/Object;" } : Jvm.MethodName)).before a0 Z = true := hw _ (List.mem_of_getElem? (i := 130) rfl)
theorem w_131 {a0 : Array Value} {Z : State} (hw : ∀ d ∈ tables_1, d.before a0 Z = true) : (Jvm.Cond.interfaceMethod "java/util/List" "java/util/List" "get" "(I)Ljava/lang/Object;").before a0 Z = true := hw _ (List.mem_of_getElem? (i := 131) rfl)
theorem w_132 {a0 : Array Value} {Z : State} (hw : ∀ d ∈ tables_1, d.before a0 Z = true) : (Jvm.Cond.selects "java/util/ArrayList" ({ cls := "java/util/List", name := "get", desc := "(I)Ljava/lang/Object;" } : Jvm.MethodName) ({ cls := "java/util/ArrayList", name := "get", desc := "(I)Ljava/lang/Object;" } : Jvm.MethodName)).before a0 Z = true := hw _ (List.mem_of_getElem? (i := 132) rfl)
theorem w_133 {a0 : Array Value} {Z : State} (hw : ∀ d ∈ tables_1, d.before a0 Z = true) : (Jvm.Cond.instanceMethod ({ cls := "java/util/ArrayList", name := "get", desc := "(I)Ljava/lang/Object;" } : Jvm.MethodName)).before a0 Z = true := hw _ (List.mem_of_getElem? (i := 133) rfl)
theorem w_134 {a0 : Array Value} {Z : State} (hw : ∀ d ∈ tables_1, d.before a0 Z = true) : (Jvm.Cond.publicMethod ({ cls := "java/util/ArrayList", name := "get", desc := "(I)Ljava/lang/Object;" } : Jvm.MethodName)).before a0 Z = true := hw _ (List.mem_of_getElem? (i := 134) rfl)
theorem w_135 {a0 : Array Value} {Z : State} (hw : ∀ d ∈ tables_1, d.before a0 Z = true) : (Jvm.Cond.unhidden "java/util/ArrayList" "get" "(I)Ljava/lang/Object;").before a0 Z = true := hw _ (List.mem_of_getElem? (i := 135) rfl)
theorem w_136 {a0 : Array Value} {Z : State} (hw : ∀ d ∈ tables_1, d.before a0 Z = true) : (Jvm.Cond.code ({ cls := "java/util/ArrayList", name := "get", desc := "(I)Ljava/lang/Object;" } : Jvm.MethodName) jdk_38_method_20_code (2 : Nat) (Option.some (Jvm.ClassFile.FieldType.object "java/lang/Object"))).before a0 Z = true := hw _ (List.mem_of_getElem? (i := 136) rfl)
theorem w_137 {a0 : Array Value} {Z : State} (hw : ∀ d ∈ tables_1, d.before a0 Z = true) : (Jvm.Cond.methodLink "java/util/ArrayList" (118 : Nat) ({ cls := "java/util/Objects", name := "checkIndex", desc := "(II)I" } : Jvm.MethodName)).before a0 Z = true := hw _ (List.mem_of_getElem? (i := 137) rfl)
theorem w_138 {a0 : Array Value} {Z : State} (hw : ∀ d ∈ tables_1, d.before a0 Z = true) : (Jvm.Cond.static ({ cls := "java/util/Objects", name := "checkIndex", desc := "(II)I" } : Jvm.MethodName)).before a0 Z = true := hw _ (List.mem_of_getElem? (i := 138) rfl)
theorem w_139 {a0 : Array Value} {Z : State} (hw : ∀ d ∈ tables_1, d.before a0 Z = true) : (Jvm.Cond.initialized "java/util/Objects").before a0 Z = true := hw _ (List.mem_of_getElem? (i := 139) rfl)
theorem w_140 {a0 : Array Value} {Z : State} (hw : ∀ d ∈ tables_1, d.before a0 Z = true) : (Jvm.Cond.code ({ cls := "java/util/Objects", name := "checkIndex", desc := "(II)I" } : Jvm.MethodName) jdk_31_method_17_code (2 : Nat) (Option.some Jvm.ClassFile.FieldType.int)).before a0 Z = true := hw _ (List.mem_of_getElem? (i := 140) rfl)
theorem w_141 {a0 : Array Value} {Z : State} (hw : ∀ d ∈ tables_1, d.before a0 Z = true) : (Jvm.Cond.methodLink "java/util/Objects" (105 : Nat) ({ cls := "jdk/internal/util/Preconditions", name := "checkIndex", desc := "(IILjava/util/function/BiFunction;)I" } : Jvm.MethodName)).before a0 Z = true := hw _ (List.mem_of_getElem? (i := 141) rfl)
theorem w_142 {a0 : Array Value} {Z : State} (hw : ∀ d ∈ tables_1, d.before a0 Z = true) : (Jvm.Cond.static ({ cls := "jdk/internal/util/Preconditions", name := "checkIndex", desc := "(IILjava/util/function/BiFunction;)I" } : Jvm.MethodName)).before a0 Z = true := hw _ (List.mem_of_getElem? (i := 142) rfl)
theorem w_143 {a0 : Array Value} {Z : State} (hw : ∀ d ∈ tables_1, d.before a0 Z = true) : (Jvm.Cond.initialized "jdk/internal/util/Preconditions").before a0 Z = true := hw _ (List.mem_of_getElem? (i := 143) rfl)
theorem w_144 {a0 : Array Value} {Z : State} (hw : ∀ d ∈ tables_1, d.before a0 Z = true) : (Jvm.Cond.code ({ cls := "jdk/internal/util/Preconditions", name := "checkIndex", desc := "(IILjava/util/function/BiFunction;)I" } : Jvm.MethodName) jdk_41_method_11_code (3 : Nat) (Option.some Jvm.ClassFile.FieldType.int)).before a0 Z = true := hw _ (List.mem_of_getElem? (i := 144) rfl)
theorem w_145 {a0 : Array Value} {Z : State} (hw : ∀ d ∈ tables_1, d.before a0 Z = true) : (Jvm.Cond.methodLink "java/util/ArrayList" (123 : Nat) ({ cls := "java/util/ArrayList", name := "elementData", desc := "(I)Ljava/lang/Object;" } : Jvm.MethodName)).before a0 Z = true := hw _ (List.mem_of_getElem? (i := 145) rfl)
theorem w_146 {a0 : Array Value} {Z : State} (hw : ∀ d ∈ tables_1, d.before a0 Z = true) : (Jvm.Cond.declares ({ cls := "java/util/ArrayList", name := "elementData", desc := "(I)Ljava/lang/Object;" } : Jvm.MethodName)).before a0 Z = true := hw _ (List.mem_of_getElem? (i := 146) rfl)
theorem w_147 {a0 : Array Value} {Z : State} (hw : ∀ d ∈ tables_1, d.before a0 Z = true) : (Jvm.Cond.instanceMethod ({ cls := "java/util/ArrayList", name := "elementData", desc := "(I)Ljava/lang/Object;" } : Jvm.MethodName)).before a0 Z = true := hw _ (List.mem_of_getElem? (i := 147) rfl)
theorem w_148 {a0 : Array Value} {Z : State} (hw : ∀ d ∈ tables_1, d.before a0 Z = true) : (Jvm.Cond.selects "java/util/ArrayList" ({ cls := "java/util/ArrayList", name := "elementData", desc := "(I)Ljava/lang/Object;" } : Jvm.MethodName) ({ cls := "java/util/ArrayList", name := "elementData", desc := "(I)Ljava/lang/Object;" } : Jvm.MethodName)).before a0 Z = true := hw _ (List.mem_of_getElem? (i := 148) rfl)
theorem w_149 {a0 : Array Value} {Z : State} (hw : ∀ d ∈ tables_1, d.before a0 Z = true) : (Jvm.Cond.code ({ cls := "java/util/ArrayList", name := "elementData", desc := "(I)Ljava/lang/Object;" } : Jvm.MethodName) jdk_38_method_18_code (2 : Nat) (Option.some (Jvm.ClassFile.FieldType.object "java/lang/Object"))).before a0 Z = true := hw _ (List.mem_of_getElem? (i := 149) rfl)
theorem w_150 {a0 : Array Value} {Z : State} (hw : ∀ d ∈ tables_1, d.before a0 Z = true) : (Jvm.Cond.classLink "com/example/countinghouse/countinghouse/RoundTrip$Result" (27 : Nat) "[Ljava/lang/Object;").before a0 Z = true := hw _ (List.mem_of_getElem? (i := 150) rfl)
theorem w_152 {a0 : Array Value} {Z : State} (hw : ∀ d ∈ tables_1, d.before a0 Z = true) : (Jvm.Cond.classLink "com/example/countinghouse/countinghouse/ResultRowPinLaw" (8 : Nat) "java/lang/Integer").before a0 Z = true := hw _ (List.mem_of_getElem? (i := 152) rfl)
theorem w_153 {a0 : Array Value} {Z : State} (hw : ∀ d ∈ tables_1, d.before a0 Z = true) : (Jvm.Cond.methodLink "com/example/countinghouse/countinghouse/ResultRowPinLaw" (29 : Nat) ({ cls := "java/lang/Integer", name := "intValue", desc := "()I" } : Jvm.MethodName)).before a0 Z = true := hw _ (List.mem_of_getElem? (i := 153) rfl)
theorem w_154 {a0 : Array Value} {Z : State} (hw : ∀ d ∈ tables_1, d.before a0 Z = true) : (Jvm.Cond.declares ({ cls := "java/lang/Integer", name := "intValue", desc := "()I" } : Jvm.MethodName)).before a0 Z = true := hw _ (List.mem_of_getElem? (i := 154) rfl)
theorem w_155 {a0 : Array Value} {Z : State} (hw : ∀ d ∈ tables_1, d.before a0 Z = true) : (Jvm.Cond.instanceMethod ({ cls := "java/lang/Integer", name := "intValue", desc := "()I" } : Jvm.MethodName)).before a0 Z = true := hw _ (List.mem_of_getElem? (i := 155) rfl)
theorem w_156 {a0 : Array Value} {Z : State} (hw : ∀ d ∈ tables_1, d.before a0 Z = true) : (Jvm.Cond.selects "java/lang/Integer" ({ cls := "java/lang/Integer", name := "intValue", desc := "()I" } : Jvm.MethodName) ({ cls := "java/lang/Integer", name := "intValue", desc := "()I" } : Jvm.MethodName)).before a0 Z = true := hw _ (List.mem_of_getElem? (i := 156) rfl)
theorem w_157 {a0 : Array Value} {Z : State} (hw : ∀ d ∈ tables_1, d.before a0 Z = true) : (Jvm.Cond.code ({ cls := "java/lang/Integer", name := "intValue", desc := "()I" } : Jvm.MethodName) jdk_33_method_27_code (1 : Nat) (Option.some Jvm.ClassFile.FieldType.int)).before a0 Z = true := hw _ (List.mem_of_getElem? (i := 157) rfl)
theorem d14_0 : decode jdk_18_method_1_code 0 = .ok (.aload_n 0, 1) := by decide +kernel
theorem d14_1 : decode jdk_18_method_1_code 1 = .ok (.invokespecial 1, 3) := by decide +kernel
theorem d14_4 : decode jdk_18_method_1_code 4 = .ok (.return_, 1) := by decide +kernel
def Q_numInit (Z : State) (a : Addr) (h0 : Heap) (n0 : Nat) (v : Option Value) (h : Heap) (L : List Loc) : Prop := v = none ∧ Fr n0 L ∧ Keep h0 h []
theorem pn_java_lang_Number : plainName "java/lang/Number" = true := by first | (simp [plainName, overriddenIn]; done) | decide +kernel
theorem ef_rm_numInit (m : MethodId) (x0 : Addr) : entryFrame m #[(.ref x0)] 1 = mkF m 0 #[.val (.ref x0)] [] := by first | (simp [entryFrame, mkF, argsToLocals, Value.category]; done) | rfl
set_option maxRecDepth 65536 in
set_option maxHeartbeats 40000000 in
theorem rm_numInit (l : Launch) (Z : State) (a0 : Array Value) (hw : ∀ d ∈ tables_1, d.before a0 Z = true) (ws : List Jvm.Cond) (a : Addr) (h0 : Heap) (n0 : Nat) (O0 : Old Z n0 h0) :
    MetFree l (⟨"java/lang/Number", "<init>", "()V"⟩ : MethodName) (head1 (Jvm.Cond.code (⟨"java/lang/Number", "<init>", "()V"⟩ : MethodName) jdk_18_method_1_code 1 none :: ws) ({ frames := 1, cells := 0, slots := 0, locals := 12 } : Room)) (fun as' U => as' = #[(.ref a)] ∧ Z.Warmed39 U.vm ∧ U.heap = h0) (fun _ _ _ _ _ => True) (fun _ U o U' => ∃ v L, o = .returned v ∧ Q_numInit Z a h0 n0 v U'.heap L ∧ FrameEnd U o U' L ({ frames := 1, cells := 0, slots := 0, locals := 12 } : Room).cells ({ frames := 1, cells := 0, slots := 0, locals := 12 } : Room).slots) := by
  refine MetFree.of_bodySF (plainFor_of_name pn_java_lang_Number) hisR ?_
  intro p e s m args below meth c s₁ Bd hml0 hP hK
  obtain ⟨rfl, hZ, hh⟩ := hP
  have hx := Bd.exec
  have hby := Bd.bytes
  have hml : c.maxLocals = 1 := hml0
  have hown : s.vm.findClass "java/lang/Number" = some m.cls := findClass_of_methodNamed Bd.named
  have hnm := (name_of_methodNamed Bd.named Bd.method).1
  have X0 : Stand p l e ({ frames := 1, cells := 0, slots := 0, locals := 12 } : Room) s m #[(.ref a)] below meth c s₁ [] 0 0 := Stand.of_body Bd
  have e0 : s₁.heap = h0 := by rw [← hh, Bd.state]; rfl
  have N0 := Fr.nil n0
  have K0 : Keep h0 h0 [] := Keep.refl _ _
  have pre0 : ∀ t, Steps p.tables e below (s₁.setTop (mkF m 0 #[.val (.ref a)] [])) t → Steps p.tables e below (s₁.setTop (entryFrame m #[(.ref a)] 1)) t := fun t k => castTop (ef_rm_numInit m a) k
  obtain ⟨T1, X1, e1, st1⟩ := initO X0 hx hZ hown (w_98 hw) (w_29 hw) (w_30 hw) e0 (g := (mkF m 1 #[.val (.ref a)] [(.ref a)])) rfl (by rw [hml]; rfl) rfl (hb hby d14_1) (by decide) (W := 0) (by show 2 * 0 + _ ≤ _; exact Nat.le_of_eq rfl) (by decide)
  obtain ⟨fs, hr, hrun, hended, hW, hsame⟩ := X1.leave (v := none) (fun _ => rfl)
  refine ⟨_, _, pre0 _ ?_, hrun, hended, _, _, rfl, ?_, ⟨_, rfl⟩, hW, hsame.mono (by decide) (by decide)⟩
  · show Steps p.tables e below (s₁.setTop (mkF m 0 #[.val (.ref a)] [])) _
    refine XS.aloadN X0.here hx rfl (hb hby d14_0) rfl rfl ?_
    show Steps p.tables e below (s₁.setTop (mkF m 1 #[.val (.ref a)] [(.ref a)])) _
    refine st1 _ ?_
    show Steps p.tables e below (T1.setTop (mkF m 4 #[.val (.ref a)] [])) _
    exact X1.returnOut hx Bd.returns (hb hby d14_4) hr
  · show Q_numInit Z a h0 n0 _ T1.heap _
    rw [e1]
    exact ⟨rfl, N0, K0⟩
theorem d13_0 : decode jdk_33_method_23_code 0 = .ok (.aload_n 0, 1) := by decide +kernel
theorem pd_0 : parseMethodDescriptor "()V" = some ⟨[], none⟩ := by decide +kernel
theorem d13_1 : decode jdk_33_method_23_code 1 = .ok (.invokespecial 202, 3) := by decide +kernel
theorem d13_4 : decode jdk_33_method_23_code 4 = .ok (.aload_n 0, 1) := by decide +kernel
theorem d13_5 : decode jdk_33_method_23_code 5 = .ok (.iload_n 1, 1) := by decide +kernel
theorem d13_6 : decode jdk_33_method_23_code 6 = .ok (.putfield 205, 3) := by decide +kernel
theorem d13_9 : decode jdk_33_method_23_code 9 = .ok (.return_, 1) := by decide +kernel
def Q_intInit (Z : State) (a : Addr) (p1 : Int32) (h0 : Heap) (n0 : Nat) (v : Option Value) (h : Heap) (L : List Loc) : Prop := v = none ∧ Fr n0 L ∧ Keep h0 h [a] ∧ (Exa Z h a "java/lang/Integer") ∧ (Fld Z h a "java/lang/Integer" "value" "I" (.int p1))
theorem pn_java_lang_Integer : plainName "java/lang/Integer" = true := by first | (simp [plainName, overriddenIn]; done) | decide +kernel
theorem ef_rm_intInit (m : MethodId) (x0 : Addr) (x1 : Int32) : entryFrame m #[(.ref x0), (.int x1)] 2 = mkF m 0 #[.val (.ref x0), .val (.int x1)] [] := by first | (simp [entryFrame, mkF, argsToLocals, Value.category]; done) | rfl
set_option maxRecDepth 65536 in
set_option maxHeartbeats 40000000 in
theorem rm_intInit (l : Launch) (Z : State) (a0 : Array Value) (hw : ∀ d ∈ tables_1, d.before a0 Z = true) (ws : List Jvm.Cond) (a : Addr) (p1 : Int32) (h0 : Heap) (n0 : Nat) (O0 : Old Z n0 h0) (E_a : Exa Z h0 a "java/lang/Integer") (F1 : Fld Z h0 a "java/lang/Integer" "value" "I" (.int (0 : Int32))) (g_a : n0 ≤ a) :
    MetFree l (⟨"java/lang/Integer", "<init>", "(I)V"⟩ : MethodName) (head1 (Jvm.Cond.code (⟨"java/lang/Integer", "<init>", "(I)V"⟩ : MethodName) jdk_33_method_23_code 2 none :: ws) ({ frames := 2, cells := 0, slots := 0, locals := 24 } : Room)) (fun as' U => as' = #[(.ref a), (.int p1)] ∧ Z.Warmed39 U.vm ∧ U.heap = h0) (fun _ _ _ _ _ => True) (fun _ U o U' => ∃ v L, o = .returned v ∧ Q_intInit Z a p1 h0 n0 v U'.heap L ∧ FrameEnd U o U' L ({ frames := 2, cells := 0, slots := 0, locals := 24 } : Room).cells ({ frames := 2, cells := 0, slots := 0, locals := 24 } : Room).slots) := by
  refine MetFree.of_bodySF (plainFor_of_name pn_java_lang_Integer) hisR ?_
  intro p e s m args below meth c s₁ Bd hml0 hP hK
  obtain ⟨rfl, hZ, hh⟩ := hP
  have hx := Bd.exec
  have hby := Bd.bytes
  have hml : c.maxLocals = 2 := hml0
  have hown : s.vm.findClass "java/lang/Integer" = some m.cls := findClass_of_methodNamed Bd.named
  have hnm := (name_of_methodNamed Bd.named Bd.method).1
  have X0 : Stand p l e ({ frames := 2, cells := 0, slots := 0, locals := 24 } : Room) s m #[(.ref a), (.int p1)] below meth c s₁ [] 0 0 := Stand.of_body Bd
  have e0 : s₁.heap = h0 := by rw [← hh, Bd.state]; rfl
  have N0 := Fr.nil n0
  have K0 : Keep h0 h0 [a] := Keep.refl _ _
  have pre0 : ∀ t, Steps p.tables e below (s₁.setTop (mkF m 0 #[.val (.ref a), .val (.int p1)] [])) t → Steps p.tables e below (s₁.setTop (entryFrame m #[(.ref a), (.int p1)] 2)) t := fun t k => castTop (ef_rm_intInit m a p1) k
  obtain ⟨_, _, ⟨T1, Lo1, kk1, nn1⟩, -, X1, ⟨Lc1, hQ1, ll1, yy1, zz1⟩, st1⟩ := X0.specialBack hx (y := (⟨"java/lang/Number", "<init>", "()V"⟩ : MethodName)) rfl hown (mvT hZ (w_92 hw)) (mvT hZ (w_93 hw)) (mvT hZ (w_97 hw)) (by decide) (backOf (W := 0) (rm_numInit l Z a0 hw [] a h0 n0 O0 ) hZ (w_97 hw) (w_96 hw) (by decide) (by decide)) (g := (mkF m 1 #[.val (.ref a), .val (.int p1)] [(.ref a)])) rfl (by rw [hml]; rfl) (Steps.refl _) (a := a) (argsL := []) (rest := []) (lenOf pd_0 rfl) rfl (by show 2 * 0 + _ ≤ _; exact Nat.le_of_eq rfl) (hb hby d13_1) (fun _ _ => ⟨rfl, e0, (by decide : 0 + 0 ≤ _), (by decide : 0 + 0 ≤ _)⟩)
  dsimp only [Pt.U, Pt.locs, Pt.cells, Pt.slots] at X1 ll1 yy1 zz1 st1 hQ1
  subst ll1 yy1 zz1
  obtain ⟨rfl, N1q, K1q⟩ := hQ1
  have N1 := Fr.app N0 N1q
  have f1 : Keep h0 T1.heap [a] := K0.trans K1q all0
  have f2 : Old Z n0 T1.heap := O0.keep K1q all0
  have f3 : Fld Z T1.heap a "java/lang/Integer" "value" "I" (.int (0 : Int32)) := F1.keep K1q nin0
  have f4 : Exa Z T1.heap a "java/lang/Integer" := E_a.keep K1q
  obtain ⟨T6, h6, X6, e6, Wr6, st6⟩ := putF X1 hx hZ hown (host := "") (Or.inl (w_99 hw)) Via.refl rfl f3 f4 (Or.inr ⟨(w_100 hw), rfl, hnm⟩) (w_87 hw) (ty := .int) (by decide) rfl rfl (g := (mkF m 6 #[.val (.ref a), .val (.int p1)] [(.int p1), (.ref a)])) rfl rfl (hb hby d13_6)
  have f5 : Keep h0 h6 [a] := f1.wr Wr6 (Or.inl (List.mem_of_getElem? (i := 0) rfl))
  have f6 : Old Z n0 h6 := f2.wr Wr6 g_a
  have f7 : Fld Z h6 a "java/lang/Integer" "value" "I" (.int p1) := f3.same Wr6
  have N6 := Fr.snoc X6 N1 g_a
  have f8 : Exa Z h6 a "java/lang/Integer" := f4.wr Wr6
  obtain ⟨fs, hr, hrun, hended, hW, hsame⟩ := X6.leave (v := none) (fun _ => rfl)
  refine ⟨_, _, pre0 _ ?_, hrun, hended, _, _, rfl, ?_, ⟨_, rfl⟩, hW, hsame.mono (by decide) (by decide)⟩
  · show Steps p.tables e below (s₁.setTop (mkF m 0 #[.val (.ref a), .val (.int p1)] [])) _
    refine XS.aloadN X0.here hx rfl (hb hby d13_0) rfl rfl ?_
    show Steps p.tables e below (s₁.setTop (mkF m 1 #[.val (.ref a), .val (.int p1)] [(.ref a)])) _
    refine st1.trans ?_
    show Steps p.tables e below (T1.setTop (mkF m 4 #[.val (.ref a), .val (.int p1)] [])) _
    refine XS.aloadN X1.here hx rfl (hb hby d13_4) rfl rfl ?_
    show Steps p.tables e below (T1.setTop (mkF m 5 #[.val (.ref a), .val (.int p1)] [(.ref a)])) _
    refine XS.iloadN X1.here hx rfl (hb hby d13_5) rfl ?_
    show Steps p.tables e below (T1.setTop (mkF m 6 #[.val (.ref a), .val (.int p1)] [(.int p1), (.ref a)])) _
    refine st6 _ ?_
    show Steps p.tables e below (T6.setTop (mkF m 9 #[.val (.ref a), .val (.int p1)] [])) _
    exact X6.returnOut hx Bd.returns (hb hby d13_9) hr
  · show Q_intInit Z a p1 h0 n0 _ T6.heap _
    rw [e6]
    exact ⟨rfl, N6, f5, f8, f7⟩
theorem d1_0 : decode jdk_33_method_22_code 0 = .ok (.iload_n 0, 1) := by decide +kernel
theorem d1_1 : decode jdk_33_method_22_code 1 = .ok (.bipush (-128), 2) := by decide +kernel
theorem d1_3 : decode jdk_33_method_22_code 3 = .ok (.if_icmp .lt 20, 3) := by decide +kernel
theorem d1_23 : decode jdk_33_method_22_code 23 = .ok (.new 1, 3) := by decide +kernel
theorem d1_26 : decode jdk_33_method_22_code 26 = .ok (.dup, 1) := by decide +kernel
theorem d1_27 : decode jdk_33_method_22_code 27 = .ok (.iload_n 0, 1) := by decide +kernel
theorem pd_1 : parseMethodDescriptor "(I)V" = some ⟨[.int], none⟩ := by decide +kernel
theorem d1_28 : decode jdk_33_method_22_code 28 = .ok (.invokespecial 199, 3) := by decide +kernel
theorem d1_31 : decode jdk_33_method_22_code 31 = .ok (.areturn, 1) := by decide +kernel
theorem d1_6 : decode jdk_33_method_22_code 6 = .ok (.iload_n 0, 1) := by decide +kernel
theorem d1_7 : decode jdk_33_method_22_code 7 = .ok (.getstatic 191, 3) := by decide +kernel
theorem d1_10 : decode jdk_33_method_22_code 10 = .ok (.if_icmp .gt 13, 3) := by decide +kernel
theorem d1_13 : decode jdk_33_method_22_code 13 = .ok (.getstatic 195, 3) := by decide +kernel
theorem d1_16 : decode jdk_33_method_22_code 16 = .ok (.iload_n 0, 1) := by decide +kernel
theorem d1_17 : decode jdk_33_method_22_code 17 = .ok (.sipush 128, 3) := by decide +kernel
theorem d1_20 : decode jdk_33_method_22_code 20 = .ok (.iadd, 1) := by decide +kernel
theorem d1_21 : decode jdk_33_method_22_code 21 = .ok (.aaload, 1) := by decide +kernel
theorem d1_22 : decode jdk_33_method_22_code 22 = .ok (.areturn, 1) := by decide +kernel
def Q_valueOf (Z : State) (p1 : Int32) (cc : Addr) (cl : Cell) (h0 : Heap) (n0 : Nat) (v : Option Value) (h : Heap) (L : List Loc) : Prop := ∃ b : Addr, v = some (.ref b) ∧ Fr n0 L ∧ Keep h0 h [] ∧ (Exa Z h b "java/lang/Integer") ∧ (Fld Z h b "java/lang/Integer" "value" "I" (.int p1))
theorem ef_rm_valueOf_lo (m : MethodId) (x0 : Int32) : entryFrame m #[(.int x0)] 1 = mkF m 0 #[.val (.int x0)] [] := by first | (simp [entryFrame, mkF, argsToLocals, Value.category]; done) | rfl
set_option maxRecDepth 65536 in
set_option maxHeartbeats 40000000 in
theorem rm_valueOf_lo (l : Launch) (Z : State) (a0 : Array Value) (hw : ∀ d ∈ tables_1, d.before a0 Z = true) (ws : List Jvm.Cond) (p1 : Int32) (cc : Addr) (cl : Cell) (h0 : Heap) (n0 : Nat) (O0 : Old Z n0 h0) (S_high : Sta Z Z.heap "java/lang/Integer$IntegerCache" "high" "I" (.int (127 : Int32))) (S_cache : Sta Z Z.heap "java/lang/Integer$IntegerCache" "cache" "[Ljava/lang/Integer;" (.ref cc)) (B_cache : Bxs Z cc cl "java/lang/Integer" "I" (256 : Int32) (fun j => .int (j - 128))) (hc3 : p1 < (-128 : Int32)) :
    MetFree l (⟨"java/lang/Integer", "valueOf", "(I)Ljava/lang/Integer;"⟩ : MethodName) (head1 (Jvm.Cond.code (⟨"java/lang/Integer", "valueOf", "(I)Ljava/lang/Integer;"⟩ : MethodName) jdk_33_method_22_code 1 (some (.object "java/lang/Integer")) :: ws) ({ frames := 3, cells := 1, slots := 1, locals := 38 } : Room)) (fun as' U => as' = #[(.int p1)] ∧ Z.Warmed39 U.vm ∧ U.heap = h0) (fun _ _ _ _ _ => True) (fun _ U o U' => ∃ v L, o = .returned v ∧ Q_valueOf Z p1 cc cl h0 n0 v U'.heap L ∧ FrameEnd U o U' L ({ frames := 3, cells := 1, slots := 1, locals := 38 } : Room).cells ({ frames := 3, cells := 1, slots := 1, locals := 38 } : Room).slots) := by
  refine MetFree.of_bodySF (plainFor_of_name pn_java_lang_Integer) hisR ?_
  intro p e s m args below meth c s₁ Bd hml0 hP hK
  obtain ⟨rfl, hZ, hh⟩ := hP
  have hx := Bd.exec
  have hby := Bd.bytes
  have hml : c.maxLocals = 1 := hml0
  have hown : s.vm.findClass "java/lang/Integer" = some m.cls := findClass_of_methodNamed Bd.named
  have hnm := (name_of_methodNamed Bd.named Bd.method).1
  have X0 : Stand p l e ({ frames := 3, cells := 1, slots := 1, locals := 38 } : Room) s m #[(.int p1)] below meth c s₁ [] 0 0 := Stand.of_body Bd
  have e0 : s₁.heap = h0 := by rw [← hh, Bd.state]; rfl
  have N0 := Fr.nil n0
  have K0 : Keep h0 h0 [] := Keep.refl _ _
  have pre0 : ∀ t, Steps p.tables e below (s₁.setTop (mkF m 0 #[.val (.int p1)] [])) t → Steps p.tables e below (s₁.setTop (entryFrame m #[(.int p1)] 1)) t := fun t k => castTop (ef_rm_valueOf_lo m p1) k
  obtain ⟨T23, h23, X23, e23, Ex23, Aa23, Df23, -, st23⟩ := newO X0 hx hZ hown (w_86 hw) (w_87 hw) (w_4 hw) e0 (g := (mkF m 23 #[.val (.int p1)] [])) rfl (hb hby d1_23) (by decide) (by decide)
  obtain ⟨b23, gg23⟩ : ∃ z, z = h0.size := ⟨_, rfl⟩
  rw [← gg23] at Aa23 Df23 st23
  have f1 : Keep h0 h23 [] := K0.ext Ex23
  have f2 : Old Z n0 h23 := O0.ext Ex23
  have f3 : Fld Z h23 b23 "java/lang/Integer" "value" "I" (.int (0 : Int32)) := Df23 (Or.inr (w_100 hw)) (ty := .int) (by decide)
  have f4 : n0 ≤ b23 := Nat.le_trans (own_old_le O0) (Nat.le_of_eq gg23.symm)
  obtain ⟨_, _, ⟨T28, Lo28, kk28, nn28⟩, -, X28, ⟨Lc28, hQ28, ll28, yy28, zz28⟩, st28⟩ := X23.specialBack hx (y := (⟨"java/lang/Integer", "<init>", "(I)V"⟩ : MethodName)) rfl hown (mvT hZ (w_88 hw)) (mvT hZ (w_89 hw)) (mvT hZ (w_91 hw)) (by decide) (backOf (W := 1) (rm_intInit l Z a0 hw [] b23 p1 h23 n0 f2 Aa23 f3 f4) hZ (w_91 hw) (w_4 hw) (by decide) (by decide)) (g := (mkF m 28 #[.val (.int p1)] [(.int p1), (.ref b23), (.ref b23)])) rfl (by rw [hml]; rfl) (Steps.refl _) (a := b23) (argsL := [(.int p1)]) (rest := [(.ref b23)]) (lenOf pd_1 rfl) rfl (by show 2 * 0 + _ ≤ _; exact Nat.le_of_eq rfl) (hb hby d1_28) (fun _ _ => ⟨rfl, e23, (by decide : 1 + 0 ≤ _), (by decide : 1 + 0 ≤ _)⟩)
  dsimp only [Pt.U, Pt.locs, Pt.cells, Pt.slots] at X28 ll28 yy28 zz28 st28 hQ28
  subst ll28 yy28 zz28
  obtain ⟨rfl, N28q, K28q, p28_0, p28_1⟩ := hQ28
  have N28 := Fr.app N0 N28q
  have f5 : h0.size ≤ b23 := Nat.le_trans K0.1 (Nat.le_of_eq gg23.symm)
  have f6 : Keep h0 T28.heap [] := f1.trans K28q (allS (Or.inr f5) all0)
  have f7 : Old Z n0 T28.heap := f2.keep K28q (allS f4 all0)
  obtain ⟨fs, hr, hrun, hended, hW, hsame⟩ := X28.leave (v := some (.ref b23)) (fun h => by rw [Bd.returns] at h; cases h)
  refine ⟨_, _, pre0 _ ?_, hrun, hended, _, _, rfl, ?_, ⟨_, rfl⟩, hW, hsame.mono (by decide) (by decide)⟩
  · show Steps p.tables e below (s₁.setTop (mkF m 0 #[.val (.int p1)] [])) _
    refine XS.iloadN X0.here hx rfl (hb hby d1_0) rfl ?_
    show Steps p.tables e below (s₁.setTop (mkF m 1 #[.val (.int p1)] [(.int p1)])) _
    refine XS.bipush X0.here hx rfl (hb hby d1_1) ?_
    show Steps p.tables e below (s₁.setTop (mkF m 3 #[.val (.int p1)] [(.int (-128 : Int32)), (.int p1)])) _
    refine XS.icmpYes X0.here hx rfl (pc0 := 3) (pc' := 23) rfl (hb hby d1_3) rfl (tlt hc3).1 (by decide) (by decide) ?_
    show Steps p.tables e below (s₁.setTop (mkF m 23 #[.val (.int p1)] [])) _
    refine st23 _ ?_
    show Steps p.tables e below (T23.setTop (mkF m 26 #[.val (.int p1)] [(.ref b23)])) _
    refine XS.dup X23.here hx rfl (hb hby d1_26) rfl rfl ?_
    show Steps p.tables e below (T23.setTop (mkF m 27 #[.val (.int p1)] [(.ref b23), (.ref b23)])) _
    refine XS.iloadN X23.here hx rfl (hb hby d1_27) rfl ?_
    show Steps p.tables e below (T23.setTop (mkF m 28 #[.val (.int p1)] [(.int p1), (.ref b23), (.ref b23)])) _
    refine st28.trans ?_
    show Steps p.tables e below (T28.setTop (mkF m 31 #[.val (.int p1)] [(.ref b23)])) _
    jvm_step X28.here [X28.here.top, hx, (hb hby d1_31), X28.method', Bd.returns, Value.isRef, FieldType.isReference]
    first | (intro acts; rw [hr _ acts rfl rfl rfl]) | rw [hr _ _ rfl rfl rfl]
    exact Steps.refl _
  · show Q_valueOf Z p1 cc cl h0 n0 _ T28.heap _
    exact ⟨b23, rfl, N28, f6, p28_0, p28_1⟩
theorem ef_rm_valueOf_hi (m : MethodId) (x0 : Int32) : entryFrame m #[(.int x0)] 1 = mkF m 0 #[.val (.int x0)] [] := by first | (simp [entryFrame, mkF, argsToLocals, Value.category]; done) | rfl
set_option maxRecDepth 65536 in
set_option maxHeartbeats 40000000 in
theorem rm_valueOf_hi (l : Launch) (Z : State) (a0 : Array Value) (hw : ∀ d ∈ tables_1, d.before a0 Z = true) (ws : List Jvm.Cond) (p1 : Int32) (cc : Addr) (cl : Cell) (h0 : Heap) (n0 : Nat) (O0 : Old Z n0 h0) (S_high : Sta Z Z.heap "java/lang/Integer$IntegerCache" "high" "I" (.int (127 : Int32))) (S_cache : Sta Z Z.heap "java/lang/Integer$IntegerCache" "cache" "[Ljava/lang/Integer;" (.ref cc)) (B_cache : Bxs Z cc cl "java/lang/Integer" "I" (256 : Int32) (fun j => .int (j - 128))) (hc3 : ¬ (p1 < (-128 : Int32))) (hc10 : (127 : Int32) < p1) :
    MetFree l (⟨"java/lang/Integer", "valueOf", "(I)Ljava/lang/Integer;"⟩ : MethodName) (head1 (Jvm.Cond.code (⟨"java/lang/Integer", "valueOf", "(I)Ljava/lang/Integer;"⟩ : MethodName) jdk_33_method_22_code 1 (some (.object "java/lang/Integer")) :: ws) ({ frames := 3, cells := 1, slots := 1, locals := 38 } : Room)) (fun as' U => as' = #[(.int p1)] ∧ Z.Warmed39 U.vm ∧ U.heap = h0) (fun _ _ _ _ _ => True) (fun _ U o U' => ∃ v L, o = .returned v ∧ Q_valueOf Z p1 cc cl h0 n0 v U'.heap L ∧ FrameEnd U o U' L ({ frames := 3, cells := 1, slots := 1, locals := 38 } : Room).cells ({ frames := 3, cells := 1, slots := 1, locals := 38 } : Room).slots) := by
  refine MetFree.of_bodySF (plainFor_of_name pn_java_lang_Integer) hisR ?_
  intro p e s m args below meth c s₁ Bd hml0 hP hK
  obtain ⟨rfl, hZ, hh⟩ := hP
  have hx := Bd.exec
  have hby := Bd.bytes
  have hml : c.maxLocals = 1 := hml0
  have hown : s.vm.findClass "java/lang/Integer" = some m.cls := findClass_of_methodNamed Bd.named
  have hnm := (name_of_methodNamed Bd.named Bd.method).1
  have X0 : Stand p l e ({ frames := 3, cells := 1, slots := 1, locals := 38 } : Room) s m #[(.int p1)] below meth c s₁ [] 0 0 := Stand.of_body Bd
  have e0 : s₁.heap = h0 := by rw [← hh, Bd.state]; rfl
  have N0 := Fr.nil n0
  have K0 : Keep h0 h0 [] := Keep.refl _ _
  have pre0 : ∀ t, Steps p.tables e below (s₁.setTop (mkF m 0 #[.val (.int p1)] [])) t → Steps p.tables e below (s₁.setTop (entryFrame m #[(.int p1)] 1)) t := fun t k => castTop (ef_rm_valueOf_hi m p1) k
  obtain ⟨T7, X7, e7, st7⟩ := getS2 X0 hx hZ hown (host := "") (Or.inl (w_6 hw)) Via.refl e0 (S_high.ext O0.2) (g := (mkF m 7 #[.val (.int p1)] [(.int p1)])) rfl (hb hby d1_7)
  obtain ⟨T23, h23, X23, e23, Ex23, Aa23, Df23, -, st23⟩ := newO X7 hx hZ hown (w_86 hw) (w_87 hw) (w_4 hw) e7 (g := (mkF m 23 #[.val (.int p1)] [])) rfl (hb hby d1_23) (by decide) (by decide)
  obtain ⟨b23, gg23⟩ : ∃ z, z = h0.size := ⟨_, rfl⟩
  rw [← gg23] at Aa23 Df23 st23
  have f1 : Keep h0 h23 [] := K0.ext Ex23
  have f2 : Old Z n0 h23 := O0.ext Ex23
  have f3 : Fld Z h23 b23 "java/lang/Integer" "value" "I" (.int (0 : Int32)) := Df23 (Or.inr (w_100 hw)) (ty := .int) (by decide)
  have f4 : n0 ≤ b23 := Nat.le_trans (own_old_le O0) (Nat.le_of_eq gg23.symm)
  obtain ⟨_, _, ⟨T28, Lo28, kk28, nn28⟩, -, X28, ⟨Lc28, hQ28, ll28, yy28, zz28⟩, st28⟩ := X23.specialBack hx (y := (⟨"java/lang/Integer", "<init>", "(I)V"⟩ : MethodName)) rfl hown (mvT hZ (w_88 hw)) (mvT hZ (w_89 hw)) (mvT hZ (w_91 hw)) (by decide) (backOf (W := 1) (rm_intInit l Z a0 hw [] b23 p1 h23 n0 f2 Aa23 f3 f4) hZ (w_91 hw) (w_4 hw) (by decide) (by decide)) (g := (mkF m 28 #[.val (.int p1)] [(.int p1), (.ref b23), (.ref b23)])) rfl (by rw [hml]; rfl) (Steps.refl _) (a := b23) (argsL := [(.int p1)]) (rest := [(.ref b23)]) (lenOf pd_1 rfl) rfl (by show 2 * 0 + _ ≤ _; exact Nat.le_of_eq rfl) (hb hby d1_28) (fun _ _ => ⟨rfl, e23, (by decide : 1 + 0 ≤ _), (by decide : 1 + 0 ≤ _)⟩)
  dsimp only [Pt.U, Pt.locs, Pt.cells, Pt.slots] at X28 ll28 yy28 zz28 st28 hQ28
  subst ll28 yy28 zz28
  obtain ⟨rfl, N28q, K28q, p28_0, p28_1⟩ := hQ28
  have N28 := Fr.app N0 N28q
  have f5 : h0.size ≤ b23 := Nat.le_trans K0.1 (Nat.le_of_eq gg23.symm)
  have f6 : Keep h0 T28.heap [] := f1.trans K28q (allS (Or.inr f5) all0)
  have f7 : Old Z n0 T28.heap := f2.keep K28q (allS f4 all0)
  obtain ⟨fs, hr, hrun, hended, hW, hsame⟩ := X28.leave (v := some (.ref b23)) (fun h => by rw [Bd.returns] at h; cases h)
  refine ⟨_, _, pre0 _ ?_, hrun, hended, _, _, rfl, ?_, ⟨_, rfl⟩, hW, hsame.mono (by decide) (by decide)⟩
  · show Steps p.tables e below (s₁.setTop (mkF m 0 #[.val (.int p1)] [])) _
    refine XS.iloadN X0.here hx rfl (hb hby d1_0) rfl ?_
    show Steps p.tables e below (s₁.setTop (mkF m 1 #[.val (.int p1)] [(.int p1)])) _
    refine XS.bipush X0.here hx rfl (hb hby d1_1) ?_
    show Steps p.tables e below (s₁.setTop (mkF m 3 #[.val (.int p1)] [(.int (-128 : Int32)), (.int p1)])) _
    refine XS.icmpNo X0.here hx rfl (hb hby d1_3) rfl (flt hc3).1 ?_
    show Steps p.tables e below (s₁.setTop (mkF m 6 #[.val (.int p1)] [])) _
    refine XS.iloadN X0.here hx rfl (hb hby d1_6) rfl ?_
    show Steps p.tables e below (s₁.setTop (mkF m 7 #[.val (.int p1)] [(.int p1)])) _
    refine st7 _ ?_
    show Steps p.tables e below (T7.setTop (mkF m 10 #[.val (.int p1)] [(.int (127 : Int32)), (.int p1)])) _
    refine XS.icmpYes X7.here hx rfl (pc0 := 10) (pc' := 23) rfl (hb hby d1_10) rfl (tlt hc10).2.2.1 (by decide) (by decide) ?_
    show Steps p.tables e below (T7.setTop (mkF m 23 #[.val (.int p1)] [])) _
    refine st23 _ ?_
    show Steps p.tables e below (T23.setTop (mkF m 26 #[.val (.int p1)] [(.ref b23)])) _
    refine XS.dup X23.here hx rfl (hb hby d1_26) rfl rfl ?_
    show Steps p.tables e below (T23.setTop (mkF m 27 #[.val (.int p1)] [(.ref b23), (.ref b23)])) _
    refine XS.iloadN X23.here hx rfl (hb hby d1_27) rfl ?_
    show Steps p.tables e below (T23.setTop (mkF m 28 #[.val (.int p1)] [(.int p1), (.ref b23), (.ref b23)])) _
    refine st28.trans ?_
    show Steps p.tables e below (T28.setTop (mkF m 31 #[.val (.int p1)] [(.ref b23)])) _
    jvm_step X28.here [X28.here.top, hx, (hb hby d1_31), X28.method', Bd.returns, Value.isRef, FieldType.isReference]
    first | (intro acts; rw [hr _ acts rfl rfl rfl]) | rw [hr _ _ rfl rfl rfl]
    exact Steps.refl _
  · show Q_valueOf Z p1 cc cl h0 n0 _ T28.heap _
    exact ⟨b23, rfl, N28, f6, p28_0, p28_1⟩
theorem ef_rm_valueOf_in (m : MethodId) (x0 : Int32) : entryFrame m #[(.int x0)] 1 = mkF m 0 #[.val (.int x0)] [] := by first | (simp [entryFrame, mkF, argsToLocals, Value.category]; done) | rfl
set_option maxRecDepth 65536 in
set_option maxHeartbeats 40000000 in
theorem rm_valueOf_in (l : Launch) (Z : State) (a0 : Array Value) (hw : ∀ d ∈ tables_1, d.before a0 Z = true) (ws : List Jvm.Cond) (p1 : Int32) (cc : Addr) (cl : Cell) (h0 : Heap) (n0 : Nat) (O0 : Old Z n0 h0) (S_high : Sta Z Z.heap "java/lang/Integer$IntegerCache" "high" "I" (.int (127 : Int32))) (S_cache : Sta Z Z.heap "java/lang/Integer$IntegerCache" "cache" "[Ljava/lang/Integer;" (.ref cc)) (B_cache : Bxs Z cc cl "java/lang/Integer" "I" (256 : Int32) (fun j => .int (j - 128))) (ebox : Addr) (hin : ¬ ((p1 + (128 : Int32)) < 0 ∨ cl.slots.size ≤ (p1 + (128 : Int32)).toNatClampNeg)) (hat : cl.slots[(p1 + (128 : Int32)).toNatClampNeg]? = some (.ref ebox)) (E_e : Exa Z Z.heap ebox "java/lang/Integer") (F_e : Fld Z Z.heap ebox "java/lang/Integer" "value" "I" (.int p1)) (hc3 : ¬ (p1 < (-128 : Int32))) (hc10 : ¬ ((127 : Int32) < p1)) :
    MetFree l (⟨"java/lang/Integer", "valueOf", "(I)Ljava/lang/Integer;"⟩ : MethodName) (head1 (Jvm.Cond.code (⟨"java/lang/Integer", "valueOf", "(I)Ljava/lang/Integer;"⟩ : MethodName) jdk_33_method_22_code 1 (some (.object "java/lang/Integer")) :: ws) ({ frames := 3, cells := 1, slots := 1, locals := 38 } : Room)) (fun as' U => as' = #[(.int p1)] ∧ Z.Warmed39 U.vm ∧ U.heap = h0) (fun _ _ _ _ _ => True) (fun _ U o U' => ∃ v L, o = .returned v ∧ Q_valueOf Z p1 cc cl h0 n0 v U'.heap L ∧ FrameEnd U o U' L ({ frames := 3, cells := 1, slots := 1, locals := 38 } : Room).cells ({ frames := 3, cells := 1, slots := 1, locals := 38 } : Room).slots) := by
  refine MetFree.of_bodySF (plainFor_of_name pn_java_lang_Integer) hisR ?_
  intro p e s m args below meth c s₁ Bd hml0 hP hK
  obtain ⟨rfl, hZ, hh⟩ := hP
  have hx := Bd.exec
  have hby := Bd.bytes
  have hml : c.maxLocals = 1 := hml0
  have hown : s.vm.findClass "java/lang/Integer" = some m.cls := findClass_of_methodNamed Bd.named
  have hnm := (name_of_methodNamed Bd.named Bd.method).1
  have X0 : Stand p l e ({ frames := 3, cells := 1, slots := 1, locals := 38 } : Room) s m #[(.int p1)] below meth c s₁ [] 0 0 := Stand.of_body Bd
  have e0 : s₁.heap = h0 := by rw [← hh, Bd.state]; rfl
  have N0 := Fr.nil n0
  have K0 : Keep h0 h0 [] := Keep.refl _ _
  have pre0 : ∀ t, Steps p.tables e below (s₁.setTop (mkF m 0 #[.val (.int p1)] [])) t → Steps p.tables e below (s₁.setTop (entryFrame m #[(.int p1)] 1)) t := fun t k => castTop (ef_rm_valueOf_in m p1) k
  obtain ⟨T7, X7, e7, st7⟩ := getS2 X0 hx hZ hown (host := "") (Or.inl (w_6 hw)) Via.refl e0 (S_high.ext O0.2) (g := (mkF m 7 #[.val (.int p1)] [(.int p1)])) rfl (hb hby d1_7)
  obtain ⟨T13, X13, e13, st13⟩ := getS2 X7 hx hZ hown (host := "") (Or.inl (w_8 hw)) Via.refl e7 (S_cache.ext O0.2) (g := (mkF m 13 #[.val (.int p1)] [])) rfl (hb hby d1_13)
  obtain ⟨fs, hr, hrun, hended, hW, hsame⟩ := X13.leave (v := some (.ref ebox)) (fun h => by rw [Bd.returns] at h; cases h)
  refine ⟨_, _, pre0 _ ?_, hrun, hended, _, _, rfl, ?_, ⟨_, rfl⟩, hW, hsame.mono (by decide) (by decide)⟩
  · show Steps p.tables e below (s₁.setTop (mkF m 0 #[.val (.int p1)] [])) _
    refine XS.iloadN X0.here hx rfl (hb hby d1_0) rfl ?_
    show Steps p.tables e below (s₁.setTop (mkF m 1 #[.val (.int p1)] [(.int p1)])) _
    refine XS.bipush X0.here hx rfl (hb hby d1_1) ?_
    show Steps p.tables e below (s₁.setTop (mkF m 3 #[.val (.int p1)] [(.int (-128 : Int32)), (.int p1)])) _
    refine XS.icmpNo X0.here hx rfl (hb hby d1_3) rfl (flt hc3).1 ?_
    show Steps p.tables e below (s₁.setTop (mkF m 6 #[.val (.int p1)] [])) _
    refine XS.iloadN X0.here hx rfl (hb hby d1_6) rfl ?_
    show Steps p.tables e below (s₁.setTop (mkF m 7 #[.val (.int p1)] [(.int p1)])) _
    refine st7 _ ?_
    show Steps p.tables e below (T7.setTop (mkF m 10 #[.val (.int p1)] [(.int (127 : Int32)), (.int p1)])) _
    refine XS.icmpNo X7.here hx rfl (hb hby d1_10) rfl (flt hc10).2.2.1 ?_
    show Steps p.tables e below (T7.setTop (mkF m 13 #[.val (.int p1)] [])) _
    refine st13 _ ?_
    show Steps p.tables e below (T13.setTop (mkF m 16 #[.val (.int p1)] [(.ref cc)])) _
    refine XS.iloadN X13.here hx rfl (hb hby d1_16) rfl ?_
    show Steps p.tables e below (T13.setTop (mkF m 17 #[.val (.int p1)] [(.int p1), (.ref cc)])) _
    refine XS.sipush X13.here hx rfl (hb hby d1_17) ?_
    show Steps p.tables e below (T13.setTop (mkF m 20 #[.val (.int p1)] [(.int (128 : Int32)), (.int p1), (.ref cc)])) _
    refine XS.iadd X13.here hx rfl (hb hby d1_20) rfl ?_
    show Steps p.tables e below (T13.setTop (mkF m 21 #[.val (.int p1)] [(.int (p1 + (128 : Int32))), (.ref cc)])) _
    refine X13.aaload hx (j := (p1 + (128 : Int32))) (v := (.ref ebox)) (by rw [e13]; exact (B_cache.1.ext O0.2).1) (State.isArrayOf_alike hZ.alike (B_cache.1.ext O0.2).2.1) rfl (B_cache.1.ext O0.2).2.2 hin hat (g := (mkF m 21 #[.val (.int p1)] [(.int (p1 + (128 : Int32))), (.ref cc)])) rfl rfl (hb hby d1_21) _ ?_
    show Steps p.tables e below (T13.setTop (mkF m 22 #[.val (.int p1)] [(.ref ebox)])) _
    jvm_step X13.here [X13.here.top, hx, (hb hby d1_22), X13.method', Bd.returns, Value.isRef, FieldType.isReference]
    first | (intro acts; rw [hr _ acts rfl rfl rfl]) | rw [hr _ _ rfl rfl rfl]
    exact Steps.refl _
  · show Q_valueOf Z p1 cc cl h0 n0 _ T13.heap _
    rw [e13]
    exact ⟨ebox, rfl, N0, K0, (E_e.ext O0.2), (F_e.ext O0.2)⟩
theorem own_box {p1 : Int32} {k : Nat} (hk : k = (256 : Int32).toNatClampNeg) (h1 : ¬ p1 < (-128 : Int32)) (h2 : ¬ (127 : Int32) < p1) : ¬ ((p1 + (128 : Int32)) < 0 ∨ k ≤ (p1 + (128 : Int32)).toNatClampNeg) := by
  have a1 := c_iadd p1 128
  have r := rng32 p1
  have r2 := rng32 (p1 + 128)
  rw [Int32.lt_iff_toInt_lt] at h1 h2
  have e1 : (-128 : Int32).toInt = -128 := rfl
  have e2 : (127 : Int32).toInt = 127 := rfl
  have e3 : (128 : Int32).toInt = 128 := rfl
  have e4 : (256 : Int32).toNatClampNeg = 256 := rfl
  rw [e1] at h1; rw [e2] at h2; rw [e3] at a1; rw [e4] at hk
  have s1 : (p1 + 128).toInt = p1.toInt + 128 := by omega
  rintro (q | q)
  · rw [Int32.lt_iff_toInt_lt] at q
    have : (0 : Int32).toInt = 0 := rfl
    omega
  · have : (p1 + (128 : Int32)).toNatClampNeg = (p1 + 128).toInt.toNat := rfl
    omega
set_option maxRecDepth 65536 in
theorem rm_valueOf (l : Launch) (Z : State) (a0 : Array Value) (hw : ∀ d ∈ tables_1, d.before a0 Z = true) (ws : List Jvm.Cond) (p1 : Int32) (cc : Addr) (cl : Cell) (h0 : Heap) (n0 : Nat) (O0 : Old Z n0 h0) (S_high : Sta Z Z.heap "java/lang/Integer$IntegerCache" "high" "I" (.int (127 : Int32))) (S_cache : Sta Z Z.heap "java/lang/Integer$IntegerCache" "cache" "[Ljava/lang/Integer;" (.ref cc)) (B_cache : Bxs Z cc cl "java/lang/Integer" "I" (256 : Int32) (fun j => .int (j - 128))) :
    MetFree l (⟨"java/lang/Integer", "valueOf", "(I)Ljava/lang/Integer;"⟩ : MethodName) (head1 (Jvm.Cond.code (⟨"java/lang/Integer", "valueOf", "(I)Ljava/lang/Integer;"⟩ : MethodName) jdk_33_method_22_code 1 (some (.object "java/lang/Integer")) :: ws) ({ frames := 3, cells := 1, slots := 1, locals := 38 } : Room)) (fun as' U => as' = #[(.int p1)] ∧ Z.Warmed39 U.vm ∧ U.heap = h0) (fun _ _ _ _ _ => True) (fun _ U o U' => ∃ v L, o = .returned v ∧ Q_valueOf Z p1 cc cl h0 n0 v U'.heap L ∧ FrameEnd U o U' L ({ frames := 3, cells := 1, slots := 1, locals := 38 } : Room).cells ({ frames := 3, cells := 1, slots := 1, locals := 38 } : Room).slots) := by
  by_cases h1 : p1 < (-128 : Int32)
  · exact rm_valueOf_lo l Z a0 hw ws p1 cc cl h0 n0 O0 S_high S_cache B_cache h1
  by_cases h2 : (127 : Int32) < p1
  · exact rm_valueOf_hi l Z a0 hw ws p1 cc cl h0 n0 O0 S_high S_cache B_cache h1 h2
  have hin := own_box B_cache.2.1 h1 h2
  obtain ⟨ebox, hat, E_e, F_e⟩ := B_cache.2.2.2 _ hin
  have q : (p1 + (128 : Int32)) - 128 = p1 := Int32.add_sub_cancel _ _
  have F_f : Fld Z Z.heap ebox "java/lang/Integer" "value" "I" (.int ((p1 + (128 : Int32)) - 128)) := F_e
  rw [q] at F_f
  exact rm_valueOf_in l Z a0 hw ws p1 cc cl h0 n0 O0 S_high S_cache B_cache ebox hin hat E_e F_f h1 h2
theorem d24_0 : decode jdk_33_method_27_code 0 = .ok (.aload_n 0, 1) := by decide +kernel
theorem d24_1 : decode jdk_33_method_27_code 1 = .ok (.getfield 205, 3) := by decide +kernel
theorem d24_4 : decode jdk_33_method_27_code 4 = .ok (.ireturn, 1) := by decide +kernel
def Q_intValue (Z : State) (a : Addr) (v1 : Int32) (h0 : Heap) (n0 : Nat) (v : Option Value) (h : Heap) (L : List Loc) : Prop := v = some (.int v1) ∧ Fr n0 L ∧ Keep h0 h []
theorem ef_rm_intValue (m : MethodId) (x0 : Addr) : entryFrame m #[(.ref x0)] 1 = mkF m 0 #[.val (.ref x0)] [] := by first | (simp [entryFrame, mkF, argsToLocals, Value.category]; done) | rfl
set_option maxRecDepth 65536 in
set_option maxHeartbeats 40000000 in
theorem rm_intValue (l : Launch) (Z : State) (a0 : Array Value) (hw : ∀ d ∈ tables_1, d.before a0 Z = true) (ws : List Jvm.Cond) (a : Addr) (v1 : Int32) (h0 : Heap) (n0 : Nat) (O0 : Old Z n0 h0) (F1 : Fld Z h0 a "java/lang/Integer" "value" "I" (.int v1)) :
    MetFree l (⟨"java/lang/Integer", "intValue", "()I"⟩ : MethodName) (head1 (Jvm.Cond.code (⟨"java/lang/Integer", "intValue", "()I"⟩ : MethodName) jdk_33_method_27_code 1 (some .int) :: ws) ({ frames := 0, cells := 0, slots := 0, locals := 0 } : Room)) (fun as' U => as' = #[(.ref a)] ∧ Z.Warmed39 U.vm ∧ U.heap = h0) (fun _ _ _ _ _ => True) (fun _ U o U' => ∃ v L, o = .returned v ∧ Q_intValue Z a v1 h0 n0 v U'.heap L ∧ FrameEnd U o U' L ({ frames := 0, cells := 0, slots := 0, locals := 0 } : Room).cells ({ frames := 0, cells := 0, slots := 0, locals := 0 } : Room).slots) := by
  refine MetFree.of_bodySF (plainFor_of_name pn_java_lang_Integer) hisR ?_
  intro p e s m args below meth c s₁ Bd hml0 hP hK
  obtain ⟨rfl, hZ, hh⟩ := hP
  have hx := Bd.exec
  have hby := Bd.bytes
  have hml : c.maxLocals = 1 := hml0
  have hown : s.vm.findClass "java/lang/Integer" = some m.cls := findClass_of_methodNamed Bd.named
  have hnm := (name_of_methodNamed Bd.named Bd.method).1
  have X0 : Stand p l e ({ frames := 0, cells := 0, slots := 0, locals := 0 } : Room) s m #[(.ref a)] below meth c s₁ [] 0 0 := Stand.of_body Bd
  have e0 : s₁.heap = h0 := by rw [← hh, Bd.state]; rfl
  have N0 := Fr.nil n0
  have K0 : Keep h0 h0 [] := Keep.refl _ _
  have pre0 : ∀ t, Steps p.tables e below (s₁.setTop (mkF m 0 #[.val (.ref a)] [])) t → Steps p.tables e below (s₁.setTop (entryFrame m #[(.ref a)] 1)) t := fun t k => castTop (ef_rm_intValue m a) k
  obtain ⟨T1, X1, e1, st1⟩ := getF X0 hx hZ hown (host := "") (Or.inl (w_99 hw)) Via.refl e0 F1 (g := (mkF m 1 #[.val (.ref a)] [(.ref a)])) rfl rfl (hb hby d24_1)
  obtain ⟨fs, hr, hrun, hended, hW, hsame⟩ := X1.leave (v := some (.int v1)) (fun h => by rw [Bd.returns] at h; cases h)
  refine ⟨_, _, pre0 _ ?_, hrun, hended, _, _, rfl, ?_, ⟨_, rfl⟩, hW, hsame.mono (by decide) (by decide)⟩
  · show Steps p.tables e below (s₁.setTop (mkF m 0 #[.val (.ref a)] [])) _
    refine XS.aloadN X0.here hx rfl (hb hby d24_0) rfl rfl ?_
    show Steps p.tables e below (s₁.setTop (mkF m 1 #[.val (.ref a)] [(.ref a)])) _
    refine st1 _ ?_
    show Steps p.tables e below (T1.setTop (mkF m 4 #[.val (.ref a)] [(.int v1)])) _
    exact retI X1 hx Bd.returns (hb hby d24_4) hr
  · show Q_intValue Z a v1 h0 n0 _ T1.heap _
    rw [e1]
    exact ⟨rfl, N0, K0⟩
theorem d4_0 : decode jdk_22_method_1_code 0 = .ok (.aload_n 0, 1) := by decide +kernel
theorem d4_1 : decode jdk_22_method_1_code 1 = .ok (.invokespecial 1, 3) := by decide +kernel
theorem d4_4 : decode jdk_22_method_1_code 4 = .ok (.return_, 1) := by decide +kernel
def Q_acInit (Z : State) (a : Addr) (h0 : Heap) (n0 : Nat) (v : Option Value) (h : Heap) (L : List Loc) : Prop := v = none ∧ Fr n0 L ∧ Keep h0 h []
theorem pn_java_util_AbstractCollection : plainName "java/util/AbstractCollection" = true := by first | (simp [plainName, overriddenIn]; done) | decide +kernel
theorem ef_rm_acInit (m : MethodId) (x0 : Addr) : entryFrame m #[(.ref x0)] 1 = mkF m 0 #[.val (.ref x0)] [] := by first | (simp [entryFrame, mkF, argsToLocals, Value.category]; done) | rfl
set_option maxRecDepth 65536 in
set_option maxHeartbeats 40000000 in
theorem rm_acInit (l : Launch) (Z : State) (a0 : Array Value) (hw : ∀ d ∈ tables_1, d.before a0 Z = true) (ws : List Jvm.Cond) (a : Addr) (h0 : Heap) (n0 : Nat) (O0 : Old Z n0 h0) :
    MetFree l (⟨"java/util/AbstractCollection", "<init>", "()V"⟩ : MethodName) (head1 (Jvm.Cond.code (⟨"java/util/AbstractCollection", "<init>", "()V"⟩ : MethodName) jdk_22_method_1_code 1 none :: ws) ({ frames := 1, cells := 0, slots := 0, locals := 12 } : Room)) (fun as' U => as' = #[(.ref a)] ∧ Z.Warmed39 U.vm ∧ U.heap = h0) (fun _ _ _ _ _ => True) (fun _ U o U' => ∃ v L, o = .returned v ∧ Q_acInit Z a h0 n0 v U'.heap L ∧ FrameEnd U o U' L ({ frames := 1, cells := 0, slots := 0, locals := 12 } : Room).cells ({ frames := 1, cells := 0, slots := 0, locals := 12 } : Room).slots) := by
  refine MetFree.of_bodySF (plainFor_of_name pn_java_util_AbstractCollection) hisR ?_
  intro p e s m args below meth c s₁ Bd hml0 hP hK
  obtain ⟨rfl, hZ, hh⟩ := hP
  have hx := Bd.exec
  have hby := Bd.bytes
  have hml : c.maxLocals = 1 := hml0
  have hown : s.vm.findClass "java/util/AbstractCollection" = some m.cls := findClass_of_methodNamed Bd.named
  have hnm := (name_of_methodNamed Bd.named Bd.method).1
  have X0 : Stand p l e ({ frames := 1, cells := 0, slots := 0, locals := 12 } : Room) s m #[(.ref a)] below meth c s₁ [] 0 0 := Stand.of_body Bd
  have e0 : s₁.heap = h0 := by rw [← hh, Bd.state]; rfl
  have N0 := Fr.nil n0
  have K0 : Keep h0 h0 [] := Keep.refl _ _
  have pre0 : ∀ t, Steps p.tables e below (s₁.setTop (mkF m 0 #[.val (.ref a)] [])) t → Steps p.tables e below (s₁.setTop (entryFrame m #[(.ref a)] 1)) t := fun t k => castTop (ef_rm_acInit m a) k
  obtain ⟨T1, X1, e1, st1⟩ := initO X0 hx hZ hown (w_28 hw) (w_29 hw) (w_30 hw) e0 (g := (mkF m 1 #[.val (.ref a)] [(.ref a)])) rfl (by rw [hml]; rfl) rfl (hb hby d4_1) (by decide) (W := 0) (by show 2 * 0 + _ ≤ _; exact Nat.le_of_eq rfl) (by decide)
  obtain ⟨fs, hr, hrun, hended, hW, hsame⟩ := X1.leave (v := none) (fun _ => rfl)
  refine ⟨_, _, pre0 _ ?_, hrun, hended, _, _, rfl, ?_, ⟨_, rfl⟩, hW, hsame.mono (by decide) (by decide)⟩
  · show Steps p.tables e below (s₁.setTop (mkF m 0 #[.val (.ref a)] [])) _
    refine XS.aloadN X0.here hx rfl (hb hby d4_0) rfl rfl ?_
    show Steps p.tables e below (s₁.setTop (mkF m 1 #[.val (.ref a)] [(.ref a)])) _
    refine st1 _ ?_
    show Steps p.tables e below (T1.setTop (mkF m 4 #[.val (.ref a)] [])) _
    exact X1.returnOut hx Bd.returns (hb hby d4_4) hr
  · show Q_acInit Z a h0 n0 _ T1.heap _
    rw [e1]
    exact ⟨rfl, N0, K0⟩
theorem d3_0 : decode jdk_39_method_1_code 0 = .ok (.aload_n 0, 1) := by decide +kernel
theorem d3_1 : decode jdk_39_method_1_code 1 = .ok (.invokespecial 1, 3) := by decide +kernel
theorem d3_4 : decode jdk_39_method_1_code 4 = .ok (.aload_n 0, 1) := by decide +kernel
theorem d3_5 : decode jdk_39_method_1_code 5 = .ok (.iconst 0, 1) := by decide +kernel
theorem d3_6 : decode jdk_39_method_1_code 6 = .ok (.putfield 7, 3) := by decide +kernel
theorem d3_9 : decode jdk_39_method_1_code 9 = .ok (.return_, 1) := by decide +kernel
theorem pn_java_util_AbstractList : plainName "java/util/AbstractList" = true := by first | (simp [plainName, overriddenIn]; done) | decide +kernel
def Q_ablInit (Z : State) (a : Addr) (h0 : Heap) (n0 : Nat) (v : Option Value) (h : Heap) (L : List Loc) : Prop := v = none ∧ Fr n0 L ∧ Keep h0 h [a] ∧ (Exa Z h a "java/util/ArrayList") ∧ (Fld Z h a "java/util/AbstractList" "modCount" "I" (.int (0 : Int32))) ∧ (Fld Z h a "java/util/ArrayList" "elementData" "[Ljava/lang/Object;" .null) ∧ (Fld Z h a "java/util/ArrayList" "size" "I" (.int (0 : Int32)))
theorem ef_rm_ablInit (m : MethodId) (x0 : Addr) : entryFrame m #[(.ref x0)] 1 = mkF m 0 #[.val (.ref x0)] [] := by first | (simp [entryFrame, mkF, argsToLocals, Value.category]; done) | rfl
set_option maxRecDepth 65536 in
set_option maxHeartbeats 40000000 in
theorem rm_ablInit (l : Launch) (Z : State) (a0 : Array Value) (hw : ∀ d ∈ tables_1, d.before a0 Z = true) (ws : List Jvm.Cond) (a : Addr) (h0 : Heap) (n0 : Nat) (O0 : Old Z n0 h0) (E_a : Exa Z h0 a "java/util/ArrayList") (F1 : Fld Z h0 a "java/util/AbstractList" "modCount" "I" (.int (0 : Int32))) (F2 : Fld Z h0 a "java/util/ArrayList" "elementData" "[Ljava/lang/Object;" .null) (F3 : Fld Z h0 a "java/util/ArrayList" "size" "I" (.int (0 : Int32))) (g_a : n0 ≤ a) :
    MetFree l (⟨"java/util/AbstractList", "<init>", "()V"⟩ : MethodName) (head1 (Jvm.Cond.code (⟨"java/util/AbstractList", "<init>", "()V"⟩ : MethodName) jdk_39_method_1_code 1 none :: ws) ({ frames := 2, cells := 0, slots := 0, locals := 24 } : Room)) (fun as' U => as' = #[(.ref a)] ∧ Z.Warmed39 U.vm ∧ U.heap = h0) (fun _ _ _ _ _ => True) (fun _ U o U' => ∃ v L, o = .returned v ∧ Q_ablInit Z a h0 n0 v U'.heap L ∧ FrameEnd U o U' L ({ frames := 2, cells := 0, slots := 0, locals := 24 } : Room).cells ({ frames := 2, cells := 0, slots := 0, locals := 24 } : Room).slots) := by
  refine MetFree.of_bodySF (plainFor_of_name pn_java_util_AbstractList) hisR ?_
  intro p e s m args below meth c s₁ Bd hml0 hP hK
  obtain ⟨rfl, hZ, hh⟩ := hP
  have hx := Bd.exec
  have hby := Bd.bytes
  have hml : c.maxLocals = 1 := hml0
  have hown : s.vm.findClass "java/util/AbstractList" = some m.cls := findClass_of_methodNamed Bd.named
  have hnm := (name_of_methodNamed Bd.named Bd.method).1
  have X0 : Stand p l e ({ frames := 2, cells := 0, slots := 0, locals := 24 } : Room) s m #[(.ref a)] below meth c s₁ [] 0 0 := Stand.of_body Bd
  have e0 : s₁.heap = h0 := by rw [← hh, Bd.state]; rfl
  have N0 := Fr.nil n0
  have K0 : Keep h0 h0 [a] := Keep.refl _ _
  have pre0 : ∀ t, Steps p.tables e below (s₁.setTop (mkF m 0 #[.val (.ref a)] [])) t → Steps p.tables e below (s₁.setTop (entryFrame m #[(.ref a)] 1)) t := fun t k => castTop (ef_rm_ablInit m a) k
  obtain ⟨_, _, ⟨T1, Lo1, kk1, nn1⟩, -, X1, ⟨Lc1, hQ1, ll1, yy1, zz1⟩, st1⟩ := X0.specialBack hx (y := (⟨"java/util/AbstractCollection", "<init>", "()V"⟩ : MethodName)) rfl hown (mvT hZ (w_22 hw)) (mvT hZ (w_23 hw)) (mvT hZ (w_27 hw)) (by decide) (backOf (W := 0) (rm_acInit l Z a0 hw [] a h0 n0 O0 ) hZ (w_27 hw) (w_26 hw) (by decide) (by decide)) (g := (mkF m 1 #[.val (.ref a)] [(.ref a)])) rfl (by rw [hml]; rfl) (Steps.refl _) (a := a) (argsL := []) (rest := []) (lenOf pd_0 rfl) rfl (by show 2 * 0 + _ ≤ _; exact Nat.le_of_eq rfl) (hb hby d3_1) (fun _ _ => ⟨rfl, e0, (by decide : 0 + 0 ≤ _), (by decide : 0 + 0 ≤ _)⟩)
  dsimp only [Pt.U, Pt.locs, Pt.cells, Pt.slots] at X1 ll1 yy1 zz1 st1 hQ1
  subst ll1 yy1 zz1
  obtain ⟨rfl, N1q, K1q⟩ := hQ1
  have N1 := Fr.app N0 N1q
  have f1 : Keep h0 T1.heap [a] := K0.trans K1q all0
  have f2 : Old Z n0 T1.heap := O0.keep K1q all0
  have f3 : Fld Z T1.heap a "java/util/AbstractList" "modCount" "I" (.int (0 : Int32)) := F1.keep K1q nin0
  have f4 : Exa Z T1.heap a "java/util/ArrayList" := E_a.keep K1q
  obtain ⟨T6, h6, X6, e6, Wr6, st6⟩ := putF X1 hx hZ hown (host := "") (Or.inl (w_31 hw)) Via.refl rfl f3 f4 (Or.inl (w_32 hw)) (w_11 hw) (ty := .int) (by decide) rfl rfl (g := (mkF m 6 #[.val (.ref a)] [(.int (0 : Int32)), (.ref a)])) rfl rfl (hb hby d3_6)
  have f5 : Keep h0 h6 [a] := f1.wr Wr6 (Or.inl (List.mem_of_getElem? (i := 0) rfl))
  have f6 : Old Z n0 h6 := f2.wr Wr6 g_a
  have f7 : Fld Z h6 a "java/util/AbstractList" "modCount" "I" (.int (0 : Int32)) := f3.same Wr6
  have N6 := Fr.snoc X6 N1 g_a
  have f8 : Exa Z h6 a "java/util/ArrayList" := f4.wr Wr6
  have f9 : Fld Z T1.heap a "java/util/ArrayList" "elementData" "[Ljava/lang/Object;" .null := F2.keep K1q nin0
  have f10 : Fld Z h6 a "java/util/ArrayList" "elementData" "[Ljava/lang/Object;" .null := f9.other Wr6 (Or.inr (slot_ne (Or.inl (w_35 hw)) (Or.inl (w_32 hw)) (by decide) (t := (.array (.object "java/lang/Object"))) (t' := .int) (by decide) (by decide)))
  have f11 : Fld Z T1.heap a "java/util/ArrayList" "size" "I" (.int (0 : Int32)) := F3.keep K1q nin0
  have f12 : Fld Z h6 a "java/util/ArrayList" "size" "I" (.int (0 : Int32)) := f11.other Wr6 (Or.inr (slot_ne (Or.inl (w_67 hw)) (Or.inl (w_32 hw)) (by decide) (t := .int) (t' := .int) (by decide) (by decide)))
  obtain ⟨fs, hr, hrun, hended, hW, hsame⟩ := X6.leave (v := none) (fun _ => rfl)
  refine ⟨_, _, pre0 _ ?_, hrun, hended, _, _, rfl, ?_, ⟨_, rfl⟩, hW, hsame.mono (by decide) (by decide)⟩
  · show Steps p.tables e below (s₁.setTop (mkF m 0 #[.val (.ref a)] [])) _
    refine XS.aloadN X0.here hx rfl (hb hby d3_0) rfl rfl ?_
    show Steps p.tables e below (s₁.setTop (mkF m 1 #[.val (.ref a)] [(.ref a)])) _
    refine st1.trans ?_
    show Steps p.tables e below (T1.setTop (mkF m 4 #[.val (.ref a)] [])) _
    refine XS.aloadN X1.here hx rfl (hb hby d3_4) rfl rfl ?_
    show Steps p.tables e below (T1.setTop (mkF m 5 #[.val (.ref a)] [(.ref a)])) _
    refine XS.iconst X1.here hx rfl (hb hby d3_5) ?_
    show Steps p.tables e below (T1.setTop (mkF m 6 #[.val (.ref a)] [(.int (0 : Int32)), (.ref a)])) _
    refine st6 _ ?_
    show Steps p.tables e below (T6.setTop (mkF m 9 #[.val (.ref a)] [])) _
    exact X6.returnOut hx Bd.returns (hb hby d3_9) hr
  · show Q_ablInit Z a h0 n0 _ T6.heap _
    rw [e6]
    exact ⟨rfl, N6, f5, f8, f7, f10, f12⟩
theorem d2_0 : decode jdk_38_method_2_code 0 = .ok (.aload_n 0, 1) := by decide +kernel
theorem d2_1 : decode jdk_38_method_2_code 1 = .ok (.invokespecial 1, 3) := by decide +kernel
theorem d2_4 : decode jdk_38_method_2_code 4 = .ok (.aload_n 0, 1) := by decide +kernel
theorem d2_5 : decode jdk_38_method_2_code 5 = .ok (.getstatic 39, 3) := by decide +kernel
theorem d2_8 : decode jdk_38_method_2_code 8 = .ok (.putfield 9, 3) := by decide +kernel
theorem d2_11 : decode jdk_38_method_2_code 11 = .ok (.return_, 1) := by decide +kernel
def Q_alInit (Z : State) (a : Addr) (de : Addr) (h0 : Heap) (n0 : Nat) (v : Option Value) (h : Heap) (L : List Loc) : Prop := v = none ∧ Fr n0 L ∧ Keep h0 h [a] ∧ (Exa Z h a "java/util/ArrayList") ∧ (Fld Z h a "java/util/AbstractList" "modCount" "I" (.int (0 : Int32))) ∧ (Fld Z h a "java/util/ArrayList" "elementData" "[Ljava/lang/Object;" (.ref de)) ∧ (Fld Z h a "java/util/ArrayList" "size" "I" (.int (0 : Int32)))
theorem pn_java_util_ArrayList : plainName "java/util/ArrayList" = true := by first | (simp [plainName, overriddenIn]; done) | decide +kernel
theorem ef_rm_alInit (m : MethodId) (x0 : Addr) : entryFrame m #[(.ref x0)] 1 = mkF m 0 #[.val (.ref x0)] [] := by first | (simp [entryFrame, mkF, argsToLocals, Value.category]; done) | rfl
set_option maxRecDepth 65536 in
set_option maxHeartbeats 40000000 in
theorem rm_alInit (l : Launch) (Z : State) (a0 : Array Value) (hw : ∀ d ∈ tables_1, d.before a0 Z = true) (ws : List Jvm.Cond) (a : Addr) (de : Addr) (h0 : Heap) (n0 : Nat) (O0 : Old Z n0 h0) (E_a : Exa Z h0 a "java/util/ArrayList") (F1 : Fld Z h0 a "java/util/AbstractList" "modCount" "I" (.int (0 : Int32))) (F2 : Fld Z h0 a "java/util/ArrayList" "elementData" "[Ljava/lang/Object;" .null) (F3 : Fld Z h0 a "java/util/ArrayList" "size" "I" (.int (0 : Int32))) (S_D : Sta Z Z.heap "java/util/ArrayList" "DEFAULTCAPACITY_EMPTY_ELEMENTDATA" "[Ljava/lang/Object;" (.ref de)) (g_a : n0 ≤ a) :
    MetFree l (⟨"java/util/ArrayList", "<init>", "()V"⟩ : MethodName) (head1 (Jvm.Cond.code (⟨"java/util/ArrayList", "<init>", "()V"⟩ : MethodName) jdk_38_method_2_code 1 none :: ws) ({ frames := 3, cells := 0, slots := 0, locals := 36 } : Room)) (fun as' U => as' = #[(.ref a)] ∧ Z.Warmed39 U.vm ∧ U.heap = h0) (fun _ _ _ _ _ => True) (fun _ U o U' => ∃ v L, o = .returned v ∧ Q_alInit Z a de h0 n0 v U'.heap L ∧ FrameEnd U o U' L ({ frames := 3, cells := 0, slots := 0, locals := 36 } : Room).cells ({ frames := 3, cells := 0, slots := 0, locals := 36 } : Room).slots) := by
  refine MetFree.of_bodySF (plainFor_of_name pn_java_util_ArrayList) hisR ?_
  intro p e s m args below meth c s₁ Bd hml0 hP hK
  obtain ⟨rfl, hZ, hh⟩ := hP
  have hx := Bd.exec
  have hby := Bd.bytes
  have hml : c.maxLocals = 1 := hml0
  have hown : s.vm.findClass "java/util/ArrayList" = some m.cls := findClass_of_methodNamed Bd.named
  have hnm := (name_of_methodNamed Bd.named Bd.method).1
  have X0 : Stand p l e ({ frames := 3, cells := 0, slots := 0, locals := 36 } : Room) s m #[(.ref a)] below meth c s₁ [] 0 0 := Stand.of_body Bd
  have e0 : s₁.heap = h0 := by rw [← hh, Bd.state]; rfl
  have N0 := Fr.nil n0
  have K0 : Keep h0 h0 [a] := Keep.refl _ _
  have pre0 : ∀ t, Steps p.tables e below (s₁.setTop (mkF m 0 #[.val (.ref a)] [])) t → Steps p.tables e below (s₁.setTop (entryFrame m #[(.ref a)] 1)) t := fun t k => castTop (ef_rm_alInit m a) k
  obtain ⟨_, _, ⟨T1, Lo1, kk1, nn1⟩, -, X1, ⟨Lc1, hQ1, ll1, yy1, zz1⟩, st1⟩ := X0.specialBack hx (y := (⟨"java/util/AbstractList", "<init>", "()V"⟩ : MethodName)) rfl hown (mvT hZ (w_16 hw)) (mvT hZ (w_17 hw)) (mvT hZ (w_21 hw)) (by decide) (backOf (W := 0) (rm_ablInit l Z a0 hw [] a h0 n0 O0 E_a F1 F2 F3 g_a) hZ (w_21 hw) (w_20 hw) (by decide) (by decide)) (g := (mkF m 1 #[.val (.ref a)] [(.ref a)])) rfl (by rw [hml]; rfl) (Steps.refl _) (a := a) (argsL := []) (rest := []) (lenOf pd_0 rfl) rfl (by show 2 * 0 + _ ≤ _; exact Nat.le_of_eq rfl) (hb hby d2_1) (fun _ _ => ⟨rfl, e0, (by decide : 0 + 0 ≤ _), (by decide : 0 + 0 ≤ _)⟩)
  dsimp only [Pt.U, Pt.locs, Pt.cells, Pt.slots] at X1 ll1 yy1 zz1 st1 hQ1
  subst ll1 yy1 zz1
  obtain ⟨rfl, N1q, K1q, p1_0, p1_1, p1_2, p1_3⟩ := hQ1
  have N1 := Fr.app N0 N1q
  have f1 : Keep h0 T1.heap [a] := K0.trans K1q (allS (Or.inl (List.mem_of_getElem? (i := 0) rfl)) all0)
  have f2 : Old Z n0 T1.heap := O0.keep K1q (allS g_a all0)
  obtain ⟨T5, X5, e5, st5⟩ := getS2 X1 hx hZ hown (host := "") (Or.inl (w_33 hw)) Via.refl rfl (S_D.ext f2.2) (g := (mkF m 5 #[.val (.ref a)] [(.ref a)])) rfl (hb hby d2_5)
  obtain ⟨T8, h8, X8, e8, Wr8, st8⟩ := putF X5 hx hZ hown (host := "") (Or.inl (w_34 hw)) Via.refl e5 p1_2 p1_0 (Or.inl (w_35 hw)) (w_11 hw) (ty := (.array (.object "java/lang/Object"))) (by decide) rfl rfl (g := (mkF m 8 #[.val (.ref a)] [(.ref de), (.ref a)])) rfl rfl (hb hby d2_8)
  have f3 : Keep h0 h8 [a] := f1.wr Wr8 (Or.inl (List.mem_of_getElem? (i := 0) rfl))
  have f4 : Old Z n0 h8 := f2.wr Wr8 g_a
  have f5 : Fld Z h8 a "java/util/ArrayList" "elementData" "[Ljava/lang/Object;" (.ref de) := p1_2.same Wr8
  have N8 := Fr.snoc X8 N1 g_a
  have f6 : Exa Z h8 a "java/util/ArrayList" := p1_0.wr Wr8
  have f7 : Fld Z h8 a "java/util/AbstractList" "modCount" "I" (.int (0 : Int32)) := p1_1.other Wr8 (Or.inr (slot_ne (Or.inl (w_32 hw)) (Or.inl (w_35 hw)) (by decide) (t := .int) (t' := (.array (.object "java/lang/Object"))) (by decide) (by decide)))
  have f8 : Fld Z h8 a "java/util/ArrayList" "size" "I" (.int (0 : Int32)) := p1_3.other Wr8 (Or.inr (slot_ne (Or.inl (w_67 hw)) (Or.inl (w_35 hw)) (by decide) (t := .int) (t' := (.array (.object "java/lang/Object"))) (by decide) (by decide)))
  obtain ⟨fs, hr, hrun, hended, hW, hsame⟩ := X8.leave (v := none) (fun _ => rfl)
  refine ⟨_, _, pre0 _ ?_, hrun, hended, _, _, rfl, ?_, ⟨_, rfl⟩, hW, hsame.mono (by decide) (by decide)⟩
  · show Steps p.tables e below (s₁.setTop (mkF m 0 #[.val (.ref a)] [])) _
    refine XS.aloadN X0.here hx rfl (hb hby d2_0) rfl rfl ?_
    show Steps p.tables e below (s₁.setTop (mkF m 1 #[.val (.ref a)] [(.ref a)])) _
    refine st1.trans ?_
    show Steps p.tables e below (T1.setTop (mkF m 4 #[.val (.ref a)] [])) _
    refine XS.aloadN X1.here hx rfl (hb hby d2_4) rfl rfl ?_
    show Steps p.tables e below (T1.setTop (mkF m 5 #[.val (.ref a)] [(.ref a)])) _
    refine st5 _ ?_
    show Steps p.tables e below (T5.setTop (mkF m 8 #[.val (.ref a)] [(.ref de), (.ref a)])) _
    refine st8 _ ?_
    show Steps p.tables e below (T8.setTop (mkF m 11 #[.val (.ref a)] [])) _
    exact X8.returnOut hx Bd.returns (hb hby d2_11) hr
  · show Q_alInit Z a de h0 n0 _ T8.heap _
    rw [e8]
    exact ⟨rfl, N8, f3, f6, f7, f5, f8⟩
theorem d19_0 : decode jdk_29_method_65_code 0 = .ok (.iload_n 0, 1) := by decide +kernel
theorem d19_1 : decode jdk_29_method_65_code 1 = .ok (.iload_n 1, 1) := by decide +kernel
theorem d19_2 : decode jdk_29_method_65_code 2 = .ok (.if_icmp .lt 7, 3) := by decide +kernel
theorem d19_5 : decode jdk_29_method_65_code 5 = .ok (.iload_n 0, 1) := by decide +kernel
theorem d19_6 : decode jdk_29_method_65_code 6 = .ok (.goto 4, 3) := by decide +kernel
theorem d19_10 : decode jdk_29_method_65_code 10 = .ok (.ireturn, 1) := by decide +kernel
def Q_max (Z : State) (p1 : Int32) (p2 : Int32) (h0 : Heap) (n0 : Nat) (v : Option Value) (h : Heap) (L : List Loc) : Prop := v = some (.int p1) ∧ Fr n0 L ∧ Keep h0 h []
theorem ef_rm_max (m : MethodId) (x0 : Int32) (x1 : Int32) : entryFrame m #[(.int x0), (.int x1)] 2 = mkF m 0 #[.val (.int x0), .val (.int x1)] [] := by first | (simp [entryFrame, mkF, argsToLocals, Value.category]; done) | rfl
set_option maxRecDepth 65536 in
set_option maxHeartbeats 40000000 in
theorem rm_max (l : Launch) (Z : State) (a0 : Array Value) (hw : ∀ d ∈ tables_1, d.before a0 Z = true) (ws : List Jvm.Cond) (p1 : Int32) (p2 : Int32) (h0 : Heap) (n0 : Nat) (O0 : Old Z n0 h0) (hge : ¬ (p1 < p2)) :
    MetFree l (⟨"java/lang/Math", "max", "(II)I"⟩ : MethodName) (head1 (Jvm.Cond.code (⟨"java/lang/Math", "max", "(II)I"⟩ : MethodName) jdk_29_method_65_code 2 (some .int) :: ws) ({ frames := 0, cells := 0, slots := 0, locals := 0 } : Room)) (fun as' U => as' = #[(.int p1), (.int p2)] ∧ Z.Warmed39 U.vm ∧ U.heap = h0) (fun _ _ _ _ _ => True) (fun _ U o U' => ∃ v L, o = .returned v ∧ Q_max Z p1 p2 h0 n0 v U'.heap L ∧ FrameEnd U o U' L ({ frames := 0, cells := 0, slots := 0, locals := 0 } : Room).cells ({ frames := 0, cells := 0, slots := 0, locals := 0 } : Room).slots) := by
  refine MetFree.of_bodySF (Jvm.Free.JP.mathPlain rfl (by decide +kernel)) hisR ?_
  intro p e s m args below meth c s₁ Bd hml0 hP hK
  obtain ⟨rfl, hZ, hh⟩ := hP
  have hx := Bd.exec
  have hby := Bd.bytes
  have hml : c.maxLocals = 2 := hml0
  have hown : s.vm.findClass "java/lang/Math" = some m.cls := findClass_of_methodNamed Bd.named
  have hnm := (name_of_methodNamed Bd.named Bd.method).1
  have X0 : Stand p l e ({ frames := 0, cells := 0, slots := 0, locals := 0 } : Room) s m #[(.int p1), (.int p2)] below meth c s₁ [] 0 0 := Stand.of_body Bd
  have e0 : s₁.heap = h0 := by rw [← hh, Bd.state]; rfl
  have N0 := Fr.nil n0
  have K0 : Keep h0 h0 [] := Keep.refl _ _
  have pre0 : ∀ t, Steps p.tables e below (s₁.setTop (mkF m 0 #[.val (.int p1), .val (.int p2)] [])) t → Steps p.tables e below (s₁.setTop (entryFrame m #[(.int p1), (.int p2)] 2)) t := fun t k => castTop (ef_rm_max m p1 p2) k
  obtain ⟨fs, hr, hrun, hended, hW, hsame⟩ := X0.leave (v := some (.int p1)) (fun h => by rw [Bd.returns] at h; cases h)
  refine ⟨_, _, pre0 _ ?_, hrun, hended, _, _, rfl, ?_, ⟨_, rfl⟩, hW, hsame.mono (by decide) (by decide)⟩
  · show Steps p.tables e below (s₁.setTop (mkF m 0 #[.val (.int p1), .val (.int p2)] [])) _
    refine XS.iloadN X0.here hx rfl (hb hby d19_0) rfl ?_
    show Steps p.tables e below (s₁.setTop (mkF m 1 #[.val (.int p1), .val (.int p2)] [(.int p1)])) _
    refine XS.iloadN X0.here hx rfl (hb hby d19_1) rfl ?_
    show Steps p.tables e below (s₁.setTop (mkF m 2 #[.val (.int p1), .val (.int p2)] [(.int p2), (.int p1)])) _
    refine XS.icmpNo X0.here hx rfl (hb hby d19_2) rfl (flt hge).1 ?_
    show Steps p.tables e below (s₁.setTop (mkF m 5 #[.val (.int p1), .val (.int p2)] [])) _
    refine XS.iloadN X0.here hx rfl (hb hby d19_5) rfl ?_
    show Steps p.tables e below (s₁.setTop (mkF m 6 #[.val (.int p1), .val (.int p2)] [(.int p1)])) _
    refine XS.goto X0.here hx rfl (pc0 := 6) (pc' := 10) rfl (hb hby d19_6) (by decide) (by decide) ?_
    show Steps p.tables e below (s₁.setTop (mkF m 10 #[.val (.int p1), .val (.int p2)] [(.int p1)])) _
    exact retI X0 hx Bd.returns (hb hby d19_10) hr
  · show Q_max Z p1 p2 h0 n0 _ s₁.heap _
    rw [e0]
    exact ⟨rfl, N0, K0⟩
theorem d18_0 : decode jdk_38_method_6_code 0 = .ok (.aload_n 0, 1) := by decide +kernel
theorem d18_1 : decode jdk_38_method_6_code 1 = .ok (.getfield 9, 3) := by decide +kernel
theorem d18_4 : decode jdk_38_method_6_code 4 = .ok (.arraylength, 1) := by decide +kernel
theorem d18_5 : decode jdk_38_method_6_code 5 = .ok (.istore_n 2, 1) := by decide +kernel
theorem d18_6 : decode jdk_38_method_6_code 6 = .ok (.iload_n 2, 1) := by decide +kernel
theorem d18_7 : decode jdk_38_method_6_code 7 = .ok (.ifCond .gt 13, 3) := by decide +kernel
theorem d18_10 : decode jdk_38_method_6_code 10 = .ok (.aload_n 0, 1) := by decide +kernel
theorem d18_11 : decode jdk_38_method_6_code 11 = .ok (.getfield 9, 3) := by decide +kernel
theorem d18_14 : decode jdk_38_method_6_code 14 = .ok (.getstatic 39, 3) := by decide +kernel
theorem d18_17 : decode jdk_38_method_6_code 17 = .ok (.if_acmp .eq 28, 3) := by decide +kernel
theorem d18_45 : decode jdk_38_method_6_code 45 = .ok (.aload_n 0, 1) := by decide +kernel
theorem d18_46 : decode jdk_38_method_6_code 46 = .ok (.bipush 10, 2) := by decide +kernel
theorem d18_48 : decode jdk_38_method_6_code 48 = .ok (.iload_n 1, 1) := by decide +kernel
theorem pd_2 : parseMethodDescriptor "(II)I" = some ⟨[.int, .int], some .int⟩ := by decide +kernel
theorem d18_49 : decode jdk_38_method_6_code 49 = .ok (.invokestatic 79, 3) := by decide +kernel
theorem d18_52 : decode jdk_38_method_6_code 52 = .ok (.anewarray 7, 3) := by decide +kernel
theorem d18_55 : decode jdk_38_method_6_code 55 = .ok (.dup_x1, 1) := by decide +kernel
theorem d18_56 : decode jdk_38_method_6_code 56 = .ok (.putfield 9, 3) := by decide +kernel
theorem d18_59 : decode jdk_38_method_6_code 59 = .ok (.areturn, 1) := by decide +kernel
def Q_grow1 (Z : State) (a : Addr) (m1 : Int32) (de : Addr) (kde : ClassId) (h0 : Heap) (n0 : Nat) (v : Option Value) (h : Heap) (L : List Loc) : Prop := ∃ d : Addr, ∃ kd : ClassId, v = some (.ref d) ∧ Fr n0 L ∧ Keep h0 h [a] ∧ (h0.size ≤ d) ∧ (Exa Z h a "java/util/ArrayList") ∧ (Fld Z h a "java/util/AbstractList" "modCount" "I" (.int m1)) ∧ (Fld Z h a "java/util/ArrayList" "elementData" "[Ljava/lang/Object;" (.ref d)) ∧ (Fld Z h a "java/util/ArrayList" "size" "I" (.int (0 : Int32))) ∧ (Exa Z h d "[Ljava/lang/Object;") ∧ (Arv Z h d kd (.object "java/lang/Object") (10 : Int32) [.null, .null, .null, .null, .null, .null, .null, .null, .null, .null] .null) ∧ (Ovr Z kd "java/lang/Object")
theorem ef_rm_grow1 (m : MethodId) (x0 : Addr) (x1 : Int32) : entryFrame m #[(.ref x0), (.int x1)] 4 = mkF m 0 #[.val (.ref x0), .val (.int x1), .unset, .unset] [] := by first | (simp [entryFrame, mkF, argsToLocals, Value.category]; done) | rfl
set_option maxRecDepth 65536 in
set_option maxHeartbeats 40000000 in
theorem rm_grow1 (l : Launch) (Z : State) (a0 : Array Value) (hw : ∀ d ∈ tables_1, d.before a0 Z = true) (ws : List Jvm.Cond) (a : Addr) (m1 : Int32) (de : Addr) (kde : ClassId) (h0 : Heap) (n0 : Nat) (O0 : Old Z n0 h0) (E_a : Exa Z h0 a "java/util/ArrayList") (F1 : Fld Z h0 a "java/util/AbstractList" "modCount" "I" (.int m1)) (F2 : Fld Z h0 a "java/util/ArrayList" "elementData" "[Ljava/lang/Object;" (.ref de)) (F3 : Fld Z h0 a "java/util/ArrayList" "size" "I" (.int (0 : Int32))) (S_D : Sta Z Z.heap "java/util/ArrayList" "DEFAULTCAPACITY_EMPTY_ELEMENTDATA" "[Ljava/lang/Object;" (.ref de)) (V_D : Arv Z Z.heap de kde (.object "java/lang/Object") (0 : Int32) [] .null) (g_a : n0 ≤ a) :
    MetFree l (⟨"java/util/ArrayList", "grow", "(I)[Ljava/lang/Object;"⟩ : MethodName) (head1 (Jvm.Cond.code (⟨"java/util/ArrayList", "grow", "(I)[Ljava/lang/Object;"⟩ : MethodName) jdk_38_method_6_code 4 (some (.array (.object "java/lang/Object"))) :: ws) ({ frames := 1, cells := 1, slots := 10, locals := 14 } : Room)) (fun as' U => as' = #[(.ref a), (.int (1 : Int32))] ∧ Z.Warmed39 U.vm ∧ U.heap = h0) (fun _ _ _ _ _ => True) (fun _ U o U' => ∃ v L, o = .returned v ∧ Q_grow1 Z a m1 de kde h0 n0 v U'.heap L ∧ FrameEnd U o U' L ({ frames := 1, cells := 1, slots := 10, locals := 14 } : Room).cells ({ frames := 1, cells := 1, slots := 10, locals := 14 } : Room).slots) := by
  refine MetFree.of_bodySF (plainFor_of_name pn_java_util_ArrayList) hisR ?_
  intro p e s m args below meth c s₁ Bd hml0 hP hK
  obtain ⟨rfl, hZ, hh⟩ := hP
  have hx := Bd.exec
  have hby := Bd.bytes
  have hml : c.maxLocals = 4 := hml0
  have hown : s.vm.findClass "java/util/ArrayList" = some m.cls := findClass_of_methodNamed Bd.named
  have hnm := (name_of_methodNamed Bd.named Bd.method).1
  have X0 : Stand p l e ({ frames := 1, cells := 1, slots := 10, locals := 14 } : Room) s m #[(.ref a), (.int (1 : Int32))] below meth c s₁ [] 0 0 := Stand.of_body Bd
  have e0 : s₁.heap = h0 := by rw [← hh, Bd.state]; rfl
  have N0 := Fr.nil n0
  have K0 : Keep h0 h0 [a] := Keep.refl _ _
  have pre0 : ∀ t, Steps p.tables e below (s₁.setTop (mkF m 0 #[.val (.ref a), .val (.int (1 : Int32)), .unset, .unset] [])) t → Steps p.tables e below (s₁.setTop (entryFrame m #[(.ref a), (.int (1 : Int32))] 4)) t := fun t k => castTop (ef_rm_grow1 m a ((1 : Int32))) k
  obtain ⟨T1, X1, e1, st1⟩ := getF X0 hx hZ hown (host := "") (Or.inl (w_34 hw)) Via.refl e0 F2 (g := (mkF m 1 #[.val (.ref a), .val (.int (1 : Int32)), .unset, .unset] [(.ref a)])) rfl rfl (hb hby d18_1)
  obtain ⟨cl4, Ar4, qq4, Sz4, NN4, HH4, GG4⟩ := (id (V_D.ext O0.2))
  obtain ⟨T11, X11, e11, st11⟩ := getF X1 hx hZ hown (host := "") (Or.inl (w_34 hw)) Via.refl e1 F2 (g := (mkF m 11 #[.val (.ref a), .val (.int (1 : Int32)), .val (.int (0 : Int32)), .unset] [(.ref a)])) rfl rfl (hb hby d18_11)
  obtain ⟨T14, X14, e14, st14⟩ := getS2 X11 hx hZ hown (host := "") (Or.inl (w_33 hw)) Via.refl e11 (S_D.ext O0.2) (g := (mkF m 14 #[.val (.ref a), .val (.int (1 : Int32)), .val (.int (0 : Int32)), .unset] [(.ref de)])) rfl (hb hby d18_14)
  obtain ⟨_, _, ⟨T49, Lo49, kk49, nn49⟩, -, X49, ⟨Lc49, hQ49, ll49, yy49, zz49⟩, st49⟩ := Jvm.LawKit.callS X14 hx (y := (⟨"java/lang/Math", "max", "(II)I"⟩ : MethodName)) hown (mvT hZ (w_123 hw)) (mvT hZ (w_124 hw)) (mvT hZ (w_125 hw)) (mvT hZ (w_126 hw)) (by decide) (backOf (W := 1) (rm_max l Z a0 hw [] ((10 : Int32)) ((1 : Int32)) h0 n0 O0 (by first | rfl | decide | assumption)) hZ (w_126 hw) (w_125 hw) (by decide) (by decide)) (g := (mkF m 49 #[.val (.ref a), .val (.int (1 : Int32)), .val (.int (0 : Int32)), .unset] [(.int (1 : Int32)), (.int (10 : Int32)), (.ref a)])) rfl (by rw [hml]; rfl) (argsL := [(.int (10 : Int32)), (.int (1 : Int32))]) (rest := [(.ref a)]) (lenOf pd_2 rfl) rfl (by show 2 * 0 + _ ≤ _; exact Nat.le_of_eq rfl) (hb hby d18_49) (fun _ _ => ⟨rfl, e14, (by decide : 0 + 0 ≤ _), (by decide : 0 + 0 ≤ _)⟩)
  dsimp only [Pt.U, Pt.locs, Pt.cells, Pt.slots] at X49 ll49 yy49 zz49 st49 hQ49
  subst ll49 yy49 zz49
  obtain ⟨rfl, N49q, K49q⟩ := hQ49
  have N49 := Fr.app N0 N49q
  have f1 : Keep h0 T49.heap [a] := K0.trans K49q all0
  have f2 : Old Z n0 T49.heap := O0.keep K49q all0
  obtain ⟨T52, h52, kc52, X52, e52, Ex52, Aa52, Bb52, Ov52, st52⟩ := newRE X49 hx hZ hown (w_127 hw) (w_1 hw) rfl (g := (mkF m 52 #[.val (.ref a), .val (.int (1 : Int32)), .val (.int (0 : Int32)), .unset] [(.int (10 : Int32)), (.ref a)])) rfl (hb hby d18_52) rfl (by decide) (cap := 10) (by decide) (by decide) (by decide) (by decide) (ad := "[Ljava/lang/Object;") (by first | rfl | decide +kernel)
  obtain ⟨b52, gg52⟩ : ∃ z, z = T49.heap.size := ⟨_, rfl⟩
  rw [← gg52] at Aa52 Bb52 st52
  have f3 : Keep h0 h52 [a] := f1.ext Ex52
  have f4 : Old Z n0 h52 := f2.ext Ex52
  have f5 : Arv Z h52 b52 kc52 (.object "java/lang/Object") (10 : Int32) [.null, .null, .null, .null, .null, .null, .null, .null, .null, .null] .null := (Arv.new Aa52 (by decide)).pad (pad_rep [] .null 10)
  have f6 : Fld Z T49.heap a "java/util/ArrayList" "elementData" "[Ljava/lang/Object;" (.ref de) := F2.keep K49q nin0
  have f7 : Fld Z h52 a "java/util/ArrayList" "elementData" "[Ljava/lang/Object;" (.ref de) := f6.ext Ex52
  have f8 : Exa Z T49.heap a "java/util/ArrayList" := E_a.keep K49q
  have f9 : Exa Z h52 a "java/util/ArrayList" := f8.ext Ex52
  obtain ⟨T56, h56, X56, e56, Wr56, st56⟩ := putF X52 hx hZ hown (host := "") (Or.inl (w_34 hw)) Via.refl e52 f7 f9 (Or.inl (w_35 hw)) (w_11 hw) (ty := (.array (.object "java/lang/Object"))) (by decide) rfl rfl (g := (mkF m 56 #[.val (.ref a), .val (.int (1 : Int32)), .val (.int (0 : Int32)), .unset] [(.ref b52), (.ref a), (.ref b52)])) rfl rfl (hb hby d18_56)
  have f10 : Keep h0 h56 [a] := f3.wr Wr56 (Or.inl (List.mem_of_getElem? (i := 0) rfl))
  have f11 : Old Z n0 h56 := f4.wr Wr56 g_a
  have f12 : Fld Z h56 a "java/util/ArrayList" "elementData" "[Ljava/lang/Object;" (.ref b52) := f7.same Wr56
  have N56 := Fr.snoc X56 N49 g_a
  have f13 : h0.size ≤ b52 := Nat.le_trans f1.1 (Nat.le_of_eq gg52.symm)
  have f14 : Exa Z h56 a "java/util/ArrayList" := f9.wr Wr56
  have f15 : Fld Z T49.heap a "java/util/AbstractList" "modCount" "I" (.int m1) := F1.keep K49q nin0
  have f16 : Fld Z h52 a "java/util/AbstractList" "modCount" "I" (.int m1) := f15.ext Ex52
  have f17 : Fld Z h56 a "java/util/AbstractList" "modCount" "I" (.int m1) := f16.other Wr56 (Or.inr (slot_ne (Or.inl (w_32 hw)) (Or.inl (w_35 hw)) (by decide) (t := .int) (t' := (.array (.object "java/lang/Object"))) (by decide) (by decide)))
  have f18 : Fld Z T49.heap a "java/util/ArrayList" "size" "I" (.int (0 : Int32)) := F3.keep K49q nin0
  have f19 : Fld Z h52 a "java/util/ArrayList" "size" "I" (.int (0 : Int32)) := f18.ext Ex52
  have f20 : Fld Z h56 a "java/util/ArrayList" "size" "I" (.int (0 : Int32)) := f19.other Wr56 (Or.inr (slot_ne (Or.inl (w_67 hw)) (Or.inl (w_35 hw)) (by decide) (t := .int) (t' := (.array (.object "java/lang/Object"))) (by decide) (by decide)))
  have f21 : Exa Z h56 b52 "[Ljava/lang/Object;" := Bb52.wr Wr56
  have f22 : Arv Z h56 b52 kc52 (.object "java/lang/Object") (10 : Int32) [.null, .null, .null, .null, .null, .null, .null, .null, .null, .null] .null := f5.other Wr56 (Ne.symm (Nat.ne_of_lt (Nat.lt_of_lt_of_le f8.lt (Nat.le_of_eq gg52.symm))))
  obtain ⟨fs, hr, hrun, hended, hW, hsame⟩ := X56.leave (v := some (.ref b52)) (fun h => by rw [Bd.returns] at h; cases h)
  refine ⟨_, _, pre0 _ ?_, hrun, hended, _, _, rfl, ?_, ⟨_, rfl⟩, hW, hsame.mono (by decide) (by decide)⟩
  · show Steps p.tables e below (s₁.setTop (mkF m 0 #[.val (.ref a), .val (.int (1 : Int32)), .unset, .unset] [])) _
    refine XS.aloadN X0.here hx rfl (hb hby d18_0) rfl rfl ?_
    show Steps p.tables e below (s₁.setTop (mkF m 1 #[.val (.ref a), .val (.int (1 : Int32)), .unset, .unset] [(.ref a)])) _
    refine st1 _ ?_
    show Steps p.tables e below (T1.setTop (mkF m 4 #[.val (.ref a), .val (.int (1 : Int32)), .unset, .unset] [(.ref de)])) _
    refine X1.arraylength hx (by rw [e1]; exact Ar4.1) (State.isArrayOf_alike hZ.alike Ar4.2.1) (g := (mkF m 4 #[.val (.ref a), .val (.int (1 : Int32)), .unset, .unset] [(.ref de)])) rfl rfl (hb hby d18_4) _ ?_
    rw [len_of Sz4 NN4]
    show Steps p.tables e below (T1.setTop (mkF m 5 #[.val (.ref a), .val (.int (1 : Int32)), .unset, .unset] [(.int (0 : Int32))])) _
    refine XS.istoreN X1.here hx rfl (hb hby d18_5) rfl (l' := #[.val (.ref a), .val (.int (1 : Int32)), .val (.int (0 : Int32)), .unset]) rfl ?_
    show Steps p.tables e below (T1.setTop (mkF m 6 #[.val (.ref a), .val (.int (1 : Int32)), .val (.int (0 : Int32)), .unset] [])) _
    refine XS.iloadN X1.here hx rfl (hb hby d18_6) rfl ?_
    show Steps p.tables e below (T1.setTop (mkF m 7 #[.val (.ref a), .val (.int (1 : Int32)), .val (.int (0 : Int32)), .unset] [(.int (0 : Int32))])) _
    refine XS.ifNo X1.here hx rfl (hb hby d18_7) rfl ((if0 _ _).trans (flt (by decide : ¬ ((0 : Int32) < (0 : Int32)))).2.2.1) ?_
    show Steps p.tables e below (T1.setTop (mkF m 10 #[.val (.ref a), .val (.int (1 : Int32)), .val (.int (0 : Int32)), .unset] [])) _
    refine XS.aloadN X1.here hx rfl (hb hby d18_10) rfl rfl ?_
    show Steps p.tables e below (T1.setTop (mkF m 11 #[.val (.ref a), .val (.int (1 : Int32)), .val (.int (0 : Int32)), .unset] [(.ref a)])) _
    refine st11 _ ?_
    show Steps p.tables e below (T11.setTop (mkF m 14 #[.val (.ref a), .val (.int (1 : Int32)), .val (.int (0 : Int32)), .unset] [(.ref de)])) _
    refine st14 _ ?_
    show Steps p.tables e below (T14.setTop (mkF m 17 #[.val (.ref a), .val (.int (1 : Int32)), .val (.int (0 : Int32)), .unset] [(.ref de), (.ref de)])) _
    refine Jvm.RoadKit.acmp (g := (mkF m 17 #[.val (.ref a), .val (.int (1 : Int32)), .val (.int (0 : Int32)), .unset] [(.ref de), (.ref de)])) X14 hx rfl rfl rfl (pc0 := 17) (pc' := 45) (same := true) rfl (hb hby d18_17) rfl (decide_eq_true rfl) (by decide) (by decide) ?_
    show Steps p.tables e below (T14.setTop (mkF m 45 #[.val (.ref a), .val (.int (1 : Int32)), .val (.int (0 : Int32)), .unset] [])) _
    refine XS.aloadN X14.here hx rfl (hb hby d18_45) rfl rfl ?_
    show Steps p.tables e below (T14.setTop (mkF m 46 #[.val (.ref a), .val (.int (1 : Int32)), .val (.int (0 : Int32)), .unset] [(.ref a)])) _
    refine XS.bipush X14.here hx rfl (hb hby d18_46) ?_
    show Steps p.tables e below (T14.setTop (mkF m 48 #[.val (.ref a), .val (.int (1 : Int32)), .val (.int (0 : Int32)), .unset] [(.int (10 : Int32)), (.ref a)])) _
    refine XS.iloadN X14.here hx rfl (hb hby d18_48) rfl ?_
    show Steps p.tables e below (T14.setTop (mkF m 49 #[.val (.ref a), .val (.int (1 : Int32)), .val (.int (0 : Int32)), .unset] [(.int (1 : Int32)), (.int (10 : Int32)), (.ref a)])) _
    refine st49 _ ?_
    show Steps p.tables e below (T49.setTop (mkF m 52 #[.val (.ref a), .val (.int (1 : Int32)), .val (.int (0 : Int32)), .unset] [(.int (10 : Int32)), (.ref a)])) _
    refine st52 _ ?_
    show Steps p.tables e below (T52.setTop (mkF m 55 #[.val (.ref a), .val (.int (1 : Int32)), .val (.int (0 : Int32)), .unset] [(.ref b52), (.ref a)])) _
    refine XS.dupX1 X52.here hx rfl (hb hby d18_55) rfl rfl rfl ?_
    show Steps p.tables e below (T52.setTop (mkF m 56 #[.val (.ref a), .val (.int (1 : Int32)), .val (.int (0 : Int32)), .unset] [(.ref b52), (.ref a), (.ref b52)])) _
    refine st56 _ ?_
    show Steps p.tables e below (T56.setTop (mkF m 59 #[.val (.ref a), .val (.int (1 : Int32)), .val (.int (0 : Int32)), .unset] [(.ref b52)])) _
    jvm_step X56.here [X56.here.top, hx, (hb hby d18_59), X56.method', Bd.returns, Value.isRef, FieldType.isReference]
    first | (intro acts; rw [hr _ acts rfl rfl rfl]) | rw [hr _ _ rfl rfl rfl]
    exact Steps.refl _
  · show Q_grow1 Z a m1 de kde h0 n0 _ T56.heap _
    rw [e56]
    exact ⟨b52, kc52, rfl, N56, f10, f13, f14, f17, f12, f20, f21, f22, Ov52⟩
theorem d17_0 : decode jdk_38_method_7_code 0 = .ok (.aload_n 0, 1) := by decide +kernel
theorem d17_1 : decode jdk_38_method_7_code 1 = .ok (.aload_n 0, 1) := by decide +kernel
theorem d17_2 : decode jdk_38_method_7_code 2 = .ok (.getfield 48, 3) := by decide +kernel
theorem d17_5 : decode jdk_38_method_7_code 5 = .ok (.iconst 1, 1) := by decide +kernel
theorem d17_6 : decode jdk_38_method_7_code 6 = .ok (.iadd, 1) := by decide +kernel
theorem pd_3 : parseMethodDescriptor "(I)[Ljava/lang/Object;" = some ⟨[.int], some (.array (.object "java/lang/Object"))⟩ := by decide +kernel
theorem d17_7 : decode jdk_38_method_7_code 7 = .ok (.invokevirtual 69, 3) := by decide +kernel
theorem d17_10 : decode jdk_38_method_7_code 10 = .ok (.areturn, 1) := by decide +kernel
def Q_grow0 (Z : State) (a : Addr) (m1 : Int32) (de : Addr) (kde : ClassId) (h0 : Heap) (n0 : Nat) (v : Option Value) (h : Heap) (L : List Loc) : Prop := ∃ d : Addr, ∃ kd : ClassId, v = some (.ref d) ∧ Fr n0 L ∧ Keep h0 h [a] ∧ (h0.size ≤ d) ∧ (Exa Z h a "java/util/ArrayList") ∧ (Fld Z h a "java/util/AbstractList" "modCount" "I" (.int m1)) ∧ (Fld Z h a "java/util/ArrayList" "elementData" "[Ljava/lang/Object;" (.ref d)) ∧ (Fld Z h a "java/util/ArrayList" "size" "I" (.int (0 : Int32))) ∧ (Exa Z h d "[Ljava/lang/Object;") ∧ (Arv Z h d kd (.object "java/lang/Object") (10 : Int32) [.null, .null, .null, .null, .null, .null, .null, .null, .null, .null] .null) ∧ (Ovr Z kd "java/lang/Object")
theorem ef_rm_grow0 (m : MethodId) (x0 : Addr) : entryFrame m #[(.ref x0)] 1 = mkF m 0 #[.val (.ref x0)] [] := by first | (simp [entryFrame, mkF, argsToLocals, Value.category]; done) | rfl
set_option maxRecDepth 65536 in
set_option maxHeartbeats 40000000 in
theorem rm_grow0 (l : Launch) (Z : State) (a0 : Array Value) (hw : ∀ d ∈ tables_1, d.before a0 Z = true) (ws : List Jvm.Cond) (a : Addr) (m1 : Int32) (de : Addr) (kde : ClassId) (h0 : Heap) (n0 : Nat) (O0 : Old Z n0 h0) (E_a : Exa Z h0 a "java/util/ArrayList") (F1 : Fld Z h0 a "java/util/AbstractList" "modCount" "I" (.int m1)) (F2 : Fld Z h0 a "java/util/ArrayList" "elementData" "[Ljava/lang/Object;" (.ref de)) (F3 : Fld Z h0 a "java/util/ArrayList" "size" "I" (.int (0 : Int32))) (S_D : Sta Z Z.heap "java/util/ArrayList" "DEFAULTCAPACITY_EMPTY_ELEMENTDATA" "[Ljava/lang/Object;" (.ref de)) (V_D : Arv Z Z.heap de kde (.object "java/lang/Object") (0 : Int32) [] .null) (g_a : n0 ≤ a) :
    MetFree l (⟨"java/util/ArrayList", "grow", "()[Ljava/lang/Object;"⟩ : MethodName) (head1 (Jvm.Cond.code (⟨"java/util/ArrayList", "grow", "()[Ljava/lang/Object;"⟩ : MethodName) jdk_38_method_7_code 1 (some (.array (.object "java/lang/Object"))) :: ws) ({ frames := 2, cells := 1, slots := 10, locals := 29 } : Room)) (fun as' U => as' = #[(.ref a)] ∧ Z.Warmed39 U.vm ∧ U.heap = h0) (fun _ _ _ _ _ => True) (fun _ U o U' => ∃ v L, o = .returned v ∧ Q_grow0 Z a m1 de kde h0 n0 v U'.heap L ∧ FrameEnd U o U' L ({ frames := 2, cells := 1, slots := 10, locals := 29 } : Room).cells ({ frames := 2, cells := 1, slots := 10, locals := 29 } : Room).slots) := by
  refine MetFree.of_bodySF (plainFor_of_name pn_java_util_ArrayList) hisR ?_
  intro p e s m args below meth c s₁ Bd hml0 hP hK
  obtain ⟨rfl, hZ, hh⟩ := hP
  have hx := Bd.exec
  have hby := Bd.bytes
  have hml : c.maxLocals = 1 := hml0
  have hown : s.vm.findClass "java/util/ArrayList" = some m.cls := findClass_of_methodNamed Bd.named
  have hnm := (name_of_methodNamed Bd.named Bd.method).1
  have X0 : Stand p l e ({ frames := 2, cells := 1, slots := 10, locals := 29 } : Room) s m #[(.ref a)] below meth c s₁ [] 0 0 := Stand.of_body Bd
  have e0 : s₁.heap = h0 := by rw [← hh, Bd.state]; rfl
  have N0 := Fr.nil n0
  have K0 : Keep h0 h0 [a] := Keep.refl _ _
  have pre0 : ∀ t, Steps p.tables e below (s₁.setTop (mkF m 0 #[.val (.ref a)] [])) t → Steps p.tables e below (s₁.setTop (entryFrame m #[(.ref a)] 1)) t := fun t k => castTop (ef_rm_grow0 m a) k
  obtain ⟨T2, X2, e2, st2⟩ := getF X0 hx hZ hown (host := "") (Or.inl (w_66 hw)) Via.refl e0 F3 (g := (mkF m 2 #[.val (.ref a)] [(.ref a), (.ref a)])) rfl rfl (hb hby d17_2)
  obtain ⟨cq7, q7, q7'⟩ := E_a.cell
  obtain ⟨_, _, ⟨T7, Lo7, kk7, nn7⟩, -, X7, ⟨Lc7, hQ7, ll7, yy7, zz7⟩, st7⟩ := X2.privateBack hx (y := (⟨"java/util/ArrayList", "grow", "(I)[Ljava/lang/Object;"⟩ : MethodName)) hown (mvT hZ (w_118 hw)) (mvT hZ (w_119 hw)) (mvT hZ (w_121 hw)) (Cond.privateMethod_at (mvP hZ (w_120 hw) (args := #[]))) (mvT hZ (w_122 hw)) (by decide) (backOf (W := 0) (rm_grow1 l Z a0 hw [] a m1 de kde h0 n0 O0 E_a F1 F2 F3 S_D V_D g_a) hZ (w_122 hw) (w_12 hw) (by decide) (by decide)) (g := (mkF m 7 #[.val (.ref a)] [(.int (1 : Int32)), (.ref a)])) rfl (by rw [hml]; rfl) (Steps.refl _) (a := a) (by rw [e2]; exact q7) q7' (argsL := [(.int (1 : Int32))]) (rest := []) (lenOf pd_3 rfl) rfl (by show 2 * 0 + _ ≤ _; exact Nat.le_of_eq rfl) (hb hby d17_7) (fun _ _ => ⟨rfl, e2, (by decide : 0 + 1 ≤ _), (by decide : 0 + 10 ≤ _)⟩)
  dsimp only [Pt.U, Pt.locs, Pt.cells, Pt.slots] at X7 ll7 yy7 zz7 st7 hQ7
  subst ll7 yy7 zz7
  obtain ⟨d7, kd7, rfl, N7q, K7q, p7_0, p7_1, p7_2, p7_3, p7_4, p7_5, p7_6, p7_7⟩ := hQ7
  have N7 := Fr.app N0 N7q
  have f1 : Keep h0 T7.heap [a] := K0.trans K7q (allS (Or.inl (List.mem_of_getElem? (i := 0) rfl)) all0)
  have f2 : Old Z n0 T7.heap := O0.keep K7q (allS g_a all0)
  obtain ⟨fs, hr, hrun, hended, hW, hsame⟩ := X7.leave (v := some (.ref d7)) (fun h => by rw [Bd.returns] at h; cases h)
  refine ⟨_, _, pre0 _ ?_, hrun, hended, _, _, rfl, ?_, ⟨_, rfl⟩, hW, hsame.mono (by decide) (by decide)⟩
  · show Steps p.tables e below (s₁.setTop (mkF m 0 #[.val (.ref a)] [])) _
    refine XS.aloadN X0.here hx rfl (hb hby d17_0) rfl rfl ?_
    show Steps p.tables e below (s₁.setTop (mkF m 1 #[.val (.ref a)] [(.ref a)])) _
    refine XS.aloadN X0.here hx rfl (hb hby d17_1) rfl rfl ?_
    show Steps p.tables e below (s₁.setTop (mkF m 2 #[.val (.ref a)] [(.ref a), (.ref a)])) _
    refine st2 _ ?_
    show Steps p.tables e below (T2.setTop (mkF m 5 #[.val (.ref a)] [(.int (0 : Int32)), (.ref a)])) _
    refine XS.iconst X2.here hx rfl (hb hby d17_5) ?_
    show Steps p.tables e below (T2.setTop (mkF m 6 #[.val (.ref a)] [(.int (1 : Int32)), (.int (0 : Int32)), (.ref a)])) _
    refine XS.iadd X2.here hx rfl (hb hby d17_6) rfl ?_
    show Steps p.tables e below (T2.setTop (mkF m 7 #[.val (.ref a)] [(.int ((0 : Int32) + (1 : Int32))), (.ref a)])) _
    rw [(by decide : ((0 : Int32) + (1 : Int32)) = (1 : Int32))]
    show Steps p.tables e below (T2.setTop (mkF m 7 #[.val (.ref a)] [(.int (1 : Int32)), (.ref a)])) _
    refine st7.trans ?_
    show Steps p.tables e below (T7.setTop (mkF m 10 #[.val (.ref a)] [(.ref d7)])) _
    jvm_step X7.here [X7.here.top, hx, (hb hby d17_10), X7.method', Bd.returns, Value.isRef, FieldType.isReference]
    first | (intro acts; rw [hr _ acts rfl rfl rfl]) | rw [hr _ _ rfl rfl rfl]
    exact Steps.refl _
  · show Q_grow0 Z a m1 de kde h0 n0 _ T7.heap _
    exact ⟨d7, kd7, rfl, N7, f1, p7_0, p7_1, p7_2, p7_3, p7_4, p7_5, p7_6, p7_7⟩
theorem d16_0 : decode jdk_38_method_24_code 0 = .ok (.iload_n 3, 1) := by decide +kernel
theorem d16_1 : decode jdk_38_method_24_code 1 = .ok (.aload_n 2, 1) := by decide +kernel
theorem d16_2 : decode jdk_38_method_24_code 2 = .ok (.arraylength, 1) := by decide +kernel
theorem d16_3 : decode jdk_38_method_24_code 3 = .ok (.if_icmp .ne 8, 3) := by decide +kernel
theorem d16_6 : decode jdk_38_method_24_code 6 = .ok (.aload_n 0, 1) := by decide +kernel
theorem pd_4 : parseMethodDescriptor "()[Ljava/lang/Object;" = some ⟨[], some (.array (.object "java/lang/Object"))⟩ := by decide +kernel
theorem d16_7 : decode jdk_38_method_24_code 7 = .ok (.invokevirtual 129, 3) := by decide +kernel
theorem d16_10 : decode jdk_38_method_24_code 10 = .ok (.astore_n 2, 1) := by decide +kernel
theorem d16_11 : decode jdk_38_method_24_code 11 = .ok (.aload_n 2, 1) := by decide +kernel
theorem d16_12 : decode jdk_38_method_24_code 12 = .ok (.iload_n 3, 1) := by decide +kernel
theorem d16_13 : decode jdk_38_method_24_code 13 = .ok (.aload_n 1, 1) := by decide +kernel
theorem d16_14 : decode jdk_38_method_24_code 14 = .ok (.aastore, 1) := by decide +kernel
theorem d16_15 : decode jdk_38_method_24_code 15 = .ok (.aload_n 0, 1) := by decide +kernel
theorem d16_16 : decode jdk_38_method_24_code 16 = .ok (.iload_n 3, 1) := by decide +kernel
theorem d16_17 : decode jdk_38_method_24_code 17 = .ok (.iconst 1, 1) := by decide +kernel
theorem d16_18 : decode jdk_38_method_24_code 18 = .ok (.iadd, 1) := by decide +kernel
theorem d16_19 : decode jdk_38_method_24_code 19 = .ok (.putfield 48, 3) := by decide +kernel
theorem d16_22 : decode jdk_38_method_24_code 22 = .ok (.return_, 1) := by decide +kernel
def Q_hF (Z : State) (a : Addr) (v1 : Addr) (m1 : Int32) (de : Addr) (kde : ClassId) (h0 : Heap) (n0 : Nat) (v : Option Value) (h : Heap) (L : List Loc) : Prop := ∃ d : Addr, ∃ kd : ClassId, v = none ∧ Fr n0 L ∧ Keep h0 h [a] ∧ (h0.size ≤ d) ∧ (Exa Z h a "java/util/ArrayList") ∧ (Fld Z h a "java/util/AbstractList" "modCount" "I" (.int m1)) ∧ (Fld Z h a "java/util/ArrayList" "elementData" "[Ljava/lang/Object;" (.ref d)) ∧ (Fld Z h a "java/util/ArrayList" "size" "I" (.int (1 : Int32))) ∧ (Exa Z h d "[Ljava/lang/Object;") ∧ (Arv Z h d kd (.object "java/lang/Object") (10 : Int32) [(.ref v1), .null, .null, .null, .null, .null, .null, .null, .null, .null] .null) ∧ (Ovr Z kd "java/lang/Object")
theorem ef_rm_hF (m : MethodId) (x0 : Addr) (x1 : Addr) (x2 : Addr) (x3 : Int32) : entryFrame m #[(.ref x0), (.ref x1), (.ref x2), (.int x3)] 4 = mkF m 0 #[.val (.ref x0), .val (.ref x1), .val (.ref x2), .val (.int x3)] [] := by first | (simp [entryFrame, mkF, argsToLocals, Value.category]; done) | rfl
set_option maxRecDepth 65536 in
set_option maxHeartbeats 40000000 in
theorem rm_hF (l : Launch) (Z : State) (a0 : Array Value) (hw : ∀ d ∈ tables_1, d.before a0 Z = true) (ws : List Jvm.Cond) (a : Addr) (v1 : Addr) (m1 : Int32) (de : Addr) (kde : ClassId) (h0 : Heap) (n0 : Nat) (O0 : Old Z n0 h0) (E_a : Exa Z h0 a "java/util/ArrayList") (F1 : Fld Z h0 a "java/util/AbstractList" "modCount" "I" (.int m1)) (F2 : Fld Z h0 a "java/util/ArrayList" "elementData" "[Ljava/lang/Object;" (.ref de)) (F3 : Fld Z h0 a "java/util/ArrayList" "size" "I" (.int (0 : Int32))) (S_D : Sta Z Z.heap "java/util/ArrayList" "DEFAULTCAPACITY_EMPTY_ELEMENTDATA" "[Ljava/lang/Object;" (.ref de)) (V_D : Arv Z Z.heap de kde (.object "java/lang/Object") (0 : Int32) [] .null) (g_a : n0 ≤ a) (E_v : Exa Z h0 v1 "[Ljava/lang/Object;") :
    MetFree l (⟨"java/util/ArrayList", "add", "(Ljava/lang/Object;[Ljava/lang/Object;I)V"⟩ : MethodName) (head1 (Jvm.Cond.code (⟨"java/util/ArrayList", "add", "(Ljava/lang/Object;[Ljava/lang/Object;I)V"⟩ : MethodName) jdk_38_method_24_code 4 none :: ws) ({ frames := 3, cells := 1, slots := 10, locals := 41 } : Room)) (fun as' U => as' = #[(.ref a), (.ref v1), (.ref de), (.int (0 : Int32))] ∧ Z.Warmed39 U.vm ∧ U.heap = h0) (fun _ _ _ _ _ => True) (fun _ U o U' => ∃ v L, o = .returned v ∧ Q_hF Z a v1 m1 de kde h0 n0 v U'.heap L ∧ FrameEnd U o U' L ({ frames := 3, cells := 1, slots := 10, locals := 41 } : Room).cells ({ frames := 3, cells := 1, slots := 10, locals := 41 } : Room).slots) := by
  refine MetFree.of_bodySF (plainFor_of_name pn_java_util_ArrayList) hisR ?_
  intro p e s m args below meth c s₁ Bd hml0 hP hK
  obtain ⟨rfl, hZ, hh⟩ := hP
  have hx := Bd.exec
  have hby := Bd.bytes
  have hml : c.maxLocals = 4 := hml0
  have hown : s.vm.findClass "java/util/ArrayList" = some m.cls := findClass_of_methodNamed Bd.named
  have hnm := (name_of_methodNamed Bd.named Bd.method).1
  have X0 : Stand p l e ({ frames := 3, cells := 1, slots := 10, locals := 41 } : Room) s m #[(.ref a), (.ref v1), (.ref de), (.int (0 : Int32))] below meth c s₁ [] 0 0 := Stand.of_body Bd
  have e0 : s₁.heap = h0 := by rw [← hh, Bd.state]; rfl
  have N0 := Fr.nil n0
  have K0 : Keep h0 h0 [a] := Keep.refl _ _
  have pre0 : ∀ t, Steps p.tables e below (s₁.setTop (mkF m 0 #[.val (.ref a), .val (.ref v1), .val (.ref de), .val (.int (0 : Int32))] [])) t → Steps p.tables e below (s₁.setTop (entryFrame m #[(.ref a), (.ref v1), (.ref de), (.int (0 : Int32))] 4)) t := fun t k => castTop (ef_rm_hF m a v1 de ((0 : Int32))) k
  obtain ⟨cl2, Ar2, qq2, Sz2, NN2, HH2, GG2⟩ := (id (V_D.ext O0.2))
  obtain ⟨cq7, q7, q7'⟩ := E_a.cell
  obtain ⟨_, _, ⟨T7, Lo7, kk7, nn7⟩, -, X7, ⟨Lc7, hQ7, ll7, yy7, zz7⟩, st7⟩ := X0.privateBack hx (y := (⟨"java/util/ArrayList", "grow", "()[Ljava/lang/Object;"⟩ : MethodName)) hown (mvT hZ (w_113 hw)) (mvT hZ (w_114 hw)) (mvT hZ (w_116 hw)) (Cond.privateMethod_at (mvP hZ (w_115 hw) (args := #[]))) (mvT hZ (w_117 hw)) (by decide) (backOf (W := 0) (rm_grow0 l Z a0 hw [] a m1 de kde h0 n0 O0 E_a F1 F2 F3 S_D V_D g_a) hZ (w_117 hw) (w_12 hw) (by decide) (by decide)) (g := (mkF m 7 #[.val (.ref a), .val (.ref v1), .val (.ref de), .val (.int (0 : Int32))] [(.ref a)])) rfl (by rw [hml]; rfl) (Steps.refl _) (a := a) (by rw [e0]; exact q7) q7' (argsL := []) (rest := []) (lenOf pd_4 rfl) rfl (by show 2 * 0 + _ ≤ _; exact Nat.le_of_eq rfl) (hb hby d16_7) (fun _ _ => ⟨rfl, e0, (by decide : 0 + 1 ≤ _), (by decide : 0 + 10 ≤ _)⟩)
  dsimp only [Pt.U, Pt.locs, Pt.cells, Pt.slots] at X7 ll7 yy7 zz7 st7 hQ7
  subst ll7 yy7 zz7
  obtain ⟨d7, kd7, rfl, N7q, K7q, p7_0, p7_1, p7_2, p7_3, p7_4, p7_5, p7_6, p7_7⟩ := hQ7
  have N7 := Fr.app N0 N7q
  have f1 : Keep h0 T7.heap [a] := K0.trans K7q (allS (Or.inl (List.mem_of_getElem? (i := 0) rfl)) all0)
  have f2 : Old Z n0 T7.heap := O0.keep K7q (allS g_a all0)
  obtain ⟨cl14, Ar14, qq14, Sz14, NN14, HH14, GG14⟩ := (id p7_6)
  have hin14 : ¬ ((0 : Int32) < 0 ∨ cl14.slots.size ≤ ((0 : Int32)).toNatClampNeg) := inb_of Sz14 ⟨by decide, by decide⟩
  have f4 : Exa Z T7.heap v1 "[Ljava/lang/Object;" := E_v.keep K7q
  obtain ⟨T14, h14, X14, e14, Wr14, st14⟩ := stR X7 hx hZ rfl Ar14 (j := (0 : Int32)) hin14 rfl (Sto.ofV Ar14 qq14 p7_7 (Ins.of_exa f4 (w_128 hw))) (g := (mkF m 14 #[.val (.ref a), .val (.ref v1), .val (.ref d7), .val (.int (0 : Int32))] [(.ref v1), (.int (0 : Int32)), (.ref d7)])) rfl rfl (hb hby d16_14)
  have f5 : n0 ≤ d7 := Nat.le_trans (own_old_le O0) p7_0
  have f6 : Keep h0 h14 [a] := f1.wr Wr14 (Or.inr p7_0)
  have f7 : Old Z n0 h14 := f2.wr Wr14 f5
  have f8 : Arv Z h14 d7 kd7 (.object "java/lang/Object") (10 : Int32) [(.ref v1), .null, .null, .null, .null, .null, .null, .null, .null, .null] .null := Arv.set Ar14 qq14 Sz14 NN14 HH14 GG14 rfl Wr14 0 rfl (Nat.le_of_ble_eq_true rfl)
  have N14 := Fr.snoc X14 N7 f5
  have f9 : Exa Z h14 d7 "[Ljava/lang/Object;" := p7_5.wr Wr14
  have f10 : Exa Z h14 a "java/util/ArrayList" := p7_1.wr Wr14
  have f11 : Fld Z h14 a "java/util/ArrayList" "size" "I" (.int (0 : Int32)) := p7_4.other Wr14 (Or.inl (Ne.symm (ne_exa f9 f10 (by decide))))
  obtain ⟨T19, h19, X19, e19, Wr19, st19⟩ := putF X14 hx hZ hown (host := "") (Or.inl (w_66 hw)) Via.refl e14 f11 f10 (Or.inl (w_67 hw)) (w_11 hw) (ty := .int) (by decide) rfl rfl (g := (mkF m 19 #[.val (.ref a), .val (.ref v1), .val (.ref d7), .val (.int (0 : Int32))] [(.int (1 : Int32)), (.ref a)])) rfl rfl (hb hby d16_19)
  have f12 : Keep h0 h19 [a] := f6.wr Wr19 (Or.inl (List.mem_of_getElem? (i := 0) rfl))
  have f13 : Old Z n0 h19 := f7.wr Wr19 g_a
  have f14 : Fld Z h19 a "java/util/ArrayList" "size" "I" (.int (1 : Int32)) := f11.same Wr19
  have N19 := Fr.snoc X19 N14 g_a
  have f15 : Exa Z h19 a "java/util/ArrayList" := f10.wr Wr19
  have f16 : Exa Z h19 d7 "[Ljava/lang/Object;" := f9.wr Wr19
  have f17 : Fld Z h14 a "java/util/AbstractList" "modCount" "I" (.int m1) := p7_2.other Wr14 (Or.inl (Ne.symm (ne_exa f16 f15 (by decide))))
  have f18 : Fld Z h19 a "java/util/AbstractList" "modCount" "I" (.int m1) := f17.other Wr19 (Or.inr (slot_ne (Or.inl (w_32 hw)) (Or.inl (w_67 hw)) (by decide) (t := .int) (t' := .int) (by decide) (by decide)))
  have f19 : Fld Z h14 a "java/util/ArrayList" "elementData" "[Ljava/lang/Object;" (.ref d7) := p7_3.other Wr14 (Or.inl (Ne.symm (ne_exa f16 f15 (by decide))))
  have f20 : Fld Z h19 a "java/util/ArrayList" "elementData" "[Ljava/lang/Object;" (.ref d7) := f19.other Wr19 (Or.inr (slot_ne (Or.inl (w_35 hw)) (Or.inl (w_67 hw)) (by decide) (t := (.array (.object "java/lang/Object"))) (t' := .int) (by decide) (by decide)))
  have f21 : Arv Z h19 d7 kd7 (.object "java/lang/Object") (10 : Int32) [(.ref v1), .null, .null, .null, .null, .null, .null, .null, .null, .null] .null := f8.other Wr19 (Ne.symm (ne_exa f15 f16 (by decide)))
  obtain ⟨fs, hr, hrun, hended, hW, hsame⟩ := X19.leave (v := none) (fun _ => rfl)
  refine ⟨_, _, pre0 _ ?_, hrun, hended, _, _, rfl, ?_, ⟨_, rfl⟩, hW, hsame.mono (by decide) (by decide)⟩
  · show Steps p.tables e below (s₁.setTop (mkF m 0 #[.val (.ref a), .val (.ref v1), .val (.ref de), .val (.int (0 : Int32))] [])) _
    refine XS.iloadN X0.here hx rfl (hb hby d16_0) rfl ?_
    show Steps p.tables e below (s₁.setTop (mkF m 1 #[.val (.ref a), .val (.ref v1), .val (.ref de), .val (.int (0 : Int32))] [(.int (0 : Int32))])) _
    refine XS.aloadN X0.here hx rfl (hb hby d16_1) rfl rfl ?_
    show Steps p.tables e below (s₁.setTop (mkF m 2 #[.val (.ref a), .val (.ref v1), .val (.ref de), .val (.int (0 : Int32))] [(.ref de), (.int (0 : Int32))])) _
    refine X0.arraylength hx (by rw [e0]; exact Ar2.1) (State.isArrayOf_alike hZ.alike Ar2.2.1) (g := (mkF m 2 #[.val (.ref a), .val (.ref v1), .val (.ref de), .val (.int (0 : Int32))] [(.ref de), (.int (0 : Int32))])) rfl rfl (hb hby d16_2) _ ?_
    rw [len_of Sz2 NN2]
    show Steps p.tables e below (s₁.setTop (mkF m 3 #[.val (.ref a), .val (.ref v1), .val (.ref de), .val (.int (0 : Int32))] [(.int (0 : Int32)), (.int (0 : Int32))])) _
    refine XS.icmpNo X0.here hx rfl (hb hby d16_3) rfl (teq (by decide : (0 : Int32) = (0 : Int32))).2 ?_
    show Steps p.tables e below (s₁.setTop (mkF m 6 #[.val (.ref a), .val (.ref v1), .val (.ref de), .val (.int (0 : Int32))] [])) _
    refine XS.aloadN X0.here hx rfl (hb hby d16_6) rfl rfl ?_
    show Steps p.tables e below (s₁.setTop (mkF m 7 #[.val (.ref a), .val (.ref v1), .val (.ref de), .val (.int (0 : Int32))] [(.ref a)])) _
    refine st7.trans ?_
    show Steps p.tables e below (T7.setTop (mkF m 10 #[.val (.ref a), .val (.ref v1), .val (.ref de), .val (.int (0 : Int32))] [(.ref d7)])) _
    refine XS.astoreN X7.here hx rfl (hb hby d16_10) rfl rfl (l' := #[.val (.ref a), .val (.ref v1), .val (.ref d7), .val (.int (0 : Int32))]) rfl ?_
    show Steps p.tables e below (T7.setTop (mkF m 11 #[.val (.ref a), .val (.ref v1), .val (.ref d7), .val (.int (0 : Int32))] [])) _
    refine XS.aloadN X7.here hx rfl (hb hby d16_11) rfl rfl ?_
    show Steps p.tables e below (T7.setTop (mkF m 12 #[.val (.ref a), .val (.ref v1), .val (.ref d7), .val (.int (0 : Int32))] [(.ref d7)])) _
    refine XS.iloadN X7.here hx rfl (hb hby d16_12) rfl ?_
    show Steps p.tables e below (T7.setTop (mkF m 13 #[.val (.ref a), .val (.ref v1), .val (.ref d7), .val (.int (0 : Int32))] [(.int (0 : Int32)), (.ref d7)])) _
    refine XS.aloadN X7.here hx rfl (hb hby d16_13) rfl rfl ?_
    show Steps p.tables e below (T7.setTop (mkF m 14 #[.val (.ref a), .val (.ref v1), .val (.ref d7), .val (.int (0 : Int32))] [(.ref v1), (.int (0 : Int32)), (.ref d7)])) _
    refine st14 _ ?_
    show Steps p.tables e below (T14.setTop (mkF m 15 #[.val (.ref a), .val (.ref v1), .val (.ref d7), .val (.int (0 : Int32))] [])) _
    refine XS.aloadN X14.here hx rfl (hb hby d16_15) rfl rfl ?_
    show Steps p.tables e below (T14.setTop (mkF m 16 #[.val (.ref a), .val (.ref v1), .val (.ref d7), .val (.int (0 : Int32))] [(.ref a)])) _
    refine XS.iloadN X14.here hx rfl (hb hby d16_16) rfl ?_
    show Steps p.tables e below (T14.setTop (mkF m 17 #[.val (.ref a), .val (.ref v1), .val (.ref d7), .val (.int (0 : Int32))] [(.int (0 : Int32)), (.ref a)])) _
    refine XS.iconst X14.here hx rfl (hb hby d16_17) ?_
    show Steps p.tables e below (T14.setTop (mkF m 18 #[.val (.ref a), .val (.ref v1), .val (.ref d7), .val (.int (0 : Int32))] [(.int (1 : Int32)), (.int (0 : Int32)), (.ref a)])) _
    refine XS.iadd X14.here hx rfl (hb hby d16_18) rfl ?_
    show Steps p.tables e below (T14.setTop (mkF m 19 #[.val (.ref a), .val (.ref v1), .val (.ref d7), .val (.int (0 : Int32))] [(.int ((0 : Int32) + (1 : Int32))), (.ref a)])) _
    rw [(by decide : ((0 : Int32) + (1 : Int32)) = (1 : Int32))]
    show Steps p.tables e below (T14.setTop (mkF m 19 #[.val (.ref a), .val (.ref v1), .val (.ref d7), .val (.int (0 : Int32))] [(.int (1 : Int32)), (.ref a)])) _
    refine st19 _ ?_
    show Steps p.tables e below (T19.setTop (mkF m 22 #[.val (.ref a), .val (.ref v1), .val (.ref d7), .val (.int (0 : Int32))] [])) _
    exact X19.returnOut hx Bd.returns (hb hby d16_22) hr
  · show Q_hF Z a v1 m1 de kde h0 n0 _ T19.heap _
    rw [e19]
    exact ⟨d7, kd7, rfl, N19, f12, p7_0, f15, f18, f20, f14, f16, f21, p7_7⟩
theorem d15_0 : decode jdk_38_method_25_code 0 = .ok (.aload_n 0, 1) := by decide +kernel
theorem d15_1 : decode jdk_38_method_25_code 1 = .ok (.dup, 1) := by decide +kernel
theorem d15_2 : decode jdk_38_method_25_code 2 = .ok (.getfield 63, 3) := by decide +kernel
theorem d15_5 : decode jdk_38_method_25_code 5 = .ok (.iconst 1, 1) := by decide +kernel
theorem d15_6 : decode jdk_38_method_25_code 6 = .ok (.iadd, 1) := by decide +kernel
theorem d15_7 : decode jdk_38_method_25_code 7 = .ok (.putfield 63, 3) := by decide +kernel
theorem d15_10 : decode jdk_38_method_25_code 10 = .ok (.aload_n 0, 1) := by decide +kernel
theorem d15_11 : decode jdk_38_method_25_code 11 = .ok (.aload_n 1, 1) := by decide +kernel
theorem d15_12 : decode jdk_38_method_25_code 12 = .ok (.aload_n 0, 1) := by decide +kernel
theorem d15_13 : decode jdk_38_method_25_code 13 = .ok (.getfield 9, 3) := by decide +kernel
theorem d15_16 : decode jdk_38_method_25_code 16 = .ok (.aload_n 0, 1) := by decide +kernel
theorem d15_17 : decode jdk_38_method_25_code 17 = .ok (.getfield 48, 3) := by decide +kernel
theorem pd_5 : parseMethodDescriptor "(Ljava/lang/Object;[Ljava/lang/Object;I)V" = some ⟨[(.object "java/lang/Object"), (.array (.object "java/lang/Object")), .int], none⟩ := by decide +kernel
theorem d15_20 : decode jdk_38_method_25_code 20 = .ok (.invokevirtual 131, 3) := by decide +kernel
theorem d15_23 : decode jdk_38_method_25_code 23 = .ok (.iconst 1, 1) := by decide +kernel
theorem d15_24 : decode jdk_38_method_25_code 24 = .ok (.ireturn, 1) := by decide +kernel
def Q_aF (Z : State) (a : Addr) (v1 : Addr) (m1 : Int32) (de : Addr) (kde : ClassId) (h0 : Heap) (n0 : Nat) (v : Option Value) (h : Heap) (L : List Loc) : Prop := ∃ d : Addr, ∃ kd : ClassId, v = some (.int (1 : Int32)) ∧ Fr n0 L ∧ Keep h0 h [a] ∧ (h0.size ≤ d) ∧ (Exa Z h a "java/util/ArrayList") ∧ (Fld Z h a "java/util/AbstractList" "modCount" "I" (.int (m1 + (1 : Int32)))) ∧ (Fld Z h a "java/util/ArrayList" "elementData" "[Ljava/lang/Object;" (.ref d)) ∧ (Fld Z h a "java/util/ArrayList" "size" "I" (.int (1 : Int32))) ∧ (Exa Z h d "[Ljava/lang/Object;") ∧ (Arv Z h d kd (.object "java/lang/Object") (10 : Int32) [(.ref v1), .null, .null, .null, .null, .null, .null, .null, .null, .null] .null) ∧ (Ovr Z kd "java/lang/Object")
theorem ef_rm_aF (m : MethodId) (x0 : Addr) (x1 : Addr) : entryFrame m #[(.ref x0), (.ref x1)] 2 = mkF m 0 #[.val (.ref x0), .val (.ref x1)] [] := by first | (simp [entryFrame, mkF, argsToLocals, Value.category]; done) | rfl
set_option maxRecDepth 65536 in
set_option maxHeartbeats 40000000 in
theorem rm_aF (l : Launch) (Z : State) (a0 : Array Value) (hw : ∀ d ∈ tables_1, d.before a0 Z = true) (ws : List Jvm.Cond) (a : Addr) (v1 : Addr) (m1 : Int32) (de : Addr) (kde : ClassId) (h0 : Heap) (n0 : Nat) (O0 : Old Z n0 h0) (E_a : Exa Z h0 a "java/util/ArrayList") (F1 : Fld Z h0 a "java/util/AbstractList" "modCount" "I" (.int m1)) (F2 : Fld Z h0 a "java/util/ArrayList" "elementData" "[Ljava/lang/Object;" (.ref de)) (F3 : Fld Z h0 a "java/util/ArrayList" "size" "I" (.int (0 : Int32))) (S_D : Sta Z Z.heap "java/util/ArrayList" "DEFAULTCAPACITY_EMPTY_ELEMENTDATA" "[Ljava/lang/Object;" (.ref de)) (V_D : Arv Z Z.heap de kde (.object "java/lang/Object") (0 : Int32) [] .null) (g_a : n0 ≤ a) (E_v : Exa Z h0 v1 "[Ljava/lang/Object;") :
    MetFree l (⟨"java/util/ArrayList", "add", "(Ljava/lang/Object;)Z"⟩ : MethodName) (head1 (Jvm.Cond.code (⟨"java/util/ArrayList", "add", "(Ljava/lang/Object;)Z"⟩ : MethodName) jdk_38_method_25_code 2 (some .boolean) :: ws) ({ frames := 4, cells := 1, slots := 10, locals := 56 } : Room)) (fun as' U => as' = #[(.ref a), (.ref v1)] ∧ Z.Warmed39 U.vm ∧ U.heap = h0) (fun _ _ _ _ _ => True) (fun _ U o U' => ∃ v L, o = .returned v ∧ Q_aF Z a v1 m1 de kde h0 n0 v U'.heap L ∧ FrameEnd U o U' L ({ frames := 4, cells := 1, slots := 10, locals := 56 } : Room).cells ({ frames := 4, cells := 1, slots := 10, locals := 56 } : Room).slots) := by
  refine MetFree.of_bodySF (plainFor_of_name pn_java_util_ArrayList) hisR ?_
  intro p e s m args below meth c s₁ Bd hml0 hP hK
  obtain ⟨rfl, hZ, hh⟩ := hP
  have hx := Bd.exec
  have hby := Bd.bytes
  have hml : c.maxLocals = 2 := hml0
  have hown : s.vm.findClass "java/util/ArrayList" = some m.cls := findClass_of_methodNamed Bd.named
  have hnm := (name_of_methodNamed Bd.named Bd.method).1
  have X0 : Stand p l e ({ frames := 4, cells := 1, slots := 10, locals := 56 } : Room) s m #[(.ref a), (.ref v1)] below meth c s₁ [] 0 0 := Stand.of_body Bd
  have e0 : s₁.heap = h0 := by rw [← hh, Bd.state]; rfl
  have N0 := Fr.nil n0
  have K0 : Keep h0 h0 [a] := Keep.refl _ _
  have pre0 : ∀ t, Steps p.tables e below (s₁.setTop (mkF m 0 #[.val (.ref a), .val (.ref v1)] [])) t → Steps p.tables e below (s₁.setTop (entryFrame m #[(.ref a), (.ref v1)] 2)) t := fun t k => castTop (ef_rm_aF m a v1) k
  obtain ⟨T2, X2, e2, st2⟩ := getF X0 hx hZ hown (host := "") (Or.inl (w_106 hw)) (Via.of (w_107 hw)) e0 F1 (g := (mkF m 2 #[.val (.ref a), .val (.ref v1)] [(.ref a), (.ref a)])) rfl rfl (hb hby d15_2)
  obtain ⟨T7, h7, X7, e7, Wr7, st7⟩ := putF X2 hx hZ hown (host := "") (Or.inl (w_106 hw)) (Via.of (w_107 hw)) e2 F1 E_a (Or.inl (w_32 hw)) (w_11 hw) (ty := .int) (by decide) rfl rfl (g := (mkF m 7 #[.val (.ref a), .val (.ref v1)] [(.int (m1 + (1 : Int32))), (.ref a)])) rfl rfl (hb hby d15_7)
  have f1 : Keep h0 h7 [a] := K0.wr Wr7 (Or.inl (List.mem_of_getElem? (i := 0) rfl))
  have f2 : Old Z n0 h7 := O0.wr Wr7 g_a
  have f3 : Fld Z h7 a "java/util/AbstractList" "modCount" "I" (.int (m1 + (1 : Int32))) := F1.same Wr7
  have N7 := Fr.snoc X7 N0 g_a
  have f4 : Fld Z h7 a "java/util/ArrayList" "elementData" "[Ljava/lang/Object;" (.ref de) := F2.other Wr7 (Or.inr (slot_ne (Or.inl (w_35 hw)) (Or.inl (w_32 hw)) (by decide) (t := (.array (.object "java/lang/Object"))) (t' := .int) (by decide) (by decide)))
  obtain ⟨T13, X13, e13, st13⟩ := getF X7 hx hZ hown (host := "") (Or.inl (w_34 hw)) Via.refl e7 f4 (g := (mkF m 13 #[.val (.ref a), .val (.ref v1)] [(.ref a), (.ref v1), (.ref a)])) rfl rfl (hb hby d15_13)
  have f5 : Fld Z h7 a "java/util/ArrayList" "size" "I" (.int (0 : Int32)) := F3.other Wr7 (Or.inr (slot_ne (Or.inl (w_67 hw)) (Or.inl (w_32 hw)) (by decide) (t := .int) (t' := .int) (by decide) (by decide)))
  obtain ⟨T17, X17, e17, st17⟩ := getF X13 hx hZ hown (host := "") (Or.inl (w_66 hw)) Via.refl e13 f5 (g := (mkF m 17 #[.val (.ref a), .val (.ref v1)] [(.ref a), (.ref de), (.ref v1), (.ref a)])) rfl rfl (hb hby d15_17)
  have f6 : Exa Z h7 a "java/util/ArrayList" := E_a.wr Wr7
  have f7 : Exa Z h7 v1 "[Ljava/lang/Object;" := E_v.wr Wr7
  obtain ⟨cq20, q20, q20'⟩ := f6.cell
  obtain ⟨_, _, ⟨T20, Lo20, kk20, nn20⟩, -, X20, ⟨Lc20, hQ20, ll20, yy20, zz20⟩, st20⟩ := X17.privateBack hx (y := (⟨"java/util/ArrayList", "add", "(Ljava/lang/Object;[Ljava/lang/Object;I)V"⟩ : MethodName)) hown (mvT hZ (w_108 hw)) (mvT hZ (w_109 hw)) (mvT hZ (w_111 hw)) (Cond.privateMethod_at (mvP hZ (w_110 hw) (args := #[]))) (mvT hZ (w_112 hw)) (by decide) (backOf (W := 0) (rm_hF l Z a0 hw [] a v1 ((m1 + (1 : Int32))) de kde h7 n0 f2 f6 f3 f4 f5 S_D V_D g_a f7) hZ (w_112 hw) (w_12 hw) (by decide) (by decide)) (g := (mkF m 20 #[.val (.ref a), .val (.ref v1)] [(.int (0 : Int32)), (.ref de), (.ref v1), (.ref a)])) rfl (by rw [hml]; rfl) (Steps.refl _) (a := a) (by rw [e17]; exact q20) q20' (argsL := [(.ref v1), (.ref de), (.int (0 : Int32))]) (rest := []) (lenOf pd_5 rfl) rfl (by show 2 * 0 + _ ≤ _; exact Nat.le_of_eq rfl) (hb hby d15_20) (fun _ _ => ⟨rfl, e17, (by decide : 0 + 1 ≤ _), (by decide : 0 + 10 ≤ _)⟩)
  dsimp only [Pt.U, Pt.locs, Pt.cells, Pt.slots] at X20 ll20 yy20 zz20 st20 hQ20
  subst ll20 yy20 zz20
  obtain ⟨d20, kd20, rfl, N20q, K20q, p20_0, p20_1, p20_2, p20_3, p20_4, p20_5, p20_6, p20_7⟩ := hQ20
  have N20 := Fr.app N7 N20q
  have f8 : Keep h0 T20.heap [a] := f1.trans K20q (allS (Or.inl (List.mem_of_getElem? (i := 0) rfl)) all0)
  have f9 : Old Z n0 T20.heap := f2.keep K20q (allS g_a all0)
  have f10 : h0.size ≤ d20 := Nat.le_trans f1.1 p20_0
  obtain ⟨fs, hr, hrun, hended, hW, hsame⟩ := X20.leave (v := some (.int (1 : Int32))) (fun h => by rw [Bd.returns] at h; cases h)
  refine ⟨_, _, pre0 _ ?_, hrun, hended, _, _, rfl, ?_, ⟨_, rfl⟩, hW, hsame.mono (by decide) (by decide)⟩
  · show Steps p.tables e below (s₁.setTop (mkF m 0 #[.val (.ref a), .val (.ref v1)] [])) _
    refine XS.aloadN X0.here hx rfl (hb hby d15_0) rfl rfl ?_
    show Steps p.tables e below (s₁.setTop (mkF m 1 #[.val (.ref a), .val (.ref v1)] [(.ref a)])) _
    refine XS.dup X0.here hx rfl (hb hby d15_1) rfl rfl ?_
    show Steps p.tables e below (s₁.setTop (mkF m 2 #[.val (.ref a), .val (.ref v1)] [(.ref a), (.ref a)])) _
    refine st2 _ ?_
    show Steps p.tables e below (T2.setTop (mkF m 5 #[.val (.ref a), .val (.ref v1)] [(.int m1), (.ref a)])) _
    refine XS.iconst X2.here hx rfl (hb hby d15_5) ?_
    show Steps p.tables e below (T2.setTop (mkF m 6 #[.val (.ref a), .val (.ref v1)] [(.int (1 : Int32)), (.int m1), (.ref a)])) _
    refine XS.iadd X2.here hx rfl (hb hby d15_6) rfl ?_
    show Steps p.tables e below (T2.setTop (mkF m 7 #[.val (.ref a), .val (.ref v1)] [(.int (m1 + (1 : Int32))), (.ref a)])) _
    refine st7 _ ?_
    show Steps p.tables e below (T7.setTop (mkF m 10 #[.val (.ref a), .val (.ref v1)] [])) _
    refine XS.aloadN X7.here hx rfl (hb hby d15_10) rfl rfl ?_
    show Steps p.tables e below (T7.setTop (mkF m 11 #[.val (.ref a), .val (.ref v1)] [(.ref a)])) _
    refine XS.aloadN X7.here hx rfl (hb hby d15_11) rfl rfl ?_
    show Steps p.tables e below (T7.setTop (mkF m 12 #[.val (.ref a), .val (.ref v1)] [(.ref v1), (.ref a)])) _
    refine XS.aloadN X7.here hx rfl (hb hby d15_12) rfl rfl ?_
    show Steps p.tables e below (T7.setTop (mkF m 13 #[.val (.ref a), .val (.ref v1)] [(.ref a), (.ref v1), (.ref a)])) _
    refine st13 _ ?_
    show Steps p.tables e below (T13.setTop (mkF m 16 #[.val (.ref a), .val (.ref v1)] [(.ref de), (.ref v1), (.ref a)])) _
    refine XS.aloadN X13.here hx rfl (hb hby d15_16) rfl rfl ?_
    show Steps p.tables e below (T13.setTop (mkF m 17 #[.val (.ref a), .val (.ref v1)] [(.ref a), (.ref de), (.ref v1), (.ref a)])) _
    refine st17 _ ?_
    show Steps p.tables e below (T17.setTop (mkF m 20 #[.val (.ref a), .val (.ref v1)] [(.int (0 : Int32)), (.ref de), (.ref v1), (.ref a)])) _
    refine st20.trans ?_
    show Steps p.tables e below (T20.setTop (mkF m 23 #[.val (.ref a), .val (.ref v1)] [])) _
    refine XS.iconst X20.here hx rfl (hb hby d15_23) ?_
    show Steps p.tables e below (T20.setTop (mkF m 24 #[.val (.ref a), .val (.ref v1)] [(.int (1 : Int32))])) _
    exact retN X20 hx (t := .boolean) Bd.returns (by simp) (hb hby d15_24) hr
  · show Q_aF Z a v1 m1 de kde h0 n0 _ T20.heap _
    exact ⟨d20, kd20, rfl, N20, f8, f10, p20_1, p20_2, p20_3, p20_4, p20_5, p20_6, p20_7⟩
def Q_hR1 (Z : State) (a : Addr) (v1 : Addr) (m1 : Int32) (d : Addr) (kd : ClassId) (x0 : Addr) (h0 : Heap) (n0 : Nat) (v : Option Value) (h : Heap) (L : List Loc) : Prop := v = none ∧ Fr n0 L ∧ Keep h0 h [a, d] ∧ (Exa Z h a "java/util/ArrayList") ∧ (Fld Z h a "java/util/AbstractList" "modCount" "I" (.int m1)) ∧ (Fld Z h a "java/util/ArrayList" "elementData" "[Ljava/lang/Object;" (.ref d)) ∧ (Fld Z h a "java/util/ArrayList" "size" "I" (.int (2 : Int32))) ∧ (Exa Z h d "[Ljava/lang/Object;") ∧ (Arv Z h d kd (.object "java/lang/Object") (10 : Int32) [(.ref x0), (.ref v1), .null, .null, .null, .null, .null, .null, .null, .null] .null) ∧ (Ovr Z kd "java/lang/Object")
theorem ef_rm_hR1 (m : MethodId) (x0 : Addr) (x1 : Addr) (x2 : Addr) (x3 : Int32) : entryFrame m #[(.ref x0), (.ref x1), (.ref x2), (.int x3)] 4 = mkF m 0 #[.val (.ref x0), .val (.ref x1), .val (.ref x2), .val (.int x3)] [] := by first | (simp [entryFrame, mkF, argsToLocals, Value.category]; done) | rfl
set_option maxRecDepth 65536 in
set_option maxHeartbeats 40000000 in
theorem rm_hR1 (l : Launch) (Z : State) (a0 : Array Value) (hw : ∀ d ∈ tables_1, d.before a0 Z = true) (ws : List Jvm.Cond) (a : Addr) (v1 : Addr) (m1 : Int32) (d : Addr) (kd : ClassId) (x0 : Addr) (h0 : Heap) (n0 : Nat) (O0 : Old Z n0 h0) (E_a : Exa Z h0 a "java/util/ArrayList") (F1 : Fld Z h0 a "java/util/AbstractList" "modCount" "I" (.int m1)) (F2 : Fld Z h0 a "java/util/ArrayList" "elementData" "[Ljava/lang/Object;" (.ref d)) (F3 : Fld Z h0 a "java/util/ArrayList" "size" "I" (.int (1 : Int32))) (E_d : Exa Z h0 d "[Ljava/lang/Object;") (V_d : Arv Z h0 d kd (.object "java/lang/Object") (10 : Int32) [(.ref x0), .null, .null, .null, .null, .null, .null, .null, .null, .null] .null) (O_d : Ovr Z kd "java/lang/Object") (E_v : Exa Z h0 v1 "[Ljava/lang/Object;") (g_a : n0 ≤ a) (g_d : n0 ≤ d) :
    MetFree l (⟨"java/util/ArrayList", "add", "(Ljava/lang/Object;[Ljava/lang/Object;I)V"⟩ : MethodName) (head1 (Jvm.Cond.code (⟨"java/util/ArrayList", "add", "(Ljava/lang/Object;[Ljava/lang/Object;I)V"⟩ : MethodName) jdk_38_method_24_code 4 none :: ws) ({ frames := 0, cells := 0, slots := 0, locals := 0 } : Room)) (fun as' U => as' = #[(.ref a), (.ref v1), (.ref d), (.int (1 : Int32))] ∧ Z.Warmed39 U.vm ∧ U.heap = h0) (fun _ _ _ _ _ => True) (fun _ U o U' => ∃ v L, o = .returned v ∧ Q_hR1 Z a v1 m1 d kd x0 h0 n0 v U'.heap L ∧ FrameEnd U o U' L ({ frames := 0, cells := 0, slots := 0, locals := 0 } : Room).cells ({ frames := 0, cells := 0, slots := 0, locals := 0 } : Room).slots) := by
  refine MetFree.of_bodySF (plainFor_of_name pn_java_util_ArrayList) hisR ?_
  intro p e s m args below meth c s₁ Bd hml0 hP hK
  obtain ⟨rfl, hZ, hh⟩ := hP
  have hx := Bd.exec
  have hby := Bd.bytes
  have hml : c.maxLocals = 4 := hml0
  have hown : s.vm.findClass "java/util/ArrayList" = some m.cls := findClass_of_methodNamed Bd.named
  have hnm := (name_of_methodNamed Bd.named Bd.method).1
  have X0 : Stand p l e ({ frames := 0, cells := 0, slots := 0, locals := 0 } : Room) s m #[(.ref a), (.ref v1), (.ref d), (.int (1 : Int32))] below meth c s₁ [] 0 0 := Stand.of_body Bd
  have e0 : s₁.heap = h0 := by rw [← hh, Bd.state]; rfl
  have N0 := Fr.nil n0
  have K0 : Keep h0 h0 [a, d] := Keep.refl _ _
  have pre0 : ∀ t, Steps p.tables e below (s₁.setTop (mkF m 0 #[.val (.ref a), .val (.ref v1), .val (.ref d), .val (.int (1 : Int32))] [])) t → Steps p.tables e below (s₁.setTop (entryFrame m #[(.ref a), (.ref v1), (.ref d), (.int (1 : Int32))] 4)) t := fun t k => castTop (ef_rm_hR1 m a v1 d ((1 : Int32))) k
  obtain ⟨cl2, Ar2, qq2, Sz2, NN2, HH2, GG2⟩ := (id V_d)
  obtain ⟨cl14, Ar14, qq14, Sz14, NN14, HH14, GG14⟩ := (id V_d)
  have hin14 : ¬ ((1 : Int32) < 0 ∨ cl14.slots.size ≤ ((1 : Int32)).toNatClampNeg) := inb_of Sz14 ⟨by decide, by decide⟩
  obtain ⟨T14, h14, X14, e14, Wr14, st14⟩ := stR X0 hx hZ e0 Ar14 (j := (1 : Int32)) hin14 rfl (Sto.ofV Ar14 qq14 O_d (Ins.of_exa E_v (w_128 hw))) (g := (mkF m 14 #[.val (.ref a), .val (.ref v1), .val (.ref d), .val (.int (1 : Int32))] [(.ref v1), (.int (1 : Int32)), (.ref d)])) rfl rfl (hb hby d16_14)
  have f2 : Keep h0 h14 [a, d] := K0.wr Wr14 (Or.inl (List.mem_of_getElem? (i := 1) rfl))
  have f3 : Old Z n0 h14 := O0.wr Wr14 g_d
  have f4 : Arv Z h14 d kd (.object "java/lang/Object") (10 : Int32) [(.ref x0), (.ref v1), .null, .null, .null, .null, .null, .null, .null, .null] .null := Arv.set Ar14 qq14 Sz14 NN14 HH14 GG14 rfl Wr14 1 rfl (Nat.le_of_ble_eq_true rfl)
  have N14 := Fr.snoc X14 N0 g_d
  have f5 : Exa Z h14 d "[Ljava/lang/Object;" := E_d.wr Wr14
  have f6 : Exa Z h14 a "java/util/ArrayList" := E_a.wr Wr14
  have f7 : Fld Z h14 a "java/util/ArrayList" "size" "I" (.int (1 : Int32)) := F3.other Wr14 (Or.inl (Ne.symm (ne_exa f5 f6 (by decide))))
  obtain ⟨T19, h19, X19, e19, Wr19, st19⟩ := putF X14 hx hZ hown (host := "") (Or.inl (w_66 hw)) Via.refl e14 f7 f6 (Or.inl (w_67 hw)) (w_11 hw) (ty := .int) (by decide) rfl rfl (g := (mkF m 19 #[.val (.ref a), .val (.ref v1), .val (.ref d), .val (.int (1 : Int32))] [(.int (2 : Int32)), (.ref a)])) rfl rfl (hb hby d16_19)
  have f8 : Keep h0 h19 [a, d] := f2.wr Wr19 (Or.inl (List.mem_of_getElem? (i := 0) rfl))
  have f9 : Old Z n0 h19 := f3.wr Wr19 g_a
  have f10 : Fld Z h19 a "java/util/ArrayList" "size" "I" (.int (2 : Int32)) := f7.same Wr19
  have N19 := Fr.snoc X19 N14 g_a
  have f11 : Exa Z h19 a "java/util/ArrayList" := f6.wr Wr19
  have f12 : Exa Z h19 d "[Ljava/lang/Object;" := f5.wr Wr19
  have f13 : Fld Z h14 a "java/util/AbstractList" "modCount" "I" (.int m1) := F1.other Wr14 (Or.inl (Ne.symm (ne_exa f12 f11 (by decide))))
  have f14 : Fld Z h19 a "java/util/AbstractList" "modCount" "I" (.int m1) := f13.other Wr19 (Or.inr (slot_ne (Or.inl (w_32 hw)) (Or.inl (w_67 hw)) (by decide) (t := .int) (t' := .int) (by decide) (by decide)))
  have f15 : Fld Z h14 a "java/util/ArrayList" "elementData" "[Ljava/lang/Object;" (.ref d) := F2.other Wr14 (Or.inl (Ne.symm (ne_exa f12 f11 (by decide))))
  have f16 : Fld Z h19 a "java/util/ArrayList" "elementData" "[Ljava/lang/Object;" (.ref d) := f15.other Wr19 (Or.inr (slot_ne (Or.inl (w_35 hw)) (Or.inl (w_67 hw)) (by decide) (t := (.array (.object "java/lang/Object"))) (t' := .int) (by decide) (by decide)))
  have f17 : Arv Z h19 d kd (.object "java/lang/Object") (10 : Int32) [(.ref x0), (.ref v1), .null, .null, .null, .null, .null, .null, .null, .null] .null := f4.other Wr19 (Ne.symm (ne_exa f11 f12 (by decide)))
  obtain ⟨fs, hr, hrun, hended, hW, hsame⟩ := X19.leave (v := none) (fun _ => rfl)
  refine ⟨_, _, pre0 _ ?_, hrun, hended, _, _, rfl, ?_, ⟨_, rfl⟩, hW, hsame.mono (by decide) (by decide)⟩
  · show Steps p.tables e below (s₁.setTop (mkF m 0 #[.val (.ref a), .val (.ref v1), .val (.ref d), .val (.int (1 : Int32))] [])) _
    refine XS.iloadN X0.here hx rfl (hb hby d16_0) rfl ?_
    show Steps p.tables e below (s₁.setTop (mkF m 1 #[.val (.ref a), .val (.ref v1), .val (.ref d), .val (.int (1 : Int32))] [(.int (1 : Int32))])) _
    refine XS.aloadN X0.here hx rfl (hb hby d16_1) rfl rfl ?_
    show Steps p.tables e below (s₁.setTop (mkF m 2 #[.val (.ref a), .val (.ref v1), .val (.ref d), .val (.int (1 : Int32))] [(.ref d), (.int (1 : Int32))])) _
    refine X0.arraylength hx (by rw [e0]; exact Ar2.1) (State.isArrayOf_alike hZ.alike Ar2.2.1) (g := (mkF m 2 #[.val (.ref a), .val (.ref v1), .val (.ref d), .val (.int (1 : Int32))] [(.ref d), (.int (1 : Int32))])) rfl rfl (hb hby d16_2) _ ?_
    rw [len_of Sz2 NN2]
    show Steps p.tables e below (s₁.setTop (mkF m 3 #[.val (.ref a), .val (.ref v1), .val (.ref d), .val (.int (1 : Int32))] [(.int (10 : Int32)), (.int (1 : Int32))])) _
    refine XS.icmpYes X0.here hx rfl (pc0 := 3) (pc' := 11) rfl (hb hby d16_3) rfl (feq (by decide : ¬ ((1 : Int32) = (10 : Int32)))).2 (by decide) (by decide) ?_
    show Steps p.tables e below (s₁.setTop (mkF m 11 #[.val (.ref a), .val (.ref v1), .val (.ref d), .val (.int (1 : Int32))] [])) _
    refine XS.aloadN X0.here hx rfl (hb hby d16_11) rfl rfl ?_
    show Steps p.tables e below (s₁.setTop (mkF m 12 #[.val (.ref a), .val (.ref v1), .val (.ref d), .val (.int (1 : Int32))] [(.ref d)])) _
    refine XS.iloadN X0.here hx rfl (hb hby d16_12) rfl ?_
    show Steps p.tables e below (s₁.setTop (mkF m 13 #[.val (.ref a), .val (.ref v1), .val (.ref d), .val (.int (1 : Int32))] [(.int (1 : Int32)), (.ref d)])) _
    refine XS.aloadN X0.here hx rfl (hb hby d16_13) rfl rfl ?_
    show Steps p.tables e below (s₁.setTop (mkF m 14 #[.val (.ref a), .val (.ref v1), .val (.ref d), .val (.int (1 : Int32))] [(.ref v1), (.int (1 : Int32)), (.ref d)])) _
    refine st14 _ ?_
    show Steps p.tables e below (T14.setTop (mkF m 15 #[.val (.ref a), .val (.ref v1), .val (.ref d), .val (.int (1 : Int32))] [])) _
    refine XS.aloadN X14.here hx rfl (hb hby d16_15) rfl rfl ?_
    show Steps p.tables e below (T14.setTop (mkF m 16 #[.val (.ref a), .val (.ref v1), .val (.ref d), .val (.int (1 : Int32))] [(.ref a)])) _
    refine XS.iloadN X14.here hx rfl (hb hby d16_16) rfl ?_
    show Steps p.tables e below (T14.setTop (mkF m 17 #[.val (.ref a), .val (.ref v1), .val (.ref d), .val (.int (1 : Int32))] [(.int (1 : Int32)), (.ref a)])) _
    refine XS.iconst X14.here hx rfl (hb hby d16_17) ?_
    show Steps p.tables e below (T14.setTop (mkF m 18 #[.val (.ref a), .val (.ref v1), .val (.ref d), .val (.int (1 : Int32))] [(.int (1 : Int32)), (.int (1 : Int32)), (.ref a)])) _
    refine XS.iadd X14.here hx rfl (hb hby d16_18) rfl ?_
    show Steps p.tables e below (T14.setTop (mkF m 19 #[.val (.ref a), .val (.ref v1), .val (.ref d), .val (.int (1 : Int32))] [(.int ((1 : Int32) + (1 : Int32))), (.ref a)])) _
    rw [(by decide : ((1 : Int32) + (1 : Int32)) = (2 : Int32))]
    show Steps p.tables e below (T14.setTop (mkF m 19 #[.val (.ref a), .val (.ref v1), .val (.ref d), .val (.int (1 : Int32))] [(.int (2 : Int32)), (.ref a)])) _
    refine st19 _ ?_
    show Steps p.tables e below (T19.setTop (mkF m 22 #[.val (.ref a), .val (.ref v1), .val (.ref d), .val (.int (1 : Int32))] [])) _
    exact X19.returnOut hx Bd.returns (hb hby d16_22) hr
  · show Q_hR1 Z a v1 m1 d kd x0 h0 n0 _ T19.heap _
    rw [e19]
    exact ⟨rfl, N19, f8, f11, f14, f16, f10, f12, f17, O_d⟩
def Q_aR1 (Z : State) (a : Addr) (v1 : Addr) (m1 : Int32) (d : Addr) (kd : ClassId) (x0 : Addr) (h0 : Heap) (n0 : Nat) (v : Option Value) (h : Heap) (L : List Loc) : Prop := v = some (.int (1 : Int32)) ∧ Fr n0 L ∧ Keep h0 h [a, d] ∧ (Exa Z h a "java/util/ArrayList") ∧ (Fld Z h a "java/util/AbstractList" "modCount" "I" (.int (m1 + (1 : Int32)))) ∧ (Fld Z h a "java/util/ArrayList" "elementData" "[Ljava/lang/Object;" (.ref d)) ∧ (Fld Z h a "java/util/ArrayList" "size" "I" (.int (2 : Int32))) ∧ (Exa Z h d "[Ljava/lang/Object;") ∧ (Arv Z h d kd (.object "java/lang/Object") (10 : Int32) [(.ref x0), (.ref v1), .null, .null, .null, .null, .null, .null, .null, .null] .null) ∧ (Ovr Z kd "java/lang/Object")
theorem ef_rm_aR1 (m : MethodId) (x0 : Addr) (x1 : Addr) : entryFrame m #[(.ref x0), (.ref x1)] 2 = mkF m 0 #[.val (.ref x0), .val (.ref x1)] [] := by first | (simp [entryFrame, mkF, argsToLocals, Value.category]; done) | rfl
set_option maxRecDepth 65536 in
set_option maxHeartbeats 40000000 in
theorem rm_aR1 (l : Launch) (Z : State) (a0 : Array Value) (hw : ∀ d ∈ tables_1, d.before a0 Z = true) (ws : List Jvm.Cond) (a : Addr) (v1 : Addr) (m1 : Int32) (d : Addr) (kd : ClassId) (x0 : Addr) (h0 : Heap) (n0 : Nat) (O0 : Old Z n0 h0) (E_a : Exa Z h0 a "java/util/ArrayList") (F1 : Fld Z h0 a "java/util/AbstractList" "modCount" "I" (.int m1)) (F2 : Fld Z h0 a "java/util/ArrayList" "elementData" "[Ljava/lang/Object;" (.ref d)) (F3 : Fld Z h0 a "java/util/ArrayList" "size" "I" (.int (1 : Int32))) (E_d : Exa Z h0 d "[Ljava/lang/Object;") (V_d : Arv Z h0 d kd (.object "java/lang/Object") (10 : Int32) [(.ref x0), .null, .null, .null, .null, .null, .null, .null, .null, .null] .null) (O_d : Ovr Z kd "java/lang/Object") (E_v : Exa Z h0 v1 "[Ljava/lang/Object;") (g_a : n0 ≤ a) (g_d : n0 ≤ d) :
    MetFree l (⟨"java/util/ArrayList", "add", "(Ljava/lang/Object;)Z"⟩ : MethodName) (head1 (Jvm.Cond.code (⟨"java/util/ArrayList", "add", "(Ljava/lang/Object;)Z"⟩ : MethodName) jdk_38_method_25_code 2 (some .boolean) :: ws) ({ frames := 1, cells := 0, slots := 0, locals := 15 } : Room)) (fun as' U => as' = #[(.ref a), (.ref v1)] ∧ Z.Warmed39 U.vm ∧ U.heap = h0) (fun _ _ _ _ _ => True) (fun _ U o U' => ∃ v L, o = .returned v ∧ Q_aR1 Z a v1 m1 d kd x0 h0 n0 v U'.heap L ∧ FrameEnd U o U' L ({ frames := 1, cells := 0, slots := 0, locals := 15 } : Room).cells ({ frames := 1, cells := 0, slots := 0, locals := 15 } : Room).slots) := by
  refine MetFree.of_bodySF (plainFor_of_name pn_java_util_ArrayList) hisR ?_
  intro p e s m args below meth c s₁ Bd hml0 hP hK
  obtain ⟨rfl, hZ, hh⟩ := hP
  have hx := Bd.exec
  have hby := Bd.bytes
  have hml : c.maxLocals = 2 := hml0
  have hown : s.vm.findClass "java/util/ArrayList" = some m.cls := findClass_of_methodNamed Bd.named
  have hnm := (name_of_methodNamed Bd.named Bd.method).1
  have X0 : Stand p l e ({ frames := 1, cells := 0, slots := 0, locals := 15 } : Room) s m #[(.ref a), (.ref v1)] below meth c s₁ [] 0 0 := Stand.of_body Bd
  have e0 : s₁.heap = h0 := by rw [← hh, Bd.state]; rfl
  have N0 := Fr.nil n0
  have K0 : Keep h0 h0 [a, d] := Keep.refl _ _
  have pre0 : ∀ t, Steps p.tables e below (s₁.setTop (mkF m 0 #[.val (.ref a), .val (.ref v1)] [])) t → Steps p.tables e below (s₁.setTop (entryFrame m #[(.ref a), (.ref v1)] 2)) t := fun t k => castTop (ef_rm_aR1 m a v1) k
  obtain ⟨T2, X2, e2, st2⟩ := getF X0 hx hZ hown (host := "") (Or.inl (w_106 hw)) (Via.of (w_107 hw)) e0 F1 (g := (mkF m 2 #[.val (.ref a), .val (.ref v1)] [(.ref a), (.ref a)])) rfl rfl (hb hby d15_2)
  obtain ⟨T7, h7, X7, e7, Wr7, st7⟩ := putF X2 hx hZ hown (host := "") (Or.inl (w_106 hw)) (Via.of (w_107 hw)) e2 F1 E_a (Or.inl (w_32 hw)) (w_11 hw) (ty := .int) (by decide) rfl rfl (g := (mkF m 7 #[.val (.ref a), .val (.ref v1)] [(.int (m1 + (1 : Int32))), (.ref a)])) rfl rfl (hb hby d15_7)
  have f1 : Keep h0 h7 [a, d] := K0.wr Wr7 (Or.inl (List.mem_of_getElem? (i := 0) rfl))
  have f2 : Old Z n0 h7 := O0.wr Wr7 g_a
  have f3 : Fld Z h7 a "java/util/AbstractList" "modCount" "I" (.int (m1 + (1 : Int32))) := F1.same Wr7
  have N7 := Fr.snoc X7 N0 g_a
  have f4 : Fld Z h7 a "java/util/ArrayList" "elementData" "[Ljava/lang/Object;" (.ref d) := F2.other Wr7 (Or.inr (slot_ne (Or.inl (w_35 hw)) (Or.inl (w_32 hw)) (by decide) (t := (.array (.object "java/lang/Object"))) (t' := .int) (by decide) (by decide)))
  obtain ⟨T13, X13, e13, st13⟩ := getF X7 hx hZ hown (host := "") (Or.inl (w_34 hw)) Via.refl e7 f4 (g := (mkF m 13 #[.val (.ref a), .val (.ref v1)] [(.ref a), (.ref v1), (.ref a)])) rfl rfl (hb hby d15_13)
  have f5 : Fld Z h7 a "java/util/ArrayList" "size" "I" (.int (1 : Int32)) := F3.other Wr7 (Or.inr (slot_ne (Or.inl (w_67 hw)) (Or.inl (w_32 hw)) (by decide) (t := .int) (t' := .int) (by decide) (by decide)))
  obtain ⟨T17, X17, e17, st17⟩ := getF X13 hx hZ hown (host := "") (Or.inl (w_66 hw)) Via.refl e13 f5 (g := (mkF m 17 #[.val (.ref a), .val (.ref v1)] [(.ref a), (.ref d), (.ref v1), (.ref a)])) rfl rfl (hb hby d15_17)
  have f6 : Exa Z h7 a "java/util/ArrayList" := E_a.wr Wr7
  have f7 : Exa Z h7 d "[Ljava/lang/Object;" := E_d.wr Wr7
  have f8 : Arv Z h7 d kd (.object "java/lang/Object") (10 : Int32) [(.ref x0), .null, .null, .null, .null, .null, .null, .null, .null, .null] .null := V_d.other Wr7 (Ne.symm (ne_exa f6 f7 (by decide)))
  have f9 : Exa Z h7 v1 "[Ljava/lang/Object;" := E_v.wr Wr7
  obtain ⟨cq20, q20, q20'⟩ := f6.cell
  obtain ⟨_, _, ⟨T20, Lo20, kk20, nn20⟩, -, X20, ⟨Lc20, hQ20, ll20, yy20, zz20⟩, st20⟩ := X17.privateBack hx (y := (⟨"java/util/ArrayList", "add", "(Ljava/lang/Object;[Ljava/lang/Object;I)V"⟩ : MethodName)) hown (mvT hZ (w_108 hw)) (mvT hZ (w_109 hw)) (mvT hZ (w_111 hw)) (Cond.privateMethod_at (mvP hZ (w_110 hw) (args := #[]))) (mvT hZ (w_112 hw)) (by decide) (backOf (W := 0) (rm_hR1 l Z a0 hw [] a v1 ((m1 + (1 : Int32))) d kd x0 h7 n0 f2 f6 f3 f4 f5 f7 f8 O_d f9 g_a g_d) hZ (w_112 hw) (w_12 hw) (by decide) (by decide)) (g := (mkF m 20 #[.val (.ref a), .val (.ref v1)] [(.int (1 : Int32)), (.ref d), (.ref v1), (.ref a)])) rfl (by rw [hml]; rfl) (Steps.refl _) (a := a) (by rw [e17]; exact q20) q20' (argsL := [(.ref v1), (.ref d), (.int (1 : Int32))]) (rest := []) (lenOf pd_5 rfl) rfl (by show 2 * 0 + _ ≤ _; exact Nat.le_of_eq rfl) (hb hby d15_20) (fun _ _ => ⟨rfl, e17, (by decide : 0 + 0 ≤ _), (by decide : 0 + 0 ≤ _)⟩)
  dsimp only [Pt.U, Pt.locs, Pt.cells, Pt.slots] at X20 ll20 yy20 zz20 st20 hQ20
  subst ll20 yy20 zz20
  obtain ⟨rfl, N20q, K20q, p20_0, p20_1, p20_2, p20_3, p20_4, p20_5, p20_6⟩ := hQ20
  have N20 := Fr.app N7 N20q
  have f10 : Keep h0 T20.heap [a, d] := f1.trans K20q (allS (Or.inl (List.mem_of_getElem? (i := 0) rfl)) (allS (Or.inl (List.mem_of_getElem? (i := 1) rfl)) all0))
  have f11 : Old Z n0 T20.heap := f2.keep K20q (allS g_a (allS g_d all0))
  obtain ⟨fs, hr, hrun, hended, hW, hsame⟩ := X20.leave (v := some (.int (1 : Int32))) (fun h => by rw [Bd.returns] at h; cases h)
  refine ⟨_, _, pre0 _ ?_, hrun, hended, _, _, rfl, ?_, ⟨_, rfl⟩, hW, hsame.mono (by decide) (by decide)⟩
  · show Steps p.tables e below (s₁.setTop (mkF m 0 #[.val (.ref a), .val (.ref v1)] [])) _
    refine XS.aloadN X0.here hx rfl (hb hby d15_0) rfl rfl ?_
    show Steps p.tables e below (s₁.setTop (mkF m 1 #[.val (.ref a), .val (.ref v1)] [(.ref a)])) _
    refine XS.dup X0.here hx rfl (hb hby d15_1) rfl rfl ?_
    show Steps p.tables e below (s₁.setTop (mkF m 2 #[.val (.ref a), .val (.ref v1)] [(.ref a), (.ref a)])) _
    refine st2 _ ?_
    show Steps p.tables e below (T2.setTop (mkF m 5 #[.val (.ref a), .val (.ref v1)] [(.int m1), (.ref a)])) _
    refine XS.iconst X2.here hx rfl (hb hby d15_5) ?_
    show Steps p.tables e below (T2.setTop (mkF m 6 #[.val (.ref a), .val (.ref v1)] [(.int (1 : Int32)), (.int m1), (.ref a)])) _
    refine XS.iadd X2.here hx rfl (hb hby d15_6) rfl ?_
    show Steps p.tables e below (T2.setTop (mkF m 7 #[.val (.ref a), .val (.ref v1)] [(.int (m1 + (1 : Int32))), (.ref a)])) _
    refine st7 _ ?_
    show Steps p.tables e below (T7.setTop (mkF m 10 #[.val (.ref a), .val (.ref v1)] [])) _
    refine XS.aloadN X7.here hx rfl (hb hby d15_10) rfl rfl ?_
    show Steps p.tables e below (T7.setTop (mkF m 11 #[.val (.ref a), .val (.ref v1)] [(.ref a)])) _
    refine XS.aloadN X7.here hx rfl (hb hby d15_11) rfl rfl ?_
    show Steps p.tables e below (T7.setTop (mkF m 12 #[.val (.ref a), .val (.ref v1)] [(.ref v1), (.ref a)])) _
    refine XS.aloadN X7.here hx rfl (hb hby d15_12) rfl rfl ?_
    show Steps p.tables e below (T7.setTop (mkF m 13 #[.val (.ref a), .val (.ref v1)] [(.ref a), (.ref v1), (.ref a)])) _
    refine st13 _ ?_
    show Steps p.tables e below (T13.setTop (mkF m 16 #[.val (.ref a), .val (.ref v1)] [(.ref d), (.ref v1), (.ref a)])) _
    refine XS.aloadN X13.here hx rfl (hb hby d15_16) rfl rfl ?_
    show Steps p.tables e below (T13.setTop (mkF m 17 #[.val (.ref a), .val (.ref v1)] [(.ref a), (.ref d), (.ref v1), (.ref a)])) _
    refine st17 _ ?_
    show Steps p.tables e below (T17.setTop (mkF m 20 #[.val (.ref a), .val (.ref v1)] [(.int (1 : Int32)), (.ref d), (.ref v1), (.ref a)])) _
    refine st20.trans ?_
    show Steps p.tables e below (T20.setTop (mkF m 23 #[.val (.ref a), .val (.ref v1)] [])) _
    refine XS.iconst X20.here hx rfl (hb hby d15_23) ?_
    show Steps p.tables e below (T20.setTop (mkF m 24 #[.val (.ref a), .val (.ref v1)] [(.int (1 : Int32))])) _
    exact retN X20 hx (t := .boolean) Bd.returns (by simp) (hb hby d15_24) hr
  · show Q_aR1 Z a v1 m1 d kd x0 h0 n0 _ T20.heap _
    exact ⟨rfl, N20, f10, p20_0, p20_1, p20_2, p20_3, p20_4, p20_5, p20_6⟩
def Q_hR2 (Z : State) (a : Addr) (v1 : Addr) (m1 : Int32) (d : Addr) (kd : ClassId) (x0 : Addr) (x1 : Addr) (h0 : Heap) (n0 : Nat) (v : Option Value) (h : Heap) (L : List Loc) : Prop := v = none ∧ Fr n0 L ∧ Keep h0 h [a, d] ∧ (Exa Z h a "java/util/ArrayList") ∧ (Fld Z h a "java/util/AbstractList" "modCount" "I" (.int m1)) ∧ (Fld Z h a "java/util/ArrayList" "elementData" "[Ljava/lang/Object;" (.ref d)) ∧ (Fld Z h a "java/util/ArrayList" "size" "I" (.int (3 : Int32))) ∧ (Exa Z h d "[Ljava/lang/Object;") ∧ (Arv Z h d kd (.object "java/lang/Object") (10 : Int32) [(.ref x0), (.ref x1), (.ref v1), .null, .null, .null, .null, .null, .null, .null] .null) ∧ (Ovr Z kd "java/lang/Object")
theorem ef_rm_hR2 (m : MethodId) (x0 : Addr) (x1 : Addr) (x2 : Addr) (x3 : Int32) : entryFrame m #[(.ref x0), (.ref x1), (.ref x2), (.int x3)] 4 = mkF m 0 #[.val (.ref x0), .val (.ref x1), .val (.ref x2), .val (.int x3)] [] := by first | (simp [entryFrame, mkF, argsToLocals, Value.category]; done) | rfl
set_option maxRecDepth 65536 in
set_option maxHeartbeats 40000000 in
theorem rm_hR2 (l : Launch) (Z : State) (a0 : Array Value) (hw : ∀ d ∈ tables_1, d.before a0 Z = true) (ws : List Jvm.Cond) (a : Addr) (v1 : Addr) (m1 : Int32) (d : Addr) (kd : ClassId) (x0 : Addr) (x1 : Addr) (h0 : Heap) (n0 : Nat) (O0 : Old Z n0 h0) (E_a : Exa Z h0 a "java/util/ArrayList") (F1 : Fld Z h0 a "java/util/AbstractList" "modCount" "I" (.int m1)) (F2 : Fld Z h0 a "java/util/ArrayList" "elementData" "[Ljava/lang/Object;" (.ref d)) (F3 : Fld Z h0 a "java/util/ArrayList" "size" "I" (.int (2 : Int32))) (E_d : Exa Z h0 d "[Ljava/lang/Object;") (V_d : Arv Z h0 d kd (.object "java/lang/Object") (10 : Int32) [(.ref x0), (.ref x1), .null, .null, .null, .null, .null, .null, .null, .null] .null) (O_d : Ovr Z kd "java/lang/Object") (E_v : Exa Z h0 v1 "[Ljava/lang/Object;") (g_a : n0 ≤ a) (g_d : n0 ≤ d) :
    MetFree l (⟨"java/util/ArrayList", "add", "(Ljava/lang/Object;[Ljava/lang/Object;I)V"⟩ : MethodName) (head1 (Jvm.Cond.code (⟨"java/util/ArrayList", "add", "(Ljava/lang/Object;[Ljava/lang/Object;I)V"⟩ : MethodName) jdk_38_method_24_code 4 none :: ws) ({ frames := 0, cells := 0, slots := 0, locals := 0 } : Room)) (fun as' U => as' = #[(.ref a), (.ref v1), (.ref d), (.int (2 : Int32))] ∧ Z.Warmed39 U.vm ∧ U.heap = h0) (fun _ _ _ _ _ => True) (fun _ U o U' => ∃ v L, o = .returned v ∧ Q_hR2 Z a v1 m1 d kd x0 x1 h0 n0 v U'.heap L ∧ FrameEnd U o U' L ({ frames := 0, cells := 0, slots := 0, locals := 0 } : Room).cells ({ frames := 0, cells := 0, slots := 0, locals := 0 } : Room).slots) := by
  refine MetFree.of_bodySF (plainFor_of_name pn_java_util_ArrayList) hisR ?_
  intro p e s m args below meth c s₁ Bd hml0 hP hK
  obtain ⟨rfl, hZ, hh⟩ := hP
  have hx := Bd.exec
  have hby := Bd.bytes
  have hml : c.maxLocals = 4 := hml0
  have hown : s.vm.findClass "java/util/ArrayList" = some m.cls := findClass_of_methodNamed Bd.named
  have hnm := (name_of_methodNamed Bd.named Bd.method).1
  have X0 : Stand p l e ({ frames := 0, cells := 0, slots := 0, locals := 0 } : Room) s m #[(.ref a), (.ref v1), (.ref d), (.int (2 : Int32))] below meth c s₁ [] 0 0 := Stand.of_body Bd
  have e0 : s₁.heap = h0 := by rw [← hh, Bd.state]; rfl
  have N0 := Fr.nil n0
  have K0 : Keep h0 h0 [a, d] := Keep.refl _ _
  have pre0 : ∀ t, Steps p.tables e below (s₁.setTop (mkF m 0 #[.val (.ref a), .val (.ref v1), .val (.ref d), .val (.int (2 : Int32))] [])) t → Steps p.tables e below (s₁.setTop (entryFrame m #[(.ref a), (.ref v1), (.ref d), (.int (2 : Int32))] 4)) t := fun t k => castTop (ef_rm_hR2 m a v1 d ((2 : Int32))) k
  obtain ⟨cl2, Ar2, qq2, Sz2, NN2, HH2, GG2⟩ := (id V_d)
  obtain ⟨cl14, Ar14, qq14, Sz14, NN14, HH14, GG14⟩ := (id V_d)
  have hin14 : ¬ ((2 : Int32) < 0 ∨ cl14.slots.size ≤ ((2 : Int32)).toNatClampNeg) := inb_of Sz14 ⟨by decide, by decide⟩
  obtain ⟨T14, h14, X14, e14, Wr14, st14⟩ := stR X0 hx hZ e0 Ar14 (j := (2 : Int32)) hin14 rfl (Sto.ofV Ar14 qq14 O_d (Ins.of_exa E_v (w_128 hw))) (g := (mkF m 14 #[.val (.ref a), .val (.ref v1), .val (.ref d), .val (.int (2 : Int32))] [(.ref v1), (.int (2 : Int32)), (.ref d)])) rfl rfl (hb hby d16_14)
  have f2 : Keep h0 h14 [a, d] := K0.wr Wr14 (Or.inl (List.mem_of_getElem? (i := 1) rfl))
  have f3 : Old Z n0 h14 := O0.wr Wr14 g_d
  have f4 : Arv Z h14 d kd (.object "java/lang/Object") (10 : Int32) [(.ref x0), (.ref x1), (.ref v1), .null, .null, .null, .null, .null, .null, .null] .null := Arv.set Ar14 qq14 Sz14 NN14 HH14 GG14 rfl Wr14 2 rfl (Nat.le_of_ble_eq_true rfl)
  have N14 := Fr.snoc X14 N0 g_d
  have f5 : Exa Z h14 d "[Ljava/lang/Object;" := E_d.wr Wr14
  have f6 : Exa Z h14 a "java/util/ArrayList" := E_a.wr Wr14
  have f7 : Fld Z h14 a "java/util/ArrayList" "size" "I" (.int (2 : Int32)) := F3.other Wr14 (Or.inl (Ne.symm (ne_exa f5 f6 (by decide))))
  obtain ⟨T19, h19, X19, e19, Wr19, st19⟩ := putF X14 hx hZ hown (host := "") (Or.inl (w_66 hw)) Via.refl e14 f7 f6 (Or.inl (w_67 hw)) (w_11 hw) (ty := .int) (by decide) rfl rfl (g := (mkF m 19 #[.val (.ref a), .val (.ref v1), .val (.ref d), .val (.int (2 : Int32))] [(.int (3 : Int32)), (.ref a)])) rfl rfl (hb hby d16_19)
  have f8 : Keep h0 h19 [a, d] := f2.wr Wr19 (Or.inl (List.mem_of_getElem? (i := 0) rfl))
  have f9 : Old Z n0 h19 := f3.wr Wr19 g_a
  have f10 : Fld Z h19 a "java/util/ArrayList" "size" "I" (.int (3 : Int32)) := f7.same Wr19
  have N19 := Fr.snoc X19 N14 g_a
  have f11 : Exa Z h19 a "java/util/ArrayList" := f6.wr Wr19
  have f12 : Exa Z h19 d "[Ljava/lang/Object;" := f5.wr Wr19
  have f13 : Fld Z h14 a "java/util/AbstractList" "modCount" "I" (.int m1) := F1.other Wr14 (Or.inl (Ne.symm (ne_exa f12 f11 (by decide))))
  have f14 : Fld Z h19 a "java/util/AbstractList" "modCount" "I" (.int m1) := f13.other Wr19 (Or.inr (slot_ne (Or.inl (w_32 hw)) (Or.inl (w_67 hw)) (by decide) (t := .int) (t' := .int) (by decide) (by decide)))
  have f15 : Fld Z h14 a "java/util/ArrayList" "elementData" "[Ljava/lang/Object;" (.ref d) := F2.other Wr14 (Or.inl (Ne.symm (ne_exa f12 f11 (by decide))))
  have f16 : Fld Z h19 a "java/util/ArrayList" "elementData" "[Ljava/lang/Object;" (.ref d) := f15.other Wr19 (Or.inr (slot_ne (Or.inl (w_35 hw)) (Or.inl (w_67 hw)) (by decide) (t := (.array (.object "java/lang/Object"))) (t' := .int) (by decide) (by decide)))
  have f17 : Arv Z h19 d kd (.object "java/lang/Object") (10 : Int32) [(.ref x0), (.ref x1), (.ref v1), .null, .null, .null, .null, .null, .null, .null] .null := f4.other Wr19 (Ne.symm (ne_exa f11 f12 (by decide)))
  obtain ⟨fs, hr, hrun, hended, hW, hsame⟩ := X19.leave (v := none) (fun _ => rfl)
  refine ⟨_, _, pre0 _ ?_, hrun, hended, _, _, rfl, ?_, ⟨_, rfl⟩, hW, hsame.mono (by decide) (by decide)⟩
  · show Steps p.tables e below (s₁.setTop (mkF m 0 #[.val (.ref a), .val (.ref v1), .val (.ref d), .val (.int (2 : Int32))] [])) _
    refine XS.iloadN X0.here hx rfl (hb hby d16_0) rfl ?_
    show Steps p.tables e below (s₁.setTop (mkF m 1 #[.val (.ref a), .val (.ref v1), .val (.ref d), .val (.int (2 : Int32))] [(.int (2 : Int32))])) _
    refine XS.aloadN X0.here hx rfl (hb hby d16_1) rfl rfl ?_
    show Steps p.tables e below (s₁.setTop (mkF m 2 #[.val (.ref a), .val (.ref v1), .val (.ref d), .val (.int (2 : Int32))] [(.ref d), (.int (2 : Int32))])) _
    refine X0.arraylength hx (by rw [e0]; exact Ar2.1) (State.isArrayOf_alike hZ.alike Ar2.2.1) (g := (mkF m 2 #[.val (.ref a), .val (.ref v1), .val (.ref d), .val (.int (2 : Int32))] [(.ref d), (.int (2 : Int32))])) rfl rfl (hb hby d16_2) _ ?_
    rw [len_of Sz2 NN2]
    show Steps p.tables e below (s₁.setTop (mkF m 3 #[.val (.ref a), .val (.ref v1), .val (.ref d), .val (.int (2 : Int32))] [(.int (10 : Int32)), (.int (2 : Int32))])) _
    refine XS.icmpYes X0.here hx rfl (pc0 := 3) (pc' := 11) rfl (hb hby d16_3) rfl (feq (by decide : ¬ ((2 : Int32) = (10 : Int32)))).2 (by decide) (by decide) ?_
    show Steps p.tables e below (s₁.setTop (mkF m 11 #[.val (.ref a), .val (.ref v1), .val (.ref d), .val (.int (2 : Int32))] [])) _
    refine XS.aloadN X0.here hx rfl (hb hby d16_11) rfl rfl ?_
    show Steps p.tables e below (s₁.setTop (mkF m 12 #[.val (.ref a), .val (.ref v1), .val (.ref d), .val (.int (2 : Int32))] [(.ref d)])) _
    refine XS.iloadN X0.here hx rfl (hb hby d16_12) rfl ?_
    show Steps p.tables e below (s₁.setTop (mkF m 13 #[.val (.ref a), .val (.ref v1), .val (.ref d), .val (.int (2 : Int32))] [(.int (2 : Int32)), (.ref d)])) _
    refine XS.aloadN X0.here hx rfl (hb hby d16_13) rfl rfl ?_
    show Steps p.tables e below (s₁.setTop (mkF m 14 #[.val (.ref a), .val (.ref v1), .val (.ref d), .val (.int (2 : Int32))] [(.ref v1), (.int (2 : Int32)), (.ref d)])) _
    refine st14 _ ?_
    show Steps p.tables e below (T14.setTop (mkF m 15 #[.val (.ref a), .val (.ref v1), .val (.ref d), .val (.int (2 : Int32))] [])) _
    refine XS.aloadN X14.here hx rfl (hb hby d16_15) rfl rfl ?_
    show Steps p.tables e below (T14.setTop (mkF m 16 #[.val (.ref a), .val (.ref v1), .val (.ref d), .val (.int (2 : Int32))] [(.ref a)])) _
    refine XS.iloadN X14.here hx rfl (hb hby d16_16) rfl ?_
    show Steps p.tables e below (T14.setTop (mkF m 17 #[.val (.ref a), .val (.ref v1), .val (.ref d), .val (.int (2 : Int32))] [(.int (2 : Int32)), (.ref a)])) _
    refine XS.iconst X14.here hx rfl (hb hby d16_17) ?_
    show Steps p.tables e below (T14.setTop (mkF m 18 #[.val (.ref a), .val (.ref v1), .val (.ref d), .val (.int (2 : Int32))] [(.int (1 : Int32)), (.int (2 : Int32)), (.ref a)])) _
    refine XS.iadd X14.here hx rfl (hb hby d16_18) rfl ?_
    show Steps p.tables e below (T14.setTop (mkF m 19 #[.val (.ref a), .val (.ref v1), .val (.ref d), .val (.int (2 : Int32))] [(.int ((2 : Int32) + (1 : Int32))), (.ref a)])) _
    rw [(by decide : ((2 : Int32) + (1 : Int32)) = (3 : Int32))]
    show Steps p.tables e below (T14.setTop (mkF m 19 #[.val (.ref a), .val (.ref v1), .val (.ref d), .val (.int (2 : Int32))] [(.int (3 : Int32)), (.ref a)])) _
    refine st19 _ ?_
    show Steps p.tables e below (T19.setTop (mkF m 22 #[.val (.ref a), .val (.ref v1), .val (.ref d), .val (.int (2 : Int32))] [])) _
    exact X19.returnOut hx Bd.returns (hb hby d16_22) hr
  · show Q_hR2 Z a v1 m1 d kd x0 x1 h0 n0 _ T19.heap _
    rw [e19]
    exact ⟨rfl, N19, f8, f11, f14, f16, f10, f12, f17, O_d⟩
def Q_aR2 (Z : State) (a : Addr) (v1 : Addr) (m1 : Int32) (d : Addr) (kd : ClassId) (x0 : Addr) (x1 : Addr) (h0 : Heap) (n0 : Nat) (v : Option Value) (h : Heap) (L : List Loc) : Prop := v = some (.int (1 : Int32)) ∧ Fr n0 L ∧ Keep h0 h [a, d] ∧ (Exa Z h a "java/util/ArrayList") ∧ (Fld Z h a "java/util/AbstractList" "modCount" "I" (.int (m1 + (1 : Int32)))) ∧ (Fld Z h a "java/util/ArrayList" "elementData" "[Ljava/lang/Object;" (.ref d)) ∧ (Fld Z h a "java/util/ArrayList" "size" "I" (.int (3 : Int32))) ∧ (Exa Z h d "[Ljava/lang/Object;") ∧ (Arv Z h d kd (.object "java/lang/Object") (10 : Int32) [(.ref x0), (.ref x1), (.ref v1), .null, .null, .null, .null, .null, .null, .null] .null) ∧ (Ovr Z kd "java/lang/Object")
theorem ef_rm_aR2 (m : MethodId) (x0 : Addr) (x1 : Addr) : entryFrame m #[(.ref x0), (.ref x1)] 2 = mkF m 0 #[.val (.ref x0), .val (.ref x1)] [] := by first | (simp [entryFrame, mkF, argsToLocals, Value.category]; done) | rfl
set_option maxRecDepth 65536 in
set_option maxHeartbeats 40000000 in
theorem rm_aR2 (l : Launch) (Z : State) (a0 : Array Value) (hw : ∀ d ∈ tables_1, d.before a0 Z = true) (ws : List Jvm.Cond) (a : Addr) (v1 : Addr) (m1 : Int32) (d : Addr) (kd : ClassId) (x0 : Addr) (x1 : Addr) (h0 : Heap) (n0 : Nat) (O0 : Old Z n0 h0) (E_a : Exa Z h0 a "java/util/ArrayList") (F1 : Fld Z h0 a "java/util/AbstractList" "modCount" "I" (.int m1)) (F2 : Fld Z h0 a "java/util/ArrayList" "elementData" "[Ljava/lang/Object;" (.ref d)) (F3 : Fld Z h0 a "java/util/ArrayList" "size" "I" (.int (2 : Int32))) (E_d : Exa Z h0 d "[Ljava/lang/Object;") (V_d : Arv Z h0 d kd (.object "java/lang/Object") (10 : Int32) [(.ref x0), (.ref x1), .null, .null, .null, .null, .null, .null, .null, .null] .null) (O_d : Ovr Z kd "java/lang/Object") (E_v : Exa Z h0 v1 "[Ljava/lang/Object;") (g_a : n0 ≤ a) (g_d : n0 ≤ d) :
    MetFree l (⟨"java/util/ArrayList", "add", "(Ljava/lang/Object;)Z"⟩ : MethodName) (head1 (Jvm.Cond.code (⟨"java/util/ArrayList", "add", "(Ljava/lang/Object;)Z"⟩ : MethodName) jdk_38_method_25_code 2 (some .boolean) :: ws) ({ frames := 1, cells := 0, slots := 0, locals := 15 } : Room)) (fun as' U => as' = #[(.ref a), (.ref v1)] ∧ Z.Warmed39 U.vm ∧ U.heap = h0) (fun _ _ _ _ _ => True) (fun _ U o U' => ∃ v L, o = .returned v ∧ Q_aR2 Z a v1 m1 d kd x0 x1 h0 n0 v U'.heap L ∧ FrameEnd U o U' L ({ frames := 1, cells := 0, slots := 0, locals := 15 } : Room).cells ({ frames := 1, cells := 0, slots := 0, locals := 15 } : Room).slots) := by
  refine MetFree.of_bodySF (plainFor_of_name pn_java_util_ArrayList) hisR ?_
  intro p e s m args below meth c s₁ Bd hml0 hP hK
  obtain ⟨rfl, hZ, hh⟩ := hP
  have hx := Bd.exec
  have hby := Bd.bytes
  have hml : c.maxLocals = 2 := hml0
  have hown : s.vm.findClass "java/util/ArrayList" = some m.cls := findClass_of_methodNamed Bd.named
  have hnm := (name_of_methodNamed Bd.named Bd.method).1
  have X0 : Stand p l e ({ frames := 1, cells := 0, slots := 0, locals := 15 } : Room) s m #[(.ref a), (.ref v1)] below meth c s₁ [] 0 0 := Stand.of_body Bd
  have e0 : s₁.heap = h0 := by rw [← hh, Bd.state]; rfl
  have N0 := Fr.nil n0
  have K0 : Keep h0 h0 [a, d] := Keep.refl _ _
  have pre0 : ∀ t, Steps p.tables e below (s₁.setTop (mkF m 0 #[.val (.ref a), .val (.ref v1)] [])) t → Steps p.tables e below (s₁.setTop (entryFrame m #[(.ref a), (.ref v1)] 2)) t := fun t k => castTop (ef_rm_aR2 m a v1) k
  obtain ⟨T2, X2, e2, st2⟩ := getF X0 hx hZ hown (host := "") (Or.inl (w_106 hw)) (Via.of (w_107 hw)) e0 F1 (g := (mkF m 2 #[.val (.ref a), .val (.ref v1)] [(.ref a), (.ref a)])) rfl rfl (hb hby d15_2)
  obtain ⟨T7, h7, X7, e7, Wr7, st7⟩ := putF X2 hx hZ hown (host := "") (Or.inl (w_106 hw)) (Via.of (w_107 hw)) e2 F1 E_a (Or.inl (w_32 hw)) (w_11 hw) (ty := .int) (by decide) rfl rfl (g := (mkF m 7 #[.val (.ref a), .val (.ref v1)] [(.int (m1 + (1 : Int32))), (.ref a)])) rfl rfl (hb hby d15_7)
  have f1 : Keep h0 h7 [a, d] := K0.wr Wr7 (Or.inl (List.mem_of_getElem? (i := 0) rfl))
  have f2 : Old Z n0 h7 := O0.wr Wr7 g_a
  have f3 : Fld Z h7 a "java/util/AbstractList" "modCount" "I" (.int (m1 + (1 : Int32))) := F1.same Wr7
  have N7 := Fr.snoc X7 N0 g_a
  have f4 : Fld Z h7 a "java/util/ArrayList" "elementData" "[Ljava/lang/Object;" (.ref d) := F2.other Wr7 (Or.inr (slot_ne (Or.inl (w_35 hw)) (Or.inl (w_32 hw)) (by decide) (t := (.array (.object "java/lang/Object"))) (t' := .int) (by decide) (by decide)))
  obtain ⟨T13, X13, e13, st13⟩ := getF X7 hx hZ hown (host := "") (Or.inl (w_34 hw)) Via.refl e7 f4 (g := (mkF m 13 #[.val (.ref a), .val (.ref v1)] [(.ref a), (.ref v1), (.ref a)])) rfl rfl (hb hby d15_13)
  have f5 : Fld Z h7 a "java/util/ArrayList" "size" "I" (.int (2 : Int32)) := F3.other Wr7 (Or.inr (slot_ne (Or.inl (w_67 hw)) (Or.inl (w_32 hw)) (by decide) (t := .int) (t' := .int) (by decide) (by decide)))
  obtain ⟨T17, X17, e17, st17⟩ := getF X13 hx hZ hown (host := "") (Or.inl (w_66 hw)) Via.refl e13 f5 (g := (mkF m 17 #[.val (.ref a), .val (.ref v1)] [(.ref a), (.ref d), (.ref v1), (.ref a)])) rfl rfl (hb hby d15_17)
  have f6 : Exa Z h7 a "java/util/ArrayList" := E_a.wr Wr7
  have f7 : Exa Z h7 d "[Ljava/lang/Object;" := E_d.wr Wr7
  have f8 : Arv Z h7 d kd (.object "java/lang/Object") (10 : Int32) [(.ref x0), (.ref x1), .null, .null, .null, .null, .null, .null, .null, .null] .null := V_d.other Wr7 (Ne.symm (ne_exa f6 f7 (by decide)))
  have f9 : Exa Z h7 v1 "[Ljava/lang/Object;" := E_v.wr Wr7
  obtain ⟨cq20, q20, q20'⟩ := f6.cell
  obtain ⟨_, _, ⟨T20, Lo20, kk20, nn20⟩, -, X20, ⟨Lc20, hQ20, ll20, yy20, zz20⟩, st20⟩ := X17.privateBack hx (y := (⟨"java/util/ArrayList", "add", "(Ljava/lang/Object;[Ljava/lang/Object;I)V"⟩ : MethodName)) hown (mvT hZ (w_108 hw)) (mvT hZ (w_109 hw)) (mvT hZ (w_111 hw)) (Cond.privateMethod_at (mvP hZ (w_110 hw) (args := #[]))) (mvT hZ (w_112 hw)) (by decide) (backOf (W := 0) (rm_hR2 l Z a0 hw [] a v1 ((m1 + (1 : Int32))) d kd x0 x1 h7 n0 f2 f6 f3 f4 f5 f7 f8 O_d f9 g_a g_d) hZ (w_112 hw) (w_12 hw) (by decide) (by decide)) (g := (mkF m 20 #[.val (.ref a), .val (.ref v1)] [(.int (2 : Int32)), (.ref d), (.ref v1), (.ref a)])) rfl (by rw [hml]; rfl) (Steps.refl _) (a := a) (by rw [e17]; exact q20) q20' (argsL := [(.ref v1), (.ref d), (.int (2 : Int32))]) (rest := []) (lenOf pd_5 rfl) rfl (by show 2 * 0 + _ ≤ _; exact Nat.le_of_eq rfl) (hb hby d15_20) (fun _ _ => ⟨rfl, e17, (by decide : 0 + 0 ≤ _), (by decide : 0 + 0 ≤ _)⟩)
  dsimp only [Pt.U, Pt.locs, Pt.cells, Pt.slots] at X20 ll20 yy20 zz20 st20 hQ20
  subst ll20 yy20 zz20
  obtain ⟨rfl, N20q, K20q, p20_0, p20_1, p20_2, p20_3, p20_4, p20_5, p20_6⟩ := hQ20
  have N20 := Fr.app N7 N20q
  have f10 : Keep h0 T20.heap [a, d] := f1.trans K20q (allS (Or.inl (List.mem_of_getElem? (i := 0) rfl)) (allS (Or.inl (List.mem_of_getElem? (i := 1) rfl)) all0))
  have f11 : Old Z n0 T20.heap := f2.keep K20q (allS g_a (allS g_d all0))
  obtain ⟨fs, hr, hrun, hended, hW, hsame⟩ := X20.leave (v := some (.int (1 : Int32))) (fun h => by rw [Bd.returns] at h; cases h)
  refine ⟨_, _, pre0 _ ?_, hrun, hended, _, _, rfl, ?_, ⟨_, rfl⟩, hW, hsame.mono (by decide) (by decide)⟩
  · show Steps p.tables e below (s₁.setTop (mkF m 0 #[.val (.ref a), .val (.ref v1)] [])) _
    refine XS.aloadN X0.here hx rfl (hb hby d15_0) rfl rfl ?_
    show Steps p.tables e below (s₁.setTop (mkF m 1 #[.val (.ref a), .val (.ref v1)] [(.ref a)])) _
    refine XS.dup X0.here hx rfl (hb hby d15_1) rfl rfl ?_
    show Steps p.tables e below (s₁.setTop (mkF m 2 #[.val (.ref a), .val (.ref v1)] [(.ref a), (.ref a)])) _
    refine st2 _ ?_
    show Steps p.tables e below (T2.setTop (mkF m 5 #[.val (.ref a), .val (.ref v1)] [(.int m1), (.ref a)])) _
    refine XS.iconst X2.here hx rfl (hb hby d15_5) ?_
    show Steps p.tables e below (T2.setTop (mkF m 6 #[.val (.ref a), .val (.ref v1)] [(.int (1 : Int32)), (.int m1), (.ref a)])) _
    refine XS.iadd X2.here hx rfl (hb hby d15_6) rfl ?_
    show Steps p.tables e below (T2.setTop (mkF m 7 #[.val (.ref a), .val (.ref v1)] [(.int (m1 + (1 : Int32))), (.ref a)])) _
    refine st7 _ ?_
    show Steps p.tables e below (T7.setTop (mkF m 10 #[.val (.ref a), .val (.ref v1)] [])) _
    refine XS.aloadN X7.here hx rfl (hb hby d15_10) rfl rfl ?_
    show Steps p.tables e below (T7.setTop (mkF m 11 #[.val (.ref a), .val (.ref v1)] [(.ref a)])) _
    refine XS.aloadN X7.here hx rfl (hb hby d15_11) rfl rfl ?_
    show Steps p.tables e below (T7.setTop (mkF m 12 #[.val (.ref a), .val (.ref v1)] [(.ref v1), (.ref a)])) _
    refine XS.aloadN X7.here hx rfl (hb hby d15_12) rfl rfl ?_
    show Steps p.tables e below (T7.setTop (mkF m 13 #[.val (.ref a), .val (.ref v1)] [(.ref a), (.ref v1), (.ref a)])) _
    refine st13 _ ?_
    show Steps p.tables e below (T13.setTop (mkF m 16 #[.val (.ref a), .val (.ref v1)] [(.ref d), (.ref v1), (.ref a)])) _
    refine XS.aloadN X13.here hx rfl (hb hby d15_16) rfl rfl ?_
    show Steps p.tables e below (T13.setTop (mkF m 17 #[.val (.ref a), .val (.ref v1)] [(.ref a), (.ref d), (.ref v1), (.ref a)])) _
    refine st17 _ ?_
    show Steps p.tables e below (T17.setTop (mkF m 20 #[.val (.ref a), .val (.ref v1)] [(.int (2 : Int32)), (.ref d), (.ref v1), (.ref a)])) _
    refine st20.trans ?_
    show Steps p.tables e below (T20.setTop (mkF m 23 #[.val (.ref a), .val (.ref v1)] [])) _
    refine XS.iconst X20.here hx rfl (hb hby d15_23) ?_
    show Steps p.tables e below (T20.setTop (mkF m 24 #[.val (.ref a), .val (.ref v1)] [(.int (1 : Int32))])) _
    exact retN X20 hx (t := .boolean) Bd.returns (by simp) (hb hby d15_24) hr
  · show Q_aR2 Z a v1 m1 d kd x0 x1 h0 n0 _ T20.heap _
    exact ⟨rfl, N20, f10, p20_0, p20_1, p20_2, p20_3, p20_4, p20_5, p20_6⟩
theorem d9_0 : decode jdk_38_method_9_code 0 = .ok (.aload_n 0, 1) := by decide +kernel
theorem d9_1 : decode jdk_38_method_9_code 1 = .ok (.getfield 48, 3) := by decide +kernel
theorem d9_4 : decode jdk_38_method_9_code 4 = .ok (.ifCond .ne 7, 3) := by decide +kernel
theorem d9_7 : decode jdk_38_method_9_code 7 = .ok (.iconst 1, 1) := by decide +kernel
theorem d9_8 : decode jdk_38_method_9_code 8 = .ok (.goto 4, 3) := by decide +kernel
theorem d9_12 : decode jdk_38_method_9_code 12 = .ok (.ireturn, 1) := by decide +kernel
def Q_emptyY (Z : State) (a : Addr) (h0 : Heap) (n0 : Nat) (v : Option Value) (h : Heap) (L : List Loc) : Prop := v = some (.int (1 : Int32)) ∧ Fr n0 L ∧ Keep h0 h []
theorem ef_rm_emptyY (m : MethodId) (x0 : Addr) : entryFrame m #[(.ref x0)] 1 = mkF m 0 #[.val (.ref x0)] [] := by first | (simp [entryFrame, mkF, argsToLocals, Value.category]; done) | rfl
set_option maxRecDepth 65536 in
set_option maxHeartbeats 40000000 in
theorem rm_emptyY (l : Launch) (Z : State) (a0 : Array Value) (hw : ∀ d ∈ tables_1, d.before a0 Z = true) (ws : List Jvm.Cond) (a : Addr) (h0 : Heap) (n0 : Nat) (O0 : Old Z n0 h0) (F3 : Fld Z h0 a "java/util/ArrayList" "size" "I" (.int (0 : Int32))) :
    MetFree l (⟨"java/util/ArrayList", "isEmpty", "()Z"⟩ : MethodName) (head1 (Jvm.Cond.code (⟨"java/util/ArrayList", "isEmpty", "()Z"⟩ : MethodName) jdk_38_method_9_code 1 (some .boolean) :: ws) ({ frames := 0, cells := 0, slots := 0, locals := 0 } : Room)) (fun as' U => as' = #[(.ref a)] ∧ Z.Warmed39 U.vm ∧ U.heap = h0) (fun _ _ _ _ _ => True) (fun _ U o U' => ∃ v L, o = .returned v ∧ Q_emptyY Z a h0 n0 v U'.heap L ∧ FrameEnd U o U' L ({ frames := 0, cells := 0, slots := 0, locals := 0 } : Room).cells ({ frames := 0, cells := 0, slots := 0, locals := 0 } : Room).slots) := by
  refine MetFree.of_bodySF (plainFor_of_name pn_java_util_ArrayList) hisR ?_
  intro p e s m args below meth c s₁ Bd hml0 hP hK
  obtain ⟨rfl, hZ, hh⟩ := hP
  have hx := Bd.exec
  have hby := Bd.bytes
  have hml : c.maxLocals = 1 := hml0
  have hown : s.vm.findClass "java/util/ArrayList" = some m.cls := findClass_of_methodNamed Bd.named
  have hnm := (name_of_methodNamed Bd.named Bd.method).1
  have X0 : Stand p l e ({ frames := 0, cells := 0, slots := 0, locals := 0 } : Room) s m #[(.ref a)] below meth c s₁ [] 0 0 := Stand.of_body Bd
  have e0 : s₁.heap = h0 := by rw [← hh, Bd.state]; rfl
  have N0 := Fr.nil n0
  have K0 : Keep h0 h0 [] := Keep.refl _ _
  have pre0 : ∀ t, Steps p.tables e below (s₁.setTop (mkF m 0 #[.val (.ref a)] [])) t → Steps p.tables e below (s₁.setTop (entryFrame m #[(.ref a)] 1)) t := fun t k => castTop (ef_rm_emptyY m a) k
  obtain ⟨T1, X1, e1, st1⟩ := getF X0 hx hZ hown (host := "") (Or.inl (w_66 hw)) Via.refl e0 F3 (g := (mkF m 1 #[.val (.ref a)] [(.ref a)])) rfl rfl (hb hby d9_1)
  obtain ⟨fs, hr, hrun, hended, hW, hsame⟩ := X1.leave (v := some (.int (1 : Int32))) (fun h => by rw [Bd.returns] at h; cases h)
  refine ⟨_, _, pre0 _ ?_, hrun, hended, _, _, rfl, ?_, ⟨_, rfl⟩, hW, hsame.mono (by decide) (by decide)⟩
  · show Steps p.tables e below (s₁.setTop (mkF m 0 #[.val (.ref a)] [])) _
    refine XS.aloadN X0.here hx rfl (hb hby d9_0) rfl rfl ?_
    show Steps p.tables e below (s₁.setTop (mkF m 1 #[.val (.ref a)] [(.ref a)])) _
    refine st1 _ ?_
    show Steps p.tables e below (T1.setTop (mkF m 4 #[.val (.ref a)] [(.int (0 : Int32))])) _
    refine XS.ifNo X1.here hx rfl (hb hby d9_4) rfl ((if0 _ _).trans (teq (by decide : (0 : Int32) = (0 : Int32))).2) ?_
    show Steps p.tables e below (T1.setTop (mkF m 7 #[.val (.ref a)] [])) _
    refine XS.iconst X1.here hx rfl (hb hby d9_7) ?_
    show Steps p.tables e below (T1.setTop (mkF m 8 #[.val (.ref a)] [(.int (1 : Int32))])) _
    refine XS.goto X1.here hx rfl (pc0 := 8) (pc' := 12) rfl (hb hby d9_8) (by decide) (by decide) ?_
    show Steps p.tables e below (T1.setTop (mkF m 12 #[.val (.ref a)] [(.int (1 : Int32))])) _
    exact retN X1 hx (t := .boolean) Bd.returns (by simp) (hb hby d9_12) hr
  · show Q_emptyY Z a h0 n0 _ T1.heap _
    rw [e1]
    exact ⟨rfl, N0, K0⟩
theorem d9_11 : decode jdk_38_method_9_code 11 = .ok (.iconst 0, 1) := by decide +kernel
def Q_emptyN (Z : State) (a : Addr) (s1 : Int32) (h0 : Heap) (n0 : Nat) (v : Option Value) (h : Heap) (L : List Loc) : Prop := v = some (.int (0 : Int32)) ∧ Fr n0 L ∧ Keep h0 h []
theorem ef_rm_emptyN (m : MethodId) (x0 : Addr) : entryFrame m #[(.ref x0)] 1 = mkF m 0 #[.val (.ref x0)] [] := by first | (simp [entryFrame, mkF, argsToLocals, Value.category]; done) | rfl
set_option maxRecDepth 65536 in
set_option maxHeartbeats 40000000 in
theorem rm_emptyN (l : Launch) (Z : State) (a0 : Array Value) (hw : ∀ d ∈ tables_1, d.before a0 Z = true) (ws : List Jvm.Cond) (a : Addr) (s1 : Int32) (h0 : Heap) (n0 : Nat) (O0 : Old Z n0 h0) (F3 : Fld Z h0 a "java/util/ArrayList" "size" "I" (.int s1)) (hne : ¬ (s1 = (0 : Int32))) :
    MetFree l (⟨"java/util/ArrayList", "isEmpty", "()Z"⟩ : MethodName) (head1 (Jvm.Cond.code (⟨"java/util/ArrayList", "isEmpty", "()Z"⟩ : MethodName) jdk_38_method_9_code 1 (some .boolean) :: ws) ({ frames := 0, cells := 0, slots := 0, locals := 0 } : Room)) (fun as' U => as' = #[(.ref a)] ∧ Z.Warmed39 U.vm ∧ U.heap = h0) (fun _ _ _ _ _ => True) (fun _ U o U' => ∃ v L, o = .returned v ∧ Q_emptyN Z a s1 h0 n0 v U'.heap L ∧ FrameEnd U o U' L ({ frames := 0, cells := 0, slots := 0, locals := 0 } : Room).cells ({ frames := 0, cells := 0, slots := 0, locals := 0 } : Room).slots) := by
  refine MetFree.of_bodySF (plainFor_of_name pn_java_util_ArrayList) hisR ?_
  intro p e s m args below meth c s₁ Bd hml0 hP hK
  obtain ⟨rfl, hZ, hh⟩ := hP
  have hx := Bd.exec
  have hby := Bd.bytes
  have hml : c.maxLocals = 1 := hml0
  have hown : s.vm.findClass "java/util/ArrayList" = some m.cls := findClass_of_methodNamed Bd.named
  have hnm := (name_of_methodNamed Bd.named Bd.method).1
  have X0 : Stand p l e ({ frames := 0, cells := 0, slots := 0, locals := 0 } : Room) s m #[(.ref a)] below meth c s₁ [] 0 0 := Stand.of_body Bd
  have e0 : s₁.heap = h0 := by rw [← hh, Bd.state]; rfl
  have N0 := Fr.nil n0
  have K0 : Keep h0 h0 [] := Keep.refl _ _
  have pre0 : ∀ t, Steps p.tables e below (s₁.setTop (mkF m 0 #[.val (.ref a)] [])) t → Steps p.tables e below (s₁.setTop (entryFrame m #[(.ref a)] 1)) t := fun t k => castTop (ef_rm_emptyN m a) k
  obtain ⟨T1, X1, e1, st1⟩ := getF X0 hx hZ hown (host := "") (Or.inl (w_66 hw)) Via.refl e0 F3 (g := (mkF m 1 #[.val (.ref a)] [(.ref a)])) rfl rfl (hb hby d9_1)
  obtain ⟨fs, hr, hrun, hended, hW, hsame⟩ := X1.leave (v := some (.int (0 : Int32))) (fun h => by rw [Bd.returns] at h; cases h)
  refine ⟨_, _, pre0 _ ?_, hrun, hended, _, _, rfl, ?_, ⟨_, rfl⟩, hW, hsame.mono (by decide) (by decide)⟩
  · show Steps p.tables e below (s₁.setTop (mkF m 0 #[.val (.ref a)] [])) _
    refine XS.aloadN X0.here hx rfl (hb hby d9_0) rfl rfl ?_
    show Steps p.tables e below (s₁.setTop (mkF m 1 #[.val (.ref a)] [(.ref a)])) _
    refine st1 _ ?_
    show Steps p.tables e below (T1.setTop (mkF m 4 #[.val (.ref a)] [(.int s1)])) _
    refine XS.ifYes X1.here hx rfl (pc0 := 4) (pc' := 11) rfl (hb hby d9_4) rfl ((if0 _ _).trans (feq hne).2) (by decide) (by decide) ?_
    show Steps p.tables e below (T1.setTop (mkF m 11 #[.val (.ref a)] [])) _
    refine XS.iconst X1.here hx rfl (hb hby d9_11) ?_
    show Steps p.tables e below (T1.setTop (mkF m 12 #[.val (.ref a)] [(.int (0 : Int32))])) _
    exact retN X1 hx (t := .boolean) Bd.returns (by simp) (hb hby d9_12) hr
  · show Q_emptyN Z a s1 h0 n0 _ T1.heap _
    rw [e1]
    exact ⟨rfl, N0, K0⟩
theorem d11_0 : decode jdk_38_method_8_code 0 = .ok (.aload_n 0, 1) := by decide +kernel
theorem d11_1 : decode jdk_38_method_8_code 1 = .ok (.getfield 48, 3) := by decide +kernel
theorem d11_4 : decode jdk_38_method_8_code 4 = .ok (.ireturn, 1) := by decide +kernel
def Q_size (Z : State) (a : Addr) (s1 : Int32) (h0 : Heap) (n0 : Nat) (v : Option Value) (h : Heap) (L : List Loc) : Prop := v = some (.int s1) ∧ Fr n0 L ∧ Keep h0 h []
theorem ef_rm_size (m : MethodId) (x0 : Addr) : entryFrame m #[(.ref x0)] 1 = mkF m 0 #[.val (.ref x0)] [] := by first | (simp [entryFrame, mkF, argsToLocals, Value.category]; done) | rfl
set_option maxRecDepth 65536 in
set_option maxHeartbeats 40000000 in
theorem rm_size (l : Launch) (Z : State) (a0 : Array Value) (hw : ∀ d ∈ tables_1, d.before a0 Z = true) (ws : List Jvm.Cond) (a : Addr) (s1 : Int32) (h0 : Heap) (n0 : Nat) (O0 : Old Z n0 h0) (F3 : Fld Z h0 a "java/util/ArrayList" "size" "I" (.int s1)) :
    MetFree l (⟨"java/util/ArrayList", "size", "()I"⟩ : MethodName) (head1 (Jvm.Cond.code (⟨"java/util/ArrayList", "size", "()I"⟩ : MethodName) jdk_38_method_8_code 1 (some .int) :: ws) ({ frames := 0, cells := 0, slots := 0, locals := 0 } : Room)) (fun as' U => as' = #[(.ref a)] ∧ Z.Warmed39 U.vm ∧ U.heap = h0) (fun _ _ _ _ _ => True) (fun _ U o U' => ∃ v L, o = .returned v ∧ Q_size Z a s1 h0 n0 v U'.heap L ∧ FrameEnd U o U' L ({ frames := 0, cells := 0, slots := 0, locals := 0 } : Room).cells ({ frames := 0, cells := 0, slots := 0, locals := 0 } : Room).slots) := by
  refine MetFree.of_bodySF (plainFor_of_name pn_java_util_ArrayList) hisR ?_
  intro p e s m args below meth c s₁ Bd hml0 hP hK
  obtain ⟨rfl, hZ, hh⟩ := hP
  have hx := Bd.exec
  have hby := Bd.bytes
  have hml : c.maxLocals = 1 := hml0
  have hown : s.vm.findClass "java/util/ArrayList" = some m.cls := findClass_of_methodNamed Bd.named
  have hnm := (name_of_methodNamed Bd.named Bd.method).1
  have X0 : Stand p l e ({ frames := 0, cells := 0, slots := 0, locals := 0 } : Room) s m #[(.ref a)] below meth c s₁ [] 0 0 := Stand.of_body Bd
  have e0 : s₁.heap = h0 := by rw [← hh, Bd.state]; rfl
  have N0 := Fr.nil n0
  have K0 : Keep h0 h0 [] := Keep.refl _ _
  have pre0 : ∀ t, Steps p.tables e below (s₁.setTop (mkF m 0 #[.val (.ref a)] [])) t → Steps p.tables e below (s₁.setTop (entryFrame m #[(.ref a)] 1)) t := fun t k => castTop (ef_rm_size m a) k
  obtain ⟨T1, X1, e1, st1⟩ := getF X0 hx hZ hown (host := "") (Or.inl (w_66 hw)) Via.refl e0 F3 (g := (mkF m 1 #[.val (.ref a)] [(.ref a)])) rfl rfl (hb hby d11_1)
  obtain ⟨fs, hr, hrun, hended, hW, hsame⟩ := X1.leave (v := some (.int s1)) (fun h => by rw [Bd.returns] at h; cases h)
  refine ⟨_, _, pre0 _ ?_, hrun, hended, _, _, rfl, ?_, ⟨_, rfl⟩, hW, hsame.mono (by decide) (by decide)⟩
  · show Steps p.tables e below (s₁.setTop (mkF m 0 #[.val (.ref a)] [])) _
    refine XS.aloadN X0.here hx rfl (hb hby d11_0) rfl rfl ?_
    show Steps p.tables e below (s₁.setTop (mkF m 1 #[.val (.ref a)] [(.ref a)])) _
    refine st1 _ ?_
    show Steps p.tables e below (T1.setTop (mkF m 4 #[.val (.ref a)] [(.int s1)])) _
    exact retI X1 hx Bd.returns (hb hby d11_4) hr
  · show Q_size Z a s1 h0 n0 _ T1.heap _
    rw [e1]
    exact ⟨rfl, N0, K0⟩
theorem d22_0 : decode jdk_41_method_11_code 0 = .ok (.iload_n 0, 1) := by decide +kernel
theorem d22_1 : decode jdk_41_method_11_code 1 = .ok (.ifCond .lt 8, 3) := by decide +kernel
theorem d22_4 : decode jdk_41_method_11_code 4 = .ok (.iload_n 0, 1) := by decide +kernel
theorem d22_5 : decode jdk_41_method_11_code 5 = .ok (.iload_n 1, 1) := by decide +kernel
theorem d22_6 : decode jdk_41_method_11_code 6 = .ok (.if_icmp .lt 10, 3) := by decide +kernel
theorem d22_16 : decode jdk_41_method_11_code 16 = .ok (.iload_n 0, 1) := by decide +kernel
theorem d22_17 : decode jdk_41_method_11_code 17 = .ok (.ireturn, 1) := by decide +kernel
def Q_pci (Z : State) (p1 : Int32) (p2 : Int32) (h0 : Heap) (n0 : Nat) (v : Option Value) (h : Heap) (L : List Loc) : Prop := v = some (.int p1) ∧ Fr n0 L ∧ Keep h0 h []
theorem pn_jdk_internal_util_Preconditions : plainName "jdk/internal/util/Preconditions" = true := by first | (simp [plainName, overriddenIn]; done) | decide +kernel
theorem ef_rm_pci (m : MethodId) (x0 : Int32) (x1 : Int32) : entryFrame m #[(.int x0), (.int x1), .null] 3 = mkF m 0 #[.val (.int x0), .val (.int x1), .val .null] [] := by first | (simp [entryFrame, mkF, argsToLocals, Value.category]; done) | rfl
set_option maxRecDepth 65536 in
set_option maxHeartbeats 40000000 in
theorem rm_pci (l : Launch) (Z : State) (a0 : Array Value) (hw : ∀ d ∈ tables_1, d.before a0 Z = true) (ws : List Jvm.Cond) (p1 : Int32) (p2 : Int32) (h0 : Heap) (n0 : Nat) (O0 : Old Z n0 h0) (h1 : ¬ (p1 < (0 : Int32))) (h2 : p1 < p2) :
    MetFree l (⟨"jdk/internal/util/Preconditions", "checkIndex", "(IILjava/util/function/BiFunction;)I"⟩ : MethodName) (head1 (Jvm.Cond.code (⟨"jdk/internal/util/Preconditions", "checkIndex", "(IILjava/util/function/BiFunction;)I"⟩ : MethodName) jdk_41_method_11_code 3 (some .int) :: ws) ({ frames := 0, cells := 0, slots := 0, locals := 0 } : Room)) (fun as' U => as' = #[(.int p1), (.int p2), .null] ∧ Z.Warmed39 U.vm ∧ U.heap = h0) (fun _ _ _ _ _ => True) (fun _ U o U' => ∃ v L, o = .returned v ∧ Q_pci Z p1 p2 h0 n0 v U'.heap L ∧ FrameEnd U o U' L ({ frames := 0, cells := 0, slots := 0, locals := 0 } : Room).cells ({ frames := 0, cells := 0, slots := 0, locals := 0 } : Room).slots) := by
  refine MetFree.of_bodySF (plainFor_of_name pn_jdk_internal_util_Preconditions) hisR ?_
  intro p e s m args below meth c s₁ Bd hml0 hP hK
  obtain ⟨rfl, hZ, hh⟩ := hP
  have hx := Bd.exec
  have hby := Bd.bytes
  have hml : c.maxLocals = 3 := hml0
  have hown : s.vm.findClass "jdk/internal/util/Preconditions" = some m.cls := findClass_of_methodNamed Bd.named
  have hnm := (name_of_methodNamed Bd.named Bd.method).1
  have X0 : Stand p l e ({ frames := 0, cells := 0, slots := 0, locals := 0 } : Room) s m #[(.int p1), (.int p2), .null] below meth c s₁ [] 0 0 := Stand.of_body Bd
  have e0 : s₁.heap = h0 := by rw [← hh, Bd.state]; rfl
  have N0 := Fr.nil n0
  have K0 : Keep h0 h0 [] := Keep.refl _ _
  have pre0 : ∀ t, Steps p.tables e below (s₁.setTop (mkF m 0 #[.val (.int p1), .val (.int p2), .val .null] [])) t → Steps p.tables e below (s₁.setTop (entryFrame m #[(.int p1), (.int p2), .null] 3)) t := fun t k => castTop (ef_rm_pci m p1 p2) k
  obtain ⟨fs, hr, hrun, hended, hW, hsame⟩ := X0.leave (v := some (.int p1)) (fun h => by rw [Bd.returns] at h; cases h)
  refine ⟨_, _, pre0 _ ?_, hrun, hended, _, _, rfl, ?_, ⟨_, rfl⟩, hW, hsame.mono (by decide) (by decide)⟩
  · show Steps p.tables e below (s₁.setTop (mkF m 0 #[.val (.int p1), .val (.int p2), .val .null] [])) _
    refine XS.iloadN X0.here hx rfl (hb hby d22_0) rfl ?_
    show Steps p.tables e below (s₁.setTop (mkF m 1 #[.val (.int p1), .val (.int p2), .val .null] [(.int p1)])) _
    refine XS.ifNo X0.here hx rfl (hb hby d22_1) rfl ((if0 _ _).trans (flt h1).1) ?_
    show Steps p.tables e below (s₁.setTop (mkF m 4 #[.val (.int p1), .val (.int p2), .val .null] [])) _
    refine XS.iloadN X0.here hx rfl (hb hby d22_4) rfl ?_
    show Steps p.tables e below (s₁.setTop (mkF m 5 #[.val (.int p1), .val (.int p2), .val .null] [(.int p1)])) _
    refine XS.iloadN X0.here hx rfl (hb hby d22_5) rfl ?_
    show Steps p.tables e below (s₁.setTop (mkF m 6 #[.val (.int p1), .val (.int p2), .val .null] [(.int p2), (.int p1)])) _
    refine XS.icmpYes X0.here hx rfl (pc0 := 6) (pc' := 16) rfl (hb hby d22_6) rfl (tlt h2).1 (by decide) (by decide) ?_
    show Steps p.tables e below (s₁.setTop (mkF m 16 #[.val (.int p1), .val (.int p2), .val .null] [])) _
    refine XS.iloadN X0.here hx rfl (hb hby d22_16) rfl ?_
    show Steps p.tables e below (s₁.setTop (mkF m 17 #[.val (.int p1), .val (.int p2), .val .null] [(.int p1)])) _
    exact retI X0 hx Bd.returns (hb hby d22_17) hr
  · show Q_pci Z p1 p2 h0 n0 _ s₁.heap _
    rw [e0]
    exact ⟨rfl, N0, K0⟩
theorem d21_0 : decode jdk_31_method_17_code 0 = .ok (.iload_n 0, 1) := by decide +kernel
theorem d21_1 : decode jdk_31_method_17_code 1 = .ok (.iload_n 1, 1) := by decide +kernel
theorem d21_2 : decode jdk_31_method_17_code 2 = .ok (.aconst_null, 1) := by decide +kernel
theorem pd_6 : parseMethodDescriptor "(IILjava/util/function/BiFunction;)I" = some ⟨[.int, .int, (.object "java/util/function/BiFunction")], some .int⟩ := by decide +kernel
theorem d21_3 : decode jdk_31_method_17_code 3 = .ok (.invokestatic 105, 3) := by decide +kernel
theorem d21_6 : decode jdk_31_method_17_code 6 = .ok (.ireturn, 1) := by decide +kernel
def Q_oci (Z : State) (p1 : Int32) (p2 : Int32) (h0 : Heap) (n0 : Nat) (v : Option Value) (h : Heap) (L : List Loc) : Prop := v = some (.int p1) ∧ Fr n0 L ∧ Keep h0 h []
theorem pn_java_util_Objects : plainName "java/util/Objects" = true := by first | (simp [plainName, overriddenIn]; done) | decide +kernel
theorem ef_rm_oci (m : MethodId) (x0 : Int32) (x1 : Int32) : entryFrame m #[(.int x0), (.int x1)] 2 = mkF m 0 #[.val (.int x0), .val (.int x1)] [] := by first | (simp [entryFrame, mkF, argsToLocals, Value.category]; done) | rfl
set_option maxRecDepth 65536 in
set_option maxHeartbeats 40000000 in
theorem rm_oci (l : Launch) (Z : State) (a0 : Array Value) (hw : ∀ d ∈ tables_1, d.before a0 Z = true) (ws : List Jvm.Cond) (p1 : Int32) (p2 : Int32) (h0 : Heap) (n0 : Nat) (O0 : Old Z n0 h0) (h1 : ¬ (p1 < (0 : Int32))) (h2 : p1 < p2) :
    MetFree l (⟨"java/util/Objects", "checkIndex", "(II)I"⟩ : MethodName) (head1 (Jvm.Cond.code (⟨"java/util/Objects", "checkIndex", "(II)I"⟩ : MethodName) jdk_31_method_17_code 2 (some .int) :: ws) ({ frames := 1, cells := 0, slots := 0, locals := 14 } : Room)) (fun as' U => as' = #[(.int p1), (.int p2)] ∧ Z.Warmed39 U.vm ∧ U.heap = h0) (fun _ _ _ _ _ => True) (fun _ U o U' => ∃ v L, o = .returned v ∧ Q_oci Z p1 p2 h0 n0 v U'.heap L ∧ FrameEnd U o U' L ({ frames := 1, cells := 0, slots := 0, locals := 14 } : Room).cells ({ frames := 1, cells := 0, slots := 0, locals := 14 } : Room).slots) := by
  refine MetFree.of_bodySF (plainFor_of_name pn_java_util_Objects) hisR ?_
  intro p e s m args below meth c s₁ Bd hml0 hP hK
  obtain ⟨rfl, hZ, hh⟩ := hP
  have hx := Bd.exec
  have hby := Bd.bytes
  have hml : c.maxLocals = 2 := hml0
  have hown : s.vm.findClass "java/util/Objects" = some m.cls := findClass_of_methodNamed Bd.named
  have hnm := (name_of_methodNamed Bd.named Bd.method).1
  have X0 : Stand p l e ({ frames := 1, cells := 0, slots := 0, locals := 14 } : Room) s m #[(.int p1), (.int p2)] below meth c s₁ [] 0 0 := Stand.of_body Bd
  have e0 : s₁.heap = h0 := by rw [← hh, Bd.state]; rfl
  have N0 := Fr.nil n0
  have K0 : Keep h0 h0 [] := Keep.refl _ _
  have pre0 : ∀ t, Steps p.tables e below (s₁.setTop (mkF m 0 #[.val (.int p1), .val (.int p2)] [])) t → Steps p.tables e below (s₁.setTop (entryFrame m #[(.int p1), (.int p2)] 2)) t := fun t k => castTop (ef_rm_oci m p1 p2) k
  obtain ⟨_, _, ⟨T3, Lo3, kk3, nn3⟩, -, X3, ⟨Lc3, hQ3, ll3, yy3, zz3⟩, st3⟩ := Jvm.LawKit.callS X0 hx (y := (⟨"jdk/internal/util/Preconditions", "checkIndex", "(IILjava/util/function/BiFunction;)I"⟩ : MethodName)) hown (mvT hZ (w_141 hw)) (mvT hZ (w_142 hw)) (mvT hZ (w_143 hw)) (mvT hZ (w_144 hw)) (by decide) (backOf (W := 0) (rm_pci l Z a0 hw [] p1 p2 h0 n0 O0 h1 h2) hZ (w_144 hw) (w_143 hw) (by decide) (by decide)) (g := (mkF m 3 #[.val (.int p1), .val (.int p2)] [.null, (.int p2), (.int p1)])) rfl (by rw [hml]; rfl) (argsL := [(.int p1), (.int p2), .null]) (rest := []) (lenOf pd_6 rfl) rfl (by show 2 * 0 + _ ≤ _; exact Nat.le_of_eq rfl) (hb hby d21_3) (fun _ _ => ⟨rfl, e0, (by decide : 0 + 0 ≤ _), (by decide : 0 + 0 ≤ _)⟩)
  dsimp only [Pt.U, Pt.locs, Pt.cells, Pt.slots] at X3 ll3 yy3 zz3 st3 hQ3
  subst ll3 yy3 zz3
  obtain ⟨rfl, N3q, K3q⟩ := hQ3
  have N3 := Fr.app N0 N3q
  have f1 : Keep h0 T3.heap [] := K0.trans K3q all0
  have f2 : Old Z n0 T3.heap := O0.keep K3q all0
  obtain ⟨fs, hr, hrun, hended, hW, hsame⟩ := X3.leave (v := some (.int p1)) (fun h => by rw [Bd.returns] at h; cases h)
  refine ⟨_, _, pre0 _ ?_, hrun, hended, _, _, rfl, ?_, ⟨_, rfl⟩, hW, hsame.mono (by decide) (by decide)⟩
  · show Steps p.tables e below (s₁.setTop (mkF m 0 #[.val (.int p1), .val (.int p2)] [])) _
    refine XS.iloadN X0.here hx rfl (hb hby d21_0) rfl ?_
    show Steps p.tables e below (s₁.setTop (mkF m 1 #[.val (.int p1), .val (.int p2)] [(.int p1)])) _
    refine XS.iloadN X0.here hx rfl (hb hby d21_1) rfl ?_
    show Steps p.tables e below (s₁.setTop (mkF m 2 #[.val (.int p1), .val (.int p2)] [(.int p2), (.int p1)])) _
    refine XS.aconstNull X0.here hx rfl (hb hby d21_2) ?_
    show Steps p.tables e below (s₁.setTop (mkF m 3 #[.val (.int p1), .val (.int p2)] [.null, (.int p2), (.int p1)])) _
    refine st3 _ ?_
    show Steps p.tables e below (T3.setTop (mkF m 6 #[.val (.int p1), .val (.int p2)] [(.int p1)])) _
    exact retI X3 hx Bd.returns (hb hby d21_6) hr
  · show Q_oci Z p1 p2 h0 n0 _ T3.heap _
    exact ⟨rfl, N3, f1⟩
theorem d23_0 : decode jdk_38_method_18_code 0 = .ok (.aload_n 0, 1) := by decide +kernel
theorem d23_1 : decode jdk_38_method_18_code 1 = .ok (.getfield 9, 3) := by decide +kernel
theorem d23_4 : decode jdk_38_method_18_code 4 = .ok (.iload_n 1, 1) := by decide +kernel
theorem d23_5 : decode jdk_38_method_18_code 5 = .ok (.aaload, 1) := by decide +kernel
theorem d23_6 : decode jdk_38_method_18_code 6 = .ok (.areturn, 1) := by decide +kernel
def Q_elem (Z : State) (a : Addr) (d : Addr) (kd : ClassId) (vs : List Value) (x0 : Addr) (h0 : Heap) (n0 : Nat) (v : Option Value) (h : Heap) (L : List Loc) : Prop := v = some (.ref x0) ∧ Fr n0 L ∧ Keep h0 h []
theorem ef_rm_elem (m : MethodId) (x0 : Addr) (x1 : Int32) : entryFrame m #[(.ref x0), (.int x1)] 2 = mkF m 0 #[.val (.ref x0), .val (.int x1)] [] := by first | (simp [entryFrame, mkF, argsToLocals, Value.category]; done) | rfl
set_option maxRecDepth 65536 in
set_option maxHeartbeats 40000000 in
theorem rm_elem (l : Launch) (Z : State) (a0 : Array Value) (hw : ∀ d ∈ tables_1, d.before a0 Z = true) (ws : List Jvm.Cond) (a : Addr) (d : Addr) (kd : ClassId) (vs : List Value) (x0 : Addr) (h0 : Heap) (n0 : Nat) (O0 : Old Z n0 h0) (F2 : Fld Z h0 a "java/util/ArrayList" "elementData" "[Ljava/lang/Object;" (.ref d)) (V_d : Arv Z h0 d kd (.object "java/lang/Object") (10 : Int32) vs .null) (hq : vs.getD ((0 : Int32).toNatClampNeg) .null = (.ref x0)) :
    MetFree l (⟨"java/util/ArrayList", "elementData", "(I)Ljava/lang/Object;"⟩ : MethodName) (head1 (Jvm.Cond.code (⟨"java/util/ArrayList", "elementData", "(I)Ljava/lang/Object;"⟩ : MethodName) jdk_38_method_18_code 2 (some (.object "java/lang/Object")) :: ws) ({ frames := 0, cells := 0, slots := 0, locals := 0 } : Room)) (fun as' U => as' = #[(.ref a), (.int (0 : Int32))] ∧ Z.Warmed39 U.vm ∧ U.heap = h0) (fun _ _ _ _ _ => True) (fun _ U o U' => ∃ v L, o = .returned v ∧ Q_elem Z a d kd vs x0 h0 n0 v U'.heap L ∧ FrameEnd U o U' L ({ frames := 0, cells := 0, slots := 0, locals := 0 } : Room).cells ({ frames := 0, cells := 0, slots := 0, locals := 0 } : Room).slots) := by
  refine MetFree.of_bodySF (plainFor_of_name pn_java_util_ArrayList) hisR ?_
  intro p e s m args below meth c s₁ Bd hml0 hP hK
  obtain ⟨rfl, hZ, hh⟩ := hP
  have hx := Bd.exec
  have hby := Bd.bytes
  have hml : c.maxLocals = 2 := hml0
  have hown : s.vm.findClass "java/util/ArrayList" = some m.cls := findClass_of_methodNamed Bd.named
  have hnm := (name_of_methodNamed Bd.named Bd.method).1
  have X0 : Stand p l e ({ frames := 0, cells := 0, slots := 0, locals := 0 } : Room) s m #[(.ref a), (.int (0 : Int32))] below meth c s₁ [] 0 0 := Stand.of_body Bd
  have e0 : s₁.heap = h0 := by rw [← hh, Bd.state]; rfl
  have N0 := Fr.nil n0
  have K0 : Keep h0 h0 [] := Keep.refl _ _
  have pre0 : ∀ t, Steps p.tables e below (s₁.setTop (mkF m 0 #[.val (.ref a), .val (.int (0 : Int32))] [])) t → Steps p.tables e below (s₁.setTop (entryFrame m #[(.ref a), (.int (0 : Int32))] 2)) t := fun t k => castTop (ef_rm_elem m a ((0 : Int32))) k
  obtain ⟨T1, X1, e1, st1⟩ := getF X0 hx hZ hown (host := "") (Or.inl (w_34 hw)) Via.refl e0 F2 (g := (mkF m 1 #[.val (.ref a), .val (.int (0 : Int32))] [(.ref a)])) rfl rfl (hb hby d23_1)
  obtain ⟨cl5, Ar5, qq5, Sz5, NN5, HH5, GG5⟩ := (id V_d)
  have hin5 : ¬ ((0 : Int32) < 0 ∨ cl5.slots.size ≤ ((0 : Int32)).toNatClampNeg) := inb_of Sz5 ⟨by decide, by decide⟩
  have hat5 : cl5.slots[((0 : Int32)).toNatClampNeg]? = some (.ref x0) := HH5.at hin5 hq
  obtain ⟨fs, hr, hrun, hended, hW, hsame⟩ := X1.leave (v := some (.ref x0)) (fun h => by rw [Bd.returns] at h; cases h)
  refine ⟨_, _, pre0 _ ?_, hrun, hended, _, _, rfl, ?_, ⟨_, rfl⟩, hW, hsame.mono (by decide) (by decide)⟩
  · show Steps p.tables e below (s₁.setTop (mkF m 0 #[.val (.ref a), .val (.int (0 : Int32))] [])) _
    refine XS.aloadN X0.here hx rfl (hb hby d23_0) rfl rfl ?_
    show Steps p.tables e below (s₁.setTop (mkF m 1 #[.val (.ref a), .val (.int (0 : Int32))] [(.ref a)])) _
    refine st1 _ ?_
    show Steps p.tables e below (T1.setTop (mkF m 4 #[.val (.ref a), .val (.int (0 : Int32))] [(.ref d)])) _
    refine XS.iloadN X1.here hx rfl (hb hby d23_4) rfl ?_
    show Steps p.tables e below (T1.setTop (mkF m 5 #[.val (.ref a), .val (.int (0 : Int32))] [(.int (0 : Int32)), (.ref d)])) _
    refine X1.aaload hx (j := (0 : Int32)) (v := (.ref x0)) (by rw [e1]; exact Ar5.1) (State.isArrayOf_alike hZ.alike Ar5.2.1) rfl Ar5.2.2 hin5 hat5 (g := (mkF m 5 #[.val (.ref a), .val (.int (0 : Int32))] [(.int (0 : Int32)), (.ref d)])) rfl rfl (hb hby d23_5) _ ?_
    show Steps p.tables e below (T1.setTop (mkF m 6 #[.val (.ref a), .val (.int (0 : Int32))] [(.ref x0)])) _
    jvm_step X1.here [X1.here.top, hx, (hb hby d23_6), X1.method', Bd.returns, Value.isRef, FieldType.isReference]
    first | (intro acts; rw [hr _ acts rfl rfl rfl]) | rw [hr _ _ rfl rfl rfl]
    exact Steps.refl _
  · show Q_elem Z a d kd vs x0 h0 n0 _ T1.heap _
    rw [e1]
    exact ⟨rfl, N0, K0⟩
theorem d20_0 : decode jdk_38_method_20_code 0 = .ok (.iload_n 1, 1) := by decide +kernel
theorem d20_1 : decode jdk_38_method_20_code 1 = .ok (.aload_n 0, 1) := by decide +kernel
theorem d20_2 : decode jdk_38_method_20_code 2 = .ok (.getfield 48, 3) := by decide +kernel
theorem d20_5 : decode jdk_38_method_20_code 5 = .ok (.invokestatic 118, 3) := by decide +kernel
theorem d20_8 : decode jdk_38_method_20_code 8 = .ok (.pop, 1) := by decide +kernel
theorem d20_9 : decode jdk_38_method_20_code 9 = .ok (.aload_n 0, 1) := by decide +kernel
theorem d20_10 : decode jdk_38_method_20_code 10 = .ok (.iload_n 1, 1) := by decide +kernel
theorem pd_7 : parseMethodDescriptor "(I)Ljava/lang/Object;" = some ⟨[.int], some (.object "java/lang/Object")⟩ := by decide +kernel
theorem d20_11 : decode jdk_38_method_20_code 11 = .ok (.invokevirtual 123, 3) := by decide +kernel
theorem d20_14 : decode jdk_38_method_20_code 14 = .ok (.areturn, 1) := by decide +kernel
def Q_get (Z : State) (a : Addr) (s1 : Int32) (d : Addr) (kd : ClassId) (vs : List Value) (x0 : Addr) (h0 : Heap) (n0 : Nat) (v : Option Value) (h : Heap) (L : List Loc) : Prop := v = some (.ref x0) ∧ Fr n0 L ∧ Keep h0 h []
theorem ef_rm_get (m : MethodId) (x0 : Addr) (x1 : Int32) : entryFrame m #[(.ref x0), (.int x1)] 2 = mkF m 0 #[.val (.ref x0), .val (.int x1)] [] := by first | (simp [entryFrame, mkF, argsToLocals, Value.category]; done) | rfl
set_option maxRecDepth 65536 in
set_option maxHeartbeats 40000000 in
theorem rm_get (l : Launch) (Z : State) (a0 : Array Value) (hw : ∀ d ∈ tables_1, d.before a0 Z = true) (ws : List Jvm.Cond) (a : Addr) (s1 : Int32) (d : Addr) (kd : ClassId) (vs : List Value) (x0 : Addr) (h0 : Heap) (n0 : Nat) (O0 : Old Z n0 h0) (E_a : Exa Z h0 a "java/util/ArrayList") (F3 : Fld Z h0 a "java/util/ArrayList" "size" "I" (.int s1)) (F2 : Fld Z h0 a "java/util/ArrayList" "elementData" "[Ljava/lang/Object;" (.ref d)) (V_d : Arv Z h0 d kd (.object "java/lang/Object") (10 : Int32) vs .null) (hq : vs.getD ((0 : Int32).toNatClampNeg) .null = (.ref x0)) (h2 : (0 : Int32) < s1) :
    MetFree l (⟨"java/util/ArrayList", "get", "(I)Ljava/lang/Object;"⟩ : MethodName) (head1 (Jvm.Cond.code (⟨"java/util/ArrayList", "get", "(I)Ljava/lang/Object;"⟩ : MethodName) jdk_38_method_20_code 2 (some (.object "java/lang/Object")) :: ws) ({ frames := 2, cells := 0, slots := 0, locals := 27 } : Room)) (fun as' U => as' = #[(.ref a), (.int (0 : Int32))] ∧ Z.Warmed39 U.vm ∧ U.heap = h0) (fun _ _ _ _ _ => True) (fun _ U o U' => ∃ v L, o = .returned v ∧ Q_get Z a s1 d kd vs x0 h0 n0 v U'.heap L ∧ FrameEnd U o U' L ({ frames := 2, cells := 0, slots := 0, locals := 27 } : Room).cells ({ frames := 2, cells := 0, slots := 0, locals := 27 } : Room).slots) := by
  refine MetFree.of_bodySF (plainFor_of_name pn_java_util_ArrayList) hisR ?_
  intro p e s m args below meth c s₁ Bd hml0 hP hK
  obtain ⟨rfl, hZ, hh⟩ := hP
  have hx := Bd.exec
  have hby := Bd.bytes
  have hml : c.maxLocals = 2 := hml0
  have hown : s.vm.findClass "java/util/ArrayList" = some m.cls := findClass_of_methodNamed Bd.named
  have hnm := (name_of_methodNamed Bd.named Bd.method).1
  have X0 : Stand p l e ({ frames := 2, cells := 0, slots := 0, locals := 27 } : Room) s m #[(.ref a), (.int (0 : Int32))] below meth c s₁ [] 0 0 := Stand.of_body Bd
  have e0 : s₁.heap = h0 := by rw [← hh, Bd.state]; rfl
  have N0 := Fr.nil n0
  have K0 : Keep h0 h0 [] := Keep.refl _ _
  have pre0 : ∀ t, Steps p.tables e below (s₁.setTop (mkF m 0 #[.val (.ref a), .val (.int (0 : Int32))] [])) t → Steps p.tables e below (s₁.setTop (entryFrame m #[(.ref a), (.int (0 : Int32))] 2)) t := fun t k => castTop (ef_rm_get m a ((0 : Int32))) k
  obtain ⟨T2, X2, e2, st2⟩ := getF X0 hx hZ hown (host := "") (Or.inl (w_66 hw)) Via.refl e0 F3 (g := (mkF m 2 #[.val (.ref a), .val (.int (0 : Int32))] [(.ref a), (.int (0 : Int32))])) rfl rfl (hb hby d20_2)
  obtain ⟨_, _, ⟨T5, Lo5, kk5, nn5⟩, -, X5, ⟨Lc5, hQ5, ll5, yy5, zz5⟩, st5⟩ := Jvm.LawKit.callS X2 hx (y := (⟨"java/util/Objects", "checkIndex", "(II)I"⟩ : MethodName)) hown (mvT hZ (w_137 hw)) (mvT hZ (w_138 hw)) (mvT hZ (w_139 hw)) (mvT hZ (w_140 hw)) (by decide) (backOf (W := 0) (rm_oci l Z a0 hw [] ((0 : Int32)) s1 h0 n0 O0 (by first | rfl | decide | assumption) h2) hZ (w_140 hw) (w_139 hw) (by decide) (by decide)) (g := (mkF m 5 #[.val (.ref a), .val (.int (0 : Int32))] [(.int s1), (.int (0 : Int32))])) rfl (by rw [hml]; rfl) (argsL := [(.int (0 : Int32)), (.int s1)]) (rest := []) (lenOf pd_2 rfl) rfl (by show 2 * 0 + _ ≤ _; exact Nat.le_of_eq rfl) (hb hby d20_5) (fun _ _ => ⟨rfl, e2, (by decide : 0 + 0 ≤ _), (by decide : 0 + 0 ≤ _)⟩)
  dsimp only [Pt.U, Pt.locs, Pt.cells, Pt.slots] at X5 ll5 yy5 zz5 st5 hQ5
  subst ll5 yy5 zz5
  obtain ⟨rfl, N5q, K5q⟩ := hQ5
  have N5 := Fr.app N0 N5q
  have f1 : Keep h0 T5.heap [] := K0.trans K5q all0
  have f2 : Old Z n0 T5.heap := O0.keep K5q all0
  have f3 : Fld Z T5.heap a "java/util/ArrayList" "elementData" "[Ljava/lang/Object;" (.ref d) := F2.keep K5q nin0
  have f4 : Arv Z T5.heap d kd (.object "java/lang/Object") (10 : Int32) vs .null := V_d.keep K5q nin0
  have f5 : Exa Z T5.heap a "java/util/ArrayList" := E_a.keep K5q
  obtain ⟨cq11, kq11, q11a, q11b, q11c⟩ := isOf hZ rfl f5
  obtain ⟨_, _, ⟨T11, Lo11, kk11, nn11⟩, -, X11, ⟨Lc11, hQ11, ll11, yy11, zz11⟩, st11⟩ := X5.virtualBack hx (y := (⟨"java/util/ArrayList", "elementData", "(I)Ljava/lang/Object;"⟩ : MethodName)) (z := (⟨"java/util/ArrayList", "elementData", "(I)Ljava/lang/Object;"⟩ : MethodName)) hown (mvT hZ (w_145 hw)) (mvT hZ (w_146 hw)) (notFace_of_selects (args := #[]) (mvT hZ (w_148 hw))) (mvT hZ (w_148 hw)) (mvT hZ (w_147 hw)) (by decide) (backOf (W := 0) (rm_elem l Z a0 hw [] a d kd vs x0 T5.heap n0 f2 f3 f4 hq) hZ (w_149 hw) (w_12 hw) (by decide) (by decide)) q11a q11c (g := (mkF m 11 #[.val (.ref a), .val (.int (0 : Int32))] [(.int (0 : Int32)), (.ref a)])) rfl (by rw [hml]; rfl) (Steps.refl _) (argsL := [(.int (0 : Int32))]) (rest := []) (lenOf pd_7 rfl) rfl (by show 2 * 0 + _ ≤ _; exact Nat.le_of_eq rfl) (hb hby d20_11) (fun _ _ => ⟨rfl, rfl, (by decide : 0 + 0 ≤ _), (by decide : 0 + 0 ≤ _)⟩)
  dsimp only [Pt.U, Pt.locs, Pt.cells, Pt.slots] at X11 ll11 yy11 zz11 st11 hQ11
  subst ll11 yy11 zz11
  obtain ⟨rfl, N11q, K11q⟩ := hQ11
  have N11 := Fr.app N5 N11q
  have f6 : Keep h0 T11.heap [] := f1.trans K11q all0
  have f7 : Old Z n0 T11.heap := f2.keep K11q all0
  obtain ⟨fs, hr, hrun, hended, hW, hsame⟩ := X11.leave (v := some (.ref x0)) (fun h => by rw [Bd.returns] at h; cases h)
  refine ⟨_, _, pre0 _ ?_, hrun, hended, _, _, rfl, ?_, ⟨_, rfl⟩, hW, hsame.mono (by decide) (by decide)⟩
  · show Steps p.tables e below (s₁.setTop (mkF m 0 #[.val (.ref a), .val (.int (0 : Int32))] [])) _
    refine XS.iloadN X0.here hx rfl (hb hby d20_0) rfl ?_
    show Steps p.tables e below (s₁.setTop (mkF m 1 #[.val (.ref a), .val (.int (0 : Int32))] [(.int (0 : Int32))])) _
    refine XS.aloadN X0.here hx rfl (hb hby d20_1) rfl rfl ?_
    show Steps p.tables e below (s₁.setTop (mkF m 2 #[.val (.ref a), .val (.int (0 : Int32))] [(.ref a), (.int (0 : Int32))])) _
    refine st2 _ ?_
    show Steps p.tables e below (T2.setTop (mkF m 5 #[.val (.ref a), .val (.int (0 : Int32))] [(.int s1), (.int (0 : Int32))])) _
    refine st5 _ ?_
    show Steps p.tables e below (T5.setTop (mkF m 8 #[.val (.ref a), .val (.int (0 : Int32))] [(.int (0 : Int32))])) _
    refine XS.pop X5.here hx rfl (hb hby d20_8) rfl rfl ?_
    show Steps p.tables e below (T5.setTop (mkF m 9 #[.val (.ref a), .val (.int (0 : Int32))] [])) _
    refine XS.aloadN X5.here hx rfl (hb hby d20_9) rfl rfl ?_
    show Steps p.tables e below (T5.setTop (mkF m 10 #[.val (.ref a), .val (.int (0 : Int32))] [(.ref a)])) _
    refine XS.iloadN X5.here hx rfl (hb hby d20_10) rfl ?_
    show Steps p.tables e below (T5.setTop (mkF m 11 #[.val (.ref a), .val (.int (0 : Int32))] [(.int (0 : Int32)), (.ref a)])) _
    refine st11.trans ?_
    show Steps p.tables e below (T11.setTop (mkF m 14 #[.val (.ref a), .val (.int (0 : Int32))] [(.ref x0)])) _
    jvm_step X11.here [X11.here.top, hx, (hb hby d20_14), X11.method', Bd.returns, Value.isRef, FieldType.isReference]
    first | (intro acts; rw [hr _ acts rfl rfl rfl]) | rw [hr _ _ rfl rfl rfl]
    exact Steps.refl _
  · show Q_get Z a s1 d kd vs x0 h0 n0 _ T11.heap _
    exact ⟨rfl, N11, f6⟩
theorem d7_0 : decode jdk_30_method_1_code 0 = .ok (.aload_n 0, 1) := by decide +kernel
theorem d7_1 : decode jdk_30_method_1_code 1 = .ok (.invokespecial 1, 3) := by decide +kernel
theorem d7_4 : decode jdk_30_method_1_code 4 = .ok (.return_, 1) := by decide +kernel
def Q_recInit (Z : State) (a : Addr) (h0 : Heap) (n0 : Nat) (v : Option Value) (h : Heap) (L : List Loc) : Prop := v = none ∧ Fr n0 L ∧ Keep h0 h []
theorem pn_java_lang_Record : plainName "java/lang/Record" = true := by first | (simp [plainName, overriddenIn]; done) | decide +kernel
theorem ef_rm_recInit (m : MethodId) (x0 : Addr) : entryFrame m #[(.ref x0)] 1 = mkF m 0 #[.val (.ref x0)] [] := by first | (simp [entryFrame, mkF, argsToLocals, Value.category]; done) | rfl
set_option maxRecDepth 65536 in
set_option maxHeartbeats 40000000 in
theorem rm_recInit (l : Launch) (Z : State) (a0 : Array Value) (hw : ∀ d ∈ tables_1, d.before a0 Z = true) (ws : List Jvm.Cond) (a : Addr) (h0 : Heap) (n0 : Nat) (O0 : Old Z n0 h0) :
    MetFree l (⟨"java/lang/Record", "<init>", "()V"⟩ : MethodName) (head1 (Jvm.Cond.code (⟨"java/lang/Record", "<init>", "()V"⟩ : MethodName) jdk_30_method_1_code 1 none :: ws) ({ frames := 1, cells := 0, slots := 0, locals := 12 } : Room)) (fun as' U => as' = #[(.ref a)] ∧ Z.Warmed39 U.vm ∧ U.heap = h0) (fun _ _ _ _ _ => True) (fun _ U o U' => ∃ v L, o = .returned v ∧ Q_recInit Z a h0 n0 v U'.heap L ∧ FrameEnd U o U' L ({ frames := 1, cells := 0, slots := 0, locals := 12 } : Room).cells ({ frames := 1, cells := 0, slots := 0, locals := 12 } : Room).slots) := by
  refine MetFree.of_bodySF (plainFor_of_name pn_java_lang_Record) hisR ?_
  intro p e s m args below meth c s₁ Bd hml0 hP hK
  obtain ⟨rfl, hZ, hh⟩ := hP
  have hx := Bd.exec
  have hby := Bd.bytes
  have hml : c.maxLocals = 1 := hml0
  have hown : s.vm.findClass "java/lang/Record" = some m.cls := findClass_of_methodNamed Bd.named
  have hnm := (name_of_methodNamed Bd.named Bd.method).1
  have X0 : Stand p l e ({ frames := 1, cells := 0, slots := 0, locals := 12 } : Room) s m #[(.ref a)] below meth c s₁ [] 0 0 := Stand.of_body Bd
  have e0 : s₁.heap = h0 := by rw [← hh, Bd.state]; rfl
  have N0 := Fr.nil n0
  have K0 : Keep h0 h0 [] := Keep.refl _ _
  have pre0 : ∀ t, Steps p.tables e below (s₁.setTop (mkF m 0 #[.val (.ref a)] [])) t → Steps p.tables e below (s₁.setTop (entryFrame m #[(.ref a)] 1)) t := fun t k => castTop (ef_rm_recInit m a) k
  obtain ⟨T1, X1, e1, st1⟩ := initO X0 hx hZ hown (w_47 hw) (w_29 hw) (w_30 hw) e0 (g := (mkF m 1 #[.val (.ref a)] [(.ref a)])) rfl (by rw [hml]; rfl) rfl (hb hby d7_1) (by decide) (W := 0) (by show 2 * 0 + _ ≤ _; exact Nat.le_of_eq rfl) (by decide)
  obtain ⟨fs, hr, hrun, hended, hW, hsame⟩ := X1.leave (v := none) (fun _ => rfl)
  refine ⟨_, _, pre0 _ ?_, hrun, hended, _, _, rfl, ?_, ⟨_, rfl⟩, hW, hsame.mono (by decide) (by decide)⟩
  · show Steps p.tables e below (s₁.setTop (mkF m 0 #[.val (.ref a)] [])) _
    refine XS.aloadN X0.here hx rfl (hb hby d7_0) rfl rfl ?_
    show Steps p.tables e below (s₁.setTop (mkF m 1 #[.val (.ref a)] [(.ref a)])) _
    refine st1 _ ?_
    show Steps p.tables e below (T1.setTop (mkF m 4 #[.val (.ref a)] [])) _
    exact X1.returnOut hx Bd.returns (hb hby d7_4) hr
  · show Q_recInit Z a h0 n0 _ T1.heap _
    rw [e1]
    exact ⟨rfl, N0, K0⟩
theorem d6_0 : decode prog_8_method_1_code 0 = .ok (.aload_n 0, 1) := by decide +kernel
theorem d6_1 : decode prog_8_method_1_code 1 = .ok (.invokespecial 1, 3) := by decide +kernel
theorem d6_4 : decode prog_8_method_1_code 4 = .ok (.aload_n 0, 1) := by decide +kernel
theorem d6_5 : decode prog_8_method_1_code 5 = .ok (.aload_n 1, 1) := by decide +kernel
theorem d6_6 : decode prog_8_method_1_code 6 = .ok (.putfield 7, 3) := by decide +kernel
theorem d6_9 : decode prog_8_method_1_code 9 = .ok (.aload_n 0, 1) := by decide +kernel
theorem d6_10 : decode prog_8_method_1_code 10 = .ok (.iload_n 2, 1) := by decide +kernel
theorem d6_11 : decode prog_8_method_1_code 11 = .ok (.putfield 13, 3) := by decide +kernel
theorem d6_14 : decode prog_8_method_1_code 14 = .ok (.return_, 1) := by decide +kernel
def Q_resInit (Z : State) (a : Addr) (b1 : Addr) (p1 : Int32) (h0 : Heap) (n0 : Nat) (v : Option Value) (h : Heap) (L : List Loc) : Prop := v = none ∧ Fr n0 L ∧ Keep h0 h [a] ∧ (Exa Z h a "com/example/countinghouse/countinghouse/RoundTrip$Result") ∧ (Fld Z h a "com/example/countinghouse/countinghouse/RoundTrip$Result" "rows" "Ljava/util/List;" (.ref b1)) ∧ (Fld Z h a "com/example/countinghouse/countinghouse/RoundTrip$Result" "changed" "I" (.int p1))
theorem pn_com_example_countinghouse_countinghouse_RoundTrip_Result : plainName "com/example/countinghouse/countinghouse/RoundTrip$Result" = true := by first | (simp [plainName, overriddenIn]; done) | decide +kernel
theorem ef_rm_resInit (m : MethodId) (x0 : Addr) (x1 : Addr) (x2 : Int32) : entryFrame m #[(.ref x0), (.ref x1), (.int x2)] 3 = mkF m 0 #[.val (.ref x0), .val (.ref x1), .val (.int x2)] [] := by first | (simp [entryFrame, mkF, argsToLocals, Value.category]; done) | rfl
set_option maxRecDepth 65536 in
set_option maxHeartbeats 40000000 in
theorem rm_resInit (l : Launch) (Z : State) (a0 : Array Value) (hw : ∀ d ∈ tables_1, d.before a0 Z = true) (ws : List Jvm.Cond) (a : Addr) (b1 : Addr) (p1 : Int32) (h0 : Heap) (n0 : Nat) (O0 : Old Z n0 h0) (E_a : Exa Z h0 a "com/example/countinghouse/countinghouse/RoundTrip$Result") (F1 : Fld Z h0 a "com/example/countinghouse/countinghouse/RoundTrip$Result" "rows" "Ljava/util/List;" .null) (F2 : Fld Z h0 a "com/example/countinghouse/countinghouse/RoundTrip$Result" "changed" "I" (.int (0 : Int32))) (g_a : n0 ≤ a) :
    MetFree l (⟨"com/example/countinghouse/countinghouse/RoundTrip$Result", "<init>", "(Ljava/util/List;I)V"⟩ : MethodName) (head1 (Jvm.Cond.code (⟨"com/example/countinghouse/countinghouse/RoundTrip$Result", "<init>", "(Ljava/util/List;I)V"⟩ : MethodName) prog_8_method_1_code 3 none :: ws) ({ frames := 2, cells := 0, slots := 0, locals := 24 } : Room)) (fun as' U => as' = #[(.ref a), (.ref b1), (.int p1)] ∧ Z.Warmed39 U.vm ∧ U.heap = h0) (fun _ _ _ _ _ => True) (fun _ U o U' => ∃ v L, o = .returned v ∧ Q_resInit Z a b1 p1 h0 n0 v U'.heap L ∧ FrameEnd U o U' L ({ frames := 2, cells := 0, slots := 0, locals := 24 } : Room).cells ({ frames := 2, cells := 0, slots := 0, locals := 24 } : Room).slots) := by
  refine MetFree.of_bodySF (plainFor_of_name pn_com_example_countinghouse_countinghouse_RoundTrip_Result) hisR ?_
  intro p e s m args below meth c s₁ Bd hml0 hP hK
  obtain ⟨rfl, hZ, hh⟩ := hP
  have hx := Bd.exec
  have hby := Bd.bytes
  have hml : c.maxLocals = 3 := hml0
  have hown : s.vm.findClass "com/example/countinghouse/countinghouse/RoundTrip$Result" = some m.cls := findClass_of_methodNamed Bd.named
  have hnm := (name_of_methodNamed Bd.named Bd.method).1
  have X0 : Stand p l e ({ frames := 2, cells := 0, slots := 0, locals := 24 } : Room) s m #[(.ref a), (.ref b1), (.int p1)] below meth c s₁ [] 0 0 := Stand.of_body Bd
  have e0 : s₁.heap = h0 := by rw [← hh, Bd.state]; rfl
  have N0 := Fr.nil n0
  have K0 : Keep h0 h0 [a] := Keep.refl _ _
  have pre0 : ∀ t, Steps p.tables e below (s₁.setTop (mkF m 0 #[.val (.ref a), .val (.ref b1), .val (.int p1)] [])) t → Steps p.tables e below (s₁.setTop (entryFrame m #[(.ref a), (.ref b1), (.int p1)] 3)) t := fun t k => castTop (ef_rm_resInit m a b1 p1) k
  obtain ⟨_, _, ⟨T1, Lo1, kk1, nn1⟩, -, X1, ⟨Lc1, hQ1, ll1, yy1, zz1⟩, st1⟩ := X0.specialBack hx (y := (⟨"java/lang/Record", "<init>", "()V"⟩ : MethodName)) rfl hown (mvT hZ (w_42 hw)) (mvT hZ (w_43 hw)) (mvT hZ (w_46 hw)) (by decide) (backOf (W := 0) (rm_recInit l Z a0 hw [] a h0 n0 O0 ) hZ (w_46 hw) (w_45 hw) (by decide) (by decide)) (g := (mkF m 1 #[.val (.ref a), .val (.ref b1), .val (.int p1)] [(.ref a)])) rfl (by rw [hml]; rfl) (Steps.refl _) (a := a) (argsL := []) (rest := []) (lenOf pd_0 rfl) rfl (by show 2 * 0 + _ ≤ _; exact Nat.le_of_eq rfl) (hb hby d6_1) (fun _ _ => ⟨rfl, e0, (by decide : 0 + 0 ≤ _), (by decide : 0 + 0 ≤ _)⟩)
  dsimp only [Pt.U, Pt.locs, Pt.cells, Pt.slots] at X1 ll1 yy1 zz1 st1 hQ1
  subst ll1 yy1 zz1
  obtain ⟨rfl, N1q, K1q⟩ := hQ1
  have N1 := Fr.app N0 N1q
  have f1 : Keep h0 T1.heap [a] := K0.trans K1q all0
  have f2 : Old Z n0 T1.heap := O0.keep K1q all0
  have f3 : Fld Z T1.heap a "com/example/countinghouse/countinghouse/RoundTrip$Result" "rows" "Ljava/util/List;" .null := F1.keep K1q nin0
  have f4 : Exa Z T1.heap a "com/example/countinghouse/countinghouse/RoundTrip$Result" := E_a.keep K1q
  obtain ⟨T6, h6, X6, e6, Wr6, st6⟩ := putF X1 hx hZ hown (host := "") (Or.inl (w_48 hw)) Via.refl rfl f3 f4 (Or.inr ⟨(w_49 hw), rfl, hnm⟩) (w_37 hw) (ty := (.object "java/util/List")) (by decide) rfl rfl (g := (mkF m 6 #[.val (.ref a), .val (.ref b1), .val (.int p1)] [(.ref b1), (.ref a)])) rfl rfl (hb hby d6_6)
  have f5 : Keep h0 h6 [a] := f1.wr Wr6 (Or.inl (List.mem_of_getElem? (i := 0) rfl))
  have f6 : Old Z n0 h6 := f2.wr Wr6 g_a
  have f7 : Fld Z h6 a "com/example/countinghouse/countinghouse/RoundTrip$Result" "rows" "Ljava/util/List;" (.ref b1) := f3.same Wr6
  have N6 := Fr.snoc X6 N1 g_a
  have f8 : Fld Z T1.heap a "com/example/countinghouse/countinghouse/RoundTrip$Result" "changed" "I" (.int (0 : Int32)) := F2.keep K1q nin0
  have f9 : Fld Z h6 a "com/example/countinghouse/countinghouse/RoundTrip$Result" "changed" "I" (.int (0 : Int32)) := f8.other Wr6 (Or.inr (slot_ne (Or.inr (w_51 hw)) (Or.inr (w_49 hw)) (by decide) (t := .int) (t' := (.object "java/util/List")) (by decide) (by decide)))
  have f10 : Exa Z h6 a "com/example/countinghouse/countinghouse/RoundTrip$Result" := f4.wr Wr6
  obtain ⟨T11, h11, X11, e11, Wr11, st11⟩ := putF X6 hx hZ hown (host := "") (Or.inl (w_50 hw)) Via.refl e6 f9 f10 (Or.inr ⟨(w_51 hw), rfl, hnm⟩) (w_37 hw) (ty := .int) (by decide) rfl rfl (g := (mkF m 11 #[.val (.ref a), .val (.ref b1), .val (.int p1)] [(.int p1), (.ref a)])) rfl rfl (hb hby d6_11)
  have f11 : Keep h0 h11 [a] := f5.wr Wr11 (Or.inl (List.mem_of_getElem? (i := 0) rfl))
  have f12 : Old Z n0 h11 := f6.wr Wr11 g_a
  have f13 : Fld Z h11 a "com/example/countinghouse/countinghouse/RoundTrip$Result" "changed" "I" (.int p1) := f9.same Wr11
  have N11 := Fr.snoc X11 N6 g_a
  have f14 : Exa Z h11 a "com/example/countinghouse/countinghouse/RoundTrip$Result" := f10.wr Wr11
  have f15 : Fld Z h11 a "com/example/countinghouse/countinghouse/RoundTrip$Result" "rows" "Ljava/util/List;" (.ref b1) := f7.other Wr11 (Or.inr (slot_ne (Or.inr (w_49 hw)) (Or.inr (w_51 hw)) (by decide) (t := (.object "java/util/List")) (t' := .int) (by decide) (by decide)))
  obtain ⟨fs, hr, hrun, hended, hW, hsame⟩ := X11.leave (v := none) (fun _ => rfl)
  refine ⟨_, _, pre0 _ ?_, hrun, hended, _, _, rfl, ?_, ⟨_, rfl⟩, hW, hsame.mono (by decide) (by decide)⟩
  · show Steps p.tables e below (s₁.setTop (mkF m 0 #[.val (.ref a), .val (.ref b1), .val (.int p1)] [])) _
    refine XS.aloadN X0.here hx rfl (hb hby d6_0) rfl rfl ?_
    show Steps p.tables e below (s₁.setTop (mkF m 1 #[.val (.ref a), .val (.ref b1), .val (.int p1)] [(.ref a)])) _
    refine st1.trans ?_
    show Steps p.tables e below (T1.setTop (mkF m 4 #[.val (.ref a), .val (.ref b1), .val (.int p1)] [])) _
    refine XS.aloadN X1.here hx rfl (hb hby d6_4) rfl rfl ?_
    show Steps p.tables e below (T1.setTop (mkF m 5 #[.val (.ref a), .val (.ref b1), .val (.int p1)] [(.ref a)])) _
    refine XS.aloadN X1.here hx rfl (hb hby d6_5) rfl rfl ?_
    show Steps p.tables e below (T1.setTop (mkF m 6 #[.val (.ref a), .val (.ref b1), .val (.int p1)] [(.ref b1), (.ref a)])) _
    refine st6 _ ?_
    show Steps p.tables e below (T6.setTop (mkF m 9 #[.val (.ref a), .val (.ref b1), .val (.int p1)] [])) _
    refine XS.aloadN X6.here hx rfl (hb hby d6_9) rfl rfl ?_
    show Steps p.tables e below (T6.setTop (mkF m 10 #[.val (.ref a), .val (.ref b1), .val (.int p1)] [(.ref a)])) _
    refine XS.iloadN X6.here hx rfl (hb hby d6_10) rfl ?_
    show Steps p.tables e below (T6.setTop (mkF m 11 #[.val (.ref a), .val (.ref b1), .val (.int p1)] [(.int p1), (.ref a)])) _
    refine st11 _ ?_
    show Steps p.tables e below (T11.setTop (mkF m 14 #[.val (.ref a), .val (.ref b1), .val (.int p1)] [])) _
    exact X11.returnOut hx Bd.returns (hb hby d6_14) hr
  · show Q_resInit Z a b1 p1 h0 n0 _ T11.heap _
    rw [e11]
    exact ⟨rfl, N11, f11, f14, f15, f13⟩
theorem d8_0 : decode prog_8_method_2_code 0 = .ok (.aload_n 0, 1) := by decide +kernel
theorem d8_1 : decode prog_8_method_2_code 1 = .ok (.getfield 7, 3) := by decide +kernel
theorem pd_8 : parseMethodDescriptor "()Z" = some ⟨[], some .boolean⟩ := by decide +kernel
theorem d8_4 : decode prog_8_method_2_code 4 = .ok (.invokeinterface 17 1, 5) := by decide +kernel
theorem d8_9 : decode prog_8_method_2_code 9 = .ok (.ifCond .eq 7, 3) := by decide +kernel
theorem d8_12 : decode prog_8_method_2_code 12 = .ok (.aconst_null, 1) := by decide +kernel
theorem d8_13 : decode prog_8_method_2_code 13 = .ok (.goto 16, 3) := by decide +kernel
theorem d8_29 : decode prog_8_method_2_code 29 = .ok (.areturn, 1) := by decide +kernel
def Q_rowN (Z : State) (a : Addr) (b1 : Addr) (h0 : Heap) (n0 : Nat) (v : Option Value) (h : Heap) (L : List Loc) : Prop := v = some .null ∧ Fr n0 L ∧ Keep h0 h []
theorem ef_rm_rowN (m : MethodId) (x0 : Addr) : entryFrame m #[(.ref x0)] 1 = mkF m 0 #[.val (.ref x0)] [] := by first | (simp [entryFrame, mkF, argsToLocals, Value.category]; done) | rfl
set_option maxRecDepth 65536 in
set_option maxHeartbeats 40000000 in
theorem rm_rowN (l : Launch) (Z : State) (a0 : Array Value) (hw : ∀ d ∈ tables_1, d.before a0 Z = true) (ws : List Jvm.Cond) (a : Addr) (b1 : Addr) (h0 : Heap) (n0 : Nat) (O0 : Old Z n0 h0) (F1 : Fld Z h0 a "com/example/countinghouse/countinghouse/RoundTrip$Result" "rows" "Ljava/util/List;" (.ref b1)) (E_b : Exa Z h0 b1 "java/util/ArrayList") (F3 : Fld Z h0 b1 "java/util/ArrayList" "size" "I" (.int (0 : Int32))) :
    MetFree l (⟨"com/example/countinghouse/countinghouse/RoundTrip$Result", "row", "()[Ljava/lang/Object;"⟩ : MethodName) (head1 (Jvm.Cond.code (⟨"com/example/countinghouse/countinghouse/RoundTrip$Result", "row", "()[Ljava/lang/Object;"⟩ : MethodName) prog_8_method_2_code 1 (some (.array (.object "java/lang/Object"))) :: ws) ({ frames := 1, cells := 0, slots := 0, locals := 12 } : Room)) (fun as' U => as' = #[(.ref a)] ∧ Z.Warmed39 U.vm ∧ U.heap = h0) (fun _ _ _ _ _ => True) (fun _ U o U' => ∃ v L, o = .returned v ∧ Q_rowN Z a b1 h0 n0 v U'.heap L ∧ FrameEnd U o U' L ({ frames := 1, cells := 0, slots := 0, locals := 12 } : Room).cells ({ frames := 1, cells := 0, slots := 0, locals := 12 } : Room).slots) := by
  refine MetFree.of_bodySF (plainFor_of_name pn_com_example_countinghouse_countinghouse_RoundTrip_Result) hisR ?_
  intro p e s m args below meth c s₁ Bd hml0 hP hK
  obtain ⟨rfl, hZ, hh⟩ := hP
  have hx := Bd.exec
  have hby := Bd.bytes
  have hml : c.maxLocals = 1 := hml0
  have hown : s.vm.findClass "com/example/countinghouse/countinghouse/RoundTrip$Result" = some m.cls := findClass_of_methodNamed Bd.named
  have hnm := (name_of_methodNamed Bd.named Bd.method).1
  have X0 : Stand p l e ({ frames := 1, cells := 0, slots := 0, locals := 12 } : Room) s m #[(.ref a)] below meth c s₁ [] 0 0 := Stand.of_body Bd
  have e0 : s₁.heap = h0 := by rw [← hh, Bd.state]; rfl
  have N0 := Fr.nil n0
  have K0 : Keep h0 h0 [] := Keep.refl _ _
  have pre0 : ∀ t, Steps p.tables e below (s₁.setTop (mkF m 0 #[.val (.ref a)] [])) t → Steps p.tables e below (s₁.setTop (entryFrame m #[(.ref a)] 1)) t := fun t k => castTop (ef_rm_rowN m a) k
  obtain ⟨T1, X1, e1, st1⟩ := getF X0 hx hZ hown (host := "") (Or.inl (w_48 hw)) Via.refl e0 F1 (g := (mkF m 1 #[.val (.ref a)] [(.ref a)])) rfl rfl (hb hby d8_1)
  obtain ⟨cq4, kq4, q4a, q4b, q4c⟩ := isOf hZ e1 E_b
  obtain ⟨_, _, ⟨T4, Lo4, kk4, nn4⟩, -, X4, ⟨Lc4, hQ4, ll4, yy4, zz4⟩, st4⟩ := X1.interfaceBack hx (xi := (⟨"java/util/List", "isEmpty", "()Z"⟩ : MethodName)) (y := (⟨"java/util/ArrayList", "isEmpty", "()Z"⟩ : MethodName)) hown (mvT hZ (w_57 hw)) (mvT hZ (w_58 hw)) (mvT hZ (w_59 hw)) (mvT hZ (w_60 hw)) (mvT hZ (w_61 hw)) (mvT hZ (w_62 hw)) (mvT hZ (w_63 hw)) (mvT hZ (w_64 hw)) (by decide) (backOf (W := 0) (rm_emptyY l Z a0 hw [] b1 h0 n0 O0 F3) hZ (w_65 hw) (w_12 hw) (by decide) (by decide)) q4a q4b q4c (g := (mkF m 4 #[.val (.ref a)] [(.ref b1)])) rfl (by rw [hml]; rfl) (Steps.refl _) (argsL := []) (rest := []) (lenOf pd_8 rfl) rfl (by show 2 * 0 + _ ≤ _; exact Nat.le_of_eq rfl) (hb hby d8_4) (fun _ _ => ⟨rfl, e1, (by decide : 0 + 0 ≤ _), (by decide : 0 + 0 ≤ _)⟩)
  dsimp only [Pt.U, Pt.locs, Pt.cells, Pt.slots] at X4 ll4 yy4 zz4 st4 hQ4
  subst ll4 yy4 zz4
  obtain ⟨rfl, N4q, K4q⟩ := hQ4
  have N4 := Fr.app N0 N4q
  have f1 : Keep h0 T4.heap [] := K0.trans K4q all0
  have f2 : Old Z n0 T4.heap := O0.keep K4q all0
  obtain ⟨fs, hr, hrun, hended, hW, hsame⟩ := X4.leave (v := some .null) (fun h => by rw [Bd.returns] at h; cases h)
  refine ⟨_, _, pre0 _ ?_, hrun, hended, _, _, rfl, ?_, ⟨_, rfl⟩, hW, hsame.mono (by decide) (by decide)⟩
  · show Steps p.tables e below (s₁.setTop (mkF m 0 #[.val (.ref a)] [])) _
    refine XS.aloadN X0.here hx rfl (hb hby d8_0) rfl rfl ?_
    show Steps p.tables e below (s₁.setTop (mkF m 1 #[.val (.ref a)] [(.ref a)])) _
    refine st1 _ ?_
    show Steps p.tables e below (T1.setTop (mkF m 4 #[.val (.ref a)] [(.ref b1)])) _
    refine st4.trans ?_
    show Steps p.tables e below (T4.setTop (mkF m 9 #[.val (.ref a)] [(.int (1 : Int32))])) _
    refine XS.ifNo X4.here hx rfl (hb hby d8_9) rfl ((if0 _ _).trans (feq (by decide : ¬ ((1 : Int32) = (0 : Int32)))).1) ?_
    show Steps p.tables e below (T4.setTop (mkF m 12 #[.val (.ref a)] [])) _
    refine XS.aconstNull X4.here hx rfl (hb hby d8_12) ?_
    show Steps p.tables e below (T4.setTop (mkF m 13 #[.val (.ref a)] [.null])) _
    refine XS.goto X4.here hx rfl (pc0 := 13) (pc' := 29) rfl (hb hby d8_13) (by decide) (by decide) ?_
    show Steps p.tables e below (T4.setTop (mkF m 29 #[.val (.ref a)] [.null])) _
    jvm_step X4.here [X4.here.top, hx, (hb hby d8_29), X4.method', Bd.returns, Value.isRef, FieldType.isReference]
    first | (intro acts; rw [hr _ acts rfl rfl rfl]) | rw [hr _ _ rfl rfl rfl]
    exact Steps.refl _
  · show Q_rowN Z a b1 h0 n0 _ T4.heap _
    exact ⟨rfl, N4, f1⟩
theorem d8_16 : decode prog_8_method_2_code 16 = .ok (.aload_n 0, 1) := by decide +kernel
theorem d8_17 : decode prog_8_method_2_code 17 = .ok (.getfield 7, 3) := by decide +kernel
theorem d8_20 : decode prog_8_method_2_code 20 = .ok (.iconst 0, 1) := by decide +kernel
theorem d8_21 : decode prog_8_method_2_code 21 = .ok (.invokeinterface 23 2, 5) := by decide +kernel
theorem d8_26 : decode prog_8_method_2_code 26 = .ok (.checkcast 27, 3) := by decide +kernel
def Q_rowY (Z : State) (a : Addr) (b1 : Addr) (s1 : Int32) (d : Addr) (kd : ClassId) (vs : List Value) (x0 : Addr) (h0 : Heap) (n0 : Nat) (v : Option Value) (h : Heap) (L : List Loc) : Prop := v = some (.ref x0) ∧ Fr n0 L ∧ Keep h0 h []
theorem ef_rm_rowY (m : MethodId) (x0 : Addr) : entryFrame m #[(.ref x0)] 1 = mkF m 0 #[.val (.ref x0)] [] := by first | (simp [entryFrame, mkF, argsToLocals, Value.category]; done) | rfl
set_option maxRecDepth 65536 in
set_option maxHeartbeats 40000000 in
theorem rm_rowY (l : Launch) (Z : State) (a0 : Array Value) (hw : ∀ d ∈ tables_1, d.before a0 Z = true) (ws : List Jvm.Cond) (a : Addr) (b1 : Addr) (s1 : Int32) (d : Addr) (kd : ClassId) (vs : List Value) (x0 : Addr) (h0 : Heap) (n0 : Nat) (O0 : Old Z n0 h0) (F1 : Fld Z h0 a "com/example/countinghouse/countinghouse/RoundTrip$Result" "rows" "Ljava/util/List;" (.ref b1)) (E_b : Exa Z h0 b1 "java/util/ArrayList") (F3 : Fld Z h0 b1 "java/util/ArrayList" "size" "I" (.int s1)) (F2 : Fld Z h0 b1 "java/util/ArrayList" "elementData" "[Ljava/lang/Object;" (.ref d)) (V_d : Arv Z h0 d kd (.object "java/lang/Object") (10 : Int32) vs .null) (hq : vs.getD ((0 : Int32).toNatClampNeg) .null = (.ref x0)) (h2 : (0 : Int32) < s1) (h3 : ¬ (s1 = (0 : Int32))) (E_x : Exa Z h0 x0 "[Ljava/lang/Object;") :
    MetFree l (⟨"com/example/countinghouse/countinghouse/RoundTrip$Result", "row", "()[Ljava/lang/Object;"⟩ : MethodName) (head1 (Jvm.Cond.code (⟨"com/example/countinghouse/countinghouse/RoundTrip$Result", "row", "()[Ljava/lang/Object;"⟩ : MethodName) prog_8_method_2_code 1 (some (.array (.object "java/lang/Object"))) :: ws) ({ frames := 3, cells := 0, slots := 0, locals := 40 } : Room)) (fun as' U => as' = #[(.ref a)] ∧ Z.Warmed39 U.vm ∧ U.heap = h0) (fun _ _ _ _ _ => True) (fun _ U o U' => ∃ v L, o = .returned v ∧ Q_rowY Z a b1 s1 d kd vs x0 h0 n0 v U'.heap L ∧ FrameEnd U o U' L ({ frames := 3, cells := 0, slots := 0, locals := 40 } : Room).cells ({ frames := 3, cells := 0, slots := 0, locals := 40 } : Room).slots) := by
  refine MetFree.of_bodySF (plainFor_of_name pn_com_example_countinghouse_countinghouse_RoundTrip_Result) hisR ?_
  intro p e s m args below meth c s₁ Bd hml0 hP hK
  obtain ⟨rfl, hZ, hh⟩ := hP
  have hx := Bd.exec
  have hby := Bd.bytes
  have hml : c.maxLocals = 1 := hml0
  have hown : s.vm.findClass "com/example/countinghouse/countinghouse/RoundTrip$Result" = some m.cls := findClass_of_methodNamed Bd.named
  have hnm := (name_of_methodNamed Bd.named Bd.method).1
  have X0 : Stand p l e ({ frames := 3, cells := 0, slots := 0, locals := 40 } : Room) s m #[(.ref a)] below meth c s₁ [] 0 0 := Stand.of_body Bd
  have e0 : s₁.heap = h0 := by rw [← hh, Bd.state]; rfl
  have N0 := Fr.nil n0
  have K0 : Keep h0 h0 [] := Keep.refl _ _
  have pre0 : ∀ t, Steps p.tables e below (s₁.setTop (mkF m 0 #[.val (.ref a)] [])) t → Steps p.tables e below (s₁.setTop (entryFrame m #[(.ref a)] 1)) t := fun t k => castTop (ef_rm_rowY m a) k
  obtain ⟨T1, X1, e1, st1⟩ := getF X0 hx hZ hown (host := "") (Or.inl (w_48 hw)) Via.refl e0 F1 (g := (mkF m 1 #[.val (.ref a)] [(.ref a)])) rfl rfl (hb hby d8_1)
  obtain ⟨cq4, kq4, q4a, q4b, q4c⟩ := isOf hZ e1 E_b
  obtain ⟨_, _, ⟨T4, Lo4, kk4, nn4⟩, -, X4, ⟨Lc4, hQ4, ll4, yy4, zz4⟩, st4⟩ := X1.interfaceBack hx (xi := (⟨"java/util/List", "isEmpty", "()Z"⟩ : MethodName)) (y := (⟨"java/util/ArrayList", "isEmpty", "()Z"⟩ : MethodName)) hown (mvT hZ (w_57 hw)) (mvT hZ (w_58 hw)) (mvT hZ (w_59 hw)) (mvT hZ (w_60 hw)) (mvT hZ (w_61 hw)) (mvT hZ (w_62 hw)) (mvT hZ (w_63 hw)) (mvT hZ (w_64 hw)) (by decide) (backOf (W := 0) (rm_emptyN l Z a0 hw [] b1 s1 h0 n0 O0 F3 h3) hZ (w_65 hw) (w_12 hw) (by decide) (by decide)) q4a q4b q4c (g := (mkF m 4 #[.val (.ref a)] [(.ref b1)])) rfl (by rw [hml]; rfl) (Steps.refl _) (argsL := []) (rest := []) (lenOf pd_8 rfl) rfl (by show 2 * 0 + _ ≤ _; exact Nat.le_of_eq rfl) (hb hby d8_4) (fun _ _ => ⟨rfl, e1, (by decide : 0 + 0 ≤ _), (by decide : 0 + 0 ≤ _)⟩)
  dsimp only [Pt.U, Pt.locs, Pt.cells, Pt.slots] at X4 ll4 yy4 zz4 st4 hQ4
  subst ll4 yy4 zz4
  obtain ⟨rfl, N4q, K4q⟩ := hQ4
  have N4 := Fr.app N0 N4q
  have f1 : Keep h0 T4.heap [] := K0.trans K4q all0
  have f2 : Old Z n0 T4.heap := O0.keep K4q all0
  have f3 : Fld Z T4.heap a "com/example/countinghouse/countinghouse/RoundTrip$Result" "rows" "Ljava/util/List;" (.ref b1) := F1.keep K4q nin0
  obtain ⟨T17, X17, e17, st17⟩ := getF X4 hx hZ hown (host := "") (Or.inl (w_48 hw)) Via.refl rfl f3 (g := (mkF m 17 #[.val (.ref a)] [(.ref a)])) rfl rfl (hb hby d8_17)
  have f4 : Exa Z T4.heap b1 "java/util/ArrayList" := E_b.keep K4q
  have f5 : Fld Z T4.heap b1 "java/util/ArrayList" "size" "I" (.int s1) := F3.keep K4q nin0
  have f6 : Fld Z T4.heap b1 "java/util/ArrayList" "elementData" "[Ljava/lang/Object;" (.ref d) := F2.keep K4q nin0
  have f7 : Arv Z T4.heap d kd (.object "java/lang/Object") (10 : Int32) vs .null := V_d.keep K4q nin0
  obtain ⟨cq21, kq21, q21a, q21b, q21c⟩ := isOf hZ e17 f4
  obtain ⟨_, _, ⟨T21, Lo21, kk21, nn21⟩, -, X21, ⟨Lc21, hQ21, ll21, yy21, zz21⟩, st21⟩ := X17.interfaceBack hx (xi := (⟨"java/util/List", "get", "(I)Ljava/lang/Object;"⟩ : MethodName)) (y := (⟨"java/util/ArrayList", "get", "(I)Ljava/lang/Object;"⟩ : MethodName)) hown (mvT hZ (w_129 hw)) (mvT hZ (w_130 hw)) (mvT hZ (w_131 hw)) (mvT hZ (w_132 hw)) (mvT hZ (w_133 hw)) (mvT hZ (w_134 hw)) (mvT hZ (w_135 hw)) (mvT hZ (w_64 hw)) (by decide) (backOf (W := 0) (rm_get l Z a0 hw [] b1 s1 d kd vs x0 T4.heap n0 f2 f4 f5 f6 f7 hq h2) hZ (w_136 hw) (w_12 hw) (by decide) (by decide)) q21a q21b q21c (g := (mkF m 21 #[.val (.ref a)] [(.int (0 : Int32)), (.ref b1)])) rfl (by rw [hml]; rfl) (Steps.refl _) (argsL := [(.int (0 : Int32))]) (rest := []) (lenOf pd_7 rfl) rfl (by show 2 * 0 + _ ≤ _; exact Nat.le_of_eq rfl) (hb hby d8_21) (fun _ _ => ⟨rfl, e17, (by decide : 0 + 0 ≤ _), (by decide : 0 + 0 ≤ _)⟩)
  dsimp only [Pt.U, Pt.locs, Pt.cells, Pt.slots] at X21 ll21 yy21 zz21 st21 hQ21
  subst ll21 yy21 zz21
  obtain ⟨rfl, N21q, K21q⟩ := hQ21
  have N21 := Fr.app N4 N21q
  have f8 : Keep h0 T21.heap [] := f1.trans K21q all0
  have f9 : Old Z n0 T21.heap := f2.keep K21q all0
  have f10 : Exa Z T4.heap x0 "[Ljava/lang/Object;" := E_x.keep K4q
  have f11 : Exa Z T21.heap x0 "[Ljava/lang/Object;" := f10.keep K21q
  obtain ⟨T26, X26, e26, st26⟩ := castY X21 hx hZ hown (w_150 hw) rfl (Ins.self f11) (g := (mkF m 26 #[.val (.ref a)] [(.ref x0)])) rfl rfl (hb hby d8_26)
  obtain ⟨fs, hr, hrun, hended, hW, hsame⟩ := X26.leave (v := some (.ref x0)) (fun h => by rw [Bd.returns] at h; cases h)
  refine ⟨_, _, pre0 _ ?_, hrun, hended, _, _, rfl, ?_, ⟨_, rfl⟩, hW, hsame.mono (by decide) (by decide)⟩
  · show Steps p.tables e below (s₁.setTop (mkF m 0 #[.val (.ref a)] [])) _
    refine XS.aloadN X0.here hx rfl (hb hby d8_0) rfl rfl ?_
    show Steps p.tables e below (s₁.setTop (mkF m 1 #[.val (.ref a)] [(.ref a)])) _
    refine st1 _ ?_
    show Steps p.tables e below (T1.setTop (mkF m 4 #[.val (.ref a)] [(.ref b1)])) _
    refine st4.trans ?_
    show Steps p.tables e below (T4.setTop (mkF m 9 #[.val (.ref a)] [(.int (0 : Int32))])) _
    refine XS.ifYes X4.here hx rfl (pc0 := 9) (pc' := 16) rfl (hb hby d8_9) rfl ((if0 _ _).trans (teq (by decide : (0 : Int32) = (0 : Int32))).1) (by decide) (by decide) ?_
    show Steps p.tables e below (T4.setTop (mkF m 16 #[.val (.ref a)] [])) _
    refine XS.aloadN X4.here hx rfl (hb hby d8_16) rfl rfl ?_
    show Steps p.tables e below (T4.setTop (mkF m 17 #[.val (.ref a)] [(.ref a)])) _
    refine st17 _ ?_
    show Steps p.tables e below (T17.setTop (mkF m 20 #[.val (.ref a)] [(.ref b1)])) _
    refine XS.iconst X17.here hx rfl (hb hby d8_20) ?_
    show Steps p.tables e below (T17.setTop (mkF m 21 #[.val (.ref a)] [(.int (0 : Int32)), (.ref b1)])) _
    refine st21.trans ?_
    show Steps p.tables e below (T21.setTop (mkF m 26 #[.val (.ref a)] [(.ref x0)])) _
    refine st26 _ ?_
    show Steps p.tables e below (T26.setTop (mkF m 29 #[.val (.ref a)] [(.ref x0)])) _
    jvm_step X26.here [X26.here.top, hx, (hb hby d8_29), X26.method', Bd.returns, Value.isRef, FieldType.isReference]
    first | (intro acts; rw [hr _ acts rfl rfl rfl]) | rw [hr _ _ rfl rfl rfl]
    exact Steps.refl _
  · show Q_rowY Z a b1 s1 d kd vs x0 h0 n0 _ T26.heap _
    rw [e26]
    exact ⟨rfl, N21, f8⟩
theorem d10_0 : decode prog_8_method_6_code 0 = .ok (.aload_n 0, 1) := by decide +kernel
theorem d10_1 : decode prog_8_method_6_code 1 = .ok (.getfield 7, 3) := by decide +kernel
theorem d10_4 : decode prog_8_method_6_code 4 = .ok (.areturn, 1) := by decide +kernel
def Q_rows (Z : State) (a : Addr) (b1 : Addr) (h0 : Heap) (n0 : Nat) (v : Option Value) (h : Heap) (L : List Loc) : Prop := v = some (.ref b1) ∧ Fr n0 L ∧ Keep h0 h []
theorem ef_rm_rows (m : MethodId) (x0 : Addr) : entryFrame m #[(.ref x0)] 1 = mkF m 0 #[.val (.ref x0)] [] := by first | (simp [entryFrame, mkF, argsToLocals, Value.category]; done) | rfl
set_option maxRecDepth 65536 in
set_option maxHeartbeats 40000000 in
theorem rm_rows (l : Launch) (Z : State) (a0 : Array Value) (hw : ∀ d ∈ tables_1, d.before a0 Z = true) (ws : List Jvm.Cond) (a : Addr) (b1 : Addr) (h0 : Heap) (n0 : Nat) (O0 : Old Z n0 h0) (F1 : Fld Z h0 a "com/example/countinghouse/countinghouse/RoundTrip$Result" "rows" "Ljava/util/List;" (.ref b1)) :
    MetFree l (⟨"com/example/countinghouse/countinghouse/RoundTrip$Result", "rows", "()Ljava/util/List;"⟩ : MethodName) (head1 (Jvm.Cond.code (⟨"com/example/countinghouse/countinghouse/RoundTrip$Result", "rows", "()Ljava/util/List;"⟩ : MethodName) prog_8_method_6_code 1 (some (.object "java/util/List")) :: ws) ({ frames := 0, cells := 0, slots := 0, locals := 0 } : Room)) (fun as' U => as' = #[(.ref a)] ∧ Z.Warmed39 U.vm ∧ U.heap = h0) (fun _ _ _ _ _ => True) (fun _ U o U' => ∃ v L, o = .returned v ∧ Q_rows Z a b1 h0 n0 v U'.heap L ∧ FrameEnd U o U' L ({ frames := 0, cells := 0, slots := 0, locals := 0 } : Room).cells ({ frames := 0, cells := 0, slots := 0, locals := 0 } : Room).slots) := by
  refine MetFree.of_bodySF (plainFor_of_name pn_com_example_countinghouse_countinghouse_RoundTrip_Result) hisR ?_
  intro p e s m args below meth c s₁ Bd hml0 hP hK
  obtain ⟨rfl, hZ, hh⟩ := hP
  have hx := Bd.exec
  have hby := Bd.bytes
  have hml : c.maxLocals = 1 := hml0
  have hown : s.vm.findClass "com/example/countinghouse/countinghouse/RoundTrip$Result" = some m.cls := findClass_of_methodNamed Bd.named
  have hnm := (name_of_methodNamed Bd.named Bd.method).1
  have X0 : Stand p l e ({ frames := 0, cells := 0, slots := 0, locals := 0 } : Room) s m #[(.ref a)] below meth c s₁ [] 0 0 := Stand.of_body Bd
  have e0 : s₁.heap = h0 := by rw [← hh, Bd.state]; rfl
  have N0 := Fr.nil n0
  have K0 : Keep h0 h0 [] := Keep.refl _ _
  have pre0 : ∀ t, Steps p.tables e below (s₁.setTop (mkF m 0 #[.val (.ref a)] [])) t → Steps p.tables e below (s₁.setTop (entryFrame m #[(.ref a)] 1)) t := fun t k => castTop (ef_rm_rows m a) k
  obtain ⟨T1, X1, e1, st1⟩ := getF X0 hx hZ hown (host := "") (Or.inl (w_48 hw)) Via.refl e0 F1 (g := (mkF m 1 #[.val (.ref a)] [(.ref a)])) rfl rfl (hb hby d10_1)
  obtain ⟨fs, hr, hrun, hended, hW, hsame⟩ := X1.leave (v := some (.ref b1)) (fun h => by rw [Bd.returns] at h; cases h)
  refine ⟨_, _, pre0 _ ?_, hrun, hended, _, _, rfl, ?_, ⟨_, rfl⟩, hW, hsame.mono (by decide) (by decide)⟩
  · show Steps p.tables e below (s₁.setTop (mkF m 0 #[.val (.ref a)] [])) _
    refine XS.aloadN X0.here hx rfl (hb hby d10_0) rfl rfl ?_
    show Steps p.tables e below (s₁.setTop (mkF m 1 #[.val (.ref a)] [(.ref a)])) _
    refine st1 _ ?_
    show Steps p.tables e below (T1.setTop (mkF m 4 #[.val (.ref a)] [(.ref b1)])) _
    jvm_step X1.here [X1.here.top, hx, (hb hby d10_4), X1.method', Bd.returns, Value.isRef, FieldType.isReference]
    first | (intro acts; rw [hr _ acts rfl rfl rfl]) | rw [hr _ _ rfl rfl rfl]
    exact Steps.refl _
  · show Q_rows Z a b1 h0 n0 _ T1.heap _
    rw [e1]
    exact ⟨rfl, N0, K0⟩
theorem d12_0 : decode prog_8_method_7_code 0 = .ok (.aload_n 0, 1) := by decide +kernel
theorem d12_1 : decode prog_8_method_7_code 1 = .ok (.getfield 13, 3) := by decide +kernel
theorem d12_4 : decode prog_8_method_7_code 4 = .ok (.ireturn, 1) := by decide +kernel
def Q_changed (Z : State) (a : Addr) (p1 : Int32) (h0 : Heap) (n0 : Nat) (v : Option Value) (h : Heap) (L : List Loc) : Prop := v = some (.int p1) ∧ Fr n0 L ∧ Keep h0 h []
theorem ef_rm_changed (m : MethodId) (x0 : Addr) : entryFrame m #[(.ref x0)] 1 = mkF m 0 #[.val (.ref x0)] [] := by first | (simp [entryFrame, mkF, argsToLocals, Value.category]; done) | rfl
set_option maxRecDepth 65536 in
set_option maxHeartbeats 40000000 in
theorem rm_changed (l : Launch) (Z : State) (a0 : Array Value) (hw : ∀ d ∈ tables_1, d.before a0 Z = true) (ws : List Jvm.Cond) (a : Addr) (p1 : Int32) (h0 : Heap) (n0 : Nat) (O0 : Old Z n0 h0) (F1 : Fld Z h0 a "com/example/countinghouse/countinghouse/RoundTrip$Result" "changed" "I" (.int p1)) :
    MetFree l (⟨"com/example/countinghouse/countinghouse/RoundTrip$Result", "changed", "()I"⟩ : MethodName) (head1 (Jvm.Cond.code (⟨"com/example/countinghouse/countinghouse/RoundTrip$Result", "changed", "()I"⟩ : MethodName) prog_8_method_7_code 1 (some .int) :: ws) ({ frames := 0, cells := 0, slots := 0, locals := 0 } : Room)) (fun as' U => as' = #[(.ref a)] ∧ Z.Warmed39 U.vm ∧ U.heap = h0) (fun _ _ _ _ _ => True) (fun _ U o U' => ∃ v L, o = .returned v ∧ Q_changed Z a p1 h0 n0 v U'.heap L ∧ FrameEnd U o U' L ({ frames := 0, cells := 0, slots := 0, locals := 0 } : Room).cells ({ frames := 0, cells := 0, slots := 0, locals := 0 } : Room).slots) := by
  refine MetFree.of_bodySF (plainFor_of_name pn_com_example_countinghouse_countinghouse_RoundTrip_Result) hisR ?_
  intro p e s m args below meth c s₁ Bd hml0 hP hK
  obtain ⟨rfl, hZ, hh⟩ := hP
  have hx := Bd.exec
  have hby := Bd.bytes
  have hml : c.maxLocals = 1 := hml0
  have hown : s.vm.findClass "com/example/countinghouse/countinghouse/RoundTrip$Result" = some m.cls := findClass_of_methodNamed Bd.named
  have hnm := (name_of_methodNamed Bd.named Bd.method).1
  have X0 : Stand p l e ({ frames := 0, cells := 0, slots := 0, locals := 0 } : Room) s m #[(.ref a)] below meth c s₁ [] 0 0 := Stand.of_body Bd
  have e0 : s₁.heap = h0 := by rw [← hh, Bd.state]; rfl
  have N0 := Fr.nil n0
  have K0 : Keep h0 h0 [] := Keep.refl _ _
  have pre0 : ∀ t, Steps p.tables e below (s₁.setTop (mkF m 0 #[.val (.ref a)] [])) t → Steps p.tables e below (s₁.setTop (entryFrame m #[(.ref a)] 1)) t := fun t k => castTop (ef_rm_changed m a) k
  obtain ⟨T1, X1, e1, st1⟩ := getF X0 hx hZ hown (host := "") (Or.inl (w_50 hw)) Via.refl e0 F1 (g := (mkF m 1 #[.val (.ref a)] [(.ref a)])) rfl rfl (hb hby d12_1)
  obtain ⟨fs, hr, hrun, hended, hW, hsame⟩ := X1.leave (v := some (.int p1)) (fun h => by rw [Bd.returns] at h; cases h)
  refine ⟨_, _, pre0 _ ?_, hrun, hended, _, _, rfl, ?_, ⟨_, rfl⟩, hW, hsame.mono (by decide) (by decide)⟩
  · show Steps p.tables e below (s₁.setTop (mkF m 0 #[.val (.ref a)] [])) _
    refine XS.aloadN X0.here hx rfl (hb hby d12_0) rfl rfl ?_
    show Steps p.tables e below (s₁.setTop (mkF m 1 #[.val (.ref a)] [(.ref a)])) _
    refine st1 _ ?_
    show Steps p.tables e below (T1.setTop (mkF m 4 #[.val (.ref a)] [(.int p1)])) _
    exact retI X1 hx Bd.returns (hb hby d12_4) hr
  · show Q_changed Z a p1 h0 n0 _ T1.heap _
    rw [e1]
    exact ⟨rfl, N0, K0⟩
theorem pd_9 : parseMethodDescriptor "(I)Ljava/lang/Integer;" = some ⟨[.int], some (.object "java/lang/Integer")⟩ := by decide +kernel
theorem pd_10 : parseMethodDescriptor "(Ljava/util/List;I)V" = some ⟨[(.object "java/util/List"), .int], none⟩ := by decide +kernel
theorem pd_11 : parseMethodDescriptor "()Ljava/util/List;" = some ⟨[], some (.object "java/util/List")⟩ := by decide +kernel
theorem pd_12 : parseMethodDescriptor "()I" = some ⟨[], some .int⟩ := by decide +kernel
theorem pd_13 : parseMethodDescriptor "(Ljava/lang/Object;)Z" = some ⟨[(.object "java/lang/Object")], some .boolean⟩ := by decide +kernel
def Q_law (Z : State) (p0 : Int32) (p1 : Int32) (p2 : Int32) (p3 : Int32) (cc : Addr) (cl : Cell) (de : Addr) (kde : ClassId) (h0 : Heap) (n0 : Nat) (v : Option Value) (h : Heap) (L : List Loc) : Prop := v = some (.int (1 : Int32)) ∧ Fr n0 L ∧ Keep h0 h []
theorem pn_com_example_countinghouse_countinghouse_ResultRowPinLaw : plainName "com/example/countinghouse/countinghouse/ResultRowPinLaw" = true := by first | (simp [plainName, overriddenIn]; done) | decide +kernel
theorem ef_rm_law_0 (m : MethodId) (x0 : Int32) (x1 : Int32) (x2 : Int32) (x3 : Int32) : entryFrame m #[(.int x0), (.int x1), (.int x2), (.int x3)] maxLocals = mkF m 0 #[.val (.int x0), .val (.int x1), .val (.int x2), .val (.int x3), .unset, .unset, .unset, .unset, .unset, .unset, .unset, .unset] [] := by first | (simp [entryFrame, mkF, argsToLocals, Value.category, maxLocals]; done) | rfl
set_option maxRecDepth 65536 in
set_option maxHeartbeats 40000000 in
theorem rm_law_0 (l : Launch) (Z : State) (a0 : Array Value) (hw : ∀ d ∈ tables_1, d.before a0 Z = true) (ws : List Jvm.Cond) (p0 : Int32) (p1 : Int32) (p2 : Int32) (p3 : Int32) (cc : Addr) (cl : Cell) (de : Addr) (kde : ClassId) (h0 : Heap) (n0 : Nat) (O0 : Old Z n0 h0) (S_high : Sta Z Z.heap "java/lang/Integer$IntegerCache" "high" "I" (.int (127 : Int32))) (S_cache : Sta Z Z.heap "java/lang/Integer$IntegerCache" "cache" "[Ljava/lang/Integer;" (.ref cc)) (B_cache : Bxs Z cc cl "java/lang/Integer" "I" (256 : Int32) (fun j => .int (j - 128))) (S_D : Sta Z Z.heap "java/util/ArrayList" "DEFAULTCAPACITY_EMPTY_ELEMENTDATA" "[Ljava/lang/Object;" (.ref de)) (V_D : Arv Z Z.heap de kde (.object "java/lang/Object") (0 : Int32) [] .null) (hi : (p0 &&& (3 : Int32)) = (0 : Int32)) :
    MetFree l x (head1 (Jvm.Cond.code x code maxLocals ret :: ws) room_1) (fun as' U => as' = #[(.int p0), (.int p1), (.int p2), (.int p3)] ∧ Z.Warmed39 U.vm ∧ U.heap = h0) (fun _ _ _ _ _ => True) (fun _ U o U' => ∃ v L, o = .returned v ∧ Q_law Z p0 p1 p2 p3 cc cl de kde h0 n0 v U'.heap L ∧ FrameEnd U o U' L room_1.cells room_1.slots) := by
  refine MetFree.of_bodySF (plainFor_of_name pn_com_example_countinghouse_countinghouse_ResultRowPinLaw) hisR ?_
  intro p e s m args below meth c s₁ Bd hml0 hP hK
  obtain ⟨rfl, hZ, hh⟩ := hP
  have hx := Bd.exec
  have hby := Bd.bytes
  have hml : c.maxLocals = 12 := hml0
  have hown : s.vm.findClass "com/example/countinghouse/countinghouse/ResultRowPinLaw" = some m.cls := findClass_of_methodNamed Bd.named
  have hnm := (name_of_methodNamed Bd.named Bd.method).1
  have X0 : Stand p l e room_1 s m #[(.int p0), (.int p1), (.int p2), (.int p3)] below meth c s₁ [] 0 0 := Stand.of_body Bd
  have e0 : s₁.heap = h0 := by rw [← hh, Bd.state]; rfl
  have N0 := Fr.nil n0
  have K0 : Keep h0 h0 [] := Keep.refl _ _
  have pre0 : ∀ t, Steps p.tables e below (s₁.setTop (mkF m 0 #[.val (.int p0), .val (.int p1), .val (.int p2), .val (.int p3), .unset, .unset, .unset, .unset, .unset, .unset, .unset, .unset] [])) t → Steps p.tables e below (s₁.setTop (entryFrame m #[(.int p0), (.int p1), (.int p2), (.int p3)] maxLocals)) t := fun t k => castTop (ef_rm_law_0 m p0 p1 p2 p3) k
  obtain ⟨T6, h6, kc6, X6, e6, Ex6, Aa6, Bb6, Ov6, st6⟩ := newRE X0 hx hZ hown (w_0 hw) (w_1 hw) e0 (g := (mkF m 6 #[.val (.int p0), .val (.int p1), .val (.int p2), .val (.int p3), .val (.int (0 : Int32)), .unset, .unset, .unset, .unset, .unset, .unset, .unset] [(.int (1 : Int32))])) rfl (hb hby at_6) rfl (by decide) (cap := 1) (by decide) (by decide) (by decide) (by decide) (ad := "[Ljava/lang/Object;") (by first | rfl | decide +kernel)
  obtain ⟨b6, gg6⟩ : ∃ z, z = h0.size := ⟨_, rfl⟩
  rw [← gg6] at Aa6 Bb6 st6
  have f1 : Keep h0 h6 [] := K0.ext Ex6
  have f2 : Old Z n0 h6 := O0.ext Ex6
  have f3 : Arv Z h6 b6 kc6 (.object "java/lang/Object") (1 : Int32) [.null] .null := (Arv.new Aa6 (by decide)).pad (pad_rep [] .null 1)
  obtain ⟨_, _, ⟨T12, Lo12, kk12, nn12⟩, -, X12, ⟨Lc12, hQ12, ll12, yy12, zz12⟩, st12⟩ := Jvm.LawKit.callS X6 hx (y := (⟨"java/lang/Integer", "valueOf", "(I)Ljava/lang/Integer;"⟩ : MethodName)) hown (mvT hZ (w_2 hw)) (mvT hZ (w_3 hw)) (mvT hZ (w_4 hw)) (mvT hZ (w_5 hw)) (by decide) (backOf (W := 3) (rm_valueOf l Z a0 hw [] p2 cc cl h6 n0 f2 S_high S_cache B_cache) hZ (w_5 hw) (w_4 hw) (by decide) (by decide)) (g := (mkF m 12 #[.val (.int p0), .val (.int p1), .val (.int p2), .val (.int p3), .val (.int (0 : Int32)), .unset, .unset, .unset, .unset, .unset, .unset, .unset] [(.int p2), (.int (0 : Int32)), (.ref b6), (.ref b6)])) rfl (by rw [hml]; rfl) (argsL := [(.int p2)]) (rest := [(.int (0 : Int32)), (.ref b6), (.ref b6)]) (lenOf pd_9 rfl) rfl (by show 2 * 0 + _ ≤ _; exact Nat.le_of_eq rfl) (hb hby at_12) (fun _ _ => ⟨rfl, e6, (by decide : 1 + 1 ≤ _), (by decide : 1 + 1 ≤ _)⟩)
  dsimp only [Pt.U, Pt.locs, Pt.cells, Pt.slots] at X12 ll12 yy12 zz12 st12 hQ12
  subst ll12 yy12 zz12
  obtain ⟨b12, rfl, N12q, K12q, p12_0, p12_1⟩ := hQ12
  have N12 := Fr.app N0 N12q
  have f4 : Keep h0 T12.heap [] := f1.trans K12q all0
  have f5 : Old Z n0 T12.heap := f2.keep K12q all0
  have f6 : Arv Z T12.heap b6 kc6 (.object "java/lang/Object") (1 : Int32) [.null] .null := f3.keep K12q nin0
  obtain ⟨cl15, Ar15, qq15, Sz15, NN15, HH15, GG15⟩ := (id f6)
  have hin15 : ¬ ((0 : Int32) < 0 ∨ cl15.slots.size ≤ ((0 : Int32)).toNatClampNeg) := inb_of Sz15 ⟨by decide, by decide⟩
  obtain ⟨T15, h15, X15, e15, Wr15, st15⟩ := stR X12 hx hZ rfl Ar15 (j := (0 : Int32)) hin15 rfl (Sto.ofV Ar15 qq15 Ov6 (Ins.of_exa p12_0 (w_9 hw))) (g := (mkF m 15 #[.val (.int p0), .val (.int p1), .val (.int p2), .val (.int p3), .val (.int (0 : Int32)), .unset, .unset, .unset, .unset, .unset, .unset, .unset] [(.ref b12), (.int (0 : Int32)), (.ref b6), (.ref b6)])) rfl rfl (hb hby at_15)
  have f8 : h0.size ≤ b6 := Nat.le_trans K0.1 (Nat.le_of_eq gg6.symm)
  have f9 : n0 ≤ b6 := Nat.le_trans (own_old_le O0) (Nat.le_of_eq gg6.symm)
  have f10 : Keep h0 h15 [] := f4.wr Wr15 (Or.inr f8)
  have f11 : Old Z n0 h15 := f5.wr Wr15 f9
  have f12 : Arv Z h15 b6 kc6 (.object "java/lang/Object") (1 : Int32) [(.ref b12)] .null := Arv.set Ar15 qq15 Sz15 NN15 HH15 GG15 rfl Wr15 0 rfl (Nat.le_of_ble_eq_true rfl)
  have N15 := Fr.snoc X15 N12 f9
  obtain ⟨T19, h19, kc19, X19, e19, Ex19, Aa19, Bb19, Ov19, st19⟩ := newRE X15 hx hZ hown (w_0 hw) (w_1 hw) e15 (g := (mkF m 19 #[.val (.int p0), .val (.int p1), .val (.int p2), .val (.int p3), .val (.int (0 : Int32)), .val (.ref b6), .unset, .unset, .unset, .unset, .unset, .unset] [(.int (1 : Int32))])) rfl (hb hby at_19) rfl (by decide) (cap := 1) (by decide) (by decide) (by decide) (by decide) (ad := "[Ljava/lang/Object;") (by first | rfl | decide +kernel)
  obtain ⟨b19, gg19⟩ : ∃ z, z = h15.size := ⟨_, rfl⟩
  rw [← gg19] at Aa19 Bb19 st19
  have f13 : Keep h0 h19 [] := f10.ext Ex19
  have f14 : Old Z n0 h19 := f11.ext Ex19
  have f15 : Arv Z h19 b19 kc19 (.object "java/lang/Object") (1 : Int32) [.null] .null := (Arv.new Aa19 (by decide)).pad (pad_rep [] .null 1)
  obtain ⟨_, _, ⟨T25, Lo25, kk25, nn25⟩, -, X25, ⟨Lc25, hQ25, ll25, yy25, zz25⟩, st25⟩ := Jvm.LawKit.callS X19 hx (y := (⟨"java/lang/Integer", "valueOf", "(I)Ljava/lang/Integer;"⟩ : MethodName)) hown (mvT hZ (w_2 hw)) (mvT hZ (w_3 hw)) (mvT hZ (w_4 hw)) (mvT hZ (w_5 hw)) (by decide) (backOf (W := 3) (rm_valueOf l Z a0 hw [] p3 cc cl h19 n0 f14 S_high S_cache B_cache) hZ (w_5 hw) (w_4 hw) (by decide) (by decide)) (g := (mkF m 25 #[.val (.int p0), .val (.int p1), .val (.int p2), .val (.int p3), .val (.int (0 : Int32)), .val (.ref b6), .unset, .unset, .unset, .unset, .unset, .unset] [(.int p3), (.int (0 : Int32)), (.ref b19), (.ref b19)])) rfl (by rw [hml]; rfl) (argsL := [(.int p3)]) (rest := [(.int (0 : Int32)), (.ref b19), (.ref b19)]) (lenOf pd_9 rfl) rfl (by show 2 * 0 + _ ≤ _; exact Nat.le_of_eq rfl) (hb hby at_25) (fun _ _ => ⟨rfl, e19, (by decide : 3 + 1 ≤ _), (by decide : 3 + 1 ≤ _)⟩)
  dsimp only [Pt.U, Pt.locs, Pt.cells, Pt.slots] at X25 ll25 yy25 zz25 st25 hQ25
  subst ll25 yy25 zz25
  obtain ⟨b25, rfl, N25q, K25q, p25_0, p25_1⟩ := hQ25
  have N25 := Fr.app N15 N25q
  have f16 : Keep h0 T25.heap [] := f13.trans K25q all0
  have f17 : Old Z n0 T25.heap := f14.keep K25q all0
  have f18 : Arv Z T25.heap b19 kc19 (.object "java/lang/Object") (1 : Int32) [.null] .null := f15.keep K25q nin0
  obtain ⟨cl28, Ar28, qq28, Sz28, NN28, HH28, GG28⟩ := (id f18)
  have hin28 : ¬ ((0 : Int32) < 0 ∨ cl28.slots.size ≤ ((0 : Int32)).toNatClampNeg) := inb_of Sz28 ⟨by decide, by decide⟩
  obtain ⟨T28, h28, X28, e28, Wr28, st28⟩ := stR X25 hx hZ rfl Ar28 (j := (0 : Int32)) hin28 rfl (Sto.ofV Ar28 qq28 Ov19 (Ins.of_exa p25_0 (w_9 hw))) (g := (mkF m 28 #[.val (.int p0), .val (.int p1), .val (.int p2), .val (.int p3), .val (.int (0 : Int32)), .val (.ref b6), .unset, .unset, .unset, .unset, .unset, .unset] [(.ref b25), (.int (0 : Int32)), (.ref b19), (.ref b19)])) rfl rfl (hb hby at_28)
  have f20 : h0.size ≤ b19 := Nat.le_trans f10.1 (Nat.le_of_eq gg19.symm)
  have f21 : n0 ≤ b19 := Nat.le_trans (own_old_le f11) (Nat.le_of_eq gg19.symm)
  have f22 : Keep h0 h28 [] := f16.wr Wr28 (Or.inr f20)
  have f23 : Old Z n0 h28 := f17.wr Wr28 f21
  have f24 : Arv Z h28 b19 kc19 (.object "java/lang/Object") (1 : Int32) [(.ref b25)] .null := Arv.set Ar28 qq28 Sz28 NN28 HH28 GG28 rfl Wr28 0 rfl (Nat.le_of_ble_eq_true rfl)
  have N28 := Fr.snoc X28 N25 f21
  obtain ⟨T32, h32, kc32, X32, e32, Ex32, Aa32, Bb32, Ov32, st32⟩ := newRE X28 hx hZ hown (w_0 hw) (w_1 hw) e28 (g := (mkF m 32 #[.val (.int p0), .val (.int p1), .val (.int p2), .val (.int p3), .val (.int (0 : Int32)), .val (.ref b6), .val (.ref b19), .unset, .unset, .unset, .unset, .unset] [(.int (0 : Int32))])) rfl (hb hby at_32) rfl (by decide) (cap := 0) (by decide) (by decide) (by decide) (by decide) (ad := "[Ljava/lang/Object;") (by first | rfl | decide +kernel)
  obtain ⟨b32, gg32⟩ : ∃ z, z = h28.size := ⟨_, rfl⟩
  rw [← gg32] at Aa32 Bb32 st32
  have f25 : Keep h0 h32 [] := f22.ext Ex32
  have f26 : Old Z n0 h32 := f23.ext Ex32
  have f27 : Arv Z h32 b32 kc32 (.object "java/lang/Object") (0 : Int32) [] .null := (Arv.new Aa32 (by decide)).pad (pad_rep [] .null 0)
  obtain ⟨T37, h37, X37, e37, Ex37, Aa37, Df37, -, st37⟩ := newO X32 hx hZ hown (w_10 hw) (w_11 hw) (w_12 hw) e32 (g := (mkF m 37 #[.val (.int p0), .val (.int p1), .val (.int p2), .val (.int p3), .val (.int (0 : Int32)), .val (.ref b6), .val (.ref b19), .val (.ref b32), .unset, .unset, .unset, .unset] [])) rfl (hb hby at_37) (by decide) (by decide)
  obtain ⟨b37, gg37⟩ : ∃ z, z = h32.size := ⟨_, rfl⟩
  rw [← gg37] at Aa37 Df37 st37
  have f28 : Keep h0 h37 [] := f25.ext Ex37
  have f29 : Old Z n0 h37 := f26.ext Ex37
  have f30 : Fld Z h37 b37 "java/util/AbstractList" "modCount" "I" (.int (0 : Int32)) := Df37 (Or.inl (w_32 hw)) (ty := .int) (by decide)
  have f31 : Fld Z h37 b37 "java/util/ArrayList" "elementData" "[Ljava/lang/Object;" .null := Df37 (Or.inl (w_35 hw)) (ty := (.array (.object "java/lang/Object"))) (by decide)
  have f32 : Fld Z h37 b37 "java/util/ArrayList" "size" "I" (.int (0 : Int32)) := Df37 (Or.inl (w_67 hw)) (ty := .int) (by decide)
  have f33 : n0 ≤ b37 := Nat.le_trans (own_old_le f26) (Nat.le_of_eq gg37.symm)
  obtain ⟨_, _, ⟨T41, Lo41, kk41, nn41⟩, -, X41, ⟨Lc41, hQ41, ll41, yy41, zz41⟩, st41⟩ := X37.specialBack hx (y := (⟨"java/util/ArrayList", "<init>", "()V"⟩ : MethodName)) rfl hown (mvT hZ (w_13 hw)) (mvT hZ (w_14 hw)) (mvT hZ (w_15 hw)) (by decide) (backOf (W := 1) (rm_alInit l Z a0 hw [] b37 de h37 n0 f29 Aa37 f30 f31 f32 S_D f33) hZ (w_15 hw) (w_12 hw) (by decide) (by decide)) (g := (mkF m 41 #[.val (.int p0), .val (.int p1), .val (.int p2), .val (.int p3), .val (.int (0 : Int32)), .val (.ref b6), .val (.ref b19), .val (.ref b32), .unset, .unset, .unset, .unset] [(.ref b37), (.ref b37)])) rfl (by rw [hml]; rfl) (Steps.refl _) (a := b37) (argsL := []) (rest := [(.ref b37)]) (lenOf pd_0 rfl) rfl (by show 2 * 0 + _ ≤ _; exact Nat.le_of_eq rfl) (hb hby at_41) (fun _ _ => ⟨rfl, e37, (by decide : 6 + 0 ≤ _), (by decide : 7 + 0 ≤ _)⟩)
  dsimp only [Pt.U, Pt.locs, Pt.cells, Pt.slots] at X41 ll41 yy41 zz41 st41 hQ41
  subst ll41 yy41 zz41
  obtain ⟨rfl, N41q, K41q, p41_0, p41_1, p41_2, p41_3⟩ := hQ41
  have N41 := Fr.app N28 N41q
  have f34 : h0.size ≤ b37 := Nat.le_trans f25.1 (Nat.le_of_eq gg37.symm)
  have f35 : Keep h0 T41.heap [] := f28.trans K41q (allS (Or.inr f34) all0)
  have f36 : Old Z n0 T41.heap := f29.keep K41q (allS f33 all0)
  obtain ⟨T88, h88, X88, e88, Ex88, Aa88, Df88, -, st88⟩ := newO X41 hx hZ hown (w_36 hw) (w_37 hw) (w_38 hw) rfl (g := (mkF m 88 #[.val (.int p0), .val (.int p1), .val (.int p2), .val (.int p3), .val (.int (0 : Int32)), .val (.ref b6), .val (.ref b19), .val (.ref b32), .val (.ref b37), .unset, .unset, .unset] [])) rfl (hb hby at_88) (by decide) (by decide)
  obtain ⟨b88, gg88⟩ : ∃ z, z = T41.heap.size := ⟨_, rfl⟩
  rw [← gg88] at Aa88 Df88 st88
  have f37 : Keep h0 h88 [] := f35.ext Ex88
  have f38 : Old Z n0 h88 := f36.ext Ex88
  have f39 : Fld Z h88 b88 "com/example/countinghouse/countinghouse/RoundTrip$Result" "rows" "Ljava/util/List;" .null := Df88 (Or.inr (w_49 hw)) (ty := (.object "java/util/List")) (by decide)
  have f40 : Fld Z h88 b88 "com/example/countinghouse/countinghouse/RoundTrip$Result" "changed" "I" (.int (0 : Int32)) := Df88 (Or.inr (w_51 hw)) (ty := .int) (by decide)
  have f41 : n0 ≤ b88 := Nat.le_trans (own_old_le f36) (Nat.le_of_eq gg88.symm)
  obtain ⟨_, _, ⟨T95, Lo95, kk95, nn95⟩, -, X95, ⟨Lc95, hQ95, ll95, yy95, zz95⟩, st95⟩ := X88.specialBack hx (y := (⟨"com/example/countinghouse/countinghouse/RoundTrip$Result", "<init>", "(Ljava/util/List;I)V"⟩ : MethodName)) rfl hown (mvT hZ (w_39 hw)) (mvT hZ (w_40 hw)) (mvT hZ (w_41 hw)) (by decide) (backOf (W := 1) (rm_resInit l Z a0 hw [] b88 b37 p1 h88 n0 f38 Aa88 f39 f40 f41) hZ (w_41 hw) (w_38 hw) (by decide) (by decide)) (g := (mkF m 95 #[.val (.int p0), .val (.int p1), .val (.int p2), .val (.int p3), .val (.int (0 : Int32)), .val (.ref b6), .val (.ref b19), .val (.ref b32), .val (.ref b37), .unset, .unset, .unset] [(.int p1), (.ref b37), (.ref b88), (.ref b88)])) rfl (by rw [hml]; rfl) (Steps.refl _) (a := b88) (argsL := [(.ref b37), (.int p1)]) (rest := [(.ref b88)]) (lenOf pd_10 rfl) rfl (by show 2 * 0 + _ ≤ _; exact Nat.le_of_eq rfl) (hb hby at_95) (fun _ _ => ⟨rfl, e88, (by decide : 7 + 0 ≤ _), (by decide : 9 + 0 ≤ _)⟩)
  dsimp only [Pt.U, Pt.locs, Pt.cells, Pt.slots] at X95 ll95 yy95 zz95 st95 hQ95
  subst ll95 yy95 zz95
  obtain ⟨rfl, N95q, K95q, p95_0, p95_1, p95_2⟩ := hQ95
  have N95 := Fr.app N41 N95q
  have f42 : h0.size ≤ b88 := Nat.le_trans f35.1 (Nat.le_of_eq gg88.symm)
  have f43 : Keep h0 T95.heap [] := f37.trans K95q (allS (Or.inr f42) all0)
  have f44 : Old Z n0 T95.heap := f38.keep K95q (allS f41 all0)
  have f45 : Exa Z h88 b37 "java/util/ArrayList" := p41_0.ext Ex88
  have f46 : Exa Z T95.heap b37 "java/util/ArrayList" := f45.keep K95q
  have f47 : Fld Z h88 b37 "java/util/ArrayList" "size" "I" (.int (0 : Int32)) := p41_3.ext Ex88
  have f48 : Fld Z T95.heap b37 "java/util/ArrayList" "size" "I" (.int (0 : Int32)) := f47.keep K95q (ninS (Nat.ne_of_lt (Nat.lt_of_lt_of_le p41_0.lt (Nat.le_of_eq gg88.symm))) nin0)
  obtain ⟨cq102, kq102, q102a, q102b, q102c⟩ := isOf hZ rfl p95_0
  obtain ⟨_, _, ⟨T102, Lo102, kk102, nn102⟩, -, X102, ⟨Lc102, hQ102, ll102, yy102, zz102⟩, st102⟩ := X95.virtualBack hx (y := (⟨"com/example/countinghouse/countinghouse/RoundTrip$Result", "row", "()[Ljava/lang/Object;"⟩ : MethodName)) (z := (⟨"com/example/countinghouse/countinghouse/RoundTrip$Result", "row", "()[Ljava/lang/Object;"⟩ : MethodName)) hown (mvT hZ (w_52 hw)) (mvT hZ (w_53 hw)) (notFace_of_selects (args := #[]) (mvT hZ (w_55 hw))) (mvT hZ (w_55 hw)) (mvT hZ (w_54 hw)) (by decide) (backOf (W := 0) (rm_rowN l Z a0 hw [] b88 b37 T95.heap n0 f44 p95_1 f46 f48) hZ (w_56 hw) (w_38 hw) (by decide) (by decide)) q102a q102c (g := (mkF m 102 #[.val (.int p0), .val (.int p1), .val (.int p2), .val (.int p3), .val (.int (0 : Int32)), .val (.ref b6), .val (.ref b19), .val (.ref b32), .val (.ref b37), .val (.ref b88), .unset, .unset] [(.ref b88)])) rfl (by rw [hml]; rfl) (Steps.refl _) (argsL := []) (rest := []) (lenOf pd_4 rfl) rfl (by show 2 * 0 + _ ≤ _; exact Nat.le_of_eq rfl) (hb hby at_102) (fun _ _ => ⟨rfl, rfl, (by decide : 7 + 0 ≤ _), (by decide : 9 + 0 ≤ _)⟩)
  dsimp only [Pt.U, Pt.locs, Pt.cells, Pt.slots] at X102 ll102 yy102 zz102 st102 hQ102
  subst ll102 yy102 zz102
  obtain ⟨rfl, N102q, K102q⟩ := hQ102
  have N102 := Fr.app N95 N102q
  have f49 : Keep h0 T102.heap [] := f43.trans K102q all0
  have f50 : Old Z n0 T102.heap := f44.keep K102q all0
  have f51 : Fld Z T102.heap b88 "com/example/countinghouse/countinghouse/RoundTrip$Result" "rows" "Ljava/util/List;" (.ref b37) := p95_1.keep K102q nin0
  have f52 : Exa Z T102.heap b88 "com/example/countinghouse/countinghouse/RoundTrip$Result" := p95_0.keep K102q
  obtain ⟨cq169, kq169, q169a, q169b, q169c⟩ := isOf hZ rfl f52
  obtain ⟨_, _, ⟨T169, Lo169, kk169, nn169⟩, -, X169, ⟨Lc169, hQ169, ll169, yy169, zz169⟩, st169⟩ := X102.virtualBack hx (y := (⟨"com/example/countinghouse/countinghouse/RoundTrip$Result", "rows", "()Ljava/util/List;"⟩ : MethodName)) (z := (⟨"com/example/countinghouse/countinghouse/RoundTrip$Result", "rows", "()Ljava/util/List;"⟩ : MethodName)) hown (mvT hZ (w_68 hw)) (mvT hZ (w_69 hw)) (notFace_of_selects (args := #[]) (mvT hZ (w_71 hw))) (mvT hZ (w_71 hw)) (mvT hZ (w_70 hw)) (by decide) (backOf (W := 0) (rm_rows l Z a0 hw [] b88 b37 T102.heap n0 f50 f51) hZ (w_72 hw) (w_38 hw) (by decide) (by decide)) q169a q169c (g := (mkF m 169 #[.val (.int p0), .val (.int p1), .val (.int p2), .val (.int p3), .val (.int (0 : Int32)), .val (.ref b6), .val (.ref b19), .val (.ref b32), .val (.ref b37), .val (.ref b88), .val .null, .val (.int (1 : Int32))] [(.ref b88)])) rfl (by rw [hml]; rfl) (Steps.refl _) (argsL := []) (rest := []) (lenOf pd_11 rfl) rfl (by show 2 * 0 + _ ≤ _; exact Nat.le_of_eq rfl) (hb hby at_169) (fun _ _ => ⟨rfl, rfl, (by decide : 7 + 0 ≤ _), (by decide : 9 + 0 ≤ _)⟩)
  dsimp only [Pt.U, Pt.locs, Pt.cells, Pt.slots] at X169 ll169 yy169 zz169 st169 hQ169
  subst ll169 yy169 zz169
  obtain ⟨rfl, N169q, K169q⟩ := hQ169
  have N169 := Fr.app N102 N169q
  have f53 : Keep h0 T169.heap [] := f49.trans K169q all0
  have f54 : Old Z n0 T169.heap := f50.keep K169q all0
  have f55 : Fld Z T102.heap b37 "java/util/ArrayList" "size" "I" (.int (0 : Int32)) := f48.keep K102q nin0
  have f56 : Fld Z T169.heap b37 "java/util/ArrayList" "size" "I" (.int (0 : Int32)) := f55.keep K169q nin0
  have f57 : Exa Z T102.heap b37 "java/util/ArrayList" := f46.keep K102q
  have f58 : Exa Z T169.heap b37 "java/util/ArrayList" := f57.keep K169q
  obtain ⟨cq172, kq172, q172a, q172b, q172c⟩ := isOf hZ rfl f58
  obtain ⟨_, _, ⟨T172, Lo172, kk172, nn172⟩, -, X172, ⟨Lc172, hQ172, ll172, yy172, zz172⟩, st172⟩ := X169.interfaceBack hx (xi := (⟨"java/util/List", "size", "()I"⟩ : MethodName)) (y := (⟨"java/util/ArrayList", "size", "()I"⟩ : MethodName)) hown (mvT hZ (w_73 hw)) (mvT hZ (w_74 hw)) (mvT hZ (w_75 hw)) (mvT hZ (w_76 hw)) (mvT hZ (w_77 hw)) (mvT hZ (w_78 hw)) (mvT hZ (w_79 hw)) (mvT hZ (w_64 hw)) (by decide) (backOf (W := 0) (rm_size l Z a0 hw [] b37 ((0 : Int32)) T169.heap n0 f54 f56) hZ (w_80 hw) (w_12 hw) (by decide) (by decide)) q172a q172b q172c (g := (mkF m 172 #[.val (.int p0), .val (.int p1), .val (.int p2), .val (.int p3), .val (.int (0 : Int32)), .val (.ref b6), .val (.ref b19), .val (.ref b32), .val (.ref b37), .val (.ref b88), .val .null, .val (.int (1 : Int32))] [(.ref b37)])) rfl (by rw [hml]; rfl) (Steps.refl _) (argsL := []) (rest := []) (lenOf pd_12 rfl) rfl (by show 2 * 0 + _ ≤ _; exact Nat.le_of_eq rfl) (hb hby at_172) (fun _ _ => ⟨rfl, rfl, (by decide : 7 + 0 ≤ _), (by decide : 9 + 0 ≤ _)⟩)
  dsimp only [Pt.U, Pt.locs, Pt.cells, Pt.slots] at X172 ll172 yy172 zz172 st172 hQ172
  subst ll172 yy172 zz172
  obtain ⟨rfl, N172q, K172q⟩ := hQ172
  have N172 := Fr.app N169 N172q
  have f59 : Keep h0 T172.heap [] := f53.trans K172q all0
  have f60 : Old Z n0 T172.heap := f54.keep K172q all0
  have f61 : Fld Z T102.heap b88 "com/example/countinghouse/countinghouse/RoundTrip$Result" "changed" "I" (.int p1) := p95_2.keep K102q nin0
  have f62 : Fld Z T169.heap b88 "com/example/countinghouse/countinghouse/RoundTrip$Result" "changed" "I" (.int p1) := f61.keep K169q nin0
  have f63 : Fld Z T172.heap b88 "com/example/countinghouse/countinghouse/RoundTrip$Result" "changed" "I" (.int p1) := f62.keep K172q nin0
  have f64 : Exa Z T169.heap b88 "com/example/countinghouse/countinghouse/RoundTrip$Result" := f52.keep K169q
  have f65 : Exa Z T172.heap b88 "com/example/countinghouse/countinghouse/RoundTrip$Result" := f64.keep K172q
  obtain ⟨cq184, kq184, q184a, q184b, q184c⟩ := isOf hZ rfl f65
  obtain ⟨_, _, ⟨T184, Lo184, kk184, nn184⟩, -, X184, ⟨Lc184, hQ184, ll184, yy184, zz184⟩, st184⟩ := X172.virtualBack hx (y := (⟨"com/example/countinghouse/countinghouse/RoundTrip$Result", "changed", "()I"⟩ : MethodName)) (z := (⟨"com/example/countinghouse/countinghouse/RoundTrip$Result", "changed", "()I"⟩ : MethodName)) hown (mvT hZ (w_81 hw)) (mvT hZ (w_82 hw)) (notFace_of_selects (args := #[]) (mvT hZ (w_84 hw))) (mvT hZ (w_84 hw)) (mvT hZ (w_83 hw)) (by decide) (backOf (W := 0) (rm_changed l Z a0 hw [] b88 p1 T172.heap n0 f60 f63) hZ (w_85 hw) (w_38 hw) (by decide) (by decide)) q184a q184c (g := (mkF m 184 #[.val (.int p0), .val (.int p1), .val (.int p2), .val (.int p3), .val (.int (0 : Int32)), .val (.ref b6), .val (.ref b19), .val (.ref b32), .val (.ref b37), .val (.ref b88), .val .null, .val (.int (1 : Int32))] [(.ref b88)])) rfl (by rw [hml]; rfl) (Steps.refl _) (argsL := []) (rest := []) (lenOf pd_12 rfl) rfl (by show 2 * 0 + _ ≤ _; exact Nat.le_of_eq rfl) (hb hby at_184) (fun _ _ => ⟨rfl, rfl, (by decide : 7 + 0 ≤ _), (by decide : 9 + 0 ≤ _)⟩)
  dsimp only [Pt.U, Pt.locs, Pt.cells, Pt.slots] at X184 ll184 yy184 zz184 st184 hQ184
  subst ll184 yy184 zz184
  obtain ⟨rfl, N184q, K184q⟩ := hQ184
  have N184 := Fr.app N172 N184q
  have f66 : Keep h0 T184.heap [] := f59.trans K184q all0
  have f67 : Old Z n0 T184.heap := f60.keep K184q all0
  obtain ⟨fs, hr, hrun, hended, hW, hsame⟩ := X184.leave (v := some (.int (1 : Int32))) (fun h => by rw [Bd.returns] at h; cases h)
  refine ⟨_, _, pre0 _ ?_, hrun, hended, _, _, rfl, ?_, ⟨_, rfl⟩, hW, hsame.mono (by decide) (by decide)⟩
  · show Steps p.tables e below (s₁.setTop (mkF m 0 #[.val (.int p0), .val (.int p1), .val (.int p2), .val (.int p3), .unset, .unset, .unset, .unset, .unset, .unset, .unset, .unset] [])) _
    refine XS.iloadN X0.here hx rfl (hb hby at_0) rfl ?_
    show Steps p.tables e below (s₁.setTop (mkF m 1 #[.val (.int p0), .val (.int p1), .val (.int p2), .val (.int p3), .unset, .unset, .unset, .unset, .unset, .unset, .unset, .unset] [(.int p0)])) _
    refine XS.iconst X0.here hx rfl (hb hby at_1) ?_
    show Steps p.tables e below (s₁.setTop (mkF m 2 #[.val (.int p0), .val (.int p1), .val (.int p2), .val (.int p3), .unset, .unset, .unset, .unset, .unset, .unset, .unset, .unset] [(.int (3 : Int32)), (.int p0)])) _
    refine XS.iand X0.here hx rfl (hb hby at_2) rfl ?_
    show Steps p.tables e below (s₁.setTop (mkF m 3 #[.val (.int p0), .val (.int p1), .val (.int p2), .val (.int p3), .unset, .unset, .unset, .unset, .unset, .unset, .unset, .unset] [(.int (p0 &&& (3 : Int32)))])) _
    rw [hi]
    show Steps p.tables e below (s₁.setTop (mkF m 3 #[.val (.int p0), .val (.int p1), .val (.int p2), .val (.int p3), .unset, .unset, .unset, .unset, .unset, .unset, .unset, .unset] [(.int (0 : Int32))])) _
    refine XS.istore X0.here hx rfl (hb hby at_3) rfl (l' := #[.val (.int p0), .val (.int p1), .val (.int p2), .val (.int p3), .val (.int (0 : Int32)), .unset, .unset, .unset, .unset, .unset, .unset, .unset]) rfl ?_
    show Steps p.tables e below (s₁.setTop (mkF m 5 #[.val (.int p0), .val (.int p1), .val (.int p2), .val (.int p3), .val (.int (0 : Int32)), .unset, .unset, .unset, .unset, .unset, .unset, .unset] [])) _
    refine XS.iconst X0.here hx rfl (hb hby at_5) ?_
    show Steps p.tables e below (s₁.setTop (mkF m 6 #[.val (.int p0), .val (.int p1), .val (.int p2), .val (.int p3), .val (.int (0 : Int32)), .unset, .unset, .unset, .unset, .unset, .unset, .unset] [(.int (1 : Int32))])) _
    refine st6 _ ?_
    show Steps p.tables e below (T6.setTop (mkF m 9 #[.val (.int p0), .val (.int p1), .val (.int p2), .val (.int p3), .val (.int (0 : Int32)), .unset, .unset, .unset, .unset, .unset, .unset, .unset] [(.ref b6)])) _
    refine XS.dup X6.here hx rfl (hb hby at_9) rfl rfl ?_
    show Steps p.tables e below (T6.setTop (mkF m 10 #[.val (.int p0), .val (.int p1), .val (.int p2), .val (.int p3), .val (.int (0 : Int32)), .unset, .unset, .unset, .unset, .unset, .unset, .unset] [(.ref b6), (.ref b6)])) _
    refine XS.iconst X6.here hx rfl (hb hby at_10) ?_
    show Steps p.tables e below (T6.setTop (mkF m 11 #[.val (.int p0), .val (.int p1), .val (.int p2), .val (.int p3), .val (.int (0 : Int32)), .unset, .unset, .unset, .unset, .unset, .unset, .unset] [(.int (0 : Int32)), (.ref b6), (.ref b6)])) _
    refine XS.iloadN X6.here hx rfl (hb hby at_11) rfl ?_
    show Steps p.tables e below (T6.setTop (mkF m 12 #[.val (.int p0), .val (.int p1), .val (.int p2), .val (.int p3), .val (.int (0 : Int32)), .unset, .unset, .unset, .unset, .unset, .unset, .unset] [(.int p2), (.int (0 : Int32)), (.ref b6), (.ref b6)])) _
    refine st12 _ ?_
    show Steps p.tables e below (T12.setTop (mkF m 15 #[.val (.int p0), .val (.int p1), .val (.int p2), .val (.int p3), .val (.int (0 : Int32)), .unset, .unset, .unset, .unset, .unset, .unset, .unset] [(.ref b12), (.int (0 : Int32)), (.ref b6), (.ref b6)])) _
    refine st15 _ ?_
    show Steps p.tables e below (T15.setTop (mkF m 16 #[.val (.int p0), .val (.int p1), .val (.int p2), .val (.int p3), .val (.int (0 : Int32)), .unset, .unset, .unset, .unset, .unset, .unset, .unset] [(.ref b6)])) _
    refine XS.astore X15.here hx rfl (hb hby at_16) rfl rfl (l' := #[.val (.int p0), .val (.int p1), .val (.int p2), .val (.int p3), .val (.int (0 : Int32)), .val (.ref b6), .unset, .unset, .unset, .unset, .unset, .unset]) rfl ?_
    show Steps p.tables e below (T15.setTop (mkF m 18 #[.val (.int p0), .val (.int p1), .val (.int p2), .val (.int p3), .val (.int (0 : Int32)), .val (.ref b6), .unset, .unset, .unset, .unset, .unset, .unset] [])) _
    refine XS.iconst X15.here hx rfl (hb hby at_18) ?_
    show Steps p.tables e below (T15.setTop (mkF m 19 #[.val (.int p0), .val (.int p1), .val (.int p2), .val (.int p3), .val (.int (0 : Int32)), .val (.ref b6), .unset, .unset, .unset, .unset, .unset, .unset] [(.int (1 : Int32))])) _
    refine st19 _ ?_
    show Steps p.tables e below (T19.setTop (mkF m 22 #[.val (.int p0), .val (.int p1), .val (.int p2), .val (.int p3), .val (.int (0 : Int32)), .val (.ref b6), .unset, .unset, .unset, .unset, .unset, .unset] [(.ref b19)])) _
    refine XS.dup X19.here hx rfl (hb hby at_22) rfl rfl ?_
    show Steps p.tables e below (T19.setTop (mkF m 23 #[.val (.int p0), .val (.int p1), .val (.int p2), .val (.int p3), .val (.int (0 : Int32)), .val (.ref b6), .unset, .unset, .unset, .unset, .unset, .unset] [(.ref b19), (.ref b19)])) _
    refine XS.iconst X19.here hx rfl (hb hby at_23) ?_
    show Steps p.tables e below (T19.setTop (mkF m 24 #[.val (.int p0), .val (.int p1), .val (.int p2), .val (.int p3), .val (.int (0 : Int32)), .val (.ref b6), .unset, .unset, .unset, .unset, .unset, .unset] [(.int (0 : Int32)), (.ref b19), (.ref b19)])) _
    refine XS.iloadN X19.here hx rfl (hb hby at_24) rfl ?_
    show Steps p.tables e below (T19.setTop (mkF m 25 #[.val (.int p0), .val (.int p1), .val (.int p2), .val (.int p3), .val (.int (0 : Int32)), .val (.ref b6), .unset, .unset, .unset, .unset, .unset, .unset] [(.int p3), (.int (0 : Int32)), (.ref b19), (.ref b19)])) _
    refine st25 _ ?_
    show Steps p.tables e below (T25.setTop (mkF m 28 #[.val (.int p0), .val (.int p1), .val (.int p2), .val (.int p3), .val (.int (0 : Int32)), .val (.ref b6), .unset, .unset, .unset, .unset, .unset, .unset] [(.ref b25), (.int (0 : Int32)), (.ref b19), (.ref b19)])) _
    refine st28 _ ?_
    show Steps p.tables e below (T28.setTop (mkF m 29 #[.val (.int p0), .val (.int p1), .val (.int p2), .val (.int p3), .val (.int (0 : Int32)), .val (.ref b6), .unset, .unset, .unset, .unset, .unset, .unset] [(.ref b19)])) _
    refine XS.astore X28.here hx rfl (hb hby at_29) rfl rfl (l' := #[.val (.int p0), .val (.int p1), .val (.int p2), .val (.int p3), .val (.int (0 : Int32)), .val (.ref b6), .val (.ref b19), .unset, .unset, .unset, .unset, .unset]) rfl ?_
    show Steps p.tables e below (T28.setTop (mkF m 31 #[.val (.int p0), .val (.int p1), .val (.int p2), .val (.int p3), .val (.int (0 : Int32)), .val (.ref b6), .val (.ref b19), .unset, .unset, .unset, .unset, .unset] [])) _
    refine XS.iconst X28.here hx rfl (hb hby at_31) ?_
    show Steps p.tables e below (T28.setTop (mkF m 32 #[.val (.int p0), .val (.int p1), .val (.int p2), .val (.int p3), .val (.int (0 : Int32)), .val (.ref b6), .val (.ref b19), .unset, .unset, .unset, .unset, .unset] [(.int (0 : Int32))])) _
    refine st32 _ ?_
    show Steps p.tables e below (T32.setTop (mkF m 35 #[.val (.int p0), .val (.int p1), .val (.int p2), .val (.int p3), .val (.int (0 : Int32)), .val (.ref b6), .val (.ref b19), .unset, .unset, .unset, .unset, .unset] [(.ref b32)])) _
    refine XS.astore X32.here hx rfl (hb hby at_35) rfl rfl (l' := #[.val (.int p0), .val (.int p1), .val (.int p2), .val (.int p3), .val (.int (0 : Int32)), .val (.ref b6), .val (.ref b19), .val (.ref b32), .unset, .unset, .unset, .unset]) rfl ?_
    show Steps p.tables e below (T32.setTop (mkF m 37 #[.val (.int p0), .val (.int p1), .val (.int p2), .val (.int p3), .val (.int (0 : Int32)), .val (.ref b6), .val (.ref b19), .val (.ref b32), .unset, .unset, .unset, .unset] [])) _
    refine st37 _ ?_
    show Steps p.tables e below (T37.setTop (mkF m 40 #[.val (.int p0), .val (.int p1), .val (.int p2), .val (.int p3), .val (.int (0 : Int32)), .val (.ref b6), .val (.ref b19), .val (.ref b32), .unset, .unset, .unset, .unset] [(.ref b37)])) _
    refine XS.dup X37.here hx rfl (hb hby at_40) rfl rfl ?_
    show Steps p.tables e below (T37.setTop (mkF m 41 #[.val (.int p0), .val (.int p1), .val (.int p2), .val (.int p3), .val (.int (0 : Int32)), .val (.ref b6), .val (.ref b19), .val (.ref b32), .unset, .unset, .unset, .unset] [(.ref b37), (.ref b37)])) _
    refine st41.trans ?_
    show Steps p.tables e below (T41.setTop (mkF m 44 #[.val (.int p0), .val (.int p1), .val (.int p2), .val (.int p3), .val (.int (0 : Int32)), .val (.ref b6), .val (.ref b19), .val (.ref b32), .unset, .unset, .unset, .unset] [(.ref b37)])) _
    refine XS.astore X41.here hx rfl (hb hby at_44) rfl rfl (l' := #[.val (.int p0), .val (.int p1), .val (.int p2), .val (.int p3), .val (.int (0 : Int32)), .val (.ref b6), .val (.ref b19), .val (.ref b32), .val (.ref b37), .unset, .unset, .unset]) rfl ?_
    show Steps p.tables e below (T41.setTop (mkF m 46 #[.val (.int p0), .val (.int p1), .val (.int p2), .val (.int p3), .val (.int (0 : Int32)), .val (.ref b6), .val (.ref b19), .val (.ref b32), .val (.ref b37), .unset, .unset, .unset] [])) _
    refine XS.iload X41.here hx rfl (hb hby at_46) rfl ?_
    show Steps p.tables e below (T41.setTop (mkF m 48 #[.val (.int p0), .val (.int p1), .val (.int p2), .val (.int p3), .val (.int (0 : Int32)), .val (.ref b6), .val (.ref b19), .val (.ref b32), .val (.ref b37), .unset, .unset, .unset] [(.int (0 : Int32))])) _
    refine XS.iconst X41.here hx rfl (hb hby at_48) ?_
    show Steps p.tables e below (T41.setTop (mkF m 49 #[.val (.int p0), .val (.int p1), .val (.int p2), .val (.int p3), .val (.int (0 : Int32)), .val (.ref b6), .val (.ref b19), .val (.ref b32), .val (.ref b37), .unset, .unset, .unset] [(.int (1 : Int32)), (.int (0 : Int32))])) _
    refine XS.icmpYes X41.here hx rfl (pc0 := 49) (pc' := 60) rfl (hb hby at_49) rfl (tlt (by decide : (0 : Int32) < (1 : Int32))).1 (by decide) (by decide) ?_
    show Steps p.tables e below (T41.setTop (mkF m 60 #[.val (.int p0), .val (.int p1), .val (.int p2), .val (.int p3), .val (.int (0 : Int32)), .val (.ref b6), .val (.ref b19), .val (.ref b32), .val (.ref b37), .unset, .unset, .unset] [])) _
    refine XS.iload X41.here hx rfl (hb hby at_60) rfl ?_
    show Steps p.tables e below (T41.setTop (mkF m 62 #[.val (.int p0), .val (.int p1), .val (.int p2), .val (.int p3), .val (.int (0 : Int32)), .val (.ref b6), .val (.ref b19), .val (.ref b32), .val (.ref b37), .unset, .unset, .unset] [(.int (0 : Int32))])) _
    refine XS.iconst X41.here hx rfl (hb hby at_62) ?_
    show Steps p.tables e below (T41.setTop (mkF m 63 #[.val (.int p0), .val (.int p1), .val (.int p2), .val (.int p3), .val (.int (0 : Int32)), .val (.ref b6), .val (.ref b19), .val (.ref b32), .val (.ref b37), .unset, .unset, .unset] [(.int (2 : Int32)), (.int (0 : Int32))])) _
    refine XS.icmpYes X41.here hx rfl (pc0 := 63) (pc' := 74) rfl (hb hby at_63) rfl (tlt (by decide : (0 : Int32) < (2 : Int32))).1 (by decide) (by decide) ?_
    show Steps p.tables e below (T41.setTop (mkF m 74 #[.val (.int p0), .val (.int p1), .val (.int p2), .val (.int p3), .val (.int (0 : Int32)), .val (.ref b6), .val (.ref b19), .val (.ref b32), .val (.ref b37), .unset, .unset, .unset] [])) _
    refine XS.iload X41.here hx rfl (hb hby at_74) rfl ?_
    show Steps p.tables e below (T41.setTop (mkF m 76 #[.val (.int p0), .val (.int p1), .val (.int p2), .val (.int p3), .val (.int (0 : Int32)), .val (.ref b6), .val (.ref b19), .val (.ref b32), .val (.ref b37), .unset, .unset, .unset] [(.int (0 : Int32))])) _
    refine XS.iconst X41.here hx rfl (hb hby at_76) ?_
    show Steps p.tables e below (T41.setTop (mkF m 77 #[.val (.int p0), .val (.int p1), .val (.int p2), .val (.int p3), .val (.int (0 : Int32)), .val (.ref b6), .val (.ref b19), .val (.ref b32), .val (.ref b37), .unset, .unset, .unset] [(.int (3 : Int32)), (.int (0 : Int32))])) _
    refine XS.icmpYes X41.here hx rfl (pc0 := 77) (pc' := 88) rfl (hb hby at_77) rfl (tlt (by decide : (0 : Int32) < (3 : Int32))).1 (by decide) (by decide) ?_
    show Steps p.tables e below (T41.setTop (mkF m 88 #[.val (.int p0), .val (.int p1), .val (.int p2), .val (.int p3), .val (.int (0 : Int32)), .val (.ref b6), .val (.ref b19), .val (.ref b32), .val (.ref b37), .unset, .unset, .unset] [])) _
    refine st88 _ ?_
    show Steps p.tables e below (T88.setTop (mkF m 91 #[.val (.int p0), .val (.int p1), .val (.int p2), .val (.int p3), .val (.int (0 : Int32)), .val (.ref b6), .val (.ref b19), .val (.ref b32), .val (.ref b37), .unset, .unset, .unset] [(.ref b88)])) _
    refine XS.dup X88.here hx rfl (hb hby at_91) rfl rfl ?_
    show Steps p.tables e below (T88.setTop (mkF m 92 #[.val (.int p0), .val (.int p1), .val (.int p2), .val (.int p3), .val (.int (0 : Int32)), .val (.ref b6), .val (.ref b19), .val (.ref b32), .val (.ref b37), .unset, .unset, .unset] [(.ref b88), (.ref b88)])) _
    refine XS.aload X88.here hx rfl (hb hby at_92) rfl rfl ?_
    show Steps p.tables e below (T88.setTop (mkF m 94 #[.val (.int p0), .val (.int p1), .val (.int p2), .val (.int p3), .val (.int (0 : Int32)), .val (.ref b6), .val (.ref b19), .val (.ref b32), .val (.ref b37), .unset, .unset, .unset] [(.ref b37), (.ref b88), (.ref b88)])) _
    refine XS.iloadN X88.here hx rfl (hb hby at_94) rfl ?_
    show Steps p.tables e below (T88.setTop (mkF m 95 #[.val (.int p0), .val (.int p1), .val (.int p2), .val (.int p3), .val (.int (0 : Int32)), .val (.ref b6), .val (.ref b19), .val (.ref b32), .val (.ref b37), .unset, .unset, .unset] [(.int p1), (.ref b37), (.ref b88), (.ref b88)])) _
    refine st95.trans ?_
    show Steps p.tables e below (T95.setTop (mkF m 98 #[.val (.int p0), .val (.int p1), .val (.int p2), .val (.int p3), .val (.int (0 : Int32)), .val (.ref b6), .val (.ref b19), .val (.ref b32), .val (.ref b37), .unset, .unset, .unset] [(.ref b88)])) _
    refine XS.astore X95.here hx rfl (hb hby at_98) rfl rfl (l' := #[.val (.int p0), .val (.int p1), .val (.int p2), .val (.int p3), .val (.int (0 : Int32)), .val (.ref b6), .val (.ref b19), .val (.ref b32), .val (.ref b37), .val (.ref b88), .unset, .unset]) rfl ?_
    show Steps p.tables e below (T95.setTop (mkF m 100 #[.val (.int p0), .val (.int p1), .val (.int p2), .val (.int p3), .val (.int (0 : Int32)), .val (.ref b6), .val (.ref b19), .val (.ref b32), .val (.ref b37), .val (.ref b88), .unset, .unset] [])) _
    refine XS.aload X95.here hx rfl (hb hby at_100) rfl rfl ?_
    show Steps p.tables e below (T95.setTop (mkF m 102 #[.val (.int p0), .val (.int p1), .val (.int p2), .val (.int p3), .val (.int (0 : Int32)), .val (.ref b6), .val (.ref b19), .val (.ref b32), .val (.ref b37), .val (.ref b88), .unset, .unset] [(.ref b88)])) _
    refine st102.trans ?_
    show Steps p.tables e below (T102.setTop (mkF m 105 #[.val (.int p0), .val (.int p1), .val (.int p2), .val (.int p3), .val (.int (0 : Int32)), .val (.ref b6), .val (.ref b19), .val (.ref b32), .val (.ref b37), .val (.ref b88), .unset, .unset] [.null])) _
    refine XS.astore X102.here hx rfl (hb hby at_105) rfl rfl (l' := #[.val (.int p0), .val (.int p1), .val (.int p2), .val (.int p3), .val (.int (0 : Int32)), .val (.ref b6), .val (.ref b19), .val (.ref b32), .val (.ref b37), .val (.ref b88), .val .null, .unset]) rfl ?_
    show Steps p.tables e below (T102.setTop (mkF m 107 #[.val (.int p0), .val (.int p1), .val (.int p2), .val (.int p3), .val (.int (0 : Int32)), .val (.ref b6), .val (.ref b19), .val (.ref b32), .val (.ref b37), .val (.ref b88), .val .null, .unset] [])) _
    refine XS.iload X102.here hx rfl (hb hby at_107) rfl ?_
    show Steps p.tables e below (T102.setTop (mkF m 109 #[.val (.int p0), .val (.int p1), .val (.int p2), .val (.int p3), .val (.int (0 : Int32)), .val (.ref b6), .val (.ref b19), .val (.ref b32), .val (.ref b37), .val (.ref b88), .val .null, .unset] [(.int (0 : Int32))])) _
    refine XS.ifNo X102.here hx rfl (hb hby at_109) rfl ((if0 _ _).trans (teq (by decide : (0 : Int32) = (0 : Int32))).2) ?_
    show Steps p.tables e below (T102.setTop (mkF m 112 #[.val (.int p0), .val (.int p1), .val (.int p2), .val (.int p3), .val (.int (0 : Int32)), .val (.ref b6), .val (.ref b19), .val (.ref b32), .val (.ref b37), .val (.ref b88), .val .null, .unset] [])) _
    refine XS.aload X102.here hx rfl (hb hby at_112) rfl rfl ?_
    show Steps p.tables e below (T102.setTop (mkF m 114 #[.val (.int p0), .val (.int p1), .val (.int p2), .val (.int p3), .val (.int (0 : Int32)), .val (.ref b6), .val (.ref b19), .val (.ref b32), .val (.ref b37), .val (.ref b88), .val .null, .unset] [.null])) _
    refine XS.ifnonnullNo X102.here hx rfl (hb hby at_114) rfl ?_
    show Steps p.tables e below (T102.setTop (mkF m 117 #[.val (.int p0), .val (.int p1), .val (.int p2), .val (.int p3), .val (.int (0 : Int32)), .val (.ref b6), .val (.ref b19), .val (.ref b32), .val (.ref b37), .val (.ref b88), .val .null, .unset] [])) _
    refine XS.iconst X102.here hx rfl (hb hby at_117) ?_
    show Steps p.tables e below (T102.setTop (mkF m 118 #[.val (.int p0), .val (.int p1), .val (.int p2), .val (.int p3), .val (.int (0 : Int32)), .val (.ref b6), .val (.ref b19), .val (.ref b32), .val (.ref b37), .val (.ref b88), .val .null, .unset] [(.int (1 : Int32))])) _
    refine XS.goto X102.here hx rfl (pc0 := 118) (pc' := 122) rfl (hb hby at_118) (by decide) (by decide) ?_
    show Steps p.tables e below (T102.setTop (mkF m 122 #[.val (.int p0), .val (.int p1), .val (.int p2), .val (.int p3), .val (.int (0 : Int32)), .val (.ref b6), .val (.ref b19), .val (.ref b32), .val (.ref b37), .val (.ref b88), .val .null, .unset] [(.int (1 : Int32))])) _
    refine XS.istore X102.here hx rfl (hb hby at_122) rfl (l' := #[.val (.int p0), .val (.int p1), .val (.int p2), .val (.int p3), .val (.int (0 : Int32)), .val (.ref b6), .val (.ref b19), .val (.ref b32), .val (.ref b37), .val (.ref b88), .val .null, .val (.int (1 : Int32))]) rfl ?_
    show Steps p.tables e below (T102.setTop (mkF m 124 #[.val (.int p0), .val (.int p1), .val (.int p2), .val (.int p3), .val (.int (0 : Int32)), .val (.ref b6), .val (.ref b19), .val (.ref b32), .val (.ref b37), .val (.ref b88), .val .null, .val (.int (1 : Int32))] [])) _
    refine XS.goto X102.here hx rfl (pc0 := 124) (pc' := 162) rfl (hb hby at_124) (by decide) (by decide) ?_
    show Steps p.tables e below (T102.setTop (mkF m 162 #[.val (.int p0), .val (.int p1), .val (.int p2), .val (.int p3), .val (.int (0 : Int32)), .val (.ref b6), .val (.ref b19), .val (.ref b32), .val (.ref b37), .val (.ref b88), .val .null, .val (.int (1 : Int32))] [])) _
    refine XS.iload X102.here hx rfl (hb hby at_162) rfl ?_
    show Steps p.tables e below (T102.setTop (mkF m 164 #[.val (.int p0), .val (.int p1), .val (.int p2), .val (.int p3), .val (.int (0 : Int32)), .val (.ref b6), .val (.ref b19), .val (.ref b32), .val (.ref b37), .val (.ref b88), .val .null, .val (.int (1 : Int32))] [(.int (1 : Int32))])) _
    refine XS.ifNo X102.here hx rfl (hb hby at_164) rfl ((if0 _ _).trans (feq (by decide : ¬ ((1 : Int32) = (0 : Int32)))).1) ?_
    show Steps p.tables e below (T102.setTop (mkF m 167 #[.val (.int p0), .val (.int p1), .val (.int p2), .val (.int p3), .val (.int (0 : Int32)), .val (.ref b6), .val (.ref b19), .val (.ref b32), .val (.ref b37), .val (.ref b88), .val .null, .val (.int (1 : Int32))] [])) _
    refine XS.aload X102.here hx rfl (hb hby at_167) rfl rfl ?_
    show Steps p.tables e below (T102.setTop (mkF m 169 #[.val (.int p0), .val (.int p1), .val (.int p2), .val (.int p3), .val (.int (0 : Int32)), .val (.ref b6), .val (.ref b19), .val (.ref b32), .val (.ref b37), .val (.ref b88), .val .null, .val (.int (1 : Int32))] [(.ref b88)])) _
    refine st169.trans ?_
    show Steps p.tables e below (T169.setTop (mkF m 172 #[.val (.int p0), .val (.int p1), .val (.int p2), .val (.int p3), .val (.int (0 : Int32)), .val (.ref b6), .val (.ref b19), .val (.ref b32), .val (.ref b37), .val (.ref b88), .val .null, .val (.int (1 : Int32))] [(.ref b37)])) _
    refine st172.trans ?_
    show Steps p.tables e below (T172.setTop (mkF m 177 #[.val (.int p0), .val (.int p1), .val (.int p2), .val (.int p3), .val (.int (0 : Int32)), .val (.ref b6), .val (.ref b19), .val (.ref b32), .val (.ref b37), .val (.ref b88), .val .null, .val (.int (1 : Int32))] [(.int (0 : Int32))])) _
    refine XS.iload X172.here hx rfl (hb hby at_177) rfl ?_
    show Steps p.tables e below (T172.setTop (mkF m 179 #[.val (.int p0), .val (.int p1), .val (.int p2), .val (.int p3), .val (.int (0 : Int32)), .val (.ref b6), .val (.ref b19), .val (.ref b32), .val (.ref b37), .val (.ref b88), .val .null, .val (.int (1 : Int32))] [(.int (0 : Int32)), (.int (0 : Int32))])) _
    refine XS.icmpNo X172.here hx rfl (hb hby at_179) rfl (teq (by decide : (0 : Int32) = (0 : Int32))).2 ?_
    show Steps p.tables e below (T172.setTop (mkF m 182 #[.val (.int p0), .val (.int p1), .val (.int p2), .val (.int p3), .val (.int (0 : Int32)), .val (.ref b6), .val (.ref b19), .val (.ref b32), .val (.ref b37), .val (.ref b88), .val .null, .val (.int (1 : Int32))] [])) _
    refine XS.aload X172.here hx rfl (hb hby at_182) rfl rfl ?_
    show Steps p.tables e below (T172.setTop (mkF m 184 #[.val (.int p0), .val (.int p1), .val (.int p2), .val (.int p3), .val (.int (0 : Int32)), .val (.ref b6), .val (.ref b19), .val (.ref b32), .val (.ref b37), .val (.ref b88), .val .null, .val (.int (1 : Int32))] [(.ref b88)])) _
    refine st184.trans ?_
    show Steps p.tables e below (T184.setTop (mkF m 187 #[.val (.int p0), .val (.int p1), .val (.int p2), .val (.int p3), .val (.int (0 : Int32)), .val (.ref b6), .val (.ref b19), .val (.ref b32), .val (.ref b37), .val (.ref b88), .val .null, .val (.int (1 : Int32))] [(.int p1)])) _
    refine XS.iloadN X184.here hx rfl (hb hby at_187) rfl ?_
    show Steps p.tables e below (T184.setTop (mkF m 188 #[.val (.int p0), .val (.int p1), .val (.int p2), .val (.int p3), .val (.int (0 : Int32)), .val (.ref b6), .val (.ref b19), .val (.ref b32), .val (.ref b37), .val (.ref b88), .val .null, .val (.int (1 : Int32))] [(.int p1), (.int p1)])) _
    refine XS.icmpNo X184.here hx rfl (hb hby at_188) rfl (teq (rfl : p1 = p1)).2 ?_
    show Steps p.tables e below (T184.setTop (mkF m 191 #[.val (.int p0), .val (.int p1), .val (.int p2), .val (.int p3), .val (.int (0 : Int32)), .val (.ref b6), .val (.ref b19), .val (.ref b32), .val (.ref b37), .val (.ref b88), .val .null, .val (.int (1 : Int32))] [])) _
    refine XS.iconst X184.here hx rfl (hb hby at_191) ?_
    show Steps p.tables e below (T184.setTop (mkF m 192 #[.val (.int p0), .val (.int p1), .val (.int p2), .val (.int p3), .val (.int (0 : Int32)), .val (.ref b6), .val (.ref b19), .val (.ref b32), .val (.ref b37), .val (.ref b88), .val .null, .val (.int (1 : Int32))] [(.int (1 : Int32))])) _
    refine XS.goto X184.here hx rfl (pc0 := 192) (pc' := 196) rfl (hb hby at_192) (by decide) (by decide) ?_
    show Steps p.tables e below (T184.setTop (mkF m 196 #[.val (.int p0), .val (.int p1), .val (.int p2), .val (.int p3), .val (.int (0 : Int32)), .val (.ref b6), .val (.ref b19), .val (.ref b32), .val (.ref b37), .val (.ref b88), .val .null, .val (.int (1 : Int32))] [(.int (1 : Int32))])) _
    exact retN X184 hx (t := .boolean) Bd.returns (by simp) (hb hby at_196) hr
  · show Q_law Z p0 p1 p2 p3 cc cl de kde h0 n0 _ T184.heap _
    exact ⟨rfl, N184, f66⟩
theorem ef_rm_law_1 (m : MethodId) (x0 : Int32) (x1 : Int32) (x2 : Int32) (x3 : Int32) : entryFrame m #[(.int x0), (.int x1), (.int x2), (.int x3)] maxLocals = mkF m 0 #[.val (.int x0), .val (.int x1), .val (.int x2), .val (.int x3), .unset, .unset, .unset, .unset, .unset, .unset, .unset, .unset] [] := by first | (simp [entryFrame, mkF, argsToLocals, Value.category, maxLocals]; done) | rfl
set_option maxRecDepth 65536 in
set_option maxHeartbeats 40000000 in
theorem rm_law_1 (l : Launch) (Z : State) (a0 : Array Value) (hw : ∀ d ∈ tables_1, d.before a0 Z = true) (ws : List Jvm.Cond) (p0 : Int32) (p1 : Int32) (p2 : Int32) (p3 : Int32) (cc : Addr) (cl : Cell) (de : Addr) (kde : ClassId) (h0 : Heap) (n0 : Nat) (O0 : Old Z n0 h0) (S_high : Sta Z Z.heap "java/lang/Integer$IntegerCache" "high" "I" (.int (127 : Int32))) (S_cache : Sta Z Z.heap "java/lang/Integer$IntegerCache" "cache" "[Ljava/lang/Integer;" (.ref cc)) (B_cache : Bxs Z cc cl "java/lang/Integer" "I" (256 : Int32) (fun j => .int (j - 128))) (S_D : Sta Z Z.heap "java/util/ArrayList" "DEFAULTCAPACITY_EMPTY_ELEMENTDATA" "[Ljava/lang/Object;" (.ref de)) (V_D : Arv Z Z.heap de kde (.object "java/lang/Object") (0 : Int32) [] .null) (hi : (p0 &&& (3 : Int32)) = (1 : Int32)) :
    MetFree l x (head1 (Jvm.Cond.code x code maxLocals ret :: ws) room_1) (fun as' U => as' = #[(.int p0), (.int p1), (.int p2), (.int p3)] ∧ Z.Warmed39 U.vm ∧ U.heap = h0) (fun _ _ _ _ _ => True) (fun _ U o U' => ∃ v L, o = .returned v ∧ Q_law Z p0 p1 p2 p3 cc cl de kde h0 n0 v U'.heap L ∧ FrameEnd U o U' L room_1.cells room_1.slots) := by
  refine MetFree.of_bodySF (plainFor_of_name pn_com_example_countinghouse_countinghouse_ResultRowPinLaw) hisR ?_
  intro p e s m args below meth c s₁ Bd hml0 hP hK
  obtain ⟨rfl, hZ, hh⟩ := hP
  have hx := Bd.exec
  have hby := Bd.bytes
  have hml : c.maxLocals = 12 := hml0
  have hown : s.vm.findClass "com/example/countinghouse/countinghouse/ResultRowPinLaw" = some m.cls := findClass_of_methodNamed Bd.named
  have hnm := (name_of_methodNamed Bd.named Bd.method).1
  have X0 : Stand p l e room_1 s m #[(.int p0), (.int p1), (.int p2), (.int p3)] below meth c s₁ [] 0 0 := Stand.of_body Bd
  have e0 : s₁.heap = h0 := by rw [← hh, Bd.state]; rfl
  have N0 := Fr.nil n0
  have K0 : Keep h0 h0 [] := Keep.refl _ _
  have pre0 : ∀ t, Steps p.tables e below (s₁.setTop (mkF m 0 #[.val (.int p0), .val (.int p1), .val (.int p2), .val (.int p3), .unset, .unset, .unset, .unset, .unset, .unset, .unset, .unset] [])) t → Steps p.tables e below (s₁.setTop (entryFrame m #[(.int p0), (.int p1), (.int p2), (.int p3)] maxLocals)) t := fun t k => castTop (ef_rm_law_1 m p0 p1 p2 p3) k
  obtain ⟨T6, h6, kc6, X6, e6, Ex6, Aa6, Bb6, Ov6, st6⟩ := newRE X0 hx hZ hown (w_0 hw) (w_1 hw) e0 (g := (mkF m 6 #[.val (.int p0), .val (.int p1), .val (.int p2), .val (.int p3), .val (.int (1 : Int32)), .unset, .unset, .unset, .unset, .unset, .unset, .unset] [(.int (1 : Int32))])) rfl (hb hby at_6) rfl (by decide) (cap := 1) (by decide) (by decide) (by decide) (by decide) (ad := "[Ljava/lang/Object;") (by first | rfl | decide +kernel)
  obtain ⟨b6, gg6⟩ : ∃ z, z = h0.size := ⟨_, rfl⟩
  rw [← gg6] at Aa6 Bb6 st6
  have f1 : Keep h0 h6 [] := K0.ext Ex6
  have f2 : Old Z n0 h6 := O0.ext Ex6
  have f3 : Arv Z h6 b6 kc6 (.object "java/lang/Object") (1 : Int32) [.null] .null := (Arv.new Aa6 (by decide)).pad (pad_rep [] .null 1)
  obtain ⟨_, _, ⟨T12, Lo12, kk12, nn12⟩, -, X12, ⟨Lc12, hQ12, ll12, yy12, zz12⟩, st12⟩ := Jvm.LawKit.callS X6 hx (y := (⟨"java/lang/Integer", "valueOf", "(I)Ljava/lang/Integer;"⟩ : MethodName)) hown (mvT hZ (w_2 hw)) (mvT hZ (w_3 hw)) (mvT hZ (w_4 hw)) (mvT hZ (w_5 hw)) (by decide) (backOf (W := 3) (rm_valueOf l Z a0 hw [] p2 cc cl h6 n0 f2 S_high S_cache B_cache) hZ (w_5 hw) (w_4 hw) (by decide) (by decide)) (g := (mkF m 12 #[.val (.int p0), .val (.int p1), .val (.int p2), .val (.int p3), .val (.int (1 : Int32)), .unset, .unset, .unset, .unset, .unset, .unset, .unset] [(.int p2), (.int (0 : Int32)), (.ref b6), (.ref b6)])) rfl (by rw [hml]; rfl) (argsL := [(.int p2)]) (rest := [(.int (0 : Int32)), (.ref b6), (.ref b6)]) (lenOf pd_9 rfl) rfl (by show 2 * 0 + _ ≤ _; exact Nat.le_of_eq rfl) (hb hby at_12) (fun _ _ => ⟨rfl, e6, (by decide : 1 + 1 ≤ _), (by decide : 1 + 1 ≤ _)⟩)
  dsimp only [Pt.U, Pt.locs, Pt.cells, Pt.slots] at X12 ll12 yy12 zz12 st12 hQ12
  subst ll12 yy12 zz12
  obtain ⟨b12, rfl, N12q, K12q, p12_0, p12_1⟩ := hQ12
  have N12 := Fr.app N0 N12q
  have f4 : Keep h0 T12.heap [] := f1.trans K12q all0
  have f5 : Old Z n0 T12.heap := f2.keep K12q all0
  have f6 : Arv Z T12.heap b6 kc6 (.object "java/lang/Object") (1 : Int32) [.null] .null := f3.keep K12q nin0
  obtain ⟨cl15, Ar15, qq15, Sz15, NN15, HH15, GG15⟩ := (id f6)
  have hin15 : ¬ ((0 : Int32) < 0 ∨ cl15.slots.size ≤ ((0 : Int32)).toNatClampNeg) := inb_of Sz15 ⟨by decide, by decide⟩
  obtain ⟨T15, h15, X15, e15, Wr15, st15⟩ := stR X12 hx hZ rfl Ar15 (j := (0 : Int32)) hin15 rfl (Sto.ofV Ar15 qq15 Ov6 (Ins.of_exa p12_0 (w_9 hw))) (g := (mkF m 15 #[.val (.int p0), .val (.int p1), .val (.int p2), .val (.int p3), .val (.int (1 : Int32)), .unset, .unset, .unset, .unset, .unset, .unset, .unset] [(.ref b12), (.int (0 : Int32)), (.ref b6), (.ref b6)])) rfl rfl (hb hby at_15)
  have f8 : h0.size ≤ b6 := Nat.le_trans K0.1 (Nat.le_of_eq gg6.symm)
  have f9 : n0 ≤ b6 := Nat.le_trans (own_old_le O0) (Nat.le_of_eq gg6.symm)
  have f10 : Keep h0 h15 [] := f4.wr Wr15 (Or.inr f8)
  have f11 : Old Z n0 h15 := f5.wr Wr15 f9
  have f12 : Arv Z h15 b6 kc6 (.object "java/lang/Object") (1 : Int32) [(.ref b12)] .null := Arv.set Ar15 qq15 Sz15 NN15 HH15 GG15 rfl Wr15 0 rfl (Nat.le_of_ble_eq_true rfl)
  have N15 := Fr.snoc X15 N12 f9
  obtain ⟨T19, h19, kc19, X19, e19, Ex19, Aa19, Bb19, Ov19, st19⟩ := newRE X15 hx hZ hown (w_0 hw) (w_1 hw) e15 (g := (mkF m 19 #[.val (.int p0), .val (.int p1), .val (.int p2), .val (.int p3), .val (.int (1 : Int32)), .val (.ref b6), .unset, .unset, .unset, .unset, .unset, .unset] [(.int (1 : Int32))])) rfl (hb hby at_19) rfl (by decide) (cap := 1) (by decide) (by decide) (by decide) (by decide) (ad := "[Ljava/lang/Object;") (by first | rfl | decide +kernel)
  obtain ⟨b19, gg19⟩ : ∃ z, z = h15.size := ⟨_, rfl⟩
  rw [← gg19] at Aa19 Bb19 st19
  have f13 : Keep h0 h19 [] := f10.ext Ex19
  have f14 : Old Z n0 h19 := f11.ext Ex19
  have f15 : Arv Z h19 b19 kc19 (.object "java/lang/Object") (1 : Int32) [.null] .null := (Arv.new Aa19 (by decide)).pad (pad_rep [] .null 1)
  obtain ⟨_, _, ⟨T25, Lo25, kk25, nn25⟩, -, X25, ⟨Lc25, hQ25, ll25, yy25, zz25⟩, st25⟩ := Jvm.LawKit.callS X19 hx (y := (⟨"java/lang/Integer", "valueOf", "(I)Ljava/lang/Integer;"⟩ : MethodName)) hown (mvT hZ (w_2 hw)) (mvT hZ (w_3 hw)) (mvT hZ (w_4 hw)) (mvT hZ (w_5 hw)) (by decide) (backOf (W := 3) (rm_valueOf l Z a0 hw [] p3 cc cl h19 n0 f14 S_high S_cache B_cache) hZ (w_5 hw) (w_4 hw) (by decide) (by decide)) (g := (mkF m 25 #[.val (.int p0), .val (.int p1), .val (.int p2), .val (.int p3), .val (.int (1 : Int32)), .val (.ref b6), .unset, .unset, .unset, .unset, .unset, .unset] [(.int p3), (.int (0 : Int32)), (.ref b19), (.ref b19)])) rfl (by rw [hml]; rfl) (argsL := [(.int p3)]) (rest := [(.int (0 : Int32)), (.ref b19), (.ref b19)]) (lenOf pd_9 rfl) rfl (by show 2 * 0 + _ ≤ _; exact Nat.le_of_eq rfl) (hb hby at_25) (fun _ _ => ⟨rfl, e19, (by decide : 3 + 1 ≤ _), (by decide : 3 + 1 ≤ _)⟩)
  dsimp only [Pt.U, Pt.locs, Pt.cells, Pt.slots] at X25 ll25 yy25 zz25 st25 hQ25
  subst ll25 yy25 zz25
  obtain ⟨b25, rfl, N25q, K25q, p25_0, p25_1⟩ := hQ25
  have N25 := Fr.app N15 N25q
  have f16 : Keep h0 T25.heap [] := f13.trans K25q all0
  have f17 : Old Z n0 T25.heap := f14.keep K25q all0
  have f18 : Arv Z T25.heap b19 kc19 (.object "java/lang/Object") (1 : Int32) [.null] .null := f15.keep K25q nin0
  obtain ⟨cl28, Ar28, qq28, Sz28, NN28, HH28, GG28⟩ := (id f18)
  have hin28 : ¬ ((0 : Int32) < 0 ∨ cl28.slots.size ≤ ((0 : Int32)).toNatClampNeg) := inb_of Sz28 ⟨by decide, by decide⟩
  obtain ⟨T28, h28, X28, e28, Wr28, st28⟩ := stR X25 hx hZ rfl Ar28 (j := (0 : Int32)) hin28 rfl (Sto.ofV Ar28 qq28 Ov19 (Ins.of_exa p25_0 (w_9 hw))) (g := (mkF m 28 #[.val (.int p0), .val (.int p1), .val (.int p2), .val (.int p3), .val (.int (1 : Int32)), .val (.ref b6), .unset, .unset, .unset, .unset, .unset, .unset] [(.ref b25), (.int (0 : Int32)), (.ref b19), (.ref b19)])) rfl rfl (hb hby at_28)
  have f20 : h0.size ≤ b19 := Nat.le_trans f10.1 (Nat.le_of_eq gg19.symm)
  have f21 : n0 ≤ b19 := Nat.le_trans (own_old_le f11) (Nat.le_of_eq gg19.symm)
  have f22 : Keep h0 h28 [] := f16.wr Wr28 (Or.inr f20)
  have f23 : Old Z n0 h28 := f17.wr Wr28 f21
  have f24 : Arv Z h28 b19 kc19 (.object "java/lang/Object") (1 : Int32) [(.ref b25)] .null := Arv.set Ar28 qq28 Sz28 NN28 HH28 GG28 rfl Wr28 0 rfl (Nat.le_of_ble_eq_true rfl)
  have N28 := Fr.snoc X28 N25 f21
  obtain ⟨T32, h32, kc32, X32, e32, Ex32, Aa32, Bb32, Ov32, st32⟩ := newRE X28 hx hZ hown (w_0 hw) (w_1 hw) e28 (g := (mkF m 32 #[.val (.int p0), .val (.int p1), .val (.int p2), .val (.int p3), .val (.int (1 : Int32)), .val (.ref b6), .val (.ref b19), .unset, .unset, .unset, .unset, .unset] [(.int (0 : Int32))])) rfl (hb hby at_32) rfl (by decide) (cap := 0) (by decide) (by decide) (by decide) (by decide) (ad := "[Ljava/lang/Object;") (by first | rfl | decide +kernel)
  obtain ⟨b32, gg32⟩ : ∃ z, z = h28.size := ⟨_, rfl⟩
  rw [← gg32] at Aa32 Bb32 st32
  have f25 : Keep h0 h32 [] := f22.ext Ex32
  have f26 : Old Z n0 h32 := f23.ext Ex32
  have f27 : Arv Z h32 b32 kc32 (.object "java/lang/Object") (0 : Int32) [] .null := (Arv.new Aa32 (by decide)).pad (pad_rep [] .null 0)
  obtain ⟨T37, h37, X37, e37, Ex37, Aa37, Df37, -, st37⟩ := newO X32 hx hZ hown (w_10 hw) (w_11 hw) (w_12 hw) e32 (g := (mkF m 37 #[.val (.int p0), .val (.int p1), .val (.int p2), .val (.int p3), .val (.int (1 : Int32)), .val (.ref b6), .val (.ref b19), .val (.ref b32), .unset, .unset, .unset, .unset] [])) rfl (hb hby at_37) (by decide) (by decide)
  obtain ⟨b37, gg37⟩ : ∃ z, z = h32.size := ⟨_, rfl⟩
  rw [← gg37] at Aa37 Df37 st37
  have f28 : Keep h0 h37 [] := f25.ext Ex37
  have f29 : Old Z n0 h37 := f26.ext Ex37
  have f30 : Fld Z h37 b37 "java/util/AbstractList" "modCount" "I" (.int (0 : Int32)) := Df37 (Or.inl (w_32 hw)) (ty := .int) (by decide)
  have f31 : Fld Z h37 b37 "java/util/ArrayList" "elementData" "[Ljava/lang/Object;" .null := Df37 (Or.inl (w_35 hw)) (ty := (.array (.object "java/lang/Object"))) (by decide)
  have f32 : Fld Z h37 b37 "java/util/ArrayList" "size" "I" (.int (0 : Int32)) := Df37 (Or.inl (w_67 hw)) (ty := .int) (by decide)
  have f33 : n0 ≤ b37 := Nat.le_trans (own_old_le f26) (Nat.le_of_eq gg37.symm)
  obtain ⟨_, _, ⟨T41, Lo41, kk41, nn41⟩, -, X41, ⟨Lc41, hQ41, ll41, yy41, zz41⟩, st41⟩ := X37.specialBack hx (y := (⟨"java/util/ArrayList", "<init>", "()V"⟩ : MethodName)) rfl hown (mvT hZ (w_13 hw)) (mvT hZ (w_14 hw)) (mvT hZ (w_15 hw)) (by decide) (backOf (W := 1) (rm_alInit l Z a0 hw [] b37 de h37 n0 f29 Aa37 f30 f31 f32 S_D f33) hZ (w_15 hw) (w_12 hw) (by decide) (by decide)) (g := (mkF m 41 #[.val (.int p0), .val (.int p1), .val (.int p2), .val (.int p3), .val (.int (1 : Int32)), .val (.ref b6), .val (.ref b19), .val (.ref b32), .unset, .unset, .unset, .unset] [(.ref b37), (.ref b37)])) rfl (by rw [hml]; rfl) (Steps.refl _) (a := b37) (argsL := []) (rest := [(.ref b37)]) (lenOf pd_0 rfl) rfl (by show 2 * 0 + _ ≤ _; exact Nat.le_of_eq rfl) (hb hby at_41) (fun _ _ => ⟨rfl, e37, (by decide : 6 + 0 ≤ _), (by decide : 7 + 0 ≤ _)⟩)
  dsimp only [Pt.U, Pt.locs, Pt.cells, Pt.slots] at X41 ll41 yy41 zz41 st41 hQ41
  subst ll41 yy41 zz41
  obtain ⟨rfl, N41q, K41q, p41_0, p41_1, p41_2, p41_3⟩ := hQ41
  have N41 := Fr.app N28 N41q
  have f34 : h0.size ≤ b37 := Nat.le_trans f25.1 (Nat.le_of_eq gg37.symm)
  have f35 : Keep h0 T41.heap [] := f28.trans K41q (allS (Or.inr f34) all0)
  have f36 : Old Z n0 T41.heap := f29.keep K41q (allS f33 all0)
  have f37 : Exa Z T12.heap b6 "[Ljava/lang/Object;" := Bb6.keep K12q
  have f38 : Exa Z h15 b6 "[Ljava/lang/Object;" := f37.wr Wr15
  have f39 : Exa Z h19 b6 "[Ljava/lang/Object;" := f38.ext Ex19
  have f40 : Exa Z T25.heap b6 "[Ljava/lang/Object;" := f39.keep K25q
  have f41 : Exa Z h28 b6 "[Ljava/lang/Object;" := f40.wr Wr28
  have f42 : Exa Z h32 b6 "[Ljava/lang/Object;" := f41.ext Ex32
  have f43 : Exa Z h37 b6 "[Ljava/lang/Object;" := f42.ext Ex37
  have f44 : Exa Z T41.heap b6 "[Ljava/lang/Object;" := f43.keep K41q
  obtain ⟨cq56, kq56, q56a, q56b, q56c⟩ := isOf hZ rfl p41_0
  obtain ⟨_, _, ⟨T56, Lo56, kk56, nn56⟩, -, X56, ⟨Lc56, hQ56, ll56, yy56, zz56⟩, st56⟩ := X41.virtualBack hx (y := (⟨"java/util/ArrayList", "add", "(Ljava/lang/Object;)Z"⟩ : MethodName)) (z := (⟨"java/util/ArrayList", "add", "(Ljava/lang/Object;)Z"⟩ : MethodName)) hown (mvT hZ (w_101 hw)) (mvT hZ (w_102 hw)) (notFace_of_selects (args := #[]) (mvT hZ (w_104 hw))) (mvT hZ (w_104 hw)) (mvT hZ (w_103 hw)) (by decide) (backOf (W := 0) (rm_aF l Z a0 hw [] b37 b6 ((0 : Int32)) de kde T41.heap n0 f36 p41_0 p41_1 p41_2 p41_3 S_D V_D f33 f44) hZ (w_105 hw) (w_12 hw) (by decide) (by decide)) q56a q56c (g := (mkF m 56 #[.val (.int p0), .val (.int p1), .val (.int p2), .val (.int p3), .val (.int (1 : Int32)), .val (.ref b6), .val (.ref b19), .val (.ref b32), .val (.ref b37), .unset, .unset, .unset] [(.ref b6), (.ref b37)])) rfl (by rw [hml]; rfl) (Steps.refl _) (argsL := [(.ref b6)]) (rest := []) (lenOf pd_13 rfl) rfl (by show 2 * 0 + _ ≤ _; exact Nat.le_of_eq rfl) (hb hby at_56) (fun _ _ => ⟨rfl, rfl, (by decide : 6 + 1 ≤ _), (by decide : 7 + 10 ≤ _)⟩)
  dsimp only [Pt.U, Pt.locs, Pt.cells, Pt.slots] at X56 ll56 yy56 zz56 st56 hQ56
  subst ll56 yy56 zz56
  obtain ⟨d56, kd56, rfl, N56q, K56q, p56_0, p56_1, p56_2, p56_3, p56_4, p56_5, p56_6, p56_7⟩ := hQ56
  have N56 := Fr.app N41 N56q
  have f45 : Keep h0 T56.heap [] := f35.trans K56q (allS (Or.inr f34) all0)
  have f46 : Old Z n0 T56.heap := f36.keep K56q (allS f33 all0)
  obtain ⟨T88, h88, X88, e88, Ex88, Aa88, Df88, -, st88⟩ := newO X56 hx hZ hown (w_36 hw) (w_37 hw) (w_38 hw) rfl (g := (mkF m 88 #[.val (.int p0), .val (.int p1), .val (.int p2), .val (.int p3), .val (.int (1 : Int32)), .val (.ref b6), .val (.ref b19), .val (.ref b32), .val (.ref b37), .unset, .unset, .unset] [])) rfl (hb hby at_88) (by decide) (by decide)
  obtain ⟨b88, gg88⟩ : ∃ z, z = T56.heap.size := ⟨_, rfl⟩
  rw [← gg88] at Aa88 Df88 st88
  have f47 : Keep h0 h88 [] := f45.ext Ex88
  have f48 : Old Z n0 h88 := f46.ext Ex88
  have f49 : Fld Z h88 b88 "com/example/countinghouse/countinghouse/RoundTrip$Result" "rows" "Ljava/util/List;" .null := Df88 (Or.inr (w_49 hw)) (ty := (.object "java/util/List")) (by decide)
  have f50 : Fld Z h88 b88 "com/example/countinghouse/countinghouse/RoundTrip$Result" "changed" "I" (.int (0 : Int32)) := Df88 (Or.inr (w_51 hw)) (ty := .int) (by decide)
  have f51 : n0 ≤ b88 := Nat.le_trans (own_old_le f46) (Nat.le_of_eq gg88.symm)
  obtain ⟨_, _, ⟨T95, Lo95, kk95, nn95⟩, -, X95, ⟨Lc95, hQ95, ll95, yy95, zz95⟩, st95⟩ := X88.specialBack hx (y := (⟨"com/example/countinghouse/countinghouse/RoundTrip$Result", "<init>", "(Ljava/util/List;I)V"⟩ : MethodName)) rfl hown (mvT hZ (w_39 hw)) (mvT hZ (w_40 hw)) (mvT hZ (w_41 hw)) (by decide) (backOf (W := 1) (rm_resInit l Z a0 hw [] b88 b37 p1 h88 n0 f48 Aa88 f49 f50 f51) hZ (w_41 hw) (w_38 hw) (by decide) (by decide)) (g := (mkF m 95 #[.val (.int p0), .val (.int p1), .val (.int p2), .val (.int p3), .val (.int (1 : Int32)), .val (.ref b6), .val (.ref b19), .val (.ref b32), .val (.ref b37), .unset, .unset, .unset] [(.int p1), (.ref b37), (.ref b88), (.ref b88)])) rfl (by rw [hml]; rfl) (Steps.refl _) (a := b88) (argsL := [(.ref b37), (.int p1)]) (rest := [(.ref b88)]) (lenOf pd_10 rfl) rfl (by show 2 * 0 + _ ≤ _; exact Nat.le_of_eq rfl) (hb hby at_95) (fun _ _ => ⟨rfl, e88, (by decide : 8 + 0 ≤ _), (by decide : 19 + 0 ≤ _)⟩)
  dsimp only [Pt.U, Pt.locs, Pt.cells, Pt.slots] at X95 ll95 yy95 zz95 st95 hQ95
  subst ll95 yy95 zz95
  obtain ⟨rfl, N95q, K95q, p95_0, p95_1, p95_2⟩ := hQ95
  have N95 := Fr.app N56 N95q
  have f52 : h0.size ≤ b88 := Nat.le_trans f45.1 (Nat.le_of_eq gg88.symm)
  have f53 : Keep h0 T95.heap [] := f47.trans K95q (allS (Or.inr f52) all0)
  have f54 : Old Z n0 T95.heap := f48.keep K95q (allS f51 all0)
  have f55 : Exa Z h88 b37 "java/util/ArrayList" := p56_1.ext Ex88
  have f56 : Exa Z T95.heap b37 "java/util/ArrayList" := f55.keep K95q
  have f57 : Fld Z h88 b37 "java/util/ArrayList" "size" "I" (.int (1 : Int32)) := p56_4.ext Ex88
  have f58 : Fld Z T95.heap b37 "java/util/ArrayList" "size" "I" (.int (1 : Int32)) := f57.keep K95q (ninS (Nat.ne_of_lt (Nat.lt_of_lt_of_le p56_1.lt (Nat.le_of_eq gg88.symm))) nin0)
  have f59 : Fld Z h88 b37 "java/util/ArrayList" "elementData" "[Ljava/lang/Object;" (.ref d56) := p56_3.ext Ex88
  have f60 : Fld Z T95.heap b37 "java/util/ArrayList" "elementData" "[Ljava/lang/Object;" (.ref d56) := f59.keep K95q (ninS (Nat.ne_of_lt (Nat.lt_of_lt_of_le p56_1.lt (Nat.le_of_eq gg88.symm))) nin0)
  have f61 : Arv Z h88 d56 kd56 (.object "java/lang/Object") (10 : Int32) [(.ref b6), .null, .null, .null, .null, .null, .null, .null, .null, .null] .null := p56_6.ext Ex88
  have f62 : Arv Z T95.heap d56 kd56 (.object "java/lang/Object") (10 : Int32) [(.ref b6), .null, .null, .null, .null, .null, .null, .null, .null, .null] .null := f61.keep K95q (ninS (Nat.ne_of_lt (Nat.lt_of_lt_of_le p56_5.lt (Nat.le_of_eq gg88.symm))) nin0)
  have f63 : Exa Z T56.heap b6 "[Ljava/lang/Object;" := f44.keep K56q
  have f64 : Exa Z h88 b6 "[Ljava/lang/Object;" := f63.ext Ex88
  have f65 : Exa Z T95.heap b6 "[Ljava/lang/Object;" := f64.keep K95q
  obtain ⟨cq102, kq102, q102a, q102b, q102c⟩ := isOf hZ rfl p95_0
  obtain ⟨_, _, ⟨T102, Lo102, kk102, nn102⟩, -, X102, ⟨Lc102, hQ102, ll102, yy102, zz102⟩, st102⟩ := X95.virtualBack hx (y := (⟨"com/example/countinghouse/countinghouse/RoundTrip$Result", "row", "()[Ljava/lang/Object;"⟩ : MethodName)) (z := (⟨"com/example/countinghouse/countinghouse/RoundTrip$Result", "row", "()[Ljava/lang/Object;"⟩ : MethodName)) hown (mvT hZ (w_52 hw)) (mvT hZ (w_53 hw)) (notFace_of_selects (args := #[]) (mvT hZ (w_55 hw))) (mvT hZ (w_55 hw)) (mvT hZ (w_54 hw)) (by decide) (backOf (W := 0) (rm_rowY l Z a0 hw [] b88 b37 ((1 : Int32)) d56 kd56 ([(.ref b6), .null, .null, .null, .null, .null, .null, .null, .null, .null]) b6 T95.heap n0 f54 p95_1 f56 f58 f60 f62 (by first | rfl | decide | assumption) (by first | rfl | decide | assumption) (by first | rfl | decide | assumption) f65) hZ (w_56 hw) (w_38 hw) (by decide) (by decide)) q102a q102c (g := (mkF m 102 #[.val (.int p0), .val (.int p1), .val (.int p2), .val (.int p3), .val (.int (1 : Int32)), .val (.ref b6), .val (.ref b19), .val (.ref b32), .val (.ref b37), .val (.ref b88), .unset, .unset] [(.ref b88)])) rfl (by rw [hml]; rfl) (Steps.refl _) (argsL := []) (rest := []) (lenOf pd_4 rfl) rfl (by show 2 * 0 + _ ≤ _; exact Nat.le_of_eq rfl) (hb hby at_102) (fun _ _ => ⟨rfl, rfl, (by decide : 8 + 0 ≤ _), (by decide : 19 + 0 ≤ _)⟩)
  dsimp only [Pt.U, Pt.locs, Pt.cells, Pt.slots] at X102 ll102 yy102 zz102 st102 hQ102
  subst ll102 yy102 zz102
  obtain ⟨rfl, N102q, K102q⟩ := hQ102
  have N102 := Fr.app N95 N102q
  have f66 : Keep h0 T102.heap [] := f53.trans K102q all0
  have f67 : Old Z n0 T102.heap := f54.keep K102q all0
  have f68 : Arv Z h19 b6 kc6 (.object "java/lang/Object") (1 : Int32) [(.ref b12)] .null := f12.ext Ex19
  have f69 : Arv Z T25.heap b6 kc6 (.object "java/lang/Object") (1 : Int32) [(.ref b12)] .null := f68.keep K25q nin0
  have f70 : Arv Z h28 b6 kc6 (.object "java/lang/Object") (1 : Int32) [(.ref b12)] .null := f69.other Wr28 (Nat.ne_of_lt (Nat.lt_of_lt_of_le f38.lt (Nat.le_of_eq gg19.symm)))
  have f71 : Arv Z h32 b6 kc6 (.object "java/lang/Object") (1 : Int32) [(.ref b12)] .null := f70.ext Ex32
  have f72 : Arv Z h37 b6 kc6 (.object "java/lang/Object") (1 : Int32) [(.ref b12)] .null := f71.ext Ex37
  have f73 : Arv Z T41.heap b6 kc6 (.object "java/lang/Object") (1 : Int32) [(.ref b12)] .null := f72.keep K41q (ninS (Nat.ne_of_lt (Nat.lt_of_lt_of_le f42.lt (Nat.le_of_eq gg37.symm))) nin0)
  have f74 : Arv Z T56.heap b6 kc6 (.object "java/lang/Object") (1 : Int32) [(.ref b12)] .null := f73.keep K56q (ninS (Nat.ne_of_lt (Nat.lt_of_lt_of_le f42.lt (Nat.le_of_eq gg37.symm))) nin0)
  have f75 : Arv Z h88 b6 kc6 (.object "java/lang/Object") (1 : Int32) [(.ref b12)] .null := f74.ext Ex88
  have f76 : Arv Z T95.heap b6 kc6 (.object "java/lang/Object") (1 : Int32) [(.ref b12)] .null := f75.keep K95q (ninS (Nat.ne_of_lt (Nat.lt_of_lt_of_le f63.lt (Nat.le_of_eq gg88.symm))) nin0)
  have f77 : Arv Z T102.heap b6 kc6 (.object "java/lang/Object") (1 : Int32) [(.ref b12)] .null := f76.keep K102q nin0
  obtain ⟨cl136, Ar136, qq136, Sz136, NN136, HH136, GG136⟩ := (id f77)
  obtain ⟨cl144, Ar144, qq144, Sz144, NN144, HH144, GG144⟩ := (id f77)
  have hin144 : ¬ ((0 : Int32) < 0 ∨ cl144.slots.size ≤ ((0 : Int32)).toNatClampNeg) := inb_of Sz144 ⟨by decide, by decide⟩
  have f79 : cl144.slots[((0 : Int32)).toNatClampNeg]? = some (.ref b12) := HH144.at hin144 rfl
  have f80 : Exa Z h15 b12 "java/lang/Integer" := p12_0.wr Wr15
  have f81 : Exa Z h19 b12 "java/lang/Integer" := f80.ext Ex19
  have f82 : Exa Z T25.heap b12 "java/lang/Integer" := f81.keep K25q
  have f83 : Exa Z h28 b12 "java/lang/Integer" := f82.wr Wr28
  have f84 : Exa Z h32 b12 "java/lang/Integer" := f83.ext Ex32
  have f85 : Exa Z h37 b12 "java/lang/Integer" := f84.ext Ex37
  have f86 : Exa Z T41.heap b12 "java/lang/Integer" := f85.keep K41q
  have f87 : Exa Z T56.heap b12 "java/lang/Integer" := f86.keep K56q
  have f88 : Exa Z h88 b12 "java/lang/Integer" := f87.ext Ex88
  have f89 : Exa Z T95.heap b12 "java/lang/Integer" := f88.keep K95q
  have f90 : Exa Z T102.heap b12 "java/lang/Integer" := f89.keep K102q
  obtain ⟨T145, X145, e145, st145⟩ := castY X102 hx hZ hown (w_152 hw) rfl (Ins.self f90) (g := (mkF m 145 #[.val (.int p0), .val (.int p1), .val (.int p2), .val (.int p3), .val (.int (1 : Int32)), .val (.ref b6), .val (.ref b19), .val (.ref b32), .val (.ref b37), .val (.ref b88), .val (.ref b6), .unset] [(.ref b12)])) rfl rfl (hb hby at_145)
  have f91 : Exa Z T102.heap b6 "[Ljava/lang/Object;" := f65.keep K102q
  have f92 : Fld Z h15 b12 "java/lang/Integer" "value" "I" (.int p2) := p12_1.other Wr15 (Or.inl (Ne.symm (ne_exa f91 f90 (by decide))))
  have f93 : Fld Z h19 b12 "java/lang/Integer" "value" "I" (.int p2) := f92.ext Ex19
  have f94 : Fld Z T25.heap b12 "java/lang/Integer" "value" "I" (.int p2) := f93.keep K25q nin0
  have f95 : Fld Z h28 b12 "java/lang/Integer" "value" "I" (.int p2) := f94.other Wr28 (Or.inl (Nat.ne_of_lt (Nat.lt_of_lt_of_le f80.lt (Nat.le_of_eq gg19.symm))))
  have f96 : Fld Z h32 b12 "java/lang/Integer" "value" "I" (.int p2) := f95.ext Ex32
  have f97 : Fld Z h37 b12 "java/lang/Integer" "value" "I" (.int p2) := f96.ext Ex37
  have f98 : Fld Z T41.heap b12 "java/lang/Integer" "value" "I" (.int p2) := f97.keep K41q (ninS (Nat.ne_of_lt (Nat.lt_of_lt_of_le f84.lt (Nat.le_of_eq gg37.symm))) nin0)
  have f99 : Fld Z T56.heap b12 "java/lang/Integer" "value" "I" (.int p2) := f98.keep K56q (ninS (Nat.ne_of_lt (Nat.lt_of_lt_of_le f84.lt (Nat.le_of_eq gg37.symm))) nin0)
  have f100 : Fld Z h88 b12 "java/lang/Integer" "value" "I" (.int p2) := f99.ext Ex88
  have f101 : Fld Z T95.heap b12 "java/lang/Integer" "value" "I" (.int p2) := f100.keep K95q (ninS (Nat.ne_of_lt (Nat.lt_of_lt_of_le f87.lt (Nat.le_of_eq gg88.symm))) nin0)
  have f102 : Fld Z T102.heap b12 "java/lang/Integer" "value" "I" (.int p2) := f101.keep K102q nin0
  obtain ⟨cq148, kq148, q148a, q148b, q148c⟩ := isOf hZ e145 f90
  obtain ⟨_, _, ⟨T148, Lo148, kk148, nn148⟩, -, X148, ⟨Lc148, hQ148, ll148, yy148, zz148⟩, st148⟩ := X145.virtualBack hx (y := (⟨"java/lang/Integer", "intValue", "()I"⟩ : MethodName)) (z := (⟨"java/lang/Integer", "intValue", "()I"⟩ : MethodName)) hown (mvT hZ (w_153 hw)) (mvT hZ (w_154 hw)) (notFace_of_selects (args := #[]) (mvT hZ (w_156 hw))) (mvT hZ (w_156 hw)) (mvT hZ (w_155 hw)) (by decide) (backOf (W := 0) (rm_intValue l Z a0 hw [] b12 p2 T102.heap n0 f67 f102) hZ (w_157 hw) (w_4 hw) (by decide) (by decide)) q148a q148c (g := (mkF m 148 #[.val (.int p0), .val (.int p1), .val (.int p2), .val (.int p3), .val (.int (1 : Int32)), .val (.ref b6), .val (.ref b19), .val (.ref b32), .val (.ref b37), .val (.ref b88), .val (.ref b6), .unset] [(.ref b12)])) rfl (by rw [hml]; rfl) (Steps.refl _) (argsL := []) (rest := []) (lenOf pd_12 rfl) rfl (by show 2 * 0 + _ ≤ _; exact Nat.le_of_eq rfl) (hb hby at_148) (fun _ _ => ⟨rfl, e145, (by decide : 8 + 0 ≤ _), (by decide : 19 + 0 ≤ _)⟩)
  dsimp only [Pt.U, Pt.locs, Pt.cells, Pt.slots] at X148 ll148 yy148 zz148 st148 hQ148
  subst ll148 yy148 zz148
  obtain ⟨rfl, N148q, K148q⟩ := hQ148
  have N148 := Fr.app N102 N148q
  have f103 : Keep h0 T148.heap [] := f66.trans K148q all0
  have f104 : Old Z n0 T148.heap := f67.keep K148q all0
  have f105 : Fld Z T102.heap b88 "com/example/countinghouse/countinghouse/RoundTrip$Result" "rows" "Ljava/util/List;" (.ref b37) := p95_1.keep K102q nin0
  have f106 : Fld Z T148.heap b88 "com/example/countinghouse/countinghouse/RoundTrip$Result" "rows" "Ljava/util/List;" (.ref b37) := f105.keep K148q nin0
  have f107 : Exa Z T102.heap b88 "com/example/countinghouse/countinghouse/RoundTrip$Result" := p95_0.keep K102q
  have f108 : Exa Z T148.heap b88 "com/example/countinghouse/countinghouse/RoundTrip$Result" := f107.keep K148q
  obtain ⟨cq169, kq169, q169a, q169b, q169c⟩ := isOf hZ rfl f108
  obtain ⟨_, _, ⟨T169, Lo169, kk169, nn169⟩, -, X169, ⟨Lc169, hQ169, ll169, yy169, zz169⟩, st169⟩ := X148.virtualBack hx (y := (⟨"com/example/countinghouse/countinghouse/RoundTrip$Result", "rows", "()Ljava/util/List;"⟩ : MethodName)) (z := (⟨"com/example/countinghouse/countinghouse/RoundTrip$Result", "rows", "()Ljava/util/List;"⟩ : MethodName)) hown (mvT hZ (w_68 hw)) (mvT hZ (w_69 hw)) (notFace_of_selects (args := #[]) (mvT hZ (w_71 hw))) (mvT hZ (w_71 hw)) (mvT hZ (w_70 hw)) (by decide) (backOf (W := 0) (rm_rows l Z a0 hw [] b88 b37 T148.heap n0 f104 f106) hZ (w_72 hw) (w_38 hw) (by decide) (by decide)) q169a q169c (g := (mkF m 169 #[.val (.int p0), .val (.int p1), .val (.int p2), .val (.int p3), .val (.int (1 : Int32)), .val (.ref b6), .val (.ref b19), .val (.ref b32), .val (.ref b37), .val (.ref b88), .val (.ref b6), .val (.int (1 : Int32))] [(.ref b88)])) rfl (by rw [hml]; rfl) (Steps.refl _) (argsL := []) (rest := []) (lenOf pd_11 rfl) rfl (by show 2 * 0 + _ ≤ _; exact Nat.le_of_eq rfl) (hb hby at_169) (fun _ _ => ⟨rfl, rfl, (by decide : 8 + 0 ≤ _), (by decide : 19 + 0 ≤ _)⟩)
  dsimp only [Pt.U, Pt.locs, Pt.cells, Pt.slots] at X169 ll169 yy169 zz169 st169 hQ169
  subst ll169 yy169 zz169
  obtain ⟨rfl, N169q, K169q⟩ := hQ169
  have N169 := Fr.app N148 N169q
  have f109 : Keep h0 T169.heap [] := f103.trans K169q all0
  have f110 : Old Z n0 T169.heap := f104.keep K169q all0
  have f111 : Fld Z T102.heap b37 "java/util/ArrayList" "size" "I" (.int (1 : Int32)) := f58.keep K102q nin0
  have f112 : Fld Z T148.heap b37 "java/util/ArrayList" "size" "I" (.int (1 : Int32)) := f111.keep K148q nin0
  have f113 : Fld Z T169.heap b37 "java/util/ArrayList" "size" "I" (.int (1 : Int32)) := f112.keep K169q nin0
  have f114 : Exa Z T102.heap b37 "java/util/ArrayList" := f56.keep K102q
  have f115 : Exa Z T148.heap b37 "java/util/ArrayList" := f114.keep K148q
  have f116 : Exa Z T169.heap b37 "java/util/ArrayList" := f115.keep K169q
  obtain ⟨cq172, kq172, q172a, q172b, q172c⟩ := isOf hZ rfl f116
  obtain ⟨_, _, ⟨T172, Lo172, kk172, nn172⟩, -, X172, ⟨Lc172, hQ172, ll172, yy172, zz172⟩, st172⟩ := X169.interfaceBack hx (xi := (⟨"java/util/List", "size", "()I"⟩ : MethodName)) (y := (⟨"java/util/ArrayList", "size", "()I"⟩ : MethodName)) hown (mvT hZ (w_73 hw)) (mvT hZ (w_74 hw)) (mvT hZ (w_75 hw)) (mvT hZ (w_76 hw)) (mvT hZ (w_77 hw)) (mvT hZ (w_78 hw)) (mvT hZ (w_79 hw)) (mvT hZ (w_64 hw)) (by decide) (backOf (W := 0) (rm_size l Z a0 hw [] b37 ((1 : Int32)) T169.heap n0 f110 f113) hZ (w_80 hw) (w_12 hw) (by decide) (by decide)) q172a q172b q172c (g := (mkF m 172 #[.val (.int p0), .val (.int p1), .val (.int p2), .val (.int p3), .val (.int (1 : Int32)), .val (.ref b6), .val (.ref b19), .val (.ref b32), .val (.ref b37), .val (.ref b88), .val (.ref b6), .val (.int (1 : Int32))] [(.ref b37)])) rfl (by rw [hml]; rfl) (Steps.refl _) (argsL := []) (rest := []) (lenOf pd_12 rfl) rfl (by show 2 * 0 + _ ≤ _; exact Nat.le_of_eq rfl) (hb hby at_172) (fun _ _ => ⟨rfl, rfl, (by decide : 8 + 0 ≤ _), (by decide : 19 + 0 ≤ _)⟩)
  dsimp only [Pt.U, Pt.locs, Pt.cells, Pt.slots] at X172 ll172 yy172 zz172 st172 hQ172
  subst ll172 yy172 zz172
  obtain ⟨rfl, N172q, K172q⟩ := hQ172
  have N172 := Fr.app N169 N172q
  have f117 : Keep h0 T172.heap [] := f109.trans K172q all0
  have f118 : Old Z n0 T172.heap := f110.keep K172q all0
  have f119 : Fld Z T102.heap b88 "com/example/countinghouse/countinghouse/RoundTrip$Result" "changed" "I" (.int p1) := p95_2.keep K102q nin0
  have f120 : Fld Z T148.heap b88 "com/example/countinghouse/countinghouse/RoundTrip$Result" "changed" "I" (.int p1) := f119.keep K148q nin0
  have f121 : Fld Z T169.heap b88 "com/example/countinghouse/countinghouse/RoundTrip$Result" "changed" "I" (.int p1) := f120.keep K169q nin0
  have f122 : Fld Z T172.heap b88 "com/example/countinghouse/countinghouse/RoundTrip$Result" "changed" "I" (.int p1) := f121.keep K172q nin0
  have f123 : Exa Z T169.heap b88 "com/example/countinghouse/countinghouse/RoundTrip$Result" := f108.keep K169q
  have f124 : Exa Z T172.heap b88 "com/example/countinghouse/countinghouse/RoundTrip$Result" := f123.keep K172q
  obtain ⟨cq184, kq184, q184a, q184b, q184c⟩ := isOf hZ rfl f124
  obtain ⟨_, _, ⟨T184, Lo184, kk184, nn184⟩, -, X184, ⟨Lc184, hQ184, ll184, yy184, zz184⟩, st184⟩ := X172.virtualBack hx (y := (⟨"com/example/countinghouse/countinghouse/RoundTrip$Result", "changed", "()I"⟩ : MethodName)) (z := (⟨"com/example/countinghouse/countinghouse/RoundTrip$Result", "changed", "()I"⟩ : MethodName)) hown (mvT hZ (w_81 hw)) (mvT hZ (w_82 hw)) (notFace_of_selects (args := #[]) (mvT hZ (w_84 hw))) (mvT hZ (w_84 hw)) (mvT hZ (w_83 hw)) (by decide) (backOf (W := 0) (rm_changed l Z a0 hw [] b88 p1 T172.heap n0 f118 f122) hZ (w_85 hw) (w_38 hw) (by decide) (by decide)) q184a q184c (g := (mkF m 184 #[.val (.int p0), .val (.int p1), .val (.int p2), .val (.int p3), .val (.int (1 : Int32)), .val (.ref b6), .val (.ref b19), .val (.ref b32), .val (.ref b37), .val (.ref b88), .val (.ref b6), .val (.int (1 : Int32))] [(.ref b88)])) rfl (by rw [hml]; rfl) (Steps.refl _) (argsL := []) (rest := []) (lenOf pd_12 rfl) rfl (by show 2 * 0 + _ ≤ _; exact Nat.le_of_eq rfl) (hb hby at_184) (fun _ _ => ⟨rfl, rfl, (by decide : 8 + 0 ≤ _), (by decide : 19 + 0 ≤ _)⟩)
  dsimp only [Pt.U, Pt.locs, Pt.cells, Pt.slots] at X184 ll184 yy184 zz184 st184 hQ184
  subst ll184 yy184 zz184
  obtain ⟨rfl, N184q, K184q⟩ := hQ184
  have N184 := Fr.app N172 N184q
  have f125 : Keep h0 T184.heap [] := f117.trans K184q all0
  have f126 : Old Z n0 T184.heap := f118.keep K184q all0
  obtain ⟨fs, hr, hrun, hended, hW, hsame⟩ := X184.leave (v := some (.int (1 : Int32))) (fun h => by rw [Bd.returns] at h; cases h)
  refine ⟨_, _, pre0 _ ?_, hrun, hended, _, _, rfl, ?_, ⟨_, rfl⟩, hW, hsame.mono (by decide) (by decide)⟩
  · show Steps p.tables e below (s₁.setTop (mkF m 0 #[.val (.int p0), .val (.int p1), .val (.int p2), .val (.int p3), .unset, .unset, .unset, .unset, .unset, .unset, .unset, .unset] [])) _
    refine XS.iloadN X0.here hx rfl (hb hby at_0) rfl ?_
    show Steps p.tables e below (s₁.setTop (mkF m 1 #[.val (.int p0), .val (.int p1), .val (.int p2), .val (.int p3), .unset, .unset, .unset, .unset, .unset, .unset, .unset, .unset] [(.int p0)])) _
    refine XS.iconst X0.here hx rfl (hb hby at_1) ?_
    show Steps p.tables e below (s₁.setTop (mkF m 2 #[.val (.int p0), .val (.int p1), .val (.int p2), .val (.int p3), .unset, .unset, .unset, .unset, .unset, .unset, .unset, .unset] [(.int (3 : Int32)), (.int p0)])) _
    refine XS.iand X0.here hx rfl (hb hby at_2) rfl ?_
    show Steps p.tables e below (s₁.setTop (mkF m 3 #[.val (.int p0), .val (.int p1), .val (.int p2), .val (.int p3), .unset, .unset, .unset, .unset, .unset, .unset, .unset, .unset] [(.int (p0 &&& (3 : Int32)))])) _
    rw [hi]
    show Steps p.tables e below (s₁.setTop (mkF m 3 #[.val (.int p0), .val (.int p1), .val (.int p2), .val (.int p3), .unset, .unset, .unset, .unset, .unset, .unset, .unset, .unset] [(.int (1 : Int32))])) _
    refine XS.istore X0.here hx rfl (hb hby at_3) rfl (l' := #[.val (.int p0), .val (.int p1), .val (.int p2), .val (.int p3), .val (.int (1 : Int32)), .unset, .unset, .unset, .unset, .unset, .unset, .unset]) rfl ?_
    show Steps p.tables e below (s₁.setTop (mkF m 5 #[.val (.int p0), .val (.int p1), .val (.int p2), .val (.int p3), .val (.int (1 : Int32)), .unset, .unset, .unset, .unset, .unset, .unset, .unset] [])) _
    refine XS.iconst X0.here hx rfl (hb hby at_5) ?_
    show Steps p.tables e below (s₁.setTop (mkF m 6 #[.val (.int p0), .val (.int p1), .val (.int p2), .val (.int p3), .val (.int (1 : Int32)), .unset, .unset, .unset, .unset, .unset, .unset, .unset] [(.int (1 : Int32))])) _
    refine st6 _ ?_
    show Steps p.tables e below (T6.setTop (mkF m 9 #[.val (.int p0), .val (.int p1), .val (.int p2), .val (.int p3), .val (.int (1 : Int32)), .unset, .unset, .unset, .unset, .unset, .unset, .unset] [(.ref b6)])) _
    refine XS.dup X6.here hx rfl (hb hby at_9) rfl rfl ?_
    show Steps p.tables e below (T6.setTop (mkF m 10 #[.val (.int p0), .val (.int p1), .val (.int p2), .val (.int p3), .val (.int (1 : Int32)), .unset, .unset, .unset, .unset, .unset, .unset, .unset] [(.ref b6), (.ref b6)])) _
    refine XS.iconst X6.here hx rfl (hb hby at_10) ?_
    show Steps p.tables e below (T6.setTop (mkF m 11 #[.val (.int p0), .val (.int p1), .val (.int p2), .val (.int p3), .val (.int (1 : Int32)), .unset, .unset, .unset, .unset, .unset, .unset, .unset] [(.int (0 : Int32)), (.ref b6), (.ref b6)])) _
    refine XS.iloadN X6.here hx rfl (hb hby at_11) rfl ?_
    show Steps p.tables e below (T6.setTop (mkF m 12 #[.val (.int p0), .val (.int p1), .val (.int p2), .val (.int p3), .val (.int (1 : Int32)), .unset, .unset, .unset, .unset, .unset, .unset, .unset] [(.int p2), (.int (0 : Int32)), (.ref b6), (.ref b6)])) _
    refine st12 _ ?_
    show Steps p.tables e below (T12.setTop (mkF m 15 #[.val (.int p0), .val (.int p1), .val (.int p2), .val (.int p3), .val (.int (1 : Int32)), .unset, .unset, .unset, .unset, .unset, .unset, .unset] [(.ref b12), (.int (0 : Int32)), (.ref b6), (.ref b6)])) _
    refine st15 _ ?_
    show Steps p.tables e below (T15.setTop (mkF m 16 #[.val (.int p0), .val (.int p1), .val (.int p2), .val (.int p3), .val (.int (1 : Int32)), .unset, .unset, .unset, .unset, .unset, .unset, .unset] [(.ref b6)])) _
    refine XS.astore X15.here hx rfl (hb hby at_16) rfl rfl (l' := #[.val (.int p0), .val (.int p1), .val (.int p2), .val (.int p3), .val (.int (1 : Int32)), .val (.ref b6), .unset, .unset, .unset, .unset, .unset, .unset]) rfl ?_
    show Steps p.tables e below (T15.setTop (mkF m 18 #[.val (.int p0), .val (.int p1), .val (.int p2), .val (.int p3), .val (.int (1 : Int32)), .val (.ref b6), .unset, .unset, .unset, .unset, .unset, .unset] [])) _
    refine XS.iconst X15.here hx rfl (hb hby at_18) ?_
    show Steps p.tables e below (T15.setTop (mkF m 19 #[.val (.int p0), .val (.int p1), .val (.int p2), .val (.int p3), .val (.int (1 : Int32)), .val (.ref b6), .unset, .unset, .unset, .unset, .unset, .unset] [(.int (1 : Int32))])) _
    refine st19 _ ?_
    show Steps p.tables e below (T19.setTop (mkF m 22 #[.val (.int p0), .val (.int p1), .val (.int p2), .val (.int p3), .val (.int (1 : Int32)), .val (.ref b6), .unset, .unset, .unset, .unset, .unset, .unset] [(.ref b19)])) _
    refine XS.dup X19.here hx rfl (hb hby at_22) rfl rfl ?_
    show Steps p.tables e below (T19.setTop (mkF m 23 #[.val (.int p0), .val (.int p1), .val (.int p2), .val (.int p3), .val (.int (1 : Int32)), .val (.ref b6), .unset, .unset, .unset, .unset, .unset, .unset] [(.ref b19), (.ref b19)])) _
    refine XS.iconst X19.here hx rfl (hb hby at_23) ?_
    show Steps p.tables e below (T19.setTop (mkF m 24 #[.val (.int p0), .val (.int p1), .val (.int p2), .val (.int p3), .val (.int (1 : Int32)), .val (.ref b6), .unset, .unset, .unset, .unset, .unset, .unset] [(.int (0 : Int32)), (.ref b19), (.ref b19)])) _
    refine XS.iloadN X19.here hx rfl (hb hby at_24) rfl ?_
    show Steps p.tables e below (T19.setTop (mkF m 25 #[.val (.int p0), .val (.int p1), .val (.int p2), .val (.int p3), .val (.int (1 : Int32)), .val (.ref b6), .unset, .unset, .unset, .unset, .unset, .unset] [(.int p3), (.int (0 : Int32)), (.ref b19), (.ref b19)])) _
    refine st25 _ ?_
    show Steps p.tables e below (T25.setTop (mkF m 28 #[.val (.int p0), .val (.int p1), .val (.int p2), .val (.int p3), .val (.int (1 : Int32)), .val (.ref b6), .unset, .unset, .unset, .unset, .unset, .unset] [(.ref b25), (.int (0 : Int32)), (.ref b19), (.ref b19)])) _
    refine st28 _ ?_
    show Steps p.tables e below (T28.setTop (mkF m 29 #[.val (.int p0), .val (.int p1), .val (.int p2), .val (.int p3), .val (.int (1 : Int32)), .val (.ref b6), .unset, .unset, .unset, .unset, .unset, .unset] [(.ref b19)])) _
    refine XS.astore X28.here hx rfl (hb hby at_29) rfl rfl (l' := #[.val (.int p0), .val (.int p1), .val (.int p2), .val (.int p3), .val (.int (1 : Int32)), .val (.ref b6), .val (.ref b19), .unset, .unset, .unset, .unset, .unset]) rfl ?_
    show Steps p.tables e below (T28.setTop (mkF m 31 #[.val (.int p0), .val (.int p1), .val (.int p2), .val (.int p3), .val (.int (1 : Int32)), .val (.ref b6), .val (.ref b19), .unset, .unset, .unset, .unset, .unset] [])) _
    refine XS.iconst X28.here hx rfl (hb hby at_31) ?_
    show Steps p.tables e below (T28.setTop (mkF m 32 #[.val (.int p0), .val (.int p1), .val (.int p2), .val (.int p3), .val (.int (1 : Int32)), .val (.ref b6), .val (.ref b19), .unset, .unset, .unset, .unset, .unset] [(.int (0 : Int32))])) _
    refine st32 _ ?_
    show Steps p.tables e below (T32.setTop (mkF m 35 #[.val (.int p0), .val (.int p1), .val (.int p2), .val (.int p3), .val (.int (1 : Int32)), .val (.ref b6), .val (.ref b19), .unset, .unset, .unset, .unset, .unset] [(.ref b32)])) _
    refine XS.astore X32.here hx rfl (hb hby at_35) rfl rfl (l' := #[.val (.int p0), .val (.int p1), .val (.int p2), .val (.int p3), .val (.int (1 : Int32)), .val (.ref b6), .val (.ref b19), .val (.ref b32), .unset, .unset, .unset, .unset]) rfl ?_
    show Steps p.tables e below (T32.setTop (mkF m 37 #[.val (.int p0), .val (.int p1), .val (.int p2), .val (.int p3), .val (.int (1 : Int32)), .val (.ref b6), .val (.ref b19), .val (.ref b32), .unset, .unset, .unset, .unset] [])) _
    refine st37 _ ?_
    show Steps p.tables e below (T37.setTop (mkF m 40 #[.val (.int p0), .val (.int p1), .val (.int p2), .val (.int p3), .val (.int (1 : Int32)), .val (.ref b6), .val (.ref b19), .val (.ref b32), .unset, .unset, .unset, .unset] [(.ref b37)])) _
    refine XS.dup X37.here hx rfl (hb hby at_40) rfl rfl ?_
    show Steps p.tables e below (T37.setTop (mkF m 41 #[.val (.int p0), .val (.int p1), .val (.int p2), .val (.int p3), .val (.int (1 : Int32)), .val (.ref b6), .val (.ref b19), .val (.ref b32), .unset, .unset, .unset, .unset] [(.ref b37), (.ref b37)])) _
    refine st41.trans ?_
    show Steps p.tables e below (T41.setTop (mkF m 44 #[.val (.int p0), .val (.int p1), .val (.int p2), .val (.int p3), .val (.int (1 : Int32)), .val (.ref b6), .val (.ref b19), .val (.ref b32), .unset, .unset, .unset, .unset] [(.ref b37)])) _
    refine XS.astore X41.here hx rfl (hb hby at_44) rfl rfl (l' := #[.val (.int p0), .val (.int p1), .val (.int p2), .val (.int p3), .val (.int (1 : Int32)), .val (.ref b6), .val (.ref b19), .val (.ref b32), .val (.ref b37), .unset, .unset, .unset]) rfl ?_
    show Steps p.tables e below (T41.setTop (mkF m 46 #[.val (.int p0), .val (.int p1), .val (.int p2), .val (.int p3), .val (.int (1 : Int32)), .val (.ref b6), .val (.ref b19), .val (.ref b32), .val (.ref b37), .unset, .unset, .unset] [])) _
    refine XS.iload X41.here hx rfl (hb hby at_46) rfl ?_
    show Steps p.tables e below (T41.setTop (mkF m 48 #[.val (.int p0), .val (.int p1), .val (.int p2), .val (.int p3), .val (.int (1 : Int32)), .val (.ref b6), .val (.ref b19), .val (.ref b32), .val (.ref b37), .unset, .unset, .unset] [(.int (1 : Int32))])) _
    refine XS.iconst X41.here hx rfl (hb hby at_48) ?_
    show Steps p.tables e below (T41.setTop (mkF m 49 #[.val (.int p0), .val (.int p1), .val (.int p2), .val (.int p3), .val (.int (1 : Int32)), .val (.ref b6), .val (.ref b19), .val (.ref b32), .val (.ref b37), .unset, .unset, .unset] [(.int (1 : Int32)), (.int (1 : Int32))])) _
    refine XS.icmpNo X41.here hx rfl (hb hby at_49) rfl (flt (by decide : ¬ ((1 : Int32) < (1 : Int32)))).1 ?_
    show Steps p.tables e below (T41.setTop (mkF m 52 #[.val (.int p0), .val (.int p1), .val (.int p2), .val (.int p3), .val (.int (1 : Int32)), .val (.ref b6), .val (.ref b19), .val (.ref b32), .val (.ref b37), .unset, .unset, .unset] [])) _
    refine XS.aload X41.here hx rfl (hb hby at_52) rfl rfl ?_
    show Steps p.tables e below (T41.setTop (mkF m 54 #[.val (.int p0), .val (.int p1), .val (.int p2), .val (.int p3), .val (.int (1 : Int32)), .val (.ref b6), .val (.ref b19), .val (.ref b32), .val (.ref b37), .unset, .unset, .unset] [(.ref b37)])) _
    refine XS.aload X41.here hx rfl (hb hby at_54) rfl rfl ?_
    show Steps p.tables e below (T41.setTop (mkF m 56 #[.val (.int p0), .val (.int p1), .val (.int p2), .val (.int p3), .val (.int (1 : Int32)), .val (.ref b6), .val (.ref b19), .val (.ref b32), .val (.ref b37), .unset, .unset, .unset] [(.ref b6), (.ref b37)])) _
    refine st56.trans ?_
    show Steps p.tables e below (T56.setTop (mkF m 59 #[.val (.int p0), .val (.int p1), .val (.int p2), .val (.int p3), .val (.int (1 : Int32)), .val (.ref b6), .val (.ref b19), .val (.ref b32), .val (.ref b37), .unset, .unset, .unset] [(.int (1 : Int32))])) _
    refine XS.pop X56.here hx rfl (hb hby at_59) rfl rfl ?_
    show Steps p.tables e below (T56.setTop (mkF m 60 #[.val (.int p0), .val (.int p1), .val (.int p2), .val (.int p3), .val (.int (1 : Int32)), .val (.ref b6), .val (.ref b19), .val (.ref b32), .val (.ref b37), .unset, .unset, .unset] [])) _
    refine XS.iload X56.here hx rfl (hb hby at_60) rfl ?_
    show Steps p.tables e below (T56.setTop (mkF m 62 #[.val (.int p0), .val (.int p1), .val (.int p2), .val (.int p3), .val (.int (1 : Int32)), .val (.ref b6), .val (.ref b19), .val (.ref b32), .val (.ref b37), .unset, .unset, .unset] [(.int (1 : Int32))])) _
    refine XS.iconst X56.here hx rfl (hb hby at_62) ?_
    show Steps p.tables e below (T56.setTop (mkF m 63 #[.val (.int p0), .val (.int p1), .val (.int p2), .val (.int p3), .val (.int (1 : Int32)), .val (.ref b6), .val (.ref b19), .val (.ref b32), .val (.ref b37), .unset, .unset, .unset] [(.int (2 : Int32)), (.int (1 : Int32))])) _
    refine XS.icmpYes X56.here hx rfl (pc0 := 63) (pc' := 74) rfl (hb hby at_63) rfl (tlt (by decide : (1 : Int32) < (2 : Int32))).1 (by decide) (by decide) ?_
    show Steps p.tables e below (T56.setTop (mkF m 74 #[.val (.int p0), .val (.int p1), .val (.int p2), .val (.int p3), .val (.int (1 : Int32)), .val (.ref b6), .val (.ref b19), .val (.ref b32), .val (.ref b37), .unset, .unset, .unset] [])) _
    refine XS.iload X56.here hx rfl (hb hby at_74) rfl ?_
    show Steps p.tables e below (T56.setTop (mkF m 76 #[.val (.int p0), .val (.int p1), .val (.int p2), .val (.int p3), .val (.int (1 : Int32)), .val (.ref b6), .val (.ref b19), .val (.ref b32), .val (.ref b37), .unset, .unset, .unset] [(.int (1 : Int32))])) _
    refine XS.iconst X56.here hx rfl (hb hby at_76) ?_
    show Steps p.tables e below (T56.setTop (mkF m 77 #[.val (.int p0), .val (.int p1), .val (.int p2), .val (.int p3), .val (.int (1 : Int32)), .val (.ref b6), .val (.ref b19), .val (.ref b32), .val (.ref b37), .unset, .unset, .unset] [(.int (3 : Int32)), (.int (1 : Int32))])) _
    refine XS.icmpYes X56.here hx rfl (pc0 := 77) (pc' := 88) rfl (hb hby at_77) rfl (tlt (by decide : (1 : Int32) < (3 : Int32))).1 (by decide) (by decide) ?_
    show Steps p.tables e below (T56.setTop (mkF m 88 #[.val (.int p0), .val (.int p1), .val (.int p2), .val (.int p3), .val (.int (1 : Int32)), .val (.ref b6), .val (.ref b19), .val (.ref b32), .val (.ref b37), .unset, .unset, .unset] [])) _
    refine st88 _ ?_
    show Steps p.tables e below (T88.setTop (mkF m 91 #[.val (.int p0), .val (.int p1), .val (.int p2), .val (.int p3), .val (.int (1 : Int32)), .val (.ref b6), .val (.ref b19), .val (.ref b32), .val (.ref b37), .unset, .unset, .unset] [(.ref b88)])) _
    refine XS.dup X88.here hx rfl (hb hby at_91) rfl rfl ?_
    show Steps p.tables e below (T88.setTop (mkF m 92 #[.val (.int p0), .val (.int p1), .val (.int p2), .val (.int p3), .val (.int (1 : Int32)), .val (.ref b6), .val (.ref b19), .val (.ref b32), .val (.ref b37), .unset, .unset, .unset] [(.ref b88), (.ref b88)])) _
    refine XS.aload X88.here hx rfl (hb hby at_92) rfl rfl ?_
    show Steps p.tables e below (T88.setTop (mkF m 94 #[.val (.int p0), .val (.int p1), .val (.int p2), .val (.int p3), .val (.int (1 : Int32)), .val (.ref b6), .val (.ref b19), .val (.ref b32), .val (.ref b37), .unset, .unset, .unset] [(.ref b37), (.ref b88), (.ref b88)])) _
    refine XS.iloadN X88.here hx rfl (hb hby at_94) rfl ?_
    show Steps p.tables e below (T88.setTop (mkF m 95 #[.val (.int p0), .val (.int p1), .val (.int p2), .val (.int p3), .val (.int (1 : Int32)), .val (.ref b6), .val (.ref b19), .val (.ref b32), .val (.ref b37), .unset, .unset, .unset] [(.int p1), (.ref b37), (.ref b88), (.ref b88)])) _
    refine st95.trans ?_
    show Steps p.tables e below (T95.setTop (mkF m 98 #[.val (.int p0), .val (.int p1), .val (.int p2), .val (.int p3), .val (.int (1 : Int32)), .val (.ref b6), .val (.ref b19), .val (.ref b32), .val (.ref b37), .unset, .unset, .unset] [(.ref b88)])) _
    refine XS.astore X95.here hx rfl (hb hby at_98) rfl rfl (l' := #[.val (.int p0), .val (.int p1), .val (.int p2), .val (.int p3), .val (.int (1 : Int32)), .val (.ref b6), .val (.ref b19), .val (.ref b32), .val (.ref b37), .val (.ref b88), .unset, .unset]) rfl ?_
    show Steps p.tables e below (T95.setTop (mkF m 100 #[.val (.int p0), .val (.int p1), .val (.int p2), .val (.int p3), .val (.int (1 : Int32)), .val (.ref b6), .val (.ref b19), .val (.ref b32), .val (.ref b37), .val (.ref b88), .unset, .unset] [])) _
    refine XS.aload X95.here hx rfl (hb hby at_100) rfl rfl ?_
    show Steps p.tables e below (T95.setTop (mkF m 102 #[.val (.int p0), .val (.int p1), .val (.int p2), .val (.int p3), .val (.int (1 : Int32)), .val (.ref b6), .val (.ref b19), .val (.ref b32), .val (.ref b37), .val (.ref b88), .unset, .unset] [(.ref b88)])) _
    refine st102.trans ?_
    show Steps p.tables e below (T102.setTop (mkF m 105 #[.val (.int p0), .val (.int p1), .val (.int p2), .val (.int p3), .val (.int (1 : Int32)), .val (.ref b6), .val (.ref b19), .val (.ref b32), .val (.ref b37), .val (.ref b88), .unset, .unset] [(.ref b6)])) _
    refine XS.astore X102.here hx rfl (hb hby at_105) rfl rfl (l' := #[.val (.int p0), .val (.int p1), .val (.int p2), .val (.int p3), .val (.int (1 : Int32)), .val (.ref b6), .val (.ref b19), .val (.ref b32), .val (.ref b37), .val (.ref b88), .val (.ref b6), .unset]) rfl ?_
    show Steps p.tables e below (T102.setTop (mkF m 107 #[.val (.int p0), .val (.int p1), .val (.int p2), .val (.int p3), .val (.int (1 : Int32)), .val (.ref b6), .val (.ref b19), .val (.ref b32), .val (.ref b37), .val (.ref b88), .val (.ref b6), .unset] [])) _
    refine XS.iload X102.here hx rfl (hb hby at_107) rfl ?_
    show Steps p.tables e below (T102.setTop (mkF m 109 #[.val (.int p0), .val (.int p1), .val (.int p2), .val (.int p3), .val (.int (1 : Int32)), .val (.ref b6), .val (.ref b19), .val (.ref b32), .val (.ref b37), .val (.ref b88), .val (.ref b6), .unset] [(.int (1 : Int32))])) _
    refine XS.ifYes X102.here hx rfl (pc0 := 109) (pc' := 127) rfl (hb hby at_109) rfl ((if0 _ _).trans (feq (by decide : ¬ ((1 : Int32) = (0 : Int32)))).2) (by decide) (by decide) ?_
    show Steps p.tables e below (T102.setTop (mkF m 127 #[.val (.int p0), .val (.int p1), .val (.int p2), .val (.int p3), .val (.int (1 : Int32)), .val (.ref b6), .val (.ref b19), .val (.ref b32), .val (.ref b37), .val (.ref b88), .val (.ref b6), .unset] [])) _
    refine XS.aload X102.here hx rfl (hb hby at_127) rfl rfl ?_
    show Steps p.tables e below (T102.setTop (mkF m 129 #[.val (.int p0), .val (.int p1), .val (.int p2), .val (.int p3), .val (.int (1 : Int32)), .val (.ref b6), .val (.ref b19), .val (.ref b32), .val (.ref b37), .val (.ref b88), .val (.ref b6), .unset] [(.ref b6)])) _
    refine XS.aload X102.here hx rfl (hb hby at_129) rfl rfl ?_
    show Steps p.tables e below (T102.setTop (mkF m 131 #[.val (.int p0), .val (.int p1), .val (.int p2), .val (.int p3), .val (.int (1 : Int32)), .val (.ref b6), .val (.ref b19), .val (.ref b32), .val (.ref b37), .val (.ref b88), .val (.ref b6), .unset] [(.ref b6), (.ref b6)])) _
    refine Jvm.RoadKit.acmp (g := (mkF m 131 #[.val (.int p0), .val (.int p1), .val (.int p2), .val (.int p3), .val (.int (1 : Int32)), .val (.ref b6), .val (.ref b19), .val (.ref b32), .val (.ref b37), .val (.ref b88), .val (.ref b6), .unset] [(.ref b6), (.ref b6)])) X102 hx rfl rfl rfl (pc0 := 131) (pc' := 134) (same := true) rfl (hb hby at_131) rfl (decide_eq_true rfl) (by decide) (by decide) ?_
    show Steps p.tables e below (T102.setTop (mkF m 134 #[.val (.int p0), .val (.int p1), .val (.int p2), .val (.int p3), .val (.int (1 : Int32)), .val (.ref b6), .val (.ref b19), .val (.ref b32), .val (.ref b37), .val (.ref b88), .val (.ref b6), .unset] [])) _
    refine XS.aload X102.here hx rfl (hb hby at_134) rfl rfl ?_
    show Steps p.tables e below (T102.setTop (mkF m 136 #[.val (.int p0), .val (.int p1), .val (.int p2), .val (.int p3), .val (.int (1 : Int32)), .val (.ref b6), .val (.ref b19), .val (.ref b32), .val (.ref b37), .val (.ref b88), .val (.ref b6), .unset] [(.ref b6)])) _
    refine X102.arraylength hx (by exact Ar136.1) (State.isArrayOf_alike hZ.alike Ar136.2.1) (g := (mkF m 136 #[.val (.int p0), .val (.int p1), .val (.int p2), .val (.int p3), .val (.int (1 : Int32)), .val (.ref b6), .val (.ref b19), .val (.ref b32), .val (.ref b37), .val (.ref b88), .val (.ref b6), .unset] [(.ref b6)])) rfl rfl (hb hby at_136) _ ?_
    rw [len_of Sz136 NN136]
    show Steps p.tables e below (T102.setTop (mkF m 137 #[.val (.int p0), .val (.int p1), .val (.int p2), .val (.int p3), .val (.int (1 : Int32)), .val (.ref b6), .val (.ref b19), .val (.ref b32), .val (.ref b37), .val (.ref b88), .val (.ref b6), .unset] [(.int (1 : Int32))])) _
    refine XS.iconst X102.here hx rfl (hb hby at_137) ?_
    show Steps p.tables e below (T102.setTop (mkF m 138 #[.val (.int p0), .val (.int p1), .val (.int p2), .val (.int p3), .val (.int (1 : Int32)), .val (.ref b6), .val (.ref b19), .val (.ref b32), .val (.ref b37), .val (.ref b88), .val (.ref b6), .unset] [(.int (1 : Int32)), (.int (1 : Int32))])) _
    refine XS.icmpNo X102.here hx rfl (hb hby at_138) rfl (teq (by decide : (1 : Int32) = (1 : Int32))).2 ?_
    show Steps p.tables e below (T102.setTop (mkF m 141 #[.val (.int p0), .val (.int p1), .val (.int p2), .val (.int p3), .val (.int (1 : Int32)), .val (.ref b6), .val (.ref b19), .val (.ref b32), .val (.ref b37), .val (.ref b88), .val (.ref b6), .unset] [])) _
    refine XS.aload X102.here hx rfl (hb hby at_141) rfl rfl ?_
    show Steps p.tables e below (T102.setTop (mkF m 143 #[.val (.int p0), .val (.int p1), .val (.int p2), .val (.int p3), .val (.int (1 : Int32)), .val (.ref b6), .val (.ref b19), .val (.ref b32), .val (.ref b37), .val (.ref b88), .val (.ref b6), .unset] [(.ref b6)])) _
    refine XS.iconst X102.here hx rfl (hb hby at_143) ?_
    show Steps p.tables e below (T102.setTop (mkF m 144 #[.val (.int p0), .val (.int p1), .val (.int p2), .val (.int p3), .val (.int (1 : Int32)), .val (.ref b6), .val (.ref b19), .val (.ref b32), .val (.ref b37), .val (.ref b88), .val (.ref b6), .unset] [(.int (0 : Int32)), (.ref b6)])) _
    refine X102.aaload hx (j := (0 : Int32)) (v := (.ref b12)) (by exact Ar144.1) (State.isArrayOf_alike hZ.alike Ar144.2.1) rfl Ar144.2.2 hin144 f79 (g := (mkF m 144 #[.val (.int p0), .val (.int p1), .val (.int p2), .val (.int p3), .val (.int (1 : Int32)), .val (.ref b6), .val (.ref b19), .val (.ref b32), .val (.ref b37), .val (.ref b88), .val (.ref b6), .unset] [(.int (0 : Int32)), (.ref b6)])) rfl rfl (hb hby at_144) _ ?_
    show Steps p.tables e below (T102.setTop (mkF m 145 #[.val (.int p0), .val (.int p1), .val (.int p2), .val (.int p3), .val (.int (1 : Int32)), .val (.ref b6), .val (.ref b19), .val (.ref b32), .val (.ref b37), .val (.ref b88), .val (.ref b6), .unset] [(.ref b12)])) _
    refine st145 _ ?_
    show Steps p.tables e below (T145.setTop (mkF m 148 #[.val (.int p0), .val (.int p1), .val (.int p2), .val (.int p3), .val (.int (1 : Int32)), .val (.ref b6), .val (.ref b19), .val (.ref b32), .val (.ref b37), .val (.ref b88), .val (.ref b6), .unset] [(.ref b12)])) _
    refine st148.trans ?_
    show Steps p.tables e below (T148.setTop (mkF m 151 #[.val (.int p0), .val (.int p1), .val (.int p2), .val (.int p3), .val (.int (1 : Int32)), .val (.ref b6), .val (.ref b19), .val (.ref b32), .val (.ref b37), .val (.ref b88), .val (.ref b6), .unset] [(.int p2)])) _
    refine XS.iloadN X148.here hx rfl (hb hby at_151) rfl ?_
    show Steps p.tables e below (T148.setTop (mkF m 152 #[.val (.int p0), .val (.int p1), .val (.int p2), .val (.int p3), .val (.int (1 : Int32)), .val (.ref b6), .val (.ref b19), .val (.ref b32), .val (.ref b37), .val (.ref b88), .val (.ref b6), .unset] [(.int p2), (.int p2)])) _
    refine XS.icmpNo X148.here hx rfl (hb hby at_152) rfl (teq (rfl : p2 = p2)).2 ?_
    show Steps p.tables e below (T148.setTop (mkF m 155 #[.val (.int p0), .val (.int p1), .val (.int p2), .val (.int p3), .val (.int (1 : Int32)), .val (.ref b6), .val (.ref b19), .val (.ref b32), .val (.ref b37), .val (.ref b88), .val (.ref b6), .unset] [])) _
    refine XS.iconst X148.here hx rfl (hb hby at_155) ?_
    show Steps p.tables e below (T148.setTop (mkF m 156 #[.val (.int p0), .val (.int p1), .val (.int p2), .val (.int p3), .val (.int (1 : Int32)), .val (.ref b6), .val (.ref b19), .val (.ref b32), .val (.ref b37), .val (.ref b88), .val (.ref b6), .unset] [(.int (1 : Int32))])) _
    refine XS.goto X148.here hx rfl (pc0 := 156) (pc' := 160) rfl (hb hby at_156) (by decide) (by decide) ?_
    show Steps p.tables e below (T148.setTop (mkF m 160 #[.val (.int p0), .val (.int p1), .val (.int p2), .val (.int p3), .val (.int (1 : Int32)), .val (.ref b6), .val (.ref b19), .val (.ref b32), .val (.ref b37), .val (.ref b88), .val (.ref b6), .unset] [(.int (1 : Int32))])) _
    refine XS.istore X148.here hx rfl (hb hby at_160) rfl (l' := #[.val (.int p0), .val (.int p1), .val (.int p2), .val (.int p3), .val (.int (1 : Int32)), .val (.ref b6), .val (.ref b19), .val (.ref b32), .val (.ref b37), .val (.ref b88), .val (.ref b6), .val (.int (1 : Int32))]) rfl ?_
    show Steps p.tables e below (T148.setTop (mkF m 162 #[.val (.int p0), .val (.int p1), .val (.int p2), .val (.int p3), .val (.int (1 : Int32)), .val (.ref b6), .val (.ref b19), .val (.ref b32), .val (.ref b37), .val (.ref b88), .val (.ref b6), .val (.int (1 : Int32))] [])) _
    refine XS.iload X148.here hx rfl (hb hby at_162) rfl ?_
    show Steps p.tables e below (T148.setTop (mkF m 164 #[.val (.int p0), .val (.int p1), .val (.int p2), .val (.int p3), .val (.int (1 : Int32)), .val (.ref b6), .val (.ref b19), .val (.ref b32), .val (.ref b37), .val (.ref b88), .val (.ref b6), .val (.int (1 : Int32))] [(.int (1 : Int32))])) _
    refine XS.ifNo X148.here hx rfl (hb hby at_164) rfl ((if0 _ _).trans (feq (by decide : ¬ ((1 : Int32) = (0 : Int32)))).1) ?_
    show Steps p.tables e below (T148.setTop (mkF m 167 #[.val (.int p0), .val (.int p1), .val (.int p2), .val (.int p3), .val (.int (1 : Int32)), .val (.ref b6), .val (.ref b19), .val (.ref b32), .val (.ref b37), .val (.ref b88), .val (.ref b6), .val (.int (1 : Int32))] [])) _
    refine XS.aload X148.here hx rfl (hb hby at_167) rfl rfl ?_
    show Steps p.tables e below (T148.setTop (mkF m 169 #[.val (.int p0), .val (.int p1), .val (.int p2), .val (.int p3), .val (.int (1 : Int32)), .val (.ref b6), .val (.ref b19), .val (.ref b32), .val (.ref b37), .val (.ref b88), .val (.ref b6), .val (.int (1 : Int32))] [(.ref b88)])) _
    refine st169.trans ?_
    show Steps p.tables e below (T169.setTop (mkF m 172 #[.val (.int p0), .val (.int p1), .val (.int p2), .val (.int p3), .val (.int (1 : Int32)), .val (.ref b6), .val (.ref b19), .val (.ref b32), .val (.ref b37), .val (.ref b88), .val (.ref b6), .val (.int (1 : Int32))] [(.ref b37)])) _
    refine st172.trans ?_
    show Steps p.tables e below (T172.setTop (mkF m 177 #[.val (.int p0), .val (.int p1), .val (.int p2), .val (.int p3), .val (.int (1 : Int32)), .val (.ref b6), .val (.ref b19), .val (.ref b32), .val (.ref b37), .val (.ref b88), .val (.ref b6), .val (.int (1 : Int32))] [(.int (1 : Int32))])) _
    refine XS.iload X172.here hx rfl (hb hby at_177) rfl ?_
    show Steps p.tables e below (T172.setTop (mkF m 179 #[.val (.int p0), .val (.int p1), .val (.int p2), .val (.int p3), .val (.int (1 : Int32)), .val (.ref b6), .val (.ref b19), .val (.ref b32), .val (.ref b37), .val (.ref b88), .val (.ref b6), .val (.int (1 : Int32))] [(.int (1 : Int32)), (.int (1 : Int32))])) _
    refine XS.icmpNo X172.here hx rfl (hb hby at_179) rfl (teq (by decide : (1 : Int32) = (1 : Int32))).2 ?_
    show Steps p.tables e below (T172.setTop (mkF m 182 #[.val (.int p0), .val (.int p1), .val (.int p2), .val (.int p3), .val (.int (1 : Int32)), .val (.ref b6), .val (.ref b19), .val (.ref b32), .val (.ref b37), .val (.ref b88), .val (.ref b6), .val (.int (1 : Int32))] [])) _
    refine XS.aload X172.here hx rfl (hb hby at_182) rfl rfl ?_
    show Steps p.tables e below (T172.setTop (mkF m 184 #[.val (.int p0), .val (.int p1), .val (.int p2), .val (.int p3), .val (.int (1 : Int32)), .val (.ref b6), .val (.ref b19), .val (.ref b32), .val (.ref b37), .val (.ref b88), .val (.ref b6), .val (.int (1 : Int32))] [(.ref b88)])) _
    refine st184.trans ?_
    show Steps p.tables e below (T184.setTop (mkF m 187 #[.val (.int p0), .val (.int p1), .val (.int p2), .val (.int p3), .val (.int (1 : Int32)), .val (.ref b6), .val (.ref b19), .val (.ref b32), .val (.ref b37), .val (.ref b88), .val (.ref b6), .val (.int (1 : Int32))] [(.int p1)])) _
    refine XS.iloadN X184.here hx rfl (hb hby at_187) rfl ?_
    show Steps p.tables e below (T184.setTop (mkF m 188 #[.val (.int p0), .val (.int p1), .val (.int p2), .val (.int p3), .val (.int (1 : Int32)), .val (.ref b6), .val (.ref b19), .val (.ref b32), .val (.ref b37), .val (.ref b88), .val (.ref b6), .val (.int (1 : Int32))] [(.int p1), (.int p1)])) _
    refine XS.icmpNo X184.here hx rfl (hb hby at_188) rfl (teq (rfl : p1 = p1)).2 ?_
    show Steps p.tables e below (T184.setTop (mkF m 191 #[.val (.int p0), .val (.int p1), .val (.int p2), .val (.int p3), .val (.int (1 : Int32)), .val (.ref b6), .val (.ref b19), .val (.ref b32), .val (.ref b37), .val (.ref b88), .val (.ref b6), .val (.int (1 : Int32))] [])) _
    refine XS.iconst X184.here hx rfl (hb hby at_191) ?_
    show Steps p.tables e below (T184.setTop (mkF m 192 #[.val (.int p0), .val (.int p1), .val (.int p2), .val (.int p3), .val (.int (1 : Int32)), .val (.ref b6), .val (.ref b19), .val (.ref b32), .val (.ref b37), .val (.ref b88), .val (.ref b6), .val (.int (1 : Int32))] [(.int (1 : Int32))])) _
    refine XS.goto X184.here hx rfl (pc0 := 192) (pc' := 196) rfl (hb hby at_192) (by decide) (by decide) ?_
    show Steps p.tables e below (T184.setTop (mkF m 196 #[.val (.int p0), .val (.int p1), .val (.int p2), .val (.int p3), .val (.int (1 : Int32)), .val (.ref b6), .val (.ref b19), .val (.ref b32), .val (.ref b37), .val (.ref b88), .val (.ref b6), .val (.int (1 : Int32))] [(.int (1 : Int32))])) _
    exact retN X184 hx (t := .boolean) Bd.returns (by simp) (hb hby at_196) hr
  · show Q_law Z p0 p1 p2 p3 cc cl de kde h0 n0 _ T184.heap _
    exact ⟨rfl, N184, f125⟩
theorem ef_rm_law_2 (m : MethodId) (x0 : Int32) (x1 : Int32) (x2 : Int32) (x3 : Int32) : entryFrame m #[(.int x0), (.int x1), (.int x2), (.int x3)] maxLocals = mkF m 0 #[.val (.int x0), .val (.int x1), .val (.int x2), .val (.int x3), .unset, .unset, .unset, .unset, .unset, .unset, .unset, .unset] [] := by first | (simp [entryFrame, mkF, argsToLocals, Value.category, maxLocals]; done) | rfl
set_option maxRecDepth 65536 in
set_option maxHeartbeats 40000000 in
theorem rm_law_2 (l : Launch) (Z : State) (a0 : Array Value) (hw : ∀ d ∈ tables_1, d.before a0 Z = true) (ws : List Jvm.Cond) (p0 : Int32) (p1 : Int32) (p2 : Int32) (p3 : Int32) (cc : Addr) (cl : Cell) (de : Addr) (kde : ClassId) (h0 : Heap) (n0 : Nat) (O0 : Old Z n0 h0) (S_high : Sta Z Z.heap "java/lang/Integer$IntegerCache" "high" "I" (.int (127 : Int32))) (S_cache : Sta Z Z.heap "java/lang/Integer$IntegerCache" "cache" "[Ljava/lang/Integer;" (.ref cc)) (B_cache : Bxs Z cc cl "java/lang/Integer" "I" (256 : Int32) (fun j => .int (j - 128))) (S_D : Sta Z Z.heap "java/util/ArrayList" "DEFAULTCAPACITY_EMPTY_ELEMENTDATA" "[Ljava/lang/Object;" (.ref de)) (V_D : Arv Z Z.heap de kde (.object "java/lang/Object") (0 : Int32) [] .null) (hi : (p0 &&& (3 : Int32)) = (2 : Int32)) :
    MetFree l x (head1 (Jvm.Cond.code x code maxLocals ret :: ws) room_1) (fun as' U => as' = #[(.int p0), (.int p1), (.int p2), (.int p3)] ∧ Z.Warmed39 U.vm ∧ U.heap = h0) (fun _ _ _ _ _ => True) (fun _ U o U' => ∃ v L, o = .returned v ∧ Q_law Z p0 p1 p2 p3 cc cl de kde h0 n0 v U'.heap L ∧ FrameEnd U o U' L room_1.cells room_1.slots) := by
  refine MetFree.of_bodySF (plainFor_of_name pn_com_example_countinghouse_countinghouse_ResultRowPinLaw) hisR ?_
  intro p e s m args below meth c s₁ Bd hml0 hP hK
  obtain ⟨rfl, hZ, hh⟩ := hP
  have hx := Bd.exec
  have hby := Bd.bytes
  have hml : c.maxLocals = 12 := hml0
  have hown : s.vm.findClass "com/example/countinghouse/countinghouse/ResultRowPinLaw" = some m.cls := findClass_of_methodNamed Bd.named
  have hnm := (name_of_methodNamed Bd.named Bd.method).1
  have X0 : Stand p l e room_1 s m #[(.int p0), (.int p1), (.int p2), (.int p3)] below meth c s₁ [] 0 0 := Stand.of_body Bd
  have e0 : s₁.heap = h0 := by rw [← hh, Bd.state]; rfl
  have N0 := Fr.nil n0
  have K0 : Keep h0 h0 [] := Keep.refl _ _
  have pre0 : ∀ t, Steps p.tables e below (s₁.setTop (mkF m 0 #[.val (.int p0), .val (.int p1), .val (.int p2), .val (.int p3), .unset, .unset, .unset, .unset, .unset, .unset, .unset, .unset] [])) t → Steps p.tables e below (s₁.setTop (entryFrame m #[(.int p0), (.int p1), (.int p2), (.int p3)] maxLocals)) t := fun t k => castTop (ef_rm_law_2 m p0 p1 p2 p3) k
  obtain ⟨T6, h6, kc6, X6, e6, Ex6, Aa6, Bb6, Ov6, st6⟩ := newRE X0 hx hZ hown (w_0 hw) (w_1 hw) e0 (g := (mkF m 6 #[.val (.int p0), .val (.int p1), .val (.int p2), .val (.int p3), .val (.int (2 : Int32)), .unset, .unset, .unset, .unset, .unset, .unset, .unset] [(.int (1 : Int32))])) rfl (hb hby at_6) rfl (by decide) (cap := 1) (by decide) (by decide) (by decide) (by decide) (ad := "[Ljava/lang/Object;") (by first | rfl | decide +kernel)
  obtain ⟨b6, gg6⟩ : ∃ z, z = h0.size := ⟨_, rfl⟩
  rw [← gg6] at Aa6 Bb6 st6
  have f1 : Keep h0 h6 [] := K0.ext Ex6
  have f2 : Old Z n0 h6 := O0.ext Ex6
  have f3 : Arv Z h6 b6 kc6 (.object "java/lang/Object") (1 : Int32) [.null] .null := (Arv.new Aa6 (by decide)).pad (pad_rep [] .null 1)
  obtain ⟨_, _, ⟨T12, Lo12, kk12, nn12⟩, -, X12, ⟨Lc12, hQ12, ll12, yy12, zz12⟩, st12⟩ := Jvm.LawKit.callS X6 hx (y := (⟨"java/lang/Integer", "valueOf", "(I)Ljava/lang/Integer;"⟩ : MethodName)) hown (mvT hZ (w_2 hw)) (mvT hZ (w_3 hw)) (mvT hZ (w_4 hw)) (mvT hZ (w_5 hw)) (by decide) (backOf (W := 3) (rm_valueOf l Z a0 hw [] p2 cc cl h6 n0 f2 S_high S_cache B_cache) hZ (w_5 hw) (w_4 hw) (by decide) (by decide)) (g := (mkF m 12 #[.val (.int p0), .val (.int p1), .val (.int p2), .val (.int p3), .val (.int (2 : Int32)), .unset, .unset, .unset, .unset, .unset, .unset, .unset] [(.int p2), (.int (0 : Int32)), (.ref b6), (.ref b6)])) rfl (by rw [hml]; rfl) (argsL := [(.int p2)]) (rest := [(.int (0 : Int32)), (.ref b6), (.ref b6)]) (lenOf pd_9 rfl) rfl (by show 2 * 0 + _ ≤ _; exact Nat.le_of_eq rfl) (hb hby at_12) (fun _ _ => ⟨rfl, e6, (by decide : 1 + 1 ≤ _), (by decide : 1 + 1 ≤ _)⟩)
  dsimp only [Pt.U, Pt.locs, Pt.cells, Pt.slots] at X12 ll12 yy12 zz12 st12 hQ12
  subst ll12 yy12 zz12
  obtain ⟨b12, rfl, N12q, K12q, p12_0, p12_1⟩ := hQ12
  have N12 := Fr.app N0 N12q
  have f4 : Keep h0 T12.heap [] := f1.trans K12q all0
  have f5 : Old Z n0 T12.heap := f2.keep K12q all0
  have f6 : Arv Z T12.heap b6 kc6 (.object "java/lang/Object") (1 : Int32) [.null] .null := f3.keep K12q nin0
  obtain ⟨cl15, Ar15, qq15, Sz15, NN15, HH15, GG15⟩ := (id f6)
  have hin15 : ¬ ((0 : Int32) < 0 ∨ cl15.slots.size ≤ ((0 : Int32)).toNatClampNeg) := inb_of Sz15 ⟨by decide, by decide⟩
  obtain ⟨T15, h15, X15, e15, Wr15, st15⟩ := stR X12 hx hZ rfl Ar15 (j := (0 : Int32)) hin15 rfl (Sto.ofV Ar15 qq15 Ov6 (Ins.of_exa p12_0 (w_9 hw))) (g := (mkF m 15 #[.val (.int p0), .val (.int p1), .val (.int p2), .val (.int p3), .val (.int (2 : Int32)), .unset, .unset, .unset, .unset, .unset, .unset, .unset] [(.ref b12), (.int (0 : Int32)), (.ref b6), (.ref b6)])) rfl rfl (hb hby at_15)
  have f8 : h0.size ≤ b6 := Nat.le_trans K0.1 (Nat.le_of_eq gg6.symm)
  have f9 : n0 ≤ b6 := Nat.le_trans (own_old_le O0) (Nat.le_of_eq gg6.symm)
  have f10 : Keep h0 h15 [] := f4.wr Wr15 (Or.inr f8)
  have f11 : Old Z n0 h15 := f5.wr Wr15 f9
  have f12 : Arv Z h15 b6 kc6 (.object "java/lang/Object") (1 : Int32) [(.ref b12)] .null := Arv.set Ar15 qq15 Sz15 NN15 HH15 GG15 rfl Wr15 0 rfl (Nat.le_of_ble_eq_true rfl)
  have N15 := Fr.snoc X15 N12 f9
  obtain ⟨T19, h19, kc19, X19, e19, Ex19, Aa19, Bb19, Ov19, st19⟩ := newRE X15 hx hZ hown (w_0 hw) (w_1 hw) e15 (g := (mkF m 19 #[.val (.int p0), .val (.int p1), .val (.int p2), .val (.int p3), .val (.int (2 : Int32)), .val (.ref b6), .unset, .unset, .unset, .unset, .unset, .unset] [(.int (1 : Int32))])) rfl (hb hby at_19) rfl (by decide) (cap := 1) (by decide) (by decide) (by decide) (by decide) (ad := "[Ljava/lang/Object;") (by first | rfl | decide +kernel)
  obtain ⟨b19, gg19⟩ : ∃ z, z = h15.size := ⟨_, rfl⟩
  rw [← gg19] at Aa19 Bb19 st19
  have f13 : Keep h0 h19 [] := f10.ext Ex19
  have f14 : Old Z n0 h19 := f11.ext Ex19
  have f15 : Arv Z h19 b19 kc19 (.object "java/lang/Object") (1 : Int32) [.null] .null := (Arv.new Aa19 (by decide)).pad (pad_rep [] .null 1)
  obtain ⟨_, _, ⟨T25, Lo25, kk25, nn25⟩, -, X25, ⟨Lc25, hQ25, ll25, yy25, zz25⟩, st25⟩ := Jvm.LawKit.callS X19 hx (y := (⟨"java/lang/Integer", "valueOf", "(I)Ljava/lang/Integer;"⟩ : MethodName)) hown (mvT hZ (w_2 hw)) (mvT hZ (w_3 hw)) (mvT hZ (w_4 hw)) (mvT hZ (w_5 hw)) (by decide) (backOf (W := 3) (rm_valueOf l Z a0 hw [] p3 cc cl h19 n0 f14 S_high S_cache B_cache) hZ (w_5 hw) (w_4 hw) (by decide) (by decide)) (g := (mkF m 25 #[.val (.int p0), .val (.int p1), .val (.int p2), .val (.int p3), .val (.int (2 : Int32)), .val (.ref b6), .unset, .unset, .unset, .unset, .unset, .unset] [(.int p3), (.int (0 : Int32)), (.ref b19), (.ref b19)])) rfl (by rw [hml]; rfl) (argsL := [(.int p3)]) (rest := [(.int (0 : Int32)), (.ref b19), (.ref b19)]) (lenOf pd_9 rfl) rfl (by show 2 * 0 + _ ≤ _; exact Nat.le_of_eq rfl) (hb hby at_25) (fun _ _ => ⟨rfl, e19, (by decide : 3 + 1 ≤ _), (by decide : 3 + 1 ≤ _)⟩)
  dsimp only [Pt.U, Pt.locs, Pt.cells, Pt.slots] at X25 ll25 yy25 zz25 st25 hQ25
  subst ll25 yy25 zz25
  obtain ⟨b25, rfl, N25q, K25q, p25_0, p25_1⟩ := hQ25
  have N25 := Fr.app N15 N25q
  have f16 : Keep h0 T25.heap [] := f13.trans K25q all0
  have f17 : Old Z n0 T25.heap := f14.keep K25q all0
  have f18 : Arv Z T25.heap b19 kc19 (.object "java/lang/Object") (1 : Int32) [.null] .null := f15.keep K25q nin0
  obtain ⟨cl28, Ar28, qq28, Sz28, NN28, HH28, GG28⟩ := (id f18)
  have hin28 : ¬ ((0 : Int32) < 0 ∨ cl28.slots.size ≤ ((0 : Int32)).toNatClampNeg) := inb_of Sz28 ⟨by decide, by decide⟩
  obtain ⟨T28, h28, X28, e28, Wr28, st28⟩ := stR X25 hx hZ rfl Ar28 (j := (0 : Int32)) hin28 rfl (Sto.ofV Ar28 qq28 Ov19 (Ins.of_exa p25_0 (w_9 hw))) (g := (mkF m 28 #[.val (.int p0), .val (.int p1), .val (.int p2), .val (.int p3), .val (.int (2 : Int32)), .val (.ref b6), .unset, .unset, .unset, .unset, .unset, .unset] [(.ref b25), (.int (0 : Int32)), (.ref b19), (.ref b19)])) rfl rfl (hb hby at_28)
  have f20 : h0.size ≤ b19 := Nat.le_trans f10.1 (Nat.le_of_eq gg19.symm)
  have f21 : n0 ≤ b19 := Nat.le_trans (own_old_le f11) (Nat.le_of_eq gg19.symm)
  have f22 : Keep h0 h28 [] := f16.wr Wr28 (Or.inr f20)
  have f23 : Old Z n0 h28 := f17.wr Wr28 f21
  have f24 : Arv Z h28 b19 kc19 (.object "java/lang/Object") (1 : Int32) [(.ref b25)] .null := Arv.set Ar28 qq28 Sz28 NN28 HH28 GG28 rfl Wr28 0 rfl (Nat.le_of_ble_eq_true rfl)
  have N28 := Fr.snoc X28 N25 f21
  obtain ⟨T32, h32, kc32, X32, e32, Ex32, Aa32, Bb32, Ov32, st32⟩ := newRE X28 hx hZ hown (w_0 hw) (w_1 hw) e28 (g := (mkF m 32 #[.val (.int p0), .val (.int p1), .val (.int p2), .val (.int p3), .val (.int (2 : Int32)), .val (.ref b6), .val (.ref b19), .unset, .unset, .unset, .unset, .unset] [(.int (0 : Int32))])) rfl (hb hby at_32) rfl (by decide) (cap := 0) (by decide) (by decide) (by decide) (by decide) (ad := "[Ljava/lang/Object;") (by first | rfl | decide +kernel)
  obtain ⟨b32, gg32⟩ : ∃ z, z = h28.size := ⟨_, rfl⟩
  rw [← gg32] at Aa32 Bb32 st32
  have f25 : Keep h0 h32 [] := f22.ext Ex32
  have f26 : Old Z n0 h32 := f23.ext Ex32
  have f27 : Arv Z h32 b32 kc32 (.object "java/lang/Object") (0 : Int32) [] .null := (Arv.new Aa32 (by decide)).pad (pad_rep [] .null 0)
  obtain ⟨T37, h37, X37, e37, Ex37, Aa37, Df37, -, st37⟩ := newO X32 hx hZ hown (w_10 hw) (w_11 hw) (w_12 hw) e32 (g := (mkF m 37 #[.val (.int p0), .val (.int p1), .val (.int p2), .val (.int p3), .val (.int (2 : Int32)), .val (.ref b6), .val (.ref b19), .val (.ref b32), .unset, .unset, .unset, .unset] [])) rfl (hb hby at_37) (by decide) (by decide)
  obtain ⟨b37, gg37⟩ : ∃ z, z = h32.size := ⟨_, rfl⟩
  rw [← gg37] at Aa37 Df37 st37
  have f28 : Keep h0 h37 [] := f25.ext Ex37
  have f29 : Old Z n0 h37 := f26.ext Ex37
  have f30 : Fld Z h37 b37 "java/util/AbstractList" "modCount" "I" (.int (0 : Int32)) := Df37 (Or.inl (w_32 hw)) (ty := .int) (by decide)
  have f31 : Fld Z h37 b37 "java/util/ArrayList" "elementData" "[Ljava/lang/Object;" .null := Df37 (Or.inl (w_35 hw)) (ty := (.array (.object "java/lang/Object"))) (by decide)
  have f32 : Fld Z h37 b37 "java/util/ArrayList" "size" "I" (.int (0 : Int32)) := Df37 (Or.inl (w_67 hw)) (ty := .int) (by decide)
  have f33 : n0 ≤ b37 := Nat.le_trans (own_old_le f26) (Nat.le_of_eq gg37.symm)
  obtain ⟨_, _, ⟨T41, Lo41, kk41, nn41⟩, -, X41, ⟨Lc41, hQ41, ll41, yy41, zz41⟩, st41⟩ := X37.specialBack hx (y := (⟨"java/util/ArrayList", "<init>", "()V"⟩ : MethodName)) rfl hown (mvT hZ (w_13 hw)) (mvT hZ (w_14 hw)) (mvT hZ (w_15 hw)) (by decide) (backOf (W := 1) (rm_alInit l Z a0 hw [] b37 de h37 n0 f29 Aa37 f30 f31 f32 S_D f33) hZ (w_15 hw) (w_12 hw) (by decide) (by decide)) (g := (mkF m 41 #[.val (.int p0), .val (.int p1), .val (.int p2), .val (.int p3), .val (.int (2 : Int32)), .val (.ref b6), .val (.ref b19), .val (.ref b32), .unset, .unset, .unset, .unset] [(.ref b37), (.ref b37)])) rfl (by rw [hml]; rfl) (Steps.refl _) (a := b37) (argsL := []) (rest := [(.ref b37)]) (lenOf pd_0 rfl) rfl (by show 2 * 0 + _ ≤ _; exact Nat.le_of_eq rfl) (hb hby at_41) (fun _ _ => ⟨rfl, e37, (by decide : 6 + 0 ≤ _), (by decide : 7 + 0 ≤ _)⟩)
  dsimp only [Pt.U, Pt.locs, Pt.cells, Pt.slots] at X41 ll41 yy41 zz41 st41 hQ41
  subst ll41 yy41 zz41
  obtain ⟨rfl, N41q, K41q, p41_0, p41_1, p41_2, p41_3⟩ := hQ41
  have N41 := Fr.app N28 N41q
  have f34 : h0.size ≤ b37 := Nat.le_trans f25.1 (Nat.le_of_eq gg37.symm)
  have f35 : Keep h0 T41.heap [] := f28.trans K41q (allS (Or.inr f34) all0)
  have f36 : Old Z n0 T41.heap := f29.keep K41q (allS f33 all0)
  have f37 : Exa Z T12.heap b6 "[Ljava/lang/Object;" := Bb6.keep K12q
  have f38 : Exa Z h15 b6 "[Ljava/lang/Object;" := f37.wr Wr15
  have f39 : Exa Z h19 b6 "[Ljava/lang/Object;" := f38.ext Ex19
  have f40 : Exa Z T25.heap b6 "[Ljava/lang/Object;" := f39.keep K25q
  have f41 : Exa Z h28 b6 "[Ljava/lang/Object;" := f40.wr Wr28
  have f42 : Exa Z h32 b6 "[Ljava/lang/Object;" := f41.ext Ex32
  have f43 : Exa Z h37 b6 "[Ljava/lang/Object;" := f42.ext Ex37
  have f44 : Exa Z T41.heap b6 "[Ljava/lang/Object;" := f43.keep K41q
  obtain ⟨cq56, kq56, q56a, q56b, q56c⟩ := isOf hZ rfl p41_0
  obtain ⟨_, _, ⟨T56, Lo56, kk56, nn56⟩, -, X56, ⟨Lc56, hQ56, ll56, yy56, zz56⟩, st56⟩ := X41.virtualBack hx (y := (⟨"java/util/ArrayList", "add", "(Ljava/lang/Object;)Z"⟩ : MethodName)) (z := (⟨"java/util/ArrayList", "add", "(Ljava/lang/Object;)Z"⟩ : MethodName)) hown (mvT hZ (w_101 hw)) (mvT hZ (w_102 hw)) (notFace_of_selects (args := #[]) (mvT hZ (w_104 hw))) (mvT hZ (w_104 hw)) (mvT hZ (w_103 hw)) (by decide) (backOf (W := 0) (rm_aF l Z a0 hw [] b37 b6 ((0 : Int32)) de kde T41.heap n0 f36 p41_0 p41_1 p41_2 p41_3 S_D V_D f33 f44) hZ (w_105 hw) (w_12 hw) (by decide) (by decide)) q56a q56c (g := (mkF m 56 #[.val (.int p0), .val (.int p1), .val (.int p2), .val (.int p3), .val (.int (2 : Int32)), .val (.ref b6), .val (.ref b19), .val (.ref b32), .val (.ref b37), .unset, .unset, .unset] [(.ref b6), (.ref b37)])) rfl (by rw [hml]; rfl) (Steps.refl _) (argsL := [(.ref b6)]) (rest := []) (lenOf pd_13 rfl) rfl (by show 2 * 0 + _ ≤ _; exact Nat.le_of_eq rfl) (hb hby at_56) (fun _ _ => ⟨rfl, rfl, (by decide : 6 + 1 ≤ _), (by decide : 7 + 10 ≤ _)⟩)
  dsimp only [Pt.U, Pt.locs, Pt.cells, Pt.slots] at X56 ll56 yy56 zz56 st56 hQ56
  subst ll56 yy56 zz56
  obtain ⟨d56, kd56, rfl, N56q, K56q, p56_0, p56_1, p56_2, p56_3, p56_4, p56_5, p56_6, p56_7⟩ := hQ56
  have N56 := Fr.app N41 N56q
  have f45 : Keep h0 T56.heap [] := f35.trans K56q (allS (Or.inr f34) all0)
  have f46 : Old Z n0 T56.heap := f36.keep K56q (allS f33 all0)
  have f47 : Exa Z T25.heap b19 "[Ljava/lang/Object;" := Bb19.keep K25q
  have f48 : Exa Z h28 b19 "[Ljava/lang/Object;" := f47.wr Wr28
  have f49 : Exa Z h32 b19 "[Ljava/lang/Object;" := f48.ext Ex32
  have f50 : Exa Z h37 b19 "[Ljava/lang/Object;" := f49.ext Ex37
  have f51 : Exa Z T41.heap b19 "[Ljava/lang/Object;" := f50.keep K41q
  have f52 : Exa Z T56.heap b19 "[Ljava/lang/Object;" := f51.keep K56q
  have f53 : n0 ≤ d56 := Nat.le_trans (own_old_le f36) p56_0
  obtain ⟨cq70, kq70, q70a, q70b, q70c⟩ := isOf hZ rfl p56_1
  obtain ⟨_, _, ⟨T70, Lo70, kk70, nn70⟩, -, X70, ⟨Lc70, hQ70, ll70, yy70, zz70⟩, st70⟩ := X56.virtualBack hx (y := (⟨"java/util/ArrayList", "add", "(Ljava/lang/Object;)Z"⟩ : MethodName)) (z := (⟨"java/util/ArrayList", "add", "(Ljava/lang/Object;)Z"⟩ : MethodName)) hown (mvT hZ (w_101 hw)) (mvT hZ (w_102 hw)) (notFace_of_selects (args := #[]) (mvT hZ (w_104 hw))) (mvT hZ (w_104 hw)) (mvT hZ (w_103 hw)) (by decide) (backOf (W := 0) (rm_aR1 l Z a0 hw [] b37 b19 (((0 : Int32) + (1 : Int32))) d56 kd56 b6 T56.heap n0 f46 p56_1 p56_2 p56_3 p56_4 p56_5 p56_6 p56_7 f52 f33 f53) hZ (w_105 hw) (w_12 hw) (by decide) (by decide)) q70a q70c (g := (mkF m 70 #[.val (.int p0), .val (.int p1), .val (.int p2), .val (.int p3), .val (.int (2 : Int32)), .val (.ref b6), .val (.ref b19), .val (.ref b32), .val (.ref b37), .unset, .unset, .unset] [(.ref b19), (.ref b37)])) rfl (by rw [hml]; rfl) (Steps.refl _) (argsL := [(.ref b19)]) (rest := []) (lenOf pd_13 rfl) rfl (by show 2 * 0 + _ ≤ _; exact Nat.le_of_eq rfl) (hb hby at_70) (fun _ _ => ⟨rfl, rfl, (by decide : 7 + 0 ≤ _), (by decide : 17 + 0 ≤ _)⟩)
  dsimp only [Pt.U, Pt.locs, Pt.cells, Pt.slots] at X70 ll70 yy70 zz70 st70 hQ70
  subst ll70 yy70 zz70
  obtain ⟨rfl, N70q, K70q, p70_0, p70_1, p70_2, p70_3, p70_4, p70_5, p70_6⟩ := hQ70
  have N70 := Fr.app N56 N70q
  have f54 : h0.size ≤ d56 := Nat.le_trans f35.1 p56_0
  have f55 : Keep h0 T70.heap [] := f45.trans K70q (allS (Or.inr f34) (allS (Or.inr f54) all0))
  have f56 : Old Z n0 T70.heap := f46.keep K70q (allS f33 (allS f53 all0))
  obtain ⟨T88, h88, X88, e88, Ex88, Aa88, Df88, -, st88⟩ := newO X70 hx hZ hown (w_36 hw) (w_37 hw) (w_38 hw) rfl (g := (mkF m 88 #[.val (.int p0), .val (.int p1), .val (.int p2), .val (.int p3), .val (.int (2 : Int32)), .val (.ref b6), .val (.ref b19), .val (.ref b32), .val (.ref b37), .unset, .unset, .unset] [])) rfl (hb hby at_88) (by decide) (by decide)
  obtain ⟨b88, gg88⟩ : ∃ z, z = T70.heap.size := ⟨_, rfl⟩
  rw [← gg88] at Aa88 Df88 st88
  have f57 : Keep h0 h88 [] := f55.ext Ex88
  have f58 : Old Z n0 h88 := f56.ext Ex88
  have f59 : Fld Z h88 b88 "com/example/countinghouse/countinghouse/RoundTrip$Result" "rows" "Ljava/util/List;" .null := Df88 (Or.inr (w_49 hw)) (ty := (.object "java/util/List")) (by decide)
  have f60 : Fld Z h88 b88 "com/example/countinghouse/countinghouse/RoundTrip$Result" "changed" "I" (.int (0 : Int32)) := Df88 (Or.inr (w_51 hw)) (ty := .int) (by decide)
  have f61 : n0 ≤ b88 := Nat.le_trans (own_old_le f56) (Nat.le_of_eq gg88.symm)
  obtain ⟨_, _, ⟨T95, Lo95, kk95, nn95⟩, -, X95, ⟨Lc95, hQ95, ll95, yy95, zz95⟩, st95⟩ := X88.specialBack hx (y := (⟨"com/example/countinghouse/countinghouse/RoundTrip$Result", "<init>", "(Ljava/util/List;I)V"⟩ : MethodName)) rfl hown (mvT hZ (w_39 hw)) (mvT hZ (w_40 hw)) (mvT hZ (w_41 hw)) (by decide) (backOf (W := 1) (rm_resInit l Z a0 hw [] b88 b37 p1 h88 n0 f58 Aa88 f59 f60 f61) hZ (w_41 hw) (w_38 hw) (by decide) (by decide)) (g := (mkF m 95 #[.val (.int p0), .val (.int p1), .val (.int p2), .val (.int p3), .val (.int (2 : Int32)), .val (.ref b6), .val (.ref b19), .val (.ref b32), .val (.ref b37), .unset, .unset, .unset] [(.int p1), (.ref b37), (.ref b88), (.ref b88)])) rfl (by rw [hml]; rfl) (Steps.refl _) (a := b88) (argsL := [(.ref b37), (.int p1)]) (rest := [(.ref b88)]) (lenOf pd_10 rfl) rfl (by show 2 * 0 + _ ≤ _; exact Nat.le_of_eq rfl) (hb hby at_95) (fun _ _ => ⟨rfl, e88, (by decide : 8 + 0 ≤ _), (by decide : 19 + 0 ≤ _)⟩)
  dsimp only [Pt.U, Pt.locs, Pt.cells, Pt.slots] at X95 ll95 yy95 zz95 st95 hQ95
  subst ll95 yy95 zz95
  obtain ⟨rfl, N95q, K95q, p95_0, p95_1, p95_2⟩ := hQ95
  have N95 := Fr.app N70 N95q
  have f62 : h0.size ≤ b88 := Nat.le_trans f55.1 (Nat.le_of_eq gg88.symm)
  have f63 : Keep h0 T95.heap [] := f57.trans K95q (allS (Or.inr f62) all0)
  have f64 : Old Z n0 T95.heap := f58.keep K95q (allS f61 all0)
  have f65 : Exa Z h88 b37 "java/util/ArrayList" := p70_0.ext Ex88
  have f66 : Exa Z T95.heap b37 "java/util/ArrayList" := f65.keep K95q
  have f67 : Fld Z h88 b37 "java/util/ArrayList" "size" "I" (.int (2 : Int32)) := p70_3.ext Ex88
  have f68 : Fld Z T95.heap b37 "java/util/ArrayList" "size" "I" (.int (2 : Int32)) := f67.keep K95q (ninS (Nat.ne_of_lt (Nat.lt_of_lt_of_le p70_0.lt (Nat.le_of_eq gg88.symm))) nin0)
  have f69 : Fld Z h88 b37 "java/util/ArrayList" "elementData" "[Ljava/lang/Object;" (.ref d56) := p70_2.ext Ex88
  have f70 : Fld Z T95.heap b37 "java/util/ArrayList" "elementData" "[Ljava/lang/Object;" (.ref d56) := f69.keep K95q (ninS (Nat.ne_of_lt (Nat.lt_of_lt_of_le p70_0.lt (Nat.le_of_eq gg88.symm))) nin0)
  have f71 : Arv Z h88 d56 kd56 (.object "java/lang/Object") (10 : Int32) [(.ref b6), (.ref b19), .null, .null, .null, .null, .null, .null, .null, .null] .null := p70_5.ext Ex88
  have f72 : Arv Z T95.heap d56 kd56 (.object "java/lang/Object") (10 : Int32) [(.ref b6), (.ref b19), .null, .null, .null, .null, .null, .null, .null, .null] .null := f71.keep K95q (ninS (Nat.ne_of_lt (Nat.lt_of_lt_of_le p70_4.lt (Nat.le_of_eq gg88.symm))) nin0)
  have f73 : Exa Z T56.heap b6 "[Ljava/lang/Object;" := f44.keep K56q
  have f74 : Exa Z T70.heap b6 "[Ljava/lang/Object;" := f73.keep K70q
  have f75 : Exa Z h88 b6 "[Ljava/lang/Object;" := f74.ext Ex88
  have f76 : Exa Z T95.heap b6 "[Ljava/lang/Object;" := f75.keep K95q
  obtain ⟨cq102, kq102, q102a, q102b, q102c⟩ := isOf hZ rfl p95_0
  obtain ⟨_, _, ⟨T102, Lo102, kk102, nn102⟩, -, X102, ⟨Lc102, hQ102, ll102, yy102, zz102⟩, st102⟩ := X95.virtualBack hx (y := (⟨"com/example/countinghouse/countinghouse/RoundTrip$Result", "row", "()[Ljava/lang/Object;"⟩ : MethodName)) (z := (⟨"com/example/countinghouse/countinghouse/RoundTrip$Result", "row", "()[Ljava/lang/Object;"⟩ : MethodName)) hown (mvT hZ (w_52 hw)) (mvT hZ (w_53 hw)) (notFace_of_selects (args := #[]) (mvT hZ (w_55 hw))) (mvT hZ (w_55 hw)) (mvT hZ (w_54 hw)) (by decide) (backOf (W := 0) (rm_rowY l Z a0 hw [] b88 b37 ((2 : Int32)) d56 kd56 ([(.ref b6), (.ref b19), .null, .null, .null, .null, .null, .null, .null, .null]) b6 T95.heap n0 f64 p95_1 f66 f68 f70 f72 (by first | rfl | decide | assumption) (by first | rfl | decide | assumption) (by first | rfl | decide | assumption) f76) hZ (w_56 hw) (w_38 hw) (by decide) (by decide)) q102a q102c (g := (mkF m 102 #[.val (.int p0), .val (.int p1), .val (.int p2), .val (.int p3), .val (.int (2 : Int32)), .val (.ref b6), .val (.ref b19), .val (.ref b32), .val (.ref b37), .val (.ref b88), .unset, .unset] [(.ref b88)])) rfl (by rw [hml]; rfl) (Steps.refl _) (argsL := []) (rest := []) (lenOf pd_4 rfl) rfl (by show 2 * 0 + _ ≤ _; exact Nat.le_of_eq rfl) (hb hby at_102) (fun _ _ => ⟨rfl, rfl, (by decide : 8 + 0 ≤ _), (by decide : 19 + 0 ≤ _)⟩)
  dsimp only [Pt.U, Pt.locs, Pt.cells, Pt.slots] at X102 ll102 yy102 zz102 st102 hQ102
  subst ll102 yy102 zz102
  obtain ⟨rfl, N102q, K102q⟩ := hQ102
  have N102 := Fr.app N95 N102q
  have f77 : Keep h0 T102.heap [] := f63.trans K102q all0
  have f78 : Old Z n0 T102.heap := f64.keep K102q all0
  have f79 : Arv Z h19 b6 kc6 (.object "java/lang/Object") (1 : Int32) [(.ref b12)] .null := f12.ext Ex19
  have f80 : Arv Z T25.heap b6 kc6 (.object "java/lang/Object") (1 : Int32) [(.ref b12)] .null := f79.keep K25q nin0
  have f81 : Arv Z h28 b6 kc6 (.object "java/lang/Object") (1 : Int32) [(.ref b12)] .null := f80.other Wr28 (Nat.ne_of_lt (Nat.lt_of_lt_of_le f38.lt (Nat.le_of_eq gg19.symm)))
  have f82 : Arv Z h32 b6 kc6 (.object "java/lang/Object") (1 : Int32) [(.ref b12)] .null := f81.ext Ex32
  have f83 : Arv Z h37 b6 kc6 (.object "java/lang/Object") (1 : Int32) [(.ref b12)] .null := f82.ext Ex37
  have f84 : Arv Z T41.heap b6 kc6 (.object "java/lang/Object") (1 : Int32) [(.ref b12)] .null := f83.keep K41q (ninS (Nat.ne_of_lt (Nat.lt_of_lt_of_le f42.lt (Nat.le_of_eq gg37.symm))) nin0)
  have f85 : Arv Z T56.heap b6 kc6 (.object "java/lang/Object") (1 : Int32) [(.ref b12)] .null := f84.keep K56q (ninS (Nat.ne_of_lt (Nat.lt_of_lt_of_le f42.lt (Nat.le_of_eq gg37.symm))) nin0)
  have f86 : Arv Z T70.heap b6 kc6 (.object "java/lang/Object") (1 : Int32) [(.ref b12)] .null := f85.keep K70q (ninS (Nat.ne_of_lt (Nat.lt_of_lt_of_le f42.lt (Nat.le_of_eq gg37.symm))) (ninS (Nat.ne_of_lt (Nat.lt_of_lt_of_le f44.lt p56_0)) nin0))
  have f87 : Arv Z h88 b6 kc6 (.object "java/lang/Object") (1 : Int32) [(.ref b12)] .null := f86.ext Ex88
  have f88 : Arv Z T95.heap b6 kc6 (.object "java/lang/Object") (1 : Int32) [(.ref b12)] .null := f87.keep K95q (ninS (Nat.ne_of_lt (Nat.lt_of_lt_of_le f74.lt (Nat.le_of_eq gg88.symm))) nin0)
  have f89 : Arv Z T102.heap b6 kc6 (.object "java/lang/Object") (1 : Int32) [(.ref b12)] .null := f88.keep K102q nin0
  obtain ⟨cl136, Ar136, qq136, Sz136, NN136, HH136, GG136⟩ := (id f89)
  obtain ⟨cl144, Ar144, qq144, Sz144, NN144, HH144, GG144⟩ := (id f89)
  have hin144 : ¬ ((0 : Int32) < 0 ∨ cl144.slots.size ≤ ((0 : Int32)).toNatClampNeg) := inb_of Sz144 ⟨by decide, by decide⟩
  have f91 : cl144.slots[((0 : Int32)).toNatClampNeg]? = some (.ref b12) := HH144.at hin144 rfl
  have f92 : Exa Z h15 b12 "java/lang/Integer" := p12_0.wr Wr15
  have f93 : Exa Z h19 b12 "java/lang/Integer" := f92.ext Ex19
  have f94 : Exa Z T25.heap b12 "java/lang/Integer" := f93.keep K25q
  have f95 : Exa Z h28 b12 "java/lang/Integer" := f94.wr Wr28
  have f96 : Exa Z h32 b12 "java/lang/Integer" := f95.ext Ex32
  have f97 : Exa Z h37 b12 "java/lang/Integer" := f96.ext Ex37
  have f98 : Exa Z T41.heap b12 "java/lang/Integer" := f97.keep K41q
  have f99 : Exa Z T56.heap b12 "java/lang/Integer" := f98.keep K56q
  have f100 : Exa Z T70.heap b12 "java/lang/Integer" := f99.keep K70q
  have f101 : Exa Z h88 b12 "java/lang/Integer" := f100.ext Ex88
  have f102 : Exa Z T95.heap b12 "java/lang/Integer" := f101.keep K95q
  have f103 : Exa Z T102.heap b12 "java/lang/Integer" := f102.keep K102q
  obtain ⟨T145, X145, e145, st145⟩ := castY X102 hx hZ hown (w_152 hw) rfl (Ins.self f103) (g := (mkF m 145 #[.val (.int p0), .val (.int p1), .val (.int p2), .val (.int p3), .val (.int (2 : Int32)), .val (.ref b6), .val (.ref b19), .val (.ref b32), .val (.ref b37), .val (.ref b88), .val (.ref b6), .unset] [(.ref b12)])) rfl rfl (hb hby at_145)
  have f104 : Exa Z T102.heap b6 "[Ljava/lang/Object;" := f76.keep K102q
  have f105 : Fld Z h15 b12 "java/lang/Integer" "value" "I" (.int p2) := p12_1.other Wr15 (Or.inl (Ne.symm (ne_exa f104 f103 (by decide))))
  have f106 : Fld Z h19 b12 "java/lang/Integer" "value" "I" (.int p2) := f105.ext Ex19
  have f107 : Fld Z T25.heap b12 "java/lang/Integer" "value" "I" (.int p2) := f106.keep K25q nin0
  have f108 : Fld Z h28 b12 "java/lang/Integer" "value" "I" (.int p2) := f107.other Wr28 (Or.inl (Nat.ne_of_lt (Nat.lt_of_lt_of_le f92.lt (Nat.le_of_eq gg19.symm))))
  have f109 : Fld Z h32 b12 "java/lang/Integer" "value" "I" (.int p2) := f108.ext Ex32
  have f110 : Fld Z h37 b12 "java/lang/Integer" "value" "I" (.int p2) := f109.ext Ex37
  have f111 : Fld Z T41.heap b12 "java/lang/Integer" "value" "I" (.int p2) := f110.keep K41q (ninS (Nat.ne_of_lt (Nat.lt_of_lt_of_le f96.lt (Nat.le_of_eq gg37.symm))) nin0)
  have f112 : Fld Z T56.heap b12 "java/lang/Integer" "value" "I" (.int p2) := f111.keep K56q (ninS (Nat.ne_of_lt (Nat.lt_of_lt_of_le f96.lt (Nat.le_of_eq gg37.symm))) nin0)
  have f113 : Fld Z T70.heap b12 "java/lang/Integer" "value" "I" (.int p2) := f112.keep K70q (ninS (Nat.ne_of_lt (Nat.lt_of_lt_of_le f96.lt (Nat.le_of_eq gg37.symm))) (ninS (Nat.ne_of_lt (Nat.lt_of_lt_of_le f98.lt p56_0)) nin0))
  have f114 : Fld Z h88 b12 "java/lang/Integer" "value" "I" (.int p2) := f113.ext Ex88
  have f115 : Fld Z T95.heap b12 "java/lang/Integer" "value" "I" (.int p2) := f114.keep K95q (ninS (Nat.ne_of_lt (Nat.lt_of_lt_of_le f100.lt (Nat.le_of_eq gg88.symm))) nin0)
  have f116 : Fld Z T102.heap b12 "java/lang/Integer" "value" "I" (.int p2) := f115.keep K102q nin0
  obtain ⟨cq148, kq148, q148a, q148b, q148c⟩ := isOf hZ e145 f103
  obtain ⟨_, _, ⟨T148, Lo148, kk148, nn148⟩, -, X148, ⟨Lc148, hQ148, ll148, yy148, zz148⟩, st148⟩ := X145.virtualBack hx (y := (⟨"java/lang/Integer", "intValue", "()I"⟩ : MethodName)) (z := (⟨"java/lang/Integer", "intValue", "()I"⟩ : MethodName)) hown (mvT hZ (w_153 hw)) (mvT hZ (w_154 hw)) (notFace_of_selects (args := #[]) (mvT hZ (w_156 hw))) (mvT hZ (w_156 hw)) (mvT hZ (w_155 hw)) (by decide) (backOf (W := 0) (rm_intValue l Z a0 hw [] b12 p2 T102.heap n0 f78 f116) hZ (w_157 hw) (w_4 hw) (by decide) (by decide)) q148a q148c (g := (mkF m 148 #[.val (.int p0), .val (.int p1), .val (.int p2), .val (.int p3), .val (.int (2 : Int32)), .val (.ref b6), .val (.ref b19), .val (.ref b32), .val (.ref b37), .val (.ref b88), .val (.ref b6), .unset] [(.ref b12)])) rfl (by rw [hml]; rfl) (Steps.refl _) (argsL := []) (rest := []) (lenOf pd_12 rfl) rfl (by show 2 * 0 + _ ≤ _; exact Nat.le_of_eq rfl) (hb hby at_148) (fun _ _ => ⟨rfl, e145, (by decide : 8 + 0 ≤ _), (by decide : 19 + 0 ≤ _)⟩)
  dsimp only [Pt.U, Pt.locs, Pt.cells, Pt.slots] at X148 ll148 yy148 zz148 st148 hQ148
  subst ll148 yy148 zz148
  obtain ⟨rfl, N148q, K148q⟩ := hQ148
  have N148 := Fr.app N102 N148q
  have f117 : Keep h0 T148.heap [] := f77.trans K148q all0
  have f118 : Old Z n0 T148.heap := f78.keep K148q all0
  have f119 : Fld Z T102.heap b88 "com/example/countinghouse/countinghouse/RoundTrip$Result" "rows" "Ljava/util/List;" (.ref b37) := p95_1.keep K102q nin0
  have f120 : Fld Z T148.heap b88 "com/example/countinghouse/countinghouse/RoundTrip$Result" "rows" "Ljava/util/List;" (.ref b37) := f119.keep K148q nin0
  have f121 : Exa Z T102.heap b88 "com/example/countinghouse/countinghouse/RoundTrip$Result" := p95_0.keep K102q
  have f122 : Exa Z T148.heap b88 "com/example/countinghouse/countinghouse/RoundTrip$Result" := f121.keep K148q
  obtain ⟨cq169, kq169, q169a, q169b, q169c⟩ := isOf hZ rfl f122
  obtain ⟨_, _, ⟨T169, Lo169, kk169, nn169⟩, -, X169, ⟨Lc169, hQ169, ll169, yy169, zz169⟩, st169⟩ := X148.virtualBack hx (y := (⟨"com/example/countinghouse/countinghouse/RoundTrip$Result", "rows", "()Ljava/util/List;"⟩ : MethodName)) (z := (⟨"com/example/countinghouse/countinghouse/RoundTrip$Result", "rows", "()Ljava/util/List;"⟩ : MethodName)) hown (mvT hZ (w_68 hw)) (mvT hZ (w_69 hw)) (notFace_of_selects (args := #[]) (mvT hZ (w_71 hw))) (mvT hZ (w_71 hw)) (mvT hZ (w_70 hw)) (by decide) (backOf (W := 0) (rm_rows l Z a0 hw [] b88 b37 T148.heap n0 f118 f120) hZ (w_72 hw) (w_38 hw) (by decide) (by decide)) q169a q169c (g := (mkF m 169 #[.val (.int p0), .val (.int p1), .val (.int p2), .val (.int p3), .val (.int (2 : Int32)), .val (.ref b6), .val (.ref b19), .val (.ref b32), .val (.ref b37), .val (.ref b88), .val (.ref b6), .val (.int (1 : Int32))] [(.ref b88)])) rfl (by rw [hml]; rfl) (Steps.refl _) (argsL := []) (rest := []) (lenOf pd_11 rfl) rfl (by show 2 * 0 + _ ≤ _; exact Nat.le_of_eq rfl) (hb hby at_169) (fun _ _ => ⟨rfl, rfl, (by decide : 8 + 0 ≤ _), (by decide : 19 + 0 ≤ _)⟩)
  dsimp only [Pt.U, Pt.locs, Pt.cells, Pt.slots] at X169 ll169 yy169 zz169 st169 hQ169
  subst ll169 yy169 zz169
  obtain ⟨rfl, N169q, K169q⟩ := hQ169
  have N169 := Fr.app N148 N169q
  have f123 : Keep h0 T169.heap [] := f117.trans K169q all0
  have f124 : Old Z n0 T169.heap := f118.keep K169q all0
  have f125 : Fld Z T102.heap b37 "java/util/ArrayList" "size" "I" (.int (2 : Int32)) := f68.keep K102q nin0
  have f126 : Fld Z T148.heap b37 "java/util/ArrayList" "size" "I" (.int (2 : Int32)) := f125.keep K148q nin0
  have f127 : Fld Z T169.heap b37 "java/util/ArrayList" "size" "I" (.int (2 : Int32)) := f126.keep K169q nin0
  have f128 : Exa Z T102.heap b37 "java/util/ArrayList" := f66.keep K102q
  have f129 : Exa Z T148.heap b37 "java/util/ArrayList" := f128.keep K148q
  have f130 : Exa Z T169.heap b37 "java/util/ArrayList" := f129.keep K169q
  obtain ⟨cq172, kq172, q172a, q172b, q172c⟩ := isOf hZ rfl f130
  obtain ⟨_, _, ⟨T172, Lo172, kk172, nn172⟩, -, X172, ⟨Lc172, hQ172, ll172, yy172, zz172⟩, st172⟩ := X169.interfaceBack hx (xi := (⟨"java/util/List", "size", "()I"⟩ : MethodName)) (y := (⟨"java/util/ArrayList", "size", "()I"⟩ : MethodName)) hown (mvT hZ (w_73 hw)) (mvT hZ (w_74 hw)) (mvT hZ (w_75 hw)) (mvT hZ (w_76 hw)) (mvT hZ (w_77 hw)) (mvT hZ (w_78 hw)) (mvT hZ (w_79 hw)) (mvT hZ (w_64 hw)) (by decide) (backOf (W := 0) (rm_size l Z a0 hw [] b37 ((2 : Int32)) T169.heap n0 f124 f127) hZ (w_80 hw) (w_12 hw) (by decide) (by decide)) q172a q172b q172c (g := (mkF m 172 #[.val (.int p0), .val (.int p1), .val (.int p2), .val (.int p3), .val (.int (2 : Int32)), .val (.ref b6), .val (.ref b19), .val (.ref b32), .val (.ref b37), .val (.ref b88), .val (.ref b6), .val (.int (1 : Int32))] [(.ref b37)])) rfl (by rw [hml]; rfl) (Steps.refl _) (argsL := []) (rest := []) (lenOf pd_12 rfl) rfl (by show 2 * 0 + _ ≤ _; exact Nat.le_of_eq rfl) (hb hby at_172) (fun _ _ => ⟨rfl, rfl, (by decide : 8 + 0 ≤ _), (by decide : 19 + 0 ≤ _)⟩)
  dsimp only [Pt.U, Pt.locs, Pt.cells, Pt.slots] at X172 ll172 yy172 zz172 st172 hQ172
  subst ll172 yy172 zz172
  obtain ⟨rfl, N172q, K172q⟩ := hQ172
  have N172 := Fr.app N169 N172q
  have f131 : Keep h0 T172.heap [] := f123.trans K172q all0
  have f132 : Old Z n0 T172.heap := f124.keep K172q all0
  have f133 : Fld Z T102.heap b88 "com/example/countinghouse/countinghouse/RoundTrip$Result" "changed" "I" (.int p1) := p95_2.keep K102q nin0
  have f134 : Fld Z T148.heap b88 "com/example/countinghouse/countinghouse/RoundTrip$Result" "changed" "I" (.int p1) := f133.keep K148q nin0
  have f135 : Fld Z T169.heap b88 "com/example/countinghouse/countinghouse/RoundTrip$Result" "changed" "I" (.int p1) := f134.keep K169q nin0
  have f136 : Fld Z T172.heap b88 "com/example/countinghouse/countinghouse/RoundTrip$Result" "changed" "I" (.int p1) := f135.keep K172q nin0
  have f137 : Exa Z T169.heap b88 "com/example/countinghouse/countinghouse/RoundTrip$Result" := f122.keep K169q
  have f138 : Exa Z T172.heap b88 "com/example/countinghouse/countinghouse/RoundTrip$Result" := f137.keep K172q
  obtain ⟨cq184, kq184, q184a, q184b, q184c⟩ := isOf hZ rfl f138
  obtain ⟨_, _, ⟨T184, Lo184, kk184, nn184⟩, -, X184, ⟨Lc184, hQ184, ll184, yy184, zz184⟩, st184⟩ := X172.virtualBack hx (y := (⟨"com/example/countinghouse/countinghouse/RoundTrip$Result", "changed", "()I"⟩ : MethodName)) (z := (⟨"com/example/countinghouse/countinghouse/RoundTrip$Result", "changed", "()I"⟩ : MethodName)) hown (mvT hZ (w_81 hw)) (mvT hZ (w_82 hw)) (notFace_of_selects (args := #[]) (mvT hZ (w_84 hw))) (mvT hZ (w_84 hw)) (mvT hZ (w_83 hw)) (by decide) (backOf (W := 0) (rm_changed l Z a0 hw [] b88 p1 T172.heap n0 f132 f136) hZ (w_85 hw) (w_38 hw) (by decide) (by decide)) q184a q184c (g := (mkF m 184 #[.val (.int p0), .val (.int p1), .val (.int p2), .val (.int p3), .val (.int (2 : Int32)), .val (.ref b6), .val (.ref b19), .val (.ref b32), .val (.ref b37), .val (.ref b88), .val (.ref b6), .val (.int (1 : Int32))] [(.ref b88)])) rfl (by rw [hml]; rfl) (Steps.refl _) (argsL := []) (rest := []) (lenOf pd_12 rfl) rfl (by show 2 * 0 + _ ≤ _; exact Nat.le_of_eq rfl) (hb hby at_184) (fun _ _ => ⟨rfl, rfl, (by decide : 8 + 0 ≤ _), (by decide : 19 + 0 ≤ _)⟩)
  dsimp only [Pt.U, Pt.locs, Pt.cells, Pt.slots] at X184 ll184 yy184 zz184 st184 hQ184
  subst ll184 yy184 zz184
  obtain ⟨rfl, N184q, K184q⟩ := hQ184
  have N184 := Fr.app N172 N184q
  have f139 : Keep h0 T184.heap [] := f131.trans K184q all0
  have f140 : Old Z n0 T184.heap := f132.keep K184q all0
  obtain ⟨fs, hr, hrun, hended, hW, hsame⟩ := X184.leave (v := some (.int (1 : Int32))) (fun h => by rw [Bd.returns] at h; cases h)
  refine ⟨_, _, pre0 _ ?_, hrun, hended, _, _, rfl, ?_, ⟨_, rfl⟩, hW, hsame.mono (by decide) (by decide)⟩
  · show Steps p.tables e below (s₁.setTop (mkF m 0 #[.val (.int p0), .val (.int p1), .val (.int p2), .val (.int p3), .unset, .unset, .unset, .unset, .unset, .unset, .unset, .unset] [])) _
    refine XS.iloadN X0.here hx rfl (hb hby at_0) rfl ?_
    show Steps p.tables e below (s₁.setTop (mkF m 1 #[.val (.int p0), .val (.int p1), .val (.int p2), .val (.int p3), .unset, .unset, .unset, .unset, .unset, .unset, .unset, .unset] [(.int p0)])) _
    refine XS.iconst X0.here hx rfl (hb hby at_1) ?_
    show Steps p.tables e below (s₁.setTop (mkF m 2 #[.val (.int p0), .val (.int p1), .val (.int p2), .val (.int p3), .unset, .unset, .unset, .unset, .unset, .unset, .unset, .unset] [(.int (3 : Int32)), (.int p0)])) _
    refine XS.iand X0.here hx rfl (hb hby at_2) rfl ?_
    show Steps p.tables e below (s₁.setTop (mkF m 3 #[.val (.int p0), .val (.int p1), .val (.int p2), .val (.int p3), .unset, .unset, .unset, .unset, .unset, .unset, .unset, .unset] [(.int (p0 &&& (3 : Int32)))])) _
    rw [hi]
    show Steps p.tables e below (s₁.setTop (mkF m 3 #[.val (.int p0), .val (.int p1), .val (.int p2), .val (.int p3), .unset, .unset, .unset, .unset, .unset, .unset, .unset, .unset] [(.int (2 : Int32))])) _
    refine XS.istore X0.here hx rfl (hb hby at_3) rfl (l' := #[.val (.int p0), .val (.int p1), .val (.int p2), .val (.int p3), .val (.int (2 : Int32)), .unset, .unset, .unset, .unset, .unset, .unset, .unset]) rfl ?_
    show Steps p.tables e below (s₁.setTop (mkF m 5 #[.val (.int p0), .val (.int p1), .val (.int p2), .val (.int p3), .val (.int (2 : Int32)), .unset, .unset, .unset, .unset, .unset, .unset, .unset] [])) _
    refine XS.iconst X0.here hx rfl (hb hby at_5) ?_
    show Steps p.tables e below (s₁.setTop (mkF m 6 #[.val (.int p0), .val (.int p1), .val (.int p2), .val (.int p3), .val (.int (2 : Int32)), .unset, .unset, .unset, .unset, .unset, .unset, .unset] [(.int (1 : Int32))])) _
    refine st6 _ ?_
    show Steps p.tables e below (T6.setTop (mkF m 9 #[.val (.int p0), .val (.int p1), .val (.int p2), .val (.int p3), .val (.int (2 : Int32)), .unset, .unset, .unset, .unset, .unset, .unset, .unset] [(.ref b6)])) _
    refine XS.dup X6.here hx rfl (hb hby at_9) rfl rfl ?_
    show Steps p.tables e below (T6.setTop (mkF m 10 #[.val (.int p0), .val (.int p1), .val (.int p2), .val (.int p3), .val (.int (2 : Int32)), .unset, .unset, .unset, .unset, .unset, .unset, .unset] [(.ref b6), (.ref b6)])) _
    refine XS.iconst X6.here hx rfl (hb hby at_10) ?_
    show Steps p.tables e below (T6.setTop (mkF m 11 #[.val (.int p0), .val (.int p1), .val (.int p2), .val (.int p3), .val (.int (2 : Int32)), .unset, .unset, .unset, .unset, .unset, .unset, .unset] [(.int (0 : Int32)), (.ref b6), (.ref b6)])) _
    refine XS.iloadN X6.here hx rfl (hb hby at_11) rfl ?_
    show Steps p.tables e below (T6.setTop (mkF m 12 #[.val (.int p0), .val (.int p1), .val (.int p2), .val (.int p3), .val (.int (2 : Int32)), .unset, .unset, .unset, .unset, .unset, .unset, .unset] [(.int p2), (.int (0 : Int32)), (.ref b6), (.ref b6)])) _
    refine st12 _ ?_
    show Steps p.tables e below (T12.setTop (mkF m 15 #[.val (.int p0), .val (.int p1), .val (.int p2), .val (.int p3), .val (.int (2 : Int32)), .unset, .unset, .unset, .unset, .unset, .unset, .unset] [(.ref b12), (.int (0 : Int32)), (.ref b6), (.ref b6)])) _
    refine st15 _ ?_
    show Steps p.tables e below (T15.setTop (mkF m 16 #[.val (.int p0), .val (.int p1), .val (.int p2), .val (.int p3), .val (.int (2 : Int32)), .unset, .unset, .unset, .unset, .unset, .unset, .unset] [(.ref b6)])) _
    refine XS.astore X15.here hx rfl (hb hby at_16) rfl rfl (l' := #[.val (.int p0), .val (.int p1), .val (.int p2), .val (.int p3), .val (.int (2 : Int32)), .val (.ref b6), .unset, .unset, .unset, .unset, .unset, .unset]) rfl ?_
    show Steps p.tables e below (T15.setTop (mkF m 18 #[.val (.int p0), .val (.int p1), .val (.int p2), .val (.int p3), .val (.int (2 : Int32)), .val (.ref b6), .unset, .unset, .unset, .unset, .unset, .unset] [])) _
    refine XS.iconst X15.here hx rfl (hb hby at_18) ?_
    show Steps p.tables e below (T15.setTop (mkF m 19 #[.val (.int p0), .val (.int p1), .val (.int p2), .val (.int p3), .val (.int (2 : Int32)), .val (.ref b6), .unset, .unset, .unset, .unset, .unset, .unset] [(.int (1 : Int32))])) _
    refine st19 _ ?_
    show Steps p.tables e below (T19.setTop (mkF m 22 #[.val (.int p0), .val (.int p1), .val (.int p2), .val (.int p3), .val (.int (2 : Int32)), .val (.ref b6), .unset, .unset, .unset, .unset, .unset, .unset] [(.ref b19)])) _
    refine XS.dup X19.here hx rfl (hb hby at_22) rfl rfl ?_
    show Steps p.tables e below (T19.setTop (mkF m 23 #[.val (.int p0), .val (.int p1), .val (.int p2), .val (.int p3), .val (.int (2 : Int32)), .val (.ref b6), .unset, .unset, .unset, .unset, .unset, .unset] [(.ref b19), (.ref b19)])) _
    refine XS.iconst X19.here hx rfl (hb hby at_23) ?_
    show Steps p.tables e below (T19.setTop (mkF m 24 #[.val (.int p0), .val (.int p1), .val (.int p2), .val (.int p3), .val (.int (2 : Int32)), .val (.ref b6), .unset, .unset, .unset, .unset, .unset, .unset] [(.int (0 : Int32)), (.ref b19), (.ref b19)])) _
    refine XS.iloadN X19.here hx rfl (hb hby at_24) rfl ?_
    show Steps p.tables e below (T19.setTop (mkF m 25 #[.val (.int p0), .val (.int p1), .val (.int p2), .val (.int p3), .val (.int (2 : Int32)), .val (.ref b6), .unset, .unset, .unset, .unset, .unset, .unset] [(.int p3), (.int (0 : Int32)), (.ref b19), (.ref b19)])) _
    refine st25 _ ?_
    show Steps p.tables e below (T25.setTop (mkF m 28 #[.val (.int p0), .val (.int p1), .val (.int p2), .val (.int p3), .val (.int (2 : Int32)), .val (.ref b6), .unset, .unset, .unset, .unset, .unset, .unset] [(.ref b25), (.int (0 : Int32)), (.ref b19), (.ref b19)])) _
    refine st28 _ ?_
    show Steps p.tables e below (T28.setTop (mkF m 29 #[.val (.int p0), .val (.int p1), .val (.int p2), .val (.int p3), .val (.int (2 : Int32)), .val (.ref b6), .unset, .unset, .unset, .unset, .unset, .unset] [(.ref b19)])) _
    refine XS.astore X28.here hx rfl (hb hby at_29) rfl rfl (l' := #[.val (.int p0), .val (.int p1), .val (.int p2), .val (.int p3), .val (.int (2 : Int32)), .val (.ref b6), .val (.ref b19), .unset, .unset, .unset, .unset, .unset]) rfl ?_
    show Steps p.tables e below (T28.setTop (mkF m 31 #[.val (.int p0), .val (.int p1), .val (.int p2), .val (.int p3), .val (.int (2 : Int32)), .val (.ref b6), .val (.ref b19), .unset, .unset, .unset, .unset, .unset] [])) _
    refine XS.iconst X28.here hx rfl (hb hby at_31) ?_
    show Steps p.tables e below (T28.setTop (mkF m 32 #[.val (.int p0), .val (.int p1), .val (.int p2), .val (.int p3), .val (.int (2 : Int32)), .val (.ref b6), .val (.ref b19), .unset, .unset, .unset, .unset, .unset] [(.int (0 : Int32))])) _
    refine st32 _ ?_
    show Steps p.tables e below (T32.setTop (mkF m 35 #[.val (.int p0), .val (.int p1), .val (.int p2), .val (.int p3), .val (.int (2 : Int32)), .val (.ref b6), .val (.ref b19), .unset, .unset, .unset, .unset, .unset] [(.ref b32)])) _
    refine XS.astore X32.here hx rfl (hb hby at_35) rfl rfl (l' := #[.val (.int p0), .val (.int p1), .val (.int p2), .val (.int p3), .val (.int (2 : Int32)), .val (.ref b6), .val (.ref b19), .val (.ref b32), .unset, .unset, .unset, .unset]) rfl ?_
    show Steps p.tables e below (T32.setTop (mkF m 37 #[.val (.int p0), .val (.int p1), .val (.int p2), .val (.int p3), .val (.int (2 : Int32)), .val (.ref b6), .val (.ref b19), .val (.ref b32), .unset, .unset, .unset, .unset] [])) _
    refine st37 _ ?_
    show Steps p.tables e below (T37.setTop (mkF m 40 #[.val (.int p0), .val (.int p1), .val (.int p2), .val (.int p3), .val (.int (2 : Int32)), .val (.ref b6), .val (.ref b19), .val (.ref b32), .unset, .unset, .unset, .unset] [(.ref b37)])) _
    refine XS.dup X37.here hx rfl (hb hby at_40) rfl rfl ?_
    show Steps p.tables e below (T37.setTop (mkF m 41 #[.val (.int p0), .val (.int p1), .val (.int p2), .val (.int p3), .val (.int (2 : Int32)), .val (.ref b6), .val (.ref b19), .val (.ref b32), .unset, .unset, .unset, .unset] [(.ref b37), (.ref b37)])) _
    refine st41.trans ?_
    show Steps p.tables e below (T41.setTop (mkF m 44 #[.val (.int p0), .val (.int p1), .val (.int p2), .val (.int p3), .val (.int (2 : Int32)), .val (.ref b6), .val (.ref b19), .val (.ref b32), .unset, .unset, .unset, .unset] [(.ref b37)])) _
    refine XS.astore X41.here hx rfl (hb hby at_44) rfl rfl (l' := #[.val (.int p0), .val (.int p1), .val (.int p2), .val (.int p3), .val (.int (2 : Int32)), .val (.ref b6), .val (.ref b19), .val (.ref b32), .val (.ref b37), .unset, .unset, .unset]) rfl ?_
    show Steps p.tables e below (T41.setTop (mkF m 46 #[.val (.int p0), .val (.int p1), .val (.int p2), .val (.int p3), .val (.int (2 : Int32)), .val (.ref b6), .val (.ref b19), .val (.ref b32), .val (.ref b37), .unset, .unset, .unset] [])) _
    refine XS.iload X41.here hx rfl (hb hby at_46) rfl ?_
    show Steps p.tables e below (T41.setTop (mkF m 48 #[.val (.int p0), .val (.int p1), .val (.int p2), .val (.int p3), .val (.int (2 : Int32)), .val (.ref b6), .val (.ref b19), .val (.ref b32), .val (.ref b37), .unset, .unset, .unset] [(.int (2 : Int32))])) _
    refine XS.iconst X41.here hx rfl (hb hby at_48) ?_
    show Steps p.tables e below (T41.setTop (mkF m 49 #[.val (.int p0), .val (.int p1), .val (.int p2), .val (.int p3), .val (.int (2 : Int32)), .val (.ref b6), .val (.ref b19), .val (.ref b32), .val (.ref b37), .unset, .unset, .unset] [(.int (1 : Int32)), (.int (2 : Int32))])) _
    refine XS.icmpNo X41.here hx rfl (hb hby at_49) rfl (flt (by decide : ¬ ((2 : Int32) < (1 : Int32)))).1 ?_
    show Steps p.tables e below (T41.setTop (mkF m 52 #[.val (.int p0), .val (.int p1), .val (.int p2), .val (.int p3), .val (.int (2 : Int32)), .val (.ref b6), .val (.ref b19), .val (.ref b32), .val (.ref b37), .unset, .unset, .unset] [])) _
    refine XS.aload X41.here hx rfl (hb hby at_52) rfl rfl ?_
    show Steps p.tables e below (T41.setTop (mkF m 54 #[.val (.int p0), .val (.int p1), .val (.int p2), .val (.int p3), .val (.int (2 : Int32)), .val (.ref b6), .val (.ref b19), .val (.ref b32), .val (.ref b37), .unset, .unset, .unset] [(.ref b37)])) _
    refine XS.aload X41.here hx rfl (hb hby at_54) rfl rfl ?_
    show Steps p.tables e below (T41.setTop (mkF m 56 #[.val (.int p0), .val (.int p1), .val (.int p2), .val (.int p3), .val (.int (2 : Int32)), .val (.ref b6), .val (.ref b19), .val (.ref b32), .val (.ref b37), .unset, .unset, .unset] [(.ref b6), (.ref b37)])) _
    refine st56.trans ?_
    show Steps p.tables e below (T56.setTop (mkF m 59 #[.val (.int p0), .val (.int p1), .val (.int p2), .val (.int p3), .val (.int (2 : Int32)), .val (.ref b6), .val (.ref b19), .val (.ref b32), .val (.ref b37), .unset, .unset, .unset] [(.int (1 : Int32))])) _
    refine XS.pop X56.here hx rfl (hb hby at_59) rfl rfl ?_
    show Steps p.tables e below (T56.setTop (mkF m 60 #[.val (.int p0), .val (.int p1), .val (.int p2), .val (.int p3), .val (.int (2 : Int32)), .val (.ref b6), .val (.ref b19), .val (.ref b32), .val (.ref b37), .unset, .unset, .unset] [])) _
    refine XS.iload X56.here hx rfl (hb hby at_60) rfl ?_
    show Steps p.tables e below (T56.setTop (mkF m 62 #[.val (.int p0), .val (.int p1), .val (.int p2), .val (.int p3), .val (.int (2 : Int32)), .val (.ref b6), .val (.ref b19), .val (.ref b32), .val (.ref b37), .unset, .unset, .unset] [(.int (2 : Int32))])) _
    refine XS.iconst X56.here hx rfl (hb hby at_62) ?_
    show Steps p.tables e below (T56.setTop (mkF m 63 #[.val (.int p0), .val (.int p1), .val (.int p2), .val (.int p3), .val (.int (2 : Int32)), .val (.ref b6), .val (.ref b19), .val (.ref b32), .val (.ref b37), .unset, .unset, .unset] [(.int (2 : Int32)), (.int (2 : Int32))])) _
    refine XS.icmpNo X56.here hx rfl (hb hby at_63) rfl (flt (by decide : ¬ ((2 : Int32) < (2 : Int32)))).1 ?_
    show Steps p.tables e below (T56.setTop (mkF m 66 #[.val (.int p0), .val (.int p1), .val (.int p2), .val (.int p3), .val (.int (2 : Int32)), .val (.ref b6), .val (.ref b19), .val (.ref b32), .val (.ref b37), .unset, .unset, .unset] [])) _
    refine XS.aload X56.here hx rfl (hb hby at_66) rfl rfl ?_
    show Steps p.tables e below (T56.setTop (mkF m 68 #[.val (.int p0), .val (.int p1), .val (.int p2), .val (.int p3), .val (.int (2 : Int32)), .val (.ref b6), .val (.ref b19), .val (.ref b32), .val (.ref b37), .unset, .unset, .unset] [(.ref b37)])) _
    refine XS.aload X56.here hx rfl (hb hby at_68) rfl rfl ?_
    show Steps p.tables e below (T56.setTop (mkF m 70 #[.val (.int p0), .val (.int p1), .val (.int p2), .val (.int p3), .val (.int (2 : Int32)), .val (.ref b6), .val (.ref b19), .val (.ref b32), .val (.ref b37), .unset, .unset, .unset] [(.ref b19), (.ref b37)])) _
    refine st70.trans ?_
    show Steps p.tables e below (T70.setTop (mkF m 73 #[.val (.int p0), .val (.int p1), .val (.int p2), .val (.int p3), .val (.int (2 : Int32)), .val (.ref b6), .val (.ref b19), .val (.ref b32), .val (.ref b37), .unset, .unset, .unset] [(.int (1 : Int32))])) _
    refine XS.pop X70.here hx rfl (hb hby at_73) rfl rfl ?_
    show Steps p.tables e below (T70.setTop (mkF m 74 #[.val (.int p0), .val (.int p1), .val (.int p2), .val (.int p3), .val (.int (2 : Int32)), .val (.ref b6), .val (.ref b19), .val (.ref b32), .val (.ref b37), .unset, .unset, .unset] [])) _
    refine XS.iload X70.here hx rfl (hb hby at_74) rfl ?_
    show Steps p.tables e below (T70.setTop (mkF m 76 #[.val (.int p0), .val (.int p1), .val (.int p2), .val (.int p3), .val (.int (2 : Int32)), .val (.ref b6), .val (.ref b19), .val (.ref b32), .val (.ref b37), .unset, .unset, .unset] [(.int (2 : Int32))])) _
    refine XS.iconst X70.here hx rfl (hb hby at_76) ?_
    show Steps p.tables e below (T70.setTop (mkF m 77 #[.val (.int p0), .val (.int p1), .val (.int p2), .val (.int p3), .val (.int (2 : Int32)), .val (.ref b6), .val (.ref b19), .val (.ref b32), .val (.ref b37), .unset, .unset, .unset] [(.int (3 : Int32)), (.int (2 : Int32))])) _
    refine XS.icmpYes X70.here hx rfl (pc0 := 77) (pc' := 88) rfl (hb hby at_77) rfl (tlt (by decide : (2 : Int32) < (3 : Int32))).1 (by decide) (by decide) ?_
    show Steps p.tables e below (T70.setTop (mkF m 88 #[.val (.int p0), .val (.int p1), .val (.int p2), .val (.int p3), .val (.int (2 : Int32)), .val (.ref b6), .val (.ref b19), .val (.ref b32), .val (.ref b37), .unset, .unset, .unset] [])) _
    refine st88 _ ?_
    show Steps p.tables e below (T88.setTop (mkF m 91 #[.val (.int p0), .val (.int p1), .val (.int p2), .val (.int p3), .val (.int (2 : Int32)), .val (.ref b6), .val (.ref b19), .val (.ref b32), .val (.ref b37), .unset, .unset, .unset] [(.ref b88)])) _
    refine XS.dup X88.here hx rfl (hb hby at_91) rfl rfl ?_
    show Steps p.tables e below (T88.setTop (mkF m 92 #[.val (.int p0), .val (.int p1), .val (.int p2), .val (.int p3), .val (.int (2 : Int32)), .val (.ref b6), .val (.ref b19), .val (.ref b32), .val (.ref b37), .unset, .unset, .unset] [(.ref b88), (.ref b88)])) _
    refine XS.aload X88.here hx rfl (hb hby at_92) rfl rfl ?_
    show Steps p.tables e below (T88.setTop (mkF m 94 #[.val (.int p0), .val (.int p1), .val (.int p2), .val (.int p3), .val (.int (2 : Int32)), .val (.ref b6), .val (.ref b19), .val (.ref b32), .val (.ref b37), .unset, .unset, .unset] [(.ref b37), (.ref b88), (.ref b88)])) _
    refine XS.iloadN X88.here hx rfl (hb hby at_94) rfl ?_
    show Steps p.tables e below (T88.setTop (mkF m 95 #[.val (.int p0), .val (.int p1), .val (.int p2), .val (.int p3), .val (.int (2 : Int32)), .val (.ref b6), .val (.ref b19), .val (.ref b32), .val (.ref b37), .unset, .unset, .unset] [(.int p1), (.ref b37), (.ref b88), (.ref b88)])) _
    refine st95.trans ?_
    show Steps p.tables e below (T95.setTop (mkF m 98 #[.val (.int p0), .val (.int p1), .val (.int p2), .val (.int p3), .val (.int (2 : Int32)), .val (.ref b6), .val (.ref b19), .val (.ref b32), .val (.ref b37), .unset, .unset, .unset] [(.ref b88)])) _
    refine XS.astore X95.here hx rfl (hb hby at_98) rfl rfl (l' := #[.val (.int p0), .val (.int p1), .val (.int p2), .val (.int p3), .val (.int (2 : Int32)), .val (.ref b6), .val (.ref b19), .val (.ref b32), .val (.ref b37), .val (.ref b88), .unset, .unset]) rfl ?_
    show Steps p.tables e below (T95.setTop (mkF m 100 #[.val (.int p0), .val (.int p1), .val (.int p2), .val (.int p3), .val (.int (2 : Int32)), .val (.ref b6), .val (.ref b19), .val (.ref b32), .val (.ref b37), .val (.ref b88), .unset, .unset] [])) _
    refine XS.aload X95.here hx rfl (hb hby at_100) rfl rfl ?_
    show Steps p.tables e below (T95.setTop (mkF m 102 #[.val (.int p0), .val (.int p1), .val (.int p2), .val (.int p3), .val (.int (2 : Int32)), .val (.ref b6), .val (.ref b19), .val (.ref b32), .val (.ref b37), .val (.ref b88), .unset, .unset] [(.ref b88)])) _
    refine st102.trans ?_
    show Steps p.tables e below (T102.setTop (mkF m 105 #[.val (.int p0), .val (.int p1), .val (.int p2), .val (.int p3), .val (.int (2 : Int32)), .val (.ref b6), .val (.ref b19), .val (.ref b32), .val (.ref b37), .val (.ref b88), .unset, .unset] [(.ref b6)])) _
    refine XS.astore X102.here hx rfl (hb hby at_105) rfl rfl (l' := #[.val (.int p0), .val (.int p1), .val (.int p2), .val (.int p3), .val (.int (2 : Int32)), .val (.ref b6), .val (.ref b19), .val (.ref b32), .val (.ref b37), .val (.ref b88), .val (.ref b6), .unset]) rfl ?_
    show Steps p.tables e below (T102.setTop (mkF m 107 #[.val (.int p0), .val (.int p1), .val (.int p2), .val (.int p3), .val (.int (2 : Int32)), .val (.ref b6), .val (.ref b19), .val (.ref b32), .val (.ref b37), .val (.ref b88), .val (.ref b6), .unset] [])) _
    refine XS.iload X102.here hx rfl (hb hby at_107) rfl ?_
    show Steps p.tables e below (T102.setTop (mkF m 109 #[.val (.int p0), .val (.int p1), .val (.int p2), .val (.int p3), .val (.int (2 : Int32)), .val (.ref b6), .val (.ref b19), .val (.ref b32), .val (.ref b37), .val (.ref b88), .val (.ref b6), .unset] [(.int (2 : Int32))])) _
    refine XS.ifYes X102.here hx rfl (pc0 := 109) (pc' := 127) rfl (hb hby at_109) rfl ((if0 _ _).trans (feq (by decide : ¬ ((2 : Int32) = (0 : Int32)))).2) (by decide) (by decide) ?_
    show Steps p.tables e below (T102.setTop (mkF m 127 #[.val (.int p0), .val (.int p1), .val (.int p2), .val (.int p3), .val (.int (2 : Int32)), .val (.ref b6), .val (.ref b19), .val (.ref b32), .val (.ref b37), .val (.ref b88), .val (.ref b6), .unset] [])) _
    refine XS.aload X102.here hx rfl (hb hby at_127) rfl rfl ?_
    show Steps p.tables e below (T102.setTop (mkF m 129 #[.val (.int p0), .val (.int p1), .val (.int p2), .val (.int p3), .val (.int (2 : Int32)), .val (.ref b6), .val (.ref b19), .val (.ref b32), .val (.ref b37), .val (.ref b88), .val (.ref b6), .unset] [(.ref b6)])) _
    refine XS.aload X102.here hx rfl (hb hby at_129) rfl rfl ?_
    show Steps p.tables e below (T102.setTop (mkF m 131 #[.val (.int p0), .val (.int p1), .val (.int p2), .val (.int p3), .val (.int (2 : Int32)), .val (.ref b6), .val (.ref b19), .val (.ref b32), .val (.ref b37), .val (.ref b88), .val (.ref b6), .unset] [(.ref b6), (.ref b6)])) _
    refine Jvm.RoadKit.acmp (g := (mkF m 131 #[.val (.int p0), .val (.int p1), .val (.int p2), .val (.int p3), .val (.int (2 : Int32)), .val (.ref b6), .val (.ref b19), .val (.ref b32), .val (.ref b37), .val (.ref b88), .val (.ref b6), .unset] [(.ref b6), (.ref b6)])) X102 hx rfl rfl rfl (pc0 := 131) (pc' := 134) (same := true) rfl (hb hby at_131) rfl (decide_eq_true rfl) (by decide) (by decide) ?_
    show Steps p.tables e below (T102.setTop (mkF m 134 #[.val (.int p0), .val (.int p1), .val (.int p2), .val (.int p3), .val (.int (2 : Int32)), .val (.ref b6), .val (.ref b19), .val (.ref b32), .val (.ref b37), .val (.ref b88), .val (.ref b6), .unset] [])) _
    refine XS.aload X102.here hx rfl (hb hby at_134) rfl rfl ?_
    show Steps p.tables e below (T102.setTop (mkF m 136 #[.val (.int p0), .val (.int p1), .val (.int p2), .val (.int p3), .val (.int (2 : Int32)), .val (.ref b6), .val (.ref b19), .val (.ref b32), .val (.ref b37), .val (.ref b88), .val (.ref b6), .unset] [(.ref b6)])) _
    refine X102.arraylength hx (by exact Ar136.1) (State.isArrayOf_alike hZ.alike Ar136.2.1) (g := (mkF m 136 #[.val (.int p0), .val (.int p1), .val (.int p2), .val (.int p3), .val (.int (2 : Int32)), .val (.ref b6), .val (.ref b19), .val (.ref b32), .val (.ref b37), .val (.ref b88), .val (.ref b6), .unset] [(.ref b6)])) rfl rfl (hb hby at_136) _ ?_
    rw [len_of Sz136 NN136]
    show Steps p.tables e below (T102.setTop (mkF m 137 #[.val (.int p0), .val (.int p1), .val (.int p2), .val (.int p3), .val (.int (2 : Int32)), .val (.ref b6), .val (.ref b19), .val (.ref b32), .val (.ref b37), .val (.ref b88), .val (.ref b6), .unset] [(.int (1 : Int32))])) _
    refine XS.iconst X102.here hx rfl (hb hby at_137) ?_
    show Steps p.tables e below (T102.setTop (mkF m 138 #[.val (.int p0), .val (.int p1), .val (.int p2), .val (.int p3), .val (.int (2 : Int32)), .val (.ref b6), .val (.ref b19), .val (.ref b32), .val (.ref b37), .val (.ref b88), .val (.ref b6), .unset] [(.int (1 : Int32)), (.int (1 : Int32))])) _
    refine XS.icmpNo X102.here hx rfl (hb hby at_138) rfl (teq (by decide : (1 : Int32) = (1 : Int32))).2 ?_
    show Steps p.tables e below (T102.setTop (mkF m 141 #[.val (.int p0), .val (.int p1), .val (.int p2), .val (.int p3), .val (.int (2 : Int32)), .val (.ref b6), .val (.ref b19), .val (.ref b32), .val (.ref b37), .val (.ref b88), .val (.ref b6), .unset] [])) _
    refine XS.aload X102.here hx rfl (hb hby at_141) rfl rfl ?_
    show Steps p.tables e below (T102.setTop (mkF m 143 #[.val (.int p0), .val (.int p1), .val (.int p2), .val (.int p3), .val (.int (2 : Int32)), .val (.ref b6), .val (.ref b19), .val (.ref b32), .val (.ref b37), .val (.ref b88), .val (.ref b6), .unset] [(.ref b6)])) _
    refine XS.iconst X102.here hx rfl (hb hby at_143) ?_
    show Steps p.tables e below (T102.setTop (mkF m 144 #[.val (.int p0), .val (.int p1), .val (.int p2), .val (.int p3), .val (.int (2 : Int32)), .val (.ref b6), .val (.ref b19), .val (.ref b32), .val (.ref b37), .val (.ref b88), .val (.ref b6), .unset] [(.int (0 : Int32)), (.ref b6)])) _
    refine X102.aaload hx (j := (0 : Int32)) (v := (.ref b12)) (by exact Ar144.1) (State.isArrayOf_alike hZ.alike Ar144.2.1) rfl Ar144.2.2 hin144 f91 (g := (mkF m 144 #[.val (.int p0), .val (.int p1), .val (.int p2), .val (.int p3), .val (.int (2 : Int32)), .val (.ref b6), .val (.ref b19), .val (.ref b32), .val (.ref b37), .val (.ref b88), .val (.ref b6), .unset] [(.int (0 : Int32)), (.ref b6)])) rfl rfl (hb hby at_144) _ ?_
    show Steps p.tables e below (T102.setTop (mkF m 145 #[.val (.int p0), .val (.int p1), .val (.int p2), .val (.int p3), .val (.int (2 : Int32)), .val (.ref b6), .val (.ref b19), .val (.ref b32), .val (.ref b37), .val (.ref b88), .val (.ref b6), .unset] [(.ref b12)])) _
    refine st145 _ ?_
    show Steps p.tables e below (T145.setTop (mkF m 148 #[.val (.int p0), .val (.int p1), .val (.int p2), .val (.int p3), .val (.int (2 : Int32)), .val (.ref b6), .val (.ref b19), .val (.ref b32), .val (.ref b37), .val (.ref b88), .val (.ref b6), .unset] [(.ref b12)])) _
    refine st148.trans ?_
    show Steps p.tables e below (T148.setTop (mkF m 151 #[.val (.int p0), .val (.int p1), .val (.int p2), .val (.int p3), .val (.int (2 : Int32)), .val (.ref b6), .val (.ref b19), .val (.ref b32), .val (.ref b37), .val (.ref b88), .val (.ref b6), .unset] [(.int p2)])) _
    refine XS.iloadN X148.here hx rfl (hb hby at_151) rfl ?_
    show Steps p.tables e below (T148.setTop (mkF m 152 #[.val (.int p0), .val (.int p1), .val (.int p2), .val (.int p3), .val (.int (2 : Int32)), .val (.ref b6), .val (.ref b19), .val (.ref b32), .val (.ref b37), .val (.ref b88), .val (.ref b6), .unset] [(.int p2), (.int p2)])) _
    refine XS.icmpNo X148.here hx rfl (hb hby at_152) rfl (teq (rfl : p2 = p2)).2 ?_
    show Steps p.tables e below (T148.setTop (mkF m 155 #[.val (.int p0), .val (.int p1), .val (.int p2), .val (.int p3), .val (.int (2 : Int32)), .val (.ref b6), .val (.ref b19), .val (.ref b32), .val (.ref b37), .val (.ref b88), .val (.ref b6), .unset] [])) _
    refine XS.iconst X148.here hx rfl (hb hby at_155) ?_
    show Steps p.tables e below (T148.setTop (mkF m 156 #[.val (.int p0), .val (.int p1), .val (.int p2), .val (.int p3), .val (.int (2 : Int32)), .val (.ref b6), .val (.ref b19), .val (.ref b32), .val (.ref b37), .val (.ref b88), .val (.ref b6), .unset] [(.int (1 : Int32))])) _
    refine XS.goto X148.here hx rfl (pc0 := 156) (pc' := 160) rfl (hb hby at_156) (by decide) (by decide) ?_
    show Steps p.tables e below (T148.setTop (mkF m 160 #[.val (.int p0), .val (.int p1), .val (.int p2), .val (.int p3), .val (.int (2 : Int32)), .val (.ref b6), .val (.ref b19), .val (.ref b32), .val (.ref b37), .val (.ref b88), .val (.ref b6), .unset] [(.int (1 : Int32))])) _
    refine XS.istore X148.here hx rfl (hb hby at_160) rfl (l' := #[.val (.int p0), .val (.int p1), .val (.int p2), .val (.int p3), .val (.int (2 : Int32)), .val (.ref b6), .val (.ref b19), .val (.ref b32), .val (.ref b37), .val (.ref b88), .val (.ref b6), .val (.int (1 : Int32))]) rfl ?_
    show Steps p.tables e below (T148.setTop (mkF m 162 #[.val (.int p0), .val (.int p1), .val (.int p2), .val (.int p3), .val (.int (2 : Int32)), .val (.ref b6), .val (.ref b19), .val (.ref b32), .val (.ref b37), .val (.ref b88), .val (.ref b6), .val (.int (1 : Int32))] [])) _
    refine XS.iload X148.here hx rfl (hb hby at_162) rfl ?_
    show Steps p.tables e below (T148.setTop (mkF m 164 #[.val (.int p0), .val (.int p1), .val (.int p2), .val (.int p3), .val (.int (2 : Int32)), .val (.ref b6), .val (.ref b19), .val (.ref b32), .val (.ref b37), .val (.ref b88), .val (.ref b6), .val (.int (1 : Int32))] [(.int (1 : Int32))])) _
    refine XS.ifNo X148.here hx rfl (hb hby at_164) rfl ((if0 _ _).trans (feq (by decide : ¬ ((1 : Int32) = (0 : Int32)))).1) ?_
    show Steps p.tables e below (T148.setTop (mkF m 167 #[.val (.int p0), .val (.int p1), .val (.int p2), .val (.int p3), .val (.int (2 : Int32)), .val (.ref b6), .val (.ref b19), .val (.ref b32), .val (.ref b37), .val (.ref b88), .val (.ref b6), .val (.int (1 : Int32))] [])) _
    refine XS.aload X148.here hx rfl (hb hby at_167) rfl rfl ?_
    show Steps p.tables e below (T148.setTop (mkF m 169 #[.val (.int p0), .val (.int p1), .val (.int p2), .val (.int p3), .val (.int (2 : Int32)), .val (.ref b6), .val (.ref b19), .val (.ref b32), .val (.ref b37), .val (.ref b88), .val (.ref b6), .val (.int (1 : Int32))] [(.ref b88)])) _
    refine st169.trans ?_
    show Steps p.tables e below (T169.setTop (mkF m 172 #[.val (.int p0), .val (.int p1), .val (.int p2), .val (.int p3), .val (.int (2 : Int32)), .val (.ref b6), .val (.ref b19), .val (.ref b32), .val (.ref b37), .val (.ref b88), .val (.ref b6), .val (.int (1 : Int32))] [(.ref b37)])) _
    refine st172.trans ?_
    show Steps p.tables e below (T172.setTop (mkF m 177 #[.val (.int p0), .val (.int p1), .val (.int p2), .val (.int p3), .val (.int (2 : Int32)), .val (.ref b6), .val (.ref b19), .val (.ref b32), .val (.ref b37), .val (.ref b88), .val (.ref b6), .val (.int (1 : Int32))] [(.int (2 : Int32))])) _
    refine XS.iload X172.here hx rfl (hb hby at_177) rfl ?_
    show Steps p.tables e below (T172.setTop (mkF m 179 #[.val (.int p0), .val (.int p1), .val (.int p2), .val (.int p3), .val (.int (2 : Int32)), .val (.ref b6), .val (.ref b19), .val (.ref b32), .val (.ref b37), .val (.ref b88), .val (.ref b6), .val (.int (1 : Int32))] [(.int (2 : Int32)), (.int (2 : Int32))])) _
    refine XS.icmpNo X172.here hx rfl (hb hby at_179) rfl (teq (by decide : (2 : Int32) = (2 : Int32))).2 ?_
    show Steps p.tables e below (T172.setTop (mkF m 182 #[.val (.int p0), .val (.int p1), .val (.int p2), .val (.int p3), .val (.int (2 : Int32)), .val (.ref b6), .val (.ref b19), .val (.ref b32), .val (.ref b37), .val (.ref b88), .val (.ref b6), .val (.int (1 : Int32))] [])) _
    refine XS.aload X172.here hx rfl (hb hby at_182) rfl rfl ?_
    show Steps p.tables e below (T172.setTop (mkF m 184 #[.val (.int p0), .val (.int p1), .val (.int p2), .val (.int p3), .val (.int (2 : Int32)), .val (.ref b6), .val (.ref b19), .val (.ref b32), .val (.ref b37), .val (.ref b88), .val (.ref b6), .val (.int (1 : Int32))] [(.ref b88)])) _
    refine st184.trans ?_
    show Steps p.tables e below (T184.setTop (mkF m 187 #[.val (.int p0), .val (.int p1), .val (.int p2), .val (.int p3), .val (.int (2 : Int32)), .val (.ref b6), .val (.ref b19), .val (.ref b32), .val (.ref b37), .val (.ref b88), .val (.ref b6), .val (.int (1 : Int32))] [(.int p1)])) _
    refine XS.iloadN X184.here hx rfl (hb hby at_187) rfl ?_
    show Steps p.tables e below (T184.setTop (mkF m 188 #[.val (.int p0), .val (.int p1), .val (.int p2), .val (.int p3), .val (.int (2 : Int32)), .val (.ref b6), .val (.ref b19), .val (.ref b32), .val (.ref b37), .val (.ref b88), .val (.ref b6), .val (.int (1 : Int32))] [(.int p1), (.int p1)])) _
    refine XS.icmpNo X184.here hx rfl (hb hby at_188) rfl (teq (rfl : p1 = p1)).2 ?_
    show Steps p.tables e below (T184.setTop (mkF m 191 #[.val (.int p0), .val (.int p1), .val (.int p2), .val (.int p3), .val (.int (2 : Int32)), .val (.ref b6), .val (.ref b19), .val (.ref b32), .val (.ref b37), .val (.ref b88), .val (.ref b6), .val (.int (1 : Int32))] [])) _
    refine XS.iconst X184.here hx rfl (hb hby at_191) ?_
    show Steps p.tables e below (T184.setTop (mkF m 192 #[.val (.int p0), .val (.int p1), .val (.int p2), .val (.int p3), .val (.int (2 : Int32)), .val (.ref b6), .val (.ref b19), .val (.ref b32), .val (.ref b37), .val (.ref b88), .val (.ref b6), .val (.int (1 : Int32))] [(.int (1 : Int32))])) _
    refine XS.goto X184.here hx rfl (pc0 := 192) (pc' := 196) rfl (hb hby at_192) (by decide) (by decide) ?_
    show Steps p.tables e below (T184.setTop (mkF m 196 #[.val (.int p0), .val (.int p1), .val (.int p2), .val (.int p3), .val (.int (2 : Int32)), .val (.ref b6), .val (.ref b19), .val (.ref b32), .val (.ref b37), .val (.ref b88), .val (.ref b6), .val (.int (1 : Int32))] [(.int (1 : Int32))])) _
    exact retN X184 hx (t := .boolean) Bd.returns (by simp) (hb hby at_196) hr
  · show Q_law Z p0 p1 p2 p3 cc cl de kde h0 n0 _ T184.heap _
    exact ⟨rfl, N184, f139⟩
theorem ef_rm_law_3 (m : MethodId) (x0 : Int32) (x1 : Int32) (x2 : Int32) (x3 : Int32) : entryFrame m #[(.int x0), (.int x1), (.int x2), (.int x3)] maxLocals = mkF m 0 #[.val (.int x0), .val (.int x1), .val (.int x2), .val (.int x3), .unset, .unset, .unset, .unset, .unset, .unset, .unset, .unset] [] := by first | (simp [entryFrame, mkF, argsToLocals, Value.category, maxLocals]; done) | rfl
set_option maxRecDepth 65536 in
set_option maxHeartbeats 40000000 in
theorem rm_law_3 (l : Launch) (Z : State) (a0 : Array Value) (hw : ∀ d ∈ tables_1, d.before a0 Z = true) (ws : List Jvm.Cond) (p0 : Int32) (p1 : Int32) (p2 : Int32) (p3 : Int32) (cc : Addr) (cl : Cell) (de : Addr) (kde : ClassId) (h0 : Heap) (n0 : Nat) (O0 : Old Z n0 h0) (S_high : Sta Z Z.heap "java/lang/Integer$IntegerCache" "high" "I" (.int (127 : Int32))) (S_cache : Sta Z Z.heap "java/lang/Integer$IntegerCache" "cache" "[Ljava/lang/Integer;" (.ref cc)) (B_cache : Bxs Z cc cl "java/lang/Integer" "I" (256 : Int32) (fun j => .int (j - 128))) (S_D : Sta Z Z.heap "java/util/ArrayList" "DEFAULTCAPACITY_EMPTY_ELEMENTDATA" "[Ljava/lang/Object;" (.ref de)) (V_D : Arv Z Z.heap de kde (.object "java/lang/Object") (0 : Int32) [] .null) (hi : (p0 &&& (3 : Int32)) = (3 : Int32)) :
    MetFree l x (head1 (Jvm.Cond.code x code maxLocals ret :: ws) room_1) (fun as' U => as' = #[(.int p0), (.int p1), (.int p2), (.int p3)] ∧ Z.Warmed39 U.vm ∧ U.heap = h0) (fun _ _ _ _ _ => True) (fun _ U o U' => ∃ v L, o = .returned v ∧ Q_law Z p0 p1 p2 p3 cc cl de kde h0 n0 v U'.heap L ∧ FrameEnd U o U' L room_1.cells room_1.slots) := by
  refine MetFree.of_bodySF (plainFor_of_name pn_com_example_countinghouse_countinghouse_ResultRowPinLaw) hisR ?_
  intro p e s m args below meth c s₁ Bd hml0 hP hK
  obtain ⟨rfl, hZ, hh⟩ := hP
  have hx := Bd.exec
  have hby := Bd.bytes
  have hml : c.maxLocals = 12 := hml0
  have hown : s.vm.findClass "com/example/countinghouse/countinghouse/ResultRowPinLaw" = some m.cls := findClass_of_methodNamed Bd.named
  have hnm := (name_of_methodNamed Bd.named Bd.method).1
  have X0 : Stand p l e room_1 s m #[(.int p0), (.int p1), (.int p2), (.int p3)] below meth c s₁ [] 0 0 := Stand.of_body Bd
  have e0 : s₁.heap = h0 := by rw [← hh, Bd.state]; rfl
  have N0 := Fr.nil n0
  have K0 : Keep h0 h0 [] := Keep.refl _ _
  have pre0 : ∀ t, Steps p.tables e below (s₁.setTop (mkF m 0 #[.val (.int p0), .val (.int p1), .val (.int p2), .val (.int p3), .unset, .unset, .unset, .unset, .unset, .unset, .unset, .unset] [])) t → Steps p.tables e below (s₁.setTop (entryFrame m #[(.int p0), (.int p1), (.int p2), (.int p3)] maxLocals)) t := fun t k => castTop (ef_rm_law_3 m p0 p1 p2 p3) k
  obtain ⟨T6, h6, kc6, X6, e6, Ex6, Aa6, Bb6, Ov6, st6⟩ := newRE X0 hx hZ hown (w_0 hw) (w_1 hw) e0 (g := (mkF m 6 #[.val (.int p0), .val (.int p1), .val (.int p2), .val (.int p3), .val (.int (3 : Int32)), .unset, .unset, .unset, .unset, .unset, .unset, .unset] [(.int (1 : Int32))])) rfl (hb hby at_6) rfl (by decide) (cap := 1) (by decide) (by decide) (by decide) (by decide) (ad := "[Ljava/lang/Object;") (by first | rfl | decide +kernel)
  obtain ⟨b6, gg6⟩ : ∃ z, z = h0.size := ⟨_, rfl⟩
  rw [← gg6] at Aa6 Bb6 st6
  have f1 : Keep h0 h6 [] := K0.ext Ex6
  have f2 : Old Z n0 h6 := O0.ext Ex6
  have f3 : Arv Z h6 b6 kc6 (.object "java/lang/Object") (1 : Int32) [.null] .null := (Arv.new Aa6 (by decide)).pad (pad_rep [] .null 1)
  obtain ⟨_, _, ⟨T12, Lo12, kk12, nn12⟩, -, X12, ⟨Lc12, hQ12, ll12, yy12, zz12⟩, st12⟩ := Jvm.LawKit.callS X6 hx (y := (⟨"java/lang/Integer", "valueOf", "(I)Ljava/lang/Integer;"⟩ : MethodName)) hown (mvT hZ (w_2 hw)) (mvT hZ (w_3 hw)) (mvT hZ (w_4 hw)) (mvT hZ (w_5 hw)) (by decide) (backOf (W := 3) (rm_valueOf l Z a0 hw [] p2 cc cl h6 n0 f2 S_high S_cache B_cache) hZ (w_5 hw) (w_4 hw) (by decide) (by decide)) (g := (mkF m 12 #[.val (.int p0), .val (.int p1), .val (.int p2), .val (.int p3), .val (.int (3 : Int32)), .unset, .unset, .unset, .unset, .unset, .unset, .unset] [(.int p2), (.int (0 : Int32)), (.ref b6), (.ref b6)])) rfl (by rw [hml]; rfl) (argsL := [(.int p2)]) (rest := [(.int (0 : Int32)), (.ref b6), (.ref b6)]) (lenOf pd_9 rfl) rfl (by show 2 * 0 + _ ≤ _; exact Nat.le_of_eq rfl) (hb hby at_12) (fun _ _ => ⟨rfl, e6, (by decide : 1 + 1 ≤ _), (by decide : 1 + 1 ≤ _)⟩)
  dsimp only [Pt.U, Pt.locs, Pt.cells, Pt.slots] at X12 ll12 yy12 zz12 st12 hQ12
  subst ll12 yy12 zz12
  obtain ⟨b12, rfl, N12q, K12q, p12_0, p12_1⟩ := hQ12
  have N12 := Fr.app N0 N12q
  have f4 : Keep h0 T12.heap [] := f1.trans K12q all0
  have f5 : Old Z n0 T12.heap := f2.keep K12q all0
  have f6 : Arv Z T12.heap b6 kc6 (.object "java/lang/Object") (1 : Int32) [.null] .null := f3.keep K12q nin0
  obtain ⟨cl15, Ar15, qq15, Sz15, NN15, HH15, GG15⟩ := (id f6)
  have hin15 : ¬ ((0 : Int32) < 0 ∨ cl15.slots.size ≤ ((0 : Int32)).toNatClampNeg) := inb_of Sz15 ⟨by decide, by decide⟩
  obtain ⟨T15, h15, X15, e15, Wr15, st15⟩ := stR X12 hx hZ rfl Ar15 (j := (0 : Int32)) hin15 rfl (Sto.ofV Ar15 qq15 Ov6 (Ins.of_exa p12_0 (w_9 hw))) (g := (mkF m 15 #[.val (.int p0), .val (.int p1), .val (.int p2), .val (.int p3), .val (.int (3 : Int32)), .unset, .unset, .unset, .unset, .unset, .unset, .unset] [(.ref b12), (.int (0 : Int32)), (.ref b6), (.ref b6)])) rfl rfl (hb hby at_15)
  have f8 : h0.size ≤ b6 := Nat.le_trans K0.1 (Nat.le_of_eq gg6.symm)
  have f9 : n0 ≤ b6 := Nat.le_trans (own_old_le O0) (Nat.le_of_eq gg6.symm)
  have f10 : Keep h0 h15 [] := f4.wr Wr15 (Or.inr f8)
  have f11 : Old Z n0 h15 := f5.wr Wr15 f9
  have f12 : Arv Z h15 b6 kc6 (.object "java/lang/Object") (1 : Int32) [(.ref b12)] .null := Arv.set Ar15 qq15 Sz15 NN15 HH15 GG15 rfl Wr15 0 rfl (Nat.le_of_ble_eq_true rfl)
  have N15 := Fr.snoc X15 N12 f9
  obtain ⟨T19, h19, kc19, X19, e19, Ex19, Aa19, Bb19, Ov19, st19⟩ := newRE X15 hx hZ hown (w_0 hw) (w_1 hw) e15 (g := (mkF m 19 #[.val (.int p0), .val (.int p1), .val (.int p2), .val (.int p3), .val (.int (3 : Int32)), .val (.ref b6), .unset, .unset, .unset, .unset, .unset, .unset] [(.int (1 : Int32))])) rfl (hb hby at_19) rfl (by decide) (cap := 1) (by decide) (by decide) (by decide) (by decide) (ad := "[Ljava/lang/Object;") (by first | rfl | decide +kernel)
  obtain ⟨b19, gg19⟩ : ∃ z, z = h15.size := ⟨_, rfl⟩
  rw [← gg19] at Aa19 Bb19 st19
  have f13 : Keep h0 h19 [] := f10.ext Ex19
  have f14 : Old Z n0 h19 := f11.ext Ex19
  have f15 : Arv Z h19 b19 kc19 (.object "java/lang/Object") (1 : Int32) [.null] .null := (Arv.new Aa19 (by decide)).pad (pad_rep [] .null 1)
  obtain ⟨_, _, ⟨T25, Lo25, kk25, nn25⟩, -, X25, ⟨Lc25, hQ25, ll25, yy25, zz25⟩, st25⟩ := Jvm.LawKit.callS X19 hx (y := (⟨"java/lang/Integer", "valueOf", "(I)Ljava/lang/Integer;"⟩ : MethodName)) hown (mvT hZ (w_2 hw)) (mvT hZ (w_3 hw)) (mvT hZ (w_4 hw)) (mvT hZ (w_5 hw)) (by decide) (backOf (W := 3) (rm_valueOf l Z a0 hw [] p3 cc cl h19 n0 f14 S_high S_cache B_cache) hZ (w_5 hw) (w_4 hw) (by decide) (by decide)) (g := (mkF m 25 #[.val (.int p0), .val (.int p1), .val (.int p2), .val (.int p3), .val (.int (3 : Int32)), .val (.ref b6), .unset, .unset, .unset, .unset, .unset, .unset] [(.int p3), (.int (0 : Int32)), (.ref b19), (.ref b19)])) rfl (by rw [hml]; rfl) (argsL := [(.int p3)]) (rest := [(.int (0 : Int32)), (.ref b19), (.ref b19)]) (lenOf pd_9 rfl) rfl (by show 2 * 0 + _ ≤ _; exact Nat.le_of_eq rfl) (hb hby at_25) (fun _ _ => ⟨rfl, e19, (by decide : 3 + 1 ≤ _), (by decide : 3 + 1 ≤ _)⟩)
  dsimp only [Pt.U, Pt.locs, Pt.cells, Pt.slots] at X25 ll25 yy25 zz25 st25 hQ25
  subst ll25 yy25 zz25
  obtain ⟨b25, rfl, N25q, K25q, p25_0, p25_1⟩ := hQ25
  have N25 := Fr.app N15 N25q
  have f16 : Keep h0 T25.heap [] := f13.trans K25q all0
  have f17 : Old Z n0 T25.heap := f14.keep K25q all0
  have f18 : Arv Z T25.heap b19 kc19 (.object "java/lang/Object") (1 : Int32) [.null] .null := f15.keep K25q nin0
  obtain ⟨cl28, Ar28, qq28, Sz28, NN28, HH28, GG28⟩ := (id f18)
  have hin28 : ¬ ((0 : Int32) < 0 ∨ cl28.slots.size ≤ ((0 : Int32)).toNatClampNeg) := inb_of Sz28 ⟨by decide, by decide⟩
  obtain ⟨T28, h28, X28, e28, Wr28, st28⟩ := stR X25 hx hZ rfl Ar28 (j := (0 : Int32)) hin28 rfl (Sto.ofV Ar28 qq28 Ov19 (Ins.of_exa p25_0 (w_9 hw))) (g := (mkF m 28 #[.val (.int p0), .val (.int p1), .val (.int p2), .val (.int p3), .val (.int (3 : Int32)), .val (.ref b6), .unset, .unset, .unset, .unset, .unset, .unset] [(.ref b25), (.int (0 : Int32)), (.ref b19), (.ref b19)])) rfl rfl (hb hby at_28)
  have f20 : h0.size ≤ b19 := Nat.le_trans f10.1 (Nat.le_of_eq gg19.symm)
  have f21 : n0 ≤ b19 := Nat.le_trans (own_old_le f11) (Nat.le_of_eq gg19.symm)
  have f22 : Keep h0 h28 [] := f16.wr Wr28 (Or.inr f20)
  have f23 : Old Z n0 h28 := f17.wr Wr28 f21
  have f24 : Arv Z h28 b19 kc19 (.object "java/lang/Object") (1 : Int32) [(.ref b25)] .null := Arv.set Ar28 qq28 Sz28 NN28 HH28 GG28 rfl Wr28 0 rfl (Nat.le_of_ble_eq_true rfl)
  have N28 := Fr.snoc X28 N25 f21
  obtain ⟨T32, h32, kc32, X32, e32, Ex32, Aa32, Bb32, Ov32, st32⟩ := newRE X28 hx hZ hown (w_0 hw) (w_1 hw) e28 (g := (mkF m 32 #[.val (.int p0), .val (.int p1), .val (.int p2), .val (.int p3), .val (.int (3 : Int32)), .val (.ref b6), .val (.ref b19), .unset, .unset, .unset, .unset, .unset] [(.int (0 : Int32))])) rfl (hb hby at_32) rfl (by decide) (cap := 0) (by decide) (by decide) (by decide) (by decide) (ad := "[Ljava/lang/Object;") (by first | rfl | decide +kernel)
  obtain ⟨b32, gg32⟩ : ∃ z, z = h28.size := ⟨_, rfl⟩
  rw [← gg32] at Aa32 Bb32 st32
  have f25 : Keep h0 h32 [] := f22.ext Ex32
  have f26 : Old Z n0 h32 := f23.ext Ex32
  have f27 : Arv Z h32 b32 kc32 (.object "java/lang/Object") (0 : Int32) [] .null := (Arv.new Aa32 (by decide)).pad (pad_rep [] .null 0)
  obtain ⟨T37, h37, X37, e37, Ex37, Aa37, Df37, -, st37⟩ := newO X32 hx hZ hown (w_10 hw) (w_11 hw) (w_12 hw) e32 (g := (mkF m 37 #[.val (.int p0), .val (.int p1), .val (.int p2), .val (.int p3), .val (.int (3 : Int32)), .val (.ref b6), .val (.ref b19), .val (.ref b32), .unset, .unset, .unset, .unset] [])) rfl (hb hby at_37) (by decide) (by decide)
  obtain ⟨b37, gg37⟩ : ∃ z, z = h32.size := ⟨_, rfl⟩
  rw [← gg37] at Aa37 Df37 st37
  have f28 : Keep h0 h37 [] := f25.ext Ex37
  have f29 : Old Z n0 h37 := f26.ext Ex37
  have f30 : Fld Z h37 b37 "java/util/AbstractList" "modCount" "I" (.int (0 : Int32)) := Df37 (Or.inl (w_32 hw)) (ty := .int) (by decide)
  have f31 : Fld Z h37 b37 "java/util/ArrayList" "elementData" "[Ljava/lang/Object;" .null := Df37 (Or.inl (w_35 hw)) (ty := (.array (.object "java/lang/Object"))) (by decide)
  have f32 : Fld Z h37 b37 "java/util/ArrayList" "size" "I" (.int (0 : Int32)) := Df37 (Or.inl (w_67 hw)) (ty := .int) (by decide)
  have f33 : n0 ≤ b37 := Nat.le_trans (own_old_le f26) (Nat.le_of_eq gg37.symm)
  obtain ⟨_, _, ⟨T41, Lo41, kk41, nn41⟩, -, X41, ⟨Lc41, hQ41, ll41, yy41, zz41⟩, st41⟩ := X37.specialBack hx (y := (⟨"java/util/ArrayList", "<init>", "()V"⟩ : MethodName)) rfl hown (mvT hZ (w_13 hw)) (mvT hZ (w_14 hw)) (mvT hZ (w_15 hw)) (by decide) (backOf (W := 1) (rm_alInit l Z a0 hw [] b37 de h37 n0 f29 Aa37 f30 f31 f32 S_D f33) hZ (w_15 hw) (w_12 hw) (by decide) (by decide)) (g := (mkF m 41 #[.val (.int p0), .val (.int p1), .val (.int p2), .val (.int p3), .val (.int (3 : Int32)), .val (.ref b6), .val (.ref b19), .val (.ref b32), .unset, .unset, .unset, .unset] [(.ref b37), (.ref b37)])) rfl (by rw [hml]; rfl) (Steps.refl _) (a := b37) (argsL := []) (rest := [(.ref b37)]) (lenOf pd_0 rfl) rfl (by show 2 * 0 + _ ≤ _; exact Nat.le_of_eq rfl) (hb hby at_41) (fun _ _ => ⟨rfl, e37, (by decide : 6 + 0 ≤ _), (by decide : 7 + 0 ≤ _)⟩)
  dsimp only [Pt.U, Pt.locs, Pt.cells, Pt.slots] at X41 ll41 yy41 zz41 st41 hQ41
  subst ll41 yy41 zz41
  obtain ⟨rfl, N41q, K41q, p41_0, p41_1, p41_2, p41_3⟩ := hQ41
  have N41 := Fr.app N28 N41q
  have f34 : h0.size ≤ b37 := Nat.le_trans f25.1 (Nat.le_of_eq gg37.symm)
  have f35 : Keep h0 T41.heap [] := f28.trans K41q (allS (Or.inr f34) all0)
  have f36 : Old Z n0 T41.heap := f29.keep K41q (allS f33 all0)
  have f37 : Exa Z T12.heap b6 "[Ljava/lang/Object;" := Bb6.keep K12q
  have f38 : Exa Z h15 b6 "[Ljava/lang/Object;" := f37.wr Wr15
  have f39 : Exa Z h19 b6 "[Ljava/lang/Object;" := f38.ext Ex19
  have f40 : Exa Z T25.heap b6 "[Ljava/lang/Object;" := f39.keep K25q
  have f41 : Exa Z h28 b6 "[Ljava/lang/Object;" := f40.wr Wr28
  have f42 : Exa Z h32 b6 "[Ljava/lang/Object;" := f41.ext Ex32
  have f43 : Exa Z h37 b6 "[Ljava/lang/Object;" := f42.ext Ex37
  have f44 : Exa Z T41.heap b6 "[Ljava/lang/Object;" := f43.keep K41q
  obtain ⟨cq56, kq56, q56a, q56b, q56c⟩ := isOf hZ rfl p41_0
  obtain ⟨_, _, ⟨T56, Lo56, kk56, nn56⟩, -, X56, ⟨Lc56, hQ56, ll56, yy56, zz56⟩, st56⟩ := X41.virtualBack hx (y := (⟨"java/util/ArrayList", "add", "(Ljava/lang/Object;)Z"⟩ : MethodName)) (z := (⟨"java/util/ArrayList", "add", "(Ljava/lang/Object;)Z"⟩ : MethodName)) hown (mvT hZ (w_101 hw)) (mvT hZ (w_102 hw)) (notFace_of_selects (args := #[]) (mvT hZ (w_104 hw))) (mvT hZ (w_104 hw)) (mvT hZ (w_103 hw)) (by decide) (backOf (W := 0) (rm_aF l Z a0 hw [] b37 b6 ((0 : Int32)) de kde T41.heap n0 f36 p41_0 p41_1 p41_2 p41_3 S_D V_D f33 f44) hZ (w_105 hw) (w_12 hw) (by decide) (by decide)) q56a q56c (g := (mkF m 56 #[.val (.int p0), .val (.int p1), .val (.int p2), .val (.int p3), .val (.int (3 : Int32)), .val (.ref b6), .val (.ref b19), .val (.ref b32), .val (.ref b37), .unset, .unset, .unset] [(.ref b6), (.ref b37)])) rfl (by rw [hml]; rfl) (Steps.refl _) (argsL := [(.ref b6)]) (rest := []) (lenOf pd_13 rfl) rfl (by show 2 * 0 + _ ≤ _; exact Nat.le_of_eq rfl) (hb hby at_56) (fun _ _ => ⟨rfl, rfl, (by decide : 6 + 1 ≤ _), (by decide : 7 + 10 ≤ _)⟩)
  dsimp only [Pt.U, Pt.locs, Pt.cells, Pt.slots] at X56 ll56 yy56 zz56 st56 hQ56
  subst ll56 yy56 zz56
  obtain ⟨d56, kd56, rfl, N56q, K56q, p56_0, p56_1, p56_2, p56_3, p56_4, p56_5, p56_6, p56_7⟩ := hQ56
  have N56 := Fr.app N41 N56q
  have f45 : Keep h0 T56.heap [] := f35.trans K56q (allS (Or.inr f34) all0)
  have f46 : Old Z n0 T56.heap := f36.keep K56q (allS f33 all0)
  have f47 : Exa Z T25.heap b19 "[Ljava/lang/Object;" := Bb19.keep K25q
  have f48 : Exa Z h28 b19 "[Ljava/lang/Object;" := f47.wr Wr28
  have f49 : Exa Z h32 b19 "[Ljava/lang/Object;" := f48.ext Ex32
  have f50 : Exa Z h37 b19 "[Ljava/lang/Object;" := f49.ext Ex37
  have f51 : Exa Z T41.heap b19 "[Ljava/lang/Object;" := f50.keep K41q
  have f52 : Exa Z T56.heap b19 "[Ljava/lang/Object;" := f51.keep K56q
  have f53 : n0 ≤ d56 := Nat.le_trans (own_old_le f36) p56_0
  obtain ⟨cq70, kq70, q70a, q70b, q70c⟩ := isOf hZ rfl p56_1
  obtain ⟨_, _, ⟨T70, Lo70, kk70, nn70⟩, -, X70, ⟨Lc70, hQ70, ll70, yy70, zz70⟩, st70⟩ := X56.virtualBack hx (y := (⟨"java/util/ArrayList", "add", "(Ljava/lang/Object;)Z"⟩ : MethodName)) (z := (⟨"java/util/ArrayList", "add", "(Ljava/lang/Object;)Z"⟩ : MethodName)) hown (mvT hZ (w_101 hw)) (mvT hZ (w_102 hw)) (notFace_of_selects (args := #[]) (mvT hZ (w_104 hw))) (mvT hZ (w_104 hw)) (mvT hZ (w_103 hw)) (by decide) (backOf (W := 0) (rm_aR1 l Z a0 hw [] b37 b19 (((0 : Int32) + (1 : Int32))) d56 kd56 b6 T56.heap n0 f46 p56_1 p56_2 p56_3 p56_4 p56_5 p56_6 p56_7 f52 f33 f53) hZ (w_105 hw) (w_12 hw) (by decide) (by decide)) q70a q70c (g := (mkF m 70 #[.val (.int p0), .val (.int p1), .val (.int p2), .val (.int p3), .val (.int (3 : Int32)), .val (.ref b6), .val (.ref b19), .val (.ref b32), .val (.ref b37), .unset, .unset, .unset] [(.ref b19), (.ref b37)])) rfl (by rw [hml]; rfl) (Steps.refl _) (argsL := [(.ref b19)]) (rest := []) (lenOf pd_13 rfl) rfl (by show 2 * 0 + _ ≤ _; exact Nat.le_of_eq rfl) (hb hby at_70) (fun _ _ => ⟨rfl, rfl, (by decide : 7 + 0 ≤ _), (by decide : 17 + 0 ≤ _)⟩)
  dsimp only [Pt.U, Pt.locs, Pt.cells, Pt.slots] at X70 ll70 yy70 zz70 st70 hQ70
  subst ll70 yy70 zz70
  obtain ⟨rfl, N70q, K70q, p70_0, p70_1, p70_2, p70_3, p70_4, p70_5, p70_6⟩ := hQ70
  have N70 := Fr.app N56 N70q
  have f54 : h0.size ≤ d56 := Nat.le_trans f35.1 p56_0
  have f55 : Keep h0 T70.heap [] := f45.trans K70q (allS (Or.inr f34) (allS (Or.inr f54) all0))
  have f56 : Old Z n0 T70.heap := f46.keep K70q (allS f33 (allS f53 all0))
  have f57 : Exa Z h37 b32 "[Ljava/lang/Object;" := Bb32.ext Ex37
  have f58 : Exa Z T41.heap b32 "[Ljava/lang/Object;" := f57.keep K41q
  have f59 : Exa Z T56.heap b32 "[Ljava/lang/Object;" := f58.keep K56q
  have f60 : Exa Z T70.heap b32 "[Ljava/lang/Object;" := f59.keep K70q
  obtain ⟨cq84, kq84, q84a, q84b, q84c⟩ := isOf hZ rfl p70_0
  obtain ⟨_, _, ⟨T84, Lo84, kk84, nn84⟩, -, X84, ⟨Lc84, hQ84, ll84, yy84, zz84⟩, st84⟩ := X70.virtualBack hx (y := (⟨"java/util/ArrayList", "add", "(Ljava/lang/Object;)Z"⟩ : MethodName)) (z := (⟨"java/util/ArrayList", "add", "(Ljava/lang/Object;)Z"⟩ : MethodName)) hown (mvT hZ (w_101 hw)) (mvT hZ (w_102 hw)) (notFace_of_selects (args := #[]) (mvT hZ (w_104 hw))) (mvT hZ (w_104 hw)) (mvT hZ (w_103 hw)) (by decide) (backOf (W := 0) (rm_aR2 l Z a0 hw [] b37 b32 ((((0 : Int32) + (1 : Int32)) + (1 : Int32))) d56 kd56 b6 b19 T70.heap n0 f56 p70_0 p70_1 p70_2 p70_3 p70_4 p70_5 p70_6 f60 f33 f53) hZ (w_105 hw) (w_12 hw) (by decide) (by decide)) q84a q84c (g := (mkF m 84 #[.val (.int p0), .val (.int p1), .val (.int p2), .val (.int p3), .val (.int (3 : Int32)), .val (.ref b6), .val (.ref b19), .val (.ref b32), .val (.ref b37), .unset, .unset, .unset] [(.ref b32), (.ref b37)])) rfl (by rw [hml]; rfl) (Steps.refl _) (argsL := [(.ref b32)]) (rest := []) (lenOf pd_13 rfl) rfl (by show 2 * 0 + _ ≤ _; exact Nat.le_of_eq rfl) (hb hby at_84) (fun _ _ => ⟨rfl, rfl, (by decide : 7 + 0 ≤ _), (by decide : 17 + 0 ≤ _)⟩)
  dsimp only [Pt.U, Pt.locs, Pt.cells, Pt.slots] at X84 ll84 yy84 zz84 st84 hQ84
  subst ll84 yy84 zz84
  obtain ⟨rfl, N84q, K84q, p84_0, p84_1, p84_2, p84_3, p84_4, p84_5, p84_6⟩ := hQ84
  have N84 := Fr.app N70 N84q
  have f61 : Keep h0 T84.heap [] := f55.trans K84q (allS (Or.inr f34) (allS (Or.inr f54) all0))
  have f62 : Old Z n0 T84.heap := f56.keep K84q (allS f33 (allS f53 all0))
  obtain ⟨T88, h88, X88, e88, Ex88, Aa88, Df88, -, st88⟩ := newO X84 hx hZ hown (w_36 hw) (w_37 hw) (w_38 hw) rfl (g := (mkF m 88 #[.val (.int p0), .val (.int p1), .val (.int p2), .val (.int p3), .val (.int (3 : Int32)), .val (.ref b6), .val (.ref b19), .val (.ref b32), .val (.ref b37), .unset, .unset, .unset] [])) rfl (hb hby at_88) (by decide) (by decide)
  obtain ⟨b88, gg88⟩ : ∃ z, z = T84.heap.size := ⟨_, rfl⟩
  rw [← gg88] at Aa88 Df88 st88
  have f63 : Keep h0 h88 [] := f61.ext Ex88
  have f64 : Old Z n0 h88 := f62.ext Ex88
  have f65 : Fld Z h88 b88 "com/example/countinghouse/countinghouse/RoundTrip$Result" "rows" "Ljava/util/List;" .null := Df88 (Or.inr (w_49 hw)) (ty := (.object "java/util/List")) (by decide)
  have f66 : Fld Z h88 b88 "com/example/countinghouse/countinghouse/RoundTrip$Result" "changed" "I" (.int (0 : Int32)) := Df88 (Or.inr (w_51 hw)) (ty := .int) (by decide)
  have f67 : n0 ≤ b88 := Nat.le_trans (own_old_le f62) (Nat.le_of_eq gg88.symm)
  obtain ⟨_, _, ⟨T95, Lo95, kk95, nn95⟩, -, X95, ⟨Lc95, hQ95, ll95, yy95, zz95⟩, st95⟩ := X88.specialBack hx (y := (⟨"com/example/countinghouse/countinghouse/RoundTrip$Result", "<init>", "(Ljava/util/List;I)V"⟩ : MethodName)) rfl hown (mvT hZ (w_39 hw)) (mvT hZ (w_40 hw)) (mvT hZ (w_41 hw)) (by decide) (backOf (W := 1) (rm_resInit l Z a0 hw [] b88 b37 p1 h88 n0 f64 Aa88 f65 f66 f67) hZ (w_41 hw) (w_38 hw) (by decide) (by decide)) (g := (mkF m 95 #[.val (.int p0), .val (.int p1), .val (.int p2), .val (.int p3), .val (.int (3 : Int32)), .val (.ref b6), .val (.ref b19), .val (.ref b32), .val (.ref b37), .unset, .unset, .unset] [(.int p1), (.ref b37), (.ref b88), (.ref b88)])) rfl (by rw [hml]; rfl) (Steps.refl _) (a := b88) (argsL := [(.ref b37), (.int p1)]) (rest := [(.ref b88)]) (lenOf pd_10 rfl) rfl (by show 2 * 0 + _ ≤ _; exact Nat.le_of_eq rfl) (hb hby at_95) (fun _ _ => ⟨rfl, e88, (by decide : 8 + 0 ≤ _), (by decide : 19 + 0 ≤ _)⟩)
  dsimp only [Pt.U, Pt.locs, Pt.cells, Pt.slots] at X95 ll95 yy95 zz95 st95 hQ95
  subst ll95 yy95 zz95
  obtain ⟨rfl, N95q, K95q, p95_0, p95_1, p95_2⟩ := hQ95
  have N95 := Fr.app N84 N95q
  have f68 : h0.size ≤ b88 := Nat.le_trans f61.1 (Nat.le_of_eq gg88.symm)
  have f69 : Keep h0 T95.heap [] := f63.trans K95q (allS (Or.inr f68) all0)
  have f70 : Old Z n0 T95.heap := f64.keep K95q (allS f67 all0)
  have f71 : Exa Z h88 b37 "java/util/ArrayList" := p84_0.ext Ex88
  have f72 : Exa Z T95.heap b37 "java/util/ArrayList" := f71.keep K95q
  have f73 : Fld Z h88 b37 "java/util/ArrayList" "size" "I" (.int (3 : Int32)) := p84_3.ext Ex88
  have f74 : Fld Z T95.heap b37 "java/util/ArrayList" "size" "I" (.int (3 : Int32)) := f73.keep K95q (ninS (Nat.ne_of_lt (Nat.lt_of_lt_of_le p84_0.lt (Nat.le_of_eq gg88.symm))) nin0)
  have f75 : Fld Z h88 b37 "java/util/ArrayList" "elementData" "[Ljava/lang/Object;" (.ref d56) := p84_2.ext Ex88
  have f76 : Fld Z T95.heap b37 "java/util/ArrayList" "elementData" "[Ljava/lang/Object;" (.ref d56) := f75.keep K95q (ninS (Nat.ne_of_lt (Nat.lt_of_lt_of_le p84_0.lt (Nat.le_of_eq gg88.symm))) nin0)
  have f77 : Arv Z h88 d56 kd56 (.object "java/lang/Object") (10 : Int32) [(.ref b6), (.ref b19), (.ref b32), .null, .null, .null, .null, .null, .null, .null] .null := p84_5.ext Ex88
  have f78 : Arv Z T95.heap d56 kd56 (.object "java/lang/Object") (10 : Int32) [(.ref b6), (.ref b19), (.ref b32), .null, .null, .null, .null, .null, .null, .null] .null := f77.keep K95q (ninS (Nat.ne_of_lt (Nat.lt_of_lt_of_le p84_4.lt (Nat.le_of_eq gg88.symm))) nin0)
  have f79 : Exa Z T56.heap b6 "[Ljava/lang/Object;" := f44.keep K56q
  have f80 : Exa Z T70.heap b6 "[Ljava/lang/Object;" := f79.keep K70q
  have f81 : Exa Z T84.heap b6 "[Ljava/lang/Object;" := f80.keep K84q
  have f82 : Exa Z h88 b6 "[Ljava/lang/Object;" := f81.ext Ex88
  have f83 : Exa Z T95.heap b6 "[Ljava/lang/Object;" := f82.keep K95q
  obtain ⟨cq102, kq102, q102a, q102b, q102c⟩ := isOf hZ rfl p95_0
  obtain ⟨_, _, ⟨T102, Lo102, kk102, nn102⟩, -, X102, ⟨Lc102, hQ102, ll102, yy102, zz102⟩, st102⟩ := X95.virtualBack hx (y := (⟨"com/example/countinghouse/countinghouse/RoundTrip$Result", "row", "()[Ljava/lang/Object;"⟩ : MethodName)) (z := (⟨"com/example/countinghouse/countinghouse/RoundTrip$Result", "row", "()[Ljava/lang/Object;"⟩ : MethodName)) hown (mvT hZ (w_52 hw)) (mvT hZ (w_53 hw)) (notFace_of_selects (args := #[]) (mvT hZ (w_55 hw))) (mvT hZ (w_55 hw)) (mvT hZ (w_54 hw)) (by decide) (backOf (W := 0) (rm_rowY l Z a0 hw [] b88 b37 ((3 : Int32)) d56 kd56 ([(.ref b6), (.ref b19), (.ref b32), .null, .null, .null, .null, .null, .null, .null]) b6 T95.heap n0 f70 p95_1 f72 f74 f76 f78 (by first | rfl | decide | assumption) (by first | rfl | decide | assumption) (by first | rfl | decide | assumption) f83) hZ (w_56 hw) (w_38 hw) (by decide) (by decide)) q102a q102c (g := (mkF m 102 #[.val (.int p0), .val (.int p1), .val (.int p2), .val (.int p3), .val (.int (3 : Int32)), .val (.ref b6), .val (.ref b19), .val (.ref b32), .val (.ref b37), .val (.ref b88), .unset, .unset] [(.ref b88)])) rfl (by rw [hml]; rfl) (Steps.refl _) (argsL := []) (rest := []) (lenOf pd_4 rfl) rfl (by show 2 * 0 + _ ≤ _; exact Nat.le_of_eq rfl) (hb hby at_102) (fun _ _ => ⟨rfl, rfl, (by decide : 8 + 0 ≤ _), (by decide : 19 + 0 ≤ _)⟩)
  dsimp only [Pt.U, Pt.locs, Pt.cells, Pt.slots] at X102 ll102 yy102 zz102 st102 hQ102
  subst ll102 yy102 zz102
  obtain ⟨rfl, N102q, K102q⟩ := hQ102
  have N102 := Fr.app N95 N102q
  have f84 : Keep h0 T102.heap [] := f69.trans K102q all0
  have f85 : Old Z n0 T102.heap := f70.keep K102q all0
  have f86 : Arv Z h19 b6 kc6 (.object "java/lang/Object") (1 : Int32) [(.ref b12)] .null := f12.ext Ex19
  have f87 : Arv Z T25.heap b6 kc6 (.object "java/lang/Object") (1 : Int32) [(.ref b12)] .null := f86.keep K25q nin0
  have f88 : Arv Z h28 b6 kc6 (.object "java/lang/Object") (1 : Int32) [(.ref b12)] .null := f87.other Wr28 (Nat.ne_of_lt (Nat.lt_of_lt_of_le f38.lt (Nat.le_of_eq gg19.symm)))
  have f89 : Arv Z h32 b6 kc6 (.object "java/lang/Object") (1 : Int32) [(.ref b12)] .null := f88.ext Ex32
  have f90 : Arv Z h37 b6 kc6 (.object "java/lang/Object") (1 : Int32) [(.ref b12)] .null := f89.ext Ex37
  have f91 : Arv Z T41.heap b6 kc6 (.object "java/lang/Object") (1 : Int32) [(.ref b12)] .null := f90.keep K41q (ninS (Nat.ne_of_lt (Nat.lt_of_lt_of_le f42.lt (Nat.le_of_eq gg37.symm))) nin0)
  have f92 : Arv Z T56.heap b6 kc6 (.object "java/lang/Object") (1 : Int32) [(.ref b12)] .null := f91.keep K56q (ninS (Nat.ne_of_lt (Nat.lt_of_lt_of_le f42.lt (Nat.le_of_eq gg37.symm))) nin0)
  have f93 : Arv Z T70.heap b6 kc6 (.object "java/lang/Object") (1 : Int32) [(.ref b12)] .null := f92.keep K70q (ninS (Nat.ne_of_lt (Nat.lt_of_lt_of_le f42.lt (Nat.le_of_eq gg37.symm))) (ninS (Nat.ne_of_lt (Nat.lt_of_lt_of_le f44.lt p56_0)) nin0))
  have f94 : Arv Z T84.heap b6 kc6 (.object "java/lang/Object") (1 : Int32) [(.ref b12)] .null := f93.keep K84q (ninS (Nat.ne_of_lt (Nat.lt_of_lt_of_le f42.lt (Nat.le_of_eq gg37.symm))) (ninS (Nat.ne_of_lt (Nat.lt_of_lt_of_le f44.lt p56_0)) nin0))
  have f95 : Arv Z h88 b6 kc6 (.object "java/lang/Object") (1 : Int32) [(.ref b12)] .null := f94.ext Ex88
  have f96 : Arv Z T95.heap b6 kc6 (.object "java/lang/Object") (1 : Int32) [(.ref b12)] .null := f95.keep K95q (ninS (Nat.ne_of_lt (Nat.lt_of_lt_of_le f81.lt (Nat.le_of_eq gg88.symm))) nin0)
  have f97 : Arv Z T102.heap b6 kc6 (.object "java/lang/Object") (1 : Int32) [(.ref b12)] .null := f96.keep K102q nin0
  obtain ⟨cl136, Ar136, qq136, Sz136, NN136, HH136, GG136⟩ := (id f97)
  obtain ⟨cl144, Ar144, qq144, Sz144, NN144, HH144, GG144⟩ := (id f97)
  have hin144 : ¬ ((0 : Int32) < 0 ∨ cl144.slots.size ≤ ((0 : Int32)).toNatClampNeg) := inb_of Sz144 ⟨by decide, by decide⟩
  have f99 : cl144.slots[((0 : Int32)).toNatClampNeg]? = some (.ref b12) := HH144.at hin144 rfl
  have f100 : Exa Z h15 b12 "java/lang/Integer" := p12_0.wr Wr15
  have f101 : Exa Z h19 b12 "java/lang/Integer" := f100.ext Ex19
  have f102 : Exa Z T25.heap b12 "java/lang/Integer" := f101.keep K25q
  have f103 : Exa Z h28 b12 "java/lang/Integer" := f102.wr Wr28
  have f104 : Exa Z h32 b12 "java/lang/Integer" := f103.ext Ex32
  have f105 : Exa Z h37 b12 "java/lang/Integer" := f104.ext Ex37
  have f106 : Exa Z T41.heap b12 "java/lang/Integer" := f105.keep K41q
  have f107 : Exa Z T56.heap b12 "java/lang/Integer" := f106.keep K56q
  have f108 : Exa Z T70.heap b12 "java/lang/Integer" := f107.keep K70q
  have f109 : Exa Z T84.heap b12 "java/lang/Integer" := f108.keep K84q
  have f110 : Exa Z h88 b12 "java/lang/Integer" := f109.ext Ex88
  have f111 : Exa Z T95.heap b12 "java/lang/Integer" := f110.keep K95q
  have f112 : Exa Z T102.heap b12 "java/lang/Integer" := f111.keep K102q
  obtain ⟨T145, X145, e145, st145⟩ := castY X102 hx hZ hown (w_152 hw) rfl (Ins.self f112) (g := (mkF m 145 #[.val (.int p0), .val (.int p1), .val (.int p2), .val (.int p3), .val (.int (3 : Int32)), .val (.ref b6), .val (.ref b19), .val (.ref b32), .val (.ref b37), .val (.ref b88), .val (.ref b6), .unset] [(.ref b12)])) rfl rfl (hb hby at_145)
  have f113 : Exa Z T102.heap b6 "[Ljava/lang/Object;" := f83.keep K102q
  have f114 : Fld Z h15 b12 "java/lang/Integer" "value" "I" (.int p2) := p12_1.other Wr15 (Or.inl (Ne.symm (ne_exa f113 f112 (by decide))))
  have f115 : Fld Z h19 b12 "java/lang/Integer" "value" "I" (.int p2) := f114.ext Ex19
  have f116 : Fld Z T25.heap b12 "java/lang/Integer" "value" "I" (.int p2) := f115.keep K25q nin0
  have f117 : Fld Z h28 b12 "java/lang/Integer" "value" "I" (.int p2) := f116.other Wr28 (Or.inl (Nat.ne_of_lt (Nat.lt_of_lt_of_le f100.lt (Nat.le_of_eq gg19.symm))))
  have f118 : Fld Z h32 b12 "java/lang/Integer" "value" "I" (.int p2) := f117.ext Ex32
  have f119 : Fld Z h37 b12 "java/lang/Integer" "value" "I" (.int p2) := f118.ext Ex37
  have f120 : Fld Z T41.heap b12 "java/lang/Integer" "value" "I" (.int p2) := f119.keep K41q (ninS (Nat.ne_of_lt (Nat.lt_of_lt_of_le f104.lt (Nat.le_of_eq gg37.symm))) nin0)
  have f121 : Fld Z T56.heap b12 "java/lang/Integer" "value" "I" (.int p2) := f120.keep K56q (ninS (Nat.ne_of_lt (Nat.lt_of_lt_of_le f104.lt (Nat.le_of_eq gg37.symm))) nin0)
  have f122 : Fld Z T70.heap b12 "java/lang/Integer" "value" "I" (.int p2) := f121.keep K70q (ninS (Nat.ne_of_lt (Nat.lt_of_lt_of_le f104.lt (Nat.le_of_eq gg37.symm))) (ninS (Nat.ne_of_lt (Nat.lt_of_lt_of_le f106.lt p56_0)) nin0))
  have f123 : Fld Z T84.heap b12 "java/lang/Integer" "value" "I" (.int p2) := f122.keep K84q (ninS (Nat.ne_of_lt (Nat.lt_of_lt_of_le f104.lt (Nat.le_of_eq gg37.symm))) (ninS (Nat.ne_of_lt (Nat.lt_of_lt_of_le f106.lt p56_0)) nin0))
  have f124 : Fld Z h88 b12 "java/lang/Integer" "value" "I" (.int p2) := f123.ext Ex88
  have f125 : Fld Z T95.heap b12 "java/lang/Integer" "value" "I" (.int p2) := f124.keep K95q (ninS (Nat.ne_of_lt (Nat.lt_of_lt_of_le f109.lt (Nat.le_of_eq gg88.symm))) nin0)
  have f126 : Fld Z T102.heap b12 "java/lang/Integer" "value" "I" (.int p2) := f125.keep K102q nin0
  obtain ⟨cq148, kq148, q148a, q148b, q148c⟩ := isOf hZ e145 f112
  obtain ⟨_, _, ⟨T148, Lo148, kk148, nn148⟩, -, X148, ⟨Lc148, hQ148, ll148, yy148, zz148⟩, st148⟩ := X145.virtualBack hx (y := (⟨"java/lang/Integer", "intValue", "()I"⟩ : MethodName)) (z := (⟨"java/lang/Integer", "intValue", "()I"⟩ : MethodName)) hown (mvT hZ (w_153 hw)) (mvT hZ (w_154 hw)) (notFace_of_selects (args := #[]) (mvT hZ (w_156 hw))) (mvT hZ (w_156 hw)) (mvT hZ (w_155 hw)) (by decide) (backOf (W := 0) (rm_intValue l Z a0 hw [] b12 p2 T102.heap n0 f85 f126) hZ (w_157 hw) (w_4 hw) (by decide) (by decide)) q148a q148c (g := (mkF m 148 #[.val (.int p0), .val (.int p1), .val (.int p2), .val (.int p3), .val (.int (3 : Int32)), .val (.ref b6), .val (.ref b19), .val (.ref b32), .val (.ref b37), .val (.ref b88), .val (.ref b6), .unset] [(.ref b12)])) rfl (by rw [hml]; rfl) (Steps.refl _) (argsL := []) (rest := []) (lenOf pd_12 rfl) rfl (by show 2 * 0 + _ ≤ _; exact Nat.le_of_eq rfl) (hb hby at_148) (fun _ _ => ⟨rfl, e145, (by decide : 8 + 0 ≤ _), (by decide : 19 + 0 ≤ _)⟩)
  dsimp only [Pt.U, Pt.locs, Pt.cells, Pt.slots] at X148 ll148 yy148 zz148 st148 hQ148
  subst ll148 yy148 zz148
  obtain ⟨rfl, N148q, K148q⟩ := hQ148
  have N148 := Fr.app N102 N148q
  have f127 : Keep h0 T148.heap [] := f84.trans K148q all0
  have f128 : Old Z n0 T148.heap := f85.keep K148q all0
  have f129 : Fld Z T102.heap b88 "com/example/countinghouse/countinghouse/RoundTrip$Result" "rows" "Ljava/util/List;" (.ref b37) := p95_1.keep K102q nin0
  have f130 : Fld Z T148.heap b88 "com/example/countinghouse/countinghouse/RoundTrip$Result" "rows" "Ljava/util/List;" (.ref b37) := f129.keep K148q nin0
  have f131 : Exa Z T102.heap b88 "com/example/countinghouse/countinghouse/RoundTrip$Result" := p95_0.keep K102q
  have f132 : Exa Z T148.heap b88 "com/example/countinghouse/countinghouse/RoundTrip$Result" := f131.keep K148q
  obtain ⟨cq169, kq169, q169a, q169b, q169c⟩ := isOf hZ rfl f132
  obtain ⟨_, _, ⟨T169, Lo169, kk169, nn169⟩, -, X169, ⟨Lc169, hQ169, ll169, yy169, zz169⟩, st169⟩ := X148.virtualBack hx (y := (⟨"com/example/countinghouse/countinghouse/RoundTrip$Result", "rows", "()Ljava/util/List;"⟩ : MethodName)) (z := (⟨"com/example/countinghouse/countinghouse/RoundTrip$Result", "rows", "()Ljava/util/List;"⟩ : MethodName)) hown (mvT hZ (w_68 hw)) (mvT hZ (w_69 hw)) (notFace_of_selects (args := #[]) (mvT hZ (w_71 hw))) (mvT hZ (w_71 hw)) (mvT hZ (w_70 hw)) (by decide) (backOf (W := 0) (rm_rows l Z a0 hw [] b88 b37 T148.heap n0 f128 f130) hZ (w_72 hw) (w_38 hw) (by decide) (by decide)) q169a q169c (g := (mkF m 169 #[.val (.int p0), .val (.int p1), .val (.int p2), .val (.int p3), .val (.int (3 : Int32)), .val (.ref b6), .val (.ref b19), .val (.ref b32), .val (.ref b37), .val (.ref b88), .val (.ref b6), .val (.int (1 : Int32))] [(.ref b88)])) rfl (by rw [hml]; rfl) (Steps.refl _) (argsL := []) (rest := []) (lenOf pd_11 rfl) rfl (by show 2 * 0 + _ ≤ _; exact Nat.le_of_eq rfl) (hb hby at_169) (fun _ _ => ⟨rfl, rfl, (by decide : 8 + 0 ≤ _), (by decide : 19 + 0 ≤ _)⟩)
  dsimp only [Pt.U, Pt.locs, Pt.cells, Pt.slots] at X169 ll169 yy169 zz169 st169 hQ169
  subst ll169 yy169 zz169
  obtain ⟨rfl, N169q, K169q⟩ := hQ169
  have N169 := Fr.app N148 N169q
  have f133 : Keep h0 T169.heap [] := f127.trans K169q all0
  have f134 : Old Z n0 T169.heap := f128.keep K169q all0
  have f135 : Fld Z T102.heap b37 "java/util/ArrayList" "size" "I" (.int (3 : Int32)) := f74.keep K102q nin0
  have f136 : Fld Z T148.heap b37 "java/util/ArrayList" "size" "I" (.int (3 : Int32)) := f135.keep K148q nin0
  have f137 : Fld Z T169.heap b37 "java/util/ArrayList" "size" "I" (.int (3 : Int32)) := f136.keep K169q nin0
  have f138 : Exa Z T102.heap b37 "java/util/ArrayList" := f72.keep K102q
  have f139 : Exa Z T148.heap b37 "java/util/ArrayList" := f138.keep K148q
  have f140 : Exa Z T169.heap b37 "java/util/ArrayList" := f139.keep K169q
  obtain ⟨cq172, kq172, q172a, q172b, q172c⟩ := isOf hZ rfl f140
  obtain ⟨_, _, ⟨T172, Lo172, kk172, nn172⟩, -, X172, ⟨Lc172, hQ172, ll172, yy172, zz172⟩, st172⟩ := X169.interfaceBack hx (xi := (⟨"java/util/List", "size", "()I"⟩ : MethodName)) (y := (⟨"java/util/ArrayList", "size", "()I"⟩ : MethodName)) hown (mvT hZ (w_73 hw)) (mvT hZ (w_74 hw)) (mvT hZ (w_75 hw)) (mvT hZ (w_76 hw)) (mvT hZ (w_77 hw)) (mvT hZ (w_78 hw)) (mvT hZ (w_79 hw)) (mvT hZ (w_64 hw)) (by decide) (backOf (W := 0) (rm_size l Z a0 hw [] b37 ((3 : Int32)) T169.heap n0 f134 f137) hZ (w_80 hw) (w_12 hw) (by decide) (by decide)) q172a q172b q172c (g := (mkF m 172 #[.val (.int p0), .val (.int p1), .val (.int p2), .val (.int p3), .val (.int (3 : Int32)), .val (.ref b6), .val (.ref b19), .val (.ref b32), .val (.ref b37), .val (.ref b88), .val (.ref b6), .val (.int (1 : Int32))] [(.ref b37)])) rfl (by rw [hml]; rfl) (Steps.refl _) (argsL := []) (rest := []) (lenOf pd_12 rfl) rfl (by show 2 * 0 + _ ≤ _; exact Nat.le_of_eq rfl) (hb hby at_172) (fun _ _ => ⟨rfl, rfl, (by decide : 8 + 0 ≤ _), (by decide : 19 + 0 ≤ _)⟩)
  dsimp only [Pt.U, Pt.locs, Pt.cells, Pt.slots] at X172 ll172 yy172 zz172 st172 hQ172
  subst ll172 yy172 zz172
  obtain ⟨rfl, N172q, K172q⟩ := hQ172
  have N172 := Fr.app N169 N172q
  have f141 : Keep h0 T172.heap [] := f133.trans K172q all0
  have f142 : Old Z n0 T172.heap := f134.keep K172q all0
  have f143 : Fld Z T102.heap b88 "com/example/countinghouse/countinghouse/RoundTrip$Result" "changed" "I" (.int p1) := p95_2.keep K102q nin0
  have f144 : Fld Z T148.heap b88 "com/example/countinghouse/countinghouse/RoundTrip$Result" "changed" "I" (.int p1) := f143.keep K148q nin0
  have f145 : Fld Z T169.heap b88 "com/example/countinghouse/countinghouse/RoundTrip$Result" "changed" "I" (.int p1) := f144.keep K169q nin0
  have f146 : Fld Z T172.heap b88 "com/example/countinghouse/countinghouse/RoundTrip$Result" "changed" "I" (.int p1) := f145.keep K172q nin0
  have f147 : Exa Z T169.heap b88 "com/example/countinghouse/countinghouse/RoundTrip$Result" := f132.keep K169q
  have f148 : Exa Z T172.heap b88 "com/example/countinghouse/countinghouse/RoundTrip$Result" := f147.keep K172q
  obtain ⟨cq184, kq184, q184a, q184b, q184c⟩ := isOf hZ rfl f148
  obtain ⟨_, _, ⟨T184, Lo184, kk184, nn184⟩, -, X184, ⟨Lc184, hQ184, ll184, yy184, zz184⟩, st184⟩ := X172.virtualBack hx (y := (⟨"com/example/countinghouse/countinghouse/RoundTrip$Result", "changed", "()I"⟩ : MethodName)) (z := (⟨"com/example/countinghouse/countinghouse/RoundTrip$Result", "changed", "()I"⟩ : MethodName)) hown (mvT hZ (w_81 hw)) (mvT hZ (w_82 hw)) (notFace_of_selects (args := #[]) (mvT hZ (w_84 hw))) (mvT hZ (w_84 hw)) (mvT hZ (w_83 hw)) (by decide) (backOf (W := 0) (rm_changed l Z a0 hw [] b88 p1 T172.heap n0 f142 f146) hZ (w_85 hw) (w_38 hw) (by decide) (by decide)) q184a q184c (g := (mkF m 184 #[.val (.int p0), .val (.int p1), .val (.int p2), .val (.int p3), .val (.int (3 : Int32)), .val (.ref b6), .val (.ref b19), .val (.ref b32), .val (.ref b37), .val (.ref b88), .val (.ref b6), .val (.int (1 : Int32))] [(.ref b88)])) rfl (by rw [hml]; rfl) (Steps.refl _) (argsL := []) (rest := []) (lenOf pd_12 rfl) rfl (by show 2 * 0 + _ ≤ _; exact Nat.le_of_eq rfl) (hb hby at_184) (fun _ _ => ⟨rfl, rfl, (by decide : 8 + 0 ≤ _), (by decide : 19 + 0 ≤ _)⟩)
  dsimp only [Pt.U, Pt.locs, Pt.cells, Pt.slots] at X184 ll184 yy184 zz184 st184 hQ184
  subst ll184 yy184 zz184
  obtain ⟨rfl, N184q, K184q⟩ := hQ184
  have N184 := Fr.app N172 N184q
  have f149 : Keep h0 T184.heap [] := f141.trans K184q all0
  have f150 : Old Z n0 T184.heap := f142.keep K184q all0
  obtain ⟨fs, hr, hrun, hended, hW, hsame⟩ := X184.leave (v := some (.int (1 : Int32))) (fun h => by rw [Bd.returns] at h; cases h)
  refine ⟨_, _, pre0 _ ?_, hrun, hended, _, _, rfl, ?_, ⟨_, rfl⟩, hW, hsame.mono (by decide) (by decide)⟩
  · show Steps p.tables e below (s₁.setTop (mkF m 0 #[.val (.int p0), .val (.int p1), .val (.int p2), .val (.int p3), .unset, .unset, .unset, .unset, .unset, .unset, .unset, .unset] [])) _
    refine XS.iloadN X0.here hx rfl (hb hby at_0) rfl ?_
    show Steps p.tables e below (s₁.setTop (mkF m 1 #[.val (.int p0), .val (.int p1), .val (.int p2), .val (.int p3), .unset, .unset, .unset, .unset, .unset, .unset, .unset, .unset] [(.int p0)])) _
    refine XS.iconst X0.here hx rfl (hb hby at_1) ?_
    show Steps p.tables e below (s₁.setTop (mkF m 2 #[.val (.int p0), .val (.int p1), .val (.int p2), .val (.int p3), .unset, .unset, .unset, .unset, .unset, .unset, .unset, .unset] [(.int (3 : Int32)), (.int p0)])) _
    refine XS.iand X0.here hx rfl (hb hby at_2) rfl ?_
    show Steps p.tables e below (s₁.setTop (mkF m 3 #[.val (.int p0), .val (.int p1), .val (.int p2), .val (.int p3), .unset, .unset, .unset, .unset, .unset, .unset, .unset, .unset] [(.int (p0 &&& (3 : Int32)))])) _
    rw [hi]
    show Steps p.tables e below (s₁.setTop (mkF m 3 #[.val (.int p0), .val (.int p1), .val (.int p2), .val (.int p3), .unset, .unset, .unset, .unset, .unset, .unset, .unset, .unset] [(.int (3 : Int32))])) _
    refine XS.istore X0.here hx rfl (hb hby at_3) rfl (l' := #[.val (.int p0), .val (.int p1), .val (.int p2), .val (.int p3), .val (.int (3 : Int32)), .unset, .unset, .unset, .unset, .unset, .unset, .unset]) rfl ?_
    show Steps p.tables e below (s₁.setTop (mkF m 5 #[.val (.int p0), .val (.int p1), .val (.int p2), .val (.int p3), .val (.int (3 : Int32)), .unset, .unset, .unset, .unset, .unset, .unset, .unset] [])) _
    refine XS.iconst X0.here hx rfl (hb hby at_5) ?_
    show Steps p.tables e below (s₁.setTop (mkF m 6 #[.val (.int p0), .val (.int p1), .val (.int p2), .val (.int p3), .val (.int (3 : Int32)), .unset, .unset, .unset, .unset, .unset, .unset, .unset] [(.int (1 : Int32))])) _
    refine st6 _ ?_
    show Steps p.tables e below (T6.setTop (mkF m 9 #[.val (.int p0), .val (.int p1), .val (.int p2), .val (.int p3), .val (.int (3 : Int32)), .unset, .unset, .unset, .unset, .unset, .unset, .unset] [(.ref b6)])) _
    refine XS.dup X6.here hx rfl (hb hby at_9) rfl rfl ?_
    show Steps p.tables e below (T6.setTop (mkF m 10 #[.val (.int p0), .val (.int p1), .val (.int p2), .val (.int p3), .val (.int (3 : Int32)), .unset, .unset, .unset, .unset, .unset, .unset, .unset] [(.ref b6), (.ref b6)])) _
    refine XS.iconst X6.here hx rfl (hb hby at_10) ?_
    show Steps p.tables e below (T6.setTop (mkF m 11 #[.val (.int p0), .val (.int p1), .val (.int p2), .val (.int p3), .val (.int (3 : Int32)), .unset, .unset, .unset, .unset, .unset, .unset, .unset] [(.int (0 : Int32)), (.ref b6), (.ref b6)])) _
    refine XS.iloadN X6.here hx rfl (hb hby at_11) rfl ?_
    show Steps p.tables e below (T6.setTop (mkF m 12 #[.val (.int p0), .val (.int p1), .val (.int p2), .val (.int p3), .val (.int (3 : Int32)), .unset, .unset, .unset, .unset, .unset, .unset, .unset] [(.int p2), (.int (0 : Int32)), (.ref b6), (.ref b6)])) _
    refine st12 _ ?_
    show Steps p.tables e below (T12.setTop (mkF m 15 #[.val (.int p0), .val (.int p1), .val (.int p2), .val (.int p3), .val (.int (3 : Int32)), .unset, .unset, .unset, .unset, .unset, .unset, .unset] [(.ref b12), (.int (0 : Int32)), (.ref b6), (.ref b6)])) _
    refine st15 _ ?_
    show Steps p.tables e below (T15.setTop (mkF m 16 #[.val (.int p0), .val (.int p1), .val (.int p2), .val (.int p3), .val (.int (3 : Int32)), .unset, .unset, .unset, .unset, .unset, .unset, .unset] [(.ref b6)])) _
    refine XS.astore X15.here hx rfl (hb hby at_16) rfl rfl (l' := #[.val (.int p0), .val (.int p1), .val (.int p2), .val (.int p3), .val (.int (3 : Int32)), .val (.ref b6), .unset, .unset, .unset, .unset, .unset, .unset]) rfl ?_
    show Steps p.tables e below (T15.setTop (mkF m 18 #[.val (.int p0), .val (.int p1), .val (.int p2), .val (.int p3), .val (.int (3 : Int32)), .val (.ref b6), .unset, .unset, .unset, .unset, .unset, .unset] [])) _
    refine XS.iconst X15.here hx rfl (hb hby at_18) ?_
    show Steps p.tables e below (T15.setTop (mkF m 19 #[.val (.int p0), .val (.int p1), .val (.int p2), .val (.int p3), .val (.int (3 : Int32)), .val (.ref b6), .unset, .unset, .unset, .unset, .unset, .unset] [(.int (1 : Int32))])) _
    refine st19 _ ?_
    show Steps p.tables e below (T19.setTop (mkF m 22 #[.val (.int p0), .val (.int p1), .val (.int p2), .val (.int p3), .val (.int (3 : Int32)), .val (.ref b6), .unset, .unset, .unset, .unset, .unset, .unset] [(.ref b19)])) _
    refine XS.dup X19.here hx rfl (hb hby at_22) rfl rfl ?_
    show Steps p.tables e below (T19.setTop (mkF m 23 #[.val (.int p0), .val (.int p1), .val (.int p2), .val (.int p3), .val (.int (3 : Int32)), .val (.ref b6), .unset, .unset, .unset, .unset, .unset, .unset] [(.ref b19), (.ref b19)])) _
    refine XS.iconst X19.here hx rfl (hb hby at_23) ?_
    show Steps p.tables e below (T19.setTop (mkF m 24 #[.val (.int p0), .val (.int p1), .val (.int p2), .val (.int p3), .val (.int (3 : Int32)), .val (.ref b6), .unset, .unset, .unset, .unset, .unset, .unset] [(.int (0 : Int32)), (.ref b19), (.ref b19)])) _
    refine XS.iloadN X19.here hx rfl (hb hby at_24) rfl ?_
    show Steps p.tables e below (T19.setTop (mkF m 25 #[.val (.int p0), .val (.int p1), .val (.int p2), .val (.int p3), .val (.int (3 : Int32)), .val (.ref b6), .unset, .unset, .unset, .unset, .unset, .unset] [(.int p3), (.int (0 : Int32)), (.ref b19), (.ref b19)])) _
    refine st25 _ ?_
    show Steps p.tables e below (T25.setTop (mkF m 28 #[.val (.int p0), .val (.int p1), .val (.int p2), .val (.int p3), .val (.int (3 : Int32)), .val (.ref b6), .unset, .unset, .unset, .unset, .unset, .unset] [(.ref b25), (.int (0 : Int32)), (.ref b19), (.ref b19)])) _
    refine st28 _ ?_
    show Steps p.tables e below (T28.setTop (mkF m 29 #[.val (.int p0), .val (.int p1), .val (.int p2), .val (.int p3), .val (.int (3 : Int32)), .val (.ref b6), .unset, .unset, .unset, .unset, .unset, .unset] [(.ref b19)])) _
    refine XS.astore X28.here hx rfl (hb hby at_29) rfl rfl (l' := #[.val (.int p0), .val (.int p1), .val (.int p2), .val (.int p3), .val (.int (3 : Int32)), .val (.ref b6), .val (.ref b19), .unset, .unset, .unset, .unset, .unset]) rfl ?_
    show Steps p.tables e below (T28.setTop (mkF m 31 #[.val (.int p0), .val (.int p1), .val (.int p2), .val (.int p3), .val (.int (3 : Int32)), .val (.ref b6), .val (.ref b19), .unset, .unset, .unset, .unset, .unset] [])) _
    refine XS.iconst X28.here hx rfl (hb hby at_31) ?_
    show Steps p.tables e below (T28.setTop (mkF m 32 #[.val (.int p0), .val (.int p1), .val (.int p2), .val (.int p3), .val (.int (3 : Int32)), .val (.ref b6), .val (.ref b19), .unset, .unset, .unset, .unset, .unset] [(.int (0 : Int32))])) _
    refine st32 _ ?_
    show Steps p.tables e below (T32.setTop (mkF m 35 #[.val (.int p0), .val (.int p1), .val (.int p2), .val (.int p3), .val (.int (3 : Int32)), .val (.ref b6), .val (.ref b19), .unset, .unset, .unset, .unset, .unset] [(.ref b32)])) _
    refine XS.astore X32.here hx rfl (hb hby at_35) rfl rfl (l' := #[.val (.int p0), .val (.int p1), .val (.int p2), .val (.int p3), .val (.int (3 : Int32)), .val (.ref b6), .val (.ref b19), .val (.ref b32), .unset, .unset, .unset, .unset]) rfl ?_
    show Steps p.tables e below (T32.setTop (mkF m 37 #[.val (.int p0), .val (.int p1), .val (.int p2), .val (.int p3), .val (.int (3 : Int32)), .val (.ref b6), .val (.ref b19), .val (.ref b32), .unset, .unset, .unset, .unset] [])) _
    refine st37 _ ?_
    show Steps p.tables e below (T37.setTop (mkF m 40 #[.val (.int p0), .val (.int p1), .val (.int p2), .val (.int p3), .val (.int (3 : Int32)), .val (.ref b6), .val (.ref b19), .val (.ref b32), .unset, .unset, .unset, .unset] [(.ref b37)])) _
    refine XS.dup X37.here hx rfl (hb hby at_40) rfl rfl ?_
    show Steps p.tables e below (T37.setTop (mkF m 41 #[.val (.int p0), .val (.int p1), .val (.int p2), .val (.int p3), .val (.int (3 : Int32)), .val (.ref b6), .val (.ref b19), .val (.ref b32), .unset, .unset, .unset, .unset] [(.ref b37), (.ref b37)])) _
    refine st41.trans ?_
    show Steps p.tables e below (T41.setTop (mkF m 44 #[.val (.int p0), .val (.int p1), .val (.int p2), .val (.int p3), .val (.int (3 : Int32)), .val (.ref b6), .val (.ref b19), .val (.ref b32), .unset, .unset, .unset, .unset] [(.ref b37)])) _
    refine XS.astore X41.here hx rfl (hb hby at_44) rfl rfl (l' := #[.val (.int p0), .val (.int p1), .val (.int p2), .val (.int p3), .val (.int (3 : Int32)), .val (.ref b6), .val (.ref b19), .val (.ref b32), .val (.ref b37), .unset, .unset, .unset]) rfl ?_
    show Steps p.tables e below (T41.setTop (mkF m 46 #[.val (.int p0), .val (.int p1), .val (.int p2), .val (.int p3), .val (.int (3 : Int32)), .val (.ref b6), .val (.ref b19), .val (.ref b32), .val (.ref b37), .unset, .unset, .unset] [])) _
    refine XS.iload X41.here hx rfl (hb hby at_46) rfl ?_
    show Steps p.tables e below (T41.setTop (mkF m 48 #[.val (.int p0), .val (.int p1), .val (.int p2), .val (.int p3), .val (.int (3 : Int32)), .val (.ref b6), .val (.ref b19), .val (.ref b32), .val (.ref b37), .unset, .unset, .unset] [(.int (3 : Int32))])) _
    refine XS.iconst X41.here hx rfl (hb hby at_48) ?_
    show Steps p.tables e below (T41.setTop (mkF m 49 #[.val (.int p0), .val (.int p1), .val (.int p2), .val (.int p3), .val (.int (3 : Int32)), .val (.ref b6), .val (.ref b19), .val (.ref b32), .val (.ref b37), .unset, .unset, .unset] [(.int (1 : Int32)), (.int (3 : Int32))])) _
    refine XS.icmpNo X41.here hx rfl (hb hby at_49) rfl (flt (by decide : ¬ ((3 : Int32) < (1 : Int32)))).1 ?_
    show Steps p.tables e below (T41.setTop (mkF m 52 #[.val (.int p0), .val (.int p1), .val (.int p2), .val (.int p3), .val (.int (3 : Int32)), .val (.ref b6), .val (.ref b19), .val (.ref b32), .val (.ref b37), .unset, .unset, .unset] [])) _
    refine XS.aload X41.here hx rfl (hb hby at_52) rfl rfl ?_
    show Steps p.tables e below (T41.setTop (mkF m 54 #[.val (.int p0), .val (.int p1), .val (.int p2), .val (.int p3), .val (.int (3 : Int32)), .val (.ref b6), .val (.ref b19), .val (.ref b32), .val (.ref b37), .unset, .unset, .unset] [(.ref b37)])) _
    refine XS.aload X41.here hx rfl (hb hby at_54) rfl rfl ?_
    show Steps p.tables e below (T41.setTop (mkF m 56 #[.val (.int p0), .val (.int p1), .val (.int p2), .val (.int p3), .val (.int (3 : Int32)), .val (.ref b6), .val (.ref b19), .val (.ref b32), .val (.ref b37), .unset, .unset, .unset] [(.ref b6), (.ref b37)])) _
    refine st56.trans ?_
    show Steps p.tables e below (T56.setTop (mkF m 59 #[.val (.int p0), .val (.int p1), .val (.int p2), .val (.int p3), .val (.int (3 : Int32)), .val (.ref b6), .val (.ref b19), .val (.ref b32), .val (.ref b37), .unset, .unset, .unset] [(.int (1 : Int32))])) _
    refine XS.pop X56.here hx rfl (hb hby at_59) rfl rfl ?_
    show Steps p.tables e below (T56.setTop (mkF m 60 #[.val (.int p0), .val (.int p1), .val (.int p2), .val (.int p3), .val (.int (3 : Int32)), .val (.ref b6), .val (.ref b19), .val (.ref b32), .val (.ref b37), .unset, .unset, .unset] [])) _
    refine XS.iload X56.here hx rfl (hb hby at_60) rfl ?_
    show Steps p.tables e below (T56.setTop (mkF m 62 #[.val (.int p0), .val (.int p1), .val (.int p2), .val (.int p3), .val (.int (3 : Int32)), .val (.ref b6), .val (.ref b19), .val (.ref b32), .val (.ref b37), .unset, .unset, .unset] [(.int (3 : Int32))])) _
    refine XS.iconst X56.here hx rfl (hb hby at_62) ?_
    show Steps p.tables e below (T56.setTop (mkF m 63 #[.val (.int p0), .val (.int p1), .val (.int p2), .val (.int p3), .val (.int (3 : Int32)), .val (.ref b6), .val (.ref b19), .val (.ref b32), .val (.ref b37), .unset, .unset, .unset] [(.int (2 : Int32)), (.int (3 : Int32))])) _
    refine XS.icmpNo X56.here hx rfl (hb hby at_63) rfl (flt (by decide : ¬ ((3 : Int32) < (2 : Int32)))).1 ?_
    show Steps p.tables e below (T56.setTop (mkF m 66 #[.val (.int p0), .val (.int p1), .val (.int p2), .val (.int p3), .val (.int (3 : Int32)), .val (.ref b6), .val (.ref b19), .val (.ref b32), .val (.ref b37), .unset, .unset, .unset] [])) _
    refine XS.aload X56.here hx rfl (hb hby at_66) rfl rfl ?_
    show Steps p.tables e below (T56.setTop (mkF m 68 #[.val (.int p0), .val (.int p1), .val (.int p2), .val (.int p3), .val (.int (3 : Int32)), .val (.ref b6), .val (.ref b19), .val (.ref b32), .val (.ref b37), .unset, .unset, .unset] [(.ref b37)])) _
    refine XS.aload X56.here hx rfl (hb hby at_68) rfl rfl ?_
    show Steps p.tables e below (T56.setTop (mkF m 70 #[.val (.int p0), .val (.int p1), .val (.int p2), .val (.int p3), .val (.int (3 : Int32)), .val (.ref b6), .val (.ref b19), .val (.ref b32), .val (.ref b37), .unset, .unset, .unset] [(.ref b19), (.ref b37)])) _
    refine st70.trans ?_
    show Steps p.tables e below (T70.setTop (mkF m 73 #[.val (.int p0), .val (.int p1), .val (.int p2), .val (.int p3), .val (.int (3 : Int32)), .val (.ref b6), .val (.ref b19), .val (.ref b32), .val (.ref b37), .unset, .unset, .unset] [(.int (1 : Int32))])) _
    refine XS.pop X70.here hx rfl (hb hby at_73) rfl rfl ?_
    show Steps p.tables e below (T70.setTop (mkF m 74 #[.val (.int p0), .val (.int p1), .val (.int p2), .val (.int p3), .val (.int (3 : Int32)), .val (.ref b6), .val (.ref b19), .val (.ref b32), .val (.ref b37), .unset, .unset, .unset] [])) _
    refine XS.iload X70.here hx rfl (hb hby at_74) rfl ?_
    show Steps p.tables e below (T70.setTop (mkF m 76 #[.val (.int p0), .val (.int p1), .val (.int p2), .val (.int p3), .val (.int (3 : Int32)), .val (.ref b6), .val (.ref b19), .val (.ref b32), .val (.ref b37), .unset, .unset, .unset] [(.int (3 : Int32))])) _
    refine XS.iconst X70.here hx rfl (hb hby at_76) ?_
    show Steps p.tables e below (T70.setTop (mkF m 77 #[.val (.int p0), .val (.int p1), .val (.int p2), .val (.int p3), .val (.int (3 : Int32)), .val (.ref b6), .val (.ref b19), .val (.ref b32), .val (.ref b37), .unset, .unset, .unset] [(.int (3 : Int32)), (.int (3 : Int32))])) _
    refine XS.icmpNo X70.here hx rfl (hb hby at_77) rfl (flt (by decide : ¬ ((3 : Int32) < (3 : Int32)))).1 ?_
    show Steps p.tables e below (T70.setTop (mkF m 80 #[.val (.int p0), .val (.int p1), .val (.int p2), .val (.int p3), .val (.int (3 : Int32)), .val (.ref b6), .val (.ref b19), .val (.ref b32), .val (.ref b37), .unset, .unset, .unset] [])) _
    refine XS.aload X70.here hx rfl (hb hby at_80) rfl rfl ?_
    show Steps p.tables e below (T70.setTop (mkF m 82 #[.val (.int p0), .val (.int p1), .val (.int p2), .val (.int p3), .val (.int (3 : Int32)), .val (.ref b6), .val (.ref b19), .val (.ref b32), .val (.ref b37), .unset, .unset, .unset] [(.ref b37)])) _
    refine XS.aload X70.here hx rfl (hb hby at_82) rfl rfl ?_
    show Steps p.tables e below (T70.setTop (mkF m 84 #[.val (.int p0), .val (.int p1), .val (.int p2), .val (.int p3), .val (.int (3 : Int32)), .val (.ref b6), .val (.ref b19), .val (.ref b32), .val (.ref b37), .unset, .unset, .unset] [(.ref b32), (.ref b37)])) _
    refine st84.trans ?_
    show Steps p.tables e below (T84.setTop (mkF m 87 #[.val (.int p0), .val (.int p1), .val (.int p2), .val (.int p3), .val (.int (3 : Int32)), .val (.ref b6), .val (.ref b19), .val (.ref b32), .val (.ref b37), .unset, .unset, .unset] [(.int (1 : Int32))])) _
    refine XS.pop X84.here hx rfl (hb hby at_87) rfl rfl ?_
    show Steps p.tables e below (T84.setTop (mkF m 88 #[.val (.int p0), .val (.int p1), .val (.int p2), .val (.int p3), .val (.int (3 : Int32)), .val (.ref b6), .val (.ref b19), .val (.ref b32), .val (.ref b37), .unset, .unset, .unset] [])) _
    refine st88 _ ?_
    show Steps p.tables e below (T88.setTop (mkF m 91 #[.val (.int p0), .val (.int p1), .val (.int p2), .val (.int p3), .val (.int (3 : Int32)), .val (.ref b6), .val (.ref b19), .val (.ref b32), .val (.ref b37), .unset, .unset, .unset] [(.ref b88)])) _
    refine XS.dup X88.here hx rfl (hb hby at_91) rfl rfl ?_
    show Steps p.tables e below (T88.setTop (mkF m 92 #[.val (.int p0), .val (.int p1), .val (.int p2), .val (.int p3), .val (.int (3 : Int32)), .val (.ref b6), .val (.ref b19), .val (.ref b32), .val (.ref b37), .unset, .unset, .unset] [(.ref b88), (.ref b88)])) _
    refine XS.aload X88.here hx rfl (hb hby at_92) rfl rfl ?_
    show Steps p.tables e below (T88.setTop (mkF m 94 #[.val (.int p0), .val (.int p1), .val (.int p2), .val (.int p3), .val (.int (3 : Int32)), .val (.ref b6), .val (.ref b19), .val (.ref b32), .val (.ref b37), .unset, .unset, .unset] [(.ref b37), (.ref b88), (.ref b88)])) _
    refine XS.iloadN X88.here hx rfl (hb hby at_94) rfl ?_
    show Steps p.tables e below (T88.setTop (mkF m 95 #[.val (.int p0), .val (.int p1), .val (.int p2), .val (.int p3), .val (.int (3 : Int32)), .val (.ref b6), .val (.ref b19), .val (.ref b32), .val (.ref b37), .unset, .unset, .unset] [(.int p1), (.ref b37), (.ref b88), (.ref b88)])) _
    refine st95.trans ?_
    show Steps p.tables e below (T95.setTop (mkF m 98 #[.val (.int p0), .val (.int p1), .val (.int p2), .val (.int p3), .val (.int (3 : Int32)), .val (.ref b6), .val (.ref b19), .val (.ref b32), .val (.ref b37), .unset, .unset, .unset] [(.ref b88)])) _
    refine XS.astore X95.here hx rfl (hb hby at_98) rfl rfl (l' := #[.val (.int p0), .val (.int p1), .val (.int p2), .val (.int p3), .val (.int (3 : Int32)), .val (.ref b6), .val (.ref b19), .val (.ref b32), .val (.ref b37), .val (.ref b88), .unset, .unset]) rfl ?_
    show Steps p.tables e below (T95.setTop (mkF m 100 #[.val (.int p0), .val (.int p1), .val (.int p2), .val (.int p3), .val (.int (3 : Int32)), .val (.ref b6), .val (.ref b19), .val (.ref b32), .val (.ref b37), .val (.ref b88), .unset, .unset] [])) _
    refine XS.aload X95.here hx rfl (hb hby at_100) rfl rfl ?_
    show Steps p.tables e below (T95.setTop (mkF m 102 #[.val (.int p0), .val (.int p1), .val (.int p2), .val (.int p3), .val (.int (3 : Int32)), .val (.ref b6), .val (.ref b19), .val (.ref b32), .val (.ref b37), .val (.ref b88), .unset, .unset] [(.ref b88)])) _
    refine st102.trans ?_
    show Steps p.tables e below (T102.setTop (mkF m 105 #[.val (.int p0), .val (.int p1), .val (.int p2), .val (.int p3), .val (.int (3 : Int32)), .val (.ref b6), .val (.ref b19), .val (.ref b32), .val (.ref b37), .val (.ref b88), .unset, .unset] [(.ref b6)])) _
    refine XS.astore X102.here hx rfl (hb hby at_105) rfl rfl (l' := #[.val (.int p0), .val (.int p1), .val (.int p2), .val (.int p3), .val (.int (3 : Int32)), .val (.ref b6), .val (.ref b19), .val (.ref b32), .val (.ref b37), .val (.ref b88), .val (.ref b6), .unset]) rfl ?_
    show Steps p.tables e below (T102.setTop (mkF m 107 #[.val (.int p0), .val (.int p1), .val (.int p2), .val (.int p3), .val (.int (3 : Int32)), .val (.ref b6), .val (.ref b19), .val (.ref b32), .val (.ref b37), .val (.ref b88), .val (.ref b6), .unset] [])) _
    refine XS.iload X102.here hx rfl (hb hby at_107) rfl ?_
    show Steps p.tables e below (T102.setTop (mkF m 109 #[.val (.int p0), .val (.int p1), .val (.int p2), .val (.int p3), .val (.int (3 : Int32)), .val (.ref b6), .val (.ref b19), .val (.ref b32), .val (.ref b37), .val (.ref b88), .val (.ref b6), .unset] [(.int (3 : Int32))])) _
    refine XS.ifYes X102.here hx rfl (pc0 := 109) (pc' := 127) rfl (hb hby at_109) rfl ((if0 _ _).trans (feq (by decide : ¬ ((3 : Int32) = (0 : Int32)))).2) (by decide) (by decide) ?_
    show Steps p.tables e below (T102.setTop (mkF m 127 #[.val (.int p0), .val (.int p1), .val (.int p2), .val (.int p3), .val (.int (3 : Int32)), .val (.ref b6), .val (.ref b19), .val (.ref b32), .val (.ref b37), .val (.ref b88), .val (.ref b6), .unset] [])) _
    refine XS.aload X102.here hx rfl (hb hby at_127) rfl rfl ?_
    show Steps p.tables e below (T102.setTop (mkF m 129 #[.val (.int p0), .val (.int p1), .val (.int p2), .val (.int p3), .val (.int (3 : Int32)), .val (.ref b6), .val (.ref b19), .val (.ref b32), .val (.ref b37), .val (.ref b88), .val (.ref b6), .unset] [(.ref b6)])) _
    refine XS.aload X102.here hx rfl (hb hby at_129) rfl rfl ?_
    show Steps p.tables e below (T102.setTop (mkF m 131 #[.val (.int p0), .val (.int p1), .val (.int p2), .val (.int p3), .val (.int (3 : Int32)), .val (.ref b6), .val (.ref b19), .val (.ref b32), .val (.ref b37), .val (.ref b88), .val (.ref b6), .unset] [(.ref b6), (.ref b6)])) _
    refine Jvm.RoadKit.acmp (g := (mkF m 131 #[.val (.int p0), .val (.int p1), .val (.int p2), .val (.int p3), .val (.int (3 : Int32)), .val (.ref b6), .val (.ref b19), .val (.ref b32), .val (.ref b37), .val (.ref b88), .val (.ref b6), .unset] [(.ref b6), (.ref b6)])) X102 hx rfl rfl rfl (pc0 := 131) (pc' := 134) (same := true) rfl (hb hby at_131) rfl (decide_eq_true rfl) (by decide) (by decide) ?_
    show Steps p.tables e below (T102.setTop (mkF m 134 #[.val (.int p0), .val (.int p1), .val (.int p2), .val (.int p3), .val (.int (3 : Int32)), .val (.ref b6), .val (.ref b19), .val (.ref b32), .val (.ref b37), .val (.ref b88), .val (.ref b6), .unset] [])) _
    refine XS.aload X102.here hx rfl (hb hby at_134) rfl rfl ?_
    show Steps p.tables e below (T102.setTop (mkF m 136 #[.val (.int p0), .val (.int p1), .val (.int p2), .val (.int p3), .val (.int (3 : Int32)), .val (.ref b6), .val (.ref b19), .val (.ref b32), .val (.ref b37), .val (.ref b88), .val (.ref b6), .unset] [(.ref b6)])) _
    refine X102.arraylength hx (by exact Ar136.1) (State.isArrayOf_alike hZ.alike Ar136.2.1) (g := (mkF m 136 #[.val (.int p0), .val (.int p1), .val (.int p2), .val (.int p3), .val (.int (3 : Int32)), .val (.ref b6), .val (.ref b19), .val (.ref b32), .val (.ref b37), .val (.ref b88), .val (.ref b6), .unset] [(.ref b6)])) rfl rfl (hb hby at_136) _ ?_
    rw [len_of Sz136 NN136]
    show Steps p.tables e below (T102.setTop (mkF m 137 #[.val (.int p0), .val (.int p1), .val (.int p2), .val (.int p3), .val (.int (3 : Int32)), .val (.ref b6), .val (.ref b19), .val (.ref b32), .val (.ref b37), .val (.ref b88), .val (.ref b6), .unset] [(.int (1 : Int32))])) _
    refine XS.iconst X102.here hx rfl (hb hby at_137) ?_
    show Steps p.tables e below (T102.setTop (mkF m 138 #[.val (.int p0), .val (.int p1), .val (.int p2), .val (.int p3), .val (.int (3 : Int32)), .val (.ref b6), .val (.ref b19), .val (.ref b32), .val (.ref b37), .val (.ref b88), .val (.ref b6), .unset] [(.int (1 : Int32)), (.int (1 : Int32))])) _
    refine XS.icmpNo X102.here hx rfl (hb hby at_138) rfl (teq (by decide : (1 : Int32) = (1 : Int32))).2 ?_
    show Steps p.tables e below (T102.setTop (mkF m 141 #[.val (.int p0), .val (.int p1), .val (.int p2), .val (.int p3), .val (.int (3 : Int32)), .val (.ref b6), .val (.ref b19), .val (.ref b32), .val (.ref b37), .val (.ref b88), .val (.ref b6), .unset] [])) _
    refine XS.aload X102.here hx rfl (hb hby at_141) rfl rfl ?_
    show Steps p.tables e below (T102.setTop (mkF m 143 #[.val (.int p0), .val (.int p1), .val (.int p2), .val (.int p3), .val (.int (3 : Int32)), .val (.ref b6), .val (.ref b19), .val (.ref b32), .val (.ref b37), .val (.ref b88), .val (.ref b6), .unset] [(.ref b6)])) _
    refine XS.iconst X102.here hx rfl (hb hby at_143) ?_
    show Steps p.tables e below (T102.setTop (mkF m 144 #[.val (.int p0), .val (.int p1), .val (.int p2), .val (.int p3), .val (.int (3 : Int32)), .val (.ref b6), .val (.ref b19), .val (.ref b32), .val (.ref b37), .val (.ref b88), .val (.ref b6), .unset] [(.int (0 : Int32)), (.ref b6)])) _
    refine X102.aaload hx (j := (0 : Int32)) (v := (.ref b12)) (by exact Ar144.1) (State.isArrayOf_alike hZ.alike Ar144.2.1) rfl Ar144.2.2 hin144 f99 (g := (mkF m 144 #[.val (.int p0), .val (.int p1), .val (.int p2), .val (.int p3), .val (.int (3 : Int32)), .val (.ref b6), .val (.ref b19), .val (.ref b32), .val (.ref b37), .val (.ref b88), .val (.ref b6), .unset] [(.int (0 : Int32)), (.ref b6)])) rfl rfl (hb hby at_144) _ ?_
    show Steps p.tables e below (T102.setTop (mkF m 145 #[.val (.int p0), .val (.int p1), .val (.int p2), .val (.int p3), .val (.int (3 : Int32)), .val (.ref b6), .val (.ref b19), .val (.ref b32), .val (.ref b37), .val (.ref b88), .val (.ref b6), .unset] [(.ref b12)])) _
    refine st145 _ ?_
    show Steps p.tables e below (T145.setTop (mkF m 148 #[.val (.int p0), .val (.int p1), .val (.int p2), .val (.int p3), .val (.int (3 : Int32)), .val (.ref b6), .val (.ref b19), .val (.ref b32), .val (.ref b37), .val (.ref b88), .val (.ref b6), .unset] [(.ref b12)])) _
    refine st148.trans ?_
    show Steps p.tables e below (T148.setTop (mkF m 151 #[.val (.int p0), .val (.int p1), .val (.int p2), .val (.int p3), .val (.int (3 : Int32)), .val (.ref b6), .val (.ref b19), .val (.ref b32), .val (.ref b37), .val (.ref b88), .val (.ref b6), .unset] [(.int p2)])) _
    refine XS.iloadN X148.here hx rfl (hb hby at_151) rfl ?_
    show Steps p.tables e below (T148.setTop (mkF m 152 #[.val (.int p0), .val (.int p1), .val (.int p2), .val (.int p3), .val (.int (3 : Int32)), .val (.ref b6), .val (.ref b19), .val (.ref b32), .val (.ref b37), .val (.ref b88), .val (.ref b6), .unset] [(.int p2), (.int p2)])) _
    refine XS.icmpNo X148.here hx rfl (hb hby at_152) rfl (teq (rfl : p2 = p2)).2 ?_
    show Steps p.tables e below (T148.setTop (mkF m 155 #[.val (.int p0), .val (.int p1), .val (.int p2), .val (.int p3), .val (.int (3 : Int32)), .val (.ref b6), .val (.ref b19), .val (.ref b32), .val (.ref b37), .val (.ref b88), .val (.ref b6), .unset] [])) _
    refine XS.iconst X148.here hx rfl (hb hby at_155) ?_
    show Steps p.tables e below (T148.setTop (mkF m 156 #[.val (.int p0), .val (.int p1), .val (.int p2), .val (.int p3), .val (.int (3 : Int32)), .val (.ref b6), .val (.ref b19), .val (.ref b32), .val (.ref b37), .val (.ref b88), .val (.ref b6), .unset] [(.int (1 : Int32))])) _
    refine XS.goto X148.here hx rfl (pc0 := 156) (pc' := 160) rfl (hb hby at_156) (by decide) (by decide) ?_
    show Steps p.tables e below (T148.setTop (mkF m 160 #[.val (.int p0), .val (.int p1), .val (.int p2), .val (.int p3), .val (.int (3 : Int32)), .val (.ref b6), .val (.ref b19), .val (.ref b32), .val (.ref b37), .val (.ref b88), .val (.ref b6), .unset] [(.int (1 : Int32))])) _
    refine XS.istore X148.here hx rfl (hb hby at_160) rfl (l' := #[.val (.int p0), .val (.int p1), .val (.int p2), .val (.int p3), .val (.int (3 : Int32)), .val (.ref b6), .val (.ref b19), .val (.ref b32), .val (.ref b37), .val (.ref b88), .val (.ref b6), .val (.int (1 : Int32))]) rfl ?_
    show Steps p.tables e below (T148.setTop (mkF m 162 #[.val (.int p0), .val (.int p1), .val (.int p2), .val (.int p3), .val (.int (3 : Int32)), .val (.ref b6), .val (.ref b19), .val (.ref b32), .val (.ref b37), .val (.ref b88), .val (.ref b6), .val (.int (1 : Int32))] [])) _
    refine XS.iload X148.here hx rfl (hb hby at_162) rfl ?_
    show Steps p.tables e below (T148.setTop (mkF m 164 #[.val (.int p0), .val (.int p1), .val (.int p2), .val (.int p3), .val (.int (3 : Int32)), .val (.ref b6), .val (.ref b19), .val (.ref b32), .val (.ref b37), .val (.ref b88), .val (.ref b6), .val (.int (1 : Int32))] [(.int (1 : Int32))])) _
    refine XS.ifNo X148.here hx rfl (hb hby at_164) rfl ((if0 _ _).trans (feq (by decide : ¬ ((1 : Int32) = (0 : Int32)))).1) ?_
    show Steps p.tables e below (T148.setTop (mkF m 167 #[.val (.int p0), .val (.int p1), .val (.int p2), .val (.int p3), .val (.int (3 : Int32)), .val (.ref b6), .val (.ref b19), .val (.ref b32), .val (.ref b37), .val (.ref b88), .val (.ref b6), .val (.int (1 : Int32))] [])) _
    refine XS.aload X148.here hx rfl (hb hby at_167) rfl rfl ?_
    show Steps p.tables e below (T148.setTop (mkF m 169 #[.val (.int p0), .val (.int p1), .val (.int p2), .val (.int p3), .val (.int (3 : Int32)), .val (.ref b6), .val (.ref b19), .val (.ref b32), .val (.ref b37), .val (.ref b88), .val (.ref b6), .val (.int (1 : Int32))] [(.ref b88)])) _
    refine st169.trans ?_
    show Steps p.tables e below (T169.setTop (mkF m 172 #[.val (.int p0), .val (.int p1), .val (.int p2), .val (.int p3), .val (.int (3 : Int32)), .val (.ref b6), .val (.ref b19), .val (.ref b32), .val (.ref b37), .val (.ref b88), .val (.ref b6), .val (.int (1 : Int32))] [(.ref b37)])) _
    refine st172.trans ?_
    show Steps p.tables e below (T172.setTop (mkF m 177 #[.val (.int p0), .val (.int p1), .val (.int p2), .val (.int p3), .val (.int (3 : Int32)), .val (.ref b6), .val (.ref b19), .val (.ref b32), .val (.ref b37), .val (.ref b88), .val (.ref b6), .val (.int (1 : Int32))] [(.int (3 : Int32))])) _
    refine XS.iload X172.here hx rfl (hb hby at_177) rfl ?_
    show Steps p.tables e below (T172.setTop (mkF m 179 #[.val (.int p0), .val (.int p1), .val (.int p2), .val (.int p3), .val (.int (3 : Int32)), .val (.ref b6), .val (.ref b19), .val (.ref b32), .val (.ref b37), .val (.ref b88), .val (.ref b6), .val (.int (1 : Int32))] [(.int (3 : Int32)), (.int (3 : Int32))])) _
    refine XS.icmpNo X172.here hx rfl (hb hby at_179) rfl (teq (by decide : (3 : Int32) = (3 : Int32))).2 ?_
    show Steps p.tables e below (T172.setTop (mkF m 182 #[.val (.int p0), .val (.int p1), .val (.int p2), .val (.int p3), .val (.int (3 : Int32)), .val (.ref b6), .val (.ref b19), .val (.ref b32), .val (.ref b37), .val (.ref b88), .val (.ref b6), .val (.int (1 : Int32))] [])) _
    refine XS.aload X172.here hx rfl (hb hby at_182) rfl rfl ?_
    show Steps p.tables e below (T172.setTop (mkF m 184 #[.val (.int p0), .val (.int p1), .val (.int p2), .val (.int p3), .val (.int (3 : Int32)), .val (.ref b6), .val (.ref b19), .val (.ref b32), .val (.ref b37), .val (.ref b88), .val (.ref b6), .val (.int (1 : Int32))] [(.ref b88)])) _
    refine st184.trans ?_
    show Steps p.tables e below (T184.setTop (mkF m 187 #[.val (.int p0), .val (.int p1), .val (.int p2), .val (.int p3), .val (.int (3 : Int32)), .val (.ref b6), .val (.ref b19), .val (.ref b32), .val (.ref b37), .val (.ref b88), .val (.ref b6), .val (.int (1 : Int32))] [(.int p1)])) _
    refine XS.iloadN X184.here hx rfl (hb hby at_187) rfl ?_
    show Steps p.tables e below (T184.setTop (mkF m 188 #[.val (.int p0), .val (.int p1), .val (.int p2), .val (.int p3), .val (.int (3 : Int32)), .val (.ref b6), .val (.ref b19), .val (.ref b32), .val (.ref b37), .val (.ref b88), .val (.ref b6), .val (.int (1 : Int32))] [(.int p1), (.int p1)])) _
    refine XS.icmpNo X184.here hx rfl (hb hby at_188) rfl (teq (rfl : p1 = p1)).2 ?_
    show Steps p.tables e below (T184.setTop (mkF m 191 #[.val (.int p0), .val (.int p1), .val (.int p2), .val (.int p3), .val (.int (3 : Int32)), .val (.ref b6), .val (.ref b19), .val (.ref b32), .val (.ref b37), .val (.ref b88), .val (.ref b6), .val (.int (1 : Int32))] [])) _
    refine XS.iconst X184.here hx rfl (hb hby at_191) ?_
    show Steps p.tables e below (T184.setTop (mkF m 192 #[.val (.int p0), .val (.int p1), .val (.int p2), .val (.int p3), .val (.int (3 : Int32)), .val (.ref b6), .val (.ref b19), .val (.ref b32), .val (.ref b37), .val (.ref b88), .val (.ref b6), .val (.int (1 : Int32))] [(.int (1 : Int32))])) _
    refine XS.goto X184.here hx rfl (pc0 := 192) (pc' := 196) rfl (hb hby at_192) (by decide) (by decide) ?_
    show Steps p.tables e below (T184.setTop (mkF m 196 #[.val (.int p0), .val (.int p1), .val (.int p2), .val (.int p3), .val (.int (3 : Int32)), .val (.ref b6), .val (.ref b19), .val (.ref b32), .val (.ref b37), .val (.ref b88), .val (.ref b6), .val (.int (1 : Int32))] [(.int (1 : Int32))])) _
    exact retN X184 hx (t := .boolean) Bd.returns (by simp) (hb hby at_196) hr
  · show Q_law Z p0 p1 p2 p3 cc cl de kde h0 n0 _ T184.heap _
    exact ⟨rfl, N184, f149⟩
theorem own_and3 (x : Int32) : (x &&& (3 : Int32)) = 0 ∨ (x &&& (3 : Int32)) = 1 ∨ (x &&& (3 : Int32)) = 2 ∨ (x &&& (3 : Int32)) = 3 := by
  have e := c_mask x 3 2 (by decide) rfl
  have k : ∀ j : Int32, (x &&& (3 : Int32)).toInt = j.toInt → (x &&& (3 : Int32)) = j := fun j u => Int32.toInt_inj.mp u
  by_cases h0 : (x &&& (3 : Int32)).toInt = 0
  · exact Or.inl (k 0 h0)
  by_cases h1 : (x &&& (3 : Int32)).toInt = 1
  · exact Or.inr (Or.inl (k 1 h1))
  by_cases h2 : (x &&& (3 : Int32)).toInt = 2
  · exact Or.inr (Or.inr (Or.inl (k 2 h2)))
  by_cases h3 : (x &&& (3 : Int32)).toInt = 3
  · exact Or.inr (Or.inr (Or.inr (k 3 h3)))
  omega
theorem rm_law (l : Launch) (Z : State) (a0 : Array Value) (hw : ∀ d ∈ tables_1, d.before a0 Z = true) (ws : List Jvm.Cond) (p0 : Int32) (p1 : Int32) (p2 : Int32) (p3 : Int32) (cc : Addr) (cl : Cell) (de : Addr) (kde : ClassId) (h0 : Heap) (n0 : Nat) (O0 : Old Z n0 h0) (S_high : Sta Z Z.heap "java/lang/Integer$IntegerCache" "high" "I" (.int (127 : Int32))) (S_cache : Sta Z Z.heap "java/lang/Integer$IntegerCache" "cache" "[Ljava/lang/Integer;" (.ref cc)) (B_cache : Bxs Z cc cl "java/lang/Integer" "I" (256 : Int32) (fun j => .int (j - 128))) (S_D : Sta Z Z.heap "java/util/ArrayList" "DEFAULTCAPACITY_EMPTY_ELEMENTDATA" "[Ljava/lang/Object;" (.ref de)) (V_D : Arv Z Z.heap de kde (.object "java/lang/Object") (0 : Int32) [] .null) :
    MetFree l x (head1 (Jvm.Cond.code x code maxLocals ret :: ws) room_1) (fun as' U => as' = #[(.int p0), (.int p1), (.int p2), (.int p3)] ∧ Z.Warmed39 U.vm ∧ U.heap = h0) (fun _ _ _ _ _ => True) (fun _ U o U' => ∃ v L, o = .returned v ∧ Q_law Z p0 p1 p2 p3 cc cl de kde h0 n0 v U'.heap L ∧ FrameEnd U o U' L room_1.cells room_1.slots) := by
  rcases own_and3 p0 with h | h | h | h
  · exact rm_law_0 l Z a0 hw ws p0 p1 p2 p3 cc cl de kde h0 n0 O0 S_high S_cache B_cache S_D V_D h
  · exact rm_law_1 l Z a0 hw ws p0 p1 p2 p3 cc cl de kde h0 n0 O0 S_high S_cache B_cache S_D V_D h
  · exact rm_law_2 l Z a0 hw ws p0 p1 p2 p3 cc cl de kde h0 n0 O0 S_high S_cache B_cache S_D V_D h
  · exact rm_law_3 l Z a0 hw ws p0 p1 p2 p3 cc cl de kde h0 n0 O0 S_high S_cache B_cache S_D V_D h
set_option maxRecDepth 65536 in
set_option maxHeartbeats 40000000 in
theorem comes_1 {Post : Tables → Env → Array Value → State → Outcome → State → Prop} (hpost : ∀ tb e args s v u, (limb_1_1.after args s (.returned v) u = true ∧ limb_1_2.after args s (.returned v) u = true ∧ True) → FrameEnd s (.returned v) u (Jvm.fieldLocs frame_1_writes args s ++ Jvm.arrayLocs frame_1_arrays args s ++ Jvm.staticLocs frame_1_statics s) 24 128 → Post tb e args s (.returned v) u) :
    ArmFor flags0 classFile x code maxLocals ret World_1 tables_1 room_1 Calls_1 rest_1 Pre_1 Post := by
  intro l hfl _ _ p e ha hc hk s m args below hf hA hF happ hP
  obtain ⟨hcalls, hrest, hpre⟩ := hP
  obtain ⟨-, -, -, hnamed, -, -, -, hat⟩ := (Spec.applies_iff hf).mp happ
  obtain ⟨hg, hn⟩ := and_e (Cond.before_iff.mp (show (Jvm.Cond.and given_1 narrow_1).before args s = true from hpre))
  obtain ⟨hcount, hgs0⟩ := and_e hg
  obtain ⟨ha0, hgs1⟩ := and_e hgs0
  obtain ⟨ha1, hgs2⟩ := and_e hgs1
  obtain ⟨ha2, hgs3⟩ := and_e hgs2
  have ha3 := hgs3
  obtain ⟨w0, w1, w2, w3, rfl⟩ : ∃ w0 w1 w2 w3 : Value, args = #[w0, w1, w2, w3] := by
    have hs : args.size = 4 := by simpa [Cond.value, given_1] using hcount
    obtain ⟨L⟩ := args
    match L, hs with
    | [w0, w1, w2, w3], _ => exact ⟨w0, w1, w2, w3, rfl⟩
  have hw := fun d (hd : d ∈ tables_1) => atoms_spec (ws := Jvm.Cond.code x code maxLocals ret :: tables_1) hat d (List.mem_cons_of_mem _ hd)
  have hfit : Fit s := fun {y c} hc i hi => by
    obtain ⟨ha, rfl⟩ := Array.getElem?_eq_some_iff.mp hc
    have q := List.all_eq_true.mp ((Array.all_eq_true_iff_forall_mem.mp hF) _ (Array.getElem_mem ha)) i (List.mem_range.mpr hi)
    simpa [Array.getElem?_eq_getElem hi] using q
  obtain ⟨hsets, hown0⟩ := atoms_of _ (rest_1_c_eq ▸ (show rest_1_c.before _ s = true from hrest))
  obtain ⟨i0, ei0⟩ := is_v ha0
  obtain rfl : w0 = (.int i0) := Option.some.inj ei0
  obtain ⟨i1, ei1⟩ := is_v ha1
  obtain rfl : w1 = (.int i1) := Option.some.inj ei1
  obtain ⟨i2, ei2⟩ := is_v ha2
  obtain rfl : w2 = (.int i2) := Option.some.inj ei2
  obtain ⟨i3, ei3⟩ := is_v ha3
  obtain rfl : w3 = (.int i3) := Option.some.inj ei3
  have c_hi := eqv_i (Term.int_eval _) (Cond.before_iff.mp (hsets _ (List.mem_of_getElem? (i := 3) rfl)))
  have S_high := Sta.start c_hi (Or.inr ⟨(w_7 hw), (hsets _ (List.mem_of_getElem? (i := 0) rfl))⟩)
  have c_ar := Cond.before_iff.mp (hsets _ (List.mem_of_getElem? (i := 4) rfl))
  obtain ⟨cc, c_cc⟩ := arr_v c_ar
  have S_cache := Sta.start c_cc (Or.inr ⟨(w_7 hw), (hsets _ (List.mem_of_getElem? (i := 2) rfl))⟩)
  obtain ⟨cl, A_cl⟩ := Arr.start c_cc c_ar
  have c_ln := eqv_i (Term.int_eval _) (Cond.before_iff.mp (hsets _ (List.mem_of_getElem? (i := 6) rfl)))
  have c_all := Cond.before_iff.mp (hsets _ (List.mem_of_getElem? (i := 7) rfl))
  have c_sz : cl.slots.size < 2 ^ 31 ∧ cl.slots.size.toInt32 = 256 := own_len A_cl c_cc c_ln
  have B_cache : Bxs s cc cl "java/lang/Integer" "I" (256 : Int32) (fun j => .int (j - 128)) := Bxs.start (fun idx => (own_static_idx idx).trans c_cc) A_cl c_sz.1 c_sz.2 (by decide) c_all (fun X j nn h => eqv_i (own_sub_at (idx_at nn)) h)
  have d_ar := Cond.before_iff.mp (hsets _ (List.mem_of_getElem? (i := 14) rfl))
  obtain ⟨de, d_de⟩ := arr_v d_ar
  have S_D := Sta.start d_de (Or.inr ⟨(w_12 hw), (hsets _ (List.mem_of_getElem? (i := 10) rfl))⟩)
  obtain ⟨cde, A_de⟩ := Arr.start d_de d_ar
  have d_ln := eqv_i (Term.int_eval _) (Cond.before_iff.mp (hsets _ (List.mem_of_getElem? (i := 16) rfl)))
  have d_sz := own_len A_de d_de d_ln
  have V_D : Arv s s.heap de cde.cls (.object "java/lang/Object") (0 : Int32) [] .null := Arv.start hfit A_de d_sz.1 d_sz.2 (by decide) rfl trivial
  obtain ⟨n, o, h1, h2, h3, _, L, rfl, ⟨rfl, N, -⟩, hq⟩ := rm_law l s _ hw tables_1 i0 i1 i2 i3 cc cl de cde.cls s.heap s.heap.size (Old.start s) S_high S_cache B_cache S_D V_D p e ha hc hk s m _ below hf ((Spec.applies_iff_loose hf).mp happ).1 ⟨rfl, State.Warmed39.refl s, rfl⟩ trivial
  refine ⟨n, _, h1, h2, h3, hpost _ _ _ _ _ _ ⟨Cond.after_iff.mpr rfl, Cond.after_iff.mpr (eq_i res_at (Term.int_eval (1)) rfl), trivial⟩ ⟨hq.1, hq.2.1, (hq.2.2.sift fun y hy => Or.inr (N y hy)).mono (by decide) (by decide)⟩⟩
theorem main_1_1 : Claimed_1_1 := comes_1 fun _ _ _ _ _ _ h hF => ⟨h.1, hF⟩
theorem main_1_2 : Claimed_1_2 := comes_1 fun _ _ _ _ _ _ h hF => ⟨h.2.1, hF⟩
end Jvm.Pilot.@@N@@
namespace Jvm.Pilot.@@N@@
open Jvm Jvm.ClassFile Sem Op Lib Jvm.Free Jvm.Stand Jvm.Pilot.@@N@@.Jvm.D
/-! MADE BY PROGRAM (witnessworld.py) out of the Statement's table words and the real class files: 29 classes; the members and pool entries that the words name. The judged class is class 1, her method 1. -/
namespace start1
open Jvm.ClassFile
def u (s : String) : CpInfo := .utf8 (stringToUtf16 s)
/-- a pool by its gaps: so many unusable entries, then the entry; so many at the end -/
def gap : Nat → List CpInfo → List CpInfo
  | 0, r => r
  | n + 1, r => .unusable :: gap n r
def poolList (es : List (Nat × CpInfo)) (last : Nat) : List CpInfo := es.foldr (fun e r => gap e.1 (e.2 :: r)) (gap last [])
def pool (es : List (Nat × CpInfo)) (last : Nat) : Array CpInfo := ⟨poolList es last⟩
def fileOf (pool : Array CpInfo) (this : Nat) (attrs : Array Attribute := #[]) (ms : Array MethodInfo := #[]) (fl : Nat := 33) (sup : Nat := 0) (ifs : Array Nat := #[]) (fds : Array FieldInfo := #[]) : ClassFile where
  minorVersion := 0
  majorVersion := 65
  constantPool := pool
  accessFlags := fl
  thisClass := this
  superClass := sup
  interfaces := ifs
  fields := fds
  methods := ms
  attributes := attrs
def plain (name : String) (sup : Option ClassId) : Class where
  name := name
  kind := .ordinary
  loader := none
  accessFlags := 33
  super := sup
  interfaces := #[]
  cf := none
  fields := #[]
  methods := #[]
  instanceTypes := #[]
  staticTypes := #[]
  resolved := #[]
  callSites := []
  init := .initialized
  statics := none
  mirror := none

def pool0 : Array CpInfo := pool [(5, u "<init>"), (0, u "()V"), (1, .class_ 10), (1, u "java/lang/Object")] 113

def k0c0 : Code := { maxStack := 0, maxLocals := 1, code := object_method_1_code, exceptionTable := #[], attributes := #[] }
def k0m0 : Method := { name := "<init>", desc := "()V", sig := { parameters := [], returnType := none }, accessFlags := 1, code := some k0c0 }
/-- java/lang/Object -/
def k0 : Class := { plain "java/lang/Object" none with
  accessFlags := 33
  interfaces := #[]
  cf := some (fileOf pool0 8 #[] #[{ accessFlags := 1, nameIndex := 5, descriptorIndex := 6, attributes := #[] }] 33 0 #[] #[])
  fields := #[]
  methods := #[k0m0]
  instanceTypes := #[]
  staticTypes := #[]
  resolved := Array.replicate 124 none
  statics := none }

def pool1 : Array CpInfo := pool [(2, .class_ 4), (0, .nameAndType 5 6), (0, u "java/lang/Object"), (0, u "<init>"), (0, u "()V"), (0, .methodref 8 9), (0, .class_ 10), (0, .nameAndType 11 12), (0, u "java/lang/Integer"), (0, u "valueOf"), (0, u "(I)Ljava/lang/Integer;"), (0, .class_ 14), (0, u "java/util/ArrayList"), (0, .methodref 13 3), (0, .methodref 13 17), (0, .nameAndType 18 19), (0, u "add"), (0, u "(Ljava/lang/Object;)Z"), (0, .class_ 21), (0, u "com/example/countinghouse/countinghouse/RoundTrip$Result"), (0, .methodref 20 23), (0, .nameAndType 5 24), (0, u "(Ljava/util/List;I)V"), (0, .methodref 20 26), (0, .nameAndType 27 28), (0, u "row"), (0, u "()[Ljava/lang/Object;"), (0, .methodref 8 30), (0, .nameAndType 31 32), (0, u "intValue"), (0, u "()I"), (0, .methodref 20 34), (0, .nameAndType 35 36), (0, u "rows"), (0, u "()Ljava/util/List;"), (0, .interfaceMethodref 38 39), (0, .class_ 40), (0, .nameAndType 41 32), (0, u "java/util/List"), (0, u "size"), (0, .methodref 20 43), (0, .nameAndType 44 32), (0, u "changed"), (0, .class_ 46), (0, u "com/example/countinghouse/countinghouse/ResultRowPinLaw"), (2, u "law"), (0, u "(IIII)Z")] 9

def k1m0 : Method := { name := "<init>", desc := "()V", sig := { parameters := [], returnType := none }, accessFlags := 1, code := none }
def k1c1 : Code := { maxStack := 4, maxLocals := 12, code := code, exceptionTable := #[], attributes := #[] }
def k1m1 : Method := { name := "law", desc := "(IIII)Z", sig := { parameters := [.int, .int, .int, .int], returnType := some .boolean }, accessFlags := 9, code := some k1c1 }
/-- com/example/countinghouse/countinghouse/ResultRowPinLaw -/
def k1 : Class := { plain "com/example/countinghouse/countinghouse/ResultRowPinLaw" (some 0) with
  accessFlags := 49
  interfaces := #[]
  cf := some (fileOf pool1 45 #[] #[{ accessFlags := 1, nameIndex := 5, descriptorIndex := 6, attributes := #[] }, { accessFlags := 9, nameIndex := 49, descriptorIndex := 50, attributes := #[] }] 49 2 #[] #[])
  fields := #[]
  methods := #[k1m0, k1m1]
  instanceTypes := #[]
  staticTypes := #[]
  resolved := Array.replicate 60 none
  statics := none }

def pool2 : Array CpInfo := pool [(1, .class_ 2), (0, u "java/io/Serializable"), (0, .class_ 4), (0, u "java/lang/Object")] 2

/-- java/io/Serializable -/
def k2 : Class := { plain "java/io/Serializable" (some 0) with
  accessFlags := 1537
  interfaces := #[]
  cf := some (fileOf pool2 1 #[] #[] 1537 3 #[] #[])
  fields := #[]
  methods := #[]
  instanceTypes := #[]
  staticTypes := #[]
  resolved := Array.replicate 7 none
  statics := none }

def pool3 : Array CpInfo := pool [(1, .methodref 2 3), (0, .class_ 4), (0, .nameAndType 5 6), (0, u "java/lang/Object"), (0, u "<init>"), (0, u "()V"), (1, .class_ 10), (1, u "java/lang/Number"), (2, .class_ 14), (0, u "java/io/Serializable"), (0, u "serialVersionUID"), (0, u "J")] 20

def k3c0 : Code := { maxStack := 1, maxLocals := 1, code := jdk_18_method_1_code, exceptionTable := #[], attributes := #[] }
def k3m0 : Method := { name := "<init>", desc := "()V", sig := { parameters := [], returnType := none }, accessFlags := 1, code := some k3c0 }
/-- java/lang/Number -/
def k3 : Class := { plain "java/lang/Number" (some 0) with
  accessFlags := 1057
  interfaces := #[2]
  cf := some (fileOf pool3 8 #[] #[{ accessFlags := 1, nameIndex := 5, descriptorIndex := 6, attributes := #[] }] 1057 2 #[13] #[{ accessFlags := 26, nameIndex := 15, descriptorIndex := 16, attributes := #[] }])
  fields := #[{ name := "serialVersionUID", type := .long, accessFlags := 26, slot := 0, constantValue := 0 }]
  methods := #[k3m0]
  instanceTypes := #[]
  staticTypes := #[.long]
  resolved := Array.replicate 37 none
  statics := none }

def pool4 : Array CpInfo := pool [(1, .class_ 2), (0, u "java/lang/Comparable"), (0, .class_ 4), (0, u "java/lang/Object")] 7

/-- java/lang/Comparable -/
def k4 : Class := { plain "java/lang/Comparable" (some 0) with
  accessFlags := 1537
  interfaces := #[]
  cf := some (fileOf pool4 1 #[] #[] 1537 3 #[] #[])
  fields := #[]
  methods := #[]
  instanceTypes := #[]
  staticTypes := #[]
  resolved := Array.replicate 12 none
  statics := none }

def pool5 : Array CpInfo := pool [(1, .class_ 2), (0, u "java/lang/constant/Constable"), (0, .class_ 4), (0, u "java/lang/Object")] 6

/-- java/lang/constant/Constable -/
def k5 : Class := { plain "java/lang/constant/Constable" (some 0) with
  accessFlags := 1537
  interfaces := #[]
  cf := some (fileOf pool5 1 #[] #[] 1537 3 #[] #[])
  fields := #[]
  methods := #[]
  instanceTypes := #[]
  staticTypes := #[]
  resolved := Array.replicate 11 none
  statics := none }

def pool6 : Array CpInfo := pool [(1, .class_ 2), (0, u "java/lang/constant/ConstantDesc"), (0, .class_ 4), (0, u "java/lang/Object")] 32

/-- java/lang/constant/ConstantDesc -/
def k6 : Class := { plain "java/lang/constant/ConstantDesc" (some 0) with
  accessFlags := 1537
  interfaces := #[]
  cf := some (fileOf pool6 1 #[] #[] 1537 3 #[] #[])
  fields := #[]
  methods := #[]
  instanceTypes := #[]
  staticTypes := #[]
  resolved := Array.replicate 37 none
  statics := none }

def pool7 : Array CpInfo := pool [(1, .class_ 2), (0, u "java/lang/Integer"), (16, u "digits"), (0, u "[C"), (46, u "<init>"), (17, u "DigitOnes"), (0, u "[B"), (2, u "DigitTens"), (10, .nameAndType 67 101), (0, u "()V"), (19, u "()I"), (65, u "valueOf"), (0, u "(I)Ljava/lang/Integer;"), (0, .class_ 190), (0, u "java/lang/Integer$IntegerCache"), (0, .fieldref 189 192), (0, .nameAndType 193 194), (0, u "high"), (0, u "I"), (0, .fieldref 189 196), (0, .nameAndType 197 198), (0, u "cache"), (0, u "[Ljava/lang/Integer;"), (0, .methodref 1 200), (0, .nameAndType 67 201), (0, u "(I)V"), (0, .methodref 203 100), (0, .class_ 204), (0, u "java/lang/Number"), (0, .fieldref 1 206), (0, .nameAndType 207 194), (0, u "value"), (5, u "intValue"), (88, u "TYPE"), (0, u "Ljava/lang/Class;"), (0, .class_ 305), (0, u "java/lang/Comparable"), (0, .class_ 307), (0, u "java/lang/constant/Constable"), (0, .class_ 309), (0, u "java/lang/constant/ConstantDesc"), (0, u "MIN_VALUE"), (1, u "MAX_VALUE"), (3, u "SIZE"), (1, u "BYTES"), (1, u "serialVersionUID"), (0, u "J")] 131

def k7c0 : Code := { maxStack := 3, maxLocals := 1, code := jdk_33_method_22_code, exceptionTable := #[], attributes := #[] }
def k7m0 : Method := { name := "valueOf", desc := "(I)Ljava/lang/Integer;", sig := { parameters := [.int], returnType := some (.object "java/lang/Integer") }, accessFlags := 9, code := some k7c0 }
def k7c1 : Code := { maxStack := 2, maxLocals := 2, code := jdk_33_method_23_code, exceptionTable := #[], attributes := #[] }
def k7m1 : Method := { name := "<init>", desc := "(I)V", sig := { parameters := [.int], returnType := none }, accessFlags := 1, code := some k7c1 }
def k7c2 : Code := { maxStack := 1, maxLocals := 1, code := jdk_33_method_27_code, exceptionTable := #[], attributes := #[] }
def k7m2 : Method := { name := "intValue", desc := "()I", sig := { parameters := [], returnType := some .int }, accessFlags := 1, code := some k7c2 }
/-- java/lang/Integer -/
def k7 : Class := { plain "java/lang/Integer" (some 3) with
  accessFlags := 49
  interfaces := #[4, 5, 6]
  cf := some (fileOf pool7 1 #[.nestMembers #[189]] #[{ accessFlags := 9, nameIndex := 187, descriptorIndex := 188, attributes := #[] }, { accessFlags := 1, nameIndex := 67, descriptorIndex := 201, attributes := #[] }, { accessFlags := 1, nameIndex := 213, descriptorIndex := 121, attributes := #[] }] 49 203 #[304, 306, 308] #[{ accessFlags := 25, nameIndex := 310, descriptorIndex := 194, attributes := #[] }, { accessFlags := 25, nameIndex := 312, descriptorIndex := 194, attributes := #[] }, { accessFlags := 25, nameIndex := 302, descriptorIndex := 303, attributes := #[] }, { accessFlags := 24, nameIndex := 19, descriptorIndex := 20, attributes := #[] }, { accessFlags := 24, nameIndex := 89, descriptorIndex := 86, attributes := #[] }, { accessFlags := 24, nameIndex := 85, descriptorIndex := 86, attributes := #[] }, { accessFlags := 18, nameIndex := 207, descriptorIndex := 194, attributes := #[] }, { accessFlags := 25, nameIndex := 316, descriptorIndex := 194, attributes := #[] }, { accessFlags := 25, nameIndex := 318, descriptorIndex := 194, attributes := #[] }, { accessFlags := 26, nameIndex := 320, descriptorIndex := 321, attributes := #[] }])
  fields := #[{ name := "MIN_VALUE", type := .int, accessFlags := 25, slot := 0, constantValue := 0 }, { name := "MAX_VALUE", type := .int, accessFlags := 25, slot := 1, constantValue := 0 }, { name := "TYPE", type := (.object "java/lang/Class"), accessFlags := 25, slot := 2, constantValue := 0 }, { name := "digits", type := (.array .char), accessFlags := 24, slot := 3, constantValue := 0 }, { name := "DigitTens", type := (.array .byte), accessFlags := 24, slot := 4, constantValue := 0 }, { name := "DigitOnes", type := (.array .byte), accessFlags := 24, slot := 5, constantValue := 0 }, { name := "value", type := .int, accessFlags := 18, slot := 0, constantValue := 0 }, { name := "SIZE", type := .int, accessFlags := 25, slot := 6, constantValue := 0 }, { name := "BYTES", type := .int, accessFlags := 25, slot := 7, constantValue := 0 }, { name := "serialVersionUID", type := .long, accessFlags := 26, slot := 8, constantValue := 0 }]
  methods := #[k7m0, k7m1, k7m2]
  instanceTypes := #[.int]
  staticTypes := #[.int, .int, (.object "java/lang/Class"), (.array .char), (.array .byte), (.array .byte), .int, .int, .long]
  resolved := Array.replicate 453 none
  statics := none }

def pool8 : Array CpInfo := pool [(2, .class_ 4), (1, u "java/lang/Object"), (0, u "<init>"), (0, u "()V"), (0, .class_ 8), (0, u "java/lang/Integer"), (7, .class_ 18), (1, u "java/lang/Integer$IntegerCache"), (0, u "$assertionsDisabled"), (0, u "Z"), (26, u "high"), (0, u "I"), (8, u "archivedCache"), (0, u "[Ljava/lang/Integer;"), (12, u "cache"), (0, u "low")] 27

def k8m0 : Method := { name := "<init>", desc := "()V", sig := { parameters := [], returnType := none }, accessFlags := 2, code := none }
/-- java/lang/Integer$IntegerCache -/
def k8 : Class := { plain "java/lang/Integer$IntegerCache" (some 0) with
  accessFlags := 48
  interfaces := #[]
  cf := some (fileOf pool8 16 #[.nestHost 7] #[{ accessFlags := 2, nameIndex := 5, descriptorIndex := 6, attributes := #[] }] 48 2 #[] #[{ accessFlags := 24, nameIndex := 72, descriptorIndex := 48, attributes := #[] }, { accessFlags := 24, nameIndex := 47, descriptorIndex := 48, attributes := #[] }, { accessFlags := 24, nameIndex := 71, descriptorIndex := 58, attributes := #[] }, { accessFlags := 8, nameIndex := 57, descriptorIndex := 58, attributes := #[] }, { accessFlags := 4120, nameIndex := 19, descriptorIndex := 20, attributes := #[] }])
  fields := #[{ name := "low", type := .int, accessFlags := 24, slot := 0, constantValue := 0 }, { name := "high", type := .int, accessFlags := 24, slot := 1, constantValue := 0 }, { name := "cache", type := (.array (.object "java/lang/Integer")), accessFlags := 24, slot := 2, constantValue := 0 }, { name := "archivedCache", type := (.array (.object "java/lang/Integer")), accessFlags := 8, slot := 3, constantValue := 0 }, { name := "$assertionsDisabled", type := .boolean, accessFlags := 4120, slot := 4, constantValue := 0 }]
  methods := #[k8m0]
  instanceTypes := #[]
  staticTypes := #[.int, .int, (.array (.object "java/lang/Integer")), (.array (.object "java/lang/Integer")), .boolean]
  resolved := Array.replicate 100 none
  statics := some 0 }

def pool9 : Array CpInfo := pool [(8, .class_ 10), (1, u "java/lang/Iterable"), (24, .class_ 36), (0, u "java/lang/Object")] 25

/-- java/lang/Iterable -/
def k9 : Class := { plain "java/lang/Iterable" (some 0) with
  accessFlags := 1537
  interfaces := #[]
  cf := some (fileOf pool9 8 #[] #[] 1537 35 #[] #[])
  fields := #[]
  methods := #[]
  instanceTypes := #[]
  staticTypes := #[]
  resolved := Array.replicate 62 none
  statics := none }

def pool10 : Array CpInfo := pool [(10, .class_ 12), (1, u "java/util/Collection"), (47, .class_ 61), (0, u "java/lang/Object"), (0, .class_ 63), (0, u "java/lang/Iterable")] 51

/-- java/util/Collection -/
def k10 : Class := { plain "java/util/Collection" (some 0) with
  accessFlags := 1537
  interfaces := #[9]
  cf := some (fileOf pool10 10 #[] #[] 1537 60 #[62] #[])
  fields := #[]
  methods := #[]
  instanceTypes := #[]
  staticTypes := #[]
  resolved := Array.replicate 115 none
  statics := none }

def pool11 : Array CpInfo := pool [(1, .methodref 2 3), (0, .class_ 4), (0, .nameAndType 5 6), (0, u "java/lang/Object"), (0, u "<init>"), (0, u "()V"), (1, .class_ 10), (1, u "java/util/AbstractCollection"), (66, .class_ 78), (0, u "java/util/Collection")] 81

def k11c0 : Code := { maxStack := 1, maxLocals := 1, code := jdk_22_method_1_code, exceptionTable := #[], attributes := #[] }
def k11m0 : Method := { name := "<init>", desc := "()V", sig := { parameters := [], returnType := none }, accessFlags := 4, code := some k11c0 }
/-- java/util/AbstractCollection -/
def k11 : Class := { plain "java/util/AbstractCollection" (some 0) with
  accessFlags := 1057
  interfaces := #[10]
  cf := some (fileOf pool11 8 #[] #[{ accessFlags := 4, nameIndex := 5, descriptorIndex := 6, attributes := #[] }] 1057 2 #[77] #[])
  fields := #[]
  methods := #[k11m0]
  instanceTypes := #[]
  staticTypes := #[]
  resolved := Array.replicate 160 none
  statics := none }

def pool12 : Array CpInfo := pool [(8, .class_ 10), (1, u "java/util/SequencedCollection"), (15, .class_ 27), (0, u "java/lang/Object"), (0, .class_ 29), (0, u "java/util/Collection")] 27

/-- java/util/SequencedCollection -/
def k12 : Class := { plain "java/util/SequencedCollection" (some 0) with
  accessFlags := 1537
  interfaces := #[10]
  cf := some (fileOf pool12 8 #[] #[] 1537 26 #[28] #[])
  fields := #[]
  methods := #[]
  instanceTypes := #[]
  staticTypes := #[]
  resolved := Array.replicate 57 none
  statics := none }

def pool13 : Array CpInfo := pool [(8, .class_ 10), (1, u "java/util/List"), (7, u "()Z"), (48, u "isEmpty"), (7, u "get"), (0, u "(I)Ljava/lang/Object;"), (2, u "size"), (0, u "()I"), (22, .class_ 104), (0, u "java/lang/Object"), (15, .class_ 121), (0, u "java/util/SequencedCollection")] 129

def k13m0 : Method := { name := "size", desc := "()I", sig := { parameters := [], returnType := some .int }, accessFlags := 1025, code := none }
def k13m1 : Method := { name := "isEmpty", desc := "()Z", sig := { parameters := [], returnType := some .boolean }, accessFlags := 1025, code := none }
def k13m2 : Method := { name := "get", desc := "(I)Ljava/lang/Object;", sig := { parameters := [.int], returnType := some (.object "java/lang/Object") }, accessFlags := 1025, code := none }
/-- java/util/List -/
def k13 : Class := { plain "java/util/List" (some 0) with
  accessFlags := 1537
  interfaces := #[12]
  cf := some (fileOf pool13 8 #[] #[{ accessFlags := 1025, nameIndex := 79, descriptorIndex := 80, attributes := #[] }, { accessFlags := 1025, nameIndex := 67, descriptorIndex := 18, attributes := #[] }, { accessFlags := 1025, nameIndex := 75, descriptorIndex := 76, attributes := #[] }] 1537 103 #[120] #[])
  fields := #[]
  methods := #[k13m0, k13m1, k13m2]
  instanceTypes := #[]
  staticTypes := #[]
  resolved := Array.replicate 251 none
  statics := none }

def pool14 : Array CpInfo := pool [(1, .methodref 2 3), (0, .class_ 4), (0, .nameAndType 5 6), (0, u "java/util/AbstractCollection"), (0, u "<init>"), (0, u "()V"), (0, .fieldref 8 9), (0, .class_ 10), (0, .nameAndType 11 12), (0, u "java/util/AbstractList"), (0, u "modCount"), (0, u "I"), (64, .class_ 78), (0, u "java/util/AbstractList$Itr"), (3, .class_ 83), (0, u "java/util/AbstractList$ListItr"), (9, .class_ 94), (0, u "java/util/AbstractList$RandomAccessSubList"), (3, .class_ 99), (0, u "java/util/AbstractList$SubList"), (33, .class_ 134), (0, u "java/util/List"), (73, .class_ 209), (0, u "java/util/AbstractList$SubList$1"), (0, .class_ 211), (0, u "java/util/AbstractList$RandomAccessSpliterator")] 6

def k14c0 : Code := { maxStack := 2, maxLocals := 1, code := jdk_39_method_1_code, exceptionTable := #[], attributes := #[] }
def k14m0 : Method := { name := "<init>", desc := "()V", sig := { parameters := [], returnType := none }, accessFlags := 4, code := some k14c0 }
/-- java/util/AbstractList -/
def k14 : Class := { plain "java/util/AbstractList" (some 11) with
  accessFlags := 1057
  interfaces := #[13]
  cf := some (fileOf pool14 8 #[.nestMembers #[93, 98, 208, 210, 82, 77]] #[{ accessFlags := 4, nameIndex := 5, descriptorIndex := 6, attributes := #[] }] 1057 2 #[133] #[{ accessFlags := 132, nameIndex := 11, descriptorIndex := 12, attributes := #[] }])
  fields := #[{ name := "modCount", type := .int, accessFlags := 132, slot := 0, constantValue := 0 }]
  methods := #[k14m0]
  instanceTypes := #[.int]
  staticTypes := #[]
  resolved := Array.replicate 218 none
  statics := none }

def pool15 : Array CpInfo := pool [(1, .class_ 2), (0, u "java/util/RandomAccess"), (0, .class_ 4), (0, u "java/lang/Object")] 2

/-- java/util/RandomAccess -/
def k15 : Class := { plain "java/util/RandomAccess" (some 0) with
  accessFlags := 1537
  interfaces := #[]
  cf := some (fileOf pool15 1 #[] #[] 1537 3 #[] #[])
  fields := #[]
  methods := #[]
  instanceTypes := #[]
  staticTypes := #[]
  resolved := Array.replicate 7 none
  statics := none }

def pool16 : Array CpInfo := pool [(1, .class_ 2), (0, u "java/lang/Cloneable"), (0, .class_ 4), (0, u "java/lang/Object")] 2

/-- java/lang/Cloneable -/
def k16 : Class := { plain "java/lang/Cloneable" (some 0) with
  accessFlags := 1537
  interfaces := #[]
  cf := some (fileOf pool16 1 #[] #[] 1537 3 #[] #[])
  fields := #[]
  methods := #[]
  instanceTypes := #[]
  staticTypes := #[]
  resolved := Array.replicate 7 none
  statics := none }

def pool17 : Array CpInfo := pool [(1, .methodref 2 3), (0, .class_ 4), (0, .nameAndType 5 6), (0, u "java/util/AbstractList"), (0, u "<init>"), (0, u "()V"), (0, .class_ 8), (0, u "java/lang/Object"), (0, .fieldref 10 11), (0, .class_ 12), (0, .nameAndType 13 14), (0, u "java/util/ArrayList"), (0, u "elementData"), (0, u "[Ljava/lang/Object;"), (2, u "EMPTY_ELEMENTDATA"), (21, .fieldref 10 40), (0, .nameAndType 41 14), (0, u "DEFAULTCAPACITY_EMPTY_ELEMENTDATA"), (5, u "()[Ljava/lang/Object;"), (0, .fieldref 10 49), (0, .nameAndType 50 51), (0, u "size"), (0, u "I"), (11, .fieldref 10 64), (0, .nameAndType 65 51), (0, u "modCount"), (3, .methodref 10 70), (0, .nameAndType 71 72), (0, u "grow"), (0, u "(I)[Ljava/lang/Object;"), (6, .methodref 80 81), (0, .class_ 82), (0, .nameAndType 83 84), (0, u "java/lang/Math"), (0, u "max"), (0, u "(II)I"), (11, u "(Ljava/lang/Object;)Z"), (21, .methodref 119 120), (0, .class_ 121), (0, .nameAndType 122 84), (0, u "java/util/Objects"), (0, u "checkIndex"), (0, .methodref 10 124), (0, .nameAndType 13 125), (0, u "(I)Ljava/lang/Object;"), (3, .methodref 10 130), (0, .nameAndType 71 47), (0, .methodref 10 132), (0, .nameAndType 133 134), (0, u "add"), (0, u "(Ljava/lang/Object;[Ljava/lang/Object;I)V"), (13, .class_ 149), (0, u "java/util/List"), (23, u "()Z"), (12, u "()I"), (75, .class_ 263), (0, u "java/util/ArrayList$ListItr"), (3, .class_ 268), (0, u "java/util/ArrayList$Itr"), (7, .class_ 277), (0, u "java/util/ArrayList$SubList"), (12, .class_ 291), (0, u "java/util/ArrayList$ArrayListSpliterator"), (37, .class_ 330), (0, u "java/util/RandomAccess"), (0, .class_ 332), (0, u "java/lang/Cloneable"), (0, .class_ 334), (0, u "java/io/Serializable"), (0, u "serialVersionUID"), (0, u "J"), (3, u "DEFAULT_CAPACITY"), (22, u "isEmpty"), (17, u "get"), (118, .class_ 501), (0, u "java/util/ArrayList$SubList$2"), (0, .class_ 503), (0, u "java/util/ArrayList$SubList$1")] 5

def k17c0 : Code := { maxStack := 2, maxLocals := 1, code := jdk_38_method_2_code, exceptionTable := #[], attributes := #[] }
def k17m0 : Method := { name := "<init>", desc := "()V", sig := { parameters := [], returnType := none }, accessFlags := 1, code := some k17c0 }
def k17c1 : Code := { maxStack := 4, maxLocals := 4, code := jdk_38_method_6_code, exceptionTable := #[], attributes := #[] }
def k17m1 : Method := { name := "grow", desc := "(I)[Ljava/lang/Object;", sig := { parameters := [.int], returnType := some (.array (.object "java/lang/Object")) }, accessFlags := 2, code := some k17c1 }
def k17c2 : Code := { maxStack := 3, maxLocals := 1, code := jdk_38_method_7_code, exceptionTable := #[], attributes := #[] }
def k17m2 : Method := { name := "grow", desc := "()[Ljava/lang/Object;", sig := { parameters := [], returnType := some (.array (.object "java/lang/Object")) }, accessFlags := 2, code := some k17c2 }
def k17c3 : Code := { maxStack := 1, maxLocals := 1, code := jdk_38_method_8_code, exceptionTable := #[], attributes := #[] }
def k17m3 : Method := { name := "size", desc := "()I", sig := { parameters := [], returnType := some .int }, accessFlags := 1, code := some k17c3 }
def k17c4 : Code := { maxStack := 1, maxLocals := 1, code := jdk_38_method_9_code, exceptionTable := #[], attributes := #[] }
def k17m4 : Method := { name := "isEmpty", desc := "()Z", sig := { parameters := [], returnType := some .boolean }, accessFlags := 1, code := some k17c4 }
def k17c5 : Code := { maxStack := 2, maxLocals := 2, code := jdk_38_method_18_code, exceptionTable := #[], attributes := #[] }
def k17m5 : Method := { name := "elementData", desc := "(I)Ljava/lang/Object;", sig := { parameters := [.int], returnType := some (.object "java/lang/Object") }, accessFlags := 0, code := some k17c5 }
def k17c6 : Code := { maxStack := 2, maxLocals := 2, code := jdk_38_method_20_code, exceptionTable := #[], attributes := #[] }
def k17m6 : Method := { name := "get", desc := "(I)Ljava/lang/Object;", sig := { parameters := [.int], returnType := some (.object "java/lang/Object") }, accessFlags := 1, code := some k17c6 }
def k17c7 : Code := { maxStack := 3, maxLocals := 4, code := jdk_38_method_24_code, exceptionTable := #[], attributes := #[] }
def k17m7 : Method := { name := "add", desc := "(Ljava/lang/Object;[Ljava/lang/Object;I)V", sig := { parameters := [(.object "java/lang/Object"), (.array (.object "java/lang/Object")), .int], returnType := none }, accessFlags := 2, code := some k17c7 }
def k17c8 : Code := { maxStack := 4, maxLocals := 2, code := jdk_38_method_25_code, exceptionTable := #[], attributes := #[] }
def k17m8 : Method := { name := "add", desc := "(Ljava/lang/Object;)Z", sig := { parameters := [(.object "java/lang/Object")], returnType := some .boolean }, accessFlags := 1, code := some k17c8 }
/-- java/util/ArrayList -/
def k17 : Class := { plain "java/util/ArrayList" (some 14) with
  accessFlags := 33
  interfaces := #[13, 15, 16, 2]
  cf := some (fileOf pool17 10 #[.nestMembers #[290, 276, 500, 502, 262, 267]] #[{ accessFlags := 1, nameIndex := 5, descriptorIndex := 6, attributes := #[] }, { accessFlags := 2, nameIndex := 71, descriptorIndex := 72, attributes := #[] }, { accessFlags := 2, nameIndex := 71, descriptorIndex := 47, attributes := #[] }, { accessFlags := 1, nameIndex := 50, descriptorIndex := 186, attributes := #[] }, { accessFlags := 1, nameIndex := 363, descriptorIndex := 173, attributes := #[] }, { accessFlags := 0, nameIndex := 13, descriptorIndex := 125, attributes := #[] }, { accessFlags := 1, nameIndex := 381, descriptorIndex := 125, attributes := #[] }, { accessFlags := 2, nameIndex := 133, descriptorIndex := 134, attributes := #[] }, { accessFlags := 1, nameIndex := 133, descriptorIndex := 96, attributes := #[] }] 33 2 #[148, 329, 331, 333] #[{ accessFlags := 26, nameIndex := 335, descriptorIndex := 336, attributes := #[] }, { accessFlags := 26, nameIndex := 340, descriptorIndex := 51, attributes := #[] }, { accessFlags := 26, nameIndex := 17, descriptorIndex := 14, attributes := #[] }, { accessFlags := 26, nameIndex := 41, descriptorIndex := 14, attributes := #[] }, { accessFlags := 128, nameIndex := 13, descriptorIndex := 14, attributes := #[] }, { accessFlags := 2, nameIndex := 50, descriptorIndex := 51, attributes := #[] }])
  fields := #[{ name := "serialVersionUID", type := .long, accessFlags := 26, slot := 0, constantValue := 0 }, { name := "DEFAULT_CAPACITY", type := .int, accessFlags := 26, slot := 1, constantValue := 0 }, { name := "EMPTY_ELEMENTDATA", type := (.array (.object "java/lang/Object")), accessFlags := 26, slot := 2, constantValue := 0 }, { name := "DEFAULTCAPACITY_EMPTY_ELEMENTDATA", type := (.array (.object "java/lang/Object")), accessFlags := 26, slot := 3, constantValue := 0 }, { name := "elementData", type := (.array (.object "java/lang/Object")), accessFlags := 128, slot := 1, constantValue := 0 }, { name := "size", type := .int, accessFlags := 2, slot := 2, constantValue := 0 }]
  methods := #[k17m0, k17m1, k17m2, k17m3, k17m4, k17m5, k17m6, k17m7, k17m8]
  instanceTypes := #[.int, (.array (.object "java/lang/Object")), .int]
  staticTypes := #[.long, .int, (.array (.object "java/lang/Object")), (.array (.object "java/lang/Object"))]
  resolved := Array.replicate 509 none
  statics := some 1 }

def pool18 : Array CpInfo := pool [(1, .methodref 2 3), (0, .class_ 4), (0, .nameAndType 5 6), (0, u "java/lang/Object"), (0, u "<init>"), (0, u "()V"), (0, .class_ 8), (0, u "java/lang/Record")] 13

def k18c0 : Code := { maxStack := 1, maxLocals := 1, code := jdk_30_method_1_code, exceptionTable := #[], attributes := #[] }
def k18m0 : Method := { name := "<init>", desc := "()V", sig := { parameters := [], returnType := none }, accessFlags := 4, code := some k18c0 }
/-- java/lang/Record -/
def k18 : Class := { plain "java/lang/Record" (some 0) with
  accessFlags := 1057
  interfaces := #[]
  cf := some (fileOf pool18 7 #[] #[{ accessFlags := 4, nameIndex := 5, descriptorIndex := 6, attributes := #[] }] 1057 2 #[] #[])
  fields := #[]
  methods := #[k18m0]
  instanceTypes := #[]
  staticTypes := #[]
  resolved := Array.replicate 22 none
  statics := none }

def pool19 : Array CpInfo := pool [(1, .methodref 2 3), (0, .class_ 4), (0, .nameAndType 5 6), (0, u "java/lang/Record"), (0, u "<init>"), (0, u "()V"), (0, .fieldref 8 9), (0, .class_ 10), (0, .nameAndType 11 12), (0, u "com/example/countinghouse/countinghouse/RoundTrip$Result"), (0, u "rows"), (0, u "Ljava/util/List;"), (0, .fieldref 8 14), (0, .nameAndType 15 16), (0, u "changed"), (0, u "I"), (0, .interfaceMethodref 18 19), (0, .class_ 20), (0, .nameAndType 21 22), (0, u "java/util/List"), (0, u "isEmpty"), (0, u "()Z"), (0, .interfaceMethodref 18 24), (0, .nameAndType 25 26), (0, u "get"), (0, u "(I)Ljava/lang/Object;"), (0, .class_ 28), (0, u "[Ljava/lang/Object;"), (14, u "(Ljava/util/List;I)V"), (4, u "row"), (0, u "()[Ljava/lang/Object;"), (2, u "()I"), (1, u "()Ljava/util/List;"), (4, .class_ 60), (0, u "com/example/countinghouse/countinghouse/RoundTrip")] 20

def k19c0 : Code := { maxStack := 2, maxLocals := 3, code := prog_8_method_1_code, exceptionTable := #[], attributes := #[] }
def k19m0 : Method := { name := "<init>", desc := "(Ljava/util/List;I)V", sig := { parameters := [(.object "java/util/List"), .int], returnType := none }, accessFlags := 0, code := some k19c0 }
def k19c1 : Code := { maxStack := 2, maxLocals := 1, code := prog_8_method_2_code, exceptionTable := #[], attributes := #[] }
def k19m1 : Method := { name := "row", desc := "()[Ljava/lang/Object;", sig := { parameters := [], returnType := some (.array (.object "java/lang/Object")) }, accessFlags := 0, code := some k19c1 }
def k19c2 : Code := { maxStack := 1, maxLocals := 1, code := prog_8_method_6_code, exceptionTable := #[], attributes := #[] }
def k19m2 : Method := { name := "rows", desc := "()Ljava/util/List;", sig := { parameters := [], returnType := some (.object "java/util/List") }, accessFlags := 1, code := some k19c2 }
def k19c3 : Code := { maxStack := 1, maxLocals := 1, code := prog_8_method_7_code, exceptionTable := #[], attributes := #[] }
def k19m3 : Method := { name := "changed", desc := "()I", sig := { parameters := [], returnType := some .int }, accessFlags := 1, code := some k19c3 }
/-- com/example/countinghouse/countinghouse/RoundTrip$Result -/
def k19 : Class := { plain "com/example/countinghouse/countinghouse/RoundTrip$Result" (some 18) with
  accessFlags := 48
  interfaces := #[]
  cf := some (fileOf pool19 8 #[.nestHost 59] #[{ accessFlags := 0, nameIndex := 5, descriptorIndex := 43, attributes := #[] }, { accessFlags := 0, nameIndex := 48, descriptorIndex := 49, attributes := #[] }, { accessFlags := 1, nameIndex := 11, descriptorIndex := 54, attributes := #[] }, { accessFlags := 1, nameIndex := 15, descriptorIndex := 52, attributes := #[] }] 48 2 #[] #[{ accessFlags := 18, nameIndex := 11, descriptorIndex := 12, attributes := #[] }, { accessFlags := 18, nameIndex := 15, descriptorIndex := 16, attributes := #[] }])
  fields := #[{ name := "rows", type := (.object "java/util/List"), accessFlags := 18, slot := 0, constantValue := 0 }, { name := "changed", type := .int, accessFlags := 18, slot := 1, constantValue := 0 }]
  methods := #[k19m0, k19m1, k19m2, k19m3]
  instanceTypes := #[(.object "java/util/List"), .int]
  staticTypes := #[]
  resolved := Array.replicate 81 none
  statics := none }

def pool20 : Array CpInfo := pool [(1, .class_ 2), (0, u "java/lang/Math"), (1, .class_ 6), (1, u "java/lang/Object"), (0, u "<init>"), (0, u "()V"), (89, .class_ 100), (1, u "java/lang/Math$RandomNumberGeneratorHolder"), (71, u "negativeZeroFloatBits"), (0, u "J"), (2, u "negativeZeroDoubleBits"), (21, u "max"), (46, u "$assertionsDisabled"), (0, u "Z"), (88, u "(II)I"), (2, u "twoToTheDoubleScaleDown"), (0, u "D"), (4, u "twoToTheDoubleScaleUp"), (9, u "E"), (3, u "PI"), (2, u "TAU"), (2, u "DEGREES_TO_RADIANS"), (0, u "RADIANS_TO_DEGREES")] 94

def k20m0 : Method := { name := "<init>", desc := "()V", sig := { parameters := [], returnType := none }, accessFlags := 2, code := none }
def k20c1 : Code := { maxStack := 2, maxLocals := 2, code := jdk_29_method_65_code, exceptionTable := #[], attributes := #[] }
def k20m1 : Method := { name := "max", desc := "(II)I", sig := { parameters := [.int, .int], returnType := some .int }, accessFlags := 9, code := some k20c1 }
/-- java/lang/Math -/
def k20 : Class := { plain "java/lang/Math" (some 0) with
  accessFlags := 49
  interfaces := #[]
  cf := some (fileOf pool20 1 #[.nestMembers #[98]] #[{ accessFlags := 2, nameIndex := 7, descriptorIndex := 8, attributes := #[] }, { accessFlags := 9, nameIndex := 198, descriptorIndex := 335, attributes := #[] }] 49 4 #[] #[{ accessFlags := 25, nameIndex := 354, descriptorIndex := 339, attributes := #[] }, { accessFlags := 25, nameIndex := 358, descriptorIndex := 339, attributes := #[] }, { accessFlags := 25, nameIndex := 361, descriptorIndex := 339, attributes := #[] }, { accessFlags := 26, nameIndex := 364, descriptorIndex := 339, attributes := #[] }, { accessFlags := 26, nameIndex := 365, descriptorIndex := 339, attributes := #[] }, { accessFlags := 26, nameIndex := 172, descriptorIndex := 173, attributes := #[] }, { accessFlags := 26, nameIndex := 176, descriptorIndex := 173, attributes := #[] }, { accessFlags := 8, nameIndex := 344, descriptorIndex := 339, attributes := #[] }, { accessFlags := 8, nameIndex := 338, descriptorIndex := 339, attributes := #[] }, { accessFlags := 4120, nameIndex := 245, descriptorIndex := 246, attributes := #[] }])
  fields := #[{ name := "E", type := .double, accessFlags := 25, slot := 0, constantValue := 0 }, { name := "PI", type := .double, accessFlags := 25, slot := 1, constantValue := 0 }, { name := "TAU", type := .double, accessFlags := 25, slot := 2, constantValue := 0 }, { name := "DEGREES_TO_RADIANS", type := .double, accessFlags := 26, slot := 3, constantValue := 0 }, { name := "RADIANS_TO_DEGREES", type := .double, accessFlags := 26, slot := 4, constantValue := 0 }, { name := "negativeZeroFloatBits", type := .long, accessFlags := 26, slot := 5, constantValue := 0 }, { name := "negativeZeroDoubleBits", type := .long, accessFlags := 26, slot := 6, constantValue := 0 }, { name := "twoToTheDoubleScaleUp", type := .double, accessFlags := 8, slot := 7, constantValue := 0 }, { name := "twoToTheDoubleScaleDown", type := .double, accessFlags := 8, slot := 8, constantValue := 0 }, { name := "$assertionsDisabled", type := .boolean, accessFlags := 4120, slot := 9, constantValue := 0 }]
  methods := #[k20m0, k20m1]
  instanceTypes := #[]
  staticTypes := #[.double, .double, .double, .double, .double, .long, .long, .double, .double, .boolean]
  resolved := Array.replicate 460 none
  statics := none }

def pool21 : Array CpInfo := pool [(2, .class_ 4), (1, u "java/lang/Object"), (0, u "<init>"), (0, u "()V"), (35, .class_ 44), (1, u "java/util/Objects"), (60, .methodref 106 107), (0, .class_ 108), (0, .nameAndType 109 110), (0, u "jdk/internal/util/Preconditions"), (0, u "checkIndex"), (0, u "(IILjava/util/function/BiFunction;)I"), (60, u "(II)I")] 12

def k21m0 : Method := { name := "<init>", desc := "()V", sig := { parameters := [], returnType := none }, accessFlags := 2, code := none }
def k21c1 : Code := { maxStack := 3, maxLocals := 2, code := jdk_31_method_17_code, exceptionTable := #[], attributes := #[] }
def k21m1 : Method := { name := "checkIndex", desc := "(II)I", sig := { parameters := [.int, .int], returnType := some .int }, accessFlags := 9, code := some k21c1 }
/-- java/util/Objects -/
def k21 : Class := { plain "java/util/Objects" (some 0) with
  accessFlags := 49
  interfaces := #[]
  cf := some (fileOf pool21 42 #[] #[{ accessFlags := 2, nameIndex := 5, descriptorIndex := 6, attributes := #[] }, { accessFlags := 9, nameIndex := 109, descriptorIndex := 171, attributes := #[] }] 49 2 #[] #[])
  fields := #[]
  methods := #[k21m0, k21m1]
  instanceTypes := #[]
  staticTypes := #[]
  resolved := Array.replicate 184 none
  statics := none }

def pool22 : Array CpInfo := pool [(2, .class_ 4), (1, u "java/lang/Object"), (0, u "<init>"), (0, u "()V"), (17, .class_ 26), (1, u "jdk/internal/util/Preconditions"), (6, u "checkIndex"), (21, .class_ 56), (0, u "jdk/internal/util/Preconditions$4"), (57, .class_ 115), (0, u "jdk/internal/util/Preconditions$1"), (7, u "SIOOBE_FORMATTER"), (0, u "Ljava/util/function/BiFunction;"), (0, .class_ 126), (0, u "jdk/internal/util/Preconditions$2"), (3, u "AIOOBE_FORMATTER"), (0, .class_ 132), (0, u "jdk/internal/util/Preconditions$3"), (3, u "IOOBE_FORMATTER"), (41, u "(IILjava/util/function/BiFunction;)I")] 15

def k22m0 : Method := { name := "<init>", desc := "()V", sig := { parameters := [], returnType := none }, accessFlags := 1, code := none }
def k22c1 : Code := { maxStack := 3, maxLocals := 3, code := jdk_41_method_11_code, exceptionTable := #[], attributes := #[] }
def k22m1 : Method := { name := "checkIndex", desc := "(IILjava/util/function/BiFunction;)I", sig := { parameters := [.int, .int, (.object "java/util/function/BiFunction")], returnType := some .int }, accessFlags := 9, code := some k22c1 }
/-- jdk/internal/util/Preconditions -/
def k22 : Class := { plain "jdk/internal/util/Preconditions" (some 0) with
  accessFlags := 33
  interfaces := #[]
  cf := some (fileOf pool22 24 #[.nestMembers #[55, 131, 125, 114]] #[{ accessFlags := 1, nameIndex := 5, descriptorIndex := 6, attributes := #[] }, { accessFlags := 9, nameIndex := 33, descriptorIndex := 178, attributes := #[] }] 33 2 #[] #[{ accessFlags := 25, nameIndex := 123, descriptorIndex := 124, attributes := #[] }, { accessFlags := 25, nameIndex := 130, descriptorIndex := 124, attributes := #[] }, { accessFlags := 25, nameIndex := 136, descriptorIndex := 124, attributes := #[] }])
  fields := #[{ name := "SIOOBE_FORMATTER", type := (.object "java/util/function/BiFunction"), accessFlags := 25, slot := 0, constantValue := 0 }, { name := "AIOOBE_FORMATTER", type := (.object "java/util/function/BiFunction"), accessFlags := 25, slot := 1, constantValue := 0 }, { name := "IOOBE_FORMATTER", type := (.object "java/util/function/BiFunction"), accessFlags := 25, slot := 2, constantValue := 0 }]
  methods := #[k22m0, k22m1]
  instanceTypes := #[]
  staticTypes := #[(.object "java/util/function/BiFunction"), (.object "java/util/function/BiFunction"), (.object "java/util/function/BiFunction")]
  resolved := Array.replicate 194 none
  statics := none }

/-- the primitive byte -/
def k23 : Class := { plain "byte" none with kind := .primitive 'B', accessFlags := 0x411 }
/-- [B -/
def k24 : Class := { plain "[B" (some 0) with kind := .array 23 .byte, interfaces := #[16, 2], accessFlags := 1041 }

/-- the primitive int -/
def k25 : Class := { plain "int" none with kind := .primitive 'I', accessFlags := 0x411 }
/-- [I -/
def k26 : Class := { plain "[I" (some 0) with kind := .array 25 .int, interfaces := #[16, 2], accessFlags := 1041 }

/-- [Ljava/lang/Integer; -/
def k27 : Class := { plain "[Ljava/lang/Integer;" (some 0) with kind := .array 7 (.object "java/lang/Integer"), interfaces := #[16, 2], accessFlags := 1041 }

/-- [Ljava/lang/Object; -/
def k28 : Class := { plain "[Ljava/lang/Object;" (some 0) with kind := .array 0 (.object "java/lang/Object"), interfaces := #[16, 2], accessFlags := 1041 }

def heap : Heap := #[{ cls := 8, slots := #[.int 0, .int 127, .ref 2, .null, .int 0], vm := .statics 8 },
  { cls := 17, slots := #[.long 0, .int 0, .ref 259, .ref 260], vm := .statics 17 },
  { cls := 27, slots := #[.ref 3, .ref 4, .ref 5, .ref 6, .ref 7, .ref 8, .ref 9, .ref 10, .ref 11, .ref 12, .ref 13, .ref 14, .ref 15, .ref 16, .ref 17, .ref 18, .ref 19, .ref 20, .ref 21, .ref 22, .ref 23, .ref 24, .ref 25, .ref 26, .ref 27, .ref 28, .ref 29, .ref 30, .ref 31, .ref 32, .ref 33, .ref 34, .ref 35, .ref 36, .ref 37, .ref 38, .ref 39, .ref 40, .ref 41, .ref 42, .ref 43, .ref 44, .ref 45, .ref 46, .ref 47, .ref 48, .ref 49, .ref 50, .ref 51, .ref 52, .ref 53, .ref 54, .ref 55, .ref 56, .ref 57, .ref 58, .ref 59, .ref 60, .ref 61, .ref 62, .ref 63, .ref 64, .ref 65, .ref 66, .ref 67, .ref 68, .ref 69, .ref 70, .ref 71, .ref 72, .ref 73, .ref 74, .ref 75, .ref 76, .ref 77, .ref 78, .ref 79, .ref 80, .ref 81, .ref 82, .ref 83, .ref 84, .ref 85, .ref 86, .ref 87, .ref 88, .ref 89, .ref 90, .ref 91, .ref 92, .ref 93, .ref 94, .ref 95, .ref 96, .ref 97, .ref 98, .ref 99, .ref 100, .ref 101, .ref 102, .ref 103, .ref 104, .ref 105, .ref 106, .ref 107, .ref 108, .ref 109, .ref 110, .ref 111, .ref 112, .ref 113, .ref 114, .ref 115, .ref 116, .ref 117, .ref 118, .ref 119, .ref 120, .ref 121, .ref 122, .ref 123, .ref 124, .ref 125, .ref 126, .ref 127, .ref 128, .ref 129, .ref 130, .ref 131, .ref 132, .ref 133, .ref 134, .ref 135, .ref 136, .ref 137, .ref 138, .ref 139, .ref 140, .ref 141, .ref 142, .ref 143, .ref 144, .ref 145, .ref 146, .ref 147, .ref 148, .ref 149, .ref 150, .ref 151, .ref 152, .ref 153, .ref 154, .ref 155, .ref 156, .ref 157, .ref 158, .ref 159, .ref 160, .ref 161, .ref 162, .ref 163, .ref 164, .ref 165, .ref 166, .ref 167, .ref 168, .ref 169, .ref 170, .ref 171, .ref 172, .ref 173, .ref 174, .ref 175, .ref 176, .ref 177, .ref 178, .ref 179, .ref 180, .ref 181, .ref 182, .ref 183, .ref 184, .ref 185, .ref 186, .ref 187, .ref 188, .ref 189, .ref 190, .ref 191, .ref 192, .ref 193, .ref 194, .ref 195, .ref 196, .ref 197, .ref 198, .ref 199, .ref 200, .ref 201, .ref 202, .ref 203, .ref 204, .ref 205, .ref 206, .ref 207, .ref 208, .ref 209, .ref 210, .ref 211, .ref 212, .ref 213, .ref 214, .ref 215, .ref 216, .ref 217, .ref 218, .ref 219, .ref 220, .ref 221, .ref 222, .ref 223, .ref 224, .ref 225, .ref 226, .ref 227, .ref 228, .ref 229, .ref 230, .ref 231, .ref 232, .ref 233, .ref 234, .ref 235, .ref 236, .ref 237, .ref 238, .ref 239, .ref 240, .ref 241, .ref 242, .ref 243, .ref 244, .ref 245, .ref 246, .ref 247, .ref 248, .ref 249, .ref 250, .ref 251, .ref 252, .ref 253, .ref 254, .ref 255, .ref 256, .ref 257, .ref 258], vm := .none },
  { cls := 7, slots := #[.int (-128)], vm := .none },
  { cls := 7, slots := #[.int (-127)], vm := .none },
  { cls := 7, slots := #[.int (-126)], vm := .none },
  { cls := 7, slots := #[.int (-125)], vm := .none },
  { cls := 7, slots := #[.int (-124)], vm := .none },
  { cls := 7, slots := #[.int (-123)], vm := .none },
  { cls := 7, slots := #[.int (-122)], vm := .none },
  { cls := 7, slots := #[.int (-121)], vm := .none },
  { cls := 7, slots := #[.int (-120)], vm := .none },
  { cls := 7, slots := #[.int (-119)], vm := .none },
  { cls := 7, slots := #[.int (-118)], vm := .none },
  { cls := 7, slots := #[.int (-117)], vm := .none },
  { cls := 7, slots := #[.int (-116)], vm := .none },
  { cls := 7, slots := #[.int (-115)], vm := .none },
  { cls := 7, slots := #[.int (-114)], vm := .none },
  { cls := 7, slots := #[.int (-113)], vm := .none },
  { cls := 7, slots := #[.int (-112)], vm := .none },
  { cls := 7, slots := #[.int (-111)], vm := .none },
  { cls := 7, slots := #[.int (-110)], vm := .none },
  { cls := 7, slots := #[.int (-109)], vm := .none },
  { cls := 7, slots := #[.int (-108)], vm := .none },
  { cls := 7, slots := #[.int (-107)], vm := .none },
  { cls := 7, slots := #[.int (-106)], vm := .none },
  { cls := 7, slots := #[.int (-105)], vm := .none },
  { cls := 7, slots := #[.int (-104)], vm := .none },
  { cls := 7, slots := #[.int (-103)], vm := .none },
  { cls := 7, slots := #[.int (-102)], vm := .none },
  { cls := 7, slots := #[.int (-101)], vm := .none },
  { cls := 7, slots := #[.int (-100)], vm := .none },
  { cls := 7, slots := #[.int (-99)], vm := .none },
  { cls := 7, slots := #[.int (-98)], vm := .none },
  { cls := 7, slots := #[.int (-97)], vm := .none },
  { cls := 7, slots := #[.int (-96)], vm := .none },
  { cls := 7, slots := #[.int (-95)], vm := .none },
  { cls := 7, slots := #[.int (-94)], vm := .none },
  { cls := 7, slots := #[.int (-93)], vm := .none },
  { cls := 7, slots := #[.int (-92)], vm := .none },
  { cls := 7, slots := #[.int (-91)], vm := .none },
  { cls := 7, slots := #[.int (-90)], vm := .none },
  { cls := 7, slots := #[.int (-89)], vm := .none },
  { cls := 7, slots := #[.int (-88)], vm := .none },
  { cls := 7, slots := #[.int (-87)], vm := .none },
  { cls := 7, slots := #[.int (-86)], vm := .none },
  { cls := 7, slots := #[.int (-85)], vm := .none },
  { cls := 7, slots := #[.int (-84)], vm := .none },
  { cls := 7, slots := #[.int (-83)], vm := .none },
  { cls := 7, slots := #[.int (-82)], vm := .none },
  { cls := 7, slots := #[.int (-81)], vm := .none },
  { cls := 7, slots := #[.int (-80)], vm := .none },
  { cls := 7, slots := #[.int (-79)], vm := .none },
  { cls := 7, slots := #[.int (-78)], vm := .none },
  { cls := 7, slots := #[.int (-77)], vm := .none },
  { cls := 7, slots := #[.int (-76)], vm := .none },
  { cls := 7, slots := #[.int (-75)], vm := .none },
  { cls := 7, slots := #[.int (-74)], vm := .none },
  { cls := 7, slots := #[.int (-73)], vm := .none },
  { cls := 7, slots := #[.int (-72)], vm := .none },
  { cls := 7, slots := #[.int (-71)], vm := .none },
  { cls := 7, slots := #[.int (-70)], vm := .none },
  { cls := 7, slots := #[.int (-69)], vm := .none },
  { cls := 7, slots := #[.int (-68)], vm := .none },
  { cls := 7, slots := #[.int (-67)], vm := .none },
  { cls := 7, slots := #[.int (-66)], vm := .none },
  { cls := 7, slots := #[.int (-65)], vm := .none },
  { cls := 7, slots := #[.int (-64)], vm := .none },
  { cls := 7, slots := #[.int (-63)], vm := .none },
  { cls := 7, slots := #[.int (-62)], vm := .none },
  { cls := 7, slots := #[.int (-61)], vm := .none },
  { cls := 7, slots := #[.int (-60)], vm := .none },
  { cls := 7, slots := #[.int (-59)], vm := .none },
  { cls := 7, slots := #[.int (-58)], vm := .none },
  { cls := 7, slots := #[.int (-57)], vm := .none },
  { cls := 7, slots := #[.int (-56)], vm := .none },
  { cls := 7, slots := #[.int (-55)], vm := .none },
  { cls := 7, slots := #[.int (-54)], vm := .none },
  { cls := 7, slots := #[.int (-53)], vm := .none },
  { cls := 7, slots := #[.int (-52)], vm := .none },
  { cls := 7, slots := #[.int (-51)], vm := .none },
  { cls := 7, slots := #[.int (-50)], vm := .none },
  { cls := 7, slots := #[.int (-49)], vm := .none },
  { cls := 7, slots := #[.int (-48)], vm := .none },
  { cls := 7, slots := #[.int (-47)], vm := .none },
  { cls := 7, slots := #[.int (-46)], vm := .none },
  { cls := 7, slots := #[.int (-45)], vm := .none },
  { cls := 7, slots := #[.int (-44)], vm := .none },
  { cls := 7, slots := #[.int (-43)], vm := .none },
  { cls := 7, slots := #[.int (-42)], vm := .none },
  { cls := 7, slots := #[.int (-41)], vm := .none },
  { cls := 7, slots := #[.int (-40)], vm := .none },
  { cls := 7, slots := #[.int (-39)], vm := .none },
  { cls := 7, slots := #[.int (-38)], vm := .none },
  { cls := 7, slots := #[.int (-37)], vm := .none },
  { cls := 7, slots := #[.int (-36)], vm := .none },
  { cls := 7, slots := #[.int (-35)], vm := .none },
  { cls := 7, slots := #[.int (-34)], vm := .none },
  { cls := 7, slots := #[.int (-33)], vm := .none },
  { cls := 7, slots := #[.int (-32)], vm := .none },
  { cls := 7, slots := #[.int (-31)], vm := .none },
  { cls := 7, slots := #[.int (-30)], vm := .none },
  { cls := 7, slots := #[.int (-29)], vm := .none },
  { cls := 7, slots := #[.int (-28)], vm := .none },
  { cls := 7, slots := #[.int (-27)], vm := .none },
  { cls := 7, slots := #[.int (-26)], vm := .none },
  { cls := 7, slots := #[.int (-25)], vm := .none },
  { cls := 7, slots := #[.int (-24)], vm := .none },
  { cls := 7, slots := #[.int (-23)], vm := .none },
  { cls := 7, slots := #[.int (-22)], vm := .none },
  { cls := 7, slots := #[.int (-21)], vm := .none },
  { cls := 7, slots := #[.int (-20)], vm := .none },
  { cls := 7, slots := #[.int (-19)], vm := .none },
  { cls := 7, slots := #[.int (-18)], vm := .none },
  { cls := 7, slots := #[.int (-17)], vm := .none },
  { cls := 7, slots := #[.int (-16)], vm := .none },
  { cls := 7, slots := #[.int (-15)], vm := .none },
  { cls := 7, slots := #[.int (-14)], vm := .none },
  { cls := 7, slots := #[.int (-13)], vm := .none },
  { cls := 7, slots := #[.int (-12)], vm := .none },
  { cls := 7, slots := #[.int (-11)], vm := .none },
  { cls := 7, slots := #[.int (-10)], vm := .none },
  { cls := 7, slots := #[.int (-9)], vm := .none },
  { cls := 7, slots := #[.int (-8)], vm := .none },
  { cls := 7, slots := #[.int (-7)], vm := .none },
  { cls := 7, slots := #[.int (-6)], vm := .none },
  { cls := 7, slots := #[.int (-5)], vm := .none },
  { cls := 7, slots := #[.int (-4)], vm := .none },
  { cls := 7, slots := #[.int (-3)], vm := .none },
  { cls := 7, slots := #[.int (-2)], vm := .none },
  { cls := 7, slots := #[.int (-1)], vm := .none },
  { cls := 7, slots := #[.int (0)], vm := .none },
  { cls := 7, slots := #[.int (1)], vm := .none },
  { cls := 7, slots := #[.int (2)], vm := .none },
  { cls := 7, slots := #[.int (3)], vm := .none },
  { cls := 7, slots := #[.int (4)], vm := .none },
  { cls := 7, slots := #[.int (5)], vm := .none },
  { cls := 7, slots := #[.int (6)], vm := .none },
  { cls := 7, slots := #[.int (7)], vm := .none },
  { cls := 7, slots := #[.int (8)], vm := .none },
  { cls := 7, slots := #[.int (9)], vm := .none },
  { cls := 7, slots := #[.int (10)], vm := .none },
  { cls := 7, slots := #[.int (11)], vm := .none },
  { cls := 7, slots := #[.int (12)], vm := .none },
  { cls := 7, slots := #[.int (13)], vm := .none },
  { cls := 7, slots := #[.int (14)], vm := .none },
  { cls := 7, slots := #[.int (15)], vm := .none },
  { cls := 7, slots := #[.int (16)], vm := .none },
  { cls := 7, slots := #[.int (17)], vm := .none },
  { cls := 7, slots := #[.int (18)], vm := .none },
  { cls := 7, slots := #[.int (19)], vm := .none },
  { cls := 7, slots := #[.int (20)], vm := .none },
  { cls := 7, slots := #[.int (21)], vm := .none },
  { cls := 7, slots := #[.int (22)], vm := .none },
  { cls := 7, slots := #[.int (23)], vm := .none },
  { cls := 7, slots := #[.int (24)], vm := .none },
  { cls := 7, slots := #[.int (25)], vm := .none },
  { cls := 7, slots := #[.int (26)], vm := .none },
  { cls := 7, slots := #[.int (27)], vm := .none },
  { cls := 7, slots := #[.int (28)], vm := .none },
  { cls := 7, slots := #[.int (29)], vm := .none },
  { cls := 7, slots := #[.int (30)], vm := .none },
  { cls := 7, slots := #[.int (31)], vm := .none },
  { cls := 7, slots := #[.int (32)], vm := .none },
  { cls := 7, slots := #[.int (33)], vm := .none },
  { cls := 7, slots := #[.int (34)], vm := .none },
  { cls := 7, slots := #[.int (35)], vm := .none },
  { cls := 7, slots := #[.int (36)], vm := .none },
  { cls := 7, slots := #[.int (37)], vm := .none },
  { cls := 7, slots := #[.int (38)], vm := .none },
  { cls := 7, slots := #[.int (39)], vm := .none },
  { cls := 7, slots := #[.int (40)], vm := .none },
  { cls := 7, slots := #[.int (41)], vm := .none },
  { cls := 7, slots := #[.int (42)], vm := .none },
  { cls := 7, slots := #[.int (43)], vm := .none },
  { cls := 7, slots := #[.int (44)], vm := .none },
  { cls := 7, slots := #[.int (45)], vm := .none },
  { cls := 7, slots := #[.int (46)], vm := .none },
  { cls := 7, slots := #[.int (47)], vm := .none },
  { cls := 7, slots := #[.int (48)], vm := .none },
  { cls := 7, slots := #[.int (49)], vm := .none },
  { cls := 7, slots := #[.int (50)], vm := .none },
  { cls := 7, slots := #[.int (51)], vm := .none },
  { cls := 7, slots := #[.int (52)], vm := .none },
  { cls := 7, slots := #[.int (53)], vm := .none },
  { cls := 7, slots := #[.int (54)], vm := .none },
  { cls := 7, slots := #[.int (55)], vm := .none },
  { cls := 7, slots := #[.int (56)], vm := .none },
  { cls := 7, slots := #[.int (57)], vm := .none },
  { cls := 7, slots := #[.int (58)], vm := .none },
  { cls := 7, slots := #[.int (59)], vm := .none },
  { cls := 7, slots := #[.int (60)], vm := .none },
  { cls := 7, slots := #[.int (61)], vm := .none },
  { cls := 7, slots := #[.int (62)], vm := .none },
  { cls := 7, slots := #[.int (63)], vm := .none },
  { cls := 7, slots := #[.int (64)], vm := .none },
  { cls := 7, slots := #[.int (65)], vm := .none },
  { cls := 7, slots := #[.int (66)], vm := .none },
  { cls := 7, slots := #[.int (67)], vm := .none },
  { cls := 7, slots := #[.int (68)], vm := .none },
  { cls := 7, slots := #[.int (69)], vm := .none },
  { cls := 7, slots := #[.int (70)], vm := .none },
  { cls := 7, slots := #[.int (71)], vm := .none },
  { cls := 7, slots := #[.int (72)], vm := .none },
  { cls := 7, slots := #[.int (73)], vm := .none },
  { cls := 7, slots := #[.int (74)], vm := .none },
  { cls := 7, slots := #[.int (75)], vm := .none },
  { cls := 7, slots := #[.int (76)], vm := .none },
  { cls := 7, slots := #[.int (77)], vm := .none },
  { cls := 7, slots := #[.int (78)], vm := .none },
  { cls := 7, slots := #[.int (79)], vm := .none },
  { cls := 7, slots := #[.int (80)], vm := .none },
  { cls := 7, slots := #[.int (81)], vm := .none },
  { cls := 7, slots := #[.int (82)], vm := .none },
  { cls := 7, slots := #[.int (83)], vm := .none },
  { cls := 7, slots := #[.int (84)], vm := .none },
  { cls := 7, slots := #[.int (85)], vm := .none },
  { cls := 7, slots := #[.int (86)], vm := .none },
  { cls := 7, slots := #[.int (87)], vm := .none },
  { cls := 7, slots := #[.int (88)], vm := .none },
  { cls := 7, slots := #[.int (89)], vm := .none },
  { cls := 7, slots := #[.int (90)], vm := .none },
  { cls := 7, slots := #[.int (91)], vm := .none },
  { cls := 7, slots := #[.int (92)], vm := .none },
  { cls := 7, slots := #[.int (93)], vm := .none },
  { cls := 7, slots := #[.int (94)], vm := .none },
  { cls := 7, slots := #[.int (95)], vm := .none },
  { cls := 7, slots := #[.int (96)], vm := .none },
  { cls := 7, slots := #[.int (97)], vm := .none },
  { cls := 7, slots := #[.int (98)], vm := .none },
  { cls := 7, slots := #[.int (99)], vm := .none },
  { cls := 7, slots := #[.int (100)], vm := .none },
  { cls := 7, slots := #[.int (101)], vm := .none },
  { cls := 7, slots := #[.int (102)], vm := .none },
  { cls := 7, slots := #[.int (103)], vm := .none },
  { cls := 7, slots := #[.int (104)], vm := .none },
  { cls := 7, slots := #[.int (105)], vm := .none },
  { cls := 7, slots := #[.int (106)], vm := .none },
  { cls := 7, slots := #[.int (107)], vm := .none },
  { cls := 7, slots := #[.int (108)], vm := .none },
  { cls := 7, slots := #[.int (109)], vm := .none },
  { cls := 7, slots := #[.int (110)], vm := .none },
  { cls := 7, slots := #[.int (111)], vm := .none },
  { cls := 7, slots := #[.int (112)], vm := .none },
  { cls := 7, slots := #[.int (113)], vm := .none },
  { cls := 7, slots := #[.int (114)], vm := .none },
  { cls := 7, slots := #[.int (115)], vm := .none },
  { cls := 7, slots := #[.int (116)], vm := .none },
  { cls := 7, slots := #[.int (117)], vm := .none },
  { cls := 7, slots := #[.int (118)], vm := .none },
  { cls := 7, slots := #[.int (119)], vm := .none },
  { cls := 7, slots := #[.int (120)], vm := .none },
  { cls := 7, slots := #[.int (121)], vm := .none },
  { cls := 7, slots := #[.int (122)], vm := .none },
  { cls := 7, slots := #[.int (123)], vm := .none },
  { cls := 7, slots := #[.int (124)], vm := .none },
  { cls := 7, slots := #[.int (125)], vm := .none },
  { cls := 7, slots := #[.int (126)], vm := .none },
  { cls := 7, slots := #[.int (127)], vm := .none },
  { cls := 28, slots := #[], vm := .none },
  { cls := 28, slots := #[], vm := .none }]
def classes : Array Class := #[k0, k1, k2, k3, k4, k5, k6, k7, k8, k9, k10, k11, k12, k13, k14, k15, k16, k17, k18, k19, k20, k21, k22, k23, k24, k25, k26, k27, k28]
def interned : List (Array UInt16 × Addr) := []
def slotsUsed : Nat := 521
def theMethod : MethodId := ⟨1, 1⟩
def args0 : Array Value := #[.int 2, .int 3, .int 1, .int 7]
def aboutOver (below : List Frame) : State where
  vm := { classes := classes, interned := interned.toArray }
  heap := heap
  slotsUsed := slotsUsed
  threads := #[{ frames := .invoking theMethod args0 :: below }]
def below0 : List Frame := [.native { method := ⟨0, 0⟩, args := #[] }]
def about1 : State := aboutOver below0
def p0 : Program := .bare "" "" ""
def e0 : Env := launch0.env 0 0 0
theorem w_frames : about1.frames = Frame.invoking theMethod args0 :: below0 := rfl
set_option maxRecDepth 65536 in
theorem w_args : argsFit about1.vm theMethod args0 = true := by decide +kernel
set_option maxRecDepth 65536 in
theorem w_heap : heapFits about1 = true := by decide +kernel
set_option maxRecDepth 65536 in
theorem w_runnable : about1.curStatus? = some .runnable := by decide +kernel
set_option maxRecDepth 65536 in
theorem w_alone : about1.alone = true := by decide +kernel
set_option maxRecDepth 65536 in
theorem w_named : about1.methodNamed? x = some theMethod := by decide +kernel
set_option maxRecDepth 65536 in
theorem w_hears : about1.hears theMethod below0 = true := by decide +kernel
set_option maxRecDepth 65536 in
theorem w_ripe : about1.ripe theMethod args0 below0 = true := by decide +kernel
theorem w_running : about1.status = .running := rfl
set_option maxRecDepth 65536 in
theorem w_room : about1.hasRoom e0.platform room_1 = true :=
  launch0.hasRoom_least _ room_1 (by decide +kernel) (by decide +kernel) (by decide +kernel) (by decide +kernel) (by decide +kernel) (by decide +kernel)
theorem allAtoms_all (ts : List Jvm.Cond) (a : Array Jvm.Value) (st : Jvm.State) : (allAtoms ts).before a st = ts.all (fun c => c.before a st) := by
  induction ts with
  | nil => rfl
  | cons c t ih =>
    show (Jvm.Cond.and c (allAtoms t)).before a st = _
    rw [Jvm.Cond.before_and, ih, List.all_cons]
def words1 : List Jvm.Cond := Jvm.Cond.code x code maxLocals ret :: tables_1
/-- a 'code' word, met by the world's own term for the bytes: nothing is compared byte by byte -/
theorem code_word {y : MethodName} {bytes : ByteArray} {mx : Nat} {rt : Option FieldType} {a : Array Value} {s : State} {m : MethodId} {meth : Method} {c : Code} (h1 : s.methodNamed? y = some m) (h2 : s.vm.method? m = some meth) (h3 : meth.code = some c) (h4 : c.code = bytes)
    (h5 : (c.maxLocals == mx && c.exceptionTable.isEmpty && decide (c.maxStack ≤ mostOperands) && decide (meth.sig.returnType = rt) && !meth.locks && decide (parseMethodDescriptor y.desc = some meth.sig)) = true) : (Jvm.Cond.code y bytes mx rt).before a s = true := by
  simp only [Bool.and_eq_true, beq_iff_eq, Bool.not_eq_true', decide_eq_true_eq] at h5
  obtain ⟨⟨⟨⟨⟨g1, g2⟩, g3⟩, g4⟩, g5⟩, g6⟩ := h5
  simp [Cond.before, Cond.holds, Cond.value, h1, h2, h3, h4, g1, g2, g3, g4, g5, g6]
def isCode : Jvm.Cond → Bool
  | .code _ _ _ _ => true
  | _ => false
theorem all_split {L : List Jvm.Cond} {P : Jvm.Cond → Bool} (h1 : L.all (fun c => isCode c || P c) = true) (h2 : ∀ c ∈ L.filter isCode, P c = true) : L.all P = true := by
  refine List.all_eq_true.mpr fun c hc => ?_
  have h := List.all_eq_true.mp h1 c hc
  rcases Bool.eq_false_or_eq_true (isCode c) with hi | hi
  · exact h2 c (List.mem_filter.mpr ⟨hc, hi⟩)
  · simpa [hi] using h
set_option maxRecDepth 65536 in
theorem w_c0 : (Jvm.Cond.code x code maxLocals ret).before args0 about1 = true := code_word (m := ⟨1, 1⟩) (meth := k1m1) (c := k1c1) (by decide +kernel) rfl rfl rfl (by decide +kernel)
set_option maxRecDepth 65536 in
theorem w_c1 : (Jvm.Cond.code ({ cls := "java/lang/Integer", name := "valueOf", desc := "(I)Ljava/lang/Integer;" } : Jvm.MethodName) jdk_33_method_22_code (1 : Nat) (Option.some (Jvm.ClassFile.FieldType.object "java/lang/Integer"))).before args0 about1 = true := code_word (m := ⟨7, 0⟩) (meth := k7m0) (c := k7c0) (by decide +kernel) rfl rfl rfl (by decide +kernel)
set_option maxRecDepth 65536 in
theorem w_c2 : (Jvm.Cond.code ({ cls := "java/util/ArrayList", name := "<init>", desc := "()V" } : Jvm.MethodName) jdk_38_method_2_code (1 : Nat) (Option.none : Option Jvm.ClassFile.FieldType)).before args0 about1 = true := code_word (m := ⟨17, 0⟩) (meth := k17m0) (c := k17c0) (by decide +kernel) rfl rfl rfl (by decide +kernel)
set_option maxRecDepth 65536 in
theorem w_c3 : (Jvm.Cond.code ({ cls := "java/util/AbstractList", name := "<init>", desc := "()V" } : Jvm.MethodName) jdk_39_method_1_code (1 : Nat) (Option.none : Option Jvm.ClassFile.FieldType)).before args0 about1 = true := code_word (m := ⟨14, 0⟩) (meth := k14m0) (c := k14c0) (by decide +kernel) rfl rfl rfl (by decide +kernel)
set_option maxRecDepth 65536 in
theorem w_c4 : (Jvm.Cond.code ({ cls := "java/util/AbstractCollection", name := "<init>", desc := "()V" } : Jvm.MethodName) jdk_22_method_1_code (1 : Nat) (Option.none : Option Jvm.ClassFile.FieldType)).before args0 about1 = true := code_word (m := ⟨11, 0⟩) (meth := k11m0) (c := k11c0) (by decide +kernel) rfl rfl rfl (by decide +kernel)
set_option maxRecDepth 65536 in
theorem w_c5 : (Jvm.Cond.code ({ cls := "java/lang/Object", name := "<init>", desc := "()V" } : Jvm.MethodName) object_method_1_code (1 : Nat) (Option.none : Option Jvm.ClassFile.FieldType)).before args0 about1 = true := code_word (m := ⟨0, 0⟩) (meth := k0m0) (c := k0c0) (by decide +kernel) rfl rfl rfl (by decide +kernel)
set_option maxRecDepth 65536 in
theorem w_c6 : (Jvm.Cond.code ({ cls := "com/example/countinghouse/countinghouse/RoundTrip$Result", name := "<init>", desc := "(Ljava/util/List;I)V" } : Jvm.MethodName) prog_8_method_1_code (3 : Nat) (Option.none : Option Jvm.ClassFile.FieldType)).before args0 about1 = true := code_word (m := ⟨19, 0⟩) (meth := k19m0) (c := k19c0) (by decide +kernel) rfl rfl rfl (by decide +kernel)
set_option maxRecDepth 65536 in
theorem w_c7 : (Jvm.Cond.code ({ cls := "java/lang/Record", name := "<init>", desc := "()V" } : Jvm.MethodName) jdk_30_method_1_code (1 : Nat) (Option.none : Option Jvm.ClassFile.FieldType)).before args0 about1 = true := code_word (m := ⟨18, 0⟩) (meth := k18m0) (c := k18c0) (by decide +kernel) rfl rfl rfl (by decide +kernel)
set_option maxRecDepth 65536 in
theorem w_c8 : (Jvm.Cond.code ({ cls := "com/example/countinghouse/countinghouse/RoundTrip$Result", name := "row", desc := "()[Ljava/lang/Object;" } : Jvm.MethodName) prog_8_method_2_code (1 : Nat) (Option.some (Jvm.ClassFile.FieldType.array (Jvm.ClassFile.FieldType.object "java/lang/Object")))).before args0 about1 = true := code_word (m := ⟨19, 1⟩) (meth := k19m1) (c := k19c1) (by decide +kernel) rfl rfl rfl (by decide +kernel)
set_option maxRecDepth 65536 in
theorem w_c9 : (Jvm.Cond.code ({ cls := "java/util/ArrayList", name := "isEmpty", desc := "()Z" } : Jvm.MethodName) jdk_38_method_9_code (1 : Nat) (Option.some Jvm.ClassFile.FieldType.boolean)).before args0 about1 = true := code_word (m := ⟨17, 4⟩) (meth := k17m4) (c := k17c4) (by decide +kernel) rfl rfl rfl (by decide +kernel)
set_option maxRecDepth 65536 in
theorem w_c10 : (Jvm.Cond.code ({ cls := "com/example/countinghouse/countinghouse/RoundTrip$Result", name := "rows", desc := "()Ljava/util/List;" } : Jvm.MethodName) prog_8_method_6_code (1 : Nat) (Option.some (Jvm.ClassFile.FieldType.object "java/util/List"))).before args0 about1 = true := code_word (m := ⟨19, 2⟩) (meth := k19m2) (c := k19c2) (by decide +kernel) rfl rfl rfl (by decide +kernel)
set_option maxRecDepth 65536 in
theorem w_c11 : (Jvm.Cond.code ({ cls := "java/util/ArrayList", name := "size", desc := "()I" } : Jvm.MethodName) jdk_38_method_8_code (1 : Nat) (Option.some Jvm.ClassFile.FieldType.int)).before args0 about1 = true := code_word (m := ⟨17, 3⟩) (meth := k17m3) (c := k17c3) (by decide +kernel) rfl rfl rfl (by decide +kernel)
set_option maxRecDepth 65536 in
theorem w_c12 : (Jvm.Cond.code ({ cls := "com/example/countinghouse/countinghouse/RoundTrip$Result", name := "changed", desc := "()I" } : Jvm.MethodName) prog_8_method_7_code (1 : Nat) (Option.some Jvm.ClassFile.FieldType.int)).before args0 about1 = true := code_word (m := ⟨19, 3⟩) (meth := k19m3) (c := k19c3) (by decide +kernel) rfl rfl rfl (by decide +kernel)
set_option maxRecDepth 65536 in
theorem w_c13 : (Jvm.Cond.code ({ cls := "java/lang/Integer", name := "<init>", desc := "(I)V" } : Jvm.MethodName) jdk_33_method_23_code (2 : Nat) (Option.none : Option Jvm.ClassFile.FieldType)).before args0 about1 = true := code_word (m := ⟨7, 1⟩) (meth := k7m1) (c := k7c1) (by decide +kernel) rfl rfl rfl (by decide +kernel)
set_option maxRecDepth 65536 in
theorem w_c14 : (Jvm.Cond.code ({ cls := "java/lang/Number", name := "<init>", desc := "()V" } : Jvm.MethodName) jdk_18_method_1_code (1 : Nat) (Option.none : Option Jvm.ClassFile.FieldType)).before args0 about1 = true := code_word (m := ⟨3, 0⟩) (meth := k3m0) (c := k3c0) (by decide +kernel) rfl rfl rfl (by decide +kernel)
set_option maxRecDepth 65536 in
theorem w_c15 : (Jvm.Cond.code ({ cls := "java/util/ArrayList", name := "add", desc := "(Ljava/lang/Object;)Z" } : Jvm.MethodName) jdk_38_method_25_code (2 : Nat) (Option.some Jvm.ClassFile.FieldType.boolean)).before args0 about1 = true := code_word (m := ⟨17, 8⟩) (meth := k17m8) (c := k17c8) (by decide +kernel) rfl rfl rfl (by decide +kernel)
set_option maxRecDepth 65536 in
theorem w_c16 : (Jvm.Cond.code ({ cls := "java/util/ArrayList", name := "add", desc := "(Ljava/lang/Object;[Ljava/lang/Object;I)V" } : Jvm.MethodName) jdk_38_method_24_code (4 : Nat) (Option.none : Option Jvm.ClassFile.FieldType)).before args0 about1 = true := code_word (m := ⟨17, 7⟩) (meth := k17m7) (c := k17c7) (by decide +kernel) rfl rfl rfl (by decide +kernel)
set_option maxRecDepth 65536 in
theorem w_c17 : (Jvm.Cond.code ({ cls := "java/util/ArrayList", name := "grow", desc := "()[Ljava/lang/Object;" } : Jvm.MethodName) jdk_38_method_7_code (1 : Nat) (Option.some (Jvm.ClassFile.FieldType.array (Jvm.ClassFile.FieldType.object "java/lang/Object")))).before args0 about1 = true := code_word (m := ⟨17, 2⟩) (meth := k17m2) (c := k17c2) (by decide +kernel) rfl rfl rfl (by decide +kernel)
set_option maxRecDepth 65536 in
theorem w_c18 : (Jvm.Cond.code ({ cls := "java/util/ArrayList", name := "grow", desc := "(I)[Ljava/lang/Object;" } : Jvm.MethodName) jdk_38_method_6_code (4 : Nat) (Option.some (Jvm.ClassFile.FieldType.array (Jvm.ClassFile.FieldType.object "java/lang/Object")))).before args0 about1 = true := code_word (m := ⟨17, 1⟩) (meth := k17m1) (c := k17c1) (by decide +kernel) rfl rfl rfl (by decide +kernel)
set_option maxRecDepth 65536 in
theorem w_c19 : (Jvm.Cond.code ({ cls := "java/lang/Math", name := "max", desc := "(II)I" } : Jvm.MethodName) jdk_29_method_65_code (2 : Nat) (Option.some Jvm.ClassFile.FieldType.int)).before args0 about1 = true := code_word (m := ⟨20, 1⟩) (meth := k20m1) (c := k20c1) (by decide +kernel) rfl rfl rfl (by decide +kernel)
set_option maxRecDepth 65536 in
theorem w_c20 : (Jvm.Cond.code ({ cls := "java/util/ArrayList", name := "get", desc := "(I)Ljava/lang/Object;" } : Jvm.MethodName) jdk_38_method_20_code (2 : Nat) (Option.some (Jvm.ClassFile.FieldType.object "java/lang/Object"))).before args0 about1 = true := code_word (m := ⟨17, 6⟩) (meth := k17m6) (c := k17c6) (by decide +kernel) rfl rfl rfl (by decide +kernel)
set_option maxRecDepth 65536 in
theorem w_c21 : (Jvm.Cond.code ({ cls := "java/util/Objects", name := "checkIndex", desc := "(II)I" } : Jvm.MethodName) jdk_31_method_17_code (2 : Nat) (Option.some Jvm.ClassFile.FieldType.int)).before args0 about1 = true := code_word (m := ⟨21, 1⟩) (meth := k21m1) (c := k21c1) (by decide +kernel) rfl rfl rfl (by decide +kernel)
set_option maxRecDepth 65536 in
theorem w_c22 : (Jvm.Cond.code ({ cls := "jdk/internal/util/Preconditions", name := "checkIndex", desc := "(IILjava/util/function/BiFunction;)I" } : Jvm.MethodName) jdk_41_method_11_code (3 : Nat) (Option.some Jvm.ClassFile.FieldType.int)).before args0 about1 = true := code_word (m := ⟨22, 1⟩) (meth := k22m1) (c := k22c1) (by decide +kernel) rfl rfl rfl (by decide +kernel)
set_option maxRecDepth 65536 in
theorem w_c23 : (Jvm.Cond.code ({ cls := "java/util/ArrayList", name := "elementData", desc := "(I)Ljava/lang/Object;" } : Jvm.MethodName) jdk_38_method_18_code (2 : Nat) (Option.some (Jvm.ClassFile.FieldType.object "java/lang/Object"))).before args0 about1 = true := code_word (m := ⟨17, 5⟩) (meth := k17m5) (c := k17c5) (by decide +kernel) rfl rfl rfl (by decide +kernel)
set_option maxRecDepth 65536 in
theorem w_c24 : (Jvm.Cond.code ({ cls := "java/lang/Integer", name := "intValue", desc := "()I" } : Jvm.MethodName) jdk_33_method_27_code (1 : Nat) (Option.some Jvm.ClassFile.FieldType.int)).before args0 about1 = true := code_word (m := ⟨7, 2⟩) (meth := k7m2) (c := k7c2) (by decide +kernel) rfl rfl rfl (by decide +kernel)
def codes1 : List Jvm.Cond := [Jvm.Cond.code x code maxLocals ret, Jvm.Cond.code ({ cls := "java/lang/Integer", name := "valueOf", desc := "(I)Ljava/lang/Integer;" } : Jvm.MethodName) jdk_33_method_22_code (1 : Nat) (Option.some (Jvm.ClassFile.FieldType.object "java/lang/Integer")), Jvm.Cond.code ({ cls := "java/util/ArrayList", name := "<init>", desc := "()V" } : Jvm.MethodName) jdk_38_method_2_code (1 : Nat) (Option.none : Option Jvm.ClassFile.FieldType), Jvm.Cond.code ({ cls := "java/util/AbstractList", name := "<init>", desc := "()V" } : Jvm.MethodName) jdk_39_method_1_code (1 : Nat) (Option.none : Option Jvm.ClassFile.FieldType), Jvm.Cond.code ({ cls := "java/util/AbstractCollection", name := "<init>", desc := "()V" } : Jvm.MethodName) jdk_22_method_1_code (1 : Nat) (Option.none : Option Jvm.ClassFile.FieldType), Jvm.Cond.code ({ cls := "java/lang/Object", name := "<init>", desc := "()V" } : Jvm.MethodName) object_method_1_code (1 : Nat) (Option.none : Option Jvm.ClassFile.FieldType), Jvm.Cond.code ({ cls := "com/example/countinghouse/countinghouse/RoundTrip$Result", name := "<init>", desc := "(Ljava/util/List;I)V" } : Jvm.MethodName) prog_8_method_1_code (3 : Nat) (Option.none : Option Jvm.ClassFile.FieldType), Jvm.Cond.code ({ cls := "java/lang/Record", name := "<init>", desc := "()V" } : Jvm.MethodName) jdk_30_method_1_code (1 : Nat) (Option.none : Option Jvm.ClassFile.FieldType), Jvm.Cond.code ({ cls := "com/example/countinghouse/countinghouse/RoundTrip$Result", name := "row", desc := "()[Ljava/lang/Object;" } : Jvm.MethodName) prog_8_method_2_code (1 : Nat) (Option.some (Jvm.ClassFile.FieldType.array (Jvm.ClassFile.FieldType.object "java/lang/Object"))), Jvm.Cond.code ({ cls := "java/util/ArrayList", name := "isEmpty", desc := "()Z" } : Jvm.MethodName) jdk_38_method_9_code (1 : Nat) (Option.some Jvm.ClassFile.FieldType.boolean), Jvm.Cond.code ({ cls := "com/example/countinghouse/countinghouse/RoundTrip$Result", name := "rows", desc := "()Ljava/util/List;" } : Jvm.MethodName) prog_8_method_6_code (1 : Nat) (Option.some (Jvm.ClassFile.FieldType.object "java/util/List")), Jvm.Cond.code ({ cls := "java/util/ArrayList", name := "size", desc := "()I" } : Jvm.MethodName) jdk_38_method_8_code (1 : Nat) (Option.some Jvm.ClassFile.FieldType.int), Jvm.Cond.code ({ cls := "com/example/countinghouse/countinghouse/RoundTrip$Result", name := "changed", desc := "()I" } : Jvm.MethodName) prog_8_method_7_code (1 : Nat) (Option.some Jvm.ClassFile.FieldType.int), Jvm.Cond.code ({ cls := "java/lang/Integer", name := "<init>", desc := "(I)V" } : Jvm.MethodName) jdk_33_method_23_code (2 : Nat) (Option.none : Option Jvm.ClassFile.FieldType), Jvm.Cond.code ({ cls := "java/lang/Number", name := "<init>", desc := "()V" } : Jvm.MethodName) jdk_18_method_1_code (1 : Nat) (Option.none : Option Jvm.ClassFile.FieldType), Jvm.Cond.code ({ cls := "java/util/ArrayList", name := "add", desc := "(Ljava/lang/Object;)Z" } : Jvm.MethodName) jdk_38_method_25_code (2 : Nat) (Option.some Jvm.ClassFile.FieldType.boolean), Jvm.Cond.code ({ cls := "java/util/ArrayList", name := "add", desc := "(Ljava/lang/Object;[Ljava/lang/Object;I)V" } : Jvm.MethodName) jdk_38_method_24_code (4 : Nat) (Option.none : Option Jvm.ClassFile.FieldType), Jvm.Cond.code ({ cls := "java/util/ArrayList", name := "grow", desc := "()[Ljava/lang/Object;" } : Jvm.MethodName) jdk_38_method_7_code (1 : Nat) (Option.some (Jvm.ClassFile.FieldType.array (Jvm.ClassFile.FieldType.object "java/lang/Object"))), Jvm.Cond.code ({ cls := "java/util/ArrayList", name := "grow", desc := "(I)[Ljava/lang/Object;" } : Jvm.MethodName) jdk_38_method_6_code (4 : Nat) (Option.some (Jvm.ClassFile.FieldType.array (Jvm.ClassFile.FieldType.object "java/lang/Object"))), Jvm.Cond.code ({ cls := "java/lang/Math", name := "max", desc := "(II)I" } : Jvm.MethodName) jdk_29_method_65_code (2 : Nat) (Option.some Jvm.ClassFile.FieldType.int), Jvm.Cond.code ({ cls := "java/util/ArrayList", name := "get", desc := "(I)Ljava/lang/Object;" } : Jvm.MethodName) jdk_38_method_20_code (2 : Nat) (Option.some (Jvm.ClassFile.FieldType.object "java/lang/Object")), Jvm.Cond.code ({ cls := "java/util/Objects", name := "checkIndex", desc := "(II)I" } : Jvm.MethodName) jdk_31_method_17_code (2 : Nat) (Option.some Jvm.ClassFile.FieldType.int), Jvm.Cond.code ({ cls := "jdk/internal/util/Preconditions", name := "checkIndex", desc := "(IILjava/util/function/BiFunction;)I" } : Jvm.MethodName) jdk_41_method_11_code (3 : Nat) (Option.some Jvm.ClassFile.FieldType.int), Jvm.Cond.code ({ cls := "java/util/ArrayList", name := "elementData", desc := "(I)Ljava/lang/Object;" } : Jvm.MethodName) jdk_38_method_18_code (2 : Nat) (Option.some (Jvm.ClassFile.FieldType.object "java/lang/Object")), Jvm.Cond.code ({ cls := "java/lang/Integer", name := "intValue", desc := "()I" } : Jvm.MethodName) jdk_33_method_27_code (1 : Nat) (Option.some Jvm.ClassFile.FieldType.int)]
set_option maxRecDepth 65536 in
theorem codes_eq : words1.filter isCode = codes1 := rfl
theorem w_codes : ∀ c ∈ words1.filter isCode, c.before args0 about1 = true := by
  rw [codes_eq]
  intro c hc
  simp only [codes1, List.mem_cons, List.not_mem_nil, or_false] at hc
  rcases hc with rfl | rfl | rfl | rfl | rfl | rfl | rfl | rfl | rfl | rfl | rfl | rfl | rfl | rfl | rfl | rfl | rfl | rfl | rfl | rfl | rfl | rfl | rfl | rfl | rfl
  · exact w_c0
  · exact w_c1
  · exact w_c2
  · exact w_c3
  · exact w_c4
  · exact w_c5
  · exact w_c6
  · exact w_c7
  · exact w_c8
  · exact w_c9
  · exact w_c10
  · exact w_c11
  · exact w_c12
  · exact w_c13
  · exact w_c14
  · exact w_c15
  · exact w_c16
  · exact w_c17
  · exact w_c18
  · exact w_c19
  · exact w_c20
  · exact w_c21
  · exact w_c22
  · exact w_c23
  · exact w_c24
set_option maxRecDepth 65536 in
theorem w_t1 : (words1.take 24).all (fun c => isCode c || c.before args0 about1) = true := by decide +kernel
set_option maxRecDepth 65536 in
theorem w_t2 : ((words1.drop 24).take 24).all (fun c => isCode c || c.before args0 about1) = true := by decide +kernel
set_option maxRecDepth 65536 in
theorem w_t3 : (((words1.drop 24).drop 24).take 24).all (fun c => isCode c || c.before args0 about1) = true := by decide +kernel
set_option maxRecDepth 65536 in
theorem w_t4 : ((((words1.drop 24).drop 24).drop 24).take 24).all (fun c => isCode c || c.before args0 about1) = true := by decide +kernel
set_option maxRecDepth 65536 in
theorem w_t5 : (((((words1.drop 24).drop 24).drop 24).drop 24).take 24).all (fun c => isCode c || c.before args0 about1) = true := by decide +kernel
set_option maxRecDepth 65536 in
theorem w_t6 : ((((((words1.drop 24).drop 24).drop 24).drop 24).drop 24).take 24).all (fun c => isCode c || c.before args0 about1) = true := by decide +kernel
set_option maxRecDepth 65536 in
theorem w_t7 : ((((((words1.drop 24).drop 24).drop 24).drop 24).drop 24).drop 24).all (fun c => isCode c || c.before args0 about1) = true := by decide +kernel
theorem w_tables : (allAtoms (Jvm.Cond.code x code maxLocals ret :: tables_1)).before args0 about1 = true := by
  rw [allAtoms_all]
  show words1.all (fun c => c.before args0 about1) = true
  refine all_split ?_ w_codes
  rw [← List.take_append_drop 24 words1, List.all_append, w_t1, ← List.take_append_drop 24 (words1.drop 24), List.all_append, w_t2, ← List.take_append_drop 24 ((words1.drop 24).drop 24), List.all_append, w_t3, ← List.take_append_drop 24 (((words1.drop 24).drop 24).drop 24), List.all_append, w_t4, ← List.take_append_drop 24 ((((words1.drop 24).drop 24).drop 24).drop 24), List.all_append, w_t5, ← List.take_append_drop 24 (((((words1.drop 24).drop 24).drop 24).drop 24).drop 24), List.all_append, w_t6, w_t7]
  rfl
set_option maxRecDepth 65536 in
theorem w_rest : rest_1_c.before args0 about1 = true := by decide +kernel
set_option maxRecDepth 65536 in
theorem w_case : (Jvm.Cond.and given_1 narrow_1).before args0 about1 = true := by decide +kernel
theorem w_applies : (headSpec (Jvm.Cond.code x code maxLocals ret :: tables_1) room_1).applies x e0.platform about1 = true :=
  (Spec.applies_iff w_frames).mpr ⟨w_running, w_runnable, w_alone, w_named, w_hears, w_ripe, w_room, w_tables⟩
theorem atStart : AtStart classFile x code maxLocals ret World_1 tables_1 room_1 Calls_1 rest_1 Pre_1 launch0 p0 e0 about1 theMethod args0 below0 :=
  ⟨lists_1, trivial, launch0.admits_env _ _ _, launch0.least_env, fairChoices_fair.cas, fairChoices_fair.clock, w_frames, w_args, w_heap, w_applies, trivial, w_rest, w_case⟩
end start1
theorem witness_1 : WitnessClaimed_1 := ⟨start1.p0, start1.e0, start1.about1, start1.theMethod, start1.args0, start1.below0, start1.atStart⟩
end Jvm.Pilot.@@N@@
