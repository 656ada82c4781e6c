import JvmDerived
import JvmDerived.Pilot.@@N@@Statement
import JvmDerived.Pilot.@@N@@Code
set_option linter.unusedVariables false
set_option linter.unusedSimpArgs false
namespace Jvm.RoadKit
open Sem ClassFile Op Lib Jvm.Stand Jvm.Free Jvm.LawKit
section New
variable {p : Program} {l : Launch} {e : Env} {R : Room} {s : State} {m : MethodId} {args : Array Value} {below : List Frame} {meth : Method} {c : Code} {T : State} {locs : List Loc} {cells slots : Nat}
theorem retI (X : Stand p l e R s m args below meth c T locs cells slots) (hx : p.tables.exec = Jvm.exec) {pc : Nat} {Ls : Array Slot} {z : Int32} {rest : List Value} (hret : meth.sig.returnType = some .int) (hd : decode c.code pc = .ok (.ireturn, 1)) {fs : List Frame}
    (hl : ∀ (f : JFrame) (acts : List Action), f.method = m → f.locked = none → f.entered = [] → (doReturn e (T.setTop f) acts (some (.int z))).1 = T.setFrames fs) : Steps p.tables e below (T.setTop (mkF m pc Ls (.int z :: rest))) (T.setFrames fs) := by
  have hm' : T.vm.method? m = some meth := X.method'
  have hn : narrow .int (.int z) = .int z := rfl
  show Steps p.tables e below (T.setTop { method := m, pc := pc, locals := Ls, stack := _ :: rest, locked := none }) _
  jvm_step X.here [X.here.top, hx, hd, hm', hret, hn]
  first | (intro acts; rw [hl _ acts rfl rfl rfl]) | rw [hl _ _ rfl rfl rfl]
  exact Steps.refl _
end New
theorem own_old_le {Z : State} {n0 : Nat} {h : Heap} (O : Old Z n0 h) : n0 ≤ h.size := O.1 ▸ O.2.1
theorem own_reb {s Z : State} {vm1 : Vm} {n : Nat} {own : String} {i : ClassId} (hZ : Z.Warmed39 s.vm) (hown : s.vm.findClass own = some i) (h2 : s.Since vm1 n) : Z.Warmed39 (s.setVm vm1).vm ∧ (s.setVm vm1).vm.findClass own = some i := ⟨State.Warmed39.trans hZ h2.1, (h2.1.alike.findClass _ _).trans hown⟩
theorem own_keep_eq {h0 h h' : Heap} {ws : List Addr} (K : Keep h0 h ws) (e : h' = h) : Keep h0 h' ws := e ▸ K
end Jvm.RoadKit
namespace Jvm.Pilot.@@N@@
open Jvm Jvm.ClassFile Sem Op Lib Jvm.Free Jvm.Stand Jvm.LawKit Jvm.RoadKit Bundle Jvm.Pilot.@@N@@.Jvm.D

theorem own_nz {q1 : Int64} (h : (0 : Int64) < q1) : ¬ (lcmpW q1 (0 : Int64) = (0 : Int32)) := fun u => by
  have e := (lw_eq q1 0).mp u
  rw [e] at h
  exact absurd h (by decide)
theorem own_nn (x : Int64) : ¬ ((x &&& (9223372036854775807 : Int64)) < (0 : Int64)) := by
  have e := c_maskL x 9223372036854775807 63 (by decide) rfl
  have e0 : (0 : Int64).toInt = 0 := rfl
  rw [Int64.lt_iff_toInt_lt, e0]
  omega
theorem own_pos {x z : Int64} (h : z = (if lcmpW (x &&& (9223372036854775807 : Int64)) (0 : Int64) = (0 : Int32) then (1 : Int64) else (x &&& (9223372036854775807 : Int64)))) : (0 : Int64) < z := by
  by_cases q : lcmpW (x &&& (9223372036854775807 : Int64)) (0 : Int64) = (0 : Int32)
  · rw [h, if_pos q]; decide
  · rw [h, if_neg q]
    have e := c_maskL x 9223372036854775807 63 (by decide) rfl
    have q' : (x &&& (9223372036854775807 : Int64)).toInt ≠ 0 := fun u => q ((lw_eq _ _).mpr (Int64.toInt_inj.mp u))
    have e0 : (0 : Int64).toInt = 0 := rfl
    rw [Int64.lt_iff_toInt_lt, e0]
    omega
theorem w_0 {a0 : Array Value} {Z : State} (hw : ∀ d ∈ tables_1, d.before a0 Z = true) : (Jvm.Cond.constantLong "com/example/inlock/inlock/OutcomeHeldPinLaw" (9 : Nat) (9223372036854775807 : Int64)).before a0 Z = true := hw _ (List.mem_of_getElem? (i := 0) rfl)
theorem w_1 {a0 : Array Value} {Z : State} (hw : ∀ d ∈ tables_1, d.before a0 Z = true) : (Jvm.Cond.methodLink "com/example/inlock/inlock/OutcomeHeldPinLaw" (11 : Nat) ({ cls := "com/example/inlock/inlock/LockStore$Outcome", name := "held", desc := "(JJ)Lcom/example/inlock/inlock/LockStore$Outcome;" } : Jvm.MethodName)).before a0 Z = true := hw _ (List.mem_of_getElem? (i := 1) rfl)
theorem w_2 {a0 : Array Value} {Z : State} (hw : ∀ d ∈ tables_1, d.before a0 Z = true) : (Jvm.Cond.static ({ cls := "com/example/inlock/inlock/LockStore$Outcome", name := "held", desc := "(JJ)Lcom/example/inlock/inlock/LockStore$Outcome;" } : Jvm.MethodName)).before a0 Z = true := hw _ (List.mem_of_getElem? (i := 2) rfl)
theorem w_3 {a0 : Array Value} {Z : State} (hw : ∀ d ∈ tables_1, d.before a0 Z = true) : (Jvm.Cond.initialized "com/example/inlock/inlock/LockStore$Outcome").before a0 Z = true := hw _ (List.mem_of_getElem? (i := 3) rfl)
theorem w_4 {a0 : Array Value} {Z : State} (hw : ∀ d ∈ tables_1, d.before a0 Z = true) : (Jvm.Cond.code ({ cls := "com/example/inlock/inlock/LockStore$Outcome", name := "held", desc := "(JJ)Lcom/example/inlock/inlock/LockStore$Outcome;" } : Jvm.MethodName) prog_21_method_2_code (4 : Nat) (Option.some (Jvm.ClassFile.FieldType.object "com/example/inlock/inlock/LockStore$Outcome"))).before a0 Z = true := hw _ (List.mem_of_getElem? (i := 4) rfl)
theorem w_5 {a0 : Array Value} {Z : State} (hw : ∀ d ∈ tables_1, d.before a0 Z = true) : (Jvm.Cond.classLink "com/example/inlock/inlock/LockStore$Outcome" (45 : Nat) "com/example/inlock/inlock/LockStore$Outcome").before a0 Z = true := hw _ (List.mem_of_getElem? (i := 5) rfl)
theorem w_6 {a0 : Array Value} {Z : State} (hw : ∀ d ∈ tables_1, d.before a0 Z = true) : (Jvm.Cond.instantiable "com/example/inlock/inlock/LockStore$Outcome" (3 : Nat)).before a0 Z = true := hw _ (List.mem_of_getElem? (i := 6) rfl)
theorem w_7 {a0 : Array Value} {Z : State} (hw : ∀ d ∈ tables_1, d.before a0 Z = true) : (Jvm.Cond.fieldLink "com/example/inlock/inlock/LockStore$Outcome" (21 : Nat) "java/time/Duration" "ZERO" "Ljava/time/Duration;").before a0 Z = true := hw _ (List.mem_of_getElem? (i := 7) rfl)
theorem w_8 {a0 : Array Value} {Z : State} (hw : ∀ d ∈ tables_1, d.before a0 Z = true) : (Jvm.Cond.initialized "java/time/Duration").before a0 Z = true := hw _ (List.mem_of_getElem? (i := 8) rfl)
theorem w_9 {a0 : Array Value} {Z : State} (hw : ∀ d ∈ tables_1, d.before a0 Z = true) : (Jvm.Cond.methodLink "com/example/inlock/inlock/LockStore$Outcome" (55 : Nat) ({ cls := "com/example/inlock/inlock/LockStore$Outcome", name := "<init>", desc := "(JLjava/time/Duration;J)V" } : Jvm.MethodName)).before a0 Z = true := hw _ (List.mem_of_getElem? (i := 9) rfl)
theorem w_10 {a0 : Array Value} {Z : State} (hw : ∀ d ∈ tables_1, d.before a0 Z = true) : (Jvm.Cond.instanceMethod ({ cls := "com/example/inlock/inlock/LockStore$Outcome", name := "<init>", desc := "(JLjava/time/Duration;J)V" } : Jvm.MethodName)).before a0 Z = true := hw _ (List.mem_of_getElem? (i := 10) rfl)
theorem w_11 {a0 : Array Value} {Z : State} (hw : ∀ d ∈ tables_1, d.before a0 Z = true) : (Jvm.Cond.code ({ cls := "com/example/inlock/inlock/LockStore$Outcome", name := "<init>", desc := "(JLjava/time/Duration;J)V" } : Jvm.MethodName) prog_21_method_1_code (8 : Nat) (Option.none : Option Jvm.ClassFile.FieldType)).before a0 Z = true := hw _ (List.mem_of_getElem? (i := 11) rfl)
theorem w_12 {a0 : Array Value} {Z : State} (hw : ∀ d ∈ tables_1, d.before a0 Z = true) : (Jvm.Cond.methodLink "com/example/inlock/inlock/LockStore$Outcome" (1 : Nat) ({ cls := "java/lang/Record", name := "<init>", desc := "()V" } : Jvm.MethodName)).before a0 Z = true := hw _ (List.mem_of_getElem? (i := 12) rfl)
theorem w_13 {a0 : Array Value} {Z : State} (hw : ∀ d ∈ tables_1, d.before a0 Z = true) : (Jvm.Cond.instanceMethod ({ cls := "java/lang/Record", name := "<init>", desc := "()V" } : Jvm.MethodName)).before a0 Z = true := hw _ (List.mem_of_getElem? (i := 13) rfl)
theorem w_15 {a0 : Array Value} {Z : State} (hw : ∀ d ∈ tables_1, d.before a0 Z = true) : (Jvm.Cond.initialized "java/lang/Record").before a0 Z = true := hw _ (List.mem_of_getElem? (i := 15) rfl)
theorem w_16 {a0 : Array Value} {Z : State} (hw : ∀ d ∈ tables_1, d.before a0 Z = true) : (Jvm.Cond.code ({ cls := "java/lang/Record", name := "<init>", desc := "()V" } : Jvm.MethodName) jdk_30_method_1_code (1 : Nat) (Option.none : Option Jvm.ClassFile.FieldType)).before a0 Z = true := hw _ (List.mem_of_getElem? (i := 16) rfl)
theorem w_17 {a0 : Array Value} {Z : State} (hw : ∀ d ∈ tables_1, d.before a0 Z = true) : (Jvm.Cond.methodLink "java/lang/Record" (1 : Nat) ({ cls := "java/lang/Object", name := "<init>", desc := "()V" } : Jvm.MethodName)).before a0 Z = true := hw _ (List.mem_of_getElem? (i := 17) rfl)
theorem w_18 {a0 : Array Value} {Z : State} (hw : ∀ d ∈ tables_1, d.before a0 Z = true) : (Jvm.Cond.instanceMethod ({ cls := "java/lang/Object", name := "<init>", desc := "()V" } : Jvm.MethodName)).before a0 Z = true := hw _ (List.mem_of_getElem? (i := 18) rfl)
theorem w_19 {a0 : Array Value} {Z : State} (hw : ∀ d ∈ tables_1, d.before a0 Z = true) : (Jvm.Cond.code ({ cls := "java/lang/Object", name := "<init>", desc := "()V" } : Jvm.MethodName) object_method_1_code (1 : Nat) (Option.none : Option Jvm.ClassFile.FieldType)).before a0 Z = true := hw _ (List.mem_of_getElem? (i := 19) rfl)
theorem w_20 {a0 : Array Value} {Z : State} (hw : ∀ d ∈ tables_1, d.before a0 Z = true) : (Jvm.Cond.stringLink "com/example/inlock/inlock/LockStore$Outcome" (7 : Nat) "retry").before a0 Z = true := hw _ (List.mem_of_getElem? (i := 20) rfl)
theorem w_21 {a0 : Array Value} {Z : State} (hw : ∀ d ∈ tables_1, d.before a0 Z = true) : (Jvm.Cond.initialized "java/lang/String").before a0 Z = true := hw _ (List.mem_of_getElem? (i := 21) rfl)
theorem w_22 {a0 : Array Value} {Z : State} (hw : ∀ d ∈ tables_1, d.before a0 Z = true) : (Jvm.Cond.instantiable "java/lang/String" (4 : Nat)).before a0 Z = true := hw _ (List.mem_of_getElem? (i := 22) rfl)
theorem w_23 {a0 : Array Value} {Z : State} (hw : ∀ d ∈ tables_1, d.before a0 Z = true) : (Jvm.Cond.arrayClass Jvm.ClassFile.FieldType.byte).before a0 Z = true := hw _ (List.mem_of_getElem? (i := 23) rfl)
theorem w_24 {a0 : Array Value} {Z : State} (hw : ∀ d ∈ tables_1, d.before a0 Z = true) : (Jvm.Cond.laysFinal "java/lang/String" "java/lang/String" "value" "[B").before a0 Z = true := hw _ (List.mem_of_getElem? (i := 24) rfl)
theorem w_25 {a0 : Array Value} {Z : State} (hw : ∀ d ∈ tables_1, d.before a0 Z = true) : (Jvm.Cond.laysFinal "java/lang/String" "java/lang/String" "coder" "B").before a0 Z = true := hw _ (List.mem_of_getElem? (i := 25) rfl)
theorem w_26 {a0 : Array Value} {Z : State} (hw : ∀ d ∈ tables_1, d.before a0 Z = true) : (Jvm.Cond.soleField "java/lang/String" "value").before a0 Z = true := hw _ (List.mem_of_getElem? (i := 26) rfl)
theorem w_27 {a0 : Array Value} {Z : State} (hw : ∀ d ∈ tables_1, d.before a0 Z = true) : (Jvm.Cond.soleField "java/lang/String" "coder").before a0 Z = true := hw _ (List.mem_of_getElem? (i := 27) rfl)
theorem w_28 {a0 : Array Value} {Z : State} (hw : ∀ d ∈ tables_1, d.before a0 Z = true) : (Jvm.Cond.methodLink "com/example/inlock/inlock/LockStore$Outcome" (9 : Nat) ({ cls := "java/util/Objects", name := "requireNonNull", desc := "(Ljava/lang/Object;Ljava/lang/String;)Ljava/lang/Object;" } : Jvm.MethodName)).before a0 Z = true := hw _ (List.mem_of_getElem? (i := 28) rfl)
theorem w_29 {a0 : Array Value} {Z : State} (hw : ∀ d ∈ tables_1, d.before a0 Z = true) : (Jvm.Cond.static ({ cls := "java/util/Objects", name := "requireNonNull", desc := "(Ljava/lang/Object;Ljava/lang/String;)Ljava/lang/Object;" } : Jvm.MethodName)).before a0 Z = true := hw _ (List.mem_of_getElem? (i := 29) rfl)
theorem w_30 {a0 : Array Value} {Z : State} (hw : ∀ d ∈ tables_1, d.before a0 Z = true) : (Jvm.Cond.initialized "java/util/Objects").before a0 Z = true := hw _ (List.mem_of_getElem? (i := 30) rfl)
theorem w_31 {a0 : Array Value} {Z : State} (hw : ∀ d ∈ tables_1, d.before a0 Z = true) : (Jvm.Cond.code ({ cls := "java/util/Objects", name := "requireNonNull", desc := "(Ljava/lang/Object;Ljava/lang/String;)Ljava/lang/Object;" } : Jvm.MethodName) jdk_31_method_11_code (2 : Nat) (Option.some (Jvm.ClassFile.FieldType.object "java/lang/Object"))).before a0 Z = true := hw _ (List.mem_of_getElem? (i := 31) rfl)
theorem w_32 {a0 : Array Value} {Z : State} (hw : ∀ d ∈ tables_1, d.before a0 Z = true) : (Jvm.Cond.methodLink "com/example/inlock/inlock/LockStore$Outcome" (15 : Nat) ({ cls := "java/time/Duration", name := "isZero", desc := "()Z" } : Jvm.MethodName)).before a0 Z = true := hw _ (List.mem_of_getElem? (i := 32) rfl)
theorem w_33 {a0 : Array Value} {Z : State} (hw : ∀ d ∈ tables_1, d.before a0 Z = true) : (Jvm.Cond.declares ({ cls := "java/time/Duration", name := "isZero", desc := "()Z" } : Jvm.MethodName)).before a0 Z = true := hw _ (List.mem_of_getElem? (i := 33) rfl)
theorem w_34 {a0 : Array Value} {Z : State} (hw : ∀ d ∈ tables_1, d.before a0 Z = true) : (Jvm.Cond.instanceMethod ({ cls := "java/time/Duration", name := "isZero", desc := "()Z" } : Jvm.MethodName)).before a0 Z = true := hw _ (List.mem_of_getElem? (i := 34) rfl)
theorem w_35 {a0 : Array Value} {Z : State} (hw : ∀ d ∈ tables_1, d.before a0 Z = true) : (Jvm.Cond.selects "java/time/Duration" ({ cls := "java/time/Duration", name := "isZero", desc := "()Z" } : Jvm.MethodName) ({ cls := "java/time/Duration", name := "isZero", desc := "()Z" } : Jvm.MethodName)).before a0 Z = true := hw _ (List.mem_of_getElem? (i := 35) rfl)
theorem w_36 {a0 : Array Value} {Z : State} (hw : ∀ d ∈ tables_1, d.before a0 Z = true) : (Jvm.Cond.code ({ cls := "java/time/Duration", name := "isZero", desc := "()Z" } : Jvm.MethodName) jdk_2316_method_21_code (1 : Nat) (Option.some Jvm.ClassFile.FieldType.boolean)).before a0 Z = true := hw _ (List.mem_of_getElem? (i := 36) rfl)
theorem w_37 {a0 : Array Value} {Z : State} (hw : ∀ d ∈ tables_1, d.before a0 Z = true) : (Jvm.Cond.fieldLink "java/time/Duration" (221 : Nat) "java/time/Duration" "seconds" "J").before a0 Z = true := hw _ (List.mem_of_getElem? (i := 37) rfl)
theorem w_39 {a0 : Array Value} {Z : State} (hw : ∀ d ∈ tables_1, d.before a0 Z = true) : (Jvm.Cond.fieldLink "java/time/Duration" (224 : Nat) "java/time/Duration" "nanos" "I").before a0 Z = true := hw _ (List.mem_of_getElem? (i := 39) rfl)
theorem w_41 {a0 : Array Value} {Z : State} (hw : ∀ d ∈ tables_1, d.before a0 Z = true) : (Jvm.Cond.fieldLink "com/example/inlock/inlock/LockStore$Outcome" (44 : Nat) "com/example/inlock/inlock/LockStore$Outcome" "holds" "J").before a0 Z = true := hw _ (List.mem_of_getElem? (i := 41) rfl)
theorem w_42 {a0 : Array Value} {Z : State} (hw : ∀ d ∈ tables_1, d.before a0 Z = true) : (Jvm.Cond.laysFinal "com/example/inlock/inlock/LockStore$Outcome" "com/example/inlock/inlock/LockStore$Outcome" "holds" "J").before a0 Z = true := hw _ (List.mem_of_getElem? (i := 42) rfl)
theorem w_43 {a0 : Array Value} {Z : State} (hw : ∀ d ∈ tables_1, d.before a0 Z = true) : (Jvm.Cond.fieldLink "com/example/inlock/inlock/LockStore$Outcome" (50 : Nat) "com/example/inlock/inlock/LockStore$Outcome" "retry" "Ljava/time/Duration;").before a0 Z = true := hw _ (List.mem_of_getElem? (i := 43) rfl)
theorem w_44 {a0 : Array Value} {Z : State} (hw : ∀ d ∈ tables_1, d.before a0 Z = true) : (Jvm.Cond.laysFinal "com/example/inlock/inlock/LockStore$Outcome" "com/example/inlock/inlock/LockStore$Outcome" "retry" "Ljava/time/Duration;").before a0 Z = true := hw _ (List.mem_of_getElem? (i := 44) rfl)
theorem w_45 {a0 : Array Value} {Z : State} (hw : ∀ d ∈ tables_1, d.before a0 Z = true) : (Jvm.Cond.fieldLink "com/example/inlock/inlock/LockStore$Outcome" (52 : Nat) "com/example/inlock/inlock/LockStore$Outcome" "token" "J").before a0 Z = true := hw _ (List.mem_of_getElem? (i := 45) rfl)
theorem w_46 {a0 : Array Value} {Z : State} (hw : ∀ d ∈ tables_1, d.before a0 Z = true) : (Jvm.Cond.laysFinal "com/example/inlock/inlock/LockStore$Outcome" "com/example/inlock/inlock/LockStore$Outcome" "token" "J").before a0 Z = true := hw _ (List.mem_of_getElem? (i := 46) rfl)
theorem w_47 {a0 : Array Value} {Z : State} (hw : ∀ d ∈ tables_1, d.before a0 Z = true) : (Jvm.Cond.methodLink "com/example/inlock/inlock/OutcomeHeldPinLaw" (17 : Nat) ({ cls := "com/example/inlock/inlock/LockStore$Outcome", name := "holds", desc := "()J" } : Jvm.MethodName)).before a0 Z = true := hw _ (List.mem_of_getElem? (i := 47) rfl)
theorem w_48 {a0 : Array Value} {Z : State} (hw : ∀ d ∈ tables_1, d.before a0 Z = true) : (Jvm.Cond.declares ({ cls := "com/example/inlock/inlock/LockStore$Outcome", name := "holds", desc := "()J" } : Jvm.MethodName)).before a0 Z = true := hw _ (List.mem_of_getElem? (i := 48) rfl)
theorem w_49 {a0 : Array Value} {Z : State} (hw : ∀ d ∈ tables_1, d.before a0 Z = true) : (Jvm.Cond.instanceMethod ({ cls := "com/example/inlock/inlock/LockStore$Outcome", name := "holds", desc := "()J" } : Jvm.MethodName)).before a0 Z = true := hw _ (List.mem_of_getElem? (i := 49) rfl)
theorem w_50 {a0 : Array Value} {Z : State} (hw : ∀ d ∈ tables_1, d.before a0 Z = true) : (Jvm.Cond.selects "com/example/inlock/inlock/LockStore$Outcome" ({ cls := "com/example/inlock/inlock/LockStore$Outcome", name := "holds", desc := "()J" } : Jvm.MethodName) ({ cls := "com/example/inlock/inlock/LockStore$Outcome", name := "holds", desc := "()J" } : Jvm.MethodName)).before a0 Z = true := hw _ (List.mem_of_getElem? (i := 50) rfl)
theorem w_51 {a0 : Array Value} {Z : State} (hw : ∀ d ∈ tables_1, d.before a0 Z = true) : (Jvm.Cond.code ({ cls := "com/example/inlock/inlock/LockStore$Outcome", name := "holds", desc := "()J" } : Jvm.MethodName) prog_21_method_8_code (1 : Nat) (Option.some Jvm.ClassFile.FieldType.long)).before a0 Z = true := hw _ (List.mem_of_getElem? (i := 51) rfl)
theorem w_52 {a0 : Array Value} {Z : State} (hw : ∀ d ∈ tables_1, d.before a0 Z = true) : (Jvm.Cond.methodLink "com/example/inlock/inlock/OutcomeHeldPinLaw" (21 : Nat) ({ cls := "com/example/inlock/inlock/LockStore$Outcome", name := "token", desc := "()J" } : Jvm.MethodName)).before a0 Z = true := hw _ (List.mem_of_getElem? (i := 52) rfl)
theorem w_53 {a0 : Array Value} {Z : State} (hw : ∀ d ∈ tables_1, d.before a0 Z = true) : (Jvm.Cond.declares ({ cls := "com/example/inlock/inlock/LockStore$Outcome", name := "token", desc := "()J" } : Jvm.MethodName)).before a0 Z = true := hw _ (List.mem_of_getElem? (i := 53) rfl)
theorem w_54 {a0 : Array Value} {Z : State} (hw : ∀ d ∈ tables_1, d.before a0 Z = true) : (Jvm.Cond.instanceMethod ({ cls := "com/example/inlock/inlock/LockStore$Outcome", name := "token", desc := "()J" } : Jvm.MethodName)).before a0 Z = true := hw _ (List.mem_of_getElem? (i := 54) rfl)
theorem w_55 {a0 : Array Value} {Z : State} (hw : ∀ d ∈ tables_1, d.before a0 Z = true) : (Jvm.Cond.selects "com/example/inlock/inlock/LockStore$Outcome" ({ cls := "com/example/inlock/inlock/LockStore$Outcome", name := "token", desc := "()J" } : Jvm.MethodName) ({ cls := "com/example/inlock/inlock/LockStore$Outcome", name := "token", desc := "()J" } : Jvm.MethodName)).before a0 Z = true := hw _ (List.mem_of_getElem? (i := 55) rfl)
theorem w_56 {a0 : Array Value} {Z : State} (hw : ∀ d ∈ tables_1, d.before a0 Z = true) : (Jvm.Cond.code ({ cls := "com/example/inlock/inlock/LockStore$Outcome", name := "token", desc := "()J" } : Jvm.MethodName) prog_21_method_10_code (1 : Nat) (Option.some Jvm.ClassFile.FieldType.long)).before a0 Z = true := hw _ (List.mem_of_getElem? (i := 56) rfl)
theorem w_57 {a0 : Array Value} {Z : State} (hw : ∀ d ∈ tables_1, d.before a0 Z = true) : (Jvm.Cond.methodLink "com/example/inlock/inlock/OutcomeHeldPinLaw" (24 : Nat) ({ cls := "com/example/inlock/inlock/LockStore$Outcome", name := "acquired", desc := "()Z" } : Jvm.MethodName)).before a0 Z = true := hw _ (List.mem_of_getElem? (i := 57) rfl)
theorem w_58 {a0 : Array Value} {Z : State} (hw : ∀ d ∈ tables_1, d.before a0 Z = true) : (Jvm.Cond.declares ({ cls := "com/example/inlock/inlock/LockStore$Outcome", name := "acquired", desc := "()Z" } : Jvm.MethodName)).before a0 Z = true := hw _ (List.mem_of_getElem? (i := 58) rfl)
theorem w_59 {a0 : Array Value} {Z : State} (hw : ∀ d ∈ tables_1, d.before a0 Z = true) : (Jvm.Cond.instanceMethod ({ cls := "com/example/inlock/inlock/LockStore$Outcome", name := "acquired", desc := "()Z" } : Jvm.MethodName)).before a0 Z = true := hw _ (List.mem_of_getElem? (i := 59) rfl)
theorem w_60 {a0 : Array Value} {Z : State} (hw : ∀ d ∈ tables_1, d.before a0 Z = true) : (Jvm.Cond.selects "com/example/inlock/inlock/LockStore$Outcome" ({ cls := "com/example/inlock/inlock/LockStore$Outcome", name := "acquired", desc := "()Z" } : Jvm.MethodName) ({ cls := "com/example/inlock/inlock/LockStore$Outcome", name := "acquired", desc := "()Z" } : Jvm.MethodName)).before a0 Z = true := hw _ (List.mem_of_getElem? (i := 60) rfl)
theorem w_61 {a0 : Array Value} {Z : State} (hw : ∀ d ∈ tables_1, d.before a0 Z = true) : (Jvm.Cond.code ({ cls := "com/example/inlock/inlock/LockStore$Outcome", name := "acquired", desc := "()Z" } : Jvm.MethodName) prog_21_method_4_code (1 : Nat) (Option.some Jvm.ClassFile.FieldType.boolean)).before a0 Z = true := hw _ (List.mem_of_getElem? (i := 61) rfl)
theorem d3_0 : decode jdk_30_method_1_code 0 = .ok (.aload_n 0, 1) := by decide +kernel
theorem d3_1 : decode jdk_30_method_1_code 1 = .ok (.invokespecial 1, 3) := by decide +kernel
theorem d3_4 : decode jdk_30_method_1_code 4 = .ok (.return_, 1) := by decide +kernel
def Q_recInit (Z : State) (a : Addr) (h0 : Heap) (n0 : Nat) (v : Option Value) (h : Heap) (L : List Loc) : Prop := v = none ∧ Fr n0 L ∧ Keep h0 h []
theorem pn_java_lang_Record : plainName "java/lang/Record" = true := by first | (simp [plainName, overriddenIn]; done) | decide +kernel
theorem ef_rm_recInit (m : MethodId) (x0 : Addr) : entryFrame m #[(.ref x0)] 1 = mkF m 0 #[.val (.ref x0)] [] := by first | (simp [entryFrame, mkF, argsToLocals, Value.category]; done) | rfl
set_option maxRecDepth 65536 in
set_option maxHeartbeats 40000000 in
theorem rm_recInit (l : Launch) (Z : State) (a0 : Array Value) (hw : ∀ d ∈ tables_1, d.before a0 Z = true) (ws : List Jvm.Cond) (a : Addr) (h0 : Heap) (n0 : Nat) (O0 : Old Z n0 h0) :
    MetFree l (⟨"java/lang/Record", "<init>", "()V"⟩ : MethodName) (head1 (Jvm.Cond.code (⟨"java/lang/Record", "<init>", "()V"⟩ : MethodName) jdk_30_method_1_code 1 none :: ws) ({ frames := 1, cells := 0, slots := 0, locals := 12 } : Room)) (fun as' U => as' = #[(.ref a)] ∧ Z.Warmed39 U.vm ∧ U.heap = h0) (fun _ _ _ _ _ => True) (fun _ U o U' => ∃ v L, o = .returned v ∧ Q_recInit Z a h0 n0 v U'.heap L ∧ FrameEnd U o U' L ({ frames := 1, cells := 0, slots := 0, locals := 12 } : Room).cells ({ frames := 1, cells := 0, slots := 0, locals := 12 } : Room).slots) := by
  refine MetFree.of_bodySF (plainFor_of_name pn_java_lang_Record) hisR ?_
  intro p e s m args below meth c s₁ Bd hml0 hP hK
  obtain ⟨rfl, hZ, hh⟩ := hP
  have hx := Bd.exec
  have hby := Bd.bytes
  have hml : c.maxLocals = 1 := hml0
  have hown : s.vm.findClass "java/lang/Record" = some m.cls := findClass_of_methodNamed Bd.named
  have hnm := (name_of_methodNamed Bd.named Bd.method).1
  have X0 : Stand p l e ({ frames := 1, cells := 0, slots := 0, locals := 12 } : Room) s m #[(.ref a)] below meth c s₁ [] 0 0 := Stand.of_body Bd
  have e0 : s₁.heap = h0 := by rw [← hh, Bd.state]; rfl
  have N0 := Fr.nil n0
  have K0 : Keep h0 h0 [] := Keep.refl _ _
  have pre0 : ∀ t, Steps p.tables e below (s₁.setTop (mkF m 0 #[.val (.ref a)] [])) t → Steps p.tables e below (s₁.setTop (entryFrame m #[(.ref a)] 1)) t := fun t k => castTop (ef_rm_recInit m a) k
  obtain ⟨T1, X1, e1, st1⟩ := initO X0 hx hZ hown (w_17 hw) (w_18 hw) (w_19 hw) e0 (g := (mkF m 1 #[.val (.ref a)] [(.ref a)])) rfl (by rw [hml]; rfl) rfl (hb hby d3_1) (by decide) (W := 0) (by show 2 * 0 + _ ≤ _; exact Nat.le_of_eq rfl) (by decide)
  obtain ⟨fs, hr, hrun, hended, hW, hsame⟩ := X1.leave (v := none) (fun _ => rfl)
  refine ⟨_, _, pre0 _ ?_, hrun, hended, _, _, rfl, ?_, ⟨_, rfl⟩, hW, hsame.mono (by decide) (by decide)⟩
  · show Steps p.tables e below (s₁.setTop (mkF m 0 #[.val (.ref a)] [])) _
    refine XS.aloadN X0.here hx rfl (hb hby d3_0) rfl rfl ?_
    show Steps p.tables e below (s₁.setTop (mkF m 1 #[.val (.ref a)] [(.ref a)])) _
    refine st1 _ ?_
    show Steps p.tables e below (T1.setTop (mkF m 4 #[.val (.ref a)] [])) _
    exact X1.returnOut hx Bd.returns (hb hby d3_4) hr
  · show Q_recInit Z a h0 n0 _ T1.heap _
    rw [e1]
    exact ⟨rfl, N0, K0⟩
theorem d5_0 : decode jdk_31_method_11_code 0 = .ok (.aload_n 0, 1) := by decide +kernel
theorem d5_1 : decode jdk_31_method_11_code 1 = .ok (.ifnonnull 12, 3) := by decide +kernel
theorem d5_13 : decode jdk_31_method_11_code 13 = .ok (.aload_n 0, 1) := by decide +kernel
theorem d5_14 : decode jdk_31_method_11_code 14 = .ok (.areturn, 1) := by decide +kernel
def Q_rnn (Z : State) (a : Addr) (t1 : Addr) (h0 : Heap) (n0 : Nat) (v : Option Value) (h : Heap) (L : List Loc) : Prop := v = some (.ref a) ∧ Fr n0 L ∧ Keep h0 h []
theorem pn_java_util_Objects : plainName "java/util/Objects" = true := by first | (simp [plainName, overriddenIn]; done) | decide +kernel
theorem ef_rm_rnn (m : MethodId) (x0 : Addr) (x1 : Addr) : entryFrame m #[(.ref x0), (.ref x1)] 2 = mkF m 0 #[.val (.ref x0), .val (.ref x1)] [] := by first | (simp [entryFrame, mkF, argsToLocals, Value.category]; done) | rfl
set_option maxRecDepth 65536 in
set_option maxHeartbeats 40000000 in
theorem rm_rnn (l : Launch) (Z : State) (a0 : Array Value) (hw : ∀ d ∈ tables_1, d.before a0 Z = true) (ws : List Jvm.Cond) (a : Addr) (t1 : Addr) (h0 : Heap) (n0 : Nat) (O0 : Old Z n0 h0) :
    MetFree l (⟨"java/util/Objects", "requireNonNull", "(Ljava/lang/Object;Ljava/lang/String;)Ljava/lang/Object;"⟩ : MethodName) (head1 (Jvm.Cond.code (⟨"java/util/Objects", "requireNonNull", "(Ljava/lang/Object;Ljava/lang/String;)Ljava/lang/Object;"⟩ : MethodName) jdk_31_method_11_code 2 (some (.object "java/lang/Object")) :: ws) ({ frames := 0, cells := 0, slots := 0, locals := 0 } : Room)) (fun as' U => as' = #[(.ref a), (.ref t1)] ∧ Z.Warmed39 U.vm ∧ U.heap = h0) (fun _ _ _ _ _ => True) (fun _ U o U' => ∃ v L, o = .returned v ∧ Q_rnn Z a t1 h0 n0 v U'.heap L ∧ FrameEnd U o U' L ({ frames := 0, cells := 0, slots := 0, locals := 0 } : Room).cells ({ frames := 0, cells := 0, slots := 0, locals := 0 } : Room).slots) := by
  refine MetFree.of_bodySF (plainFor_of_name pn_java_util_Objects) hisR ?_
  intro p e s m args below meth c s₁ Bd hml0 hP hK
  obtain ⟨rfl, hZ, hh⟩ := hP
  have hx := Bd.exec
  have hby := Bd.bytes
  have hml : c.maxLocals = 2 := hml0
  have hown : s.vm.findClass "java/util/Objects" = some m.cls := findClass_of_methodNamed Bd.named
  have hnm := (name_of_methodNamed Bd.named Bd.method).1
  have X0 : Stand p l e ({ frames := 0, cells := 0, slots := 0, locals := 0 } : Room) s m #[(.ref a), (.ref t1)] below meth c s₁ [] 0 0 := Stand.of_body Bd
  have e0 : s₁.heap = h0 := by rw [← hh, Bd.state]; rfl
  have N0 := Fr.nil n0
  have K0 : Keep h0 h0 [] := Keep.refl _ _
  have pre0 : ∀ t, Steps p.tables e below (s₁.setTop (mkF m 0 #[.val (.ref a), .val (.ref t1)] [])) t → Steps p.tables e below (s₁.setTop (entryFrame m #[(.ref a), (.ref t1)] 2)) t := fun t k => castTop (ef_rm_rnn m a t1) k
  obtain ⟨fs, hr, hrun, hended, hW, hsame⟩ := X0.leave (v := some (.ref a)) (fun h => by rw [Bd.returns] at h; cases h)
  refine ⟨_, _, pre0 _ ?_, hrun, hended, _, _, rfl, ?_, ⟨_, rfl⟩, hW, hsame.mono (by decide) (by decide)⟩
  · show Steps p.tables e below (s₁.setTop (mkF m 0 #[.val (.ref a), .val (.ref t1)] [])) _
    refine XS.aloadN X0.here hx rfl (hb hby d5_0) rfl rfl ?_
    show Steps p.tables e below (s₁.setTop (mkF m 1 #[.val (.ref a), .val (.ref t1)] [(.ref a)])) _
    refine XS.ifnonnullYes X0.here hx rfl (pc0 := 1) (pc' := 13) rfl (hb hby d5_1) rfl (by decide) (by decide) ?_
    show Steps p.tables e below (s₁.setTop (mkF m 13 #[.val (.ref a), .val (.ref t1)] [])) _
    refine XS.aloadN X0.here hx rfl (hb hby d5_13) rfl rfl ?_
    show Steps p.tables e below (s₁.setTop (mkF m 14 #[.val (.ref a), .val (.ref t1)] [(.ref a)])) _
    jvm_step X0.here [X0.here.top, hx, (hb hby d5_14), X0.method', Bd.returns, Value.isRef, FieldType.isReference]
    first | (intro acts; rw [hr _ acts rfl rfl rfl]) | rw [hr _ _ rfl rfl rfl]
    exact Steps.refl _
  · show Q_rnn Z a t1 h0 n0 _ s₁.heap _
    rw [e0]
    exact ⟨rfl, N0, K0⟩
theorem d6_0 : decode jdk_2316_method_21_code 0 = .ok (.aload_n 0, 1) := by decide +kernel
theorem d6_1 : decode jdk_2316_method_21_code 1 = .ok (.getfield 221, 3) := by decide +kernel
theorem d6_4 : decode jdk_2316_method_21_code 4 = .ok (.aload_n 0, 1) := by decide +kernel
theorem d6_5 : decode jdk_2316_method_21_code 5 = .ok (.getfield 224, 3) := by decide +kernel
theorem d6_8 : decode jdk_2316_method_21_code 8 = .ok (.i2l, 1) := by decide +kernel
theorem d6_9 : decode jdk_2316_method_21_code 9 = .ok (.lor, 1) := by decide +kernel
theorem d6_10 : decode jdk_2316_method_21_code 10 = .ok (.lconst 0, 1) := by decide +kernel
theorem d6_11 : decode jdk_2316_method_21_code 11 = .ok (.lcmp, 1) := by decide +kernel
theorem d6_12 : decode jdk_2316_method_21_code 12 = .ok (.ifCond .ne 7, 3) := by decide +kernel
theorem d6_15 : decode jdk_2316_method_21_code 15 = .ok (.iconst 1, 1) := by decide +kernel
theorem d6_16 : decode jdk_2316_method_21_code 16 = .ok (.goto 4, 3) := by decide +kernel
theorem d6_20 : decode jdk_2316_method_21_code 20 = .ok (.ireturn, 1) := by decide +kernel
def Q_isZero (Z : State) (a : Addr) (h0 : Heap) (n0 : Nat) (v : Option Value) (h : Heap) (L : List Loc) : Prop := v = some (.int (1 : Int32)) ∧ Fr n0 L ∧ Keep h0 h []
theorem pn_java_time_Duration : plainName "java/time/Duration" = true := by first | (simp [plainName, overriddenIn]; done) | decide +kernel
theorem ef_rm_isZero (m : MethodId) (x0 : Addr) : entryFrame m #[(.ref x0)] 1 = mkF m 0 #[.val (.ref x0)] [] := by first | (simp [entryFrame, mkF, argsToLocals, Value.category]; done) | rfl
set_option maxRecDepth 65536 in
set_option maxHeartbeats 40000000 in
theorem rm_isZero (l : Launch) (Z : State) (a0 : Array Value) (hw : ∀ d ∈ tables_1, d.before a0 Z = true) (ws : List Jvm.Cond) (a : Addr) (h0 : Heap) (n0 : Nat) (O0 : Old Z n0 h0) (F_s : Fld Z h0 a "java/time/Duration" "seconds" "J" (.long (0 : Int64))) (F_n : Fld Z h0 a "java/time/Duration" "nanos" "I" (.int (0 : Int32))) :
    MetFree l (⟨"java/time/Duration", "isZero", "()Z"⟩ : MethodName) (head1 (Jvm.Cond.code (⟨"java/time/Duration", "isZero", "()Z"⟩ : MethodName) jdk_2316_method_21_code 1 (some .boolean) :: ws) ({ frames := 0, cells := 0, slots := 0, locals := 0 } : Room)) (fun as' U => as' = #[(.ref a)] ∧ Z.Warmed39 U.vm ∧ U.heap = h0) (fun _ _ _ _ _ => True) (fun _ U o U' => ∃ v L, o = .returned v ∧ Q_isZero Z a h0 n0 v U'.heap L ∧ FrameEnd U o U' L ({ frames := 0, cells := 0, slots := 0, locals := 0 } : Room).cells ({ frames := 0, cells := 0, slots := 0, locals := 0 } : Room).slots) := by
  refine MetFree.of_bodySF (plainFor_of_name pn_java_time_Duration) hisR ?_
  intro p e s m args below meth c s₁ Bd hml0 hP hK
  obtain ⟨rfl, hZ, hh⟩ := hP
  have hx := Bd.exec
  have hby := Bd.bytes
  have hml : c.maxLocals = 1 := hml0
  have hown : s.vm.findClass "java/time/Duration" = some m.cls := findClass_of_methodNamed Bd.named
  have hnm := (name_of_methodNamed Bd.named Bd.method).1
  have X0 : Stand p l e ({ frames := 0, cells := 0, slots := 0, locals := 0 } : Room) s m #[(.ref a)] below meth c s₁ [] 0 0 := Stand.of_body Bd
  have e0 : s₁.heap = h0 := by rw [← hh, Bd.state]; rfl
  have N0 := Fr.nil n0
  have K0 : Keep h0 h0 [] := Keep.refl _ _
  have pre0 : ∀ t, Steps p.tables e below (s₁.setTop (mkF m 0 #[.val (.ref a)] [])) t → Steps p.tables e below (s₁.setTop (entryFrame m #[(.ref a)] 1)) t := fun t k => castTop (ef_rm_isZero m a) k
  obtain ⟨T1, X1, e1, st1⟩ := getF X0 hx hZ hown (host := "") (Or.inl (w_37 hw)) Via.refl e0 F_s (g := (mkF m 1 #[.val (.ref a)] [(.ref a)])) rfl rfl (hb hby d6_1)
  obtain ⟨T5, X5, e5, st5⟩ := getF X1 hx hZ hown (host := "") (Or.inl (w_39 hw)) Via.refl e1 F_n (g := (mkF m 5 #[.val (.ref a)] [(.ref a), (.long (0 : Int64))])) rfl rfl (hb hby d6_5)
  obtain ⟨fs, hr, hrun, hended, hW, hsame⟩ := X5.leave (v := some (.int (1 : Int32))) (fun h => by rw [Bd.returns] at h; cases h)
  refine ⟨_, _, pre0 _ ?_, hrun, hended, _, _, rfl, ?_, ⟨_, rfl⟩, hW, hsame.mono (by decide) (by decide)⟩
  · show Steps p.tables e below (s₁.setTop (mkF m 0 #[.val (.ref a)] [])) _
    refine XS.aloadN X0.here hx rfl (hb hby d6_0) rfl rfl ?_
    show Steps p.tables e below (s₁.setTop (mkF m 1 #[.val (.ref a)] [(.ref a)])) _
    refine st1 _ ?_
    show Steps p.tables e below (T1.setTop (mkF m 4 #[.val (.ref a)] [(.long (0 : Int64))])) _
    refine XS.aloadN X1.here hx rfl (hb hby d6_4) rfl rfl ?_
    show Steps p.tables e below (T1.setTop (mkF m 5 #[.val (.ref a)] [(.ref a), (.long (0 : Int64))])) _
    refine st5 _ ?_
    show Steps p.tables e below (T5.setTop (mkF m 8 #[.val (.ref a)] [(.int (0 : Int32)), (.long (0 : Int64))])) _
    refine XS.i2l X5.here hx rfl (hb hby d6_8) rfl ?_
    show Steps p.tables e below (T5.setTop (mkF m 9 #[.val (.ref a)] [(.long ((0 : Int32).toInt64)), (.long (0 : Int64))])) _
    refine XS.lor X5.here hx rfl (hb hby d6_9) rfl ?_
    show Steps p.tables e below (T5.setTop (mkF m 10 #[.val (.ref a)] [(.long ((0 : Int64) ||| ((0 : Int32).toInt64)))])) _
    refine XS.lconst X5.here hx rfl (hb hby d6_10) ?_
    show Steps p.tables e below (T5.setTop (mkF m 11 #[.val (.ref a)] [(.long (0 : Int64)), (.long ((0 : Int64) ||| ((0 : Int32).toInt64)))])) _
    refine XS.lcmp X5.here hx rfl (hb hby d6_11) rfl ?_
    show Steps p.tables e below (T5.setTop (mkF m 12 #[.val (.ref a)] [(.int (lcmpW ((0 : Int64) ||| ((0 : Int32).toInt64)) (0 : Int64)))])) _
    refine XS.ifNo X5.here hx rfl (hb hby d6_12) rfl ((if0 _ _).trans (teq (by decide)).2) ?_
    show Steps p.tables e below (T5.setTop (mkF m 15 #[.val (.ref a)] [])) _
    refine XS.iconst X5.here hx rfl (hb hby d6_15) ?_
    show Steps p.tables e below (T5.setTop (mkF m 16 #[.val (.ref a)] [(.int (1 : Int32))])) _
    refine XS.goto X5.here hx rfl (pc0 := 16) (pc' := 20) rfl (hb hby d6_16) (by decide) (by decide) ?_
    show Steps p.tables e below (T5.setTop (mkF m 20 #[.val (.ref a)] [(.int (1 : Int32))])) _
    exact retN X5 hx (t := .boolean) Bd.returns (by simp) (hb hby d6_20) hr
  · show Q_isZero Z a h0 n0 _ T5.heap _
    rw [e5]
    exact ⟨rfl, N0, K0⟩
theorem d2_0 : decode prog_21_method_1_code 0 = .ok (.aload_n 0, 1) := by decide +kernel
theorem pd_0 : parseMethodDescriptor "()V" = some ⟨[], none⟩ := by decide +kernel
theorem d2_1 : decode prog_21_method_1_code 1 = .ok (.invokespecial 1, 3) := by decide +kernel
theorem d2_4 : decode prog_21_method_1_code 4 = .ok (.aload_n 3, 1) := by decide +kernel
theorem own_wS {a0 : Array Value} {Z : State} (hw : ∀ d ∈ tables_1, d.before a0 Z = true) : ∀ a ∈ Bundle.stringAtoms, a.before a0 Z = true := by
  intro d hd
  simp only [Bundle.stringAtoms, List.mem_cons, List.not_mem_nil, or_false] at hd
  rcases hd with rfl | rfl | rfl | rfl | rfl | rfl | rfl
  · exact (w_21 hw)
  · exact (w_22 hw)
  · exact (w_23 hw)
  · exact (w_24 hw)
  · exact (w_25 hw)
  · exact (w_26 hw)
  · exact (w_27 hw)
theorem d2_5 : decode prog_21_method_1_code 5 = .ok (.ldc 7, 2) := by decide +kernel
theorem pd_1 : parseMethodDescriptor "(Ljava/lang/Object;Ljava/lang/String;)Ljava/lang/Object;" = some ⟨[(.object "java/lang/Object"), (.object "java/lang/String")], some (.object "java/lang/Object")⟩ := by decide +kernel
theorem d2_7 : decode prog_21_method_1_code 7 = .ok (.invokestatic 9, 3) := by decide +kernel
theorem d2_10 : decode prog_21_method_1_code 10 = .ok (.pop, 1) := by decide +kernel
theorem d2_11 : decode prog_21_method_1_code 11 = .ok (.lload_n 1, 1) := by decide +kernel
theorem d2_12 : decode prog_21_method_1_code 12 = .ok (.lconst 0, 1) := by decide +kernel
theorem d2_13 : decode prog_21_method_1_code 13 = .ok (.lcmp, 1) := by decide +kernel
theorem d2_14 : decode prog_21_method_1_code 14 = .ok (.ifCond .le 21, 3) := by decide +kernel
theorem d2_17 : decode prog_21_method_1_code 17 = .ok (.aload_n 3, 1) := by decide +kernel
theorem pd_2 : parseMethodDescriptor "()Z" = some ⟨[], some .boolean⟩ := by decide +kernel
theorem d2_18 : decode prog_21_method_1_code 18 = .ok (.invokevirtual 15, 3) := by decide +kernel
theorem d2_21 : decode prog_21_method_1_code 21 = .ok (.ifCond .eq 14, 3) := by decide +kernel
theorem d2_24 : decode prog_21_method_1_code 24 = .ok (.lload 4, 2) := by decide +kernel
theorem d2_26 : decode prog_21_method_1_code 26 = .ok (.lconst 0, 1) := by decide +kernel
theorem d2_27 : decode prog_21_method_1_code 27 = .ok (.lcmp, 1) := by decide +kernel
theorem d2_28 : decode prog_21_method_1_code 28 = .ok (.ifCond .lt 7, 3) := by decide +kernel
theorem d2_31 : decode prog_21_method_1_code 31 = .ok (.iconst 1, 1) := by decide +kernel
theorem d2_32 : decode prog_21_method_1_code 32 = .ok (.goto 4, 3) := by decide +kernel
theorem d2_36 : decode prog_21_method_1_code 36 = .ok (.istore 6, 2) := by decide +kernel
theorem d2_38 : decode prog_21_method_1_code 38 = .ok (.lload_n 1, 1) := by decide +kernel
theorem d2_39 : decode prog_21_method_1_code 39 = .ok (.lconst 0, 1) := by decide +kernel
theorem d2_40 : decode prog_21_method_1_code 40 = .ok (.lcmp, 1) := by decide +kernel
theorem d2_41 : decode prog_21_method_1_code 41 = .ok (.ifCond .ne 24, 3) := by decide +kernel
theorem d2_65 : decode prog_21_method_1_code 65 = .ok (.iconst 0, 1) := by decide +kernel
theorem d2_66 : decode prog_21_method_1_code 66 = .ok (.istore 7, 2) := by decide +kernel
theorem d2_68 : decode prog_21_method_1_code 68 = .ok (.iload 6, 2) := by decide +kernel
theorem d2_70 : decode prog_21_method_1_code 70 = .ok (.ifCond .ne 28, 3) := by decide +kernel
theorem d2_98 : decode prog_21_method_1_code 98 = .ok (.aload_n 0, 1) := by decide +kernel
theorem d2_99 : decode prog_21_method_1_code 99 = .ok (.lload_n 1, 1) := by decide +kernel
theorem d2_100 : decode prog_21_method_1_code 100 = .ok (.putfield 44, 3) := by decide +kernel
theorem d2_103 : decode prog_21_method_1_code 103 = .ok (.aload_n 0, 1) := by decide +kernel
theorem d2_104 : decode prog_21_method_1_code 104 = .ok (.aload_n 3, 1) := by decide +kernel
theorem d2_105 : decode prog_21_method_1_code 105 = .ok (.putfield 50, 3) := by decide +kernel
theorem d2_108 : decode prog_21_method_1_code 108 = .ok (.aload_n 0, 1) := by decide +kernel
theorem d2_109 : decode prog_21_method_1_code 109 = .ok (.lload 4, 2) := by decide +kernel
theorem d2_111 : decode prog_21_method_1_code 111 = .ok (.putfield 52, 3) := by decide +kernel
theorem d2_114 : decode prog_21_method_1_code 114 = .ok (.return_, 1) := by decide +kernel
def Q_init (Z : State) (a : Addr) (q1 : Int64) (w : Addr) (q2 : Int64) (h0 : Heap) (n0 : Nat) (v : Option Value) (h : Heap) (L : List Loc) : Prop := v = none ∧ Fr n0 L ∧ Keep h0 h [a] ∧ (Exa Z h a "com/example/inlock/inlock/LockStore$Outcome") ∧ (Fld Z h a "com/example/inlock/inlock/LockStore$Outcome" "holds" "J" (.long q1)) ∧ (Fld Z h a "com/example/inlock/inlock/LockStore$Outcome" "token" "J" (.long q2))
theorem pn_com_example_inlock_inlock_LockStore_Outcome : plainName "com/example/inlock/inlock/LockStore$Outcome" = true := by first | (simp [plainName, overriddenIn]; done) | decide +kernel
theorem ef_rm_init (m : MethodId) (x0 : Addr) (x1 : Int64) (x2 : Addr) (x3 : Int64) : entryFrame m #[(.ref x0), (.long x1), (.ref x2), (.long x3)] 8 = mkF m 0 #[.val (.ref x0), .val (.long x1), .second, .val (.ref x2), .val (.long x3), .second, .unset, .unset] [] := by first | (simp [entryFrame, mkF, argsToLocals, Value.category]; done) | rfl
set_option maxRecDepth 65536 in
set_option maxHeartbeats 40000000 in
theorem rm_init (l : Launch) (Z : State) (a0 : Array Value) (hw : ∀ d ∈ tables_1, d.before a0 Z = true) (ws : List Jvm.Cond) (a : Addr) (q1 : Int64) (w : Addr) (q2 : Int64) (h0 : Heap) (n0 : Nat) (O0 : Old Z n0 h0) (E_a : Exa Z h0 a "com/example/inlock/inlock/LockStore$Outcome") (F1 : Fld Z h0 a "com/example/inlock/inlock/LockStore$Outcome" "holds" "J" (.long (0 : Int64))) (F2 : Fld Z h0 a "com/example/inlock/inlock/LockStore$Outcome" "retry" "Ljava/time/Duration;" .null) (F3 : Fld Z h0 a "com/example/inlock/inlock/LockStore$Outcome" "token" "J" (.long (0 : Int64))) (g_a : n0 ≤ a) (E_w : Exa Z Z.heap w "java/time/Duration") (F_s : Fld Z Z.heap w "java/time/Duration" "seconds" "J" (.long (0 : Int64))) (F_n : Fld Z Z.heap w "java/time/Duration" "nanos" "I" (.int (0 : Int32))) (hpos : (0 : Int64) < q1) (hnn : ¬ (q2 < (0 : Int64))) :
    MetFree l (⟨"com/example/inlock/inlock/LockStore$Outcome", "<init>", "(JLjava/time/Duration;J)V"⟩ : MethodName) (head1 (Jvm.Cond.code (⟨"com/example/inlock/inlock/LockStore$Outcome", "<init>", "(JLjava/time/Duration;J)V"⟩ : MethodName) prog_21_method_1_code 8 none :: ws) ({ frames := 2, cells := 2, slots := 24, locals := 24 } : Room)) (fun as' U => as' = #[(.ref a), (.long q1), (.ref w), (.long q2)] ∧ Z.Warmed39 U.vm ∧ U.heap = h0) (fun _ _ _ _ _ => True) (fun _ U o U' => ∃ v L, o = .returned v ∧ Q_init Z a q1 w q2 h0 n0 v U'.heap L ∧ ReturnedEndW U o U' L ({ frames := 2, cells := 2, slots := 24, locals := 24 } : Room).cells ({ frames := 2, cells := 2, slots := 24, locals := 24 } : Room).slots) := by
  refine MetFree.of_bodySF (plainFor_of_name pn_com_example_inlock_inlock_LockStore_Outcome) hisR ?_
  intro p e s m args below meth c s₁ Bd hml0 hP hK
  obtain ⟨rfl, hZ, hh⟩ := hP
  have hx := Bd.exec
  have hby := Bd.bytes
  have hml : c.maxLocals = 8 := hml0
  have hown : s.vm.findClass "com/example/inlock/inlock/LockStore$Outcome" = some m.cls := findClass_of_methodNamed Bd.named
  have hnm := (name_of_methodNamed Bd.named Bd.method).1
  have X0 : Stand p l e ({ frames := 2, cells := 2, slots := 24, locals := 24 } : Room) s m #[(.ref a), (.long q1), (.ref w), (.long q2)] below meth c s₁ [] 0 0 := Stand.of_body Bd
  have e0 : s₁.heap = h0 := by rw [← hh, Bd.state]; rfl
  have N0 := Fr.nil n0
  have K0 : Keep h0 h0 [a] := Keep.refl _ _
  have pre0 : ∀ t, Steps p.tables e below (s₁.setTop (mkF m 0 #[.val (.ref a), .val (.long q1), .second, .val (.ref w), .val (.long q2), .second, .unset, .unset] [])) t → Steps p.tables e below (s₁.setTop (entryFrame m #[(.ref a), (.long q1), (.ref w), (.long q2)] 8)) t := fun t k => castTop (ef_rm_init m a q1 w q2) k
  obtain ⟨_, _, ⟨T1, Lo1, kk1, nn1⟩, -, X1, ⟨Lc1, hQ1, ll1, yy1, zz1⟩, st1⟩ := X0.specialBack hx (y := (⟨"java/lang/Record", "<init>", "()V"⟩ : MethodName)) rfl hown (mvT hZ (w_12 hw)) (mvT hZ (w_13 hw)) (mvT hZ (w_16 hw)) (by decide) (backOf (W := 0) (rm_recInit l Z a0 hw [] a h0 n0 O0 ) hZ (w_16 hw) (w_15 hw) (by decide) (by decide)) (g := (mkF m 1 #[.val (.ref a), .val (.long q1), .second, .val (.ref w), .val (.long q2), .second, .unset, .unset] [(.ref a)])) rfl (by rw [hml]; rfl) (Steps.refl _) (a := a) (argsL := []) (rest := []) (lenOf pd_0 rfl) rfl (by show 2 * 0 + _ ≤ _; exact Nat.le_of_eq rfl) (hb hby d2_1) (fun _ _ => ⟨rfl, e0, (by decide : 0 + 0 ≤ _), (by decide : 0 + 0 ≤ _)⟩)
  dsimp only [Pt.U, Pt.locs, Pt.cells, Pt.slots] at X1 ll1 yy1 zz1 st1 hQ1
  subst ll1 yy1 zz1
  obtain ⟨rfl, N1q, K1q⟩ := hQ1
  have N1 := Fr.app N0 N1q
  have f1 : Keep h0 T1.heap [a] := K0.trans K1q all0
  have f2 : Old Z n0 T1.heap := O0.keep K1q all0
  obtain ⟨b5, T5, h5, ks5, X5, e5, Ex5, hS5, hk5, hZ_5, hown_5, st5⟩ := ldcS (s := s) (vm0 := s.vm) X1 hx hZ hown (w_20 hw) (own_wS hw) rfl ((State.WarmedH.refl s).since 0) (Nat.zero_le _) (g := (mkF m 5 #[.val (.ref a), .val (.long q1), .second, .val (.ref w), .val (.long q2), .second, .unset, .unset] [(.ref w)])) rfl (hb hby d2_5) (n := 20) (by first | decide | decide +kernel) (by decide) (by decide) (by decide)
  have f3 : Keep h0 h5 [a] := f1.ext Ex5
  have f4 : Old Z n0 h5 := f2.ext Ex5
  obtain ⟨_, _, ⟨T7, Lo7, kk7, nn7⟩, -, X7, ⟨Lc7, hQ7, ll7, yy7, zz7⟩, st7⟩ := Jvm.LawKit.callS X5 hx (y := (⟨"java/util/Objects", "requireNonNull", "(Ljava/lang/Object;Ljava/lang/String;)Ljava/lang/Object;"⟩ : MethodName)) hown_5 (mvT hZ_5 (w_28 hw)) (mvT hZ_5 (w_29 hw)) (mvT hZ_5 (w_30 hw)) (mvT hZ_5 (w_31 hw)) (by decide) (backOf (W := 0) (rm_rnn l Z a0 hw [] w b5 h5 n0 f4 ) hZ_5 (w_31 hw) (w_30 hw) (by decide) (by decide)) (g := (mkF m 7 #[.val (.ref a), .val (.long q1), .second, .val (.ref w), .val (.long q2), .second, .unset, .unset] [(.ref b5), (.ref w)])) rfl (by rw [hml]; rfl) (argsL := [(.ref w), (.ref b5)]) (rest := []) (lenOf pd_1 rfl) rfl (by show 2 * 0 + _ ≤ _; exact Nat.le_of_eq rfl) (hb hby d2_7) (fun _ _ => ⟨rfl, e5, (by decide : 2 + 0 ≤ _), (by decide : 24 + 0 ≤ _)⟩)
  dsimp only [Pt.U, Pt.locs, Pt.cells, Pt.slots] at X7 ll7 yy7 zz7 st7 hQ7
  subst ll7 yy7 zz7
  obtain ⟨rfl, N7q, K7q⟩ := hQ7
  have N7 := Fr.app N1 N7q
  have f5 : Keep h0 T7.heap [a] := f3.trans K7q all0
  have f6 : Old Z n0 T7.heap := f4.keep K7q all0
  have hk7 := Nat.le_trans hk5 K7q.1
  obtain ⟨cq18, kq18, q18a, q18b, q18c⟩ := isOf hZ_5 rfl (E_w.ext f6.2)
  obtain ⟨_, _, ⟨T18, Lo18, kk18, nn18⟩, -, X18, ⟨Lc18, hQ18, ll18, yy18, zz18⟩, st18⟩ := X7.virtualBack hx (y := (⟨"java/time/Duration", "isZero", "()Z"⟩ : MethodName)) (z := (⟨"java/time/Duration", "isZero", "()Z"⟩ : MethodName)) hown_5 (mvT hZ_5 (w_32 hw)) (mvT hZ_5 (w_33 hw)) (notFace_of_selects (args := #[]) (mvT hZ_5 (w_35 hw))) (mvT hZ_5 (w_35 hw)) (mvT hZ_5 (w_34 hw)) (by decide) (backOf (W := 0) (rm_isZero l Z a0 hw [] w T7.heap n0 f6 (F_s.ext f6.2) (F_n.ext f6.2)) hZ_5 (w_36 hw) (w_8 hw) (by decide) (by decide)) q18a q18c (g := (mkF m 18 #[.val (.ref a), .val (.long q1), .second, .val (.ref w), .val (.long q2), .second, .unset, .unset] [(.ref w)])) rfl (by rw [hml]; rfl) (Steps.refl _) (argsL := []) (rest := []) (lenOf pd_2 rfl) rfl (by show 2 * 0 + _ ≤ _; exact Nat.le_of_eq rfl) (hb hby d2_18) (fun _ _ => ⟨rfl, rfl, (by decide : 2 + 0 ≤ _), (by decide : 24 + 0 ≤ _)⟩)
  dsimp only [Pt.U, Pt.locs, Pt.cells, Pt.slots] at X18 ll18 yy18 zz18 st18 hQ18
  subst ll18 yy18 zz18
  obtain ⟨rfl, N18q, K18q⟩ := hQ18
  have N18 := Fr.app N7 N18q
  have f8 : Keep h0 T18.heap [a] := f5.trans K18q all0
  have f9 : Old Z n0 T18.heap := f6.keep K18q all0
  have hk10 := Nat.le_trans hk7 K18q.1
  have f11 : Fld Z T1.heap a "com/example/inlock/inlock/LockStore$Outcome" "holds" "J" (.long (0 : Int64)) := F1.keep K1q nin0
  have f12 : Fld Z h5 a "com/example/inlock/inlock/LockStore$Outcome" "holds" "J" (.long (0 : Int64)) := f11.ext Ex5
  have f13 : Fld Z T7.heap a "com/example/inlock/inlock/LockStore$Outcome" "holds" "J" (.long (0 : Int64)) := f12.keep K7q nin0
  have f14 : Fld Z T18.heap a "com/example/inlock/inlock/LockStore$Outcome" "holds" "J" (.long (0 : Int64)) := f13.keep K18q nin0
  have f15 : Exa Z T1.heap a "com/example/inlock/inlock/LockStore$Outcome" := E_a.keep K1q
  have f16 : Exa Z h5 a "com/example/inlock/inlock/LockStore$Outcome" := f15.ext Ex5
  have f17 : Exa Z T7.heap a "com/example/inlock/inlock/LockStore$Outcome" := f16.keep K7q
  have f18 : Exa Z T18.heap a "com/example/inlock/inlock/LockStore$Outcome" := f17.keep K18q
  obtain ⟨T100, h100, X100, e100, Wr100, st100⟩ := putF X18 hx hZ_5 hown_5 (host := "") (Or.inl (w_41 hw)) Via.refl rfl f14 f18 (Or.inr ⟨(w_42 hw), rfl, hnm⟩) (w_6 hw) (ty := .long) (by decide) rfl rfl (g := (mkF m 100 #[.val (.ref a), .val (.long q1), .second, .val (.ref w), .val (.long q2), .second, .val (.int (1 : Int32)), .val (.int (0 : Int32))] [(.long q1), (.ref a)])) rfl rfl (hb hby d2_100)
  have f19 : Keep h0 h100 [a] := f8.wr Wr100 (Or.inl (List.mem_of_getElem? (i := 0) rfl))
  have f20 : Old Z n0 h100 := f9.wr Wr100 g_a
  have hk21 := Nat.le_trans hk10 (Keep.of_wr Wr100).1
  have f22 : Fld Z h100 a "com/example/inlock/inlock/LockStore$Outcome" "holds" "J" (.long q1) := f14.same Wr100
  have N100 := Fr.snoc X100 N18 g_a
  have f23 : Fld Z T1.heap a "com/example/inlock/inlock/LockStore$Outcome" "retry" "Ljava/time/Duration;" .null := F2.keep K1q nin0
  have f24 : Fld Z h5 a "com/example/inlock/inlock/LockStore$Outcome" "retry" "Ljava/time/Duration;" .null := f23.ext Ex5
  have f25 : Fld Z T7.heap a "com/example/inlock/inlock/LockStore$Outcome" "retry" "Ljava/time/Duration;" .null := f24.keep K7q nin0
  have f26 : Fld Z T18.heap a "com/example/inlock/inlock/LockStore$Outcome" "retry" "Ljava/time/Duration;" .null := f25.keep K18q nin0
  have f27 : Fld Z h100 a "com/example/inlock/inlock/LockStore$Outcome" "retry" "Ljava/time/Duration;" .null := f26.other Wr100 (Or.inr (slot_ne (Or.inr (w_44 hw)) (Or.inr (w_42 hw)) (by decide) (t := (.object "java/time/Duration")) (t' := .long) (by decide) (by decide)))
  have f28 : Exa Z h100 a "com/example/inlock/inlock/LockStore$Outcome" := f18.wr Wr100
  obtain ⟨T105, h105, X105, e105, Wr105, st105⟩ := putF X100 hx hZ_5 hown_5 (host := "") (Or.inl (w_43 hw)) Via.refl e100 f27 f28 (Or.inr ⟨(w_44 hw), rfl, hnm⟩) (w_6 hw) (ty := (.object "java/time/Duration")) (by decide) rfl rfl (g := (mkF m 105 #[.val (.ref a), .val (.long q1), .second, .val (.ref w), .val (.long q2), .second, .val (.int (1 : Int32)), .val (.int (0 : Int32))] [(.ref w), (.ref a)])) rfl rfl (hb hby d2_105)
  have f29 : Keep h0 h105 [a] := f19.wr Wr105 (Or.inl (List.mem_of_getElem? (i := 0) rfl))
  have f30 : Old Z n0 h105 := f20.wr Wr105 g_a
  have hk31 := Nat.le_trans hk21 (Keep.of_wr Wr105).1
  have f32 : Fld Z h105 a "com/example/inlock/inlock/LockStore$Outcome" "retry" "Ljava/time/Duration;" (.ref w) := f27.same Wr105
  have N105 := Fr.snoc X105 N100 g_a
  have f33 : Fld Z T1.heap a "com/example/inlock/inlock/LockStore$Outcome" "token" "J" (.long (0 : Int64)) := F3.keep K1q nin0
  have f34 : Fld Z h5 a "com/example/inlock/inlock/LockStore$Outcome" "token" "J" (.long (0 : Int64)) := f33.ext Ex5
  have f35 : Fld Z T7.heap a "com/example/inlock/inlock/LockStore$Outcome" "token" "J" (.long (0 : Int64)) := f34.keep K7q nin0
  have f36 : Fld Z T18.heap a "com/example/inlock/inlock/LockStore$Outcome" "token" "J" (.long (0 : Int64)) := f35.keep K18q nin0
  have f37 : Fld Z h100 a "com/example/inlock/inlock/LockStore$Outcome" "token" "J" (.long (0 : Int64)) := f36.other Wr100 (Or.inr (slot_ne (Or.inr (w_46 hw)) (Or.inr (w_42 hw)) (by decide) (t := .long) (t' := .long) (by decide) (by decide)))
  have f38 : Fld Z h105 a "com/example/inlock/inlock/LockStore$Outcome" "token" "J" (.long (0 : Int64)) := f37.other Wr105 (Or.inr (slot_ne (Or.inr (w_46 hw)) (Or.inr (w_44 hw)) (by decide) (t := .long) (t' := (.object "java/time/Duration")) (by decide) (by decide)))
  have f39 : Exa Z h105 a "com/example/inlock/inlock/LockStore$Outcome" := f28.wr Wr105
  obtain ⟨T111, h111, X111, e111, Wr111, st111⟩ := putF X105 hx hZ_5 hown_5 (host := "") (Or.inl (w_45 hw)) Via.refl e105 f38 f39 (Or.inr ⟨(w_46 hw), rfl, hnm⟩) (w_6 hw) (ty := .long) (by decide) rfl rfl (g := (mkF m 111 #[.val (.ref a), .val (.long q1), .second, .val (.ref w), .val (.long q2), .second, .val (.int (1 : Int32)), .val (.int (0 : Int32))] [(.long q2), (.ref a)])) rfl rfl (hb hby d2_111)
  have f40 : Keep h0 h111 [a] := f29.wr Wr111 (Or.inl (List.mem_of_getElem? (i := 0) rfl))
  have f41 : Old Z n0 h111 := f30.wr Wr111 g_a
  have hk42 := Nat.le_trans hk31 (Keep.of_wr Wr111).1
  have f43 : Fld Z h111 a "com/example/inlock/inlock/LockStore$Outcome" "token" "J" (.long q2) := f38.same Wr111
  have N111 := Fr.snoc X111 N105 g_a
  have f44 : Exa Z h111 a "com/example/inlock/inlock/LockStore$Outcome" := f39.wr Wr111
  have f45 : Fld Z h105 a "com/example/inlock/inlock/LockStore$Outcome" "holds" "J" (.long q1) := f22.other Wr105 (Or.inr (slot_ne (Or.inr (w_42 hw)) (Or.inr (w_44 hw)) (by decide) (t := .long) (t' := (.object "java/time/Duration")) (by decide) (by decide)))
  have f46 : Fld Z h111 a "com/example/inlock/inlock/LockStore$Outcome" "holds" "J" (.long q1) := f45.other Wr111 (Or.inr (slot_ne (Or.inr (w_42 hw)) (Or.inr (w_46 hw)) (by decide) (t := .long) (t' := .long) (by decide) (by decide)))
  obtain ⟨fs, hr, hrun, hended, hRW⟩ := X111.leaveW hS5 (by rw [e111]; exact hk42) (v := none) (fun _ => rfl)
  refine ⟨_, _, pre0 _ ?_, hrun, hended, _, _, rfl, ?_, hRW.1, hRW.2.1, hRW.2.2.1, hRW.2.2.2.mono (by decide) (by decide)⟩
  · show Steps p.tables e below (s₁.setTop (mkF m 0 #[.val (.ref a), .val (.long q1), .second, .val (.ref w), .val (.long q2), .second, .unset, .unset] [])) _
    refine XS.aloadN X0.here hx rfl (hb hby d2_0) rfl rfl ?_
    show Steps p.tables e below (s₁.setTop (mkF m 1 #[.val (.ref a), .val (.long q1), .second, .val (.ref w), .val (.long q2), .second, .unset, .unset] [(.ref a)])) _
    refine st1.trans ?_
    show Steps p.tables e below (T1.setTop (mkF m 4 #[.val (.ref a), .val (.long q1), .second, .val (.ref w), .val (.long q2), .second, .unset, .unset] [])) _
    refine XS.aloadN X1.here hx rfl (hb hby d2_4) rfl rfl ?_
    show Steps p.tables e below (T1.setTop (mkF m 5 #[.val (.ref a), .val (.long q1), .second, .val (.ref w), .val (.long q2), .second, .unset, .unset] [(.ref w)])) _
    refine st5 _ ?_
    show Steps p.tables e below (T5.setTop (mkF m 7 #[.val (.ref a), .val (.long q1), .second, .val (.ref w), .val (.long q2), .second, .unset, .unset] [(.ref b5), (.ref w)])) _
    refine st7 _ ?_
    show Steps p.tables e below (T7.setTop (mkF m 10 #[.val (.ref a), .val (.long q1), .second, .val (.ref w), .val (.long q2), .second, .unset, .unset] [(.ref w)])) _
    refine XS.pop X7.here hx rfl (hb hby d2_10) rfl rfl ?_
    show Steps p.tables e below (T7.setTop (mkF m 11 #[.val (.ref a), .val (.long q1), .second, .val (.ref w), .val (.long q2), .second, .unset, .unset] [])) _
    refine XS.lloadN X7.here hx rfl (hb hby d2_11) rfl ?_
    show Steps p.tables e below (T7.setTop (mkF m 12 #[.val (.ref a), .val (.long q1), .second, .val (.ref w), .val (.long q2), .second, .unset, .unset] [(.long q1)])) _
    refine XS.lconst X7.here hx rfl (hb hby d2_12) ?_
    show Steps p.tables e below (T7.setTop (mkF m 13 #[.val (.ref a), .val (.long q1), .second, .val (.ref w), .val (.long q2), .second, .unset, .unset] [(.long (0 : Int64)), (.long q1)])) _
    refine XS.lcmp X7.here hx rfl (hb hby d2_13) rfl ?_
    show Steps p.tables e below (T7.setTop (mkF m 14 #[.val (.ref a), .val (.long q1), .second, .val (.ref w), .val (.long q2), .second, .unset, .unset] [(.int (lcmpW q1 (0 : Int64)))])) _
    refine XS.ifNo X7.here hx rfl (hb hby d2_14) rfl ((if0 _ _).trans (tlt ((lw_gt q1 (0 : Int64)).mpr hpos)).2.2.2) ?_
    show Steps p.tables e below (T7.setTop (mkF m 17 #[.val (.ref a), .val (.long q1), .second, .val (.ref w), .val (.long q2), .second, .unset, .unset] [])) _
    refine XS.aloadN X7.here hx rfl (hb hby d2_17) rfl rfl ?_
    show Steps p.tables e below (T7.setTop (mkF m 18 #[.val (.ref a), .val (.long q1), .second, .val (.ref w), .val (.long q2), .second, .unset, .unset] [(.ref w)])) _
    refine st18.trans ?_
    show Steps p.tables e below (T18.setTop (mkF m 21 #[.val (.ref a), .val (.long q1), .second, .val (.ref w), .val (.long q2), .second, .unset, .unset] [(.int (1 : Int32))])) _
    refine XS.ifNo X18.here hx rfl (hb hby d2_21) rfl ((if0 _ _).trans (feq (by decide : ¬ ((1 : Int32) = (0 : Int32)))).1) ?_
    show Steps p.tables e below (T18.setTop (mkF m 24 #[.val (.ref a), .val (.long q1), .second, .val (.ref w), .val (.long q2), .second, .unset, .unset] [])) _
    refine XS.lload X18.here hx rfl (hb hby d2_24) rfl ?_
    show Steps p.tables e below (T18.setTop (mkF m 26 #[.val (.ref a), .val (.long q1), .second, .val (.ref w), .val (.long q2), .second, .unset, .unset] [(.long q2)])) _
    refine XS.lconst X18.here hx rfl (hb hby d2_26) ?_
    show Steps p.tables e below (T18.setTop (mkF m 27 #[.val (.ref a), .val (.long q1), .second, .val (.ref w), .val (.long q2), .second, .unset, .unset] [(.long (0 : Int64)), (.long q2)])) _
    refine XS.lcmp X18.here hx rfl (hb hby d2_27) rfl ?_
    show Steps p.tables e below (T18.setTop (mkF m 28 #[.val (.ref a), .val (.long q1), .second, .val (.ref w), .val (.long q2), .second, .unset, .unset] [(.int (lcmpW q2 (0 : Int64)))])) _
    refine XS.ifNo X18.here hx rfl (hb hby d2_28) rfl ((if0 _ _).trans (flt (fun u => hnn ((lw_lt q2 (0 : Int64)).mp u))).1) ?_
    show Steps p.tables e below (T18.setTop (mkF m 31 #[.val (.ref a), .val (.long q1), .second, .val (.ref w), .val (.long q2), .second, .unset, .unset] [])) _
    refine XS.iconst X18.here hx rfl (hb hby d2_31) ?_
    show Steps p.tables e below (T18.setTop (mkF m 32 #[.val (.ref a), .val (.long q1), .second, .val (.ref w), .val (.long q2), .second, .unset, .unset] [(.int (1 : Int32))])) _
    refine XS.goto X18.here hx rfl (pc0 := 32) (pc' := 36) rfl (hb hby d2_32) (by decide) (by decide) ?_
    show Steps p.tables e below (T18.setTop (mkF m 36 #[.val (.ref a), .val (.long q1), .second, .val (.ref w), .val (.long q2), .second, .unset, .unset] [(.int (1 : Int32))])) _
    refine XS.istore X18.here hx rfl (hb hby d2_36) rfl (l' := #[.val (.ref a), .val (.long q1), .second, .val (.ref w), .val (.long q2), .second, .val (.int (1 : Int32)), .unset]) rfl ?_
    show Steps p.tables e below (T18.setTop (mkF m 38 #[.val (.ref a), .val (.long q1), .second, .val (.ref w), .val (.long q2), .second, .val (.int (1 : Int32)), .unset] [])) _
    refine XS.lloadN X18.here hx rfl (hb hby d2_38) rfl ?_
    show Steps p.tables e below (T18.setTop (mkF m 39 #[.val (.ref a), .val (.long q1), .second, .val (.ref w), .val (.long q2), .second, .val (.int (1 : Int32)), .unset] [(.long q1)])) _
    refine XS.lconst X18.here hx rfl (hb hby d2_39) ?_
    show Steps p.tables e below (T18.setTop (mkF m 40 #[.val (.ref a), .val (.long q1), .second, .val (.ref w), .val (.long q2), .second, .val (.int (1 : Int32)), .unset] [(.long (0 : Int64)), (.long q1)])) _
    refine XS.lcmp X18.here hx rfl (hb hby d2_40) rfl ?_
    show Steps p.tables e below (T18.setTop (mkF m 41 #[.val (.ref a), .val (.long q1), .second, .val (.ref w), .val (.long q2), .second, .val (.int (1 : Int32)), .unset] [(.int (lcmpW q1 (0 : Int64)))])) _
    refine XS.ifYes X18.here hx rfl (pc0 := 41) (pc' := 65) rfl (hb hby d2_41) rfl ((if0 _ _).trans (feq (own_nz hpos)).2) (by decide) (by decide) ?_
    show Steps p.tables e below (T18.setTop (mkF m 65 #[.val (.ref a), .val (.long q1), .second, .val (.ref w), .val (.long q2), .second, .val (.int (1 : Int32)), .unset] [])) _
    refine XS.iconst X18.here hx rfl (hb hby d2_65) ?_
    show Steps p.tables e below (T18.setTop (mkF m 66 #[.val (.ref a), .val (.long q1), .second, .val (.ref w), .val (.long q2), .second, .val (.int (1 : Int32)), .unset] [(.int (0 : Int32))])) _
    refine XS.istore X18.here hx rfl (hb hby d2_66) rfl (l' := #[.val (.ref a), .val (.long q1), .second, .val (.ref w), .val (.long q2), .second, .val (.int (1 : Int32)), .val (.int (0 : Int32))]) rfl ?_
    show Steps p.tables e below (T18.setTop (mkF m 68 #[.val (.ref a), .val (.long q1), .second, .val (.ref w), .val (.long q2), .second, .val (.int (1 : Int32)), .val (.int (0 : Int32))] [])) _
    refine XS.iload X18.here hx rfl (hb hby d2_68) rfl ?_
    show Steps p.tables e below (T18.setTop (mkF m 70 #[.val (.ref a), .val (.long q1), .second, .val (.ref w), .val (.long q2), .second, .val (.int (1 : Int32)), .val (.int (0 : Int32))] [(.int (1 : Int32))])) _
    refine XS.ifYes X18.here hx rfl (pc0 := 70) (pc' := 98) rfl (hb hby d2_70) rfl ((if0 _ _).trans (feq (by decide : ¬ ((1 : Int32) = (0 : Int32)))).2) (by decide) (by decide) ?_
    show Steps p.tables e below (T18.setTop (mkF m 98 #[.val (.ref a), .val (.long q1), .second, .val (.ref w), .val (.long q2), .second, .val (.int (1 : Int32)), .val (.int (0 : Int32))] [])) _
    refine XS.aloadN X18.here hx rfl (hb hby d2_98) rfl rfl ?_
    show Steps p.tables e below (T18.setTop (mkF m 99 #[.val (.ref a), .val (.long q1), .second, .val (.ref w), .val (.long q2), .second, .val (.int (1 : Int32)), .val (.int (0 : Int32))] [(.ref a)])) _
    refine XS.lloadN X18.here hx rfl (hb hby d2_99) rfl ?_
    show Steps p.tables e below (T18.setTop (mkF m 100 #[.val (.ref a), .val (.long q1), .second, .val (.ref w), .val (.long q2), .second, .val (.int (1 : Int32)), .val (.int (0 : Int32))] [(.long q1), (.ref a)])) _
    refine st100 _ ?_
    show Steps p.tables e below (T100.setTop (mkF m 103 #[.val (.ref a), .val (.long q1), .second, .val (.ref w), .val (.long q2), .second, .val (.int (1 : Int32)), .val (.int (0 : Int32))] [])) _
    refine XS.aloadN X100.here hx rfl (hb hby d2_103) rfl rfl ?_
    show Steps p.tables e below (T100.setTop (mkF m 104 #[.val (.ref a), .val (.long q1), .second, .val (.ref w), .val (.long q2), .second, .val (.int (1 : Int32)), .val (.int (0 : Int32))] [(.ref a)])) _
    refine XS.aloadN X100.here hx rfl (hb hby d2_104) rfl rfl ?_
    show Steps p.tables e below (T100.setTop (mkF m 105 #[.val (.ref a), .val (.long q1), .second, .val (.ref w), .val (.long q2), .second, .val (.int (1 : Int32)), .val (.int (0 : Int32))] [(.ref w), (.ref a)])) _
    refine st105 _ ?_
    show Steps p.tables e below (T105.setTop (mkF m 108 #[.val (.ref a), .val (.long q1), .second, .val (.ref w), .val (.long q2), .second, .val (.int (1 : Int32)), .val (.int (0 : Int32))] [])) _
    refine XS.aloadN X105.here hx rfl (hb hby d2_108) rfl rfl ?_
    show Steps p.tables e below (T105.setTop (mkF m 109 #[.val (.ref a), .val (.long q1), .second, .val (.ref w), .val (.long q2), .second, .val (.int (1 : Int32)), .val (.int (0 : Int32))] [(.ref a)])) _
    refine XS.lload X105.here hx rfl (hb hby d2_109) rfl ?_
    show Steps p.tables e below (T105.setTop (mkF m 111 #[.val (.ref a), .val (.long q1), .second, .val (.ref w), .val (.long q2), .second, .val (.int (1 : Int32)), .val (.int (0 : Int32))] [(.long q2), (.ref a)])) _
    refine st111 _ ?_
    show Steps p.tables e below (T111.setTop (mkF m 114 #[.val (.ref a), .val (.long q1), .second, .val (.ref w), .val (.long q2), .second, .val (.int (1 : Int32)), .val (.int (0 : Int32))] [])) _
    exact X111.returnOut hx Bd.returns (hb hby d2_114) hr
  · show Q_init Z a q1 w q2 h0 n0 _ T111.heap _
    rw [e111]
    exact ⟨rfl, N111, f40, f44, f46, f43⟩
theorem d1_0 : decode prog_21_method_2_code 0 = .ok (.new 45, 3) := by decide +kernel
theorem d1_3 : decode prog_21_method_2_code 3 = .ok (.dup, 1) := by decide +kernel
theorem d1_4 : decode prog_21_method_2_code 4 = .ok (.lload_n 0, 1) := by decide +kernel
theorem d1_5 : decode prog_21_method_2_code 5 = .ok (.getstatic 21, 3) := by decide +kernel
theorem d1_8 : decode prog_21_method_2_code 8 = .ok (.lload_n 2, 1) := by decide +kernel
theorem pd_3 : parseMethodDescriptor "(JLjava/time/Duration;J)V" = some ⟨[.long, (.object "java/time/Duration"), .long], none⟩ := by decide +kernel
theorem d1_9 : decode prog_21_method_2_code 9 = .ok (.invokespecial 55, 3) := by decide +kernel
theorem d1_12 : decode prog_21_method_2_code 12 = .ok (.areturn, 1) := by decide +kernel
def Q_held (Z : State) (q1 : Int64) (q2 : Int64) (w : Addr) (h0 : Heap) (n0 : Nat) (v : Option Value) (h : Heap) (L : List Loc) : Prop := ∃ b : Addr, v = some (.ref b) ∧ Fr n0 L ∧ Keep h0 h [] ∧ (h0.size ≤ b) ∧ (Exa Z h b "com/example/inlock/inlock/LockStore$Outcome") ∧ (Fld Z h b "com/example/inlock/inlock/LockStore$Outcome" "holds" "J" (.long q1)) ∧ (Fld Z h b "com/example/inlock/inlock/LockStore$Outcome" "token" "J" (.long q2))
theorem ef_rm_held (m : MethodId) (x0 : Int64) (x1 : Int64) : entryFrame m #[(.long x0), (.long x1)] 4 = mkF m 0 #[.val (.long x0), .second, .val (.long x1), .second] [] := by first | (simp [entryFrame, mkF, argsToLocals, Value.category]; done) | rfl
set_option maxRecDepth 65536 in
set_option maxHeartbeats 40000000 in
theorem rm_held (l : Launch) (Z : State) (a0 : Array Value) (hw : ∀ d ∈ tables_1, d.before a0 Z = true) (ws : List Jvm.Cond) (q1 : Int64) (q2 : Int64) (w : Addr) (h0 : Heap) (n0 : Nat) (O0 : Old Z n0 h0) (S_Z : Sta Z Z.heap "java/time/Duration" "ZERO" "Ljava/time/Duration;" (.ref w)) (E_w : Exa Z Z.heap w "java/time/Duration") (F_s : Fld Z Z.heap w "java/time/Duration" "seconds" "J" (.long (0 : Int64))) (F_n : Fld Z Z.heap w "java/time/Duration" "nanos" "I" (.int (0 : Int32))) (hpos : (0 : Int64) < q1) (hnn : ¬ (q2 < (0 : Int64))) :
    MetFree l (⟨"com/example/inlock/inlock/LockStore$Outcome", "held", "(JJ)Lcom/example/inlock/inlock/LockStore$Outcome;"⟩ : MethodName) (head1 (Jvm.Cond.code (⟨"com/example/inlock/inlock/LockStore$Outcome", "held", "(JJ)Lcom/example/inlock/inlock/LockStore$Outcome;"⟩ : MethodName) prog_21_method_2_code 4 (some (.object "com/example/inlock/inlock/LockStore$Outcome")) :: ws) ({ frames := 3, cells := 3, slots := 27, locals := 44 } : Room)) (fun as' U => as' = #[(.long q1), (.long q2)] ∧ Z.Warmed39 U.vm ∧ U.heap = h0) (fun _ _ _ _ _ => True) (fun _ U o U' => ∃ v L, o = .returned v ∧ Q_held Z q1 q2 w h0 n0 v U'.heap L ∧ ReturnedEndW U o U' L ({ frames := 3, cells := 3, slots := 27, locals := 44 } : Room).cells ({ frames := 3, cells := 3, slots := 27, locals := 44 } : Room).slots) := by
  refine MetFree.of_bodySF (plainFor_of_name pn_com_example_inlock_inlock_LockStore_Outcome) hisR ?_
  intro p e s m args below meth c s₁ Bd hml0 hP hK
  obtain ⟨rfl, hZ, hh⟩ := hP
  have hx := Bd.exec
  have hby := Bd.bytes
  have hml : c.maxLocals = 4 := hml0
  have hown : s.vm.findClass "com/example/inlock/inlock/LockStore$Outcome" = some m.cls := findClass_of_methodNamed Bd.named
  have hnm := (name_of_methodNamed Bd.named Bd.method).1
  have X0 : Stand p l e ({ frames := 3, cells := 3, slots := 27, locals := 44 } : Room) s m #[(.long q1), (.long q2)] below meth c s₁ [] 0 0 := Stand.of_body Bd
  have e0 : s₁.heap = h0 := by rw [← hh, Bd.state]; rfl
  have N0 := Fr.nil n0
  have K0 : Keep h0 h0 [] := Keep.refl _ _
  have pre0 : ∀ t, Steps p.tables e below (s₁.setTop (mkF m 0 #[.val (.long q1), .second, .val (.long q2), .second] [])) t → Steps p.tables e below (s₁.setTop (entryFrame m #[(.long q1), (.long q2)] 4)) t := fun t k => castTop (ef_rm_held m q1 q2) k
  obtain ⟨T0_, h0_, X0_, e0_, Ex0_, Aa0_, Df0_, -, st0_⟩ := newO X0 hx hZ hown (w_5 hw) (w_6 hw) (w_3 hw) e0 (g := (mkF m 0 #[.val (.long q1), .second, .val (.long q2), .second] [])) rfl (hb hby d1_0) (by decide) (by decide)
  obtain ⟨b0_, gg0_⟩ : ∃ z, z = h0.size := ⟨_, rfl⟩
  rw [← gg0_] at Aa0_ Df0_ st0_
  have f1 : Keep h0 h0_ [] := K0.ext Ex0_
  have f2 : Old Z n0 h0_ := O0.ext Ex0_
  have f3 : Fld Z h0_ b0_ "com/example/inlock/inlock/LockStore$Outcome" "holds" "J" (.long (0 : Int64)) := Df0_ (Or.inr (w_42 hw)) (ty := .long) (by decide)
  have f4 : Fld Z h0_ b0_ "com/example/inlock/inlock/LockStore$Outcome" "retry" "Ljava/time/Duration;" .null := Df0_ (Or.inr (w_44 hw)) (ty := (.object "java/time/Duration")) (by decide)
  have f5 : Fld Z h0_ b0_ "com/example/inlock/inlock/LockStore$Outcome" "token" "J" (.long (0 : Int64)) := Df0_ (Or.inr (w_46 hw)) (ty := .long) (by decide)
  obtain ⟨T5, X5, e5, st5⟩ := getS2 X0_ hx hZ hown (host := "") (Or.inl (w_7 hw)) Via.refl e0_ (S_Z.ext f2.2) (g := (mkF m 5 #[.val (.long q1), .second, .val (.long q2), .second] [(.long q1), (.ref b0_), (.ref b0_)])) rfl (hb hby d1_5)
  have f6 : n0 ≤ b0_ := Nat.le_trans (own_old_le O0) (Nat.le_of_eq gg0_.symm)
  obtain ⟨_, _, ⟨T9, Lo9, kk9, nn9⟩, -, X9, hS9, hgr9, ⟨Lc9, hQ9, ll9, yy9, zz9⟩, st9⟩ := X5.specialBackS hx (y := (⟨"com/example/inlock/inlock/LockStore$Outcome", "<init>", "(JLjava/time/Duration;J)V"⟩ : MethodName)) rfl hown (mvT hZ (w_9 hw)) (mvT hZ (w_10 hw)) (mvT hZ (w_11 hw)) (by decide) (backOfS (W := 1) (rm_init l Z a0 hw [] b0_ q1 w q2 h0_ n0 f2 Aa0_ f3 f4 f5 f6 E_w F_s F_n hpos hnn) hZ (w_11 hw) (w_3 hw) (by decide) (by decide)) (g := (mkF m 9 #[.val (.long q1), .second, .val (.long q2), .second] [(.long q2), (.ref w), (.long q1), (.ref b0_), (.ref b0_)])) rfl (by rw [hml]; rfl) (Steps.refl _) (a := b0_) (argsL := [(.long q1), (.ref w), (.long q2)]) (rest := [(.ref b0_)]) (lenOf pd_3 rfl) rfl (by show 2 * 0 + _ ≤ _; exact Nat.le_of_eq rfl) (hb hby d1_9) (fun _ _ => ⟨rfl, e5, (by decide : 1 + 2 ≤ _), (by decide : 3 + 24 ≤ _)⟩)
  dsimp only [Pt.U, Pt.locs, Pt.cells, Pt.slots] at X9 ll9 yy9 zz9 st9 hQ9
  dsimp only [Pt.U] at hS9 hgr9
  subst ll9 yy9 zz9
  obtain ⟨rfl, N9q, K9q, p9_0, p9_1, p9_2⟩ := hQ9
  have N9 := Fr.app N0 N9q
  obtain ⟨hZ_9, hown_9⟩ := own_reb hZ hown hS9
  have f7 : h0.size ≤ b0_ := Nat.le_trans K0.1 (Nat.le_of_eq gg0_.symm)
  have f8 : Keep h0 T9.heap [] := f1.trans K9q (allS (Or.inr f7) all0)
  have f9 : Old Z n0 T9.heap := f2.keep K9q (allS f6 all0)
  obtain ⟨fs, hr, hrun, hended, hRW⟩ := X9.leaveW hS9 (Nat.le_refl _) (v := some (.ref b0_)) (fun h => by rw [Bd.returns] at h; cases h)
  refine ⟨_, _, pre0 _ ?_, hrun, hended, _, _, rfl, ?_, hRW.1, hRW.2.1, hRW.2.2.1, hRW.2.2.2.mono (by decide) (by decide)⟩
  · show Steps p.tables e below (s₁.setTop (mkF m 0 #[.val (.long q1), .second, .val (.long q2), .second] [])) _
    refine st0_ _ ?_
    show Steps p.tables e below (T0_.setTop (mkF m 3 #[.val (.long q1), .second, .val (.long q2), .second] [(.ref b0_)])) _
    refine XS.dup X0_.here hx rfl (hb hby d1_3) rfl rfl ?_
    show Steps p.tables e below (T0_.setTop (mkF m 4 #[.val (.long q1), .second, .val (.long q2), .second] [(.ref b0_), (.ref b0_)])) _
    refine XS.lloadN X0_.here hx rfl (hb hby d1_4) rfl ?_
    show Steps p.tables e below (T0_.setTop (mkF m 5 #[.val (.long q1), .second, .val (.long q2), .second] [(.long q1), (.ref b0_), (.ref b0_)])) _
    refine st5 _ ?_
    show Steps p.tables e below (T5.setTop (mkF m 8 #[.val (.long q1), .second, .val (.long q2), .second] [(.ref w), (.long q1), (.ref b0_), (.ref b0_)])) _
    refine XS.lloadN X5.here hx rfl (hb hby d1_8) rfl ?_
    show Steps p.tables e below (T5.setTop (mkF m 9 #[.val (.long q1), .second, .val (.long q2), .second] [(.long q2), (.ref w), (.long q1), (.ref b0_), (.ref b0_)])) _
    refine st9.trans ?_
    show Steps p.tables e below (T9.setTop (mkF m 12 #[.val (.long q1), .second, .val (.long q2), .second] [(.ref b0_)])) _
    jvm_step X9.here [X9.here.top, hx, (hb hby d1_12), X9.method', Bd.returns, Value.isRef, FieldType.isReference]
    first | (intro acts; rw [hr _ acts rfl rfl rfl]) | rw [hr _ _ rfl rfl rfl]
    exact Steps.refl _
  · show Q_held Z q1 q2 w h0 n0 _ T9.heap _
    exact ⟨b0_, rfl, N9, f8, f7, p9_0, p9_1, p9_2⟩
theorem d7_0 : decode prog_21_method_8_code 0 = .ok (.aload_n 0, 1) := by decide +kernel
theorem d7_1 : decode prog_21_method_8_code 1 = .ok (.getfield 44, 3) := by decide +kernel
theorem d7_4 : decode prog_21_method_8_code 4 = .ok (.lreturn, 1) := by decide +kernel
def Q_holds (Z : State) (a : Addr) (q1 : Int64) (h0 : Heap) (n0 : Nat) (v : Option Value) (h : Heap) (L : List Loc) : Prop := v = some (.long q1) ∧ Fr n0 L ∧ Keep h0 h []
theorem ef_rm_holds (m : MethodId) (x0 : Addr) : entryFrame m #[(.ref x0)] 1 = mkF m 0 #[.val (.ref x0)] [] := by first | (simp [entryFrame, mkF, argsToLocals, Value.category]; done) | rfl
set_option maxRecDepth 65536 in
set_option maxHeartbeats 40000000 in
theorem rm_holds (l : Launch) (Z : State) (a0 : Array Value) (hw : ∀ d ∈ tables_1, d.before a0 Z = true) (ws : List Jvm.Cond) (a : Addr) (q1 : Int64) (h0 : Heap) (n0 : Nat) (O0 : Old Z n0 h0) (F1 : Fld Z h0 a "com/example/inlock/inlock/LockStore$Outcome" "holds" "J" (.long q1)) :
    MetFree l (⟨"com/example/inlock/inlock/LockStore$Outcome", "holds", "()J"⟩ : MethodName) (head1 (Jvm.Cond.code (⟨"com/example/inlock/inlock/LockStore$Outcome", "holds", "()J"⟩ : MethodName) prog_21_method_8_code 1 (some .long) :: ws) ({ frames := 0, cells := 0, slots := 0, locals := 0 } : Room)) (fun as' U => as' = #[(.ref a)] ∧ Z.Warmed39 U.vm ∧ U.heap = h0) (fun _ _ _ _ _ => True) (fun _ U o U' => ∃ v L, o = .returned v ∧ Q_holds Z a q1 h0 n0 v U'.heap L ∧ FrameEnd U o U' L ({ frames := 0, cells := 0, slots := 0, locals := 0 } : Room).cells ({ frames := 0, cells := 0, slots := 0, locals := 0 } : Room).slots) := by
  refine MetFree.of_bodySF (plainFor_of_name pn_com_example_inlock_inlock_LockStore_Outcome) hisR ?_
  intro p e s m args below meth c s₁ Bd hml0 hP hK
  obtain ⟨rfl, hZ, hh⟩ := hP
  have hx := Bd.exec
  have hby := Bd.bytes
  have hml : c.maxLocals = 1 := hml0
  have hown : s.vm.findClass "com/example/inlock/inlock/LockStore$Outcome" = some m.cls := findClass_of_methodNamed Bd.named
  have hnm := (name_of_methodNamed Bd.named Bd.method).1
  have X0 : Stand p l e ({ frames := 0, cells := 0, slots := 0, locals := 0 } : Room) s m #[(.ref a)] below meth c s₁ [] 0 0 := Stand.of_body Bd
  have e0 : s₁.heap = h0 := by rw [← hh, Bd.state]; rfl
  have N0 := Fr.nil n0
  have K0 : Keep h0 h0 [] := Keep.refl _ _
  have pre0 : ∀ t, Steps p.tables e below (s₁.setTop (mkF m 0 #[.val (.ref a)] [])) t → Steps p.tables e below (s₁.setTop (entryFrame m #[(.ref a)] 1)) t := fun t k => castTop (ef_rm_holds m a) k
  obtain ⟨T1, X1, e1, st1⟩ := getF X0 hx hZ hown (host := "") (Or.inl (w_41 hw)) Via.refl e0 F1 (g := (mkF m 1 #[.val (.ref a)] [(.ref a)])) rfl rfl (hb hby d7_1)
  obtain ⟨fs, hr, hrun, hended, hW, hsame⟩ := X1.leave (v := some (.long q1)) (fun h => by rw [Bd.returns] at h; cases h)
  refine ⟨_, _, pre0 _ ?_, hrun, hended, _, _, rfl, ?_, ⟨_, rfl⟩, hW, hsame.mono (by decide) (by decide)⟩
  · show Steps p.tables e below (s₁.setTop (mkF m 0 #[.val (.ref a)] [])) _
    refine XS.aloadN X0.here hx rfl (hb hby d7_0) rfl rfl ?_
    show Steps p.tables e below (s₁.setTop (mkF m 1 #[.val (.ref a)] [(.ref a)])) _
    refine st1 _ ?_
    show Steps p.tables e below (T1.setTop (mkF m 4 #[.val (.ref a)] [(.long q1)])) _
    jvm_step X1.here [X1.here.top, hx, (hb hby d7_4), X1.method', Bd.returns, narrow]
    first | (intro acts; rw [hr _ acts rfl rfl rfl]) | rw [hr _ _ rfl rfl rfl]
    exact Steps.refl _
  · show Q_holds Z a q1 h0 n0 _ T1.heap _
    rw [e1]
    exact ⟨rfl, N0, K0⟩
theorem d8_0 : decode prog_21_method_10_code 0 = .ok (.aload_n 0, 1) := by decide +kernel
theorem d8_1 : decode prog_21_method_10_code 1 = .ok (.getfield 52, 3) := by decide +kernel
theorem d8_4 : decode prog_21_method_10_code 4 = .ok (.lreturn, 1) := by decide +kernel
def Q_token (Z : State) (a : Addr) (q1 : Int64) (h0 : Heap) (n0 : Nat) (v : Option Value) (h : Heap) (L : List Loc) : Prop := v = some (.long q1) ∧ Fr n0 L ∧ Keep h0 h []
theorem ef_rm_token (m : MethodId) (x0 : Addr) : entryFrame m #[(.ref x0)] 1 = mkF m 0 #[.val (.ref x0)] [] := by first | (simp [entryFrame, mkF, argsToLocals, Value.category]; done) | rfl
set_option maxRecDepth 65536 in
set_option maxHeartbeats 40000000 in
theorem rm_token (l : Launch) (Z : State) (a0 : Array Value) (hw : ∀ d ∈ tables_1, d.before a0 Z = true) (ws : List Jvm.Cond) (a : Addr) (q1 : Int64) (h0 : Heap) (n0 : Nat) (O0 : Old Z n0 h0) (F1 : Fld Z h0 a "com/example/inlock/inlock/LockStore$Outcome" "token" "J" (.long q1)) :
    MetFree l (⟨"com/example/inlock/inlock/LockStore$Outcome", "token", "()J"⟩ : MethodName) (head1 (Jvm.Cond.code (⟨"com/example/inlock/inlock/LockStore$Outcome", "token", "()J"⟩ : MethodName) prog_21_method_10_code 1 (some .long) :: ws) ({ frames := 0, cells := 0, slots := 0, locals := 0 } : Room)) (fun as' U => as' = #[(.ref a)] ∧ Z.Warmed39 U.vm ∧ U.heap = h0) (fun _ _ _ _ _ => True) (fun _ U o U' => ∃ v L, o = .returned v ∧ Q_token Z a q1 h0 n0 v U'.heap L ∧ FrameEnd U o U' L ({ frames := 0, cells := 0, slots := 0, locals := 0 } : Room).cells ({ frames := 0, cells := 0, slots := 0, locals := 0 } : Room).slots) := by
  refine MetFree.of_bodySF (plainFor_of_name pn_com_example_inlock_inlock_LockStore_Outcome) hisR ?_
  intro p e s m args below meth c s₁ Bd hml0 hP hK
  obtain ⟨rfl, hZ, hh⟩ := hP
  have hx := Bd.exec
  have hby := Bd.bytes
  have hml : c.maxLocals = 1 := hml0
  have hown : s.vm.findClass "com/example/inlock/inlock/LockStore$Outcome" = some m.cls := findClass_of_methodNamed Bd.named
  have hnm := (name_of_methodNamed Bd.named Bd.method).1
  have X0 : Stand p l e ({ frames := 0, cells := 0, slots := 0, locals := 0 } : Room) s m #[(.ref a)] below meth c s₁ [] 0 0 := Stand.of_body Bd
  have e0 : s₁.heap = h0 := by rw [← hh, Bd.state]; rfl
  have N0 := Fr.nil n0
  have K0 : Keep h0 h0 [] := Keep.refl _ _
  have pre0 : ∀ t, Steps p.tables e below (s₁.setTop (mkF m 0 #[.val (.ref a)] [])) t → Steps p.tables e below (s₁.setTop (entryFrame m #[(.ref a)] 1)) t := fun t k => castTop (ef_rm_token m a) k
  obtain ⟨T1, X1, e1, st1⟩ := getF X0 hx hZ hown (host := "") (Or.inl (w_45 hw)) Via.refl e0 F1 (g := (mkF m 1 #[.val (.ref a)] [(.ref a)])) rfl rfl (hb hby d8_1)
  obtain ⟨fs, hr, hrun, hended, hW, hsame⟩ := X1.leave (v := some (.long q1)) (fun h => by rw [Bd.returns] at h; cases h)
  refine ⟨_, _, pre0 _ ?_, hrun, hended, _, _, rfl, ?_, ⟨_, rfl⟩, hW, hsame.mono (by decide) (by decide)⟩
  · show Steps p.tables e below (s₁.setTop (mkF m 0 #[.val (.ref a)] [])) _
    refine XS.aloadN X0.here hx rfl (hb hby d8_0) rfl rfl ?_
    show Steps p.tables e below (s₁.setTop (mkF m 1 #[.val (.ref a)] [(.ref a)])) _
    refine st1 _ ?_
    show Steps p.tables e below (T1.setTop (mkF m 4 #[.val (.ref a)] [(.long q1)])) _
    jvm_step X1.here [X1.here.top, hx, (hb hby d8_4), X1.method', Bd.returns, narrow]
    first | (intro acts; rw [hr _ acts rfl rfl rfl]) | rw [hr _ _ rfl rfl rfl]
    exact Steps.refl _
  · show Q_token Z a q1 h0 n0 _ T1.heap _
    rw [e1]
    exact ⟨rfl, N0, K0⟩
theorem d9_0 : decode prog_21_method_4_code 0 = .ok (.aload_n 0, 1) := by decide +kernel
theorem d9_1 : decode prog_21_method_4_code 1 = .ok (.getfield 44, 3) := by decide +kernel
theorem d9_4 : decode prog_21_method_4_code 4 = .ok (.lconst 0, 1) := by decide +kernel
theorem d9_5 : decode prog_21_method_4_code 5 = .ok (.lcmp, 1) := by decide +kernel
theorem d9_6 : decode prog_21_method_4_code 6 = .ok (.ifCond .le 7, 3) := by decide +kernel
theorem d9_9 : decode prog_21_method_4_code 9 = .ok (.iconst 1, 1) := by decide +kernel
theorem d9_10 : decode prog_21_method_4_code 10 = .ok (.goto 4, 3) := by decide +kernel
theorem d9_14 : decode prog_21_method_4_code 14 = .ok (.ireturn, 1) := by decide +kernel
def Q_acq (Z : State) (a : Addr) (q1 : Int64) (h0 : Heap) (n0 : Nat) (v : Option Value) (h : Heap) (L : List Loc) : Prop := v = some (.int (1 : Int32)) ∧ Fr n0 L ∧ Keep h0 h []
theorem ef_rm_acq (m : MethodId) (x0 : Addr) : entryFrame m #[(.ref x0)] 1 = mkF m 0 #[.val (.ref x0)] [] := by first | (simp [entryFrame, mkF, argsToLocals, Value.category]; done) | rfl
set_option maxRecDepth 65536 in
set_option maxHeartbeats 40000000 in
theorem rm_acq (l : Launch) (Z : State) (a0 : Array Value) (hw : ∀ d ∈ tables_1, d.before a0 Z = true) (ws : List Jvm.Cond) (a : Addr) (q1 : Int64) (h0 : Heap) (n0 : Nat) (O0 : Old Z n0 h0) (F1 : Fld Z h0 a "com/example/inlock/inlock/LockStore$Outcome" "holds" "J" (.long q1)) (hpos : (0 : Int64) < q1) :
    MetFree l (⟨"com/example/inlock/inlock/LockStore$Outcome", "acquired", "()Z"⟩ : MethodName) (head1 (Jvm.Cond.code (⟨"com/example/inlock/inlock/LockStore$Outcome", "acquired", "()Z"⟩ : MethodName) prog_21_method_4_code 1 (some .boolean) :: ws) ({ frames := 0, cells := 0, slots := 0, locals := 0 } : Room)) (fun as' U => as' = #[(.ref a)] ∧ Z.Warmed39 U.vm ∧ U.heap = h0) (fun _ _ _ _ _ => True) (fun _ U o U' => ∃ v L, o = .returned v ∧ Q_acq Z a q1 h0 n0 v U'.heap L ∧ FrameEnd U o U' L ({ frames := 0, cells := 0, slots := 0, locals := 0 } : Room).cells ({ frames := 0, cells := 0, slots := 0, locals := 0 } : Room).slots) := by
  refine MetFree.of_bodySF (plainFor_of_name pn_com_example_inlock_inlock_LockStore_Outcome) hisR ?_
  intro p e s m args below meth c s₁ Bd hml0 hP hK
  obtain ⟨rfl, hZ, hh⟩ := hP
  have hx := Bd.exec
  have hby := Bd.bytes
  have hml : c.maxLocals = 1 := hml0
  have hown : s.vm.findClass "com/example/inlock/inlock/LockStore$Outcome" = some m.cls := findClass_of_methodNamed Bd.named
  have hnm := (name_of_methodNamed Bd.named Bd.method).1
  have X0 : Stand p l e ({ frames := 0, cells := 0, slots := 0, locals := 0 } : Room) s m #[(.ref a)] below meth c s₁ [] 0 0 := Stand.of_body Bd
  have e0 : s₁.heap = h0 := by rw [← hh, Bd.state]; rfl
  have N0 := Fr.nil n0
  have K0 : Keep h0 h0 [] := Keep.refl _ _
  have pre0 : ∀ t, Steps p.tables e below (s₁.setTop (mkF m 0 #[.val (.ref a)] [])) t → Steps p.tables e below (s₁.setTop (entryFrame m #[(.ref a)] 1)) t := fun t k => castTop (ef_rm_acq m a) k
  obtain ⟨T1, X1, e1, st1⟩ := getF X0 hx hZ hown (host := "") (Or.inl (w_41 hw)) Via.refl e0 F1 (g := (mkF m 1 #[.val (.ref a)] [(.ref a)])) rfl rfl (hb hby d9_1)
  obtain ⟨fs, hr, hrun, hended, hW, hsame⟩ := X1.leave (v := some (.int (1 : Int32))) (fun h => by rw [Bd.returns] at h; cases h)
  refine ⟨_, _, pre0 _ ?_, hrun, hended, _, _, rfl, ?_, ⟨_, rfl⟩, hW, hsame.mono (by decide) (by decide)⟩
  · show Steps p.tables e below (s₁.setTop (mkF m 0 #[.val (.ref a)] [])) _
    refine XS.aloadN X0.here hx rfl (hb hby d9_0) rfl rfl ?_
    show Steps p.tables e below (s₁.setTop (mkF m 1 #[.val (.ref a)] [(.ref a)])) _
    refine st1 _ ?_
    show Steps p.tables e below (T1.setTop (mkF m 4 #[.val (.ref a)] [(.long q1)])) _
    refine XS.lconst X1.here hx rfl (hb hby d9_4) ?_
    show Steps p.tables e below (T1.setTop (mkF m 5 #[.val (.ref a)] [(.long (0 : Int64)), (.long q1)])) _
    refine XS.lcmp X1.here hx rfl (hb hby d9_5) rfl ?_
    show Steps p.tables e below (T1.setTop (mkF m 6 #[.val (.ref a)] [(.int (lcmpW q1 (0 : Int64)))])) _
    refine XS.ifNo X1.here hx rfl (hb hby d9_6) rfl ((if0 _ _).trans (tlt ((lw_gt q1 (0 : Int64)).mpr hpos)).2.2.2) ?_
    show Steps p.tables e below (T1.setTop (mkF m 9 #[.val (.ref a)] [])) _
    refine XS.iconst X1.here hx rfl (hb hby d9_9) ?_
    show Steps p.tables e below (T1.setTop (mkF m 10 #[.val (.ref a)] [(.int (1 : Int32))])) _
    refine XS.goto X1.here hx rfl (pc0 := 10) (pc' := 14) rfl (hb hby d9_10) (by decide) (by decide) ?_
    show Steps p.tables e below (T1.setTop (mkF m 14 #[.val (.ref a)] [(.int (1 : Int32))])) _
    exact retN X1 hx (t := .boolean) Bd.returns (by simp) (hb hby d9_14) hr
  · show Q_acq Z a q1 h0 n0 _ T1.heap _
    rw [e1]
    exact ⟨rfl, N0, K0⟩
theorem pd_4 : parseMethodDescriptor "(JJ)Lcom/example/inlock/inlock/LockStore$Outcome;" = some ⟨[.long, .long], some (.object "com/example/inlock/inlock/LockStore$Outcome")⟩ := by decide +kernel
theorem pd_5 : parseMethodDescriptor "()J" = some ⟨[], some .long⟩ := by decide +kernel
def Q_law (Z : State) (p0 : Int64) (p1 : Int64) (w : Addr) (h0 : Heap) (n0 : Nat) (v : Option Value) (h : Heap) (L : List Loc) : Prop := v = some (.int (1 : Int32)) ∧ Fr n0 L ∧ Keep h0 h []
theorem pn_com_example_inlock_inlock_OutcomeHeldPinLaw : plainName "com/example/inlock/inlock/OutcomeHeldPinLaw" = true := by first | (simp [plainName, overriddenIn]; done) | decide +kernel
theorem ef_rm_law (m : MethodId) (x0 : Int64) (x1 : Int64) : entryFrame m #[(.long x0), (.long x1)] maxLocals = mkF m 0 #[.val (.long x0), .second, .val (.long x1), .second, .unset, .unset, .unset, .unset, .unset] [] := by first | (simp [entryFrame, mkF, argsToLocals, Value.category, maxLocals]; done) | rfl
set_option maxRecDepth 65536 in
set_option maxHeartbeats 40000000 in
theorem rm_law (l : Launch) (Z : State) (a0 : Array Value) (hw : ∀ d ∈ tables_1, d.before a0 Z = true) (ws : List Jvm.Cond) (p0 : Int64) (p1 : Int64) (w : Addr) (h0 : Heap) (n0 : Nat) (O0 : Old Z n0 h0) (S_Z : Sta Z Z.heap "java/time/Duration" "ZERO" "Ljava/time/Duration;" (.ref w)) (E_w : Exa Z Z.heap w "java/time/Duration") (F_s : Fld Z Z.heap w "java/time/Duration" "seconds" "J" (.long (0 : Int64))) (F_n : Fld Z Z.heap w "java/time/Duration" "nanos" "I" (.int (0 : Int32))) :
    MetFree l x (head1 (Jvm.Cond.code x code maxLocals ret :: ws) room_1) (fun as' U => as' = #[(.long p0), (.long p1)] ∧ Z.Warmed39 U.vm ∧ U.heap = h0) (fun _ _ _ _ _ => True) (fun _ U o U' => ∃ v L, o = .returned v ∧ Q_law Z p0 p1 w h0 n0 v U'.heap L ∧ ReturnedEndW U o U' L room_1.cells room_1.slots) := by
  refine MetFree.of_bodySF (plainFor_of_name pn_com_example_inlock_inlock_OutcomeHeldPinLaw) hisR ?_
  intro p e s m args below meth c s₁ Bd hml0 hP hK
  obtain ⟨rfl, hZ, hh⟩ := hP
  have hx := Bd.exec
  have hby := Bd.bytes
  have hml : c.maxLocals = 9 := hml0
  have hown : s.vm.findClass "com/example/inlock/inlock/OutcomeHeldPinLaw" = some m.cls := findClass_of_methodNamed Bd.named
  have hnm := (name_of_methodNamed Bd.named Bd.method).1
  have X0 : Stand p l e room_1 s m #[(.long p0), (.long p1)] below meth c s₁ [] 0 0 := Stand.of_body Bd
  have e0 : s₁.heap = h0 := by rw [← hh, Bd.state]; rfl
  have N0 := Fr.nil n0
  have K0 : Keep h0 h0 [] := Keep.refl _ _
  have pre0 : ∀ t, Steps p.tables e below (s₁.setTop (mkF m 0 #[.val (.long p0), .second, .val (.long p1), .second, .unset, .unset, .unset, .unset, .unset] [])) t → Steps p.tables e below (s₁.setTop (entryFrame m #[(.long p0), (.long p1)] maxLocals)) t := fun t k => castTop (ef_rm_law m p0 p1) k
  obtain ⟨z11, hz11⟩ : ∃ z : Int64, z = (if (lcmpW (p0 &&& (9223372036854775807 : Int64)) (0 : Int64)) = (0 : Int32) then (1 : Int64) else (p0 &&& (9223372036854775807 : Int64))) := ⟨_, rfl⟩
  have hpos := own_pos hz11
  have hnn := own_nn p1
  obtain ⟨_, _, ⟨T28, Lo28, kk28, nn28⟩, -, X28, hS28, hgr28, ⟨Lc28, hQ28, ll28, yy28, zz28⟩, st28⟩ := callSS X0 hx (y := (⟨"com/example/inlock/inlock/LockStore$Outcome", "held", "(JJ)Lcom/example/inlock/inlock/LockStore$Outcome;"⟩ : MethodName)) hown (mvT hZ (w_1 hw)) (mvT hZ (w_2 hw)) (mvT hZ (w_3 hw)) (mvT hZ (w_4 hw)) (by decide) (backOfS (W := 0) (rm_held l Z a0 hw [] z11 ((p1 &&& (9223372036854775807 : Int64))) w h0 n0 O0 S_Z E_w F_s F_n hpos hnn) hZ (w_4 hw) (w_3 hw) (by decide) (by decide)) (g := (mkF m 28 #[.val (.long p0), .second, .val (.long p1), .second, .val (.long z11), .second, .val (.long (p1 &&& (9223372036854775807 : Int64))), .second, .unset] [(.long (p1 &&& (9223372036854775807 : Int64))), (.long z11)])) rfl (by rw [hml]; rfl) (argsL := [(.long z11), (.long (p1 &&& (9223372036854775807 : Int64)))]) (rest := []) (lenOf pd_4 rfl) rfl (by show 2 * 0 + _ ≤ _; exact Nat.le_of_eq rfl) (hb hby at_28) (fun _ _ => ⟨rfl, e0, (by decide : 0 + 3 ≤ _), (by decide : 0 + 27 ≤ _)⟩)
  dsimp only [Pt.U, Pt.locs, Pt.cells, Pt.slots] at X28 ll28 yy28 zz28 st28 hQ28
  dsimp only [Pt.U] at hS28 hgr28
  subst ll28 yy28 zz28
  obtain ⟨b28, rfl, N28q, K28q, p28_0, p28_1, p28_2, p28_3⟩ := hQ28
  have N28 := Fr.app N0 N28q
  obtain ⟨hZ_28, hown_28⟩ := own_reb hZ hown hS28
  have f1 : Keep h0 T28.heap [] := K0.trans K28q all0
  have f2 : Old Z n0 T28.heap := O0.keep K28q all0
  obtain ⟨cq35, kq35, q35a, q35b, q35c⟩ := isOf hZ_28 rfl p28_1
  obtain ⟨_, _, ⟨T35, Lo35, kk35, nn35⟩, -, X35, ⟨Lc35, hQ35, ll35, yy35, zz35⟩, st35⟩ := X28.virtualBack hx (y := (⟨"com/example/inlock/inlock/LockStore$Outcome", "holds", "()J"⟩ : MethodName)) (z := (⟨"com/example/inlock/inlock/LockStore$Outcome", "holds", "()J"⟩ : MethodName)) hown_28 (mvT hZ_28 (w_47 hw)) (mvT hZ_28 (w_48 hw)) (notFace_of_selects (args := #[]) (mvT hZ_28 (w_50 hw))) (mvT hZ_28 (w_50 hw)) (mvT hZ_28 (w_49 hw)) (by decide) (backOf (W := 0) (rm_holds l Z a0 hw [] b28 z11 T28.heap n0 f2 p28_2) hZ_28 (w_51 hw) (w_3 hw) (by decide) (by decide)) q35a q35c (g := (mkF m 35 #[.val (.long p0), .second, .val (.long p1), .second, .val (.long z11), .second, .val (.long (p1 &&& (9223372036854775807 : Int64))), .second, .val (.ref b28)] [(.ref b28)])) rfl (by rw [hml]; rfl) (Steps.refl _) (argsL := []) (rest := []) (lenOf pd_5 rfl) rfl (by show 2 * 0 + _ ≤ _; exact Nat.le_of_eq rfl) (hb hby at_35) (fun _ _ => ⟨rfl, rfl, (by decide : 3 + 0 ≤ _), (by decide : 27 + 0 ≤ _)⟩)
  dsimp only [Pt.U, Pt.locs, Pt.cells, Pt.slots] at X35 ll35 yy35 zz35 st35 hQ35
  subst ll35 yy35 zz35
  obtain ⟨rfl, N35q, K35q⟩ := hQ35
  have N35 := Fr.app N28 N35q
  have f3 : Keep h0 T35.heap [] := f1.trans K35q all0
  have f4 : Old Z n0 T35.heap := f2.keep K35q all0
  have hk5 := Nat.le_trans (Nat.le_refl _) K35q.1
  have f6 : Fld Z T35.heap b28 "com/example/inlock/inlock/LockStore$Outcome" "token" "J" (.long (p1 &&& (9223372036854775807 : Int64))) := p28_3.keep K35q nin0
  have f7 : Exa Z T35.heap b28 "com/example/inlock/inlock/LockStore$Outcome" := p28_1.keep K35q
  obtain ⟨cq46, kq46, q46a, q46b, q46c⟩ := isOf hZ_28 rfl f7
  obtain ⟨_, _, ⟨T46, Lo46, kk46, nn46⟩, -, X46, ⟨Lc46, hQ46, ll46, yy46, zz46⟩, st46⟩ := X35.virtualBack hx (y := (⟨"com/example/inlock/inlock/LockStore$Outcome", "token", "()J"⟩ : MethodName)) (z := (⟨"com/example/inlock/inlock/LockStore$Outcome", "token", "()J"⟩ : MethodName)) hown_28 (mvT hZ_28 (w_52 hw)) (mvT hZ_28 (w_53 hw)) (notFace_of_selects (args := #[]) (mvT hZ_28 (w_55 hw))) (mvT hZ_28 (w_55 hw)) (mvT hZ_28 (w_54 hw)) (by decide) (backOf (W := 0) (rm_token l Z a0 hw [] b28 ((p1 &&& (9223372036854775807 : Int64))) T35.heap n0 f4 f6) hZ_28 (w_56 hw) (w_3 hw) (by decide) (by decide)) q46a q46c (g := (mkF m 46 #[.val (.long p0), .second, .val (.long p1), .second, .val (.long z11), .second, .val (.long (p1 &&& (9223372036854775807 : Int64))), .second, .val (.ref b28)] [(.ref b28)])) rfl (by rw [hml]; rfl) (Steps.refl _) (argsL := []) (rest := []) (lenOf pd_5 rfl) rfl (by show 2 * 0 + _ ≤ _; exact Nat.le_of_eq rfl) (hb hby at_46) (fun _ _ => ⟨rfl, rfl, (by decide : 3 + 0 ≤ _), (by decide : 27 + 0 ≤ _)⟩)
  dsimp only [Pt.U, Pt.locs, Pt.cells, Pt.slots] at X46 ll46 yy46 zz46 st46 hQ46
  subst ll46 yy46 zz46
  obtain ⟨rfl, N46q, K46q⟩ := hQ46
  have N46 := Fr.app N35 N46q
  have f8 : Keep h0 T46.heap [] := f3.trans K46q all0
  have f9 : Old Z n0 T46.heap := f4.keep K46q all0
  have hk10 := Nat.le_trans hk5 K46q.1
  have f11 : Fld Z T35.heap b28 "com/example/inlock/inlock/LockStore$Outcome" "holds" "J" (.long z11) := p28_2.keep K35q nin0
  have f12 : Fld Z T46.heap b28 "com/example/inlock/inlock/LockStore$Outcome" "holds" "J" (.long z11) := f11.keep K46q nin0
  have f13 : Exa Z T46.heap b28 "com/example/inlock/inlock/LockStore$Outcome" := f7.keep K46q
  obtain ⟨cq57, kq57, q57a, q57b, q57c⟩ := isOf hZ_28 rfl f13
  obtain ⟨_, _, ⟨T57, Lo57, kk57, nn57⟩, -, X57, ⟨Lc57, hQ57, ll57, yy57, zz57⟩, st57⟩ := X46.virtualBack hx (y := (⟨"com/example/inlock/inlock/LockStore$Outcome", "acquired", "()Z"⟩ : MethodName)) (z := (⟨"com/example/inlock/inlock/LockStore$Outcome", "acquired", "()Z"⟩ : MethodName)) hown_28 (mvT hZ_28 (w_57 hw)) (mvT hZ_28 (w_58 hw)) (notFace_of_selects (args := #[]) (mvT hZ_28 (w_60 hw))) (mvT hZ_28 (w_60 hw)) (mvT hZ_28 (w_59 hw)) (by decide) (backOf (W := 0) (rm_acq l Z a0 hw [] b28 z11 T46.heap n0 f9 f12 hpos) hZ_28 (w_61 hw) (w_3 hw) (by decide) (by decide)) q57a q57c (g := (mkF m 57 #[.val (.long p0), .second, .val (.long p1), .second, .val (.long z11), .second, .val (.long (p1 &&& (9223372036854775807 : Int64))), .second, .val (.ref b28)] [(.ref b28)])) rfl (by rw [hml]; rfl) (Steps.refl _) (argsL := []) (rest := []) (lenOf pd_2 rfl) rfl (by show 2 * 0 + _ ≤ _; exact Nat.le_of_eq rfl) (hb hby at_57) (fun _ _ => ⟨rfl, rfl, (by decide : 3 + 0 ≤ _), (by decide : 27 + 0 ≤ _)⟩)
  dsimp only [Pt.U, Pt.locs, Pt.cells, Pt.slots] at X57 ll57 yy57 zz57 st57 hQ57
  subst ll57 yy57 zz57
  obtain ⟨rfl, N57q, K57q⟩ := hQ57
  have N57 := Fr.app N46 N57q
  have f14 : Keep h0 T57.heap [] := f8.trans K57q all0
  have f15 : Old Z n0 T57.heap := f9.keep K57q all0
  have hk16 := Nat.le_trans hk10 K57q.1
  obtain ⟨fs, hr, hrun, hended, hRW⟩ := X57.leaveW hS28 hk16 (v := some (.int (1 : Int32))) (fun h => by rw [Bd.returns] at h; cases h)
  refine ⟨_, _, pre0 _ ?_, hrun, hended, _, _, rfl, ?_, hRW.1, hRW.2.1, hRW.2.2.1, hRW.2.2.2.mono (by decide) (by decide)⟩
  · show Steps p.tables e below (s₁.setTop (mkF m 0 #[.val (.long p0), .second, .val (.long p1), .second, .unset, .unset, .unset, .unset, .unset] [])) _
    refine XS.lloadN X0.here hx rfl (hb hby at_0) rfl ?_
    show Steps p.tables e below (s₁.setTop (mkF m 1 #[.val (.long p0), .second, .val (.long p1), .second, .unset, .unset, .unset, .unset, .unset] [(.long p0)])) _
    refine Jvm.Stand.ldc2J X0 hx hown (mvT hZ (w_0 hw)) rfl (hb hby at_1) ?_
    show Steps p.tables e below (s₁.setTop (mkF m 4 #[.val (.long p0), .second, .val (.long p1), .second, .unset, .unset, .unset, .unset, .unset] [(.long (9223372036854775807 : Int64)), (.long p0)])) _
    refine XS.land X0.here hx rfl (hb hby at_4) rfl ?_
    show Steps p.tables e below (s₁.setTop (mkF m 5 #[.val (.long p0), .second, .val (.long p1), .second, .unset, .unset, .unset, .unset, .unset] [(.long (p0 &&& (9223372036854775807 : Int64)))])) _
    refine XS.lstore X0.here hx rfl (hb hby at_5) rfl (l' := #[.val (.long p0), .second, .val (.long p1), .second, .val (.long (p0 &&& (9223372036854775807 : Int64))), .second, .unset, .unset, .unset]) rfl ?_
    show Steps p.tables e below (s₁.setTop (mkF m 7 #[.val (.long p0), .second, .val (.long p1), .second, .val (.long (p0 &&& (9223372036854775807 : Int64))), .second, .unset, .unset, .unset] [])) _
    refine XS.lload X0.here hx rfl (hb hby at_7) rfl ?_
    show Steps p.tables e below (s₁.setTop (mkF m 9 #[.val (.long p0), .second, .val (.long p1), .second, .val (.long (p0 &&& (9223372036854775807 : Int64))), .second, .unset, .unset, .unset] [(.long (p0 &&& (9223372036854775807 : Int64)))])) _
    refine XS.lconst X0.here hx rfl (hb hby at_9) ?_
    show Steps p.tables e below (s₁.setTop (mkF m 10 #[.val (.long p0), .second, .val (.long p1), .second, .val (.long (p0 &&& (9223372036854775807 : Int64))), .second, .unset, .unset, .unset] [(.long (0 : Int64)), (.long (p0 &&& (9223372036854775807 : Int64)))])) _
    refine XS.lcmp X0.here hx rfl (hb hby at_10) rfl ?_
    have jn11 : ∀ t, Steps p.tables e below (s₁.setTop (mkF m 17 #[.val (.long p0), .second, .val (.long p1), .second, .val (.long z11), .second, .unset, .unset, .unset] [])) t → Steps p.tables e below (s₁.setTop (mkF m 11 #[.val (.long p0), .second, .val (.long p1), .second, .val (.long (p0 &&& (9223372036854775807 : Int64))), .second, .unset, .unset, .unset] [(.int (lcmpW (p0 &&& (9223372036854775807 : Int64)) (0 : Int64)))])) t := by
      intro t kt
      show Steps p.tables e below (s₁.setTop (mkF m 11 #[.val (.long p0), .second, .val (.long p1), .second, .val (.long (p0 &&& (9223372036854775807 : Int64))), .second, .unset, .unset, .unset] [(.int (lcmpW (p0 &&& (9223372036854775807 : Int64)) (0 : Int64)))])) _
      by_cases hd11 : (lcmpW (p0 &&& (9223372036854775807 : Int64)) (0 : Int64)) = (0 : Int32)
      · refine XS.ifNo X0.here hx rfl (hb hby at_11) rfl ((if0 _ _).trans (teq hd11).2) ?_
        show Steps p.tables e below (s₁.setTop (mkF m 14 #[.val (.long p0), .second, .val (.long p1), .second, .val (.long (p0 &&& (9223372036854775807 : Int64))), .second, .unset, .unset, .unset] [])) _
        refine XS.lconst X0.here hx rfl (hb hby at_14) ?_
        show Steps p.tables e below (s₁.setTop (mkF m 15 #[.val (.long p0), .second, .val (.long p1), .second, .val (.long (p0 &&& (9223372036854775807 : Int64))), .second, .unset, .unset, .unset] [(.long (1 : Int64))])) _
        refine XS.lstore X0.here hx rfl (hb hby at_15) rfl (l' := #[.val (.long p0), .second, .val (.long p1), .second, .val (.long (1 : Int64)), .second, .unset, .unset, .unset]) rfl ?_
        rw [hz11, if_pos hd11] at kt
        exact kt
      · refine XS.ifYes X0.here hx rfl (pc0 := 11) (pc' := 17) rfl (hb hby at_11) rfl ((if0 _ _).trans (feq hd11).2) (by decide) (by decide) ?_
        rw [hz11, if_neg hd11] at kt
        exact kt
    refine jn11 _ ?_
    show Steps p.tables e below (s₁.setTop (mkF m 17 #[.val (.long p0), .second, .val (.long p1), .second, .val (.long z11), .second, .unset, .unset, .unset] [])) _
    refine XS.lloadN X0.here hx rfl (hb hby at_17) rfl ?_
    show Steps p.tables e below (s₁.setTop (mkF m 18 #[.val (.long p0), .second, .val (.long p1), .second, .val (.long z11), .second, .unset, .unset, .unset] [(.long p1)])) _
    refine Jvm.Stand.ldc2J X0 hx hown (mvT hZ (w_0 hw)) rfl (hb hby at_18) ?_
    show Steps p.tables e below (s₁.setTop (mkF m 21 #[.val (.long p0), .second, .val (.long p1), .second, .val (.long z11), .second, .unset, .unset, .unset] [(.long (9223372036854775807 : Int64)), (.long p1)])) _
    refine XS.land X0.here hx rfl (hb hby at_21) rfl ?_
    show Steps p.tables e below (s₁.setTop (mkF m 22 #[.val (.long p0), .second, .val (.long p1), .second, .val (.long z11), .second, .unset, .unset, .unset] [(.long (p1 &&& (9223372036854775807 : Int64)))])) _
    refine XS.lstore X0.here hx rfl (hb hby at_22) rfl (l' := #[.val (.long p0), .second, .val (.long p1), .second, .val (.long z11), .second, .val (.long (p1 &&& (9223372036854775807 : Int64))), .second, .unset]) rfl ?_
    show Steps p.tables e below (s₁.setTop (mkF m 24 #[.val (.long p0), .second, .val (.long p1), .second, .val (.long z11), .second, .val (.long (p1 &&& (9223372036854775807 : Int64))), .second, .unset] [])) _
    refine XS.lload X0.here hx rfl (hb hby at_24) rfl ?_
    show Steps p.tables e below (s₁.setTop (mkF m 26 #[.val (.long p0), .second, .val (.long p1), .second, .val (.long z11), .second, .val (.long (p1 &&& (9223372036854775807 : Int64))), .second, .unset] [(.long z11)])) _
    refine XS.lload X0.here hx rfl (hb hby at_26) rfl ?_
    show Steps p.tables e below (s₁.setTop (mkF m 28 #[.val (.long p0), .second, .val (.long p1), .second, .val (.long z11), .second, .val (.long (p1 &&& (9223372036854775807 : Int64))), .second, .unset] [(.long (p1 &&& (9223372036854775807 : Int64))), (.long z11)])) _
    refine st28.trans ?_
    show Steps p.tables e below (T28.setTop (mkF m 31 #[.val (.long p0), .second, .val (.long p1), .second, .val (.long z11), .second, .val (.long (p1 &&& (9223372036854775807 : Int64))), .second, .unset] [(.ref b28)])) _
    refine XS.astore X28.here hx rfl (hb hby at_31) rfl rfl (l' := #[.val (.long p0), .second, .val (.long p1), .second, .val (.long z11), .second, .val (.long (p1 &&& (9223372036854775807 : Int64))), .second, .val (.ref b28)]) rfl ?_
    show Steps p.tables e below (T28.setTop (mkF m 33 #[.val (.long p0), .second, .val (.long p1), .second, .val (.long z11), .second, .val (.long (p1 &&& (9223372036854775807 : Int64))), .second, .val (.ref b28)] [])) _
    refine XS.aload X28.here hx rfl (hb hby at_33) rfl rfl ?_
    show Steps p.tables e below (T28.setTop (mkF m 35 #[.val (.long p0), .second, .val (.long p1), .second, .val (.long z11), .second, .val (.long (p1 &&& (9223372036854775807 : Int64))), .second, .val (.ref b28)] [(.ref b28)])) _
    refine st35.trans ?_
    show Steps p.tables e below (T35.setTop (mkF m 38 #[.val (.long p0), .second, .val (.long p1), .second, .val (.long z11), .second, .val (.long (p1 &&& (9223372036854775807 : Int64))), .second, .val (.ref b28)] [(.long z11)])) _
    refine XS.lload X35.here hx rfl (hb hby at_38) rfl ?_
    show Steps p.tables e below (T35.setTop (mkF m 40 #[.val (.long p0), .second, .val (.long p1), .second, .val (.long z11), .second, .val (.long (p1 &&& (9223372036854775807 : Int64))), .second, .val (.ref b28)] [(.long z11), (.long z11)])) _
    refine XS.lcmp X35.here hx rfl (hb hby at_40) rfl ?_
    show Steps p.tables e below (T35.setTop (mkF m 41 #[.val (.long p0), .second, .val (.long p1), .second, .val (.long z11), .second, .val (.long (p1 &&& (9223372036854775807 : Int64))), .second, .val (.ref b28)] [(.int (lcmpW z11 z11))])) _
    refine XS.ifNo X35.here hx rfl (hb hby at_41) rfl ((if0 _ _).trans (teq ((lw_eq _ _).mpr rfl)).2) ?_
    show Steps p.tables e below (T35.setTop (mkF m 44 #[.val (.long p0), .second, .val (.long p1), .second, .val (.long z11), .second, .val (.long (p1 &&& (9223372036854775807 : Int64))), .second, .val (.ref b28)] [])) _
    refine XS.aload X35.here hx rfl (hb hby at_44) rfl rfl ?_
    show Steps p.tables e below (T35.setTop (mkF m 46 #[.val (.long p0), .second, .val (.long p1), .second, .val (.long z11), .second, .val (.long (p1 &&& (9223372036854775807 : Int64))), .second, .val (.ref b28)] [(.ref b28)])) _
    refine st46.trans ?_
    show Steps p.tables e below (T46.setTop (mkF m 49 #[.val (.long p0), .second, .val (.long p1), .second, .val (.long z11), .second, .val (.long (p1 &&& (9223372036854775807 : Int64))), .second, .val (.ref b28)] [(.long (p1 &&& (9223372036854775807 : Int64)))])) _
    refine XS.lload X46.here hx rfl (hb hby at_49) rfl ?_
    show Steps p.tables e below (T46.setTop (mkF m 51 #[.val (.long p0), .second, .val (.long p1), .second, .val (.long z11), .second, .val (.long (p1 &&& (9223372036854775807 : Int64))), .second, .val (.ref b28)] [(.long (p1 &&& (9223372036854775807 : Int64))), (.long (p1 &&& (9223372036854775807 : Int64)))])) _
    refine XS.lcmp X46.here hx rfl (hb hby at_51) rfl ?_
    show Steps p.tables e below (T46.setTop (mkF m 52 #[.val (.long p0), .second, .val (.long p1), .second, .val (.long z11), .second, .val (.long (p1 &&& (9223372036854775807 : Int64))), .second, .val (.ref b28)] [(.int (lcmpW (p1 &&& (9223372036854775807 : Int64)) (p1 &&& (9223372036854775807 : Int64))))])) _
    refine XS.ifNo X46.here hx rfl (hb hby at_52) rfl ((if0 _ _).trans (teq ((lw_eq _ _).mpr rfl)).2) ?_
    show Steps p.tables e below (T46.setTop (mkF m 55 #[.val (.long p0), .second, .val (.long p1), .second, .val (.long z11), .second, .val (.long (p1 &&& (9223372036854775807 : Int64))), .second, .val (.ref b28)] [])) _
    refine XS.aload X46.here hx rfl (hb hby at_55) rfl rfl ?_
    show Steps p.tables e below (T46.setTop (mkF m 57 #[.val (.long p0), .second, .val (.long p1), .second, .val (.long z11), .second, .val (.long (p1 &&& (9223372036854775807 : Int64))), .second, .val (.ref b28)] [(.ref b28)])) _
    refine st57.trans ?_
    show Steps p.tables e below (T57.setTop (mkF m 60 #[.val (.long p0), .second, .val (.long p1), .second, .val (.long z11), .second, .val (.long (p1 &&& (9223372036854775807 : Int64))), .second, .val (.ref b28)] [(.int (1 : Int32))])) _
    refine XS.ifNo X57.here hx rfl (hb hby at_60) rfl ((if0 _ _).trans (feq (by decide : ¬ ((1 : Int32) = (0 : Int32)))).1) ?_
    show Steps p.tables e below (T57.setTop (mkF m 63 #[.val (.long p0), .second, .val (.long p1), .second, .val (.long z11), .second, .val (.long (p1 &&& (9223372036854775807 : Int64))), .second, .val (.ref b28)] [])) _
    refine XS.iconst X57.here hx rfl (hb hby at_63) ?_
    show Steps p.tables e below (T57.setTop (mkF m 64 #[.val (.long p0), .second, .val (.long p1), .second, .val (.long z11), .second, .val (.long (p1 &&& (9223372036854775807 : Int64))), .second, .val (.ref b28)] [(.int (1 : Int32))])) _
    refine XS.goto X57.here hx rfl (pc0 := 64) (pc' := 68) rfl (hb hby at_64) (by decide) (by decide) ?_
    show Steps p.tables e below (T57.setTop (mkF m 68 #[.val (.long p0), .second, .val (.long p1), .second, .val (.long z11), .second, .val (.long (p1 &&& (9223372036854775807 : Int64))), .second, .val (.ref b28)] [(.int (1 : Int32))])) _
    exact retN X57 hx (t := .boolean) Bd.returns (by simp) (hb hby at_68) hr
  · show Q_law Z p0 p1 w h0 n0 _ T57.heap _
    exact ⟨rfl, N57, f14⟩
set_option maxRecDepth 65536 in
set_option maxHeartbeats 40000000 in
theorem comes_1 {Post : Tables → Env → Array Value → State → Outcome → State → Prop} (hpost : ∀ tb e args s v u, (limb_1_1.after args s (.returned v) u = true ∧ limb_1_2.after args s (.returned v) u = true ∧ True) → ReturnedEndW s (.returned v) u (Jvm.fieldLocs frame_1_writes args s ++ Jvm.arrayLocs frame_1_arrays args s ++ Jvm.staticLocs frame_1_statics s) 16 1152 → Post tb e args s (.returned v) u) :
    ArmFor flags0 classFile x code maxLocals ret World_1 tables_1 room_1 Calls_1 rest_1 Pre_1 Post := by
  intro l hfl _ _ p e ha hc hk s m args below hf hA hF happ hP
  obtain ⟨hcalls, hrest, hpre⟩ := hP
  obtain ⟨-, -, -, hnamed, -, -, -, hat⟩ := (Spec.applies_iff hf).mp happ
  obtain ⟨hg, hn⟩ := and_e (Cond.before_iff.mp (show (Jvm.Cond.and given_1 narrow_1).before args s = true from hpre))
  obtain ⟨hcount, hgs0⟩ := and_e hg
  obtain ⟨ha0, hgs1⟩ := and_e hgs0
  have ha1 := hgs1
  obtain ⟨w0, w1, rfl⟩ : ∃ w0 w1 : Value, args = #[w0, w1] := by
    have hs : args.size = 2 := by simpa [Cond.value, given_1] using hcount
    obtain ⟨L⟩ := args
    match L, hs with
    | [w0, w1], _ => exact ⟨w0, w1, rfl⟩
  have hw := fun d (hd : d ∈ tables_1) => atoms_spec (ws := Jvm.Cond.code x code maxLocals ret :: tables_1) hat d (List.mem_cons_of_mem _ hd)
  have hfit : Fit s := fun {y c} hc i hi => by
    obtain ⟨ha, rfl⟩ := Array.getElem?_eq_some_iff.mp hc
    have q := List.all_eq_true.mp ((Array.all_eq_true_iff_forall_mem.mp hF) _ (Array.getElem_mem ha)) i (List.mem_range.mpr hi)
    simpa [Array.getElem?_eq_getElem hi] using q
  obtain ⟨hsets, hown0⟩ := atoms_of _ (rest_1_c_eq ▸ (show rest_1_c.before _ s = true from hrest))
  obtain ⟨i0, ei0⟩ := isL_v ha0
  obtain rfl : w0 = (.long i0) := Option.some.inj ei0
  obtain ⟨i1, ei1⟩ := isL_v ha1
  obtain rfl : w1 = (.long i1) := Option.some.inj ei1
  have x2 := Cond.before_iff.mp (hsets _ (List.mem_of_getElem? (i := 2) rfl))
  obtain ⟨w, ew⟩ := exa_v x2
  have E_w := Exa.start ew x2
  have S_w := Sta.start ew (Or.inr ⟨(w_8 hw), (hsets _ (List.mem_of_getElem? (i := 0) rfl))⟩)
  have F_s := Fld.start ((fld_at ew).symm.trans (eqv_l (long_at _) (Cond.before_iff.mp (hsets _ (List.mem_of_getElem? (i := 3) rfl)))))
  have F_n := Fld.start ((fld_at ew).symm.trans (eqv_i (Term.int_eval _) (Cond.before_iff.mp (hsets _ (List.mem_of_getElem? (i := 4) rfl)))))
  obtain ⟨n, o, h1, h2, h3, _, L, rfl, ⟨rfl, N, -⟩, hq⟩ := rm_law l s _ hw tables_1 i0 i1 w s.heap s.heap.size (Old.start s) S_w E_w F_s F_n p e ha hc hk s m _ below hf ((Spec.applies_iff_loose hf).mp happ).1 ⟨rfl, State.Warmed39.refl s, rfl⟩ trivial
  refine ⟨n, _, h1, h2, h3, hpost _ _ _ _ _ _ ⟨Cond.after_iff.mpr rfl, Cond.after_iff.mpr (eq_i res_at (Term.int_eval (1)) rfl), trivial⟩ ⟨hq.1, hq.2.1, hq.2.2.1, (hq.2.2.2.sift fun y hy => Or.inr (N y hy)).mono (by decide) (by decide)⟩⟩
theorem main_1_1 : Claimed_1_1 := comes_1 fun _ _ _ _ _ _ h hF => ⟨h.1, hF⟩
theorem main_1_2 : Claimed_1_2 := comes_1 fun _ _ _ _ _ _ h hF => ⟨h.2.1, hF⟩
end Jvm.Pilot.@@N@@
namespace Jvm.Pilot.@@N@@
open Jvm Jvm.ClassFile Sem Op Lib Jvm.Free Jvm.Stand Jvm.Pilot.@@N@@.Jvm.D
/-! MADE BY PROGRAM (witnessworld.py) out of the Statement's table words and the real class files: 18 classes; the members and pool entries that the words name. The judged class is class 1, her method 1. -/
namespace start1
open Jvm.ClassFile
def u (s : String) : CpInfo := .utf8 (stringToUtf16 s)
/-- a pool by its gaps: so many unusable entries, then the entry; so many at the end -/
def gap : Nat → List CpInfo → List CpInfo
  | 0, r => r
  | n + 1, r => .unusable :: gap n r
def poolList (es : List (Nat × CpInfo)) (last : Nat) : List CpInfo := es.foldr (fun e r => gap e.1 (e.2 :: r)) (gap last [])
def pool (es : List (Nat × CpInfo)) (last : Nat) : Array CpInfo := ⟨poolList es last⟩
def fileOf (pool : Array CpInfo) (this : Nat) (attrs : Array Attribute := #[]) (ms : Array MethodInfo := #[]) (fl : Nat := 33) (sup : Nat := 0) (ifs : Array Nat := #[]) (fds : Array FieldInfo := #[]) : ClassFile where
  minorVersion := 0
  majorVersion := 65
  constantPool := pool
  accessFlags := fl
  thisClass := this
  superClass := sup
  interfaces := ifs
  fields := fds
  methods := ms
  attributes := attrs
def plain (name : String) (sup : Option ClassId) : Class where
  name := name
  kind := .ordinary
  loader := none
  accessFlags := 33
  super := sup
  interfaces := #[]
  cf := none
  fields := #[]
  methods := #[]
  instanceTypes := #[]
  staticTypes := #[]
  resolved := #[]
  callSites := []
  init := .initialized
  statics := none
  mirror := none

def pool0 : Array CpInfo := pool [(5, u "<init>"), (0, u "()V"), (1, .class_ 10), (1, u "java/lang/Object")] 113

def k0c0 : Code := { maxStack := 0, maxLocals := 1, code := object_method_1_code, exceptionTable := #[], attributes := #[] }
def k0m0 : Method := { name := "<init>", desc := "()V", sig := { parameters := [], returnType := none }, accessFlags := 1, code := some k0c0 }
/-- java/lang/Object -/
def k0 : Class := { plain "java/lang/Object" none with
  accessFlags := 33
  interfaces := #[]
  cf := some (fileOf pool0 8 #[] #[{ accessFlags := 1, nameIndex := 5, descriptorIndex := 6, attributes := #[] }] 33 0 #[] #[])
  fields := #[]
  methods := #[k0m0]
  instanceTypes := #[]
  staticTypes := #[]
  resolved := Array.replicate 124 none
  statics := none }

def pool1 : Array CpInfo := pool [(2, .class_ 4), (1, u "java/lang/Object"), (0, u "<init>"), (0, u "()V"), (2, .long 9223372036854775807), (1, .methodref 12 13), (0, .class_ 14), (0, .nameAndType 15 16), (0, u "com/example/inlock/inlock/LockStore$Outcome"), (0, u "held"), (0, u "(JJ)Lcom/example/inlock/inlock/LockStore$Outcome;"), (0, .methodref 12 18), (0, .nameAndType 19 20), (0, u "holds"), (0, u "()J"), (0, .methodref 12 22), (0, .nameAndType 23 20), (0, u "token"), (0, .methodref 12 25), (0, .nameAndType 26 27), (0, u "acquired"), (0, u "()Z"), (0, .class_ 29), (0, u "com/example/inlock/inlock/OutcomeHeldPinLaw"), (2, u "law"), (0, u "(JJ)Z")] 7

def k1m0 : Method := { name := "<init>", desc := "()V", sig := { parameters := [], returnType := none }, accessFlags := 1, code := none }
def k1c1 : Code := { maxStack := 4, maxLocals := 9, code := code, exceptionTable := #[], attributes := #[] }
def k1m1 : Method := { name := "law", desc := "(JJ)Z", sig := { parameters := [.long, .long], returnType := some .boolean }, accessFlags := 9, code := some k1c1 }
/-- com/example/inlock/inlock/OutcomeHeldPinLaw -/
def k1 : Class := { plain "com/example/inlock/inlock/OutcomeHeldPinLaw" (some 0) with
  accessFlags := 49
  interfaces := #[]
  cf := some (fileOf pool1 28 #[] #[{ accessFlags := 1, nameIndex := 5, descriptorIndex := 6, attributes := #[] }, { accessFlags := 9, nameIndex := 32, descriptorIndex := 33, attributes := #[] }] 49 2 #[] #[])
  fields := #[]
  methods := #[k1m0, k1m1]
  instanceTypes := #[]
  staticTypes := #[]
  resolved := Array.replicate 41 none
  statics := none }

def pool2 : Array CpInfo := pool [(1, .methodref 2 3), (0, .class_ 4), (0, .nameAndType 5 6), (0, u "java/lang/Object"), (0, u "<init>"), (0, u "()V"), (0, .class_ 8), (0, u "java/lang/Record")] 13

def k2c0 : Code := { maxStack := 1, maxLocals := 1, code := jdk_30_method_1_code, exceptionTable := #[], attributes := #[] }
def k2m0 : Method := { name := "<init>", desc := "()V", sig := { parameters := [], returnType := none }, accessFlags := 4, code := some k2c0 }
/-- java/lang/Record -/
def k2 : Class := { plain "java/lang/Record" (some 0) with
  accessFlags := 1057
  interfaces := #[]
  cf := some (fileOf pool2 7 #[] #[{ accessFlags := 4, nameIndex := 5, descriptorIndex := 6, attributes := #[] }] 1057 2 #[] #[])
  fields := #[]
  methods := #[k2m0]
  instanceTypes := #[]
  staticTypes := #[]
  resolved := Array.replicate 22 none
  statics := none }

def pool3 : Array CpInfo := pool [(1, .methodref 2 3), (0, .class_ 4), (0, .nameAndType 5 6), (0, u "java/lang/Record"), (0, u "<init>"), (0, u "()V"), (0, .string 8), (0, u "retry"), (0, .methodref 10 11), (0, .class_ 12), (0, .nameAndType 13 14), (0, u "java/util/Objects"), (0, u "requireNonNull"), (0, u "(Ljava/lang/Object;Ljava/lang/String;)Ljava/lang/Object;"), (0, .methodref 16 17), (0, .class_ 18), (0, .nameAndType 19 20), (0, u "java/time/Duration"), (0, u "isZero"), (0, u "()Z"), (0, .fieldref 16 22), (0, .nameAndType 23 24), (0, u "ZERO"), (0, u "Ljava/time/Duration;"), (19, .fieldref 45 46), (0, .class_ 47), (0, .nameAndType 48 49), (0, u "com/example/inlock/inlock/LockStore$Outcome"), (0, u "holds"), (0, u "J"), (0, .fieldref 45 51), (0, .nameAndType 8 24), (0, .fieldref 45 53), (0, .nameAndType 54 49), (0, u "token"), (0, .methodref 45 56), (0, .nameAndType 5 57), (0, u "(JLjava/time/Duration;J)V"), (16, u "held"), (0, u "(JJ)Lcom/example/inlock/inlock/LockStore$Outcome;"), (2, u "acquired"), (3, u "()J"), (4, .class_ 88), (0, u "com/example/inlock/inlock/LockStore")] 29

def k3c0 : Code := { maxStack := 7, maxLocals := 8, code := prog_21_method_1_code, exceptionTable := #[], attributes := #[] }
def k3m0 : Method := { name := "<init>", desc := "(JLjava/time/Duration;J)V", sig := { parameters := [.long, (.object "java/time/Duration"), .long], returnType := none }, accessFlags := 1, code := some k3c0 }
def k3c1 : Code := { maxStack := 7, maxLocals := 4, code := prog_21_method_2_code, exceptionTable := #[], attributes := #[] }
def k3m1 : Method := { name := "held", desc := "(JJ)Lcom/example/inlock/inlock/LockStore$Outcome;", sig := { parameters := [.long, .long], returnType := some (.object "com/example/inlock/inlock/LockStore$Outcome") }, accessFlags := 9, code := some k3c1 }
def k3c2 : Code := { maxStack := 4, maxLocals := 1, code := prog_21_method_4_code, exceptionTable := #[], attributes := #[] }
def k3m2 : Method := { name := "acquired", desc := "()Z", sig := { parameters := [], returnType := some .boolean }, accessFlags := 1, code := some k3c2 }
def k3c3 : Code := { maxStack := 2, maxLocals := 1, code := prog_21_method_8_code, exceptionTable := #[], attributes := #[] }
def k3m3 : Method := { name := "holds", desc := "()J", sig := { parameters := [], returnType := some .long }, accessFlags := 1, code := some k3c3 }
def k3c4 : Code := { maxStack := 2, maxLocals := 1, code := prog_21_method_10_code, exceptionTable := #[], attributes := #[] }
def k3m4 : Method := { name := "token", desc := "()J", sig := { parameters := [], returnType := some .long }, accessFlags := 1, code := some k3c4 }
/-- com/example/inlock/inlock/LockStore$Outcome -/
def k3 : Class := { plain "com/example/inlock/inlock/LockStore$Outcome" (some 2) with
  accessFlags := 49
  interfaces := #[]
  cf := some (fileOf pool3 45 #[.nestHost 87] #[{ accessFlags := 1, nameIndex := 5, descriptorIndex := 57, attributes := #[] }, { accessFlags := 9, nameIndex := 74, descriptorIndex := 75, attributes := #[] }, { accessFlags := 1, nameIndex := 78, descriptorIndex := 20, attributes := #[] }, { accessFlags := 1, nameIndex := 48, descriptorIndex := 82, attributes := #[] }, { accessFlags := 1, nameIndex := 54, descriptorIndex := 82, attributes := #[] }] 49 2 #[] #[{ accessFlags := 18, nameIndex := 48, descriptorIndex := 49, attributes := #[] }, { accessFlags := 18, nameIndex := 8, descriptorIndex := 24, attributes := #[] }, { accessFlags := 18, nameIndex := 54, descriptorIndex := 49, attributes := #[] }])
  fields := #[{ name := "holds", type := .long, accessFlags := 18, slot := 0, constantValue := 0 }, { name := "retry", type := (.object "java/time/Duration"), accessFlags := 18, slot := 1, constantValue := 0 }, { name := "token", type := .long, accessFlags := 18, slot := 2, constantValue := 0 }]
  methods := #[k3m0, k3m1, k3m2, k3m3, k3m4]
  instanceTypes := #[.long, (.object "java/time/Duration"), .long]
  staticTypes := #[]
  resolved := Array.replicate 118 none
  statics := none }

def pool4 : Array CpInfo := pool [(1, .class_ 2), (0, u "java/time/temporal/TemporalAmount"), (0, .class_ 4), (0, u "java/lang/Object")] 11

/-- java/time/temporal/TemporalAmount -/
def k4 : Class := { plain "java/time/temporal/TemporalAmount" (some 0) with
  accessFlags := 1537
  interfaces := #[]
  cf := some (fileOf pool4 1 #[] #[] 1537 3 #[] #[])
  fields := #[]
  methods := #[]
  instanceTypes := #[]
  staticTypes := #[]
  resolved := Array.replicate 16 none
  statics := none }

def pool5 : Array CpInfo := pool [(1, .class_ 2), (0, u "java/lang/Comparable"), (0, .class_ 4), (0, u "java/lang/Object")] 7

/-- java/lang/Comparable -/
def k5 : Class := { plain "java/lang/Comparable" (some 0) with
  accessFlags := 1537
  interfaces := #[]
  cf := some (fileOf pool5 1 #[] #[] 1537 3 #[] #[])
  fields := #[]
  methods := #[]
  instanceTypes := #[]
  staticTypes := #[]
  resolved := Array.replicate 12 none
  statics := none }

def pool6 : Array CpInfo := pool [(1, .class_ 2), (0, u "java/io/Serializable"), (0, .class_ 4), (0, u "java/lang/Object")] 2

/-- java/io/Serializable -/
def k6 : Class := { plain "java/io/Serializable" (some 0) with
  accessFlags := 1537
  interfaces := #[]
  cf := some (fileOf pool6 1 #[] #[] 1537 3 #[] #[])
  fields := #[]
  methods := #[]
  instanceTypes := #[]
  staticTypes := #[]
  resolved := Array.replicate 7 none
  statics := none }

def pool7 : Array CpInfo := pool [(11, .class_ 13), (1, u "java/time/Duration"), (20, u "ZERO"), (0, u "Ljava/time/Duration;"), (13, .class_ 51), (1, u "java/time/temporal/TemporalAmount"), (13, u "()Z"), (13, .class_ 81), (1, u "java/time/Duration$Lazy"), (35, u "seconds"), (101, .class_ 220), (0, u "java/lang/Object"), (0, .fieldref 11 222), (0, .nameAndType 117 223), (0, u "J"), (0, .fieldref 11 225), (0, .nameAndType 226 227), (0, u "nanos"), (0, u "I"), (11, .class_ 241), (1, u "java/time/Duration$DurationUnits"), (27, .class_ 271), (1, u "java/time/Duration$1"), (91, u "BI_NANOS_PER_SECOND"), (0, u "Ljava/math/BigInteger;"), (120, .class_ 486), (0, u "java/lang/Comparable"), (0, .class_ 488), (0, u "java/io/Serializable"), (0, u "serialVersionUID"), (66, u "isZero")] 99

def k7c0 : Code := { maxStack := 4, maxLocals := 1, code := jdk_2316_method_21_code, exceptionTable := #[], attributes := #[] }
def k7m0 : Method := { name := "isZero", desc := "()Z", sig := { parameters := [], returnType := some .boolean }, accessFlags := 1, code := some k7c0 }
/-- java/time/Duration -/
def k7 : Class := { plain "java/time/Duration" (some 0) with
  accessFlags := 49
  interfaces := #[4, 5, 6]
  cf := some (fileOf pool7 11 #[.nestMembers #[269, 239, 79]] #[{ accessFlags := 1, nameIndex := 556, descriptorIndex := 65, attributes := #[] }] 49 219 #[49, 485, 487] #[{ accessFlags := 25, nameIndex := 34, descriptorIndex := 35, attributes := #[] }, { accessFlags := 26, nameIndex := 489, descriptorIndex := 223, attributes := #[] }, { accessFlags := 26, nameIndex := 363, descriptorIndex := 364, attributes := #[] }, { accessFlags := 18, nameIndex := 117, descriptorIndex := 223, attributes := #[] }, { accessFlags := 18, nameIndex := 226, descriptorIndex := 227, attributes := #[] }])
  fields := #[{ name := "ZERO", type := (.object "java/time/Duration"), accessFlags := 25, slot := 0, constantValue := 0 }, { name := "serialVersionUID", type := .long, accessFlags := 26, slot := 1, constantValue := 0 }, { name := "BI_NANOS_PER_SECOND", type := (.object "java/math/BigInteger"), accessFlags := 26, slot := 2, constantValue := 0 }, { name := "seconds", type := .long, accessFlags := 18, slot := 0, constantValue := 0 }, { name := "nanos", type := .int, accessFlags := 18, slot := 1, constantValue := 0 }]
  methods := #[k7m0]
  instanceTypes := #[.long, .int]
  staticTypes := #[(.object "java/time/Duration"), .long, (.object "java/math/BigInteger")]
  resolved := Array.replicate 656 none
  statics := some 0 }

def pool8 : Array CpInfo := pool [(2, .class_ 4), (1, u "java/lang/CharSequence"), (42, .class_ 48), (0, u "java/lang/CharSequence$1CodePointIterator"), (10, .class_ 60), (0, u "java/lang/CharSequence$1CharIterator"), (5, .class_ 67), (0, u "java/lang/Object")] 63

/-- java/lang/CharSequence -/
def k8 : Class := { plain "java/lang/CharSequence" (some 0) with
  accessFlags := 1537
  interfaces := #[]
  cf := some (fileOf pool8 2 #[.nestMembers #[47, 59]] #[] 1537 66 #[] #[])
  fields := #[]
  methods := #[]
  instanceTypes := #[]
  staticTypes := #[]
  resolved := Array.replicate 131 none
  statics := none }

def pool9 : Array CpInfo := pool [(1, .class_ 2), (0, u "java/lang/constant/Constable"), (0, .class_ 4), (0, u "java/lang/Object")] 6

/-- java/lang/constant/Constable -/
def k9 : Class := { plain "java/lang/constant/Constable" (some 0) with
  accessFlags := 1537
  interfaces := #[]
  cf := some (fileOf pool9 1 #[] #[] 1537 3 #[] #[])
  fields := #[]
  methods := #[]
  instanceTypes := #[]
  staticTypes := #[]
  resolved := Array.replicate 11 none
  statics := none }

def pool10 : Array CpInfo := pool [(1, .class_ 2), (0, u "java/lang/constant/ConstantDesc"), (0, .class_ 4), (0, u "java/lang/Object")] 32

/-- java/lang/constant/ConstantDesc -/
def k10 : Class := { plain "java/lang/constant/ConstantDesc" (some 0) with
  accessFlags := 1537
  interfaces := #[]
  cf := some (fileOf pool10 1 #[] #[] 1537 3 #[] #[])
  fields := #[]
  methods := #[]
  instanceTypes := #[]
  staticTypes := #[]
  resolved := Array.replicate 37 none
  statics := none }

def pool11 : Array CpInfo := pool [(2, .class_ 4), (1, u "java/lang/Object"), (0, u "<init>"), (0, u "()V"), (3, .class_ 12), (1, u "java/lang/String"), (0, u "value"), (0, u "[B"), (2, u "coder"), (0, u "B"), (2, u "hash"), (0, u "I"), (2, u "hashIsZero"), (0, u "Z"), (13, u "COMPACT_STRINGS"), (534, .class_ 576), (0, u "java/lang/CharSequence"), (22, u "CASE_INSENSITIVE_ORDER"), (0, u "Ljava/util/Comparator;"), (500, u "serialPersistentFields"), (0, u "[Ljava/io/ObjectStreamField;"), (0, .class_ 1104), (0, u "java/lang/String$CaseInsensitiveComparator"), (1, .class_ 1107), (0, u "java/io/Serializable"), (0, .class_ 1109), (0, u "java/lang/Comparable"), (0, .class_ 1111), (0, u "java/lang/constant/Constable"), (0, .class_ 1113), (0, u "java/lang/constant/ConstantDesc"), (2, u "serialVersionUID"), (0, u "J"), (3, u "REPL"), (0, u "C"), (2, u "LATIN1"), (1, u "UTF16")] 323

def k11m0 : Method := { name := "<init>", desc := "()V", sig := { parameters := [], returnType := none }, accessFlags := 1, code := none }
/-- java/lang/String -/
def k11 : Class := { plain "java/lang/String" (some 0) with
  accessFlags := 49
  interfaces := #[6, 5, 8, 9, 10]
  cf := some (fileOf pool11 10 #[.nestMembers #[1103]] #[{ accessFlags := 1, nameIndex := 5, descriptorIndex := 6, attributes := #[] }] 49 2 #[1106, 1108, 575, 1110, 1112] #[{ accessFlags := 18, nameIndex := 13, descriptorIndex := 14, attributes := #[] }, { accessFlags := 18, nameIndex := 17, descriptorIndex := 18, attributes := #[] }, { accessFlags := 2, nameIndex := 21, descriptorIndex := 22, attributes := #[] }, { accessFlags := 2, nameIndex := 25, descriptorIndex := 26, attributes := #[] }, { accessFlags := 26, nameIndex := 1116, descriptorIndex := 1117, attributes := #[] }, { accessFlags := 24, nameIndex := 40, descriptorIndex := 26, attributes := #[] }, { accessFlags := 26, nameIndex := 1101, descriptorIndex := 1102, attributes := #[] }, { accessFlags := 26, nameIndex := 1121, descriptorIndex := 1122, attributes := #[] }, { accessFlags := 25, nameIndex := 599, descriptorIndex := 600, attributes := #[] }, { accessFlags := 24, nameIndex := 1125, descriptorIndex := 18, attributes := #[] }, { accessFlags := 24, nameIndex := 1127, descriptorIndex := 18, attributes := #[] }])
  fields := #[{ name := "value", type := (.array .byte), accessFlags := 18, slot := 0, constantValue := 0 }, { name := "coder", type := .byte, accessFlags := 18, slot := 1, constantValue := 0 }, { name := "hash", type := .int, accessFlags := 2, slot := 2, constantValue := 0 }, { name := "hashIsZero", type := .boolean, accessFlags := 2, slot := 3, constantValue := 0 }, { name := "serialVersionUID", type := .long, accessFlags := 26, slot := 0, constantValue := 0 }, { name := "COMPACT_STRINGS", type := .boolean, accessFlags := 24, slot := 1, constantValue := 0 }, { name := "serialPersistentFields", type := (.array (.object "java/io/ObjectStreamField")), accessFlags := 26, slot := 2, constantValue := 0 }, { name := "REPL", type := .char, accessFlags := 26, slot := 3, constantValue := 0 }, { name := "CASE_INSENSITIVE_ORDER", type := (.object "java/util/Comparator"), accessFlags := 25, slot := 4, constantValue := 0 }, { name := "LATIN1", type := .byte, accessFlags := 24, slot := 5, constantValue := 0 }, { name := "UTF16", type := .byte, accessFlags := 24, slot := 6, constantValue := 0 }]
  methods := #[k11m0]
  instanceTypes := #[(.array .byte), .byte, .int, .boolean]
  staticTypes := #[.long, .boolean, (.array (.object "java/io/ObjectStreamField")), .char, (.object "java/util/Comparator"), .byte, .byte]
  resolved := Array.replicate 1451 none
  statics := none }

def pool12 : Array CpInfo := pool [(2, .class_ 4), (1, u "java/lang/Object"), (0, u "<init>"), (0, u "()V"), (35, .class_ 44), (1, u "java/util/Objects"), (0, u "requireNonNull"), (48, u "(Ljava/lang/Object;Ljava/lang/String;)Ljava/lang/Object;")] 89

def k12m0 : Method := { name := "<init>", desc := "()V", sig := { parameters := [], returnType := none }, accessFlags := 2, code := none }
def k12c1 : Code := { maxStack := 3, maxLocals := 2, code := jdk_31_method_11_code, exceptionTable := #[], attributes := #[] }
def k12m1 : Method := { name := "requireNonNull", desc := "(Ljava/lang/Object;Ljava/lang/String;)Ljava/lang/Object;", sig := { parameters := [(.object "java/lang/Object"), (.object "java/lang/String")], returnType := some (.object "java/lang/Object") }, accessFlags := 9, code := some k12c1 }
/-- java/util/Objects -/
def k12 : Class := { plain "java/util/Objects" (some 0) with
  accessFlags := 49
  interfaces := #[]
  cf := some (fileOf pool12 42 #[] #[{ accessFlags := 2, nameIndex := 5, descriptorIndex := 6, attributes := #[] }, { accessFlags := 9, nameIndex := 45, descriptorIndex := 94, attributes := #[] }] 49 2 #[] #[])
  fields := #[]
  methods := #[k12m0, k12m1]
  instanceTypes := #[]
  staticTypes := #[]
  resolved := Array.replicate 184 none
  statics := none }

def pool13 : Array CpInfo := pool [(1, u "java/lang/Cloneable"), (0, .class_ 1), (0, u "java/lang/Object"), (0, .class_ 3)] 3

/-- java/lang/Cloneable -/
def k13 : Class := { plain "java/lang/Cloneable" (some 0) with
  accessFlags := 1537
  interfaces := #[]
  cf := some (fileOf pool13 2 #[] #[] 1537 4 #[] #[])
  fields := #[]
  methods := #[]
  instanceTypes := #[]
  staticTypes := #[]
  resolved := Array.replicate 8 none
  statics := none }

/-- the primitive byte -/
def k14 : Class := { plain "byte" none with kind := .primitive 'B', accessFlags := 0x411 }
/-- [B -/
def k15 : Class := { plain "[B" (some 0) with kind := .array 14 .byte, interfaces := #[13, 6], accessFlags := 1041 }

/-- the primitive int -/
def k16 : Class := { plain "int" none with kind := .primitive 'I', accessFlags := 0x411 }
/-- [I -/
def k17 : Class := { plain "[I" (some 0) with kind := .array 16 .int, interfaces := #[13, 6], accessFlags := 1041 }

def heap : Heap := #[{ cls := 7, slots := #[.ref 1, .long 0, .null], vm := .statics 7 },
  { cls := 7, slots := #[.long 0, .int 0], vm := .none }]
def classes : Array Class := #[k0, k1, k2, k3, k4, k5, k6, k7, k8, k9, k10, k11, k12, k13, k14, k15, k16, k17]
def interned : List (Array UInt16 × Addr) := []
def slotsUsed : Nat := 5
def theMethod : MethodId := ⟨1, 1⟩
def args0 : Array Value := #[.long 5, .long 3]
def aboutOver (below : List Frame) : State where
  vm := { classes := classes, interned := interned.toArray }
  heap := heap
  slotsUsed := slotsUsed
  threads := #[{ frames := .invoking theMethod args0 :: below }]
def below0 : List Frame := [.native { method := ⟨0, 0⟩, args := #[] }]
def about1 : State := aboutOver below0
def p0 : Program := .bare "" "" ""
def e0 : Env := launch0.env 0 0 0
theorem w_frames : about1.frames = Frame.invoking theMethod args0 :: below0 := rfl
set_option maxRecDepth 65536 in
theorem w_args : argsFit about1.vm theMethod args0 = true := by decide +kernel
set_option maxRecDepth 65536 in
theorem w_heap : heapFits about1 = true := by decide +kernel
set_option maxRecDepth 65536 in
theorem w_runnable : about1.curStatus? = some .runnable := by decide +kernel
set_option maxRecDepth 65536 in
theorem w_alone : about1.alone = true := by decide +kernel
set_option maxRecDepth 65536 in
theorem w_named : about1.methodNamed? x = some theMethod := by decide +kernel
set_option maxRecDepth 65536 in
theorem w_hears : about1.hears theMethod below0 = true := by decide +kernel
set_option maxRecDepth 65536 in
theorem w_ripe : about1.ripe theMethod args0 below0 = true := by decide +kernel
theorem w_running : about1.status = .running := rfl
set_option maxRecDepth 65536 in
theorem w_room : about1.hasRoom e0.platform room_1 = true :=
  launch0.hasRoom_least _ room_1 (by decide +kernel) (by decide +kernel) (by decide +kernel) (by decide +kernel) (by decide +kernel) (by decide +kernel)
theorem allAtoms_all (ts : List Jvm.Cond) (a : Array Jvm.Value) (st : Jvm.State) : (allAtoms ts).before a st = ts.all (fun c => c.before a st) := by
  induction ts with
  | nil => rfl
  | cons c t ih =>
    show (Jvm.Cond.and c (allAtoms t)).before a st = _
    rw [Jvm.Cond.before_and, ih, List.all_cons]
def words1 : List Jvm.Cond := Jvm.Cond.code x code maxLocals ret :: tables_1
/-- a 'code' word, met by the world's own term for the bytes: nothing is compared byte by byte -/
theorem code_word {y : MethodName} {bytes : ByteArray} {mx : Nat} {rt : Option FieldType} {a : Array Value} {s : State} {m : MethodId} {meth : Method} {c : Code} (h1 : s.methodNamed? y = some m) (h2 : s.vm.method? m = some meth) (h3 : meth.code = some c) (h4 : c.code = bytes)
    (h5 : (c.maxLocals == mx && c.exceptionTable.isEmpty && decide (c.maxStack ≤ mostOperands) && decide (meth.sig.returnType = rt) && !meth.locks && decide (parseMethodDescriptor y.desc = some meth.sig)) = true) : (Jvm.Cond.code y bytes mx rt).before a s = true := by
  simp only [Bool.and_eq_true, beq_iff_eq, Bool.not_eq_true', decide_eq_true_eq] at h5
  obtain ⟨⟨⟨⟨⟨g1, g2⟩, g3⟩, g4⟩, g5⟩, g6⟩ := h5
  simp [Cond.before, Cond.holds, Cond.value, h1, h2, h3, h4, g1, g2, g3, g4, g5, g6]
def isCode : Jvm.Cond → Bool
  | .code _ _ _ _ => true
  | _ => false
theorem all_split {L : List Jvm.Cond} {P : Jvm.Cond → Bool} (h1 : L.all (fun c => isCode c || P c) = true) (h2 : ∀ c ∈ L.filter isCode, P c = true) : L.all P = true := by
  refine List.all_eq_true.mpr fun c hc => ?_
  have h := List.all_eq_true.mp h1 c hc
  rcases Bool.eq_false_or_eq_true (isCode c) with hi | hi
  · exact h2 c (List.mem_filter.mpr ⟨hc, hi⟩)
  · simpa [hi] using h
set_option maxRecDepth 65536 in
theorem w_c0 : (Jvm.Cond.code x code maxLocals ret).before args0 about1 = true := code_word (m := ⟨1, 1⟩) (meth := k1m1) (c := k1c1) (by decide +kernel) rfl rfl rfl (by decide +kernel)
set_option maxRecDepth 65536 in
theorem w_c1 : (Jvm.Cond.code ({ cls := "com/example/inlock/inlock/LockStore$Outcome", name := "held", desc := "(JJ)Lcom/example/inlock/inlock/LockStore$Outcome;" } : Jvm.MethodName) prog_21_method_2_code (4 : Nat) (Option.some (Jvm.ClassFile.FieldType.object "com/example/inlock/inlock/LockStore$Outcome"))).before args0 about1 = true := code_word (m := ⟨3, 1⟩) (meth := k3m1) (c := k3c1) (by decide +kernel) rfl rfl rfl (by decide +kernel)
set_option maxRecDepth 65536 in
theorem w_c2 : (Jvm.Cond.code ({ cls := "com/example/inlock/inlock/LockStore$Outcome", name := "<init>", desc := "(JLjava/time/Duration;J)V" } : Jvm.MethodName) prog_21_method_1_code (8 : Nat) (Option.none : Option Jvm.ClassFile.FieldType)).before args0 about1 = true := code_word (m := ⟨3, 0⟩) (meth := k3m0) (c := k3c0) (by decide +kernel) rfl rfl rfl (by decide +kernel)
set_option maxRecDepth 65536 in
theorem w_c3 : (Jvm.Cond.code ({ cls := "java/lang/Record", name := "<init>", desc := "()V" } : Jvm.MethodName) jdk_30_method_1_code (1 : Nat) (Option.none : Option Jvm.ClassFile.FieldType)).before args0 about1 = true := code_word (m := ⟨2, 0⟩) (meth := k2m0) (c := k2c0) (by decide +kernel) rfl rfl rfl (by decide +kernel)
set_option maxRecDepth 65536 in
theorem w_c4 : (Jvm.Cond.code ({ cls := "java/lang/Object", name := "<init>", desc := "()V" } : Jvm.MethodName) object_method_1_code (1 : Nat) (Option.none : Option Jvm.ClassFile.FieldType)).before args0 about1 = true := code_word (m := ⟨0, 0⟩) (meth := k0m0) (c := k0c0) (by decide +kernel) rfl rfl rfl (by decide +kernel)
set_option maxRecDepth 65536 in
theorem w_c5 : (Jvm.Cond.code ({ cls := "java/util/Objects", name := "requireNonNull", desc := "(Ljava/lang/Object;Ljava/lang/String;)Ljava/lang/Object;" } : Jvm.MethodName) jdk_31_method_11_code (2 : Nat) (Option.some (Jvm.ClassFile.FieldType.object "java/lang/Object"))).before args0 about1 = true := code_word (m := ⟨12, 1⟩) (meth := k12m1) (c := k12c1) (by decide +kernel) rfl rfl rfl (by decide +kernel)
set_option maxRecDepth 65536 in
theorem w_c6 : (Jvm.Cond.code ({ cls := "java/time/Duration", name := "isZero", desc := "()Z" } : Jvm.MethodName) jdk_2316_method_21_code (1 : Nat) (Option.some Jvm.ClassFile.FieldType.boolean)).before args0 about1 = true := code_word (m := ⟨7, 0⟩) (meth := k7m0) (c := k7c0) (by decide +kernel) rfl rfl rfl (by decide +kernel)
set_option maxRecDepth 65536 in
theorem w_c7 : (Jvm.Cond.code ({ cls := "com/example/inlock/inlock/LockStore$Outcome", name := "holds", desc := "()J" } : Jvm.MethodName) prog_21_method_8_code (1 : Nat) (Option.some Jvm.ClassFile.FieldType.long)).before args0 about1 = true := code_word (m := ⟨3, 3⟩) (meth := k3m3) (c := k3c3) (by decide +kernel) rfl rfl rfl (by decide +kernel)
set_option maxRecDepth 65536 in
theorem w_c8 : (Jvm.Cond.code ({ cls := "com/example/inlock/inlock/LockStore$Outcome", name := "token", desc := "()J" } : Jvm.MethodName) prog_21_method_10_code (1 : Nat) (Option.some Jvm.ClassFile.FieldType.long)).before args0 about1 = true := code_word (m := ⟨3, 4⟩) (meth := k3m4) (c := k3c4) (by decide +kernel) rfl rfl rfl (by decide +kernel)
set_option maxRecDepth 65536 in
theorem w_c9 : (Jvm.Cond.code ({ cls := "com/example/inlock/inlock/LockStore$Outcome", name := "acquired", desc := "()Z" } : Jvm.MethodName) prog_21_method_4_code (1 : Nat) (Option.some Jvm.ClassFile.FieldType.boolean)).before args0 about1 = true := code_word (m := ⟨3, 2⟩) (meth := k3m2) (c := k3c2) (by decide +kernel) rfl rfl rfl (by decide +kernel)
def codes1 : List Jvm.Cond := [Jvm.Cond.code x code maxLocals ret, Jvm.Cond.code ({ cls := "com/example/inlock/inlock/LockStore$Outcome", name := "held", desc := "(JJ)Lcom/example/inlock/inlock/LockStore$Outcome;" } : Jvm.MethodName) prog_21_method_2_code (4 : Nat) (Option.some (Jvm.ClassFile.FieldType.object "com/example/inlock/inlock/LockStore$Outcome")), Jvm.Cond.code ({ cls := "com/example/inlock/inlock/LockStore$Outcome", name := "<init>", desc := "(JLjava/time/Duration;J)V" } : Jvm.MethodName) prog_21_method_1_code (8 : Nat) (Option.none : Option Jvm.ClassFile.FieldType), Jvm.Cond.code ({ cls := "java/lang/Record", name := "<init>", desc := "()V" } : Jvm.MethodName) jdk_30_method_1_code (1 : Nat) (Option.none : Option Jvm.ClassFile.FieldType), Jvm.Cond.code ({ cls := "java/lang/Object", name := "<init>", desc := "()V" } : Jvm.MethodName) object_method_1_code (1 : Nat) (Option.none : Option Jvm.ClassFile.FieldType), Jvm.Cond.code ({ cls := "java/util/Objects", name := "requireNonNull", desc := "(Ljava/lang/Object;Ljava/lang/String;)Ljava/lang/Object;" } : Jvm.MethodName) jdk_31_method_11_code (2 : Nat) (Option.some (Jvm.ClassFile.FieldType.object "java/lang/Object")), Jvm.Cond.code ({ cls := "java/time/Duration", name := "isZero", desc := "()Z" } : Jvm.MethodName) jdk_2316_method_21_code (1 : Nat) (Option.some Jvm.ClassFile.FieldType.boolean), Jvm.Cond.code ({ cls := "com/example/inlock/inlock/LockStore$Outcome", name := "holds", desc := "()J" } : Jvm.MethodName) prog_21_method_8_code (1 : Nat) (Option.some Jvm.ClassFile.FieldType.long), Jvm.Cond.code ({ cls := "com/example/inlock/inlock/LockStore$Outcome", name := "token", desc := "()J" } : Jvm.MethodName) prog_21_method_10_code (1 : Nat) (Option.some Jvm.ClassFile.FieldType.long), Jvm.Cond.code ({ cls := "com/example/inlock/inlock/LockStore$Outcome", name := "acquired", desc := "()Z" } : Jvm.MethodName) prog_21_method_4_code (1 : Nat) (Option.some Jvm.ClassFile.FieldType.boolean)]
set_option maxRecDepth 65536 in
theorem codes_eq : words1.filter isCode = codes1 := rfl
theorem w_codes : ∀ c ∈ words1.filter isCode, c.before args0 about1 = true := by
  rw [codes_eq]
  intro c hc
  simp only [codes1, List.mem_cons, List.not_mem_nil, or_false] at hc
  rcases hc with rfl | rfl | rfl | rfl | rfl | rfl | rfl | rfl | rfl | rfl
  · exact w_c0
  · exact w_c1
  · exact w_c2
  · exact w_c3
  · exact w_c4
  · exact w_c5
  · exact w_c6
  · exact w_c7
  · exact w_c8
  · exact w_c9
set_option maxRecDepth 65536 in
theorem w_t1 : (words1.take 24).all (fun c => isCode c || c.before args0 about1) = true := by decide +kernel
set_option maxRecDepth 65536 in
theorem w_t2 : ((words1.drop 24).take 24).all (fun c => isCode c || c.before args0 about1) = true := by decide +kernel
set_option maxRecDepth 65536 in
theorem w_t3 : ((words1.drop 24).drop 24).all (fun c => isCode c || c.before args0 about1) = true := by decide +kernel
theorem w_tables : (allAtoms (Jvm.Cond.code x code maxLocals ret :: tables_1)).before args0 about1 = true := by
  rw [allAtoms_all]
  show words1.all (fun c => c.before args0 about1) = true
  refine all_split ?_ w_codes
  rw [← List.take_append_drop 24 words1, List.all_append, w_t1, ← List.take_append_drop 24 (words1.drop 24), List.all_append, w_t2, w_t3]
  rfl
set_option maxRecDepth 65536 in
theorem w_rest : rest_1_c.before args0 about1 = true := by decide +kernel
set_option maxRecDepth 65536 in
theorem w_case : (Jvm.Cond.and given_1 narrow_1).before args0 about1 = true := by decide +kernel
theorem w_applies : (headSpec (Jvm.Cond.code x code maxLocals ret :: tables_1) room_1).applies x e0.platform about1 = true :=
  (Spec.applies_iff w_frames).mpr ⟨w_running, w_runnable, w_alone, w_named, w_hears, w_ripe, w_room, w_tables⟩
theorem atStart : AtStart classFile x code maxLocals ret World_1 tables_1 room_1 Calls_1 rest_1 Pre_1 launch0 p0 e0 about1 theMethod args0 below0 :=
  ⟨lists_1, trivial, launch0.admits_env _ _ _, launch0.least_env, fairChoices_fair.cas, fairChoices_fair.clock, w_frames, w_args, w_heap, w_applies, trivial, w_rest, w_case⟩
end start1
theorem witness_1 : WitnessClaimed_1 := ⟨start1.p0, start1.e0, start1.about1, start1.theMethod, start1.args0, start1.below0, start1.atStart⟩
end Jvm.Pilot.@@N@@
