import JvmDerived
import JvmDerived.Pilot.@@N@@Statement
import JvmDerived.Pilot.@@N@@Code
set_option linter.unusedVariables false
set_option linter.unusedSimpArgs false
namespace Jvm.RoadKit
open Sem ClassFile Op Lib Jvm.Stand Jvm.Free Jvm.LawKit
section New
variable {p : Program} {l : Launch} {e : Env} {R : Room} {s : State} {m : MethodId} {args : Array Value} {below : List Frame} {meth : Method} {c : Code} {T : State} {locs : List Loc} {cells slots : Nat}
theorem retI (X : Stand p l e R s m args below meth c T locs cells slots) (hx : p.tables.exec = Jvm.exec) {pc : Nat} {Ls : Array Slot} {z : Int32} {rest : List Value} (hret : meth.sig.returnType = some .int) (hd : decode c.code pc = .ok (.ireturn, 1)) {fs : List Frame}
    (hl : ∀ (f : JFrame) (acts : List Action), f.method = m → f.locked = none → f.entered = [] → (doReturn e (T.setTop f) acts (some (.int z))).1 = T.setFrames fs) : Steps p.tables e below (T.setTop (mkF m pc Ls (.int z :: rest))) (T.setFrames fs) := by
  have hm' : T.vm.method? m = some meth := X.method'
  have hn : narrow .int (.int z) = .int z := rfl
  show Steps p.tables e below (T.setTop { method := m, pc := pc, locals := Ls, stack := _ :: rest, locked := none }) _
  jvm_step X.here [X.here.top, hx, hd, hm', hret, hn]
  first | (intro acts; rw [hl _ acts rfl rfl rfl]) | rw [hl _ _ rfl rfl rfl]
  exact Steps.refl _
end New
end Jvm.RoadKit
namespace Jvm.Pilot.@@N@@
open Jvm Jvm.ClassFile Sem Op Lib Jvm.Free Jvm.Stand Jvm.LawKit Jvm.RoadKit Bundle Jvm.Pilot.@@N@@.Jvm.D
theorem tw_0 {a0 : Array Value} {Z : State} (hw : ∀ d ∈ tables_1, d.before a0 Z = true) : (Jvm.Cond.classLink "com/example/nakazilo/nakazilo/PaymentGroupEndSpanPinLaw" (7 : Nat) "com/example/nakazilo/nakazilo/PaymentGroup").before a0 Z = true := hw _ (List.mem_of_getElem? (i := 0) rfl)
theorem tw_1 {a0 : Array Value} {Z : State} (hw : ∀ d ∈ tables_1, d.before a0 Z = true) : (Jvm.Cond.instantiable "com/example/nakazilo/nakazilo/PaymentGroup" (5 : Nat)).before a0 Z = true := hw _ (List.mem_of_getElem? (i := 1) rfl)
theorem tw_2 {a0 : Array Value} {Z : State} (hw : ∀ d ∈ tables_1, d.before a0 Z = true) : (Jvm.Cond.initialized "com/example/nakazilo/nakazilo/PaymentGroup").before a0 Z = true := hw _ (List.mem_of_getElem? (i := 2) rfl)
theorem tw_3 {a0 : Array Value} {Z : State} (hw : ∀ d ∈ tables_1, d.before a0 Z = true) : (Jvm.Cond.methodLink "com/example/nakazilo/nakazilo/PaymentGroupEndSpanPinLaw" (9 : Nat) ({ cls := "com/example/nakazilo/nakazilo/PaymentGroup", name := "<init>", desc := "(Ljava/lang/Object;)V" } : Jvm.MethodName)).before a0 Z = true := hw _ (List.mem_of_getElem? (i := 3) rfl)
theorem tw_4 {a0 : Array Value} {Z : State} (hw : ∀ d ∈ tables_1, d.before a0 Z = true) : (Jvm.Cond.instanceMethod ({ cls := "com/example/nakazilo/nakazilo/PaymentGroup", name := "<init>", desc := "(Ljava/lang/Object;)V" } : Jvm.MethodName)).before a0 Z = true := hw _ (List.mem_of_getElem? (i := 4) rfl)
theorem tw_5 {a0 : Array Value} {Z : State} (hw : ∀ d ∈ tables_1, d.before a0 Z = true) : (Jvm.Cond.code ({ cls := "com/example/nakazilo/nakazilo/PaymentGroup", name := "<init>", desc := "(Ljava/lang/Object;)V" } : Jvm.MethodName) prog_91_method_1_code (2 : Nat) (Option.none : Option Jvm.ClassFile.FieldType)).before a0 Z = true := hw _ (List.mem_of_getElem? (i := 5) rfl)
theorem tw_6 {a0 : Array Value} {Z : State} (hw : ∀ d ∈ tables_1, d.before a0 Z = true) : (Jvm.Cond.methodLink "com/example/nakazilo/nakazilo/PaymentGroup" (1 : Nat) ({ cls := "java/lang/Object", name := "<init>", desc := "()V" } : Jvm.MethodName)).before a0 Z = true := hw _ (List.mem_of_getElem? (i := 6) rfl)
theorem tw_7 {a0 : Array Value} {Z : State} (hw : ∀ d ∈ tables_1, d.before a0 Z = true) : (Jvm.Cond.instanceMethod ({ cls := "java/lang/Object", name := "<init>", desc := "()V" } : Jvm.MethodName)).before a0 Z = true := hw _ (List.mem_of_getElem? (i := 7) rfl)
theorem tw_8 {a0 : Array Value} {Z : State} (hw : ∀ d ∈ tables_1, d.before a0 Z = true) : (Jvm.Cond.code ({ cls := "java/lang/Object", name := "<init>", desc := "()V" } : Jvm.MethodName) object_method_1_code (1 : Nat) (Option.none : Option Jvm.ClassFile.FieldType)).before a0 Z = true := hw _ (List.mem_of_getElem? (i := 8) rfl)
theorem tw_9 {a0 : Array Value} {Z : State} (hw : ∀ d ∈ tables_1, d.before a0 Z = true) : (Jvm.Cond.fieldLink "com/example/nakazilo/nakazilo/PaymentGroup" (7 : Nat) "java/math/BigDecimal" "ZERO" "Ljava/math/BigDecimal;").before a0 Z = true := hw _ (List.mem_of_getElem? (i := 9) rfl)
theorem tw_11 {a0 : Array Value} {Z : State} (hw : ∀ d ∈ tables_1, d.before a0 Z = true) : (Jvm.Cond.fieldLink "com/example/nakazilo/nakazilo/PaymentGroup" (13 : Nat) "com/example/nakazilo/nakazilo/PaymentGroup" "total" "Ljava/math/BigDecimal;").before a0 Z = true := hw _ (List.mem_of_getElem? (i := 11) rfl)
theorem tw_12 {a0 : Array Value} {Z : State} (hw : ∀ d ∈ tables_1, d.before a0 Z = true) : (Jvm.Cond.lays "com/example/nakazilo/nakazilo/PaymentGroup" "com/example/nakazilo/nakazilo/PaymentGroup" "total" "Ljava/math/BigDecimal;").before a0 Z = true := hw _ (List.mem_of_getElem? (i := 12) rfl)
theorem tw_13 {a0 : Array Value} {Z : State} (hw : ∀ d ∈ tables_1, d.before a0 Z = true) : (Jvm.Cond.arrayClass Jvm.ClassFile.FieldType.long).before a0 Z = true := hw _ (List.mem_of_getElem? (i := 13) rfl)
theorem tw_14 {a0 : Array Value} {Z : State} (hw : ∀ d ∈ tables_1, d.before a0 Z = true) : (Jvm.Cond.fieldLink "com/example/nakazilo/nakazilo/PaymentGroup" (18 : Nat) "com/example/nakazilo/nakazilo/PaymentGroup" "spans" "[J").before a0 Z = true := hw _ (List.mem_of_getElem? (i := 14) rfl)
theorem tw_15 {a0 : Array Value} {Z : State} (hw : ∀ d ∈ tables_1, d.before a0 Z = true) : (Jvm.Cond.lays "com/example/nakazilo/nakazilo/PaymentGroup" "com/example/nakazilo/nakazilo/PaymentGroup" "spans" "[J").before a0 Z = true := hw _ (List.mem_of_getElem? (i := 15) rfl)
theorem tw_16 {a0 : Array Value} {Z : State} (hw : ∀ d ∈ tables_1, d.before a0 Z = true) : (Jvm.Cond.fieldLink "com/example/nakazilo/nakazilo/PaymentGroup" (22 : Nat) "com/example/nakazilo/nakazilo/PaymentGroup" "first" "Ljava/lang/Object;").before a0 Z = true := hw _ (List.mem_of_getElem? (i := 16) rfl)
theorem tw_17 {a0 : Array Value} {Z : State} (hw : ∀ d ∈ tables_1, d.before a0 Z = true) : (Jvm.Cond.laysFinal "com/example/nakazilo/nakazilo/PaymentGroup" "com/example/nakazilo/nakazilo/PaymentGroup" "first" "Ljava/lang/Object;").before a0 Z = true := hw _ (List.mem_of_getElem? (i := 17) rfl)
theorem tw_18 {a0 : Array Value} {Z : State} (hw : ∀ d ∈ tables_1, d.before a0 Z = true) : (Jvm.Cond.methodLink "com/example/nakazilo/nakazilo/PaymentGroupEndSpanPinLaw" (12 : Nat) ({ cls := "com/example/nakazilo/nakazilo/PaymentGroup", name := "startSpan", desc := "(J)V" } : Jvm.MethodName)).before a0 Z = true := hw _ (List.mem_of_getElem? (i := 18) rfl)
theorem tw_19 {a0 : Array Value} {Z : State} (hw : ∀ d ∈ tables_1, d.before a0 Z = true) : (Jvm.Cond.declares ({ cls := "com/example/nakazilo/nakazilo/PaymentGroup", name := "startSpan", desc := "(J)V" } : Jvm.MethodName)).before a0 Z = true := hw _ (List.mem_of_getElem? (i := 19) rfl)
theorem tw_20 {a0 : Array Value} {Z : State} (hw : ∀ d ∈ tables_1, d.before a0 Z = true) : (Jvm.Cond.instanceMethod ({ cls := "com/example/nakazilo/nakazilo/PaymentGroup", name := "startSpan", desc := "(J)V" } : Jvm.MethodName)).before a0 Z = true := hw _ (List.mem_of_getElem? (i := 20) rfl)
theorem tw_21 {a0 : Array Value} {Z : State} (hw : ∀ d ∈ tables_1, d.before a0 Z = true) : (Jvm.Cond.selects "com/example/nakazilo/nakazilo/PaymentGroup" ({ cls := "com/example/nakazilo/nakazilo/PaymentGroup", name := "startSpan", desc := "(J)V" } : Jvm.MethodName) ({ cls := "com/example/nakazilo/nakazilo/PaymentGroup", name := "startSpan", desc := "(J)V" } : Jvm.MethodName)).before a0 Z = true := hw _ (List.mem_of_getElem? (i := 21) rfl)
theorem tw_22 {a0 : Array Value} {Z : State} (hw : ∀ d ∈ tables_1, d.before a0 Z = true) : (Jvm.Cond.code ({ cls := "com/example/nakazilo/nakazilo/PaymentGroup", name := "startSpan", desc := "(J)V" } : Jvm.MethodName) prog_91_method_6_code (3 : Nat) (Option.none : Option Jvm.ClassFile.FieldType)).before a0 Z = true := hw _ (List.mem_of_getElem? (i := 22) rfl)
theorem tw_23 {a0 : Array Value} {Z : State} (hw : ∀ d ∈ tables_1, d.before a0 Z = true) : (Jvm.Cond.fieldLink "com/example/nakazilo/nakazilo/PaymentGroup" (34 : Nat) "com/example/nakazilo/nakazilo/PaymentGroup" "bounds" "I").before a0 Z = true := hw _ (List.mem_of_getElem? (i := 23) rfl)
theorem tw_24 {a0 : Array Value} {Z : State} (hw : ∀ d ∈ tables_1, d.before a0 Z = true) : (Jvm.Cond.lays "com/example/nakazilo/nakazilo/PaymentGroup" "com/example/nakazilo/nakazilo/PaymentGroup" "bounds" "I").before a0 Z = true := hw _ (List.mem_of_getElem? (i := 24) rfl)
theorem tw_25 {a0 : Array Value} {Z : State} (hw : ∀ d ∈ tables_1, d.before a0 Z = true) : (Jvm.Cond.methodLink "com/example/nakazilo/nakazilo/PaymentGroupEndSpanPinLaw" (16 : Nat) ({ cls := "com/example/nakazilo/nakazilo/PaymentGroup", name := "endSpan", desc := "(J)V" } : Jvm.MethodName)).before a0 Z = true := hw _ (List.mem_of_getElem? (i := 25) rfl)
theorem tw_26 {a0 : Array Value} {Z : State} (hw : ∀ d ∈ tables_1, d.before a0 Z = true) : (Jvm.Cond.declares ({ cls := "com/example/nakazilo/nakazilo/PaymentGroup", name := "endSpan", desc := "(J)V" } : Jvm.MethodName)).before a0 Z = true := hw _ (List.mem_of_getElem? (i := 26) rfl)
theorem tw_27 {a0 : Array Value} {Z : State} (hw : ∀ d ∈ tables_1, d.before a0 Z = true) : (Jvm.Cond.instanceMethod ({ cls := "com/example/nakazilo/nakazilo/PaymentGroup", name := "endSpan", desc := "(J)V" } : Jvm.MethodName)).before a0 Z = true := hw _ (List.mem_of_getElem? (i := 27) rfl)
theorem tw_28 {a0 : Array Value} {Z : State} (hw : ∀ d ∈ tables_1, d.before a0 Z = true) : (Jvm.Cond.selects "com/example/nakazilo/nakazilo/PaymentGroup" ({ cls := "com/example/nakazilo/nakazilo/PaymentGroup", name := "endSpan", desc := "(J)V" } : Jvm.MethodName) ({ cls := "com/example/nakazilo/nakazilo/PaymentGroup", name := "endSpan", desc := "(J)V" } : Jvm.MethodName)).before a0 Z = true := hw _ (List.mem_of_getElem? (i := 28) rfl)
theorem tw_29 {a0 : Array Value} {Z : State} (hw : ∀ d ∈ tables_1, d.before a0 Z = true) : (Jvm.Cond.code ({ cls := "com/example/nakazilo/nakazilo/PaymentGroup", name := "endSpan", desc := "(J)V" } : Jvm.MethodName) prog_91_method_7_code (3 : Nat) (Option.none : Option Jvm.ClassFile.FieldType)).before a0 Z = true := hw _ (List.mem_of_getElem? (i := 29) rfl)
theorem tw_30 {a0 : Array Value} {Z : State} (hw : ∀ d ∈ tables_1, d.before a0 Z = true) : (Jvm.Cond.methodLink "com/example/nakazilo/nakazilo/PaymentGroupEndSpanPinLaw" (19 : Nat) ({ cls := "com/example/nakazilo/nakazilo/PaymentGroup", name := "spanStart", desc := "(I)J" } : Jvm.MethodName)).before a0 Z = true := hw _ (List.mem_of_getElem? (i := 30) rfl)
theorem tw_31 {a0 : Array Value} {Z : State} (hw : ∀ d ∈ tables_1, d.before a0 Z = true) : (Jvm.Cond.declares ({ cls := "com/example/nakazilo/nakazilo/PaymentGroup", name := "spanStart", desc := "(I)J" } : Jvm.MethodName)).before a0 Z = true := hw _ (List.mem_of_getElem? (i := 31) rfl)
theorem tw_32 {a0 : Array Value} {Z : State} (hw : ∀ d ∈ tables_1, d.before a0 Z = true) : (Jvm.Cond.instanceMethod ({ cls := "com/example/nakazilo/nakazilo/PaymentGroup", name := "spanStart", desc := "(I)J" } : Jvm.MethodName)).before a0 Z = true := hw _ (List.mem_of_getElem? (i := 32) rfl)
theorem tw_33 {a0 : Array Value} {Z : State} (hw : ∀ d ∈ tables_1, d.before a0 Z = true) : (Jvm.Cond.selects "com/example/nakazilo/nakazilo/PaymentGroup" ({ cls := "com/example/nakazilo/nakazilo/PaymentGroup", name := "spanStart", desc := "(I)J" } : Jvm.MethodName) ({ cls := "com/example/nakazilo/nakazilo/PaymentGroup", name := "spanStart", desc := "(I)J" } : Jvm.MethodName)).before a0 Z = true := hw _ (List.mem_of_getElem? (i := 33) rfl)
theorem tw_34 {a0 : Array Value} {Z : State} (hw : ∀ d ∈ tables_1, d.before a0 Z = true) : (Jvm.Cond.code ({ cls := "com/example/nakazilo/nakazilo/PaymentGroup", name := "spanStart", desc := "(I)J" } : Jvm.MethodName) prog_91_method_9_code (2 : Nat) (Option.some Jvm.ClassFile.FieldType.long)).before a0 Z = true := hw _ (List.mem_of_getElem? (i := 34) rfl)
theorem tw_35 {a0 : Array Value} {Z : State} (hw : ∀ d ∈ tables_1, d.before a0 Z = true) : (Jvm.Cond.methodLink "com/example/nakazilo/nakazilo/PaymentGroupEndSpanPinLaw" (23 : Nat) ({ cls := "com/example/nakazilo/nakazilo/PaymentGroup", name := "spanEnd", desc := "(I)J" } : Jvm.MethodName)).before a0 Z = true := hw _ (List.mem_of_getElem? (i := 35) rfl)
theorem tw_36 {a0 : Array Value} {Z : State} (hw : ∀ d ∈ tables_1, d.before a0 Z = true) : (Jvm.Cond.declares ({ cls := "com/example/nakazilo/nakazilo/PaymentGroup", name := "spanEnd", desc := "(I)J" } : Jvm.MethodName)).before a0 Z = true := hw _ (List.mem_of_getElem? (i := 36) rfl)
theorem tw_37 {a0 : Array Value} {Z : State} (hw : ∀ d ∈ tables_1, d.before a0 Z = true) : (Jvm.Cond.instanceMethod ({ cls := "com/example/nakazilo/nakazilo/PaymentGroup", name := "spanEnd", desc := "(I)J" } : Jvm.MethodName)).before a0 Z = true := hw _ (List.mem_of_getElem? (i := 37) rfl)
theorem tw_38 {a0 : Array Value} {Z : State} (hw : ∀ d ∈ tables_1, d.before a0 Z = true) : (Jvm.Cond.selects "com/example/nakazilo/nakazilo/PaymentGroup" ({ cls := "com/example/nakazilo/nakazilo/PaymentGroup", name := "spanEnd", desc := "(I)J" } : Jvm.MethodName) ({ cls := "com/example/nakazilo/nakazilo/PaymentGroup", name := "spanEnd", desc := "(I)J" } : Jvm.MethodName)).before a0 Z = true := hw _ (List.mem_of_getElem? (i := 38) rfl)
theorem tw_39 {a0 : Array Value} {Z : State} (hw : ∀ d ∈ tables_1, d.before a0 Z = true) : (Jvm.Cond.code ({ cls := "com/example/nakazilo/nakazilo/PaymentGroup", name := "spanEnd", desc := "(I)J" } : Jvm.MethodName) prog_91_method_10_code (2 : Nat) (Option.some Jvm.ClassFile.FieldType.long)).before a0 Z = true := hw _ (List.mem_of_getElem? (i := 39) rfl)
theorem tw_40 {a0 : Array Value} {Z : State} (hw : ∀ d ∈ tables_1, d.before a0 Z = true) : (Jvm.Cond.methodLink "com/example/nakazilo/nakazilo/PaymentGroup" (37 : Nat) ({ cls := "java/util/Arrays", name := "copyOf", desc := "([JI)[J" } : Jvm.MethodName)).before a0 Z = true := hw _ (List.mem_of_getElem? (i := 40) rfl)
theorem tw_41 {a0 : Array Value} {Z : State} (hw : ∀ d ∈ tables_1, d.before a0 Z = true) : (Jvm.Cond.static ({ cls := "java/util/Arrays", name := "copyOf", desc := "([JI)[J" } : Jvm.MethodName)).before a0 Z = true := hw _ (List.mem_of_getElem? (i := 41) rfl)
theorem tw_42 {a0 : Array Value} {Z : State} (hw : ∀ d ∈ tables_1, d.before a0 Z = true) : (Jvm.Cond.initialized "java/util/Arrays").before a0 Z = true := hw _ (List.mem_of_getElem? (i := 42) rfl)
theorem tw_43 {a0 : Array Value} {Z : State} (hw : ∀ d ∈ tables_1, d.before a0 Z = true) : (Jvm.Cond.code ({ cls := "java/util/Arrays", name := "copyOf", desc := "([JI)[J" } : Jvm.MethodName) jdk_65_method_124_code (3 : Nat) (Option.some (Jvm.ClassFile.FieldType.array Jvm.ClassFile.FieldType.long))).before a0 Z = true := hw _ (List.mem_of_getElem? (i := 43) rfl)
theorem tw_44 {a0 : Array Value} {Z : State} (hw : ∀ d ∈ tables_1, d.before a0 Z = true) : (Jvm.Cond.methodLink "java/util/Arrays" (304 : Nat) ({ cls := "java/lang/Math", name := "min", desc := "(II)I" } : Jvm.MethodName)).before a0 Z = true := hw _ (List.mem_of_getElem? (i := 44) rfl)
theorem tw_45 {a0 : Array Value} {Z : State} (hw : ∀ d ∈ tables_1, d.before a0 Z = true) : (Jvm.Cond.static ({ cls := "java/lang/Math", name := "min", desc := "(II)I" } : Jvm.MethodName)).before a0 Z = true := hw _ (List.mem_of_getElem? (i := 45) rfl)
theorem tw_46 {a0 : Array Value} {Z : State} (hw : ∀ d ∈ tables_1, d.before a0 Z = true) : (Jvm.Cond.initialized "java/lang/Math").before a0 Z = true := hw _ (List.mem_of_getElem? (i := 46) rfl)
theorem tw_47 {a0 : Array Value} {Z : State} (hw : ∀ d ∈ tables_1, d.before a0 Z = true) : (Jvm.Cond.code ({ cls := "java/lang/Math", name := "min", desc := "(II)I" } : Jvm.MethodName) jdk_29_method_69_code (2 : Nat) (Option.some Jvm.ClassFile.FieldType.int)).before a0 Z = true := hw _ (List.mem_of_getElem? (i := 47) rfl)
theorem tw_48 {a0 : Array Value} {Z : State} (hw : ∀ d ∈ tables_1, d.before a0 Z = true) : (Jvm.Cond.methodLink "java/util/Arrays" (150 : Nat) ({ cls := "java/lang/System", name := "arraycopy", desc := "(Ljava/lang/Object;ILjava/lang/Object;II)V" } : Jvm.MethodName)).before a0 Z = true := hw _ (List.mem_of_getElem? (i := 48) rfl)
theorem tw_49 {a0 : Array Value} {Z : State} (hw : ∀ d ∈ tables_1, d.before a0 Z = true) : (Jvm.Cond.static ({ cls := "java/lang/System", name := "arraycopy", desc := "(Ljava/lang/Object;ILjava/lang/Object;II)V" } : Jvm.MethodName)).before a0 Z = true := hw _ (List.mem_of_getElem? (i := 49) rfl)
theorem tw_50 {a0 : Array Value} {Z : State} (hw : ∀ d ∈ tables_1, d.before a0 Z = true) : (Jvm.Cond.initialized "java/lang/System").before a0 Z = true := hw _ (List.mem_of_getElem? (i := 50) rfl)
theorem tw_51 {a0 : Array Value} {Z : State} (hw : ∀ d ∈ tables_1, d.before a0 Z = true) : (Jvm.Cond.native ({ cls := "java/lang/System", name := "arraycopy", desc := "(Ljava/lang/Object;ILjava/lang/Object;II)V" } : Jvm.MethodName)).before a0 Z = true := hw _ (List.mem_of_getElem? (i := 51) rfl)
theorem tw_52 {a0 : Array Value} {Z : State} (hw : ∀ d ∈ tables_1, d.before a0 Z = true) : (Jvm.Cond.methodLink "com/example/nakazilo/nakazilo/PaymentGroupEndSpanPinLaw" (26 : Nat) ({ cls := "com/example/nakazilo/nakazilo/PaymentGroup", name := "spans", desc := "()I" } : Jvm.MethodName)).before a0 Z = true := hw _ (List.mem_of_getElem? (i := 52) rfl)
theorem tw_53 {a0 : Array Value} {Z : State} (hw : ∀ d ∈ tables_1, d.before a0 Z = true) : (Jvm.Cond.declares ({ cls := "com/example/nakazilo/nakazilo/PaymentGroup", name := "spans", desc := "()I" } : Jvm.MethodName)).before a0 Z = true := hw _ (List.mem_of_getElem? (i := 53) rfl)
theorem tw_54 {a0 : Array Value} {Z : State} (hw : ∀ d ∈ tables_1, d.before a0 Z = true) : (Jvm.Cond.instanceMethod ({ cls := "com/example/nakazilo/nakazilo/PaymentGroup", name := "spans", desc := "()I" } : Jvm.MethodName)).before a0 Z = true := hw _ (List.mem_of_getElem? (i := 54) rfl)
theorem tw_55 {a0 : Array Value} {Z : State} (hw : ∀ d ∈ tables_1, d.before a0 Z = true) : (Jvm.Cond.selects "com/example/nakazilo/nakazilo/PaymentGroup" ({ cls := "com/example/nakazilo/nakazilo/PaymentGroup", name := "spans", desc := "()I" } : Jvm.MethodName) ({ cls := "com/example/nakazilo/nakazilo/PaymentGroup", name := "spans", desc := "()I" } : Jvm.MethodName)).before a0 Z = true := hw _ (List.mem_of_getElem? (i := 55) rfl)
theorem tw_56 {a0 : Array Value} {Z : State} (hw : ∀ d ∈ tables_1, d.before a0 Z = true) : (Jvm.Cond.code ({ cls := "com/example/nakazilo/nakazilo/PaymentGroup", name := "spans", desc := "()I" } : Jvm.MethodName) prog_91_method_8_code (1 : Nat) (Option.some Jvm.ClassFile.FieldType.int)).before a0 Z = true := hw _ (List.mem_of_getElem? (i := 56) rfl)
theorem d1_0 : decode prog_91_method_1_code 0 = .ok (.aload_n 0, 1) := by decide +kernel
theorem d1_1 : decode prog_91_method_1_code 1 = .ok (.invokespecial 1, 3) := by decide +kernel
theorem d1_4 : decode prog_91_method_1_code 4 = .ok (.aload_n 0, 1) := by decide +kernel
theorem d1_5 : decode prog_91_method_1_code 5 = .ok (.getstatic 7, 3) := by decide +kernel
theorem d1_8 : decode prog_91_method_1_code 8 = .ok (.putfield 13, 3) := by decide +kernel
theorem d1_11 : decode prog_91_method_1_code 11 = .ok (.aload_n 0, 1) := by decide +kernel
theorem d1_12 : decode prog_91_method_1_code 12 = .ok (.iconst 2, 1) := by decide +kernel
theorem d1_13 : decode prog_91_method_1_code 13 = .ok (.newarray .long, 2) := by decide +kernel
theorem d1_15 : decode prog_91_method_1_code 15 = .ok (.putfield 18, 3) := by decide +kernel
theorem d1_18 : decode prog_91_method_1_code 18 = .ok (.aload_n 0, 1) := by decide +kernel
theorem d1_19 : decode prog_91_method_1_code 19 = .ok (.aload_n 1, 1) := by decide +kernel
theorem d1_20 : decode prog_91_method_1_code 20 = .ok (.putfield 22, 3) := by decide +kernel
theorem d1_23 : decode prog_91_method_1_code 23 = .ok (.return_, 1) := by decide +kernel
theorem d3_0 : decode prog_91_method_6_code 0 = .ok (.aload_n 0, 1) := by decide +kernel
theorem d3_1 : decode prog_91_method_6_code 1 = .ok (.getfield 34, 3) := by decide +kernel
theorem d3_4 : decode prog_91_method_6_code 4 = .ok (.iconst 2, 1) := by decide +kernel
theorem d3_5 : decode prog_91_method_6_code 5 = .ok (.iadd, 1) := by decide +kernel
theorem d3_6 : decode prog_91_method_6_code 6 = .ok (.aload_n 0, 1) := by decide +kernel
theorem d3_7 : decode prog_91_method_6_code 7 = .ok (.getfield 18, 3) := by decide +kernel
theorem d3_10 : decode prog_91_method_6_code 10 = .ok (.arraylength, 1) := by decide +kernel
theorem d3_11 : decode prog_91_method_6_code 11 = .ok (.if_icmp .le 21, 3) := by decide +kernel
theorem d3_14 : decode prog_91_method_6_code 14 = .ok (.aload_n 0, 1) := by decide +kernel
theorem d3_15 : decode prog_91_method_6_code 15 = .ok (.aload_n 0, 1) := by decide +kernel
theorem d3_16 : decode prog_91_method_6_code 16 = .ok (.getfield 18, 3) := by decide +kernel
theorem d3_19 : decode prog_91_method_6_code 19 = .ok (.aload_n 0, 1) := by decide +kernel
theorem d3_20 : decode prog_91_method_6_code 20 = .ok (.getfield 18, 3) := by decide +kernel
theorem d3_23 : decode prog_91_method_6_code 23 = .ok (.arraylength, 1) := by decide +kernel
theorem d3_24 : decode prog_91_method_6_code 24 = .ok (.iconst 2, 1) := by decide +kernel
theorem d3_25 : decode prog_91_method_6_code 25 = .ok (.imul, 1) := by decide +kernel
theorem d3_26 : decode prog_91_method_6_code 26 = .ok (.invokestatic 37, 3) := by decide +kernel
theorem d3_29 : decode prog_91_method_6_code 29 = .ok (.putfield 18, 3) := by decide +kernel
theorem d3_32 : decode prog_91_method_6_code 32 = .ok (.aload_n 0, 1) := by decide +kernel
theorem d3_33 : decode prog_91_method_6_code 33 = .ok (.getfield 18, 3) := by decide +kernel
theorem d3_36 : decode prog_91_method_6_code 36 = .ok (.aload_n 0, 1) := by decide +kernel
theorem d3_37 : decode prog_91_method_6_code 37 = .ok (.dup, 1) := by decide +kernel
theorem d3_38 : decode prog_91_method_6_code 38 = .ok (.getfield 34, 3) := by decide +kernel
theorem d3_41 : decode prog_91_method_6_code 41 = .ok (.dup_x1, 1) := by decide +kernel
theorem d3_42 : decode prog_91_method_6_code 42 = .ok (.iconst 1, 1) := by decide +kernel
theorem d3_43 : decode prog_91_method_6_code 43 = .ok (.iadd, 1) := by decide +kernel
theorem d3_44 : decode prog_91_method_6_code 44 = .ok (.putfield 34, 3) := by decide +kernel
theorem d3_47 : decode prog_91_method_6_code 47 = .ok (.lload_n 1, 1) := by decide +kernel
theorem d3_48 : decode prog_91_method_6_code 48 = .ok (.lastore, 1) := by decide +kernel
theorem d3_49 : decode prog_91_method_6_code 49 = .ok (.return_, 1) := by decide +kernel
theorem d4_0 : decode prog_91_method_7_code 0 = .ok (.aload_n 0, 1) := by decide +kernel
theorem d4_1 : decode prog_91_method_7_code 1 = .ok (.getfield 18, 3) := by decide +kernel
theorem d4_4 : decode prog_91_method_7_code 4 = .ok (.aload_n 0, 1) := by decide +kernel
theorem d4_5 : decode prog_91_method_7_code 5 = .ok (.dup, 1) := by decide +kernel
theorem d4_6 : decode prog_91_method_7_code 6 = .ok (.getfield 34, 3) := by decide +kernel
theorem d4_9 : decode prog_91_method_7_code 9 = .ok (.dup_x1, 1) := by decide +kernel
theorem d4_10 : decode prog_91_method_7_code 10 = .ok (.iconst 1, 1) := by decide +kernel
theorem d4_11 : decode prog_91_method_7_code 11 = .ok (.iadd, 1) := by decide +kernel
theorem d4_12 : decode prog_91_method_7_code 12 = .ok (.putfield 34, 3) := by decide +kernel
theorem d4_15 : decode prog_91_method_7_code 15 = .ok (.lload_n 1, 1) := by decide +kernel
theorem d4_16 : decode prog_91_method_7_code 16 = .ok (.lastore, 1) := by decide +kernel
theorem d4_17 : decode prog_91_method_7_code 17 = .ok (.return_, 1) := by decide +kernel
theorem d5_0 : decode prog_91_method_9_code 0 = .ok (.aload_n 0, 1) := by decide +kernel
theorem d5_1 : decode prog_91_method_9_code 1 = .ok (.getfield 18, 3) := by decide +kernel
theorem d5_4 : decode prog_91_method_9_code 4 = .ok (.iconst 2, 1) := by decide +kernel
theorem d5_5 : decode prog_91_method_9_code 5 = .ok (.iload_n 1, 1) := by decide +kernel
theorem d5_6 : decode prog_91_method_9_code 6 = .ok (.imul, 1) := by decide +kernel
theorem d5_7 : decode prog_91_method_9_code 7 = .ok (.laload, 1) := by decide +kernel
theorem d5_8 : decode prog_91_method_9_code 8 = .ok (.lreturn, 1) := by decide +kernel
theorem d6_0 : decode prog_91_method_10_code 0 = .ok (.aload_n 0, 1) := by decide +kernel
theorem d6_1 : decode prog_91_method_10_code 1 = .ok (.getfield 18, 3) := by decide +kernel
theorem d6_4 : decode prog_91_method_10_code 4 = .ok (.iconst 2, 1) := by decide +kernel
theorem d6_5 : decode prog_91_method_10_code 5 = .ok (.iload_n 1, 1) := by decide +kernel
theorem d6_6 : decode prog_91_method_10_code 6 = .ok (.imul, 1) := by decide +kernel
theorem d6_7 : decode prog_91_method_10_code 7 = .ok (.iconst 1, 1) := by decide +kernel
theorem d6_8 : decode prog_91_method_10_code 8 = .ok (.iadd, 1) := by decide +kernel
theorem d6_9 : decode prog_91_method_10_code 9 = .ok (.laload, 1) := by decide +kernel
theorem d6_10 : decode prog_91_method_10_code 10 = .ok (.lreturn, 1) := by decide +kernel
theorem d7_0 : decode jdk_65_method_124_code 0 = .ok (.iload_n 1, 1) := by decide +kernel
theorem d7_1 : decode jdk_65_method_124_code 1 = .ok (.aload_n 0, 1) := by decide +kernel
theorem d7_2 : decode jdk_65_method_124_code 2 = .ok (.arraylength, 1) := by decide +kernel
theorem d7_3 : decode jdk_65_method_124_code 3 = .ok (.if_icmp .ne 11, 3) := by decide +kernel
theorem d7_14 : decode jdk_65_method_124_code 14 = .ok (.iload_n 1, 1) := by decide +kernel
theorem d7_15 : decode jdk_65_method_124_code 15 = .ok (.newarray .long, 2) := by decide +kernel
theorem d7_17 : decode jdk_65_method_124_code 17 = .ok (.astore_n 2, 1) := by decide +kernel
theorem d7_18 : decode jdk_65_method_124_code 18 = .ok (.aload_n 0, 1) := by decide +kernel
theorem d7_19 : decode jdk_65_method_124_code 19 = .ok (.iconst 0, 1) := by decide +kernel
theorem d7_20 : decode jdk_65_method_124_code 20 = .ok (.aload_n 2, 1) := by decide +kernel
theorem d7_21 : decode jdk_65_method_124_code 21 = .ok (.iconst 0, 1) := by decide +kernel
theorem d7_22 : decode jdk_65_method_124_code 22 = .ok (.aload_n 0, 1) := by decide +kernel
theorem d7_23 : decode jdk_65_method_124_code 23 = .ok (.arraylength, 1) := by decide +kernel
theorem d7_24 : decode jdk_65_method_124_code 24 = .ok (.iload_n 1, 1) := by decide +kernel
theorem d7_25 : decode jdk_65_method_124_code 25 = .ok (.invokestatic 304, 3) := by decide +kernel
theorem d7_28 : decode jdk_65_method_124_code 28 = .ok (.invokestatic 150, 3) := by decide +kernel
theorem d7_31 : decode jdk_65_method_124_code 31 = .ok (.aload_n 2, 1) := by decide +kernel
theorem d7_32 : decode jdk_65_method_124_code 32 = .ok (.areturn, 1) := by decide +kernel
theorem d8_0 : decode jdk_29_method_69_code 0 = .ok (.iload_n 0, 1) := by decide +kernel
theorem d8_1 : decode jdk_29_method_69_code 1 = .ok (.iload_n 1, 1) := by decide +kernel
theorem d8_2 : decode jdk_29_method_69_code 2 = .ok (.if_icmp .gt 7, 3) := by decide +kernel
theorem d8_5 : decode jdk_29_method_69_code 5 = .ok (.iload_n 0, 1) := by decide +kernel
theorem d8_6 : decode jdk_29_method_69_code 6 = .ok (.goto 4, 3) := by decide +kernel
theorem d8_10 : decode jdk_29_method_69_code 10 = .ok (.ireturn, 1) := by decide +kernel
theorem d9_0 : decode prog_91_method_8_code 0 = .ok (.aload_n 0, 1) := by decide +kernel
theorem d9_1 : decode prog_91_method_8_code 1 = .ok (.getfield 34, 3) := by decide +kernel
theorem d9_4 : decode prog_91_method_8_code 4 = .ok (.iconst 2, 1) := by decide +kernel
theorem d9_5 : decode prog_91_method_8_code 5 = .ok (.idiv, 1) := by decide +kernel
theorem d9_6 : decode prog_91_method_8_code 6 = .ok (.ireturn, 1) := by decide +kernel
theorem pn_0 : plainName "com/example/nakazilo/nakazilo/PaymentGroup" = true := by first | (simp [plainName, overriddenIn]; done) | decide +kernel
theorem pn_1 : plainName "java/util/Arrays" = true := by first | (simp [plainName, overriddenIn]; done) | decide +kernel
theorem pn_2 : plainName "com/example/nakazilo/nakazilo/PaymentGroupEndSpanPinLaw" = true := by first | (simp [plainName, overriddenIn]; done) | decide +kernel
theorem pd_0 : parseMethodDescriptor "(Ljava/lang/Object;)V" = some ⟨[(.object "java/lang/Object")], none⟩ := by decide +kernel
theorem pd_1 : parseMethodDescriptor "(J)V" = some ⟨[.long], none⟩ := by decide +kernel
theorem pd_2 : parseMethodDescriptor "(I)J" = some ⟨[.int], some .long⟩ := by decide +kernel
theorem pd_3 : parseMethodDescriptor "(II)I" = some ⟨[.int, .int], some .int⟩ := by decide +kernel
theorem pd_4 : parseMethodDescriptor "([JI)[J" = some ⟨[(.array .long), .int], some (.array .long)⟩ := by decide +kernel
theorem pd_5 : parseMethodDescriptor "()I" = some ⟨[], some .int⟩ := by decide +kernel
def va1 (x1 : Int64) : Int32 := (if (lcmpW x1 x1) = (0 : Int32) then (1 : Int32) else (0 : Int32))
def va2 (x1 : Int64) (x2 : Int64) : Int32 := (if (va1 x1) = (0 : Int32) then (0 : Int32) else (if (va1 x2) = (0 : Int32) then (0 : Int32) else (1 : Int32)))
abbrev LL1 (x1 : Int64) (x2 : Int64) (x3 : Int64) (x4 : Int64) : Array Slot := #[.val (.long x1), .second, .val (.long x2), .second, .val (.long x3), .second, .val (.long x4), .second, .unset, .unset, .unset, .unset, .unset]
abbrev LL2 (x1 : Int64) (x2 : Int64) (x3 : Int64) (x4 : Int64) (x5 : Addr) : Array Slot := #[.val (.long x1), .second, .val (.long x2), .second, .val (.long x3), .second, .val (.long x4), .second, .val (.ref x5), .unset, .unset, .unset, .unset]
abbrev LL3 (x1 : Int64) (x2 : Int64) (x3 : Int64) (x4 : Int64) (x5 : Addr) : Array Slot := #[.val (.long x1), .second, .val (.long x2), .second, .val (.long x3), .second, .val (.long x4), .second, .val (.ref x5), .val (.int (va1 x2)), .unset, .unset, .unset]
abbrev LL4 (x1 : Int64) (x2 : Int64) (x3 : Int64) (x4 : Int64) (x5 : Addr) : Array Slot := #[.val (.long x1), .second, .val (.long x2), .second, .val (.long x3), .second, .val (.long x4), .second, .val (.ref x5), .val (.int (va1 x2)), .val (.int (1 : Int32)), .unset, .unset]
abbrev LL5 (x1 : Int64) (x2 : Int64) (x3 : Int64) (x4 : Int64) (x5 : Addr) : Array Slot := #[.val (.long x1), .second, .val (.long x2), .second, .val (.long x3), .second, .val (.long x4), .second, .val (.ref x5), .val (.int (va1 x2)), .val (.int (1 : Int32)), .val (.int (va1 x4)), .unset]
abbrev LL6 (x1 : Int64) (x2 : Int64) (x3 : Int64) (x4 : Int64) (x5 : Addr) : Array Slot := #[.val (.long x1), .second, .val (.long x2), .second, .val (.long x3), .second, .val (.long x4), .second, .val (.ref x5), .val (.int (va1 x2)), .val (.int (1 : Int32)), .val (.int (va1 x4)), .val (.int (va1 x2))]
theorem own_arr {s : State} {args : Array Value} {T : Term} {ty : FieldType} {a : Addr} {n : Int32} (hf : Fit s) (ev : T.eval args s none [] s = some (.ref a)) (hA : (Jvm.Cond.arrayOf T ty).value args s none s [] = some true) (hL : (Jvm.Cond.eq (.length T) (.int n)).value args s none s [] = some true) : ∃ cl, Arr s s.heap a cl ty ∧ cl.slots.size < 2 ^ 31 ∧ cl.slots.size.toInt32 = n := by
  obtain ⟨cl, A⟩ := Arr.start ev hA
  have hl := eqv_i (Term.int_eval n) hL
  have ha : s.arrayAt? a = some cl := A.fin (Vm.Alike.refl _)
  by_cases q : cl.slots.size < 2 ^ 31
  · have := (len_f ev ha q).symm.trans hl
    exact ⟨cl, A, q, by injection this with z; injection z⟩
  · simp [Term.eval, ev, ha, q] at hl
theorem own_eqr {s : State} {args : Array Value} {X F : Term} {b : Addr} (hF : F.eval args s none [] s = some (.ref b)) (h : (Jvm.Cond.eq X F).value args s none s [] = some true) : X.eval args s none [] s = some (.ref b) := by
  obtain ⟨x, y', e1, e2, k1, k2⟩ := cmp_v (Or.inl h)
  cases hF.symm.trans e2
  cases x <;> simp_all [Jvm.Cond.value]
theorem ef1_1 (m : MethodId) (a1 : Addr) (a3 : Addr) : entryFrame m #[(.ref a1), .null] 2 = mkF m 0 #[.val (.ref a1), .val .null] [] := by first | (simp [entryFrame, mkF, argsToLocals, Value.category]; done) | rfl
def Q1_1 (Z : State) (a1 : Addr) (a3 : Addr) (h0 : Heap) (n0 : Nat) (v : Option Value) (h : Heap) (L : List Loc) : Prop := ∃ b7 : Addr, ∃ k6 : ClassId, v = none ∧ Fr n0 L ∧ Keep h0 h [a1] ∧ n0 ≤ b7 ∧ h0.size ≤ b7 ∧ Fld Z h a1 "com/example/nakazilo/nakazilo/PaymentGroup" "bounds" "I" (.int (0 : Int32)) ∧ Fld Z h a1 "com/example/nakazilo/nakazilo/PaymentGroup" "first" "Ljava/lang/Object;" .null ∧ Fld Z h a1 "com/example/nakazilo/nakazilo/PaymentGroup" "spans" "[J" (.ref b7) ∧ Fld Z h a1 "com/example/nakazilo/nakazilo/PaymentGroup" "total" "Ljava/math/BigDecimal;" (.ref a3) ∧ Arv Z h b7 k6 .long (2 : Int32) [(.long (0 : Int64)), (.long (0 : Int64))] (.long (0 : Int64))
set_option maxRecDepth 65536 in
set_option maxHeartbeats 40000000 in
theorem rm1_1 (l : Launch) (Z : State) (a0 : Array Value) (hw : ∀ d ∈ tables_1, d.before a0 Z = true) (ws : List Jvm.Cond) (a1 : Addr) (a3 : Addr) (h0 : Heap) (n0 : Nat) (Z0 : n0 ≤ h0.size) (P1 : Sta Z Z.heap "java/math/BigDecimal" "ZERO" "Ljava/math/BigDecimal;" (.ref a3)) (P2 : Old Z n0 h0) (P3 : Fld Z h0 a1 "com/example/nakazilo/nakazilo/PaymentGroup" "total" "Ljava/math/BigDecimal;" .null) (P4 : Exa Z h0 a1 "com/example/nakazilo/nakazilo/PaymentGroup") (P5 : n0 ≤ a1) (P6 : Fld Z h0 a1 "com/example/nakazilo/nakazilo/PaymentGroup" "spans" "[J" .null) (P7 : Fld Z h0 a1 "com/example/nakazilo/nakazilo/PaymentGroup" "first" "Ljava/lang/Object;" .null) (P8 : Fld Z h0 a1 "com/example/nakazilo/nakazilo/PaymentGroup" "bounds" "I" (.int (0 : Int32))) :
    MetFree l (⟨"com/example/nakazilo/nakazilo/PaymentGroup", "<init>", "(Ljava/lang/Object;)V"⟩ : MethodName) (head1 (Jvm.Cond.code (⟨"com/example/nakazilo/nakazilo/PaymentGroup", "<init>", "(Ljava/lang/Object;)V"⟩ : MethodName) prog_91_method_1_code 2 none :: ws) ({ frames := 1, cells := 1, slots := 2, locals := 12 } : Room)) (fun a U => a = #[(.ref a1), .null] ∧ Z.Warmed39 U.vm ∧ U.heap = h0) (fun _ _ _ _ _ => True) (fun _ U o U' => ∃ v L, o = .returned v ∧ Q1_1 Z a1 a3 h0 n0 v U'.heap L ∧ FrameEnd U o U' L ({ frames := 1, cells := 1, slots := 2, locals := 12 } : Room).cells ({ frames := 1, cells := 1, slots := 2, locals := 12 } : Room).slots) := by
  refine MetFree.of_bodySF (plainFor_of_name pn_0) hisR ?_
  intro p e s m args below meth c s₁ Bd hml0 hP hK
  obtain ⟨rfl, hZ, hh⟩ := hP
  have hx := Bd.exec
  have hby := Bd.bytes
  have hml : c.maxLocals = 2 := hml0
  have hown : s.vm.findClass "com/example/nakazilo/nakazilo/PaymentGroup" = some m.cls := findClass_of_methodNamed Bd.named
  have hnm := (name_of_methodNamed Bd.named Bd.method).1
  have X0 : Stand p l e ({ frames := 1, cells := 1, slots := 2, locals := 12 } : Room) s m #[(.ref a1), .null] below meth c s₁ [] 0 0 := Stand.of_body Bd
  have e0 : s₁.heap = h0 := by rw [← hh, Bd.state]; rfl
  have N0 := Fr.nil n0
  have pre0 : ∀ t, Steps p.tables e below (s₁.setTop (mkF m 0 #[.val (.ref a1), .val .null] [])) t → Steps p.tables e below (s₁.setTop (entryFrame m #[(.ref a1), .null] 2)) t := fun t k => castTop (ef1_1 m a1 a3) k
  obtain ⟨T2, X2, e2, st2⟩ := initO X0 hx hZ hown (tw_6 hw) (tw_7 hw) (tw_8 hw) e0 (g := (mkF m 1 #[.val (.ref a1), .val .null] [(.ref a1)])) rfl (by rw [hml]; rfl) rfl (hb hby d1_1) (by decide) (W := 0) (by show 2 * 0 + _ ≤ _; exact Nat.le_of_eq rfl) (by decide)
  obtain ⟨T4, X4, e4, st4⟩ := getS2 X2 hx hZ hown (host := "") (Or.inl (tw_9 hw)) Via.refl e2 (Sta.ext P2.2 P1) (g := (mkF m 5 #[.val (.ref a1), .val .null] [(.ref a1)])) rfl (hb hby d1_5)
  obtain ⟨T5, h5, X5, e5, W5, st5⟩ := putF X4 hx hZ hown (host := "") (Or.inl (tw_11 hw)) Via.refl e4 P3 P4 (Or.inl (tw_12 hw)) (tw_1 hw) (ty := (.object "java/math/BigDecimal")) (by decide) rfl rfl (g := (mkF m 8 #[.val (.ref a1), .val .null] [(.ref a3), (.ref a1)])) rfl rfl (hb hby d1_8)
  have N5 := Fr.snoc X5 N0 P5
  have Fw5 := Fld.same W5 P3
  obtain ⟨T6, h6, k6, X6, e6, E6, A6, st6⟩ := newP (aty := .long) X5 hx hZ (tw_13 hw) e5 (g := (mkF m 13 #[.val (.ref a1), .val .null] [(.int (2 : Int32)), (.ref a1)])) rfl (hb hby d1_13) rfl (by decide) (cap := 2) (by decide) (by decide) (by decide) (by decide)
  obtain ⟨b7, g6⟩ : ∃ z, z = h5.size := ⟨_, rfl⟩
  rw [← g6] at A6 st6
  have q6 : n0 ≤ b7 := Nat.le_trans (Nat.le_trans Z0 (Keep.of_wr W5).1) (Nat.le_of_eq g6.symm)
  have z6 : h0.size ≤ b7 := Nat.le_trans (Nat.le_trans (Nat.le_refl h0.size) (Keep.of_wr W5).1) (Nat.le_of_eq g6.symm)
  have V6 : Arv Z h6 b7 k6 .long (2 : Int32) [(.long (0 : Int64)), (.long (0 : Int64))] (.long (0 : Int64)) := (Arv.new A6 (by decide)).pad (pad_rep [] (.long (0 : Int64)) 2)
  have F8 := (Fld.ext E6 (Fld.other W5 P6 (Or.inr (slot_ne (Or.inl (tw_15 hw)) (Or.inl (tw_12 hw)) (by decide) (t := (.array .long)) (t' := (.object "java/math/BigDecimal")) (by decide) (by decide)))))
  have F9 := (Exa.ext E6 (Exa.wr W5 P4))
  obtain ⟨T10, h10, X10, e10, W10, st10⟩ := putF X6 hx hZ hown (host := "") (Or.inl (tw_14 hw)) Via.refl e6 F8 F9 (Or.inl (tw_15 hw)) (tw_1 hw) (ty := (.array .long)) (by decide) rfl rfl (g := (mkF m 15 #[.val (.ref a1), .val .null] [(.ref b7), (.ref a1)])) rfl rfl (hb hby d1_15)
  have N10 := Fr.snoc X10 N5 P5
  have Fw10 := Fld.same W10 F8
  have F11 := (Fld.other W10 (Fld.ext E6 (Fld.other W5 P7 (Or.inr (slot_ne (Or.inr (tw_17 hw)) (Or.inl (tw_12 hw)) (by decide) (t := (.object "java/lang/Object")) (t' := (.object "java/math/BigDecimal")) (by decide) (by decide))))) (Or.inr (slot_ne (Or.inr (tw_17 hw)) (Or.inl (tw_15 hw)) (by decide) (t := (.object "java/lang/Object")) (t' := (.array .long)) (by decide) (by decide))))
  have F12 := (Exa.wr W10 F9)
  obtain ⟨T13, h13, X13, e13, W13, st13⟩ := putF X10 hx hZ hown (host := "") (Or.inl (tw_16 hw)) Via.refl e10 F11 F12 (Or.inr ⟨(tw_17 hw), rfl, hnm⟩) (tw_1 hw) (ty := (.object "java/lang/Object")) (by decide) rfl rfl (g := (mkF m 20 #[.val (.ref a1), .val .null] [.null, (.ref a1)])) rfl rfl (hb hby d1_20)
  have N13 := Fr.snoc X13 N10 P5
  have Fw13 := Fld.same W13 F11
  have F14 := (Fld.other W13 (Fld.other W10 (Fld.ext E6 (Fld.other W5 P8 (Or.inr (slot_ne (Or.inl (tw_24 hw)) (Or.inl (tw_12 hw)) (by decide) (t := .int) (t' := (.object "java/math/BigDecimal")) (by decide) (by decide))))) (Or.inr (slot_ne (Or.inl (tw_24 hw)) (Or.inl (tw_15 hw)) (by decide) (t := .int) (t' := (.array .long)) (by decide) (by decide)))) (Or.inr (slot_ne (Or.inl (tw_24 hw)) (Or.inr (tw_17 hw)) (by decide) (t := .int) (t' := (.object "java/lang/Object")) (by decide) (by decide))))
  have F15 := (Fld.other W13 Fw10 (Or.inr (slot_ne (Or.inl (tw_15 hw)) (Or.inr (tw_17 hw)) (by decide) (t := (.array .long)) (t' := (.object "java/lang/Object")) (by decide) (by decide))))
  have F16 := (Fld.other W13 (Fld.other W10 (Fld.ext E6 Fw5) (Or.inr (slot_ne (Or.inl (tw_12 hw)) (Or.inl (tw_15 hw)) (by decide) (t := (.object "java/math/BigDecimal")) (t' := (.array .long)) (by decide) (by decide)))) (Or.inr (slot_ne (Or.inl (tw_12 hw)) (Or.inr (tw_17 hw)) (by decide) (t := (.object "java/math/BigDecimal")) (t' := (.object "java/lang/Object")) (by decide) (by decide))))
  have F17 := (Arv.other (Arv.other V6 W10 (Ne.symm (Nat.ne_of_lt (Nat.lt_of_lt_of_le Fw5.lt (Nat.le_of_eq g6.symm))))) W13 (Ne.symm (Nat.ne_of_lt (Nat.lt_of_lt_of_le Fw5.lt (Nat.le_of_eq g6.symm)))))
  have K18 := (Keep.refl h0 [a1]).wr W5 (Or.inl (List.mem_of_getElem? (i := 0) rfl))
  have K19 := K18.ext E6
  have K20 := K19.wr W10 (Or.inl (List.mem_of_getElem? (i := 0) rfl))
  have K21 := K20.wr W13 (Or.inl (List.mem_of_getElem? (i := 0) rfl))
  obtain ⟨fs, hr, hrun, hended, hW, hsame⟩ := X13.leave (v := none) (fun _ => rfl)
  refine ⟨_, _, pre0 _ ?_, hrun, hended, _, _, rfl, ?_, ⟨_, rfl⟩, hW, hsame.mono (by decide) (by decide)⟩
  · show Steps p.tables e below (s₁.setTop (mkF m 0 #[.val (.ref a1), .val .null] [])) _
    refine XS.aloadN X0.here hx rfl (hb hby d1_0) rfl rfl ?_
    show Steps p.tables e below (s₁.setTop (mkF m 1 #[.val (.ref a1), .val .null] [(.ref a1)])) _
    refine st2 _ ?_
    show Steps p.tables e below (T2.setTop (mkF m 4 #[.val (.ref a1), .val .null] [])) _
    refine XS.aloadN X2.here hx rfl (hb hby d1_4) rfl rfl ?_
    show Steps p.tables e below (T2.setTop (mkF m 5 #[.val (.ref a1), .val .null] [(.ref a1)])) _
    refine st4 _ ?_
    show Steps p.tables e below (T4.setTop (mkF m 8 #[.val (.ref a1), .val .null] [(.ref a3), (.ref a1)])) _
    refine st5 _ ?_
    show Steps p.tables e below (T5.setTop (mkF m 11 #[.val (.ref a1), .val .null] [])) _
    refine XS.aloadN X5.here hx rfl (hb hby d1_11) rfl rfl ?_
    show Steps p.tables e below (T5.setTop (mkF m 12 #[.val (.ref a1), .val .null] [(.ref a1)])) _
    refine XS.iconst X5.here hx rfl (hb hby d1_12) ?_
    show Steps p.tables e below (T5.setTop (mkF m 13 #[.val (.ref a1), .val .null] [(.int (2 : Int32)), (.ref a1)])) _
    refine st6 _ ?_
    show Steps p.tables e below (T6.setTop (mkF m 15 #[.val (.ref a1), .val .null] [(.ref b7), (.ref a1)])) _
    refine st10 _ ?_
    show Steps p.tables e below (T10.setTop (mkF m 18 #[.val (.ref a1), .val .null] [])) _
    refine XS.aloadN X10.here hx rfl (hb hby d1_18) rfl rfl ?_
    show Steps p.tables e below (T10.setTop (mkF m 19 #[.val (.ref a1), .val .null] [(.ref a1)])) _
    refine XS.aloadN X10.here hx rfl (hb hby d1_19) rfl rfl ?_
    show Steps p.tables e below (T10.setTop (mkF m 20 #[.val (.ref a1), .val .null] [.null, (.ref a1)])) _
    refine st13 _ ?_
    show Steps p.tables e below (T13.setTop (mkF m 23 #[.val (.ref a1), .val .null] [])) _
    exact X13.returnOut hx Bd.returns (hb hby d1_23) hr
  · show Q1_1 Z a1 a3 h0 n0 _ T13.heap _
    rw [e13]
    exact ⟨b7, k6, rfl, N13, K21, q6, z6, F14, Fw13, F15, F16, F17⟩
theorem ef3_1 (m : MethodId) (a1 : Addr) (q2 : Int64) (a4 : Addr) (w6 : ClassId) (a14 : Addr) : entryFrame m #[(.ref a1), (.long q2)] 3 = mkF m 0 #[.val (.ref a1), .val (.long q2), .second] [] := by first | (simp [entryFrame, mkF, argsToLocals, Value.category]; done) | rfl
def Q3_1 (Z : State) (a1 : Addr) (q2 : Int64) (a4 : Addr) (w6 : ClassId) (a14 : Addr) (h0 : Heap) (n0 : Nat) (v : Option Value) (h : Heap) (L : List Loc) : Prop := v = none ∧ Fr n0 L ∧ Keep h0 h [a1, a4] ∧ Fld Z h a1 "com/example/nakazilo/nakazilo/PaymentGroup" "bounds" "I" (.int (1 : Int32)) ∧ Fld Z h a1 "com/example/nakazilo/nakazilo/PaymentGroup" "first" "Ljava/lang/Object;" .null ∧ Fld Z h a1 "com/example/nakazilo/nakazilo/PaymentGroup" "spans" "[J" (.ref a4) ∧ Fld Z h a1 "com/example/nakazilo/nakazilo/PaymentGroup" "total" "Ljava/math/BigDecimal;" (.ref a14) ∧ Arv Z h a4 w6 .long (2 : Int32) [(.long q2), (.long (0 : Int64))] (.long (0 : Int64))
set_option maxRecDepth 65536 in
set_option maxHeartbeats 40000000 in
theorem rm3_1 (l : Launch) (Z : State) (a0 : Array Value) (hw : ∀ d ∈ tables_1, d.before a0 Z = true) (ws : List Jvm.Cond) (a1 : Addr) (q2 : Int64) (a4 : Addr) (w6 : ClassId) (a14 : Addr) (h0 : Heap) (n0 : Nat) (Z0 : n0 ≤ h0.size) (P1 : Fld Z h0 a1 "com/example/nakazilo/nakazilo/PaymentGroup" "bounds" "I" (.int (0 : Int32))) (P2 : Fld Z h0 a1 "com/example/nakazilo/nakazilo/PaymentGroup" "spans" "[J" (.ref a4)) (P3 : Arv Z h0 a4 w6 .long (2 : Int32) [(.long (0 : Int64)), (.long (0 : Int64))] (.long (0 : Int64))) (P4 : Exa Z h0 a1 "com/example/nakazilo/nakazilo/PaymentGroup") (P5 : n0 ≤ a1) (P6 : a4 ≠ a1) (P7 : n0 ≤ a4) (P8 : Fld Z h0 a1 "com/example/nakazilo/nakazilo/PaymentGroup" "total" "Ljava/math/BigDecimal;" (.ref a14)) (P9 : Fld Z h0 a1 "com/example/nakazilo/nakazilo/PaymentGroup" "first" "Ljava/lang/Object;" .null) :
    MetFree l (⟨"com/example/nakazilo/nakazilo/PaymentGroup", "startSpan", "(J)V"⟩ : MethodName) (head1 (Jvm.Cond.code (⟨"com/example/nakazilo/nakazilo/PaymentGroup", "startSpan", "(J)V"⟩ : MethodName) prog_91_method_6_code 3 none :: ws) ({ frames := 0, cells := 0, slots := 0, locals := 0 } : Room)) (fun a U => a = #[(.ref a1), (.long q2)] ∧ Z.Warmed39 U.vm ∧ U.heap = h0) (fun _ _ _ _ _ => True) (fun _ U o U' => ∃ v L, o = .returned v ∧ Q3_1 Z a1 q2 a4 w6 a14 h0 n0 v U'.heap L ∧ FrameEnd U o U' L ({ frames := 0, cells := 0, slots := 0, locals := 0 } : Room).cells ({ frames := 0, cells := 0, slots := 0, locals := 0 } : Room).slots) := by
  refine MetFree.of_bodySF (plainFor_of_name pn_0) hisR ?_
  intro p e s m args below meth c s₁ Bd hml0 hP hK
  obtain ⟨rfl, hZ, hh⟩ := hP
  have hx := Bd.exec
  have hby := Bd.bytes
  have hml : c.maxLocals = 3 := hml0
  have hown : s.vm.findClass "com/example/nakazilo/nakazilo/PaymentGroup" = some m.cls := findClass_of_methodNamed Bd.named
  have hnm := (name_of_methodNamed Bd.named Bd.method).1
  have X0 : Stand p l e ({ frames := 0, cells := 0, slots := 0, locals := 0 } : Room) s m #[(.ref a1), (.long q2)] below meth c s₁ [] 0 0 := Stand.of_body Bd
  have e0 : s₁.heap = h0 := by rw [← hh, Bd.state]; rfl
  have N0 := Fr.nil n0
  have pre0 : ∀ t, Steps p.tables e below (s₁.setTop (mkF m 0 #[.val (.ref a1), .val (.long q2), .second] [])) t → Steps p.tables e below (s₁.setTop (entryFrame m #[(.ref a1), (.long q2)] 3)) t := fun t k => castTop (ef3_1 m a1 q2 a4 w6 a14) k
  obtain ⟨T3, X3, e3, st3⟩ := getF X0 hx hZ hown (host := "") (Or.inl (tw_23 hw)) Via.refl e0 P1 (g := (mkF m 1 #[.val (.ref a1), .val (.long q2), .second] [(.ref a1)])) rfl rfl (hb hby d3_1)
  obtain ⟨T5, X5, e5, st5⟩ := getF X3 hx hZ hown (host := "") (Or.inl (tw_14 hw)) Via.refl e3 P2 (g := (mkF m 7 #[.val (.ref a1), .val (.long q2), .second] [(.ref a1), (.int (2 : Int32))])) rfl rfl (hb hby d3_7)
  obtain ⟨clx7, Arx7, qx7, Sx7, Nx7, Hx7, Gx7⟩ := (id P3)
  obtain ⟨T8, X8, e8, st8⟩ := getF X5 hx hZ hown (host := "") (Or.inl (tw_14 hw)) Via.refl e5 P2 (g := (mkF m 33 #[.val (.ref a1), .val (.long q2), .second] [(.ref a1)])) rfl rfl (hb hby d3_33)
  obtain ⟨T9, X9, e9, st9⟩ := getF X8 hx hZ hown (host := "") (Or.inl (tw_23 hw)) Via.refl e8 P1 (g := (mkF m 38 #[.val (.ref a1), .val (.long q2), .second] [(.ref a1), (.ref a1), (.ref a4)])) rfl rfl (hb hby d3_38)
  obtain ⟨T10, h10, X10, e10, W10, st10⟩ := putF X9 hx hZ hown (host := "") (Or.inl (tw_23 hw)) Via.refl e9 P1 P4 (Or.inl (tw_24 hw)) (tw_1 hw) (ty := .int) (by decide) rfl rfl (g := (mkF m 44 #[.val (.ref a1), .val (.long q2), .second] [(.int (1 : Int32)), (.ref a1), (.int (0 : Int32)), (.ref a4)])) rfl rfl (hb hby d3_44)
  have N10 := Fr.snoc X10 N0 P5
  have Fw10 := Fld.same W10 P1
  have F11 := (Arv.other P3 W10 P6)
  obtain ⟨clx12, Arx12, qx12, Sx12, Nx12, Hx12, Gx12⟩ := (id F11)
  have hinx12 : ¬ ((0 : Int32) < 0 ∨ clx12.slots.size ≤ ((0 : Int32)).toNatClampNeg) := inb_of Sx12 ⟨by decide, by decide⟩
  obtain ⟨T13, h13, X13, e13, W13, st13⟩ := stJ X10 hx hZ e10 Arx12 (j := (0 : Int32)) hinx12 (g := (mkF m 48 #[.val (.ref a1), .val (.long q2), .second] [(.long q2), (.int (0 : Int32)), (.ref a4)])) rfl rfl (hb hby d3_48)
  have N13 := Fr.snoc X13 N10 P7
  have V13 : Arv Z h13 a4 w6 .long (2 : Int32) [(.long q2), (.long (0 : Int64))] (.long (0 : Int64)) := Arv.set Arx12 qx12 Sx12 Nx12 Hx12 Gx12 rfl W13 0 rfl (Nat.le_of_ble_eq_true rfl)
  have F15 := (Fld.other W13 Fw10 (Or.inl (Ne.symm P6)))
  have F16 := (Fld.other W13 (Fld.other W10 P9 (Or.inr (slot_ne (Or.inr (tw_17 hw)) (Or.inl (tw_24 hw)) (by decide) (t := (.object "java/lang/Object")) (t' := .int) (by decide) (by decide)))) (Or.inl (Ne.symm P6)))
  have F17 := (Fld.other W13 (Fld.other W10 P2 (Or.inr (slot_ne (Or.inl (tw_15 hw)) (Or.inl (tw_24 hw)) (by decide) (t := (.array .long)) (t' := .int) (by decide) (by decide)))) (Or.inl (Ne.symm P6)))
  have F18 := (Fld.other W13 (Fld.other W10 P8 (Or.inr (slot_ne (Or.inl (tw_12 hw)) (Or.inl (tw_24 hw)) (by decide) (t := (.object "java/math/BigDecimal")) (t' := .int) (by decide) (by decide)))) (Or.inl (Ne.symm P6)))
  have K19 := (Keep.refl h0 [a1, a4]).wr W10 (Or.inl (List.mem_of_getElem? (i := 0) rfl))
  have K20 := K19.wr W13 (Or.inl (List.mem_of_getElem? (i := 1) rfl))
  obtain ⟨fs, hr, hrun, hended, hW, hsame⟩ := X13.leave (v := none) (fun _ => rfl)
  refine ⟨_, _, pre0 _ ?_, hrun, hended, _, _, rfl, ?_, ⟨_, rfl⟩, hW, hsame.mono (by decide) (by decide)⟩
  · show Steps p.tables e below (s₁.setTop (mkF m 0 #[.val (.ref a1), .val (.long q2), .second] [])) _
    refine XS.aloadN X0.here hx rfl (hb hby d3_0) rfl rfl ?_
    show Steps p.tables e below (s₁.setTop (mkF m 1 #[.val (.ref a1), .val (.long q2), .second] [(.ref a1)])) _
    refine st3 _ ?_
    show Steps p.tables e below (T3.setTop (mkF m 4 #[.val (.ref a1), .val (.long q2), .second] [(.int (0 : Int32))])) _
    refine XS.iconst X3.here hx rfl (hb hby d3_4) ?_
    show Steps p.tables e below (T3.setTop (mkF m 5 #[.val (.ref a1), .val (.long q2), .second] [(.int (2 : Int32)), (.int (0 : Int32))])) _
    refine XS.iadd X3.here hx rfl (hb hby d3_5) rfl ?_
    show Steps p.tables e below (T3.setTop (mkF m 6 #[.val (.ref a1), .val (.long q2), .second] [(.int ((0 : Int32) + (2 : Int32)))])) _
    rw [show ((0 : Int32) + (2 : Int32)) = (2 : Int32) from by decide]
    show Steps p.tables e below (T3.setTop (mkF m 6 #[.val (.ref a1), .val (.long q2), .second] [(.int (2 : Int32))])) _
    refine XS.aloadN X3.here hx rfl (hb hby d3_6) rfl rfl ?_
    show Steps p.tables e below (T3.setTop (mkF m 7 #[.val (.ref a1), .val (.long q2), .second] [(.ref a1), (.int (2 : Int32))])) _
    refine st5 _ ?_
    show Steps p.tables e below (T5.setTop (mkF m 10 #[.val (.ref a1), .val (.long q2), .second] [(.ref a4), (.int (2 : Int32))])) _
    refine X5.arraylength hx (by rw [e5]; exact Arx7.1) (State.isArrayOf_alike hZ.alike Arx7.2.1) (g := (mkF m 10 #[.val (.ref a1), .val (.long q2), .second] [(.ref a4), (.int (2 : Int32))])) rfl rfl (hb hby d3_10) _ ?_
    rw [len_of Sx7 Nx7]
    show Steps p.tables e below (T5.setTop (mkF m 11 #[.val (.ref a1), .val (.long q2), .second] [(.int (2 : Int32)), (.int (2 : Int32))])) _
    refine XS.icmpYes X5.here hx rfl (pc0 := 11) (pc' := 32) rfl (hb hby d3_11) rfl (flt (by decide : ¬ ((2 : Int32) < (2 : Int32)))).2.2.2 (by decide) (by decide) ?_
    show Steps p.tables e below (T5.setTop (mkF m 32 #[.val (.ref a1), .val (.long q2), .second] [])) _
    refine XS.aloadN X5.here hx rfl (hb hby d3_32) rfl rfl ?_
    show Steps p.tables e below (T5.setTop (mkF m 33 #[.val (.ref a1), .val (.long q2), .second] [(.ref a1)])) _
    refine st8 _ ?_
    show Steps p.tables e below (T8.setTop (mkF m 36 #[.val (.ref a1), .val (.long q2), .second] [(.ref a4)])) _
    refine XS.aloadN X8.here hx rfl (hb hby d3_36) rfl rfl ?_
    show Steps p.tables e below (T8.setTop (mkF m 37 #[.val (.ref a1), .val (.long q2), .second] [(.ref a1), (.ref a4)])) _
    refine XS.dup X8.here hx rfl (hb hby d3_37) rfl rfl ?_
    show Steps p.tables e below (T8.setTop (mkF m 38 #[.val (.ref a1), .val (.long q2), .second] [(.ref a1), (.ref a1), (.ref a4)])) _
    refine st9 _ ?_
    show Steps p.tables e below (T9.setTop (mkF m 41 #[.val (.ref a1), .val (.long q2), .second] [(.int (0 : Int32)), (.ref a1), (.ref a4)])) _
    refine XS.dupX1 X9.here hx rfl (hb hby d3_41) rfl rfl rfl ?_
    show Steps p.tables e below (T9.setTop (mkF m 42 #[.val (.ref a1), .val (.long q2), .second] [(.int (0 : Int32)), (.ref a1), (.int (0 : Int32)), (.ref a4)])) _
    refine XS.iconst X9.here hx rfl (hb hby d3_42) ?_
    show Steps p.tables e below (T9.setTop (mkF m 43 #[.val (.ref a1), .val (.long q2), .second] [(.int (1 : Int32)), (.int (0 : Int32)), (.ref a1), (.int (0 : Int32)), (.ref a4)])) _
    refine XS.iadd X9.here hx rfl (hb hby d3_43) rfl ?_
    show Steps p.tables e below (T9.setTop (mkF m 44 #[.val (.ref a1), .val (.long q2), .second] [(.int ((0 : Int32) + (1 : Int32))), (.ref a1), (.int (0 : Int32)), (.ref a4)])) _
    rw [show ((0 : Int32) + (1 : Int32)) = (1 : Int32) from by decide]
    show Steps p.tables e below (T9.setTop (mkF m 44 #[.val (.ref a1), .val (.long q2), .second] [(.int (1 : Int32)), (.ref a1), (.int (0 : Int32)), (.ref a4)])) _
    refine st10 _ ?_
    show Steps p.tables e below (T10.setTop (mkF m 47 #[.val (.ref a1), .val (.long q2), .second] [(.int (0 : Int32)), (.ref a4)])) _
    refine XS.lloadN X10.here hx rfl (hb hby d3_47) rfl ?_
    show Steps p.tables e below (T10.setTop (mkF m 48 #[.val (.ref a1), .val (.long q2), .second] [(.long q2), (.int (0 : Int32)), (.ref a4)])) _
    refine st13 _ ?_
    show Steps p.tables e below (T13.setTop (mkF m 49 #[.val (.ref a1), .val (.long q2), .second] [])) _
    exact X13.returnOut hx Bd.returns (hb hby d3_49) hr
  · show Q3_1 Z a1 q2 a4 w6 a14 h0 n0 _ T13.heap _
    rw [e13]
    exact ⟨rfl, N13, K20, F15, F16, F17, F18, V13⟩
theorem ef4_1 (m : MethodId) (a1 : Addr) (q2 : Int64) (a3 : Addr) (w7 : ClassId) (q8 : Int64) (a12 : Addr) : entryFrame m #[(.ref a1), (.long q2)] 3 = mkF m 0 #[.val (.ref a1), .val (.long q2), .second] [] := by first | (simp [entryFrame, mkF, argsToLocals, Value.category]; done) | rfl
def Q4_1 (Z : State) (a1 : Addr) (q2 : Int64) (a3 : Addr) (w7 : ClassId) (q8 : Int64) (a12 : Addr) (h0 : Heap) (n0 : Nat) (v : Option Value) (h : Heap) (L : List Loc) : Prop := v = none ∧ Fr n0 L ∧ Keep h0 h [a1, a3] ∧ Fld Z h a1 "com/example/nakazilo/nakazilo/PaymentGroup" "bounds" "I" (.int (2 : Int32)) ∧ Fld Z h a1 "com/example/nakazilo/nakazilo/PaymentGroup" "first" "Ljava/lang/Object;" .null ∧ Fld Z h a1 "com/example/nakazilo/nakazilo/PaymentGroup" "spans" "[J" (.ref a3) ∧ Fld Z h a1 "com/example/nakazilo/nakazilo/PaymentGroup" "total" "Ljava/math/BigDecimal;" (.ref a12) ∧ Arv Z h a3 w7 .long (2 : Int32) [(.long q8), (.long q2)] (.long (0 : Int64))
set_option maxRecDepth 65536 in
set_option maxHeartbeats 40000000 in
theorem rm4_1 (l : Launch) (Z : State) (a0 : Array Value) (hw : ∀ d ∈ tables_1, d.before a0 Z = true) (ws : List Jvm.Cond) (a1 : Addr) (q2 : Int64) (a3 : Addr) (w7 : ClassId) (q8 : Int64) (a12 : Addr) (h0 : Heap) (n0 : Nat) (Z0 : n0 ≤ h0.size) (P1 : Fld Z h0 a1 "com/example/nakazilo/nakazilo/PaymentGroup" "spans" "[J" (.ref a3)) (P2 : Fld Z h0 a1 "com/example/nakazilo/nakazilo/PaymentGroup" "bounds" "I" (.int (1 : Int32))) (P3 : Exa Z h0 a1 "com/example/nakazilo/nakazilo/PaymentGroup") (P4 : n0 ≤ a1) (P5 : Arv Z h0 a3 w7 .long (2 : Int32) [(.long q8), (.long (0 : Int64))] (.long (0 : Int64))) (P6 : a3 ≠ a1) (P7 : n0 ≤ a3) (P8 : Fld Z h0 a1 "com/example/nakazilo/nakazilo/PaymentGroup" "total" "Ljava/math/BigDecimal;" (.ref a12)) (P9 : Fld Z h0 a1 "com/example/nakazilo/nakazilo/PaymentGroup" "first" "Ljava/lang/Object;" .null) :
    MetFree l (⟨"com/example/nakazilo/nakazilo/PaymentGroup", "endSpan", "(J)V"⟩ : MethodName) (head1 (Jvm.Cond.code (⟨"com/example/nakazilo/nakazilo/PaymentGroup", "endSpan", "(J)V"⟩ : MethodName) prog_91_method_7_code 3 none :: ws) ({ frames := 0, cells := 0, slots := 0, locals := 0 } : Room)) (fun a U => a = #[(.ref a1), (.long q2)] ∧ Z.Warmed39 U.vm ∧ U.heap = h0) (fun _ _ _ _ _ => True) (fun _ U o U' => ∃ v L, o = .returned v ∧ Q4_1 Z a1 q2 a3 w7 q8 a12 h0 n0 v U'.heap L ∧ FrameEnd U o U' L ({ frames := 0, cells := 0, slots := 0, locals := 0 } : Room).cells ({ frames := 0, cells := 0, slots := 0, locals := 0 } : Room).slots) := by
  refine MetFree.of_bodySF (plainFor_of_name pn_0) hisR ?_
  intro p e s m args below meth c s₁ Bd hml0 hP hK
  obtain ⟨rfl, hZ, hh⟩ := hP
  have hx := Bd.exec
  have hby := Bd.bytes
  have hml : c.maxLocals = 3 := hml0
  have hown : s.vm.findClass "com/example/nakazilo/nakazilo/PaymentGroup" = some m.cls := findClass_of_methodNamed Bd.named
  have hnm := (name_of_methodNamed Bd.named Bd.method).1
  have X0 : Stand p l e ({ frames := 0, cells := 0, slots := 0, locals := 0 } : Room) s m #[(.ref a1), (.long q2)] below meth c s₁ [] 0 0 := Stand.of_body Bd
  have e0 : s₁.heap = h0 := by rw [← hh, Bd.state]; rfl
  have N0 := Fr.nil n0
  have pre0 : ∀ t, Steps p.tables e below (s₁.setTop (mkF m 0 #[.val (.ref a1), .val (.long q2), .second] [])) t → Steps p.tables e below (s₁.setTop (entryFrame m #[(.ref a1), (.long q2)] 3)) t := fun t k => castTop (ef4_1 m a1 q2 a3 w7 q8 a12) k
  obtain ⟨T4, X4, e4, st4⟩ := getF X0 hx hZ hown (host := "") (Or.inl (tw_14 hw)) Via.refl e0 P1 (g := (mkF m 1 #[.val (.ref a1), .val (.long q2), .second] [(.ref a1)])) rfl rfl (hb hby d4_1)
  obtain ⟨T5, X5, e5, st5⟩ := getF X4 hx hZ hown (host := "") (Or.inl (tw_23 hw)) Via.refl e4 P2 (g := (mkF m 6 #[.val (.ref a1), .val (.long q2), .second] [(.ref a1), (.ref a1), (.ref a3)])) rfl rfl (hb hby d4_6)
  obtain ⟨T6, h6, X6, e6, W6, st6⟩ := putF X5 hx hZ hown (host := "") (Or.inl (tw_23 hw)) Via.refl e5 P2 P3 (Or.inl (tw_24 hw)) (tw_1 hw) (ty := .int) (by decide) rfl rfl (g := (mkF m 12 #[.val (.ref a1), .val (.long q2), .second] [(.int (2 : Int32)), (.ref a1), (.int (1 : Int32)), (.ref a3)])) rfl rfl (hb hby d4_12)
  have N6 := Fr.snoc X6 N0 P4
  have Fw6 := Fld.same W6 P2
  have F9 := (Arv.other P5 W6 P6)
  obtain ⟨clx10, Arx10, qx10, Sx10, Nx10, Hx10, Gx10⟩ := (id F9)
  have hinx10 : ¬ ((1 : Int32) < 0 ∨ clx10.slots.size ≤ ((1 : Int32)).toNatClampNeg) := inb_of Sx10 ⟨by decide, by decide⟩
  obtain ⟨T11, h11, X11, e11, W11, st11⟩ := stJ X6 hx hZ e6 Arx10 (j := (1 : Int32)) hinx10 (g := (mkF m 16 #[.val (.ref a1), .val (.long q2), .second] [(.long q2), (.int (1 : Int32)), (.ref a3)])) rfl rfl (hb hby d4_16)
  have N11 := Fr.snoc X11 N6 P7
  have V11 : Arv Z h11 a3 w7 .long (2 : Int32) [(.long q8), (.long q2)] (.long (0 : Int64)) := Arv.set Arx10 qx10 Sx10 Nx10 Hx10 Gx10 rfl W11 1 rfl (Nat.le_of_ble_eq_true rfl)
  have F13 := (Fld.other W11 Fw6 (Or.inl (Ne.symm P6)))
  have F14 := (Fld.other W11 (Fld.other W6 P9 (Or.inr (slot_ne (Or.inr (tw_17 hw)) (Or.inl (tw_24 hw)) (by decide) (t := (.object "java/lang/Object")) (t' := .int) (by decide) (by decide)))) (Or.inl (Ne.symm P6)))
  have F15 := (Fld.other W11 (Fld.other W6 P1 (Or.inr (slot_ne (Or.inl (tw_15 hw)) (Or.inl (tw_24 hw)) (by decide) (t := (.array .long)) (t' := .int) (by decide) (by decide)))) (Or.inl (Ne.symm P6)))
  have F16 := (Fld.other W11 (Fld.other W6 P8 (Or.inr (slot_ne (Or.inl (tw_12 hw)) (Or.inl (tw_24 hw)) (by decide) (t := (.object "java/math/BigDecimal")) (t' := .int) (by decide) (by decide)))) (Or.inl (Ne.symm P6)))
  have K17 := (Keep.refl h0 [a1, a3]).wr W6 (Or.inl (List.mem_of_getElem? (i := 0) rfl))
  have K18 := K17.wr W11 (Or.inl (List.mem_of_getElem? (i := 1) rfl))
  obtain ⟨fs, hr, hrun, hended, hW, hsame⟩ := X11.leave (v := none) (fun _ => rfl)
  refine ⟨_, _, pre0 _ ?_, hrun, hended, _, _, rfl, ?_, ⟨_, rfl⟩, hW, hsame.mono (by decide) (by decide)⟩
  · show Steps p.tables e below (s₁.setTop (mkF m 0 #[.val (.ref a1), .val (.long q2), .second] [])) _
    refine XS.aloadN X0.here hx rfl (hb hby d4_0) rfl rfl ?_
    show Steps p.tables e below (s₁.setTop (mkF m 1 #[.val (.ref a1), .val (.long q2), .second] [(.ref a1)])) _
    refine st4 _ ?_
    show Steps p.tables e below (T4.setTop (mkF m 4 #[.val (.ref a1), .val (.long q2), .second] [(.ref a3)])) _
    refine XS.aloadN X4.here hx rfl (hb hby d4_4) rfl rfl ?_
    show Steps p.tables e below (T4.setTop (mkF m 5 #[.val (.ref a1), .val (.long q2), .second] [(.ref a1), (.ref a3)])) _
    refine XS.dup X4.here hx rfl (hb hby d4_5) rfl rfl ?_
    show Steps p.tables e below (T4.setTop (mkF m 6 #[.val (.ref a1), .val (.long q2), .second] [(.ref a1), (.ref a1), (.ref a3)])) _
    refine st5 _ ?_
    show Steps p.tables e below (T5.setTop (mkF m 9 #[.val (.ref a1), .val (.long q2), .second] [(.int (1 : Int32)), (.ref a1), (.ref a3)])) _
    refine XS.dupX1 X5.here hx rfl (hb hby d4_9) rfl rfl rfl ?_
    show Steps p.tables e below (T5.setTop (mkF m 10 #[.val (.ref a1), .val (.long q2), .second] [(.int (1 : Int32)), (.ref a1), (.int (1 : Int32)), (.ref a3)])) _
    refine XS.iconst X5.here hx rfl (hb hby d4_10) ?_
    show Steps p.tables e below (T5.setTop (mkF m 11 #[.val (.ref a1), .val (.long q2), .second] [(.int (1 : Int32)), (.int (1 : Int32)), (.ref a1), (.int (1 : Int32)), (.ref a3)])) _
    refine XS.iadd X5.here hx rfl (hb hby d4_11) rfl ?_
    show Steps p.tables e below (T5.setTop (mkF m 12 #[.val (.ref a1), .val (.long q2), .second] [(.int ((1 : Int32) + (1 : Int32))), (.ref a1), (.int (1 : Int32)), (.ref a3)])) _
    rw [show ((1 : Int32) + (1 : Int32)) = (2 : Int32) from by decide]
    show Steps p.tables e below (T5.setTop (mkF m 12 #[.val (.ref a1), .val (.long q2), .second] [(.int (2 : Int32)), (.ref a1), (.int (1 : Int32)), (.ref a3)])) _
    refine st6 _ ?_
    show Steps p.tables e below (T6.setTop (mkF m 15 #[.val (.ref a1), .val (.long q2), .second] [(.int (1 : Int32)), (.ref a3)])) _
    refine XS.lloadN X6.here hx rfl (hb hby d4_15) rfl ?_
    show Steps p.tables e below (T6.setTop (mkF m 16 #[.val (.ref a1), .val (.long q2), .second] [(.long q2), (.int (1 : Int32)), (.ref a3)])) _
    refine st11 _ ?_
    show Steps p.tables e below (T11.setTop (mkF m 17 #[.val (.ref a1), .val (.long q2), .second] [])) _
    exact X11.returnOut hx Bd.returns (hb hby d4_17) hr
  · show Q4_1 Z a1 q2 a3 w7 q8 a12 h0 n0 _ T11.heap _
    rw [e11]
    exact ⟨rfl, N11, K18, F13, F14, F15, F16, V11⟩
theorem ef5_1 (m : MethodId) (a1 : Addr) (a2 : Addr) (w4 : ClassId) (q5 : Int64) (q6 : Int64) : entryFrame m #[(.ref a1), (.int (0 : Int32))] 2 = mkF m 0 #[.val (.ref a1), .val (.int (0 : Int32))] [] := by first | (simp [entryFrame, mkF, argsToLocals, Value.category]; done) | rfl
def Q5_1 (Z : State) (a1 : Addr) (a2 : Addr) (w4 : ClassId) (q5 : Int64) (q6 : Int64) (h0 : Heap) (n0 : Nat) (v : Option Value) (h : Heap) (L : List Loc) : Prop := v = some (.long q5) ∧ Fr n0 L ∧ h = h0
set_option maxRecDepth 65536 in
set_option maxHeartbeats 40000000 in
theorem rm5_1 (l : Launch) (Z : State) (a0 : Array Value) (hw : ∀ d ∈ tables_1, d.before a0 Z = true) (ws : List Jvm.Cond) (a1 : Addr) (a2 : Addr) (w4 : ClassId) (q5 : Int64) (q6 : Int64) (h0 : Heap) (n0 : Nat) (Z0 : n0 ≤ h0.size) (P1 : Fld Z h0 a1 "com/example/nakazilo/nakazilo/PaymentGroup" "spans" "[J" (.ref a2)) (P2 : Arv Z h0 a2 w4 .long (2 : Int32) [(.long q5), (.long q6)] (.long (0 : Int64))) :
    MetFree l (⟨"com/example/nakazilo/nakazilo/PaymentGroup", "spanStart", "(I)J"⟩ : MethodName) (head1 (Jvm.Cond.code (⟨"com/example/nakazilo/nakazilo/PaymentGroup", "spanStart", "(I)J"⟩ : MethodName) prog_91_method_9_code 2 (some .long) :: ws) ({ frames := 0, cells := 0, slots := 0, locals := 0 } : Room)) (fun a U => a = #[(.ref a1), (.int (0 : Int32))] ∧ Z.Warmed39 U.vm ∧ U.heap = h0) (fun _ _ _ _ _ => True) (fun _ U o U' => ∃ v L, o = .returned v ∧ Q5_1 Z a1 a2 w4 q5 q6 h0 n0 v U'.heap L ∧ FrameEnd U o U' L ({ frames := 0, cells := 0, slots := 0, locals := 0 } : Room).cells ({ frames := 0, cells := 0, slots := 0, locals := 0 } : Room).slots) := by
  refine MetFree.of_bodySF (plainFor_of_name pn_0) hisR ?_
  intro p e s m args below meth c s₁ Bd hml0 hP hK
  obtain ⟨rfl, hZ, hh⟩ := hP
  have hx := Bd.exec
  have hby := Bd.bytes
  have hml : c.maxLocals = 2 := hml0
  have hown : s.vm.findClass "com/example/nakazilo/nakazilo/PaymentGroup" = some m.cls := findClass_of_methodNamed Bd.named
  have hnm := (name_of_methodNamed Bd.named Bd.method).1
  have X0 : Stand p l e ({ frames := 0, cells := 0, slots := 0, locals := 0 } : Room) s m #[(.ref a1), (.int (0 : Int32))] below meth c s₁ [] 0 0 := Stand.of_body Bd
  have e0 : s₁.heap = h0 := by rw [← hh, Bd.state]; rfl
  have N0 := Fr.nil n0
  have pre0 : ∀ t, Steps p.tables e below (s₁.setTop (mkF m 0 #[.val (.ref a1), .val (.int (0 : Int32))] [])) t → Steps p.tables e below (s₁.setTop (entryFrame m #[(.ref a1), (.int (0 : Int32))] 2)) t := fun t k => castTop (ef5_1 m a1 a2 w4 q5 q6) k
  obtain ⟨T3, X3, e3, st3⟩ := getF X0 hx hZ hown (host := "") (Or.inl (tw_14 hw)) Via.refl e0 P1 (g := (mkF m 1 #[.val (.ref a1), .val (.int (0 : Int32))] [(.ref a1)])) rfl rfl (hb hby d5_1)
  obtain ⟨clx7, Arx7, qx7, Sx7, Nx7, Hx7, Gx7⟩ := (id P2)
  have hinx7 : ¬ ((0 : Int32) < 0 ∨ clx7.slots.size ≤ ((0 : Int32)).toNatClampNeg) := inb_of Sx7 ⟨by decide, by decide⟩
  have hatx7 : clx7.slots[((0 : Int32)).toNatClampNeg]? = some (.long q5) := Has.at Hx7 hinx7 rfl
  obtain ⟨fs, hr, hrun, hended, hW, hsame⟩ := X3.leave (v := some (.long q5)) (fun h => by rw [Bd.returns] at h; cases h)
  refine ⟨_, _, pre0 _ ?_, hrun, hended, _, _, rfl, ?_, ⟨_, rfl⟩, hW, hsame.mono (by decide) (by decide)⟩
  · show Steps p.tables e below (s₁.setTop (mkF m 0 #[.val (.ref a1), .val (.int (0 : Int32))] [])) _
    refine XS.aloadN X0.here hx rfl (hb hby d5_0) rfl rfl ?_
    show Steps p.tables e below (s₁.setTop (mkF m 1 #[.val (.ref a1), .val (.int (0 : Int32))] [(.ref a1)])) _
    refine st3 _ ?_
    show Steps p.tables e below (T3.setTop (mkF m 4 #[.val (.ref a1), .val (.int (0 : Int32))] [(.ref a2)])) _
    refine XS.iconst X3.here hx rfl (hb hby d5_4) ?_
    show Steps p.tables e below (T3.setTop (mkF m 5 #[.val (.ref a1), .val (.int (0 : Int32))] [(.int (2 : Int32)), (.ref a2)])) _
    refine XS.iloadN X3.here hx rfl (hb hby d5_5) rfl ?_
    show Steps p.tables e below (T3.setTop (mkF m 6 #[.val (.ref a1), .val (.int (0 : Int32))] [(.int (0 : Int32)), (.int (2 : Int32)), (.ref a2)])) _
    refine XS.imul X3.here hx rfl (hb hby d5_6) rfl ?_
    show Steps p.tables e below (T3.setTop (mkF m 7 #[.val (.ref a1), .val (.int (0 : Int32))] [(.int ((2 : Int32) * (0 : Int32))), (.ref a2)])) _
    rw [show ((2 : Int32) * (0 : Int32)) = (0 : Int32) from by decide]
    show Steps p.tables e below (T3.setTop (mkF m 7 #[.val (.ref a1), .val (.int (0 : Int32))] [(.int (0 : Int32)), (.ref a2)])) _
    refine X3.laload hx (j := (0 : Int32)) (v := (.long q5)) (by rw [e3]; exact Arx7.1) (State.isArrayOf_alike hZ.alike Arx7.2.1) Arx7.2.2 hinx7 hatx7 (g := (mkF m 7 #[.val (.ref a1), .val (.int (0 : Int32))] [(.int (0 : Int32)), (.ref a2)])) rfl rfl (hb hby d5_7) _ ?_
    show Steps p.tables e below (T3.setTop (mkF m 8 #[.val (.ref a1), .val (.int (0 : Int32))] [(.long q5)])) _
    jvm_step X3.here [X3.here.top, hx, (hb hby d5_8), X3.method', Bd.returns, narrow]
    first | (intro acts; rw [hr _ acts rfl rfl rfl]) | rw [hr _ _ rfl rfl rfl]
    exact Steps.refl _
  · show Q5_1 Z a1 a2 w4 q5 q6 h0 n0 _ T3.heap _
    rw [e3]
    exact ⟨rfl, N0, rfl⟩
theorem ef6_1 (m : MethodId) (a1 : Addr) (a2 : Addr) (w4 : ClassId) (q5 : Int64) (q6 : Int64) : entryFrame m #[(.ref a1), (.int (0 : Int32))] 2 = mkF m 0 #[.val (.ref a1), .val (.int (0 : Int32))] [] := by first | (simp [entryFrame, mkF, argsToLocals, Value.category]; done) | rfl
def Q6_1 (Z : State) (a1 : Addr) (a2 : Addr) (w4 : ClassId) (q5 : Int64) (q6 : Int64) (h0 : Heap) (n0 : Nat) (v : Option Value) (h : Heap) (L : List Loc) : Prop := v = some (.long q6) ∧ Fr n0 L ∧ h = h0
set_option maxRecDepth 65536 in
set_option maxHeartbeats 40000000 in
theorem rm6_1 (l : Launch) (Z : State) (a0 : Array Value) (hw : ∀ d ∈ tables_1, d.before a0 Z = true) (ws : List Jvm.Cond) (a1 : Addr) (a2 : Addr) (w4 : ClassId) (q5 : Int64) (q6 : Int64) (h0 : Heap) (n0 : Nat) (Z0 : n0 ≤ h0.size) (P1 : Fld Z h0 a1 "com/example/nakazilo/nakazilo/PaymentGroup" "spans" "[J" (.ref a2)) (P2 : Arv Z h0 a2 w4 .long (2 : Int32) [(.long q5), (.long q6)] (.long (0 : Int64))) :
    MetFree l (⟨"com/example/nakazilo/nakazilo/PaymentGroup", "spanEnd", "(I)J"⟩ : MethodName) (head1 (Jvm.Cond.code (⟨"com/example/nakazilo/nakazilo/PaymentGroup", "spanEnd", "(I)J"⟩ : MethodName) prog_91_method_10_code 2 (some .long) :: ws) ({ frames := 0, cells := 0, slots := 0, locals := 0 } : Room)) (fun a U => a = #[(.ref a1), (.int (0 : Int32))] ∧ Z.Warmed39 U.vm ∧ U.heap = h0) (fun _ _ _ _ _ => True) (fun _ U o U' => ∃ v L, o = .returned v ∧ Q6_1 Z a1 a2 w4 q5 q6 h0 n0 v U'.heap L ∧ FrameEnd U o U' L ({ frames := 0, cells := 0, slots := 0, locals := 0 } : Room).cells ({ frames := 0, cells := 0, slots := 0, locals := 0 } : Room).slots) := by
  refine MetFree.of_bodySF (plainFor_of_name pn_0) hisR ?_
  intro p e s m args below meth c s₁ Bd hml0 hP hK
  obtain ⟨rfl, hZ, hh⟩ := hP
  have hx := Bd.exec
  have hby := Bd.bytes
  have hml : c.maxLocals = 2 := hml0
  have hown : s.vm.findClass "com/example/nakazilo/nakazilo/PaymentGroup" = some m.cls := findClass_of_methodNamed Bd.named
  have hnm := (name_of_methodNamed Bd.named Bd.method).1
  have X0 : Stand p l e ({ frames := 0, cells := 0, slots := 0, locals := 0 } : Room) s m #[(.ref a1), (.int (0 : Int32))] below meth c s₁ [] 0 0 := Stand.of_body Bd
  have e0 : s₁.heap = h0 := by rw [← hh, Bd.state]; rfl
  have N0 := Fr.nil n0
  have pre0 : ∀ t, Steps p.tables e below (s₁.setTop (mkF m 0 #[.val (.ref a1), .val (.int (0 : Int32))] [])) t → Steps p.tables e below (s₁.setTop (entryFrame m #[(.ref a1), (.int (0 : Int32))] 2)) t := fun t k => castTop (ef6_1 m a1 a2 w4 q5 q6) k
  obtain ⟨T3, X3, e3, st3⟩ := getF X0 hx hZ hown (host := "") (Or.inl (tw_14 hw)) Via.refl e0 P1 (g := (mkF m 1 #[.val (.ref a1), .val (.int (0 : Int32))] [(.ref a1)])) rfl rfl (hb hby d6_1)
  obtain ⟨clx7, Arx7, qx7, Sx7, Nx7, Hx7, Gx7⟩ := (id P2)
  have hinx7 : ¬ ((1 : Int32) < 0 ∨ clx7.slots.size ≤ ((1 : Int32)).toNatClampNeg) := inb_of Sx7 ⟨by decide, by decide⟩
  have hatx7 : clx7.slots[((1 : Int32)).toNatClampNeg]? = some (.long q6) := Has.at Hx7 hinx7 rfl
  obtain ⟨fs, hr, hrun, hended, hW, hsame⟩ := X3.leave (v := some (.long q6)) (fun h => by rw [Bd.returns] at h; cases h)
  refine ⟨_, _, pre0 _ ?_, hrun, hended, _, _, rfl, ?_, ⟨_, rfl⟩, hW, hsame.mono (by decide) (by decide)⟩
  · show Steps p.tables e below (s₁.setTop (mkF m 0 #[.val (.ref a1), .val (.int (0 : Int32))] [])) _
    refine XS.aloadN X0.here hx rfl (hb hby d6_0) rfl rfl ?_
    show Steps p.tables e below (s₁.setTop (mkF m 1 #[.val (.ref a1), .val (.int (0 : Int32))] [(.ref a1)])) _
    refine st3 _ ?_
    show Steps p.tables e below (T3.setTop (mkF m 4 #[.val (.ref a1), .val (.int (0 : Int32))] [(.ref a2)])) _
    refine XS.iconst X3.here hx rfl (hb hby d6_4) ?_
    show Steps p.tables e below (T3.setTop (mkF m 5 #[.val (.ref a1), .val (.int (0 : Int32))] [(.int (2 : Int32)), (.ref a2)])) _
    refine XS.iloadN X3.here hx rfl (hb hby d6_5) rfl ?_
    show Steps p.tables e below (T3.setTop (mkF m 6 #[.val (.ref a1), .val (.int (0 : Int32))] [(.int (0 : Int32)), (.int (2 : Int32)), (.ref a2)])) _
    refine XS.imul X3.here hx rfl (hb hby d6_6) rfl ?_
    show Steps p.tables e below (T3.setTop (mkF m 7 #[.val (.ref a1), .val (.int (0 : Int32))] [(.int ((2 : Int32) * (0 : Int32))), (.ref a2)])) _
    rw [show ((2 : Int32) * (0 : Int32)) = (0 : Int32) from by decide]
    show Steps p.tables e below (T3.setTop (mkF m 7 #[.val (.ref a1), .val (.int (0 : Int32))] [(.int (0 : Int32)), (.ref a2)])) _
    refine XS.iconst X3.here hx rfl (hb hby d6_7) ?_
    show Steps p.tables e below (T3.setTop (mkF m 8 #[.val (.ref a1), .val (.int (0 : Int32))] [(.int (1 : Int32)), (.int (0 : Int32)), (.ref a2)])) _
    refine XS.iadd X3.here hx rfl (hb hby d6_8) rfl ?_
    show Steps p.tables e below (T3.setTop (mkF m 9 #[.val (.ref a1), .val (.int (0 : Int32))] [(.int ((0 : Int32) + (1 : Int32))), (.ref a2)])) _
    rw [show ((0 : Int32) + (1 : Int32)) = (1 : Int32) from by decide]
    show Steps p.tables e below (T3.setTop (mkF m 9 #[.val (.ref a1), .val (.int (0 : Int32))] [(.int (1 : Int32)), (.ref a2)])) _
    refine X3.laload hx (j := (1 : Int32)) (v := (.long q6)) (by rw [e3]; exact Arx7.1) (State.isArrayOf_alike hZ.alike Arx7.2.1) Arx7.2.2 hinx7 hatx7 (g := (mkF m 9 #[.val (.ref a1), .val (.int (0 : Int32))] [(.int (1 : Int32)), (.ref a2)])) rfl rfl (hb hby d6_9) _ ?_
    show Steps p.tables e below (T3.setTop (mkF m 10 #[.val (.ref a1), .val (.int (0 : Int32))] [(.long q6)])) _
    jvm_step X3.here [X3.here.top, hx, (hb hby d6_10), X3.method', Bd.returns, narrow]
    first | (intro acts; rw [hr _ acts rfl rfl rfl]) | rw [hr _ _ rfl rfl rfl]
    exact Steps.refl _
  · show Q6_1 Z a1 a2 w4 q5 q6 h0 n0 _ T3.heap _
    rw [e3]
    exact ⟨rfl, N0, rfl⟩
theorem ef8_1 (m : MethodId)  : entryFrame m #[(.int (2 : Int32)), (.int (4 : Int32))] 2 = mkF m 0 #[.val (.int (2 : Int32)), .val (.int (4 : Int32))] [] := by first | (simp [entryFrame, mkF, argsToLocals, Value.category]; done) | rfl
def Q8_1 (Z : State)  (h0 : Heap) (n0 : Nat) (v : Option Value) (h : Heap) (L : List Loc) : Prop := v = some (.int (2 : Int32)) ∧ Fr n0 L ∧ h = h0
set_option maxRecDepth 65536 in
set_option maxHeartbeats 40000000 in
theorem rm8_1 (l : Launch) (Z : State) (a0 : Array Value) (hw : ∀ d ∈ tables_1, d.before a0 Z = true) (ws : List Jvm.Cond)  (h0 : Heap) (n0 : Nat) (Z0 : n0 ≤ h0.size) :
    MetFree l (⟨"java/lang/Math", "min", "(II)I"⟩ : MethodName) (head1 (Jvm.Cond.code (⟨"java/lang/Math", "min", "(II)I"⟩ : MethodName) jdk_29_method_69_code 2 (some .int) :: ws) ({ frames := 0, cells := 0, slots := 0, locals := 0 } : Room)) (fun a U => a = #[(.int (2 : Int32)), (.int (4 : Int32))] ∧ Z.Warmed39 U.vm ∧ U.heap = h0) (fun _ _ _ _ _ => True) (fun _ U o U' => ∃ v L, o = .returned v ∧ Q8_1 Z  h0 n0 v U'.heap L ∧ FrameEnd U o U' L ({ frames := 0, cells := 0, slots := 0, locals := 0 } : Room).cells ({ frames := 0, cells := 0, slots := 0, locals := 0 } : Room).slots) := by
  refine MetFree.of_bodySF (Jvm.Free.JP.mathPlain rfl (by decide +kernel)) hisR ?_
  intro p e s m args below meth c s₁ Bd hml0 hP hK
  obtain ⟨rfl, hZ, hh⟩ := hP
  have hx := Bd.exec
  have hby := Bd.bytes
  have hml : c.maxLocals = 2 := hml0
  have hown : s.vm.findClass "java/lang/Math" = some m.cls := findClass_of_methodNamed Bd.named
  have hnm := (name_of_methodNamed Bd.named Bd.method).1
  have X0 : Stand p l e ({ frames := 0, cells := 0, slots := 0, locals := 0 } : Room) s m #[(.int (2 : Int32)), (.int (4 : Int32))] below meth c s₁ [] 0 0 := Stand.of_body Bd
  have e0 : s₁.heap = h0 := by rw [← hh, Bd.state]; rfl
  have N0 := Fr.nil n0
  have pre0 : ∀ t, Steps p.tables e below (s₁.setTop (mkF m 0 #[.val (.int (2 : Int32)), .val (.int (4 : Int32))] [])) t → Steps p.tables e below (s₁.setTop (entryFrame m #[(.int (2 : Int32)), (.int (4 : Int32))] 2)) t := fun t k => castTop (ef8_1 m ) k
  obtain ⟨fs, hr, hrun, hended, hW, hsame⟩ := X0.leave (v := some (.int (2 : Int32))) (fun h => by rw [Bd.returns] at h; cases h)
  refine ⟨_, _, pre0 _ ?_, hrun, hended, _, _, rfl, ?_, ⟨_, rfl⟩, hW, hsame.mono (by decide) (by decide)⟩
  · show Steps p.tables e below (s₁.setTop (mkF m 0 #[.val (.int (2 : Int32)), .val (.int (4 : Int32))] [])) _
    refine XS.iloadN X0.here hx rfl (hb hby d8_0) rfl ?_
    show Steps p.tables e below (s₁.setTop (mkF m 1 #[.val (.int (2 : Int32)), .val (.int (4 : Int32))] [(.int (2 : Int32))])) _
    refine XS.iloadN X0.here hx rfl (hb hby d8_1) rfl ?_
    show Steps p.tables e below (s₁.setTop (mkF m 2 #[.val (.int (2 : Int32)), .val (.int (4 : Int32))] [(.int (4 : Int32)), (.int (2 : Int32))])) _
    refine XS.icmpNo X0.here hx rfl (hb hby d8_2) rfl (flt (by decide : ¬ ((4 : Int32) < (2 : Int32)))).2.2.1 ?_
    show Steps p.tables e below (s₁.setTop (mkF m 5 #[.val (.int (2 : Int32)), .val (.int (4 : Int32))] [])) _
    refine XS.iloadN X0.here hx rfl (hb hby d8_5) rfl ?_
    show Steps p.tables e below (s₁.setTop (mkF m 6 #[.val (.int (2 : Int32)), .val (.int (4 : Int32))] [(.int (2 : Int32))])) _
    refine XS.goto X0.here hx rfl (pc0 := 6) (pc' := 10) rfl (hb hby d8_6) (by decide) (by decide) ?_
    show Steps p.tables e below (s₁.setTop (mkF m 10 #[.val (.int (2 : Int32)), .val (.int (4 : Int32))] [(.int (2 : Int32))])) _
    exact retI X0 hx Bd.returns (hb hby d8_10) hr
  · show Q8_1 Z  h0 n0 _ s₁.heap _
    rw [e0]
    exact ⟨rfl, N0, rfl⟩
theorem ef7_1 (m : MethodId) (a1 : Addr) (w2 : ClassId) (q3 : Int64) (q4 : Int64) : entryFrame m #[(.ref a1), (.int (4 : Int32))] 3 = mkF m 0 #[.val (.ref a1), .val (.int (4 : Int32)), .unset] [] := by first | (simp [entryFrame, mkF, argsToLocals, Value.category]; done) | rfl
def Q7_1 (Z : State) (a1 : Addr) (w2 : ClassId) (q3 : Int64) (q4 : Int64) (h0 : Heap) (n0 : Nat) (v : Option Value) (h : Heap) (L : List Loc) : Prop := ∃ b7 : Addr, ∃ k6 : ClassId, v = some (.ref b7) ∧ Fr n0 L ∧ Keep h0 h [] ∧ n0 ≤ b7 ∧ h0.size ≤ b7 ∧ Arv Z h b7 k6 .long (4 : Int32) [(.long q3), (.long q4), (.long (0 : Int64)), (.long (0 : Int64))] (.long (0 : Int64))
set_option maxRecDepth 65536 in
set_option maxHeartbeats 40000000 in
theorem rm7_1 (l : Launch) (Z : State) (a0 : Array Value) (hw : ∀ d ∈ tables_1, d.before a0 Z = true) (ws : List Jvm.Cond) (a1 : Addr) (w2 : ClassId) (q3 : Int64) (q4 : Int64) (h0 : Heap) (n0 : Nat) (Z0 : n0 ≤ h0.size) (P1 : Arv Z h0 a1 w2 .long (2 : Int32) [(.long q3), (.long q4)] (.long (0 : Int64))) :
    MetFree l (⟨"java/util/Arrays", "copyOf", "([JI)[J"⟩ : MethodName) (head1 (Jvm.Cond.code (⟨"java/util/Arrays", "copyOf", "([JI)[J"⟩ : MethodName) jdk_65_method_124_code 3 (some (.array .long)) :: ws) ({ frames := 1, cells := 1, slots := 4, locals := 18 } : Room)) (fun a U => a = #[(.ref a1), (.int (4 : Int32))] ∧ Z.Warmed39 U.vm ∧ U.heap = h0) (fun _ _ _ _ _ => True) (fun _ U o U' => ∃ v L, o = .returned v ∧ Q7_1 Z a1 w2 q3 q4 h0 n0 v U'.heap L ∧ FrameEnd U o U' L ({ frames := 1, cells := 1, slots := 4, locals := 18 } : Room).cells ({ frames := 1, cells := 1, slots := 4, locals := 18 } : Room).slots) := by
  refine MetFree.of_bodySF (plainFor_of_name pn_1) hisR ?_
  intro p e s m args below meth c s₁ Bd hml0 hP hK
  obtain ⟨rfl, hZ, hh⟩ := hP
  have hx := Bd.exec
  have hby := Bd.bytes
  have hml : c.maxLocals = 3 := hml0
  have hown : s.vm.findClass "java/util/Arrays" = some m.cls := findClass_of_methodNamed Bd.named
  have hnm := (name_of_methodNamed Bd.named Bd.method).1
  have X0 : Stand p l e ({ frames := 1, cells := 1, slots := 4, locals := 18 } : Room) s m #[(.ref a1), (.int (4 : Int32))] below meth c s₁ [] 0 0 := Stand.of_body Bd
  have e0 : s₁.heap = h0 := by rw [← hh, Bd.state]; rfl
  have N0 := Fr.nil n0
  have pre0 : ∀ t, Steps p.tables e below (s₁.setTop (mkF m 0 #[.val (.ref a1), .val (.int (4 : Int32)), .unset] [])) t → Steps p.tables e below (s₁.setTop (entryFrame m #[(.ref a1), (.int (4 : Int32))] 3)) t := fun t k => castTop (ef7_1 m a1 w2 q3 q4) k
  obtain ⟨clx5, Arx5, qx5, Sx5, Nx5, Hx5, Gx5⟩ := (id P1)
  obtain ⟨T6, h6, k6, X6, e6, E6, A6, st6⟩ := newP (aty := .long) X0 hx hZ (tw_13 hw) e0 (g := (mkF m 15 #[.val (.ref a1), .val (.int (4 : Int32)), .unset] [(.int (4 : Int32))])) rfl (hb hby d7_15) rfl (by decide) (cap := 4) (by decide) (by decide) (by decide) (by decide)
  obtain ⟨b7, g6⟩ : ∃ z, z = h0.size := ⟨_, rfl⟩
  rw [← g6] at A6 st6
  have q6 : n0 ≤ b7 := Nat.le_trans Z0 (Nat.le_of_eq g6.symm)
  have z6 : h0.size ≤ b7 := Nat.le_trans (Nat.le_refl h0.size) (Nat.le_of_eq g6.symm)
  have V6 : Arv Z h6 b7 k6 .long (4 : Int32) [(.long (0 : Int64)), (.long (0 : Int64)), (.long (0 : Int64)), (.long (0 : Int64))] (.long (0 : Int64)) := (Arv.new A6 (by decide)).pad (pad_rep [] (.long (0 : Int64)) 4)
  have F8 := (P1.ext E6)
  obtain ⟨clx9, Arx9, qx9, Sx9, Nx9, Hx9, Gx9⟩ := (id F8)
  obtain ⟨_, _, ⟨T10, L10, k10, n10⟩, -, X10, ⟨Lc10, hQ10, l10, y10, z10⟩, st10⟩ := Jvm.LawKit.callS X6 hx (y := (⟨"java/lang/Math", "min", "(II)I"⟩ : MethodName)) hown (mvT hZ (tw_44 hw)) (mvT hZ (tw_45 hw)) (mvT hZ (tw_46 hw)) (mvT hZ (tw_47 hw)) (by decide) (backOf (W := 4) (rm8_1 l Z a0 hw []  h6 n0 (Nat.le_trans Z0 E6.1) ) hZ (tw_47 hw) (tw_46 hw) (by decide) (by decide)) (g := (mkF m 25 #[.val (.ref a1), .val (.int (4 : Int32)), .val (.ref b7)] [(.int (4 : Int32)), (.int (2 : Int32)), (.int (0 : Int32)), (.ref b7), (.int (0 : Int32)), (.ref a1)])) rfl (by rw [hml]; rfl) (argsL := [(.int (2 : Int32)), (.int (4 : Int32))]) (rest := [(.int (0 : Int32)), (.ref b7), (.int (0 : Int32)), (.ref a1)]) (lenOf pd_3 rfl) rfl (by show 2 * 0 + _ ≤ _; exact Nat.le_of_eq rfl) (hb hby d7_25) (fun _ _ => ⟨rfl, e6, (by decide : 1 + 0 ≤ _), (by decide : 4 + 0 ≤ _)⟩)
  dsimp only [Pt.U, Pt.locs, Pt.cells, Pt.slots] at X10 l10 y10 z10 st10 hQ10
  subst l10 y10 z10
  obtain ⟨rfl, N10q, e10q⟩ := hQ10
  have N10 := Fr.app N0 N10q
  obtain ⟨T11, h11, L11, X11, e11, N11, K11, V11, st11⟩ := cpA X10 hx hZ hown (tw_48 hw) (tw_51 hw) (tw_49 hw) (tw_50 hw) e10q (us := [(.long q3), (.long q4)]) F8 V6 (Or.inl ⟨rfl, rfl⟩) (by decide) (by decide) (by decide) (by decide) (by decide) rfl (by decide) N10 q6 (g := (mkF m 28 #[.val (.ref a1), .val (.int (4 : Int32)), .val (.ref b7)] [(.int (2 : Int32)), (.int (0 : Int32)), (.ref b7), (.int (0 : Int32)), (.ref a1)])) rfl (by rw [hml]; rfl) rfl (hb hby d7_28) (by decide) (W := 0) (by show 2 * 0 + _ ≤ _; exact Nat.le_of_eq rfl) (by decide)
  have V11c : Arv Z h11 b7 k6 .long (4 : Int32) [(.long q3), (.long q4), (.long (0 : Int64)), (.long (0 : Int64))] (.long (0 : Int64)) := V11
  have K12 := (Keep.refl h0 []).ext E6
  have K13 := K12.trans K11 (allS (Or.inr z6) all0)
  obtain ⟨fs, hr, hrun, hended, hW, hsame⟩ := X11.leave (v := some (.ref b7)) (fun h => by rw [Bd.returns] at h; cases h)
  refine ⟨_, _, pre0 _ ?_, hrun, hended, _, _, rfl, ?_, ⟨_, rfl⟩, hW, hsame.mono (by decide) (by decide)⟩
  · show Steps p.tables e below (s₁.setTop (mkF m 0 #[.val (.ref a1), .val (.int (4 : Int32)), .unset] [])) _
    refine XS.iloadN X0.here hx rfl (hb hby d7_0) rfl ?_
    show Steps p.tables e below (s₁.setTop (mkF m 1 #[.val (.ref a1), .val (.int (4 : Int32)), .unset] [(.int (4 : Int32))])) _
    refine XS.aloadN X0.here hx rfl (hb hby d7_1) rfl rfl ?_
    show Steps p.tables e below (s₁.setTop (mkF m 2 #[.val (.ref a1), .val (.int (4 : Int32)), .unset] [(.ref a1), (.int (4 : Int32))])) _
    refine X0.arraylength hx (by rw [e0]; exact Arx5.1) (State.isArrayOf_alike hZ.alike Arx5.2.1) (g := (mkF m 2 #[.val (.ref a1), .val (.int (4 : Int32)), .unset] [(.ref a1), (.int (4 : Int32))])) rfl rfl (hb hby d7_2) _ ?_
    rw [len_of Sx5 Nx5]
    show Steps p.tables e below (s₁.setTop (mkF m 3 #[.val (.ref a1), .val (.int (4 : Int32)), .unset] [(.int (2 : Int32)), (.int (4 : Int32))])) _
    refine XS.icmpYes X0.here hx rfl (pc0 := 3) (pc' := 14) rfl (hb hby d7_3) rfl (feq (by decide : ¬ ((4 : Int32) = (2 : Int32)))).2 (by decide) (by decide) ?_
    show Steps p.tables e below (s₁.setTop (mkF m 14 #[.val (.ref a1), .val (.int (4 : Int32)), .unset] [])) _
    refine XS.iloadN X0.here hx rfl (hb hby d7_14) rfl ?_
    show Steps p.tables e below (s₁.setTop (mkF m 15 #[.val (.ref a1), .val (.int (4 : Int32)), .unset] [(.int (4 : Int32))])) _
    refine st6 _ ?_
    show Steps p.tables e below (T6.setTop (mkF m 17 #[.val (.ref a1), .val (.int (4 : Int32)), .unset] [(.ref b7)])) _
    refine XS.astoreN X6.here hx rfl (hb hby d7_17) rfl rfl (l' := #[.val (.ref a1), .val (.int (4 : Int32)), .val (.ref b7)]) rfl ?_
    show Steps p.tables e below (T6.setTop (mkF m 18 #[.val (.ref a1), .val (.int (4 : Int32)), .val (.ref b7)] [])) _
    refine XS.aloadN X6.here hx rfl (hb hby d7_18) rfl rfl ?_
    show Steps p.tables e below (T6.setTop (mkF m 19 #[.val (.ref a1), .val (.int (4 : Int32)), .val (.ref b7)] [(.ref a1)])) _
    refine XS.iconst X6.here hx rfl (hb hby d7_19) ?_
    show Steps p.tables e below (T6.setTop (mkF m 20 #[.val (.ref a1), .val (.int (4 : Int32)), .val (.ref b7)] [(.int (0 : Int32)), (.ref a1)])) _
    refine XS.aloadN X6.here hx rfl (hb hby d7_20) rfl rfl ?_
    show Steps p.tables e below (T6.setTop (mkF m 21 #[.val (.ref a1), .val (.int (4 : Int32)), .val (.ref b7)] [(.ref b7), (.int (0 : Int32)), (.ref a1)])) _
    refine XS.iconst X6.here hx rfl (hb hby d7_21) ?_
    show Steps p.tables e below (T6.setTop (mkF m 22 #[.val (.ref a1), .val (.int (4 : Int32)), .val (.ref b7)] [(.int (0 : Int32)), (.ref b7), (.int (0 : Int32)), (.ref a1)])) _
    refine XS.aloadN X6.here hx rfl (hb hby d7_22) rfl rfl ?_
    show Steps p.tables e below (T6.setTop (mkF m 23 #[.val (.ref a1), .val (.int (4 : Int32)), .val (.ref b7)] [(.ref a1), (.int (0 : Int32)), (.ref b7), (.int (0 : Int32)), (.ref a1)])) _
    refine X6.arraylength hx (by rw [e6]; exact Arx9.1) (State.isArrayOf_alike hZ.alike Arx9.2.1) (g := (mkF m 23 #[.val (.ref a1), .val (.int (4 : Int32)), .val (.ref b7)] [(.ref a1), (.int (0 : Int32)), (.ref b7), (.int (0 : Int32)), (.ref a1)])) rfl rfl (hb hby d7_23) _ ?_
    rw [len_of Sx9 Nx9]
    show Steps p.tables e below (T6.setTop (mkF m 24 #[.val (.ref a1), .val (.int (4 : Int32)), .val (.ref b7)] [(.int (2 : Int32)), (.int (0 : Int32)), (.ref b7), (.int (0 : Int32)), (.ref a1)])) _
    refine XS.iloadN X6.here hx rfl (hb hby d7_24) rfl ?_
    show Steps p.tables e below (T6.setTop (mkF m 25 #[.val (.ref a1), .val (.int (4 : Int32)), .val (.ref b7)] [(.int (4 : Int32)), (.int (2 : Int32)), (.int (0 : Int32)), (.ref b7), (.int (0 : Int32)), (.ref a1)])) _
    refine st10 _ ?_
    show Steps p.tables e below (T10.setTop (mkF m 28 #[.val (.ref a1), .val (.int (4 : Int32)), .val (.ref b7)] [(.int (2 : Int32)), (.int (0 : Int32)), (.ref b7), (.int (0 : Int32)), (.ref a1)])) _
    refine st11 _ ?_
    show Steps p.tables e below (T11.setTop (mkF m 31 #[.val (.ref a1), .val (.int (4 : Int32)), .val (.ref b7)] [])) _
    refine XS.aloadN X11.here hx rfl (hb hby d7_31) rfl rfl ?_
    show Steps p.tables e below (T11.setTop (mkF m 32 #[.val (.ref a1), .val (.int (4 : Int32)), .val (.ref b7)] [(.ref b7)])) _
    jvm_step X11.here [X11.here.top, hx, (hb hby d7_32), X11.method', Bd.returns, Value.isRef, FieldType.isReference]
    first | (intro acts; rw [hr _ acts rfl rfl rfl]) | rw [hr _ _ rfl rfl rfl]
    exact Steps.refl _
  · show Q7_1 Z a1 w2 q3 q4 h0 n0 _ T11.heap _
    rw [e11]
    exact ⟨b7, k6, rfl, N11, K13, q6, z6, V11c⟩
theorem ef3_2 (m : MethodId) (a1 : Addr) (q2 : Int64) (a4 : Addr) (w6 : ClassId) (q7 : Int64) (q8 : Int64) (a25 : Addr) : entryFrame m #[(.ref a1), (.long q2)] 3 = mkF m 0 #[.val (.ref a1), .val (.long q2), .second] [] := by first | (simp [entryFrame, mkF, argsToLocals, Value.category]; done) | rfl
def Q3_2 (Z : State) (a1 : Addr) (q2 : Int64) (a4 : Addr) (w6 : ClassId) (q7 : Int64) (q8 : Int64) (a25 : Addr) (h0 : Heap) (n0 : Nat) (v : Option Value) (h : Heap) (L : List Loc) : Prop := ∃ b13 : Addr, ∃ kk12_0 : ClassId, v = none ∧ Fr n0 L ∧ Keep h0 h [a1] ∧ n0 ≤ b13 ∧ h0.size ≤ b13 ∧ Fld Z h a1 "com/example/nakazilo/nakazilo/PaymentGroup" "bounds" "I" (.int (3 : Int32)) ∧ Fld Z h a1 "com/example/nakazilo/nakazilo/PaymentGroup" "first" "Ljava/lang/Object;" .null ∧ Fld Z h a1 "com/example/nakazilo/nakazilo/PaymentGroup" "spans" "[J" (.ref b13) ∧ Fld Z h a1 "com/example/nakazilo/nakazilo/PaymentGroup" "total" "Ljava/math/BigDecimal;" (.ref a25) ∧ Arv Z h b13 kk12_0 .long (4 : Int32) [(.long q7), (.long q8), (.long q2), (.long (0 : Int64))] (.long (0 : Int64))
set_option maxRecDepth 65536 in
set_option maxHeartbeats 40000000 in
theorem rm3_2 (l : Launch) (Z : State) (a0 : Array Value) (hw : ∀ d ∈ tables_1, d.before a0 Z = true) (ws : List Jvm.Cond) (a1 : Addr) (q2 : Int64) (a4 : Addr) (w6 : ClassId) (q7 : Int64) (q8 : Int64) (a25 : Addr) (h0 : Heap) (n0 : Nat) (Z0 : n0 ≤ h0.size) (P1 : Fld Z h0 a1 "com/example/nakazilo/nakazilo/PaymentGroup" "bounds" "I" (.int (2 : Int32))) (P2 : Fld Z h0 a1 "com/example/nakazilo/nakazilo/PaymentGroup" "spans" "[J" (.ref a4)) (P3 : Arv Z h0 a4 w6 .long (2 : Int32) [(.long q7), (.long q8)] (.long (0 : Int64))) (P4 : Exa Z h0 a1 "com/example/nakazilo/nakazilo/PaymentGroup") (P5 : n0 ≤ a1) (P6 : Fld Z h0 a1 "com/example/nakazilo/nakazilo/PaymentGroup" "total" "Ljava/math/BigDecimal;" (.ref a25)) (P7 : Fld Z h0 a1 "com/example/nakazilo/nakazilo/PaymentGroup" "first" "Ljava/lang/Object;" .null) :
    MetFree l (⟨"com/example/nakazilo/nakazilo/PaymentGroup", "startSpan", "(J)V"⟩ : MethodName) (head1 (Jvm.Cond.code (⟨"com/example/nakazilo/nakazilo/PaymentGroup", "startSpan", "(J)V"⟩ : MethodName) prog_91_method_6_code 3 none :: ws) ({ frames := 2, cells := 1, slots := 4, locals := 33 } : Room)) (fun a U => a = #[(.ref a1), (.long q2)] ∧ Z.Warmed39 U.vm ∧ U.heap = h0) (fun _ _ _ _ _ => True) (fun _ U o U' => ∃ v L, o = .returned v ∧ Q3_2 Z a1 q2 a4 w6 q7 q8 a25 h0 n0 v U'.heap L ∧ FrameEnd U o U' L ({ frames := 2, cells := 1, slots := 4, locals := 33 } : Room).cells ({ frames := 2, cells := 1, slots := 4, locals := 33 } : Room).slots) := by
  refine MetFree.of_bodySF (plainFor_of_name pn_0) hisR ?_
  intro p e s m args below meth c s₁ Bd hml0 hP hK
  obtain ⟨rfl, hZ, hh⟩ := hP
  have hx := Bd.exec
  have hby := Bd.bytes
  have hml : c.maxLocals = 3 := hml0
  have hown : s.vm.findClass "com/example/nakazilo/nakazilo/PaymentGroup" = some m.cls := findClass_of_methodNamed Bd.named
  have hnm := (name_of_methodNamed Bd.named Bd.method).1
  have X0 : Stand p l e ({ frames := 2, cells := 1, slots := 4, locals := 33 } : Room) s m #[(.ref a1), (.long q2)] below meth c s₁ [] 0 0 := Stand.of_body Bd
  have e0 : s₁.heap = h0 := by rw [← hh, Bd.state]; rfl
  have N0 := Fr.nil n0
  have pre0 : ∀ t, Steps p.tables e below (s₁.setTop (mkF m 0 #[.val (.ref a1), .val (.long q2), .second] [])) t → Steps p.tables e below (s₁.setTop (entryFrame m #[(.ref a1), (.long q2)] 3)) t := fun t k => castTop (ef3_2 m a1 q2 a4 w6 q7 q8 a25) k
  obtain ⟨T3, X3, e3, st3⟩ := getF X0 hx hZ hown (host := "") (Or.inl (tw_23 hw)) Via.refl e0 P1 (g := (mkF m 1 #[.val (.ref a1), .val (.long q2), .second] [(.ref a1)])) rfl rfl (hb hby d3_1)
  obtain ⟨T5, X5, e5, st5⟩ := getF X3 hx hZ hown (host := "") (Or.inl (tw_14 hw)) Via.refl e3 P2 (g := (mkF m 7 #[.val (.ref a1), .val (.long q2), .second] [(.ref a1), (.int (4 : Int32))])) rfl rfl (hb hby d3_7)
  obtain ⟨clx9, Arx9, qx9, Sx9, Nx9, Hx9, Gx9⟩ := (id P3)
  obtain ⟨T10, X10, e10, st10⟩ := getF X5 hx hZ hown (host := "") (Or.inl (tw_14 hw)) Via.refl e5 P2 (g := (mkF m 16 #[.val (.ref a1), .val (.long q2), .second] [(.ref a1), (.ref a1)])) rfl rfl (hb hby d3_16)
  obtain ⟨T11, X11, e11, st11⟩ := getF X10 hx hZ hown (host := "") (Or.inl (tw_14 hw)) Via.refl e10 P2 (g := (mkF m 20 #[.val (.ref a1), .val (.long q2), .second] [(.ref a1), (.ref a4), (.ref a1)])) rfl rfl (hb hby d3_20)
  obtain ⟨_, _, ⟨T12, L12, k12, n12⟩, -, X12, ⟨Lc12, hQ12, l12, y12, z12⟩, st12⟩ := Jvm.LawKit.callS X11 hx (y := (⟨"java/util/Arrays", "copyOf", "([JI)[J"⟩ : MethodName)) hown (mvT hZ (tw_40 hw)) (mvT hZ (tw_41 hw)) (mvT hZ (tw_42 hw)) (mvT hZ (tw_43 hw)) (by decide) (backOf (W := 1) (rm7_1 l Z a0 hw [] a4 w6 q7 q8 h0 n0 Z0 P3) hZ (tw_43 hw) (tw_42 hw) (by decide) (by decide)) (g := (mkF m 26 #[.val (.ref a1), .val (.long q2), .second] [(.int (4 : Int32)), (.ref a4), (.ref a1)])) rfl (by rw [hml]; rfl) (argsL := [(.ref a4), (.int (4 : Int32))]) (rest := [(.ref a1)]) (lenOf pd_4 rfl) rfl (by show 2 * 0 + _ ≤ _; exact Nat.le_of_eq rfl) (hb hby d3_26) (fun _ _ => ⟨rfl, e11, (by decide : 0 + 1 ≤ _), (by decide : 0 + 4 ≤ _)⟩)
  dsimp only [Pt.U, Pt.locs, Pt.cells, Pt.slots] at X12 l12 y12 z12 st12 hQ12
  subst l12 y12 z12
  obtain ⟨b13, kk12_0, rfl, N12q, K12, qa12_0, qb12_0, f12_0⟩ := hQ12
  have N12 := Fr.app N0 N12q
  have qd12_0 := Nat.le_trans (Nat.le_refl h0.size) qb12_0
  have F14 := (Fld.keep P2 K12 nin0)
  have F15 := (Exa.keep P4 K12)
  obtain ⟨T16, h16, X16, e16, W16, st16⟩ := putF X12 hx hZ hown (host := "") (Or.inl (tw_14 hw)) Via.refl rfl F14 F15 (Or.inl (tw_15 hw)) (tw_1 hw) (ty := (.array .long)) (by decide) rfl rfl (g := (mkF m 29 #[.val (.ref a1), .val (.long q2), .second] [(.ref b13), (.ref a1)])) rfl rfl (hb hby d3_29)
  have N16 := Fr.snoc X16 N12 P5
  have Fw16 := Fld.same W16 F14
  obtain ⟨T17, X17, e17, st17⟩ := getF X16 hx hZ hown (host := "") (Or.inl (tw_14 hw)) Via.refl e16 Fw16 (g := (mkF m 33 #[.val (.ref a1), .val (.long q2), .second] [(.ref a1)])) rfl rfl (hb hby d3_33)
  have F18 := (Fld.other W16 (Fld.keep P1 K12 nin0) (Or.inr (slot_ne (Or.inl (tw_24 hw)) (Or.inl (tw_15 hw)) (by decide) (t := .int) (t' := (.array .long)) (by decide) (by decide))))
  obtain ⟨T19, X19, e19, st19⟩ := getF X17 hx hZ hown (host := "") (Or.inl (tw_23 hw)) Via.refl e17 F18 (g := (mkF m 38 #[.val (.ref a1), .val (.long q2), .second] [(.ref a1), (.ref a1), (.ref b13)])) rfl rfl (hb hby d3_38)
  have F20 := (Exa.wr W16 F15)
  obtain ⟨T21, h21, X21, e21, W21, st21⟩ := putF X19 hx hZ hown (host := "") (Or.inl (tw_23 hw)) Via.refl e19 F18 F20 (Or.inl (tw_24 hw)) (tw_1 hw) (ty := .int) (by decide) rfl rfl (g := (mkF m 44 #[.val (.ref a1), .val (.long q2), .second] [(.int (3 : Int32)), (.ref a1), (.int (2 : Int32)), (.ref b13)])) rfl rfl (hb hby d3_44)
  have N21 := Fr.snoc X21 N16 P5
  have Fw21 := Fld.same W21 F18
  have F22 := (Arv.other (Arv.other f12_0 W16 (Ne.symm (Nat.ne_of_lt (Nat.lt_of_lt_of_le P1.lt qb12_0)))) W21 (Ne.symm (Nat.ne_of_lt (Nat.lt_of_lt_of_le P1.lt qb12_0))))
  obtain ⟨clx23, Arx23, qx23, Sx23, Nx23, Hx23, Gx23⟩ := (id F22)
  have hinx23 : ¬ ((2 : Int32) < 0 ∨ clx23.slots.size ≤ ((2 : Int32)).toNatClampNeg) := inb_of Sx23 ⟨by decide, by decide⟩
  obtain ⟨T24, h24, X24, e24, W24, st24⟩ := stJ X21 hx hZ e21 Arx23 (j := (2 : Int32)) hinx23 (g := (mkF m 48 #[.val (.ref a1), .val (.long q2), .second] [(.long q2), (.int (2 : Int32)), (.ref b13)])) rfl rfl (hb hby d3_48)
  have N24 := Fr.snoc X24 N21 qa12_0
  have V24 : Arv Z h24 b13 kk12_0 .long (4 : Int32) [(.long q7), (.long q8), (.long q2), (.long (0 : Int64))] (.long (0 : Int64)) := Arv.set Arx23 qx23 Sx23 Nx23 Hx23 Gx23 rfl W24 2 rfl (Nat.le_of_ble_eq_true rfl)
  have F26 := (Fld.other W24 Fw21 (Or.inl (Nat.ne_of_lt (Nat.lt_of_lt_of_le P1.lt qb12_0))))
  have F27 := (Fld.other W24 (Fld.other W21 (Fld.other W16 (Fld.keep P7 K12 nin0) (Or.inr (slot_ne (Or.inr (tw_17 hw)) (Or.inl (tw_15 hw)) (by decide) (t := (.object "java/lang/Object")) (t' := (.array .long)) (by decide) (by decide)))) (Or.inr (slot_ne (Or.inr (tw_17 hw)) (Or.inl (tw_24 hw)) (by decide) (t := (.object "java/lang/Object")) (t' := .int) (by decide) (by decide)))) (Or.inl (Nat.ne_of_lt (Nat.lt_of_lt_of_le P1.lt qb12_0))))
  have F28 := (Fld.other W24 (Fld.other W21 Fw16 (Or.inr (slot_ne (Or.inl (tw_15 hw)) (Or.inl (tw_24 hw)) (by decide) (t := (.array .long)) (t' := .int) (by decide) (by decide)))) (Or.inl (Nat.ne_of_lt (Nat.lt_of_lt_of_le P1.lt qb12_0))))
  have F29 := (Fld.other W24 (Fld.other W21 (Fld.other W16 (Fld.keep P6 K12 nin0) (Or.inr (slot_ne (Or.inl (tw_12 hw)) (Or.inl (tw_15 hw)) (by decide) (t := (.object "java/math/BigDecimal")) (t' := (.array .long)) (by decide) (by decide)))) (Or.inr (slot_ne (Or.inl (tw_12 hw)) (Or.inl (tw_24 hw)) (by decide) (t := (.object "java/math/BigDecimal")) (t' := .int) (by decide) (by decide)))) (Or.inl (Nat.ne_of_lt (Nat.lt_of_lt_of_le P1.lt qb12_0))))
  have K30 := (Keep.refl h0 [a1]).trans K12 all0
  have K31 := K30.wr W16 (Or.inl (List.mem_of_getElem? (i := 0) rfl))
  have K32 := K31.wr W21 (Or.inl (List.mem_of_getElem? (i := 0) rfl))
  have K33 := K32.wr W24 (Or.inr qd12_0)
  obtain ⟨fs, hr, hrun, hended, hW, hsame⟩ := X24.leave (v := none) (fun _ => rfl)
  refine ⟨_, _, pre0 _ ?_, hrun, hended, _, _, rfl, ?_, ⟨_, rfl⟩, hW, hsame.mono (by decide) (by decide)⟩
  · show Steps p.tables e below (s₁.setTop (mkF m 0 #[.val (.ref a1), .val (.long q2), .second] [])) _
    refine XS.aloadN X0.here hx rfl (hb hby d3_0) rfl rfl ?_
    show Steps p.tables e below (s₁.setTop (mkF m 1 #[.val (.ref a1), .val (.long q2), .second] [(.ref a1)])) _
    refine st3 _ ?_
    show Steps p.tables e below (T3.setTop (mkF m 4 #[.val (.ref a1), .val (.long q2), .second] [(.int (2 : Int32))])) _
    refine XS.iconst X3.here hx rfl (hb hby d3_4) ?_
    show Steps p.tables e below (T3.setTop (mkF m 5 #[.val (.ref a1), .val (.long q2), .second] [(.int (2 : Int32)), (.int (2 : Int32))])) _
    refine XS.iadd X3.here hx rfl (hb hby d3_5) rfl ?_
    show Steps p.tables e below (T3.setTop (mkF m 6 #[.val (.ref a1), .val (.long q2), .second] [(.int ((2 : Int32) + (2 : Int32)))])) _
    rw [show ((2 : Int32) + (2 : Int32)) = (4 : Int32) from by decide]
    show Steps p.tables e below (T3.setTop (mkF m 6 #[.val (.ref a1), .val (.long q2), .second] [(.int (4 : Int32))])) _
    refine XS.aloadN X3.here hx rfl (hb hby d3_6) rfl rfl ?_
    show Steps p.tables e below (T3.setTop (mkF m 7 #[.val (.ref a1), .val (.long q2), .second] [(.ref a1), (.int (4 : Int32))])) _
    refine st5 _ ?_
    show Steps p.tables e below (T5.setTop (mkF m 10 #[.val (.ref a1), .val (.long q2), .second] [(.ref a4), (.int (4 : Int32))])) _
    refine X5.arraylength hx (by rw [e5]; exact Arx9.1) (State.isArrayOf_alike hZ.alike Arx9.2.1) (g := (mkF m 10 #[.val (.ref a1), .val (.long q2), .second] [(.ref a4), (.int (4 : Int32))])) rfl rfl (hb hby d3_10) _ ?_
    rw [len_of Sx9 Nx9]
    show Steps p.tables e below (T5.setTop (mkF m 11 #[.val (.ref a1), .val (.long q2), .second] [(.int (2 : Int32)), (.int (4 : Int32))])) _
    refine XS.icmpNo X5.here hx rfl (hb hby d3_11) rfl (tlt (by decide : (2 : Int32) < (4 : Int32))).2.2.2 ?_
    show Steps p.tables e below (T5.setTop (mkF m 14 #[.val (.ref a1), .val (.long q2), .second] [])) _
    refine XS.aloadN X5.here hx rfl (hb hby d3_14) rfl rfl ?_
    show Steps p.tables e below (T5.setTop (mkF m 15 #[.val (.ref a1), .val (.long q2), .second] [(.ref a1)])) _
    refine XS.aloadN X5.here hx rfl (hb hby d3_15) rfl rfl ?_
    show Steps p.tables e below (T5.setTop (mkF m 16 #[.val (.ref a1), .val (.long q2), .second] [(.ref a1), (.ref a1)])) _
    refine st10 _ ?_
    show Steps p.tables e below (T10.setTop (mkF m 19 #[.val (.ref a1), .val (.long q2), .second] [(.ref a4), (.ref a1)])) _
    refine XS.aloadN X10.here hx rfl (hb hby d3_19) rfl rfl ?_
    show Steps p.tables e below (T10.setTop (mkF m 20 #[.val (.ref a1), .val (.long q2), .second] [(.ref a1), (.ref a4), (.ref a1)])) _
    refine st11 _ ?_
    show Steps p.tables e below (T11.setTop (mkF m 23 #[.val (.ref a1), .val (.long q2), .second] [(.ref a4), (.ref a4), (.ref a1)])) _
    refine X11.arraylength hx (by rw [e11]; exact Arx9.1) (State.isArrayOf_alike hZ.alike Arx9.2.1) (g := (mkF m 23 #[.val (.ref a1), .val (.long q2), .second] [(.ref a4), (.ref a4), (.ref a1)])) rfl rfl (hb hby d3_23) _ ?_
    rw [len_of Sx9 Nx9]
    show Steps p.tables e below (T11.setTop (mkF m 24 #[.val (.ref a1), .val (.long q2), .second] [(.int (2 : Int32)), (.ref a4), (.ref a1)])) _
    refine XS.iconst X11.here hx rfl (hb hby d3_24) ?_
    show Steps p.tables e below (T11.setTop (mkF m 25 #[.val (.ref a1), .val (.long q2), .second] [(.int (2 : Int32)), (.int (2 : Int32)), (.ref a4), (.ref a1)])) _
    refine XS.imul X11.here hx rfl (hb hby d3_25) rfl ?_
    show Steps p.tables e below (T11.setTop (mkF m 26 #[.val (.ref a1), .val (.long q2), .second] [(.int ((2 : Int32) * (2 : Int32))), (.ref a4), (.ref a1)])) _
    rw [show ((2 : Int32) * (2 : Int32)) = (4 : Int32) from by decide]
    show Steps p.tables e below (T11.setTop (mkF m 26 #[.val (.ref a1), .val (.long q2), .second] [(.int (4 : Int32)), (.ref a4), (.ref a1)])) _
    refine st12 _ ?_
    show Steps p.tables e below (T12.setTop (mkF m 29 #[.val (.ref a1), .val (.long q2), .second] [(.ref b13), (.ref a1)])) _
    refine st16 _ ?_
    show Steps p.tables e below (T16.setTop (mkF m 32 #[.val (.ref a1), .val (.long q2), .second] [])) _
    refine XS.aloadN X16.here hx rfl (hb hby d3_32) rfl rfl ?_
    show Steps p.tables e below (T16.setTop (mkF m 33 #[.val (.ref a1), .val (.long q2), .second] [(.ref a1)])) _
    refine st17 _ ?_
    show Steps p.tables e below (T17.setTop (mkF m 36 #[.val (.ref a1), .val (.long q2), .second] [(.ref b13)])) _
    refine XS.aloadN X17.here hx rfl (hb hby d3_36) rfl rfl ?_
    show Steps p.tables e below (T17.setTop (mkF m 37 #[.val (.ref a1), .val (.long q2), .second] [(.ref a1), (.ref b13)])) _
    refine XS.dup X17.here hx rfl (hb hby d3_37) rfl rfl ?_
    show Steps p.tables e below (T17.setTop (mkF m 38 #[.val (.ref a1), .val (.long q2), .second] [(.ref a1), (.ref a1), (.ref b13)])) _
    refine st19 _ ?_
    show Steps p.tables e below (T19.setTop (mkF m 41 #[.val (.ref a1), .val (.long q2), .second] [(.int (2 : Int32)), (.ref a1), (.ref b13)])) _
    refine XS.dupX1 X19.here hx rfl (hb hby d3_41) rfl rfl rfl ?_
    show Steps p.tables e below (T19.setTop (mkF m 42 #[.val (.ref a1), .val (.long q2), .second] [(.int (2 : Int32)), (.ref a1), (.int (2 : Int32)), (.ref b13)])) _
    refine XS.iconst X19.here hx rfl (hb hby d3_42) ?_
    show Steps p.tables e below (T19.setTop (mkF m 43 #[.val (.ref a1), .val (.long q2), .second] [(.int (1 : Int32)), (.int (2 : Int32)), (.ref a1), (.int (2 : Int32)), (.ref b13)])) _
    refine XS.iadd X19.here hx rfl (hb hby d3_43) rfl ?_
    show Steps p.tables e below (T19.setTop (mkF m 44 #[.val (.ref a1), .val (.long q2), .second] [(.int ((2 : Int32) + (1 : Int32))), (.ref a1), (.int (2 : Int32)), (.ref b13)])) _
    rw [show ((2 : Int32) + (1 : Int32)) = (3 : Int32) from by decide]
    show Steps p.tables e below (T19.setTop (mkF m 44 #[.val (.ref a1), .val (.long q2), .second] [(.int (3 : Int32)), (.ref a1), (.int (2 : Int32)), (.ref b13)])) _
    refine st21 _ ?_
    show Steps p.tables e below (T21.setTop (mkF m 47 #[.val (.ref a1), .val (.long q2), .second] [(.int (2 : Int32)), (.ref b13)])) _
    refine XS.lloadN X21.here hx rfl (hb hby d3_47) rfl ?_
    show Steps p.tables e below (T21.setTop (mkF m 48 #[.val (.ref a1), .val (.long q2), .second] [(.long q2), (.int (2 : Int32)), (.ref b13)])) _
    refine st24 _ ?_
    show Steps p.tables e below (T24.setTop (mkF m 49 #[.val (.ref a1), .val (.long q2), .second] [])) _
    exact X24.returnOut hx Bd.returns (hb hby d3_49) hr
  · show Q3_2 Z a1 q2 a4 w6 q7 q8 a25 h0 n0 _ T24.heap _
    rw [e24]
    exact ⟨b13, kk12_0, rfl, N24, K33, qa12_0, qd12_0, F26, F27, F28, F29, V24⟩
theorem ef4_2 (m : MethodId) (a1 : Addr) (q2 : Int64) (a3 : Addr) (w7 : ClassId) (q8 : Int64) (q9 : Int64) (q10 : Int64) (a14 : Addr) : entryFrame m #[(.ref a1), (.long q2)] 3 = mkF m 0 #[.val (.ref a1), .val (.long q2), .second] [] := by first | (simp [entryFrame, mkF, argsToLocals, Value.category]; done) | rfl
def Q4_2 (Z : State) (a1 : Addr) (q2 : Int64) (a3 : Addr) (w7 : ClassId) (q8 : Int64) (q9 : Int64) (q10 : Int64) (a14 : Addr) (h0 : Heap) (n0 : Nat) (v : Option Value) (h : Heap) (L : List Loc) : Prop := v = none ∧ Fr n0 L ∧ Keep h0 h [a1, a3] ∧ Fld Z h a1 "com/example/nakazilo/nakazilo/PaymentGroup" "bounds" "I" (.int (4 : Int32)) ∧ Fld Z h a1 "com/example/nakazilo/nakazilo/PaymentGroup" "first" "Ljava/lang/Object;" .null ∧ Fld Z h a1 "com/example/nakazilo/nakazilo/PaymentGroup" "spans" "[J" (.ref a3) ∧ Fld Z h a1 "com/example/nakazilo/nakazilo/PaymentGroup" "total" "Ljava/math/BigDecimal;" (.ref a14) ∧ Arv Z h a3 w7 .long (4 : Int32) [(.long q8), (.long q9), (.long q10), (.long q2)] (.long (0 : Int64))
set_option maxRecDepth 65536 in
set_option maxHeartbeats 40000000 in
theorem rm4_2 (l : Launch) (Z : State) (a0 : Array Value) (hw : ∀ d ∈ tables_1, d.before a0 Z = true) (ws : List Jvm.Cond) (a1 : Addr) (q2 : Int64) (a3 : Addr) (w7 : ClassId) (q8 : Int64) (q9 : Int64) (q10 : Int64) (a14 : Addr) (h0 : Heap) (n0 : Nat) (Z0 : n0 ≤ h0.size) (P1 : Fld Z h0 a1 "com/example/nakazilo/nakazilo/PaymentGroup" "spans" "[J" (.ref a3)) (P2 : Fld Z h0 a1 "com/example/nakazilo/nakazilo/PaymentGroup" "bounds" "I" (.int (3 : Int32))) (P3 : Exa Z h0 a1 "com/example/nakazilo/nakazilo/PaymentGroup") (P4 : n0 ≤ a1) (P5 : Arv Z h0 a3 w7 .long (4 : Int32) [(.long q8), (.long q9), (.long q10), (.long (0 : Int64))] (.long (0 : Int64))) (P6 : a3 ≠ a1) (P7 : n0 ≤ a3) (P8 : Fld Z h0 a1 "com/example/nakazilo/nakazilo/PaymentGroup" "total" "Ljava/math/BigDecimal;" (.ref a14)) (P9 : Fld Z h0 a1 "com/example/nakazilo/nakazilo/PaymentGroup" "first" "Ljava/lang/Object;" .null) :
    MetFree l (⟨"com/example/nakazilo/nakazilo/PaymentGroup", "endSpan", "(J)V"⟩ : MethodName) (head1 (Jvm.Cond.code (⟨"com/example/nakazilo/nakazilo/PaymentGroup", "endSpan", "(J)V"⟩ : MethodName) prog_91_method_7_code 3 none :: ws) ({ frames := 0, cells := 0, slots := 0, locals := 0 } : Room)) (fun a U => a = #[(.ref a1), (.long q2)] ∧ Z.Warmed39 U.vm ∧ U.heap = h0) (fun _ _ _ _ _ => True) (fun _ U o U' => ∃ v L, o = .returned v ∧ Q4_2 Z a1 q2 a3 w7 q8 q9 q10 a14 h0 n0 v U'.heap L ∧ FrameEnd U o U' L ({ frames := 0, cells := 0, slots := 0, locals := 0 } : Room).cells ({ frames := 0, cells := 0, slots := 0, locals := 0 } : Room).slots) := by
  refine MetFree.of_bodySF (plainFor_of_name pn_0) hisR ?_
  intro p e s m args below meth c s₁ Bd hml0 hP hK
  obtain ⟨rfl, hZ, hh⟩ := hP
  have hx := Bd.exec
  have hby := Bd.bytes
  have hml : c.maxLocals = 3 := hml0
  have hown : s.vm.findClass "com/example/nakazilo/nakazilo/PaymentGroup" = some m.cls := findClass_of_methodNamed Bd.named
  have hnm := (name_of_methodNamed Bd.named Bd.method).1
  have X0 : Stand p l e ({ frames := 0, cells := 0, slots := 0, locals := 0 } : Room) s m #[(.ref a1), (.long q2)] below meth c s₁ [] 0 0 := Stand.of_body Bd
  have e0 : s₁.heap = h0 := by rw [← hh, Bd.state]; rfl
  have N0 := Fr.nil n0
  have pre0 : ∀ t, Steps p.tables e below (s₁.setTop (mkF m 0 #[.val (.ref a1), .val (.long q2), .second] [])) t → Steps p.tables e below (s₁.setTop (entryFrame m #[(.ref a1), (.long q2)] 3)) t := fun t k => castTop (ef4_2 m a1 q2 a3 w7 q8 q9 q10 a14) k
  obtain ⟨T4, X4, e4, st4⟩ := getF X0 hx hZ hown (host := "") (Or.inl (tw_14 hw)) Via.refl e0 P1 (g := (mkF m 1 #[.val (.ref a1), .val (.long q2), .second] [(.ref a1)])) rfl rfl (hb hby d4_1)
  obtain ⟨T5, X5, e5, st5⟩ := getF X4 hx hZ hown (host := "") (Or.inl (tw_23 hw)) Via.refl e4 P2 (g := (mkF m 6 #[.val (.ref a1), .val (.long q2), .second] [(.ref a1), (.ref a1), (.ref a3)])) rfl rfl (hb hby d4_6)
  obtain ⟨T6, h6, X6, e6, W6, st6⟩ := putF X5 hx hZ hown (host := "") (Or.inl (tw_23 hw)) Via.refl e5 P2 P3 (Or.inl (tw_24 hw)) (tw_1 hw) (ty := .int) (by decide) rfl rfl (g := (mkF m 12 #[.val (.ref a1), .val (.long q2), .second] [(.int (4 : Int32)), (.ref a1), (.int (3 : Int32)), (.ref a3)])) rfl rfl (hb hby d4_12)
  have N6 := Fr.snoc X6 N0 P4
  have Fw6 := Fld.same W6 P2
  have F11 := (Arv.other P5 W6 P6)
  obtain ⟨clx12, Arx12, qx12, Sx12, Nx12, Hx12, Gx12⟩ := (id F11)
  have hinx12 : ¬ ((3 : Int32) < 0 ∨ clx12.slots.size ≤ ((3 : Int32)).toNatClampNeg) := inb_of Sx12 ⟨by decide, by decide⟩
  obtain ⟨T13, h13, X13, e13, W13, st13⟩ := stJ X6 hx hZ e6 Arx12 (j := (3 : Int32)) hinx12 (g := (mkF m 16 #[.val (.ref a1), .val (.long q2), .second] [(.long q2), (.int (3 : Int32)), (.ref a3)])) rfl rfl (hb hby d4_16)
  have N13 := Fr.snoc X13 N6 P7
  have V13 : Arv Z h13 a3 w7 .long (4 : Int32) [(.long q8), (.long q9), (.long q10), (.long q2)] (.long (0 : Int64)) := Arv.set Arx12 qx12 Sx12 Nx12 Hx12 Gx12 rfl W13 3 rfl (Nat.le_of_ble_eq_true rfl)
  have F15 := (Fld.other W13 Fw6 (Or.inl (Ne.symm P6)))
  have F16 := (Fld.other W13 (Fld.other W6 P9 (Or.inr (slot_ne (Or.inr (tw_17 hw)) (Or.inl (tw_24 hw)) (by decide) (t := (.object "java/lang/Object")) (t' := .int) (by decide) (by decide)))) (Or.inl (Ne.symm P6)))
  have F17 := (Fld.other W13 (Fld.other W6 P1 (Or.inr (slot_ne (Or.inl (tw_15 hw)) (Or.inl (tw_24 hw)) (by decide) (t := (.array .long)) (t' := .int) (by decide) (by decide)))) (Or.inl (Ne.symm P6)))
  have F18 := (Fld.other W13 (Fld.other W6 P8 (Or.inr (slot_ne (Or.inl (tw_12 hw)) (Or.inl (tw_24 hw)) (by decide) (t := (.object "java/math/BigDecimal")) (t' := .int) (by decide) (by decide)))) (Or.inl (Ne.symm P6)))
  have K19 := (Keep.refl h0 [a1, a3]).wr W6 (Or.inl (List.mem_of_getElem? (i := 0) rfl))
  have K20 := K19.wr W13 (Or.inl (List.mem_of_getElem? (i := 1) rfl))
  obtain ⟨fs, hr, hrun, hended, hW, hsame⟩ := X13.leave (v := none) (fun _ => rfl)
  refine ⟨_, _, pre0 _ ?_, hrun, hended, _, _, rfl, ?_, ⟨_, rfl⟩, hW, hsame.mono (by decide) (by decide)⟩
  · show Steps p.tables e below (s₁.setTop (mkF m 0 #[.val (.ref a1), .val (.long q2), .second] [])) _
    refine XS.aloadN X0.here hx rfl (hb hby d4_0) rfl rfl ?_
    show Steps p.tables e below (s₁.setTop (mkF m 1 #[.val (.ref a1), .val (.long q2), .second] [(.ref a1)])) _
    refine st4 _ ?_
    show Steps p.tables e below (T4.setTop (mkF m 4 #[.val (.ref a1), .val (.long q2), .second] [(.ref a3)])) _
    refine XS.aloadN X4.here hx rfl (hb hby d4_4) rfl rfl ?_
    show Steps p.tables e below (T4.setTop (mkF m 5 #[.val (.ref a1), .val (.long q2), .second] [(.ref a1), (.ref a3)])) _
    refine XS.dup X4.here hx rfl (hb hby d4_5) rfl rfl ?_
    show Steps p.tables e below (T4.setTop (mkF m 6 #[.val (.ref a1), .val (.long q2), .second] [(.ref a1), (.ref a1), (.ref a3)])) _
    refine st5 _ ?_
    show Steps p.tables e below (T5.setTop (mkF m 9 #[.val (.ref a1), .val (.long q2), .second] [(.int (3 : Int32)), (.ref a1), (.ref a3)])) _
    refine XS.dupX1 X5.here hx rfl (hb hby d4_9) rfl rfl rfl ?_
    show Steps p.tables e below (T5.setTop (mkF m 10 #[.val (.ref a1), .val (.long q2), .second] [(.int (3 : Int32)), (.ref a1), (.int (3 : Int32)), (.ref a3)])) _
    refine XS.iconst X5.here hx rfl (hb hby d4_10) ?_
    show Steps p.tables e below (T5.setTop (mkF m 11 #[.val (.ref a1), .val (.long q2), .second] [(.int (1 : Int32)), (.int (3 : Int32)), (.ref a1), (.int (3 : Int32)), (.ref a3)])) _
    refine XS.iadd X5.here hx rfl (hb hby d4_11) rfl ?_
    show Steps p.tables e below (T5.setTop (mkF m 12 #[.val (.ref a1), .val (.long q2), .second] [(.int ((3 : Int32) + (1 : Int32))), (.ref a1), (.int (3 : Int32)), (.ref a3)])) _
    rw [show ((3 : Int32) + (1 : Int32)) = (4 : Int32) from by decide]
    show Steps p.tables e below (T5.setTop (mkF m 12 #[.val (.ref a1), .val (.long q2), .second] [(.int (4 : Int32)), (.ref a1), (.int (3 : Int32)), (.ref a3)])) _
    refine st6 _ ?_
    show Steps p.tables e below (T6.setTop (mkF m 15 #[.val (.ref a1), .val (.long q2), .second] [(.int (3 : Int32)), (.ref a3)])) _
    refine XS.lloadN X6.here hx rfl (hb hby d4_15) rfl ?_
    show Steps p.tables e below (T6.setTop (mkF m 16 #[.val (.ref a1), .val (.long q2), .second] [(.long q2), (.int (3 : Int32)), (.ref a3)])) _
    refine st13 _ ?_
    show Steps p.tables e below (T13.setTop (mkF m 17 #[.val (.ref a1), .val (.long q2), .second] [])) _
    exact X13.returnOut hx Bd.returns (hb hby d4_17) hr
  · show Q4_2 Z a1 q2 a3 w7 q8 q9 q10 a14 h0 n0 _ T13.heap _
    rw [e13]
    exact ⟨rfl, N13, K20, F15, F16, F17, F18, V13⟩
theorem ef9_1 (m : MethodId) (a1 : Addr) : entryFrame m #[(.ref a1)] 1 = mkF m 0 #[.val (.ref a1)] [] := by first | (simp [entryFrame, mkF, argsToLocals, Value.category]; done) | rfl
def Q9_1 (Z : State) (a1 : Addr) (h0 : Heap) (n0 : Nat) (v : Option Value) (h : Heap) (L : List Loc) : Prop := v = some (.int (2 : Int32)) ∧ Fr n0 L ∧ h = h0
set_option maxRecDepth 65536 in
set_option maxHeartbeats 40000000 in
theorem rm9_1 (l : Launch) (Z : State) (a0 : Array Value) (hw : ∀ d ∈ tables_1, d.before a0 Z = true) (ws : List Jvm.Cond) (a1 : Addr) (h0 : Heap) (n0 : Nat) (Z0 : n0 ≤ h0.size) (P1 : Fld Z h0 a1 "com/example/nakazilo/nakazilo/PaymentGroup" "bounds" "I" (.int (4 : Int32))) :
    MetFree l (⟨"com/example/nakazilo/nakazilo/PaymentGroup", "spans", "()I"⟩ : MethodName) (head1 (Jvm.Cond.code (⟨"com/example/nakazilo/nakazilo/PaymentGroup", "spans", "()I"⟩ : MethodName) prog_91_method_8_code 1 (some .int) :: ws) ({ frames := 0, cells := 0, slots := 0, locals := 0 } : Room)) (fun a U => a = #[(.ref a1)] ∧ Z.Warmed39 U.vm ∧ U.heap = h0) (fun _ _ _ _ _ => True) (fun _ U o U' => ∃ v L, o = .returned v ∧ Q9_1 Z a1 h0 n0 v U'.heap L ∧ FrameEnd U o U' L ({ frames := 0, cells := 0, slots := 0, locals := 0 } : Room).cells ({ frames := 0, cells := 0, slots := 0, locals := 0 } : Room).slots) := by
  refine MetFree.of_bodySF (plainFor_of_name pn_0) hisR ?_
  intro p e s m args below meth c s₁ Bd hml0 hP hK
  obtain ⟨rfl, hZ, hh⟩ := hP
  have hx := Bd.exec
  have hby := Bd.bytes
  have hml : c.maxLocals = 1 := hml0
  have hown : s.vm.findClass "com/example/nakazilo/nakazilo/PaymentGroup" = some m.cls := findClass_of_methodNamed Bd.named
  have hnm := (name_of_methodNamed Bd.named Bd.method).1
  have X0 : Stand p l e ({ frames := 0, cells := 0, slots := 0, locals := 0 } : Room) s m #[(.ref a1)] below meth c s₁ [] 0 0 := Stand.of_body Bd
  have e0 : s₁.heap = h0 := by rw [← hh, Bd.state]; rfl
  have N0 := Fr.nil n0
  have pre0 : ∀ t, Steps p.tables e below (s₁.setTop (mkF m 0 #[.val (.ref a1)] [])) t → Steps p.tables e below (s₁.setTop (entryFrame m #[(.ref a1)] 1)) t := fun t k => castTop (ef9_1 m a1) k
  obtain ⟨T2, X2, e2, st2⟩ := getF X0 hx hZ hown (host := "") (Or.inl (tw_23 hw)) Via.refl e0 P1 (g := (mkF m 1 #[.val (.ref a1)] [(.ref a1)])) rfl rfl (hb hby d9_1)
  obtain ⟨fs, hr, hrun, hended, hW, hsame⟩ := X2.leave (v := some (.int (2 : Int32))) (fun h => by rw [Bd.returns] at h; cases h)
  refine ⟨_, _, pre0 _ ?_, hrun, hended, _, _, rfl, ?_, ⟨_, rfl⟩, hW, hsame.mono (by decide) (by decide)⟩
  · show Steps p.tables e below (s₁.setTop (mkF m 0 #[.val (.ref a1)] [])) _
    refine XS.aloadN X0.here hx rfl (hb hby d9_0) rfl rfl ?_
    show Steps p.tables e below (s₁.setTop (mkF m 1 #[.val (.ref a1)] [(.ref a1)])) _
    refine st2 _ ?_
    show Steps p.tables e below (T2.setTop (mkF m 4 #[.val (.ref a1)] [(.int (4 : Int32))])) _
    refine XS.iconst X2.here hx rfl (hb hby d9_4) ?_
    show Steps p.tables e below (T2.setTop (mkF m 5 #[.val (.ref a1)] [(.int (2 : Int32)), (.int (4 : Int32))])) _
    refine XS.idiv X2.here hx rfl (hb hby d9_5) rfl (by decide) ?_
    show Steps p.tables e below (T2.setTop (mkF m 6 #[.val (.ref a1)] [(.int ((4 : Int32) / (2 : Int32)))])) _
    rw [show ((4 : Int32) / (2 : Int32)) = (2 : Int32) from by decide]
    show Steps p.tables e below (T2.setTop (mkF m 6 #[.val (.ref a1)] [(.int (2 : Int32))])) _
    exact retI X2 hx Bd.returns (hb hby d9_6) hr
  · show Q9_1 Z a1 h0 n0 _ T2.heap _
    rw [e2]
    exact ⟨rfl, N0, rfl⟩
theorem ef5_2 (m : MethodId) (a1 : Addr) (a2 : Addr) (w4 : ClassId) (q5 : Int64) (q6 : Int64) (q7 : Int64) (q8 : Int64) : entryFrame m #[(.ref a1), (.int (1 : Int32))] 2 = mkF m 0 #[.val (.ref a1), .val (.int (1 : Int32))] [] := by first | (simp [entryFrame, mkF, argsToLocals, Value.category]; done) | rfl
def Q5_2 (Z : State) (a1 : Addr) (a2 : Addr) (w4 : ClassId) (q5 : Int64) (q6 : Int64) (q7 : Int64) (q8 : Int64) (h0 : Heap) (n0 : Nat) (v : Option Value) (h : Heap) (L : List Loc) : Prop := v = some (.long q7) ∧ Fr n0 L ∧ h = h0
set_option maxRecDepth 65536 in
set_option maxHeartbeats 40000000 in
theorem rm5_2 (l : Launch) (Z : State) (a0 : Array Value) (hw : ∀ d ∈ tables_1, d.before a0 Z = true) (ws : List Jvm.Cond) (a1 : Addr) (a2 : Addr) (w4 : ClassId) (q5 : Int64) (q6 : Int64) (q7 : Int64) (q8 : Int64) (h0 : Heap) (n0 : Nat) (Z0 : n0 ≤ h0.size) (P1 : Fld Z h0 a1 "com/example/nakazilo/nakazilo/PaymentGroup" "spans" "[J" (.ref a2)) (P2 : Arv Z h0 a2 w4 .long (4 : Int32) [(.long q5), (.long q6), (.long q7), (.long q8)] (.long (0 : Int64))) :
    MetFree l (⟨"com/example/nakazilo/nakazilo/PaymentGroup", "spanStart", "(I)J"⟩ : MethodName) (head1 (Jvm.Cond.code (⟨"com/example/nakazilo/nakazilo/PaymentGroup", "spanStart", "(I)J"⟩ : MethodName) prog_91_method_9_code 2 (some .long) :: ws) ({ frames := 0, cells := 0, slots := 0, locals := 0 } : Room)) (fun a U => a = #[(.ref a1), (.int (1 : Int32))] ∧ Z.Warmed39 U.vm ∧ U.heap = h0) (fun _ _ _ _ _ => True) (fun _ U o U' => ∃ v L, o = .returned v ∧ Q5_2 Z a1 a2 w4 q5 q6 q7 q8 h0 n0 v U'.heap L ∧ FrameEnd U o U' L ({ frames := 0, cells := 0, slots := 0, locals := 0 } : Room).cells ({ frames := 0, cells := 0, slots := 0, locals := 0 } : Room).slots) := by
  refine MetFree.of_bodySF (plainFor_of_name pn_0) hisR ?_
  intro p e s m args below meth c s₁ Bd hml0 hP hK
  obtain ⟨rfl, hZ, hh⟩ := hP
  have hx := Bd.exec
  have hby := Bd.bytes
  have hml : c.maxLocals = 2 := hml0
  have hown : s.vm.findClass "com/example/nakazilo/nakazilo/PaymentGroup" = some m.cls := findClass_of_methodNamed Bd.named
  have hnm := (name_of_methodNamed Bd.named Bd.method).1
  have X0 : Stand p l e ({ frames := 0, cells := 0, slots := 0, locals := 0 } : Room) s m #[(.ref a1), (.int (1 : Int32))] below meth c s₁ [] 0 0 := Stand.of_body Bd
  have e0 : s₁.heap = h0 := by rw [← hh, Bd.state]; rfl
  have N0 := Fr.nil n0
  have pre0 : ∀ t, Steps p.tables e below (s₁.setTop (mkF m 0 #[.val (.ref a1), .val (.int (1 : Int32))] [])) t → Steps p.tables e below (s₁.setTop (entryFrame m #[(.ref a1), (.int (1 : Int32))] 2)) t := fun t k => castTop (ef5_2 m a1 a2 w4 q5 q6 q7 q8) k
  obtain ⟨T3, X3, e3, st3⟩ := getF X0 hx hZ hown (host := "") (Or.inl (tw_14 hw)) Via.refl e0 P1 (g := (mkF m 1 #[.val (.ref a1), .val (.int (1 : Int32))] [(.ref a1)])) rfl rfl (hb hby d5_1)
  obtain ⟨clx9, Arx9, qx9, Sx9, Nx9, Hx9, Gx9⟩ := (id P2)
  have hinx9 : ¬ ((2 : Int32) < 0 ∨ clx9.slots.size ≤ ((2 : Int32)).toNatClampNeg) := inb_of Sx9 ⟨by decide, by decide⟩
  have hatx9 : clx9.slots[((2 : Int32)).toNatClampNeg]? = some (.long q7) := Has.at Hx9 hinx9 rfl
  obtain ⟨fs, hr, hrun, hended, hW, hsame⟩ := X3.leave (v := some (.long q7)) (fun h => by rw [Bd.returns] at h; cases h)
  refine ⟨_, _, pre0 _ ?_, hrun, hended, _, _, rfl, ?_, ⟨_, rfl⟩, hW, hsame.mono (by decide) (by decide)⟩
  · show Steps p.tables e below (s₁.setTop (mkF m 0 #[.val (.ref a1), .val (.int (1 : Int32))] [])) _
    refine XS.aloadN X0.here hx rfl (hb hby d5_0) rfl rfl ?_
    show Steps p.tables e below (s₁.setTop (mkF m 1 #[.val (.ref a1), .val (.int (1 : Int32))] [(.ref a1)])) _
    refine st3 _ ?_
    show Steps p.tables e below (T3.setTop (mkF m 4 #[.val (.ref a1), .val (.int (1 : Int32))] [(.ref a2)])) _
    refine XS.iconst X3.here hx rfl (hb hby d5_4) ?_
    show Steps p.tables e below (T3.setTop (mkF m 5 #[.val (.ref a1), .val (.int (1 : Int32))] [(.int (2 : Int32)), (.ref a2)])) _
    refine XS.iloadN X3.here hx rfl (hb hby d5_5) rfl ?_
    show Steps p.tables e below (T3.setTop (mkF m 6 #[.val (.ref a1), .val (.int (1 : Int32))] [(.int (1 : Int32)), (.int (2 : Int32)), (.ref a2)])) _
    refine XS.imul X3.here hx rfl (hb hby d5_6) rfl ?_
    show Steps p.tables e below (T3.setTop (mkF m 7 #[.val (.ref a1), .val (.int (1 : Int32))] [(.int ((2 : Int32) * (1 : Int32))), (.ref a2)])) _
    rw [show ((2 : Int32) * (1 : Int32)) = (2 : Int32) from by decide]
    show Steps p.tables e below (T3.setTop (mkF m 7 #[.val (.ref a1), .val (.int (1 : Int32))] [(.int (2 : Int32)), (.ref a2)])) _
    refine X3.laload hx (j := (2 : Int32)) (v := (.long q7)) (by rw [e3]; exact Arx9.1) (State.isArrayOf_alike hZ.alike Arx9.2.1) Arx9.2.2 hinx9 hatx9 (g := (mkF m 7 #[.val (.ref a1), .val (.int (1 : Int32))] [(.int (2 : Int32)), (.ref a2)])) rfl rfl (hb hby d5_7) _ ?_
    show Steps p.tables e below (T3.setTop (mkF m 8 #[.val (.ref a1), .val (.int (1 : Int32))] [(.long q7)])) _
    jvm_step X3.here [X3.here.top, hx, (hb hby d5_8), X3.method', Bd.returns, narrow]
    first | (intro acts; rw [hr _ acts rfl rfl rfl]) | rw [hr _ _ rfl rfl rfl]
    exact Steps.refl _
  · show Q5_2 Z a1 a2 w4 q5 q6 q7 q8 h0 n0 _ T3.heap _
    rw [e3]
    exact ⟨rfl, N0, rfl⟩
theorem ef6_2 (m : MethodId) (a1 : Addr) (a2 : Addr) (w4 : ClassId) (q5 : Int64) (q6 : Int64) (q7 : Int64) (q8 : Int64) : entryFrame m #[(.ref a1), (.int (1 : Int32))] 2 = mkF m 0 #[.val (.ref a1), .val (.int (1 : Int32))] [] := by first | (simp [entryFrame, mkF, argsToLocals, Value.category]; done) | rfl
def Q6_2 (Z : State) (a1 : Addr) (a2 : Addr) (w4 : ClassId) (q5 : Int64) (q6 : Int64) (q7 : Int64) (q8 : Int64) (h0 : Heap) (n0 : Nat) (v : Option Value) (h : Heap) (L : List Loc) : Prop := v = some (.long q8) ∧ Fr n0 L ∧ h = h0
set_option maxRecDepth 65536 in
set_option maxHeartbeats 40000000 in
theorem rm6_2 (l : Launch) (Z : State) (a0 : Array Value) (hw : ∀ d ∈ tables_1, d.before a0 Z = true) (ws : List Jvm.Cond) (a1 : Addr) (a2 : Addr) (w4 : ClassId) (q5 : Int64) (q6 : Int64) (q7 : Int64) (q8 : Int64) (h0 : Heap) (n0 : Nat) (Z0 : n0 ≤ h0.size) (P1 : Fld Z h0 a1 "com/example/nakazilo/nakazilo/PaymentGroup" "spans" "[J" (.ref a2)) (P2 : Arv Z h0 a2 w4 .long (4 : Int32) [(.long q5), (.long q6), (.long q7), (.long q8)] (.long (0 : Int64))) :
    MetFree l (⟨"com/example/nakazilo/nakazilo/PaymentGroup", "spanEnd", "(I)J"⟩ : MethodName) (head1 (Jvm.Cond.code (⟨"com/example/nakazilo/nakazilo/PaymentGroup", "spanEnd", "(I)J"⟩ : MethodName) prog_91_method_10_code 2 (some .long) :: ws) ({ frames := 0, cells := 0, slots := 0, locals := 0 } : Room)) (fun a U => a = #[(.ref a1), (.int (1 : Int32))] ∧ Z.Warmed39 U.vm ∧ U.heap = h0) (fun _ _ _ _ _ => True) (fun _ U o U' => ∃ v L, o = .returned v ∧ Q6_2 Z a1 a2 w4 q5 q6 q7 q8 h0 n0 v U'.heap L ∧ FrameEnd U o U' L ({ frames := 0, cells := 0, slots := 0, locals := 0 } : Room).cells ({ frames := 0, cells := 0, slots := 0, locals := 0 } : Room).slots) := by
  refine MetFree.of_bodySF (plainFor_of_name pn_0) hisR ?_
  intro p e s m args below meth c s₁ Bd hml0 hP hK
  obtain ⟨rfl, hZ, hh⟩ := hP
  have hx := Bd.exec
  have hby := Bd.bytes
  have hml : c.maxLocals = 2 := hml0
  have hown : s.vm.findClass "com/example/nakazilo/nakazilo/PaymentGroup" = some m.cls := findClass_of_methodNamed Bd.named
  have hnm := (name_of_methodNamed Bd.named Bd.method).1
  have X0 : Stand p l e ({ frames := 0, cells := 0, slots := 0, locals := 0 } : Room) s m #[(.ref a1), (.int (1 : Int32))] below meth c s₁ [] 0 0 := Stand.of_body Bd
  have e0 : s₁.heap = h0 := by rw [← hh, Bd.state]; rfl
  have N0 := Fr.nil n0
  have pre0 : ∀ t, Steps p.tables e below (s₁.setTop (mkF m 0 #[.val (.ref a1), .val (.int (1 : Int32))] [])) t → Steps p.tables e below (s₁.setTop (entryFrame m #[(.ref a1), (.int (1 : Int32))] 2)) t := fun t k => castTop (ef6_2 m a1 a2 w4 q5 q6 q7 q8) k
  obtain ⟨T3, X3, e3, st3⟩ := getF X0 hx hZ hown (host := "") (Or.inl (tw_14 hw)) Via.refl e0 P1 (g := (mkF m 1 #[.val (.ref a1), .val (.int (1 : Int32))] [(.ref a1)])) rfl rfl (hb hby d6_1)
  obtain ⟨clx9, Arx9, qx9, Sx9, Nx9, Hx9, Gx9⟩ := (id P2)
  have hinx9 : ¬ ((3 : Int32) < 0 ∨ clx9.slots.size ≤ ((3 : Int32)).toNatClampNeg) := inb_of Sx9 ⟨by decide, by decide⟩
  have hatx9 : clx9.slots[((3 : Int32)).toNatClampNeg]? = some (.long q8) := Has.at Hx9 hinx9 rfl
  obtain ⟨fs, hr, hrun, hended, hW, hsame⟩ := X3.leave (v := some (.long q8)) (fun h => by rw [Bd.returns] at h; cases h)
  refine ⟨_, _, pre0 _ ?_, hrun, hended, _, _, rfl, ?_, ⟨_, rfl⟩, hW, hsame.mono (by decide) (by decide)⟩
  · show Steps p.tables e below (s₁.setTop (mkF m 0 #[.val (.ref a1), .val (.int (1 : Int32))] [])) _
    refine XS.aloadN X0.here hx rfl (hb hby d6_0) rfl rfl ?_
    show Steps p.tables e below (s₁.setTop (mkF m 1 #[.val (.ref a1), .val (.int (1 : Int32))] [(.ref a1)])) _
    refine st3 _ ?_
    show Steps p.tables e below (T3.setTop (mkF m 4 #[.val (.ref a1), .val (.int (1 : Int32))] [(.ref a2)])) _
    refine XS.iconst X3.here hx rfl (hb hby d6_4) ?_
    show Steps p.tables e below (T3.setTop (mkF m 5 #[.val (.ref a1), .val (.int (1 : Int32))] [(.int (2 : Int32)), (.ref a2)])) _
    refine XS.iloadN X3.here hx rfl (hb hby d6_5) rfl ?_
    show Steps p.tables e below (T3.setTop (mkF m 6 #[.val (.ref a1), .val (.int (1 : Int32))] [(.int (1 : Int32)), (.int (2 : Int32)), (.ref a2)])) _
    refine XS.imul X3.here hx rfl (hb hby d6_6) rfl ?_
    show Steps p.tables e below (T3.setTop (mkF m 7 #[.val (.ref a1), .val (.int (1 : Int32))] [(.int ((2 : Int32) * (1 : Int32))), (.ref a2)])) _
    rw [show ((2 : Int32) * (1 : Int32)) = (2 : Int32) from by decide]
    show Steps p.tables e below (T3.setTop (mkF m 7 #[.val (.ref a1), .val (.int (1 : Int32))] [(.int (2 : Int32)), (.ref a2)])) _
    refine XS.iconst X3.here hx rfl (hb hby d6_7) ?_
    show Steps p.tables e below (T3.setTop (mkF m 8 #[.val (.ref a1), .val (.int (1 : Int32))] [(.int (1 : Int32)), (.int (2 : Int32)), (.ref a2)])) _
    refine XS.iadd X3.here hx rfl (hb hby d6_8) rfl ?_
    show Steps p.tables e below (T3.setTop (mkF m 9 #[.val (.ref a1), .val (.int (1 : Int32))] [(.int ((2 : Int32) + (1 : Int32))), (.ref a2)])) _
    rw [show ((2 : Int32) + (1 : Int32)) = (3 : Int32) from by decide]
    show Steps p.tables e below (T3.setTop (mkF m 9 #[.val (.ref a1), .val (.int (1 : Int32))] [(.int (3 : Int32)), (.ref a2)])) _
    refine X3.laload hx (j := (3 : Int32)) (v := (.long q8)) (by rw [e3]; exact Arx9.1) (State.isArrayOf_alike hZ.alike Arx9.2.1) Arx9.2.2 hinx9 hatx9 (g := (mkF m 9 #[.val (.ref a1), .val (.int (1 : Int32))] [(.int (3 : Int32)), (.ref a2)])) rfl rfl (hb hby d6_9) _ ?_
    show Steps p.tables e below (T3.setTop (mkF m 10 #[.val (.ref a1), .val (.int (1 : Int32))] [(.long q8)])) _
    jvm_step X3.here [X3.here.top, hx, (hb hby d6_10), X3.method', Bd.returns, narrow]
    first | (intro acts; rw [hr _ acts rfl rfl rfl]) | rw [hr _ _ rfl rfl rfl]
    exact Steps.refl _
  · show Q6_2 Z a1 a2 w4 q5 q6 q7 q8 h0 n0 _ T3.heap _
    rw [e3]
    exact ⟨rfl, N0, rfl⟩
theorem ef6_3 (m : MethodId) (a1 : Addr) (a2 : Addr) (w4 : ClassId) (q5 : Int64) (q6 : Int64) (q7 : Int64) (q8 : Int64) : entryFrame m #[(.ref a1), (.int (0 : Int32))] 2 = mkF m 0 #[.val (.ref a1), .val (.int (0 : Int32))] [] := by first | (simp [entryFrame, mkF, argsToLocals, Value.category]; done) | rfl
def Q6_3 (Z : State) (a1 : Addr) (a2 : Addr) (w4 : ClassId) (q5 : Int64) (q6 : Int64) (q7 : Int64) (q8 : Int64) (h0 : Heap) (n0 : Nat) (v : Option Value) (h : Heap) (L : List Loc) : Prop := v = some (.long q6) ∧ Fr n0 L ∧ h = h0
set_option maxRecDepth 65536 in
set_option maxHeartbeats 40000000 in
theorem rm6_3 (l : Launch) (Z : State) (a0 : Array Value) (hw : ∀ d ∈ tables_1, d.before a0 Z = true) (ws : List Jvm.Cond) (a1 : Addr) (a2 : Addr) (w4 : ClassId) (q5 : Int64) (q6 : Int64) (q7 : Int64) (q8 : Int64) (h0 : Heap) (n0 : Nat) (Z0 : n0 ≤ h0.size) (P1 : Fld Z h0 a1 "com/example/nakazilo/nakazilo/PaymentGroup" "spans" "[J" (.ref a2)) (P2 : Arv Z h0 a2 w4 .long (4 : Int32) [(.long q5), (.long q6), (.long q7), (.long q8)] (.long (0 : Int64))) :
    MetFree l (⟨"com/example/nakazilo/nakazilo/PaymentGroup", "spanEnd", "(I)J"⟩ : MethodName) (head1 (Jvm.Cond.code (⟨"com/example/nakazilo/nakazilo/PaymentGroup", "spanEnd", "(I)J"⟩ : MethodName) prog_91_method_10_code 2 (some .long) :: ws) ({ frames := 0, cells := 0, slots := 0, locals := 0 } : Room)) (fun a U => a = #[(.ref a1), (.int (0 : Int32))] ∧ Z.Warmed39 U.vm ∧ U.heap = h0) (fun _ _ _ _ _ => True) (fun _ U o U' => ∃ v L, o = .returned v ∧ Q6_3 Z a1 a2 w4 q5 q6 q7 q8 h0 n0 v U'.heap L ∧ FrameEnd U o U' L ({ frames := 0, cells := 0, slots := 0, locals := 0 } : Room).cells ({ frames := 0, cells := 0, slots := 0, locals := 0 } : Room).slots) := by
  refine MetFree.of_bodySF (plainFor_of_name pn_0) hisR ?_
  intro p e s m args below meth c s₁ Bd hml0 hP hK
  obtain ⟨rfl, hZ, hh⟩ := hP
  have hx := Bd.exec
  have hby := Bd.bytes
  have hml : c.maxLocals = 2 := hml0
  have hown : s.vm.findClass "com/example/nakazilo/nakazilo/PaymentGroup" = some m.cls := findClass_of_methodNamed Bd.named
  have hnm := (name_of_methodNamed Bd.named Bd.method).1
  have X0 : Stand p l e ({ frames := 0, cells := 0, slots := 0, locals := 0 } : Room) s m #[(.ref a1), (.int (0 : Int32))] below meth c s₁ [] 0 0 := Stand.of_body Bd
  have e0 : s₁.heap = h0 := by rw [← hh, Bd.state]; rfl
  have N0 := Fr.nil n0
  have pre0 : ∀ t, Steps p.tables e below (s₁.setTop (mkF m 0 #[.val (.ref a1), .val (.int (0 : Int32))] [])) t → Steps p.tables e below (s₁.setTop (entryFrame m #[(.ref a1), (.int (0 : Int32))] 2)) t := fun t k => castTop (ef6_3 m a1 a2 w4 q5 q6 q7 q8) k
  obtain ⟨T3, X3, e3, st3⟩ := getF X0 hx hZ hown (host := "") (Or.inl (tw_14 hw)) Via.refl e0 P1 (g := (mkF m 1 #[.val (.ref a1), .val (.int (0 : Int32))] [(.ref a1)])) rfl rfl (hb hby d6_1)
  obtain ⟨clx9, Arx9, qx9, Sx9, Nx9, Hx9, Gx9⟩ := (id P2)
  have hinx9 : ¬ ((1 : Int32) < 0 ∨ clx9.slots.size ≤ ((1 : Int32)).toNatClampNeg) := inb_of Sx9 ⟨by decide, by decide⟩
  have hatx9 : clx9.slots[((1 : Int32)).toNatClampNeg]? = some (.long q6) := Has.at Hx9 hinx9 rfl
  obtain ⟨fs, hr, hrun, hended, hW, hsame⟩ := X3.leave (v := some (.long q6)) (fun h => by rw [Bd.returns] at h; cases h)
  refine ⟨_, _, pre0 _ ?_, hrun, hended, _, _, rfl, ?_, ⟨_, rfl⟩, hW, hsame.mono (by decide) (by decide)⟩
  · show Steps p.tables e below (s₁.setTop (mkF m 0 #[.val (.ref a1), .val (.int (0 : Int32))] [])) _
    refine XS.aloadN X0.here hx rfl (hb hby d6_0) rfl rfl ?_
    show Steps p.tables e below (s₁.setTop (mkF m 1 #[.val (.ref a1), .val (.int (0 : Int32))] [(.ref a1)])) _
    refine st3 _ ?_
    show Steps p.tables e below (T3.setTop (mkF m 4 #[.val (.ref a1), .val (.int (0 : Int32))] [(.ref a2)])) _
    refine XS.iconst X3.here hx rfl (hb hby d6_4) ?_
    show Steps p.tables e below (T3.setTop (mkF m 5 #[.val (.ref a1), .val (.int (0 : Int32))] [(.int (2 : Int32)), (.ref a2)])) _
    refine XS.iloadN X3.here hx rfl (hb hby d6_5) rfl ?_
    show Steps p.tables e below (T3.setTop (mkF m 6 #[.val (.ref a1), .val (.int (0 : Int32))] [(.int (0 : Int32)), (.int (2 : Int32)), (.ref a2)])) _
    refine XS.imul X3.here hx rfl (hb hby d6_6) rfl ?_
    show Steps p.tables e below (T3.setTop (mkF m 7 #[.val (.ref a1), .val (.int (0 : Int32))] [(.int ((2 : Int32) * (0 : Int32))), (.ref a2)])) _
    rw [show ((2 : Int32) * (0 : Int32)) = (0 : Int32) from by decide]
    show Steps p.tables e below (T3.setTop (mkF m 7 #[.val (.ref a1), .val (.int (0 : Int32))] [(.int (0 : Int32)), (.ref a2)])) _
    refine XS.iconst X3.here hx rfl (hb hby d6_7) ?_
    show Steps p.tables e below (T3.setTop (mkF m 8 #[.val (.ref a1), .val (.int (0 : Int32))] [(.int (1 : Int32)), (.int (0 : Int32)), (.ref a2)])) _
    refine XS.iadd X3.here hx rfl (hb hby d6_8) rfl ?_
    show Steps p.tables e below (T3.setTop (mkF m 9 #[.val (.ref a1), .val (.int (0 : Int32))] [(.int ((0 : Int32) + (1 : Int32))), (.ref a2)])) _
    rw [show ((0 : Int32) + (1 : Int32)) = (1 : Int32) from by decide]
    show Steps p.tables e below (T3.setTop (mkF m 9 #[.val (.ref a1), .val (.int (0 : Int32))] [(.int (1 : Int32)), (.ref a2)])) _
    refine X3.laload hx (j := (1 : Int32)) (v := (.long q6)) (by rw [e3]; exact Arx9.1) (State.isArrayOf_alike hZ.alike Arx9.2.1) Arx9.2.2 hinx9 hatx9 (g := (mkF m 9 #[.val (.ref a1), .val (.int (0 : Int32))] [(.int (1 : Int32)), (.ref a2)])) rfl rfl (hb hby d6_9) _ ?_
    show Steps p.tables e below (T3.setTop (mkF m 10 #[.val (.ref a1), .val (.int (0 : Int32))] [(.long q6)])) _
    jvm_step X3.here [X3.here.top, hx, (hb hby d6_10), X3.method', Bd.returns, narrow]
    first | (intro acts; rw [hr _ acts rfl rfl rfl]) | rw [hr _ _ rfl rfl rfl]
    exact Steps.refl _
  · show Q6_3 Z a1 a2 w4 q5 q6 q7 q8 h0 n0 _ T3.heap _
    rw [e3]
    exact ⟨rfl, N0, rfl⟩
theorem ef0 (m : MethodId) (q1 : Int64) (q2 : Int64) (q3 : Int64) (q4 : Int64) : entryFrame m #[(.long q1), (.long q2), (.long q3), (.long q4)] maxLocals = mkF m 0 #[.val (.long q1), .second, .val (.long q2), .second, .val (.long q3), .second, .val (.long q4), .second, .unset, .unset, .unset, .unset, .unset] [] := by first | (simp [entryFrame, mkF, argsToLocals, Value.category, maxLocals]; done) | rfl
def Q0 (h0 : Heap) (n0 : Nat) (v : Option Value) (h : Heap) (L : List Loc) : Prop := v = some (.int (1 : Int32)) ∧ Fr n0 L
set_option maxRecDepth 65536 in
set_option maxHeartbeats 40000000 in
theorem rm0_0 (l : Launch) (Z : State) (a0 : Array Value) (hw : ∀ d ∈ tables_1, d.before a0 Z = true) (ws : List Jvm.Cond) (q1 : Int64) (q2 : Int64) (q3 : Int64) (q4 : Int64) (s1 : Addr) (h0 : Heap) (n0 : Nat) (Z0 : n0 ≤ h0.size) (Sp0 : Sta Z Z.heap "java/math/BigDecimal" "ZERO" "Ljava/math/BigDecimal;" (.ref s1)) (Sp1 : Old Z n0 h0) (H1 : (lcmpW q1 q1) = (0 : Int32)) (H2 : (lcmpW q3 q3) = (0 : Int32)) (H3 : (nar .boolean (va2 q2 q4)) = (1 : Int32)) :
    MetFree l x (head1 (Jvm.Cond.code x code maxLocals ret :: ws) room_1) (fun a U => a = #[(.long q1), (.long q2), (.long q3), (.long q4)] ∧ Z.Warmed39 U.vm ∧ U.heap = h0) (fun _ _ _ _ _ => True) (fun _ U o U' => ∃ v L, o = .returned v ∧ Q0 h0 n0 v U'.heap L ∧ FrameEnd U o U' L 16 128) := by
  refine MetFree.of_bodySF (plainFor_of_name pn_2) hisR ?_
  intro p e s m args below meth c s₁ Bd hml0 hP hK
  obtain ⟨rfl, hZ, hh⟩ := hP
  have hx := Bd.exec
  have hby := Bd.bytes
  have hml : c.maxLocals = 13 := hml0
  have hown : s.vm.findClass "com/example/nakazilo/nakazilo/PaymentGroupEndSpanPinLaw" = some m.cls := findClass_of_methodNamed Bd.named
  have hnm := (name_of_methodNamed Bd.named Bd.method).1
  have X0 : Stand p l e room_1 s m #[(.long q1), (.long q2), (.long q3), (.long q4)] below meth c s₁ [] 0 0 := Stand.of_body Bd
  have e0 : s₁.heap = h0 := by rw [← hh, Bd.state]; rfl
  have N0 := Fr.nil n0
  have pre0 : ∀ t, Steps p.tables e below (s₁.setTop (mkF m 0 #[.val (.long q1), .second, .val (.long q2), .second, .val (.long q3), .second, .val (.long q4), .second, .unset, .unset, .unset, .unset, .unset] [])) t → Steps p.tables e below (s₁.setTop (entryFrame m #[(.long q1), (.long q2), (.long q3), (.long q4)] maxLocals)) t := fun t k => castTop (ef0 m q1 q2 q3 q4) k
  obtain ⟨T5, h5, X5, e5, E5, A5, D5, -, st5⟩ := newO X0 hx hZ hown (tw_0 hw) (tw_1 hw) (tw_2 hw) e0 (g := (mkF m 0 (LL1 q1 q2 q3 q4) [])) rfl (hb hby at_0) (by decide) (by decide)
  obtain ⟨b6, g5⟩ : ∃ z, z = h0.size := ⟨_, rfl⟩
  rw [← g5] at A5 D5 st5
  have q5 : n0 ≤ b6 := Nat.le_trans Z0 (Nat.le_of_eq g5.symm)
  have z5 : h0.size ≤ b6 := Nat.le_trans (Nat.le_refl h0.size) (Nat.le_of_eq g5.symm)
  have F7 : Fld Z h5 b6 "com/example/nakazilo/nakazilo/PaymentGroup" "total" "Ljava/math/BigDecimal;" .null := D5 (Or.inl (tw_12 hw)) (ty := (.object "java/math/BigDecimal")) (by decide)
  have F8 : Fld Z h5 b6 "com/example/nakazilo/nakazilo/PaymentGroup" "spans" "[J" .null := D5 (Or.inl (tw_15 hw)) (ty := (.array .long)) (by decide)
  have F9 : Fld Z h5 b6 "com/example/nakazilo/nakazilo/PaymentGroup" "first" "Ljava/lang/Object;" .null := D5 (Or.inr (tw_17 hw)) (ty := (.object "java/lang/Object")) (by decide)
  have F10 : Fld Z h5 b6 "com/example/nakazilo/nakazilo/PaymentGroup" "bounds" "I" (.int (0 : Int32)) := D5 (Or.inl (tw_24 hw)) (ty := .int) (by decide)
  have F11 := (Sp1.ext E5)
  obtain ⟨_, _, ⟨T12, L12, k12, n12⟩, -, X12, ⟨Lc12, hQ12, l12, y12, z12⟩, st12⟩ := X5.specialBack hx (y := (⟨"com/example/nakazilo/nakazilo/PaymentGroup", "<init>", "(Ljava/lang/Object;)V"⟩ : MethodName)) rfl hown (mvT hZ (tw_3 hw)) (mvT hZ (tw_4 hw)) (mvT hZ (tw_5 hw)) (by decide) (backOf (W := 1) (rm1_1 l Z a0 hw [] b6 s1 h5 n0 (Nat.le_trans Z0 E5.1) Sp0 F11 F7 A5 q5 F8 F9 F10) hZ (tw_5 hw) (tw_2 hw) (by decide) (by decide)) (g := (mkF m 5 (LL1 q1 q2 q3 q4) [.null, (.ref b6), (.ref b6)])) rfl (by rw [hml]; rfl) (Steps.refl _) (a := b6) (argsL := [.null]) (rest := [(.ref b6)]) (lenOf pd_0 rfl) rfl (by show 2 * 0 + _ ≤ _; exact Nat.le_of_eq rfl) (hb hby at_5) (fun _ _ => ⟨rfl, e5, (by decide : 1 + 1 ≤ _), (by decide : 5 + 2 ≤ _)⟩)
  dsimp only [Pt.U, Pt.locs, Pt.cells, Pt.slots] at X12 l12 y12 z12 st12 hQ12
  subst l12 y12 z12
  obtain ⟨b13, kk12_0, rfl, N12q, K12, qa12_0, qb12_0, f12_0, f12_1, f12_2, f12_3, f12_4⟩ := hQ12
  have N12 := Fr.app N0 N12q
  have qd12_0 := Nat.le_trans (Nat.le_trans (Nat.le_refl h0.size) E5.1) qb12_0
  have F14 := (Exa.keep A5 K12)
  obtain ⟨cq15, kq15, q15a, q15b, q15c⟩ := isOf hZ rfl F14
  obtain ⟨_, _, ⟨T15, L15, k15, n15⟩, -, X15, ⟨Lc15, hQ15, l15, y15, z15⟩, st15⟩ := X12.virtualBack hx (y := (⟨"com/example/nakazilo/nakazilo/PaymentGroup", "startSpan", "(J)V"⟩ : MethodName)) (z := (⟨"com/example/nakazilo/nakazilo/PaymentGroup", "startSpan", "(J)V"⟩ : MethodName)) hown (mvT hZ (tw_18 hw)) (mvT hZ (tw_19 hw)) (notFace_of_selects (args := #[]) (mvT hZ (tw_21 hw))) (mvT hZ (tw_21 hw)) (mvT hZ (tw_20 hw)) (by decide) (backOf (W := 0) (rm3_1 l Z a0 hw [] b6 q1 b13 kk12_0 s1 T12.heap n0 (Nat.le_trans (Nat.le_trans Z0 E5.1) K12.1) f12_0 f12_2 f12_4 F14 q5 (Ne.symm (Nat.ne_of_lt (Nat.lt_of_lt_of_le A5.lt qb12_0))) qa12_0 f12_3 f12_1) hZ (tw_22 hw) (tw_2 hw) (by decide) (by decide)) q15a q15c (g := (mkF m 13 (LL2 q1 q2 q3 q4 b6) [(.long q1), (.ref b6)])) rfl (by rw [hml]; rfl) (Steps.refl _) (argsL := [(.long q1)]) (rest := []) (lenOf pd_1 rfl) rfl (by show 2 * 0 + _ ≤ _; exact Nat.le_of_eq rfl) (hb hby at_13) (fun _ _ => ⟨rfl, rfl, (by decide : 2 + 0 ≤ _), (by decide : 7 + 0 ≤ _)⟩)
  dsimp only [Pt.U, Pt.locs, Pt.cells, Pt.slots] at X15 l15 y15 z15 st15 hQ15
  subst l15 y15 z15
  obtain ⟨rfl, N15q, K15, f15_0, f15_1, f15_2, f15_3, f15_4⟩ := hQ15
  have N15 := Fr.app N12 N15q
  have F16 := (Exa.keep F14 K15)
  have F18 := (Nat.le_trans (Nat.le_trans (Nat.le_trans Z0 E5.1) K12.1) K15.1)
  obtain ⟨cq17, kq17, q17a, q17b, q17c⟩ := isOf hZ rfl F16
  obtain ⟨_, _, ⟨T17, L17, k17, n17⟩, -, X17, ⟨Lc17, hQ17, l17, y17, z17⟩, st17⟩ := X15.virtualBack hx (y := (⟨"com/example/nakazilo/nakazilo/PaymentGroup", "endSpan", "(J)V"⟩ : MethodName)) (z := (⟨"com/example/nakazilo/nakazilo/PaymentGroup", "endSpan", "(J)V"⟩ : MethodName)) hown (mvT hZ (tw_25 hw)) (mvT hZ (tw_26 hw)) (notFace_of_selects (args := #[]) (mvT hZ (tw_28 hw))) (mvT hZ (tw_28 hw)) (mvT hZ (tw_27 hw)) (by decide) (backOf (W := 0) (rm4_1 l Z a0 hw [] b6 q2 b13 kk12_0 q1 s1 T15.heap n0 F18 f15_2 f15_0 F16 q5 f15_4 (Ne.symm (Nat.ne_of_lt (Nat.lt_of_lt_of_le A5.lt qb12_0))) qa12_0 f15_3 f15_1) hZ (tw_29 hw) (tw_2 hw) (by decide) (by decide)) q17a q17c (g := (mkF m 19 (LL2 q1 q2 q3 q4 b6) [(.long q2), (.ref b6)])) rfl (by rw [hml]; rfl) (Steps.refl _) (argsL := [(.long q2)]) (rest := []) (lenOf pd_1 rfl) rfl (by show 2 * 0 + _ ≤ _; exact Nat.le_of_eq rfl) (hb hby at_19) (fun _ _ => ⟨rfl, rfl, (by decide : 2 + 0 ≤ _), (by decide : 7 + 0 ≤ _)⟩)
  dsimp only [Pt.U, Pt.locs, Pt.cells, Pt.slots] at X17 l17 y17 z17 st17 hQ17
  subst l17 y17 z17
  obtain ⟨rfl, N17q, K17, f17_0, f17_1, f17_2, f17_3, f17_4⟩ := hQ17
  have N17 := Fr.app N15 N17q
  have F20 := (Nat.le_trans (Nat.le_trans (Nat.le_trans (Nat.le_trans Z0 E5.1) K12.1) K15.1) K17.1)
  have F21 := (Exa.keep F16 K17)
  obtain ⟨cq19, kq19, q19a, q19b, q19c⟩ := isOf hZ rfl F21
  obtain ⟨_, _, ⟨T19, L19, k19, n19⟩, -, X19, ⟨Lc19, hQ19, l19, y19, z19⟩, st19⟩ := X17.virtualBack hx (y := (⟨"com/example/nakazilo/nakazilo/PaymentGroup", "spanStart", "(I)J"⟩ : MethodName)) (z := (⟨"com/example/nakazilo/nakazilo/PaymentGroup", "spanStart", "(I)J"⟩ : MethodName)) hown (mvT hZ (tw_30 hw)) (mvT hZ (tw_31 hw)) (notFace_of_selects (args := #[]) (mvT hZ (tw_33 hw))) (mvT hZ (tw_33 hw)) (mvT hZ (tw_32 hw)) (by decide) (backOf (W := 0) (rm5_1 l Z a0 hw [] b6 b13 kk12_0 q1 q2 T17.heap n0 F20 f17_2 f17_4) hZ (tw_34 hw) (tw_2 hw) (by decide) (by decide)) q19a q19c (g := (mkF m 25 (LL2 q1 q2 q3 q4 b6) [(.int (0 : Int32)), (.ref b6)])) rfl (by rw [hml]; rfl) (Steps.refl _) (argsL := [(.int (0 : Int32))]) (rest := []) (lenOf pd_2 rfl) rfl (by show 2 * 0 + _ ≤ _; exact Nat.le_of_eq rfl) (hb hby at_25) (fun _ _ => ⟨rfl, rfl, (by decide : 2 + 0 ≤ _), (by decide : 7 + 0 ≤ _)⟩)
  dsimp only [Pt.U, Pt.locs, Pt.cells, Pt.slots] at X19 l19 y19 z19 st19 hQ19
  subst l19 y19 z19
  obtain ⟨rfl, N19q, e19q⟩ := hQ19
  have N19 := Fr.app N17 N19q
  have F23 := (Nat.le_trans (Nat.le_trans (Nat.le_trans (Nat.le_trans Z0 E5.1) K12.1) K15.1) K17.1)
  obtain ⟨cq22, kq22, q22a, q22b, q22c⟩ := isOf hZ e19q F21
  obtain ⟨_, _, ⟨T22, L22, k22, n22⟩, -, X22, ⟨Lc22, hQ22, l22, y22, z22⟩, st22⟩ := X19.virtualBack hx (y := (⟨"com/example/nakazilo/nakazilo/PaymentGroup", "spanEnd", "(I)J"⟩ : MethodName)) (z := (⟨"com/example/nakazilo/nakazilo/PaymentGroup", "spanEnd", "(I)J"⟩ : MethodName)) hown (mvT hZ (tw_35 hw)) (mvT hZ (tw_36 hw)) (notFace_of_selects (args := #[]) (mvT hZ (tw_38 hw))) (mvT hZ (tw_38 hw)) (mvT hZ (tw_37 hw)) (by decide) (backOf (W := 0) (rm6_1 l Z a0 hw [] b6 b13 kk12_0 q1 q2 T17.heap n0 F23 f17_2 f17_4) hZ (tw_39 hw) (tw_2 hw) (by decide) (by decide)) q22a q22c (g := (mkF m 36 (LL2 q1 q2 q3 q4 b6) [(.int (0 : Int32)), (.ref b6)])) rfl (by rw [hml]; rfl) (Steps.refl _) (argsL := [(.int (0 : Int32))]) (rest := []) (lenOf pd_2 rfl) rfl (by show 2 * 0 + _ ≤ _; exact Nat.le_of_eq rfl) (hb hby at_36) (fun _ _ => ⟨rfl, e19q, (by decide : 2 + 0 ≤ _), (by decide : 7 + 0 ≤ _)⟩)
  dsimp only [Pt.U, Pt.locs, Pt.cells, Pt.slots] at X22 l22 y22 z22 st22 hQ22
  subst l22 y22 z22
  obtain ⟨rfl, N22q, e22q⟩ := hQ22
  have N22 := Fr.app N19 N22q
  have F26 := (Nat.le_trans (Nat.le_trans (Nat.le_trans (Nat.le_trans Z0 E5.1) K12.1) K15.1) K17.1)
  obtain ⟨cq25, kq25, q25a, q25b, q25c⟩ := isOf hZ e22q F21
  obtain ⟨_, _, ⟨T25, L25, k25, n25⟩, -, X25, ⟨Lc25, hQ25, l25, y25, z25⟩, st25⟩ := X22.virtualBack hx (y := (⟨"com/example/nakazilo/nakazilo/PaymentGroup", "startSpan", "(J)V"⟩ : MethodName)) (z := (⟨"com/example/nakazilo/nakazilo/PaymentGroup", "startSpan", "(J)V"⟩ : MethodName)) hown (mvT hZ (tw_18 hw)) (mvT hZ (tw_19 hw)) (notFace_of_selects (args := #[]) (mvT hZ (tw_21 hw))) (mvT hZ (tw_21 hw)) (mvT hZ (tw_20 hw)) (by decide) (backOf (W := 0) (rm3_2 l Z a0 hw [] b6 q3 b13 kk12_0 q1 q2 s1 T17.heap n0 F26 f17_0 f17_2 f17_4 F21 q5 f17_3 f17_1) hZ (tw_22 hw) (tw_2 hw) (by decide) (by decide)) q25a q25c (g := (mkF m 55 (LL3 q1 q2 q3 q4 b6) [(.long q3), (.ref b6)])) rfl (by rw [hml]; rfl) (Steps.refl _) (argsL := [(.long q3)]) (rest := []) (lenOf pd_1 rfl) rfl (by show 2 * 0 + _ ≤ _; exact Nat.le_of_eq rfl) (hb hby at_55) (fun _ _ => ⟨rfl, e22q, (by decide : 2 + 1 ≤ _), (by decide : 7 + 4 ≤ _)⟩)
  dsimp only [Pt.U, Pt.locs, Pt.cells, Pt.slots] at X25 l25 y25 z25 st25 hQ25
  subst l25 y25 z25
  obtain ⟨b27, kk25_0, rfl, N25q, K25, qa25_0, qb25_0, f25_0, f25_1, f25_2, f25_3, f25_4⟩ := hQ25
  have N25 := Fr.app N22 N25q
  have F28 := (Nat.le_trans (Nat.le_trans (Nat.le_trans (Nat.le_trans (Nat.le_refl h0.size) E5.1) K12.1) K15.1) K17.1)
  have qd25_0 := Nat.le_trans F28 qb25_0
  have F29 := (Exa.keep F21 K25)
  have F31 := (Nat.le_trans (Nat.le_trans (Nat.le_trans (Nat.le_trans (Nat.le_trans Z0 E5.1) K12.1) K15.1) K17.1) K25.1)
  obtain ⟨cq30, kq30, q30a, q30b, q30c⟩ := isOf hZ rfl F29
  obtain ⟨_, _, ⟨T30, L30, k30, n30⟩, -, X30, ⟨Lc30, hQ30, l30, y30, z30⟩, st30⟩ := X25.virtualBack hx (y := (⟨"com/example/nakazilo/nakazilo/PaymentGroup", "endSpan", "(J)V"⟩ : MethodName)) (z := (⟨"com/example/nakazilo/nakazilo/PaymentGroup", "endSpan", "(J)V"⟩ : MethodName)) hown (mvT hZ (tw_25 hw)) (mvT hZ (tw_26 hw)) (notFace_of_selects (args := #[]) (mvT hZ (tw_28 hw))) (mvT hZ (tw_28 hw)) (mvT hZ (tw_27 hw)) (by decide) (backOf (W := 0) (rm4_2 l Z a0 hw [] b6 q4 b27 kk25_0 q1 q2 q3 s1 T25.heap n0 F31 f25_2 f25_0 F29 q5 f25_4 (Ne.symm (Nat.ne_of_lt (Nat.lt_of_lt_of_le f17_0.lt qb25_0))) qa25_0 f25_3 f25_1) hZ (tw_29 hw) (tw_2 hw) (by decide) (by decide)) q30a q30c (g := (mkF m 62 (LL3 q1 q2 q3 q4 b6) [(.long q4), (.ref b6)])) rfl (by rw [hml]; rfl) (Steps.refl _) (argsL := [(.long q4)]) (rest := []) (lenOf pd_1 rfl) rfl (by show 2 * 0 + _ ≤ _; exact Nat.le_of_eq rfl) (hb hby at_62) (fun _ _ => ⟨rfl, rfl, (by decide : 3 + 0 ≤ _), (by decide : 11 + 0 ≤ _)⟩)
  dsimp only [Pt.U, Pt.locs, Pt.cells, Pt.slots] at X30 l30 y30 z30 st30 hQ30
  subst l30 y30 z30
  obtain ⟨rfl, N30q, K30, f30_0, f30_1, f30_2, f30_3, f30_4⟩ := hQ30
  have N30 := Fr.app N25 N30q
  have F33 := (Nat.le_trans (Nat.le_trans (Nat.le_trans (Nat.le_trans (Nat.le_trans (Nat.le_trans Z0 E5.1) K12.1) K15.1) K17.1) K25.1) K30.1)
  have F34 := (Exa.keep F29 K30)
  obtain ⟨cq32, kq32, q32a, q32b, q32c⟩ := isOf hZ rfl F34
  obtain ⟨_, _, ⟨T32, L32, k32, n32⟩, -, X32, ⟨Lc32, hQ32, l32, y32, z32⟩, st32⟩ := X30.virtualBack hx (y := (⟨"com/example/nakazilo/nakazilo/PaymentGroup", "spans", "()I"⟩ : MethodName)) (z := (⟨"com/example/nakazilo/nakazilo/PaymentGroup", "spans", "()I"⟩ : MethodName)) hown (mvT hZ (tw_52 hw)) (mvT hZ (tw_53 hw)) (notFace_of_selects (args := #[]) (mvT hZ (tw_55 hw))) (mvT hZ (tw_55 hw)) (mvT hZ (tw_54 hw)) (by decide) (backOf (W := 0) (rm9_1 l Z a0 hw [] b6 T30.heap n0 F33 f30_0) hZ (tw_56 hw) (tw_2 hw) (by decide) (by decide)) q32a q32c (g := (mkF m 67 (LL3 q1 q2 q3 q4 b6) [(.ref b6)])) rfl (by rw [hml]; rfl) (Steps.refl _) (argsL := []) (rest := []) (lenOf pd_5 rfl) rfl (by show 2 * 0 + _ ≤ _; exact Nat.le_of_eq rfl) (hb hby at_67) (fun _ _ => ⟨rfl, rfl, (by decide : 3 + 0 ≤ _), (by decide : 11 + 0 ≤ _)⟩)
  dsimp only [Pt.U, Pt.locs, Pt.cells, Pt.slots] at X32 l32 y32 z32 st32 hQ32
  subst l32 y32 z32
  obtain ⟨rfl, N32q, e32q⟩ := hQ32
  have N32 := Fr.app N30 N32q
  have F36 := (Nat.le_trans (Nat.le_trans (Nat.le_trans (Nat.le_trans (Nat.le_trans (Nat.le_trans Z0 E5.1) K12.1) K15.1) K17.1) K25.1) K30.1)
  obtain ⟨cq35, kq35, q35a, q35b, q35c⟩ := isOf hZ e32q F34
  obtain ⟨_, _, ⟨T35, L35, k35, n35⟩, -, X35, ⟨Lc35, hQ35, l35, y35, z35⟩, st35⟩ := X32.virtualBack hx (y := (⟨"com/example/nakazilo/nakazilo/PaymentGroup", "spanStart", "(I)J"⟩ : MethodName)) (z := (⟨"com/example/nakazilo/nakazilo/PaymentGroup", "spanStart", "(I)J"⟩ : MethodName)) hown (mvT hZ (tw_30 hw)) (mvT hZ (tw_31 hw)) (notFace_of_selects (args := #[]) (mvT hZ (tw_33 hw))) (mvT hZ (tw_33 hw)) (mvT hZ (tw_32 hw)) (by decide) (backOf (W := 0) (rm5_2 l Z a0 hw [] b6 b27 kk25_0 q1 q2 q3 q4 T30.heap n0 F36 f30_2 f30_4) hZ (tw_34 hw) (tw_2 hw) (by decide) (by decide)) q35a q35c (g := (mkF m 84 (LL4 q1 q2 q3 q4 b6) [(.int (1 : Int32)), (.ref b6)])) rfl (by rw [hml]; rfl) (Steps.refl _) (argsL := [(.int (1 : Int32))]) (rest := []) (lenOf pd_2 rfl) rfl (by show 2 * 0 + _ ≤ _; exact Nat.le_of_eq rfl) (hb hby at_84) (fun _ _ => ⟨rfl, e32q, (by decide : 3 + 0 ≤ _), (by decide : 11 + 0 ≤ _)⟩)
  dsimp only [Pt.U, Pt.locs, Pt.cells, Pt.slots] at X35 l35 y35 z35 st35 hQ35
  subst l35 y35 z35
  obtain ⟨rfl, N35q, e35q⟩ := hQ35
  have N35 := Fr.app N32 N35q
  have F38 := (Nat.le_trans (Nat.le_trans (Nat.le_trans (Nat.le_trans (Nat.le_trans (Nat.le_trans Z0 E5.1) K12.1) K15.1) K17.1) K25.1) K30.1)
  obtain ⟨cq37, kq37, q37a, q37b, q37c⟩ := isOf hZ e35q F34
  obtain ⟨_, _, ⟨T37, L37, k37, n37⟩, -, X37, ⟨Lc37, hQ37, l37, y37, z37⟩, st37⟩ := X35.virtualBack hx (y := (⟨"com/example/nakazilo/nakazilo/PaymentGroup", "spanEnd", "(I)J"⟩ : MethodName)) (z := (⟨"com/example/nakazilo/nakazilo/PaymentGroup", "spanEnd", "(I)J"⟩ : MethodName)) hown (mvT hZ (tw_35 hw)) (mvT hZ (tw_36 hw)) (notFace_of_selects (args := #[]) (mvT hZ (tw_38 hw))) (mvT hZ (tw_38 hw)) (mvT hZ (tw_37 hw)) (by decide) (backOf (W := 0) (rm6_2 l Z a0 hw [] b6 b27 kk25_0 q1 q2 q3 q4 T30.heap n0 F38 f30_2 f30_4) hZ (tw_39 hw) (tw_2 hw) (by decide) (by decide)) q37a q37c (g := (mkF m 96 (LL4 q1 q2 q3 q4 b6) [(.int (1 : Int32)), (.ref b6)])) rfl (by rw [hml]; rfl) (Steps.refl _) (argsL := [(.int (1 : Int32))]) (rest := []) (lenOf pd_2 rfl) rfl (by show 2 * 0 + _ ≤ _; exact Nat.le_of_eq rfl) (hb hby at_96) (fun _ _ => ⟨rfl, e35q, (by decide : 3 + 0 ≤ _), (by decide : 11 + 0 ≤ _)⟩)
  dsimp only [Pt.U, Pt.locs, Pt.cells, Pt.slots] at X37 l37 y37 z37 st37 hQ37
  subst l37 y37 z37
  obtain ⟨rfl, N37q, e37q⟩ := hQ37
  have N37 := Fr.app N35 N37q
  have F41 := (Nat.le_trans (Nat.le_trans (Nat.le_trans (Nat.le_trans (Nat.le_trans (Nat.le_trans Z0 E5.1) K12.1) K15.1) K17.1) K25.1) K30.1)
  obtain ⟨cq40, kq40, q40a, q40b, q40c⟩ := isOf hZ e37q F34
  obtain ⟨_, _, ⟨T40, L40, k40, n40⟩, -, X40, ⟨Lc40, hQ40, l40, y40, z40⟩, st40⟩ := X37.virtualBack hx (y := (⟨"com/example/nakazilo/nakazilo/PaymentGroup", "spanEnd", "(I)J"⟩ : MethodName)) (z := (⟨"com/example/nakazilo/nakazilo/PaymentGroup", "spanEnd", "(I)J"⟩ : MethodName)) hown (mvT hZ (tw_35 hw)) (mvT hZ (tw_36 hw)) (notFace_of_selects (args := #[]) (mvT hZ (tw_38 hw))) (mvT hZ (tw_38 hw)) (mvT hZ (tw_37 hw)) (by decide) (backOf (W := 0) (rm6_3 l Z a0 hw [] b6 b27 kk25_0 q1 q2 q3 q4 T30.heap n0 F41 f30_2 f30_4) hZ (tw_39 hw) (tw_2 hw) (by decide) (by decide)) q40a q40c (g := (mkF m 115 (LL5 q1 q2 q3 q4 b6) [(.int (0 : Int32)), (.ref b6)])) rfl (by rw [hml]; rfl) (Steps.refl _) (argsL := [(.int (0 : Int32))]) (rest := []) (lenOf pd_2 rfl) rfl (by show 2 * 0 + _ ≤ _; exact Nat.le_of_eq rfl) (hb hby at_115) (fun _ _ => ⟨rfl, e37q, (by decide : 3 + 0 ≤ _), (by decide : 11 + 0 ≤ _)⟩)
  dsimp only [Pt.U, Pt.locs, Pt.cells, Pt.slots] at X40 l40 y40 z40 st40 hQ40
  subst l40 y40 z40
  obtain ⟨rfl, N40q, e40q⟩ := hQ40
  have N40 := Fr.app N37 N40q
  obtain ⟨fs, hr, hrun, hended, hW, hsame⟩ := X40.leave (v := some (.int (nar .boolean (va2 q2 q4)))) (fun h => by rw [Bd.returns] at h; cases h)
  refine ⟨_, _, pre0 _ ?_, hrun, hended, _, _, rfl, ?_, ⟨_, rfl⟩, hW, hsame.mono (by decide) (by decide)⟩
  · show Steps p.tables e below (s₁.setTop (mkF m 0 (LL1 q1 q2 q3 q4) [])) _
    refine st5 _ ?_
    show Steps p.tables e below (T5.setTop (mkF m 3 (LL1 q1 q2 q3 q4) [(.ref b6)])) _
    refine XS.dup X5.here hx rfl (hb hby at_3) rfl rfl ?_
    show Steps p.tables e below (T5.setTop (mkF m 4 (LL1 q1 q2 q3 q4) [(.ref b6), (.ref b6)])) _
    refine XS.aconstNull X5.here hx rfl (hb hby at_4) ?_
    show Steps p.tables e below (T5.setTop (mkF m 5 (LL1 q1 q2 q3 q4) [.null, (.ref b6), (.ref b6)])) _
    refine st12.trans ?_
    show Steps p.tables e below (T12.setTop (mkF m 8 (LL1 q1 q2 q3 q4) [(.ref b6)])) _
    refine XS.astore X12.here hx rfl (hb hby at_8) rfl rfl (l' := (LL2 q1 q2 q3 q4 b6)) rfl ?_
    show Steps p.tables e below (T12.setTop (mkF m 10 (LL2 q1 q2 q3 q4 b6) [])) _
    refine XS.aload X12.here hx rfl (hb hby at_10) rfl rfl ?_
    show Steps p.tables e below (T12.setTop (mkF m 12 (LL2 q1 q2 q3 q4 b6) [(.ref b6)])) _
    refine XS.lloadN X12.here hx rfl (hb hby at_12) rfl ?_
    show Steps p.tables e below (T12.setTop (mkF m 13 (LL2 q1 q2 q3 q4 b6) [(.long q1), (.ref b6)])) _
    refine st15.trans ?_
    show Steps p.tables e below (T15.setTop (mkF m 16 (LL2 q1 q2 q3 q4 b6) [])) _
    refine XS.aload X15.here hx rfl (hb hby at_16) rfl rfl ?_
    show Steps p.tables e below (T15.setTop (mkF m 18 (LL2 q1 q2 q3 q4 b6) [(.ref b6)])) _
    refine XS.lloadN X15.here hx rfl (hb hby at_18) rfl ?_
    show Steps p.tables e below (T15.setTop (mkF m 19 (LL2 q1 q2 q3 q4 b6) [(.long q2), (.ref b6)])) _
    refine st17.trans ?_
    show Steps p.tables e below (T17.setTop (mkF m 22 (LL2 q1 q2 q3 q4 b6) [])) _
    refine XS.aload X17.here hx rfl (hb hby at_22) rfl rfl ?_
    show Steps p.tables e below (T17.setTop (mkF m 24 (LL2 q1 q2 q3 q4 b6) [(.ref b6)])) _
    refine XS.iconst X17.here hx rfl (hb hby at_24) ?_
    show Steps p.tables e below (T17.setTop (mkF m 25 (LL2 q1 q2 q3 q4 b6) [(.int (0 : Int32)), (.ref b6)])) _
    refine st19.trans ?_
    show Steps p.tables e below (T19.setTop (mkF m 28 (LL2 q1 q2 q3 q4 b6) [(.long q1)])) _
    refine XS.lloadN X19.here hx rfl (hb hby at_28) rfl ?_
    show Steps p.tables e below (T19.setTop (mkF m 29 (LL2 q1 q2 q3 q4 b6) [(.long q1), (.long q1)])) _
    refine XS.lcmp X19.here hx rfl (hb hby at_29) rfl ?_
    show Steps p.tables e below (T19.setTop (mkF m 30 (LL2 q1 q2 q3 q4 b6) [(.int (lcmpW q1 q1))])) _
    refine XS.ifNo X19.here hx rfl (hb hby at_30) rfl ((if0 _ _).trans (teq H1).2) ?_
    show Steps p.tables e below (T19.setTop (mkF m 33 (LL2 q1 q2 q3 q4 b6) [])) _
    refine XS.aload X19.here hx rfl (hb hby at_33) rfl rfl ?_
    show Steps p.tables e below (T19.setTop (mkF m 35 (LL2 q1 q2 q3 q4 b6) [(.ref b6)])) _
    refine XS.iconst X19.here hx rfl (hb hby at_35) ?_
    show Steps p.tables e below (T19.setTop (mkF m 36 (LL2 q1 q2 q3 q4 b6) [(.int (0 : Int32)), (.ref b6)])) _
    refine st22.trans ?_
    show Steps p.tables e below (T22.setTop (mkF m 39 (LL2 q1 q2 q3 q4 b6) [(.long q2)])) _
    refine XS.lloadN X22.here hx rfl (hb hby at_39) rfl ?_
    show Steps p.tables e below (T22.setTop (mkF m 40 (LL2 q1 q2 q3 q4 b6) [(.long q2), (.long q2)])) _
    refine XS.lcmp X22.here hx rfl (hb hby at_40) rfl ?_
    suffices j24 : Steps p.tables e below (T22.setTop (mkF m 49 (LL2 q1 q2 q3 q4 b6) [(.int (va1 q2))])) (T40.setFrames fs) by
      show Steps p.tables e below (T22.setTop (mkF m 41 (LL2 q1 q2 q3 q4 b6) [(.int (lcmpW q2 q2))])) _
      by_cases j24_1 : (lcmpW q2 q2) = (0 : Int32)
      ·
        refine XS.ifNo X22.here hx rfl (hb hby at_41) rfl ((if0 _ _).trans (teq j24_1).2) ?_
        show Steps p.tables e below (T22.setTop (mkF m 44 (LL2 q1 q2 q3 q4 b6) [])) _
        refine XS.iconst X22.here hx rfl (hb hby at_44) ?_
        show Steps p.tables e below (T22.setTop (mkF m 45 (LL2 q1 q2 q3 q4 b6) [(.int (1 : Int32))])) _
        refine XS.goto X22.here hx rfl (pc0 := 45) (pc' := 49) rfl (hb hby at_45) (by decide) (by decide) ?_
        (try simp only [va1, if_pos j24_1] at j24)
        exact j24
      ·
        refine XS.ifYes X22.here hx rfl (pc0 := 41) (pc' := 48) rfl (hb hby at_41) rfl ((if0 _ _).trans (feq j24_1).2) (by decide) (by decide) ?_
        show Steps p.tables e below (T22.setTop (mkF m 48 (LL2 q1 q2 q3 q4 b6) [])) _
        refine XS.iconst X22.here hx rfl (hb hby at_48) ?_
        (try simp only [va1, if_neg j24_1] at j24)
        exact j24
    show Steps p.tables e below (T22.setTop (mkF m 49 (LL2 q1 q2 q3 q4 b6) [(.int (va1 q2))])) _
    refine XS.istore X22.here hx rfl (hb hby at_49) rfl (l' := (LL3 q1 q2 q3 q4 b6)) rfl ?_
    show Steps p.tables e below (T22.setTop (mkF m 51 (LL3 q1 q2 q3 q4 b6) [])) _
    refine XS.aload X22.here hx rfl (hb hby at_51) rfl rfl ?_
    show Steps p.tables e below (T22.setTop (mkF m 53 (LL3 q1 q2 q3 q4 b6) [(.ref b6)])) _
    refine XS.lload X22.here hx rfl (hb hby at_53) rfl ?_
    show Steps p.tables e below (T22.setTop (mkF m 55 (LL3 q1 q2 q3 q4 b6) [(.long q3), (.ref b6)])) _
    refine st25.trans ?_
    show Steps p.tables e below (T25.setTop (mkF m 58 (LL3 q1 q2 q3 q4 b6) [])) _
    refine XS.aload X25.here hx rfl (hb hby at_58) rfl rfl ?_
    show Steps p.tables e below (T25.setTop (mkF m 60 (LL3 q1 q2 q3 q4 b6) [(.ref b6)])) _
    refine XS.lload X25.here hx rfl (hb hby at_60) rfl ?_
    show Steps p.tables e below (T25.setTop (mkF m 62 (LL3 q1 q2 q3 q4 b6) [(.long q4), (.ref b6)])) _
    refine st30.trans ?_
    show Steps p.tables e below (T30.setTop (mkF m 65 (LL3 q1 q2 q3 q4 b6) [])) _
    refine XS.aload X30.here hx rfl (hb hby at_65) rfl rfl ?_
    show Steps p.tables e below (T30.setTop (mkF m 67 (LL3 q1 q2 q3 q4 b6) [(.ref b6)])) _
    refine st32.trans ?_
    show Steps p.tables e below (T32.setTop (mkF m 70 (LL3 q1 q2 q3 q4 b6) [(.int (2 : Int32))])) _
    refine XS.iconst X32.here hx rfl (hb hby at_70) ?_
    show Steps p.tables e below (T32.setTop (mkF m 71 (LL3 q1 q2 q3 q4 b6) [(.int (2 : Int32)), (.int (2 : Int32))])) _
    refine XS.icmpNo X32.here hx rfl (hb hby at_71) rfl (teq (by decide : (2 : Int32) = (2 : Int32))).2 ?_
    show Steps p.tables e below (T32.setTop (mkF m 74 (LL3 q1 q2 q3 q4 b6) [])) _
    refine XS.iconst X32.here hx rfl (hb hby at_74) ?_
    show Steps p.tables e below (T32.setTop (mkF m 75 (LL3 q1 q2 q3 q4 b6) [(.int (1 : Int32))])) _
    refine XS.goto X32.here hx rfl (pc0 := 75) (pc' := 79) rfl (hb hby at_75) (by decide) (by decide) ?_
    show Steps p.tables e below (T32.setTop (mkF m 79 (LL3 q1 q2 q3 q4 b6) [(.int (1 : Int32))])) _
    refine XS.istore X32.here hx rfl (hb hby at_79) rfl (l' := (LL4 q1 q2 q3 q4 b6)) rfl ?_
    show Steps p.tables e below (T32.setTop (mkF m 81 (LL4 q1 q2 q3 q4 b6) [])) _
    refine XS.aload X32.here hx rfl (hb hby at_81) rfl rfl ?_
    show Steps p.tables e below (T32.setTop (mkF m 83 (LL4 q1 q2 q3 q4 b6) [(.ref b6)])) _
    refine XS.iconst X32.here hx rfl (hb hby at_83) ?_
    show Steps p.tables e below (T32.setTop (mkF m 84 (LL4 q1 q2 q3 q4 b6) [(.int (1 : Int32)), (.ref b6)])) _
    refine st35.trans ?_
    show Steps p.tables e below (T35.setTop (mkF m 87 (LL4 q1 q2 q3 q4 b6) [(.long q3)])) _
    refine XS.lload X35.here hx rfl (hb hby at_87) rfl ?_
    show Steps p.tables e below (T35.setTop (mkF m 89 (LL4 q1 q2 q3 q4 b6) [(.long q3), (.long q3)])) _
    refine XS.lcmp X35.here hx rfl (hb hby at_89) rfl ?_
    show Steps p.tables e below (T35.setTop (mkF m 90 (LL4 q1 q2 q3 q4 b6) [(.int (lcmpW q3 q3))])) _
    refine XS.ifNo X35.here hx rfl (hb hby at_90) rfl ((if0 _ _).trans (teq H2).2) ?_
    show Steps p.tables e below (T35.setTop (mkF m 93 (LL4 q1 q2 q3 q4 b6) [])) _
    refine XS.aload X35.here hx rfl (hb hby at_93) rfl rfl ?_
    show Steps p.tables e below (T35.setTop (mkF m 95 (LL4 q1 q2 q3 q4 b6) [(.ref b6)])) _
    refine XS.iconst X35.here hx rfl (hb hby at_95) ?_
    show Steps p.tables e below (T35.setTop (mkF m 96 (LL4 q1 q2 q3 q4 b6) [(.int (1 : Int32)), (.ref b6)])) _
    refine st37.trans ?_
    show Steps p.tables e below (T37.setTop (mkF m 99 (LL4 q1 q2 q3 q4 b6) [(.long q4)])) _
    refine XS.lload X37.here hx rfl (hb hby at_99) rfl ?_
    show Steps p.tables e below (T37.setTop (mkF m 101 (LL4 q1 q2 q3 q4 b6) [(.long q4), (.long q4)])) _
    refine XS.lcmp X37.here hx rfl (hb hby at_101) rfl ?_
    suffices j39 : Steps p.tables e below (T37.setTop (mkF m 110 (LL4 q1 q2 q3 q4 b6) [(.int (va1 q4))])) (T40.setFrames fs) by
      show Steps p.tables e below (T37.setTop (mkF m 102 (LL4 q1 q2 q3 q4 b6) [(.int (lcmpW q4 q4))])) _
      by_cases j39_1 : (lcmpW q4 q4) = (0 : Int32)
      ·
        refine XS.ifNo X37.here hx rfl (hb hby at_102) rfl ((if0 _ _).trans (teq j39_1).2) ?_
        show Steps p.tables e below (T37.setTop (mkF m 105 (LL4 q1 q2 q3 q4 b6) [])) _
        refine XS.iconst X37.here hx rfl (hb hby at_105) ?_
        show Steps p.tables e below (T37.setTop (mkF m 106 (LL4 q1 q2 q3 q4 b6) [(.int (1 : Int32))])) _
        refine XS.goto X37.here hx rfl (pc0 := 106) (pc' := 110) rfl (hb hby at_106) (by decide) (by decide) ?_
        (try simp only [va1, if_pos j39_1] at j39)
        exact j39
      ·
        refine XS.ifYes X37.here hx rfl (pc0 := 102) (pc' := 109) rfl (hb hby at_102) rfl ((if0 _ _).trans (feq j39_1).2) (by decide) (by decide) ?_
        show Steps p.tables e below (T37.setTop (mkF m 109 (LL4 q1 q2 q3 q4 b6) [])) _
        refine XS.iconst X37.here hx rfl (hb hby at_109) ?_
        (try simp only [va1, if_neg j39_1] at j39)
        exact j39
    show Steps p.tables e below (T37.setTop (mkF m 110 (LL4 q1 q2 q3 q4 b6) [(.int (va1 q4))])) _
    refine XS.istore X37.here hx rfl (hb hby at_110) rfl (l' := (LL5 q1 q2 q3 q4 b6)) rfl ?_
    show Steps p.tables e below (T37.setTop (mkF m 112 (LL5 q1 q2 q3 q4 b6) [])) _
    refine XS.aload X37.here hx rfl (hb hby at_112) rfl rfl ?_
    show Steps p.tables e below (T37.setTop (mkF m 114 (LL5 q1 q2 q3 q4 b6) [(.ref b6)])) _
    refine XS.iconst X37.here hx rfl (hb hby at_114) ?_
    show Steps p.tables e below (T37.setTop (mkF m 115 (LL5 q1 q2 q3 q4 b6) [(.int (0 : Int32)), (.ref b6)])) _
    refine st40.trans ?_
    show Steps p.tables e below (T40.setTop (mkF m 118 (LL5 q1 q2 q3 q4 b6) [(.long q2)])) _
    refine XS.lloadN X40.here hx rfl (hb hby at_118) rfl ?_
    show Steps p.tables e below (T40.setTop (mkF m 119 (LL5 q1 q2 q3 q4 b6) [(.long q2), (.long q2)])) _
    refine XS.lcmp X40.here hx rfl (hb hby at_119) rfl ?_
    suffices j42 : Steps p.tables e below (T40.setTop (mkF m 128 (LL5 q1 q2 q3 q4 b6) [(.int (va1 q2))])) (T40.setFrames fs) by
      show Steps p.tables e below (T40.setTop (mkF m 120 (LL5 q1 q2 q3 q4 b6) [(.int (lcmpW q2 q2))])) _
      by_cases j42_1 : (lcmpW q2 q2) = (0 : Int32)
      ·
        refine XS.ifNo X40.here hx rfl (hb hby at_120) rfl ((if0 _ _).trans (teq j42_1).2) ?_
        show Steps p.tables e below (T40.setTop (mkF m 123 (LL5 q1 q2 q3 q4 b6) [])) _
        refine XS.iconst X40.here hx rfl (hb hby at_123) ?_
        show Steps p.tables e below (T40.setTop (mkF m 124 (LL5 q1 q2 q3 q4 b6) [(.int (1 : Int32))])) _
        refine XS.goto X40.here hx rfl (pc0 := 124) (pc' := 128) rfl (hb hby at_124) (by decide) (by decide) ?_
        (try simp only [va1, if_pos j42_1] at j42)
        exact j42
      ·
        refine XS.ifYes X40.here hx rfl (pc0 := 120) (pc' := 127) rfl (hb hby at_120) rfl ((if0 _ _).trans (feq j42_1).2) (by decide) (by decide) ?_
        show Steps p.tables e below (T40.setTop (mkF m 127 (LL5 q1 q2 q3 q4 b6) [])) _
        refine XS.iconst X40.here hx rfl (hb hby at_127) ?_
        (try simp only [va1, if_neg j42_1] at j42)
        exact j42
    show Steps p.tables e below (T40.setTop (mkF m 128 (LL5 q1 q2 q3 q4 b6) [(.int (va1 q2))])) _
    refine XS.istore X40.here hx rfl (hb hby at_128) rfl (l' := (LL6 q1 q2 q3 q4 b6)) rfl ?_
    show Steps p.tables e below (T40.setTop (mkF m 130 (LL6 q1 q2 q3 q4 b6) [])) _
    refine XS.iload X40.here hx rfl (hb hby at_130) rfl ?_
    suffices j43 : Steps p.tables e below (T40.setTop (mkF m 155 (LL6 q1 q2 q3 q4 b6) [(.int (va2 q2 q4))])) (T40.setFrames fs) by
      show Steps p.tables e below (T40.setTop (mkF m 132 (LL6 q1 q2 q3 q4 b6) [(.int (va1 q2))])) _
      by_cases j43_1 : (va1 q2) = (0 : Int32)
      ·
        refine XS.ifYes X40.here hx rfl (pc0 := 132) (pc' := 154) rfl (hb hby at_132) rfl ((if0 _ _).trans (teq j43_1).1) (by decide) (by decide) ?_
        show Steps p.tables e below (T40.setTop (mkF m 154 (LL6 q1 q2 q3 q4 b6) [])) _
        refine XS.iconst X40.here hx rfl (hb hby at_154) ?_
        (try simp only [va2, if_pos j43_1] at j43)
        exact j43
      ·
        refine XS.ifNo X40.here hx rfl (hb hby at_132) rfl ((if0 _ _).trans (feq j43_1).1) ?_
        show Steps p.tables e below (T40.setTop (mkF m 135 (LL6 q1 q2 q3 q4 b6) [])) _
        refine XS.iload X40.here hx rfl (hb hby at_135) rfl ?_
        show Steps p.tables e below (T40.setTop (mkF m 137 (LL6 q1 q2 q3 q4 b6) [(.int (1 : Int32))])) _
        refine XS.ifNo X40.here hx rfl (hb hby at_137) rfl ((if0 _ _).trans (feq (by decide : ¬ ((1 : Int32) = (0 : Int32)))).1) ?_
        show Steps p.tables e below (T40.setTop (mkF m 140 (LL6 q1 q2 q3 q4 b6) [])) _
        refine XS.iload X40.here hx rfl (hb hby at_140) rfl ?_
        show Steps p.tables e below (T40.setTop (mkF m 142 (LL6 q1 q2 q3 q4 b6) [(.int (va1 q4))])) _
        by_cases j43_2 : (va1 q4) = (0 : Int32)
        ·
          refine XS.ifYes X40.here hx rfl (pc0 := 142) (pc' := 154) rfl (hb hby at_142) rfl ((if0 _ _).trans (teq j43_2).1) (by decide) (by decide) ?_
          show Steps p.tables e below (T40.setTop (mkF m 154 (LL6 q1 q2 q3 q4 b6) [])) _
          refine XS.iconst X40.here hx rfl (hb hby at_154) ?_
          (try simp only [va2, if_neg j43_1, if_pos j43_2] at j43)
          exact j43
        ·
          refine XS.ifNo X40.here hx rfl (hb hby at_142) rfl ((if0 _ _).trans (feq j43_2).1) ?_
          show Steps p.tables e below (T40.setTop (mkF m 145 (LL6 q1 q2 q3 q4 b6) [])) _
          refine XS.iload X40.here hx rfl (hb hby at_145) rfl ?_
          show Steps p.tables e below (T40.setTop (mkF m 147 (LL6 q1 q2 q3 q4 b6) [(.int (va1 q2))])) _
          refine XS.ifNo X40.here hx rfl (hb hby at_147) rfl ((if0 _ _).trans (feq j43_1).1) ?_
          show Steps p.tables e below (T40.setTop (mkF m 150 (LL6 q1 q2 q3 q4 b6) [])) _
          refine XS.iconst X40.here hx rfl (hb hby at_150) ?_
          show Steps p.tables e below (T40.setTop (mkF m 151 (LL6 q1 q2 q3 q4 b6) [(.int (1 : Int32))])) _
          refine XS.goto X40.here hx rfl (pc0 := 151) (pc' := 155) rfl (hb hby at_151) (by decide) (by decide) ?_
          (try simp only [va2, if_neg j43_1, if_neg j43_2] at j43)
          exact j43
    show Steps p.tables e below (T40.setTop (mkF m 155 (LL6 q1 q2 q3 q4 b6) [(.int (va2 q2 q4))])) _
    exact retN X40 hx (t := .boolean) Bd.returns (by simp) (hb hby at_155) hr
  · show Q0 h0 n0 _ T40.heap _
    rw [e40q]
    exact ⟨(congrArg (fun z => some (Value.int z)) H3), N40⟩
set_option maxRecDepth 65536 in
set_option maxHeartbeats 40000000 in
theorem imp_1 (q1 : Int64) : (lcmpW q1 q1) = (0 : Int32) := by
  have := rng64 q1
  have := c_lcmp q1 q1
  have := (by decide : (0 : Int32).toInt = 0)
  apply Int32.toInt_inj.mp
  omega
set_option maxRecDepth 65536 in
set_option maxHeartbeats 40000000 in
theorem imp_2 (q3 : Int64) : (lcmpW q3 q3) = (0 : Int32) := by
  have := rng64 q3
  have := c_lcmp q3 q3
  have := (by decide : (0 : Int32).toInt = 0)
  apply Int32.toInt_inj.mp
  omega
set_option maxRecDepth 65536 in
set_option maxHeartbeats 40000000 in
theorem imp_3 (q2 : Int64) (q4 : Int64) : (nar .boolean (va2 q2 q4)) = (1 : Int32) := by
  have := (by decide : (0 : Int32).toInt = 0)
  have := (by decide : (1 : Int32).toInt = 1)
  have := rng64 q4
  have := c_lcmp q4 q4
  have : ((lcmpW q4 q4).toInt = (0 : Int32).toInt ∧ (if (lcmpW q4 q4) = (0 : Int32) then (1 : Int32) else (0 : Int32)).toInt = (1 : Int32).toInt) ∨ (¬ ((lcmpW q4 q4).toInt = (0 : Int32).toInt) ∧ (if (lcmpW q4 q4) = (0 : Int32) then (1 : Int32) else (0 : Int32)).toInt = (0 : Int32).toInt) := by
    by_cases hc : (lcmpW q4 q4) = (0 : Int32)
    · exact Or.inl ⟨Int32.toInt_inj.symm.mp hc, by rw [if_pos hc]⟩
    · exact Or.inr ⟨fun q => hc (Int32.toInt_inj.symm.mpr q), by rw [if_neg hc]⟩
  have := (congrArg Int32.toInt (show (va1 q4) = (if (lcmpW q4 q4) = (0 : Int32) then (1 : Int32) else (0 : Int32)) from rfl))
  have : ((va1 q4).toInt = (0 : Int32).toInt ∧ (if (va1 q4) = (0 : Int32) then (0 : Int32) else (1 : Int32)).toInt = (0 : Int32).toInt) ∨ (¬ ((va1 q4).toInt = (0 : Int32).toInt) ∧ (if (va1 q4) = (0 : Int32) then (0 : Int32) else (1 : Int32)).toInt = (1 : Int32).toInt) := by
    by_cases hc : (va1 q4) = (0 : Int32)
    · exact Or.inl ⟨Int32.toInt_inj.symm.mp hc, by rw [if_pos hc]⟩
    · exact Or.inr ⟨fun q => hc (Int32.toInt_inj.symm.mpr q), by rw [if_neg hc]⟩
  have := rng64 q2
  have := c_lcmp q2 q2
  have : ((lcmpW q2 q2).toInt = (0 : Int32).toInt ∧ (if (lcmpW q2 q2) = (0 : Int32) then (1 : Int32) else (0 : Int32)).toInt = (1 : Int32).toInt) ∨ (¬ ((lcmpW q2 q2).toInt = (0 : Int32).toInt) ∧ (if (lcmpW q2 q2) = (0 : Int32) then (1 : Int32) else (0 : Int32)).toInt = (0 : Int32).toInt) := by
    by_cases hc : (lcmpW q2 q2) = (0 : Int32)
    · exact Or.inl ⟨Int32.toInt_inj.symm.mp hc, by rw [if_pos hc]⟩
    · exact Or.inr ⟨fun q => hc (Int32.toInt_inj.symm.mpr q), by rw [if_neg hc]⟩
  have := (congrArg Int32.toInt (show (va1 q2) = (if (lcmpW q2 q2) = (0 : Int32) then (1 : Int32) else (0 : Int32)) from rfl))
  have : ((va1 q2).toInt = (0 : Int32).toInt ∧ (if (va1 q2) = (0 : Int32) then (0 : Int32) else (if (va1 q4) = (0 : Int32) then (0 : Int32) else (1 : Int32))).toInt = (0 : Int32).toInt) ∨ (¬ ((va1 q2).toInt = (0 : Int32).toInt) ∧ (if (va1 q2) = (0 : Int32) then (0 : Int32) else (if (va1 q4) = (0 : Int32) then (0 : Int32) else (1 : Int32))).toInt = (if (va1 q4) = (0 : Int32) then (0 : Int32) else (1 : Int32)).toInt) := by
    by_cases hc : (va1 q2) = (0 : Int32)
    · exact Or.inl ⟨Int32.toInt_inj.symm.mp hc, by rw [if_pos hc]⟩
    · exact Or.inr ⟨fun q => hc (Int32.toInt_inj.symm.mpr q), by rw [if_neg hc]⟩
  have := (congrArg Int32.toInt (show (va2 q2 q4) = (if (va1 q2) = (0 : Int32) then (0 : Int32) else (if (va1 q4) = (0 : Int32) then (0 : Int32) else (1 : Int32))) from rfl))
  have := (show (nar .boolean (va2 q2 q4)).toInt = (va2 q2 q4).toInt % (2 ^ 1 : Nat) from c_mask (va2 q2 q4) 1 1 (by decide) (by decide))
  apply Int32.toInt_inj.mp
  omega
set_option maxRecDepth 65536 in
set_option maxHeartbeats 40000000 in
theorem rm0 (l : Launch) (Z : State) (a0 : Array Value) (hw : ∀ d ∈ tables_1, d.before a0 Z = true) (ws : List Jvm.Cond) (q1 : Int64) (q2 : Int64) (q3 : Int64) (q4 : Int64) (s1 : Addr) (h0 : Heap) (n0 : Nat) (Z0 : n0 ≤ h0.size) (Sp0 : Sta Z Z.heap "java/math/BigDecimal" "ZERO" "Ljava/math/BigDecimal;" (.ref s1)) (Sp1 : Old Z n0 h0) :
    MetFree l x (head1 (Jvm.Cond.code x code maxLocals ret :: ws) room_1) (fun a U => a = #[(.long q1), (.long q2), (.long q3), (.long q4)] ∧ Z.Warmed39 U.vm ∧ U.heap = h0) (fun _ _ _ _ _ => True) (fun _ U o U' => ∃ v L, o = .returned v ∧ Q0 h0 n0 v U'.heap L ∧ FrameEnd U o U' L 16 128) := by
  have H1 : (lcmpW q1 q1) = (0 : Int32) := by
    exact imp_1 q1
  have H2 : (lcmpW q3 q3) = (0 : Int32) := by
    exact imp_2 q3
  have H3 : (nar .boolean (va2 q2 q4)) = (1 : Int32) := by
    exact imp_3 q2 q4
  exact rm0_0 l Z a0 hw ws q1 q2 q3 q4 s1 h0 n0 Z0 Sp0 Sp1 H1 H2 H3
set_option maxRecDepth 65536 in
set_option maxHeartbeats 40000000 in
theorem comes_1 {Post : Tables → Env → Array Value → State → Outcome → State → Prop} (hpost : ∀ tb e args s v u, (limb_1_1.after args s (.returned v) u = true ∧ limb_1_2.after args s (.returned v) u = true ∧ True) → FrameEnd s (.returned v) u (Jvm.fieldLocs frame_1_writes args s ++ Jvm.arrayLocs frame_1_arrays args s ++ Jvm.staticLocs frame_1_statics s) 16 128 → Post tb e args s (.returned v) u) :
    ArmFor flags0 classFile x code maxLocals ret World_1 tables_1 room_1 Calls_1 rest_1 Pre_1 Post := by
  intro l hfl _ _ p e ha hc hk s m args below hf hA hF happ hP
  obtain ⟨hcalls, hrest, hpre⟩ := hP
  obtain ⟨-, -, -, hnamed, -, -, -, hat⟩ := (Spec.applies_iff hf).mp happ
  obtain ⟨hg, hn⟩ := and_e (Cond.before_iff.mp (show (Jvm.Cond.and given_1 narrow_1).before args s = true from hpre))
  obtain ⟨g1, g2⟩ := and_e hg
  obtain ⟨g3, g4⟩ := and_e g2
  obtain ⟨g5, g6⟩ := and_e g4
  obtain ⟨g7, g8⟩ := and_e g6
  obtain ⟨w0, w1, w2, w3, rfl⟩ : ∃ w0 w1 w2 w3 : Value, args = #[w0, w1, w2, w3] := by
    have hs : args.size = 4 := by simpa [Cond.value, given_1] using g1
    obtain ⟨L⟩ := args
    match L, hs with
    | [w0, w1, w2, w3], _ => exact ⟨w0, w1, w2, w3, rfl⟩
  have hw := fun d (hd : d ∈ tables_1) => atoms_spec (ws := Jvm.Cond.code x code maxLocals ret :: tables_1) hat d (List.mem_cons_of_mem _ hd)
  have hfit : Fit s := fun {y c} hc i hi => by
    obtain ⟨ha, rfl⟩ := Array.getElem?_eq_some_iff.mp hc
    have q := List.all_eq_true.mp ((Array.all_eq_true_iff_forall_mem.mp hF) _ (Array.getElem_mem ha)) i (List.mem_range.mpr hi)
    simpa [Array.getElem?_eq_getElem hi] using q
  obtain ⟨hsets, hown0⟩ := atoms_of _ (rest_1_c_eq ▸ (show rest_1_c.before _ s = true from hrest))
  have hr0 := Cond.before_iff.mp hown0
  obtain ⟨i0, ei0⟩ := isL_v g3
  obtain rfl : w0 = (.long i0) := Option.some.inj ei0
  obtain ⟨i1, ei1⟩ := isL_v g5
  obtain rfl : w1 = (.long i1) := Option.some.inj ei1
  obtain ⟨i2, ei2⟩ := isL_v g7
  obtain rfl : w2 = (.long i2) := Option.some.inj ei2
  obtain ⟨i3, ei3⟩ := isL_v g8
  obtain rfl : w3 = (.long i3) := Option.some.inj ei3
  obtain ⟨s1, ev_s1⟩ := exa_v (Cond.before_iff.mp (hsets _ (List.mem_of_getElem? (i := 4) rfl)))
  have St1 := Sta.start ev_s1 (Or.inl (hsets _ (List.mem_of_getElem? (i := 1) rfl)))
  have Se_s1 := Exa.start ev_s1 (Cond.before_iff.mp (hsets _ (List.mem_of_getElem? (i := 4) rfl)))
  have ev3 := eqv_i (Term.int_eval _) (Cond.before_iff.mp (hsets _ (List.mem_of_getElem? (i := 5) rfl)))
  have Sf4 := Fld.start ((fld_at ev_s1).symm.trans ev3)
  have ev5 := eqv_l (long_at _) (Cond.before_iff.mp (hsets _ (List.mem_of_getElem? (i := 6) rfl)))
  have Sf6 := Fld.start ((fld_at ev_s1).symm.trans ev5)
  obtain ⟨s2, ev_s2⟩ := exa_v (Cond.before_iff.mp (hsets _ (List.mem_of_getElem? (i := 8) rfl)))
  have Sf8 := Fld.start ((fld_at ev_s1).symm.trans ev_s2)
  have Se_s2 := Exa.start ev_s2 (Cond.before_iff.mp (hsets _ (List.mem_of_getElem? (i := 8) rfl)))
  have ev10 := eqv_i (Term.int_eval _) (Cond.before_iff.mp (hsets _ (List.mem_of_getElem? (i := 9) rfl)))
  have Sf11 := Fld.start ((fld_at ev_s2).symm.trans ev10)
  obtain ⟨s3, ev_s3⟩ := arr_v (Cond.before_iff.mp (hsets _ (List.mem_of_getElem? (i := 10) rfl)))
  have Sf13 := Fld.start ((fld_at ev_s2).symm.trans ev_s3)
  have Se_s3 := Exa.start ev_s3 (Cond.before_iff.mp (hsets _ (List.mem_of_getElem? (i := 11) rfl)))
  obtain ⟨cl_s3, Aa_s3, Ab_s3, Ac_s3⟩ := own_arr hfit ev_s3 (Cond.before_iff.mp (hsets _ (List.mem_of_getElem? (i := 10) rfl))) (Cond.before_iff.mp (hsets _ (List.mem_of_getElem? (i := 12) rfl)))
  have Av_s3 : Arv s s.heap s3 cl_s3.cls .int (0 : Int32) [] (.int (0 : Int32)) := Arv.start hfit Aa_s3 Ab_s3 Ac_s3 (by decide) (by decide) trivial
  obtain ⟨n, o, h1, h2, h3, _, L, rfl, ⟨rfl, N⟩, hq⟩ := rm0 l s _ hw tables_1 i0 i1 i2 i3 s1 s.heap s.heap.size (Nat.le_refl _) St1 (Old.start s) p e ha hc hk s m _ below hf ((Spec.applies_iff_loose hf).mp happ).1 ⟨rfl, State.Warmed39.refl s, rfl⟩ trivial
  refine ⟨n, _, h1, h2, h3, hpost _ _ _ _ _ _ ⟨Cond.after_iff.mpr rfl, Cond.after_iff.mpr (eq_i res_at (Term.int_eval (1)) rfl), trivial⟩ ⟨hq.1, hq.2.1, (hq.2.2.sift fun y hy => Or.inr (N y hy)).mono (by decide) (by decide)⟩⟩
theorem main_1_1 : Claimed_1_1 := comes_1 fun _ _ _ _ _ _ h hF => ⟨h.1, hF⟩
theorem main_1_2 : Claimed_1_2 := comes_1 fun _ _ _ _ _ _ h hF => ⟨h.2.1, hF⟩
end Jvm.Pilot.@@N@@
namespace Jvm.Pilot.@@N@@
open Jvm Jvm.ClassFile Sem Op Lib Jvm.Free Jvm.Stand Jvm.Pilot.@@N@@.Jvm.D
/-! MADE BY PROGRAM (witnessworld.py) out of the Statement's table words and the real class files: 18 classes; the members and pool entries that the words name. The judged class is class 1, her method 1. -/
namespace start1
open Jvm.ClassFile
def u (s : String) : CpInfo := .utf8 (stringToUtf16 s)
/-- a pool by its gaps: so many unusable entries, then the entry; so many at the end -/
def gap : Nat → List CpInfo → List CpInfo
  | 0, r => r
  | n + 1, r => .unusable :: gap n r
def poolList (es : List (Nat × CpInfo)) (last : Nat) : List CpInfo := es.foldr (fun e r => gap e.1 (e.2 :: r)) (gap last [])
def pool (es : List (Nat × CpInfo)) (last : Nat) : Array CpInfo := ⟨poolList es last⟩
def fileOf (pool : Array CpInfo) (this : Nat) (attrs : Array Attribute := #[]) (ms : Array MethodInfo := #[]) (fl : Nat := 33) (sup : Nat := 0) (ifs : Array Nat := #[]) (fds : Array FieldInfo := #[]) : ClassFile where
  minorVersion := 0
  majorVersion := 65
  constantPool := pool
  accessFlags := fl
  thisClass := this
  superClass := sup
  interfaces := ifs
  fields := fds
  methods := ms
  attributes := attrs
def plain (name : String) (sup : Option ClassId) : Class where
  name := name
  kind := .ordinary
  loader := none
  accessFlags := 33
  super := sup
  interfaces := #[]
  cf := none
  fields := #[]
  methods := #[]
  instanceTypes := #[]
  staticTypes := #[]
  resolved := #[]
  callSites := []
  init := .initialized
  statics := none
  mirror := none

def pool0 : Array CpInfo := pool [(5, u "<init>"), (0, u "()V"), (1, .class_ 10), (1, u "java/lang/Object")] 113

def k0c0 : Code := { maxStack := 0, maxLocals := 1, code := object_method_1_code, exceptionTable := #[], attributes := #[] }
def k0m0 : Method := { name := "<init>", desc := "()V", sig := { parameters := [], returnType := none }, accessFlags := 1, code := some k0c0 }
/-- java/lang/Object -/
def k0 : Class := { plain "java/lang/Object" none with
  accessFlags := 33
  interfaces := #[]
  cf := some (fileOf pool0 8 #[] #[{ accessFlags := 1, nameIndex := 5, descriptorIndex := 6, attributes := #[] }] 33 0 #[] #[])
  fields := #[]
  methods := #[k0m0]
  instanceTypes := #[]
  staticTypes := #[]
  resolved := Array.replicate 124 none
  statics := none }

def pool1 : Array CpInfo := pool [(2, .class_ 4), (1, u "java/lang/Object"), (0, u "<init>"), (0, u "()V"), (0, .class_ 8), (0, u "com/example/nakazilo/nakazilo/PaymentGroup"), (0, .methodref 7 10), (0, .nameAndType 5 11), (0, u "(Ljava/lang/Object;)V"), (0, .methodref 7 13), (0, .nameAndType 14 15), (0, u "startSpan"), (0, u "(J)V"), (0, .methodref 7 17), (0, .nameAndType 18 15), (0, u "endSpan"), (0, .methodref 7 20), (0, .nameAndType 21 22), (0, u "spanStart"), (0, u "(I)J"), (0, .methodref 7 24), (0, .nameAndType 25 22), (0, u "spanEnd"), (0, .methodref 7 27), (0, .nameAndType 28 29), (0, u "spans"), (0, u "()I"), (0, .class_ 31), (0, u "com/example/nakazilo/nakazilo/PaymentGroupEndSpanPinLaw"), (2, u "law"), (0, u "(JJJJ)Z")] 3

def k1m0 : Method := { name := "<init>", desc := "()V", sig := { parameters := [], returnType := none }, accessFlags := 1, code := none }
def k1c1 : Code := { maxStack := 4, maxLocals := 13, code := code, exceptionTable := #[], attributes := #[] }
def k1m1 : Method := { name := "law", desc := "(JJJJ)Z", sig := { parameters := [.long, .long, .long, .long], returnType := some .boolean }, accessFlags := 9, code := some k1c1 }
/-- com/example/nakazilo/nakazilo/PaymentGroupEndSpanPinLaw -/
def k1 : Class := { plain "com/example/nakazilo/nakazilo/PaymentGroupEndSpanPinLaw" (some 0) with
  accessFlags := 49
  interfaces := #[]
  cf := some (fileOf pool1 30 #[] #[{ accessFlags := 1, nameIndex := 5, descriptorIndex := 6, attributes := #[] }, { accessFlags := 9, nameIndex := 34, descriptorIndex := 35, attributes := #[] }] 49 2 #[] #[])
  fields := #[]
  methods := #[k1m0, k1m1]
  instanceTypes := #[]
  staticTypes := #[]
  resolved := Array.replicate 39 none
  statics := none }

def pool2 : Array CpInfo := pool [(1, .methodref 2 3), (0, .class_ 4), (0, .nameAndType 5 6), (0, u "java/lang/Object"), (0, u "<init>"), (0, u "()V"), (0, .fieldref 8 9), (0, .class_ 10), (0, .nameAndType 11 12), (0, u "java/math/BigDecimal"), (0, u "ZERO"), (0, u "Ljava/math/BigDecimal;"), (0, .fieldref 14 15), (0, .class_ 16), (0, .nameAndType 17 12), (0, u "com/example/nakazilo/nakazilo/PaymentGroup"), (0, u "total"), (0, .fieldref 14 19), (0, .nameAndType 20 21), (0, u "spans"), (0, u "[J"), (0, .fieldref 14 23), (0, .nameAndType 24 25), (0, u "first"), (0, u "Ljava/lang/Object;"), (2, u "count"), (0, u "I"), (4, .fieldref 14 35), (0, .nameAndType 36 29), (0, u "bounds"), (0, .methodref 38 39), (0, .class_ 40), (0, .nameAndType 41 42), (0, u "java/util/Arrays"), (0, u "copyOf"), (0, u "([JI)[J"), (2, u "(Ljava/lang/Object;)V"), (5, u "()I"), (2, u "startSpan"), (0, u "(J)V"), (1, u "endSpan"), (0, u "spanStart"), (0, u "(I)J"), (0, u "spanEnd")] 3

def k2c0 : Code := { maxStack := 2, maxLocals := 2, code := prog_91_method_1_code, exceptionTable := #[], attributes := #[] }
def k2m0 : Method := { name := "<init>", desc := "(Ljava/lang/Object;)V", sig := { parameters := [(.object "java/lang/Object")], returnType := none }, accessFlags := 0, code := some k2c0 }
def k2c1 : Code := { maxStack := 5, maxLocals := 3, code := prog_91_method_6_code, exceptionTable := #[], attributes := #[] }
def k2m1 : Method := { name := "startSpan", desc := "(J)V", sig := { parameters := [.long], returnType := none }, accessFlags := 0, code := some k2c1 }
def k2c2 : Code := { maxStack := 5, maxLocals := 3, code := prog_91_method_7_code, exceptionTable := #[], attributes := #[] }
def k2m2 : Method := { name := "endSpan", desc := "(J)V", sig := { parameters := [.long], returnType := none }, accessFlags := 0, code := some k2c2 }
def k2c3 : Code := { maxStack := 2, maxLocals := 1, code := prog_91_method_8_code, exceptionTable := #[], attributes := #[] }
def k2m3 : Method := { name := "spans", desc := "()I", sig := { parameters := [], returnType := some .int }, accessFlags := 0, code := some k2c3 }
def k2c4 : Code := { maxStack := 3, maxLocals := 2, code := prog_91_method_9_code, exceptionTable := #[], attributes := #[] }
def k2m4 : Method := { name := "spanStart", desc := "(I)J", sig := { parameters := [.int], returnType := some .long }, accessFlags := 0, code := some k2c4 }
def k2c5 : Code := { maxStack := 3, maxLocals := 2, code := prog_91_method_10_code, exceptionTable := #[], attributes := #[] }
def k2m5 : Method := { name := "spanEnd", desc := "(I)J", sig := { parameters := [.int], returnType := some .long }, accessFlags := 0, code := some k2c5 }
/-- com/example/nakazilo/nakazilo/PaymentGroup -/
def k2 : Class := { plain "com/example/nakazilo/nakazilo/PaymentGroup" (some 0) with
  accessFlags := 48
  interfaces := #[]
  cf := some (fileOf pool2 14 #[] #[{ accessFlags := 0, nameIndex := 5, descriptorIndex := 45, attributes := #[] }, { accessFlags := 0, nameIndex := 54, descriptorIndex := 55, attributes := #[] }, { accessFlags := 0, nameIndex := 57, descriptorIndex := 55, attributes := #[] }, { accessFlags := 0, nameIndex := 20, descriptorIndex := 51, attributes := #[] }, { accessFlags := 0, nameIndex := 58, descriptorIndex := 59, attributes := #[] }, { accessFlags := 0, nameIndex := 60, descriptorIndex := 59, attributes := #[] }] 48 2 #[] #[{ accessFlags := 18, nameIndex := 24, descriptorIndex := 25, attributes := #[] }, { accessFlags := 2, nameIndex := 28, descriptorIndex := 29, attributes := #[] }, { accessFlags := 2, nameIndex := 17, descriptorIndex := 12, attributes := #[] }, { accessFlags := 2, nameIndex := 20, descriptorIndex := 21, attributes := #[] }, { accessFlags := 2, nameIndex := 36, descriptorIndex := 29, attributes := #[] }])
  fields := #[{ name := "first", type := (.object "java/lang/Object"), accessFlags := 18, slot := 0, constantValue := 0 }, { name := "count", type := .int, accessFlags := 2, slot := 1, constantValue := 0 }, { name := "total", type := (.object "java/math/BigDecimal"), accessFlags := 2, slot := 2, constantValue := 0 }, { name := "spans", type := (.array .long), accessFlags := 2, slot := 3, constantValue := 0 }, { name := "bounds", type := .int, accessFlags := 2, slot := 4, constantValue := 0 }]
  methods := #[k2m0, k2m1, k2m2, k2m3, k2m4, k2m5]
  instanceTypes := #[(.object "java/lang/Object"), .int, (.object "java/math/BigDecimal"), (.array .long), .int]
  staticTypes := #[]
  resolved := Array.replicate 64 none
  statics := none }

def pool3 : Array CpInfo := pool [(1, .class_ 2), (0, u "java/io/Serializable"), (0, .class_ 4), (0, u "java/lang/Object")] 2

/-- java/io/Serializable -/
def k3 : Class := { plain "java/io/Serializable" (some 0) with
  accessFlags := 1537
  interfaces := #[]
  cf := some (fileOf pool3 1 #[] #[] 1537 3 #[] #[])
  fields := #[]
  methods := #[]
  instanceTypes := #[]
  staticTypes := #[]
  resolved := Array.replicate 7 none
  statics := none }

def pool4 : Array CpInfo := pool [(2, .class_ 4), (1, u "java/lang/Object"), (0, u "<init>"), (0, u "()V"), (1, .class_ 10), (1, u "java/lang/Number"), (2, .class_ 14), (0, u "java/io/Serializable"), (0, u "serialVersionUID"), (0, u "J")] 20

def k4m0 : Method := { name := "<init>", desc := "()V", sig := { parameters := [], returnType := none }, accessFlags := 1, code := none }
/-- java/lang/Number -/
def k4 : Class := { plain "java/lang/Number" (some 0) with
  accessFlags := 1057
  interfaces := #[3]
  cf := some (fileOf pool4 8 #[] #[{ accessFlags := 1, nameIndex := 5, descriptorIndex := 6, attributes := #[] }] 1057 2 #[13] #[{ accessFlags := 26, nameIndex := 15, descriptorIndex := 16, attributes := #[] }])
  fields := #[{ name := "serialVersionUID", type := .long, accessFlags := 26, slot := 0, constantValue := 0 }]
  methods := #[k4m0]
  instanceTypes := #[]
  staticTypes := #[.long]
  resolved := Array.replicate 37 none
  statics := none }

def pool5 : Array CpInfo := pool [(1, .class_ 2), (0, u "java/lang/Comparable"), (0, .class_ 4), (0, u "java/lang/Object")] 7

/-- java/lang/Comparable -/
def k5 : Class := { plain "java/lang/Comparable" (some 0) with
  accessFlags := 1537
  interfaces := #[]
  cf := some (fileOf pool5 1 #[] #[] 1537 3 #[] #[])
  fields := #[]
  methods := #[]
  instanceTypes := #[]
  staticTypes := #[]
  resolved := Array.replicate 12 none
  statics := none }

def pool6 : Array CpInfo := pool [(3, .class_ 4), (0, u "java/math/BigDecimal"), (7, .class_ 14), (1, u "java/lang/Number"), (4, u "scale"), (0, u "I"), (2, u "precision"), (2, u "intCompact"), (0, u "J"), (2, u "intVal"), (0, u "Ljava/math/BigInteger;"), (65, u "LONG_TEN_POWERS_TABLE"), (0, u "[J"), (88, u "ZERO"), (2, u "INFLATED_BIGINT"), (15, u "TWO"), (41, u "ZERO_THROUGH_TEN"), (0, u "[Ljava/math/BigDecimal;"), (2, u "ZERO_SCALED_BY"), (60, u "$assertionsDisabled"), (0, u "Z"), (163, u "ONE_TENTH"), (0, u "Ljava/math/BigDecimal;"), (5, u "TEN"), (14, .class_ 502), (1, u "java/math/BigDecimal$1"), (15, u "ONE_HALF"), (16, u "ONE"), (107, u "stringCache"), (0, u "Ljava/lang/String;"), (52, .class_ 699), (1, u "java/math/BigDecimal$LongOverflow"), (8, u "FLOAT_10_POW"), (0, u "[F"), (39, u "DOUBLE_10_POW"), (0, u "[D"), (19, .class_ 772), (1, u "java/math/BigDecimal$StringBuilderHelper"), (35, u "BIG_TEN_POWERS_TABLE_MAX"), (2, u "BIG_TEN_POWERS_TABLE"), (0, u "[Ljava/math/BigInteger;"), (14, u "THRESHOLDS_TABLE"), (23, .class_ 853), (1, u "java/math/BigDecimal$UnsafeHolder"), (214, u "LONGLONG_TEN_POWERS_TABLE"), (0, u "[[J"), (112, u "BIG_TEN_POWERS_TABLE_INITLEN"), (113, .class_ 1297), (0, u "java/lang/Comparable"), (0, u "L"), (0, u "D"), (1, u "P_F"), (1, u "Q_MIN_F"), (1, u "Q_MAX_F"), (1, u "P_D"), (1, u "Q_MIN_D"), (1, u "Q_MAX_D"), (1, u "INFLATED"), (0, u "MAX_COMPACT_DIGITS"), (1, u "serialVersionUID"), (2, u "HALF_LONG_MAX_VALUE"), (0, u "HALF_LONG_MIN_VALUE"), (0, u "ROUND_UP"), (6, u "ROUND_DOWN"), (1, u "ROUND_CEILING"), (1, u "ROUND_FLOOR"), (1, u "ROUND_HALF_UP"), (1, u "ROUND_HALF_DOWN"), (1, u "ROUND_HALF_EVEN"), (1, u "ROUND_UNNECESSARY"), (1, u "DIV_NUM_BASE")] 294

/-- java/math/BigDecimal -/
def k6 : Class := { plain "java/math/BigDecimal" (some 4) with
  accessFlags := 33
  interfaces := #[5]
  cf := some (fileOf pool6 3 #[.nestMembers #[500, 851, 770, 697]] #[] 33 12 #[1296] #[{ accessFlags := 26, nameIndex := 1298, descriptorIndex := 1299, attributes := #[] }, { accessFlags := 26, nameIndex := 1301, descriptorIndex := 20, attributes := #[] }, { accessFlags := 26, nameIndex := 1303, descriptorIndex := 20, attributes := #[] }, { accessFlags := 26, nameIndex := 1305, descriptorIndex := 20, attributes := #[] }, { accessFlags := 26, nameIndex := 1307, descriptorIndex := 20, attributes := #[] }, { accessFlags := 26, nameIndex := 1309, descriptorIndex := 20, attributes := #[] }, { accessFlags := 26, nameIndex := 1311, descriptorIndex := 20, attributes := #[] }, { accessFlags := 18, nameIndex := 30, descriptorIndex := 31, attributes := #[] }, { accessFlags := 18, nameIndex := 19, descriptorIndex := 20, attributes := #[] }, { accessFlags := 130, nameIndex := 23, descriptorIndex := 20, attributes := #[] }, { accessFlags := 130, nameIndex := 643, descriptorIndex := 644, attributes := #[] }, { accessFlags := 24, nameIndex := 1313, descriptorIndex := 27, attributes := #[] }, { accessFlags := 26, nameIndex := 190, descriptorIndex := 31, attributes := #[] }, { accessFlags := 146, nameIndex := 26, descriptorIndex := 27, attributes := #[] }, { accessFlags := 26, nameIndex := 1314, descriptorIndex := 20, attributes := #[] }, { accessFlags := 26, nameIndex := 1316, descriptorIndex := 27, attributes := #[] }, { accessFlags := 26, nameIndex := 248, descriptorIndex := 249, attributes := #[] }, { accessFlags := 26, nameIndex := 252, descriptorIndex := 249, attributes := #[] }, { accessFlags := 26, nameIndex := 1319, descriptorIndex := 27, attributes := #[] }, { accessFlags := 26, nameIndex := 1320, descriptorIndex := 27, attributes := #[] }, { accessFlags := 25, nameIndex := 187, descriptorIndex := 479, attributes := #[] }, { accessFlags := 25, nameIndex := 535, descriptorIndex := 479, attributes := #[] }, { accessFlags := 25, nameIndex := 206, descriptorIndex := 479, attributes := #[] }, { accessFlags := 25, nameIndex := 485, descriptorIndex := 479, attributes := #[] }, { accessFlags := 26, nameIndex := 478, descriptorIndex := 479, attributes := #[] }, { accessFlags := 26, nameIndex := 518, descriptorIndex := 479, attributes := #[] }, { accessFlags := 25, nameIndex := 1321, descriptorIndex := 20, attributes := #[] }, { accessFlags := 25, nameIndex := 1328, descriptorIndex := 20, attributes := #[] }, { accessFlags := 25, nameIndex := 1330, descriptorIndex := 20, attributes := #[] }, { accessFlags := 25, nameIndex := 1332, descriptorIndex := 20, attributes := #[] }, { accessFlags := 25, nameIndex := 1334, descriptorIndex := 20, attributes := #[] }, { accessFlags := 25, nameIndex := 1336, descriptorIndex := 20, attributes := #[] }, { accessFlags := 25, nameIndex := 1338, descriptorIndex := 20, attributes := #[] }, { accessFlags := 25, nameIndex := 1340, descriptorIndex := 20, attributes := #[] }, { accessFlags := 26, nameIndex := 749, descriptorIndex := 750, attributes := #[] }, { accessFlags := 26, nameIndex := 708, descriptorIndex := 709, attributes := #[] }, { accessFlags := 26, nameIndex := 97, descriptorIndex := 98, attributes := #[] }, { accessFlags := 74, nameIndex := 811, descriptorIndex := 812, attributes := #[] }, { accessFlags := 26, nameIndex := 1182, descriptorIndex := 20, attributes := #[] }, { accessFlags := 26, nameIndex := 808, descriptorIndex := 20, attributes := #[] }, { accessFlags := 26, nameIndex := 827, descriptorIndex := 98, attributes := #[] }, { accessFlags := 26, nameIndex := 1342, descriptorIndex := 27, attributes := #[] }, { accessFlags := 26, nameIndex := 1068, descriptorIndex := 1069, attributes := #[] }, { accessFlags := 4120, nameIndex := 313, descriptorIndex := 314, attributes := #[] }])
  fields := #[{ name := "L", type := .double, accessFlags := 26, slot := 0, constantValue := 0 }, { name := "P_F", type := .int, accessFlags := 26, slot := 1, constantValue := 0 }, { name := "Q_MIN_F", type := .int, accessFlags := 26, slot := 2, constantValue := 0 }, { name := "Q_MAX_F", type := .int, accessFlags := 26, slot := 3, constantValue := 0 }, { name := "P_D", type := .int, accessFlags := 26, slot := 4, constantValue := 0 }, { name := "Q_MIN_D", type := .int, accessFlags := 26, slot := 5, constantValue := 0 }, { name := "Q_MAX_D", type := .int, accessFlags := 26, slot := 6, constantValue := 0 }, { name := "intVal", type := (.object "java/math/BigInteger"), accessFlags := 18, slot := 0, constantValue := 0 }, { name := "scale", type := .int, accessFlags := 18, slot := 1, constantValue := 0 }, { name := "precision", type := .int, accessFlags := 130, slot := 2, constantValue := 0 }, { name := "stringCache", type := (.object "java/lang/String"), accessFlags := 130, slot := 3, constantValue := 0 }, { name := "INFLATED", type := .long, accessFlags := 24, slot := 7, constantValue := 0 }, { name := "INFLATED_BIGINT", type := (.object "java/math/BigInteger"), accessFlags := 26, slot := 8, constantValue := 0 }, { name := "intCompact", type := .long, accessFlags := 146, slot := 4, constantValue := 0 }, { name := "MAX_COMPACT_DIGITS", type := .int, accessFlags := 26, slot := 9, constantValue := 0 }, { name := "serialVersionUID", type := .long, accessFlags := 26, slot := 10, constantValue := 0 }, { name := "ZERO_THROUGH_TEN", type := (.array (.object "java/math/BigDecimal")), accessFlags := 26, slot := 11, constantValue := 0 }, { name := "ZERO_SCALED_BY", type := (.array (.object "java/math/BigDecimal")), accessFlags := 26, slot := 12, constantValue := 0 }, { name := "HALF_LONG_MAX_VALUE", type := .long, accessFlags := 26, slot := 13, constantValue := 0 }, { name := "HALF_LONG_MIN_VALUE", type := .long, accessFlags := 26, slot := 14, constantValue := 0 }, { name := "ZERO", type := (.object "java/math/BigDecimal"), accessFlags := 25, slot := 15, constantValue := 0 }, { name := "ONE", type := (.object "java/math/BigDecimal"), accessFlags := 25, slot := 16, constantValue := 0 }, { name := "TWO", type := (.object "java/math/BigDecimal"), accessFlags := 25, slot := 17, constantValue := 0 }, { name := "TEN", type := (.object "java/math/BigDecimal"), accessFlags := 25, slot := 18, constantValue := 0 }, { name := "ONE_TENTH", type := (.object "java/math/BigDecimal"), accessFlags := 26, slot := 19, constantValue := 0 }, { name := "ONE_HALF", type := (.object "java/math/BigDecimal"), accessFlags := 26, slot := 20, constantValue := 0 }, { name := "ROUND_UP", type := .int, accessFlags := 25, slot := 21, constantValue := 0 }, { name := "ROUND_DOWN", type := .int, accessFlags := 25, slot := 22, constantValue := 0 }, { name := "ROUND_CEILING", type := .int, accessFlags := 25, slot := 23, constantValue := 0 }, { name := "ROUND_FLOOR", type := .int, accessFlags := 25, slot := 24, constantValue := 0 }, { name := "ROUND_HALF_UP", type := .int, accessFlags := 25, slot := 25, constantValue := 0 }, { name := "ROUND_HALF_DOWN", type := .int, accessFlags := 25, slot := 26, constantValue := 0 }, { name := "ROUND_HALF_EVEN", type := .int, accessFlags := 25, slot := 27, constantValue := 0 }, { name := "ROUND_UNNECESSARY", type := .int, accessFlags := 25, slot := 28, constantValue := 0 }, { name := "DOUBLE_10_POW", type := (.array .double), accessFlags := 26, slot := 29, constantValue := 0 }, { name := "FLOAT_10_POW", type := (.array .float), accessFlags := 26, slot := 30, constantValue := 0 }, { name := "LONG_TEN_POWERS_TABLE", type := (.array .long), accessFlags := 26, slot := 31, constantValue := 0 }, { name := "BIG_TEN_POWERS_TABLE", type := (.array (.object "java/math/BigInteger")), accessFlags := 74, slot := 32, constantValue := 0 }, { name := "BIG_TEN_POWERS_TABLE_INITLEN", type := .int, accessFlags := 26, slot := 33, constantValue := 0 }, { name := "BIG_TEN_POWERS_TABLE_MAX", type := .int, accessFlags := 26, slot := 34, constantValue := 0 }, { name := "THRESHOLDS_TABLE", type := (.array .long), accessFlags := 26, slot := 35, constantValue := 0 }, { name := "DIV_NUM_BASE", type := .long, accessFlags := 26, slot := 36, constantValue := 0 }, { name := "LONGLONG_TEN_POWERS_TABLE", type := (.array (.array .long)), accessFlags := 26, slot := 37, constantValue := 0 }, { name := "$assertionsDisabled", type := .boolean, accessFlags := 4120, slot := 38, constantValue := 0 }]
  methods := #[]
  instanceTypes := #[(.object "java/math/BigInteger"), .int, .int, (.object "java/lang/String"), .long]
  staticTypes := #[.double, .int, .int, .int, .int, .int, .int, .long, (.object "java/math/BigInteger"), .int, .long, (.array (.object "java/math/BigDecimal")), (.array (.object "java/math/BigDecimal")), .long, .long, (.object "java/math/BigDecimal"), (.object "java/math/BigDecimal"), (.object "java/math/BigDecimal"), (.object "java/math/BigDecimal"), (.object "java/math/BigDecimal"), (.object "java/math/BigDecimal"), .int, .int, .int, .int, .int, .int, .int, .int, (.array .double), (.array .float), (.array .long), (.array (.object "java/math/BigInteger")), .int, .int, (.array .long), .long, (.array (.array .long)), .boolean]
  resolved := Array.replicate 1637 none
  statics := some 0 }

def pool7 : Array CpInfo := pool [(2, .class_ 4), (1, u "java/lang/Object"), (0, u "<init>"), (0, u "()V"), (7, .class_ 16), (1, u "java/util/Arrays"), (57, .class_ 76), (1, u "java/util/Arrays$NaturalOrder"), (36, .class_ 115), (1, u "java/util/Arrays$LegacyMergeSort"), (1, u "Z"), (32, .methodref 151 152), (0, .class_ 153), (0, .nameAndType 154 155), (0, u "java/lang/System"), (0, u "arraycopy"), (0, u "(Ljava/lang/Object;ILjava/lang/Object;II)V"), (146, u "copyOf"), (1, .methodref 305 306), (0, .class_ 307), (0, .nameAndType 308 309), (0, u "java/lang/Math"), (0, u "min"), (0, u "(II)I"), (65, .class_ 376), (0, u "java/util/Arrays$ArrayList"), (68, u "$assertionsDisabled"), (269, u "MIN_ARRAY_SORT_GRAN"), (0, u "I"), (2, u "INSERTIONSORT_THRESHOLD"), (152, u "([JI)[J"), (102, .class_ 976), (0, u "java/util/Arrays$ArrayItr")] 52

def k7m0 : Method := { name := "<init>", desc := "()V", sig := { parameters := [], returnType := none }, accessFlags := 2, code := none }
def k7c1 : Code := { maxStack := 6, maxLocals := 3, code := jdk_65_method_124_code, exceptionTable := #[], attributes := #[] }
def k7m1 : Method := { name := "copyOf", desc := "([JI)[J", sig := { parameters := [(.array .long), .int], returnType := some (.array .long) }, accessFlags := 9, code := some k7c1 }
/-- java/util/Arrays -/
def k7 : Class := { plain "java/util/Arrays" (some 0) with
  accessFlags := 49
  interfaces := #[]
  cf := some (fileOf pool7 14 #[.nestMembers #[975, 375, 113, 74]] #[{ accessFlags := 2, nameIndex := 5, descriptorIndex := 6, attributes := #[] }, { accessFlags := 9, nameIndex := 302, descriptorIndex := 872, attributes := #[] }] 49 2 #[] #[{ accessFlags := 26, nameIndex := 715, descriptorIndex := 716, attributes := #[] }, { accessFlags := 26, nameIndex := 719, descriptorIndex := 716, attributes := #[] }, { accessFlags := 4120, nameIndex := 445, descriptorIndex := 117, attributes := #[] }])
  fields := #[{ name := "MIN_ARRAY_SORT_GRAN", type := .int, accessFlags := 26, slot := 0, constantValue := 0 }, { name := "INSERTIONSORT_THRESHOLD", type := .int, accessFlags := 26, slot := 1, constantValue := 0 }, { name := "$assertionsDisabled", type := .boolean, accessFlags := 4120, slot := 2, constantValue := 0 }]
  methods := #[k7m0, k7m1]
  instanceTypes := #[]
  staticTypes := #[.int, .int, .boolean]
  resolved := Array.replicate 1029 none
  statics := none }

def pool8 : Array CpInfo := pool [(1, .class_ 2), (0, u "java/lang/Math"), (1, .class_ 6), (1, u "java/lang/Object"), (0, u "<init>"), (0, u "()V"), (89, .class_ 100), (1, u "java/lang/Math$RandomNumberGeneratorHolder"), (71, u "negativeZeroFloatBits"), (0, u "J"), (2, u "negativeZeroDoubleBits"), (24, u "min"), (43, u "$assertionsDisabled"), (0, u "Z"), (88, u "(II)I"), (2, u "twoToTheDoubleScaleDown"), (0, u "D"), (4, u "twoToTheDoubleScaleUp"), (9, u "E"), (3, u "PI"), (2, u "TAU"), (2, u "DEGREES_TO_RADIANS"), (0, u "RADIANS_TO_DEGREES")] 94

def k8m0 : Method := { name := "<init>", desc := "()V", sig := { parameters := [], returnType := none }, accessFlags := 2, code := none }
def k8c1 : Code := { maxStack := 2, maxLocals := 2, code := jdk_29_method_69_code, exceptionTable := #[], attributes := #[] }
def k8m1 : Method := { name := "min", desc := "(II)I", sig := { parameters := [.int, .int], returnType := some .int }, accessFlags := 9, code := some k8c1 }
/-- java/lang/Math -/
def k8 : Class := { plain "java/lang/Math" (some 0) with
  accessFlags := 49
  interfaces := #[]
  cf := some (fileOf pool8 1 #[.nestMembers #[98]] #[{ accessFlags := 2, nameIndex := 7, descriptorIndex := 8, attributes := #[] }, { accessFlags := 9, nameIndex := 201, descriptorIndex := 335, attributes := #[] }] 49 4 #[] #[{ accessFlags := 25, nameIndex := 354, descriptorIndex := 339, attributes := #[] }, { accessFlags := 25, nameIndex := 358, descriptorIndex := 339, attributes := #[] }, { accessFlags := 25, nameIndex := 361, descriptorIndex := 339, attributes := #[] }, { accessFlags := 26, nameIndex := 364, descriptorIndex := 339, attributes := #[] }, { accessFlags := 26, nameIndex := 365, descriptorIndex := 339, attributes := #[] }, { accessFlags := 26, nameIndex := 172, descriptorIndex := 173, attributes := #[] }, { accessFlags := 26, nameIndex := 176, descriptorIndex := 173, attributes := #[] }, { accessFlags := 8, nameIndex := 344, descriptorIndex := 339, attributes := #[] }, { accessFlags := 8, nameIndex := 338, descriptorIndex := 339, attributes := #[] }, { accessFlags := 4120, nameIndex := 245, descriptorIndex := 246, attributes := #[] }])
  fields := #[{ name := "E", type := .double, accessFlags := 25, slot := 0, constantValue := 0 }, { name := "PI", type := .double, accessFlags := 25, slot := 1, constantValue := 0 }, { name := "TAU", type := .double, accessFlags := 25, slot := 2, constantValue := 0 }, { name := "DEGREES_TO_RADIANS", type := .double, accessFlags := 26, slot := 3, constantValue := 0 }, { name := "RADIANS_TO_DEGREES", type := .double, accessFlags := 26, slot := 4, constantValue := 0 }, { name := "negativeZeroFloatBits", type := .long, accessFlags := 26, slot := 5, constantValue := 0 }, { name := "negativeZeroDoubleBits", type := .long, accessFlags := 26, slot := 6, constantValue := 0 }, { name := "twoToTheDoubleScaleUp", type := .double, accessFlags := 8, slot := 7, constantValue := 0 }, { name := "twoToTheDoubleScaleDown", type := .double, accessFlags := 8, slot := 8, constantValue := 0 }, { name := "$assertionsDisabled", type := .boolean, accessFlags := 4120, slot := 9, constantValue := 0 }]
  methods := #[k8m0, k8m1]
  instanceTypes := #[]
  staticTypes := #[.double, .double, .double, .double, .double, .long, .long, .double, .double, .boolean]
  resolved := Array.replicate 460 none
  statics := none }

def pool9 : Array CpInfo := pool [(2, .class_ 4), (1, u "java/lang/Object"), (0, u "<init>"), (0, u "()V"), (1, .class_ 10), (1, u "java/lang/System"), (0, u "allowSecurityManager"), (0, u "I"), (16, u "cons"), (0, u "Ljava/io/Console;"), (77, .class_ 110), (1, u "java/lang/System$CallersHolder"), (43, u "initialErrStream"), (0, u "Ljava/io/PrintStream;"), (19, u "security"), (0, u "Ljava/lang/SecurityManager;"), (31, .class_ 209), (0, u "java/lang/System$1"), (7, u "props"), (0, u "Ljava/util/Properties;"), (2, u "lineSeparator"), (0, u "Ljava/lang/String;"), (96, .class_ 321), (1, u "java/lang/System$LoggerFinder"), (5, .class_ 328), (0, u "java/lang/System$Logger"), (67, u "err"), (2, u "out"), (91, u "notSupportedJnuEncoding"), (15, u "in"), (17, u "initialIn"), (0, u "Ljava/io/InputStream;"), (35, u "bootLayer"), (0, u "Ljava/lang/ModuleLayer;"), (99, .class_ 664), (0, u "java/lang/System$2"), (9, u "NEVER"), (2, u "MAYBE"), (49, u "arraycopy"), (0, u "(Ljava/lang/Object;ILjava/lang/Object;II)V"), (72, .class_ 802), (0, u "java/lang/System$Logger$Level")] 31

def k9m0 : Method := { name := "<init>", desc := "()V", sig := { parameters := [], returnType := none }, accessFlags := 2, code := none }
def k9m1 : Method := { name := "arraycopy", desc := "(Ljava/lang/Object;ILjava/lang/Object;II)V", sig := { parameters := [(.object "java/lang/Object"), .int, (.object "java/lang/Object"), .int, .int], returnType := none }, accessFlags := 265, code := none }
/-- java/lang/System -/
def k9 : Class := { plain "java/lang/System" (some 0) with
  accessFlags := 49
  interfaces := #[]
  cf := some (fileOf pool9 8 #[.nestMembers #[319, 327, 801, 108, 663, 208]] #[{ accessFlags := 2, nameIndex := 5, descriptorIndex := 6, attributes := #[] }, { accessFlags := 265, nameIndex := 727, descriptorIndex := 728, attributes := #[] }] 49 2 #[] #[{ accessFlags := 25, nameIndex := 507, descriptorIndex := 526, attributes := #[] }, { accessFlags := 25, nameIndex := 399, descriptorIndex := 155, attributes := #[] }, { accessFlags := 25, nameIndex := 396, descriptorIndex := 155, attributes := #[] }, { accessFlags := 10, nameIndex := 525, descriptorIndex := 526, attributes := #[] }, { accessFlags := 26, nameIndex := 674, descriptorIndex := 12, attributes := #[] }, { accessFlags := 26, nameIndex := 677, descriptorIndex := 12, attributes := #[] }, { accessFlags := 10, nameIndex := 11, descriptorIndex := 12, attributes := #[] }, { accessFlags := 74, nameIndex := 175, descriptorIndex := 176, attributes := #[] }, { accessFlags := 10, nameIndex := 491, descriptorIndex := 222, attributes := #[] }, { accessFlags := 74, nameIndex := 29, descriptorIndex := 30, attributes := #[] }, { accessFlags := 74, nameIndex := 154, descriptorIndex := 155, attributes := #[] }, { accessFlags := 10, nameIndex := 217, descriptorIndex := 218, attributes := #[] }, { accessFlags := 10, nameIndex := 221, descriptorIndex := 222, attributes := #[] }, { accessFlags := 8, nameIndex := 562, descriptorIndex := 563, attributes := #[] }])
  fields := #[{ name := "in", type := (.object "java/io/InputStream"), accessFlags := 25, slot := 0, constantValue := 0 }, { name := "out", type := (.object "java/io/PrintStream"), accessFlags := 25, slot := 1, constantValue := 0 }, { name := "err", type := (.object "java/io/PrintStream"), accessFlags := 25, slot := 2, constantValue := 0 }, { name := "initialIn", type := (.object "java/io/InputStream"), accessFlags := 10, slot := 3, constantValue := 0 }, { name := "NEVER", type := .int, accessFlags := 26, slot := 4, constantValue := 0 }, { name := "MAYBE", type := .int, accessFlags := 26, slot := 5, constantValue := 0 }, { name := "allowSecurityManager", type := .int, accessFlags := 10, slot := 6, constantValue := 0 }, { name := "security", type := (.object "java/lang/SecurityManager"), accessFlags := 74, slot := 7, constantValue := 0 }, { name := "notSupportedJnuEncoding", type := (.object "java/lang/String"), accessFlags := 10, slot := 8, constantValue := 0 }, { name := "cons", type := (.object "java/io/Console"), accessFlags := 74, slot := 9, constantValue := 0 }, { name := "initialErrStream", type := (.object "java/io/PrintStream"), accessFlags := 74, slot := 10, constantValue := 0 }, { name := "props", type := (.object "java/util/Properties"), accessFlags := 10, slot := 11, constantValue := 0 }, { name := "lineSeparator", type := (.object "java/lang/String"), accessFlags := 10, slot := 12, constantValue := 0 }, { name := "bootLayer", type := (.object "java/lang/ModuleLayer"), accessFlags := 8, slot := 13, constantValue := 0 }]
  methods := #[k9m0, k9m1]
  instanceTypes := #[]
  staticTypes := #[(.object "java/io/InputStream"), (.object "java/io/PrintStream"), (.object "java/io/PrintStream"), (.object "java/io/InputStream"), .int, .int, .int, (.object "java/lang/SecurityManager"), (.object "java/lang/String"), (.object "java/io/Console"), (.object "java/io/PrintStream"), (.object "java/util/Properties"), (.object "java/lang/String"), (.object "java/lang/ModuleLayer")]
  resolved := Array.replicate 834 none
  statics := none }

def pool10 : Array CpInfo := pool [(4, .class_ 6), (1, u "java/lang/Number"), (16, .class_ 25), (1, u "java/math/BigInteger"), (0, u "ZERO"), (0, u "Ljava/math/BigInteger;"), (2, u "mag"), (0, u "[I"), (2, u "signum"), (0, u "I"), (59, u "bitsPerDigit"), (0, u "[J"), (9, u "digitsPerInt"), (12, u "intRadix"), (60, u "SMALL_PRIME_PRODUCT"), (79, u "ONE"), (6, u "TWO"), (43, u "$assertionsDisabled"), (0, u "Z"), (36, u "posConst"), (0, u "[Ljava/math/BigInteger;"), (4, u "negConst"), (116, .class_ 474), (1, u "java/math/BigInteger$RecursiveOp"), (106, u "NEGATIVE_ONE"), (91, u "bnExpModThreshTable"), (72, u "lowestSetBitPlusTwo"), (2, u "bitLengthPlusOne"), (2, u "bitCountPlusOne"), (6, u "LOG_TWO"), (0, u "D"), (2, u "logCache"), (0, u "[D"), (13, u "NUM_ZEROS"), (2, u "ZEROS"), (0, u "Ljava/lang/String;"), (9, u "longRadix"), (5, u "digitsPerLong"), (22, u "powerCache"), (0, u "[[Ljava/math/BigInteger;"), (45, u "firstNonzeroIntNumPlusTwo"), (38, .class_ 909), (1, u "java/math/BigInteger$UnsafeHolder"), (141, u "TEN"), (106, u "serialPersistentFields"), (0, u "[Ljava/io/ObjectStreamField;"), (0, .class_ 1161), (0, u "java/lang/Comparable"), (0, u "LONG_MASK"), (0, u "J"), (1, u "MAX_MAG_LENGTH"), (0, u "PRIME_SEARCH_BIT_LENGTH_LIMIT"), (1, u "KARATSUBA_THRESHOLD"), (1, u "TOOM_COOK_THRESHOLD"), (1, u "KARATSUBA_SQUARE_THRESHOLD"), (1, u "TOOM_COOK_SQUARE_THRESHOLD"), (1, u "BURNIKEL_ZIEGLER_THRESHOLD"), (0, u "BURNIKEL_ZIEGLER_OFFSET"), (1, u "SCHOENHAGE_BASE_CONVERSION_THRESHOLD"), (1, u "MULTIPLY_SQUARE_THRESHOLD"), (0, u "MONTGOMERY_INTRINSIC_THRESHOLD"), (1, u "SMALL_PRIME_THRESHOLD"), (1, u "DEFAULT_PRIME_CERTAINTY"), (1, u "MAX_CONSTANT"), (3, u "serialVersionUID"), (338, .class_ 1532), (0, u "java/math/BigInteger$RecursiveOp$RecursiveSquare"), (0, .class_ 1534), (0, u "java/math/BigInteger$RecursiveOp$RecursiveMultiply")] 7

/-- java/math/BigInteger -/
def k10 : Class := { plain "java/math/BigInteger" (some 4) with
  accessFlags := 33
  interfaces := #[5]
  cf := some (fileOf pool10 23 #[.nestMembers #[907, 472, 1531, 1533]] #[] 33 4 #[1160] #[{ accessFlags := 16, nameIndex := 34, descriptorIndex := 35, attributes := #[] }, { accessFlags := 16, nameIndex := 30, descriptorIndex := 31, attributes := #[] }, { accessFlags := 2, nameIndex := 752, descriptorIndex := 35, attributes := #[] }, { accessFlags := 2, nameIndex := 749, descriptorIndex := 35, attributes := #[] }, { accessFlags := 2, nameIndex := 746, descriptorIndex := 35, attributes := #[] }, { accessFlags := 2, nameIndex := 868, descriptorIndex := 35, attributes := #[] }, { accessFlags := 24, nameIndex := 1162, descriptorIndex := 1163, attributes := #[] }, { accessFlags := 26, nameIndex := 1165, descriptorIndex := 35, attributes := #[] }, { accessFlags := 26, nameIndex := 1166, descriptorIndex := 35, attributes := #[] }, { accessFlags := 26, nameIndex := 1168, descriptorIndex := 35, attributes := #[] }, { accessFlags := 26, nameIndex := 1170, descriptorIndex := 35, attributes := #[] }, { accessFlags := 26, nameIndex := 1172, descriptorIndex := 35, attributes := #[] }, { accessFlags := 26, nameIndex := 1174, descriptorIndex := 35, attributes := #[] }, { accessFlags := 24, nameIndex := 1176, descriptorIndex := 35, attributes := #[] }, { accessFlags := 24, nameIndex := 1177, descriptorIndex := 35, attributes := #[] }, { accessFlags := 26, nameIndex := 1179, descriptorIndex := 35, attributes := #[] }, { accessFlags := 26, nameIndex := 1181, descriptorIndex := 35, attributes := #[] }, { accessFlags := 26, nameIndex := 1182, descriptorIndex := 35, attributes := #[] }, { accessFlags := 10, nameIndex := 95, descriptorIndex := 96, attributes := #[] }, { accessFlags := 26, nameIndex := 1184, descriptorIndex := 35, attributes := #[] }, { accessFlags := 26, nameIndex := 1186, descriptorIndex := 35, attributes := #[] }, { accessFlags := 26, nameIndex := 180, descriptorIndex := 27, attributes := #[] }, { accessFlags := 26, nameIndex := 1188, descriptorIndex := 35, attributes := #[] }, { accessFlags := 26, nameIndex := 349, descriptorIndex := 350, attributes := #[] }, { accessFlags := 26, nameIndex := 355, descriptorIndex := 350, attributes := #[] }, { accessFlags := 74, nameIndex := 821, descriptorIndex := 822, attributes := #[] }, { accessFlags := 26, nameIndex := 763, descriptorIndex := 764, attributes := #[] }, { accessFlags := 26, nameIndex := 759, descriptorIndex := 760, attributes := #[] }, { accessFlags := 25, nameIndex := 26, descriptorIndex := 27, attributes := #[] }, { accessFlags := 25, nameIndex := 260, descriptorIndex := 27, attributes := #[] }, { accessFlags := 25, nameIndex := 267, descriptorIndex := 27, attributes := #[] }, { accessFlags := 26, nameIndex := 581, descriptorIndex := 27, attributes := #[] }, { accessFlags := 25, nameIndex := 1051, descriptorIndex := 27, attributes := #[] }, { accessFlags := 8, nameIndex := 673, descriptorIndex := 31, attributes := #[] }, { accessFlags := 10, nameIndex := 778, descriptorIndex := 35, attributes := #[] }, { accessFlags := 26, nameIndex := 781, descriptorIndex := 782, attributes := #[] }, { accessFlags := 10, nameIndex := 798, descriptorIndex := 31, attributes := #[] }, { accessFlags := 10, nameIndex := 792, descriptorIndex := 350, attributes := #[] }, { accessFlags := 10, nameIndex := 106, descriptorIndex := 31, attributes := #[] }, { accessFlags := 10, nameIndex := 119, descriptorIndex := 31, attributes := #[] }, { accessFlags := 26, nameIndex := 1192, descriptorIndex := 1163, attributes := #[] }, { accessFlags := 26, nameIndex := 1158, descriptorIndex := 1159, attributes := #[] }, { accessFlags := 4120, nameIndex := 311, descriptorIndex := 312, attributes := #[] }])
  fields := #[{ name := "signum", type := .int, accessFlags := 16, slot := 0, constantValue := 0 }, { name := "mag", type := (.array .int), accessFlags := 16, slot := 1, constantValue := 0 }, { name := "bitCountPlusOne", type := .int, accessFlags := 2, slot := 2, constantValue := 0 }, { name := "bitLengthPlusOne", type := .int, accessFlags := 2, slot := 3, constantValue := 0 }, { name := "lowestSetBitPlusTwo", type := .int, accessFlags := 2, slot := 4, constantValue := 0 }, { name := "firstNonzeroIntNumPlusTwo", type := .int, accessFlags := 2, slot := 5, constantValue := 0 }, { name := "LONG_MASK", type := .long, accessFlags := 24, slot := 0, constantValue := 0 }, { name := "MAX_MAG_LENGTH", type := .int, accessFlags := 26, slot := 1, constantValue := 0 }, { name := "PRIME_SEARCH_BIT_LENGTH_LIMIT", type := .int, accessFlags := 26, slot := 2, constantValue := 0 }, { name := "KARATSUBA_THRESHOLD", type := .int, accessFlags := 26, slot := 3, constantValue := 0 }, { name := "TOOM_COOK_THRESHOLD", type := .int, accessFlags := 26, slot := 4, constantValue := 0 }, { name := "KARATSUBA_SQUARE_THRESHOLD", type := .int, accessFlags := 26, slot := 5, constantValue := 0 }, { name := "TOOM_COOK_SQUARE_THRESHOLD", type := .int, accessFlags := 26, slot := 6, constantValue := 0 }, { name := "BURNIKEL_ZIEGLER_THRESHOLD", type := .int, accessFlags := 24, slot := 7, constantValue := 0 }, { name := "BURNIKEL_ZIEGLER_OFFSET", type := .int, accessFlags := 24, slot := 8, constantValue := 0 }, { name := "SCHOENHAGE_BASE_CONVERSION_THRESHOLD", type := .int, accessFlags := 26, slot := 9, constantValue := 0 }, { name := "MULTIPLY_SQUARE_THRESHOLD", type := .int, accessFlags := 26, slot := 10, constantValue := 0 }, { name := "MONTGOMERY_INTRINSIC_THRESHOLD", type := .int, accessFlags := 26, slot := 11, constantValue := 0 }, { name := "bitsPerDigit", type := (.array .long), accessFlags := 10, slot := 12, constantValue := 0 }, { name := "SMALL_PRIME_THRESHOLD", type := .int, accessFlags := 26, slot := 13, constantValue := 0 }, { name := "DEFAULT_PRIME_CERTAINTY", type := .int, accessFlags := 26, slot := 14, constantValue := 0 }, { name := "SMALL_PRIME_PRODUCT", type := (.object "java/math/BigInteger"), accessFlags := 26, slot := 15, constantValue := 0 }, { name := "MAX_CONSTANT", type := .int, accessFlags := 26, slot := 16, constantValue := 0 }, { name := "posConst", type := (.array (.object "java/math/BigInteger")), accessFlags := 26, slot := 17, constantValue := 0 }, { name := "negConst", type := (.array (.object "java/math/BigInteger")), accessFlags := 26, slot := 18, constantValue := 0 }, { name := "powerCache", type := (.array (.array (.object "java/math/BigInteger"))), accessFlags := 74, slot := 19, constantValue := 0 }, { name := "logCache", type := (.array .double), accessFlags := 26, slot := 20, constantValue := 0 }, { name := "LOG_TWO", type := .double, accessFlags := 26, slot := 21, constantValue := 0 }, { name := "ZERO", type := (.object "java/math/BigInteger"), accessFlags := 25, slot := 22, constantValue := 0 }, { name := "ONE", type := (.object "java/math/BigInteger"), accessFlags := 25, slot := 23, constantValue := 0 }, { name := "TWO", type := (.object "java/math/BigInteger"), accessFlags := 25, slot := 24, constantValue := 0 }, { name := "NEGATIVE_ONE", type := (.object "java/math/BigInteger"), accessFlags := 26, slot := 25, constantValue := 0 }, { name := "TEN", type := (.object "java/math/BigInteger"), accessFlags := 25, slot := 26, constantValue := 0 }, { name := "bnExpModThreshTable", type := (.array .int), accessFlags := 8, slot := 27, constantValue := 0 }, { name := "NUM_ZEROS", type := .int, accessFlags := 10, slot := 28, constantValue := 0 }, { name := "ZEROS", type := (.object "java/lang/String"), accessFlags := 26, slot := 29, constantValue := 0 }, { name := "digitsPerLong", type := (.array .int), accessFlags := 10, slot := 30, constantValue := 0 }, { name := "longRadix", type := (.array (.object "java/math/BigInteger")), accessFlags := 10, slot := 31, constantValue := 0 }, { name := "digitsPerInt", type := (.array .int), accessFlags := 10, slot := 32, constantValue := 0 }, { name := "intRadix", type := (.array .int), accessFlags := 10, slot := 33, constantValue := 0 }, { name := "serialVersionUID", type := .long, accessFlags := 26, slot := 34, constantValue := 0 }, { name := "serialPersistentFields", type := (.array (.object "java/io/ObjectStreamField")), accessFlags := 26, slot := 35, constantValue := 0 }, { name := "$assertionsDisabled", type := .boolean, accessFlags := 4120, slot := 36, constantValue := 0 }]
  methods := #[]
  instanceTypes := #[.int, (.array .int), .int, .int, .int, .int]
  staticTypes := #[.long, .int, .int, .int, .int, .int, .int, .int, .int, .int, .int, .int, (.array .long), .int, .int, (.object "java/math/BigInteger"), .int, (.array (.object "java/math/BigInteger")), (.array (.object "java/math/BigInteger")), (.array (.array (.object "java/math/BigInteger"))), (.array .double), .double, (.object "java/math/BigInteger"), (.object "java/math/BigInteger"), (.object "java/math/BigInteger"), (.object "java/math/BigInteger"), (.object "java/math/BigInteger"), (.array .int), .int, (.object "java/lang/String"), (.array .int), (.array (.object "java/math/BigInteger")), (.array .int), (.array .int), .long, (.array (.object "java/io/ObjectStreamField")), .boolean]
  resolved := Array.replicate 1542 none
  statics := some 1 }

def pool11 : Array CpInfo := pool [(1, u "java/lang/Cloneable"), (0, .class_ 1), (0, u "java/lang/Object"), (0, .class_ 3)] 3

/-- java/lang/Cloneable -/
def k11 : Class := { plain "java/lang/Cloneable" (some 0) with
  accessFlags := 1537
  interfaces := #[]
  cf := some (fileOf pool11 2 #[] #[] 1537 4 #[] #[])
  fields := #[]
  methods := #[]
  instanceTypes := #[]
  staticTypes := #[]
  resolved := Array.replicate 8 none
  statics := none }

/-- the primitive byte -/
def k12 : Class := { plain "byte" none with kind := .primitive 'B', accessFlags := 0x411 }
/-- [B -/
def k13 : Class := { plain "[B" (some 0) with kind := .array 12 .byte, interfaces := #[11, 3], accessFlags := 1041 }

/-- the primitive int -/
def k14 : Class := { plain "int" none with kind := .primitive 'I', accessFlags := 0x411 }
/-- [I -/
def k15 : Class := { plain "[I" (some 0) with kind := .array 14 .int, interfaces := #[11, 3], accessFlags := 1041 }

/-- the primitive long -/
def k16 : Class := { plain "long" none with kind := .primitive 'J', accessFlags := 0x411 }
/-- [J -/
def k17 : Class := { plain "[J" (some 0) with kind := .array 16 .long, interfaces := #[11, 3], accessFlags := 1041 }

def heap : Heap := #[{ cls := 6, slots := #[.double 0, .int 0, .int 0, .int 0, .int 0, .int 0, .int 0, .long 0, .null, .int 0, .long 0, .null, .null, .long 0, .long 0, .ref 4, .null, .null, .null, .null, .null, .int 0, .int 0, .int 0, .int 0, .int 0, .int 0, .int 0, .int 0, .null, .null, .null, .null, .int 0, .int 0, .null, .long 0, .null, .int 0], vm := .statics 6 },
  { cls := 10, slots := #[.long 0, .int 0, .int 0, .int 0, .int 0, .int 0, .int 0, .int 0, .int 0, .int 0, .int 0, .int 0, .null, .int 0, .int 0, .null, .int 0, .null, .null, .null, .null, .double 0, .ref 3, .null, .null, .null, .null, .null, .int 0, .null, .null, .null, .null, .null, .long 0, .null, .int 0], vm := .statics 10 },
  { cls := 15, slots := #[], vm := .none },
  { cls := 10, slots := #[.int 0, .ref 2, .int 0, .int 0, .int 0, .int 0], vm := .none },
  { cls := 6, slots := #[.ref 3, .int 0, .int 0, .null, .long 0], vm := .none }]
def classes : Array Class := #[k0, k1, k2, k3, k4, k5, k6, k7, k8, k9, k10, k11, k12, k13, k14, k15, k16, k17]
def interned : List (Array UInt16 × Addr) := []
def slotsUsed : Nat := 87
def theMethod : MethodId := ⟨1, 1⟩
def args0 : Array Value := #[.long 5, .long 9, .long 7, .long 8]
def aboutOver (below : List Frame) : State where
  vm := { classes := classes, interned := interned.toArray }
  heap := heap
  slotsUsed := slotsUsed
  threads := #[{ frames := .invoking theMethod args0 :: below }]
def below0 : List Frame := [.native { method := ⟨0, 0⟩, args := #[] }]
def about1 : State := aboutOver below0
def p0 : Program := .bare "" "" ""
def e0 : Env := launch0.env 0 0 0
theorem w_frames : about1.frames = Frame.invoking theMethod args0 :: below0 := rfl
set_option maxRecDepth 65536 in
theorem w_args : argsFit about1.vm theMethod args0 = true := by decide +kernel
set_option maxRecDepth 65536 in
theorem w_heap : heapFits about1 = true := by decide +kernel
set_option maxRecDepth 65536 in
theorem w_runnable : about1.curStatus? = some .runnable := by decide +kernel
set_option maxRecDepth 65536 in
theorem w_alone : about1.alone = true := by decide +kernel
set_option maxRecDepth 65536 in
theorem w_named : about1.methodNamed? x = some theMethod := by decide +kernel
set_option maxRecDepth 65536 in
theorem w_hears : about1.hears theMethod below0 = true := by decide +kernel
set_option maxRecDepth 65536 in
theorem w_ripe : about1.ripe theMethod args0 below0 = true := by decide +kernel
theorem w_running : about1.status = .running := rfl
set_option maxRecDepth 65536 in
theorem w_room : about1.hasRoom e0.platform room_1 = true :=
  launch0.hasRoom_least _ room_1 (by decide +kernel) (by decide +kernel) (by decide +kernel) (by decide +kernel) (by decide +kernel) (by decide +kernel)
theorem allAtoms_all (ts : List Jvm.Cond) (a : Array Jvm.Value) (st : Jvm.State) : (allAtoms ts).before a st = ts.all (fun c => c.before a st) := by
  induction ts with
  | nil => rfl
  | cons c t ih =>
    show (Jvm.Cond.and c (allAtoms t)).before a st = _
    rw [Jvm.Cond.before_and, ih, List.all_cons]
def words1 : List Jvm.Cond := Jvm.Cond.code x code maxLocals ret :: tables_1
/-- a 'code' word, met by the world's own term for the bytes: nothing is compared byte by byte -/
theorem code_word {y : MethodName} {bytes : ByteArray} {mx : Nat} {rt : Option FieldType} {a : Array Value} {s : State} {m : MethodId} {meth : Method} {c : Code} (h1 : s.methodNamed? y = some m) (h2 : s.vm.method? m = some meth) (h3 : meth.code = some c) (h4 : c.code = bytes)
    (h5 : (c.maxLocals == mx && c.exceptionTable.isEmpty && decide (c.maxStack ≤ mostOperands) && decide (meth.sig.returnType = rt) && !meth.locks && decide (parseMethodDescriptor y.desc = some meth.sig)) = true) : (Jvm.Cond.code y bytes mx rt).before a s = true := by
  simp only [Bool.and_eq_true, beq_iff_eq, Bool.not_eq_true', decide_eq_true_eq] at h5
  obtain ⟨⟨⟨⟨⟨g1, g2⟩, g3⟩, g4⟩, g5⟩, g6⟩ := h5
  simp [Cond.before, Cond.holds, Cond.value, h1, h2, h3, h4, g1, g2, g3, g4, g5, g6]
def isCode : Jvm.Cond → Bool
  | .code _ _ _ _ => true
  | _ => false
theorem all_split {L : List Jvm.Cond} {P : Jvm.Cond → Bool} (h1 : L.all (fun c => isCode c || P c) = true) (h2 : ∀ c ∈ L.filter isCode, P c = true) : L.all P = true := by
  refine List.all_eq_true.mpr fun c hc => ?_
  have h := List.all_eq_true.mp h1 c hc
  rcases Bool.eq_false_or_eq_true (isCode c) with hi | hi
  · exact h2 c (List.mem_filter.mpr ⟨hc, hi⟩)
  · simpa [hi] using h
set_option maxRecDepth 65536 in
theorem w_c0 : (Jvm.Cond.code x code maxLocals ret).before args0 about1 = true := code_word (m := ⟨1, 1⟩) (meth := k1m1) (c := k1c1) (by decide +kernel) rfl rfl rfl (by decide +kernel)
set_option maxRecDepth 65536 in
theorem w_c1 : (Jvm.Cond.code ({ cls := "com/example/nakazilo/nakazilo/PaymentGroup", name := "<init>", desc := "(Ljava/lang/Object;)V" } : Jvm.MethodName) prog_91_method_1_code (2 : Nat) (Option.none : Option Jvm.ClassFile.FieldType)).before args0 about1 = true := code_word (m := ⟨2, 0⟩) (meth := k2m0) (c := k2c0) (by decide +kernel) rfl rfl rfl (by decide +kernel)
set_option maxRecDepth 65536 in
theorem w_c2 : (Jvm.Cond.code ({ cls := "java/lang/Object", name := "<init>", desc := "()V" } : Jvm.MethodName) object_method_1_code (1 : Nat) (Option.none : Option Jvm.ClassFile.FieldType)).before args0 about1 = true := code_word (m := ⟨0, 0⟩) (meth := k0m0) (c := k0c0) (by decide +kernel) rfl rfl rfl (by decide +kernel)
set_option maxRecDepth 65536 in
theorem w_c3 : (Jvm.Cond.code ({ cls := "com/example/nakazilo/nakazilo/PaymentGroup", name := "startSpan", desc := "(J)V" } : Jvm.MethodName) prog_91_method_6_code (3 : Nat) (Option.none : Option Jvm.ClassFile.FieldType)).before args0 about1 = true := code_word (m := ⟨2, 1⟩) (meth := k2m1) (c := k2c1) (by decide +kernel) rfl rfl rfl (by decide +kernel)
set_option maxRecDepth 65536 in
theorem w_c4 : (Jvm.Cond.code ({ cls := "com/example/nakazilo/nakazilo/PaymentGroup", name := "endSpan", desc := "(J)V" } : Jvm.MethodName) prog_91_method_7_code (3 : Nat) (Option.none : Option Jvm.ClassFile.FieldType)).before args0 about1 = true := code_word (m := ⟨2, 2⟩) (meth := k2m2) (c := k2c2) (by decide +kernel) rfl rfl rfl (by decide +kernel)
set_option maxRecDepth 65536 in
theorem w_c5 : (Jvm.Cond.code ({ cls := "com/example/nakazilo/nakazilo/PaymentGroup", name := "spanStart", desc := "(I)J" } : Jvm.MethodName) prog_91_method_9_code (2 : Nat) (Option.some Jvm.ClassFile.FieldType.long)).before args0 about1 = true := code_word (m := ⟨2, 4⟩) (meth := k2m4) (c := k2c4) (by decide +kernel) rfl rfl rfl (by decide +kernel)
set_option maxRecDepth 65536 in
theorem w_c6 : (Jvm.Cond.code ({ cls := "com/example/nakazilo/nakazilo/PaymentGroup", name := "spanEnd", desc := "(I)J" } : Jvm.MethodName) prog_91_method_10_code (2 : Nat) (Option.some Jvm.ClassFile.FieldType.long)).before args0 about1 = true := code_word (m := ⟨2, 5⟩) (meth := k2m5) (c := k2c5) (by decide +kernel) rfl rfl rfl (by decide +kernel)
set_option maxRecDepth 65536 in
theorem w_c7 : (Jvm.Cond.code ({ cls := "java/util/Arrays", name := "copyOf", desc := "([JI)[J" } : Jvm.MethodName) jdk_65_method_124_code (3 : Nat) (Option.some (Jvm.ClassFile.FieldType.array Jvm.ClassFile.FieldType.long))).before args0 about1 = true := code_word (m := ⟨7, 1⟩) (meth := k7m1) (c := k7c1) (by decide +kernel) rfl rfl rfl (by decide +kernel)
set_option maxRecDepth 65536 in
theorem w_c8 : (Jvm.Cond.code ({ cls := "java/lang/Math", name := "min", desc := "(II)I" } : Jvm.MethodName) jdk_29_method_69_code (2 : Nat) (Option.some Jvm.ClassFile.FieldType.int)).before args0 about1 = true := code_word (m := ⟨8, 1⟩) (meth := k8m1) (c := k8c1) (by decide +kernel) rfl rfl rfl (by decide +kernel)
set_option maxRecDepth 65536 in
theorem w_c9 : (Jvm.Cond.code ({ cls := "com/example/nakazilo/nakazilo/PaymentGroup", name := "spans", desc := "()I" } : Jvm.MethodName) prog_91_method_8_code (1 : Nat) (Option.some Jvm.ClassFile.FieldType.int)).before args0 about1 = true := code_word (m := ⟨2, 3⟩) (meth := k2m3) (c := k2c3) (by decide +kernel) rfl rfl rfl (by decide +kernel)
def codes1 : List Jvm.Cond := [Jvm.Cond.code x code maxLocals ret, Jvm.Cond.code ({ cls := "com/example/nakazilo/nakazilo/PaymentGroup", name := "<init>", desc := "(Ljava/lang/Object;)V" } : Jvm.MethodName) prog_91_method_1_code (2 : Nat) (Option.none : Option Jvm.ClassFile.FieldType), Jvm.Cond.code ({ cls := "java/lang/Object", name := "<init>", desc := "()V" } : Jvm.MethodName) object_method_1_code (1 : Nat) (Option.none : Option Jvm.ClassFile.FieldType), Jvm.Cond.code ({ cls := "com/example/nakazilo/nakazilo/PaymentGroup", name := "startSpan", desc := "(J)V" } : Jvm.MethodName) prog_91_method_6_code (3 : Nat) (Option.none : Option Jvm.ClassFile.FieldType), Jvm.Cond.code ({ cls := "com/example/nakazilo/nakazilo/PaymentGroup", name := "endSpan", desc := "(J)V" } : Jvm.MethodName) prog_91_method_7_code (3 : Nat) (Option.none : Option Jvm.ClassFile.FieldType), Jvm.Cond.code ({ cls := "com/example/nakazilo/nakazilo/PaymentGroup", name := "spanStart", desc := "(I)J" } : Jvm.MethodName) prog_91_method_9_code (2 : Nat) (Option.some Jvm.ClassFile.FieldType.long), Jvm.Cond.code ({ cls := "com/example/nakazilo/nakazilo/PaymentGroup", name := "spanEnd", desc := "(I)J" } : Jvm.MethodName) prog_91_method_10_code (2 : Nat) (Option.some Jvm.ClassFile.FieldType.long), Jvm.Cond.code ({ cls := "java/util/Arrays", name := "copyOf", desc := "([JI)[J" } : Jvm.MethodName) jdk_65_method_124_code (3 : Nat) (Option.some (Jvm.ClassFile.FieldType.array Jvm.ClassFile.FieldType.long)), Jvm.Cond.code ({ cls := "java/lang/Math", name := "min", desc := "(II)I" } : Jvm.MethodName) jdk_29_method_69_code (2 : Nat) (Option.some Jvm.ClassFile.FieldType.int), Jvm.Cond.code ({ cls := "com/example/nakazilo/nakazilo/PaymentGroup", name := "spans", desc := "()I" } : Jvm.MethodName) prog_91_method_8_code (1 : Nat) (Option.some Jvm.ClassFile.FieldType.int)]
set_option maxRecDepth 65536 in
theorem codes_eq : words1.filter isCode = codes1 := rfl
theorem w_codes : ∀ c ∈ words1.filter isCode, c.before args0 about1 = true := by
  rw [codes_eq]
  intro c hc
  simp only [codes1, List.mem_cons, List.not_mem_nil, or_false] at hc
  rcases hc with rfl | rfl | rfl | rfl | rfl | rfl | rfl | rfl | rfl | rfl
  · exact w_c0
  · exact w_c1
  · exact w_c2
  · exact w_c3
  · exact w_c4
  · exact w_c5
  · exact w_c6
  · exact w_c7
  · exact w_c8
  · exact w_c9
set_option maxRecDepth 65536 in
theorem w_t1 : (words1.take 24).all (fun c => isCode c || c.before args0 about1) = true := by decide +kernel
set_option maxRecDepth 65536 in
theorem w_t2 : ((words1.drop 24).take 24).all (fun c => isCode c || c.before args0 about1) = true := by decide +kernel
set_option maxRecDepth 65536 in
theorem w_t3 : ((words1.drop 24).drop 24).all (fun c => isCode c || c.before args0 about1) = true := by decide +kernel
theorem w_tables : (allAtoms (Jvm.Cond.code x code maxLocals ret :: tables_1)).before args0 about1 = true := by
  rw [allAtoms_all]
  show words1.all (fun c => c.before args0 about1) = true
  refine all_split ?_ w_codes
  rw [← List.take_append_drop 24 words1, List.all_append, w_t1, ← List.take_append_drop 24 (words1.drop 24), List.all_append, w_t2, w_t3]
  rfl
set_option maxRecDepth 65536 in
theorem w_rest : rest_1_c.before args0 about1 = true := by decide +kernel
set_option maxRecDepth 65536 in
theorem w_case : (Jvm.Cond.and given_1 narrow_1).before args0 about1 = true := by decide +kernel
theorem w_applies : (headSpec (Jvm.Cond.code x code maxLocals ret :: tables_1) room_1).applies x e0.platform about1 = true :=
  (Spec.applies_iff w_frames).mpr ⟨w_running, w_runnable, w_alone, w_named, w_hears, w_ripe, w_room, w_tables⟩
theorem atStart : AtStart classFile x code maxLocals ret World_1 tables_1 room_1 Calls_1 rest_1 Pre_1 launch0 p0 e0 about1 theMethod args0 below0 :=
  ⟨lists_1, trivial, launch0.admits_env _ _ _, launch0.least_env, fairChoices_fair.cas, fairChoices_fair.clock, w_frames, w_args, w_heap, w_applies, trivial, w_rest, w_case⟩
end start1
theorem witness_1 : WitnessClaimed_1 := ⟨start1.p0, start1.e0, start1.about1, start1.theMethod, start1.args0, start1.below0, start1.atStart⟩
end Jvm.Pilot.@@N@@
