import JvmDerived
import JvmDerived.Pilot.@@N@@Statement
import JvmDerived.Pilot.@@N@@Code
set_option linter.unusedVariables false
set_option linter.unusedSimpArgs false
namespace Jvm.RoadKit
open Sem ClassFile Op Lib Jvm.Stand Jvm.Free Jvm.LawKit
section New
variable {p : Program} {l : Launch} {e : Env} {R : Room} {s : State} {m : MethodId} {args : Array Value} {below : List Frame} {meth : Method} {c : Code} {T : State} {locs : List Loc} {cells slots : Nat}
theorem retI (X : Stand p l e R s m args below meth c T locs cells slots) (hx : p.tables.exec = Jvm.exec) {pc : Nat} {Ls : Array Slot} {z : Int32} {rest : List Value} (hret : meth.sig.returnType = some .int) (hd : decode c.code pc = .ok (.ireturn, 1)) {fs : List Frame}
    (hl : ∀ (f : JFrame) (acts : List Action), f.method = m → f.locked = none → f.entered = [] → (doReturn e (T.setTop f) acts (some (.int z))).1 = T.setFrames fs) : Steps p.tables e below (T.setTop (mkF m pc Ls (.int z :: rest))) (T.setFrames fs) := by
  have hm' : T.vm.method? m = some meth := X.method'
  have hn : narrow .int (.int z) = .int z := rfl
  show Steps p.tables e below (T.setTop { method := m, pc := pc, locals := Ls, stack := _ :: rest, locked := none }) _
  jvm_step X.here [X.here.top, hx, hd, hm', hret, hn]
  first | (intro acts; rw [hl _ acts rfl rfl rfl]) | rw [hl _ _ rfl rfl rfl]
  exact Steps.refl _
end New
end Jvm.RoadKit
namespace Jvm.Pilot.@@N@@
open Jvm Jvm.ClassFile Sem Op Lib Jvm.Free Jvm.Stand Jvm.LawKit Jvm.RoadKit Bundle Jvm.Pilot.@@N@@.Jvm.D
theorem tw_0 {a0 : Array Value} {Z : State} (hw : ∀ d ∈ tables_1, d.before a0 Z = true) : (Jvm.Cond.classLink "com/example/sinkwatch/sinkwatch/ConditionContradictsPinLaw" (7 : Nat) "com/example/sinkwatch/sinkwatch/Condition").before a0 Z = true := hw _ (List.mem_of_getElem? (i := 0) rfl)
theorem tw_1 {a0 : Array Value} {Z : State} (hw : ∀ d ∈ tables_1, d.before a0 Z = true) : (Jvm.Cond.instantiable "com/example/sinkwatch/sinkwatch/Condition" (3 : Nat)).before a0 Z = true := hw _ (List.mem_of_getElem? (i := 1) rfl)
theorem tw_2 {a0 : Array Value} {Z : State} (hw : ∀ d ∈ tables_1, d.before a0 Z = true) : (Jvm.Cond.initialized "com/example/sinkwatch/sinkwatch/Condition").before a0 Z = true := hw _ (List.mem_of_getElem? (i := 2) rfl)
theorem tw_3 {a0 : Array Value} {Z : State} (hw : ∀ d ∈ tables_1, d.before a0 Z = true) : (Jvm.Cond.methodLink "com/example/sinkwatch/sinkwatch/ConditionContradictsPinLaw" (9 : Nat) ({ cls := "com/example/sinkwatch/sinkwatch/Condition", name := "<init>", desc := "(IZI)V" } : Jvm.MethodName)).before a0 Z = true := hw _ (List.mem_of_getElem? (i := 3) rfl)
theorem tw_4 {a0 : Array Value} {Z : State} (hw : ∀ d ∈ tables_1, d.before a0 Z = true) : (Jvm.Cond.instanceMethod ({ cls := "com/example/sinkwatch/sinkwatch/Condition", name := "<init>", desc := "(IZI)V" } : Jvm.MethodName)).before a0 Z = true := hw _ (List.mem_of_getElem? (i := 4) rfl)
theorem tw_5 {a0 : Array Value} {Z : State} (hw : ∀ d ∈ tables_1, d.before a0 Z = true) : (Jvm.Cond.code ({ cls := "com/example/sinkwatch/sinkwatch/Condition", name := "<init>", desc := "(IZI)V" } : Jvm.MethodName) prog_1_method_1_code (4 : Nat) (Option.none : Option Jvm.ClassFile.FieldType)).before a0 Z = true := hw _ (List.mem_of_getElem? (i := 5) rfl)
theorem tw_6 {a0 : Array Value} {Z : State} (hw : ∀ d ∈ tables_1, d.before a0 Z = true) : (Jvm.Cond.methodLink "com/example/sinkwatch/sinkwatch/Condition" (1 : Nat) ({ cls := "java/lang/Record", name := "<init>", desc := "()V" } : Jvm.MethodName)).before a0 Z = true := hw _ (List.mem_of_getElem? (i := 6) rfl)
theorem tw_7 {a0 : Array Value} {Z : State} (hw : ∀ d ∈ tables_1, d.before a0 Z = true) : (Jvm.Cond.instanceMethod ({ cls := "java/lang/Record", name := "<init>", desc := "()V" } : Jvm.MethodName)).before a0 Z = true := hw _ (List.mem_of_getElem? (i := 7) rfl)
theorem tw_9 {a0 : Array Value} {Z : State} (hw : ∀ d ∈ tables_1, d.before a0 Z = true) : (Jvm.Cond.initialized "java/lang/Record").before a0 Z = true := hw _ (List.mem_of_getElem? (i := 9) rfl)
theorem tw_10 {a0 : Array Value} {Z : State} (hw : ∀ d ∈ tables_1, d.before a0 Z = true) : (Jvm.Cond.code ({ cls := "java/lang/Record", name := "<init>", desc := "()V" } : Jvm.MethodName) jdk_30_method_1_code (1 : Nat) (Option.none : Option Jvm.ClassFile.FieldType)).before a0 Z = true := hw _ (List.mem_of_getElem? (i := 10) rfl)
theorem tw_11 {a0 : Array Value} {Z : State} (hw : ∀ d ∈ tables_1, d.before a0 Z = true) : (Jvm.Cond.methodLink "java/lang/Record" (1 : Nat) ({ cls := "java/lang/Object", name := "<init>", desc := "()V" } : Jvm.MethodName)).before a0 Z = true := hw _ (List.mem_of_getElem? (i := 11) rfl)
theorem tw_12 {a0 : Array Value} {Z : State} (hw : ∀ d ∈ tables_1, d.before a0 Z = true) : (Jvm.Cond.instanceMethod ({ cls := "java/lang/Object", name := "<init>", desc := "()V" } : Jvm.MethodName)).before a0 Z = true := hw _ (List.mem_of_getElem? (i := 12) rfl)
theorem tw_13 {a0 : Array Value} {Z : State} (hw : ∀ d ∈ tables_1, d.before a0 Z = true) : (Jvm.Cond.code ({ cls := "java/lang/Object", name := "<init>", desc := "()V" } : Jvm.MethodName) object_method_1_code (1 : Nat) (Option.none : Option Jvm.ClassFile.FieldType)).before a0 Z = true := hw _ (List.mem_of_getElem? (i := 13) rfl)
theorem tw_14 {a0 : Array Value} {Z : State} (hw : ∀ d ∈ tables_1, d.before a0 Z = true) : (Jvm.Cond.fieldLink "com/example/sinkwatch/sinkwatch/Condition" (7 : Nat) "com/example/sinkwatch/sinkwatch/Condition" "local" "I").before a0 Z = true := hw _ (List.mem_of_getElem? (i := 14) rfl)
theorem tw_15 {a0 : Array Value} {Z : State} (hw : ∀ d ∈ tables_1, d.before a0 Z = true) : (Jvm.Cond.laysFinal "com/example/sinkwatch/sinkwatch/Condition" "com/example/sinkwatch/sinkwatch/Condition" "local" "I").before a0 Z = true := hw _ (List.mem_of_getElem? (i := 15) rfl)
theorem tw_16 {a0 : Array Value} {Z : State} (hw : ∀ d ∈ tables_1, d.before a0 Z = true) : (Jvm.Cond.fieldLink "com/example/sinkwatch/sinkwatch/Condition" (13 : Nat) "com/example/sinkwatch/sinkwatch/Condition" "equal" "Z").before a0 Z = true := hw _ (List.mem_of_getElem? (i := 16) rfl)
theorem tw_17 {a0 : Array Value} {Z : State} (hw : ∀ d ∈ tables_1, d.before a0 Z = true) : (Jvm.Cond.laysFinal "com/example/sinkwatch/sinkwatch/Condition" "com/example/sinkwatch/sinkwatch/Condition" "equal" "Z").before a0 Z = true := hw _ (List.mem_of_getElem? (i := 17) rfl)
theorem tw_18 {a0 : Array Value} {Z : State} (hw : ∀ d ∈ tables_1, d.before a0 Z = true) : (Jvm.Cond.fieldLink "com/example/sinkwatch/sinkwatch/Condition" (17 : Nat) "com/example/sinkwatch/sinkwatch/Condition" "constant" "I").before a0 Z = true := hw _ (List.mem_of_getElem? (i := 18) rfl)
theorem tw_19 {a0 : Array Value} {Z : State} (hw : ∀ d ∈ tables_1, d.before a0 Z = true) : (Jvm.Cond.laysFinal "com/example/sinkwatch/sinkwatch/Condition" "com/example/sinkwatch/sinkwatch/Condition" "constant" "I").before a0 Z = true := hw _ (List.mem_of_getElem? (i := 19) rfl)
theorem tw_20 {a0 : Array Value} {Z : State} (hw : ∀ d ∈ tables_1, d.before a0 Z = true) : (Jvm.Cond.methodLink "com/example/sinkwatch/sinkwatch/ConditionContradictsPinLaw" (12 : Nat) ({ cls := "com/example/sinkwatch/sinkwatch/Condition", name := "contradicts", desc := "(Lcom/example/sinkwatch/sinkwatch/Condition;)Z" } : Jvm.MethodName)).before a0 Z = true := hw _ (List.mem_of_getElem? (i := 20) rfl)
theorem tw_21 {a0 : Array Value} {Z : State} (hw : ∀ d ∈ tables_1, d.before a0 Z = true) : (Jvm.Cond.declares ({ cls := "com/example/sinkwatch/sinkwatch/Condition", name := "contradicts", desc := "(Lcom/example/sinkwatch/sinkwatch/Condition;)Z" } : Jvm.MethodName)).before a0 Z = true := hw _ (List.mem_of_getElem? (i := 21) rfl)
theorem tw_22 {a0 : Array Value} {Z : State} (hw : ∀ d ∈ tables_1, d.before a0 Z = true) : (Jvm.Cond.instanceMethod ({ cls := "com/example/sinkwatch/sinkwatch/Condition", name := "contradicts", desc := "(Lcom/example/sinkwatch/sinkwatch/Condition;)Z" } : Jvm.MethodName)).before a0 Z = true := hw _ (List.mem_of_getElem? (i := 22) rfl)
theorem tw_23 {a0 : Array Value} {Z : State} (hw : ∀ d ∈ tables_1, d.before a0 Z = true) : (Jvm.Cond.selects "com/example/sinkwatch/sinkwatch/Condition" ({ cls := "com/example/sinkwatch/sinkwatch/Condition", name := "contradicts", desc := "(Lcom/example/sinkwatch/sinkwatch/Condition;)Z" } : Jvm.MethodName) ({ cls := "com/example/sinkwatch/sinkwatch/Condition", name := "contradicts", desc := "(Lcom/example/sinkwatch/sinkwatch/Condition;)Z" } : Jvm.MethodName)).before a0 Z = true := hw _ (List.mem_of_getElem? (i := 23) rfl)
theorem tw_24 {a0 : Array Value} {Z : State} (hw : ∀ d ∈ tables_1, d.before a0 Z = true) : (Jvm.Cond.code ({ cls := "com/example/sinkwatch/sinkwatch/Condition", name := "contradicts", desc := "(Lcom/example/sinkwatch/sinkwatch/Condition;)Z" } : Jvm.MethodName) prog_1_method_2_code (2 : Nat) (Option.some Jvm.ClassFile.FieldType.boolean)).before a0 Z = true := hw _ (List.mem_of_getElem? (i := 24) rfl)
theorem tw_25 {a0 : Array Value} {Z : State} (hw : ∀ d ∈ tables_1, d.before a0 Z = true) : (Jvm.Cond.methodLink "com/example/sinkwatch/sinkwatch/ConditionContradictsPinLaw" (16 : Nat) ({ cls := "com/example/sinkwatch/sinkwatch/ConditionContradictsPinLaw", name := "holds", desc := "(ZII)Z" } : Jvm.MethodName)).before a0 Z = true := hw _ (List.mem_of_getElem? (i := 25) rfl)
theorem tw_26 {a0 : Array Value} {Z : State} (hw : ∀ d ∈ tables_1, d.before a0 Z = true) : (Jvm.Cond.static ({ cls := "com/example/sinkwatch/sinkwatch/ConditionContradictsPinLaw", name := "holds", desc := "(ZII)Z" } : Jvm.MethodName)).before a0 Z = true := hw _ (List.mem_of_getElem? (i := 26) rfl)
theorem tw_27 {a0 : Array Value} {Z : State} (hw : ∀ d ∈ tables_1, d.before a0 Z = true) : (Jvm.Cond.initialized "com/example/sinkwatch/sinkwatch/ConditionContradictsPinLaw").before a0 Z = true := hw _ (List.mem_of_getElem? (i := 27) rfl)
theorem tw_28 {a0 : Array Value} {Z : State} (hw : ∀ d ∈ tables_1, d.before a0 Z = true) : (Jvm.Cond.code ({ cls := "com/example/sinkwatch/sinkwatch/ConditionContradictsPinLaw", name := "holds", desc := "(ZII)Z" } : Jvm.MethodName) method_2_code (3 : Nat) (Option.some Jvm.ClassFile.FieldType.boolean)).before a0 Z = true := hw _ (List.mem_of_getElem? (i := 28) rfl)
theorem d1_0 : decode prog_1_method_1_code 0 = .ok (.aload_n 0, 1) := by decide +kernel
theorem d1_1 : decode prog_1_method_1_code 1 = .ok (.invokespecial 1, 3) := by decide +kernel
theorem d1_4 : decode prog_1_method_1_code 4 = .ok (.aload_n 0, 1) := by decide +kernel
theorem d1_5 : decode prog_1_method_1_code 5 = .ok (.iload_n 1, 1) := by decide +kernel
theorem d1_6 : decode prog_1_method_1_code 6 = .ok (.putfield 7, 3) := by decide +kernel
theorem d1_9 : decode prog_1_method_1_code 9 = .ok (.aload_n 0, 1) := by decide +kernel
theorem d1_10 : decode prog_1_method_1_code 10 = .ok (.iload_n 2, 1) := by decide +kernel
theorem d1_11 : decode prog_1_method_1_code 11 = .ok (.putfield 13, 3) := by decide +kernel
theorem d1_14 : decode prog_1_method_1_code 14 = .ok (.aload_n 0, 1) := by decide +kernel
theorem d1_15 : decode prog_1_method_1_code 15 = .ok (.iload_n 3, 1) := by decide +kernel
theorem d1_16 : decode prog_1_method_1_code 16 = .ok (.putfield 17, 3) := by decide +kernel
theorem d1_19 : decode prog_1_method_1_code 19 = .ok (.return_, 1) := by decide +kernel
theorem d2_0 : decode jdk_30_method_1_code 0 = .ok (.aload_n 0, 1) := by decide +kernel
theorem d2_1 : decode jdk_30_method_1_code 1 = .ok (.invokespecial 1, 3) := by decide +kernel
theorem d2_4 : decode jdk_30_method_1_code 4 = .ok (.return_, 1) := by decide +kernel
theorem d4_0 : decode prog_1_method_2_code 0 = .ok (.aload_n 0, 1) := by decide +kernel
theorem d4_1 : decode prog_1_method_2_code 1 = .ok (.getfield 7, 3) := by decide +kernel
theorem d4_4 : decode prog_1_method_2_code 4 = .ok (.aload_n 1, 1) := by decide +kernel
theorem d4_5 : decode prog_1_method_2_code 5 = .ok (.getfield 7, 3) := by decide +kernel
theorem d4_8 : decode prog_1_method_2_code 8 = .ok (.if_icmp .ne 17, 3) := by decide +kernel
theorem d4_11 : decode prog_1_method_2_code 11 = .ok (.aload_n 0, 1) := by decide +kernel
theorem d4_12 : decode prog_1_method_2_code 12 = .ok (.getfield 13, 3) := by decide +kernel
theorem d4_15 : decode prog_1_method_2_code 15 = .ok (.ifCond .ne 12, 3) := by decide +kernel
theorem d4_18 : decode prog_1_method_2_code 18 = .ok (.aload_n 1, 1) := by decide +kernel
theorem d4_19 : decode prog_1_method_2_code 19 = .ok (.getfield 13, 3) := by decide +kernel
theorem d4_22 : decode prog_1_method_2_code 22 = .ok (.ifCond .ne 5, 3) := by decide +kernel
theorem d4_25 : decode prog_1_method_2_code 25 = .ok (.iconst 0, 1) := by decide +kernel
theorem d4_26 : decode prog_1_method_2_code 26 = .ok (.ireturn, 1) := by decide +kernel
theorem d4_27 : decode prog_1_method_2_code 27 = .ok (.aload_n 0, 1) := by decide +kernel
theorem d4_28 : decode prog_1_method_2_code 28 = .ok (.getfield 13, 3) := by decide +kernel
theorem d4_31 : decode prog_1_method_2_code 31 = .ok (.ifCond .eq 29, 3) := by decide +kernel
theorem d4_34 : decode prog_1_method_2_code 34 = .ok (.aload_n 1, 1) := by decide +kernel
theorem d4_35 : decode prog_1_method_2_code 35 = .ok (.getfield 13, 3) := by decide +kernel
theorem d4_38 : decode prog_1_method_2_code 38 = .ok (.ifCond .eq 22, 3) := by decide +kernel
theorem d4_41 : decode prog_1_method_2_code 41 = .ok (.aload_n 0, 1) := by decide +kernel
theorem d4_42 : decode prog_1_method_2_code 42 = .ok (.getfield 17, 3) := by decide +kernel
theorem d4_45 : decode prog_1_method_2_code 45 = .ok (.aload_n 1, 1) := by decide +kernel
theorem d4_46 : decode prog_1_method_2_code 46 = .ok (.getfield 17, 3) := by decide +kernel
theorem d4_49 : decode prog_1_method_2_code 49 = .ok (.if_icmp .eq 7, 3) := by decide +kernel
theorem d4_52 : decode prog_1_method_2_code 52 = .ok (.iconst 1, 1) := by decide +kernel
theorem d4_53 : decode prog_1_method_2_code 53 = .ok (.goto 23, 3) := by decide +kernel
theorem d4_56 : decode prog_1_method_2_code 56 = .ok (.iconst 0, 1) := by decide +kernel
theorem d4_57 : decode prog_1_method_2_code 57 = .ok (.goto 19, 3) := by decide +kernel
theorem d4_60 : decode prog_1_method_2_code 60 = .ok (.aload_n 0, 1) := by decide +kernel
theorem d4_61 : decode prog_1_method_2_code 61 = .ok (.getfield 17, 3) := by decide +kernel
theorem d4_64 : decode prog_1_method_2_code 64 = .ok (.aload_n 1, 1) := by decide +kernel
theorem d4_65 : decode prog_1_method_2_code 65 = .ok (.getfield 17, 3) := by decide +kernel
theorem d4_68 : decode prog_1_method_2_code 68 = .ok (.if_icmp .ne 7, 3) := by decide +kernel
theorem d4_71 : decode prog_1_method_2_code 71 = .ok (.iconst 1, 1) := by decide +kernel
theorem d4_72 : decode prog_1_method_2_code 72 = .ok (.goto 4, 3) := by decide +kernel
theorem d4_75 : decode prog_1_method_2_code 75 = .ok (.iconst 0, 1) := by decide +kernel
theorem d4_76 : decode prog_1_method_2_code 76 = .ok (.ireturn, 1) := by decide +kernel
theorem d5_0 : decode method_2_code 0 = .ok (.iload_n 0, 1) := by decide +kernel
theorem d5_1 : decode method_2_code 1 = .ok (.ifCond .eq 16, 3) := by decide +kernel
theorem d5_4 : decode method_2_code 4 = .ok (.iload_n 2, 1) := by decide +kernel
theorem d5_5 : decode method_2_code 5 = .ok (.iload_n 1, 1) := by decide +kernel
theorem d5_6 : decode method_2_code 6 = .ok (.if_icmp .ne 7, 3) := by decide +kernel
theorem d5_9 : decode method_2_code 9 = .ok (.iconst 1, 1) := by decide +kernel
theorem d5_10 : decode method_2_code 10 = .ok (.goto 17, 3) := by decide +kernel
theorem d5_13 : decode method_2_code 13 = .ok (.iconst 0, 1) := by decide +kernel
theorem d5_14 : decode method_2_code 14 = .ok (.goto 13, 3) := by decide +kernel
theorem d5_17 : decode method_2_code 17 = .ok (.iload_n 2, 1) := by decide +kernel
theorem d5_18 : decode method_2_code 18 = .ok (.iload_n 1, 1) := by decide +kernel
theorem d5_19 : decode method_2_code 19 = .ok (.if_icmp .eq 7, 3) := by decide +kernel
theorem d5_22 : decode method_2_code 22 = .ok (.iconst 1, 1) := by decide +kernel
theorem d5_23 : decode method_2_code 23 = .ok (.goto 4, 3) := by decide +kernel
theorem d5_26 : decode method_2_code 26 = .ok (.iconst 0, 1) := by decide +kernel
theorem d5_27 : decode method_2_code 27 = .ok (.ireturn, 1) := by decide +kernel
theorem pn_0 : plainName "java/lang/Record" = true := by first | (simp [plainName, overriddenIn]; done) | decide +kernel
theorem pn_1 : plainName "com/example/sinkwatch/sinkwatch/Condition" = true := by first | (simp [plainName, overriddenIn]; done) | decide +kernel
theorem pn_2 : plainName "com/example/sinkwatch/sinkwatch/ConditionContradictsPinLaw" = true := by first | (simp [plainName, overriddenIn]; done) | decide +kernel
theorem pd_0 : parseMethodDescriptor "()V" = some ⟨[], none⟩ := by decide +kernel
theorem pd_1 : parseMethodDescriptor "(IZI)V" = some ⟨[.int, .boolean, .int], none⟩ := by decide +kernel
theorem pd_2 : parseMethodDescriptor "(Lcom/example/sinkwatch/sinkwatch/Condition;)Z" = some ⟨[(.object "com/example/sinkwatch/sinkwatch/Condition")], some .boolean⟩ := by decide +kernel
theorem pd_3 : parseMethodDescriptor "(ZII)Z" = some ⟨[.boolean, .int, .int], some .boolean⟩ := by decide +kernel
def va1 (x1 : Int32) : Int32 := (if (x1 &&& (1 : Int32)) = (0 : Int32) then (0 : Int32) else (1 : Int32))
def va2 (x1 : Int32) : Int32 := (if (x1 &&& (2 : Int32)) = (0 : Int32) then (0 : Int32) else (1 : Int32))
def va3 (x1 : Int32) (x2 : Int32) (x3 : Int32) : Int32 := (if (x1 &&& (4 : Int32)) = (0 : Int32) then x2 else x3)
def va4 (x1 : Int32) (x2 : Int32) (x3 : Int32) : Int32 := (if (x1 &&& (8 : Int32)) = (0 : Int32) then x2 else x3)
def va5 (x1 : Int32) (x2 : Int32) (x3 : Int32) (x4 : Int32) (x5 : Int32) (x6 : Int32) : Int32 := (if x1 = x2 then (if x3 = (0 : Int32) then (if x4 = (0 : Int32) then (0 : Int32) else (if x5 = x6 then (1 : Int32) else (0 : Int32))) else (if x4 = (0 : Int32) then (if x5 = x6 then (1 : Int32) else (0 : Int32)) else (if x5 = x6 then (0 : Int32) else (1 : Int32)))) else (0 : Int32))
def va6 (x1 : Int32) (x2 : Int32) (x3 : Int32) : Int32 := (if (x1 + (1 : Int32)) = (va4 x2 x3 x1) then (x1 + (2 : Int32)) else (x1 + (1 : Int32)))
def va7 (x1 : Int32) : Int32 := (if x1 = (0 : Int32) then (0 : Int32) else (1 : Int32))
def va8 (x1 : Int32) (x2 : Int32) : Int32 := (if x1 = x2 then (0 : Int32) else (1 : Int32))
def va9 (x1 : Int32) : Int32 := (if x1 = (0 : Int32) then (1 : Int32) else (0 : Int32))
def va10 (x1 : Int32) : Int32 := (if (va9 (va2 x1)) = (0 : Int32) then (0 : Int32) else (1 : Int32))
def va11 (x1 : Int32) (x2 : Int32) (x3 : Int32) : Int32 := (if x1 = (va3 x2 x3 x1) then (if (va10 x2) = (0 : Int32) then (1 : Int32) else (0 : Int32)) else (0 : Int32))
def va12 (x1 : Int32) (x2 : Int32) (x3 : Int32) (x4 : Int32) (x5 : Int32) : Int32 := (if (va5 x1 (va3 x2 x3 x1) (nar .boolean (va1 x2)) (nar .boolean (va2 x2)) x4 (va4 x2 x5 x4)) = (va11 x1 x2 x3) then (1 : Int32) else (0 : Int32))
def va13 (x1 : Int32) (x2 : Int32) (x3 : Int32) (x4 : Int32) (x5 : Int32) : Int32 := (if (va5 x1 (va3 x2 x3 x1) (nar .boolean (va1 x2)) (nar .boolean (va2 x2)) x4 (va4 x2 x5 x4)) = (0 : Int32) then (1 : Int32) else (0 : Int32))
def va14 (x1 : Int32) (x2 : Int32) (x3 : Int32) : Int32 := (if x1 = (0 : Int32) then (if x2 = x3 then (0 : Int32) else (1 : Int32)) else (if x2 = x3 then (1 : Int32) else (0 : Int32)))
def va15 (x1 : Int32) (x2 : Int32) : Int32 := (if x1 = x2 then (1 : Int32) else (0 : Int32))
def va16 (x1 : Int32) (x2 : Int32) (x3 : Int32) : Int32 := (if x1 = (va3 x2 x3 x1) then (1 : Int32) else (0 : Int32))
def va17 (x1 : Int32) (x2 : Int32) (x3 : Int32) (x4 : Int32) (x5 : Int32) : Int32 := (if (va5 x1 (va3 x2 x3 x1) (nar .boolean (va1 x2)) (nar .boolean (va2 x2)) x4 (va4 x2 x5 x4)) = (va16 x1 x2 x3) then (1 : Int32) else (0 : Int32))
abbrev LL1 (x1 : Int32) (x2 : Int32) (x3 : Int32) (x4 : Int32) (x5 : Int32) : Array Slot := #[.val (.int x1), .val (.int x2), .val (.int x3), .val (.int x4), .val (.int x5), .unset, .unset, .unset, .unset, .unset, .unset, .unset, .unset, .unset, .unset]
abbrev LL2 (x1 : Int32) (x2 : Int32) (x3 : Int32) (x4 : Int32) (x5 : Int32) : Array Slot := #[.val (.int x1), .val (.int x2), .val (.int x3), .val (.int x4), .val (.int x5), .val (.int (va1 x5)), .unset, .unset, .unset, .unset, .unset, .unset, .unset, .unset, .unset]
abbrev LL3 (x1 : Int32) (x2 : Int32) (x3 : Int32) (x4 : Int32) (x5 : Int32) : Array Slot := #[.val (.int x1), .val (.int x2), .val (.int x3), .val (.int x4), .val (.int x5), .val (.int (va1 x5)), .val (.int (va2 x5)), .unset, .unset, .unset, .unset, .unset, .unset, .unset, .unset]
abbrev LL4 (x1 : Int32) (x2 : Int32) (x3 : Int32) (x4 : Int32) (x5 : Int32) : Array Slot := #[.val (.int x1), .val (.int x2), .val (.int x3), .val (.int x4), .val (.int x5), .val (.int (va1 x5)), .val (.int (va2 x5)), .val (.int (va3 x5 x2 x1)), .unset, .unset, .unset, .unset, .unset, .unset, .unset]
abbrev LL5 (x1 : Int32) (x2 : Int32) (x3 : Int32) (x4 : Int32) (x5 : Int32) : Array Slot := #[.val (.int x1), .val (.int x2), .val (.int x3), .val (.int x4), .val (.int x5), .val (.int (va1 x5)), .val (.int (va2 x5)), .val (.int (va3 x5 x2 x1)), .val (.int (va4 x5 x4 x3)), .unset, .unset, .unset, .unset, .unset, .unset]
abbrev LL6 (x1 : Int32) (x2 : Int32) (x3 : Int32) (x4 : Int32) (x5 : Int32) (x6 : Addr) : Array Slot := #[.val (.int x1), .val (.int x2), .val (.int x3), .val (.int x4), .val (.int x5), .val (.int (va1 x5)), .val (.int (va2 x5)), .val (.int (va3 x5 x2 x1)), .val (.int (va4 x5 x4 x3)), .val (.ref x6), .unset, .unset, .unset, .unset, .unset]
abbrev LL7 (x1 : Int32) (x2 : Int32) (x3 : Int32) (x4 : Int32) (x5 : Int32) (x6 : Addr) (x7 : Addr) : Array Slot := #[.val (.int x1), .val (.int x2), .val (.int x3), .val (.int x4), .val (.int x5), .val (.int (va1 x5)), .val (.int (va2 x5)), .val (.int (va3 x5 x2 x1)), .val (.int (va4 x5 x4 x3)), .val (.ref x6), .val (.ref x7), .unset, .unset, .unset, .unset]
abbrev LL8 (x1 : Int32) (x2 : Int32) (x3 : Int32) (x4 : Int32) (x5 : Int32) (x6 : Addr) (x7 : Addr) : Array Slot := #[.val (.int x1), .val (.int x2), .val (.int x3), .val (.int x4), .val (.int x5), .val (.int (va1 x5)), .val (.int (va2 x5)), .val (.int (va3 x5 x2 x1)), .val (.int (va4 x5 x4 x3)), .val (.ref x6), .val (.ref x7), .val (.int (va5 x1 (va3 x5 x2 x1) (nar .boolean (va1 x5)) (nar .boolean (va2 x5)) x3 (va4 x5 x4 x3))), .unset, .unset, .unset]
abbrev LL9 (x1 : Int32) (x2 : Int32) (x3 : Int32) (x4 : Int32) (x5 : Int32) (x6 : Addr) (x7 : Addr) : Array Slot := #[.val (.int x1), .val (.int x2), .val (.int x3), .val (.int x4), .val (.int x5), .val (.int (va1 x5)), .val (.int (va2 x5)), .val (.int (va3 x5 x2 x1)), .val (.int (va4 x5 x4 x3)), .val (.ref x6), .val (.ref x7), .val (.int (va5 x1 (va3 x5 x2 x1) (nar .boolean (va1 x5)) (nar .boolean (va2 x5)) x3 (va4 x5 x4 x3))), .val (.int (va6 x3 x5 x4)), .unset, .unset]
abbrev LL10 (x1 : Int32) (x2 : Int32) (x3 : Int32) (x4 : Int32) (x5 : Int32) (x6 : Addr) (x7 : Addr) : Array Slot := #[.val (.int x1), .val (.int x2), .val (.int x3), .val (.int x4), .val (.int x5), .val (.int (va1 x5)), .val (.int (va2 x5)), .val (.int (va3 x5 x2 x1)), .val (.int (va4 x5 x4 x3)), .val (.ref x6), .val (.ref x7), .val (.int (va5 x1 (va3 x5 x2 x1) (nar .boolean (va1 x5)) (nar .boolean (va2 x5)) x3 (va4 x5 x4 x3))), .val (.int (va6 x3 x5 x4)), .val (.int (va10 x5)), .unset]
abbrev LL11 (x1 : Int32) (x2 : Int32) (x3 : Int32) (x4 : Int32) (x5 : Int32) (x6 : Addr) (x7 : Addr) : Array Slot := #[.val (.int x1), .val (.int x2), .val (.int x3), .val (.int x4), .val (.int x5), .val (.int (va1 x5)), .val (.int (va2 x5)), .val (.int (va3 x5 x2 x1)), .val (.int (va4 x5 x4 x3)), .val (.ref x6), .val (.ref x7), .val (.int (va5 x1 (va3 x5 x2 x1) (nar .boolean (va1 x5)) (nar .boolean (va2 x5)) x3 (va4 x5 x4 x3))), .val (.int (va6 x3 x5 x4)), .val (.int (va10 x5)), .val (.int (va11 x1 x5 x2))]
abbrev LL12 (x1 : Int32) (x2 : Int32) (x3 : Int32) (x4 : Int32) (x5 : Int32) (x6 : Addr) (x7 : Addr) : Array Slot := #[.val (.int x1), .val (.int x2), .val (.int x3), .val (.int x4), .val (.int x5), .val (.int (va1 x5)), .val (.int (va2 x5)), .val (.int (va3 x5 x2 x1)), .val (.int (va4 x5 x4 x3)), .val (.ref x6), .val (.ref x7), .val (.int (va5 x1 (va3 x5 x2 x1) (nar .boolean (va1 x5)) (nar .boolean (va2 x5)) x3 (va4 x5 x4 x3))), .val (.int (va6 x3 x5 x4)), .val (.int (1 : Int32)), .unset]
abbrev LL13 (x1 : Int32) (x2 : Int32) (x3 : Int32) (x4 : Int32) (x5 : Int32) (x6 : Addr) (x7 : Addr) : Array Slot := #[.val (.int x1), .val (.int x2), .val (.int x3), .val (.int x4), .val (.int x5), .val (.int (va1 x5)), .val (.int (va2 x5)), .val (.int (va3 x5 x2 x1)), .val (.int (va4 x5 x4 x3)), .val (.ref x6), .val (.ref x7), .val (.int (va5 x1 (va3 x5 x2 x1) (nar .boolean (va1 x5)) (nar .boolean (va2 x5)) x3 (va4 x5 x4 x3))), .val (.int (va6 x3 x5 x4)), .val (.int (1 : Int32)), .val (.int (0 : Int32))]
abbrev LL14 (x1 : Int32) (x2 : Int32) (x3 : Int32) (x4 : Int32) (x5 : Int32) (x6 : Addr) (x7 : Addr) : Array Slot := #[.val (.int x1), .val (.int x2), .val (.int x3), .val (.int x4), .val (.int x5), .val (.int (va1 x5)), .val (.int (va2 x5)), .val (.int (va3 x5 x2 x1)), .val (.int (va4 x5 x4 x3)), .val (.ref x6), .val (.ref x7), .val (.int (va5 x1 (va3 x5 x2 x1) (nar .boolean (va1 x5)) (nar .boolean (va2 x5)) x3 (va4 x5 x4 x3))), .val (.int (va6 x3 x5 x4)), .val (.int (0 : Int32)), .unset]
abbrev LL15 (x1 : Int32) (x2 : Int32) (x3 : Int32) (x4 : Int32) (x5 : Int32) (x6 : Addr) (x7 : Addr) : Array Slot := #[.val (.int x1), .val (.int x2), .val (.int x3), .val (.int x4), .val (.int x5), .val (.int (va1 x5)), .val (.int (va2 x5)), .val (.int (va3 x5 x2 x1)), .val (.int (va4 x5 x4 x3)), .val (.ref x6), .val (.ref x7), .val (.int (va5 x1 (va3 x5 x2 x1) (nar .boolean (va1 x5)) (nar .boolean (va2 x5)) x3 (va4 x5 x4 x3))), .val (.int (va6 x3 x5 x4)), .val (.int (0 : Int32)), .val (.int (va16 x1 x5 x2))]
theorem own_n1 : nar .boolean 1 = 1 := by decide
theorem own_n0 : nar .boolean 0 = 0 := by decide
theorem own_q1 (z : Int32) : ¬ (z + 1 = z) := by
  intro h; have := congrArg Int32.toInt h; rw [Int32.toInt_add] at this; have := z.le_toInt; have := z.toInt_lt; have : (1 : Int32).toInt = 1 := rfl; have := Int.bmod_emod (x := z.toInt + Int32.toInt 1) (m := 2 ^ 32); omega
theorem own_q2 (z : Int32) : ¬ (z + 2 = z) := by
  intro h; have := congrArg Int32.toInt h; rw [Int32.toInt_add] at this; have := z.le_toInt; have := z.toInt_lt; have : (2 : Int32).toInt = 2 := rfl; have := Int.bmod_emod (x := z.toInt + Int32.toInt 2) (m := 2 ^ 32); omega
theorem ef2_1 (m : MethodId) (a1 : Addr) : entryFrame m #[(.ref a1)] 1 = mkF m 0 #[.val (.ref a1)] [] := by first | (simp [entryFrame, mkF, argsToLocals, Value.category]; done) | rfl
def Q2_1 (Z : State) (a1 : Addr) (h0 : Heap) (n0 : Nat) (v : Option Value) (h : Heap) (L : List Loc) : Prop := v = none ∧ Fr n0 L ∧ h = h0
set_option maxRecDepth 65536 in
set_option maxHeartbeats 40000000 in
theorem rm2_1 (l : Launch) (Z : State) (a0 : Array Value) (hw : ∀ d ∈ tables_1, d.before a0 Z = true) (ws : List Jvm.Cond) (a1 : Addr) (h0 : Heap) (n0 : Nat) (Z0 : n0 ≤ h0.size) :
    MetFree l (⟨"java/lang/Record", "<init>", "()V"⟩ : MethodName) (head1 (Jvm.Cond.code (⟨"java/lang/Record", "<init>", "()V"⟩ : MethodName) jdk_30_method_1_code 1 none :: ws) ({ frames := 1, cells := 0, slots := 0, locals := 12 } : Room)) (fun a U => a = #[(.ref a1)] ∧ Z.Warmed39 U.vm ∧ U.heap = h0) (fun _ _ _ _ _ => True) (fun _ U o U' => ∃ v L, o = .returned v ∧ Q2_1 Z a1 h0 n0 v U'.heap L ∧ FrameEnd U o U' L ({ frames := 1, cells := 0, slots := 0, locals := 12 } : Room).cells ({ frames := 1, cells := 0, slots := 0, locals := 12 } : Room).slots) := by
  refine MetFree.of_bodySF (plainFor_of_name pn_0) hisR ?_
  intro p e s m args below meth c s₁ Bd hml0 hP hK
  obtain ⟨rfl, hZ, hh⟩ := hP
  have hx := Bd.exec
  have hby := Bd.bytes
  have hml : c.maxLocals = 1 := hml0
  have hown : s.vm.findClass "java/lang/Record" = some m.cls := findClass_of_methodNamed Bd.named
  have hnm := (name_of_methodNamed Bd.named Bd.method).1
  have X0 : Stand p l e ({ frames := 1, cells := 0, slots := 0, locals := 12 } : Room) s m #[(.ref a1)] below meth c s₁ [] 0 0 := Stand.of_body Bd
  have e0 : s₁.heap = h0 := by rw [← hh, Bd.state]; rfl
  have N0 := Fr.nil n0
  have pre0 : ∀ t, Steps p.tables e below (s₁.setTop (mkF m 0 #[.val (.ref a1)] [])) t → Steps p.tables e below (s₁.setTop (entryFrame m #[(.ref a1)] 1)) t := fun t k => castTop (ef2_1 m a1) k
  obtain ⟨T2, X2, e2, st2⟩ := initO X0 hx hZ hown (tw_11 hw) (tw_12 hw) (tw_13 hw) e0 (g := (mkF m 1 #[.val (.ref a1)] [(.ref a1)])) rfl (by rw [hml]; rfl) rfl (hb hby d2_1) (by decide) (W := 0) (by show 2 * 0 + _ ≤ _; exact Nat.le_of_eq rfl) (by decide)
  obtain ⟨fs, hr, hrun, hended, hW, hsame⟩ := X2.leave (v := none) (fun _ => rfl)
  refine ⟨_, _, pre0 _ ?_, hrun, hended, _, _, rfl, ?_, ⟨_, rfl⟩, hW, hsame.mono (by decide) (by decide)⟩
  · show Steps p.tables e below (s₁.setTop (mkF m 0 #[.val (.ref a1)] [])) _
    refine XS.aloadN X0.here hx rfl (hb hby d2_0) rfl rfl ?_
    show Steps p.tables e below (s₁.setTop (mkF m 1 #[.val (.ref a1)] [(.ref a1)])) _
    refine st2 _ ?_
    show Steps p.tables e below (T2.setTop (mkF m 4 #[.val (.ref a1)] [])) _
    exact X2.returnOut hx Bd.returns (hb hby d2_4) hr
  · show Q2_1 Z a1 h0 n0 _ T2.heap _
    rw [e2]
    exact ⟨rfl, N0, rfl⟩
theorem ef1_1 (m : MethodId) (a1 : Addr) (p2 : Int32) (p3 : Int32) (p4 : Int32) : entryFrame m #[(.ref a1), (.int p2), (.int p3), (.int p4)] 4 = mkF m 0 #[.val (.ref a1), .val (.int p2), .val (.int p3), .val (.int p4)] [] := by first | (simp [entryFrame, mkF, argsToLocals, Value.category]; done) | rfl
def Q1_1 (Z : State) (a1 : Addr) (p2 : Int32) (p3 : Int32) (p4 : Int32) (h0 : Heap) (n0 : Nat) (v : Option Value) (h : Heap) (L : List Loc) : Prop := v = none ∧ Fr n0 L ∧ Keep h0 h [a1] ∧ Fld Z h a1 "com/example/sinkwatch/sinkwatch/Condition" "constant" "I" (.int p4) ∧ Fld Z h a1 "com/example/sinkwatch/sinkwatch/Condition" "equal" "Z" (.int (nar .boolean p3)) ∧ Fld Z h a1 "com/example/sinkwatch/sinkwatch/Condition" "local" "I" (.int p2)
set_option maxRecDepth 65536 in
set_option maxHeartbeats 40000000 in
theorem rm1_1 (l : Launch) (Z : State) (a0 : Array Value) (hw : ∀ d ∈ tables_1, d.before a0 Z = true) (ws : List Jvm.Cond) (a1 : Addr) (p2 : Int32) (p3 : Int32) (p4 : Int32) (h0 : Heap) (n0 : Nat) (Z0 : n0 ≤ h0.size) (P1 : Fld Z h0 a1 "com/example/sinkwatch/sinkwatch/Condition" "local" "I" (.int (0 : Int32))) (P2 : Exa Z h0 a1 "com/example/sinkwatch/sinkwatch/Condition") (P3 : n0 ≤ a1) (P4 : Fld Z h0 a1 "com/example/sinkwatch/sinkwatch/Condition" "equal" "Z" (.int (0 : Int32))) (P5 : Fld Z h0 a1 "com/example/sinkwatch/sinkwatch/Condition" "constant" "I" (.int (0 : Int32))) :
    MetFree l (⟨"com/example/sinkwatch/sinkwatch/Condition", "<init>", "(IZI)V"⟩ : MethodName) (head1 (Jvm.Cond.code (⟨"com/example/sinkwatch/sinkwatch/Condition", "<init>", "(IZI)V"⟩ : MethodName) prog_1_method_1_code 4 none :: ws) ({ frames := 2, cells := 0, slots := 0, locals := 24 } : Room)) (fun a U => a = #[(.ref a1), (.int p2), (.int p3), (.int p4)] ∧ Z.Warmed39 U.vm ∧ U.heap = h0) (fun _ _ _ _ _ => True) (fun _ U o U' => ∃ v L, o = .returned v ∧ Q1_1 Z a1 p2 p3 p4 h0 n0 v U'.heap L ∧ FrameEnd U o U' L ({ frames := 2, cells := 0, slots := 0, locals := 24 } : Room).cells ({ frames := 2, cells := 0, slots := 0, locals := 24 } : Room).slots) := by
  refine MetFree.of_bodySF (plainFor_of_name pn_1) hisR ?_
  intro p e s m args below meth c s₁ Bd hml0 hP hK
  obtain ⟨rfl, hZ, hh⟩ := hP
  have hx := Bd.exec
  have hby := Bd.bytes
  have hml : c.maxLocals = 4 := hml0
  have hown : s.vm.findClass "com/example/sinkwatch/sinkwatch/Condition" = some m.cls := findClass_of_methodNamed Bd.named
  have hnm := (name_of_methodNamed Bd.named Bd.method).1
  have X0 : Stand p l e ({ frames := 2, cells := 0, slots := 0, locals := 24 } : Room) s m #[(.ref a1), (.int p2), (.int p3), (.int p4)] below meth c s₁ [] 0 0 := Stand.of_body Bd
  have e0 : s₁.heap = h0 := by rw [← hh, Bd.state]; rfl
  have N0 := Fr.nil n0
  have pre0 : ∀ t, Steps p.tables e below (s₁.setTop (mkF m 0 #[.val (.ref a1), .val (.int p2), .val (.int p3), .val (.int p4)] [])) t → Steps p.tables e below (s₁.setTop (entryFrame m #[(.ref a1), (.int p2), (.int p3), (.int p4)] 4)) t := fun t k => castTop (ef1_1 m a1 p2 p3 p4) k
  obtain ⟨_, _, ⟨T5, L5, k5, n5⟩, -, X5, ⟨Lc5, hQ5, l5, y5, z5⟩, st5⟩ := X0.specialBack hx (y := (⟨"java/lang/Record", "<init>", "()V"⟩ : MethodName)) rfl hown (mvT hZ (tw_6 hw)) (mvT hZ (tw_7 hw)) (mvT hZ (tw_10 hw)) (by decide) (backOf (W := 0) (rm2_1 l Z a0 hw [] a1 h0 n0 Z0 ) hZ (tw_10 hw) (tw_9 hw) (by decide) (by decide)) (g := (mkF m 1 #[.val (.ref a1), .val (.int p2), .val (.int p3), .val (.int p4)] [(.ref a1)])) rfl (by rw [hml]; rfl) (Steps.refl _) (a := a1) (argsL := []) (rest := []) (lenOf pd_0 rfl) rfl (by show 2 * 0 + _ ≤ _; exact Nat.le_of_eq rfl) (hb hby d1_1) (fun _ _ => ⟨rfl, e0, (by decide : 0 + 0 ≤ _), (by decide : 0 + 0 ≤ _)⟩)
  dsimp only [Pt.U, Pt.locs, Pt.cells, Pt.slots] at X5 l5 y5 z5 st5 hQ5
  subst l5 y5 z5
  obtain ⟨rfl, N5q, e5q⟩ := hQ5
  have N5 := Fr.app N0 N5q
  obtain ⟨T6, h6, X6, e6, W6, st6⟩ := putF X5 hx hZ hown (host := "") (Or.inl (tw_14 hw)) Via.refl e5q P1 P2 (Or.inr ⟨(tw_15 hw), rfl, hnm⟩) (tw_1 hw) (ty := .int) (by decide) rfl rfl (g := (mkF m 6 #[.val (.ref a1), .val (.int p2), .val (.int p3), .val (.int p4)] [(.int p2), (.ref a1)])) rfl rfl (hb hby d1_6)
  have N6 := Fr.snoc X6 N5 P3
  have Fw6 := Fld.same W6 P1
  have F7 := (Fld.other W6 P4 (Or.inr (slot_ne (Or.inr (tw_17 hw)) (Or.inr (tw_15 hw)) (by decide) (t := .boolean) (t' := .int) (by decide) (by decide))))
  have F8 := (Exa.wr W6 P2)
  obtain ⟨T9, h9, X9, e9, W9, st9⟩ := putFN X6 hx hZ hown (tw_16 hw) Via.refl e6 F7 F8 (Or.inr ⟨(tw_17 hw), rfl, hnm⟩) (tw_1 hw) (ty := .boolean) (v' := (.int (nar .boolean p3))) (by decide) rfl (fits_nar_bool _) (g := (mkF m 11 #[.val (.ref a1), .val (.int p2), .val (.int p3), .val (.int p4)] [(.int p3), (.ref a1)])) rfl rfl (hb hby d1_11)
  have N9 := Fr.snoc X9 N6 P3
  have Fw9 := Fld.same W9 F7
  have F10 := (Fld.other W9 (Fld.other W6 P5 (Or.inr (slot_ne (Or.inr (tw_19 hw)) (Or.inr (tw_15 hw)) (by decide) (t := .int) (t' := .int) (by decide) (by decide)))) (Or.inr (slot_ne (Or.inr (tw_19 hw)) (Or.inr (tw_17 hw)) (by decide) (t := .int) (t' := .boolean) (by decide) (by decide))))
  have F11 := (Exa.wr W9 F8)
  obtain ⟨T12, h12, X12, e12, W12, st12⟩ := putF X9 hx hZ hown (host := "") (Or.inl (tw_18 hw)) Via.refl e9 F10 F11 (Or.inr ⟨(tw_19 hw), rfl, hnm⟩) (tw_1 hw) (ty := .int) (by decide) rfl rfl (g := (mkF m 16 #[.val (.ref a1), .val (.int p2), .val (.int p3), .val (.int p4)] [(.int p4), (.ref a1)])) rfl rfl (hb hby d1_16)
  have N12 := Fr.snoc X12 N9 P3
  have Fw12 := Fld.same W12 F10
  have F13 := (Fld.other W12 Fw9 (Or.inr (slot_ne (Or.inr (tw_17 hw)) (Or.inr (tw_19 hw)) (by decide) (t := .boolean) (t' := .int) (by decide) (by decide))))
  have F14 := (Fld.other W12 (Fld.other W9 Fw6 (Or.inr (slot_ne (Or.inr (tw_15 hw)) (Or.inr (tw_17 hw)) (by decide) (t := .int) (t' := .boolean) (by decide) (by decide)))) (Or.inr (slot_ne (Or.inr (tw_15 hw)) (Or.inr (tw_19 hw)) (by decide) (t := .int) (t' := .int) (by decide) (by decide))))
  have K15 := (Keep.refl h0 [a1]).wr W6 (Or.inl (List.mem_of_getElem? (i := 0) rfl))
  have K16 := K15.wr W9 (Or.inl (List.mem_of_getElem? (i := 0) rfl))
  have K17 := K16.wr W12 (Or.inl (List.mem_of_getElem? (i := 0) rfl))
  obtain ⟨fs, hr, hrun, hended, hW, hsame⟩ := X12.leave (v := none) (fun _ => rfl)
  refine ⟨_, _, pre0 _ ?_, hrun, hended, _, _, rfl, ?_, ⟨_, rfl⟩, hW, hsame.mono (by decide) (by decide)⟩
  · show Steps p.tables e below (s₁.setTop (mkF m 0 #[.val (.ref a1), .val (.int p2), .val (.int p3), .val (.int p4)] [])) _
    refine XS.aloadN X0.here hx rfl (hb hby d1_0) rfl rfl ?_
    show Steps p.tables e below (s₁.setTop (mkF m 1 #[.val (.ref a1), .val (.int p2), .val (.int p3), .val (.int p4)] [(.ref a1)])) _
    refine st5.trans ?_
    show Steps p.tables e below (T5.setTop (mkF m 4 #[.val (.ref a1), .val (.int p2), .val (.int p3), .val (.int p4)] [])) _
    refine XS.aloadN X5.here hx rfl (hb hby d1_4) rfl rfl ?_
    show Steps p.tables e below (T5.setTop (mkF m 5 #[.val (.ref a1), .val (.int p2), .val (.int p3), .val (.int p4)] [(.ref a1)])) _
    refine XS.iloadN X5.here hx rfl (hb hby d1_5) rfl ?_
    show Steps p.tables e below (T5.setTop (mkF m 6 #[.val (.ref a1), .val (.int p2), .val (.int p3), .val (.int p4)] [(.int p2), (.ref a1)])) _
    refine st6 _ ?_
    show Steps p.tables e below (T6.setTop (mkF m 9 #[.val (.ref a1), .val (.int p2), .val (.int p3), .val (.int p4)] [])) _
    refine XS.aloadN X6.here hx rfl (hb hby d1_9) rfl rfl ?_
    show Steps p.tables e below (T6.setTop (mkF m 10 #[.val (.ref a1), .val (.int p2), .val (.int p3), .val (.int p4)] [(.ref a1)])) _
    refine XS.iloadN X6.here hx rfl (hb hby d1_10) rfl ?_
    show Steps p.tables e below (T6.setTop (mkF m 11 #[.val (.ref a1), .val (.int p2), .val (.int p3), .val (.int p4)] [(.int p3), (.ref a1)])) _
    refine st9 _ ?_
    show Steps p.tables e below (T9.setTop (mkF m 14 #[.val (.ref a1), .val (.int p2), .val (.int p3), .val (.int p4)] [])) _
    refine XS.aloadN X9.here hx rfl (hb hby d1_14) rfl rfl ?_
    show Steps p.tables e below (T9.setTop (mkF m 15 #[.val (.ref a1), .val (.int p2), .val (.int p3), .val (.int p4)] [(.ref a1)])) _
    refine XS.iloadN X9.here hx rfl (hb hby d1_15) rfl ?_
    show Steps p.tables e below (T9.setTop (mkF m 16 #[.val (.ref a1), .val (.int p2), .val (.int p3), .val (.int p4)] [(.int p4), (.ref a1)])) _
    refine st12 _ ?_
    show Steps p.tables e below (T12.setTop (mkF m 19 #[.val (.ref a1), .val (.int p2), .val (.int p3), .val (.int p4)] [])) _
    exact X12.returnOut hx Bd.returns (hb hby d1_19) hr
  · show Q1_1 Z a1 p2 p3 p4 h0 n0 _ T12.heap _
    rw [e12]
    exact ⟨rfl, N12, K17, Fw12, F13, F14⟩
theorem ef4_1 (m : MethodId) (a1 : Addr) (a2 : Addr) (p3 : Int32) (p5 : Int32) (p7 : Int32) (p9 : Int32) : entryFrame m #[(.ref a1), (.ref a2)] 2 = mkF m 0 #[.val (.ref a1), .val (.ref a2)] [] := by first | (simp [entryFrame, mkF, argsToLocals, Value.category]; done) | rfl
def Q4_1 (Z : State) (a1 : Addr) (a2 : Addr) (p3 : Int32) (p5 : Int32) (p7 : Int32) (p9 : Int32) (h0 : Heap) (n0 : Nat) (v : Option Value) (h : Heap) (L : List Loc) : Prop := v = some (.int (0 : Int32)) ∧ Fr n0 L ∧ h = h0
set_option maxRecDepth 65536 in
set_option maxHeartbeats 40000000 in
theorem rm4_1 (l : Launch) (Z : State) (a0 : Array Value) (hw : ∀ d ∈ tables_1, d.before a0 Z = true) (ws : List Jvm.Cond) (a1 : Addr) (a2 : Addr) (p3 : Int32) (p5 : Int32) (p7 : Int32) (p9 : Int32) (h0 : Heap) (n0 : Nat) (Z0 : n0 ≤ h0.size) (P1 : Fld Z h0 a1 "com/example/sinkwatch/sinkwatch/Condition" "local" "I" (.int p3)) (P2 : Fld Z h0 a2 "com/example/sinkwatch/sinkwatch/Condition" "local" "I" (.int p5)) (P3 : Fld Z h0 a1 "com/example/sinkwatch/sinkwatch/Condition" "equal" "Z" (.int p7)) (P4 : Fld Z h0 a2 "com/example/sinkwatch/sinkwatch/Condition" "equal" "Z" (.int p9)) (H1 : p3 = p5) (H2 : p7 = (0 : Int32)) (H3 : p9 = (0 : Int32)) :
    MetFree l (⟨"com/example/sinkwatch/sinkwatch/Condition", "contradicts", "(Lcom/example/sinkwatch/sinkwatch/Condition;)Z"⟩ : MethodName) (head1 (Jvm.Cond.code (⟨"com/example/sinkwatch/sinkwatch/Condition", "contradicts", "(Lcom/example/sinkwatch/sinkwatch/Condition;)Z"⟩ : MethodName) prog_1_method_2_code 2 (some .boolean) :: ws) ({ frames := 0, cells := 0, slots := 0, locals := 0 } : Room)) (fun a U => a = #[(.ref a1), (.ref a2)] ∧ Z.Warmed39 U.vm ∧ U.heap = h0) (fun _ _ _ _ _ => True) (fun _ U o U' => ∃ v L, o = .returned v ∧ Q4_1 Z a1 a2 p3 p5 p7 p9 h0 n0 v U'.heap L ∧ FrameEnd U o U' L ({ frames := 0, cells := 0, slots := 0, locals := 0 } : Room).cells ({ frames := 0, cells := 0, slots := 0, locals := 0 } : Room).slots) := by
  refine MetFree.of_bodySF (plainFor_of_name pn_1) hisR ?_
  intro p e s m args below meth c s₁ Bd hml0 hP hK
  obtain ⟨rfl, hZ, hh⟩ := hP
  have hx := Bd.exec
  have hby := Bd.bytes
  have hml : c.maxLocals = 2 := hml0
  have hown : s.vm.findClass "com/example/sinkwatch/sinkwatch/Condition" = some m.cls := findClass_of_methodNamed Bd.named
  have hnm := (name_of_methodNamed Bd.named Bd.method).1
  have X0 : Stand p l e ({ frames := 0, cells := 0, slots := 0, locals := 0 } : Room) s m #[(.ref a1), (.ref a2)] below meth c s₁ [] 0 0 := Stand.of_body Bd
  have e0 : s₁.heap = h0 := by rw [← hh, Bd.state]; rfl
  have N0 := Fr.nil n0
  have pre0 : ∀ t, Steps p.tables e below (s₁.setTop (mkF m 0 #[.val (.ref a1), .val (.ref a2)] [])) t → Steps p.tables e below (s₁.setTop (entryFrame m #[(.ref a1), (.ref a2)] 2)) t := fun t k => castTop (ef4_1 m a1 a2 p3 p5 p7 p9) k
  obtain ⟨T4, X4, e4, st4⟩ := getF X0 hx hZ hown (host := "") (Or.inl (tw_14 hw)) Via.refl e0 P1 (g := (mkF m 1 #[.val (.ref a1), .val (.ref a2)] [(.ref a1)])) rfl rfl (hb hby d4_1)
  obtain ⟨T6, X6, e6, st6⟩ := getF X4 hx hZ hown (host := "") (Or.inl (tw_14 hw)) Via.refl e4 P2 (g := (mkF m 5 #[.val (.ref a1), .val (.ref a2)] [(.ref a2), (.int p3)])) rfl rfl (hb hby d4_5)
  obtain ⟨T8, X8, e8, st8⟩ := getF X6 hx hZ hown (host := "") (Or.inl (tw_16 hw)) Via.refl e6 P3 (g := (mkF m 12 #[.val (.ref a1), .val (.ref a2)] [(.ref a1)])) rfl rfl (hb hby d4_12)
  obtain ⟨T10, X10, e10, st10⟩ := getF X8 hx hZ hown (host := "") (Or.inl (tw_16 hw)) Via.refl e8 P4 (g := (mkF m 19 #[.val (.ref a1), .val (.ref a2)] [(.ref a2)])) rfl rfl (hb hby d4_19)
  obtain ⟨fs, hr, hrun, hended, hW, hsame⟩ := X10.leave (v := some (.int (0 : Int32))) (fun h => by rw [Bd.returns] at h; cases h)
  refine ⟨_, _, pre0 _ ?_, hrun, hended, _, _, rfl, ?_, ⟨_, rfl⟩, hW, hsame.mono (by decide) (by decide)⟩
  · show Steps p.tables e below (s₁.setTop (mkF m 0 #[.val (.ref a1), .val (.ref a2)] [])) _
    refine XS.aloadN X0.here hx rfl (hb hby d4_0) rfl rfl ?_
    show Steps p.tables e below (s₁.setTop (mkF m 1 #[.val (.ref a1), .val (.ref a2)] [(.ref a1)])) _
    refine st4 _ ?_
    show Steps p.tables e below (T4.setTop (mkF m 4 #[.val (.ref a1), .val (.ref a2)] [(.int p3)])) _
    refine XS.aloadN X4.here hx rfl (hb hby d4_4) rfl rfl ?_
    show Steps p.tables e below (T4.setTop (mkF m 5 #[.val (.ref a1), .val (.ref a2)] [(.ref a2), (.int p3)])) _
    refine st6 _ ?_
    show Steps p.tables e below (T6.setTop (mkF m 8 #[.val (.ref a1), .val (.ref a2)] [(.int p5), (.int p3)])) _
    refine XS.icmpNo X6.here hx rfl (hb hby d4_8) rfl (teq H1).2 ?_
    show Steps p.tables e below (T6.setTop (mkF m 11 #[.val (.ref a1), .val (.ref a2)] [])) _
    refine XS.aloadN X6.here hx rfl (hb hby d4_11) rfl rfl ?_
    show Steps p.tables e below (T6.setTop (mkF m 12 #[.val (.ref a1), .val (.ref a2)] [(.ref a1)])) _
    refine st8 _ ?_
    show Steps p.tables e below (T8.setTop (mkF m 15 #[.val (.ref a1), .val (.ref a2)] [(.int p7)])) _
    refine XS.ifNo X8.here hx rfl (hb hby d4_15) rfl ((if0 _ _).trans (teq H2).2) ?_
    show Steps p.tables e below (T8.setTop (mkF m 18 #[.val (.ref a1), .val (.ref a2)] [])) _
    refine XS.aloadN X8.here hx rfl (hb hby d4_18) rfl rfl ?_
    show Steps p.tables e below (T8.setTop (mkF m 19 #[.val (.ref a1), .val (.ref a2)] [(.ref a2)])) _
    refine st10 _ ?_
    show Steps p.tables e below (T10.setTop (mkF m 22 #[.val (.ref a1), .val (.ref a2)] [(.int p9)])) _
    refine XS.ifNo X10.here hx rfl (hb hby d4_22) rfl ((if0 _ _).trans (teq H3).2) ?_
    show Steps p.tables e below (T10.setTop (mkF m 25 #[.val (.ref a1), .val (.ref a2)] [])) _
    refine XS.iconst X10.here hx rfl (hb hby d4_25) ?_
    show Steps p.tables e below (T10.setTop (mkF m 26 #[.val (.ref a1), .val (.ref a2)] [(.int (0 : Int32))])) _
    exact retN X10 hx (t := .boolean) Bd.returns (by simp) (hb hby d4_26) hr
  · show Q4_1 Z a1 a2 p3 p5 p7 p9 h0 n0 _ T10.heap _
    rw [e10]
    exact ⟨rfl, N0, rfl⟩
theorem ef4_2 (m : MethodId) (a1 : Addr) (a2 : Addr) (p3 : Int32) (p5 : Int32) (p7 : Int32) (p9 : Int32) (p12 : Int32) (p14 : Int32) : entryFrame m #[(.ref a1), (.ref a2)] 2 = mkF m 0 #[.val (.ref a1), .val (.ref a2)] [] := by first | (simp [entryFrame, mkF, argsToLocals, Value.category]; done) | rfl
def Q4_2 (Z : State) (a1 : Addr) (a2 : Addr) (p3 : Int32) (p5 : Int32) (p7 : Int32) (p9 : Int32) (p12 : Int32) (p14 : Int32) (h0 : Heap) (n0 : Nat) (v : Option Value) (h : Heap) (L : List Loc) : Prop := v = some (.int (1 : Int32)) ∧ Fr n0 L ∧ h = h0
set_option maxRecDepth 65536 in
set_option maxHeartbeats 40000000 in
theorem rm4_2 (l : Launch) (Z : State) (a0 : Array Value) (hw : ∀ d ∈ tables_1, d.before a0 Z = true) (ws : List Jvm.Cond) (a1 : Addr) (a2 : Addr) (p3 : Int32) (p5 : Int32) (p7 : Int32) (p9 : Int32) (p12 : Int32) (p14 : Int32) (h0 : Heap) (n0 : Nat) (Z0 : n0 ≤ h0.size) (P1 : Fld Z h0 a1 "com/example/sinkwatch/sinkwatch/Condition" "local" "I" (.int p3)) (P2 : Fld Z h0 a2 "com/example/sinkwatch/sinkwatch/Condition" "local" "I" (.int p5)) (P3 : Fld Z h0 a1 "com/example/sinkwatch/sinkwatch/Condition" "equal" "Z" (.int p7)) (P4 : Fld Z h0 a2 "com/example/sinkwatch/sinkwatch/Condition" "equal" "Z" (.int p9)) (P5 : Fld Z h0 a1 "com/example/sinkwatch/sinkwatch/Condition" "constant" "I" (.int p12)) (P6 : Fld Z h0 a2 "com/example/sinkwatch/sinkwatch/Condition" "constant" "I" (.int p14)) (H1 : p3 = p5) (H2 : p7 = (0 : Int32)) (H3 : ¬ (p9 = (0 : Int32))) (H4 : p12 = p14) :
    MetFree l (⟨"com/example/sinkwatch/sinkwatch/Condition", "contradicts", "(Lcom/example/sinkwatch/sinkwatch/Condition;)Z"⟩ : MethodName) (head1 (Jvm.Cond.code (⟨"com/example/sinkwatch/sinkwatch/Condition", "contradicts", "(Lcom/example/sinkwatch/sinkwatch/Condition;)Z"⟩ : MethodName) prog_1_method_2_code 2 (some .boolean) :: ws) ({ frames := 0, cells := 0, slots := 0, locals := 0 } : Room)) (fun a U => a = #[(.ref a1), (.ref a2)] ∧ Z.Warmed39 U.vm ∧ U.heap = h0) (fun _ _ _ _ _ => True) (fun _ U o U' => ∃ v L, o = .returned v ∧ Q4_2 Z a1 a2 p3 p5 p7 p9 p12 p14 h0 n0 v U'.heap L ∧ FrameEnd U o U' L ({ frames := 0, cells := 0, slots := 0, locals := 0 } : Room).cells ({ frames := 0, cells := 0, slots := 0, locals := 0 } : Room).slots) := by
  refine MetFree.of_bodySF (plainFor_of_name pn_1) hisR ?_
  intro p e s m args below meth c s₁ Bd hml0 hP hK
  obtain ⟨rfl, hZ, hh⟩ := hP
  have hx := Bd.exec
  have hby := Bd.bytes
  have hml : c.maxLocals = 2 := hml0
  have hown : s.vm.findClass "com/example/sinkwatch/sinkwatch/Condition" = some m.cls := findClass_of_methodNamed Bd.named
  have hnm := (name_of_methodNamed Bd.named Bd.method).1
  have X0 : Stand p l e ({ frames := 0, cells := 0, slots := 0, locals := 0 } : Room) s m #[(.ref a1), (.ref a2)] below meth c s₁ [] 0 0 := Stand.of_body Bd
  have e0 : s₁.heap = h0 := by rw [← hh, Bd.state]; rfl
  have N0 := Fr.nil n0
  have pre0 : ∀ t, Steps p.tables e below (s₁.setTop (mkF m 0 #[.val (.ref a1), .val (.ref a2)] [])) t → Steps p.tables e below (s₁.setTop (entryFrame m #[(.ref a1), (.ref a2)] 2)) t := fun t k => castTop (ef4_2 m a1 a2 p3 p5 p7 p9 p12 p14) k
  obtain ⟨T4, X4, e4, st4⟩ := getF X0 hx hZ hown (host := "") (Or.inl (tw_14 hw)) Via.refl e0 P1 (g := (mkF m 1 #[.val (.ref a1), .val (.ref a2)] [(.ref a1)])) rfl rfl (hb hby d4_1)
  obtain ⟨T6, X6, e6, st6⟩ := getF X4 hx hZ hown (host := "") (Or.inl (tw_14 hw)) Via.refl e4 P2 (g := (mkF m 5 #[.val (.ref a1), .val (.ref a2)] [(.ref a2), (.int p3)])) rfl rfl (hb hby d4_5)
  obtain ⟨T8, X8, e8, st8⟩ := getF X6 hx hZ hown (host := "") (Or.inl (tw_16 hw)) Via.refl e6 P3 (g := (mkF m 12 #[.val (.ref a1), .val (.ref a2)] [(.ref a1)])) rfl rfl (hb hby d4_12)
  obtain ⟨T10, X10, e10, st10⟩ := getF X8 hx hZ hown (host := "") (Or.inl (tw_16 hw)) Via.refl e8 P4 (g := (mkF m 19 #[.val (.ref a1), .val (.ref a2)] [(.ref a2)])) rfl rfl (hb hby d4_19)
  obtain ⟨T11, X11, e11, st11⟩ := getF X10 hx hZ hown (host := "") (Or.inl (tw_16 hw)) Via.refl e10 P3 (g := (mkF m 28 #[.val (.ref a1), .val (.ref a2)] [(.ref a1)])) rfl rfl (hb hby d4_28)
  obtain ⟨T13, X13, e13, st13⟩ := getF X11 hx hZ hown (host := "") (Or.inl (tw_18 hw)) Via.refl e11 P5 (g := (mkF m 61 #[.val (.ref a1), .val (.ref a2)] [(.ref a1)])) rfl rfl (hb hby d4_61)
  obtain ⟨T15, X15, e15, st15⟩ := getF X13 hx hZ hown (host := "") (Or.inl (tw_18 hw)) Via.refl e13 P6 (g := (mkF m 65 #[.val (.ref a1), .val (.ref a2)] [(.ref a2), (.int p12)])) rfl rfl (hb hby d4_65)
  obtain ⟨fs, hr, hrun, hended, hW, hsame⟩ := X15.leave (v := some (.int (1 : Int32))) (fun h => by rw [Bd.returns] at h; cases h)
  refine ⟨_, _, pre0 _ ?_, hrun, hended, _, _, rfl, ?_, ⟨_, rfl⟩, hW, hsame.mono (by decide) (by decide)⟩
  · show Steps p.tables e below (s₁.setTop (mkF m 0 #[.val (.ref a1), .val (.ref a2)] [])) _
    refine XS.aloadN X0.here hx rfl (hb hby d4_0) rfl rfl ?_
    show Steps p.tables e below (s₁.setTop (mkF m 1 #[.val (.ref a1), .val (.ref a2)] [(.ref a1)])) _
    refine st4 _ ?_
    show Steps p.tables e below (T4.setTop (mkF m 4 #[.val (.ref a1), .val (.ref a2)] [(.int p3)])) _
    refine XS.aloadN X4.here hx rfl (hb hby d4_4) rfl rfl ?_
    show Steps p.tables e below (T4.setTop (mkF m 5 #[.val (.ref a1), .val (.ref a2)] [(.ref a2), (.int p3)])) _
    refine st6 _ ?_
    show Steps p.tables e below (T6.setTop (mkF m 8 #[.val (.ref a1), .val (.ref a2)] [(.int p5), (.int p3)])) _
    refine XS.icmpNo X6.here hx rfl (hb hby d4_8) rfl (teq H1).2 ?_
    show Steps p.tables e below (T6.setTop (mkF m 11 #[.val (.ref a1), .val (.ref a2)] [])) _
    refine XS.aloadN X6.here hx rfl (hb hby d4_11) rfl rfl ?_
    show Steps p.tables e below (T6.setTop (mkF m 12 #[.val (.ref a1), .val (.ref a2)] [(.ref a1)])) _
    refine st8 _ ?_
    show Steps p.tables e below (T8.setTop (mkF m 15 #[.val (.ref a1), .val (.ref a2)] [(.int p7)])) _
    refine XS.ifNo X8.here hx rfl (hb hby d4_15) rfl ((if0 _ _).trans (teq H2).2) ?_
    show Steps p.tables e below (T8.setTop (mkF m 18 #[.val (.ref a1), .val (.ref a2)] [])) _
    refine XS.aloadN X8.here hx rfl (hb hby d4_18) rfl rfl ?_
    show Steps p.tables e below (T8.setTop (mkF m 19 #[.val (.ref a1), .val (.ref a2)] [(.ref a2)])) _
    refine st10 _ ?_
    show Steps p.tables e below (T10.setTop (mkF m 22 #[.val (.ref a1), .val (.ref a2)] [(.int p9)])) _
    refine XS.ifYes X10.here hx rfl (pc0 := 22) (pc' := 27) rfl (hb hby d4_22) rfl ((if0 _ _).trans (feq H3).2) (by decide) (by decide) ?_
    show Steps p.tables e below (T10.setTop (mkF m 27 #[.val (.ref a1), .val (.ref a2)] [])) _
    refine XS.aloadN X10.here hx rfl (hb hby d4_27) rfl rfl ?_
    show Steps p.tables e below (T10.setTop (mkF m 28 #[.val (.ref a1), .val (.ref a2)] [(.ref a1)])) _
    refine st11 _ ?_
    show Steps p.tables e below (T11.setTop (mkF m 31 #[.val (.ref a1), .val (.ref a2)] [(.int p7)])) _
    refine XS.ifYes X11.here hx rfl (pc0 := 31) (pc' := 60) rfl (hb hby d4_31) rfl ((if0 _ _).trans (teq H2).1) (by decide) (by decide) ?_
    show Steps p.tables e below (T11.setTop (mkF m 60 #[.val (.ref a1), .val (.ref a2)] [])) _
    refine XS.aloadN X11.here hx rfl (hb hby d4_60) rfl rfl ?_
    show Steps p.tables e below (T11.setTop (mkF m 61 #[.val (.ref a1), .val (.ref a2)] [(.ref a1)])) _
    refine st13 _ ?_
    show Steps p.tables e below (T13.setTop (mkF m 64 #[.val (.ref a1), .val (.ref a2)] [(.int p12)])) _
    refine XS.aloadN X13.here hx rfl (hb hby d4_64) rfl rfl ?_
    show Steps p.tables e below (T13.setTop (mkF m 65 #[.val (.ref a1), .val (.ref a2)] [(.ref a2), (.int p12)])) _
    refine st15 _ ?_
    show Steps p.tables e below (T15.setTop (mkF m 68 #[.val (.ref a1), .val (.ref a2)] [(.int p14), (.int p12)])) _
    refine XS.icmpNo X15.here hx rfl (hb hby d4_68) rfl (teq H4).2 ?_
    show Steps p.tables e below (T15.setTop (mkF m 71 #[.val (.ref a1), .val (.ref a2)] [])) _
    refine XS.iconst X15.here hx rfl (hb hby d4_71) ?_
    show Steps p.tables e below (T15.setTop (mkF m 72 #[.val (.ref a1), .val (.ref a2)] [(.int (1 : Int32))])) _
    refine XS.goto X15.here hx rfl (pc0 := 72) (pc' := 76) rfl (hb hby d4_72) (by decide) (by decide) ?_
    show Steps p.tables e below (T15.setTop (mkF m 76 #[.val (.ref a1), .val (.ref a2)] [(.int (1 : Int32))])) _
    exact retN X15 hx (t := .boolean) Bd.returns (by simp) (hb hby d4_76) hr
  · show Q4_2 Z a1 a2 p3 p5 p7 p9 p12 p14 h0 n0 _ T15.heap _
    rw [e15]
    exact ⟨rfl, N0, rfl⟩
theorem ef4_3 (m : MethodId) (a1 : Addr) (a2 : Addr) (p3 : Int32) (p5 : Int32) (p7 : Int32) (p9 : Int32) (p12 : Int32) (p14 : Int32) : entryFrame m #[(.ref a1), (.ref a2)] 2 = mkF m 0 #[.val (.ref a1), .val (.ref a2)] [] := by first | (simp [entryFrame, mkF, argsToLocals, Value.category]; done) | rfl
def Q4_3 (Z : State) (a1 : Addr) (a2 : Addr) (p3 : Int32) (p5 : Int32) (p7 : Int32) (p9 : Int32) (p12 : Int32) (p14 : Int32) (h0 : Heap) (n0 : Nat) (v : Option Value) (h : Heap) (L : List Loc) : Prop := v = some (.int (0 : Int32)) ∧ Fr n0 L ∧ h = h0
set_option maxRecDepth 65536 in
set_option maxHeartbeats 40000000 in
theorem rm4_3 (l : Launch) (Z : State) (a0 : Array Value) (hw : ∀ d ∈ tables_1, d.before a0 Z = true) (ws : List Jvm.Cond) (a1 : Addr) (a2 : Addr) (p3 : Int32) (p5 : Int32) (p7 : Int32) (p9 : Int32) (p12 : Int32) (p14 : Int32) (h0 : Heap) (n0 : Nat) (Z0 : n0 ≤ h0.size) (P1 : Fld Z h0 a1 "com/example/sinkwatch/sinkwatch/Condition" "local" "I" (.int p3)) (P2 : Fld Z h0 a2 "com/example/sinkwatch/sinkwatch/Condition" "local" "I" (.int p5)) (P3 : Fld Z h0 a1 "com/example/sinkwatch/sinkwatch/Condition" "equal" "Z" (.int p7)) (P4 : Fld Z h0 a2 "com/example/sinkwatch/sinkwatch/Condition" "equal" "Z" (.int p9)) (P5 : Fld Z h0 a1 "com/example/sinkwatch/sinkwatch/Condition" "constant" "I" (.int p12)) (P6 : Fld Z h0 a2 "com/example/sinkwatch/sinkwatch/Condition" "constant" "I" (.int p14)) (H1 : p3 = p5) (H2 : p7 = (0 : Int32)) (H3 : ¬ (p9 = (0 : Int32))) (H4 : ¬ (p12 = p14)) :
    MetFree l (⟨"com/example/sinkwatch/sinkwatch/Condition", "contradicts", "(Lcom/example/sinkwatch/sinkwatch/Condition;)Z"⟩ : MethodName) (head1 (Jvm.Cond.code (⟨"com/example/sinkwatch/sinkwatch/Condition", "contradicts", "(Lcom/example/sinkwatch/sinkwatch/Condition;)Z"⟩ : MethodName) prog_1_method_2_code 2 (some .boolean) :: ws) ({ frames := 0, cells := 0, slots := 0, locals := 0 } : Room)) (fun a U => a = #[(.ref a1), (.ref a2)] ∧ Z.Warmed39 U.vm ∧ U.heap = h0) (fun _ _ _ _ _ => True) (fun _ U o U' => ∃ v L, o = .returned v ∧ Q4_3 Z a1 a2 p3 p5 p7 p9 p12 p14 h0 n0 v U'.heap L ∧ FrameEnd U o U' L ({ frames := 0, cells := 0, slots := 0, locals := 0 } : Room).cells ({ frames := 0, cells := 0, slots := 0, locals := 0 } : Room).slots) := by
  refine MetFree.of_bodySF (plainFor_of_name pn_1) hisR ?_
  intro p e s m args below meth c s₁ Bd hml0 hP hK
  obtain ⟨rfl, hZ, hh⟩ := hP
  have hx := Bd.exec
  have hby := Bd.bytes
  have hml : c.maxLocals = 2 := hml0
  have hown : s.vm.findClass "com/example/sinkwatch/sinkwatch/Condition" = some m.cls := findClass_of_methodNamed Bd.named
  have hnm := (name_of_methodNamed Bd.named Bd.method).1
  have X0 : Stand p l e ({ frames := 0, cells := 0, slots := 0, locals := 0 } : Room) s m #[(.ref a1), (.ref a2)] below meth c s₁ [] 0 0 := Stand.of_body Bd
  have e0 : s₁.heap = h0 := by rw [← hh, Bd.state]; rfl
  have N0 := Fr.nil n0
  have pre0 : ∀ t, Steps p.tables e below (s₁.setTop (mkF m 0 #[.val (.ref a1), .val (.ref a2)] [])) t → Steps p.tables e below (s₁.setTop (entryFrame m #[(.ref a1), (.ref a2)] 2)) t := fun t k => castTop (ef4_3 m a1 a2 p3 p5 p7 p9 p12 p14) k
  obtain ⟨T4, X4, e4, st4⟩ := getF X0 hx hZ hown (host := "") (Or.inl (tw_14 hw)) Via.refl e0 P1 (g := (mkF m 1 #[.val (.ref a1), .val (.ref a2)] [(.ref a1)])) rfl rfl (hb hby d4_1)
  obtain ⟨T6, X6, e6, st6⟩ := getF X4 hx hZ hown (host := "") (Or.inl (tw_14 hw)) Via.refl e4 P2 (g := (mkF m 5 #[.val (.ref a1), .val (.ref a2)] [(.ref a2), (.int p3)])) rfl rfl (hb hby d4_5)
  obtain ⟨T8, X8, e8, st8⟩ := getF X6 hx hZ hown (host := "") (Or.inl (tw_16 hw)) Via.refl e6 P3 (g := (mkF m 12 #[.val (.ref a1), .val (.ref a2)] [(.ref a1)])) rfl rfl (hb hby d4_12)
  obtain ⟨T10, X10, e10, st10⟩ := getF X8 hx hZ hown (host := "") (Or.inl (tw_16 hw)) Via.refl e8 P4 (g := (mkF m 19 #[.val (.ref a1), .val (.ref a2)] [(.ref a2)])) rfl rfl (hb hby d4_19)
  obtain ⟨T11, X11, e11, st11⟩ := getF X10 hx hZ hown (host := "") (Or.inl (tw_16 hw)) Via.refl e10 P3 (g := (mkF m 28 #[.val (.ref a1), .val (.ref a2)] [(.ref a1)])) rfl rfl (hb hby d4_28)
  obtain ⟨T13, X13, e13, st13⟩ := getF X11 hx hZ hown (host := "") (Or.inl (tw_18 hw)) Via.refl e11 P5 (g := (mkF m 61 #[.val (.ref a1), .val (.ref a2)] [(.ref a1)])) rfl rfl (hb hby d4_61)
  obtain ⟨T15, X15, e15, st15⟩ := getF X13 hx hZ hown (host := "") (Or.inl (tw_18 hw)) Via.refl e13 P6 (g := (mkF m 65 #[.val (.ref a1), .val (.ref a2)] [(.ref a2), (.int p12)])) rfl rfl (hb hby d4_65)
  obtain ⟨fs, hr, hrun, hended, hW, hsame⟩ := X15.leave (v := some (.int (0 : Int32))) (fun h => by rw [Bd.returns] at h; cases h)
  refine ⟨_, _, pre0 _ ?_, hrun, hended, _, _, rfl, ?_, ⟨_, rfl⟩, hW, hsame.mono (by decide) (by decide)⟩
  · show Steps p.tables e below (s₁.setTop (mkF m 0 #[.val (.ref a1), .val (.ref a2)] [])) _
    refine XS.aloadN X0.here hx rfl (hb hby d4_0) rfl rfl ?_
    show Steps p.tables e below (s₁.setTop (mkF m 1 #[.val (.ref a1), .val (.ref a2)] [(.ref a1)])) _
    refine st4 _ ?_
    show Steps p.tables e below (T4.setTop (mkF m 4 #[.val (.ref a1), .val (.ref a2)] [(.int p3)])) _
    refine XS.aloadN X4.here hx rfl (hb hby d4_4) rfl rfl ?_
    show Steps p.tables e below (T4.setTop (mkF m 5 #[.val (.ref a1), .val (.ref a2)] [(.ref a2), (.int p3)])) _
    refine st6 _ ?_
    show Steps p.tables e below (T6.setTop (mkF m 8 #[.val (.ref a1), .val (.ref a2)] [(.int p5), (.int p3)])) _
    refine XS.icmpNo X6.here hx rfl (hb hby d4_8) rfl (teq H1).2 ?_
    show Steps p.tables e below (T6.setTop (mkF m 11 #[.val (.ref a1), .val (.ref a2)] [])) _
    refine XS.aloadN X6.here hx rfl (hb hby d4_11) rfl rfl ?_
    show Steps p.tables e below (T6.setTop (mkF m 12 #[.val (.ref a1), .val (.ref a2)] [(.ref a1)])) _
    refine st8 _ ?_
    show Steps p.tables e below (T8.setTop (mkF m 15 #[.val (.ref a1), .val (.ref a2)] [(.int p7)])) _
    refine XS.ifNo X8.here hx rfl (hb hby d4_15) rfl ((if0 _ _).trans (teq H2).2) ?_
    show Steps p.tables e below (T8.setTop (mkF m 18 #[.val (.ref a1), .val (.ref a2)] [])) _
    refine XS.aloadN X8.here hx rfl (hb hby d4_18) rfl rfl ?_
    show Steps p.tables e below (T8.setTop (mkF m 19 #[.val (.ref a1), .val (.ref a2)] [(.ref a2)])) _
    refine st10 _ ?_
    show Steps p.tables e below (T10.setTop (mkF m 22 #[.val (.ref a1), .val (.ref a2)] [(.int p9)])) _
    refine XS.ifYes X10.here hx rfl (pc0 := 22) (pc' := 27) rfl (hb hby d4_22) rfl ((if0 _ _).trans (feq H3).2) (by decide) (by decide) ?_
    show Steps p.tables e below (T10.setTop (mkF m 27 #[.val (.ref a1), .val (.ref a2)] [])) _
    refine XS.aloadN X10.here hx rfl (hb hby d4_27) rfl rfl ?_
    show Steps p.tables e below (T10.setTop (mkF m 28 #[.val (.ref a1), .val (.ref a2)] [(.ref a1)])) _
    refine st11 _ ?_
    show Steps p.tables e below (T11.setTop (mkF m 31 #[.val (.ref a1), .val (.ref a2)] [(.int p7)])) _
    refine XS.ifYes X11.here hx rfl (pc0 := 31) (pc' := 60) rfl (hb hby d4_31) rfl ((if0 _ _).trans (teq H2).1) (by decide) (by decide) ?_
    show Steps p.tables e below (T11.setTop (mkF m 60 #[.val (.ref a1), .val (.ref a2)] [])) _
    refine XS.aloadN X11.here hx rfl (hb hby d4_60) rfl rfl ?_
    show Steps p.tables e below (T11.setTop (mkF m 61 #[.val (.ref a1), .val (.ref a2)] [(.ref a1)])) _
    refine st13 _ ?_
    show Steps p.tables e below (T13.setTop (mkF m 64 #[.val (.ref a1), .val (.ref a2)] [(.int p12)])) _
    refine XS.aloadN X13.here hx rfl (hb hby d4_64) rfl rfl ?_
    show Steps p.tables e below (T13.setTop (mkF m 65 #[.val (.ref a1), .val (.ref a2)] [(.ref a2), (.int p12)])) _
    refine st15 _ ?_
    show Steps p.tables e below (T15.setTop (mkF m 68 #[.val (.ref a1), .val (.ref a2)] [(.int p14), (.int p12)])) _
    refine XS.icmpYes X15.here hx rfl (pc0 := 68) (pc' := 75) rfl (hb hby d4_68) rfl (feq H4).2 (by decide) (by decide) ?_
    show Steps p.tables e below (T15.setTop (mkF m 75 #[.val (.ref a1), .val (.ref a2)] [])) _
    refine XS.iconst X15.here hx rfl (hb hby d4_75) ?_
    show Steps p.tables e below (T15.setTop (mkF m 76 #[.val (.ref a1), .val (.ref a2)] [(.int (0 : Int32))])) _
    exact retN X15 hx (t := .boolean) Bd.returns (by simp) (hb hby d4_76) hr
  · show Q4_3 Z a1 a2 p3 p5 p7 p9 p12 p14 h0 n0 _ T15.heap _
    rw [e15]
    exact ⟨rfl, N0, rfl⟩
theorem ef4_4 (m : MethodId) (a1 : Addr) (a2 : Addr) (p3 : Int32) (p5 : Int32) (p7 : Int32) (p10 : Int32) (p12 : Int32) (p14 : Int32) : entryFrame m #[(.ref a1), (.ref a2)] 2 = mkF m 0 #[.val (.ref a1), .val (.ref a2)] [] := by first | (simp [entryFrame, mkF, argsToLocals, Value.category]; done) | rfl
def Q4_4 (Z : State) (a1 : Addr) (a2 : Addr) (p3 : Int32) (p5 : Int32) (p7 : Int32) (p10 : Int32) (p12 : Int32) (p14 : Int32) (h0 : Heap) (n0 : Nat) (v : Option Value) (h : Heap) (L : List Loc) : Prop := v = some (.int (1 : Int32)) ∧ Fr n0 L ∧ h = h0
set_option maxRecDepth 65536 in
set_option maxHeartbeats 40000000 in
theorem rm4_4 (l : Launch) (Z : State) (a0 : Array Value) (hw : ∀ d ∈ tables_1, d.before a0 Z = true) (ws : List Jvm.Cond) (a1 : Addr) (a2 : Addr) (p3 : Int32) (p5 : Int32) (p7 : Int32) (p10 : Int32) (p12 : Int32) (p14 : Int32) (h0 : Heap) (n0 : Nat) (Z0 : n0 ≤ h0.size) (P1 : Fld Z h0 a1 "com/example/sinkwatch/sinkwatch/Condition" "local" "I" (.int p3)) (P2 : Fld Z h0 a2 "com/example/sinkwatch/sinkwatch/Condition" "local" "I" (.int p5)) (P3 : Fld Z h0 a1 "com/example/sinkwatch/sinkwatch/Condition" "equal" "Z" (.int p7)) (P4 : Fld Z h0 a2 "com/example/sinkwatch/sinkwatch/Condition" "equal" "Z" (.int p10)) (P5 : Fld Z h0 a1 "com/example/sinkwatch/sinkwatch/Condition" "constant" "I" (.int p12)) (P6 : Fld Z h0 a2 "com/example/sinkwatch/sinkwatch/Condition" "constant" "I" (.int p14)) (H1 : p3 = p5) (H2 : ¬ (p7 = (0 : Int32))) (H3 : p10 = (0 : Int32)) (H4 : p12 = p14) :
    MetFree l (⟨"com/example/sinkwatch/sinkwatch/Condition", "contradicts", "(Lcom/example/sinkwatch/sinkwatch/Condition;)Z"⟩ : MethodName) (head1 (Jvm.Cond.code (⟨"com/example/sinkwatch/sinkwatch/Condition", "contradicts", "(Lcom/example/sinkwatch/sinkwatch/Condition;)Z"⟩ : MethodName) prog_1_method_2_code 2 (some .boolean) :: ws) ({ frames := 0, cells := 0, slots := 0, locals := 0 } : Room)) (fun a U => a = #[(.ref a1), (.ref a2)] ∧ Z.Warmed39 U.vm ∧ U.heap = h0) (fun _ _ _ _ _ => True) (fun _ U o U' => ∃ v L, o = .returned v ∧ Q4_4 Z a1 a2 p3 p5 p7 p10 p12 p14 h0 n0 v U'.heap L ∧ FrameEnd U o U' L ({ frames := 0, cells := 0, slots := 0, locals := 0 } : Room).cells ({ frames := 0, cells := 0, slots := 0, locals := 0 } : Room).slots) := by
  refine MetFree.of_bodySF (plainFor_of_name pn_1) hisR ?_
  intro p e s m args below meth c s₁ Bd hml0 hP hK
  obtain ⟨rfl, hZ, hh⟩ := hP
  have hx := Bd.exec
  have hby := Bd.bytes
  have hml : c.maxLocals = 2 := hml0
  have hown : s.vm.findClass "com/example/sinkwatch/sinkwatch/Condition" = some m.cls := findClass_of_methodNamed Bd.named
  have hnm := (name_of_methodNamed Bd.named Bd.method).1
  have X0 : Stand p l e ({ frames := 0, cells := 0, slots := 0, locals := 0 } : Room) s m #[(.ref a1), (.ref a2)] below meth c s₁ [] 0 0 := Stand.of_body Bd
  have e0 : s₁.heap = h0 := by rw [← hh, Bd.state]; rfl
  have N0 := Fr.nil n0
  have pre0 : ∀ t, Steps p.tables e below (s₁.setTop (mkF m 0 #[.val (.ref a1), .val (.ref a2)] [])) t → Steps p.tables e below (s₁.setTop (entryFrame m #[(.ref a1), (.ref a2)] 2)) t := fun t k => castTop (ef4_4 m a1 a2 p3 p5 p7 p10 p12 p14) k
  obtain ⟨T4, X4, e4, st4⟩ := getF X0 hx hZ hown (host := "") (Or.inl (tw_14 hw)) Via.refl e0 P1 (g := (mkF m 1 #[.val (.ref a1), .val (.ref a2)] [(.ref a1)])) rfl rfl (hb hby d4_1)
  obtain ⟨T6, X6, e6, st6⟩ := getF X4 hx hZ hown (host := "") (Or.inl (tw_14 hw)) Via.refl e4 P2 (g := (mkF m 5 #[.val (.ref a1), .val (.ref a2)] [(.ref a2), (.int p3)])) rfl rfl (hb hby d4_5)
  obtain ⟨T8, X8, e8, st8⟩ := getF X6 hx hZ hown (host := "") (Or.inl (tw_16 hw)) Via.refl e6 P3 (g := (mkF m 12 #[.val (.ref a1), .val (.ref a2)] [(.ref a1)])) rfl rfl (hb hby d4_12)
  obtain ⟨T9, X9, e9, st9⟩ := getF X8 hx hZ hown (host := "") (Or.inl (tw_16 hw)) Via.refl e8 P3 (g := (mkF m 28 #[.val (.ref a1), .val (.ref a2)] [(.ref a1)])) rfl rfl (hb hby d4_28)
  obtain ⟨T11, X11, e11, st11⟩ := getF X9 hx hZ hown (host := "") (Or.inl (tw_16 hw)) Via.refl e9 P4 (g := (mkF m 35 #[.val (.ref a1), .val (.ref a2)] [(.ref a2)])) rfl rfl (hb hby d4_35)
  obtain ⟨T13, X13, e13, st13⟩ := getF X11 hx hZ hown (host := "") (Or.inl (tw_18 hw)) Via.refl e11 P5 (g := (mkF m 61 #[.val (.ref a1), .val (.ref a2)] [(.ref a1)])) rfl rfl (hb hby d4_61)
  obtain ⟨T15, X15, e15, st15⟩ := getF X13 hx hZ hown (host := "") (Or.inl (tw_18 hw)) Via.refl e13 P6 (g := (mkF m 65 #[.val (.ref a1), .val (.ref a2)] [(.ref a2), (.int p12)])) rfl rfl (hb hby d4_65)
  obtain ⟨fs, hr, hrun, hended, hW, hsame⟩ := X15.leave (v := some (.int (1 : Int32))) (fun h => by rw [Bd.returns] at h; cases h)
  refine ⟨_, _, pre0 _ ?_, hrun, hended, _, _, rfl, ?_, ⟨_, rfl⟩, hW, hsame.mono (by decide) (by decide)⟩
  · show Steps p.tables e below (s₁.setTop (mkF m 0 #[.val (.ref a1), .val (.ref a2)] [])) _
    refine XS.aloadN X0.here hx rfl (hb hby d4_0) rfl rfl ?_
    show Steps p.tables e below (s₁.setTop (mkF m 1 #[.val (.ref a1), .val (.ref a2)] [(.ref a1)])) _
    refine st4 _ ?_
    show Steps p.tables e below (T4.setTop (mkF m 4 #[.val (.ref a1), .val (.ref a2)] [(.int p3)])) _
    refine XS.aloadN X4.here hx rfl (hb hby d4_4) rfl rfl ?_
    show Steps p.tables e below (T4.setTop (mkF m 5 #[.val (.ref a1), .val (.ref a2)] [(.ref a2), (.int p3)])) _
    refine st6 _ ?_
    show Steps p.tables e below (T6.setTop (mkF m 8 #[.val (.ref a1), .val (.ref a2)] [(.int p5), (.int p3)])) _
    refine XS.icmpNo X6.here hx rfl (hb hby d4_8) rfl (teq H1).2 ?_
    show Steps p.tables e below (T6.setTop (mkF m 11 #[.val (.ref a1), .val (.ref a2)] [])) _
    refine XS.aloadN X6.here hx rfl (hb hby d4_11) rfl rfl ?_
    show Steps p.tables e below (T6.setTop (mkF m 12 #[.val (.ref a1), .val (.ref a2)] [(.ref a1)])) _
    refine st8 _ ?_
    show Steps p.tables e below (T8.setTop (mkF m 15 #[.val (.ref a1), .val (.ref a2)] [(.int p7)])) _
    refine XS.ifYes X8.here hx rfl (pc0 := 15) (pc' := 27) rfl (hb hby d4_15) rfl ((if0 _ _).trans (feq H2).2) (by decide) (by decide) ?_
    show Steps p.tables e below (T8.setTop (mkF m 27 #[.val (.ref a1), .val (.ref a2)] [])) _
    refine XS.aloadN X8.here hx rfl (hb hby d4_27) rfl rfl ?_
    show Steps p.tables e below (T8.setTop (mkF m 28 #[.val (.ref a1), .val (.ref a2)] [(.ref a1)])) _
    refine st9 _ ?_
    show Steps p.tables e below (T9.setTop (mkF m 31 #[.val (.ref a1), .val (.ref a2)] [(.int p7)])) _
    refine XS.ifNo X9.here hx rfl (hb hby d4_31) rfl ((if0 _ _).trans (feq H2).1) ?_
    show Steps p.tables e below (T9.setTop (mkF m 34 #[.val (.ref a1), .val (.ref a2)] [])) _
    refine XS.aloadN X9.here hx rfl (hb hby d4_34) rfl rfl ?_
    show Steps p.tables e below (T9.setTop (mkF m 35 #[.val (.ref a1), .val (.ref a2)] [(.ref a2)])) _
    refine st11 _ ?_
    show Steps p.tables e below (T11.setTop (mkF m 38 #[.val (.ref a1), .val (.ref a2)] [(.int p10)])) _
    refine XS.ifYes X11.here hx rfl (pc0 := 38) (pc' := 60) rfl (hb hby d4_38) rfl ((if0 _ _).trans (teq H3).1) (by decide) (by decide) ?_
    show Steps p.tables e below (T11.setTop (mkF m 60 #[.val (.ref a1), .val (.ref a2)] [])) _
    refine XS.aloadN X11.here hx rfl (hb hby d4_60) rfl rfl ?_
    show Steps p.tables e below (T11.setTop (mkF m 61 #[.val (.ref a1), .val (.ref a2)] [(.ref a1)])) _
    refine st13 _ ?_
    show Steps p.tables e below (T13.setTop (mkF m 64 #[.val (.ref a1), .val (.ref a2)] [(.int p12)])) _
    refine XS.aloadN X13.here hx rfl (hb hby d4_64) rfl rfl ?_
    show Steps p.tables e below (T13.setTop (mkF m 65 #[.val (.ref a1), .val (.ref a2)] [(.ref a2), (.int p12)])) _
    refine st15 _ ?_
    show Steps p.tables e below (T15.setTop (mkF m 68 #[.val (.ref a1), .val (.ref a2)] [(.int p14), (.int p12)])) _
    refine XS.icmpNo X15.here hx rfl (hb hby d4_68) rfl (teq H4).2 ?_
    show Steps p.tables e below (T15.setTop (mkF m 71 #[.val (.ref a1), .val (.ref a2)] [])) _
    refine XS.iconst X15.here hx rfl (hb hby d4_71) ?_
    show Steps p.tables e below (T15.setTop (mkF m 72 #[.val (.ref a1), .val (.ref a2)] [(.int (1 : Int32))])) _
    refine XS.goto X15.here hx rfl (pc0 := 72) (pc' := 76) rfl (hb hby d4_72) (by decide) (by decide) ?_
    show Steps p.tables e below (T15.setTop (mkF m 76 #[.val (.ref a1), .val (.ref a2)] [(.int (1 : Int32))])) _
    exact retN X15 hx (t := .boolean) Bd.returns (by simp) (hb hby d4_76) hr
  · show Q4_4 Z a1 a2 p3 p5 p7 p10 p12 p14 h0 n0 _ T15.heap _
    rw [e15]
    exact ⟨rfl, N0, rfl⟩
theorem ef4_5 (m : MethodId) (a1 : Addr) (a2 : Addr) (p3 : Int32) (p5 : Int32) (p7 : Int32) (p10 : Int32) (p12 : Int32) (p14 : Int32) : entryFrame m #[(.ref a1), (.ref a2)] 2 = mkF m 0 #[.val (.ref a1), .val (.ref a2)] [] := by first | (simp [entryFrame, mkF, argsToLocals, Value.category]; done) | rfl
def Q4_5 (Z : State) (a1 : Addr) (a2 : Addr) (p3 : Int32) (p5 : Int32) (p7 : Int32) (p10 : Int32) (p12 : Int32) (p14 : Int32) (h0 : Heap) (n0 : Nat) (v : Option Value) (h : Heap) (L : List Loc) : Prop := v = some (.int (0 : Int32)) ∧ Fr n0 L ∧ h = h0
set_option maxRecDepth 65536 in
set_option maxHeartbeats 40000000 in
theorem rm4_5 (l : Launch) (Z : State) (a0 : Array Value) (hw : ∀ d ∈ tables_1, d.before a0 Z = true) (ws : List Jvm.Cond) (a1 : Addr) (a2 : Addr) (p3 : Int32) (p5 : Int32) (p7 : Int32) (p10 : Int32) (p12 : Int32) (p14 : Int32) (h0 : Heap) (n0 : Nat) (Z0 : n0 ≤ h0.size) (P1 : Fld Z h0 a1 "com/example/sinkwatch/sinkwatch/Condition" "local" "I" (.int p3)) (P2 : Fld Z h0 a2 "com/example/sinkwatch/sinkwatch/Condition" "local" "I" (.int p5)) (P3 : Fld Z h0 a1 "com/example/sinkwatch/sinkwatch/Condition" "equal" "Z" (.int p7)) (P4 : Fld Z h0 a2 "com/example/sinkwatch/sinkwatch/Condition" "equal" "Z" (.int p10)) (P5 : Fld Z h0 a1 "com/example/sinkwatch/sinkwatch/Condition" "constant" "I" (.int p12)) (P6 : Fld Z h0 a2 "com/example/sinkwatch/sinkwatch/Condition" "constant" "I" (.int p14)) (H1 : p3 = p5) (H2 : ¬ (p7 = (0 : Int32))) (H3 : p10 = (0 : Int32)) (H4 : ¬ (p12 = p14)) :
    MetFree l (⟨"com/example/sinkwatch/sinkwatch/Condition", "contradicts", "(Lcom/example/sinkwatch/sinkwatch/Condition;)Z"⟩ : MethodName) (head1 (Jvm.Cond.code (⟨"com/example/sinkwatch/sinkwatch/Condition", "contradicts", "(Lcom/example/sinkwatch/sinkwatch/Condition;)Z"⟩ : MethodName) prog_1_method_2_code 2 (some .boolean) :: ws) ({ frames := 0, cells := 0, slots := 0, locals := 0 } : Room)) (fun a U => a = #[(.ref a1), (.ref a2)] ∧ Z.Warmed39 U.vm ∧ U.heap = h0) (fun _ _ _ _ _ => True) (fun _ U o U' => ∃ v L, o = .returned v ∧ Q4_5 Z a1 a2 p3 p5 p7 p10 p12 p14 h0 n0 v U'.heap L ∧ FrameEnd U o U' L ({ frames := 0, cells := 0, slots := 0, locals := 0 } : Room).cells ({ frames := 0, cells := 0, slots := 0, locals := 0 } : Room).slots) := by
  refine MetFree.of_bodySF (plainFor_of_name pn_1) hisR ?_
  intro p e s m args below meth c s₁ Bd hml0 hP hK
  obtain ⟨rfl, hZ, hh⟩ := hP
  have hx := Bd.exec
  have hby := Bd.bytes
  have hml : c.maxLocals = 2 := hml0
  have hown : s.vm.findClass "com/example/sinkwatch/sinkwatch/Condition" = some m.cls := findClass_of_methodNamed Bd.named
  have hnm := (name_of_methodNamed Bd.named Bd.method).1
  have X0 : Stand p l e ({ frames := 0, cells := 0, slots := 0, locals := 0 } : Room) s m #[(.ref a1), (.ref a2)] below meth c s₁ [] 0 0 := Stand.of_body Bd
  have e0 : s₁.heap = h0 := by rw [← hh, Bd.state]; rfl
  have N0 := Fr.nil n0
  have pre0 : ∀ t, Steps p.tables e below (s₁.setTop (mkF m 0 #[.val (.ref a1), .val (.ref a2)] [])) t → Steps p.tables e below (s₁.setTop (entryFrame m #[(.ref a1), (.ref a2)] 2)) t := fun t k => castTop (ef4_5 m a1 a2 p3 p5 p7 p10 p12 p14) k
  obtain ⟨T4, X4, e4, st4⟩ := getF X0 hx hZ hown (host := "") (Or.inl (tw_14 hw)) Via.refl e0 P1 (g := (mkF m 1 #[.val (.ref a1), .val (.ref a2)] [(.ref a1)])) rfl rfl (hb hby d4_1)
  obtain ⟨T6, X6, e6, st6⟩ := getF X4 hx hZ hown (host := "") (Or.inl (tw_14 hw)) Via.refl e4 P2 (g := (mkF m 5 #[.val (.ref a1), .val (.ref a2)] [(.ref a2), (.int p3)])) rfl rfl (hb hby d4_5)
  obtain ⟨T8, X8, e8, st8⟩ := getF X6 hx hZ hown (host := "") (Or.inl (tw_16 hw)) Via.refl e6 P3 (g := (mkF m 12 #[.val (.ref a1), .val (.ref a2)] [(.ref a1)])) rfl rfl (hb hby d4_12)
  obtain ⟨T9, X9, e9, st9⟩ := getF X8 hx hZ hown (host := "") (Or.inl (tw_16 hw)) Via.refl e8 P3 (g := (mkF m 28 #[.val (.ref a1), .val (.ref a2)] [(.ref a1)])) rfl rfl (hb hby d4_28)
  obtain ⟨T11, X11, e11, st11⟩ := getF X9 hx hZ hown (host := "") (Or.inl (tw_16 hw)) Via.refl e9 P4 (g := (mkF m 35 #[.val (.ref a1), .val (.ref a2)] [(.ref a2)])) rfl rfl (hb hby d4_35)
  obtain ⟨T13, X13, e13, st13⟩ := getF X11 hx hZ hown (host := "") (Or.inl (tw_18 hw)) Via.refl e11 P5 (g := (mkF m 61 #[.val (.ref a1), .val (.ref a2)] [(.ref a1)])) rfl rfl (hb hby d4_61)
  obtain ⟨T15, X15, e15, st15⟩ := getF X13 hx hZ hown (host := "") (Or.inl (tw_18 hw)) Via.refl e13 P6 (g := (mkF m 65 #[.val (.ref a1), .val (.ref a2)] [(.ref a2), (.int p12)])) rfl rfl (hb hby d4_65)
  obtain ⟨fs, hr, hrun, hended, hW, hsame⟩ := X15.leave (v := some (.int (0 : Int32))) (fun h => by rw [Bd.returns] at h; cases h)
  refine ⟨_, _, pre0 _ ?_, hrun, hended, _, _, rfl, ?_, ⟨_, rfl⟩, hW, hsame.mono (by decide) (by decide)⟩
  · show Steps p.tables e below (s₁.setTop (mkF m 0 #[.val (.ref a1), .val (.ref a2)] [])) _
    refine XS.aloadN X0.here hx rfl (hb hby d4_0) rfl rfl ?_
    show Steps p.tables e below (s₁.setTop (mkF m 1 #[.val (.ref a1), .val (.ref a2)] [(.ref a1)])) _
    refine st4 _ ?_
    show Steps p.tables e below (T4.setTop (mkF m 4 #[.val (.ref a1), .val (.ref a2)] [(.int p3)])) _
    refine XS.aloadN X4.here hx rfl (hb hby d4_4) rfl rfl ?_
    show Steps p.tables e below (T4.setTop (mkF m 5 #[.val (.ref a1), .val (.ref a2)] [(.ref a2), (.int p3)])) _
    refine st6 _ ?_
    show Steps p.tables e below (T6.setTop (mkF m 8 #[.val (.ref a1), .val (.ref a2)] [(.int p5), (.int p3)])) _
    refine XS.icmpNo X6.here hx rfl (hb hby d4_8) rfl (teq H1).2 ?_
    show Steps p.tables e below (T6.setTop (mkF m 11 #[.val (.ref a1), .val (.ref a2)] [])) _
    refine XS.aloadN X6.here hx rfl (hb hby d4_11) rfl rfl ?_
    show Steps p.tables e below (T6.setTop (mkF m 12 #[.val (.ref a1), .val (.ref a2)] [(.ref a1)])) _
    refine st8 _ ?_
    show Steps p.tables e below (T8.setTop (mkF m 15 #[.val (.ref a1), .val (.ref a2)] [(.int p7)])) _
    refine XS.ifYes X8.here hx rfl (pc0 := 15) (pc' := 27) rfl (hb hby d4_15) rfl ((if0 _ _).trans (feq H2).2) (by decide) (by decide) ?_
    show Steps p.tables e below (T8.setTop (mkF m 27 #[.val (.ref a1), .val (.ref a2)] [])) _
    refine XS.aloadN X8.here hx rfl (hb hby d4_27) rfl rfl ?_
    show Steps p.tables e below (T8.setTop (mkF m 28 #[.val (.ref a1), .val (.ref a2)] [(.ref a1)])) _
    refine st9 _ ?_
    show Steps p.tables e below (T9.setTop (mkF m 31 #[.val (.ref a1), .val (.ref a2)] [(.int p7)])) _
    refine XS.ifNo X9.here hx rfl (hb hby d4_31) rfl ((if0 _ _).trans (feq H2).1) ?_
    show Steps p.tables e below (T9.setTop (mkF m 34 #[.val (.ref a1), .val (.ref a2)] [])) _
    refine XS.aloadN X9.here hx rfl (hb hby d4_34) rfl rfl ?_
    show Steps p.tables e below (T9.setTop (mkF m 35 #[.val (.ref a1), .val (.ref a2)] [(.ref a2)])) _
    refine st11 _ ?_
    show Steps p.tables e below (T11.setTop (mkF m 38 #[.val (.ref a1), .val (.ref a2)] [(.int p10)])) _
    refine XS.ifYes X11.here hx rfl (pc0 := 38) (pc' := 60) rfl (hb hby d4_38) rfl ((if0 _ _).trans (teq H3).1) (by decide) (by decide) ?_
    show Steps p.tables e below (T11.setTop (mkF m 60 #[.val (.ref a1), .val (.ref a2)] [])) _
    refine XS.aloadN X11.here hx rfl (hb hby d4_60) rfl rfl ?_
    show Steps p.tables e below (T11.setTop (mkF m 61 #[.val (.ref a1), .val (.ref a2)] [(.ref a1)])) _
    refine st13 _ ?_
    show Steps p.tables e below (T13.setTop (mkF m 64 #[.val (.ref a1), .val (.ref a2)] [(.int p12)])) _
    refine XS.aloadN X13.here hx rfl (hb hby d4_64) rfl rfl ?_
    show Steps p.tables e below (T13.setTop (mkF m 65 #[.val (.ref a1), .val (.ref a2)] [(.ref a2), (.int p12)])) _
    refine st15 _ ?_
    show Steps p.tables e below (T15.setTop (mkF m 68 #[.val (.ref a1), .val (.ref a2)] [(.int p14), (.int p12)])) _
    refine XS.icmpYes X15.here hx rfl (pc0 := 68) (pc' := 75) rfl (hb hby d4_68) rfl (feq H4).2 (by decide) (by decide) ?_
    show Steps p.tables e below (T15.setTop (mkF m 75 #[.val (.ref a1), .val (.ref a2)] [])) _
    refine XS.iconst X15.here hx rfl (hb hby d4_75) ?_
    show Steps p.tables e below (T15.setTop (mkF m 76 #[.val (.ref a1), .val (.ref a2)] [(.int (0 : Int32))])) _
    exact retN X15 hx (t := .boolean) Bd.returns (by simp) (hb hby d4_76) hr
  · show Q4_5 Z a1 a2 p3 p5 p7 p10 p12 p14 h0 n0 _ T15.heap _
    rw [e15]
    exact ⟨rfl, N0, rfl⟩
theorem ef4_6 (m : MethodId) (a1 : Addr) (a2 : Addr) (p3 : Int32) (p5 : Int32) (p7 : Int32) (p10 : Int32) (p12 : Int32) (p14 : Int32) : entryFrame m #[(.ref a1), (.ref a2)] 2 = mkF m 0 #[.val (.ref a1), .val (.ref a2)] [] := by first | (simp [entryFrame, mkF, argsToLocals, Value.category]; done) | rfl
def Q4_6 (Z : State) (a1 : Addr) (a2 : Addr) (p3 : Int32) (p5 : Int32) (p7 : Int32) (p10 : Int32) (p12 : Int32) (p14 : Int32) (h0 : Heap) (n0 : Nat) (v : Option Value) (h : Heap) (L : List Loc) : Prop := v = some (.int (0 : Int32)) ∧ Fr n0 L ∧ h = h0
set_option maxRecDepth 65536 in
set_option maxHeartbeats 40000000 in
theorem rm4_6 (l : Launch) (Z : State) (a0 : Array Value) (hw : ∀ d ∈ tables_1, d.before a0 Z = true) (ws : List Jvm.Cond) (a1 : Addr) (a2 : Addr) (p3 : Int32) (p5 : Int32) (p7 : Int32) (p10 : Int32) (p12 : Int32) (p14 : Int32) (h0 : Heap) (n0 : Nat) (Z0 : n0 ≤ h0.size) (P1 : Fld Z h0 a1 "com/example/sinkwatch/sinkwatch/Condition" "local" "I" (.int p3)) (P2 : Fld Z h0 a2 "com/example/sinkwatch/sinkwatch/Condition" "local" "I" (.int p5)) (P3 : Fld Z h0 a1 "com/example/sinkwatch/sinkwatch/Condition" "equal" "Z" (.int p7)) (P4 : Fld Z h0 a2 "com/example/sinkwatch/sinkwatch/Condition" "equal" "Z" (.int p10)) (P5 : Fld Z h0 a1 "com/example/sinkwatch/sinkwatch/Condition" "constant" "I" (.int p12)) (P6 : Fld Z h0 a2 "com/example/sinkwatch/sinkwatch/Condition" "constant" "I" (.int p14)) (H1 : p3 = p5) (H2 : ¬ (p7 = (0 : Int32))) (H3 : ¬ (p10 = (0 : Int32))) (H4 : p12 = p14) :
    MetFree l (⟨"com/example/sinkwatch/sinkwatch/Condition", "contradicts", "(Lcom/example/sinkwatch/sinkwatch/Condition;)Z"⟩ : MethodName) (head1 (Jvm.Cond.code (⟨"com/example/sinkwatch/sinkwatch/Condition", "contradicts", "(Lcom/example/sinkwatch/sinkwatch/Condition;)Z"⟩ : MethodName) prog_1_method_2_code 2 (some .boolean) :: ws) ({ frames := 0, cells := 0, slots := 0, locals := 0 } : Room)) (fun a U => a = #[(.ref a1), (.ref a2)] ∧ Z.Warmed39 U.vm ∧ U.heap = h0) (fun _ _ _ _ _ => True) (fun _ U o U' => ∃ v L, o = .returned v ∧ Q4_6 Z a1 a2 p3 p5 p7 p10 p12 p14 h0 n0 v U'.heap L ∧ FrameEnd U o U' L ({ frames := 0, cells := 0, slots := 0, locals := 0 } : Room).cells ({ frames := 0, cells := 0, slots := 0, locals := 0 } : Room).slots) := by
  refine MetFree.of_bodySF (plainFor_of_name pn_1) hisR ?_
  intro p e s m args below meth c s₁ Bd hml0 hP hK
  obtain ⟨rfl, hZ, hh⟩ := hP
  have hx := Bd.exec
  have hby := Bd.bytes
  have hml : c.maxLocals = 2 := hml0
  have hown : s.vm.findClass "com/example/sinkwatch/sinkwatch/Condition" = some m.cls := findClass_of_methodNamed Bd.named
  have hnm := (name_of_methodNamed Bd.named Bd.method).1
  have X0 : Stand p l e ({ frames := 0, cells := 0, slots := 0, locals := 0 } : Room) s m #[(.ref a1), (.ref a2)] below meth c s₁ [] 0 0 := Stand.of_body Bd
  have e0 : s₁.heap = h0 := by rw [← hh, Bd.state]; rfl
  have N0 := Fr.nil n0
  have pre0 : ∀ t, Steps p.tables e below (s₁.setTop (mkF m 0 #[.val (.ref a1), .val (.ref a2)] [])) t → Steps p.tables e below (s₁.setTop (entryFrame m #[(.ref a1), (.ref a2)] 2)) t := fun t k => castTop (ef4_6 m a1 a2 p3 p5 p7 p10 p12 p14) k
  obtain ⟨T4, X4, e4, st4⟩ := getF X0 hx hZ hown (host := "") (Or.inl (tw_14 hw)) Via.refl e0 P1 (g := (mkF m 1 #[.val (.ref a1), .val (.ref a2)] [(.ref a1)])) rfl rfl (hb hby d4_1)
  obtain ⟨T6, X6, e6, st6⟩ := getF X4 hx hZ hown (host := "") (Or.inl (tw_14 hw)) Via.refl e4 P2 (g := (mkF m 5 #[.val (.ref a1), .val (.ref a2)] [(.ref a2), (.int p3)])) rfl rfl (hb hby d4_5)
  obtain ⟨T8, X8, e8, st8⟩ := getF X6 hx hZ hown (host := "") (Or.inl (tw_16 hw)) Via.refl e6 P3 (g := (mkF m 12 #[.val (.ref a1), .val (.ref a2)] [(.ref a1)])) rfl rfl (hb hby d4_12)
  obtain ⟨T9, X9, e9, st9⟩ := getF X8 hx hZ hown (host := "") (Or.inl (tw_16 hw)) Via.refl e8 P3 (g := (mkF m 28 #[.val (.ref a1), .val (.ref a2)] [(.ref a1)])) rfl rfl (hb hby d4_28)
  obtain ⟨T11, X11, e11, st11⟩ := getF X9 hx hZ hown (host := "") (Or.inl (tw_16 hw)) Via.refl e9 P4 (g := (mkF m 35 #[.val (.ref a1), .val (.ref a2)] [(.ref a2)])) rfl rfl (hb hby d4_35)
  obtain ⟨T13, X13, e13, st13⟩ := getF X11 hx hZ hown (host := "") (Or.inl (tw_18 hw)) Via.refl e11 P5 (g := (mkF m 42 #[.val (.ref a1), .val (.ref a2)] [(.ref a1)])) rfl rfl (hb hby d4_42)
  obtain ⟨T15, X15, e15, st15⟩ := getF X13 hx hZ hown (host := "") (Or.inl (tw_18 hw)) Via.refl e13 P6 (g := (mkF m 46 #[.val (.ref a1), .val (.ref a2)] [(.ref a2), (.int p12)])) rfl rfl (hb hby d4_46)
  obtain ⟨fs, hr, hrun, hended, hW, hsame⟩ := X15.leave (v := some (.int (0 : Int32))) (fun h => by rw [Bd.returns] at h; cases h)
  refine ⟨_, _, pre0 _ ?_, hrun, hended, _, _, rfl, ?_, ⟨_, rfl⟩, hW, hsame.mono (by decide) (by decide)⟩
  · show Steps p.tables e below (s₁.setTop (mkF m 0 #[.val (.ref a1), .val (.ref a2)] [])) _
    refine XS.aloadN X0.here hx rfl (hb hby d4_0) rfl rfl ?_
    show Steps p.tables e below (s₁.setTop (mkF m 1 #[.val (.ref a1), .val (.ref a2)] [(.ref a1)])) _
    refine st4 _ ?_
    show Steps p.tables e below (T4.setTop (mkF m 4 #[.val (.ref a1), .val (.ref a2)] [(.int p3)])) _
    refine XS.aloadN X4.here hx rfl (hb hby d4_4) rfl rfl ?_
    show Steps p.tables e below (T4.setTop (mkF m 5 #[.val (.ref a1), .val (.ref a2)] [(.ref a2), (.int p3)])) _
    refine st6 _ ?_
    show Steps p.tables e below (T6.setTop (mkF m 8 #[.val (.ref a1), .val (.ref a2)] [(.int p5), (.int p3)])) _
    refine XS.icmpNo X6.here hx rfl (hb hby d4_8) rfl (teq H1).2 ?_
    show Steps p.tables e below (T6.setTop (mkF m 11 #[.val (.ref a1), .val (.ref a2)] [])) _
    refine XS.aloadN X6.here hx rfl (hb hby d4_11) rfl rfl ?_
    show Steps p.tables e below (T6.setTop (mkF m 12 #[.val (.ref a1), .val (.ref a2)] [(.ref a1)])) _
    refine st8 _ ?_
    show Steps p.tables e below (T8.setTop (mkF m 15 #[.val (.ref a1), .val (.ref a2)] [(.int p7)])) _
    refine XS.ifYes X8.here hx rfl (pc0 := 15) (pc' := 27) rfl (hb hby d4_15) rfl ((if0 _ _).trans (feq H2).2) (by decide) (by decide) ?_
    show Steps p.tables e below (T8.setTop (mkF m 27 #[.val (.ref a1), .val (.ref a2)] [])) _
    refine XS.aloadN X8.here hx rfl (hb hby d4_27) rfl rfl ?_
    show Steps p.tables e below (T8.setTop (mkF m 28 #[.val (.ref a1), .val (.ref a2)] [(.ref a1)])) _
    refine st9 _ ?_
    show Steps p.tables e below (T9.setTop (mkF m 31 #[.val (.ref a1), .val (.ref a2)] [(.int p7)])) _
    refine XS.ifNo X9.here hx rfl (hb hby d4_31) rfl ((if0 _ _).trans (feq H2).1) ?_
    show Steps p.tables e below (T9.setTop (mkF m 34 #[.val (.ref a1), .val (.ref a2)] [])) _
    refine XS.aloadN X9.here hx rfl (hb hby d4_34) rfl rfl ?_
    show Steps p.tables e below (T9.setTop (mkF m 35 #[.val (.ref a1), .val (.ref a2)] [(.ref a2)])) _
    refine st11 _ ?_
    show Steps p.tables e below (T11.setTop (mkF m 38 #[.val (.ref a1), .val (.ref a2)] [(.int p10)])) _
    refine XS.ifNo X11.here hx rfl (hb hby d4_38) rfl ((if0 _ _).trans (feq H3).1) ?_
    show Steps p.tables e below (T11.setTop (mkF m 41 #[.val (.ref a1), .val (.ref a2)] [])) _
    refine XS.aloadN X11.here hx rfl (hb hby d4_41) rfl rfl ?_
    show Steps p.tables e below (T11.setTop (mkF m 42 #[.val (.ref a1), .val (.ref a2)] [(.ref a1)])) _
    refine st13 _ ?_
    show Steps p.tables e below (T13.setTop (mkF m 45 #[.val (.ref a1), .val (.ref a2)] [(.int p12)])) _
    refine XS.aloadN X13.here hx rfl (hb hby d4_45) rfl rfl ?_
    show Steps p.tables e below (T13.setTop (mkF m 46 #[.val (.ref a1), .val (.ref a2)] [(.ref a2), (.int p12)])) _
    refine st15 _ ?_
    show Steps p.tables e below (T15.setTop (mkF m 49 #[.val (.ref a1), .val (.ref a2)] [(.int p14), (.int p12)])) _
    refine XS.icmpYes X15.here hx rfl (pc0 := 49) (pc' := 56) rfl (hb hby d4_49) rfl (teq H4).1 (by decide) (by decide) ?_
    show Steps p.tables e below (T15.setTop (mkF m 56 #[.val (.ref a1), .val (.ref a2)] [])) _
    refine XS.iconst X15.here hx rfl (hb hby d4_56) ?_
    show Steps p.tables e below (T15.setTop (mkF m 57 #[.val (.ref a1), .val (.ref a2)] [(.int (0 : Int32))])) _
    refine XS.goto X15.here hx rfl (pc0 := 57) (pc' := 76) rfl (hb hby d4_57) (by decide) (by decide) ?_
    show Steps p.tables e below (T15.setTop (mkF m 76 #[.val (.ref a1), .val (.ref a2)] [(.int (0 : Int32))])) _
    exact retN X15 hx (t := .boolean) Bd.returns (by simp) (hb hby d4_76) hr
  · show Q4_6 Z a1 a2 p3 p5 p7 p10 p12 p14 h0 n0 _ T15.heap _
    rw [e15]
    exact ⟨rfl, N0, rfl⟩
theorem ef4_7 (m : MethodId) (a1 : Addr) (a2 : Addr) (p3 : Int32) (p5 : Int32) (p7 : Int32) (p10 : Int32) (p12 : Int32) (p14 : Int32) : entryFrame m #[(.ref a1), (.ref a2)] 2 = mkF m 0 #[.val (.ref a1), .val (.ref a2)] [] := by first | (simp [entryFrame, mkF, argsToLocals, Value.category]; done) | rfl
def Q4_7 (Z : State) (a1 : Addr) (a2 : Addr) (p3 : Int32) (p5 : Int32) (p7 : Int32) (p10 : Int32) (p12 : Int32) (p14 : Int32) (h0 : Heap) (n0 : Nat) (v : Option Value) (h : Heap) (L : List Loc) : Prop := v = some (.int (1 : Int32)) ∧ Fr n0 L ∧ h = h0
set_option maxRecDepth 65536 in
set_option maxHeartbeats 40000000 in
theorem rm4_7 (l : Launch) (Z : State) (a0 : Array Value) (hw : ∀ d ∈ tables_1, d.before a0 Z = true) (ws : List Jvm.Cond) (a1 : Addr) (a2 : Addr) (p3 : Int32) (p5 : Int32) (p7 : Int32) (p10 : Int32) (p12 : Int32) (p14 : Int32) (h0 : Heap) (n0 : Nat) (Z0 : n0 ≤ h0.size) (P1 : Fld Z h0 a1 "com/example/sinkwatch/sinkwatch/Condition" "local" "I" (.int p3)) (P2 : Fld Z h0 a2 "com/example/sinkwatch/sinkwatch/Condition" "local" "I" (.int p5)) (P3 : Fld Z h0 a1 "com/example/sinkwatch/sinkwatch/Condition" "equal" "Z" (.int p7)) (P4 : Fld Z h0 a2 "com/example/sinkwatch/sinkwatch/Condition" "equal" "Z" (.int p10)) (P5 : Fld Z h0 a1 "com/example/sinkwatch/sinkwatch/Condition" "constant" "I" (.int p12)) (P6 : Fld Z h0 a2 "com/example/sinkwatch/sinkwatch/Condition" "constant" "I" (.int p14)) (H1 : p3 = p5) (H2 : ¬ (p7 = (0 : Int32))) (H3 : ¬ (p10 = (0 : Int32))) (H4 : ¬ (p12 = p14)) :
    MetFree l (⟨"com/example/sinkwatch/sinkwatch/Condition", "contradicts", "(Lcom/example/sinkwatch/sinkwatch/Condition;)Z"⟩ : MethodName) (head1 (Jvm.Cond.code (⟨"com/example/sinkwatch/sinkwatch/Condition", "contradicts", "(Lcom/example/sinkwatch/sinkwatch/Condition;)Z"⟩ : MethodName) prog_1_method_2_code 2 (some .boolean) :: ws) ({ frames := 0, cells := 0, slots := 0, locals := 0 } : Room)) (fun a U => a = #[(.ref a1), (.ref a2)] ∧ Z.Warmed39 U.vm ∧ U.heap = h0) (fun _ _ _ _ _ => True) (fun _ U o U' => ∃ v L, o = .returned v ∧ Q4_7 Z a1 a2 p3 p5 p7 p10 p12 p14 h0 n0 v U'.heap L ∧ FrameEnd U o U' L ({ frames := 0, cells := 0, slots := 0, locals := 0 } : Room).cells ({ frames := 0, cells := 0, slots := 0, locals := 0 } : Room).slots) := by
  refine MetFree.of_bodySF (plainFor_of_name pn_1) hisR ?_
  intro p e s m args below meth c s₁ Bd hml0 hP hK
  obtain ⟨rfl, hZ, hh⟩ := hP
  have hx := Bd.exec
  have hby := Bd.bytes
  have hml : c.maxLocals = 2 := hml0
  have hown : s.vm.findClass "com/example/sinkwatch/sinkwatch/Condition" = some m.cls := findClass_of_methodNamed Bd.named
  have hnm := (name_of_methodNamed Bd.named Bd.method).1
  have X0 : Stand p l e ({ frames := 0, cells := 0, slots := 0, locals := 0 } : Room) s m #[(.ref a1), (.ref a2)] below meth c s₁ [] 0 0 := Stand.of_body Bd
  have e0 : s₁.heap = h0 := by rw [← hh, Bd.state]; rfl
  have N0 := Fr.nil n0
  have pre0 : ∀ t, Steps p.tables e below (s₁.setTop (mkF m 0 #[.val (.ref a1), .val (.ref a2)] [])) t → Steps p.tables e below (s₁.setTop (entryFrame m #[(.ref a1), (.ref a2)] 2)) t := fun t k => castTop (ef4_7 m a1 a2 p3 p5 p7 p10 p12 p14) k
  obtain ⟨T4, X4, e4, st4⟩ := getF X0 hx hZ hown (host := "") (Or.inl (tw_14 hw)) Via.refl e0 P1 (g := (mkF m 1 #[.val (.ref a1), .val (.ref a2)] [(.ref a1)])) rfl rfl (hb hby d4_1)
  obtain ⟨T6, X6, e6, st6⟩ := getF X4 hx hZ hown (host := "") (Or.inl (tw_14 hw)) Via.refl e4 P2 (g := (mkF m 5 #[.val (.ref a1), .val (.ref a2)] [(.ref a2), (.int p3)])) rfl rfl (hb hby d4_5)
  obtain ⟨T8, X8, e8, st8⟩ := getF X6 hx hZ hown (host := "") (Or.inl (tw_16 hw)) Via.refl e6 P3 (g := (mkF m 12 #[.val (.ref a1), .val (.ref a2)] [(.ref a1)])) rfl rfl (hb hby d4_12)
  obtain ⟨T9, X9, e9, st9⟩ := getF X8 hx hZ hown (host := "") (Or.inl (tw_16 hw)) Via.refl e8 P3 (g := (mkF m 28 #[.val (.ref a1), .val (.ref a2)] [(.ref a1)])) rfl rfl (hb hby d4_28)
  obtain ⟨T11, X11, e11, st11⟩ := getF X9 hx hZ hown (host := "") (Or.inl (tw_16 hw)) Via.refl e9 P4 (g := (mkF m 35 #[.val (.ref a1), .val (.ref a2)] [(.ref a2)])) rfl rfl (hb hby d4_35)
  obtain ⟨T13, X13, e13, st13⟩ := getF X11 hx hZ hown (host := "") (Or.inl (tw_18 hw)) Via.refl e11 P5 (g := (mkF m 42 #[.val (.ref a1), .val (.ref a2)] [(.ref a1)])) rfl rfl (hb hby d4_42)
  obtain ⟨T15, X15, e15, st15⟩ := getF X13 hx hZ hown (host := "") (Or.inl (tw_18 hw)) Via.refl e13 P6 (g := (mkF m 46 #[.val (.ref a1), .val (.ref a2)] [(.ref a2), (.int p12)])) rfl rfl (hb hby d4_46)
  obtain ⟨fs, hr, hrun, hended, hW, hsame⟩ := X15.leave (v := some (.int (1 : Int32))) (fun h => by rw [Bd.returns] at h; cases h)
  refine ⟨_, _, pre0 _ ?_, hrun, hended, _, _, rfl, ?_, ⟨_, rfl⟩, hW, hsame.mono (by decide) (by decide)⟩
  · show Steps p.tables e below (s₁.setTop (mkF m 0 #[.val (.ref a1), .val (.ref a2)] [])) _
    refine XS.aloadN X0.here hx rfl (hb hby d4_0) rfl rfl ?_
    show Steps p.tables e below (s₁.setTop (mkF m 1 #[.val (.ref a1), .val (.ref a2)] [(.ref a1)])) _
    refine st4 _ ?_
    show Steps p.tables e below (T4.setTop (mkF m 4 #[.val (.ref a1), .val (.ref a2)] [(.int p3)])) _
    refine XS.aloadN X4.here hx rfl (hb hby d4_4) rfl rfl ?_
    show Steps p.tables e below (T4.setTop (mkF m 5 #[.val (.ref a1), .val (.ref a2)] [(.ref a2), (.int p3)])) _
    refine st6 _ ?_
    show Steps p.tables e below (T6.setTop (mkF m 8 #[.val (.ref a1), .val (.ref a2)] [(.int p5), (.int p3)])) _
    refine XS.icmpNo X6.here hx rfl (hb hby d4_8) rfl (teq H1).2 ?_
    show Steps p.tables e below (T6.setTop (mkF m 11 #[.val (.ref a1), .val (.ref a2)] [])) _
    refine XS.aloadN X6.here hx rfl (hb hby d4_11) rfl rfl ?_
    show Steps p.tables e below (T6.setTop (mkF m 12 #[.val (.ref a1), .val (.ref a2)] [(.ref a1)])) _
    refine st8 _ ?_
    show Steps p.tables e below (T8.setTop (mkF m 15 #[.val (.ref a1), .val (.ref a2)] [(.int p7)])) _
    refine XS.ifYes X8.here hx rfl (pc0 := 15) (pc' := 27) rfl (hb hby d4_15) rfl ((if0 _ _).trans (feq H2).2) (by decide) (by decide) ?_
    show Steps p.tables e below (T8.setTop (mkF m 27 #[.val (.ref a1), .val (.ref a2)] [])) _
    refine XS.aloadN X8.here hx rfl (hb hby d4_27) rfl rfl ?_
    show Steps p.tables e below (T8.setTop (mkF m 28 #[.val (.ref a1), .val (.ref a2)] [(.ref a1)])) _
    refine st9 _ ?_
    show Steps p.tables e below (T9.setTop (mkF m 31 #[.val (.ref a1), .val (.ref a2)] [(.int p7)])) _
    refine XS.ifNo X9.here hx rfl (hb hby d4_31) rfl ((if0 _ _).trans (feq H2).1) ?_
    show Steps p.tables e below (T9.setTop (mkF m 34 #[.val (.ref a1), .val (.ref a2)] [])) _
    refine XS.aloadN X9.here hx rfl (hb hby d4_34) rfl rfl ?_
    show Steps p.tables e below (T9.setTop (mkF m 35 #[.val (.ref a1), .val (.ref a2)] [(.ref a2)])) _
    refine st11 _ ?_
    show Steps p.tables e below (T11.setTop (mkF m 38 #[.val (.ref a1), .val (.ref a2)] [(.int p10)])) _
    refine XS.ifNo X11.here hx rfl (hb hby d4_38) rfl ((if0 _ _).trans (feq H3).1) ?_
    show Steps p.tables e below (T11.setTop (mkF m 41 #[.val (.ref a1), .val (.ref a2)] [])) _
    refine XS.aloadN X11.here hx rfl (hb hby d4_41) rfl rfl ?_
    show Steps p.tables e below (T11.setTop (mkF m 42 #[.val (.ref a1), .val (.ref a2)] [(.ref a1)])) _
    refine st13 _ ?_
    show Steps p.tables e below (T13.setTop (mkF m 45 #[.val (.ref a1), .val (.ref a2)] [(.int p12)])) _
    refine XS.aloadN X13.here hx rfl (hb hby d4_45) rfl rfl ?_
    show Steps p.tables e below (T13.setTop (mkF m 46 #[.val (.ref a1), .val (.ref a2)] [(.ref a2), (.int p12)])) _
    refine st15 _ ?_
    show Steps p.tables e below (T15.setTop (mkF m 49 #[.val (.ref a1), .val (.ref a2)] [(.int p14), (.int p12)])) _
    refine XS.icmpNo X15.here hx rfl (hb hby d4_49) rfl (feq H4).1 ?_
    show Steps p.tables e below (T15.setTop (mkF m 52 #[.val (.ref a1), .val (.ref a2)] [])) _
    refine XS.iconst X15.here hx rfl (hb hby d4_52) ?_
    show Steps p.tables e below (T15.setTop (mkF m 53 #[.val (.ref a1), .val (.ref a2)] [(.int (1 : Int32))])) _
    refine XS.goto X15.here hx rfl (pc0 := 53) (pc' := 76) rfl (hb hby d4_53) (by decide) (by decide) ?_
    show Steps p.tables e below (T15.setTop (mkF m 76 #[.val (.ref a1), .val (.ref a2)] [(.int (1 : Int32))])) _
    exact retN X15 hx (t := .boolean) Bd.returns (by simp) (hb hby d4_76) hr
  · show Q4_7 Z a1 a2 p3 p5 p7 p10 p12 p14 h0 n0 _ T15.heap _
    rw [e15]
    exact ⟨rfl, N0, rfl⟩
theorem ef4_8 (m : MethodId) (a1 : Addr) (a2 : Addr) (p3 : Int32) (p5 : Int32) : entryFrame m #[(.ref a1), (.ref a2)] 2 = mkF m 0 #[.val (.ref a1), .val (.ref a2)] [] := by first | (simp [entryFrame, mkF, argsToLocals, Value.category]; done) | rfl
def Q4_8 (Z : State) (a1 : Addr) (a2 : Addr) (p3 : Int32) (p5 : Int32) (h0 : Heap) (n0 : Nat) (v : Option Value) (h : Heap) (L : List Loc) : Prop := v = some (.int (0 : Int32)) ∧ Fr n0 L ∧ h = h0
set_option maxRecDepth 65536 in
set_option maxHeartbeats 40000000 in
theorem rm4_8 (l : Launch) (Z : State) (a0 : Array Value) (hw : ∀ d ∈ tables_1, d.before a0 Z = true) (ws : List Jvm.Cond) (a1 : Addr) (a2 : Addr) (p3 : Int32) (p5 : Int32) (h0 : Heap) (n0 : Nat) (Z0 : n0 ≤ h0.size) (P1 : Fld Z h0 a1 "com/example/sinkwatch/sinkwatch/Condition" "local" "I" (.int p3)) (P2 : Fld Z h0 a2 "com/example/sinkwatch/sinkwatch/Condition" "local" "I" (.int p5)) (H1 : ¬ (p3 = p5)) :
    MetFree l (⟨"com/example/sinkwatch/sinkwatch/Condition", "contradicts", "(Lcom/example/sinkwatch/sinkwatch/Condition;)Z"⟩ : MethodName) (head1 (Jvm.Cond.code (⟨"com/example/sinkwatch/sinkwatch/Condition", "contradicts", "(Lcom/example/sinkwatch/sinkwatch/Condition;)Z"⟩ : MethodName) prog_1_method_2_code 2 (some .boolean) :: ws) ({ frames := 0, cells := 0, slots := 0, locals := 0 } : Room)) (fun a U => a = #[(.ref a1), (.ref a2)] ∧ Z.Warmed39 U.vm ∧ U.heap = h0) (fun _ _ _ _ _ => True) (fun _ U o U' => ∃ v L, o = .returned v ∧ Q4_8 Z a1 a2 p3 p5 h0 n0 v U'.heap L ∧ FrameEnd U o U' L ({ frames := 0, cells := 0, slots := 0, locals := 0 } : Room).cells ({ frames := 0, cells := 0, slots := 0, locals := 0 } : Room).slots) := by
  refine MetFree.of_bodySF (plainFor_of_name pn_1) hisR ?_
  intro p e s m args below meth c s₁ Bd hml0 hP hK
  obtain ⟨rfl, hZ, hh⟩ := hP
  have hx := Bd.exec
  have hby := Bd.bytes
  have hml : c.maxLocals = 2 := hml0
  have hown : s.vm.findClass "com/example/sinkwatch/sinkwatch/Condition" = some m.cls := findClass_of_methodNamed Bd.named
  have hnm := (name_of_methodNamed Bd.named Bd.method).1
  have X0 : Stand p l e ({ frames := 0, cells := 0, slots := 0, locals := 0 } : Room) s m #[(.ref a1), (.ref a2)] below meth c s₁ [] 0 0 := Stand.of_body Bd
  have e0 : s₁.heap = h0 := by rw [← hh, Bd.state]; rfl
  have N0 := Fr.nil n0
  have pre0 : ∀ t, Steps p.tables e below (s₁.setTop (mkF m 0 #[.val (.ref a1), .val (.ref a2)] [])) t → Steps p.tables e below (s₁.setTop (entryFrame m #[(.ref a1), (.ref a2)] 2)) t := fun t k => castTop (ef4_8 m a1 a2 p3 p5) k
  obtain ⟨T4, X4, e4, st4⟩ := getF X0 hx hZ hown (host := "") (Or.inl (tw_14 hw)) Via.refl e0 P1 (g := (mkF m 1 #[.val (.ref a1), .val (.ref a2)] [(.ref a1)])) rfl rfl (hb hby d4_1)
  obtain ⟨T6, X6, e6, st6⟩ := getF X4 hx hZ hown (host := "") (Or.inl (tw_14 hw)) Via.refl e4 P2 (g := (mkF m 5 #[.val (.ref a1), .val (.ref a2)] [(.ref a2), (.int p3)])) rfl rfl (hb hby d4_5)
  obtain ⟨fs, hr, hrun, hended, hW, hsame⟩ := X6.leave (v := some (.int (0 : Int32))) (fun h => by rw [Bd.returns] at h; cases h)
  refine ⟨_, _, pre0 _ ?_, hrun, hended, _, _, rfl, ?_, ⟨_, rfl⟩, hW, hsame.mono (by decide) (by decide)⟩
  · show Steps p.tables e below (s₁.setTop (mkF m 0 #[.val (.ref a1), .val (.ref a2)] [])) _
    refine XS.aloadN X0.here hx rfl (hb hby d4_0) rfl rfl ?_
    show Steps p.tables e below (s₁.setTop (mkF m 1 #[.val (.ref a1), .val (.ref a2)] [(.ref a1)])) _
    refine st4 _ ?_
    show Steps p.tables e below (T4.setTop (mkF m 4 #[.val (.ref a1), .val (.ref a2)] [(.int p3)])) _
    refine XS.aloadN X4.here hx rfl (hb hby d4_4) rfl rfl ?_
    show Steps p.tables e below (T4.setTop (mkF m 5 #[.val (.ref a1), .val (.ref a2)] [(.ref a2), (.int p3)])) _
    refine st6 _ ?_
    show Steps p.tables e below (T6.setTop (mkF m 8 #[.val (.ref a1), .val (.ref a2)] [(.int p5), (.int p3)])) _
    refine XS.icmpYes X6.here hx rfl (pc0 := 8) (pc' := 25) rfl (hb hby d4_8) rfl (feq H1).2 (by decide) (by decide) ?_
    show Steps p.tables e below (T6.setTop (mkF m 25 #[.val (.ref a1), .val (.ref a2)] [])) _
    refine XS.iconst X6.here hx rfl (hb hby d4_25) ?_
    show Steps p.tables e below (T6.setTop (mkF m 26 #[.val (.ref a1), .val (.ref a2)] [(.int (0 : Int32))])) _
    exact retN X6 hx (t := .boolean) Bd.returns (by simp) (hb hby d4_26) hr
  · show Q4_8 Z a1 a2 p3 p5 h0 n0 _ T6.heap _
    rw [e6]
    exact ⟨rfl, N0, rfl⟩
def Q4_9 (Z : State) (a1 : Addr) (a2 : Addr) (p3 : Int32) (p4 : Int32) (p5 : Int32) (p6 : Int32) (p7 : Int32) (p8 : Int32) (h0 : Heap) (n0 : Nat) (v : Option Value) (h : Heap) (L : List Loc) : Prop := v = some (.int (va5 p3 p4 p5 p6 p7 p8)) ∧ Fr n0 L ∧ h = h0
set_option maxRecDepth 65536 in
set_option maxHeartbeats 40000000 in
theorem rm4_9 (l : Launch) (Z : State) (a0 : Array Value) (hw : ∀ d ∈ tables_1, d.before a0 Z = true) (ws : List Jvm.Cond) (a1 : Addr) (a2 : Addr) (p3 : Int32) (p4 : Int32) (p5 : Int32) (p6 : Int32) (p7 : Int32) (p8 : Int32) (h0 : Heap) (n0 : Nat) (Z0 : n0 ≤ h0.size) (P1 : Fld Z h0 a1 "com/example/sinkwatch/sinkwatch/Condition" "local" "I" (.int p3)) (P2 : Fld Z h0 a2 "com/example/sinkwatch/sinkwatch/Condition" "local" "I" (.int p4)) (P3 : Fld Z h0 a1 "com/example/sinkwatch/sinkwatch/Condition" "equal" "Z" (.int p5)) (P4 : Fld Z h0 a2 "com/example/sinkwatch/sinkwatch/Condition" "equal" "Z" (.int p6)) (P5 : Fld Z h0 a1 "com/example/sinkwatch/sinkwatch/Condition" "constant" "I" (.int p7)) (P6 : Fld Z h0 a2 "com/example/sinkwatch/sinkwatch/Condition" "constant" "I" (.int p8)) :
    MetFree l (⟨"com/example/sinkwatch/sinkwatch/Condition", "contradicts", "(Lcom/example/sinkwatch/sinkwatch/Condition;)Z"⟩ : MethodName) (head1 (Jvm.Cond.code (⟨"com/example/sinkwatch/sinkwatch/Condition", "contradicts", "(Lcom/example/sinkwatch/sinkwatch/Condition;)Z"⟩ : MethodName) prog_1_method_2_code 2 (some .boolean) :: ws) ({ frames := 0, cells := 0, slots := 0, locals := 0 } : Room)) (fun a U => a = #[(.ref a1), (.ref a2)] ∧ Z.Warmed39 U.vm ∧ U.heap = h0) (fun _ _ _ _ _ => True) (fun _ U o U' => ∃ v L, o = .returned v ∧ Q4_9 Z a1 a2 p3 p4 p5 p6 p7 p8 h0 n0 v U'.heap L ∧ FrameEnd U o U' L ({ frames := 0, cells := 0, slots := 0, locals := 0 } : Room).cells ({ frames := 0, cells := 0, slots := 0, locals := 0 } : Room).slots) := by
  unfold Q4_9
  by_cases H1 : p3 = p4
  ·
    by_cases H2 : p5 = (0 : Int32)
    ·
      by_cases H3 : p6 = (0 : Int32)
      ·
        rw [show (va5 p3 p4 p5 p6 p7 p8) = (0 : Int32) from by simp only [va5, if_pos H1, if_pos H2, if_pos H3]]
        exact rm4_1 l Z a0 hw ws a1 a2 p3 p4 p5 p6 h0 n0 Z0 P1 P2 P3 P4 H1 H2 H3
      ·
        by_cases H4 : p7 = p8
        ·
          rw [show (va5 p3 p4 p5 p6 p7 p8) = (1 : Int32) from by simp only [va5, if_pos H1, if_pos H2, if_neg H3, if_pos H4]]
          exact rm4_2 l Z a0 hw ws a1 a2 p3 p4 p5 p6 p7 p8 h0 n0 Z0 P1 P2 P3 P4 P5 P6 H1 H2 H3 H4
        ·
          rw [show (va5 p3 p4 p5 p6 p7 p8) = (0 : Int32) from by simp only [va5, if_pos H1, if_pos H2, if_neg H3, if_neg H4]]
          exact rm4_3 l Z a0 hw ws a1 a2 p3 p4 p5 p6 p7 p8 h0 n0 Z0 P1 P2 P3 P4 P5 P6 H1 H2 H3 H4
    ·
      by_cases H3 : p6 = (0 : Int32)
      ·
        by_cases H4 : p7 = p8
        ·
          rw [show (va5 p3 p4 p5 p6 p7 p8) = (1 : Int32) from by simp only [va5, if_pos H1, if_neg H2, if_pos H3, if_pos H4]]
          exact rm4_4 l Z a0 hw ws a1 a2 p3 p4 p5 p6 p7 p8 h0 n0 Z0 P1 P2 P3 P4 P5 P6 H1 H2 H3 H4
        ·
          rw [show (va5 p3 p4 p5 p6 p7 p8) = (0 : Int32) from by simp only [va5, if_pos H1, if_neg H2, if_pos H3, if_neg H4]]
          exact rm4_5 l Z a0 hw ws a1 a2 p3 p4 p5 p6 p7 p8 h0 n0 Z0 P1 P2 P3 P4 P5 P6 H1 H2 H3 H4
      ·
        by_cases H4 : p7 = p8
        ·
          rw [show (va5 p3 p4 p5 p6 p7 p8) = (0 : Int32) from by simp only [va5, if_pos H1, if_neg H2, if_neg H3, if_pos H4]]
          exact rm4_6 l Z a0 hw ws a1 a2 p3 p4 p5 p6 p7 p8 h0 n0 Z0 P1 P2 P3 P4 P5 P6 H1 H2 H3 H4
        ·
          rw [show (va5 p3 p4 p5 p6 p7 p8) = (1 : Int32) from by simp only [va5, if_pos H1, if_neg H2, if_neg H3, if_neg H4]]
          exact rm4_7 l Z a0 hw ws a1 a2 p3 p4 p5 p6 p7 p8 h0 n0 Z0 P1 P2 P3 P4 P5 P6 H1 H2 H3 H4
  ·
    rw [show (va5 p3 p4 p5 p6 p7 p8) = (0 : Int32) from by simp only [va5, if_neg H1]]
    exact rm4_8 l Z a0 hw ws a1 a2 p3 p4 h0 n0 Z0 P1 P2 H1
theorem ef5_1 (m : MethodId) (p1 : Int32) (p2 : Int32) : entryFrame m #[(.int p1), (.int p2), (.int p2)] 3 = mkF m 0 #[.val (.int p1), .val (.int p2), .val (.int p2)] [] := by first | (simp [entryFrame, mkF, argsToLocals, Value.category]; done) | rfl
def Q5_1 (Z : State) (p1 : Int32) (p2 : Int32) (h0 : Heap) (n0 : Nat) (v : Option Value) (h : Heap) (L : List Loc) : Prop := v = some (.int (0 : Int32)) ∧ Fr n0 L ∧ h = h0
set_option maxRecDepth 65536 in
set_option maxHeartbeats 40000000 in
theorem rm5_1 (l : Launch) (Z : State) (a0 : Array Value) (hw : ∀ d ∈ tables_1, d.before a0 Z = true) (ws : List Jvm.Cond) (p1 : Int32) (p2 : Int32) (h0 : Heap) (n0 : Nat) (Z0 : n0 ≤ h0.size) (H1 : p1 = (0 : Int32)) :
    MetFree l (⟨"com/example/sinkwatch/sinkwatch/ConditionContradictsPinLaw", "holds", "(ZII)Z"⟩ : MethodName) (head1 (Jvm.Cond.code (⟨"com/example/sinkwatch/sinkwatch/ConditionContradictsPinLaw", "holds", "(ZII)Z"⟩ : MethodName) method_2_code 3 (some .boolean) :: ws) ({ frames := 0, cells := 0, slots := 0, locals := 0 } : Room)) (fun a U => a = #[(.int p1), (.int p2), (.int p2)] ∧ Z.Warmed39 U.vm ∧ U.heap = h0) (fun _ _ _ _ _ => True) (fun _ U o U' => ∃ v L, o = .returned v ∧ Q5_1 Z p1 p2 h0 n0 v U'.heap L ∧ FrameEnd U o U' L ({ frames := 0, cells := 0, slots := 0, locals := 0 } : Room).cells ({ frames := 0, cells := 0, slots := 0, locals := 0 } : Room).slots) := by
  refine MetFree.of_bodySF (plainFor_of_name pn_2) hisR ?_
  intro p e s m args below meth c s₁ Bd hml0 hP hK
  obtain ⟨rfl, hZ, hh⟩ := hP
  have hx := Bd.exec
  have hby := Bd.bytes
  have hml : c.maxLocals = 3 := hml0
  have hown : s.vm.findClass "com/example/sinkwatch/sinkwatch/ConditionContradictsPinLaw" = some m.cls := findClass_of_methodNamed Bd.named
  have hnm := (name_of_methodNamed Bd.named Bd.method).1
  have X0 : Stand p l e ({ frames := 0, cells := 0, slots := 0, locals := 0 } : Room) s m #[(.int p1), (.int p2), (.int p2)] below meth c s₁ [] 0 0 := Stand.of_body Bd
  have e0 : s₁.heap = h0 := by rw [← hh, Bd.state]; rfl
  have N0 := Fr.nil n0
  have pre0 : ∀ t, Steps p.tables e below (s₁.setTop (mkF m 0 #[.val (.int p1), .val (.int p2), .val (.int p2)] [])) t → Steps p.tables e below (s₁.setTop (entryFrame m #[(.int p1), (.int p2), (.int p2)] 3)) t := fun t k => castTop (ef5_1 m p1 p2) k
  obtain ⟨fs, hr, hrun, hended, hW, hsame⟩ := X0.leave (v := some (.int (0 : Int32))) (fun h => by rw [Bd.returns] at h; cases h)
  refine ⟨_, _, pre0 _ ?_, hrun, hended, _, _, rfl, ?_, ⟨_, rfl⟩, hW, hsame.mono (by decide) (by decide)⟩
  · show Steps p.tables e below (s₁.setTop (mkF m 0 #[.val (.int p1), .val (.int p2), .val (.int p2)] [])) _
    refine XS.iloadN X0.here hx rfl (hb hby d5_0) rfl ?_
    show Steps p.tables e below (s₁.setTop (mkF m 1 #[.val (.int p1), .val (.int p2), .val (.int p2)] [(.int p1)])) _
    refine XS.ifYes X0.here hx rfl (pc0 := 1) (pc' := 17) rfl (hb hby d5_1) rfl ((if0 _ _).trans (teq H1).1) (by decide) (by decide) ?_
    show Steps p.tables e below (s₁.setTop (mkF m 17 #[.val (.int p1), .val (.int p2), .val (.int p2)] [])) _
    refine XS.iloadN X0.here hx rfl (hb hby d5_17) rfl ?_
    show Steps p.tables e below (s₁.setTop (mkF m 18 #[.val (.int p1), .val (.int p2), .val (.int p2)] [(.int p2)])) _
    refine XS.iloadN X0.here hx rfl (hb hby d5_18) rfl ?_
    show Steps p.tables e below (s₁.setTop (mkF m 19 #[.val (.int p1), .val (.int p2), .val (.int p2)] [(.int p2), (.int p2)])) _
    refine XS.icmpYes X0.here hx rfl (pc0 := 19) (pc' := 26) rfl (hb hby d5_19) rfl (teq (rfl : p2 = p2)).1 (by decide) (by decide) ?_
    show Steps p.tables e below (s₁.setTop (mkF m 26 #[.val (.int p1), .val (.int p2), .val (.int p2)] [])) _
    refine XS.iconst X0.here hx rfl (hb hby d5_26) ?_
    show Steps p.tables e below (s₁.setTop (mkF m 27 #[.val (.int p1), .val (.int p2), .val (.int p2)] [(.int (0 : Int32))])) _
    exact retN X0 hx (t := .boolean) Bd.returns (by simp) (hb hby d5_27) hr
  · show Q5_1 Z p1 p2 h0 n0 _ s₁.heap _
    rw [e0]
    exact ⟨rfl, N0, rfl⟩
theorem ef5_2 (m : MethodId) (p1 : Int32) (p2 : Int32) : entryFrame m #[(.int p1), (.int p2), (.int p2)] 3 = mkF m 0 #[.val (.int p1), .val (.int p2), .val (.int p2)] [] := by first | (simp [entryFrame, mkF, argsToLocals, Value.category]; done) | rfl
def Q5_2 (Z : State) (p1 : Int32) (p2 : Int32) (h0 : Heap) (n0 : Nat) (v : Option Value) (h : Heap) (L : List Loc) : Prop := v = some (.int (1 : Int32)) ∧ Fr n0 L ∧ h = h0
set_option maxRecDepth 65536 in
set_option maxHeartbeats 40000000 in
theorem rm5_2 (l : Launch) (Z : State) (a0 : Array Value) (hw : ∀ d ∈ tables_1, d.before a0 Z = true) (ws : List Jvm.Cond) (p1 : Int32) (p2 : Int32) (h0 : Heap) (n0 : Nat) (Z0 : n0 ≤ h0.size) (H1 : ¬ (p1 = (0 : Int32))) :
    MetFree l (⟨"com/example/sinkwatch/sinkwatch/ConditionContradictsPinLaw", "holds", "(ZII)Z"⟩ : MethodName) (head1 (Jvm.Cond.code (⟨"com/example/sinkwatch/sinkwatch/ConditionContradictsPinLaw", "holds", "(ZII)Z"⟩ : MethodName) method_2_code 3 (some .boolean) :: ws) ({ frames := 0, cells := 0, slots := 0, locals := 0 } : Room)) (fun a U => a = #[(.int p1), (.int p2), (.int p2)] ∧ Z.Warmed39 U.vm ∧ U.heap = h0) (fun _ _ _ _ _ => True) (fun _ U o U' => ∃ v L, o = .returned v ∧ Q5_2 Z p1 p2 h0 n0 v U'.heap L ∧ FrameEnd U o U' L ({ frames := 0, cells := 0, slots := 0, locals := 0 } : Room).cells ({ frames := 0, cells := 0, slots := 0, locals := 0 } : Room).slots) := by
  refine MetFree.of_bodySF (plainFor_of_name pn_2) hisR ?_
  intro p e s m args below meth c s₁ Bd hml0 hP hK
  obtain ⟨rfl, hZ, hh⟩ := hP
  have hx := Bd.exec
  have hby := Bd.bytes
  have hml : c.maxLocals = 3 := hml0
  have hown : s.vm.findClass "com/example/sinkwatch/sinkwatch/ConditionContradictsPinLaw" = some m.cls := findClass_of_methodNamed Bd.named
  have hnm := (name_of_methodNamed Bd.named Bd.method).1
  have X0 : Stand p l e ({ frames := 0, cells := 0, slots := 0, locals := 0 } : Room) s m #[(.int p1), (.int p2), (.int p2)] below meth c s₁ [] 0 0 := Stand.of_body Bd
  have e0 : s₁.heap = h0 := by rw [← hh, Bd.state]; rfl
  have N0 := Fr.nil n0
  have pre0 : ∀ t, Steps p.tables e below (s₁.setTop (mkF m 0 #[.val (.int p1), .val (.int p2), .val (.int p2)] [])) t → Steps p.tables e below (s₁.setTop (entryFrame m #[(.int p1), (.int p2), (.int p2)] 3)) t := fun t k => castTop (ef5_2 m p1 p2) k
  obtain ⟨fs, hr, hrun, hended, hW, hsame⟩ := X0.leave (v := some (.int (1 : Int32))) (fun h => by rw [Bd.returns] at h; cases h)
  refine ⟨_, _, pre0 _ ?_, hrun, hended, _, _, rfl, ?_, ⟨_, rfl⟩, hW, hsame.mono (by decide) (by decide)⟩
  · show Steps p.tables e below (s₁.setTop (mkF m 0 #[.val (.int p1), .val (.int p2), .val (.int p2)] [])) _
    refine XS.iloadN X0.here hx rfl (hb hby d5_0) rfl ?_
    show Steps p.tables e below (s₁.setTop (mkF m 1 #[.val (.int p1), .val (.int p2), .val (.int p2)] [(.int p1)])) _
    refine XS.ifNo X0.here hx rfl (hb hby d5_1) rfl ((if0 _ _).trans (feq H1).1) ?_
    show Steps p.tables e below (s₁.setTop (mkF m 4 #[.val (.int p1), .val (.int p2), .val (.int p2)] [])) _
    refine XS.iloadN X0.here hx rfl (hb hby d5_4) rfl ?_
    show Steps p.tables e below (s₁.setTop (mkF m 5 #[.val (.int p1), .val (.int p2), .val (.int p2)] [(.int p2)])) _
    refine XS.iloadN X0.here hx rfl (hb hby d5_5) rfl ?_
    show Steps p.tables e below (s₁.setTop (mkF m 6 #[.val (.int p1), .val (.int p2), .val (.int p2)] [(.int p2), (.int p2)])) _
    refine XS.icmpNo X0.here hx rfl (hb hby d5_6) rfl (teq (rfl : p2 = p2)).2 ?_
    show Steps p.tables e below (s₁.setTop (mkF m 9 #[.val (.int p1), .val (.int p2), .val (.int p2)] [])) _
    refine XS.iconst X0.here hx rfl (hb hby d5_9) ?_
    show Steps p.tables e below (s₁.setTop (mkF m 10 #[.val (.int p1), .val (.int p2), .val (.int p2)] [(.int (1 : Int32))])) _
    refine XS.goto X0.here hx rfl (pc0 := 10) (pc' := 27) rfl (hb hby d5_10) (by decide) (by decide) ?_
    show Steps p.tables e below (s₁.setTop (mkF m 27 #[.val (.int p1), .val (.int p2), .val (.int p2)] [(.int (1 : Int32))])) _
    exact retN X0 hx (t := .boolean) Bd.returns (by simp) (hb hby d5_27) hr
  · show Q5_2 Z p1 p2 h0 n0 _ s₁.heap _
    rw [e0]
    exact ⟨rfl, N0, rfl⟩
def Q5_3 (Z : State) (p1 : Int32) (p2 : Int32) (h0 : Heap) (n0 : Nat) (v : Option Value) (h : Heap) (L : List Loc) : Prop := v = some (.int (va7 p1)) ∧ Fr n0 L ∧ h = h0
set_option maxRecDepth 65536 in
set_option maxHeartbeats 40000000 in
theorem rm5_3 (l : Launch) (Z : State) (a0 : Array Value) (hw : ∀ d ∈ tables_1, d.before a0 Z = true) (ws : List Jvm.Cond) (p1 : Int32) (p2 : Int32) (h0 : Heap) (n0 : Nat) (Z0 : n0 ≤ h0.size) :
    MetFree l (⟨"com/example/sinkwatch/sinkwatch/ConditionContradictsPinLaw", "holds", "(ZII)Z"⟩ : MethodName) (head1 (Jvm.Cond.code (⟨"com/example/sinkwatch/sinkwatch/ConditionContradictsPinLaw", "holds", "(ZII)Z"⟩ : MethodName) method_2_code 3 (some .boolean) :: ws) ({ frames := 0, cells := 0, slots := 0, locals := 0 } : Room)) (fun a U => a = #[(.int p1), (.int p2), (.int p2)] ∧ Z.Warmed39 U.vm ∧ U.heap = h0) (fun _ _ _ _ _ => True) (fun _ U o U' => ∃ v L, o = .returned v ∧ Q5_3 Z p1 p2 h0 n0 v U'.heap L ∧ FrameEnd U o U' L ({ frames := 0, cells := 0, slots := 0, locals := 0 } : Room).cells ({ frames := 0, cells := 0, slots := 0, locals := 0 } : Room).slots) := by
  unfold Q5_3
  by_cases H1 : p1 = (0 : Int32)
  ·
    rw [show (va7 p1) = (0 : Int32) from by simp only [va7, if_pos H1]]
    exact rm5_1 l Z a0 hw ws p1 p2 h0 n0 Z0 H1
  ·
    rw [show (va7 p1) = (1 : Int32) from by simp only [va7, if_neg H1]]
    exact rm5_2 l Z a0 hw ws p1 p2 h0 n0 Z0 H1
theorem ef5_4 (m : MethodId) (p1 : Int32) (p2 : Int32) (p3 : Int32) : entryFrame m #[(.int p1), (.int p2), (.int p3)] 3 = mkF m 0 #[.val (.int p1), .val (.int p2), .val (.int p3)] [] := by first | (simp [entryFrame, mkF, argsToLocals, Value.category]; done) | rfl
def Q5_4 (Z : State) (p1 : Int32) (p2 : Int32) (p3 : Int32) (h0 : Heap) (n0 : Nat) (v : Option Value) (h : Heap) (L : List Loc) : Prop := v = some (.int (0 : Int32)) ∧ Fr n0 L ∧ h = h0
set_option maxRecDepth 65536 in
set_option maxHeartbeats 40000000 in
theorem rm5_4 (l : Launch) (Z : State) (a0 : Array Value) (hw : ∀ d ∈ tables_1, d.before a0 Z = true) (ws : List Jvm.Cond) (p1 : Int32) (p2 : Int32) (p3 : Int32) (h0 : Heap) (n0 : Nat) (Z0 : n0 ≤ h0.size) (P1 : p1 = (0 : Int32)) (H1 : p3 = p2) :
    MetFree l (⟨"com/example/sinkwatch/sinkwatch/ConditionContradictsPinLaw", "holds", "(ZII)Z"⟩ : MethodName) (head1 (Jvm.Cond.code (⟨"com/example/sinkwatch/sinkwatch/ConditionContradictsPinLaw", "holds", "(ZII)Z"⟩ : MethodName) method_2_code 3 (some .boolean) :: ws) ({ frames := 0, cells := 0, slots := 0, locals := 0 } : Room)) (fun a U => a = #[(.int p1), (.int p2), (.int p3)] ∧ Z.Warmed39 U.vm ∧ U.heap = h0) (fun _ _ _ _ _ => True) (fun _ U o U' => ∃ v L, o = .returned v ∧ Q5_4 Z p1 p2 p3 h0 n0 v U'.heap L ∧ FrameEnd U o U' L ({ frames := 0, cells := 0, slots := 0, locals := 0 } : Room).cells ({ frames := 0, cells := 0, slots := 0, locals := 0 } : Room).slots) := by
  refine MetFree.of_bodySF (plainFor_of_name pn_2) hisR ?_
  intro p e s m args below meth c s₁ Bd hml0 hP hK
  obtain ⟨rfl, hZ, hh⟩ := hP
  have hx := Bd.exec
  have hby := Bd.bytes
  have hml : c.maxLocals = 3 := hml0
  have hown : s.vm.findClass "com/example/sinkwatch/sinkwatch/ConditionContradictsPinLaw" = some m.cls := findClass_of_methodNamed Bd.named
  have hnm := (name_of_methodNamed Bd.named Bd.method).1
  have X0 : Stand p l e ({ frames := 0, cells := 0, slots := 0, locals := 0 } : Room) s m #[(.int p1), (.int p2), (.int p3)] below meth c s₁ [] 0 0 := Stand.of_body Bd
  have e0 : s₁.heap = h0 := by rw [← hh, Bd.state]; rfl
  have N0 := Fr.nil n0
  have pre0 : ∀ t, Steps p.tables e below (s₁.setTop (mkF m 0 #[.val (.int p1), .val (.int p2), .val (.int p3)] [])) t → Steps p.tables e below (s₁.setTop (entryFrame m #[(.int p1), (.int p2), (.int p3)] 3)) t := fun t k => castTop (ef5_4 m p1 p2 p3) k
  obtain ⟨fs, hr, hrun, hended, hW, hsame⟩ := X0.leave (v := some (.int (0 : Int32))) (fun h => by rw [Bd.returns] at h; cases h)
  refine ⟨_, _, pre0 _ ?_, hrun, hended, _, _, rfl, ?_, ⟨_, rfl⟩, hW, hsame.mono (by decide) (by decide)⟩
  · show Steps p.tables e below (s₁.setTop (mkF m 0 #[.val (.int p1), .val (.int p2), .val (.int p3)] [])) _
    refine XS.iloadN X0.here hx rfl (hb hby d5_0) rfl ?_
    show Steps p.tables e below (s₁.setTop (mkF m 1 #[.val (.int p1), .val (.int p2), .val (.int p3)] [(.int p1)])) _
    refine XS.ifYes X0.here hx rfl (pc0 := 1) (pc' := 17) rfl (hb hby d5_1) rfl ((if0 _ _).trans (teq P1).1) (by decide) (by decide) ?_
    show Steps p.tables e below (s₁.setTop (mkF m 17 #[.val (.int p1), .val (.int p2), .val (.int p3)] [])) _
    refine XS.iloadN X0.here hx rfl (hb hby d5_17) rfl ?_
    show Steps p.tables e below (s₁.setTop (mkF m 18 #[.val (.int p1), .val (.int p2), .val (.int p3)] [(.int p3)])) _
    refine XS.iloadN X0.here hx rfl (hb hby d5_18) rfl ?_
    show Steps p.tables e below (s₁.setTop (mkF m 19 #[.val (.int p1), .val (.int p2), .val (.int p3)] [(.int p2), (.int p3)])) _
    refine XS.icmpYes X0.here hx rfl (pc0 := 19) (pc' := 26) rfl (hb hby d5_19) rfl (teq H1).1 (by decide) (by decide) ?_
    show Steps p.tables e below (s₁.setTop (mkF m 26 #[.val (.int p1), .val (.int p2), .val (.int p3)] [])) _
    refine XS.iconst X0.here hx rfl (hb hby d5_26) ?_
    show Steps p.tables e below (s₁.setTop (mkF m 27 #[.val (.int p1), .val (.int p2), .val (.int p3)] [(.int (0 : Int32))])) _
    exact retN X0 hx (t := .boolean) Bd.returns (by simp) (hb hby d5_27) hr
  · show Q5_4 Z p1 p2 p3 h0 n0 _ s₁.heap _
    rw [e0]
    exact ⟨rfl, N0, rfl⟩
theorem ef5_5 (m : MethodId) (p1 : Int32) (p2 : Int32) (p3 : Int32) : entryFrame m #[(.int p1), (.int p2), (.int p3)] 3 = mkF m 0 #[.val (.int p1), .val (.int p2), .val (.int p3)] [] := by first | (simp [entryFrame, mkF, argsToLocals, Value.category]; done) | rfl
def Q5_5 (Z : State) (p1 : Int32) (p2 : Int32) (p3 : Int32) (h0 : Heap) (n0 : Nat) (v : Option Value) (h : Heap) (L : List Loc) : Prop := v = some (.int (1 : Int32)) ∧ Fr n0 L ∧ h = h0
set_option maxRecDepth 65536 in
set_option maxHeartbeats 40000000 in
theorem rm5_5 (l : Launch) (Z : State) (a0 : Array Value) (hw : ∀ d ∈ tables_1, d.before a0 Z = true) (ws : List Jvm.Cond) (p1 : Int32) (p2 : Int32) (p3 : Int32) (h0 : Heap) (n0 : Nat) (Z0 : n0 ≤ h0.size) (P1 : p1 = (0 : Int32)) (H1 : ¬ (p3 = p2)) :
    MetFree l (⟨"com/example/sinkwatch/sinkwatch/ConditionContradictsPinLaw", "holds", "(ZII)Z"⟩ : MethodName) (head1 (Jvm.Cond.code (⟨"com/example/sinkwatch/sinkwatch/ConditionContradictsPinLaw", "holds", "(ZII)Z"⟩ : MethodName) method_2_code 3 (some .boolean) :: ws) ({ frames := 0, cells := 0, slots := 0, locals := 0 } : Room)) (fun a U => a = #[(.int p1), (.int p2), (.int p3)] ∧ Z.Warmed39 U.vm ∧ U.heap = h0) (fun _ _ _ _ _ => True) (fun _ U o U' => ∃ v L, o = .returned v ∧ Q5_5 Z p1 p2 p3 h0 n0 v U'.heap L ∧ FrameEnd U o U' L ({ frames := 0, cells := 0, slots := 0, locals := 0 } : Room).cells ({ frames := 0, cells := 0, slots := 0, locals := 0 } : Room).slots) := by
  refine MetFree.of_bodySF (plainFor_of_name pn_2) hisR ?_
  intro p e s m args below meth c s₁ Bd hml0 hP hK
  obtain ⟨rfl, hZ, hh⟩ := hP
  have hx := Bd.exec
  have hby := Bd.bytes
  have hml : c.maxLocals = 3 := hml0
  have hown : s.vm.findClass "com/example/sinkwatch/sinkwatch/ConditionContradictsPinLaw" = some m.cls := findClass_of_methodNamed Bd.named
  have hnm := (name_of_methodNamed Bd.named Bd.method).1
  have X0 : Stand p l e ({ frames := 0, cells := 0, slots := 0, locals := 0 } : Room) s m #[(.int p1), (.int p2), (.int p3)] below meth c s₁ [] 0 0 := Stand.of_body Bd
  have e0 : s₁.heap = h0 := by rw [← hh, Bd.state]; rfl
  have N0 := Fr.nil n0
  have pre0 : ∀ t, Steps p.tables e below (s₁.setTop (mkF m 0 #[.val (.int p1), .val (.int p2), .val (.int p3)] [])) t → Steps p.tables e below (s₁.setTop (entryFrame m #[(.int p1), (.int p2), (.int p3)] 3)) t := fun t k => castTop (ef5_5 m p1 p2 p3) k
  obtain ⟨fs, hr, hrun, hended, hW, hsame⟩ := X0.leave (v := some (.int (1 : Int32))) (fun h => by rw [Bd.returns] at h; cases h)
  refine ⟨_, _, pre0 _ ?_, hrun, hended, _, _, rfl, ?_, ⟨_, rfl⟩, hW, hsame.mono (by decide) (by decide)⟩
  · show Steps p.tables e below (s₁.setTop (mkF m 0 #[.val (.int p1), .val (.int p2), .val (.int p3)] [])) _
    refine XS.iloadN X0.here hx rfl (hb hby d5_0) rfl ?_
    show Steps p.tables e below (s₁.setTop (mkF m 1 #[.val (.int p1), .val (.int p2), .val (.int p3)] [(.int p1)])) _
    refine XS.ifYes X0.here hx rfl (pc0 := 1) (pc' := 17) rfl (hb hby d5_1) rfl ((if0 _ _).trans (teq P1).1) (by decide) (by decide) ?_
    show Steps p.tables e below (s₁.setTop (mkF m 17 #[.val (.int p1), .val (.int p2), .val (.int p3)] [])) _
    refine XS.iloadN X0.here hx rfl (hb hby d5_17) rfl ?_
    show Steps p.tables e below (s₁.setTop (mkF m 18 #[.val (.int p1), .val (.int p2), .val (.int p3)] [(.int p3)])) _
    refine XS.iloadN X0.here hx rfl (hb hby d5_18) rfl ?_
    show Steps p.tables e below (s₁.setTop (mkF m 19 #[.val (.int p1), .val (.int p2), .val (.int p3)] [(.int p2), (.int p3)])) _
    refine XS.icmpNo X0.here hx rfl (hb hby d5_19) rfl (feq H1).1 ?_
    show Steps p.tables e below (s₁.setTop (mkF m 22 #[.val (.int p1), .val (.int p2), .val (.int p3)] [])) _
    refine XS.iconst X0.here hx rfl (hb hby d5_22) ?_
    show Steps p.tables e below (s₁.setTop (mkF m 23 #[.val (.int p1), .val (.int p2), .val (.int p3)] [(.int (1 : Int32))])) _
    refine XS.goto X0.here hx rfl (pc0 := 23) (pc' := 27) rfl (hb hby d5_23) (by decide) (by decide) ?_
    show Steps p.tables e below (s₁.setTop (mkF m 27 #[.val (.int p1), .val (.int p2), .val (.int p3)] [(.int (1 : Int32))])) _
    exact retN X0 hx (t := .boolean) Bd.returns (by simp) (hb hby d5_27) hr
  · show Q5_5 Z p1 p2 p3 h0 n0 _ s₁.heap _
    rw [e0]
    exact ⟨rfl, N0, rfl⟩
def Q5_6 (Z : State) (p1 : Int32) (p2 : Int32) (p3 : Int32) (h0 : Heap) (n0 : Nat) (v : Option Value) (h : Heap) (L : List Loc) : Prop := v = some (.int (va8 p3 p2)) ∧ Fr n0 L ∧ h = h0
set_option maxRecDepth 65536 in
set_option maxHeartbeats 40000000 in
theorem rm5_6 (l : Launch) (Z : State) (a0 : Array Value) (hw : ∀ d ∈ tables_1, d.before a0 Z = true) (ws : List Jvm.Cond) (p1 : Int32) (p2 : Int32) (p3 : Int32) (h0 : Heap) (n0 : Nat) (Z0 : n0 ≤ h0.size) (P1 : p1 = (0 : Int32)) :
    MetFree l (⟨"com/example/sinkwatch/sinkwatch/ConditionContradictsPinLaw", "holds", "(ZII)Z"⟩ : MethodName) (head1 (Jvm.Cond.code (⟨"com/example/sinkwatch/sinkwatch/ConditionContradictsPinLaw", "holds", "(ZII)Z"⟩ : MethodName) method_2_code 3 (some .boolean) :: ws) ({ frames := 0, cells := 0, slots := 0, locals := 0 } : Room)) (fun a U => a = #[(.int p1), (.int p2), (.int p3)] ∧ Z.Warmed39 U.vm ∧ U.heap = h0) (fun _ _ _ _ _ => True) (fun _ U o U' => ∃ v L, o = .returned v ∧ Q5_6 Z p1 p2 p3 h0 n0 v U'.heap L ∧ FrameEnd U o U' L ({ frames := 0, cells := 0, slots := 0, locals := 0 } : Room).cells ({ frames := 0, cells := 0, slots := 0, locals := 0 } : Room).slots) := by
  unfold Q5_6
  by_cases H1 : p3 = p2
  ·
    rw [show (va8 p3 p2) = (0 : Int32) from by simp only [va8, if_pos H1]]
    exact rm5_4 l Z a0 hw ws p1 p2 p3 h0 n0 Z0 P1 H1
  ·
    rw [show (va8 p3 p2) = (1 : Int32) from by simp only [va8, if_neg H1]]
    exact rm5_5 l Z a0 hw ws p1 p2 p3 h0 n0 Z0 P1 H1
theorem ef5_7 (m : MethodId) (p1 : Int32) (p2 : Int32) (p3 : Int32) : entryFrame m #[(.int p1), (.int p2), (.int p3)] 3 = mkF m 0 #[.val (.int p1), .val (.int p2), .val (.int p3)] [] := by first | (simp [entryFrame, mkF, argsToLocals, Value.category]; done) | rfl
def Q5_7 (Z : State) (p1 : Int32) (p2 : Int32) (p3 : Int32) (h0 : Heap) (n0 : Nat) (v : Option Value) (h : Heap) (L : List Loc) : Prop := v = some (.int (1 : Int32)) ∧ Fr n0 L ∧ h = h0
set_option maxRecDepth 65536 in
set_option maxHeartbeats 40000000 in
theorem rm5_7 (l : Launch) (Z : State) (a0 : Array Value) (hw : ∀ d ∈ tables_1, d.before a0 Z = true) (ws : List Jvm.Cond) (p1 : Int32) (p2 : Int32) (p3 : Int32) (h0 : Heap) (n0 : Nat) (Z0 : n0 ≤ h0.size) (P1 : p1 = (0 : Int32)) (P2 : ¬ (p3 = p2)) :
    MetFree l (⟨"com/example/sinkwatch/sinkwatch/ConditionContradictsPinLaw", "holds", "(ZII)Z"⟩ : MethodName) (head1 (Jvm.Cond.code (⟨"com/example/sinkwatch/sinkwatch/ConditionContradictsPinLaw", "holds", "(ZII)Z"⟩ : MethodName) method_2_code 3 (some .boolean) :: ws) ({ frames := 0, cells := 0, slots := 0, locals := 0 } : Room)) (fun a U => a = #[(.int p1), (.int p2), (.int p3)] ∧ Z.Warmed39 U.vm ∧ U.heap = h0) (fun _ _ _ _ _ => True) (fun _ U o U' => ∃ v L, o = .returned v ∧ Q5_7 Z p1 p2 p3 h0 n0 v U'.heap L ∧ FrameEnd U o U' L ({ frames := 0, cells := 0, slots := 0, locals := 0 } : Room).cells ({ frames := 0, cells := 0, slots := 0, locals := 0 } : Room).slots) := by
  refine MetFree.of_bodySF (plainFor_of_name pn_2) hisR ?_
  intro p e s m args below meth c s₁ Bd hml0 hP hK
  obtain ⟨rfl, hZ, hh⟩ := hP
  have hx := Bd.exec
  have hby := Bd.bytes
  have hml : c.maxLocals = 3 := hml0
  have hown : s.vm.findClass "com/example/sinkwatch/sinkwatch/ConditionContradictsPinLaw" = some m.cls := findClass_of_methodNamed Bd.named
  have hnm := (name_of_methodNamed Bd.named Bd.method).1
  have X0 : Stand p l e ({ frames := 0, cells := 0, slots := 0, locals := 0 } : Room) s m #[(.int p1), (.int p2), (.int p3)] below meth c s₁ [] 0 0 := Stand.of_body Bd
  have e0 : s₁.heap = h0 := by rw [← hh, Bd.state]; rfl
  have N0 := Fr.nil n0
  have pre0 : ∀ t, Steps p.tables e below (s₁.setTop (mkF m 0 #[.val (.int p1), .val (.int p2), .val (.int p3)] [])) t → Steps p.tables e below (s₁.setTop (entryFrame m #[(.int p1), (.int p2), (.int p3)] 3)) t := fun t k => castTop (ef5_7 m p1 p2 p3) k
  obtain ⟨fs, hr, hrun, hended, hW, hsame⟩ := X0.leave (v := some (.int (1 : Int32))) (fun h => by rw [Bd.returns] at h; cases h)
  refine ⟨_, _, pre0 _ ?_, hrun, hended, _, _, rfl, ?_, ⟨_, rfl⟩, hW, hsame.mono (by decide) (by decide)⟩
  · show Steps p.tables e below (s₁.setTop (mkF m 0 #[.val (.int p1), .val (.int p2), .val (.int p3)] [])) _
    refine XS.iloadN X0.here hx rfl (hb hby d5_0) rfl ?_
    show Steps p.tables e below (s₁.setTop (mkF m 1 #[.val (.int p1), .val (.int p2), .val (.int p3)] [(.int p1)])) _
    refine XS.ifYes X0.here hx rfl (pc0 := 1) (pc' := 17) rfl (hb hby d5_1) rfl ((if0 _ _).trans (teq P1).1) (by decide) (by decide) ?_
    show Steps p.tables e below (s₁.setTop (mkF m 17 #[.val (.int p1), .val (.int p2), .val (.int p3)] [])) _
    refine XS.iloadN X0.here hx rfl (hb hby d5_17) rfl ?_
    show Steps p.tables e below (s₁.setTop (mkF m 18 #[.val (.int p1), .val (.int p2), .val (.int p3)] [(.int p3)])) _
    refine XS.iloadN X0.here hx rfl (hb hby d5_18) rfl ?_
    show Steps p.tables e below (s₁.setTop (mkF m 19 #[.val (.int p1), .val (.int p2), .val (.int p3)] [(.int p2), (.int p3)])) _
    refine XS.icmpNo X0.here hx rfl (hb hby d5_19) rfl (feq P2).1 ?_
    show Steps p.tables e below (s₁.setTop (mkF m 22 #[.val (.int p1), .val (.int p2), .val (.int p3)] [])) _
    refine XS.iconst X0.here hx rfl (hb hby d5_22) ?_
    show Steps p.tables e below (s₁.setTop (mkF m 23 #[.val (.int p1), .val (.int p2), .val (.int p3)] [(.int (1 : Int32))])) _
    refine XS.goto X0.here hx rfl (pc0 := 23) (pc' := 27) rfl (hb hby d5_23) (by decide) (by decide) ?_
    show Steps p.tables e below (s₁.setTop (mkF m 27 #[.val (.int p1), .val (.int p2), .val (.int p3)] [(.int (1 : Int32))])) _
    exact retN X0 hx (t := .boolean) Bd.returns (by simp) (hb hby d5_27) hr
  · show Q5_7 Z p1 p2 p3 h0 n0 _ s₁.heap _
    rw [e0]
    exact ⟨rfl, N0, rfl⟩
theorem ef5_8 (m : MethodId) (p1 : Int32) (p2 : Int32) (p3 : Int32) : entryFrame m #[(.int p1), (.int p2), (.int p3)] 3 = mkF m 0 #[.val (.int p1), .val (.int p2), .val (.int p3)] [] := by first | (simp [entryFrame, mkF, argsToLocals, Value.category]; done) | rfl
def Q5_8 (Z : State) (p1 : Int32) (p2 : Int32) (p3 : Int32) (h0 : Heap) (n0 : Nat) (v : Option Value) (h : Heap) (L : List Loc) : Prop := v = some (.int (1 : Int32)) ∧ Fr n0 L ∧ h = h0
set_option maxRecDepth 65536 in
set_option maxHeartbeats 40000000 in
theorem rm5_8 (l : Launch) (Z : State) (a0 : Array Value) (hw : ∀ d ∈ tables_1, d.before a0 Z = true) (ws : List Jvm.Cond) (p1 : Int32) (p2 : Int32) (p3 : Int32) (h0 : Heap) (n0 : Nat) (Z0 : n0 ≤ h0.size) (P1 : ¬ (p3 = p2)) (H1 : p1 = (0 : Int32)) :
    MetFree l (⟨"com/example/sinkwatch/sinkwatch/ConditionContradictsPinLaw", "holds", "(ZII)Z"⟩ : MethodName) (head1 (Jvm.Cond.code (⟨"com/example/sinkwatch/sinkwatch/ConditionContradictsPinLaw", "holds", "(ZII)Z"⟩ : MethodName) method_2_code 3 (some .boolean) :: ws) ({ frames := 0, cells := 0, slots := 0, locals := 0 } : Room)) (fun a U => a = #[(.int p1), (.int p2), (.int p3)] ∧ Z.Warmed39 U.vm ∧ U.heap = h0) (fun _ _ _ _ _ => True) (fun _ U o U' => ∃ v L, o = .returned v ∧ Q5_8 Z p1 p2 p3 h0 n0 v U'.heap L ∧ FrameEnd U o U' L ({ frames := 0, cells := 0, slots := 0, locals := 0 } : Room).cells ({ frames := 0, cells := 0, slots := 0, locals := 0 } : Room).slots) := by
  refine MetFree.of_bodySF (plainFor_of_name pn_2) hisR ?_
  intro p e s m args below meth c s₁ Bd hml0 hP hK
  obtain ⟨rfl, hZ, hh⟩ := hP
  have hx := Bd.exec
  have hby := Bd.bytes
  have hml : c.maxLocals = 3 := hml0
  have hown : s.vm.findClass "com/example/sinkwatch/sinkwatch/ConditionContradictsPinLaw" = some m.cls := findClass_of_methodNamed Bd.named
  have hnm := (name_of_methodNamed Bd.named Bd.method).1
  have X0 : Stand p l e ({ frames := 0, cells := 0, slots := 0, locals := 0 } : Room) s m #[(.int p1), (.int p2), (.int p3)] below meth c s₁ [] 0 0 := Stand.of_body Bd
  have e0 : s₁.heap = h0 := by rw [← hh, Bd.state]; rfl
  have N0 := Fr.nil n0
  have pre0 : ∀ t, Steps p.tables e below (s₁.setTop (mkF m 0 #[.val (.int p1), .val (.int p2), .val (.int p3)] [])) t → Steps p.tables e below (s₁.setTop (entryFrame m #[(.int p1), (.int p2), (.int p3)] 3)) t := fun t k => castTop (ef5_8 m p1 p2 p3) k
  obtain ⟨fs, hr, hrun, hended, hW, hsame⟩ := X0.leave (v := some (.int (1 : Int32))) (fun h => by rw [Bd.returns] at h; cases h)
  refine ⟨_, _, pre0 _ ?_, hrun, hended, _, _, rfl, ?_, ⟨_, rfl⟩, hW, hsame.mono (by decide) (by decide)⟩
  · show Steps p.tables e below (s₁.setTop (mkF m 0 #[.val (.int p1), .val (.int p2), .val (.int p3)] [])) _
    refine XS.iloadN X0.here hx rfl (hb hby d5_0) rfl ?_
    show Steps p.tables e below (s₁.setTop (mkF m 1 #[.val (.int p1), .val (.int p2), .val (.int p3)] [(.int p1)])) _
    refine XS.ifYes X0.here hx rfl (pc0 := 1) (pc' := 17) rfl (hb hby d5_1) rfl ((if0 _ _).trans (teq H1).1) (by decide) (by decide) ?_
    show Steps p.tables e below (s₁.setTop (mkF m 17 #[.val (.int p1), .val (.int p2), .val (.int p3)] [])) _
    refine XS.iloadN X0.here hx rfl (hb hby d5_17) rfl ?_
    show Steps p.tables e below (s₁.setTop (mkF m 18 #[.val (.int p1), .val (.int p2), .val (.int p3)] [(.int p3)])) _
    refine XS.iloadN X0.here hx rfl (hb hby d5_18) rfl ?_
    show Steps p.tables e below (s₁.setTop (mkF m 19 #[.val (.int p1), .val (.int p2), .val (.int p3)] [(.int p2), (.int p3)])) _
    refine XS.icmpNo X0.here hx rfl (hb hby d5_19) rfl (feq P1).1 ?_
    show Steps p.tables e below (s₁.setTop (mkF m 22 #[.val (.int p1), .val (.int p2), .val (.int p3)] [])) _
    refine XS.iconst X0.here hx rfl (hb hby d5_22) ?_
    show Steps p.tables e below (s₁.setTop (mkF m 23 #[.val (.int p1), .val (.int p2), .val (.int p3)] [(.int (1 : Int32))])) _
    refine XS.goto X0.here hx rfl (pc0 := 23) (pc' := 27) rfl (hb hby d5_23) (by decide) (by decide) ?_
    show Steps p.tables e below (s₁.setTop (mkF m 27 #[.val (.int p1), .val (.int p2), .val (.int p3)] [(.int (1 : Int32))])) _
    exact retN X0 hx (t := .boolean) Bd.returns (by simp) (hb hby d5_27) hr
  · show Q5_8 Z p1 p2 p3 h0 n0 _ s₁.heap _
    rw [e0]
    exact ⟨rfl, N0, rfl⟩
theorem ef5_9 (m : MethodId) (p1 : Int32) (p2 : Int32) (p3 : Int32) : entryFrame m #[(.int p1), (.int p2), (.int p3)] 3 = mkF m 0 #[.val (.int p1), .val (.int p2), .val (.int p3)] [] := by first | (simp [entryFrame, mkF, argsToLocals, Value.category]; done) | rfl
def Q5_9 (Z : State) (p1 : Int32) (p2 : Int32) (p3 : Int32) (h0 : Heap) (n0 : Nat) (v : Option Value) (h : Heap) (L : List Loc) : Prop := v = some (.int (0 : Int32)) ∧ Fr n0 L ∧ h = h0
set_option maxRecDepth 65536 in
set_option maxHeartbeats 40000000 in
theorem rm5_9 (l : Launch) (Z : State) (a0 : Array Value) (hw : ∀ d ∈ tables_1, d.before a0 Z = true) (ws : List Jvm.Cond) (p1 : Int32) (p2 : Int32) (p3 : Int32) (h0 : Heap) (n0 : Nat) (Z0 : n0 ≤ h0.size) (P1 : ¬ (p3 = p2)) (H1 : ¬ (p1 = (0 : Int32))) :
    MetFree l (⟨"com/example/sinkwatch/sinkwatch/ConditionContradictsPinLaw", "holds", "(ZII)Z"⟩ : MethodName) (head1 (Jvm.Cond.code (⟨"com/example/sinkwatch/sinkwatch/ConditionContradictsPinLaw", "holds", "(ZII)Z"⟩ : MethodName) method_2_code 3 (some .boolean) :: ws) ({ frames := 0, cells := 0, slots := 0, locals := 0 } : Room)) (fun a U => a = #[(.int p1), (.int p2), (.int p3)] ∧ Z.Warmed39 U.vm ∧ U.heap = h0) (fun _ _ _ _ _ => True) (fun _ U o U' => ∃ v L, o = .returned v ∧ Q5_9 Z p1 p2 p3 h0 n0 v U'.heap L ∧ FrameEnd U o U' L ({ frames := 0, cells := 0, slots := 0, locals := 0 } : Room).cells ({ frames := 0, cells := 0, slots := 0, locals := 0 } : Room).slots) := by
  refine MetFree.of_bodySF (plainFor_of_name pn_2) hisR ?_
  intro p e s m args below meth c s₁ Bd hml0 hP hK
  obtain ⟨rfl, hZ, hh⟩ := hP
  have hx := Bd.exec
  have hby := Bd.bytes
  have hml : c.maxLocals = 3 := hml0
  have hown : s.vm.findClass "com/example/sinkwatch/sinkwatch/ConditionContradictsPinLaw" = some m.cls := findClass_of_methodNamed Bd.named
  have hnm := (name_of_methodNamed Bd.named Bd.method).1
  have X0 : Stand p l e ({ frames := 0, cells := 0, slots := 0, locals := 0 } : Room) s m #[(.int p1), (.int p2), (.int p3)] below meth c s₁ [] 0 0 := Stand.of_body Bd
  have e0 : s₁.heap = h0 := by rw [← hh, Bd.state]; rfl
  have N0 := Fr.nil n0
  have pre0 : ∀ t, Steps p.tables e below (s₁.setTop (mkF m 0 #[.val (.int p1), .val (.int p2), .val (.int p3)] [])) t → Steps p.tables e below (s₁.setTop (entryFrame m #[(.int p1), (.int p2), (.int p3)] 3)) t := fun t k => castTop (ef5_9 m p1 p2 p3) k
  obtain ⟨fs, hr, hrun, hended, hW, hsame⟩ := X0.leave (v := some (.int (0 : Int32))) (fun h => by rw [Bd.returns] at h; cases h)
  refine ⟨_, _, pre0 _ ?_, hrun, hended, _, _, rfl, ?_, ⟨_, rfl⟩, hW, hsame.mono (by decide) (by decide)⟩
  · show Steps p.tables e below (s₁.setTop (mkF m 0 #[.val (.int p1), .val (.int p2), .val (.int p3)] [])) _
    refine XS.iloadN X0.here hx rfl (hb hby d5_0) rfl ?_
    show Steps p.tables e below (s₁.setTop (mkF m 1 #[.val (.int p1), .val (.int p2), .val (.int p3)] [(.int p1)])) _
    refine XS.ifNo X0.here hx rfl (hb hby d5_1) rfl ((if0 _ _).trans (feq H1).1) ?_
    show Steps p.tables e below (s₁.setTop (mkF m 4 #[.val (.int p1), .val (.int p2), .val (.int p3)] [])) _
    refine XS.iloadN X0.here hx rfl (hb hby d5_4) rfl ?_
    show Steps p.tables e below (s₁.setTop (mkF m 5 #[.val (.int p1), .val (.int p2), .val (.int p3)] [(.int p3)])) _
    refine XS.iloadN X0.here hx rfl (hb hby d5_5) rfl ?_
    show Steps p.tables e below (s₁.setTop (mkF m 6 #[.val (.int p1), .val (.int p2), .val (.int p3)] [(.int p2), (.int p3)])) _
    refine XS.icmpYes X0.here hx rfl (pc0 := 6) (pc' := 13) rfl (hb hby d5_6) rfl (feq P1).2 (by decide) (by decide) ?_
    show Steps p.tables e below (s₁.setTop (mkF m 13 #[.val (.int p1), .val (.int p2), .val (.int p3)] [])) _
    refine XS.iconst X0.here hx rfl (hb hby d5_13) ?_
    show Steps p.tables e below (s₁.setTop (mkF m 14 #[.val (.int p1), .val (.int p2), .val (.int p3)] [(.int (0 : Int32))])) _
    refine XS.goto X0.here hx rfl (pc0 := 14) (pc' := 27) rfl (hb hby d5_14) (by decide) (by decide) ?_
    show Steps p.tables e below (s₁.setTop (mkF m 27 #[.val (.int p1), .val (.int p2), .val (.int p3)] [(.int (0 : Int32))])) _
    exact retN X0 hx (t := .boolean) Bd.returns (by simp) (hb hby d5_27) hr
  · show Q5_9 Z p1 p2 p3 h0 n0 _ s₁.heap _
    rw [e0]
    exact ⟨rfl, N0, rfl⟩
def Q5_10 (Z : State) (p1 : Int32) (p2 : Int32) (p3 : Int32) (h0 : Heap) (n0 : Nat) (v : Option Value) (h : Heap) (L : List Loc) : Prop := v = some (.int (va9 p1)) ∧ Fr n0 L ∧ h = h0
set_option maxRecDepth 65536 in
set_option maxHeartbeats 40000000 in
theorem rm5_10 (l : Launch) (Z : State) (a0 : Array Value) (hw : ∀ d ∈ tables_1, d.before a0 Z = true) (ws : List Jvm.Cond) (p1 : Int32) (p2 : Int32) (p3 : Int32) (h0 : Heap) (n0 : Nat) (Z0 : n0 ≤ h0.size) (P1 : ¬ (p3 = p2)) :
    MetFree l (⟨"com/example/sinkwatch/sinkwatch/ConditionContradictsPinLaw", "holds", "(ZII)Z"⟩ : MethodName) (head1 (Jvm.Cond.code (⟨"com/example/sinkwatch/sinkwatch/ConditionContradictsPinLaw", "holds", "(ZII)Z"⟩ : MethodName) method_2_code 3 (some .boolean) :: ws) ({ frames := 0, cells := 0, slots := 0, locals := 0 } : Room)) (fun a U => a = #[(.int p1), (.int p2), (.int p3)] ∧ Z.Warmed39 U.vm ∧ U.heap = h0) (fun _ _ _ _ _ => True) (fun _ U o U' => ∃ v L, o = .returned v ∧ Q5_10 Z p1 p2 p3 h0 n0 v U'.heap L ∧ FrameEnd U o U' L ({ frames := 0, cells := 0, slots := 0, locals := 0 } : Room).cells ({ frames := 0, cells := 0, slots := 0, locals := 0 } : Room).slots) := by
  unfold Q5_10
  by_cases H1 : p1 = (0 : Int32)
  ·
    rw [show (va9 p1) = (1 : Int32) from by simp only [va9, if_pos H1]]
    exact rm5_8 l Z a0 hw ws p1 p2 p3 h0 n0 Z0 P1 H1
  ·
    rw [show (va9 p1) = (0 : Int32) from by simp only [va9, if_neg H1]]
    exact rm5_9 l Z a0 hw ws p1 p2 p3 h0 n0 Z0 P1 H1
theorem ef5_11 (m : MethodId) (p1 : Int32) (p2 : Int32) (p3 : Int32) : entryFrame m #[(.int p1), (.int p2), (.int p3)] 3 = mkF m 0 #[.val (.int p1), .val (.int p2), .val (.int p3)] [] := by first | (simp [entryFrame, mkF, argsToLocals, Value.category]; done) | rfl
def Q5_11 (Z : State) (p1 : Int32) (p2 : Int32) (p3 : Int32) (h0 : Heap) (n0 : Nat) (v : Option Value) (h : Heap) (L : List Loc) : Prop := v = some (.int (0 : Int32)) ∧ Fr n0 L ∧ h = h0
set_option maxRecDepth 65536 in
set_option maxHeartbeats 40000000 in
theorem rm5_11 (l : Launch) (Z : State) (a0 : Array Value) (hw : ∀ d ∈ tables_1, d.before a0 Z = true) (ws : List Jvm.Cond) (p1 : Int32) (p2 : Int32) (p3 : Int32) (h0 : Heap) (n0 : Nat) (Z0 : n0 ≤ h0.size) (H1 : p1 = (0 : Int32)) (H2 : p3 = p2) :
    MetFree l (⟨"com/example/sinkwatch/sinkwatch/ConditionContradictsPinLaw", "holds", "(ZII)Z"⟩ : MethodName) (head1 (Jvm.Cond.code (⟨"com/example/sinkwatch/sinkwatch/ConditionContradictsPinLaw", "holds", "(ZII)Z"⟩ : MethodName) method_2_code 3 (some .boolean) :: ws) ({ frames := 0, cells := 0, slots := 0, locals := 0 } : Room)) (fun a U => a = #[(.int p1), (.int p2), (.int p3)] ∧ Z.Warmed39 U.vm ∧ U.heap = h0) (fun _ _ _ _ _ => True) (fun _ U o U' => ∃ v L, o = .returned v ∧ Q5_11 Z p1 p2 p3 h0 n0 v U'.heap L ∧ FrameEnd U o U' L ({ frames := 0, cells := 0, slots := 0, locals := 0 } : Room).cells ({ frames := 0, cells := 0, slots := 0, locals := 0 } : Room).slots) := by
  refine MetFree.of_bodySF (plainFor_of_name pn_2) hisR ?_
  intro p e s m args below meth c s₁ Bd hml0 hP hK
  obtain ⟨rfl, hZ, hh⟩ := hP
  have hx := Bd.exec
  have hby := Bd.bytes
  have hml : c.maxLocals = 3 := hml0
  have hown : s.vm.findClass "com/example/sinkwatch/sinkwatch/ConditionContradictsPinLaw" = some m.cls := findClass_of_methodNamed Bd.named
  have hnm := (name_of_methodNamed Bd.named Bd.method).1
  have X0 : Stand p l e ({ frames := 0, cells := 0, slots := 0, locals := 0 } : Room) s m #[(.int p1), (.int p2), (.int p3)] below meth c s₁ [] 0 0 := Stand.of_body Bd
  have e0 : s₁.heap = h0 := by rw [← hh, Bd.state]; rfl
  have N0 := Fr.nil n0
  have pre0 : ∀ t, Steps p.tables e below (s₁.setTop (mkF m 0 #[.val (.int p1), .val (.int p2), .val (.int p3)] [])) t → Steps p.tables e below (s₁.setTop (entryFrame m #[(.int p1), (.int p2), (.int p3)] 3)) t := fun t k => castTop (ef5_11 m p1 p2 p3) k
  obtain ⟨fs, hr, hrun, hended, hW, hsame⟩ := X0.leave (v := some (.int (0 : Int32))) (fun h => by rw [Bd.returns] at h; cases h)
  refine ⟨_, _, pre0 _ ?_, hrun, hended, _, _, rfl, ?_, ⟨_, rfl⟩, hW, hsame.mono (by decide) (by decide)⟩
  · show Steps p.tables e below (s₁.setTop (mkF m 0 #[.val (.int p1), .val (.int p2), .val (.int p3)] [])) _
    refine XS.iloadN X0.here hx rfl (hb hby d5_0) rfl ?_
    show Steps p.tables e below (s₁.setTop (mkF m 1 #[.val (.int p1), .val (.int p2), .val (.int p3)] [(.int p1)])) _
    refine XS.ifYes X0.here hx rfl (pc0 := 1) (pc' := 17) rfl (hb hby d5_1) rfl ((if0 _ _).trans (teq H1).1) (by decide) (by decide) ?_
    show Steps p.tables e below (s₁.setTop (mkF m 17 #[.val (.int p1), .val (.int p2), .val (.int p3)] [])) _
    refine XS.iloadN X0.here hx rfl (hb hby d5_17) rfl ?_
    show Steps p.tables e below (s₁.setTop (mkF m 18 #[.val (.int p1), .val (.int p2), .val (.int p3)] [(.int p3)])) _
    refine XS.iloadN X0.here hx rfl (hb hby d5_18) rfl ?_
    show Steps p.tables e below (s₁.setTop (mkF m 19 #[.val (.int p1), .val (.int p2), .val (.int p3)] [(.int p2), (.int p3)])) _
    refine XS.icmpYes X0.here hx rfl (pc0 := 19) (pc' := 26) rfl (hb hby d5_19) rfl (teq H2).1 (by decide) (by decide) ?_
    show Steps p.tables e below (s₁.setTop (mkF m 26 #[.val (.int p1), .val (.int p2), .val (.int p3)] [])) _
    refine XS.iconst X0.here hx rfl (hb hby d5_26) ?_
    show Steps p.tables e below (s₁.setTop (mkF m 27 #[.val (.int p1), .val (.int p2), .val (.int p3)] [(.int (0 : Int32))])) _
    exact retN X0 hx (t := .boolean) Bd.returns (by simp) (hb hby d5_27) hr
  · show Q5_11 Z p1 p2 p3 h0 n0 _ s₁.heap _
    rw [e0]
    exact ⟨rfl, N0, rfl⟩
theorem ef5_12 (m : MethodId) (p1 : Int32) (p2 : Int32) (p3 : Int32) : entryFrame m #[(.int p1), (.int p2), (.int p3)] 3 = mkF m 0 #[.val (.int p1), .val (.int p2), .val (.int p3)] [] := by first | (simp [entryFrame, mkF, argsToLocals, Value.category]; done) | rfl
def Q5_12 (Z : State) (p1 : Int32) (p2 : Int32) (p3 : Int32) (h0 : Heap) (n0 : Nat) (v : Option Value) (h : Heap) (L : List Loc) : Prop := v = some (.int (1 : Int32)) ∧ Fr n0 L ∧ h = h0
set_option maxRecDepth 65536 in
set_option maxHeartbeats 40000000 in
theorem rm5_12 (l : Launch) (Z : State) (a0 : Array Value) (hw : ∀ d ∈ tables_1, d.before a0 Z = true) (ws : List Jvm.Cond) (p1 : Int32) (p2 : Int32) (p3 : Int32) (h0 : Heap) (n0 : Nat) (Z0 : n0 ≤ h0.size) (H1 : p1 = (0 : Int32)) (H2 : ¬ (p3 = p2)) :
    MetFree l (⟨"com/example/sinkwatch/sinkwatch/ConditionContradictsPinLaw", "holds", "(ZII)Z"⟩ : MethodName) (head1 (Jvm.Cond.code (⟨"com/example/sinkwatch/sinkwatch/ConditionContradictsPinLaw", "holds", "(ZII)Z"⟩ : MethodName) method_2_code 3 (some .boolean) :: ws) ({ frames := 0, cells := 0, slots := 0, locals := 0 } : Room)) (fun a U => a = #[(.int p1), (.int p2), (.int p3)] ∧ Z.Warmed39 U.vm ∧ U.heap = h0) (fun _ _ _ _ _ => True) (fun _ U o U' => ∃ v L, o = .returned v ∧ Q5_12 Z p1 p2 p3 h0 n0 v U'.heap L ∧ FrameEnd U o U' L ({ frames := 0, cells := 0, slots := 0, locals := 0 } : Room).cells ({ frames := 0, cells := 0, slots := 0, locals := 0 } : Room).slots) := by
  refine MetFree.of_bodySF (plainFor_of_name pn_2) hisR ?_
  intro p e s m args below meth c s₁ Bd hml0 hP hK
  obtain ⟨rfl, hZ, hh⟩ := hP
  have hx := Bd.exec
  have hby := Bd.bytes
  have hml : c.maxLocals = 3 := hml0
  have hown : s.vm.findClass "com/example/sinkwatch/sinkwatch/ConditionContradictsPinLaw" = some m.cls := findClass_of_methodNamed Bd.named
  have hnm := (name_of_methodNamed Bd.named Bd.method).1
  have X0 : Stand p l e ({ frames := 0, cells := 0, slots := 0, locals := 0 } : Room) s m #[(.int p1), (.int p2), (.int p3)] below meth c s₁ [] 0 0 := Stand.of_body Bd
  have e0 : s₁.heap = h0 := by rw [← hh, Bd.state]; rfl
  have N0 := Fr.nil n0
  have pre0 : ∀ t, Steps p.tables e below (s₁.setTop (mkF m 0 #[.val (.int p1), .val (.int p2), .val (.int p3)] [])) t → Steps p.tables e below (s₁.setTop (entryFrame m #[(.int p1), (.int p2), (.int p3)] 3)) t := fun t k => castTop (ef5_12 m p1 p2 p3) k
  obtain ⟨fs, hr, hrun, hended, hW, hsame⟩ := X0.leave (v := some (.int (1 : Int32))) (fun h => by rw [Bd.returns] at h; cases h)
  refine ⟨_, _, pre0 _ ?_, hrun, hended, _, _, rfl, ?_, ⟨_, rfl⟩, hW, hsame.mono (by decide) (by decide)⟩
  · show Steps p.tables e below (s₁.setTop (mkF m 0 #[.val (.int p1), .val (.int p2), .val (.int p3)] [])) _
    refine XS.iloadN X0.here hx rfl (hb hby d5_0) rfl ?_
    show Steps p.tables e below (s₁.setTop (mkF m 1 #[.val (.int p1), .val (.int p2), .val (.int p3)] [(.int p1)])) _
    refine XS.ifYes X0.here hx rfl (pc0 := 1) (pc' := 17) rfl (hb hby d5_1) rfl ((if0 _ _).trans (teq H1).1) (by decide) (by decide) ?_
    show Steps p.tables e below (s₁.setTop (mkF m 17 #[.val (.int p1), .val (.int p2), .val (.int p3)] [])) _
    refine XS.iloadN X0.here hx rfl (hb hby d5_17) rfl ?_
    show Steps p.tables e below (s₁.setTop (mkF m 18 #[.val (.int p1), .val (.int p2), .val (.int p3)] [(.int p3)])) _
    refine XS.iloadN X0.here hx rfl (hb hby d5_18) rfl ?_
    show Steps p.tables e below (s₁.setTop (mkF m 19 #[.val (.int p1), .val (.int p2), .val (.int p3)] [(.int p2), (.int p3)])) _
    refine XS.icmpNo X0.here hx rfl (hb hby d5_19) rfl (feq H2).1 ?_
    show Steps p.tables e below (s₁.setTop (mkF m 22 #[.val (.int p1), .val (.int p2), .val (.int p3)] [])) _
    refine XS.iconst X0.here hx rfl (hb hby d5_22) ?_
    show Steps p.tables e below (s₁.setTop (mkF m 23 #[.val (.int p1), .val (.int p2), .val (.int p3)] [(.int (1 : Int32))])) _
    refine XS.goto X0.here hx rfl (pc0 := 23) (pc' := 27) rfl (hb hby d5_23) (by decide) (by decide) ?_
    show Steps p.tables e below (s₁.setTop (mkF m 27 #[.val (.int p1), .val (.int p2), .val (.int p3)] [(.int (1 : Int32))])) _
    exact retN X0 hx (t := .boolean) Bd.returns (by simp) (hb hby d5_27) hr
  · show Q5_12 Z p1 p2 p3 h0 n0 _ s₁.heap _
    rw [e0]
    exact ⟨rfl, N0, rfl⟩
theorem ef5_13 (m : MethodId) (p1 : Int32) (p2 : Int32) (p3 : Int32) : entryFrame m #[(.int p1), (.int p2), (.int p3)] 3 = mkF m 0 #[.val (.int p1), .val (.int p2), .val (.int p3)] [] := by first | (simp [entryFrame, mkF, argsToLocals, Value.category]; done) | rfl
def Q5_13 (Z : State) (p1 : Int32) (p2 : Int32) (p3 : Int32) (h0 : Heap) (n0 : Nat) (v : Option Value) (h : Heap) (L : List Loc) : Prop := v = some (.int (1 : Int32)) ∧ Fr n0 L ∧ h = h0
set_option maxRecDepth 65536 in
set_option maxHeartbeats 40000000 in
theorem rm5_13 (l : Launch) (Z : State) (a0 : Array Value) (hw : ∀ d ∈ tables_1, d.before a0 Z = true) (ws : List Jvm.Cond) (p1 : Int32) (p2 : Int32) (p3 : Int32) (h0 : Heap) (n0 : Nat) (Z0 : n0 ≤ h0.size) (H1 : ¬ (p1 = (0 : Int32))) (H2 : p3 = p2) :
    MetFree l (⟨"com/example/sinkwatch/sinkwatch/ConditionContradictsPinLaw", "holds", "(ZII)Z"⟩ : MethodName) (head1 (Jvm.Cond.code (⟨"com/example/sinkwatch/sinkwatch/ConditionContradictsPinLaw", "holds", "(ZII)Z"⟩ : MethodName) method_2_code 3 (some .boolean) :: ws) ({ frames := 0, cells := 0, slots := 0, locals := 0 } : Room)) (fun a U => a = #[(.int p1), (.int p2), (.int p3)] ∧ Z.Warmed39 U.vm ∧ U.heap = h0) (fun _ _ _ _ _ => True) (fun _ U o U' => ∃ v L, o = .returned v ∧ Q5_13 Z p1 p2 p3 h0 n0 v U'.heap L ∧ FrameEnd U o U' L ({ frames := 0, cells := 0, slots := 0, locals := 0 } : Room).cells ({ frames := 0, cells := 0, slots := 0, locals := 0 } : Room).slots) := by
  refine MetFree.of_bodySF (plainFor_of_name pn_2) hisR ?_
  intro p e s m args below meth c s₁ Bd hml0 hP hK
  obtain ⟨rfl, hZ, hh⟩ := hP
  have hx := Bd.exec
  have hby := Bd.bytes
  have hml : c.maxLocals = 3 := hml0
  have hown : s.vm.findClass "com/example/sinkwatch/sinkwatch/ConditionContradictsPinLaw" = some m.cls := findClass_of_methodNamed Bd.named
  have hnm := (name_of_methodNamed Bd.named Bd.method).1
  have X0 : Stand p l e ({ frames := 0, cells := 0, slots := 0, locals := 0 } : Room) s m #[(.int p1), (.int p2), (.int p3)] below meth c s₁ [] 0 0 := Stand.of_body Bd
  have e0 : s₁.heap = h0 := by rw [← hh, Bd.state]; rfl
  have N0 := Fr.nil n0
  have pre0 : ∀ t, Steps p.tables e below (s₁.setTop (mkF m 0 #[.val (.int p1), .val (.int p2), .val (.int p3)] [])) t → Steps p.tables e below (s₁.setTop (entryFrame m #[(.int p1), (.int p2), (.int p3)] 3)) t := fun t k => castTop (ef5_13 m p1 p2 p3) k
  obtain ⟨fs, hr, hrun, hended, hW, hsame⟩ := X0.leave (v := some (.int (1 : Int32))) (fun h => by rw [Bd.returns] at h; cases h)
  refine ⟨_, _, pre0 _ ?_, hrun, hended, _, _, rfl, ?_, ⟨_, rfl⟩, hW, hsame.mono (by decide) (by decide)⟩
  · show Steps p.tables e below (s₁.setTop (mkF m 0 #[.val (.int p1), .val (.int p2), .val (.int p3)] [])) _
    refine XS.iloadN X0.here hx rfl (hb hby d5_0) rfl ?_
    show Steps p.tables e below (s₁.setTop (mkF m 1 #[.val (.int p1), .val (.int p2), .val (.int p3)] [(.int p1)])) _
    refine XS.ifNo X0.here hx rfl (hb hby d5_1) rfl ((if0 _ _).trans (feq H1).1) ?_
    show Steps p.tables e below (s₁.setTop (mkF m 4 #[.val (.int p1), .val (.int p2), .val (.int p3)] [])) _
    refine XS.iloadN X0.here hx rfl (hb hby d5_4) rfl ?_
    show Steps p.tables e below (s₁.setTop (mkF m 5 #[.val (.int p1), .val (.int p2), .val (.int p3)] [(.int p3)])) _
    refine XS.iloadN X0.here hx rfl (hb hby d5_5) rfl ?_
    show Steps p.tables e below (s₁.setTop (mkF m 6 #[.val (.int p1), .val (.int p2), .val (.int p3)] [(.int p2), (.int p3)])) _
    refine XS.icmpNo X0.here hx rfl (hb hby d5_6) rfl (teq H2).2 ?_
    show Steps p.tables e below (s₁.setTop (mkF m 9 #[.val (.int p1), .val (.int p2), .val (.int p3)] [])) _
    refine XS.iconst X0.here hx rfl (hb hby d5_9) ?_
    show Steps p.tables e below (s₁.setTop (mkF m 10 #[.val (.int p1), .val (.int p2), .val (.int p3)] [(.int (1 : Int32))])) _
    refine XS.goto X0.here hx rfl (pc0 := 10) (pc' := 27) rfl (hb hby d5_10) (by decide) (by decide) ?_
    show Steps p.tables e below (s₁.setTop (mkF m 27 #[.val (.int p1), .val (.int p2), .val (.int p3)] [(.int (1 : Int32))])) _
    exact retN X0 hx (t := .boolean) Bd.returns (by simp) (hb hby d5_27) hr
  · show Q5_13 Z p1 p2 p3 h0 n0 _ s₁.heap _
    rw [e0]
    exact ⟨rfl, N0, rfl⟩
theorem ef5_14 (m : MethodId) (p1 : Int32) (p2 : Int32) (p3 : Int32) : entryFrame m #[(.int p1), (.int p2), (.int p3)] 3 = mkF m 0 #[.val (.int p1), .val (.int p2), .val (.int p3)] [] := by first | (simp [entryFrame, mkF, argsToLocals, Value.category]; done) | rfl
def Q5_14 (Z : State) (p1 : Int32) (p2 : Int32) (p3 : Int32) (h0 : Heap) (n0 : Nat) (v : Option Value) (h : Heap) (L : List Loc) : Prop := v = some (.int (0 : Int32)) ∧ Fr n0 L ∧ h = h0
set_option maxRecDepth 65536 in
set_option maxHeartbeats 40000000 in
theorem rm5_14 (l : Launch) (Z : State) (a0 : Array Value) (hw : ∀ d ∈ tables_1, d.before a0 Z = true) (ws : List Jvm.Cond) (p1 : Int32) (p2 : Int32) (p3 : Int32) (h0 : Heap) (n0 : Nat) (Z0 : n0 ≤ h0.size) (H1 : ¬ (p1 = (0 : Int32))) (H2 : ¬ (p3 = p2)) :
    MetFree l (⟨"com/example/sinkwatch/sinkwatch/ConditionContradictsPinLaw", "holds", "(ZII)Z"⟩ : MethodName) (head1 (Jvm.Cond.code (⟨"com/example/sinkwatch/sinkwatch/ConditionContradictsPinLaw", "holds", "(ZII)Z"⟩ : MethodName) method_2_code 3 (some .boolean) :: ws) ({ frames := 0, cells := 0, slots := 0, locals := 0 } : Room)) (fun a U => a = #[(.int p1), (.int p2), (.int p3)] ∧ Z.Warmed39 U.vm ∧ U.heap = h0) (fun _ _ _ _ _ => True) (fun _ U o U' => ∃ v L, o = .returned v ∧ Q5_14 Z p1 p2 p3 h0 n0 v U'.heap L ∧ FrameEnd U o U' L ({ frames := 0, cells := 0, slots := 0, locals := 0 } : Room).cells ({ frames := 0, cells := 0, slots := 0, locals := 0 } : Room).slots) := by
  refine MetFree.of_bodySF (plainFor_of_name pn_2) hisR ?_
  intro p e s m args below meth c s₁ Bd hml0 hP hK
  obtain ⟨rfl, hZ, hh⟩ := hP
  have hx := Bd.exec
  have hby := Bd.bytes
  have hml : c.maxLocals = 3 := hml0
  have hown : s.vm.findClass "com/example/sinkwatch/sinkwatch/ConditionContradictsPinLaw" = some m.cls := findClass_of_methodNamed Bd.named
  have hnm := (name_of_methodNamed Bd.named Bd.method).1
  have X0 : Stand p l e ({ frames := 0, cells := 0, slots := 0, locals := 0 } : Room) s m #[(.int p1), (.int p2), (.int p3)] below meth c s₁ [] 0 0 := Stand.of_body Bd
  have e0 : s₁.heap = h0 := by rw [← hh, Bd.state]; rfl
  have N0 := Fr.nil n0
  have pre0 : ∀ t, Steps p.tables e below (s₁.setTop (mkF m 0 #[.val (.int p1), .val (.int p2), .val (.int p3)] [])) t → Steps p.tables e below (s₁.setTop (entryFrame m #[(.int p1), (.int p2), (.int p3)] 3)) t := fun t k => castTop (ef5_14 m p1 p2 p3) k
  obtain ⟨fs, hr, hrun, hended, hW, hsame⟩ := X0.leave (v := some (.int (0 : Int32))) (fun h => by rw [Bd.returns] at h; cases h)
  refine ⟨_, _, pre0 _ ?_, hrun, hended, _, _, rfl, ?_, ⟨_, rfl⟩, hW, hsame.mono (by decide) (by decide)⟩
  · show Steps p.tables e below (s₁.setTop (mkF m 0 #[.val (.int p1), .val (.int p2), .val (.int p3)] [])) _
    refine XS.iloadN X0.here hx rfl (hb hby d5_0) rfl ?_
    show Steps p.tables e below (s₁.setTop (mkF m 1 #[.val (.int p1), .val (.int p2), .val (.int p3)] [(.int p1)])) _
    refine XS.ifNo X0.here hx rfl (hb hby d5_1) rfl ((if0 _ _).trans (feq H1).1) ?_
    show Steps p.tables e below (s₁.setTop (mkF m 4 #[.val (.int p1), .val (.int p2), .val (.int p3)] [])) _
    refine XS.iloadN X0.here hx rfl (hb hby d5_4) rfl ?_
    show Steps p.tables e below (s₁.setTop (mkF m 5 #[.val (.int p1), .val (.int p2), .val (.int p3)] [(.int p3)])) _
    refine XS.iloadN X0.here hx rfl (hb hby d5_5) rfl ?_
    show Steps p.tables e below (s₁.setTop (mkF m 6 #[.val (.int p1), .val (.int p2), .val (.int p3)] [(.int p2), (.int p3)])) _
    refine XS.icmpYes X0.here hx rfl (pc0 := 6) (pc' := 13) rfl (hb hby d5_6) rfl (feq H2).2 (by decide) (by decide) ?_
    show Steps p.tables e below (s₁.setTop (mkF m 13 #[.val (.int p1), .val (.int p2), .val (.int p3)] [])) _
    refine XS.iconst X0.here hx rfl (hb hby d5_13) ?_
    show Steps p.tables e below (s₁.setTop (mkF m 14 #[.val (.int p1), .val (.int p2), .val (.int p3)] [(.int (0 : Int32))])) _
    refine XS.goto X0.here hx rfl (pc0 := 14) (pc' := 27) rfl (hb hby d5_14) (by decide) (by decide) ?_
    show Steps p.tables e below (s₁.setTop (mkF m 27 #[.val (.int p1), .val (.int p2), .val (.int p3)] [(.int (0 : Int32))])) _
    exact retN X0 hx (t := .boolean) Bd.returns (by simp) (hb hby d5_27) hr
  · show Q5_14 Z p1 p2 p3 h0 n0 _ s₁.heap _
    rw [e0]
    exact ⟨rfl, N0, rfl⟩
def Q5_15 (Z : State) (p1 : Int32) (p2 : Int32) (p3 : Int32) (h0 : Heap) (n0 : Nat) (v : Option Value) (h : Heap) (L : List Loc) : Prop := v = some (.int (va14 p1 p3 p2)) ∧ Fr n0 L ∧ h = h0
set_option maxRecDepth 65536 in
set_option maxHeartbeats 40000000 in
theorem rm5_15 (l : Launch) (Z : State) (a0 : Array Value) (hw : ∀ d ∈ tables_1, d.before a0 Z = true) (ws : List Jvm.Cond) (p1 : Int32) (p2 : Int32) (p3 : Int32) (h0 : Heap) (n0 : Nat) (Z0 : n0 ≤ h0.size) :
    MetFree l (⟨"com/example/sinkwatch/sinkwatch/ConditionContradictsPinLaw", "holds", "(ZII)Z"⟩ : MethodName) (head1 (Jvm.Cond.code (⟨"com/example/sinkwatch/sinkwatch/ConditionContradictsPinLaw", "holds", "(ZII)Z"⟩ : MethodName) method_2_code 3 (some .boolean) :: ws) ({ frames := 0, cells := 0, slots := 0, locals := 0 } : Room)) (fun a U => a = #[(.int p1), (.int p2), (.int p3)] ∧ Z.Warmed39 U.vm ∧ U.heap = h0) (fun _ _ _ _ _ => True) (fun _ U o U' => ∃ v L, o = .returned v ∧ Q5_15 Z p1 p2 p3 h0 n0 v U'.heap L ∧ FrameEnd U o U' L ({ frames := 0, cells := 0, slots := 0, locals := 0 } : Room).cells ({ frames := 0, cells := 0, slots := 0, locals := 0 } : Room).slots) := by
  unfold Q5_15
  by_cases H1 : p1 = (0 : Int32)
  ·
    by_cases H2 : p3 = p2
    ·
      rw [show (va14 p1 p3 p2) = (0 : Int32) from by simp only [va14, if_pos H1, if_pos H2]]
      exact rm5_11 l Z a0 hw ws p1 p2 p3 h0 n0 Z0 H1 H2
    ·
      rw [show (va14 p1 p3 p2) = (1 : Int32) from by simp only [va14, if_pos H1, if_neg H2]]
      exact rm5_12 l Z a0 hw ws p1 p2 p3 h0 n0 Z0 H1 H2
  ·
    by_cases H2 : p3 = p2
    ·
      rw [show (va14 p1 p3 p2) = (1 : Int32) from by simp only [va14, if_neg H1, if_pos H2]]
      exact rm5_13 l Z a0 hw ws p1 p2 p3 h0 n0 Z0 H1 H2
    ·
      rw [show (va14 p1 p3 p2) = (0 : Int32) from by simp only [va14, if_neg H1, if_neg H2]]
      exact rm5_14 l Z a0 hw ws p1 p2 p3 h0 n0 Z0 H1 H2
theorem ef5_16 (m : MethodId) (p1 : Int32) (p2 : Int32) (p3 : Int32) : entryFrame m #[(.int p1), (.int p2), (.int p3)] 3 = mkF m 0 #[.val (.int p1), .val (.int p2), .val (.int p3)] [] := by first | (simp [entryFrame, mkF, argsToLocals, Value.category]; done) | rfl
def Q5_16 (Z : State) (p1 : Int32) (p2 : Int32) (p3 : Int32) (h0 : Heap) (n0 : Nat) (v : Option Value) (h : Heap) (L : List Loc) : Prop := v = some (.int (1 : Int32)) ∧ Fr n0 L ∧ h = h0
set_option maxRecDepth 65536 in
set_option maxHeartbeats 40000000 in
theorem rm5_16 (l : Launch) (Z : State) (a0 : Array Value) (hw : ∀ d ∈ tables_1, d.before a0 Z = true) (ws : List Jvm.Cond) (p1 : Int32) (p2 : Int32) (p3 : Int32) (h0 : Heap) (n0 : Nat) (Z0 : n0 ≤ h0.size) (P1 : ¬ (p1 = (0 : Int32))) (H1 : p3 = p2) :
    MetFree l (⟨"com/example/sinkwatch/sinkwatch/ConditionContradictsPinLaw", "holds", "(ZII)Z"⟩ : MethodName) (head1 (Jvm.Cond.code (⟨"com/example/sinkwatch/sinkwatch/ConditionContradictsPinLaw", "holds", "(ZII)Z"⟩ : MethodName) method_2_code 3 (some .boolean) :: ws) ({ frames := 0, cells := 0, slots := 0, locals := 0 } : Room)) (fun a U => a = #[(.int p1), (.int p2), (.int p3)] ∧ Z.Warmed39 U.vm ∧ U.heap = h0) (fun _ _ _ _ _ => True) (fun _ U o U' => ∃ v L, o = .returned v ∧ Q5_16 Z p1 p2 p3 h0 n0 v U'.heap L ∧ FrameEnd U o U' L ({ frames := 0, cells := 0, slots := 0, locals := 0 } : Room).cells ({ frames := 0, cells := 0, slots := 0, locals := 0 } : Room).slots) := by
  refine MetFree.of_bodySF (plainFor_of_name pn_2) hisR ?_
  intro p e s m args below meth c s₁ Bd hml0 hP hK
  obtain ⟨rfl, hZ, hh⟩ := hP
  have hx := Bd.exec
  have hby := Bd.bytes
  have hml : c.maxLocals = 3 := hml0
  have hown : s.vm.findClass "com/example/sinkwatch/sinkwatch/ConditionContradictsPinLaw" = some m.cls := findClass_of_methodNamed Bd.named
  have hnm := (name_of_methodNamed Bd.named Bd.method).1
  have X0 : Stand p l e ({ frames := 0, cells := 0, slots := 0, locals := 0 } : Room) s m #[(.int p1), (.int p2), (.int p3)] below meth c s₁ [] 0 0 := Stand.of_body Bd
  have e0 : s₁.heap = h0 := by rw [← hh, Bd.state]; rfl
  have N0 := Fr.nil n0
  have pre0 : ∀ t, Steps p.tables e below (s₁.setTop (mkF m 0 #[.val (.int p1), .val (.int p2), .val (.int p3)] [])) t → Steps p.tables e below (s₁.setTop (entryFrame m #[(.int p1), (.int p2), (.int p3)] 3)) t := fun t k => castTop (ef5_16 m p1 p2 p3) k
  obtain ⟨fs, hr, hrun, hended, hW, hsame⟩ := X0.leave (v := some (.int (1 : Int32))) (fun h => by rw [Bd.returns] at h; cases h)
  refine ⟨_, _, pre0 _ ?_, hrun, hended, _, _, rfl, ?_, ⟨_, rfl⟩, hW, hsame.mono (by decide) (by decide)⟩
  · show Steps p.tables e below (s₁.setTop (mkF m 0 #[.val (.int p1), .val (.int p2), .val (.int p3)] [])) _
    refine XS.iloadN X0.here hx rfl (hb hby d5_0) rfl ?_
    show Steps p.tables e below (s₁.setTop (mkF m 1 #[.val (.int p1), .val (.int p2), .val (.int p3)] [(.int p1)])) _
    refine XS.ifNo X0.here hx rfl (hb hby d5_1) rfl ((if0 _ _).trans (feq P1).1) ?_
    show Steps p.tables e below (s₁.setTop (mkF m 4 #[.val (.int p1), .val (.int p2), .val (.int p3)] [])) _
    refine XS.iloadN X0.here hx rfl (hb hby d5_4) rfl ?_
    show Steps p.tables e below (s₁.setTop (mkF m 5 #[.val (.int p1), .val (.int p2), .val (.int p3)] [(.int p3)])) _
    refine XS.iloadN X0.here hx rfl (hb hby d5_5) rfl ?_
    show Steps p.tables e below (s₁.setTop (mkF m 6 #[.val (.int p1), .val (.int p2), .val (.int p3)] [(.int p2), (.int p3)])) _
    refine XS.icmpNo X0.here hx rfl (hb hby d5_6) rfl (teq H1).2 ?_
    show Steps p.tables e below (s₁.setTop (mkF m 9 #[.val (.int p1), .val (.int p2), .val (.int p3)] [])) _
    refine XS.iconst X0.here hx rfl (hb hby d5_9) ?_
    show Steps p.tables e below (s₁.setTop (mkF m 10 #[.val (.int p1), .val (.int p2), .val (.int p3)] [(.int (1 : Int32))])) _
    refine XS.goto X0.here hx rfl (pc0 := 10) (pc' := 27) rfl (hb hby d5_10) (by decide) (by decide) ?_
    show Steps p.tables e below (s₁.setTop (mkF m 27 #[.val (.int p1), .val (.int p2), .val (.int p3)] [(.int (1 : Int32))])) _
    exact retN X0 hx (t := .boolean) Bd.returns (by simp) (hb hby d5_27) hr
  · show Q5_16 Z p1 p2 p3 h0 n0 _ s₁.heap _
    rw [e0]
    exact ⟨rfl, N0, rfl⟩
theorem ef5_17 (m : MethodId) (p1 : Int32) (p2 : Int32) (p3 : Int32) : entryFrame m #[(.int p1), (.int p2), (.int p3)] 3 = mkF m 0 #[.val (.int p1), .val (.int p2), .val (.int p3)] [] := by first | (simp [entryFrame, mkF, argsToLocals, Value.category]; done) | rfl
def Q5_17 (Z : State) (p1 : Int32) (p2 : Int32) (p3 : Int32) (h0 : Heap) (n0 : Nat) (v : Option Value) (h : Heap) (L : List Loc) : Prop := v = some (.int (0 : Int32)) ∧ Fr n0 L ∧ h = h0
set_option maxRecDepth 65536 in
set_option maxHeartbeats 40000000 in
theorem rm5_17 (l : Launch) (Z : State) (a0 : Array Value) (hw : ∀ d ∈ tables_1, d.before a0 Z = true) (ws : List Jvm.Cond) (p1 : Int32) (p2 : Int32) (p3 : Int32) (h0 : Heap) (n0 : Nat) (Z0 : n0 ≤ h0.size) (P1 : ¬ (p1 = (0 : Int32))) (H1 : ¬ (p3 = p2)) :
    MetFree l (⟨"com/example/sinkwatch/sinkwatch/ConditionContradictsPinLaw", "holds", "(ZII)Z"⟩ : MethodName) (head1 (Jvm.Cond.code (⟨"com/example/sinkwatch/sinkwatch/ConditionContradictsPinLaw", "holds", "(ZII)Z"⟩ : MethodName) method_2_code 3 (some .boolean) :: ws) ({ frames := 0, cells := 0, slots := 0, locals := 0 } : Room)) (fun a U => a = #[(.int p1), (.int p2), (.int p3)] ∧ Z.Warmed39 U.vm ∧ U.heap = h0) (fun _ _ _ _ _ => True) (fun _ U o U' => ∃ v L, o = .returned v ∧ Q5_17 Z p1 p2 p3 h0 n0 v U'.heap L ∧ FrameEnd U o U' L ({ frames := 0, cells := 0, slots := 0, locals := 0 } : Room).cells ({ frames := 0, cells := 0, slots := 0, locals := 0 } : Room).slots) := by
  refine MetFree.of_bodySF (plainFor_of_name pn_2) hisR ?_
  intro p e s m args below meth c s₁ Bd hml0 hP hK
  obtain ⟨rfl, hZ, hh⟩ := hP
  have hx := Bd.exec
  have hby := Bd.bytes
  have hml : c.maxLocals = 3 := hml0
  have hown : s.vm.findClass "com/example/sinkwatch/sinkwatch/ConditionContradictsPinLaw" = some m.cls := findClass_of_methodNamed Bd.named
  have hnm := (name_of_methodNamed Bd.named Bd.method).1
  have X0 : Stand p l e ({ frames := 0, cells := 0, slots := 0, locals := 0 } : Room) s m #[(.int p1), (.int p2), (.int p3)] below meth c s₁ [] 0 0 := Stand.of_body Bd
  have e0 : s₁.heap = h0 := by rw [← hh, Bd.state]; rfl
  have N0 := Fr.nil n0
  have pre0 : ∀ t, Steps p.tables e below (s₁.setTop (mkF m 0 #[.val (.int p1), .val (.int p2), .val (.int p3)] [])) t → Steps p.tables e below (s₁.setTop (entryFrame m #[(.int p1), (.int p2), (.int p3)] 3)) t := fun t k => castTop (ef5_17 m p1 p2 p3) k
  obtain ⟨fs, hr, hrun, hended, hW, hsame⟩ := X0.leave (v := some (.int (0 : Int32))) (fun h => by rw [Bd.returns] at h; cases h)
  refine ⟨_, _, pre0 _ ?_, hrun, hended, _, _, rfl, ?_, ⟨_, rfl⟩, hW, hsame.mono (by decide) (by decide)⟩
  · show Steps p.tables e below (s₁.setTop (mkF m 0 #[.val (.int p1), .val (.int p2), .val (.int p3)] [])) _
    refine XS.iloadN X0.here hx rfl (hb hby d5_0) rfl ?_
    show Steps p.tables e below (s₁.setTop (mkF m 1 #[.val (.int p1), .val (.int p2), .val (.int p3)] [(.int p1)])) _
    refine XS.ifNo X0.here hx rfl (hb hby d5_1) rfl ((if0 _ _).trans (feq P1).1) ?_
    show Steps p.tables e below (s₁.setTop (mkF m 4 #[.val (.int p1), .val (.int p2), .val (.int p3)] [])) _
    refine XS.iloadN X0.here hx rfl (hb hby d5_4) rfl ?_
    show Steps p.tables e below (s₁.setTop (mkF m 5 #[.val (.int p1), .val (.int p2), .val (.int p3)] [(.int p3)])) _
    refine XS.iloadN X0.here hx rfl (hb hby d5_5) rfl ?_
    show Steps p.tables e below (s₁.setTop (mkF m 6 #[.val (.int p1), .val (.int p2), .val (.int p3)] [(.int p2), (.int p3)])) _
    refine XS.icmpYes X0.here hx rfl (pc0 := 6) (pc' := 13) rfl (hb hby d5_6) rfl (feq H1).2 (by decide) (by decide) ?_
    show Steps p.tables e below (s₁.setTop (mkF m 13 #[.val (.int p1), .val (.int p2), .val (.int p3)] [])) _
    refine XS.iconst X0.here hx rfl (hb hby d5_13) ?_
    show Steps p.tables e below (s₁.setTop (mkF m 14 #[.val (.int p1), .val (.int p2), .val (.int p3)] [(.int (0 : Int32))])) _
    refine XS.goto X0.here hx rfl (pc0 := 14) (pc' := 27) rfl (hb hby d5_14) (by decide) (by decide) ?_
    show Steps p.tables e below (s₁.setTop (mkF m 27 #[.val (.int p1), .val (.int p2), .val (.int p3)] [(.int (0 : Int32))])) _
    exact retN X0 hx (t := .boolean) Bd.returns (by simp) (hb hby d5_27) hr
  · show Q5_17 Z p1 p2 p3 h0 n0 _ s₁.heap _
    rw [e0]
    exact ⟨rfl, N0, rfl⟩
def Q5_18 (Z : State) (p1 : Int32) (p2 : Int32) (p3 : Int32) (h0 : Heap) (n0 : Nat) (v : Option Value) (h : Heap) (L : List Loc) : Prop := v = some (.int (va15 p3 p2)) ∧ Fr n0 L ∧ h = h0
set_option maxRecDepth 65536 in
set_option maxHeartbeats 40000000 in
theorem rm5_18 (l : Launch) (Z : State) (a0 : Array Value) (hw : ∀ d ∈ tables_1, d.before a0 Z = true) (ws : List Jvm.Cond) (p1 : Int32) (p2 : Int32) (p3 : Int32) (h0 : Heap) (n0 : Nat) (Z0 : n0 ≤ h0.size) (P1 : ¬ (p1 = (0 : Int32))) :
    MetFree l (⟨"com/example/sinkwatch/sinkwatch/ConditionContradictsPinLaw", "holds", "(ZII)Z"⟩ : MethodName) (head1 (Jvm.Cond.code (⟨"com/example/sinkwatch/sinkwatch/ConditionContradictsPinLaw", "holds", "(ZII)Z"⟩ : MethodName) method_2_code 3 (some .boolean) :: ws) ({ frames := 0, cells := 0, slots := 0, locals := 0 } : Room)) (fun a U => a = #[(.int p1), (.int p2), (.int p3)] ∧ Z.Warmed39 U.vm ∧ U.heap = h0) (fun _ _ _ _ _ => True) (fun _ U o U' => ∃ v L, o = .returned v ∧ Q5_18 Z p1 p2 p3 h0 n0 v U'.heap L ∧ FrameEnd U o U' L ({ frames := 0, cells := 0, slots := 0, locals := 0 } : Room).cells ({ frames := 0, cells := 0, slots := 0, locals := 0 } : Room).slots) := by
  unfold Q5_18
  by_cases H1 : p3 = p2
  ·
    rw [show (va15 p3 p2) = (1 : Int32) from by simp only [va15, if_pos H1]]
    exact rm5_16 l Z a0 hw ws p1 p2 p3 h0 n0 Z0 P1 H1
  ·
    rw [show (va15 p3 p2) = (0 : Int32) from by simp only [va15, if_neg H1]]
    exact rm5_17 l Z a0 hw ws p1 p2 p3 h0 n0 Z0 P1 H1
theorem ef5_19 (m : MethodId) (p1 : Int32) (p2 : Int32) (p3 : Int32) : entryFrame m #[(.int p1), (.int p2), (.int p3)] 3 = mkF m 0 #[.val (.int p1), .val (.int p2), .val (.int p3)] [] := by first | (simp [entryFrame, mkF, argsToLocals, Value.category]; done) | rfl
def Q5_19 (Z : State) (p1 : Int32) (p2 : Int32) (p3 : Int32) (h0 : Heap) (n0 : Nat) (v : Option Value) (h : Heap) (L : List Loc) : Prop := v = some (.int (0 : Int32)) ∧ Fr n0 L ∧ h = h0
set_option maxRecDepth 65536 in
set_option maxHeartbeats 40000000 in
theorem rm5_19 (l : Launch) (Z : State) (a0 : Array Value) (hw : ∀ d ∈ tables_1, d.before a0 Z = true) (ws : List Jvm.Cond) (p1 : Int32) (p2 : Int32) (p3 : Int32) (h0 : Heap) (n0 : Nat) (Z0 : n0 ≤ h0.size) (P1 : ¬ (p1 = (0 : Int32))) (P2 : ¬ (p3 = p2)) :
    MetFree l (⟨"com/example/sinkwatch/sinkwatch/ConditionContradictsPinLaw", "holds", "(ZII)Z"⟩ : MethodName) (head1 (Jvm.Cond.code (⟨"com/example/sinkwatch/sinkwatch/ConditionContradictsPinLaw", "holds", "(ZII)Z"⟩ : MethodName) method_2_code 3 (some .boolean) :: ws) ({ frames := 0, cells := 0, slots := 0, locals := 0 } : Room)) (fun a U => a = #[(.int p1), (.int p2), (.int p3)] ∧ Z.Warmed39 U.vm ∧ U.heap = h0) (fun _ _ _ _ _ => True) (fun _ U o U' => ∃ v L, o = .returned v ∧ Q5_19 Z p1 p2 p3 h0 n0 v U'.heap L ∧ FrameEnd U o U' L ({ frames := 0, cells := 0, slots := 0, locals := 0 } : Room).cells ({ frames := 0, cells := 0, slots := 0, locals := 0 } : Room).slots) := by
  refine MetFree.of_bodySF (plainFor_of_name pn_2) hisR ?_
  intro p e s m args below meth c s₁ Bd hml0 hP hK
  obtain ⟨rfl, hZ, hh⟩ := hP
  have hx := Bd.exec
  have hby := Bd.bytes
  have hml : c.maxLocals = 3 := hml0
  have hown : s.vm.findClass "com/example/sinkwatch/sinkwatch/ConditionContradictsPinLaw" = some m.cls := findClass_of_methodNamed Bd.named
  have hnm := (name_of_methodNamed Bd.named Bd.method).1
  have X0 : Stand p l e ({ frames := 0, cells := 0, slots := 0, locals := 0 } : Room) s m #[(.int p1), (.int p2), (.int p3)] below meth c s₁ [] 0 0 := Stand.of_body Bd
  have e0 : s₁.heap = h0 := by rw [← hh, Bd.state]; rfl
  have N0 := Fr.nil n0
  have pre0 : ∀ t, Steps p.tables e below (s₁.setTop (mkF m 0 #[.val (.int p1), .val (.int p2), .val (.int p3)] [])) t → Steps p.tables e below (s₁.setTop (entryFrame m #[(.int p1), (.int p2), (.int p3)] 3)) t := fun t k => castTop (ef5_19 m p1 p2 p3) k
  obtain ⟨fs, hr, hrun, hended, hW, hsame⟩ := X0.leave (v := some (.int (0 : Int32))) (fun h => by rw [Bd.returns] at h; cases h)
  refine ⟨_, _, pre0 _ ?_, hrun, hended, _, _, rfl, ?_, ⟨_, rfl⟩, hW, hsame.mono (by decide) (by decide)⟩
  · show Steps p.tables e below (s₁.setTop (mkF m 0 #[.val (.int p1), .val (.int p2), .val (.int p3)] [])) _
    refine XS.iloadN X0.here hx rfl (hb hby d5_0) rfl ?_
    show Steps p.tables e below (s₁.setTop (mkF m 1 #[.val (.int p1), .val (.int p2), .val (.int p3)] [(.int p1)])) _
    refine XS.ifNo X0.here hx rfl (hb hby d5_1) rfl ((if0 _ _).trans (feq P1).1) ?_
    show Steps p.tables e below (s₁.setTop (mkF m 4 #[.val (.int p1), .val (.int p2), .val (.int p3)] [])) _
    refine XS.iloadN X0.here hx rfl (hb hby d5_4) rfl ?_
    show Steps p.tables e below (s₁.setTop (mkF m 5 #[.val (.int p1), .val (.int p2), .val (.int p3)] [(.int p3)])) _
    refine XS.iloadN X0.here hx rfl (hb hby d5_5) rfl ?_
    show Steps p.tables e below (s₁.setTop (mkF m 6 #[.val (.int p1), .val (.int p2), .val (.int p3)] [(.int p2), (.int p3)])) _
    refine XS.icmpYes X0.here hx rfl (pc0 := 6) (pc' := 13) rfl (hb hby d5_6) rfl (feq P2).2 (by decide) (by decide) ?_
    show Steps p.tables e below (s₁.setTop (mkF m 13 #[.val (.int p1), .val (.int p2), .val (.int p3)] [])) _
    refine XS.iconst X0.here hx rfl (hb hby d5_13) ?_
    show Steps p.tables e below (s₁.setTop (mkF m 14 #[.val (.int p1), .val (.int p2), .val (.int p3)] [(.int (0 : Int32))])) _
    refine XS.goto X0.here hx rfl (pc0 := 14) (pc' := 27) rfl (hb hby d5_14) (by decide) (by decide) ?_
    show Steps p.tables e below (s₁.setTop (mkF m 27 #[.val (.int p1), .val (.int p2), .val (.int p3)] [(.int (0 : Int32))])) _
    exact retN X0 hx (t := .boolean) Bd.returns (by simp) (hb hby d5_27) hr
  · show Q5_19 Z p1 p2 p3 h0 n0 _ s₁.heap _
    rw [e0]
    exact ⟨rfl, N0, rfl⟩
theorem ef5_20 (m : MethodId) (p1 : Int32) (p2 : Int32) : entryFrame m #[(.int p1), (.int p2), (.int p2)] 3 = mkF m 0 #[.val (.int p1), .val (.int p2), .val (.int p2)] [] := by first | (simp [entryFrame, mkF, argsToLocals, Value.category]; done) | rfl
def Q5_20 (Z : State) (p1 : Int32) (p2 : Int32) (h0 : Heap) (n0 : Nat) (v : Option Value) (h : Heap) (L : List Loc) : Prop := v = some (.int (0 : Int32)) ∧ Fr n0 L ∧ h = h0
set_option maxRecDepth 65536 in
set_option maxHeartbeats 40000000 in
theorem rm5_20 (l : Launch) (Z : State) (a0 : Array Value) (hw : ∀ d ∈ tables_1, d.before a0 Z = true) (ws : List Jvm.Cond) (p1 : Int32) (p2 : Int32) (h0 : Heap) (n0 : Nat) (Z0 : n0 ≤ h0.size) (P1 : p1 = (0 : Int32)) :
    MetFree l (⟨"com/example/sinkwatch/sinkwatch/ConditionContradictsPinLaw", "holds", "(ZII)Z"⟩ : MethodName) (head1 (Jvm.Cond.code (⟨"com/example/sinkwatch/sinkwatch/ConditionContradictsPinLaw", "holds", "(ZII)Z"⟩ : MethodName) method_2_code 3 (some .boolean) :: ws) ({ frames := 0, cells := 0, slots := 0, locals := 0 } : Room)) (fun a U => a = #[(.int p1), (.int p2), (.int p2)] ∧ Z.Warmed39 U.vm ∧ U.heap = h0) (fun _ _ _ _ _ => True) (fun _ U o U' => ∃ v L, o = .returned v ∧ Q5_20 Z p1 p2 h0 n0 v U'.heap L ∧ FrameEnd U o U' L ({ frames := 0, cells := 0, slots := 0, locals := 0 } : Room).cells ({ frames := 0, cells := 0, slots := 0, locals := 0 } : Room).slots) := by
  refine MetFree.of_bodySF (plainFor_of_name pn_2) hisR ?_
  intro p e s m args below meth c s₁ Bd hml0 hP hK
  obtain ⟨rfl, hZ, hh⟩ := hP
  have hx := Bd.exec
  have hby := Bd.bytes
  have hml : c.maxLocals = 3 := hml0
  have hown : s.vm.findClass "com/example/sinkwatch/sinkwatch/ConditionContradictsPinLaw" = some m.cls := findClass_of_methodNamed Bd.named
  have hnm := (name_of_methodNamed Bd.named Bd.method).1
  have X0 : Stand p l e ({ frames := 0, cells := 0, slots := 0, locals := 0 } : Room) s m #[(.int p1), (.int p2), (.int p2)] below meth c s₁ [] 0 0 := Stand.of_body Bd
  have e0 : s₁.heap = h0 := by rw [← hh, Bd.state]; rfl
  have N0 := Fr.nil n0
  have pre0 : ∀ t, Steps p.tables e below (s₁.setTop (mkF m 0 #[.val (.int p1), .val (.int p2), .val (.int p2)] [])) t → Steps p.tables e below (s₁.setTop (entryFrame m #[(.int p1), (.int p2), (.int p2)] 3)) t := fun t k => castTop (ef5_20 m p1 p2) k
  obtain ⟨fs, hr, hrun, hended, hW, hsame⟩ := X0.leave (v := some (.int (0 : Int32))) (fun h => by rw [Bd.returns] at h; cases h)
  refine ⟨_, _, pre0 _ ?_, hrun, hended, _, _, rfl, ?_, ⟨_, rfl⟩, hW, hsame.mono (by decide) (by decide)⟩
  · show Steps p.tables e below (s₁.setTop (mkF m 0 #[.val (.int p1), .val (.int p2), .val (.int p2)] [])) _
    refine XS.iloadN X0.here hx rfl (hb hby d5_0) rfl ?_
    show Steps p.tables e below (s₁.setTop (mkF m 1 #[.val (.int p1), .val (.int p2), .val (.int p2)] [(.int p1)])) _
    refine XS.ifYes X0.here hx rfl (pc0 := 1) (pc' := 17) rfl (hb hby d5_1) rfl ((if0 _ _).trans (teq P1).1) (by decide) (by decide) ?_
    show Steps p.tables e below (s₁.setTop (mkF m 17 #[.val (.int p1), .val (.int p2), .val (.int p2)] [])) _
    refine XS.iloadN X0.here hx rfl (hb hby d5_17) rfl ?_
    show Steps p.tables e below (s₁.setTop (mkF m 18 #[.val (.int p1), .val (.int p2), .val (.int p2)] [(.int p2)])) _
    refine XS.iloadN X0.here hx rfl (hb hby d5_18) rfl ?_
    show Steps p.tables e below (s₁.setTop (mkF m 19 #[.val (.int p1), .val (.int p2), .val (.int p2)] [(.int p2), (.int p2)])) _
    refine XS.icmpYes X0.here hx rfl (pc0 := 19) (pc' := 26) rfl (hb hby d5_19) rfl (teq (rfl : p2 = p2)).1 (by decide) (by decide) ?_
    show Steps p.tables e below (s₁.setTop (mkF m 26 #[.val (.int p1), .val (.int p2), .val (.int p2)] [])) _
    refine XS.iconst X0.here hx rfl (hb hby d5_26) ?_
    show Steps p.tables e below (s₁.setTop (mkF m 27 #[.val (.int p1), .val (.int p2), .val (.int p2)] [(.int (0 : Int32))])) _
    exact retN X0 hx (t := .boolean) Bd.returns (by simp) (hb hby d5_27) hr
  · show Q5_20 Z p1 p2 h0 n0 _ s₁.heap _
    rw [e0]
    exact ⟨rfl, N0, rfl⟩
theorem ef0 (m : MethodId) (p1 : Int32) (p2 : Int32) (p3 : Int32) (p4 : Int32) (p5 : Int32) : entryFrame m #[(.int p1), (.int p2), (.int p3), (.int p4), (.int p5)] maxLocals = mkF m 0 #[.val (.int p1), .val (.int p2), .val (.int p3), .val (.int p4), .val (.int p5), .unset, .unset, .unset, .unset, .unset, .unset, .unset, .unset, .unset, .unset] [] := by first | (simp [entryFrame, mkF, argsToLocals, Value.category, maxLocals]; done) | rfl
def Q0 (h0 : Heap) (n0 : Nat) (v : Option Value) (h : Heap) (L : List Loc) : Prop := v = some (.int (1 : Int32)) ∧ Fr n0 L
set_option maxRecDepth 65536 in
set_option maxHeartbeats 40000000 in
theorem rm0_0 (l : Launch) (Z : State) (a0 : Array Value) (hw : ∀ d ∈ tables_1, d.before a0 Z = true) (ws : List Jvm.Cond) (p1 : Int32) (p2 : Int32) (p3 : Int32) (p4 : Int32) (p5 : Int32) (h0 : Heap) (n0 : Nat) (Z0 : n0 ≤ h0.size) (H1 : (va7 (va1 p5)) = (0 : Int32)) (H2 : (va1 p5) = (0 : Int32)) (H3 : (va8 (va4 p5 p4 p3) p3) = (0 : Int32)) (H4 : ¬ ((va6 p3 p5 p4) = p3)) (H5 : ¬ ((va6 p3 p5 p4) = (va4 p5 p4 p3))) (H6 : (nar .boolean (va12 p1 p5 p2 p3 p4)) = (1 : Int32)) :
    MetFree l x (head1 (Jvm.Cond.code x code maxLocals ret :: ws) room_1) (fun a U => a = #[(.int p1), (.int p2), (.int p3), (.int p4), (.int p5)] ∧ Z.Warmed39 U.vm ∧ U.heap = h0) (fun _ _ _ _ _ => True) (fun _ U o U' => ∃ v L, o = .returned v ∧ Q0 h0 n0 v U'.heap L ∧ FrameEnd U o U' L 16 128) := by
  refine MetFree.of_bodySF (plainFor_of_name pn_2) hisR ?_
  intro p e s m args below meth c s₁ Bd hml0 hP hK
  obtain ⟨rfl, hZ, hh⟩ := hP
  have hx := Bd.exec
  have hby := Bd.bytes
  have hml : c.maxLocals = 15 := hml0
  have hown : s.vm.findClass "com/example/sinkwatch/sinkwatch/ConditionContradictsPinLaw" = some m.cls := findClass_of_methodNamed Bd.named
  have hnm := (name_of_methodNamed Bd.named Bd.method).1
  have X0 : Stand p l e room_1 s m #[(.int p1), (.int p2), (.int p3), (.int p4), (.int p5)] below meth c s₁ [] 0 0 := Stand.of_body Bd
  have e0 : s₁.heap = h0 := by rw [← hh, Bd.state]; rfl
  have N0 := Fr.nil n0
  have pre0 : ∀ t, Steps p.tables e below (s₁.setTop (mkF m 0 #[.val (.int p1), .val (.int p2), .val (.int p3), .val (.int p4), .val (.int p5), .unset, .unset, .unset, .unset, .unset, .unset, .unset, .unset, .unset, .unset] [])) t → Steps p.tables e below (s₁.setTop (entryFrame m #[(.int p1), (.int p2), (.int p3), (.int p4), (.int p5)] maxLocals)) t := fun t k => castTop (ef0 m p1 p2 p3 p4 p5) k
  obtain ⟨T10, h10, X10, e10, E10, A10, D10, -, st10⟩ := newO X0 hx hZ hown (tw_0 hw) (tw_1 hw) (tw_2 hw) e0 (g := (mkF m 57 (LL5 p1 p2 p3 p4 p5) [])) rfl (hb hby at_57) (by decide) (by decide)
  obtain ⟨b11, g10⟩ : ∃ z, z = h0.size := ⟨_, rfl⟩
  rw [← g10] at A10 D10 st10
  have q10 : n0 ≤ b11 := Nat.le_trans Z0 (Nat.le_of_eq g10.symm)
  have z10 : h0.size ≤ b11 := Nat.le_trans (Nat.le_refl h0.size) (Nat.le_of_eq g10.symm)
  have F12 : Fld Z h10 b11 "com/example/sinkwatch/sinkwatch/Condition" "local" "I" (.int (0 : Int32)) := D10 (Or.inr (tw_15 hw)) (ty := .int) (by decide)
  have F13 : Fld Z h10 b11 "com/example/sinkwatch/sinkwatch/Condition" "equal" "Z" (.int (0 : Int32)) := D10 (Or.inr (tw_17 hw)) (ty := .boolean) (by decide)
  have F14 : Fld Z h10 b11 "com/example/sinkwatch/sinkwatch/Condition" "constant" "I" (.int (0 : Int32)) := D10 (Or.inr (tw_19 hw)) (ty := .int) (by decide)
  obtain ⟨_, _, ⟨T15, L15, k15, n15⟩, -, X15, ⟨Lc15, hQ15, l15, y15, z15⟩, st15⟩ := X10.specialBack hx (y := (⟨"com/example/sinkwatch/sinkwatch/Condition", "<init>", "(IZI)V"⟩ : MethodName)) rfl hown (mvT hZ (tw_3 hw)) (mvT hZ (tw_4 hw)) (mvT hZ (tw_5 hw)) (by decide) (backOf (W := 1) (rm1_1 l Z a0 hw [] b11 p1 (va1 p5) p3 h10 n0 (Nat.le_trans Z0 E10.1) F12 A10 q10 F13 F14) hZ (tw_5 hw) (tw_2 hw) (by decide) (by decide)) (g := (mkF m 65 (LL5 p1 p2 p3 p4 p5) [(.int p3), (.int (va1 p5)), (.int p1), (.ref b11), (.ref b11)])) rfl (by rw [hml]; rfl) (Steps.refl _) (a := b11) (argsL := [(.int p1), (.int (va1 p5)), (.int p3)]) (rest := [(.ref b11)]) (lenOf pd_1 rfl) rfl (by show 2 * 0 + _ ≤ _; exact Nat.le_of_eq rfl) (hb hby at_65) (fun _ _ => ⟨rfl, e10, (by decide : 1 + 0 ≤ _), (by decide : 3 + 0 ≤ _)⟩)
  dsimp only [Pt.U, Pt.locs, Pt.cells, Pt.slots] at X15 l15 y15 z15 st15 hQ15
  subst l15 y15 z15
  obtain ⟨rfl, N15q, K15, f15_0, f15_1, f15_2⟩ := hQ15
  have N15 := Fr.app N0 N15q
  obtain ⟨T16, h16, X16, e16, E16, A16, D16, -, st16⟩ := newO X15 hx hZ hown (tw_0 hw) (tw_1 hw) (tw_2 hw) rfl (g := (mkF m 70 (LL6 p1 p2 p3 p4 p5 b11) [])) rfl (hb hby at_70) (by decide) (by decide)
  obtain ⟨b17, g16⟩ : ∃ z, z = T15.heap.size := ⟨_, rfl⟩
  rw [← g16] at A16 D16 st16
  have F18 := (Nat.le_trans (Nat.le_trans (Nat.le_refl h0.size) E10.1) K15.1)
  have q16 : n0 ≤ b17 := Nat.le_trans (Nat.le_trans (Nat.le_trans Z0 E10.1) K15.1) (Nat.le_of_eq g16.symm)
  have z16 : h0.size ≤ b17 := Nat.le_trans F18 (Nat.le_of_eq g16.symm)
  have F19 : Fld Z h16 b17 "com/example/sinkwatch/sinkwatch/Condition" "local" "I" (.int (0 : Int32)) := D16 (Or.inr (tw_15 hw)) (ty := .int) (by decide)
  have F20 : Fld Z h16 b17 "com/example/sinkwatch/sinkwatch/Condition" "equal" "Z" (.int (0 : Int32)) := D16 (Or.inr (tw_17 hw)) (ty := .boolean) (by decide)
  have F21 : Fld Z h16 b17 "com/example/sinkwatch/sinkwatch/Condition" "constant" "I" (.int (0 : Int32)) := D16 (Or.inr (tw_19 hw)) (ty := .int) (by decide)
  have F23 := (Nat.le_trans (Nat.le_trans (Nat.le_trans Z0 E10.1) K15.1) E16.1)
  obtain ⟨_, _, ⟨T22, L22, k22, n22⟩, -, X22, ⟨Lc22, hQ22, l22, y22, z22⟩, st22⟩ := X16.specialBack hx (y := (⟨"com/example/sinkwatch/sinkwatch/Condition", "<init>", "(IZI)V"⟩ : MethodName)) rfl hown (mvT hZ (tw_3 hw)) (mvT hZ (tw_4 hw)) (mvT hZ (tw_5 hw)) (by decide) (backOf (W := 1) (rm1_1 l Z a0 hw [] b17 (va3 p5 p2 p1) (va2 p5) (va4 p5 p4 p3) h16 n0 F23 F19 A16 q16 F20 F21) hZ (tw_5 hw) (tw_2 hw) (by decide) (by decide)) (g := (mkF m 80 (LL6 p1 p2 p3 p4 p5 b11) [(.int (va4 p5 p4 p3)), (.int (va2 p5)), (.int (va3 p5 p2 p1)), (.ref b17), (.ref b17)])) rfl (by rw [hml]; rfl) (Steps.refl _) (a := b17) (argsL := [(.int (va3 p5 p2 p1)), (.int (va2 p5)), (.int (va4 p5 p4 p3))]) (rest := [(.ref b17)]) (lenOf pd_1 rfl) rfl (by show 2 * 0 + _ ≤ _; exact Nat.le_of_eq rfl) (hb hby at_80) (fun _ _ => ⟨rfl, e16, (by decide : 2 + 0 ≤ _), (by decide : 6 + 0 ≤ _)⟩)
  dsimp only [Pt.U, Pt.locs, Pt.cells, Pt.slots] at X22 l22 y22 z22 st22 hQ22
  subst l22 y22 z22
  obtain ⟨rfl, N22q, K22, f22_0, f22_1, f22_2⟩ := hQ22
  have N22 := Fr.app N15 N22q
  have F24 := (Fld.keep (Fld.ext E16 f15_2) K22 (ninS (Nat.ne_of_lt (Nat.lt_of_lt_of_le f15_0.lt (Nat.le_of_eq g16.symm))) nin0))
  have F25 := (Fld.keep (Fld.ext E16 f15_1) K22 (ninS (Nat.ne_of_lt (Nat.lt_of_lt_of_le f15_0.lt (Nat.le_of_eq g16.symm))) nin0))
  have F26 := (Fld.keep (Fld.ext E16 f15_0) K22 (ninS (Nat.ne_of_lt (Nat.lt_of_lt_of_le f15_0.lt (Nat.le_of_eq g16.symm))) nin0))
  have F28 := (Nat.le_trans (Nat.le_trans (Nat.le_trans (Nat.le_trans Z0 E10.1) K15.1) E16.1) K22.1)
  have F29 := (Exa.keep (Exa.ext E16 (Exa.keep A10 K15)) K22)
  obtain ⟨cq27, kq27, q27a, q27b, q27c⟩ := isOf hZ rfl F29
  obtain ⟨_, _, ⟨T27, L27, k27, n27⟩, -, X27, ⟨Lc27, hQ27, l27, y27, z27⟩, st27⟩ := X22.virtualBack hx (y := (⟨"com/example/sinkwatch/sinkwatch/Condition", "contradicts", "(Lcom/example/sinkwatch/sinkwatch/Condition;)Z"⟩ : MethodName)) (z := (⟨"com/example/sinkwatch/sinkwatch/Condition", "contradicts", "(Lcom/example/sinkwatch/sinkwatch/Condition;)Z"⟩ : MethodName)) hown (mvT hZ (tw_20 hw)) (mvT hZ (tw_21 hw)) (notFace_of_selects (args := #[]) (mvT hZ (tw_23 hw))) (mvT hZ (tw_23 hw)) (mvT hZ (tw_22 hw)) (by decide) (backOf (W := 0) (rm4_9 l Z a0 hw [] b11 b17 p1 (va3 p5 p2 p1) (nar .boolean (va1 p5)) (nar .boolean (va2 p5)) p3 (va4 p5 p4 p3) T22.heap n0 F28 F24 f22_2 F25 f22_1 F26 f22_0) hZ (tw_24 hw) (tw_2 hw) (by decide) (by decide)) q27a q27c (g := (mkF m 89 (LL7 p1 p2 p3 p4 p5 b11 b17) [(.ref b17), (.ref b11)])) rfl (by rw [hml]; rfl) (Steps.refl _) (argsL := [(.ref b17)]) (rest := []) (lenOf pd_2 rfl) rfl (by show 2 * 0 + _ ≤ _; exact Nat.le_of_eq rfl) (hb hby at_89) (fun _ _ => ⟨rfl, rfl, (by decide : 2 + 0 ≤ _), (by decide : 6 + 0 ≤ _)⟩)
  dsimp only [Pt.U, Pt.locs, Pt.cells, Pt.slots] at X27 l27 y27 z27 st27 hQ27
  subst l27 y27 z27
  obtain ⟨rfl, N27q, e27q⟩ := hQ27
  have N27 := Fr.app N22 N27q
  have F32 := (Nat.le_trans (Nat.le_trans (Nat.le_trans (Nat.le_trans Z0 E10.1) K15.1) E16.1) K22.1)
  obtain ⟨_, _, ⟨T31, L31, k31, n31⟩, -, X31, ⟨Lc31, hQ31, l31, y31, z31⟩, st31⟩ := Jvm.LawKit.callS X27 hx (y := (⟨"com/example/sinkwatch/sinkwatch/ConditionContradictsPinLaw", "holds", "(ZII)Z"⟩ : MethodName)) hown (mvT hZ (tw_25 hw)) (mvT hZ (tw_26 hw)) (mvT hZ (tw_27 hw)) (mvT hZ (tw_28 hw)) (by decide) (backOf (W := 0) (rm5_3 l Z a0 hw [] (va1 p5) p3 T22.heap n0 F32 ) hZ (tw_28 hw) (tw_27 hw) (by decide) (by decide)) (g := (mkF m 117 (LL9 p1 p2 p3 p4 p5 b11 b17) [(.int p3), (.int p3), (.int (va1 p5))])) rfl (by rw [hml]; rfl) (argsL := [(.int (va1 p5)), (.int p3), (.int p3)]) (rest := []) (lenOf pd_3 rfl) rfl (by show 2 * 0 + _ ≤ _; exact Nat.le_of_eq rfl) (hb hby at_117) (fun _ _ => ⟨rfl, e27q, (by decide : 2 + 0 ≤ _), (by decide : 6 + 0 ≤ _)⟩)
  dsimp only [Pt.U, Pt.locs, Pt.cells, Pt.slots] at X31 l31 y31 z31 st31 hQ31
  subst l31 y31 z31
  obtain ⟨rfl, N31q, e31q⟩ := hQ31
  have N31 := Fr.app N27 N31q
  have F34 := (Nat.le_trans (Nat.le_trans (Nat.le_trans (Nat.le_trans Z0 E10.1) K15.1) E16.1) K22.1)
  obtain ⟨_, _, ⟨T33, L33, k33, n33⟩, -, X33, ⟨Lc33, hQ33, l33, y33, z33⟩, st33⟩ := Jvm.LawKit.callS X31 hx (y := (⟨"com/example/sinkwatch/sinkwatch/ConditionContradictsPinLaw", "holds", "(ZII)Z"⟩ : MethodName)) hown (mvT hZ (tw_25 hw)) (mvT hZ (tw_26 hw)) (mvT hZ (tw_27 hw)) (mvT hZ (tw_28 hw)) (by decide) (backOf (W := 0) (rm5_6 l Z a0 hw [] (va1 p5) p3 (va4 p5 p4 p3) T22.heap n0 F34 H2) hZ (tw_28 hw) (tw_27 hw) (by decide) (by decide)) (g := (mkF m 139 (LL9 p1 p2 p3 p4 p5 b11 b17) [(.int (va4 p5 p4 p3)), (.int p3), (.int (va1 p5))])) rfl (by rw [hml]; rfl) (argsL := [(.int (va1 p5)), (.int p3), (.int (va4 p5 p4 p3))]) (rest := []) (lenOf pd_3 rfl) rfl (by show 2 * 0 + _ ≤ _; exact Nat.le_of_eq rfl) (hb hby at_139) (fun _ _ => ⟨rfl, e31q, (by decide : 2 + 0 ≤ _), (by decide : 6 + 0 ≤ _)⟩)
  dsimp only [Pt.U, Pt.locs, Pt.cells, Pt.slots] at X33 l33 y33 z33 st33 hQ33
  subst l33 y33 z33
  obtain ⟨rfl, N33q, e33q⟩ := hQ33
  have N33 := Fr.app N31 N33q
  have F36 := (Nat.le_trans (Nat.le_trans (Nat.le_trans (Nat.le_trans Z0 E10.1) K15.1) E16.1) K22.1)
  obtain ⟨_, _, ⟨T35, L35, k35, n35⟩, -, X35, ⟨Lc35, hQ35, l35, y35, z35⟩, st35⟩ := Jvm.LawKit.callS X33 hx (y := (⟨"com/example/sinkwatch/sinkwatch/ConditionContradictsPinLaw", "holds", "(ZII)Z"⟩ : MethodName)) hown (mvT hZ (tw_25 hw)) (mvT hZ (tw_26 hw)) (mvT hZ (tw_27 hw)) (mvT hZ (tw_28 hw)) (by decide) (backOf (W := 0) (rm5_7 l Z a0 hw [] (va1 p5) p3 (va6 p3 p5 p4) T22.heap n0 F36 H2 H4) hZ (tw_28 hw) (tw_27 hw) (by decide) (by decide)) (g := (mkF m 162 (LL9 p1 p2 p3 p4 p5 b11 b17) [(.int (va6 p3 p5 p4)), (.int p3), (.int (va1 p5))])) rfl (by rw [hml]; rfl) (argsL := [(.int (va1 p5)), (.int p3), (.int (va6 p3 p5 p4))]) (rest := []) (lenOf pd_3 rfl) rfl (by show 2 * 0 + _ ≤ _; exact Nat.le_of_eq rfl) (hb hby at_162) (fun _ _ => ⟨rfl, e33q, (by decide : 2 + 0 ≤ _), (by decide : 6 + 0 ≤ _)⟩)
  dsimp only [Pt.U, Pt.locs, Pt.cells, Pt.slots] at X35 l35 y35 z35 st35 hQ35
  subst l35 y35 z35
  obtain ⟨rfl, N35q, e35q⟩ := hQ35
  have N35 := Fr.app N33 N35q
  have F38 := (Nat.le_trans (Nat.le_trans (Nat.le_trans (Nat.le_trans Z0 E10.1) K15.1) E16.1) K22.1)
  obtain ⟨_, _, ⟨T37, L37, k37, n37⟩, -, X37, ⟨Lc37, hQ37, l37, y37, z37⟩, st37⟩ := Jvm.LawKit.callS X35 hx (y := (⟨"com/example/sinkwatch/sinkwatch/ConditionContradictsPinLaw", "holds", "(ZII)Z"⟩ : MethodName)) hown (mvT hZ (tw_25 hw)) (mvT hZ (tw_26 hw)) (mvT hZ (tw_27 hw)) (mvT hZ (tw_28 hw)) (by decide) (backOf (W := 0) (rm5_10 l Z a0 hw [] (va2 p5) (va4 p5 p4 p3) (va6 p3 p5 p4) T22.heap n0 F38 H5) hZ (tw_28 hw) (tw_27 hw) (by decide) (by decide)) (g := (mkF m 174 (LL9 p1 p2 p3 p4 p5 b11 b17) [(.int (va6 p3 p5 p4)), (.int (va4 p5 p4 p3)), (.int (va2 p5))])) rfl (by rw [hml]; rfl) (argsL := [(.int (va2 p5)), (.int (va4 p5 p4 p3)), (.int (va6 p3 p5 p4))]) (rest := []) (lenOf pd_3 rfl) rfl (by show 2 * 0 + _ ≤ _; exact Nat.le_of_eq rfl) (hb hby at_174) (fun _ _ => ⟨rfl, e35q, (by decide : 2 + 0 ≤ _), (by decide : 6 + 0 ≤ _)⟩)
  dsimp only [Pt.U, Pt.locs, Pt.cells, Pt.slots] at X37 l37 y37 z37 st37 hQ37
  subst l37 y37 z37
  obtain ⟨rfl, N37q, e37q⟩ := hQ37
  have N37 := Fr.app N35 N37q
  obtain ⟨fs, hr, hrun, hended, hW, hsame⟩ := X37.leave (v := some (.int (nar .boolean (va12 p1 p5 p2 p3 p4)))) (fun h => by rw [Bd.returns] at h; cases h)
  refine ⟨_, _, pre0 _ ?_, hrun, hended, _, _, rfl, ?_, ⟨_, rfl⟩, hW, hsame.mono (by decide) (by decide)⟩
  · show Steps p.tables e below (s₁.setTop (mkF m 0 (LL1 p1 p2 p3 p4 p5) [])) _
    refine XS.iload X0.here hx rfl (hb hby at_0) rfl ?_
    show Steps p.tables e below (s₁.setTop (mkF m 2 (LL1 p1 p2 p3 p4 p5) [(.int p5)])) _
    refine XS.iconst X0.here hx rfl (hb hby at_2) ?_
    show Steps p.tables e below (s₁.setTop (mkF m 3 (LL1 p1 p2 p3 p4 p5) [(.int (1 : Int32)), (.int p5)])) _
    refine XS.iand X0.here hx rfl (hb hby at_3) rfl ?_
    suffices j6 : Steps p.tables e below (s₁.setTop (mkF m 12 (LL1 p1 p2 p3 p4 p5) [(.int (va1 p5))])) (T37.setFrames fs) by
      show Steps p.tables e below (s₁.setTop (mkF m 4 (LL1 p1 p2 p3 p4 p5) [(.int (p5 &&& (1 : Int32)))])) _
      by_cases j6_1 : (p5 &&& (1 : Int32)) = (0 : Int32)
      ·
        refine XS.ifYes X0.here hx rfl (pc0 := 4) (pc' := 11) rfl (hb hby at_4) rfl ((if0 _ _).trans (teq j6_1).1) (by decide) (by decide) ?_
        show Steps p.tables e below (s₁.setTop (mkF m 11 (LL1 p1 p2 p3 p4 p5) [])) _
        refine XS.iconst X0.here hx rfl (hb hby at_11) ?_
        (try simp only [va1, if_pos j6_1] at j6)
        exact j6
      ·
        refine XS.ifNo X0.here hx rfl (hb hby at_4) rfl ((if0 _ _).trans (feq j6_1).1) ?_
        show Steps p.tables e below (s₁.setTop (mkF m 7 (LL1 p1 p2 p3 p4 p5) [])) _
        refine XS.iconst X0.here hx rfl (hb hby at_7) ?_
        show Steps p.tables e below (s₁.setTop (mkF m 8 (LL1 p1 p2 p3 p4 p5) [(.int (1 : Int32))])) _
        refine XS.goto X0.here hx rfl (pc0 := 8) (pc' := 12) rfl (hb hby at_8) (by decide) (by decide) ?_
        (try simp only [va1, if_neg j6_1] at j6)
        exact j6
    show Steps p.tables e below (s₁.setTop (mkF m 12 (LL1 p1 p2 p3 p4 p5) [(.int (va1 p5))])) _
    refine XS.istore X0.here hx rfl (hb hby at_12) rfl (l' := (LL2 p1 p2 p3 p4 p5)) rfl ?_
    show Steps p.tables e below (s₁.setTop (mkF m 14 (LL2 p1 p2 p3 p4 p5) [])) _
    refine XS.iload X0.here hx rfl (hb hby at_14) rfl ?_
    show Steps p.tables e below (s₁.setTop (mkF m 16 (LL2 p1 p2 p3 p4 p5) [(.int p5)])) _
    refine XS.iconst X0.here hx rfl (hb hby at_16) ?_
    show Steps p.tables e below (s₁.setTop (mkF m 17 (LL2 p1 p2 p3 p4 p5) [(.int (2 : Int32)), (.int p5)])) _
    refine XS.iand X0.here hx rfl (hb hby at_17) rfl ?_
    suffices j7 : Steps p.tables e below (s₁.setTop (mkF m 26 (LL2 p1 p2 p3 p4 p5) [(.int (va2 p5))])) (T37.setFrames fs) by
      show Steps p.tables e below (s₁.setTop (mkF m 18 (LL2 p1 p2 p3 p4 p5) [(.int (p5 &&& (2 : Int32)))])) _
      by_cases j7_1 : (p5 &&& (2 : Int32)) = (0 : Int32)
      ·
        refine XS.ifYes X0.here hx rfl (pc0 := 18) (pc' := 25) rfl (hb hby at_18) rfl ((if0 _ _).trans (teq j7_1).1) (by decide) (by decide) ?_
        show Steps p.tables e below (s₁.setTop (mkF m 25 (LL2 p1 p2 p3 p4 p5) [])) _
        refine XS.iconst X0.here hx rfl (hb hby at_25) ?_
        (try simp only [va2, if_pos j7_1] at j7)
        exact j7
      ·
        refine XS.ifNo X0.here hx rfl (hb hby at_18) rfl ((if0 _ _).trans (feq j7_1).1) ?_
        show Steps p.tables e below (s₁.setTop (mkF m 21 (LL2 p1 p2 p3 p4 p5) [])) _
        refine XS.iconst X0.here hx rfl (hb hby at_21) ?_
        show Steps p.tables e below (s₁.setTop (mkF m 22 (LL2 p1 p2 p3 p4 p5) [(.int (1 : Int32))])) _
        refine XS.goto X0.here hx rfl (pc0 := 22) (pc' := 26) rfl (hb hby at_22) (by decide) (by decide) ?_
        (try simp only [va2, if_neg j7_1] at j7)
        exact j7
    show Steps p.tables e below (s₁.setTop (mkF m 26 (LL2 p1 p2 p3 p4 p5) [(.int (va2 p5))])) _
    refine XS.istore X0.here hx rfl (hb hby at_26) rfl (l' := (LL3 p1 p2 p3 p4 p5)) rfl ?_
    show Steps p.tables e below (s₁.setTop (mkF m 28 (LL3 p1 p2 p3 p4 p5) [])) _
    refine XS.iload X0.here hx rfl (hb hby at_28) rfl ?_
    show Steps p.tables e below (s₁.setTop (mkF m 30 (LL3 p1 p2 p3 p4 p5) [(.int p5)])) _
    refine XS.iconst X0.here hx rfl (hb hby at_30) ?_
    show Steps p.tables e below (s₁.setTop (mkF m 31 (LL3 p1 p2 p3 p4 p5) [(.int (4 : Int32)), (.int p5)])) _
    refine XS.iand X0.here hx rfl (hb hby at_31) rfl ?_
    suffices j8 : Steps p.tables e below (s₁.setTop (mkF m 40 (LL3 p1 p2 p3 p4 p5) [(.int (va3 p5 p2 p1))])) (T37.setFrames fs) by
      show Steps p.tables e below (s₁.setTop (mkF m 32 (LL3 p1 p2 p3 p4 p5) [(.int (p5 &&& (4 : Int32)))])) _
      by_cases j8_1 : (p5 &&& (4 : Int32)) = (0 : Int32)
      ·
        refine XS.ifYes X0.here hx rfl (pc0 := 32) (pc' := 39) rfl (hb hby at_32) rfl ((if0 _ _).trans (teq j8_1).1) (by decide) (by decide) ?_
        show Steps p.tables e below (s₁.setTop (mkF m 39 (LL3 p1 p2 p3 p4 p5) [])) _
        refine XS.iloadN X0.here hx rfl (hb hby at_39) rfl ?_
        (try simp only [va3, if_pos j8_1] at j8)
        exact j8
      ·
        refine XS.ifNo X0.here hx rfl (hb hby at_32) rfl ((if0 _ _).trans (feq j8_1).1) ?_
        show Steps p.tables e below (s₁.setTop (mkF m 35 (LL3 p1 p2 p3 p4 p5) [])) _
        refine XS.iloadN X0.here hx rfl (hb hby at_35) rfl ?_
        show Steps p.tables e below (s₁.setTop (mkF m 36 (LL3 p1 p2 p3 p4 p5) [(.int p1)])) _
        refine XS.goto X0.here hx rfl (pc0 := 36) (pc' := 40) rfl (hb hby at_36) (by decide) (by decide) ?_
        (try simp only [va3, if_neg j8_1] at j8)
        exact j8
    show Steps p.tables e below (s₁.setTop (mkF m 40 (LL3 p1 p2 p3 p4 p5) [(.int (va3 p5 p2 p1))])) _
    refine XS.istore X0.here hx rfl (hb hby at_40) rfl (l' := (LL4 p1 p2 p3 p4 p5)) rfl ?_
    show Steps p.tables e below (s₁.setTop (mkF m 42 (LL4 p1 p2 p3 p4 p5) [])) _
    refine XS.iload X0.here hx rfl (hb hby at_42) rfl ?_
    show Steps p.tables e below (s₁.setTop (mkF m 44 (LL4 p1 p2 p3 p4 p5) [(.int p5)])) _
    refine XS.bipush X0.here hx rfl (hb hby at_44) ?_
    show Steps p.tables e below (s₁.setTop (mkF m 46 (LL4 p1 p2 p3 p4 p5) [(.int (8 : Int32)), (.int p5)])) _
    refine XS.iand X0.here hx rfl (hb hby at_46) rfl ?_
    suffices j9 : Steps p.tables e below (s₁.setTop (mkF m 55 (LL4 p1 p2 p3 p4 p5) [(.int (va4 p5 p4 p3))])) (T37.setFrames fs) by
      show Steps p.tables e below (s₁.setTop (mkF m 47 (LL4 p1 p2 p3 p4 p5) [(.int (p5 &&& (8 : Int32)))])) _
      by_cases j9_1 : (p5 &&& (8 : Int32)) = (0 : Int32)
      ·
        refine XS.ifYes X0.here hx rfl (pc0 := 47) (pc' := 54) rfl (hb hby at_47) rfl ((if0 _ _).trans (teq j9_1).1) (by decide) (by decide) ?_
        show Steps p.tables e below (s₁.setTop (mkF m 54 (LL4 p1 p2 p3 p4 p5) [])) _
        refine XS.iloadN X0.here hx rfl (hb hby at_54) rfl ?_
        (try simp only [va4, if_pos j9_1] at j9)
        exact j9
      ·
        refine XS.ifNo X0.here hx rfl (hb hby at_47) rfl ((if0 _ _).trans (feq j9_1).1) ?_
        show Steps p.tables e below (s₁.setTop (mkF m 50 (LL4 p1 p2 p3 p4 p5) [])) _
        refine XS.iloadN X0.here hx rfl (hb hby at_50) rfl ?_
        show Steps p.tables e below (s₁.setTop (mkF m 51 (LL4 p1 p2 p3 p4 p5) [(.int p3)])) _
        refine XS.goto X0.here hx rfl (pc0 := 51) (pc' := 55) rfl (hb hby at_51) (by decide) (by decide) ?_
        (try simp only [va4, if_neg j9_1] at j9)
        exact j9
    show Steps p.tables e below (s₁.setTop (mkF m 55 (LL4 p1 p2 p3 p4 p5) [(.int (va4 p5 p4 p3))])) _
    refine XS.istore X0.here hx rfl (hb hby at_55) rfl (l' := (LL5 p1 p2 p3 p4 p5)) rfl ?_
    show Steps p.tables e below (s₁.setTop (mkF m 57 (LL5 p1 p2 p3 p4 p5) [])) _
    refine st10 _ ?_
    show Steps p.tables e below (T10.setTop (mkF m 60 (LL5 p1 p2 p3 p4 p5) [(.ref b11)])) _
    refine XS.dup X10.here hx rfl (hb hby at_60) rfl rfl ?_
    show Steps p.tables e below (T10.setTop (mkF m 61 (LL5 p1 p2 p3 p4 p5) [(.ref b11), (.ref b11)])) _
    refine XS.iloadN X10.here hx rfl (hb hby at_61) rfl ?_
    show Steps p.tables e below (T10.setTop (mkF m 62 (LL5 p1 p2 p3 p4 p5) [(.int p1), (.ref b11), (.ref b11)])) _
    refine XS.iload X10.here hx rfl (hb hby at_62) rfl ?_
    show Steps p.tables e below (T10.setTop (mkF m 64 (LL5 p1 p2 p3 p4 p5) [(.int (va1 p5)), (.int p1), (.ref b11), (.ref b11)])) _
    refine XS.iloadN X10.here hx rfl (hb hby at_64) rfl ?_
    show Steps p.tables e below (T10.setTop (mkF m 65 (LL5 p1 p2 p3 p4 p5) [(.int p3), (.int (va1 p5)), (.int p1), (.ref b11), (.ref b11)])) _
    refine st15.trans ?_
    show Steps p.tables e below (T15.setTop (mkF m 68 (LL5 p1 p2 p3 p4 p5) [(.ref b11)])) _
    refine XS.astore X15.here hx rfl (hb hby at_68) rfl rfl (l' := (LL6 p1 p2 p3 p4 p5 b11)) rfl ?_
    show Steps p.tables e below (T15.setTop (mkF m 70 (LL6 p1 p2 p3 p4 p5 b11) [])) _
    refine st16 _ ?_
    show Steps p.tables e below (T16.setTop (mkF m 73 (LL6 p1 p2 p3 p4 p5 b11) [(.ref b17)])) _
    refine XS.dup X16.here hx rfl (hb hby at_73) rfl rfl ?_
    show Steps p.tables e below (T16.setTop (mkF m 74 (LL6 p1 p2 p3 p4 p5 b11) [(.ref b17), (.ref b17)])) _
    refine XS.iload X16.here hx rfl (hb hby at_74) rfl ?_
    show Steps p.tables e below (T16.setTop (mkF m 76 (LL6 p1 p2 p3 p4 p5 b11) [(.int (va3 p5 p2 p1)), (.ref b17), (.ref b17)])) _
    refine XS.iload X16.here hx rfl (hb hby at_76) rfl ?_
    show Steps p.tables e below (T16.setTop (mkF m 78 (LL6 p1 p2 p3 p4 p5 b11) [(.int (va2 p5)), (.int (va3 p5 p2 p1)), (.ref b17), (.ref b17)])) _
    refine XS.iload X16.here hx rfl (hb hby at_78) rfl ?_
    show Steps p.tables e below (T16.setTop (mkF m 80 (LL6 p1 p2 p3 p4 p5 b11) [(.int (va4 p5 p4 p3)), (.int (va2 p5)), (.int (va3 p5 p2 p1)), (.ref b17), (.ref b17)])) _
    refine st22.trans ?_
    show Steps p.tables e below (T22.setTop (mkF m 83 (LL6 p1 p2 p3 p4 p5 b11) [(.ref b17)])) _
    refine XS.astore X22.here hx rfl (hb hby at_83) rfl rfl (l' := (LL7 p1 p2 p3 p4 p5 b11 b17)) rfl ?_
    show Steps p.tables e below (T22.setTop (mkF m 85 (LL7 p1 p2 p3 p4 p5 b11 b17) [])) _
    refine XS.aload X22.here hx rfl (hb hby at_85) rfl rfl ?_
    show Steps p.tables e below (T22.setTop (mkF m 87 (LL7 p1 p2 p3 p4 p5 b11 b17) [(.ref b11)])) _
    refine XS.aload X22.here hx rfl (hb hby at_87) rfl rfl ?_
    show Steps p.tables e below (T22.setTop (mkF m 89 (LL7 p1 p2 p3 p4 p5 b11 b17) [(.ref b17), (.ref b11)])) _
    refine st27.trans ?_
    show Steps p.tables e below (T27.setTop (mkF m 92 (LL7 p1 p2 p3 p4 p5 b11 b17) [(.int (va5 p1 (va3 p5 p2 p1) (nar .boolean (va1 p5)) (nar .boolean (va2 p5)) p3 (va4 p5 p4 p3)))])) _
    refine XS.istore X27.here hx rfl (hb hby at_92) rfl (l' := (LL8 p1 p2 p3 p4 p5 b11 b17)) rfl ?_
    show Steps p.tables e below (T27.setTop (mkF m 94 (LL8 p1 p2 p3 p4 p5 b11 b17) [])) _
    refine XS.iloadN X27.here hx rfl (hb hby at_94) rfl ?_
    show Steps p.tables e below (T27.setTop (mkF m 95 (LL8 p1 p2 p3 p4 p5 b11 b17) [(.int p3)])) _
    refine XS.iconst X27.here hx rfl (hb hby at_95) ?_
    show Steps p.tables e below (T27.setTop (mkF m 96 (LL8 p1 p2 p3 p4 p5 b11 b17) [(.int (1 : Int32)), (.int p3)])) _
    refine XS.iadd X27.here hx rfl (hb hby at_96) rfl ?_
    show Steps p.tables e below (T27.setTop (mkF m 97 (LL8 p1 p2 p3 p4 p5 b11 b17) [(.int (p3 + (1 : Int32)))])) _
    refine XS.iload X27.here hx rfl (hb hby at_97) rfl ?_
    suffices j30 : Steps p.tables e below (T27.setTop (mkF m 111 (LL8 p1 p2 p3 p4 p5 b11 b17) [(.int (va6 p3 p5 p4))])) (T37.setFrames fs) by
      show Steps p.tables e below (T27.setTop (mkF m 99 (LL8 p1 p2 p3 p4 p5 b11 b17) [(.int (va4 p5 p4 p3)), (.int (p3 + (1 : Int32)))])) _
      by_cases j30_1 : (p3 + (1 : Int32)) = (va4 p5 p4 p3)
      ·
        refine XS.icmpYes X27.here hx rfl (pc0 := 99) (pc' := 108) rfl (hb hby at_99) rfl (teq j30_1).1 (by decide) (by decide) ?_
        show Steps p.tables e below (T27.setTop (mkF m 108 (LL8 p1 p2 p3 p4 p5 b11 b17) [])) _
        refine XS.iloadN X27.here hx rfl (hb hby at_108) rfl ?_
        show Steps p.tables e below (T27.setTop (mkF m 109 (LL8 p1 p2 p3 p4 p5 b11 b17) [(.int p3)])) _
        refine XS.iconst X27.here hx rfl (hb hby at_109) ?_
        show Steps p.tables e below (T27.setTop (mkF m 110 (LL8 p1 p2 p3 p4 p5 b11 b17) [(.int (2 : Int32)), (.int p3)])) _
        refine XS.iadd X27.here hx rfl (hb hby at_110) rfl ?_
        (try simp only [va6, if_pos j30_1] at j30)
        exact j30
      ·
        refine XS.icmpNo X27.here hx rfl (hb hby at_99) rfl (feq j30_1).1 ?_
        show Steps p.tables e below (T27.setTop (mkF m 102 (LL8 p1 p2 p3 p4 p5 b11 b17) [])) _
        refine XS.iloadN X27.here hx rfl (hb hby at_102) rfl ?_
        show Steps p.tables e below (T27.setTop (mkF m 103 (LL8 p1 p2 p3 p4 p5 b11 b17) [(.int p3)])) _
        refine XS.iconst X27.here hx rfl (hb hby at_103) ?_
        show Steps p.tables e below (T27.setTop (mkF m 104 (LL8 p1 p2 p3 p4 p5 b11 b17) [(.int (1 : Int32)), (.int p3)])) _
        refine XS.iadd X27.here hx rfl (hb hby at_104) rfl ?_
        show Steps p.tables e below (T27.setTop (mkF m 105 (LL8 p1 p2 p3 p4 p5 b11 b17) [(.int (p3 + (1 : Int32)))])) _
        refine XS.goto X27.here hx rfl (pc0 := 105) (pc' := 111) rfl (hb hby at_105) (by decide) (by decide) ?_
        (try simp only [va6, if_neg j30_1] at j30)
        exact j30
    show Steps p.tables e below (T27.setTop (mkF m 111 (LL8 p1 p2 p3 p4 p5 b11 b17) [(.int (va6 p3 p5 p4))])) _
    refine XS.istore X27.here hx rfl (hb hby at_111) rfl (l' := (LL9 p1 p2 p3 p4 p5 b11 b17)) rfl ?_
    show Steps p.tables e below (T27.setTop (mkF m 113 (LL9 p1 p2 p3 p4 p5 b11 b17) [])) _
    refine XS.iload X27.here hx rfl (hb hby at_113) rfl ?_
    show Steps p.tables e below (T27.setTop (mkF m 115 (LL9 p1 p2 p3 p4 p5 b11 b17) [(.int (va1 p5))])) _
    refine XS.iloadN X27.here hx rfl (hb hby at_115) rfl ?_
    show Steps p.tables e below (T27.setTop (mkF m 116 (LL9 p1 p2 p3 p4 p5 b11 b17) [(.int p3), (.int (va1 p5))])) _
    refine XS.iloadN X27.here hx rfl (hb hby at_116) rfl ?_
    show Steps p.tables e below (T27.setTop (mkF m 117 (LL9 p1 p2 p3 p4 p5 b11 b17) [(.int p3), (.int p3), (.int (va1 p5))])) _
    refine st31 _ ?_
    show Steps p.tables e below (T31.setTop (mkF m 120 (LL9 p1 p2 p3 p4 p5 b11 b17) [(.int (va7 (va1 p5)))])) _
    refine XS.ifYes X31.here hx rfl (pc0 := 120) (pc' := 134) rfl (hb hby at_120) rfl ((if0 _ _).trans (teq H1).1) (by decide) (by decide) ?_
    show Steps p.tables e below (T31.setTop (mkF m 134 (LL9 p1 p2 p3 p4 p5 b11 b17) [])) _
    refine XS.iload X31.here hx rfl (hb hby at_134) rfl ?_
    show Steps p.tables e below (T31.setTop (mkF m 136 (LL9 p1 p2 p3 p4 p5 b11 b17) [(.int (va1 p5))])) _
    refine XS.iloadN X31.here hx rfl (hb hby at_136) rfl ?_
    show Steps p.tables e below (T31.setTop (mkF m 137 (LL9 p1 p2 p3 p4 p5 b11 b17) [(.int p3), (.int (va1 p5))])) _
    refine XS.iload X31.here hx rfl (hb hby at_137) rfl ?_
    show Steps p.tables e below (T31.setTop (mkF m 139 (LL9 p1 p2 p3 p4 p5 b11 b17) [(.int (va4 p5 p4 p3)), (.int p3), (.int (va1 p5))])) _
    refine st33 _ ?_
    show Steps p.tables e below (T33.setTop (mkF m 142 (LL9 p1 p2 p3 p4 p5 b11 b17) [(.int (va8 (va4 p5 p4 p3) p3))])) _
    refine XS.ifYes X33.here hx rfl (pc0 := 142) (pc' := 157) rfl (hb hby at_142) rfl ((if0 _ _).trans (teq H3).1) (by decide) (by decide) ?_
    show Steps p.tables e below (T33.setTop (mkF m 157 (LL9 p1 p2 p3 p4 p5 b11 b17) [])) _
    refine XS.iload X33.here hx rfl (hb hby at_157) rfl ?_
    show Steps p.tables e below (T33.setTop (mkF m 159 (LL9 p1 p2 p3 p4 p5 b11 b17) [(.int (va1 p5))])) _
    refine XS.iloadN X33.here hx rfl (hb hby at_159) rfl ?_
    show Steps p.tables e below (T33.setTop (mkF m 160 (LL9 p1 p2 p3 p4 p5 b11 b17) [(.int p3), (.int (va1 p5))])) _
    refine XS.iload X33.here hx rfl (hb hby at_160) rfl ?_
    show Steps p.tables e below (T33.setTop (mkF m 162 (LL9 p1 p2 p3 p4 p5 b11 b17) [(.int (va6 p3 p5 p4)), (.int p3), (.int (va1 p5))])) _
    refine st35 _ ?_
    show Steps p.tables e below (T35.setTop (mkF m 165 (LL9 p1 p2 p3 p4 p5 b11 b17) [(.int (1 : Int32))])) _
    refine XS.ifNo X35.here hx rfl (hb hby at_165) rfl ((if0 _ _).trans (feq (by decide : ¬ ((1 : Int32) = (0 : Int32)))).1) ?_
    show Steps p.tables e below (T35.setTop (mkF m 168 (LL9 p1 p2 p3 p4 p5 b11 b17) [])) _
    refine XS.iload X35.here hx rfl (hb hby at_168) rfl ?_
    show Steps p.tables e below (T35.setTop (mkF m 170 (LL9 p1 p2 p3 p4 p5 b11 b17) [(.int (va2 p5))])) _
    refine XS.iload X35.here hx rfl (hb hby at_170) rfl ?_
    show Steps p.tables e below (T35.setTop (mkF m 172 (LL9 p1 p2 p3 p4 p5 b11 b17) [(.int (va4 p5 p4 p3)), (.int (va2 p5))])) _
    refine XS.iload X35.here hx rfl (hb hby at_172) rfl ?_
    show Steps p.tables e below (T35.setTop (mkF m 174 (LL9 p1 p2 p3 p4 p5 b11 b17) [(.int (va6 p3 p5 p4)), (.int (va4 p5 p4 p3)), (.int (va2 p5))])) _
    refine st37 _ ?_
    suffices j39 : Steps p.tables e below (T37.setTop (mkF m 185 (LL9 p1 p2 p3 p4 p5 b11 b17) [(.int (va10 p5))])) (T37.setFrames fs) by
      show Steps p.tables e below (T37.setTop (mkF m 177 (LL9 p1 p2 p3 p4 p5 b11 b17) [(.int (va9 (va2 p5)))])) _
      by_cases j39_1 : (va9 (va2 p5)) = (0 : Int32)
      ·
        refine XS.ifYes X37.here hx rfl (pc0 := 177) (pc' := 184) rfl (hb hby at_177) rfl ((if0 _ _).trans (teq j39_1).1) (by decide) (by decide) ?_
        show Steps p.tables e below (T37.setTop (mkF m 184 (LL9 p1 p2 p3 p4 p5 b11 b17) [])) _
        refine XS.iconst X37.here hx rfl (hb hby at_184) ?_
        (try simp only [va10, if_pos j39_1] at j39)
        exact j39
      ·
        refine XS.ifNo X37.here hx rfl (hb hby at_177) rfl ((if0 _ _).trans (feq j39_1).1) ?_
        show Steps p.tables e below (T37.setTop (mkF m 180 (LL9 p1 p2 p3 p4 p5 b11 b17) [])) _
        refine XS.iconst X37.here hx rfl (hb hby at_180) ?_
        show Steps p.tables e below (T37.setTop (mkF m 181 (LL9 p1 p2 p3 p4 p5 b11 b17) [(.int (1 : Int32))])) _
        refine XS.goto X37.here hx rfl (pc0 := 181) (pc' := 185) rfl (hb hby at_181) (by decide) (by decide) ?_
        (try simp only [va10, if_neg j39_1] at j39)
        exact j39
    show Steps p.tables e below (T37.setTop (mkF m 185 (LL9 p1 p2 p3 p4 p5 b11 b17) [(.int (va10 p5))])) _
    refine XS.istore X37.here hx rfl (hb hby at_185) rfl (l' := (LL10 p1 p2 p3 p4 p5 b11 b17)) rfl ?_
    show Steps p.tables e below (T37.setTop (mkF m 187 (LL10 p1 p2 p3 p4 p5 b11 b17) [])) _
    refine XS.iloadN X37.here hx rfl (hb hby at_187) rfl ?_
    show Steps p.tables e below (T37.setTop (mkF m 188 (LL10 p1 p2 p3 p4 p5 b11 b17) [(.int p1)])) _
    refine XS.iload X37.here hx rfl (hb hby at_188) rfl ?_
    suffices j40 : Steps p.tables e below (T37.setTop (mkF m 203 (LL10 p1 p2 p3 p4 p5 b11 b17) [(.int (va11 p1 p5 p2))])) (T37.setFrames fs) by
      show Steps p.tables e below (T37.setTop (mkF m 190 (LL10 p1 p2 p3 p4 p5 b11 b17) [(.int (va3 p5 p2 p1)), (.int p1)])) _
      by_cases j40_1 : p1 = (va3 p5 p2 p1)
      ·
        refine XS.icmpNo X37.here hx rfl (hb hby at_190) rfl (teq j40_1).2 ?_
        show Steps p.tables e below (T37.setTop (mkF m 193 (LL10 p1 p2 p3 p4 p5 b11 b17) [])) _
        refine XS.iload X37.here hx rfl (hb hby at_193) rfl ?_
        show Steps p.tables e below (T37.setTop (mkF m 195 (LL10 p1 p2 p3 p4 p5 b11 b17) [(.int (va10 p5))])) _
        by_cases j40_2 : (va10 p5) = (0 : Int32)
        ·
          refine XS.ifNo X37.here hx rfl (hb hby at_195) rfl ((if0 _ _).trans (teq j40_2).2) ?_
          show Steps p.tables e below (T37.setTop (mkF m 198 (LL10 p1 p2 p3 p4 p5 b11 b17) [])) _
          refine XS.iconst X37.here hx rfl (hb hby at_198) ?_
          show Steps p.tables e below (T37.setTop (mkF m 199 (LL10 p1 p2 p3 p4 p5 b11 b17) [(.int (1 : Int32))])) _
          refine XS.goto X37.here hx rfl (pc0 := 199) (pc' := 203) rfl (hb hby at_199) (by decide) (by decide) ?_
          (try simp only [va11, if_pos j40_1, if_pos j40_2] at j40)
          exact j40
        ·
          refine XS.ifYes X37.here hx rfl (pc0 := 195) (pc' := 202) rfl (hb hby at_195) rfl ((if0 _ _).trans (feq j40_2).2) (by decide) (by decide) ?_
          show Steps p.tables e below (T37.setTop (mkF m 202 (LL10 p1 p2 p3 p4 p5 b11 b17) [])) _
          refine XS.iconst X37.here hx rfl (hb hby at_202) ?_
          (try simp only [va11, if_pos j40_1, if_neg j40_2] at j40)
          exact j40
      ·
        refine XS.icmpYes X37.here hx rfl (pc0 := 190) (pc' := 202) rfl (hb hby at_190) rfl (feq j40_1).2 (by decide) (by decide) ?_
        show Steps p.tables e below (T37.setTop (mkF m 202 (LL10 p1 p2 p3 p4 p5 b11 b17) [])) _
        refine XS.iconst X37.here hx rfl (hb hby at_202) ?_
        (try simp only [va11, if_neg j40_1] at j40)
        exact j40
    show Steps p.tables e below (T37.setTop (mkF m 203 (LL10 p1 p2 p3 p4 p5 b11 b17) [(.int (va11 p1 p5 p2))])) _
    refine XS.istore X37.here hx rfl (hb hby at_203) rfl (l' := (LL11 p1 p2 p3 p4 p5 b11 b17)) rfl ?_
    show Steps p.tables e below (T37.setTop (mkF m 205 (LL11 p1 p2 p3 p4 p5 b11 b17) [])) _
    refine XS.iload X37.here hx rfl (hb hby at_205) rfl ?_
    show Steps p.tables e below (T37.setTop (mkF m 207 (LL11 p1 p2 p3 p4 p5 b11 b17) [(.int (va5 p1 (va3 p5 p2 p1) (nar .boolean (va1 p5)) (nar .boolean (va2 p5)) p3 (va4 p5 p4 p3)))])) _
    refine XS.iload X37.here hx rfl (hb hby at_207) rfl ?_
    suffices j41 : Steps p.tables e below (T37.setTop (mkF m 217 (LL11 p1 p2 p3 p4 p5 b11 b17) [(.int (va12 p1 p5 p2 p3 p4))])) (T37.setFrames fs) by
      show Steps p.tables e below (T37.setTop (mkF m 209 (LL11 p1 p2 p3 p4 p5 b11 b17) [(.int (va11 p1 p5 p2)), (.int (va5 p1 (va3 p5 p2 p1) (nar .boolean (va1 p5)) (nar .boolean (va2 p5)) p3 (va4 p5 p4 p3)))])) _
      by_cases j41_1 : (va5 p1 (va3 p5 p2 p1) (nar .boolean (va1 p5)) (nar .boolean (va2 p5)) p3 (va4 p5 p4 p3)) = (va11 p1 p5 p2)
      ·
        refine XS.icmpNo X37.here hx rfl (hb hby at_209) rfl (teq j41_1).2 ?_
        show Steps p.tables e below (T37.setTop (mkF m 212 (LL11 p1 p2 p3 p4 p5 b11 b17) [])) _
        refine XS.iconst X37.here hx rfl (hb hby at_212) ?_
        show Steps p.tables e below (T37.setTop (mkF m 213 (LL11 p1 p2 p3 p4 p5 b11 b17) [(.int (1 : Int32))])) _
        refine XS.goto X37.here hx rfl (pc0 := 213) (pc' := 217) rfl (hb hby at_213) (by decide) (by decide) ?_
        (try simp only [va12, if_pos j41_1] at j41)
        exact j41
      ·
        refine XS.icmpYes X37.here hx rfl (pc0 := 209) (pc' := 216) rfl (hb hby at_209) rfl (feq j41_1).2 (by decide) (by decide) ?_
        show Steps p.tables e below (T37.setTop (mkF m 216 (LL11 p1 p2 p3 p4 p5 b11 b17) [])) _
        refine XS.iconst X37.here hx rfl (hb hby at_216) ?_
        (try simp only [va12, if_neg j41_1] at j41)
        exact j41
    show Steps p.tables e below (T37.setTop (mkF m 217 (LL11 p1 p2 p3 p4 p5 b11 b17) [(.int (va12 p1 p5 p2 p3 p4))])) _
    exact retN X37 hx (t := .boolean) Bd.returns (by simp) (hb hby at_217) hr
  · show Q0 h0 n0 _ T37.heap _
    rw [e37q]
    exact ⟨(congrArg (fun z => some (Value.int z)) H6), N37⟩
set_option maxRecDepth 65536 in
set_option maxHeartbeats 40000000 in
theorem rm0_1 (l : Launch) (Z : State) (a0 : Array Value) (hw : ∀ d ∈ tables_1, d.before a0 Z = true) (ws : List Jvm.Cond) (p1 : Int32) (p2 : Int32) (p3 : Int32) (p4 : Int32) (p5 : Int32) (h0 : Heap) (n0 : Nat) (Z0 : n0 ≤ h0.size) (H1 : (va7 (va1 p5)) = (0 : Int32)) (H2 : (va1 p5) = (0 : Int32)) (H3 : ¬ ((va8 (va4 p5 p4 p3) p3) = (0 : Int32))) (H4 : (va7 (va2 p5)) = (0 : Int32)) (H5 : ¬ ((va6 p3 p5 p4) = p3)) (H6 : (va2 p5) = (0 : Int32)) (H7 : ¬ ((va6 p3 p5 p4) = (va4 p5 p4 p3))) (H8 : (nar .boolean (va13 p1 p5 p2 p3 p4)) = (1 : Int32)) :
    MetFree l x (head1 (Jvm.Cond.code x code maxLocals ret :: ws) room_1) (fun a U => a = #[(.int p1), (.int p2), (.int p3), (.int p4), (.int p5)] ∧ Z.Warmed39 U.vm ∧ U.heap = h0) (fun _ _ _ _ _ => True) (fun _ U o U' => ∃ v L, o = .returned v ∧ Q0 h0 n0 v U'.heap L ∧ FrameEnd U o U' L 16 128) := by
  refine MetFree.of_bodySF (plainFor_of_name pn_2) hisR ?_
  intro p e s m args below meth c s₁ Bd hml0 hP hK
  obtain ⟨rfl, hZ, hh⟩ := hP
  have hx := Bd.exec
  have hby := Bd.bytes
  have hml : c.maxLocals = 15 := hml0
  have hown : s.vm.findClass "com/example/sinkwatch/sinkwatch/ConditionContradictsPinLaw" = some m.cls := findClass_of_methodNamed Bd.named
  have hnm := (name_of_methodNamed Bd.named Bd.method).1
  have X0 : Stand p l e room_1 s m #[(.int p1), (.int p2), (.int p3), (.int p4), (.int p5)] below meth c s₁ [] 0 0 := Stand.of_body Bd
  have e0 : s₁.heap = h0 := by rw [← hh, Bd.state]; rfl
  have N0 := Fr.nil n0
  have pre0 : ∀ t, Steps p.tables e below (s₁.setTop (mkF m 0 #[.val (.int p1), .val (.int p2), .val (.int p3), .val (.int p4), .val (.int p5), .unset, .unset, .unset, .unset, .unset, .unset, .unset, .unset, .unset, .unset] [])) t → Steps p.tables e below (s₁.setTop (entryFrame m #[(.int p1), (.int p2), (.int p3), (.int p4), (.int p5)] maxLocals)) t := fun t k => castTop (ef0 m p1 p2 p3 p4 p5) k
  obtain ⟨T10, h10, X10, e10, E10, A10, D10, -, st10⟩ := newO X0 hx hZ hown (tw_0 hw) (tw_1 hw) (tw_2 hw) e0 (g := (mkF m 57 (LL5 p1 p2 p3 p4 p5) [])) rfl (hb hby at_57) (by decide) (by decide)
  obtain ⟨b11, g10⟩ : ∃ z, z = h0.size := ⟨_, rfl⟩
  rw [← g10] at A10 D10 st10
  have q10 : n0 ≤ b11 := Nat.le_trans Z0 (Nat.le_of_eq g10.symm)
  have z10 : h0.size ≤ b11 := Nat.le_trans (Nat.le_refl h0.size) (Nat.le_of_eq g10.symm)
  have F12 : Fld Z h10 b11 "com/example/sinkwatch/sinkwatch/Condition" "local" "I" (.int (0 : Int32)) := D10 (Or.inr (tw_15 hw)) (ty := .int) (by decide)
  have F13 : Fld Z h10 b11 "com/example/sinkwatch/sinkwatch/Condition" "equal" "Z" (.int (0 : Int32)) := D10 (Or.inr (tw_17 hw)) (ty := .boolean) (by decide)
  have F14 : Fld Z h10 b11 "com/example/sinkwatch/sinkwatch/Condition" "constant" "I" (.int (0 : Int32)) := D10 (Or.inr (tw_19 hw)) (ty := .int) (by decide)
  obtain ⟨_, _, ⟨T15, L15, k15, n15⟩, -, X15, ⟨Lc15, hQ15, l15, y15, z15⟩, st15⟩ := X10.specialBack hx (y := (⟨"com/example/sinkwatch/sinkwatch/Condition", "<init>", "(IZI)V"⟩ : MethodName)) rfl hown (mvT hZ (tw_3 hw)) (mvT hZ (tw_4 hw)) (mvT hZ (tw_5 hw)) (by decide) (backOf (W := 1) (rm1_1 l Z a0 hw [] b11 p1 (va1 p5) p3 h10 n0 (Nat.le_trans Z0 E10.1) F12 A10 q10 F13 F14) hZ (tw_5 hw) (tw_2 hw) (by decide) (by decide)) (g := (mkF m 65 (LL5 p1 p2 p3 p4 p5) [(.int p3), (.int (va1 p5)), (.int p1), (.ref b11), (.ref b11)])) rfl (by rw [hml]; rfl) (Steps.refl _) (a := b11) (argsL := [(.int p1), (.int (va1 p5)), (.int p3)]) (rest := [(.ref b11)]) (lenOf pd_1 rfl) rfl (by show 2 * 0 + _ ≤ _; exact Nat.le_of_eq rfl) (hb hby at_65) (fun _ _ => ⟨rfl, e10, (by decide : 1 + 0 ≤ _), (by decide : 3 + 0 ≤ _)⟩)
  dsimp only [Pt.U, Pt.locs, Pt.cells, Pt.slots] at X15 l15 y15 z15 st15 hQ15
  subst l15 y15 z15
  obtain ⟨rfl, N15q, K15, f15_0, f15_1, f15_2⟩ := hQ15
  have N15 := Fr.app N0 N15q
  obtain ⟨T16, h16, X16, e16, E16, A16, D16, -, st16⟩ := newO X15 hx hZ hown (tw_0 hw) (tw_1 hw) (tw_2 hw) rfl (g := (mkF m 70 (LL6 p1 p2 p3 p4 p5 b11) [])) rfl (hb hby at_70) (by decide) (by decide)
  obtain ⟨b17, g16⟩ : ∃ z, z = T15.heap.size := ⟨_, rfl⟩
  rw [← g16] at A16 D16 st16
  have F18 := (Nat.le_trans (Nat.le_trans (Nat.le_refl h0.size) E10.1) K15.1)
  have q16 : n0 ≤ b17 := Nat.le_trans (Nat.le_trans (Nat.le_trans Z0 E10.1) K15.1) (Nat.le_of_eq g16.symm)
  have z16 : h0.size ≤ b17 := Nat.le_trans F18 (Nat.le_of_eq g16.symm)
  have F19 : Fld Z h16 b17 "com/example/sinkwatch/sinkwatch/Condition" "local" "I" (.int (0 : Int32)) := D16 (Or.inr (tw_15 hw)) (ty := .int) (by decide)
  have F20 : Fld Z h16 b17 "com/example/sinkwatch/sinkwatch/Condition" "equal" "Z" (.int (0 : Int32)) := D16 (Or.inr (tw_17 hw)) (ty := .boolean) (by decide)
  have F21 : Fld Z h16 b17 "com/example/sinkwatch/sinkwatch/Condition" "constant" "I" (.int (0 : Int32)) := D16 (Or.inr (tw_19 hw)) (ty := .int) (by decide)
  have F23 := (Nat.le_trans (Nat.le_trans (Nat.le_trans Z0 E10.1) K15.1) E16.1)
  obtain ⟨_, _, ⟨T22, L22, k22, n22⟩, -, X22, ⟨Lc22, hQ22, l22, y22, z22⟩, st22⟩ := X16.specialBack hx (y := (⟨"com/example/sinkwatch/sinkwatch/Condition", "<init>", "(IZI)V"⟩ : MethodName)) rfl hown (mvT hZ (tw_3 hw)) (mvT hZ (tw_4 hw)) (mvT hZ (tw_5 hw)) (by decide) (backOf (W := 1) (rm1_1 l Z a0 hw [] b17 (va3 p5 p2 p1) (va2 p5) (va4 p5 p4 p3) h16 n0 F23 F19 A16 q16 F20 F21) hZ (tw_5 hw) (tw_2 hw) (by decide) (by decide)) (g := (mkF m 80 (LL6 p1 p2 p3 p4 p5 b11) [(.int (va4 p5 p4 p3)), (.int (va2 p5)), (.int (va3 p5 p2 p1)), (.ref b17), (.ref b17)])) rfl (by rw [hml]; rfl) (Steps.refl _) (a := b17) (argsL := [(.int (va3 p5 p2 p1)), (.int (va2 p5)), (.int (va4 p5 p4 p3))]) (rest := [(.ref b17)]) (lenOf pd_1 rfl) rfl (by show 2 * 0 + _ ≤ _; exact Nat.le_of_eq rfl) (hb hby at_80) (fun _ _ => ⟨rfl, e16, (by decide : 2 + 0 ≤ _), (by decide : 6 + 0 ≤ _)⟩)
  dsimp only [Pt.U, Pt.locs, Pt.cells, Pt.slots] at X22 l22 y22 z22 st22 hQ22
  subst l22 y22 z22
  obtain ⟨rfl, N22q, K22, f22_0, f22_1, f22_2⟩ := hQ22
  have N22 := Fr.app N15 N22q
  have F24 := (Fld.keep (Fld.ext E16 f15_2) K22 (ninS (Nat.ne_of_lt (Nat.lt_of_lt_of_le f15_0.lt (Nat.le_of_eq g16.symm))) nin0))
  have F25 := (Fld.keep (Fld.ext E16 f15_1) K22 (ninS (Nat.ne_of_lt (Nat.lt_of_lt_of_le f15_0.lt (Nat.le_of_eq g16.symm))) nin0))
  have F26 := (Fld.keep (Fld.ext E16 f15_0) K22 (ninS (Nat.ne_of_lt (Nat.lt_of_lt_of_le f15_0.lt (Nat.le_of_eq g16.symm))) nin0))
  have F28 := (Nat.le_trans (Nat.le_trans (Nat.le_trans (Nat.le_trans Z0 E10.1) K15.1) E16.1) K22.1)
  have F29 := (Exa.keep (Exa.ext E16 (Exa.keep A10 K15)) K22)
  obtain ⟨cq27, kq27, q27a, q27b, q27c⟩ := isOf hZ rfl F29
  obtain ⟨_, _, ⟨T27, L27, k27, n27⟩, -, X27, ⟨Lc27, hQ27, l27, y27, z27⟩, st27⟩ := X22.virtualBack hx (y := (⟨"com/example/sinkwatch/sinkwatch/Condition", "contradicts", "(Lcom/example/sinkwatch/sinkwatch/Condition;)Z"⟩ : MethodName)) (z := (⟨"com/example/sinkwatch/sinkwatch/Condition", "contradicts", "(Lcom/example/sinkwatch/sinkwatch/Condition;)Z"⟩ : MethodName)) hown (mvT hZ (tw_20 hw)) (mvT hZ (tw_21 hw)) (notFace_of_selects (args := #[]) (mvT hZ (tw_23 hw))) (mvT hZ (tw_23 hw)) (mvT hZ (tw_22 hw)) (by decide) (backOf (W := 0) (rm4_9 l Z a0 hw [] b11 b17 p1 (va3 p5 p2 p1) (nar .boolean (va1 p5)) (nar .boolean (va2 p5)) p3 (va4 p5 p4 p3) T22.heap n0 F28 F24 f22_2 F25 f22_1 F26 f22_0) hZ (tw_24 hw) (tw_2 hw) (by decide) (by decide)) q27a q27c (g := (mkF m 89 (LL7 p1 p2 p3 p4 p5 b11 b17) [(.ref b17), (.ref b11)])) rfl (by rw [hml]; rfl) (Steps.refl _) (argsL := [(.ref b17)]) (rest := []) (lenOf pd_2 rfl) rfl (by show 2 * 0 + _ ≤ _; exact Nat.le_of_eq rfl) (hb hby at_89) (fun _ _ => ⟨rfl, rfl, (by decide : 2 + 0 ≤ _), (by decide : 6 + 0 ≤ _)⟩)
  dsimp only [Pt.U, Pt.locs, Pt.cells, Pt.slots] at X27 l27 y27 z27 st27 hQ27
  subst l27 y27 z27
  obtain ⟨rfl, N27q, e27q⟩ := hQ27
  have N27 := Fr.app N22 N27q
  have F32 := (Nat.le_trans (Nat.le_trans (Nat.le_trans (Nat.le_trans Z0 E10.1) K15.1) E16.1) K22.1)
  obtain ⟨_, _, ⟨T31, L31, k31, n31⟩, -, X31, ⟨Lc31, hQ31, l31, y31, z31⟩, st31⟩ := Jvm.LawKit.callS X27 hx (y := (⟨"com/example/sinkwatch/sinkwatch/ConditionContradictsPinLaw", "holds", "(ZII)Z"⟩ : MethodName)) hown (mvT hZ (tw_25 hw)) (mvT hZ (tw_26 hw)) (mvT hZ (tw_27 hw)) (mvT hZ (tw_28 hw)) (by decide) (backOf (W := 0) (rm5_3 l Z a0 hw [] (va1 p5) p3 T22.heap n0 F32 ) hZ (tw_28 hw) (tw_27 hw) (by decide) (by decide)) (g := (mkF m 117 (LL9 p1 p2 p3 p4 p5 b11 b17) [(.int p3), (.int p3), (.int (va1 p5))])) rfl (by rw [hml]; rfl) (argsL := [(.int (va1 p5)), (.int p3), (.int p3)]) (rest := []) (lenOf pd_3 rfl) rfl (by show 2 * 0 + _ ≤ _; exact Nat.le_of_eq rfl) (hb hby at_117) (fun _ _ => ⟨rfl, e27q, (by decide : 2 + 0 ≤ _), (by decide : 6 + 0 ≤ _)⟩)
  dsimp only [Pt.U, Pt.locs, Pt.cells, Pt.slots] at X31 l31 y31 z31 st31 hQ31
  subst l31 y31 z31
  obtain ⟨rfl, N31q, e31q⟩ := hQ31
  have N31 := Fr.app N27 N31q
  have F34 := (Nat.le_trans (Nat.le_trans (Nat.le_trans (Nat.le_trans Z0 E10.1) K15.1) E16.1) K22.1)
  obtain ⟨_, _, ⟨T33, L33, k33, n33⟩, -, X33, ⟨Lc33, hQ33, l33, y33, z33⟩, st33⟩ := Jvm.LawKit.callS X31 hx (y := (⟨"com/example/sinkwatch/sinkwatch/ConditionContradictsPinLaw", "holds", "(ZII)Z"⟩ : MethodName)) hown (mvT hZ (tw_25 hw)) (mvT hZ (tw_26 hw)) (mvT hZ (tw_27 hw)) (mvT hZ (tw_28 hw)) (by decide) (backOf (W := 0) (rm5_6 l Z a0 hw [] (va1 p5) p3 (va4 p5 p4 p3) T22.heap n0 F34 H2) hZ (tw_28 hw) (tw_27 hw) (by decide) (by decide)) (g := (mkF m 139 (LL9 p1 p2 p3 p4 p5 b11 b17) [(.int (va4 p5 p4 p3)), (.int p3), (.int (va1 p5))])) rfl (by rw [hml]; rfl) (argsL := [(.int (va1 p5)), (.int p3), (.int (va4 p5 p4 p3))]) (rest := []) (lenOf pd_3 rfl) rfl (by show 2 * 0 + _ ≤ _; exact Nat.le_of_eq rfl) (hb hby at_139) (fun _ _ => ⟨rfl, e31q, (by decide : 2 + 0 ≤ _), (by decide : 6 + 0 ≤ _)⟩)
  dsimp only [Pt.U, Pt.locs, Pt.cells, Pt.slots] at X33 l33 y33 z33 st33 hQ33
  subst l33 y33 z33
  obtain ⟨rfl, N33q, e33q⟩ := hQ33
  have N33 := Fr.app N31 N33q
  have F36 := (Nat.le_trans (Nat.le_trans (Nat.le_trans (Nat.le_trans Z0 E10.1) K15.1) E16.1) K22.1)
  obtain ⟨_, _, ⟨T35, L35, k35, n35⟩, -, X35, ⟨Lc35, hQ35, l35, y35, z35⟩, st35⟩ := Jvm.LawKit.callS X33 hx (y := (⟨"com/example/sinkwatch/sinkwatch/ConditionContradictsPinLaw", "holds", "(ZII)Z"⟩ : MethodName)) hown (mvT hZ (tw_25 hw)) (mvT hZ (tw_26 hw)) (mvT hZ (tw_27 hw)) (mvT hZ (tw_28 hw)) (by decide) (backOf (W := 0) (rm5_3 l Z a0 hw [] (va2 p5) (va4 p5 p4 p3) T22.heap n0 F36 ) hZ (tw_28 hw) (tw_27 hw) (by decide) (by decide)) (g := (mkF m 151 (LL9 p1 p2 p3 p4 p5 b11 b17) [(.int (va4 p5 p4 p3)), (.int (va4 p5 p4 p3)), (.int (va2 p5))])) rfl (by rw [hml]; rfl) (argsL := [(.int (va2 p5)), (.int (va4 p5 p4 p3)), (.int (va4 p5 p4 p3))]) (rest := []) (lenOf pd_3 rfl) rfl (by show 2 * 0 + _ ≤ _; exact Nat.le_of_eq rfl) (hb hby at_151) (fun _ _ => ⟨rfl, e33q, (by decide : 2 + 0 ≤ _), (by decide : 6 + 0 ≤ _)⟩)
  dsimp only [Pt.U, Pt.locs, Pt.cells, Pt.slots] at X35 l35 y35 z35 st35 hQ35
  subst l35 y35 z35
  obtain ⟨rfl, N35q, e35q⟩ := hQ35
  have N35 := Fr.app N33 N35q
  have F38 := (Nat.le_trans (Nat.le_trans (Nat.le_trans (Nat.le_trans Z0 E10.1) K15.1) E16.1) K22.1)
  obtain ⟨_, _, ⟨T37, L37, k37, n37⟩, -, X37, ⟨Lc37, hQ37, l37, y37, z37⟩, st37⟩ := Jvm.LawKit.callS X35 hx (y := (⟨"com/example/sinkwatch/sinkwatch/ConditionContradictsPinLaw", "holds", "(ZII)Z"⟩ : MethodName)) hown (mvT hZ (tw_25 hw)) (mvT hZ (tw_26 hw)) (mvT hZ (tw_27 hw)) (mvT hZ (tw_28 hw)) (by decide) (backOf (W := 0) (rm5_7 l Z a0 hw [] (va1 p5) p3 (va6 p3 p5 p4) T22.heap n0 F38 H2 H5) hZ (tw_28 hw) (tw_27 hw) (by decide) (by decide)) (g := (mkF m 162 (LL9 p1 p2 p3 p4 p5 b11 b17) [(.int (va6 p3 p5 p4)), (.int p3), (.int (va1 p5))])) rfl (by rw [hml]; rfl) (argsL := [(.int (va1 p5)), (.int p3), (.int (va6 p3 p5 p4))]) (rest := []) (lenOf pd_3 rfl) rfl (by show 2 * 0 + _ ≤ _; exact Nat.le_of_eq rfl) (hb hby at_162) (fun _ _ => ⟨rfl, e35q, (by decide : 2 + 0 ≤ _), (by decide : 6 + 0 ≤ _)⟩)
  dsimp only [Pt.U, Pt.locs, Pt.cells, Pt.slots] at X37 l37 y37 z37 st37 hQ37
  subst l37 y37 z37
  obtain ⟨rfl, N37q, e37q⟩ := hQ37
  have N37 := Fr.app N35 N37q
  have F40 := (Nat.le_trans (Nat.le_trans (Nat.le_trans (Nat.le_trans Z0 E10.1) K15.1) E16.1) K22.1)
  obtain ⟨_, _, ⟨T39, L39, k39, n39⟩, -, X39, ⟨Lc39, hQ39, l39, y39, z39⟩, st39⟩ := Jvm.LawKit.callS X37 hx (y := (⟨"com/example/sinkwatch/sinkwatch/ConditionContradictsPinLaw", "holds", "(ZII)Z"⟩ : MethodName)) hown (mvT hZ (tw_25 hw)) (mvT hZ (tw_26 hw)) (mvT hZ (tw_27 hw)) (mvT hZ (tw_28 hw)) (by decide) (backOf (W := 0) (rm5_7 l Z a0 hw [] (va2 p5) (va4 p5 p4 p3) (va6 p3 p5 p4) T22.heap n0 F40 H6 H7) hZ (tw_28 hw) (tw_27 hw) (by decide) (by decide)) (g := (mkF m 174 (LL9 p1 p2 p3 p4 p5 b11 b17) [(.int (va6 p3 p5 p4)), (.int (va4 p5 p4 p3)), (.int (va2 p5))])) rfl (by rw [hml]; rfl) (argsL := [(.int (va2 p5)), (.int (va4 p5 p4 p3)), (.int (va6 p3 p5 p4))]) (rest := []) (lenOf pd_3 rfl) rfl (by show 2 * 0 + _ ≤ _; exact Nat.le_of_eq rfl) (hb hby at_174) (fun _ _ => ⟨rfl, e37q, (by decide : 2 + 0 ≤ _), (by decide : 6 + 0 ≤ _)⟩)
  dsimp only [Pt.U, Pt.locs, Pt.cells, Pt.slots] at X39 l39 y39 z39 st39 hQ39
  subst l39 y39 z39
  obtain ⟨rfl, N39q, e39q⟩ := hQ39
  have N39 := Fr.app N37 N39q
  obtain ⟨fs, hr, hrun, hended, hW, hsame⟩ := X39.leave (v := some (.int (nar .boolean (va13 p1 p5 p2 p3 p4)))) (fun h => by rw [Bd.returns] at h; cases h)
  refine ⟨_, _, pre0 _ ?_, hrun, hended, _, _, rfl, ?_, ⟨_, rfl⟩, hW, hsame.mono (by decide) (by decide)⟩
  · show Steps p.tables e below (s₁.setTop (mkF m 0 (LL1 p1 p2 p3 p4 p5) [])) _
    refine XS.iload X0.here hx rfl (hb hby at_0) rfl ?_
    show Steps p.tables e below (s₁.setTop (mkF m 2 (LL1 p1 p2 p3 p4 p5) [(.int p5)])) _
    refine XS.iconst X0.here hx rfl (hb hby at_2) ?_
    show Steps p.tables e below (s₁.setTop (mkF m 3 (LL1 p1 p2 p3 p4 p5) [(.int (1 : Int32)), (.int p5)])) _
    refine XS.iand X0.here hx rfl (hb hby at_3) rfl ?_
    suffices j6 : Steps p.tables e below (s₁.setTop (mkF m 12 (LL1 p1 p2 p3 p4 p5) [(.int (va1 p5))])) (T39.setFrames fs) by
      show Steps p.tables e below (s₁.setTop (mkF m 4 (LL1 p1 p2 p3 p4 p5) [(.int (p5 &&& (1 : Int32)))])) _
      by_cases j6_1 : (p5 &&& (1 : Int32)) = (0 : Int32)
      ·
        refine XS.ifYes X0.here hx rfl (pc0 := 4) (pc' := 11) rfl (hb hby at_4) rfl ((if0 _ _).trans (teq j6_1).1) (by decide) (by decide) ?_
        show Steps p.tables e below (s₁.setTop (mkF m 11 (LL1 p1 p2 p3 p4 p5) [])) _
        refine XS.iconst X0.here hx rfl (hb hby at_11) ?_
        (try simp only [va1, if_pos j6_1] at j6)
        exact j6
      ·
        refine XS.ifNo X0.here hx rfl (hb hby at_4) rfl ((if0 _ _).trans (feq j6_1).1) ?_
        show Steps p.tables e below (s₁.setTop (mkF m 7 (LL1 p1 p2 p3 p4 p5) [])) _
        refine XS.iconst X0.here hx rfl (hb hby at_7) ?_
        show Steps p.tables e below (s₁.setTop (mkF m 8 (LL1 p1 p2 p3 p4 p5) [(.int (1 : Int32))])) _
        refine XS.goto X0.here hx rfl (pc0 := 8) (pc' := 12) rfl (hb hby at_8) (by decide) (by decide) ?_
        (try simp only [va1, if_neg j6_1] at j6)
        exact j6
    show Steps p.tables e below (s₁.setTop (mkF m 12 (LL1 p1 p2 p3 p4 p5) [(.int (va1 p5))])) _
    refine XS.istore X0.here hx rfl (hb hby at_12) rfl (l' := (LL2 p1 p2 p3 p4 p5)) rfl ?_
    show Steps p.tables e below (s₁.setTop (mkF m 14 (LL2 p1 p2 p3 p4 p5) [])) _
    refine XS.iload X0.here hx rfl (hb hby at_14) rfl ?_
    show Steps p.tables e below (s₁.setTop (mkF m 16 (LL2 p1 p2 p3 p4 p5) [(.int p5)])) _
    refine XS.iconst X0.here hx rfl (hb hby at_16) ?_
    show Steps p.tables e below (s₁.setTop (mkF m 17 (LL2 p1 p2 p3 p4 p5) [(.int (2 : Int32)), (.int p5)])) _
    refine XS.iand X0.here hx rfl (hb hby at_17) rfl ?_
    suffices j7 : Steps p.tables e below (s₁.setTop (mkF m 26 (LL2 p1 p2 p3 p4 p5) [(.int (va2 p5))])) (T39.setFrames fs) by
      show Steps p.tables e below (s₁.setTop (mkF m 18 (LL2 p1 p2 p3 p4 p5) [(.int (p5 &&& (2 : Int32)))])) _
      by_cases j7_1 : (p5 &&& (2 : Int32)) = (0 : Int32)
      ·
        refine XS.ifYes X0.here hx rfl (pc0 := 18) (pc' := 25) rfl (hb hby at_18) rfl ((if0 _ _).trans (teq j7_1).1) (by decide) (by decide) ?_
        show Steps p.tables e below (s₁.setTop (mkF m 25 (LL2 p1 p2 p3 p4 p5) [])) _
        refine XS.iconst X0.here hx rfl (hb hby at_25) ?_
        (try simp only [va2, if_pos j7_1] at j7)
        exact j7
      ·
        refine XS.ifNo X0.here hx rfl (hb hby at_18) rfl ((if0 _ _).trans (feq j7_1).1) ?_
        show Steps p.tables e below (s₁.setTop (mkF m 21 (LL2 p1 p2 p3 p4 p5) [])) _
        refine XS.iconst X0.here hx rfl (hb hby at_21) ?_
        show Steps p.tables e below (s₁.setTop (mkF m 22 (LL2 p1 p2 p3 p4 p5) [(.int (1 : Int32))])) _
        refine XS.goto X0.here hx rfl (pc0 := 22) (pc' := 26) rfl (hb hby at_22) (by decide) (by decide) ?_
        (try simp only [va2, if_neg j7_1] at j7)
        exact j7
    show Steps p.tables e below (s₁.setTop (mkF m 26 (LL2 p1 p2 p3 p4 p5) [(.int (va2 p5))])) _
    refine XS.istore X0.here hx rfl (hb hby at_26) rfl (l' := (LL3 p1 p2 p3 p4 p5)) rfl ?_
    show Steps p.tables e below (s₁.setTop (mkF m 28 (LL3 p1 p2 p3 p4 p5) [])) _
    refine XS.iload X0.here hx rfl (hb hby at_28) rfl ?_
    show Steps p.tables e below (s₁.setTop (mkF m 30 (LL3 p1 p2 p3 p4 p5) [(.int p5)])) _
    refine XS.iconst X0.here hx rfl (hb hby at_30) ?_
    show Steps p.tables e below (s₁.setTop (mkF m 31 (LL3 p1 p2 p3 p4 p5) [(.int (4 : Int32)), (.int p5)])) _
    refine XS.iand X0.here hx rfl (hb hby at_31) rfl ?_
    suffices j8 : Steps p.tables e below (s₁.setTop (mkF m 40 (LL3 p1 p2 p3 p4 p5) [(.int (va3 p5 p2 p1))])) (T39.setFrames fs) by
      show Steps p.tables e below (s₁.setTop (mkF m 32 (LL3 p1 p2 p3 p4 p5) [(.int (p5 &&& (4 : Int32)))])) _
      by_cases j8_1 : (p5 &&& (4 : Int32)) = (0 : Int32)
      ·
        refine XS.ifYes X0.here hx rfl (pc0 := 32) (pc' := 39) rfl (hb hby at_32) rfl ((if0 _ _).trans (teq j8_1).1) (by decide) (by decide) ?_
        show Steps p.tables e below (s₁.setTop (mkF m 39 (LL3 p1 p2 p3 p4 p5) [])) _
        refine XS.iloadN X0.here hx rfl (hb hby at_39) rfl ?_
        (try simp only [va3, if_pos j8_1] at j8)
        exact j8
      ·
        refine XS.ifNo X0.here hx rfl (hb hby at_32) rfl ((if0 _ _).trans (feq j8_1).1) ?_
        show Steps p.tables e below (s₁.setTop (mkF m 35 (LL3 p1 p2 p3 p4 p5) [])) _
        refine XS.iloadN X0.here hx rfl (hb hby at_35) rfl ?_
        show Steps p.tables e below (s₁.setTop (mkF m 36 (LL3 p1 p2 p3 p4 p5) [(.int p1)])) _
        refine XS.goto X0.here hx rfl (pc0 := 36) (pc' := 40) rfl (hb hby at_36) (by decide) (by decide) ?_
        (try simp only [va3, if_neg j8_1] at j8)
        exact j8
    show Steps p.tables e below (s₁.setTop (mkF m 40 (LL3 p1 p2 p3 p4 p5) [(.int (va3 p5 p2 p1))])) _
    refine XS.istore X0.here hx rfl (hb hby at_40) rfl (l' := (LL4 p1 p2 p3 p4 p5)) rfl ?_
    show Steps p.tables e below (s₁.setTop (mkF m 42 (LL4 p1 p2 p3 p4 p5) [])) _
    refine XS.iload X0.here hx rfl (hb hby at_42) rfl ?_
    show Steps p.tables e below (s₁.setTop (mkF m 44 (LL4 p1 p2 p3 p4 p5) [(.int p5)])) _
    refine XS.bipush X0.here hx rfl (hb hby at_44) ?_
    show Steps p.tables e below (s₁.setTop (mkF m 46 (LL4 p1 p2 p3 p4 p5) [(.int (8 : Int32)), (.int p5)])) _
    refine XS.iand X0.here hx rfl (hb hby at_46) rfl ?_
    suffices j9 : Steps p.tables e below (s₁.setTop (mkF m 55 (LL4 p1 p2 p3 p4 p5) [(.int (va4 p5 p4 p3))])) (T39.setFrames fs) by
      show Steps p.tables e below (s₁.setTop (mkF m 47 (LL4 p1 p2 p3 p4 p5) [(.int (p5 &&& (8 : Int32)))])) _
      by_cases j9_1 : (p5 &&& (8 : Int32)) = (0 : Int32)
      ·
        refine XS.ifYes X0.here hx rfl (pc0 := 47) (pc' := 54) rfl (hb hby at_47) rfl ((if0 _ _).trans (teq j9_1).1) (by decide) (by decide) ?_
        show Steps p.tables e below (s₁.setTop (mkF m 54 (LL4 p1 p2 p3 p4 p5) [])) _
        refine XS.iloadN X0.here hx rfl (hb hby at_54) rfl ?_
        (try simp only [va4, if_pos j9_1] at j9)
        exact j9
      ·
        refine XS.ifNo X0.here hx rfl (hb hby at_47) rfl ((if0 _ _).trans (feq j9_1).1) ?_
        show Steps p.tables e below (s₁.setTop (mkF m 50 (LL4 p1 p2 p3 p4 p5) [])) _
        refine XS.iloadN X0.here hx rfl (hb hby at_50) rfl ?_
        show Steps p.tables e below (s₁.setTop (mkF m 51 (LL4 p1 p2 p3 p4 p5) [(.int p3)])) _
        refine XS.goto X0.here hx rfl (pc0 := 51) (pc' := 55) rfl (hb hby at_51) (by decide) (by decide) ?_
        (try simp only [va4, if_neg j9_1] at j9)
        exact j9
    show Steps p.tables e below (s₁.setTop (mkF m 55 (LL4 p1 p2 p3 p4 p5) [(.int (va4 p5 p4 p3))])) _
    refine XS.istore X0.here hx rfl (hb hby at_55) rfl (l' := (LL5 p1 p2 p3 p4 p5)) rfl ?_
    show Steps p.tables e below (s₁.setTop (mkF m 57 (LL5 p1 p2 p3 p4 p5) [])) _
    refine st10 _ ?_
    show Steps p.tables e below (T10.setTop (mkF m 60 (LL5 p1 p2 p3 p4 p5) [(.ref b11)])) _
    refine XS.dup X10.here hx rfl (hb hby at_60) rfl rfl ?_
    show Steps p.tables e below (T10.setTop (mkF m 61 (LL5 p1 p2 p3 p4 p5) [(.ref b11), (.ref b11)])) _
    refine XS.iloadN X10.here hx rfl (hb hby at_61) rfl ?_
    show Steps p.tables e below (T10.setTop (mkF m 62 (LL5 p1 p2 p3 p4 p5) [(.int p1), (.ref b11), (.ref b11)])) _
    refine XS.iload X10.here hx rfl (hb hby at_62) rfl ?_
    show Steps p.tables e below (T10.setTop (mkF m 64 (LL5 p1 p2 p3 p4 p5) [(.int (va1 p5)), (.int p1), (.ref b11), (.ref b11)])) _
    refine XS.iloadN X10.here hx rfl (hb hby at_64) rfl ?_
    show Steps p.tables e below (T10.setTop (mkF m 65 (LL5 p1 p2 p3 p4 p5) [(.int p3), (.int (va1 p5)), (.int p1), (.ref b11), (.ref b11)])) _
    refine st15.trans ?_
    show Steps p.tables e below (T15.setTop (mkF m 68 (LL5 p1 p2 p3 p4 p5) [(.ref b11)])) _
    refine XS.astore X15.here hx rfl (hb hby at_68) rfl rfl (l' := (LL6 p1 p2 p3 p4 p5 b11)) rfl ?_
    show Steps p.tables e below (T15.setTop (mkF m 70 (LL6 p1 p2 p3 p4 p5 b11) [])) _
    refine st16 _ ?_
    show Steps p.tables e below (T16.setTop (mkF m 73 (LL6 p1 p2 p3 p4 p5 b11) [(.ref b17)])) _
    refine XS.dup X16.here hx rfl (hb hby at_73) rfl rfl ?_
    show Steps p.tables e below (T16.setTop (mkF m 74 (LL6 p1 p2 p3 p4 p5 b11) [(.ref b17), (.ref b17)])) _
    refine XS.iload X16.here hx rfl (hb hby at_74) rfl ?_
    show Steps p.tables e below (T16.setTop (mkF m 76 (LL6 p1 p2 p3 p4 p5 b11) [(.int (va3 p5 p2 p1)), (.ref b17), (.ref b17)])) _
    refine XS.iload X16.here hx rfl (hb hby at_76) rfl ?_
    show Steps p.tables e below (T16.setTop (mkF m 78 (LL6 p1 p2 p3 p4 p5 b11) [(.int (va2 p5)), (.int (va3 p5 p2 p1)), (.ref b17), (.ref b17)])) _
    refine XS.iload X16.here hx rfl (hb hby at_78) rfl ?_
    show Steps p.tables e below (T16.setTop (mkF m 80 (LL6 p1 p2 p3 p4 p5 b11) [(.int (va4 p5 p4 p3)), (.int (va2 p5)), (.int (va3 p5 p2 p1)), (.ref b17), (.ref b17)])) _
    refine st22.trans ?_
    show Steps p.tables e below (T22.setTop (mkF m 83 (LL6 p1 p2 p3 p4 p5 b11) [(.ref b17)])) _
    refine XS.astore X22.here hx rfl (hb hby at_83) rfl rfl (l' := (LL7 p1 p2 p3 p4 p5 b11 b17)) rfl ?_
    show Steps p.tables e below (T22.setTop (mkF m 85 (LL7 p1 p2 p3 p4 p5 b11 b17) [])) _
    refine XS.aload X22.here hx rfl (hb hby at_85) rfl rfl ?_
    show Steps p.tables e below (T22.setTop (mkF m 87 (LL7 p1 p2 p3 p4 p5 b11 b17) [(.ref b11)])) _
    refine XS.aload X22.here hx rfl (hb hby at_87) rfl rfl ?_
    show Steps p.tables e below (T22.setTop (mkF m 89 (LL7 p1 p2 p3 p4 p5 b11 b17) [(.ref b17), (.ref b11)])) _
    refine st27.trans ?_
    show Steps p.tables e below (T27.setTop (mkF m 92 (LL7 p1 p2 p3 p4 p5 b11 b17) [(.int (va5 p1 (va3 p5 p2 p1) (nar .boolean (va1 p5)) (nar .boolean (va2 p5)) p3 (va4 p5 p4 p3)))])) _
    refine XS.istore X27.here hx rfl (hb hby at_92) rfl (l' := (LL8 p1 p2 p3 p4 p5 b11 b17)) rfl ?_
    show Steps p.tables e below (T27.setTop (mkF m 94 (LL8 p1 p2 p3 p4 p5 b11 b17) [])) _
    refine XS.iloadN X27.here hx rfl (hb hby at_94) rfl ?_
    show Steps p.tables e below (T27.setTop (mkF m 95 (LL8 p1 p2 p3 p4 p5 b11 b17) [(.int p3)])) _
    refine XS.iconst X27.here hx rfl (hb hby at_95) ?_
    show Steps p.tables e below (T27.setTop (mkF m 96 (LL8 p1 p2 p3 p4 p5 b11 b17) [(.int (1 : Int32)), (.int p3)])) _
    refine XS.iadd X27.here hx rfl (hb hby at_96) rfl ?_
    show Steps p.tables e below (T27.setTop (mkF m 97 (LL8 p1 p2 p3 p4 p5 b11 b17) [(.int (p3 + (1 : Int32)))])) _
    refine XS.iload X27.here hx rfl (hb hby at_97) rfl ?_
    suffices j30 : Steps p.tables e below (T27.setTop (mkF m 111 (LL8 p1 p2 p3 p4 p5 b11 b17) [(.int (va6 p3 p5 p4))])) (T39.setFrames fs) by
      show Steps p.tables e below (T27.setTop (mkF m 99 (LL8 p1 p2 p3 p4 p5 b11 b17) [(.int (va4 p5 p4 p3)), (.int (p3 + (1 : Int32)))])) _
      by_cases j30_1 : (p3 + (1 : Int32)) = (va4 p5 p4 p3)
      ·
        refine XS.icmpYes X27.here hx rfl (pc0 := 99) (pc' := 108) rfl (hb hby at_99) rfl (teq j30_1).1 (by decide) (by decide) ?_
        show Steps p.tables e below (T27.setTop (mkF m 108 (LL8 p1 p2 p3 p4 p5 b11 b17) [])) _
        refine XS.iloadN X27.here hx rfl (hb hby at_108) rfl ?_
        show Steps p.tables e below (T27.setTop (mkF m 109 (LL8 p1 p2 p3 p4 p5 b11 b17) [(.int p3)])) _
        refine XS.iconst X27.here hx rfl (hb hby at_109) ?_
        show Steps p.tables e below (T27.setTop (mkF m 110 (LL8 p1 p2 p3 p4 p5 b11 b17) [(.int (2 : Int32)), (.int p3)])) _
        refine XS.iadd X27.here hx rfl (hb hby at_110) rfl ?_
        (try simp only [va6, if_pos j30_1] at j30)
        exact j30
      ·
        refine XS.icmpNo X27.here hx rfl (hb hby at_99) rfl (feq j30_1).1 ?_
        show Steps p.tables e below (T27.setTop (mkF m 102 (LL8 p1 p2 p3 p4 p5 b11 b17) [])) _
        refine XS.iloadN X27.here hx rfl (hb hby at_102) rfl ?_
        show Steps p.tables e below (T27.setTop (mkF m 103 (LL8 p1 p2 p3 p4 p5 b11 b17) [(.int p3)])) _
        refine XS.iconst X27.here hx rfl (hb hby at_103) ?_
        show Steps p.tables e below (T27.setTop (mkF m 104 (LL8 p1 p2 p3 p4 p5 b11 b17) [(.int (1 : Int32)), (.int p3)])) _
        refine XS.iadd X27.here hx rfl (hb hby at_104) rfl ?_
        show Steps p.tables e below (T27.setTop (mkF m 105 (LL8 p1 p2 p3 p4 p5 b11 b17) [(.int (p3 + (1 : Int32)))])) _
        refine XS.goto X27.here hx rfl (pc0 := 105) (pc' := 111) rfl (hb hby at_105) (by decide) (by decide) ?_
        (try simp only [va6, if_neg j30_1] at j30)
        exact j30
    show Steps p.tables e below (T27.setTop (mkF m 111 (LL8 p1 p2 p3 p4 p5 b11 b17) [(.int (va6 p3 p5 p4))])) _
    refine XS.istore X27.here hx rfl (hb hby at_111) rfl (l' := (LL9 p1 p2 p3 p4 p5 b11 b17)) rfl ?_
    show Steps p.tables e below (T27.setTop (mkF m 113 (LL9 p1 p2 p3 p4 p5 b11 b17) [])) _
    refine XS.iload X27.here hx rfl (hb hby at_113) rfl ?_
    show Steps p.tables e below (T27.setTop (mkF m 115 (LL9 p1 p2 p3 p4 p5 b11 b17) [(.int (va1 p5))])) _
    refine XS.iloadN X27.here hx rfl (hb hby at_115) rfl ?_
    show Steps p.tables e below (T27.setTop (mkF m 116 (LL9 p1 p2 p3 p4 p5 b11 b17) [(.int p3), (.int (va1 p5))])) _
    refine XS.iloadN X27.here hx rfl (hb hby at_116) rfl ?_
    show Steps p.tables e below (T27.setTop (mkF m 117 (LL9 p1 p2 p3 p4 p5 b11 b17) [(.int p3), (.int p3), (.int (va1 p5))])) _
    refine st31 _ ?_
    show Steps p.tables e below (T31.setTop (mkF m 120 (LL9 p1 p2 p3 p4 p5 b11 b17) [(.int (va7 (va1 p5)))])) _
    refine XS.ifYes X31.here hx rfl (pc0 := 120) (pc' := 134) rfl (hb hby at_120) rfl ((if0 _ _).trans (teq H1).1) (by decide) (by decide) ?_
    show Steps p.tables e below (T31.setTop (mkF m 134 (LL9 p1 p2 p3 p4 p5 b11 b17) [])) _
    refine XS.iload X31.here hx rfl (hb hby at_134) rfl ?_
    show Steps p.tables e below (T31.setTop (mkF m 136 (LL9 p1 p2 p3 p4 p5 b11 b17) [(.int (va1 p5))])) _
    refine XS.iloadN X31.here hx rfl (hb hby at_136) rfl ?_
    show Steps p.tables e below (T31.setTop (mkF m 137 (LL9 p1 p2 p3 p4 p5 b11 b17) [(.int p3), (.int (va1 p5))])) _
    refine XS.iload X31.here hx rfl (hb hby at_137) rfl ?_
    show Steps p.tables e below (T31.setTop (mkF m 139 (LL9 p1 p2 p3 p4 p5 b11 b17) [(.int (va4 p5 p4 p3)), (.int p3), (.int (va1 p5))])) _
    refine st33 _ ?_
    show Steps p.tables e below (T33.setTop (mkF m 142 (LL9 p1 p2 p3 p4 p5 b11 b17) [(.int (va8 (va4 p5 p4 p3) p3))])) _
    refine XS.ifNo X33.here hx rfl (hb hby at_142) rfl ((if0 _ _).trans (feq H3).1) ?_
    show Steps p.tables e below (T33.setTop (mkF m 145 (LL9 p1 p2 p3 p4 p5 b11 b17) [])) _
    refine XS.iload X33.here hx rfl (hb hby at_145) rfl ?_
    show Steps p.tables e below (T33.setTop (mkF m 147 (LL9 p1 p2 p3 p4 p5 b11 b17) [(.int (va2 p5))])) _
    refine XS.iload X33.here hx rfl (hb hby at_147) rfl ?_
    show Steps p.tables e below (T33.setTop (mkF m 149 (LL9 p1 p2 p3 p4 p5 b11 b17) [(.int (va4 p5 p4 p3)), (.int (va2 p5))])) _
    refine XS.iload X33.here hx rfl (hb hby at_149) rfl ?_
    show Steps p.tables e below (T33.setTop (mkF m 151 (LL9 p1 p2 p3 p4 p5 b11 b17) [(.int (va4 p5 p4 p3)), (.int (va4 p5 p4 p3)), (.int (va2 p5))])) _
    refine st35 _ ?_
    show Steps p.tables e below (T35.setTop (mkF m 154 (LL9 p1 p2 p3 p4 p5 b11 b17) [(.int (va7 (va2 p5)))])) _
    refine XS.ifNo X35.here hx rfl (hb hby at_154) rfl ((if0 _ _).trans (teq H4).2) ?_
    show Steps p.tables e below (T35.setTop (mkF m 157 (LL9 p1 p2 p3 p4 p5 b11 b17) [])) _
    refine XS.iload X35.here hx rfl (hb hby at_157) rfl ?_
    show Steps p.tables e below (T35.setTop (mkF m 159 (LL9 p1 p2 p3 p4 p5 b11 b17) [(.int (va1 p5))])) _
    refine XS.iloadN X35.here hx rfl (hb hby at_159) rfl ?_
    show Steps p.tables e below (T35.setTop (mkF m 160 (LL9 p1 p2 p3 p4 p5 b11 b17) [(.int p3), (.int (va1 p5))])) _
    refine XS.iload X35.here hx rfl (hb hby at_160) rfl ?_
    show Steps p.tables e below (T35.setTop (mkF m 162 (LL9 p1 p2 p3 p4 p5 b11 b17) [(.int (va6 p3 p5 p4)), (.int p3), (.int (va1 p5))])) _
    refine st37 _ ?_
    show Steps p.tables e below (T37.setTop (mkF m 165 (LL9 p1 p2 p3 p4 p5 b11 b17) [(.int (1 : Int32))])) _
    refine XS.ifNo X37.here hx rfl (hb hby at_165) rfl ((if0 _ _).trans (feq (by decide : ¬ ((1 : Int32) = (0 : Int32)))).1) ?_
    show Steps p.tables e below (T37.setTop (mkF m 168 (LL9 p1 p2 p3 p4 p5 b11 b17) [])) _
    refine XS.iload X37.here hx rfl (hb hby at_168) rfl ?_
    show Steps p.tables e below (T37.setTop (mkF m 170 (LL9 p1 p2 p3 p4 p5 b11 b17) [(.int (va2 p5))])) _
    refine XS.iload X37.here hx rfl (hb hby at_170) rfl ?_
    show Steps p.tables e below (T37.setTop (mkF m 172 (LL9 p1 p2 p3 p4 p5 b11 b17) [(.int (va4 p5 p4 p3)), (.int (va2 p5))])) _
    refine XS.iload X37.here hx rfl (hb hby at_172) rfl ?_
    show Steps p.tables e below (T37.setTop (mkF m 174 (LL9 p1 p2 p3 p4 p5 b11 b17) [(.int (va6 p3 p5 p4)), (.int (va4 p5 p4 p3)), (.int (va2 p5))])) _
    refine st39 _ ?_
    show Steps p.tables e below (T39.setTop (mkF m 177 (LL9 p1 p2 p3 p4 p5 b11 b17) [(.int (1 : Int32))])) _
    refine XS.ifNo X39.here hx rfl (hb hby at_177) rfl ((if0 _ _).trans (feq (by decide : ¬ ((1 : Int32) = (0 : Int32)))).1) ?_
    show Steps p.tables e below (T39.setTop (mkF m 180 (LL9 p1 p2 p3 p4 p5 b11 b17) [])) _
    refine XS.iconst X39.here hx rfl (hb hby at_180) ?_
    show Steps p.tables e below (T39.setTop (mkF m 181 (LL9 p1 p2 p3 p4 p5 b11 b17) [(.int (1 : Int32))])) _
    refine XS.goto X39.here hx rfl (pc0 := 181) (pc' := 185) rfl (hb hby at_181) (by decide) (by decide) ?_
    show Steps p.tables e below (T39.setTop (mkF m 185 (LL9 p1 p2 p3 p4 p5 b11 b17) [(.int (1 : Int32))])) _
    refine XS.istore X39.here hx rfl (hb hby at_185) rfl (l' := (LL12 p1 p2 p3 p4 p5 b11 b17)) rfl ?_
    show Steps p.tables e below (T39.setTop (mkF m 187 (LL12 p1 p2 p3 p4 p5 b11 b17) [])) _
    refine XS.iloadN X39.here hx rfl (hb hby at_187) rfl ?_
    show Steps p.tables e below (T39.setTop (mkF m 188 (LL12 p1 p2 p3 p4 p5 b11 b17) [(.int p1)])) _
    refine XS.iload X39.here hx rfl (hb hby at_188) rfl ?_
    suffices j41 : Steps p.tables e below (T39.setTop (mkF m 203 (LL12 p1 p2 p3 p4 p5 b11 b17) [(.int (0 : Int32))])) (T39.setFrames fs) by
      show Steps p.tables e below (T39.setTop (mkF m 190 (LL12 p1 p2 p3 p4 p5 b11 b17) [(.int (va3 p5 p2 p1)), (.int p1)])) _
      by_cases j41_1 : p1 = (va3 p5 p2 p1)
      ·
        refine XS.icmpNo X39.here hx rfl (hb hby at_190) rfl (teq j41_1).2 ?_
        show Steps p.tables e below (T39.setTop (mkF m 193 (LL12 p1 p2 p3 p4 p5 b11 b17) [])) _
        refine XS.iload X39.here hx rfl (hb hby at_193) rfl ?_
        show Steps p.tables e below (T39.setTop (mkF m 195 (LL12 p1 p2 p3 p4 p5 b11 b17) [(.int (1 : Int32))])) _
        refine XS.ifYes X39.here hx rfl (pc0 := 195) (pc' := 202) rfl (hb hby at_195) rfl ((if0 _ _).trans (feq (by decide : ¬ ((1 : Int32) = (0 : Int32)))).2) (by decide) (by decide) ?_
        show Steps p.tables e below (T39.setTop (mkF m 202 (LL12 p1 p2 p3 p4 p5 b11 b17) [])) _
        refine XS.iconst X39.here hx rfl (hb hby at_202) ?_
        (try simp only [if_pos j41_1] at j41)
        exact j41
      ·
        refine XS.icmpYes X39.here hx rfl (pc0 := 190) (pc' := 202) rfl (hb hby at_190) rfl (feq j41_1).2 (by decide) (by decide) ?_
        show Steps p.tables e below (T39.setTop (mkF m 202 (LL12 p1 p2 p3 p4 p5 b11 b17) [])) _
        refine XS.iconst X39.here hx rfl (hb hby at_202) ?_
        (try simp only [if_neg j41_1] at j41)
        exact j41
    show Steps p.tables e below (T39.setTop (mkF m 203 (LL12 p1 p2 p3 p4 p5 b11 b17) [(.int (0 : Int32))])) _
    refine XS.istore X39.here hx rfl (hb hby at_203) rfl (l' := (LL13 p1 p2 p3 p4 p5 b11 b17)) rfl ?_
    show Steps p.tables e below (T39.setTop (mkF m 205 (LL13 p1 p2 p3 p4 p5 b11 b17) [])) _
    refine XS.iload X39.here hx rfl (hb hby at_205) rfl ?_
    show Steps p.tables e below (T39.setTop (mkF m 207 (LL13 p1 p2 p3 p4 p5 b11 b17) [(.int (va5 p1 (va3 p5 p2 p1) (nar .boolean (va1 p5)) (nar .boolean (va2 p5)) p3 (va4 p5 p4 p3)))])) _
    refine XS.iload X39.here hx rfl (hb hby at_207) rfl ?_
    suffices j42 : Steps p.tables e below (T39.setTop (mkF m 217 (LL13 p1 p2 p3 p4 p5 b11 b17) [(.int (va13 p1 p5 p2 p3 p4))])) (T39.setFrames fs) by
      show Steps p.tables e below (T39.setTop (mkF m 209 (LL13 p1 p2 p3 p4 p5 b11 b17) [(.int (0 : Int32)), (.int (va5 p1 (va3 p5 p2 p1) (nar .boolean (va1 p5)) (nar .boolean (va2 p5)) p3 (va4 p5 p4 p3)))])) _
      by_cases j42_1 : (va5 p1 (va3 p5 p2 p1) (nar .boolean (va1 p5)) (nar .boolean (va2 p5)) p3 (va4 p5 p4 p3)) = (0 : Int32)
      ·
        refine XS.icmpNo X39.here hx rfl (hb hby at_209) rfl (teq j42_1).2 ?_
        show Steps p.tables e below (T39.setTop (mkF m 212 (LL13 p1 p2 p3 p4 p5 b11 b17) [])) _
        refine XS.iconst X39.here hx rfl (hb hby at_212) ?_
        show Steps p.tables e below (T39.setTop (mkF m 213 (LL13 p1 p2 p3 p4 p5 b11 b17) [(.int (1 : Int32))])) _
        refine XS.goto X39.here hx rfl (pc0 := 213) (pc' := 217) rfl (hb hby at_213) (by decide) (by decide) ?_
        (try simp only [va13, if_pos j42_1] at j42)
        exact j42
      ·
        refine XS.icmpYes X39.here hx rfl (pc0 := 209) (pc' := 216) rfl (hb hby at_209) rfl (feq j42_1).2 (by decide) (by decide) ?_
        show Steps p.tables e below (T39.setTop (mkF m 216 (LL13 p1 p2 p3 p4 p5 b11 b17) [])) _
        refine XS.iconst X39.here hx rfl (hb hby at_216) ?_
        (try simp only [va13, if_neg j42_1] at j42)
        exact j42
    show Steps p.tables e below (T39.setTop (mkF m 217 (LL13 p1 p2 p3 p4 p5 b11 b17) [(.int (va13 p1 p5 p2 p3 p4))])) _
    exact retN X39 hx (t := .boolean) Bd.returns (by simp) (hb hby at_217) hr
  · show Q0 h0 n0 _ T39.heap _
    rw [e39q]
    exact ⟨(congrArg (fun z => some (Value.int z)) H8), N39⟩
set_option maxRecDepth 65536 in
set_option maxHeartbeats 40000000 in
theorem rm0_2 (l : Launch) (Z : State) (a0 : Array Value) (hw : ∀ d ∈ tables_1, d.before a0 Z = true) (ws : List Jvm.Cond) (p1 : Int32) (p2 : Int32) (p3 : Int32) (p4 : Int32) (p5 : Int32) (h0 : Heap) (n0 : Nat) (Z0 : n0 ≤ h0.size) (H1 : (va7 (va1 p5)) = (0 : Int32)) (H2 : (va1 p5) = (0 : Int32)) (H3 : ¬ ((va8 (va4 p5 p4 p3) p3) = (0 : Int32))) (H4 : ¬ ((va7 (va2 p5)) = (0 : Int32))) (H5 : (nar .boolean (va13 p1 p5 p2 p3 p4)) = (1 : Int32)) :
    MetFree l x (head1 (Jvm.Cond.code x code maxLocals ret :: ws) room_1) (fun a U => a = #[(.int p1), (.int p2), (.int p3), (.int p4), (.int p5)] ∧ Z.Warmed39 U.vm ∧ U.heap = h0) (fun _ _ _ _ _ => True) (fun _ U o U' => ∃ v L, o = .returned v ∧ Q0 h0 n0 v U'.heap L ∧ FrameEnd U o U' L 16 128) := by
  refine MetFree.of_bodySF (plainFor_of_name pn_2) hisR ?_
  intro p e s m args below meth c s₁ Bd hml0 hP hK
  obtain ⟨rfl, hZ, hh⟩ := hP
  have hx := Bd.exec
  have hby := Bd.bytes
  have hml : c.maxLocals = 15 := hml0
  have hown : s.vm.findClass "com/example/sinkwatch/sinkwatch/ConditionContradictsPinLaw" = some m.cls := findClass_of_methodNamed Bd.named
  have hnm := (name_of_methodNamed Bd.named Bd.method).1
  have X0 : Stand p l e room_1 s m #[(.int p1), (.int p2), (.int p3), (.int p4), (.int p5)] below meth c s₁ [] 0 0 := Stand.of_body Bd
  have e0 : s₁.heap = h0 := by rw [← hh, Bd.state]; rfl
  have N0 := Fr.nil n0
  have pre0 : ∀ t, Steps p.tables e below (s₁.setTop (mkF m 0 #[.val (.int p1), .val (.int p2), .val (.int p3), .val (.int p4), .val (.int p5), .unset, .unset, .unset, .unset, .unset, .unset, .unset, .unset, .unset, .unset] [])) t → Steps p.tables e below (s₁.setTop (entryFrame m #[(.int p1), (.int p2), (.int p3), (.int p4), (.int p5)] maxLocals)) t := fun t k => castTop (ef0 m p1 p2 p3 p4 p5) k
  obtain ⟨T10, h10, X10, e10, E10, A10, D10, -, st10⟩ := newO X0 hx hZ hown (tw_0 hw) (tw_1 hw) (tw_2 hw) e0 (g := (mkF m 57 (LL5 p1 p2 p3 p4 p5) [])) rfl (hb hby at_57) (by decide) (by decide)
  obtain ⟨b11, g10⟩ : ∃ z, z = h0.size := ⟨_, rfl⟩
  rw [← g10] at A10 D10 st10
  have q10 : n0 ≤ b11 := Nat.le_trans Z0 (Nat.le_of_eq g10.symm)
  have z10 : h0.size ≤ b11 := Nat.le_trans (Nat.le_refl h0.size) (Nat.le_of_eq g10.symm)
  have F12 : Fld Z h10 b11 "com/example/sinkwatch/sinkwatch/Condition" "local" "I" (.int (0 : Int32)) := D10 (Or.inr (tw_15 hw)) (ty := .int) (by decide)
  have F13 : Fld Z h10 b11 "com/example/sinkwatch/sinkwatch/Condition" "equal" "Z" (.int (0 : Int32)) := D10 (Or.inr (tw_17 hw)) (ty := .boolean) (by decide)
  have F14 : Fld Z h10 b11 "com/example/sinkwatch/sinkwatch/Condition" "constant" "I" (.int (0 : Int32)) := D10 (Or.inr (tw_19 hw)) (ty := .int) (by decide)
  obtain ⟨_, _, ⟨T15, L15, k15, n15⟩, -, X15, ⟨Lc15, hQ15, l15, y15, z15⟩, st15⟩ := X10.specialBack hx (y := (⟨"com/example/sinkwatch/sinkwatch/Condition", "<init>", "(IZI)V"⟩ : MethodName)) rfl hown (mvT hZ (tw_3 hw)) (mvT hZ (tw_4 hw)) (mvT hZ (tw_5 hw)) (by decide) (backOf (W := 1) (rm1_1 l Z a0 hw [] b11 p1 (va1 p5) p3 h10 n0 (Nat.le_trans Z0 E10.1) F12 A10 q10 F13 F14) hZ (tw_5 hw) (tw_2 hw) (by decide) (by decide)) (g := (mkF m 65 (LL5 p1 p2 p3 p4 p5) [(.int p3), (.int (va1 p5)), (.int p1), (.ref b11), (.ref b11)])) rfl (by rw [hml]; rfl) (Steps.refl _) (a := b11) (argsL := [(.int p1), (.int (va1 p5)), (.int p3)]) (rest := [(.ref b11)]) (lenOf pd_1 rfl) rfl (by show 2 * 0 + _ ≤ _; exact Nat.le_of_eq rfl) (hb hby at_65) (fun _ _ => ⟨rfl, e10, (by decide : 1 + 0 ≤ _), (by decide : 3 + 0 ≤ _)⟩)
  dsimp only [Pt.U, Pt.locs, Pt.cells, Pt.slots] at X15 l15 y15 z15 st15 hQ15
  subst l15 y15 z15
  obtain ⟨rfl, N15q, K15, f15_0, f15_1, f15_2⟩ := hQ15
  have N15 := Fr.app N0 N15q
  obtain ⟨T16, h16, X16, e16, E16, A16, D16, -, st16⟩ := newO X15 hx hZ hown (tw_0 hw) (tw_1 hw) (tw_2 hw) rfl (g := (mkF m 70 (LL6 p1 p2 p3 p4 p5 b11) [])) rfl (hb hby at_70) (by decide) (by decide)
  obtain ⟨b17, g16⟩ : ∃ z, z = T15.heap.size := ⟨_, rfl⟩
  rw [← g16] at A16 D16 st16
  have F18 := (Nat.le_trans (Nat.le_trans (Nat.le_refl h0.size) E10.1) K15.1)
  have q16 : n0 ≤ b17 := Nat.le_trans (Nat.le_trans (Nat.le_trans Z0 E10.1) K15.1) (Nat.le_of_eq g16.symm)
  have z16 : h0.size ≤ b17 := Nat.le_trans F18 (Nat.le_of_eq g16.symm)
  have F19 : Fld Z h16 b17 "com/example/sinkwatch/sinkwatch/Condition" "local" "I" (.int (0 : Int32)) := D16 (Or.inr (tw_15 hw)) (ty := .int) (by decide)
  have F20 : Fld Z h16 b17 "com/example/sinkwatch/sinkwatch/Condition" "equal" "Z" (.int (0 : Int32)) := D16 (Or.inr (tw_17 hw)) (ty := .boolean) (by decide)
  have F21 : Fld Z h16 b17 "com/example/sinkwatch/sinkwatch/Condition" "constant" "I" (.int (0 : Int32)) := D16 (Or.inr (tw_19 hw)) (ty := .int) (by decide)
  have F23 := (Nat.le_trans (Nat.le_trans (Nat.le_trans Z0 E10.1) K15.1) E16.1)
  obtain ⟨_, _, ⟨T22, L22, k22, n22⟩, -, X22, ⟨Lc22, hQ22, l22, y22, z22⟩, st22⟩ := X16.specialBack hx (y := (⟨"com/example/sinkwatch/sinkwatch/Condition", "<init>", "(IZI)V"⟩ : MethodName)) rfl hown (mvT hZ (tw_3 hw)) (mvT hZ (tw_4 hw)) (mvT hZ (tw_5 hw)) (by decide) (backOf (W := 1) (rm1_1 l Z a0 hw [] b17 (va3 p5 p2 p1) (va2 p5) (va4 p5 p4 p3) h16 n0 F23 F19 A16 q16 F20 F21) hZ (tw_5 hw) (tw_2 hw) (by decide) (by decide)) (g := (mkF m 80 (LL6 p1 p2 p3 p4 p5 b11) [(.int (va4 p5 p4 p3)), (.int (va2 p5)), (.int (va3 p5 p2 p1)), (.ref b17), (.ref b17)])) rfl (by rw [hml]; rfl) (Steps.refl _) (a := b17) (argsL := [(.int (va3 p5 p2 p1)), (.int (va2 p5)), (.int (va4 p5 p4 p3))]) (rest := [(.ref b17)]) (lenOf pd_1 rfl) rfl (by show 2 * 0 + _ ≤ _; exact Nat.le_of_eq rfl) (hb hby at_80) (fun _ _ => ⟨rfl, e16, (by decide : 2 + 0 ≤ _), (by decide : 6 + 0 ≤ _)⟩)
  dsimp only [Pt.U, Pt.locs, Pt.cells, Pt.slots] at X22 l22 y22 z22 st22 hQ22
  subst l22 y22 z22
  obtain ⟨rfl, N22q, K22, f22_0, f22_1, f22_2⟩ := hQ22
  have N22 := Fr.app N15 N22q
  have F24 := (Fld.keep (Fld.ext E16 f15_2) K22 (ninS (Nat.ne_of_lt (Nat.lt_of_lt_of_le f15_0.lt (Nat.le_of_eq g16.symm))) nin0))
  have F25 := (Fld.keep (Fld.ext E16 f15_1) K22 (ninS (Nat.ne_of_lt (Nat.lt_of_lt_of_le f15_0.lt (Nat.le_of_eq g16.symm))) nin0))
  have F26 := (Fld.keep (Fld.ext E16 f15_0) K22 (ninS (Nat.ne_of_lt (Nat.lt_of_lt_of_le f15_0.lt (Nat.le_of_eq g16.symm))) nin0))
  have F28 := (Nat.le_trans (Nat.le_trans (Nat.le_trans (Nat.le_trans Z0 E10.1) K15.1) E16.1) K22.1)
  have F29 := (Exa.keep (Exa.ext E16 (Exa.keep A10 K15)) K22)
  obtain ⟨cq27, kq27, q27a, q27b, q27c⟩ := isOf hZ rfl F29
  obtain ⟨_, _, ⟨T27, L27, k27, n27⟩, -, X27, ⟨Lc27, hQ27, l27, y27, z27⟩, st27⟩ := X22.virtualBack hx (y := (⟨"com/example/sinkwatch/sinkwatch/Condition", "contradicts", "(Lcom/example/sinkwatch/sinkwatch/Condition;)Z"⟩ : MethodName)) (z := (⟨"com/example/sinkwatch/sinkwatch/Condition", "contradicts", "(Lcom/example/sinkwatch/sinkwatch/Condition;)Z"⟩ : MethodName)) hown (mvT hZ (tw_20 hw)) (mvT hZ (tw_21 hw)) (notFace_of_selects (args := #[]) (mvT hZ (tw_23 hw))) (mvT hZ (tw_23 hw)) (mvT hZ (tw_22 hw)) (by decide) (backOf (W := 0) (rm4_9 l Z a0 hw [] b11 b17 p1 (va3 p5 p2 p1) (nar .boolean (va1 p5)) (nar .boolean (va2 p5)) p3 (va4 p5 p4 p3) T22.heap n0 F28 F24 f22_2 F25 f22_1 F26 f22_0) hZ (tw_24 hw) (tw_2 hw) (by decide) (by decide)) q27a q27c (g := (mkF m 89 (LL7 p1 p2 p3 p4 p5 b11 b17) [(.ref b17), (.ref b11)])) rfl (by rw [hml]; rfl) (Steps.refl _) (argsL := [(.ref b17)]) (rest := []) (lenOf pd_2 rfl) rfl (by show 2 * 0 + _ ≤ _; exact Nat.le_of_eq rfl) (hb hby at_89) (fun _ _ => ⟨rfl, rfl, (by decide : 2 + 0 ≤ _), (by decide : 6 + 0 ≤ _)⟩)
  dsimp only [Pt.U, Pt.locs, Pt.cells, Pt.slots] at X27 l27 y27 z27 st27 hQ27
  subst l27 y27 z27
  obtain ⟨rfl, N27q, e27q⟩ := hQ27
  have N27 := Fr.app N22 N27q
  have F32 := (Nat.le_trans (Nat.le_trans (Nat.le_trans (Nat.le_trans Z0 E10.1) K15.1) E16.1) K22.1)
  obtain ⟨_, _, ⟨T31, L31, k31, n31⟩, -, X31, ⟨Lc31, hQ31, l31, y31, z31⟩, st31⟩ := Jvm.LawKit.callS X27 hx (y := (⟨"com/example/sinkwatch/sinkwatch/ConditionContradictsPinLaw", "holds", "(ZII)Z"⟩ : MethodName)) hown (mvT hZ (tw_25 hw)) (mvT hZ (tw_26 hw)) (mvT hZ (tw_27 hw)) (mvT hZ (tw_28 hw)) (by decide) (backOf (W := 0) (rm5_3 l Z a0 hw [] (va1 p5) p3 T22.heap n0 F32 ) hZ (tw_28 hw) (tw_27 hw) (by decide) (by decide)) (g := (mkF m 117 (LL9 p1 p2 p3 p4 p5 b11 b17) [(.int p3), (.int p3), (.int (va1 p5))])) rfl (by rw [hml]; rfl) (argsL := [(.int (va1 p5)), (.int p3), (.int p3)]) (rest := []) (lenOf pd_3 rfl) rfl (by show 2 * 0 + _ ≤ _; exact Nat.le_of_eq rfl) (hb hby at_117) (fun _ _ => ⟨rfl, e27q, (by decide : 2 + 0 ≤ _), (by decide : 6 + 0 ≤ _)⟩)
  dsimp only [Pt.U, Pt.locs, Pt.cells, Pt.slots] at X31 l31 y31 z31 st31 hQ31
  subst l31 y31 z31
  obtain ⟨rfl, N31q, e31q⟩ := hQ31
  have N31 := Fr.app N27 N31q
  have F34 := (Nat.le_trans (Nat.le_trans (Nat.le_trans (Nat.le_trans Z0 E10.1) K15.1) E16.1) K22.1)
  obtain ⟨_, _, ⟨T33, L33, k33, n33⟩, -, X33, ⟨Lc33, hQ33, l33, y33, z33⟩, st33⟩ := Jvm.LawKit.callS X31 hx (y := (⟨"com/example/sinkwatch/sinkwatch/ConditionContradictsPinLaw", "holds", "(ZII)Z"⟩ : MethodName)) hown (mvT hZ (tw_25 hw)) (mvT hZ (tw_26 hw)) (mvT hZ (tw_27 hw)) (mvT hZ (tw_28 hw)) (by decide) (backOf (W := 0) (rm5_6 l Z a0 hw [] (va1 p5) p3 (va4 p5 p4 p3) T22.heap n0 F34 H2) hZ (tw_28 hw) (tw_27 hw) (by decide) (by decide)) (g := (mkF m 139 (LL9 p1 p2 p3 p4 p5 b11 b17) [(.int (va4 p5 p4 p3)), (.int p3), (.int (va1 p5))])) rfl (by rw [hml]; rfl) (argsL := [(.int (va1 p5)), (.int p3), (.int (va4 p5 p4 p3))]) (rest := []) (lenOf pd_3 rfl) rfl (by show 2 * 0 + _ ≤ _; exact Nat.le_of_eq rfl) (hb hby at_139) (fun _ _ => ⟨rfl, e31q, (by decide : 2 + 0 ≤ _), (by decide : 6 + 0 ≤ _)⟩)
  dsimp only [Pt.U, Pt.locs, Pt.cells, Pt.slots] at X33 l33 y33 z33 st33 hQ33
  subst l33 y33 z33
  obtain ⟨rfl, N33q, e33q⟩ := hQ33
  have N33 := Fr.app N31 N33q
  have F36 := (Nat.le_trans (Nat.le_trans (Nat.le_trans (Nat.le_trans Z0 E10.1) K15.1) E16.1) K22.1)
  obtain ⟨_, _, ⟨T35, L35, k35, n35⟩, -, X35, ⟨Lc35, hQ35, l35, y35, z35⟩, st35⟩ := Jvm.LawKit.callS X33 hx (y := (⟨"com/example/sinkwatch/sinkwatch/ConditionContradictsPinLaw", "holds", "(ZII)Z"⟩ : MethodName)) hown (mvT hZ (tw_25 hw)) (mvT hZ (tw_26 hw)) (mvT hZ (tw_27 hw)) (mvT hZ (tw_28 hw)) (by decide) (backOf (W := 0) (rm5_3 l Z a0 hw [] (va2 p5) (va4 p5 p4 p3) T22.heap n0 F36 ) hZ (tw_28 hw) (tw_27 hw) (by decide) (by decide)) (g := (mkF m 151 (LL9 p1 p2 p3 p4 p5 b11 b17) [(.int (va4 p5 p4 p3)), (.int (va4 p5 p4 p3)), (.int (va2 p5))])) rfl (by rw [hml]; rfl) (argsL := [(.int (va2 p5)), (.int (va4 p5 p4 p3)), (.int (va4 p5 p4 p3))]) (rest := []) (lenOf pd_3 rfl) rfl (by show 2 * 0 + _ ≤ _; exact Nat.le_of_eq rfl) (hb hby at_151) (fun _ _ => ⟨rfl, e33q, (by decide : 2 + 0 ≤ _), (by decide : 6 + 0 ≤ _)⟩)
  dsimp only [Pt.U, Pt.locs, Pt.cells, Pt.slots] at X35 l35 y35 z35 st35 hQ35
  subst l35 y35 z35
  obtain ⟨rfl, N35q, e35q⟩ := hQ35
  have N35 := Fr.app N33 N35q
  obtain ⟨fs, hr, hrun, hended, hW, hsame⟩ := X35.leave (v := some (.int (nar .boolean (va13 p1 p5 p2 p3 p4)))) (fun h => by rw [Bd.returns] at h; cases h)
  refine ⟨_, _, pre0 _ ?_, hrun, hended, _, _, rfl, ?_, ⟨_, rfl⟩, hW, hsame.mono (by decide) (by decide)⟩
  · show Steps p.tables e below (s₁.setTop (mkF m 0 (LL1 p1 p2 p3 p4 p5) [])) _
    refine XS.iload X0.here hx rfl (hb hby at_0) rfl ?_
    show Steps p.tables e below (s₁.setTop (mkF m 2 (LL1 p1 p2 p3 p4 p5) [(.int p5)])) _
    refine XS.iconst X0.here hx rfl (hb hby at_2) ?_
    show Steps p.tables e below (s₁.setTop (mkF m 3 (LL1 p1 p2 p3 p4 p5) [(.int (1 : Int32)), (.int p5)])) _
    refine XS.iand X0.here hx rfl (hb hby at_3) rfl ?_
    suffices j6 : Steps p.tables e below (s₁.setTop (mkF m 12 (LL1 p1 p2 p3 p4 p5) [(.int (va1 p5))])) (T35.setFrames fs) by
      show Steps p.tables e below (s₁.setTop (mkF m 4 (LL1 p1 p2 p3 p4 p5) [(.int (p5 &&& (1 : Int32)))])) _
      by_cases j6_1 : (p5 &&& (1 : Int32)) = (0 : Int32)
      ·
        refine XS.ifYes X0.here hx rfl (pc0 := 4) (pc' := 11) rfl (hb hby at_4) rfl ((if0 _ _).trans (teq j6_1).1) (by decide) (by decide) ?_
        show Steps p.tables e below (s₁.setTop (mkF m 11 (LL1 p1 p2 p3 p4 p5) [])) _
        refine XS.iconst X0.here hx rfl (hb hby at_11) ?_
        (try simp only [va1, if_pos j6_1] at j6)
        exact j6
      ·
        refine XS.ifNo X0.here hx rfl (hb hby at_4) rfl ((if0 _ _).trans (feq j6_1).1) ?_
        show Steps p.tables e below (s₁.setTop (mkF m 7 (LL1 p1 p2 p3 p4 p5) [])) _
        refine XS.iconst X0.here hx rfl (hb hby at_7) ?_
        show Steps p.tables e below (s₁.setTop (mkF m 8 (LL1 p1 p2 p3 p4 p5) [(.int (1 : Int32))])) _
        refine XS.goto X0.here hx rfl (pc0 := 8) (pc' := 12) rfl (hb hby at_8) (by decide) (by decide) ?_
        (try simp only [va1, if_neg j6_1] at j6)
        exact j6
    show Steps p.tables e below (s₁.setTop (mkF m 12 (LL1 p1 p2 p3 p4 p5) [(.int (va1 p5))])) _
    refine XS.istore X0.here hx rfl (hb hby at_12) rfl (l' := (LL2 p1 p2 p3 p4 p5)) rfl ?_
    show Steps p.tables e below (s₁.setTop (mkF m 14 (LL2 p1 p2 p3 p4 p5) [])) _
    refine XS.iload X0.here hx rfl (hb hby at_14) rfl ?_
    show Steps p.tables e below (s₁.setTop (mkF m 16 (LL2 p1 p2 p3 p4 p5) [(.int p5)])) _
    refine XS.iconst X0.here hx rfl (hb hby at_16) ?_
    show Steps p.tables e below (s₁.setTop (mkF m 17 (LL2 p1 p2 p3 p4 p5) [(.int (2 : Int32)), (.int p5)])) _
    refine XS.iand X0.here hx rfl (hb hby at_17) rfl ?_
    suffices j7 : Steps p.tables e below (s₁.setTop (mkF m 26 (LL2 p1 p2 p3 p4 p5) [(.int (va2 p5))])) (T35.setFrames fs) by
      show Steps p.tables e below (s₁.setTop (mkF m 18 (LL2 p1 p2 p3 p4 p5) [(.int (p5 &&& (2 : Int32)))])) _
      by_cases j7_1 : (p5 &&& (2 : Int32)) = (0 : Int32)
      ·
        refine XS.ifYes X0.here hx rfl (pc0 := 18) (pc' := 25) rfl (hb hby at_18) rfl ((if0 _ _).trans (teq j7_1).1) (by decide) (by decide) ?_
        show Steps p.tables e below (s₁.setTop (mkF m 25 (LL2 p1 p2 p3 p4 p5) [])) _
        refine XS.iconst X0.here hx rfl (hb hby at_25) ?_
        (try simp only [va2, if_pos j7_1] at j7)
        exact j7
      ·
        refine XS.ifNo X0.here hx rfl (hb hby at_18) rfl ((if0 _ _).trans (feq j7_1).1) ?_
        show Steps p.tables e below (s₁.setTop (mkF m 21 (LL2 p1 p2 p3 p4 p5) [])) _
        refine XS.iconst X0.here hx rfl (hb hby at_21) ?_
        show Steps p.tables e below (s₁.setTop (mkF m 22 (LL2 p1 p2 p3 p4 p5) [(.int (1 : Int32))])) _
        refine XS.goto X0.here hx rfl (pc0 := 22) (pc' := 26) rfl (hb hby at_22) (by decide) (by decide) ?_
        (try simp only [va2, if_neg j7_1] at j7)
        exact j7
    show Steps p.tables e below (s₁.setTop (mkF m 26 (LL2 p1 p2 p3 p4 p5) [(.int (va2 p5))])) _
    refine XS.istore X0.here hx rfl (hb hby at_26) rfl (l' := (LL3 p1 p2 p3 p4 p5)) rfl ?_
    show Steps p.tables e below (s₁.setTop (mkF m 28 (LL3 p1 p2 p3 p4 p5) [])) _
    refine XS.iload X0.here hx rfl (hb hby at_28) rfl ?_
    show Steps p.tables e below (s₁.setTop (mkF m 30 (LL3 p1 p2 p3 p4 p5) [(.int p5)])) _
    refine XS.iconst X0.here hx rfl (hb hby at_30) ?_
    show Steps p.tables e below (s₁.setTop (mkF m 31 (LL3 p1 p2 p3 p4 p5) [(.int (4 : Int32)), (.int p5)])) _
    refine XS.iand X0.here hx rfl (hb hby at_31) rfl ?_
    suffices j8 : Steps p.tables e below (s₁.setTop (mkF m 40 (LL3 p1 p2 p3 p4 p5) [(.int (va3 p5 p2 p1))])) (T35.setFrames fs) by
      show Steps p.tables e below (s₁.setTop (mkF m 32 (LL3 p1 p2 p3 p4 p5) [(.int (p5 &&& (4 : Int32)))])) _
      by_cases j8_1 : (p5 &&& (4 : Int32)) = (0 : Int32)
      ·
        refine XS.ifYes X0.here hx rfl (pc0 := 32) (pc' := 39) rfl (hb hby at_32) rfl ((if0 _ _).trans (teq j8_1).1) (by decide) (by decide) ?_
        show Steps p.tables e below (s₁.setTop (mkF m 39 (LL3 p1 p2 p3 p4 p5) [])) _
        refine XS.iloadN X0.here hx rfl (hb hby at_39) rfl ?_
        (try simp only [va3, if_pos j8_1] at j8)
        exact j8
      ·
        refine XS.ifNo X0.here hx rfl (hb hby at_32) rfl ((if0 _ _).trans (feq j8_1).1) ?_
        show Steps p.tables e below (s₁.setTop (mkF m 35 (LL3 p1 p2 p3 p4 p5) [])) _
        refine XS.iloadN X0.here hx rfl (hb hby at_35) rfl ?_
        show Steps p.tables e below (s₁.setTop (mkF m 36 (LL3 p1 p2 p3 p4 p5) [(.int p1)])) _
        refine XS.goto X0.here hx rfl (pc0 := 36) (pc' := 40) rfl (hb hby at_36) (by decide) (by decide) ?_
        (try simp only [va3, if_neg j8_1] at j8)
        exact j8
    show Steps p.tables e below (s₁.setTop (mkF m 40 (LL3 p1 p2 p3 p4 p5) [(.int (va3 p5 p2 p1))])) _
    refine XS.istore X0.here hx rfl (hb hby at_40) rfl (l' := (LL4 p1 p2 p3 p4 p5)) rfl ?_
    show Steps p.tables e below (s₁.setTop (mkF m 42 (LL4 p1 p2 p3 p4 p5) [])) _
    refine XS.iload X0.here hx rfl (hb hby at_42) rfl ?_
    show Steps p.tables e below (s₁.setTop (mkF m 44 (LL4 p1 p2 p3 p4 p5) [(.int p5)])) _
    refine XS.bipush X0.here hx rfl (hb hby at_44) ?_
    show Steps p.tables e below (s₁.setTop (mkF m 46 (LL4 p1 p2 p3 p4 p5) [(.int (8 : Int32)), (.int p5)])) _
    refine XS.iand X0.here hx rfl (hb hby at_46) rfl ?_
    suffices j9 : Steps p.tables e below (s₁.setTop (mkF m 55 (LL4 p1 p2 p3 p4 p5) [(.int (va4 p5 p4 p3))])) (T35.setFrames fs) by
      show Steps p.tables e below (s₁.setTop (mkF m 47 (LL4 p1 p2 p3 p4 p5) [(.int (p5 &&& (8 : Int32)))])) _
      by_cases j9_1 : (p5 &&& (8 : Int32)) = (0 : Int32)
      ·
        refine XS.ifYes X0.here hx rfl (pc0 := 47) (pc' := 54) rfl (hb hby at_47) rfl ((if0 _ _).trans (teq j9_1).1) (by decide) (by decide) ?_
        show Steps p.tables e below (s₁.setTop (mkF m 54 (LL4 p1 p2 p3 p4 p5) [])) _
        refine XS.iloadN X0.here hx rfl (hb hby at_54) rfl ?_
        (try simp only [va4, if_pos j9_1] at j9)
        exact j9
      ·
        refine XS.ifNo X0.here hx rfl (hb hby at_47) rfl ((if0 _ _).trans (feq j9_1).1) ?_
        show Steps p.tables e below (s₁.setTop (mkF m 50 (LL4 p1 p2 p3 p4 p5) [])) _
        refine XS.iloadN X0.here hx rfl (hb hby at_50) rfl ?_
        show Steps p.tables e below (s₁.setTop (mkF m 51 (LL4 p1 p2 p3 p4 p5) [(.int p3)])) _
        refine XS.goto X0.here hx rfl (pc0 := 51) (pc' := 55) rfl (hb hby at_51) (by decide) (by decide) ?_
        (try simp only [va4, if_neg j9_1] at j9)
        exact j9
    show Steps p.tables e below (s₁.setTop (mkF m 55 (LL4 p1 p2 p3 p4 p5) [(.int (va4 p5 p4 p3))])) _
    refine XS.istore X0.here hx rfl (hb hby at_55) rfl (l' := (LL5 p1 p2 p3 p4 p5)) rfl ?_
    show Steps p.tables e below (s₁.setTop (mkF m 57 (LL5 p1 p2 p3 p4 p5) [])) _
    refine st10 _ ?_
    show Steps p.tables e below (T10.setTop (mkF m 60 (LL5 p1 p2 p3 p4 p5) [(.ref b11)])) _
    refine XS.dup X10.here hx rfl (hb hby at_60) rfl rfl ?_
    show Steps p.tables e below (T10.setTop (mkF m 61 (LL5 p1 p2 p3 p4 p5) [(.ref b11), (.ref b11)])) _
    refine XS.iloadN X10.here hx rfl (hb hby at_61) rfl ?_
    show Steps p.tables e below (T10.setTop (mkF m 62 (LL5 p1 p2 p3 p4 p5) [(.int p1), (.ref b11), (.ref b11)])) _
    refine XS.iload X10.here hx rfl (hb hby at_62) rfl ?_
    show Steps p.tables e below (T10.setTop (mkF m 64 (LL5 p1 p2 p3 p4 p5) [(.int (va1 p5)), (.int p1), (.ref b11), (.ref b11)])) _
    refine XS.iloadN X10.here hx rfl (hb hby at_64) rfl ?_
    show Steps p.tables e below (T10.setTop (mkF m 65 (LL5 p1 p2 p3 p4 p5) [(.int p3), (.int (va1 p5)), (.int p1), (.ref b11), (.ref b11)])) _
    refine st15.trans ?_
    show Steps p.tables e below (T15.setTop (mkF m 68 (LL5 p1 p2 p3 p4 p5) [(.ref b11)])) _
    refine XS.astore X15.here hx rfl (hb hby at_68) rfl rfl (l' := (LL6 p1 p2 p3 p4 p5 b11)) rfl ?_
    show Steps p.tables e below (T15.setTop (mkF m 70 (LL6 p1 p2 p3 p4 p5 b11) [])) _
    refine st16 _ ?_
    show Steps p.tables e below (T16.setTop (mkF m 73 (LL6 p1 p2 p3 p4 p5 b11) [(.ref b17)])) _
    refine XS.dup X16.here hx rfl (hb hby at_73) rfl rfl ?_
    show Steps p.tables e below (T16.setTop (mkF m 74 (LL6 p1 p2 p3 p4 p5 b11) [(.ref b17), (.ref b17)])) _
    refine XS.iload X16.here hx rfl (hb hby at_74) rfl ?_
    show Steps p.tables e below (T16.setTop (mkF m 76 (LL6 p1 p2 p3 p4 p5 b11) [(.int (va3 p5 p2 p1)), (.ref b17), (.ref b17)])) _
    refine XS.iload X16.here hx rfl (hb hby at_76) rfl ?_
    show Steps p.tables e below (T16.setTop (mkF m 78 (LL6 p1 p2 p3 p4 p5 b11) [(.int (va2 p5)), (.int (va3 p5 p2 p1)), (.ref b17), (.ref b17)])) _
    refine XS.iload X16.here hx rfl (hb hby at_78) rfl ?_
    show Steps p.tables e below (T16.setTop (mkF m 80 (LL6 p1 p2 p3 p4 p5 b11) [(.int (va4 p5 p4 p3)), (.int (va2 p5)), (.int (va3 p5 p2 p1)), (.ref b17), (.ref b17)])) _
    refine st22.trans ?_
    show Steps p.tables e below (T22.setTop (mkF m 83 (LL6 p1 p2 p3 p4 p5 b11) [(.ref b17)])) _
    refine XS.astore X22.here hx rfl (hb hby at_83) rfl rfl (l' := (LL7 p1 p2 p3 p4 p5 b11 b17)) rfl ?_
    show Steps p.tables e below (T22.setTop (mkF m 85 (LL7 p1 p2 p3 p4 p5 b11 b17) [])) _
    refine XS.aload X22.here hx rfl (hb hby at_85) rfl rfl ?_
    show Steps p.tables e below (T22.setTop (mkF m 87 (LL7 p1 p2 p3 p4 p5 b11 b17) [(.ref b11)])) _
    refine XS.aload X22.here hx rfl (hb hby at_87) rfl rfl ?_
    show Steps p.tables e below (T22.setTop (mkF m 89 (LL7 p1 p2 p3 p4 p5 b11 b17) [(.ref b17), (.ref b11)])) _
    refine st27.trans ?_
    show Steps p.tables e below (T27.setTop (mkF m 92 (LL7 p1 p2 p3 p4 p5 b11 b17) [(.int (va5 p1 (va3 p5 p2 p1) (nar .boolean (va1 p5)) (nar .boolean (va2 p5)) p3 (va4 p5 p4 p3)))])) _
    refine XS.istore X27.here hx rfl (hb hby at_92) rfl (l' := (LL8 p1 p2 p3 p4 p5 b11 b17)) rfl ?_
    show Steps p.tables e below (T27.setTop (mkF m 94 (LL8 p1 p2 p3 p4 p5 b11 b17) [])) _
    refine XS.iloadN X27.here hx rfl (hb hby at_94) rfl ?_
    show Steps p.tables e below (T27.setTop (mkF m 95 (LL8 p1 p2 p3 p4 p5 b11 b17) [(.int p3)])) _
    refine XS.iconst X27.here hx rfl (hb hby at_95) ?_
    show Steps p.tables e below (T27.setTop (mkF m 96 (LL8 p1 p2 p3 p4 p5 b11 b17) [(.int (1 : Int32)), (.int p3)])) _
    refine XS.iadd X27.here hx rfl (hb hby at_96) rfl ?_
    show Steps p.tables e below (T27.setTop (mkF m 97 (LL8 p1 p2 p3 p4 p5 b11 b17) [(.int (p3 + (1 : Int32)))])) _
    refine XS.iload X27.here hx rfl (hb hby at_97) rfl ?_
    suffices j30 : Steps p.tables e below (T27.setTop (mkF m 111 (LL8 p1 p2 p3 p4 p5 b11 b17) [(.int (va6 p3 p5 p4))])) (T35.setFrames fs) by
      show Steps p.tables e below (T27.setTop (mkF m 99 (LL8 p1 p2 p3 p4 p5 b11 b17) [(.int (va4 p5 p4 p3)), (.int (p3 + (1 : Int32)))])) _
      by_cases j30_1 : (p3 + (1 : Int32)) = (va4 p5 p4 p3)
      ·
        refine XS.icmpYes X27.here hx rfl (pc0 := 99) (pc' := 108) rfl (hb hby at_99) rfl (teq j30_1).1 (by decide) (by decide) ?_
        show Steps p.tables e below (T27.setTop (mkF m 108 (LL8 p1 p2 p3 p4 p5 b11 b17) [])) _
        refine XS.iloadN X27.here hx rfl (hb hby at_108) rfl ?_
        show Steps p.tables e below (T27.setTop (mkF m 109 (LL8 p1 p2 p3 p4 p5 b11 b17) [(.int p3)])) _
        refine XS.iconst X27.here hx rfl (hb hby at_109) ?_
        show Steps p.tables e below (T27.setTop (mkF m 110 (LL8 p1 p2 p3 p4 p5 b11 b17) [(.int (2 : Int32)), (.int p3)])) _
        refine XS.iadd X27.here hx rfl (hb hby at_110) rfl ?_
        (try simp only [va6, if_pos j30_1] at j30)
        exact j30
      ·
        refine XS.icmpNo X27.here hx rfl (hb hby at_99) rfl (feq j30_1).1 ?_
        show Steps p.tables e below (T27.setTop (mkF m 102 (LL8 p1 p2 p3 p4 p5 b11 b17) [])) _
        refine XS.iloadN X27.here hx rfl (hb hby at_102) rfl ?_
        show Steps p.tables e below (T27.setTop (mkF m 103 (LL8 p1 p2 p3 p4 p5 b11 b17) [(.int p3)])) _
        refine XS.iconst X27.here hx rfl (hb hby at_103) ?_
        show Steps p.tables e below (T27.setTop (mkF m 104 (LL8 p1 p2 p3 p4 p5 b11 b17) [(.int (1 : Int32)), (.int p3)])) _
        refine XS.iadd X27.here hx rfl (hb hby at_104) rfl ?_
        show Steps p.tables e below (T27.setTop (mkF m 105 (LL8 p1 p2 p3 p4 p5 b11 b17) [(.int (p3 + (1 : Int32)))])) _
        refine XS.goto X27.here hx rfl (pc0 := 105) (pc' := 111) rfl (hb hby at_105) (by decide) (by decide) ?_
        (try simp only [va6, if_neg j30_1] at j30)
        exact j30
    show Steps p.tables e below (T27.setTop (mkF m 111 (LL8 p1 p2 p3 p4 p5 b11 b17) [(.int (va6 p3 p5 p4))])) _
    refine XS.istore X27.here hx rfl (hb hby at_111) rfl (l' := (LL9 p1 p2 p3 p4 p5 b11 b17)) rfl ?_
    show Steps p.tables e below (T27.setTop (mkF m 113 (LL9 p1 p2 p3 p4 p5 b11 b17) [])) _
    refine XS.iload X27.here hx rfl (hb hby at_113) rfl ?_
    show Steps p.tables e below (T27.setTop (mkF m 115 (LL9 p1 p2 p3 p4 p5 b11 b17) [(.int (va1 p5))])) _
    refine XS.iloadN X27.here hx rfl (hb hby at_115) rfl ?_
    show Steps p.tables e below (T27.setTop (mkF m 116 (LL9 p1 p2 p3 p4 p5 b11 b17) [(.int p3), (.int (va1 p5))])) _
    refine XS.iloadN X27.here hx rfl (hb hby at_116) rfl ?_
    show Steps p.tables e below (T27.setTop (mkF m 117 (LL9 p1 p2 p3 p4 p5 b11 b17) [(.int p3), (.int p3), (.int (va1 p5))])) _
    refine st31 _ ?_
    show Steps p.tables e below (T31.setTop (mkF m 120 (LL9 p1 p2 p3 p4 p5 b11 b17) [(.int (va7 (va1 p5)))])) _
    refine XS.ifYes X31.here hx rfl (pc0 := 120) (pc' := 134) rfl (hb hby at_120) rfl ((if0 _ _).trans (teq H1).1) (by decide) (by decide) ?_
    show Steps p.tables e below (T31.setTop (mkF m 134 (LL9 p1 p2 p3 p4 p5 b11 b17) [])) _
    refine XS.iload X31.here hx rfl (hb hby at_134) rfl ?_
    show Steps p.tables e below (T31.setTop (mkF m 136 (LL9 p1 p2 p3 p4 p5 b11 b17) [(.int (va1 p5))])) _
    refine XS.iloadN X31.here hx rfl (hb hby at_136) rfl ?_
    show Steps p.tables e below (T31.setTop (mkF m 137 (LL9 p1 p2 p3 p4 p5 b11 b17) [(.int p3), (.int (va1 p5))])) _
    refine XS.iload X31.here hx rfl (hb hby at_137) rfl ?_
    show Steps p.tables e below (T31.setTop (mkF m 139 (LL9 p1 p2 p3 p4 p5 b11 b17) [(.int (va4 p5 p4 p3)), (.int p3), (.int (va1 p5))])) _
    refine st33 _ ?_
    show Steps p.tables e below (T33.setTop (mkF m 142 (LL9 p1 p2 p3 p4 p5 b11 b17) [(.int (va8 (va4 p5 p4 p3) p3))])) _
    refine XS.ifNo X33.here hx rfl (hb hby at_142) rfl ((if0 _ _).trans (feq H3).1) ?_
    show Steps p.tables e below (T33.setTop (mkF m 145 (LL9 p1 p2 p3 p4 p5 b11 b17) [])) _
    refine XS.iload X33.here hx rfl (hb hby at_145) rfl ?_
    show Steps p.tables e below (T33.setTop (mkF m 147 (LL9 p1 p2 p3 p4 p5 b11 b17) [(.int (va2 p5))])) _
    refine XS.iload X33.here hx rfl (hb hby at_147) rfl ?_
    show Steps p.tables e below (T33.setTop (mkF m 149 (LL9 p1 p2 p3 p4 p5 b11 b17) [(.int (va4 p5 p4 p3)), (.int (va2 p5))])) _
    refine XS.iload X33.here hx rfl (hb hby at_149) rfl ?_
    show Steps p.tables e below (T33.setTop (mkF m 151 (LL9 p1 p2 p3 p4 p5 b11 b17) [(.int (va4 p5 p4 p3)), (.int (va4 p5 p4 p3)), (.int (va2 p5))])) _
    refine st35 _ ?_
    show Steps p.tables e below (T35.setTop (mkF m 154 (LL9 p1 p2 p3 p4 p5 b11 b17) [(.int (va7 (va2 p5)))])) _
    refine XS.ifYes X35.here hx rfl (pc0 := 154) (pc' := 180) rfl (hb hby at_154) rfl ((if0 _ _).trans (feq H4).2) (by decide) (by decide) ?_
    show Steps p.tables e below (T35.setTop (mkF m 180 (LL9 p1 p2 p3 p4 p5 b11 b17) [])) _
    refine XS.iconst X35.here hx rfl (hb hby at_180) ?_
    show Steps p.tables e below (T35.setTop (mkF m 181 (LL9 p1 p2 p3 p4 p5 b11 b17) [(.int (1 : Int32))])) _
    refine XS.goto X35.here hx rfl (pc0 := 181) (pc' := 185) rfl (hb hby at_181) (by decide) (by decide) ?_
    show Steps p.tables e below (T35.setTop (mkF m 185 (LL9 p1 p2 p3 p4 p5 b11 b17) [(.int (1 : Int32))])) _
    refine XS.istore X35.here hx rfl (hb hby at_185) rfl (l' := (LL12 p1 p2 p3 p4 p5 b11 b17)) rfl ?_
    show Steps p.tables e below (T35.setTop (mkF m 187 (LL12 p1 p2 p3 p4 p5 b11 b17) [])) _
    refine XS.iloadN X35.here hx rfl (hb hby at_187) rfl ?_
    show Steps p.tables e below (T35.setTop (mkF m 188 (LL12 p1 p2 p3 p4 p5 b11 b17) [(.int p1)])) _
    refine XS.iload X35.here hx rfl (hb hby at_188) rfl ?_
    suffices j37 : Steps p.tables e below (T35.setTop (mkF m 203 (LL12 p1 p2 p3 p4 p5 b11 b17) [(.int (0 : Int32))])) (T35.setFrames fs) by
      show Steps p.tables e below (T35.setTop (mkF m 190 (LL12 p1 p2 p3 p4 p5 b11 b17) [(.int (va3 p5 p2 p1)), (.int p1)])) _
      by_cases j37_1 : p1 = (va3 p5 p2 p1)
      ·
        refine XS.icmpNo X35.here hx rfl (hb hby at_190) rfl (teq j37_1).2 ?_
        show Steps p.tables e below (T35.setTop (mkF m 193 (LL12 p1 p2 p3 p4 p5 b11 b17) [])) _
        refine XS.iload X35.here hx rfl (hb hby at_193) rfl ?_
        show Steps p.tables e below (T35.setTop (mkF m 195 (LL12 p1 p2 p3 p4 p5 b11 b17) [(.int (1 : Int32))])) _
        refine XS.ifYes X35.here hx rfl (pc0 := 195) (pc' := 202) rfl (hb hby at_195) rfl ((if0 _ _).trans (feq (by decide : ¬ ((1 : Int32) = (0 : Int32)))).2) (by decide) (by decide) ?_
        show Steps p.tables e below (T35.setTop (mkF m 202 (LL12 p1 p2 p3 p4 p5 b11 b17) [])) _
        refine XS.iconst X35.here hx rfl (hb hby at_202) ?_
        (try simp only [if_pos j37_1] at j37)
        exact j37
      ·
        refine XS.icmpYes X35.here hx rfl (pc0 := 190) (pc' := 202) rfl (hb hby at_190) rfl (feq j37_1).2 (by decide) (by decide) ?_
        show Steps p.tables e below (T35.setTop (mkF m 202 (LL12 p1 p2 p3 p4 p5 b11 b17) [])) _
        refine XS.iconst X35.here hx rfl (hb hby at_202) ?_
        (try simp only [if_neg j37_1] at j37)
        exact j37
    show Steps p.tables e below (T35.setTop (mkF m 203 (LL12 p1 p2 p3 p4 p5 b11 b17) [(.int (0 : Int32))])) _
    refine XS.istore X35.here hx rfl (hb hby at_203) rfl (l' := (LL13 p1 p2 p3 p4 p5 b11 b17)) rfl ?_
    show Steps p.tables e below (T35.setTop (mkF m 205 (LL13 p1 p2 p3 p4 p5 b11 b17) [])) _
    refine XS.iload X35.here hx rfl (hb hby at_205) rfl ?_
    show Steps p.tables e below (T35.setTop (mkF m 207 (LL13 p1 p2 p3 p4 p5 b11 b17) [(.int (va5 p1 (va3 p5 p2 p1) (nar .boolean (va1 p5)) (nar .boolean (va2 p5)) p3 (va4 p5 p4 p3)))])) _
    refine XS.iload X35.here hx rfl (hb hby at_207) rfl ?_
    suffices j38 : Steps p.tables e below (T35.setTop (mkF m 217 (LL13 p1 p2 p3 p4 p5 b11 b17) [(.int (va13 p1 p5 p2 p3 p4))])) (T35.setFrames fs) by
      show Steps p.tables e below (T35.setTop (mkF m 209 (LL13 p1 p2 p3 p4 p5 b11 b17) [(.int (0 : Int32)), (.int (va5 p1 (va3 p5 p2 p1) (nar .boolean (va1 p5)) (nar .boolean (va2 p5)) p3 (va4 p5 p4 p3)))])) _
      by_cases j38_1 : (va5 p1 (va3 p5 p2 p1) (nar .boolean (va1 p5)) (nar .boolean (va2 p5)) p3 (va4 p5 p4 p3)) = (0 : Int32)
      ·
        refine XS.icmpNo X35.here hx rfl (hb hby at_209) rfl (teq j38_1).2 ?_
        show Steps p.tables e below (T35.setTop (mkF m 212 (LL13 p1 p2 p3 p4 p5 b11 b17) [])) _
        refine XS.iconst X35.here hx rfl (hb hby at_212) ?_
        show Steps p.tables e below (T35.setTop (mkF m 213 (LL13 p1 p2 p3 p4 p5 b11 b17) [(.int (1 : Int32))])) _
        refine XS.goto X35.here hx rfl (pc0 := 213) (pc' := 217) rfl (hb hby at_213) (by decide) (by decide) ?_
        (try simp only [va13, if_pos j38_1] at j38)
        exact j38
      ·
        refine XS.icmpYes X35.here hx rfl (pc0 := 209) (pc' := 216) rfl (hb hby at_209) rfl (feq j38_1).2 (by decide) (by decide) ?_
        show Steps p.tables e below (T35.setTop (mkF m 216 (LL13 p1 p2 p3 p4 p5 b11 b17) [])) _
        refine XS.iconst X35.here hx rfl (hb hby at_216) ?_
        (try simp only [va13, if_neg j38_1] at j38)
        exact j38
    show Steps p.tables e below (T35.setTop (mkF m 217 (LL13 p1 p2 p3 p4 p5 b11 b17) [(.int (va13 p1 p5 p2 p3 p4))])) _
    exact retN X35 hx (t := .boolean) Bd.returns (by simp) (hb hby at_217) hr
  · show Q0 h0 n0 _ T35.heap _
    rw [e35q]
    exact ⟨(congrArg (fun z => some (Value.int z)) H5), N35⟩
set_option maxRecDepth 65536 in
set_option maxHeartbeats 40000000 in
theorem rm0_3 (l : Launch) (Z : State) (a0 : Array Value) (hw : ∀ d ∈ tables_1, d.before a0 Z = true) (ws : List Jvm.Cond) (p1 : Int32) (p2 : Int32) (p3 : Int32) (p4 : Int32) (p5 : Int32) (h0 : Heap) (n0 : Nat) (Z0 : n0 ≤ h0.size) (H1 : ¬ ((va7 (va1 p5)) = (0 : Int32))) (H2 : (va14 (va2 p5) p3 (va4 p5 p4 p3)) = (0 : Int32)) (H3 : ¬ ((va1 p5) = (0 : Int32))) (H4 : (va15 (va4 p5 p4 p3) p3) = (0 : Int32)) (H5 : ¬ ((va6 p3 p5 p4) = p3)) (H6 : (nar .boolean (va17 p1 p5 p2 p3 p4)) = (1 : Int32)) :
    MetFree l x (head1 (Jvm.Cond.code x code maxLocals ret :: ws) room_1) (fun a U => a = #[(.int p1), (.int p2), (.int p3), (.int p4), (.int p5)] ∧ Z.Warmed39 U.vm ∧ U.heap = h0) (fun _ _ _ _ _ => True) (fun _ U o U' => ∃ v L, o = .returned v ∧ Q0 h0 n0 v U'.heap L ∧ FrameEnd U o U' L 16 128) := by
  refine MetFree.of_bodySF (plainFor_of_name pn_2) hisR ?_
  intro p e s m args below meth c s₁ Bd hml0 hP hK
  obtain ⟨rfl, hZ, hh⟩ := hP
  have hx := Bd.exec
  have hby := Bd.bytes
  have hml : c.maxLocals = 15 := hml0
  have hown : s.vm.findClass "com/example/sinkwatch/sinkwatch/ConditionContradictsPinLaw" = some m.cls := findClass_of_methodNamed Bd.named
  have hnm := (name_of_methodNamed Bd.named Bd.method).1
  have X0 : Stand p l e room_1 s m #[(.int p1), (.int p2), (.int p3), (.int p4), (.int p5)] below meth c s₁ [] 0 0 := Stand.of_body Bd
  have e0 : s₁.heap = h0 := by rw [← hh, Bd.state]; rfl
  have N0 := Fr.nil n0
  have pre0 : ∀ t, Steps p.tables e below (s₁.setTop (mkF m 0 #[.val (.int p1), .val (.int p2), .val (.int p3), .val (.int p4), .val (.int p5), .unset, .unset, .unset, .unset, .unset, .unset, .unset, .unset, .unset, .unset] [])) t → Steps p.tables e below (s₁.setTop (entryFrame m #[(.int p1), (.int p2), (.int p3), (.int p4), (.int p5)] maxLocals)) t := fun t k => castTop (ef0 m p1 p2 p3 p4 p5) k
  obtain ⟨T10, h10, X10, e10, E10, A10, D10, -, st10⟩ := newO X0 hx hZ hown (tw_0 hw) (tw_1 hw) (tw_2 hw) e0 (g := (mkF m 57 (LL5 p1 p2 p3 p4 p5) [])) rfl (hb hby at_57) (by decide) (by decide)
  obtain ⟨b11, g10⟩ : ∃ z, z = h0.size := ⟨_, rfl⟩
  rw [← g10] at A10 D10 st10
  have q10 : n0 ≤ b11 := Nat.le_trans Z0 (Nat.le_of_eq g10.symm)
  have z10 : h0.size ≤ b11 := Nat.le_trans (Nat.le_refl h0.size) (Nat.le_of_eq g10.symm)
  have F12 : Fld Z h10 b11 "com/example/sinkwatch/sinkwatch/Condition" "local" "I" (.int (0 : Int32)) := D10 (Or.inr (tw_15 hw)) (ty := .int) (by decide)
  have F13 : Fld Z h10 b11 "com/example/sinkwatch/sinkwatch/Condition" "equal" "Z" (.int (0 : Int32)) := D10 (Or.inr (tw_17 hw)) (ty := .boolean) (by decide)
  have F14 : Fld Z h10 b11 "com/example/sinkwatch/sinkwatch/Condition" "constant" "I" (.int (0 : Int32)) := D10 (Or.inr (tw_19 hw)) (ty := .int) (by decide)
  obtain ⟨_, _, ⟨T15, L15, k15, n15⟩, -, X15, ⟨Lc15, hQ15, l15, y15, z15⟩, st15⟩ := X10.specialBack hx (y := (⟨"com/example/sinkwatch/sinkwatch/Condition", "<init>", "(IZI)V"⟩ : MethodName)) rfl hown (mvT hZ (tw_3 hw)) (mvT hZ (tw_4 hw)) (mvT hZ (tw_5 hw)) (by decide) (backOf (W := 1) (rm1_1 l Z a0 hw [] b11 p1 (va1 p5) p3 h10 n0 (Nat.le_trans Z0 E10.1) F12 A10 q10 F13 F14) hZ (tw_5 hw) (tw_2 hw) (by decide) (by decide)) (g := (mkF m 65 (LL5 p1 p2 p3 p4 p5) [(.int p3), (.int (va1 p5)), (.int p1), (.ref b11), (.ref b11)])) rfl (by rw [hml]; rfl) (Steps.refl _) (a := b11) (argsL := [(.int p1), (.int (va1 p5)), (.int p3)]) (rest := [(.ref b11)]) (lenOf pd_1 rfl) rfl (by show 2 * 0 + _ ≤ _; exact Nat.le_of_eq rfl) (hb hby at_65) (fun _ _ => ⟨rfl, e10, (by decide : 1 + 0 ≤ _), (by decide : 3 + 0 ≤ _)⟩)
  dsimp only [Pt.U, Pt.locs, Pt.cells, Pt.slots] at X15 l15 y15 z15 st15 hQ15
  subst l15 y15 z15
  obtain ⟨rfl, N15q, K15, f15_0, f15_1, f15_2⟩ := hQ15
  have N15 := Fr.app N0 N15q
  obtain ⟨T16, h16, X16, e16, E16, A16, D16, -, st16⟩ := newO X15 hx hZ hown (tw_0 hw) (tw_1 hw) (tw_2 hw) rfl (g := (mkF m 70 (LL6 p1 p2 p3 p4 p5 b11) [])) rfl (hb hby at_70) (by decide) (by decide)
  obtain ⟨b17, g16⟩ : ∃ z, z = T15.heap.size := ⟨_, rfl⟩
  rw [← g16] at A16 D16 st16
  have F18 := (Nat.le_trans (Nat.le_trans (Nat.le_refl h0.size) E10.1) K15.1)
  have q16 : n0 ≤ b17 := Nat.le_trans (Nat.le_trans (Nat.le_trans Z0 E10.1) K15.1) (Nat.le_of_eq g16.symm)
  have z16 : h0.size ≤ b17 := Nat.le_trans F18 (Nat.le_of_eq g16.symm)
  have F19 : Fld Z h16 b17 "com/example/sinkwatch/sinkwatch/Condition" "local" "I" (.int (0 : Int32)) := D16 (Or.inr (tw_15 hw)) (ty := .int) (by decide)
  have F20 : Fld Z h16 b17 "com/example/sinkwatch/sinkwatch/Condition" "equal" "Z" (.int (0 : Int32)) := D16 (Or.inr (tw_17 hw)) (ty := .boolean) (by decide)
  have F21 : Fld Z h16 b17 "com/example/sinkwatch/sinkwatch/Condition" "constant" "I" (.int (0 : Int32)) := D16 (Or.inr (tw_19 hw)) (ty := .int) (by decide)
  have F23 := (Nat.le_trans (Nat.le_trans (Nat.le_trans Z0 E10.1) K15.1) E16.1)
  obtain ⟨_, _, ⟨T22, L22, k22, n22⟩, -, X22, ⟨Lc22, hQ22, l22, y22, z22⟩, st22⟩ := X16.specialBack hx (y := (⟨"com/example/sinkwatch/sinkwatch/Condition", "<init>", "(IZI)V"⟩ : MethodName)) rfl hown (mvT hZ (tw_3 hw)) (mvT hZ (tw_4 hw)) (mvT hZ (tw_5 hw)) (by decide) (backOf (W := 1) (rm1_1 l Z a0 hw [] b17 (va3 p5 p2 p1) (va2 p5) (va4 p5 p4 p3) h16 n0 F23 F19 A16 q16 F20 F21) hZ (tw_5 hw) (tw_2 hw) (by decide) (by decide)) (g := (mkF m 80 (LL6 p1 p2 p3 p4 p5 b11) [(.int (va4 p5 p4 p3)), (.int (va2 p5)), (.int (va3 p5 p2 p1)), (.ref b17), (.ref b17)])) rfl (by rw [hml]; rfl) (Steps.refl _) (a := b17) (argsL := [(.int (va3 p5 p2 p1)), (.int (va2 p5)), (.int (va4 p5 p4 p3))]) (rest := [(.ref b17)]) (lenOf pd_1 rfl) rfl (by show 2 * 0 + _ ≤ _; exact Nat.le_of_eq rfl) (hb hby at_80) (fun _ _ => ⟨rfl, e16, (by decide : 2 + 0 ≤ _), (by decide : 6 + 0 ≤ _)⟩)
  dsimp only [Pt.U, Pt.locs, Pt.cells, Pt.slots] at X22 l22 y22 z22 st22 hQ22
  subst l22 y22 z22
  obtain ⟨rfl, N22q, K22, f22_0, f22_1, f22_2⟩ := hQ22
  have N22 := Fr.app N15 N22q
  have F24 := (Fld.keep (Fld.ext E16 f15_2) K22 (ninS (Nat.ne_of_lt (Nat.lt_of_lt_of_le f15_0.lt (Nat.le_of_eq g16.symm))) nin0))
  have F25 := (Fld.keep (Fld.ext E16 f15_1) K22 (ninS (Nat.ne_of_lt (Nat.lt_of_lt_of_le f15_0.lt (Nat.le_of_eq g16.symm))) nin0))
  have F26 := (Fld.keep (Fld.ext E16 f15_0) K22 (ninS (Nat.ne_of_lt (Nat.lt_of_lt_of_le f15_0.lt (Nat.le_of_eq g16.symm))) nin0))
  have F28 := (Nat.le_trans (Nat.le_trans (Nat.le_trans (Nat.le_trans Z0 E10.1) K15.1) E16.1) K22.1)
  have F29 := (Exa.keep (Exa.ext E16 (Exa.keep A10 K15)) K22)
  obtain ⟨cq27, kq27, q27a, q27b, q27c⟩ := isOf hZ rfl F29
  obtain ⟨_, _, ⟨T27, L27, k27, n27⟩, -, X27, ⟨Lc27, hQ27, l27, y27, z27⟩, st27⟩ := X22.virtualBack hx (y := (⟨"com/example/sinkwatch/sinkwatch/Condition", "contradicts", "(Lcom/example/sinkwatch/sinkwatch/Condition;)Z"⟩ : MethodName)) (z := (⟨"com/example/sinkwatch/sinkwatch/Condition", "contradicts", "(Lcom/example/sinkwatch/sinkwatch/Condition;)Z"⟩ : MethodName)) hown (mvT hZ (tw_20 hw)) (mvT hZ (tw_21 hw)) (notFace_of_selects (args := #[]) (mvT hZ (tw_23 hw))) (mvT hZ (tw_23 hw)) (mvT hZ (tw_22 hw)) (by decide) (backOf (W := 0) (rm4_9 l Z a0 hw [] b11 b17 p1 (va3 p5 p2 p1) (nar .boolean (va1 p5)) (nar .boolean (va2 p5)) p3 (va4 p5 p4 p3) T22.heap n0 F28 F24 f22_2 F25 f22_1 F26 f22_0) hZ (tw_24 hw) (tw_2 hw) (by decide) (by decide)) q27a q27c (g := (mkF m 89 (LL7 p1 p2 p3 p4 p5 b11 b17) [(.ref b17), (.ref b11)])) rfl (by rw [hml]; rfl) (Steps.refl _) (argsL := [(.ref b17)]) (rest := []) (lenOf pd_2 rfl) rfl (by show 2 * 0 + _ ≤ _; exact Nat.le_of_eq rfl) (hb hby at_89) (fun _ _ => ⟨rfl, rfl, (by decide : 2 + 0 ≤ _), (by decide : 6 + 0 ≤ _)⟩)
  dsimp only [Pt.U, Pt.locs, Pt.cells, Pt.slots] at X27 l27 y27 z27 st27 hQ27
  subst l27 y27 z27
  obtain ⟨rfl, N27q, e27q⟩ := hQ27
  have N27 := Fr.app N22 N27q
  have F32 := (Nat.le_trans (Nat.le_trans (Nat.le_trans (Nat.le_trans Z0 E10.1) K15.1) E16.1) K22.1)
  obtain ⟨_, _, ⟨T31, L31, k31, n31⟩, -, X31, ⟨Lc31, hQ31, l31, y31, z31⟩, st31⟩ := Jvm.LawKit.callS X27 hx (y := (⟨"com/example/sinkwatch/sinkwatch/ConditionContradictsPinLaw", "holds", "(ZII)Z"⟩ : MethodName)) hown (mvT hZ (tw_25 hw)) (mvT hZ (tw_26 hw)) (mvT hZ (tw_27 hw)) (mvT hZ (tw_28 hw)) (by decide) (backOf (W := 0) (rm5_3 l Z a0 hw [] (va1 p5) p3 T22.heap n0 F32 ) hZ (tw_28 hw) (tw_27 hw) (by decide) (by decide)) (g := (mkF m 117 (LL9 p1 p2 p3 p4 p5 b11 b17) [(.int p3), (.int p3), (.int (va1 p5))])) rfl (by rw [hml]; rfl) (argsL := [(.int (va1 p5)), (.int p3), (.int p3)]) (rest := []) (lenOf pd_3 rfl) rfl (by show 2 * 0 + _ ≤ _; exact Nat.le_of_eq rfl) (hb hby at_117) (fun _ _ => ⟨rfl, e27q, (by decide : 2 + 0 ≤ _), (by decide : 6 + 0 ≤ _)⟩)
  dsimp only [Pt.U, Pt.locs, Pt.cells, Pt.slots] at X31 l31 y31 z31 st31 hQ31
  subst l31 y31 z31
  obtain ⟨rfl, N31q, e31q⟩ := hQ31
  have N31 := Fr.app N27 N31q
  have F34 := (Nat.le_trans (Nat.le_trans (Nat.le_trans (Nat.le_trans Z0 E10.1) K15.1) E16.1) K22.1)
  obtain ⟨_, _, ⟨T33, L33, k33, n33⟩, -, X33, ⟨Lc33, hQ33, l33, y33, z33⟩, st33⟩ := Jvm.LawKit.callS X31 hx (y := (⟨"com/example/sinkwatch/sinkwatch/ConditionContradictsPinLaw", "holds", "(ZII)Z"⟩ : MethodName)) hown (mvT hZ (tw_25 hw)) (mvT hZ (tw_26 hw)) (mvT hZ (tw_27 hw)) (mvT hZ (tw_28 hw)) (by decide) (backOf (W := 0) (rm5_15 l Z a0 hw [] (va2 p5) (va4 p5 p4 p3) p3 T22.heap n0 F34 ) hZ (tw_28 hw) (tw_27 hw) (by decide) (by decide)) (g := (mkF m 128 (LL9 p1 p2 p3 p4 p5 b11 b17) [(.int p3), (.int (va4 p5 p4 p3)), (.int (va2 p5))])) rfl (by rw [hml]; rfl) (argsL := [(.int (va2 p5)), (.int (va4 p5 p4 p3)), (.int p3)]) (rest := []) (lenOf pd_3 rfl) rfl (by show 2 * 0 + _ ≤ _; exact Nat.le_of_eq rfl) (hb hby at_128) (fun _ _ => ⟨rfl, e31q, (by decide : 2 + 0 ≤ _), (by decide : 6 + 0 ≤ _)⟩)
  dsimp only [Pt.U, Pt.locs, Pt.cells, Pt.slots] at X33 l33 y33 z33 st33 hQ33
  subst l33 y33 z33
  obtain ⟨rfl, N33q, e33q⟩ := hQ33
  have N33 := Fr.app N31 N33q
  have F36 := (Nat.le_trans (Nat.le_trans (Nat.le_trans (Nat.le_trans Z0 E10.1) K15.1) E16.1) K22.1)
  obtain ⟨_, _, ⟨T35, L35, k35, n35⟩, -, X35, ⟨Lc35, hQ35, l35, y35, z35⟩, st35⟩ := Jvm.LawKit.callS X33 hx (y := (⟨"com/example/sinkwatch/sinkwatch/ConditionContradictsPinLaw", "holds", "(ZII)Z"⟩ : MethodName)) hown (mvT hZ (tw_25 hw)) (mvT hZ (tw_26 hw)) (mvT hZ (tw_27 hw)) (mvT hZ (tw_28 hw)) (by decide) (backOf (W := 0) (rm5_18 l Z a0 hw [] (va1 p5) p3 (va4 p5 p4 p3) T22.heap n0 F36 H3) hZ (tw_28 hw) (tw_27 hw) (by decide) (by decide)) (g := (mkF m 139 (LL9 p1 p2 p3 p4 p5 b11 b17) [(.int (va4 p5 p4 p3)), (.int p3), (.int (va1 p5))])) rfl (by rw [hml]; rfl) (argsL := [(.int (va1 p5)), (.int p3), (.int (va4 p5 p4 p3))]) (rest := []) (lenOf pd_3 rfl) rfl (by show 2 * 0 + _ ≤ _; exact Nat.le_of_eq rfl) (hb hby at_139) (fun _ _ => ⟨rfl, e33q, (by decide : 2 + 0 ≤ _), (by decide : 6 + 0 ≤ _)⟩)
  dsimp only [Pt.U, Pt.locs, Pt.cells, Pt.slots] at X35 l35 y35 z35 st35 hQ35
  subst l35 y35 z35
  obtain ⟨rfl, N35q, e35q⟩ := hQ35
  have N35 := Fr.app N33 N35q
  have F38 := (Nat.le_trans (Nat.le_trans (Nat.le_trans (Nat.le_trans Z0 E10.1) K15.1) E16.1) K22.1)
  obtain ⟨_, _, ⟨T37, L37, k37, n37⟩, -, X37, ⟨Lc37, hQ37, l37, y37, z37⟩, st37⟩ := Jvm.LawKit.callS X35 hx (y := (⟨"com/example/sinkwatch/sinkwatch/ConditionContradictsPinLaw", "holds", "(ZII)Z"⟩ : MethodName)) hown (mvT hZ (tw_25 hw)) (mvT hZ (tw_26 hw)) (mvT hZ (tw_27 hw)) (mvT hZ (tw_28 hw)) (by decide) (backOf (W := 0) (rm5_19 l Z a0 hw [] (va1 p5) p3 (va6 p3 p5 p4) T22.heap n0 F38 H3 H5) hZ (tw_28 hw) (tw_27 hw) (by decide) (by decide)) (g := (mkF m 162 (LL9 p1 p2 p3 p4 p5 b11 b17) [(.int (va6 p3 p5 p4)), (.int p3), (.int (va1 p5))])) rfl (by rw [hml]; rfl) (argsL := [(.int (va1 p5)), (.int p3), (.int (va6 p3 p5 p4))]) (rest := []) (lenOf pd_3 rfl) rfl (by show 2 * 0 + _ ≤ _; exact Nat.le_of_eq rfl) (hb hby at_162) (fun _ _ => ⟨rfl, e35q, (by decide : 2 + 0 ≤ _), (by decide : 6 + 0 ≤ _)⟩)
  dsimp only [Pt.U, Pt.locs, Pt.cells, Pt.slots] at X37 l37 y37 z37 st37 hQ37
  subst l37 y37 z37
  obtain ⟨rfl, N37q, e37q⟩ := hQ37
  have N37 := Fr.app N35 N37q
  obtain ⟨fs, hr, hrun, hended, hW, hsame⟩ := X37.leave (v := some (.int (nar .boolean (va17 p1 p5 p2 p3 p4)))) (fun h => by rw [Bd.returns] at h; cases h)
  refine ⟨_, _, pre0 _ ?_, hrun, hended, _, _, rfl, ?_, ⟨_, rfl⟩, hW, hsame.mono (by decide) (by decide)⟩
  · show Steps p.tables e below (s₁.setTop (mkF m 0 (LL1 p1 p2 p3 p4 p5) [])) _
    refine XS.iload X0.here hx rfl (hb hby at_0) rfl ?_
    show Steps p.tables e below (s₁.setTop (mkF m 2 (LL1 p1 p2 p3 p4 p5) [(.int p5)])) _
    refine XS.iconst X0.here hx rfl (hb hby at_2) ?_
    show Steps p.tables e below (s₁.setTop (mkF m 3 (LL1 p1 p2 p3 p4 p5) [(.int (1 : Int32)), (.int p5)])) _
    refine XS.iand X0.here hx rfl (hb hby at_3) rfl ?_
    suffices j6 : Steps p.tables e below (s₁.setTop (mkF m 12 (LL1 p1 p2 p3 p4 p5) [(.int (va1 p5))])) (T37.setFrames fs) by
      show Steps p.tables e below (s₁.setTop (mkF m 4 (LL1 p1 p2 p3 p4 p5) [(.int (p5 &&& (1 : Int32)))])) _
      by_cases j6_1 : (p5 &&& (1 : Int32)) = (0 : Int32)
      ·
        refine XS.ifYes X0.here hx rfl (pc0 := 4) (pc' := 11) rfl (hb hby at_4) rfl ((if0 _ _).trans (teq j6_1).1) (by decide) (by decide) ?_
        show Steps p.tables e below (s₁.setTop (mkF m 11 (LL1 p1 p2 p3 p4 p5) [])) _
        refine XS.iconst X0.here hx rfl (hb hby at_11) ?_
        (try simp only [va1, if_pos j6_1] at j6)
        exact j6
      ·
        refine XS.ifNo X0.here hx rfl (hb hby at_4) rfl ((if0 _ _).trans (feq j6_1).1) ?_
        show Steps p.tables e below (s₁.setTop (mkF m 7 (LL1 p1 p2 p3 p4 p5) [])) _
        refine XS.iconst X0.here hx rfl (hb hby at_7) ?_
        show Steps p.tables e below (s₁.setTop (mkF m 8 (LL1 p1 p2 p3 p4 p5) [(.int (1 : Int32))])) _
        refine XS.goto X0.here hx rfl (pc0 := 8) (pc' := 12) rfl (hb hby at_8) (by decide) (by decide) ?_
        (try simp only [va1, if_neg j6_1] at j6)
        exact j6
    show Steps p.tables e below (s₁.setTop (mkF m 12 (LL1 p1 p2 p3 p4 p5) [(.int (va1 p5))])) _
    refine XS.istore X0.here hx rfl (hb hby at_12) rfl (l' := (LL2 p1 p2 p3 p4 p5)) rfl ?_
    show Steps p.tables e below (s₁.setTop (mkF m 14 (LL2 p1 p2 p3 p4 p5) [])) _
    refine XS.iload X0.here hx rfl (hb hby at_14) rfl ?_
    show Steps p.tables e below (s₁.setTop (mkF m 16 (LL2 p1 p2 p3 p4 p5) [(.int p5)])) _
    refine XS.iconst X0.here hx rfl (hb hby at_16) ?_
    show Steps p.tables e below (s₁.setTop (mkF m 17 (LL2 p1 p2 p3 p4 p5) [(.int (2 : Int32)), (.int p5)])) _
    refine XS.iand X0.here hx rfl (hb hby at_17) rfl ?_
    suffices j7 : Steps p.tables e below (s₁.setTop (mkF m 26 (LL2 p1 p2 p3 p4 p5) [(.int (va2 p5))])) (T37.setFrames fs) by
      show Steps p.tables e below (s₁.setTop (mkF m 18 (LL2 p1 p2 p3 p4 p5) [(.int (p5 &&& (2 : Int32)))])) _
      by_cases j7_1 : (p5 &&& (2 : Int32)) = (0 : Int32)
      ·
        refine XS.ifYes X0.here hx rfl (pc0 := 18) (pc' := 25) rfl (hb hby at_18) rfl ((if0 _ _).trans (teq j7_1).1) (by decide) (by decide) ?_
        show Steps p.tables e below (s₁.setTop (mkF m 25 (LL2 p1 p2 p3 p4 p5) [])) _
        refine XS.iconst X0.here hx rfl (hb hby at_25) ?_
        (try simp only [va2, if_pos j7_1] at j7)
        exact j7
      ·
        refine XS.ifNo X0.here hx rfl (hb hby at_18) rfl ((if0 _ _).trans (feq j7_1).1) ?_
        show Steps p.tables e below (s₁.setTop (mkF m 21 (LL2 p1 p2 p3 p4 p5) [])) _
        refine XS.iconst X0.here hx rfl (hb hby at_21) ?_
        show Steps p.tables e below (s₁.setTop (mkF m 22 (LL2 p1 p2 p3 p4 p5) [(.int (1 : Int32))])) _
        refine XS.goto X0.here hx rfl (pc0 := 22) (pc' := 26) rfl (hb hby at_22) (by decide) (by decide) ?_
        (try simp only [va2, if_neg j7_1] at j7)
        exact j7
    show Steps p.tables e below (s₁.setTop (mkF m 26 (LL2 p1 p2 p3 p4 p5) [(.int (va2 p5))])) _
    refine XS.istore X0.here hx rfl (hb hby at_26) rfl (l' := (LL3 p1 p2 p3 p4 p5)) rfl ?_
    show Steps p.tables e below (s₁.setTop (mkF m 28 (LL3 p1 p2 p3 p4 p5) [])) _
    refine XS.iload X0.here hx rfl (hb hby at_28) rfl ?_
    show Steps p.tables e below (s₁.setTop (mkF m 30 (LL3 p1 p2 p3 p4 p5) [(.int p5)])) _
    refine XS.iconst X0.here hx rfl (hb hby at_30) ?_
    show Steps p.tables e below (s₁.setTop (mkF m 31 (LL3 p1 p2 p3 p4 p5) [(.int (4 : Int32)), (.int p5)])) _
    refine XS.iand X0.here hx rfl (hb hby at_31) rfl ?_
    suffices j8 : Steps p.tables e below (s₁.setTop (mkF m 40 (LL3 p1 p2 p3 p4 p5) [(.int (va3 p5 p2 p1))])) (T37.setFrames fs) by
      show Steps p.tables e below (s₁.setTop (mkF m 32 (LL3 p1 p2 p3 p4 p5) [(.int (p5 &&& (4 : Int32)))])) _
      by_cases j8_1 : (p5 &&& (4 : Int32)) = (0 : Int32)
      ·
        refine XS.ifYes X0.here hx rfl (pc0 := 32) (pc' := 39) rfl (hb hby at_32) rfl ((if0 _ _).trans (teq j8_1).1) (by decide) (by decide) ?_
        show Steps p.tables e below (s₁.setTop (mkF m 39 (LL3 p1 p2 p3 p4 p5) [])) _
        refine XS.iloadN X0.here hx rfl (hb hby at_39) rfl ?_
        (try simp only [va3, if_pos j8_1] at j8)
        exact j8
      ·
        refine XS.ifNo X0.here hx rfl (hb hby at_32) rfl ((if0 _ _).trans (feq j8_1).1) ?_
        show Steps p.tables e below (s₁.setTop (mkF m 35 (LL3 p1 p2 p3 p4 p5) [])) _
        refine XS.iloadN X0.here hx rfl (hb hby at_35) rfl ?_
        show Steps p.tables e below (s₁.setTop (mkF m 36 (LL3 p1 p2 p3 p4 p5) [(.int p1)])) _
        refine XS.goto X0.here hx rfl (pc0 := 36) (pc' := 40) rfl (hb hby at_36) (by decide) (by decide) ?_
        (try simp only [va3, if_neg j8_1] at j8)
        exact j8
    show Steps p.tables e below (s₁.setTop (mkF m 40 (LL3 p1 p2 p3 p4 p5) [(.int (va3 p5 p2 p1))])) _
    refine XS.istore X0.here hx rfl (hb hby at_40) rfl (l' := (LL4 p1 p2 p3 p4 p5)) rfl ?_
    show Steps p.tables e below (s₁.setTop (mkF m 42 (LL4 p1 p2 p3 p4 p5) [])) _
    refine XS.iload X0.here hx rfl (hb hby at_42) rfl ?_
    show Steps p.tables e below (s₁.setTop (mkF m 44 (LL4 p1 p2 p3 p4 p5) [(.int p5)])) _
    refine XS.bipush X0.here hx rfl (hb hby at_44) ?_
    show Steps p.tables e below (s₁.setTop (mkF m 46 (LL4 p1 p2 p3 p4 p5) [(.int (8 : Int32)), (.int p5)])) _
    refine XS.iand X0.here hx rfl (hb hby at_46) rfl ?_
    suffices j9 : Steps p.tables e below (s₁.setTop (mkF m 55 (LL4 p1 p2 p3 p4 p5) [(.int (va4 p5 p4 p3))])) (T37.setFrames fs) by
      show Steps p.tables e below (s₁.setTop (mkF m 47 (LL4 p1 p2 p3 p4 p5) [(.int (p5 &&& (8 : Int32)))])) _
      by_cases j9_1 : (p5 &&& (8 : Int32)) = (0 : Int32)
      ·
        refine XS.ifYes X0.here hx rfl (pc0 := 47) (pc' := 54) rfl (hb hby at_47) rfl ((if0 _ _).trans (teq j9_1).1) (by decide) (by decide) ?_
        show Steps p.tables e below (s₁.setTop (mkF m 54 (LL4 p1 p2 p3 p4 p5) [])) _
        refine XS.iloadN X0.here hx rfl (hb hby at_54) rfl ?_
        (try simp only [va4, if_pos j9_1] at j9)
        exact j9
      ·
        refine XS.ifNo X0.here hx rfl (hb hby at_47) rfl ((if0 _ _).trans (feq j9_1).1) ?_
        show Steps p.tables e below (s₁.setTop (mkF m 50 (LL4 p1 p2 p3 p4 p5) [])) _
        refine XS.iloadN X0.here hx rfl (hb hby at_50) rfl ?_
        show Steps p.tables e below (s₁.setTop (mkF m 51 (LL4 p1 p2 p3 p4 p5) [(.int p3)])) _
        refine XS.goto X0.here hx rfl (pc0 := 51) (pc' := 55) rfl (hb hby at_51) (by decide) (by decide) ?_
        (try simp only [va4, if_neg j9_1] at j9)
        exact j9
    show Steps p.tables e below (s₁.setTop (mkF m 55 (LL4 p1 p2 p3 p4 p5) [(.int (va4 p5 p4 p3))])) _
    refine XS.istore X0.here hx rfl (hb hby at_55) rfl (l' := (LL5 p1 p2 p3 p4 p5)) rfl ?_
    show Steps p.tables e below (s₁.setTop (mkF m 57 (LL5 p1 p2 p3 p4 p5) [])) _
    refine st10 _ ?_
    show Steps p.tables e below (T10.setTop (mkF m 60 (LL5 p1 p2 p3 p4 p5) [(.ref b11)])) _
    refine XS.dup X10.here hx rfl (hb hby at_60) rfl rfl ?_
    show Steps p.tables e below (T10.setTop (mkF m 61 (LL5 p1 p2 p3 p4 p5) [(.ref b11), (.ref b11)])) _
    refine XS.iloadN X10.here hx rfl (hb hby at_61) rfl ?_
    show Steps p.tables e below (T10.setTop (mkF m 62 (LL5 p1 p2 p3 p4 p5) [(.int p1), (.ref b11), (.ref b11)])) _
    refine XS.iload X10.here hx rfl (hb hby at_62) rfl ?_
    show Steps p.tables e below (T10.setTop (mkF m 64 (LL5 p1 p2 p3 p4 p5) [(.int (va1 p5)), (.int p1), (.ref b11), (.ref b11)])) _
    refine XS.iloadN X10.here hx rfl (hb hby at_64) rfl ?_
    show Steps p.tables e below (T10.setTop (mkF m 65 (LL5 p1 p2 p3 p4 p5) [(.int p3), (.int (va1 p5)), (.int p1), (.ref b11), (.ref b11)])) _
    refine st15.trans ?_
    show Steps p.tables e below (T15.setTop (mkF m 68 (LL5 p1 p2 p3 p4 p5) [(.ref b11)])) _
    refine XS.astore X15.here hx rfl (hb hby at_68) rfl rfl (l' := (LL6 p1 p2 p3 p4 p5 b11)) rfl ?_
    show Steps p.tables e below (T15.setTop (mkF m 70 (LL6 p1 p2 p3 p4 p5 b11) [])) _
    refine st16 _ ?_
    show Steps p.tables e below (T16.setTop (mkF m 73 (LL6 p1 p2 p3 p4 p5 b11) [(.ref b17)])) _
    refine XS.dup X16.here hx rfl (hb hby at_73) rfl rfl ?_
    show Steps p.tables e below (T16.setTop (mkF m 74 (LL6 p1 p2 p3 p4 p5 b11) [(.ref b17), (.ref b17)])) _
    refine XS.iload X16.here hx rfl (hb hby at_74) rfl ?_
    show Steps p.tables e below (T16.setTop (mkF m 76 (LL6 p1 p2 p3 p4 p5 b11) [(.int (va3 p5 p2 p1)), (.ref b17), (.ref b17)])) _
    refine XS.iload X16.here hx rfl (hb hby at_76) rfl ?_
    show Steps p.tables e below (T16.setTop (mkF m 78 (LL6 p1 p2 p3 p4 p5 b11) [(.int (va2 p5)), (.int (va3 p5 p2 p1)), (.ref b17), (.ref b17)])) _
    refine XS.iload X16.here hx rfl (hb hby at_78) rfl ?_
    show Steps p.tables e below (T16.setTop (mkF m 80 (LL6 p1 p2 p3 p4 p5 b11) [(.int (va4 p5 p4 p3)), (.int (va2 p5)), (.int (va3 p5 p2 p1)), (.ref b17), (.ref b17)])) _
    refine st22.trans ?_
    show Steps p.tables e below (T22.setTop (mkF m 83 (LL6 p1 p2 p3 p4 p5 b11) [(.ref b17)])) _
    refine XS.astore X22.here hx rfl (hb hby at_83) rfl rfl (l' := (LL7 p1 p2 p3 p4 p5 b11 b17)) rfl ?_
    show Steps p.tables e below (T22.setTop (mkF m 85 (LL7 p1 p2 p3 p4 p5 b11 b17) [])) _
    refine XS.aload X22.here hx rfl (hb hby at_85) rfl rfl ?_
    show Steps p.tables e below (T22.setTop (mkF m 87 (LL7 p1 p2 p3 p4 p5 b11 b17) [(.ref b11)])) _
    refine XS.aload X22.here hx rfl (hb hby at_87) rfl rfl ?_
    show Steps p.tables e below (T22.setTop (mkF m 89 (LL7 p1 p2 p3 p4 p5 b11 b17) [(.ref b17), (.ref b11)])) _
    refine st27.trans ?_
    show Steps p.tables e below (T27.setTop (mkF m 92 (LL7 p1 p2 p3 p4 p5 b11 b17) [(.int (va5 p1 (va3 p5 p2 p1) (nar .boolean (va1 p5)) (nar .boolean (va2 p5)) p3 (va4 p5 p4 p3)))])) _
    refine XS.istore X27.here hx rfl (hb hby at_92) rfl (l' := (LL8 p1 p2 p3 p4 p5 b11 b17)) rfl ?_
    show Steps p.tables e below (T27.setTop (mkF m 94 (LL8 p1 p2 p3 p4 p5 b11 b17) [])) _
    refine XS.iloadN X27.here hx rfl (hb hby at_94) rfl ?_
    show Steps p.tables e below (T27.setTop (mkF m 95 (LL8 p1 p2 p3 p4 p5 b11 b17) [(.int p3)])) _
    refine XS.iconst X27.here hx rfl (hb hby at_95) ?_
    show Steps p.tables e below (T27.setTop (mkF m 96 (LL8 p1 p2 p3 p4 p5 b11 b17) [(.int (1 : Int32)), (.int p3)])) _
    refine XS.iadd X27.here hx rfl (hb hby at_96) rfl ?_
    show Steps p.tables e below (T27.setTop (mkF m 97 (LL8 p1 p2 p3 p4 p5 b11 b17) [(.int (p3 + (1 : Int32)))])) _
    refine XS.iload X27.here hx rfl (hb hby at_97) rfl ?_
    suffices j30 : Steps p.tables e below (T27.setTop (mkF m 111 (LL8 p1 p2 p3 p4 p5 b11 b17) [(.int (va6 p3 p5 p4))])) (T37.setFrames fs) by
      show Steps p.tables e below (T27.setTop (mkF m 99 (LL8 p1 p2 p3 p4 p5 b11 b17) [(.int (va4 p5 p4 p3)), (.int (p3 + (1 : Int32)))])) _
      by_cases j30_1 : (p3 + (1 : Int32)) = (va4 p5 p4 p3)
      ·
        refine XS.icmpYes X27.here hx rfl (pc0 := 99) (pc' := 108) rfl (hb hby at_99) rfl (teq j30_1).1 (by decide) (by decide) ?_
        show Steps p.tables e below (T27.setTop (mkF m 108 (LL8 p1 p2 p3 p4 p5 b11 b17) [])) _
        refine XS.iloadN X27.here hx rfl (hb hby at_108) rfl ?_
        show Steps p.tables e below (T27.setTop (mkF m 109 (LL8 p1 p2 p3 p4 p5 b11 b17) [(.int p3)])) _
        refine XS.iconst X27.here hx rfl (hb hby at_109) ?_
        show Steps p.tables e below (T27.setTop (mkF m 110 (LL8 p1 p2 p3 p4 p5 b11 b17) [(.int (2 : Int32)), (.int p3)])) _
        refine XS.iadd X27.here hx rfl (hb hby at_110) rfl ?_
        (try simp only [va6, if_pos j30_1] at j30)
        exact j30
      ·
        refine XS.icmpNo X27.here hx rfl (hb hby at_99) rfl (feq j30_1).1 ?_
        show Steps p.tables e below (T27.setTop (mkF m 102 (LL8 p1 p2 p3 p4 p5 b11 b17) [])) _
        refine XS.iloadN X27.here hx rfl (hb hby at_102) rfl ?_
        show Steps p.tables e below (T27.setTop (mkF m 103 (LL8 p1 p2 p3 p4 p5 b11 b17) [(.int p3)])) _
        refine XS.iconst X27.here hx rfl (hb hby at_103) ?_
        show Steps p.tables e below (T27.setTop (mkF m 104 (LL8 p1 p2 p3 p4 p5 b11 b17) [(.int (1 : Int32)), (.int p3)])) _
        refine XS.iadd X27.here hx rfl (hb hby at_104) rfl ?_
        show Steps p.tables e below (T27.setTop (mkF m 105 (LL8 p1 p2 p3 p4 p5 b11 b17) [(.int (p3 + (1 : Int32)))])) _
        refine XS.goto X27.here hx rfl (pc0 := 105) (pc' := 111) rfl (hb hby at_105) (by decide) (by decide) ?_
        (try simp only [va6, if_neg j30_1] at j30)
        exact j30
    show Steps p.tables e below (T27.setTop (mkF m 111 (LL8 p1 p2 p3 p4 p5 b11 b17) [(.int (va6 p3 p5 p4))])) _
    refine XS.istore X27.here hx rfl (hb hby at_111) rfl (l' := (LL9 p1 p2 p3 p4 p5 b11 b17)) rfl ?_
    show Steps p.tables e below (T27.setTop (mkF m 113 (LL9 p1 p2 p3 p4 p5 b11 b17) [])) _
    refine XS.iload X27.here hx rfl (hb hby at_113) rfl ?_
    show Steps p.tables e below (T27.setTop (mkF m 115 (LL9 p1 p2 p3 p4 p5 b11 b17) [(.int (va1 p5))])) _
    refine XS.iloadN X27.here hx rfl (hb hby at_115) rfl ?_
    show Steps p.tables e below (T27.setTop (mkF m 116 (LL9 p1 p2 p3 p4 p5 b11 b17) [(.int p3), (.int (va1 p5))])) _
    refine XS.iloadN X27.here hx rfl (hb hby at_116) rfl ?_
    show Steps p.tables e below (T27.setTop (mkF m 117 (LL9 p1 p2 p3 p4 p5 b11 b17) [(.int p3), (.int p3), (.int (va1 p5))])) _
    refine st31 _ ?_
    show Steps p.tables e below (T31.setTop (mkF m 120 (LL9 p1 p2 p3 p4 p5 b11 b17) [(.int (va7 (va1 p5)))])) _
    refine XS.ifNo X31.here hx rfl (hb hby at_120) rfl ((if0 _ _).trans (feq H1).1) ?_
    show Steps p.tables e below (T31.setTop (mkF m 123 (LL9 p1 p2 p3 p4 p5 b11 b17) [])) _
    refine XS.iload X31.here hx rfl (hb hby at_123) rfl ?_
    show Steps p.tables e below (T31.setTop (mkF m 125 (LL9 p1 p2 p3 p4 p5 b11 b17) [(.int (va2 p5))])) _
    refine XS.iload X31.here hx rfl (hb hby at_125) rfl ?_
    show Steps p.tables e below (T31.setTop (mkF m 127 (LL9 p1 p2 p3 p4 p5 b11 b17) [(.int (va4 p5 p4 p3)), (.int (va2 p5))])) _
    refine XS.iloadN X31.here hx rfl (hb hby at_127) rfl ?_
    show Steps p.tables e below (T31.setTop (mkF m 128 (LL9 p1 p2 p3 p4 p5 b11 b17) [(.int p3), (.int (va4 p5 p4 p3)), (.int (va2 p5))])) _
    refine st33 _ ?_
    show Steps p.tables e below (T33.setTop (mkF m 131 (LL9 p1 p2 p3 p4 p5 b11 b17) [(.int (va14 (va2 p5) p3 (va4 p5 p4 p3)))])) _
    refine XS.ifNo X33.here hx rfl (hb hby at_131) rfl ((if0 _ _).trans (teq H2).2) ?_
    show Steps p.tables e below (T33.setTop (mkF m 134 (LL9 p1 p2 p3 p4 p5 b11 b17) [])) _
    refine XS.iload X33.here hx rfl (hb hby at_134) rfl ?_
    show Steps p.tables e below (T33.setTop (mkF m 136 (LL9 p1 p2 p3 p4 p5 b11 b17) [(.int (va1 p5))])) _
    refine XS.iloadN X33.here hx rfl (hb hby at_136) rfl ?_
    show Steps p.tables e below (T33.setTop (mkF m 137 (LL9 p1 p2 p3 p4 p5 b11 b17) [(.int p3), (.int (va1 p5))])) _
    refine XS.iload X33.here hx rfl (hb hby at_137) rfl ?_
    show Steps p.tables e below (T33.setTop (mkF m 139 (LL9 p1 p2 p3 p4 p5 b11 b17) [(.int (va4 p5 p4 p3)), (.int p3), (.int (va1 p5))])) _
    refine st35 _ ?_
    show Steps p.tables e below (T35.setTop (mkF m 142 (LL9 p1 p2 p3 p4 p5 b11 b17) [(.int (va15 (va4 p5 p4 p3) p3))])) _
    refine XS.ifYes X35.here hx rfl (pc0 := 142) (pc' := 157) rfl (hb hby at_142) rfl ((if0 _ _).trans (teq H4).1) (by decide) (by decide) ?_
    show Steps p.tables e below (T35.setTop (mkF m 157 (LL9 p1 p2 p3 p4 p5 b11 b17) [])) _
    refine XS.iload X35.here hx rfl (hb hby at_157) rfl ?_
    show Steps p.tables e below (T35.setTop (mkF m 159 (LL9 p1 p2 p3 p4 p5 b11 b17) [(.int (va1 p5))])) _
    refine XS.iloadN X35.here hx rfl (hb hby at_159) rfl ?_
    show Steps p.tables e below (T35.setTop (mkF m 160 (LL9 p1 p2 p3 p4 p5 b11 b17) [(.int p3), (.int (va1 p5))])) _
    refine XS.iload X35.here hx rfl (hb hby at_160) rfl ?_
    show Steps p.tables e below (T35.setTop (mkF m 162 (LL9 p1 p2 p3 p4 p5 b11 b17) [(.int (va6 p3 p5 p4)), (.int p3), (.int (va1 p5))])) _
    refine st37 _ ?_
    show Steps p.tables e below (T37.setTop (mkF m 165 (LL9 p1 p2 p3 p4 p5 b11 b17) [(.int (0 : Int32))])) _
    refine XS.ifYes X37.here hx rfl (pc0 := 165) (pc' := 184) rfl (hb hby at_165) rfl ((if0 _ _).trans (teq (rfl : (0 : Int32) = (0 : Int32))).1) (by decide) (by decide) ?_
    show Steps p.tables e below (T37.setTop (mkF m 184 (LL9 p1 p2 p3 p4 p5 b11 b17) [])) _
    refine XS.iconst X37.here hx rfl (hb hby at_184) ?_
    show Steps p.tables e below (T37.setTop (mkF m 185 (LL9 p1 p2 p3 p4 p5 b11 b17) [(.int (0 : Int32))])) _
    refine XS.istore X37.here hx rfl (hb hby at_185) rfl (l' := (LL14 p1 p2 p3 p4 p5 b11 b17)) rfl ?_
    show Steps p.tables e below (T37.setTop (mkF m 187 (LL14 p1 p2 p3 p4 p5 b11 b17) [])) _
    refine XS.iloadN X37.here hx rfl (hb hby at_187) rfl ?_
    show Steps p.tables e below (T37.setTop (mkF m 188 (LL14 p1 p2 p3 p4 p5 b11 b17) [(.int p1)])) _
    refine XS.iload X37.here hx rfl (hb hby at_188) rfl ?_
    suffices j39 : Steps p.tables e below (T37.setTop (mkF m 203 (LL14 p1 p2 p3 p4 p5 b11 b17) [(.int (va16 p1 p5 p2))])) (T37.setFrames fs) by
      show Steps p.tables e below (T37.setTop (mkF m 190 (LL14 p1 p2 p3 p4 p5 b11 b17) [(.int (va3 p5 p2 p1)), (.int p1)])) _
      by_cases j39_1 : p1 = (va3 p5 p2 p1)
      ·
        refine XS.icmpNo X37.here hx rfl (hb hby at_190) rfl (teq j39_1).2 ?_
        show Steps p.tables e below (T37.setTop (mkF m 193 (LL14 p1 p2 p3 p4 p5 b11 b17) [])) _
        refine XS.iload X37.here hx rfl (hb hby at_193) rfl ?_
        show Steps p.tables e below (T37.setTop (mkF m 195 (LL14 p1 p2 p3 p4 p5 b11 b17) [(.int (0 : Int32))])) _
        refine XS.ifNo X37.here hx rfl (hb hby at_195) rfl ((if0 _ _).trans (teq (rfl : (0 : Int32) = (0 : Int32))).2) ?_
        show Steps p.tables e below (T37.setTop (mkF m 198 (LL14 p1 p2 p3 p4 p5 b11 b17) [])) _
        refine XS.iconst X37.here hx rfl (hb hby at_198) ?_
        show Steps p.tables e below (T37.setTop (mkF m 199 (LL14 p1 p2 p3 p4 p5 b11 b17) [(.int (1 : Int32))])) _
        refine XS.goto X37.here hx rfl (pc0 := 199) (pc' := 203) rfl (hb hby at_199) (by decide) (by decide) ?_
        (try simp only [va16, if_pos j39_1] at j39)
        exact j39
      ·
        refine XS.icmpYes X37.here hx rfl (pc0 := 190) (pc' := 202) rfl (hb hby at_190) rfl (feq j39_1).2 (by decide) (by decide) ?_
        show Steps p.tables e below (T37.setTop (mkF m 202 (LL14 p1 p2 p3 p4 p5 b11 b17) [])) _
        refine XS.iconst X37.here hx rfl (hb hby at_202) ?_
        (try simp only [va16, if_neg j39_1] at j39)
        exact j39
    show Steps p.tables e below (T37.setTop (mkF m 203 (LL14 p1 p2 p3 p4 p5 b11 b17) [(.int (va16 p1 p5 p2))])) _
    refine XS.istore X37.here hx rfl (hb hby at_203) rfl (l' := (LL15 p1 p2 p3 p4 p5 b11 b17)) rfl ?_
    show Steps p.tables e below (T37.setTop (mkF m 205 (LL15 p1 p2 p3 p4 p5 b11 b17) [])) _
    refine XS.iload X37.here hx rfl (hb hby at_205) rfl ?_
    show Steps p.tables e below (T37.setTop (mkF m 207 (LL15 p1 p2 p3 p4 p5 b11 b17) [(.int (va5 p1 (va3 p5 p2 p1) (nar .boolean (va1 p5)) (nar .boolean (va2 p5)) p3 (va4 p5 p4 p3)))])) _
    refine XS.iload X37.here hx rfl (hb hby at_207) rfl ?_
    suffices j40 : Steps p.tables e below (T37.setTop (mkF m 217 (LL15 p1 p2 p3 p4 p5 b11 b17) [(.int (va17 p1 p5 p2 p3 p4))])) (T37.setFrames fs) by
      show Steps p.tables e below (T37.setTop (mkF m 209 (LL15 p1 p2 p3 p4 p5 b11 b17) [(.int (va16 p1 p5 p2)), (.int (va5 p1 (va3 p5 p2 p1) (nar .boolean (va1 p5)) (nar .boolean (va2 p5)) p3 (va4 p5 p4 p3)))])) _
      by_cases j40_1 : (va5 p1 (va3 p5 p2 p1) (nar .boolean (va1 p5)) (nar .boolean (va2 p5)) p3 (va4 p5 p4 p3)) = (va16 p1 p5 p2)
      ·
        refine XS.icmpNo X37.here hx rfl (hb hby at_209) rfl (teq j40_1).2 ?_
        show Steps p.tables e below (T37.setTop (mkF m 212 (LL15 p1 p2 p3 p4 p5 b11 b17) [])) _
        refine XS.iconst X37.here hx rfl (hb hby at_212) ?_
        show Steps p.tables e below (T37.setTop (mkF m 213 (LL15 p1 p2 p3 p4 p5 b11 b17) [(.int (1 : Int32))])) _
        refine XS.goto X37.here hx rfl (pc0 := 213) (pc' := 217) rfl (hb hby at_213) (by decide) (by decide) ?_
        (try simp only [va17, if_pos j40_1] at j40)
        exact j40
      ·
        refine XS.icmpYes X37.here hx rfl (pc0 := 209) (pc' := 216) rfl (hb hby at_209) rfl (feq j40_1).2 (by decide) (by decide) ?_
        show Steps p.tables e below (T37.setTop (mkF m 216 (LL15 p1 p2 p3 p4 p5 b11 b17) [])) _
        refine XS.iconst X37.here hx rfl (hb hby at_216) ?_
        (try simp only [va17, if_neg j40_1] at j40)
        exact j40
    show Steps p.tables e below (T37.setTop (mkF m 217 (LL15 p1 p2 p3 p4 p5 b11 b17) [(.int (va17 p1 p5 p2 p3 p4))])) _
    exact retN X37 hx (t := .boolean) Bd.returns (by simp) (hb hby at_217) hr
  · show Q0 h0 n0 _ T37.heap _
    rw [e37q]
    exact ⟨(congrArg (fun z => some (Value.int z)) H6), N37⟩
set_option maxRecDepth 65536 in
set_option maxHeartbeats 40000000 in
theorem rm0_4 (l : Launch) (Z : State) (a0 : Array Value) (hw : ∀ d ∈ tables_1, d.before a0 Z = true) (ws : List Jvm.Cond) (p1 : Int32) (p2 : Int32) (p3 : Int32) (p4 : Int32) (p5 : Int32) (h0 : Heap) (n0 : Nat) (Z0 : n0 ≤ h0.size) (H1 : ¬ ((va7 (va1 p5)) = (0 : Int32))) (H2 : (va14 (va2 p5) p3 (va4 p5 p4 p3)) = (0 : Int32)) (H3 : ¬ ((va1 p5) = (0 : Int32))) (H4 : ¬ ((va15 (va4 p5 p4 p3) p3) = (0 : Int32))) (H5 : (va2 p5) = (0 : Int32)) (H6 : ¬ ((va6 p3 p5 p4) = p3)) (H7 : (nar .boolean (va17 p1 p5 p2 p3 p4)) = (1 : Int32)) :
    MetFree l x (head1 (Jvm.Cond.code x code maxLocals ret :: ws) room_1) (fun a U => a = #[(.int p1), (.int p2), (.int p3), (.int p4), (.int p5)] ∧ Z.Warmed39 U.vm ∧ U.heap = h0) (fun _ _ _ _ _ => True) (fun _ U o U' => ∃ v L, o = .returned v ∧ Q0 h0 n0 v U'.heap L ∧ FrameEnd U o U' L 16 128) := by
  refine MetFree.of_bodySF (plainFor_of_name pn_2) hisR ?_
  intro p e s m args below meth c s₁ Bd hml0 hP hK
  obtain ⟨rfl, hZ, hh⟩ := hP
  have hx := Bd.exec
  have hby := Bd.bytes
  have hml : c.maxLocals = 15 := hml0
  have hown : s.vm.findClass "com/example/sinkwatch/sinkwatch/ConditionContradictsPinLaw" = some m.cls := findClass_of_methodNamed Bd.named
  have hnm := (name_of_methodNamed Bd.named Bd.method).1
  have X0 : Stand p l e room_1 s m #[(.int p1), (.int p2), (.int p3), (.int p4), (.int p5)] below meth c s₁ [] 0 0 := Stand.of_body Bd
  have e0 : s₁.heap = h0 := by rw [← hh, Bd.state]; rfl
  have N0 := Fr.nil n0
  have pre0 : ∀ t, Steps p.tables e below (s₁.setTop (mkF m 0 #[.val (.int p1), .val (.int p2), .val (.int p3), .val (.int p4), .val (.int p5), .unset, .unset, .unset, .unset, .unset, .unset, .unset, .unset, .unset, .unset] [])) t → Steps p.tables e below (s₁.setTop (entryFrame m #[(.int p1), (.int p2), (.int p3), (.int p4), (.int p5)] maxLocals)) t := fun t k => castTop (ef0 m p1 p2 p3 p4 p5) k
  obtain ⟨T10, h10, X10, e10, E10, A10, D10, -, st10⟩ := newO X0 hx hZ hown (tw_0 hw) (tw_1 hw) (tw_2 hw) e0 (g := (mkF m 57 (LL5 p1 p2 p3 p4 p5) [])) rfl (hb hby at_57) (by decide) (by decide)
  obtain ⟨b11, g10⟩ : ∃ z, z = h0.size := ⟨_, rfl⟩
  rw [← g10] at A10 D10 st10
  have q10 : n0 ≤ b11 := Nat.le_trans Z0 (Nat.le_of_eq g10.symm)
  have z10 : h0.size ≤ b11 := Nat.le_trans (Nat.le_refl h0.size) (Nat.le_of_eq g10.symm)
  have F12 : Fld Z h10 b11 "com/example/sinkwatch/sinkwatch/Condition" "local" "I" (.int (0 : Int32)) := D10 (Or.inr (tw_15 hw)) (ty := .int) (by decide)
  have F13 : Fld Z h10 b11 "com/example/sinkwatch/sinkwatch/Condition" "equal" "Z" (.int (0 : Int32)) := D10 (Or.inr (tw_17 hw)) (ty := .boolean) (by decide)
  have F14 : Fld Z h10 b11 "com/example/sinkwatch/sinkwatch/Condition" "constant" "I" (.int (0 : Int32)) := D10 (Or.inr (tw_19 hw)) (ty := .int) (by decide)
  obtain ⟨_, _, ⟨T15, L15, k15, n15⟩, -, X15, ⟨Lc15, hQ15, l15, y15, z15⟩, st15⟩ := X10.specialBack hx (y := (⟨"com/example/sinkwatch/sinkwatch/Condition", "<init>", "(IZI)V"⟩ : MethodName)) rfl hown (mvT hZ (tw_3 hw)) (mvT hZ (tw_4 hw)) (mvT hZ (tw_5 hw)) (by decide) (backOf (W := 1) (rm1_1 l Z a0 hw [] b11 p1 (va1 p5) p3 h10 n0 (Nat.le_trans Z0 E10.1) F12 A10 q10 F13 F14) hZ (tw_5 hw) (tw_2 hw) (by decide) (by decide)) (g := (mkF m 65 (LL5 p1 p2 p3 p4 p5) [(.int p3), (.int (va1 p5)), (.int p1), (.ref b11), (.ref b11)])) rfl (by rw [hml]; rfl) (Steps.refl _) (a := b11) (argsL := [(.int p1), (.int (va1 p5)), (.int p3)]) (rest := [(.ref b11)]) (lenOf pd_1 rfl) rfl (by show 2 * 0 + _ ≤ _; exact Nat.le_of_eq rfl) (hb hby at_65) (fun _ _ => ⟨rfl, e10, (by decide : 1 + 0 ≤ _), (by decide : 3 + 0 ≤ _)⟩)
  dsimp only [Pt.U, Pt.locs, Pt.cells, Pt.slots] at X15 l15 y15 z15 st15 hQ15
  subst l15 y15 z15
  obtain ⟨rfl, N15q, K15, f15_0, f15_1, f15_2⟩ := hQ15
  have N15 := Fr.app N0 N15q
  obtain ⟨T16, h16, X16, e16, E16, A16, D16, -, st16⟩ := newO X15 hx hZ hown (tw_0 hw) (tw_1 hw) (tw_2 hw) rfl (g := (mkF m 70 (LL6 p1 p2 p3 p4 p5 b11) [])) rfl (hb hby at_70) (by decide) (by decide)
  obtain ⟨b17, g16⟩ : ∃ z, z = T15.heap.size := ⟨_, rfl⟩
  rw [← g16] at A16 D16 st16
  have F18 := (Nat.le_trans (Nat.le_trans (Nat.le_refl h0.size) E10.1) K15.1)
  have q16 : n0 ≤ b17 := Nat.le_trans (Nat.le_trans (Nat.le_trans Z0 E10.1) K15.1) (Nat.le_of_eq g16.symm)
  have z16 : h0.size ≤ b17 := Nat.le_trans F18 (Nat.le_of_eq g16.symm)
  have F19 : Fld Z h16 b17 "com/example/sinkwatch/sinkwatch/Condition" "local" "I" (.int (0 : Int32)) := D16 (Or.inr (tw_15 hw)) (ty := .int) (by decide)
  have F20 : Fld Z h16 b17 "com/example/sinkwatch/sinkwatch/Condition" "equal" "Z" (.int (0 : Int32)) := D16 (Or.inr (tw_17 hw)) (ty := .boolean) (by decide)
  have F21 : Fld Z h16 b17 "com/example/sinkwatch/sinkwatch/Condition" "constant" "I" (.int (0 : Int32)) := D16 (Or.inr (tw_19 hw)) (ty := .int) (by decide)
  have F23 := (Nat.le_trans (Nat.le_trans (Nat.le_trans Z0 E10.1) K15.1) E16.1)
  obtain ⟨_, _, ⟨T22, L22, k22, n22⟩, -, X22, ⟨Lc22, hQ22, l22, y22, z22⟩, st22⟩ := X16.specialBack hx (y := (⟨"com/example/sinkwatch/sinkwatch/Condition", "<init>", "(IZI)V"⟩ : MethodName)) rfl hown (mvT hZ (tw_3 hw)) (mvT hZ (tw_4 hw)) (mvT hZ (tw_5 hw)) (by decide) (backOf (W := 1) (rm1_1 l Z a0 hw [] b17 (va3 p5 p2 p1) (va2 p5) (va4 p5 p4 p3) h16 n0 F23 F19 A16 q16 F20 F21) hZ (tw_5 hw) (tw_2 hw) (by decide) (by decide)) (g := (mkF m 80 (LL6 p1 p2 p3 p4 p5 b11) [(.int (va4 p5 p4 p3)), (.int (va2 p5)), (.int (va3 p5 p2 p1)), (.ref b17), (.ref b17)])) rfl (by rw [hml]; rfl) (Steps.refl _) (a := b17) (argsL := [(.int (va3 p5 p2 p1)), (.int (va2 p5)), (.int (va4 p5 p4 p3))]) (rest := [(.ref b17)]) (lenOf pd_1 rfl) rfl (by show 2 * 0 + _ ≤ _; exact Nat.le_of_eq rfl) (hb hby at_80) (fun _ _ => ⟨rfl, e16, (by decide : 2 + 0 ≤ _), (by decide : 6 + 0 ≤ _)⟩)
  dsimp only [Pt.U, Pt.locs, Pt.cells, Pt.slots] at X22 l22 y22 z22 st22 hQ22
  subst l22 y22 z22
  obtain ⟨rfl, N22q, K22, f22_0, f22_1, f22_2⟩ := hQ22
  have N22 := Fr.app N15 N22q
  have F24 := (Fld.keep (Fld.ext E16 f15_2) K22 (ninS (Nat.ne_of_lt (Nat.lt_of_lt_of_le f15_0.lt (Nat.le_of_eq g16.symm))) nin0))
  have F25 := (Fld.keep (Fld.ext E16 f15_1) K22 (ninS (Nat.ne_of_lt (Nat.lt_of_lt_of_le f15_0.lt (Nat.le_of_eq g16.symm))) nin0))
  have F26 := (Fld.keep (Fld.ext E16 f15_0) K22 (ninS (Nat.ne_of_lt (Nat.lt_of_lt_of_le f15_0.lt (Nat.le_of_eq g16.symm))) nin0))
  have F28 := (Nat.le_trans (Nat.le_trans (Nat.le_trans (Nat.le_trans Z0 E10.1) K15.1) E16.1) K22.1)
  have F29 := (Exa.keep (Exa.ext E16 (Exa.keep A10 K15)) K22)
  obtain ⟨cq27, kq27, q27a, q27b, q27c⟩ := isOf hZ rfl F29
  obtain ⟨_, _, ⟨T27, L27, k27, n27⟩, -, X27, ⟨Lc27, hQ27, l27, y27, z27⟩, st27⟩ := X22.virtualBack hx (y := (⟨"com/example/sinkwatch/sinkwatch/Condition", "contradicts", "(Lcom/example/sinkwatch/sinkwatch/Condition;)Z"⟩ : MethodName)) (z := (⟨"com/example/sinkwatch/sinkwatch/Condition", "contradicts", "(Lcom/example/sinkwatch/sinkwatch/Condition;)Z"⟩ : MethodName)) hown (mvT hZ (tw_20 hw)) (mvT hZ (tw_21 hw)) (notFace_of_selects (args := #[]) (mvT hZ (tw_23 hw))) (mvT hZ (tw_23 hw)) (mvT hZ (tw_22 hw)) (by decide) (backOf (W := 0) (rm4_9 l Z a0 hw [] b11 b17 p1 (va3 p5 p2 p1) (nar .boolean (va1 p5)) (nar .boolean (va2 p5)) p3 (va4 p5 p4 p3) T22.heap n0 F28 F24 f22_2 F25 f22_1 F26 f22_0) hZ (tw_24 hw) (tw_2 hw) (by decide) (by decide)) q27a q27c (g := (mkF m 89 (LL7 p1 p2 p3 p4 p5 b11 b17) [(.ref b17), (.ref b11)])) rfl (by rw [hml]; rfl) (Steps.refl _) (argsL := [(.ref b17)]) (rest := []) (lenOf pd_2 rfl) rfl (by show 2 * 0 + _ ≤ _; exact Nat.le_of_eq rfl) (hb hby at_89) (fun _ _ => ⟨rfl, rfl, (by decide : 2 + 0 ≤ _), (by decide : 6 + 0 ≤ _)⟩)
  dsimp only [Pt.U, Pt.locs, Pt.cells, Pt.slots] at X27 l27 y27 z27 st27 hQ27
  subst l27 y27 z27
  obtain ⟨rfl, N27q, e27q⟩ := hQ27
  have N27 := Fr.app N22 N27q
  have F32 := (Nat.le_trans (Nat.le_trans (Nat.le_trans (Nat.le_trans Z0 E10.1) K15.1) E16.1) K22.1)
  obtain ⟨_, _, ⟨T31, L31, k31, n31⟩, -, X31, ⟨Lc31, hQ31, l31, y31, z31⟩, st31⟩ := Jvm.LawKit.callS X27 hx (y := (⟨"com/example/sinkwatch/sinkwatch/ConditionContradictsPinLaw", "holds", "(ZII)Z"⟩ : MethodName)) hown (mvT hZ (tw_25 hw)) (mvT hZ (tw_26 hw)) (mvT hZ (tw_27 hw)) (mvT hZ (tw_28 hw)) (by decide) (backOf (W := 0) (rm5_3 l Z a0 hw [] (va1 p5) p3 T22.heap n0 F32 ) hZ (tw_28 hw) (tw_27 hw) (by decide) (by decide)) (g := (mkF m 117 (LL9 p1 p2 p3 p4 p5 b11 b17) [(.int p3), (.int p3), (.int (va1 p5))])) rfl (by rw [hml]; rfl) (argsL := [(.int (va1 p5)), (.int p3), (.int p3)]) (rest := []) (lenOf pd_3 rfl) rfl (by show 2 * 0 + _ ≤ _; exact Nat.le_of_eq rfl) (hb hby at_117) (fun _ _ => ⟨rfl, e27q, (by decide : 2 + 0 ≤ _), (by decide : 6 + 0 ≤ _)⟩)
  dsimp only [Pt.U, Pt.locs, Pt.cells, Pt.slots] at X31 l31 y31 z31 st31 hQ31
  subst l31 y31 z31
  obtain ⟨rfl, N31q, e31q⟩ := hQ31
  have N31 := Fr.app N27 N31q
  have F34 := (Nat.le_trans (Nat.le_trans (Nat.le_trans (Nat.le_trans Z0 E10.1) K15.1) E16.1) K22.1)
  obtain ⟨_, _, ⟨T33, L33, k33, n33⟩, -, X33, ⟨Lc33, hQ33, l33, y33, z33⟩, st33⟩ := Jvm.LawKit.callS X31 hx (y := (⟨"com/example/sinkwatch/sinkwatch/ConditionContradictsPinLaw", "holds", "(ZII)Z"⟩ : MethodName)) hown (mvT hZ (tw_25 hw)) (mvT hZ (tw_26 hw)) (mvT hZ (tw_27 hw)) (mvT hZ (tw_28 hw)) (by decide) (backOf (W := 0) (rm5_15 l Z a0 hw [] (va2 p5) (va4 p5 p4 p3) p3 T22.heap n0 F34 ) hZ (tw_28 hw) (tw_27 hw) (by decide) (by decide)) (g := (mkF m 128 (LL9 p1 p2 p3 p4 p5 b11 b17) [(.int p3), (.int (va4 p5 p4 p3)), (.int (va2 p5))])) rfl (by rw [hml]; rfl) (argsL := [(.int (va2 p5)), (.int (va4 p5 p4 p3)), (.int p3)]) (rest := []) (lenOf pd_3 rfl) rfl (by show 2 * 0 + _ ≤ _; exact Nat.le_of_eq rfl) (hb hby at_128) (fun _ _ => ⟨rfl, e31q, (by decide : 2 + 0 ≤ _), (by decide : 6 + 0 ≤ _)⟩)
  dsimp only [Pt.U, Pt.locs, Pt.cells, Pt.slots] at X33 l33 y33 z33 st33 hQ33
  subst l33 y33 z33
  obtain ⟨rfl, N33q, e33q⟩ := hQ33
  have N33 := Fr.app N31 N33q
  have F36 := (Nat.le_trans (Nat.le_trans (Nat.le_trans (Nat.le_trans Z0 E10.1) K15.1) E16.1) K22.1)
  obtain ⟨_, _, ⟨T35, L35, k35, n35⟩, -, X35, ⟨Lc35, hQ35, l35, y35, z35⟩, st35⟩ := Jvm.LawKit.callS X33 hx (y := (⟨"com/example/sinkwatch/sinkwatch/ConditionContradictsPinLaw", "holds", "(ZII)Z"⟩ : MethodName)) hown (mvT hZ (tw_25 hw)) (mvT hZ (tw_26 hw)) (mvT hZ (tw_27 hw)) (mvT hZ (tw_28 hw)) (by decide) (backOf (W := 0) (rm5_18 l Z a0 hw [] (va1 p5) p3 (va4 p5 p4 p3) T22.heap n0 F36 H3) hZ (tw_28 hw) (tw_27 hw) (by decide) (by decide)) (g := (mkF m 139 (LL9 p1 p2 p3 p4 p5 b11 b17) [(.int (va4 p5 p4 p3)), (.int p3), (.int (va1 p5))])) rfl (by rw [hml]; rfl) (argsL := [(.int (va1 p5)), (.int p3), (.int (va4 p5 p4 p3))]) (rest := []) (lenOf pd_3 rfl) rfl (by show 2 * 0 + _ ≤ _; exact Nat.le_of_eq rfl) (hb hby at_139) (fun _ _ => ⟨rfl, e33q, (by decide : 2 + 0 ≤ _), (by decide : 6 + 0 ≤ _)⟩)
  dsimp only [Pt.U, Pt.locs, Pt.cells, Pt.slots] at X35 l35 y35 z35 st35 hQ35
  subst l35 y35 z35
  obtain ⟨rfl, N35q, e35q⟩ := hQ35
  have N35 := Fr.app N33 N35q
  have F38 := (Nat.le_trans (Nat.le_trans (Nat.le_trans (Nat.le_trans Z0 E10.1) K15.1) E16.1) K22.1)
  obtain ⟨_, _, ⟨T37, L37, k37, n37⟩, -, X37, ⟨Lc37, hQ37, l37, y37, z37⟩, st37⟩ := Jvm.LawKit.callS X35 hx (y := (⟨"com/example/sinkwatch/sinkwatch/ConditionContradictsPinLaw", "holds", "(ZII)Z"⟩ : MethodName)) hown (mvT hZ (tw_25 hw)) (mvT hZ (tw_26 hw)) (mvT hZ (tw_27 hw)) (mvT hZ (tw_28 hw)) (by decide) (backOf (W := 0) (rm5_20 l Z a0 hw [] (va2 p5) (va4 p5 p4 p3) T22.heap n0 F38 H5) hZ (tw_28 hw) (tw_27 hw) (by decide) (by decide)) (g := (mkF m 151 (LL9 p1 p2 p3 p4 p5 b11 b17) [(.int (va4 p5 p4 p3)), (.int (va4 p5 p4 p3)), (.int (va2 p5))])) rfl (by rw [hml]; rfl) (argsL := [(.int (va2 p5)), (.int (va4 p5 p4 p3)), (.int (va4 p5 p4 p3))]) (rest := []) (lenOf pd_3 rfl) rfl (by show 2 * 0 + _ ≤ _; exact Nat.le_of_eq rfl) (hb hby at_151) (fun _ _ => ⟨rfl, e35q, (by decide : 2 + 0 ≤ _), (by decide : 6 + 0 ≤ _)⟩)
  dsimp only [Pt.U, Pt.locs, Pt.cells, Pt.slots] at X37 l37 y37 z37 st37 hQ37
  subst l37 y37 z37
  obtain ⟨rfl, N37q, e37q⟩ := hQ37
  have N37 := Fr.app N35 N37q
  have F40 := (Nat.le_trans (Nat.le_trans (Nat.le_trans (Nat.le_trans Z0 E10.1) K15.1) E16.1) K22.1)
  obtain ⟨_, _, ⟨T39, L39, k39, n39⟩, -, X39, ⟨Lc39, hQ39, l39, y39, z39⟩, st39⟩ := Jvm.LawKit.callS X37 hx (y := (⟨"com/example/sinkwatch/sinkwatch/ConditionContradictsPinLaw", "holds", "(ZII)Z"⟩ : MethodName)) hown (mvT hZ (tw_25 hw)) (mvT hZ (tw_26 hw)) (mvT hZ (tw_27 hw)) (mvT hZ (tw_28 hw)) (by decide) (backOf (W := 0) (rm5_19 l Z a0 hw [] (va1 p5) p3 (va6 p3 p5 p4) T22.heap n0 F40 H3 H6) hZ (tw_28 hw) (tw_27 hw) (by decide) (by decide)) (g := (mkF m 162 (LL9 p1 p2 p3 p4 p5 b11 b17) [(.int (va6 p3 p5 p4)), (.int p3), (.int (va1 p5))])) rfl (by rw [hml]; rfl) (argsL := [(.int (va1 p5)), (.int p3), (.int (va6 p3 p5 p4))]) (rest := []) (lenOf pd_3 rfl) rfl (by show 2 * 0 + _ ≤ _; exact Nat.le_of_eq rfl) (hb hby at_162) (fun _ _ => ⟨rfl, e37q, (by decide : 2 + 0 ≤ _), (by decide : 6 + 0 ≤ _)⟩)
  dsimp only [Pt.U, Pt.locs, Pt.cells, Pt.slots] at X39 l39 y39 z39 st39 hQ39
  subst l39 y39 z39
  obtain ⟨rfl, N39q, e39q⟩ := hQ39
  have N39 := Fr.app N37 N39q
  obtain ⟨fs, hr, hrun, hended, hW, hsame⟩ := X39.leave (v := some (.int (nar .boolean (va17 p1 p5 p2 p3 p4)))) (fun h => by rw [Bd.returns] at h; cases h)
  refine ⟨_, _, pre0 _ ?_, hrun, hended, _, _, rfl, ?_, ⟨_, rfl⟩, hW, hsame.mono (by decide) (by decide)⟩
  · show Steps p.tables e below (s₁.setTop (mkF m 0 (LL1 p1 p2 p3 p4 p5) [])) _
    refine XS.iload X0.here hx rfl (hb hby at_0) rfl ?_
    show Steps p.tables e below (s₁.setTop (mkF m 2 (LL1 p1 p2 p3 p4 p5) [(.int p5)])) _
    refine XS.iconst X0.here hx rfl (hb hby at_2) ?_
    show Steps p.tables e below (s₁.setTop (mkF m 3 (LL1 p1 p2 p3 p4 p5) [(.int (1 : Int32)), (.int p5)])) _
    refine XS.iand X0.here hx rfl (hb hby at_3) rfl ?_
    suffices j6 : Steps p.tables e below (s₁.setTop (mkF m 12 (LL1 p1 p2 p3 p4 p5) [(.int (va1 p5))])) (T39.setFrames fs) by
      show Steps p.tables e below (s₁.setTop (mkF m 4 (LL1 p1 p2 p3 p4 p5) [(.int (p5 &&& (1 : Int32)))])) _
      by_cases j6_1 : (p5 &&& (1 : Int32)) = (0 : Int32)
      ·
        refine XS.ifYes X0.here hx rfl (pc0 := 4) (pc' := 11) rfl (hb hby at_4) rfl ((if0 _ _).trans (teq j6_1).1) (by decide) (by decide) ?_
        show Steps p.tables e below (s₁.setTop (mkF m 11 (LL1 p1 p2 p3 p4 p5) [])) _
        refine XS.iconst X0.here hx rfl (hb hby at_11) ?_
        (try simp only [va1, if_pos j6_1] at j6)
        exact j6
      ·
        refine XS.ifNo X0.here hx rfl (hb hby at_4) rfl ((if0 _ _).trans (feq j6_1).1) ?_
        show Steps p.tables e below (s₁.setTop (mkF m 7 (LL1 p1 p2 p3 p4 p5) [])) _
        refine XS.iconst X0.here hx rfl (hb hby at_7) ?_
        show Steps p.tables e below (s₁.setTop (mkF m 8 (LL1 p1 p2 p3 p4 p5) [(.int (1 : Int32))])) _
        refine XS.goto X0.here hx rfl (pc0 := 8) (pc' := 12) rfl (hb hby at_8) (by decide) (by decide) ?_
        (try simp only [va1, if_neg j6_1] at j6)
        exact j6
    show Steps p.tables e below (s₁.setTop (mkF m 12 (LL1 p1 p2 p3 p4 p5) [(.int (va1 p5))])) _
    refine XS.istore X0.here hx rfl (hb hby at_12) rfl (l' := (LL2 p1 p2 p3 p4 p5)) rfl ?_
    show Steps p.tables e below (s₁.setTop (mkF m 14 (LL2 p1 p2 p3 p4 p5) [])) _
    refine XS.iload X0.here hx rfl (hb hby at_14) rfl ?_
    show Steps p.tables e below (s₁.setTop (mkF m 16 (LL2 p1 p2 p3 p4 p5) [(.int p5)])) _
    refine XS.iconst X0.here hx rfl (hb hby at_16) ?_
    show Steps p.tables e below (s₁.setTop (mkF m 17 (LL2 p1 p2 p3 p4 p5) [(.int (2 : Int32)), (.int p5)])) _
    refine XS.iand X0.here hx rfl (hb hby at_17) rfl ?_
    suffices j7 : Steps p.tables e below (s₁.setTop (mkF m 26 (LL2 p1 p2 p3 p4 p5) [(.int (va2 p5))])) (T39.setFrames fs) by
      show Steps p.tables e below (s₁.setTop (mkF m 18 (LL2 p1 p2 p3 p4 p5) [(.int (p5 &&& (2 : Int32)))])) _
      by_cases j7_1 : (p5 &&& (2 : Int32)) = (0 : Int32)
      ·
        refine XS.ifYes X0.here hx rfl (pc0 := 18) (pc' := 25) rfl (hb hby at_18) rfl ((if0 _ _).trans (teq j7_1).1) (by decide) (by decide) ?_
        show Steps p.tables e below (s₁.setTop (mkF m 25 (LL2 p1 p2 p3 p4 p5) [])) _
        refine XS.iconst X0.here hx rfl (hb hby at_25) ?_
        (try simp only [va2, if_pos j7_1] at j7)
        exact j7
      ·
        refine XS.ifNo X0.here hx rfl (hb hby at_18) rfl ((if0 _ _).trans (feq j7_1).1) ?_
        show Steps p.tables e below (s₁.setTop (mkF m 21 (LL2 p1 p2 p3 p4 p5) [])) _
        refine XS.iconst X0.here hx rfl (hb hby at_21) ?_
        show Steps p.tables e below (s₁.setTop (mkF m 22 (LL2 p1 p2 p3 p4 p5) [(.int (1 : Int32))])) _
        refine XS.goto X0.here hx rfl (pc0 := 22) (pc' := 26) rfl (hb hby at_22) (by decide) (by decide) ?_
        (try simp only [va2, if_neg j7_1] at j7)
        exact j7
    show Steps p.tables e below (s₁.setTop (mkF m 26 (LL2 p1 p2 p3 p4 p5) [(.int (va2 p5))])) _
    refine XS.istore X0.here hx rfl (hb hby at_26) rfl (l' := (LL3 p1 p2 p3 p4 p5)) rfl ?_
    show Steps p.tables e below (s₁.setTop (mkF m 28 (LL3 p1 p2 p3 p4 p5) [])) _
    refine XS.iload X0.here hx rfl (hb hby at_28) rfl ?_
    show Steps p.tables e below (s₁.setTop (mkF m 30 (LL3 p1 p2 p3 p4 p5) [(.int p5)])) _
    refine XS.iconst X0.here hx rfl (hb hby at_30) ?_
    show Steps p.tables e below (s₁.setTop (mkF m 31 (LL3 p1 p2 p3 p4 p5) [(.int (4 : Int32)), (.int p5)])) _
    refine XS.iand X0.here hx rfl (hb hby at_31) rfl ?_
    suffices j8 : Steps p.tables e below (s₁.setTop (mkF m 40 (LL3 p1 p2 p3 p4 p5) [(.int (va3 p5 p2 p1))])) (T39.setFrames fs) by
      show Steps p.tables e below (s₁.setTop (mkF m 32 (LL3 p1 p2 p3 p4 p5) [(.int (p5 &&& (4 : Int32)))])) _
      by_cases j8_1 : (p5 &&& (4 : Int32)) = (0 : Int32)
      ·
        refine XS.ifYes X0.here hx rfl (pc0 := 32) (pc' := 39) rfl (hb hby at_32) rfl ((if0 _ _).trans (teq j8_1).1) (by decide) (by decide) ?_
        show Steps p.tables e below (s₁.setTop (mkF m 39 (LL3 p1 p2 p3 p4 p5) [])) _
        refine XS.iloadN X0.here hx rfl (hb hby at_39) rfl ?_
        (try simp only [va3, if_pos j8_1] at j8)
        exact j8
      ·
        refine XS.ifNo X0.here hx rfl (hb hby at_32) rfl ((if0 _ _).trans (feq j8_1).1) ?_
        show Steps p.tables e below (s₁.setTop (mkF m 35 (LL3 p1 p2 p3 p4 p5) [])) _
        refine XS.iloadN X0.here hx rfl (hb hby at_35) rfl ?_
        show Steps p.tables e below (s₁.setTop (mkF m 36 (LL3 p1 p2 p3 p4 p5) [(.int p1)])) _
        refine XS.goto X0.here hx rfl (pc0 := 36) (pc' := 40) rfl (hb hby at_36) (by decide) (by decide) ?_
        (try simp only [va3, if_neg j8_1] at j8)
        exact j8
    show Steps p.tables e below (s₁.setTop (mkF m 40 (LL3 p1 p2 p3 p4 p5) [(.int (va3 p5 p2 p1))])) _
    refine XS.istore X0.here hx rfl (hb hby at_40) rfl (l' := (LL4 p1 p2 p3 p4 p5)) rfl ?_
    show Steps p.tables e below (s₁.setTop (mkF m 42 (LL4 p1 p2 p3 p4 p5) [])) _
    refine XS.iload X0.here hx rfl (hb hby at_42) rfl ?_
    show Steps p.tables e below (s₁.setTop (mkF m 44 (LL4 p1 p2 p3 p4 p5) [(.int p5)])) _
    refine XS.bipush X0.here hx rfl (hb hby at_44) ?_
    show Steps p.tables e below (s₁.setTop (mkF m 46 (LL4 p1 p2 p3 p4 p5) [(.int (8 : Int32)), (.int p5)])) _
    refine XS.iand X0.here hx rfl (hb hby at_46) rfl ?_
    suffices j9 : Steps p.tables e below (s₁.setTop (mkF m 55 (LL4 p1 p2 p3 p4 p5) [(.int (va4 p5 p4 p3))])) (T39.setFrames fs) by
      show Steps p.tables e below (s₁.setTop (mkF m 47 (LL4 p1 p2 p3 p4 p5) [(.int (p5 &&& (8 : Int32)))])) _
      by_cases j9_1 : (p5 &&& (8 : Int32)) = (0 : Int32)
      ·
        refine XS.ifYes X0.here hx rfl (pc0 := 47) (pc' := 54) rfl (hb hby at_47) rfl ((if0 _ _).trans (teq j9_1).1) (by decide) (by decide) ?_
        show Steps p.tables e below (s₁.setTop (mkF m 54 (LL4 p1 p2 p3 p4 p5) [])) _
        refine XS.iloadN X0.here hx rfl (hb hby at_54) rfl ?_
        (try simp only [va4, if_pos j9_1] at j9)
        exact j9
      ·
        refine XS.ifNo X0.here hx rfl (hb hby at_47) rfl ((if0 _ _).trans (feq j9_1).1) ?_
        show Steps p.tables e below (s₁.setTop (mkF m 50 (LL4 p1 p2 p3 p4 p5) [])) _
        refine XS.iloadN X0.here hx rfl (hb hby at_50) rfl ?_
        show Steps p.tables e below (s₁.setTop (mkF m 51 (LL4 p1 p2 p3 p4 p5) [(.int p3)])) _
        refine XS.goto X0.here hx rfl (pc0 := 51) (pc' := 55) rfl (hb hby at_51) (by decide) (by decide) ?_
        (try simp only [va4, if_neg j9_1] at j9)
        exact j9
    show Steps p.tables e below (s₁.setTop (mkF m 55 (LL4 p1 p2 p3 p4 p5) [(.int (va4 p5 p4 p3))])) _
    refine XS.istore X0.here hx rfl (hb hby at_55) rfl (l' := (LL5 p1 p2 p3 p4 p5)) rfl ?_
    show Steps p.tables e below (s₁.setTop (mkF m 57 (LL5 p1 p2 p3 p4 p5) [])) _
    refine st10 _ ?_
    show Steps p.tables e below (T10.setTop (mkF m 60 (LL5 p1 p2 p3 p4 p5) [(.ref b11)])) _
    refine XS.dup X10.here hx rfl (hb hby at_60) rfl rfl ?_
    show Steps p.tables e below (T10.setTop (mkF m 61 (LL5 p1 p2 p3 p4 p5) [(.ref b11), (.ref b11)])) _
    refine XS.iloadN X10.here hx rfl (hb hby at_61) rfl ?_
    show Steps p.tables e below (T10.setTop (mkF m 62 (LL5 p1 p2 p3 p4 p5) [(.int p1), (.ref b11), (.ref b11)])) _
    refine XS.iload X10.here hx rfl (hb hby at_62) rfl ?_
    show Steps p.tables e below (T10.setTop (mkF m 64 (LL5 p1 p2 p3 p4 p5) [(.int (va1 p5)), (.int p1), (.ref b11), (.ref b11)])) _
    refine XS.iloadN X10.here hx rfl (hb hby at_64) rfl ?_
    show Steps p.tables e below (T10.setTop (mkF m 65 (LL5 p1 p2 p3 p4 p5) [(.int p3), (.int (va1 p5)), (.int p1), (.ref b11), (.ref b11)])) _
    refine st15.trans ?_
    show Steps p.tables e below (T15.setTop (mkF m 68 (LL5 p1 p2 p3 p4 p5) [(.ref b11)])) _
    refine XS.astore X15.here hx rfl (hb hby at_68) rfl rfl (l' := (LL6 p1 p2 p3 p4 p5 b11)) rfl ?_
    show Steps p.tables e below (T15.setTop (mkF m 70 (LL6 p1 p2 p3 p4 p5 b11) [])) _
    refine st16 _ ?_
    show Steps p.tables e below (T16.setTop (mkF m 73 (LL6 p1 p2 p3 p4 p5 b11) [(.ref b17)])) _
    refine XS.dup X16.here hx rfl (hb hby at_73) rfl rfl ?_
    show Steps p.tables e below (T16.setTop (mkF m 74 (LL6 p1 p2 p3 p4 p5 b11) [(.ref b17), (.ref b17)])) _
    refine XS.iload X16.here hx rfl (hb hby at_74) rfl ?_
    show Steps p.tables e below (T16.setTop (mkF m 76 (LL6 p1 p2 p3 p4 p5 b11) [(.int (va3 p5 p2 p1)), (.ref b17), (.ref b17)])) _
    refine XS.iload X16.here hx rfl (hb hby at_76) rfl ?_
    show Steps p.tables e below (T16.setTop (mkF m 78 (LL6 p1 p2 p3 p4 p5 b11) [(.int (va2 p5)), (.int (va3 p5 p2 p1)), (.ref b17), (.ref b17)])) _
    refine XS.iload X16.here hx rfl (hb hby at_78) rfl ?_
    show Steps p.tables e below (T16.setTop (mkF m 80 (LL6 p1 p2 p3 p4 p5 b11) [(.int (va4 p5 p4 p3)), (.int (va2 p5)), (.int (va3 p5 p2 p1)), (.ref b17), (.ref b17)])) _
    refine st22.trans ?_
    show Steps p.tables e below (T22.setTop (mkF m 83 (LL6 p1 p2 p3 p4 p5 b11) [(.ref b17)])) _
    refine XS.astore X22.here hx rfl (hb hby at_83) rfl rfl (l' := (LL7 p1 p2 p3 p4 p5 b11 b17)) rfl ?_
    show Steps p.tables e below (T22.setTop (mkF m 85 (LL7 p1 p2 p3 p4 p5 b11 b17) [])) _
    refine XS.aload X22.here hx rfl (hb hby at_85) rfl rfl ?_
    show Steps p.tables e below (T22.setTop (mkF m 87 (LL7 p1 p2 p3 p4 p5 b11 b17) [(.ref b11)])) _
    refine XS.aload X22.here hx rfl (hb hby at_87) rfl rfl ?_
    show Steps p.tables e below (T22.setTop (mkF m 89 (LL7 p1 p2 p3 p4 p5 b11 b17) [(.ref b17), (.ref b11)])) _
    refine st27.trans ?_
    show Steps p.tables e below (T27.setTop (mkF m 92 (LL7 p1 p2 p3 p4 p5 b11 b17) [(.int (va5 p1 (va3 p5 p2 p1) (nar .boolean (va1 p5)) (nar .boolean (va2 p5)) p3 (va4 p5 p4 p3)))])) _
    refine XS.istore X27.here hx rfl (hb hby at_92) rfl (l' := (LL8 p1 p2 p3 p4 p5 b11 b17)) rfl ?_
    show Steps p.tables e below (T27.setTop (mkF m 94 (LL8 p1 p2 p3 p4 p5 b11 b17) [])) _
    refine XS.iloadN X27.here hx rfl (hb hby at_94) rfl ?_
    show Steps p.tables e below (T27.setTop (mkF m 95 (LL8 p1 p2 p3 p4 p5 b11 b17) [(.int p3)])) _
    refine XS.iconst X27.here hx rfl (hb hby at_95) ?_
    show Steps p.tables e below (T27.setTop (mkF m 96 (LL8 p1 p2 p3 p4 p5 b11 b17) [(.int (1 : Int32)), (.int p3)])) _
    refine XS.iadd X27.here hx rfl (hb hby at_96) rfl ?_
    show Steps p.tables e below (T27.setTop (mkF m 97 (LL8 p1 p2 p3 p4 p5 b11 b17) [(.int (p3 + (1 : Int32)))])) _
    refine XS.iload X27.here hx rfl (hb hby at_97) rfl ?_
    suffices j30 : Steps p.tables e below (T27.setTop (mkF m 111 (LL8 p1 p2 p3 p4 p5 b11 b17) [(.int (va6 p3 p5 p4))])) (T39.setFrames fs) by
      show Steps p.tables e below (T27.setTop (mkF m 99 (LL8 p1 p2 p3 p4 p5 b11 b17) [(.int (va4 p5 p4 p3)), (.int (p3 + (1 : Int32)))])) _
      by_cases j30_1 : (p3 + (1 : Int32)) = (va4 p5 p4 p3)
      ·
        refine XS.icmpYes X27.here hx rfl (pc0 := 99) (pc' := 108) rfl (hb hby at_99) rfl (teq j30_1).1 (by decide) (by decide) ?_
        show Steps p.tables e below (T27.setTop (mkF m 108 (LL8 p1 p2 p3 p4 p5 b11 b17) [])) _
        refine XS.iloadN X27.here hx rfl (hb hby at_108) rfl ?_
        show Steps p.tables e below (T27.setTop (mkF m 109 (LL8 p1 p2 p3 p4 p5 b11 b17) [(.int p3)])) _
        refine XS.iconst X27.here hx rfl (hb hby at_109) ?_
        show Steps p.tables e below (T27.setTop (mkF m 110 (LL8 p1 p2 p3 p4 p5 b11 b17) [(.int (2 : Int32)), (.int p3)])) _
        refine XS.iadd X27.here hx rfl (hb hby at_110) rfl ?_
        (try simp only [va6, if_pos j30_1] at j30)
        exact j30
      ·
        refine XS.icmpNo X27.here hx rfl (hb hby at_99) rfl (feq j30_1).1 ?_
        show Steps p.tables e below (T27.setTop (mkF m 102 (LL8 p1 p2 p3 p4 p5 b11 b17) [])) _
        refine XS.iloadN X27.here hx rfl (hb hby at_102) rfl ?_
        show Steps p.tables e below (T27.setTop (mkF m 103 (LL8 p1 p2 p3 p4 p5 b11 b17) [(.int p3)])) _
        refine XS.iconst X27.here hx rfl (hb hby at_103) ?_
        show Steps p.tables e below (T27.setTop (mkF m 104 (LL8 p1 p2 p3 p4 p5 b11 b17) [(.int (1 : Int32)), (.int p3)])) _
        refine XS.iadd X27.here hx rfl (hb hby at_104) rfl ?_
        show Steps p.tables e below (T27.setTop (mkF m 105 (LL8 p1 p2 p3 p4 p5 b11 b17) [(.int (p3 + (1 : Int32)))])) _
        refine XS.goto X27.here hx rfl (pc0 := 105) (pc' := 111) rfl (hb hby at_105) (by decide) (by decide) ?_
        (try simp only [va6, if_neg j30_1] at j30)
        exact j30
    show Steps p.tables e below (T27.setTop (mkF m 111 (LL8 p1 p2 p3 p4 p5 b11 b17) [(.int (va6 p3 p5 p4))])) _
    refine XS.istore X27.here hx rfl (hb hby at_111) rfl (l' := (LL9 p1 p2 p3 p4 p5 b11 b17)) rfl ?_
    show Steps p.tables e below (T27.setTop (mkF m 113 (LL9 p1 p2 p3 p4 p5 b11 b17) [])) _
    refine XS.iload X27.here hx rfl (hb hby at_113) rfl ?_
    show Steps p.tables e below (T27.setTop (mkF m 115 (LL9 p1 p2 p3 p4 p5 b11 b17) [(.int (va1 p5))])) _
    refine XS.iloadN X27.here hx rfl (hb hby at_115) rfl ?_
    show Steps p.tables e below (T27.setTop (mkF m 116 (LL9 p1 p2 p3 p4 p5 b11 b17) [(.int p3), (.int (va1 p5))])) _
    refine XS.iloadN X27.here hx rfl (hb hby at_116) rfl ?_
    show Steps p.tables e below (T27.setTop (mkF m 117 (LL9 p1 p2 p3 p4 p5 b11 b17) [(.int p3), (.int p3), (.int (va1 p5))])) _
    refine st31 _ ?_
    show Steps p.tables e below (T31.setTop (mkF m 120 (LL9 p1 p2 p3 p4 p5 b11 b17) [(.int (va7 (va1 p5)))])) _
    refine XS.ifNo X31.here hx rfl (hb hby at_120) rfl ((if0 _ _).trans (feq H1).1) ?_
    show Steps p.tables e below (T31.setTop (mkF m 123 (LL9 p1 p2 p3 p4 p5 b11 b17) [])) _
    refine XS.iload X31.here hx rfl (hb hby at_123) rfl ?_
    show Steps p.tables e below (T31.setTop (mkF m 125 (LL9 p1 p2 p3 p4 p5 b11 b17) [(.int (va2 p5))])) _
    refine XS.iload X31.here hx rfl (hb hby at_125) rfl ?_
    show Steps p.tables e below (T31.setTop (mkF m 127 (LL9 p1 p2 p3 p4 p5 b11 b17) [(.int (va4 p5 p4 p3)), (.int (va2 p5))])) _
    refine XS.iloadN X31.here hx rfl (hb hby at_127) rfl ?_
    show Steps p.tables e below (T31.setTop (mkF m 128 (LL9 p1 p2 p3 p4 p5 b11 b17) [(.int p3), (.int (va4 p5 p4 p3)), (.int (va2 p5))])) _
    refine st33 _ ?_
    show Steps p.tables e below (T33.setTop (mkF m 131 (LL9 p1 p2 p3 p4 p5 b11 b17) [(.int (va14 (va2 p5) p3 (va4 p5 p4 p3)))])) _
    refine XS.ifNo X33.here hx rfl (hb hby at_131) rfl ((if0 _ _).trans (teq H2).2) ?_
    show Steps p.tables e below (T33.setTop (mkF m 134 (LL9 p1 p2 p3 p4 p5 b11 b17) [])) _
    refine XS.iload X33.here hx rfl (hb hby at_134) rfl ?_
    show Steps p.tables e below (T33.setTop (mkF m 136 (LL9 p1 p2 p3 p4 p5 b11 b17) [(.int (va1 p5))])) _
    refine XS.iloadN X33.here hx rfl (hb hby at_136) rfl ?_
    show Steps p.tables e below (T33.setTop (mkF m 137 (LL9 p1 p2 p3 p4 p5 b11 b17) [(.int p3), (.int (va1 p5))])) _
    refine XS.iload X33.here hx rfl (hb hby at_137) rfl ?_
    show Steps p.tables e below (T33.setTop (mkF m 139 (LL9 p1 p2 p3 p4 p5 b11 b17) [(.int (va4 p5 p4 p3)), (.int p3), (.int (va1 p5))])) _
    refine st35 _ ?_
    show Steps p.tables e below (T35.setTop (mkF m 142 (LL9 p1 p2 p3 p4 p5 b11 b17) [(.int (va15 (va4 p5 p4 p3) p3))])) _
    refine XS.ifNo X35.here hx rfl (hb hby at_142) rfl ((if0 _ _).trans (feq H4).1) ?_
    show Steps p.tables e below (T35.setTop (mkF m 145 (LL9 p1 p2 p3 p4 p5 b11 b17) [])) _
    refine XS.iload X35.here hx rfl (hb hby at_145) rfl ?_
    show Steps p.tables e below (T35.setTop (mkF m 147 (LL9 p1 p2 p3 p4 p5 b11 b17) [(.int (va2 p5))])) _
    refine XS.iload X35.here hx rfl (hb hby at_147) rfl ?_
    show Steps p.tables e below (T35.setTop (mkF m 149 (LL9 p1 p2 p3 p4 p5 b11 b17) [(.int (va4 p5 p4 p3)), (.int (va2 p5))])) _
    refine XS.iload X35.here hx rfl (hb hby at_149) rfl ?_
    show Steps p.tables e below (T35.setTop (mkF m 151 (LL9 p1 p2 p3 p4 p5 b11 b17) [(.int (va4 p5 p4 p3)), (.int (va4 p5 p4 p3)), (.int (va2 p5))])) _
    refine st37 _ ?_
    show Steps p.tables e below (T37.setTop (mkF m 154 (LL9 p1 p2 p3 p4 p5 b11 b17) [(.int (0 : Int32))])) _
    refine XS.ifNo X37.here hx rfl (hb hby at_154) rfl ((if0 _ _).trans (teq (rfl : (0 : Int32) = (0 : Int32))).2) ?_
    show Steps p.tables e below (T37.setTop (mkF m 157 (LL9 p1 p2 p3 p4 p5 b11 b17) [])) _
    refine XS.iload X37.here hx rfl (hb hby at_157) rfl ?_
    show Steps p.tables e below (T37.setTop (mkF m 159 (LL9 p1 p2 p3 p4 p5 b11 b17) [(.int (va1 p5))])) _
    refine XS.iloadN X37.here hx rfl (hb hby at_159) rfl ?_
    show Steps p.tables e below (T37.setTop (mkF m 160 (LL9 p1 p2 p3 p4 p5 b11 b17) [(.int p3), (.int (va1 p5))])) _
    refine XS.iload X37.here hx rfl (hb hby at_160) rfl ?_
    show Steps p.tables e below (T37.setTop (mkF m 162 (LL9 p1 p2 p3 p4 p5 b11 b17) [(.int (va6 p3 p5 p4)), (.int p3), (.int (va1 p5))])) _
    refine st39 _ ?_
    show Steps p.tables e below (T39.setTop (mkF m 165 (LL9 p1 p2 p3 p4 p5 b11 b17) [(.int (0 : Int32))])) _
    refine XS.ifYes X39.here hx rfl (pc0 := 165) (pc' := 184) rfl (hb hby at_165) rfl ((if0 _ _).trans (teq (rfl : (0 : Int32) = (0 : Int32))).1) (by decide) (by decide) ?_
    show Steps p.tables e below (T39.setTop (mkF m 184 (LL9 p1 p2 p3 p4 p5 b11 b17) [])) _
    refine XS.iconst X39.here hx rfl (hb hby at_184) ?_
    show Steps p.tables e below (T39.setTop (mkF m 185 (LL9 p1 p2 p3 p4 p5 b11 b17) [(.int (0 : Int32))])) _
    refine XS.istore X39.here hx rfl (hb hby at_185) rfl (l' := (LL14 p1 p2 p3 p4 p5 b11 b17)) rfl ?_
    show Steps p.tables e below (T39.setTop (mkF m 187 (LL14 p1 p2 p3 p4 p5 b11 b17) [])) _
    refine XS.iloadN X39.here hx rfl (hb hby at_187) rfl ?_
    show Steps p.tables e below (T39.setTop (mkF m 188 (LL14 p1 p2 p3 p4 p5 b11 b17) [(.int p1)])) _
    refine XS.iload X39.here hx rfl (hb hby at_188) rfl ?_
    suffices j41 : Steps p.tables e below (T39.setTop (mkF m 203 (LL14 p1 p2 p3 p4 p5 b11 b17) [(.int (va16 p1 p5 p2))])) (T39.setFrames fs) by
      show Steps p.tables e below (T39.setTop (mkF m 190 (LL14 p1 p2 p3 p4 p5 b11 b17) [(.int (va3 p5 p2 p1)), (.int p1)])) _
      by_cases j41_1 : p1 = (va3 p5 p2 p1)
      ·
        refine XS.icmpNo X39.here hx rfl (hb hby at_190) rfl (teq j41_1).2 ?_
        show Steps p.tables e below (T39.setTop (mkF m 193 (LL14 p1 p2 p3 p4 p5 b11 b17) [])) _
        refine XS.iload X39.here hx rfl (hb hby at_193) rfl ?_
        show Steps p.tables e below (T39.setTop (mkF m 195 (LL14 p1 p2 p3 p4 p5 b11 b17) [(.int (0 : Int32))])) _
        refine XS.ifNo X39.here hx rfl (hb hby at_195) rfl ((if0 _ _).trans (teq (rfl : (0 : Int32) = (0 : Int32))).2) ?_
        show Steps p.tables e below (T39.setTop (mkF m 198 (LL14 p1 p2 p3 p4 p5 b11 b17) [])) _
        refine XS.iconst X39.here hx rfl (hb hby at_198) ?_
        show Steps p.tables e below (T39.setTop (mkF m 199 (LL14 p1 p2 p3 p4 p5 b11 b17) [(.int (1 : Int32))])) _
        refine XS.goto X39.here hx rfl (pc0 := 199) (pc' := 203) rfl (hb hby at_199) (by decide) (by decide) ?_
        (try simp only [va16, if_pos j41_1] at j41)
        exact j41
      ·
        refine XS.icmpYes X39.here hx rfl (pc0 := 190) (pc' := 202) rfl (hb hby at_190) rfl (feq j41_1).2 (by decide) (by decide) ?_
        show Steps p.tables e below (T39.setTop (mkF m 202 (LL14 p1 p2 p3 p4 p5 b11 b17) [])) _
        refine XS.iconst X39.here hx rfl (hb hby at_202) ?_
        (try simp only [va16, if_neg j41_1] at j41)
        exact j41
    show Steps p.tables e below (T39.setTop (mkF m 203 (LL14 p1 p2 p3 p4 p5 b11 b17) [(.int (va16 p1 p5 p2))])) _
    refine XS.istore X39.here hx rfl (hb hby at_203) rfl (l' := (LL15 p1 p2 p3 p4 p5 b11 b17)) rfl ?_
    show Steps p.tables e below (T39.setTop (mkF m 205 (LL15 p1 p2 p3 p4 p5 b11 b17) [])) _
    refine XS.iload X39.here hx rfl (hb hby at_205) rfl ?_
    show Steps p.tables e below (T39.setTop (mkF m 207 (LL15 p1 p2 p3 p4 p5 b11 b17) [(.int (va5 p1 (va3 p5 p2 p1) (nar .boolean (va1 p5)) (nar .boolean (va2 p5)) p3 (va4 p5 p4 p3)))])) _
    refine XS.iload X39.here hx rfl (hb hby at_207) rfl ?_
    suffices j42 : Steps p.tables e below (T39.setTop (mkF m 217 (LL15 p1 p2 p3 p4 p5 b11 b17) [(.int (va17 p1 p5 p2 p3 p4))])) (T39.setFrames fs) by
      show Steps p.tables e below (T39.setTop (mkF m 209 (LL15 p1 p2 p3 p4 p5 b11 b17) [(.int (va16 p1 p5 p2)), (.int (va5 p1 (va3 p5 p2 p1) (nar .boolean (va1 p5)) (nar .boolean (va2 p5)) p3 (va4 p5 p4 p3)))])) _
      by_cases j42_1 : (va5 p1 (va3 p5 p2 p1) (nar .boolean (va1 p5)) (nar .boolean (va2 p5)) p3 (va4 p5 p4 p3)) = (va16 p1 p5 p2)
      ·
        refine XS.icmpNo X39.here hx rfl (hb hby at_209) rfl (teq j42_1).2 ?_
        show Steps p.tables e below (T39.setTop (mkF m 212 (LL15 p1 p2 p3 p4 p5 b11 b17) [])) _
        refine XS.iconst X39.here hx rfl (hb hby at_212) ?_
        show Steps p.tables e below (T39.setTop (mkF m 213 (LL15 p1 p2 p3 p4 p5 b11 b17) [(.int (1 : Int32))])) _
        refine XS.goto X39.here hx rfl (pc0 := 213) (pc' := 217) rfl (hb hby at_213) (by decide) (by decide) ?_
        (try simp only [va17, if_pos j42_1] at j42)
        exact j42
      ·
        refine XS.icmpYes X39.here hx rfl (pc0 := 209) (pc' := 216) rfl (hb hby at_209) rfl (feq j42_1).2 (by decide) (by decide) ?_
        show Steps p.tables e below (T39.setTop (mkF m 216 (LL15 p1 p2 p3 p4 p5 b11 b17) [])) _
        refine XS.iconst X39.here hx rfl (hb hby at_216) ?_
        (try simp only [va17, if_neg j42_1] at j42)
        exact j42
    show Steps p.tables e below (T39.setTop (mkF m 217 (LL15 p1 p2 p3 p4 p5 b11 b17) [(.int (va17 p1 p5 p2 p3 p4))])) _
    exact retN X39 hx (t := .boolean) Bd.returns (by simp) (hb hby at_217) hr
  · show Q0 h0 n0 _ T39.heap _
    rw [e39q]
    exact ⟨(congrArg (fun z => some (Value.int z)) H7), N39⟩
set_option maxRecDepth 65536 in
set_option maxHeartbeats 40000000 in
theorem rm0_5 (l : Launch) (Z : State) (a0 : Array Value) (hw : ∀ d ∈ tables_1, d.before a0 Z = true) (ws : List Jvm.Cond) (p1 : Int32) (p2 : Int32) (p3 : Int32) (p4 : Int32) (p5 : Int32) (h0 : Heap) (n0 : Nat) (Z0 : n0 ≤ h0.size) (H1 : ¬ ((va7 (va1 p5)) = (0 : Int32))) (H2 : ¬ ((va14 (va2 p5) p3 (va4 p5 p4 p3)) = (0 : Int32))) (H3 : (nar .boolean (va13 p1 p5 p2 p3 p4)) = (1 : Int32)) :
    MetFree l x (head1 (Jvm.Cond.code x code maxLocals ret :: ws) room_1) (fun a U => a = #[(.int p1), (.int p2), (.int p3), (.int p4), (.int p5)] ∧ Z.Warmed39 U.vm ∧ U.heap = h0) (fun _ _ _ _ _ => True) (fun _ U o U' => ∃ v L, o = .returned v ∧ Q0 h0 n0 v U'.heap L ∧ FrameEnd U o U' L 16 128) := by
  refine MetFree.of_bodySF (plainFor_of_name pn_2) hisR ?_
  intro p e s m args below meth c s₁ Bd hml0 hP hK
  obtain ⟨rfl, hZ, hh⟩ := hP
  have hx := Bd.exec
  have hby := Bd.bytes
  have hml : c.maxLocals = 15 := hml0
  have hown : s.vm.findClass "com/example/sinkwatch/sinkwatch/ConditionContradictsPinLaw" = some m.cls := findClass_of_methodNamed Bd.named
  have hnm := (name_of_methodNamed Bd.named Bd.method).1
  have X0 : Stand p l e room_1 s m #[(.int p1), (.int p2), (.int p3), (.int p4), (.int p5)] below meth c s₁ [] 0 0 := Stand.of_body Bd
  have e0 : s₁.heap = h0 := by rw [← hh, Bd.state]; rfl
  have N0 := Fr.nil n0
  have pre0 : ∀ t, Steps p.tables e below (s₁.setTop (mkF m 0 #[.val (.int p1), .val (.int p2), .val (.int p3), .val (.int p4), .val (.int p5), .unset, .unset, .unset, .unset, .unset, .unset, .unset, .unset, .unset, .unset] [])) t → Steps p.tables e below (s₁.setTop (entryFrame m #[(.int p1), (.int p2), (.int p3), (.int p4), (.int p5)] maxLocals)) t := fun t k => castTop (ef0 m p1 p2 p3 p4 p5) k
  obtain ⟨T10, h10, X10, e10, E10, A10, D10, -, st10⟩ := newO X0 hx hZ hown (tw_0 hw) (tw_1 hw) (tw_2 hw) e0 (g := (mkF m 57 (LL5 p1 p2 p3 p4 p5) [])) rfl (hb hby at_57) (by decide) (by decide)
  obtain ⟨b11, g10⟩ : ∃ z, z = h0.size := ⟨_, rfl⟩
  rw [← g10] at A10 D10 st10
  have q10 : n0 ≤ b11 := Nat.le_trans Z0 (Nat.le_of_eq g10.symm)
  have z10 : h0.size ≤ b11 := Nat.le_trans (Nat.le_refl h0.size) (Nat.le_of_eq g10.symm)
  have F12 : Fld Z h10 b11 "com/example/sinkwatch/sinkwatch/Condition" "local" "I" (.int (0 : Int32)) := D10 (Or.inr (tw_15 hw)) (ty := .int) (by decide)
  have F13 : Fld Z h10 b11 "com/example/sinkwatch/sinkwatch/Condition" "equal" "Z" (.int (0 : Int32)) := D10 (Or.inr (tw_17 hw)) (ty := .boolean) (by decide)
  have F14 : Fld Z h10 b11 "com/example/sinkwatch/sinkwatch/Condition" "constant" "I" (.int (0 : Int32)) := D10 (Or.inr (tw_19 hw)) (ty := .int) (by decide)
  obtain ⟨_, _, ⟨T15, L15, k15, n15⟩, -, X15, ⟨Lc15, hQ15, l15, y15, z15⟩, st15⟩ := X10.specialBack hx (y := (⟨"com/example/sinkwatch/sinkwatch/Condition", "<init>", "(IZI)V"⟩ : MethodName)) rfl hown (mvT hZ (tw_3 hw)) (mvT hZ (tw_4 hw)) (mvT hZ (tw_5 hw)) (by decide) (backOf (W := 1) (rm1_1 l Z a0 hw [] b11 p1 (va1 p5) p3 h10 n0 (Nat.le_trans Z0 E10.1) F12 A10 q10 F13 F14) hZ (tw_5 hw) (tw_2 hw) (by decide) (by decide)) (g := (mkF m 65 (LL5 p1 p2 p3 p4 p5) [(.int p3), (.int (va1 p5)), (.int p1), (.ref b11), (.ref b11)])) rfl (by rw [hml]; rfl) (Steps.refl _) (a := b11) (argsL := [(.int p1), (.int (va1 p5)), (.int p3)]) (rest := [(.ref b11)]) (lenOf pd_1 rfl) rfl (by show 2 * 0 + _ ≤ _; exact Nat.le_of_eq rfl) (hb hby at_65) (fun _ _ => ⟨rfl, e10, (by decide : 1 + 0 ≤ _), (by decide : 3 + 0 ≤ _)⟩)
  dsimp only [Pt.U, Pt.locs, Pt.cells, Pt.slots] at X15 l15 y15 z15 st15 hQ15
  subst l15 y15 z15
  obtain ⟨rfl, N15q, K15, f15_0, f15_1, f15_2⟩ := hQ15
  have N15 := Fr.app N0 N15q
  obtain ⟨T16, h16, X16, e16, E16, A16, D16, -, st16⟩ := newO X15 hx hZ hown (tw_0 hw) (tw_1 hw) (tw_2 hw) rfl (g := (mkF m 70 (LL6 p1 p2 p3 p4 p5 b11) [])) rfl (hb hby at_70) (by decide) (by decide)
  obtain ⟨b17, g16⟩ : ∃ z, z = T15.heap.size := ⟨_, rfl⟩
  rw [← g16] at A16 D16 st16
  have F18 := (Nat.le_trans (Nat.le_trans (Nat.le_refl h0.size) E10.1) K15.1)
  have q16 : n0 ≤ b17 := Nat.le_trans (Nat.le_trans (Nat.le_trans Z0 E10.1) K15.1) (Nat.le_of_eq g16.symm)
  have z16 : h0.size ≤ b17 := Nat.le_trans F18 (Nat.le_of_eq g16.symm)
  have F19 : Fld Z h16 b17 "com/example/sinkwatch/sinkwatch/Condition" "local" "I" (.int (0 : Int32)) := D16 (Or.inr (tw_15 hw)) (ty := .int) (by decide)
  have F20 : Fld Z h16 b17 "com/example/sinkwatch/sinkwatch/Condition" "equal" "Z" (.int (0 : Int32)) := D16 (Or.inr (tw_17 hw)) (ty := .boolean) (by decide)
  have F21 : Fld Z h16 b17 "com/example/sinkwatch/sinkwatch/Condition" "constant" "I" (.int (0 : Int32)) := D16 (Or.inr (tw_19 hw)) (ty := .int) (by decide)
  have F23 := (Nat.le_trans (Nat.le_trans (Nat.le_trans Z0 E10.1) K15.1) E16.1)
  obtain ⟨_, _, ⟨T22, L22, k22, n22⟩, -, X22, ⟨Lc22, hQ22, l22, y22, z22⟩, st22⟩ := X16.specialBack hx (y := (⟨"com/example/sinkwatch/sinkwatch/Condition", "<init>", "(IZI)V"⟩ : MethodName)) rfl hown (mvT hZ (tw_3 hw)) (mvT hZ (tw_4 hw)) (mvT hZ (tw_5 hw)) (by decide) (backOf (W := 1) (rm1_1 l Z a0 hw [] b17 (va3 p5 p2 p1) (va2 p5) (va4 p5 p4 p3) h16 n0 F23 F19 A16 q16 F20 F21) hZ (tw_5 hw) (tw_2 hw) (by decide) (by decide)) (g := (mkF m 80 (LL6 p1 p2 p3 p4 p5 b11) [(.int (va4 p5 p4 p3)), (.int (va2 p5)), (.int (va3 p5 p2 p1)), (.ref b17), (.ref b17)])) rfl (by rw [hml]; rfl) (Steps.refl _) (a := b17) (argsL := [(.int (va3 p5 p2 p1)), (.int (va2 p5)), (.int (va4 p5 p4 p3))]) (rest := [(.ref b17)]) (lenOf pd_1 rfl) rfl (by show 2 * 0 + _ ≤ _; exact Nat.le_of_eq rfl) (hb hby at_80) (fun _ _ => ⟨rfl, e16, (by decide : 2 + 0 ≤ _), (by decide : 6 + 0 ≤ _)⟩)
  dsimp only [Pt.U, Pt.locs, Pt.cells, Pt.slots] at X22 l22 y22 z22 st22 hQ22
  subst l22 y22 z22
  obtain ⟨rfl, N22q, K22, f22_0, f22_1, f22_2⟩ := hQ22
  have N22 := Fr.app N15 N22q
  have F24 := (Fld.keep (Fld.ext E16 f15_2) K22 (ninS (Nat.ne_of_lt (Nat.lt_of_lt_of_le f15_0.lt (Nat.le_of_eq g16.symm))) nin0))
  have F25 := (Fld.keep (Fld.ext E16 f15_1) K22 (ninS (Nat.ne_of_lt (Nat.lt_of_lt_of_le f15_0.lt (Nat.le_of_eq g16.symm))) nin0))
  have F26 := (Fld.keep (Fld.ext E16 f15_0) K22 (ninS (Nat.ne_of_lt (Nat.lt_of_lt_of_le f15_0.lt (Nat.le_of_eq g16.symm))) nin0))
  have F28 := (Nat.le_trans (Nat.le_trans (Nat.le_trans (Nat.le_trans Z0 E10.1) K15.1) E16.1) K22.1)
  have F29 := (Exa.keep (Exa.ext E16 (Exa.keep A10 K15)) K22)
  obtain ⟨cq27, kq27, q27a, q27b, q27c⟩ := isOf hZ rfl F29
  obtain ⟨_, _, ⟨T27, L27, k27, n27⟩, -, X27, ⟨Lc27, hQ27, l27, y27, z27⟩, st27⟩ := X22.virtualBack hx (y := (⟨"com/example/sinkwatch/sinkwatch/Condition", "contradicts", "(Lcom/example/sinkwatch/sinkwatch/Condition;)Z"⟩ : MethodName)) (z := (⟨"com/example/sinkwatch/sinkwatch/Condition", "contradicts", "(Lcom/example/sinkwatch/sinkwatch/Condition;)Z"⟩ : MethodName)) hown (mvT hZ (tw_20 hw)) (mvT hZ (tw_21 hw)) (notFace_of_selects (args := #[]) (mvT hZ (tw_23 hw))) (mvT hZ (tw_23 hw)) (mvT hZ (tw_22 hw)) (by decide) (backOf (W := 0) (rm4_9 l Z a0 hw [] b11 b17 p1 (va3 p5 p2 p1) (nar .boolean (va1 p5)) (nar .boolean (va2 p5)) p3 (va4 p5 p4 p3) T22.heap n0 F28 F24 f22_2 F25 f22_1 F26 f22_0) hZ (tw_24 hw) (tw_2 hw) (by decide) (by decide)) q27a q27c (g := (mkF m 89 (LL7 p1 p2 p3 p4 p5 b11 b17) [(.ref b17), (.ref b11)])) rfl (by rw [hml]; rfl) (Steps.refl _) (argsL := [(.ref b17)]) (rest := []) (lenOf pd_2 rfl) rfl (by show 2 * 0 + _ ≤ _; exact Nat.le_of_eq rfl) (hb hby at_89) (fun _ _ => ⟨rfl, rfl, (by decide : 2 + 0 ≤ _), (by decide : 6 + 0 ≤ _)⟩)
  dsimp only [Pt.U, Pt.locs, Pt.cells, Pt.slots] at X27 l27 y27 z27 st27 hQ27
  subst l27 y27 z27
  obtain ⟨rfl, N27q, e27q⟩ := hQ27
  have N27 := Fr.app N22 N27q
  have F32 := (Nat.le_trans (Nat.le_trans (Nat.le_trans (Nat.le_trans Z0 E10.1) K15.1) E16.1) K22.1)
  obtain ⟨_, _, ⟨T31, L31, k31, n31⟩, -, X31, ⟨Lc31, hQ31, l31, y31, z31⟩, st31⟩ := Jvm.LawKit.callS X27 hx (y := (⟨"com/example/sinkwatch/sinkwatch/ConditionContradictsPinLaw", "holds", "(ZII)Z"⟩ : MethodName)) hown (mvT hZ (tw_25 hw)) (mvT hZ (tw_26 hw)) (mvT hZ (tw_27 hw)) (mvT hZ (tw_28 hw)) (by decide) (backOf (W := 0) (rm5_3 l Z a0 hw [] (va1 p5) p3 T22.heap n0 F32 ) hZ (tw_28 hw) (tw_27 hw) (by decide) (by decide)) (g := (mkF m 117 (LL9 p1 p2 p3 p4 p5 b11 b17) [(.int p3), (.int p3), (.int (va1 p5))])) rfl (by rw [hml]; rfl) (argsL := [(.int (va1 p5)), (.int p3), (.int p3)]) (rest := []) (lenOf pd_3 rfl) rfl (by show 2 * 0 + _ ≤ _; exact Nat.le_of_eq rfl) (hb hby at_117) (fun _ _ => ⟨rfl, e27q, (by decide : 2 + 0 ≤ _), (by decide : 6 + 0 ≤ _)⟩)
  dsimp only [Pt.U, Pt.locs, Pt.cells, Pt.slots] at X31 l31 y31 z31 st31 hQ31
  subst l31 y31 z31
  obtain ⟨rfl, N31q, e31q⟩ := hQ31
  have N31 := Fr.app N27 N31q
  have F34 := (Nat.le_trans (Nat.le_trans (Nat.le_trans (Nat.le_trans Z0 E10.1) K15.1) E16.1) K22.1)
  obtain ⟨_, _, ⟨T33, L33, k33, n33⟩, -, X33, ⟨Lc33, hQ33, l33, y33, z33⟩, st33⟩ := Jvm.LawKit.callS X31 hx (y := (⟨"com/example/sinkwatch/sinkwatch/ConditionContradictsPinLaw", "holds", "(ZII)Z"⟩ : MethodName)) hown (mvT hZ (tw_25 hw)) (mvT hZ (tw_26 hw)) (mvT hZ (tw_27 hw)) (mvT hZ (tw_28 hw)) (by decide) (backOf (W := 0) (rm5_15 l Z a0 hw [] (va2 p5) (va4 p5 p4 p3) p3 T22.heap n0 F34 ) hZ (tw_28 hw) (tw_27 hw) (by decide) (by decide)) (g := (mkF m 128 (LL9 p1 p2 p3 p4 p5 b11 b17) [(.int p3), (.int (va4 p5 p4 p3)), (.int (va2 p5))])) rfl (by rw [hml]; rfl) (argsL := [(.int (va2 p5)), (.int (va4 p5 p4 p3)), (.int p3)]) (rest := []) (lenOf pd_3 rfl) rfl (by show 2 * 0 + _ ≤ _; exact Nat.le_of_eq rfl) (hb hby at_128) (fun _ _ => ⟨rfl, e31q, (by decide : 2 + 0 ≤ _), (by decide : 6 + 0 ≤ _)⟩)
  dsimp only [Pt.U, Pt.locs, Pt.cells, Pt.slots] at X33 l33 y33 z33 st33 hQ33
  subst l33 y33 z33
  obtain ⟨rfl, N33q, e33q⟩ := hQ33
  have N33 := Fr.app N31 N33q
  obtain ⟨fs, hr, hrun, hended, hW, hsame⟩ := X33.leave (v := some (.int (nar .boolean (va13 p1 p5 p2 p3 p4)))) (fun h => by rw [Bd.returns] at h; cases h)
  refine ⟨_, _, pre0 _ ?_, hrun, hended, _, _, rfl, ?_, ⟨_, rfl⟩, hW, hsame.mono (by decide) (by decide)⟩
  · show Steps p.tables e below (s₁.setTop (mkF m 0 (LL1 p1 p2 p3 p4 p5) [])) _
    refine XS.iload X0.here hx rfl (hb hby at_0) rfl ?_
    show Steps p.tables e below (s₁.setTop (mkF m 2 (LL1 p1 p2 p3 p4 p5) [(.int p5)])) _
    refine XS.iconst X0.here hx rfl (hb hby at_2) ?_
    show Steps p.tables e below (s₁.setTop (mkF m 3 (LL1 p1 p2 p3 p4 p5) [(.int (1 : Int32)), (.int p5)])) _
    refine XS.iand X0.here hx rfl (hb hby at_3) rfl ?_
    suffices j6 : Steps p.tables e below (s₁.setTop (mkF m 12 (LL1 p1 p2 p3 p4 p5) [(.int (va1 p5))])) (T33.setFrames fs) by
      show Steps p.tables e below (s₁.setTop (mkF m 4 (LL1 p1 p2 p3 p4 p5) [(.int (p5 &&& (1 : Int32)))])) _
      by_cases j6_1 : (p5 &&& (1 : Int32)) = (0 : Int32)
      ·
        refine XS.ifYes X0.here hx rfl (pc0 := 4) (pc' := 11) rfl (hb hby at_4) rfl ((if0 _ _).trans (teq j6_1).1) (by decide) (by decide) ?_
        show Steps p.tables e below (s₁.setTop (mkF m 11 (LL1 p1 p2 p3 p4 p5) [])) _
        refine XS.iconst X0.here hx rfl (hb hby at_11) ?_
        (try simp only [va1, if_pos j6_1] at j6)
        exact j6
      ·
        refine XS.ifNo X0.here hx rfl (hb hby at_4) rfl ((if0 _ _).trans (feq j6_1).1) ?_
        show Steps p.tables e below (s₁.setTop (mkF m 7 (LL1 p1 p2 p3 p4 p5) [])) _
        refine XS.iconst X0.here hx rfl (hb hby at_7) ?_
        show Steps p.tables e below (s₁.setTop (mkF m 8 (LL1 p1 p2 p3 p4 p5) [(.int (1 : Int32))])) _
        refine XS.goto X0.here hx rfl (pc0 := 8) (pc' := 12) rfl (hb hby at_8) (by decide) (by decide) ?_
        (try simp only [va1, if_neg j6_1] at j6)
        exact j6
    show Steps p.tables e below (s₁.setTop (mkF m 12 (LL1 p1 p2 p3 p4 p5) [(.int (va1 p5))])) _
    refine XS.istore X0.here hx rfl (hb hby at_12) rfl (l' := (LL2 p1 p2 p3 p4 p5)) rfl ?_
    show Steps p.tables e below (s₁.setTop (mkF m 14 (LL2 p1 p2 p3 p4 p5) [])) _
    refine XS.iload X0.here hx rfl (hb hby at_14) rfl ?_
    show Steps p.tables e below (s₁.setTop (mkF m 16 (LL2 p1 p2 p3 p4 p5) [(.int p5)])) _
    refine XS.iconst X0.here hx rfl (hb hby at_16) ?_
    show Steps p.tables e below (s₁.setTop (mkF m 17 (LL2 p1 p2 p3 p4 p5) [(.int (2 : Int32)), (.int p5)])) _
    refine XS.iand X0.here hx rfl (hb hby at_17) rfl ?_
    suffices j7 : Steps p.tables e below (s₁.setTop (mkF m 26 (LL2 p1 p2 p3 p4 p5) [(.int (va2 p5))])) (T33.setFrames fs) by
      show Steps p.tables e below (s₁.setTop (mkF m 18 (LL2 p1 p2 p3 p4 p5) [(.int (p5 &&& (2 : Int32)))])) _
      by_cases j7_1 : (p5 &&& (2 : Int32)) = (0 : Int32)
      ·
        refine XS.ifYes X0.here hx rfl (pc0 := 18) (pc' := 25) rfl (hb hby at_18) rfl ((if0 _ _).trans (teq j7_1).1) (by decide) (by decide) ?_
        show Steps p.tables e below (s₁.setTop (mkF m 25 (LL2 p1 p2 p3 p4 p5) [])) _
        refine XS.iconst X0.here hx rfl (hb hby at_25) ?_
        (try simp only [va2, if_pos j7_1] at j7)
        exact j7
      ·
        refine XS.ifNo X0.here hx rfl (hb hby at_18) rfl ((if0 _ _).trans (feq j7_1).1) ?_
        show Steps p.tables e below (s₁.setTop (mkF m 21 (LL2 p1 p2 p3 p4 p5) [])) _
        refine XS.iconst X0.here hx rfl (hb hby at_21) ?_
        show Steps p.tables e below (s₁.setTop (mkF m 22 (LL2 p1 p2 p3 p4 p5) [(.int (1 : Int32))])) _
        refine XS.goto X0.here hx rfl (pc0 := 22) (pc' := 26) rfl (hb hby at_22) (by decide) (by decide) ?_
        (try simp only [va2, if_neg j7_1] at j7)
        exact j7
    show Steps p.tables e below (s₁.setTop (mkF m 26 (LL2 p1 p2 p3 p4 p5) [(.int (va2 p5))])) _
    refine XS.istore X0.here hx rfl (hb hby at_26) rfl (l' := (LL3 p1 p2 p3 p4 p5)) rfl ?_
    show Steps p.tables e below (s₁.setTop (mkF m 28 (LL3 p1 p2 p3 p4 p5) [])) _
    refine XS.iload X0.here hx rfl (hb hby at_28) rfl ?_
    show Steps p.tables e below (s₁.setTop (mkF m 30 (LL3 p1 p2 p3 p4 p5) [(.int p5)])) _
    refine XS.iconst X0.here hx rfl (hb hby at_30) ?_
    show Steps p.tables e below (s₁.setTop (mkF m 31 (LL3 p1 p2 p3 p4 p5) [(.int (4 : Int32)), (.int p5)])) _
    refine XS.iand X0.here hx rfl (hb hby at_31) rfl ?_
    suffices j8 : Steps p.tables e below (s₁.setTop (mkF m 40 (LL3 p1 p2 p3 p4 p5) [(.int (va3 p5 p2 p1))])) (T33.setFrames fs) by
      show Steps p.tables e below (s₁.setTop (mkF m 32 (LL3 p1 p2 p3 p4 p5) [(.int (p5 &&& (4 : Int32)))])) _
      by_cases j8_1 : (p5 &&& (4 : Int32)) = (0 : Int32)
      ·
        refine XS.ifYes X0.here hx rfl (pc0 := 32) (pc' := 39) rfl (hb hby at_32) rfl ((if0 _ _).trans (teq j8_1).1) (by decide) (by decide) ?_
        show Steps p.tables e below (s₁.setTop (mkF m 39 (LL3 p1 p2 p3 p4 p5) [])) _
        refine XS.iloadN X0.here hx rfl (hb hby at_39) rfl ?_
        (try simp only [va3, if_pos j8_1] at j8)
        exact j8
      ·
        refine XS.ifNo X0.here hx rfl (hb hby at_32) rfl ((if0 _ _).trans (feq j8_1).1) ?_
        show Steps p.tables e below (s₁.setTop (mkF m 35 (LL3 p1 p2 p3 p4 p5) [])) _
        refine XS.iloadN X0.here hx rfl (hb hby at_35) rfl ?_
        show Steps p.tables e below (s₁.setTop (mkF m 36 (LL3 p1 p2 p3 p4 p5) [(.int p1)])) _
        refine XS.goto X0.here hx rfl (pc0 := 36) (pc' := 40) rfl (hb hby at_36) (by decide) (by decide) ?_
        (try simp only [va3, if_neg j8_1] at j8)
        exact j8
    show Steps p.tables e below (s₁.setTop (mkF m 40 (LL3 p1 p2 p3 p4 p5) [(.int (va3 p5 p2 p1))])) _
    refine XS.istore X0.here hx rfl (hb hby at_40) rfl (l' := (LL4 p1 p2 p3 p4 p5)) rfl ?_
    show Steps p.tables e below (s₁.setTop (mkF m 42 (LL4 p1 p2 p3 p4 p5) [])) _
    refine XS.iload X0.here hx rfl (hb hby at_42) rfl ?_
    show Steps p.tables e below (s₁.setTop (mkF m 44 (LL4 p1 p2 p3 p4 p5) [(.int p5)])) _
    refine XS.bipush X0.here hx rfl (hb hby at_44) ?_
    show Steps p.tables e below (s₁.setTop (mkF m 46 (LL4 p1 p2 p3 p4 p5) [(.int (8 : Int32)), (.int p5)])) _
    refine XS.iand X0.here hx rfl (hb hby at_46) rfl ?_
    suffices j9 : Steps p.tables e below (s₁.setTop (mkF m 55 (LL4 p1 p2 p3 p4 p5) [(.int (va4 p5 p4 p3))])) (T33.setFrames fs) by
      show Steps p.tables e below (s₁.setTop (mkF m 47 (LL4 p1 p2 p3 p4 p5) [(.int (p5 &&& (8 : Int32)))])) _
      by_cases j9_1 : (p5 &&& (8 : Int32)) = (0 : Int32)
      ·
        refine XS.ifYes X0.here hx rfl (pc0 := 47) (pc' := 54) rfl (hb hby at_47) rfl ((if0 _ _).trans (teq j9_1).1) (by decide) (by decide) ?_
        show Steps p.tables e below (s₁.setTop (mkF m 54 (LL4 p1 p2 p3 p4 p5) [])) _
        refine XS.iloadN X0.here hx rfl (hb hby at_54) rfl ?_
        (try simp only [va4, if_pos j9_1] at j9)
        exact j9
      ·
        refine XS.ifNo X0.here hx rfl (hb hby at_47) rfl ((if0 _ _).trans (feq j9_1).1) ?_
        show Steps p.tables e below (s₁.setTop (mkF m 50 (LL4 p1 p2 p3 p4 p5) [])) _
        refine XS.iloadN X0.here hx rfl (hb hby at_50) rfl ?_
        show Steps p.tables e below (s₁.setTop (mkF m 51 (LL4 p1 p2 p3 p4 p5) [(.int p3)])) _
        refine XS.goto X0.here hx rfl (pc0 := 51) (pc' := 55) rfl (hb hby at_51) (by decide) (by decide) ?_
        (try simp only [va4, if_neg j9_1] at j9)
        exact j9
    show Steps p.tables e below (s₁.setTop (mkF m 55 (LL4 p1 p2 p3 p4 p5) [(.int (va4 p5 p4 p3))])) _
    refine XS.istore X0.here hx rfl (hb hby at_55) rfl (l' := (LL5 p1 p2 p3 p4 p5)) rfl ?_
    show Steps p.tables e below (s₁.setTop (mkF m 57 (LL5 p1 p2 p3 p4 p5) [])) _
    refine st10 _ ?_
    show Steps p.tables e below (T10.setTop (mkF m 60 (LL5 p1 p2 p3 p4 p5) [(.ref b11)])) _
    refine XS.dup X10.here hx rfl (hb hby at_60) rfl rfl ?_
    show Steps p.tables e below (T10.setTop (mkF m 61 (LL5 p1 p2 p3 p4 p5) [(.ref b11), (.ref b11)])) _
    refine XS.iloadN X10.here hx rfl (hb hby at_61) rfl ?_
    show Steps p.tables e below (T10.setTop (mkF m 62 (LL5 p1 p2 p3 p4 p5) [(.int p1), (.ref b11), (.ref b11)])) _
    refine XS.iload X10.here hx rfl (hb hby at_62) rfl ?_
    show Steps p.tables e below (T10.setTop (mkF m 64 (LL5 p1 p2 p3 p4 p5) [(.int (va1 p5)), (.int p1), (.ref b11), (.ref b11)])) _
    refine XS.iloadN X10.here hx rfl (hb hby at_64) rfl ?_
    show Steps p.tables e below (T10.setTop (mkF m 65 (LL5 p1 p2 p3 p4 p5) [(.int p3), (.int (va1 p5)), (.int p1), (.ref b11), (.ref b11)])) _
    refine st15.trans ?_
    show Steps p.tables e below (T15.setTop (mkF m 68 (LL5 p1 p2 p3 p4 p5) [(.ref b11)])) _
    refine XS.astore X15.here hx rfl (hb hby at_68) rfl rfl (l' := (LL6 p1 p2 p3 p4 p5 b11)) rfl ?_
    show Steps p.tables e below (T15.setTop (mkF m 70 (LL6 p1 p2 p3 p4 p5 b11) [])) _
    refine st16 _ ?_
    show Steps p.tables e below (T16.setTop (mkF m 73 (LL6 p1 p2 p3 p4 p5 b11) [(.ref b17)])) _
    refine XS.dup X16.here hx rfl (hb hby at_73) rfl rfl ?_
    show Steps p.tables e below (T16.setTop (mkF m 74 (LL6 p1 p2 p3 p4 p5 b11) [(.ref b17), (.ref b17)])) _
    refine XS.iload X16.here hx rfl (hb hby at_74) rfl ?_
    show Steps p.tables e below (T16.setTop (mkF m 76 (LL6 p1 p2 p3 p4 p5 b11) [(.int (va3 p5 p2 p1)), (.ref b17), (.ref b17)])) _
    refine XS.iload X16.here hx rfl (hb hby at_76) rfl ?_
    show Steps p.tables e below (T16.setTop (mkF m 78 (LL6 p1 p2 p3 p4 p5 b11) [(.int (va2 p5)), (.int (va3 p5 p2 p1)), (.ref b17), (.ref b17)])) _
    refine XS.iload X16.here hx rfl (hb hby at_78) rfl ?_
    show Steps p.tables e below (T16.setTop (mkF m 80 (LL6 p1 p2 p3 p4 p5 b11) [(.int (va4 p5 p4 p3)), (.int (va2 p5)), (.int (va3 p5 p2 p1)), (.ref b17), (.ref b17)])) _
    refine st22.trans ?_
    show Steps p.tables e below (T22.setTop (mkF m 83 (LL6 p1 p2 p3 p4 p5 b11) [(.ref b17)])) _
    refine XS.astore X22.here hx rfl (hb hby at_83) rfl rfl (l' := (LL7 p1 p2 p3 p4 p5 b11 b17)) rfl ?_
    show Steps p.tables e below (T22.setTop (mkF m 85 (LL7 p1 p2 p3 p4 p5 b11 b17) [])) _
    refine XS.aload X22.here hx rfl (hb hby at_85) rfl rfl ?_
    show Steps p.tables e below (T22.setTop (mkF m 87 (LL7 p1 p2 p3 p4 p5 b11 b17) [(.ref b11)])) _
    refine XS.aload X22.here hx rfl (hb hby at_87) rfl rfl ?_
    show Steps p.tables e below (T22.setTop (mkF m 89 (LL7 p1 p2 p3 p4 p5 b11 b17) [(.ref b17), (.ref b11)])) _
    refine st27.trans ?_
    show Steps p.tables e below (T27.setTop (mkF m 92 (LL7 p1 p2 p3 p4 p5 b11 b17) [(.int (va5 p1 (va3 p5 p2 p1) (nar .boolean (va1 p5)) (nar .boolean (va2 p5)) p3 (va4 p5 p4 p3)))])) _
    refine XS.istore X27.here hx rfl (hb hby at_92) rfl (l' := (LL8 p1 p2 p3 p4 p5 b11 b17)) rfl ?_
    show Steps p.tables e below (T27.setTop (mkF m 94 (LL8 p1 p2 p3 p4 p5 b11 b17) [])) _
    refine XS.iloadN X27.here hx rfl (hb hby at_94) rfl ?_
    show Steps p.tables e below (T27.setTop (mkF m 95 (LL8 p1 p2 p3 p4 p5 b11 b17) [(.int p3)])) _
    refine XS.iconst X27.here hx rfl (hb hby at_95) ?_
    show Steps p.tables e below (T27.setTop (mkF m 96 (LL8 p1 p2 p3 p4 p5 b11 b17) [(.int (1 : Int32)), (.int p3)])) _
    refine XS.iadd X27.here hx rfl (hb hby at_96) rfl ?_
    show Steps p.tables e below (T27.setTop (mkF m 97 (LL8 p1 p2 p3 p4 p5 b11 b17) [(.int (p3 + (1 : Int32)))])) _
    refine XS.iload X27.here hx rfl (hb hby at_97) rfl ?_
    suffices j30 : Steps p.tables e below (T27.setTop (mkF m 111 (LL8 p1 p2 p3 p4 p5 b11 b17) [(.int (va6 p3 p5 p4))])) (T33.setFrames fs) by
      show Steps p.tables e below (T27.setTop (mkF m 99 (LL8 p1 p2 p3 p4 p5 b11 b17) [(.int (va4 p5 p4 p3)), (.int (p3 + (1 : Int32)))])) _
      by_cases j30_1 : (p3 + (1 : Int32)) = (va4 p5 p4 p3)
      ·
        refine XS.icmpYes X27.here hx rfl (pc0 := 99) (pc' := 108) rfl (hb hby at_99) rfl (teq j30_1).1 (by decide) (by decide) ?_
        show Steps p.tables e below (T27.setTop (mkF m 108 (LL8 p1 p2 p3 p4 p5 b11 b17) [])) _
        refine XS.iloadN X27.here hx rfl (hb hby at_108) rfl ?_
        show Steps p.tables e below (T27.setTop (mkF m 109 (LL8 p1 p2 p3 p4 p5 b11 b17) [(.int p3)])) _
        refine XS.iconst X27.here hx rfl (hb hby at_109) ?_
        show Steps p.tables e below (T27.setTop (mkF m 110 (LL8 p1 p2 p3 p4 p5 b11 b17) [(.int (2 : Int32)), (.int p3)])) _
        refine XS.iadd X27.here hx rfl (hb hby at_110) rfl ?_
        (try simp only [va6, if_pos j30_1] at j30)
        exact j30
      ·
        refine XS.icmpNo X27.here hx rfl (hb hby at_99) rfl (feq j30_1).1 ?_
        show Steps p.tables e below (T27.setTop (mkF m 102 (LL8 p1 p2 p3 p4 p5 b11 b17) [])) _
        refine XS.iloadN X27.here hx rfl (hb hby at_102) rfl ?_
        show Steps p.tables e below (T27.setTop (mkF m 103 (LL8 p1 p2 p3 p4 p5 b11 b17) [(.int p3)])) _
        refine XS.iconst X27.here hx rfl (hb hby at_103) ?_
        show Steps p.tables e below (T27.setTop (mkF m 104 (LL8 p1 p2 p3 p4 p5 b11 b17) [(.int (1 : Int32)), (.int p3)])) _
        refine XS.iadd X27.here hx rfl (hb hby at_104) rfl ?_
        show Steps p.tables e below (T27.setTop (mkF m 105 (LL8 p1 p2 p3 p4 p5 b11 b17) [(.int (p3 + (1 : Int32)))])) _
        refine XS.goto X27.here hx rfl (pc0 := 105) (pc' := 111) rfl (hb hby at_105) (by decide) (by decide) ?_
        (try simp only [va6, if_neg j30_1] at j30)
        exact j30
    show Steps p.tables e below (T27.setTop (mkF m 111 (LL8 p1 p2 p3 p4 p5 b11 b17) [(.int (va6 p3 p5 p4))])) _
    refine XS.istore X27.here hx rfl (hb hby at_111) rfl (l' := (LL9 p1 p2 p3 p4 p5 b11 b17)) rfl ?_
    show Steps p.tables e below (T27.setTop (mkF m 113 (LL9 p1 p2 p3 p4 p5 b11 b17) [])) _
    refine XS.iload X27.here hx rfl (hb hby at_113) rfl ?_
    show Steps p.tables e below (T27.setTop (mkF m 115 (LL9 p1 p2 p3 p4 p5 b11 b17) [(.int (va1 p5))])) _
    refine XS.iloadN X27.here hx rfl (hb hby at_115) rfl ?_
    show Steps p.tables e below (T27.setTop (mkF m 116 (LL9 p1 p2 p3 p4 p5 b11 b17) [(.int p3), (.int (va1 p5))])) _
    refine XS.iloadN X27.here hx rfl (hb hby at_116) rfl ?_
    show Steps p.tables e below (T27.setTop (mkF m 117 (LL9 p1 p2 p3 p4 p5 b11 b17) [(.int p3), (.int p3), (.int (va1 p5))])) _
    refine st31 _ ?_
    show Steps p.tables e below (T31.setTop (mkF m 120 (LL9 p1 p2 p3 p4 p5 b11 b17) [(.int (va7 (va1 p5)))])) _
    refine XS.ifNo X31.here hx rfl (hb hby at_120) rfl ((if0 _ _).trans (feq H1).1) ?_
    show Steps p.tables e below (T31.setTop (mkF m 123 (LL9 p1 p2 p3 p4 p5 b11 b17) [])) _
    refine XS.iload X31.here hx rfl (hb hby at_123) rfl ?_
    show Steps p.tables e below (T31.setTop (mkF m 125 (LL9 p1 p2 p3 p4 p5 b11 b17) [(.int (va2 p5))])) _
    refine XS.iload X31.here hx rfl (hb hby at_125) rfl ?_
    show Steps p.tables e below (T31.setTop (mkF m 127 (LL9 p1 p2 p3 p4 p5 b11 b17) [(.int (va4 p5 p4 p3)), (.int (va2 p5))])) _
    refine XS.iloadN X31.here hx rfl (hb hby at_127) rfl ?_
    show Steps p.tables e below (T31.setTop (mkF m 128 (LL9 p1 p2 p3 p4 p5 b11 b17) [(.int p3), (.int (va4 p5 p4 p3)), (.int (va2 p5))])) _
    refine st33 _ ?_
    show Steps p.tables e below (T33.setTop (mkF m 131 (LL9 p1 p2 p3 p4 p5 b11 b17) [(.int (va14 (va2 p5) p3 (va4 p5 p4 p3)))])) _
    refine XS.ifYes X33.here hx rfl (pc0 := 131) (pc' := 180) rfl (hb hby at_131) rfl ((if0 _ _).trans (feq H2).2) (by decide) (by decide) ?_
    show Steps p.tables e below (T33.setTop (mkF m 180 (LL9 p1 p2 p3 p4 p5 b11 b17) [])) _
    refine XS.iconst X33.here hx rfl (hb hby at_180) ?_
    show Steps p.tables e below (T33.setTop (mkF m 181 (LL9 p1 p2 p3 p4 p5 b11 b17) [(.int (1 : Int32))])) _
    refine XS.goto X33.here hx rfl (pc0 := 181) (pc' := 185) rfl (hb hby at_181) (by decide) (by decide) ?_
    show Steps p.tables e below (T33.setTop (mkF m 185 (LL9 p1 p2 p3 p4 p5 b11 b17) [(.int (1 : Int32))])) _
    refine XS.istore X33.here hx rfl (hb hby at_185) rfl (l' := (LL12 p1 p2 p3 p4 p5 b11 b17)) rfl ?_
    show Steps p.tables e below (T33.setTop (mkF m 187 (LL12 p1 p2 p3 p4 p5 b11 b17) [])) _
    refine XS.iloadN X33.here hx rfl (hb hby at_187) rfl ?_
    show Steps p.tables e below (T33.setTop (mkF m 188 (LL12 p1 p2 p3 p4 p5 b11 b17) [(.int p1)])) _
    refine XS.iload X33.here hx rfl (hb hby at_188) rfl ?_
    suffices j35 : Steps p.tables e below (T33.setTop (mkF m 203 (LL12 p1 p2 p3 p4 p5 b11 b17) [(.int (0 : Int32))])) (T33.setFrames fs) by
      show Steps p.tables e below (T33.setTop (mkF m 190 (LL12 p1 p2 p3 p4 p5 b11 b17) [(.int (va3 p5 p2 p1)), (.int p1)])) _
      by_cases j35_1 : p1 = (va3 p5 p2 p1)
      ·
        refine XS.icmpNo X33.here hx rfl (hb hby at_190) rfl (teq j35_1).2 ?_
        show Steps p.tables e below (T33.setTop (mkF m 193 (LL12 p1 p2 p3 p4 p5 b11 b17) [])) _
        refine XS.iload X33.here hx rfl (hb hby at_193) rfl ?_
        show Steps p.tables e below (T33.setTop (mkF m 195 (LL12 p1 p2 p3 p4 p5 b11 b17) [(.int (1 : Int32))])) _
        refine XS.ifYes X33.here hx rfl (pc0 := 195) (pc' := 202) rfl (hb hby at_195) rfl ((if0 _ _).trans (feq (by decide : ¬ ((1 : Int32) = (0 : Int32)))).2) (by decide) (by decide) ?_
        show Steps p.tables e below (T33.setTop (mkF m 202 (LL12 p1 p2 p3 p4 p5 b11 b17) [])) _
        refine XS.iconst X33.here hx rfl (hb hby at_202) ?_
        (try simp only [if_pos j35_1] at j35)
        exact j35
      ·
        refine XS.icmpYes X33.here hx rfl (pc0 := 190) (pc' := 202) rfl (hb hby at_190) rfl (feq j35_1).2 (by decide) (by decide) ?_
        show Steps p.tables e below (T33.setTop (mkF m 202 (LL12 p1 p2 p3 p4 p5 b11 b17) [])) _
        refine XS.iconst X33.here hx rfl (hb hby at_202) ?_
        (try simp only [if_neg j35_1] at j35)
        exact j35
    show Steps p.tables e below (T33.setTop (mkF m 203 (LL12 p1 p2 p3 p4 p5 b11 b17) [(.int (0 : Int32))])) _
    refine XS.istore X33.here hx rfl (hb hby at_203) rfl (l' := (LL13 p1 p2 p3 p4 p5 b11 b17)) rfl ?_
    show Steps p.tables e below (T33.setTop (mkF m 205 (LL13 p1 p2 p3 p4 p5 b11 b17) [])) _
    refine XS.iload X33.here hx rfl (hb hby at_205) rfl ?_
    show Steps p.tables e below (T33.setTop (mkF m 207 (LL13 p1 p2 p3 p4 p5 b11 b17) [(.int (va5 p1 (va3 p5 p2 p1) (nar .boolean (va1 p5)) (nar .boolean (va2 p5)) p3 (va4 p5 p4 p3)))])) _
    refine XS.iload X33.here hx rfl (hb hby at_207) rfl ?_
    suffices j36 : Steps p.tables e below (T33.setTop (mkF m 217 (LL13 p1 p2 p3 p4 p5 b11 b17) [(.int (va13 p1 p5 p2 p3 p4))])) (T33.setFrames fs) by
      show Steps p.tables e below (T33.setTop (mkF m 209 (LL13 p1 p2 p3 p4 p5 b11 b17) [(.int (0 : Int32)), (.int (va5 p1 (va3 p5 p2 p1) (nar .boolean (va1 p5)) (nar .boolean (va2 p5)) p3 (va4 p5 p4 p3)))])) _
      by_cases j36_1 : (va5 p1 (va3 p5 p2 p1) (nar .boolean (va1 p5)) (nar .boolean (va2 p5)) p3 (va4 p5 p4 p3)) = (0 : Int32)
      ·
        refine XS.icmpNo X33.here hx rfl (hb hby at_209) rfl (teq j36_1).2 ?_
        show Steps p.tables e below (T33.setTop (mkF m 212 (LL13 p1 p2 p3 p4 p5 b11 b17) [])) _
        refine XS.iconst X33.here hx rfl (hb hby at_212) ?_
        show Steps p.tables e below (T33.setTop (mkF m 213 (LL13 p1 p2 p3 p4 p5 b11 b17) [(.int (1 : Int32))])) _
        refine XS.goto X33.here hx rfl (pc0 := 213) (pc' := 217) rfl (hb hby at_213) (by decide) (by decide) ?_
        (try simp only [va13, if_pos j36_1] at j36)
        exact j36
      ·
        refine XS.icmpYes X33.here hx rfl (pc0 := 209) (pc' := 216) rfl (hb hby at_209) rfl (feq j36_1).2 (by decide) (by decide) ?_
        show Steps p.tables e below (T33.setTop (mkF m 216 (LL13 p1 p2 p3 p4 p5 b11 b17) [])) _
        refine XS.iconst X33.here hx rfl (hb hby at_216) ?_
        (try simp only [va13, if_neg j36_1] at j36)
        exact j36
    show Steps p.tables e below (T33.setTop (mkF m 217 (LL13 p1 p2 p3 p4 p5 b11 b17) [(.int (va13 p1 p5 p2 p3 p4))])) _
    exact retN X33 hx (t := .boolean) Bd.returns (by simp) (hb hby at_217) hr
  · show Q0 h0 n0 _ T33.heap _
    rw [e33q]
    exact ⟨(congrArg (fun z => some (Value.int z)) H3), N33⟩
set_option maxRecDepth 65536 in
set_option maxHeartbeats 40000000 in
theorem imp_1 (p5 : Int32) (h1 : (va7 (va1 p5)) = (0 : Int32)) : (va1 p5) = (0 : Int32) := by
  have := (by decide : (0 : Int32).toInt = 0)
  have := (by decide : (1 : Int32).toInt = 1)
  have := rng32 p5
  have := c_mask p5 (1 : Int32) 1 (by decide) (by decide)
  have := rng32 (p5 &&& (1 : Int32))
  have : ((p5 &&& (1 : Int32)).toInt = (0 : Int32).toInt ∧ (if (p5 &&& (1 : Int32)) = (0 : Int32) then (0 : Int32) else (1 : Int32)).toInt = (0 : Int32).toInt) ∨ (¬ ((p5 &&& (1 : Int32)).toInt = (0 : Int32).toInt) ∧ (if (p5 &&& (1 : Int32)) = (0 : Int32) then (0 : Int32) else (1 : Int32)).toInt = (1 : Int32).toInt) := by
    by_cases hc : (p5 &&& (1 : Int32)) = (0 : Int32)
    · exact Or.inl ⟨Int32.toInt_inj.symm.mp hc, by rw [if_pos hc]⟩
    · exact Or.inr ⟨fun q => hc (Int32.toInt_inj.symm.mpr q), by rw [if_neg hc]⟩
  have := (congrArg Int32.toInt (show (va1 p5) = (if (p5 &&& (1 : Int32)) = (0 : Int32) then (0 : Int32) else (1 : Int32)) from rfl))
  have : ((va1 p5).toInt = (0 : Int32).toInt ∧ (if (va1 p5) = (0 : Int32) then (0 : Int32) else (1 : Int32)).toInt = (0 : Int32).toInt) ∨ (¬ ((va1 p5).toInt = (0 : Int32).toInt) ∧ (if (va1 p5) = (0 : Int32) then (0 : Int32) else (1 : Int32)).toInt = (1 : Int32).toInt) := by
    by_cases hc : (va1 p5) = (0 : Int32)
    · exact Or.inl ⟨Int32.toInt_inj.symm.mp hc, by rw [if_pos hc]⟩
    · exact Or.inr ⟨fun q => hc (Int32.toInt_inj.symm.mpr q), by rw [if_neg hc]⟩
  have := (congrArg Int32.toInt (show (va7 (va1 p5)) = (if (va1 p5) = (0 : Int32) then (0 : Int32) else (1 : Int32)) from rfl))
  have := congrArg Int32.toInt h1
  apply Int32.toInt_inj.mp
  omega
set_option maxRecDepth 65536 in
set_option maxHeartbeats 40000000 in
theorem imp_2 (p3 : Int32) (p4 : Int32) (p5 : Int32) (h1 : (va7 (va1 p5)) = (0 : Int32)) (h2 : (va1 p5) = (0 : Int32)) (h3 : (va8 (va4 p5 p4 p3) p3) = (0 : Int32)) : ¬ ((va6 p3 p5 p4) = p3) := by
  have := (by decide : (0 : Int32).toInt = 0)
  have := (by decide : (1 : Int32).toInt = 1)
  have := rng32 p5
  have := c_mask p5 (1 : Int32) 1 (by decide) (by decide)
  have := rng32 (p5 &&& (1 : Int32))
  have : ((p5 &&& (1 : Int32)).toInt = (0 : Int32).toInt ∧ (if (p5 &&& (1 : Int32)) = (0 : Int32) then (0 : Int32) else (1 : Int32)).toInt = (0 : Int32).toInt) ∨ (¬ ((p5 &&& (1 : Int32)).toInt = (0 : Int32).toInt) ∧ (if (p5 &&& (1 : Int32)) = (0 : Int32) then (0 : Int32) else (1 : Int32)).toInt = (1 : Int32).toInt) := by
    by_cases hc : (p5 &&& (1 : Int32)) = (0 : Int32)
    · exact Or.inl ⟨Int32.toInt_inj.symm.mp hc, by rw [if_pos hc]⟩
    · exact Or.inr ⟨fun q => hc (Int32.toInt_inj.symm.mpr q), by rw [if_neg hc]⟩
  have := (congrArg Int32.toInt (show (va1 p5) = (if (p5 &&& (1 : Int32)) = (0 : Int32) then (0 : Int32) else (1 : Int32)) from rfl))
  have : ((va1 p5).toInt = (0 : Int32).toInt ∧ (if (va1 p5) = (0 : Int32) then (0 : Int32) else (1 : Int32)).toInt = (0 : Int32).toInt) ∨ (¬ ((va1 p5).toInt = (0 : Int32).toInt) ∧ (if (va1 p5) = (0 : Int32) then (0 : Int32) else (1 : Int32)).toInt = (1 : Int32).toInt) := by
    by_cases hc : (va1 p5) = (0 : Int32)
    · exact Or.inl ⟨Int32.toInt_inj.symm.mp hc, by rw [if_pos hc]⟩
    · exact Or.inr ⟨fun q => hc (Int32.toInt_inj.symm.mpr q), by rw [if_neg hc]⟩
  have := (congrArg Int32.toInt (show (va7 (va1 p5)) = (if (va1 p5) = (0 : Int32) then (0 : Int32) else (1 : Int32)) from rfl))
  have := rng32 p4
  have := rng32 p3
  have := (by decide : (8 : Int32).toInt = 8)
  have := c_and p5 (8 : Int32)
  have := rng32 (p5 &&& (8 : Int32))
  have : ((p5 &&& (8 : Int32)).toInt = (0 : Int32).toInt ∧ (if (p5 &&& (8 : Int32)) = (0 : Int32) then p4 else p3).toInt = p4.toInt) ∨ (¬ ((p5 &&& (8 : Int32)).toInt = (0 : Int32).toInt) ∧ (if (p5 &&& (8 : Int32)) = (0 : Int32) then p4 else p3).toInt = p3.toInt) := by
    by_cases hc : (p5 &&& (8 : Int32)) = (0 : Int32)
    · exact Or.inl ⟨Int32.toInt_inj.symm.mp hc, by rw [if_pos hc]⟩
    · exact Or.inr ⟨fun q => hc (Int32.toInt_inj.symm.mpr q), by rw [if_neg hc]⟩
  have := (congrArg Int32.toInt (show (va4 p5 p4 p3) = (if (p5 &&& (8 : Int32)) = (0 : Int32) then p4 else p3) from rfl))
  have : ((va4 p5 p4 p3).toInt = p3.toInt ∧ (if (va4 p5 p4 p3) = p3 then (0 : Int32) else (1 : Int32)).toInt = (0 : Int32).toInt) ∨ (¬ ((va4 p5 p4 p3).toInt = p3.toInt) ∧ (if (va4 p5 p4 p3) = p3 then (0 : Int32) else (1 : Int32)).toInt = (1 : Int32).toInt) := by
    by_cases hc : (va4 p5 p4 p3) = p3
    · exact Or.inl ⟨Int32.toInt_inj.symm.mp hc, by rw [if_pos hc]⟩
    · exact Or.inr ⟨fun q => hc (Int32.toInt_inj.symm.mpr q), by rw [if_neg hc]⟩
  have := (congrArg Int32.toInt (show (va8 (va4 p5 p4 p3) p3) = (if (va4 p5 p4 p3) = p3 then (0 : Int32) else (1 : Int32)) from rfl))
  have := (by decide : (2 : Int32).toInt = 2)
  have := c_iadd p3 (2 : Int32)
  have := rng32 (p3 + (2 : Int32))
  have := c_iadd p3 (1 : Int32)
  have := rng32 (p3 + (1 : Int32))
  have : ((p3 + (1 : Int32)).toInt = (va4 p5 p4 p3).toInt ∧ (if (p3 + (1 : Int32)) = (va4 p5 p4 p3) then (p3 + (2 : Int32)) else (p3 + (1 : Int32))).toInt = (p3 + (2 : Int32)).toInt) ∨ (¬ ((p3 + (1 : Int32)).toInt = (va4 p5 p4 p3).toInt) ∧ (if (p3 + (1 : Int32)) = (va4 p5 p4 p3) then (p3 + (2 : Int32)) else (p3 + (1 : Int32))).toInt = (p3 + (1 : Int32)).toInt) := by
    by_cases hc : (p3 + (1 : Int32)) = (va4 p5 p4 p3)
    · exact Or.inl ⟨Int32.toInt_inj.symm.mp hc, by rw [if_pos hc]⟩
    · exact Or.inr ⟨fun q => hc (Int32.toInt_inj.symm.mpr q), by rw [if_neg hc]⟩
  have := (congrArg Int32.toInt (show (va6 p3 p5 p4) = (if (p3 + (1 : Int32)) = (va4 p5 p4 p3) then (p3 + (2 : Int32)) else (p3 + (1 : Int32))) from rfl))
  have := congrArg Int32.toInt h1
  have := congrArg Int32.toInt h2
  have := congrArg Int32.toInt h3
  refine mt (congrArg Int32.toInt) ?_
  omega
set_option maxRecDepth 65536 in
set_option maxHeartbeats 40000000 in
theorem imp_3 (p3 : Int32) (p4 : Int32) (p5 : Int32) (h1 : (va7 (va1 p5)) = (0 : Int32)) (h2 : (va1 p5) = (0 : Int32)) (h3 : (va8 (va4 p5 p4 p3) p3) = (0 : Int32)) (h4 : ¬ ((va6 p3 p5 p4) = p3)) : ¬ ((va6 p3 p5 p4) = (va4 p5 p4 p3)) := by
  have := (by decide : (0 : Int32).toInt = 0)
  have := (by decide : (1 : Int32).toInt = 1)
  have := rng32 p5
  have := c_mask p5 (1 : Int32) 1 (by decide) (by decide)
  have := rng32 (p5 &&& (1 : Int32))
  have : ((p5 &&& (1 : Int32)).toInt = (0 : Int32).toInt ∧ (if (p5 &&& (1 : Int32)) = (0 : Int32) then (0 : Int32) else (1 : Int32)).toInt = (0 : Int32).toInt) ∨ (¬ ((p5 &&& (1 : Int32)).toInt = (0 : Int32).toInt) ∧ (if (p5 &&& (1 : Int32)) = (0 : Int32) then (0 : Int32) else (1 : Int32)).toInt = (1 : Int32).toInt) := by
    by_cases hc : (p5 &&& (1 : Int32)) = (0 : Int32)
    · exact Or.inl ⟨Int32.toInt_inj.symm.mp hc, by rw [if_pos hc]⟩
    · exact Or.inr ⟨fun q => hc (Int32.toInt_inj.symm.mpr q), by rw [if_neg hc]⟩
  have := (congrArg Int32.toInt (show (va1 p5) = (if (p5 &&& (1 : Int32)) = (0 : Int32) then (0 : Int32) else (1 : Int32)) from rfl))
  have : ((va1 p5).toInt = (0 : Int32).toInt ∧ (if (va1 p5) = (0 : Int32) then (0 : Int32) else (1 : Int32)).toInt = (0 : Int32).toInt) ∨ (¬ ((va1 p5).toInt = (0 : Int32).toInt) ∧ (if (va1 p5) = (0 : Int32) then (0 : Int32) else (1 : Int32)).toInt = (1 : Int32).toInt) := by
    by_cases hc : (va1 p5) = (0 : Int32)
    · exact Or.inl ⟨Int32.toInt_inj.symm.mp hc, by rw [if_pos hc]⟩
    · exact Or.inr ⟨fun q => hc (Int32.toInt_inj.symm.mpr q), by rw [if_neg hc]⟩
  have := (congrArg Int32.toInt (show (va7 (va1 p5)) = (if (va1 p5) = (0 : Int32) then (0 : Int32) else (1 : Int32)) from rfl))
  have := rng32 p4
  have := rng32 p3
  have := (by decide : (8 : Int32).toInt = 8)
  have := c_and p5 (8 : Int32)
  have := rng32 (p5 &&& (8 : Int32))
  have : ((p5 &&& (8 : Int32)).toInt = (0 : Int32).toInt ∧ (if (p5 &&& (8 : Int32)) = (0 : Int32) then p4 else p3).toInt = p4.toInt) ∨ (¬ ((p5 &&& (8 : Int32)).toInt = (0 : Int32).toInt) ∧ (if (p5 &&& (8 : Int32)) = (0 : Int32) then p4 else p3).toInt = p3.toInt) := by
    by_cases hc : (p5 &&& (8 : Int32)) = (0 : Int32)
    · exact Or.inl ⟨Int32.toInt_inj.symm.mp hc, by rw [if_pos hc]⟩
    · exact Or.inr ⟨fun q => hc (Int32.toInt_inj.symm.mpr q), by rw [if_neg hc]⟩
  have := (congrArg Int32.toInt (show (va4 p5 p4 p3) = (if (p5 &&& (8 : Int32)) = (0 : Int32) then p4 else p3) from rfl))
  have : ((va4 p5 p4 p3).toInt = p3.toInt ∧ (if (va4 p5 p4 p3) = p3 then (0 : Int32) else (1 : Int32)).toInt = (0 : Int32).toInt) ∨ (¬ ((va4 p5 p4 p3).toInt = p3.toInt) ∧ (if (va4 p5 p4 p3) = p3 then (0 : Int32) else (1 : Int32)).toInt = (1 : Int32).toInt) := by
    by_cases hc : (va4 p5 p4 p3) = p3
    · exact Or.inl ⟨Int32.toInt_inj.symm.mp hc, by rw [if_pos hc]⟩
    · exact Or.inr ⟨fun q => hc (Int32.toInt_inj.symm.mpr q), by rw [if_neg hc]⟩
  have := (congrArg Int32.toInt (show (va8 (va4 p5 p4 p3) p3) = (if (va4 p5 p4 p3) = p3 then (0 : Int32) else (1 : Int32)) from rfl))
  have := (by decide : (2 : Int32).toInt = 2)
  have := c_iadd p3 (2 : Int32)
  have := rng32 (p3 + (2 : Int32))
  have := c_iadd p3 (1 : Int32)
  have := rng32 (p3 + (1 : Int32))
  have : ((p3 + (1 : Int32)).toInt = (va4 p5 p4 p3).toInt ∧ (if (p3 + (1 : Int32)) = (va4 p5 p4 p3) then (p3 + (2 : Int32)) else (p3 + (1 : Int32))).toInt = (p3 + (2 : Int32)).toInt) ∨ (¬ ((p3 + (1 : Int32)).toInt = (va4 p5 p4 p3).toInt) ∧ (if (p3 + (1 : Int32)) = (va4 p5 p4 p3) then (p3 + (2 : Int32)) else (p3 + (1 : Int32))).toInt = (p3 + (1 : Int32)).toInt) := by
    by_cases hc : (p3 + (1 : Int32)) = (va4 p5 p4 p3)
    · exact Or.inl ⟨Int32.toInt_inj.symm.mp hc, by rw [if_pos hc]⟩
    · exact Or.inr ⟨fun q => hc (Int32.toInt_inj.symm.mpr q), by rw [if_neg hc]⟩
  have := (congrArg Int32.toInt (show (va6 p3 p5 p4) = (if (p3 + (1 : Int32)) = (va4 p5 p4 p3) then (p3 + (2 : Int32)) else (p3 + (1 : Int32))) from rfl))
  have := congrArg Int32.toInt h1
  have := congrArg Int32.toInt h2
  have := congrArg Int32.toInt h3
  have := mt Int32.toInt_inj.mp h4
  refine mt (congrArg Int32.toInt) ?_
  omega
set_option maxRecDepth 65536 in
set_option maxHeartbeats 40000000 in
theorem imp_4 (p1 : Int32) (p2 : Int32) (p3 : Int32) (p4 : Int32) (p5 : Int32) (h1 : (va7 (va1 p5)) = (0 : Int32)) (h2 : (va1 p5) = (0 : Int32)) (h3 : (va8 (va4 p5 p4 p3) p3) = (0 : Int32)) (h4 : ¬ ((va6 p3 p5 p4) = p3)) (h5 : ¬ ((va6 p3 p5 p4) = (va4 p5 p4 p3))) : (nar .boolean (va12 p1 p5 p2 p3 p4)) = (1 : Int32) := by
  have q1 : ∀ z : Int32, ¬ (z + 1 = z) := own_q1
  have q2 : ∀ z : Int32, ¬ (z + 2 = z) := own_q2
  simp only [va1, va2, va3, va4, va5, va6, va7, va8, va9, va10, va11, va12, va13, va14, va15, va16, va17] at *
  by_cases e1 : (p5 &&& (1 : Int32)) = 0 <;> by_cases e2 : (p5 &&& (2 : Int32)) = 0 <;> simp only [e1, e2, if_true, if_false, own_n1, own_n0] at * <;> by_cases e4 : (p5 &&& (4 : Int32)) = 0 <;> by_cases e8 : (p5 &&& (8 : Int32)) = 0 <;> by_cases e9 : p1 = p2 <;> by_cases e10 : p3 = p4 <;> simp_all [own_n1, own_n0]
set_option maxRecDepth 65536 in
set_option maxHeartbeats 40000000 in
theorem imp_5 (p3 : Int32) (p4 : Int32) (p5 : Int32) (h1 : (va7 (va1 p5)) = (0 : Int32)) (h2 : (va1 p5) = (0 : Int32)) (h3 : ¬ ((va8 (va4 p5 p4 p3) p3) = (0 : Int32))) (h4 : (va7 (va2 p5)) = (0 : Int32)) : ¬ ((va6 p3 p5 p4) = p3) := by
  have := (by decide : (0 : Int32).toInt = 0)
  have := (by decide : (1 : Int32).toInt = 1)
  have := rng32 p5
  have := c_mask p5 (1 : Int32) 1 (by decide) (by decide)
  have := rng32 (p5 &&& (1 : Int32))
  have : ((p5 &&& (1 : Int32)).toInt = (0 : Int32).toInt ∧ (if (p5 &&& (1 : Int32)) = (0 : Int32) then (0 : Int32) else (1 : Int32)).toInt = (0 : Int32).toInt) ∨ (¬ ((p5 &&& (1 : Int32)).toInt = (0 : Int32).toInt) ∧ (if (p5 &&& (1 : Int32)) = (0 : Int32) then (0 : Int32) else (1 : Int32)).toInt = (1 : Int32).toInt) := by
    by_cases hc : (p5 &&& (1 : Int32)) = (0 : Int32)
    · exact Or.inl ⟨Int32.toInt_inj.symm.mp hc, by rw [if_pos hc]⟩
    · exact Or.inr ⟨fun q => hc (Int32.toInt_inj.symm.mpr q), by rw [if_neg hc]⟩
  have := (congrArg Int32.toInt (show (va1 p5) = (if (p5 &&& (1 : Int32)) = (0 : Int32) then (0 : Int32) else (1 : Int32)) from rfl))
  have : ((va1 p5).toInt = (0 : Int32).toInt ∧ (if (va1 p5) = (0 : Int32) then (0 : Int32) else (1 : Int32)).toInt = (0 : Int32).toInt) ∨ (¬ ((va1 p5).toInt = (0 : Int32).toInt) ∧ (if (va1 p5) = (0 : Int32) then (0 : Int32) else (1 : Int32)).toInt = (1 : Int32).toInt) := by
    by_cases hc : (va1 p5) = (0 : Int32)
    · exact Or.inl ⟨Int32.toInt_inj.symm.mp hc, by rw [if_pos hc]⟩
    · exact Or.inr ⟨fun q => hc (Int32.toInt_inj.symm.mpr q), by rw [if_neg hc]⟩
  have := (congrArg Int32.toInt (show (va7 (va1 p5)) = (if (va1 p5) = (0 : Int32) then (0 : Int32) else (1 : Int32)) from rfl))
  have := rng32 p4
  have := rng32 p3
  have := (by decide : (8 : Int32).toInt = 8)
  have := c_and p5 (8 : Int32)
  have := rng32 (p5 &&& (8 : Int32))
  have : ((p5 &&& (8 : Int32)).toInt = (0 : Int32).toInt ∧ (if (p5 &&& (8 : Int32)) = (0 : Int32) then p4 else p3).toInt = p4.toInt) ∨ (¬ ((p5 &&& (8 : Int32)).toInt = (0 : Int32).toInt) ∧ (if (p5 &&& (8 : Int32)) = (0 : Int32) then p4 else p3).toInt = p3.toInt) := by
    by_cases hc : (p5 &&& (8 : Int32)) = (0 : Int32)
    · exact Or.inl ⟨Int32.toInt_inj.symm.mp hc, by rw [if_pos hc]⟩
    · exact Or.inr ⟨fun q => hc (Int32.toInt_inj.symm.mpr q), by rw [if_neg hc]⟩
  have := (congrArg Int32.toInt (show (va4 p5 p4 p3) = (if (p5 &&& (8 : Int32)) = (0 : Int32) then p4 else p3) from rfl))
  have : ((va4 p5 p4 p3).toInt = p3.toInt ∧ (if (va4 p5 p4 p3) = p3 then (0 : Int32) else (1 : Int32)).toInt = (0 : Int32).toInt) ∨ (¬ ((va4 p5 p4 p3).toInt = p3.toInt) ∧ (if (va4 p5 p4 p3) = p3 then (0 : Int32) else (1 : Int32)).toInt = (1 : Int32).toInt) := by
    by_cases hc : (va4 p5 p4 p3) = p3
    · exact Or.inl ⟨Int32.toInt_inj.symm.mp hc, by rw [if_pos hc]⟩
    · exact Or.inr ⟨fun q => hc (Int32.toInt_inj.symm.mpr q), by rw [if_neg hc]⟩
  have := (congrArg Int32.toInt (show (va8 (va4 p5 p4 p3) p3) = (if (va4 p5 p4 p3) = p3 then (0 : Int32) else (1 : Int32)) from rfl))
  have := (by decide : (2 : Int32).toInt = 2)
  have := c_and p5 (2 : Int32)
  have := rng32 (p5 &&& (2 : Int32))
  have : ((p5 &&& (2 : Int32)).toInt = (0 : Int32).toInt ∧ (if (p5 &&& (2 : Int32)) = (0 : Int32) then (0 : Int32) else (1 : Int32)).toInt = (0 : Int32).toInt) ∨ (¬ ((p5 &&& (2 : Int32)).toInt = (0 : Int32).toInt) ∧ (if (p5 &&& (2 : Int32)) = (0 : Int32) then (0 : Int32) else (1 : Int32)).toInt = (1 : Int32).toInt) := by
    by_cases hc : (p5 &&& (2 : Int32)) = (0 : Int32)
    · exact Or.inl ⟨Int32.toInt_inj.symm.mp hc, by rw [if_pos hc]⟩
    · exact Or.inr ⟨fun q => hc (Int32.toInt_inj.symm.mpr q), by rw [if_neg hc]⟩
  have := (congrArg Int32.toInt (show (va2 p5) = (if (p5 &&& (2 : Int32)) = (0 : Int32) then (0 : Int32) else (1 : Int32)) from rfl))
  have : ((va2 p5).toInt = (0 : Int32).toInt ∧ (if (va2 p5) = (0 : Int32) then (0 : Int32) else (1 : Int32)).toInt = (0 : Int32).toInt) ∨ (¬ ((va2 p5).toInt = (0 : Int32).toInt) ∧ (if (va2 p5) = (0 : Int32) then (0 : Int32) else (1 : Int32)).toInt = (1 : Int32).toInt) := by
    by_cases hc : (va2 p5) = (0 : Int32)
    · exact Or.inl ⟨Int32.toInt_inj.symm.mp hc, by rw [if_pos hc]⟩
    · exact Or.inr ⟨fun q => hc (Int32.toInt_inj.symm.mpr q), by rw [if_neg hc]⟩
  have := (congrArg Int32.toInt (show (va7 (va2 p5)) = (if (va2 p5) = (0 : Int32) then (0 : Int32) else (1 : Int32)) from rfl))
  have := c_iadd p3 (2 : Int32)
  have := rng32 (p3 + (2 : Int32))
  have := c_iadd p3 (1 : Int32)
  have := rng32 (p3 + (1 : Int32))
  have : ((p3 + (1 : Int32)).toInt = (va4 p5 p4 p3).toInt ∧ (if (p3 + (1 : Int32)) = (va4 p5 p4 p3) then (p3 + (2 : Int32)) else (p3 + (1 : Int32))).toInt = (p3 + (2 : Int32)).toInt) ∨ (¬ ((p3 + (1 : Int32)).toInt = (va4 p5 p4 p3).toInt) ∧ (if (p3 + (1 : Int32)) = (va4 p5 p4 p3) then (p3 + (2 : Int32)) else (p3 + (1 : Int32))).toInt = (p3 + (1 : Int32)).toInt) := by
    by_cases hc : (p3 + (1 : Int32)) = (va4 p5 p4 p3)
    · exact Or.inl ⟨Int32.toInt_inj.symm.mp hc, by rw [if_pos hc]⟩
    · exact Or.inr ⟨fun q => hc (Int32.toInt_inj.symm.mpr q), by rw [if_neg hc]⟩
  have := (congrArg Int32.toInt (show (va6 p3 p5 p4) = (if (p3 + (1 : Int32)) = (va4 p5 p4 p3) then (p3 + (2 : Int32)) else (p3 + (1 : Int32))) from rfl))
  have := congrArg Int32.toInt h1
  have := congrArg Int32.toInt h2
  have := mt Int32.toInt_inj.mp h3
  have := congrArg Int32.toInt h4
  refine mt (congrArg Int32.toInt) ?_
  omega
set_option maxRecDepth 65536 in
set_option maxHeartbeats 40000000 in
theorem imp_6 (p3 : Int32) (p4 : Int32) (p5 : Int32) (h1 : (va7 (va1 p5)) = (0 : Int32)) (h2 : (va1 p5) = (0 : Int32)) (h3 : ¬ ((va8 (va4 p5 p4 p3) p3) = (0 : Int32))) (h4 : (va7 (va2 p5)) = (0 : Int32)) (h5 : ¬ ((va6 p3 p5 p4) = p3)) : (va2 p5) = (0 : Int32) := by
  have := (by decide : (0 : Int32).toInt = 0)
  have := (by decide : (1 : Int32).toInt = 1)
  have := rng32 p5
  have := c_mask p5 (1 : Int32) 1 (by decide) (by decide)
  have := rng32 (p5 &&& (1 : Int32))
  have : ((p5 &&& (1 : Int32)).toInt = (0 : Int32).toInt ∧ (if (p5 &&& (1 : Int32)) = (0 : Int32) then (0 : Int32) else (1 : Int32)).toInt = (0 : Int32).toInt) ∨ (¬ ((p5 &&& (1 : Int32)).toInt = (0 : Int32).toInt) ∧ (if (p5 &&& (1 : Int32)) = (0 : Int32) then (0 : Int32) else (1 : Int32)).toInt = (1 : Int32).toInt) := by
    by_cases hc : (p5 &&& (1 : Int32)) = (0 : Int32)
    · exact Or.inl ⟨Int32.toInt_inj.symm.mp hc, by rw [if_pos hc]⟩
    · exact Or.inr ⟨fun q => hc (Int32.toInt_inj.symm.mpr q), by rw [if_neg hc]⟩
  have := (congrArg Int32.toInt (show (va1 p5) = (if (p5 &&& (1 : Int32)) = (0 : Int32) then (0 : Int32) else (1 : Int32)) from rfl))
  have : ((va1 p5).toInt = (0 : Int32).toInt ∧ (if (va1 p5) = (0 : Int32) then (0 : Int32) else (1 : Int32)).toInt = (0 : Int32).toInt) ∨ (¬ ((va1 p5).toInt = (0 : Int32).toInt) ∧ (if (va1 p5) = (0 : Int32) then (0 : Int32) else (1 : Int32)).toInt = (1 : Int32).toInt) := by
    by_cases hc : (va1 p5) = (0 : Int32)
    · exact Or.inl ⟨Int32.toInt_inj.symm.mp hc, by rw [if_pos hc]⟩
    · exact Or.inr ⟨fun q => hc (Int32.toInt_inj.symm.mpr q), by rw [if_neg hc]⟩
  have := (congrArg Int32.toInt (show (va7 (va1 p5)) = (if (va1 p5) = (0 : Int32) then (0 : Int32) else (1 : Int32)) from rfl))
  have := rng32 p4
  have := rng32 p3
  have := (by decide : (8 : Int32).toInt = 8)
  have := c_and p5 (8 : Int32)
  have := rng32 (p5 &&& (8 : Int32))
  have : ((p5 &&& (8 : Int32)).toInt = (0 : Int32).toInt ∧ (if (p5 &&& (8 : Int32)) = (0 : Int32) then p4 else p3).toInt = p4.toInt) ∨ (¬ ((p5 &&& (8 : Int32)).toInt = (0 : Int32).toInt) ∧ (if (p5 &&& (8 : Int32)) = (0 : Int32) then p4 else p3).toInt = p3.toInt) := by
    by_cases hc : (p5 &&& (8 : Int32)) = (0 : Int32)
    · exact Or.inl ⟨Int32.toInt_inj.symm.mp hc, by rw [if_pos hc]⟩
    · exact Or.inr ⟨fun q => hc (Int32.toInt_inj.symm.mpr q), by rw [if_neg hc]⟩
  have := (congrArg Int32.toInt (show (va4 p5 p4 p3) = (if (p5 &&& (8 : Int32)) = (0 : Int32) then p4 else p3) from rfl))
  have : ((va4 p5 p4 p3).toInt = p3.toInt ∧ (if (va4 p5 p4 p3) = p3 then (0 : Int32) else (1 : Int32)).toInt = (0 : Int32).toInt) ∨ (¬ ((va4 p5 p4 p3).toInt = p3.toInt) ∧ (if (va4 p5 p4 p3) = p3 then (0 : Int32) else (1 : Int32)).toInt = (1 : Int32).toInt) := by
    by_cases hc : (va4 p5 p4 p3) = p3
    · exact Or.inl ⟨Int32.toInt_inj.symm.mp hc, by rw [if_pos hc]⟩
    · exact Or.inr ⟨fun q => hc (Int32.toInt_inj.symm.mpr q), by rw [if_neg hc]⟩
  have := (congrArg Int32.toInt (show (va8 (va4 p5 p4 p3) p3) = (if (va4 p5 p4 p3) = p3 then (0 : Int32) else (1 : Int32)) from rfl))
  have := (by decide : (2 : Int32).toInt = 2)
  have := c_and p5 (2 : Int32)
  have := rng32 (p5 &&& (2 : Int32))
  have : ((p5 &&& (2 : Int32)).toInt = (0 : Int32).toInt ∧ (if (p5 &&& (2 : Int32)) = (0 : Int32) then (0 : Int32) else (1 : Int32)).toInt = (0 : Int32).toInt) ∨ (¬ ((p5 &&& (2 : Int32)).toInt = (0 : Int32).toInt) ∧ (if (p5 &&& (2 : Int32)) = (0 : Int32) then (0 : Int32) else (1 : Int32)).toInt = (1 : Int32).toInt) := by
    by_cases hc : (p5 &&& (2 : Int32)) = (0 : Int32)
    · exact Or.inl ⟨Int32.toInt_inj.symm.mp hc, by rw [if_pos hc]⟩
    · exact Or.inr ⟨fun q => hc (Int32.toInt_inj.symm.mpr q), by rw [if_neg hc]⟩
  have := (congrArg Int32.toInt (show (va2 p5) = (if (p5 &&& (2 : Int32)) = (0 : Int32) then (0 : Int32) else (1 : Int32)) from rfl))
  have : ((va2 p5).toInt = (0 : Int32).toInt ∧ (if (va2 p5) = (0 : Int32) then (0 : Int32) else (1 : Int32)).toInt = (0 : Int32).toInt) ∨ (¬ ((va2 p5).toInt = (0 : Int32).toInt) ∧ (if (va2 p5) = (0 : Int32) then (0 : Int32) else (1 : Int32)).toInt = (1 : Int32).toInt) := by
    by_cases hc : (va2 p5) = (0 : Int32)
    · exact Or.inl ⟨Int32.toInt_inj.symm.mp hc, by rw [if_pos hc]⟩
    · exact Or.inr ⟨fun q => hc (Int32.toInt_inj.symm.mpr q), by rw [if_neg hc]⟩
  have := (congrArg Int32.toInt (show (va7 (va2 p5)) = (if (va2 p5) = (0 : Int32) then (0 : Int32) else (1 : Int32)) from rfl))
  have := c_iadd p3 (2 : Int32)
  have := rng32 (p3 + (2 : Int32))
  have := c_iadd p3 (1 : Int32)
  have := rng32 (p3 + (1 : Int32))
  have : ((p3 + (1 : Int32)).toInt = (va4 p5 p4 p3).toInt ∧ (if (p3 + (1 : Int32)) = (va4 p5 p4 p3) then (p3 + (2 : Int32)) else (p3 + (1 : Int32))).toInt = (p3 + (2 : Int32)).toInt) ∨ (¬ ((p3 + (1 : Int32)).toInt = (va4 p5 p4 p3).toInt) ∧ (if (p3 + (1 : Int32)) = (va4 p5 p4 p3) then (p3 + (2 : Int32)) else (p3 + (1 : Int32))).toInt = (p3 + (1 : Int32)).toInt) := by
    by_cases hc : (p3 + (1 : Int32)) = (va4 p5 p4 p3)
    · exact Or.inl ⟨Int32.toInt_inj.symm.mp hc, by rw [if_pos hc]⟩
    · exact Or.inr ⟨fun q => hc (Int32.toInt_inj.symm.mpr q), by rw [if_neg hc]⟩
  have := (congrArg Int32.toInt (show (va6 p3 p5 p4) = (if (p3 + (1 : Int32)) = (va4 p5 p4 p3) then (p3 + (2 : Int32)) else (p3 + (1 : Int32))) from rfl))
  have := congrArg Int32.toInt h1
  have := congrArg Int32.toInt h2
  have := mt Int32.toInt_inj.mp h3
  have := congrArg Int32.toInt h4
  have := mt Int32.toInt_inj.mp h5
  apply Int32.toInt_inj.mp
  omega
set_option maxRecDepth 65536 in
set_option maxHeartbeats 40000000 in
theorem imp_7 (p3 : Int32) (p4 : Int32) (p5 : Int32) (h1 : (va7 (va1 p5)) = (0 : Int32)) (h2 : (va1 p5) = (0 : Int32)) (h3 : ¬ ((va8 (va4 p5 p4 p3) p3) = (0 : Int32))) (h4 : (va7 (va2 p5)) = (0 : Int32)) (h5 : ¬ ((va6 p3 p5 p4) = p3)) (h6 : (va2 p5) = (0 : Int32)) : ¬ ((va6 p3 p5 p4) = (va4 p5 p4 p3)) := by
  have := (by decide : (0 : Int32).toInt = 0)
  have := (by decide : (1 : Int32).toInt = 1)
  have := rng32 p5
  have := c_mask p5 (1 : Int32) 1 (by decide) (by decide)
  have := rng32 (p5 &&& (1 : Int32))
  have : ((p5 &&& (1 : Int32)).toInt = (0 : Int32).toInt ∧ (if (p5 &&& (1 : Int32)) = (0 : Int32) then (0 : Int32) else (1 : Int32)).toInt = (0 : Int32).toInt) ∨ (¬ ((p5 &&& (1 : Int32)).toInt = (0 : Int32).toInt) ∧ (if (p5 &&& (1 : Int32)) = (0 : Int32) then (0 : Int32) else (1 : Int32)).toInt = (1 : Int32).toInt) := by
    by_cases hc : (p5 &&& (1 : Int32)) = (0 : Int32)
    · exact Or.inl ⟨Int32.toInt_inj.symm.mp hc, by rw [if_pos hc]⟩
    · exact Or.inr ⟨fun q => hc (Int32.toInt_inj.symm.mpr q), by rw [if_neg hc]⟩
  have := (congrArg Int32.toInt (show (va1 p5) = (if (p5 &&& (1 : Int32)) = (0 : Int32) then (0 : Int32) else (1 : Int32)) from rfl))
  have : ((va1 p5).toInt = (0 : Int32).toInt ∧ (if (va1 p5) = (0 : Int32) then (0 : Int32) else (1 : Int32)).toInt = (0 : Int32).toInt) ∨ (¬ ((va1 p5).toInt = (0 : Int32).toInt) ∧ (if (va1 p5) = (0 : Int32) then (0 : Int32) else (1 : Int32)).toInt = (1 : Int32).toInt) := by
    by_cases hc : (va1 p5) = (0 : Int32)
    · exact Or.inl ⟨Int32.toInt_inj.symm.mp hc, by rw [if_pos hc]⟩
    · exact Or.inr ⟨fun q => hc (Int32.toInt_inj.symm.mpr q), by rw [if_neg hc]⟩
  have := (congrArg Int32.toInt (show (va7 (va1 p5)) = (if (va1 p5) = (0 : Int32) then (0 : Int32) else (1 : Int32)) from rfl))
  have := rng32 p4
  have := rng32 p3
  have := (by decide : (8 : Int32).toInt = 8)
  have := c_and p5 (8 : Int32)
  have := rng32 (p5 &&& (8 : Int32))
  have : ((p5 &&& (8 : Int32)).toInt = (0 : Int32).toInt ∧ (if (p5 &&& (8 : Int32)) = (0 : Int32) then p4 else p3).toInt = p4.toInt) ∨ (¬ ((p5 &&& (8 : Int32)).toInt = (0 : Int32).toInt) ∧ (if (p5 &&& (8 : Int32)) = (0 : Int32) then p4 else p3).toInt = p3.toInt) := by
    by_cases hc : (p5 &&& (8 : Int32)) = (0 : Int32)
    · exact Or.inl ⟨Int32.toInt_inj.symm.mp hc, by rw [if_pos hc]⟩
    · exact Or.inr ⟨fun q => hc (Int32.toInt_inj.symm.mpr q), by rw [if_neg hc]⟩
  have := (congrArg Int32.toInt (show (va4 p5 p4 p3) = (if (p5 &&& (8 : Int32)) = (0 : Int32) then p4 else p3) from rfl))
  have : ((va4 p5 p4 p3).toInt = p3.toInt ∧ (if (va4 p5 p4 p3) = p3 then (0 : Int32) else (1 : Int32)).toInt = (0 : Int32).toInt) ∨ (¬ ((va4 p5 p4 p3).toInt = p3.toInt) ∧ (if (va4 p5 p4 p3) = p3 then (0 : Int32) else (1 : Int32)).toInt = (1 : Int32).toInt) := by
    by_cases hc : (va4 p5 p4 p3) = p3
    · exact Or.inl ⟨Int32.toInt_inj.symm.mp hc, by rw [if_pos hc]⟩
    · exact Or.inr ⟨fun q => hc (Int32.toInt_inj.symm.mpr q), by rw [if_neg hc]⟩
  have := (congrArg Int32.toInt (show (va8 (va4 p5 p4 p3) p3) = (if (va4 p5 p4 p3) = p3 then (0 : Int32) else (1 : Int32)) from rfl))
  have := (by decide : (2 : Int32).toInt = 2)
  have := c_and p5 (2 : Int32)
  have := rng32 (p5 &&& (2 : Int32))
  have : ((p5 &&& (2 : Int32)).toInt = (0 : Int32).toInt ∧ (if (p5 &&& (2 : Int32)) = (0 : Int32) then (0 : Int32) else (1 : Int32)).toInt = (0 : Int32).toInt) ∨ (¬ ((p5 &&& (2 : Int32)).toInt = (0 : Int32).toInt) ∧ (if (p5 &&& (2 : Int32)) = (0 : Int32) then (0 : Int32) else (1 : Int32)).toInt = (1 : Int32).toInt) := by
    by_cases hc : (p5 &&& (2 : Int32)) = (0 : Int32)
    · exact Or.inl ⟨Int32.toInt_inj.symm.mp hc, by rw [if_pos hc]⟩
    · exact Or.inr ⟨fun q => hc (Int32.toInt_inj.symm.mpr q), by rw [if_neg hc]⟩
  have := (congrArg Int32.toInt (show (va2 p5) = (if (p5 &&& (2 : Int32)) = (0 : Int32) then (0 : Int32) else (1 : Int32)) from rfl))
  have : ((va2 p5).toInt = (0 : Int32).toInt ∧ (if (va2 p5) = (0 : Int32) then (0 : Int32) else (1 : Int32)).toInt = (0 : Int32).toInt) ∨ (¬ ((va2 p5).toInt = (0 : Int32).toInt) ∧ (if (va2 p5) = (0 : Int32) then (0 : Int32) else (1 : Int32)).toInt = (1 : Int32).toInt) := by
    by_cases hc : (va2 p5) = (0 : Int32)
    · exact Or.inl ⟨Int32.toInt_inj.symm.mp hc, by rw [if_pos hc]⟩
    · exact Or.inr ⟨fun q => hc (Int32.toInt_inj.symm.mpr q), by rw [if_neg hc]⟩
  have := (congrArg Int32.toInt (show (va7 (va2 p5)) = (if (va2 p5) = (0 : Int32) then (0 : Int32) else (1 : Int32)) from rfl))
  have := c_iadd p3 (2 : Int32)
  have := rng32 (p3 + (2 : Int32))
  have := c_iadd p3 (1 : Int32)
  have := rng32 (p3 + (1 : Int32))
  have : ((p3 + (1 : Int32)).toInt = (va4 p5 p4 p3).toInt ∧ (if (p3 + (1 : Int32)) = (va4 p5 p4 p3) then (p3 + (2 : Int32)) else (p3 + (1 : Int32))).toInt = (p3 + (2 : Int32)).toInt) ∨ (¬ ((p3 + (1 : Int32)).toInt = (va4 p5 p4 p3).toInt) ∧ (if (p3 + (1 : Int32)) = (va4 p5 p4 p3) then (p3 + (2 : Int32)) else (p3 + (1 : Int32))).toInt = (p3 + (1 : Int32)).toInt) := by
    by_cases hc : (p3 + (1 : Int32)) = (va4 p5 p4 p3)
    · exact Or.inl ⟨Int32.toInt_inj.symm.mp hc, by rw [if_pos hc]⟩
    · exact Or.inr ⟨fun q => hc (Int32.toInt_inj.symm.mpr q), by rw [if_neg hc]⟩
  have := (congrArg Int32.toInt (show (va6 p3 p5 p4) = (if (p3 + (1 : Int32)) = (va4 p5 p4 p3) then (p3 + (2 : Int32)) else (p3 + (1 : Int32))) from rfl))
  have := congrArg Int32.toInt h1
  have := congrArg Int32.toInt h2
  have := mt Int32.toInt_inj.mp h3
  have := congrArg Int32.toInt h4
  have := mt Int32.toInt_inj.mp h5
  have := congrArg Int32.toInt h6
  refine mt (congrArg Int32.toInt) ?_
  omega
set_option maxRecDepth 65536 in
set_option maxHeartbeats 40000000 in
theorem imp_8 (p1 : Int32) (p2 : Int32) (p3 : Int32) (p4 : Int32) (p5 : Int32) (h1 : (va7 (va1 p5)) = (0 : Int32)) (h2 : (va1 p5) = (0 : Int32)) (h3 : ¬ ((va8 (va4 p5 p4 p3) p3) = (0 : Int32))) (h4 : (va7 (va2 p5)) = (0 : Int32)) (h5 : ¬ ((va6 p3 p5 p4) = p3)) (h6 : (va2 p5) = (0 : Int32)) (h7 : ¬ ((va6 p3 p5 p4) = (va4 p5 p4 p3))) : (nar .boolean (va13 p1 p5 p2 p3 p4)) = (1 : Int32) := by
  have q1 : ∀ z : Int32, ¬ (z + 1 = z) := own_q1
  have q2 : ∀ z : Int32, ¬ (z + 2 = z) := own_q2
  simp only [va1, va2, va3, va4, va5, va6, va7, va8, va9, va10, va11, va12, va13, va14, va15, va16, va17] at *
  by_cases e1 : (p5 &&& (1 : Int32)) = 0 <;> by_cases e2 : (p5 &&& (2 : Int32)) = 0 <;> simp only [e1, e2, if_true, if_false, own_n1, own_n0] at * <;> by_cases e4 : (p5 &&& (4 : Int32)) = 0 <;> by_cases e8 : (p5 &&& (8 : Int32)) = 0 <;> by_cases e9 : p1 = p2 <;> by_cases e10 : p3 = p4 <;> simp_all [own_n1, own_n0]
set_option maxRecDepth 65536 in
set_option maxHeartbeats 40000000 in
theorem imp_9 (p1 : Int32) (p2 : Int32) (p3 : Int32) (p4 : Int32) (p5 : Int32) (h1 : (va7 (va1 p5)) = (0 : Int32)) (h2 : (va1 p5) = (0 : Int32)) (h3 : ¬ ((va8 (va4 p5 p4 p3) p3) = (0 : Int32))) (h4 : ¬ ((va7 (va2 p5)) = (0 : Int32))) : (nar .boolean (va13 p1 p5 p2 p3 p4)) = (1 : Int32) := by
  have q1 : ∀ z : Int32, ¬ (z + 1 = z) := own_q1
  have q2 : ∀ z : Int32, ¬ (z + 2 = z) := own_q2
  simp only [va1, va2, va3, va4, va5, va6, va7, va8, va9, va10, va11, va12, va13, va14, va15, va16, va17] at *
  by_cases e1 : (p5 &&& (1 : Int32)) = 0 <;> by_cases e2 : (p5 &&& (2 : Int32)) = 0 <;> simp only [e1, e2, if_true, if_false, own_n1, own_n0] at * <;> by_cases e4 : (p5 &&& (4 : Int32)) = 0 <;> by_cases e8 : (p5 &&& (8 : Int32)) = 0 <;> by_cases e9 : p1 = p2 <;> by_cases e10 : p3 = p4 <;> simp_all [own_n1, own_n0]
set_option maxRecDepth 65536 in
set_option maxHeartbeats 40000000 in
theorem imp_10 (p3 : Int32) (p4 : Int32) (p5 : Int32) (h1 : ¬ ((va7 (va1 p5)) = (0 : Int32))) (h2 : (va14 (va2 p5) p3 (va4 p5 p4 p3)) = (0 : Int32)) : ¬ ((va1 p5) = (0 : Int32)) := by
  have := (by decide : (0 : Int32).toInt = 0)
  have := (by decide : (1 : Int32).toInt = 1)
  have := rng32 p5
  have := c_mask p5 (1 : Int32) 1 (by decide) (by decide)
  have := rng32 (p5 &&& (1 : Int32))
  have : ((p5 &&& (1 : Int32)).toInt = (0 : Int32).toInt ∧ (if (p5 &&& (1 : Int32)) = (0 : Int32) then (0 : Int32) else (1 : Int32)).toInt = (0 : Int32).toInt) ∨ (¬ ((p5 &&& (1 : Int32)).toInt = (0 : Int32).toInt) ∧ (if (p5 &&& (1 : Int32)) = (0 : Int32) then (0 : Int32) else (1 : Int32)).toInt = (1 : Int32).toInt) := by
    by_cases hc : (p5 &&& (1 : Int32)) = (0 : Int32)
    · exact Or.inl ⟨Int32.toInt_inj.symm.mp hc, by rw [if_pos hc]⟩
    · exact Or.inr ⟨fun q => hc (Int32.toInt_inj.symm.mpr q), by rw [if_neg hc]⟩
  have := (congrArg Int32.toInt (show (va1 p5) = (if (p5 &&& (1 : Int32)) = (0 : Int32) then (0 : Int32) else (1 : Int32)) from rfl))
  have : ((va1 p5).toInt = (0 : Int32).toInt ∧ (if (va1 p5) = (0 : Int32) then (0 : Int32) else (1 : Int32)).toInt = (0 : Int32).toInt) ∨ (¬ ((va1 p5).toInt = (0 : Int32).toInt) ∧ (if (va1 p5) = (0 : Int32) then (0 : Int32) else (1 : Int32)).toInt = (1 : Int32).toInt) := by
    by_cases hc : (va1 p5) = (0 : Int32)
    · exact Or.inl ⟨Int32.toInt_inj.symm.mp hc, by rw [if_pos hc]⟩
    · exact Or.inr ⟨fun q => hc (Int32.toInt_inj.symm.mpr q), by rw [if_neg hc]⟩
  have := (congrArg Int32.toInt (show (va7 (va1 p5)) = (if (va1 p5) = (0 : Int32) then (0 : Int32) else (1 : Int32)) from rfl))
  have := rng32 p3
  have := rng32 p4
  have := (by decide : (8 : Int32).toInt = 8)
  have := c_and p5 (8 : Int32)
  have := rng32 (p5 &&& (8 : Int32))
  have : ((p5 &&& (8 : Int32)).toInt = (0 : Int32).toInt ∧ (if (p5 &&& (8 : Int32)) = (0 : Int32) then p4 else p3).toInt = p4.toInt) ∨ (¬ ((p5 &&& (8 : Int32)).toInt = (0 : Int32).toInt) ∧ (if (p5 &&& (8 : Int32)) = (0 : Int32) then p4 else p3).toInt = p3.toInt) := by
    by_cases hc : (p5 &&& (8 : Int32)) = (0 : Int32)
    · exact Or.inl ⟨Int32.toInt_inj.symm.mp hc, by rw [if_pos hc]⟩
    · exact Or.inr ⟨fun q => hc (Int32.toInt_inj.symm.mpr q), by rw [if_neg hc]⟩
  have := (congrArg Int32.toInt (show (va4 p5 p4 p3) = (if (p5 &&& (8 : Int32)) = (0 : Int32) then p4 else p3) from rfl))
  have : (p3.toInt = (va4 p5 p4 p3).toInt ∧ (if p3 = (va4 p5 p4 p3) then (0 : Int32) else (1 : Int32)).toInt = (0 : Int32).toInt) ∨ (¬ (p3.toInt = (va4 p5 p4 p3).toInt) ∧ (if p3 = (va4 p5 p4 p3) then (0 : Int32) else (1 : Int32)).toInt = (1 : Int32).toInt) := by
    by_cases hc : p3 = (va4 p5 p4 p3)
    · exact Or.inl ⟨Int32.toInt_inj.symm.mp hc, by rw [if_pos hc]⟩
    · exact Or.inr ⟨fun q => hc (Int32.toInt_inj.symm.mpr q), by rw [if_neg hc]⟩
  have : (p3.toInt = (va4 p5 p4 p3).toInt ∧ (if p3 = (va4 p5 p4 p3) then (1 : Int32) else (0 : Int32)).toInt = (1 : Int32).toInt) ∨ (¬ (p3.toInt = (va4 p5 p4 p3).toInt) ∧ (if p3 = (va4 p5 p4 p3) then (1 : Int32) else (0 : Int32)).toInt = (0 : Int32).toInt) := by
    by_cases hc : p3 = (va4 p5 p4 p3)
    · exact Or.inl ⟨Int32.toInt_inj.symm.mp hc, by rw [if_pos hc]⟩
    · exact Or.inr ⟨fun q => hc (Int32.toInt_inj.symm.mpr q), by rw [if_neg hc]⟩
  have := (by decide : (2 : Int32).toInt = 2)
  have := c_and p5 (2 : Int32)
  have := rng32 (p5 &&& (2 : Int32))
  have : ((p5 &&& (2 : Int32)).toInt = (0 : Int32).toInt ∧ (if (p5 &&& (2 : Int32)) = (0 : Int32) then (0 : Int32) else (1 : Int32)).toInt = (0 : Int32).toInt) ∨ (¬ ((p5 &&& (2 : Int32)).toInt = (0 : Int32).toInt) ∧ (if (p5 &&& (2 : Int32)) = (0 : Int32) then (0 : Int32) else (1 : Int32)).toInt = (1 : Int32).toInt) := by
    by_cases hc : (p5 &&& (2 : Int32)) = (0 : Int32)
    · exact Or.inl ⟨Int32.toInt_inj.symm.mp hc, by rw [if_pos hc]⟩
    · exact Or.inr ⟨fun q => hc (Int32.toInt_inj.symm.mpr q), by rw [if_neg hc]⟩
  have := (congrArg Int32.toInt (show (va2 p5) = (if (p5 &&& (2 : Int32)) = (0 : Int32) then (0 : Int32) else (1 : Int32)) from rfl))
  have : ((va2 p5).toInt = (0 : Int32).toInt ∧ (if (va2 p5) = (0 : Int32) then (if p3 = (va4 p5 p4 p3) then (0 : Int32) else (1 : Int32)) else (if p3 = (va4 p5 p4 p3) then (1 : Int32) else (0 : Int32))).toInt = (if p3 = (va4 p5 p4 p3) then (0 : Int32) else (1 : Int32)).toInt) ∨ (¬ ((va2 p5).toInt = (0 : Int32).toInt) ∧ (if (va2 p5) = (0 : Int32) then (if p3 = (va4 p5 p4 p3) then (0 : Int32) else (1 : Int32)) else (if p3 = (va4 p5 p4 p3) then (1 : Int32) else (0 : Int32))).toInt = (if p3 = (va4 p5 p4 p3) then (1 : Int32) else (0 : Int32)).toInt) := by
    by_cases hc : (va2 p5) = (0 : Int32)
    · exact Or.inl ⟨Int32.toInt_inj.symm.mp hc, by rw [if_pos hc]⟩
    · exact Or.inr ⟨fun q => hc (Int32.toInt_inj.symm.mpr q), by rw [if_neg hc]⟩
  have := (congrArg Int32.toInt (show (va14 (va2 p5) p3 (va4 p5 p4 p3)) = (if (va2 p5) = (0 : Int32) then (if p3 = (va4 p5 p4 p3) then (0 : Int32) else (1 : Int32)) else (if p3 = (va4 p5 p4 p3) then (1 : Int32) else (0 : Int32))) from rfl))
  have := mt Int32.toInt_inj.mp h1
  have := congrArg Int32.toInt h2
  refine mt (congrArg Int32.toInt) ?_
  omega
set_option maxRecDepth 65536 in
set_option maxHeartbeats 40000000 in
theorem imp_11 (p3 : Int32) (p4 : Int32) (p5 : Int32) (h1 : ¬ ((va7 (va1 p5)) = (0 : Int32))) (h2 : (va14 (va2 p5) p3 (va4 p5 p4 p3)) = (0 : Int32)) (h3 : ¬ ((va1 p5) = (0 : Int32))) (h4 : (va15 (va4 p5 p4 p3) p3) = (0 : Int32)) : ¬ ((va6 p3 p5 p4) = p3) := by
  have := (by decide : (0 : Int32).toInt = 0)
  have := (by decide : (1 : Int32).toInt = 1)
  have := rng32 p5
  have := c_mask p5 (1 : Int32) 1 (by decide) (by decide)
  have := rng32 (p5 &&& (1 : Int32))
  have : ((p5 &&& (1 : Int32)).toInt = (0 : Int32).toInt ∧ (if (p5 &&& (1 : Int32)) = (0 : Int32) then (0 : Int32) else (1 : Int32)).toInt = (0 : Int32).toInt) ∨ (¬ ((p5 &&& (1 : Int32)).toInt = (0 : Int32).toInt) ∧ (if (p5 &&& (1 : Int32)) = (0 : Int32) then (0 : Int32) else (1 : Int32)).toInt = (1 : Int32).toInt) := by
    by_cases hc : (p5 &&& (1 : Int32)) = (0 : Int32)
    · exact Or.inl ⟨Int32.toInt_inj.symm.mp hc, by rw [if_pos hc]⟩
    · exact Or.inr ⟨fun q => hc (Int32.toInt_inj.symm.mpr q), by rw [if_neg hc]⟩
  have := (congrArg Int32.toInt (show (va1 p5) = (if (p5 &&& (1 : Int32)) = (0 : Int32) then (0 : Int32) else (1 : Int32)) from rfl))
  have : ((va1 p5).toInt = (0 : Int32).toInt ∧ (if (va1 p5) = (0 : Int32) then (0 : Int32) else (1 : Int32)).toInt = (0 : Int32).toInt) ∨ (¬ ((va1 p5).toInt = (0 : Int32).toInt) ∧ (if (va1 p5) = (0 : Int32) then (0 : Int32) else (1 : Int32)).toInt = (1 : Int32).toInt) := by
    by_cases hc : (va1 p5) = (0 : Int32)
    · exact Or.inl ⟨Int32.toInt_inj.symm.mp hc, by rw [if_pos hc]⟩
    · exact Or.inr ⟨fun q => hc (Int32.toInt_inj.symm.mpr q), by rw [if_neg hc]⟩
  have := (congrArg Int32.toInt (show (va7 (va1 p5)) = (if (va1 p5) = (0 : Int32) then (0 : Int32) else (1 : Int32)) from rfl))
  have := rng32 p3
  have := rng32 p4
  have := (by decide : (8 : Int32).toInt = 8)
  have := c_and p5 (8 : Int32)
  have := rng32 (p5 &&& (8 : Int32))
  have : ((p5 &&& (8 : Int32)).toInt = (0 : Int32).toInt ∧ (if (p5 &&& (8 : Int32)) = (0 : Int32) then p4 else p3).toInt = p4.toInt) ∨ (¬ ((p5 &&& (8 : Int32)).toInt = (0 : Int32).toInt) ∧ (if (p5 &&& (8 : Int32)) = (0 : Int32) then p4 else p3).toInt = p3.toInt) := by
    by_cases hc : (p5 &&& (8 : Int32)) = (0 : Int32)
    · exact Or.inl ⟨Int32.toInt_inj.symm.mp hc, by rw [if_pos hc]⟩
    · exact Or.inr ⟨fun q => hc (Int32.toInt_inj.symm.mpr q), by rw [if_neg hc]⟩
  have := (congrArg Int32.toInt (show (va4 p5 p4 p3) = (if (p5 &&& (8 : Int32)) = (0 : Int32) then p4 else p3) from rfl))
  have : (p3.toInt = (va4 p5 p4 p3).toInt ∧ (if p3 = (va4 p5 p4 p3) then (0 : Int32) else (1 : Int32)).toInt = (0 : Int32).toInt) ∨ (¬ (p3.toInt = (va4 p5 p4 p3).toInt) ∧ (if p3 = (va4 p5 p4 p3) then (0 : Int32) else (1 : Int32)).toInt = (1 : Int32).toInt) := by
    by_cases hc : p3 = (va4 p5 p4 p3)
    · exact Or.inl ⟨Int32.toInt_inj.symm.mp hc, by rw [if_pos hc]⟩
    · exact Or.inr ⟨fun q => hc (Int32.toInt_inj.symm.mpr q), by rw [if_neg hc]⟩
  have : (p3.toInt = (va4 p5 p4 p3).toInt ∧ (if p3 = (va4 p5 p4 p3) then (1 : Int32) else (0 : Int32)).toInt = (1 : Int32).toInt) ∨ (¬ (p3.toInt = (va4 p5 p4 p3).toInt) ∧ (if p3 = (va4 p5 p4 p3) then (1 : Int32) else (0 : Int32)).toInt = (0 : Int32).toInt) := by
    by_cases hc : p3 = (va4 p5 p4 p3)
    · exact Or.inl ⟨Int32.toInt_inj.symm.mp hc, by rw [if_pos hc]⟩
    · exact Or.inr ⟨fun q => hc (Int32.toInt_inj.symm.mpr q), by rw [if_neg hc]⟩
  have := (by decide : (2 : Int32).toInt = 2)
  have := c_and p5 (2 : Int32)
  have := rng32 (p5 &&& (2 : Int32))
  have : ((p5 &&& (2 : Int32)).toInt = (0 : Int32).toInt ∧ (if (p5 &&& (2 : Int32)) = (0 : Int32) then (0 : Int32) else (1 : Int32)).toInt = (0 : Int32).toInt) ∨ (¬ ((p5 &&& (2 : Int32)).toInt = (0 : Int32).toInt) ∧ (if (p5 &&& (2 : Int32)) = (0 : Int32) then (0 : Int32) else (1 : Int32)).toInt = (1 : Int32).toInt) := by
    by_cases hc : (p5 &&& (2 : Int32)) = (0 : Int32)
    · exact Or.inl ⟨Int32.toInt_inj.symm.mp hc, by rw [if_pos hc]⟩
    · exact Or.inr ⟨fun q => hc (Int32.toInt_inj.symm.mpr q), by rw [if_neg hc]⟩
  have := (congrArg Int32.toInt (show (va2 p5) = (if (p5 &&& (2 : Int32)) = (0 : Int32) then (0 : Int32) else (1 : Int32)) from rfl))
  have : ((va2 p5).toInt = (0 : Int32).toInt ∧ (if (va2 p5) = (0 : Int32) then (if p3 = (va4 p5 p4 p3) then (0 : Int32) else (1 : Int32)) else (if p3 = (va4 p5 p4 p3) then (1 : Int32) else (0 : Int32))).toInt = (if p3 = (va4 p5 p4 p3) then (0 : Int32) else (1 : Int32)).toInt) ∨ (¬ ((va2 p5).toInt = (0 : Int32).toInt) ∧ (if (va2 p5) = (0 : Int32) then (if p3 = (va4 p5 p4 p3) then (0 : Int32) else (1 : Int32)) else (if p3 = (va4 p5 p4 p3) then (1 : Int32) else (0 : Int32))).toInt = (if p3 = (va4 p5 p4 p3) then (1 : Int32) else (0 : Int32)).toInt) := by
    by_cases hc : (va2 p5) = (0 : Int32)
    · exact Or.inl ⟨Int32.toInt_inj.symm.mp hc, by rw [if_pos hc]⟩
    · exact Or.inr ⟨fun q => hc (Int32.toInt_inj.symm.mpr q), by rw [if_neg hc]⟩
  have := (congrArg Int32.toInt (show (va14 (va2 p5) p3 (va4 p5 p4 p3)) = (if (va2 p5) = (0 : Int32) then (if p3 = (va4 p5 p4 p3) then (0 : Int32) else (1 : Int32)) else (if p3 = (va4 p5 p4 p3) then (1 : Int32) else (0 : Int32))) from rfl))
  have : ((va4 p5 p4 p3).toInt = p3.toInt ∧ (if (va4 p5 p4 p3) = p3 then (1 : Int32) else (0 : Int32)).toInt = (1 : Int32).toInt) ∨ (¬ ((va4 p5 p4 p3).toInt = p3.toInt) ∧ (if (va4 p5 p4 p3) = p3 then (1 : Int32) else (0 : Int32)).toInt = (0 : Int32).toInt) := by
    by_cases hc : (va4 p5 p4 p3) = p3
    · exact Or.inl ⟨Int32.toInt_inj.symm.mp hc, by rw [if_pos hc]⟩
    · exact Or.inr ⟨fun q => hc (Int32.toInt_inj.symm.mpr q), by rw [if_neg hc]⟩
  have := (congrArg Int32.toInt (show (va15 (va4 p5 p4 p3) p3) = (if (va4 p5 p4 p3) = p3 then (1 : Int32) else (0 : Int32)) from rfl))
  have := c_iadd p3 (2 : Int32)
  have := rng32 (p3 + (2 : Int32))
  have := c_iadd p3 (1 : Int32)
  have := rng32 (p3 + (1 : Int32))
  have : ((p3 + (1 : Int32)).toInt = (va4 p5 p4 p3).toInt ∧ (if (p3 + (1 : Int32)) = (va4 p5 p4 p3) then (p3 + (2 : Int32)) else (p3 + (1 : Int32))).toInt = (p3 + (2 : Int32)).toInt) ∨ (¬ ((p3 + (1 : Int32)).toInt = (va4 p5 p4 p3).toInt) ∧ (if (p3 + (1 : Int32)) = (va4 p5 p4 p3) then (p3 + (2 : Int32)) else (p3 + (1 : Int32))).toInt = (p3 + (1 : Int32)).toInt) := by
    by_cases hc : (p3 + (1 : Int32)) = (va4 p5 p4 p3)
    · exact Or.inl ⟨Int32.toInt_inj.symm.mp hc, by rw [if_pos hc]⟩
    · exact Or.inr ⟨fun q => hc (Int32.toInt_inj.symm.mpr q), by rw [if_neg hc]⟩
  have := (congrArg Int32.toInt (show (va6 p3 p5 p4) = (if (p3 + (1 : Int32)) = (va4 p5 p4 p3) then (p3 + (2 : Int32)) else (p3 + (1 : Int32))) from rfl))
  have := mt Int32.toInt_inj.mp h1
  have := congrArg Int32.toInt h2
  have := mt Int32.toInt_inj.mp h3
  have := congrArg Int32.toInt h4
  refine mt (congrArg Int32.toInt) ?_
  omega
set_option maxRecDepth 65536 in
set_option maxHeartbeats 40000000 in
theorem imp_12 (p1 : Int32) (p2 : Int32) (p3 : Int32) (p4 : Int32) (p5 : Int32) (h1 : ¬ ((va7 (va1 p5)) = (0 : Int32))) (h2 : (va14 (va2 p5) p3 (va4 p5 p4 p3)) = (0 : Int32)) (h3 : ¬ ((va1 p5) = (0 : Int32))) (h4 : (va15 (va4 p5 p4 p3) p3) = (0 : Int32)) (h5 : ¬ ((va6 p3 p5 p4) = p3)) : (nar .boolean (va17 p1 p5 p2 p3 p4)) = (1 : Int32) := by
  have q1 : ∀ z : Int32, ¬ (z + 1 = z) := own_q1
  have q2 : ∀ z : Int32, ¬ (z + 2 = z) := own_q2
  simp only [va1, va2, va3, va4, va5, va6, va7, va8, va9, va10, va11, va12, va13, va14, va15, va16, va17] at *
  by_cases e1 : (p5 &&& (1 : Int32)) = 0 <;> by_cases e2 : (p5 &&& (2 : Int32)) = 0 <;> simp only [e1, e2, if_true, if_false, own_n1, own_n0] at * <;> by_cases e4 : (p5 &&& (4 : Int32)) = 0 <;> by_cases e8 : (p5 &&& (8 : Int32)) = 0 <;> by_cases e9 : p1 = p2 <;> by_cases e10 : p3 = p4 <;> simp_all [own_n1, own_n0]
set_option maxRecDepth 65536 in
set_option maxHeartbeats 40000000 in
theorem imp_13 (p3 : Int32) (p4 : Int32) (p5 : Int32) (h1 : ¬ ((va7 (va1 p5)) = (0 : Int32))) (h2 : (va14 (va2 p5) p3 (va4 p5 p4 p3)) = (0 : Int32)) (h3 : ¬ ((va1 p5) = (0 : Int32))) (h4 : ¬ ((va15 (va4 p5 p4 p3) p3) = (0 : Int32))) : (va2 p5) = (0 : Int32) := by
  have := (by decide : (0 : Int32).toInt = 0)
  have := (by decide : (1 : Int32).toInt = 1)
  have := rng32 p5
  have := c_mask p5 (1 : Int32) 1 (by decide) (by decide)
  have := rng32 (p5 &&& (1 : Int32))
  have : ((p5 &&& (1 : Int32)).toInt = (0 : Int32).toInt ∧ (if (p5 &&& (1 : Int32)) = (0 : Int32) then (0 : Int32) else (1 : Int32)).toInt = (0 : Int32).toInt) ∨ (¬ ((p5 &&& (1 : Int32)).toInt = (0 : Int32).toInt) ∧ (if (p5 &&& (1 : Int32)) = (0 : Int32) then (0 : Int32) else (1 : Int32)).toInt = (1 : Int32).toInt) := by
    by_cases hc : (p5 &&& (1 : Int32)) = (0 : Int32)
    · exact Or.inl ⟨Int32.toInt_inj.symm.mp hc, by rw [if_pos hc]⟩
    · exact Or.inr ⟨fun q => hc (Int32.toInt_inj.symm.mpr q), by rw [if_neg hc]⟩
  have := (congrArg Int32.toInt (show (va1 p5) = (if (p5 &&& (1 : Int32)) = (0 : Int32) then (0 : Int32) else (1 : Int32)) from rfl))
  have : ((va1 p5).toInt = (0 : Int32).toInt ∧ (if (va1 p5) = (0 : Int32) then (0 : Int32) else (1 : Int32)).toInt = (0 : Int32).toInt) ∨ (¬ ((va1 p5).toInt = (0 : Int32).toInt) ∧ (if (va1 p5) = (0 : Int32) then (0 : Int32) else (1 : Int32)).toInt = (1 : Int32).toInt) := by
    by_cases hc : (va1 p5) = (0 : Int32)
    · exact Or.inl ⟨Int32.toInt_inj.symm.mp hc, by rw [if_pos hc]⟩
    · exact Or.inr ⟨fun q => hc (Int32.toInt_inj.symm.mpr q), by rw [if_neg hc]⟩
  have := (congrArg Int32.toInt (show (va7 (va1 p5)) = (if (va1 p5) = (0 : Int32) then (0 : Int32) else (1 : Int32)) from rfl))
  have := rng32 p3
  have := rng32 p4
  have := (by decide : (8 : Int32).toInt = 8)
  have := c_and p5 (8 : Int32)
  have := rng32 (p5 &&& (8 : Int32))
  have : ((p5 &&& (8 : Int32)).toInt = (0 : Int32).toInt ∧ (if (p5 &&& (8 : Int32)) = (0 : Int32) then p4 else p3).toInt = p4.toInt) ∨ (¬ ((p5 &&& (8 : Int32)).toInt = (0 : Int32).toInt) ∧ (if (p5 &&& (8 : Int32)) = (0 : Int32) then p4 else p3).toInt = p3.toInt) := by
    by_cases hc : (p5 &&& (8 : Int32)) = (0 : Int32)
    · exact Or.inl ⟨Int32.toInt_inj.symm.mp hc, by rw [if_pos hc]⟩
    · exact Or.inr ⟨fun q => hc (Int32.toInt_inj.symm.mpr q), by rw [if_neg hc]⟩
  have := (congrArg Int32.toInt (show (va4 p5 p4 p3) = (if (p5 &&& (8 : Int32)) = (0 : Int32) then p4 else p3) from rfl))
  have : (p3.toInt = (va4 p5 p4 p3).toInt ∧ (if p3 = (va4 p5 p4 p3) then (0 : Int32) else (1 : Int32)).toInt = (0 : Int32).toInt) ∨ (¬ (p3.toInt = (va4 p5 p4 p3).toInt) ∧ (if p3 = (va4 p5 p4 p3) then (0 : Int32) else (1 : Int32)).toInt = (1 : Int32).toInt) := by
    by_cases hc : p3 = (va4 p5 p4 p3)
    · exact Or.inl ⟨Int32.toInt_inj.symm.mp hc, by rw [if_pos hc]⟩
    · exact Or.inr ⟨fun q => hc (Int32.toInt_inj.symm.mpr q), by rw [if_neg hc]⟩
  have : (p3.toInt = (va4 p5 p4 p3).toInt ∧ (if p3 = (va4 p5 p4 p3) then (1 : Int32) else (0 : Int32)).toInt = (1 : Int32).toInt) ∨ (¬ (p3.toInt = (va4 p5 p4 p3).toInt) ∧ (if p3 = (va4 p5 p4 p3) then (1 : Int32) else (0 : Int32)).toInt = (0 : Int32).toInt) := by
    by_cases hc : p3 = (va4 p5 p4 p3)
    · exact Or.inl ⟨Int32.toInt_inj.symm.mp hc, by rw [if_pos hc]⟩
    · exact Or.inr ⟨fun q => hc (Int32.toInt_inj.symm.mpr q), by rw [if_neg hc]⟩
  have := (by decide : (2 : Int32).toInt = 2)
  have := c_and p5 (2 : Int32)
  have := rng32 (p5 &&& (2 : Int32))
  have : ((p5 &&& (2 : Int32)).toInt = (0 : Int32).toInt ∧ (if (p5 &&& (2 : Int32)) = (0 : Int32) then (0 : Int32) else (1 : Int32)).toInt = (0 : Int32).toInt) ∨ (¬ ((p5 &&& (2 : Int32)).toInt = (0 : Int32).toInt) ∧ (if (p5 &&& (2 : Int32)) = (0 : Int32) then (0 : Int32) else (1 : Int32)).toInt = (1 : Int32).toInt) := by
    by_cases hc : (p5 &&& (2 : Int32)) = (0 : Int32)
    · exact Or.inl ⟨Int32.toInt_inj.symm.mp hc, by rw [if_pos hc]⟩
    · exact Or.inr ⟨fun q => hc (Int32.toInt_inj.symm.mpr q), by rw [if_neg hc]⟩
  have := (congrArg Int32.toInt (show (va2 p5) = (if (p5 &&& (2 : Int32)) = (0 : Int32) then (0 : Int32) else (1 : Int32)) from rfl))
  have : ((va2 p5).toInt = (0 : Int32).toInt ∧ (if (va2 p5) = (0 : Int32) then (if p3 = (va4 p5 p4 p3) then (0 : Int32) else (1 : Int32)) else (if p3 = (va4 p5 p4 p3) then (1 : Int32) else (0 : Int32))).toInt = (if p3 = (va4 p5 p4 p3) then (0 : Int32) else (1 : Int32)).toInt) ∨ (¬ ((va2 p5).toInt = (0 : Int32).toInt) ∧ (if (va2 p5) = (0 : Int32) then (if p3 = (va4 p5 p4 p3) then (0 : Int32) else (1 : Int32)) else (if p3 = (va4 p5 p4 p3) then (1 : Int32) else (0 : Int32))).toInt = (if p3 = (va4 p5 p4 p3) then (1 : Int32) else (0 : Int32)).toInt) := by
    by_cases hc : (va2 p5) = (0 : Int32)
    · exact Or.inl ⟨Int32.toInt_inj.symm.mp hc, by rw [if_pos hc]⟩
    · exact Or.inr ⟨fun q => hc (Int32.toInt_inj.symm.mpr q), by rw [if_neg hc]⟩
  have := (congrArg Int32.toInt (show (va14 (va2 p5) p3 (va4 p5 p4 p3)) = (if (va2 p5) = (0 : Int32) then (if p3 = (va4 p5 p4 p3) then (0 : Int32) else (1 : Int32)) else (if p3 = (va4 p5 p4 p3) then (1 : Int32) else (0 : Int32))) from rfl))
  have : ((va4 p5 p4 p3).toInt = p3.toInt ∧ (if (va4 p5 p4 p3) = p3 then (1 : Int32) else (0 : Int32)).toInt = (1 : Int32).toInt) ∨ (¬ ((va4 p5 p4 p3).toInt = p3.toInt) ∧ (if (va4 p5 p4 p3) = p3 then (1 : Int32) else (0 : Int32)).toInt = (0 : Int32).toInt) := by
    by_cases hc : (va4 p5 p4 p3) = p3
    · exact Or.inl ⟨Int32.toInt_inj.symm.mp hc, by rw [if_pos hc]⟩
    · exact Or.inr ⟨fun q => hc (Int32.toInt_inj.symm.mpr q), by rw [if_neg hc]⟩
  have := (congrArg Int32.toInt (show (va15 (va4 p5 p4 p3) p3) = (if (va4 p5 p4 p3) = p3 then (1 : Int32) else (0 : Int32)) from rfl))
  have := mt Int32.toInt_inj.mp h1
  have := congrArg Int32.toInt h2
  have := mt Int32.toInt_inj.mp h3
  have := mt Int32.toInt_inj.mp h4
  apply Int32.toInt_inj.mp
  omega
set_option maxRecDepth 65536 in
set_option maxHeartbeats 40000000 in
theorem imp_14 (p3 : Int32) (p4 : Int32) (p5 : Int32) (h1 : ¬ ((va7 (va1 p5)) = (0 : Int32))) (h2 : (va14 (va2 p5) p3 (va4 p5 p4 p3)) = (0 : Int32)) (h3 : ¬ ((va1 p5) = (0 : Int32))) (h4 : ¬ ((va15 (va4 p5 p4 p3) p3) = (0 : Int32))) (h5 : (va2 p5) = (0 : Int32)) : ¬ ((va6 p3 p5 p4) = p3) := by
  have := (by decide : (0 : Int32).toInt = 0)
  have := (by decide : (1 : Int32).toInt = 1)
  have := rng32 p5
  have := c_mask p5 (1 : Int32) 1 (by decide) (by decide)
  have := rng32 (p5 &&& (1 : Int32))
  have : ((p5 &&& (1 : Int32)).toInt = (0 : Int32).toInt ∧ (if (p5 &&& (1 : Int32)) = (0 : Int32) then (0 : Int32) else (1 : Int32)).toInt = (0 : Int32).toInt) ∨ (¬ ((p5 &&& (1 : Int32)).toInt = (0 : Int32).toInt) ∧ (if (p5 &&& (1 : Int32)) = (0 : Int32) then (0 : Int32) else (1 : Int32)).toInt = (1 : Int32).toInt) := by
    by_cases hc : (p5 &&& (1 : Int32)) = (0 : Int32)
    · exact Or.inl ⟨Int32.toInt_inj.symm.mp hc, by rw [if_pos hc]⟩
    · exact Or.inr ⟨fun q => hc (Int32.toInt_inj.symm.mpr q), by rw [if_neg hc]⟩
  have := (congrArg Int32.toInt (show (va1 p5) = (if (p5 &&& (1 : Int32)) = (0 : Int32) then (0 : Int32) else (1 : Int32)) from rfl))
  have : ((va1 p5).toInt = (0 : Int32).toInt ∧ (if (va1 p5) = (0 : Int32) then (0 : Int32) else (1 : Int32)).toInt = (0 : Int32).toInt) ∨ (¬ ((va1 p5).toInt = (0 : Int32).toInt) ∧ (if (va1 p5) = (0 : Int32) then (0 : Int32) else (1 : Int32)).toInt = (1 : Int32).toInt) := by
    by_cases hc : (va1 p5) = (0 : Int32)
    · exact Or.inl ⟨Int32.toInt_inj.symm.mp hc, by rw [if_pos hc]⟩
    · exact Or.inr ⟨fun q => hc (Int32.toInt_inj.symm.mpr q), by rw [if_neg hc]⟩
  have := (congrArg Int32.toInt (show (va7 (va1 p5)) = (if (va1 p5) = (0 : Int32) then (0 : Int32) else (1 : Int32)) from rfl))
  have := rng32 p3
  have := rng32 p4
  have := (by decide : (8 : Int32).toInt = 8)
  have := c_and p5 (8 : Int32)
  have := rng32 (p5 &&& (8 : Int32))
  have : ((p5 &&& (8 : Int32)).toInt = (0 : Int32).toInt ∧ (if (p5 &&& (8 : Int32)) = (0 : Int32) then p4 else p3).toInt = p4.toInt) ∨ (¬ ((p5 &&& (8 : Int32)).toInt = (0 : Int32).toInt) ∧ (if (p5 &&& (8 : Int32)) = (0 : Int32) then p4 else p3).toInt = p3.toInt) := by
    by_cases hc : (p5 &&& (8 : Int32)) = (0 : Int32)
    · exact Or.inl ⟨Int32.toInt_inj.symm.mp hc, by rw [if_pos hc]⟩
    · exact Or.inr ⟨fun q => hc (Int32.toInt_inj.symm.mpr q), by rw [if_neg hc]⟩
  have := (congrArg Int32.toInt (show (va4 p5 p4 p3) = (if (p5 &&& (8 : Int32)) = (0 : Int32) then p4 else p3) from rfl))
  have : (p3.toInt = (va4 p5 p4 p3).toInt ∧ (if p3 = (va4 p5 p4 p3) then (0 : Int32) else (1 : Int32)).toInt = (0 : Int32).toInt) ∨ (¬ (p3.toInt = (va4 p5 p4 p3).toInt) ∧ (if p3 = (va4 p5 p4 p3) then (0 : Int32) else (1 : Int32)).toInt = (1 : Int32).toInt) := by
    by_cases hc : p3 = (va4 p5 p4 p3)
    · exact Or.inl ⟨Int32.toInt_inj.symm.mp hc, by rw [if_pos hc]⟩
    · exact Or.inr ⟨fun q => hc (Int32.toInt_inj.symm.mpr q), by rw [if_neg hc]⟩
  have : (p3.toInt = (va4 p5 p4 p3).toInt ∧ (if p3 = (va4 p5 p4 p3) then (1 : Int32) else (0 : Int32)).toInt = (1 : Int32).toInt) ∨ (¬ (p3.toInt = (va4 p5 p4 p3).toInt) ∧ (if p3 = (va4 p5 p4 p3) then (1 : Int32) else (0 : Int32)).toInt = (0 : Int32).toInt) := by
    by_cases hc : p3 = (va4 p5 p4 p3)
    · exact Or.inl ⟨Int32.toInt_inj.symm.mp hc, by rw [if_pos hc]⟩
    · exact Or.inr ⟨fun q => hc (Int32.toInt_inj.symm.mpr q), by rw [if_neg hc]⟩
  have := (by decide : (2 : Int32).toInt = 2)
  have := c_and p5 (2 : Int32)
  have := rng32 (p5 &&& (2 : Int32))
  have : ((p5 &&& (2 : Int32)).toInt = (0 : Int32).toInt ∧ (if (p5 &&& (2 : Int32)) = (0 : Int32) then (0 : Int32) else (1 : Int32)).toInt = (0 : Int32).toInt) ∨ (¬ ((p5 &&& (2 : Int32)).toInt = (0 : Int32).toInt) ∧ (if (p5 &&& (2 : Int32)) = (0 : Int32) then (0 : Int32) else (1 : Int32)).toInt = (1 : Int32).toInt) := by
    by_cases hc : (p5 &&& (2 : Int32)) = (0 : Int32)
    · exact Or.inl ⟨Int32.toInt_inj.symm.mp hc, by rw [if_pos hc]⟩
    · exact Or.inr ⟨fun q => hc (Int32.toInt_inj.symm.mpr q), by rw [if_neg hc]⟩
  have := (congrArg Int32.toInt (show (va2 p5) = (if (p5 &&& (2 : Int32)) = (0 : Int32) then (0 : Int32) else (1 : Int32)) from rfl))
  have : ((va2 p5).toInt = (0 : Int32).toInt ∧ (if (va2 p5) = (0 : Int32) then (if p3 = (va4 p5 p4 p3) then (0 : Int32) else (1 : Int32)) else (if p3 = (va4 p5 p4 p3) then (1 : Int32) else (0 : Int32))).toInt = (if p3 = (va4 p5 p4 p3) then (0 : Int32) else (1 : Int32)).toInt) ∨ (¬ ((va2 p5).toInt = (0 : Int32).toInt) ∧ (if (va2 p5) = (0 : Int32) then (if p3 = (va4 p5 p4 p3) then (0 : Int32) else (1 : Int32)) else (if p3 = (va4 p5 p4 p3) then (1 : Int32) else (0 : Int32))).toInt = (if p3 = (va4 p5 p4 p3) then (1 : Int32) else (0 : Int32)).toInt) := by
    by_cases hc : (va2 p5) = (0 : Int32)
    · exact Or.inl ⟨Int32.toInt_inj.symm.mp hc, by rw [if_pos hc]⟩
    · exact Or.inr ⟨fun q => hc (Int32.toInt_inj.symm.mpr q), by rw [if_neg hc]⟩
  have := (congrArg Int32.toInt (show (va14 (va2 p5) p3 (va4 p5 p4 p3)) = (if (va2 p5) = (0 : Int32) then (if p3 = (va4 p5 p4 p3) then (0 : Int32) else (1 : Int32)) else (if p3 = (va4 p5 p4 p3) then (1 : Int32) else (0 : Int32))) from rfl))
  have : ((va4 p5 p4 p3).toInt = p3.toInt ∧ (if (va4 p5 p4 p3) = p3 then (1 : Int32) else (0 : Int32)).toInt = (1 : Int32).toInt) ∨ (¬ ((va4 p5 p4 p3).toInt = p3.toInt) ∧ (if (va4 p5 p4 p3) = p3 then (1 : Int32) else (0 : Int32)).toInt = (0 : Int32).toInt) := by
    by_cases hc : (va4 p5 p4 p3) = p3
    · exact Or.inl ⟨Int32.toInt_inj.symm.mp hc, by rw [if_pos hc]⟩
    · exact Or.inr ⟨fun q => hc (Int32.toInt_inj.symm.mpr q), by rw [if_neg hc]⟩
  have := (congrArg Int32.toInt (show (va15 (va4 p5 p4 p3) p3) = (if (va4 p5 p4 p3) = p3 then (1 : Int32) else (0 : Int32)) from rfl))
  have := c_iadd p3 (2 : Int32)
  have := rng32 (p3 + (2 : Int32))
  have := c_iadd p3 (1 : Int32)
  have := rng32 (p3 + (1 : Int32))
  have : ((p3 + (1 : Int32)).toInt = (va4 p5 p4 p3).toInt ∧ (if (p3 + (1 : Int32)) = (va4 p5 p4 p3) then (p3 + (2 : Int32)) else (p3 + (1 : Int32))).toInt = (p3 + (2 : Int32)).toInt) ∨ (¬ ((p3 + (1 : Int32)).toInt = (va4 p5 p4 p3).toInt) ∧ (if (p3 + (1 : Int32)) = (va4 p5 p4 p3) then (p3 + (2 : Int32)) else (p3 + (1 : Int32))).toInt = (p3 + (1 : Int32)).toInt) := by
    by_cases hc : (p3 + (1 : Int32)) = (va4 p5 p4 p3)
    · exact Or.inl ⟨Int32.toInt_inj.symm.mp hc, by rw [if_pos hc]⟩
    · exact Or.inr ⟨fun q => hc (Int32.toInt_inj.symm.mpr q), by rw [if_neg hc]⟩
  have := (congrArg Int32.toInt (show (va6 p3 p5 p4) = (if (p3 + (1 : Int32)) = (va4 p5 p4 p3) then (p3 + (2 : Int32)) else (p3 + (1 : Int32))) from rfl))
  have := mt Int32.toInt_inj.mp h1
  have := congrArg Int32.toInt h2
  have := mt Int32.toInt_inj.mp h3
  have := mt Int32.toInt_inj.mp h4
  have := congrArg Int32.toInt h5
  refine mt (congrArg Int32.toInt) ?_
  omega
set_option maxRecDepth 65536 in
set_option maxHeartbeats 40000000 in
theorem imp_15 (p1 : Int32) (p2 : Int32) (p3 : Int32) (p4 : Int32) (p5 : Int32) (h1 : ¬ ((va7 (va1 p5)) = (0 : Int32))) (h2 : (va14 (va2 p5) p3 (va4 p5 p4 p3)) = (0 : Int32)) (h3 : ¬ ((va1 p5) = (0 : Int32))) (h4 : ¬ ((va15 (va4 p5 p4 p3) p3) = (0 : Int32))) (h5 : (va2 p5) = (0 : Int32)) (h6 : ¬ ((va6 p3 p5 p4) = p3)) : (nar .boolean (va17 p1 p5 p2 p3 p4)) = (1 : Int32) := by
  have q1 : ∀ z : Int32, ¬ (z + 1 = z) := own_q1
  have q2 : ∀ z : Int32, ¬ (z + 2 = z) := own_q2
  simp only [va1, va2, va3, va4, va5, va6, va7, va8, va9, va10, va11, va12, va13, va14, va15, va16, va17] at *
  by_cases e1 : (p5 &&& (1 : Int32)) = 0 <;> by_cases e2 : (p5 &&& (2 : Int32)) = 0 <;> simp only [e1, e2, if_true, if_false, own_n1, own_n0] at * <;> by_cases e4 : (p5 &&& (4 : Int32)) = 0 <;> by_cases e8 : (p5 &&& (8 : Int32)) = 0 <;> by_cases e9 : p1 = p2 <;> by_cases e10 : p3 = p4 <;> simp_all [own_n1, own_n0]
set_option maxRecDepth 65536 in
set_option maxHeartbeats 40000000 in
theorem imp_16 (p1 : Int32) (p2 : Int32) (p3 : Int32) (p4 : Int32) (p5 : Int32) (h1 : ¬ ((va7 (va1 p5)) = (0 : Int32))) (h2 : ¬ ((va14 (va2 p5) p3 (va4 p5 p4 p3)) = (0 : Int32))) : (nar .boolean (va13 p1 p5 p2 p3 p4)) = (1 : Int32) := by
  have q1 : ∀ z : Int32, ¬ (z + 1 = z) := own_q1
  have q2 : ∀ z : Int32, ¬ (z + 2 = z) := own_q2
  simp only [va1, va2, va3, va4, va5, va6, va7, va8, va9, va10, va11, va12, va13, va14, va15, va16, va17] at *
  by_cases e1 : (p5 &&& (1 : Int32)) = 0 <;> by_cases e2 : (p5 &&& (2 : Int32)) = 0 <;> simp only [e1, e2, if_true, if_false, own_n1, own_n0] at * <;> by_cases e4 : (p5 &&& (4 : Int32)) = 0 <;> by_cases e8 : (p5 &&& (8 : Int32)) = 0 <;> by_cases e9 : p1 = p2 <;> by_cases e10 : p3 = p4 <;> simp_all [own_n1, own_n0]
set_option maxRecDepth 65536 in
set_option maxHeartbeats 40000000 in
theorem rm0 (l : Launch) (Z : State) (a0 : Array Value) (hw : ∀ d ∈ tables_1, d.before a0 Z = true) (ws : List Jvm.Cond) (p1 : Int32) (p2 : Int32) (p3 : Int32) (p4 : Int32) (p5 : Int32) (h0 : Heap) (n0 : Nat) (Z0 : n0 ≤ h0.size) :
    MetFree l x (head1 (Jvm.Cond.code x code maxLocals ret :: ws) room_1) (fun a U => a = #[(.int p1), (.int p2), (.int p3), (.int p4), (.int p5)] ∧ Z.Warmed39 U.vm ∧ U.heap = h0) (fun _ _ _ _ _ => True) (fun _ U o U' => ∃ v L, o = .returned v ∧ Q0 h0 n0 v U'.heap L ∧ FrameEnd U o U' L 16 128) := by
  by_cases H1 : (va7 (va1 p5)) = (0 : Int32)
  ·
    have H2 : (va1 p5) = (0 : Int32) := by
      exact imp_1 p5 H1
    by_cases H3 : (va8 (va4 p5 p4 p3) p3) = (0 : Int32)
    ·
      have H4 : ¬ ((va6 p3 p5 p4) = p3) := by
        exact imp_2 p3 p4 p5 H1 H2 H3
      have H5 : ¬ ((va6 p3 p5 p4) = (va4 p5 p4 p3)) := by
        exact imp_3 p3 p4 p5 H1 H2 H3 H4
      have H6 : (nar .boolean (va12 p1 p5 p2 p3 p4)) = (1 : Int32) := by
        exact imp_4 p1 p2 p3 p4 p5 H1 H2 H3 H4 H5
      exact rm0_0 l Z a0 hw ws p1 p2 p3 p4 p5 h0 n0 Z0 H1 H2 H3 H4 H5 H6
    ·
      by_cases H4 : (va7 (va2 p5)) = (0 : Int32)
      ·
        have H5 : ¬ ((va6 p3 p5 p4) = p3) := by
          exact imp_5 p3 p4 p5 H1 H2 H3 H4
        have H6 : (va2 p5) = (0 : Int32) := by
          exact imp_6 p3 p4 p5 H1 H2 H3 H4 H5
        have H7 : ¬ ((va6 p3 p5 p4) = (va4 p5 p4 p3)) := by
          exact imp_7 p3 p4 p5 H1 H2 H3 H4 H5 H6
        have H8 : (nar .boolean (va13 p1 p5 p2 p3 p4)) = (1 : Int32) := by
          exact imp_8 p1 p2 p3 p4 p5 H1 H2 H3 H4 H5 H6 H7
        exact rm0_1 l Z a0 hw ws p1 p2 p3 p4 p5 h0 n0 Z0 H1 H2 H3 H4 H5 H6 H7 H8
      ·
        have H5 : (nar .boolean (va13 p1 p5 p2 p3 p4)) = (1 : Int32) := by
          exact imp_9 p1 p2 p3 p4 p5 H1 H2 H3 H4
        exact rm0_2 l Z a0 hw ws p1 p2 p3 p4 p5 h0 n0 Z0 H1 H2 H3 H4 H5
  ·
    by_cases H2 : (va14 (va2 p5) p3 (va4 p5 p4 p3)) = (0 : Int32)
    ·
      have H3 : ¬ ((va1 p5) = (0 : Int32)) := by
        exact imp_10 p3 p4 p5 H1 H2
      by_cases H4 : (va15 (va4 p5 p4 p3) p3) = (0 : Int32)
      ·
        have H5 : ¬ ((va6 p3 p5 p4) = p3) := by
          exact imp_11 p3 p4 p5 H1 H2 H3 H4
        have H6 : (nar .boolean (va17 p1 p5 p2 p3 p4)) = (1 : Int32) := by
          exact imp_12 p1 p2 p3 p4 p5 H1 H2 H3 H4 H5
        exact rm0_3 l Z a0 hw ws p1 p2 p3 p4 p5 h0 n0 Z0 H1 H2 H3 H4 H5 H6
      ·
        have H5 : (va2 p5) = (0 : Int32) := by
          exact imp_13 p3 p4 p5 H1 H2 H3 H4
        have H6 : ¬ ((va6 p3 p5 p4) = p3) := by
          exact imp_14 p3 p4 p5 H1 H2 H3 H4 H5
        have H7 : (nar .boolean (va17 p1 p5 p2 p3 p4)) = (1 : Int32) := by
          exact imp_15 p1 p2 p3 p4 p5 H1 H2 H3 H4 H5 H6
        exact rm0_4 l Z a0 hw ws p1 p2 p3 p4 p5 h0 n0 Z0 H1 H2 H3 H4 H5 H6 H7
    ·
      have H3 : (nar .boolean (va13 p1 p5 p2 p3 p4)) = (1 : Int32) := by
        exact imp_16 p1 p2 p3 p4 p5 H1 H2
      exact rm0_5 l Z a0 hw ws p1 p2 p3 p4 p5 h0 n0 Z0 H1 H2 H3
set_option maxRecDepth 65536 in
set_option maxHeartbeats 40000000 in
theorem comes_1 {Post : Tables → Env → Array Value → State → Outcome → State → Prop} (hpost : ∀ tb e args s v u, (limb_1_1.after args s (.returned v) u = true ∧ limb_1_2.after args s (.returned v) u = true ∧ True) → FrameEnd s (.returned v) u (Jvm.fieldLocs frame_1_writes args s ++ Jvm.arrayLocs frame_1_arrays args s ++ Jvm.staticLocs frame_1_statics s) 16 128 → Post tb e args s (.returned v) u) :
    ArmFor flags0 classFile x code maxLocals ret World_1 tables_1 room_1 Calls_1 rest_1 Pre_1 Post := by
  intro l hfl _ _ p e ha hc hk s m args below hf hA hF happ hP
  obtain ⟨hcalls, hrest, hpre⟩ := hP
  obtain ⟨-, -, -, hnamed, -, -, -, hat⟩ := (Spec.applies_iff hf).mp happ
  obtain ⟨hg, hn⟩ := and_e (Cond.before_iff.mp (show (Jvm.Cond.and given_1 narrow_1).before args s = true from hpre))
  obtain ⟨g1, g2⟩ := and_e hg
  obtain ⟨g3, g4⟩ := and_e g2
  obtain ⟨g5, g6⟩ := and_e g4
  obtain ⟨g7, g8⟩ := and_e g6
  obtain ⟨g9, g10⟩ := and_e g8
  obtain ⟨w0, w1, w2, w3, w4, rfl⟩ : ∃ w0 w1 w2 w3 w4 : Value, args = #[w0, w1, w2, w3, w4] := by
    have hs : args.size = 5 := by simpa [Cond.value, given_1] using g1
    obtain ⟨L⟩ := args
    match L, hs with
    | [w0, w1, w2, w3, w4], _ => exact ⟨w0, w1, w2, w3, w4, rfl⟩
  have hw := fun d (hd : d ∈ tables_1) => atoms_spec (ws := Jvm.Cond.code x code maxLocals ret :: tables_1) hat d (List.mem_cons_of_mem _ hd)
  have hfit : Fit s := fun {y c} hc i hi => by
    obtain ⟨ha, rfl⟩ := Array.getElem?_eq_some_iff.mp hc
    have q := List.all_eq_true.mp ((Array.all_eq_true_iff_forall_mem.mp hF) _ (Array.getElem_mem ha)) i (List.mem_range.mpr hi)
    simpa [Array.getElem?_eq_getElem hi] using q
  obtain ⟨i0, ei0⟩ := is_v g3
  obtain rfl : w0 = (.int i0) := Option.some.inj ei0
  obtain ⟨i1, ei1⟩ := is_v g5
  obtain rfl : w1 = (.int i1) := Option.some.inj ei1
  obtain ⟨i2, ei2⟩ := is_v g7
  obtain rfl : w2 = (.int i2) := Option.some.inj ei2
  obtain ⟨i3, ei3⟩ := is_v g9
  obtain rfl : w3 = (.int i3) := Option.some.inj ei3
  obtain ⟨i4, ei4⟩ := is_v g10
  obtain rfl : w4 = (.int i4) := Option.some.inj ei4
  obtain ⟨n, o, h1, h2, h3, _, L, rfl, ⟨rfl, N⟩, hq⟩ := rm0 l s _ hw tables_1 i0 i1 i2 i3 i4 s.heap s.heap.size (Nat.le_refl _) p e ha hc hk s m _ below hf ((Spec.applies_iff_loose hf).mp happ).1 ⟨rfl, State.Warmed39.refl s, rfl⟩ trivial
  refine ⟨n, _, h1, h2, h3, hpost _ _ _ _ _ _ ⟨Cond.after_iff.mpr rfl, Cond.after_iff.mpr (eq_i res_at (Term.int_eval (1)) rfl), trivial⟩ ⟨hq.1, hq.2.1, (hq.2.2.sift fun y hy => Or.inr (N y hy)).mono (by decide) (by decide)⟩⟩
theorem main_1_1 : Claimed_1_1 := comes_1 fun _ _ _ _ _ _ h hF => ⟨h.1, hF⟩
theorem main_1_2 : Claimed_1_2 := comes_1 fun _ _ _ _ _ _ h hF => ⟨h.2.1, hF⟩
end Jvm.Pilot.@@N@@
namespace Jvm.Pilot.@@N@@
open Jvm Jvm.ClassFile Sem Op Lib Jvm.Free Jvm.Stand Jvm.Pilot.@@N@@.Jvm.D
/-! MADE BY PROGRAM (witnessworld.py) out of the Statement's table words and the real class files: 10 classes; the members and pool entries that the words name. The judged class is class 1, her method 2. -/
namespace start1
open Jvm.ClassFile
def u (s : String) : CpInfo := .utf8 (stringToUtf16 s)
/-- a pool by its gaps: so many unusable entries, then the entry; so many at the end -/
def gap : Nat → List CpInfo → List CpInfo
  | 0, r => r
  | n + 1, r => .unusable :: gap n r
def poolList (es : List (Nat × CpInfo)) (last : Nat) : List CpInfo := es.foldr (fun e r => gap e.1 (e.2 :: r)) (gap last [])
def pool (es : List (Nat × CpInfo)) (last : Nat) : Array CpInfo := ⟨poolList es last⟩
def fileOf (pool : Array CpInfo) (this : Nat) (attrs : Array Attribute := #[]) (ms : Array MethodInfo := #[]) (fl : Nat := 33) (sup : Nat := 0) (ifs : Array Nat := #[]) (fds : Array FieldInfo := #[]) : ClassFile where
  minorVersion := 0
  majorVersion := 65
  constantPool := pool
  accessFlags := fl
  thisClass := this
  superClass := sup
  interfaces := ifs
  fields := fds
  methods := ms
  attributes := attrs
def plain (name : String) (sup : Option ClassId) : Class where
  name := name
  kind := .ordinary
  loader := none
  accessFlags := 33
  super := sup
  interfaces := #[]
  cf := none
  fields := #[]
  methods := #[]
  instanceTypes := #[]
  staticTypes := #[]
  resolved := #[]
  callSites := []
  init := .initialized
  statics := none
  mirror := none

def pool0 : Array CpInfo := pool [(5, u "<init>"), (0, u "()V"), (1, .class_ 10), (1, u "java/lang/Object")] 113

def k0c0 : Code := { maxStack := 0, maxLocals := 1, code := object_method_1_code, exceptionTable := #[], attributes := #[] }
def k0m0 : Method := { name := "<init>", desc := "()V", sig := { parameters := [], returnType := none }, accessFlags := 1, code := some k0c0 }
/-- java/lang/Object -/
def k0 : Class := { plain "java/lang/Object" none with
  accessFlags := 33
  interfaces := #[]
  cf := some (fileOf pool0 8 #[] #[{ accessFlags := 1, nameIndex := 5, descriptorIndex := 6, attributes := #[] }] 33 0 #[] #[])
  fields := #[]
  methods := #[k0m0]
  instanceTypes := #[]
  staticTypes := #[]
  resolved := Array.replicate 124 none
  statics := none }

def pool1 : Array CpInfo := pool [(2, .class_ 4), (1, u "java/lang/Object"), (0, u "<init>"), (0, u "()V"), (0, .class_ 8), (0, u "com/example/sinkwatch/sinkwatch/Condition"), (0, .methodref 7 10), (0, .nameAndType 5 11), (0, u "(IZI)V"), (0, .methodref 7 13), (0, .nameAndType 14 15), (0, u "contradicts"), (0, u "(Lcom/example/sinkwatch/sinkwatch/Condition;)Z"), (0, .methodref 17 18), (0, .class_ 19), (0, .nameAndType 20 21), (0, u "com/example/sinkwatch/sinkwatch/ConditionContradictsPinLaw"), (0, u "holds"), (0, u "(ZII)Z"), (3, u "law"), (0, u "(IIIII)Z")] 2

def k1m0 : Method := { name := "<init>", desc := "()V", sig := { parameters := [], returnType := none }, accessFlags := 1, code := none }
def k1c1 : Code := { maxStack := 2, maxLocals := 3, code := method_2_code, exceptionTable := #[], attributes := #[] }
def k1m1 : Method := { name := "holds", desc := "(ZII)Z", sig := { parameters := [.boolean, .int, .int], returnType := some .boolean }, accessFlags := 10, code := some k1c1 }
def k1c2 : Code := { maxStack := 5, maxLocals := 15, code := code, exceptionTable := #[], attributes := #[] }
def k1m2 : Method := { name := "law", desc := "(IIIII)Z", sig := { parameters := [.int, .int, .int, .int, .int], returnType := some .boolean }, accessFlags := 9, code := some k1c2 }
/-- com/example/sinkwatch/sinkwatch/ConditionContradictsPinLaw -/
def k1 : Class := { plain "com/example/sinkwatch/sinkwatch/ConditionContradictsPinLaw" (some 0) with
  accessFlags := 49
  interfaces := #[]
  cf := some (fileOf pool1 17 #[] #[{ accessFlags := 1, nameIndex := 5, descriptorIndex := 6, attributes := #[] }, { accessFlags := 10, nameIndex := 20, descriptorIndex := 21, attributes := #[] }, { accessFlags := 9, nameIndex := 25, descriptorIndex := 26, attributes := #[] }] 49 2 #[] #[])
  fields := #[]
  methods := #[k1m0, k1m1, k1m2]
  instanceTypes := #[]
  staticTypes := #[]
  resolved := Array.replicate 29 none
  statics := none }

def pool2 : Array CpInfo := pool [(1, .methodref 2 3), (0, .class_ 4), (0, .nameAndType 5 6), (0, u "java/lang/Object"), (0, u "<init>"), (0, u "()V"), (0, .class_ 8), (0, u "java/lang/Record")] 13

def k2c0 : Code := { maxStack := 1, maxLocals := 1, code := jdk_30_method_1_code, exceptionTable := #[], attributes := #[] }
def k2m0 : Method := { name := "<init>", desc := "()V", sig := { parameters := [], returnType := none }, accessFlags := 4, code := some k2c0 }
/-- java/lang/Record -/
def k2 : Class := { plain "java/lang/Record" (some 0) with
  accessFlags := 1057
  interfaces := #[]
  cf := some (fileOf pool2 7 #[] #[{ accessFlags := 4, nameIndex := 5, descriptorIndex := 6, attributes := #[] }] 1057 2 #[] #[])
  fields := #[]
  methods := #[k2m0]
  instanceTypes := #[]
  staticTypes := #[]
  resolved := Array.replicate 22 none
  statics := none }

def pool3 : Array CpInfo := pool [(1, .methodref 2 3), (0, .class_ 4), (0, .nameAndType 5 6), (0, u "java/lang/Record"), (0, u "<init>"), (0, u "()V"), (0, .fieldref 8 9), (0, .class_ 10), (0, .nameAndType 11 12), (0, u "com/example/sinkwatch/sinkwatch/Condition"), (0, u "local"), (0, u "I"), (0, .fieldref 8 14), (0, .nameAndType 15 16), (0, u "equal"), (0, u "Z"), (0, .fieldref 8 18), (0, .nameAndType 19 12), (0, u "constant"), (18, u "contradicts"), (0, u "(Lcom/example/sinkwatch/sinkwatch/Condition;)Z"), (24, u "(IZI)V")] 34

def k3c0 : Code := { maxStack := 2, maxLocals := 4, code := prog_1_method_1_code, exceptionTable := #[], attributes := #[] }
def k3m0 : Method := { name := "<init>", desc := "(IZI)V", sig := { parameters := [.int, .boolean, .int], returnType := none }, accessFlags := 0, code := some k3c0 }
def k3c1 : Code := { maxStack := 2, maxLocals := 2, code := prog_1_method_2_code, exceptionTable := #[], attributes := #[] }
def k3m1 : Method := { name := "contradicts", desc := "(Lcom/example/sinkwatch/sinkwatch/Condition;)Z", sig := { parameters := [(.object "com/example/sinkwatch/sinkwatch/Condition")], returnType := some .boolean }, accessFlags := 0, code := some k3c1 }
/-- com/example/sinkwatch/sinkwatch/Condition -/
def k3 : Class := { plain "com/example/sinkwatch/sinkwatch/Condition" (some 2) with
  accessFlags := 48
  interfaces := #[]
  cf := some (fileOf pool3 8 #[] #[{ accessFlags := 0, nameIndex := 5, descriptorIndex := 64, attributes := #[] }, { accessFlags := 0, nameIndex := 38, descriptorIndex := 39, attributes := #[] }] 48 2 #[] #[{ accessFlags := 18, nameIndex := 11, descriptorIndex := 12, attributes := #[] }, { accessFlags := 18, nameIndex := 15, descriptorIndex := 16, attributes := #[] }, { accessFlags := 18, nameIndex := 19, descriptorIndex := 12, attributes := #[] }])
  fields := #[{ name := "local", type := .int, accessFlags := 18, slot := 0, constantValue := 0 }, { name := "equal", type := .boolean, accessFlags := 18, slot := 1, constantValue := 0 }, { name := "constant", type := .int, accessFlags := 18, slot := 2, constantValue := 0 }]
  methods := #[k3m0, k3m1]
  instanceTypes := #[.int, .boolean, .int]
  staticTypes := #[]
  resolved := Array.replicate 99 none
  statics := none }

def pool4 : Array CpInfo := pool [(1, u "java/lang/Cloneable"), (0, .class_ 1), (0, u "java/lang/Object"), (0, .class_ 3)] 3

/-- java/lang/Cloneable -/
def k4 : Class := { plain "java/lang/Cloneable" (some 0) with
  accessFlags := 1537
  interfaces := #[]
  cf := some (fileOf pool4 2 #[] #[] 1537 4 #[] #[])
  fields := #[]
  methods := #[]
  instanceTypes := #[]
  staticTypes := #[]
  resolved := Array.replicate 8 none
  statics := none }

def pool5 : Array CpInfo := pool [(1, u "java/io/Serializable"), (0, .class_ 1), (0, u "java/lang/Object"), (0, .class_ 3)] 3

/-- java/io/Serializable -/
def k5 : Class := { plain "java/io/Serializable" (some 0) with
  accessFlags := 1537
  interfaces := #[]
  cf := some (fileOf pool5 2 #[] #[] 1537 4 #[] #[])
  fields := #[]
  methods := #[]
  instanceTypes := #[]
  staticTypes := #[]
  resolved := Array.replicate 8 none
  statics := none }

/-- the primitive byte -/
def k6 : Class := { plain "byte" none with kind := .primitive 'B', accessFlags := 0x411 }
/-- [B -/
def k7 : Class := { plain "[B" (some 0) with kind := .array 6 .byte, interfaces := #[4, 5], accessFlags := 1041 }

/-- the primitive int -/
def k8 : Class := { plain "int" none with kind := .primitive 'I', accessFlags := 0x411 }
/-- [I -/
def k9 : Class := { plain "[I" (some 0) with kind := .array 8 .int, interfaces := #[4, 5], accessFlags := 1041 }

def heap : Heap := #[]
def classes : Array Class := #[k0, k1, k2, k3, k4, k5, k6, k7, k8, k9]
def interned : List (Array UInt16 × Addr) := []
def slotsUsed : Nat := 0
def theMethod : MethodId := ⟨1, 2⟩
def args0 : Array Value := #[.int 5, .int 3, .int 0, .int 3, .int 0]
def aboutOver (below : List Frame) : State where
  vm := { classes := classes, interned := interned.toArray }
  heap := heap
  slotsUsed := slotsUsed
  threads := #[{ frames := .invoking theMethod args0 :: below }]
def below0 : List Frame := [.native { method := ⟨0, 0⟩, args := #[] }]
def about1 : State := aboutOver below0
def p0 : Program := .bare "" "" ""
def e0 : Env := launch0.env 0 0 0
theorem w_frames : about1.frames = Frame.invoking theMethod args0 :: below0 := rfl
set_option maxRecDepth 65536 in
theorem w_args : argsFit about1.vm theMethod args0 = true := by decide +kernel
set_option maxRecDepth 65536 in
theorem w_heap : heapFits about1 = true := by decide +kernel
set_option maxRecDepth 65536 in
theorem w_runnable : about1.curStatus? = some .runnable := by decide +kernel
set_option maxRecDepth 65536 in
theorem w_alone : about1.alone = true := by decide +kernel
set_option maxRecDepth 65536 in
theorem w_named : about1.methodNamed? x = some theMethod := by decide +kernel
set_option maxRecDepth 65536 in
theorem w_hears : about1.hears theMethod below0 = true := by decide +kernel
set_option maxRecDepth 65536 in
theorem w_ripe : about1.ripe theMethod args0 below0 = true := by decide +kernel
theorem w_running : about1.status = .running := rfl
set_option maxRecDepth 65536 in
theorem w_room : about1.hasRoom e0.platform room_1 = true :=
  launch0.hasRoom_least _ room_1 (by decide +kernel) (by decide +kernel) (by decide +kernel) (by decide +kernel) (by decide +kernel) (by decide +kernel)
theorem allAtoms_all (ts : List Jvm.Cond) (a : Array Jvm.Value) (st : Jvm.State) : (allAtoms ts).before a st = ts.all (fun c => c.before a st) := by
  induction ts with
  | nil => rfl
  | cons c t ih =>
    show (Jvm.Cond.and c (allAtoms t)).before a st = _
    rw [Jvm.Cond.before_and, ih, List.all_cons]
def words1 : List Jvm.Cond := Jvm.Cond.code x code maxLocals ret :: tables_1
/-- a 'code' word, met by the world's own term for the bytes: nothing is compared byte by byte -/
theorem code_word {y : MethodName} {bytes : ByteArray} {mx : Nat} {rt : Option FieldType} {a : Array Value} {s : State} {m : MethodId} {meth : Method} {c : Code} (h1 : s.methodNamed? y = some m) (h2 : s.vm.method? m = some meth) (h3 : meth.code = some c) (h4 : c.code = bytes)
    (h5 : (c.maxLocals == mx && c.exceptionTable.isEmpty && decide (c.maxStack ≤ mostOperands) && decide (meth.sig.returnType = rt) && !meth.locks && decide (parseMethodDescriptor y.desc = some meth.sig)) = true) : (Jvm.Cond.code y bytes mx rt).before a s = true := by
  simp only [Bool.and_eq_true, beq_iff_eq, Bool.not_eq_true', decide_eq_true_eq] at h5
  obtain ⟨⟨⟨⟨⟨g1, g2⟩, g3⟩, g4⟩, g5⟩, g6⟩ := h5
  simp [Cond.before, Cond.holds, Cond.value, h1, h2, h3, h4, g1, g2, g3, g4, g5, g6]
def isCode : Jvm.Cond → Bool
  | .code _ _ _ _ => true
  | _ => false
theorem all_split {L : List Jvm.Cond} {P : Jvm.Cond → Bool} (h1 : L.all (fun c => isCode c || P c) = true) (h2 : ∀ c ∈ L.filter isCode, P c = true) : L.all P = true := by
  refine List.all_eq_true.mpr fun c hc => ?_
  have h := List.all_eq_true.mp h1 c hc
  rcases Bool.eq_false_or_eq_true (isCode c) with hi | hi
  · exact h2 c (List.mem_filter.mpr ⟨hc, hi⟩)
  · simpa [hi] using h
set_option maxRecDepth 65536 in
theorem w_c0 : (Jvm.Cond.code x code maxLocals ret).before args0 about1 = true := code_word (m := ⟨1, 2⟩) (meth := k1m2) (c := k1c2) (by decide +kernel) rfl rfl rfl (by decide +kernel)
set_option maxRecDepth 65536 in
theorem w_c1 : (Jvm.Cond.code ({ cls := "com/example/sinkwatch/sinkwatch/Condition", name := "<init>", desc := "(IZI)V" } : Jvm.MethodName) prog_1_method_1_code (4 : Nat) (Option.none : Option Jvm.ClassFile.FieldType)).before args0 about1 = true := code_word (m := ⟨3, 0⟩) (meth := k3m0) (c := k3c0) (by decide +kernel) rfl rfl rfl (by decide +kernel)
set_option maxRecDepth 65536 in
theorem w_c2 : (Jvm.Cond.code ({ cls := "java/lang/Record", name := "<init>", desc := "()V" } : Jvm.MethodName) jdk_30_method_1_code (1 : Nat) (Option.none : Option Jvm.ClassFile.FieldType)).before args0 about1 = true := code_word (m := ⟨2, 0⟩) (meth := k2m0) (c := k2c0) (by decide +kernel) rfl rfl rfl (by decide +kernel)
set_option maxRecDepth 65536 in
theorem w_c3 : (Jvm.Cond.code ({ cls := "java/lang/Object", name := "<init>", desc := "()V" } : Jvm.MethodName) object_method_1_code (1 : Nat) (Option.none : Option Jvm.ClassFile.FieldType)).before args0 about1 = true := code_word (m := ⟨0, 0⟩) (meth := k0m0) (c := k0c0) (by decide +kernel) rfl rfl rfl (by decide +kernel)
set_option maxRecDepth 65536 in
theorem w_c4 : (Jvm.Cond.code ({ cls := "com/example/sinkwatch/sinkwatch/Condition", name := "contradicts", desc := "(Lcom/example/sinkwatch/sinkwatch/Condition;)Z" } : Jvm.MethodName) prog_1_method_2_code (2 : Nat) (Option.some Jvm.ClassFile.FieldType.boolean)).before args0 about1 = true := code_word (m := ⟨3, 1⟩) (meth := k3m1) (c := k3c1) (by decide +kernel) rfl rfl rfl (by decide +kernel)
set_option maxRecDepth 65536 in
theorem w_c5 : (Jvm.Cond.code ({ cls := "com/example/sinkwatch/sinkwatch/ConditionContradictsPinLaw", name := "holds", desc := "(ZII)Z" } : Jvm.MethodName) method_2_code (3 : Nat) (Option.some Jvm.ClassFile.FieldType.boolean)).before args0 about1 = true := code_word (m := ⟨1, 1⟩) (meth := k1m1) (c := k1c1) (by decide +kernel) rfl rfl rfl (by decide +kernel)
def codes1 : List Jvm.Cond := [Jvm.Cond.code x code maxLocals ret, Jvm.Cond.code ({ cls := "com/example/sinkwatch/sinkwatch/Condition", name := "<init>", desc := "(IZI)V" } : Jvm.MethodName) prog_1_method_1_code (4 : Nat) (Option.none : Option Jvm.ClassFile.FieldType), Jvm.Cond.code ({ cls := "java/lang/Record", name := "<init>", desc := "()V" } : Jvm.MethodName) jdk_30_method_1_code (1 : Nat) (Option.none : Option Jvm.ClassFile.FieldType), Jvm.Cond.code ({ cls := "java/lang/Object", name := "<init>", desc := "()V" } : Jvm.MethodName) object_method_1_code (1 : Nat) (Option.none : Option Jvm.ClassFile.FieldType), Jvm.Cond.code ({ cls := "com/example/sinkwatch/sinkwatch/Condition", name := "contradicts", desc := "(Lcom/example/sinkwatch/sinkwatch/Condition;)Z" } : Jvm.MethodName) prog_1_method_2_code (2 : Nat) (Option.some Jvm.ClassFile.FieldType.boolean), Jvm.Cond.code ({ cls := "com/example/sinkwatch/sinkwatch/ConditionContradictsPinLaw", name := "holds", desc := "(ZII)Z" } : Jvm.MethodName) method_2_code (3 : Nat) (Option.some Jvm.ClassFile.FieldType.boolean)]
set_option maxRecDepth 65536 in
theorem codes_eq : words1.filter isCode = codes1 := rfl
theorem w_codes : ∀ c ∈ words1.filter isCode, c.before args0 about1 = true := by
  rw [codes_eq]
  intro c hc
  simp only [codes1, List.mem_cons, List.not_mem_nil, or_false] at hc
  rcases hc with rfl | rfl | rfl | rfl | rfl | rfl
  · exact w_c0
  · exact w_c1
  · exact w_c2
  · exact w_c3
  · exact w_c4
  · exact w_c5
set_option maxRecDepth 65536 in
theorem w_t1 : (words1.take 24).all (fun c => isCode c || c.before args0 about1) = true := by decide +kernel
set_option maxRecDepth 65536 in
theorem w_t2 : (words1.drop 24).all (fun c => isCode c || c.before args0 about1) = true := by decide +kernel
theorem w_tables : (allAtoms (Jvm.Cond.code x code maxLocals ret :: tables_1)).before args0 about1 = true := by
  rw [allAtoms_all]
  show words1.all (fun c => c.before args0 about1) = true
  refine all_split ?_ w_codes
  rw [← List.take_append_drop 24 words1, List.all_append, w_t1, w_t2]
  rfl
set_option maxRecDepth 65536 in
theorem w_case : (Jvm.Cond.and given_1 narrow_1).before args0 about1 = true := by decide +kernel
theorem w_applies : (headSpec (Jvm.Cond.code x code maxLocals ret :: tables_1) room_1).applies x e0.platform about1 = true :=
  (Spec.applies_iff w_frames).mpr ⟨w_running, w_runnable, w_alone, w_named, w_hears, w_ripe, w_room, w_tables⟩
theorem atStart : AtStart classFile x code maxLocals ret World_1 tables_1 room_1 Calls_1 rest_1 Pre_1 launch0 p0 e0 about1 theMethod args0 below0 :=
  ⟨lists_1, trivial, launch0.admits_env _ _ _, launch0.least_env, fairChoices_fair.cas, fairChoices_fair.clock, w_frames, w_args, w_heap, w_applies, trivial, trivial, w_case⟩
end start1
theorem witness_1 : WitnessClaimed_1 := ⟨start1.p0, start1.e0, start1.about1, start1.theMethod, start1.args0, start1.below0, start1.atStart⟩
end Jvm.Pilot.@@N@@
