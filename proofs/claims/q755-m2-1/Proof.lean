import JvmDerived
import JvmDerived.Pilot.@@N@@Statement
import JvmDerived.Pilot.@@N@@Code
set_option linter.unusedVariables false
set_option linter.unusedSimpArgs false
namespace Jvm.RoadKit
open Sem ClassFile Op Lib Jvm.Stand Jvm.Free Jvm.LawKit
section New
variable {p : Program} {l : Launch} {e : Env} {R : Room} {s : State} {m : MethodId} {args : Array Value} {below : List Frame} {meth : Method} {c : Code} {T : State} {locs : List Loc} {cells slots : Nat}
theorem retI (X : Stand p l e R s m args below meth c T locs cells slots) (hx : p.tables.exec = Jvm.exec) {pc : Nat} {Ls : Array Slot} {z : Int32} {rest : List Value} (hret : meth.sig.returnType = some .int) (hd : decode c.code pc = .ok (.ireturn, 1)) {fs : List Frame}
    (hl : ∀ (f : JFrame) (acts : List Action), f.method = m → f.locked = none → f.entered = [] → (doReturn e (T.setTop f) acts (some (.int z))).1 = T.setFrames fs) : Steps p.tables e below (T.setTop (mkF m pc Ls (.int z :: rest))) (T.setFrames fs) := by
  have hm' : T.vm.method? m = some meth := X.method'
  have hn : narrow .int (.int z) = .int z := rfl
  show Steps p.tables e below (T.setTop { method := m, pc := pc, locals := Ls, stack := _ :: rest, locked := none }) _
  jvm_step X.here [X.here.top, hx, hd, hm', hret, hn]
  first | (intro acts; rw [hl _ acts rfl rfl rfl]) | rw [hl _ _ rfl rfl rfl]
  exact Steps.refl _
end New
end Jvm.RoadKit
namespace Jvm.Pilot.@@N@@
open Jvm Jvm.ClassFile Sem Op Lib Jvm.Free Jvm.Stand Jvm.LawKit Jvm.RoadKit Bundle Jvm.Pilot.@@N@@.Jvm.D
theorem tw_0 {a0 : Array Value} {Z : State} (hw : ∀ d ∈ tables_1, d.before a0 Z = true) : (Jvm.Cond.classLink "com/example/murmuration/murmuration/BoundsContainsPinLaw" (7 : Nat) "com/example/murmuration/murmuration/Bounds").before a0 Z = true := hw _ (List.mem_of_getElem? (i := 0) rfl)
theorem tw_1 {a0 : Array Value} {Z : State} (hw : ∀ d ∈ tables_1, d.before a0 Z = true) : (Jvm.Cond.instantiable "com/example/murmuration/murmuration/Bounds" (2 : Nat)).before a0 Z = true := hw _ (List.mem_of_getElem? (i := 1) rfl)
theorem tw_2 {a0 : Array Value} {Z : State} (hw : ∀ d ∈ tables_1, d.before a0 Z = true) : (Jvm.Cond.initialized "com/example/murmuration/murmuration/Bounds").before a0 Z = true := hw _ (List.mem_of_getElem? (i := 2) rfl)
theorem tw_3 {a0 : Array Value} {Z : State} (hw : ∀ d ∈ tables_1, d.before a0 Z = true) : (Jvm.Cond.methodLink "com/example/murmuration/murmuration/BoundsContainsPinLaw" (9 : Nat) ({ cls := "com/example/murmuration/murmuration/Bounds", name := "<init>", desc := "(II)V" } : Jvm.MethodName)).before a0 Z = true := hw _ (List.mem_of_getElem? (i := 3) rfl)
theorem tw_4 {a0 : Array Value} {Z : State} (hw : ∀ d ∈ tables_1, d.before a0 Z = true) : (Jvm.Cond.instanceMethod ({ cls := "com/example/murmuration/murmuration/Bounds", name := "<init>", desc := "(II)V" } : Jvm.MethodName)).before a0 Z = true := hw _ (List.mem_of_getElem? (i := 4) rfl)
theorem tw_5 {a0 : Array Value} {Z : State} (hw : ∀ d ∈ tables_1, d.before a0 Z = true) : (Jvm.Cond.code ({ cls := "com/example/murmuration/murmuration/Bounds", name := "<init>", desc := "(II)V" } : Jvm.MethodName) prog_5_method_1_code (3 : Nat) (Option.none : Option Jvm.ClassFile.FieldType)).before a0 Z = true := hw _ (List.mem_of_getElem? (i := 5) rfl)
theorem tw_6 {a0 : Array Value} {Z : State} (hw : ∀ d ∈ tables_1, d.before a0 Z = true) : (Jvm.Cond.methodLink "com/example/murmuration/murmuration/Bounds" (1 : Nat) ({ cls := "java/lang/Record", name := "<init>", desc := "()V" } : Jvm.MethodName)).before a0 Z = true := hw _ (List.mem_of_getElem? (i := 6) rfl)
theorem tw_7 {a0 : Array Value} {Z : State} (hw : ∀ d ∈ tables_1, d.before a0 Z = true) : (Jvm.Cond.instanceMethod ({ cls := "java/lang/Record", name := "<init>", desc := "()V" } : Jvm.MethodName)).before a0 Z = true := hw _ (List.mem_of_getElem? (i := 7) rfl)
theorem tw_9 {a0 : Array Value} {Z : State} (hw : ∀ d ∈ tables_1, d.before a0 Z = true) : (Jvm.Cond.initialized "java/lang/Record").before a0 Z = true := hw _ (List.mem_of_getElem? (i := 9) rfl)
theorem tw_10 {a0 : Array Value} {Z : State} (hw : ∀ d ∈ tables_1, d.before a0 Z = true) : (Jvm.Cond.code ({ cls := "java/lang/Record", name := "<init>", desc := "()V" } : Jvm.MethodName) jdk_30_method_1_code (1 : Nat) (Option.none : Option Jvm.ClassFile.FieldType)).before a0 Z = true := hw _ (List.mem_of_getElem? (i := 10) rfl)
theorem tw_11 {a0 : Array Value} {Z : State} (hw : ∀ d ∈ tables_1, d.before a0 Z = true) : (Jvm.Cond.methodLink "java/lang/Record" (1 : Nat) ({ cls := "java/lang/Object", name := "<init>", desc := "()V" } : Jvm.MethodName)).before a0 Z = true := hw _ (List.mem_of_getElem? (i := 11) rfl)
theorem tw_12 {a0 : Array Value} {Z : State} (hw : ∀ d ∈ tables_1, d.before a0 Z = true) : (Jvm.Cond.instanceMethod ({ cls := "java/lang/Object", name := "<init>", desc := "()V" } : Jvm.MethodName)).before a0 Z = true := hw _ (List.mem_of_getElem? (i := 12) rfl)
theorem tw_13 {a0 : Array Value} {Z : State} (hw : ∀ d ∈ tables_1, d.before a0 Z = true) : (Jvm.Cond.code ({ cls := "java/lang/Object", name := "<init>", desc := "()V" } : Jvm.MethodName) object_method_1_code (1 : Nat) (Option.none : Option Jvm.ClassFile.FieldType)).before a0 Z = true := hw _ (List.mem_of_getElem? (i := 13) rfl)
theorem tw_14 {a0 : Array Value} {Z : State} (hw : ∀ d ∈ tables_1, d.before a0 Z = true) : (Jvm.Cond.fieldLink "com/example/murmuration/murmuration/Bounds" (7 : Nat) "com/example/murmuration/murmuration/Bounds" "minimum" "I").before a0 Z = true := hw _ (List.mem_of_getElem? (i := 14) rfl)
theorem tw_15 {a0 : Array Value} {Z : State} (hw : ∀ d ∈ tables_1, d.before a0 Z = true) : (Jvm.Cond.laysFinal "com/example/murmuration/murmuration/Bounds" "com/example/murmuration/murmuration/Bounds" "minimum" "I").before a0 Z = true := hw _ (List.mem_of_getElem? (i := 15) rfl)
theorem tw_16 {a0 : Array Value} {Z : State} (hw : ∀ d ∈ tables_1, d.before a0 Z = true) : (Jvm.Cond.fieldLink "com/example/murmuration/murmuration/Bounds" (13 : Nat) "com/example/murmuration/murmuration/Bounds" "maximum" "I").before a0 Z = true := hw _ (List.mem_of_getElem? (i := 16) rfl)
theorem tw_17 {a0 : Array Value} {Z : State} (hw : ∀ d ∈ tables_1, d.before a0 Z = true) : (Jvm.Cond.laysFinal "com/example/murmuration/murmuration/Bounds" "com/example/murmuration/murmuration/Bounds" "maximum" "I").before a0 Z = true := hw _ (List.mem_of_getElem? (i := 17) rfl)
theorem tw_18 {a0 : Array Value} {Z : State} (hw : ∀ d ∈ tables_1, d.before a0 Z = true) : (Jvm.Cond.methodLink "com/example/murmuration/murmuration/BoundsContainsPinLaw" (12 : Nat) ({ cls := "com/example/murmuration/murmuration/Bounds", name := "contains", desc := "(J)Z" } : Jvm.MethodName)).before a0 Z = true := hw _ (List.mem_of_getElem? (i := 18) rfl)
theorem tw_19 {a0 : Array Value} {Z : State} (hw : ∀ d ∈ tables_1, d.before a0 Z = true) : (Jvm.Cond.declares ({ cls := "com/example/murmuration/murmuration/Bounds", name := "contains", desc := "(J)Z" } : Jvm.MethodName)).before a0 Z = true := hw _ (List.mem_of_getElem? (i := 19) rfl)
theorem tw_20 {a0 : Array Value} {Z : State} (hw : ∀ d ∈ tables_1, d.before a0 Z = true) : (Jvm.Cond.instanceMethod ({ cls := "com/example/murmuration/murmuration/Bounds", name := "contains", desc := "(J)Z" } : Jvm.MethodName)).before a0 Z = true := hw _ (List.mem_of_getElem? (i := 20) rfl)
theorem tw_21 {a0 : Array Value} {Z : State} (hw : ∀ d ∈ tables_1, d.before a0 Z = true) : (Jvm.Cond.selects "com/example/murmuration/murmuration/Bounds" ({ cls := "com/example/murmuration/murmuration/Bounds", name := "contains", desc := "(J)Z" } : Jvm.MethodName) ({ cls := "com/example/murmuration/murmuration/Bounds", name := "contains", desc := "(J)Z" } : Jvm.MethodName)).before a0 Z = true := hw _ (List.mem_of_getElem? (i := 21) rfl)
theorem tw_22 {a0 : Array Value} {Z : State} (hw : ∀ d ∈ tables_1, d.before a0 Z = true) : (Jvm.Cond.code ({ cls := "com/example/murmuration/murmuration/Bounds", name := "contains", desc := "(J)Z" } : Jvm.MethodName) prog_5_method_2_code (3 : Nat) (Option.some Jvm.ClassFile.FieldType.boolean)).before a0 Z = true := hw _ (List.mem_of_getElem? (i := 22) rfl)
theorem tw_23 {a0 : Array Value} {Z : State} (hw : ∀ d ∈ tables_1, d.before a0 Z = true) : (Jvm.Cond.methodLink "com/example/murmuration/murmuration/BoundsContainsPinLaw" (16 : Nat) ({ cls := "com/example/murmuration/murmuration/BoundsContainsPinLaw", name := "expected", desc := "(IIJ)Z" } : Jvm.MethodName)).before a0 Z = true := hw _ (List.mem_of_getElem? (i := 23) rfl)
theorem tw_24 {a0 : Array Value} {Z : State} (hw : ∀ d ∈ tables_1, d.before a0 Z = true) : (Jvm.Cond.static ({ cls := "com/example/murmuration/murmuration/BoundsContainsPinLaw", name := "expected", desc := "(IIJ)Z" } : Jvm.MethodName)).before a0 Z = true := hw _ (List.mem_of_getElem? (i := 24) rfl)
theorem tw_25 {a0 : Array Value} {Z : State} (hw : ∀ d ∈ tables_1, d.before a0 Z = true) : (Jvm.Cond.initialized "com/example/murmuration/murmuration/BoundsContainsPinLaw").before a0 Z = true := hw _ (List.mem_of_getElem? (i := 25) rfl)
theorem tw_26 {a0 : Array Value} {Z : State} (hw : ∀ d ∈ tables_1, d.before a0 Z = true) : (Jvm.Cond.code ({ cls := "com/example/murmuration/murmuration/BoundsContainsPinLaw", name := "expected", desc := "(IIJ)Z" } : Jvm.MethodName) method_2_code (4 : Nat) (Option.some Jvm.ClassFile.FieldType.boolean)).before a0 Z = true := hw _ (List.mem_of_getElem? (i := 26) rfl)
theorem tw_27 {a0 : Array Value} {Z : State} (hw : ∀ d ∈ tables_1, d.before a0 Z = true) : (Jvm.Cond.constantLong "com/example/murmuration/murmuration/BoundsContainsPinLaw" (24 : Nat) (-9223372036854775808 : Int64)).before a0 Z = true := hw _ (List.mem_of_getElem? (i := 27) rfl)
theorem tw_28 {a0 : Array Value} {Z : State} (hw : ∀ d ∈ tables_1, d.before a0 Z = true) : (Jvm.Cond.constantLong "com/example/murmuration/murmuration/BoundsContainsPinLaw" (26 : Nat) (9223372036854775807 : Int64)).before a0 Z = true := hw _ (List.mem_of_getElem? (i := 28) rfl)
theorem d1_0 : decode prog_5_method_1_code 0 = .ok (.aload_n 0, 1) := by decide +kernel
theorem d1_1 : decode prog_5_method_1_code 1 = .ok (.invokespecial 1, 3) := by decide +kernel
theorem d1_4 : decode prog_5_method_1_code 4 = .ok (.aload_n 0, 1) := by decide +kernel
theorem d1_5 : decode prog_5_method_1_code 5 = .ok (.iload_n 1, 1) := by decide +kernel
theorem d1_6 : decode prog_5_method_1_code 6 = .ok (.putfield 7, 3) := by decide +kernel
theorem d1_9 : decode prog_5_method_1_code 9 = .ok (.aload_n 0, 1) := by decide +kernel
theorem d1_10 : decode prog_5_method_1_code 10 = .ok (.iload_n 2, 1) := by decide +kernel
theorem d1_11 : decode prog_5_method_1_code 11 = .ok (.putfield 13, 3) := by decide +kernel
theorem d1_14 : decode prog_5_method_1_code 14 = .ok (.return_, 1) := by decide +kernel
theorem d2_0 : decode jdk_30_method_1_code 0 = .ok (.aload_n 0, 1) := by decide +kernel
theorem d2_1 : decode jdk_30_method_1_code 1 = .ok (.invokespecial 1, 3) := by decide +kernel
theorem d2_4 : decode jdk_30_method_1_code 4 = .ok (.return_, 1) := by decide +kernel
theorem d4_0 : decode prog_5_method_2_code 0 = .ok (.lload_n 1, 1) := by decide +kernel
theorem d4_1 : decode prog_5_method_2_code 1 = .ok (.aload_n 0, 1) := by decide +kernel
theorem d4_2 : decode prog_5_method_2_code 2 = .ok (.getfield 7, 3) := by decide +kernel
theorem d4_5 : decode prog_5_method_2_code 5 = .ok (.i2l, 1) := by decide +kernel
theorem d4_6 : decode prog_5_method_2_code 6 = .ok (.lcmp, 1) := by decide +kernel
theorem d4_7 : decode prog_5_method_2_code 7 = .ok (.ifCond .lt 17, 3) := by decide +kernel
theorem d4_10 : decode prog_5_method_2_code 10 = .ok (.lload_n 1, 1) := by decide +kernel
theorem d4_11 : decode prog_5_method_2_code 11 = .ok (.aload_n 0, 1) := by decide +kernel
theorem d4_12 : decode prog_5_method_2_code 12 = .ok (.getfield 13, 3) := by decide +kernel
theorem d4_15 : decode prog_5_method_2_code 15 = .ok (.i2l, 1) := by decide +kernel
theorem d4_16 : decode prog_5_method_2_code 16 = .ok (.lcmp, 1) := by decide +kernel
theorem d4_17 : decode prog_5_method_2_code 17 = .ok (.ifCond .gt 7, 3) := by decide +kernel
theorem d4_20 : decode prog_5_method_2_code 20 = .ok (.iconst 1, 1) := by decide +kernel
theorem d4_21 : decode prog_5_method_2_code 21 = .ok (.goto 4, 3) := by decide +kernel
theorem d4_24 : decode prog_5_method_2_code 24 = .ok (.iconst 0, 1) := by decide +kernel
theorem d4_25 : decode prog_5_method_2_code 25 = .ok (.ireturn, 1) := by decide +kernel
theorem d5_0 : decode method_2_code 0 = .ok (.lload_n 2, 1) := by decide +kernel
theorem d5_1 : decode method_2_code 1 = .ok (.iload_n 0, 1) := by decide +kernel
theorem d5_2 : decode method_2_code 2 = .ok (.i2l, 1) := by decide +kernel
theorem d5_3 : decode method_2_code 3 = .ok (.lcmp, 1) := by decide +kernel
theorem d5_4 : decode method_2_code 4 = .ok (.ifCond .ge 5, 3) := by decide +kernel
theorem d5_7 : decode method_2_code 7 = .ok (.iconst 0, 1) := by decide +kernel
theorem d5_8 : decode method_2_code 8 = .ok (.ireturn, 1) := by decide +kernel
theorem d5_9 : decode method_2_code 9 = .ok (.lload_n 2, 1) := by decide +kernel
theorem d5_10 : decode method_2_code 10 = .ok (.iload_n 1, 1) := by decide +kernel
theorem d5_11 : decode method_2_code 11 = .ok (.i2l, 1) := by decide +kernel
theorem d5_12 : decode method_2_code 12 = .ok (.lcmp, 1) := by decide +kernel
theorem d5_13 : decode method_2_code 13 = .ok (.ifCond .le 5, 3) := by decide +kernel
theorem d5_16 : decode method_2_code 16 = .ok (.iconst 0, 1) := by decide +kernel
theorem d5_17 : decode method_2_code 17 = .ok (.ireturn, 1) := by decide +kernel
theorem d5_18 : decode method_2_code 18 = .ok (.iconst 1, 1) := by decide +kernel
theorem d5_19 : decode method_2_code 19 = .ok (.ireturn, 1) := by decide +kernel
theorem pn_0 : plainName "java/lang/Record" = true := by first | (simp [plainName, overriddenIn]; done) | decide +kernel
theorem pn_1 : plainName "com/example/murmuration/murmuration/Bounds" = true := by first | (simp [plainName, overriddenIn]; done) | decide +kernel
theorem pn_2 : plainName "com/example/murmuration/murmuration/BoundsContainsPinLaw" = true := by first | (simp [plainName, overriddenIn]; done) | decide +kernel
theorem pd_0 : parseMethodDescriptor "()V" = some ⟨[], none⟩ := by decide +kernel
theorem pd_1 : parseMethodDescriptor "(II)V" = some ⟨[.int, .int], none⟩ := by decide +kernel
theorem pd_2 : parseMethodDescriptor "(J)Z" = some ⟨[.long], some .boolean⟩ := by decide +kernel
theorem pd_3 : parseMethodDescriptor "(IIJ)Z" = some ⟨[.int, .int, .long], some .boolean⟩ := by decide +kernel
def va1 (x1 : Int64) (x2 : Int32) (x3 : Int32) : Int32 := (if (lcmpW x1 (x2.toInt64)) < (0 : Int32) then (0 : Int32) else (if (0 : Int32) < (lcmpW x1 (x3.toInt64)) then (0 : Int32) else (1 : Int32)))
def va2 (x1 : Int32) (x2 : Int32) : Int32 := (if x1 < x2 then (0 : Int32) else (1 : Int32))
def va3 (x1 : Int64) (x2 : Int32) : Int32 := (if (0 : Int32) < (lcmpW x1 (x2.toInt64)) then (0 : Int32) else (1 : Int32))
def va4 (x1 : Int32) (x2 : Int32) : Int32 := (if (va3 (x1.toInt64) x2) = (va2 x2 x1) then (1 : Int32) else (0 : Int32))
def va5 (x1 : Int64) (x2 : Int32) : Int32 := (if (lcmpW x1 (x2.toInt64)) < (0 : Int32) then (0 : Int32) else (1 : Int32))
def va6 (x1 : Int32) (x2 : Int32) : Int32 := (if (va5 (x1.toInt64) x2) = (va2 x1 x2) then (1 : Int32) else (0 : Int32))
abbrev LL1 (x1 : Int32) (x2 : Int32) (x3 : Int64) (x4 : Addr) : Array Slot := #[.val (.int x1), .val (.int x2), .val (.long x3), .second, .val (.ref x4), .val (.int (1 : Int32)), .val (.int (va2 x2 x1))]
abbrev LL2 (x1 : Int32) (x2 : Int32) (x3 : Int64) (x4 : Addr) : Array Slot := #[.val (.int x1), .val (.int x2), .val (.long x3), .second, .val (.ref x4), .val (.int (va4 x1 x2)), .val (.int (va2 x2 x1))]
abbrev LL3 (x1 : Int32) (x2 : Int32) (x3 : Int64) (x4 : Addr) : Array Slot := #[.val (.int x1), .val (.int x2), .val (.long x3), .second, .val (.ref x4), .val (.int (va6 x2 x1)), .val (.int (va2 x2 x1))]
theorem ef2_1 (m : MethodId) (a1 : Addr) : entryFrame m #[(.ref a1)] 1 = mkF m 0 #[.val (.ref a1)] [] := by first | (simp [entryFrame, mkF, argsToLocals, Value.category]; done) | rfl
def Q2_1 (Z : State) (a1 : Addr) (h0 : Heap) (n0 : Nat) (v : Option Value) (h : Heap) (L : List Loc) : Prop := v = none ∧ Fr n0 L ∧ h = h0
set_option maxRecDepth 65536 in
set_option maxHeartbeats 40000000 in
theorem rm2_1 (l : Launch) (Z : State) (a0 : Array Value) (hw : ∀ d ∈ tables_1, d.before a0 Z = true) (ws : List Jvm.Cond) (a1 : Addr) (h0 : Heap) (n0 : Nat) (Z0 : n0 ≤ h0.size) :
    MetFree l (⟨"java/lang/Record", "<init>", "()V"⟩ : MethodName) (head1 (Jvm.Cond.code (⟨"java/lang/Record", "<init>", "()V"⟩ : MethodName) jdk_30_method_1_code 1 none :: ws) ({ frames := 1, cells := 0, slots := 0, locals := 12 } : Room)) (fun a U => a = #[(.ref a1)] ∧ Z.Warmed39 U.vm ∧ U.heap = h0) (fun _ _ _ _ _ => True) (fun _ U o U' => ∃ v L, o = .returned v ∧ Q2_1 Z a1 h0 n0 v U'.heap L ∧ FrameEnd U o U' L ({ frames := 1, cells := 0, slots := 0, locals := 12 } : Room).cells ({ frames := 1, cells := 0, slots := 0, locals := 12 } : Room).slots) := by
  refine MetFree.of_bodySF (plainFor_of_name pn_0) hisR ?_
  intro p e s m args below meth c s₁ Bd hml0 hP hK
  obtain ⟨rfl, hZ, hh⟩ := hP
  have hx := Bd.exec
  have hby := Bd.bytes
  have hml : c.maxLocals = 1 := hml0
  have hown : s.vm.findClass "java/lang/Record" = some m.cls := findClass_of_methodNamed Bd.named
  have hnm := (name_of_methodNamed Bd.named Bd.method).1
  have X0 : Stand p l e ({ frames := 1, cells := 0, slots := 0, locals := 12 } : Room) s m #[(.ref a1)] below meth c s₁ [] 0 0 := Stand.of_body Bd
  have e0 : s₁.heap = h0 := by rw [← hh, Bd.state]; rfl
  have N0 := Fr.nil n0
  have pre0 : ∀ t, Steps p.tables e below (s₁.setTop (mkF m 0 #[.val (.ref a1)] [])) t → Steps p.tables e below (s₁.setTop (entryFrame m #[(.ref a1)] 1)) t := fun t k => castTop (ef2_1 m a1) k
  obtain ⟨T2, X2, e2, st2⟩ := initO X0 hx hZ hown (tw_11 hw) (tw_12 hw) (tw_13 hw) e0 (g := (mkF m 1 #[.val (.ref a1)] [(.ref a1)])) rfl (by rw [hml]; rfl) rfl (hb hby d2_1) (by decide) (W := 0) (by show 2 * 0 + _ ≤ _; exact Nat.le_of_eq rfl) (by decide)
  obtain ⟨fs, hr, hrun, hended, hW, hsame⟩ := X2.leave (v := none) (fun _ => rfl)
  refine ⟨_, _, pre0 _ ?_, hrun, hended, _, _, rfl, ?_, ⟨_, rfl⟩, hW, hsame.mono (by decide) (by decide)⟩
  · show Steps p.tables e below (s₁.setTop (mkF m 0 #[.val (.ref a1)] [])) _
    refine XS.aloadN X0.here hx rfl (hb hby d2_0) rfl rfl ?_
    show Steps p.tables e below (s₁.setTop (mkF m 1 #[.val (.ref a1)] [(.ref a1)])) _
    refine st2 _ ?_
    show Steps p.tables e below (T2.setTop (mkF m 4 #[.val (.ref a1)] [])) _
    exact X2.returnOut hx Bd.returns (hb hby d2_4) hr
  · show Q2_1 Z a1 h0 n0 _ T2.heap _
    rw [e2]
    exact ⟨rfl, N0, rfl⟩
theorem ef1_1 (m : MethodId) (a1 : Addr) (p2 : Int32) (p3 : Int32) : entryFrame m #[(.ref a1), (.int p2), (.int p3)] 3 = mkF m 0 #[.val (.ref a1), .val (.int p2), .val (.int p3)] [] := by first | (simp [entryFrame, mkF, argsToLocals, Value.category]; done) | rfl
def Q1_1 (Z : State) (a1 : Addr) (p2 : Int32) (p3 : Int32) (h0 : Heap) (n0 : Nat) (v : Option Value) (h : Heap) (L : List Loc) : Prop := v = none ∧ Fr n0 L ∧ Keep h0 h [a1] ∧ Fld Z h a1 "com/example/murmuration/murmuration/Bounds" "maximum" "I" (.int p3) ∧ Fld Z h a1 "com/example/murmuration/murmuration/Bounds" "minimum" "I" (.int p2)
set_option maxRecDepth 65536 in
set_option maxHeartbeats 40000000 in
theorem rm1_1 (l : Launch) (Z : State) (a0 : Array Value) (hw : ∀ d ∈ tables_1, d.before a0 Z = true) (ws : List Jvm.Cond) (a1 : Addr) (p2 : Int32) (p3 : Int32) (h0 : Heap) (n0 : Nat) (Z0 : n0 ≤ h0.size) (P1 : Fld Z h0 a1 "com/example/murmuration/murmuration/Bounds" "minimum" "I" (.int (0 : Int32))) (P2 : Exa Z h0 a1 "com/example/murmuration/murmuration/Bounds") (P3 : n0 ≤ a1) (P4 : Fld Z h0 a1 "com/example/murmuration/murmuration/Bounds" "maximum" "I" (.int (0 : Int32))) :
    MetFree l (⟨"com/example/murmuration/murmuration/Bounds", "<init>", "(II)V"⟩ : MethodName) (head1 (Jvm.Cond.code (⟨"com/example/murmuration/murmuration/Bounds", "<init>", "(II)V"⟩ : MethodName) prog_5_method_1_code 3 none :: ws) ({ frames := 2, cells := 0, slots := 0, locals := 24 } : Room)) (fun a U => a = #[(.ref a1), (.int p2), (.int p3)] ∧ Z.Warmed39 U.vm ∧ U.heap = h0) (fun _ _ _ _ _ => True) (fun _ U o U' => ∃ v L, o = .returned v ∧ Q1_1 Z a1 p2 p3 h0 n0 v U'.heap L ∧ FrameEnd U o U' L ({ frames := 2, cells := 0, slots := 0, locals := 24 } : Room).cells ({ frames := 2, cells := 0, slots := 0, locals := 24 } : Room).slots) := by
  refine MetFree.of_bodySF (plainFor_of_name pn_1) hisR ?_
  intro p e s m args below meth c s₁ Bd hml0 hP hK
  obtain ⟨rfl, hZ, hh⟩ := hP
  have hx := Bd.exec
  have hby := Bd.bytes
  have hml : c.maxLocals = 3 := hml0
  have hown : s.vm.findClass "com/example/murmuration/murmuration/Bounds" = some m.cls := findClass_of_methodNamed Bd.named
  have hnm := (name_of_methodNamed Bd.named Bd.method).1
  have X0 : Stand p l e ({ frames := 2, cells := 0, slots := 0, locals := 24 } : Room) s m #[(.ref a1), (.int p2), (.int p3)] below meth c s₁ [] 0 0 := Stand.of_body Bd
  have e0 : s₁.heap = h0 := by rw [← hh, Bd.state]; rfl
  have N0 := Fr.nil n0
  have pre0 : ∀ t, Steps p.tables e below (s₁.setTop (mkF m 0 #[.val (.ref a1), .val (.int p2), .val (.int p3)] [])) t → Steps p.tables e below (s₁.setTop (entryFrame m #[(.ref a1), (.int p2), (.int p3)] 3)) t := fun t k => castTop (ef1_1 m a1 p2 p3) k
  obtain ⟨_, _, ⟨T4, L4, k4, n4⟩, -, X4, ⟨Lc4, hQ4, l4, y4, z4⟩, st4⟩ := X0.specialBack hx (y := (⟨"java/lang/Record", "<init>", "()V"⟩ : MethodName)) rfl hown (mvT hZ (tw_6 hw)) (mvT hZ (tw_7 hw)) (mvT hZ (tw_10 hw)) (by decide) (backOf (W := 0) (rm2_1 l Z a0 hw [] a1 h0 n0 Z0 ) hZ (tw_10 hw) (tw_9 hw) (by decide) (by decide)) (g := (mkF m 1 #[.val (.ref a1), .val (.int p2), .val (.int p3)] [(.ref a1)])) rfl (by rw [hml]; rfl) (Steps.refl _) (a := a1) (argsL := []) (rest := []) (lenOf pd_0 rfl) rfl (by show 2 * 0 + _ ≤ _; exact Nat.le_of_eq rfl) (hb hby d1_1) (fun _ _ => ⟨rfl, e0, (by decide : 0 + 0 ≤ _), (by decide : 0 + 0 ≤ _)⟩)
  dsimp only [Pt.U, Pt.locs, Pt.cells, Pt.slots] at X4 l4 y4 z4 st4 hQ4
  subst l4 y4 z4
  obtain ⟨rfl, N4q, e4q⟩ := hQ4
  have N4 := Fr.app N0 N4q
  obtain ⟨T5, h5, X5, e5, W5, st5⟩ := putF X4 hx hZ hown (host := "") (Or.inl (tw_14 hw)) Via.refl e4q P1 P2 (Or.inr ⟨(tw_15 hw), rfl, hnm⟩) (tw_1 hw) (ty := .int) (by decide) rfl rfl (g := (mkF m 6 #[.val (.ref a1), .val (.int p2), .val (.int p3)] [(.int p2), (.ref a1)])) rfl rfl (hb hby d1_6)
  have N5 := Fr.snoc X5 N4 P3
  have Fw5 := Fld.same W5 P1
  have F6 := (Fld.other W5 P4 (Or.inr (slot_ne (Or.inr (tw_17 hw)) (Or.inr (tw_15 hw)) (by decide) (t := .int) (t' := .int) (by decide) (by decide))))
  have F7 := (Exa.wr W5 P2)
  obtain ⟨T8, h8, X8, e8, W8, st8⟩ := putF X5 hx hZ hown (host := "") (Or.inl (tw_16 hw)) Via.refl e5 F6 F7 (Or.inr ⟨(tw_17 hw), rfl, hnm⟩) (tw_1 hw) (ty := .int) (by decide) rfl rfl (g := (mkF m 11 #[.val (.ref a1), .val (.int p2), .val (.int p3)] [(.int p3), (.ref a1)])) rfl rfl (hb hby d1_11)
  have N8 := Fr.snoc X8 N5 P3
  have Fw8 := Fld.same W8 F6
  have F9 := (Fld.other W8 Fw5 (Or.inr (slot_ne (Or.inr (tw_15 hw)) (Or.inr (tw_17 hw)) (by decide) (t := .int) (t' := .int) (by decide) (by decide))))
  have K10 := (Keep.refl h0 [a1]).wr W5 (Or.inl (List.mem_of_getElem? (i := 0) rfl))
  have K11 := K10.wr W8 (Or.inl (List.mem_of_getElem? (i := 0) rfl))
  obtain ⟨fs, hr, hrun, hended, hW, hsame⟩ := X8.leave (v := none) (fun _ => rfl)
  refine ⟨_, _, pre0 _ ?_, hrun, hended, _, _, rfl, ?_, ⟨_, rfl⟩, hW, hsame.mono (by decide) (by decide)⟩
  · show Steps p.tables e below (s₁.setTop (mkF m 0 #[.val (.ref a1), .val (.int p2), .val (.int p3)] [])) _
    refine XS.aloadN X0.here hx rfl (hb hby d1_0) rfl rfl ?_
    show Steps p.tables e below (s₁.setTop (mkF m 1 #[.val (.ref a1), .val (.int p2), .val (.int p3)] [(.ref a1)])) _
    refine st4.trans ?_
    show Steps p.tables e below (T4.setTop (mkF m 4 #[.val (.ref a1), .val (.int p2), .val (.int p3)] [])) _
    refine XS.aloadN X4.here hx rfl (hb hby d1_4) rfl rfl ?_
    show Steps p.tables e below (T4.setTop (mkF m 5 #[.val (.ref a1), .val (.int p2), .val (.int p3)] [(.ref a1)])) _
    refine XS.iloadN X4.here hx rfl (hb hby d1_5) rfl ?_
    show Steps p.tables e below (T4.setTop (mkF m 6 #[.val (.ref a1), .val (.int p2), .val (.int p3)] [(.int p2), (.ref a1)])) _
    refine st5 _ ?_
    show Steps p.tables e below (T5.setTop (mkF m 9 #[.val (.ref a1), .val (.int p2), .val (.int p3)] [])) _
    refine XS.aloadN X5.here hx rfl (hb hby d1_9) rfl rfl ?_
    show Steps p.tables e below (T5.setTop (mkF m 10 #[.val (.ref a1), .val (.int p2), .val (.int p3)] [(.ref a1)])) _
    refine XS.iloadN X5.here hx rfl (hb hby d1_10) rfl ?_
    show Steps p.tables e below (T5.setTop (mkF m 11 #[.val (.ref a1), .val (.int p2), .val (.int p3)] [(.int p3), (.ref a1)])) _
    refine st8 _ ?_
    show Steps p.tables e below (T8.setTop (mkF m 14 #[.val (.ref a1), .val (.int p2), .val (.int p3)] [])) _
    exact X8.returnOut hx Bd.returns (hb hby d1_14) hr
  · show Q1_1 Z a1 p2 p3 h0 n0 _ T8.heap _
    rw [e8]
    exact ⟨rfl, N8, K11, Fw8, F9⟩
theorem ef4_1 (m : MethodId) (a1 : Addr) (q2 : Int64) (p3 : Int32) : entryFrame m #[(.ref a1), (.long q2)] 3 = mkF m 0 #[.val (.ref a1), .val (.long q2), .second] [] := by first | (simp [entryFrame, mkF, argsToLocals, Value.category]; done) | rfl
def Q4_1 (Z : State) (a1 : Addr) (q2 : Int64) (p3 : Int32) (h0 : Heap) (n0 : Nat) (v : Option Value) (h : Heap) (L : List Loc) : Prop := v = some (.int (0 : Int32)) ∧ Fr n0 L ∧ h = h0
set_option maxRecDepth 65536 in
set_option maxHeartbeats 40000000 in
theorem rm4_1 (l : Launch) (Z : State) (a0 : Array Value) (hw : ∀ d ∈ tables_1, d.before a0 Z = true) (ws : List Jvm.Cond) (a1 : Addr) (q2 : Int64) (p3 : Int32) (h0 : Heap) (n0 : Nat) (Z0 : n0 ≤ h0.size) (P1 : Fld Z h0 a1 "com/example/murmuration/murmuration/Bounds" "minimum" "I" (.int p3)) (H1 : (lcmpW q2 (p3.toInt64)) < (0 : Int32)) :
    MetFree l (⟨"com/example/murmuration/murmuration/Bounds", "contains", "(J)Z"⟩ : MethodName) (head1 (Jvm.Cond.code (⟨"com/example/murmuration/murmuration/Bounds", "contains", "(J)Z"⟩ : MethodName) prog_5_method_2_code 3 (some .boolean) :: ws) ({ frames := 0, cells := 0, slots := 0, locals := 0 } : Room)) (fun a U => a = #[(.ref a1), (.long q2)] ∧ Z.Warmed39 U.vm ∧ U.heap = h0) (fun _ _ _ _ _ => True) (fun _ U o U' => ∃ v L, o = .returned v ∧ Q4_1 Z a1 q2 p3 h0 n0 v U'.heap L ∧ FrameEnd U o U' L ({ frames := 0, cells := 0, slots := 0, locals := 0 } : Room).cells ({ frames := 0, cells := 0, slots := 0, locals := 0 } : Room).slots) := by
  refine MetFree.of_bodySF (plainFor_of_name pn_1) hisR ?_
  intro p e s m args below meth c s₁ Bd hml0 hP hK
  obtain ⟨rfl, hZ, hh⟩ := hP
  have hx := Bd.exec
  have hby := Bd.bytes
  have hml : c.maxLocals = 3 := hml0
  have hown : s.vm.findClass "com/example/murmuration/murmuration/Bounds" = some m.cls := findClass_of_methodNamed Bd.named
  have hnm := (name_of_methodNamed Bd.named Bd.method).1
  have X0 : Stand p l e ({ frames := 0, cells := 0, slots := 0, locals := 0 } : Room) s m #[(.ref a1), (.long q2)] below meth c s₁ [] 0 0 := Stand.of_body Bd
  have e0 : s₁.heap = h0 := by rw [← hh, Bd.state]; rfl
  have N0 := Fr.nil n0
  have pre0 : ∀ t, Steps p.tables e below (s₁.setTop (mkF m 0 #[.val (.ref a1), .val (.long q2), .second] [])) t → Steps p.tables e below (s₁.setTop (entryFrame m #[(.ref a1), (.long q2)] 3)) t := fun t k => castTop (ef4_1 m a1 q2 p3) k
  obtain ⟨T4, X4, e4, st4⟩ := getF X0 hx hZ hown (host := "") (Or.inl (tw_14 hw)) Via.refl e0 P1 (g := (mkF m 2 #[.val (.ref a1), .val (.long q2), .second] [(.ref a1), (.long q2)])) rfl rfl (hb hby d4_2)
  obtain ⟨fs, hr, hrun, hended, hW, hsame⟩ := X4.leave (v := some (.int (0 : Int32))) (fun h => by rw [Bd.returns] at h; cases h)
  refine ⟨_, _, pre0 _ ?_, hrun, hended, _, _, rfl, ?_, ⟨_, rfl⟩, hW, hsame.mono (by decide) (by decide)⟩
  · show Steps p.tables e below (s₁.setTop (mkF m 0 #[.val (.ref a1), .val (.long q2), .second] [])) _
    refine XS.lloadN X0.here hx rfl (hb hby d4_0) rfl ?_
    show Steps p.tables e below (s₁.setTop (mkF m 1 #[.val (.ref a1), .val (.long q2), .second] [(.long q2)])) _
    refine XS.aloadN X0.here hx rfl (hb hby d4_1) rfl rfl ?_
    show Steps p.tables e below (s₁.setTop (mkF m 2 #[.val (.ref a1), .val (.long q2), .second] [(.ref a1), (.long q2)])) _
    refine st4 _ ?_
    show Steps p.tables e below (T4.setTop (mkF m 5 #[.val (.ref a1), .val (.long q2), .second] [(.int p3), (.long q2)])) _
    refine XS.i2l X4.here hx rfl (hb hby d4_5) rfl ?_
    show Steps p.tables e below (T4.setTop (mkF m 6 #[.val (.ref a1), .val (.long q2), .second] [(.long (p3.toInt64)), (.long q2)])) _
    refine XS.lcmp X4.here hx rfl (hb hby d4_6) rfl ?_
    show Steps p.tables e below (T4.setTop (mkF m 7 #[.val (.ref a1), .val (.long q2), .second] [(.int (lcmpW q2 (p3.toInt64)))])) _
    refine XS.ifYes X4.here hx rfl (pc0 := 7) (pc' := 24) rfl (hb hby d4_7) rfl ((if0 _ _).trans (tlt H1).1) (by decide) (by decide) ?_
    show Steps p.tables e below (T4.setTop (mkF m 24 #[.val (.ref a1), .val (.long q2), .second] [])) _
    refine XS.iconst X4.here hx rfl (hb hby d4_24) ?_
    show Steps p.tables e below (T4.setTop (mkF m 25 #[.val (.ref a1), .val (.long q2), .second] [(.int (0 : Int32))])) _
    exact retN X4 hx (t := .boolean) Bd.returns (by simp) (hb hby d4_25) hr
  · show Q4_1 Z a1 q2 p3 h0 n0 _ T4.heap _
    rw [e4]
    exact ⟨rfl, N0, rfl⟩
theorem ef4_2 (m : MethodId) (a1 : Addr) (q2 : Int64) (p3 : Int32) (p5 : Int32) : entryFrame m #[(.ref a1), (.long q2)] 3 = mkF m 0 #[.val (.ref a1), .val (.long q2), .second] [] := by first | (simp [entryFrame, mkF, argsToLocals, Value.category]; done) | rfl
def Q4_2 (Z : State) (a1 : Addr) (q2 : Int64) (p3 : Int32) (p5 : Int32) (h0 : Heap) (n0 : Nat) (v : Option Value) (h : Heap) (L : List Loc) : Prop := v = some (.int (0 : Int32)) ∧ Fr n0 L ∧ h = h0
set_option maxRecDepth 65536 in
set_option maxHeartbeats 40000000 in
theorem rm4_2 (l : Launch) (Z : State) (a0 : Array Value) (hw : ∀ d ∈ tables_1, d.before a0 Z = true) (ws : List Jvm.Cond) (a1 : Addr) (q2 : Int64) (p3 : Int32) (p5 : Int32) (h0 : Heap) (n0 : Nat) (Z0 : n0 ≤ h0.size) (P1 : Fld Z h0 a1 "com/example/murmuration/murmuration/Bounds" "minimum" "I" (.int p3)) (P2 : Fld Z h0 a1 "com/example/murmuration/murmuration/Bounds" "maximum" "I" (.int p5)) (H1 : ¬ ((lcmpW q2 (p3.toInt64)) < (0 : Int32))) (H2 : (0 : Int32) < (lcmpW q2 (p5.toInt64))) :
    MetFree l (⟨"com/example/murmuration/murmuration/Bounds", "contains", "(J)Z"⟩ : MethodName) (head1 (Jvm.Cond.code (⟨"com/example/murmuration/murmuration/Bounds", "contains", "(J)Z"⟩ : MethodName) prog_5_method_2_code 3 (some .boolean) :: ws) ({ frames := 0, cells := 0, slots := 0, locals := 0 } : Room)) (fun a U => a = #[(.ref a1), (.long q2)] ∧ Z.Warmed39 U.vm ∧ U.heap = h0) (fun _ _ _ _ _ => True) (fun _ U o U' => ∃ v L, o = .returned v ∧ Q4_2 Z a1 q2 p3 p5 h0 n0 v U'.heap L ∧ FrameEnd U o U' L ({ frames := 0, cells := 0, slots := 0, locals := 0 } : Room).cells ({ frames := 0, cells := 0, slots := 0, locals := 0 } : Room).slots) := by
  refine MetFree.of_bodySF (plainFor_of_name pn_1) hisR ?_
  intro p e s m args below meth c s₁ Bd hml0 hP hK
  obtain ⟨rfl, hZ, hh⟩ := hP
  have hx := Bd.exec
  have hby := Bd.bytes
  have hml : c.maxLocals = 3 := hml0
  have hown : s.vm.findClass "com/example/murmuration/murmuration/Bounds" = some m.cls := findClass_of_methodNamed Bd.named
  have hnm := (name_of_methodNamed Bd.named Bd.method).1
  have X0 : Stand p l e ({ frames := 0, cells := 0, slots := 0, locals := 0 } : Room) s m #[(.ref a1), (.long q2)] below meth c s₁ [] 0 0 := Stand.of_body Bd
  have e0 : s₁.heap = h0 := by rw [← hh, Bd.state]; rfl
  have N0 := Fr.nil n0
  have pre0 : ∀ t, Steps p.tables e below (s₁.setTop (mkF m 0 #[.val (.ref a1), .val (.long q2), .second] [])) t → Steps p.tables e below (s₁.setTop (entryFrame m #[(.ref a1), (.long q2)] 3)) t := fun t k => castTop (ef4_2 m a1 q2 p3 p5) k
  obtain ⟨T4, X4, e4, st4⟩ := getF X0 hx hZ hown (host := "") (Or.inl (tw_14 hw)) Via.refl e0 P1 (g := (mkF m 2 #[.val (.ref a1), .val (.long q2), .second] [(.ref a1), (.long q2)])) rfl rfl (hb hby d4_2)
  obtain ⟨T6, X6, e6, st6⟩ := getF X4 hx hZ hown (host := "") (Or.inl (tw_16 hw)) Via.refl e4 P2 (g := (mkF m 12 #[.val (.ref a1), .val (.long q2), .second] [(.ref a1), (.long q2)])) rfl rfl (hb hby d4_12)
  obtain ⟨fs, hr, hrun, hended, hW, hsame⟩ := X6.leave (v := some (.int (0 : Int32))) (fun h => by rw [Bd.returns] at h; cases h)
  refine ⟨_, _, pre0 _ ?_, hrun, hended, _, _, rfl, ?_, ⟨_, rfl⟩, hW, hsame.mono (by decide) (by decide)⟩
  · show Steps p.tables e below (s₁.setTop (mkF m 0 #[.val (.ref a1), .val (.long q2), .second] [])) _
    refine XS.lloadN X0.here hx rfl (hb hby d4_0) rfl ?_
    show Steps p.tables e below (s₁.setTop (mkF m 1 #[.val (.ref a1), .val (.long q2), .second] [(.long q2)])) _
    refine XS.aloadN X0.here hx rfl (hb hby d4_1) rfl rfl ?_
    show Steps p.tables e below (s₁.setTop (mkF m 2 #[.val (.ref a1), .val (.long q2), .second] [(.ref a1), (.long q2)])) _
    refine st4 _ ?_
    show Steps p.tables e below (T4.setTop (mkF m 5 #[.val (.ref a1), .val (.long q2), .second] [(.int p3), (.long q2)])) _
    refine XS.i2l X4.here hx rfl (hb hby d4_5) rfl ?_
    show Steps p.tables e below (T4.setTop (mkF m 6 #[.val (.ref a1), .val (.long q2), .second] [(.long (p3.toInt64)), (.long q2)])) _
    refine XS.lcmp X4.here hx rfl (hb hby d4_6) rfl ?_
    show Steps p.tables e below (T4.setTop (mkF m 7 #[.val (.ref a1), .val (.long q2), .second] [(.int (lcmpW q2 (p3.toInt64)))])) _
    refine XS.ifNo X4.here hx rfl (hb hby d4_7) rfl ((if0 _ _).trans (flt H1).1) ?_
    show Steps p.tables e below (T4.setTop (mkF m 10 #[.val (.ref a1), .val (.long q2), .second] [])) _
    refine XS.lloadN X4.here hx rfl (hb hby d4_10) rfl ?_
    show Steps p.tables e below (T4.setTop (mkF m 11 #[.val (.ref a1), .val (.long q2), .second] [(.long q2)])) _
    refine XS.aloadN X4.here hx rfl (hb hby d4_11) rfl rfl ?_
    show Steps p.tables e below (T4.setTop (mkF m 12 #[.val (.ref a1), .val (.long q2), .second] [(.ref a1), (.long q2)])) _
    refine st6 _ ?_
    show Steps p.tables e below (T6.setTop (mkF m 15 #[.val (.ref a1), .val (.long q2), .second] [(.int p5), (.long q2)])) _
    refine XS.i2l X6.here hx rfl (hb hby d4_15) rfl ?_
    show Steps p.tables e below (T6.setTop (mkF m 16 #[.val (.ref a1), .val (.long q2), .second] [(.long (p5.toInt64)), (.long q2)])) _
    refine XS.lcmp X6.here hx rfl (hb hby d4_16) rfl ?_
    show Steps p.tables e below (T6.setTop (mkF m 17 #[.val (.ref a1), .val (.long q2), .second] [(.int (lcmpW q2 (p5.toInt64)))])) _
    refine XS.ifYes X6.here hx rfl (pc0 := 17) (pc' := 24) rfl (hb hby d4_17) rfl ((if0 _ _).trans (tlt H2).2.2.1) (by decide) (by decide) ?_
    show Steps p.tables e below (T6.setTop (mkF m 24 #[.val (.ref a1), .val (.long q2), .second] [])) _
    refine XS.iconst X6.here hx rfl (hb hby d4_24) ?_
    show Steps p.tables e below (T6.setTop (mkF m 25 #[.val (.ref a1), .val (.long q2), .second] [(.int (0 : Int32))])) _
    exact retN X6 hx (t := .boolean) Bd.returns (by simp) (hb hby d4_25) hr
  · show Q4_2 Z a1 q2 p3 p5 h0 n0 _ T6.heap _
    rw [e6]
    exact ⟨rfl, N0, rfl⟩
theorem ef4_3 (m : MethodId) (a1 : Addr) (q2 : Int64) (p3 : Int32) (p5 : Int32) : entryFrame m #[(.ref a1), (.long q2)] 3 = mkF m 0 #[.val (.ref a1), .val (.long q2), .second] [] := by first | (simp [entryFrame, mkF, argsToLocals, Value.category]; done) | rfl
def Q4_3 (Z : State) (a1 : Addr) (q2 : Int64) (p3 : Int32) (p5 : Int32) (h0 : Heap) (n0 : Nat) (v : Option Value) (h : Heap) (L : List Loc) : Prop := v = some (.int (1 : Int32)) ∧ Fr n0 L ∧ h = h0
set_option maxRecDepth 65536 in
set_option maxHeartbeats 40000000 in
theorem rm4_3 (l : Launch) (Z : State) (a0 : Array Value) (hw : ∀ d ∈ tables_1, d.before a0 Z = true) (ws : List Jvm.Cond) (a1 : Addr) (q2 : Int64) (p3 : Int32) (p5 : Int32) (h0 : Heap) (n0 : Nat) (Z0 : n0 ≤ h0.size) (P1 : Fld Z h0 a1 "com/example/murmuration/murmuration/Bounds" "minimum" "I" (.int p3)) (P2 : Fld Z h0 a1 "com/example/murmuration/murmuration/Bounds" "maximum" "I" (.int p5)) (H1 : ¬ ((lcmpW q2 (p3.toInt64)) < (0 : Int32))) (H2 : ¬ ((0 : Int32) < (lcmpW q2 (p5.toInt64)))) :
    MetFree l (⟨"com/example/murmuration/murmuration/Bounds", "contains", "(J)Z"⟩ : MethodName) (head1 (Jvm.Cond.code (⟨"com/example/murmuration/murmuration/Bounds", "contains", "(J)Z"⟩ : MethodName) prog_5_method_2_code 3 (some .boolean) :: ws) ({ frames := 0, cells := 0, slots := 0, locals := 0 } : Room)) (fun a U => a = #[(.ref a1), (.long q2)] ∧ Z.Warmed39 U.vm ∧ U.heap = h0) (fun _ _ _ _ _ => True) (fun _ U o U' => ∃ v L, o = .returned v ∧ Q4_3 Z a1 q2 p3 p5 h0 n0 v U'.heap L ∧ FrameEnd U o U' L ({ frames := 0, cells := 0, slots := 0, locals := 0 } : Room).cells ({ frames := 0, cells := 0, slots := 0, locals := 0 } : Room).slots) := by
  refine MetFree.of_bodySF (plainFor_of_name pn_1) hisR ?_
  intro p e s m args below meth c s₁ Bd hml0 hP hK
  obtain ⟨rfl, hZ, hh⟩ := hP
  have hx := Bd.exec
  have hby := Bd.bytes
  have hml : c.maxLocals = 3 := hml0
  have hown : s.vm.findClass "com/example/murmuration/murmuration/Bounds" = some m.cls := findClass_of_methodNamed Bd.named
  have hnm := (name_of_methodNamed Bd.named Bd.method).1
  have X0 : Stand p l e ({ frames := 0, cells := 0, slots := 0, locals := 0 } : Room) s m #[(.ref a1), (.long q2)] below meth c s₁ [] 0 0 := Stand.of_body Bd
  have e0 : s₁.heap = h0 := by rw [← hh, Bd.state]; rfl
  have N0 := Fr.nil n0
  have pre0 : ∀ t, Steps p.tables e below (s₁.setTop (mkF m 0 #[.val (.ref a1), .val (.long q2), .second] [])) t → Steps p.tables e below (s₁.setTop (entryFrame m #[(.ref a1), (.long q2)] 3)) t := fun t k => castTop (ef4_3 m a1 q2 p3 p5) k
  obtain ⟨T4, X4, e4, st4⟩ := getF X0 hx hZ hown (host := "") (Or.inl (tw_14 hw)) Via.refl e0 P1 (g := (mkF m 2 #[.val (.ref a1), .val (.long q2), .second] [(.ref a1), (.long q2)])) rfl rfl (hb hby d4_2)
  obtain ⟨T6, X6, e6, st6⟩ := getF X4 hx hZ hown (host := "") (Or.inl (tw_16 hw)) Via.refl e4 P2 (g := (mkF m 12 #[.val (.ref a1), .val (.long q2), .second] [(.ref a1), (.long q2)])) rfl rfl (hb hby d4_12)
  obtain ⟨fs, hr, hrun, hended, hW, hsame⟩ := X6.leave (v := some (.int (1 : Int32))) (fun h => by rw [Bd.returns] at h; cases h)
  refine ⟨_, _, pre0 _ ?_, hrun, hended, _, _, rfl, ?_, ⟨_, rfl⟩, hW, hsame.mono (by decide) (by decide)⟩
  · show Steps p.tables e below (s₁.setTop (mkF m 0 #[.val (.ref a1), .val (.long q2), .second] [])) _
    refine XS.lloadN X0.here hx rfl (hb hby d4_0) rfl ?_
    show Steps p.tables e below (s₁.setTop (mkF m 1 #[.val (.ref a1), .val (.long q2), .second] [(.long q2)])) _
    refine XS.aloadN X0.here hx rfl (hb hby d4_1) rfl rfl ?_
    show Steps p.tables e below (s₁.setTop (mkF m 2 #[.val (.ref a1), .val (.long q2), .second] [(.ref a1), (.long q2)])) _
    refine st4 _ ?_
    show Steps p.tables e below (T4.setTop (mkF m 5 #[.val (.ref a1), .val (.long q2), .second] [(.int p3), (.long q2)])) _
    refine XS.i2l X4.here hx rfl (hb hby d4_5) rfl ?_
    show Steps p.tables e below (T4.setTop (mkF m 6 #[.val (.ref a1), .val (.long q2), .second] [(.long (p3.toInt64)), (.long q2)])) _
    refine XS.lcmp X4.here hx rfl (hb hby d4_6) rfl ?_
    show Steps p.tables e below (T4.setTop (mkF m 7 #[.val (.ref a1), .val (.long q2), .second] [(.int (lcmpW q2 (p3.toInt64)))])) _
    refine XS.ifNo X4.here hx rfl (hb hby d4_7) rfl ((if0 _ _).trans (flt H1).1) ?_
    show Steps p.tables e below (T4.setTop (mkF m 10 #[.val (.ref a1), .val (.long q2), .second] [])) _
    refine XS.lloadN X4.here hx rfl (hb hby d4_10) rfl ?_
    show Steps p.tables e below (T4.setTop (mkF m 11 #[.val (.ref a1), .val (.long q2), .second] [(.long q2)])) _
    refine XS.aloadN X4.here hx rfl (hb hby d4_11) rfl rfl ?_
    show Steps p.tables e below (T4.setTop (mkF m 12 #[.val (.ref a1), .val (.long q2), .second] [(.ref a1), (.long q2)])) _
    refine st6 _ ?_
    show Steps p.tables e below (T6.setTop (mkF m 15 #[.val (.ref a1), .val (.long q2), .second] [(.int p5), (.long q2)])) _
    refine XS.i2l X6.here hx rfl (hb hby d4_15) rfl ?_
    show Steps p.tables e below (T6.setTop (mkF m 16 #[.val (.ref a1), .val (.long q2), .second] [(.long (p5.toInt64)), (.long q2)])) _
    refine XS.lcmp X6.here hx rfl (hb hby d4_16) rfl ?_
    show Steps p.tables e below (T6.setTop (mkF m 17 #[.val (.ref a1), .val (.long q2), .second] [(.int (lcmpW q2 (p5.toInt64)))])) _
    refine XS.ifNo X6.here hx rfl (hb hby d4_17) rfl ((if0 _ _).trans (flt H2).2.2.1) ?_
    show Steps p.tables e below (T6.setTop (mkF m 20 #[.val (.ref a1), .val (.long q2), .second] [])) _
    refine XS.iconst X6.here hx rfl (hb hby d4_20) ?_
    show Steps p.tables e below (T6.setTop (mkF m 21 #[.val (.ref a1), .val (.long q2), .second] [(.int (1 : Int32))])) _
    refine XS.goto X6.here hx rfl (pc0 := 21) (pc' := 25) rfl (hb hby d4_21) (by decide) (by decide) ?_
    show Steps p.tables e below (T6.setTop (mkF m 25 #[.val (.ref a1), .val (.long q2), .second] [(.int (1 : Int32))])) _
    exact retN X6 hx (t := .boolean) Bd.returns (by simp) (hb hby d4_25) hr
  · show Q4_3 Z a1 q2 p3 p5 h0 n0 _ T6.heap _
    rw [e6]
    exact ⟨rfl, N0, rfl⟩
def Q4_4 (Z : State) (a1 : Addr) (q2 : Int64) (p3 : Int32) (p4 : Int32) (h0 : Heap) (n0 : Nat) (v : Option Value) (h : Heap) (L : List Loc) : Prop := v = some (.int (va1 q2 p3 p4)) ∧ Fr n0 L ∧ h = h0
set_option maxRecDepth 65536 in
set_option maxHeartbeats 40000000 in
theorem rm4_4 (l : Launch) (Z : State) (a0 : Array Value) (hw : ∀ d ∈ tables_1, d.before a0 Z = true) (ws : List Jvm.Cond) (a1 : Addr) (q2 : Int64) (p3 : Int32) (p4 : Int32) (h0 : Heap) (n0 : Nat) (Z0 : n0 ≤ h0.size) (P1 : Fld Z h0 a1 "com/example/murmuration/murmuration/Bounds" "minimum" "I" (.int p3)) (P2 : Fld Z h0 a1 "com/example/murmuration/murmuration/Bounds" "maximum" "I" (.int p4)) :
    MetFree l (⟨"com/example/murmuration/murmuration/Bounds", "contains", "(J)Z"⟩ : MethodName) (head1 (Jvm.Cond.code (⟨"com/example/murmuration/murmuration/Bounds", "contains", "(J)Z"⟩ : MethodName) prog_5_method_2_code 3 (some .boolean) :: ws) ({ frames := 0, cells := 0, slots := 0, locals := 0 } : Room)) (fun a U => a = #[(.ref a1), (.long q2)] ∧ Z.Warmed39 U.vm ∧ U.heap = h0) (fun _ _ _ _ _ => True) (fun _ U o U' => ∃ v L, o = .returned v ∧ Q4_4 Z a1 q2 p3 p4 h0 n0 v U'.heap L ∧ FrameEnd U o U' L ({ frames := 0, cells := 0, slots := 0, locals := 0 } : Room).cells ({ frames := 0, cells := 0, slots := 0, locals := 0 } : Room).slots) := by
  unfold Q4_4
  by_cases H1 : (lcmpW q2 (p3.toInt64)) < (0 : Int32)
  ·
    rw [show (va1 q2 p3 p4) = (0 : Int32) from by simp only [va1, if_pos H1]]
    exact rm4_1 l Z a0 hw ws a1 q2 p3 h0 n0 Z0 P1 H1
  ·
    by_cases H2 : (0 : Int32) < (lcmpW q2 (p4.toInt64))
    ·
      rw [show (va1 q2 p3 p4) = (0 : Int32) from by simp only [va1, if_neg H1, if_pos H2]]
      exact rm4_2 l Z a0 hw ws a1 q2 p3 p4 h0 n0 Z0 P1 P2 H1 H2
    ·
      rw [show (va1 q2 p3 p4) = (1 : Int32) from by simp only [va1, if_neg H1, if_neg H2]]
      exact rm4_3 l Z a0 hw ws a1 q2 p3 p4 h0 n0 Z0 P1 P2 H1 H2
theorem ef5_1 (m : MethodId) (p1 : Int32) (p2 : Int32) (q3 : Int64) : entryFrame m #[(.int p1), (.int p2), (.long q3)] 4 = mkF m 0 #[.val (.int p1), .val (.int p2), .val (.long q3), .second] [] := by first | (simp [entryFrame, mkF, argsToLocals, Value.category]; done) | rfl
def Q5_1 (Z : State) (p1 : Int32) (p2 : Int32) (q3 : Int64) (h0 : Heap) (n0 : Nat) (v : Option Value) (h : Heap) (L : List Loc) : Prop := v = some (.int (0 : Int32)) ∧ Fr n0 L ∧ h = h0
set_option maxRecDepth 65536 in
set_option maxHeartbeats 40000000 in
theorem rm5_1 (l : Launch) (Z : State) (a0 : Array Value) (hw : ∀ d ∈ tables_1, d.before a0 Z = true) (ws : List Jvm.Cond) (p1 : Int32) (p2 : Int32) (q3 : Int64) (h0 : Heap) (n0 : Nat) (Z0 : n0 ≤ h0.size) (H1 : (lcmpW q3 (p1.toInt64)) < (0 : Int32)) :
    MetFree l (⟨"com/example/murmuration/murmuration/BoundsContainsPinLaw", "expected", "(IIJ)Z"⟩ : MethodName) (head1 (Jvm.Cond.code (⟨"com/example/murmuration/murmuration/BoundsContainsPinLaw", "expected", "(IIJ)Z"⟩ : MethodName) method_2_code 4 (some .boolean) :: ws) ({ frames := 0, cells := 0, slots := 0, locals := 0 } : Room)) (fun a U => a = #[(.int p1), (.int p2), (.long q3)] ∧ Z.Warmed39 U.vm ∧ U.heap = h0) (fun _ _ _ _ _ => True) (fun _ U o U' => ∃ v L, o = .returned v ∧ Q5_1 Z p1 p2 q3 h0 n0 v U'.heap L ∧ FrameEnd U o U' L ({ frames := 0, cells := 0, slots := 0, locals := 0 } : Room).cells ({ frames := 0, cells := 0, slots := 0, locals := 0 } : Room).slots) := by
  refine MetFree.of_bodySF (plainFor_of_name pn_2) hisR ?_
  intro p e s m args below meth c s₁ Bd hml0 hP hK
  obtain ⟨rfl, hZ, hh⟩ := hP
  have hx := Bd.exec
  have hby := Bd.bytes
  have hml : c.maxLocals = 4 := hml0
  have hown : s.vm.findClass "com/example/murmuration/murmuration/BoundsContainsPinLaw" = some m.cls := findClass_of_methodNamed Bd.named
  have hnm := (name_of_methodNamed Bd.named Bd.method).1
  have X0 : Stand p l e ({ frames := 0, cells := 0, slots := 0, locals := 0 } : Room) s m #[(.int p1), (.int p2), (.long q3)] below meth c s₁ [] 0 0 := Stand.of_body Bd
  have e0 : s₁.heap = h0 := by rw [← hh, Bd.state]; rfl
  have N0 := Fr.nil n0
  have pre0 : ∀ t, Steps p.tables e below (s₁.setTop (mkF m 0 #[.val (.int p1), .val (.int p2), .val (.long q3), .second] [])) t → Steps p.tables e below (s₁.setTop (entryFrame m #[(.int p1), (.int p2), (.long q3)] 4)) t := fun t k => castTop (ef5_1 m p1 p2 q3) k
  obtain ⟨fs, hr, hrun, hended, hW, hsame⟩ := X0.leave (v := some (.int (0 : Int32))) (fun h => by rw [Bd.returns] at h; cases h)
  refine ⟨_, _, pre0 _ ?_, hrun, hended, _, _, rfl, ?_, ⟨_, rfl⟩, hW, hsame.mono (by decide) (by decide)⟩
  · show Steps p.tables e below (s₁.setTop (mkF m 0 #[.val (.int p1), .val (.int p2), .val (.long q3), .second] [])) _
    refine XS.lloadN X0.here hx rfl (hb hby d5_0) rfl ?_
    show Steps p.tables e below (s₁.setTop (mkF m 1 #[.val (.int p1), .val (.int p2), .val (.long q3), .second] [(.long q3)])) _
    refine XS.iloadN X0.here hx rfl (hb hby d5_1) rfl ?_
    show Steps p.tables e below (s₁.setTop (mkF m 2 #[.val (.int p1), .val (.int p2), .val (.long q3), .second] [(.int p1), (.long q3)])) _
    refine XS.i2l X0.here hx rfl (hb hby d5_2) rfl ?_
    show Steps p.tables e below (s₁.setTop (mkF m 3 #[.val (.int p1), .val (.int p2), .val (.long q3), .second] [(.long (p1.toInt64)), (.long q3)])) _
    refine XS.lcmp X0.here hx rfl (hb hby d5_3) rfl ?_
    show Steps p.tables e below (s₁.setTop (mkF m 4 #[.val (.int p1), .val (.int p2), .val (.long q3), .second] [(.int (lcmpW q3 (p1.toInt64)))])) _
    refine XS.ifNo X0.here hx rfl (hb hby d5_4) rfl ((if0 _ _).trans (tlt H1).2.1) ?_
    show Steps p.tables e below (s₁.setTop (mkF m 7 #[.val (.int p1), .val (.int p2), .val (.long q3), .second] [])) _
    refine XS.iconst X0.here hx rfl (hb hby d5_7) ?_
    show Steps p.tables e below (s₁.setTop (mkF m 8 #[.val (.int p1), .val (.int p2), .val (.long q3), .second] [(.int (0 : Int32))])) _
    exact retN X0 hx (t := .boolean) Bd.returns (by simp) (hb hby d5_8) hr
  · show Q5_1 Z p1 p2 q3 h0 n0 _ s₁.heap _
    rw [e0]
    exact ⟨rfl, N0, rfl⟩
theorem ef5_2 (m : MethodId) (p1 : Int32) (p2 : Int32) (q3 : Int64) : entryFrame m #[(.int p1), (.int p2), (.long q3)] 4 = mkF m 0 #[.val (.int p1), .val (.int p2), .val (.long q3), .second] [] := by first | (simp [entryFrame, mkF, argsToLocals, Value.category]; done) | rfl
def Q5_2 (Z : State) (p1 : Int32) (p2 : Int32) (q3 : Int64) (h0 : Heap) (n0 : Nat) (v : Option Value) (h : Heap) (L : List Loc) : Prop := v = some (.int (0 : Int32)) ∧ Fr n0 L ∧ h = h0
set_option maxRecDepth 65536 in
set_option maxHeartbeats 40000000 in
theorem rm5_2 (l : Launch) (Z : State) (a0 : Array Value) (hw : ∀ d ∈ tables_1, d.before a0 Z = true) (ws : List Jvm.Cond) (p1 : Int32) (p2 : Int32) (q3 : Int64) (h0 : Heap) (n0 : Nat) (Z0 : n0 ≤ h0.size) (H1 : ¬ ((lcmpW q3 (p1.toInt64)) < (0 : Int32))) (H2 : (0 : Int32) < (lcmpW q3 (p2.toInt64))) :
    MetFree l (⟨"com/example/murmuration/murmuration/BoundsContainsPinLaw", "expected", "(IIJ)Z"⟩ : MethodName) (head1 (Jvm.Cond.code (⟨"com/example/murmuration/murmuration/BoundsContainsPinLaw", "expected", "(IIJ)Z"⟩ : MethodName) method_2_code 4 (some .boolean) :: ws) ({ frames := 0, cells := 0, slots := 0, locals := 0 } : Room)) (fun a U => a = #[(.int p1), (.int p2), (.long q3)] ∧ Z.Warmed39 U.vm ∧ U.heap = h0) (fun _ _ _ _ _ => True) (fun _ U o U' => ∃ v L, o = .returned v ∧ Q5_2 Z p1 p2 q3 h0 n0 v U'.heap L ∧ FrameEnd U o U' L ({ frames := 0, cells := 0, slots := 0, locals := 0 } : Room).cells ({ frames := 0, cells := 0, slots := 0, locals := 0 } : Room).slots) := by
  refine MetFree.of_bodySF (plainFor_of_name pn_2) hisR ?_
  intro p e s m args below meth c s₁ Bd hml0 hP hK
  obtain ⟨rfl, hZ, hh⟩ := hP
  have hx := Bd.exec
  have hby := Bd.bytes
  have hml : c.maxLocals = 4 := hml0
  have hown : s.vm.findClass "com/example/murmuration/murmuration/BoundsContainsPinLaw" = some m.cls := findClass_of_methodNamed Bd.named
  have hnm := (name_of_methodNamed Bd.named Bd.method).1
  have X0 : Stand p l e ({ frames := 0, cells := 0, slots := 0, locals := 0 } : Room) s m #[(.int p1), (.int p2), (.long q3)] below meth c s₁ [] 0 0 := Stand.of_body Bd
  have e0 : s₁.heap = h0 := by rw [← hh, Bd.state]; rfl
  have N0 := Fr.nil n0
  have pre0 : ∀ t, Steps p.tables e below (s₁.setTop (mkF m 0 #[.val (.int p1), .val (.int p2), .val (.long q3), .second] [])) t → Steps p.tables e below (s₁.setTop (entryFrame m #[(.int p1), (.int p2), (.long q3)] 4)) t := fun t k => castTop (ef5_2 m p1 p2 q3) k
  obtain ⟨fs, hr, hrun, hended, hW, hsame⟩ := X0.leave (v := some (.int (0 : Int32))) (fun h => by rw [Bd.returns] at h; cases h)
  refine ⟨_, _, pre0 _ ?_, hrun, hended, _, _, rfl, ?_, ⟨_, rfl⟩, hW, hsame.mono (by decide) (by decide)⟩
  · show Steps p.tables e below (s₁.setTop (mkF m 0 #[.val (.int p1), .val (.int p2), .val (.long q3), .second] [])) _
    refine XS.lloadN X0.here hx rfl (hb hby d5_0) rfl ?_
    show Steps p.tables e below (s₁.setTop (mkF m 1 #[.val (.int p1), .val (.int p2), .val (.long q3), .second] [(.long q3)])) _
    refine XS.iloadN X0.here hx rfl (hb hby d5_1) rfl ?_
    show Steps p.tables e below (s₁.setTop (mkF m 2 #[.val (.int p1), .val (.int p2), .val (.long q3), .second] [(.int p1), (.long q3)])) _
    refine XS.i2l X0.here hx rfl (hb hby d5_2) rfl ?_
    show Steps p.tables e below (s₁.setTop (mkF m 3 #[.val (.int p1), .val (.int p2), .val (.long q3), .second] [(.long (p1.toInt64)), (.long q3)])) _
    refine XS.lcmp X0.here hx rfl (hb hby d5_3) rfl ?_
    show Steps p.tables e below (s₁.setTop (mkF m 4 #[.val (.int p1), .val (.int p2), .val (.long q3), .second] [(.int (lcmpW q3 (p1.toInt64)))])) _
    refine XS.ifYes X0.here hx rfl (pc0 := 4) (pc' := 9) rfl (hb hby d5_4) rfl ((if0 _ _).trans (flt H1).2.1) (by decide) (by decide) ?_
    show Steps p.tables e below (s₁.setTop (mkF m 9 #[.val (.int p1), .val (.int p2), .val (.long q3), .second] [])) _
    refine XS.lloadN X0.here hx rfl (hb hby d5_9) rfl ?_
    show Steps p.tables e below (s₁.setTop (mkF m 10 #[.val (.int p1), .val (.int p2), .val (.long q3), .second] [(.long q3)])) _
    refine XS.iloadN X0.here hx rfl (hb hby d5_10) rfl ?_
    show Steps p.tables e below (s₁.setTop (mkF m 11 #[.val (.int p1), .val (.int p2), .val (.long q3), .second] [(.int p2), (.long q3)])) _
    refine XS.i2l X0.here hx rfl (hb hby d5_11) rfl ?_
    show Steps p.tables e below (s₁.setTop (mkF m 12 #[.val (.int p1), .val (.int p2), .val (.long q3), .second] [(.long (p2.toInt64)), (.long q3)])) _
    refine XS.lcmp X0.here hx rfl (hb hby d5_12) rfl ?_
    show Steps p.tables e below (s₁.setTop (mkF m 13 #[.val (.int p1), .val (.int p2), .val (.long q3), .second] [(.int (lcmpW q3 (p2.toInt64)))])) _
    refine XS.ifNo X0.here hx rfl (hb hby d5_13) rfl ((if0 _ _).trans (tlt H2).2.2.2) ?_
    show Steps p.tables e below (s₁.setTop (mkF m 16 #[.val (.int p1), .val (.int p2), .val (.long q3), .second] [])) _
    refine XS.iconst X0.here hx rfl (hb hby d5_16) ?_
    show Steps p.tables e below (s₁.setTop (mkF m 17 #[.val (.int p1), .val (.int p2), .val (.long q3), .second] [(.int (0 : Int32))])) _
    exact retN X0 hx (t := .boolean) Bd.returns (by simp) (hb hby d5_17) hr
  · show Q5_2 Z p1 p2 q3 h0 n0 _ s₁.heap _
    rw [e0]
    exact ⟨rfl, N0, rfl⟩
theorem ef5_3 (m : MethodId) (p1 : Int32) (p2 : Int32) (q3 : Int64) : entryFrame m #[(.int p1), (.int p2), (.long q3)] 4 = mkF m 0 #[.val (.int p1), .val (.int p2), .val (.long q3), .second] [] := by first | (simp [entryFrame, mkF, argsToLocals, Value.category]; done) | rfl
def Q5_3 (Z : State) (p1 : Int32) (p2 : Int32) (q3 : Int64) (h0 : Heap) (n0 : Nat) (v : Option Value) (h : Heap) (L : List Loc) : Prop := v = some (.int (1 : Int32)) ∧ Fr n0 L ∧ h = h0
set_option maxRecDepth 65536 in
set_option maxHeartbeats 40000000 in
theorem rm5_3 (l : Launch) (Z : State) (a0 : Array Value) (hw : ∀ d ∈ tables_1, d.before a0 Z = true) (ws : List Jvm.Cond) (p1 : Int32) (p2 : Int32) (q3 : Int64) (h0 : Heap) (n0 : Nat) (Z0 : n0 ≤ h0.size) (H1 : ¬ ((lcmpW q3 (p1.toInt64)) < (0 : Int32))) (H2 : ¬ ((0 : Int32) < (lcmpW q3 (p2.toInt64)))) :
    MetFree l (⟨"com/example/murmuration/murmuration/BoundsContainsPinLaw", "expected", "(IIJ)Z"⟩ : MethodName) (head1 (Jvm.Cond.code (⟨"com/example/murmuration/murmuration/BoundsContainsPinLaw", "expected", "(IIJ)Z"⟩ : MethodName) method_2_code 4 (some .boolean) :: ws) ({ frames := 0, cells := 0, slots := 0, locals := 0 } : Room)) (fun a U => a = #[(.int p1), (.int p2), (.long q3)] ∧ Z.Warmed39 U.vm ∧ U.heap = h0) (fun _ _ _ _ _ => True) (fun _ U o U' => ∃ v L, o = .returned v ∧ Q5_3 Z p1 p2 q3 h0 n0 v U'.heap L ∧ FrameEnd U o U' L ({ frames := 0, cells := 0, slots := 0, locals := 0 } : Room).cells ({ frames := 0, cells := 0, slots := 0, locals := 0 } : Room).slots) := by
  refine MetFree.of_bodySF (plainFor_of_name pn_2) hisR ?_
  intro p e s m args below meth c s₁ Bd hml0 hP hK
  obtain ⟨rfl, hZ, hh⟩ := hP
  have hx := Bd.exec
  have hby := Bd.bytes
  have hml : c.maxLocals = 4 := hml0
  have hown : s.vm.findClass "com/example/murmuration/murmuration/BoundsContainsPinLaw" = some m.cls := findClass_of_methodNamed Bd.named
  have hnm := (name_of_methodNamed Bd.named Bd.method).1
  have X0 : Stand p l e ({ frames := 0, cells := 0, slots := 0, locals := 0 } : Room) s m #[(.int p1), (.int p2), (.long q3)] below meth c s₁ [] 0 0 := Stand.of_body Bd
  have e0 : s₁.heap = h0 := by rw [← hh, Bd.state]; rfl
  have N0 := Fr.nil n0
  have pre0 : ∀ t, Steps p.tables e below (s₁.setTop (mkF m 0 #[.val (.int p1), .val (.int p2), .val (.long q3), .second] [])) t → Steps p.tables e below (s₁.setTop (entryFrame m #[(.int p1), (.int p2), (.long q3)] 4)) t := fun t k => castTop (ef5_3 m p1 p2 q3) k
  obtain ⟨fs, hr, hrun, hended, hW, hsame⟩ := X0.leave (v := some (.int (1 : Int32))) (fun h => by rw [Bd.returns] at h; cases h)
  refine ⟨_, _, pre0 _ ?_, hrun, hended, _, _, rfl, ?_, ⟨_, rfl⟩, hW, hsame.mono (by decide) (by decide)⟩
  · show Steps p.tables e below (s₁.setTop (mkF m 0 #[.val (.int p1), .val (.int p2), .val (.long q3), .second] [])) _
    refine XS.lloadN X0.here hx rfl (hb hby d5_0) rfl ?_
    show Steps p.tables e below (s₁.setTop (mkF m 1 #[.val (.int p1), .val (.int p2), .val (.long q3), .second] [(.long q3)])) _
    refine XS.iloadN X0.here hx rfl (hb hby d5_1) rfl ?_
    show Steps p.tables e below (s₁.setTop (mkF m 2 #[.val (.int p1), .val (.int p2), .val (.long q3), .second] [(.int p1), (.long q3)])) _
    refine XS.i2l X0.here hx rfl (hb hby d5_2) rfl ?_
    show Steps p.tables e below (s₁.setTop (mkF m 3 #[.val (.int p1), .val (.int p2), .val (.long q3), .second] [(.long (p1.toInt64)), (.long q3)])) _
    refine XS.lcmp X0.here hx rfl (hb hby d5_3) rfl ?_
    show Steps p.tables e below (s₁.setTop (mkF m 4 #[.val (.int p1), .val (.int p2), .val (.long q3), .second] [(.int (lcmpW q3 (p1.toInt64)))])) _
    refine XS.ifYes X0.here hx rfl (pc0 := 4) (pc' := 9) rfl (hb hby d5_4) rfl ((if0 _ _).trans (flt H1).2.1) (by decide) (by decide) ?_
    show Steps p.tables e below (s₁.setTop (mkF m 9 #[.val (.int p1), .val (.int p2), .val (.long q3), .second] [])) _
    refine XS.lloadN X0.here hx rfl (hb hby d5_9) rfl ?_
    show Steps p.tables e below (s₁.setTop (mkF m 10 #[.val (.int p1), .val (.int p2), .val (.long q3), .second] [(.long q3)])) _
    refine XS.iloadN X0.here hx rfl (hb hby d5_10) rfl ?_
    show Steps p.tables e below (s₁.setTop (mkF m 11 #[.val (.int p1), .val (.int p2), .val (.long q3), .second] [(.int p2), (.long q3)])) _
    refine XS.i2l X0.here hx rfl (hb hby d5_11) rfl ?_
    show Steps p.tables e below (s₁.setTop (mkF m 12 #[.val (.int p1), .val (.int p2), .val (.long q3), .second] [(.long (p2.toInt64)), (.long q3)])) _
    refine XS.lcmp X0.here hx rfl (hb hby d5_12) rfl ?_
    show Steps p.tables e below (s₁.setTop (mkF m 13 #[.val (.int p1), .val (.int p2), .val (.long q3), .second] [(.int (lcmpW q3 (p2.toInt64)))])) _
    refine XS.ifYes X0.here hx rfl (pc0 := 13) (pc' := 18) rfl (hb hby d5_13) rfl ((if0 _ _).trans (flt H2).2.2.2) (by decide) (by decide) ?_
    show Steps p.tables e below (s₁.setTop (mkF m 18 #[.val (.int p1), .val (.int p2), .val (.long q3), .second] [])) _
    refine XS.iconst X0.here hx rfl (hb hby d5_18) ?_
    show Steps p.tables e below (s₁.setTop (mkF m 19 #[.val (.int p1), .val (.int p2), .val (.long q3), .second] [(.int (1 : Int32))])) _
    exact retN X0 hx (t := .boolean) Bd.returns (by simp) (hb hby d5_19) hr
  · show Q5_3 Z p1 p2 q3 h0 n0 _ s₁.heap _
    rw [e0]
    exact ⟨rfl, N0, rfl⟩
def Q5_4 (Z : State) (p1 : Int32) (p2 : Int32) (q3 : Int64) (h0 : Heap) (n0 : Nat) (v : Option Value) (h : Heap) (L : List Loc) : Prop := v = some (.int (va1 q3 p1 p2)) ∧ Fr n0 L ∧ h = h0
set_option maxRecDepth 65536 in
set_option maxHeartbeats 40000000 in
theorem rm5_4 (l : Launch) (Z : State) (a0 : Array Value) (hw : ∀ d ∈ tables_1, d.before a0 Z = true) (ws : List Jvm.Cond) (p1 : Int32) (p2 : Int32) (q3 : Int64) (h0 : Heap) (n0 : Nat) (Z0 : n0 ≤ h0.size) :
    MetFree l (⟨"com/example/murmuration/murmuration/BoundsContainsPinLaw", "expected", "(IIJ)Z"⟩ : MethodName) (head1 (Jvm.Cond.code (⟨"com/example/murmuration/murmuration/BoundsContainsPinLaw", "expected", "(IIJ)Z"⟩ : MethodName) method_2_code 4 (some .boolean) :: ws) ({ frames := 0, cells := 0, slots := 0, locals := 0 } : Room)) (fun a U => a = #[(.int p1), (.int p2), (.long q3)] ∧ Z.Warmed39 U.vm ∧ U.heap = h0) (fun _ _ _ _ _ => True) (fun _ U o U' => ∃ v L, o = .returned v ∧ Q5_4 Z p1 p2 q3 h0 n0 v U'.heap L ∧ FrameEnd U o U' L ({ frames := 0, cells := 0, slots := 0, locals := 0 } : Room).cells ({ frames := 0, cells := 0, slots := 0, locals := 0 } : Room).slots) := by
  unfold Q5_4
  by_cases H1 : (lcmpW q3 (p1.toInt64)) < (0 : Int32)
  ·
    rw [show (va1 q3 p1 p2) = (0 : Int32) from by simp only [va1, if_pos H1]]
    exact rm5_1 l Z a0 hw ws p1 p2 q3 h0 n0 Z0 H1
  ·
    by_cases H2 : (0 : Int32) < (lcmpW q3 (p2.toInt64))
    ·
      rw [show (va1 q3 p1 p2) = (0 : Int32) from by simp only [va1, if_neg H1, if_pos H2]]
      exact rm5_2 l Z a0 hw ws p1 p2 q3 h0 n0 Z0 H1 H2
    ·
      rw [show (va1 q3 p1 p2) = (1 : Int32) from by simp only [va1, if_neg H1, if_neg H2]]
      exact rm5_3 l Z a0 hw ws p1 p2 q3 h0 n0 Z0 H1 H2
theorem ef4_5 (m : MethodId) (a1 : Addr) (q2 : Int64) (p3 : Int32) (p5 : Int32) : entryFrame m #[(.ref a1), (.long q2)] 3 = mkF m 0 #[.val (.ref a1), .val (.long q2), .second] [] := by first | (simp [entryFrame, mkF, argsToLocals, Value.category]; done) | rfl
def Q4_5 (Z : State) (a1 : Addr) (q2 : Int64) (p3 : Int32) (p5 : Int32) (h0 : Heap) (n0 : Nat) (v : Option Value) (h : Heap) (L : List Loc) : Prop := v = some (.int (0 : Int32)) ∧ Fr n0 L ∧ h = h0
set_option maxRecDepth 65536 in
set_option maxHeartbeats 40000000 in
theorem rm4_5 (l : Launch) (Z : State) (a0 : Array Value) (hw : ∀ d ∈ tables_1, d.before a0 Z = true) (ws : List Jvm.Cond) (a1 : Addr) (q2 : Int64) (p3 : Int32) (p5 : Int32) (h0 : Heap) (n0 : Nat) (Z0 : n0 ≤ h0.size) (P1 : Fld Z h0 a1 "com/example/murmuration/murmuration/Bounds" "minimum" "I" (.int p3)) (P2 : ¬ ((lcmpW q2 (p3.toInt64)) < (0 : Int32))) (P3 : Fld Z h0 a1 "com/example/murmuration/murmuration/Bounds" "maximum" "I" (.int p5)) (H1 : (0 : Int32) < (lcmpW q2 (p5.toInt64))) :
    MetFree l (⟨"com/example/murmuration/murmuration/Bounds", "contains", "(J)Z"⟩ : MethodName) (head1 (Jvm.Cond.code (⟨"com/example/murmuration/murmuration/Bounds", "contains", "(J)Z"⟩ : MethodName) prog_5_method_2_code 3 (some .boolean) :: ws) ({ frames := 0, cells := 0, slots := 0, locals := 0 } : Room)) (fun a U => a = #[(.ref a1), (.long q2)] ∧ Z.Warmed39 U.vm ∧ U.heap = h0) (fun _ _ _ _ _ => True) (fun _ U o U' => ∃ v L, o = .returned v ∧ Q4_5 Z a1 q2 p3 p5 h0 n0 v U'.heap L ∧ FrameEnd U o U' L ({ frames := 0, cells := 0, slots := 0, locals := 0 } : Room).cells ({ frames := 0, cells := 0, slots := 0, locals := 0 } : Room).slots) := by
  refine MetFree.of_bodySF (plainFor_of_name pn_1) hisR ?_
  intro p e s m args below meth c s₁ Bd hml0 hP hK
  obtain ⟨rfl, hZ, hh⟩ := hP
  have hx := Bd.exec
  have hby := Bd.bytes
  have hml : c.maxLocals = 3 := hml0
  have hown : s.vm.findClass "com/example/murmuration/murmuration/Bounds" = some m.cls := findClass_of_methodNamed Bd.named
  have hnm := (name_of_methodNamed Bd.named Bd.method).1
  have X0 : Stand p l e ({ frames := 0, cells := 0, slots := 0, locals := 0 } : Room) s m #[(.ref a1), (.long q2)] below meth c s₁ [] 0 0 := Stand.of_body Bd
  have e0 : s₁.heap = h0 := by rw [← hh, Bd.state]; rfl
  have N0 := Fr.nil n0
  have pre0 : ∀ t, Steps p.tables e below (s₁.setTop (mkF m 0 #[.val (.ref a1), .val (.long q2), .second] [])) t → Steps p.tables e below (s₁.setTop (entryFrame m #[(.ref a1), (.long q2)] 3)) t := fun t k => castTop (ef4_5 m a1 q2 p3 p5) k
  obtain ⟨T4, X4, e4, st4⟩ := getF X0 hx hZ hown (host := "") (Or.inl (tw_14 hw)) Via.refl e0 P1 (g := (mkF m 2 #[.val (.ref a1), .val (.long q2), .second] [(.ref a1), (.long q2)])) rfl rfl (hb hby d4_2)
  obtain ⟨T6, X6, e6, st6⟩ := getF X4 hx hZ hown (host := "") (Or.inl (tw_16 hw)) Via.refl e4 P3 (g := (mkF m 12 #[.val (.ref a1), .val (.long q2), .second] [(.ref a1), (.long q2)])) rfl rfl (hb hby d4_12)
  obtain ⟨fs, hr, hrun, hended, hW, hsame⟩ := X6.leave (v := some (.int (0 : Int32))) (fun h => by rw [Bd.returns] at h; cases h)
  refine ⟨_, _, pre0 _ ?_, hrun, hended, _, _, rfl, ?_, ⟨_, rfl⟩, hW, hsame.mono (by decide) (by decide)⟩
  · show Steps p.tables e below (s₁.setTop (mkF m 0 #[.val (.ref a1), .val (.long q2), .second] [])) _
    refine XS.lloadN X0.here hx rfl (hb hby d4_0) rfl ?_
    show Steps p.tables e below (s₁.setTop (mkF m 1 #[.val (.ref a1), .val (.long q2), .second] [(.long q2)])) _
    refine XS.aloadN X0.here hx rfl (hb hby d4_1) rfl rfl ?_
    show Steps p.tables e below (s₁.setTop (mkF m 2 #[.val (.ref a1), .val (.long q2), .second] [(.ref a1), (.long q2)])) _
    refine st4 _ ?_
    show Steps p.tables e below (T4.setTop (mkF m 5 #[.val (.ref a1), .val (.long q2), .second] [(.int p3), (.long q2)])) _
    refine XS.i2l X4.here hx rfl (hb hby d4_5) rfl ?_
    show Steps p.tables e below (T4.setTop (mkF m 6 #[.val (.ref a1), .val (.long q2), .second] [(.long (p3.toInt64)), (.long q2)])) _
    refine XS.lcmp X4.here hx rfl (hb hby d4_6) rfl ?_
    show Steps p.tables e below (T4.setTop (mkF m 7 #[.val (.ref a1), .val (.long q2), .second] [(.int (lcmpW q2 (p3.toInt64)))])) _
    refine XS.ifNo X4.here hx rfl (hb hby d4_7) rfl ((if0 _ _).trans (flt P2).1) ?_
    show Steps p.tables e below (T4.setTop (mkF m 10 #[.val (.ref a1), .val (.long q2), .second] [])) _
    refine XS.lloadN X4.here hx rfl (hb hby d4_10) rfl ?_
    show Steps p.tables e below (T4.setTop (mkF m 11 #[.val (.ref a1), .val (.long q2), .second] [(.long q2)])) _
    refine XS.aloadN X4.here hx rfl (hb hby d4_11) rfl rfl ?_
    show Steps p.tables e below (T4.setTop (mkF m 12 #[.val (.ref a1), .val (.long q2), .second] [(.ref a1), (.long q2)])) _
    refine st6 _ ?_
    show Steps p.tables e below (T6.setTop (mkF m 15 #[.val (.ref a1), .val (.long q2), .second] [(.int p5), (.long q2)])) _
    refine XS.i2l X6.here hx rfl (hb hby d4_15) rfl ?_
    show Steps p.tables e below (T6.setTop (mkF m 16 #[.val (.ref a1), .val (.long q2), .second] [(.long (p5.toInt64)), (.long q2)])) _
    refine XS.lcmp X6.here hx rfl (hb hby d4_16) rfl ?_
    show Steps p.tables e below (T6.setTop (mkF m 17 #[.val (.ref a1), .val (.long q2), .second] [(.int (lcmpW q2 (p5.toInt64)))])) _
    refine XS.ifYes X6.here hx rfl (pc0 := 17) (pc' := 24) rfl (hb hby d4_17) rfl ((if0 _ _).trans (tlt H1).2.2.1) (by decide) (by decide) ?_
    show Steps p.tables e below (T6.setTop (mkF m 24 #[.val (.ref a1), .val (.long q2), .second] [])) _
    refine XS.iconst X6.here hx rfl (hb hby d4_24) ?_
    show Steps p.tables e below (T6.setTop (mkF m 25 #[.val (.ref a1), .val (.long q2), .second] [(.int (0 : Int32))])) _
    exact retN X6 hx (t := .boolean) Bd.returns (by simp) (hb hby d4_25) hr
  · show Q4_5 Z a1 q2 p3 p5 h0 n0 _ T6.heap _
    rw [e6]
    exact ⟨rfl, N0, rfl⟩
theorem ef4_6 (m : MethodId) (a1 : Addr) (q2 : Int64) (p3 : Int32) (p5 : Int32) : entryFrame m #[(.ref a1), (.long q2)] 3 = mkF m 0 #[.val (.ref a1), .val (.long q2), .second] [] := by first | (simp [entryFrame, mkF, argsToLocals, Value.category]; done) | rfl
def Q4_6 (Z : State) (a1 : Addr) (q2 : Int64) (p3 : Int32) (p5 : Int32) (h0 : Heap) (n0 : Nat) (v : Option Value) (h : Heap) (L : List Loc) : Prop := v = some (.int (1 : Int32)) ∧ Fr n0 L ∧ h = h0
set_option maxRecDepth 65536 in
set_option maxHeartbeats 40000000 in
theorem rm4_6 (l : Launch) (Z : State) (a0 : Array Value) (hw : ∀ d ∈ tables_1, d.before a0 Z = true) (ws : List Jvm.Cond) (a1 : Addr) (q2 : Int64) (p3 : Int32) (p5 : Int32) (h0 : Heap) (n0 : Nat) (Z0 : n0 ≤ h0.size) (P1 : Fld Z h0 a1 "com/example/murmuration/murmuration/Bounds" "minimum" "I" (.int p3)) (P2 : ¬ ((lcmpW q2 (p3.toInt64)) < (0 : Int32))) (P3 : Fld Z h0 a1 "com/example/murmuration/murmuration/Bounds" "maximum" "I" (.int p5)) (H1 : ¬ ((0 : Int32) < (lcmpW q2 (p5.toInt64)))) :
    MetFree l (⟨"com/example/murmuration/murmuration/Bounds", "contains", "(J)Z"⟩ : MethodName) (head1 (Jvm.Cond.code (⟨"com/example/murmuration/murmuration/Bounds", "contains", "(J)Z"⟩ : MethodName) prog_5_method_2_code 3 (some .boolean) :: ws) ({ frames := 0, cells := 0, slots := 0, locals := 0 } : Room)) (fun a U => a = #[(.ref a1), (.long q2)] ∧ Z.Warmed39 U.vm ∧ U.heap = h0) (fun _ _ _ _ _ => True) (fun _ U o U' => ∃ v L, o = .returned v ∧ Q4_6 Z a1 q2 p3 p5 h0 n0 v U'.heap L ∧ FrameEnd U o U' L ({ frames := 0, cells := 0, slots := 0, locals := 0 } : Room).cells ({ frames := 0, cells := 0, slots := 0, locals := 0 } : Room).slots) := by
  refine MetFree.of_bodySF (plainFor_of_name pn_1) hisR ?_
  intro p e s m args below meth c s₁ Bd hml0 hP hK
  obtain ⟨rfl, hZ, hh⟩ := hP
  have hx := Bd.exec
  have hby := Bd.bytes
  have hml : c.maxLocals = 3 := hml0
  have hown : s.vm.findClass "com/example/murmuration/murmuration/Bounds" = some m.cls := findClass_of_methodNamed Bd.named
  have hnm := (name_of_methodNamed Bd.named Bd.method).1
  have X0 : Stand p l e ({ frames := 0, cells := 0, slots := 0, locals := 0 } : Room) s m #[(.ref a1), (.long q2)] below meth c s₁ [] 0 0 := Stand.of_body Bd
  have e0 : s₁.heap = h0 := by rw [← hh, Bd.state]; rfl
  have N0 := Fr.nil n0
  have pre0 : ∀ t, Steps p.tables e below (s₁.setTop (mkF m 0 #[.val (.ref a1), .val (.long q2), .second] [])) t → Steps p.tables e below (s₁.setTop (entryFrame m #[(.ref a1), (.long q2)] 3)) t := fun t k => castTop (ef4_6 m a1 q2 p3 p5) k
  obtain ⟨T4, X4, e4, st4⟩ := getF X0 hx hZ hown (host := "") (Or.inl (tw_14 hw)) Via.refl e0 P1 (g := (mkF m 2 #[.val (.ref a1), .val (.long q2), .second] [(.ref a1), (.long q2)])) rfl rfl (hb hby d4_2)
  obtain ⟨T6, X6, e6, st6⟩ := getF X4 hx hZ hown (host := "") (Or.inl (tw_16 hw)) Via.refl e4 P3 (g := (mkF m 12 #[.val (.ref a1), .val (.long q2), .second] [(.ref a1), (.long q2)])) rfl rfl (hb hby d4_12)
  obtain ⟨fs, hr, hrun, hended, hW, hsame⟩ := X6.leave (v := some (.int (1 : Int32))) (fun h => by rw [Bd.returns] at h; cases h)
  refine ⟨_, _, pre0 _ ?_, hrun, hended, _, _, rfl, ?_, ⟨_, rfl⟩, hW, hsame.mono (by decide) (by decide)⟩
  · show Steps p.tables e below (s₁.setTop (mkF m 0 #[.val (.ref a1), .val (.long q2), .second] [])) _
    refine XS.lloadN X0.here hx rfl (hb hby d4_0) rfl ?_
    show Steps p.tables e below (s₁.setTop (mkF m 1 #[.val (.ref a1), .val (.long q2), .second] [(.long q2)])) _
    refine XS.aloadN X0.here hx rfl (hb hby d4_1) rfl rfl ?_
    show Steps p.tables e below (s₁.setTop (mkF m 2 #[.val (.ref a1), .val (.long q2), .second] [(.ref a1), (.long q2)])) _
    refine st4 _ ?_
    show Steps p.tables e below (T4.setTop (mkF m 5 #[.val (.ref a1), .val (.long q2), .second] [(.int p3), (.long q2)])) _
    refine XS.i2l X4.here hx rfl (hb hby d4_5) rfl ?_
    show Steps p.tables e below (T4.setTop (mkF m 6 #[.val (.ref a1), .val (.long q2), .second] [(.long (p3.toInt64)), (.long q2)])) _
    refine XS.lcmp X4.here hx rfl (hb hby d4_6) rfl ?_
    show Steps p.tables e below (T4.setTop (mkF m 7 #[.val (.ref a1), .val (.long q2), .second] [(.int (lcmpW q2 (p3.toInt64)))])) _
    refine XS.ifNo X4.here hx rfl (hb hby d4_7) rfl ((if0 _ _).trans (flt P2).1) ?_
    show Steps p.tables e below (T4.setTop (mkF m 10 #[.val (.ref a1), .val (.long q2), .second] [])) _
    refine XS.lloadN X4.here hx rfl (hb hby d4_10) rfl ?_
    show Steps p.tables e below (T4.setTop (mkF m 11 #[.val (.ref a1), .val (.long q2), .second] [(.long q2)])) _
    refine XS.aloadN X4.here hx rfl (hb hby d4_11) rfl rfl ?_
    show Steps p.tables e below (T4.setTop (mkF m 12 #[.val (.ref a1), .val (.long q2), .second] [(.ref a1), (.long q2)])) _
    refine st6 _ ?_
    show Steps p.tables e below (T6.setTop (mkF m 15 #[.val (.ref a1), .val (.long q2), .second] [(.int p5), (.long q2)])) _
    refine XS.i2l X6.here hx rfl (hb hby d4_15) rfl ?_
    show Steps p.tables e below (T6.setTop (mkF m 16 #[.val (.ref a1), .val (.long q2), .second] [(.long (p5.toInt64)), (.long q2)])) _
    refine XS.lcmp X6.here hx rfl (hb hby d4_16) rfl ?_
    show Steps p.tables e below (T6.setTop (mkF m 17 #[.val (.ref a1), .val (.long q2), .second] [(.int (lcmpW q2 (p5.toInt64)))])) _
    refine XS.ifNo X6.here hx rfl (hb hby d4_17) rfl ((if0 _ _).trans (flt H1).2.2.1) ?_
    show Steps p.tables e below (T6.setTop (mkF m 20 #[.val (.ref a1), .val (.long q2), .second] [])) _
    refine XS.iconst X6.here hx rfl (hb hby d4_20) ?_
    show Steps p.tables e below (T6.setTop (mkF m 21 #[.val (.ref a1), .val (.long q2), .second] [(.int (1 : Int32))])) _
    refine XS.goto X6.here hx rfl (pc0 := 21) (pc' := 25) rfl (hb hby d4_21) (by decide) (by decide) ?_
    show Steps p.tables e below (T6.setTop (mkF m 25 #[.val (.ref a1), .val (.long q2), .second] [(.int (1 : Int32))])) _
    exact retN X6 hx (t := .boolean) Bd.returns (by simp) (hb hby d4_25) hr
  · show Q4_6 Z a1 q2 p3 p5 h0 n0 _ T6.heap _
    rw [e6]
    exact ⟨rfl, N0, rfl⟩
def Q4_7 (Z : State) (a1 : Addr) (q2 : Int64) (p3 : Int32) (p4 : Int32) (h0 : Heap) (n0 : Nat) (v : Option Value) (h : Heap) (L : List Loc) : Prop := v = some (.int (va3 q2 p4)) ∧ Fr n0 L ∧ h = h0
set_option maxRecDepth 65536 in
set_option maxHeartbeats 40000000 in
theorem rm4_7 (l : Launch) (Z : State) (a0 : Array Value) (hw : ∀ d ∈ tables_1, d.before a0 Z = true) (ws : List Jvm.Cond) (a1 : Addr) (q2 : Int64) (p3 : Int32) (p4 : Int32) (h0 : Heap) (n0 : Nat) (Z0 : n0 ≤ h0.size) (P1 : Fld Z h0 a1 "com/example/murmuration/murmuration/Bounds" "minimum" "I" (.int p3)) (P2 : ¬ ((lcmpW q2 (p3.toInt64)) < (0 : Int32))) (P3 : Fld Z h0 a1 "com/example/murmuration/murmuration/Bounds" "maximum" "I" (.int p4)) :
    MetFree l (⟨"com/example/murmuration/murmuration/Bounds", "contains", "(J)Z"⟩ : MethodName) (head1 (Jvm.Cond.code (⟨"com/example/murmuration/murmuration/Bounds", "contains", "(J)Z"⟩ : MethodName) prog_5_method_2_code 3 (some .boolean) :: ws) ({ frames := 0, cells := 0, slots := 0, locals := 0 } : Room)) (fun a U => a = #[(.ref a1), (.long q2)] ∧ Z.Warmed39 U.vm ∧ U.heap = h0) (fun _ _ _ _ _ => True) (fun _ U o U' => ∃ v L, o = .returned v ∧ Q4_7 Z a1 q2 p3 p4 h0 n0 v U'.heap L ∧ FrameEnd U o U' L ({ frames := 0, cells := 0, slots := 0, locals := 0 } : Room).cells ({ frames := 0, cells := 0, slots := 0, locals := 0 } : Room).slots) := by
  unfold Q4_7
  by_cases H1 : (0 : Int32) < (lcmpW q2 (p4.toInt64))
  ·
    rw [show (va3 q2 p4) = (0 : Int32) from by simp only [va3, if_pos H1]]
    exact rm4_5 l Z a0 hw ws a1 q2 p3 p4 h0 n0 Z0 P1 P2 P3 H1
  ·
    rw [show (va3 q2 p4) = (1 : Int32) from by simp only [va3, if_neg H1]]
    exact rm4_6 l Z a0 hw ws a1 q2 p3 p4 h0 n0 Z0 P1 P2 P3 H1
theorem ef4_8 (m : MethodId) (a1 : Addr) (q2 : Int64) (p3 : Int32) (p5 : Int32) : entryFrame m #[(.ref a1), (.long q2)] 3 = mkF m 0 #[.val (.ref a1), .val (.long q2), .second] [] := by first | (simp [entryFrame, mkF, argsToLocals, Value.category]; done) | rfl
def Q4_8 (Z : State) (a1 : Addr) (q2 : Int64) (p3 : Int32) (p5 : Int32) (h0 : Heap) (n0 : Nat) (v : Option Value) (h : Heap) (L : List Loc) : Prop := v = some (.int (1 : Int32)) ∧ Fr n0 L ∧ h = h0
set_option maxRecDepth 65536 in
set_option maxHeartbeats 40000000 in
theorem rm4_8 (l : Launch) (Z : State) (a0 : Array Value) (hw : ∀ d ∈ tables_1, d.before a0 Z = true) (ws : List Jvm.Cond) (a1 : Addr) (q2 : Int64) (p3 : Int32) (p5 : Int32) (h0 : Heap) (n0 : Nat) (Z0 : n0 ≤ h0.size) (P1 : Fld Z h0 a1 "com/example/murmuration/murmuration/Bounds" "minimum" "I" (.int p3)) (P2 : Fld Z h0 a1 "com/example/murmuration/murmuration/Bounds" "maximum" "I" (.int p5)) (P3 : ¬ ((0 : Int32) < (lcmpW q2 (p5.toInt64)))) (H1 : ¬ ((lcmpW q2 (p3.toInt64)) < (0 : Int32))) :
    MetFree l (⟨"com/example/murmuration/murmuration/Bounds", "contains", "(J)Z"⟩ : MethodName) (head1 (Jvm.Cond.code (⟨"com/example/murmuration/murmuration/Bounds", "contains", "(J)Z"⟩ : MethodName) prog_5_method_2_code 3 (some .boolean) :: ws) ({ frames := 0, cells := 0, slots := 0, locals := 0 } : Room)) (fun a U => a = #[(.ref a1), (.long q2)] ∧ Z.Warmed39 U.vm ∧ U.heap = h0) (fun _ _ _ _ _ => True) (fun _ U o U' => ∃ v L, o = .returned v ∧ Q4_8 Z a1 q2 p3 p5 h0 n0 v U'.heap L ∧ FrameEnd U o U' L ({ frames := 0, cells := 0, slots := 0, locals := 0 } : Room).cells ({ frames := 0, cells := 0, slots := 0, locals := 0 } : Room).slots) := by
  refine MetFree.of_bodySF (plainFor_of_name pn_1) hisR ?_
  intro p e s m args below meth c s₁ Bd hml0 hP hK
  obtain ⟨rfl, hZ, hh⟩ := hP
  have hx := Bd.exec
  have hby := Bd.bytes
  have hml : c.maxLocals = 3 := hml0
  have hown : s.vm.findClass "com/example/murmuration/murmuration/Bounds" = some m.cls := findClass_of_methodNamed Bd.named
  have hnm := (name_of_methodNamed Bd.named Bd.method).1
  have X0 : Stand p l e ({ frames := 0, cells := 0, slots := 0, locals := 0 } : Room) s m #[(.ref a1), (.long q2)] below meth c s₁ [] 0 0 := Stand.of_body Bd
  have e0 : s₁.heap = h0 := by rw [← hh, Bd.state]; rfl
  have N0 := Fr.nil n0
  have pre0 : ∀ t, Steps p.tables e below (s₁.setTop (mkF m 0 #[.val (.ref a1), .val (.long q2), .second] [])) t → Steps p.tables e below (s₁.setTop (entryFrame m #[(.ref a1), (.long q2)] 3)) t := fun t k => castTop (ef4_8 m a1 q2 p3 p5) k
  obtain ⟨T4, X4, e4, st4⟩ := getF X0 hx hZ hown (host := "") (Or.inl (tw_14 hw)) Via.refl e0 P1 (g := (mkF m 2 #[.val (.ref a1), .val (.long q2), .second] [(.ref a1), (.long q2)])) rfl rfl (hb hby d4_2)
  obtain ⟨T6, X6, e6, st6⟩ := getF X4 hx hZ hown (host := "") (Or.inl (tw_16 hw)) Via.refl e4 P2 (g := (mkF m 12 #[.val (.ref a1), .val (.long q2), .second] [(.ref a1), (.long q2)])) rfl rfl (hb hby d4_12)
  obtain ⟨fs, hr, hrun, hended, hW, hsame⟩ := X6.leave (v := some (.int (1 : Int32))) (fun h => by rw [Bd.returns] at h; cases h)
  refine ⟨_, _, pre0 _ ?_, hrun, hended, _, _, rfl, ?_, ⟨_, rfl⟩, hW, hsame.mono (by decide) (by decide)⟩
  · show Steps p.tables e below (s₁.setTop (mkF m 0 #[.val (.ref a1), .val (.long q2), .second] [])) _
    refine XS.lloadN X0.here hx rfl (hb hby d4_0) rfl ?_
    show Steps p.tables e below (s₁.setTop (mkF m 1 #[.val (.ref a1), .val (.long q2), .second] [(.long q2)])) _
    refine XS.aloadN X0.here hx rfl (hb hby d4_1) rfl rfl ?_
    show Steps p.tables e below (s₁.setTop (mkF m 2 #[.val (.ref a1), .val (.long q2), .second] [(.ref a1), (.long q2)])) _
    refine st4 _ ?_
    show Steps p.tables e below (T4.setTop (mkF m 5 #[.val (.ref a1), .val (.long q2), .second] [(.int p3), (.long q2)])) _
    refine XS.i2l X4.here hx rfl (hb hby d4_5) rfl ?_
    show Steps p.tables e below (T4.setTop (mkF m 6 #[.val (.ref a1), .val (.long q2), .second] [(.long (p3.toInt64)), (.long q2)])) _
    refine XS.lcmp X4.here hx rfl (hb hby d4_6) rfl ?_
    show Steps p.tables e below (T4.setTop (mkF m 7 #[.val (.ref a1), .val (.long q2), .second] [(.int (lcmpW q2 (p3.toInt64)))])) _
    refine XS.ifNo X4.here hx rfl (hb hby d4_7) rfl ((if0 _ _).trans (flt H1).1) ?_
    show Steps p.tables e below (T4.setTop (mkF m 10 #[.val (.ref a1), .val (.long q2), .second] [])) _
    refine XS.lloadN X4.here hx rfl (hb hby d4_10) rfl ?_
    show Steps p.tables e below (T4.setTop (mkF m 11 #[.val (.ref a1), .val (.long q2), .second] [(.long q2)])) _
    refine XS.aloadN X4.here hx rfl (hb hby d4_11) rfl rfl ?_
    show Steps p.tables e below (T4.setTop (mkF m 12 #[.val (.ref a1), .val (.long q2), .second] [(.ref a1), (.long q2)])) _
    refine st6 _ ?_
    show Steps p.tables e below (T6.setTop (mkF m 15 #[.val (.ref a1), .val (.long q2), .second] [(.int p5), (.long q2)])) _
    refine XS.i2l X6.here hx rfl (hb hby d4_15) rfl ?_
    show Steps p.tables e below (T6.setTop (mkF m 16 #[.val (.ref a1), .val (.long q2), .second] [(.long (p5.toInt64)), (.long q2)])) _
    refine XS.lcmp X6.here hx rfl (hb hby d4_16) rfl ?_
    show Steps p.tables e below (T6.setTop (mkF m 17 #[.val (.ref a1), .val (.long q2), .second] [(.int (lcmpW q2 (p5.toInt64)))])) _
    refine XS.ifNo X6.here hx rfl (hb hby d4_17) rfl ((if0 _ _).trans (flt P3).2.2.1) ?_
    show Steps p.tables e below (T6.setTop (mkF m 20 #[.val (.ref a1), .val (.long q2), .second] [])) _
    refine XS.iconst X6.here hx rfl (hb hby d4_20) ?_
    show Steps p.tables e below (T6.setTop (mkF m 21 #[.val (.ref a1), .val (.long q2), .second] [(.int (1 : Int32))])) _
    refine XS.goto X6.here hx rfl (pc0 := 21) (pc' := 25) rfl (hb hby d4_21) (by decide) (by decide) ?_
    show Steps p.tables e below (T6.setTop (mkF m 25 #[.val (.ref a1), .val (.long q2), .second] [(.int (1 : Int32))])) _
    exact retN X6 hx (t := .boolean) Bd.returns (by simp) (hb hby d4_25) hr
  · show Q4_8 Z a1 q2 p3 p5 h0 n0 _ T6.heap _
    rw [e6]
    exact ⟨rfl, N0, rfl⟩
def Q4_9 (Z : State) (a1 : Addr) (q2 : Int64) (p3 : Int32) (p4 : Int32) (h0 : Heap) (n0 : Nat) (v : Option Value) (h : Heap) (L : List Loc) : Prop := v = some (.int (va5 q2 p3)) ∧ Fr n0 L ∧ h = h0
set_option maxRecDepth 65536 in
set_option maxHeartbeats 40000000 in
theorem rm4_9 (l : Launch) (Z : State) (a0 : Array Value) (hw : ∀ d ∈ tables_1, d.before a0 Z = true) (ws : List Jvm.Cond) (a1 : Addr) (q2 : Int64) (p3 : Int32) (p4 : Int32) (h0 : Heap) (n0 : Nat) (Z0 : n0 ≤ h0.size) (P1 : Fld Z h0 a1 "com/example/murmuration/murmuration/Bounds" "minimum" "I" (.int p3)) (P2 : Fld Z h0 a1 "com/example/murmuration/murmuration/Bounds" "maximum" "I" (.int p4)) (P3 : ¬ ((0 : Int32) < (lcmpW q2 (p4.toInt64)))) :
    MetFree l (⟨"com/example/murmuration/murmuration/Bounds", "contains", "(J)Z"⟩ : MethodName) (head1 (Jvm.Cond.code (⟨"com/example/murmuration/murmuration/Bounds", "contains", "(J)Z"⟩ : MethodName) prog_5_method_2_code 3 (some .boolean) :: ws) ({ frames := 0, cells := 0, slots := 0, locals := 0 } : Room)) (fun a U => a = #[(.ref a1), (.long q2)] ∧ Z.Warmed39 U.vm ∧ U.heap = h0) (fun _ _ _ _ _ => True) (fun _ U o U' => ∃ v L, o = .returned v ∧ Q4_9 Z a1 q2 p3 p4 h0 n0 v U'.heap L ∧ FrameEnd U o U' L ({ frames := 0, cells := 0, slots := 0, locals := 0 } : Room).cells ({ frames := 0, cells := 0, slots := 0, locals := 0 } : Room).slots) := by
  unfold Q4_9
  by_cases H1 : (lcmpW q2 (p3.toInt64)) < (0 : Int32)
  ·
    rw [show (va5 q2 p3) = (0 : Int32) from by simp only [va5, if_pos H1]]
    exact rm4_1 l Z a0 hw ws a1 q2 p3 h0 n0 Z0 P1 H1
  ·
    rw [show (va5 q2 p3) = (1 : Int32) from by simp only [va5, if_neg H1]]
    exact rm4_8 l Z a0 hw ws a1 q2 p3 p4 h0 n0 Z0 P1 P2 P3 H1
theorem ef4_10 (m : MethodId) (a1 : Addr) (q2 : Int64) (p3 : Int32) : entryFrame m #[(.ref a1), (.long q2)] 3 = mkF m 0 #[.val (.ref a1), .val (.long q2), .second] [] := by first | (simp [entryFrame, mkF, argsToLocals, Value.category]; done) | rfl
def Q4_10 (Z : State) (a1 : Addr) (q2 : Int64) (p3 : Int32) (h0 : Heap) (n0 : Nat) (v : Option Value) (h : Heap) (L : List Loc) : Prop := v = some (.int (0 : Int32)) ∧ Fr n0 L ∧ h = h0
set_option maxRecDepth 65536 in
set_option maxHeartbeats 40000000 in
theorem rm4_10 (l : Launch) (Z : State) (a0 : Array Value) (hw : ∀ d ∈ tables_1, d.before a0 Z = true) (ws : List Jvm.Cond) (a1 : Addr) (q2 : Int64) (p3 : Int32) (h0 : Heap) (n0 : Nat) (Z0 : n0 ≤ h0.size) (P1 : Fld Z h0 a1 "com/example/murmuration/murmuration/Bounds" "minimum" "I" (.int p3)) (P2 : (lcmpW q2 (p3.toInt64)) < (0 : Int32)) :
    MetFree l (⟨"com/example/murmuration/murmuration/Bounds", "contains", "(J)Z"⟩ : MethodName) (head1 (Jvm.Cond.code (⟨"com/example/murmuration/murmuration/Bounds", "contains", "(J)Z"⟩ : MethodName) prog_5_method_2_code 3 (some .boolean) :: ws) ({ frames := 0, cells := 0, slots := 0, locals := 0 } : Room)) (fun a U => a = #[(.ref a1), (.long q2)] ∧ Z.Warmed39 U.vm ∧ U.heap = h0) (fun _ _ _ _ _ => True) (fun _ U o U' => ∃ v L, o = .returned v ∧ Q4_10 Z a1 q2 p3 h0 n0 v U'.heap L ∧ FrameEnd U o U' L ({ frames := 0, cells := 0, slots := 0, locals := 0 } : Room).cells ({ frames := 0, cells := 0, slots := 0, locals := 0 } : Room).slots) := by
  refine MetFree.of_bodySF (plainFor_of_name pn_1) hisR ?_
  intro p e s m args below meth c s₁ Bd hml0 hP hK
  obtain ⟨rfl, hZ, hh⟩ := hP
  have hx := Bd.exec
  have hby := Bd.bytes
  have hml : c.maxLocals = 3 := hml0
  have hown : s.vm.findClass "com/example/murmuration/murmuration/Bounds" = some m.cls := findClass_of_methodNamed Bd.named
  have hnm := (name_of_methodNamed Bd.named Bd.method).1
  have X0 : Stand p l e ({ frames := 0, cells := 0, slots := 0, locals := 0 } : Room) s m #[(.ref a1), (.long q2)] below meth c s₁ [] 0 0 := Stand.of_body Bd
  have e0 : s₁.heap = h0 := by rw [← hh, Bd.state]; rfl
  have N0 := Fr.nil n0
  have pre0 : ∀ t, Steps p.tables e below (s₁.setTop (mkF m 0 #[.val (.ref a1), .val (.long q2), .second] [])) t → Steps p.tables e below (s₁.setTop (entryFrame m #[(.ref a1), (.long q2)] 3)) t := fun t k => castTop (ef4_10 m a1 q2 p3) k
  obtain ⟨T4, X4, e4, st4⟩ := getF X0 hx hZ hown (host := "") (Or.inl (tw_14 hw)) Via.refl e0 P1 (g := (mkF m 2 #[.val (.ref a1), .val (.long q2), .second] [(.ref a1), (.long q2)])) rfl rfl (hb hby d4_2)
  obtain ⟨fs, hr, hrun, hended, hW, hsame⟩ := X4.leave (v := some (.int (0 : Int32))) (fun h => by rw [Bd.returns] at h; cases h)
  refine ⟨_, _, pre0 _ ?_, hrun, hended, _, _, rfl, ?_, ⟨_, rfl⟩, hW, hsame.mono (by decide) (by decide)⟩
  · show Steps p.tables e below (s₁.setTop (mkF m 0 #[.val (.ref a1), .val (.long q2), .second] [])) _
    refine XS.lloadN X0.here hx rfl (hb hby d4_0) rfl ?_
    show Steps p.tables e below (s₁.setTop (mkF m 1 #[.val (.ref a1), .val (.long q2), .second] [(.long q2)])) _
    refine XS.aloadN X0.here hx rfl (hb hby d4_1) rfl rfl ?_
    show Steps p.tables e below (s₁.setTop (mkF m 2 #[.val (.ref a1), .val (.long q2), .second] [(.ref a1), (.long q2)])) _
    refine st4 _ ?_
    show Steps p.tables e below (T4.setTop (mkF m 5 #[.val (.ref a1), .val (.long q2), .second] [(.int p3), (.long q2)])) _
    refine XS.i2l X4.here hx rfl (hb hby d4_5) rfl ?_
    show Steps p.tables e below (T4.setTop (mkF m 6 #[.val (.ref a1), .val (.long q2), .second] [(.long (p3.toInt64)), (.long q2)])) _
    refine XS.lcmp X4.here hx rfl (hb hby d4_6) rfl ?_
    show Steps p.tables e below (T4.setTop (mkF m 7 #[.val (.ref a1), .val (.long q2), .second] [(.int (lcmpW q2 (p3.toInt64)))])) _
    refine XS.ifYes X4.here hx rfl (pc0 := 7) (pc' := 24) rfl (hb hby d4_7) rfl ((if0 _ _).trans (tlt P2).1) (by decide) (by decide) ?_
    show Steps p.tables e below (T4.setTop (mkF m 24 #[.val (.ref a1), .val (.long q2), .second] [])) _
    refine XS.iconst X4.here hx rfl (hb hby d4_24) ?_
    show Steps p.tables e below (T4.setTop (mkF m 25 #[.val (.ref a1), .val (.long q2), .second] [(.int (0 : Int32))])) _
    exact retN X4 hx (t := .boolean) Bd.returns (by simp) (hb hby d4_25) hr
  · show Q4_10 Z a1 q2 p3 h0 n0 _ T4.heap _
    rw [e4]
    exact ⟨rfl, N0, rfl⟩
theorem ef4_11 (m : MethodId) (a1 : Addr) (q2 : Int64) (p3 : Int32) (p5 : Int32) : entryFrame m #[(.ref a1), (.long q2)] 3 = mkF m 0 #[.val (.ref a1), .val (.long q2), .second] [] := by first | (simp [entryFrame, mkF, argsToLocals, Value.category]; done) | rfl
def Q4_11 (Z : State) (a1 : Addr) (q2 : Int64) (p3 : Int32) (p5 : Int32) (h0 : Heap) (n0 : Nat) (v : Option Value) (h : Heap) (L : List Loc) : Prop := v = some (.int (0 : Int32)) ∧ Fr n0 L ∧ h = h0
set_option maxRecDepth 65536 in
set_option maxHeartbeats 40000000 in
theorem rm4_11 (l : Launch) (Z : State) (a0 : Array Value) (hw : ∀ d ∈ tables_1, d.before a0 Z = true) (ws : List Jvm.Cond) (a1 : Addr) (q2 : Int64) (p3 : Int32) (p5 : Int32) (h0 : Heap) (n0 : Nat) (Z0 : n0 ≤ h0.size) (P1 : Fld Z h0 a1 "com/example/murmuration/murmuration/Bounds" "minimum" "I" (.int p3)) (P2 : Fld Z h0 a1 "com/example/murmuration/murmuration/Bounds" "maximum" "I" (.int p5)) (P3 : (0 : Int32) < (lcmpW q2 (p5.toInt64))) (H1 : ¬ ((lcmpW q2 (p3.toInt64)) < (0 : Int32))) :
    MetFree l (⟨"com/example/murmuration/murmuration/Bounds", "contains", "(J)Z"⟩ : MethodName) (head1 (Jvm.Cond.code (⟨"com/example/murmuration/murmuration/Bounds", "contains", "(J)Z"⟩ : MethodName) prog_5_method_2_code 3 (some .boolean) :: ws) ({ frames := 0, cells := 0, slots := 0, locals := 0 } : Room)) (fun a U => a = #[(.ref a1), (.long q2)] ∧ Z.Warmed39 U.vm ∧ U.heap = h0) (fun _ _ _ _ _ => True) (fun _ U o U' => ∃ v L, o = .returned v ∧ Q4_11 Z a1 q2 p3 p5 h0 n0 v U'.heap L ∧ FrameEnd U o U' L ({ frames := 0, cells := 0, slots := 0, locals := 0 } : Room).cells ({ frames := 0, cells := 0, slots := 0, locals := 0 } : Room).slots) := by
  refine MetFree.of_bodySF (plainFor_of_name pn_1) hisR ?_
  intro p e s m args below meth c s₁ Bd hml0 hP hK
  obtain ⟨rfl, hZ, hh⟩ := hP
  have hx := Bd.exec
  have hby := Bd.bytes
  have hml : c.maxLocals = 3 := hml0
  have hown : s.vm.findClass "com/example/murmuration/murmuration/Bounds" = some m.cls := findClass_of_methodNamed Bd.named
  have hnm := (name_of_methodNamed Bd.named Bd.method).1
  have X0 : Stand p l e ({ frames := 0, cells := 0, slots := 0, locals := 0 } : Room) s m #[(.ref a1), (.long q2)] below meth c s₁ [] 0 0 := Stand.of_body Bd
  have e0 : s₁.heap = h0 := by rw [← hh, Bd.state]; rfl
  have N0 := Fr.nil n0
  have pre0 : ∀ t, Steps p.tables e below (s₁.setTop (mkF m 0 #[.val (.ref a1), .val (.long q2), .second] [])) t → Steps p.tables e below (s₁.setTop (entryFrame m #[(.ref a1), (.long q2)] 3)) t := fun t k => castTop (ef4_11 m a1 q2 p3 p5) k
  obtain ⟨T4, X4, e4, st4⟩ := getF X0 hx hZ hown (host := "") (Or.inl (tw_14 hw)) Via.refl e0 P1 (g := (mkF m 2 #[.val (.ref a1), .val (.long q2), .second] [(.ref a1), (.long q2)])) rfl rfl (hb hby d4_2)
  obtain ⟨T6, X6, e6, st6⟩ := getF X4 hx hZ hown (host := "") (Or.inl (tw_16 hw)) Via.refl e4 P2 (g := (mkF m 12 #[.val (.ref a1), .val (.long q2), .second] [(.ref a1), (.long q2)])) rfl rfl (hb hby d4_12)
  obtain ⟨fs, hr, hrun, hended, hW, hsame⟩ := X6.leave (v := some (.int (0 : Int32))) (fun h => by rw [Bd.returns] at h; cases h)
  refine ⟨_, _, pre0 _ ?_, hrun, hended, _, _, rfl, ?_, ⟨_, rfl⟩, hW, hsame.mono (by decide) (by decide)⟩
  · show Steps p.tables e below (s₁.setTop (mkF m 0 #[.val (.ref a1), .val (.long q2), .second] [])) _
    refine XS.lloadN X0.here hx rfl (hb hby d4_0) rfl ?_
    show Steps p.tables e below (s₁.setTop (mkF m 1 #[.val (.ref a1), .val (.long q2), .second] [(.long q2)])) _
    refine XS.aloadN X0.here hx rfl (hb hby d4_1) rfl rfl ?_
    show Steps p.tables e below (s₁.setTop (mkF m 2 #[.val (.ref a1), .val (.long q2), .second] [(.ref a1), (.long q2)])) _
    refine st4 _ ?_
    show Steps p.tables e below (T4.setTop (mkF m 5 #[.val (.ref a1), .val (.long q2), .second] [(.int p3), (.long q2)])) _
    refine XS.i2l X4.here hx rfl (hb hby d4_5) rfl ?_
    show Steps p.tables e below (T4.setTop (mkF m 6 #[.val (.ref a1), .val (.long q2), .second] [(.long (p3.toInt64)), (.long q2)])) _
    refine XS.lcmp X4.here hx rfl (hb hby d4_6) rfl ?_
    show Steps p.tables e below (T4.setTop (mkF m 7 #[.val (.ref a1), .val (.long q2), .second] [(.int (lcmpW q2 (p3.toInt64)))])) _
    refine XS.ifNo X4.here hx rfl (hb hby d4_7) rfl ((if0 _ _).trans (flt H1).1) ?_
    show Steps p.tables e below (T4.setTop (mkF m 10 #[.val (.ref a1), .val (.long q2), .second] [])) _
    refine XS.lloadN X4.here hx rfl (hb hby d4_10) rfl ?_
    show Steps p.tables e below (T4.setTop (mkF m 11 #[.val (.ref a1), .val (.long q2), .second] [(.long q2)])) _
    refine XS.aloadN X4.here hx rfl (hb hby d4_11) rfl rfl ?_
    show Steps p.tables e below (T4.setTop (mkF m 12 #[.val (.ref a1), .val (.long q2), .second] [(.ref a1), (.long q2)])) _
    refine st6 _ ?_
    show Steps p.tables e below (T6.setTop (mkF m 15 #[.val (.ref a1), .val (.long q2), .second] [(.int p5), (.long q2)])) _
    refine XS.i2l X6.here hx rfl (hb hby d4_15) rfl ?_
    show Steps p.tables e below (T6.setTop (mkF m 16 #[.val (.ref a1), .val (.long q2), .second] [(.long (p5.toInt64)), (.long q2)])) _
    refine XS.lcmp X6.here hx rfl (hb hby d4_16) rfl ?_
    show Steps p.tables e below (T6.setTop (mkF m 17 #[.val (.ref a1), .val (.long q2), .second] [(.int (lcmpW q2 (p5.toInt64)))])) _
    refine XS.ifYes X6.here hx rfl (pc0 := 17) (pc' := 24) rfl (hb hby d4_17) rfl ((if0 _ _).trans (tlt P3).2.2.1) (by decide) (by decide) ?_
    show Steps p.tables e below (T6.setTop (mkF m 24 #[.val (.ref a1), .val (.long q2), .second] [])) _
    refine XS.iconst X6.here hx rfl (hb hby d4_24) ?_
    show Steps p.tables e below (T6.setTop (mkF m 25 #[.val (.ref a1), .val (.long q2), .second] [(.int (0 : Int32))])) _
    exact retN X6 hx (t := .boolean) Bd.returns (by simp) (hb hby d4_25) hr
  · show Q4_11 Z a1 q2 p3 p5 h0 n0 _ T6.heap _
    rw [e6]
    exact ⟨rfl, N0, rfl⟩
def Q4_12 (Z : State) (a1 : Addr) (q2 : Int64) (p3 : Int32) (p4 : Int32) (h0 : Heap) (n0 : Nat) (v : Option Value) (h : Heap) (L : List Loc) : Prop := v = some (.int (0 : Int32)) ∧ Fr n0 L ∧ h = h0
set_option maxRecDepth 65536 in
set_option maxHeartbeats 40000000 in
theorem rm4_12 (l : Launch) (Z : State) (a0 : Array Value) (hw : ∀ d ∈ tables_1, d.before a0 Z = true) (ws : List Jvm.Cond) (a1 : Addr) (q2 : Int64) (p3 : Int32) (p4 : Int32) (h0 : Heap) (n0 : Nat) (Z0 : n0 ≤ h0.size) (P1 : Fld Z h0 a1 "com/example/murmuration/murmuration/Bounds" "minimum" "I" (.int p3)) (P2 : Fld Z h0 a1 "com/example/murmuration/murmuration/Bounds" "maximum" "I" (.int p4)) (P3 : (0 : Int32) < (lcmpW q2 (p4.toInt64))) :
    MetFree l (⟨"com/example/murmuration/murmuration/Bounds", "contains", "(J)Z"⟩ : MethodName) (head1 (Jvm.Cond.code (⟨"com/example/murmuration/murmuration/Bounds", "contains", "(J)Z"⟩ : MethodName) prog_5_method_2_code 3 (some .boolean) :: ws) ({ frames := 0, cells := 0, slots := 0, locals := 0 } : Room)) (fun a U => a = #[(.ref a1), (.long q2)] ∧ Z.Warmed39 U.vm ∧ U.heap = h0) (fun _ _ _ _ _ => True) (fun _ U o U' => ∃ v L, o = .returned v ∧ Q4_12 Z a1 q2 p3 p4 h0 n0 v U'.heap L ∧ FrameEnd U o U' L ({ frames := 0, cells := 0, slots := 0, locals := 0 } : Room).cells ({ frames := 0, cells := 0, slots := 0, locals := 0 } : Room).slots) := by
  unfold Q4_12
  by_cases H1 : (lcmpW q2 (p3.toInt64)) < (0 : Int32)
  ·
    exact rm4_1 l Z a0 hw ws a1 q2 p3 h0 n0 Z0 P1 H1
  ·
    exact rm4_11 l Z a0 hw ws a1 q2 p3 p4 h0 n0 Z0 P1 P2 P3 H1
theorem ef4_13 (m : MethodId) (a1 : Addr) (p2 : Int32) : entryFrame m #[(.ref a1), (.long (-9223372036854775808 : Int64))] 3 = mkF m 0 #[.val (.ref a1), .val (.long (-9223372036854775808 : Int64)), .second] [] := by first | (simp [entryFrame, mkF, argsToLocals, Value.category]; done) | rfl
def Q4_13 (Z : State) (a1 : Addr) (p2 : Int32) (h0 : Heap) (n0 : Nat) (v : Option Value) (h : Heap) (L : List Loc) : Prop := v = some (.int (0 : Int32)) ∧ Fr n0 L ∧ h = h0
set_option maxRecDepth 65536 in
set_option maxHeartbeats 40000000 in
theorem rm4_13 (l : Launch) (Z : State) (a0 : Array Value) (hw : ∀ d ∈ tables_1, d.before a0 Z = true) (ws : List Jvm.Cond) (a1 : Addr) (p2 : Int32) (h0 : Heap) (n0 : Nat) (Z0 : n0 ≤ h0.size) (P1 : Fld Z h0 a1 "com/example/murmuration/murmuration/Bounds" "minimum" "I" (.int p2)) (P2 : (lcmpW (-9223372036854775808 : Int64) (p2.toInt64)) < (0 : Int32)) :
    MetFree l (⟨"com/example/murmuration/murmuration/Bounds", "contains", "(J)Z"⟩ : MethodName) (head1 (Jvm.Cond.code (⟨"com/example/murmuration/murmuration/Bounds", "contains", "(J)Z"⟩ : MethodName) prog_5_method_2_code 3 (some .boolean) :: ws) ({ frames := 0, cells := 0, slots := 0, locals := 0 } : Room)) (fun a U => a = #[(.ref a1), (.long (-9223372036854775808 : Int64))] ∧ Z.Warmed39 U.vm ∧ U.heap = h0) (fun _ _ _ _ _ => True) (fun _ U o U' => ∃ v L, o = .returned v ∧ Q4_13 Z a1 p2 h0 n0 v U'.heap L ∧ FrameEnd U o U' L ({ frames := 0, cells := 0, slots := 0, locals := 0 } : Room).cells ({ frames := 0, cells := 0, slots := 0, locals := 0 } : Room).slots) := by
  refine MetFree.of_bodySF (plainFor_of_name pn_1) hisR ?_
  intro p e s m args below meth c s₁ Bd hml0 hP hK
  obtain ⟨rfl, hZ, hh⟩ := hP
  have hx := Bd.exec
  have hby := Bd.bytes
  have hml : c.maxLocals = 3 := hml0
  have hown : s.vm.findClass "com/example/murmuration/murmuration/Bounds" = some m.cls := findClass_of_methodNamed Bd.named
  have hnm := (name_of_methodNamed Bd.named Bd.method).1
  have X0 : Stand p l e ({ frames := 0, cells := 0, slots := 0, locals := 0 } : Room) s m #[(.ref a1), (.long (-9223372036854775808 : Int64))] below meth c s₁ [] 0 0 := Stand.of_body Bd
  have e0 : s₁.heap = h0 := by rw [← hh, Bd.state]; rfl
  have N0 := Fr.nil n0
  have pre0 : ∀ t, Steps p.tables e below (s₁.setTop (mkF m 0 #[.val (.ref a1), .val (.long (-9223372036854775808 : Int64)), .second] [])) t → Steps p.tables e below (s₁.setTop (entryFrame m #[(.ref a1), (.long (-9223372036854775808 : Int64))] 3)) t := fun t k => castTop (ef4_13 m a1 p2) k
  obtain ⟨T3, X3, e3, st3⟩ := getF X0 hx hZ hown (host := "") (Or.inl (tw_14 hw)) Via.refl e0 P1 (g := (mkF m 2 #[.val (.ref a1), .val (.long (-9223372036854775808 : Int64)), .second] [(.ref a1), (.long (-9223372036854775808 : Int64))])) rfl rfl (hb hby d4_2)
  obtain ⟨fs, hr, hrun, hended, hW, hsame⟩ := X3.leave (v := some (.int (0 : Int32))) (fun h => by rw [Bd.returns] at h; cases h)
  refine ⟨_, _, pre0 _ ?_, hrun, hended, _, _, rfl, ?_, ⟨_, rfl⟩, hW, hsame.mono (by decide) (by decide)⟩
  · show Steps p.tables e below (s₁.setTop (mkF m 0 #[.val (.ref a1), .val (.long (-9223372036854775808 : Int64)), .second] [])) _
    refine XS.lloadN X0.here hx rfl (hb hby d4_0) rfl ?_
    show Steps p.tables e below (s₁.setTop (mkF m 1 #[.val (.ref a1), .val (.long (-9223372036854775808 : Int64)), .second] [(.long (-9223372036854775808 : Int64))])) _
    refine XS.aloadN X0.here hx rfl (hb hby d4_1) rfl rfl ?_
    show Steps p.tables e below (s₁.setTop (mkF m 2 #[.val (.ref a1), .val (.long (-9223372036854775808 : Int64)), .second] [(.ref a1), (.long (-9223372036854775808 : Int64))])) _
    refine st3 _ ?_
    show Steps p.tables e below (T3.setTop (mkF m 5 #[.val (.ref a1), .val (.long (-9223372036854775808 : Int64)), .second] [(.int p2), (.long (-9223372036854775808 : Int64))])) _
    refine XS.i2l X3.here hx rfl (hb hby d4_5) rfl ?_
    show Steps p.tables e below (T3.setTop (mkF m 6 #[.val (.ref a1), .val (.long (-9223372036854775808 : Int64)), .second] [(.long (p2.toInt64)), (.long (-9223372036854775808 : Int64))])) _
    refine XS.lcmp X3.here hx rfl (hb hby d4_6) rfl ?_
    show Steps p.tables e below (T3.setTop (mkF m 7 #[.val (.ref a1), .val (.long (-9223372036854775808 : Int64)), .second] [(.int (lcmpW (-9223372036854775808 : Int64) (p2.toInt64)))])) _
    refine XS.ifYes X3.here hx rfl (pc0 := 7) (pc' := 24) rfl (hb hby d4_7) rfl ((if0 _ _).trans (tlt P2).1) (by decide) (by decide) ?_
    show Steps p.tables e below (T3.setTop (mkF m 24 #[.val (.ref a1), .val (.long (-9223372036854775808 : Int64)), .second] [])) _
    refine XS.iconst X3.here hx rfl (hb hby d4_24) ?_
    show Steps p.tables e below (T3.setTop (mkF m 25 #[.val (.ref a1), .val (.long (-9223372036854775808 : Int64)), .second] [(.int (0 : Int32))])) _
    exact retN X3 hx (t := .boolean) Bd.returns (by simp) (hb hby d4_25) hr
  · show Q4_13 Z a1 p2 h0 n0 _ T3.heap _
    rw [e3]
    exact ⟨rfl, N0, rfl⟩
theorem ef4_14 (m : MethodId) (a1 : Addr) (p2 : Int32) (p4 : Int32) : entryFrame m #[(.ref a1), (.long (9223372036854775807 : Int64))] 3 = mkF m 0 #[.val (.ref a1), .val (.long (9223372036854775807 : Int64)), .second] [] := by first | (simp [entryFrame, mkF, argsToLocals, Value.category]; done) | rfl
def Q4_14 (Z : State) (a1 : Addr) (p2 : Int32) (p4 : Int32) (h0 : Heap) (n0 : Nat) (v : Option Value) (h : Heap) (L : List Loc) : Prop := v = some (.int (0 : Int32)) ∧ Fr n0 L ∧ h = h0
set_option maxRecDepth 65536 in
set_option maxHeartbeats 40000000 in
theorem rm4_14 (l : Launch) (Z : State) (a0 : Array Value) (hw : ∀ d ∈ tables_1, d.before a0 Z = true) (ws : List Jvm.Cond) (a1 : Addr) (p2 : Int32) (p4 : Int32) (h0 : Heap) (n0 : Nat) (Z0 : n0 ≤ h0.size) (P1 : Fld Z h0 a1 "com/example/murmuration/murmuration/Bounds" "minimum" "I" (.int p2)) (P2 : ¬ ((lcmpW (9223372036854775807 : Int64) (p2.toInt64)) < (0 : Int32))) (P3 : Fld Z h0 a1 "com/example/murmuration/murmuration/Bounds" "maximum" "I" (.int p4)) (P4 : (0 : Int32) < (lcmpW (9223372036854775807 : Int64) (p4.toInt64))) :
    MetFree l (⟨"com/example/murmuration/murmuration/Bounds", "contains", "(J)Z"⟩ : MethodName) (head1 (Jvm.Cond.code (⟨"com/example/murmuration/murmuration/Bounds", "contains", "(J)Z"⟩ : MethodName) prog_5_method_2_code 3 (some .boolean) :: ws) ({ frames := 0, cells := 0, slots := 0, locals := 0 } : Room)) (fun a U => a = #[(.ref a1), (.long (9223372036854775807 : Int64))] ∧ Z.Warmed39 U.vm ∧ U.heap = h0) (fun _ _ _ _ _ => True) (fun _ U o U' => ∃ v L, o = .returned v ∧ Q4_14 Z a1 p2 p4 h0 n0 v U'.heap L ∧ FrameEnd U o U' L ({ frames := 0, cells := 0, slots := 0, locals := 0 } : Room).cells ({ frames := 0, cells := 0, slots := 0, locals := 0 } : Room).slots) := by
  refine MetFree.of_bodySF (plainFor_of_name pn_1) hisR ?_
  intro p e s m args below meth c s₁ Bd hml0 hP hK
  obtain ⟨rfl, hZ, hh⟩ := hP
  have hx := Bd.exec
  have hby := Bd.bytes
  have hml : c.maxLocals = 3 := hml0
  have hown : s.vm.findClass "com/example/murmuration/murmuration/Bounds" = some m.cls := findClass_of_methodNamed Bd.named
  have hnm := (name_of_methodNamed Bd.named Bd.method).1
  have X0 : Stand p l e ({ frames := 0, cells := 0, slots := 0, locals := 0 } : Room) s m #[(.ref a1), (.long (9223372036854775807 : Int64))] below meth c s₁ [] 0 0 := Stand.of_body Bd
  have e0 : s₁.heap = h0 := by rw [← hh, Bd.state]; rfl
  have N0 := Fr.nil n0
  have pre0 : ∀ t, Steps p.tables e below (s₁.setTop (mkF m 0 #[.val (.ref a1), .val (.long (9223372036854775807 : Int64)), .second] [])) t → Steps p.tables e below (s₁.setTop (entryFrame m #[(.ref a1), (.long (9223372036854775807 : Int64))] 3)) t := fun t k => castTop (ef4_14 m a1 p2 p4) k
  obtain ⟨T3, X3, e3, st3⟩ := getF X0 hx hZ hown (host := "") (Or.inl (tw_14 hw)) Via.refl e0 P1 (g := (mkF m 2 #[.val (.ref a1), .val (.long (9223372036854775807 : Int64)), .second] [(.ref a1), (.long (9223372036854775807 : Int64))])) rfl rfl (hb hby d4_2)
  obtain ⟨T5, X5, e5, st5⟩ := getF X3 hx hZ hown (host := "") (Or.inl (tw_16 hw)) Via.refl e3 P3 (g := (mkF m 12 #[.val (.ref a1), .val (.long (9223372036854775807 : Int64)), .second] [(.ref a1), (.long (9223372036854775807 : Int64))])) rfl rfl (hb hby d4_12)
  obtain ⟨fs, hr, hrun, hended, hW, hsame⟩ := X5.leave (v := some (.int (0 : Int32))) (fun h => by rw [Bd.returns] at h; cases h)
  refine ⟨_, _, pre0 _ ?_, hrun, hended, _, _, rfl, ?_, ⟨_, rfl⟩, hW, hsame.mono (by decide) (by decide)⟩
  · show Steps p.tables e below (s₁.setTop (mkF m 0 #[.val (.ref a1), .val (.long (9223372036854775807 : Int64)), .second] [])) _
    refine XS.lloadN X0.here hx rfl (hb hby d4_0) rfl ?_
    show Steps p.tables e below (s₁.setTop (mkF m 1 #[.val (.ref a1), .val (.long (9223372036854775807 : Int64)), .second] [(.long (9223372036854775807 : Int64))])) _
    refine XS.aloadN X0.here hx rfl (hb hby d4_1) rfl rfl ?_
    show Steps p.tables e below (s₁.setTop (mkF m 2 #[.val (.ref a1), .val (.long (9223372036854775807 : Int64)), .second] [(.ref a1), (.long (9223372036854775807 : Int64))])) _
    refine st3 _ ?_
    show Steps p.tables e below (T3.setTop (mkF m 5 #[.val (.ref a1), .val (.long (9223372036854775807 : Int64)), .second] [(.int p2), (.long (9223372036854775807 : Int64))])) _
    refine XS.i2l X3.here hx rfl (hb hby d4_5) rfl ?_
    show Steps p.tables e below (T3.setTop (mkF m 6 #[.val (.ref a1), .val (.long (9223372036854775807 : Int64)), .second] [(.long (p2.toInt64)), (.long (9223372036854775807 : Int64))])) _
    refine XS.lcmp X3.here hx rfl (hb hby d4_6) rfl ?_
    show Steps p.tables e below (T3.setTop (mkF m 7 #[.val (.ref a1), .val (.long (9223372036854775807 : Int64)), .second] [(.int (lcmpW (9223372036854775807 : Int64) (p2.toInt64)))])) _
    refine XS.ifNo X3.here hx rfl (hb hby d4_7) rfl ((if0 _ _).trans (flt P2).1) ?_
    show Steps p.tables e below (T3.setTop (mkF m 10 #[.val (.ref a1), .val (.long (9223372036854775807 : Int64)), .second] [])) _
    refine XS.lloadN X3.here hx rfl (hb hby d4_10) rfl ?_
    show Steps p.tables e below (T3.setTop (mkF m 11 #[.val (.ref a1), .val (.long (9223372036854775807 : Int64)), .second] [(.long (9223372036854775807 : Int64))])) _
    refine XS.aloadN X3.here hx rfl (hb hby d4_11) rfl rfl ?_
    show Steps p.tables e below (T3.setTop (mkF m 12 #[.val (.ref a1), .val (.long (9223372036854775807 : Int64)), .second] [(.ref a1), (.long (9223372036854775807 : Int64))])) _
    refine st5 _ ?_
    show Steps p.tables e below (T5.setTop (mkF m 15 #[.val (.ref a1), .val (.long (9223372036854775807 : Int64)), .second] [(.int p4), (.long (9223372036854775807 : Int64))])) _
    refine XS.i2l X5.here hx rfl (hb hby d4_15) rfl ?_
    show Steps p.tables e below (T5.setTop (mkF m 16 #[.val (.ref a1), .val (.long (9223372036854775807 : Int64)), .second] [(.long (p4.toInt64)), (.long (9223372036854775807 : Int64))])) _
    refine XS.lcmp X5.here hx rfl (hb hby d4_16) rfl ?_
    show Steps p.tables e below (T5.setTop (mkF m 17 #[.val (.ref a1), .val (.long (9223372036854775807 : Int64)), .second] [(.int (lcmpW (9223372036854775807 : Int64) (p4.toInt64)))])) _
    refine XS.ifYes X5.here hx rfl (pc0 := 17) (pc' := 24) rfl (hb hby d4_17) rfl ((if0 _ _).trans (tlt P4).2.2.1) (by decide) (by decide) ?_
    show Steps p.tables e below (T5.setTop (mkF m 24 #[.val (.ref a1), .val (.long (9223372036854775807 : Int64)), .second] [])) _
    refine XS.iconst X5.here hx rfl (hb hby d4_24) ?_
    show Steps p.tables e below (T5.setTop (mkF m 25 #[.val (.ref a1), .val (.long (9223372036854775807 : Int64)), .second] [(.int (0 : Int32))])) _
    exact retN X5 hx (t := .boolean) Bd.returns (by simp) (hb hby d4_25) hr
  · show Q4_14 Z a1 p2 p4 h0 n0 _ T5.heap _
    rw [e5]
    exact ⟨rfl, N0, rfl⟩
theorem ef0 (m : MethodId) (p1 : Int32) (p2 : Int32) (q3 : Int64) : entryFrame m #[(.int p1), (.int p2), (.long q3)] maxLocals = mkF m 0 #[.val (.int p1), .val (.int p2), .val (.long q3), .second, .unset, .unset, .unset] [] := by first | (simp [entryFrame, mkF, argsToLocals, Value.category, maxLocals]; done) | rfl
def Q0 (h0 : Heap) (n0 : Nat) (v : Option Value) (h : Heap) (L : List Loc) : Prop := v = some (.int (1 : Int32)) ∧ Fr n0 L
set_option maxRecDepth 65536 in
set_option maxHeartbeats 40000000 in
theorem rm0_0 (l : Launch) (Z : State) (a0 : Array Value) (hw : ∀ d ∈ tables_1, d.before a0 Z = true) (ws : List Jvm.Cond) (p1 : Int32) (p2 : Int32) (q3 : Int64) (h0 : Heap) (n0 : Nat) (Z0 : n0 ≤ h0.size) (H1 : ¬ ((lcmpW (p1.toInt64) (p1.toInt64)) < (0 : Int32))) (H2 : ¬ ((va4 p1 p2) = (0 : Int32))) (H3 : ¬ ((0 : Int32) < (lcmpW (p2.toInt64) (p2.toInt64)))) (H4 : ¬ ((va6 p2 p1) = (0 : Int32))) (H5 : (lcmpW ((p1.toInt64) - (1 : Int64)) (p1.toInt64)) < (0 : Int32)) (H6 : (0 : Int32) < (lcmpW ((p2.toInt64) + (1 : Int64)) (p2.toInt64))) (H7 : (lcmpW (-9223372036854775808 : Int64) (p1.toInt64)) < (0 : Int32)) (H8 : ¬ ((lcmpW (9223372036854775807 : Int64) (p1.toInt64)) < (0 : Int32))) (H9 : (0 : Int32) < (lcmpW (9223372036854775807 : Int64) (p2.toInt64))) :
    MetFree l x (head1 (Jvm.Cond.code x code maxLocals ret :: ws) room_1) (fun a U => a = #[(.int p1), (.int p2), (.long q3)] ∧ Z.Warmed39 U.vm ∧ U.heap = h0) (fun _ _ _ _ _ => True) (fun _ U o U' => ∃ v L, o = .returned v ∧ Q0 h0 n0 v U'.heap L ∧ FrameEnd U o U' L 16 128) := by
  refine MetFree.of_bodySF (plainFor_of_name pn_2) hisR ?_
  intro p e s m args below meth c s₁ Bd hml0 hP hK
  obtain ⟨rfl, hZ, hh⟩ := hP
  have hx := Bd.exec
  have hby := Bd.bytes
  have hml : c.maxLocals = 7 := hml0
  have hown : s.vm.findClass "com/example/murmuration/murmuration/BoundsContainsPinLaw" = some m.cls := findClass_of_methodNamed Bd.named
  have hnm := (name_of_methodNamed Bd.named Bd.method).1
  have X0 : Stand p l e room_1 s m #[(.int p1), (.int p2), (.long q3)] below meth c s₁ [] 0 0 := Stand.of_body Bd
  have e0 : s₁.heap = h0 := by rw [← hh, Bd.state]; rfl
  have N0 := Fr.nil n0
  have pre0 : ∀ t, Steps p.tables e below (s₁.setTop (mkF m 0 #[.val (.int p1), .val (.int p2), .val (.long q3), .second, .unset, .unset, .unset] [])) t → Steps p.tables e below (s₁.setTop (entryFrame m #[(.int p1), (.int p2), (.long q3)] maxLocals)) t := fun t k => castTop (ef0 m p1 p2 q3) k
  obtain ⟨T4, h4, X4, e4, E4, A4, D4, -, st4⟩ := newO X0 hx hZ hown (tw_0 hw) (tw_1 hw) (tw_2 hw) e0 (g := (mkF m 0 #[.val (.int p1), .val (.int p2), .val (.long q3), .second, .unset, .unset, .unset] [])) rfl (hb hby at_0) (by decide) (by decide)
  obtain ⟨b5, g4⟩ : ∃ z, z = h0.size := ⟨_, rfl⟩
  rw [← g4] at A4 D4 st4
  have q4 : n0 ≤ b5 := Nat.le_trans Z0 (Nat.le_of_eq g4.symm)
  have z4 : h0.size ≤ b5 := Nat.le_trans (Nat.le_refl h0.size) (Nat.le_of_eq g4.symm)
  have F6 : Fld Z h4 b5 "com/example/murmuration/murmuration/Bounds" "minimum" "I" (.int (0 : Int32)) := D4 (Or.inr (tw_15 hw)) (ty := .int) (by decide)
  have F7 : Fld Z h4 b5 "com/example/murmuration/murmuration/Bounds" "maximum" "I" (.int (0 : Int32)) := D4 (Or.inr (tw_17 hw)) (ty := .int) (by decide)
  obtain ⟨_, _, ⟨T8, L8, k8, n8⟩, -, X8, ⟨Lc8, hQ8, l8, y8, z8⟩, st8⟩ := X4.specialBack hx (y := (⟨"com/example/murmuration/murmuration/Bounds", "<init>", "(II)V"⟩ : MethodName)) rfl hown (mvT hZ (tw_3 hw)) (mvT hZ (tw_4 hw)) (mvT hZ (tw_5 hw)) (by decide) (backOf (W := 1) (rm1_1 l Z a0 hw [] b5 p1 p2 h4 n0 (Nat.le_trans Z0 E4.1) F6 A4 q4 F7) hZ (tw_5 hw) (tw_2 hw) (by decide) (by decide)) (g := (mkF m 6 #[.val (.int p1), .val (.int p2), .val (.long q3), .second, .unset, .unset, .unset] [(.int p2), (.int p1), (.ref b5), (.ref b5)])) rfl (by rw [hml]; rfl) (Steps.refl _) (a := b5) (argsL := [(.int p1), (.int p2)]) (rest := [(.ref b5)]) (lenOf pd_1 rfl) rfl (by show 2 * 0 + _ ≤ _; exact Nat.le_of_eq rfl) (hb hby at_6) (fun _ _ => ⟨rfl, e4, (by decide : 1 + 0 ≤ _), (by decide : 2 + 0 ≤ _)⟩)
  dsimp only [Pt.U, Pt.locs, Pt.cells, Pt.slots] at X8 l8 y8 z8 st8 hQ8
  subst l8 y8 z8
  obtain ⟨rfl, N8q, K8, f8_0, f8_1⟩ := hQ8
  have N8 := Fr.app N0 N8q
  have F10 := (Exa.keep A4 K8)
  obtain ⟨cq9, kq9, q9a, q9b, q9c⟩ := isOf hZ rfl F10
  obtain ⟨_, _, ⟨T9, L9, k9, n9⟩, -, X9, ⟨Lc9, hQ9, l9, y9, z9⟩, st9⟩ := X8.virtualBack hx (y := (⟨"com/example/murmuration/murmuration/Bounds", "contains", "(J)Z"⟩ : MethodName)) (z := (⟨"com/example/murmuration/murmuration/Bounds", "contains", "(J)Z"⟩ : MethodName)) hown (mvT hZ (tw_18 hw)) (mvT hZ (tw_19 hw)) (notFace_of_selects (args := #[]) (mvT hZ (tw_21 hw))) (mvT hZ (tw_21 hw)) (mvT hZ (tw_20 hw)) (by decide) (backOf (W := 0) (rm4_4 l Z a0 hw [] b5 q3 p1 p2 T8.heap n0 (Nat.le_trans (Nat.le_trans Z0 E4.1) K8.1) f8_1 f8_0) hZ (tw_22 hw) (tw_2 hw) (by decide) (by decide)) q9a q9c (g := (mkF m 14 #[.val (.int p1), .val (.int p2), .val (.long q3), .second, .val (.ref b5), .unset, .unset] [(.long q3), (.ref b5)])) rfl (by rw [hml]; rfl) (Steps.refl _) (argsL := [(.long q3)]) (rest := []) (lenOf pd_2 rfl) rfl (by show 2 * 0 + _ ≤ _; exact Nat.le_of_eq rfl) (hb hby at_14) (fun _ _ => ⟨rfl, rfl, (by decide : 1 + 0 ≤ _), (by decide : 2 + 0 ≤ _)⟩)
  dsimp only [Pt.U, Pt.locs, Pt.cells, Pt.slots] at X9 l9 y9 z9 st9 hQ9
  subst l9 y9 z9
  obtain ⟨rfl, N9q, e9q⟩ := hQ9
  have N9 := Fr.app N8 N9q
  obtain ⟨_, _, ⟨T11, L11, k11, n11⟩, -, X11, ⟨Lc11, hQ11, l11, y11, z11⟩, st11⟩ := Jvm.LawKit.callS X9 hx (y := (⟨"com/example/murmuration/murmuration/BoundsContainsPinLaw", "expected", "(IIJ)Z"⟩ : MethodName)) hown (mvT hZ (tw_23 hw)) (mvT hZ (tw_24 hw)) (mvT hZ (tw_25 hw)) (mvT hZ (tw_26 hw)) (by decide) (backOf (W := 1) (rm5_4 l Z a0 hw [] p1 p2 q3 T8.heap n0 (Nat.le_trans (Nat.le_trans Z0 E4.1) K8.1) ) hZ (tw_26 hw) (tw_25 hw) (by decide) (by decide)) (g := (mkF m 20 #[.val (.int p1), .val (.int p2), .val (.long q3), .second, .val (.ref b5), .unset, .unset] [(.long q3), (.int p2), (.int p1), (.int (va1 q3 p1 p2))])) rfl (by rw [hml]; rfl) (argsL := [(.int p1), (.int p2), (.long q3)]) (rest := [(.int (va1 q3 p1 p2))]) (lenOf pd_3 rfl) rfl (by show 2 * 0 + _ ≤ _; exact Nat.le_of_eq rfl) (hb hby at_20) (fun _ _ => ⟨rfl, e9q, (by decide : 1 + 0 ≤ _), (by decide : 2 + 0 ≤ _)⟩)
  dsimp only [Pt.U, Pt.locs, Pt.cells, Pt.slots] at X11 l11 y11 z11 st11 hQ11
  subst l11 y11 z11
  obtain ⟨rfl, N11q, e11q⟩ := hQ11
  have N11 := Fr.app N9 N11q
  obtain ⟨cq13, kq13, q13a, q13b, q13c⟩ := isOf hZ e11q F10
  obtain ⟨_, _, ⟨T13, L13, k13, n13⟩, -, X13, ⟨Lc13, hQ13, l13, y13, z13⟩, st13⟩ := X11.virtualBack hx (y := (⟨"com/example/murmuration/murmuration/Bounds", "contains", "(J)Z"⟩ : MethodName)) (z := (⟨"com/example/murmuration/murmuration/Bounds", "contains", "(J)Z"⟩ : MethodName)) hown (mvT hZ (tw_18 hw)) (mvT hZ (tw_19 hw)) (notFace_of_selects (args := #[]) (mvT hZ (tw_21 hw))) (mvT hZ (tw_21 hw)) (mvT hZ (tw_20 hw)) (by decide) (backOf (W := 0) (rm4_7 l Z a0 hw [] b5 (p1.toInt64) p1 p2 T8.heap n0 (Nat.le_trans (Nat.le_trans Z0 E4.1) K8.1) f8_1 H1 f8_0) hZ (tw_22 hw) (tw_2 hw) (by decide) (by decide)) q13a q13c (g := (mkF m 54 (LL1 p1 p2 q3 b5) [(.long (p1.toInt64)), (.ref b5)])) rfl (by rw [hml]; rfl) (Steps.refl _) (argsL := [(.long (p1.toInt64))]) (rest := []) (lenOf pd_2 rfl) rfl (by show 2 * 0 + _ ≤ _; exact Nat.le_of_eq rfl) (hb hby at_54) (fun _ _ => ⟨rfl, e11q, (by decide : 1 + 0 ≤ _), (by decide : 2 + 0 ≤ _)⟩)
  dsimp only [Pt.U, Pt.locs, Pt.cells, Pt.slots] at X13 l13 y13 z13 st13 hQ13
  subst l13 y13 z13
  obtain ⟨rfl, N13q, e13q⟩ := hQ13
  have N13 := Fr.app N11 N13q
  obtain ⟨cq15, kq15, q15a, q15b, q15c⟩ := isOf hZ e13q F10
  obtain ⟨_, _, ⟨T15, L15, k15, n15⟩, -, X15, ⟨Lc15, hQ15, l15, y15, z15⟩, st15⟩ := X13.virtualBack hx (y := (⟨"com/example/murmuration/murmuration/Bounds", "contains", "(J)Z"⟩ : MethodName)) (z := (⟨"com/example/murmuration/murmuration/Bounds", "contains", "(J)Z"⟩ : MethodName)) hown (mvT hZ (tw_18 hw)) (mvT hZ (tw_19 hw)) (notFace_of_selects (args := #[]) (mvT hZ (tw_21 hw))) (mvT hZ (tw_21 hw)) (mvT hZ (tw_20 hw)) (by decide) (backOf (W := 0) (rm4_9 l Z a0 hw [] b5 (p2.toInt64) p1 p2 T8.heap n0 (Nat.le_trans (Nat.le_trans Z0 E4.1) K8.1) f8_1 f8_0 H3) hZ (tw_22 hw) (tw_2 hw) (by decide) (by decide)) q15a q15c (g := (mkF m 78 (LL2 p1 p2 q3 b5) [(.long (p2.toInt64)), (.ref b5)])) rfl (by rw [hml]; rfl) (Steps.refl _) (argsL := [(.long (p2.toInt64))]) (rest := []) (lenOf pd_2 rfl) rfl (by show 2 * 0 + _ ≤ _; exact Nat.le_of_eq rfl) (hb hby at_78) (fun _ _ => ⟨rfl, e13q, (by decide : 1 + 0 ≤ _), (by decide : 2 + 0 ≤ _)⟩)
  dsimp only [Pt.U, Pt.locs, Pt.cells, Pt.slots] at X15 l15 y15 z15 st15 hQ15
  subst l15 y15 z15
  obtain ⟨rfl, N15q, e15q⟩ := hQ15
  have N15 := Fr.app N13 N15q
  obtain ⟨cq17, kq17, q17a, q17b, q17c⟩ := isOf hZ e15q F10
  obtain ⟨_, _, ⟨T17, L17, k17, n17⟩, -, X17, ⟨Lc17, hQ17, l17, y17, z17⟩, st17⟩ := X15.virtualBack hx (y := (⟨"com/example/murmuration/murmuration/Bounds", "contains", "(J)Z"⟩ : MethodName)) (z := (⟨"com/example/murmuration/murmuration/Bounds", "contains", "(J)Z"⟩ : MethodName)) hown (mvT hZ (tw_18 hw)) (mvT hZ (tw_19 hw)) (notFace_of_selects (args := #[]) (mvT hZ (tw_21 hw))) (mvT hZ (tw_21 hw)) (mvT hZ (tw_20 hw)) (by decide) (backOf (W := 0) (rm4_10 l Z a0 hw [] b5 ((p1.toInt64) - (1 : Int64)) p1 T8.heap n0 (Nat.le_trans (Nat.le_trans Z0 E4.1) K8.1) f8_1 H5) hZ (tw_22 hw) (tw_2 hw) (by decide) (by decide)) q17a q17c (g := (mkF m 104 (LL3 p1 p2 q3 b5) [(.long ((p1.toInt64) - (1 : Int64))), (.ref b5)])) rfl (by rw [hml]; rfl) (Steps.refl _) (argsL := [(.long ((p1.toInt64) - (1 : Int64)))]) (rest := []) (lenOf pd_2 rfl) rfl (by show 2 * 0 + _ ≤ _; exact Nat.le_of_eq rfl) (hb hby at_104) (fun _ _ => ⟨rfl, e15q, (by decide : 1 + 0 ≤ _), (by decide : 2 + 0 ≤ _)⟩)
  dsimp only [Pt.U, Pt.locs, Pt.cells, Pt.slots] at X17 l17 y17 z17 st17 hQ17
  subst l17 y17 z17
  obtain ⟨rfl, N17q, e17q⟩ := hQ17
  have N17 := Fr.app N15 N17q
  obtain ⟨cq18, kq18, q18a, q18b, q18c⟩ := isOf hZ e17q F10
  obtain ⟨_, _, ⟨T18, L18, k18, n18⟩, -, X18, ⟨Lc18, hQ18, l18, y18, z18⟩, st18⟩ := X17.virtualBack hx (y := (⟨"com/example/murmuration/murmuration/Bounds", "contains", "(J)Z"⟩ : MethodName)) (z := (⟨"com/example/murmuration/murmuration/Bounds", "contains", "(J)Z"⟩ : MethodName)) hown (mvT hZ (tw_18 hw)) (mvT hZ (tw_19 hw)) (notFace_of_selects (args := #[]) (mvT hZ (tw_21 hw))) (mvT hZ (tw_21 hw)) (mvT hZ (tw_20 hw)) (by decide) (backOf (W := 0) (rm4_12 l Z a0 hw [] b5 ((p2.toInt64) + (1 : Int64)) p1 p2 T8.heap n0 (Nat.le_trans (Nat.le_trans Z0 E4.1) K8.1) f8_1 f8_0 H6) hZ (tw_22 hw) (tw_2 hw) (by decide) (by decide)) q18a q18c (g := (mkF m 128 (LL1 p1 p2 q3 b5) [(.long ((p2.toInt64) + (1 : Int64))), (.ref b5)])) rfl (by rw [hml]; rfl) (Steps.refl _) (argsL := [(.long ((p2.toInt64) + (1 : Int64)))]) (rest := []) (lenOf pd_2 rfl) rfl (by show 2 * 0 + _ ≤ _; exact Nat.le_of_eq rfl) (hb hby at_128) (fun _ _ => ⟨rfl, e17q, (by decide : 1 + 0 ≤ _), (by decide : 2 + 0 ≤ _)⟩)
  dsimp only [Pt.U, Pt.locs, Pt.cells, Pt.slots] at X18 l18 y18 z18 st18 hQ18
  subst l18 y18 z18
  obtain ⟨rfl, N18q, e18q⟩ := hQ18
  have N18 := Fr.app N17 N18q
  obtain ⟨cq19, kq19, q19a, q19b, q19c⟩ := isOf hZ e18q F10
  obtain ⟨_, _, ⟨T19, L19, k19, n19⟩, -, X19, ⟨Lc19, hQ19, l19, y19, z19⟩, st19⟩ := X18.virtualBack hx (y := (⟨"com/example/murmuration/murmuration/Bounds", "contains", "(J)Z"⟩ : MethodName)) (z := (⟨"com/example/murmuration/murmuration/Bounds", "contains", "(J)Z"⟩ : MethodName)) hown (mvT hZ (tw_18 hw)) (mvT hZ (tw_19 hw)) (notFace_of_selects (args := #[]) (mvT hZ (tw_21 hw))) (mvT hZ (tw_21 hw)) (mvT hZ (tw_20 hw)) (by decide) (backOf (W := 0) (rm4_13 l Z a0 hw [] b5 p1 T8.heap n0 (Nat.le_trans (Nat.le_trans Z0 E4.1) K8.1) f8_1 H7) hZ (tw_22 hw) (tw_2 hw) (by decide) (by decide)) q19a q19c (g := (mkF m 151 (LL1 p1 p2 q3 b5) [(.long (-9223372036854775808 : Int64)), (.ref b5)])) rfl (by rw [hml]; rfl) (Steps.refl _) (argsL := [(.long (-9223372036854775808 : Int64))]) (rest := []) (lenOf pd_2 rfl) rfl (by show 2 * 0 + _ ≤ _; exact Nat.le_of_eq rfl) (hb hby at_151) (fun _ _ => ⟨rfl, e18q, (by decide : 1 + 0 ≤ _), (by decide : 2 + 0 ≤ _)⟩)
  dsimp only [Pt.U, Pt.locs, Pt.cells, Pt.slots] at X19 l19 y19 z19 st19 hQ19
  subst l19 y19 z19
  obtain ⟨rfl, N19q, e19q⟩ := hQ19
  have N19 := Fr.app N18 N19q
  obtain ⟨cq20, kq20, q20a, q20b, q20c⟩ := isOf hZ e19q F10
  obtain ⟨_, _, ⟨T20, L20, k20, n20⟩, -, X20, ⟨Lc20, hQ20, l20, y20, z20⟩, st20⟩ := X19.virtualBack hx (y := (⟨"com/example/murmuration/murmuration/Bounds", "contains", "(J)Z"⟩ : MethodName)) (z := (⟨"com/example/murmuration/murmuration/Bounds", "contains", "(J)Z"⟩ : MethodName)) hown (mvT hZ (tw_18 hw)) (mvT hZ (tw_19 hw)) (notFace_of_selects (args := #[]) (mvT hZ (tw_21 hw))) (mvT hZ (tw_21 hw)) (mvT hZ (tw_20 hw)) (by decide) (backOf (W := 0) (rm4_14 l Z a0 hw [] b5 p1 p2 T8.heap n0 (Nat.le_trans (Nat.le_trans Z0 E4.1) K8.1) f8_1 H8 f8_0 H9) hZ (tw_22 hw) (tw_2 hw) (by decide) (by decide)) q20a q20c (g := (mkF m 174 (LL1 p1 p2 q3 b5) [(.long (9223372036854775807 : Int64)), (.ref b5)])) rfl (by rw [hml]; rfl) (Steps.refl _) (argsL := [(.long (9223372036854775807 : Int64))]) (rest := []) (lenOf pd_2 rfl) rfl (by show 2 * 0 + _ ≤ _; exact Nat.le_of_eq rfl) (hb hby at_174) (fun _ _ => ⟨rfl, e19q, (by decide : 1 + 0 ≤ _), (by decide : 2 + 0 ≤ _)⟩)
  dsimp only [Pt.U, Pt.locs, Pt.cells, Pt.slots] at X20 l20 y20 z20 st20 hQ20
  subst l20 y20 z20
  obtain ⟨rfl, N20q, e20q⟩ := hQ20
  have N20 := Fr.app N19 N20q
  obtain ⟨fs, hr, hrun, hended, hW, hsame⟩ := X20.leave (v := some (.int (1 : Int32))) (fun h => by rw [Bd.returns] at h; cases h)
  refine ⟨_, _, pre0 _ ?_, hrun, hended, _, _, rfl, ?_, ⟨_, rfl⟩, hW, hsame.mono (by decide) (by decide)⟩
  · show Steps p.tables e below (s₁.setTop (mkF m 0 #[.val (.int p1), .val (.int p2), .val (.long q3), .second, .unset, .unset, .unset] [])) _
    refine st4 _ ?_
    show Steps p.tables e below (T4.setTop (mkF m 3 #[.val (.int p1), .val (.int p2), .val (.long q3), .second, .unset, .unset, .unset] [(.ref b5)])) _
    refine XS.dup X4.here hx rfl (hb hby at_3) rfl rfl ?_
    show Steps p.tables e below (T4.setTop (mkF m 4 #[.val (.int p1), .val (.int p2), .val (.long q3), .second, .unset, .unset, .unset] [(.ref b5), (.ref b5)])) _
    refine XS.iloadN X4.here hx rfl (hb hby at_4) rfl ?_
    show Steps p.tables e below (T4.setTop (mkF m 5 #[.val (.int p1), .val (.int p2), .val (.long q3), .second, .unset, .unset, .unset] [(.int p1), (.ref b5), (.ref b5)])) _
    refine XS.iloadN X4.here hx rfl (hb hby at_5) rfl ?_
    show Steps p.tables e below (T4.setTop (mkF m 6 #[.val (.int p1), .val (.int p2), .val (.long q3), .second, .unset, .unset, .unset] [(.int p2), (.int p1), (.ref b5), (.ref b5)])) _
    refine st8.trans ?_
    show Steps p.tables e below (T8.setTop (mkF m 9 #[.val (.int p1), .val (.int p2), .val (.long q3), .second, .unset, .unset, .unset] [(.ref b5)])) _
    refine XS.astore X8.here hx rfl (hb hby at_9) rfl rfl (l' := #[.val (.int p1), .val (.int p2), .val (.long q3), .second, .val (.ref b5), .unset, .unset]) rfl ?_
    show Steps p.tables e below (T8.setTop (mkF m 11 #[.val (.int p1), .val (.int p2), .val (.long q3), .second, .val (.ref b5), .unset, .unset] [])) _
    refine XS.aload X8.here hx rfl (hb hby at_11) rfl rfl ?_
    show Steps p.tables e below (T8.setTop (mkF m 13 #[.val (.int p1), .val (.int p2), .val (.long q3), .second, .val (.ref b5), .unset, .unset] [(.ref b5)])) _
    refine XS.lloadN X8.here hx rfl (hb hby at_13) rfl ?_
    show Steps p.tables e below (T8.setTop (mkF m 14 #[.val (.int p1), .val (.int p2), .val (.long q3), .second, .val (.ref b5), .unset, .unset] [(.long q3), (.ref b5)])) _
    refine st9.trans ?_
    show Steps p.tables e below (T9.setTop (mkF m 17 #[.val (.int p1), .val (.int p2), .val (.long q3), .second, .val (.ref b5), .unset, .unset] [(.int (va1 q3 p1 p2))])) _
    refine XS.iloadN X9.here hx rfl (hb hby at_17) rfl ?_
    show Steps p.tables e below (T9.setTop (mkF m 18 #[.val (.int p1), .val (.int p2), .val (.long q3), .second, .val (.ref b5), .unset, .unset] [(.int p1), (.int (va1 q3 p1 p2))])) _
    refine XS.iloadN X9.here hx rfl (hb hby at_18) rfl ?_
    show Steps p.tables e below (T9.setTop (mkF m 19 #[.val (.int p1), .val (.int p2), .val (.long q3), .second, .val (.ref b5), .unset, .unset] [(.int p2), (.int p1), (.int (va1 q3 p1 p2))])) _
    refine XS.lloadN X9.here hx rfl (hb hby at_19) rfl ?_
    show Steps p.tables e below (T9.setTop (mkF m 20 #[.val (.int p1), .val (.int p2), .val (.long q3), .second, .val (.ref b5), .unset, .unset] [(.long q3), (.int p2), (.int p1), (.int (va1 q3 p1 p2))])) _
    refine st11 _ ?_
    show Steps p.tables e below (T11.setTop (mkF m 23 #[.val (.int p1), .val (.int p2), .val (.long q3), .second, .val (.ref b5), .unset, .unset] [(.int (va1 q3 p1 p2)), (.int (va1 q3 p1 p2))])) _
    refine XS.icmpNo X11.here hx rfl (hb hby at_23) rfl (teq (rfl : (va1 q3 p1 p2) = (va1 q3 p1 p2))).2 ?_
    show Steps p.tables e below (T11.setTop (mkF m 26 #[.val (.int p1), .val (.int p2), .val (.long q3), .second, .val (.ref b5), .unset, .unset] [])) _
    refine XS.iconst X11.here hx rfl (hb hby at_26) ?_
    show Steps p.tables e below (T11.setTop (mkF m 27 #[.val (.int p1), .val (.int p2), .val (.long q3), .second, .val (.ref b5), .unset, .unset] [(.int (1 : Int32))])) _
    refine XS.goto X11.here hx rfl (pc0 := 27) (pc' := 31) rfl (hb hby at_27) (by decide) (by decide) ?_
    show Steps p.tables e below (T11.setTop (mkF m 31 #[.val (.int p1), .val (.int p2), .val (.long q3), .second, .val (.ref b5), .unset, .unset] [(.int (1 : Int32))])) _
    refine XS.istore X11.here hx rfl (hb hby at_31) rfl (l' := #[.val (.int p1), .val (.int p2), .val (.long q3), .second, .val (.ref b5), .val (.int (1 : Int32)), .unset]) rfl ?_
    show Steps p.tables e below (T11.setTop (mkF m 33 #[.val (.int p1), .val (.int p2), .val (.long q3), .second, .val (.ref b5), .val (.int (1 : Int32)), .unset] [])) _
    refine XS.iloadN X11.here hx rfl (hb hby at_33) rfl ?_
    show Steps p.tables e below (T11.setTop (mkF m 34 #[.val (.int p1), .val (.int p2), .val (.long q3), .second, .val (.ref b5), .val (.int (1 : Int32)), .unset] [(.int p1)])) _
    refine XS.iloadN X11.here hx rfl (hb hby at_34) rfl ?_
    suffices j12 : Steps p.tables e below (T11.setTop (mkF m 43 #[.val (.int p1), .val (.int p2), .val (.long q3), .second, .val (.ref b5), .val (.int (1 : Int32)), .unset] [(.int (va2 p2 p1))])) (T20.setFrames fs) by
      show Steps p.tables e below (T11.setTop (mkF m 35 #[.val (.int p1), .val (.int p2), .val (.long q3), .second, .val (.ref b5), .val (.int (1 : Int32)), .unset] [(.int p2), (.int p1)])) _
      by_cases j12_1 : p2 < p1
      ·
        refine XS.icmpYes X11.here hx rfl (pc0 := 35) (pc' := 42) rfl (hb hby at_35) rfl (tlt j12_1).2.2.1 (by decide) (by decide) ?_
        show Steps p.tables e below (T11.setTop (mkF m 42 #[.val (.int p1), .val (.int p2), .val (.long q3), .second, .val (.ref b5), .val (.int (1 : Int32)), .unset] [])) _
        refine XS.iconst X11.here hx rfl (hb hby at_42) ?_
        (try simp only [va2, if_pos j12_1] at j12)
        exact j12
      ·
        refine XS.icmpNo X11.here hx rfl (hb hby at_35) rfl (flt j12_1).2.2.1 ?_
        show Steps p.tables e below (T11.setTop (mkF m 38 #[.val (.int p1), .val (.int p2), .val (.long q3), .second, .val (.ref b5), .val (.int (1 : Int32)), .unset] [])) _
        refine XS.iconst X11.here hx rfl (hb hby at_38) ?_
        show Steps p.tables e below (T11.setTop (mkF m 39 #[.val (.int p1), .val (.int p2), .val (.long q3), .second, .val (.ref b5), .val (.int (1 : Int32)), .unset] [(.int (1 : Int32))])) _
        refine XS.goto X11.here hx rfl (pc0 := 39) (pc' := 43) rfl (hb hby at_39) (by decide) (by decide) ?_
        (try simp only [va2, if_neg j12_1] at j12)
        exact j12
    show Steps p.tables e below (T11.setTop (mkF m 43 #[.val (.int p1), .val (.int p2), .val (.long q3), .second, .val (.ref b5), .val (.int (1 : Int32)), .unset] [(.int (va2 p2 p1))])) _
    refine XS.istore X11.here hx rfl (hb hby at_43) rfl (l' := (LL1 p1 p2 q3 b5)) rfl ?_
    show Steps p.tables e below (T11.setTop (mkF m 45 (LL1 p1 p2 q3 b5) [])) _
    refine XS.iload X11.here hx rfl (hb hby at_45) rfl ?_
    show Steps p.tables e below (T11.setTop (mkF m 47 (LL1 p1 p2 q3 b5) [(.int (1 : Int32))])) _
    refine XS.ifNo X11.here hx rfl (hb hby at_47) rfl ((if0 _ _).trans (feq (by decide : ¬ ((1 : Int32) = (0 : Int32)))).1) ?_
    show Steps p.tables e below (T11.setTop (mkF m 50 (LL1 p1 p2 q3 b5) [])) _
    refine XS.aload X11.here hx rfl (hb hby at_50) rfl rfl ?_
    show Steps p.tables e below (T11.setTop (mkF m 52 (LL1 p1 p2 q3 b5) [(.ref b5)])) _
    refine XS.iloadN X11.here hx rfl (hb hby at_52) rfl ?_
    show Steps p.tables e below (T11.setTop (mkF m 53 (LL1 p1 p2 q3 b5) [(.int p1), (.ref b5)])) _
    refine XS.i2l X11.here hx rfl (hb hby at_53) rfl ?_
    show Steps p.tables e below (T11.setTop (mkF m 54 (LL1 p1 p2 q3 b5) [(.long (p1.toInt64)), (.ref b5)])) _
    refine st13.trans ?_
    show Steps p.tables e below (T13.setTop (mkF m 57 (LL1 p1 p2 q3 b5) [(.int (va3 (p1.toInt64) p2))])) _
    refine XS.iload X13.here hx rfl (hb hby at_57) rfl ?_
    suffices j14 : Steps p.tables e below (T13.setTop (mkF m 67 (LL1 p1 p2 q3 b5) [(.int (va4 p1 p2))])) (T20.setFrames fs) by
      show Steps p.tables e below (T13.setTop (mkF m 59 (LL1 p1 p2 q3 b5) [(.int (va2 p2 p1)), (.int (va3 (p1.toInt64) p2))])) _
      by_cases j14_1 : (va3 (p1.toInt64) p2) = (va2 p2 p1)
      ·
        refine XS.icmpNo X13.here hx rfl (hb hby at_59) rfl (teq j14_1).2 ?_
        show Steps p.tables e below (T13.setTop (mkF m 62 (LL1 p1 p2 q3 b5) [])) _
        refine XS.iconst X13.here hx rfl (hb hby at_62) ?_
        show Steps p.tables e below (T13.setTop (mkF m 63 (LL1 p1 p2 q3 b5) [(.int (1 : Int32))])) _
        refine XS.goto X13.here hx rfl (pc0 := 63) (pc' := 67) rfl (hb hby at_63) (by decide) (by decide) ?_
        (try simp only [va4, if_pos j14_1] at j14)
        exact j14
      ·
        refine XS.icmpYes X13.here hx rfl (pc0 := 59) (pc' := 66) rfl (hb hby at_59) rfl (feq j14_1).2 (by decide) (by decide) ?_
        show Steps p.tables e below (T13.setTop (mkF m 66 (LL1 p1 p2 q3 b5) [])) _
        refine XS.iconst X13.here hx rfl (hb hby at_66) ?_
        (try simp only [va4, if_neg j14_1] at j14)
        exact j14
    show Steps p.tables e below (T13.setTop (mkF m 67 (LL1 p1 p2 q3 b5) [(.int (va4 p1 p2))])) _
    refine XS.istore X13.here hx rfl (hb hby at_67) rfl (l' := (LL2 p1 p2 q3 b5)) rfl ?_
    show Steps p.tables e below (T13.setTop (mkF m 69 (LL2 p1 p2 q3 b5) [])) _
    refine XS.iload X13.here hx rfl (hb hby at_69) rfl ?_
    show Steps p.tables e below (T13.setTop (mkF m 71 (LL2 p1 p2 q3 b5) [(.int (va4 p1 p2))])) _
    refine XS.ifNo X13.here hx rfl (hb hby at_71) rfl ((if0 _ _).trans (feq H2).1) ?_
    show Steps p.tables e below (T13.setTop (mkF m 74 (LL2 p1 p2 q3 b5) [])) _
    refine XS.aload X13.here hx rfl (hb hby at_74) rfl rfl ?_
    show Steps p.tables e below (T13.setTop (mkF m 76 (LL2 p1 p2 q3 b5) [(.ref b5)])) _
    refine XS.iloadN X13.here hx rfl (hb hby at_76) rfl ?_
    show Steps p.tables e below (T13.setTop (mkF m 77 (LL2 p1 p2 q3 b5) [(.int p2), (.ref b5)])) _
    refine XS.i2l X13.here hx rfl (hb hby at_77) rfl ?_
    show Steps p.tables e below (T13.setTop (mkF m 78 (LL2 p1 p2 q3 b5) [(.long (p2.toInt64)), (.ref b5)])) _
    refine st15.trans ?_
    show Steps p.tables e below (T15.setTop (mkF m 81 (LL2 p1 p2 q3 b5) [(.int (va5 (p2.toInt64) p1))])) _
    refine XS.iload X15.here hx rfl (hb hby at_81) rfl ?_
    suffices j16 : Steps p.tables e below (T15.setTop (mkF m 91 (LL2 p1 p2 q3 b5) [(.int (va6 p2 p1))])) (T20.setFrames fs) by
      show Steps p.tables e below (T15.setTop (mkF m 83 (LL2 p1 p2 q3 b5) [(.int (va2 p2 p1)), (.int (va5 (p2.toInt64) p1))])) _
      by_cases j16_1 : (va5 (p2.toInt64) p1) = (va2 p2 p1)
      ·
        refine XS.icmpNo X15.here hx rfl (hb hby at_83) rfl (teq j16_1).2 ?_
        show Steps p.tables e below (T15.setTop (mkF m 86 (LL2 p1 p2 q3 b5) [])) _
        refine XS.iconst X15.here hx rfl (hb hby at_86) ?_
        show Steps p.tables e below (T15.setTop (mkF m 87 (LL2 p1 p2 q3 b5) [(.int (1 : Int32))])) _
        refine XS.goto X15.here hx rfl (pc0 := 87) (pc' := 91) rfl (hb hby at_87) (by decide) (by decide) ?_
        (try simp only [va6, if_pos j16_1] at j16)
        exact j16
      ·
        refine XS.icmpYes X15.here hx rfl (pc0 := 83) (pc' := 90) rfl (hb hby at_83) rfl (feq j16_1).2 (by decide) (by decide) ?_
        show Steps p.tables e below (T15.setTop (mkF m 90 (LL2 p1 p2 q3 b5) [])) _
        refine XS.iconst X15.here hx rfl (hb hby at_90) ?_
        (try simp only [va6, if_neg j16_1] at j16)
        exact j16
    show Steps p.tables e below (T15.setTop (mkF m 91 (LL2 p1 p2 q3 b5) [(.int (va6 p2 p1))])) _
    refine XS.istore X15.here hx rfl (hb hby at_91) rfl (l' := (LL3 p1 p2 q3 b5)) rfl ?_
    show Steps p.tables e below (T15.setTop (mkF m 93 (LL3 p1 p2 q3 b5) [])) _
    refine XS.iload X15.here hx rfl (hb hby at_93) rfl ?_
    show Steps p.tables e below (T15.setTop (mkF m 95 (LL3 p1 p2 q3 b5) [(.int (va6 p2 p1))])) _
    refine XS.ifNo X15.here hx rfl (hb hby at_95) rfl ((if0 _ _).trans (feq H4).1) ?_
    show Steps p.tables e below (T15.setTop (mkF m 98 (LL3 p1 p2 q3 b5) [])) _
    refine XS.aload X15.here hx rfl (hb hby at_98) rfl rfl ?_
    show Steps p.tables e below (T15.setTop (mkF m 100 (LL3 p1 p2 q3 b5) [(.ref b5)])) _
    refine XS.iloadN X15.here hx rfl (hb hby at_100) rfl ?_
    show Steps p.tables e below (T15.setTop (mkF m 101 (LL3 p1 p2 q3 b5) [(.int p1), (.ref b5)])) _
    refine XS.i2l X15.here hx rfl (hb hby at_101) rfl ?_
    show Steps p.tables e below (T15.setTop (mkF m 102 (LL3 p1 p2 q3 b5) [(.long (p1.toInt64)), (.ref b5)])) _
    refine XS.lconst X15.here hx rfl (hb hby at_102) ?_
    show Steps p.tables e below (T15.setTop (mkF m 103 (LL3 p1 p2 q3 b5) [(.long (1 : Int64)), (.long (p1.toInt64)), (.ref b5)])) _
    refine XS.lsub X15.here hx rfl (hb hby at_103) rfl ?_
    show Steps p.tables e below (T15.setTop (mkF m 104 (LL3 p1 p2 q3 b5) [(.long ((p1.toInt64) - (1 : Int64))), (.ref b5)])) _
    refine st17.trans ?_
    show Steps p.tables e below (T17.setTop (mkF m 107 (LL3 p1 p2 q3 b5) [(.int (0 : Int32))])) _
    refine XS.ifNo X17.here hx rfl (hb hby at_107) rfl ((if0 _ _).trans (teq (rfl : (0 : Int32) = (0 : Int32))).2) ?_
    show Steps p.tables e below (T17.setTop (mkF m 110 (LL3 p1 p2 q3 b5) [])) _
    refine XS.iconst X17.here hx rfl (hb hby at_110) ?_
    show Steps p.tables e below (T17.setTop (mkF m 111 (LL3 p1 p2 q3 b5) [(.int (1 : Int32))])) _
    refine XS.goto X17.here hx rfl (pc0 := 111) (pc' := 115) rfl (hb hby at_111) (by decide) (by decide) ?_
    show Steps p.tables e below (T17.setTop (mkF m 115 (LL3 p1 p2 q3 b5) [(.int (1 : Int32))])) _
    refine XS.istore X17.here hx rfl (hb hby at_115) rfl (l' := (LL1 p1 p2 q3 b5)) rfl ?_
    show Steps p.tables e below (T17.setTop (mkF m 117 (LL1 p1 p2 q3 b5) [])) _
    refine XS.iload X17.here hx rfl (hb hby at_117) rfl ?_
    show Steps p.tables e below (T17.setTop (mkF m 119 (LL1 p1 p2 q3 b5) [(.int (1 : Int32))])) _
    refine XS.ifNo X17.here hx rfl (hb hby at_119) rfl ((if0 _ _).trans (feq (by decide : ¬ ((1 : Int32) = (0 : Int32)))).1) ?_
    show Steps p.tables e below (T17.setTop (mkF m 122 (LL1 p1 p2 q3 b5) [])) _
    refine XS.aload X17.here hx rfl (hb hby at_122) rfl rfl ?_
    show Steps p.tables e below (T17.setTop (mkF m 124 (LL1 p1 p2 q3 b5) [(.ref b5)])) _
    refine XS.iloadN X17.here hx rfl (hb hby at_124) rfl ?_
    show Steps p.tables e below (T17.setTop (mkF m 125 (LL1 p1 p2 q3 b5) [(.int p2), (.ref b5)])) _
    refine XS.i2l X17.here hx rfl (hb hby at_125) rfl ?_
    show Steps p.tables e below (T17.setTop (mkF m 126 (LL1 p1 p2 q3 b5) [(.long (p2.toInt64)), (.ref b5)])) _
    refine XS.lconst X17.here hx rfl (hb hby at_126) ?_
    show Steps p.tables e below (T17.setTop (mkF m 127 (LL1 p1 p2 q3 b5) [(.long (1 : Int64)), (.long (p2.toInt64)), (.ref b5)])) _
    refine XS.ladd X17.here hx rfl (hb hby at_127) rfl ?_
    show Steps p.tables e below (T17.setTop (mkF m 128 (LL1 p1 p2 q3 b5) [(.long ((p2.toInt64) + (1 : Int64))), (.ref b5)])) _
    refine st18.trans ?_
    show Steps p.tables e below (T18.setTop (mkF m 131 (LL1 p1 p2 q3 b5) [(.int (0 : Int32))])) _
    refine XS.ifNo X18.here hx rfl (hb hby at_131) rfl ((if0 _ _).trans (teq (rfl : (0 : Int32) = (0 : Int32))).2) ?_
    show Steps p.tables e below (T18.setTop (mkF m 134 (LL1 p1 p2 q3 b5) [])) _
    refine XS.iconst X18.here hx rfl (hb hby at_134) ?_
    show Steps p.tables e below (T18.setTop (mkF m 135 (LL1 p1 p2 q3 b5) [(.int (1 : Int32))])) _
    refine XS.goto X18.here hx rfl (pc0 := 135) (pc' := 139) rfl (hb hby at_135) (by decide) (by decide) ?_
    show Steps p.tables e below (T18.setTop (mkF m 139 (LL1 p1 p2 q3 b5) [(.int (1 : Int32))])) _
    refine XS.istore X18.here hx rfl (hb hby at_139) rfl (l' := (LL1 p1 p2 q3 b5)) rfl ?_
    show Steps p.tables e below (T18.setTop (mkF m 141 (LL1 p1 p2 q3 b5) [])) _
    refine XS.iload X18.here hx rfl (hb hby at_141) rfl ?_
    show Steps p.tables e below (T18.setTop (mkF m 143 (LL1 p1 p2 q3 b5) [(.int (1 : Int32))])) _
    refine XS.ifNo X18.here hx rfl (hb hby at_143) rfl ((if0 _ _).trans (feq (by decide : ¬ ((1 : Int32) = (0 : Int32)))).1) ?_
    show Steps p.tables e below (T18.setTop (mkF m 146 (LL1 p1 p2 q3 b5) [])) _
    refine XS.aload X18.here hx rfl (hb hby at_146) rfl rfl ?_
    show Steps p.tables e below (T18.setTop (mkF m 148 (LL1 p1 p2 q3 b5) [(.ref b5)])) _
    refine X18.ldc2Long hx hown (mvT hZ (tw_27 hw)) (g := (mkF m 148 (LL1 p1 p2 q3 b5) [(.ref b5)])) rfl (hb hby at_148) _ ?_
    show Steps p.tables e below (T18.setTop (mkF m 151 (LL1 p1 p2 q3 b5) [(.long (-9223372036854775808 : Int64)), (.ref b5)])) _
    refine st19.trans ?_
    show Steps p.tables e below (T19.setTop (mkF m 154 (LL1 p1 p2 q3 b5) [(.int (0 : Int32))])) _
    refine XS.ifNo X19.here hx rfl (hb hby at_154) rfl ((if0 _ _).trans (teq (rfl : (0 : Int32) = (0 : Int32))).2) ?_
    show Steps p.tables e below (T19.setTop (mkF m 157 (LL1 p1 p2 q3 b5) [])) _
    refine XS.iconst X19.here hx rfl (hb hby at_157) ?_
    show Steps p.tables e below (T19.setTop (mkF m 158 (LL1 p1 p2 q3 b5) [(.int (1 : Int32))])) _
    refine XS.goto X19.here hx rfl (pc0 := 158) (pc' := 162) rfl (hb hby at_158) (by decide) (by decide) ?_
    show Steps p.tables e below (T19.setTop (mkF m 162 (LL1 p1 p2 q3 b5) [(.int (1 : Int32))])) _
    refine XS.istore X19.here hx rfl (hb hby at_162) rfl (l' := (LL1 p1 p2 q3 b5)) rfl ?_
    show Steps p.tables e below (T19.setTop (mkF m 164 (LL1 p1 p2 q3 b5) [])) _
    refine XS.iload X19.here hx rfl (hb hby at_164) rfl ?_
    show Steps p.tables e below (T19.setTop (mkF m 166 (LL1 p1 p2 q3 b5) [(.int (1 : Int32))])) _
    refine XS.ifNo X19.here hx rfl (hb hby at_166) rfl ((if0 _ _).trans (feq (by decide : ¬ ((1 : Int32) = (0 : Int32)))).1) ?_
    show Steps p.tables e below (T19.setTop (mkF m 169 (LL1 p1 p2 q3 b5) [])) _
    refine XS.aload X19.here hx rfl (hb hby at_169) rfl rfl ?_
    show Steps p.tables e below (T19.setTop (mkF m 171 (LL1 p1 p2 q3 b5) [(.ref b5)])) _
    refine X19.ldc2Long hx hown (mvT hZ (tw_28 hw)) (g := (mkF m 171 (LL1 p1 p2 q3 b5) [(.ref b5)])) rfl (hb hby at_171) _ ?_
    show Steps p.tables e below (T19.setTop (mkF m 174 (LL1 p1 p2 q3 b5) [(.long (9223372036854775807 : Int64)), (.ref b5)])) _
    refine st20.trans ?_
    show Steps p.tables e below (T20.setTop (mkF m 177 (LL1 p1 p2 q3 b5) [(.int (0 : Int32))])) _
    refine XS.ifNo X20.here hx rfl (hb hby at_177) rfl ((if0 _ _).trans (teq (rfl : (0 : Int32) = (0 : Int32))).2) ?_
    show Steps p.tables e below (T20.setTop (mkF m 180 (LL1 p1 p2 q3 b5) [])) _
    refine XS.iconst X20.here hx rfl (hb hby at_180) ?_
    show Steps p.tables e below (T20.setTop (mkF m 181 (LL1 p1 p2 q3 b5) [(.int (1 : Int32))])) _
    refine XS.goto X20.here hx rfl (pc0 := 181) (pc' := 185) rfl (hb hby at_181) (by decide) (by decide) ?_
    show Steps p.tables e below (T20.setTop (mkF m 185 (LL1 p1 p2 q3 b5) [(.int (1 : Int32))])) _
    refine XS.istore X20.here hx rfl (hb hby at_185) rfl (l' := (LL1 p1 p2 q3 b5)) rfl ?_
    show Steps p.tables e below (T20.setTop (mkF m 187 (LL1 p1 p2 q3 b5) [])) _
    refine XS.iload X20.here hx rfl (hb hby at_187) rfl ?_
    show Steps p.tables e below (T20.setTop (mkF m 189 (LL1 p1 p2 q3 b5) [(.int (1 : Int32))])) _
    exact retN X20 hx (t := .boolean) Bd.returns (by simp) (hb hby at_189) hr
  · show Q0 h0 n0 _ T20.heap _
    rw [e20q]
    exact ⟨rfl, N20⟩
theorem imp_1 (p1 : Int32) : ¬ ((lcmpW (p1.toInt64) (p1.toInt64)) < (0 : Int32)) := by
  have := rng32 p1
  have := c_i2l p1
  have := c_lcmp (p1.toInt64) (p1.toInt64)
  have := (by decide : (0 : Int32).toInt = 0)
  refine mt Int32.lt_iff_toInt_lt.mp ?_
  omega
theorem imp_2 (p1 : Int32) (p2 : Int32) (h1 : ¬ ((lcmpW (p1.toInt64) (p1.toInt64)) < (0 : Int32))) : ¬ ((va4 p1 p2) = (0 : Int32)) := by
  have := rng32 p1
  have := c_i2l p1
  have := c_lcmp (p1.toInt64) (p1.toInt64)
  have := (by decide : (0 : Int32).toInt = 0)
  have := (by decide : (1 : Int32).toInt = 1)
  have := rng32 p2
  have := c_i2l p2
  have := c_lcmp (p1.toInt64) (p2.toInt64)
  have : ((0 : Int32).toInt < (lcmpW (p1.toInt64) (p2.toInt64)).toInt ∧ (if (0 : Int32) < (lcmpW (p1.toInt64) (p2.toInt64)) then (0 : Int32) else (1 : Int32)).toInt = (0 : Int32).toInt) ∨ (¬ ((0 : Int32).toInt < (lcmpW (p1.toInt64) (p2.toInt64)).toInt) ∧ (if (0 : Int32) < (lcmpW (p1.toInt64) (p2.toInt64)) then (0 : Int32) else (1 : Int32)).toInt = (1 : Int32).toInt) := by
    by_cases hc : (0 : Int32) < (lcmpW (p1.toInt64) (p2.toInt64))
    · exact Or.inl ⟨Int32.lt_iff_toInt_lt.mp hc, by rw [if_pos hc]⟩
    · exact Or.inr ⟨fun q => hc (Int32.lt_iff_toInt_lt.mpr q), by rw [if_neg hc]⟩
  have := (congrArg Int32.toInt (show (va3 (p1.toInt64) p2) = (if (0 : Int32) < (lcmpW (p1.toInt64) (p2.toInt64)) then (0 : Int32) else (1 : Int32)) from rfl))
  have : (p2.toInt < p1.toInt ∧ (if p2 < p1 then (0 : Int32) else (1 : Int32)).toInt = (0 : Int32).toInt) ∨ (¬ (p2.toInt < p1.toInt) ∧ (if p2 < p1 then (0 : Int32) else (1 : Int32)).toInt = (1 : Int32).toInt) := by
    by_cases hc : p2 < p1
    · exact Or.inl ⟨Int32.lt_iff_toInt_lt.mp hc, by rw [if_pos hc]⟩
    · exact Or.inr ⟨fun q => hc (Int32.lt_iff_toInt_lt.mpr q), by rw [if_neg hc]⟩
  have := (congrArg Int32.toInt (show (va2 p2 p1) = (if p2 < p1 then (0 : Int32) else (1 : Int32)) from rfl))
  have : ((va3 (p1.toInt64) p2).toInt = (va2 p2 p1).toInt ∧ (if (va3 (p1.toInt64) p2) = (va2 p2 p1) then (1 : Int32) else (0 : Int32)).toInt = (1 : Int32).toInt) ∨ (¬ ((va3 (p1.toInt64) p2).toInt = (va2 p2 p1).toInt) ∧ (if (va3 (p1.toInt64) p2) = (va2 p2 p1) then (1 : Int32) else (0 : Int32)).toInt = (0 : Int32).toInt) := by
    by_cases hc : (va3 (p1.toInt64) p2) = (va2 p2 p1)
    · exact Or.inl ⟨Int32.toInt_inj.symm.mp hc, by rw [if_pos hc]⟩
    · exact Or.inr ⟨fun q => hc (Int32.toInt_inj.symm.mpr q), by rw [if_neg hc]⟩
  have := (congrArg Int32.toInt (show (va4 p1 p2) = (if (va3 (p1.toInt64) p2) = (va2 p2 p1) then (1 : Int32) else (0 : Int32)) from rfl))
  have := mt Int32.lt_iff_toInt_lt.mpr h1
  refine mt (congrArg Int32.toInt) ?_
  omega
theorem imp_3 (p1 : Int32) (p2 : Int32) (h1 : ¬ ((va4 p1 p2) = (0 : Int32))) : ¬ ((0 : Int32) < (lcmpW (p2.toInt64) (p2.toInt64))) := by
  have := (by decide : (1 : Int32).toInt = 1)
  have := (by decide : (0 : Int32).toInt = 0)
  have := rng32 p1
  have := c_i2l p1
  have := rng32 p2
  have := c_i2l p2
  have := c_lcmp (p1.toInt64) (p2.toInt64)
  have : ((0 : Int32).toInt < (lcmpW (p1.toInt64) (p2.toInt64)).toInt ∧ (if (0 : Int32) < (lcmpW (p1.toInt64) (p2.toInt64)) then (0 : Int32) else (1 : Int32)).toInt = (0 : Int32).toInt) ∨ (¬ ((0 : Int32).toInt < (lcmpW (p1.toInt64) (p2.toInt64)).toInt) ∧ (if (0 : Int32) < (lcmpW (p1.toInt64) (p2.toInt64)) then (0 : Int32) else (1 : Int32)).toInt = (1 : Int32).toInt) := by
    by_cases hc : (0 : Int32) < (lcmpW (p1.toInt64) (p2.toInt64))
    · exact Or.inl ⟨Int32.lt_iff_toInt_lt.mp hc, by rw [if_pos hc]⟩
    · exact Or.inr ⟨fun q => hc (Int32.lt_iff_toInt_lt.mpr q), by rw [if_neg hc]⟩
  have := (congrArg Int32.toInt (show (va3 (p1.toInt64) p2) = (if (0 : Int32) < (lcmpW (p1.toInt64) (p2.toInt64)) then (0 : Int32) else (1 : Int32)) from rfl))
  have : (p2.toInt < p1.toInt ∧ (if p2 < p1 then (0 : Int32) else (1 : Int32)).toInt = (0 : Int32).toInt) ∨ (¬ (p2.toInt < p1.toInt) ∧ (if p2 < p1 then (0 : Int32) else (1 : Int32)).toInt = (1 : Int32).toInt) := by
    by_cases hc : p2 < p1
    · exact Or.inl ⟨Int32.lt_iff_toInt_lt.mp hc, by rw [if_pos hc]⟩
    · exact Or.inr ⟨fun q => hc (Int32.lt_iff_toInt_lt.mpr q), by rw [if_neg hc]⟩
  have := (congrArg Int32.toInt (show (va2 p2 p1) = (if p2 < p1 then (0 : Int32) else (1 : Int32)) from rfl))
  have : ((va3 (p1.toInt64) p2).toInt = (va2 p2 p1).toInt ∧ (if (va3 (p1.toInt64) p2) = (va2 p2 p1) then (1 : Int32) else (0 : Int32)).toInt = (1 : Int32).toInt) ∨ (¬ ((va3 (p1.toInt64) p2).toInt = (va2 p2 p1).toInt) ∧ (if (va3 (p1.toInt64) p2) = (va2 p2 p1) then (1 : Int32) else (0 : Int32)).toInt = (0 : Int32).toInt) := by
    by_cases hc : (va3 (p1.toInt64) p2) = (va2 p2 p1)
    · exact Or.inl ⟨Int32.toInt_inj.symm.mp hc, by rw [if_pos hc]⟩
    · exact Or.inr ⟨fun q => hc (Int32.toInt_inj.symm.mpr q), by rw [if_neg hc]⟩
  have := (congrArg Int32.toInt (show (va4 p1 p2) = (if (va3 (p1.toInt64) p2) = (va2 p2 p1) then (1 : Int32) else (0 : Int32)) from rfl))
  have := c_lcmp (p2.toInt64) (p2.toInt64)
  have := mt Int32.toInt_inj.mp h1
  refine mt Int32.lt_iff_toInt_lt.mp ?_
  omega
theorem imp_4 (p1 : Int32) (p2 : Int32) (h1 : ¬ ((lcmpW (p1.toInt64) (p1.toInt64)) < (0 : Int32))) (h2 : ¬ ((va4 p1 p2) = (0 : Int32))) (h3 : ¬ ((0 : Int32) < (lcmpW (p2.toInt64) (p2.toInt64)))) : ¬ ((va6 p2 p1) = (0 : Int32)) := by
  have := rng32 p1
  have := c_i2l p1
  have := c_lcmp (p1.toInt64) (p1.toInt64)
  have := (by decide : (0 : Int32).toInt = 0)
  have := (by decide : (1 : Int32).toInt = 1)
  have := rng32 p2
  have := c_i2l p2
  have := c_lcmp (p1.toInt64) (p2.toInt64)
  have : ((0 : Int32).toInt < (lcmpW (p1.toInt64) (p2.toInt64)).toInt ∧ (if (0 : Int32) < (lcmpW (p1.toInt64) (p2.toInt64)) then (0 : Int32) else (1 : Int32)).toInt = (0 : Int32).toInt) ∨ (¬ ((0 : Int32).toInt < (lcmpW (p1.toInt64) (p2.toInt64)).toInt) ∧ (if (0 : Int32) < (lcmpW (p1.toInt64) (p2.toInt64)) then (0 : Int32) else (1 : Int32)).toInt = (1 : Int32).toInt) := by
    by_cases hc : (0 : Int32) < (lcmpW (p1.toInt64) (p2.toInt64))
    · exact Or.inl ⟨Int32.lt_iff_toInt_lt.mp hc, by rw [if_pos hc]⟩
    · exact Or.inr ⟨fun q => hc (Int32.lt_iff_toInt_lt.mpr q), by rw [if_neg hc]⟩
  have := (congrArg Int32.toInt (show (va3 (p1.toInt64) p2) = (if (0 : Int32) < (lcmpW (p1.toInt64) (p2.toInt64)) then (0 : Int32) else (1 : Int32)) from rfl))
  have : (p2.toInt < p1.toInt ∧ (if p2 < p1 then (0 : Int32) else (1 : Int32)).toInt = (0 : Int32).toInt) ∨ (¬ (p2.toInt < p1.toInt) ∧ (if p2 < p1 then (0 : Int32) else (1 : Int32)).toInt = (1 : Int32).toInt) := by
    by_cases hc : p2 < p1
    · exact Or.inl ⟨Int32.lt_iff_toInt_lt.mp hc, by rw [if_pos hc]⟩
    · exact Or.inr ⟨fun q => hc (Int32.lt_iff_toInt_lt.mpr q), by rw [if_neg hc]⟩
  have := (congrArg Int32.toInt (show (va2 p2 p1) = (if p2 < p1 then (0 : Int32) else (1 : Int32)) from rfl))
  have : ((va3 (p1.toInt64) p2).toInt = (va2 p2 p1).toInt ∧ (if (va3 (p1.toInt64) p2) = (va2 p2 p1) then (1 : Int32) else (0 : Int32)).toInt = (1 : Int32).toInt) ∨ (¬ ((va3 (p1.toInt64) p2).toInt = (va2 p2 p1).toInt) ∧ (if (va3 (p1.toInt64) p2) = (va2 p2 p1) then (1 : Int32) else (0 : Int32)).toInt = (0 : Int32).toInt) := by
    by_cases hc : (va3 (p1.toInt64) p2) = (va2 p2 p1)
    · exact Or.inl ⟨Int32.toInt_inj.symm.mp hc, by rw [if_pos hc]⟩
    · exact Or.inr ⟨fun q => hc (Int32.toInt_inj.symm.mpr q), by rw [if_neg hc]⟩
  have := (congrArg Int32.toInt (show (va4 p1 p2) = (if (va3 (p1.toInt64) p2) = (va2 p2 p1) then (1 : Int32) else (0 : Int32)) from rfl))
  have := c_lcmp (p2.toInt64) (p2.toInt64)
  have := c_lcmp (p2.toInt64) (p1.toInt64)
  have : ((lcmpW (p2.toInt64) (p1.toInt64)).toInt < (0 : Int32).toInt ∧ (if (lcmpW (p2.toInt64) (p1.toInt64)) < (0 : Int32) then (0 : Int32) else (1 : Int32)).toInt = (0 : Int32).toInt) ∨ (¬ ((lcmpW (p2.toInt64) (p1.toInt64)).toInt < (0 : Int32).toInt) ∧ (if (lcmpW (p2.toInt64) (p1.toInt64)) < (0 : Int32) then (0 : Int32) else (1 : Int32)).toInt = (1 : Int32).toInt) := by
    by_cases hc : (lcmpW (p2.toInt64) (p1.toInt64)) < (0 : Int32)
    · exact Or.inl ⟨Int32.lt_iff_toInt_lt.mp hc, by rw [if_pos hc]⟩
    · exact Or.inr ⟨fun q => hc (Int32.lt_iff_toInt_lt.mpr q), by rw [if_neg hc]⟩
  have := (congrArg Int32.toInt (show (va5 (p2.toInt64) p1) = (if (lcmpW (p2.toInt64) (p1.toInt64)) < (0 : Int32) then (0 : Int32) else (1 : Int32)) from rfl))
  have : ((va5 (p2.toInt64) p1).toInt = (va2 p2 p1).toInt ∧ (if (va5 (p2.toInt64) p1) = (va2 p2 p1) then (1 : Int32) else (0 : Int32)).toInt = (1 : Int32).toInt) ∨ (¬ ((va5 (p2.toInt64) p1).toInt = (va2 p2 p1).toInt) ∧ (if (va5 (p2.toInt64) p1) = (va2 p2 p1) then (1 : Int32) else (0 : Int32)).toInt = (0 : Int32).toInt) := by
    by_cases hc : (va5 (p2.toInt64) p1) = (va2 p2 p1)
    · exact Or.inl ⟨Int32.toInt_inj.symm.mp hc, by rw [if_pos hc]⟩
    · exact Or.inr ⟨fun q => hc (Int32.toInt_inj.symm.mpr q), by rw [if_neg hc]⟩
  have := (congrArg Int32.toInt (show (va6 p2 p1) = (if (va5 (p2.toInt64) p1) = (va2 p2 p1) then (1 : Int32) else (0 : Int32)) from rfl))
  have := mt Int32.lt_iff_toInt_lt.mpr h1
  have := mt Int32.toInt_inj.mp h2
  have := mt Int32.lt_iff_toInt_lt.mpr h3
  refine mt (congrArg Int32.toInt) ?_
  omega
theorem imp_5 (p1 : Int32) (p2 : Int32) (h1 : ¬ ((lcmpW (p1.toInt64) (p1.toInt64)) < (0 : Int32))) (h2 : ¬ ((va4 p1 p2) = (0 : Int32))) (h3 : ¬ ((va6 p2 p1) = (0 : Int32))) : (lcmpW ((p1.toInt64) - (1 : Int64)) (p1.toInt64)) < (0 : Int32) := by
  have := rng32 p1
  have := c_i2l p1
  have := c_lcmp (p1.toInt64) (p1.toInt64)
  have := (by decide : (0 : Int32).toInt = 0)
  have := (by decide : (1 : Int32).toInt = 1)
  have := rng32 p2
  have := c_i2l p2
  have := c_lcmp (p1.toInt64) (p2.toInt64)
  have : ((0 : Int32).toInt < (lcmpW (p1.toInt64) (p2.toInt64)).toInt ∧ (if (0 : Int32) < (lcmpW (p1.toInt64) (p2.toInt64)) then (0 : Int32) else (1 : Int32)).toInt = (0 : Int32).toInt) ∨ (¬ ((0 : Int32).toInt < (lcmpW (p1.toInt64) (p2.toInt64)).toInt) ∧ (if (0 : Int32) < (lcmpW (p1.toInt64) (p2.toInt64)) then (0 : Int32) else (1 : Int32)).toInt = (1 : Int32).toInt) := by
    by_cases hc : (0 : Int32) < (lcmpW (p1.toInt64) (p2.toInt64))
    · exact Or.inl ⟨Int32.lt_iff_toInt_lt.mp hc, by rw [if_pos hc]⟩
    · exact Or.inr ⟨fun q => hc (Int32.lt_iff_toInt_lt.mpr q), by rw [if_neg hc]⟩
  have := (congrArg Int32.toInt (show (va3 (p1.toInt64) p2) = (if (0 : Int32) < (lcmpW (p1.toInt64) (p2.toInt64)) then (0 : Int32) else (1 : Int32)) from rfl))
  have : (p2.toInt < p1.toInt ∧ (if p2 < p1 then (0 : Int32) else (1 : Int32)).toInt = (0 : Int32).toInt) ∨ (¬ (p2.toInt < p1.toInt) ∧ (if p2 < p1 then (0 : Int32) else (1 : Int32)).toInt = (1 : Int32).toInt) := by
    by_cases hc : p2 < p1
    · exact Or.inl ⟨Int32.lt_iff_toInt_lt.mp hc, by rw [if_pos hc]⟩
    · exact Or.inr ⟨fun q => hc (Int32.lt_iff_toInt_lt.mpr q), by rw [if_neg hc]⟩
  have := (congrArg Int32.toInt (show (va2 p2 p1) = (if p2 < p1 then (0 : Int32) else (1 : Int32)) from rfl))
  have : ((va3 (p1.toInt64) p2).toInt = (va2 p2 p1).toInt ∧ (if (va3 (p1.toInt64) p2) = (va2 p2 p1) then (1 : Int32) else (0 : Int32)).toInt = (1 : Int32).toInt) ∨ (¬ ((va3 (p1.toInt64) p2).toInt = (va2 p2 p1).toInt) ∧ (if (va3 (p1.toInt64) p2) = (va2 p2 p1) then (1 : Int32) else (0 : Int32)).toInt = (0 : Int32).toInt) := by
    by_cases hc : (va3 (p1.toInt64) p2) = (va2 p2 p1)
    · exact Or.inl ⟨Int32.toInt_inj.symm.mp hc, by rw [if_pos hc]⟩
    · exact Or.inr ⟨fun q => hc (Int32.toInt_inj.symm.mpr q), by rw [if_neg hc]⟩
  have := (congrArg Int32.toInt (show (va4 p1 p2) = (if (va3 (p1.toInt64) p2) = (va2 p2 p1) then (1 : Int32) else (0 : Int32)) from rfl))
  have := c_lcmp (p2.toInt64) (p1.toInt64)
  have : ((lcmpW (p2.toInt64) (p1.toInt64)).toInt < (0 : Int32).toInt ∧ (if (lcmpW (p2.toInt64) (p1.toInt64)) < (0 : Int32) then (0 : Int32) else (1 : Int32)).toInt = (0 : Int32).toInt) ∨ (¬ ((lcmpW (p2.toInt64) (p1.toInt64)).toInt < (0 : Int32).toInt) ∧ (if (lcmpW (p2.toInt64) (p1.toInt64)) < (0 : Int32) then (0 : Int32) else (1 : Int32)).toInt = (1 : Int32).toInt) := by
    by_cases hc : (lcmpW (p2.toInt64) (p1.toInt64)) < (0 : Int32)
    · exact Or.inl ⟨Int32.lt_iff_toInt_lt.mp hc, by rw [if_pos hc]⟩
    · exact Or.inr ⟨fun q => hc (Int32.lt_iff_toInt_lt.mpr q), by rw [if_neg hc]⟩
  have := (congrArg Int32.toInt (show (va5 (p2.toInt64) p1) = (if (lcmpW (p2.toInt64) (p1.toInt64)) < (0 : Int32) then (0 : Int32) else (1 : Int32)) from rfl))
  have : ((va5 (p2.toInt64) p1).toInt = (va2 p2 p1).toInt ∧ (if (va5 (p2.toInt64) p1) = (va2 p2 p1) then (1 : Int32) else (0 : Int32)).toInt = (1 : Int32).toInt) ∨ (¬ ((va5 (p2.toInt64) p1).toInt = (va2 p2 p1).toInt) ∧ (if (va5 (p2.toInt64) p1) = (va2 p2 p1) then (1 : Int32) else (0 : Int32)).toInt = (0 : Int32).toInt) := by
    by_cases hc : (va5 (p2.toInt64) p1) = (va2 p2 p1)
    · exact Or.inl ⟨Int32.toInt_inj.symm.mp hc, by rw [if_pos hc]⟩
    · exact Or.inr ⟨fun q => hc (Int32.toInt_inj.symm.mpr q), by rw [if_neg hc]⟩
  have := (congrArg Int32.toInt (show (va6 p2 p1) = (if (va5 (p2.toInt64) p1) = (va2 p2 p1) then (1 : Int32) else (0 : Int32)) from rfl))
  have := (by decide : (1 : Int64).toInt = 1)
  have := c_lsub (p1.toInt64) (1 : Int64)
  have := rng64 ((p1.toInt64) - (1 : Int64))
  have := c_lcmp ((p1.toInt64) - (1 : Int64)) (p1.toInt64)
  have := mt Int32.lt_iff_toInt_lt.mpr h1
  have := mt Int32.toInt_inj.mp h2
  have := mt Int32.toInt_inj.mp h3
  apply Int32.lt_iff_toInt_lt.mpr
  omega
theorem imp_6 (p1 : Int32) (p2 : Int32) (h1 : ¬ ((va4 p1 p2) = (0 : Int32))) (h2 : ¬ ((0 : Int32) < (lcmpW (p2.toInt64) (p2.toInt64)))) (h3 : ¬ ((va6 p2 p1) = (0 : Int32))) : (0 : Int32) < (lcmpW ((p2.toInt64) + (1 : Int64)) (p2.toInt64)) := by
  have := (by decide : (1 : Int32).toInt = 1)
  have := (by decide : (0 : Int32).toInt = 0)
  have := rng32 p1
  have := c_i2l p1
  have := rng32 p2
  have := c_i2l p2
  have := c_lcmp (p1.toInt64) (p2.toInt64)
  have : ((0 : Int32).toInt < (lcmpW (p1.toInt64) (p2.toInt64)).toInt ∧ (if (0 : Int32) < (lcmpW (p1.toInt64) (p2.toInt64)) then (0 : Int32) else (1 : Int32)).toInt = (0 : Int32).toInt) ∨ (¬ ((0 : Int32).toInt < (lcmpW (p1.toInt64) (p2.toInt64)).toInt) ∧ (if (0 : Int32) < (lcmpW (p1.toInt64) (p2.toInt64)) then (0 : Int32) else (1 : Int32)).toInt = (1 : Int32).toInt) := by
    by_cases hc : (0 : Int32) < (lcmpW (p1.toInt64) (p2.toInt64))
    · exact Or.inl ⟨Int32.lt_iff_toInt_lt.mp hc, by rw [if_pos hc]⟩
    · exact Or.inr ⟨fun q => hc (Int32.lt_iff_toInt_lt.mpr q), by rw [if_neg hc]⟩
  have := (congrArg Int32.toInt (show (va3 (p1.toInt64) p2) = (if (0 : Int32) < (lcmpW (p1.toInt64) (p2.toInt64)) then (0 : Int32) else (1 : Int32)) from rfl))
  have : (p2.toInt < p1.toInt ∧ (if p2 < p1 then (0 : Int32) else (1 : Int32)).toInt = (0 : Int32).toInt) ∨ (¬ (p2.toInt < p1.toInt) ∧ (if p2 < p1 then (0 : Int32) else (1 : Int32)).toInt = (1 : Int32).toInt) := by
    by_cases hc : p2 < p1
    · exact Or.inl ⟨Int32.lt_iff_toInt_lt.mp hc, by rw [if_pos hc]⟩
    · exact Or.inr ⟨fun q => hc (Int32.lt_iff_toInt_lt.mpr q), by rw [if_neg hc]⟩
  have := (congrArg Int32.toInt (show (va2 p2 p1) = (if p2 < p1 then (0 : Int32) else (1 : Int32)) from rfl))
  have : ((va3 (p1.toInt64) p2).toInt = (va2 p2 p1).toInt ∧ (if (va3 (p1.toInt64) p2) = (va2 p2 p1) then (1 : Int32) else (0 : Int32)).toInt = (1 : Int32).toInt) ∨ (¬ ((va3 (p1.toInt64) p2).toInt = (va2 p2 p1).toInt) ∧ (if (va3 (p1.toInt64) p2) = (va2 p2 p1) then (1 : Int32) else (0 : Int32)).toInt = (0 : Int32).toInt) := by
    by_cases hc : (va3 (p1.toInt64) p2) = (va2 p2 p1)
    · exact Or.inl ⟨Int32.toInt_inj.symm.mp hc, by rw [if_pos hc]⟩
    · exact Or.inr ⟨fun q => hc (Int32.toInt_inj.symm.mpr q), by rw [if_neg hc]⟩
  have := (congrArg Int32.toInt (show (va4 p1 p2) = (if (va3 (p1.toInt64) p2) = (va2 p2 p1) then (1 : Int32) else (0 : Int32)) from rfl))
  have := c_lcmp (p2.toInt64) (p2.toInt64)
  have := c_lcmp (p2.toInt64) (p1.toInt64)
  have : ((lcmpW (p2.toInt64) (p1.toInt64)).toInt < (0 : Int32).toInt ∧ (if (lcmpW (p2.toInt64) (p1.toInt64)) < (0 : Int32) then (0 : Int32) else (1 : Int32)).toInt = (0 : Int32).toInt) ∨ (¬ ((lcmpW (p2.toInt64) (p1.toInt64)).toInt < (0 : Int32).toInt) ∧ (if (lcmpW (p2.toInt64) (p1.toInt64)) < (0 : Int32) then (0 : Int32) else (1 : Int32)).toInt = (1 : Int32).toInt) := by
    by_cases hc : (lcmpW (p2.toInt64) (p1.toInt64)) < (0 : Int32)
    · exact Or.inl ⟨Int32.lt_iff_toInt_lt.mp hc, by rw [if_pos hc]⟩
    · exact Or.inr ⟨fun q => hc (Int32.lt_iff_toInt_lt.mpr q), by rw [if_neg hc]⟩
  have := (congrArg Int32.toInt (show (va5 (p2.toInt64) p1) = (if (lcmpW (p2.toInt64) (p1.toInt64)) < (0 : Int32) then (0 : Int32) else (1 : Int32)) from rfl))
  have : ((va5 (p2.toInt64) p1).toInt = (va2 p2 p1).toInt ∧ (if (va5 (p2.toInt64) p1) = (va2 p2 p1) then (1 : Int32) else (0 : Int32)).toInt = (1 : Int32).toInt) ∨ (¬ ((va5 (p2.toInt64) p1).toInt = (va2 p2 p1).toInt) ∧ (if (va5 (p2.toInt64) p1) = (va2 p2 p1) then (1 : Int32) else (0 : Int32)).toInt = (0 : Int32).toInt) := by
    by_cases hc : (va5 (p2.toInt64) p1) = (va2 p2 p1)
    · exact Or.inl ⟨Int32.toInt_inj.symm.mp hc, by rw [if_pos hc]⟩
    · exact Or.inr ⟨fun q => hc (Int32.toInt_inj.symm.mpr q), by rw [if_neg hc]⟩
  have := (congrArg Int32.toInt (show (va6 p2 p1) = (if (va5 (p2.toInt64) p1) = (va2 p2 p1) then (1 : Int32) else (0 : Int32)) from rfl))
  have := (by decide : (1 : Int64).toInt = 1)
  have := c_ladd (p2.toInt64) (1 : Int64)
  have := rng64 ((p2.toInt64) + (1 : Int64))
  have := c_lcmp ((p2.toInt64) + (1 : Int64)) (p2.toInt64)
  have := mt Int32.toInt_inj.mp h1
  have := mt Int32.lt_iff_toInt_lt.mpr h2
  have := mt Int32.toInt_inj.mp h3
  apply Int32.lt_iff_toInt_lt.mpr
  omega
theorem imp_7 (p1 : Int32) (p2 : Int32) (h1 : ¬ ((lcmpW (p1.toInt64) (p1.toInt64)) < (0 : Int32))) (h2 : ¬ ((va4 p1 p2) = (0 : Int32))) (h3 : ¬ ((va6 p2 p1) = (0 : Int32))) (h4 : (lcmpW ((p1.toInt64) - (1 : Int64)) (p1.toInt64)) < (0 : Int32)) : (lcmpW (-9223372036854775808 : Int64) (p1.toInt64)) < (0 : Int32) := by
  have := rng32 p1
  have := c_i2l p1
  have := c_lcmp (p1.toInt64) (p1.toInt64)
  have := (by decide : (0 : Int32).toInt = 0)
  have := (by decide : (1 : Int32).toInt = 1)
  have := rng32 p2
  have := c_i2l p2
  have := c_lcmp (p1.toInt64) (p2.toInt64)
  have : ((0 : Int32).toInt < (lcmpW (p1.toInt64) (p2.toInt64)).toInt ∧ (if (0 : Int32) < (lcmpW (p1.toInt64) (p2.toInt64)) then (0 : Int32) else (1 : Int32)).toInt = (0 : Int32).toInt) ∨ (¬ ((0 : Int32).toInt < (lcmpW (p1.toInt64) (p2.toInt64)).toInt) ∧ (if (0 : Int32) < (lcmpW (p1.toInt64) (p2.toInt64)) then (0 : Int32) else (1 : Int32)).toInt = (1 : Int32).toInt) := by
    by_cases hc : (0 : Int32) < (lcmpW (p1.toInt64) (p2.toInt64))
    · exact Or.inl ⟨Int32.lt_iff_toInt_lt.mp hc, by rw [if_pos hc]⟩
    · exact Or.inr ⟨fun q => hc (Int32.lt_iff_toInt_lt.mpr q), by rw [if_neg hc]⟩
  have := (congrArg Int32.toInt (show (va3 (p1.toInt64) p2) = (if (0 : Int32) < (lcmpW (p1.toInt64) (p2.toInt64)) then (0 : Int32) else (1 : Int32)) from rfl))
  have : (p2.toInt < p1.toInt ∧ (if p2 < p1 then (0 : Int32) else (1 : Int32)).toInt = (0 : Int32).toInt) ∨ (¬ (p2.toInt < p1.toInt) ∧ (if p2 < p1 then (0 : Int32) else (1 : Int32)).toInt = (1 : Int32).toInt) := by
    by_cases hc : p2 < p1
    · exact Or.inl ⟨Int32.lt_iff_toInt_lt.mp hc, by rw [if_pos hc]⟩
    · exact Or.inr ⟨fun q => hc (Int32.lt_iff_toInt_lt.mpr q), by rw [if_neg hc]⟩
  have := (congrArg Int32.toInt (show (va2 p2 p1) = (if p2 < p1 then (0 : Int32) else (1 : Int32)) from rfl))
  have : ((va3 (p1.toInt64) p2).toInt = (va2 p2 p1).toInt ∧ (if (va3 (p1.toInt64) p2) = (va2 p2 p1) then (1 : Int32) else (0 : Int32)).toInt = (1 : Int32).toInt) ∨ (¬ ((va3 (p1.toInt64) p2).toInt = (va2 p2 p1).toInt) ∧ (if (va3 (p1.toInt64) p2) = (va2 p2 p1) then (1 : Int32) else (0 : Int32)).toInt = (0 : Int32).toInt) := by
    by_cases hc : (va3 (p1.toInt64) p2) = (va2 p2 p1)
    · exact Or.inl ⟨Int32.toInt_inj.symm.mp hc, by rw [if_pos hc]⟩
    · exact Or.inr ⟨fun q => hc (Int32.toInt_inj.symm.mpr q), by rw [if_neg hc]⟩
  have := (congrArg Int32.toInt (show (va4 p1 p2) = (if (va3 (p1.toInt64) p2) = (va2 p2 p1) then (1 : Int32) else (0 : Int32)) from rfl))
  have := c_lcmp (p2.toInt64) (p1.toInt64)
  have : ((lcmpW (p2.toInt64) (p1.toInt64)).toInt < (0 : Int32).toInt ∧ (if (lcmpW (p2.toInt64) (p1.toInt64)) < (0 : Int32) then (0 : Int32) else (1 : Int32)).toInt = (0 : Int32).toInt) ∨ (¬ ((lcmpW (p2.toInt64) (p1.toInt64)).toInt < (0 : Int32).toInt) ∧ (if (lcmpW (p2.toInt64) (p1.toInt64)) < (0 : Int32) then (0 : Int32) else (1 : Int32)).toInt = (1 : Int32).toInt) := by
    by_cases hc : (lcmpW (p2.toInt64) (p1.toInt64)) < (0 : Int32)
    · exact Or.inl ⟨Int32.lt_iff_toInt_lt.mp hc, by rw [if_pos hc]⟩
    · exact Or.inr ⟨fun q => hc (Int32.lt_iff_toInt_lt.mpr q), by rw [if_neg hc]⟩
  have := (congrArg Int32.toInt (show (va5 (p2.toInt64) p1) = (if (lcmpW (p2.toInt64) (p1.toInt64)) < (0 : Int32) then (0 : Int32) else (1 : Int32)) from rfl))
  have : ((va5 (p2.toInt64) p1).toInt = (va2 p2 p1).toInt ∧ (if (va5 (p2.toInt64) p1) = (va2 p2 p1) then (1 : Int32) else (0 : Int32)).toInt = (1 : Int32).toInt) ∨ (¬ ((va5 (p2.toInt64) p1).toInt = (va2 p2 p1).toInt) ∧ (if (va5 (p2.toInt64) p1) = (va2 p2 p1) then (1 : Int32) else (0 : Int32)).toInt = (0 : Int32).toInt) := by
    by_cases hc : (va5 (p2.toInt64) p1) = (va2 p2 p1)
    · exact Or.inl ⟨Int32.toInt_inj.symm.mp hc, by rw [if_pos hc]⟩
    · exact Or.inr ⟨fun q => hc (Int32.toInt_inj.symm.mpr q), by rw [if_neg hc]⟩
  have := (congrArg Int32.toInt (show (va6 p2 p1) = (if (va5 (p2.toInt64) p1) = (va2 p2 p1) then (1 : Int32) else (0 : Int32)) from rfl))
  have := (by decide : (1 : Int64).toInt = 1)
  have := c_lsub (p1.toInt64) (1 : Int64)
  have := rng64 ((p1.toInt64) - (1 : Int64))
  have := c_lcmp ((p1.toInt64) - (1 : Int64)) (p1.toInt64)
  have := (by decide : (-9223372036854775808 : Int64).toInt = -9223372036854775808)
  have := c_lcmp (-9223372036854775808 : Int64) (p1.toInt64)
  have := mt Int32.lt_iff_toInt_lt.mpr h1
  have := mt Int32.toInt_inj.mp h2
  have := mt Int32.toInt_inj.mp h3
  have := Int32.lt_iff_toInt_lt.mp h4
  apply Int32.lt_iff_toInt_lt.mpr
  omega
theorem imp_8 (p1 : Int32) (p2 : Int32) (h1 : ¬ ((lcmpW (p1.toInt64) (p1.toInt64)) < (0 : Int32))) (h2 : ¬ ((va4 p1 p2) = (0 : Int32))) (h3 : ¬ ((va6 p2 p1) = (0 : Int32))) (h4 : (lcmpW ((p1.toInt64) - (1 : Int64)) (p1.toInt64)) < (0 : Int32)) (h5 : (lcmpW (-9223372036854775808 : Int64) (p1.toInt64)) < (0 : Int32)) : ¬ ((lcmpW (9223372036854775807 : Int64) (p1.toInt64)) < (0 : Int32)) := by
  have := rng32 p1
  have := c_i2l p1
  have := c_lcmp (p1.toInt64) (p1.toInt64)
  have := (by decide : (0 : Int32).toInt = 0)
  have := (by decide : (1 : Int32).toInt = 1)
  have := rng32 p2
  have := c_i2l p2
  have := c_lcmp (p1.toInt64) (p2.toInt64)
  have : ((0 : Int32).toInt < (lcmpW (p1.toInt64) (p2.toInt64)).toInt ∧ (if (0 : Int32) < (lcmpW (p1.toInt64) (p2.toInt64)) then (0 : Int32) else (1 : Int32)).toInt = (0 : Int32).toInt) ∨ (¬ ((0 : Int32).toInt < (lcmpW (p1.toInt64) (p2.toInt64)).toInt) ∧ (if (0 : Int32) < (lcmpW (p1.toInt64) (p2.toInt64)) then (0 : Int32) else (1 : Int32)).toInt = (1 : Int32).toInt) := by
    by_cases hc : (0 : Int32) < (lcmpW (p1.toInt64) (p2.toInt64))
    · exact Or.inl ⟨Int32.lt_iff_toInt_lt.mp hc, by rw [if_pos hc]⟩
    · exact Or.inr ⟨fun q => hc (Int32.lt_iff_toInt_lt.mpr q), by rw [if_neg hc]⟩
  have := (congrArg Int32.toInt (show (va3 (p1.toInt64) p2) = (if (0 : Int32) < (lcmpW (p1.toInt64) (p2.toInt64)) then (0 : Int32) else (1 : Int32)) from rfl))
  have : (p2.toInt < p1.toInt ∧ (if p2 < p1 then (0 : Int32) else (1 : Int32)).toInt = (0 : Int32).toInt) ∨ (¬ (p2.toInt < p1.toInt) ∧ (if p2 < p1 then (0 : Int32) else (1 : Int32)).toInt = (1 : Int32).toInt) := by
    by_cases hc : p2 < p1
    · exact Or.inl ⟨Int32.lt_iff_toInt_lt.mp hc, by rw [if_pos hc]⟩
    · exact Or.inr ⟨fun q => hc (Int32.lt_iff_toInt_lt.mpr q), by rw [if_neg hc]⟩
  have := (congrArg Int32.toInt (show (va2 p2 p1) = (if p2 < p1 then (0 : Int32) else (1 : Int32)) from rfl))
  have : ((va3 (p1.toInt64) p2).toInt = (va2 p2 p1).toInt ∧ (if (va3 (p1.toInt64) p2) = (va2 p2 p1) then (1 : Int32) else (0 : Int32)).toInt = (1 : Int32).toInt) ∨ (¬ ((va3 (p1.toInt64) p2).toInt = (va2 p2 p1).toInt) ∧ (if (va3 (p1.toInt64) p2) = (va2 p2 p1) then (1 : Int32) else (0 : Int32)).toInt = (0 : Int32).toInt) := by
    by_cases hc : (va3 (p1.toInt64) p2) = (va2 p2 p1)
    · exact Or.inl ⟨Int32.toInt_inj.symm.mp hc, by rw [if_pos hc]⟩
    · exact Or.inr ⟨fun q => hc (Int32.toInt_inj.symm.mpr q), by rw [if_neg hc]⟩
  have := (congrArg Int32.toInt (show (va4 p1 p2) = (if (va3 (p1.toInt64) p2) = (va2 p2 p1) then (1 : Int32) else (0 : Int32)) from rfl))
  have := c_lcmp (p2.toInt64) (p1.toInt64)
  have : ((lcmpW (p2.toInt64) (p1.toInt64)).toInt < (0 : Int32).toInt ∧ (if (lcmpW (p2.toInt64) (p1.toInt64)) < (0 : Int32) then (0 : Int32) else (1 : Int32)).toInt = (0 : Int32).toInt) ∨ (¬ ((lcmpW (p2.toInt64) (p1.toInt64)).toInt < (0 : Int32).toInt) ∧ (if (lcmpW (p2.toInt64) (p1.toInt64)) < (0 : Int32) then (0 : Int32) else (1 : Int32)).toInt = (1 : Int32).toInt) := by
    by_cases hc : (lcmpW (p2.toInt64) (p1.toInt64)) < (0 : Int32)
    · exact Or.inl ⟨Int32.lt_iff_toInt_lt.mp hc, by rw [if_pos hc]⟩
    · exact Or.inr ⟨fun q => hc (Int32.lt_iff_toInt_lt.mpr q), by rw [if_neg hc]⟩
  have := (congrArg Int32.toInt (show (va5 (p2.toInt64) p1) = (if (lcmpW (p2.toInt64) (p1.toInt64)) < (0 : Int32) then (0 : Int32) else (1 : Int32)) from rfl))
  have : ((va5 (p2.toInt64) p1).toInt = (va2 p2 p1).toInt ∧ (if (va5 (p2.toInt64) p1) = (va2 p2 p1) then (1 : Int32) else (0 : Int32)).toInt = (1 : Int32).toInt) ∨ (¬ ((va5 (p2.toInt64) p1).toInt = (va2 p2 p1).toInt) ∧ (if (va5 (p2.toInt64) p1) = (va2 p2 p1) then (1 : Int32) else (0 : Int32)).toInt = (0 : Int32).toInt) := by
    by_cases hc : (va5 (p2.toInt64) p1) = (va2 p2 p1)
    · exact Or.inl ⟨Int32.toInt_inj.symm.mp hc, by rw [if_pos hc]⟩
    · exact Or.inr ⟨fun q => hc (Int32.toInt_inj.symm.mpr q), by rw [if_neg hc]⟩
  have := (congrArg Int32.toInt (show (va6 p2 p1) = (if (va5 (p2.toInt64) p1) = (va2 p2 p1) then (1 : Int32) else (0 : Int32)) from rfl))
  have := (by decide : (1 : Int64).toInt = 1)
  have := c_lsub (p1.toInt64) (1 : Int64)
  have := rng64 ((p1.toInt64) - (1 : Int64))
  have := c_lcmp ((p1.toInt64) - (1 : Int64)) (p1.toInt64)
  have := (by decide : (-9223372036854775808 : Int64).toInt = -9223372036854775808)
  have := c_lcmp (-9223372036854775808 : Int64) (p1.toInt64)
  have := (by decide : (9223372036854775807 : Int64).toInt = 9223372036854775807)
  have := c_lcmp (9223372036854775807 : Int64) (p1.toInt64)
  have := mt Int32.lt_iff_toInt_lt.mpr h1
  have := mt Int32.toInt_inj.mp h2
  have := mt Int32.toInt_inj.mp h3
  have := Int32.lt_iff_toInt_lt.mp h4
  have := Int32.lt_iff_toInt_lt.mp h5
  refine mt Int32.lt_iff_toInt_lt.mp ?_
  omega
theorem imp_9 (p1 : Int32) (p2 : Int32) (h1 : ¬ ((va4 p1 p2) = (0 : Int32))) (h2 : ¬ ((0 : Int32) < (lcmpW (p2.toInt64) (p2.toInt64)))) (h3 : ¬ ((va6 p2 p1) = (0 : Int32))) (h4 : (0 : Int32) < (lcmpW ((p2.toInt64) + (1 : Int64)) (p2.toInt64))) : (0 : Int32) < (lcmpW (9223372036854775807 : Int64) (p2.toInt64)) := by
  have := (by decide : (1 : Int32).toInt = 1)
  have := (by decide : (0 : Int32).toInt = 0)
  have := rng32 p1
  have := c_i2l p1
  have := rng32 p2
  have := c_i2l p2
  have := c_lcmp (p1.toInt64) (p2.toInt64)
  have : ((0 : Int32).toInt < (lcmpW (p1.toInt64) (p2.toInt64)).toInt ∧ (if (0 : Int32) < (lcmpW (p1.toInt64) (p2.toInt64)) then (0 : Int32) else (1 : Int32)).toInt = (0 : Int32).toInt) ∨ (¬ ((0 : Int32).toInt < (lcmpW (p1.toInt64) (p2.toInt64)).toInt) ∧ (if (0 : Int32) < (lcmpW (p1.toInt64) (p2.toInt64)) then (0 : Int32) else (1 : Int32)).toInt = (1 : Int32).toInt) := by
    by_cases hc : (0 : Int32) < (lcmpW (p1.toInt64) (p2.toInt64))
    · exact Or.inl ⟨Int32.lt_iff_toInt_lt.mp hc, by rw [if_pos hc]⟩
    · exact Or.inr ⟨fun q => hc (Int32.lt_iff_toInt_lt.mpr q), by rw [if_neg hc]⟩
  have := (congrArg Int32.toInt (show (va3 (p1.toInt64) p2) = (if (0 : Int32) < (lcmpW (p1.toInt64) (p2.toInt64)) then (0 : Int32) else (1 : Int32)) from rfl))
  have : (p2.toInt < p1.toInt ∧ (if p2 < p1 then (0 : Int32) else (1 : Int32)).toInt = (0 : Int32).toInt) ∨ (¬ (p2.toInt < p1.toInt) ∧ (if p2 < p1 then (0 : Int32) else (1 : Int32)).toInt = (1 : Int32).toInt) := by
    by_cases hc : p2 < p1
    · exact Or.inl ⟨Int32.lt_iff_toInt_lt.mp hc, by rw [if_pos hc]⟩
    · exact Or.inr ⟨fun q => hc (Int32.lt_iff_toInt_lt.mpr q), by rw [if_neg hc]⟩
  have := (congrArg Int32.toInt (show (va2 p2 p1) = (if p2 < p1 then (0 : Int32) else (1 : Int32)) from rfl))
  have : ((va3 (p1.toInt64) p2).toInt = (va2 p2 p1).toInt ∧ (if (va3 (p1.toInt64) p2) = (va2 p2 p1) then (1 : Int32) else (0 : Int32)).toInt = (1 : Int32).toInt) ∨ (¬ ((va3 (p1.toInt64) p2).toInt = (va2 p2 p1).toInt) ∧ (if (va3 (p1.toInt64) p2) = (va2 p2 p1) then (1 : Int32) else (0 : Int32)).toInt = (0 : Int32).toInt) := by
    by_cases hc : (va3 (p1.toInt64) p2) = (va2 p2 p1)
    · exact Or.inl ⟨Int32.toInt_inj.symm.mp hc, by rw [if_pos hc]⟩
    · exact Or.inr ⟨fun q => hc (Int32.toInt_inj.symm.mpr q), by rw [if_neg hc]⟩
  have := (congrArg Int32.toInt (show (va4 p1 p2) = (if (va3 (p1.toInt64) p2) = (va2 p2 p1) then (1 : Int32) else (0 : Int32)) from rfl))
  have := c_lcmp (p2.toInt64) (p2.toInt64)
  have := c_lcmp (p2.toInt64) (p1.toInt64)
  have : ((lcmpW (p2.toInt64) (p1.toInt64)).toInt < (0 : Int32).toInt ∧ (if (lcmpW (p2.toInt64) (p1.toInt64)) < (0 : Int32) then (0 : Int32) else (1 : Int32)).toInt = (0 : Int32).toInt) ∨ (¬ ((lcmpW (p2.toInt64) (p1.toInt64)).toInt < (0 : Int32).toInt) ∧ (if (lcmpW (p2.toInt64) (p1.toInt64)) < (0 : Int32) then (0 : Int32) else (1 : Int32)).toInt = (1 : Int32).toInt) := by
    by_cases hc : (lcmpW (p2.toInt64) (p1.toInt64)) < (0 : Int32)
    · exact Or.inl ⟨Int32.lt_iff_toInt_lt.mp hc, by rw [if_pos hc]⟩
    · exact Or.inr ⟨fun q => hc (Int32.lt_iff_toInt_lt.mpr q), by rw [if_neg hc]⟩
  have := (congrArg Int32.toInt (show (va5 (p2.toInt64) p1) = (if (lcmpW (p2.toInt64) (p1.toInt64)) < (0 : Int32) then (0 : Int32) else (1 : Int32)) from rfl))
  have : ((va5 (p2.toInt64) p1).toInt = (va2 p2 p1).toInt ∧ (if (va5 (p2.toInt64) p1) = (va2 p2 p1) then (1 : Int32) else (0 : Int32)).toInt = (1 : Int32).toInt) ∨ (¬ ((va5 (p2.toInt64) p1).toInt = (va2 p2 p1).toInt) ∧ (if (va5 (p2.toInt64) p1) = (va2 p2 p1) then (1 : Int32) else (0 : Int32)).toInt = (0 : Int32).toInt) := by
    by_cases hc : (va5 (p2.toInt64) p1) = (va2 p2 p1)
    · exact Or.inl ⟨Int32.toInt_inj.symm.mp hc, by rw [if_pos hc]⟩
    · exact Or.inr ⟨fun q => hc (Int32.toInt_inj.symm.mpr q), by rw [if_neg hc]⟩
  have := (congrArg Int32.toInt (show (va6 p2 p1) = (if (va5 (p2.toInt64) p1) = (va2 p2 p1) then (1 : Int32) else (0 : Int32)) from rfl))
  have := (by decide : (1 : Int64).toInt = 1)
  have := c_ladd (p2.toInt64) (1 : Int64)
  have := rng64 ((p2.toInt64) + (1 : Int64))
  have := c_lcmp ((p2.toInt64) + (1 : Int64)) (p2.toInt64)
  have := (by decide : (9223372036854775807 : Int64).toInt = 9223372036854775807)
  have := c_lcmp (9223372036854775807 : Int64) (p2.toInt64)
  have := mt Int32.toInt_inj.mp h1
  have := mt Int32.lt_iff_toInt_lt.mpr h2
  have := mt Int32.toInt_inj.mp h3
  have := Int32.lt_iff_toInt_lt.mp h4
  apply Int32.lt_iff_toInt_lt.mpr
  omega
set_option maxRecDepth 65536 in
set_option maxHeartbeats 40000000 in
theorem rm0 (l : Launch) (Z : State) (a0 : Array Value) (hw : ∀ d ∈ tables_1, d.before a0 Z = true) (ws : List Jvm.Cond) (p1 : Int32) (p2 : Int32) (q3 : Int64) (h0 : Heap) (n0 : Nat) (Z0 : n0 ≤ h0.size) :
    MetFree l x (head1 (Jvm.Cond.code x code maxLocals ret :: ws) room_1) (fun a U => a = #[(.int p1), (.int p2), (.long q3)] ∧ Z.Warmed39 U.vm ∧ U.heap = h0) (fun _ _ _ _ _ => True) (fun _ U o U' => ∃ v L, o = .returned v ∧ Q0 h0 n0 v U'.heap L ∧ FrameEnd U o U' L 16 128) := by
  have H1 : ¬ ((lcmpW (p1.toInt64) (p1.toInt64)) < (0 : Int32)) := by
    exact imp_1 p1
  have H2 : ¬ ((va4 p1 p2) = (0 : Int32)) := by
    exact imp_2 p1 p2 H1
  have H3 : ¬ ((0 : Int32) < (lcmpW (p2.toInt64) (p2.toInt64))) := by
    exact imp_3 p1 p2 H2
  have H4 : ¬ ((va6 p2 p1) = (0 : Int32)) := by
    exact imp_4 p1 p2 H1 H2 H3
  have H5 : (lcmpW ((p1.toInt64) - (1 : Int64)) (p1.toInt64)) < (0 : Int32) := by
    exact imp_5 p1 p2 H1 H2 H4
  have H6 : (0 : Int32) < (lcmpW ((p2.toInt64) + (1 : Int64)) (p2.toInt64)) := by
    exact imp_6 p1 p2 H2 H3 H4
  have H7 : (lcmpW (-9223372036854775808 : Int64) (p1.toInt64)) < (0 : Int32) := by
    exact imp_7 p1 p2 H1 H2 H4 H5
  have H8 : ¬ ((lcmpW (9223372036854775807 : Int64) (p1.toInt64)) < (0 : Int32)) := by
    exact imp_8 p1 p2 H1 H2 H4 H5 H7
  have H9 : (0 : Int32) < (lcmpW (9223372036854775807 : Int64) (p2.toInt64)) := by
    exact imp_9 p1 p2 H2 H3 H4 H6
  exact rm0_0 l Z a0 hw ws p1 p2 q3 h0 n0 Z0 H1 H2 H3 H4 H5 H6 H7 H8 H9
set_option maxRecDepth 65536 in
set_option maxHeartbeats 40000000 in
theorem comes_1 {Post : Tables → Env → Array Value → State → Outcome → State → Prop} (hpost : ∀ tb e args s v u, (limb_1_1.after args s (.returned v) u = true ∧ limb_1_2.after args s (.returned v) u = true ∧ True) → FrameEnd s (.returned v) u (Jvm.fieldLocs frame_1_writes args s ++ Jvm.arrayLocs frame_1_arrays args s ++ Jvm.staticLocs frame_1_statics s) 16 128 → Post tb e args s (.returned v) u) :
    ArmFor flags0 classFile x code maxLocals ret World_1 tables_1 room_1 Calls_1 rest_1 Pre_1 Post := by
  intro l hfl _ _ p e ha hc hk s m args below hf hA hF happ hP
  obtain ⟨hcalls, hrest, hpre⟩ := hP
  obtain ⟨-, -, -, hnamed, -, -, -, hat⟩ := (Spec.applies_iff hf).mp happ
  obtain ⟨hg, hn⟩ := and_e (Cond.before_iff.mp (show (Jvm.Cond.and given_1 narrow_1).before args s = true from hpre))
  obtain ⟨g1, g2⟩ := and_e hg
  obtain ⟨g3, g4⟩ := and_e g2
  obtain ⟨g5, g6⟩ := and_e g4
  obtain ⟨w0, w1, w2, rfl⟩ : ∃ w0 w1 w2 : Value, args = #[w0, w1, w2] := by
    have hs : args.size = 3 := by simpa [Cond.value, given_1] using g1
    obtain ⟨L⟩ := args
    match L, hs with
    | [w0, w1, w2], _ => exact ⟨w0, w1, w2, rfl⟩
  have hw := fun d (hd : d ∈ tables_1) => atoms_spec (ws := Jvm.Cond.code x code maxLocals ret :: tables_1) hat d (List.mem_cons_of_mem _ hd)
  have hfit : Fit s := fun {y c} hc i hi => by
    obtain ⟨ha, rfl⟩ := Array.getElem?_eq_some_iff.mp hc
    have q := List.all_eq_true.mp ((Array.all_eq_true_iff_forall_mem.mp hF) _ (Array.getElem_mem ha)) i (List.mem_range.mpr hi)
    simpa [Array.getElem?_eq_getElem hi] using q
  obtain ⟨i0, ei0⟩ := is_v g3
  obtain rfl : w0 = (.int i0) := Option.some.inj ei0
  obtain ⟨i1, ei1⟩ := is_v g5
  obtain rfl : w1 = (.int i1) := Option.some.inj ei1
  obtain ⟨i2, ei2⟩ := isL_v g6
  obtain rfl : w2 = (.long i2) := Option.some.inj ei2
  obtain ⟨n, o, h1, h2, h3, _, L, rfl, ⟨rfl, N⟩, hq⟩ := rm0 l s _ hw tables_1 i0 i1 i2 s.heap s.heap.size (Nat.le_refl _) p e ha hc hk s m _ below hf ((Spec.applies_iff_loose hf).mp happ).1 ⟨rfl, State.Warmed39.refl s, rfl⟩ trivial
  refine ⟨n, _, h1, h2, h3, hpost _ _ _ _ _ _ ⟨Cond.after_iff.mpr rfl, Cond.after_iff.mpr (eq_i res_at (Term.int_eval (1)) rfl), trivial⟩ ⟨hq.1, hq.2.1, (hq.2.2.sift fun y hy => Or.inr (N y hy)).mono (by decide) (by decide)⟩⟩
theorem main_1_1 : Claimed_1_1 := comes_1 fun _ _ _ _ _ _ h hF => ⟨h.1, hF⟩
theorem main_1_2 : Claimed_1_2 := comes_1 fun _ _ _ _ _ _ h hF => ⟨h.2.1, hF⟩
end Jvm.Pilot.@@N@@
namespace Jvm.Pilot.@@N@@
open Jvm Jvm.ClassFile Sem Op Lib Jvm.Free Jvm.Stand Jvm.Pilot.@@N@@.Jvm.D
/-! MADE BY PROGRAM (witnessworld.py) out of the Statement's table words and the real class files: 10 classes; the members and pool entries that the words name. The judged class is class 1, her method 2. -/
namespace start1
open Jvm.ClassFile
def u (s : String) : CpInfo := .utf8 (stringToUtf16 s)
/-- a pool by its gaps: so many unusable entries, then the entry; so many at the end -/
def gap : Nat → List CpInfo → List CpInfo
  | 0, r => r
  | n + 1, r => .unusable :: gap n r
def poolList (es : List (Nat × CpInfo)) (last : Nat) : List CpInfo := es.foldr (fun e r => gap e.1 (e.2 :: r)) (gap last [])
def pool (es : List (Nat × CpInfo)) (last : Nat) : Array CpInfo := ⟨poolList es last⟩
def fileOf (pool : Array CpInfo) (this : Nat) (attrs : Array Attribute := #[]) (ms : Array MethodInfo := #[]) (fl : Nat := 33) (sup : Nat := 0) (ifs : Array Nat := #[]) (fds : Array FieldInfo := #[]) : ClassFile where
  minorVersion := 0
  majorVersion := 65
  constantPool := pool
  accessFlags := fl
  thisClass := this
  superClass := sup
  interfaces := ifs
  fields := fds
  methods := ms
  attributes := attrs
def plain (name : String) (sup : Option ClassId) : Class where
  name := name
  kind := .ordinary
  loader := none
  accessFlags := 33
  super := sup
  interfaces := #[]
  cf := none
  fields := #[]
  methods := #[]
  instanceTypes := #[]
  staticTypes := #[]
  resolved := #[]
  callSites := []
  init := .initialized
  statics := none
  mirror := none

def pool0 : Array CpInfo := pool [(5, u "<init>"), (0, u "()V"), (1, .class_ 10), (1, u "java/lang/Object")] 113

def k0c0 : Code := { maxStack := 0, maxLocals := 1, code := object_method_1_code, exceptionTable := #[], attributes := #[] }
def k0m0 : Method := { name := "<init>", desc := "()V", sig := { parameters := [], returnType := none }, accessFlags := 1, code := some k0c0 }
/-- java/lang/Object -/
def k0 : Class := { plain "java/lang/Object" none with
  accessFlags := 33
  interfaces := #[]
  cf := some (fileOf pool0 8 #[] #[{ accessFlags := 1, nameIndex := 5, descriptorIndex := 6, attributes := #[] }] 33 0 #[] #[])
  fields := #[]
  methods := #[k0m0]
  instanceTypes := #[]
  staticTypes := #[]
  resolved := Array.replicate 124 none
  statics := none }

def pool1 : Array CpInfo := pool [(2, .class_ 4), (1, u "java/lang/Object"), (0, u "<init>"), (0, u "()V"), (0, .class_ 8), (0, u "com/example/murmuration/murmuration/Bounds"), (0, .methodref 7 10), (0, .nameAndType 5 11), (0, u "(II)V"), (0, .methodref 7 13), (0, .nameAndType 14 15), (0, u "contains"), (0, u "(J)Z"), (0, .methodref 17 18), (0, .class_ 19), (0, .nameAndType 20 21), (0, u "com/example/murmuration/murmuration/BoundsContainsPinLaw"), (0, u "expected"), (0, u "(IIJ)Z"), (2, .long 9223372036854775808), (1, .long 9223372036854775807), (4, u "law")] 2

def k1m0 : Method := { name := "<init>", desc := "()V", sig := { parameters := [], returnType := none }, accessFlags := 2, code := none }
def k1c1 : Code := { maxStack := 4, maxLocals := 4, code := method_2_code, exceptionTable := #[], attributes := #[] }
def k1m1 : Method := { name := "expected", desc := "(IIJ)Z", sig := { parameters := [.int, .int, .long], returnType := some .boolean }, accessFlags := 10, code := some k1c1 }
def k1c2 : Code := { maxStack := 5, maxLocals := 7, code := code, exceptionTable := #[], attributes := #[] }
def k1m2 : Method := { name := "law", desc := "(IIJ)Z", sig := { parameters := [.int, .int, .long], returnType := some .boolean }, accessFlags := 9, code := some k1c2 }
/-- com/example/murmuration/murmuration/BoundsContainsPinLaw -/
def k1 : Class := { plain "com/example/murmuration/murmuration/BoundsContainsPinLaw" (some 0) with
  accessFlags := 49
  interfaces := #[]
  cf := some (fileOf pool1 17 #[] #[{ accessFlags := 2, nameIndex := 5, descriptorIndex := 6, attributes := #[] }, { accessFlags := 10, nameIndex := 20, descriptorIndex := 21, attributes := #[] }, { accessFlags := 9, nameIndex := 31, descriptorIndex := 21, attributes := #[] }] 49 2 #[] #[])
  fields := #[]
  methods := #[k1m0, k1m1, k1m2]
  instanceTypes := #[]
  staticTypes := #[]
  resolved := Array.replicate 34 none
  statics := none }

def pool2 : Array CpInfo := pool [(1, .methodref 2 3), (0, .class_ 4), (0, .nameAndType 5 6), (0, u "java/lang/Object"), (0, u "<init>"), (0, u "()V"), (0, .class_ 8), (0, u "java/lang/Record")] 13

def k2c0 : Code := { maxStack := 1, maxLocals := 1, code := jdk_30_method_1_code, exceptionTable := #[], attributes := #[] }
def k2m0 : Method := { name := "<init>", desc := "()V", sig := { parameters := [], returnType := none }, accessFlags := 4, code := some k2c0 }
/-- java/lang/Record -/
def k2 : Class := { plain "java/lang/Record" (some 0) with
  accessFlags := 1057
  interfaces := #[]
  cf := some (fileOf pool2 7 #[] #[{ accessFlags := 4, nameIndex := 5, descriptorIndex := 6, attributes := #[] }] 1057 2 #[] #[])
  fields := #[]
  methods := #[k2m0]
  instanceTypes := #[]
  staticTypes := #[]
  resolved := Array.replicate 22 none
  statics := none }

def pool3 : Array CpInfo := pool [(1, .methodref 2 3), (0, .class_ 4), (0, .nameAndType 5 6), (0, u "java/lang/Record"), (0, u "<init>"), (0, u "()V"), (0, .fieldref 8 9), (0, .class_ 10), (0, .nameAndType 11 12), (0, u "com/example/murmuration/murmuration/Bounds"), (0, u "minimum"), (0, u "I"), (0, .fieldref 8 14), (0, .nameAndType 15 12), (0, u "maximum"), (18, u "(II)V"), (3, u "contains"), (0, u "(J)Z")] 27

def k3c0 : Code := { maxStack := 2, maxLocals := 3, code := prog_5_method_1_code, exceptionTable := #[], attributes := #[] }
def k3m0 : Method := { name := "<init>", desc := "(II)V", sig := { parameters := [.int, .int], returnType := none }, accessFlags := 0, code := some k3c0 }
def k3c1 : Code := { maxStack := 4, maxLocals := 3, code := prog_5_method_2_code, exceptionTable := #[], attributes := #[] }
def k3m1 : Method := { name := "contains", desc := "(J)Z", sig := { parameters := [.long], returnType := some .boolean }, accessFlags := 0, code := some k3c1 }
/-- com/example/murmuration/murmuration/Bounds -/
def k3 : Class := { plain "com/example/murmuration/murmuration/Bounds" (some 2) with
  accessFlags := 48
  interfaces := #[]
  cf := some (fileOf pool3 8 #[] #[{ accessFlags := 0, nameIndex := 5, descriptorIndex := 34, attributes := #[] }, { accessFlags := 0, nameIndex := 38, descriptorIndex := 39, attributes := #[] }] 48 2 #[] #[{ accessFlags := 18, nameIndex := 11, descriptorIndex := 12, attributes := #[] }, { accessFlags := 18, nameIndex := 15, descriptorIndex := 12, attributes := #[] }])
  fields := #[{ name := "minimum", type := .int, accessFlags := 18, slot := 0, constantValue := 0 }, { name := "maximum", type := .int, accessFlags := 18, slot := 1, constantValue := 0 }]
  methods := #[k3m0, k3m1]
  instanceTypes := #[.int, .int]
  staticTypes := #[]
  resolved := Array.replicate 67 none
  statics := none }

def pool4 : Array CpInfo := pool [(1, u "java/lang/Cloneable"), (0, .class_ 1), (0, u "java/lang/Object"), (0, .class_ 3)] 3

/-- java/lang/Cloneable -/
def k4 : Class := { plain "java/lang/Cloneable" (some 0) with
  accessFlags := 1537
  interfaces := #[]
  cf := some (fileOf pool4 2 #[] #[] 1537 4 #[] #[])
  fields := #[]
  methods := #[]
  instanceTypes := #[]
  staticTypes := #[]
  resolved := Array.replicate 8 none
  statics := none }

def pool5 : Array CpInfo := pool [(1, u "java/io/Serializable"), (0, .class_ 1), (0, u "java/lang/Object"), (0, .class_ 3)] 3

/-- java/io/Serializable -/
def k5 : Class := { plain "java/io/Serializable" (some 0) with
  accessFlags := 1537
  interfaces := #[]
  cf := some (fileOf pool5 2 #[] #[] 1537 4 #[] #[])
  fields := #[]
  methods := #[]
  instanceTypes := #[]
  staticTypes := #[]
  resolved := Array.replicate 8 none
  statics := none }

/-- the primitive byte -/
def k6 : Class := { plain "byte" none with kind := .primitive 'B', accessFlags := 0x411 }
/-- [B -/
def k7 : Class := { plain "[B" (some 0) with kind := .array 6 .byte, interfaces := #[4, 5], accessFlags := 1041 }

/-- the primitive int -/
def k8 : Class := { plain "int" none with kind := .primitive 'I', accessFlags := 0x411 }
/-- [I -/
def k9 : Class := { plain "[I" (some 0) with kind := .array 8 .int, interfaces := #[4, 5], accessFlags := 1041 }

def heap : Heap := #[]
def classes : Array Class := #[k0, k1, k2, k3, k4, k5, k6, k7, k8, k9]
def interned : List (Array UInt16 × Addr) := []
def slotsUsed : Nat := 0
def theMethod : MethodId := ⟨1, 2⟩
def args0 : Array Value := #[.int 5, .int 9, .long 7]
def aboutOver (below : List Frame) : State where
  vm := { classes := classes, interned := interned.toArray }
  heap := heap
  slotsUsed := slotsUsed
  threads := #[{ frames := .invoking theMethod args0 :: below }]
def below0 : List Frame := [.native { method := ⟨0, 0⟩, args := #[] }]
def about1 : State := aboutOver below0
def p0 : Program := .bare "" "" ""
def e0 : Env := launch0.env 0 0 0
theorem w_frames : about1.frames = Frame.invoking theMethod args0 :: below0 := rfl
set_option maxRecDepth 65536 in
theorem w_args : argsFit about1.vm theMethod args0 = true := by decide +kernel
set_option maxRecDepth 65536 in
theorem w_heap : heapFits about1 = true := by decide +kernel
set_option maxRecDepth 65536 in
theorem w_runnable : about1.curStatus? = some .runnable := by decide +kernel
set_option maxRecDepth 65536 in
theorem w_alone : about1.alone = true := by decide +kernel
set_option maxRecDepth 65536 in
theorem w_named : about1.methodNamed? x = some theMethod := by decide +kernel
set_option maxRecDepth 65536 in
theorem w_hears : about1.hears theMethod below0 = true := by decide +kernel
set_option maxRecDepth 65536 in
theorem w_ripe : about1.ripe theMethod args0 below0 = true := by decide +kernel
theorem w_running : about1.status = .running := rfl
set_option maxRecDepth 65536 in
theorem w_room : about1.hasRoom e0.platform room_1 = true :=
  launch0.hasRoom_least _ room_1 (by decide +kernel) (by decide +kernel) (by decide +kernel) (by decide +kernel) (by decide +kernel) (by decide +kernel)
theorem allAtoms_all (ts : List Jvm.Cond) (a : Array Jvm.Value) (st : Jvm.State) : (allAtoms ts).before a st = ts.all (fun c => c.before a st) := by
  induction ts with
  | nil => rfl
  | cons c t ih =>
    show (Jvm.Cond.and c (allAtoms t)).before a st = _
    rw [Jvm.Cond.before_and, ih, List.all_cons]
def words1 : List Jvm.Cond := Jvm.Cond.code x code maxLocals ret :: tables_1
/-- a 'code' word, met by the world's own term for the bytes: nothing is compared byte by byte -/
theorem code_word {y : MethodName} {bytes : ByteArray} {mx : Nat} {rt : Option FieldType} {a : Array Value} {s : State} {m : MethodId} {meth : Method} {c : Code} (h1 : s.methodNamed? y = some m) (h2 : s.vm.method? m = some meth) (h3 : meth.code = some c) (h4 : c.code = bytes)
    (h5 : (c.maxLocals == mx && c.exceptionTable.isEmpty && decide (c.maxStack ≤ mostOperands) && decide (meth.sig.returnType = rt) && !meth.locks && decide (parseMethodDescriptor y.desc = some meth.sig)) = true) : (Jvm.Cond.code y bytes mx rt).before a s = true := by
  simp only [Bool.and_eq_true, beq_iff_eq, Bool.not_eq_true', decide_eq_true_eq] at h5
  obtain ⟨⟨⟨⟨⟨g1, g2⟩, g3⟩, g4⟩, g5⟩, g6⟩ := h5
  simp [Cond.before, Cond.holds, Cond.value, h1, h2, h3, h4, g1, g2, g3, g4, g5, g6]
def isCode : Jvm.Cond → Bool
  | .code _ _ _ _ => true
  | _ => false
theorem all_split {L : List Jvm.Cond} {P : Jvm.Cond → Bool} (h1 : L.all (fun c => isCode c || P c) = true) (h2 : ∀ c ∈ L.filter isCode, P c = true) : L.all P = true := by
  refine List.all_eq_true.mpr fun c hc => ?_
  have h := List.all_eq_true.mp h1 c hc
  rcases Bool.eq_false_or_eq_true (isCode c) with hi | hi
  · exact h2 c (List.mem_filter.mpr ⟨hc, hi⟩)
  · simpa [hi] using h
set_option maxRecDepth 65536 in
theorem w_c0 : (Jvm.Cond.code x code maxLocals ret).before args0 about1 = true := code_word (m := ⟨1, 2⟩) (meth := k1m2) (c := k1c2) (by decide +kernel) rfl rfl rfl (by decide +kernel)
set_option maxRecDepth 65536 in
theorem w_c1 : (Jvm.Cond.code ({ cls := "com/example/murmuration/murmuration/Bounds", name := "<init>", desc := "(II)V" } : Jvm.MethodName) prog_5_method_1_code (3 : Nat) (Option.none : Option Jvm.ClassFile.FieldType)).before args0 about1 = true := code_word (m := ⟨3, 0⟩) (meth := k3m0) (c := k3c0) (by decide +kernel) rfl rfl rfl (by decide +kernel)
set_option maxRecDepth 65536 in
theorem w_c2 : (Jvm.Cond.code ({ cls := "java/lang/Record", name := "<init>", desc := "()V" } : Jvm.MethodName) jdk_30_method_1_code (1 : Nat) (Option.none : Option Jvm.ClassFile.FieldType)).before args0 about1 = true := code_word (m := ⟨2, 0⟩) (meth := k2m0) (c := k2c0) (by decide +kernel) rfl rfl rfl (by decide +kernel)
set_option maxRecDepth 65536 in
theorem w_c3 : (Jvm.Cond.code ({ cls := "java/lang/Object", name := "<init>", desc := "()V" } : Jvm.MethodName) object_method_1_code (1 : Nat) (Option.none : Option Jvm.ClassFile.FieldType)).before args0 about1 = true := code_word (m := ⟨0, 0⟩) (meth := k0m0) (c := k0c0) (by decide +kernel) rfl rfl rfl (by decide +kernel)
set_option maxRecDepth 65536 in
theorem w_c4 : (Jvm.Cond.code ({ cls := "com/example/murmuration/murmuration/Bounds", name := "contains", desc := "(J)Z" } : Jvm.MethodName) prog_5_method_2_code (3 : Nat) (Option.some Jvm.ClassFile.FieldType.boolean)).before args0 about1 = true := code_word (m := ⟨3, 1⟩) (meth := k3m1) (c := k3c1) (by decide +kernel) rfl rfl rfl (by decide +kernel)
set_option maxRecDepth 65536 in
theorem w_c5 : (Jvm.Cond.code ({ cls := "com/example/murmuration/murmuration/BoundsContainsPinLaw", name := "expected", desc := "(IIJ)Z" } : Jvm.MethodName) method_2_code (4 : Nat) (Option.some Jvm.ClassFile.FieldType.boolean)).before args0 about1 = true := code_word (m := ⟨1, 1⟩) (meth := k1m1) (c := k1c1) (by decide +kernel) rfl rfl rfl (by decide +kernel)
def codes1 : List Jvm.Cond := [Jvm.Cond.code x code maxLocals ret, Jvm.Cond.code ({ cls := "com/example/murmuration/murmuration/Bounds", name := "<init>", desc := "(II)V" } : Jvm.MethodName) prog_5_method_1_code (3 : Nat) (Option.none : Option Jvm.ClassFile.FieldType), Jvm.Cond.code ({ cls := "java/lang/Record", name := "<init>", desc := "()V" } : Jvm.MethodName) jdk_30_method_1_code (1 : Nat) (Option.none : Option Jvm.ClassFile.FieldType), Jvm.Cond.code ({ cls := "java/lang/Object", name := "<init>", desc := "()V" } : Jvm.MethodName) object_method_1_code (1 : Nat) (Option.none : Option Jvm.ClassFile.FieldType), Jvm.Cond.code ({ cls := "com/example/murmuration/murmuration/Bounds", name := "contains", desc := "(J)Z" } : Jvm.MethodName) prog_5_method_2_code (3 : Nat) (Option.some Jvm.ClassFile.FieldType.boolean), Jvm.Cond.code ({ cls := "com/example/murmuration/murmuration/BoundsContainsPinLaw", name := "expected", desc := "(IIJ)Z" } : Jvm.MethodName) method_2_code (4 : Nat) (Option.some Jvm.ClassFile.FieldType.boolean)]
set_option maxRecDepth 65536 in
theorem codes_eq : words1.filter isCode = codes1 := rfl
theorem w_codes : ∀ c ∈ words1.filter isCode, c.before args0 about1 = true := by
  rw [codes_eq]
  intro c hc
  simp only [codes1, List.mem_cons, List.not_mem_nil, or_false] at hc
  rcases hc with rfl | rfl | rfl | rfl | rfl | rfl
  · exact w_c0
  · exact w_c1
  · exact w_c2
  · exact w_c3
  · exact w_c4
  · exact w_c5
set_option maxRecDepth 65536 in
theorem w_t1 : (words1.take 24).all (fun c => isCode c || c.before args0 about1) = true := by decide +kernel
set_option maxRecDepth 65536 in
theorem w_t2 : (words1.drop 24).all (fun c => isCode c || c.before args0 about1) = true := by decide +kernel
theorem w_tables : (allAtoms (Jvm.Cond.code x code maxLocals ret :: tables_1)).before args0 about1 = true := by
  rw [allAtoms_all]
  show words1.all (fun c => c.before args0 about1) = true
  refine all_split ?_ w_codes
  rw [← List.take_append_drop 24 words1, List.all_append, w_t1, w_t2]
  rfl
set_option maxRecDepth 65536 in
theorem w_case : (Jvm.Cond.and given_1 narrow_1).before args0 about1 = true := by decide +kernel
theorem w_applies : (headSpec (Jvm.Cond.code x code maxLocals ret :: tables_1) room_1).applies x e0.platform about1 = true :=
  (Spec.applies_iff w_frames).mpr ⟨w_running, w_runnable, w_alone, w_named, w_hears, w_ripe, w_room, w_tables⟩
theorem atStart : AtStart classFile x code maxLocals ret World_1 tables_1 room_1 Calls_1 rest_1 Pre_1 launch0 p0 e0 about1 theMethod args0 below0 :=
  ⟨lists_1, trivial, launch0.admits_env _ _ _, launch0.least_env, fairChoices_fair.cas, fairChoices_fair.clock, w_frames, w_args, w_heap, w_applies, trivial, trivial, w_case⟩
end start1
theorem witness_1 : WitnessClaimed_1 := ⟨start1.p0, start1.e0, start1.about1, start1.theMethod, start1.args0, start1.below0, start1.atStart⟩
end Jvm.Pilot.@@N@@
