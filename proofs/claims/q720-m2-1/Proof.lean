import JvmDerived
import JvmDerived.Pilot.@@N@@Statement
import JvmDerived.Pilot.@@N@@Code
set_option maxRecDepth 65536
set_option maxHeartbeats 40000000
set_option linter.unusedVariables false
set_option linter.unusedSimpArgs false
namespace Jvm.RoadKit
open Sem ClassFile Op Lib Jvm.Stand Jvm.Free Jvm.LawKit
section New
variable {p : Program} {l : Launch} {e : Env} {R : Room} {s : State} {m : MethodId} {args : Array Value} {below : List Frame} {meth : Method} {c : Code} {T : State} {locs : List Loc} {cells slots : Nat}
theorem retI (X : Stand p l e R s m args below meth c T locs cells slots) (hx : p.tables.exec = Jvm.exec) {pc : Nat} {Ls : Array Slot} {z : Int32} {rest : List Value} (hret : meth.sig.returnType = some .int) (hd : decode c.code pc = .ok (.ireturn, 1)) {fs : List Frame}
    (hl : ∀ (f : JFrame) (acts : List Action), f.method = m → f.locked = none → f.entered = [] → (doReturn e (T.setTop f) acts (some (.int z))).1 = T.setFrames fs) : Steps p.tables e below (T.setTop (mkF m pc Ls (.int z :: rest))) (T.setFrames fs) := by
  have hm' : T.vm.method? m = some meth := X.method'
  have hn : narrow .int (.int z) = .int z := rfl
  show Steps p.tables e below (T.setTop { method := m, pc := pc, locals := Ls, stack := _ :: rest, locked := none }) _
  jvm_step X.here [X.here.top, hx, hd, hm', hret, hn]
  first | (intro acts; rw [hl _ acts rfl rfl rfl]) | rw [hl _ _ rfl rfl rfl]
  exact Steps.refl _
end New
end Jvm.RoadKit
namespace Jvm.Pilot.@@N@@
open Jvm Jvm.ClassFile Sem Op Lib Jvm.Free Jvm.Stand Jvm.LawKit Jvm.RoadKit Bundle Jvm.Pilot.@@N@@.Jvm.D
abbrev vi (x : Int32) : Value := .int x
abbrev vl (x : Int64) : Value := .long x
abbrev vr (a : Addr) : Value := .ref a
abbrev si (x : Int32) : Slot := .val (.int x)
abbrev sl (x : Int64) : Slot := .val (.long x)
abbrev sr (a : Addr) : Slot := .val (.ref a)
abbrev orm (f c s l : Nat) : Room := { frames := f, cells := c, slots := s, locals := l }
abbrev OW (Z : State) (a0 : Array Value) : Prop := ∀ d ∈ tables_1, d.before a0 Z = true
abbrev OS (p : Program) (e : Env) (b : List Frame) (T : State) (m : MethodId) (pc : Nat) (L : Array Slot) (S : List Value) (t : State) : Prop := Steps p.tables e b (T.setTop (mkF m pc L S)) t
abbrev MF (l : Launch) (Z : State) (y : MethodName) (bytes : ByteArray) (maxL : Nat) (ret : Option FieldType) (ws : List Jvm.Cond) (rm : Room) (A : Array Value) (h0 : Heap) (Q : Option Value → Heap → List Loc → Prop) : Prop :=
  MetFree l y (head1 (Jvm.Cond.code y bytes maxL ret :: ws) rm) (fun a U => a = A ∧ Z.Warmed39 U.vm ∧ U.heap = h0) (fun _ _ _ _ _ => True) (fun _ U o U' => ∃ v L, o = .returned v ∧ Q v U'.heap L ∧ FrameEnd U o U' L rm.cells rm.slots)
section K
variable {p : Program} {l : Launch} {e : Env} {R : Room} {s : State} {m : MethodId} {args : Array Value} {below : List Frame} {meth : Method} {c : Code} {T : State} {locs : List Loc} {cells slots : Nat} {Z : State} {a0 : Array Value} {h : Heap}
theorem own_enter {y : MethodName} {bytes : ByteArray} {maxL : Nat} {ret : Option FieldType} {ws : List Jvm.Cond} {rm : Room} {A : Array Value} {h0 : Heap} {Q : Option Value → Heap → List Loc → Prop} {L0 : Array Slot} (hpl : plainFor y = true)
    (k : ∀ (p : Program) (e : Env) (s : State) (m : MethodId) (below : List Frame) (meth : Method) (c : Code) (T : State), p.tables.exec = Jvm.exec → c.code = bytes → c.maxLocals = maxL → s.vm.findClass y.cls = some m.cls → meth.name = y.name → meth.sig.returnType = ret → Z.Warmed39 s.vm → Stand p l e rm s m A below meth c T [] 0 0 → T.heap = h0 →
      ∃ (T' : State) (h' : Heap) (L : List Loc) (kc ks : Nat) (v : Option Value), Stand p l e rm s m A below meth c T' L kc ks ∧ T'.heap = h' ∧ kc ≤ rm.cells ∧ ks ≤ rm.slots ∧ (ret = none → v = none) ∧ Q v h' L ∧
        ∀ fs, (∀ (f : JFrame) (acts : List Action), f.method = m → f.locked = none → f.entered = [] → (doReturn e (T'.setTop f) acts v).1 = T'.setFrames fs) → OS p e below T m 0 L0 [] (T'.setFrames fs)) (hef : ∀ m : MethodId, entryFrame m A maxL = mkF m 0 L0 [] := by intro; rfl) : MF l Z y bytes maxL ret ws rm A h0 Q := by
  refine MetFree.of_bodySF hpl hisR ?_
  intro p e s m args below meth c s₁ Bd hml0 hP hK
  obtain ⟨rfl, hZ, hh⟩ := hP
  obtain ⟨T', h', L, kc, ks, v, X, e', hc, hs, hv, hQ, st⟩ := k p e s m below meth c s₁ Bd.exec Bd.bytes hml0 (findClass_of_methodNamed Bd.named) (name_of_methodNamed Bd.named Bd.method).1 Bd.returns hZ (Stand.of_body Bd) (by rw [← hh, Bd.state]; rfl)
  obtain ⟨fs, hr, hrun, hended, hW, hsame⟩ := X.leave (v := v) (fun q => hv (Bd.returns.symm.trans q))
  subst e'
  exact ⟨_, _, castTop (hef m) (st fs hr), hrun, hended, v, L, rfl, hQ, ⟨_, rfl⟩, hW, hsame.mono hc hs⟩
theorem own_callS {own : String} {index : Nat} {y : MethodName} {bytes : ByteArray} {maxL : Nat} {ret : Option FieldType} {rm : Room} {A : Array Value} {Q : Option Value → Heap → List Loc → Prop}
    (X : Stand p l e R s m args below meth c T locs cells slots) (hx : p.tables.exec = Jvm.exec) (hZ : Z.Warmed39 s.vm) (hown : s.vm.findClass own = some m.cls) (w : (Jvm.Cond.methodLink own index y).before a0 Z = true ∧ (Jvm.Cond.static y).before a0 Z = true ∧ (Jvm.Cond.initialized y.cls).before a0 Z = true ∧ (Jvm.Cond.code y bytes maxL ret).before a0 Z = true)
    (hM : MF l Z y bytes maxL ret [] rm A h Q) (eT : T.heap = h) {pc : Nat} {Ls : Array Slot} {k : Nat} (hml : c.maxLocals = k) (argsL rest : List Value) {ps : List FieldType} {r : Option FieldType} (hd : parseMethodDescriptor y.desc = some ⟨ps, r⟩) (W : Nat) (hdg : decode c.code pc = .ok (.invokestatic index, 3))
    (hA : argsL.toArray = A := by rfl) (hsz : Ls.size = k := by rfl) (hl : argsL.length = ps.length := by rfl) (hW : (rest.map fun v => v.category).sum = W := by rfl) (hy : y.cls ≠ "java/lang/invoke/MethodHandle" ∧ y.cls ≠ "java/lang/invoke/VarHandle" := by decide) (hf : rm.frames + 1 ≤ R.frames := by decide) (hlo : W + (maxL + 11) + rm.locals ≤ R.locals := by decide) (hc : cells + rm.cells ≤ R.cells := by decide) (hs : slots + rm.slots ≤ R.slots := by decide) :
    ∃ (T' : State) (L : List Loc) (v : Option Value), Stand p l e R s m args below meth c T' (locs ++ L) (cells + rm.cells) (slots + rm.slots) ∧ Q v T'.heap L ∧ ∀ target, OS p e below T' m (pc + 3) Ls (v.toList ++ rest) target → OS p e below T m pc Ls (argsL.reverse ++ rest) target := by
  obtain ⟨w1, w2, w3, w4⟩ := w
  obtain ⟨v, vm, ⟨U, l1, c1, s1⟩, -, X', ⟨L, hQ, e1, e2, e3⟩, st⟩ := Jvm.LawKit.callS X hx (y := y) hown (mvT hZ w1) (mvT hZ w2) (mvT hZ w3) (mvT hZ w4) hy (backOf (W := W) hM hZ w4 w3 hf hlo) (g := mkF m pc Ls (argsL.reverse ++ rest)) rfl (by rw [hml]; exact hsz) (argsL := argsL) (rest := rest) (lenOf hd hl) rfl (by show 2 * 0 + _ ≤ _; omega) hdg (fun _ _ => ⟨hA, eT, hc, hs⟩)
  dsimp only [Pt.U, Pt.locs, Pt.cells, Pt.slots] at X' e1 e2 e3 st hQ
  subst e1 e2 e3
  exact ⟨U, L, v, X', hQ, st⟩
theorem own_callI {own : String} {index : Nat} {y : MethodName} {bytes : ByteArray} {maxL : Nat} {rm : Room} {A : Array Value} {Q : Option Value → Heap → List Loc → Prop}
    (X : Stand p l e R s m args below meth c T locs cells slots) (hx : p.tables.exec = Jvm.exec) (hZ : Z.Warmed39 s.vm) (hown : s.vm.findClass own = some m.cls) (w : (Jvm.Cond.methodLink own index y).before a0 Z = true ∧ (Jvm.Cond.instanceMethod y).before a0 Z = true ∧ (Jvm.Cond.initialized y.cls).before a0 Z = true ∧ (Jvm.Cond.code y bytes maxL none).before a0 Z = true)
    (hM : MF l Z y bytes maxL none [] rm A h Q) (eT : T.heap = h) {pc : Nat} {Ls : Array Slot} {k : Nat} (hml : c.maxLocals = k) (a : Addr) (argsL rest : List Value) {ps : List FieldType} {r : Option FieldType} (hd : parseMethodDescriptor y.desc = some ⟨ps, r⟩) (W : Nat) (hdg : decode c.code pc = .ok (.invokespecial index, 3))
    (hy1 : y.name = "<init>" := by rfl) (hA : (.ref a :: argsL).toArray = A := by rfl) (hsz : Ls.size = k := by rfl) (hl : argsL.length = ps.length := by rfl) (hW : (rest.map fun v => v.category).sum = W := by rfl) (hy : y.cls ≠ "java/lang/invoke/MethodHandle" ∧ y.cls ≠ "java/lang/invoke/VarHandle" := by decide) (hf : rm.frames + 1 ≤ R.frames := by decide) (hlo : W + (maxL + 11) + rm.locals ≤ R.locals := by decide) (hc : cells + rm.cells ≤ R.cells := by decide) (hs : slots + rm.slots ≤ R.slots := by decide) :
    ∃ (T' : State) (L : List Loc) (v : Option Value), Stand p l e R s m args below meth c T' (locs ++ L) (cells + rm.cells) (slots + rm.slots) ∧ Q v T'.heap L ∧ ∀ target, OS p e below T' m (pc + 3) Ls (v.toList ++ rest) target → OS p e below T m pc Ls (argsL.reverse ++ .ref a :: rest) target := by
  obtain ⟨w1, w2, w3, w4⟩ := w
  obtain ⟨v, vm, ⟨U, l1, c1, s1⟩, -, X', ⟨L, hQ, e1, e2, e3⟩, st⟩ := X.specialBack hx (y := y) hy1 hown (mvT hZ w1) (mvT hZ w2) (mvT hZ w4) hy (backOf (W := W) hM hZ w4 w3 hf hlo) (g := mkF m pc Ls (argsL.reverse ++ .ref a :: rest)) rfl (by rw [hml]; exact hsz) (Steps.refl _) (a := a) (argsL := argsL) (rest := rest) (lenOf hd hl) rfl (by show 2 * 0 + _ ≤ _; omega) hdg (fun _ _ => ⟨hA, eT, hc, hs⟩)
  dsimp only [Pt.U, Pt.locs, Pt.cells, Pt.slots] at X' e1 e2 e3 st hQ
  subst e1 e2 e3
  exact ⟨U, L, v, X', hQ, fun t k => st.trans k⟩
theorem own_callV {own C : String} {index : Nat} {y z : MethodName} {bytes : ByteArray} {maxL : Nat} {ret : Option FieldType} {rm : Room} {A : Array Value} {Q : Option Value → Heap → List Loc → Prop}
    (X : Stand p l e R s m args below meth c T locs cells slots) (hx : p.tables.exec = Jvm.exec) (hZ : Z.Warmed39 s.vm) (hown : s.vm.findClass own = some m.cls) (w1 : (Jvm.Cond.methodLink own index y).before a0 Z = true) (w2 : (Jvm.Cond.declares y).before a0 Z = true) (nf : NotFace s y) (w5 : (Jvm.Cond.selects C y z).before a0 Z = true) (w6 : (Jvm.Cond.instanceMethod z).before a0 Z = true) (w3 : (Jvm.Cond.initialized z.cls).before a0 Z = true) (w4 : (Jvm.Cond.code z bytes maxL ret).before a0 Z = true)
    (hM : MF l Z z bytes maxL ret [] rm A h Q) (eT : T.heap = h) {a : Addr} (E : Exa Z h a C) {pc : Nat} {Ls : Array Slot} {k : Nat} (hml : c.maxLocals = k) (argsL rest : List Value) {ps : List FieldType} {r : Option FieldType} (hd : parseMethodDescriptor y.desc = some ⟨ps, r⟩) (W : Nat) (hdg : decode c.code pc = .ok (.invokevirtual index, 3))
    (hA : (.ref a :: argsL).toArray = A := by rfl) (hsz : Ls.size = k := by rfl) (hl : argsL.length = ps.length := by rfl) (hW : (rest.map fun v => v.category).sum = W := by rfl) (hy : y.cls ≠ "java/lang/invoke/MethodHandle" ∧ y.cls ≠ "java/lang/invoke/VarHandle" := by decide) (hf : rm.frames + 1 ≤ R.frames := by decide) (hlo : W + (maxL + 11) + rm.locals ≤ R.locals := by decide) (hc : cells + rm.cells ≤ R.cells := by decide) (hs : slots + rm.slots ≤ R.slots := by decide) :
    ∃ (T' : State) (L : List Loc) (v : Option Value), Stand p l e R s m args below meth c T' (locs ++ L) (cells + rm.cells) (slots + rm.slots) ∧ Q v T'.heap L ∧ ∀ target, OS p e below T' m (pc + 3) Ls (v.toList ++ rest) target → OS p e below T m pc Ls (argsL.reverse ++ .ref a :: rest) target := by
  obtain ⟨cB, kB, qa, qb, qc⟩ := isOf hZ eT E
  obtain ⟨v, vm, ⟨U, l1, c1, s1⟩, -, X', ⟨L, hQ, e1, e2, e3⟩, st⟩ := X.virtualBack hx (y := y) (z := z) hown (mvT hZ w1) (mvT hZ w2) nf (mvT hZ w5) (mvT hZ w6) hy (backOf (W := W) hM hZ w4 w3 hf hlo) qa qc (g := mkF m pc Ls (argsL.reverse ++ .ref a :: rest)) rfl (by rw [hml]; exact hsz) (Steps.refl _) (argsL := argsL) (rest := rest) (lenOf hd hl) rfl (by show 2 * 0 + _ ≤ _; omega) hdg (fun _ _ => ⟨hA, eT, hc, hs⟩)
  dsimp only [Pt.U, Pt.locs, Pt.cells, Pt.slots] at X' e1 e2 e3 st hQ
  subst e1 e2 e3
  exact ⟨U, L, v, X', hQ, fun t k => st.trans k⟩
theorem own_retL (X : Stand p l e R s m args below meth c T locs cells slots) (hx : p.tables.exec = Jvm.exec) {pc : Nat} {Ls : Array Slot} {z : Int64} {rest : List Value} (hret : meth.sig.returnType = some .long) (hd : decode c.code pc = .ok (.lreturn, 1)) {fs : List Frame}
    (hl : ∀ (f : JFrame) (acts : List Action), f.method = m → f.locked = none → f.entered = [] → (doReturn e (T.setTop f) acts (some (.long z))).1 = T.setFrames fs) : OS p e below T m pc Ls (.long z :: rest) (T.setFrames fs) := by
  have hm' : T.vm.method? m = some meth := X.method'
  show Steps p.tables e below (T.setTop { method := m, pc := pc, locals := Ls, stack := _ :: rest, locked := none }) _
  jvm_step X.here [X.here.top, hx, hd, hm', hret, narrow]
  first | (intro acts; rw [hl _ acts rfl rfl rfl]) | rw [hl _ _ rfl rfl rfl]
  exact Steps.refl _
theorem own_retA (X : Stand p l e R s m args below meth c T locs cells slots) (hx : p.tables.exec = Jvm.exec) {pc : Nat} {Ls : Array Slot} {a : Addr} {t : FieldType} {rest : List Value} (hret : meth.sig.returnType = some t) (ht : t.isReference = true) (hd : decode c.code pc = .ok (.areturn, 1)) {fs : List Frame}
    (hl : ∀ (f : JFrame) (acts : List Action), f.method = m → f.locked = none → f.entered = [] → (doReturn e (T.setTop f) acts (some (.ref a))).1 = T.setFrames fs) : OS p e below T m pc Ls (.ref a :: rest) (T.setFrames fs) := by
  have hm' : T.vm.method? m = some meth := X.method'
  show Steps p.tables e below (T.setTop { method := m, pc := pc, locals := Ls, stack := _ :: rest, locked := none }) _
  jvm_step X.here [X.here.top, hx, hd, hm', hret, Value.isRef, ht]
  first | (intro acts; rw [hl _ acts rfl rfl rfl]) | rw [hl _ _ rfl rfl rfl]
  exact Steps.refl _
theorem own_retNull (X : Stand p l e R s m args below meth c T locs cells slots) (hx : p.tables.exec = Jvm.exec) {pc : Nat} {Ls : Array Slot} {t : FieldType} {rest : List Value} (hret : meth.sig.returnType = some t) (ht : t.isReference = true) (hd : decode c.code pc = .ok (.areturn, 1)) {fs : List Frame}
    (hl : ∀ (f : JFrame) (acts : List Action), f.method = m → f.locked = none → f.entered = [] → (doReturn e (T.setTop f) acts (some .null)).1 = T.setFrames fs) : OS p e below T m pc Ls (.null :: rest) (T.setFrames fs) := by
  have hm' : T.vm.method? m = some meth := X.method'
  show Steps p.tables e below (T.setTop { method := m, pc := pc, locals := Ls, stack := _ :: rest, locked := none }) _
  jvm_step X.here [X.here.top, hx, hd, hm', hret, Value.isRef, ht]
  first | (intro acts; rw [hl _ acts rfl rfl rfl]) | rw [hl _ _ rfl rfl rfl]
  exact Steps.refl _
theorem own_alen (X : Stand p l e R s m args below meth c T locs cells slots) (hx : p.tables.exec = Jvm.exec) (hZ : Z.Warmed39 s.vm) (eT : T.heap = h) {a : Addr} {k : ClassId} {ty : FieldType} {z : Int32} {vs : List Value} {d : Value} (V : Arv Z h a k ty z vs d) {pc : Nat} {Ls : Array Slot} {rest : List Value} (hd : decode c.code pc = .ok (.arraylength, 1)) (t : State) (kk : OS p e below T m (pc + 1) Ls (.int z :: rest) t) : OS p e below T m pc Ls (.ref a :: rest) t := by
  obtain ⟨cl, A, q, S, N, H, G⟩ := V
  refine X.arraylength hx (by rw [eT]; exact A.1) (State.isArrayOf_alike hZ.alike A.2.1) (g := mkF m pc Ls (.ref a :: rest)) rfl rfl hd t ?_
  rw [len_of S N]; exact kk
theorem own_iaload (X : Stand p l e R s m args below meth c T locs cells slots) (hx : p.tables.exec = Jvm.exec) (hZ : Z.Warmed39 s.vm) (eT : T.heap = h) {a : Addr} {k : ClassId} {z : Int32} {vs : List Value} {d v : Value} {j : Int32} (V : Arv Z h a k .int z vs d) (hj : ¬ j < 0 ∧ j < z) (hv : vs.getD j.toNatClampNeg d = v) {pc : Nat} {Ls : Array Slot} {rest : List Value} (hd : decode c.code pc = .ok (.iaload, 1)) (t : State) (kk : OS p e below T m (pc + 1) Ls (v :: rest) t) : OS p e below T m pc Ls (.int j :: .ref a :: rest) t := by
  obtain ⟨cl, A, q, S, N, H, G⟩ := V
  have hin := inb_of S hj
  exact X.iaload hx (j := j) (v := v) (by rw [eT]; exact A.1) (State.isArrayOf_alike hZ.alike A.2.1) A.2.2 hin (Has.at H hin hv) (g := mkF m pc Ls (.int j :: .ref a :: rest)) rfl rfl hd t kk
theorem own_caload (X : Stand p l e R s m args below meth c T locs cells slots) (hx : p.tables.exec = Jvm.exec) (hZ : Z.Warmed39 s.vm) (eT : T.heap = h) {a : Addr} {k : ClassId} {z : Int32} {vs : List Value} {d v : Value} {j : Int32} (V : Arv Z h a k .char z vs d) (hj : ¬ j < 0 ∧ j < z) (hv : vs.getD j.toNatClampNeg d = v) {pc : Nat} {Ls : Array Slot} {rest : List Value} (hd : decode c.code pc = .ok (.caload, 1)) (t : State) (kk : OS p e below T m (pc + 1) Ls (v :: rest) t) : OS p e below T m pc Ls (.int j :: .ref a :: rest) t := by
  obtain ⟨cl, A, q, S, N, H, G⟩ := V
  have hin := inb_of S hj
  exact X.caload hx (j := j) (v := v) (by rw [eT]; exact A.1) (State.isArrayOf_alike hZ.alike A.2.1) A.2.2 hin (Has.at H hin hv) (g := mkF m pc Ls (.int j :: .ref a :: rest)) rfl rfl hd t kk
theorem own_saload (X : Stand p l e R s m args below meth c T locs cells slots) (hx : p.tables.exec = Jvm.exec) (hZ : Z.Warmed39 s.vm) (eT : T.heap = h) {a : Addr} {k : ClassId} {z : Int32} {vs : List Value} {d v : Value} {j : Int32} (V : Arv Z h a k .short z vs d) (hj : ¬ j < 0 ∧ j < z) (hv : vs.getD j.toNatClampNeg d = v) {pc : Nat} {Ls : Array Slot} {rest : List Value} (hd : decode c.code pc = .ok (.saload, 1)) (t : State) (kk : OS p e below T m (pc + 1) Ls (v :: rest) t) : OS p e below T m pc Ls (.int j :: .ref a :: rest) t := by
  obtain ⟨cl, A, q, S, N, H, G⟩ := V
  have hin := inb_of S hj
  exact X.saload hx (j := j) (v := v) (by rw [eT]; exact A.1) (State.isArrayOf_alike hZ.alike A.2.1) A.2.2 hin (Has.at H hin hv) (g := mkF m pc Ls (.int j :: .ref a :: rest)) rfl rfl hd t kk
theorem own_baload (X : Stand p l e R s m args below meth c T locs cells slots) (hx : p.tables.exec = Jvm.exec) (hZ : Z.Warmed39 s.vm) (eT : T.heap = h) {a : Addr} {k : ClassId} {z : Int32} {vs : List Value} {d v : Value} {j : Int32} (V : Arv Z h a k .byte z vs d) (hj : ¬ j < 0 ∧ j < z) (hv : vs.getD j.toNatClampNeg d = v) {pc : Nat} {Ls : Array Slot} {rest : List Value} (hd : decode c.code pc = .ok (.baload, 1)) (t : State) (kk : OS p e below T m (pc + 1) Ls (v :: rest) t) : OS p e below T m pc Ls (.int j :: .ref a :: rest) t := by
  obtain ⟨cl, A, q, S, N, H, G⟩ := V
  have hin := inb_of S hj
  exact X.baloadBytes hx (j := j) (v := v) (by rw [eT]; exact A.1) (State.isArrayOf_alike hZ.alike A.2.1) A.2.2 hin (Has.at H hin hv) (g := mkF m pc Ls (.int j :: .ref a :: rest)) rfl rfl hd t kk
theorem own_laload (X : Stand p l e R s m args below meth c T locs cells slots) (hx : p.tables.exec = Jvm.exec) (hZ : Z.Warmed39 s.vm) (eT : T.heap = h) {a : Addr} {k : ClassId} {z : Int32} {vs : List Value} {d v : Value} {j : Int32} (V : Arv Z h a k .long z vs d) (hj : ¬ j < 0 ∧ j < z) (hv : vs.getD j.toNatClampNeg d = v) {pc : Nat} {Ls : Array Slot} {rest : List Value} (hd : decode c.code pc = .ok (.laload, 1)) (t : State) (kk : OS p e below T m (pc + 1) Ls (v :: rest) t) : OS p e below T m pc Ls (.int j :: .ref a :: rest) t := by
  obtain ⟨cl, A, q, S, N, H, G⟩ := V
  have hin := inb_of S hj
  exact X.laload hx (j := j) (v := v) (by rw [eT]; exact A.1) (State.isArrayOf_alike hZ.alike A.2.1) A.2.2 hin (Has.at H hin hv) (g := mkF m pc Ls (.int j :: .ref a :: rest)) rfl rfl hd t kk
theorem own_aaload (X : Stand p l e R s m args below meth c T locs cells slots) (hx : p.tables.exec = Jvm.exec) (hZ : Z.Warmed39 s.vm) (eT : T.heap = h) {a : Addr} {k : ClassId} {ty : FieldType} {z : Int32} {vs : List Value} {d v : Value} {j : Int32} (V : Arv Z h a k ty z vs d) (hty : ty.isReference = true) (hj : ¬ j < 0 ∧ j < z) (hv : vs.getD j.toNatClampNeg d = v) {pc : Nat} {Ls : Array Slot} {rest : List Value} (hd : decode c.code pc = .ok (.aaload, 1)) (t : State) (kk : OS p e below T m (pc + 1) Ls (v :: rest) t) : OS p e below T m pc Ls (.int j :: .ref a :: rest) t := by
  obtain ⟨cl, A, q, S, N, H, G⟩ := V
  have hin := inb_of S hj
  exact X.aaload hx (j := j) (v := v) (by rw [eT]; exact A.1) (State.isArrayOf_alike hZ.alike A.2.1) hty A.2.2 hin (Has.at H hin hv) (g := mkF m pc Ls (.int j :: .ref a :: rest)) rfl rfl hd t kk
theorem own_stI (X : Stand p l e R s m args below meth c T locs cells slots) (hx : p.tables.exec = Jvm.exec) (hZ : Z.Warmed39 s.vm) (eT : T.heap = h) {a : Addr} {k : ClassId} {z : Int32} {vs : List Value} {d : Value} {j : Int32} {x : Int32} (V : Arv Z h a k .int z vs d) (hj : ¬ j < 0 ∧ j < z) (i : Nat) (hi : j.toNatClampNeg = i) (hlt : i < vs.length) {pc : Nat} {Ls : Array Slot} {rest : List Value} (hd : decode c.code pc = .ok (.iastore, 1)) :
    ∃ T' h', Stand p l e R s m args below meth c T' (locs ++ [⟨a, j.toNatClampNeg⟩]) cells slots ∧ T'.heap = h' ∧ Wr h h' a j.toNatClampNeg (.int x) ∧ Arv Z h' a k .int z (vs.set i (.int x)) d ∧ ∀ t, OS p e below T' m (pc + 1) Ls rest t → OS p e below T m pc Ls (.int x :: .int j :: .ref a :: rest) t := by
  obtain ⟨cl, A, q, S, N, H, G⟩ := V
  have hin := inb_of S hj
  obtain ⟨T', h', X', e', W, st⟩ := stI X hx hZ eT A (j := j) hin (g := mkF m pc Ls (.int x :: .int j :: .ref a :: rest)) rfl rfl hd
  exact ⟨T', h', X', e', W, Arv.set A q S N H G rfl W i hi hlt, st⟩
theorem own_stJ (X : Stand p l e R s m args below meth c T locs cells slots) (hx : p.tables.exec = Jvm.exec) (hZ : Z.Warmed39 s.vm) (eT : T.heap = h) {a : Addr} {k : ClassId} {z : Int32} {vs : List Value} {d : Value} {j : Int32} {x : Int64} (V : Arv Z h a k .long z vs d) (hj : ¬ j < 0 ∧ j < z) (i : Nat) (hi : j.toNatClampNeg = i) (hlt : i < vs.length) {pc : Nat} {Ls : Array Slot} {rest : List Value} (hd : decode c.code pc = .ok (.lastore, 1)) :
    ∃ T' h', Stand p l e R s m args below meth c T' (locs ++ [⟨a, j.toNatClampNeg⟩]) cells slots ∧ T'.heap = h' ∧ Wr h h' a j.toNatClampNeg (.long x) ∧ Arv Z h' a k .long z (vs.set i (.long x)) d ∧ ∀ t, OS p e below T' m (pc + 1) Ls rest t → OS p e below T m pc Ls (.long x :: .int j :: .ref a :: rest) t := by
  obtain ⟨cl, A, q, S, N, H, G⟩ := V
  have hin := inb_of S hj
  obtain ⟨T', h', X', e', W, st⟩ := stJ X hx hZ eT A (j := j) hin (g := mkF m pc Ls (.long x :: .int j :: .ref a :: rest)) rfl rfl hd
  exact ⟨T', h', X', e', W, Arv.set A q S N H G rfl W i hi hlt, st⟩
theorem own_stC (X : Stand p l e R s m args below meth c T locs cells slots) (hx : p.tables.exec = Jvm.exec) (hZ : Z.Warmed39 s.vm) (eT : T.heap = h) {a : Addr} {k : ClassId} {z : Int32} {vs : List Value} {d : Value} {j : Int32} {x : Int32} (V : Arv Z h a k .char z vs d) (hj : ¬ j < 0 ∧ j < z) (i : Nat) (hi : j.toNatClampNeg = i) (hlt : i < vs.length) {pc : Nat} {Ls : Array Slot} {rest : List Value} (hd : decode c.code pc = .ok (.castore, 1)) :
    ∃ T' h', Stand p l e R s m args below meth c T' (locs ++ [⟨a, j.toNatClampNeg⟩]) cells slots ∧ T'.heap = h' ∧ Wr h h' a j.toNatClampNeg (.int (nar .char x)) ∧ Arv Z h' a k .char z (vs.set i (.int (nar .char x))) d ∧ ∀ t, OS p e below T' m (pc + 1) Ls rest t → OS p e below T m pc Ls (.int x :: .int j :: .ref a :: rest) t := by
  obtain ⟨cl, A, q, S, N, H, G⟩ := V
  have hin := inb_of S hj
  obtain ⟨T', h', X', e', W, st⟩ := stC X hx hZ eT A (j := j) hin (g := mkF m pc Ls (.int x :: .int j :: .ref a :: rest)) rfl rfl hd
  exact ⟨T', h', X', e', W, Arv.set A q S N H G (fits_nar_char _) W i hi hlt, st⟩
theorem own_stS (X : Stand p l e R s m args below meth c T locs cells slots) (hx : p.tables.exec = Jvm.exec) (hZ : Z.Warmed39 s.vm) (eT : T.heap = h) {a : Addr} {k : ClassId} {z : Int32} {vs : List Value} {d : Value} {j : Int32} {x : Int32} (V : Arv Z h a k .short z vs d) (hj : ¬ j < 0 ∧ j < z) (i : Nat) (hi : j.toNatClampNeg = i) (hlt : i < vs.length) {pc : Nat} {Ls : Array Slot} {rest : List Value} (hd : decode c.code pc = .ok (.sastore, 1)) :
    ∃ T' h', Stand p l e R s m args below meth c T' (locs ++ [⟨a, j.toNatClampNeg⟩]) cells slots ∧ T'.heap = h' ∧ Wr h h' a j.toNatClampNeg (.int (nar .short x)) ∧ Arv Z h' a k .short z (vs.set i (.int (nar .short x))) d ∧ ∀ t, OS p e below T' m (pc + 1) Ls rest t → OS p e below T m pc Ls (.int x :: .int j :: .ref a :: rest) t := by
  obtain ⟨cl, A, q, S, N, H, G⟩ := V
  have hin := inb_of S hj
  obtain ⟨T', h', X', e', W, st⟩ := stS X hx hZ eT A (j := j) hin (g := mkF m pc Ls (.int x :: .int j :: .ref a :: rest)) rfl rfl hd
  exact ⟨T', h', X', e', W, Arv.set A q S N H G (fits_nar_short _) W i hi hlt, st⟩
theorem own_stB (X : Stand p l e R s m args below meth c T locs cells slots) (hx : p.tables.exec = Jvm.exec) (hZ : Z.Warmed39 s.vm) (eT : T.heap = h) {a : Addr} {k : ClassId} {z : Int32} {vs : List Value} {d : Value} {j : Int32} {x : Int32} (V : Arv Z h a k .byte z vs d) (hj : ¬ j < 0 ∧ j < z) (i : Nat) (hi : j.toNatClampNeg = i) (hlt : i < vs.length) {pc : Nat} {Ls : Array Slot} {rest : List Value} (hd : decode c.code pc = .ok (.bastore, 1)) :
    ∃ T' h', Stand p l e R s m args below meth c T' (locs ++ [⟨a, j.toNatClampNeg⟩]) cells slots ∧ T'.heap = h' ∧ Wr h h' a j.toNatClampNeg (.int x.toInt8.toInt32) ∧ Arv Z h' a k .byte z (vs.set i (.int x.toInt8.toInt32)) d ∧ ∀ t, OS p e below T' m (pc + 1) Ls rest t → OS p e below T m pc Ls (.int x :: .int j :: .ref a :: rest) t := by
  obtain ⟨cl, A, q, S, N, H, G⟩ := V
  have hin := inb_of S hj
  obtain ⟨T', h', X', e', W, st⟩ := stB X hx hZ eT A (j := j) hin (g := mkF m pc Ls (.int x :: .int j :: .ref a :: rest)) rfl rfl hd
  exact ⟨T', h', X', e', W, Arv.set A q S N H G (fits_nar_byte _) W i hi hlt, st⟩
theorem own_stZ (X : Stand p l e R s m args below meth c T locs cells slots) (hx : p.tables.exec = Jvm.exec) (hZ : Z.Warmed39 s.vm) (eT : T.heap = h) {a : Addr} {k : ClassId} {z : Int32} {vs : List Value} {d : Value} {j : Int32} {x : Int32} (V : Arv Z h a k .boolean z vs d) (hj : ¬ j < 0 ∧ j < z) (i : Nat) (hi : j.toNatClampNeg = i) (hlt : i < vs.length) {pc : Nat} {Ls : Array Slot} {rest : List Value} (hd : decode c.code pc = .ok (.bastore, 1)) :
    ∃ T' h', Stand p l e R s m args below meth c T' (locs ++ [⟨a, j.toNatClampNeg⟩]) cells slots ∧ T'.heap = h' ∧ Wr h h' a j.toNatClampNeg (.int (nar .boolean x)) ∧ Arv Z h' a k .boolean z (vs.set i (.int (nar .boolean x))) d ∧ ∀ t, OS p e below T' m (pc + 1) Ls rest t → OS p e below T m pc Ls (.int x :: .int j :: .ref a :: rest) t := by
  obtain ⟨cl, A, q, S, N, H, G⟩ := V
  have hin := inb_of S hj
  obtain ⟨T', h', X', e', W, st⟩ := stZ X hx hZ eT A (j := j) hin (g := mkF m pc Ls (.int x :: .int j :: .ref a :: rest)) rfl rfl hd
  exact ⟨T', h', X', e', W, Arv.set A q S N H G (fits_nar_bool _) W i hi hlt, st⟩
theorem own_stR (X : Stand p l e R s m args below meth c T locs cells slots) (hx : p.tables.exec = Jvm.exec) (hZ : Z.Warmed39 s.vm) (eT : T.heap = h) {a y : Addr} {k : ClassId} {C K : String} {z : Int32} {vs : List Value} {d : Value} {j : Int32} (V : Arv Z h a k (.object C) z vs d) (O : Ovr Z k K) (I : Ins Z h y K true) (hj : ¬ j < 0 ∧ j < z) (i : Nat) (hi : j.toNatClampNeg = i) (hlt : i < vs.length) {pc : Nat} {Ls : Array Slot} {rest : List Value} (hd : decode c.code pc = .ok (.aastore, 1)) :
    ∃ T' h', Stand p l e R s m args below meth c T' (locs ++ [⟨a, j.toNatClampNeg⟩]) cells slots ∧ T'.heap = h' ∧ Wr h h' a j.toNatClampNeg (.ref y) ∧ Arv Z h' a k (.object C) z (vs.set i (.ref y)) d ∧ ∀ t, OS p e below T' m (pc + 1) Ls rest t → OS p e below T m pc Ls (.ref y :: .int j :: .ref a :: rest) t := by
  obtain ⟨cl, A, q, S, N, H, G⟩ := V
  have hin := inb_of S hj
  obtain ⟨T', h', X', e', W, st⟩ := stR X hx hZ eT A (j := j) hin rfl (Sto.ofV A q O I) (g := mkF m pc Ls (.ref y :: .int j :: .ref a :: rest)) rfl rfl hd
  exact ⟨T', h', X', e', W, Arv.set A q S N H G rfl W i hi hlt, st⟩
theorem own_icY (X : Stand p l e R s m args below meth c T locs cells slots) (hx : p.tables.exec = Jvm.exec) {cd : ClassFile.Cond} {o : Int} {x y : Int32} {pc : Nat} {Ls : Array Slot} {rest : List Value} {t : State} (hd : decode c.code pc = .ok (.if_icmp cd o, 3)) (hc : if_icmp.holds cd x y = true) (k : OS p e below T m ((pc : Int) + o).toNat Ls rest t) (ho : 0 ≤ (pc : Int) + o := by decide) : OS p e below T m pc Ls (.int y :: .int x :: rest) t :=
  XS.icmpYes X.here hx rfl (pc0 := pc) rfl hd rfl hc ho rfl k
theorem own_icN (X : Stand p l e R s m args below meth c T locs cells slots) (hx : p.tables.exec = Jvm.exec) {cd : ClassFile.Cond} {o : Int} {x y : Int32} {pc : Nat} {Ls : Array Slot} {rest : List Value} {t : State} (hd : decode c.code pc = .ok (.if_icmp cd o, 3)) (hc : if_icmp.holds cd x y = false) (k : OS p e below T m (pc + 3) Ls rest t) : OS p e below T m pc Ls (.int y :: .int x :: rest) t :=
  XS.icmpNo X.here hx rfl hd rfl hc k
theorem own_ifY (X : Stand p l e R s m args below meth c T locs cells slots) (hx : p.tables.exec = Jvm.exec) {cd : ClassFile.Cond} {o : Int} {x : Int32} {pc : Nat} {Ls : Array Slot} {rest : List Value} {t : State} (hd : decode c.code pc = .ok (.ifCond cd o, 3)) (hc : if_icmp.holds cd x 0 = true) (k : OS p e below T m ((pc : Int) + o).toNat Ls rest t) (ho : 0 ≤ (pc : Int) + o := by decide) : OS p e below T m pc Ls (.int x :: rest) t :=
  XS.ifYes X.here hx rfl (pc0 := pc) rfl hd rfl ((if0 _ _).trans hc) ho rfl k
theorem own_ifN (X : Stand p l e R s m args below meth c T locs cells slots) (hx : p.tables.exec = Jvm.exec) {cd : ClassFile.Cond} {o : Int} {x : Int32} {pc : Nat} {Ls : Array Slot} {rest : List Value} {t : State} (hd : decode c.code pc = .ok (.ifCond cd o, 3)) (hc : if_icmp.holds cd x 0 = false) (k : OS p e below T m (pc + 3) Ls rest t) : OS p e below T m pc Ls (.int x :: rest) t :=
  XS.ifNo X.here hx rfl hd rfl ((if0 _ _).trans hc) k
theorem own_goto (X : Stand p l e R s m args below meth c T locs cells slots) (hx : p.tables.exec = Jvm.exec) {o : Int} {pc : Nat} {Ls : Array Slot} {S : List Value} {t : State} (hd : decode c.code pc = .ok (.goto o, 3)) (k : OS p e below T m ((pc : Int) + o).toNat Ls S t) (ho : 0 ≤ (pc : Int) + o := by decide) : OS p e below T m pc Ls S t :=
  XS.goto X.here hx rfl (pc0 := pc) rfl hd ho rfl k
theorem own_new {own C : String} {index n : Nat} (X : Stand p l e R s m args below meth c T locs cells slots) (hx : p.tables.exec = Jvm.exec) (hZ : Z.Warmed39 s.vm) (hown : s.vm.findClass own = some m.cls) (w : (Jvm.Cond.classLink own index C).before a0 Z = true) (wi : (Jvm.Cond.instantiable C n).before a0 Z = true) (wz : (Jvm.Cond.initialized C).before a0 Z = true) (eT : T.heap = h) {pc : Nat} {Ls : Array Slot} {S : List Value} (hd : decode c.code pc = .ok (.new index, 3)) (hc : cells + 1 ≤ R.cells := by decide) (hl : slots + n ≤ R.slots := by decide) :
    ∃ T' h' b, Stand p l e R s m args below meth c T' locs (cells + 1) (slots + n) ∧ T'.heap = h' ∧ Ext h h' ∧ h.size ≤ b ∧ Exa Z h' b C ∧ (∀ {O nm d : String} {ty : FieldType}, Laid Z a0 C O nm d → parseFieldDescriptor d = some ty → Fld Z h' b O nm d (defaultValue ty)) ∧ ∀ t, OS p e below T' m (pc + 3) Ls (.ref b :: S) t → OS p e below T m pc Ls S t := by
  obtain ⟨T', h', X', e', E, A, D, -, st⟩ := newO X hx hZ hown w wi wz eT (g := mkF m pc Ls S) rfl hd hc hl
  exact ⟨T', h', h.size, X', e', E, Nat.le_refl _, A, D, st⟩
theorem own_newP (X : Stand p l e R s m args below meth c T locs cells slots) (hx : p.tables.exec = Jvm.exec) (hZ : Z.Warmed39 s.vm) {aty : ArrayType} {ty : FieldType} (w : (Jvm.Cond.arrayClass ty).before a0 Z = true) (eT : T.heap = h) {n : Int32} {k : Nat} {d : Value} {vs : List Value} {pc : Nat} {Ls : Array Slot} {S : List Value} (hd : decode c.code pc = .ok (.newarray aty, 2)) (hty : newarray.typeOf aty = ty := by rfl) (hd0 : defaultValue ty = d := by rfl) (hvs : List.replicate k d = vs := by rfl) (hn : ¬ n < 0 := by decide) (hcap : n.toNatClampNeg ≤ k := by decide) (hb : k * 8 ≤ 536870912 := by decide) (hc : cells + 1 ≤ R.cells := by decide) (hl : slots + k ≤ R.slots := by decide) :
    ∃ T' h' b cA, Stand p l e R s m args below meth c T' locs (cells + 1) (slots + k) ∧ T'.heap = h' ∧ Ext h h' ∧ h.size ≤ b ∧ Arv Z h' b cA ty n vs d ∧ ∀ t, OS p e below T' m (pc + 2) Ls (.ref b :: S) t → OS p e below T m pc Ls (.int n :: S) t := by
  subst hty hd0 hvs
  obtain ⟨T', h', cA, X', e', E, A, st⟩ := newP (aty := aty) X hx hZ w eT (g := mkF m pc Ls (.int n :: S)) rfl hd rfl hn (cap := k) hcap hb hc hl
  exact ⟨T', h', h.size, cA, X', e', E, Nat.le_refl _, (Arv.new A hn).pad (pad_rep [] _ k), st⟩
theorem own_newR {own C : String} {index : Nat} (X : Stand p l e R s m args below meth c T locs cells slots) (hx : p.tables.exec = Jvm.exec) (hZ : Z.Warmed39 s.vm) (hown : s.vm.findClass own = some m.cls) (w1 : (Jvm.Cond.classLink own index C).before a0 Z = true) (w2 : (Jvm.Cond.arrayOver (.object C)).before a0 Z = true) (eT : T.heap = h) {n : Int32} {k : Nat} {vs : List Value} {ad : String} {pc : Nat} {Ls : Array Slot} {S : List Value} (hd : decode c.code pc = .ok (.anewarray index, 3)) (had : "[" ++ (FieldType.object C).toString = ad := by decide) (hvs : List.replicate k .null = vs := by rfl) (hn : ¬ n < 0 := by decide) (hcap : n.toNatClampNeg ≤ k := by decide) (hb : k * 8 ≤ 536870912 := by decide) (hc : cells + 1 ≤ R.cells := by decide) (hl : slots + k ≤ R.slots := by decide) :
    ∃ T' h' b cA, Stand p l e R s m args below meth c T' locs (cells + 1) (slots + k) ∧ T'.heap = h' ∧ Ext h h' ∧ h.size ≤ b ∧ Arv Z h' b cA (.object C) n vs .null ∧ Exa Z h' b ad ∧ Ovr Z cA C ∧ ∀ t, OS p e below T' m (pc + 3) Ls (.ref b :: S) t → OS p e below T m pc Ls (.int n :: S) t := by
  subst hvs
  obtain ⟨T', h', cA, X', e', E, A, B, O, st⟩ := newRE X hx hZ hown w1 w2 eT (g := mkF m pc Ls (.int n :: S)) rfl hd rfl hn (cap := k) hcap hb hc hl had
  exact ⟨T', h', h.size, cA, X', e', E, Nat.le_refl _, (Arv.new A hn).pad (pad_rep [] _ k), B, O, st⟩
end K
theorem ai {a b : Prop} (x : a) (y : b) : a ∧ b := ⟨x, y⟩
abbrev BT := List (Nat × Instr × Nat)
def bfind : BT → Nat → Option (Instr × Nat)
  | [], _ => none
  | (q, r) :: t, pc => match Nat.beq q pc with
    | true => some r
    | false => bfind t pc
def Tab (code : ByteArray) : BT → Prop
  | [] => True
  | (q, r) :: t => decode code q = .ok r ∧ Tab code t
theorem Tab.get {code : ByteArray} : ∀ {K : BT}, Tab code K → ∀ {pc : Nat} {r : Instr × Nat}, bfind K pc = some r → decode code pc = .ok r
  | [], _, pc, r, h => by simp [bfind] at h
  | (q, r0) :: t, hK, pc, r, h => by
    unfold bfind at h
    split at h
    · rename_i hq
      have := Nat.eq_of_beq_eq_true hq
      cases h
      subst this
      exact hK.1
    · exact Tab.get hK.2 h
def bput (L : Array Slot) (k : Nat) (v : Value) (pc : Nat) (S : List Value) : Option (Nat × Array Slot × List Value) :=
  match storeLocals L k v with
  | some l => some (pc, l, S)
  | none => none
def bloadI (L : Array Slot) (k : Nat) (pc : Nat) (S : List Value) : Option (Nat × Array Slot × List Value) :=
  match L[k]? with
  | some (.val (.int v)) => some (pc, L, .int v :: S)
  | _ => none
def bloadA (L : Array Slot) (k : Nat) (pc : Nat) (S : List Value) : Option (Nat × Array Slot × List Value) :=
  match L[k]? with
  | some (.val (.ref a)) => some (pc, L, .ref a :: S)
  | some (.val .null) => some (pc, L, .null :: S)
  | _ => none
def bstep (I : Instr) (n pc : Nat) (L : Array Slot) (S : List Value) : Option (Nat × Array Slot × List Value) :=
  match I, n, S with
  | .iload k, 2, S => bloadI L k (pc + 2) S
  | .iload_n k, 1, S => bloadI L k.val (pc + 1) S
  | .aload k, 2, S => bloadA L k (pc + 2) S
  | .aload_n k, 1, S => bloadA L k.val (pc + 1) S
  | .istore k, 2, .int x :: r => bput L k (.int x) (pc + 2) r
  | .istore_n k, 1, .int x :: r => bput L k.val (.int x) (pc + 1) r
  | .astore k, 2, .ref x :: r => bput L k (.ref x) (pc + 2) r
  | .astore_n k, 1, .ref x :: r => bput L k.val (.ref x) (pc + 1) r
  | .iconst i, 1, S => some (pc + 1, L, .int (Int32.ofInt i) :: S)
  | .bipush i, 2, S => some (pc + 2, L, .int (Int8.ofInt i).toInt32 :: S)
  | .sipush i, 3, S => some (pc + 3, L, .int (Int16.ofInt i).toInt32 :: S)
  | .aconst_null, 1, S => some (pc + 1, L, .null :: S)
  | .iadd, 1, .int y :: .int x :: r => some (pc + 1, L, .int (x + y) :: r)
  | .isub, 1, .int y :: .int x :: r => some (pc + 1, L, .int (x - y) :: r)
  | .iand, 1, .int y :: .int x :: r => some (pc + 1, L, .int (x &&& y) :: r)
  | .ior, 1, .int y :: .int x :: r => some (pc + 1, L, .int (x ||| y) :: r)
  | .ixor, 1, .int y :: .int x :: r => some (pc + 1, L, .int (x ^^^ y) :: r)
  | .imul, 1, .int y :: .int x :: r => some (pc + 1, L, .int (x * y) :: r)
  | .ishl, 1, .int y :: .int x :: r => some (pc + 1, L, .int (x <<< (y &&& 31)) :: r)
  | .ishr, 1, .int y :: .int x :: r => some (pc + 1, L, .int (x >>> (y &&& 31)) :: r)
  | .iushr, 1, .int y :: .int x :: r => some (pc + 1, L, .int ((x.toUInt32 >>> (y &&& 31).toUInt32).toInt32) :: r)
  | .i2b, 1, .int x :: r => some (pc + 1, L, .int (x.toInt8.toInt32) :: r)
  | .i2c, 1, .int x :: r => some (pc + 1, L, .int (x.toUInt32.toUInt16.toUInt32.toInt32) :: r)
  | .i2s, 1, .int x :: r => some (pc + 1, L, .int (x.toInt16.toInt32) :: r)
  | .dup, 1, .ref x :: r => some (pc + 1, L, .ref x :: .ref x :: r)
  | .dup, 1, .int x :: r => some (pc + 1, L, .int x :: .int x :: r)
  | .pop, 1, .ref x :: r => some (pc + 1, L, r)
  | .pop, 1, .int x :: r => some (pc + 1, L, r)
  | .iinc k d, 3, S => match L[k]? with
    | some (.val (.int x)) => bput L k (.int (x + Int32.ofInt d)) (pc + 3) S
    | _ => none
  | .goto o, 3, S => match (pc : Int) + o with
    | .ofNat q => some (q, L, S)
    | .negSucc _ => none
  | _, _, _ => none
def bbr (I : Instr) (n : Nat) (S : List Value) : Option (ClassFile.Cond × Int × Int32 × Int32 × List Value) :=
  match I, n, S with
  | .if_icmp cd o, 3, .int y :: .int x :: r => some (cd, o, x, y, r)
  | .ifCond cd o, 3, .int x :: r => some (cd, o, x, 0, r)
  | _, _, _ => none
def bpre (K : BT) : Nat → List Bool → Nat → Array Slot → List Value → Nat → Array Slot → List Value → Prop
  | 0, _, pc, L, S, pc', L', S' => (pc, L, S) = (pc', L', S')
  | n + 1, ds, pc, L, S, pc', L', S' =>
    match bfind K pc with
    | none => False
    | some (I, k) => match bbr I k S with
      | some (cd, o, x, y, r) => match ds with
        | [] => False
        | true :: ds => if_icmp.holds cd x y = true ∧ (match (pc : Int) + o with
          | .ofNat q => bpre K n ds q L r pc' L' S'
          | .negSucc _ => False)
        | false :: ds => if_icmp.holds cd x y = false ∧ bpre K n ds (pc + 3) L r pc' L' S'
      | none => match bstep I k pc L S with
        | none => False
        | some (pc1, L1, S1) => bpre K n ds pc1 L1 S1 pc' L' S'
theorem bput_some {L : Array Slot} {k : Nat} {v : Value} {pc : Nat} {S : List Value} {r : Nat × Array Slot × List Value} (h : bput L k v pc S = some r) : ∃ l, storeLocals L k v = some l ∧ r = (pc, l, S) := by
  unfold bput at h
  split at h
  · rename_i l hl; exact ⟨l, hl, (Option.some.inj h).symm⟩
  · cases h
theorem bloadI_some {L : Array Slot} {k : Nat} {pc : Nat} {S : List Value} {r : Nat × Array Slot × List Value} (h : bloadI L k pc S = some r) : ∃ v, L[k]? = some (.val (.int v)) ∧ r = (pc, L, .int v :: S) := by
  unfold bloadI at h
  split at h
  · rename_i v hl; exact ⟨v, hl, (Option.some.inj h).symm⟩
  · cases h
theorem bloadA_some {L : Array Slot} {k : Nat} {pc : Nat} {S : List Value} {r : Nat × Array Slot × List Value} (h : bloadA L k pc S = some r) : ∃ v, L[k]? = some (.val v) ∧ v.isRef = true ∧ r = (pc, L, v :: S) := by
  unfold bloadA at h
  split at h
  · rename_i v hl; exact ⟨_, hl, rfl, (Option.some.inj h).symm⟩
  · rename_i hl; exact ⟨_, hl, rfl, (Option.some.inj h).symm⟩
  · cases h
section B
variable {p : Program} {l : Launch} {e : Env} {R : Room} {s : State} {m : MethodId} {args : Array Value} {below : List Frame} {meth : Method} {c : Code} {T : State} {locs : List Loc} {cells slots : Nat}
theorem own_b1 (X : Stand p l e R s m args below meth c T locs cells slots) (hx : p.tables.exec = Jvm.exec) {I : Instr} {n pc : Nat} {L : Array Slot} {S : List Value} {pc1 : Nat} {L1 : Array Slot} {S1 : List Value} {t : State} (hd : decode c.code pc = .ok (I, n)) (h : bstep I n pc L S = some (pc1, L1, S1)) (k : OS p e below T m pc1 L1 S1 t) : OS p e below T m pc L S t := by
  unfold bstep at h
  split at h
  · obtain ⟨v, hl, q⟩ := bloadI_some h; cases q; exact XS.iload X.here hx rfl hd hl k
  · obtain ⟨v, hl, q⟩ := bloadI_some h; cases q; exact XS.iloadN X.here hx rfl hd hl k
  · obtain ⟨v, hl, hv, q⟩ := bloadA_some h; cases q; exact XS.aload X.here hx rfl hd hl hv k
  · obtain ⟨v, hl, hv, q⟩ := bloadA_some h; cases q; exact XS.aloadN X.here hx rfl hd hl hv k
  · obtain ⟨v, hl, q⟩ := bput_some h; cases q; exact XS.istore X.here hx rfl hd rfl hl k
  · obtain ⟨v, hl, q⟩ := bput_some h; cases q; exact XS.istoreN X.here hx rfl hd rfl hl k
  · obtain ⟨v, hl, q⟩ := bput_some h; cases q; exact XS.astore X.here hx rfl hd rfl rfl hl k
  · obtain ⟨v, hl, q⟩ := bput_some h; cases q; exact XS.astoreN X.here hx rfl hd rfl rfl hl k
  · cases h; exact XS.iconst X.here hx rfl hd k
  · cases h; exact XS.bipush X.here hx rfl hd k
  · cases h; exact XS.sipush X.here hx rfl hd k
  · cases h; exact XS.aconstNull X.here hx rfl hd k
  · cases h; exact XS.iadd X.here hx rfl hd rfl k
  · cases h; exact XS.isub X.here hx rfl hd rfl k
  · cases h; exact XS.iand X.here hx rfl hd rfl k
  · cases h; exact XS.ior X.here hx rfl hd rfl k
  · cases h; exact XS.ixor X.here hx rfl hd rfl k
  · cases h; exact XS.imul X.here hx rfl hd rfl k
  · cases h; exact XS.ishl X.here hx rfl hd rfl k
  · cases h; exact XS.ishr X.here hx rfl hd rfl k
  · cases h; exact XS.iushr X.here hx rfl hd rfl k
  · cases h; exact XS.i2b X.here hx rfl hd rfl k
  · cases h; exact XS.i2c X.here hx rfl hd rfl k
  · cases h; exact XS.i2s X.here hx rfl hd rfl k
  · cases h; exact XS.dup X.here hx rfl hd rfl rfl k
  · cases h; exact XS.dup X.here hx rfl hd rfl rfl k
  · cases h; exact XS.pop X.here hx rfl hd rfl rfl k
  · cases h; exact XS.pop X.here hx rfl hd rfl rfl k
  · split at h
    · rename_i x hl; obtain ⟨v, hl', q⟩ := bput_some h; cases q; exact XS.iinc X.here hx rfl hd hl hl' k
    · cases h
  · split at h
    · rename_i o q hq; cases h; exact XS.goto X.here hx rfl (pc0 := pc) rfl hd (by rw [hq]; exact Int.natCast_nonneg _) (by rw [hq]; rfl) k
    · cases h
  · cases h
theorem own_br (X : Stand p l e R s m args below meth c T locs cells slots) (hx : p.tables.exec = Jvm.exec) {K : BT} : ∀ (n : Nat) (ds : List Bool) (pc : Nat) (L : Array Slot) (S : List Value) {pc' : Nat} {L' : Array Slot} {S' : List Value} {t : State}, Tab c.code K → bpre K n ds pc L S pc' L' S' → OS p e below T m pc' L' S' t → OS p e below T m pc L S t
  | 0, ds, pc, L, S, pc', L', S', t, hK, h, k => by
    cases (show (pc, L, S) = (pc', L', S') from h)
    exact k
  | n + 1, ds, pc, L, S, pc', L', S', t, hK, h, k => by
    unfold bpre at h
    split at h
    · exact h.elim
    · rename_i I w hf
      have hd := Tab.get hK hf
      split at h
      · rename_i cd o x y r hb
        unfold bbr at hb
        split at hb
        · cases hb
          split at h
          · exact h.elim
          · obtain ⟨hc, h⟩ := h
            split at h
            · rename_i q hq
              exact XS.icmpYes X.here hx rfl (pc0 := pc) rfl hd rfl hc (by rw [hq]; exact Int.natCast_nonneg _) (by rw [hq]; rfl) (own_br X hx n _ _ _ _ hK h k)
            · exact h.elim
          · exact XS.icmpNo X.here hx rfl hd rfl h.1 (own_br X hx n _ _ _ _ hK h.2 k)
        · cases hb
          split at h
          · exact h.elim
          · obtain ⟨hc, h⟩ := h
            split at h
            · rename_i q hq
              exact XS.ifYes X.here hx rfl (pc0 := pc) rfl hd rfl ((if0 _ _).trans hc) (by rw [hq]; exact Int.natCast_nonneg _) (by rw [hq]; rfl) (own_br X hx n _ _ _ _ hK h k)
            · exact h.elim
          · exact XS.ifNo X.here hx rfl hd rfl ((if0 _ _).trans h.1) (own_br X hx n _ _ _ _ hK h.2 k)
        · cases hb
      · split at h
        · exact h.elim
        · rename_i pc1 L1 S1 hs
          exact own_b1 X hx hd hs (own_br X hx n _ _ _ _ hK h k)
theorem own_b (X : Stand p l e R s m args below meth c T locs cells slots) (hx : p.tables.exec = Jvm.exec) {code : ByteArray} (hby : c.code = code) {K : BT} (hK : Tab code K) (n : Nat) (ds : List Bool) {pc : Nat} {L : Array Slot} {S : List Value} (pc' : Nat) (L' : Array Slot) (S' : List Value) {t : State} (h : bpre K n ds pc L S pc' L' S') (k : OS p e below T m pc' L' S' t) : OS p e below T m pc L S t :=
  own_br X hx n ds pc L S (hby ▸ hK) h k
theorem os_eq {pc : Nat} {L : Array Slot} {S : List Value} {a b : Int32} {t : State} (h : a = b) (k : OS p e below T m pc L (vi a :: S) t) : OS p e below T m pc L (vi b :: S) t := h ▸ k
end B
abbrev AE := List (Addr × FieldType × Int32 × List Value × Value)
def AEok (Z : State) (h : Heap) : AE → Prop
  | [] => True
  | (a, ty, z, vs, d) :: t => (∃ k, Arv Z h a k ty z vs d) ∧ AEok Z h t
theorem aen {Z : State} {h : Heap} : AEok Z h [] := trivial
theorem aec {Z : State} {h : Heap} {a : Addr} {k : ClassId} {ty : FieldType} {z : Int32} {vs : List Value} {d : Value} {E : AE} (V : Arv Z h a k ty z vs d) (t : AEok Z h E) : AEok Z h ((a, ty, z, vs, d) :: E) := ⟨⟨k, V⟩, t⟩
theorem AEok.get {Z : State} {h : Heap} : ∀ {E : AE}, AEok Z h E → ∀ {i : Nat} {a : Addr} {ty : FieldType} {z : Int32} {vs : List Value} {d : Value}, E[i]? = some (a, ty, z, vs, d) → ∃ k, Arv Z h a k ty z vs d
  | [], _, i, a, ty, z, vs, d, h => by simp at h
  | (a0, ty0, z0, vs0, d0) :: t, hE, 0, a, ty, z, vs, d, h => by
    simp only [List.getElem?_cons_zero, Option.some.injEq, Prod.mk.injEq] at h
    obtain ⟨rfl, rfl, rfl, rfl, rfl⟩ := h
    exact hE.1
  | _ :: t, hE, i + 1, a, ty, z, vs, d, h => AEok.get hE.2 (by simpa using h)
def bld (I : Instr) (n : Nat) (ty : FieldType) : Bool :=
  match I, n, ty with
  | .baload, 1, .byte => true
  | .caload, 1, .char => true
  | .iaload, 1, .int => true
  | .saload, 1, .short => true
  | _, _, _ => false
def isLen (I : Instr) (n : Nat) : Bool :=
  match I, n with
  | .arraylength, 1 => true
  | _, _ => false
def bard (E : AE) (x : Nat) (I : Instr) (n : Nat) (S : List Value) : Option (Addr × Addr × Value × List Value) :=
  match E[x]? with
  | none => none
  | some (b, ty, z, vs, d) => match isLen I n with
    | true => match S with
      | .ref a :: r => some (a, b, .int z, r)
      | _ => none
    | false => match bld I n ty with
      | false => none
      | true => match S with
        | .int j :: .ref a :: r => match decide (¬ j < 0 ∧ j < z) with
          | true => some (a, b, vs.getD j.toNatClampNeg d, r)
          | false => none
        | _ => none
def apre (K : BT) (E : AE) : Nat → List Bool → List Nat → Nat → Array Slot → List Value → Nat → Array Slot → List Value → Prop
  | 0, _, _, pc, L, S, pc', L', S' => (pc, L, S) = (pc', L', S')
  | n + 1, ds, xs, pc, L, S, pc', L', S' =>
    match bfind K pc with
    | none => False
    | some (I, k) => match bbr I k S with
      | some (cd, o, x, y, r) => match ds with
        | [] => False
        | true :: ds => if_icmp.holds cd x y = true ∧ (match (pc : Int) + o with
          | .ofNat q => apre K E n ds xs q L r pc' L' S'
          | .negSucc _ => False)
        | false :: ds => if_icmp.holds cd x y = false ∧ apre K E n ds xs (pc + 3) L r pc' L' S'
      | none => match bstep I k pc L S with
        | some (pc1, L1, S1) => apre K E n ds xs pc1 L1 S1 pc' L' S'
        | none => match xs with
          | [] => False
          | x :: xs => match bard E x I k S with
            | none => False
            | some (a, b, v, r) => a = b ∧ apre K E n ds xs (pc + 1) L (v :: r) pc' L' S'
section A
variable {p : Program} {l : Launch} {e : Env} {R : Room} {s : State} {m : MethodId} {args : Array Value} {below : List Frame} {meth : Method} {c : Code} {T : State} {locs : List Loc} {cells slots : Nat} {Z : State} {h : Heap}
theorem own_ar (X : Stand p l e R s m args below meth c T locs cells slots) (hx : p.tables.exec = Jvm.exec) (hZ : Z.Warmed39 s.vm) (eT : T.heap = h) {E : AE} (hE : AEok Z h E) {I : Instr} {n pc x : Nat} {L : Array Slot} {S : List Value} {a : Addr} {v : Value} {r : List Value} {t : State} (hd : decode c.code pc = .ok (I, n)) (hb : bard E x I n S = some (a, a, v, r)) (k : OS p e below T m (pc + 1) L (v :: r) t) : OS p e below T m pc L S t := by
  unfold bard at hb
  split at hb
  · cases hb
  · rename_i b ty z vs d hx1
    obtain ⟨kk, V⟩ := AEok.get hE hx1
    split at hb
    · rename_i hl
      unfold isLen at hl
      split at hl
      · split at hb
        · cases hb
          exact own_alen X hx hZ eT V hd t k
        · cases hb
      · cases hl
    · split at hb
      · cases hb
      · rename_i hl
        unfold bld at hl
        split at hb
        · split at hb
          · rename_i hj
            have hj := of_decide_eq_true hj
            cases hb
            split at hl
            · exact own_baload X hx hZ eT V hj rfl hd t k
            · exact own_caload X hx hZ eT V hj rfl hd t k
            · exact own_iaload X hx hZ eT V hj rfl hd t k
            · exact own_saload X hx hZ eT V hj rfl hd t k
            · cases hl
          · cases hb
        · cases hb
theorem own_ab (X : Stand p l e R s m args below meth c T locs cells slots) (hx : p.tables.exec = Jvm.exec) (hZ : Z.Warmed39 s.vm) (eT : T.heap = h) {E : AE} (hE : AEok Z h E) {K : BT} : ∀ (n : Nat) (ds : List Bool) (xs : List Nat) (pc : Nat) (L : Array Slot) (S : List Value) {pc' : Nat} {L' : Array Slot} {S' : List Value} {t : State}, Tab c.code K → apre K E n ds xs pc L S pc' L' S' → OS p e below T m pc' L' S' t → OS p e below T m pc L S t
  | 0, ds, xs, pc, L, S, pc', L', S', t, hK, h, k => by
    cases (show (pc, L, S) = (pc', L', S') from h)
    exact k
  | n + 1, ds, xs, pc, L, S, pc', L', S', t, hK, h, k => by
    unfold apre at h
    split at h
    · exact h.elim
    · rename_i I w hf
      have hd := Tab.get hK hf
      split at h
      · rename_i cd o x y r hb
        unfold bbr at hb
        split at hb
        · cases hb
          split at h
          · exact h.elim
          · obtain ⟨hc, h⟩ := h
            split at h
            · rename_i q hq
              exact XS.icmpYes X.here hx rfl (pc0 := pc) rfl hd rfl hc (by rw [hq]; exact Int.natCast_nonneg _) (by rw [hq]; rfl) (own_ab X hx hZ eT hE n _ _ _ _ _ hK h k)
            · exact h.elim
          · exact XS.icmpNo X.here hx rfl hd rfl h.1 (own_ab X hx hZ eT hE n _ _ _ _ _ hK h.2 k)
        · cases hb
          split at h
          · exact h.elim
          · obtain ⟨hc, h⟩ := h
            split at h
            · rename_i q hq
              exact XS.ifYes X.here hx rfl (pc0 := pc) rfl hd rfl ((if0 _ _).trans hc) (by rw [hq]; exact Int.natCast_nonneg _) (by rw [hq]; rfl) (own_ab X hx hZ eT hE n _ _ _ _ _ hK h k)
            · exact h.elim
          · exact XS.ifNo X.here hx rfl hd rfl ((if0 _ _).trans h.1) (own_ab X hx hZ eT hE n _ _ _ _ _ hK h.2 k)
        · cases hb
      · split at h
        · rename_i pc1 L1 S1 hs
          exact own_b1 X hx hd hs (own_ab X hx hZ eT hE n _ _ _ _ _ hK h k)
        · split at h
          · exact h.elim
          · split at h
            · exact h.elim
            · rename_i a b v r hb
              obtain ⟨rfl, h⟩ := h
              exact own_ar X hx hZ eT hE hd hb (own_ab X hx hZ eT hE n _ _ _ _ _ hK h k)
theorem own_a (X : Stand p l e R s m args below meth c T locs cells slots) (hx : p.tables.exec = Jvm.exec) (hZ : Z.Warmed39 s.vm) (eT : T.heap = h) {code : ByteArray} (hby : c.code = code) {K : BT} (hK : Tab code K) {E : AE} (hE : AEok Z h E) (n : Nat) (ds : List Bool) (xs : List Nat) {pc : Nat} {L : Array Slot} {S : List Value} (pc' : Nat) (L' : Array Slot) (S' : List Value) {t : State} (hp : apre K E n ds xs pc L S pc' L' S') (k : OS p e below T m pc' L' S' t) : OS p e below T m pc L S t :=
  own_ab X hx hZ eT hE n ds xs pc L S (hby ▸ hK) hp k
end A

section V
variable {l : Launch} {Z : State} {a0 : Array Value} {ws : List Jvm.Cond} {h0 : Heap} {n0 : Nat}
theorem wq (hw : OW Z a0) {c : Jvm.Cond} (i : Nat) (h : tables_1[i]? = some c) : c.before a0 Z = true := hw _ (List.mem_of_getElem? h)
theorem tw_0 (hw : OW Z a0) : (Jvm.Cond.constant "purlin/config/NamePatternIsPatternPinLaw" (13 : Nat) (2147483647 : Int32)).before a0 Z = true := wq hw 0 rfl
theorem tw_1 (hw : OW Z a0) : (Jvm.Cond.methodLink "purlin/config/NamePatternIsPatternPinLaw" (14 : Nat) ({ cls := "purlin/config/NamePatternIsPatternPinLaw", name := "ch", desc := "(I)C" } : Jvm.MethodName)).before a0 Z = true := wq hw 1 rfl
theorem tw_2 (hw : OW Z a0) : (Jvm.Cond.static ({ cls := "purlin/config/NamePatternIsPatternPinLaw", name := "ch", desc := "(I)C" } : Jvm.MethodName)).before a0 Z = true := wq hw 2 rfl
theorem tw_3 (hw : OW Z a0) : (Jvm.Cond.initialized "purlin/config/NamePatternIsPatternPinLaw").before a0 Z = true := wq hw 3 rfl
theorem tw_4 (hw : OW Z a0) : (Jvm.Cond.code ({ cls := "purlin/config/NamePatternIsPatternPinLaw", name := "ch", desc := "(I)C" } : Jvm.MethodName) method_2_code (1 : Nat) (Option.some Jvm.ClassFile.FieldType.char)).before a0 Z = true := wq hw 4 rfl
theorem tw_5 (hw : OW Z a0) : (Jvm.Cond.methodLink "purlin/config/NamePatternIsPatternPinLaw" (20 : Nat) ({ cls := "purlin/config/NamePatternIsPatternPinLaw", name := "str", desc := "(ICCCC)Ljava/lang/String;" } : Jvm.MethodName)).before a0 Z = true := wq hw 5 rfl
theorem tw_6 (hw : OW Z a0) : (Jvm.Cond.static ({ cls := "purlin/config/NamePatternIsPatternPinLaw", name := "str", desc := "(ICCCC)Ljava/lang/String;" } : Jvm.MethodName)).before a0 Z = true := wq hw 6 rfl
theorem tw_7 (hw : OW Z a0) : (Jvm.Cond.code ({ cls := "purlin/config/NamePatternIsPatternPinLaw", name := "str", desc := "(ICCCC)Ljava/lang/String;" } : Jvm.MethodName) method_3_code (5 : Nat) (Option.some (Jvm.ClassFile.FieldType.object "java/lang/String"))).before a0 Z = true := wq hw 7 rfl
theorem tw_8 (hw : OW Z a0) : (Jvm.Cond.classLink "purlin/config/NamePatternIsPatternPinLaw" (8 : Nat) "java/lang/String").before a0 Z = true := wq hw 8 rfl
theorem tw_9 (hw : OW Z a0) : (Jvm.Cond.instantiable "java/lang/String" (4 : Nat)).before a0 Z = true := wq hw 9 rfl
theorem tw_10 (hw : OW Z a0) : (Jvm.Cond.initialized "java/lang/String").before a0 Z = true := wq hw 10 rfl
theorem tw_11 (hw : OW Z a0) : (Jvm.Cond.arrayClass Jvm.ClassFile.FieldType.char).before a0 Z = true := wq hw 11 rfl
theorem tw_12 (hw : OW Z a0) : (Jvm.Cond.methodLink "purlin/config/NamePatternIsPatternPinLaw" (10 : Nat) ({ cls := "java/lang/String", name := "<init>", desc := "([C)V" } : Jvm.MethodName)).before a0 Z = true := wq hw 12 rfl
theorem tw_13 (hw : OW Z a0) : (Jvm.Cond.instanceMethod ({ cls := "java/lang/String", name := "<init>", desc := "([C)V" } : Jvm.MethodName)).before a0 Z = true := wq hw 13 rfl
theorem tw_14 (hw : OW Z a0) : (Jvm.Cond.code ({ cls := "java/lang/String", name := "<init>", desc := "([C)V" } : Jvm.MethodName) jdk_42_method_3_code (2 : Nat) (Option.none : Option Jvm.ClassFile.FieldType)).before a0 Z = true := wq hw 14 rfl
theorem tw_15 (hw : OW Z a0) : (Jvm.Cond.methodLink "java/lang/String" (27 : Nat) ({ cls := "java/lang/String", name := "<init>", desc := "([CIILjava/lang/Void;)V" } : Jvm.MethodName)).before a0 Z = true := wq hw 15 rfl
theorem tw_16 (hw : OW Z a0) : (Jvm.Cond.instanceMethod ({ cls := "java/lang/String", name := "<init>", desc := "([CIILjava/lang/Void;)V" } : Jvm.MethodName)).before a0 Z = true := wq hw 16 rfl
theorem tw_18 (hw : OW Z a0) : (Jvm.Cond.code ({ cls := "java/lang/String", name := "<init>", desc := "([CIILjava/lang/Void;)V" } : Jvm.MethodName) jdk_42_method_149_code (6 : Nat) (Option.none : Option Jvm.ClassFile.FieldType)).before a0 Z = true := wq hw 18 rfl
theorem tw_19 (hw : OW Z a0) : (Jvm.Cond.methodLink "java/lang/String" (1 : Nat) ({ cls := "java/lang/Object", name := "<init>", desc := "()V" } : Jvm.MethodName)).before a0 Z = true := wq hw 19 rfl
theorem tw_20 (hw : OW Z a0) : (Jvm.Cond.instanceMethod ({ cls := "java/lang/Object", name := "<init>", desc := "()V" } : Jvm.MethodName)).before a0 Z = true := wq hw 20 rfl
theorem tw_21 (hw : OW Z a0) : (Jvm.Cond.code ({ cls := "java/lang/Object", name := "<init>", desc := "()V" } : Jvm.MethodName) object_method_1_code (1 : Nat) (Option.none : Option Jvm.ClassFile.FieldType)).before a0 Z = true := wq hw 21 rfl
theorem tw_22 (hw : OW Z a0) : (Jvm.Cond.stringLink "java/lang/String" (7 : Nat) "").before a0 Z = true := wq hw 22 rfl
theorem tw_23 (hw : OW Z a0) : (Jvm.Cond.arrayClass Jvm.ClassFile.FieldType.byte).before a0 Z = true := wq hw 23 rfl
theorem tw_24 (hw : OW Z a0) : (Jvm.Cond.laysFinal "java/lang/String" "java/lang/String" "value" "[B").before a0 Z = true := wq hw 24 rfl
theorem tw_25 (hw : OW Z a0) : (Jvm.Cond.laysFinal "java/lang/String" "java/lang/String" "coder" "B").before a0 Z = true := wq hw 25 rfl
theorem tw_28 (hw : OW Z a0) : (Jvm.Cond.fieldLink "java/lang/String" (9 : Nat) "java/lang/String" "value" "[B").before a0 Z = true := wq hw 28 rfl
theorem tw_29 (hw : OW Z a0) : (Jvm.Cond.fieldLink "java/lang/String" (15 : Nat) "java/lang/String" "coder" "B").before a0 Z = true := wq hw 29 rfl
theorem tw_30 (hw : OW Z a0) : (Jvm.Cond.methodLink "purlin/config/NamePatternIsPatternPinLaw" (24 : Nat) ({ cls := "purlin/config/NamePattern", name := "isPattern", desc := "(Ljava/lang/String;)Z" } : Jvm.MethodName)).before a0 Z = true := wq hw 30 rfl
theorem tw_31 (hw : OW Z a0) : (Jvm.Cond.static ({ cls := "purlin/config/NamePattern", name := "isPattern", desc := "(Ljava/lang/String;)Z" } : Jvm.MethodName)).before a0 Z = true := wq hw 31 rfl
theorem tw_32 (hw : OW Z a0) : (Jvm.Cond.initialized "purlin/config/NamePattern").before a0 Z = true := wq hw 32 rfl
theorem tw_33 (hw : OW Z a0) : (Jvm.Cond.code ({ cls := "purlin/config/NamePattern", name := "isPattern", desc := "(Ljava/lang/String;)Z" } : Jvm.MethodName) prog_24_method_2_code (1 : Nat) (Option.some Jvm.ClassFile.FieldType.boolean)).before a0 Z = true := wq hw 33 rfl
theorem tw_34 (hw : OW Z a0) : (Jvm.Cond.methodLink "purlin/config/NamePattern" (19 : Nat) ({ cls := "java/lang/String", name := "indexOf", desc := "(I)I" } : Jvm.MethodName)).before a0 Z = true := wq hw 34 rfl
theorem tw_35 (hw : OW Z a0) : (Jvm.Cond.declares ({ cls := "java/lang/String", name := "indexOf", desc := "(I)I" } : Jvm.MethodName)).before a0 Z = true := wq hw 35 rfl
theorem tw_36 (hw : OW Z a0) : (Jvm.Cond.instanceMethod ({ cls := "java/lang/String", name := "indexOf", desc := "(I)I" } : Jvm.MethodName)).before a0 Z = true := wq hw 36 rfl
theorem tw_37 (hw : OW Z a0) : (Jvm.Cond.selects "java/lang/String" ({ cls := "java/lang/String", name := "indexOf", desc := "(I)I" } : Jvm.MethodName) ({ cls := "java/lang/String", name := "indexOf", desc := "(I)I" } : Jvm.MethodName)).before a0 Z = true := wq hw 37 rfl
theorem tw_38 (hw : OW Z a0) : (Jvm.Cond.code ({ cls := "java/lang/String", name := "indexOf", desc := "(I)I" } : Jvm.MethodName) jdk_42_method_79_code (2 : Nat) (Option.some Jvm.ClassFile.FieldType.int)).before a0 Z = true := wq hw 38 rfl
theorem tw_39 (hw : OW Z a0) : (Jvm.Cond.methodLink "java/lang/String" (633 : Nat) ({ cls := "java/lang/String", name := "indexOf", desc := "(II)I" } : Jvm.MethodName)).before a0 Z = true := wq hw 39 rfl
theorem tw_40 (hw : OW Z a0) : (Jvm.Cond.declares ({ cls := "java/lang/String", name := "indexOf", desc := "(II)I" } : Jvm.MethodName)).before a0 Z = true := wq hw 40 rfl
theorem tw_41 (hw : OW Z a0) : (Jvm.Cond.instanceMethod ({ cls := "java/lang/String", name := "indexOf", desc := "(II)I" } : Jvm.MethodName)).before a0 Z = true := wq hw 41 rfl
theorem tw_42 (hw : OW Z a0) : (Jvm.Cond.selects "java/lang/String" ({ cls := "java/lang/String", name := "indexOf", desc := "(II)I" } : Jvm.MethodName) ({ cls := "java/lang/String", name := "indexOf", desc := "(II)I" } : Jvm.MethodName)).before a0 Z = true := wq hw 42 rfl
theorem tw_43 (hw : OW Z a0) : (Jvm.Cond.code ({ cls := "java/lang/String", name := "indexOf", desc := "(II)I" } : Jvm.MethodName) jdk_42_method_80_code (3 : Nat) (Option.some Jvm.ClassFile.FieldType.int)).before a0 Z = true := wq hw 43 rfl
theorem tw_44 (hw : OW Z a0) : (Jvm.Cond.methodLink "java/lang/String" (492 : Nat) ({ cls := "java/lang/String", name := "isLatin1", desc := "()Z" } : Jvm.MethodName)).before a0 Z = true := wq hw 44 rfl
theorem tw_45 (hw : OW Z a0) : (Jvm.Cond.declares ({ cls := "java/lang/String", name := "isLatin1", desc := "()Z" } : Jvm.MethodName)).before a0 Z = true := wq hw 45 rfl
theorem tw_46 (hw : OW Z a0) : (Jvm.Cond.instanceMethod ({ cls := "java/lang/String", name := "isLatin1", desc := "()Z" } : Jvm.MethodName)).before a0 Z = true := wq hw 46 rfl
theorem tw_47 (hw : OW Z a0) : (Jvm.Cond.selects "java/lang/String" ({ cls := "java/lang/String", name := "isLatin1", desc := "()Z" } : Jvm.MethodName) ({ cls := "java/lang/String", name := "isLatin1", desc := "()Z" } : Jvm.MethodName)).before a0 Z = true := wq hw 47 rfl
theorem tw_48 (hw : OW Z a0) : (Jvm.Cond.code ({ cls := "java/lang/String", name := "isLatin1", desc := "()Z" } : Jvm.MethodName) jdk_42_method_154_code (1 : Nat) (Option.some Jvm.ClassFile.FieldType.boolean)).before a0 Z = true := wq hw 48 rfl
theorem tw_49 (hw : OW Z a0) : (Jvm.Cond.fieldLink "java/lang/String" (38 : Nat) "java/lang/String" "COMPACT_STRINGS" "Z").before a0 Z = true := wq hw 49 rfl
theorem tw_50 (hw : OW Z a0) : (Jvm.Cond.methodLink "java/lang/String" (505 : Nat) ({ cls := "java/lang/String", name := "length", desc := "()I" } : Jvm.MethodName)).before a0 Z = true := wq hw 50 rfl
theorem tw_51 (hw : OW Z a0) : (Jvm.Cond.declares ({ cls := "java/lang/String", name := "length", desc := "()I" } : Jvm.MethodName)).before a0 Z = true := wq hw 51 rfl
theorem tw_52 (hw : OW Z a0) : (Jvm.Cond.instanceMethod ({ cls := "java/lang/String", name := "length", desc := "()I" } : Jvm.MethodName)).before a0 Z = true := wq hw 52 rfl
theorem tw_53 (hw : OW Z a0) : (Jvm.Cond.selects "java/lang/String" ({ cls := "java/lang/String", name := "length", desc := "()I" } : Jvm.MethodName) ({ cls := "java/lang/String", name := "length", desc := "()I" } : Jvm.MethodName)).before a0 Z = true := wq hw 53 rfl
theorem tw_54 (hw : OW Z a0) : (Jvm.Cond.code ({ cls := "java/lang/String", name := "length", desc := "()I" } : Jvm.MethodName) jdk_42_method_54_code (1 : Nat) (Option.some Jvm.ClassFile.FieldType.int)).before a0 Z = true := wq hw 54 rfl
theorem tw_55 (hw : OW Z a0) : (Jvm.Cond.methodLink "java/lang/String" (335 : Nat) ({ cls := "java/lang/String", name := "coder", desc := "()B" } : Jvm.MethodName)).before a0 Z = true := wq hw 55 rfl
theorem tw_56 (hw : OW Z a0) : (Jvm.Cond.declares ({ cls := "java/lang/String", name := "coder", desc := "()B" } : Jvm.MethodName)).before a0 Z = true := wq hw 56 rfl
theorem tw_57 (hw : OW Z a0) : (Jvm.Cond.instanceMethod ({ cls := "java/lang/String", name := "coder", desc := "()B" } : Jvm.MethodName)).before a0 Z = true := wq hw 57 rfl
theorem tw_58 (hw : OW Z a0) : (Jvm.Cond.selects "java/lang/String" ({ cls := "java/lang/String", name := "coder", desc := "()B" } : Jvm.MethodName) ({ cls := "java/lang/String", name := "coder", desc := "()B" } : Jvm.MethodName)).before a0 Z = true := wq hw 58 rfl
theorem tw_59 (hw : OW Z a0) : (Jvm.Cond.code ({ cls := "java/lang/String", name := "coder", desc := "()B" } : Jvm.MethodName) jdk_42_method_152_code (1 : Nat) (Option.some Jvm.ClassFile.FieldType.byte)).before a0 Z = true := wq hw 59 rfl
theorem tw_60 (hw : OW Z a0) : (Jvm.Cond.methodLink "java/lang/String" (637 : Nat) ({ cls := "java/lang/StringLatin1", name := "indexOf", desc := "([BIII)I" } : Jvm.MethodName)).before a0 Z = true := wq hw 60 rfl
theorem tw_61 (hw : OW Z a0) : (Jvm.Cond.static ({ cls := "java/lang/StringLatin1", name := "indexOf", desc := "([BIII)I" } : Jvm.MethodName)).before a0 Z = true := wq hw 61 rfl
theorem tw_62 (hw : OW Z a0) : (Jvm.Cond.initialized "java/lang/StringLatin1").before a0 Z = true := wq hw 62 rfl
theorem tw_63 (hw : OW Z a0) : (Jvm.Cond.code ({ cls := "java/lang/StringLatin1", name := "indexOf", desc := "([BIII)I" } : Jvm.MethodName) jdk_43_method_22_code (4 : Nat) (Option.some Jvm.ClassFile.FieldType.int)).before a0 Z = true := wq hw 63 rfl
theorem tw_64 (hw : OW Z a0) : (Jvm.Cond.methodLink "java/lang/StringLatin1" (88 : Nat) ({ cls := "java/lang/StringLatin1", name := "canEncode", desc := "(I)Z" } : Jvm.MethodName)).before a0 Z = true := wq hw 64 rfl
theorem tw_65 (hw : OW Z a0) : (Jvm.Cond.static ({ cls := "java/lang/StringLatin1", name := "canEncode", desc := "(I)Z" } : Jvm.MethodName)).before a0 Z = true := wq hw 65 rfl
theorem tw_66 (hw : OW Z a0) : (Jvm.Cond.code ({ cls := "java/lang/StringLatin1", name := "canEncode", desc := "(I)Z" } : Jvm.MethodName) jdk_43_method_4_code (1 : Nat) (Option.some Jvm.ClassFile.FieldType.boolean)).before a0 Z = true := wq hw 66 rfl
theorem tw_67 (hw : OW Z a0) : (Jvm.Cond.methodLink "java/lang/StringLatin1" (92 : Nat) ({ cls := "java/lang/Math", name := "max", desc := "(II)I" } : Jvm.MethodName)).before a0 Z = true := wq hw 67 rfl
theorem tw_68 (hw : OW Z a0) : (Jvm.Cond.static ({ cls := "java/lang/Math", name := "max", desc := "(II)I" } : Jvm.MethodName)).before a0 Z = true := wq hw 68 rfl
theorem tw_69 (hw : OW Z a0) : (Jvm.Cond.initialized "java/lang/Math").before a0 Z = true := wq hw 69 rfl
theorem tw_70 (hw : OW Z a0) : (Jvm.Cond.code ({ cls := "java/lang/Math", name := "max", desc := "(II)I" } : Jvm.MethodName) jdk_29_method_65_code (2 : Nat) (Option.some Jvm.ClassFile.FieldType.int)).before a0 Z = true := wq hw 70 rfl
theorem tw_71 (hw : OW Z a0) : (Jvm.Cond.methodLink "java/lang/StringLatin1" (38 : Nat) ({ cls := "java/lang/Math", name := "min", desc := "(II)I" } : Jvm.MethodName)).before a0 Z = true := wq hw 71 rfl
theorem tw_72 (hw : OW Z a0) : (Jvm.Cond.static ({ cls := "java/lang/Math", name := "min", desc := "(II)I" } : Jvm.MethodName)).before a0 Z = true := wq hw 72 rfl
theorem tw_73 (hw : OW Z a0) : (Jvm.Cond.code ({ cls := "java/lang/Math", name := "min", desc := "(II)I" } : Jvm.MethodName) jdk_29_method_69_code (2 : Nat) (Option.some Jvm.ClassFile.FieldType.int)).before a0 Z = true := wq hw 73 rfl
theorem tw_74 (hw : OW Z a0) : (Jvm.Cond.methodLink "java/lang/String" (177 : Nat) ({ cls := "java/lang/StringUTF16", name := "compress", desc := "([CII)[B" } : Jvm.MethodName)).before a0 Z = true := wq hw 74 rfl
theorem tw_75 (hw : OW Z a0) : (Jvm.Cond.static ({ cls := "java/lang/StringUTF16", name := "compress", desc := "([CII)[B" } : Jvm.MethodName)).before a0 Z = true := wq hw 75 rfl
theorem tw_76 (hw : OW Z a0) : (Jvm.Cond.initialized "java/lang/StringUTF16").before a0 Z = true := wq hw 76 rfl
theorem tw_77 (hw : OW Z a0) : (Jvm.Cond.code ({ cls := "java/lang/StringUTF16", name := "compress", desc := "([CII)[B" } : Jvm.MethodName) jdk_52_method_16_code (6 : Nat) (Option.some (Jvm.ClassFile.FieldType.array Jvm.ClassFile.FieldType.byte))).before a0 Z = true := wq hw 77 rfl
theorem tw_78 (hw : OW Z a0) : (Jvm.Cond.methodLink "java/lang/StringUTF16" (115 : Nat) ({ cls := "java/lang/StringUTF16", name := "compress", desc := "([CI[BII)I" } : Jvm.MethodName)).before a0 Z = true := wq hw 78 rfl
theorem tw_79 (hw : OW Z a0) : (Jvm.Cond.static ({ cls := "java/lang/StringUTF16", name := "compress", desc := "([CI[BII)I" } : Jvm.MethodName)).before a0 Z = true := wq hw 79 rfl
theorem tw_80 (hw : OW Z a0) : (Jvm.Cond.code ({ cls := "java/lang/StringUTF16", name := "compress", desc := "([CI[BII)I" } : Jvm.MethodName) jdk_52_method_21_code (7 : Nat) (Option.some Jvm.ClassFile.FieldType.int)).before a0 Z = true := wq hw 80 rfl
theorem tw_81 (hw : OW Z a0) : (Jvm.Cond.methodLink "java/lang/String" (47 : Nat) ({ cls := "java/lang/StringUTF16", name := "coderFromArrayLen", desc := "([BI)B" } : Jvm.MethodName)).before a0 Z = true := wq hw 81 rfl
theorem tw_82 (hw : OW Z a0) : (Jvm.Cond.static ({ cls := "java/lang/StringUTF16", name := "coderFromArrayLen", desc := "([BI)B" } : Jvm.MethodName)).before a0 Z = true := wq hw 82 rfl
theorem tw_83 (hw : OW Z a0) : (Jvm.Cond.code ({ cls := "java/lang/StringUTF16", name := "coderFromArrayLen", desc := "([BI)B" } : Jvm.MethodName) jdk_52_method_15_code (2 : Nat) (Option.some Jvm.ClassFile.FieldType.byte)).before a0 Z = true := wq hw 83 rfl
theorem tw_84 (hw : OW Z a0) : (Jvm.Cond.methodLink "java/lang/StringLatin1" (95 : Nat) ({ cls := "java/lang/StringLatin1", name := "indexOfChar", desc := "([BIII)I" } : Jvm.MethodName)).before a0 Z = true := wq hw 84 rfl
theorem tw_85 (hw : OW Z a0) : (Jvm.Cond.static ({ cls := "java/lang/StringLatin1", name := "indexOfChar", desc := "([BIII)I" } : Jvm.MethodName)).before a0 Z = true := wq hw 85 rfl
theorem tw_86 (hw : OW Z a0) : (Jvm.Cond.code ({ cls := "java/lang/StringLatin1", name := "indexOfChar", desc := "([BIII)I" } : Jvm.MethodName) jdk_43_method_23_code (6 : Nat) (Option.some Jvm.ClassFile.FieldType.int)).before a0 Z = true := wq hw 86 rfl
theorem tw_87 (hw : OW Z a0) : (Jvm.Cond.constant "purlin/config/NamePatternIsPatternPinLaw" (7 : Nat) (65535 : Int32)).before a0 Z = true := wq hw 87 rfl
theorem tw_88 (hw : OW Z a0) : (Jvm.Cond.methodLink "java/lang/StringUTF16" (119 : Nat) ({ cls := "java/lang/StringUTF16", name := "toBytes", desc := "([CII)[B" } : Jvm.MethodName)).before a0 Z = true := wq hw 88 rfl
theorem tw_89 (hw : OW Z a0) : (Jvm.Cond.static ({ cls := "java/lang/StringUTF16", name := "toBytes", desc := "([CII)[B" } : Jvm.MethodName)).before a0 Z = true := wq hw 89 rfl
theorem tw_90 (hw : OW Z a0) : (Jvm.Cond.code ({ cls := "java/lang/StringUTF16", name := "toBytes", desc := "([CII)[B" } : Jvm.MethodName) jdk_52_method_14_code (5 : Nat) (Option.some (Jvm.ClassFile.FieldType.array Jvm.ClassFile.FieldType.byte))).before a0 Z = true := wq hw 90 rfl
theorem tw_91 (hw : OW Z a0) : (Jvm.Cond.methodLink "java/lang/StringUTF16" (107 : Nat) ({ cls := "java/lang/StringUTF16", name := "newBytesFor", desc := "(I)[B" } : Jvm.MethodName)).before a0 Z = true := wq hw 91 rfl
theorem tw_92 (hw : OW Z a0) : (Jvm.Cond.static ({ cls := "java/lang/StringUTF16", name := "newBytesFor", desc := "(I)[B" } : Jvm.MethodName)).before a0 Z = true := wq hw 92 rfl
theorem tw_93 (hw : OW Z a0) : (Jvm.Cond.code ({ cls := "java/lang/StringUTF16", name := "newBytesFor", desc := "(I)[B" } : Jvm.MethodName) jdk_52_method_2_code (1 : Nat) (Option.some (Jvm.ClassFile.FieldType.array Jvm.ClassFile.FieldType.byte))).before a0 Z = true := wq hw 93 rfl
theorem tw_94 (hw : OW Z a0) : (Jvm.Cond.methodLink "java/lang/StringUTF16" (11 : Nat) ({ cls := "java/lang/StringUTF16", name := "newBytesLength", desc := "(I)I" } : Jvm.MethodName)).before a0 Z = true := wq hw 94 rfl
theorem tw_95 (hw : OW Z a0) : (Jvm.Cond.static ({ cls := "java/lang/StringUTF16", name := "newBytesLength", desc := "(I)I" } : Jvm.MethodName)).before a0 Z = true := wq hw 95 rfl
theorem tw_96 (hw : OW Z a0) : (Jvm.Cond.code ({ cls := "java/lang/StringUTF16", name := "newBytesLength", desc := "(I)I" } : Jvm.MethodName) jdk_52_method_3_code (1 : Nat) (Option.some Jvm.ClassFile.FieldType.int)).before a0 Z = true := wq hw 96 rfl
theorem tw_97 (hw : OW Z a0) : (Jvm.Cond.constant "java/lang/StringUTF16" (20 : Nat) (1073741823 : Int32)).before a0 Z = true := wq hw 97 rfl
theorem tw_98 (hw : OW Z a0) : (Jvm.Cond.methodLink "java/lang/StringUTF16" (111 : Nat) ({ cls := "java/lang/StringUTF16", name := "putChar", desc := "([BII)V" } : Jvm.MethodName)).before a0 Z = true := wq hw 98 rfl
theorem tw_99 (hw : OW Z a0) : (Jvm.Cond.static ({ cls := "java/lang/StringUTF16", name := "putChar", desc := "([BII)V" } : Jvm.MethodName)).before a0 Z = true := wq hw 99 rfl
theorem tw_100 (hw : OW Z a0) : (Jvm.Cond.code ({ cls := "java/lang/StringUTF16", name := "putChar", desc := "([BII)V" } : Jvm.MethodName) jdk_52_method_4_code (3 : Nat) (Option.none : Option Jvm.ClassFile.FieldType)).before a0 Z = true := wq hw 100 rfl
theorem tw_101 (hw : OW Z a0) : (Jvm.Cond.fieldLink "java/lang/StringUTF16" (44 : Nat) "java/lang/StringUTF16" "$assertionsDisabled" "Z").before a0 Z = true := wq hw 101 rfl
theorem tw_102 (hw : OW Z a0) : (Jvm.Cond.fieldLink "java/lang/StringUTF16" (59 : Nat) "java/lang/StringUTF16" "HI_BYTE_SHIFT" "I").before a0 Z = true := wq hw 102 rfl
theorem tw_103 (hw : OW Z a0) : (Jvm.Cond.fieldLink "java/lang/StringUTF16" (63 : Nat) "java/lang/StringUTF16" "LO_BYTE_SHIFT" "I").before a0 Z = true := wq hw 103 rfl
theorem tw_104 (hw : OW Z a0) : (Jvm.Cond.methodLink "java/lang/StringUTF16" (71 : Nat) ({ cls := "java/lang/StringUTF16", name := "getChar", desc := "([BI)C" } : Jvm.MethodName)).before a0 Z = true := wq hw 104 rfl
theorem tw_105 (hw : OW Z a0) : (Jvm.Cond.static ({ cls := "java/lang/StringUTF16", name := "getChar", desc := "([BI)C" } : Jvm.MethodName)).before a0 Z = true := wq hw 105 rfl
theorem tw_106 (hw : OW Z a0) : (Jvm.Cond.code ({ cls := "java/lang/StringUTF16", name := "getChar", desc := "([BI)C" } : Jvm.MethodName) jdk_52_method_5_code (2 : Nat) (Option.some Jvm.ClassFile.FieldType.char)).before a0 Z = true := wq hw 106 rfl
theorem tw_107 (hw : OW Z a0) : (Jvm.Cond.methodLink "java/lang/String" (640 : Nat) ({ cls := "java/lang/StringUTF16", name := "indexOf", desc := "([BIII)I" } : Jvm.MethodName)).before a0 Z = true := wq hw 107 rfl
theorem tw_108 (hw : OW Z a0) : (Jvm.Cond.static ({ cls := "java/lang/StringUTF16", name := "indexOf", desc := "([BIII)I" } : Jvm.MethodName)).before a0 Z = true := wq hw 108 rfl
theorem tw_109 (hw : OW Z a0) : (Jvm.Cond.code ({ cls := "java/lang/StringUTF16", name := "indexOf", desc := "([BIII)I" } : Jvm.MethodName) jdk_52_method_40_code (4 : Nat) (Option.some Jvm.ClassFile.FieldType.int)).before a0 Z = true := wq hw 109 rfl
theorem tw_110 (hw : OW Z a0) : (Jvm.Cond.methodLink "java/lang/StringUTF16" (224 : Nat) ({ cls := "java/lang/Math", name := "max", desc := "(II)I" } : Jvm.MethodName)).before a0 Z = true := wq hw 110 rfl
theorem tw_111 (hw : OW Z a0) : (Jvm.Cond.methodLink "java/lang/StringUTF16" (183 : Nat) ({ cls := "java/lang/Math", name := "min", desc := "(II)I" } : Jvm.MethodName)).before a0 Z = true := wq hw 111 rfl
theorem tw_112 (hw : OW Z a0) : (Jvm.Cond.constant "java/lang/StringUTF16" (227 : Nat) (65536 : Int32)).before a0 Z = true := wq hw 112 rfl
theorem tw_113 (hw : OW Z a0) : (Jvm.Cond.methodLink "java/lang/StringUTF16" (228 : Nat) ({ cls := "java/lang/StringUTF16", name := "indexOfChar", desc := "([BIII)I" } : Jvm.MethodName)).before a0 Z = true := wq hw 113 rfl
theorem tw_114 (hw : OW Z a0) : (Jvm.Cond.static ({ cls := "java/lang/StringUTF16", name := "indexOfChar", desc := "([BIII)I" } : Jvm.MethodName)).before a0 Z = true := wq hw 114 rfl
theorem tw_115 (hw : OW Z a0) : (Jvm.Cond.code ({ cls := "java/lang/StringUTF16", name := "indexOfChar", desc := "([BIII)I" } : Jvm.MethodName) jdk_52_method_47_code (4 : Nat) (Option.some Jvm.ClassFile.FieldType.int)).before a0 Z = true := wq hw 115 rfl
theorem tw_116 (hw : OW Z a0) : (Jvm.Cond.methodLink "java/lang/StringUTF16" (96 : Nat) ({ cls := "java/lang/StringUTF16", name := "checkBoundsBeginEnd", desc := "(II[B)V" } : Jvm.MethodName)).before a0 Z = true := wq hw 116 rfl
theorem tw_117 (hw : OW Z a0) : (Jvm.Cond.static ({ cls := "java/lang/StringUTF16", name := "checkBoundsBeginEnd", desc := "(II[B)V" } : Jvm.MethodName)).before a0 Z = true := wq hw 117 rfl
theorem tw_118 (hw : OW Z a0) : (Jvm.Cond.code ({ cls := "java/lang/StringUTF16", name := "checkBoundsBeginEnd", desc := "(II[B)V" } : Jvm.MethodName) jdk_52_method_93_code (3 : Nat) (Option.none : Option Jvm.ClassFile.FieldType)).before a0 Z = true := wq hw 118 rfl
theorem tw_119 (hw : OW Z a0) : (Jvm.Cond.methodLink "java/lang/StringUTF16" (48 : Nat) ({ cls := "java/lang/StringUTF16", name := "length", desc := "([B)I" } : Jvm.MethodName)).before a0 Z = true := wq hw 119 rfl
theorem tw_120 (hw : OW Z a0) : (Jvm.Cond.static ({ cls := "java/lang/StringUTF16", name := "length", desc := "([B)I" } : Jvm.MethodName)).before a0 Z = true := wq hw 120 rfl
theorem tw_121 (hw : OW Z a0) : (Jvm.Cond.code ({ cls := "java/lang/StringUTF16", name := "length", desc := "([B)I" } : Jvm.MethodName) jdk_52_method_6_code (1 : Nat) (Option.some Jvm.ClassFile.FieldType.int)).before a0 Z = true := wq hw 121 rfl
theorem tw_122 (hw : OW Z a0) : (Jvm.Cond.methodLink "java/lang/StringUTF16" (241 : Nat) ({ cls := "java/lang/String", name := "checkBoundsBeginEnd", desc := "(III)V" } : Jvm.MethodName)).before a0 Z = true := wq hw 122 rfl
theorem tw_123 (hw : OW Z a0) : (Jvm.Cond.static ({ cls := "java/lang/String", name := "checkBoundsBeginEnd", desc := "(III)V" } : Jvm.MethodName)).before a0 Z = true := wq hw 123 rfl
theorem tw_124 (hw : OW Z a0) : (Jvm.Cond.code ({ cls := "java/lang/String", name := "checkBoundsBeginEnd", desc := "(III)V" } : Jvm.MethodName) jdk_42_method_158_code (3 : Nat) (Option.none : Option Jvm.ClassFile.FieldType)).before a0 Z = true := wq hw 124 rfl
theorem tw_125 (hw : OW Z a0) : (Jvm.Cond.fieldLink "java/lang/String" (1053 : Nat) "jdk/internal/util/Preconditions" "SIOOBE_FORMATTER" "Ljava/util/function/BiFunction;").before a0 Z = true := wq hw 125 rfl
theorem tw_126 (hw : OW Z a0) : (Jvm.Cond.initialized "jdk/internal/util/Preconditions").before a0 Z = true := wq hw 126 rfl
theorem tw_127 (hw : OW Z a0) : (Jvm.Cond.methodLink "java/lang/String" (1062 : Nat) ({ cls := "jdk/internal/util/Preconditions", name := "checkFromToIndex", desc := "(IIILjava/util/function/BiFunction;)I" } : Jvm.MethodName)).before a0 Z = true := wq hw 127 rfl
theorem tw_128 (hw : OW Z a0) : (Jvm.Cond.static ({ cls := "jdk/internal/util/Preconditions", name := "checkFromToIndex", desc := "(IIILjava/util/function/BiFunction;)I" } : Jvm.MethodName)).before a0 Z = true := wq hw 128 rfl
theorem tw_129 (hw : OW Z a0) : (Jvm.Cond.code ({ cls := "jdk/internal/util/Preconditions", name := "checkFromToIndex", desc := "(IIILjava/util/function/BiFunction;)I" } : Jvm.MethodName) jdk_41_method_12_code (4 : Nat) (Option.some Jvm.ClassFile.FieldType.int)).before a0 Z = true := wq hw 129 rfl
theorem tw_130 (hw : OW Z a0) : (Jvm.Cond.methodLink "java/lang/StringUTF16" (244 : Nat) ({ cls := "java/lang/StringUTF16", name := "indexOfCharUnsafe", desc := "([BIII)I" } : Jvm.MethodName)).before a0 Z = true := wq hw 130 rfl
theorem tw_131 (hw : OW Z a0) : (Jvm.Cond.static ({ cls := "java/lang/StringUTF16", name := "indexOfCharUnsafe", desc := "([BIII)I" } : Jvm.MethodName)).before a0 Z = true := wq hw 131 rfl
theorem tw_132 (hw : OW Z a0) : (Jvm.Cond.code ({ cls := "java/lang/StringUTF16", name := "indexOfCharUnsafe", desc := "([BIII)I" } : Jvm.MethodName) jdk_52_method_48_code (5 : Nat) (Option.some Jvm.ClassFile.FieldType.int)).before a0 Z = true := wq hw 132 rfl
theorem d1_0 : decode method_2_code 0 = .ok (.iload_n 0, 1) := by decide +kernel
theorem d1_1 : decode method_2_code 1 = .ok (.bipush 16, 2) := by decide +kernel
theorem d1_3 : decode method_2_code 3 = .ok (.iushr, 1) := by decide +kernel
theorem d1_4 : decode method_2_code 4 = .ok (.iconst 3, 1) := by decide +kernel
theorem d1_5 : decode method_2_code 5 = .ok (.iand, 1) := by decide +kernel
theorem d1_6 : decode method_2_code 6 = .ok (.ifCond .ne 8, 3) := by decide +kernel
theorem d1_9 : decode method_2_code 9 = .ok (.bipush 42, 2) := by decide +kernel
theorem d1_11 : decode method_2_code 11 = .ok (.goto 8, 3) := by decide +kernel
theorem d1_14 : decode method_2_code 14 = .ok (.iload_n 0, 1) := by decide +kernel
theorem d1_15 : decode method_2_code 15 = .ok (.ldc 7, 2) := by decide +kernel
theorem d1_17 : decode method_2_code 17 = .ok (.iand, 1) := by decide +kernel
theorem d1_18 : decode method_2_code 18 = .ok (.i2c, 1) := by decide +kernel
theorem d1_19 : decode method_2_code 19 = .ok (.ireturn, 1) := by decide +kernel
theorem d2_0 : decode method_3_code 0 = .ok (.iload_n 0, 1) := by decide +kernel
theorem d2_1 : decode method_3_code 1 = .ok (.ifCond .ne 14, 3) := by decide +kernel
theorem d2_4 : decode method_3_code 4 = .ok (.new 8, 3) := by decide +kernel
theorem d2_7 : decode method_3_code 7 = .ok (.dup, 1) := by decide +kernel
theorem d2_8 : decode method_3_code 8 = .ok (.iconst 0, 1) := by decide +kernel
theorem d2_9 : decode method_3_code 9 = .ok (.newarray .char, 2) := by decide +kernel
theorem d2_11 : decode method_3_code 11 = .ok (.invokespecial 10, 3) := by decide +kernel
theorem d2_14 : decode method_3_code 14 = .ok (.areturn, 1) := by decide +kernel
theorem d2_15 : decode method_3_code 15 = .ok (.iload_n 0, 1) := by decide +kernel
theorem d2_16 : decode method_3_code 16 = .ok (.iconst 1, 1) := by decide +kernel
theorem d2_17 : decode method_3_code 17 = .ok (.if_icmp .ne 18, 3) := by decide +kernel
theorem d2_20 : decode method_3_code 20 = .ok (.new 8, 3) := by decide +kernel
theorem d2_23 : decode method_3_code 23 = .ok (.dup, 1) := by decide +kernel
theorem d2_24 : decode method_3_code 24 = .ok (.iconst 1, 1) := by decide +kernel
theorem d2_25 : decode method_3_code 25 = .ok (.newarray .char, 2) := by decide +kernel
theorem d2_27 : decode method_3_code 27 = .ok (.dup, 1) := by decide +kernel
theorem d2_28 : decode method_3_code 28 = .ok (.iconst 0, 1) := by decide +kernel
theorem d2_29 : decode method_3_code 29 = .ok (.iload_n 1, 1) := by decide +kernel
theorem d2_30 : decode method_3_code 30 = .ok (.castore, 1) := by decide +kernel
theorem d2_31 : decode method_3_code 31 = .ok (.invokespecial 10, 3) := by decide +kernel
theorem d2_34 : decode method_3_code 34 = .ok (.areturn, 1) := by decide +kernel
theorem d2_35 : decode method_3_code 35 = .ok (.iload_n 0, 1) := by decide +kernel
theorem d2_36 : decode method_3_code 36 = .ok (.iconst 2, 1) := by decide +kernel
theorem d2_37 : decode method_3_code 37 = .ok (.if_icmp .ne 22, 3) := by decide +kernel
theorem d2_40 : decode method_3_code 40 = .ok (.new 8, 3) := by decide +kernel
theorem d2_43 : decode method_3_code 43 = .ok (.dup, 1) := by decide +kernel
theorem d2_44 : decode method_3_code 44 = .ok (.iconst 2, 1) := by decide +kernel
theorem d2_45 : decode method_3_code 45 = .ok (.newarray .char, 2) := by decide +kernel
theorem d2_47 : decode method_3_code 47 = .ok (.dup, 1) := by decide +kernel
theorem d2_48 : decode method_3_code 48 = .ok (.iconst 0, 1) := by decide +kernel
theorem d2_49 : decode method_3_code 49 = .ok (.iload_n 1, 1) := by decide +kernel
theorem d2_50 : decode method_3_code 50 = .ok (.castore, 1) := by decide +kernel
theorem d2_51 : decode method_3_code 51 = .ok (.dup, 1) := by decide +kernel
theorem d2_52 : decode method_3_code 52 = .ok (.iconst 1, 1) := by decide +kernel
theorem d2_53 : decode method_3_code 53 = .ok (.iload_n 2, 1) := by decide +kernel
theorem d2_54 : decode method_3_code 54 = .ok (.castore, 1) := by decide +kernel
theorem d2_55 : decode method_3_code 55 = .ok (.invokespecial 10, 3) := by decide +kernel
theorem d2_58 : decode method_3_code 58 = .ok (.areturn, 1) := by decide +kernel
theorem d2_59 : decode method_3_code 59 = .ok (.iload_n 0, 1) := by decide +kernel
theorem d2_60 : decode method_3_code 60 = .ok (.iconst 3, 1) := by decide +kernel
theorem d2_61 : decode method_3_code 61 = .ok (.if_icmp .ne 26, 3) := by decide +kernel
theorem d2_64 : decode method_3_code 64 = .ok (.new 8, 3) := by decide +kernel
theorem d2_67 : decode method_3_code 67 = .ok (.dup, 1) := by decide +kernel
theorem d2_68 : decode method_3_code 68 = .ok (.iconst 3, 1) := by decide +kernel
theorem d2_69 : decode method_3_code 69 = .ok (.newarray .char, 2) := by decide +kernel
theorem d2_71 : decode method_3_code 71 = .ok (.dup, 1) := by decide +kernel
theorem d2_72 : decode method_3_code 72 = .ok (.iconst 0, 1) := by decide +kernel
theorem d2_73 : decode method_3_code 73 = .ok (.iload_n 1, 1) := by decide +kernel
theorem d2_74 : decode method_3_code 74 = .ok (.castore, 1) := by decide +kernel
theorem d2_75 : decode method_3_code 75 = .ok (.dup, 1) := by decide +kernel
theorem d2_76 : decode method_3_code 76 = .ok (.iconst 1, 1) := by decide +kernel
theorem d2_77 : decode method_3_code 77 = .ok (.iload_n 2, 1) := by decide +kernel
theorem d2_78 : decode method_3_code 78 = .ok (.castore, 1) := by decide +kernel
theorem d2_79 : decode method_3_code 79 = .ok (.dup, 1) := by decide +kernel
theorem d2_80 : decode method_3_code 80 = .ok (.iconst 2, 1) := by decide +kernel
theorem d2_81 : decode method_3_code 81 = .ok (.iload_n 3, 1) := by decide +kernel
theorem d2_82 : decode method_3_code 82 = .ok (.castore, 1) := by decide +kernel
theorem d2_83 : decode method_3_code 83 = .ok (.invokespecial 10, 3) := by decide +kernel
theorem d2_86 : decode method_3_code 86 = .ok (.areturn, 1) := by decide +kernel
theorem d2_87 : decode method_3_code 87 = .ok (.new 8, 3) := by decide +kernel
theorem d2_90 : decode method_3_code 90 = .ok (.dup, 1) := by decide +kernel
theorem d2_91 : decode method_3_code 91 = .ok (.iconst 4, 1) := by decide +kernel
theorem d2_92 : decode method_3_code 92 = .ok (.newarray .char, 2) := by decide +kernel
theorem d2_94 : decode method_3_code 94 = .ok (.dup, 1) := by decide +kernel
theorem d2_95 : decode method_3_code 95 = .ok (.iconst 0, 1) := by decide +kernel
theorem d2_96 : decode method_3_code 96 = .ok (.iload_n 1, 1) := by decide +kernel
theorem d2_97 : decode method_3_code 97 = .ok (.castore, 1) := by decide +kernel
theorem d2_98 : decode method_3_code 98 = .ok (.dup, 1) := by decide +kernel
theorem d2_99 : decode method_3_code 99 = .ok (.iconst 1, 1) := by decide +kernel
theorem d2_100 : decode method_3_code 100 = .ok (.iload_n 2, 1) := by decide +kernel
theorem d2_101 : decode method_3_code 101 = .ok (.castore, 1) := by decide +kernel
theorem d2_102 : decode method_3_code 102 = .ok (.dup, 1) := by decide +kernel
theorem d2_103 : decode method_3_code 103 = .ok (.iconst 2, 1) := by decide +kernel
theorem d2_104 : decode method_3_code 104 = .ok (.iload_n 3, 1) := by decide +kernel
theorem d2_105 : decode method_3_code 105 = .ok (.castore, 1) := by decide +kernel
theorem d2_106 : decode method_3_code 106 = .ok (.dup, 1) := by decide +kernel
theorem d2_107 : decode method_3_code 107 = .ok (.iconst 3, 1) := by decide +kernel
theorem d2_108 : decode method_3_code 108 = .ok (.iload 4, 2) := by decide +kernel
theorem d2_110 : decode method_3_code 110 = .ok (.castore, 1) := by decide +kernel
theorem d2_111 : decode method_3_code 111 = .ok (.invokespecial 10, 3) := by decide +kernel
theorem d2_114 : decode method_3_code 114 = .ok (.areturn, 1) := by decide +kernel
theorem d3_0 : decode jdk_42_method_3_code 0 = .ok (.aload_n 0, 1) := by decide +kernel
theorem d3_1 : decode jdk_42_method_3_code 1 = .ok (.aload_n 1, 1) := by decide +kernel
theorem d3_2 : decode jdk_42_method_3_code 2 = .ok (.iconst 0, 1) := by decide +kernel
theorem d3_3 : decode jdk_42_method_3_code 3 = .ok (.aload_n 1, 1) := by decide +kernel
theorem d3_4 : decode jdk_42_method_3_code 4 = .ok (.arraylength, 1) := by decide +kernel
theorem d3_5 : decode jdk_42_method_3_code 5 = .ok (.aconst_null, 1) := by decide +kernel
theorem d3_6 : decode jdk_42_method_3_code 6 = .ok (.invokespecial 27, 3) := by decide +kernel
theorem d3_9 : decode jdk_42_method_3_code 9 = .ok (.return_, 1) := by decide +kernel
theorem d4_0 : decode jdk_42_method_149_code 0 = .ok (.aload_n 0, 1) := by decide +kernel
theorem d4_1 : decode jdk_42_method_149_code 1 = .ok (.invokespecial 1, 3) := by decide +kernel
theorem d4_4 : decode jdk_42_method_149_code 4 = .ok (.iload_n 3, 1) := by decide +kernel
theorem d4_5 : decode jdk_42_method_149_code 5 = .ok (.ifCond .ne 22, 3) := by decide +kernel
theorem d4_8 : decode jdk_42_method_149_code 8 = .ok (.aload_n 0, 1) := by decide +kernel
theorem d4_9 : decode jdk_42_method_149_code 9 = .ok (.ldc 7, 2) := by decide +kernel
theorem d4_11 : decode jdk_42_method_149_code 11 = .ok (.getfield 9, 3) := by decide +kernel
theorem d4_14 : decode jdk_42_method_149_code 14 = .ok (.putfield 9, 3) := by decide +kernel
theorem d4_17 : decode jdk_42_method_149_code 17 = .ok (.aload_n 0, 1) := by decide +kernel
theorem d4_18 : decode jdk_42_method_149_code 18 = .ok (.ldc 7, 2) := by decide +kernel
theorem d4_20 : decode jdk_42_method_149_code 20 = .ok (.getfield 15, 3) := by decide +kernel
theorem d4_23 : decode jdk_42_method_149_code 23 = .ok (.putfield 15, 3) := by decide +kernel
theorem d4_26 : decode jdk_42_method_149_code 26 = .ok (.return_, 1) := by decide +kernel
theorem d4_27 : decode jdk_42_method_149_code 27 = .ok (.getstatic 38, 3) := by decide +kernel
theorem d4_30 : decode jdk_42_method_149_code 30 = .ok (.ifCond .eq 28, 3) := by decide +kernel
theorem d4_33 : decode jdk_42_method_149_code 33 = .ok (.aload_n 1, 1) := by decide +kernel
theorem d4_34 : decode jdk_42_method_149_code 34 = .ok (.iload_n 2, 1) := by decide +kernel
theorem d4_35 : decode jdk_42_method_149_code 35 = .ok (.iload_n 3, 1) := by decide +kernel
theorem d4_36 : decode jdk_42_method_149_code 36 = .ok (.invokestatic 177, 3) := by decide +kernel
theorem d4_39 : decode jdk_42_method_149_code 39 = .ok (.astore 5, 2) := by decide +kernel
theorem d4_41 : decode jdk_42_method_149_code 41 = .ok (.aload_n 0, 1) := by decide +kernel
theorem d4_42 : decode jdk_42_method_149_code 42 = .ok (.aload 5, 2) := by decide +kernel
theorem d4_44 : decode jdk_42_method_149_code 44 = .ok (.iload_n 3, 1) := by decide +kernel
theorem d4_45 : decode jdk_42_method_149_code 45 = .ok (.invokestatic 47, 3) := by decide +kernel
theorem d4_48 : decode jdk_42_method_149_code 48 = .ok (.putfield 15, 3) := by decide +kernel
theorem d4_51 : decode jdk_42_method_149_code 51 = .ok (.aload_n 0, 1) := by decide +kernel
theorem d4_52 : decode jdk_42_method_149_code 52 = .ok (.aload 5, 2) := by decide +kernel
theorem d4_54 : decode jdk_42_method_149_code 54 = .ok (.putfield 9, 3) := by decide +kernel
theorem d4_57 : decode jdk_42_method_149_code 57 = .ok (.return_, 1) := by decide +kernel
theorem d6_0 : decode prog_24_method_2_code 0 = .ok (.aload_n 0, 1) := by decide +kernel
theorem d6_1 : decode prog_24_method_2_code 1 = .ok (.bipush 42, 2) := by decide +kernel
theorem d6_3 : decode prog_24_method_2_code 3 = .ok (.invokevirtual 19, 3) := by decide +kernel
theorem d6_6 : decode prog_24_method_2_code 6 = .ok (.ifCond .lt 7, 3) := by decide +kernel
theorem d6_9 : decode prog_24_method_2_code 9 = .ok (.iconst 1, 1) := by decide +kernel
theorem d6_10 : decode prog_24_method_2_code 10 = .ok (.goto 4, 3) := by decide +kernel
theorem d6_13 : decode prog_24_method_2_code 13 = .ok (.iconst 0, 1) := by decide +kernel
theorem d6_14 : decode prog_24_method_2_code 14 = .ok (.ireturn, 1) := by decide +kernel
theorem d7_0 : decode jdk_42_method_79_code 0 = .ok (.aload_n 0, 1) := by decide +kernel
theorem d7_1 : decode jdk_42_method_79_code 1 = .ok (.iload_n 1, 1) := by decide +kernel
theorem d7_2 : decode jdk_42_method_79_code 2 = .ok (.iconst 0, 1) := by decide +kernel
theorem d7_3 : decode jdk_42_method_79_code 3 = .ok (.invokevirtual 633, 3) := by decide +kernel
theorem d7_6 : decode jdk_42_method_79_code 6 = .ok (.ireturn, 1) := by decide +kernel
theorem d8_0 : decode jdk_42_method_80_code 0 = .ok (.aload_n 0, 1) := by decide +kernel
theorem d8_1 : decode jdk_42_method_80_code 1 = .ok (.invokevirtual 492, 3) := by decide +kernel
theorem d8_4 : decode jdk_42_method_80_code 4 = .ok (.ifCond .eq 19, 3) := by decide +kernel
theorem d8_7 : decode jdk_42_method_80_code 7 = .ok (.aload_n 0, 1) := by decide +kernel
theorem d8_8 : decode jdk_42_method_80_code 8 = .ok (.getfield 9, 3) := by decide +kernel
theorem d8_11 : decode jdk_42_method_80_code 11 = .ok (.iload_n 1, 1) := by decide +kernel
theorem d8_12 : decode jdk_42_method_80_code 12 = .ok (.iload_n 2, 1) := by decide +kernel
theorem d8_13 : decode jdk_42_method_80_code 13 = .ok (.aload_n 0, 1) := by decide +kernel
theorem d8_14 : decode jdk_42_method_80_code 14 = .ok (.invokevirtual 505, 3) := by decide +kernel
theorem d8_17 : decode jdk_42_method_80_code 17 = .ok (.invokestatic 637, 3) := by decide +kernel
theorem d8_20 : decode jdk_42_method_80_code 20 = .ok (.goto 16, 3) := by decide +kernel
theorem d8_23 : decode jdk_42_method_80_code 23 = .ok (.aload_n 0, 1) := by decide +kernel
theorem d8_24 : decode jdk_42_method_80_code 24 = .ok (.getfield 9, 3) := by decide +kernel
theorem d8_27 : decode jdk_42_method_80_code 27 = .ok (.iload_n 1, 1) := by decide +kernel
theorem d8_28 : decode jdk_42_method_80_code 28 = .ok (.iload_n 2, 1) := by decide +kernel
theorem d8_29 : decode jdk_42_method_80_code 29 = .ok (.aload_n 0, 1) := by decide +kernel
theorem d8_30 : decode jdk_42_method_80_code 30 = .ok (.invokevirtual 505, 3) := by decide +kernel
theorem d8_33 : decode jdk_42_method_80_code 33 = .ok (.invokestatic 640, 3) := by decide +kernel
theorem d8_36 : decode jdk_42_method_80_code 36 = .ok (.ireturn, 1) := by decide +kernel
theorem d9_0 : decode jdk_42_method_154_code 0 = .ok (.getstatic 38, 3) := by decide +kernel
theorem d9_3 : decode jdk_42_method_154_code 3 = .ok (.ifCond .eq 14, 3) := by decide +kernel
theorem d9_6 : decode jdk_42_method_154_code 6 = .ok (.aload_n 0, 1) := by decide +kernel
theorem d9_7 : decode jdk_42_method_154_code 7 = .ok (.getfield 15, 3) := by decide +kernel
theorem d9_10 : decode jdk_42_method_154_code 10 = .ok (.ifCond .ne 7, 3) := by decide +kernel
theorem d9_13 : decode jdk_42_method_154_code 13 = .ok (.iconst 1, 1) := by decide +kernel
theorem d9_14 : decode jdk_42_method_154_code 14 = .ok (.goto 4, 3) := by decide +kernel
theorem d9_17 : decode jdk_42_method_154_code 17 = .ok (.iconst 0, 1) := by decide +kernel
theorem d9_18 : decode jdk_42_method_154_code 18 = .ok (.ireturn, 1) := by decide +kernel
theorem d10_0 : decode jdk_42_method_54_code 0 = .ok (.aload_n 0, 1) := by decide +kernel
theorem d10_1 : decode jdk_42_method_54_code 1 = .ok (.getfield 9, 3) := by decide +kernel
theorem d10_4 : decode jdk_42_method_54_code 4 = .ok (.arraylength, 1) := by decide +kernel
theorem d10_5 : decode jdk_42_method_54_code 5 = .ok (.aload_n 0, 1) := by decide +kernel
theorem d10_6 : decode jdk_42_method_54_code 6 = .ok (.invokevirtual 335, 3) := by decide +kernel
theorem d10_9 : decode jdk_42_method_54_code 9 = .ok (.ishr, 1) := by decide +kernel
theorem d10_10 : decode jdk_42_method_54_code 10 = .ok (.ireturn, 1) := by decide +kernel
theorem d11_0 : decode jdk_42_method_152_code 0 = .ok (.getstatic 38, 3) := by decide +kernel
theorem d11_3 : decode jdk_42_method_152_code 3 = .ok (.ifCond .eq 10, 3) := by decide +kernel
theorem d11_6 : decode jdk_42_method_152_code 6 = .ok (.aload_n 0, 1) := by decide +kernel
theorem d11_7 : decode jdk_42_method_152_code 7 = .ok (.getfield 15, 3) := by decide +kernel
theorem d11_10 : decode jdk_42_method_152_code 10 = .ok (.goto 4, 3) := by decide +kernel
theorem d11_14 : decode jdk_42_method_152_code 14 = .ok (.ireturn, 1) := by decide +kernel
theorem d12_0 : decode jdk_43_method_22_code 0 = .ok (.iload_n 1, 1) := by decide +kernel
theorem d12_1 : decode jdk_43_method_22_code 1 = .ok (.invokestatic 88, 3) := by decide +kernel
theorem d12_4 : decode jdk_43_method_22_code 4 = .ok (.ifCond .ne 5, 3) := by decide +kernel
theorem d12_9 : decode jdk_43_method_22_code 9 = .ok (.iload_n 2, 1) := by decide +kernel
theorem d12_10 : decode jdk_43_method_22_code 10 = .ok (.iconst 0, 1) := by decide +kernel
theorem d12_11 : decode jdk_43_method_22_code 11 = .ok (.invokestatic 92, 3) := by decide +kernel
theorem d12_14 : decode jdk_43_method_22_code 14 = .ok (.istore_n 2, 1) := by decide +kernel
theorem d12_15 : decode jdk_43_method_22_code 15 = .ok (.iload_n 3, 1) := by decide +kernel
theorem d12_16 : decode jdk_43_method_22_code 16 = .ok (.aload_n 0, 1) := by decide +kernel
theorem d12_17 : decode jdk_43_method_22_code 17 = .ok (.arraylength, 1) := by decide +kernel
theorem d12_18 : decode jdk_43_method_22_code 18 = .ok (.invokestatic 38, 3) := by decide +kernel
theorem d12_21 : decode jdk_43_method_22_code 21 = .ok (.istore_n 3, 1) := by decide +kernel
theorem d12_22 : decode jdk_43_method_22_code 22 = .ok (.iload_n 2, 1) := by decide +kernel
theorem d12_23 : decode jdk_43_method_22_code 23 = .ok (.iload_n 3, 1) := by decide +kernel
theorem d12_24 : decode jdk_43_method_22_code 24 = .ok (.if_icmp .lt 5, 3) := by decide +kernel
theorem d12_27 : decode jdk_43_method_22_code 27 = .ok (.iconst (-1), 1) := by decide +kernel
theorem d12_28 : decode jdk_43_method_22_code 28 = .ok (.ireturn, 1) := by decide +kernel
theorem d12_29 : decode jdk_43_method_22_code 29 = .ok (.aload_n 0, 1) := by decide +kernel
theorem d12_30 : decode jdk_43_method_22_code 30 = .ok (.iload_n 1, 1) := by decide +kernel
theorem d12_31 : decode jdk_43_method_22_code 31 = .ok (.iload_n 2, 1) := by decide +kernel
theorem d12_32 : decode jdk_43_method_22_code 32 = .ok (.iload_n 3, 1) := by decide +kernel
theorem d12_33 : decode jdk_43_method_22_code 33 = .ok (.invokestatic 95, 3) := by decide +kernel
theorem d12_36 : decode jdk_43_method_22_code 36 = .ok (.ireturn, 1) := by decide +kernel
theorem d13_0 : decode jdk_43_method_4_code 0 = .ok (.iload_n 0, 1) := by decide +kernel
theorem d13_1 : decode jdk_43_method_4_code 1 = .ok (.ifCond .lt 14, 3) := by decide +kernel
theorem d13_4 : decode jdk_43_method_4_code 4 = .ok (.iload_n 0, 1) := by decide +kernel
theorem d13_5 : decode jdk_43_method_4_code 5 = .ok (.sipush 255, 3) := by decide +kernel
theorem d13_8 : decode jdk_43_method_4_code 8 = .ok (.if_icmp .gt 7, 3) := by decide +kernel
theorem d13_11 : decode jdk_43_method_4_code 11 = .ok (.iconst 1, 1) := by decide +kernel
theorem d13_12 : decode jdk_43_method_4_code 12 = .ok (.goto 4, 3) := by decide +kernel
theorem d13_16 : decode jdk_43_method_4_code 16 = .ok (.ireturn, 1) := by decide +kernel
theorem d14_0 : decode jdk_29_method_65_code 0 = .ok (.iload_n 0, 1) := by decide +kernel
theorem d14_1 : decode jdk_29_method_65_code 1 = .ok (.iload_n 1, 1) := by decide +kernel
theorem d14_2 : decode jdk_29_method_65_code 2 = .ok (.if_icmp .lt 7, 3) := by decide +kernel
theorem d14_5 : decode jdk_29_method_65_code 5 = .ok (.iload_n 0, 1) := by decide +kernel
theorem d14_6 : decode jdk_29_method_65_code 6 = .ok (.goto 4, 3) := by decide +kernel
theorem d14_10 : decode jdk_29_method_65_code 10 = .ok (.ireturn, 1) := by decide +kernel
theorem d15_0 : decode jdk_29_method_69_code 0 = .ok (.iload_n 0, 1) := by decide +kernel
theorem d15_1 : decode jdk_29_method_69_code 1 = .ok (.iload_n 1, 1) := by decide +kernel
theorem d15_2 : decode jdk_29_method_69_code 2 = .ok (.if_icmp .gt 7, 3) := by decide +kernel
theorem d15_5 : decode jdk_29_method_69_code 5 = .ok (.iload_n 0, 1) := by decide +kernel
theorem d15_6 : decode jdk_29_method_69_code 6 = .ok (.goto 4, 3) := by decide +kernel
theorem d15_10 : decode jdk_29_method_69_code 10 = .ok (.ireturn, 1) := by decide +kernel
theorem d16_0 : decode jdk_52_method_16_code 0 = .ok (.iload_n 2, 1) := by decide +kernel
theorem d16_1 : decode jdk_52_method_16_code 1 = .ok (.newarray .byte, 2) := by decide +kernel
theorem d16_3 : decode jdk_52_method_16_code 3 = .ok (.astore_n 3, 1) := by decide +kernel
theorem d16_4 : decode jdk_52_method_16_code 4 = .ok (.aload_n 0, 1) := by decide +kernel
theorem d16_5 : decode jdk_52_method_16_code 5 = .ok (.iload_n 1, 1) := by decide +kernel
theorem d16_6 : decode jdk_52_method_16_code 6 = .ok (.aload_n 3, 1) := by decide +kernel
theorem d16_7 : decode jdk_52_method_16_code 7 = .ok (.iconst 0, 1) := by decide +kernel
theorem d16_8 : decode jdk_52_method_16_code 8 = .ok (.iload_n 2, 1) := by decide +kernel
theorem d16_9 : decode jdk_52_method_16_code 9 = .ok (.invokestatic 115, 3) := by decide +kernel
theorem d16_12 : decode jdk_52_method_16_code 12 = .ok (.istore 4, 2) := by decide +kernel
theorem d16_14 : decode jdk_52_method_16_code 14 = .ok (.iload 4, 2) := by decide +kernel
theorem d16_16 : decode jdk_52_method_16_code 16 = .ok (.iload_n 2, 1) := by decide +kernel
theorem d16_17 : decode jdk_52_method_16_code 17 = .ok (.if_icmp .eq 40, 3) := by decide +kernel
theorem d16_20 : decode jdk_52_method_16_code 20 = .ok (.aload_n 0, 1) := by decide +kernel
theorem d16_21 : decode jdk_52_method_16_code 21 = .ok (.iload_n 1, 1) := by decide +kernel
theorem d16_22 : decode jdk_52_method_16_code 22 = .ok (.iload_n 2, 1) := by decide +kernel
theorem d16_23 : decode jdk_52_method_16_code 23 = .ok (.invokestatic 119, 3) := by decide +kernel
theorem d16_26 : decode jdk_52_method_16_code 26 = .ok (.astore 5, 2) := by decide +kernel
theorem d16_28 : decode jdk_52_method_16_code 28 = .ok (.aload 5, 2) := by decide +kernel
theorem d16_30 : decode jdk_52_method_16_code 30 = .ok (.iload 4, 2) := by decide +kernel
theorem d16_32 : decode jdk_52_method_16_code 32 = .ok (.invokestatic 71, 3) := by decide +kernel
theorem d16_35 : decode jdk_52_method_16_code 35 = .ok (.sipush 255, 3) := by decide +kernel
theorem d16_38 : decode jdk_52_method_16_code 38 = .ok (.if_icmp .gt 16, 3) := by decide +kernel
theorem d16_54 : decode jdk_52_method_16_code 54 = .ok (.aload 5, 2) := by decide +kernel
theorem d16_56 : decode jdk_52_method_16_code 56 = .ok (.areturn, 1) := by decide +kernel
theorem d16_57 : decode jdk_52_method_16_code 57 = .ok (.aload_n 3, 1) := by decide +kernel
theorem d16_58 : decode jdk_52_method_16_code 58 = .ok (.areturn, 1) := by decide +kernel
theorem d17_0 : decode jdk_52_method_21_code 0 = .ok (.iconst 0, 1) := by decide +kernel
theorem d17_1 : decode jdk_52_method_21_code 1 = .ok (.istore 5, 2) := by decide +kernel
theorem d17_3 : decode jdk_52_method_21_code 3 = .ok (.iload 5, 2) := by decide +kernel
theorem d17_5 : decode jdk_52_method_21_code 5 = .ok (.iload 4, 2) := by decide +kernel
theorem d17_7 : decode jdk_52_method_21_code 7 = .ok (.if_icmp .ge 37, 3) := by decide +kernel
theorem d17_10 : decode jdk_52_method_21_code 10 = .ok (.aload_n 0, 1) := by decide +kernel
theorem d17_11 : decode jdk_52_method_21_code 11 = .ok (.iload_n 1, 1) := by decide +kernel
theorem d17_12 : decode jdk_52_method_21_code 12 = .ok (.caload, 1) := by decide +kernel
theorem d17_13 : decode jdk_52_method_21_code 13 = .ok (.istore 6, 2) := by decide +kernel
theorem d17_15 : decode jdk_52_method_21_code 15 = .ok (.iload 6, 2) := by decide +kernel
theorem d17_17 : decode jdk_52_method_21_code 17 = .ok (.sipush 255, 3) := by decide +kernel
theorem d17_20 : decode jdk_52_method_21_code 20 = .ok (.if_icmp .le 6, 3) := by decide +kernel
theorem d17_23 : decode jdk_52_method_21_code 23 = .ok (.iload 5, 2) := by decide +kernel
theorem d17_25 : decode jdk_52_method_21_code 25 = .ok (.ireturn, 1) := by decide +kernel
theorem d17_26 : decode jdk_52_method_21_code 26 = .ok (.aload_n 2, 1) := by decide +kernel
theorem d17_27 : decode jdk_52_method_21_code 27 = .ok (.iload_n 3, 1) := by decide +kernel
theorem d17_28 : decode jdk_52_method_21_code 28 = .ok (.iload 6, 2) := by decide +kernel
theorem d17_30 : decode jdk_52_method_21_code 30 = .ok (.i2b, 1) := by decide +kernel
theorem d17_31 : decode jdk_52_method_21_code 31 = .ok (.bastore, 1) := by decide +kernel
theorem d17_32 : decode jdk_52_method_21_code 32 = .ok (.iinc 1 1, 3) := by decide +kernel
theorem d17_35 : decode jdk_52_method_21_code 35 = .ok (.iinc 3 1, 3) := by decide +kernel
theorem d17_38 : decode jdk_52_method_21_code 38 = .ok (.iinc 5 1, 3) := by decide +kernel
theorem d17_41 : decode jdk_52_method_21_code 41 = .ok (.goto (-38), 3) := by decide +kernel
theorem d17_44 : decode jdk_52_method_21_code 44 = .ok (.iload 4, 2) := by decide +kernel
theorem d17_46 : decode jdk_52_method_21_code 46 = .ok (.ireturn, 1) := by decide +kernel
theorem d18_0 : decode jdk_52_method_15_code 0 = .ok (.iload_n 1, 1) := by decide +kernel
theorem d18_1 : decode jdk_52_method_15_code 1 = .ok (.aload_n 0, 1) := by decide +kernel
theorem d18_2 : decode jdk_52_method_15_code 2 = .ok (.arraylength, 1) := by decide +kernel
theorem d18_3 : decode jdk_52_method_15_code 3 = .ok (.isub, 1) := by decide +kernel
theorem d18_4 : decode jdk_52_method_15_code 4 = .ok (.bipush 31, 2) := by decide +kernel
theorem d18_6 : decode jdk_52_method_15_code 6 = .ok (.iushr, 1) := by decide +kernel
theorem d18_7 : decode jdk_52_method_15_code 7 = .ok (.i2b, 1) := by decide +kernel
theorem d18_8 : decode jdk_52_method_15_code 8 = .ok (.ireturn, 1) := by decide +kernel
theorem d19_0 : decode jdk_43_method_23_code 0 = .ok (.iload_n 1, 1) := by decide +kernel
theorem d19_1 : decode jdk_43_method_23_code 1 = .ok (.i2b, 1) := by decide +kernel
theorem d19_2 : decode jdk_43_method_23_code 2 = .ok (.istore 4, 2) := by decide +kernel
theorem d19_4 : decode jdk_43_method_23_code 4 = .ok (.iload_n 2, 1) := by decide +kernel
theorem d19_5 : decode jdk_43_method_23_code 5 = .ok (.istore 5, 2) := by decide +kernel
theorem d19_7 : decode jdk_43_method_23_code 7 = .ok (.iload 5, 2) := by decide +kernel
theorem d19_9 : decode jdk_43_method_23_code 9 = .ok (.iload_n 3, 1) := by decide +kernel
theorem d19_10 : decode jdk_43_method_23_code 10 = .ok (.if_icmp .ge 21, 3) := by decide +kernel
theorem d19_13 : decode jdk_43_method_23_code 13 = .ok (.aload_n 0, 1) := by decide +kernel
theorem d19_14 : decode jdk_43_method_23_code 14 = .ok (.iload 5, 2) := by decide +kernel
theorem d19_16 : decode jdk_43_method_23_code 16 = .ok (.baload, 1) := by decide +kernel
theorem d19_17 : decode jdk_43_method_23_code 17 = .ok (.iload 4, 2) := by decide +kernel
theorem d19_19 : decode jdk_43_method_23_code 19 = .ok (.if_icmp .ne 6, 3) := by decide +kernel
theorem d19_22 : decode jdk_43_method_23_code 22 = .ok (.iload 5, 2) := by decide +kernel
theorem d19_24 : decode jdk_43_method_23_code 24 = .ok (.ireturn, 1) := by decide +kernel
theorem d19_25 : decode jdk_43_method_23_code 25 = .ok (.iinc 5 1, 3) := by decide +kernel
theorem d19_28 : decode jdk_43_method_23_code 28 = .ok (.goto (-21), 3) := by decide +kernel
theorem d19_31 : decode jdk_43_method_23_code 31 = .ok (.iconst (-1), 1) := by decide +kernel
theorem d19_32 : decode jdk_43_method_23_code 32 = .ok (.ireturn, 1) := by decide +kernel
theorem d20_0 : decode jdk_52_method_14_code 0 = .ok (.iload_n 2, 1) := by decide +kernel
theorem d20_1 : decode jdk_52_method_14_code 1 = .ok (.invokestatic 107, 3) := by decide +kernel
theorem d20_4 : decode jdk_52_method_14_code 4 = .ok (.astore_n 3, 1) := by decide +kernel
theorem d20_5 : decode jdk_52_method_14_code 5 = .ok (.iconst 0, 1) := by decide +kernel
theorem d20_6 : decode jdk_52_method_14_code 6 = .ok (.istore 4, 2) := by decide +kernel
theorem d20_8 : decode jdk_52_method_14_code 8 = .ok (.iload 4, 2) := by decide +kernel
theorem d20_10 : decode jdk_52_method_14_code 10 = .ok (.iload_n 2, 1) := by decide +kernel
theorem d20_11 : decode jdk_52_method_14_code 11 = .ok (.if_icmp .ge 21, 3) := by decide +kernel
theorem d20_14 : decode jdk_52_method_14_code 14 = .ok (.aload_n 3, 1) := by decide +kernel
theorem d20_15 : decode jdk_52_method_14_code 15 = .ok (.iload 4, 2) := by decide +kernel
theorem d20_17 : decode jdk_52_method_14_code 17 = .ok (.aload_n 0, 1) := by decide +kernel
theorem d20_18 : decode jdk_52_method_14_code 18 = .ok (.iload_n 1, 1) := by decide +kernel
theorem d20_19 : decode jdk_52_method_14_code 19 = .ok (.caload, 1) := by decide +kernel
theorem d20_20 : decode jdk_52_method_14_code 20 = .ok (.invokestatic 111, 3) := by decide +kernel
theorem d20_23 : decode jdk_52_method_14_code 23 = .ok (.iinc 1 1, 3) := by decide +kernel
theorem d20_26 : decode jdk_52_method_14_code 26 = .ok (.iinc 4 1, 3) := by decide +kernel
theorem d20_29 : decode jdk_52_method_14_code 29 = .ok (.goto (-21), 3) := by decide +kernel
theorem d20_32 : decode jdk_52_method_14_code 32 = .ok (.aload_n 3, 1) := by decide +kernel
theorem d20_33 : decode jdk_52_method_14_code 33 = .ok (.areturn, 1) := by decide +kernel
theorem d21_0 : decode jdk_52_method_2_code 0 = .ok (.iload_n 0, 1) := by decide +kernel
theorem d21_1 : decode jdk_52_method_2_code 1 = .ok (.invokestatic 11, 3) := by decide +kernel
theorem d21_4 : decode jdk_52_method_2_code 4 = .ok (.newarray .byte, 2) := by decide +kernel
theorem d21_6 : decode jdk_52_method_2_code 6 = .ok (.areturn, 1) := by decide +kernel
theorem d22_0 : decode jdk_52_method_3_code 0 = .ok (.iload_n 0, 1) := by decide +kernel
theorem d22_1 : decode jdk_52_method_3_code 1 = .ok (.ifCond .ge 11, 3) := by decide +kernel
theorem d22_12 : decode jdk_52_method_3_code 12 = .ok (.iload_n 0, 1) := by decide +kernel
theorem d22_13 : decode jdk_52_method_3_code 13 = .ok (.ldc 20, 2) := by decide +kernel
theorem d22_15 : decode jdk_52_method_3_code 15 = .ok (.if_icmp .lt 40, 3) := by decide +kernel
theorem d22_55 : decode jdk_52_method_3_code 55 = .ok (.iload_n 0, 1) := by decide +kernel
theorem d22_56 : decode jdk_52_method_3_code 56 = .ok (.iconst 1, 1) := by decide +kernel
theorem d22_57 : decode jdk_52_method_3_code 57 = .ok (.ishl, 1) := by decide +kernel
theorem d22_58 : decode jdk_52_method_3_code 58 = .ok (.ireturn, 1) := by decide +kernel
theorem d23_0 : decode jdk_52_method_4_code 0 = .ok (.getstatic 44, 3) := by decide +kernel
theorem d23_3 : decode jdk_52_method_4_code 3 = .ok (.ifCond .ne 25, 3) := by decide +kernel
theorem d23_28 : decode jdk_52_method_4_code 28 = .ok (.iload_n 1, 1) := by decide +kernel
theorem d23_29 : decode jdk_52_method_4_code 29 = .ok (.iconst 1, 1) := by decide +kernel
theorem d23_30 : decode jdk_52_method_4_code 30 = .ok (.ishl, 1) := by decide +kernel
theorem d23_31 : decode jdk_52_method_4_code 31 = .ok (.istore_n 1, 1) := by decide +kernel
theorem d23_32 : decode jdk_52_method_4_code 32 = .ok (.aload_n 0, 1) := by decide +kernel
theorem d23_33 : decode jdk_52_method_4_code 33 = .ok (.iload_n 1, 1) := by decide +kernel
theorem d23_34 : decode jdk_52_method_4_code 34 = .ok (.iinc 1 1, 3) := by decide +kernel
theorem d23_37 : decode jdk_52_method_4_code 37 = .ok (.iload_n 2, 1) := by decide +kernel
theorem d23_38 : decode jdk_52_method_4_code 38 = .ok (.getstatic 59, 3) := by decide +kernel
theorem d23_41 : decode jdk_52_method_4_code 41 = .ok (.ishr, 1) := by decide +kernel
theorem d23_42 : decode jdk_52_method_4_code 42 = .ok (.i2b, 1) := by decide +kernel
theorem d23_43 : decode jdk_52_method_4_code 43 = .ok (.bastore, 1) := by decide +kernel
theorem d23_44 : decode jdk_52_method_4_code 44 = .ok (.aload_n 0, 1) := by decide +kernel
theorem d23_45 : decode jdk_52_method_4_code 45 = .ok (.iload_n 1, 1) := by decide +kernel
theorem d23_46 : decode jdk_52_method_4_code 46 = .ok (.iload_n 2, 1) := by decide +kernel
theorem d23_47 : decode jdk_52_method_4_code 47 = .ok (.getstatic 63, 3) := by decide +kernel
theorem d23_50 : decode jdk_52_method_4_code 50 = .ok (.ishr, 1) := by decide +kernel
theorem d23_51 : decode jdk_52_method_4_code 51 = .ok (.i2b, 1) := by decide +kernel
theorem d23_52 : decode jdk_52_method_4_code 52 = .ok (.bastore, 1) := by decide +kernel
theorem d23_53 : decode jdk_52_method_4_code 53 = .ok (.return_, 1) := by decide +kernel
theorem d24_0 : decode jdk_52_method_5_code 0 = .ok (.getstatic 44, 3) := by decide +kernel
theorem d24_3 : decode jdk_52_method_5_code 3 = .ok (.ifCond .ne 25, 3) := by decide +kernel
theorem d24_28 : decode jdk_52_method_5_code 28 = .ok (.iload_n 1, 1) := by decide +kernel
theorem d24_29 : decode jdk_52_method_5_code 29 = .ok (.iconst 1, 1) := by decide +kernel
theorem d24_30 : decode jdk_52_method_5_code 30 = .ok (.ishl, 1) := by decide +kernel
theorem d24_31 : decode jdk_52_method_5_code 31 = .ok (.istore_n 1, 1) := by decide +kernel
theorem d24_32 : decode jdk_52_method_5_code 32 = .ok (.aload_n 0, 1) := by decide +kernel
theorem d24_33 : decode jdk_52_method_5_code 33 = .ok (.iload_n 1, 1) := by decide +kernel
theorem d24_34 : decode jdk_52_method_5_code 34 = .ok (.iinc 1 1, 3) := by decide +kernel
theorem d24_37 : decode jdk_52_method_5_code 37 = .ok (.baload, 1) := by decide +kernel
theorem d24_38 : decode jdk_52_method_5_code 38 = .ok (.sipush 255, 3) := by decide +kernel
theorem d24_41 : decode jdk_52_method_5_code 41 = .ok (.iand, 1) := by decide +kernel
theorem d24_42 : decode jdk_52_method_5_code 42 = .ok (.getstatic 59, 3) := by decide +kernel
theorem d24_45 : decode jdk_52_method_5_code 45 = .ok (.ishl, 1) := by decide +kernel
theorem d24_46 : decode jdk_52_method_5_code 46 = .ok (.aload_n 0, 1) := by decide +kernel
theorem d24_47 : decode jdk_52_method_5_code 47 = .ok (.iload_n 1, 1) := by decide +kernel
theorem d24_48 : decode jdk_52_method_5_code 48 = .ok (.baload, 1) := by decide +kernel
theorem d24_49 : decode jdk_52_method_5_code 49 = .ok (.sipush 255, 3) := by decide +kernel
theorem d24_52 : decode jdk_52_method_5_code 52 = .ok (.iand, 1) := by decide +kernel
theorem d24_53 : decode jdk_52_method_5_code 53 = .ok (.getstatic 63, 3) := by decide +kernel
theorem d24_56 : decode jdk_52_method_5_code 56 = .ok (.ishl, 1) := by decide +kernel
theorem d24_57 : decode jdk_52_method_5_code 57 = .ok (.ior, 1) := by decide +kernel
theorem d24_58 : decode jdk_52_method_5_code 58 = .ok (.i2c, 1) := by decide +kernel
theorem d24_59 : decode jdk_52_method_5_code 59 = .ok (.ireturn, 1) := by decide +kernel
theorem d25_0 : decode jdk_52_method_40_code 0 = .ok (.iload_n 2, 1) := by decide +kernel
theorem d25_1 : decode jdk_52_method_40_code 1 = .ok (.iconst 0, 1) := by decide +kernel
theorem d25_2 : decode jdk_52_method_40_code 2 = .ok (.invokestatic 224, 3) := by decide +kernel
theorem d25_5 : decode jdk_52_method_40_code 5 = .ok (.istore_n 2, 1) := by decide +kernel
theorem d25_6 : decode jdk_52_method_40_code 6 = .ok (.iload_n 3, 1) := by decide +kernel
theorem d25_7 : decode jdk_52_method_40_code 7 = .ok (.aload_n 0, 1) := by decide +kernel
theorem d25_8 : decode jdk_52_method_40_code 8 = .ok (.arraylength, 1) := by decide +kernel
theorem d25_9 : decode jdk_52_method_40_code 9 = .ok (.iconst 1, 1) := by decide +kernel
theorem d25_10 : decode jdk_52_method_40_code 10 = .ok (.ishr, 1) := by decide +kernel
theorem d25_11 : decode jdk_52_method_40_code 11 = .ok (.invokestatic 183, 3) := by decide +kernel
theorem d25_14 : decode jdk_52_method_40_code 14 = .ok (.istore_n 3, 1) := by decide +kernel
theorem d25_15 : decode jdk_52_method_40_code 15 = .ok (.iload_n 2, 1) := by decide +kernel
theorem d25_16 : decode jdk_52_method_40_code 16 = .ok (.iload_n 3, 1) := by decide +kernel
theorem d25_17 : decode jdk_52_method_40_code 17 = .ok (.if_icmp .lt 5, 3) := by decide +kernel
theorem d25_22 : decode jdk_52_method_40_code 22 = .ok (.iload_n 1, 1) := by decide +kernel
theorem d25_23 : decode jdk_52_method_40_code 23 = .ok (.ldc 227, 2) := by decide +kernel
theorem d25_25 : decode jdk_52_method_40_code 25 = .ok (.if_icmp .ge 11, 3) := by decide +kernel
theorem d25_28 : decode jdk_52_method_40_code 28 = .ok (.aload_n 0, 1) := by decide +kernel
theorem d25_29 : decode jdk_52_method_40_code 29 = .ok (.iload_n 1, 1) := by decide +kernel
theorem d25_30 : decode jdk_52_method_40_code 30 = .ok (.iload_n 2, 1) := by decide +kernel
theorem d25_31 : decode jdk_52_method_40_code 31 = .ok (.iload_n 3, 1) := by decide +kernel
theorem d25_32 : decode jdk_52_method_40_code 32 = .ok (.invokestatic 228, 3) := by decide +kernel
theorem d25_35 : decode jdk_52_method_40_code 35 = .ok (.ireturn, 1) := by decide +kernel
theorem d26_0 : decode jdk_52_method_47_code 0 = .ok (.iload_n 2, 1) := by decide +kernel
theorem d26_1 : decode jdk_52_method_47_code 1 = .ok (.iload_n 3, 1) := by decide +kernel
theorem d26_2 : decode jdk_52_method_47_code 2 = .ok (.aload_n 0, 1) := by decide +kernel
theorem d26_3 : decode jdk_52_method_47_code 3 = .ok (.invokestatic 96, 3) := by decide +kernel
theorem d26_6 : decode jdk_52_method_47_code 6 = .ok (.aload_n 0, 1) := by decide +kernel
theorem d26_7 : decode jdk_52_method_47_code 7 = .ok (.iload_n 1, 1) := by decide +kernel
theorem d26_8 : decode jdk_52_method_47_code 8 = .ok (.iload_n 2, 1) := by decide +kernel
theorem d26_9 : decode jdk_52_method_47_code 9 = .ok (.iload_n 3, 1) := by decide +kernel
theorem d26_10 : decode jdk_52_method_47_code 10 = .ok (.invokestatic 244, 3) := by decide +kernel
theorem d26_13 : decode jdk_52_method_47_code 13 = .ok (.ireturn, 1) := by decide +kernel
theorem d27_0 : decode jdk_52_method_93_code 0 = .ok (.iload_n 0, 1) := by decide +kernel
theorem d27_1 : decode jdk_52_method_93_code 1 = .ok (.iload_n 1, 1) := by decide +kernel
theorem d27_2 : decode jdk_52_method_93_code 2 = .ok (.aload_n 2, 1) := by decide +kernel
theorem d27_3 : decode jdk_52_method_93_code 3 = .ok (.invokestatic 48, 3) := by decide +kernel
theorem d27_6 : decode jdk_52_method_93_code 6 = .ok (.invokestatic 241, 3) := by decide +kernel
theorem d27_9 : decode jdk_52_method_93_code 9 = .ok (.return_, 1) := by decide +kernel
theorem d28_0 : decode jdk_52_method_6_code 0 = .ok (.aload_n 0, 1) := by decide +kernel
theorem d28_1 : decode jdk_52_method_6_code 1 = .ok (.arraylength, 1) := by decide +kernel
theorem d28_2 : decode jdk_52_method_6_code 2 = .ok (.iconst 1, 1) := by decide +kernel
theorem d28_3 : decode jdk_52_method_6_code 3 = .ok (.ishr, 1) := by decide +kernel
theorem d28_4 : decode jdk_52_method_6_code 4 = .ok (.ireturn, 1) := by decide +kernel
theorem d29_0 : decode jdk_42_method_158_code 0 = .ok (.iload_n 0, 1) := by decide +kernel
theorem d29_1 : decode jdk_42_method_158_code 1 = .ok (.iload_n 1, 1) := by decide +kernel
theorem d29_2 : decode jdk_42_method_158_code 2 = .ok (.iload_n 2, 1) := by decide +kernel
theorem d29_3 : decode jdk_42_method_158_code 3 = .ok (.getstatic 1053, 3) := by decide +kernel
theorem d29_6 : decode jdk_42_method_158_code 6 = .ok (.invokestatic 1062, 3) := by decide +kernel
theorem d29_9 : decode jdk_42_method_158_code 9 = .ok (.pop, 1) := by decide +kernel
theorem d29_10 : decode jdk_42_method_158_code 10 = .ok (.return_, 1) := by decide +kernel
theorem d30_0 : decode jdk_41_method_12_code 0 = .ok (.iload_n 0, 1) := by decide +kernel
theorem d30_1 : decode jdk_41_method_12_code 1 = .ok (.ifCond .lt 13, 3) := by decide +kernel
theorem d30_4 : decode jdk_41_method_12_code 4 = .ok (.iload_n 0, 1) := by decide +kernel
theorem d30_5 : decode jdk_41_method_12_code 5 = .ok (.iload_n 1, 1) := by decide +kernel
theorem d30_6 : decode jdk_41_method_12_code 6 = .ok (.if_icmp .gt 8, 3) := by decide +kernel
theorem d30_9 : decode jdk_41_method_12_code 9 = .ok (.iload_n 1, 1) := by decide +kernel
theorem d30_10 : decode jdk_41_method_12_code 10 = .ok (.iload_n 2, 1) := by decide +kernel
theorem d30_11 : decode jdk_41_method_12_code 11 = .ok (.if_icmp .le 11, 3) := by decide +kernel
theorem d30_22 : decode jdk_41_method_12_code 22 = .ok (.iload_n 0, 1) := by decide +kernel
theorem d30_23 : decode jdk_41_method_12_code 23 = .ok (.ireturn, 1) := by decide +kernel
theorem d31_0 : decode jdk_52_method_48_code 0 = .ok (.iload_n 2, 1) := by decide +kernel
theorem d31_1 : decode jdk_52_method_48_code 1 = .ok (.istore 4, 2) := by decide +kernel
theorem d31_3 : decode jdk_52_method_48_code 3 = .ok (.iload 4, 2) := by decide +kernel
theorem d31_5 : decode jdk_52_method_48_code 5 = .ok (.iload_n 3, 1) := by decide +kernel
theorem d31_6 : decode jdk_52_method_48_code 6 = .ok (.if_icmp .ge 22, 3) := by decide +kernel
theorem d31_9 : decode jdk_52_method_48_code 9 = .ok (.aload_n 0, 1) := by decide +kernel
theorem d31_10 : decode jdk_52_method_48_code 10 = .ok (.iload 4, 2) := by decide +kernel
theorem d31_12 : decode jdk_52_method_48_code 12 = .ok (.invokestatic 71, 3) := by decide +kernel
theorem d31_15 : decode jdk_52_method_48_code 15 = .ok (.iload_n 1, 1) := by decide +kernel
theorem d31_16 : decode jdk_52_method_48_code 16 = .ok (.if_icmp .ne 6, 3) := by decide +kernel
theorem d31_19 : decode jdk_52_method_48_code 19 = .ok (.iload 4, 2) := by decide +kernel
theorem d31_21 : decode jdk_52_method_48_code 21 = .ok (.ireturn, 1) := by decide +kernel
theorem d31_22 : decode jdk_52_method_48_code 22 = .ok (.iinc 4 1, 3) := by decide +kernel
theorem d31_25 : decode jdk_52_method_48_code 25 = .ok (.goto (-22), 3) := by decide +kernel
theorem d31_28 : decode jdk_52_method_48_code 28 = .ok (.iconst (-1), 1) := by decide +kernel
theorem d31_29 : decode jdk_52_method_48_code 29 = .ok (.ireturn, 1) := by decide +kernel
def K0 : BT := [(0, .iload_n 0, 1), (3, .iand, 1), (4, .iconst 5, 1), (6, .istore 5, 2), (8, .iload_n 1, 1), (12, .istore 6, 2), (14, .iload_n 2, 1), (18, .istore 7, 2), (20, .iload_n 3, 1), (24, .istore 8, 2), (26, .iload 4, 2), (31, .istore 9, 2), (33, .iload 5, 2), (35, .iload 6, 2), (37, .iload 7, 2), (39, .iload 8, 2), (41, .iload 9, 2), (46, .astore 10, 2), (48, .iload 5, 2), (50, .ifCond .le 10, 3), (53, .iload 6, 2), (55, .bipush 42, 2), (57, .if_icmp .eq 42, 3), (60, .iload 5, 2), (62, .iconst 1, 1), (63, .if_icmp .le 10, 3), (66, .iload 7, 2), (68, .bipush 42, 2), (70, .if_icmp .eq 29, 3), (73, .iload 5, 2), (75, .iconst 2, 1), (76, .if_icmp .le 10, 3), (79, .iload 8, 2), (81, .bipush 42, 2), (83, .if_icmp .eq 16, 3), (86, .iload 5, 2), (88, .iconst 3, 1), (89, .if_icmp .le 14, 3), (92, .iload 9, 2), (94, .bipush 42, 2), (96, .if_icmp .ne 7, 3), (99, .iconst 1, 1), (100, .goto 4, 3), (103, .iconst 0, 1), (104, .istore 11, 2), (106, .aload 10, 2), (111, .iload 11, 2), (113, .if_icmp .ne 7, 3), (116, .iconst 1, 1), (117, .goto 4, 3), (120, .iconst 0, 1)]
theorem tb0 : Tab code K0 := ai at_0 (ai at_3 (ai at_4 (ai at_6 (ai at_8 (ai at_12 (ai at_14 (ai at_18 (ai at_20 (ai at_24 (ai at_26 (ai at_31 (ai at_33 (ai at_35 (ai at_37 (ai at_39 (ai at_41 (ai at_46 (ai at_48 (ai at_50 (ai at_53 (ai at_55 (ai at_57 (ai at_60 (ai at_62 (ai at_63 (ai at_66 (ai at_68 (ai at_70 (ai at_73 (ai at_75 (ai at_76 (ai at_79 (ai at_81 (ai at_83 (ai at_86 (ai at_88 (ai at_89 (ai at_92 (ai at_94 (ai at_96 (ai at_99 (ai at_100 (ai at_103 (ai at_104 (ai at_106 (ai at_111 (ai at_113 (ai at_116 (ai at_117 (ai at_120 trivial))))))))))))))))))))))))))))))))))))))))))))))))))
def K1 : BT := [(0, .iload_n 0, 1), (1, .bipush 16, 2), (3, .iushr, 1), (4, .iconst 3, 1), (5, .iand, 1), (6, .ifCond .ne 8, 3), (9, .bipush 42, 2), (11, .goto 8, 3), (14, .iload_n 0, 1), (17, .iand, 1), (18, .i2c, 1)]
theorem tb1 : Tab method_2_code K1 := ai d1_0 (ai d1_1 (ai d1_3 (ai d1_4 (ai d1_5 (ai d1_6 (ai d1_9 (ai d1_11 (ai d1_14 (ai d1_17 (ai d1_18 trivial))))))))))
def K2 : BT := [(0, .iload_n 0, 1), (1, .ifCond .ne 14, 3), (7, .dup, 1), (8, .iconst 0, 1), (15, .iload_n 0, 1), (16, .iconst 1, 1), (17, .if_icmp .ne 18, 3), (23, .dup, 1), (24, .iconst 1, 1), (27, .dup, 1), (28, .iconst 0, 1), (29, .iload_n 1, 1), (35, .iload_n 0, 1), (36, .iconst 2, 1), (37, .if_icmp .ne 22, 3), (43, .dup, 1), (44, .iconst 2, 1), (47, .dup, 1), (48, .iconst 0, 1), (49, .iload_n 1, 1), (51, .dup, 1), (52, .iconst 1, 1), (53, .iload_n 2, 1), (59, .iload_n 0, 1), (60, .iconst 3, 1), (61, .if_icmp .ne 26, 3), (67, .dup, 1), (68, .iconst 3, 1), (71, .dup, 1), (72, .iconst 0, 1), (73, .iload_n 1, 1), (75, .dup, 1), (76, .iconst 1, 1), (77, .iload_n 2, 1), (79, .dup, 1), (80, .iconst 2, 1), (81, .iload_n 3, 1), (90, .dup, 1), (91, .iconst 4, 1), (94, .dup, 1), (95, .iconst 0, 1), (96, .iload_n 1, 1), (98, .dup, 1), (99, .iconst 1, 1), (100, .iload_n 2, 1), (102, .dup, 1), (103, .iconst 2, 1), (104, .iload_n 3, 1), (106, .dup, 1), (107, .iconst 3, 1), (108, .iload 4, 2)]
theorem tb2 : Tab method_3_code K2 := ai d2_0 (ai d2_1 (ai d2_7 (ai d2_8 (ai d2_15 (ai d2_16 (ai d2_17 (ai d2_23 (ai d2_24 (ai d2_27 (ai d2_28 (ai d2_29 (ai d2_35 (ai d2_36 (ai d2_37 (ai d2_43 (ai d2_44 (ai d2_47 (ai d2_48 (ai d2_49 (ai d2_51 (ai d2_52 (ai d2_53 (ai d2_59 (ai d2_60 (ai d2_61 (ai d2_67 (ai d2_68 (ai d2_71 (ai d2_72 (ai d2_73 (ai d2_75 (ai d2_76 (ai d2_77 (ai d2_79 (ai d2_80 (ai d2_81 (ai d2_90 (ai d2_91 (ai d2_94 (ai d2_95 (ai d2_96 (ai d2_98 (ai d2_99 (ai d2_100 (ai d2_102 (ai d2_103 (ai d2_104 (ai d2_106 (ai d2_107 (ai d2_108 trivial))))))))))))))))))))))))))))))))))))))))))))))))))
def K3 : BT := [(0, .aload_n 0, 1), (1, .aload_n 1, 1), (2, .iconst 0, 1), (3, .aload_n 1, 1), (4, .arraylength, 1), (5, .aconst_null, 1)]
theorem tb3 : Tab jdk_42_method_3_code K3 := ai d3_0 (ai d3_1 (ai d3_2 (ai d3_3 (ai d3_4 (ai d3_5 trivial)))))
def K4 : BT := [(0, .aload_n 0, 1), (4, .iload_n 3, 1), (5, .ifCond .ne 22, 3), (8, .aload_n 0, 1), (17, .aload_n 0, 1), (30, .ifCond .eq 28, 3), (33, .aload_n 1, 1), (34, .iload_n 2, 1), (35, .iload_n 3, 1), (39, .astore 5, 2), (41, .aload_n 0, 1), (42, .aload 5, 2), (44, .iload_n 3, 1), (51, .aload_n 0, 1), (52, .aload 5, 2)]
theorem tb4 : Tab jdk_42_method_149_code K4 := ai d4_0 (ai d4_4 (ai d4_5 (ai d4_8 (ai d4_17 (ai d4_30 (ai d4_33 (ai d4_34 (ai d4_35 (ai d4_39 (ai d4_41 (ai d4_42 (ai d4_44 (ai d4_51 (ai d4_52 trivial))))))))))))))
def K6 : BT := [(0, .aload_n 0, 1), (1, .bipush 42, 2), (6, .ifCond .lt 7, 3), (9, .iconst 1, 1), (10, .goto 4, 3), (13, .iconst 0, 1)]
theorem tb6 : Tab prog_24_method_2_code K6 := ai d6_0 (ai d6_1 (ai d6_6 (ai d6_9 (ai d6_10 (ai d6_13 trivial)))))
def K7 : BT := [(0, .aload_n 0, 1), (1, .iload_n 1, 1), (2, .iconst 0, 1)]
theorem tb7 : Tab jdk_42_method_79_code K7 := ai d7_0 (ai d7_1 (ai d7_2 trivial))
def K8 : BT := [(0, .aload_n 0, 1), (4, .ifCond .eq 19, 3), (7, .aload_n 0, 1), (11, .iload_n 1, 1), (12, .iload_n 2, 1), (13, .aload_n 0, 1), (20, .goto 16, 3), (23, .aload_n 0, 1), (27, .iload_n 1, 1), (28, .iload_n 2, 1), (29, .aload_n 0, 1)]
theorem tb8 : Tab jdk_42_method_80_code K8 := ai d8_0 (ai d8_4 (ai d8_7 (ai d8_11 (ai d8_12 (ai d8_13 (ai d8_20 (ai d8_23 (ai d8_27 (ai d8_28 (ai d8_29 trivial))))))))))
def K9 : BT := [(3, .ifCond .eq 14, 3), (6, .aload_n 0, 1), (10, .ifCond .ne 7, 3), (13, .iconst 1, 1), (14, .goto 4, 3), (17, .iconst 0, 1)]
theorem tb9 : Tab jdk_42_method_154_code K9 := ai d9_3 (ai d9_6 (ai d9_10 (ai d9_13 (ai d9_14 (ai d9_17 trivial)))))
def K10 : BT := [(0, .aload_n 0, 1), (4, .arraylength, 1), (5, .aload_n 0, 1), (9, .ishr, 1)]
theorem tb10 : Tab jdk_42_method_54_code K10 := ai d10_0 (ai d10_4 (ai d10_5 (ai d10_9 trivial)))
def K11 : BT := [(3, .ifCond .eq 10, 3), (6, .aload_n 0, 1), (10, .goto 4, 3)]
theorem tb11 : Tab jdk_42_method_152_code K11 := ai d11_3 (ai d11_6 (ai d11_10 trivial))
def K12 : BT := [(0, .iload_n 1, 1), (4, .ifCond .ne 5, 3), (9, .iload_n 2, 1), (10, .iconst 0, 1), (14, .istore_n 2, 1), (15, .iload_n 3, 1), (16, .aload_n 0, 1), (17, .arraylength, 1), (21, .istore_n 3, 1), (22, .iload_n 2, 1), (23, .iload_n 3, 1), (24, .if_icmp .lt 5, 3), (27, .iconst (-1), 1), (29, .aload_n 0, 1), (30, .iload_n 1, 1), (31, .iload_n 2, 1), (32, .iload_n 3, 1)]
theorem tb12 : Tab jdk_43_method_22_code K12 := ai d12_0 (ai d12_4 (ai d12_9 (ai d12_10 (ai d12_14 (ai d12_15 (ai d12_16 (ai d12_17 (ai d12_21 (ai d12_22 (ai d12_23 (ai d12_24 (ai d12_27 (ai d12_29 (ai d12_30 (ai d12_31 (ai d12_32 trivial))))))))))))))))
def K13 : BT := [(0, .iload_n 0, 1), (1, .ifCond .lt 14, 3), (4, .iload_n 0, 1), (5, .sipush 255, 3), (8, .if_icmp .gt 7, 3), (11, .iconst 1, 1), (12, .goto 4, 3)]
theorem tb13 : Tab jdk_43_method_4_code K13 := ai d13_0 (ai d13_1 (ai d13_4 (ai d13_5 (ai d13_8 (ai d13_11 (ai d13_12 trivial))))))
def K14 : BT := [(0, .iload_n 0, 1), (1, .iload_n 1, 1), (2, .if_icmp .lt 7, 3), (5, .iload_n 0, 1), (6, .goto 4, 3)]
theorem tb14 : Tab jdk_29_method_65_code K14 := ai d14_0 (ai d14_1 (ai d14_2 (ai d14_5 (ai d14_6 trivial))))
def K15 : BT := [(0, .iload_n 0, 1), (1, .iload_n 1, 1), (2, .if_icmp .gt 7, 3), (5, .iload_n 0, 1), (6, .goto 4, 3)]
theorem tb15 : Tab jdk_29_method_69_code K15 := ai d15_0 (ai d15_1 (ai d15_2 (ai d15_5 (ai d15_6 trivial))))
def K16 : BT := [(0, .iload_n 2, 1), (3, .astore_n 3, 1), (4, .aload_n 0, 1), (5, .iload_n 1, 1), (6, .aload_n 3, 1), (7, .iconst 0, 1), (8, .iload_n 2, 1), (12, .istore 4, 2), (14, .iload 4, 2), (16, .iload_n 2, 1), (17, .if_icmp .eq 40, 3), (20, .aload_n 0, 1), (21, .iload_n 1, 1), (22, .iload_n 2, 1), (26, .astore 5, 2), (28, .aload 5, 2), (30, .iload 4, 2), (35, .sipush 255, 3), (38, .if_icmp .gt 16, 3), (54, .aload 5, 2), (57, .aload_n 3, 1)]
theorem tb16 : Tab jdk_52_method_16_code K16 := ai d16_0 (ai d16_3 (ai d16_4 (ai d16_5 (ai d16_6 (ai d16_7 (ai d16_8 (ai d16_12 (ai d16_14 (ai d16_16 (ai d16_17 (ai d16_20 (ai d16_21 (ai d16_22 (ai d16_26 (ai d16_28 (ai d16_30 (ai d16_35 (ai d16_38 (ai d16_54 (ai d16_57 trivial))))))))))))))))))))
def K17 : BT := [(0, .iconst 0, 1), (1, .istore 5, 2), (3, .iload 5, 2), (5, .iload 4, 2), (7, .if_icmp .ge 37, 3), (10, .aload_n 0, 1), (11, .iload_n 1, 1), (12, .caload, 1), (13, .istore 6, 2), (15, .iload 6, 2), (17, .sipush 255, 3), (20, .if_icmp .le 6, 3), (23, .iload 5, 2), (26, .aload_n 2, 1), (27, .iload_n 3, 1), (28, .iload 6, 2), (30, .i2b, 1), (32, .iinc 1 1, 3), (35, .iinc 3 1, 3), (38, .iinc 5 1, 3), (41, .goto (-38), 3), (44, .iload 4, 2)]
theorem tb17 : Tab jdk_52_method_21_code K17 := ai d17_0 (ai d17_1 (ai d17_3 (ai d17_5 (ai d17_7 (ai d17_10 (ai d17_11 (ai d17_12 (ai d17_13 (ai d17_15 (ai d17_17 (ai d17_20 (ai d17_23 (ai d17_26 (ai d17_27 (ai d17_28 (ai d17_30 (ai d17_32 (ai d17_35 (ai d17_38 (ai d17_41 (ai d17_44 trivial)))))))))))))))))))))
def K18 : BT := [(0, .iload_n 1, 1), (1, .aload_n 0, 1), (2, .arraylength, 1), (3, .isub, 1), (4, .bipush 31, 2), (6, .iushr, 1), (7, .i2b, 1)]
theorem tb18 : Tab jdk_52_method_15_code K18 := ai d18_0 (ai d18_1 (ai d18_2 (ai d18_3 (ai d18_4 (ai d18_6 (ai d18_7 trivial))))))
def K19 : BT := [(0, .iload_n 1, 1), (1, .i2b, 1), (2, .istore 4, 2), (4, .iload_n 2, 1), (5, .istore 5, 2), (7, .iload 5, 2), (9, .iload_n 3, 1), (10, .if_icmp .ge 21, 3), (13, .aload_n 0, 1), (14, .iload 5, 2), (16, .baload, 1), (17, .iload 4, 2), (19, .if_icmp .ne 6, 3), (22, .iload 5, 2), (25, .iinc 5 1, 3), (28, .goto (-21), 3), (31, .iconst (-1), 1)]
theorem tb19 : Tab jdk_43_method_23_code K19 := ai d19_0 (ai d19_1 (ai d19_2 (ai d19_4 (ai d19_5 (ai d19_7 (ai d19_9 (ai d19_10 (ai d19_13 (ai d19_14 (ai d19_16 (ai d19_17 (ai d19_19 (ai d19_22 (ai d19_25 (ai d19_28 (ai d19_31 trivial))))))))))))))))
def K20 : BT := [(0, .iload_n 2, 1), (4, .astore_n 3, 1), (5, .iconst 0, 1), (6, .istore 4, 2), (8, .iload 4, 2), (10, .iload_n 2, 1), (11, .if_icmp .ge 21, 3), (14, .aload_n 3, 1), (15, .iload 4, 2), (17, .aload_n 0, 1), (18, .iload_n 1, 1), (19, .caload, 1), (23, .iinc 1 1, 3), (26, .iinc 4 1, 3), (29, .goto (-21), 3), (32, .aload_n 3, 1)]
theorem tb20 : Tab jdk_52_method_14_code K20 := ai d20_0 (ai d20_4 (ai d20_5 (ai d20_6 (ai d20_8 (ai d20_10 (ai d20_11 (ai d20_14 (ai d20_15 (ai d20_17 (ai d20_18 (ai d20_19 (ai d20_23 (ai d20_26 (ai d20_29 (ai d20_32 trivial)))))))))))))))
def K21 : BT := [(0, .iload_n 0, 1)]
theorem tb21 : Tab jdk_52_method_2_code K21 := ai d21_0 trivial
def K22 : BT := [(0, .iload_n 0, 1), (1, .ifCond .ge 11, 3), (12, .iload_n 0, 1), (15, .if_icmp .lt 40, 3), (55, .iload_n 0, 1), (56, .iconst 1, 1), (57, .ishl, 1)]
theorem tb22 : Tab jdk_52_method_3_code K22 := ai d22_0 (ai d22_1 (ai d22_12 (ai d22_15 (ai d22_55 (ai d22_56 (ai d22_57 trivial))))))
def K23 : BT := [(3, .ifCond .ne 25, 3), (28, .iload_n 1, 1), (29, .iconst 1, 1), (30, .ishl, 1), (31, .istore_n 1, 1), (32, .aload_n 0, 1), (33, .iload_n 1, 1), (34, .iinc 1 1, 3), (37, .iload_n 2, 1), (41, .ishr, 1), (42, .i2b, 1), (44, .aload_n 0, 1), (45, .iload_n 1, 1), (46, .iload_n 2, 1), (50, .ishr, 1), (51, .i2b, 1)]
theorem tb23 : Tab jdk_52_method_4_code K23 := ai d23_3 (ai d23_28 (ai d23_29 (ai d23_30 (ai d23_31 (ai d23_32 (ai d23_33 (ai d23_34 (ai d23_37 (ai d23_41 (ai d23_42 (ai d23_44 (ai d23_45 (ai d23_46 (ai d23_50 (ai d23_51 trivial)))))))))))))))
def K24 : BT := [(3, .ifCond .ne 25, 3), (28, .iload_n 1, 1), (29, .iconst 1, 1), (30, .ishl, 1), (31, .istore_n 1, 1), (32, .aload_n 0, 1), (33, .iload_n 1, 1), (34, .iinc 1 1, 3), (37, .baload, 1), (38, .sipush 255, 3), (41, .iand, 1), (45, .ishl, 1), (46, .aload_n 0, 1), (47, .iload_n 1, 1), (48, .baload, 1), (49, .sipush 255, 3), (52, .iand, 1), (56, .ishl, 1), (57, .ior, 1), (58, .i2c, 1)]
theorem tb24 : Tab jdk_52_method_5_code K24 := ai d24_3 (ai d24_28 (ai d24_29 (ai d24_30 (ai d24_31 (ai d24_32 (ai d24_33 (ai d24_34 (ai d24_37 (ai d24_38 (ai d24_41 (ai d24_45 (ai d24_46 (ai d24_47 (ai d24_48 (ai d24_49 (ai d24_52 (ai d24_56 (ai d24_57 (ai d24_58 trivial)))))))))))))))))))
def K25 : BT := [(0, .iload_n 2, 1), (1, .iconst 0, 1), (5, .istore_n 2, 1), (6, .iload_n 3, 1), (7, .aload_n 0, 1), (8, .arraylength, 1), (9, .iconst 1, 1), (10, .ishr, 1), (14, .istore_n 3, 1), (15, .iload_n 2, 1), (16, .iload_n 3, 1), (17, .if_icmp .lt 5, 3), (22, .iload_n 1, 1), (25, .if_icmp .ge 11, 3), (28, .aload_n 0, 1), (29, .iload_n 1, 1), (30, .iload_n 2, 1), (31, .iload_n 3, 1)]
theorem tb25 : Tab jdk_52_method_40_code K25 := ai d25_0 (ai d25_1 (ai d25_5 (ai d25_6 (ai d25_7 (ai d25_8 (ai d25_9 (ai d25_10 (ai d25_14 (ai d25_15 (ai d25_16 (ai d25_17 (ai d25_22 (ai d25_25 (ai d25_28 (ai d25_29 (ai d25_30 (ai d25_31 trivial)))))))))))))))))
def K26 : BT := [(0, .iload_n 2, 1), (1, .iload_n 3, 1), (2, .aload_n 0, 1), (6, .aload_n 0, 1), (7, .iload_n 1, 1), (8, .iload_n 2, 1), (9, .iload_n 3, 1)]
theorem tb26 : Tab jdk_52_method_47_code K26 := ai d26_0 (ai d26_1 (ai d26_2 (ai d26_6 (ai d26_7 (ai d26_8 (ai d26_9 trivial))))))
def K27 : BT := [(0, .iload_n 0, 1), (1, .iload_n 1, 1), (2, .aload_n 2, 1)]
theorem tb27 : Tab jdk_52_method_93_code K27 := ai d27_0 (ai d27_1 (ai d27_2 trivial))
def K28 : BT := [(0, .aload_n 0, 1), (1, .arraylength, 1), (2, .iconst 1, 1), (3, .ishr, 1)]
theorem tb28 : Tab jdk_52_method_6_code K28 := ai d28_0 (ai d28_1 (ai d28_2 (ai d28_3 trivial)))
def K29 : BT := [(0, .iload_n 0, 1), (1, .iload_n 1, 1), (2, .iload_n 2, 1), (9, .pop, 1)]
theorem tb29 : Tab jdk_42_method_158_code K29 := ai d29_0 (ai d29_1 (ai d29_2 (ai d29_9 trivial)))
def K30 : BT := [(0, .iload_n 0, 1), (1, .ifCond .lt 13, 3), (4, .iload_n 0, 1), (5, .iload_n 1, 1), (6, .if_icmp .gt 8, 3), (9, .iload_n 1, 1), (10, .iload_n 2, 1), (11, .if_icmp .le 11, 3), (22, .iload_n 0, 1)]
theorem tb30 : Tab jdk_41_method_12_code K30 := ai d30_0 (ai d30_1 (ai d30_4 (ai d30_5 (ai d30_6 (ai d30_9 (ai d30_10 (ai d30_11 (ai d30_22 trivial))))))))
def K31 : BT := [(0, .iload_n 2, 1), (1, .istore 4, 2), (3, .iload 4, 2), (5, .iload_n 3, 1), (6, .if_icmp .ge 22, 3), (9, .aload_n 0, 1), (10, .iload 4, 2), (15, .iload_n 1, 1), (16, .if_icmp .ne 6, 3), (19, .iload 4, 2), (22, .iinc 4 1, 3), (25, .goto (-22), 3), (28, .iconst (-1), 1)]
theorem tb31 : Tab jdk_52_method_48_code K31 := ai d31_0 (ai d31_1 (ai d31_3 (ai d31_5 (ai d31_6 (ai d31_9 (ai d31_10 (ai d31_15 (ai d31_16 (ai d31_19 (ai d31_22 (ai d31_25 (ai d31_28 trivial))))))))))))
theorem pn_0 : plainName "purlin/config/NamePatternIsPatternPinLaw" = true := by first | (simp [plainName, overriddenIn]; done) | decide +kernel
theorem pn_1 : plainName "java/lang/String" = true := by first | (simp [plainName, overriddenIn]; done) | decide +kernel
theorem pn_2 : plainName "java/lang/StringLatin1" = true := by first | (simp [plainName, overriddenIn]; done) | decide +kernel
theorem pn_3 : plainName "purlin/config/NamePattern" = true := by first | (simp [plainName, overriddenIn]; done) | decide +kernel
theorem pn_4 : plainName "java/lang/StringUTF16" = true := by first | (simp [plainName, overriddenIn]; done) | decide +kernel
theorem pn_5 : plainName "jdk/internal/util/Preconditions" = true := by first | (simp [plainName, overriddenIn]; done) | decide +kernel
theorem pd_0 : parseMethodDescriptor "(I)C" = some ⟨[.int], some .char⟩ := by decide +kernel
theorem pd_1 : parseMethodDescriptor "([CIILjava/lang/Void;)V" = some ⟨[(.array .char), .int, .int, (.object "java/lang/Void")], none⟩ := by decide +kernel
theorem pd_2 : parseMethodDescriptor "([C)V" = some ⟨[(.array .char)], none⟩ := by decide +kernel
theorem pd_3 : parseMethodDescriptor "(ICCCC)Ljava/lang/String;" = some ⟨[.int, .char, .char, .char, .char], some (.object "java/lang/String")⟩ := by decide +kernel
theorem pd_4 : parseMethodDescriptor "()Z" = some ⟨[], some .boolean⟩ := by decide +kernel
theorem pd_5 : parseMethodDescriptor "()B" = some ⟨[], some .byte⟩ := by decide +kernel
theorem pd_6 : parseMethodDescriptor "()I" = some ⟨[], some .int⟩ := by decide +kernel
theorem pd_7 : parseMethodDescriptor "(I)Z" = some ⟨[.int], some .boolean⟩ := by decide +kernel
theorem pd_8 : parseMethodDescriptor "(II)I" = some ⟨[.int, .int], some .int⟩ := by decide +kernel
theorem pd_9 : parseMethodDescriptor "([BIII)I" = some ⟨[(.array .byte), .int, .int, .int], some .int⟩ := by decide +kernel
theorem pd_10 : parseMethodDescriptor "(I)I" = some ⟨[.int], some .int⟩ := by decide +kernel
theorem pd_11 : parseMethodDescriptor "(Ljava/lang/String;)Z" = some ⟨[(.object "java/lang/String")], some .boolean⟩ := by decide +kernel
theorem pd_12 : parseMethodDescriptor "([CI[BII)I" = some ⟨[(.array .char), .int, (.array .byte), .int, .int], some .int⟩ := by decide +kernel
theorem pd_13 : parseMethodDescriptor "(I)[B" = some ⟨[.int], some (.array .byte)⟩ := by decide +kernel
theorem pd_14 : parseMethodDescriptor "([BII)V" = some ⟨[(.array .byte), .int, .int], none⟩ := by decide +kernel
theorem pd_15 : parseMethodDescriptor "([CII)[B" = some ⟨[(.array .char), .int, .int], some (.array .byte)⟩ := by decide +kernel
theorem pd_16 : parseMethodDescriptor "([BI)C" = some ⟨[(.array .byte), .int], some .char⟩ := by decide +kernel
theorem pd_17 : parseMethodDescriptor "([BI)B" = some ⟨[(.array .byte), .int], some .byte⟩ := by decide +kernel
theorem pd_18 : parseMethodDescriptor "([B)I" = some ⟨[(.array .byte)], some .int⟩ := by decide +kernel
theorem pd_19 : parseMethodDescriptor "(IIILjava/util/function/BiFunction;)I" = some ⟨[.int, .int, .int, (.object "java/util/function/BiFunction")], some .int⟩ := by decide +kernel
theorem pd_20 : parseMethodDescriptor "(III)V" = some ⟨[.int, .int, .int], none⟩ := by decide +kernel
theorem pd_21 : parseMethodDescriptor "(II[B)V" = some ⟨[.int, .int, (.array .byte)], none⟩ := by decide +kernel
def va1 (x1 : Int32) : Int32 := ((x1.toUInt32 >>> ((16 : Int32) &&& 31).toUInt32).toInt32)
def va2 (x1 : Int32) : Int32 := ((x1 &&& (65535 : Int32)).toUInt32.toUInt16.toUInt32.toInt32)
def va3 (x1 : Int32) : Int32 := (if ((va1 x1) &&& (3 : Int32)) = (0 : Int32) then (42 : Int32) else (nar .char (va2 x1)))
def va4 (x1 : Int32) : Int32 := ((x1 >>> ((0 : Int32) &&& 31)).toInt8.toInt32)
def va5 (x1 : Int32) : Int32 := ((x1 >>> ((8 : Int32) &&& 31)).toInt8.toInt32)
def va6 (x1 : Int32) : Int32 := ((x1 &&& (255 : Int32)) <<< ((0 : Int32) &&& 31))
def va7 (x1 : Int32) : Int32 := ((x1 &&& (255 : Int32)) <<< ((8 : Int32) &&& 31))
def va8 (x1 : Int32) (x2 : Int32) : Int32 := (((va6 x1) ||| (va7 x2)).toUInt32.toUInt16.toUInt32.toInt32)
def va9 (x1 : Int32) : Int32 := (if (va3 x1) = (42 : Int32) then (1 : Int32) else (0 : Int32))
def va10 (x1 : Int32) : Int32 := (if (0 : Int32) = (va9 x1) then (1 : Int32) else (0 : Int32))
def va11 (x1 : Int32) : Int32 := (if x1 = (42 : Int32) then (0 : Int32) else (-1 : Int32))
def va12 (x1 : Int32) : Int32 := (if (va11 x1) < (0 : Int32) then (0 : Int32) else (1 : Int32))
def va13 (x1 : Int32) : Int32 := (if (va12 (((nar .char (va3 x1)).toInt8.toInt32).toInt8.toInt32)) = (va9 x1) then (1 : Int32) else (0 : Int32))
def va14 (x1 : Int32) (x2 : Int32) : Int32 := (if (va3 x1) = (42 : Int32) then (1 : Int32) else (if (va3 x2) = (42 : Int32) then (1 : Int32) else (0 : Int32)))
def va15 (x1 : Int32) (x2 : Int32) : Int32 := (if (nar .char (va8 x1 x2)) = (42 : Int32) then (1 : Int32) else (-1 : Int32))
def va16 (x1 : Int32) (x2 : Int32) : Int32 := (if (va15 x1 x2) < (0 : Int32) then (0 : Int32) else (1 : Int32))
def va17 (x1 : Int32) (x2 : Int32) : Int32 := (if (va16 ((va4 (nar .char (va3 x1))).toInt8.toInt32) ((va5 (nar .char (va3 x1))).toInt8.toInt32)) = (va14 x2 x1) then (1 : Int32) else (0 : Int32))
def va18 (x1 : Int32) (x2 : Int32) : Int32 := (if (nar .char (va8 x1 x2)) = (42 : Int32) then (0 : Int32) else (-1 : Int32))
def va19 (x1 : Int32) (x2 : Int32) : Int32 := (if (va18 x1 x2) < (0 : Int32) then (0 : Int32) else (1 : Int32))
def va20 (x1 : Int32) (x2 : Int32) : Int32 := (if (va19 ((va4 (nar .char (va3 x1))).toInt8.toInt32) ((va5 (nar .char (va3 x1))).toInt8.toInt32)) = (va14 x1 x2) then (1 : Int32) else (0 : Int32))
def va21 (x1 : Int32) (x2 : Int32) : Int32 := (if x1 = (42 : Int32) then (0 : Int32) else (if x2 = (42 : Int32) then (1 : Int32) else (-1 : Int32)))
def va22 (x1 : Int32) (x2 : Int32) : Int32 := (if (va21 x1 x2) < (0 : Int32) then (0 : Int32) else (1 : Int32))
def va23 (x1 : Int32) (x2 : Int32) : Int32 := (if (va22 (((nar .char (va3 x1)).toInt8.toInt32).toInt8.toInt32) (((nar .char (va3 x2)).toInt8.toInt32).toInt8.toInt32)) = (va14 x1 x2) then (1 : Int32) else (0 : Int32))
def va24 (x1 : Int32) (x2 : Int32) (x3 : Int32) : Int32 := (if (va3 x1) = (42 : Int32) then (1 : Int32) else (if (va3 x2) = (42 : Int32) then (1 : Int32) else (if (va3 x3) = (42 : Int32) then (1 : Int32) else (0 : Int32))))
def va25 (x1 : Int32) (x2 : Int32) (x3 : Int32) (x4 : Int32) : Int32 := (if (nar .char (va8 x1 x2)) = (42 : Int32) then (1 : Int32) else (if (nar .char (va8 x3 x4)) = (42 : Int32) then (2 : Int32) else (-1 : Int32)))
def va26 (x1 : Int32) (x2 : Int32) (x3 : Int32) (x4 : Int32) : Int32 := (if (va25 x1 x2 x3 x4) < (0 : Int32) then (0 : Int32) else (1 : Int32))
def va27 (x1 : Int32) (x2 : Int32) (x3 : Int32) : Int32 := (if (va26 ((va4 (nar .char (va3 x1))).toInt8.toInt32) ((va5 (nar .char (va3 x1))).toInt8.toInt32) ((va4 (nar .char (va3 x2))).toInt8.toInt32) ((va5 (nar .char (va3 x2))).toInt8.toInt32)) = (va24 x3 x1 x2) then (1 : Int32) else (0 : Int32))
def va28 (x1 : Int32) (x2 : Int32) (x3 : Int32) (x4 : Int32) : Int32 := (if (nar .char (va8 x1 x2)) = (42 : Int32) then (0 : Int32) else (if (nar .char (va8 x3 x4)) = (42 : Int32) then (2 : Int32) else (-1 : Int32)))
def va29 (x1 : Int32) (x2 : Int32) (x3 : Int32) (x4 : Int32) : Int32 := (if (va28 x1 x2 x3 x4) < (0 : Int32) then (0 : Int32) else (1 : Int32))
def va30 (x1 : Int32) (x2 : Int32) (x3 : Int32) : Int32 := (if (va29 ((va4 (nar .char (va3 x1))).toInt8.toInt32) ((va5 (nar .char (va3 x1))).toInt8.toInt32) ((va4 (nar .char (va3 x2))).toInt8.toInt32) ((va5 (nar .char (va3 x2))).toInt8.toInt32)) = (va24 x1 x3 x2) then (1 : Int32) else (0 : Int32))
def va31 (x1 : Int32) (x2 : Int32) (x3 : Int32) (x4 : Int32) : Int32 := (if (nar .char (va8 x1 x2)) = (42 : Int32) then (0 : Int32) else (if (nar .char (va8 x3 x4)) = (42 : Int32) then (1 : Int32) else (-1 : Int32)))
def va32 (x1 : Int32) (x2 : Int32) (x3 : Int32) (x4 : Int32) : Int32 := (if (va31 x1 x2 x3 x4) < (0 : Int32) then (0 : Int32) else (1 : Int32))
def va33 (x1 : Int32) (x2 : Int32) (x3 : Int32) : Int32 := (if (va32 ((va4 (nar .char (va3 x1))).toInt8.toInt32) ((va5 (nar .char (va3 x1))).toInt8.toInt32) ((va4 (nar .char (va3 x2))).toInt8.toInt32) ((va5 (nar .char (va3 x2))).toInt8.toInt32)) = (va24 x1 x2 x3) then (1 : Int32) else (0 : Int32))
def va34 (x1 : Int32) (x2 : Int32) (x3 : Int32) : Int32 := (if x1 = (42 : Int32) then (0 : Int32) else (if x2 = (42 : Int32) then (1 : Int32) else (if x3 = (42 : Int32) then (2 : Int32) else (-1 : Int32))))
def va35 (x1 : Int32) (x2 : Int32) (x3 : Int32) : Int32 := (if (va34 x1 x2 x3) < (0 : Int32) then (0 : Int32) else (1 : Int32))
def va36 (x1 : Int32) (x2 : Int32) (x3 : Int32) : Int32 := (if (va35 (((nar .char (va3 x1)).toInt8.toInt32).toInt8.toInt32) (((nar .char (va3 x2)).toInt8.toInt32).toInt8.toInt32) (((nar .char (va3 x3)).toInt8.toInt32).toInt8.toInt32)) = (va24 x1 x2 x3) then (1 : Int32) else (0 : Int32))
def va37 (x1 : Int32) (x2 : Int32) (x3 : Int32) (x4 : Int32) : Int32 := (if (va3 x1) = (42 : Int32) then (1 : Int32) else (if (va3 x2) = (42 : Int32) then (1 : Int32) else (if (va3 x3) = (42 : Int32) then (1 : Int32) else (if (va3 x4) = (42 : Int32) then (1 : Int32) else (0 : Int32)))))
def va38 (x1 : Int32) (x2 : Int32) (x3 : Int32) (x4 : Int32) (x5 : Int32) (x6 : Int32) : Int32 := (if (nar .char (va8 x1 x2)) = (42 : Int32) then (1 : Int32) else (if (nar .char (va8 x3 x4)) = (42 : Int32) then (2 : Int32) else (if (nar .char (va8 x5 x6)) = (42 : Int32) then (3 : Int32) else (-1 : Int32))))
def va39 (x1 : Int32) (x2 : Int32) (x3 : Int32) (x4 : Int32) (x5 : Int32) (x6 : Int32) : Int32 := (if (va38 x1 x2 x3 x4 x5 x6) < (0 : Int32) then (0 : Int32) else (1 : Int32))
def va40 (x1 : Int32) (x2 : Int32) (x3 : Int32) (x4 : Int32) : Int32 := (if (va39 ((va4 (nar .char (va3 x1))).toInt8.toInt32) ((va5 (nar .char (va3 x1))).toInt8.toInt32) ((va4 (nar .char (va3 x2))).toInt8.toInt32) ((va5 (nar .char (va3 x2))).toInt8.toInt32) ((va4 (nar .char (va3 x3))).toInt8.toInt32) ((va5 (nar .char (va3 x3))).toInt8.toInt32)) = (va37 x4 x1 x2 x3) then (1 : Int32) else (0 : Int32))
def va41 (x1 : Int32) (x2 : Int32) (x3 : Int32) (x4 : Int32) (x5 : Int32) (x6 : Int32) : Int32 := (if (nar .char (va8 x1 x2)) = (42 : Int32) then (0 : Int32) else (if (nar .char (va8 x3 x4)) = (42 : Int32) then (2 : Int32) else (if (nar .char (va8 x5 x6)) = (42 : Int32) then (3 : Int32) else (-1 : Int32))))
def va42 (x1 : Int32) (x2 : Int32) (x3 : Int32) (x4 : Int32) (x5 : Int32) (x6 : Int32) : Int32 := (if (va41 x1 x2 x3 x4 x5 x6) < (0 : Int32) then (0 : Int32) else (1 : Int32))
def va43 (x1 : Int32) (x2 : Int32) (x3 : Int32) (x4 : Int32) : Int32 := (if (va42 ((va4 (nar .char (va3 x1))).toInt8.toInt32) ((va5 (nar .char (va3 x1))).toInt8.toInt32) ((va4 (nar .char (va3 x2))).toInt8.toInt32) ((va5 (nar .char (va3 x2))).toInt8.toInt32) ((va4 (nar .char (va3 x3))).toInt8.toInt32) ((va5 (nar .char (va3 x3))).toInt8.toInt32)) = (va37 x1 x4 x2 x3) then (1 : Int32) else (0 : Int32))
def va44 (x1 : Int32) (x2 : Int32) (x3 : Int32) (x4 : Int32) (x5 : Int32) (x6 : Int32) : Int32 := (if (nar .char (va8 x1 x2)) = (42 : Int32) then (0 : Int32) else (if (nar .char (va8 x3 x4)) = (42 : Int32) then (1 : Int32) else (if (nar .char (va8 x5 x6)) = (42 : Int32) then (3 : Int32) else (-1 : Int32))))
def va45 (x1 : Int32) (x2 : Int32) (x3 : Int32) (x4 : Int32) (x5 : Int32) (x6 : Int32) : Int32 := (if (va44 x1 x2 x3 x4 x5 x6) < (0 : Int32) then (0 : Int32) else (1 : Int32))
def va46 (x1 : Int32) (x2 : Int32) (x3 : Int32) (x4 : Int32) : Int32 := (if (va45 ((va4 (nar .char (va3 x1))).toInt8.toInt32) ((va5 (nar .char (va3 x1))).toInt8.toInt32) ((va4 (nar .char (va3 x2))).toInt8.toInt32) ((va5 (nar .char (va3 x2))).toInt8.toInt32) ((va4 (nar .char (va3 x3))).toInt8.toInt32) ((va5 (nar .char (va3 x3))).toInt8.toInt32)) = (va37 x1 x2 x4 x3) then (1 : Int32) else (0 : Int32))
def va47 (x1 : Int32) (x2 : Int32) (x3 : Int32) (x4 : Int32) (x5 : Int32) (x6 : Int32) : Int32 := (if (nar .char (va8 x1 x2)) = (42 : Int32) then (0 : Int32) else (if (nar .char (va8 x3 x4)) = (42 : Int32) then (1 : Int32) else (if (nar .char (va8 x5 x6)) = (42 : Int32) then (2 : Int32) else (-1 : Int32))))
def va48 (x1 : Int32) (x2 : Int32) (x3 : Int32) (x4 : Int32) (x5 : Int32) (x6 : Int32) : Int32 := (if (va47 x1 x2 x3 x4 x5 x6) < (0 : Int32) then (0 : Int32) else (1 : Int32))
def va49 (x1 : Int32) (x2 : Int32) (x3 : Int32) (x4 : Int32) : Int32 := (if (va48 ((va4 (nar .char (va3 x1))).toInt8.toInt32) ((va5 (nar .char (va3 x1))).toInt8.toInt32) ((va4 (nar .char (va3 x2))).toInt8.toInt32) ((va5 (nar .char (va3 x2))).toInt8.toInt32) ((va4 (nar .char (va3 x3))).toInt8.toInt32) ((va5 (nar .char (va3 x3))).toInt8.toInt32)) = (va37 x1 x2 x3 x4) then (1 : Int32) else (0 : Int32))
def va50 (x1 : Int32) (x2 : Int32) (x3 : Int32) (x4 : Int32) : Int32 := (if x1 = (42 : Int32) then (0 : Int32) else (if x2 = (42 : Int32) then (1 : Int32) else (if x3 = (42 : Int32) then (2 : Int32) else (if x4 = (42 : Int32) then (3 : Int32) else (-1 : Int32)))))
def va51 (x1 : Int32) (x2 : Int32) (x3 : Int32) (x4 : Int32) : Int32 := (if (va50 x1 x2 x3 x4) < (0 : Int32) then (0 : Int32) else (1 : Int32))
def va52 (x1 : Int32) (x2 : Int32) (x3 : Int32) (x4 : Int32) : Int32 := (if (va51 (((nar .char (va3 x1)).toInt8.toInt32).toInt8.toInt32) (((nar .char (va3 x2)).toInt8.toInt32).toInt8.toInt32) (((nar .char (va3 x3)).toInt8.toInt32).toInt8.toInt32) (((nar .char (va3 x4)).toInt8.toInt32).toInt8.toInt32)) = (va37 x1 x2 x3 x4) then (1 : Int32) else (0 : Int32))
abbrev y0 : MethodName := ⟨"purlin/config/NamePatternIsPatternPinLaw", "ch", "(I)C"⟩
abbrev y1 : MethodName := ⟨"java/lang/String", "<init>", "([CIILjava/lang/Void;)V"⟩
abbrev y2 : MethodName := ⟨"java/lang/String", "<init>", "([C)V"⟩
abbrev y3 : MethodName := ⟨"purlin/config/NamePatternIsPatternPinLaw", "str", "(ICCCC)Ljava/lang/String;"⟩
abbrev y4 : MethodName := ⟨"java/lang/String", "isLatin1", "()Z"⟩
abbrev y5 : MethodName := ⟨"java/lang/String", "coder", "()B"⟩
abbrev y6 : MethodName := ⟨"java/lang/String", "length", "()I"⟩
abbrev y7 : MethodName := ⟨"java/lang/StringLatin1", "canEncode", "(I)Z"⟩
abbrev y8 : MethodName := ⟨"java/lang/Math", "max", "(II)I"⟩
abbrev y9 : MethodName := ⟨"java/lang/Math", "min", "(II)I"⟩
abbrev y10 : MethodName := ⟨"java/lang/StringLatin1", "indexOf", "([BIII)I"⟩
abbrev y11 : MethodName := ⟨"java/lang/String", "indexOf", "(II)I"⟩
abbrev y12 : MethodName := ⟨"java/lang/String", "indexOf", "(I)I"⟩
abbrev y13 : MethodName := ⟨"purlin/config/NamePattern", "isPattern", "(Ljava/lang/String;)Z"⟩
abbrev y14 : MethodName := ⟨"java/lang/StringUTF16", "compress", "([CI[BII)I"⟩
abbrev y15 : MethodName := ⟨"java/lang/StringUTF16", "newBytesLength", "(I)I"⟩
abbrev y16 : MethodName := ⟨"java/lang/StringUTF16", "newBytesFor", "(I)[B"⟩
abbrev y17 : MethodName := ⟨"java/lang/StringUTF16", "putChar", "([BII)V"⟩
abbrev y18 : MethodName := ⟨"java/lang/StringUTF16", "toBytes", "([CII)[B"⟩
abbrev y19 : MethodName := ⟨"java/lang/StringUTF16", "getChar", "([BI)C"⟩
abbrev y20 : MethodName := ⟨"java/lang/StringUTF16", "compress", "([CII)[B"⟩
abbrev y21 : MethodName := ⟨"java/lang/StringUTF16", "coderFromArrayLen", "([BI)B"⟩
abbrev y22 : MethodName := ⟨"java/lang/StringUTF16", "length", "([B)I"⟩
abbrev y23 : MethodName := ⟨"jdk/internal/util/Preconditions", "checkFromToIndex", "(IIILjava/util/function/BiFunction;)I"⟩
abbrev y24 : MethodName := ⟨"java/lang/String", "checkBoundsBeginEnd", "(III)V"⟩
abbrev y25 : MethodName := ⟨"java/lang/StringUTF16", "checkBoundsBeginEnd", "(II[B)V"⟩
abbrev y26 : MethodName := ⟨"java/lang/StringUTF16", "indexOfCharUnsafe", "([BIII)I"⟩
abbrev y27 : MethodName := ⟨"java/lang/StringUTF16", "indexOfChar", "([BIII)I"⟩
abbrev y28 : MethodName := ⟨"java/lang/StringUTF16", "indexOf", "([BIII)I"⟩
abbrev y29 : MethodName := ⟨"java/lang/StringLatin1", "indexOfChar", "([BIII)I"⟩
abbrev L_iiiiiuuuuuuu (x0 : Int32) (x1 : Int32) (x2 : Int32) (x3 : Int32) (x4 : Int32) : Array Slot := #[si x0, si x1, si x2, si x3, si x4, .unset, .unset, .unset, .unset, .unset, .unset, .unset]
abbrev L_iiiiiiuuuuuu (x0 : Int32) (x1 : Int32) (x2 : Int32) (x3 : Int32) (x4 : Int32) (x5 : Int32) : Array Slot := #[si x0, si x1, si x2, si x3, si x4, si x5, .unset, .unset, .unset, .unset, .unset, .unset]
abbrev L_iiiiiiiuuuuu (x0 : Int32) (x1 : Int32) (x2 : Int32) (x3 : Int32) (x4 : Int32) (x5 : Int32) (x6 : Int32) : Array Slot := #[si x0, si x1, si x2, si x3, si x4, si x5, si x6, .unset, .unset, .unset, .unset, .unset]
abbrev L_iiiiiiiiuuuu (x0 : Int32) (x1 : Int32) (x2 : Int32) (x3 : Int32) (x4 : Int32) (x5 : Int32) (x6 : Int32) (x7 : Int32) : Array Slot := #[si x0, si x1, si x2, si x3, si x4, si x5, si x6, si x7, .unset, .unset, .unset, .unset]
abbrev L_iiiiiiiiiuuu (x0 : Int32) (x1 : Int32) (x2 : Int32) (x3 : Int32) (x4 : Int32) (x5 : Int32) (x6 : Int32) (x7 : Int32) (x8 : Int32) : Array Slot := #[si x0, si x1, si x2, si x3, si x4, si x5, si x6, si x7, si x8, .unset, .unset, .unset]
abbrev L_iiiiiiiiiiuu (x0 : Int32) (x1 : Int32) (x2 : Int32) (x3 : Int32) (x4 : Int32) (x5 : Int32) (x6 : Int32) (x7 : Int32) (x8 : Int32) (x9 : Int32) : Array Slot := #[si x0, si x1, si x2, si x3, si x4, si x5, si x6, si x7, si x8, si x9, .unset, .unset]
abbrev L_iiiii (x0 : Int32) (x1 : Int32) (x2 : Int32) (x3 : Int32) (x4 : Int32) : Array Slot := #[si x0, si x1, si x2, si x3, si x4]
abbrev L_rr (x0 : Addr) (x1 : Addr) : Array Slot := #[sr x0, sr x1]
abbrev L_rriinu (x0 : Addr) (x1 : Addr) (x2 : Int32) (x3 : Int32) : Array Slot := #[sr x0, sr x1, si x2, si x3, .val .null, .unset]
abbrev L_iiiiiiiiiiru (x0 : Int32) (x1 : Int32) (x2 : Int32) (x3 : Int32) (x4 : Int32) (x5 : Int32) (x6 : Int32) (x7 : Int32) (x8 : Int32) (x9 : Int32) (x10 : Addr) : Array Slot := #[si x0, si x1, si x2, si x3, si x4, si x5, si x6, si x7, si x8, si x9, sr x10, .unset]
abbrev L_iiiiiiiiiiri (x0 : Int32) (x1 : Int32) (x2 : Int32) (x3 : Int32) (x4 : Int32) (x5 : Int32) (x6 : Int32) (x7 : Int32) (x8 : Int32) (x9 : Int32) (x10 : Addr) (x11 : Int32) : Array Slot := #[si x0, si x1, si x2, si x3, si x4, si x5, si x6, si x7, si x8, si x9, sr x10, si x11]
abbrev L_ri (x0 : Addr) (x1 : Int32) : Array Slot := #[sr x0, si x1]
abbrev L_rii (x0 : Addr) (x1 : Int32) (x2 : Int32) : Array Slot := #[sr x0, si x1, si x2]
abbrev L_riii (x0 : Addr) (x1 : Int32) (x2 : Int32) (x3 : Int32) : Array Slot := #[sr x0, si x1, si x2, si x3]
abbrev L_ii (x0 : Int32) (x1 : Int32) : Array Slot := #[si x0, si x1]
abbrev L_riiuuu (x0 : Addr) (x1 : Int32) (x2 : Int32) : Array Slot := #[sr x0, si x1, si x2, .unset, .unset, .unset]
abbrev L_riiruu (x0 : Addr) (x1 : Int32) (x2 : Int32) (x3 : Addr) : Array Slot := #[sr x0, si x1, si x2, sr x3, .unset, .unset]
abbrev L_ririiuu (x0 : Addr) (x1 : Int32) (x2 : Addr) (x3 : Int32) (x4 : Int32) : Array Slot := #[sr x0, si x1, sr x2, si x3, si x4, .unset, .unset]
abbrev L_ririiiu (x0 : Addr) (x1 : Int32) (x2 : Addr) (x3 : Int32) (x4 : Int32) (x5 : Int32) : Array Slot := #[sr x0, si x1, sr x2, si x3, si x4, si x5, .unset]
abbrev L_ririiii (x0 : Addr) (x1 : Int32) (x2 : Addr) (x3 : Int32) (x4 : Int32) (x5 : Int32) (x6 : Int32) : Array Slot := #[sr x0, si x1, sr x2, si x3, si x4, si x5, si x6]
abbrev L_riiriu (x0 : Addr) (x1 : Int32) (x2 : Int32) (x3 : Addr) (x4 : Int32) : Array Slot := #[sr x0, si x1, si x2, sr x3, si x4, .unset]
abbrev L_riiuu (x0 : Addr) (x1 : Int32) (x2 : Int32) : Array Slot := #[sr x0, si x1, si x2, .unset, .unset]
abbrev L_riiru (x0 : Addr) (x1 : Int32) (x2 : Int32) (x3 : Addr) : Array Slot := #[sr x0, si x1, si x2, sr x3, .unset]
abbrev L_riiri (x0 : Addr) (x1 : Int32) (x2 : Int32) (x3 : Addr) (x4 : Int32) : Array Slot := #[sr x0, si x1, si x2, sr x3, si x4]
abbrev L_riirir (x0 : Addr) (x1 : Int32) (x2 : Int32) (x3 : Addr) (x4 : Int32) (x5 : Addr) : Array Slot := #[sr x0, si x1, si x2, sr x3, si x4, sr x5]
abbrev L_rriinr (x0 : Addr) (x1 : Addr) (x2 : Int32) (x3 : Int32) (x5 : Addr) : Array Slot := #[sr x0, sr x1, si x2, si x3, .val .null, sr x5]
abbrev L_iir (x0 : Int32) (x1 : Int32) (x2 : Addr) : Array Slot := #[si x0, si x1, sr x2]
abbrev L_iii (x0 : Int32) (x1 : Int32) (x2 : Int32) : Array Slot := #[si x0, si x1, si x2]
abbrev L_riiiu (x0 : Addr) (x1 : Int32) (x2 : Int32) (x3 : Int32) : Array Slot := #[sr x0, si x1, si x2, si x3, .unset]
abbrev L_riiii (x0 : Addr) (x1 : Int32) (x2 : Int32) (x3 : Int32) (x4 : Int32) : Array Slot := #[sr x0, si x1, si x2, si x3, si x4]
abbrev L_riiiuu (x0 : Addr) (x1 : Int32) (x2 : Int32) (x3 : Int32) : Array Slot := #[sr x0, si x1, si x2, si x3, .unset, .unset]
abbrev L_riiiiu (x0 : Addr) (x1 : Int32) (x2 : Int32) (x3 : Int32) (x4 : Int32) : Array Slot := #[sr x0, si x1, si x2, si x3, si x4, .unset]
abbrev L_riiiii (x0 : Addr) (x1 : Int32) (x2 : Int32) (x3 : Int32) (x4 : Int32) (x5 : Int32) : Array Slot := #[sr x0, si x1, si x2, si x3, si x4, si x5]
abbrev CBS (own : String) (i : Nat) (y : MethodName) (b : ByteArray) (k : Nat) (r : Option FieldType) (Z : State) (a0 : Array Value) : Prop := (Jvm.Cond.methodLink own i y).before a0 Z = true ∧ (Jvm.Cond.static y).before a0 Z = true ∧ (Jvm.Cond.initialized y.cls).before a0 Z = true ∧ (Jvm.Cond.code y b k r).before a0 Z = true
abbrev CBI (own : String) (i : Nat) (y : MethodName) (b : ByteArray) (k : Nat) (Z : State) (a0 : Array Value) : Prop := (Jvm.Cond.methodLink own i y).before a0 Z = true ∧ (Jvm.Cond.instanceMethod y).before a0 Z = true ∧ (Jvm.Cond.initialized y.cls).before a0 Z = true ∧ (Jvm.Cond.code y b k none).before a0 Z = true
theorem cw_0 (hw : OW Z a0) : CBS "purlin/config/NamePatternIsPatternPinLaw" 14 y0 method_2_code 1 (some .char) Z a0 := ai (tw_1 hw) (ai (tw_2 hw) (ai (tw_3 hw) (tw_4 hw)))
theorem cw_1 (hw : OW Z a0) : CBS "java/lang/StringLatin1" 88 y7 jdk_43_method_4_code 1 (some .boolean) Z a0 := ai (tw_64 hw) (ai (tw_65 hw) (ai (tw_62 hw) (tw_66 hw)))
theorem cw_2 (hw : OW Z a0) : CBS "java/lang/StringLatin1" 92 y8 jdk_29_method_65_code 2 (some .int) Z a0 := ai (tw_67 hw) (ai (tw_68 hw) (ai (tw_69 hw) (tw_70 hw)))
theorem cw_3 (hw : OW Z a0) : CBS "java/lang/StringLatin1" 38 y9 jdk_29_method_69_code 2 (some .int) Z a0 := ai (tw_71 hw) (ai (tw_72 hw) (ai (tw_69 hw) (tw_73 hw)))
theorem cw_4 (hw : OW Z a0) : CBS "java/lang/String" 637 y10 jdk_43_method_22_code 4 (some .int) Z a0 := ai (tw_60 hw) (ai (tw_61 hw) (ai (tw_62 hw) (tw_63 hw)))
theorem cw_5 (hw : OW Z a0) : CBS "purlin/config/NamePatternIsPatternPinLaw" 24 y13 prog_24_method_2_code 1 (some .boolean) Z a0 := ai (tw_30 hw) (ai (tw_31 hw) (ai (tw_32 hw) (tw_33 hw)))
theorem cw_6 (hw : OW Z a0) : CBS "java/lang/StringUTF16" 115 y14 jdk_52_method_21_code 7 (some .int) Z a0 := ai (tw_78 hw) (ai (tw_79 hw) (ai (tw_76 hw) (tw_80 hw)))
theorem cw_7 (hw : OW Z a0) : CBS "java/lang/StringUTF16" 11 y15 jdk_52_method_3_code 1 (some .int) Z a0 := ai (tw_94 hw) (ai (tw_95 hw) (ai (tw_76 hw) (tw_96 hw)))
theorem cw_8 (hw : OW Z a0) : CBS "java/lang/StringUTF16" 107 y16 jdk_52_method_2_code 1 (some (.array .byte)) Z a0 := ai (tw_91 hw) (ai (tw_92 hw) (ai (tw_76 hw) (tw_93 hw)))
theorem cw_9 (hw : OW Z a0) : CBS "java/lang/StringUTF16" 111 y17 jdk_52_method_4_code 3 none Z a0 := ai (tw_98 hw) (ai (tw_99 hw) (ai (tw_76 hw) (tw_100 hw)))
theorem cw_10 (hw : OW Z a0) : CBS "java/lang/StringUTF16" 119 y18 jdk_52_method_14_code 5 (some (.array .byte)) Z a0 := ai (tw_88 hw) (ai (tw_89 hw) (ai (tw_76 hw) (tw_90 hw)))
theorem cw_11 (hw : OW Z a0) : CBS "java/lang/StringUTF16" 71 y19 jdk_52_method_5_code 2 (some .char) Z a0 := ai (tw_104 hw) (ai (tw_105 hw) (ai (tw_76 hw) (tw_106 hw)))
theorem cw_12 (hw : OW Z a0) : CBS "java/lang/String" 177 y20 jdk_52_method_16_code 6 (some (.array .byte)) Z a0 := ai (tw_74 hw) (ai (tw_75 hw) (ai (tw_76 hw) (tw_77 hw)))
theorem cw_13 (hw : OW Z a0) : CBS "java/lang/String" 47 y21 jdk_52_method_15_code 2 (some .byte) Z a0 := ai (tw_81 hw) (ai (tw_82 hw) (ai (tw_76 hw) (tw_83 hw)))
theorem cw_14 (hw : OW Z a0) : CBI "java/lang/String" 27 y1 jdk_42_method_149_code 6 Z a0 := ai (tw_15 hw) (ai (tw_16 hw) (ai (tw_10 hw) (tw_18 hw)))
theorem cw_15 (hw : OW Z a0) : CBI "purlin/config/NamePatternIsPatternPinLaw" 10 y2 jdk_42_method_3_code 2 Z a0 := ai (tw_12 hw) (ai (tw_13 hw) (ai (tw_10 hw) (tw_14 hw)))
theorem cw_16 (hw : OW Z a0) : CBS "purlin/config/NamePatternIsPatternPinLaw" 20 y3 method_3_code 5 (some (.object "java/lang/String")) Z a0 := ai (tw_5 hw) (ai (tw_6 hw) (ai (tw_3 hw) (tw_7 hw)))
theorem cw_17 (hw : OW Z a0) : CBS "java/lang/StringUTF16" 224 y8 jdk_29_method_65_code 2 (some .int) Z a0 := ai (tw_110 hw) (ai (tw_68 hw) (ai (tw_69 hw) (tw_70 hw)))
theorem cw_18 (hw : OW Z a0) : CBS "java/lang/StringUTF16" 183 y9 jdk_29_method_69_code 2 (some .int) Z a0 := ai (tw_111 hw) (ai (tw_72 hw) (ai (tw_69 hw) (tw_73 hw)))
theorem cw_19 (hw : OW Z a0) : CBS "java/lang/StringUTF16" 48 y22 jdk_52_method_6_code 1 (some .int) Z a0 := ai (tw_119 hw) (ai (tw_120 hw) (ai (tw_76 hw) (tw_121 hw)))
theorem cw_20 (hw : OW Z a0) : CBS "java/lang/String" 1062 y23 jdk_41_method_12_code 4 (some .int) Z a0 := ai (tw_127 hw) (ai (tw_128 hw) (ai (tw_126 hw) (tw_129 hw)))
theorem cw_21 (hw : OW Z a0) : CBS "java/lang/StringUTF16" 241 y24 jdk_42_method_158_code 3 none Z a0 := ai (tw_122 hw) (ai (tw_123 hw) (ai (tw_10 hw) (tw_124 hw)))
theorem cw_22 (hw : OW Z a0) : CBS "java/lang/StringUTF16" 96 y25 jdk_52_method_93_code 3 none Z a0 := ai (tw_116 hw) (ai (tw_117 hw) (ai (tw_76 hw) (tw_118 hw)))
theorem cw_23 (hw : OW Z a0) : CBS "java/lang/StringUTF16" 244 y26 jdk_52_method_48_code 5 (some .int) Z a0 := ai (tw_130 hw) (ai (tw_131 hw) (ai (tw_76 hw) (tw_132 hw)))
theorem cw_24 (hw : OW Z a0) : CBS "java/lang/StringUTF16" 228 y27 jdk_52_method_47_code 4 (some .int) Z a0 := ai (tw_113 hw) (ai (tw_114 hw) (ai (tw_76 hw) (tw_115 hw)))
theorem cw_25 (hw : OW Z a0) : CBS "java/lang/String" 640 y28 jdk_52_method_40_code 4 (some .int) Z a0 := ai (tw_107 hw) (ai (tw_108 hw) (ai (tw_76 hw) (tw_109 hw)))
theorem cw_26 (hw : OW Z a0) : CBS "java/lang/StringLatin1" 95 y29 jdk_43_method_23_code 6 (some .int) Z a0 := ai (tw_84 hw) (ai (tw_85 hw) (ai (tw_62 hw) (tw_86 hw)))
abbrev M1 (l : Launch) (Z : State) (ws : List Jvm.Cond) (rm : Room) (A : Array Value) (h0 : Heap) (Q : Option Value → Heap → List Loc → Prop) : Prop := MF l Z y0 method_2_code 1 (some .char) ws rm A h0 Q
abbrev M9 (l : Launch) (Z : State) (ws : List Jvm.Cond) (rm : Room) (A : Array Value) (h0 : Heap) (Q : Option Value → Heap → List Loc → Prop) : Prop := MF l Z y4 jdk_42_method_154_code 1 (some .boolean) ws rm A h0 Q
abbrev M11 (l : Launch) (Z : State) (ws : List Jvm.Cond) (rm : Room) (A : Array Value) (h0 : Heap) (Q : Option Value → Heap → List Loc → Prop) : Prop := MF l Z y5 jdk_42_method_152_code 1 (some .byte) ws rm A h0 Q
abbrev M10 (l : Launch) (Z : State) (ws : List Jvm.Cond) (rm : Room) (A : Array Value) (h0 : Heap) (Q : Option Value → Heap → List Loc → Prop) : Prop := MF l Z y6 jdk_42_method_54_code 1 (some .int) ws rm A h0 Q
abbrev M13 (l : Launch) (Z : State) (ws : List Jvm.Cond) (rm : Room) (A : Array Value) (h0 : Heap) (Q : Option Value → Heap → List Loc → Prop) : Prop := MF l Z y7 jdk_43_method_4_code 1 (some .boolean) ws rm A h0 Q
abbrev M14 (l : Launch) (Z : State) (ws : List Jvm.Cond) (rm : Room) (A : Array Value) (h0 : Heap) (Q : Option Value → Heap → List Loc → Prop) : Prop := MF l Z y8 jdk_29_method_65_code 2 (some .int) ws rm A h0 Q
abbrev M15 (l : Launch) (Z : State) (ws : List Jvm.Cond) (rm : Room) (A : Array Value) (h0 : Heap) (Q : Option Value → Heap → List Loc → Prop) : Prop := MF l Z y9 jdk_29_method_69_code 2 (some .int) ws rm A h0 Q
abbrev M12 (l : Launch) (Z : State) (ws : List Jvm.Cond) (rm : Room) (A : Array Value) (h0 : Heap) (Q : Option Value → Heap → List Loc → Prop) : Prop := MF l Z y10 jdk_43_method_22_code 4 (some .int) ws rm A h0 Q
abbrev M8 (l : Launch) (Z : State) (ws : List Jvm.Cond) (rm : Room) (A : Array Value) (h0 : Heap) (Q : Option Value → Heap → List Loc → Prop) : Prop := MF l Z y11 jdk_42_method_80_code 3 (some .int) ws rm A h0 Q
abbrev M7 (l : Launch) (Z : State) (ws : List Jvm.Cond) (rm : Room) (A : Array Value) (h0 : Heap) (Q : Option Value → Heap → List Loc → Prop) : Prop := MF l Z y12 jdk_42_method_79_code 2 (some .int) ws rm A h0 Q
abbrev M6 (l : Launch) (Z : State) (ws : List Jvm.Cond) (rm : Room) (A : Array Value) (h0 : Heap) (Q : Option Value → Heap → List Loc → Prop) : Prop := MF l Z y13 prog_24_method_2_code 1 (some .boolean) ws rm A h0 Q
abbrev M17 (l : Launch) (Z : State) (ws : List Jvm.Cond) (rm : Room) (A : Array Value) (h0 : Heap) (Q : Option Value → Heap → List Loc → Prop) : Prop := MF l Z y14 jdk_52_method_21_code 7 (some .int) ws rm A h0 Q
abbrev M22 (l : Launch) (Z : State) (ws : List Jvm.Cond) (rm : Room) (A : Array Value) (h0 : Heap) (Q : Option Value → Heap → List Loc → Prop) : Prop := MF l Z y15 jdk_52_method_3_code 1 (some .int) ws rm A h0 Q
abbrev M21 (l : Launch) (Z : State) (ws : List Jvm.Cond) (rm : Room) (A : Array Value) (h0 : Heap) (Q : Option Value → Heap → List Loc → Prop) : Prop := MF l Z y16 jdk_52_method_2_code 1 (some (.array .byte)) ws rm A h0 Q
abbrev M23 (l : Launch) (Z : State) (ws : List Jvm.Cond) (rm : Room) (A : Array Value) (h0 : Heap) (Q : Option Value → Heap → List Loc → Prop) : Prop := MF l Z y17 jdk_52_method_4_code 3 none ws rm A h0 Q
abbrev M20 (l : Launch) (Z : State) (ws : List Jvm.Cond) (rm : Room) (A : Array Value) (h0 : Heap) (Q : Option Value → Heap → List Loc → Prop) : Prop := MF l Z y18 jdk_52_method_14_code 5 (some (.array .byte)) ws rm A h0 Q
abbrev M24 (l : Launch) (Z : State) (ws : List Jvm.Cond) (rm : Room) (A : Array Value) (h0 : Heap) (Q : Option Value → Heap → List Loc → Prop) : Prop := MF l Z y19 jdk_52_method_5_code 2 (some .char) ws rm A h0 Q
abbrev M16 (l : Launch) (Z : State) (ws : List Jvm.Cond) (rm : Room) (A : Array Value) (h0 : Heap) (Q : Option Value → Heap → List Loc → Prop) : Prop := MF l Z y20 jdk_52_method_16_code 6 (some (.array .byte)) ws rm A h0 Q
abbrev M18 (l : Launch) (Z : State) (ws : List Jvm.Cond) (rm : Room) (A : Array Value) (h0 : Heap) (Q : Option Value → Heap → List Loc → Prop) : Prop := MF l Z y21 jdk_52_method_15_code 2 (some .byte) ws rm A h0 Q
abbrev M4 (l : Launch) (Z : State) (ws : List Jvm.Cond) (rm : Room) (A : Array Value) (h0 : Heap) (Q : Option Value → Heap → List Loc → Prop) : Prop := MF l Z y1 jdk_42_method_149_code 6 none ws rm A h0 Q
abbrev M3 (l : Launch) (Z : State) (ws : List Jvm.Cond) (rm : Room) (A : Array Value) (h0 : Heap) (Q : Option Value → Heap → List Loc → Prop) : Prop := MF l Z y2 jdk_42_method_3_code 2 none ws rm A h0 Q
abbrev M2 (l : Launch) (Z : State) (ws : List Jvm.Cond) (rm : Room) (A : Array Value) (h0 : Heap) (Q : Option Value → Heap → List Loc → Prop) : Prop := MF l Z y3 method_3_code 5 (some (.object "java/lang/String")) ws rm A h0 Q
abbrev M28 (l : Launch) (Z : State) (ws : List Jvm.Cond) (rm : Room) (A : Array Value) (h0 : Heap) (Q : Option Value → Heap → List Loc → Prop) : Prop := MF l Z y22 jdk_52_method_6_code 1 (some .int) ws rm A h0 Q
abbrev M30 (l : Launch) (Z : State) (ws : List Jvm.Cond) (rm : Room) (A : Array Value) (h0 : Heap) (Q : Option Value → Heap → List Loc → Prop) : Prop := MF l Z y23 jdk_41_method_12_code 4 (some .int) ws rm A h0 Q
abbrev M29 (l : Launch) (Z : State) (ws : List Jvm.Cond) (rm : Room) (A : Array Value) (h0 : Heap) (Q : Option Value → Heap → List Loc → Prop) : Prop := MF l Z y24 jdk_42_method_158_code 3 none ws rm A h0 Q
abbrev M27 (l : Launch) (Z : State) (ws : List Jvm.Cond) (rm : Room) (A : Array Value) (h0 : Heap) (Q : Option Value → Heap → List Loc → Prop) : Prop := MF l Z y25 jdk_52_method_93_code 3 none ws rm A h0 Q
abbrev M31 (l : Launch) (Z : State) (ws : List Jvm.Cond) (rm : Room) (A : Array Value) (h0 : Heap) (Q : Option Value → Heap → List Loc → Prop) : Prop := MF l Z y26 jdk_52_method_48_code 5 (some .int) ws rm A h0 Q
abbrev M26 (l : Launch) (Z : State) (ws : List Jvm.Cond) (rm : Room) (A : Array Value) (h0 : Heap) (Q : Option Value → Heap → List Loc → Prop) : Prop := MF l Z y27 jdk_52_method_47_code 4 (some .int) ws rm A h0 Q
abbrev M25 (l : Launch) (Z : State) (ws : List Jvm.Cond) (rm : Room) (A : Array Value) (h0 : Heap) (Q : Option Value → Heap → List Loc → Prop) : Prop := MF l Z y28 jdk_52_method_40_code 4 (some .int) ws rm A h0 Q
abbrev M19 (l : Launch) (Z : State) (ws : List Jvm.Cond) (rm : Room) (A : Array Value) (h0 : Heap) (Q : Option Value → Heap → List Loc → Prop) : Prop := MF l Z y29 jdk_43_method_23_code 6 (some .int) ws rm A h0 Q
abbrev QI (n0 : Nat) (h0 : Heap) (x : Value) : Option Value → Heap → List Loc → Prop := fun v h L => v = some x ∧ Fr n0 L ∧ h = h0
theorem q_or (a b : Nat) (ha : a < 256) (hb : b < 256) : (Int32.ofNat b ||| Int32.ofNat (256 * a)) = Int32.ofNat (256 * a + b) := by
  have := Nat.two_pow_add_eq_or_of_lt (i := 8) hb a
  rw [show (256 : Nat) = 2 ^ 8 from rfl, this, Nat.or_comm]
  apply Int32.toBitVec_inj.mp
  show BitVec.ofNat 32 b ||| BitVec.ofNat 32 (2 ^ 8 * a) = BitVec.ofNat 32 (b ||| 2 ^ 8 * a)
  apply BitVec.eq_of_toNat_eq
  rw [BitVec.toNat_or, BitVec.toNat_ofNat, BitVec.toNat_ofNat, BitVec.toNat_ofNat, Nat.mod_eq_of_lt (by omega), Nat.mod_eq_of_lt (by omega), Nat.mod_eq_of_lt]
  rw [Nat.or_comm, ← this]
  omega
theorem q_chr (p : Int32) : nar .char (va3 p) = va3 p ∧ 0 ≤ (va3 p).toInt ∧ (va3 p).toInt < 65536 := by
  have r : 0 ≤ (va3 p).toInt ∧ (va3 p).toInt < 65536 := by
    unfold va3
    split
    · decide
    · exact (show ((nar .char (va2 p)).toInt - (va2 p).toInt) % 65536 = 0 ∧ 0 ≤ (nar .char (va2 p)).toInt ∧ (nar .char (va2 p)).toInt < 65536 from c_i2c _).2
  have h := (show ((nar .char (va3 p)).toInt - (va3 p).toInt) % 65536 = 0 ∧ 0 ≤ (nar .char (va3 p)).toInt ∧ (nar .char (va3 p)).toInt < 65536 from c_i2c _)
  exact ⟨Int32.toInt_inj.mp (by omega), r⟩
theorem q_utf0 (c : Int32) (h0 : 0 ≤ c.toInt) (h1 : c.toInt < 65536) : nar .char (va8 ((va4 c).toInt8.toInt32) ((va5 c).toInt8.toInt32)) = c := by
  have k0 := (by decide : (255 : Int32).toInt = 255)
  have a1 := c_ishr c (0 : Int32) 0 (by decide)
  have a2 := c_i2b (c >>> ((0 : Int32) &&& 31))
  have a3 := (congrArg Int32.toInt (show (va4 c) = ((c >>> ((0 : Int32) &&& 31)).toInt8.toInt32) from rfl))
  have a4 := c_i2b (va4 c)
  have a5 := c_mask ((va4 c).toInt8.toInt32) (255 : Int32) 8 (by decide) (by decide)
  have a6 := c_ishl (((va4 c).toInt8.toInt32) &&& (255 : Int32)) (0 : Int32) 0 (by decide)
  have a7 := (congrArg Int32.toInt (show (va6 ((va4 c).toInt8.toInt32)) = ((((va4 c).toInt8.toInt32) &&& (255 : Int32)) <<< ((0 : Int32) &&& 31)) from rfl))
  have b1 := c_ishr c (8 : Int32) 8 (by decide)
  have b2 := c_i2b (c >>> ((8 : Int32) &&& 31))
  have b3 := (congrArg Int32.toInt (show (va5 c) = ((c >>> ((8 : Int32) &&& 31)).toInt8.toInt32) from rfl))
  have b4 := c_i2b (va5 c)
  have b5 := c_mask ((va5 c).toInt8.toInt32) (255 : Int32) 8 (by decide) (by decide)
  have b6 := c_ishl (((va5 c).toInt8.toInt32) &&& (255 : Int32)) (8 : Int32) 8 (by decide)
  have b7 := (congrArg Int32.toInt (show (va7 ((va5 c).toInt8.toInt32)) = ((((va5 c).toInt8.toInt32) &&& (255 : Int32)) <<< ((8 : Int32) &&& 31)) from rfl))
  have r1 := rng32 (va6 ((va4 c).toInt8.toInt32))
  have r2 := rng32 (va7 ((va5 c).toInt8.toInt32))
  have e1 : va6 ((va4 c).toInt8.toInt32) = Int32.ofNat (c.toInt.toNat % 256) := by
    apply Int32.toInt_inj.mp
    rw [Int32.toInt_ofNat_of_lt (by omega)]
    omega
  have e2 : va7 ((va5 c).toInt8.toInt32) = Int32.ofNat (256 * (c.toInt.toNat / 256)) := by
    apply Int32.toInt_inj.mp
    rw [Int32.toInt_ofNat_of_lt (by omega)]
    omega
  have e3 : va6 ((va4 c).toInt8.toInt32) ||| va7 ((va5 c).toInt8.toInt32) = c := by
    rw [e1, e2, q_or _ _ (by omega) (by omega)]
    apply Int32.toInt_inj.mp
    rw [Int32.toInt_ofNat_of_lt (by omega)]
    omega
  have f1 := c_i2c (va6 ((va4 c).toInt8.toInt32) ||| va7 ((va5 c).toInt8.toInt32))
  have f2 := c_i2c (va8 ((va4 c).toInt8.toInt32) ((va5 c).toInt8.toInt32))
  have f3 := congrArg Int32.toInt (show va8 ((va4 c).toInt8.toInt32) ((va5 c).toInt8.toInt32) = ((va6 ((va4 c).toInt8.toInt32) ||| va7 ((va5 c).toInt8.toInt32)).toUInt32.toUInt16.toUInt32.toInt32) from rfl)
  rw [e3] at f1 f3
  apply Int32.toInt_inj.mp
  show ((va8 ((va4 c).toInt8.toInt32) ((va5 c).toInt8.toInt32)).toUInt32.toUInt16.toUInt32.toInt32).toInt = _
  omega
theorem q_utf (p : Int32) : nar .char (va8 ((va4 (va3 p)).toInt8.toInt32) ((va5 (va3 p)).toInt8.toInt32)) = va3 p := q_utf0 _ (q_chr p).2.1 (q_chr p).2.2
theorem q_lat {p : Int32} (h : ¬ (255 : Int32) < va3 p) : ((va3 p).toInt8.toInt32.toInt8.toInt32 = 42) = (va3 p = 42) := by
  have a := q_chr p
  have b := mt Int32.lt_iff_toInt_lt.mpr h
  have c := c_i2b (va3 p)
  have d := c_i2b ((va3 p).toInt8.toInt32)
  have k := (by decide : (255 : Int32).toInt = 255)
  have k2 := (by decide : (42 : Int32).toInt = 42)
  apply propext
  rw [← Int32.toInt_inj, ← Int32.toInt_inj]
  omega
theorem q_eq {p : Int32} (h : (255 : Int32) < va3 p) : ¬ va3 p = 42 := fun q => by rw [q] at h; exact absurd h (by decide)

theorem own_wS {a0 : Array Value} {Z : State} (hw : ∀ d ∈ tables_1, d.before a0 Z = true) : ∀ a ∈ Bundle.stringAtoms, a.before a0 Z = true := by
  have sub : ∀ a ∈ Bundle.stringAtoms, a ∈ tables_1 := by
    intro a ha
    simp only [Bundle.stringAtoms, Bundle.sN, List.mem_cons, List.not_mem_nil, or_false] at ha
    rcases ha with rfl | rfl | rfl | rfl | rfl | rfl | rfl <;> simp [tables_1]
  exact fun a ha => hw a (sub a ha)
theorem own_EW {a0 : Array Value} {Z : State} (hw : ∀ d ∈ tables_1, d.before a0 Z = true) : EW Z a0 consts_1 := (EW.cons (hw _ (List.mem_of_getElem? (i := 22) rfl)) (by decide +kernel) EW.nil)
theorem own_backH {l : Launch} {R : Room} {p : Program} {e : Env} {below : List Frame} {s : State} {args : Array Value} {Z : State} {a0 : Array Value} {EL : List (String × Nat)} {h : Heap} {vm0 : Vm} {SX : List Addr} {y : MethodName} {bytes : ByteArray} {maxL : Nat} {ret : Option FieldType} {rm : Room} {len W : Nat} {as' : Array Value} {Q : Option Value → Heap → List Loc → Prop}
    (hM : MetFree l y (head1 [Jvm.Cond.code y bytes maxL ret] rm) (fun a U => a = as' ∧ Z.Warmed39 U.vm ∧ U.heap = h ∧ CHv Z EL U.vm h ∧ ∀ x ∈ SX, Safe Z EL U.vm h x) (fun _ _ _ _ _ => True) (fun _ U o U' => ∃ v L, o = .returned v ∧ Q v U'.heap L ∧ ReturnedEndW U o U' L rm.cells rm.slots))
    (hZ : Z.Warmed39 vm0) (wc : (Jvm.Cond.code y bytes maxL ret).before a0 Z = true) (wz : (Jvm.Cond.initialized y.cls).before a0 Z = true) (hf : rm.frames + 1 ≤ R.frames) (hl : W + (maxL + 11) + rm.locals ≤ R.locals) (hEL : EW Z a0 EL) (H : CHv Z EL vm0 h) (HS : ∀ x ∈ SX, x < h.size ∧ Safe Z EL vm0 h x) :
    BackS l R p e below (s.setVm vm0) args y len W (fun A a => a = as' ∧ A.U.heap = h ∧ A.cells + rm.cells ≤ R.cells ∧ A.slots + rm.slots ≤ R.slots)
      (fun A _ v B => ∃ L, Q v B.U.heap L ∧ B.locs = A.locs ++ L ∧ B.cells = A.cells + rm.cells ∧ B.slots = A.slots + rm.slots) :=
  BackS.of_freeW (bytes := bytes) (maxL := maxL) (ret := ret) (E := fun _ _ o t L k n => k = rm.cells ∧ n = rm.slots ∧ ∃ v, o = .returned v ∧ Q v t.heap L) hM hf hl
    (fun m meth c A a Y hp => have hU : Z.Warmed39 A.U.vm := wtrans (s := s.setVm vm0) hZ Y.warmed
      ⟨by show (Jvm.Cond.and _ .tt).before a A.U = true; rw [Cond.before_and, mv hU wc]; rfl, mv hU wc, mv hU wz, hp.2.2.1, hp.2.2.2⟩)
    (fun m meth c A a g mk Y hp => ⟨hp.1, wtrans (s := s.setVm vm0) hZ Y.warmed, hp.2.1, (CHv.at Y hZ hEL H).1, fun x hx => (CHv.at Y hZ hEL H).safe (HS x hx).1 (HS x hx).2⟩) (fun _ _ _ _ _ _ _ _ _ => trivial)
    (fun _ _ _ _ ⟨v, L, h1, h2, h3⟩ => ⟨L, _, _, h3, rfl, rfl, v, h1, h2⟩)
    (fun m meth c A a g mk v t L k n Y hp _ _ ⟨e1, e2, v', e3, e4⟩ => by cases e3; subst e1 e2; exact ⟨L, e4, rfl, rfl, rfl⟩)
abbrev ab1 (Z : State) (v : Value) : Prop := Sta Z Z.heap "java/lang/String" "COMPACT_STRINGS" "Z" v
abbrev ab2 (Z : State) (v : Value) : Prop := Sta Z Z.heap "java/lang/StringUTF16" "$assertionsDisabled" "Z" v
abbrev ab3 (Z : State) (v : Value) : Prop := Sta Z Z.heap "java/lang/StringUTF16" "HI_BYTE_SHIFT" "I" v
abbrev ab4 (Z : State) (v : Value) : Prop := Sta Z Z.heap "java/lang/StringUTF16" "LO_BYTE_SHIFT" "I" v
abbrev ab5 (Z : State) (v : Value) : Prop := Sta Z Z.heap "jdk/internal/util/Preconditions" "SIOOBE_FORMATTER" "Ljava/util/function/BiFunction;" v
abbrev ab6 (Z : State) (h : Heap) (a : Addr) (v : Value) : Prop := Fld Z h a "java/lang/String" "coder" "B" v
abbrev ab7 (Z : State) (h : Heap) (a : Addr) (v : Value) : Prop := Fld Z h a "java/lang/String" "value" "[B" v
abbrev ab8 (Z : State) (h : Heap) (a : Addr) : Prop := Exa Z h a "java/lang/String"
theorem rm1_1 (hw : OW Z a0) (p1 : Int32) (Z0 : n0 ≤ h0.size) (H1 : ((va1 p1) &&& (3 : Int32)) = (0 : Int32)) :
    M1 l Z ws (orm 0 0 0 0) #[vi p1] h0 (QI n0 h0 (vi 42)) := by
  refine own_enter (plainFor_of_name pn_0) (L0 := #[si p1]) ?_
  intro p e s m below meth c s₁ hx hby hml hown hnm hret hZ X0 e0
  have N0 := Fr.nil n0
  refine ⟨s₁, _, _, _, _, some (vi 42), X0, e0, by decide, by decide, nofun, ⟨rfl, N0, rfl⟩, fun fs hr => ?_⟩
  refine own_b X0 hx hby tb1 8 [false] 19 _ [vi 42] (ai (teq H1).2 rfl) ?_
  exact retN X0 hx (t := .char) hret (by simp) (hb hby d1_19) hr
theorem rm1_2 (hw : OW Z a0) (p1 : Int32) (Z0 : n0 ≤ h0.size) (H1 : ¬ (((va1 p1) &&& (3 : Int32)) = (0 : Int32))) :
    M1 l Z ws (orm 0 0 0 0) #[vi p1] h0 (QI n0 h0 (vi (nar .char (va2 p1)))) := by
  refine own_enter (plainFor_of_name pn_0) (L0 := #[si p1]) ?_
  intro p e s m below meth c s₁ hx hby hml hown hnm hret hZ X0 e0
  have N0 := Fr.nil n0
  refine ⟨s₁, _, _, _, _, some (vi (nar .char (va2 p1))), X0, e0, by decide, by decide, nofun, ⟨rfl, N0, rfl⟩, fun fs hr => ?_⟩
  refine own_b X0 hx hby tb1 7 [true] 15 _ [vi p1] (ai (feq H1).2 rfl) ?_
  refine X0.ldcInt hx hown (mvT hZ (tw_87 hw)) (g := (mkF m 15 #[si p1] [vi p1])) rfl (hb hby d1_15) _ ?_
  show OS p e below s₁ m 17 #[si p1] [vi 65535, vi p1] _
  refine own_b X0 hx hby tb1 2 [] 19 _ [vi (va2 p1)] rfl ?_
  exact retN X0 hx (t := .char) hret (by simp) (hb hby d1_19) hr
theorem rm1_3 (hw : OW Z a0) (p1 : Int32) (Z0 : n0 ≤ h0.size) :
    M1 l Z ws (orm 0 0 0 0) #[vi p1] h0 (QI n0 h0 (vi (va3 p1))) := by
  by_cases H1 : ((va1 p1) &&& (3 : Int32)) = (0 : Int32)
  ·
    rw [show (va3 p1) = (42 : Int32) from by simp only [va3, if_pos H1]]
    exact rm1_1 hw p1 Z0 H1
  ·
    rw [show (va3 p1) = (nar .char (va2 p1)) from by simp only [va3, if_neg H1]]
    exact rm1_2 hw p1 Z0 H1
theorem ef4_1 (m : MethodId) (a1 a2 : Addr) : entryFrame m #[vr a1, vr a2, vi 0, vi 0, .null] 6 = mkF m 0 #[sr a1, sr a2, si 0, si 0, .val .null, .unset] [] := by first | rfl | (simp [entryFrame, mkF, argsToLocals, Value.category]; done)
def Q4_1 (Z : State) (a1 a2 : Addr) (h0 : Heap) (n0 : Nat) (v : Option Value) (h : Heap) (L : List Loc) : Prop := ∃ b4b : Addr, ∃ kl4 : ClassId, v = none ∧ Fr n0 L ∧ Keep h0 h [a1] ∧ ab6 Z h a1 (vi 0) ∧ ab7 Z h a1 (vr b4b) ∧ Arv Z h b4b kl4 .byte (0 : Int32) [] (vi 0)
theorem rm4_1 (hw : OW Z a0) (a1 a2 : Addr) (Z0 : n0 ≤ h0.size) (P1 : ab7 Z h0 a1 .null) (P2 : ab8 Z h0 a1) (P3 : n0 ≤ a1) (P4 : ab6 Z h0 a1 (vi 0)) :
    MetFree l y1 (head1 (Jvm.Cond.code y1 jdk_42_method_149_code 6 none :: ws) (orm 1 2 4 12)) (fun a U => a = #[vr a1, vr a2, vi 0, vi 0, .null] ∧ Z.Warmed39 U.vm ∧ U.heap = h0 ∧ CHv Z consts_1 U.vm h0 ∧ ∀ x ∈ ([] : List Addr), Safe Z consts_1 U.vm h0 x) (fun _ _ _ _ _ => True) (fun _ U o U' => ∃ v L, o = .returned v ∧ Q4_1 Z a1 a2 h0 n0 v U'.heap L ∧ ReturnedEndW U o U' L (orm 1 2 4 12).cells (orm 1 2 4 12).slots) := by
  refine MetFree.of_bodySF (plainFor_of_name pn_1) hisR ?_
  intro p e s m args below meth c s₁ Bd hml0 hP hK
  obtain ⟨rfl, hZ, hh, hH, hSf⟩ := hP
  have hx := Bd.exec
  have hby := Bd.bytes
  have hml : c.maxLocals = 6 := hml0
  have hown : s.vm.findClass "java/lang/String" = some m.cls := findClass_of_methodNamed Bd.named
  have hnm := (name_of_methodNamed Bd.named Bd.method).1
  have hret := Bd.returns
  have X0 : Stand p l e (orm 1 2 4 12) s m #[vr a1, vr a2, vi 0, vi 0, .null] below meth c s₁ [] 0 0 := Stand.of_body Bd
  have e0 : s₁.heap = h0 := by rw [← hh, Bd.state]; rfl
  have N0 := Fr.nil n0
  have pre0 : ∀ t, Steps p.tables e below (s₁.setTop (mkF m 0 #[sr a1, sr a2, si 0, si 0, .val .null, .unset] [])) t → Steps p.tables e below (s₁.setTop (entryFrame m #[vr a1, vr a2, vi 0, vi 0, .null] 6)) t := fun t k => castTop (ef4_1 m a1 a2) k
  obtain ⟨T3, X3, e3, st3⟩ := initO X0 hx hZ hown (tw_19 hw) (tw_20 hw) (tw_21 hw) e0 (g := (mkF m 1 (L_rriinu a1 a2 0 0) [vr a1])) rfl (by rw [hml]; rfl) rfl (hb hby d4_1) (by decide) (W := 0) (by show 2 * 0 + _ ≤ _; exact Nat.le_of_eq rfl) (by decide)
  obtain ⟨b4a, T4, h4, k4, b4b, kl4, X4, e4, E4, hS4, hk4, hZ4, hown4, fa4, fb4, fc4, fd4, -, -, CH4, LT4, LN4, st4⟩ := ldcCH (s := s) (vm0 := s.vm) (show Stand _ _ _ _ (s.setVm s.vm) _ _ _ _ _ _ _ _ _ from X3) hx hZ hown (tw_22 hw) (own_wS hw) e3 (State.WarmedH.since (State.WarmedH.refl s) 0) (Nat.zero_le _) (own_EW hw) (List.mem_of_getElem? (i := 0) rfl) hH (vs := []) (z := (0 : Int32)) (by decide +kernel) (by decide) (by decide) (g := (mkF m 9 (L_rriinu a1 a2 0 0) [vr a1])) rfl (hb hby d4_9) (n := 0) (by decide) (by decide) (by decide) (by decide)
  obtain ⟨T5, X5, e5, st5⟩ := getF X4 hx hZ4 hown4 (host := "") (Or.inl (tw_28 hw)) Via.refl e4 fc4 (g := (mkF m 11 (L_rriinu a1 a2 0 0) [vr b4a, vr a1])) rfl rfl (hb hby d4_11)
  have F6 := (Fld.ext E4 P1)
  have F7 := (Exa.ext E4 P2)
  obtain ⟨T8, h8, X8, e8, W8, st8⟩ := putF X5 hx hZ4 hown4 (host := "") (Or.inl (tw_28 hw)) Via.refl e5 F6 F7 (Or.inr ⟨(tw_24 hw), rfl, hnm⟩) (tw_9 hw) (ty := (.array .byte)) (by decide) rfl rfl (g := (mkF m 14 (L_rriinu a1 a2 0 0) [vr b4b, vr a1])) rfl rfl (hb hby d4_14)
  have N8 := Fr.snoc X8 N0 P3
  have Fw8 := Fld.same W8 F6
  have F9 := (Fld.ne fc4 F6 (fun q => by cases q))
  have F10 := (Fld.other W8 fb4 (Or.inl F9))
  obtain ⟨T11, X11, e11, st11⟩ := getF X8 hx hZ4 hown4 (host := "") (Or.inl (tw_29 hw)) Via.refl e8 F10 (g := (mkF m 20 (L_rriinu a1 a2 0 0) [vr b4a, vr a1])) rfl rfl (hb hby d4_20)
  have F12 := (Fld.other W8 (Fld.ext E4 P4) (Or.inr (slot_ne (Or.inr (tw_25 hw)) (Or.inr (tw_24 hw)) (by decide) (t := .byte) (t' := (.array .byte)) (by decide) (by decide))))
  have F13 := (Exa.wr W8 F7)
  obtain ⟨T14, h14, X14, e14, W14, st14⟩ := putF X11 hx hZ4 hown4 (host := "") (Or.inl (tw_29 hw)) Via.refl e11 F12 F13 (Or.inr ⟨(tw_25 hw), rfl, hnm⟩) (tw_9 hw) (ty := .byte) (by decide) rfl rfl (g := (mkF m 23 (L_rriinu a1 a2 0 0) [vi 0, vr a1])) rfl rfl (hb hby d4_23)
  have N14 := Fr.snoc X14 N8 P3
  have Fw14 := Fld.same W14 F12
  have F15 := (Fld.other W14 Fw8 (Or.inr (slot_ne (Or.inr (tw_24 hw)) (Or.inr (tw_25 hw)) (by decide) (t := (.array .byte)) (t' := .byte) (by decide) (by decide))))
  have F16 := (Ne.symm (Exa.neArv F7 fd4 (tw_9 hw)))
  have F17 := (Arv.other (Arv.other fd4 W8 F16) W14 F16)
  have K18 := (Keep.refl h0 [a1]).ext E4
  have K19 := K18.wr W8 (Or.inl (List.mem_of_getElem? (i := 0) rfl))
  have K20 := K19.wr W14 (Or.inl (List.mem_of_getElem? (i := 0) rfl))
  obtain ⟨fs, hr, hrun, hended, hRE⟩ := X14.leaveW hS4 (by rw [e14]; exact (Nat.le_trans (Nat.le_trans hk4 (Keep.of_wr W8).1) (Keep.of_wr W14).1)) (v := none) (fun _ => rfl)
  refine ⟨_, _, pre0 _ ?_, hrun, hended, _, _, rfl, ?_, hRE.1, hRE.2.1, hRE.2.2.1, hRE.2.2.2.mono (by decide) (by decide)⟩
  · refine own_b X0 hx hby tb4 1 [] 1 _ [vr a1] rfl ?_
    refine st3 _ ?_
    refine own_b X3 hx hby tb4 3 [false] 9 _ [vr a1] (ai (by decide) rfl) ?_
    refine st4 _ ?_
    refine st5 _ ?_
    refine st8 _ ?_
    refine own_b X8 hx hby tb4 1 [] 18 _ [vr a1] rfl ?_
    refine ldcAgain X8 hx hZ4 hown4 (tw_22 hw) LT4 (g := (mkF m 18 (L_rriinu a1 a2 0 0) [vr a1])) rfl (hb hby d4_18) _ ?_
    show OS p e below T8 m 20 (L_rriinu a1 a2 0 0) [vr b4a, vr a1] _
    refine st11 _ ?_
    refine st14 _ ?_
    show OS p e below T14 m 26 (L_rriinu a1 a2 0 0) [] _
    exact X14.returnOut hx hret (hb hby d4_26) hr
  · show Q4_1 Z a1 a2 h0 n0 _ T14.heap _
    rw [e14]
    exact ⟨b4b, kl4, rfl, N14, K20, Fw14, F15, F17⟩
theorem ef3_1 (m : MethodId) (a1 a2 : Addr) (w3 : ClassId) : entryFrame m #[vr a1, vr a2] 2 = mkF m 0 #[sr a1, sr a2] [] := by first | rfl | (simp [entryFrame, mkF, argsToLocals, Value.category]; done)
def Q3_1 (Z : State) (a1 a2 : Addr) (w3 : ClassId) (h0 : Heap) (n0 : Nat) (v : Option Value) (h : Heap) (L : List Loc) : Prop := ∃ b5 : Addr, ∃ kk4_0 : ClassId, v = none ∧ Fr n0 L ∧ Keep h0 h [a1] ∧ ab6 Z h a1 (vi 0) ∧ ab7 Z h a1 (vr b5) ∧ Arv Z h b5 kk4_0 .byte (0 : Int32) [] (vi 0)
theorem rm3_1 (hw : OW Z a0) (a1 a2 : Addr) (w3 : ClassId) (Z0 : n0 ≤ h0.size) (P1 : Arv Z h0 a2 w3 .char (0 : Int32) [] (vi 0)) (P2 : ab7 Z h0 a1 .null) (P3 : ab8 Z h0 a1) (P4 : n0 ≤ a1) (P5 : ab6 Z h0 a1 (vi 0)) :
    MetFree l y2 (head1 (Jvm.Cond.code y2 jdk_42_method_3_code 2 none :: ws) (orm 2 2 4 29)) (fun a U => a = #[vr a1, vr a2] ∧ Z.Warmed39 U.vm ∧ U.heap = h0 ∧ CHv Z consts_1 U.vm h0 ∧ ∀ x ∈ ([] : List Addr), Safe Z consts_1 U.vm h0 x) (fun _ _ _ _ _ => True) (fun _ U o U' => ∃ v L, o = .returned v ∧ Q3_1 Z a1 a2 w3 h0 n0 v U'.heap L ∧ ReturnedEndW U o U' L (orm 2 2 4 29).cells (orm 2 2 4 29).slots) := by
  refine MetFree.of_bodySF (plainFor_of_name pn_1) hisR ?_
  intro p e s m args below meth c s₁ Bd hml0 hP hK
  obtain ⟨rfl, hZ, hh, hH, hSf⟩ := hP
  have hx := Bd.exec
  have hby := Bd.bytes
  have hml : c.maxLocals = 2 := hml0
  have hown : s.vm.findClass "java/lang/String" = some m.cls := findClass_of_methodNamed Bd.named
  have hnm := (name_of_methodNamed Bd.named Bd.method).1
  have hret := Bd.returns
  have X0 : Stand p l e (orm 2 2 4 29) s m #[vr a1, vr a2] below meth c s₁ [] 0 0 := Stand.of_body Bd
  have e0 : s₁.heap = h0 := by rw [← hh, Bd.state]; rfl
  have N0 := Fr.nil n0
  have pre0 : ∀ t, Steps p.tables e below (s₁.setTop (mkF m 0 #[sr a1, sr a2] [])) t → Steps p.tables e below (s₁.setTop (entryFrame m #[vr a1, vr a2] 2)) t := fun t k => castTop (ef3_1 m a1 a2 w3) k
  obtain ⟨_, _, ⟨T4, L4, k4, n4⟩, -, Xq4, hSq4, gq4, ⟨Lc4, hQ4, l4, y4, z4⟩, st4⟩ := (show Stand _ _ _ _ (s.setVm s.vm) _ _ _ _ _ _ _ _ _ from X0).specialBackS hx (y := y1) rfl hown (mvT hZ (tw_15 hw)) (mvT hZ (tw_16 hw)) (mvT hZ (tw_18 hw)) (by decide) (own_backH (s := s) (vm0 := s.vm) (W := 0) (rm4_1 (ws := []) (h0 := h0) hw a1 a2 Z0 P2 P3 P4 P5) hZ (tw_18 hw) (tw_10 hw) (by decide) (by decide) (own_EW hw) hH all0) (g := (mkF m 6 (L_rr a1 a2) [.null, vi 0, vi 0, vr a2, vr a1])) rfl (by rw [hml]; rfl) (Steps.refl _) (a := a1) (argsL := [(vr a2), (vi 0), (vi 0), .null]) (rest := []) (lenOf pd_1 rfl) rfl (by show 2 * 0 + _ ≤ _; exact Nat.le_of_eq rfl) (hb hby d3_6) (fun _ _ => ⟨rfl, e0, (by decide : 0 + 2 ≤ _), (by decide : 0 + 4 ≤ _)⟩)
  dsimp only [Pt.U, Pt.locs, Pt.cells, Pt.slots] at Xq4 l4 y4 z4 st4 hQ4
  subst l4 y4 z4
  obtain ⟨X4, hS4, hZ4, hown4⟩ := rebS (s := s) (vm0 := s.vm) (State.WarmedH.since (State.WarmedH.refl s) 0) (n1 := s₁.heap.size) (by rw [e0]; exact (Nat.zero_le _)) Xq4 hSq4 gq4 hZ hown
  obtain ⟨b5, kk4_0, rfl, N4q, K4, f4_0, f4_1, f4_2⟩ := hQ4
  have N4 := Fr.app N0 N4q
  have K6 := (Keep.refl h0 [a1]).trans K4 (allS (Or.inl (List.mem_of_getElem? (i := 0) rfl)) all0)
  obtain ⟨fs, hr, hrun, hended, hRE⟩ := X4.leaveW hS4 (Nat.le_refl _) (v := none) (fun _ => rfl)
  refine ⟨_, _, pre0 _ ?_, hrun, hended, _, _, rfl, ?_, hRE.1, hRE.2.1, hRE.2.2.1, hRE.2.2.2.mono (by decide) (by decide)⟩
  · refine own_a X0 hx hZ e0 hby tb3 (aec P1 aen) 6 [] [0] 6 _ [.null, vi 0, vi 0, vr a2, vr a1] (ai rfl rfl) ?_
    refine st4.trans ?_
    show OS p e below T4 m 9 (L_rr a1 a2) [] _
    exact X4.returnOut hx hret (hb hby d3_9) hr
  · show Q3_1 Z a1 a2 w3 h0 n0 _ T4.heap _
    exact ⟨b5, kk4_0, rfl, N4, K6, f4_0, f4_1, f4_2⟩
theorem ef2_1 (m : MethodId) (p1 p2 p3 p4 : Int32) : entryFrame m #[vi 0, vi p1, vi p2, vi p3, vi p4] 5 = mkF m 0 #[si 0, si p1, si p2, si p3, si p4] [] := by first | rfl | (simp [entryFrame, mkF, argsToLocals, Value.category]; done)
def Q2_1 (Z : State) (p1 p2 p3 p4 : Int32) (h0 : Heap) (n0 : Nat) (v : Option Value) (h : Heap) (L : List Loc) : Prop := ∃ b5 : Addr, ∃ b17 : Addr, ∃ kk14_0 : ClassId, v = some (vr b5) ∧ Fr n0 L ∧ Keep h0 h [] ∧ n0 ≤ b5 ∧ h0.size ≤ b5 ∧ ab8 Z h b5 ∧ ab6 Z h b5 (vi 0) ∧ ab7 Z h b5 (vr b17) ∧ Arv Z h b17 kk14_0 .byte (0 : Int32) [] (vi 0)
theorem rm2_1 (hw : OW Z a0) (p1 p2 p3 p4 : Int32) (Z0 : n0 ≤ h0.size) :
    MetFree l y3 (head1 (Jvm.Cond.code y3 method_3_code 5 (some (.object "java/lang/String")) :: ws) (orm 3 4 8 43)) (fun a U => a = #[vi 0, vi p1, vi p2, vi p3, vi p4] ∧ Z.Warmed39 U.vm ∧ U.heap = h0 ∧ CHv Z consts_1 U.vm h0 ∧ ∀ x ∈ ([] : List Addr), Safe Z consts_1 U.vm h0 x) (fun _ _ _ _ _ => True) (fun _ U o U' => ∃ v L, o = .returned v ∧ Q2_1 Z p1 p2 p3 p4 h0 n0 v U'.heap L ∧ ReturnedEndW U o U' L (orm 3 4 8 43).cells (orm 3 4 8 43).slots) := by
  refine MetFree.of_bodySF (plainFor_of_name pn_0) hisR ?_
  intro p e s m args below meth c s₁ Bd hml0 hP hK
  obtain ⟨rfl, hZ, hh, hH, hSf⟩ := hP
  have hx := Bd.exec
  have hby := Bd.bytes
  have hml : c.maxLocals = 5 := hml0
  have hown : s.vm.findClass "purlin/config/NamePatternIsPatternPinLaw" = some m.cls := findClass_of_methodNamed Bd.named
  have hnm := (name_of_methodNamed Bd.named Bd.method).1
  have hret := Bd.returns
  have X0 : Stand p l e (orm 3 4 8 43) s m #[vi 0, vi p1, vi p2, vi p3, vi p4] below meth c s₁ [] 0 0 := Stand.of_body Bd
  have e0 : s₁.heap = h0 := by rw [← hh, Bd.state]; rfl
  have N0 := Fr.nil n0
  have pre0 : ∀ t, Steps p.tables e below (s₁.setTop (mkF m 0 #[si 0, si p1, si p2, si p3, si p4] [])) t → Steps p.tables e below (s₁.setTop (entryFrame m #[vi 0, vi p1, vi p2, vi p3, vi p4] 5)) t := fun t k => castTop (ef2_1 m p1 p2 p3 p4) k
  obtain ⟨T6, h6, b5, X6, e6, E6, g6, A6, D6, st6⟩ := own_new X0 hx hZ hown (tw_8 hw) (tw_9 hw) (tw_10 hw) e0 (Ls := (L_iiiii 0 p1 p2 p3 p4)) (S := []) (hb hby d2_4)
  have q6 := Nat.le_trans Z0 g6
  have z6 := Nat.le_trans (Nat.le_refl h0.size) g6
  have F7 : ab7 Z h6 b5 .null := D6 (Or.inr (tw_24 hw)) (ty := (.array .byte)) (by decide)
  have F8 : ab6 Z h6 b5 (vi 0) := D6 (Or.inr (tw_25 hw)) (ty := .byte) (by decide)
  obtain ⟨T10, h10, b9, k10, X10, e10, E10, g10, V10, st10⟩ := own_newP X6 hx hZ (tw_11 hw) e6 (n := (0 : Int32)) (k := 0) (d := (vi 0)) (vs := []) (Ls := (L_iiiii 0 p1 p2 p3 p4)) (S := [vr b5, vr b5]) (hb hby d2_9)
  have q10 := Nat.le_trans (Nat.le_trans Z0 E6.1) g10
  have z10 := Nat.le_trans (Nat.le_trans (Nat.le_refl h0.size) E6.1) g10
  have F11 := (Fld.ext E10 F7)
  have F12 := (Exa.ext E10 A6)
  have F13 := (Fld.ext E10 F8)
  have F15 := (CHv.ext E6 hH)
  have F16 := (CHv.ext E10 F15)
  obtain ⟨_, _, ⟨T14, L14, k14, n14⟩, -, Xq14, hSq14, gq14, ⟨Lc14, hQ14, l14, y14, z14⟩, st14⟩ := (show Stand _ _ _ _ (s.setVm s.vm) _ _ _ _ _ _ _ _ _ from X10).specialBackS hx (y := y2) rfl hown (mvT hZ (tw_12 hw)) (mvT hZ (tw_13 hw)) (mvT hZ (tw_14 hw)) (by decide) (own_backH (s := s) (vm0 := s.vm) (W := 1) (rm3_1 (ws := []) (h0 := h10) hw b5 b9 k10 (Nat.le_trans (Nat.le_trans Z0 E6.1) E10.1) V10 F11 F12 q6 F13) hZ (tw_14 hw) (tw_10 hw) (by decide) (by decide) (own_EW hw) F16 all0) (g := (mkF m 11 (L_iiiii 0 p1 p2 p3 p4) [vr b9, vr b5, vr b5])) rfl (by rw [hml]; rfl) (Steps.refl _) (a := b5) (argsL := [(vr b9)]) (rest := [(vr b5)]) (lenOf pd_2 rfl) rfl (by show 2 * 0 + _ ≤ _; exact Nat.le_of_eq rfl) (hb hby d2_11) (fun _ _ => ⟨rfl, e10, (by decide : 2 + 2 ≤ _), (by decide : 4 + 4 ≤ _)⟩)
  dsimp only [Pt.U, Pt.locs, Pt.cells, Pt.slots] at Xq14 l14 y14 z14 st14 hQ14
  subst l14 y14 z14
  obtain ⟨X14, hS14, hZ14, hown14⟩ := rebS (s := s) (vm0 := s.vm) (State.WarmedH.since (State.WarmedH.refl s) 0) (n1 := T10.heap.size) (by rw [e10]; exact (Nat.zero_le _)) Xq14 hSq14 gq14 hZ hown
  obtain ⟨b17, kk14_0, rfl, N14q, K14, f14_0, f14_1, f14_2⟩ := hQ14
  have N14 := Fr.app N0 N14q
  have F18 := (Exa.keep F12 K14)
  have K19 := (Keep.refl h0 []).ext E6
  have K20 := K19.ext E10
  have K21 := K20.trans K14 (allS (Or.inr z6) all0)
  obtain ⟨fs, hr, hrun, hended, hRE⟩ := X14.leaveW hS14 (Nat.le_refl _) (v := some (vr b5)) (fun h => by rw [hret] at h; cases h)
  refine ⟨_, _, pre0 _ ?_, hrun, hended, _, _, rfl, ?_, hRE.1, hRE.2.1, hRE.2.2.1, hRE.2.2.2.mono (by decide) (by decide)⟩
  · refine own_b X0 hx hby tb2 2 [false] 4 _ [] (ai (by decide) rfl) ?_
    refine st6 _ ?_
    refine own_b X6 hx hby tb2 2 [] 9 _ [vi 0, vr b5, vr b5] rfl ?_
    refine st10 _ ?_
    refine st14.trans ?_
    exact own_retA X14 hx hret rfl (hb hby d2_14) hr
  · show Q2_1 Z p1 p2 p3 p4 h0 n0 _ T14.heap _
    exact ⟨b5, b17, kk14_0, rfl, N14, K21, q6, z6, F18, f14_0, f14_1, f14_2⟩
theorem rm9_1 (hw : OW Z a0) (a1 : Addr) (p2 : Int32) (Z0 : n0 ≤ h0.size) (P1 : ab1 Z (vi p2)) (P2 : Old Z n0 h0) (P3 : ¬ (p2 = (0 : Int32))) (P4 : ab6 Z h0 a1 (vi 0)) :
    M9 l Z ws (orm 0 0 0 0) #[vr a1] h0 (QI n0 h0 (vi 1)) := by
  refine own_enter (plainFor_of_name pn_1) (L0 := #[sr a1]) ?_
  intro p e s m below meth c s₁ hx hby hml hown hnm hret hZ X0 e0
  have N0 := Fr.nil n0
  obtain ⟨T3, X3, e3, st3⟩ := getS2 X0 hx hZ hown (host := "") (Or.inl (tw_49 hw)) Via.refl e0 (Sta.ext P2.2 P1) (g := (mkF m 0 #[sr a1] [])) rfl (hb hby d9_0)
  obtain ⟨T4, X4, e4, st4⟩ := getF X3 hx hZ hown (host := "") (Or.inl (tw_29 hw)) Via.refl e3 P4 (g := (mkF m 7 #[sr a1] [vr a1])) rfl rfl (hb hby d9_7)
  refine ⟨T4, _, _, _, _, some (vi 1), X4, e4, by decide, by decide, nofun, ⟨rfl, N0, rfl⟩, fun fs hr => ?_⟩
  show OS p e below s₁ m 0 #[sr a1] [] _
  refine st3 _ ?_
  refine own_b X3 hx hby tb9 2 [false] 7 _ [vr a1] (ai (feq P3).1 rfl) ?_
  refine st4 _ ?_
  refine own_b X4 hx hby tb9 3 [false] 18 _ [vi 1] (ai (by decide) rfl) ?_
  exact retN X4 hx (t := .boolean) hret (by simp) (hb hby d9_18) hr
theorem rm11_1 (hw : OW Z a0) (a1 : Addr) (p2 : Int32) (Z0 : n0 ≤ h0.size) (P1 : ab1 Z (vi p2)) (P2 : Old Z n0 h0) (P3 : ¬ (p2 = (0 : Int32))) (P4 : ab6 Z h0 a1 (vi 0)) :
    M11 l Z ws (orm 0 0 0 0) #[vr a1] h0 (QI n0 h0 (vi 0)) := by
  refine own_enter (plainFor_of_name pn_1) (L0 := #[sr a1]) ?_
  intro p e s m below meth c s₁ hx hby hml hown hnm hret hZ X0 e0
  have N0 := Fr.nil n0
  obtain ⟨T3, X3, e3, st3⟩ := getS2 X0 hx hZ hown (host := "") (Or.inl (tw_49 hw)) Via.refl e0 (Sta.ext P2.2 P1) (g := (mkF m 0 #[sr a1] [])) rfl (hb hby d11_0)
  obtain ⟨T4, X4, e4, st4⟩ := getF X3 hx hZ hown (host := "") (Or.inl (tw_29 hw)) Via.refl e3 P4 (g := (mkF m 7 #[sr a1] [vr a1])) rfl rfl (hb hby d11_7)
  refine ⟨T4, _, _, _, _, some (vi 0), X4, e4, by decide, by decide, nofun, ⟨rfl, N0, rfl⟩, fun fs hr => ?_⟩
  show OS p e below s₁ m 0 #[sr a1] [] _
  refine st3 _ ?_
  refine own_b X3 hx hby tb11 2 [false] 7 _ [vr a1] (ai (feq P3).1 rfl) ?_
  refine st4 _ ?_
  refine own_b X4 hx hby tb11 1 [] 14 _ [vi 0] rfl ?_
  exact retN X4 hx (t := .byte) hret (by simp) (hb hby d11_14) hr
theorem rm10_1 (hw : OW Z a0) (a1 a2 : Addr) (w4 : ClassId) (p5 : Int32) (Z0 : n0 ≤ h0.size) (P1 : ab7 Z h0 a1 (vr a2)) (P2 : Arv Z h0 a2 w4 .byte (0 : Int32) [] (vi 0)) (P3 : ab8 Z h0 a1) (P4 : ab1 Z (vi p5)) (P5 : Old Z n0 h0) (P6 : ¬ (p5 = (0 : Int32))) (P7 : ab6 Z h0 a1 (vi 0)) :
    M10 l Z ws (orm 1 0 0 13) #[vr a1] h0 (QI n0 h0 (vi 0)) := by
  refine own_enter (plainFor_of_name pn_1) (L0 := #[sr a1]) ?_
  intro p e s m below meth c s₁ hx hby hml hown hnm hret hZ X0 e0
  have N0 := Fr.nil n0
  obtain ⟨T3, X3, e3, st3⟩ := getF X0 hx hZ hown (host := "") (Or.inl (tw_28 hw)) Via.refl e0 P1 (g := (mkF m 1 #[sr a1] [vr a1])) rfl rfl (hb hby d10_1)
  obtain ⟨T6, L6, _, X6, ⟨rfl, N6q, e6q⟩, st6⟩ := own_callV X3 hx hZ hown (tw_55 hw) (tw_56 hw) (notFace_of_selects (args := #[]) (mvT hZ (tw_58 hw))) (tw_58 hw) (tw_57 hw) (tw_10 hw) (tw_59 hw) (rm11_1 hw a1 p5 Z0 P4 P5 P6 P7) e3 P3 (Ls := #[sr a1]) hml [] [vi 0] pd_5 1 (hb hby d10_6)
  have N6 := Fr.app N0 N6q
  refine ⟨T6, _, _, _, _, some (vi 0), X6, e6q, by decide, by decide, nofun, ⟨rfl, N6, rfl⟩, fun fs hr => ?_⟩
  refine own_b X0 hx hby tb10 1 [] 1 _ [vr a1] rfl ?_
  refine st3 _ ?_
  refine own_a X3 hx hZ e3 hby tb10 (aec P2 aen) 2 [] [0] 6 _ [vr a1, vi 0] (ai rfl rfl) ?_
  refine st6 _ ?_
  refine own_b X6 hx hby tb10 1 [] 10 _ [vi 0] rfl ?_
  exact retI X6 hx hret (hb hby d10_10) hr
theorem rm13_1 (hw : OW Z a0)  (Z0 : n0 ≤ h0.size) :
    M13 l Z ws (orm 0 0 0 0) #[vi 42] h0 (QI n0 h0 (vi 1)) := by
  refine own_enter (plainFor_of_name pn_2) (L0 := #[si 42]) ?_
  intro p e s m below meth c s₁ hx hby hml hown hnm hret hZ X0 e0
  have N0 := Fr.nil n0
  refine ⟨s₁, _, _, _, _, some (vi 1), X0, e0, by decide, by decide, nofun, ⟨rfl, N0, rfl⟩, fun fs hr => ?_⟩
  refine own_b X0 hx hby tb13 7 [false, false] 16 _ [vi 1] (ai (by decide) (ai (by decide) rfl)) ?_
  exact retN X0 hx (t := .boolean) hret (by simp) (hb hby d13_16) hr
theorem rm14_1 (hw : OW Z a0)  (Z0 : n0 ≤ h0.size) :
    M14 l Z ws (orm 0 0 0 0) #[vi 0, vi 0] h0 (QI n0 h0 (vi 0)) := by
  refine own_enter (Jvm.Free.JP.mathPlain rfl (by decide +kernel)) (L0 := (L_ii 0 0)) ?_
  intro p e s m below meth c s₁ hx hby hml hown hnm hret hZ X0 e0
  have N0 := Fr.nil n0
  refine ⟨s₁, _, _, _, _, some (vi 0), X0, e0, by decide, by decide, nofun, ⟨rfl, N0, rfl⟩, fun fs hr => ?_⟩
  refine own_b X0 hx hby tb14 5 [false] 10 _ [vi 0] (ai (by decide) rfl) ?_
  exact retI X0 hx hret (hb hby d14_10) hr
theorem rm15_1 (hw : OW Z a0)  (Z0 : n0 ≤ h0.size) :
    M15 l Z ws (orm 0 0 0 0) #[vi 0, vi 0] h0 (QI n0 h0 (vi 0)) := by
  refine own_enter (Jvm.Free.JP.mathPlain rfl (by decide +kernel)) (L0 := (L_ii 0 0)) ?_
  intro p e s m below meth c s₁ hx hby hml hown hnm hret hZ X0 e0
  have N0 := Fr.nil n0
  refine ⟨s₁, _, _, _, _, some (vi 0), X0, e0, by decide, by decide, nofun, ⟨rfl, N0, rfl⟩, fun fs hr => ?_⟩
  refine own_b X0 hx hby tb15 5 [false] 10 _ [vi 0] (ai (by decide) rfl) ?_
  exact retI X0 hx hret (hb hby d15_10) hr
theorem rm12_1 (hw : OW Z a0) (a1 : Addr) (w4 : ClassId) (Z0 : n0 ≤ h0.size) (P1 : Arv Z h0 a1 w4 .byte (0 : Int32) [] (vi 0)) :
    M12 l Z ws (orm 1 0 0 13) #[vr a1, vi 42, vi 0, vi 0] h0 (QI n0 h0 (vi (-1))) := by
  refine own_enter (plainFor_of_name pn_2) (L0 := (L_riii a1 42 0 0)) ?_
  intro p e s m below meth c s₁ hx hby hml hown hnm hret hZ X0 e0
  have N0 := Fr.nil n0
  obtain ⟨T2, L2, _, X2, ⟨rfl, N2q, e2q⟩, st2⟩ := own_callS X0 hx hZ hown (cw_1 hw) (rm13_1 hw  Z0 ) e0 (Ls := (L_riii a1 42 0 0)) hml [vi 42] [] pd_7 0 (hb hby d12_1)
  have N2 := Fr.app N0 N2q
  obtain ⟨T3, L3, _, X3, ⟨rfl, N3q, e3q⟩, st3⟩ := own_callS X2 hx hZ hown (cw_2 hw) (rm14_1 hw  Z0 ) e2q (Ls := (L_riii a1 42 0 0)) hml [vi 0, vi 0] [] pd_8 0 (hb hby d12_11)
  have N3 := Fr.app N2 N3q
  obtain ⟨T5, L5, _, X5, ⟨rfl, N5q, e5q⟩, st5⟩ := own_callS X3 hx hZ hown (cw_3 hw) (rm15_1 hw  Z0 ) e3q (Ls := (L_riii a1 42 0 0)) hml [vi 0, vi 0] [] pd_8 0 (hb hby d12_18)
  have N5 := Fr.app N3 N5q
  refine ⟨T5, _, _, _, _, some (vi (-1)), X5, e5q, by decide, by decide, nofun, ⟨rfl, N5, rfl⟩, fun fs hr => ?_⟩
  refine own_b X0 hx hby tb12 1 [] 1 _ [vi 42] rfl ?_
  refine st2 _ ?_
  refine own_b X2 hx hby tb12 3 [true] 11 _ [vi 0, vi 0] (ai (by decide) rfl) ?_
  refine st3 _ ?_
  refine own_a X3 hx hZ e3q hby tb12 (aec P1 aen) 4 [] [0] 18 (L_riii a1 42 0 0) [vi 0, vi 0] (ai rfl rfl) ?_
  refine st5 _ ?_
  refine own_b X5 hx hby tb12 5 [false] 28 (L_riii a1 42 0 0) [vi (-1)] (ai (by decide) rfl) ?_
  exact retI X5 hx hret (hb hby d12_28) hr
theorem rm8_1 (hw : OW Z a0) (a1 : Addr) (p2 : Int32) (a4 : Addr) (w6 : ClassId) (Z0 : n0 ≤ h0.size) (P1 : ab8 Z h0 a1) (P2 : ab1 Z (vi p2)) (P3 : Old Z n0 h0) (P4 : ¬ (p2 = (0 : Int32))) (P5 : ab6 Z h0 a1 (vi 0)) (P6 : ab7 Z h0 a1 (vr a4)) (P7 : Arv Z h0 a4 w6 .byte (0 : Int32) [] (vi 0)) :
    M8 l Z ws (orm 2 0 0 28) #[vr a1, vi 42, vi 0] h0 (QI n0 h0 (vi (-1))) := by
  refine own_enter (plainFor_of_name pn_1) (L0 := (L_rii a1 42 0)) ?_
  intro p e s m below meth c s₁ hx hby hml hown hnm hret hZ X0 e0
  have N0 := Fr.nil n0
  obtain ⟨T3, L3, _, X3, ⟨rfl, N3q, e3q⟩, st3⟩ := own_callV X0 hx hZ hown (tw_44 hw) (tw_45 hw) (notFace_of_selects (args := #[]) (mvT hZ (tw_47 hw))) (tw_47 hw) (tw_46 hw) (tw_10 hw) (tw_48 hw) (rm9_1 hw a1 p2 Z0 P2 P3 P4 P5) e0 P1 (Ls := (L_rii a1 42 0)) hml [] [] pd_4 0 (hb hby d8_1)
  have N3 := Fr.app N0 N3q
  obtain ⟨T5, X5, e5, st5⟩ := getF X3 hx hZ hown (host := "") (Or.inl (tw_28 hw)) Via.refl e3q P6 (g := (mkF m 8 (L_rii a1 42 0) [vr a1])) rfl rfl (hb hby d8_8)
  obtain ⟨T7, L7, _, X7, ⟨rfl, N7q, e7q⟩, st7⟩ := own_callV X5 hx hZ hown (tw_50 hw) (tw_51 hw) (notFace_of_selects (args := #[]) (mvT hZ (tw_53 hw))) (tw_53 hw) (tw_52 hw) (tw_10 hw) (tw_54 hw) (rm10_1 hw a1 a4 w6 p2 Z0 P6 P7 P1 P2 P3 P4 P5) e5 P1 (Ls := (L_rii a1 42 0)) hml [] [vi 0, vi 42, vr a4] pd_6 3 (hb hby d8_14)
  have N7 := Fr.app N3 N7q
  obtain ⟨T8, L8, _, X8, ⟨rfl, N8q, e8q⟩, st8⟩ := own_callS X7 hx hZ hown (cw_4 hw) (rm12_1 hw a4 w6 Z0 P7) e7q (Ls := (L_rii a1 42 0)) hml [vr a4, vi 42, vi 0, vi 0] [] pd_9 0 (hb hby d8_17)
  have N8 := Fr.app N7 N8q
  refine ⟨T8, _, _, _, _, some (vi (-1)), X8, e8q, by decide, by decide, nofun, ⟨rfl, N8, rfl⟩, fun fs hr => ?_⟩
  refine own_b X0 hx hby tb8 1 [] 1 _ [vr a1] rfl ?_
  refine st3 _ ?_
  refine own_b X3 hx hby tb8 2 [false] 8 _ [vr a1] (ai (by decide) rfl) ?_
  refine st5 _ ?_
  refine own_b X5 hx hby tb8 3 [] 14 _ [vr a1, vi 0, vi 42, vr a4] rfl ?_
  refine st7 _ ?_
  refine st8 _ ?_
  refine own_b X8 hx hby tb8 1 [] 36 _ [vi (-1)] rfl ?_
  exact retI X8 hx hret (hb hby d8_36) hr
theorem rm7_1 (hw : OW Z a0) (a1 : Addr) (p2 : Int32) (a3 : Addr) (w4 : ClassId) (Z0 : n0 ≤ h0.size) (P1 : ab8 Z h0 a1) (P2 : ab1 Z (vi p2)) (P3 : Old Z n0 h0) (P4 : ¬ (p2 = (0 : Int32))) (P5 : ab6 Z h0 a1 (vi 0)) (P6 : ab7 Z h0 a1 (vr a3)) (P7 : Arv Z h0 a3 w4 .byte (0 : Int32) [] (vi 0)) :
    M7 l Z ws (orm 3 0 0 42) #[vr a1, vi 42] h0 (QI n0 h0 (vi (-1))) := by
  refine own_enter (plainFor_of_name pn_1) (L0 := (L_ri a1 42)) ?_
  intro p e s m below meth c s₁ hx hby hml hown hnm hret hZ X0 e0
  have N0 := Fr.nil n0
  obtain ⟨T5, L5, _, X5, ⟨rfl, N5q, e5q⟩, st5⟩ := own_callV X0 hx hZ hown (tw_39 hw) (tw_40 hw) (notFace_of_selects (args := #[]) (mvT hZ (tw_42 hw))) (tw_42 hw) (tw_41 hw) (tw_10 hw) (tw_43 hw) (rm8_1 hw a1 p2 a3 w4 Z0 P1 P2 P3 P4 P5 P6 P7) e0 P1 (Ls := (L_ri a1 42)) hml [vi 42, vi 0] [] pd_8 0 (hb hby d7_3)
  have N5 := Fr.app N0 N5q
  refine ⟨T5, _, _, _, _, some (vi (-1)), X5, e5q, by decide, by decide, nofun, ⟨rfl, N5, rfl⟩, fun fs hr => ?_⟩
  refine own_b X0 hx hby tb7 3 [] 3 _ [vi 0, vi 42, vr a1] rfl ?_
  refine st5 _ ?_
  exact retI X5 hx hret (hb hby d7_6) hr
theorem rm6_1 (hw : OW Z a0) (a1 : Addr) (p2 : Int32) (a3 : Addr) (w4 : ClassId) (Z0 : n0 ≤ h0.size) (P1 : ab8 Z h0 a1) (P2 : ab1 Z (vi p2)) (P3 : Old Z n0 h0) (P4 : ¬ (p2 = (0 : Int32))) (P5 : ab6 Z h0 a1 (vi 0)) (P6 : ab7 Z h0 a1 (vr a3)) (P7 : Arv Z h0 a3 w4 .byte (0 : Int32) [] (vi 0)) :
    M6 l Z ws (orm 4 0 0 55) #[vr a1] h0 (QI n0 h0 (vi 0)) := by
  refine own_enter (plainFor_of_name pn_3) (L0 := #[sr a1]) ?_
  intro p e s m below meth c s₁ hx hby hml hown hnm hret hZ X0 e0
  have N0 := Fr.nil n0
  obtain ⟨T5, L5, _, X5, ⟨rfl, N5q, e5q⟩, st5⟩ := own_callV X0 hx hZ hown (tw_34 hw) (tw_35 hw) (notFace_of_selects (args := #[]) (mvT hZ (tw_37 hw))) (tw_37 hw) (tw_36 hw) (tw_10 hw) (tw_38 hw) (rm7_1 hw a1 p2 a3 w4 Z0 P1 P2 P3 P4 P5 P6 P7) e0 P1 (Ls := #[sr a1]) hml [vi 42] [] pd_10 0 (hb hby d6_3)
  have N5 := Fr.app N0 N5q
  refine ⟨T5, _, _, _, _, some (vi 0), X5, e5q, by decide, by decide, nofun, ⟨rfl, N5, rfl⟩, fun fs hr => ?_⟩
  refine own_b X0 hx hby tb6 2 [] 3 _ [vi 42, vr a1] rfl ?_
  refine st5 _ ?_
  refine own_b X5 hx hby tb6 2 [true] 14 _ [vi 0] (ai (by decide) rfl) ?_
  exact retN X5 hx (t := .boolean) hret (by simp) (hb hby d6_14) hr
theorem rm17_1 (hw : OW Z a0) (a1 a2 : Addr) (w3 : ClassId) (p4 : Int32) (Z0 : n0 ≤ h0.size) (P1 : Arv Z h0 a1 w3 .char (1 : Int32) [vi p4] (vi 0)) (P2 : (255 : Int32) < p4) :
    M17 l Z ws (orm 0 0 0 0) #[vr a1, vi 0, vr a2, vi 0, vi 1] h0 (QI n0 h0 (vi 0)) := by
  refine own_enter (plainFor_of_name pn_4) (L0 := (L_ririiuu a1 0 a2 0 1)) ?_
  intro p e s m below meth c s₁ hx hby hml hown hnm hret hZ X0 e0
  have N0 := Fr.nil n0
  refine ⟨s₁, _, _, _, _, some (vi 0), X0, e0, by decide, by decide, nofun, ⟨rfl, N0, rfl⟩, fun fs hr => ?_⟩
  refine own_a X0 hx hZ e0 hby tb17 (aec P1 aen) 13 [false, false] [0] 25 (L_ririiii a1 0 a2 0 1 0 p4) [vi 0] (ai (by decide) (ai rfl (ai (tlt P2).2.2.2 rfl))) ?_
  exact retI X0 hx hret (hb hby d17_25) hr
theorem rm22_1 (hw : OW Z a0)  (Z0 : n0 ≤ h0.size) :
    M22 l Z ws (orm 0 0 0 0) #[vi 1] h0 (QI n0 h0 (vi 2)) := by
  refine own_enter (plainFor_of_name pn_4) (L0 := #[si 1]) ?_
  intro p e s m below meth c s₁ hx hby hml hown hnm hret hZ X0 e0
  have N0 := Fr.nil n0
  refine ⟨s₁, _, _, _, _, some (vi 2), X0, e0, by decide, by decide, nofun, ⟨rfl, N0, rfl⟩, fun fs hr => ?_⟩
  refine own_b X0 hx hby tb22 3 [true] 13 _ [vi 1] (ai (by decide) rfl) ?_
  refine X0.ldcInt hx hown (mvT hZ (tw_97 hw)) (g := (mkF m 13 #[si 1] [vi 1])) rfl (hb hby d22_13) _ ?_
  show OS p e below s₁ m 15 #[si 1] [vi 1073741823, vi 1] _
  refine own_b X0 hx hby tb22 4 [true] 58 _ [vi 2] (ai (by decide) rfl) ?_
  exact retI X0 hx hret (hb hby d22_58) hr
theorem rm21_1 (hw : OW Z a0)  (Z0 : n0 ≤ h0.size) :
    M21 l Z ws (orm 1 1 2 12) #[vi 1] h0 (fun v h L => ∃ b2 : Addr, ∃ k3 : ClassId, v = some (vr b2) ∧ Fr n0 L ∧ Keep h0 h [] ∧ n0 ≤ b2 ∧ h0.size ≤ b2 ∧ Arv Z h b2 k3 .byte (2 : Int32) [vi 0, vi 0] (vi 0)) := by
  refine own_enter (plainFor_of_name pn_4) (L0 := #[si 1]) ?_
  intro p e s m below meth c s₁ hx hby hml hown hnm hret hZ X0 e0
  have N0 := Fr.nil n0
  obtain ⟨T1, L1, _, X1, ⟨rfl, N1q, e1q⟩, st1⟩ := own_callS X0 hx hZ hown (cw_7 hw) (rm22_1 hw  Z0 ) e0 (Ls := #[si 1]) hml [vi 1] [] pd_10 0 (hb hby d21_1)
  have N1 := Fr.app N0 N1q
  obtain ⟨T3, h3, b2, k3, X3, e3, E3, g3, V3, st3⟩ := own_newP X1 hx hZ (tw_23 hw) e1q (n := (2 : Int32)) (k := 2) (d := (vi 0)) (vs := [vi 0, vi 0]) (Ls := #[si 1]) (S := []) (hb hby d21_4)
  have q3 := Nat.le_trans Z0 g3
  have z3 := Nat.le_trans (Nat.le_refl h0.size) g3
  have K4 := (Keep.refl h0 []).ext E3
  refine ⟨T3, _, _, _, _, some (vr b2), X3, e3, by decide, by decide, nofun, ⟨b2, k3, rfl, N1, K4, q3, z3, V3⟩, fun fs hr => ?_⟩
  refine own_b X0 hx hby tb21 1 [] 1 _ [vi 1] rfl ?_
  refine st1 _ ?_
  refine st3 _ ?_
  exact own_retA X3 hx hret rfl (hb hby d21_6) hr
theorem rm23_1 (hw : OW Z a0) (a1 : Addr) (p2 : Int32) (w5 : ClassId) (Z0 : n0 ≤ h0.size) (P1 : ab2 Z (vi 1)) (P2 : Old Z n0 h0) (P3 : ab3 Z (vi 0)) (P4 : Arv Z h0 a1 w5 .byte (2 : Int32) [vi 0, vi 0] (vi 0)) (P5 : n0 ≤ a1) (P6 : ab4 Z (vi 8)) :
    M23 l Z ws (orm 0 0 0 0) #[vr a1, vi 0, vi p2] h0 (fun v h L => v = none ∧ Fr n0 L ∧ Keep h0 h [a1] ∧ Arv Z h a1 w5 .byte (2 : Int32) [vi ((va4 p2).toInt8.toInt32), vi ((va5 p2).toInt8.toInt32)] (vi 0)) := by
  refine own_enter (plainFor_of_name pn_4) (L0 := (L_rii a1 0 p2)) ?_
  intro p e s m below meth c s₁ hx hby hml hown hnm hret hZ X0 e0
  have N0 := Fr.nil n0
  obtain ⟨T3, X3, e3, st3⟩ := getS2 X0 hx hZ hown (host := "") (Or.inl (tw_101 hw)) Via.refl e0 (Sta.ext P2.2 P1) (g := (mkF m 0 (L_rii a1 0 p2) [])) rfl (hb hby d23_0)
  obtain ⟨T4, X4, e4, st4⟩ := getS2 X3 hx hZ hown (host := "") (Or.inl (tw_102 hw)) Via.refl e3 (Sta.ext P2.2 P3) (g := (mkF m 38 (L_rii a1 1 p2) [vi p2, vi 0, vr a1])) rfl (hb hby d23_38)
  obtain ⟨T6, h6, X6, e6, W6, V6, st6⟩ := own_stB X4 hx hZ e4 P4 (j := (0 : Int32)) (x := (va4 p2)) (by decide) 0 rfl (Nat.le_of_ble_eq_true rfl) (Ls := (L_rii a1 1 p2)) (rest := []) (hb hby d23_43)
  have N6 := Fr.snoc X6 N0 P5
  have F7 := (P2.wr W6 P5)
  obtain ⟨T8, X8, e8, st8⟩ := getS2 X6 hx hZ hown (host := "") (Or.inl (tw_103 hw)) Via.refl e6 (Sta.ext F7.2 P6) (g := (mkF m 47 (L_rii a1 1 p2) [vi p2, vi 1, vr a1])) rfl (hb hby d23_47)
  obtain ⟨T9, h9, X9, e9, W9, V9, st9⟩ := own_stB X8 hx hZ e8 V6 (j := (1 : Int32)) (x := (va5 p2)) (by decide) 1 rfl (Nat.le_of_ble_eq_true rfl) (Ls := (L_rii a1 1 p2)) (rest := []) (hb hby d23_52)
  have N9 := Fr.snoc X9 N6 P5
  have K10 := (Keep.refl h0 [a1]).wr W6 (Or.inl (List.mem_of_getElem? (i := 0) rfl))
  have K11 := K10.wr W9 (Or.inl (List.mem_of_getElem? (i := 0) rfl))
  refine ⟨T9, _, _, _, _, none, X9, e9, by decide, by decide, (fun _ => rfl), ⟨rfl, N9, K11, V9⟩, fun fs hr => ?_⟩
  show OS p e below s₁ m 0 (L_rii a1 0 p2) [] _
  refine st3 _ ?_
  refine own_b X3 hx hby tb23 9 [true] 38 (L_rii a1 1 p2) [vi p2, vi 0, vr a1] (ai (by decide) rfl) ?_
  refine st4 _ ?_
  refine own_b X4 hx hby tb23 2 [] 43 _ [vi (va4 p2), vi 0, vr a1] rfl ?_
  refine st6 _ ?_
  refine own_b X6 hx hby tb23 3 [] 47 _ [vi p2, vi 1, vr a1] rfl ?_
  refine st8 _ ?_
  refine own_b X8 hx hby tb23 2 [] 52 _ [vi (va5 p2), vi 1, vr a1] rfl ?_
  refine st9 _ ?_
  show OS p e below T9 m 53 (L_rii a1 1 p2) [] _
  exact X9.returnOut hx hret (hb hby d23_53) hr
theorem rm20_1 (hw : OW Z a0) (a1 : Addr) (w4 : ClassId) (p5 : Int32) (Z0 : n0 ≤ h0.size) (P1 : Arv Z h0 a1 w4 .char (1 : Int32) [vi p5] (vi 0)) (P2 : ab2 Z (vi 1)) (P3 : Old Z n0 h0) (P4 : ab3 Z (vi 0)) (P5 : ab4 Z (vi 8)) :
    M20 l Z ws (orm 2 1 2 24) #[vr a1, vi 0, vi 1] h0 (fun v h L => ∃ b3 : Addr, ∃ kk2_0 : ClassId, v = some (vr b3) ∧ Fr n0 L ∧ Keep h0 h [] ∧ n0 ≤ b3 ∧ h0.size ≤ b3 ∧ Arv Z h b3 kk2_0 .byte (2 : Int32) [vi ((va4 p5).toInt8.toInt32), vi ((va5 p5).toInt8.toInt32)] (vi 0)) := by
  refine own_enter (plainFor_of_name pn_4) (L0 := (L_riiuu a1 0 1)) ?_
  intro p e s m below meth c s₁ hx hby hml hown hnm hret hZ X0 e0
  have N0 := Fr.nil n0
  obtain ⟨T2, L2, _, X2, ⟨b3, kk2_0, rfl, N2q, K2, qa2_0, qb2_0, f2_0⟩, st2⟩ := own_callS X0 hx hZ hown (cw_8 hw) (rm21_1 hw  Z0 ) e0 (Ls := (L_riiuu a1 0 1)) hml [vi 1] [] pd_13 0 (hb hby d20_1)
  have N2 := Fr.app N0 N2q
  have qd2_0 := Nat.le_trans (Nat.le_refl h0.size) qb2_0
  have F6 := (Arv.keep P1 K2 nin0)
  have F7 := (P3.keep K2 all0)
  obtain ⟨T8, L8, _, X8, ⟨rfl, N8q, K8, f8_0⟩, st8⟩ := own_callS X2 hx hZ hown (cw_9 hw) (rm23_1 hw b3 p5 kk2_0 (Nat.le_trans Z0 K2.1) P2 F7 P4 f2_0 qa2_0 P5) rfl (Ls := (L_riiri a1 0 1 b3 0)) hml [vr b3, vi 0, vi p5] [] pd_14 0 (hb hby d20_20)
  have N8 := Fr.app N2 N8q
  have K9 := (Keep.refl h0 []).trans K2 all0
  have K10 := K9.trans K8 (allS (Or.inr qd2_0) all0)
  refine ⟨T8, _, _, _, _, some (vr b3), X8, rfl, by decide, by decide, nofun, ⟨b3, kk2_0, rfl, N8, K10, qa2_0, qd2_0, f8_0⟩, fun fs hr => ?_⟩
  refine own_b X0 hx hby tb20 1 [] 1 _ [vi 1] rfl ?_
  refine st2 _ ?_
  refine own_a X2 hx hZ rfl hby tb20 (aec F6 aen) 11 [false] [0] 20 (L_riiri a1 0 1 b3 0) [vi p5, vi 0, vr b3] (ai (by decide) (ai rfl rfl)) ?_
  refine st8 _ ?_
  refine own_b X8 hx hby tb20 7 [true] 33 (L_riiri a1 1 1 b3 1) [vr b3] (ai (by decide) rfl) ?_
  exact own_retA X8 hx hret rfl (hb hby d20_33) hr
theorem rm24_1 (hw : OW Z a0) (a1 : Addr) (w3 : ClassId) (p4 p5 : Int32) (Z0 : n0 ≤ h0.size) (P1 : ab2 Z (vi 1)) (P2 : Old Z n0 h0) (P3 : Arv Z h0 a1 w3 .byte (2 : Int32) [vi p4, vi p5] (vi 0)) (P4 : ab3 Z (vi 0)) (P5 : ab4 Z (vi 8)) :
    M24 l Z ws (orm 0 0 0 0) #[vr a1, vi 0] h0 (QI n0 h0 (vi (nar .char (va8 p4 p5)))) := by
  refine own_enter (plainFor_of_name pn_4) (L0 := (L_ri a1 0)) ?_
  intro p e s m below meth c s₁ hx hby hml hown hnm hret hZ X0 e0
  have N0 := Fr.nil n0
  obtain ⟨T2, X2, e2, st2⟩ := getS2 X0 hx hZ hown (host := "") (Or.inl (tw_101 hw)) Via.refl e0 (Sta.ext P2.2 P1) (g := (mkF m 0 (L_ri a1 0) [])) rfl (hb hby d24_0)
  obtain ⟨T6, X6, e6, st6⟩ := getS2 X2 hx hZ hown (host := "") (Or.inl (tw_102 hw)) Via.refl e2 (Sta.ext P2.2 P4) (g := (mkF m 42 (L_ri a1 1) [vi (p4 &&& (255 : Int32))])) rfl (hb hby d24_42)
  obtain ⟨T7, X7, e7, st7⟩ := getS2 X6 hx hZ hown (host := "") (Or.inl (tw_103 hw)) Via.refl e6 (Sta.ext P2.2 P5) (g := (mkF m 53 (L_ri a1 1) [vi (p5 &&& (255 : Int32)), vi (va6 p4)])) rfl (hb hby d24_53)
  refine ⟨T7, _, _, _, _, some (vi (nar .char (va8 p4 p5))), X7, e7, by decide, by decide, nofun, ⟨rfl, N0, rfl⟩, fun fs hr => ?_⟩
  show OS p e below s₁ m 0 (L_ri a1 0) [] _
  refine st2 _ ?_
  refine own_a X2 hx hZ e2 hby tb24 (aec P3 aen) 11 [true] [0] 42 (L_ri a1 1) [vi (p4 &&& (255 : Int32))] (ai (by decide) (ai rfl rfl)) ?_
  refine st6 _ ?_
  refine own_a X6 hx hZ e6 hby tb24 (aec P3 aen) 6 [] [0] 53 _ [vi (p5 &&& (255 : Int32)), vi (va6 p4)] (ai rfl rfl) ?_
  refine st7 _ ?_
  refine own_b X7 hx hby tb24 3 [] 59 _ [vi (va8 p4 p5)] rfl ?_
  exact retN X7 hx (t := .char) hret (by simp) (hb hby d24_59) hr
theorem rm16_1 (hw : OW Z a0) (a1 : Addr) (w4 : ClassId) (p5 : Int32) (Z0 : n0 ≤ h0.size) (P1 : Arv Z h0 a1 w4 .char (1 : Int32) [vi p5] (vi 0)) (P2 : (255 : Int32) < p5) (P3 : ab2 Z (vi 1)) (P4 : Old Z n0 h0) (P5 : ab3 Z (vi 0)) (P6 : ab4 Z (vi 8)) (P7 : (255 : Int32) < (nar .char (va8 ((va4 p5).toInt8.toInt32) ((va5 p5).toInt8.toInt32)))) :
    M16 l Z ws (orm 3 2 3 40) #[vr a1, vi 0, vi 1] h0 (fun v h L => ∃ b10 : Addr, ∃ kk9_0 : ClassId, v = some (vr b10) ∧ Fr n0 L ∧ Keep h0 h [] ∧ n0 ≤ b10 ∧ h0.size ≤ b10 ∧ Arv Z h b10 kk9_0 .byte (2 : Int32) [vi ((va4 p5).toInt8.toInt32), vi ((va5 p5).toInt8.toInt32)] (vi 0)) := by
  refine own_enter (plainFor_of_name pn_4) (L0 := (L_riiuuu a1 0 1)) ?_
  intro p e s m below meth c s₁ hx hby hml hown hnm hret hZ X0 e0
  have N0 := Fr.nil n0
  obtain ⟨T3, h3, b2, k3, X3, e3, E3, g3, V3, st3⟩ := own_newP X0 hx hZ (tw_23 hw) e0 (n := (1 : Int32)) (k := 1) (d := (vi 0)) (vs := [vi 0]) (Ls := (L_riiuuu a1 0 1)) (S := []) (hb hby d16_1)
  have q3 := Nat.le_trans Z0 g3
  have z3 := Nat.le_trans (Nat.le_refl h0.size) g3
  have F6 := (P1.ext E3)
  obtain ⟨T7, L7, _, X7, ⟨rfl, N7q, e7q⟩, st7⟩ := own_callS X3 hx hZ hown (cw_6 hw) (rm17_1 hw a1 b2 w4 p5 (Nat.le_trans Z0 E3.1) F6 P2) e3 (Ls := (L_riiruu a1 0 1 b2)) hml [vr a1, vi 0, vr b2, vi 0, vi 1] [] pd_12 0 (hb hby d16_9)
  have N7 := Fr.app N0 N7q
  have F8 := (P4.ext E3)
  obtain ⟨T9, L9, _, X9, ⟨b10, kk9_0, rfl, N9q, K9, qa9_0, qb9_0, f9_0⟩, st9⟩ := own_callS X7 hx hZ hown (cw_10 hw) (rm20_1 hw a1 w4 p5 (Nat.le_trans Z0 E3.1) F6 P3 F8 P5 P6) e7q (Ls := (L_riiriu a1 0 1 b2 0)) hml [vr a1, vi 0, vi 1] [] pd_15 0 (hb hby d16_23)
  have N9 := Fr.app N7 N9q
  have qd9_0 := Nat.le_trans (Nat.le_trans (Nat.le_refl h0.size) E3.1) qb9_0
  have F11 := (F8.keep K9 all0)
  obtain ⟨T12, L12, _, X12, ⟨rfl, N12q, e12q⟩, st12⟩ := own_callS X9 hx hZ hown (cw_11 hw) (rm24_1 hw b10 kk9_0 ((va4 p5).toInt8.toInt32) ((va5 p5).toInt8.toInt32) (Nat.le_trans (Nat.le_trans Z0 E3.1) K9.1) P3 F11 f9_0 P5 P6) rfl (Ls := (L_riirir a1 0 1 b2 0 b10)) hml [vr b10, vi 0] [] pd_16 0 (hb hby d16_32)
  have N12 := Fr.app N9 N12q
  have K13 := (Keep.refl h0 []).ext E3
  have K14 := K13.trans K9 all0
  refine ⟨T12, _, _, _, _, some (vr b10), X12, e12q, by decide, by decide, nofun, ⟨b10, kk9_0, rfl, N12, K14, qa9_0, qd9_0, f9_0⟩, fun fs hr => ?_⟩
  refine own_b X0 hx hby tb16 1 [] 1 _ [vi 1] rfl ?_
  refine st3 _ ?_
  refine own_b X3 hx hby tb16 6 [] 9 (L_riiruu a1 0 1 b2) [vi 1, vi 0, vr b2, vi 0, vr a1] rfl ?_
  refine st7 _ ?_
  refine own_b X7 hx hby tb16 7 [false] 23 (L_riiriu a1 0 1 b2 0) [vi 1, vi 0, vr a1] (ai (by decide) rfl) ?_
  refine st9 _ ?_
  refine own_b X9 hx hby tb16 3 [] 32 (L_riirir a1 0 1 b2 0 b10) [vi 0, vr b10] rfl ?_
  refine st12 _ ?_
  refine own_b X12 hx hby tb16 3 [true] 56 _ [vr b10] (ai (tlt P7).2.2.1 rfl) ?_
  exact own_retA X12 hx hret rfl (hb hby d16_56) hr
theorem rm18_1 (hw : OW Z a0) (a1 : Addr) (w2 : ClassId) (p3 p4 : Int32) (Z0 : n0 ≤ h0.size) (P1 : Arv Z h0 a1 w2 .byte (2 : Int32) [vi p3, vi p4] (vi 0)) :
    M18 l Z ws (orm 0 0 0 0) #[vr a1, vi 1] h0 (QI n0 h0 (vi 1)) := by
  refine own_enter (plainFor_of_name pn_4) (L0 := (L_ri a1 1)) ?_
  intro p e s m below meth c s₁ hx hby hml hown hnm hret hZ X0 e0
  have N0 := Fr.nil n0
  refine ⟨s₁, _, _, _, _, some (vi 1), X0, e0, by decide, by decide, nofun, ⟨rfl, N0, rfl⟩, fun fs hr => ?_⟩
  refine own_a X0 hx hZ e0 hby tb18 (aec P1 aen) 7 [] [0] 8 _ [vi 1] (ai rfl rfl) ?_
  exact retN X0 hx (t := .byte) hret (by simp) (hb hby d18_8) hr
theorem rm4_2 (hw : OW Z a0) (a1 a2 : Addr) (p4 : Int32) (w6 : ClassId) (p7 : Int32) (Z0 : n0 ≤ h0.size) (P1 : ab1 Z (vi p4)) (P2 : Old Z n0 h0) (P3 : ¬ (p4 = (0 : Int32))) (P4 : Arv Z h0 a2 w6 .char (1 : Int32) [vi p7] (vi 0)) (P5 : (255 : Int32) < p7) (P6 : ab2 Z (vi 1)) (P7 : ab3 Z (vi 0)) (P8 : ab4 Z (vi 8)) (P9 : (255 : Int32) < (nar .char (va8 ((va4 p7).toInt8.toInt32) ((va5 p7).toInt8.toInt32)))) (P10 : ab6 Z h0 a1 (vi 0)) (P11 : ab8 Z h0 a1) (P12 : n0 ≤ a1) (P13 : ab7 Z h0 a1 .null) :
    M4 l Z ws (orm 4 2 3 57) #[vr a1, vr a2, vi 0, vi 1, .null] h0 (fun v h L => ∃ b9 : Addr, ∃ kk8_0 : ClassId, v = none ∧ Fr n0 L ∧ Keep h0 h [a1] ∧ n0 ≤ b9 ∧ h0.size ≤ b9 ∧ ab6 Z h a1 (vi 1) ∧ ab7 Z h a1 (vr b9) ∧ Arv Z h b9 kk8_0 .byte (2 : Int32) [vi ((va4 p7).toInt8.toInt32), vi ((va5 p7).toInt8.toInt32)] (vi 0)) := by
  refine own_enter (plainFor_of_name pn_1) (L0 := (L_rriinu a1 a2 0 1)) ?_
  intro p e s m below meth c s₁ hx hby hml hown hnm hret hZ X0 e0
  have N0 := Fr.nil n0
  obtain ⟨T3, X3, e3, st3⟩ := initO X0 hx hZ hown (tw_19 hw) (tw_20 hw) (tw_21 hw) e0 (g := (mkF m 1 (L_rriinu a1 a2 0 1) [vr a1])) rfl (by rw [hml]; rfl) rfl (hb hby d4_1) (by decide) (W := 0) (by show 2 * 0 + _ ≤ _; exact Nat.le_of_eq rfl) (by decide)
  obtain ⟨T5, X5, e5, st5⟩ := getS2 X3 hx hZ hown (host := "") (Or.inl (tw_49 hw)) Via.refl e3 (Sta.ext P2.2 P1) (g := (mkF m 27 (L_rriinu a1 a2 0 1) [])) rfl (hb hby d4_27)
  obtain ⟨T8, L8, _, X8, ⟨b9, kk8_0, rfl, N8q, K8, qa8_0, qb8_0, f8_0⟩, st8⟩ := own_callS X5 hx hZ hown (cw_12 hw) (rm16_1 hw a2 w6 p7 Z0 P4 P5 P6 P2 P7 P8 P9) e5 (Ls := (L_rriinu a1 a2 0 1)) hml [vr a2, vi 0, vi 1] [] pd_15 0 (hb hby d4_36)
  have N8 := Fr.app N0 N8q
  have qd8_0 := Nat.le_trans (Nat.le_refl h0.size) qb8_0
  obtain ⟨T10, L10, _, X10, ⟨rfl, N10q, e10q⟩, st10⟩ := own_callS X8 hx hZ hown (cw_13 hw) (rm18_1 hw b9 kk8_0 ((va4 p7).toInt8.toInt32) ((va5 p7).toInt8.toInt32) (Nat.le_trans Z0 K8.1) f8_0) rfl (Ls := (L_rriinr a1 a2 0 1 b9)) hml [vr b9, vi 1] [vr a1] pd_17 1 (hb hby d4_45)
  have N10 := Fr.app N8 N10q
  have F11 := (Fld.keep P10 K8 nin0)
  have F12 := (Exa.keep P11 K8)
  obtain ⟨T13, h13, X13, e13, W13, st13⟩ := putF X10 hx hZ hown (host := "") (Or.inl (tw_29 hw)) Via.refl e10q F11 F12 (Or.inr ⟨(tw_25 hw), rfl, hnm⟩) (tw_9 hw) (ty := .byte) (by decide) rfl rfl (g := (mkF m 48 (L_rriinr a1 a2 0 1 b9) [vi 1, vr a1])) rfl rfl (hb hby d4_48)
  have N13 := Fr.snoc X13 N10 P12
  have Fw13 := Fld.same W13 F11
  have F14 := (Fld.other W13 (Fld.keep P13 K8 nin0) (Or.inr (slot_ne (Or.inr (tw_24 hw)) (Or.inr (tw_25 hw)) (by decide) (t := (.array .byte)) (t' := .byte) (by decide) (by decide))))
  have F15 := (Exa.wr W13 F12)
  obtain ⟨T16, h16, X16, e16, W16, st16⟩ := putF X13 hx hZ hown (host := "") (Or.inl (tw_28 hw)) Via.refl e13 F14 F15 (Or.inr ⟨(tw_24 hw), rfl, hnm⟩) (tw_9 hw) (ty := (.array .byte)) (by decide) rfl rfl (g := (mkF m 54 (L_rriinr a1 a2 0 1 b9) [vr b9, vr a1])) rfl rfl (hb hby d4_54)
  have N16 := Fr.snoc X16 N13 P12
  have Fw16 := Fld.same W16 F14
  have F17 := (Fld.other W16 Fw13 (Or.inr (slot_ne (Or.inr (tw_25 hw)) (Or.inr (tw_24 hw)) (by decide) (t := .byte) (t' := (.array .byte)) (by decide) (by decide))))
  have n18 := Nat.ne_of_lt (Nat.lt_of_lt_of_le P10.lt qb8_0)
  have F19 := (Arv.other (Arv.other f8_0 W13 (Ne.symm n18)) W16 (Ne.symm n18))
  have K20 := (Keep.refl h0 [a1]).trans K8 all0
  have K21 := K20.wr W13 (Or.inl (List.mem_of_getElem? (i := 0) rfl))
  have K22 := K21.wr W16 (Or.inl (List.mem_of_getElem? (i := 0) rfl))
  refine ⟨T16, _, _, _, _, none, X16, e16, by decide, by decide, (fun _ => rfl), ⟨b9, kk8_0, rfl, N16, K22, qa8_0, qd8_0, F17, Fw16, F19⟩, fun fs hr => ?_⟩
  refine own_b X0 hx hby tb4 1 [] 1 _ [vr a1] rfl ?_
  refine st3 _ ?_
  refine own_b X3 hx hby tb4 2 [true] 27 _ [] (ai (by decide) rfl) ?_
  refine st5 _ ?_
  refine own_b X5 hx hby tb4 4 [false] 36 _ [vi 1, vi 0, vr a2] (ai (feq P3).1 rfl) ?_
  refine st8 _ ?_
  refine own_b X8 hx hby tb4 4 [] 45 (L_rriinr a1 a2 0 1 b9) [vi 1, vr b9, vr a1] rfl ?_
  refine st10 _ ?_
  refine st13 _ ?_
  refine own_b X13 hx hby tb4 2 [] 54 _ [vr b9, vr a1] rfl ?_
  refine st16 _ ?_
  show OS p e below T16 m 57 (L_rriinr a1 a2 0 1 b9) [] _
  exact X16.returnOut hx hret (hb hby d4_57) hr
theorem rm3_2 (hw : OW Z a0) (a1 a2 : Addr) (w3 : ClassId) (p4 p5 : Int32) (Z0 : n0 ≤ h0.size) (P1 : Arv Z h0 a2 w3 .char (1 : Int32) [vi p4] (vi 0)) (P2 : ab1 Z (vi p5)) (P3 : Old Z n0 h0) (P4 : ¬ (p5 = (0 : Int32))) (P5 : (255 : Int32) < p4) (P6 : ab2 Z (vi 1)) (P7 : ab3 Z (vi 0)) (P8 : ab4 Z (vi 8)) (P9 : (255 : Int32) < (nar .char (va8 ((va4 p4).toInt8.toInt32) ((va5 p4).toInt8.toInt32)))) (P10 : ab6 Z h0 a1 (vi 0)) (P11 : ab8 Z h0 a1) (P12 : n0 ≤ a1) (P13 : ab7 Z h0 a1 .null) :
    M3 l Z ws (orm 5 2 3 74) #[vr a1, vr a2] h0 (fun v h L => ∃ b7 : Addr, ∃ kk6_0 : ClassId, v = none ∧ Fr n0 L ∧ Keep h0 h [a1] ∧ n0 ≤ b7 ∧ h0.size ≤ b7 ∧ ab6 Z h a1 (vi 1) ∧ ab7 Z h a1 (vr b7) ∧ Arv Z h b7 kk6_0 .byte (2 : Int32) [vi ((va4 p4).toInt8.toInt32), vi ((va5 p4).toInt8.toInt32)] (vi 0)) := by
  refine own_enter (plainFor_of_name pn_1) (L0 := (L_rr a1 a2)) ?_
  intro p e s m below meth c s₁ hx hby hml hown hnm hret hZ X0 e0
  have N0 := Fr.nil n0
  obtain ⟨T6, L6, _, X6, ⟨b7, kk6_0, rfl, N6q, K6, qa6_0, qb6_0, f6_0, f6_1, f6_2⟩, st6⟩ := own_callI X0 hx hZ hown (cw_14 hw) (rm4_2 hw a1 a2 p5 w3 p4 Z0 P2 P3 P4 P1 P5 P6 P7 P8 P9 P10 P11 P12 P13) e0 (Ls := (L_rr a1 a2)) hml a1 [vr a2, vi 0, vi 1, .null] [] pd_1 0 (hb hby d3_6)
  have N6 := Fr.app N0 N6q
  have qd6_0 := Nat.le_trans (Nat.le_refl h0.size) qb6_0
  have K8 := (Keep.refl h0 [a1]).trans K6 (allS (Or.inl (List.mem_of_getElem? (i := 0) rfl)) all0)
  refine ⟨T6, _, _, _, _, none, X6, rfl, by decide, by decide, (fun _ => rfl), ⟨b7, kk6_0, rfl, N6, K8, qa6_0, qd6_0, f6_0, f6_1, f6_2⟩, fun fs hr => ?_⟩
  refine own_a X0 hx hZ e0 hby tb3 (aec P1 aen) 6 [] [0] 6 _ [.null, vi 1, vi 0, vr a2, vr a1] (ai rfl rfl) ?_
  refine st6 _ ?_
  show OS p e below T6 m 9 (L_rr a1 a2) [] _
  exact X6.returnOut hx hret (hb hby d3_9) hr
theorem rm2_2 (hw : OW Z a0) (p1 p2 p3 p4 p12 : Int32) (Z0 : n0 ≤ h0.size) (P1 : ab1 Z (vi p12)) (P2 : Old Z n0 h0) (P3 : ¬ (p12 = (0 : Int32))) (P4 : (255 : Int32) < (nar .char p1)) (P5 : ab2 Z (vi 1)) (P6 : ab3 Z (vi 0)) (P7 : ab4 Z (vi 8)) (P8 : (255 : Int32) < (nar .char (va8 ((va4 (nar .char p1)).toInt8.toInt32) ((va5 (nar .char p1)).toInt8.toInt32)))) :
    M2 l Z ws (orm 6 4 8 88) #[vi 1, vi p1, vi p2, vi p3, vi p4] h0 (fun v h L => ∃ b5 : Addr, ∃ b20 : Addr, ∃ kk18_0 : ClassId, v = some (vr b5) ∧ Fr n0 L ∧ Keep h0 h [] ∧ n0 ≤ b5 ∧ h0.size ≤ b5 ∧ n0 ≤ b20 ∧ h0.size ≤ b20 ∧ b5 ≠ b20 ∧ ab8 Z h b5 ∧ ab6 Z h b5 (vi 1) ∧ ab7 Z h b5 (vr b20) ∧ Arv Z h b20 kk18_0 .byte (2 : Int32) [vi ((va4 (nar .char p1)).toInt8.toInt32), vi ((va5 (nar .char p1)).toInt8.toInt32)] (vi 0)) := by
  refine own_enter (plainFor_of_name pn_0) (L0 := (L_iiiii 1 p1 p2 p3 p4)) ?_
  intro p e s m below meth c s₁ hx hby hml hown hnm hret hZ X0 e0
  have N0 := Fr.nil n0
  obtain ⟨T6, h6, b5, X6, e6, E6, g6, A6, D6, st6⟩ := own_new X0 hx hZ hown (tw_8 hw) (tw_9 hw) (tw_10 hw) e0 (Ls := (L_iiiii 1 p1 p2 p3 p4)) (S := []) (hb hby d2_20)
  have q6 := Nat.le_trans Z0 g6
  have z6 := Nat.le_trans (Nat.le_refl h0.size) g6
  have F7 : ab7 Z h6 b5 .null := D6 (Or.inr (tw_24 hw)) (ty := (.array .byte)) (by decide)
  have F8 : ab6 Z h6 b5 (vi 0) := D6 (Or.inr (tw_25 hw)) (ty := .byte) (by decide)
  obtain ⟨T10, h10, b9, k10, X10, e10, E10, g10, V10, st10⟩ := own_newP X6 hx hZ (tw_11 hw) e6 (n := (1 : Int32)) (k := 1) (d := (vi 0)) (vs := [vi 0]) (Ls := (L_iiiii 1 p1 p2 p3 p4)) (S := [vr b5, vr b5]) (hb hby d2_25)
  have q10 := Nat.le_trans (Nat.le_trans Z0 E6.1) g10
  have z10 := Nat.le_trans (Nat.le_trans (Nat.le_refl h0.size) E6.1) g10
  obtain ⟨T11, h11, X11, e11, W11, V11, st11⟩ := own_stC X10 hx hZ e10 V10 (j := (0 : Int32)) (x := p1) (by decide) 0 rfl (Nat.le_of_ble_eq_true rfl) (Ls := (L_iiiii 1 p1 p2 p3 p4)) (rest := [vr b9, vr b5, vr b5]) (hb hby d2_30)
  have N11 := Fr.snoc X11 N0 q10
  have F13 := (((P2.ext E6).ext E10).wr W11 q10)
  have n14 := Nat.ne_of_lt (Nat.lt_of_lt_of_le A6.lt g10)
  have F15 := (Fld.other W11 (Fld.ext E10 F8) (Or.inl n14))
  have F16 := (Exa.wr W11 (Exa.ext E10 A6))
  have F17 := (Fld.other W11 (Fld.ext E10 F7) (Or.inl n14))
  have F19 := (Nat.le_trans (Nat.le_trans (Nat.le_trans Z0 E6.1) E10.1) (Keep.of_wr W11).1)
  obtain ⟨T18, L18, _, X18, ⟨b20, kk18_0, rfl, N18q, K18, qa18_0, qb18_0, f18_0, f18_1, f18_2⟩, st18⟩ := own_callI X11 hx hZ hown (cw_15 hw) (rm3_2 hw b5 b9 k10 (nar .char p1) p12 F19 V11 P1 F13 P3 P4 P5 P6 P7 P8 F15 F16 q6 F17) e11 (Ls := (L_iiiii 1 p1 p2 p3 p4)) hml b5 [vr b9] [vr b5] pd_2 1 (hb hby d2_31)
  have N18 := Fr.app N11 N18q
  have F21 := (Nat.le_trans (Nat.le_trans (Nat.le_trans (Nat.le_refl h0.size) E6.1) E10.1) (Keep.of_wr W11).1)
  have qd18_0 := Nat.le_trans F21 qb18_0
  have F22 := (Exa.keep F16 K18)
  have K23 := (Keep.refl h0 []).ext E6
  have K24 := K23.ext E10
  have K25 := K24.wr W11 (Or.inr z10)
  have K26 := K25.trans K18 (allS (Or.inr z6) all0)
  have n27 := Nat.ne_of_lt (Nat.lt_of_lt_of_le F15.lt qb18_0)
  refine ⟨T18, _, _, _, _, some (vr b5), X18, rfl, by decide, by decide, nofun, ⟨b5, b20, kk18_0, rfl, N18, K26, q6, z6, qa18_0, qd18_0, n27, F22, f18_0, f18_1, f18_2⟩, fun fs hr => ?_⟩
  refine own_b X0 hx hby tb2 5 [true, false] 20 _ [] (ai (by decide) (ai (by decide) rfl)) ?_
  refine st6 _ ?_
  refine own_b X6 hx hby tb2 2 [] 25 _ [vi 1, vr b5, vr b5] rfl ?_
  refine st10 _ ?_
  refine own_b X10 hx hby tb2 3 [] 30 _ [vi p1, vi 0, vr b9, vr b9, vr b5, vr b5] rfl ?_
  refine st11 _ ?_
  refine st18 _ ?_
  exact own_retA X18 hx hret rfl (hb hby d2_34) hr
theorem rm9_2 (hw : OW Z a0) (a1 : Addr) (p2 : Int32) (Z0 : n0 ≤ h0.size) (P1 : ab1 Z (vi p2)) (P2 : Old Z n0 h0) (P3 : ¬ (p2 = (0 : Int32))) (P4 : ab6 Z h0 a1 (vi 1)) :
    M9 l Z ws (orm 0 0 0 0) #[vr a1] h0 (QI n0 h0 (vi 0)) := by
  refine own_enter (plainFor_of_name pn_1) (L0 := #[sr a1]) ?_
  intro p e s m below meth c s₁ hx hby hml hown hnm hret hZ X0 e0
  have N0 := Fr.nil n0
  obtain ⟨T3, X3, e3, st3⟩ := getS2 X0 hx hZ hown (host := "") (Or.inl (tw_49 hw)) Via.refl e0 (Sta.ext P2.2 P1) (g := (mkF m 0 #[sr a1] [])) rfl (hb hby d9_0)
  obtain ⟨T4, X4, e4, st4⟩ := getF X3 hx hZ hown (host := "") (Or.inl (tw_29 hw)) Via.refl e3 P4 (g := (mkF m 7 #[sr a1] [vr a1])) rfl rfl (hb hby d9_7)
  refine ⟨T4, _, _, _, _, some (vi 0), X4, e4, by decide, by decide, nofun, ⟨rfl, N0, rfl⟩, fun fs hr => ?_⟩
  show OS p e below s₁ m 0 #[sr a1] [] _
  refine st3 _ ?_
  refine own_b X3 hx hby tb9 2 [false] 7 _ [vr a1] (ai (feq P3).1 rfl) ?_
  refine st4 _ ?_
  refine own_b X4 hx hby tb9 2 [true] 18 _ [vi 0] (ai (by decide) rfl) ?_
  exact retN X4 hx (t := .boolean) hret (by simp) (hb hby d9_18) hr
theorem rm11_2 (hw : OW Z a0) (a1 : Addr) (p2 : Int32) (Z0 : n0 ≤ h0.size) (P1 : ab1 Z (vi p2)) (P2 : Old Z n0 h0) (P3 : ¬ (p2 = (0 : Int32))) (P4 : ab6 Z h0 a1 (vi 1)) :
    M11 l Z ws (orm 0 0 0 0) #[vr a1] h0 (QI n0 h0 (vi 1)) := by
  refine own_enter (plainFor_of_name pn_1) (L0 := #[sr a1]) ?_
  intro p e s m below meth c s₁ hx hby hml hown hnm hret hZ X0 e0
  have N0 := Fr.nil n0
  obtain ⟨T3, X3, e3, st3⟩ := getS2 X0 hx hZ hown (host := "") (Or.inl (tw_49 hw)) Via.refl e0 (Sta.ext P2.2 P1) (g := (mkF m 0 #[sr a1] [])) rfl (hb hby d11_0)
  obtain ⟨T4, X4, e4, st4⟩ := getF X3 hx hZ hown (host := "") (Or.inl (tw_29 hw)) Via.refl e3 P4 (g := (mkF m 7 #[sr a1] [vr a1])) rfl rfl (hb hby d11_7)
  refine ⟨T4, _, _, _, _, some (vi 1), X4, e4, by decide, by decide, nofun, ⟨rfl, N0, rfl⟩, fun fs hr => ?_⟩
  show OS p e below s₁ m 0 #[sr a1] [] _
  refine st3 _ ?_
  refine own_b X3 hx hby tb11 2 [false] 7 _ [vr a1] (ai (feq P3).1 rfl) ?_
  refine st4 _ ?_
  refine own_b X4 hx hby tb11 1 [] 14 _ [vi 1] rfl ?_
  exact retN X4 hx (t := .byte) hret (by simp) (hb hby d11_14) hr
theorem rm10_2 (hw : OW Z a0) (a1 a2 : Addr) (w4 : ClassId) (p5 p6 p7 : Int32) (Z0 : n0 ≤ h0.size) (P1 : ab7 Z h0 a1 (vr a2)) (P2 : Arv Z h0 a2 w4 .byte (2 : Int32) [vi p5, vi p6] (vi 0)) (P3 : ab8 Z h0 a1) (P4 : ab1 Z (vi p7)) (P5 : Old Z n0 h0) (P6 : ¬ (p7 = (0 : Int32))) (P7 : ab6 Z h0 a1 (vi 1)) :
    M10 l Z ws (orm 1 0 0 13) #[vr a1] h0 (QI n0 h0 (vi 1)) := by
  refine own_enter (plainFor_of_name pn_1) (L0 := #[sr a1]) ?_
  intro p e s m below meth c s₁ hx hby hml hown hnm hret hZ X0 e0
  have N0 := Fr.nil n0
  obtain ⟨T3, X3, e3, st3⟩ := getF X0 hx hZ hown (host := "") (Or.inl (tw_28 hw)) Via.refl e0 P1 (g := (mkF m 1 #[sr a1] [vr a1])) rfl rfl (hb hby d10_1)
  obtain ⟨T8, L8, _, X8, ⟨rfl, N8q, e8q⟩, st8⟩ := own_callV X3 hx hZ hown (tw_55 hw) (tw_56 hw) (notFace_of_selects (args := #[]) (mvT hZ (tw_58 hw))) (tw_58 hw) (tw_57 hw) (tw_10 hw) (tw_59 hw) (rm11_2 hw a1 p7 Z0 P4 P5 P6 P7) e3 P3 (Ls := #[sr a1]) hml [] [vi 2] pd_5 1 (hb hby d10_6)
  have N8 := Fr.app N0 N8q
  refine ⟨T8, _, _, _, _, some (vi 1), X8, e8q, by decide, by decide, nofun, ⟨rfl, N8, rfl⟩, fun fs hr => ?_⟩
  refine own_b X0 hx hby tb10 1 [] 1 _ [vr a1] rfl ?_
  refine st3 _ ?_
  refine own_a X3 hx hZ e3 hby tb10 (aec P2 aen) 2 [] [0] 6 _ [vr a1, vi 2] (ai rfl rfl) ?_
  refine st8 _ ?_
  refine own_b X8 hx hby tb10 1 [] 10 _ [vi 1] rfl ?_
  exact retI X8 hx hret (hb hby d10_10) hr
theorem rm15_2 (hw : OW Z a0)  (Z0 : n0 ≤ h0.size) :
    M15 l Z ws (orm 0 0 0 0) #[vi 1, vi 1] h0 (QI n0 h0 (vi 1)) := by
  refine own_enter (Jvm.Free.JP.mathPlain rfl (by decide +kernel)) (L0 := (L_ii 1 1)) ?_
  intro p e s m below meth c s₁ hx hby hml hown hnm hret hZ X0 e0
  have N0 := Fr.nil n0
  refine ⟨s₁, _, _, _, _, some (vi 1), X0, e0, by decide, by decide, nofun, ⟨rfl, N0, rfl⟩, fun fs hr => ?_⟩
  refine own_b X0 hx hby tb15 5 [false] 10 _ [vi 1] (ai (by decide) rfl) ?_
  exact retI X0 hx hret (hb hby d15_10) hr
theorem rm28_1 (hw : OW Z a0) (a1 : Addr) (w2 : ClassId) (p3 p4 : Int32) (Z0 : n0 ≤ h0.size) (P1 : Arv Z h0 a1 w2 .byte (2 : Int32) [vi p3, vi p4] (vi 0)) :
    M28 l Z ws (orm 0 0 0 0) #[vr a1] h0 (QI n0 h0 (vi 1)) := by
  refine own_enter (plainFor_of_name pn_4) (L0 := #[sr a1]) ?_
  intro p e s m below meth c s₁ hx hby hml hown hnm hret hZ X0 e0
  have N0 := Fr.nil n0
  refine ⟨s₁, _, _, _, _, some (vi 1), X0, e0, by decide, by decide, nofun, ⟨rfl, N0, rfl⟩, fun fs hr => ?_⟩
  refine own_a X0 hx hZ e0 hby tb28 (aec P1 aen) 4 [] [0] 4 _ [vi 1] (ai rfl rfl) ?_
  exact retI X0 hx hret (hb hby d28_4) hr
theorem rm30_1 (hw : OW Z a0) (a1 : Value) (Z0 : n0 ≤ h0.size) (P1 : a1.isRef = true) :
    M30 l Z ws (orm 0 0 0 0) #[vi 0, vi 1, vi 1, a1] h0 (QI n0 h0 (vi 0)) := by
  refine own_enter (plainFor_of_name pn_5) (L0 := #[si 0, si 1, si 1, .val a1]) (hef := fun m => by rcases ref_cases P1 with h0 | ⟨_, h0⟩ <;> simp only [h0] <;> first | rfl | (simp [entryFrame, mkF, argsToLocals, Value.category]; done)) ?_
  intro p e s m below meth c s₁ hx hby hml hown hnm hret hZ X0 e0
  have N0 := Fr.nil n0
  refine ⟨s₁, _, _, _, _, some (vi 0), X0, e0, by decide, by decide, nofun, ⟨rfl, N0, rfl⟩, fun fs hr => ?_⟩
  refine own_b X0 hx hby tb30 9 [false, false, true] 23 _ [vi 0] (ai (by decide) (ai (by decide) (ai (by decide) rfl))) ?_
  exact retI X0 hx hret (hb hby d30_23) hr
theorem rm29_1 (hw : OW Z a0) (a1 : Value) (Z0 : n0 ≤ h0.size) (P1 : ab5 Z a1) (P2 : Old Z n0 h0) (P3 : a1.isRef = true) :
    M29 l Z ws (orm 1 0 0 15) #[vi 0, vi 1, vi 1] h0 (fun v h L => v = none ∧ Fr n0 L ∧ h = h0) := by
  refine own_enter (plainFor_of_name pn_1) (L0 := (L_iii 0 1 1)) ?_
  intro p e s m below meth c s₁ hx hby hml hown hnm hret hZ X0 e0
  have N0 := Fr.nil n0
  obtain ⟨T2, X2, e2, st2⟩ := getS2 X0 hx hZ hown (host := "") (Or.inl (tw_125 hw)) Via.refl e0 (Sta.ext P2.2 P1) (g := (mkF m 3 (L_iii 0 1 1) [vi 1, vi 1, vi 0])) rfl (hb hby d29_3)
  obtain ⟨T3, L3, _, X3, ⟨rfl, N3q, e3q⟩, st3⟩ := own_callS X2 hx hZ hown (cw_20 hw) (rm30_1 hw a1 Z0 P3) e2 (Ls := (L_iii 0 1 1)) hml [vi 0, vi 1, vi 1, a1] [] pd_19 0 (hb hby d29_6)
  have N3 := Fr.app N0 N3q
  refine ⟨T3, _, _, _, _, none, X3, e3q, by decide, by decide, (fun _ => rfl), ⟨rfl, N3, rfl⟩, fun fs hr => ?_⟩
  refine own_b X0 hx hby tb29 3 [] 3 _ [vi 1, vi 1, vi 0] rfl ?_
  refine st2 _ ?_
  refine st3 _ ?_
  refine own_b X3 hx hby tb29 1 [] 10 _ [] rfl ?_
  exact X3.returnOut hx hret (hb hby d29_10) hr
theorem rm27_1 (hw : OW Z a0) (a1 : Addr) (w2 : ClassId) (p3 p4 : Int32) (a6 : Value) (Z0 : n0 ≤ h0.size) (P1 : Arv Z h0 a1 w2 .byte (2 : Int32) [vi p3, vi p4] (vi 0)) (P2 : ab5 Z a6) (P3 : Old Z n0 h0) (P4 : a6.isRef = true) :
    M27 l Z ws (orm 2 0 0 29) #[vi 0, vi 1, vr a1] h0 (fun v h L => v = none ∧ Fr n0 L ∧ h = h0) := by
  refine own_enter (plainFor_of_name pn_4) (L0 := (L_iir 0 1 a1)) ?_
  intro p e s m below meth c s₁ hx hby hml hown hnm hret hZ X0 e0
  have N0 := Fr.nil n0
  obtain ⟨T5, L5, _, X5, ⟨rfl, N5q, e5q⟩, st5⟩ := own_callS X0 hx hZ hown (cw_19 hw) (rm28_1 hw a1 w2 p3 p4 Z0 P1) e0 (Ls := (L_iir 0 1 a1)) hml [vr a1] [vi 1, vi 0] pd_18 2 (hb hby d27_3)
  have N5 := Fr.app N0 N5q
  obtain ⟨T7, L7, _, X7, ⟨rfl, N7q, e7q⟩, st7⟩ := own_callS X5 hx hZ hown (cw_21 hw) (rm29_1 hw a6 Z0 P2 P3 P4) e5q (Ls := (L_iir 0 1 a1)) hml [vi 0, vi 1, vi 1] [] pd_20 0 (hb hby d27_6)
  have N7 := Fr.app N5 N7q
  refine ⟨T7, _, _, _, _, none, X7, e7q, by decide, by decide, (fun _ => rfl), ⟨rfl, N7, rfl⟩, fun fs hr => ?_⟩
  refine own_b X0 hx hby tb27 3 [] 3 _ [vr a1, vi 1, vi 0] rfl ?_
  refine st5 _ ?_
  refine st7 _ ?_
  show OS p e below T7 m 9 (L_iir 0 1 a1) [] _
  exact X7.returnOut hx hret (hb hby d27_9) hr
theorem rm31_1 (hw : OW Z a0) (a1 : Addr) (w2 : ClassId) (p3 p4 : Int32) (Z0 : n0 ≤ h0.size) (P1 : ab2 Z (vi 1)) (P2 : Old Z n0 h0) (P3 : Arv Z h0 a1 w2 .byte (2 : Int32) [vi p3, vi p4] (vi 0)) (P4 : ab3 Z (vi 0)) (P5 : ab4 Z (vi 8)) (P6 : ¬ ((nar .char (va8 p3 p4)) = (42 : Int32))) :
    M31 l Z ws (orm 1 0 0 13) #[vr a1, vi 42, vi 0, vi 1] h0 (QI n0 h0 (vi (-1))) := by
  refine own_enter (plainFor_of_name pn_4) (L0 := (L_riiiu a1 42 0 1)) ?_
  intro p e s m below meth c s₁ hx hby hml hown hnm hret hZ X0 e0
  have N0 := Fr.nil n0
  obtain ⟨T5, L5, _, X5, ⟨rfl, N5q, e5q⟩, st5⟩ := own_callS X0 hx hZ hown (cw_11 hw) (rm24_1 hw a1 w2 p3 p4 Z0 P1 P2 P3 P4 P5) e0 (Ls := (L_riiii a1 42 0 1 0)) hml [vr a1, vi 0] [] pd_16 0 (hb hby d31_12)
  have N5 := Fr.app N0 N5q
  refine ⟨T5, _, _, _, _, some (vi (-1)), X5, e5q, by decide, by decide, nofun, ⟨rfl, N5, rfl⟩, fun fs hr => ?_⟩
  refine own_b X0 hx hby tb31 7 [false] 12 (L_riiii a1 42 0 1 0) [vi 0, vr a1] (ai (by decide) rfl) ?_
  refine st5 _ ?_
  refine own_b X5 hx hby tb31 8 [true, true] 29 (L_riiii a1 42 0 1 1) [vi (-1)] (ai (feq P6).2 (ai (by decide) rfl)) ?_
  exact retI X5 hx hret (hb hby d31_29) hr
theorem rm26_1 (hw : OW Z a0) (a1 : Addr) (w2 : ClassId) (p3 p4 : Int32) (a5 : Value) (Z0 : n0 ≤ h0.size) (P1 : Arv Z h0 a1 w2 .byte (2 : Int32) [vi p3, vi p4] (vi 0)) (P2 : ab5 Z a5) (P3 : Old Z n0 h0) (P4 : a5.isRef = true) (P5 : ab2 Z (vi 1)) (P6 : ab3 Z (vi 0)) (P7 : ab4 Z (vi 8)) (P8 : ¬ ((nar .char (va8 p3 p4)) = (42 : Int32))) :
    M26 l Z ws (orm 3 0 0 43) #[vr a1, vi 42, vi 0, vi 1] h0 (QI n0 h0 (vi (-1))) := by
  refine own_enter (plainFor_of_name pn_4) (L0 := (L_riii a1 42 0 1)) ?_
  intro p e s m below meth c s₁ hx hby hml hown hnm hret hZ X0 e0
  have N0 := Fr.nil n0
  obtain ⟨T6, L6, _, X6, ⟨rfl, N6q, e6q⟩, st6⟩ := own_callS X0 hx hZ hown (cw_22 hw) (rm27_1 hw a1 w2 p3 p4 a5 Z0 P1 P2 P3 P4) e0 (Ls := (L_riii a1 42 0 1)) hml [vi 0, vi 1, vr a1] [] pd_21 0 (hb hby d26_3)
  have N6 := Fr.app N0 N6q
  obtain ⟨T7, L7, _, X7, ⟨rfl, N7q, e7q⟩, st7⟩ := own_callS X6 hx hZ hown (cw_23 hw) (rm31_1 hw a1 w2 p3 p4 Z0 P5 P3 P1 P6 P7 P8) e6q (Ls := (L_riii a1 42 0 1)) hml [vr a1, vi 42, vi 0, vi 1] [] pd_9 0 (hb hby d26_10)
  have N7 := Fr.app N6 N7q
  refine ⟨T7, _, _, _, _, some (vi (-1)), X7, e7q, by decide, by decide, nofun, ⟨rfl, N7, rfl⟩, fun fs hr => ?_⟩
  refine own_b X0 hx hby tb26 3 [] 3 _ [vr a1, vi 1, vi 0] rfl ?_
  refine st6 _ ?_
  refine own_b X6 hx hby tb26 4 [] 10 _ [vi 1, vi 0, vi 42, vr a1] rfl ?_
  refine st7 _ ?_
  exact retI X7 hx hret (hb hby d26_13) hr
theorem rm25_1 (hw : OW Z a0) (a1 : Addr) (w3 : ClassId) (p4 p5 : Int32) (a7 : Value) (Z0 : n0 ≤ h0.size) (P1 : Arv Z h0 a1 w3 .byte (2 : Int32) [vi p4, vi p5] (vi 0)) (P2 : ab5 Z a7) (P3 : Old Z n0 h0) (P4 : a7.isRef = true) (P5 : ab2 Z (vi 1)) (P6 : ab3 Z (vi 0)) (P7 : ab4 Z (vi 8)) (P8 : ¬ ((nar .char (va8 p4 p5)) = (42 : Int32))) :
    M25 l Z ws (orm 4 0 0 58) #[vr a1, vi 42, vi 0, vi 1] h0 (QI n0 h0 (vi (-1))) := by
  refine own_enter (plainFor_of_name pn_4) (L0 := (L_riii a1 42 0 1)) ?_
  intro p e s m below meth c s₁ hx hby hml hown hnm hret hZ X0 e0
  have N0 := Fr.nil n0
  obtain ⟨T2, L2, _, X2, ⟨rfl, N2q, e2q⟩, st2⟩ := own_callS X0 hx hZ hown (cw_17 hw) (rm14_1 hw  Z0 ) e0 (Ls := (L_riii a1 42 0 1)) hml [vi 0, vi 0] [] pd_8 0 (hb hby d25_2)
  have N2 := Fr.app N0 N2q
  obtain ⟨T6, L6, _, X6, ⟨rfl, N6q, e6q⟩, st6⟩ := own_callS X2 hx hZ hown (cw_18 hw) (rm15_2 hw  Z0 ) e2q (Ls := (L_riii a1 42 0 1)) hml [vi 1, vi 1] [] pd_8 0 (hb hby d25_11)
  have N6 := Fr.app N2 N6q
  obtain ⟨T8, L8, _, X8, ⟨rfl, N8q, e8q⟩, st8⟩ := own_callS X6 hx hZ hown (cw_24 hw) (rm26_1 hw a1 w3 p4 p5 a7 Z0 P1 P2 P3 P4 P5 P6 P7 P8) e6q (Ls := (L_riii a1 42 0 1)) hml [vr a1, vi 42, vi 0, vi 1] [] pd_9 0 (hb hby d25_32)
  have N8 := Fr.app N6 N8q
  refine ⟨T8, _, _, _, _, some (vi (-1)), X8, e8q, by decide, by decide, nofun, ⟨rfl, N8, rfl⟩, fun fs hr => ?_⟩
  refine own_b X0 hx hby tb25 2 [] 2 _ [vi 0, vi 0] rfl ?_
  refine st2 _ ?_
  refine own_a X2 hx hZ e2q hby tb25 (aec P1 aen) 6 [] [0] 11 (L_riii a1 42 0 1) [vi 1, vi 1] (ai rfl rfl) ?_
  refine st6 _ ?_
  refine own_b X6 hx hby tb25 5 [true] 23 (L_riii a1 42 0 1) [vi 42] (ai (by decide) rfl) ?_
  refine X6.ldcInt hx hown (mvT hZ (tw_112 hw)) (g := (mkF m 23 (L_riii a1 42 0 1) [vi 42])) rfl (hb hby d25_23) _ ?_
  show OS p e below T6 m 25 (L_riii a1 42 0 1) [vi 65536, vi 42] _
  refine own_b X6 hx hby tb25 5 [false] 32 _ [vi 1, vi 0, vi 42, vr a1] (ai (by decide) rfl) ?_
  refine st8 _ ?_
  exact retI X8 hx hret (hb hby d25_35) hr
theorem rm8_2 (hw : OW Z a0) (a1 : Addr) (p2 : Int32) (a4 : Addr) (w6 : ClassId) (p7 p8 : Int32) (a10 : Value) (Z0 : n0 ≤ h0.size) (P1 : ab8 Z h0 a1) (P2 : ab1 Z (vi p2)) (P3 : Old Z n0 h0) (P4 : ¬ (p2 = (0 : Int32))) (P5 : ab6 Z h0 a1 (vi 1)) (P6 : ab7 Z h0 a1 (vr a4)) (P7 : Arv Z h0 a4 w6 .byte (2 : Int32) [vi p7, vi p8] (vi 0)) (P8 : ab5 Z a10) (P9 : a10.isRef = true) (P10 : ab2 Z (vi 1)) (P11 : ab3 Z (vi 0)) (P12 : ab4 Z (vi 8)) (P13 : ¬ ((nar .char (va8 p7 p8)) = (42 : Int32))) :
    M8 l Z ws (orm 5 0 0 73) #[vr a1, vi 42, vi 0] h0 (QI n0 h0 (vi (-1))) := by
  refine own_enter (plainFor_of_name pn_1) (L0 := (L_rii a1 42 0)) ?_
  intro p e s m below meth c s₁ hx hby hml hown hnm hret hZ X0 e0
  have N0 := Fr.nil n0
  obtain ⟨T3, L3, _, X3, ⟨rfl, N3q, e3q⟩, st3⟩ := own_callV X0 hx hZ hown (tw_44 hw) (tw_45 hw) (notFace_of_selects (args := #[]) (mvT hZ (tw_47 hw))) (tw_47 hw) (tw_46 hw) (tw_10 hw) (tw_48 hw) (rm9_2 hw a1 p2 Z0 P2 P3 P4 P5) e0 P1 (Ls := (L_rii a1 42 0)) hml [] [] pd_4 0 (hb hby d8_1)
  have N3 := Fr.app N0 N3q
  obtain ⟨T5, X5, e5, st5⟩ := getF X3 hx hZ hown (host := "") (Or.inl (tw_28 hw)) Via.refl e3q P6 (g := (mkF m 24 (L_rii a1 42 0) [vr a1])) rfl rfl (hb hby d8_24)
  obtain ⟨T9, L9, _, X9, ⟨rfl, N9q, e9q⟩, st9⟩ := own_callV X5 hx hZ hown (tw_50 hw) (tw_51 hw) (notFace_of_selects (args := #[]) (mvT hZ (tw_53 hw))) (tw_53 hw) (tw_52 hw) (tw_10 hw) (tw_54 hw) (rm10_2 hw a1 a4 w6 p7 p8 p2 Z0 P6 P7 P1 P2 P3 P4 P5) e5 P1 (Ls := (L_rii a1 42 0)) hml [] [vi 0, vi 42, vr a4] pd_6 3 (hb hby d8_30)
  have N9 := Fr.app N3 N9q
  obtain ⟨T11, L11, _, X11, ⟨rfl, N11q, e11q⟩, st11⟩ := own_callS X9 hx hZ hown (cw_25 hw) (rm25_1 hw a4 w6 p7 p8 a10 Z0 P7 P8 P3 P9 P10 P11 P12 P13) e9q (Ls := (L_rii a1 42 0)) hml [vr a4, vi 42, vi 0, vi 1] [] pd_9 0 (hb hby d8_33)
  have N11 := Fr.app N9 N11q
  refine ⟨T11, _, _, _, _, some (vi (-1)), X11, e11q, by decide, by decide, nofun, ⟨rfl, N11, rfl⟩, fun fs hr => ?_⟩
  refine own_b X0 hx hby tb8 1 [] 1 _ [vr a1] rfl ?_
  refine st3 _ ?_
  refine own_b X3 hx hby tb8 2 [true] 24 _ [vr a1] (ai (by decide) rfl) ?_
  refine st5 _ ?_
  refine own_b X5 hx hby tb8 3 [] 30 _ [vr a1, vi 0, vi 42, vr a4] rfl ?_
  refine st9 _ ?_
  refine st11 _ ?_
  exact retI X11 hx hret (hb hby d8_36) hr
theorem rm7_2 (hw : OW Z a0) (a1 : Addr) (p2 : Int32) (a3 : Addr) (w4 : ClassId) (p5 p6 : Int32) (a7 : Value) (Z0 : n0 ≤ h0.size) (P1 : ab8 Z h0 a1) (P2 : ab1 Z (vi p2)) (P3 : Old Z n0 h0) (P4 : ¬ (p2 = (0 : Int32))) (P5 : ab6 Z h0 a1 (vi 1)) (P6 : ab7 Z h0 a1 (vr a3)) (P7 : Arv Z h0 a3 w4 .byte (2 : Int32) [vi p5, vi p6] (vi 0)) (P8 : ab5 Z a7) (P9 : a7.isRef = true) (P10 : ab2 Z (vi 1)) (P11 : ab3 Z (vi 0)) (P12 : ab4 Z (vi 8)) (P13 : ¬ ((nar .char (va8 p5 p6)) = (42 : Int32))) :
    M7 l Z ws (orm 6 0 0 87) #[vr a1, vi 42] h0 (QI n0 h0 (vi (-1))) := by
  refine own_enter (plainFor_of_name pn_1) (L0 := (L_ri a1 42)) ?_
  intro p e s m below meth c s₁ hx hby hml hown hnm hret hZ X0 e0
  have N0 := Fr.nil n0
  obtain ⟨T8, L8, _, X8, ⟨rfl, N8q, e8q⟩, st8⟩ := own_callV X0 hx hZ hown (tw_39 hw) (tw_40 hw) (notFace_of_selects (args := #[]) (mvT hZ (tw_42 hw))) (tw_42 hw) (tw_41 hw) (tw_10 hw) (tw_43 hw) (rm8_2 hw a1 p2 a3 w4 p5 p6 a7 Z0 P1 P2 P3 P4 P5 P6 P7 P8 P9 P10 P11 P12 P13) e0 P1 (Ls := (L_ri a1 42)) hml [vi 42, vi 0] [] pd_8 0 (hb hby d7_3)
  have N8 := Fr.app N0 N8q
  refine ⟨T8, _, _, _, _, some (vi (-1)), X8, e8q, by decide, by decide, nofun, ⟨rfl, N8, rfl⟩, fun fs hr => ?_⟩
  refine own_b X0 hx hby tb7 3 [] 3 _ [vi 0, vi 42, vr a1] rfl ?_
  refine st8 _ ?_
  exact retI X8 hx hret (hb hby d7_6) hr
theorem rm6_2 (hw : OW Z a0) (a1 : Addr) (p2 : Int32) (a3 : Addr) (w4 : ClassId) (p5 p6 : Int32) (a7 : Value) (Z0 : n0 ≤ h0.size) (P1 : ab8 Z h0 a1) (P2 : ab1 Z (vi p2)) (P3 : Old Z n0 h0) (P4 : ¬ (p2 = (0 : Int32))) (P5 : ab6 Z h0 a1 (vi 1)) (P6 : ab7 Z h0 a1 (vr a3)) (P7 : Arv Z h0 a3 w4 .byte (2 : Int32) [vi p5, vi p6] (vi 0)) (P8 : ab5 Z a7) (P9 : a7.isRef = true) (P10 : ab2 Z (vi 1)) (P11 : ab3 Z (vi 0)) (P12 : ab4 Z (vi 8)) (P13 : ¬ ((nar .char (va8 p5 p6)) = (42 : Int32))) :
    M6 l Z ws (orm 7 0 0 100) #[vr a1] h0 (QI n0 h0 (vi 0)) := by
  refine own_enter (plainFor_of_name pn_3) (L0 := #[sr a1]) ?_
  intro p e s m below meth c s₁ hx hby hml hown hnm hret hZ X0 e0
  have N0 := Fr.nil n0
  obtain ⟨T8, L8, _, X8, ⟨rfl, N8q, e8q⟩, st8⟩ := own_callV X0 hx hZ hown (tw_34 hw) (tw_35 hw) (notFace_of_selects (args := #[]) (mvT hZ (tw_37 hw))) (tw_37 hw) (tw_36 hw) (tw_10 hw) (tw_38 hw) (rm7_2 hw a1 p2 a3 w4 p5 p6 a7 Z0 P1 P2 P3 P4 P5 P6 P7 P8 P9 P10 P11 P12 P13) e0 P1 (Ls := #[sr a1]) hml [vi 42] [] pd_10 0 (hb hby d6_3)
  have N8 := Fr.app N0 N8q
  refine ⟨T8, _, _, _, _, some (vi 0), X8, e8q, by decide, by decide, nofun, ⟨rfl, N8, rfl⟩, fun fs hr => ?_⟩
  refine own_b X0 hx hby tb6 2 [] 3 _ [vi 42, vr a1] rfl ?_
  refine st8 _ ?_
  refine own_b X8 hx hby tb6 2 [true] 14 _ [vi 0] (ai (by decide) rfl) ?_
  exact retN X8 hx (t := .boolean) hret (by simp) (hb hby d6_14) hr
theorem rm17_2 (hw : OW Z a0) (a1 a2 : Addr) (w3 : ClassId) (p4 : Int32) (w5 : ClassId) (Z0 : n0 ≤ h0.size) (P1 : Arv Z h0 a1 w3 .char (1 : Int32) [vi p4] (vi 0)) (P2 : ¬ ((255 : Int32) < p4)) (P3 : Arv Z h0 a2 w5 .byte (1 : Int32) [vi 0] (vi 0)) (P4 : n0 ≤ a2) :
    M17 l Z ws (orm 0 0 0 0) #[vr a1, vi 0, vr a2, vi 0, vi 1] h0 (fun v h L => v = some (vi 1) ∧ Fr n0 L ∧ Keep h0 h [a2] ∧ Arv Z h a2 w5 .byte (1 : Int32) [vi ((p4.toInt8.toInt32).toInt8.toInt32)] (vi 0)) := by
  refine own_enter (plainFor_of_name pn_4) (L0 := (L_ririiuu a1 0 a2 0 1)) ?_
  intro p e s m below meth c s₁ hx hby hml hown hnm hret hZ X0 e0
  have N0 := Fr.nil n0
  obtain ⟨T6, h6, X6, e6, W6, V6, st6⟩ := own_stB X0 hx hZ e0 P3 (j := (0 : Int32)) (x := (p4.toInt8.toInt32)) (by decide) 0 rfl (Nat.le_of_ble_eq_true rfl) (Ls := (L_ririiii a1 0 a2 0 1 0 p4)) (rest := []) (hb hby d17_31)
  have N6 := Fr.snoc X6 N0 P4
  have K7 := (Keep.refl h0 [a2]).wr W6 (Or.inl (List.mem_of_getElem? (i := 0) rfl))
  refine ⟨T6, _, _, _, _, some (vi 1), X6, e6, by decide, by decide, nofun, ⟨rfl, N6, K7, V6⟩, fun fs hr => ?_⟩
  refine own_a X0 hx hZ e0 hby tb17 (aec P1 aen) 16 [false, true] [0] 31 (L_ririiii a1 0 a2 0 1 0 p4) [vi (p4.toInt8.toInt32), vi 0, vr a2] (ai (by decide) (ai rfl (ai (flt P2).2.2.2 rfl))) ?_
  refine st6 _ ?_
  refine own_b X6 hx hby tb17 8 [true] 46 (L_ririiii a1 1 a2 1 1 1 p4) [vi 1] (ai (by decide) rfl) ?_
  exact retI X6 hx hret (hb hby d17_46) hr
theorem rm16_2 (hw : OW Z a0) (a1 : Addr) (w4 : ClassId) (p5 : Int32) (Z0 : n0 ≤ h0.size) (P1 : Arv Z h0 a1 w4 .char (1 : Int32) [vi p5] (vi 0)) (P2 : ¬ ((255 : Int32) < p5)) :
    M16 l Z ws (orm 1 1 1 18) #[vr a1, vi 0, vi 1] h0 (fun v h L => ∃ b2 : Addr, ∃ k3 : ClassId, v = some (vr b2) ∧ Fr n0 L ∧ Keep h0 h [] ∧ n0 ≤ b2 ∧ h0.size ≤ b2 ∧ Arv Z h b2 k3 .byte (1 : Int32) [vi ((p5.toInt8.toInt32).toInt8.toInt32)] (vi 0)) := by
  refine own_enter (plainFor_of_name pn_4) (L0 := (L_riiuuu a1 0 1)) ?_
  intro p e s m below meth c s₁ hx hby hml hown hnm hret hZ X0 e0
  have N0 := Fr.nil n0
  obtain ⟨T3, h3, b2, k3, X3, e3, E3, g3, V3, st3⟩ := own_newP X0 hx hZ (tw_23 hw) e0 (n := (1 : Int32)) (k := 1) (d := (vi 0)) (vs := [vi 0]) (Ls := (L_riiuuu a1 0 1)) (S := []) (hb hby d16_1)
  have q3 := Nat.le_trans Z0 g3
  have z3 := Nat.le_trans (Nat.le_refl h0.size) g3
  have F6 := (P1.ext E3)
  obtain ⟨T7, L7, _, X7, ⟨rfl, N7q, K7, f7_0⟩, st7⟩ := own_callS X3 hx hZ hown (cw_6 hw) (rm17_2 hw a1 b2 w4 p5 k3 (Nat.le_trans Z0 E3.1) F6 P2 V3 q3) e3 (Ls := (L_riiruu a1 0 1 b2)) hml [vr a1, vi 0, vr b2, vi 0, vi 1] [] pd_12 0 (hb hby d16_9)
  have N7 := Fr.app N0 N7q
  have K8 := (Keep.refl h0 []).ext E3
  have K9 := K8.trans K7 (allS (Or.inr z3) all0)
  refine ⟨T7, _, _, _, _, some (vr b2), X7, rfl, by decide, by decide, nofun, ⟨b2, k3, rfl, N7, K9, q3, z3, f7_0⟩, fun fs hr => ?_⟩
  refine own_b X0 hx hby tb16 1 [] 1 _ [vi 1] rfl ?_
  refine st3 _ ?_
  refine own_b X3 hx hby tb16 6 [] 9 (L_riiruu a1 0 1 b2) [vi 1, vi 0, vr b2, vi 0, vr a1] rfl ?_
  refine st7 _ ?_
  refine own_b X7 hx hby tb16 5 [true] 58 (L_riiriu a1 0 1 b2 1) [vr b2] (ai (by decide) rfl) ?_
  exact own_retA X7 hx hret rfl (hb hby d16_58) hr
theorem rm18_2 (hw : OW Z a0) (a1 : Addr) (w2 : ClassId) (p3 : Int32) (Z0 : n0 ≤ h0.size) (P1 : Arv Z h0 a1 w2 .byte (1 : Int32) [vi p3] (vi 0)) :
    M18 l Z ws (orm 0 0 0 0) #[vr a1, vi 1] h0 (QI n0 h0 (vi 0)) := by
  refine own_enter (plainFor_of_name pn_4) (L0 := (L_ri a1 1)) ?_
  intro p e s m below meth c s₁ hx hby hml hown hnm hret hZ X0 e0
  have N0 := Fr.nil n0
  refine ⟨s₁, _, _, _, _, some (vi 0), X0, e0, by decide, by decide, nofun, ⟨rfl, N0, rfl⟩, fun fs hr => ?_⟩
  refine own_a X0 hx hZ e0 hby tb18 (aec P1 aen) 7 [] [0] 8 _ [vi 0] (ai rfl rfl) ?_
  exact retN X0 hx (t := .byte) hret (by simp) (hb hby d18_8) hr
theorem rm4_3 (hw : OW Z a0) (a1 a2 : Addr) (p4 : Int32) (w6 : ClassId) (p7 : Int32) (Z0 : n0 ≤ h0.size) (P1 : ab1 Z (vi p4)) (P2 : Old Z n0 h0) (P3 : ¬ (p4 = (0 : Int32))) (P4 : Arv Z h0 a2 w6 .char (1 : Int32) [vi p7] (vi 0)) (P5 : ¬ ((255 : Int32) < p7)) (P6 : ab6 Z h0 a1 (vi 0)) (P7 : ab8 Z h0 a1) (P8 : n0 ≤ a1) (P9 : ab7 Z h0 a1 .null) :
    M4 l Z ws (orm 2 1 1 35) #[vr a1, vr a2, vi 0, vi 1, .null] h0 (fun v h L => ∃ b9 : Addr, ∃ kk8_0 : ClassId, v = none ∧ Fr n0 L ∧ Keep h0 h [a1] ∧ n0 ≤ b9 ∧ h0.size ≤ b9 ∧ ab6 Z h a1 (vi 0) ∧ ab7 Z h a1 (vr b9) ∧ Arv Z h b9 kk8_0 .byte (1 : Int32) [vi ((p7.toInt8.toInt32).toInt8.toInt32)] (vi 0)) := by
  refine own_enter (plainFor_of_name pn_1) (L0 := (L_rriinu a1 a2 0 1)) ?_
  intro p e s m below meth c s₁ hx hby hml hown hnm hret hZ X0 e0
  have N0 := Fr.nil n0
  obtain ⟨T3, X3, e3, st3⟩ := initO X0 hx hZ hown (tw_19 hw) (tw_20 hw) (tw_21 hw) e0 (g := (mkF m 1 (L_rriinu a1 a2 0 1) [vr a1])) rfl (by rw [hml]; rfl) rfl (hb hby d4_1) (by decide) (W := 0) (by show 2 * 0 + _ ≤ _; exact Nat.le_of_eq rfl) (by decide)
  obtain ⟨T5, X5, e5, st5⟩ := getS2 X3 hx hZ hown (host := "") (Or.inl (tw_49 hw)) Via.refl e3 (Sta.ext P2.2 P1) (g := (mkF m 27 (L_rriinu a1 a2 0 1) [])) rfl (hb hby d4_27)
  obtain ⟨T8, L8, _, X8, ⟨b9, kk8_0, rfl, N8q, K8, qa8_0, qb8_0, f8_0⟩, st8⟩ := own_callS X5 hx hZ hown (cw_12 hw) (rm16_2 hw a2 w6 p7 Z0 P4 P5) e5 (Ls := (L_rriinu a1 a2 0 1)) hml [vr a2, vi 0, vi 1] [] pd_15 0 (hb hby d4_36)
  have N8 := Fr.app N0 N8q
  have qd8_0 := Nat.le_trans (Nat.le_refl h0.size) qb8_0
  obtain ⟨T10, L10, _, X10, ⟨rfl, N10q, e10q⟩, st10⟩ := own_callS X8 hx hZ hown (cw_13 hw) (rm18_2 hw b9 kk8_0 ((p7.toInt8.toInt32).toInt8.toInt32) (Nat.le_trans Z0 K8.1) f8_0) rfl (Ls := (L_rriinr a1 a2 0 1 b9)) hml [vr b9, vi 1] [vr a1] pd_17 1 (hb hby d4_45)
  have N10 := Fr.app N8 N10q
  have F11 := (Fld.keep P6 K8 nin0)
  have F12 := (Exa.keep P7 K8)
  obtain ⟨T13, h13, X13, e13, W13, st13⟩ := putF X10 hx hZ hown (host := "") (Or.inl (tw_29 hw)) Via.refl e10q F11 F12 (Or.inr ⟨(tw_25 hw), rfl, hnm⟩) (tw_9 hw) (ty := .byte) (by decide) rfl rfl (g := (mkF m 48 (L_rriinr a1 a2 0 1 b9) [vi 0, vr a1])) rfl rfl (hb hby d4_48)
  have N13 := Fr.snoc X13 N10 P8
  have Fw13 := Fld.same W13 F11
  have F14 := (Fld.other W13 (Fld.keep P9 K8 nin0) (Or.inr (slot_ne (Or.inr (tw_24 hw)) (Or.inr (tw_25 hw)) (by decide) (t := (.array .byte)) (t' := .byte) (by decide) (by decide))))
  have F15 := (Exa.wr W13 F12)
  obtain ⟨T16, h16, X16, e16, W16, st16⟩ := putF X13 hx hZ hown (host := "") (Or.inl (tw_28 hw)) Via.refl e13 F14 F15 (Or.inr ⟨(tw_24 hw), rfl, hnm⟩) (tw_9 hw) (ty := (.array .byte)) (by decide) rfl rfl (g := (mkF m 54 (L_rriinr a1 a2 0 1 b9) [vr b9, vr a1])) rfl rfl (hb hby d4_54)
  have N16 := Fr.snoc X16 N13 P8
  have Fw16 := Fld.same W16 F14
  have F17 := (Fld.other W16 Fw13 (Or.inr (slot_ne (Or.inr (tw_25 hw)) (Or.inr (tw_24 hw)) (by decide) (t := .byte) (t' := (.array .byte)) (by decide) (by decide))))
  have n18 := Nat.ne_of_lt (Nat.lt_of_lt_of_le P6.lt qb8_0)
  have F19 := (Arv.other (Arv.other f8_0 W13 (Ne.symm n18)) W16 (Ne.symm n18))
  have K20 := (Keep.refl h0 [a1]).trans K8 all0
  have K21 := K20.wr W13 (Or.inl (List.mem_of_getElem? (i := 0) rfl))
  have K22 := K21.wr W16 (Or.inl (List.mem_of_getElem? (i := 0) rfl))
  refine ⟨T16, _, _, _, _, none, X16, e16, by decide, by decide, (fun _ => rfl), ⟨b9, kk8_0, rfl, N16, K22, qa8_0, qd8_0, F17, Fw16, F19⟩, fun fs hr => ?_⟩
  refine own_b X0 hx hby tb4 1 [] 1 _ [vr a1] rfl ?_
  refine st3 _ ?_
  refine own_b X3 hx hby tb4 2 [true] 27 _ [] (ai (by decide) rfl) ?_
  refine st5 _ ?_
  refine own_b X5 hx hby tb4 4 [false] 36 _ [vi 1, vi 0, vr a2] (ai (feq P3).1 rfl) ?_
  refine st8 _ ?_
  refine own_b X8 hx hby tb4 4 [] 45 (L_rriinr a1 a2 0 1 b9) [vi 1, vr b9, vr a1] rfl ?_
  refine st10 _ ?_
  refine st13 _ ?_
  refine own_b X13 hx hby tb4 2 [] 54 _ [vr b9, vr a1] rfl ?_
  refine st16 _ ?_
  show OS p e below T16 m 57 (L_rriinr a1 a2 0 1 b9) [] _
  exact X16.returnOut hx hret (hb hby d4_57) hr
theorem rm3_3 (hw : OW Z a0) (a1 a2 : Addr) (w3 : ClassId) (p4 p5 : Int32) (Z0 : n0 ≤ h0.size) (P1 : Arv Z h0 a2 w3 .char (1 : Int32) [vi p4] (vi 0)) (P2 : ab1 Z (vi p5)) (P3 : Old Z n0 h0) (P4 : ¬ (p5 = (0 : Int32))) (P5 : ¬ ((255 : Int32) < p4)) (P6 : ab6 Z h0 a1 (vi 0)) (P7 : ab8 Z h0 a1) (P8 : n0 ≤ a1) (P9 : ab7 Z h0 a1 .null) :
    M3 l Z ws (orm 3 1 1 52) #[vr a1, vr a2] h0 (fun v h L => ∃ b7 : Addr, ∃ kk6_0 : ClassId, v = none ∧ Fr n0 L ∧ Keep h0 h [a1] ∧ n0 ≤ b7 ∧ h0.size ≤ b7 ∧ ab6 Z h a1 (vi 0) ∧ ab7 Z h a1 (vr b7) ∧ Arv Z h b7 kk6_0 .byte (1 : Int32) [vi ((p4.toInt8.toInt32).toInt8.toInt32)] (vi 0)) := by
  refine own_enter (plainFor_of_name pn_1) (L0 := (L_rr a1 a2)) ?_
  intro p e s m below meth c s₁ hx hby hml hown hnm hret hZ X0 e0
  have N0 := Fr.nil n0
  obtain ⟨T6, L6, _, X6, ⟨b7, kk6_0, rfl, N6q, K6, qa6_0, qb6_0, f6_0, f6_1, f6_2⟩, st6⟩ := own_callI X0 hx hZ hown (cw_14 hw) (rm4_3 hw a1 a2 p5 w3 p4 Z0 P2 P3 P4 P1 P5 P6 P7 P8 P9) e0 (Ls := (L_rr a1 a2)) hml a1 [vr a2, vi 0, vi 1, .null] [] pd_1 0 (hb hby d3_6)
  have N6 := Fr.app N0 N6q
  have qd6_0 := Nat.le_trans (Nat.le_refl h0.size) qb6_0
  have K8 := (Keep.refl h0 [a1]).trans K6 (allS (Or.inl (List.mem_of_getElem? (i := 0) rfl)) all0)
  refine ⟨T6, _, _, _, _, none, X6, rfl, by decide, by decide, (fun _ => rfl), ⟨b7, kk6_0, rfl, N6, K8, qa6_0, qd6_0, f6_0, f6_1, f6_2⟩, fun fs hr => ?_⟩
  refine own_a X0 hx hZ e0 hby tb3 (aec P1 aen) 6 [] [0] 6 _ [.null, vi 1, vi 0, vr a2, vr a1] (ai rfl rfl) ?_
  refine st6 _ ?_
  show OS p e below T6 m 9 (L_rr a1 a2) [] _
  exact X6.returnOut hx hret (hb hby d3_9) hr
theorem rm2_3 (hw : OW Z a0) (p1 p2 p3 p4 p12 : Int32) (Z0 : n0 ≤ h0.size) (P1 : ab1 Z (vi p12)) (P2 : Old Z n0 h0) (P3 : ¬ (p12 = (0 : Int32))) (P4 : ¬ ((255 : Int32) < (nar .char p1))) :
    M2 l Z ws (orm 4 3 6 66) #[vi 1, vi p1, vi p2, vi p3, vi p4] h0 (fun v h L => ∃ b5 : Addr, ∃ b20 : Addr, ∃ kk18_0 : ClassId, v = some (vr b5) ∧ Fr n0 L ∧ Keep h0 h [] ∧ n0 ≤ b5 ∧ h0.size ≤ b5 ∧ n0 ≤ b20 ∧ h0.size ≤ b20 ∧ b5 ≠ b20 ∧ ab8 Z h b5 ∧ ab6 Z h b5 (vi 0) ∧ ab7 Z h b5 (vr b20) ∧ Arv Z h b20 kk18_0 .byte (1 : Int32) [vi (((nar .char p1).toInt8.toInt32).toInt8.toInt32)] (vi 0)) := by
  refine own_enter (plainFor_of_name pn_0) (L0 := (L_iiiii 1 p1 p2 p3 p4)) ?_
  intro p e s m below meth c s₁ hx hby hml hown hnm hret hZ X0 e0
  have N0 := Fr.nil n0
  obtain ⟨T6, h6, b5, X6, e6, E6, g6, A6, D6, st6⟩ := own_new X0 hx hZ hown (tw_8 hw) (tw_9 hw) (tw_10 hw) e0 (Ls := (L_iiiii 1 p1 p2 p3 p4)) (S := []) (hb hby d2_20)
  have q6 := Nat.le_trans Z0 g6
  have z6 := Nat.le_trans (Nat.le_refl h0.size) g6
  have F7 : ab7 Z h6 b5 .null := D6 (Or.inr (tw_24 hw)) (ty := (.array .byte)) (by decide)
  have F8 : ab6 Z h6 b5 (vi 0) := D6 (Or.inr (tw_25 hw)) (ty := .byte) (by decide)
  obtain ⟨T10, h10, b9, k10, X10, e10, E10, g10, V10, st10⟩ := own_newP X6 hx hZ (tw_11 hw) e6 (n := (1 : Int32)) (k := 1) (d := (vi 0)) (vs := [vi 0]) (Ls := (L_iiiii 1 p1 p2 p3 p4)) (S := [vr b5, vr b5]) (hb hby d2_25)
  have q10 := Nat.le_trans (Nat.le_trans Z0 E6.1) g10
  have z10 := Nat.le_trans (Nat.le_trans (Nat.le_refl h0.size) E6.1) g10
  obtain ⟨T11, h11, X11, e11, W11, V11, st11⟩ := own_stC X10 hx hZ e10 V10 (j := (0 : Int32)) (x := p1) (by decide) 0 rfl (Nat.le_of_ble_eq_true rfl) (Ls := (L_iiiii 1 p1 p2 p3 p4)) (rest := [vr b9, vr b5, vr b5]) (hb hby d2_30)
  have N11 := Fr.snoc X11 N0 q10
  have F13 := (((P2.ext E6).ext E10).wr W11 q10)
  have n14 := Nat.ne_of_lt (Nat.lt_of_lt_of_le A6.lt g10)
  have F15 := (Fld.other W11 (Fld.ext E10 F8) (Or.inl n14))
  have F16 := (Exa.wr W11 (Exa.ext E10 A6))
  have F17 := (Fld.other W11 (Fld.ext E10 F7) (Or.inl n14))
  have F19 := (Nat.le_trans (Nat.le_trans (Nat.le_trans Z0 E6.1) E10.1) (Keep.of_wr W11).1)
  obtain ⟨T18, L18, _, X18, ⟨b20, kk18_0, rfl, N18q, K18, qa18_0, qb18_0, f18_0, f18_1, f18_2⟩, st18⟩ := own_callI X11 hx hZ hown (cw_15 hw) (rm3_3 hw b5 b9 k10 (nar .char p1) p12 F19 V11 P1 F13 P3 P4 F15 F16 q6 F17) e11 (Ls := (L_iiiii 1 p1 p2 p3 p4)) hml b5 [vr b9] [vr b5] pd_2 1 (hb hby d2_31)
  have N18 := Fr.app N11 N18q
  have F21 := (Nat.le_trans (Nat.le_trans (Nat.le_trans (Nat.le_refl h0.size) E6.1) E10.1) (Keep.of_wr W11).1)
  have qd18_0 := Nat.le_trans F21 qb18_0
  have F22 := (Exa.keep F16 K18)
  have K23 := (Keep.refl h0 []).ext E6
  have K24 := K23.ext E10
  have K25 := K24.wr W11 (Or.inr z10)
  have K26 := K25.trans K18 (allS (Or.inr z6) all0)
  have n27 := Nat.ne_of_lt (Nat.lt_of_lt_of_le F15.lt qb18_0)
  refine ⟨T18, _, _, _, _, some (vr b5), X18, rfl, by decide, by decide, nofun, ⟨b5, b20, kk18_0, rfl, N18, K26, q6, z6, qa18_0, qd18_0, n27, F22, f18_0, f18_1, f18_2⟩, fun fs hr => ?_⟩
  refine own_b X0 hx hby tb2 5 [true, false] 20 _ [] (ai (by decide) (ai (by decide) rfl)) ?_
  refine st6 _ ?_
  refine own_b X6 hx hby tb2 2 [] 25 _ [vi 1, vr b5, vr b5] rfl ?_
  refine st10 _ ?_
  refine own_b X10 hx hby tb2 3 [] 30 _ [vi p1, vi 0, vr b9, vr b9, vr b5, vr b5] rfl ?_
  refine st11 _ ?_
  refine st18 _ ?_
  exact own_retA X18 hx hret rfl (hb hby d2_34) hr
theorem rm10_3 (hw : OW Z a0) (a1 a2 : Addr) (w4 : ClassId) (p5 p6 : Int32) (Z0 : n0 ≤ h0.size) (P1 : ab7 Z h0 a1 (vr a2)) (P2 : Arv Z h0 a2 w4 .byte (1 : Int32) [vi p5] (vi 0)) (P3 : ab8 Z h0 a1) (P4 : ab1 Z (vi p6)) (P5 : Old Z n0 h0) (P6 : ¬ (p6 = (0 : Int32))) (P7 : ab6 Z h0 a1 (vi 0)) :
    M10 l Z ws (orm 1 0 0 13) #[vr a1] h0 (QI n0 h0 (vi 1)) := by
  refine own_enter (plainFor_of_name pn_1) (L0 := #[sr a1]) ?_
  intro p e s m below meth c s₁ hx hby hml hown hnm hret hZ X0 e0
  have N0 := Fr.nil n0
  obtain ⟨T3, X3, e3, st3⟩ := getF X0 hx hZ hown (host := "") (Or.inl (tw_28 hw)) Via.refl e0 P1 (g := (mkF m 1 #[sr a1] [vr a1])) rfl rfl (hb hby d10_1)
  obtain ⟨T7, L7, _, X7, ⟨rfl, N7q, e7q⟩, st7⟩ := own_callV X3 hx hZ hown (tw_55 hw) (tw_56 hw) (notFace_of_selects (args := #[]) (mvT hZ (tw_58 hw))) (tw_58 hw) (tw_57 hw) (tw_10 hw) (tw_59 hw) (rm11_1 hw a1 p6 Z0 P4 P5 P6 P7) e3 P3 (Ls := #[sr a1]) hml [] [vi 1] pd_5 1 (hb hby d10_6)
  have N7 := Fr.app N0 N7q
  refine ⟨T7, _, _, _, _, some (vi 1), X7, e7q, by decide, by decide, nofun, ⟨rfl, N7, rfl⟩, fun fs hr => ?_⟩
  refine own_b X0 hx hby tb10 1 [] 1 _ [vr a1] rfl ?_
  refine st3 _ ?_
  refine own_a X3 hx hZ e3 hby tb10 (aec P2 aen) 2 [] [0] 6 _ [vr a1, vi 1] (ai rfl rfl) ?_
  refine st7 _ ?_
  refine own_b X7 hx hby tb10 1 [] 10 _ [vi 1] rfl ?_
  exact retI X7 hx hret (hb hby d10_10) hr
theorem rm19_1 (hw : OW Z a0) (a1 : Addr) (w2 : ClassId) (p3 : Int32) (Z0 : n0 ≤ h0.size) (P1 : Arv Z h0 a1 w2 .byte (1 : Int32) [vi p3] (vi 0)) (H1 : p3 = (42 : Int32)) :
    M19 l Z ws (orm 0 0 0 0) #[vr a1, vi 42, vi 0, vi 1] h0 (QI n0 h0 (vi 0)) := by
  refine own_enter (plainFor_of_name pn_2) (L0 := (L_riiiuu a1 42 0 1)) ?_
  intro p e s m below meth c s₁ hx hby hml hown hnm hret hZ X0 e0
  have N0 := Fr.nil n0
  refine ⟨s₁, _, _, _, _, some (vi 0), X0, e0, by decide, by decide, nofun, ⟨rfl, N0, rfl⟩, fun fs hr => ?_⟩
  refine own_a X0 hx hZ e0 hby tb19 (aec P1 aen) 14 [false, false] [0] 24 (L_riiiii a1 42 0 1 42 0) [vi 0] (ai (by decide) (ai rfl (ai (teq H1).2 rfl))) ?_
  exact retI X0 hx hret (hb hby d19_24) hr
theorem rm19_2 (hw : OW Z a0) (a1 : Addr) (w2 : ClassId) (p3 : Int32) (Z0 : n0 ≤ h0.size) (P1 : Arv Z h0 a1 w2 .byte (1 : Int32) [vi p3] (vi 0)) (H1 : ¬ (p3 = (42 : Int32))) :
    M19 l Z ws (orm 0 0 0 0) #[vr a1, vi 42, vi 0, vi 1] h0 (QI n0 h0 (vi (-1))) := by
  refine own_enter (plainFor_of_name pn_2) (L0 := (L_riiiuu a1 42 0 1)) ?_
  intro p e s m below meth c s₁ hx hby hml hown hnm hret hZ X0 e0
  have N0 := Fr.nil n0
  refine ⟨s₁, _, _, _, _, some (vi (-1)), X0, e0, by decide, by decide, nofun, ⟨rfl, N0, rfl⟩, fun fs hr => ?_⟩
  refine own_a X0 hx hZ e0 hby tb19 (aec P1 aen) 19 [false, true, true] [0] 32 (L_riiiii a1 42 0 1 42 1) [vi (-1)] (ai (by decide) (ai rfl (ai (feq H1).2 (ai (by decide) rfl)))) ?_
  exact retI X0 hx hret (hb hby d19_32) hr
theorem rm19_3 (hw : OW Z a0) (a1 : Addr) (w2 : ClassId) (p3 : Int32) (Z0 : n0 ≤ h0.size) (P1 : Arv Z h0 a1 w2 .byte (1 : Int32) [vi p3] (vi 0)) :
    M19 l Z ws (orm 0 0 0 0) #[vr a1, vi 42, vi 0, vi 1] h0 (QI n0 h0 (vi (va11 p3))) := by
  by_cases H1 : p3 = (42 : Int32)
  ·
    rw [show (va11 p3) = (0 : Int32) from by simp only [va11, if_pos H1]]
    exact rm19_1 hw a1 w2 p3 Z0 P1 H1
  ·
    rw [show (va11 p3) = (-1 : Int32) from by simp only [va11, if_neg H1]]
    exact rm19_2 hw a1 w2 p3 Z0 P1 H1
theorem rm12_2 (hw : OW Z a0) (a1 : Addr) (w4 : ClassId) (p5 : Int32) (Z0 : n0 ≤ h0.size) (P1 : Arv Z h0 a1 w4 .byte (1 : Int32) [vi p5] (vi 0)) :
    M12 l Z ws (orm 1 0 0 17) #[vr a1, vi 42, vi 0, vi 1] h0 (QI n0 h0 (vi (va11 p5))) := by
  refine own_enter (plainFor_of_name pn_2) (L0 := (L_riii a1 42 0 1)) ?_
  intro p e s m below meth c s₁ hx hby hml hown hnm hret hZ X0 e0
  have N0 := Fr.nil n0
  obtain ⟨T2, L2, _, X2, ⟨rfl, N2q, e2q⟩, st2⟩ := own_callS X0 hx hZ hown (cw_1 hw) (rm13_1 hw  Z0 ) e0 (Ls := (L_riii a1 42 0 1)) hml [vi 42] [] pd_7 0 (hb hby d12_1)
  have N2 := Fr.app N0 N2q
  obtain ⟨T3, L3, _, X3, ⟨rfl, N3q, e3q⟩, st3⟩ := own_callS X2 hx hZ hown (cw_2 hw) (rm14_1 hw  Z0 ) e2q (Ls := (L_riii a1 42 0 1)) hml [vi 0, vi 0] [] pd_8 0 (hb hby d12_11)
  have N3 := Fr.app N2 N3q
  obtain ⟨T6, L6, _, X6, ⟨rfl, N6q, e6q⟩, st6⟩ := own_callS X3 hx hZ hown (cw_3 hw) (rm15_2 hw  Z0 ) e3q (Ls := (L_riii a1 42 0 1)) hml [vi 1, vi 1] [] pd_8 0 (hb hby d12_18)
  have N6 := Fr.app N3 N6q
  obtain ⟨T7, L7, _, X7, ⟨rfl, N7q, e7q⟩, st7⟩ := own_callS X6 hx hZ hown (cw_26 hw) (rm19_3 hw a1 w4 p5 Z0 P1) e6q (Ls := (L_riii a1 42 0 1)) hml [vr a1, vi 42, vi 0, vi 1] [] pd_9 0 (hb hby d12_33)
  have N7 := Fr.app N6 N7q
  refine ⟨T7, _, _, _, _, some (vi (va11 p5)), X7, e7q, by decide, by decide, nofun, ⟨rfl, N7, rfl⟩, fun fs hr => ?_⟩
  refine own_b X0 hx hby tb12 1 [] 1 _ [vi 42] rfl ?_
  refine st2 _ ?_
  refine own_b X2 hx hby tb12 3 [true] 11 _ [vi 0, vi 0] (ai (by decide) rfl) ?_
  refine st3 _ ?_
  refine own_a X3 hx hZ e3q hby tb12 (aec P1 aen) 4 [] [0] 18 (L_riii a1 42 0 1) [vi 1, vi 1] (ai rfl rfl) ?_
  refine st6 _ ?_
  refine own_b X6 hx hby tb12 8 [true] 33 (L_riii a1 42 0 1) [vi 1, vi 0, vi 42, vr a1] (ai (by decide) rfl) ?_
  refine st7 _ ?_
  exact retI X7 hx hret (hb hby d12_36) hr
theorem rm8_3 (hw : OW Z a0) (a1 : Addr) (p2 : Int32) (a4 : Addr) (w6 : ClassId) (p7 : Int32) (Z0 : n0 ≤ h0.size) (P1 : ab8 Z h0 a1) (P2 : ab1 Z (vi p2)) (P3 : Old Z n0 h0) (P4 : ¬ (p2 = (0 : Int32))) (P5 : ab6 Z h0 a1 (vi 0)) (P6 : ab7 Z h0 a1 (vr a4)) (P7 : Arv Z h0 a4 w6 .byte (1 : Int32) [vi p7] (vi 0)) :
    M8 l Z ws (orm 2 0 0 32) #[vr a1, vi 42, vi 0] h0 (QI n0 h0 (vi (va11 p7))) := by
  refine own_enter (plainFor_of_name pn_1) (L0 := (L_rii a1 42 0)) ?_
  intro p e s m below meth c s₁ hx hby hml hown hnm hret hZ X0 e0
  have N0 := Fr.nil n0
  obtain ⟨T3, L3, _, X3, ⟨rfl, N3q, e3q⟩, st3⟩ := own_callV X0 hx hZ hown (tw_44 hw) (tw_45 hw) (notFace_of_selects (args := #[]) (mvT hZ (tw_47 hw))) (tw_47 hw) (tw_46 hw) (tw_10 hw) (tw_48 hw) (rm9_1 hw a1 p2 Z0 P2 P3 P4 P5) e0 P1 (Ls := (L_rii a1 42 0)) hml [] [] pd_4 0 (hb hby d8_1)
  have N3 := Fr.app N0 N3q
  obtain ⟨T5, X5, e5, st5⟩ := getF X3 hx hZ hown (host := "") (Or.inl (tw_28 hw)) Via.refl e3q P6 (g := (mkF m 8 (L_rii a1 42 0) [vr a1])) rfl rfl (hb hby d8_8)
  obtain ⟨T8, L8, _, X8, ⟨rfl, N8q, e8q⟩, st8⟩ := own_callV X5 hx hZ hown (tw_50 hw) (tw_51 hw) (notFace_of_selects (args := #[]) (mvT hZ (tw_53 hw))) (tw_53 hw) (tw_52 hw) (tw_10 hw) (tw_54 hw) (rm10_3 hw a1 a4 w6 p7 p2 Z0 P6 P7 P1 P2 P3 P4 P5) e5 P1 (Ls := (L_rii a1 42 0)) hml [] [vi 0, vi 42, vr a4] pd_6 3 (hb hby d8_14)
  have N8 := Fr.app N3 N8q
  obtain ⟨T9, L9, _, X9, ⟨rfl, N9q, e9q⟩, st9⟩ := own_callS X8 hx hZ hown (cw_4 hw) (rm12_2 hw a4 w6 p7 Z0 P7) e8q (Ls := (L_rii a1 42 0)) hml [vr a4, vi 42, vi 0, vi 1] [] pd_9 0 (hb hby d8_17)
  have N9 := Fr.app N8 N9q
  refine ⟨T9, _, _, _, _, some (vi (va11 p7)), X9, e9q, by decide, by decide, nofun, ⟨rfl, N9, rfl⟩, fun fs hr => ?_⟩
  refine own_b X0 hx hby tb8 1 [] 1 _ [vr a1] rfl ?_
  refine st3 _ ?_
  refine own_b X3 hx hby tb8 2 [false] 8 _ [vr a1] (ai (by decide) rfl) ?_
  refine st5 _ ?_
  refine own_b X5 hx hby tb8 3 [] 14 _ [vr a1, vi 0, vi 42, vr a4] rfl ?_
  refine st8 _ ?_
  refine st9 _ ?_
  refine own_b X9 hx hby tb8 1 [] 36 _ [vi (va11 p7)] rfl ?_
  exact retI X9 hx hret (hb hby d8_36) hr
theorem rm7_3 (hw : OW Z a0) (a1 : Addr) (p2 : Int32) (a3 : Addr) (w4 : ClassId) (p5 : Int32) (Z0 : n0 ≤ h0.size) (P1 : ab8 Z h0 a1) (P2 : ab1 Z (vi p2)) (P3 : Old Z n0 h0) (P4 : ¬ (p2 = (0 : Int32))) (P5 : ab6 Z h0 a1 (vi 0)) (P6 : ab7 Z h0 a1 (vr a3)) (P7 : Arv Z h0 a3 w4 .byte (1 : Int32) [vi p5] (vi 0)) :
    M7 l Z ws (orm 3 0 0 46) #[vr a1, vi 42] h0 (QI n0 h0 (vi (va11 p5))) := by
  refine own_enter (plainFor_of_name pn_1) (L0 := (L_ri a1 42)) ?_
  intro p e s m below meth c s₁ hx hby hml hown hnm hret hZ X0 e0
  have N0 := Fr.nil n0
  obtain ⟨T6, L6, _, X6, ⟨rfl, N6q, e6q⟩, st6⟩ := own_callV X0 hx hZ hown (tw_39 hw) (tw_40 hw) (notFace_of_selects (args := #[]) (mvT hZ (tw_42 hw))) (tw_42 hw) (tw_41 hw) (tw_10 hw) (tw_43 hw) (rm8_3 hw a1 p2 a3 w4 p5 Z0 P1 P2 P3 P4 P5 P6 P7) e0 P1 (Ls := (L_ri a1 42)) hml [vi 42, vi 0] [] pd_8 0 (hb hby d7_3)
  have N6 := Fr.app N0 N6q
  refine ⟨T6, _, _, _, _, some (vi (va11 p5)), X6, e6q, by decide, by decide, nofun, ⟨rfl, N6, rfl⟩, fun fs hr => ?_⟩
  refine own_b X0 hx hby tb7 3 [] 3 _ [vi 0, vi 42, vr a1] rfl ?_
  refine st6 _ ?_
  exact retI X6 hx hret (hb hby d7_6) hr
theorem rm6_3 (hw : OW Z a0) (a1 : Addr) (p2 : Int32) (a3 : Addr) (w4 : ClassId) (p5 : Int32) (Z0 : n0 ≤ h0.size) (P1 : ab8 Z h0 a1) (P2 : ab1 Z (vi p2)) (P3 : Old Z n0 h0) (P4 : ¬ (p2 = (0 : Int32))) (P5 : ab6 Z h0 a1 (vi 0)) (P6 : ab7 Z h0 a1 (vr a3)) (P7 : Arv Z h0 a3 w4 .byte (1 : Int32) [vi p5] (vi 0)) (H1 : (va11 p5) < (0 : Int32)) :
    M6 l Z ws (orm 4 0 0 59) #[vr a1] h0 (QI n0 h0 (vi 0)) := by
  refine own_enter (plainFor_of_name pn_3) (L0 := #[sr a1]) ?_
  intro p e s m below meth c s₁ hx hby hml hown hnm hret hZ X0 e0
  have N0 := Fr.nil n0
  obtain ⟨T6, L6, _, X6, ⟨rfl, N6q, e6q⟩, st6⟩ := own_callV X0 hx hZ hown (tw_34 hw) (tw_35 hw) (notFace_of_selects (args := #[]) (mvT hZ (tw_37 hw))) (tw_37 hw) (tw_36 hw) (tw_10 hw) (tw_38 hw) (rm7_3 hw a1 p2 a3 w4 p5 Z0 P1 P2 P3 P4 P5 P6 P7) e0 P1 (Ls := #[sr a1]) hml [vi 42] [] pd_10 0 (hb hby d6_3)
  have N6 := Fr.app N0 N6q
  refine ⟨T6, _, _, _, _, some (vi 0), X6, e6q, by decide, by decide, nofun, ⟨rfl, N6, rfl⟩, fun fs hr => ?_⟩
  refine own_b X0 hx hby tb6 2 [] 3 _ [vi 42, vr a1] rfl ?_
  refine st6 _ ?_
  refine own_b X6 hx hby tb6 2 [true] 14 _ [vi 0] (ai (tlt H1).1 rfl) ?_
  exact retN X6 hx (t := .boolean) hret (by simp) (hb hby d6_14) hr
theorem rm6_4 (hw : OW Z a0) (a1 : Addr) (p2 : Int32) (a3 : Addr) (w4 : ClassId) (p5 : Int32) (Z0 : n0 ≤ h0.size) (P1 : ab8 Z h0 a1) (P2 : ab1 Z (vi p2)) (P3 : Old Z n0 h0) (P4 : ¬ (p2 = (0 : Int32))) (P5 : ab6 Z h0 a1 (vi 0)) (P6 : ab7 Z h0 a1 (vr a3)) (P7 : Arv Z h0 a3 w4 .byte (1 : Int32) [vi p5] (vi 0)) (H1 : ¬ ((va11 p5) < (0 : Int32))) :
    M6 l Z ws (orm 4 0 0 59) #[vr a1] h0 (QI n0 h0 (vi 1)) := by
  refine own_enter (plainFor_of_name pn_3) (L0 := #[sr a1]) ?_
  intro p e s m below meth c s₁ hx hby hml hown hnm hret hZ X0 e0
  have N0 := Fr.nil n0
  obtain ⟨T6, L6, _, X6, ⟨rfl, N6q, e6q⟩, st6⟩ := own_callV X0 hx hZ hown (tw_34 hw) (tw_35 hw) (notFace_of_selects (args := #[]) (mvT hZ (tw_37 hw))) (tw_37 hw) (tw_36 hw) (tw_10 hw) (tw_38 hw) (rm7_3 hw a1 p2 a3 w4 p5 Z0 P1 P2 P3 P4 P5 P6 P7) e0 P1 (Ls := #[sr a1]) hml [vi 42] [] pd_10 0 (hb hby d6_3)
  have N6 := Fr.app N0 N6q
  refine ⟨T6, _, _, _, _, some (vi 1), X6, e6q, by decide, by decide, nofun, ⟨rfl, N6, rfl⟩, fun fs hr => ?_⟩
  refine own_b X0 hx hby tb6 2 [] 3 _ [vi 42, vr a1] rfl ?_
  refine st6 _ ?_
  refine own_b X6 hx hby tb6 3 [false] 14 _ [vi 1] (ai (flt H1).1 rfl) ?_
  exact retN X6 hx (t := .boolean) hret (by simp) (hb hby d6_14) hr
theorem rm6_5 (hw : OW Z a0) (a1 : Addr) (p2 : Int32) (a3 : Addr) (w4 : ClassId) (p5 : Int32) (Z0 : n0 ≤ h0.size) (P1 : ab8 Z h0 a1) (P2 : ab1 Z (vi p2)) (P3 : Old Z n0 h0) (P4 : ¬ (p2 = (0 : Int32))) (P5 : ab6 Z h0 a1 (vi 0)) (P6 : ab7 Z h0 a1 (vr a3)) (P7 : Arv Z h0 a3 w4 .byte (1 : Int32) [vi p5] (vi 0)) :
    M6 l Z ws (orm 4 0 0 59) #[vr a1] h0 (QI n0 h0 (vi (va12 p5))) := by
  by_cases H1 : (va11 p5) < (0 : Int32)
  ·
    rw [show (va12 p5) = (0 : Int32) from by simp only [va12, if_pos H1]]
    exact rm6_3 hw a1 p2 a3 w4 p5 Z0 P1 P2 P3 P4 P5 P6 P7 H1
  ·
    rw [show (va12 p5) = (1 : Int32) from by simp only [va12, if_neg H1]]
    exact rm6_4 hw a1 p2 a3 w4 p5 Z0 P1 P2 P3 P4 P5 P6 P7 H1
theorem rm17_3 (hw : OW Z a0) (a1 a2 : Addr) (w3 : ClassId) (p4 p5 : Int32) (Z0 : n0 ≤ h0.size) (P1 : Arv Z h0 a1 w3 .char (2 : Int32) [vi p4, vi p5] (vi 0)) (P2 : (255 : Int32) < p4) :
    M17 l Z ws (orm 0 0 0 0) #[vr a1, vi 0, vr a2, vi 0, vi 2] h0 (QI n0 h0 (vi 0)) := by
  refine own_enter (plainFor_of_name pn_4) (L0 := (L_ririiuu a1 0 a2 0 2)) ?_
  intro p e s m below meth c s₁ hx hby hml hown hnm hret hZ X0 e0
  have N0 := Fr.nil n0
  refine ⟨s₁, _, _, _, _, some (vi 0), X0, e0, by decide, by decide, nofun, ⟨rfl, N0, rfl⟩, fun fs hr => ?_⟩
  refine own_a X0 hx hZ e0 hby tb17 (aec P1 aen) 13 [false, false] [0] 25 (L_ririiii a1 0 a2 0 2 0 p4) [vi 0] (ai (by decide) (ai rfl (ai (tlt P2).2.2.2 rfl))) ?_
  exact retI X0 hx hret (hb hby d17_25) hr
theorem rm22_2 (hw : OW Z a0)  (Z0 : n0 ≤ h0.size) :
    M22 l Z ws (orm 0 0 0 0) #[vi 2] h0 (QI n0 h0 (vi 4)) := by
  refine own_enter (plainFor_of_name pn_4) (L0 := #[si 2]) ?_
  intro p e s m below meth c s₁ hx hby hml hown hnm hret hZ X0 e0
  have N0 := Fr.nil n0
  refine ⟨s₁, _, _, _, _, some (vi 4), X0, e0, by decide, by decide, nofun, ⟨rfl, N0, rfl⟩, fun fs hr => ?_⟩
  refine own_b X0 hx hby tb22 3 [true] 13 _ [vi 2] (ai (by decide) rfl) ?_
  refine X0.ldcInt hx hown (mvT hZ (tw_97 hw)) (g := (mkF m 13 #[si 2] [vi 2])) rfl (hb hby d22_13) _ ?_
  show OS p e below s₁ m 15 #[si 2] [vi 1073741823, vi 2] _
  refine own_b X0 hx hby tb22 4 [true] 58 _ [vi 4] (ai (by decide) rfl) ?_
  exact retI X0 hx hret (hb hby d22_58) hr
theorem rm21_2 (hw : OW Z a0)  (Z0 : n0 ≤ h0.size) :
    M21 l Z ws (orm 1 1 4 12) #[vi 2] h0 (fun v h L => ∃ b2 : Addr, ∃ k3 : ClassId, v = some (vr b2) ∧ Fr n0 L ∧ Keep h0 h [] ∧ n0 ≤ b2 ∧ h0.size ≤ b2 ∧ Arv Z h b2 k3 .byte (4 : Int32) [vi 0, vi 0, vi 0, vi 0] (vi 0)) := by
  refine own_enter (plainFor_of_name pn_4) (L0 := #[si 2]) ?_
  intro p e s m below meth c s₁ hx hby hml hown hnm hret hZ X0 e0
  have N0 := Fr.nil n0
  obtain ⟨T1, L1, _, X1, ⟨rfl, N1q, e1q⟩, st1⟩ := own_callS X0 hx hZ hown (cw_7 hw) (rm22_2 hw  Z0 ) e0 (Ls := #[si 2]) hml [vi 2] [] pd_10 0 (hb hby d21_1)
  have N1 := Fr.app N0 N1q
  obtain ⟨T3, h3, b2, k3, X3, e3, E3, g3, V3, st3⟩ := own_newP X1 hx hZ (tw_23 hw) e1q (n := (4 : Int32)) (k := 4) (d := (vi 0)) (vs := [vi 0, vi 0, vi 0, vi 0]) (Ls := #[si 2]) (S := []) (hb hby d21_4)
  have q3 := Nat.le_trans Z0 g3
  have z3 := Nat.le_trans (Nat.le_refl h0.size) g3
  have K4 := (Keep.refl h0 []).ext E3
  refine ⟨T3, _, _, _, _, some (vr b2), X3, e3, by decide, by decide, nofun, ⟨b2, k3, rfl, N1, K4, q3, z3, V3⟩, fun fs hr => ?_⟩
  refine own_b X0 hx hby tb21 1 [] 1 _ [vi 2] rfl ?_
  refine st1 _ ?_
  refine st3 _ ?_
  exact own_retA X3 hx hret rfl (hb hby d21_6) hr
theorem rm23_2 (hw : OW Z a0) (a1 : Addr) (p2 : Int32) (w5 : ClassId) (Z0 : n0 ≤ h0.size) (P1 : ab2 Z (vi 1)) (P2 : Old Z n0 h0) (P3 : ab3 Z (vi 0)) (P4 : Arv Z h0 a1 w5 .byte (4 : Int32) [vi 0, vi 0, vi 0, vi 0] (vi 0)) (P5 : n0 ≤ a1) (P6 : ab4 Z (vi 8)) :
    M23 l Z ws (orm 0 0 0 0) #[vr a1, vi 0, vi p2] h0 (fun v h L => v = none ∧ Fr n0 L ∧ Keep h0 h [a1] ∧ Arv Z h a1 w5 .byte (4 : Int32) [vi ((va4 p2).toInt8.toInt32), vi ((va5 p2).toInt8.toInt32), vi 0, vi 0] (vi 0)) := by
  refine own_enter (plainFor_of_name pn_4) (L0 := (L_rii a1 0 p2)) ?_
  intro p e s m below meth c s₁ hx hby hml hown hnm hret hZ X0 e0
  have N0 := Fr.nil n0
  obtain ⟨T3, X3, e3, st3⟩ := getS2 X0 hx hZ hown (host := "") (Or.inl (tw_101 hw)) Via.refl e0 (Sta.ext P2.2 P1) (g := (mkF m 0 (L_rii a1 0 p2) [])) rfl (hb hby d23_0)
  obtain ⟨T4, X4, e4, st4⟩ := getS2 X3 hx hZ hown (host := "") (Or.inl (tw_102 hw)) Via.refl e3 (Sta.ext P2.2 P3) (g := (mkF m 38 (L_rii a1 1 p2) [vi p2, vi 0, vr a1])) rfl (hb hby d23_38)
  obtain ⟨T6, h6, X6, e6, W6, V6, st6⟩ := own_stB X4 hx hZ e4 P4 (j := (0 : Int32)) (x := (va4 p2)) (by decide) 0 rfl (Nat.le_of_ble_eq_true rfl) (Ls := (L_rii a1 1 p2)) (rest := []) (hb hby d23_43)
  have N6 := Fr.snoc X6 N0 P5
  have F7 := (P2.wr W6 P5)
  obtain ⟨T8, X8, e8, st8⟩ := getS2 X6 hx hZ hown (host := "") (Or.inl (tw_103 hw)) Via.refl e6 (Sta.ext F7.2 P6) (g := (mkF m 47 (L_rii a1 1 p2) [vi p2, vi 1, vr a1])) rfl (hb hby d23_47)
  obtain ⟨T9, h9, X9, e9, W9, V9, st9⟩ := own_stB X8 hx hZ e8 V6 (j := (1 : Int32)) (x := (va5 p2)) (by decide) 1 rfl (Nat.le_of_ble_eq_true rfl) (Ls := (L_rii a1 1 p2)) (rest := []) (hb hby d23_52)
  have N9 := Fr.snoc X9 N6 P5
  have K10 := (Keep.refl h0 [a1]).wr W6 (Or.inl (List.mem_of_getElem? (i := 0) rfl))
  have K11 := K10.wr W9 (Or.inl (List.mem_of_getElem? (i := 0) rfl))
  refine ⟨T9, _, _, _, _, none, X9, e9, by decide, by decide, (fun _ => rfl), ⟨rfl, N9, K11, V9⟩, fun fs hr => ?_⟩
  show OS p e below s₁ m 0 (L_rii a1 0 p2) [] _
  refine st3 _ ?_
  refine own_b X3 hx hby tb23 9 [true] 38 (L_rii a1 1 p2) [vi p2, vi 0, vr a1] (ai (by decide) rfl) ?_
  refine st4 _ ?_
  refine own_b X4 hx hby tb23 2 [] 43 _ [vi (va4 p2), vi 0, vr a1] rfl ?_
  refine st6 _ ?_
  refine own_b X6 hx hby tb23 3 [] 47 _ [vi p2, vi 1, vr a1] rfl ?_
  refine st8 _ ?_
  refine own_b X8 hx hby tb23 2 [] 52 _ [vi (va5 p2), vi 1, vr a1] rfl ?_
  refine st9 _ ?_
  show OS p e below T9 m 53 (L_rii a1 1 p2) [] _
  exact X9.returnOut hx hret (hb hby d23_53) hr
theorem rm23_3 (hw : OW Z a0) (a1 : Addr) (p2 : Int32) (w5 : ClassId) (p6 p7 : Int32) (Z0 : n0 ≤ h0.size) (P1 : ab2 Z (vi 1)) (P2 : Old Z n0 h0) (P3 : ab3 Z (vi 0)) (P4 : Arv Z h0 a1 w5 .byte (4 : Int32) [vi p6, vi p7, vi 0, vi 0] (vi 0)) (P5 : n0 ≤ a1) (P6 : ab4 Z (vi 8)) :
    M23 l Z ws (orm 0 0 0 0) #[vr a1, vi 1, vi p2] h0 (fun v h L => v = none ∧ Fr n0 L ∧ Keep h0 h [a1] ∧ Arv Z h a1 w5 .byte (4 : Int32) [vi p6, vi p7, vi ((va4 p2).toInt8.toInt32), vi ((va5 p2).toInt8.toInt32)] (vi 0)) := by
  refine own_enter (plainFor_of_name pn_4) (L0 := (L_rii a1 1 p2)) ?_
  intro p e s m below meth c s₁ hx hby hml hown hnm hret hZ X0 e0
  have N0 := Fr.nil n0
  obtain ⟨T3, X3, e3, st3⟩ := getS2 X0 hx hZ hown (host := "") (Or.inl (tw_101 hw)) Via.refl e0 (Sta.ext P2.2 P1) (g := (mkF m 0 (L_rii a1 1 p2) [])) rfl (hb hby d23_0)
  obtain ⟨T4, X4, e4, st4⟩ := getS2 X3 hx hZ hown (host := "") (Or.inl (tw_102 hw)) Via.refl e3 (Sta.ext P2.2 P3) (g := (mkF m 38 (L_rii a1 3 p2) [vi p2, vi 2, vr a1])) rfl (hb hby d23_38)
  obtain ⟨T8, h8, X8, e8, W8, V8, st8⟩ := own_stB X4 hx hZ e4 P4 (j := (2 : Int32)) (x := (va4 p2)) (by decide) 2 rfl (Nat.le_of_ble_eq_true rfl) (Ls := (L_rii a1 3 p2)) (rest := []) (hb hby d23_43)
  have N8 := Fr.snoc X8 N0 P5
  have F9 := (P2.wr W8 P5)
  obtain ⟨T10, X10, e10, st10⟩ := getS2 X8 hx hZ hown (host := "") (Or.inl (tw_103 hw)) Via.refl e8 (Sta.ext F9.2 P6) (g := (mkF m 47 (L_rii a1 3 p2) [vi p2, vi 3, vr a1])) rfl (hb hby d23_47)
  obtain ⟨T11, h11, X11, e11, W11, V11, st11⟩ := own_stB X10 hx hZ e10 V8 (j := (3 : Int32)) (x := (va5 p2)) (by decide) 3 rfl (Nat.le_of_ble_eq_true rfl) (Ls := (L_rii a1 3 p2)) (rest := []) (hb hby d23_52)
  have N11 := Fr.snoc X11 N8 P5
  have K12 := (Keep.refl h0 [a1]).wr W8 (Or.inl (List.mem_of_getElem? (i := 0) rfl))
  have K13 := K12.wr W11 (Or.inl (List.mem_of_getElem? (i := 0) rfl))
  refine ⟨T11, _, _, _, _, none, X11, e11, by decide, by decide, (fun _ => rfl), ⟨rfl, N11, K13, V11⟩, fun fs hr => ?_⟩
  show OS p e below s₁ m 0 (L_rii a1 1 p2) [] _
  refine st3 _ ?_
  refine own_b X3 hx hby tb23 9 [true] 38 (L_rii a1 3 p2) [vi p2, vi 2, vr a1] (ai (by decide) rfl) ?_
  refine st4 _ ?_
  refine own_b X4 hx hby tb23 2 [] 43 _ [vi (va4 p2), vi 2, vr a1] rfl ?_
  refine st8 _ ?_
  refine own_b X8 hx hby tb23 3 [] 47 _ [vi p2, vi 3, vr a1] rfl ?_
  refine st10 _ ?_
  refine own_b X10 hx hby tb23 2 [] 52 _ [vi (va5 p2), vi 3, vr a1] rfl ?_
  refine st11 _ ?_
  show OS p e below T11 m 53 (L_rii a1 3 p2) [] _
  exact X11.returnOut hx hret (hb hby d23_53) hr
theorem rm20_2 (hw : OW Z a0) (a1 : Addr) (w4 : ClassId) (p5 p6 : Int32) (Z0 : n0 ≤ h0.size) (P1 : Arv Z h0 a1 w4 .char (2 : Int32) [vi p5, vi p6] (vi 0)) (P2 : ab2 Z (vi 1)) (P3 : Old Z n0 h0) (P4 : ab3 Z (vi 0)) (P5 : ab4 Z (vi 8)) :
    M20 l Z ws (orm 2 1 4 24) #[vr a1, vi 0, vi 2] h0 (fun v h L => ∃ b3 : Addr, ∃ kk2_0 : ClassId, v = some (vr b3) ∧ Fr n0 L ∧ Keep h0 h [] ∧ n0 ≤ b3 ∧ h0.size ≤ b3 ∧ Arv Z h b3 kk2_0 .byte (4 : Int32) [vi ((va4 p5).toInt8.toInt32), vi ((va5 p5).toInt8.toInt32), vi ((va4 p6).toInt8.toInt32), vi ((va5 p6).toInt8.toInt32)] (vi 0)) := by
  refine own_enter (plainFor_of_name pn_4) (L0 := (L_riiuu a1 0 2)) ?_
  intro p e s m below meth c s₁ hx hby hml hown hnm hret hZ X0 e0
  have N0 := Fr.nil n0
  obtain ⟨T2, L2, _, X2, ⟨b3, kk2_0, rfl, N2q, K2, qa2_0, qb2_0, f2_0⟩, st2⟩ := own_callS X0 hx hZ hown (cw_8 hw) (rm21_2 hw  Z0 ) e0 (Ls := (L_riiuu a1 0 2)) hml [vi 2] [] pd_13 0 (hb hby d20_1)
  have N2 := Fr.app N0 N2q
  have qd2_0 := Nat.le_trans (Nat.le_refl h0.size) qb2_0
  have F7 := (Arv.keep P1 K2 nin0)
  have F8 := (P3.keep K2 all0)
  obtain ⟨T9, L9, _, X9, ⟨rfl, N9q, K9, f9_0⟩, st9⟩ := own_callS X2 hx hZ hown (cw_9 hw) (rm23_2 hw b3 p5 kk2_0 (Nat.le_trans Z0 K2.1) P2 F8 P4 f2_0 qa2_0 P5) rfl (Ls := (L_riiri a1 0 2 b3 0)) hml [vr b3, vi 0, vi p5] [] pd_14 0 (hb hby d20_20)
  have N9 := Fr.app N2 N9q
  have n10 := Nat.ne_of_lt (Nat.lt_of_lt_of_le P1.lt qb2_0)
  have F11 := (Arv.keep F7 K9 (ninS n10 nin0))
  have F12 := (F8.keep K9 (allS qa2_0 all0))
  obtain ⟨T13, L13, _, X13, ⟨rfl, N13q, K13, f13_0⟩, st13⟩ := own_callS X9 hx hZ hown (cw_9 hw) (rm23_3 hw b3 p6 kk2_0 ((va4 p5).toInt8.toInt32) ((va5 p5).toInt8.toInt32) (Nat.le_trans (Nat.le_trans Z0 K2.1) K9.1) P2 F12 P4 f9_0 qa2_0 P5) rfl (Ls := (L_riiri a1 1 2 b3 1)) hml [vr b3, vi 1, vi p6] [] pd_14 0 (hb hby d20_20)
  have N13 := Fr.app N9 N13q
  have K14 := (Keep.refl h0 []).trans K2 all0
  have K15 := K14.trans K9 (allS (Or.inr qd2_0) all0)
  have K16 := K15.trans K13 (allS (Or.inr qd2_0) all0)
  refine ⟨T13, _, _, _, _, some (vr b3), X13, rfl, by decide, by decide, nofun, ⟨b3, kk2_0, rfl, N13, K16, qa2_0, qd2_0, f13_0⟩, fun fs hr => ?_⟩
  refine own_b X0 hx hby tb20 1 [] 1 _ [vi 2] rfl ?_
  refine st2 _ ?_
  refine own_a X2 hx hZ rfl hby tb20 (aec F7 aen) 11 [false] [0] 20 (L_riiri a1 0 2 b3 0) [vi p5, vi 0, vr b3] (ai (by decide) (ai rfl rfl)) ?_
  refine st9 _ ?_
  refine own_a X9 hx hZ rfl hby tb20 (aec F11 aen) 11 [false] [0] 20 (L_riiri a1 1 2 b3 1) [vi p6, vi 1, vr b3] (ai (by decide) (ai rfl rfl)) ?_
  refine st13 _ ?_
  refine own_b X13 hx hby tb20 7 [true] 33 (L_riiri a1 2 2 b3 2) [vr b3] (ai (by decide) rfl) ?_
  exact own_retA X13 hx hret rfl (hb hby d20_33) hr
theorem rm24_2 (hw : OW Z a0) (a1 : Addr) (w3 : ClassId) (p4 p5 p6 p7 : Int32) (Z0 : n0 ≤ h0.size) (P1 : ab2 Z (vi 1)) (P2 : Old Z n0 h0) (P3 : Arv Z h0 a1 w3 .byte (4 : Int32) [vi p4, vi p5, vi p6, vi p7] (vi 0)) (P4 : ab3 Z (vi 0)) (P5 : ab4 Z (vi 8)) :
    M24 l Z ws (orm 0 0 0 0) #[vr a1, vi 0] h0 (QI n0 h0 (vi (nar .char (va8 p4 p5)))) := by
  refine own_enter (plainFor_of_name pn_4) (L0 := (L_ri a1 0)) ?_
  intro p e s m below meth c s₁ hx hby hml hown hnm hret hZ X0 e0
  have N0 := Fr.nil n0
  obtain ⟨T2, X2, e2, st2⟩ := getS2 X0 hx hZ hown (host := "") (Or.inl (tw_101 hw)) Via.refl e0 (Sta.ext P2.2 P1) (g := (mkF m 0 (L_ri a1 0) [])) rfl (hb hby d24_0)
  obtain ⟨T8, X8, e8, st8⟩ := getS2 X2 hx hZ hown (host := "") (Or.inl (tw_102 hw)) Via.refl e2 (Sta.ext P2.2 P4) (g := (mkF m 42 (L_ri a1 1) [vi (p4 &&& (255 : Int32))])) rfl (hb hby d24_42)
  obtain ⟨T9, X9, e9, st9⟩ := getS2 X8 hx hZ hown (host := "") (Or.inl (tw_103 hw)) Via.refl e8 (Sta.ext P2.2 P5) (g := (mkF m 53 (L_ri a1 1) [vi (p5 &&& (255 : Int32)), vi (va6 p4)])) rfl (hb hby d24_53)
  refine ⟨T9, _, _, _, _, some (vi (nar .char (va8 p4 p5))), X9, e9, by decide, by decide, nofun, ⟨rfl, N0, rfl⟩, fun fs hr => ?_⟩
  show OS p e below s₁ m 0 (L_ri a1 0) [] _
  refine st2 _ ?_
  refine own_a X2 hx hZ e2 hby tb24 (aec P3 aen) 11 [true] [0] 42 (L_ri a1 1) [vi (p4 &&& (255 : Int32))] (ai (by decide) (ai rfl rfl)) ?_
  refine st8 _ ?_
  refine own_a X8 hx hZ e8 hby tb24 (aec P3 aen) 6 [] [0] 53 _ [vi (p5 &&& (255 : Int32)), vi (va6 p4)] (ai rfl rfl) ?_
  refine st9 _ ?_
  refine own_b X9 hx hby tb24 3 [] 59 _ [vi (va8 p4 p5)] rfl ?_
  exact retN X9 hx (t := .char) hret (by simp) (hb hby d24_59) hr
theorem rm16_3 (hw : OW Z a0) (a1 : Addr) (w4 : ClassId) (p5 p6 : Int32) (Z0 : n0 ≤ h0.size) (P1 : Arv Z h0 a1 w4 .char (2 : Int32) [vi p5, vi p6] (vi 0)) (P2 : (255 : Int32) < p5) (P3 : ab2 Z (vi 1)) (P4 : Old Z n0 h0) (P5 : ab3 Z (vi 0)) (P6 : ab4 Z (vi 8)) (P7 : (255 : Int32) < (nar .char (va8 ((va4 p5).toInt8.toInt32) ((va5 p5).toInt8.toInt32)))) :
    M16 l Z ws (orm 3 2 6 40) #[vr a1, vi 0, vi 2] h0 (fun v h L => ∃ b11 : Addr, ∃ kk10_0 : ClassId, v = some (vr b11) ∧ Fr n0 L ∧ Keep h0 h [] ∧ n0 ≤ b11 ∧ h0.size ≤ b11 ∧ Arv Z h b11 kk10_0 .byte (4 : Int32) [vi ((va4 p5).toInt8.toInt32), vi ((va5 p5).toInt8.toInt32), vi ((va4 p6).toInt8.toInt32), vi ((va5 p6).toInt8.toInt32)] (vi 0)) := by
  refine own_enter (plainFor_of_name pn_4) (L0 := (L_riiuuu a1 0 2)) ?_
  intro p e s m below meth c s₁ hx hby hml hown hnm hret hZ X0 e0
  have N0 := Fr.nil n0
  obtain ⟨T3, h3, b2, k3, X3, e3, E3, g3, V3, st3⟩ := own_newP X0 hx hZ (tw_23 hw) e0 (n := (2 : Int32)) (k := 2) (d := (vi 0)) (vs := [vi 0, vi 0]) (Ls := (L_riiuuu a1 0 2)) (S := []) (hb hby d16_1)
  have q3 := Nat.le_trans Z0 g3
  have z3 := Nat.le_trans (Nat.le_refl h0.size) g3
  have F7 := (P1.ext E3)
  obtain ⟨T8, L8, _, X8, ⟨rfl, N8q, e8q⟩, st8⟩ := own_callS X3 hx hZ hown (cw_6 hw) (rm17_3 hw a1 b2 w4 p5 p6 (Nat.le_trans Z0 E3.1) F7 P2) e3 (Ls := (L_riiruu a1 0 2 b2)) hml [vr a1, vi 0, vr b2, vi 0, vi 2] [] pd_12 0 (hb hby d16_9)
  have N8 := Fr.app N0 N8q
  have F9 := (P4.ext E3)
  obtain ⟨T10, L10, _, X10, ⟨b11, kk10_0, rfl, N10q, K10, qa10_0, qb10_0, f10_0⟩, st10⟩ := own_callS X8 hx hZ hown (cw_10 hw) (rm20_2 hw a1 w4 p5 p6 (Nat.le_trans Z0 E3.1) F7 P3 F9 P5 P6) e8q (Ls := (L_riiriu a1 0 2 b2 0)) hml [vr a1, vi 0, vi 2] [] pd_15 0 (hb hby d16_23)
  have N10 := Fr.app N8 N10q
  have qd10_0 := Nat.le_trans (Nat.le_trans (Nat.le_refl h0.size) E3.1) qb10_0
  have F12 := (F9.keep K10 all0)
  obtain ⟨T13, L13, _, X13, ⟨rfl, N13q, e13q⟩, st13⟩ := own_callS X10 hx hZ hown (cw_11 hw) (rm24_2 hw b11 kk10_0 ((va4 p5).toInt8.toInt32) ((va5 p5).toInt8.toInt32) ((va4 p6).toInt8.toInt32) ((va5 p6).toInt8.toInt32) (Nat.le_trans (Nat.le_trans Z0 E3.1) K10.1) P3 F12 f10_0 P5 P6) rfl (Ls := (L_riirir a1 0 2 b2 0 b11)) hml [vr b11, vi 0] [] pd_16 0 (hb hby d16_32)
  have N13 := Fr.app N10 N13q
  have K14 := (Keep.refl h0 []).ext E3
  have K15 := K14.trans K10 all0
  refine ⟨T13, _, _, _, _, some (vr b11), X13, e13q, by decide, by decide, nofun, ⟨b11, kk10_0, rfl, N13, K15, qa10_0, qd10_0, f10_0⟩, fun fs hr => ?_⟩
  refine own_b X0 hx hby tb16 1 [] 1 _ [vi 2] rfl ?_
  refine st3 _ ?_
  refine own_b X3 hx hby tb16 6 [] 9 (L_riiruu a1 0 2 b2) [vi 2, vi 0, vr b2, vi 0, vr a1] rfl ?_
  refine st8 _ ?_
  refine own_b X8 hx hby tb16 7 [false] 23 (L_riiriu a1 0 2 b2 0) [vi 2, vi 0, vr a1] (ai (by decide) rfl) ?_
  refine st10 _ ?_
  refine own_b X10 hx hby tb16 3 [] 32 (L_riirir a1 0 2 b2 0 b11) [vi 0, vr b11] rfl ?_
  refine st13 _ ?_
  refine own_b X13 hx hby tb16 3 [true] 56 _ [vr b11] (ai (tlt P7).2.2.1 rfl) ?_
  exact own_retA X13 hx hret rfl (hb hby d16_56) hr
theorem rm18_3 (hw : OW Z a0) (a1 : Addr) (w2 : ClassId) (p3 p4 p5 p6 : Int32) (Z0 : n0 ≤ h0.size) (P1 : Arv Z h0 a1 w2 .byte (4 : Int32) [vi p3, vi p4, vi p5, vi p6] (vi 0)) :
    M18 l Z ws (orm 0 0 0 0) #[vr a1, vi 2] h0 (QI n0 h0 (vi 1)) := by
  refine own_enter (plainFor_of_name pn_4) (L0 := (L_ri a1 2)) ?_
  intro p e s m below meth c s₁ hx hby hml hown hnm hret hZ X0 e0
  have N0 := Fr.nil n0
  refine ⟨s₁, _, _, _, _, some (vi 1), X0, e0, by decide, by decide, nofun, ⟨rfl, N0, rfl⟩, fun fs hr => ?_⟩
  refine own_a X0 hx hZ e0 hby tb18 (aec P1 aen) 7 [] [0] 8 _ [vi 1] (ai rfl rfl) ?_
  exact retN X0 hx (t := .byte) hret (by simp) (hb hby d18_8) hr
theorem rm4_4 (hw : OW Z a0) (a1 a2 : Addr) (p4 : Int32) (w6 : ClassId) (p7 p8 : Int32) (Z0 : n0 ≤ h0.size) (P1 : ab1 Z (vi p4)) (P2 : Old Z n0 h0) (P3 : ¬ (p4 = (0 : Int32))) (P4 : Arv Z h0 a2 w6 .char (2 : Int32) [vi p7, vi p8] (vi 0)) (P5 : (255 : Int32) < p7) (P6 : ab2 Z (vi 1)) (P7 : ab3 Z (vi 0)) (P8 : ab4 Z (vi 8)) (P9 : (255 : Int32) < (nar .char (va8 ((va4 p7).toInt8.toInt32) ((va5 p7).toInt8.toInt32)))) (P10 : ab6 Z h0 a1 (vi 0)) (P11 : ab8 Z h0 a1) (P12 : n0 ≤ a1) (P13 : ab7 Z h0 a1 .null) :
    M4 l Z ws (orm 4 2 6 57) #[vr a1, vr a2, vi 0, vi 2, .null] h0 (fun v h L => ∃ b10 : Addr, ∃ kk9_0 : ClassId, v = none ∧ Fr n0 L ∧ Keep h0 h [a1] ∧ n0 ≤ b10 ∧ h0.size ≤ b10 ∧ ab6 Z h a1 (vi 1) ∧ ab7 Z h a1 (vr b10) ∧ Arv Z h b10 kk9_0 .byte (4 : Int32) [vi ((va4 p7).toInt8.toInt32), vi ((va5 p7).toInt8.toInt32), vi ((va4 p8).toInt8.toInt32), vi ((va5 p8).toInt8.toInt32)] (vi 0)) := by
  refine own_enter (plainFor_of_name pn_1) (L0 := (L_rriinu a1 a2 0 2)) ?_
  intro p e s m below meth c s₁ hx hby hml hown hnm hret hZ X0 e0
  have N0 := Fr.nil n0
  obtain ⟨T3, X3, e3, st3⟩ := initO X0 hx hZ hown (tw_19 hw) (tw_20 hw) (tw_21 hw) e0 (g := (mkF m 1 (L_rriinu a1 a2 0 2) [vr a1])) rfl (by rw [hml]; rfl) rfl (hb hby d4_1) (by decide) (W := 0) (by show 2 * 0 + _ ≤ _; exact Nat.le_of_eq rfl) (by decide)
  obtain ⟨T5, X5, e5, st5⟩ := getS2 X3 hx hZ hown (host := "") (Or.inl (tw_49 hw)) Via.refl e3 (Sta.ext P2.2 P1) (g := (mkF m 27 (L_rriinu a1 a2 0 2) [])) rfl (hb hby d4_27)
  obtain ⟨T9, L9, _, X9, ⟨b10, kk9_0, rfl, N9q, K9, qa9_0, qb9_0, f9_0⟩, st9⟩ := own_callS X5 hx hZ hown (cw_12 hw) (rm16_3 hw a2 w6 p7 p8 Z0 P4 P5 P6 P2 P7 P8 P9) e5 (Ls := (L_rriinu a1 a2 0 2)) hml [vr a2, vi 0, vi 2] [] pd_15 0 (hb hby d4_36)
  have N9 := Fr.app N0 N9q
  have qd9_0 := Nat.le_trans (Nat.le_refl h0.size) qb9_0
  obtain ⟨T11, L11, _, X11, ⟨rfl, N11q, e11q⟩, st11⟩ := own_callS X9 hx hZ hown (cw_13 hw) (rm18_3 hw b10 kk9_0 ((va4 p7).toInt8.toInt32) ((va5 p7).toInt8.toInt32) ((va4 p8).toInt8.toInt32) ((va5 p8).toInt8.toInt32) (Nat.le_trans Z0 K9.1) f9_0) rfl (Ls := (L_rriinr a1 a2 0 2 b10)) hml [vr b10, vi 2] [vr a1] pd_17 1 (hb hby d4_45)
  have N11 := Fr.app N9 N11q
  have F12 := (Fld.keep P10 K9 nin0)
  have F13 := (Exa.keep P11 K9)
  obtain ⟨T14, h14, X14, e14, W14, st14⟩ := putF X11 hx hZ hown (host := "") (Or.inl (tw_29 hw)) Via.refl e11q F12 F13 (Or.inr ⟨(tw_25 hw), rfl, hnm⟩) (tw_9 hw) (ty := .byte) (by decide) rfl rfl (g := (mkF m 48 (L_rriinr a1 a2 0 2 b10) [vi 1, vr a1])) rfl rfl (hb hby d4_48)
  have N14 := Fr.snoc X14 N11 P12
  have Fw14 := Fld.same W14 F12
  have F15 := (Fld.other W14 (Fld.keep P13 K9 nin0) (Or.inr (slot_ne (Or.inr (tw_24 hw)) (Or.inr (tw_25 hw)) (by decide) (t := (.array .byte)) (t' := .byte) (by decide) (by decide))))
  have F16 := (Exa.wr W14 F13)
  obtain ⟨T17, h17, X17, e17, W17, st17⟩ := putF X14 hx hZ hown (host := "") (Or.inl (tw_28 hw)) Via.refl e14 F15 F16 (Or.inr ⟨(tw_24 hw), rfl, hnm⟩) (tw_9 hw) (ty := (.array .byte)) (by decide) rfl rfl (g := (mkF m 54 (L_rriinr a1 a2 0 2 b10) [vr b10, vr a1])) rfl rfl (hb hby d4_54)
  have N17 := Fr.snoc X17 N14 P12
  have Fw17 := Fld.same W17 F15
  have F18 := (Fld.other W17 Fw14 (Or.inr (slot_ne (Or.inr (tw_25 hw)) (Or.inr (tw_24 hw)) (by decide) (t := .byte) (t' := (.array .byte)) (by decide) (by decide))))
  have n19 := Nat.ne_of_lt (Nat.lt_of_lt_of_le P10.lt qb9_0)
  have F20 := (Arv.other (Arv.other f9_0 W14 (Ne.symm n19)) W17 (Ne.symm n19))
  have K21 := (Keep.refl h0 [a1]).trans K9 all0
  have K22 := K21.wr W14 (Or.inl (List.mem_of_getElem? (i := 0) rfl))
  have K23 := K22.wr W17 (Or.inl (List.mem_of_getElem? (i := 0) rfl))
  refine ⟨T17, _, _, _, _, none, X17, e17, by decide, by decide, (fun _ => rfl), ⟨b10, kk9_0, rfl, N17, K23, qa9_0, qd9_0, F18, Fw17, F20⟩, fun fs hr => ?_⟩
  refine own_b X0 hx hby tb4 1 [] 1 _ [vr a1] rfl ?_
  refine st3 _ ?_
  refine own_b X3 hx hby tb4 2 [true] 27 _ [] (ai (by decide) rfl) ?_
  refine st5 _ ?_
  refine own_b X5 hx hby tb4 4 [false] 36 _ [vi 2, vi 0, vr a2] (ai (feq P3).1 rfl) ?_
  refine st9 _ ?_
  refine own_b X9 hx hby tb4 4 [] 45 (L_rriinr a1 a2 0 2 b10) [vi 2, vr b10, vr a1] rfl ?_
  refine st11 _ ?_
  refine st14 _ ?_
  refine own_b X14 hx hby tb4 2 [] 54 _ [vr b10, vr a1] rfl ?_
  refine st17 _ ?_
  show OS p e below T17 m 57 (L_rriinr a1 a2 0 2 b10) [] _
  exact X17.returnOut hx hret (hb hby d4_57) hr
theorem rm3_4 (hw : OW Z a0) (a1 a2 : Addr) (w3 : ClassId) (p4 p5 p6 : Int32) (Z0 : n0 ≤ h0.size) (P1 : Arv Z h0 a2 w3 .char (2 : Int32) [vi p4, vi p5] (vi 0)) (P2 : ab1 Z (vi p6)) (P3 : Old Z n0 h0) (P4 : ¬ (p6 = (0 : Int32))) (P5 : (255 : Int32) < p4) (P6 : ab2 Z (vi 1)) (P7 : ab3 Z (vi 0)) (P8 : ab4 Z (vi 8)) (P9 : (255 : Int32) < (nar .char (va8 ((va4 p4).toInt8.toInt32) ((va5 p4).toInt8.toInt32)))) (P10 : ab6 Z h0 a1 (vi 0)) (P11 : ab8 Z h0 a1) (P12 : n0 ≤ a1) (P13 : ab7 Z h0 a1 .null) :
    M3 l Z ws (orm 5 2 6 74) #[vr a1, vr a2] h0 (fun v h L => ∃ b8 : Addr, ∃ kk7_0 : ClassId, v = none ∧ Fr n0 L ∧ Keep h0 h [a1] ∧ n0 ≤ b8 ∧ h0.size ≤ b8 ∧ ab6 Z h a1 (vi 1) ∧ ab7 Z h a1 (vr b8) ∧ Arv Z h b8 kk7_0 .byte (4 : Int32) [vi ((va4 p4).toInt8.toInt32), vi ((va5 p4).toInt8.toInt32), vi ((va4 p5).toInt8.toInt32), vi ((va5 p5).toInt8.toInt32)] (vi 0)) := by
  refine own_enter (plainFor_of_name pn_1) (L0 := (L_rr a1 a2)) ?_
  intro p e s m below meth c s₁ hx hby hml hown hnm hret hZ X0 e0
  have N0 := Fr.nil n0
  obtain ⟨T7, L7, _, X7, ⟨b8, kk7_0, rfl, N7q, K7, qa7_0, qb7_0, f7_0, f7_1, f7_2⟩, st7⟩ := own_callI X0 hx hZ hown (cw_14 hw) (rm4_4 hw a1 a2 p6 w3 p4 p5 Z0 P2 P3 P4 P1 P5 P6 P7 P8 P9 P10 P11 P12 P13) e0 (Ls := (L_rr a1 a2)) hml a1 [vr a2, vi 0, vi 2, .null] [] pd_1 0 (hb hby d3_6)
  have N7 := Fr.app N0 N7q
  have qd7_0 := Nat.le_trans (Nat.le_refl h0.size) qb7_0
  have K9 := (Keep.refl h0 [a1]).trans K7 (allS (Or.inl (List.mem_of_getElem? (i := 0) rfl)) all0)
  refine ⟨T7, _, _, _, _, none, X7, rfl, by decide, by decide, (fun _ => rfl), ⟨b8, kk7_0, rfl, N7, K9, qa7_0, qd7_0, f7_0, f7_1, f7_2⟩, fun fs hr => ?_⟩
  refine own_a X0 hx hZ e0 hby tb3 (aec P1 aen) 6 [] [0] 6 _ [.null, vi 2, vi 0, vr a2, vr a1] (ai rfl rfl) ?_
  refine st7 _ ?_
  show OS p e below T7 m 9 (L_rr a1 a2) [] _
  exact X7.returnOut hx hret (hb hby d3_9) hr
theorem rm2_4 (hw : OW Z a0) (p1 p2 p3 p4 p13 : Int32) (Z0 : n0 ≤ h0.size) (P1 : ab1 Z (vi p13)) (P2 : Old Z n0 h0) (P3 : ¬ (p13 = (0 : Int32))) (P4 : (255 : Int32) < (nar .char p1)) (P5 : ab2 Z (vi 1)) (P6 : ab3 Z (vi 0)) (P7 : ab4 Z (vi 8)) (P8 : (255 : Int32) < (nar .char (va8 ((va4 (nar .char p1)).toInt8.toInt32) ((va5 (nar .char p1)).toInt8.toInt32)))) :
    M2 l Z ws (orm 6 4 12 88) #[vi 2, vi p1, vi p2, vi p3, vi p4] h0 (fun v h L => ∃ b5 : Addr, ∃ b21 : Addr, ∃ kk19_0 : ClassId, v = some (vr b5) ∧ Fr n0 L ∧ Keep h0 h [] ∧ n0 ≤ b5 ∧ h0.size ≤ b5 ∧ n0 ≤ b21 ∧ h0.size ≤ b21 ∧ b5 ≠ b21 ∧ ab8 Z h b5 ∧ ab6 Z h b5 (vi 1) ∧ ab7 Z h b5 (vr b21) ∧ Arv Z h b21 kk19_0 .byte (4 : Int32) [vi ((va4 (nar .char p1)).toInt8.toInt32), vi ((va5 (nar .char p1)).toInt8.toInt32), vi ((va4 (nar .char p2)).toInt8.toInt32), vi ((va5 (nar .char p2)).toInt8.toInt32)] (vi 0)) := by
  refine own_enter (plainFor_of_name pn_0) (L0 := (L_iiiii 2 p1 p2 p3 p4)) ?_
  intro p e s m below meth c s₁ hx hby hml hown hnm hret hZ X0 e0
  have N0 := Fr.nil n0
  obtain ⟨T6, h6, b5, X6, e6, E6, g6, A6, D6, st6⟩ := own_new X0 hx hZ hown (tw_8 hw) (tw_9 hw) (tw_10 hw) e0 (Ls := (L_iiiii 2 p1 p2 p3 p4)) (S := []) (hb hby d2_40)
  have q6 := Nat.le_trans Z0 g6
  have z6 := Nat.le_trans (Nat.le_refl h0.size) g6
  have F7 : ab7 Z h6 b5 .null := D6 (Or.inr (tw_24 hw)) (ty := (.array .byte)) (by decide)
  have F8 : ab6 Z h6 b5 (vi 0) := D6 (Or.inr (tw_25 hw)) (ty := .byte) (by decide)
  obtain ⟨T10, h10, b9, k10, X10, e10, E10, g10, V10, st10⟩ := own_newP X6 hx hZ (tw_11 hw) e6 (n := (2 : Int32)) (k := 2) (d := (vi 0)) (vs := [vi 0, vi 0]) (Ls := (L_iiiii 2 p1 p2 p3 p4)) (S := [vr b5, vr b5]) (hb hby d2_45)
  have q10 := Nat.le_trans (Nat.le_trans Z0 E6.1) g10
  have z10 := Nat.le_trans (Nat.le_trans (Nat.le_refl h0.size) E6.1) g10
  obtain ⟨T11, h11, X11, e11, W11, V11, st11⟩ := own_stC X10 hx hZ e10 V10 (j := (0 : Int32)) (x := p1) (by decide) 0 rfl (Nat.le_of_ble_eq_true rfl) (Ls := (L_iiiii 2 p1 p2 p3 p4)) (rest := [vr b9, vr b5, vr b5]) (hb hby d2_50)
  have N11 := Fr.snoc X11 N0 q10
  obtain ⟨T12, h12, X12, e12, W12, V12, st12⟩ := own_stC X11 hx hZ e11 V11 (j := (1 : Int32)) (x := p2) (by decide) 1 rfl (Nat.le_of_ble_eq_true rfl) (Ls := (L_iiiii 2 p1 p2 p3 p4)) (rest := [vr b9, vr b5, vr b5]) (hb hby d2_54)
  have N12 := Fr.snoc X12 N11 q10
  have F14 := ((((P2.ext E6).ext E10).wr W11 q10).wr W12 q10)
  have n15 := Nat.ne_of_lt (Nat.lt_of_lt_of_le A6.lt g10)
  have F16 := (Fld.other W12 (Fld.other W11 (Fld.ext E10 F8) (Or.inl n15)) (Or.inl n15))
  have F17 := (Exa.wr W12 (Exa.wr W11 (Exa.ext E10 A6)))
  have F18 := (Fld.other W12 (Fld.other W11 (Fld.ext E10 F7) (Or.inl n15)) (Or.inl n15))
  have F20 := (Nat.le_trans (Nat.le_trans (Nat.le_trans (Nat.le_trans Z0 E6.1) E10.1) (Keep.of_wr W11).1) (Keep.of_wr W12).1)
  obtain ⟨T19, L19, _, X19, ⟨b21, kk19_0, rfl, N19q, K19, qa19_0, qb19_0, f19_0, f19_1, f19_2⟩, st19⟩ := own_callI X12 hx hZ hown (cw_15 hw) (rm3_4 hw b5 b9 k10 (nar .char p1) (nar .char p2) p13 F20 V12 P1 F14 P3 P4 P5 P6 P7 P8 F16 F17 q6 F18) e12 (Ls := (L_iiiii 2 p1 p2 p3 p4)) hml b5 [vr b9] [vr b5] pd_2 1 (hb hby d2_55)
  have N19 := Fr.app N12 N19q
  have F22 := (Nat.le_trans (Nat.le_trans (Nat.le_trans (Nat.le_trans (Nat.le_refl h0.size) E6.1) E10.1) (Keep.of_wr W11).1) (Keep.of_wr W12).1)
  have qd19_0 := Nat.le_trans F22 qb19_0
  have F23 := (Exa.keep F17 K19)
  have K24 := (Keep.refl h0 []).ext E6
  have K25 := K24.ext E10
  have K26 := K25.wr W11 (Or.inr z10)
  have K27 := K26.wr W12 (Or.inr z10)
  have K28 := K27.trans K19 (allS (Or.inr z6) all0)
  have n29 := Nat.ne_of_lt (Nat.lt_of_lt_of_le F16.lt qb19_0)
  refine ⟨T19, _, _, _, _, some (vr b5), X19, rfl, by decide, by decide, nofun, ⟨b5, b21, kk19_0, rfl, N19, K28, q6, z6, qa19_0, qd19_0, n29, F23, f19_0, f19_1, f19_2⟩, fun fs hr => ?_⟩
  refine own_b X0 hx hby tb2 8 [true, true, false] 40 _ [] (ai (by decide) (ai (by decide) (ai (by decide) rfl))) ?_
  refine st6 _ ?_
  refine own_b X6 hx hby tb2 2 [] 45 _ [vi 2, vr b5, vr b5] rfl ?_
  refine st10 _ ?_
  refine own_b X10 hx hby tb2 3 [] 50 _ [vi p1, vi 0, vr b9, vr b9, vr b5, vr b5] rfl ?_
  refine st11 _ ?_
  refine own_b X11 hx hby tb2 3 [] 54 _ [vi p2, vi 1, vr b9, vr b9, vr b5, vr b5] rfl ?_
  refine st12 _ ?_
  refine st19 _ ?_
  exact own_retA X19 hx hret rfl (hb hby d2_58) hr
theorem rm10_4 (hw : OW Z a0) (a1 a2 : Addr) (w4 : ClassId) (p5 p6 p7 p8 p9 : Int32) (Z0 : n0 ≤ h0.size) (P1 : ab7 Z h0 a1 (vr a2)) (P2 : Arv Z h0 a2 w4 .byte (4 : Int32) [vi p5, vi p6, vi p7, vi p8] (vi 0)) (P3 : ab8 Z h0 a1) (P4 : ab1 Z (vi p9)) (P5 : Old Z n0 h0) (P6 : ¬ (p9 = (0 : Int32))) (P7 : ab6 Z h0 a1 (vi 1)) :
    M10 l Z ws (orm 1 0 0 13) #[vr a1] h0 (QI n0 h0 (vi 2)) := by
  refine own_enter (plainFor_of_name pn_1) (L0 := #[sr a1]) ?_
  intro p e s m below meth c s₁ hx hby hml hown hnm hret hZ X0 e0
  have N0 := Fr.nil n0
  obtain ⟨T3, X3, e3, st3⟩ := getF X0 hx hZ hown (host := "") (Or.inl (tw_28 hw)) Via.refl e0 P1 (g := (mkF m 1 #[sr a1] [vr a1])) rfl rfl (hb hby d10_1)
  obtain ⟨T10, L10, _, X10, ⟨rfl, N10q, e10q⟩, st10⟩ := own_callV X3 hx hZ hown (tw_55 hw) (tw_56 hw) (notFace_of_selects (args := #[]) (mvT hZ (tw_58 hw))) (tw_58 hw) (tw_57 hw) (tw_10 hw) (tw_59 hw) (rm11_2 hw a1 p9 Z0 P4 P5 P6 P7) e3 P3 (Ls := #[sr a1]) hml [] [vi 4] pd_5 1 (hb hby d10_6)
  have N10 := Fr.app N0 N10q
  refine ⟨T10, _, _, _, _, some (vi 2), X10, e10q, by decide, by decide, nofun, ⟨rfl, N10, rfl⟩, fun fs hr => ?_⟩
  refine own_b X0 hx hby tb10 1 [] 1 _ [vr a1] rfl ?_
  refine st3 _ ?_
  refine own_a X3 hx hZ e3 hby tb10 (aec P2 aen) 2 [] [0] 6 _ [vr a1, vi 4] (ai rfl rfl) ?_
  refine st10 _ ?_
  refine own_b X10 hx hby tb10 1 [] 10 _ [vi 2] rfl ?_
  exact retI X10 hx hret (hb hby d10_10) hr
theorem rm15_3 (hw : OW Z a0)  (Z0 : n0 ≤ h0.size) :
    M15 l Z ws (orm 0 0 0 0) #[vi 2, vi 2] h0 (QI n0 h0 (vi 2)) := by
  refine own_enter (Jvm.Free.JP.mathPlain rfl (by decide +kernel)) (L0 := (L_ii 2 2)) ?_
  intro p e s m below meth c s₁ hx hby hml hown hnm hret hZ X0 e0
  have N0 := Fr.nil n0
  refine ⟨s₁, _, _, _, _, some (vi 2), X0, e0, by decide, by decide, nofun, ⟨rfl, N0, rfl⟩, fun fs hr => ?_⟩
  refine own_b X0 hx hby tb15 5 [false] 10 _ [vi 2] (ai (by decide) rfl) ?_
  exact retI X0 hx hret (hb hby d15_10) hr
theorem rm28_2 (hw : OW Z a0) (a1 : Addr) (w2 : ClassId) (p3 p4 p5 p6 : Int32) (Z0 : n0 ≤ h0.size) (P1 : Arv Z h0 a1 w2 .byte (4 : Int32) [vi p3, vi p4, vi p5, vi p6] (vi 0)) :
    M28 l Z ws (orm 0 0 0 0) #[vr a1] h0 (QI n0 h0 (vi 2)) := by
  refine own_enter (plainFor_of_name pn_4) (L0 := #[sr a1]) ?_
  intro p e s m below meth c s₁ hx hby hml hown hnm hret hZ X0 e0
  have N0 := Fr.nil n0
  refine ⟨s₁, _, _, _, _, some (vi 2), X0, e0, by decide, by decide, nofun, ⟨rfl, N0, rfl⟩, fun fs hr => ?_⟩
  refine own_a X0 hx hZ e0 hby tb28 (aec P1 aen) 4 [] [0] 4 _ [vi 2] (ai rfl rfl) ?_
  exact retI X0 hx hret (hb hby d28_4) hr
theorem rm30_2 (hw : OW Z a0) (a1 : Value) (Z0 : n0 ≤ h0.size) (P1 : a1.isRef = true) :
    M30 l Z ws (orm 0 0 0 0) #[vi 0, vi 2, vi 2, a1] h0 (QI n0 h0 (vi 0)) := by
  refine own_enter (plainFor_of_name pn_5) (L0 := #[si 0, si 2, si 2, .val a1]) (hef := fun m => by rcases ref_cases P1 with h0 | ⟨_, h0⟩ <;> simp only [h0] <;> first | rfl | (simp [entryFrame, mkF, argsToLocals, Value.category]; done)) ?_
  intro p e s m below meth c s₁ hx hby hml hown hnm hret hZ X0 e0
  have N0 := Fr.nil n0
  refine ⟨s₁, _, _, _, _, some (vi 0), X0, e0, by decide, by decide, nofun, ⟨rfl, N0, rfl⟩, fun fs hr => ?_⟩
  refine own_b X0 hx hby tb30 9 [false, false, true] 23 _ [vi 0] (ai (by decide) (ai (by decide) (ai (by decide) rfl))) ?_
  exact retI X0 hx hret (hb hby d30_23) hr
theorem rm29_2 (hw : OW Z a0) (a1 : Value) (Z0 : n0 ≤ h0.size) (P1 : ab5 Z a1) (P2 : Old Z n0 h0) (P3 : a1.isRef = true) :
    M29 l Z ws (orm 1 0 0 15) #[vi 0, vi 2, vi 2] h0 (fun v h L => v = none ∧ Fr n0 L ∧ h = h0) := by
  refine own_enter (plainFor_of_name pn_1) (L0 := (L_iii 0 2 2)) ?_
  intro p e s m below meth c s₁ hx hby hml hown hnm hret hZ X0 e0
  have N0 := Fr.nil n0
  obtain ⟨T2, X2, e2, st2⟩ := getS2 X0 hx hZ hown (host := "") (Or.inl (tw_125 hw)) Via.refl e0 (Sta.ext P2.2 P1) (g := (mkF m 3 (L_iii 0 2 2) [vi 2, vi 2, vi 0])) rfl (hb hby d29_3)
  obtain ⟨T3, L3, _, X3, ⟨rfl, N3q, e3q⟩, st3⟩ := own_callS X2 hx hZ hown (cw_20 hw) (rm30_2 hw a1 Z0 P3) e2 (Ls := (L_iii 0 2 2)) hml [vi 0, vi 2, vi 2, a1] [] pd_19 0 (hb hby d29_6)
  have N3 := Fr.app N0 N3q
  refine ⟨T3, _, _, _, _, none, X3, e3q, by decide, by decide, (fun _ => rfl), ⟨rfl, N3, rfl⟩, fun fs hr => ?_⟩
  refine own_b X0 hx hby tb29 3 [] 3 _ [vi 2, vi 2, vi 0] rfl ?_
  refine st2 _ ?_
  refine st3 _ ?_
  refine own_b X3 hx hby tb29 1 [] 10 _ [] rfl ?_
  exact X3.returnOut hx hret (hb hby d29_10) hr
theorem rm27_2 (hw : OW Z a0) (a1 : Addr) (w2 : ClassId) (p3 p4 p5 p6 : Int32) (a8 : Value) (Z0 : n0 ≤ h0.size) (P1 : Arv Z h0 a1 w2 .byte (4 : Int32) [vi p3, vi p4, vi p5, vi p6] (vi 0)) (P2 : ab5 Z a8) (P3 : Old Z n0 h0) (P4 : a8.isRef = true) :
    M27 l Z ws (orm 2 0 0 29) #[vi 0, vi 2, vr a1] h0 (fun v h L => v = none ∧ Fr n0 L ∧ h = h0) := by
  refine own_enter (plainFor_of_name pn_4) (L0 := (L_iir 0 2 a1)) ?_
  intro p e s m below meth c s₁ hx hby hml hown hnm hret hZ X0 e0
  have N0 := Fr.nil n0
  obtain ⟨T7, L7, _, X7, ⟨rfl, N7q, e7q⟩, st7⟩ := own_callS X0 hx hZ hown (cw_19 hw) (rm28_2 hw a1 w2 p3 p4 p5 p6 Z0 P1) e0 (Ls := (L_iir 0 2 a1)) hml [vr a1] [vi 2, vi 0] pd_18 2 (hb hby d27_3)
  have N7 := Fr.app N0 N7q
  obtain ⟨T9, L9, _, X9, ⟨rfl, N9q, e9q⟩, st9⟩ := own_callS X7 hx hZ hown (cw_21 hw) (rm29_2 hw a8 Z0 P2 P3 P4) e7q (Ls := (L_iir 0 2 a1)) hml [vi 0, vi 2, vi 2] [] pd_20 0 (hb hby d27_6)
  have N9 := Fr.app N7 N9q
  refine ⟨T9, _, _, _, _, none, X9, e9q, by decide, by decide, (fun _ => rfl), ⟨rfl, N9, rfl⟩, fun fs hr => ?_⟩
  refine own_b X0 hx hby tb27 3 [] 3 _ [vr a1, vi 2, vi 0] rfl ?_
  refine st7 _ ?_
  refine st9 _ ?_
  show OS p e below T9 m 9 (L_iir 0 2 a1) [] _
  exact X9.returnOut hx hret (hb hby d27_9) hr
theorem rm24_3 (hw : OW Z a0) (a1 : Addr) (w3 : ClassId) (p4 p5 p6 p7 : Int32) (Z0 : n0 ≤ h0.size) (P1 : ab2 Z (vi 1)) (P2 : Old Z n0 h0) (P3 : Arv Z h0 a1 w3 .byte (4 : Int32) [vi p4, vi p5, vi p6, vi p7] (vi 0)) (P4 : ab3 Z (vi 0)) (P5 : ab4 Z (vi 8)) :
    M24 l Z ws (orm 0 0 0 0) #[vr a1, vi 1] h0 (QI n0 h0 (vi (nar .char (va8 p6 p7)))) := by
  refine own_enter (plainFor_of_name pn_4) (L0 := (L_ri a1 1)) ?_
  intro p e s m below meth c s₁ hx hby hml hown hnm hret hZ X0 e0
  have N0 := Fr.nil n0
  obtain ⟨T2, X2, e2, st2⟩ := getS2 X0 hx hZ hown (host := "") (Or.inl (tw_101 hw)) Via.refl e0 (Sta.ext P2.2 P1) (g := (mkF m 0 (L_ri a1 1) [])) rfl (hb hby d24_0)
  obtain ⟨T8, X8, e8, st8⟩ := getS2 X2 hx hZ hown (host := "") (Or.inl (tw_102 hw)) Via.refl e2 (Sta.ext P2.2 P4) (g := (mkF m 42 (L_ri a1 3) [vi (p6 &&& (255 : Int32))])) rfl (hb hby d24_42)
  obtain ⟨T9, X9, e9, st9⟩ := getS2 X8 hx hZ hown (host := "") (Or.inl (tw_103 hw)) Via.refl e8 (Sta.ext P2.2 P5) (g := (mkF m 53 (L_ri a1 3) [vi (p7 &&& (255 : Int32)), vi (va6 p6)])) rfl (hb hby d24_53)
  refine ⟨T9, _, _, _, _, some (vi (nar .char (va8 p6 p7))), X9, e9, by decide, by decide, nofun, ⟨rfl, N0, rfl⟩, fun fs hr => ?_⟩
  show OS p e below s₁ m 0 (L_ri a1 1) [] _
  refine st2 _ ?_
  refine own_a X2 hx hZ e2 hby tb24 (aec P3 aen) 11 [true] [0] 42 (L_ri a1 3) [vi (p6 &&& (255 : Int32))] (ai (by decide) (ai rfl rfl)) ?_
  refine st8 _ ?_
  refine own_a X8 hx hZ e8 hby tb24 (aec P3 aen) 6 [] [0] 53 _ [vi (p7 &&& (255 : Int32)), vi (va6 p6)] (ai rfl rfl) ?_
  refine st9 _ ?_
  refine own_b X9 hx hby tb24 3 [] 59 _ [vi (va8 p6 p7)] rfl ?_
  exact retN X9 hx (t := .char) hret (by simp) (hb hby d24_59) hr
theorem rm31_2 (hw : OW Z a0) (a1 : Addr) (w2 : ClassId) (p3 p4 p5 p6 : Int32) (Z0 : n0 ≤ h0.size) (P1 : ab2 Z (vi 1)) (P2 : Old Z n0 h0) (P3 : Arv Z h0 a1 w2 .byte (4 : Int32) [vi p3, vi p4, vi p5, vi p6] (vi 0)) (P4 : ab3 Z (vi 0)) (P5 : ab4 Z (vi 8)) (P6 : ¬ ((nar .char (va8 p3 p4)) = (42 : Int32))) (H1 : (nar .char (va8 p5 p6)) = (42 : Int32)) :
    M31 l Z ws (orm 1 0 0 13) #[vr a1, vi 42, vi 0, vi 2] h0 (QI n0 h0 (vi 1)) := by
  refine own_enter (plainFor_of_name pn_4) (L0 := (L_riiiu a1 42 0 2)) ?_
  intro p e s m below meth c s₁ hx hby hml hown hnm hret hZ X0 e0
  have N0 := Fr.nil n0
  obtain ⟨T7, L7, _, X7, ⟨rfl, N7q, e7q⟩, st7⟩ := own_callS X0 hx hZ hown (cw_11 hw) (rm24_2 hw a1 w2 p3 p4 p5 p6 Z0 P1 P2 P3 P4 P5) e0 (Ls := (L_riiii a1 42 0 2 0)) hml [vr a1, vi 0] [] pd_16 0 (hb hby d31_12)
  have N7 := Fr.app N0 N7q
  obtain ⟨T8, L8, _, X8, ⟨rfl, N8q, e8q⟩, st8⟩ := own_callS X7 hx hZ hown (cw_11 hw) (rm24_3 hw a1 w2 p3 p4 p5 p6 Z0 P1 P2 P3 P4 P5) e7q (Ls := (L_riiii a1 42 0 2 1)) hml [vr a1, vi 1] [] pd_16 0 (hb hby d31_12)
  have N8 := Fr.app N7 N8q
  refine ⟨T8, _, _, _, _, some (vi 1), X8, e8q, by decide, by decide, nofun, ⟨rfl, N8, rfl⟩, fun fs hr => ?_⟩
  refine own_b X0 hx hby tb31 7 [false] 12 (L_riiii a1 42 0 2 0) [vi 0, vr a1] (ai (by decide) rfl) ?_
  refine st7 _ ?_
  refine own_b X7 hx hby tb31 9 [true, false] 12 (L_riiii a1 42 0 2 1) [vi 1, vr a1] (ai (feq P6).2 (ai (by decide) rfl)) ?_
  refine st8 _ ?_
  refine own_b X8 hx hby tb31 3 [false] 21 _ [vi 1] (ai (teq H1).2 rfl) ?_
  exact retI X8 hx hret (hb hby d31_21) hr
theorem rm31_3 (hw : OW Z a0) (a1 : Addr) (w2 : ClassId) (p3 p4 p5 p6 : Int32) (Z0 : n0 ≤ h0.size) (P1 : ab2 Z (vi 1)) (P2 : Old Z n0 h0) (P3 : Arv Z h0 a1 w2 .byte (4 : Int32) [vi p3, vi p4, vi p5, vi p6] (vi 0)) (P4 : ab3 Z (vi 0)) (P5 : ab4 Z (vi 8)) (P6 : ¬ ((nar .char (va8 p3 p4)) = (42 : Int32))) (H1 : ¬ ((nar .char (va8 p5 p6)) = (42 : Int32))) :
    M31 l Z ws (orm 1 0 0 13) #[vr a1, vi 42, vi 0, vi 2] h0 (QI n0 h0 (vi (-1))) := by
  refine own_enter (plainFor_of_name pn_4) (L0 := (L_riiiu a1 42 0 2)) ?_
  intro p e s m below meth c s₁ hx hby hml hown hnm hret hZ X0 e0
  have N0 := Fr.nil n0
  obtain ⟨T7, L7, _, X7, ⟨rfl, N7q, e7q⟩, st7⟩ := own_callS X0 hx hZ hown (cw_11 hw) (rm24_2 hw a1 w2 p3 p4 p5 p6 Z0 P1 P2 P3 P4 P5) e0 (Ls := (L_riiii a1 42 0 2 0)) hml [vr a1, vi 0] [] pd_16 0 (hb hby d31_12)
  have N7 := Fr.app N0 N7q
  obtain ⟨T8, L8, _, X8, ⟨rfl, N8q, e8q⟩, st8⟩ := own_callS X7 hx hZ hown (cw_11 hw) (rm24_3 hw a1 w2 p3 p4 p5 p6 Z0 P1 P2 P3 P4 P5) e7q (Ls := (L_riiii a1 42 0 2 1)) hml [vr a1, vi 1] [] pd_16 0 (hb hby d31_12)
  have N8 := Fr.app N7 N8q
  refine ⟨T8, _, _, _, _, some (vi (-1)), X8, e8q, by decide, by decide, nofun, ⟨rfl, N8, rfl⟩, fun fs hr => ?_⟩
  refine own_b X0 hx hby tb31 7 [false] 12 (L_riiii a1 42 0 2 0) [vi 0, vr a1] (ai (by decide) rfl) ?_
  refine st7 _ ?_
  refine own_b X7 hx hby tb31 9 [true, false] 12 (L_riiii a1 42 0 2 1) [vi 1, vr a1] (ai (feq P6).2 (ai (by decide) rfl)) ?_
  refine st8 _ ?_
  refine own_b X8 hx hby tb31 8 [true, true] 29 (L_riiii a1 42 0 2 2) [vi (-1)] (ai (feq H1).2 (ai (by decide) rfl)) ?_
  exact retI X8 hx hret (hb hby d31_29) hr
theorem rm31_4 (hw : OW Z a0) (a1 : Addr) (w2 : ClassId) (p3 p4 p5 p6 : Int32) (Z0 : n0 ≤ h0.size) (P1 : ab2 Z (vi 1)) (P2 : Old Z n0 h0) (P3 : Arv Z h0 a1 w2 .byte (4 : Int32) [vi p3, vi p4, vi p5, vi p6] (vi 0)) (P4 : ab3 Z (vi 0)) (P5 : ab4 Z (vi 8)) (P6 : ¬ ((nar .char (va8 p3 p4)) = (42 : Int32))) :
    M31 l Z ws (orm 1 0 0 13) #[vr a1, vi 42, vi 0, vi 2] h0 (QI n0 h0 (vi (va15 p5 p6))) := by
  by_cases H1 : (nar .char (va8 p5 p6)) = (42 : Int32)
  ·
    rw [show (va15 p5 p6) = (1 : Int32) from by simp only [va15, if_pos H1]]
    exact rm31_2 hw a1 w2 p3 p4 p5 p6 Z0 P1 P2 P3 P4 P5 P6 H1
  ·
    rw [show (va15 p5 p6) = (-1 : Int32) from by simp only [va15, if_neg H1]]
    exact rm31_3 hw a1 w2 p3 p4 p5 p6 Z0 P1 P2 P3 P4 P5 P6 H1
theorem rm26_2 (hw : OW Z a0) (a1 : Addr) (w2 : ClassId) (p3 p4 p5 p6 : Int32) (a7 : Value) (Z0 : n0 ≤ h0.size) (P1 : Arv Z h0 a1 w2 .byte (4 : Int32) [vi p3, vi p4, vi p5, vi p6] (vi 0)) (P2 : ab5 Z a7) (P3 : Old Z n0 h0) (P4 : a7.isRef = true) (P5 : ab2 Z (vi 1)) (P6 : ab3 Z (vi 0)) (P7 : ab4 Z (vi 8)) (P8 : ¬ ((nar .char (va8 p3 p4)) = (42 : Int32))) :
    M26 l Z ws (orm 3 0 0 43) #[vr a1, vi 42, vi 0, vi 2] h0 (QI n0 h0 (vi (va15 p5 p6))) := by
  refine own_enter (plainFor_of_name pn_4) (L0 := (L_riii a1 42 0 2)) ?_
  intro p e s m below meth c s₁ hx hby hml hown hnm hret hZ X0 e0
  have N0 := Fr.nil n0
  obtain ⟨T8, L8, _, X8, ⟨rfl, N8q, e8q⟩, st8⟩ := own_callS X0 hx hZ hown (cw_22 hw) (rm27_2 hw a1 w2 p3 p4 p5 p6 a7 Z0 P1 P2 P3 P4) e0 (Ls := (L_riii a1 42 0 2)) hml [vi 0, vi 2, vr a1] [] pd_21 0 (hb hby d26_3)
  have N8 := Fr.app N0 N8q
  obtain ⟨T9, L9, _, X9, ⟨rfl, N9q, e9q⟩, st9⟩ := own_callS X8 hx hZ hown (cw_23 hw) (rm31_4 hw a1 w2 p3 p4 p5 p6 Z0 P5 P3 P1 P6 P7 P8) e8q (Ls := (L_riii a1 42 0 2)) hml [vr a1, vi 42, vi 0, vi 2] [] pd_9 0 (hb hby d26_10)
  have N9 := Fr.app N8 N9q
  refine ⟨T9, _, _, _, _, some (vi (va15 p5 p6)), X9, e9q, by decide, by decide, nofun, ⟨rfl, N9, rfl⟩, fun fs hr => ?_⟩
  refine own_b X0 hx hby tb26 3 [] 3 _ [vr a1, vi 2, vi 0] rfl ?_
  refine st8 _ ?_
  refine own_b X8 hx hby tb26 4 [] 10 _ [vi 2, vi 0, vi 42, vr a1] rfl ?_
  refine st9 _ ?_
  exact retI X9 hx hret (hb hby d26_13) hr
theorem rm25_2 (hw : OW Z a0) (a1 : Addr) (w3 : ClassId) (p4 p5 p6 p7 : Int32) (a9 : Value) (Z0 : n0 ≤ h0.size) (P1 : Arv Z h0 a1 w3 .byte (4 : Int32) [vi p4, vi p5, vi p6, vi p7] (vi 0)) (P2 : ab5 Z a9) (P3 : Old Z n0 h0) (P4 : a9.isRef = true) (P5 : ab2 Z (vi 1)) (P6 : ab3 Z (vi 0)) (P7 : ab4 Z (vi 8)) (P8 : ¬ ((nar .char (va8 p4 p5)) = (42 : Int32))) :
    M25 l Z ws (orm 4 0 0 58) #[vr a1, vi 42, vi 0, vi 2] h0 (QI n0 h0 (vi (va15 p6 p7))) := by
  refine own_enter (plainFor_of_name pn_4) (L0 := (L_riii a1 42 0 2)) ?_
  intro p e s m below meth c s₁ hx hby hml hown hnm hret hZ X0 e0
  have N0 := Fr.nil n0
  obtain ⟨T2, L2, _, X2, ⟨rfl, N2q, e2q⟩, st2⟩ := own_callS X0 hx hZ hown (cw_17 hw) (rm14_1 hw  Z0 ) e0 (Ls := (L_riii a1 42 0 2)) hml [vi 0, vi 0] [] pd_8 0 (hb hby d25_2)
  have N2 := Fr.app N0 N2q
  obtain ⟨T8, L8, _, X8, ⟨rfl, N8q, e8q⟩, st8⟩ := own_callS X2 hx hZ hown (cw_18 hw) (rm15_3 hw  Z0 ) e2q (Ls := (L_riii a1 42 0 2)) hml [vi 2, vi 2] [] pd_8 0 (hb hby d25_11)
  have N8 := Fr.app N2 N8q
  obtain ⟨T10, L10, _, X10, ⟨rfl, N10q, e10q⟩, st10⟩ := own_callS X8 hx hZ hown (cw_24 hw) (rm26_2 hw a1 w3 p4 p5 p6 p7 a9 Z0 P1 P2 P3 P4 P5 P6 P7 P8) e8q (Ls := (L_riii a1 42 0 2)) hml [vr a1, vi 42, vi 0, vi 2] [] pd_9 0 (hb hby d25_32)
  have N10 := Fr.app N8 N10q
  refine ⟨T10, _, _, _, _, some (vi (va15 p6 p7)), X10, e10q, by decide, by decide, nofun, ⟨rfl, N10, rfl⟩, fun fs hr => ?_⟩
  refine own_b X0 hx hby tb25 2 [] 2 _ [vi 0, vi 0] rfl ?_
  refine st2 _ ?_
  refine own_a X2 hx hZ e2q hby tb25 (aec P1 aen) 6 [] [0] 11 (L_riii a1 42 0 2) [vi 2, vi 2] (ai rfl rfl) ?_
  refine st8 _ ?_
  refine own_b X8 hx hby tb25 5 [true] 23 (L_riii a1 42 0 2) [vi 42] (ai (by decide) rfl) ?_
  refine X8.ldcInt hx hown (mvT hZ (tw_112 hw)) (g := (mkF m 23 (L_riii a1 42 0 2) [vi 42])) rfl (hb hby d25_23) _ ?_
  show OS p e below T8 m 25 (L_riii a1 42 0 2) [vi 65536, vi 42] _
  refine own_b X8 hx hby tb25 5 [false] 32 _ [vi 2, vi 0, vi 42, vr a1] (ai (by decide) rfl) ?_
  refine st10 _ ?_
  exact retI X10 hx hret (hb hby d25_35) hr
theorem rm8_4 (hw : OW Z a0) (a1 : Addr) (p2 : Int32) (a4 : Addr) (w6 : ClassId) (p7 p8 p9 p10 : Int32) (a12 : Value) (Z0 : n0 ≤ h0.size) (P1 : ab8 Z h0 a1) (P2 : ab1 Z (vi p2)) (P3 : Old Z n0 h0) (P4 : ¬ (p2 = (0 : Int32))) (P5 : ab6 Z h0 a1 (vi 1)) (P6 : ab7 Z h0 a1 (vr a4)) (P7 : Arv Z h0 a4 w6 .byte (4 : Int32) [vi p7, vi p8, vi p9, vi p10] (vi 0)) (P8 : ab5 Z a12) (P9 : a12.isRef = true) (P10 : ab2 Z (vi 1)) (P11 : ab3 Z (vi 0)) (P12 : ab4 Z (vi 8)) (P13 : ¬ ((nar .char (va8 p7 p8)) = (42 : Int32))) :
    M8 l Z ws (orm 5 0 0 73) #[vr a1, vi 42, vi 0] h0 (QI n0 h0 (vi (va15 p9 p10))) := by
  refine own_enter (plainFor_of_name pn_1) (L0 := (L_rii a1 42 0)) ?_
  intro p e s m below meth c s₁ hx hby hml hown hnm hret hZ X0 e0
  have N0 := Fr.nil n0
  obtain ⟨T3, L3, _, X3, ⟨rfl, N3q, e3q⟩, st3⟩ := own_callV X0 hx hZ hown (tw_44 hw) (tw_45 hw) (notFace_of_selects (args := #[]) (mvT hZ (tw_47 hw))) (tw_47 hw) (tw_46 hw) (tw_10 hw) (tw_48 hw) (rm9_2 hw a1 p2 Z0 P2 P3 P4 P5) e0 P1 (Ls := (L_rii a1 42 0)) hml [] [] pd_4 0 (hb hby d8_1)
  have N3 := Fr.app N0 N3q
  obtain ⟨T5, X5, e5, st5⟩ := getF X3 hx hZ hown (host := "") (Or.inl (tw_28 hw)) Via.refl e3q P6 (g := (mkF m 24 (L_rii a1 42 0) [vr a1])) rfl rfl (hb hby d8_24)
  obtain ⟨T11, L11, _, X11, ⟨rfl, N11q, e11q⟩, st11⟩ := own_callV X5 hx hZ hown (tw_50 hw) (tw_51 hw) (notFace_of_selects (args := #[]) (mvT hZ (tw_53 hw))) (tw_53 hw) (tw_52 hw) (tw_10 hw) (tw_54 hw) (rm10_4 hw a1 a4 w6 p7 p8 p9 p10 p2 Z0 P6 P7 P1 P2 P3 P4 P5) e5 P1 (Ls := (L_rii a1 42 0)) hml [] [vi 0, vi 42, vr a4] pd_6 3 (hb hby d8_30)
  have N11 := Fr.app N3 N11q
  obtain ⟨T13, L13, _, X13, ⟨rfl, N13q, e13q⟩, st13⟩ := own_callS X11 hx hZ hown (cw_25 hw) (rm25_2 hw a4 w6 p7 p8 p9 p10 a12 Z0 P7 P8 P3 P9 P10 P11 P12 P13) e11q (Ls := (L_rii a1 42 0)) hml [vr a4, vi 42, vi 0, vi 2] [] pd_9 0 (hb hby d8_33)
  have N13 := Fr.app N11 N13q
  refine ⟨T13, _, _, _, _, some (vi (va15 p9 p10)), X13, e13q, by decide, by decide, nofun, ⟨rfl, N13, rfl⟩, fun fs hr => ?_⟩
  refine own_b X0 hx hby tb8 1 [] 1 _ [vr a1] rfl ?_
  refine st3 _ ?_
  refine own_b X3 hx hby tb8 2 [true] 24 _ [vr a1] (ai (by decide) rfl) ?_
  refine st5 _ ?_
  refine own_b X5 hx hby tb8 3 [] 30 _ [vr a1, vi 0, vi 42, vr a4] rfl ?_
  refine st11 _ ?_
  refine st13 _ ?_
  exact retI X13 hx hret (hb hby d8_36) hr
theorem rm7_4 (hw : OW Z a0) (a1 : Addr) (p2 : Int32) (a3 : Addr) (w4 : ClassId) (p5 p6 p7 p8 : Int32) (a9 : Value) (Z0 : n0 ≤ h0.size) (P1 : ab8 Z h0 a1) (P2 : ab1 Z (vi p2)) (P3 : Old Z n0 h0) (P4 : ¬ (p2 = (0 : Int32))) (P5 : ab6 Z h0 a1 (vi 1)) (P6 : ab7 Z h0 a1 (vr a3)) (P7 : Arv Z h0 a3 w4 .byte (4 : Int32) [vi p5, vi p6, vi p7, vi p8] (vi 0)) (P8 : ab5 Z a9) (P9 : a9.isRef = true) (P10 : ab2 Z (vi 1)) (P11 : ab3 Z (vi 0)) (P12 : ab4 Z (vi 8)) (P13 : ¬ ((nar .char (va8 p5 p6)) = (42 : Int32))) :
    M7 l Z ws (orm 6 0 0 87) #[vr a1, vi 42] h0 (QI n0 h0 (vi (va15 p7 p8))) := by
  refine own_enter (plainFor_of_name pn_1) (L0 := (L_ri a1 42)) ?_
  intro p e s m below meth c s₁ hx hby hml hown hnm hret hZ X0 e0
  have N0 := Fr.nil n0
  obtain ⟨T10, L10, _, X10, ⟨rfl, N10q, e10q⟩, st10⟩ := own_callV X0 hx hZ hown (tw_39 hw) (tw_40 hw) (notFace_of_selects (args := #[]) (mvT hZ (tw_42 hw))) (tw_42 hw) (tw_41 hw) (tw_10 hw) (tw_43 hw) (rm8_4 hw a1 p2 a3 w4 p5 p6 p7 p8 a9 Z0 P1 P2 P3 P4 P5 P6 P7 P8 P9 P10 P11 P12 P13) e0 P1 (Ls := (L_ri a1 42)) hml [vi 42, vi 0] [] pd_8 0 (hb hby d7_3)
  have N10 := Fr.app N0 N10q
  refine ⟨T10, _, _, _, _, some (vi (va15 p7 p8)), X10, e10q, by decide, by decide, nofun, ⟨rfl, N10, rfl⟩, fun fs hr => ?_⟩
  refine own_b X0 hx hby tb7 3 [] 3 _ [vi 0, vi 42, vr a1] rfl ?_
  refine st10 _ ?_
  exact retI X10 hx hret (hb hby d7_6) hr
theorem rm6_6 (hw : OW Z a0) (a1 : Addr) (p2 : Int32) (a3 : Addr) (w4 : ClassId) (p5 p6 p7 p8 : Int32) (a9 : Value) (Z0 : n0 ≤ h0.size) (P1 : ab8 Z h0 a1) (P2 : ab1 Z (vi p2)) (P3 : Old Z n0 h0) (P4 : ¬ (p2 = (0 : Int32))) (P5 : ab6 Z h0 a1 (vi 1)) (P6 : ab7 Z h0 a1 (vr a3)) (P7 : Arv Z h0 a3 w4 .byte (4 : Int32) [vi p5, vi p6, vi p7, vi p8] (vi 0)) (P8 : ab5 Z a9) (P9 : a9.isRef = true) (P10 : ab2 Z (vi 1)) (P11 : ab3 Z (vi 0)) (P12 : ab4 Z (vi 8)) (P13 : ¬ ((nar .char (va8 p5 p6)) = (42 : Int32))) (H1 : (va15 p7 p8) < (0 : Int32)) :
    M6 l Z ws (orm 7 0 0 100) #[vr a1] h0 (QI n0 h0 (vi 0)) := by
  refine own_enter (plainFor_of_name pn_3) (L0 := #[sr a1]) ?_
  intro p e s m below meth c s₁ hx hby hml hown hnm hret hZ X0 e0
  have N0 := Fr.nil n0
  obtain ⟨T10, L10, _, X10, ⟨rfl, N10q, e10q⟩, st10⟩ := own_callV X0 hx hZ hown (tw_34 hw) (tw_35 hw) (notFace_of_selects (args := #[]) (mvT hZ (tw_37 hw))) (tw_37 hw) (tw_36 hw) (tw_10 hw) (tw_38 hw) (rm7_4 hw a1 p2 a3 w4 p5 p6 p7 p8 a9 Z0 P1 P2 P3 P4 P5 P6 P7 P8 P9 P10 P11 P12 P13) e0 P1 (Ls := #[sr a1]) hml [vi 42] [] pd_10 0 (hb hby d6_3)
  have N10 := Fr.app N0 N10q
  refine ⟨T10, _, _, _, _, some (vi 0), X10, e10q, by decide, by decide, nofun, ⟨rfl, N10, rfl⟩, fun fs hr => ?_⟩
  refine own_b X0 hx hby tb6 2 [] 3 _ [vi 42, vr a1] rfl ?_
  refine st10 _ ?_
  refine own_b X10 hx hby tb6 2 [true] 14 _ [vi 0] (ai (tlt H1).1 rfl) ?_
  exact retN X10 hx (t := .boolean) hret (by simp) (hb hby d6_14) hr
theorem rm6_7 (hw : OW Z a0) (a1 : Addr) (p2 : Int32) (a3 : Addr) (w4 : ClassId) (p5 p6 p7 p8 : Int32) (a9 : Value) (Z0 : n0 ≤ h0.size) (P1 : ab8 Z h0 a1) (P2 : ab1 Z (vi p2)) (P3 : Old Z n0 h0) (P4 : ¬ (p2 = (0 : Int32))) (P5 : ab6 Z h0 a1 (vi 1)) (P6 : ab7 Z h0 a1 (vr a3)) (P7 : Arv Z h0 a3 w4 .byte (4 : Int32) [vi p5, vi p6, vi p7, vi p8] (vi 0)) (P8 : ab5 Z a9) (P9 : a9.isRef = true) (P10 : ab2 Z (vi 1)) (P11 : ab3 Z (vi 0)) (P12 : ab4 Z (vi 8)) (P13 : ¬ ((nar .char (va8 p5 p6)) = (42 : Int32))) (H1 : ¬ ((va15 p7 p8) < (0 : Int32))) :
    M6 l Z ws (orm 7 0 0 100) #[vr a1] h0 (QI n0 h0 (vi 1)) := by
  refine own_enter (plainFor_of_name pn_3) (L0 := #[sr a1]) ?_
  intro p e s m below meth c s₁ hx hby hml hown hnm hret hZ X0 e0
  have N0 := Fr.nil n0
  obtain ⟨T10, L10, _, X10, ⟨rfl, N10q, e10q⟩, st10⟩ := own_callV X0 hx hZ hown (tw_34 hw) (tw_35 hw) (notFace_of_selects (args := #[]) (mvT hZ (tw_37 hw))) (tw_37 hw) (tw_36 hw) (tw_10 hw) (tw_38 hw) (rm7_4 hw a1 p2 a3 w4 p5 p6 p7 p8 a9 Z0 P1 P2 P3 P4 P5 P6 P7 P8 P9 P10 P11 P12 P13) e0 P1 (Ls := #[sr a1]) hml [vi 42] [] pd_10 0 (hb hby d6_3)
  have N10 := Fr.app N0 N10q
  refine ⟨T10, _, _, _, _, some (vi 1), X10, e10q, by decide, by decide, nofun, ⟨rfl, N10, rfl⟩, fun fs hr => ?_⟩
  refine own_b X0 hx hby tb6 2 [] 3 _ [vi 42, vr a1] rfl ?_
  refine st10 _ ?_
  refine own_b X10 hx hby tb6 3 [false] 14 _ [vi 1] (ai (flt H1).1 rfl) ?_
  exact retN X10 hx (t := .boolean) hret (by simp) (hb hby d6_14) hr
theorem rm6_8 (hw : OW Z a0) (a1 : Addr) (p2 : Int32) (a3 : Addr) (w4 : ClassId) (p5 p6 p7 p8 : Int32) (a9 : Value) (Z0 : n0 ≤ h0.size) (P1 : ab8 Z h0 a1) (P2 : ab1 Z (vi p2)) (P3 : Old Z n0 h0) (P4 : ¬ (p2 = (0 : Int32))) (P5 : ab6 Z h0 a1 (vi 1)) (P6 : ab7 Z h0 a1 (vr a3)) (P7 : Arv Z h0 a3 w4 .byte (4 : Int32) [vi p5, vi p6, vi p7, vi p8] (vi 0)) (P8 : ab5 Z a9) (P9 : a9.isRef = true) (P10 : ab2 Z (vi 1)) (P11 : ab3 Z (vi 0)) (P12 : ab4 Z (vi 8)) (P13 : ¬ ((nar .char (va8 p5 p6)) = (42 : Int32))) :
    M6 l Z ws (orm 7 0 0 100) #[vr a1] h0 (QI n0 h0 (vi (va16 p7 p8))) := by
  by_cases H1 : (va15 p7 p8) < (0 : Int32)
  ·
    rw [show (va16 p7 p8) = (0 : Int32) from by simp only [va16, if_pos H1]]
    exact rm6_6 hw a1 p2 a3 w4 p5 p6 p7 p8 a9 Z0 P1 P2 P3 P4 P5 P6 P7 P8 P9 P10 P11 P12 P13 H1
  ·
    rw [show (va16 p7 p8) = (1 : Int32) from by simp only [va16, if_neg H1]]
    exact rm6_7 hw a1 p2 a3 w4 p5 p6 p7 p8 a9 Z0 P1 P2 P3 P4 P5 P6 P7 P8 P9 P10 P11 P12 P13 H1
theorem rm17_4 (hw : OW Z a0) (a1 a2 : Addr) (w3 : ClassId) (p4 p5 : Int32) (w6 : ClassId) (Z0 : n0 ≤ h0.size) (P1 : Arv Z h0 a1 w3 .char (2 : Int32) [vi p4, vi p5] (vi 0)) (P2 : ¬ ((255 : Int32) < p4)) (P3 : Arv Z h0 a2 w6 .byte (2 : Int32) [vi 0, vi 0] (vi 0)) (P4 : n0 ≤ a2) (P5 : a1 ≠ a2) (P6 : (255 : Int32) < p5) :
    M17 l Z ws (orm 0 0 0 0) #[vr a1, vi 0, vr a2, vi 0, vi 2] h0 (fun v h L => v = some (vi 1) ∧ Fr n0 L ∧ Keep h0 h [a2] ∧ Arv Z h a2 w6 .byte (2 : Int32) [vi ((p4.toInt8.toInt32).toInt8.toInt32), vi 0] (vi 0)) := by
  refine own_enter (plainFor_of_name pn_4) (L0 := (L_ririiuu a1 0 a2 0 2)) ?_
  intro p e s m below meth c s₁ hx hby hml hown hnm hret hZ X0 e0
  have N0 := Fr.nil n0
  obtain ⟨T7, h7, X7, e7, W7, V7, st7⟩ := own_stB X0 hx hZ e0 P3 (j := (0 : Int32)) (x := (p4.toInt8.toInt32)) (by decide) 0 rfl (Nat.le_of_ble_eq_true rfl) (Ls := (L_ririiii a1 0 a2 0 2 0 p4)) (rest := []) (hb hby d17_31)
  have N7 := Fr.snoc X7 N0 P4
  have F8 := (Arv.other P1 W7 P5)
  have K9 := (Keep.refl h0 [a2]).wr W7 (Or.inl (List.mem_of_getElem? (i := 0) rfl))
  refine ⟨T7, _, _, _, _, some (vi 1), X7, e7, by decide, by decide, nofun, ⟨rfl, N7, K9, V7⟩, fun fs hr => ?_⟩
  refine own_a X0 hx hZ e0 hby tb17 (aec P1 aen) 16 [false, true] [0] 31 (L_ririiii a1 0 a2 0 2 0 p4) [vi (p4.toInt8.toInt32), vi 0, vr a2] (ai (by decide) (ai rfl (ai (flt P2).2.2.2 rfl))) ?_
  refine st7 _ ?_
  refine own_a X7 hx hZ e7 hby tb17 (aec F8 aen) 15 [false, false] [0] 25 (L_ririiii a1 1 a2 1 2 1 p5) [vi 1] (ai (by decide) (ai rfl (ai (tlt P6).2.2.2 rfl))) ?_
  exact retI X7 hx hret (hb hby d17_25) hr
theorem rm16_4 (hw : OW Z a0) (a1 : Addr) (w4 : ClassId) (p5 p6 : Int32) (Z0 : n0 ≤ h0.size) (P1 : Arv Z h0 a1 w4 .char (2 : Int32) [vi p5, vi p6] (vi 0)) (P2 : ¬ ((255 : Int32) < p5)) (P3 : (255 : Int32) < p6) (P4 : ab2 Z (vi 1)) (P5 : Old Z n0 h0) (P6 : ab3 Z (vi 0)) (P7 : ab4 Z (vi 8)) (P8 : (255 : Int32) < (nar .char (va8 ((va4 p6).toInt8.toInt32) ((va5 p6).toInt8.toInt32)))) :
    M16 l Z ws (orm 3 2 6 40) #[vr a1, vi 0, vi 2] h0 (fun v h L => ∃ b13 : Addr, ∃ kk12_0 : ClassId, v = some (vr b13) ∧ Fr n0 L ∧ Keep h0 h [] ∧ n0 ≤ b13 ∧ h0.size ≤ b13 ∧ Arv Z h b13 kk12_0 .byte (4 : Int32) [vi ((va4 p5).toInt8.toInt32), vi ((va5 p5).toInt8.toInt32), vi ((va4 p6).toInt8.toInt32), vi ((va5 p6).toInt8.toInt32)] (vi 0)) := by
  refine own_enter (plainFor_of_name pn_4) (L0 := (L_riiuuu a1 0 2)) ?_
  intro p e s m below meth c s₁ hx hby hml hown hnm hret hZ X0 e0
  have N0 := Fr.nil n0
  obtain ⟨T3, h3, b2, k3, X3, e3, E3, g3, V3, st3⟩ := own_newP X0 hx hZ (tw_23 hw) e0 (n := (2 : Int32)) (k := 2) (d := (vi 0)) (vs := [vi 0, vi 0]) (Ls := (L_riiuuu a1 0 2)) (S := []) (hb hby d16_1)
  have q3 := Nat.le_trans Z0 g3
  have z3 := Nat.le_trans (Nat.le_refl h0.size) g3
  have F7 := (P1.ext E3)
  have n8 := Nat.ne_of_lt (Nat.lt_of_lt_of_le P1.lt g3)
  obtain ⟨T9, L9, _, X9, ⟨rfl, N9q, K9, f9_0⟩, st9⟩ := own_callS X3 hx hZ hown (cw_6 hw) (rm17_4 hw a1 b2 w4 p5 p6 k3 (Nat.le_trans Z0 E3.1) F7 P2 V3 q3 n8 P3) e3 (Ls := (L_riiruu a1 0 2 b2)) hml [vr a1, vi 0, vr b2, vi 0, vi 2] [] pd_12 0 (hb hby d16_9)
  have N9 := Fr.app N0 N9q
  have F10 := (Arv.keep F7 K9 (ninS n8 nin0))
  have F11 := ((P5.ext E3).keep K9 (allS q3 all0))
  obtain ⟨T12, L12, _, X12, ⟨b13, kk12_0, rfl, N12q, K12, qa12_0, qb12_0, f12_0⟩, st12⟩ := own_callS X9 hx hZ hown (cw_10 hw) (rm20_2 hw a1 w4 p5 p6 (Nat.le_trans (Nat.le_trans Z0 E3.1) K9.1) F10 P4 F11 P6 P7) rfl (Ls := (L_riiriu a1 0 2 b2 1)) hml [vr a1, vi 0, vi 2] [] pd_15 0 (hb hby d16_23)
  have N12 := Fr.app N9 N12q
  have F14 := (Nat.le_trans (Nat.le_trans (Nat.le_refl h0.size) E3.1) K9.1)
  have qd12_0 := Nat.le_trans F14 qb12_0
  have F15 := (F11.keep K12 all0)
  have F17 := (Nat.le_trans (Nat.le_trans (Nat.le_trans Z0 E3.1) K9.1) K12.1)
  obtain ⟨T16, L16, _, X16, ⟨rfl, N16q, e16q⟩, st16⟩ := own_callS X12 hx hZ hown (cw_11 hw) (rm24_3 hw b13 kk12_0 ((va4 p5).toInt8.toInt32) ((va5 p5).toInt8.toInt32) ((va4 p6).toInt8.toInt32) ((va5 p6).toInt8.toInt32) F17 P4 F15 f12_0 P6 P7) rfl (Ls := (L_riirir a1 0 2 b2 1 b13)) hml [vr b13, vi 1] [] pd_16 0 (hb hby d16_32)
  have N16 := Fr.app N12 N16q
  have K18 := (Keep.refl h0 []).ext E3
  have K19 := K18.trans K9 (allS (Or.inr z3) all0)
  have K20 := K19.trans K12 all0
  refine ⟨T16, _, _, _, _, some (vr b13), X16, e16q, by decide, by decide, nofun, ⟨b13, kk12_0, rfl, N16, K20, qa12_0, qd12_0, f12_0⟩, fun fs hr => ?_⟩
  refine own_b X0 hx hby tb16 1 [] 1 _ [vi 2] rfl ?_
  refine st3 _ ?_
  refine own_b X3 hx hby tb16 6 [] 9 (L_riiruu a1 0 2 b2) [vi 2, vi 0, vr b2, vi 0, vr a1] rfl ?_
  refine st9 _ ?_
  refine own_b X9 hx hby tb16 7 [false] 23 (L_riiriu a1 0 2 b2 1) [vi 2, vi 0, vr a1] (ai (by decide) rfl) ?_
  refine st12 _ ?_
  refine own_b X12 hx hby tb16 3 [] 32 (L_riirir a1 0 2 b2 1 b13) [vi 1, vr b13] rfl ?_
  refine st16 _ ?_
  refine own_b X16 hx hby tb16 3 [true] 56 _ [vr b13] (ai (tlt P8).2.2.1 rfl) ?_
  exact own_retA X16 hx hret rfl (hb hby d16_56) hr
theorem rm4_5 (hw : OW Z a0) (a1 a2 : Addr) (p4 : Int32) (w6 : ClassId) (p7 p8 : Int32) (Z0 : n0 ≤ h0.size) (P1 : ab1 Z (vi p4)) (P2 : Old Z n0 h0) (P3 : ¬ (p4 = (0 : Int32))) (P4 : Arv Z h0 a2 w6 .char (2 : Int32) [vi p7, vi p8] (vi 0)) (P5 : ¬ ((255 : Int32) < p7)) (P6 : (255 : Int32) < p8) (P7 : ab2 Z (vi 1)) (P8 : ab3 Z (vi 0)) (P9 : ab4 Z (vi 8)) (P10 : (255 : Int32) < (nar .char (va8 ((va4 p8).toInt8.toInt32) ((va5 p8).toInt8.toInt32)))) (P11 : ab6 Z h0 a1 (vi 0)) (P12 : ab8 Z h0 a1) (P13 : n0 ≤ a1) (P14 : ab7 Z h0 a1 .null) :
    M4 l Z ws (orm 4 2 6 57) #[vr a1, vr a2, vi 0, vi 2, .null] h0 (fun v h L => ∃ b10 : Addr, ∃ kk9_0 : ClassId, v = none ∧ Fr n0 L ∧ Keep h0 h [a1] ∧ n0 ≤ b10 ∧ h0.size ≤ b10 ∧ ab6 Z h a1 (vi 1) ∧ ab7 Z h a1 (vr b10) ∧ Arv Z h b10 kk9_0 .byte (4 : Int32) [vi ((va4 p7).toInt8.toInt32), vi ((va5 p7).toInt8.toInt32), vi ((va4 p8).toInt8.toInt32), vi ((va5 p8).toInt8.toInt32)] (vi 0)) := by
  refine own_enter (plainFor_of_name pn_1) (L0 := (L_rriinu a1 a2 0 2)) ?_
  intro p e s m below meth c s₁ hx hby hml hown hnm hret hZ X0 e0
  have N0 := Fr.nil n0
  obtain ⟨T3, X3, e3, st3⟩ := initO X0 hx hZ hown (tw_19 hw) (tw_20 hw) (tw_21 hw) e0 (g := (mkF m 1 (L_rriinu a1 a2 0 2) [vr a1])) rfl (by rw [hml]; rfl) rfl (hb hby d4_1) (by decide) (W := 0) (by show 2 * 0 + _ ≤ _; exact Nat.le_of_eq rfl) (by decide)
  obtain ⟨T5, X5, e5, st5⟩ := getS2 X3 hx hZ hown (host := "") (Or.inl (tw_49 hw)) Via.refl e3 (Sta.ext P2.2 P1) (g := (mkF m 27 (L_rriinu a1 a2 0 2) [])) rfl (hb hby d4_27)
  obtain ⟨T9, L9, _, X9, ⟨b10, kk9_0, rfl, N9q, K9, qa9_0, qb9_0, f9_0⟩, st9⟩ := own_callS X5 hx hZ hown (cw_12 hw) (rm16_4 hw a2 w6 p7 p8 Z0 P4 P5 P6 P7 P2 P8 P9 P10) e5 (Ls := (L_rriinu a1 a2 0 2)) hml [vr a2, vi 0, vi 2] [] pd_15 0 (hb hby d4_36)
  have N9 := Fr.app N0 N9q
  have qd9_0 := Nat.le_trans (Nat.le_refl h0.size) qb9_0
  obtain ⟨T11, L11, _, X11, ⟨rfl, N11q, e11q⟩, st11⟩ := own_callS X9 hx hZ hown (cw_13 hw) (rm18_3 hw b10 kk9_0 ((va4 p7).toInt8.toInt32) ((va5 p7).toInt8.toInt32) ((va4 p8).toInt8.toInt32) ((va5 p8).toInt8.toInt32) (Nat.le_trans Z0 K9.1) f9_0) rfl (Ls := (L_rriinr a1 a2 0 2 b10)) hml [vr b10, vi 2] [vr a1] pd_17 1 (hb hby d4_45)
  have N11 := Fr.app N9 N11q
  have F12 := (Fld.keep P11 K9 nin0)
  have F13 := (Exa.keep P12 K9)
  obtain ⟨T14, h14, X14, e14, W14, st14⟩ := putF X11 hx hZ hown (host := "") (Or.inl (tw_29 hw)) Via.refl e11q F12 F13 (Or.inr ⟨(tw_25 hw), rfl, hnm⟩) (tw_9 hw) (ty := .byte) (by decide) rfl rfl (g := (mkF m 48 (L_rriinr a1 a2 0 2 b10) [vi 1, vr a1])) rfl rfl (hb hby d4_48)
  have N14 := Fr.snoc X14 N11 P13
  have Fw14 := Fld.same W14 F12
  have F15 := (Fld.other W14 (Fld.keep P14 K9 nin0) (Or.inr (slot_ne (Or.inr (tw_24 hw)) (Or.inr (tw_25 hw)) (by decide) (t := (.array .byte)) (t' := .byte) (by decide) (by decide))))
  have F16 := (Exa.wr W14 F13)
  obtain ⟨T17, h17, X17, e17, W17, st17⟩ := putF X14 hx hZ hown (host := "") (Or.inl (tw_28 hw)) Via.refl e14 F15 F16 (Or.inr ⟨(tw_24 hw), rfl, hnm⟩) (tw_9 hw) (ty := (.array .byte)) (by decide) rfl rfl (g := (mkF m 54 (L_rriinr a1 a2 0 2 b10) [vr b10, vr a1])) rfl rfl (hb hby d4_54)
  have N17 := Fr.snoc X17 N14 P13
  have Fw17 := Fld.same W17 F15
  have F18 := (Fld.other W17 Fw14 (Or.inr (slot_ne (Or.inr (tw_25 hw)) (Or.inr (tw_24 hw)) (by decide) (t := .byte) (t' := (.array .byte)) (by decide) (by decide))))
  have n19 := Nat.ne_of_lt (Nat.lt_of_lt_of_le P11.lt qb9_0)
  have F20 := (Arv.other (Arv.other f9_0 W14 (Ne.symm n19)) W17 (Ne.symm n19))
  have K21 := (Keep.refl h0 [a1]).trans K9 all0
  have K22 := K21.wr W14 (Or.inl (List.mem_of_getElem? (i := 0) rfl))
  have K23 := K22.wr W17 (Or.inl (List.mem_of_getElem? (i := 0) rfl))
  refine ⟨T17, _, _, _, _, none, X17, e17, by decide, by decide, (fun _ => rfl), ⟨b10, kk9_0, rfl, N17, K23, qa9_0, qd9_0, F18, Fw17, F20⟩, fun fs hr => ?_⟩
  refine own_b X0 hx hby tb4 1 [] 1 _ [vr a1] rfl ?_
  refine st3 _ ?_
  refine own_b X3 hx hby tb4 2 [true] 27 _ [] (ai (by decide) rfl) ?_
  refine st5 _ ?_
  refine own_b X5 hx hby tb4 4 [false] 36 _ [vi 2, vi 0, vr a2] (ai (feq P3).1 rfl) ?_
  refine st9 _ ?_
  refine own_b X9 hx hby tb4 4 [] 45 (L_rriinr a1 a2 0 2 b10) [vi 2, vr b10, vr a1] rfl ?_
  refine st11 _ ?_
  refine st14 _ ?_
  refine own_b X14 hx hby tb4 2 [] 54 _ [vr b10, vr a1] rfl ?_
  refine st17 _ ?_
  show OS p e below T17 m 57 (L_rriinr a1 a2 0 2 b10) [] _
  exact X17.returnOut hx hret (hb hby d4_57) hr
theorem rm3_5 (hw : OW Z a0) (a1 a2 : Addr) (w3 : ClassId) (p4 p5 p6 : Int32) (Z0 : n0 ≤ h0.size) (P1 : Arv Z h0 a2 w3 .char (2 : Int32) [vi p4, vi p5] (vi 0)) (P2 : ab1 Z (vi p6)) (P3 : Old Z n0 h0) (P4 : ¬ (p6 = (0 : Int32))) (P5 : ¬ ((255 : Int32) < p4)) (P6 : (255 : Int32) < p5) (P7 : ab2 Z (vi 1)) (P8 : ab3 Z (vi 0)) (P9 : ab4 Z (vi 8)) (P10 : (255 : Int32) < (nar .char (va8 ((va4 p5).toInt8.toInt32) ((va5 p5).toInt8.toInt32)))) (P11 : ab6 Z h0 a1 (vi 0)) (P12 : ab8 Z h0 a1) (P13 : n0 ≤ a1) (P14 : ab7 Z h0 a1 .null) :
    M3 l Z ws (orm 5 2 6 74) #[vr a1, vr a2] h0 (fun v h L => ∃ b8 : Addr, ∃ kk7_0 : ClassId, v = none ∧ Fr n0 L ∧ Keep h0 h [a1] ∧ n0 ≤ b8 ∧ h0.size ≤ b8 ∧ ab6 Z h a1 (vi 1) ∧ ab7 Z h a1 (vr b8) ∧ Arv Z h b8 kk7_0 .byte (4 : Int32) [vi ((va4 p4).toInt8.toInt32), vi ((va5 p4).toInt8.toInt32), vi ((va4 p5).toInt8.toInt32), vi ((va5 p5).toInt8.toInt32)] (vi 0)) := by
  refine own_enter (plainFor_of_name pn_1) (L0 := (L_rr a1 a2)) ?_
  intro p e s m below meth c s₁ hx hby hml hown hnm hret hZ X0 e0
  have N0 := Fr.nil n0
  obtain ⟨T7, L7, _, X7, ⟨b8, kk7_0, rfl, N7q, K7, qa7_0, qb7_0, f7_0, f7_1, f7_2⟩, st7⟩ := own_callI X0 hx hZ hown (cw_14 hw) (rm4_5 hw a1 a2 p6 w3 p4 p5 Z0 P2 P3 P4 P1 P5 P6 P7 P8 P9 P10 P11 P12 P13 P14) e0 (Ls := (L_rr a1 a2)) hml a1 [vr a2, vi 0, vi 2, .null] [] pd_1 0 (hb hby d3_6)
  have N7 := Fr.app N0 N7q
  have qd7_0 := Nat.le_trans (Nat.le_refl h0.size) qb7_0
  have K9 := (Keep.refl h0 [a1]).trans K7 (allS (Or.inl (List.mem_of_getElem? (i := 0) rfl)) all0)
  refine ⟨T7, _, _, _, _, none, X7, rfl, by decide, by decide, (fun _ => rfl), ⟨b8, kk7_0, rfl, N7, K9, qa7_0, qd7_0, f7_0, f7_1, f7_2⟩, fun fs hr => ?_⟩
  refine own_a X0 hx hZ e0 hby tb3 (aec P1 aen) 6 [] [0] 6 _ [.null, vi 2, vi 0, vr a2, vr a1] (ai rfl rfl) ?_
  refine st7 _ ?_
  show OS p e below T7 m 9 (L_rr a1 a2) [] _
  exact X7.returnOut hx hret (hb hby d3_9) hr
theorem rm2_5 (hw : OW Z a0) (p1 p2 p3 p4 p13 : Int32) (Z0 : n0 ≤ h0.size) (P1 : ab1 Z (vi p13)) (P2 : Old Z n0 h0) (P3 : ¬ (p13 = (0 : Int32))) (P4 : ¬ ((255 : Int32) < (nar .char p1))) (P5 : (255 : Int32) < (nar .char p2)) (P6 : ab2 Z (vi 1)) (P7 : ab3 Z (vi 0)) (P8 : ab4 Z (vi 8)) (P9 : (255 : Int32) < (nar .char (va8 ((va4 (nar .char p2)).toInt8.toInt32) ((va5 (nar .char p2)).toInt8.toInt32)))) :
    M2 l Z ws (orm 6 4 12 88) #[vi 2, vi p1, vi p2, vi p3, vi p4] h0 (fun v h L => ∃ b5 : Addr, ∃ b21 : Addr, ∃ kk19_0 : ClassId, v = some (vr b5) ∧ Fr n0 L ∧ Keep h0 h [] ∧ n0 ≤ b5 ∧ h0.size ≤ b5 ∧ n0 ≤ b21 ∧ h0.size ≤ b21 ∧ b5 ≠ b21 ∧ ab8 Z h b5 ∧ ab6 Z h b5 (vi 1) ∧ ab7 Z h b5 (vr b21) ∧ Arv Z h b21 kk19_0 .byte (4 : Int32) [vi ((va4 (nar .char p1)).toInt8.toInt32), vi ((va5 (nar .char p1)).toInt8.toInt32), vi ((va4 (nar .char p2)).toInt8.toInt32), vi ((va5 (nar .char p2)).toInt8.toInt32)] (vi 0)) := by
  refine own_enter (plainFor_of_name pn_0) (L0 := (L_iiiii 2 p1 p2 p3 p4)) ?_
  intro p e s m below meth c s₁ hx hby hml hown hnm hret hZ X0 e0
  have N0 := Fr.nil n0
  obtain ⟨T6, h6, b5, X6, e6, E6, g6, A6, D6, st6⟩ := own_new X0 hx hZ hown (tw_8 hw) (tw_9 hw) (tw_10 hw) e0 (Ls := (L_iiiii 2 p1 p2 p3 p4)) (S := []) (hb hby d2_40)
  have q6 := Nat.le_trans Z0 g6
  have z6 := Nat.le_trans (Nat.le_refl h0.size) g6
  have F7 : ab7 Z h6 b5 .null := D6 (Or.inr (tw_24 hw)) (ty := (.array .byte)) (by decide)
  have F8 : ab6 Z h6 b5 (vi 0) := D6 (Or.inr (tw_25 hw)) (ty := .byte) (by decide)
  obtain ⟨T10, h10, b9, k10, X10, e10, E10, g10, V10, st10⟩ := own_newP X6 hx hZ (tw_11 hw) e6 (n := (2 : Int32)) (k := 2) (d := (vi 0)) (vs := [vi 0, vi 0]) (Ls := (L_iiiii 2 p1 p2 p3 p4)) (S := [vr b5, vr b5]) (hb hby d2_45)
  have q10 := Nat.le_trans (Nat.le_trans Z0 E6.1) g10
  have z10 := Nat.le_trans (Nat.le_trans (Nat.le_refl h0.size) E6.1) g10
  obtain ⟨T11, h11, X11, e11, W11, V11, st11⟩ := own_stC X10 hx hZ e10 V10 (j := (0 : Int32)) (x := p1) (by decide) 0 rfl (Nat.le_of_ble_eq_true rfl) (Ls := (L_iiiii 2 p1 p2 p3 p4)) (rest := [vr b9, vr b5, vr b5]) (hb hby d2_50)
  have N11 := Fr.snoc X11 N0 q10
  obtain ⟨T12, h12, X12, e12, W12, V12, st12⟩ := own_stC X11 hx hZ e11 V11 (j := (1 : Int32)) (x := p2) (by decide) 1 rfl (Nat.le_of_ble_eq_true rfl) (Ls := (L_iiiii 2 p1 p2 p3 p4)) (rest := [vr b9, vr b5, vr b5]) (hb hby d2_54)
  have N12 := Fr.snoc X12 N11 q10
  have F14 := ((((P2.ext E6).ext E10).wr W11 q10).wr W12 q10)
  have n15 := Nat.ne_of_lt (Nat.lt_of_lt_of_le A6.lt g10)
  have F16 := (Fld.other W12 (Fld.other W11 (Fld.ext E10 F8) (Or.inl n15)) (Or.inl n15))
  have F17 := (Exa.wr W12 (Exa.wr W11 (Exa.ext E10 A6)))
  have F18 := (Fld.other W12 (Fld.other W11 (Fld.ext E10 F7) (Or.inl n15)) (Or.inl n15))
  have F20 := (Nat.le_trans (Nat.le_trans (Nat.le_trans (Nat.le_trans Z0 E6.1) E10.1) (Keep.of_wr W11).1) (Keep.of_wr W12).1)
  obtain ⟨T19, L19, _, X19, ⟨b21, kk19_0, rfl, N19q, K19, qa19_0, qb19_0, f19_0, f19_1, f19_2⟩, st19⟩ := own_callI X12 hx hZ hown (cw_15 hw) (rm3_5 hw b5 b9 k10 (nar .char p1) (nar .char p2) p13 F20 V12 P1 F14 P3 P4 P5 P6 P7 P8 P9 F16 F17 q6 F18) e12 (Ls := (L_iiiii 2 p1 p2 p3 p4)) hml b5 [vr b9] [vr b5] pd_2 1 (hb hby d2_55)
  have N19 := Fr.app N12 N19q
  have F22 := (Nat.le_trans (Nat.le_trans (Nat.le_trans (Nat.le_trans (Nat.le_refl h0.size) E6.1) E10.1) (Keep.of_wr W11).1) (Keep.of_wr W12).1)
  have qd19_0 := Nat.le_trans F22 qb19_0
  have F23 := (Exa.keep F17 K19)
  have K24 := (Keep.refl h0 []).ext E6
  have K25 := K24.ext E10
  have K26 := K25.wr W11 (Or.inr z10)
  have K27 := K26.wr W12 (Or.inr z10)
  have K28 := K27.trans K19 (allS (Or.inr z6) all0)
  have n29 := Nat.ne_of_lt (Nat.lt_of_lt_of_le F16.lt qb19_0)
  refine ⟨T19, _, _, _, _, some (vr b5), X19, rfl, by decide, by decide, nofun, ⟨b5, b21, kk19_0, rfl, N19, K28, q6, z6, qa19_0, qd19_0, n29, F23, f19_0, f19_1, f19_2⟩, fun fs hr => ?_⟩
  refine own_b X0 hx hby tb2 8 [true, true, false] 40 _ [] (ai (by decide) (ai (by decide) (ai (by decide) rfl))) ?_
  refine st6 _ ?_
  refine own_b X6 hx hby tb2 2 [] 45 _ [vi 2, vr b5, vr b5] rfl ?_
  refine st10 _ ?_
  refine own_b X10 hx hby tb2 3 [] 50 _ [vi p1, vi 0, vr b9, vr b9, vr b5, vr b5] rfl ?_
  refine st11 _ ?_
  refine own_b X11 hx hby tb2 3 [] 54 _ [vi p2, vi 1, vr b9, vr b9, vr b5, vr b5] rfl ?_
  refine st12 _ ?_
  refine st19 _ ?_
  exact own_retA X19 hx hret rfl (hb hby d2_58) hr
theorem rm31_5 (hw : OW Z a0) (a1 : Addr) (w2 : ClassId) (p3 p4 p5 p6 : Int32) (Z0 : n0 ≤ h0.size) (P1 : ab2 Z (vi 1)) (P2 : Old Z n0 h0) (P3 : Arv Z h0 a1 w2 .byte (4 : Int32) [vi p3, vi p4, vi p5, vi p6] (vi 0)) (P4 : ab3 Z (vi 0)) (P5 : ab4 Z (vi 8)) (H1 : (nar .char (va8 p3 p4)) = (42 : Int32)) :
    M31 l Z ws (orm 1 0 0 13) #[vr a1, vi 42, vi 0, vi 2] h0 (QI n0 h0 (vi 0)) := by
  refine own_enter (plainFor_of_name pn_4) (L0 := (L_riiiu a1 42 0 2)) ?_
  intro p e s m below meth c s₁ hx hby hml hown hnm hret hZ X0 e0
  have N0 := Fr.nil n0
  obtain ⟨T7, L7, _, X7, ⟨rfl, N7q, e7q⟩, st7⟩ := own_callS X0 hx hZ hown (cw_11 hw) (rm24_2 hw a1 w2 p3 p4 p5 p6 Z0 P1 P2 P3 P4 P5) e0 (Ls := (L_riiii a1 42 0 2 0)) hml [vr a1, vi 0] [] pd_16 0 (hb hby d31_12)
  have N7 := Fr.app N0 N7q
  refine ⟨T7, _, _, _, _, some (vi 0), X7, e7q, by decide, by decide, nofun, ⟨rfl, N7, rfl⟩, fun fs hr => ?_⟩
  refine own_b X0 hx hby tb31 7 [false] 12 (L_riiii a1 42 0 2 0) [vi 0, vr a1] (ai (by decide) rfl) ?_
  refine st7 _ ?_
  refine own_b X7 hx hby tb31 3 [false] 21 _ [vi 0] (ai (teq H1).2 rfl) ?_
  exact retI X7 hx hret (hb hby d31_21) hr
theorem rm31_6 (hw : OW Z a0) (a1 : Addr) (w2 : ClassId) (p3 p4 p5 p6 : Int32) (Z0 : n0 ≤ h0.size) (P1 : ab2 Z (vi 1)) (P2 : Old Z n0 h0) (P3 : Arv Z h0 a1 w2 .byte (4 : Int32) [vi p3, vi p4, vi p5, vi p6] (vi 0)) (P4 : ab3 Z (vi 0)) (P5 : ab4 Z (vi 8)) (P6 : ¬ ((nar .char (va8 p5 p6)) = (42 : Int32))) (H1 : ¬ ((nar .char (va8 p3 p4)) = (42 : Int32))) :
    M31 l Z ws (orm 1 0 0 13) #[vr a1, vi 42, vi 0, vi 2] h0 (QI n0 h0 (vi (-1))) := by
  refine own_enter (plainFor_of_name pn_4) (L0 := (L_riiiu a1 42 0 2)) ?_
  intro p e s m below meth c s₁ hx hby hml hown hnm hret hZ X0 e0
  have N0 := Fr.nil n0
  obtain ⟨T7, L7, _, X7, ⟨rfl, N7q, e7q⟩, st7⟩ := own_callS X0 hx hZ hown (cw_11 hw) (rm24_2 hw a1 w2 p3 p4 p5 p6 Z0 P1 P2 P3 P4 P5) e0 (Ls := (L_riiii a1 42 0 2 0)) hml [vr a1, vi 0] [] pd_16 0 (hb hby d31_12)
  have N7 := Fr.app N0 N7q
  obtain ⟨T8, L8, _, X8, ⟨rfl, N8q, e8q⟩, st8⟩ := own_callS X7 hx hZ hown (cw_11 hw) (rm24_3 hw a1 w2 p3 p4 p5 p6 Z0 P1 P2 P3 P4 P5) e7q (Ls := (L_riiii a1 42 0 2 1)) hml [vr a1, vi 1] [] pd_16 0 (hb hby d31_12)
  have N8 := Fr.app N7 N8q
  refine ⟨T8, _, _, _, _, some (vi (-1)), X8, e8q, by decide, by decide, nofun, ⟨rfl, N8, rfl⟩, fun fs hr => ?_⟩
  refine own_b X0 hx hby tb31 7 [false] 12 (L_riiii a1 42 0 2 0) [vi 0, vr a1] (ai (by decide) rfl) ?_
  refine st7 _ ?_
  refine own_b X7 hx hby tb31 9 [true, false] 12 (L_riiii a1 42 0 2 1) [vi 1, vr a1] (ai (feq H1).2 (ai (by decide) rfl)) ?_
  refine st8 _ ?_
  refine own_b X8 hx hby tb31 8 [true, true] 29 (L_riiii a1 42 0 2 2) [vi (-1)] (ai (feq P6).2 (ai (by decide) rfl)) ?_
  exact retI X8 hx hret (hb hby d31_29) hr
theorem rm31_7 (hw : OW Z a0) (a1 : Addr) (w2 : ClassId) (p3 p4 p5 p6 : Int32) (Z0 : n0 ≤ h0.size) (P1 : ab2 Z (vi 1)) (P2 : Old Z n0 h0) (P3 : Arv Z h0 a1 w2 .byte (4 : Int32) [vi p3, vi p4, vi p5, vi p6] (vi 0)) (P4 : ab3 Z (vi 0)) (P5 : ab4 Z (vi 8)) (P6 : ¬ ((nar .char (va8 p5 p6)) = (42 : Int32))) :
    M31 l Z ws (orm 1 0 0 13) #[vr a1, vi 42, vi 0, vi 2] h0 (QI n0 h0 (vi (va18 p3 p4))) := by
  by_cases H1 : (nar .char (va8 p3 p4)) = (42 : Int32)
  ·
    rw [show (va18 p3 p4) = (0 : Int32) from by simp only [va18, if_pos H1]]
    exact rm31_5 hw a1 w2 p3 p4 p5 p6 Z0 P1 P2 P3 P4 P5 H1
  ·
    rw [show (va18 p3 p4) = (-1 : Int32) from by simp only [va18, if_neg H1]]
    exact rm31_6 hw a1 w2 p3 p4 p5 p6 Z0 P1 P2 P3 P4 P5 P6 H1
theorem rm26_3 (hw : OW Z a0) (a1 : Addr) (w2 : ClassId) (p3 p4 p5 p6 : Int32) (a7 : Value) (Z0 : n0 ≤ h0.size) (P1 : Arv Z h0 a1 w2 .byte (4 : Int32) [vi p3, vi p4, vi p5, vi p6] (vi 0)) (P2 : ab5 Z a7) (P3 : Old Z n0 h0) (P4 : a7.isRef = true) (P5 : ab2 Z (vi 1)) (P6 : ab3 Z (vi 0)) (P7 : ab4 Z (vi 8)) (P8 : ¬ ((nar .char (va8 p5 p6)) = (42 : Int32))) :
    M26 l Z ws (orm 3 0 0 43) #[vr a1, vi 42, vi 0, vi 2] h0 (QI n0 h0 (vi (va18 p3 p4))) := by
  refine own_enter (plainFor_of_name pn_4) (L0 := (L_riii a1 42 0 2)) ?_
  intro p e s m below meth c s₁ hx hby hml hown hnm hret hZ X0 e0
  have N0 := Fr.nil n0
  obtain ⟨T8, L8, _, X8, ⟨rfl, N8q, e8q⟩, st8⟩ := own_callS X0 hx hZ hown (cw_22 hw) (rm27_2 hw a1 w2 p3 p4 p5 p6 a7 Z0 P1 P2 P3 P4) e0 (Ls := (L_riii a1 42 0 2)) hml [vi 0, vi 2, vr a1] [] pd_21 0 (hb hby d26_3)
  have N8 := Fr.app N0 N8q
  obtain ⟨T9, L9, _, X9, ⟨rfl, N9q, e9q⟩, st9⟩ := own_callS X8 hx hZ hown (cw_23 hw) (rm31_7 hw a1 w2 p3 p4 p5 p6 Z0 P5 P3 P1 P6 P7 P8) e8q (Ls := (L_riii a1 42 0 2)) hml [vr a1, vi 42, vi 0, vi 2] [] pd_9 0 (hb hby d26_10)
  have N9 := Fr.app N8 N9q
  refine ⟨T9, _, _, _, _, some (vi (va18 p3 p4)), X9, e9q, by decide, by decide, nofun, ⟨rfl, N9, rfl⟩, fun fs hr => ?_⟩
  refine own_b X0 hx hby tb26 3 [] 3 _ [vr a1, vi 2, vi 0] rfl ?_
  refine st8 _ ?_
  refine own_b X8 hx hby tb26 4 [] 10 _ [vi 2, vi 0, vi 42, vr a1] rfl ?_
  refine st9 _ ?_
  exact retI X9 hx hret (hb hby d26_13) hr
theorem rm25_3 (hw : OW Z a0) (a1 : Addr) (w3 : ClassId) (p4 p5 p6 p7 : Int32) (a9 : Value) (Z0 : n0 ≤ h0.size) (P1 : Arv Z h0 a1 w3 .byte (4 : Int32) [vi p4, vi p5, vi p6, vi p7] (vi 0)) (P2 : ab5 Z a9) (P3 : Old Z n0 h0) (P4 : a9.isRef = true) (P5 : ab2 Z (vi 1)) (P6 : ab3 Z (vi 0)) (P7 : ab4 Z (vi 8)) (P8 : ¬ ((nar .char (va8 p6 p7)) = (42 : Int32))) :
    M25 l Z ws (orm 4 0 0 58) #[vr a1, vi 42, vi 0, vi 2] h0 (QI n0 h0 (vi (va18 p4 p5))) := by
  refine own_enter (plainFor_of_name pn_4) (L0 := (L_riii a1 42 0 2)) ?_
  intro p e s m below meth c s₁ hx hby hml hown hnm hret hZ X0 e0
  have N0 := Fr.nil n0
  obtain ⟨T2, L2, _, X2, ⟨rfl, N2q, e2q⟩, st2⟩ := own_callS X0 hx hZ hown (cw_17 hw) (rm14_1 hw  Z0 ) e0 (Ls := (L_riii a1 42 0 2)) hml [vi 0, vi 0] [] pd_8 0 (hb hby d25_2)
  have N2 := Fr.app N0 N2q
  obtain ⟨T8, L8, _, X8, ⟨rfl, N8q, e8q⟩, st8⟩ := own_callS X2 hx hZ hown (cw_18 hw) (rm15_3 hw  Z0 ) e2q (Ls := (L_riii a1 42 0 2)) hml [vi 2, vi 2] [] pd_8 0 (hb hby d25_11)
  have N8 := Fr.app N2 N8q
  obtain ⟨T10, L10, _, X10, ⟨rfl, N10q, e10q⟩, st10⟩ := own_callS X8 hx hZ hown (cw_24 hw) (rm26_3 hw a1 w3 p4 p5 p6 p7 a9 Z0 P1 P2 P3 P4 P5 P6 P7 P8) e8q (Ls := (L_riii a1 42 0 2)) hml [vr a1, vi 42, vi 0, vi 2] [] pd_9 0 (hb hby d25_32)
  have N10 := Fr.app N8 N10q
  refine ⟨T10, _, _, _, _, some (vi (va18 p4 p5)), X10, e10q, by decide, by decide, nofun, ⟨rfl, N10, rfl⟩, fun fs hr => ?_⟩
  refine own_b X0 hx hby tb25 2 [] 2 _ [vi 0, vi 0] rfl ?_
  refine st2 _ ?_
  refine own_a X2 hx hZ e2q hby tb25 (aec P1 aen) 6 [] [0] 11 (L_riii a1 42 0 2) [vi 2, vi 2] (ai rfl rfl) ?_
  refine st8 _ ?_
  refine own_b X8 hx hby tb25 5 [true] 23 (L_riii a1 42 0 2) [vi 42] (ai (by decide) rfl) ?_
  refine X8.ldcInt hx hown (mvT hZ (tw_112 hw)) (g := (mkF m 23 (L_riii a1 42 0 2) [vi 42])) rfl (hb hby d25_23) _ ?_
  show OS p e below T8 m 25 (L_riii a1 42 0 2) [vi 65536, vi 42] _
  refine own_b X8 hx hby tb25 5 [false] 32 _ [vi 2, vi 0, vi 42, vr a1] (ai (by decide) rfl) ?_
  refine st10 _ ?_
  exact retI X10 hx hret (hb hby d25_35) hr
theorem rm8_5 (hw : OW Z a0) (a1 : Addr) (p2 : Int32) (a4 : Addr) (w6 : ClassId) (p7 p8 p9 p10 : Int32) (a12 : Value) (Z0 : n0 ≤ h0.size) (P1 : ab8 Z h0 a1) (P2 : ab1 Z (vi p2)) (P3 : Old Z n0 h0) (P4 : ¬ (p2 = (0 : Int32))) (P5 : ab6 Z h0 a1 (vi 1)) (P6 : ab7 Z h0 a1 (vr a4)) (P7 : Arv Z h0 a4 w6 .byte (4 : Int32) [vi p7, vi p8, vi p9, vi p10] (vi 0)) (P8 : ab5 Z a12) (P9 : a12.isRef = true) (P10 : ab2 Z (vi 1)) (P11 : ab3 Z (vi 0)) (P12 : ab4 Z (vi 8)) (P13 : ¬ ((nar .char (va8 p9 p10)) = (42 : Int32))) :
    M8 l Z ws (orm 5 0 0 73) #[vr a1, vi 42, vi 0] h0 (QI n0 h0 (vi (va18 p7 p8))) := by
  refine own_enter (plainFor_of_name pn_1) (L0 := (L_rii a1 42 0)) ?_
  intro p e s m below meth c s₁ hx hby hml hown hnm hret hZ X0 e0
  have N0 := Fr.nil n0
  obtain ⟨T3, L3, _, X3, ⟨rfl, N3q, e3q⟩, st3⟩ := own_callV X0 hx hZ hown (tw_44 hw) (tw_45 hw) (notFace_of_selects (args := #[]) (mvT hZ (tw_47 hw))) (tw_47 hw) (tw_46 hw) (tw_10 hw) (tw_48 hw) (rm9_2 hw a1 p2 Z0 P2 P3 P4 P5) e0 P1 (Ls := (L_rii a1 42 0)) hml [] [] pd_4 0 (hb hby d8_1)
  have N3 := Fr.app N0 N3q
  obtain ⟨T5, X5, e5, st5⟩ := getF X3 hx hZ hown (host := "") (Or.inl (tw_28 hw)) Via.refl e3q P6 (g := (mkF m 24 (L_rii a1 42 0) [vr a1])) rfl rfl (hb hby d8_24)
  obtain ⟨T11, L11, _, X11, ⟨rfl, N11q, e11q⟩, st11⟩ := own_callV X5 hx hZ hown (tw_50 hw) (tw_51 hw) (notFace_of_selects (args := #[]) (mvT hZ (tw_53 hw))) (tw_53 hw) (tw_52 hw) (tw_10 hw) (tw_54 hw) (rm10_4 hw a1 a4 w6 p7 p8 p9 p10 p2 Z0 P6 P7 P1 P2 P3 P4 P5) e5 P1 (Ls := (L_rii a1 42 0)) hml [] [vi 0, vi 42, vr a4] pd_6 3 (hb hby d8_30)
  have N11 := Fr.app N3 N11q
  obtain ⟨T13, L13, _, X13, ⟨rfl, N13q, e13q⟩, st13⟩ := own_callS X11 hx hZ hown (cw_25 hw) (rm25_3 hw a4 w6 p7 p8 p9 p10 a12 Z0 P7 P8 P3 P9 P10 P11 P12 P13) e11q (Ls := (L_rii a1 42 0)) hml [vr a4, vi 42, vi 0, vi 2] [] pd_9 0 (hb hby d8_33)
  have N13 := Fr.app N11 N13q
  refine ⟨T13, _, _, _, _, some (vi (va18 p7 p8)), X13, e13q, by decide, by decide, nofun, ⟨rfl, N13, rfl⟩, fun fs hr => ?_⟩
  refine own_b X0 hx hby tb8 1 [] 1 _ [vr a1] rfl ?_
  refine st3 _ ?_
  refine own_b X3 hx hby tb8 2 [true] 24 _ [vr a1] (ai (by decide) rfl) ?_
  refine st5 _ ?_
  refine own_b X5 hx hby tb8 3 [] 30 _ [vr a1, vi 0, vi 42, vr a4] rfl ?_
  refine st11 _ ?_
  refine st13 _ ?_
  exact retI X13 hx hret (hb hby d8_36) hr
theorem rm7_5 (hw : OW Z a0) (a1 : Addr) (p2 : Int32) (a3 : Addr) (w4 : ClassId) (p5 p6 p7 p8 : Int32) (a9 : Value) (Z0 : n0 ≤ h0.size) (P1 : ab8 Z h0 a1) (P2 : ab1 Z (vi p2)) (P3 : Old Z n0 h0) (P4 : ¬ (p2 = (0 : Int32))) (P5 : ab6 Z h0 a1 (vi 1)) (P6 : ab7 Z h0 a1 (vr a3)) (P7 : Arv Z h0 a3 w4 .byte (4 : Int32) [vi p5, vi p6, vi p7, vi p8] (vi 0)) (P8 : ab5 Z a9) (P9 : a9.isRef = true) (P10 : ab2 Z (vi 1)) (P11 : ab3 Z (vi 0)) (P12 : ab4 Z (vi 8)) (P13 : ¬ ((nar .char (va8 p7 p8)) = (42 : Int32))) :
    M7 l Z ws (orm 6 0 0 87) #[vr a1, vi 42] h0 (QI n0 h0 (vi (va18 p5 p6))) := by
  refine own_enter (plainFor_of_name pn_1) (L0 := (L_ri a1 42)) ?_
  intro p e s m below meth c s₁ hx hby hml hown hnm hret hZ X0 e0
  have N0 := Fr.nil n0
  obtain ⟨T10, L10, _, X10, ⟨rfl, N10q, e10q⟩, st10⟩ := own_callV X0 hx hZ hown (tw_39 hw) (tw_40 hw) (notFace_of_selects (args := #[]) (mvT hZ (tw_42 hw))) (tw_42 hw) (tw_41 hw) (tw_10 hw) (tw_43 hw) (rm8_5 hw a1 p2 a3 w4 p5 p6 p7 p8 a9 Z0 P1 P2 P3 P4 P5 P6 P7 P8 P9 P10 P11 P12 P13) e0 P1 (Ls := (L_ri a1 42)) hml [vi 42, vi 0] [] pd_8 0 (hb hby d7_3)
  have N10 := Fr.app N0 N10q
  refine ⟨T10, _, _, _, _, some (vi (va18 p5 p6)), X10, e10q, by decide, by decide, nofun, ⟨rfl, N10, rfl⟩, fun fs hr => ?_⟩
  refine own_b X0 hx hby tb7 3 [] 3 _ [vi 0, vi 42, vr a1] rfl ?_
  refine st10 _ ?_
  exact retI X10 hx hret (hb hby d7_6) hr
theorem rm6_9 (hw : OW Z a0) (a1 : Addr) (p2 : Int32) (a3 : Addr) (w4 : ClassId) (p5 p6 p7 p8 : Int32) (a9 : Value) (Z0 : n0 ≤ h0.size) (P1 : ab8 Z h0 a1) (P2 : ab1 Z (vi p2)) (P3 : Old Z n0 h0) (P4 : ¬ (p2 = (0 : Int32))) (P5 : ab6 Z h0 a1 (vi 1)) (P6 : ab7 Z h0 a1 (vr a3)) (P7 : Arv Z h0 a3 w4 .byte (4 : Int32) [vi p5, vi p6, vi p7, vi p8] (vi 0)) (P8 : ab5 Z a9) (P9 : a9.isRef = true) (P10 : ab2 Z (vi 1)) (P11 : ab3 Z (vi 0)) (P12 : ab4 Z (vi 8)) (P13 : ¬ ((nar .char (va8 p7 p8)) = (42 : Int32))) (H1 : (va18 p5 p6) < (0 : Int32)) :
    M6 l Z ws (orm 7 0 0 100) #[vr a1] h0 (QI n0 h0 (vi 0)) := by
  refine own_enter (plainFor_of_name pn_3) (L0 := #[sr a1]) ?_
  intro p e s m below meth c s₁ hx hby hml hown hnm hret hZ X0 e0
  have N0 := Fr.nil n0
  obtain ⟨T10, L10, _, X10, ⟨rfl, N10q, e10q⟩, st10⟩ := own_callV X0 hx hZ hown (tw_34 hw) (tw_35 hw) (notFace_of_selects (args := #[]) (mvT hZ (tw_37 hw))) (tw_37 hw) (tw_36 hw) (tw_10 hw) (tw_38 hw) (rm7_5 hw a1 p2 a3 w4 p5 p6 p7 p8 a9 Z0 P1 P2 P3 P4 P5 P6 P7 P8 P9 P10 P11 P12 P13) e0 P1 (Ls := #[sr a1]) hml [vi 42] [] pd_10 0 (hb hby d6_3)
  have N10 := Fr.app N0 N10q
  refine ⟨T10, _, _, _, _, some (vi 0), X10, e10q, by decide, by decide, nofun, ⟨rfl, N10, rfl⟩, fun fs hr => ?_⟩
  refine own_b X0 hx hby tb6 2 [] 3 _ [vi 42, vr a1] rfl ?_
  refine st10 _ ?_
  refine own_b X10 hx hby tb6 2 [true] 14 _ [vi 0] (ai (tlt H1).1 rfl) ?_
  exact retN X10 hx (t := .boolean) hret (by simp) (hb hby d6_14) hr
theorem rm6_10 (hw : OW Z a0) (a1 : Addr) (p2 : Int32) (a3 : Addr) (w4 : ClassId) (p5 p6 p7 p8 : Int32) (a9 : Value) (Z0 : n0 ≤ h0.size) (P1 : ab8 Z h0 a1) (P2 : ab1 Z (vi p2)) (P3 : Old Z n0 h0) (P4 : ¬ (p2 = (0 : Int32))) (P5 : ab6 Z h0 a1 (vi 1)) (P6 : ab7 Z h0 a1 (vr a3)) (P7 : Arv Z h0 a3 w4 .byte (4 : Int32) [vi p5, vi p6, vi p7, vi p8] (vi 0)) (P8 : ab5 Z a9) (P9 : a9.isRef = true) (P10 : ab2 Z (vi 1)) (P11 : ab3 Z (vi 0)) (P12 : ab4 Z (vi 8)) (P13 : ¬ ((nar .char (va8 p7 p8)) = (42 : Int32))) (H1 : ¬ ((va18 p5 p6) < (0 : Int32))) :
    M6 l Z ws (orm 7 0 0 100) #[vr a1] h0 (QI n0 h0 (vi 1)) := by
  refine own_enter (plainFor_of_name pn_3) (L0 := #[sr a1]) ?_
  intro p e s m below meth c s₁ hx hby hml hown hnm hret hZ X0 e0
  have N0 := Fr.nil n0
  obtain ⟨T10, L10, _, X10, ⟨rfl, N10q, e10q⟩, st10⟩ := own_callV X0 hx hZ hown (tw_34 hw) (tw_35 hw) (notFace_of_selects (args := #[]) (mvT hZ (tw_37 hw))) (tw_37 hw) (tw_36 hw) (tw_10 hw) (tw_38 hw) (rm7_5 hw a1 p2 a3 w4 p5 p6 p7 p8 a9 Z0 P1 P2 P3 P4 P5 P6 P7 P8 P9 P10 P11 P12 P13) e0 P1 (Ls := #[sr a1]) hml [vi 42] [] pd_10 0 (hb hby d6_3)
  have N10 := Fr.app N0 N10q
  refine ⟨T10, _, _, _, _, some (vi 1), X10, e10q, by decide, by decide, nofun, ⟨rfl, N10, rfl⟩, fun fs hr => ?_⟩
  refine own_b X0 hx hby tb6 2 [] 3 _ [vi 42, vr a1] rfl ?_
  refine st10 _ ?_
  refine own_b X10 hx hby tb6 3 [false] 14 _ [vi 1] (ai (flt H1).1 rfl) ?_
  exact retN X10 hx (t := .boolean) hret (by simp) (hb hby d6_14) hr
theorem rm6_11 (hw : OW Z a0) (a1 : Addr) (p2 : Int32) (a3 : Addr) (w4 : ClassId) (p5 p6 p7 p8 : Int32) (a9 : Value) (Z0 : n0 ≤ h0.size) (P1 : ab8 Z h0 a1) (P2 : ab1 Z (vi p2)) (P3 : Old Z n0 h0) (P4 : ¬ (p2 = (0 : Int32))) (P5 : ab6 Z h0 a1 (vi 1)) (P6 : ab7 Z h0 a1 (vr a3)) (P7 : Arv Z h0 a3 w4 .byte (4 : Int32) [vi p5, vi p6, vi p7, vi p8] (vi 0)) (P8 : ab5 Z a9) (P9 : a9.isRef = true) (P10 : ab2 Z (vi 1)) (P11 : ab3 Z (vi 0)) (P12 : ab4 Z (vi 8)) (P13 : ¬ ((nar .char (va8 p7 p8)) = (42 : Int32))) :
    M6 l Z ws (orm 7 0 0 100) #[vr a1] h0 (QI n0 h0 (vi (va19 p5 p6))) := by
  by_cases H1 : (va18 p5 p6) < (0 : Int32)
  ·
    rw [show (va19 p5 p6) = (0 : Int32) from by simp only [va19, if_pos H1]]
    exact rm6_9 hw a1 p2 a3 w4 p5 p6 p7 p8 a9 Z0 P1 P2 P3 P4 P5 P6 P7 P8 P9 P10 P11 P12 P13 H1
  ·
    rw [show (va19 p5 p6) = (1 : Int32) from by simp only [va19, if_neg H1]]
    exact rm6_10 hw a1 p2 a3 w4 p5 p6 p7 p8 a9 Z0 P1 P2 P3 P4 P5 P6 P7 P8 P9 P10 P11 P12 P13 H1
theorem rm17_5 (hw : OW Z a0) (a1 a2 : Addr) (w3 : ClassId) (p4 p5 : Int32) (w6 : ClassId) (Z0 : n0 ≤ h0.size) (P1 : Arv Z h0 a1 w3 .char (2 : Int32) [vi p4, vi p5] (vi 0)) (P2 : ¬ ((255 : Int32) < p4)) (P3 : Arv Z h0 a2 w6 .byte (2 : Int32) [vi 0, vi 0] (vi 0)) (P4 : n0 ≤ a2) (P5 : a1 ≠ a2) (P6 : ¬ ((255 : Int32) < p5)) :
    M17 l Z ws (orm 0 0 0 0) #[vr a1, vi 0, vr a2, vi 0, vi 2] h0 (fun v h L => v = some (vi 2) ∧ Fr n0 L ∧ Keep h0 h [a2] ∧ Arv Z h a2 w6 .byte (2 : Int32) [vi ((p4.toInt8.toInt32).toInt8.toInt32), vi ((p5.toInt8.toInt32).toInt8.toInt32)] (vi 0)) := by
  refine own_enter (plainFor_of_name pn_4) (L0 := (L_ririiuu a1 0 a2 0 2)) ?_
  intro p e s m below meth c s₁ hx hby hml hown hnm hret hZ X0 e0
  have N0 := Fr.nil n0
  obtain ⟨T7, h7, X7, e7, W7, V7, st7⟩ := own_stB X0 hx hZ e0 P3 (j := (0 : Int32)) (x := (p4.toInt8.toInt32)) (by decide) 0 rfl (Nat.le_of_ble_eq_true rfl) (Ls := (L_ririiii a1 0 a2 0 2 0 p4)) (rest := []) (hb hby d17_31)
  have N7 := Fr.snoc X7 N0 P4
  have F8 := (Arv.other P1 W7 P5)
  obtain ⟨T9, h9, X9, e9, W9, V9, st9⟩ := own_stB X7 hx hZ e7 V7 (j := (1 : Int32)) (x := (p5.toInt8.toInt32)) (by decide) 1 rfl (Nat.le_of_ble_eq_true rfl) (Ls := (L_ririiii a1 1 a2 1 2 1 p5)) (rest := []) (hb hby d17_31)
  have N9 := Fr.snoc X9 N7 P4
  have K10 := (Keep.refl h0 [a2]).wr W7 (Or.inl (List.mem_of_getElem? (i := 0) rfl))
  have K11 := K10.wr W9 (Or.inl (List.mem_of_getElem? (i := 0) rfl))
  refine ⟨T9, _, _, _, _, some (vi 2), X9, e9, by decide, by decide, nofun, ⟨rfl, N9, K11, V9⟩, fun fs hr => ?_⟩
  refine own_a X0 hx hZ e0 hby tb17 (aec P1 aen) 16 [false, true] [0] 31 (L_ririiii a1 0 a2 0 2 0 p4) [vi (p4.toInt8.toInt32), vi 0, vr a2] (ai (by decide) (ai rfl (ai (flt P2).2.2.2 rfl))) ?_
  refine st7 _ ?_
  refine own_a X7 hx hZ e7 hby tb17 (aec F8 aen) 18 [false, true] [0] 31 (L_ririiii a1 1 a2 1 2 1 p5) [vi (p5.toInt8.toInt32), vi 1, vr a2] (ai (by decide) (ai rfl (ai (flt P6).2.2.2 rfl))) ?_
  refine st9 _ ?_
  refine own_b X9 hx hby tb17 8 [true] 46 (L_ririiii a1 2 a2 2 2 2 p5) [vi 2] (ai (by decide) rfl) ?_
  exact retI X9 hx hret (hb hby d17_46) hr
theorem rm16_5 (hw : OW Z a0) (a1 : Addr) (w4 : ClassId) (p5 p6 : Int32) (Z0 : n0 ≤ h0.size) (P1 : Arv Z h0 a1 w4 .char (2 : Int32) [vi p5, vi p6] (vi 0)) (P2 : ¬ ((255 : Int32) < p5)) (P3 : ¬ ((255 : Int32) < p6)) :
    M16 l Z ws (orm 1 1 2 18) #[vr a1, vi 0, vi 2] h0 (fun v h L => ∃ b2 : Addr, ∃ k3 : ClassId, v = some (vr b2) ∧ Fr n0 L ∧ Keep h0 h [] ∧ n0 ≤ b2 ∧ h0.size ≤ b2 ∧ Arv Z h b2 k3 .byte (2 : Int32) [vi ((p5.toInt8.toInt32).toInt8.toInt32), vi ((p6.toInt8.toInt32).toInt8.toInt32)] (vi 0)) := by
  refine own_enter (plainFor_of_name pn_4) (L0 := (L_riiuuu a1 0 2)) ?_
  intro p e s m below meth c s₁ hx hby hml hown hnm hret hZ X0 e0
  have N0 := Fr.nil n0
  obtain ⟨T3, h3, b2, k3, X3, e3, E3, g3, V3, st3⟩ := own_newP X0 hx hZ (tw_23 hw) e0 (n := (2 : Int32)) (k := 2) (d := (vi 0)) (vs := [vi 0, vi 0]) (Ls := (L_riiuuu a1 0 2)) (S := []) (hb hby d16_1)
  have q3 := Nat.le_trans Z0 g3
  have z3 := Nat.le_trans (Nat.le_refl h0.size) g3
  have F7 := (P1.ext E3)
  have n8 := Nat.ne_of_lt (Nat.lt_of_lt_of_le P1.lt g3)
  obtain ⟨T9, L9, _, X9, ⟨rfl, N9q, K9, f9_0⟩, st9⟩ := own_callS X3 hx hZ hown (cw_6 hw) (rm17_5 hw a1 b2 w4 p5 p6 k3 (Nat.le_trans Z0 E3.1) F7 P2 V3 q3 n8 P3) e3 (Ls := (L_riiruu a1 0 2 b2)) hml [vr a1, vi 0, vr b2, vi 0, vi 2] [] pd_12 0 (hb hby d16_9)
  have N9 := Fr.app N0 N9q
  have K10 := (Keep.refl h0 []).ext E3
  have K11 := K10.trans K9 (allS (Or.inr z3) all0)
  refine ⟨T9, _, _, _, _, some (vr b2), X9, rfl, by decide, by decide, nofun, ⟨b2, k3, rfl, N9, K11, q3, z3, f9_0⟩, fun fs hr => ?_⟩
  refine own_b X0 hx hby tb16 1 [] 1 _ [vi 2] rfl ?_
  refine st3 _ ?_
  refine own_b X3 hx hby tb16 6 [] 9 (L_riiruu a1 0 2 b2) [vi 2, vi 0, vr b2, vi 0, vr a1] rfl ?_
  refine st9 _ ?_
  refine own_b X9 hx hby tb16 5 [true] 58 (L_riiriu a1 0 2 b2 2) [vr b2] (ai (by decide) rfl) ?_
  exact own_retA X9 hx hret rfl (hb hby d16_58) hr
theorem rm18_4 (hw : OW Z a0) (a1 : Addr) (w2 : ClassId) (p3 p4 : Int32) (Z0 : n0 ≤ h0.size) (P1 : Arv Z h0 a1 w2 .byte (2 : Int32) [vi p3, vi p4] (vi 0)) :
    M18 l Z ws (orm 0 0 0 0) #[vr a1, vi 2] h0 (QI n0 h0 (vi 0)) := by
  refine own_enter (plainFor_of_name pn_4) (L0 := (L_ri a1 2)) ?_
  intro p e s m below meth c s₁ hx hby hml hown hnm hret hZ X0 e0
  have N0 := Fr.nil n0
  refine ⟨s₁, _, _, _, _, some (vi 0), X0, e0, by decide, by decide, nofun, ⟨rfl, N0, rfl⟩, fun fs hr => ?_⟩
  refine own_a X0 hx hZ e0 hby tb18 (aec P1 aen) 7 [] [0] 8 _ [vi 0] (ai rfl rfl) ?_
  exact retN X0 hx (t := .byte) hret (by simp) (hb hby d18_8) hr
theorem rm4_6 (hw : OW Z a0) (a1 a2 : Addr) (p4 : Int32) (w6 : ClassId) (p7 p8 : Int32) (Z0 : n0 ≤ h0.size) (P1 : ab1 Z (vi p4)) (P2 : Old Z n0 h0) (P3 : ¬ (p4 = (0 : Int32))) (P4 : Arv Z h0 a2 w6 .char (2 : Int32) [vi p7, vi p8] (vi 0)) (P5 : ¬ ((255 : Int32) < p7)) (P6 : ¬ ((255 : Int32) < p8)) (P7 : ab6 Z h0 a1 (vi 0)) (P8 : ab8 Z h0 a1) (P9 : n0 ≤ a1) (P10 : ab7 Z h0 a1 .null) :
    M4 l Z ws (orm 2 1 2 35) #[vr a1, vr a2, vi 0, vi 2, .null] h0 (fun v h L => ∃ b10 : Addr, ∃ kk9_0 : ClassId, v = none ∧ Fr n0 L ∧ Keep h0 h [a1] ∧ n0 ≤ b10 ∧ h0.size ≤ b10 ∧ ab6 Z h a1 (vi 0) ∧ ab7 Z h a1 (vr b10) ∧ Arv Z h b10 kk9_0 .byte (2 : Int32) [vi ((p7.toInt8.toInt32).toInt8.toInt32), vi ((p8.toInt8.toInt32).toInt8.toInt32)] (vi 0)) := by
  refine own_enter (plainFor_of_name pn_1) (L0 := (L_rriinu a1 a2 0 2)) ?_
  intro p e s m below meth c s₁ hx hby hml hown hnm hret hZ X0 e0
  have N0 := Fr.nil n0
  obtain ⟨T3, X3, e3, st3⟩ := initO X0 hx hZ hown (tw_19 hw) (tw_20 hw) (tw_21 hw) e0 (g := (mkF m 1 (L_rriinu a1 a2 0 2) [vr a1])) rfl (by rw [hml]; rfl) rfl (hb hby d4_1) (by decide) (W := 0) (by show 2 * 0 + _ ≤ _; exact Nat.le_of_eq rfl) (by decide)
  obtain ⟨T5, X5, e5, st5⟩ := getS2 X3 hx hZ hown (host := "") (Or.inl (tw_49 hw)) Via.refl e3 (Sta.ext P2.2 P1) (g := (mkF m 27 (L_rriinu a1 a2 0 2) [])) rfl (hb hby d4_27)
  obtain ⟨T9, L9, _, X9, ⟨b10, kk9_0, rfl, N9q, K9, qa9_0, qb9_0, f9_0⟩, st9⟩ := own_callS X5 hx hZ hown (cw_12 hw) (rm16_5 hw a2 w6 p7 p8 Z0 P4 P5 P6) e5 (Ls := (L_rriinu a1 a2 0 2)) hml [vr a2, vi 0, vi 2] [] pd_15 0 (hb hby d4_36)
  have N9 := Fr.app N0 N9q
  have qd9_0 := Nat.le_trans (Nat.le_refl h0.size) qb9_0
  obtain ⟨T11, L11, _, X11, ⟨rfl, N11q, e11q⟩, st11⟩ := own_callS X9 hx hZ hown (cw_13 hw) (rm18_4 hw b10 kk9_0 ((p7.toInt8.toInt32).toInt8.toInt32) ((p8.toInt8.toInt32).toInt8.toInt32) (Nat.le_trans Z0 K9.1) f9_0) rfl (Ls := (L_rriinr a1 a2 0 2 b10)) hml [vr b10, vi 2] [vr a1] pd_17 1 (hb hby d4_45)
  have N11 := Fr.app N9 N11q
  have F12 := (Fld.keep P7 K9 nin0)
  have F13 := (Exa.keep P8 K9)
  obtain ⟨T14, h14, X14, e14, W14, st14⟩ := putF X11 hx hZ hown (host := "") (Or.inl (tw_29 hw)) Via.refl e11q F12 F13 (Or.inr ⟨(tw_25 hw), rfl, hnm⟩) (tw_9 hw) (ty := .byte) (by decide) rfl rfl (g := (mkF m 48 (L_rriinr a1 a2 0 2 b10) [vi 0, vr a1])) rfl rfl (hb hby d4_48)
  have N14 := Fr.snoc X14 N11 P9
  have Fw14 := Fld.same W14 F12
  have F15 := (Fld.other W14 (Fld.keep P10 K9 nin0) (Or.inr (slot_ne (Or.inr (tw_24 hw)) (Or.inr (tw_25 hw)) (by decide) (t := (.array .byte)) (t' := .byte) (by decide) (by decide))))
  have F16 := (Exa.wr W14 F13)
  obtain ⟨T17, h17, X17, e17, W17, st17⟩ := putF X14 hx hZ hown (host := "") (Or.inl (tw_28 hw)) Via.refl e14 F15 F16 (Or.inr ⟨(tw_24 hw), rfl, hnm⟩) (tw_9 hw) (ty := (.array .byte)) (by decide) rfl rfl (g := (mkF m 54 (L_rriinr a1 a2 0 2 b10) [vr b10, vr a1])) rfl rfl (hb hby d4_54)
  have N17 := Fr.snoc X17 N14 P9
  have Fw17 := Fld.same W17 F15
  have F18 := (Fld.other W17 Fw14 (Or.inr (slot_ne (Or.inr (tw_25 hw)) (Or.inr (tw_24 hw)) (by decide) (t := .byte) (t' := (.array .byte)) (by decide) (by decide))))
  have n19 := Nat.ne_of_lt (Nat.lt_of_lt_of_le P7.lt qb9_0)
  have F20 := (Arv.other (Arv.other f9_0 W14 (Ne.symm n19)) W17 (Ne.symm n19))
  have K21 := (Keep.refl h0 [a1]).trans K9 all0
  have K22 := K21.wr W14 (Or.inl (List.mem_of_getElem? (i := 0) rfl))
  have K23 := K22.wr W17 (Or.inl (List.mem_of_getElem? (i := 0) rfl))
  refine ⟨T17, _, _, _, _, none, X17, e17, by decide, by decide, (fun _ => rfl), ⟨b10, kk9_0, rfl, N17, K23, qa9_0, qd9_0, F18, Fw17, F20⟩, fun fs hr => ?_⟩
  refine own_b X0 hx hby tb4 1 [] 1 _ [vr a1] rfl ?_
  refine st3 _ ?_
  refine own_b X3 hx hby tb4 2 [true] 27 _ [] (ai (by decide) rfl) ?_
  refine st5 _ ?_
  refine own_b X5 hx hby tb4 4 [false] 36 _ [vi 2, vi 0, vr a2] (ai (feq P3).1 rfl) ?_
  refine st9 _ ?_
  refine own_b X9 hx hby tb4 4 [] 45 (L_rriinr a1 a2 0 2 b10) [vi 2, vr b10, vr a1] rfl ?_
  refine st11 _ ?_
  refine st14 _ ?_
  refine own_b X14 hx hby tb4 2 [] 54 _ [vr b10, vr a1] rfl ?_
  refine st17 _ ?_
  show OS p e below T17 m 57 (L_rriinr a1 a2 0 2 b10) [] _
  exact X17.returnOut hx hret (hb hby d4_57) hr
theorem rm3_6 (hw : OW Z a0) (a1 a2 : Addr) (w3 : ClassId) (p4 p5 p6 : Int32) (Z0 : n0 ≤ h0.size) (P1 : Arv Z h0 a2 w3 .char (2 : Int32) [vi p4, vi p5] (vi 0)) (P2 : ab1 Z (vi p6)) (P3 : Old Z n0 h0) (P4 : ¬ (p6 = (0 : Int32))) (P5 : ¬ ((255 : Int32) < p4)) (P6 : ¬ ((255 : Int32) < p5)) (P7 : ab6 Z h0 a1 (vi 0)) (P8 : ab8 Z h0 a1) (P9 : n0 ≤ a1) (P10 : ab7 Z h0 a1 .null) :
    M3 l Z ws (orm 3 1 2 52) #[vr a1, vr a2] h0 (fun v h L => ∃ b8 : Addr, ∃ kk7_0 : ClassId, v = none ∧ Fr n0 L ∧ Keep h0 h [a1] ∧ n0 ≤ b8 ∧ h0.size ≤ b8 ∧ ab6 Z h a1 (vi 0) ∧ ab7 Z h a1 (vr b8) ∧ Arv Z h b8 kk7_0 .byte (2 : Int32) [vi ((p4.toInt8.toInt32).toInt8.toInt32), vi ((p5.toInt8.toInt32).toInt8.toInt32)] (vi 0)) := by
  refine own_enter (plainFor_of_name pn_1) (L0 := (L_rr a1 a2)) ?_
  intro p e s m below meth c s₁ hx hby hml hown hnm hret hZ X0 e0
  have N0 := Fr.nil n0
  obtain ⟨T7, L7, _, X7, ⟨b8, kk7_0, rfl, N7q, K7, qa7_0, qb7_0, f7_0, f7_1, f7_2⟩, st7⟩ := own_callI X0 hx hZ hown (cw_14 hw) (rm4_6 hw a1 a2 p6 w3 p4 p5 Z0 P2 P3 P4 P1 P5 P6 P7 P8 P9 P10) e0 (Ls := (L_rr a1 a2)) hml a1 [vr a2, vi 0, vi 2, .null] [] pd_1 0 (hb hby d3_6)
  have N7 := Fr.app N0 N7q
  have qd7_0 := Nat.le_trans (Nat.le_refl h0.size) qb7_0
  have K9 := (Keep.refl h0 [a1]).trans K7 (allS (Or.inl (List.mem_of_getElem? (i := 0) rfl)) all0)
  refine ⟨T7, _, _, _, _, none, X7, rfl, by decide, by decide, (fun _ => rfl), ⟨b8, kk7_0, rfl, N7, K9, qa7_0, qd7_0, f7_0, f7_1, f7_2⟩, fun fs hr => ?_⟩
  refine own_a X0 hx hZ e0 hby tb3 (aec P1 aen) 6 [] [0] 6 _ [.null, vi 2, vi 0, vr a2, vr a1] (ai rfl rfl) ?_
  refine st7 _ ?_
  show OS p e below T7 m 9 (L_rr a1 a2) [] _
  exact X7.returnOut hx hret (hb hby d3_9) hr
theorem rm2_6 (hw : OW Z a0) (p1 p2 p3 p4 p13 : Int32) (Z0 : n0 ≤ h0.size) (P1 : ab1 Z (vi p13)) (P2 : Old Z n0 h0) (P3 : ¬ (p13 = (0 : Int32))) (P4 : ¬ ((255 : Int32) < (nar .char p1))) (P5 : ¬ ((255 : Int32) < (nar .char p2))) :
    M2 l Z ws (orm 4 3 8 66) #[vi 2, vi p1, vi p2, vi p3, vi p4] h0 (fun v h L => ∃ b5 : Addr, ∃ b21 : Addr, ∃ kk19_0 : ClassId, v = some (vr b5) ∧ Fr n0 L ∧ Keep h0 h [] ∧ n0 ≤ b5 ∧ h0.size ≤ b5 ∧ n0 ≤ b21 ∧ h0.size ≤ b21 ∧ b5 ≠ b21 ∧ ab8 Z h b5 ∧ ab6 Z h b5 (vi 0) ∧ ab7 Z h b5 (vr b21) ∧ Arv Z h b21 kk19_0 .byte (2 : Int32) [vi (((nar .char p1).toInt8.toInt32).toInt8.toInt32), vi (((nar .char p2).toInt8.toInt32).toInt8.toInt32)] (vi 0)) := by
  refine own_enter (plainFor_of_name pn_0) (L0 := (L_iiiii 2 p1 p2 p3 p4)) ?_
  intro p e s m below meth c s₁ hx hby hml hown hnm hret hZ X0 e0
  have N0 := Fr.nil n0
  obtain ⟨T6, h6, b5, X6, e6, E6, g6, A6, D6, st6⟩ := own_new X0 hx hZ hown (tw_8 hw) (tw_9 hw) (tw_10 hw) e0 (Ls := (L_iiiii 2 p1 p2 p3 p4)) (S := []) (hb hby d2_40)
  have q6 := Nat.le_trans Z0 g6
  have z6 := Nat.le_trans (Nat.le_refl h0.size) g6
  have F7 : ab7 Z h6 b5 .null := D6 (Or.inr (tw_24 hw)) (ty := (.array .byte)) (by decide)
  have F8 : ab6 Z h6 b5 (vi 0) := D6 (Or.inr (tw_25 hw)) (ty := .byte) (by decide)
  obtain ⟨T10, h10, b9, k10, X10, e10, E10, g10, V10, st10⟩ := own_newP X6 hx hZ (tw_11 hw) e6 (n := (2 : Int32)) (k := 2) (d := (vi 0)) (vs := [vi 0, vi 0]) (Ls := (L_iiiii 2 p1 p2 p3 p4)) (S := [vr b5, vr b5]) (hb hby d2_45)
  have q10 := Nat.le_trans (Nat.le_trans Z0 E6.1) g10
  have z10 := Nat.le_trans (Nat.le_trans (Nat.le_refl h0.size) E6.1) g10
  obtain ⟨T11, h11, X11, e11, W11, V11, st11⟩ := own_stC X10 hx hZ e10 V10 (j := (0 : Int32)) (x := p1) (by decide) 0 rfl (Nat.le_of_ble_eq_true rfl) (Ls := (L_iiiii 2 p1 p2 p3 p4)) (rest := [vr b9, vr b5, vr b5]) (hb hby d2_50)
  have N11 := Fr.snoc X11 N0 q10
  obtain ⟨T12, h12, X12, e12, W12, V12, st12⟩ := own_stC X11 hx hZ e11 V11 (j := (1 : Int32)) (x := p2) (by decide) 1 rfl (Nat.le_of_ble_eq_true rfl) (Ls := (L_iiiii 2 p1 p2 p3 p4)) (rest := [vr b9, vr b5, vr b5]) (hb hby d2_54)
  have N12 := Fr.snoc X12 N11 q10
  have F14 := ((((P2.ext E6).ext E10).wr W11 q10).wr W12 q10)
  have n15 := Nat.ne_of_lt (Nat.lt_of_lt_of_le A6.lt g10)
  have F16 := (Fld.other W12 (Fld.other W11 (Fld.ext E10 F8) (Or.inl n15)) (Or.inl n15))
  have F17 := (Exa.wr W12 (Exa.wr W11 (Exa.ext E10 A6)))
  have F18 := (Fld.other W12 (Fld.other W11 (Fld.ext E10 F7) (Or.inl n15)) (Or.inl n15))
  have F20 := (Nat.le_trans (Nat.le_trans (Nat.le_trans (Nat.le_trans Z0 E6.1) E10.1) (Keep.of_wr W11).1) (Keep.of_wr W12).1)
  obtain ⟨T19, L19, _, X19, ⟨b21, kk19_0, rfl, N19q, K19, qa19_0, qb19_0, f19_0, f19_1, f19_2⟩, st19⟩ := own_callI X12 hx hZ hown (cw_15 hw) (rm3_6 hw b5 b9 k10 (nar .char p1) (nar .char p2) p13 F20 V12 P1 F14 P3 P4 P5 F16 F17 q6 F18) e12 (Ls := (L_iiiii 2 p1 p2 p3 p4)) hml b5 [vr b9] [vr b5] pd_2 1 (hb hby d2_55)
  have N19 := Fr.app N12 N19q
  have F22 := (Nat.le_trans (Nat.le_trans (Nat.le_trans (Nat.le_trans (Nat.le_refl h0.size) E6.1) E10.1) (Keep.of_wr W11).1) (Keep.of_wr W12).1)
  have qd19_0 := Nat.le_trans F22 qb19_0
  have F23 := (Exa.keep F17 K19)
  have K24 := (Keep.refl h0 []).ext E6
  have K25 := K24.ext E10
  have K26 := K25.wr W11 (Or.inr z10)
  have K27 := K26.wr W12 (Or.inr z10)
  have K28 := K27.trans K19 (allS (Or.inr z6) all0)
  have n29 := Nat.ne_of_lt (Nat.lt_of_lt_of_le F16.lt qb19_0)
  refine ⟨T19, _, _, _, _, some (vr b5), X19, rfl, by decide, by decide, nofun, ⟨b5, b21, kk19_0, rfl, N19, K28, q6, z6, qa19_0, qd19_0, n29, F23, f19_0, f19_1, f19_2⟩, fun fs hr => ?_⟩
  refine own_b X0 hx hby tb2 8 [true, true, false] 40 _ [] (ai (by decide) (ai (by decide) (ai (by decide) rfl))) ?_
  refine st6 _ ?_
  refine own_b X6 hx hby tb2 2 [] 45 _ [vi 2, vr b5, vr b5] rfl ?_
  refine st10 _ ?_
  refine own_b X10 hx hby tb2 3 [] 50 _ [vi p1, vi 0, vr b9, vr b9, vr b5, vr b5] rfl ?_
  refine st11 _ ?_
  refine own_b X11 hx hby tb2 3 [] 54 _ [vi p2, vi 1, vr b9, vr b9, vr b5, vr b5] rfl ?_
  refine st12 _ ?_
  refine st19 _ ?_
  exact own_retA X19 hx hret rfl (hb hby d2_58) hr
theorem rm10_5 (hw : OW Z a0) (a1 a2 : Addr) (w4 : ClassId) (p5 p6 p7 : Int32) (Z0 : n0 ≤ h0.size) (P1 : ab7 Z h0 a1 (vr a2)) (P2 : Arv Z h0 a2 w4 .byte (2 : Int32) [vi p5, vi p6] (vi 0)) (P3 : ab8 Z h0 a1) (P4 : ab1 Z (vi p7)) (P5 : Old Z n0 h0) (P6 : ¬ (p7 = (0 : Int32))) (P7 : ab6 Z h0 a1 (vi 0)) :
    M10 l Z ws (orm 1 0 0 13) #[vr a1] h0 (QI n0 h0 (vi 2)) := by
  refine own_enter (plainFor_of_name pn_1) (L0 := #[sr a1]) ?_
  intro p e s m below meth c s₁ hx hby hml hown hnm hret hZ X0 e0
  have N0 := Fr.nil n0
  obtain ⟨T3, X3, e3, st3⟩ := getF X0 hx hZ hown (host := "") (Or.inl (tw_28 hw)) Via.refl e0 P1 (g := (mkF m 1 #[sr a1] [vr a1])) rfl rfl (hb hby d10_1)
  obtain ⟨T8, L8, _, X8, ⟨rfl, N8q, e8q⟩, st8⟩ := own_callV X3 hx hZ hown (tw_55 hw) (tw_56 hw) (notFace_of_selects (args := #[]) (mvT hZ (tw_58 hw))) (tw_58 hw) (tw_57 hw) (tw_10 hw) (tw_59 hw) (rm11_1 hw a1 p7 Z0 P4 P5 P6 P7) e3 P3 (Ls := #[sr a1]) hml [] [vi 2] pd_5 1 (hb hby d10_6)
  have N8 := Fr.app N0 N8q
  refine ⟨T8, _, _, _, _, some (vi 2), X8, e8q, by decide, by decide, nofun, ⟨rfl, N8, rfl⟩, fun fs hr => ?_⟩
  refine own_b X0 hx hby tb10 1 [] 1 _ [vr a1] rfl ?_
  refine st3 _ ?_
  refine own_a X3 hx hZ e3 hby tb10 (aec P2 aen) 2 [] [0] 6 _ [vr a1, vi 2] (ai rfl rfl) ?_
  refine st8 _ ?_
  refine own_b X8 hx hby tb10 1 [] 10 _ [vi 2] rfl ?_
  exact retI X8 hx hret (hb hby d10_10) hr
theorem rm19_4 (hw : OW Z a0) (a1 : Addr) (w2 : ClassId) (p3 p4 : Int32) (Z0 : n0 ≤ h0.size) (P1 : Arv Z h0 a1 w2 .byte (2 : Int32) [vi p3, vi p4] (vi 0)) (H1 : p3 = (42 : Int32)) :
    M19 l Z ws (orm 0 0 0 0) #[vr a1, vi 42, vi 0, vi 2] h0 (QI n0 h0 (vi 0)) := by
  refine own_enter (plainFor_of_name pn_2) (L0 := (L_riiiuu a1 42 0 2)) ?_
  intro p e s m below meth c s₁ hx hby hml hown hnm hret hZ X0 e0
  have N0 := Fr.nil n0
  refine ⟨s₁, _, _, _, _, some (vi 0), X0, e0, by decide, by decide, nofun, ⟨rfl, N0, rfl⟩, fun fs hr => ?_⟩
  refine own_a X0 hx hZ e0 hby tb19 (aec P1 aen) 14 [false, false] [0] 24 (L_riiiii a1 42 0 2 42 0) [vi 0] (ai (by decide) (ai rfl (ai (teq H1).2 rfl))) ?_
  exact retI X0 hx hret (hb hby d19_24) hr
theorem rm19_5 (hw : OW Z a0) (a1 : Addr) (w2 : ClassId) (p3 p4 : Int32) (Z0 : n0 ≤ h0.size) (P1 : Arv Z h0 a1 w2 .byte (2 : Int32) [vi p3, vi p4] (vi 0)) (H1 : ¬ (p3 = (42 : Int32))) (H2 : p4 = (42 : Int32)) :
    M19 l Z ws (orm 0 0 0 0) #[vr a1, vi 42, vi 0, vi 2] h0 (QI n0 h0 (vi 1)) := by
  refine own_enter (plainFor_of_name pn_2) (L0 := (L_riiiuu a1 42 0 2)) ?_
  intro p e s m below meth c s₁ hx hby hml hown hnm hret hZ X0 e0
  have N0 := Fr.nil n0
  refine ⟨s₁, _, _, _, _, some (vi 1), X0, e0, by decide, by decide, nofun, ⟨rfl, N0, rfl⟩, fun fs hr => ?_⟩
  refine own_a X0 hx hZ e0 hby tb19 (aec P1 aen) 24 [false, true, false, false] [0, 0] 24 (L_riiiii a1 42 0 2 42 1) [vi 1] (ai (by decide) (ai rfl (ai (feq H1).2 (ai (by decide) (ai rfl (ai (teq H2).2 rfl)))))) ?_
  exact retI X0 hx hret (hb hby d19_24) hr
theorem rm19_6 (hw : OW Z a0) (a1 : Addr) (w2 : ClassId) (p3 p4 : Int32) (Z0 : n0 ≤ h0.size) (P1 : Arv Z h0 a1 w2 .byte (2 : Int32) [vi p3, vi p4] (vi 0)) (H1 : ¬ (p3 = (42 : Int32))) (H2 : ¬ (p4 = (42 : Int32))) :
    M19 l Z ws (orm 0 0 0 0) #[vr a1, vi 42, vi 0, vi 2] h0 (QI n0 h0 (vi (-1))) := by
  refine own_enter (plainFor_of_name pn_2) (L0 := (L_riiiuu a1 42 0 2)) ?_
  intro p e s m below meth c s₁ hx hby hml hown hnm hret hZ X0 e0
  have N0 := Fr.nil n0
  refine ⟨s₁, _, _, _, _, some (vi (-1)), X0, e0, by decide, by decide, nofun, ⟨rfl, N0, rfl⟩, fun fs hr => ?_⟩
  refine own_a X0 hx hZ e0 hby tb19 (aec P1 aen) 29 [false, true, false, true, true] [0, 0] 32 (L_riiiii a1 42 0 2 42 2) [vi (-1)] (ai (by decide) (ai rfl (ai (feq H1).2 (ai (by decide) (ai rfl (ai (feq H2).2 (ai (by decide) rfl))))))) ?_
  exact retI X0 hx hret (hb hby d19_32) hr
theorem rm19_7 (hw : OW Z a0) (a1 : Addr) (w2 : ClassId) (p3 p4 : Int32) (Z0 : n0 ≤ h0.size) (P1 : Arv Z h0 a1 w2 .byte (2 : Int32) [vi p3, vi p4] (vi 0)) :
    M19 l Z ws (orm 0 0 0 0) #[vr a1, vi 42, vi 0, vi 2] h0 (QI n0 h0 (vi (va21 p3 p4))) := by
  by_cases H1 : p3 = (42 : Int32)
  ·
    rw [show (va21 p3 p4) = (0 : Int32) from by simp only [va21, if_pos H1]]
    exact rm19_4 hw a1 w2 p3 p4 Z0 P1 H1
  ·
    by_cases H2 : p4 = (42 : Int32)
    ·
      rw [show (va21 p3 p4) = (1 : Int32) from by simp only [va21, if_neg H1, if_pos H2]]
      exact rm19_5 hw a1 w2 p3 p4 Z0 P1 H1 H2
    ·
      rw [show (va21 p3 p4) = (-1 : Int32) from by simp only [va21, if_neg H1, if_neg H2]]
      exact rm19_6 hw a1 w2 p3 p4 Z0 P1 H1 H2
theorem rm12_3 (hw : OW Z a0) (a1 : Addr) (w4 : ClassId) (p5 p6 : Int32) (Z0 : n0 ≤ h0.size) (P1 : Arv Z h0 a1 w4 .byte (2 : Int32) [vi p5, vi p6] (vi 0)) :
    M12 l Z ws (orm 1 0 0 17) #[vr a1, vi 42, vi 0, vi 2] h0 (QI n0 h0 (vi (va21 p5 p6))) := by
  refine own_enter (plainFor_of_name pn_2) (L0 := (L_riii a1 42 0 2)) ?_
  intro p e s m below meth c s₁ hx hby hml hown hnm hret hZ X0 e0
  have N0 := Fr.nil n0
  obtain ⟨T2, L2, _, X2, ⟨rfl, N2q, e2q⟩, st2⟩ := own_callS X0 hx hZ hown (cw_1 hw) (rm13_1 hw  Z0 ) e0 (Ls := (L_riii a1 42 0 2)) hml [vi 42] [] pd_7 0 (hb hby d12_1)
  have N2 := Fr.app N0 N2q
  obtain ⟨T3, L3, _, X3, ⟨rfl, N3q, e3q⟩, st3⟩ := own_callS X2 hx hZ hown (cw_2 hw) (rm14_1 hw  Z0 ) e2q (Ls := (L_riii a1 42 0 2)) hml [vi 0, vi 0] [] pd_8 0 (hb hby d12_11)
  have N3 := Fr.app N2 N3q
  obtain ⟨T7, L7, _, X7, ⟨rfl, N7q, e7q⟩, st7⟩ := own_callS X3 hx hZ hown (cw_3 hw) (rm15_3 hw  Z0 ) e3q (Ls := (L_riii a1 42 0 2)) hml [vi 2, vi 2] [] pd_8 0 (hb hby d12_18)
  have N7 := Fr.app N3 N7q
  obtain ⟨T8, L8, _, X8, ⟨rfl, N8q, e8q⟩, st8⟩ := own_callS X7 hx hZ hown (cw_26 hw) (rm19_7 hw a1 w4 p5 p6 Z0 P1) e7q (Ls := (L_riii a1 42 0 2)) hml [vr a1, vi 42, vi 0, vi 2] [] pd_9 0 (hb hby d12_33)
  have N8 := Fr.app N7 N8q
  refine ⟨T8, _, _, _, _, some (vi (va21 p5 p6)), X8, e8q, by decide, by decide, nofun, ⟨rfl, N8, rfl⟩, fun fs hr => ?_⟩
  refine own_b X0 hx hby tb12 1 [] 1 _ [vi 42] rfl ?_
  refine st2 _ ?_
  refine own_b X2 hx hby tb12 3 [true] 11 _ [vi 0, vi 0] (ai (by decide) rfl) ?_
  refine st3 _ ?_
  refine own_a X3 hx hZ e3q hby tb12 (aec P1 aen) 4 [] [0] 18 (L_riii a1 42 0 2) [vi 2, vi 2] (ai rfl rfl) ?_
  refine st7 _ ?_
  refine own_b X7 hx hby tb12 8 [true] 33 (L_riii a1 42 0 2) [vi 2, vi 0, vi 42, vr a1] (ai (by decide) rfl) ?_
  refine st8 _ ?_
  exact retI X8 hx hret (hb hby d12_36) hr
theorem rm8_6 (hw : OW Z a0) (a1 : Addr) (p2 : Int32) (a4 : Addr) (w6 : ClassId) (p7 p8 : Int32) (Z0 : n0 ≤ h0.size) (P1 : ab8 Z h0 a1) (P2 : ab1 Z (vi p2)) (P3 : Old Z n0 h0) (P4 : ¬ (p2 = (0 : Int32))) (P5 : ab6 Z h0 a1 (vi 0)) (P6 : ab7 Z h0 a1 (vr a4)) (P7 : Arv Z h0 a4 w6 .byte (2 : Int32) [vi p7, vi p8] (vi 0)) :
    M8 l Z ws (orm 2 0 0 32) #[vr a1, vi 42, vi 0] h0 (QI n0 h0 (vi (va21 p7 p8))) := by
  refine own_enter (plainFor_of_name pn_1) (L0 := (L_rii a1 42 0)) ?_
  intro p e s m below meth c s₁ hx hby hml hown hnm hret hZ X0 e0
  have N0 := Fr.nil n0
  obtain ⟨T3, L3, _, X3, ⟨rfl, N3q, e3q⟩, st3⟩ := own_callV X0 hx hZ hown (tw_44 hw) (tw_45 hw) (notFace_of_selects (args := #[]) (mvT hZ (tw_47 hw))) (tw_47 hw) (tw_46 hw) (tw_10 hw) (tw_48 hw) (rm9_1 hw a1 p2 Z0 P2 P3 P4 P5) e0 P1 (Ls := (L_rii a1 42 0)) hml [] [] pd_4 0 (hb hby d8_1)
  have N3 := Fr.app N0 N3q
  obtain ⟨T5, X5, e5, st5⟩ := getF X3 hx hZ hown (host := "") (Or.inl (tw_28 hw)) Via.refl e3q P6 (g := (mkF m 8 (L_rii a1 42 0) [vr a1])) rfl rfl (hb hby d8_8)
  obtain ⟨T9, L9, _, X9, ⟨rfl, N9q, e9q⟩, st9⟩ := own_callV X5 hx hZ hown (tw_50 hw) (tw_51 hw) (notFace_of_selects (args := #[]) (mvT hZ (tw_53 hw))) (tw_53 hw) (tw_52 hw) (tw_10 hw) (tw_54 hw) (rm10_5 hw a1 a4 w6 p7 p8 p2 Z0 P6 P7 P1 P2 P3 P4 P5) e5 P1 (Ls := (L_rii a1 42 0)) hml [] [vi 0, vi 42, vr a4] pd_6 3 (hb hby d8_14)
  have N9 := Fr.app N3 N9q
  obtain ⟨T10, L10, _, X10, ⟨rfl, N10q, e10q⟩, st10⟩ := own_callS X9 hx hZ hown (cw_4 hw) (rm12_3 hw a4 w6 p7 p8 Z0 P7) e9q (Ls := (L_rii a1 42 0)) hml [vr a4, vi 42, vi 0, vi 2] [] pd_9 0 (hb hby d8_17)
  have N10 := Fr.app N9 N10q
  refine ⟨T10, _, _, _, _, some (vi (va21 p7 p8)), X10, e10q, by decide, by decide, nofun, ⟨rfl, N10, rfl⟩, fun fs hr => ?_⟩
  refine own_b X0 hx hby tb8 1 [] 1 _ [vr a1] rfl ?_
  refine st3 _ ?_
  refine own_b X3 hx hby tb8 2 [false] 8 _ [vr a1] (ai (by decide) rfl) ?_
  refine st5 _ ?_
  refine own_b X5 hx hby tb8 3 [] 14 _ [vr a1, vi 0, vi 42, vr a4] rfl ?_
  refine st9 _ ?_
  refine st10 _ ?_
  refine own_b X10 hx hby tb8 1 [] 36 _ [vi (va21 p7 p8)] rfl ?_
  exact retI X10 hx hret (hb hby d8_36) hr
theorem rm7_6 (hw : OW Z a0) (a1 : Addr) (p2 : Int32) (a3 : Addr) (w4 : ClassId) (p5 p6 : Int32) (Z0 : n0 ≤ h0.size) (P1 : ab8 Z h0 a1) (P2 : ab1 Z (vi p2)) (P3 : Old Z n0 h0) (P4 : ¬ (p2 = (0 : Int32))) (P5 : ab6 Z h0 a1 (vi 0)) (P6 : ab7 Z h0 a1 (vr a3)) (P7 : Arv Z h0 a3 w4 .byte (2 : Int32) [vi p5, vi p6] (vi 0)) :
    M7 l Z ws (orm 3 0 0 46) #[vr a1, vi 42] h0 (QI n0 h0 (vi (va21 p5 p6))) := by
  refine own_enter (plainFor_of_name pn_1) (L0 := (L_ri a1 42)) ?_
  intro p e s m below meth c s₁ hx hby hml hown hnm hret hZ X0 e0
  have N0 := Fr.nil n0
  obtain ⟨T7, L7, _, X7, ⟨rfl, N7q, e7q⟩, st7⟩ := own_callV X0 hx hZ hown (tw_39 hw) (tw_40 hw) (notFace_of_selects (args := #[]) (mvT hZ (tw_42 hw))) (tw_42 hw) (tw_41 hw) (tw_10 hw) (tw_43 hw) (rm8_6 hw a1 p2 a3 w4 p5 p6 Z0 P1 P2 P3 P4 P5 P6 P7) e0 P1 (Ls := (L_ri a1 42)) hml [vi 42, vi 0] [] pd_8 0 (hb hby d7_3)
  have N7 := Fr.app N0 N7q
  refine ⟨T7, _, _, _, _, some (vi (va21 p5 p6)), X7, e7q, by decide, by decide, nofun, ⟨rfl, N7, rfl⟩, fun fs hr => ?_⟩
  refine own_b X0 hx hby tb7 3 [] 3 _ [vi 0, vi 42, vr a1] rfl ?_
  refine st7 _ ?_
  exact retI X7 hx hret (hb hby d7_6) hr
theorem rm6_12 (hw : OW Z a0) (a1 : Addr) (p2 : Int32) (a3 : Addr) (w4 : ClassId) (p5 p6 : Int32) (Z0 : n0 ≤ h0.size) (P1 : ab8 Z h0 a1) (P2 : ab1 Z (vi p2)) (P3 : Old Z n0 h0) (P4 : ¬ (p2 = (0 : Int32))) (P5 : ab6 Z h0 a1 (vi 0)) (P6 : ab7 Z h0 a1 (vr a3)) (P7 : Arv Z h0 a3 w4 .byte (2 : Int32) [vi p5, vi p6] (vi 0)) (H1 : (va21 p5 p6) < (0 : Int32)) :
    M6 l Z ws (orm 4 0 0 59) #[vr a1] h0 (QI n0 h0 (vi 0)) := by
  refine own_enter (plainFor_of_name pn_3) (L0 := #[sr a1]) ?_
  intro p e s m below meth c s₁ hx hby hml hown hnm hret hZ X0 e0
  have N0 := Fr.nil n0
  obtain ⟨T7, L7, _, X7, ⟨rfl, N7q, e7q⟩, st7⟩ := own_callV X0 hx hZ hown (tw_34 hw) (tw_35 hw) (notFace_of_selects (args := #[]) (mvT hZ (tw_37 hw))) (tw_37 hw) (tw_36 hw) (tw_10 hw) (tw_38 hw) (rm7_6 hw a1 p2 a3 w4 p5 p6 Z0 P1 P2 P3 P4 P5 P6 P7) e0 P1 (Ls := #[sr a1]) hml [vi 42] [] pd_10 0 (hb hby d6_3)
  have N7 := Fr.app N0 N7q
  refine ⟨T7, _, _, _, _, some (vi 0), X7, e7q, by decide, by decide, nofun, ⟨rfl, N7, rfl⟩, fun fs hr => ?_⟩
  refine own_b X0 hx hby tb6 2 [] 3 _ [vi 42, vr a1] rfl ?_
  refine st7 _ ?_
  refine own_b X7 hx hby tb6 2 [true] 14 _ [vi 0] (ai (tlt H1).1 rfl) ?_
  exact retN X7 hx (t := .boolean) hret (by simp) (hb hby d6_14) hr
theorem rm6_13 (hw : OW Z a0) (a1 : Addr) (p2 : Int32) (a3 : Addr) (w4 : ClassId) (p5 p6 : Int32) (Z0 : n0 ≤ h0.size) (P1 : ab8 Z h0 a1) (P2 : ab1 Z (vi p2)) (P3 : Old Z n0 h0) (P4 : ¬ (p2 = (0 : Int32))) (P5 : ab6 Z h0 a1 (vi 0)) (P6 : ab7 Z h0 a1 (vr a3)) (P7 : Arv Z h0 a3 w4 .byte (2 : Int32) [vi p5, vi p6] (vi 0)) (H1 : ¬ ((va21 p5 p6) < (0 : Int32))) :
    M6 l Z ws (orm 4 0 0 59) #[vr a1] h0 (QI n0 h0 (vi 1)) := by
  refine own_enter (plainFor_of_name pn_3) (L0 := #[sr a1]) ?_
  intro p e s m below meth c s₁ hx hby hml hown hnm hret hZ X0 e0
  have N0 := Fr.nil n0
  obtain ⟨T7, L7, _, X7, ⟨rfl, N7q, e7q⟩, st7⟩ := own_callV X0 hx hZ hown (tw_34 hw) (tw_35 hw) (notFace_of_selects (args := #[]) (mvT hZ (tw_37 hw))) (tw_37 hw) (tw_36 hw) (tw_10 hw) (tw_38 hw) (rm7_6 hw a1 p2 a3 w4 p5 p6 Z0 P1 P2 P3 P4 P5 P6 P7) e0 P1 (Ls := #[sr a1]) hml [vi 42] [] pd_10 0 (hb hby d6_3)
  have N7 := Fr.app N0 N7q
  refine ⟨T7, _, _, _, _, some (vi 1), X7, e7q, by decide, by decide, nofun, ⟨rfl, N7, rfl⟩, fun fs hr => ?_⟩
  refine own_b X0 hx hby tb6 2 [] 3 _ [vi 42, vr a1] rfl ?_
  refine st7 _ ?_
  refine own_b X7 hx hby tb6 3 [false] 14 _ [vi 1] (ai (flt H1).1 rfl) ?_
  exact retN X7 hx (t := .boolean) hret (by simp) (hb hby d6_14) hr
theorem rm6_14 (hw : OW Z a0) (a1 : Addr) (p2 : Int32) (a3 : Addr) (w4 : ClassId) (p5 p6 : Int32) (Z0 : n0 ≤ h0.size) (P1 : ab8 Z h0 a1) (P2 : ab1 Z (vi p2)) (P3 : Old Z n0 h0) (P4 : ¬ (p2 = (0 : Int32))) (P5 : ab6 Z h0 a1 (vi 0)) (P6 : ab7 Z h0 a1 (vr a3)) (P7 : Arv Z h0 a3 w4 .byte (2 : Int32) [vi p5, vi p6] (vi 0)) :
    M6 l Z ws (orm 4 0 0 59) #[vr a1] h0 (QI n0 h0 (vi (va22 p5 p6))) := by
  by_cases H1 : (va21 p5 p6) < (0 : Int32)
  ·
    rw [show (va22 p5 p6) = (0 : Int32) from by simp only [va22, if_pos H1]]
    exact rm6_12 hw a1 p2 a3 w4 p5 p6 Z0 P1 P2 P3 P4 P5 P6 P7 H1
  ·
    rw [show (va22 p5 p6) = (1 : Int32) from by simp only [va22, if_neg H1]]
    exact rm6_13 hw a1 p2 a3 w4 p5 p6 Z0 P1 P2 P3 P4 P5 P6 P7 H1
theorem rm17_6 (hw : OW Z a0) (a1 a2 : Addr) (w3 : ClassId) (p4 p5 p6 : Int32) (Z0 : n0 ≤ h0.size) (P1 : Arv Z h0 a1 w3 .char (3 : Int32) [vi p4, vi p5, vi p6] (vi 0)) (P2 : (255 : Int32) < p4) :
    M17 l Z ws (orm 0 0 0 0) #[vr a1, vi 0, vr a2, vi 0, vi 3] h0 (QI n0 h0 (vi 0)) := by
  refine own_enter (plainFor_of_name pn_4) (L0 := (L_ririiuu a1 0 a2 0 3)) ?_
  intro p e s m below meth c s₁ hx hby hml hown hnm hret hZ X0 e0
  have N0 := Fr.nil n0
  refine ⟨s₁, _, _, _, _, some (vi 0), X0, e0, by decide, by decide, nofun, ⟨rfl, N0, rfl⟩, fun fs hr => ?_⟩
  refine own_a X0 hx hZ e0 hby tb17 (aec P1 aen) 13 [false, false] [0] 25 (L_ririiii a1 0 a2 0 3 0 p4) [vi 0] (ai (by decide) (ai rfl (ai (tlt P2).2.2.2 rfl))) ?_
  exact retI X0 hx hret (hb hby d17_25) hr
theorem rm22_3 (hw : OW Z a0)  (Z0 : n0 ≤ h0.size) :
    M22 l Z ws (orm 0 0 0 0) #[vi 3] h0 (QI n0 h0 (vi 6)) := by
  refine own_enter (plainFor_of_name pn_4) (L0 := #[si 3]) ?_
  intro p e s m below meth c s₁ hx hby hml hown hnm hret hZ X0 e0
  have N0 := Fr.nil n0
  refine ⟨s₁, _, _, _, _, some (vi 6), X0, e0, by decide, by decide, nofun, ⟨rfl, N0, rfl⟩, fun fs hr => ?_⟩
  refine own_b X0 hx hby tb22 3 [true] 13 _ [vi 3] (ai (by decide) rfl) ?_
  refine X0.ldcInt hx hown (mvT hZ (tw_97 hw)) (g := (mkF m 13 #[si 3] [vi 3])) rfl (hb hby d22_13) _ ?_
  show OS p e below s₁ m 15 #[si 3] [vi 1073741823, vi 3] _
  refine own_b X0 hx hby tb22 4 [true] 58 _ [vi 6] (ai (by decide) rfl) ?_
  exact retI X0 hx hret (hb hby d22_58) hr
theorem rm21_3 (hw : OW Z a0)  (Z0 : n0 ≤ h0.size) :
    M21 l Z ws (orm 1 1 6 12) #[vi 3] h0 (fun v h L => ∃ b2 : Addr, ∃ k3 : ClassId, v = some (vr b2) ∧ Fr n0 L ∧ Keep h0 h [] ∧ n0 ≤ b2 ∧ h0.size ≤ b2 ∧ Arv Z h b2 k3 .byte (6 : Int32) [vi 0, vi 0, vi 0, vi 0, vi 0, vi 0] (vi 0)) := by
  refine own_enter (plainFor_of_name pn_4) (L0 := #[si 3]) ?_
  intro p e s m below meth c s₁ hx hby hml hown hnm hret hZ X0 e0
  have N0 := Fr.nil n0
  obtain ⟨T1, L1, _, X1, ⟨rfl, N1q, e1q⟩, st1⟩ := own_callS X0 hx hZ hown (cw_7 hw) (rm22_3 hw  Z0 ) e0 (Ls := #[si 3]) hml [vi 3] [] pd_10 0 (hb hby d21_1)
  have N1 := Fr.app N0 N1q
  obtain ⟨T3, h3, b2, k3, X3, e3, E3, g3, V3, st3⟩ := own_newP X1 hx hZ (tw_23 hw) e1q (n := (6 : Int32)) (k := 6) (d := (vi 0)) (vs := [vi 0, vi 0, vi 0, vi 0, vi 0, vi 0]) (Ls := #[si 3]) (S := []) (hb hby d21_4)
  have q3 := Nat.le_trans Z0 g3
  have z3 := Nat.le_trans (Nat.le_refl h0.size) g3
  have K4 := (Keep.refl h0 []).ext E3
  refine ⟨T3, _, _, _, _, some (vr b2), X3, e3, by decide, by decide, nofun, ⟨b2, k3, rfl, N1, K4, q3, z3, V3⟩, fun fs hr => ?_⟩
  refine own_b X0 hx hby tb21 1 [] 1 _ [vi 3] rfl ?_
  refine st1 _ ?_
  refine st3 _ ?_
  exact own_retA X3 hx hret rfl (hb hby d21_6) hr
theorem rm23_4 (hw : OW Z a0) (a1 : Addr) (p2 : Int32) (w5 : ClassId) (Z0 : n0 ≤ h0.size) (P1 : ab2 Z (vi 1)) (P2 : Old Z n0 h0) (P3 : ab3 Z (vi 0)) (P4 : Arv Z h0 a1 w5 .byte (6 : Int32) [vi 0, vi 0, vi 0, vi 0, vi 0, vi 0] (vi 0)) (P5 : n0 ≤ a1) (P6 : ab4 Z (vi 8)) :
    M23 l Z ws (orm 0 0 0 0) #[vr a1, vi 0, vi p2] h0 (fun v h L => v = none ∧ Fr n0 L ∧ Keep h0 h [a1] ∧ Arv Z h a1 w5 .byte (6 : Int32) [vi ((va4 p2).toInt8.toInt32), vi ((va5 p2).toInt8.toInt32), vi 0, vi 0, vi 0, vi 0] (vi 0)) := by
  refine own_enter (plainFor_of_name pn_4) (L0 := (L_rii a1 0 p2)) ?_
  intro p e s m below meth c s₁ hx hby hml hown hnm hret hZ X0 e0
  have N0 := Fr.nil n0
  obtain ⟨T3, X3, e3, st3⟩ := getS2 X0 hx hZ hown (host := "") (Or.inl (tw_101 hw)) Via.refl e0 (Sta.ext P2.2 P1) (g := (mkF m 0 (L_rii a1 0 p2) [])) rfl (hb hby d23_0)
  obtain ⟨T4, X4, e4, st4⟩ := getS2 X3 hx hZ hown (host := "") (Or.inl (tw_102 hw)) Via.refl e3 (Sta.ext P2.2 P3) (g := (mkF m 38 (L_rii a1 1 p2) [vi p2, vi 0, vr a1])) rfl (hb hby d23_38)
  obtain ⟨T6, h6, X6, e6, W6, V6, st6⟩ := own_stB X4 hx hZ e4 P4 (j := (0 : Int32)) (x := (va4 p2)) (by decide) 0 rfl (Nat.le_of_ble_eq_true rfl) (Ls := (L_rii a1 1 p2)) (rest := []) (hb hby d23_43)
  have N6 := Fr.snoc X6 N0 P5
  have F7 := (P2.wr W6 P5)
  obtain ⟨T8, X8, e8, st8⟩ := getS2 X6 hx hZ hown (host := "") (Or.inl (tw_103 hw)) Via.refl e6 (Sta.ext F7.2 P6) (g := (mkF m 47 (L_rii a1 1 p2) [vi p2, vi 1, vr a1])) rfl (hb hby d23_47)
  obtain ⟨T9, h9, X9, e9, W9, V9, st9⟩ := own_stB X8 hx hZ e8 V6 (j := (1 : Int32)) (x := (va5 p2)) (by decide) 1 rfl (Nat.le_of_ble_eq_true rfl) (Ls := (L_rii a1 1 p2)) (rest := []) (hb hby d23_52)
  have N9 := Fr.snoc X9 N6 P5
  have K10 := (Keep.refl h0 [a1]).wr W6 (Or.inl (List.mem_of_getElem? (i := 0) rfl))
  have K11 := K10.wr W9 (Or.inl (List.mem_of_getElem? (i := 0) rfl))
  refine ⟨T9, _, _, _, _, none, X9, e9, by decide, by decide, (fun _ => rfl), ⟨rfl, N9, K11, V9⟩, fun fs hr => ?_⟩
  show OS p e below s₁ m 0 (L_rii a1 0 p2) [] _
  refine st3 _ ?_
  refine own_b X3 hx hby tb23 9 [true] 38 (L_rii a1 1 p2) [vi p2, vi 0, vr a1] (ai (by decide) rfl) ?_
  refine st4 _ ?_
  refine own_b X4 hx hby tb23 2 [] 43 _ [vi (va4 p2), vi 0, vr a1] rfl ?_
  refine st6 _ ?_
  refine own_b X6 hx hby tb23 3 [] 47 _ [vi p2, vi 1, vr a1] rfl ?_
  refine st8 _ ?_
  refine own_b X8 hx hby tb23 2 [] 52 _ [vi (va5 p2), vi 1, vr a1] rfl ?_
  refine st9 _ ?_
  show OS p e below T9 m 53 (L_rii a1 1 p2) [] _
  exact X9.returnOut hx hret (hb hby d23_53) hr
theorem rm23_5 (hw : OW Z a0) (a1 : Addr) (p2 : Int32) (w5 : ClassId) (p6 p7 : Int32) (Z0 : n0 ≤ h0.size) (P1 : ab2 Z (vi 1)) (P2 : Old Z n0 h0) (P3 : ab3 Z (vi 0)) (P4 : Arv Z h0 a1 w5 .byte (6 : Int32) [vi p6, vi p7, vi 0, vi 0, vi 0, vi 0] (vi 0)) (P5 : n0 ≤ a1) (P6 : ab4 Z (vi 8)) :
    M23 l Z ws (orm 0 0 0 0) #[vr a1, vi 1, vi p2] h0 (fun v h L => v = none ∧ Fr n0 L ∧ Keep h0 h [a1] ∧ Arv Z h a1 w5 .byte (6 : Int32) [vi p6, vi p7, vi ((va4 p2).toInt8.toInt32), vi ((va5 p2).toInt8.toInt32), vi 0, vi 0] (vi 0)) := by
  refine own_enter (plainFor_of_name pn_4) (L0 := (L_rii a1 1 p2)) ?_
  intro p e s m below meth c s₁ hx hby hml hown hnm hret hZ X0 e0
  have N0 := Fr.nil n0
  obtain ⟨T3, X3, e3, st3⟩ := getS2 X0 hx hZ hown (host := "") (Or.inl (tw_101 hw)) Via.refl e0 (Sta.ext P2.2 P1) (g := (mkF m 0 (L_rii a1 1 p2) [])) rfl (hb hby d23_0)
  obtain ⟨T4, X4, e4, st4⟩ := getS2 X3 hx hZ hown (host := "") (Or.inl (tw_102 hw)) Via.refl e3 (Sta.ext P2.2 P3) (g := (mkF m 38 (L_rii a1 3 p2) [vi p2, vi 2, vr a1])) rfl (hb hby d23_38)
  obtain ⟨T8, h8, X8, e8, W8, V8, st8⟩ := own_stB X4 hx hZ e4 P4 (j := (2 : Int32)) (x := (va4 p2)) (by decide) 2 rfl (Nat.le_of_ble_eq_true rfl) (Ls := (L_rii a1 3 p2)) (rest := []) (hb hby d23_43)
  have N8 := Fr.snoc X8 N0 P5
  have F9 := (P2.wr W8 P5)
  obtain ⟨T10, X10, e10, st10⟩ := getS2 X8 hx hZ hown (host := "") (Or.inl (tw_103 hw)) Via.refl e8 (Sta.ext F9.2 P6) (g := (mkF m 47 (L_rii a1 3 p2) [vi p2, vi 3, vr a1])) rfl (hb hby d23_47)
  obtain ⟨T11, h11, X11, e11, W11, V11, st11⟩ := own_stB X10 hx hZ e10 V8 (j := (3 : Int32)) (x := (va5 p2)) (by decide) 3 rfl (Nat.le_of_ble_eq_true rfl) (Ls := (L_rii a1 3 p2)) (rest := []) (hb hby d23_52)
  have N11 := Fr.snoc X11 N8 P5
  have K12 := (Keep.refl h0 [a1]).wr W8 (Or.inl (List.mem_of_getElem? (i := 0) rfl))
  have K13 := K12.wr W11 (Or.inl (List.mem_of_getElem? (i := 0) rfl))
  refine ⟨T11, _, _, _, _, none, X11, e11, by decide, by decide, (fun _ => rfl), ⟨rfl, N11, K13, V11⟩, fun fs hr => ?_⟩
  show OS p e below s₁ m 0 (L_rii a1 1 p2) [] _
  refine st3 _ ?_
  refine own_b X3 hx hby tb23 9 [true] 38 (L_rii a1 3 p2) [vi p2, vi 2, vr a1] (ai (by decide) rfl) ?_
  refine st4 _ ?_
  refine own_b X4 hx hby tb23 2 [] 43 _ [vi (va4 p2), vi 2, vr a1] rfl ?_
  refine st8 _ ?_
  refine own_b X8 hx hby tb23 3 [] 47 _ [vi p2, vi 3, vr a1] rfl ?_
  refine st10 _ ?_
  refine own_b X10 hx hby tb23 2 [] 52 _ [vi (va5 p2), vi 3, vr a1] rfl ?_
  refine st11 _ ?_
  show OS p e below T11 m 53 (L_rii a1 3 p2) [] _
  exact X11.returnOut hx hret (hb hby d23_53) hr
theorem rm23_6 (hw : OW Z a0) (a1 : Addr) (p2 : Int32) (w5 : ClassId) (p6 p7 p8 p9 : Int32) (Z0 : n0 ≤ h0.size) (P1 : ab2 Z (vi 1)) (P2 : Old Z n0 h0) (P3 : ab3 Z (vi 0)) (P4 : Arv Z h0 a1 w5 .byte (6 : Int32) [vi p6, vi p7, vi p8, vi p9, vi 0, vi 0] (vi 0)) (P5 : n0 ≤ a1) (P6 : ab4 Z (vi 8)) :
    M23 l Z ws (orm 0 0 0 0) #[vr a1, vi 2, vi p2] h0 (fun v h L => v = none ∧ Fr n0 L ∧ Keep h0 h [a1] ∧ Arv Z h a1 w5 .byte (6 : Int32) [vi p6, vi p7, vi p8, vi p9, vi ((va4 p2).toInt8.toInt32), vi ((va5 p2).toInt8.toInt32)] (vi 0)) := by
  refine own_enter (plainFor_of_name pn_4) (L0 := (L_rii a1 2 p2)) ?_
  intro p e s m below meth c s₁ hx hby hml hown hnm hret hZ X0 e0
  have N0 := Fr.nil n0
  obtain ⟨T3, X3, e3, st3⟩ := getS2 X0 hx hZ hown (host := "") (Or.inl (tw_101 hw)) Via.refl e0 (Sta.ext P2.2 P1) (g := (mkF m 0 (L_rii a1 2 p2) [])) rfl (hb hby d23_0)
  obtain ⟨T4, X4, e4, st4⟩ := getS2 X3 hx hZ hown (host := "") (Or.inl (tw_102 hw)) Via.refl e3 (Sta.ext P2.2 P3) (g := (mkF m 38 (L_rii a1 5 p2) [vi p2, vi 4, vr a1])) rfl (hb hby d23_38)
  obtain ⟨T10, h10, X10, e10, W10, V10, st10⟩ := own_stB X4 hx hZ e4 P4 (j := (4 : Int32)) (x := (va4 p2)) (by decide) 4 rfl (Nat.le_of_ble_eq_true rfl) (Ls := (L_rii a1 5 p2)) (rest := []) (hb hby d23_43)
  have N10 := Fr.snoc X10 N0 P5
  have F11 := (P2.wr W10 P5)
  obtain ⟨T12, X12, e12, st12⟩ := getS2 X10 hx hZ hown (host := "") (Or.inl (tw_103 hw)) Via.refl e10 (Sta.ext F11.2 P6) (g := (mkF m 47 (L_rii a1 5 p2) [vi p2, vi 5, vr a1])) rfl (hb hby d23_47)
  obtain ⟨T13, h13, X13, e13, W13, V13, st13⟩ := own_stB X12 hx hZ e12 V10 (j := (5 : Int32)) (x := (va5 p2)) (by decide) 5 rfl (Nat.le_of_ble_eq_true rfl) (Ls := (L_rii a1 5 p2)) (rest := []) (hb hby d23_52)
  have N13 := Fr.snoc X13 N10 P5
  have K14 := (Keep.refl h0 [a1]).wr W10 (Or.inl (List.mem_of_getElem? (i := 0) rfl))
  have K15 := K14.wr W13 (Or.inl (List.mem_of_getElem? (i := 0) rfl))
  refine ⟨T13, _, _, _, _, none, X13, e13, by decide, by decide, (fun _ => rfl), ⟨rfl, N13, K15, V13⟩, fun fs hr => ?_⟩
  show OS p e below s₁ m 0 (L_rii a1 2 p2) [] _
  refine st3 _ ?_
  refine own_b X3 hx hby tb23 9 [true] 38 (L_rii a1 5 p2) [vi p2, vi 4, vr a1] (ai (by decide) rfl) ?_
  refine st4 _ ?_
  refine own_b X4 hx hby tb23 2 [] 43 _ [vi (va4 p2), vi 4, vr a1] rfl ?_
  refine st10 _ ?_
  refine own_b X10 hx hby tb23 3 [] 47 _ [vi p2, vi 5, vr a1] rfl ?_
  refine st12 _ ?_
  refine own_b X12 hx hby tb23 2 [] 52 _ [vi (va5 p2), vi 5, vr a1] rfl ?_
  refine st13 _ ?_
  show OS p e below T13 m 53 (L_rii a1 5 p2) [] _
  exact X13.returnOut hx hret (hb hby d23_53) hr
theorem rm20_3 (hw : OW Z a0) (a1 : Addr) (w4 : ClassId) (p5 p6 p7 : Int32) (Z0 : n0 ≤ h0.size) (P1 : Arv Z h0 a1 w4 .char (3 : Int32) [vi p5, vi p6, vi p7] (vi 0)) (P2 : ab2 Z (vi 1)) (P3 : Old Z n0 h0) (P4 : ab3 Z (vi 0)) (P5 : ab4 Z (vi 8)) :
    M20 l Z ws (orm 2 1 6 24) #[vr a1, vi 0, vi 3] h0 (fun v h L => ∃ b3 : Addr, ∃ kk2_0 : ClassId, v = some (vr b3) ∧ Fr n0 L ∧ Keep h0 h [] ∧ n0 ≤ b3 ∧ h0.size ≤ b3 ∧ Arv Z h b3 kk2_0 .byte (6 : Int32) [vi ((va4 p5).toInt8.toInt32), vi ((va5 p5).toInt8.toInt32), vi ((va4 p6).toInt8.toInt32), vi ((va5 p6).toInt8.toInt32), vi ((va4 p7).toInt8.toInt32), vi ((va5 p7).toInt8.toInt32)] (vi 0)) := by
  refine own_enter (plainFor_of_name pn_4) (L0 := (L_riiuu a1 0 3)) ?_
  intro p e s m below meth c s₁ hx hby hml hown hnm hret hZ X0 e0
  have N0 := Fr.nil n0
  obtain ⟨T2, L2, _, X2, ⟨b3, kk2_0, rfl, N2q, K2, qa2_0, qb2_0, f2_0⟩, st2⟩ := own_callS X0 hx hZ hown (cw_8 hw) (rm21_3 hw  Z0 ) e0 (Ls := (L_riiuu a1 0 3)) hml [vi 3] [] pd_13 0 (hb hby d20_1)
  have N2 := Fr.app N0 N2q
  have qd2_0 := Nat.le_trans (Nat.le_refl h0.size) qb2_0
  have F8 := (Arv.keep P1 K2 nin0)
  have F9 := (P3.keep K2 all0)
  obtain ⟨T10, L10, _, X10, ⟨rfl, N10q, K10, f10_0⟩, st10⟩ := own_callS X2 hx hZ hown (cw_9 hw) (rm23_4 hw b3 p5 kk2_0 (Nat.le_trans Z0 K2.1) P2 F9 P4 f2_0 qa2_0 P5) rfl (Ls := (L_riiri a1 0 3 b3 0)) hml [vr b3, vi 0, vi p5] [] pd_14 0 (hb hby d20_20)
  have N10 := Fr.app N2 N10q
  have n11 := Nat.ne_of_lt (Nat.lt_of_lt_of_le P1.lt qb2_0)
  have F12 := (Arv.keep F8 K10 (ninS n11 nin0))
  have F13 := (F9.keep K10 (allS qa2_0 all0))
  obtain ⟨T14, L14, _, X14, ⟨rfl, N14q, K14, f14_0⟩, st14⟩ := own_callS X10 hx hZ hown (cw_9 hw) (rm23_5 hw b3 p6 kk2_0 ((va4 p5).toInt8.toInt32) ((va5 p5).toInt8.toInt32) (Nat.le_trans (Nat.le_trans Z0 K2.1) K10.1) P2 F13 P4 f10_0 qa2_0 P5) rfl (Ls := (L_riiri a1 1 3 b3 1)) hml [vr b3, vi 1, vi p6] [] pd_14 0 (hb hby d20_20)
  have N14 := Fr.app N10 N14q
  have F15 := (Arv.keep F12 K14 (ninS n11 nin0))
  have F16 := (F13.keep K14 (allS qa2_0 all0))
  have F18 := (Nat.le_trans (Nat.le_trans (Nat.le_trans Z0 K2.1) K10.1) K14.1)
  obtain ⟨T17, L17, _, X17, ⟨rfl, N17q, K17, f17_0⟩, st17⟩ := own_callS X14 hx hZ hown (cw_9 hw) (rm23_6 hw b3 p7 kk2_0 ((va4 p5).toInt8.toInt32) ((va5 p5).toInt8.toInt32) ((va4 p6).toInt8.toInt32) ((va5 p6).toInt8.toInt32) F18 P2 F16 P4 f14_0 qa2_0 P5) rfl (Ls := (L_riiri a1 2 3 b3 2)) hml [vr b3, vi 2, vi p7] [] pd_14 0 (hb hby d20_20)
  have N17 := Fr.app N14 N17q
  have K19 := (Keep.refl h0 []).trans K2 all0
  have K20 := K19.trans K10 (allS (Or.inr qd2_0) all0)
  have K21 := K20.trans K14 (allS (Or.inr qd2_0) all0)
  have K22 := K21.trans K17 (allS (Or.inr qd2_0) all0)
  refine ⟨T17, _, _, _, _, some (vr b3), X17, rfl, by decide, by decide, nofun, ⟨b3, kk2_0, rfl, N17, K22, qa2_0, qd2_0, f17_0⟩, fun fs hr => ?_⟩
  refine own_b X0 hx hby tb20 1 [] 1 _ [vi 3] rfl ?_
  refine st2 _ ?_
  refine own_a X2 hx hZ rfl hby tb20 (aec F8 aen) 11 [false] [0] 20 (L_riiri a1 0 3 b3 0) [vi p5, vi 0, vr b3] (ai (by decide) (ai rfl rfl)) ?_
  refine st10 _ ?_
  refine own_a X10 hx hZ rfl hby tb20 (aec F12 aen) 11 [false] [0] 20 (L_riiri a1 1 3 b3 1) [vi p6, vi 1, vr b3] (ai (by decide) (ai rfl rfl)) ?_
  refine st14 _ ?_
  refine own_a X14 hx hZ rfl hby tb20 (aec F15 aen) 11 [false] [0] 20 (L_riiri a1 2 3 b3 2) [vi p7, vi 2, vr b3] (ai (by decide) (ai rfl rfl)) ?_
  refine st17 _ ?_
  refine own_b X17 hx hby tb20 7 [true] 33 (L_riiri a1 3 3 b3 3) [vr b3] (ai (by decide) rfl) ?_
  exact own_retA X17 hx hret rfl (hb hby d20_33) hr
theorem rm24_4 (hw : OW Z a0) (a1 : Addr) (w3 : ClassId) (p4 p5 p6 p7 p8 p9 : Int32) (Z0 : n0 ≤ h0.size) (P1 : ab2 Z (vi 1)) (P2 : Old Z n0 h0) (P3 : Arv Z h0 a1 w3 .byte (6 : Int32) [vi p4, vi p5, vi p6, vi p7, vi p8, vi p9] (vi 0)) (P4 : ab3 Z (vi 0)) (P5 : ab4 Z (vi 8)) :
    M24 l Z ws (orm 0 0 0 0) #[vr a1, vi 0] h0 (QI n0 h0 (vi (nar .char (va8 p4 p5)))) := by
  refine own_enter (plainFor_of_name pn_4) (L0 := (L_ri a1 0)) ?_
  intro p e s m below meth c s₁ hx hby hml hown hnm hret hZ X0 e0
  have N0 := Fr.nil n0
  obtain ⟨T2, X2, e2, st2⟩ := getS2 X0 hx hZ hown (host := "") (Or.inl (tw_101 hw)) Via.refl e0 (Sta.ext P2.2 P1) (g := (mkF m 0 (L_ri a1 0) [])) rfl (hb hby d24_0)
  obtain ⟨T10, X10, e10, st10⟩ := getS2 X2 hx hZ hown (host := "") (Or.inl (tw_102 hw)) Via.refl e2 (Sta.ext P2.2 P4) (g := (mkF m 42 (L_ri a1 1) [vi (p4 &&& (255 : Int32))])) rfl (hb hby d24_42)
  obtain ⟨T11, X11, e11, st11⟩ := getS2 X10 hx hZ hown (host := "") (Or.inl (tw_103 hw)) Via.refl e10 (Sta.ext P2.2 P5) (g := (mkF m 53 (L_ri a1 1) [vi (p5 &&& (255 : Int32)), vi (va6 p4)])) rfl (hb hby d24_53)
  refine ⟨T11, _, _, _, _, some (vi (nar .char (va8 p4 p5))), X11, e11, by decide, by decide, nofun, ⟨rfl, N0, rfl⟩, fun fs hr => ?_⟩
  show OS p e below s₁ m 0 (L_ri a1 0) [] _
  refine st2 _ ?_
  refine own_a X2 hx hZ e2 hby tb24 (aec P3 aen) 11 [true] [0] 42 (L_ri a1 1) [vi (p4 &&& (255 : Int32))] (ai (by decide) (ai rfl rfl)) ?_
  refine st10 _ ?_
  refine own_a X10 hx hZ e10 hby tb24 (aec P3 aen) 6 [] [0] 53 _ [vi (p5 &&& (255 : Int32)), vi (va6 p4)] (ai rfl rfl) ?_
  refine st11 _ ?_
  refine own_b X11 hx hby tb24 3 [] 59 _ [vi (va8 p4 p5)] rfl ?_
  exact retN X11 hx (t := .char) hret (by simp) (hb hby d24_59) hr
theorem rm16_6 (hw : OW Z a0) (a1 : Addr) (w4 : ClassId) (p5 p6 p7 : Int32) (Z0 : n0 ≤ h0.size) (P1 : Arv Z h0 a1 w4 .char (3 : Int32) [vi p5, vi p6, vi p7] (vi 0)) (P2 : (255 : Int32) < p5) (P3 : ab2 Z (vi 1)) (P4 : Old Z n0 h0) (P5 : ab3 Z (vi 0)) (P6 : ab4 Z (vi 8)) (P7 : (255 : Int32) < (nar .char (va8 ((va4 p5).toInt8.toInt32) ((va5 p5).toInt8.toInt32)))) :
    M16 l Z ws (orm 3 2 9 40) #[vr a1, vi 0, vi 3] h0 (fun v h L => ∃ b12 : Addr, ∃ kk11_0 : ClassId, v = some (vr b12) ∧ Fr n0 L ∧ Keep h0 h [] ∧ n0 ≤ b12 ∧ h0.size ≤ b12 ∧ Arv Z h b12 kk11_0 .byte (6 : Int32) [vi ((va4 p5).toInt8.toInt32), vi ((va5 p5).toInt8.toInt32), vi ((va4 p6).toInt8.toInt32), vi ((va5 p6).toInt8.toInt32), vi ((va4 p7).toInt8.toInt32), vi ((va5 p7).toInt8.toInt32)] (vi 0)) := by
  refine own_enter (plainFor_of_name pn_4) (L0 := (L_riiuuu a1 0 3)) ?_
  intro p e s m below meth c s₁ hx hby hml hown hnm hret hZ X0 e0
  have N0 := Fr.nil n0
  obtain ⟨T3, h3, b2, k3, X3, e3, E3, g3, V3, st3⟩ := own_newP X0 hx hZ (tw_23 hw) e0 (n := (3 : Int32)) (k := 3) (d := (vi 0)) (vs := [vi 0, vi 0, vi 0]) (Ls := (L_riiuuu a1 0 3)) (S := []) (hb hby d16_1)
  have q3 := Nat.le_trans Z0 g3
  have z3 := Nat.le_trans (Nat.le_refl h0.size) g3
  have F8 := (P1.ext E3)
  obtain ⟨T9, L9, _, X9, ⟨rfl, N9q, e9q⟩, st9⟩ := own_callS X3 hx hZ hown (cw_6 hw) (rm17_6 hw a1 b2 w4 p5 p6 p7 (Nat.le_trans Z0 E3.1) F8 P2) e3 (Ls := (L_riiruu a1 0 3 b2)) hml [vr a1, vi 0, vr b2, vi 0, vi 3] [] pd_12 0 (hb hby d16_9)
  have N9 := Fr.app N0 N9q
  have F10 := (P4.ext E3)
  obtain ⟨T11, L11, _, X11, ⟨b12, kk11_0, rfl, N11q, K11, qa11_0, qb11_0, f11_0⟩, st11⟩ := own_callS X9 hx hZ hown (cw_10 hw) (rm20_3 hw a1 w4 p5 p6 p7 (Nat.le_trans Z0 E3.1) F8 P3 F10 P5 P6) e9q (Ls := (L_riiriu a1 0 3 b2 0)) hml [vr a1, vi 0, vi 3] [] pd_15 0 (hb hby d16_23)
  have N11 := Fr.app N9 N11q
  have qd11_0 := Nat.le_trans (Nat.le_trans (Nat.le_refl h0.size) E3.1) qb11_0
  have F13 := (F10.keep K11 all0)
  obtain ⟨T14, L14, _, X14, ⟨rfl, N14q, e14q⟩, st14⟩ := own_callS X11 hx hZ hown (cw_11 hw) (rm24_4 hw b12 kk11_0 ((va4 p5).toInt8.toInt32) ((va5 p5).toInt8.toInt32) ((va4 p6).toInt8.toInt32) ((va5 p6).toInt8.toInt32) ((va4 p7).toInt8.toInt32) ((va5 p7).toInt8.toInt32) (Nat.le_trans (Nat.le_trans Z0 E3.1) K11.1) P3 F13 f11_0 P5 P6) rfl (Ls := (L_riirir a1 0 3 b2 0 b12)) hml [vr b12, vi 0] [] pd_16 0 (hb hby d16_32)
  have N14 := Fr.app N11 N14q
  have K15 := (Keep.refl h0 []).ext E3
  have K16 := K15.trans K11 all0
  refine ⟨T14, _, _, _, _, some (vr b12), X14, e14q, by decide, by decide, nofun, ⟨b12, kk11_0, rfl, N14, K16, qa11_0, qd11_0, f11_0⟩, fun fs hr => ?_⟩
  refine own_b X0 hx hby tb16 1 [] 1 _ [vi 3] rfl ?_
  refine st3 _ ?_
  refine own_b X3 hx hby tb16 6 [] 9 (L_riiruu a1 0 3 b2) [vi 3, vi 0, vr b2, vi 0, vr a1] rfl ?_
  refine st9 _ ?_
  refine own_b X9 hx hby tb16 7 [false] 23 (L_riiriu a1 0 3 b2 0) [vi 3, vi 0, vr a1] (ai (by decide) rfl) ?_
  refine st11 _ ?_
  refine own_b X11 hx hby tb16 3 [] 32 (L_riirir a1 0 3 b2 0 b12) [vi 0, vr b12] rfl ?_
  refine st14 _ ?_
  refine own_b X14 hx hby tb16 3 [true] 56 _ [vr b12] (ai (tlt P7).2.2.1 rfl) ?_
  exact own_retA X14 hx hret rfl (hb hby d16_56) hr
theorem rm18_5 (hw : OW Z a0) (a1 : Addr) (w2 : ClassId) (p3 p4 p5 p6 p7 p8 : Int32) (Z0 : n0 ≤ h0.size) (P1 : Arv Z h0 a1 w2 .byte (6 : Int32) [vi p3, vi p4, vi p5, vi p6, vi p7, vi p8] (vi 0)) :
    M18 l Z ws (orm 0 0 0 0) #[vr a1, vi 3] h0 (QI n0 h0 (vi 1)) := by
  refine own_enter (plainFor_of_name pn_4) (L0 := (L_ri a1 3)) ?_
  intro p e s m below meth c s₁ hx hby hml hown hnm hret hZ X0 e0
  have N0 := Fr.nil n0
  refine ⟨s₁, _, _, _, _, some (vi 1), X0, e0, by decide, by decide, nofun, ⟨rfl, N0, rfl⟩, fun fs hr => ?_⟩
  refine own_a X0 hx hZ e0 hby tb18 (aec P1 aen) 7 [] [0] 8 _ [vi 1] (ai rfl rfl) ?_
  exact retN X0 hx (t := .byte) hret (by simp) (hb hby d18_8) hr
theorem rm4_7 (hw : OW Z a0) (a1 a2 : Addr) (p4 : Int32) (w6 : ClassId) (p7 p8 p9 : Int32) (Z0 : n0 ≤ h0.size) (P1 : ab1 Z (vi p4)) (P2 : Old Z n0 h0) (P3 : ¬ (p4 = (0 : Int32))) (P4 : Arv Z h0 a2 w6 .char (3 : Int32) [vi p7, vi p8, vi p9] (vi 0)) (P5 : (255 : Int32) < p7) (P6 : ab2 Z (vi 1)) (P7 : ab3 Z (vi 0)) (P8 : ab4 Z (vi 8)) (P9 : (255 : Int32) < (nar .char (va8 ((va4 p7).toInt8.toInt32) ((va5 p7).toInt8.toInt32)))) (P10 : ab6 Z h0 a1 (vi 0)) (P11 : ab8 Z h0 a1) (P12 : n0 ≤ a1) (P13 : ab7 Z h0 a1 .null) :
    M4 l Z ws (orm 4 2 9 57) #[vr a1, vr a2, vi 0, vi 3, .null] h0 (fun v h L => ∃ b11 : Addr, ∃ kk10_0 : ClassId, v = none ∧ Fr n0 L ∧ Keep h0 h [a1] ∧ n0 ≤ b11 ∧ h0.size ≤ b11 ∧ ab6 Z h a1 (vi 1) ∧ ab7 Z h a1 (vr b11) ∧ Arv Z h b11 kk10_0 .byte (6 : Int32) [vi ((va4 p7).toInt8.toInt32), vi ((va5 p7).toInt8.toInt32), vi ((va4 p8).toInt8.toInt32), vi ((va5 p8).toInt8.toInt32), vi ((va4 p9).toInt8.toInt32), vi ((va5 p9).toInt8.toInt32)] (vi 0)) := by
  refine own_enter (plainFor_of_name pn_1) (L0 := (L_rriinu a1 a2 0 3)) ?_
  intro p e s m below meth c s₁ hx hby hml hown hnm hret hZ X0 e0
  have N0 := Fr.nil n0
  obtain ⟨T3, X3, e3, st3⟩ := initO X0 hx hZ hown (tw_19 hw) (tw_20 hw) (tw_21 hw) e0 (g := (mkF m 1 (L_rriinu a1 a2 0 3) [vr a1])) rfl (by rw [hml]; rfl) rfl (hb hby d4_1) (by decide) (W := 0) (by show 2 * 0 + _ ≤ _; exact Nat.le_of_eq rfl) (by decide)
  obtain ⟨T5, X5, e5, st5⟩ := getS2 X3 hx hZ hown (host := "") (Or.inl (tw_49 hw)) Via.refl e3 (Sta.ext P2.2 P1) (g := (mkF m 27 (L_rriinu a1 a2 0 3) [])) rfl (hb hby d4_27)
  obtain ⟨T10, L10, _, X10, ⟨b11, kk10_0, rfl, N10q, K10, qa10_0, qb10_0, f10_0⟩, st10⟩ := own_callS X5 hx hZ hown (cw_12 hw) (rm16_6 hw a2 w6 p7 p8 p9 Z0 P4 P5 P6 P2 P7 P8 P9) e5 (Ls := (L_rriinu a1 a2 0 3)) hml [vr a2, vi 0, vi 3] [] pd_15 0 (hb hby d4_36)
  have N10 := Fr.app N0 N10q
  have qd10_0 := Nat.le_trans (Nat.le_refl h0.size) qb10_0
  obtain ⟨T12, L12, _, X12, ⟨rfl, N12q, e12q⟩, st12⟩ := own_callS X10 hx hZ hown (cw_13 hw) (rm18_5 hw b11 kk10_0 ((va4 p7).toInt8.toInt32) ((va5 p7).toInt8.toInt32) ((va4 p8).toInt8.toInt32) ((va5 p8).toInt8.toInt32) ((va4 p9).toInt8.toInt32) ((va5 p9).toInt8.toInt32) (Nat.le_trans Z0 K10.1) f10_0) rfl (Ls := (L_rriinr a1 a2 0 3 b11)) hml [vr b11, vi 3] [vr a1] pd_17 1 (hb hby d4_45)
  have N12 := Fr.app N10 N12q
  have F13 := (Fld.keep P10 K10 nin0)
  have F14 := (Exa.keep P11 K10)
  obtain ⟨T15, h15, X15, e15, W15, st15⟩ := putF X12 hx hZ hown (host := "") (Or.inl (tw_29 hw)) Via.refl e12q F13 F14 (Or.inr ⟨(tw_25 hw), rfl, hnm⟩) (tw_9 hw) (ty := .byte) (by decide) rfl rfl (g := (mkF m 48 (L_rriinr a1 a2 0 3 b11) [vi 1, vr a1])) rfl rfl (hb hby d4_48)
  have N15 := Fr.snoc X15 N12 P12
  have Fw15 := Fld.same W15 F13
  have F16 := (Fld.other W15 (Fld.keep P13 K10 nin0) (Or.inr (slot_ne (Or.inr (tw_24 hw)) (Or.inr (tw_25 hw)) (by decide) (t := (.array .byte)) (t' := .byte) (by decide) (by decide))))
  have F17 := (Exa.wr W15 F14)
  obtain ⟨T18, h18, X18, e18, W18, st18⟩ := putF X15 hx hZ hown (host := "") (Or.inl (tw_28 hw)) Via.refl e15 F16 F17 (Or.inr ⟨(tw_24 hw), rfl, hnm⟩) (tw_9 hw) (ty := (.array .byte)) (by decide) rfl rfl (g := (mkF m 54 (L_rriinr a1 a2 0 3 b11) [vr b11, vr a1])) rfl rfl (hb hby d4_54)
  have N18 := Fr.snoc X18 N15 P12
  have Fw18 := Fld.same W18 F16
  have F19 := (Fld.other W18 Fw15 (Or.inr (slot_ne (Or.inr (tw_25 hw)) (Or.inr (tw_24 hw)) (by decide) (t := .byte) (t' := (.array .byte)) (by decide) (by decide))))
  have n20 := Nat.ne_of_lt (Nat.lt_of_lt_of_le P10.lt qb10_0)
  have F21 := (Arv.other (Arv.other f10_0 W15 (Ne.symm n20)) W18 (Ne.symm n20))
  have K22 := (Keep.refl h0 [a1]).trans K10 all0
  have K23 := K22.wr W15 (Or.inl (List.mem_of_getElem? (i := 0) rfl))
  have K24 := K23.wr W18 (Or.inl (List.mem_of_getElem? (i := 0) rfl))
  refine ⟨T18, _, _, _, _, none, X18, e18, by decide, by decide, (fun _ => rfl), ⟨b11, kk10_0, rfl, N18, K24, qa10_0, qd10_0, F19, Fw18, F21⟩, fun fs hr => ?_⟩
  refine own_b X0 hx hby tb4 1 [] 1 _ [vr a1] rfl ?_
  refine st3 _ ?_
  refine own_b X3 hx hby tb4 2 [true] 27 _ [] (ai (by decide) rfl) ?_
  refine st5 _ ?_
  refine own_b X5 hx hby tb4 4 [false] 36 _ [vi 3, vi 0, vr a2] (ai (feq P3).1 rfl) ?_
  refine st10 _ ?_
  refine own_b X10 hx hby tb4 4 [] 45 (L_rriinr a1 a2 0 3 b11) [vi 3, vr b11, vr a1] rfl ?_
  refine st12 _ ?_
  refine st15 _ ?_
  refine own_b X15 hx hby tb4 2 [] 54 _ [vr b11, vr a1] rfl ?_
  refine st18 _ ?_
  show OS p e below T18 m 57 (L_rriinr a1 a2 0 3 b11) [] _
  exact X18.returnOut hx hret (hb hby d4_57) hr
theorem rm3_7 (hw : OW Z a0) (a1 a2 : Addr) (w3 : ClassId) (p4 p5 p6 p7 : Int32) (Z0 : n0 ≤ h0.size) (P1 : Arv Z h0 a2 w3 .char (3 : Int32) [vi p4, vi p5, vi p6] (vi 0)) (P2 : ab1 Z (vi p7)) (P3 : Old Z n0 h0) (P4 : ¬ (p7 = (0 : Int32))) (P5 : (255 : Int32) < p4) (P6 : ab2 Z (vi 1)) (P7 : ab3 Z (vi 0)) (P8 : ab4 Z (vi 8)) (P9 : (255 : Int32) < (nar .char (va8 ((va4 p4).toInt8.toInt32) ((va5 p4).toInt8.toInt32)))) (P10 : ab6 Z h0 a1 (vi 0)) (P11 : ab8 Z h0 a1) (P12 : n0 ≤ a1) (P13 : ab7 Z h0 a1 .null) :
    M3 l Z ws (orm 5 2 9 74) #[vr a1, vr a2] h0 (fun v h L => ∃ b9 : Addr, ∃ kk8_0 : ClassId, v = none ∧ Fr n0 L ∧ Keep h0 h [a1] ∧ n0 ≤ b9 ∧ h0.size ≤ b9 ∧ ab6 Z h a1 (vi 1) ∧ ab7 Z h a1 (vr b9) ∧ Arv Z h b9 kk8_0 .byte (6 : Int32) [vi ((va4 p4).toInt8.toInt32), vi ((va5 p4).toInt8.toInt32), vi ((va4 p5).toInt8.toInt32), vi ((va5 p5).toInt8.toInt32), vi ((va4 p6).toInt8.toInt32), vi ((va5 p6).toInt8.toInt32)] (vi 0)) := by
  refine own_enter (plainFor_of_name pn_1) (L0 := (L_rr a1 a2)) ?_
  intro p e s m below meth c s₁ hx hby hml hown hnm hret hZ X0 e0
  have N0 := Fr.nil n0
  obtain ⟨T8, L8, _, X8, ⟨b9, kk8_0, rfl, N8q, K8, qa8_0, qb8_0, f8_0, f8_1, f8_2⟩, st8⟩ := own_callI X0 hx hZ hown (cw_14 hw) (rm4_7 hw a1 a2 p7 w3 p4 p5 p6 Z0 P2 P3 P4 P1 P5 P6 P7 P8 P9 P10 P11 P12 P13) e0 (Ls := (L_rr a1 a2)) hml a1 [vr a2, vi 0, vi 3, .null] [] pd_1 0 (hb hby d3_6)
  have N8 := Fr.app N0 N8q
  have qd8_0 := Nat.le_trans (Nat.le_refl h0.size) qb8_0
  have K10 := (Keep.refl h0 [a1]).trans K8 (allS (Or.inl (List.mem_of_getElem? (i := 0) rfl)) all0)
  refine ⟨T8, _, _, _, _, none, X8, rfl, by decide, by decide, (fun _ => rfl), ⟨b9, kk8_0, rfl, N8, K10, qa8_0, qd8_0, f8_0, f8_1, f8_2⟩, fun fs hr => ?_⟩
  refine own_a X0 hx hZ e0 hby tb3 (aec P1 aen) 6 [] [0] 6 _ [.null, vi 3, vi 0, vr a2, vr a1] (ai rfl rfl) ?_
  refine st8 _ ?_
  show OS p e below T8 m 9 (L_rr a1 a2) [] _
  exact X8.returnOut hx hret (hb hby d3_9) hr
theorem rm2_7 (hw : OW Z a0) (p1 p2 p3 p4 p14 : Int32) (Z0 : n0 ≤ h0.size) (P1 : ab1 Z (vi p14)) (P2 : Old Z n0 h0) (P3 : ¬ (p14 = (0 : Int32))) (P4 : (255 : Int32) < (nar .char p1)) (P5 : ab2 Z (vi 1)) (P6 : ab3 Z (vi 0)) (P7 : ab4 Z (vi 8)) (P8 : (255 : Int32) < (nar .char (va8 ((va4 (nar .char p1)).toInt8.toInt32) ((va5 (nar .char p1)).toInt8.toInt32)))) :
    M2 l Z ws (orm 6 4 16 88) #[vi 3, vi p1, vi p2, vi p3, vi p4] h0 (fun v h L => ∃ b5 : Addr, ∃ b22 : Addr, ∃ kk20_0 : ClassId, v = some (vr b5) ∧ Fr n0 L ∧ Keep h0 h [] ∧ n0 ≤ b5 ∧ h0.size ≤ b5 ∧ n0 ≤ b22 ∧ h0.size ≤ b22 ∧ b5 ≠ b22 ∧ ab8 Z h b5 ∧ ab6 Z h b5 (vi 1) ∧ ab7 Z h b5 (vr b22) ∧ Arv Z h b22 kk20_0 .byte (6 : Int32) [vi ((va4 (nar .char p1)).toInt8.toInt32), vi ((va5 (nar .char p1)).toInt8.toInt32), vi ((va4 (nar .char p2)).toInt8.toInt32), vi ((va5 (nar .char p2)).toInt8.toInt32), vi ((va4 (nar .char p3)).toInt8.toInt32), vi ((va5 (nar .char p3)).toInt8.toInt32)] (vi 0)) := by
  refine own_enter (plainFor_of_name pn_0) (L0 := (L_iiiii 3 p1 p2 p3 p4)) ?_
  intro p e s m below meth c s₁ hx hby hml hown hnm hret hZ X0 e0
  have N0 := Fr.nil n0
  obtain ⟨T6, h6, b5, X6, e6, E6, g6, A6, D6, st6⟩ := own_new X0 hx hZ hown (tw_8 hw) (tw_9 hw) (tw_10 hw) e0 (Ls := (L_iiiii 3 p1 p2 p3 p4)) (S := []) (hb hby d2_64)
  have q6 := Nat.le_trans Z0 g6
  have z6 := Nat.le_trans (Nat.le_refl h0.size) g6
  have F7 : ab7 Z h6 b5 .null := D6 (Or.inr (tw_24 hw)) (ty := (.array .byte)) (by decide)
  have F8 : ab6 Z h6 b5 (vi 0) := D6 (Or.inr (tw_25 hw)) (ty := .byte) (by decide)
  obtain ⟨T10, h10, b9, k10, X10, e10, E10, g10, V10, st10⟩ := own_newP X6 hx hZ (tw_11 hw) e6 (n := (3 : Int32)) (k := 3) (d := (vi 0)) (vs := [vi 0, vi 0, vi 0]) (Ls := (L_iiiii 3 p1 p2 p3 p4)) (S := [vr b5, vr b5]) (hb hby d2_69)
  have q10 := Nat.le_trans (Nat.le_trans Z0 E6.1) g10
  have z10 := Nat.le_trans (Nat.le_trans (Nat.le_refl h0.size) E6.1) g10
  obtain ⟨T11, h11, X11, e11, W11, V11, st11⟩ := own_stC X10 hx hZ e10 V10 (j := (0 : Int32)) (x := p1) (by decide) 0 rfl (Nat.le_of_ble_eq_true rfl) (Ls := (L_iiiii 3 p1 p2 p3 p4)) (rest := [vr b9, vr b5, vr b5]) (hb hby d2_74)
  have N11 := Fr.snoc X11 N0 q10
  obtain ⟨T12, h12, X12, e12, W12, V12, st12⟩ := own_stC X11 hx hZ e11 V11 (j := (1 : Int32)) (x := p2) (by decide) 1 rfl (Nat.le_of_ble_eq_true rfl) (Ls := (L_iiiii 3 p1 p2 p3 p4)) (rest := [vr b9, vr b5, vr b5]) (hb hby d2_78)
  have N12 := Fr.snoc X12 N11 q10
  obtain ⟨T13, h13, X13, e13, W13, V13, st13⟩ := own_stC X12 hx hZ e12 V12 (j := (2 : Int32)) (x := p3) (by decide) 2 rfl (Nat.le_of_ble_eq_true rfl) (Ls := (L_iiiii 3 p1 p2 p3 p4)) (rest := [vr b9, vr b5, vr b5]) (hb hby d2_82)
  have N13 := Fr.snoc X13 N12 q10
  have F15 := (((((P2.ext E6).ext E10).wr W11 q10).wr W12 q10).wr W13 q10)
  have n16 := Nat.ne_of_lt (Nat.lt_of_lt_of_le A6.lt g10)
  have F17 := (Fld.other W13 (Fld.other W12 (Fld.other W11 (Fld.ext E10 F8) (Or.inl n16)) (Or.inl n16)) (Or.inl n16))
  have F18 := (Exa.wr W13 (Exa.wr W12 (Exa.wr W11 (Exa.ext E10 A6))))
  have F19 := (Fld.other W13 (Fld.other W12 (Fld.other W11 (Fld.ext E10 F7) (Or.inl n16)) (Or.inl n16)) (Or.inl n16))
  have F21 := (Nat.le_trans (Nat.le_trans (Nat.le_trans (Nat.le_trans (Nat.le_trans Z0 E6.1) E10.1) (Keep.of_wr W11).1) (Keep.of_wr W12).1) (Keep.of_wr W13).1)
  obtain ⟨T20, L20, _, X20, ⟨b22, kk20_0, rfl, N20q, K20, qa20_0, qb20_0, f20_0, f20_1, f20_2⟩, st20⟩ := own_callI X13 hx hZ hown (cw_15 hw) (rm3_7 hw b5 b9 k10 (nar .char p1) (nar .char p2) (nar .char p3) p14 F21 V13 P1 F15 P3 P4 P5 P6 P7 P8 F17 F18 q6 F19) e13 (Ls := (L_iiiii 3 p1 p2 p3 p4)) hml b5 [vr b9] [vr b5] pd_2 1 (hb hby d2_83)
  have N20 := Fr.app N13 N20q
  have F23 := (Nat.le_trans (Nat.le_trans (Nat.le_trans (Nat.le_trans (Nat.le_trans (Nat.le_refl h0.size) E6.1) E10.1) (Keep.of_wr W11).1) (Keep.of_wr W12).1) (Keep.of_wr W13).1)
  have qd20_0 := Nat.le_trans F23 qb20_0
  have F24 := (Exa.keep F18 K20)
  have K25 := (Keep.refl h0 []).ext E6
  have K26 := K25.ext E10
  have K27 := K26.wr W11 (Or.inr z10)
  have K28 := K27.wr W12 (Or.inr z10)
  have K29 := K28.wr W13 (Or.inr z10)
  have K30 := K29.trans K20 (allS (Or.inr z6) all0)
  have n31 := Nat.ne_of_lt (Nat.lt_of_lt_of_le F17.lt qb20_0)
  refine ⟨T20, _, _, _, _, some (vr b5), X20, rfl, by decide, by decide, nofun, ⟨b5, b22, kk20_0, rfl, N20, K30, q6, z6, qa20_0, qd20_0, n31, F24, f20_0, f20_1, f20_2⟩, fun fs hr => ?_⟩
  refine own_b X0 hx hby tb2 11 [true, true, true, false] 64 _ [] (ai (by decide) (ai (by decide) (ai (by decide) (ai (by decide) rfl)))) ?_
  refine st6 _ ?_
  refine own_b X6 hx hby tb2 2 [] 69 _ [vi 3, vr b5, vr b5] rfl ?_
  refine st10 _ ?_
  refine own_b X10 hx hby tb2 3 [] 74 _ [vi p1, vi 0, vr b9, vr b9, vr b5, vr b5] rfl ?_
  refine st11 _ ?_
  refine own_b X11 hx hby tb2 3 [] 78 _ [vi p2, vi 1, vr b9, vr b9, vr b5, vr b5] rfl ?_
  refine st12 _ ?_
  refine own_b X12 hx hby tb2 3 [] 82 _ [vi p3, vi 2, vr b9, vr b9, vr b5, vr b5] rfl ?_
  refine st13 _ ?_
  refine st20 _ ?_
  exact own_retA X20 hx hret rfl (hb hby d2_86) hr
theorem rm10_6 (hw : OW Z a0) (a1 a2 : Addr) (w4 : ClassId) (p5 p6 p7 p8 p9 p10 p11 : Int32) (Z0 : n0 ≤ h0.size) (P1 : ab7 Z h0 a1 (vr a2)) (P2 : Arv Z h0 a2 w4 .byte (6 : Int32) [vi p5, vi p6, vi p7, vi p8, vi p9, vi p10] (vi 0)) (P3 : ab8 Z h0 a1) (P4 : ab1 Z (vi p11)) (P5 : Old Z n0 h0) (P6 : ¬ (p11 = (0 : Int32))) (P7 : ab6 Z h0 a1 (vi 1)) :
    M10 l Z ws (orm 1 0 0 13) #[vr a1] h0 (QI n0 h0 (vi 3)) := by
  refine own_enter (plainFor_of_name pn_1) (L0 := #[sr a1]) ?_
  intro p e s m below meth c s₁ hx hby hml hown hnm hret hZ X0 e0
  have N0 := Fr.nil n0
  obtain ⟨T3, X3, e3, st3⟩ := getF X0 hx hZ hown (host := "") (Or.inl (tw_28 hw)) Via.refl e0 P1 (g := (mkF m 1 #[sr a1] [vr a1])) rfl rfl (hb hby d10_1)
  obtain ⟨T12, L12, _, X12, ⟨rfl, N12q, e12q⟩, st12⟩ := own_callV X3 hx hZ hown (tw_55 hw) (tw_56 hw) (notFace_of_selects (args := #[]) (mvT hZ (tw_58 hw))) (tw_58 hw) (tw_57 hw) (tw_10 hw) (tw_59 hw) (rm11_2 hw a1 p11 Z0 P4 P5 P6 P7) e3 P3 (Ls := #[sr a1]) hml [] [vi 6] pd_5 1 (hb hby d10_6)
  have N12 := Fr.app N0 N12q
  refine ⟨T12, _, _, _, _, some (vi 3), X12, e12q, by decide, by decide, nofun, ⟨rfl, N12, rfl⟩, fun fs hr => ?_⟩
  refine own_b X0 hx hby tb10 1 [] 1 _ [vr a1] rfl ?_
  refine st3 _ ?_
  refine own_a X3 hx hZ e3 hby tb10 (aec P2 aen) 2 [] [0] 6 _ [vr a1, vi 6] (ai rfl rfl) ?_
  refine st12 _ ?_
  refine own_b X12 hx hby tb10 1 [] 10 _ [vi 3] rfl ?_
  exact retI X12 hx hret (hb hby d10_10) hr
theorem rm15_4 (hw : OW Z a0)  (Z0 : n0 ≤ h0.size) :
    M15 l Z ws (orm 0 0 0 0) #[vi 3, vi 3] h0 (QI n0 h0 (vi 3)) := by
  refine own_enter (Jvm.Free.JP.mathPlain rfl (by decide +kernel)) (L0 := (L_ii 3 3)) ?_
  intro p e s m below meth c s₁ hx hby hml hown hnm hret hZ X0 e0
  have N0 := Fr.nil n0
  refine ⟨s₁, _, _, _, _, some (vi 3), X0, e0, by decide, by decide, nofun, ⟨rfl, N0, rfl⟩, fun fs hr => ?_⟩
  refine own_b X0 hx hby tb15 5 [false] 10 _ [vi 3] (ai (by decide) rfl) ?_
  exact retI X0 hx hret (hb hby d15_10) hr
theorem rm28_3 (hw : OW Z a0) (a1 : Addr) (w2 : ClassId) (p3 p4 p5 p6 p7 p8 : Int32) (Z0 : n0 ≤ h0.size) (P1 : Arv Z h0 a1 w2 .byte (6 : Int32) [vi p3, vi p4, vi p5, vi p6, vi p7, vi p8] (vi 0)) :
    M28 l Z ws (orm 0 0 0 0) #[vr a1] h0 (QI n0 h0 (vi 3)) := by
  refine own_enter (plainFor_of_name pn_4) (L0 := #[sr a1]) ?_
  intro p e s m below meth c s₁ hx hby hml hown hnm hret hZ X0 e0
  have N0 := Fr.nil n0
  refine ⟨s₁, _, _, _, _, some (vi 3), X0, e0, by decide, by decide, nofun, ⟨rfl, N0, rfl⟩, fun fs hr => ?_⟩
  refine own_a X0 hx hZ e0 hby tb28 (aec P1 aen) 4 [] [0] 4 _ [vi 3] (ai rfl rfl) ?_
  exact retI X0 hx hret (hb hby d28_4) hr
theorem rm30_3 (hw : OW Z a0) (a1 : Value) (Z0 : n0 ≤ h0.size) (P1 : a1.isRef = true) :
    M30 l Z ws (orm 0 0 0 0) #[vi 0, vi 3, vi 3, a1] h0 (QI n0 h0 (vi 0)) := by
  refine own_enter (plainFor_of_name pn_5) (L0 := #[si 0, si 3, si 3, .val a1]) (hef := fun m => by rcases ref_cases P1 with h0 | ⟨_, h0⟩ <;> simp only [h0] <;> first | rfl | (simp [entryFrame, mkF, argsToLocals, Value.category]; done)) ?_
  intro p e s m below meth c s₁ hx hby hml hown hnm hret hZ X0 e0
  have N0 := Fr.nil n0
  refine ⟨s₁, _, _, _, _, some (vi 0), X0, e0, by decide, by decide, nofun, ⟨rfl, N0, rfl⟩, fun fs hr => ?_⟩
  refine own_b X0 hx hby tb30 9 [false, false, true] 23 _ [vi 0] (ai (by decide) (ai (by decide) (ai (by decide) rfl))) ?_
  exact retI X0 hx hret (hb hby d30_23) hr
theorem rm29_3 (hw : OW Z a0) (a1 : Value) (Z0 : n0 ≤ h0.size) (P1 : ab5 Z a1) (P2 : Old Z n0 h0) (P3 : a1.isRef = true) :
    M29 l Z ws (orm 1 0 0 15) #[vi 0, vi 3, vi 3] h0 (fun v h L => v = none ∧ Fr n0 L ∧ h = h0) := by
  refine own_enter (plainFor_of_name pn_1) (L0 := (L_iii 0 3 3)) ?_
  intro p e s m below meth c s₁ hx hby hml hown hnm hret hZ X0 e0
  have N0 := Fr.nil n0
  obtain ⟨T2, X2, e2, st2⟩ := getS2 X0 hx hZ hown (host := "") (Or.inl (tw_125 hw)) Via.refl e0 (Sta.ext P2.2 P1) (g := (mkF m 3 (L_iii 0 3 3) [vi 3, vi 3, vi 0])) rfl (hb hby d29_3)
  obtain ⟨T3, L3, _, X3, ⟨rfl, N3q, e3q⟩, st3⟩ := own_callS X2 hx hZ hown (cw_20 hw) (rm30_3 hw a1 Z0 P3) e2 (Ls := (L_iii 0 3 3)) hml [vi 0, vi 3, vi 3, a1] [] pd_19 0 (hb hby d29_6)
  have N3 := Fr.app N0 N3q
  refine ⟨T3, _, _, _, _, none, X3, e3q, by decide, by decide, (fun _ => rfl), ⟨rfl, N3, rfl⟩, fun fs hr => ?_⟩
  refine own_b X0 hx hby tb29 3 [] 3 _ [vi 3, vi 3, vi 0] rfl ?_
  refine st2 _ ?_
  refine st3 _ ?_
  refine own_b X3 hx hby tb29 1 [] 10 _ [] rfl ?_
  exact X3.returnOut hx hret (hb hby d29_10) hr
theorem rm27_3 (hw : OW Z a0) (a1 : Addr) (w2 : ClassId) (p3 p4 p5 p6 p7 p8 : Int32) (a10 : Value) (Z0 : n0 ≤ h0.size) (P1 : Arv Z h0 a1 w2 .byte (6 : Int32) [vi p3, vi p4, vi p5, vi p6, vi p7, vi p8] (vi 0)) (P2 : ab5 Z a10) (P3 : Old Z n0 h0) (P4 : a10.isRef = true) :
    M27 l Z ws (orm 2 0 0 29) #[vi 0, vi 3, vr a1] h0 (fun v h L => v = none ∧ Fr n0 L ∧ h = h0) := by
  refine own_enter (plainFor_of_name pn_4) (L0 := (L_iir 0 3 a1)) ?_
  intro p e s m below meth c s₁ hx hby hml hown hnm hret hZ X0 e0
  have N0 := Fr.nil n0
  obtain ⟨T9, L9, _, X9, ⟨rfl, N9q, e9q⟩, st9⟩ := own_callS X0 hx hZ hown (cw_19 hw) (rm28_3 hw a1 w2 p3 p4 p5 p6 p7 p8 Z0 P1) e0 (Ls := (L_iir 0 3 a1)) hml [vr a1] [vi 3, vi 0] pd_18 2 (hb hby d27_3)
  have N9 := Fr.app N0 N9q
  obtain ⟨T11, L11, _, X11, ⟨rfl, N11q, e11q⟩, st11⟩ := own_callS X9 hx hZ hown (cw_21 hw) (rm29_3 hw a10 Z0 P2 P3 P4) e9q (Ls := (L_iir 0 3 a1)) hml [vi 0, vi 3, vi 3] [] pd_20 0 (hb hby d27_6)
  have N11 := Fr.app N9 N11q
  refine ⟨T11, _, _, _, _, none, X11, e11q, by decide, by decide, (fun _ => rfl), ⟨rfl, N11, rfl⟩, fun fs hr => ?_⟩
  refine own_b X0 hx hby tb27 3 [] 3 _ [vr a1, vi 3, vi 0] rfl ?_
  refine st9 _ ?_
  refine st11 _ ?_
  show OS p e below T11 m 9 (L_iir 0 3 a1) [] _
  exact X11.returnOut hx hret (hb hby d27_9) hr
theorem rm24_5 (hw : OW Z a0) (a1 : Addr) (w3 : ClassId) (p4 p5 p6 p7 p8 p9 : Int32) (Z0 : n0 ≤ h0.size) (P1 : ab2 Z (vi 1)) (P2 : Old Z n0 h0) (P3 : Arv Z h0 a1 w3 .byte (6 : Int32) [vi p4, vi p5, vi p6, vi p7, vi p8, vi p9] (vi 0)) (P4 : ab3 Z (vi 0)) (P5 : ab4 Z (vi 8)) :
    M24 l Z ws (orm 0 0 0 0) #[vr a1, vi 1] h0 (QI n0 h0 (vi (nar .char (va8 p6 p7)))) := by
  refine own_enter (plainFor_of_name pn_4) (L0 := (L_ri a1 1)) ?_
  intro p e s m below meth c s₁ hx hby hml hown hnm hret hZ X0 e0
  have N0 := Fr.nil n0
  obtain ⟨T2, X2, e2, st2⟩ := getS2 X0 hx hZ hown (host := "") (Or.inl (tw_101 hw)) Via.refl e0 (Sta.ext P2.2 P1) (g := (mkF m 0 (L_ri a1 1) [])) rfl (hb hby d24_0)
  obtain ⟨T10, X10, e10, st10⟩ := getS2 X2 hx hZ hown (host := "") (Or.inl (tw_102 hw)) Via.refl e2 (Sta.ext P2.2 P4) (g := (mkF m 42 (L_ri a1 3) [vi (p6 &&& (255 : Int32))])) rfl (hb hby d24_42)
  obtain ⟨T11, X11, e11, st11⟩ := getS2 X10 hx hZ hown (host := "") (Or.inl (tw_103 hw)) Via.refl e10 (Sta.ext P2.2 P5) (g := (mkF m 53 (L_ri a1 3) [vi (p7 &&& (255 : Int32)), vi (va6 p6)])) rfl (hb hby d24_53)
  refine ⟨T11, _, _, _, _, some (vi (nar .char (va8 p6 p7))), X11, e11, by decide, by decide, nofun, ⟨rfl, N0, rfl⟩, fun fs hr => ?_⟩
  show OS p e below s₁ m 0 (L_ri a1 1) [] _
  refine st2 _ ?_
  refine own_a X2 hx hZ e2 hby tb24 (aec P3 aen) 11 [true] [0] 42 (L_ri a1 3) [vi (p6 &&& (255 : Int32))] (ai (by decide) (ai rfl rfl)) ?_
  refine st10 _ ?_
  refine own_a X10 hx hZ e10 hby tb24 (aec P3 aen) 6 [] [0] 53 _ [vi (p7 &&& (255 : Int32)), vi (va6 p6)] (ai rfl rfl) ?_
  refine st11 _ ?_
  refine own_b X11 hx hby tb24 3 [] 59 _ [vi (va8 p6 p7)] rfl ?_
  exact retN X11 hx (t := .char) hret (by simp) (hb hby d24_59) hr
theorem rm24_6 (hw : OW Z a0) (a1 : Addr) (w3 : ClassId) (p4 p5 p6 p7 p8 p9 : Int32) (Z0 : n0 ≤ h0.size) (P1 : ab2 Z (vi 1)) (P2 : Old Z n0 h0) (P3 : Arv Z h0 a1 w3 .byte (6 : Int32) [vi p4, vi p5, vi p6, vi p7, vi p8, vi p9] (vi 0)) (P4 : ab3 Z (vi 0)) (P5 : ab4 Z (vi 8)) :
    M24 l Z ws (orm 0 0 0 0) #[vr a1, vi 2] h0 (QI n0 h0 (vi (nar .char (va8 p8 p9)))) := by
  refine own_enter (plainFor_of_name pn_4) (L0 := (L_ri a1 2)) ?_
  intro p e s m below meth c s₁ hx hby hml hown hnm hret hZ X0 e0
  have N0 := Fr.nil n0
  obtain ⟨T2, X2, e2, st2⟩ := getS2 X0 hx hZ hown (host := "") (Or.inl (tw_101 hw)) Via.refl e0 (Sta.ext P2.2 P1) (g := (mkF m 0 (L_ri a1 2) [])) rfl (hb hby d24_0)
  obtain ⟨T10, X10, e10, st10⟩ := getS2 X2 hx hZ hown (host := "") (Or.inl (tw_102 hw)) Via.refl e2 (Sta.ext P2.2 P4) (g := (mkF m 42 (L_ri a1 5) [vi (p8 &&& (255 : Int32))])) rfl (hb hby d24_42)
  obtain ⟨T11, X11, e11, st11⟩ := getS2 X10 hx hZ hown (host := "") (Or.inl (tw_103 hw)) Via.refl e10 (Sta.ext P2.2 P5) (g := (mkF m 53 (L_ri a1 5) [vi (p9 &&& (255 : Int32)), vi (va6 p8)])) rfl (hb hby d24_53)
  refine ⟨T11, _, _, _, _, some (vi (nar .char (va8 p8 p9))), X11, e11, by decide, by decide, nofun, ⟨rfl, N0, rfl⟩, fun fs hr => ?_⟩
  show OS p e below s₁ m 0 (L_ri a1 2) [] _
  refine st2 _ ?_
  refine own_a X2 hx hZ e2 hby tb24 (aec P3 aen) 11 [true] [0] 42 (L_ri a1 5) [vi (p8 &&& (255 : Int32))] (ai (by decide) (ai rfl rfl)) ?_
  refine st10 _ ?_
  refine own_a X10 hx hZ e10 hby tb24 (aec P3 aen) 6 [] [0] 53 _ [vi (p9 &&& (255 : Int32)), vi (va6 p8)] (ai rfl rfl) ?_
  refine st11 _ ?_
  refine own_b X11 hx hby tb24 3 [] 59 _ [vi (va8 p8 p9)] rfl ?_
  exact retN X11 hx (t := .char) hret (by simp) (hb hby d24_59) hr
theorem rm31_8 (hw : OW Z a0) (a1 : Addr) (w2 : ClassId) (p3 p4 p5 p6 p7 p8 : Int32) (Z0 : n0 ≤ h0.size) (P1 : ab2 Z (vi 1)) (P2 : Old Z n0 h0) (P3 : Arv Z h0 a1 w2 .byte (6 : Int32) [vi p3, vi p4, vi p5, vi p6, vi p7, vi p8] (vi 0)) (P4 : ab3 Z (vi 0)) (P5 : ab4 Z (vi 8)) (P6 : ¬ ((nar .char (va8 p3 p4)) = (42 : Int32))) (H1 : (nar .char (va8 p5 p6)) = (42 : Int32)) :
    M31 l Z ws (orm 1 0 0 13) #[vr a1, vi 42, vi 0, vi 3] h0 (QI n0 h0 (vi 1)) := by
  refine own_enter (plainFor_of_name pn_4) (L0 := (L_riiiu a1 42 0 3)) ?_
  intro p e s m below meth c s₁ hx hby hml hown hnm hret hZ X0 e0
  have N0 := Fr.nil n0
  obtain ⟨T9, L9, _, X9, ⟨rfl, N9q, e9q⟩, st9⟩ := own_callS X0 hx hZ hown (cw_11 hw) (rm24_4 hw a1 w2 p3 p4 p5 p6 p7 p8 Z0 P1 P2 P3 P4 P5) e0 (Ls := (L_riiii a1 42 0 3 0)) hml [vr a1, vi 0] [] pd_16 0 (hb hby d31_12)
  have N9 := Fr.app N0 N9q
  obtain ⟨T10, L10, _, X10, ⟨rfl, N10q, e10q⟩, st10⟩ := own_callS X9 hx hZ hown (cw_11 hw) (rm24_5 hw a1 w2 p3 p4 p5 p6 p7 p8 Z0 P1 P2 P3 P4 P5) e9q (Ls := (L_riiii a1 42 0 3 1)) hml [vr a1, vi 1] [] pd_16 0 (hb hby d31_12)
  have N10 := Fr.app N9 N10q
  refine ⟨T10, _, _, _, _, some (vi 1), X10, e10q, by decide, by decide, nofun, ⟨rfl, N10, rfl⟩, fun fs hr => ?_⟩
  refine own_b X0 hx hby tb31 7 [false] 12 (L_riiii a1 42 0 3 0) [vi 0, vr a1] (ai (by decide) rfl) ?_
  refine st9 _ ?_
  refine own_b X9 hx hby tb31 9 [true, false] 12 (L_riiii a1 42 0 3 1) [vi 1, vr a1] (ai (feq P6).2 (ai (by decide) rfl)) ?_
  refine st10 _ ?_
  refine own_b X10 hx hby tb31 3 [false] 21 _ [vi 1] (ai (teq H1).2 rfl) ?_
  exact retI X10 hx hret (hb hby d31_21) hr
theorem rm31_9 (hw : OW Z a0) (a1 : Addr) (w2 : ClassId) (p3 p4 p5 p6 p7 p8 : Int32) (Z0 : n0 ≤ h0.size) (P1 : ab2 Z (vi 1)) (P2 : Old Z n0 h0) (P3 : Arv Z h0 a1 w2 .byte (6 : Int32) [vi p3, vi p4, vi p5, vi p6, vi p7, vi p8] (vi 0)) (P4 : ab3 Z (vi 0)) (P5 : ab4 Z (vi 8)) (P6 : ¬ ((nar .char (va8 p3 p4)) = (42 : Int32))) (H1 : ¬ ((nar .char (va8 p5 p6)) = (42 : Int32))) (H2 : (nar .char (va8 p7 p8)) = (42 : Int32)) :
    M31 l Z ws (orm 1 0 0 13) #[vr a1, vi 42, vi 0, vi 3] h0 (QI n0 h0 (vi 2)) := by
  refine own_enter (plainFor_of_name pn_4) (L0 := (L_riiiu a1 42 0 3)) ?_
  intro p e s m below meth c s₁ hx hby hml hown hnm hret hZ X0 e0
  have N0 := Fr.nil n0
  obtain ⟨T9, L9, _, X9, ⟨rfl, N9q, e9q⟩, st9⟩ := own_callS X0 hx hZ hown (cw_11 hw) (rm24_4 hw a1 w2 p3 p4 p5 p6 p7 p8 Z0 P1 P2 P3 P4 P5) e0 (Ls := (L_riiii a1 42 0 3 0)) hml [vr a1, vi 0] [] pd_16 0 (hb hby d31_12)
  have N9 := Fr.app N0 N9q
  obtain ⟨T10, L10, _, X10, ⟨rfl, N10q, e10q⟩, st10⟩ := own_callS X9 hx hZ hown (cw_11 hw) (rm24_5 hw a1 w2 p3 p4 p5 p6 p7 p8 Z0 P1 P2 P3 P4 P5) e9q (Ls := (L_riiii a1 42 0 3 1)) hml [vr a1, vi 1] [] pd_16 0 (hb hby d31_12)
  have N10 := Fr.app N9 N10q
  obtain ⟨T11, L11, _, X11, ⟨rfl, N11q, e11q⟩, st11⟩ := own_callS X10 hx hZ hown (cw_11 hw) (rm24_6 hw a1 w2 p3 p4 p5 p6 p7 p8 Z0 P1 P2 P3 P4 P5) e10q (Ls := (L_riiii a1 42 0 3 2)) hml [vr a1, vi 2] [] pd_16 0 (hb hby d31_12)
  have N11 := Fr.app N10 N11q
  refine ⟨T11, _, _, _, _, some (vi 2), X11, e11q, by decide, by decide, nofun, ⟨rfl, N11, rfl⟩, fun fs hr => ?_⟩
  refine own_b X0 hx hby tb31 7 [false] 12 (L_riiii a1 42 0 3 0) [vi 0, vr a1] (ai (by decide) rfl) ?_
  refine st9 _ ?_
  refine own_b X9 hx hby tb31 9 [true, false] 12 (L_riiii a1 42 0 3 1) [vi 1, vr a1] (ai (feq P6).2 (ai (by decide) rfl)) ?_
  refine st10 _ ?_
  refine own_b X10 hx hby tb31 9 [true, false] 12 (L_riiii a1 42 0 3 2) [vi 2, vr a1] (ai (feq H1).2 (ai (by decide) rfl)) ?_
  refine st11 _ ?_
  refine own_b X11 hx hby tb31 3 [false] 21 _ [vi 2] (ai (teq H2).2 rfl) ?_
  exact retI X11 hx hret (hb hby d31_21) hr
theorem rm31_10 (hw : OW Z a0) (a1 : Addr) (w2 : ClassId) (p3 p4 p5 p6 p7 p8 : Int32) (Z0 : n0 ≤ h0.size) (P1 : ab2 Z (vi 1)) (P2 : Old Z n0 h0) (P3 : Arv Z h0 a1 w2 .byte (6 : Int32) [vi p3, vi p4, vi p5, vi p6, vi p7, vi p8] (vi 0)) (P4 : ab3 Z (vi 0)) (P5 : ab4 Z (vi 8)) (P6 : ¬ ((nar .char (va8 p3 p4)) = (42 : Int32))) (H1 : ¬ ((nar .char (va8 p5 p6)) = (42 : Int32))) (H2 : ¬ ((nar .char (va8 p7 p8)) = (42 : Int32))) :
    M31 l Z ws (orm 1 0 0 13) #[vr a1, vi 42, vi 0, vi 3] h0 (QI n0 h0 (vi (-1))) := by
  refine own_enter (plainFor_of_name pn_4) (L0 := (L_riiiu a1 42 0 3)) ?_
  intro p e s m below meth c s₁ hx hby hml hown hnm hret hZ X0 e0
  have N0 := Fr.nil n0
  obtain ⟨T9, L9, _, X9, ⟨rfl, N9q, e9q⟩, st9⟩ := own_callS X0 hx hZ hown (cw_11 hw) (rm24_4 hw a1 w2 p3 p4 p5 p6 p7 p8 Z0 P1 P2 P3 P4 P5) e0 (Ls := (L_riiii a1 42 0 3 0)) hml [vr a1, vi 0] [] pd_16 0 (hb hby d31_12)
  have N9 := Fr.app N0 N9q
  obtain ⟨T10, L10, _, X10, ⟨rfl, N10q, e10q⟩, st10⟩ := own_callS X9 hx hZ hown (cw_11 hw) (rm24_5 hw a1 w2 p3 p4 p5 p6 p7 p8 Z0 P1 P2 P3 P4 P5) e9q (Ls := (L_riiii a1 42 0 3 1)) hml [vr a1, vi 1] [] pd_16 0 (hb hby d31_12)
  have N10 := Fr.app N9 N10q
  obtain ⟨T11, L11, _, X11, ⟨rfl, N11q, e11q⟩, st11⟩ := own_callS X10 hx hZ hown (cw_11 hw) (rm24_6 hw a1 w2 p3 p4 p5 p6 p7 p8 Z0 P1 P2 P3 P4 P5) e10q (Ls := (L_riiii a1 42 0 3 2)) hml [vr a1, vi 2] [] pd_16 0 (hb hby d31_12)
  have N11 := Fr.app N10 N11q
  refine ⟨T11, _, _, _, _, some (vi (-1)), X11, e11q, by decide, by decide, nofun, ⟨rfl, N11, rfl⟩, fun fs hr => ?_⟩
  refine own_b X0 hx hby tb31 7 [false] 12 (L_riiii a1 42 0 3 0) [vi 0, vr a1] (ai (by decide) rfl) ?_
  refine st9 _ ?_
  refine own_b X9 hx hby tb31 9 [true, false] 12 (L_riiii a1 42 0 3 1) [vi 1, vr a1] (ai (feq P6).2 (ai (by decide) rfl)) ?_
  refine st10 _ ?_
  refine own_b X10 hx hby tb31 9 [true, false] 12 (L_riiii a1 42 0 3 2) [vi 2, vr a1] (ai (feq H1).2 (ai (by decide) rfl)) ?_
  refine st11 _ ?_
  refine own_b X11 hx hby tb31 8 [true, true] 29 (L_riiii a1 42 0 3 3) [vi (-1)] (ai (feq H2).2 (ai (by decide) rfl)) ?_
  exact retI X11 hx hret (hb hby d31_29) hr
theorem rm31_11 (hw : OW Z a0) (a1 : Addr) (w2 : ClassId) (p3 p4 p5 p6 p7 p8 : Int32) (Z0 : n0 ≤ h0.size) (P1 : ab2 Z (vi 1)) (P2 : Old Z n0 h0) (P3 : Arv Z h0 a1 w2 .byte (6 : Int32) [vi p3, vi p4, vi p5, vi p6, vi p7, vi p8] (vi 0)) (P4 : ab3 Z (vi 0)) (P5 : ab4 Z (vi 8)) (P6 : ¬ ((nar .char (va8 p3 p4)) = (42 : Int32))) :
    M31 l Z ws (orm 1 0 0 13) #[vr a1, vi 42, vi 0, vi 3] h0 (QI n0 h0 (vi (va25 p5 p6 p7 p8))) := by
  by_cases H1 : (nar .char (va8 p5 p6)) = (42 : Int32)
  ·
    rw [show (va25 p5 p6 p7 p8) = (1 : Int32) from by simp only [va25, if_pos H1]]
    exact rm31_8 hw a1 w2 p3 p4 p5 p6 p7 p8 Z0 P1 P2 P3 P4 P5 P6 H1
  ·
    by_cases H2 : (nar .char (va8 p7 p8)) = (42 : Int32)
    ·
      rw [show (va25 p5 p6 p7 p8) = (2 : Int32) from by simp only [va25, if_neg H1, if_pos H2]]
      exact rm31_9 hw a1 w2 p3 p4 p5 p6 p7 p8 Z0 P1 P2 P3 P4 P5 P6 H1 H2
    ·
      rw [show (va25 p5 p6 p7 p8) = (-1 : Int32) from by simp only [va25, if_neg H1, if_neg H2]]
      exact rm31_10 hw a1 w2 p3 p4 p5 p6 p7 p8 Z0 P1 P2 P3 P4 P5 P6 H1 H2
theorem rm26_4 (hw : OW Z a0) (a1 : Addr) (w2 : ClassId) (p3 p4 p5 p6 p7 p8 : Int32) (a9 : Value) (Z0 : n0 ≤ h0.size) (P1 : Arv Z h0 a1 w2 .byte (6 : Int32) [vi p3, vi p4, vi p5, vi p6, vi p7, vi p8] (vi 0)) (P2 : ab5 Z a9) (P3 : Old Z n0 h0) (P4 : a9.isRef = true) (P5 : ab2 Z (vi 1)) (P6 : ab3 Z (vi 0)) (P7 : ab4 Z (vi 8)) (P8 : ¬ ((nar .char (va8 p3 p4)) = (42 : Int32))) :
    M26 l Z ws (orm 3 0 0 43) #[vr a1, vi 42, vi 0, vi 3] h0 (QI n0 h0 (vi (va25 p5 p6 p7 p8))) := by
  refine own_enter (plainFor_of_name pn_4) (L0 := (L_riii a1 42 0 3)) ?_
  intro p e s m below meth c s₁ hx hby hml hown hnm hret hZ X0 e0
  have N0 := Fr.nil n0
  obtain ⟨T10, L10, _, X10, ⟨rfl, N10q, e10q⟩, st10⟩ := own_callS X0 hx hZ hown (cw_22 hw) (rm27_3 hw a1 w2 p3 p4 p5 p6 p7 p8 a9 Z0 P1 P2 P3 P4) e0 (Ls := (L_riii a1 42 0 3)) hml [vi 0, vi 3, vr a1] [] pd_21 0 (hb hby d26_3)
  have N10 := Fr.app N0 N10q
  obtain ⟨T11, L11, _, X11, ⟨rfl, N11q, e11q⟩, st11⟩ := own_callS X10 hx hZ hown (cw_23 hw) (rm31_11 hw a1 w2 p3 p4 p5 p6 p7 p8 Z0 P5 P3 P1 P6 P7 P8) e10q (Ls := (L_riii a1 42 0 3)) hml [vr a1, vi 42, vi 0, vi 3] [] pd_9 0 (hb hby d26_10)
  have N11 := Fr.app N10 N11q
  refine ⟨T11, _, _, _, _, some (vi (va25 p5 p6 p7 p8)), X11, e11q, by decide, by decide, nofun, ⟨rfl, N11, rfl⟩, fun fs hr => ?_⟩
  refine own_b X0 hx hby tb26 3 [] 3 _ [vr a1, vi 3, vi 0] rfl ?_
  refine st10 _ ?_
  refine own_b X10 hx hby tb26 4 [] 10 _ [vi 3, vi 0, vi 42, vr a1] rfl ?_
  refine st11 _ ?_
  exact retI X11 hx hret (hb hby d26_13) hr
theorem rm25_4 (hw : OW Z a0) (a1 : Addr) (w3 : ClassId) (p4 p5 p6 p7 p8 p9 : Int32) (a11 : Value) (Z0 : n0 ≤ h0.size) (P1 : Arv Z h0 a1 w3 .byte (6 : Int32) [vi p4, vi p5, vi p6, vi p7, vi p8, vi p9] (vi 0)) (P2 : ab5 Z a11) (P3 : Old Z n0 h0) (P4 : a11.isRef = true) (P5 : ab2 Z (vi 1)) (P6 : ab3 Z (vi 0)) (P7 : ab4 Z (vi 8)) (P8 : ¬ ((nar .char (va8 p4 p5)) = (42 : Int32))) :
    M25 l Z ws (orm 4 0 0 58) #[vr a1, vi 42, vi 0, vi 3] h0 (QI n0 h0 (vi (va25 p6 p7 p8 p9))) := by
  refine own_enter (plainFor_of_name pn_4) (L0 := (L_riii a1 42 0 3)) ?_
  intro p e s m below meth c s₁ hx hby hml hown hnm hret hZ X0 e0
  have N0 := Fr.nil n0
  obtain ⟨T2, L2, _, X2, ⟨rfl, N2q, e2q⟩, st2⟩ := own_callS X0 hx hZ hown (cw_17 hw) (rm14_1 hw  Z0 ) e0 (Ls := (L_riii a1 42 0 3)) hml [vi 0, vi 0] [] pd_8 0 (hb hby d25_2)
  have N2 := Fr.app N0 N2q
  obtain ⟨T10, L10, _, X10, ⟨rfl, N10q, e10q⟩, st10⟩ := own_callS X2 hx hZ hown (cw_18 hw) (rm15_4 hw  Z0 ) e2q (Ls := (L_riii a1 42 0 3)) hml [vi 3, vi 3] [] pd_8 0 (hb hby d25_11)
  have N10 := Fr.app N2 N10q
  obtain ⟨T12, L12, _, X12, ⟨rfl, N12q, e12q⟩, st12⟩ := own_callS X10 hx hZ hown (cw_24 hw) (rm26_4 hw a1 w3 p4 p5 p6 p7 p8 p9 a11 Z0 P1 P2 P3 P4 P5 P6 P7 P8) e10q (Ls := (L_riii a1 42 0 3)) hml [vr a1, vi 42, vi 0, vi 3] [] pd_9 0 (hb hby d25_32)
  have N12 := Fr.app N10 N12q
  refine ⟨T12, _, _, _, _, some (vi (va25 p6 p7 p8 p9)), X12, e12q, by decide, by decide, nofun, ⟨rfl, N12, rfl⟩, fun fs hr => ?_⟩
  refine own_b X0 hx hby tb25 2 [] 2 _ [vi 0, vi 0] rfl ?_
  refine st2 _ ?_
  refine own_a X2 hx hZ e2q hby tb25 (aec P1 aen) 6 [] [0] 11 (L_riii a1 42 0 3) [vi 3, vi 3] (ai rfl rfl) ?_
  refine st10 _ ?_
  refine own_b X10 hx hby tb25 5 [true] 23 (L_riii a1 42 0 3) [vi 42] (ai (by decide) rfl) ?_
  refine X10.ldcInt hx hown (mvT hZ (tw_112 hw)) (g := (mkF m 23 (L_riii a1 42 0 3) [vi 42])) rfl (hb hby d25_23) _ ?_
  show OS p e below T10 m 25 (L_riii a1 42 0 3) [vi 65536, vi 42] _
  refine own_b X10 hx hby tb25 5 [false] 32 _ [vi 3, vi 0, vi 42, vr a1] (ai (by decide) rfl) ?_
  refine st12 _ ?_
  exact retI X12 hx hret (hb hby d25_35) hr
theorem rm8_7 (hw : OW Z a0) (a1 : Addr) (p2 : Int32) (a4 : Addr) (w6 : ClassId) (p7 p8 p9 p10 p11 p12 : Int32) (a14 : Value) (Z0 : n0 ≤ h0.size) (P1 : ab8 Z h0 a1) (P2 : ab1 Z (vi p2)) (P3 : Old Z n0 h0) (P4 : ¬ (p2 = (0 : Int32))) (P5 : ab6 Z h0 a1 (vi 1)) (P6 : ab7 Z h0 a1 (vr a4)) (P7 : Arv Z h0 a4 w6 .byte (6 : Int32) [vi p7, vi p8, vi p9, vi p10, vi p11, vi p12] (vi 0)) (P8 : ab5 Z a14) (P9 : a14.isRef = true) (P10 : ab2 Z (vi 1)) (P11 : ab3 Z (vi 0)) (P12 : ab4 Z (vi 8)) (P13 : ¬ ((nar .char (va8 p7 p8)) = (42 : Int32))) :
    M8 l Z ws (orm 5 0 0 73) #[vr a1, vi 42, vi 0] h0 (QI n0 h0 (vi (va25 p9 p10 p11 p12))) := by
  refine own_enter (plainFor_of_name pn_1) (L0 := (L_rii a1 42 0)) ?_
  intro p e s m below meth c s₁ hx hby hml hown hnm hret hZ X0 e0
  have N0 := Fr.nil n0
  obtain ⟨T3, L3, _, X3, ⟨rfl, N3q, e3q⟩, st3⟩ := own_callV X0 hx hZ hown (tw_44 hw) (tw_45 hw) (notFace_of_selects (args := #[]) (mvT hZ (tw_47 hw))) (tw_47 hw) (tw_46 hw) (tw_10 hw) (tw_48 hw) (rm9_2 hw a1 p2 Z0 P2 P3 P4 P5) e0 P1 (Ls := (L_rii a1 42 0)) hml [] [] pd_4 0 (hb hby d8_1)
  have N3 := Fr.app N0 N3q
  obtain ⟨T5, X5, e5, st5⟩ := getF X3 hx hZ hown (host := "") (Or.inl (tw_28 hw)) Via.refl e3q P6 (g := (mkF m 24 (L_rii a1 42 0) [vr a1])) rfl rfl (hb hby d8_24)
  obtain ⟨T13, L13, _, X13, ⟨rfl, N13q, e13q⟩, st13⟩ := own_callV X5 hx hZ hown (tw_50 hw) (tw_51 hw) (notFace_of_selects (args := #[]) (mvT hZ (tw_53 hw))) (tw_53 hw) (tw_52 hw) (tw_10 hw) (tw_54 hw) (rm10_6 hw a1 a4 w6 p7 p8 p9 p10 p11 p12 p2 Z0 P6 P7 P1 P2 P3 P4 P5) e5 P1 (Ls := (L_rii a1 42 0)) hml [] [vi 0, vi 42, vr a4] pd_6 3 (hb hby d8_30)
  have N13 := Fr.app N3 N13q
  obtain ⟨T15, L15, _, X15, ⟨rfl, N15q, e15q⟩, st15⟩ := own_callS X13 hx hZ hown (cw_25 hw) (rm25_4 hw a4 w6 p7 p8 p9 p10 p11 p12 a14 Z0 P7 P8 P3 P9 P10 P11 P12 P13) e13q (Ls := (L_rii a1 42 0)) hml [vr a4, vi 42, vi 0, vi 3] [] pd_9 0 (hb hby d8_33)
  have N15 := Fr.app N13 N15q
  refine ⟨T15, _, _, _, _, some (vi (va25 p9 p10 p11 p12)), X15, e15q, by decide, by decide, nofun, ⟨rfl, N15, rfl⟩, fun fs hr => ?_⟩
  refine own_b X0 hx hby tb8 1 [] 1 _ [vr a1] rfl ?_
  refine st3 _ ?_
  refine own_b X3 hx hby tb8 2 [true] 24 _ [vr a1] (ai (by decide) rfl) ?_
  refine st5 _ ?_
  refine own_b X5 hx hby tb8 3 [] 30 _ [vr a1, vi 0, vi 42, vr a4] rfl ?_
  refine st13 _ ?_
  refine st15 _ ?_
  exact retI X15 hx hret (hb hby d8_36) hr
theorem rm7_7 (hw : OW Z a0) (a1 : Addr) (p2 : Int32) (a3 : Addr) (w4 : ClassId) (p5 p6 p7 p8 p9 p10 : Int32) (a11 : Value) (Z0 : n0 ≤ h0.size) (P1 : ab8 Z h0 a1) (P2 : ab1 Z (vi p2)) (P3 : Old Z n0 h0) (P4 : ¬ (p2 = (0 : Int32))) (P5 : ab6 Z h0 a1 (vi 1)) (P6 : ab7 Z h0 a1 (vr a3)) (P7 : Arv Z h0 a3 w4 .byte (6 : Int32) [vi p5, vi p6, vi p7, vi p8, vi p9, vi p10] (vi 0)) (P8 : ab5 Z a11) (P9 : a11.isRef = true) (P10 : ab2 Z (vi 1)) (P11 : ab3 Z (vi 0)) (P12 : ab4 Z (vi 8)) (P13 : ¬ ((nar .char (va8 p5 p6)) = (42 : Int32))) :
    M7 l Z ws (orm 6 0 0 87) #[vr a1, vi 42] h0 (QI n0 h0 (vi (va25 p7 p8 p9 p10))) := by
  refine own_enter (plainFor_of_name pn_1) (L0 := (L_ri a1 42)) ?_
  intro p e s m below meth c s₁ hx hby hml hown hnm hret hZ X0 e0
  have N0 := Fr.nil n0
  obtain ⟨T12, L12, _, X12, ⟨rfl, N12q, e12q⟩, st12⟩ := own_callV X0 hx hZ hown (tw_39 hw) (tw_40 hw) (notFace_of_selects (args := #[]) (mvT hZ (tw_42 hw))) (tw_42 hw) (tw_41 hw) (tw_10 hw) (tw_43 hw) (rm8_7 hw a1 p2 a3 w4 p5 p6 p7 p8 p9 p10 a11 Z0 P1 P2 P3 P4 P5 P6 P7 P8 P9 P10 P11 P12 P13) e0 P1 (Ls := (L_ri a1 42)) hml [vi 42, vi 0] [] pd_8 0 (hb hby d7_3)
  have N12 := Fr.app N0 N12q
  refine ⟨T12, _, _, _, _, some (vi (va25 p7 p8 p9 p10)), X12, e12q, by decide, by decide, nofun, ⟨rfl, N12, rfl⟩, fun fs hr => ?_⟩
  refine own_b X0 hx hby tb7 3 [] 3 _ [vi 0, vi 42, vr a1] rfl ?_
  refine st12 _ ?_
  exact retI X12 hx hret (hb hby d7_6) hr
theorem rm6_15 (hw : OW Z a0) (a1 : Addr) (p2 : Int32) (a3 : Addr) (w4 : ClassId) (p5 p6 p7 p8 p9 p10 : Int32) (a11 : Value) (Z0 : n0 ≤ h0.size) (P1 : ab8 Z h0 a1) (P2 : ab1 Z (vi p2)) (P3 : Old Z n0 h0) (P4 : ¬ (p2 = (0 : Int32))) (P5 : ab6 Z h0 a1 (vi 1)) (P6 : ab7 Z h0 a1 (vr a3)) (P7 : Arv Z h0 a3 w4 .byte (6 : Int32) [vi p5, vi p6, vi p7, vi p8, vi p9, vi p10] (vi 0)) (P8 : ab5 Z a11) (P9 : a11.isRef = true) (P10 : ab2 Z (vi 1)) (P11 : ab3 Z (vi 0)) (P12 : ab4 Z (vi 8)) (P13 : ¬ ((nar .char (va8 p5 p6)) = (42 : Int32))) (H1 : (va25 p7 p8 p9 p10) < (0 : Int32)) :
    M6 l Z ws (orm 7 0 0 100) #[vr a1] h0 (QI n0 h0 (vi 0)) := by
  refine own_enter (plainFor_of_name pn_3) (L0 := #[sr a1]) ?_
  intro p e s m below meth c s₁ hx hby hml hown hnm hret hZ X0 e0
  have N0 := Fr.nil n0
  obtain ⟨T12, L12, _, X12, ⟨rfl, N12q, e12q⟩, st12⟩ := own_callV X0 hx hZ hown (tw_34 hw) (tw_35 hw) (notFace_of_selects (args := #[]) (mvT hZ (tw_37 hw))) (tw_37 hw) (tw_36 hw) (tw_10 hw) (tw_38 hw) (rm7_7 hw a1 p2 a3 w4 p5 p6 p7 p8 p9 p10 a11 Z0 P1 P2 P3 P4 P5 P6 P7 P8 P9 P10 P11 P12 P13) e0 P1 (Ls := #[sr a1]) hml [vi 42] [] pd_10 0 (hb hby d6_3)
  have N12 := Fr.app N0 N12q
  refine ⟨T12, _, _, _, _, some (vi 0), X12, e12q, by decide, by decide, nofun, ⟨rfl, N12, rfl⟩, fun fs hr => ?_⟩
  refine own_b X0 hx hby tb6 2 [] 3 _ [vi 42, vr a1] rfl ?_
  refine st12 _ ?_
  refine own_b X12 hx hby tb6 2 [true] 14 _ [vi 0] (ai (tlt H1).1 rfl) ?_
  exact retN X12 hx (t := .boolean) hret (by simp) (hb hby d6_14) hr
theorem rm6_16 (hw : OW Z a0) (a1 : Addr) (p2 : Int32) (a3 : Addr) (w4 : ClassId) (p5 p6 p7 p8 p9 p10 : Int32) (a11 : Value) (Z0 : n0 ≤ h0.size) (P1 : ab8 Z h0 a1) (P2 : ab1 Z (vi p2)) (P3 : Old Z n0 h0) (P4 : ¬ (p2 = (0 : Int32))) (P5 : ab6 Z h0 a1 (vi 1)) (P6 : ab7 Z h0 a1 (vr a3)) (P7 : Arv Z h0 a3 w4 .byte (6 : Int32) [vi p5, vi p6, vi p7, vi p8, vi p9, vi p10] (vi 0)) (P8 : ab5 Z a11) (P9 : a11.isRef = true) (P10 : ab2 Z (vi 1)) (P11 : ab3 Z (vi 0)) (P12 : ab4 Z (vi 8)) (P13 : ¬ ((nar .char (va8 p5 p6)) = (42 : Int32))) (H1 : ¬ ((va25 p7 p8 p9 p10) < (0 : Int32))) :
    M6 l Z ws (orm 7 0 0 100) #[vr a1] h0 (QI n0 h0 (vi 1)) := by
  refine own_enter (plainFor_of_name pn_3) (L0 := #[sr a1]) ?_
  intro p e s m below meth c s₁ hx hby hml hown hnm hret hZ X0 e0
  have N0 := Fr.nil n0
  obtain ⟨T12, L12, _, X12, ⟨rfl, N12q, e12q⟩, st12⟩ := own_callV X0 hx hZ hown (tw_34 hw) (tw_35 hw) (notFace_of_selects (args := #[]) (mvT hZ (tw_37 hw))) (tw_37 hw) (tw_36 hw) (tw_10 hw) (tw_38 hw) (rm7_7 hw a1 p2 a3 w4 p5 p6 p7 p8 p9 p10 a11 Z0 P1 P2 P3 P4 P5 P6 P7 P8 P9 P10 P11 P12 P13) e0 P1 (Ls := #[sr a1]) hml [vi 42] [] pd_10 0 (hb hby d6_3)
  have N12 := Fr.app N0 N12q
  refine ⟨T12, _, _, _, _, some (vi 1), X12, e12q, by decide, by decide, nofun, ⟨rfl, N12, rfl⟩, fun fs hr => ?_⟩
  refine own_b X0 hx hby tb6 2 [] 3 _ [vi 42, vr a1] rfl ?_
  refine st12 _ ?_
  refine own_b X12 hx hby tb6 3 [false] 14 _ [vi 1] (ai (flt H1).1 rfl) ?_
  exact retN X12 hx (t := .boolean) hret (by simp) (hb hby d6_14) hr
theorem rm6_17 (hw : OW Z a0) (a1 : Addr) (p2 : Int32) (a3 : Addr) (w4 : ClassId) (p5 p6 p7 p8 p9 p10 : Int32) (a11 : Value) (Z0 : n0 ≤ h0.size) (P1 : ab8 Z h0 a1) (P2 : ab1 Z (vi p2)) (P3 : Old Z n0 h0) (P4 : ¬ (p2 = (0 : Int32))) (P5 : ab6 Z h0 a1 (vi 1)) (P6 : ab7 Z h0 a1 (vr a3)) (P7 : Arv Z h0 a3 w4 .byte (6 : Int32) [vi p5, vi p6, vi p7, vi p8, vi p9, vi p10] (vi 0)) (P8 : ab5 Z a11) (P9 : a11.isRef = true) (P10 : ab2 Z (vi 1)) (P11 : ab3 Z (vi 0)) (P12 : ab4 Z (vi 8)) (P13 : ¬ ((nar .char (va8 p5 p6)) = (42 : Int32))) :
    M6 l Z ws (orm 7 0 0 100) #[vr a1] h0 (QI n0 h0 (vi (va26 p7 p8 p9 p10))) := by
  by_cases H1 : (va25 p7 p8 p9 p10) < (0 : Int32)
  ·
    rw [show (va26 p7 p8 p9 p10) = (0 : Int32) from by simp only [va26, if_pos H1]]
    exact rm6_15 hw a1 p2 a3 w4 p5 p6 p7 p8 p9 p10 a11 Z0 P1 P2 P3 P4 P5 P6 P7 P8 P9 P10 P11 P12 P13 H1
  ·
    rw [show (va26 p7 p8 p9 p10) = (1 : Int32) from by simp only [va26, if_neg H1]]
    exact rm6_16 hw a1 p2 a3 w4 p5 p6 p7 p8 p9 p10 a11 Z0 P1 P2 P3 P4 P5 P6 P7 P8 P9 P10 P11 P12 P13 H1
theorem rm17_7 (hw : OW Z a0) (a1 a2 : Addr) (w3 : ClassId) (p4 p5 p6 : Int32) (w7 : ClassId) (Z0 : n0 ≤ h0.size) (P1 : Arv Z h0 a1 w3 .char (3 : Int32) [vi p4, vi p5, vi p6] (vi 0)) (P2 : ¬ ((255 : Int32) < p4)) (P3 : Arv Z h0 a2 w7 .byte (3 : Int32) [vi 0, vi 0, vi 0] (vi 0)) (P4 : n0 ≤ a2) (P5 : a1 ≠ a2) (P6 : (255 : Int32) < p5) :
    M17 l Z ws (orm 0 0 0 0) #[vr a1, vi 0, vr a2, vi 0, vi 3] h0 (fun v h L => v = some (vi 1) ∧ Fr n0 L ∧ Keep h0 h [a2] ∧ Arv Z h a2 w7 .byte (3 : Int32) [vi ((p4.toInt8.toInt32).toInt8.toInt32), vi 0, vi 0] (vi 0)) := by
  refine own_enter (plainFor_of_name pn_4) (L0 := (L_ririiuu a1 0 a2 0 3)) ?_
  intro p e s m below meth c s₁ hx hby hml hown hnm hret hZ X0 e0
  have N0 := Fr.nil n0
  obtain ⟨T8, h8, X8, e8, W8, V8, st8⟩ := own_stB X0 hx hZ e0 P3 (j := (0 : Int32)) (x := (p4.toInt8.toInt32)) (by decide) 0 rfl (Nat.le_of_ble_eq_true rfl) (Ls := (L_ririiii a1 0 a2 0 3 0 p4)) (rest := []) (hb hby d17_31)
  have N8 := Fr.snoc X8 N0 P4
  have F9 := (Arv.other P1 W8 P5)
  have K10 := (Keep.refl h0 [a2]).wr W8 (Or.inl (List.mem_of_getElem? (i := 0) rfl))
  refine ⟨T8, _, _, _, _, some (vi 1), X8, e8, by decide, by decide, nofun, ⟨rfl, N8, K10, V8⟩, fun fs hr => ?_⟩
  refine own_a X0 hx hZ e0 hby tb17 (aec P1 aen) 16 [false, true] [0] 31 (L_ririiii a1 0 a2 0 3 0 p4) [vi (p4.toInt8.toInt32), vi 0, vr a2] (ai (by decide) (ai rfl (ai (flt P2).2.2.2 rfl))) ?_
  refine st8 _ ?_
  refine own_a X8 hx hZ e8 hby tb17 (aec F9 aen) 15 [false, false] [0] 25 (L_ririiii a1 1 a2 1 3 1 p5) [vi 1] (ai (by decide) (ai rfl (ai (tlt P6).2.2.2 rfl))) ?_
  exact retI X8 hx hret (hb hby d17_25) hr
theorem rm16_7 (hw : OW Z a0) (a1 : Addr) (w4 : ClassId) (p5 p6 p7 : Int32) (Z0 : n0 ≤ h0.size) (P1 : Arv Z h0 a1 w4 .char (3 : Int32) [vi p5, vi p6, vi p7] (vi 0)) (P2 : ¬ ((255 : Int32) < p5)) (P3 : (255 : Int32) < p6) (P4 : ab2 Z (vi 1)) (P5 : Old Z n0 h0) (P6 : ab3 Z (vi 0)) (P7 : ab4 Z (vi 8)) (P8 : (255 : Int32) < (nar .char (va8 ((va4 p6).toInt8.toInt32) ((va5 p6).toInt8.toInt32)))) :
    M16 l Z ws (orm 3 2 9 40) #[vr a1, vi 0, vi 3] h0 (fun v h L => ∃ b14 : Addr, ∃ kk13_0 : ClassId, v = some (vr b14) ∧ Fr n0 L ∧ Keep h0 h [] ∧ n0 ≤ b14 ∧ h0.size ≤ b14 ∧ Arv Z h b14 kk13_0 .byte (6 : Int32) [vi ((va4 p5).toInt8.toInt32), vi ((va5 p5).toInt8.toInt32), vi ((va4 p6).toInt8.toInt32), vi ((va5 p6).toInt8.toInt32), vi ((va4 p7).toInt8.toInt32), vi ((va5 p7).toInt8.toInt32)] (vi 0)) := by
  refine own_enter (plainFor_of_name pn_4) (L0 := (L_riiuuu a1 0 3)) ?_
  intro p e s m below meth c s₁ hx hby hml hown hnm hret hZ X0 e0
  have N0 := Fr.nil n0
  obtain ⟨T3, h3, b2, k3, X3, e3, E3, g3, V3, st3⟩ := own_newP X0 hx hZ (tw_23 hw) e0 (n := (3 : Int32)) (k := 3) (d := (vi 0)) (vs := [vi 0, vi 0, vi 0]) (Ls := (L_riiuuu a1 0 3)) (S := []) (hb hby d16_1)
  have q3 := Nat.le_trans Z0 g3
  have z3 := Nat.le_trans (Nat.le_refl h0.size) g3
  have F8 := (P1.ext E3)
  have n9 := Nat.ne_of_lt (Nat.lt_of_lt_of_le P1.lt g3)
  obtain ⟨T10, L10, _, X10, ⟨rfl, N10q, K10, f10_0⟩, st10⟩ := own_callS X3 hx hZ hown (cw_6 hw) (rm17_7 hw a1 b2 w4 p5 p6 p7 k3 (Nat.le_trans Z0 E3.1) F8 P2 V3 q3 n9 P3) e3 (Ls := (L_riiruu a1 0 3 b2)) hml [vr a1, vi 0, vr b2, vi 0, vi 3] [] pd_12 0 (hb hby d16_9)
  have N10 := Fr.app N0 N10q
  have F11 := (Arv.keep F8 K10 (ninS n9 nin0))
  have F12 := ((P5.ext E3).keep K10 (allS q3 all0))
  obtain ⟨T13, L13, _, X13, ⟨b14, kk13_0, rfl, N13q, K13, qa13_0, qb13_0, f13_0⟩, st13⟩ := own_callS X10 hx hZ hown (cw_10 hw) (rm20_3 hw a1 w4 p5 p6 p7 (Nat.le_trans (Nat.le_trans Z0 E3.1) K10.1) F11 P4 F12 P6 P7) rfl (Ls := (L_riiriu a1 0 3 b2 1)) hml [vr a1, vi 0, vi 3] [] pd_15 0 (hb hby d16_23)
  have N13 := Fr.app N10 N13q
  have F15 := (Nat.le_trans (Nat.le_trans (Nat.le_refl h0.size) E3.1) K10.1)
  have qd13_0 := Nat.le_trans F15 qb13_0
  have F16 := (F12.keep K13 all0)
  have F18 := (Nat.le_trans (Nat.le_trans (Nat.le_trans Z0 E3.1) K10.1) K13.1)
  obtain ⟨T17, L17, _, X17, ⟨rfl, N17q, e17q⟩, st17⟩ := own_callS X13 hx hZ hown (cw_11 hw) (rm24_5 hw b14 kk13_0 ((va4 p5).toInt8.toInt32) ((va5 p5).toInt8.toInt32) ((va4 p6).toInt8.toInt32) ((va5 p6).toInt8.toInt32) ((va4 p7).toInt8.toInt32) ((va5 p7).toInt8.toInt32) F18 P4 F16 f13_0 P6 P7) rfl (Ls := (L_riirir a1 0 3 b2 1 b14)) hml [vr b14, vi 1] [] pd_16 0 (hb hby d16_32)
  have N17 := Fr.app N13 N17q
  have K19 := (Keep.refl h0 []).ext E3
  have K20 := K19.trans K10 (allS (Or.inr z3) all0)
  have K21 := K20.trans K13 all0
  refine ⟨T17, _, _, _, _, some (vr b14), X17, e17q, by decide, by decide, nofun, ⟨b14, kk13_0, rfl, N17, K21, qa13_0, qd13_0, f13_0⟩, fun fs hr => ?_⟩
  refine own_b X0 hx hby tb16 1 [] 1 _ [vi 3] rfl ?_
  refine st3 _ ?_
  refine own_b X3 hx hby tb16 6 [] 9 (L_riiruu a1 0 3 b2) [vi 3, vi 0, vr b2, vi 0, vr a1] rfl ?_
  refine st10 _ ?_
  refine own_b X10 hx hby tb16 7 [false] 23 (L_riiriu a1 0 3 b2 1) [vi 3, vi 0, vr a1] (ai (by decide) rfl) ?_
  refine st13 _ ?_
  refine own_b X13 hx hby tb16 3 [] 32 (L_riirir a1 0 3 b2 1 b14) [vi 1, vr b14] rfl ?_
  refine st17 _ ?_
  refine own_b X17 hx hby tb16 3 [true] 56 _ [vr b14] (ai (tlt P8).2.2.1 rfl) ?_
  exact own_retA X17 hx hret rfl (hb hby d16_56) hr
theorem rm4_8 (hw : OW Z a0) (a1 a2 : Addr) (p4 : Int32) (w6 : ClassId) (p7 p8 p9 : Int32) (Z0 : n0 ≤ h0.size) (P1 : ab1 Z (vi p4)) (P2 : Old Z n0 h0) (P3 : ¬ (p4 = (0 : Int32))) (P4 : Arv Z h0 a2 w6 .char (3 : Int32) [vi p7, vi p8, vi p9] (vi 0)) (P5 : ¬ ((255 : Int32) < p7)) (P6 : (255 : Int32) < p8) (P7 : ab2 Z (vi 1)) (P8 : ab3 Z (vi 0)) (P9 : ab4 Z (vi 8)) (P10 : (255 : Int32) < (nar .char (va8 ((va4 p8).toInt8.toInt32) ((va5 p8).toInt8.toInt32)))) (P11 : ab6 Z h0 a1 (vi 0)) (P12 : ab8 Z h0 a1) (P13 : n0 ≤ a1) (P14 : ab7 Z h0 a1 .null) :
    M4 l Z ws (orm 4 2 9 57) #[vr a1, vr a2, vi 0, vi 3, .null] h0 (fun v h L => ∃ b11 : Addr, ∃ kk10_0 : ClassId, v = none ∧ Fr n0 L ∧ Keep h0 h [a1] ∧ n0 ≤ b11 ∧ h0.size ≤ b11 ∧ ab6 Z h a1 (vi 1) ∧ ab7 Z h a1 (vr b11) ∧ Arv Z h b11 kk10_0 .byte (6 : Int32) [vi ((va4 p7).toInt8.toInt32), vi ((va5 p7).toInt8.toInt32), vi ((va4 p8).toInt8.toInt32), vi ((va5 p8).toInt8.toInt32), vi ((va4 p9).toInt8.toInt32), vi ((va5 p9).toInt8.toInt32)] (vi 0)) := by
  refine own_enter (plainFor_of_name pn_1) (L0 := (L_rriinu a1 a2 0 3)) ?_
  intro p e s m below meth c s₁ hx hby hml hown hnm hret hZ X0 e0
  have N0 := Fr.nil n0
  obtain ⟨T3, X3, e3, st3⟩ := initO X0 hx hZ hown (tw_19 hw) (tw_20 hw) (tw_21 hw) e0 (g := (mkF m 1 (L_rriinu a1 a2 0 3) [vr a1])) rfl (by rw [hml]; rfl) rfl (hb hby d4_1) (by decide) (W := 0) (by show 2 * 0 + _ ≤ _; exact Nat.le_of_eq rfl) (by decide)
  obtain ⟨T5, X5, e5, st5⟩ := getS2 X3 hx hZ hown (host := "") (Or.inl (tw_49 hw)) Via.refl e3 (Sta.ext P2.2 P1) (g := (mkF m 27 (L_rriinu a1 a2 0 3) [])) rfl (hb hby d4_27)
  obtain ⟨T10, L10, _, X10, ⟨b11, kk10_0, rfl, N10q, K10, qa10_0, qb10_0, f10_0⟩, st10⟩ := own_callS X5 hx hZ hown (cw_12 hw) (rm16_7 hw a2 w6 p7 p8 p9 Z0 P4 P5 P6 P7 P2 P8 P9 P10) e5 (Ls := (L_rriinu a1 a2 0 3)) hml [vr a2, vi 0, vi 3] [] pd_15 0 (hb hby d4_36)
  have N10 := Fr.app N0 N10q
  have qd10_0 := Nat.le_trans (Nat.le_refl h0.size) qb10_0
  obtain ⟨T12, L12, _, X12, ⟨rfl, N12q, e12q⟩, st12⟩ := own_callS X10 hx hZ hown (cw_13 hw) (rm18_5 hw b11 kk10_0 ((va4 p7).toInt8.toInt32) ((va5 p7).toInt8.toInt32) ((va4 p8).toInt8.toInt32) ((va5 p8).toInt8.toInt32) ((va4 p9).toInt8.toInt32) ((va5 p9).toInt8.toInt32) (Nat.le_trans Z0 K10.1) f10_0) rfl (Ls := (L_rriinr a1 a2 0 3 b11)) hml [vr b11, vi 3] [vr a1] pd_17 1 (hb hby d4_45)
  have N12 := Fr.app N10 N12q
  have F13 := (Fld.keep P11 K10 nin0)
  have F14 := (Exa.keep P12 K10)
  obtain ⟨T15, h15, X15, e15, W15, st15⟩ := putF X12 hx hZ hown (host := "") (Or.inl (tw_29 hw)) Via.refl e12q F13 F14 (Or.inr ⟨(tw_25 hw), rfl, hnm⟩) (tw_9 hw) (ty := .byte) (by decide) rfl rfl (g := (mkF m 48 (L_rriinr a1 a2 0 3 b11) [vi 1, vr a1])) rfl rfl (hb hby d4_48)
  have N15 := Fr.snoc X15 N12 P13
  have Fw15 := Fld.same W15 F13
  have F16 := (Fld.other W15 (Fld.keep P14 K10 nin0) (Or.inr (slot_ne (Or.inr (tw_24 hw)) (Or.inr (tw_25 hw)) (by decide) (t := (.array .byte)) (t' := .byte) (by decide) (by decide))))
  have F17 := (Exa.wr W15 F14)
  obtain ⟨T18, h18, X18, e18, W18, st18⟩ := putF X15 hx hZ hown (host := "") (Or.inl (tw_28 hw)) Via.refl e15 F16 F17 (Or.inr ⟨(tw_24 hw), rfl, hnm⟩) (tw_9 hw) (ty := (.array .byte)) (by decide) rfl rfl (g := (mkF m 54 (L_rriinr a1 a2 0 3 b11) [vr b11, vr a1])) rfl rfl (hb hby d4_54)
  have N18 := Fr.snoc X18 N15 P13
  have Fw18 := Fld.same W18 F16
  have F19 := (Fld.other W18 Fw15 (Or.inr (slot_ne (Or.inr (tw_25 hw)) (Or.inr (tw_24 hw)) (by decide) (t := .byte) (t' := (.array .byte)) (by decide) (by decide))))
  have n20 := Nat.ne_of_lt (Nat.lt_of_lt_of_le P11.lt qb10_0)
  have F21 := (Arv.other (Arv.other f10_0 W15 (Ne.symm n20)) W18 (Ne.symm n20))
  have K22 := (Keep.refl h0 [a1]).trans K10 all0
  have K23 := K22.wr W15 (Or.inl (List.mem_of_getElem? (i := 0) rfl))
  have K24 := K23.wr W18 (Or.inl (List.mem_of_getElem? (i := 0) rfl))
  refine ⟨T18, _, _, _, _, none, X18, e18, by decide, by decide, (fun _ => rfl), ⟨b11, kk10_0, rfl, N18, K24, qa10_0, qd10_0, F19, Fw18, F21⟩, fun fs hr => ?_⟩
  refine own_b X0 hx hby tb4 1 [] 1 _ [vr a1] rfl ?_
  refine st3 _ ?_
  refine own_b X3 hx hby tb4 2 [true] 27 _ [] (ai (by decide) rfl) ?_
  refine st5 _ ?_
  refine own_b X5 hx hby tb4 4 [false] 36 _ [vi 3, vi 0, vr a2] (ai (feq P3).1 rfl) ?_
  refine st10 _ ?_
  refine own_b X10 hx hby tb4 4 [] 45 (L_rriinr a1 a2 0 3 b11) [vi 3, vr b11, vr a1] rfl ?_
  refine st12 _ ?_
  refine st15 _ ?_
  refine own_b X15 hx hby tb4 2 [] 54 _ [vr b11, vr a1] rfl ?_
  refine st18 _ ?_
  show OS p e below T18 m 57 (L_rriinr a1 a2 0 3 b11) [] _
  exact X18.returnOut hx hret (hb hby d4_57) hr
theorem rm3_8 (hw : OW Z a0) (a1 a2 : Addr) (w3 : ClassId) (p4 p5 p6 p7 : Int32) (Z0 : n0 ≤ h0.size) (P1 : Arv Z h0 a2 w3 .char (3 : Int32) [vi p4, vi p5, vi p6] (vi 0)) (P2 : ab1 Z (vi p7)) (P3 : Old Z n0 h0) (P4 : ¬ (p7 = (0 : Int32))) (P5 : ¬ ((255 : Int32) < p4)) (P6 : (255 : Int32) < p5) (P7 : ab2 Z (vi 1)) (P8 : ab3 Z (vi 0)) (P9 : ab4 Z (vi 8)) (P10 : (255 : Int32) < (nar .char (va8 ((va4 p5).toInt8.toInt32) ((va5 p5).toInt8.toInt32)))) (P11 : ab6 Z h0 a1 (vi 0)) (P12 : ab8 Z h0 a1) (P13 : n0 ≤ a1) (P14 : ab7 Z h0 a1 .null) :
    M3 l Z ws (orm 5 2 9 74) #[vr a1, vr a2] h0 (fun v h L => ∃ b9 : Addr, ∃ kk8_0 : ClassId, v = none ∧ Fr n0 L ∧ Keep h0 h [a1] ∧ n0 ≤ b9 ∧ h0.size ≤ b9 ∧ ab6 Z h a1 (vi 1) ∧ ab7 Z h a1 (vr b9) ∧ Arv Z h b9 kk8_0 .byte (6 : Int32) [vi ((va4 p4).toInt8.toInt32), vi ((va5 p4).toInt8.toInt32), vi ((va4 p5).toInt8.toInt32), vi ((va5 p5).toInt8.toInt32), vi ((va4 p6).toInt8.toInt32), vi ((va5 p6).toInt8.toInt32)] (vi 0)) := by
  refine own_enter (plainFor_of_name pn_1) (L0 := (L_rr a1 a2)) ?_
  intro p e s m below meth c s₁ hx hby hml hown hnm hret hZ X0 e0
  have N0 := Fr.nil n0
  obtain ⟨T8, L8, _, X8, ⟨b9, kk8_0, rfl, N8q, K8, qa8_0, qb8_0, f8_0, f8_1, f8_2⟩, st8⟩ := own_callI X0 hx hZ hown (cw_14 hw) (rm4_8 hw a1 a2 p7 w3 p4 p5 p6 Z0 P2 P3 P4 P1 P5 P6 P7 P8 P9 P10 P11 P12 P13 P14) e0 (Ls := (L_rr a1 a2)) hml a1 [vr a2, vi 0, vi 3, .null] [] pd_1 0 (hb hby d3_6)
  have N8 := Fr.app N0 N8q
  have qd8_0 := Nat.le_trans (Nat.le_refl h0.size) qb8_0
  have K10 := (Keep.refl h0 [a1]).trans K8 (allS (Or.inl (List.mem_of_getElem? (i := 0) rfl)) all0)
  refine ⟨T8, _, _, _, _, none, X8, rfl, by decide, by decide, (fun _ => rfl), ⟨b9, kk8_0, rfl, N8, K10, qa8_0, qd8_0, f8_0, f8_1, f8_2⟩, fun fs hr => ?_⟩
  refine own_a X0 hx hZ e0 hby tb3 (aec P1 aen) 6 [] [0] 6 _ [.null, vi 3, vi 0, vr a2, vr a1] (ai rfl rfl) ?_
  refine st8 _ ?_
  show OS p e below T8 m 9 (L_rr a1 a2) [] _
  exact X8.returnOut hx hret (hb hby d3_9) hr
theorem rm2_8 (hw : OW Z a0) (p1 p2 p3 p4 p14 : Int32) (Z0 : n0 ≤ h0.size) (P1 : ab1 Z (vi p14)) (P2 : Old Z n0 h0) (P3 : ¬ (p14 = (0 : Int32))) (P4 : ¬ ((255 : Int32) < (nar .char p1))) (P5 : (255 : Int32) < (nar .char p2)) (P6 : ab2 Z (vi 1)) (P7 : ab3 Z (vi 0)) (P8 : ab4 Z (vi 8)) (P9 : (255 : Int32) < (nar .char (va8 ((va4 (nar .char p2)).toInt8.toInt32) ((va5 (nar .char p2)).toInt8.toInt32)))) :
    M2 l Z ws (orm 6 4 16 88) #[vi 3, vi p1, vi p2, vi p3, vi p4] h0 (fun v h L => ∃ b5 : Addr, ∃ b22 : Addr, ∃ kk20_0 : ClassId, v = some (vr b5) ∧ Fr n0 L ∧ Keep h0 h [] ∧ n0 ≤ b5 ∧ h0.size ≤ b5 ∧ n0 ≤ b22 ∧ h0.size ≤ b22 ∧ b5 ≠ b22 ∧ ab8 Z h b5 ∧ ab6 Z h b5 (vi 1) ∧ ab7 Z h b5 (vr b22) ∧ Arv Z h b22 kk20_0 .byte (6 : Int32) [vi ((va4 (nar .char p1)).toInt8.toInt32), vi ((va5 (nar .char p1)).toInt8.toInt32), vi ((va4 (nar .char p2)).toInt8.toInt32), vi ((va5 (nar .char p2)).toInt8.toInt32), vi ((va4 (nar .char p3)).toInt8.toInt32), vi ((va5 (nar .char p3)).toInt8.toInt32)] (vi 0)) := by
  refine own_enter (plainFor_of_name pn_0) (L0 := (L_iiiii 3 p1 p2 p3 p4)) ?_
  intro p e s m below meth c s₁ hx hby hml hown hnm hret hZ X0 e0
  have N0 := Fr.nil n0
  obtain ⟨T6, h6, b5, X6, e6, E6, g6, A6, D6, st6⟩ := own_new X0 hx hZ hown (tw_8 hw) (tw_9 hw) (tw_10 hw) e0 (Ls := (L_iiiii 3 p1 p2 p3 p4)) (S := []) (hb hby d2_64)
  have q6 := Nat.le_trans Z0 g6
  have z6 := Nat.le_trans (Nat.le_refl h0.size) g6
  have F7 : ab7 Z h6 b5 .null := D6 (Or.inr (tw_24 hw)) (ty := (.array .byte)) (by decide)
  have F8 : ab6 Z h6 b5 (vi 0) := D6 (Or.inr (tw_25 hw)) (ty := .byte) (by decide)
  obtain ⟨T10, h10, b9, k10, X10, e10, E10, g10, V10, st10⟩ := own_newP X6 hx hZ (tw_11 hw) e6 (n := (3 : Int32)) (k := 3) (d := (vi 0)) (vs := [vi 0, vi 0, vi 0]) (Ls := (L_iiiii 3 p1 p2 p3 p4)) (S := [vr b5, vr b5]) (hb hby d2_69)
  have q10 := Nat.le_trans (Nat.le_trans Z0 E6.1) g10
  have z10 := Nat.le_trans (Nat.le_trans (Nat.le_refl h0.size) E6.1) g10
  obtain ⟨T11, h11, X11, e11, W11, V11, st11⟩ := own_stC X10 hx hZ e10 V10 (j := (0 : Int32)) (x := p1) (by decide) 0 rfl (Nat.le_of_ble_eq_true rfl) (Ls := (L_iiiii 3 p1 p2 p3 p4)) (rest := [vr b9, vr b5, vr b5]) (hb hby d2_74)
  have N11 := Fr.snoc X11 N0 q10
  obtain ⟨T12, h12, X12, e12, W12, V12, st12⟩ := own_stC X11 hx hZ e11 V11 (j := (1 : Int32)) (x := p2) (by decide) 1 rfl (Nat.le_of_ble_eq_true rfl) (Ls := (L_iiiii 3 p1 p2 p3 p4)) (rest := [vr b9, vr b5, vr b5]) (hb hby d2_78)
  have N12 := Fr.snoc X12 N11 q10
  obtain ⟨T13, h13, X13, e13, W13, V13, st13⟩ := own_stC X12 hx hZ e12 V12 (j := (2 : Int32)) (x := p3) (by decide) 2 rfl (Nat.le_of_ble_eq_true rfl) (Ls := (L_iiiii 3 p1 p2 p3 p4)) (rest := [vr b9, vr b5, vr b5]) (hb hby d2_82)
  have N13 := Fr.snoc X13 N12 q10
  have F15 := (((((P2.ext E6).ext E10).wr W11 q10).wr W12 q10).wr W13 q10)
  have n16 := Nat.ne_of_lt (Nat.lt_of_lt_of_le A6.lt g10)
  have F17 := (Fld.other W13 (Fld.other W12 (Fld.other W11 (Fld.ext E10 F8) (Or.inl n16)) (Or.inl n16)) (Or.inl n16))
  have F18 := (Exa.wr W13 (Exa.wr W12 (Exa.wr W11 (Exa.ext E10 A6))))
  have F19 := (Fld.other W13 (Fld.other W12 (Fld.other W11 (Fld.ext E10 F7) (Or.inl n16)) (Or.inl n16)) (Or.inl n16))
  have F21 := (Nat.le_trans (Nat.le_trans (Nat.le_trans (Nat.le_trans (Nat.le_trans Z0 E6.1) E10.1) (Keep.of_wr W11).1) (Keep.of_wr W12).1) (Keep.of_wr W13).1)
  obtain ⟨T20, L20, _, X20, ⟨b22, kk20_0, rfl, N20q, K20, qa20_0, qb20_0, f20_0, f20_1, f20_2⟩, st20⟩ := own_callI X13 hx hZ hown (cw_15 hw) (rm3_8 hw b5 b9 k10 (nar .char p1) (nar .char p2) (nar .char p3) p14 F21 V13 P1 F15 P3 P4 P5 P6 P7 P8 P9 F17 F18 q6 F19) e13 (Ls := (L_iiiii 3 p1 p2 p3 p4)) hml b5 [vr b9] [vr b5] pd_2 1 (hb hby d2_83)
  have N20 := Fr.app N13 N20q
  have F23 := (Nat.le_trans (Nat.le_trans (Nat.le_trans (Nat.le_trans (Nat.le_trans (Nat.le_refl h0.size) E6.1) E10.1) (Keep.of_wr W11).1) (Keep.of_wr W12).1) (Keep.of_wr W13).1)
  have qd20_0 := Nat.le_trans F23 qb20_0
  have F24 := (Exa.keep F18 K20)
  have K25 := (Keep.refl h0 []).ext E6
  have K26 := K25.ext E10
  have K27 := K26.wr W11 (Or.inr z10)
  have K28 := K27.wr W12 (Or.inr z10)
  have K29 := K28.wr W13 (Or.inr z10)
  have K30 := K29.trans K20 (allS (Or.inr z6) all0)
  have n31 := Nat.ne_of_lt (Nat.lt_of_lt_of_le F17.lt qb20_0)
  refine ⟨T20, _, _, _, _, some (vr b5), X20, rfl, by decide, by decide, nofun, ⟨b5, b22, kk20_0, rfl, N20, K30, q6, z6, qa20_0, qd20_0, n31, F24, f20_0, f20_1, f20_2⟩, fun fs hr => ?_⟩
  refine own_b X0 hx hby tb2 11 [true, true, true, false] 64 _ [] (ai (by decide) (ai (by decide) (ai (by decide) (ai (by decide) rfl)))) ?_
  refine st6 _ ?_
  refine own_b X6 hx hby tb2 2 [] 69 _ [vi 3, vr b5, vr b5] rfl ?_
  refine st10 _ ?_
  refine own_b X10 hx hby tb2 3 [] 74 _ [vi p1, vi 0, vr b9, vr b9, vr b5, vr b5] rfl ?_
  refine st11 _ ?_
  refine own_b X11 hx hby tb2 3 [] 78 _ [vi p2, vi 1, vr b9, vr b9, vr b5, vr b5] rfl ?_
  refine st12 _ ?_
  refine own_b X12 hx hby tb2 3 [] 82 _ [vi p3, vi 2, vr b9, vr b9, vr b5, vr b5] rfl ?_
  refine st13 _ ?_
  refine st20 _ ?_
  exact own_retA X20 hx hret rfl (hb hby d2_86) hr
theorem rm31_12 (hw : OW Z a0) (a1 : Addr) (w2 : ClassId) (p3 p4 p5 p6 p7 p8 : Int32) (Z0 : n0 ≤ h0.size) (P1 : ab2 Z (vi 1)) (P2 : Old Z n0 h0) (P3 : Arv Z h0 a1 w2 .byte (6 : Int32) [vi p3, vi p4, vi p5, vi p6, vi p7, vi p8] (vi 0)) (P4 : ab3 Z (vi 0)) (P5 : ab4 Z (vi 8)) (H1 : (nar .char (va8 p3 p4)) = (42 : Int32)) :
    M31 l Z ws (orm 1 0 0 13) #[vr a1, vi 42, vi 0, vi 3] h0 (QI n0 h0 (vi 0)) := by
  refine own_enter (plainFor_of_name pn_4) (L0 := (L_riiiu a1 42 0 3)) ?_
  intro p e s m below meth c s₁ hx hby hml hown hnm hret hZ X0 e0
  have N0 := Fr.nil n0
  obtain ⟨T9, L9, _, X9, ⟨rfl, N9q, e9q⟩, st9⟩ := own_callS X0 hx hZ hown (cw_11 hw) (rm24_4 hw a1 w2 p3 p4 p5 p6 p7 p8 Z0 P1 P2 P3 P4 P5) e0 (Ls := (L_riiii a1 42 0 3 0)) hml [vr a1, vi 0] [] pd_16 0 (hb hby d31_12)
  have N9 := Fr.app N0 N9q
  refine ⟨T9, _, _, _, _, some (vi 0), X9, e9q, by decide, by decide, nofun, ⟨rfl, N9, rfl⟩, fun fs hr => ?_⟩
  refine own_b X0 hx hby tb31 7 [false] 12 (L_riiii a1 42 0 3 0) [vi 0, vr a1] (ai (by decide) rfl) ?_
  refine st9 _ ?_
  refine own_b X9 hx hby tb31 3 [false] 21 _ [vi 0] (ai (teq H1).2 rfl) ?_
  exact retI X9 hx hret (hb hby d31_21) hr
theorem rm31_13 (hw : OW Z a0) (a1 : Addr) (w2 : ClassId) (p3 p4 p5 p6 p7 p8 : Int32) (Z0 : n0 ≤ h0.size) (P1 : ab2 Z (vi 1)) (P2 : Old Z n0 h0) (P3 : Arv Z h0 a1 w2 .byte (6 : Int32) [vi p3, vi p4, vi p5, vi p6, vi p7, vi p8] (vi 0)) (P4 : ab3 Z (vi 0)) (P5 : ab4 Z (vi 8)) (P6 : ¬ ((nar .char (va8 p5 p6)) = (42 : Int32))) (H1 : ¬ ((nar .char (va8 p3 p4)) = (42 : Int32))) (H2 : (nar .char (va8 p7 p8)) = (42 : Int32)) :
    M31 l Z ws (orm 1 0 0 13) #[vr a1, vi 42, vi 0, vi 3] h0 (QI n0 h0 (vi 2)) := by
  refine own_enter (plainFor_of_name pn_4) (L0 := (L_riiiu a1 42 0 3)) ?_
  intro p e s m below meth c s₁ hx hby hml hown hnm hret hZ X0 e0
  have N0 := Fr.nil n0
  obtain ⟨T9, L9, _, X9, ⟨rfl, N9q, e9q⟩, st9⟩ := own_callS X0 hx hZ hown (cw_11 hw) (rm24_4 hw a1 w2 p3 p4 p5 p6 p7 p8 Z0 P1 P2 P3 P4 P5) e0 (Ls := (L_riiii a1 42 0 3 0)) hml [vr a1, vi 0] [] pd_16 0 (hb hby d31_12)
  have N9 := Fr.app N0 N9q
  obtain ⟨T10, L10, _, X10, ⟨rfl, N10q, e10q⟩, st10⟩ := own_callS X9 hx hZ hown (cw_11 hw) (rm24_5 hw a1 w2 p3 p4 p5 p6 p7 p8 Z0 P1 P2 P3 P4 P5) e9q (Ls := (L_riiii a1 42 0 3 1)) hml [vr a1, vi 1] [] pd_16 0 (hb hby d31_12)
  have N10 := Fr.app N9 N10q
  obtain ⟨T11, L11, _, X11, ⟨rfl, N11q, e11q⟩, st11⟩ := own_callS X10 hx hZ hown (cw_11 hw) (rm24_6 hw a1 w2 p3 p4 p5 p6 p7 p8 Z0 P1 P2 P3 P4 P5) e10q (Ls := (L_riiii a1 42 0 3 2)) hml [vr a1, vi 2] [] pd_16 0 (hb hby d31_12)
  have N11 := Fr.app N10 N11q
  refine ⟨T11, _, _, _, _, some (vi 2), X11, e11q, by decide, by decide, nofun, ⟨rfl, N11, rfl⟩, fun fs hr => ?_⟩
  refine own_b X0 hx hby tb31 7 [false] 12 (L_riiii a1 42 0 3 0) [vi 0, vr a1] (ai (by decide) rfl) ?_
  refine st9 _ ?_
  refine own_b X9 hx hby tb31 9 [true, false] 12 (L_riiii a1 42 0 3 1) [vi 1, vr a1] (ai (feq H1).2 (ai (by decide) rfl)) ?_
  refine st10 _ ?_
  refine own_b X10 hx hby tb31 9 [true, false] 12 (L_riiii a1 42 0 3 2) [vi 2, vr a1] (ai (feq P6).2 (ai (by decide) rfl)) ?_
  refine st11 _ ?_
  refine own_b X11 hx hby tb31 3 [false] 21 _ [vi 2] (ai (teq H2).2 rfl) ?_
  exact retI X11 hx hret (hb hby d31_21) hr
theorem rm31_14 (hw : OW Z a0) (a1 : Addr) (w2 : ClassId) (p3 p4 p5 p6 p7 p8 : Int32) (Z0 : n0 ≤ h0.size) (P1 : ab2 Z (vi 1)) (P2 : Old Z n0 h0) (P3 : Arv Z h0 a1 w2 .byte (6 : Int32) [vi p3, vi p4, vi p5, vi p6, vi p7, vi p8] (vi 0)) (P4 : ab3 Z (vi 0)) (P5 : ab4 Z (vi 8)) (P6 : ¬ ((nar .char (va8 p5 p6)) = (42 : Int32))) (H1 : ¬ ((nar .char (va8 p3 p4)) = (42 : Int32))) (H2 : ¬ ((nar .char (va8 p7 p8)) = (42 : Int32))) :
    M31 l Z ws (orm 1 0 0 13) #[vr a1, vi 42, vi 0, vi 3] h0 (QI n0 h0 (vi (-1))) := by
  refine own_enter (plainFor_of_name pn_4) (L0 := (L_riiiu a1 42 0 3)) ?_
  intro p e s m below meth c s₁ hx hby hml hown hnm hret hZ X0 e0
  have N0 := Fr.nil n0
  obtain ⟨T9, L9, _, X9, ⟨rfl, N9q, e9q⟩, st9⟩ := own_callS X0 hx hZ hown (cw_11 hw) (rm24_4 hw a1 w2 p3 p4 p5 p6 p7 p8 Z0 P1 P2 P3 P4 P5) e0 (Ls := (L_riiii a1 42 0 3 0)) hml [vr a1, vi 0] [] pd_16 0 (hb hby d31_12)
  have N9 := Fr.app N0 N9q
  obtain ⟨T10, L10, _, X10, ⟨rfl, N10q, e10q⟩, st10⟩ := own_callS X9 hx hZ hown (cw_11 hw) (rm24_5 hw a1 w2 p3 p4 p5 p6 p7 p8 Z0 P1 P2 P3 P4 P5) e9q (Ls := (L_riiii a1 42 0 3 1)) hml [vr a1, vi 1] [] pd_16 0 (hb hby d31_12)
  have N10 := Fr.app N9 N10q
  obtain ⟨T11, L11, _, X11, ⟨rfl, N11q, e11q⟩, st11⟩ := own_callS X10 hx hZ hown (cw_11 hw) (rm24_6 hw a1 w2 p3 p4 p5 p6 p7 p8 Z0 P1 P2 P3 P4 P5) e10q (Ls := (L_riiii a1 42 0 3 2)) hml [vr a1, vi 2] [] pd_16 0 (hb hby d31_12)
  have N11 := Fr.app N10 N11q
  refine ⟨T11, _, _, _, _, some (vi (-1)), X11, e11q, by decide, by decide, nofun, ⟨rfl, N11, rfl⟩, fun fs hr => ?_⟩
  refine own_b X0 hx hby tb31 7 [false] 12 (L_riiii a1 42 0 3 0) [vi 0, vr a1] (ai (by decide) rfl) ?_
  refine st9 _ ?_
  refine own_b X9 hx hby tb31 9 [true, false] 12 (L_riiii a1 42 0 3 1) [vi 1, vr a1] (ai (feq H1).2 (ai (by decide) rfl)) ?_
  refine st10 _ ?_
  refine own_b X10 hx hby tb31 9 [true, false] 12 (L_riiii a1 42 0 3 2) [vi 2, vr a1] (ai (feq P6).2 (ai (by decide) rfl)) ?_
  refine st11 _ ?_
  refine own_b X11 hx hby tb31 8 [true, true] 29 (L_riiii a1 42 0 3 3) [vi (-1)] (ai (feq H2).2 (ai (by decide) rfl)) ?_
  exact retI X11 hx hret (hb hby d31_29) hr
theorem rm31_15 (hw : OW Z a0) (a1 : Addr) (w2 : ClassId) (p3 p4 p5 p6 p7 p8 : Int32) (Z0 : n0 ≤ h0.size) (P1 : ab2 Z (vi 1)) (P2 : Old Z n0 h0) (P3 : Arv Z h0 a1 w2 .byte (6 : Int32) [vi p3, vi p4, vi p5, vi p6, vi p7, vi p8] (vi 0)) (P4 : ab3 Z (vi 0)) (P5 : ab4 Z (vi 8)) (P6 : ¬ ((nar .char (va8 p5 p6)) = (42 : Int32))) :
    M31 l Z ws (orm 1 0 0 13) #[vr a1, vi 42, vi 0, vi 3] h0 (QI n0 h0 (vi (va28 p3 p4 p7 p8))) := by
  by_cases H1 : (nar .char (va8 p3 p4)) = (42 : Int32)
  ·
    rw [show (va28 p3 p4 p7 p8) = (0 : Int32) from by simp only [va28, if_pos H1]]
    exact rm31_12 hw a1 w2 p3 p4 p5 p6 p7 p8 Z0 P1 P2 P3 P4 P5 H1
  ·
    by_cases H2 : (nar .char (va8 p7 p8)) = (42 : Int32)
    ·
      rw [show (va28 p3 p4 p7 p8) = (2 : Int32) from by simp only [va28, if_neg H1, if_pos H2]]
      exact rm31_13 hw a1 w2 p3 p4 p5 p6 p7 p8 Z0 P1 P2 P3 P4 P5 P6 H1 H2
    ·
      rw [show (va28 p3 p4 p7 p8) = (-1 : Int32) from by simp only [va28, if_neg H1, if_neg H2]]
      exact rm31_14 hw a1 w2 p3 p4 p5 p6 p7 p8 Z0 P1 P2 P3 P4 P5 P6 H1 H2
theorem rm26_5 (hw : OW Z a0) (a1 : Addr) (w2 : ClassId) (p3 p4 p5 p6 p7 p8 : Int32) (a9 : Value) (Z0 : n0 ≤ h0.size) (P1 : Arv Z h0 a1 w2 .byte (6 : Int32) [vi p3, vi p4, vi p5, vi p6, vi p7, vi p8] (vi 0)) (P2 : ab5 Z a9) (P3 : Old Z n0 h0) (P4 : a9.isRef = true) (P5 : ab2 Z (vi 1)) (P6 : ab3 Z (vi 0)) (P7 : ab4 Z (vi 8)) (P8 : ¬ ((nar .char (va8 p5 p6)) = (42 : Int32))) :
    M26 l Z ws (orm 3 0 0 43) #[vr a1, vi 42, vi 0, vi 3] h0 (QI n0 h0 (vi (va28 p3 p4 p7 p8))) := by
  refine own_enter (plainFor_of_name pn_4) (L0 := (L_riii a1 42 0 3)) ?_
  intro p e s m below meth c s₁ hx hby hml hown hnm hret hZ X0 e0
  have N0 := Fr.nil n0
  obtain ⟨T10, L10, _, X10, ⟨rfl, N10q, e10q⟩, st10⟩ := own_callS X0 hx hZ hown (cw_22 hw) (rm27_3 hw a1 w2 p3 p4 p5 p6 p7 p8 a9 Z0 P1 P2 P3 P4) e0 (Ls := (L_riii a1 42 0 3)) hml [vi 0, vi 3, vr a1] [] pd_21 0 (hb hby d26_3)
  have N10 := Fr.app N0 N10q
  obtain ⟨T11, L11, _, X11, ⟨rfl, N11q, e11q⟩, st11⟩ := own_callS X10 hx hZ hown (cw_23 hw) (rm31_15 hw a1 w2 p3 p4 p5 p6 p7 p8 Z0 P5 P3 P1 P6 P7 P8) e10q (Ls := (L_riii a1 42 0 3)) hml [vr a1, vi 42, vi 0, vi 3] [] pd_9 0 (hb hby d26_10)
  have N11 := Fr.app N10 N11q
  refine ⟨T11, _, _, _, _, some (vi (va28 p3 p4 p7 p8)), X11, e11q, by decide, by decide, nofun, ⟨rfl, N11, rfl⟩, fun fs hr => ?_⟩
  refine own_b X0 hx hby tb26 3 [] 3 _ [vr a1, vi 3, vi 0] rfl ?_
  refine st10 _ ?_
  refine own_b X10 hx hby tb26 4 [] 10 _ [vi 3, vi 0, vi 42, vr a1] rfl ?_
  refine st11 _ ?_
  exact retI X11 hx hret (hb hby d26_13) hr
theorem rm25_5 (hw : OW Z a0) (a1 : Addr) (w3 : ClassId) (p4 p5 p6 p7 p8 p9 : Int32) (a11 : Value) (Z0 : n0 ≤ h0.size) (P1 : Arv Z h0 a1 w3 .byte (6 : Int32) [vi p4, vi p5, vi p6, vi p7, vi p8, vi p9] (vi 0)) (P2 : ab5 Z a11) (P3 : Old Z n0 h0) (P4 : a11.isRef = true) (P5 : ab2 Z (vi 1)) (P6 : ab3 Z (vi 0)) (P7 : ab4 Z (vi 8)) (P8 : ¬ ((nar .char (va8 p6 p7)) = (42 : Int32))) :
    M25 l Z ws (orm 4 0 0 58) #[vr a1, vi 42, vi 0, vi 3] h0 (QI n0 h0 (vi (va28 p4 p5 p8 p9))) := by
  refine own_enter (plainFor_of_name pn_4) (L0 := (L_riii a1 42 0 3)) ?_
  intro p e s m below meth c s₁ hx hby hml hown hnm hret hZ X0 e0
  have N0 := Fr.nil n0
  obtain ⟨T2, L2, _, X2, ⟨rfl, N2q, e2q⟩, st2⟩ := own_callS X0 hx hZ hown (cw_17 hw) (rm14_1 hw  Z0 ) e0 (Ls := (L_riii a1 42 0 3)) hml [vi 0, vi 0] [] pd_8 0 (hb hby d25_2)
  have N2 := Fr.app N0 N2q
  obtain ⟨T10, L10, _, X10, ⟨rfl, N10q, e10q⟩, st10⟩ := own_callS X2 hx hZ hown (cw_18 hw) (rm15_4 hw  Z0 ) e2q (Ls := (L_riii a1 42 0 3)) hml [vi 3, vi 3] [] pd_8 0 (hb hby d25_11)
  have N10 := Fr.app N2 N10q
  obtain ⟨T12, L12, _, X12, ⟨rfl, N12q, e12q⟩, st12⟩ := own_callS X10 hx hZ hown (cw_24 hw) (rm26_5 hw a1 w3 p4 p5 p6 p7 p8 p9 a11 Z0 P1 P2 P3 P4 P5 P6 P7 P8) e10q (Ls := (L_riii a1 42 0 3)) hml [vr a1, vi 42, vi 0, vi 3] [] pd_9 0 (hb hby d25_32)
  have N12 := Fr.app N10 N12q
  refine ⟨T12, _, _, _, _, some (vi (va28 p4 p5 p8 p9)), X12, e12q, by decide, by decide, nofun, ⟨rfl, N12, rfl⟩, fun fs hr => ?_⟩
  refine own_b X0 hx hby tb25 2 [] 2 _ [vi 0, vi 0] rfl ?_
  refine st2 _ ?_
  refine own_a X2 hx hZ e2q hby tb25 (aec P1 aen) 6 [] [0] 11 (L_riii a1 42 0 3) [vi 3, vi 3] (ai rfl rfl) ?_
  refine st10 _ ?_
  refine own_b X10 hx hby tb25 5 [true] 23 (L_riii a1 42 0 3) [vi 42] (ai (by decide) rfl) ?_
  refine X10.ldcInt hx hown (mvT hZ (tw_112 hw)) (g := (mkF m 23 (L_riii a1 42 0 3) [vi 42])) rfl (hb hby d25_23) _ ?_
  show OS p e below T10 m 25 (L_riii a1 42 0 3) [vi 65536, vi 42] _
  refine own_b X10 hx hby tb25 5 [false] 32 _ [vi 3, vi 0, vi 42, vr a1] (ai (by decide) rfl) ?_
  refine st12 _ ?_
  exact retI X12 hx hret (hb hby d25_35) hr
theorem rm8_8 (hw : OW Z a0) (a1 : Addr) (p2 : Int32) (a4 : Addr) (w6 : ClassId) (p7 p8 p9 p10 p11 p12 : Int32) (a14 : Value) (Z0 : n0 ≤ h0.size) (P1 : ab8 Z h0 a1) (P2 : ab1 Z (vi p2)) (P3 : Old Z n0 h0) (P4 : ¬ (p2 = (0 : Int32))) (P5 : ab6 Z h0 a1 (vi 1)) (P6 : ab7 Z h0 a1 (vr a4)) (P7 : Arv Z h0 a4 w6 .byte (6 : Int32) [vi p7, vi p8, vi p9, vi p10, vi p11, vi p12] (vi 0)) (P8 : ab5 Z a14) (P9 : a14.isRef = true) (P10 : ab2 Z (vi 1)) (P11 : ab3 Z (vi 0)) (P12 : ab4 Z (vi 8)) (P13 : ¬ ((nar .char (va8 p9 p10)) = (42 : Int32))) :
    M8 l Z ws (orm 5 0 0 73) #[vr a1, vi 42, vi 0] h0 (QI n0 h0 (vi (va28 p7 p8 p11 p12))) := by
  refine own_enter (plainFor_of_name pn_1) (L0 := (L_rii a1 42 0)) ?_
  intro p e s m below meth c s₁ hx hby hml hown hnm hret hZ X0 e0
  have N0 := Fr.nil n0
  obtain ⟨T3, L3, _, X3, ⟨rfl, N3q, e3q⟩, st3⟩ := own_callV X0 hx hZ hown (tw_44 hw) (tw_45 hw) (notFace_of_selects (args := #[]) (mvT hZ (tw_47 hw))) (tw_47 hw) (tw_46 hw) (tw_10 hw) (tw_48 hw) (rm9_2 hw a1 p2 Z0 P2 P3 P4 P5) e0 P1 (Ls := (L_rii a1 42 0)) hml [] [] pd_4 0 (hb hby d8_1)
  have N3 := Fr.app N0 N3q
  obtain ⟨T5, X5, e5, st5⟩ := getF X3 hx hZ hown (host := "") (Or.inl (tw_28 hw)) Via.refl e3q P6 (g := (mkF m 24 (L_rii a1 42 0) [vr a1])) rfl rfl (hb hby d8_24)
  obtain ⟨T13, L13, _, X13, ⟨rfl, N13q, e13q⟩, st13⟩ := own_callV X5 hx hZ hown (tw_50 hw) (tw_51 hw) (notFace_of_selects (args := #[]) (mvT hZ (tw_53 hw))) (tw_53 hw) (tw_52 hw) (tw_10 hw) (tw_54 hw) (rm10_6 hw a1 a4 w6 p7 p8 p9 p10 p11 p12 p2 Z0 P6 P7 P1 P2 P3 P4 P5) e5 P1 (Ls := (L_rii a1 42 0)) hml [] [vi 0, vi 42, vr a4] pd_6 3 (hb hby d8_30)
  have N13 := Fr.app N3 N13q
  obtain ⟨T15, L15, _, X15, ⟨rfl, N15q, e15q⟩, st15⟩ := own_callS X13 hx hZ hown (cw_25 hw) (rm25_5 hw a4 w6 p7 p8 p9 p10 p11 p12 a14 Z0 P7 P8 P3 P9 P10 P11 P12 P13) e13q (Ls := (L_rii a1 42 0)) hml [vr a4, vi 42, vi 0, vi 3] [] pd_9 0 (hb hby d8_33)
  have N15 := Fr.app N13 N15q
  refine ⟨T15, _, _, _, _, some (vi (va28 p7 p8 p11 p12)), X15, e15q, by decide, by decide, nofun, ⟨rfl, N15, rfl⟩, fun fs hr => ?_⟩
  refine own_b X0 hx hby tb8 1 [] 1 _ [vr a1] rfl ?_
  refine st3 _ ?_
  refine own_b X3 hx hby tb8 2 [true] 24 _ [vr a1] (ai (by decide) rfl) ?_
  refine st5 _ ?_
  refine own_b X5 hx hby tb8 3 [] 30 _ [vr a1, vi 0, vi 42, vr a4] rfl ?_
  refine st13 _ ?_
  refine st15 _ ?_
  exact retI X15 hx hret (hb hby d8_36) hr
theorem rm7_8 (hw : OW Z a0) (a1 : Addr) (p2 : Int32) (a3 : Addr) (w4 : ClassId) (p5 p6 p7 p8 p9 p10 : Int32) (a11 : Value) (Z0 : n0 ≤ h0.size) (P1 : ab8 Z h0 a1) (P2 : ab1 Z (vi p2)) (P3 : Old Z n0 h0) (P4 : ¬ (p2 = (0 : Int32))) (P5 : ab6 Z h0 a1 (vi 1)) (P6 : ab7 Z h0 a1 (vr a3)) (P7 : Arv Z h0 a3 w4 .byte (6 : Int32) [vi p5, vi p6, vi p7, vi p8, vi p9, vi p10] (vi 0)) (P8 : ab5 Z a11) (P9 : a11.isRef = true) (P10 : ab2 Z (vi 1)) (P11 : ab3 Z (vi 0)) (P12 : ab4 Z (vi 8)) (P13 : ¬ ((nar .char (va8 p7 p8)) = (42 : Int32))) :
    M7 l Z ws (orm 6 0 0 87) #[vr a1, vi 42] h0 (QI n0 h0 (vi (va28 p5 p6 p9 p10))) := by
  refine own_enter (plainFor_of_name pn_1) (L0 := (L_ri a1 42)) ?_
  intro p e s m below meth c s₁ hx hby hml hown hnm hret hZ X0 e0
  have N0 := Fr.nil n0
  obtain ⟨T12, L12, _, X12, ⟨rfl, N12q, e12q⟩, st12⟩ := own_callV X0 hx hZ hown (tw_39 hw) (tw_40 hw) (notFace_of_selects (args := #[]) (mvT hZ (tw_42 hw))) (tw_42 hw) (tw_41 hw) (tw_10 hw) (tw_43 hw) (rm8_8 hw a1 p2 a3 w4 p5 p6 p7 p8 p9 p10 a11 Z0 P1 P2 P3 P4 P5 P6 P7 P8 P9 P10 P11 P12 P13) e0 P1 (Ls := (L_ri a1 42)) hml [vi 42, vi 0] [] pd_8 0 (hb hby d7_3)
  have N12 := Fr.app N0 N12q
  refine ⟨T12, _, _, _, _, some (vi (va28 p5 p6 p9 p10)), X12, e12q, by decide, by decide, nofun, ⟨rfl, N12, rfl⟩, fun fs hr => ?_⟩
  refine own_b X0 hx hby tb7 3 [] 3 _ [vi 0, vi 42, vr a1] rfl ?_
  refine st12 _ ?_
  exact retI X12 hx hret (hb hby d7_6) hr
theorem rm6_18 (hw : OW Z a0) (a1 : Addr) (p2 : Int32) (a3 : Addr) (w4 : ClassId) (p5 p6 p7 p8 p9 p10 : Int32) (a11 : Value) (Z0 : n0 ≤ h0.size) (P1 : ab8 Z h0 a1) (P2 : ab1 Z (vi p2)) (P3 : Old Z n0 h0) (P4 : ¬ (p2 = (0 : Int32))) (P5 : ab6 Z h0 a1 (vi 1)) (P6 : ab7 Z h0 a1 (vr a3)) (P7 : Arv Z h0 a3 w4 .byte (6 : Int32) [vi p5, vi p6, vi p7, vi p8, vi p9, vi p10] (vi 0)) (P8 : ab5 Z a11) (P9 : a11.isRef = true) (P10 : ab2 Z (vi 1)) (P11 : ab3 Z (vi 0)) (P12 : ab4 Z (vi 8)) (P13 : ¬ ((nar .char (va8 p7 p8)) = (42 : Int32))) (H1 : (va28 p5 p6 p9 p10) < (0 : Int32)) :
    M6 l Z ws (orm 7 0 0 100) #[vr a1] h0 (QI n0 h0 (vi 0)) := by
  refine own_enter (plainFor_of_name pn_3) (L0 := #[sr a1]) ?_
  intro p e s m below meth c s₁ hx hby hml hown hnm hret hZ X0 e0
  have N0 := Fr.nil n0
  obtain ⟨T12, L12, _, X12, ⟨rfl, N12q, e12q⟩, st12⟩ := own_callV X0 hx hZ hown (tw_34 hw) (tw_35 hw) (notFace_of_selects (args := #[]) (mvT hZ (tw_37 hw))) (tw_37 hw) (tw_36 hw) (tw_10 hw) (tw_38 hw) (rm7_8 hw a1 p2 a3 w4 p5 p6 p7 p8 p9 p10 a11 Z0 P1 P2 P3 P4 P5 P6 P7 P8 P9 P10 P11 P12 P13) e0 P1 (Ls := #[sr a1]) hml [vi 42] [] pd_10 0 (hb hby d6_3)
  have N12 := Fr.app N0 N12q
  refine ⟨T12, _, _, _, _, some (vi 0), X12, e12q, by decide, by decide, nofun, ⟨rfl, N12, rfl⟩, fun fs hr => ?_⟩
  refine own_b X0 hx hby tb6 2 [] 3 _ [vi 42, vr a1] rfl ?_
  refine st12 _ ?_
  refine own_b X12 hx hby tb6 2 [true] 14 _ [vi 0] (ai (tlt H1).1 rfl) ?_
  exact retN X12 hx (t := .boolean) hret (by simp) (hb hby d6_14) hr
theorem rm6_19 (hw : OW Z a0) (a1 : Addr) (p2 : Int32) (a3 : Addr) (w4 : ClassId) (p5 p6 p7 p8 p9 p10 : Int32) (a11 : Value) (Z0 : n0 ≤ h0.size) (P1 : ab8 Z h0 a1) (P2 : ab1 Z (vi p2)) (P3 : Old Z n0 h0) (P4 : ¬ (p2 = (0 : Int32))) (P5 : ab6 Z h0 a1 (vi 1)) (P6 : ab7 Z h0 a1 (vr a3)) (P7 : Arv Z h0 a3 w4 .byte (6 : Int32) [vi p5, vi p6, vi p7, vi p8, vi p9, vi p10] (vi 0)) (P8 : ab5 Z a11) (P9 : a11.isRef = true) (P10 : ab2 Z (vi 1)) (P11 : ab3 Z (vi 0)) (P12 : ab4 Z (vi 8)) (P13 : ¬ ((nar .char (va8 p7 p8)) = (42 : Int32))) (H1 : ¬ ((va28 p5 p6 p9 p10) < (0 : Int32))) :
    M6 l Z ws (orm 7 0 0 100) #[vr a1] h0 (QI n0 h0 (vi 1)) := by
  refine own_enter (plainFor_of_name pn_3) (L0 := #[sr a1]) ?_
  intro p e s m below meth c s₁ hx hby hml hown hnm hret hZ X0 e0
  have N0 := Fr.nil n0
  obtain ⟨T12, L12, _, X12, ⟨rfl, N12q, e12q⟩, st12⟩ := own_callV X0 hx hZ hown (tw_34 hw) (tw_35 hw) (notFace_of_selects (args := #[]) (mvT hZ (tw_37 hw))) (tw_37 hw) (tw_36 hw) (tw_10 hw) (tw_38 hw) (rm7_8 hw a1 p2 a3 w4 p5 p6 p7 p8 p9 p10 a11 Z0 P1 P2 P3 P4 P5 P6 P7 P8 P9 P10 P11 P12 P13) e0 P1 (Ls := #[sr a1]) hml [vi 42] [] pd_10 0 (hb hby d6_3)
  have N12 := Fr.app N0 N12q
  refine ⟨T12, _, _, _, _, some (vi 1), X12, e12q, by decide, by decide, nofun, ⟨rfl, N12, rfl⟩, fun fs hr => ?_⟩
  refine own_b X0 hx hby tb6 2 [] 3 _ [vi 42, vr a1] rfl ?_
  refine st12 _ ?_
  refine own_b X12 hx hby tb6 3 [false] 14 _ [vi 1] (ai (flt H1).1 rfl) ?_
  exact retN X12 hx (t := .boolean) hret (by simp) (hb hby d6_14) hr
theorem rm6_20 (hw : OW Z a0) (a1 : Addr) (p2 : Int32) (a3 : Addr) (w4 : ClassId) (p5 p6 p7 p8 p9 p10 : Int32) (a11 : Value) (Z0 : n0 ≤ h0.size) (P1 : ab8 Z h0 a1) (P2 : ab1 Z (vi p2)) (P3 : Old Z n0 h0) (P4 : ¬ (p2 = (0 : Int32))) (P5 : ab6 Z h0 a1 (vi 1)) (P6 : ab7 Z h0 a1 (vr a3)) (P7 : Arv Z h0 a3 w4 .byte (6 : Int32) [vi p5, vi p6, vi p7, vi p8, vi p9, vi p10] (vi 0)) (P8 : ab5 Z a11) (P9 : a11.isRef = true) (P10 : ab2 Z (vi 1)) (P11 : ab3 Z (vi 0)) (P12 : ab4 Z (vi 8)) (P13 : ¬ ((nar .char (va8 p7 p8)) = (42 : Int32))) :
    M6 l Z ws (orm 7 0 0 100) #[vr a1] h0 (QI n0 h0 (vi (va29 p5 p6 p9 p10))) := by
  by_cases H1 : (va28 p5 p6 p9 p10) < (0 : Int32)
  ·
    rw [show (va29 p5 p6 p9 p10) = (0 : Int32) from by simp only [va29, if_pos H1]]
    exact rm6_18 hw a1 p2 a3 w4 p5 p6 p7 p8 p9 p10 a11 Z0 P1 P2 P3 P4 P5 P6 P7 P8 P9 P10 P11 P12 P13 H1
  ·
    rw [show (va29 p5 p6 p9 p10) = (1 : Int32) from by simp only [va29, if_neg H1]]
    exact rm6_19 hw a1 p2 a3 w4 p5 p6 p7 p8 p9 p10 a11 Z0 P1 P2 P3 P4 P5 P6 P7 P8 P9 P10 P11 P12 P13 H1
theorem rm17_8 (hw : OW Z a0) (a1 a2 : Addr) (w3 : ClassId) (p4 p5 p6 : Int32) (w7 : ClassId) (Z0 : n0 ≤ h0.size) (P1 : Arv Z h0 a1 w3 .char (3 : Int32) [vi p4, vi p5, vi p6] (vi 0)) (P2 : ¬ ((255 : Int32) < p4)) (P3 : Arv Z h0 a2 w7 .byte (3 : Int32) [vi 0, vi 0, vi 0] (vi 0)) (P4 : n0 ≤ a2) (P5 : a1 ≠ a2) (P6 : ¬ ((255 : Int32) < p5)) (P7 : (255 : Int32) < p6) :
    M17 l Z ws (orm 0 0 0 0) #[vr a1, vi 0, vr a2, vi 0, vi 3] h0 (fun v h L => v = some (vi 2) ∧ Fr n0 L ∧ Keep h0 h [a2] ∧ Arv Z h a2 w7 .byte (3 : Int32) [vi ((p4.toInt8.toInt32).toInt8.toInt32), vi ((p5.toInt8.toInt32).toInt8.toInt32), vi 0] (vi 0)) := by
  refine own_enter (plainFor_of_name pn_4) (L0 := (L_ririiuu a1 0 a2 0 3)) ?_
  intro p e s m below meth c s₁ hx hby hml hown hnm hret hZ X0 e0
  have N0 := Fr.nil n0
  obtain ⟨T8, h8, X8, e8, W8, V8, st8⟩ := own_stB X0 hx hZ e0 P3 (j := (0 : Int32)) (x := (p4.toInt8.toInt32)) (by decide) 0 rfl (Nat.le_of_ble_eq_true rfl) (Ls := (L_ririiii a1 0 a2 0 3 0 p4)) (rest := []) (hb hby d17_31)
  have N8 := Fr.snoc X8 N0 P4
  have F9 := (Arv.other P1 W8 P5)
  obtain ⟨T10, h10, X10, e10, W10, V10, st10⟩ := own_stB X8 hx hZ e8 V8 (j := (1 : Int32)) (x := (p5.toInt8.toInt32)) (by decide) 1 rfl (Nat.le_of_ble_eq_true rfl) (Ls := (L_ririiii a1 1 a2 1 3 1 p5)) (rest := []) (hb hby d17_31)
  have N10 := Fr.snoc X10 N8 P4
  have F11 := (Arv.other F9 W10 P5)
  have K12 := (Keep.refl h0 [a2]).wr W8 (Or.inl (List.mem_of_getElem? (i := 0) rfl))
  have K13 := K12.wr W10 (Or.inl (List.mem_of_getElem? (i := 0) rfl))
  refine ⟨T10, _, _, _, _, some (vi 2), X10, e10, by decide, by decide, nofun, ⟨rfl, N10, K13, V10⟩, fun fs hr => ?_⟩
  refine own_a X0 hx hZ e0 hby tb17 (aec P1 aen) 16 [false, true] [0] 31 (L_ririiii a1 0 a2 0 3 0 p4) [vi (p4.toInt8.toInt32), vi 0, vr a2] (ai (by decide) (ai rfl (ai (flt P2).2.2.2 rfl))) ?_
  refine st8 _ ?_
  refine own_a X8 hx hZ e8 hby tb17 (aec F9 aen) 18 [false, true] [0] 31 (L_ririiii a1 1 a2 1 3 1 p5) [vi (p5.toInt8.toInt32), vi 1, vr a2] (ai (by decide) (ai rfl (ai (flt P6).2.2.2 rfl))) ?_
  refine st10 _ ?_
  refine own_a X10 hx hZ e10 hby tb17 (aec F11 aen) 15 [false, false] [0] 25 (L_ririiii a1 2 a2 2 3 2 p6) [vi 2] (ai (by decide) (ai rfl (ai (tlt P7).2.2.2 rfl))) ?_
  exact retI X10 hx hret (hb hby d17_25) hr
theorem rm16_8 (hw : OW Z a0) (a1 : Addr) (w4 : ClassId) (p5 p6 p7 : Int32) (Z0 : n0 ≤ h0.size) (P1 : Arv Z h0 a1 w4 .char (3 : Int32) [vi p5, vi p6, vi p7] (vi 0)) (P2 : ¬ ((255 : Int32) < p5)) (P3 : ¬ ((255 : Int32) < p6)) (P4 : (255 : Int32) < p7) (P5 : ab2 Z (vi 1)) (P6 : Old Z n0 h0) (P7 : ab3 Z (vi 0)) (P8 : ab4 Z (vi 8)) (P9 : (255 : Int32) < (nar .char (va8 ((va4 p7).toInt8.toInt32) ((va5 p7).toInt8.toInt32)))) :
    M16 l Z ws (orm 3 2 9 40) #[vr a1, vi 0, vi 3] h0 (fun v h L => ∃ b14 : Addr, ∃ kk13_0 : ClassId, v = some (vr b14) ∧ Fr n0 L ∧ Keep h0 h [] ∧ n0 ≤ b14 ∧ h0.size ≤ b14 ∧ Arv Z h b14 kk13_0 .byte (6 : Int32) [vi ((va4 p5).toInt8.toInt32), vi ((va5 p5).toInt8.toInt32), vi ((va4 p6).toInt8.toInt32), vi ((va5 p6).toInt8.toInt32), vi ((va4 p7).toInt8.toInt32), vi ((va5 p7).toInt8.toInt32)] (vi 0)) := by
  refine own_enter (plainFor_of_name pn_4) (L0 := (L_riiuuu a1 0 3)) ?_
  intro p e s m below meth c s₁ hx hby hml hown hnm hret hZ X0 e0
  have N0 := Fr.nil n0
  obtain ⟨T3, h3, b2, k3, X3, e3, E3, g3, V3, st3⟩ := own_newP X0 hx hZ (tw_23 hw) e0 (n := (3 : Int32)) (k := 3) (d := (vi 0)) (vs := [vi 0, vi 0, vi 0]) (Ls := (L_riiuuu a1 0 3)) (S := []) (hb hby d16_1)
  have q3 := Nat.le_trans Z0 g3
  have z3 := Nat.le_trans (Nat.le_refl h0.size) g3
  have F8 := (P1.ext E3)
  have n9 := Nat.ne_of_lt (Nat.lt_of_lt_of_le P1.lt g3)
  obtain ⟨T10, L10, _, X10, ⟨rfl, N10q, K10, f10_0⟩, st10⟩ := own_callS X3 hx hZ hown (cw_6 hw) (rm17_8 hw a1 b2 w4 p5 p6 p7 k3 (Nat.le_trans Z0 E3.1) F8 P2 V3 q3 n9 P3 P4) e3 (Ls := (L_riiruu a1 0 3 b2)) hml [vr a1, vi 0, vr b2, vi 0, vi 3] [] pd_12 0 (hb hby d16_9)
  have N10 := Fr.app N0 N10q
  have F11 := (Arv.keep F8 K10 (ninS n9 nin0))
  have F12 := ((P6.ext E3).keep K10 (allS q3 all0))
  obtain ⟨T13, L13, _, X13, ⟨b14, kk13_0, rfl, N13q, K13, qa13_0, qb13_0, f13_0⟩, st13⟩ := own_callS X10 hx hZ hown (cw_10 hw) (rm20_3 hw a1 w4 p5 p6 p7 (Nat.le_trans (Nat.le_trans Z0 E3.1) K10.1) F11 P5 F12 P7 P8) rfl (Ls := (L_riiriu a1 0 3 b2 2)) hml [vr a1, vi 0, vi 3] [] pd_15 0 (hb hby d16_23)
  have N13 := Fr.app N10 N13q
  have F15 := (Nat.le_trans (Nat.le_trans (Nat.le_refl h0.size) E3.1) K10.1)
  have qd13_0 := Nat.le_trans F15 qb13_0
  have F16 := (F12.keep K13 all0)
  have F18 := (Nat.le_trans (Nat.le_trans (Nat.le_trans Z0 E3.1) K10.1) K13.1)
  obtain ⟨T17, L17, _, X17, ⟨rfl, N17q, e17q⟩, st17⟩ := own_callS X13 hx hZ hown (cw_11 hw) (rm24_6 hw b14 kk13_0 ((va4 p5).toInt8.toInt32) ((va5 p5).toInt8.toInt32) ((va4 p6).toInt8.toInt32) ((va5 p6).toInt8.toInt32) ((va4 p7).toInt8.toInt32) ((va5 p7).toInt8.toInt32) F18 P5 F16 f13_0 P7 P8) rfl (Ls := (L_riirir a1 0 3 b2 2 b14)) hml [vr b14, vi 2] [] pd_16 0 (hb hby d16_32)
  have N17 := Fr.app N13 N17q
  have K19 := (Keep.refl h0 []).ext E3
  have K20 := K19.trans K10 (allS (Or.inr z3) all0)
  have K21 := K20.trans K13 all0
  refine ⟨T17, _, _, _, _, some (vr b14), X17, e17q, by decide, by decide, nofun, ⟨b14, kk13_0, rfl, N17, K21, qa13_0, qd13_0, f13_0⟩, fun fs hr => ?_⟩
  refine own_b X0 hx hby tb16 1 [] 1 _ [vi 3] rfl ?_
  refine st3 _ ?_
  refine own_b X3 hx hby tb16 6 [] 9 (L_riiruu a1 0 3 b2) [vi 3, vi 0, vr b2, vi 0, vr a1] rfl ?_
  refine st10 _ ?_
  refine own_b X10 hx hby tb16 7 [false] 23 (L_riiriu a1 0 3 b2 2) [vi 3, vi 0, vr a1] (ai (by decide) rfl) ?_
  refine st13 _ ?_
  refine own_b X13 hx hby tb16 3 [] 32 (L_riirir a1 0 3 b2 2 b14) [vi 2, vr b14] rfl ?_
  refine st17 _ ?_
  refine own_b X17 hx hby tb16 3 [true] 56 _ [vr b14] (ai (tlt P9).2.2.1 rfl) ?_
  exact own_retA X17 hx hret rfl (hb hby d16_56) hr
theorem rm4_9 (hw : OW Z a0) (a1 a2 : Addr) (p4 : Int32) (w6 : ClassId) (p7 p8 p9 : Int32) (Z0 : n0 ≤ h0.size) (P1 : ab1 Z (vi p4)) (P2 : Old Z n0 h0) (P3 : ¬ (p4 = (0 : Int32))) (P4 : Arv Z h0 a2 w6 .char (3 : Int32) [vi p7, vi p8, vi p9] (vi 0)) (P5 : ¬ ((255 : Int32) < p7)) (P6 : ¬ ((255 : Int32) < p8)) (P7 : (255 : Int32) < p9) (P8 : ab2 Z (vi 1)) (P9 : ab3 Z (vi 0)) (P10 : ab4 Z (vi 8)) (P11 : (255 : Int32) < (nar .char (va8 ((va4 p9).toInt8.toInt32) ((va5 p9).toInt8.toInt32)))) (P12 : ab6 Z h0 a1 (vi 0)) (P13 : ab8 Z h0 a1) (P14 : n0 ≤ a1) (P15 : ab7 Z h0 a1 .null) :
    M4 l Z ws (orm 4 2 9 57) #[vr a1, vr a2, vi 0, vi 3, .null] h0 (fun v h L => ∃ b11 : Addr, ∃ kk10_0 : ClassId, v = none ∧ Fr n0 L ∧ Keep h0 h [a1] ∧ n0 ≤ b11 ∧ h0.size ≤ b11 ∧ ab6 Z h a1 (vi 1) ∧ ab7 Z h a1 (vr b11) ∧ Arv Z h b11 kk10_0 .byte (6 : Int32) [vi ((va4 p7).toInt8.toInt32), vi ((va5 p7).toInt8.toInt32), vi ((va4 p8).toInt8.toInt32), vi ((va5 p8).toInt8.toInt32), vi ((va4 p9).toInt8.toInt32), vi ((va5 p9).toInt8.toInt32)] (vi 0)) := by
  refine own_enter (plainFor_of_name pn_1) (L0 := (L_rriinu a1 a2 0 3)) ?_
  intro p e s m below meth c s₁ hx hby hml hown hnm hret hZ X0 e0
  have N0 := Fr.nil n0
  obtain ⟨T3, X3, e3, st3⟩ := initO X0 hx hZ hown (tw_19 hw) (tw_20 hw) (tw_21 hw) e0 (g := (mkF m 1 (L_rriinu a1 a2 0 3) [vr a1])) rfl (by rw [hml]; rfl) rfl (hb hby d4_1) (by decide) (W := 0) (by show 2 * 0 + _ ≤ _; exact Nat.le_of_eq rfl) (by decide)
  obtain ⟨T5, X5, e5, st5⟩ := getS2 X3 hx hZ hown (host := "") (Or.inl (tw_49 hw)) Via.refl e3 (Sta.ext P2.2 P1) (g := (mkF m 27 (L_rriinu a1 a2 0 3) [])) rfl (hb hby d4_27)
  obtain ⟨T10, L10, _, X10, ⟨b11, kk10_0, rfl, N10q, K10, qa10_0, qb10_0, f10_0⟩, st10⟩ := own_callS X5 hx hZ hown (cw_12 hw) (rm16_8 hw a2 w6 p7 p8 p9 Z0 P4 P5 P6 P7 P8 P2 P9 P10 P11) e5 (Ls := (L_rriinu a1 a2 0 3)) hml [vr a2, vi 0, vi 3] [] pd_15 0 (hb hby d4_36)
  have N10 := Fr.app N0 N10q
  have qd10_0 := Nat.le_trans (Nat.le_refl h0.size) qb10_0
  obtain ⟨T12, L12, _, X12, ⟨rfl, N12q, e12q⟩, st12⟩ := own_callS X10 hx hZ hown (cw_13 hw) (rm18_5 hw b11 kk10_0 ((va4 p7).toInt8.toInt32) ((va5 p7).toInt8.toInt32) ((va4 p8).toInt8.toInt32) ((va5 p8).toInt8.toInt32) ((va4 p9).toInt8.toInt32) ((va5 p9).toInt8.toInt32) (Nat.le_trans Z0 K10.1) f10_0) rfl (Ls := (L_rriinr a1 a2 0 3 b11)) hml [vr b11, vi 3] [vr a1] pd_17 1 (hb hby d4_45)
  have N12 := Fr.app N10 N12q
  have F13 := (Fld.keep P12 K10 nin0)
  have F14 := (Exa.keep P13 K10)
  obtain ⟨T15, h15, X15, e15, W15, st15⟩ := putF X12 hx hZ hown (host := "") (Or.inl (tw_29 hw)) Via.refl e12q F13 F14 (Or.inr ⟨(tw_25 hw), rfl, hnm⟩) (tw_9 hw) (ty := .byte) (by decide) rfl rfl (g := (mkF m 48 (L_rriinr a1 a2 0 3 b11) [vi 1, vr a1])) rfl rfl (hb hby d4_48)
  have N15 := Fr.snoc X15 N12 P14
  have Fw15 := Fld.same W15 F13
  have F16 := (Fld.other W15 (Fld.keep P15 K10 nin0) (Or.inr (slot_ne (Or.inr (tw_24 hw)) (Or.inr (tw_25 hw)) (by decide) (t := (.array .byte)) (t' := .byte) (by decide) (by decide))))
  have F17 := (Exa.wr W15 F14)
  obtain ⟨T18, h18, X18, e18, W18, st18⟩ := putF X15 hx hZ hown (host := "") (Or.inl (tw_28 hw)) Via.refl e15 F16 F17 (Or.inr ⟨(tw_24 hw), rfl, hnm⟩) (tw_9 hw) (ty := (.array .byte)) (by decide) rfl rfl (g := (mkF m 54 (L_rriinr a1 a2 0 3 b11) [vr b11, vr a1])) rfl rfl (hb hby d4_54)
  have N18 := Fr.snoc X18 N15 P14
  have Fw18 := Fld.same W18 F16
  have F19 := (Fld.other W18 Fw15 (Or.inr (slot_ne (Or.inr (tw_25 hw)) (Or.inr (tw_24 hw)) (by decide) (t := .byte) (t' := (.array .byte)) (by decide) (by decide))))
  have n20 := Nat.ne_of_lt (Nat.lt_of_lt_of_le P12.lt qb10_0)
  have F21 := (Arv.other (Arv.other f10_0 W15 (Ne.symm n20)) W18 (Ne.symm n20))
  have K22 := (Keep.refl h0 [a1]).trans K10 all0
  have K23 := K22.wr W15 (Or.inl (List.mem_of_getElem? (i := 0) rfl))
  have K24 := K23.wr W18 (Or.inl (List.mem_of_getElem? (i := 0) rfl))
  refine ⟨T18, _, _, _, _, none, X18, e18, by decide, by decide, (fun _ => rfl), ⟨b11, kk10_0, rfl, N18, K24, qa10_0, qd10_0, F19, Fw18, F21⟩, fun fs hr => ?_⟩
  refine own_b X0 hx hby tb4 1 [] 1 _ [vr a1] rfl ?_
  refine st3 _ ?_
  refine own_b X3 hx hby tb4 2 [true] 27 _ [] (ai (by decide) rfl) ?_
  refine st5 _ ?_
  refine own_b X5 hx hby tb4 4 [false] 36 _ [vi 3, vi 0, vr a2] (ai (feq P3).1 rfl) ?_
  refine st10 _ ?_
  refine own_b X10 hx hby tb4 4 [] 45 (L_rriinr a1 a2 0 3 b11) [vi 3, vr b11, vr a1] rfl ?_
  refine st12 _ ?_
  refine st15 _ ?_
  refine own_b X15 hx hby tb4 2 [] 54 _ [vr b11, vr a1] rfl ?_
  refine st18 _ ?_
  show OS p e below T18 m 57 (L_rriinr a1 a2 0 3 b11) [] _
  exact X18.returnOut hx hret (hb hby d4_57) hr
theorem rm3_9 (hw : OW Z a0) (a1 a2 : Addr) (w3 : ClassId) (p4 p5 p6 p7 : Int32) (Z0 : n0 ≤ h0.size) (P1 : Arv Z h0 a2 w3 .char (3 : Int32) [vi p4, vi p5, vi p6] (vi 0)) (P2 : ab1 Z (vi p7)) (P3 : Old Z n0 h0) (P4 : ¬ (p7 = (0 : Int32))) (P5 : ¬ ((255 : Int32) < p4)) (P6 : ¬ ((255 : Int32) < p5)) (P7 : (255 : Int32) < p6) (P8 : ab2 Z (vi 1)) (P9 : ab3 Z (vi 0)) (P10 : ab4 Z (vi 8)) (P11 : (255 : Int32) < (nar .char (va8 ((va4 p6).toInt8.toInt32) ((va5 p6).toInt8.toInt32)))) (P12 : ab6 Z h0 a1 (vi 0)) (P13 : ab8 Z h0 a1) (P14 : n0 ≤ a1) (P15 : ab7 Z h0 a1 .null) :
    M3 l Z ws (orm 5 2 9 74) #[vr a1, vr a2] h0 (fun v h L => ∃ b9 : Addr, ∃ kk8_0 : ClassId, v = none ∧ Fr n0 L ∧ Keep h0 h [a1] ∧ n0 ≤ b9 ∧ h0.size ≤ b9 ∧ ab6 Z h a1 (vi 1) ∧ ab7 Z h a1 (vr b9) ∧ Arv Z h b9 kk8_0 .byte (6 : Int32) [vi ((va4 p4).toInt8.toInt32), vi ((va5 p4).toInt8.toInt32), vi ((va4 p5).toInt8.toInt32), vi ((va5 p5).toInt8.toInt32), vi ((va4 p6).toInt8.toInt32), vi ((va5 p6).toInt8.toInt32)] (vi 0)) := by
  refine own_enter (plainFor_of_name pn_1) (L0 := (L_rr a1 a2)) ?_
  intro p e s m below meth c s₁ hx hby hml hown hnm hret hZ X0 e0
  have N0 := Fr.nil n0
  obtain ⟨T8, L8, _, X8, ⟨b9, kk8_0, rfl, N8q, K8, qa8_0, qb8_0, f8_0, f8_1, f8_2⟩, st8⟩ := own_callI X0 hx hZ hown (cw_14 hw) (rm4_9 hw a1 a2 p7 w3 p4 p5 p6 Z0 P2 P3 P4 P1 P5 P6 P7 P8 P9 P10 P11 P12 P13 P14 P15) e0 (Ls := (L_rr a1 a2)) hml a1 [vr a2, vi 0, vi 3, .null] [] pd_1 0 (hb hby d3_6)
  have N8 := Fr.app N0 N8q
  have qd8_0 := Nat.le_trans (Nat.le_refl h0.size) qb8_0
  have K10 := (Keep.refl h0 [a1]).trans K8 (allS (Or.inl (List.mem_of_getElem? (i := 0) rfl)) all0)
  refine ⟨T8, _, _, _, _, none, X8, rfl, by decide, by decide, (fun _ => rfl), ⟨b9, kk8_0, rfl, N8, K10, qa8_0, qd8_0, f8_0, f8_1, f8_2⟩, fun fs hr => ?_⟩
  refine own_a X0 hx hZ e0 hby tb3 (aec P1 aen) 6 [] [0] 6 _ [.null, vi 3, vi 0, vr a2, vr a1] (ai rfl rfl) ?_
  refine st8 _ ?_
  show OS p e below T8 m 9 (L_rr a1 a2) [] _
  exact X8.returnOut hx hret (hb hby d3_9) hr
theorem rm2_9 (hw : OW Z a0) (p1 p2 p3 p4 p14 : Int32) (Z0 : n0 ≤ h0.size) (P1 : ab1 Z (vi p14)) (P2 : Old Z n0 h0) (P3 : ¬ (p14 = (0 : Int32))) (P4 : ¬ ((255 : Int32) < (nar .char p1))) (P5 : ¬ ((255 : Int32) < (nar .char p2))) (P6 : (255 : Int32) < (nar .char p3)) (P7 : ab2 Z (vi 1)) (P8 : ab3 Z (vi 0)) (P9 : ab4 Z (vi 8)) (P10 : (255 : Int32) < (nar .char (va8 ((va4 (nar .char p3)).toInt8.toInt32) ((va5 (nar .char p3)).toInt8.toInt32)))) :
    M2 l Z ws (orm 6 4 16 88) #[vi 3, vi p1, vi p2, vi p3, vi p4] h0 (fun v h L => ∃ b5 : Addr, ∃ b22 : Addr, ∃ kk20_0 : ClassId, v = some (vr b5) ∧ Fr n0 L ∧ Keep h0 h [] ∧ n0 ≤ b5 ∧ h0.size ≤ b5 ∧ n0 ≤ b22 ∧ h0.size ≤ b22 ∧ b5 ≠ b22 ∧ ab8 Z h b5 ∧ ab6 Z h b5 (vi 1) ∧ ab7 Z h b5 (vr b22) ∧ Arv Z h b22 kk20_0 .byte (6 : Int32) [vi ((va4 (nar .char p1)).toInt8.toInt32), vi ((va5 (nar .char p1)).toInt8.toInt32), vi ((va4 (nar .char p2)).toInt8.toInt32), vi ((va5 (nar .char p2)).toInt8.toInt32), vi ((va4 (nar .char p3)).toInt8.toInt32), vi ((va5 (nar .char p3)).toInt8.toInt32)] (vi 0)) := by
  refine own_enter (plainFor_of_name pn_0) (L0 := (L_iiiii 3 p1 p2 p3 p4)) ?_
  intro p e s m below meth c s₁ hx hby hml hown hnm hret hZ X0 e0
  have N0 := Fr.nil n0
  obtain ⟨T6, h6, b5, X6, e6, E6, g6, A6, D6, st6⟩ := own_new X0 hx hZ hown (tw_8 hw) (tw_9 hw) (tw_10 hw) e0 (Ls := (L_iiiii 3 p1 p2 p3 p4)) (S := []) (hb hby d2_64)
  have q6 := Nat.le_trans Z0 g6
  have z6 := Nat.le_trans (Nat.le_refl h0.size) g6
  have F7 : ab7 Z h6 b5 .null := D6 (Or.inr (tw_24 hw)) (ty := (.array .byte)) (by decide)
  have F8 : ab6 Z h6 b5 (vi 0) := D6 (Or.inr (tw_25 hw)) (ty := .byte) (by decide)
  obtain ⟨T10, h10, b9, k10, X10, e10, E10, g10, V10, st10⟩ := own_newP X6 hx hZ (tw_11 hw) e6 (n := (3 : Int32)) (k := 3) (d := (vi 0)) (vs := [vi 0, vi 0, vi 0]) (Ls := (L_iiiii 3 p1 p2 p3 p4)) (S := [vr b5, vr b5]) (hb hby d2_69)
  have q10 := Nat.le_trans (Nat.le_trans Z0 E6.1) g10
  have z10 := Nat.le_trans (Nat.le_trans (Nat.le_refl h0.size) E6.1) g10
  obtain ⟨T11, h11, X11, e11, W11, V11, st11⟩ := own_stC X10 hx hZ e10 V10 (j := (0 : Int32)) (x := p1) (by decide) 0 rfl (Nat.le_of_ble_eq_true rfl) (Ls := (L_iiiii 3 p1 p2 p3 p4)) (rest := [vr b9, vr b5, vr b5]) (hb hby d2_74)
  have N11 := Fr.snoc X11 N0 q10
  obtain ⟨T12, h12, X12, e12, W12, V12, st12⟩ := own_stC X11 hx hZ e11 V11 (j := (1 : Int32)) (x := p2) (by decide) 1 rfl (Nat.le_of_ble_eq_true rfl) (Ls := (L_iiiii 3 p1 p2 p3 p4)) (rest := [vr b9, vr b5, vr b5]) (hb hby d2_78)
  have N12 := Fr.snoc X12 N11 q10
  obtain ⟨T13, h13, X13, e13, W13, V13, st13⟩ := own_stC X12 hx hZ e12 V12 (j := (2 : Int32)) (x := p3) (by decide) 2 rfl (Nat.le_of_ble_eq_true rfl) (Ls := (L_iiiii 3 p1 p2 p3 p4)) (rest := [vr b9, vr b5, vr b5]) (hb hby d2_82)
  have N13 := Fr.snoc X13 N12 q10
  have F15 := (((((P2.ext E6).ext E10).wr W11 q10).wr W12 q10).wr W13 q10)
  have n16 := Nat.ne_of_lt (Nat.lt_of_lt_of_le A6.lt g10)
  have F17 := (Fld.other W13 (Fld.other W12 (Fld.other W11 (Fld.ext E10 F8) (Or.inl n16)) (Or.inl n16)) (Or.inl n16))
  have F18 := (Exa.wr W13 (Exa.wr W12 (Exa.wr W11 (Exa.ext E10 A6))))
  have F19 := (Fld.other W13 (Fld.other W12 (Fld.other W11 (Fld.ext E10 F7) (Or.inl n16)) (Or.inl n16)) (Or.inl n16))
  have F21 := (Nat.le_trans (Nat.le_trans (Nat.le_trans (Nat.le_trans (Nat.le_trans Z0 E6.1) E10.1) (Keep.of_wr W11).1) (Keep.of_wr W12).1) (Keep.of_wr W13).1)
  obtain ⟨T20, L20, _, X20, ⟨b22, kk20_0, rfl, N20q, K20, qa20_0, qb20_0, f20_0, f20_1, f20_2⟩, st20⟩ := own_callI X13 hx hZ hown (cw_15 hw) (rm3_9 hw b5 b9 k10 (nar .char p1) (nar .char p2) (nar .char p3) p14 F21 V13 P1 F15 P3 P4 P5 P6 P7 P8 P9 P10 F17 F18 q6 F19) e13 (Ls := (L_iiiii 3 p1 p2 p3 p4)) hml b5 [vr b9] [vr b5] pd_2 1 (hb hby d2_83)
  have N20 := Fr.app N13 N20q
  have F23 := (Nat.le_trans (Nat.le_trans (Nat.le_trans (Nat.le_trans (Nat.le_trans (Nat.le_refl h0.size) E6.1) E10.1) (Keep.of_wr W11).1) (Keep.of_wr W12).1) (Keep.of_wr W13).1)
  have qd20_0 := Nat.le_trans F23 qb20_0
  have F24 := (Exa.keep F18 K20)
  have K25 := (Keep.refl h0 []).ext E6
  have K26 := K25.ext E10
  have K27 := K26.wr W11 (Or.inr z10)
  have K28 := K27.wr W12 (Or.inr z10)
  have K29 := K28.wr W13 (Or.inr z10)
  have K30 := K29.trans K20 (allS (Or.inr z6) all0)
  have n31 := Nat.ne_of_lt (Nat.lt_of_lt_of_le F17.lt qb20_0)
  refine ⟨T20, _, _, _, _, some (vr b5), X20, rfl, by decide, by decide, nofun, ⟨b5, b22, kk20_0, rfl, N20, K30, q6, z6, qa20_0, qd20_0, n31, F24, f20_0, f20_1, f20_2⟩, fun fs hr => ?_⟩
  refine own_b X0 hx hby tb2 11 [true, true, true, false] 64 _ [] (ai (by decide) (ai (by decide) (ai (by decide) (ai (by decide) rfl)))) ?_
  refine st6 _ ?_
  refine own_b X6 hx hby tb2 2 [] 69 _ [vi 3, vr b5, vr b5] rfl ?_
  refine st10 _ ?_
  refine own_b X10 hx hby tb2 3 [] 74 _ [vi p1, vi 0, vr b9, vr b9, vr b5, vr b5] rfl ?_
  refine st11 _ ?_
  refine own_b X11 hx hby tb2 3 [] 78 _ [vi p2, vi 1, vr b9, vr b9, vr b5, vr b5] rfl ?_
  refine st12 _ ?_
  refine own_b X12 hx hby tb2 3 [] 82 _ [vi p3, vi 2, vr b9, vr b9, vr b5, vr b5] rfl ?_
  refine st13 _ ?_
  refine st20 _ ?_
  exact own_retA X20 hx hret rfl (hb hby d2_86) hr
theorem rm31_16 (hw : OW Z a0) (a1 : Addr) (w2 : ClassId) (p3 p4 p5 p6 p7 p8 : Int32) (Z0 : n0 ≤ h0.size) (P1 : ab2 Z (vi 1)) (P2 : Old Z n0 h0) (P3 : Arv Z h0 a1 w2 .byte (6 : Int32) [vi p3, vi p4, vi p5, vi p6, vi p7, vi p8] (vi 0)) (P4 : ab3 Z (vi 0)) (P5 : ab4 Z (vi 8)) (H1 : ¬ ((nar .char (va8 p3 p4)) = (42 : Int32))) (H2 : (nar .char (va8 p5 p6)) = (42 : Int32)) :
    M31 l Z ws (orm 1 0 0 13) #[vr a1, vi 42, vi 0, vi 3] h0 (QI n0 h0 (vi 1)) := by
  refine own_enter (plainFor_of_name pn_4) (L0 := (L_riiiu a1 42 0 3)) ?_
  intro p e s m below meth c s₁ hx hby hml hown hnm hret hZ X0 e0
  have N0 := Fr.nil n0
  obtain ⟨T9, L9, _, X9, ⟨rfl, N9q, e9q⟩, st9⟩ := own_callS X0 hx hZ hown (cw_11 hw) (rm24_4 hw a1 w2 p3 p4 p5 p6 p7 p8 Z0 P1 P2 P3 P4 P5) e0 (Ls := (L_riiii a1 42 0 3 0)) hml [vr a1, vi 0] [] pd_16 0 (hb hby d31_12)
  have N9 := Fr.app N0 N9q
  obtain ⟨T10, L10, _, X10, ⟨rfl, N10q, e10q⟩, st10⟩ := own_callS X9 hx hZ hown (cw_11 hw) (rm24_5 hw a1 w2 p3 p4 p5 p6 p7 p8 Z0 P1 P2 P3 P4 P5) e9q (Ls := (L_riiii a1 42 0 3 1)) hml [vr a1, vi 1] [] pd_16 0 (hb hby d31_12)
  have N10 := Fr.app N9 N10q
  refine ⟨T10, _, _, _, _, some (vi 1), X10, e10q, by decide, by decide, nofun, ⟨rfl, N10, rfl⟩, fun fs hr => ?_⟩
  refine own_b X0 hx hby tb31 7 [false] 12 (L_riiii a1 42 0 3 0) [vi 0, vr a1] (ai (by decide) rfl) ?_
  refine st9 _ ?_
  refine own_b X9 hx hby tb31 9 [true, false] 12 (L_riiii a1 42 0 3 1) [vi 1, vr a1] (ai (feq H1).2 (ai (by decide) rfl)) ?_
  refine st10 _ ?_
  refine own_b X10 hx hby tb31 3 [false] 21 _ [vi 1] (ai (teq H2).2 rfl) ?_
  exact retI X10 hx hret (hb hby d31_21) hr
theorem rm31_17 (hw : OW Z a0) (a1 : Addr) (w2 : ClassId) (p3 p4 p5 p6 p7 p8 : Int32) (Z0 : n0 ≤ h0.size) (P1 : ab2 Z (vi 1)) (P2 : Old Z n0 h0) (P3 : Arv Z h0 a1 w2 .byte (6 : Int32) [vi p3, vi p4, vi p5, vi p6, vi p7, vi p8] (vi 0)) (P4 : ab3 Z (vi 0)) (P5 : ab4 Z (vi 8)) (P6 : ¬ ((nar .char (va8 p7 p8)) = (42 : Int32))) (H1 : ¬ ((nar .char (va8 p3 p4)) = (42 : Int32))) (H2 : ¬ ((nar .char (va8 p5 p6)) = (42 : Int32))) :
    M31 l Z ws (orm 1 0 0 13) #[vr a1, vi 42, vi 0, vi 3] h0 (QI n0 h0 (vi (-1))) := by
  refine own_enter (plainFor_of_name pn_4) (L0 := (L_riiiu a1 42 0 3)) ?_
  intro p e s m below meth c s₁ hx hby hml hown hnm hret hZ X0 e0
  have N0 := Fr.nil n0
  obtain ⟨T9, L9, _, X9, ⟨rfl, N9q, e9q⟩, st9⟩ := own_callS X0 hx hZ hown (cw_11 hw) (rm24_4 hw a1 w2 p3 p4 p5 p6 p7 p8 Z0 P1 P2 P3 P4 P5) e0 (Ls := (L_riiii a1 42 0 3 0)) hml [vr a1, vi 0] [] pd_16 0 (hb hby d31_12)
  have N9 := Fr.app N0 N9q
  obtain ⟨T10, L10, _, X10, ⟨rfl, N10q, e10q⟩, st10⟩ := own_callS X9 hx hZ hown (cw_11 hw) (rm24_5 hw a1 w2 p3 p4 p5 p6 p7 p8 Z0 P1 P2 P3 P4 P5) e9q (Ls := (L_riiii a1 42 0 3 1)) hml [vr a1, vi 1] [] pd_16 0 (hb hby d31_12)
  have N10 := Fr.app N9 N10q
  obtain ⟨T11, L11, _, X11, ⟨rfl, N11q, e11q⟩, st11⟩ := own_callS X10 hx hZ hown (cw_11 hw) (rm24_6 hw a1 w2 p3 p4 p5 p6 p7 p8 Z0 P1 P2 P3 P4 P5) e10q (Ls := (L_riiii a1 42 0 3 2)) hml [vr a1, vi 2] [] pd_16 0 (hb hby d31_12)
  have N11 := Fr.app N10 N11q
  refine ⟨T11, _, _, _, _, some (vi (-1)), X11, e11q, by decide, by decide, nofun, ⟨rfl, N11, rfl⟩, fun fs hr => ?_⟩
  refine own_b X0 hx hby tb31 7 [false] 12 (L_riiii a1 42 0 3 0) [vi 0, vr a1] (ai (by decide) rfl) ?_
  refine st9 _ ?_
  refine own_b X9 hx hby tb31 9 [true, false] 12 (L_riiii a1 42 0 3 1) [vi 1, vr a1] (ai (feq H1).2 (ai (by decide) rfl)) ?_
  refine st10 _ ?_
  refine own_b X10 hx hby tb31 9 [true, false] 12 (L_riiii a1 42 0 3 2) [vi 2, vr a1] (ai (feq H2).2 (ai (by decide) rfl)) ?_
  refine st11 _ ?_
  refine own_b X11 hx hby tb31 8 [true, true] 29 (L_riiii a1 42 0 3 3) [vi (-1)] (ai (feq P6).2 (ai (by decide) rfl)) ?_
  exact retI X11 hx hret (hb hby d31_29) hr
theorem rm31_18 (hw : OW Z a0) (a1 : Addr) (w2 : ClassId) (p3 p4 p5 p6 p7 p8 : Int32) (Z0 : n0 ≤ h0.size) (P1 : ab2 Z (vi 1)) (P2 : Old Z n0 h0) (P3 : Arv Z h0 a1 w2 .byte (6 : Int32) [vi p3, vi p4, vi p5, vi p6, vi p7, vi p8] (vi 0)) (P4 : ab3 Z (vi 0)) (P5 : ab4 Z (vi 8)) (P6 : ¬ ((nar .char (va8 p7 p8)) = (42 : Int32))) :
    M31 l Z ws (orm 1 0 0 13) #[vr a1, vi 42, vi 0, vi 3] h0 (QI n0 h0 (vi (va31 p3 p4 p5 p6))) := by
  by_cases H1 : (nar .char (va8 p3 p4)) = (42 : Int32)
  ·
    rw [show (va31 p3 p4 p5 p6) = (0 : Int32) from by simp only [va31, if_pos H1]]
    exact rm31_12 hw a1 w2 p3 p4 p5 p6 p7 p8 Z0 P1 P2 P3 P4 P5 H1
  ·
    by_cases H2 : (nar .char (va8 p5 p6)) = (42 : Int32)
    ·
      rw [show (va31 p3 p4 p5 p6) = (1 : Int32) from by simp only [va31, if_neg H1, if_pos H2]]
      exact rm31_16 hw a1 w2 p3 p4 p5 p6 p7 p8 Z0 P1 P2 P3 P4 P5 H1 H2
    ·
      rw [show (va31 p3 p4 p5 p6) = (-1 : Int32) from by simp only [va31, if_neg H1, if_neg H2]]
      exact rm31_17 hw a1 w2 p3 p4 p5 p6 p7 p8 Z0 P1 P2 P3 P4 P5 P6 H1 H2
theorem rm26_6 (hw : OW Z a0) (a1 : Addr) (w2 : ClassId) (p3 p4 p5 p6 p7 p8 : Int32) (a9 : Value) (Z0 : n0 ≤ h0.size) (P1 : Arv Z h0 a1 w2 .byte (6 : Int32) [vi p3, vi p4, vi p5, vi p6, vi p7, vi p8] (vi 0)) (P2 : ab5 Z a9) (P3 : Old Z n0 h0) (P4 : a9.isRef = true) (P5 : ab2 Z (vi 1)) (P6 : ab3 Z (vi 0)) (P7 : ab4 Z (vi 8)) (P8 : ¬ ((nar .char (va8 p7 p8)) = (42 : Int32))) :
    M26 l Z ws (orm 3 0 0 43) #[vr a1, vi 42, vi 0, vi 3] h0 (QI n0 h0 (vi (va31 p3 p4 p5 p6))) := by
  refine own_enter (plainFor_of_name pn_4) (L0 := (L_riii a1 42 0 3)) ?_
  intro p e s m below meth c s₁ hx hby hml hown hnm hret hZ X0 e0
  have N0 := Fr.nil n0
  obtain ⟨T10, L10, _, X10, ⟨rfl, N10q, e10q⟩, st10⟩ := own_callS X0 hx hZ hown (cw_22 hw) (rm27_3 hw a1 w2 p3 p4 p5 p6 p7 p8 a9 Z0 P1 P2 P3 P4) e0 (Ls := (L_riii a1 42 0 3)) hml [vi 0, vi 3, vr a1] [] pd_21 0 (hb hby d26_3)
  have N10 := Fr.app N0 N10q
  obtain ⟨T11, L11, _, X11, ⟨rfl, N11q, e11q⟩, st11⟩ := own_callS X10 hx hZ hown (cw_23 hw) (rm31_18 hw a1 w2 p3 p4 p5 p6 p7 p8 Z0 P5 P3 P1 P6 P7 P8) e10q (Ls := (L_riii a1 42 0 3)) hml [vr a1, vi 42, vi 0, vi 3] [] pd_9 0 (hb hby d26_10)
  have N11 := Fr.app N10 N11q
  refine ⟨T11, _, _, _, _, some (vi (va31 p3 p4 p5 p6)), X11, e11q, by decide, by decide, nofun, ⟨rfl, N11, rfl⟩, fun fs hr => ?_⟩
  refine own_b X0 hx hby tb26 3 [] 3 _ [vr a1, vi 3, vi 0] rfl ?_
  refine st10 _ ?_
  refine own_b X10 hx hby tb26 4 [] 10 _ [vi 3, vi 0, vi 42, vr a1] rfl ?_
  refine st11 _ ?_
  exact retI X11 hx hret (hb hby d26_13) hr
theorem rm25_6 (hw : OW Z a0) (a1 : Addr) (w3 : ClassId) (p4 p5 p6 p7 p8 p9 : Int32) (a11 : Value) (Z0 : n0 ≤ h0.size) (P1 : Arv Z h0 a1 w3 .byte (6 : Int32) [vi p4, vi p5, vi p6, vi p7, vi p8, vi p9] (vi 0)) (P2 : ab5 Z a11) (P3 : Old Z n0 h0) (P4 : a11.isRef = true) (P5 : ab2 Z (vi 1)) (P6 : ab3 Z (vi 0)) (P7 : ab4 Z (vi 8)) (P8 : ¬ ((nar .char (va8 p8 p9)) = (42 : Int32))) :
    M25 l Z ws (orm 4 0 0 58) #[vr a1, vi 42, vi 0, vi 3] h0 (QI n0 h0 (vi (va31 p4 p5 p6 p7))) := by
  refine own_enter (plainFor_of_name pn_4) (L0 := (L_riii a1 42 0 3)) ?_
  intro p e s m below meth c s₁ hx hby hml hown hnm hret hZ X0 e0
  have N0 := Fr.nil n0
  obtain ⟨T2, L2, _, X2, ⟨rfl, N2q, e2q⟩, st2⟩ := own_callS X0 hx hZ hown (cw_17 hw) (rm14_1 hw  Z0 ) e0 (Ls := (L_riii a1 42 0 3)) hml [vi 0, vi 0] [] pd_8 0 (hb hby d25_2)
  have N2 := Fr.app N0 N2q
  obtain ⟨T10, L10, _, X10, ⟨rfl, N10q, e10q⟩, st10⟩ := own_callS X2 hx hZ hown (cw_18 hw) (rm15_4 hw  Z0 ) e2q (Ls := (L_riii a1 42 0 3)) hml [vi 3, vi 3] [] pd_8 0 (hb hby d25_11)
  have N10 := Fr.app N2 N10q
  obtain ⟨T12, L12, _, X12, ⟨rfl, N12q, e12q⟩, st12⟩ := own_callS X10 hx hZ hown (cw_24 hw) (rm26_6 hw a1 w3 p4 p5 p6 p7 p8 p9 a11 Z0 P1 P2 P3 P4 P5 P6 P7 P8) e10q (Ls := (L_riii a1 42 0 3)) hml [vr a1, vi 42, vi 0, vi 3] [] pd_9 0 (hb hby d25_32)
  have N12 := Fr.app N10 N12q
  refine ⟨T12, _, _, _, _, some (vi (va31 p4 p5 p6 p7)), X12, e12q, by decide, by decide, nofun, ⟨rfl, N12, rfl⟩, fun fs hr => ?_⟩
  refine own_b X0 hx hby tb25 2 [] 2 _ [vi 0, vi 0] rfl ?_
  refine st2 _ ?_
  refine own_a X2 hx hZ e2q hby tb25 (aec P1 aen) 6 [] [0] 11 (L_riii a1 42 0 3) [vi 3, vi 3] (ai rfl rfl) ?_
  refine st10 _ ?_
  refine own_b X10 hx hby tb25 5 [true] 23 (L_riii a1 42 0 3) [vi 42] (ai (by decide) rfl) ?_
  refine X10.ldcInt hx hown (mvT hZ (tw_112 hw)) (g := (mkF m 23 (L_riii a1 42 0 3) [vi 42])) rfl (hb hby d25_23) _ ?_
  show OS p e below T10 m 25 (L_riii a1 42 0 3) [vi 65536, vi 42] _
  refine own_b X10 hx hby tb25 5 [false] 32 _ [vi 3, vi 0, vi 42, vr a1] (ai (by decide) rfl) ?_
  refine st12 _ ?_
  exact retI X12 hx hret (hb hby d25_35) hr
theorem rm8_9 (hw : OW Z a0) (a1 : Addr) (p2 : Int32) (a4 : Addr) (w6 : ClassId) (p7 p8 p9 p10 p11 p12 : Int32) (a14 : Value) (Z0 : n0 ≤ h0.size) (P1 : ab8 Z h0 a1) (P2 : ab1 Z (vi p2)) (P3 : Old Z n0 h0) (P4 : ¬ (p2 = (0 : Int32))) (P5 : ab6 Z h0 a1 (vi 1)) (P6 : ab7 Z h0 a1 (vr a4)) (P7 : Arv Z h0 a4 w6 .byte (6 : Int32) [vi p7, vi p8, vi p9, vi p10, vi p11, vi p12] (vi 0)) (P8 : ab5 Z a14) (P9 : a14.isRef = true) (P10 : ab2 Z (vi 1)) (P11 : ab3 Z (vi 0)) (P12 : ab4 Z (vi 8)) (P13 : ¬ ((nar .char (va8 p11 p12)) = (42 : Int32))) :
    M8 l Z ws (orm 5 0 0 73) #[vr a1, vi 42, vi 0] h0 (QI n0 h0 (vi (va31 p7 p8 p9 p10))) := by
  refine own_enter (plainFor_of_name pn_1) (L0 := (L_rii a1 42 0)) ?_
  intro p e s m below meth c s₁ hx hby hml hown hnm hret hZ X0 e0
  have N0 := Fr.nil n0
  obtain ⟨T3, L3, _, X3, ⟨rfl, N3q, e3q⟩, st3⟩ := own_callV X0 hx hZ hown (tw_44 hw) (tw_45 hw) (notFace_of_selects (args := #[]) (mvT hZ (tw_47 hw))) (tw_47 hw) (tw_46 hw) (tw_10 hw) (tw_48 hw) (rm9_2 hw a1 p2 Z0 P2 P3 P4 P5) e0 P1 (Ls := (L_rii a1 42 0)) hml [] [] pd_4 0 (hb hby d8_1)
  have N3 := Fr.app N0 N3q
  obtain ⟨T5, X5, e5, st5⟩ := getF X3 hx hZ hown (host := "") (Or.inl (tw_28 hw)) Via.refl e3q P6 (g := (mkF m 24 (L_rii a1 42 0) [vr a1])) rfl rfl (hb hby d8_24)
  obtain ⟨T13, L13, _, X13, ⟨rfl, N13q, e13q⟩, st13⟩ := own_callV X5 hx hZ hown (tw_50 hw) (tw_51 hw) (notFace_of_selects (args := #[]) (mvT hZ (tw_53 hw))) (tw_53 hw) (tw_52 hw) (tw_10 hw) (tw_54 hw) (rm10_6 hw a1 a4 w6 p7 p8 p9 p10 p11 p12 p2 Z0 P6 P7 P1 P2 P3 P4 P5) e5 P1 (Ls := (L_rii a1 42 0)) hml [] [vi 0, vi 42, vr a4] pd_6 3 (hb hby d8_30)
  have N13 := Fr.app N3 N13q
  obtain ⟨T15, L15, _, X15, ⟨rfl, N15q, e15q⟩, st15⟩ := own_callS X13 hx hZ hown (cw_25 hw) (rm25_6 hw a4 w6 p7 p8 p9 p10 p11 p12 a14 Z0 P7 P8 P3 P9 P10 P11 P12 P13) e13q (Ls := (L_rii a1 42 0)) hml [vr a4, vi 42, vi 0, vi 3] [] pd_9 0 (hb hby d8_33)
  have N15 := Fr.app N13 N15q
  refine ⟨T15, _, _, _, _, some (vi (va31 p7 p8 p9 p10)), X15, e15q, by decide, by decide, nofun, ⟨rfl, N15, rfl⟩, fun fs hr => ?_⟩
  refine own_b X0 hx hby tb8 1 [] 1 _ [vr a1] rfl ?_
  refine st3 _ ?_
  refine own_b X3 hx hby tb8 2 [true] 24 _ [vr a1] (ai (by decide) rfl) ?_
  refine st5 _ ?_
  refine own_b X5 hx hby tb8 3 [] 30 _ [vr a1, vi 0, vi 42, vr a4] rfl ?_
  refine st13 _ ?_
  refine st15 _ ?_
  exact retI X15 hx hret (hb hby d8_36) hr
theorem rm7_9 (hw : OW Z a0) (a1 : Addr) (p2 : Int32) (a3 : Addr) (w4 : ClassId) (p5 p6 p7 p8 p9 p10 : Int32) (a11 : Value) (Z0 : n0 ≤ h0.size) (P1 : ab8 Z h0 a1) (P2 : ab1 Z (vi p2)) (P3 : Old Z n0 h0) (P4 : ¬ (p2 = (0 : Int32))) (P5 : ab6 Z h0 a1 (vi 1)) (P6 : ab7 Z h0 a1 (vr a3)) (P7 : Arv Z h0 a3 w4 .byte (6 : Int32) [vi p5, vi p6, vi p7, vi p8, vi p9, vi p10] (vi 0)) (P8 : ab5 Z a11) (P9 : a11.isRef = true) (P10 : ab2 Z (vi 1)) (P11 : ab3 Z (vi 0)) (P12 : ab4 Z (vi 8)) (P13 : ¬ ((nar .char (va8 p9 p10)) = (42 : Int32))) :
    M7 l Z ws (orm 6 0 0 87) #[vr a1, vi 42] h0 (QI n0 h0 (vi (va31 p5 p6 p7 p8))) := by
  refine own_enter (plainFor_of_name pn_1) (L0 := (L_ri a1 42)) ?_
  intro p e s m below meth c s₁ hx hby hml hown hnm hret hZ X0 e0
  have N0 := Fr.nil n0
  obtain ⟨T12, L12, _, X12, ⟨rfl, N12q, e12q⟩, st12⟩ := own_callV X0 hx hZ hown (tw_39 hw) (tw_40 hw) (notFace_of_selects (args := #[]) (mvT hZ (tw_42 hw))) (tw_42 hw) (tw_41 hw) (tw_10 hw) (tw_43 hw) (rm8_9 hw a1 p2 a3 w4 p5 p6 p7 p8 p9 p10 a11 Z0 P1 P2 P3 P4 P5 P6 P7 P8 P9 P10 P11 P12 P13) e0 P1 (Ls := (L_ri a1 42)) hml [vi 42, vi 0] [] pd_8 0 (hb hby d7_3)
  have N12 := Fr.app N0 N12q
  refine ⟨T12, _, _, _, _, some (vi (va31 p5 p6 p7 p8)), X12, e12q, by decide, by decide, nofun, ⟨rfl, N12, rfl⟩, fun fs hr => ?_⟩
  refine own_b X0 hx hby tb7 3 [] 3 _ [vi 0, vi 42, vr a1] rfl ?_
  refine st12 _ ?_
  exact retI X12 hx hret (hb hby d7_6) hr
theorem rm6_21 (hw : OW Z a0) (a1 : Addr) (p2 : Int32) (a3 : Addr) (w4 : ClassId) (p5 p6 p7 p8 p9 p10 : Int32) (a11 : Value) (Z0 : n0 ≤ h0.size) (P1 : ab8 Z h0 a1) (P2 : ab1 Z (vi p2)) (P3 : Old Z n0 h0) (P4 : ¬ (p2 = (0 : Int32))) (P5 : ab6 Z h0 a1 (vi 1)) (P6 : ab7 Z h0 a1 (vr a3)) (P7 : Arv Z h0 a3 w4 .byte (6 : Int32) [vi p5, vi p6, vi p7, vi p8, vi p9, vi p10] (vi 0)) (P8 : ab5 Z a11) (P9 : a11.isRef = true) (P10 : ab2 Z (vi 1)) (P11 : ab3 Z (vi 0)) (P12 : ab4 Z (vi 8)) (P13 : ¬ ((nar .char (va8 p9 p10)) = (42 : Int32))) (H1 : (va31 p5 p6 p7 p8) < (0 : Int32)) :
    M6 l Z ws (orm 7 0 0 100) #[vr a1] h0 (QI n0 h0 (vi 0)) := by
  refine own_enter (plainFor_of_name pn_3) (L0 := #[sr a1]) ?_
  intro p e s m below meth c s₁ hx hby hml hown hnm hret hZ X0 e0
  have N0 := Fr.nil n0
  obtain ⟨T12, L12, _, X12, ⟨rfl, N12q, e12q⟩, st12⟩ := own_callV X0 hx hZ hown (tw_34 hw) (tw_35 hw) (notFace_of_selects (args := #[]) (mvT hZ (tw_37 hw))) (tw_37 hw) (tw_36 hw) (tw_10 hw) (tw_38 hw) (rm7_9 hw a1 p2 a3 w4 p5 p6 p7 p8 p9 p10 a11 Z0 P1 P2 P3 P4 P5 P6 P7 P8 P9 P10 P11 P12 P13) e0 P1 (Ls := #[sr a1]) hml [vi 42] [] pd_10 0 (hb hby d6_3)
  have N12 := Fr.app N0 N12q
  refine ⟨T12, _, _, _, _, some (vi 0), X12, e12q, by decide, by decide, nofun, ⟨rfl, N12, rfl⟩, fun fs hr => ?_⟩
  refine own_b X0 hx hby tb6 2 [] 3 _ [vi 42, vr a1] rfl ?_
  refine st12 _ ?_
  refine own_b X12 hx hby tb6 2 [true] 14 _ [vi 0] (ai (tlt H1).1 rfl) ?_
  exact retN X12 hx (t := .boolean) hret (by simp) (hb hby d6_14) hr
theorem rm6_22 (hw : OW Z a0) (a1 : Addr) (p2 : Int32) (a3 : Addr) (w4 : ClassId) (p5 p6 p7 p8 p9 p10 : Int32) (a11 : Value) (Z0 : n0 ≤ h0.size) (P1 : ab8 Z h0 a1) (P2 : ab1 Z (vi p2)) (P3 : Old Z n0 h0) (P4 : ¬ (p2 = (0 : Int32))) (P5 : ab6 Z h0 a1 (vi 1)) (P6 : ab7 Z h0 a1 (vr a3)) (P7 : Arv Z h0 a3 w4 .byte (6 : Int32) [vi p5, vi p6, vi p7, vi p8, vi p9, vi p10] (vi 0)) (P8 : ab5 Z a11) (P9 : a11.isRef = true) (P10 : ab2 Z (vi 1)) (P11 : ab3 Z (vi 0)) (P12 : ab4 Z (vi 8)) (P13 : ¬ ((nar .char (va8 p9 p10)) = (42 : Int32))) (H1 : ¬ ((va31 p5 p6 p7 p8) < (0 : Int32))) :
    M6 l Z ws (orm 7 0 0 100) #[vr a1] h0 (QI n0 h0 (vi 1)) := by
  refine own_enter (plainFor_of_name pn_3) (L0 := #[sr a1]) ?_
  intro p e s m below meth c s₁ hx hby hml hown hnm hret hZ X0 e0
  have N0 := Fr.nil n0
  obtain ⟨T12, L12, _, X12, ⟨rfl, N12q, e12q⟩, st12⟩ := own_callV X0 hx hZ hown (tw_34 hw) (tw_35 hw) (notFace_of_selects (args := #[]) (mvT hZ (tw_37 hw))) (tw_37 hw) (tw_36 hw) (tw_10 hw) (tw_38 hw) (rm7_9 hw a1 p2 a3 w4 p5 p6 p7 p8 p9 p10 a11 Z0 P1 P2 P3 P4 P5 P6 P7 P8 P9 P10 P11 P12 P13) e0 P1 (Ls := #[sr a1]) hml [vi 42] [] pd_10 0 (hb hby d6_3)
  have N12 := Fr.app N0 N12q
  refine ⟨T12, _, _, _, _, some (vi 1), X12, e12q, by decide, by decide, nofun, ⟨rfl, N12, rfl⟩, fun fs hr => ?_⟩
  refine own_b X0 hx hby tb6 2 [] 3 _ [vi 42, vr a1] rfl ?_
  refine st12 _ ?_
  refine own_b X12 hx hby tb6 3 [false] 14 _ [vi 1] (ai (flt H1).1 rfl) ?_
  exact retN X12 hx (t := .boolean) hret (by simp) (hb hby d6_14) hr
theorem rm6_23 (hw : OW Z a0) (a1 : Addr) (p2 : Int32) (a3 : Addr) (w4 : ClassId) (p5 p6 p7 p8 p9 p10 : Int32) (a11 : Value) (Z0 : n0 ≤ h0.size) (P1 : ab8 Z h0 a1) (P2 : ab1 Z (vi p2)) (P3 : Old Z n0 h0) (P4 : ¬ (p2 = (0 : Int32))) (P5 : ab6 Z h0 a1 (vi 1)) (P6 : ab7 Z h0 a1 (vr a3)) (P7 : Arv Z h0 a3 w4 .byte (6 : Int32) [vi p5, vi p6, vi p7, vi p8, vi p9, vi p10] (vi 0)) (P8 : ab5 Z a11) (P9 : a11.isRef = true) (P10 : ab2 Z (vi 1)) (P11 : ab3 Z (vi 0)) (P12 : ab4 Z (vi 8)) (P13 : ¬ ((nar .char (va8 p9 p10)) = (42 : Int32))) :
    M6 l Z ws (orm 7 0 0 100) #[vr a1] h0 (QI n0 h0 (vi (va32 p5 p6 p7 p8))) := by
  by_cases H1 : (va31 p5 p6 p7 p8) < (0 : Int32)
  ·
    rw [show (va32 p5 p6 p7 p8) = (0 : Int32) from by simp only [va32, if_pos H1]]
    exact rm6_21 hw a1 p2 a3 w4 p5 p6 p7 p8 p9 p10 a11 Z0 P1 P2 P3 P4 P5 P6 P7 P8 P9 P10 P11 P12 P13 H1
  ·
    rw [show (va32 p5 p6 p7 p8) = (1 : Int32) from by simp only [va32, if_neg H1]]
    exact rm6_22 hw a1 p2 a3 w4 p5 p6 p7 p8 p9 p10 a11 Z0 P1 P2 P3 P4 P5 P6 P7 P8 P9 P10 P11 P12 P13 H1
theorem rm17_9 (hw : OW Z a0) (a1 a2 : Addr) (w3 : ClassId) (p4 p5 p6 : Int32) (w7 : ClassId) (Z0 : n0 ≤ h0.size) (P1 : Arv Z h0 a1 w3 .char (3 : Int32) [vi p4, vi p5, vi p6] (vi 0)) (P2 : ¬ ((255 : Int32) < p4)) (P3 : Arv Z h0 a2 w7 .byte (3 : Int32) [vi 0, vi 0, vi 0] (vi 0)) (P4 : n0 ≤ a2) (P5 : a1 ≠ a2) (P6 : ¬ ((255 : Int32) < p5)) (P7 : ¬ ((255 : Int32) < p6)) :
    M17 l Z ws (orm 0 0 0 0) #[vr a1, vi 0, vr a2, vi 0, vi 3] h0 (fun v h L => v = some (vi 3) ∧ Fr n0 L ∧ Keep h0 h [a2] ∧ Arv Z h a2 w7 .byte (3 : Int32) [vi ((p4.toInt8.toInt32).toInt8.toInt32), vi ((p5.toInt8.toInt32).toInt8.toInt32), vi ((p6.toInt8.toInt32).toInt8.toInt32)] (vi 0)) := by
  refine own_enter (plainFor_of_name pn_4) (L0 := (L_ririiuu a1 0 a2 0 3)) ?_
  intro p e s m below meth c s₁ hx hby hml hown hnm hret hZ X0 e0
  have N0 := Fr.nil n0
  obtain ⟨T8, h8, X8, e8, W8, V8, st8⟩ := own_stB X0 hx hZ e0 P3 (j := (0 : Int32)) (x := (p4.toInt8.toInt32)) (by decide) 0 rfl (Nat.le_of_ble_eq_true rfl) (Ls := (L_ririiii a1 0 a2 0 3 0 p4)) (rest := []) (hb hby d17_31)
  have N8 := Fr.snoc X8 N0 P4
  have F9 := (Arv.other P1 W8 P5)
  obtain ⟨T10, h10, X10, e10, W10, V10, st10⟩ := own_stB X8 hx hZ e8 V8 (j := (1 : Int32)) (x := (p5.toInt8.toInt32)) (by decide) 1 rfl (Nat.le_of_ble_eq_true rfl) (Ls := (L_ririiii a1 1 a2 1 3 1 p5)) (rest := []) (hb hby d17_31)
  have N10 := Fr.snoc X10 N8 P4
  have F11 := (Arv.other F9 W10 P5)
  obtain ⟨T12, h12, X12, e12, W12, V12, st12⟩ := own_stB X10 hx hZ e10 V10 (j := (2 : Int32)) (x := (p6.toInt8.toInt32)) (by decide) 2 rfl (Nat.le_of_ble_eq_true rfl) (Ls := (L_ririiii a1 2 a2 2 3 2 p6)) (rest := []) (hb hby d17_31)
  have N12 := Fr.snoc X12 N10 P4
  have K13 := (Keep.refl h0 [a2]).wr W8 (Or.inl (List.mem_of_getElem? (i := 0) rfl))
  have K14 := K13.wr W10 (Or.inl (List.mem_of_getElem? (i := 0) rfl))
  have K15 := K14.wr W12 (Or.inl (List.mem_of_getElem? (i := 0) rfl))
  refine ⟨T12, _, _, _, _, some (vi 3), X12, e12, by decide, by decide, nofun, ⟨rfl, N12, K15, V12⟩, fun fs hr => ?_⟩
  refine own_a X0 hx hZ e0 hby tb17 (aec P1 aen) 16 [false, true] [0] 31 (L_ririiii a1 0 a2 0 3 0 p4) [vi (p4.toInt8.toInt32), vi 0, vr a2] (ai (by decide) (ai rfl (ai (flt P2).2.2.2 rfl))) ?_
  refine st8 _ ?_
  refine own_a X8 hx hZ e8 hby tb17 (aec F9 aen) 18 [false, true] [0] 31 (L_ririiii a1 1 a2 1 3 1 p5) [vi (p5.toInt8.toInt32), vi 1, vr a2] (ai (by decide) (ai rfl (ai (flt P6).2.2.2 rfl))) ?_
  refine st10 _ ?_
  refine own_a X10 hx hZ e10 hby tb17 (aec F11 aen) 18 [false, true] [0] 31 (L_ririiii a1 2 a2 2 3 2 p6) [vi (p6.toInt8.toInt32), vi 2, vr a2] (ai (by decide) (ai rfl (ai (flt P7).2.2.2 rfl))) ?_
  refine st12 _ ?_
  refine own_b X12 hx hby tb17 8 [true] 46 (L_ririiii a1 3 a2 3 3 3 p6) [vi 3] (ai (by decide) rfl) ?_
  exact retI X12 hx hret (hb hby d17_46) hr
theorem rm16_9 (hw : OW Z a0) (a1 : Addr) (w4 : ClassId) (p5 p6 p7 : Int32) (Z0 : n0 ≤ h0.size) (P1 : Arv Z h0 a1 w4 .char (3 : Int32) [vi p5, vi p6, vi p7] (vi 0)) (P2 : ¬ ((255 : Int32) < p5)) (P3 : ¬ ((255 : Int32) < p6)) (P4 : ¬ ((255 : Int32) < p7)) :
    M16 l Z ws (orm 1 1 3 18) #[vr a1, vi 0, vi 3] h0 (fun v h L => ∃ b2 : Addr, ∃ k3 : ClassId, v = some (vr b2) ∧ Fr n0 L ∧ Keep h0 h [] ∧ n0 ≤ b2 ∧ h0.size ≤ b2 ∧ Arv Z h b2 k3 .byte (3 : Int32) [vi ((p5.toInt8.toInt32).toInt8.toInt32), vi ((p6.toInt8.toInt32).toInt8.toInt32), vi ((p7.toInt8.toInt32).toInt8.toInt32)] (vi 0)) := by
  refine own_enter (plainFor_of_name pn_4) (L0 := (L_riiuuu a1 0 3)) ?_
  intro p e s m below meth c s₁ hx hby hml hown hnm hret hZ X0 e0
  have N0 := Fr.nil n0
  obtain ⟨T3, h3, b2, k3, X3, e3, E3, g3, V3, st3⟩ := own_newP X0 hx hZ (tw_23 hw) e0 (n := (3 : Int32)) (k := 3) (d := (vi 0)) (vs := [vi 0, vi 0, vi 0]) (Ls := (L_riiuuu a1 0 3)) (S := []) (hb hby d16_1)
  have q3 := Nat.le_trans Z0 g3
  have z3 := Nat.le_trans (Nat.le_refl h0.size) g3
  have F8 := (P1.ext E3)
  have n9 := Nat.ne_of_lt (Nat.lt_of_lt_of_le P1.lt g3)
  obtain ⟨T10, L10, _, X10, ⟨rfl, N10q, K10, f10_0⟩, st10⟩ := own_callS X3 hx hZ hown (cw_6 hw) (rm17_9 hw a1 b2 w4 p5 p6 p7 k3 (Nat.le_trans Z0 E3.1) F8 P2 V3 q3 n9 P3 P4) e3 (Ls := (L_riiruu a1 0 3 b2)) hml [vr a1, vi 0, vr b2, vi 0, vi 3] [] pd_12 0 (hb hby d16_9)
  have N10 := Fr.app N0 N10q
  have K11 := (Keep.refl h0 []).ext E3
  have K12 := K11.trans K10 (allS (Or.inr z3) all0)
  refine ⟨T10, _, _, _, _, some (vr b2), X10, rfl, by decide, by decide, nofun, ⟨b2, k3, rfl, N10, K12, q3, z3, f10_0⟩, fun fs hr => ?_⟩
  refine own_b X0 hx hby tb16 1 [] 1 _ [vi 3] rfl ?_
  refine st3 _ ?_
  refine own_b X3 hx hby tb16 6 [] 9 (L_riiruu a1 0 3 b2) [vi 3, vi 0, vr b2, vi 0, vr a1] rfl ?_
  refine st10 _ ?_
  refine own_b X10 hx hby tb16 5 [true] 58 (L_riiriu a1 0 3 b2 3) [vr b2] (ai (by decide) rfl) ?_
  exact own_retA X10 hx hret rfl (hb hby d16_58) hr
theorem rm18_6 (hw : OW Z a0) (a1 : Addr) (w2 : ClassId) (p3 p4 p5 : Int32) (Z0 : n0 ≤ h0.size) (P1 : Arv Z h0 a1 w2 .byte (3 : Int32) [vi p3, vi p4, vi p5] (vi 0)) :
    M18 l Z ws (orm 0 0 0 0) #[vr a1, vi 3] h0 (QI n0 h0 (vi 0)) := by
  refine own_enter (plainFor_of_name pn_4) (L0 := (L_ri a1 3)) ?_
  intro p e s m below meth c s₁ hx hby hml hown hnm hret hZ X0 e0
  have N0 := Fr.nil n0
  refine ⟨s₁, _, _, _, _, some (vi 0), X0, e0, by decide, by decide, nofun, ⟨rfl, N0, rfl⟩, fun fs hr => ?_⟩
  refine own_a X0 hx hZ e0 hby tb18 (aec P1 aen) 7 [] [0] 8 _ [vi 0] (ai rfl rfl) ?_
  exact retN X0 hx (t := .byte) hret (by simp) (hb hby d18_8) hr
theorem rm4_10 (hw : OW Z a0) (a1 a2 : Addr) (p4 : Int32) (w6 : ClassId) (p7 p8 p9 : Int32) (Z0 : n0 ≤ h0.size) (P1 : ab1 Z (vi p4)) (P2 : Old Z n0 h0) (P3 : ¬ (p4 = (0 : Int32))) (P4 : Arv Z h0 a2 w6 .char (3 : Int32) [vi p7, vi p8, vi p9] (vi 0)) (P5 : ¬ ((255 : Int32) < p7)) (P6 : ¬ ((255 : Int32) < p8)) (P7 : ¬ ((255 : Int32) < p9)) (P8 : ab6 Z h0 a1 (vi 0)) (P9 : ab8 Z h0 a1) (P10 : n0 ≤ a1) (P11 : ab7 Z h0 a1 .null) :
    M4 l Z ws (orm 2 1 3 35) #[vr a1, vr a2, vi 0, vi 3, .null] h0 (fun v h L => ∃ b11 : Addr, ∃ kk10_0 : ClassId, v = none ∧ Fr n0 L ∧ Keep h0 h [a1] ∧ n0 ≤ b11 ∧ h0.size ≤ b11 ∧ ab6 Z h a1 (vi 0) ∧ ab7 Z h a1 (vr b11) ∧ Arv Z h b11 kk10_0 .byte (3 : Int32) [vi ((p7.toInt8.toInt32).toInt8.toInt32), vi ((p8.toInt8.toInt32).toInt8.toInt32), vi ((p9.toInt8.toInt32).toInt8.toInt32)] (vi 0)) := by
  refine own_enter (plainFor_of_name pn_1) (L0 := (L_rriinu a1 a2 0 3)) ?_
  intro p e s m below meth c s₁ hx hby hml hown hnm hret hZ X0 e0
  have N0 := Fr.nil n0
  obtain ⟨T3, X3, e3, st3⟩ := initO X0 hx hZ hown (tw_19 hw) (tw_20 hw) (tw_21 hw) e0 (g := (mkF m 1 (L_rriinu a1 a2 0 3) [vr a1])) rfl (by rw [hml]; rfl) rfl (hb hby d4_1) (by decide) (W := 0) (by show 2 * 0 + _ ≤ _; exact Nat.le_of_eq rfl) (by decide)
  obtain ⟨T5, X5, e5, st5⟩ := getS2 X3 hx hZ hown (host := "") (Or.inl (tw_49 hw)) Via.refl e3 (Sta.ext P2.2 P1) (g := (mkF m 27 (L_rriinu a1 a2 0 3) [])) rfl (hb hby d4_27)
  obtain ⟨T10, L10, _, X10, ⟨b11, kk10_0, rfl, N10q, K10, qa10_0, qb10_0, f10_0⟩, st10⟩ := own_callS X5 hx hZ hown (cw_12 hw) (rm16_9 hw a2 w6 p7 p8 p9 Z0 P4 P5 P6 P7) e5 (Ls := (L_rriinu a1 a2 0 3)) hml [vr a2, vi 0, vi 3] [] pd_15 0 (hb hby d4_36)
  have N10 := Fr.app N0 N10q
  have qd10_0 := Nat.le_trans (Nat.le_refl h0.size) qb10_0
  obtain ⟨T12, L12, _, X12, ⟨rfl, N12q, e12q⟩, st12⟩ := own_callS X10 hx hZ hown (cw_13 hw) (rm18_6 hw b11 kk10_0 ((p7.toInt8.toInt32).toInt8.toInt32) ((p8.toInt8.toInt32).toInt8.toInt32) ((p9.toInt8.toInt32).toInt8.toInt32) (Nat.le_trans Z0 K10.1) f10_0) rfl (Ls := (L_rriinr a1 a2 0 3 b11)) hml [vr b11, vi 3] [vr a1] pd_17 1 (hb hby d4_45)
  have N12 := Fr.app N10 N12q
  have F13 := (Fld.keep P8 K10 nin0)
  have F14 := (Exa.keep P9 K10)
  obtain ⟨T15, h15, X15, e15, W15, st15⟩ := putF X12 hx hZ hown (host := "") (Or.inl (tw_29 hw)) Via.refl e12q F13 F14 (Or.inr ⟨(tw_25 hw), rfl, hnm⟩) (tw_9 hw) (ty := .byte) (by decide) rfl rfl (g := (mkF m 48 (L_rriinr a1 a2 0 3 b11) [vi 0, vr a1])) rfl rfl (hb hby d4_48)
  have N15 := Fr.snoc X15 N12 P10
  have Fw15 := Fld.same W15 F13
  have F16 := (Fld.other W15 (Fld.keep P11 K10 nin0) (Or.inr (slot_ne (Or.inr (tw_24 hw)) (Or.inr (tw_25 hw)) (by decide) (t := (.array .byte)) (t' := .byte) (by decide) (by decide))))
  have F17 := (Exa.wr W15 F14)
  obtain ⟨T18, h18, X18, e18, W18, st18⟩ := putF X15 hx hZ hown (host := "") (Or.inl (tw_28 hw)) Via.refl e15 F16 F17 (Or.inr ⟨(tw_24 hw), rfl, hnm⟩) (tw_9 hw) (ty := (.array .byte)) (by decide) rfl rfl (g := (mkF m 54 (L_rriinr a1 a2 0 3 b11) [vr b11, vr a1])) rfl rfl (hb hby d4_54)
  have N18 := Fr.snoc X18 N15 P10
  have Fw18 := Fld.same W18 F16
  have F19 := (Fld.other W18 Fw15 (Or.inr (slot_ne (Or.inr (tw_25 hw)) (Or.inr (tw_24 hw)) (by decide) (t := .byte) (t' := (.array .byte)) (by decide) (by decide))))
  have n20 := Nat.ne_of_lt (Nat.lt_of_lt_of_le P8.lt qb10_0)
  have F21 := (Arv.other (Arv.other f10_0 W15 (Ne.symm n20)) W18 (Ne.symm n20))
  have K22 := (Keep.refl h0 [a1]).trans K10 all0
  have K23 := K22.wr W15 (Or.inl (List.mem_of_getElem? (i := 0) rfl))
  have K24 := K23.wr W18 (Or.inl (List.mem_of_getElem? (i := 0) rfl))
  refine ⟨T18, _, _, _, _, none, X18, e18, by decide, by decide, (fun _ => rfl), ⟨b11, kk10_0, rfl, N18, K24, qa10_0, qd10_0, F19, Fw18, F21⟩, fun fs hr => ?_⟩
  refine own_b X0 hx hby tb4 1 [] 1 _ [vr a1] rfl ?_
  refine st3 _ ?_
  refine own_b X3 hx hby tb4 2 [true] 27 _ [] (ai (by decide) rfl) ?_
  refine st5 _ ?_
  refine own_b X5 hx hby tb4 4 [false] 36 _ [vi 3, vi 0, vr a2] (ai (feq P3).1 rfl) ?_
  refine st10 _ ?_
  refine own_b X10 hx hby tb4 4 [] 45 (L_rriinr a1 a2 0 3 b11) [vi 3, vr b11, vr a1] rfl ?_
  refine st12 _ ?_
  refine st15 _ ?_
  refine own_b X15 hx hby tb4 2 [] 54 _ [vr b11, vr a1] rfl ?_
  refine st18 _ ?_
  show OS p e below T18 m 57 (L_rriinr a1 a2 0 3 b11) [] _
  exact X18.returnOut hx hret (hb hby d4_57) hr
theorem rm3_10 (hw : OW Z a0) (a1 a2 : Addr) (w3 : ClassId) (p4 p5 p6 p7 : Int32) (Z0 : n0 ≤ h0.size) (P1 : Arv Z h0 a2 w3 .char (3 : Int32) [vi p4, vi p5, vi p6] (vi 0)) (P2 : ab1 Z (vi p7)) (P3 : Old Z n0 h0) (P4 : ¬ (p7 = (0 : Int32))) (P5 : ¬ ((255 : Int32) < p4)) (P6 : ¬ ((255 : Int32) < p5)) (P7 : ¬ ((255 : Int32) < p6)) (P8 : ab6 Z h0 a1 (vi 0)) (P9 : ab8 Z h0 a1) (P10 : n0 ≤ a1) (P11 : ab7 Z h0 a1 .null) :
    M3 l Z ws (orm 3 1 3 52) #[vr a1, vr a2] h0 (fun v h L => ∃ b9 : Addr, ∃ kk8_0 : ClassId, v = none ∧ Fr n0 L ∧ Keep h0 h [a1] ∧ n0 ≤ b9 ∧ h0.size ≤ b9 ∧ ab6 Z h a1 (vi 0) ∧ ab7 Z h a1 (vr b9) ∧ Arv Z h b9 kk8_0 .byte (3 : Int32) [vi ((p4.toInt8.toInt32).toInt8.toInt32), vi ((p5.toInt8.toInt32).toInt8.toInt32), vi ((p6.toInt8.toInt32).toInt8.toInt32)] (vi 0)) := by
  refine own_enter (plainFor_of_name pn_1) (L0 := (L_rr a1 a2)) ?_
  intro p e s m below meth c s₁ hx hby hml hown hnm hret hZ X0 e0
  have N0 := Fr.nil n0
  obtain ⟨T8, L8, _, X8, ⟨b9, kk8_0, rfl, N8q, K8, qa8_0, qb8_0, f8_0, f8_1, f8_2⟩, st8⟩ := own_callI X0 hx hZ hown (cw_14 hw) (rm4_10 hw a1 a2 p7 w3 p4 p5 p6 Z0 P2 P3 P4 P1 P5 P6 P7 P8 P9 P10 P11) e0 (Ls := (L_rr a1 a2)) hml a1 [vr a2, vi 0, vi 3, .null] [] pd_1 0 (hb hby d3_6)
  have N8 := Fr.app N0 N8q
  have qd8_0 := Nat.le_trans (Nat.le_refl h0.size) qb8_0
  have K10 := (Keep.refl h0 [a1]).trans K8 (allS (Or.inl (List.mem_of_getElem? (i := 0) rfl)) all0)
  refine ⟨T8, _, _, _, _, none, X8, rfl, by decide, by decide, (fun _ => rfl), ⟨b9, kk8_0, rfl, N8, K10, qa8_0, qd8_0, f8_0, f8_1, f8_2⟩, fun fs hr => ?_⟩
  refine own_a X0 hx hZ e0 hby tb3 (aec P1 aen) 6 [] [0] 6 _ [.null, vi 3, vi 0, vr a2, vr a1] (ai rfl rfl) ?_
  refine st8 _ ?_
  show OS p e below T8 m 9 (L_rr a1 a2) [] _
  exact X8.returnOut hx hret (hb hby d3_9) hr
theorem rm2_10 (hw : OW Z a0) (p1 p2 p3 p4 p14 : Int32) (Z0 : n0 ≤ h0.size) (P1 : ab1 Z (vi p14)) (P2 : Old Z n0 h0) (P3 : ¬ (p14 = (0 : Int32))) (P4 : ¬ ((255 : Int32) < (nar .char p1))) (P5 : ¬ ((255 : Int32) < (nar .char p2))) (P6 : ¬ ((255 : Int32) < (nar .char p3))) :
    M2 l Z ws (orm 4 3 10 66) #[vi 3, vi p1, vi p2, vi p3, vi p4] h0 (fun v h L => ∃ b5 : Addr, ∃ b22 : Addr, ∃ kk20_0 : ClassId, v = some (vr b5) ∧ Fr n0 L ∧ Keep h0 h [] ∧ n0 ≤ b5 ∧ h0.size ≤ b5 ∧ n0 ≤ b22 ∧ h0.size ≤ b22 ∧ b5 ≠ b22 ∧ ab8 Z h b5 ∧ ab6 Z h b5 (vi 0) ∧ ab7 Z h b5 (vr b22) ∧ Arv Z h b22 kk20_0 .byte (3 : Int32) [vi (((nar .char p1).toInt8.toInt32).toInt8.toInt32), vi (((nar .char p2).toInt8.toInt32).toInt8.toInt32), vi (((nar .char p3).toInt8.toInt32).toInt8.toInt32)] (vi 0)) := by
  refine own_enter (plainFor_of_name pn_0) (L0 := (L_iiiii 3 p1 p2 p3 p4)) ?_
  intro p e s m below meth c s₁ hx hby hml hown hnm hret hZ X0 e0
  have N0 := Fr.nil n0
  obtain ⟨T6, h6, b5, X6, e6, E6, g6, A6, D6, st6⟩ := own_new X0 hx hZ hown (tw_8 hw) (tw_9 hw) (tw_10 hw) e0 (Ls := (L_iiiii 3 p1 p2 p3 p4)) (S := []) (hb hby d2_64)
  have q6 := Nat.le_trans Z0 g6
  have z6 := Nat.le_trans (Nat.le_refl h0.size) g6
  have F7 : ab7 Z h6 b5 .null := D6 (Or.inr (tw_24 hw)) (ty := (.array .byte)) (by decide)
  have F8 : ab6 Z h6 b5 (vi 0) := D6 (Or.inr (tw_25 hw)) (ty := .byte) (by decide)
  obtain ⟨T10, h10, b9, k10, X10, e10, E10, g10, V10, st10⟩ := own_newP X6 hx hZ (tw_11 hw) e6 (n := (3 : Int32)) (k := 3) (d := (vi 0)) (vs := [vi 0, vi 0, vi 0]) (Ls := (L_iiiii 3 p1 p2 p3 p4)) (S := [vr b5, vr b5]) (hb hby d2_69)
  have q10 := Nat.le_trans (Nat.le_trans Z0 E6.1) g10
  have z10 := Nat.le_trans (Nat.le_trans (Nat.le_refl h0.size) E6.1) g10
  obtain ⟨T11, h11, X11, e11, W11, V11, st11⟩ := own_stC X10 hx hZ e10 V10 (j := (0 : Int32)) (x := p1) (by decide) 0 rfl (Nat.le_of_ble_eq_true rfl) (Ls := (L_iiiii 3 p1 p2 p3 p4)) (rest := [vr b9, vr b5, vr b5]) (hb hby d2_74)
  have N11 := Fr.snoc X11 N0 q10
  obtain ⟨T12, h12, X12, e12, W12, V12, st12⟩ := own_stC X11 hx hZ e11 V11 (j := (1 : Int32)) (x := p2) (by decide) 1 rfl (Nat.le_of_ble_eq_true rfl) (Ls := (L_iiiii 3 p1 p2 p3 p4)) (rest := [vr b9, vr b5, vr b5]) (hb hby d2_78)
  have N12 := Fr.snoc X12 N11 q10
  obtain ⟨T13, h13, X13, e13, W13, V13, st13⟩ := own_stC X12 hx hZ e12 V12 (j := (2 : Int32)) (x := p3) (by decide) 2 rfl (Nat.le_of_ble_eq_true rfl) (Ls := (L_iiiii 3 p1 p2 p3 p4)) (rest := [vr b9, vr b5, vr b5]) (hb hby d2_82)
  have N13 := Fr.snoc X13 N12 q10
  have F15 := (((((P2.ext E6).ext E10).wr W11 q10).wr W12 q10).wr W13 q10)
  have n16 := Nat.ne_of_lt (Nat.lt_of_lt_of_le A6.lt g10)
  have F17 := (Fld.other W13 (Fld.other W12 (Fld.other W11 (Fld.ext E10 F8) (Or.inl n16)) (Or.inl n16)) (Or.inl n16))
  have F18 := (Exa.wr W13 (Exa.wr W12 (Exa.wr W11 (Exa.ext E10 A6))))
  have F19 := (Fld.other W13 (Fld.other W12 (Fld.other W11 (Fld.ext E10 F7) (Or.inl n16)) (Or.inl n16)) (Or.inl n16))
  have F21 := (Nat.le_trans (Nat.le_trans (Nat.le_trans (Nat.le_trans (Nat.le_trans Z0 E6.1) E10.1) (Keep.of_wr W11).1) (Keep.of_wr W12).1) (Keep.of_wr W13).1)
  obtain ⟨T20, L20, _, X20, ⟨b22, kk20_0, rfl, N20q, K20, qa20_0, qb20_0, f20_0, f20_1, f20_2⟩, st20⟩ := own_callI X13 hx hZ hown (cw_15 hw) (rm3_10 hw b5 b9 k10 (nar .char p1) (nar .char p2) (nar .char p3) p14 F21 V13 P1 F15 P3 P4 P5 P6 F17 F18 q6 F19) e13 (Ls := (L_iiiii 3 p1 p2 p3 p4)) hml b5 [vr b9] [vr b5] pd_2 1 (hb hby d2_83)
  have N20 := Fr.app N13 N20q
  have F23 := (Nat.le_trans (Nat.le_trans (Nat.le_trans (Nat.le_trans (Nat.le_trans (Nat.le_refl h0.size) E6.1) E10.1) (Keep.of_wr W11).1) (Keep.of_wr W12).1) (Keep.of_wr W13).1)
  have qd20_0 := Nat.le_trans F23 qb20_0
  have F24 := (Exa.keep F18 K20)
  have K25 := (Keep.refl h0 []).ext E6
  have K26 := K25.ext E10
  have K27 := K26.wr W11 (Or.inr z10)
  have K28 := K27.wr W12 (Or.inr z10)
  have K29 := K28.wr W13 (Or.inr z10)
  have K30 := K29.trans K20 (allS (Or.inr z6) all0)
  have n31 := Nat.ne_of_lt (Nat.lt_of_lt_of_le F17.lt qb20_0)
  refine ⟨T20, _, _, _, _, some (vr b5), X20, rfl, by decide, by decide, nofun, ⟨b5, b22, kk20_0, rfl, N20, K30, q6, z6, qa20_0, qd20_0, n31, F24, f20_0, f20_1, f20_2⟩, fun fs hr => ?_⟩
  refine own_b X0 hx hby tb2 11 [true, true, true, false] 64 _ [] (ai (by decide) (ai (by decide) (ai (by decide) (ai (by decide) rfl)))) ?_
  refine st6 _ ?_
  refine own_b X6 hx hby tb2 2 [] 69 _ [vi 3, vr b5, vr b5] rfl ?_
  refine st10 _ ?_
  refine own_b X10 hx hby tb2 3 [] 74 _ [vi p1, vi 0, vr b9, vr b9, vr b5, vr b5] rfl ?_
  refine st11 _ ?_
  refine own_b X11 hx hby tb2 3 [] 78 _ [vi p2, vi 1, vr b9, vr b9, vr b5, vr b5] rfl ?_
  refine st12 _ ?_
  refine own_b X12 hx hby tb2 3 [] 82 _ [vi p3, vi 2, vr b9, vr b9, vr b5, vr b5] rfl ?_
  refine st13 _ ?_
  refine st20 _ ?_
  exact own_retA X20 hx hret rfl (hb hby d2_86) hr
theorem rm10_7 (hw : OW Z a0) (a1 a2 : Addr) (w4 : ClassId) (p5 p6 p7 p8 : Int32) (Z0 : n0 ≤ h0.size) (P1 : ab7 Z h0 a1 (vr a2)) (P2 : Arv Z h0 a2 w4 .byte (3 : Int32) [vi p5, vi p6, vi p7] (vi 0)) (P3 : ab8 Z h0 a1) (P4 : ab1 Z (vi p8)) (P5 : Old Z n0 h0) (P6 : ¬ (p8 = (0 : Int32))) (P7 : ab6 Z h0 a1 (vi 0)) :
    M10 l Z ws (orm 1 0 0 13) #[vr a1] h0 (QI n0 h0 (vi 3)) := by
  refine own_enter (plainFor_of_name pn_1) (L0 := #[sr a1]) ?_
  intro p e s m below meth c s₁ hx hby hml hown hnm hret hZ X0 e0
  have N0 := Fr.nil n0
  obtain ⟨T3, X3, e3, st3⟩ := getF X0 hx hZ hown (host := "") (Or.inl (tw_28 hw)) Via.refl e0 P1 (g := (mkF m 1 #[sr a1] [vr a1])) rfl rfl (hb hby d10_1)
  obtain ⟨T9, L9, _, X9, ⟨rfl, N9q, e9q⟩, st9⟩ := own_callV X3 hx hZ hown (tw_55 hw) (tw_56 hw) (notFace_of_selects (args := #[]) (mvT hZ (tw_58 hw))) (tw_58 hw) (tw_57 hw) (tw_10 hw) (tw_59 hw) (rm11_1 hw a1 p8 Z0 P4 P5 P6 P7) e3 P3 (Ls := #[sr a1]) hml [] [vi 3] pd_5 1 (hb hby d10_6)
  have N9 := Fr.app N0 N9q
  refine ⟨T9, _, _, _, _, some (vi 3), X9, e9q, by decide, by decide, nofun, ⟨rfl, N9, rfl⟩, fun fs hr => ?_⟩
  refine own_b X0 hx hby tb10 1 [] 1 _ [vr a1] rfl ?_
  refine st3 _ ?_
  refine own_a X3 hx hZ e3 hby tb10 (aec P2 aen) 2 [] [0] 6 _ [vr a1, vi 3] (ai rfl rfl) ?_
  refine st9 _ ?_
  refine own_b X9 hx hby tb10 1 [] 10 _ [vi 3] rfl ?_
  exact retI X9 hx hret (hb hby d10_10) hr
theorem rm19_8 (hw : OW Z a0) (a1 : Addr) (w2 : ClassId) (p3 p4 p5 : Int32) (Z0 : n0 ≤ h0.size) (P1 : Arv Z h0 a1 w2 .byte (3 : Int32) [vi p3, vi p4, vi p5] (vi 0)) (H1 : p3 = (42 : Int32)) :
    M19 l Z ws (orm 0 0 0 0) #[vr a1, vi 42, vi 0, vi 3] h0 (QI n0 h0 (vi 0)) := by
  refine own_enter (plainFor_of_name pn_2) (L0 := (L_riiiuu a1 42 0 3)) ?_
  intro p e s m below meth c s₁ hx hby hml hown hnm hret hZ X0 e0
  have N0 := Fr.nil n0
  refine ⟨s₁, _, _, _, _, some (vi 0), X0, e0, by decide, by decide, nofun, ⟨rfl, N0, rfl⟩, fun fs hr => ?_⟩
  refine own_a X0 hx hZ e0 hby tb19 (aec P1 aen) 14 [false, false] [0] 24 (L_riiiii a1 42 0 3 42 0) [vi 0] (ai (by decide) (ai rfl (ai (teq H1).2 rfl))) ?_
  exact retI X0 hx hret (hb hby d19_24) hr
theorem rm19_9 (hw : OW Z a0) (a1 : Addr) (w2 : ClassId) (p3 p4 p5 : Int32) (Z0 : n0 ≤ h0.size) (P1 : Arv Z h0 a1 w2 .byte (3 : Int32) [vi p3, vi p4, vi p5] (vi 0)) (H1 : ¬ (p3 = (42 : Int32))) (H2 : p4 = (42 : Int32)) :
    M19 l Z ws (orm 0 0 0 0) #[vr a1, vi 42, vi 0, vi 3] h0 (QI n0 h0 (vi 1)) := by
  refine own_enter (plainFor_of_name pn_2) (L0 := (L_riiiuu a1 42 0 3)) ?_
  intro p e s m below meth c s₁ hx hby hml hown hnm hret hZ X0 e0
  have N0 := Fr.nil n0
  refine ⟨s₁, _, _, _, _, some (vi 1), X0, e0, by decide, by decide, nofun, ⟨rfl, N0, rfl⟩, fun fs hr => ?_⟩
  refine own_a X0 hx hZ e0 hby tb19 (aec P1 aen) 24 [false, true, false, false] [0, 0] 24 (L_riiiii a1 42 0 3 42 1) [vi 1] (ai (by decide) (ai rfl (ai (feq H1).2 (ai (by decide) (ai rfl (ai (teq H2).2 rfl)))))) ?_
  exact retI X0 hx hret (hb hby d19_24) hr
theorem rm19_10 (hw : OW Z a0) (a1 : Addr) (w2 : ClassId) (p3 p4 p5 : Int32) (Z0 : n0 ≤ h0.size) (P1 : Arv Z h0 a1 w2 .byte (3 : Int32) [vi p3, vi p4, vi p5] (vi 0)) (H1 : ¬ (p3 = (42 : Int32))) (H2 : ¬ (p4 = (42 : Int32))) (H3 : p5 = (42 : Int32)) :
    M19 l Z ws (orm 0 0 0 0) #[vr a1, vi 42, vi 0, vi 3] h0 (QI n0 h0 (vi 2)) := by
  refine own_enter (plainFor_of_name pn_2) (L0 := (L_riiiuu a1 42 0 3)) ?_
  intro p e s m below meth c s₁ hx hby hml hown hnm hret hZ X0 e0
  have N0 := Fr.nil n0
  refine ⟨s₁, _, _, _, _, some (vi 2), X0, e0, by decide, by decide, nofun, ⟨rfl, N0, rfl⟩, fun fs hr => ?_⟩
  refine own_a X0 hx hZ e0 hby tb19 (aec P1 aen) 34 [false, true, false, true, false, false] [0, 0, 0] 24 (L_riiiii a1 42 0 3 42 2) [vi 2] (ai (by decide) (ai rfl (ai (feq H1).2 (ai (by decide) (ai rfl (ai (feq H2).2 (ai (by decide) (ai rfl (ai (teq H3).2 rfl))))))))) ?_
  exact retI X0 hx hret (hb hby d19_24) hr
theorem rm19_11 (hw : OW Z a0) (a1 : Addr) (w2 : ClassId) (p3 p4 p5 : Int32) (Z0 : n0 ≤ h0.size) (P1 : Arv Z h0 a1 w2 .byte (3 : Int32) [vi p3, vi p4, vi p5] (vi 0)) (H1 : ¬ (p3 = (42 : Int32))) (H2 : ¬ (p4 = (42 : Int32))) (H3 : ¬ (p5 = (42 : Int32))) :
    M19 l Z ws (orm 0 0 0 0) #[vr a1, vi 42, vi 0, vi 3] h0 (QI n0 h0 (vi (-1))) := by
  refine own_enter (plainFor_of_name pn_2) (L0 := (L_riiiuu a1 42 0 3)) ?_
  intro p e s m below meth c s₁ hx hby hml hown hnm hret hZ X0 e0
  have N0 := Fr.nil n0
  refine ⟨s₁, _, _, _, _, some (vi (-1)), X0, e0, by decide, by decide, nofun, ⟨rfl, N0, rfl⟩, fun fs hr => ?_⟩
  refine own_a X0 hx hZ e0 hby tb19 (aec P1 aen) 39 [false, true, false, true, false, true, true] [0, 0, 0] 32 (L_riiiii a1 42 0 3 42 3) [vi (-1)] (ai (by decide) (ai rfl (ai (feq H1).2 (ai (by decide) (ai rfl (ai (feq H2).2 (ai (by decide) (ai rfl (ai (feq H3).2 (ai (by decide) rfl)))))))))) ?_
  exact retI X0 hx hret (hb hby d19_32) hr
theorem rm19_12 (hw : OW Z a0) (a1 : Addr) (w2 : ClassId) (p3 p4 p5 : Int32) (Z0 : n0 ≤ h0.size) (P1 : Arv Z h0 a1 w2 .byte (3 : Int32) [vi p3, vi p4, vi p5] (vi 0)) :
    M19 l Z ws (orm 0 0 0 0) #[vr a1, vi 42, vi 0, vi 3] h0 (QI n0 h0 (vi (va34 p3 p4 p5))) := by
  by_cases H1 : p3 = (42 : Int32)
  ·
    rw [show (va34 p3 p4 p5) = (0 : Int32) from by simp only [va34, if_pos H1]]
    exact rm19_8 hw a1 w2 p3 p4 p5 Z0 P1 H1
  ·
    by_cases H2 : p4 = (42 : Int32)
    ·
      rw [show (va34 p3 p4 p5) = (1 : Int32) from by simp only [va34, if_neg H1, if_pos H2]]
      exact rm19_9 hw a1 w2 p3 p4 p5 Z0 P1 H1 H2
    ·
      by_cases H3 : p5 = (42 : Int32)
      ·
        rw [show (va34 p3 p4 p5) = (2 : Int32) from by simp only [va34, if_neg H1, if_neg H2, if_pos H3]]
        exact rm19_10 hw a1 w2 p3 p4 p5 Z0 P1 H1 H2 H3
      ·
        rw [show (va34 p3 p4 p5) = (-1 : Int32) from by simp only [va34, if_neg H1, if_neg H2, if_neg H3]]
        exact rm19_11 hw a1 w2 p3 p4 p5 Z0 P1 H1 H2 H3
theorem rm12_4 (hw : OW Z a0) (a1 : Addr) (w4 : ClassId) (p5 p6 p7 : Int32) (Z0 : n0 ≤ h0.size) (P1 : Arv Z h0 a1 w4 .byte (3 : Int32) [vi p5, vi p6, vi p7] (vi 0)) :
    M12 l Z ws (orm 1 0 0 17) #[vr a1, vi 42, vi 0, vi 3] h0 (QI n0 h0 (vi (va34 p5 p6 p7))) := by
  refine own_enter (plainFor_of_name pn_2) (L0 := (L_riii a1 42 0 3)) ?_
  intro p e s m below meth c s₁ hx hby hml hown hnm hret hZ X0 e0
  have N0 := Fr.nil n0
  obtain ⟨T2, L2, _, X2, ⟨rfl, N2q, e2q⟩, st2⟩ := own_callS X0 hx hZ hown (cw_1 hw) (rm13_1 hw  Z0 ) e0 (Ls := (L_riii a1 42 0 3)) hml [vi 42] [] pd_7 0 (hb hby d12_1)
  have N2 := Fr.app N0 N2q
  obtain ⟨T3, L3, _, X3, ⟨rfl, N3q, e3q⟩, st3⟩ := own_callS X2 hx hZ hown (cw_2 hw) (rm14_1 hw  Z0 ) e2q (Ls := (L_riii a1 42 0 3)) hml [vi 0, vi 0] [] pd_8 0 (hb hby d12_11)
  have N3 := Fr.app N2 N3q
  obtain ⟨T8, L8, _, X8, ⟨rfl, N8q, e8q⟩, st8⟩ := own_callS X3 hx hZ hown (cw_3 hw) (rm15_4 hw  Z0 ) e3q (Ls := (L_riii a1 42 0 3)) hml [vi 3, vi 3] [] pd_8 0 (hb hby d12_18)
  have N8 := Fr.app N3 N8q
  obtain ⟨T9, L9, _, X9, ⟨rfl, N9q, e9q⟩, st9⟩ := own_callS X8 hx hZ hown (cw_26 hw) (rm19_12 hw a1 w4 p5 p6 p7 Z0 P1) e8q (Ls := (L_riii a1 42 0 3)) hml [vr a1, vi 42, vi 0, vi 3] [] pd_9 0 (hb hby d12_33)
  have N9 := Fr.app N8 N9q
  refine ⟨T9, _, _, _, _, some (vi (va34 p5 p6 p7)), X9, e9q, by decide, by decide, nofun, ⟨rfl, N9, rfl⟩, fun fs hr => ?_⟩
  refine own_b X0 hx hby tb12 1 [] 1 _ [vi 42] rfl ?_
  refine st2 _ ?_
  refine own_b X2 hx hby tb12 3 [true] 11 _ [vi 0, vi 0] (ai (by decide) rfl) ?_
  refine st3 _ ?_
  refine own_a X3 hx hZ e3q hby tb12 (aec P1 aen) 4 [] [0] 18 (L_riii a1 42 0 3) [vi 3, vi 3] (ai rfl rfl) ?_
  refine st8 _ ?_
  refine own_b X8 hx hby tb12 8 [true] 33 (L_riii a1 42 0 3) [vi 3, vi 0, vi 42, vr a1] (ai (by decide) rfl) ?_
  refine st9 _ ?_
  exact retI X9 hx hret (hb hby d12_36) hr
theorem rm8_10 (hw : OW Z a0) (a1 : Addr) (p2 : Int32) (a4 : Addr) (w6 : ClassId) (p7 p8 p9 : Int32) (Z0 : n0 ≤ h0.size) (P1 : ab8 Z h0 a1) (P2 : ab1 Z (vi p2)) (P3 : Old Z n0 h0) (P4 : ¬ (p2 = (0 : Int32))) (P5 : ab6 Z h0 a1 (vi 0)) (P6 : ab7 Z h0 a1 (vr a4)) (P7 : Arv Z h0 a4 w6 .byte (3 : Int32) [vi p7, vi p8, vi p9] (vi 0)) :
    M8 l Z ws (orm 2 0 0 32) #[vr a1, vi 42, vi 0] h0 (QI n0 h0 (vi (va34 p7 p8 p9))) := by
  refine own_enter (plainFor_of_name pn_1) (L0 := (L_rii a1 42 0)) ?_
  intro p e s m below meth c s₁ hx hby hml hown hnm hret hZ X0 e0
  have N0 := Fr.nil n0
  obtain ⟨T3, L3, _, X3, ⟨rfl, N3q, e3q⟩, st3⟩ := own_callV X0 hx hZ hown (tw_44 hw) (tw_45 hw) (notFace_of_selects (args := #[]) (mvT hZ (tw_47 hw))) (tw_47 hw) (tw_46 hw) (tw_10 hw) (tw_48 hw) (rm9_1 hw a1 p2 Z0 P2 P3 P4 P5) e0 P1 (Ls := (L_rii a1 42 0)) hml [] [] pd_4 0 (hb hby d8_1)
  have N3 := Fr.app N0 N3q
  obtain ⟨T5, X5, e5, st5⟩ := getF X3 hx hZ hown (host := "") (Or.inl (tw_28 hw)) Via.refl e3q P6 (g := (mkF m 8 (L_rii a1 42 0) [vr a1])) rfl rfl (hb hby d8_8)
  obtain ⟨T10, L10, _, X10, ⟨rfl, N10q, e10q⟩, st10⟩ := own_callV X5 hx hZ hown (tw_50 hw) (tw_51 hw) (notFace_of_selects (args := #[]) (mvT hZ (tw_53 hw))) (tw_53 hw) (tw_52 hw) (tw_10 hw) (tw_54 hw) (rm10_7 hw a1 a4 w6 p7 p8 p9 p2 Z0 P6 P7 P1 P2 P3 P4 P5) e5 P1 (Ls := (L_rii a1 42 0)) hml [] [vi 0, vi 42, vr a4] pd_6 3 (hb hby d8_14)
  have N10 := Fr.app N3 N10q
  obtain ⟨T11, L11, _, X11, ⟨rfl, N11q, e11q⟩, st11⟩ := own_callS X10 hx hZ hown (cw_4 hw) (rm12_4 hw a4 w6 p7 p8 p9 Z0 P7) e10q (Ls := (L_rii a1 42 0)) hml [vr a4, vi 42, vi 0, vi 3] [] pd_9 0 (hb hby d8_17)
  have N11 := Fr.app N10 N11q
  refine ⟨T11, _, _, _, _, some (vi (va34 p7 p8 p9)), X11, e11q, by decide, by decide, nofun, ⟨rfl, N11, rfl⟩, fun fs hr => ?_⟩
  refine own_b X0 hx hby tb8 1 [] 1 _ [vr a1] rfl ?_
  refine st3 _ ?_
  refine own_b X3 hx hby tb8 2 [false] 8 _ [vr a1] (ai (by decide) rfl) ?_
  refine st5 _ ?_
  refine own_b X5 hx hby tb8 3 [] 14 _ [vr a1, vi 0, vi 42, vr a4] rfl ?_
  refine st10 _ ?_
  refine st11 _ ?_
  refine own_b X11 hx hby tb8 1 [] 36 _ [vi (va34 p7 p8 p9)] rfl ?_
  exact retI X11 hx hret (hb hby d8_36) hr
theorem rm7_10 (hw : OW Z a0) (a1 : Addr) (p2 : Int32) (a3 : Addr) (w4 : ClassId) (p5 p6 p7 : Int32) (Z0 : n0 ≤ h0.size) (P1 : ab8 Z h0 a1) (P2 : ab1 Z (vi p2)) (P3 : Old Z n0 h0) (P4 : ¬ (p2 = (0 : Int32))) (P5 : ab6 Z h0 a1 (vi 0)) (P6 : ab7 Z h0 a1 (vr a3)) (P7 : Arv Z h0 a3 w4 .byte (3 : Int32) [vi p5, vi p6, vi p7] (vi 0)) :
    M7 l Z ws (orm 3 0 0 46) #[vr a1, vi 42] h0 (QI n0 h0 (vi (va34 p5 p6 p7))) := by
  refine own_enter (plainFor_of_name pn_1) (L0 := (L_ri a1 42)) ?_
  intro p e s m below meth c s₁ hx hby hml hown hnm hret hZ X0 e0
  have N0 := Fr.nil n0
  obtain ⟨T8, L8, _, X8, ⟨rfl, N8q, e8q⟩, st8⟩ := own_callV X0 hx hZ hown (tw_39 hw) (tw_40 hw) (notFace_of_selects (args := #[]) (mvT hZ (tw_42 hw))) (tw_42 hw) (tw_41 hw) (tw_10 hw) (tw_43 hw) (rm8_10 hw a1 p2 a3 w4 p5 p6 p7 Z0 P1 P2 P3 P4 P5 P6 P7) e0 P1 (Ls := (L_ri a1 42)) hml [vi 42, vi 0] [] pd_8 0 (hb hby d7_3)
  have N8 := Fr.app N0 N8q
  refine ⟨T8, _, _, _, _, some (vi (va34 p5 p6 p7)), X8, e8q, by decide, by decide, nofun, ⟨rfl, N8, rfl⟩, fun fs hr => ?_⟩
  refine own_b X0 hx hby tb7 3 [] 3 _ [vi 0, vi 42, vr a1] rfl ?_
  refine st8 _ ?_
  exact retI X8 hx hret (hb hby d7_6) hr
theorem rm6_24 (hw : OW Z a0) (a1 : Addr) (p2 : Int32) (a3 : Addr) (w4 : ClassId) (p5 p6 p7 : Int32) (Z0 : n0 ≤ h0.size) (P1 : ab8 Z h0 a1) (P2 : ab1 Z (vi p2)) (P3 : Old Z n0 h0) (P4 : ¬ (p2 = (0 : Int32))) (P5 : ab6 Z h0 a1 (vi 0)) (P6 : ab7 Z h0 a1 (vr a3)) (P7 : Arv Z h0 a3 w4 .byte (3 : Int32) [vi p5, vi p6, vi p7] (vi 0)) (H1 : (va34 p5 p6 p7) < (0 : Int32)) :
    M6 l Z ws (orm 4 0 0 59) #[vr a1] h0 (QI n0 h0 (vi 0)) := by
  refine own_enter (plainFor_of_name pn_3) (L0 := #[sr a1]) ?_
  intro p e s m below meth c s₁ hx hby hml hown hnm hret hZ X0 e0
  have N0 := Fr.nil n0
  obtain ⟨T8, L8, _, X8, ⟨rfl, N8q, e8q⟩, st8⟩ := own_callV X0 hx hZ hown (tw_34 hw) (tw_35 hw) (notFace_of_selects (args := #[]) (mvT hZ (tw_37 hw))) (tw_37 hw) (tw_36 hw) (tw_10 hw) (tw_38 hw) (rm7_10 hw a1 p2 a3 w4 p5 p6 p7 Z0 P1 P2 P3 P4 P5 P6 P7) e0 P1 (Ls := #[sr a1]) hml [vi 42] [] pd_10 0 (hb hby d6_3)
  have N8 := Fr.app N0 N8q
  refine ⟨T8, _, _, _, _, some (vi 0), X8, e8q, by decide, by decide, nofun, ⟨rfl, N8, rfl⟩, fun fs hr => ?_⟩
  refine own_b X0 hx hby tb6 2 [] 3 _ [vi 42, vr a1] rfl ?_
  refine st8 _ ?_
  refine own_b X8 hx hby tb6 2 [true] 14 _ [vi 0] (ai (tlt H1).1 rfl) ?_
  exact retN X8 hx (t := .boolean) hret (by simp) (hb hby d6_14) hr
theorem rm6_25 (hw : OW Z a0) (a1 : Addr) (p2 : Int32) (a3 : Addr) (w4 : ClassId) (p5 p6 p7 : Int32) (Z0 : n0 ≤ h0.size) (P1 : ab8 Z h0 a1) (P2 : ab1 Z (vi p2)) (P3 : Old Z n0 h0) (P4 : ¬ (p2 = (0 : Int32))) (P5 : ab6 Z h0 a1 (vi 0)) (P6 : ab7 Z h0 a1 (vr a3)) (P7 : Arv Z h0 a3 w4 .byte (3 : Int32) [vi p5, vi p6, vi p7] (vi 0)) (H1 : ¬ ((va34 p5 p6 p7) < (0 : Int32))) :
    M6 l Z ws (orm 4 0 0 59) #[vr a1] h0 (QI n0 h0 (vi 1)) := by
  refine own_enter (plainFor_of_name pn_3) (L0 := #[sr a1]) ?_
  intro p e s m below meth c s₁ hx hby hml hown hnm hret hZ X0 e0
  have N0 := Fr.nil n0
  obtain ⟨T8, L8, _, X8, ⟨rfl, N8q, e8q⟩, st8⟩ := own_callV X0 hx hZ hown (tw_34 hw) (tw_35 hw) (notFace_of_selects (args := #[]) (mvT hZ (tw_37 hw))) (tw_37 hw) (tw_36 hw) (tw_10 hw) (tw_38 hw) (rm7_10 hw a1 p2 a3 w4 p5 p6 p7 Z0 P1 P2 P3 P4 P5 P6 P7) e0 P1 (Ls := #[sr a1]) hml [vi 42] [] pd_10 0 (hb hby d6_3)
  have N8 := Fr.app N0 N8q
  refine ⟨T8, _, _, _, _, some (vi 1), X8, e8q, by decide, by decide, nofun, ⟨rfl, N8, rfl⟩, fun fs hr => ?_⟩
  refine own_b X0 hx hby tb6 2 [] 3 _ [vi 42, vr a1] rfl ?_
  refine st8 _ ?_
  refine own_b X8 hx hby tb6 3 [false] 14 _ [vi 1] (ai (flt H1).1 rfl) ?_
  exact retN X8 hx (t := .boolean) hret (by simp) (hb hby d6_14) hr
theorem rm6_26 (hw : OW Z a0) (a1 : Addr) (p2 : Int32) (a3 : Addr) (w4 : ClassId) (p5 p6 p7 : Int32) (Z0 : n0 ≤ h0.size) (P1 : ab8 Z h0 a1) (P2 : ab1 Z (vi p2)) (P3 : Old Z n0 h0) (P4 : ¬ (p2 = (0 : Int32))) (P5 : ab6 Z h0 a1 (vi 0)) (P6 : ab7 Z h0 a1 (vr a3)) (P7 : Arv Z h0 a3 w4 .byte (3 : Int32) [vi p5, vi p6, vi p7] (vi 0)) :
    M6 l Z ws (orm 4 0 0 59) #[vr a1] h0 (QI n0 h0 (vi (va35 p5 p6 p7))) := by
  by_cases H1 : (va34 p5 p6 p7) < (0 : Int32)
  ·
    rw [show (va35 p5 p6 p7) = (0 : Int32) from by simp only [va35, if_pos H1]]
    exact rm6_24 hw a1 p2 a3 w4 p5 p6 p7 Z0 P1 P2 P3 P4 P5 P6 P7 H1
  ·
    rw [show (va35 p5 p6 p7) = (1 : Int32) from by simp only [va35, if_neg H1]]
    exact rm6_25 hw a1 p2 a3 w4 p5 p6 p7 Z0 P1 P2 P3 P4 P5 P6 P7 H1
theorem rm17_10 (hw : OW Z a0) (a1 a2 : Addr) (w3 : ClassId) (p4 p5 p6 p7 : Int32) (Z0 : n0 ≤ h0.size) (P1 : Arv Z h0 a1 w3 .char (4 : Int32) [vi p4, vi p5, vi p6, vi p7] (vi 0)) (P2 : (255 : Int32) < p4) :
    M17 l Z ws (orm 0 0 0 0) #[vr a1, vi 0, vr a2, vi 0, vi 4] h0 (QI n0 h0 (vi 0)) := by
  refine own_enter (plainFor_of_name pn_4) (L0 := (L_ririiuu a1 0 a2 0 4)) ?_
  intro p e s m below meth c s₁ hx hby hml hown hnm hret hZ X0 e0
  have N0 := Fr.nil n0
  refine ⟨s₁, _, _, _, _, some (vi 0), X0, e0, by decide, by decide, nofun, ⟨rfl, N0, rfl⟩, fun fs hr => ?_⟩
  refine own_a X0 hx hZ e0 hby tb17 (aec P1 aen) 13 [false, false] [0] 25 (L_ririiii a1 0 a2 0 4 0 p4) [vi 0] (ai (by decide) (ai rfl (ai (tlt P2).2.2.2 rfl))) ?_
  exact retI X0 hx hret (hb hby d17_25) hr
theorem rm22_4 (hw : OW Z a0)  (Z0 : n0 ≤ h0.size) :
    M22 l Z ws (orm 0 0 0 0) #[vi 4] h0 (QI n0 h0 (vi 8)) := by
  refine own_enter (plainFor_of_name pn_4) (L0 := #[si 4]) ?_
  intro p e s m below meth c s₁ hx hby hml hown hnm hret hZ X0 e0
  have N0 := Fr.nil n0
  refine ⟨s₁, _, _, _, _, some (vi 8), X0, e0, by decide, by decide, nofun, ⟨rfl, N0, rfl⟩, fun fs hr => ?_⟩
  refine own_b X0 hx hby tb22 3 [true] 13 _ [vi 4] (ai (by decide) rfl) ?_
  refine X0.ldcInt hx hown (mvT hZ (tw_97 hw)) (g := (mkF m 13 #[si 4] [vi 4])) rfl (hb hby d22_13) _ ?_
  show OS p e below s₁ m 15 #[si 4] [vi 1073741823, vi 4] _
  refine own_b X0 hx hby tb22 4 [true] 58 _ [vi 8] (ai (by decide) rfl) ?_
  exact retI X0 hx hret (hb hby d22_58) hr
theorem rm21_4 (hw : OW Z a0)  (Z0 : n0 ≤ h0.size) :
    M21 l Z ws (orm 1 1 8 12) #[vi 4] h0 (fun v h L => ∃ b2 : Addr, ∃ k3 : ClassId, v = some (vr b2) ∧ Fr n0 L ∧ Keep h0 h [] ∧ n0 ≤ b2 ∧ h0.size ≤ b2 ∧ Arv Z h b2 k3 .byte (8 : Int32) [vi 0, vi 0, vi 0, vi 0, vi 0, vi 0, vi 0, vi 0] (vi 0)) := by
  refine own_enter (plainFor_of_name pn_4) (L0 := #[si 4]) ?_
  intro p e s m below meth c s₁ hx hby hml hown hnm hret hZ X0 e0
  have N0 := Fr.nil n0
  obtain ⟨T1, L1, _, X1, ⟨rfl, N1q, e1q⟩, st1⟩ := own_callS X0 hx hZ hown (cw_7 hw) (rm22_4 hw  Z0 ) e0 (Ls := #[si 4]) hml [vi 4] [] pd_10 0 (hb hby d21_1)
  have N1 := Fr.app N0 N1q
  obtain ⟨T3, h3, b2, k3, X3, e3, E3, g3, V3, st3⟩ := own_newP X1 hx hZ (tw_23 hw) e1q (n := (8 : Int32)) (k := 8) (d := (vi 0)) (vs := [vi 0, vi 0, vi 0, vi 0, vi 0, vi 0, vi 0, vi 0]) (Ls := #[si 4]) (S := []) (hb hby d21_4)
  have q3 := Nat.le_trans Z0 g3
  have z3 := Nat.le_trans (Nat.le_refl h0.size) g3
  have K4 := (Keep.refl h0 []).ext E3
  refine ⟨T3, _, _, _, _, some (vr b2), X3, e3, by decide, by decide, nofun, ⟨b2, k3, rfl, N1, K4, q3, z3, V3⟩, fun fs hr => ?_⟩
  refine own_b X0 hx hby tb21 1 [] 1 _ [vi 4] rfl ?_
  refine st1 _ ?_
  refine st3 _ ?_
  exact own_retA X3 hx hret rfl (hb hby d21_6) hr
theorem rm23_7 (hw : OW Z a0) (a1 : Addr) (p2 : Int32) (w5 : ClassId) (Z0 : n0 ≤ h0.size) (P1 : ab2 Z (vi 1)) (P2 : Old Z n0 h0) (P3 : ab3 Z (vi 0)) (P4 : Arv Z h0 a1 w5 .byte (8 : Int32) [vi 0, vi 0, vi 0, vi 0, vi 0, vi 0, vi 0, vi 0] (vi 0)) (P5 : n0 ≤ a1) (P6 : ab4 Z (vi 8)) :
    M23 l Z ws (orm 0 0 0 0) #[vr a1, vi 0, vi p2] h0 (fun v h L => v = none ∧ Fr n0 L ∧ Keep h0 h [a1] ∧ Arv Z h a1 w5 .byte (8 : Int32) [vi ((va4 p2).toInt8.toInt32), vi ((va5 p2).toInt8.toInt32), vi 0, vi 0, vi 0, vi 0, vi 0, vi 0] (vi 0)) := by
  refine own_enter (plainFor_of_name pn_4) (L0 := (L_rii a1 0 p2)) ?_
  intro p e s m below meth c s₁ hx hby hml hown hnm hret hZ X0 e0
  have N0 := Fr.nil n0
  obtain ⟨T3, X3, e3, st3⟩ := getS2 X0 hx hZ hown (host := "") (Or.inl (tw_101 hw)) Via.refl e0 (Sta.ext P2.2 P1) (g := (mkF m 0 (L_rii a1 0 p2) [])) rfl (hb hby d23_0)
  obtain ⟨T4, X4, e4, st4⟩ := getS2 X3 hx hZ hown (host := "") (Or.inl (tw_102 hw)) Via.refl e3 (Sta.ext P2.2 P3) (g := (mkF m 38 (L_rii a1 1 p2) [vi p2, vi 0, vr a1])) rfl (hb hby d23_38)
  obtain ⟨T6, h6, X6, e6, W6, V6, st6⟩ := own_stB X4 hx hZ e4 P4 (j := (0 : Int32)) (x := (va4 p2)) (by decide) 0 rfl (Nat.le_of_ble_eq_true rfl) (Ls := (L_rii a1 1 p2)) (rest := []) (hb hby d23_43)
  have N6 := Fr.snoc X6 N0 P5
  have F7 := (P2.wr W6 P5)
  obtain ⟨T8, X8, e8, st8⟩ := getS2 X6 hx hZ hown (host := "") (Or.inl (tw_103 hw)) Via.refl e6 (Sta.ext F7.2 P6) (g := (mkF m 47 (L_rii a1 1 p2) [vi p2, vi 1, vr a1])) rfl (hb hby d23_47)
  obtain ⟨T9, h9, X9, e9, W9, V9, st9⟩ := own_stB X8 hx hZ e8 V6 (j := (1 : Int32)) (x := (va5 p2)) (by decide) 1 rfl (Nat.le_of_ble_eq_true rfl) (Ls := (L_rii a1 1 p2)) (rest := []) (hb hby d23_52)
  have N9 := Fr.snoc X9 N6 P5
  have K10 := (Keep.refl h0 [a1]).wr W6 (Or.inl (List.mem_of_getElem? (i := 0) rfl))
  have K11 := K10.wr W9 (Or.inl (List.mem_of_getElem? (i := 0) rfl))
  refine ⟨T9, _, _, _, _, none, X9, e9, by decide, by decide, (fun _ => rfl), ⟨rfl, N9, K11, V9⟩, fun fs hr => ?_⟩
  show OS p e below s₁ m 0 (L_rii a1 0 p2) [] _
  refine st3 _ ?_
  refine own_b X3 hx hby tb23 9 [true] 38 (L_rii a1 1 p2) [vi p2, vi 0, vr a1] (ai (by decide) rfl) ?_
  refine st4 _ ?_
  refine own_b X4 hx hby tb23 2 [] 43 _ [vi (va4 p2), vi 0, vr a1] rfl ?_
  refine st6 _ ?_
  refine own_b X6 hx hby tb23 3 [] 47 _ [vi p2, vi 1, vr a1] rfl ?_
  refine st8 _ ?_
  refine own_b X8 hx hby tb23 2 [] 52 _ [vi (va5 p2), vi 1, vr a1] rfl ?_
  refine st9 _ ?_
  show OS p e below T9 m 53 (L_rii a1 1 p2) [] _
  exact X9.returnOut hx hret (hb hby d23_53) hr
theorem rm23_8 (hw : OW Z a0) (a1 : Addr) (p2 : Int32) (w5 : ClassId) (p6 p7 : Int32) (Z0 : n0 ≤ h0.size) (P1 : ab2 Z (vi 1)) (P2 : Old Z n0 h0) (P3 : ab3 Z (vi 0)) (P4 : Arv Z h0 a1 w5 .byte (8 : Int32) [vi p6, vi p7, vi 0, vi 0, vi 0, vi 0, vi 0, vi 0] (vi 0)) (P5 : n0 ≤ a1) (P6 : ab4 Z (vi 8)) :
    M23 l Z ws (orm 0 0 0 0) #[vr a1, vi 1, vi p2] h0 (fun v h L => v = none ∧ Fr n0 L ∧ Keep h0 h [a1] ∧ Arv Z h a1 w5 .byte (8 : Int32) [vi p6, vi p7, vi ((va4 p2).toInt8.toInt32), vi ((va5 p2).toInt8.toInt32), vi 0, vi 0, vi 0, vi 0] (vi 0)) := by
  refine own_enter (plainFor_of_name pn_4) (L0 := (L_rii a1 1 p2)) ?_
  intro p e s m below meth c s₁ hx hby hml hown hnm hret hZ X0 e0
  have N0 := Fr.nil n0
  obtain ⟨T3, X3, e3, st3⟩ := getS2 X0 hx hZ hown (host := "") (Or.inl (tw_101 hw)) Via.refl e0 (Sta.ext P2.2 P1) (g := (mkF m 0 (L_rii a1 1 p2) [])) rfl (hb hby d23_0)
  obtain ⟨T4, X4, e4, st4⟩ := getS2 X3 hx hZ hown (host := "") (Or.inl (tw_102 hw)) Via.refl e3 (Sta.ext P2.2 P3) (g := (mkF m 38 (L_rii a1 3 p2) [vi p2, vi 2, vr a1])) rfl (hb hby d23_38)
  obtain ⟨T8, h8, X8, e8, W8, V8, st8⟩ := own_stB X4 hx hZ e4 P4 (j := (2 : Int32)) (x := (va4 p2)) (by decide) 2 rfl (Nat.le_of_ble_eq_true rfl) (Ls := (L_rii a1 3 p2)) (rest := []) (hb hby d23_43)
  have N8 := Fr.snoc X8 N0 P5
  have F9 := (P2.wr W8 P5)
  obtain ⟨T10, X10, e10, st10⟩ := getS2 X8 hx hZ hown (host := "") (Or.inl (tw_103 hw)) Via.refl e8 (Sta.ext F9.2 P6) (g := (mkF m 47 (L_rii a1 3 p2) [vi p2, vi 3, vr a1])) rfl (hb hby d23_47)
  obtain ⟨T11, h11, X11, e11, W11, V11, st11⟩ := own_stB X10 hx hZ e10 V8 (j := (3 : Int32)) (x := (va5 p2)) (by decide) 3 rfl (Nat.le_of_ble_eq_true rfl) (Ls := (L_rii a1 3 p2)) (rest := []) (hb hby d23_52)
  have N11 := Fr.snoc X11 N8 P5
  have K12 := (Keep.refl h0 [a1]).wr W8 (Or.inl (List.mem_of_getElem? (i := 0) rfl))
  have K13 := K12.wr W11 (Or.inl (List.mem_of_getElem? (i := 0) rfl))
  refine ⟨T11, _, _, _, _, none, X11, e11, by decide, by decide, (fun _ => rfl), ⟨rfl, N11, K13, V11⟩, fun fs hr => ?_⟩
  show OS p e below s₁ m 0 (L_rii a1 1 p2) [] _
  refine st3 _ ?_
  refine own_b X3 hx hby tb23 9 [true] 38 (L_rii a1 3 p2) [vi p2, vi 2, vr a1] (ai (by decide) rfl) ?_
  refine st4 _ ?_
  refine own_b X4 hx hby tb23 2 [] 43 _ [vi (va4 p2), vi 2, vr a1] rfl ?_
  refine st8 _ ?_
  refine own_b X8 hx hby tb23 3 [] 47 _ [vi p2, vi 3, vr a1] rfl ?_
  refine st10 _ ?_
  refine own_b X10 hx hby tb23 2 [] 52 _ [vi (va5 p2), vi 3, vr a1] rfl ?_
  refine st11 _ ?_
  show OS p e below T11 m 53 (L_rii a1 3 p2) [] _
  exact X11.returnOut hx hret (hb hby d23_53) hr
theorem rm23_9 (hw : OW Z a0) (a1 : Addr) (p2 : Int32) (w5 : ClassId) (p6 p7 p8 p9 : Int32) (Z0 : n0 ≤ h0.size) (P1 : ab2 Z (vi 1)) (P2 : Old Z n0 h0) (P3 : ab3 Z (vi 0)) (P4 : Arv Z h0 a1 w5 .byte (8 : Int32) [vi p6, vi p7, vi p8, vi p9, vi 0, vi 0, vi 0, vi 0] (vi 0)) (P5 : n0 ≤ a1) (P6 : ab4 Z (vi 8)) :
    M23 l Z ws (orm 0 0 0 0) #[vr a1, vi 2, vi p2] h0 (fun v h L => v = none ∧ Fr n0 L ∧ Keep h0 h [a1] ∧ Arv Z h a1 w5 .byte (8 : Int32) [vi p6, vi p7, vi p8, vi p9, vi ((va4 p2).toInt8.toInt32), vi ((va5 p2).toInt8.toInt32), vi 0, vi 0] (vi 0)) := by
  refine own_enter (plainFor_of_name pn_4) (L0 := (L_rii a1 2 p2)) ?_
  intro p e s m below meth c s₁ hx hby hml hown hnm hret hZ X0 e0
  have N0 := Fr.nil n0
  obtain ⟨T3, X3, e3, st3⟩ := getS2 X0 hx hZ hown (host := "") (Or.inl (tw_101 hw)) Via.refl e0 (Sta.ext P2.2 P1) (g := (mkF m 0 (L_rii a1 2 p2) [])) rfl (hb hby d23_0)
  obtain ⟨T4, X4, e4, st4⟩ := getS2 X3 hx hZ hown (host := "") (Or.inl (tw_102 hw)) Via.refl e3 (Sta.ext P2.2 P3) (g := (mkF m 38 (L_rii a1 5 p2) [vi p2, vi 4, vr a1])) rfl (hb hby d23_38)
  obtain ⟨T10, h10, X10, e10, W10, V10, st10⟩ := own_stB X4 hx hZ e4 P4 (j := (4 : Int32)) (x := (va4 p2)) (by decide) 4 rfl (Nat.le_of_ble_eq_true rfl) (Ls := (L_rii a1 5 p2)) (rest := []) (hb hby d23_43)
  have N10 := Fr.snoc X10 N0 P5
  have F11 := (P2.wr W10 P5)
  obtain ⟨T12, X12, e12, st12⟩ := getS2 X10 hx hZ hown (host := "") (Or.inl (tw_103 hw)) Via.refl e10 (Sta.ext F11.2 P6) (g := (mkF m 47 (L_rii a1 5 p2) [vi p2, vi 5, vr a1])) rfl (hb hby d23_47)
  obtain ⟨T13, h13, X13, e13, W13, V13, st13⟩ := own_stB X12 hx hZ e12 V10 (j := (5 : Int32)) (x := (va5 p2)) (by decide) 5 rfl (Nat.le_of_ble_eq_true rfl) (Ls := (L_rii a1 5 p2)) (rest := []) (hb hby d23_52)
  have N13 := Fr.snoc X13 N10 P5
  have K14 := (Keep.refl h0 [a1]).wr W10 (Or.inl (List.mem_of_getElem? (i := 0) rfl))
  have K15 := K14.wr W13 (Or.inl (List.mem_of_getElem? (i := 0) rfl))
  refine ⟨T13, _, _, _, _, none, X13, e13, by decide, by decide, (fun _ => rfl), ⟨rfl, N13, K15, V13⟩, fun fs hr => ?_⟩
  show OS p e below s₁ m 0 (L_rii a1 2 p2) [] _
  refine st3 _ ?_
  refine own_b X3 hx hby tb23 9 [true] 38 (L_rii a1 5 p2) [vi p2, vi 4, vr a1] (ai (by decide) rfl) ?_
  refine st4 _ ?_
  refine own_b X4 hx hby tb23 2 [] 43 _ [vi (va4 p2), vi 4, vr a1] rfl ?_
  refine st10 _ ?_
  refine own_b X10 hx hby tb23 3 [] 47 _ [vi p2, vi 5, vr a1] rfl ?_
  refine st12 _ ?_
  refine own_b X12 hx hby tb23 2 [] 52 _ [vi (va5 p2), vi 5, vr a1] rfl ?_
  refine st13 _ ?_
  show OS p e below T13 m 53 (L_rii a1 5 p2) [] _
  exact X13.returnOut hx hret (hb hby d23_53) hr
theorem rm23_10 (hw : OW Z a0) (a1 : Addr) (p2 : Int32) (w5 : ClassId) (p6 p7 p8 p9 p10 p11 : Int32) (Z0 : n0 ≤ h0.size) (P1 : ab2 Z (vi 1)) (P2 : Old Z n0 h0) (P3 : ab3 Z (vi 0)) (P4 : Arv Z h0 a1 w5 .byte (8 : Int32) [vi p6, vi p7, vi p8, vi p9, vi p10, vi p11, vi 0, vi 0] (vi 0)) (P5 : n0 ≤ a1) (P6 : ab4 Z (vi 8)) :
    M23 l Z ws (orm 0 0 0 0) #[vr a1, vi 3, vi p2] h0 (fun v h L => v = none ∧ Fr n0 L ∧ Keep h0 h [a1] ∧ Arv Z h a1 w5 .byte (8 : Int32) [vi p6, vi p7, vi p8, vi p9, vi p10, vi p11, vi ((va4 p2).toInt8.toInt32), vi ((va5 p2).toInt8.toInt32)] (vi 0)) := by
  refine own_enter (plainFor_of_name pn_4) (L0 := (L_rii a1 3 p2)) ?_
  intro p e s m below meth c s₁ hx hby hml hown hnm hret hZ X0 e0
  have N0 := Fr.nil n0
  obtain ⟨T3, X3, e3, st3⟩ := getS2 X0 hx hZ hown (host := "") (Or.inl (tw_101 hw)) Via.refl e0 (Sta.ext P2.2 P1) (g := (mkF m 0 (L_rii a1 3 p2) [])) rfl (hb hby d23_0)
  obtain ⟨T4, X4, e4, st4⟩ := getS2 X3 hx hZ hown (host := "") (Or.inl (tw_102 hw)) Via.refl e3 (Sta.ext P2.2 P3) (g := (mkF m 38 (L_rii a1 7 p2) [vi p2, vi 6, vr a1])) rfl (hb hby d23_38)
  obtain ⟨T12, h12, X12, e12, W12, V12, st12⟩ := own_stB X4 hx hZ e4 P4 (j := (6 : Int32)) (x := (va4 p2)) (by decide) 6 rfl (Nat.le_of_ble_eq_true rfl) (Ls := (L_rii a1 7 p2)) (rest := []) (hb hby d23_43)
  have N12 := Fr.snoc X12 N0 P5
  have F13 := (P2.wr W12 P5)
  obtain ⟨T14, X14, e14, st14⟩ := getS2 X12 hx hZ hown (host := "") (Or.inl (tw_103 hw)) Via.refl e12 (Sta.ext F13.2 P6) (g := (mkF m 47 (L_rii a1 7 p2) [vi p2, vi 7, vr a1])) rfl (hb hby d23_47)
  obtain ⟨T15, h15, X15, e15, W15, V15, st15⟩ := own_stB X14 hx hZ e14 V12 (j := (7 : Int32)) (x := (va5 p2)) (by decide) 7 rfl (Nat.le_of_ble_eq_true rfl) (Ls := (L_rii a1 7 p2)) (rest := []) (hb hby d23_52)
  have N15 := Fr.snoc X15 N12 P5
  have K16 := (Keep.refl h0 [a1]).wr W12 (Or.inl (List.mem_of_getElem? (i := 0) rfl))
  have K17 := K16.wr W15 (Or.inl (List.mem_of_getElem? (i := 0) rfl))
  refine ⟨T15, _, _, _, _, none, X15, e15, by decide, by decide, (fun _ => rfl), ⟨rfl, N15, K17, V15⟩, fun fs hr => ?_⟩
  show OS p e below s₁ m 0 (L_rii a1 3 p2) [] _
  refine st3 _ ?_
  refine own_b X3 hx hby tb23 9 [true] 38 (L_rii a1 7 p2) [vi p2, vi 6, vr a1] (ai (by decide) rfl) ?_
  refine st4 _ ?_
  refine own_b X4 hx hby tb23 2 [] 43 _ [vi (va4 p2), vi 6, vr a1] rfl ?_
  refine st12 _ ?_
  refine own_b X12 hx hby tb23 3 [] 47 _ [vi p2, vi 7, vr a1] rfl ?_
  refine st14 _ ?_
  refine own_b X14 hx hby tb23 2 [] 52 _ [vi (va5 p2), vi 7, vr a1] rfl ?_
  refine st15 _ ?_
  show OS p e below T15 m 53 (L_rii a1 7 p2) [] _
  exact X15.returnOut hx hret (hb hby d23_53) hr
theorem rm20_4 (hw : OW Z a0) (a1 : Addr) (w4 : ClassId) (p5 p6 p7 p8 : Int32) (Z0 : n0 ≤ h0.size) (P1 : Arv Z h0 a1 w4 .char (4 : Int32) [vi p5, vi p6, vi p7, vi p8] (vi 0)) (P2 : ab2 Z (vi 1)) (P3 : Old Z n0 h0) (P4 : ab3 Z (vi 0)) (P5 : ab4 Z (vi 8)) :
    M20 l Z ws (orm 2 1 8 24) #[vr a1, vi 0, vi 4] h0 (fun v h L => ∃ b3 : Addr, ∃ kk2_0 : ClassId, v = some (vr b3) ∧ Fr n0 L ∧ Keep h0 h [] ∧ n0 ≤ b3 ∧ h0.size ≤ b3 ∧ Arv Z h b3 kk2_0 .byte (8 : Int32) [vi ((va4 p5).toInt8.toInt32), vi ((va5 p5).toInt8.toInt32), vi ((va4 p6).toInt8.toInt32), vi ((va5 p6).toInt8.toInt32), vi ((va4 p7).toInt8.toInt32), vi ((va5 p7).toInt8.toInt32), vi ((va4 p8).toInt8.toInt32), vi ((va5 p8).toInt8.toInt32)] (vi 0)) := by
  refine own_enter (plainFor_of_name pn_4) (L0 := (L_riiuu a1 0 4)) ?_
  intro p e s m below meth c s₁ hx hby hml hown hnm hret hZ X0 e0
  have N0 := Fr.nil n0
  obtain ⟨T2, L2, _, X2, ⟨b3, kk2_0, rfl, N2q, K2, qa2_0, qb2_0, f2_0⟩, st2⟩ := own_callS X0 hx hZ hown (cw_8 hw) (rm21_4 hw  Z0 ) e0 (Ls := (L_riiuu a1 0 4)) hml [vi 4] [] pd_13 0 (hb hby d20_1)
  have N2 := Fr.app N0 N2q
  have qd2_0 := Nat.le_trans (Nat.le_refl h0.size) qb2_0
  have F9 := (Arv.keep P1 K2 nin0)
  have F10 := (P3.keep K2 all0)
  obtain ⟨T11, L11, _, X11, ⟨rfl, N11q, K11, f11_0⟩, st11⟩ := own_callS X2 hx hZ hown (cw_9 hw) (rm23_7 hw b3 p5 kk2_0 (Nat.le_trans Z0 K2.1) P2 F10 P4 f2_0 qa2_0 P5) rfl (Ls := (L_riiri a1 0 4 b3 0)) hml [vr b3, vi 0, vi p5] [] pd_14 0 (hb hby d20_20)
  have N11 := Fr.app N2 N11q
  have n12 := Nat.ne_of_lt (Nat.lt_of_lt_of_le P1.lt qb2_0)
  have F13 := (Arv.keep F9 K11 (ninS n12 nin0))
  have F14 := (F10.keep K11 (allS qa2_0 all0))
  obtain ⟨T15, L15, _, X15, ⟨rfl, N15q, K15, f15_0⟩, st15⟩ := own_callS X11 hx hZ hown (cw_9 hw) (rm23_8 hw b3 p6 kk2_0 ((va4 p5).toInt8.toInt32) ((va5 p5).toInt8.toInt32) (Nat.le_trans (Nat.le_trans Z0 K2.1) K11.1) P2 F14 P4 f11_0 qa2_0 P5) rfl (Ls := (L_riiri a1 1 4 b3 1)) hml [vr b3, vi 1, vi p6] [] pd_14 0 (hb hby d20_20)
  have N15 := Fr.app N11 N15q
  have F16 := (Arv.keep F13 K15 (ninS n12 nin0))
  have F17 := (F14.keep K15 (allS qa2_0 all0))
  have F19 := (Nat.le_trans (Nat.le_trans (Nat.le_trans Z0 K2.1) K11.1) K15.1)
  obtain ⟨T18, L18, _, X18, ⟨rfl, N18q, K18, f18_0⟩, st18⟩ := own_callS X15 hx hZ hown (cw_9 hw) (rm23_9 hw b3 p7 kk2_0 ((va4 p5).toInt8.toInt32) ((va5 p5).toInt8.toInt32) ((va4 p6).toInt8.toInt32) ((va5 p6).toInt8.toInt32) F19 P2 F17 P4 f15_0 qa2_0 P5) rfl (Ls := (L_riiri a1 2 4 b3 2)) hml [vr b3, vi 2, vi p7] [] pd_14 0 (hb hby d20_20)
  have N18 := Fr.app N15 N18q
  have F20 := (Arv.keep F16 K18 (ninS n12 nin0))
  have F21 := (F17.keep K18 (allS qa2_0 all0))
  have F23 := (Nat.le_trans (Nat.le_trans (Nat.le_trans (Nat.le_trans Z0 K2.1) K11.1) K15.1) K18.1)
  obtain ⟨T22, L22, _, X22, ⟨rfl, N22q, K22, f22_0⟩, st22⟩ := own_callS X18 hx hZ hown (cw_9 hw) (rm23_10 hw b3 p8 kk2_0 ((va4 p5).toInt8.toInt32) ((va5 p5).toInt8.toInt32) ((va4 p6).toInt8.toInt32) ((va5 p6).toInt8.toInt32) ((va4 p7).toInt8.toInt32) ((va5 p7).toInt8.toInt32) F23 P2 F21 P4 f18_0 qa2_0 P5) rfl (Ls := (L_riiri a1 3 4 b3 3)) hml [vr b3, vi 3, vi p8] [] pd_14 0 (hb hby d20_20)
  have N22 := Fr.app N18 N22q
  have K24 := (Keep.refl h0 []).trans K2 all0
  have K25 := K24.trans K11 (allS (Or.inr qd2_0) all0)
  have K26 := K25.trans K15 (allS (Or.inr qd2_0) all0)
  have K27 := K26.trans K18 (allS (Or.inr qd2_0) all0)
  have K28 := K27.trans K22 (allS (Or.inr qd2_0) all0)
  refine ⟨T22, _, _, _, _, some (vr b3), X22, rfl, by decide, by decide, nofun, ⟨b3, kk2_0, rfl, N22, K28, qa2_0, qd2_0, f22_0⟩, fun fs hr => ?_⟩
  refine own_b X0 hx hby tb20 1 [] 1 _ [vi 4] rfl ?_
  refine st2 _ ?_
  refine own_a X2 hx hZ rfl hby tb20 (aec F9 aen) 11 [false] [0] 20 (L_riiri a1 0 4 b3 0) [vi p5, vi 0, vr b3] (ai (by decide) (ai rfl rfl)) ?_
  refine st11 _ ?_
  refine own_a X11 hx hZ rfl hby tb20 (aec F13 aen) 11 [false] [0] 20 (L_riiri a1 1 4 b3 1) [vi p6, vi 1, vr b3] (ai (by decide) (ai rfl rfl)) ?_
  refine st15 _ ?_
  refine own_a X15 hx hZ rfl hby tb20 (aec F16 aen) 11 [false] [0] 20 (L_riiri a1 2 4 b3 2) [vi p7, vi 2, vr b3] (ai (by decide) (ai rfl rfl)) ?_
  refine st18 _ ?_
  refine own_a X18 hx hZ rfl hby tb20 (aec F20 aen) 11 [false] [0] 20 (L_riiri a1 3 4 b3 3) [vi p8, vi 3, vr b3] (ai (by decide) (ai rfl rfl)) ?_
  refine st22 _ ?_
  refine own_b X22 hx hby tb20 7 [true] 33 (L_riiri a1 4 4 b3 4) [vr b3] (ai (by decide) rfl) ?_
  exact own_retA X22 hx hret rfl (hb hby d20_33) hr
theorem rm24_7 (hw : OW Z a0) (a1 : Addr) (w3 : ClassId) (p4 p5 p6 p7 p8 p9 p10 p11 : Int32) (Z0 : n0 ≤ h0.size) (P1 : ab2 Z (vi 1)) (P2 : Old Z n0 h0) (P3 : Arv Z h0 a1 w3 .byte (8 : Int32) [vi p4, vi p5, vi p6, vi p7, vi p8, vi p9, vi p10, vi p11] (vi 0)) (P4 : ab3 Z (vi 0)) (P5 : ab4 Z (vi 8)) :
    M24 l Z ws (orm 0 0 0 0) #[vr a1, vi 0] h0 (QI n0 h0 (vi (nar .char (va8 p4 p5)))) := by
  refine own_enter (plainFor_of_name pn_4) (L0 := (L_ri a1 0)) ?_
  intro p e s m below meth c s₁ hx hby hml hown hnm hret hZ X0 e0
  have N0 := Fr.nil n0
  obtain ⟨T2, X2, e2, st2⟩ := getS2 X0 hx hZ hown (host := "") (Or.inl (tw_101 hw)) Via.refl e0 (Sta.ext P2.2 P1) (g := (mkF m 0 (L_ri a1 0) [])) rfl (hb hby d24_0)
  obtain ⟨T12, X12, e12, st12⟩ := getS2 X2 hx hZ hown (host := "") (Or.inl (tw_102 hw)) Via.refl e2 (Sta.ext P2.2 P4) (g := (mkF m 42 (L_ri a1 1) [vi (p4 &&& (255 : Int32))])) rfl (hb hby d24_42)
  obtain ⟨T13, X13, e13, st13⟩ := getS2 X12 hx hZ hown (host := "") (Or.inl (tw_103 hw)) Via.refl e12 (Sta.ext P2.2 P5) (g := (mkF m 53 (L_ri a1 1) [vi (p5 &&& (255 : Int32)), vi (va6 p4)])) rfl (hb hby d24_53)
  refine ⟨T13, _, _, _, _, some (vi (nar .char (va8 p4 p5))), X13, e13, by decide, by decide, nofun, ⟨rfl, N0, rfl⟩, fun fs hr => ?_⟩
  show OS p e below s₁ m 0 (L_ri a1 0) [] _
  refine st2 _ ?_
  refine own_a X2 hx hZ e2 hby tb24 (aec P3 aen) 11 [true] [0] 42 (L_ri a1 1) [vi (p4 &&& (255 : Int32))] (ai (by decide) (ai rfl rfl)) ?_
  refine st12 _ ?_
  refine own_a X12 hx hZ e12 hby tb24 (aec P3 aen) 6 [] [0] 53 _ [vi (p5 &&& (255 : Int32)), vi (va6 p4)] (ai rfl rfl) ?_
  refine st13 _ ?_
  refine own_b X13 hx hby tb24 3 [] 59 _ [vi (va8 p4 p5)] rfl ?_
  exact retN X13 hx (t := .char) hret (by simp) (hb hby d24_59) hr
theorem rm16_10 (hw : OW Z a0) (a1 : Addr) (w4 : ClassId) (p5 p6 p7 p8 : Int32) (Z0 : n0 ≤ h0.size) (P1 : Arv Z h0 a1 w4 .char (4 : Int32) [vi p5, vi p6, vi p7, vi p8] (vi 0)) (P2 : (255 : Int32) < p5) (P3 : ab2 Z (vi 1)) (P4 : Old Z n0 h0) (P5 : ab3 Z (vi 0)) (P6 : ab4 Z (vi 8)) (P7 : (255 : Int32) < (nar .char (va8 ((va4 p5).toInt8.toInt32) ((va5 p5).toInt8.toInt32)))) :
    M16 l Z ws (orm 3 2 12 40) #[vr a1, vi 0, vi 4] h0 (fun v h L => ∃ b13 : Addr, ∃ kk12_0 : ClassId, v = some (vr b13) ∧ Fr n0 L ∧ Keep h0 h [] ∧ n0 ≤ b13 ∧ h0.size ≤ b13 ∧ Arv Z h b13 kk12_0 .byte (8 : Int32) [vi ((va4 p5).toInt8.toInt32), vi ((va5 p5).toInt8.toInt32), vi ((va4 p6).toInt8.toInt32), vi ((va5 p6).toInt8.toInt32), vi ((va4 p7).toInt8.toInt32), vi ((va5 p7).toInt8.toInt32), vi ((va4 p8).toInt8.toInt32), vi ((va5 p8).toInt8.toInt32)] (vi 0)) := by
  refine own_enter (plainFor_of_name pn_4) (L0 := (L_riiuuu a1 0 4)) ?_
  intro p e s m below meth c s₁ hx hby hml hown hnm hret hZ X0 e0
  have N0 := Fr.nil n0
  obtain ⟨T3, h3, b2, k3, X3, e3, E3, g3, V3, st3⟩ := own_newP X0 hx hZ (tw_23 hw) e0 (n := (4 : Int32)) (k := 4) (d := (vi 0)) (vs := [vi 0, vi 0, vi 0, vi 0]) (Ls := (L_riiuuu a1 0 4)) (S := []) (hb hby d16_1)
  have q3 := Nat.le_trans Z0 g3
  have z3 := Nat.le_trans (Nat.le_refl h0.size) g3
  have F9 := (P1.ext E3)
  obtain ⟨T10, L10, _, X10, ⟨rfl, N10q, e10q⟩, st10⟩ := own_callS X3 hx hZ hown (cw_6 hw) (rm17_10 hw a1 b2 w4 p5 p6 p7 p8 (Nat.le_trans Z0 E3.1) F9 P2) e3 (Ls := (L_riiruu a1 0 4 b2)) hml [vr a1, vi 0, vr b2, vi 0, vi 4] [] pd_12 0 (hb hby d16_9)
  have N10 := Fr.app N0 N10q
  have F11 := (P4.ext E3)
  obtain ⟨T12, L12, _, X12, ⟨b13, kk12_0, rfl, N12q, K12, qa12_0, qb12_0, f12_0⟩, st12⟩ := own_callS X10 hx hZ hown (cw_10 hw) (rm20_4 hw a1 w4 p5 p6 p7 p8 (Nat.le_trans Z0 E3.1) F9 P3 F11 P5 P6) e10q (Ls := (L_riiriu a1 0 4 b2 0)) hml [vr a1, vi 0, vi 4] [] pd_15 0 (hb hby d16_23)
  have N12 := Fr.app N10 N12q
  have qd12_0 := Nat.le_trans (Nat.le_trans (Nat.le_refl h0.size) E3.1) qb12_0
  have F14 := (F11.keep K12 all0)
  obtain ⟨T15, L15, _, X15, ⟨rfl, N15q, e15q⟩, st15⟩ := own_callS X12 hx hZ hown (cw_11 hw) (rm24_7 hw b13 kk12_0 ((va4 p5).toInt8.toInt32) ((va5 p5).toInt8.toInt32) ((va4 p6).toInt8.toInt32) ((va5 p6).toInt8.toInt32) ((va4 p7).toInt8.toInt32) ((va5 p7).toInt8.toInt32) ((va4 p8).toInt8.toInt32) ((va5 p8).toInt8.toInt32) (Nat.le_trans (Nat.le_trans Z0 E3.1) K12.1) P3 F14 f12_0 P5 P6) rfl (Ls := (L_riirir a1 0 4 b2 0 b13)) hml [vr b13, vi 0] [] pd_16 0 (hb hby d16_32)
  have N15 := Fr.app N12 N15q
  have K16 := (Keep.refl h0 []).ext E3
  have K17 := K16.trans K12 all0
  refine ⟨T15, _, _, _, _, some (vr b13), X15, e15q, by decide, by decide, nofun, ⟨b13, kk12_0, rfl, N15, K17, qa12_0, qd12_0, f12_0⟩, fun fs hr => ?_⟩
  refine own_b X0 hx hby tb16 1 [] 1 _ [vi 4] rfl ?_
  refine st3 _ ?_
  refine own_b X3 hx hby tb16 6 [] 9 (L_riiruu a1 0 4 b2) [vi 4, vi 0, vr b2, vi 0, vr a1] rfl ?_
  refine st10 _ ?_
  refine own_b X10 hx hby tb16 7 [false] 23 (L_riiriu a1 0 4 b2 0) [vi 4, vi 0, vr a1] (ai (by decide) rfl) ?_
  refine st12 _ ?_
  refine own_b X12 hx hby tb16 3 [] 32 (L_riirir a1 0 4 b2 0 b13) [vi 0, vr b13] rfl ?_
  refine st15 _ ?_
  refine own_b X15 hx hby tb16 3 [true] 56 _ [vr b13] (ai (tlt P7).2.2.1 rfl) ?_
  exact own_retA X15 hx hret rfl (hb hby d16_56) hr
theorem rm18_7 (hw : OW Z a0) (a1 : Addr) (w2 : ClassId) (p3 p4 p5 p6 p7 p8 p9 p10 : Int32) (Z0 : n0 ≤ h0.size) (P1 : Arv Z h0 a1 w2 .byte (8 : Int32) [vi p3, vi p4, vi p5, vi p6, vi p7, vi p8, vi p9, vi p10] (vi 0)) :
    M18 l Z ws (orm 0 0 0 0) #[vr a1, vi 4] h0 (QI n0 h0 (vi 1)) := by
  refine own_enter (plainFor_of_name pn_4) (L0 := (L_ri a1 4)) ?_
  intro p e s m below meth c s₁ hx hby hml hown hnm hret hZ X0 e0
  have N0 := Fr.nil n0
  refine ⟨s₁, _, _, _, _, some (vi 1), X0, e0, by decide, by decide, nofun, ⟨rfl, N0, rfl⟩, fun fs hr => ?_⟩
  refine own_a X0 hx hZ e0 hby tb18 (aec P1 aen) 7 [] [0] 8 _ [vi 1] (ai rfl rfl) ?_
  exact retN X0 hx (t := .byte) hret (by simp) (hb hby d18_8) hr
theorem rm4_11 (hw : OW Z a0) (a1 a2 : Addr) (p4 : Int32) (w6 : ClassId) (p7 p8 p9 p10 : Int32) (Z0 : n0 ≤ h0.size) (P1 : ab1 Z (vi p4)) (P2 : Old Z n0 h0) (P3 : ¬ (p4 = (0 : Int32))) (P4 : Arv Z h0 a2 w6 .char (4 : Int32) [vi p7, vi p8, vi p9, vi p10] (vi 0)) (P5 : (255 : Int32) < p7) (P6 : ab2 Z (vi 1)) (P7 : ab3 Z (vi 0)) (P8 : ab4 Z (vi 8)) (P9 : (255 : Int32) < (nar .char (va8 ((va4 p7).toInt8.toInt32) ((va5 p7).toInt8.toInt32)))) (P10 : ab6 Z h0 a1 (vi 0)) (P11 : ab8 Z h0 a1) (P12 : n0 ≤ a1) (P13 : ab7 Z h0 a1 .null) :
    M4 l Z ws (orm 4 2 12 57) #[vr a1, vr a2, vi 0, vi 4, .null] h0 (fun v h L => ∃ b12 : Addr, ∃ kk11_0 : ClassId, v = none ∧ Fr n0 L ∧ Keep h0 h [a1] ∧ n0 ≤ b12 ∧ h0.size ≤ b12 ∧ ab6 Z h a1 (vi 1) ∧ ab7 Z h a1 (vr b12) ∧ Arv Z h b12 kk11_0 .byte (8 : Int32) [vi ((va4 p7).toInt8.toInt32), vi ((va5 p7).toInt8.toInt32), vi ((va4 p8).toInt8.toInt32), vi ((va5 p8).toInt8.toInt32), vi ((va4 p9).toInt8.toInt32), vi ((va5 p9).toInt8.toInt32), vi ((va4 p10).toInt8.toInt32), vi ((va5 p10).toInt8.toInt32)] (vi 0)) := by
  refine own_enter (plainFor_of_name pn_1) (L0 := (L_rriinu a1 a2 0 4)) ?_
  intro p e s m below meth c s₁ hx hby hml hown hnm hret hZ X0 e0
  have N0 := Fr.nil n0
  obtain ⟨T3, X3, e3, st3⟩ := initO X0 hx hZ hown (tw_19 hw) (tw_20 hw) (tw_21 hw) e0 (g := (mkF m 1 (L_rriinu a1 a2 0 4) [vr a1])) rfl (by rw [hml]; rfl) rfl (hb hby d4_1) (by decide) (W := 0) (by show 2 * 0 + _ ≤ _; exact Nat.le_of_eq rfl) (by decide)
  obtain ⟨T5, X5, e5, st5⟩ := getS2 X3 hx hZ hown (host := "") (Or.inl (tw_49 hw)) Via.refl e3 (Sta.ext P2.2 P1) (g := (mkF m 27 (L_rriinu a1 a2 0 4) [])) rfl (hb hby d4_27)
  obtain ⟨T11, L11, _, X11, ⟨b12, kk11_0, rfl, N11q, K11, qa11_0, qb11_0, f11_0⟩, st11⟩ := own_callS X5 hx hZ hown (cw_12 hw) (rm16_10 hw a2 w6 p7 p8 p9 p10 Z0 P4 P5 P6 P2 P7 P8 P9) e5 (Ls := (L_rriinu a1 a2 0 4)) hml [vr a2, vi 0, vi 4] [] pd_15 0 (hb hby d4_36)
  have N11 := Fr.app N0 N11q
  have qd11_0 := Nat.le_trans (Nat.le_refl h0.size) qb11_0
  obtain ⟨T13, L13, _, X13, ⟨rfl, N13q, e13q⟩, st13⟩ := own_callS X11 hx hZ hown (cw_13 hw) (rm18_7 hw b12 kk11_0 ((va4 p7).toInt8.toInt32) ((va5 p7).toInt8.toInt32) ((va4 p8).toInt8.toInt32) ((va5 p8).toInt8.toInt32) ((va4 p9).toInt8.toInt32) ((va5 p9).toInt8.toInt32) ((va4 p10).toInt8.toInt32) ((va5 p10).toInt8.toInt32) (Nat.le_trans Z0 K11.1) f11_0) rfl (Ls := (L_rriinr a1 a2 0 4 b12)) hml [vr b12, vi 4] [vr a1] pd_17 1 (hb hby d4_45)
  have N13 := Fr.app N11 N13q
  have F14 := (Fld.keep P10 K11 nin0)
  have F15 := (Exa.keep P11 K11)
  obtain ⟨T16, h16, X16, e16, W16, st16⟩ := putF X13 hx hZ hown (host := "") (Or.inl (tw_29 hw)) Via.refl e13q F14 F15 (Or.inr ⟨(tw_25 hw), rfl, hnm⟩) (tw_9 hw) (ty := .byte) (by decide) rfl rfl (g := (mkF m 48 (L_rriinr a1 a2 0 4 b12) [vi 1, vr a1])) rfl rfl (hb hby d4_48)
  have N16 := Fr.snoc X16 N13 P12
  have Fw16 := Fld.same W16 F14
  have F17 := (Fld.other W16 (Fld.keep P13 K11 nin0) (Or.inr (slot_ne (Or.inr (tw_24 hw)) (Or.inr (tw_25 hw)) (by decide) (t := (.array .byte)) (t' := .byte) (by decide) (by decide))))
  have F18 := (Exa.wr W16 F15)
  obtain ⟨T19, h19, X19, e19, W19, st19⟩ := putF X16 hx hZ hown (host := "") (Or.inl (tw_28 hw)) Via.refl e16 F17 F18 (Or.inr ⟨(tw_24 hw), rfl, hnm⟩) (tw_9 hw) (ty := (.array .byte)) (by decide) rfl rfl (g := (mkF m 54 (L_rriinr a1 a2 0 4 b12) [vr b12, vr a1])) rfl rfl (hb hby d4_54)
  have N19 := Fr.snoc X19 N16 P12
  have Fw19 := Fld.same W19 F17
  have F20 := (Fld.other W19 Fw16 (Or.inr (slot_ne (Or.inr (tw_25 hw)) (Or.inr (tw_24 hw)) (by decide) (t := .byte) (t' := (.array .byte)) (by decide) (by decide))))
  have n21 := Nat.ne_of_lt (Nat.lt_of_lt_of_le P10.lt qb11_0)
  have F22 := (Arv.other (Arv.other f11_0 W16 (Ne.symm n21)) W19 (Ne.symm n21))
  have K23 := (Keep.refl h0 [a1]).trans K11 all0
  have K24 := K23.wr W16 (Or.inl (List.mem_of_getElem? (i := 0) rfl))
  have K25 := K24.wr W19 (Or.inl (List.mem_of_getElem? (i := 0) rfl))
  refine ⟨T19, _, _, _, _, none, X19, e19, by decide, by decide, (fun _ => rfl), ⟨b12, kk11_0, rfl, N19, K25, qa11_0, qd11_0, F20, Fw19, F22⟩, fun fs hr => ?_⟩
  refine own_b X0 hx hby tb4 1 [] 1 _ [vr a1] rfl ?_
  refine st3 _ ?_
  refine own_b X3 hx hby tb4 2 [true] 27 _ [] (ai (by decide) rfl) ?_
  refine st5 _ ?_
  refine own_b X5 hx hby tb4 4 [false] 36 _ [vi 4, vi 0, vr a2] (ai (feq P3).1 rfl) ?_
  refine st11 _ ?_
  refine own_b X11 hx hby tb4 4 [] 45 (L_rriinr a1 a2 0 4 b12) [vi 4, vr b12, vr a1] rfl ?_
  refine st13 _ ?_
  refine st16 _ ?_
  refine own_b X16 hx hby tb4 2 [] 54 _ [vr b12, vr a1] rfl ?_
  refine st19 _ ?_
  show OS p e below T19 m 57 (L_rriinr a1 a2 0 4 b12) [] _
  exact X19.returnOut hx hret (hb hby d4_57) hr
theorem rm3_11 (hw : OW Z a0) (a1 a2 : Addr) (w3 : ClassId) (p4 p5 p6 p7 p8 : Int32) (Z0 : n0 ≤ h0.size) (P1 : Arv Z h0 a2 w3 .char (4 : Int32) [vi p4, vi p5, vi p6, vi p7] (vi 0)) (P2 : ab1 Z (vi p8)) (P3 : Old Z n0 h0) (P4 : ¬ (p8 = (0 : Int32))) (P5 : (255 : Int32) < p4) (P6 : ab2 Z (vi 1)) (P7 : ab3 Z (vi 0)) (P8 : ab4 Z (vi 8)) (P9 : (255 : Int32) < (nar .char (va8 ((va4 p4).toInt8.toInt32) ((va5 p4).toInt8.toInt32)))) (P10 : ab6 Z h0 a1 (vi 0)) (P11 : ab8 Z h0 a1) (P12 : n0 ≤ a1) (P13 : ab7 Z h0 a1 .null) :
    M3 l Z ws (orm 5 2 12 74) #[vr a1, vr a2] h0 (fun v h L => ∃ b10 : Addr, ∃ kk9_0 : ClassId, v = none ∧ Fr n0 L ∧ Keep h0 h [a1] ∧ n0 ≤ b10 ∧ h0.size ≤ b10 ∧ ab6 Z h a1 (vi 1) ∧ ab7 Z h a1 (vr b10) ∧ Arv Z h b10 kk9_0 .byte (8 : Int32) [vi ((va4 p4).toInt8.toInt32), vi ((va5 p4).toInt8.toInt32), vi ((va4 p5).toInt8.toInt32), vi ((va5 p5).toInt8.toInt32), vi ((va4 p6).toInt8.toInt32), vi ((va5 p6).toInt8.toInt32), vi ((va4 p7).toInt8.toInt32), vi ((va5 p7).toInt8.toInt32)] (vi 0)) := by
  refine own_enter (plainFor_of_name pn_1) (L0 := (L_rr a1 a2)) ?_
  intro p e s m below meth c s₁ hx hby hml hown hnm hret hZ X0 e0
  have N0 := Fr.nil n0
  obtain ⟨T9, L9, _, X9, ⟨b10, kk9_0, rfl, N9q, K9, qa9_0, qb9_0, f9_0, f9_1, f9_2⟩, st9⟩ := own_callI X0 hx hZ hown (cw_14 hw) (rm4_11 hw a1 a2 p8 w3 p4 p5 p6 p7 Z0 P2 P3 P4 P1 P5 P6 P7 P8 P9 P10 P11 P12 P13) e0 (Ls := (L_rr a1 a2)) hml a1 [vr a2, vi 0, vi 4, .null] [] pd_1 0 (hb hby d3_6)
  have N9 := Fr.app N0 N9q
  have qd9_0 := Nat.le_trans (Nat.le_refl h0.size) qb9_0
  have K11 := (Keep.refl h0 [a1]).trans K9 (allS (Or.inl (List.mem_of_getElem? (i := 0) rfl)) all0)
  refine ⟨T9, _, _, _, _, none, X9, rfl, by decide, by decide, (fun _ => rfl), ⟨b10, kk9_0, rfl, N9, K11, qa9_0, qd9_0, f9_0, f9_1, f9_2⟩, fun fs hr => ?_⟩
  refine own_a X0 hx hZ e0 hby tb3 (aec P1 aen) 6 [] [0] 6 _ [.null, vi 4, vi 0, vr a2, vr a1] (ai rfl rfl) ?_
  refine st9 _ ?_
  show OS p e below T9 m 9 (L_rr a1 a2) [] _
  exact X9.returnOut hx hret (hb hby d3_9) hr
theorem rm2_11 (hw : OW Z a0) (p1 p2 p3 p4 p15 : Int32) (Z0 : n0 ≤ h0.size) (P1 : ab1 Z (vi p15)) (P2 : Old Z n0 h0) (P3 : ¬ (p15 = (0 : Int32))) (P4 : (255 : Int32) < (nar .char p1)) (P5 : ab2 Z (vi 1)) (P6 : ab3 Z (vi 0)) (P7 : ab4 Z (vi 8)) (P8 : (255 : Int32) < (nar .char (va8 ((va4 (nar .char p1)).toInt8.toInt32) ((va5 (nar .char p1)).toInt8.toInt32)))) :
    M2 l Z ws (orm 6 4 20 88) #[vi 4, vi p1, vi p2, vi p3, vi p4] h0 (fun v h L => ∃ b5 : Addr, ∃ b23 : Addr, ∃ kk21_0 : ClassId, v = some (vr b5) ∧ Fr n0 L ∧ Keep h0 h [] ∧ n0 ≤ b5 ∧ h0.size ≤ b5 ∧ n0 ≤ b23 ∧ h0.size ≤ b23 ∧ b5 ≠ b23 ∧ ab8 Z h b5 ∧ ab6 Z h b5 (vi 1) ∧ ab7 Z h b5 (vr b23) ∧ Arv Z h b23 kk21_0 .byte (8 : Int32) [vi ((va4 (nar .char p1)).toInt8.toInt32), vi ((va5 (nar .char p1)).toInt8.toInt32), vi ((va4 (nar .char p2)).toInt8.toInt32), vi ((va5 (nar .char p2)).toInt8.toInt32), vi ((va4 (nar .char p3)).toInt8.toInt32), vi ((va5 (nar .char p3)).toInt8.toInt32), vi ((va4 (nar .char p4)).toInt8.toInt32), vi ((va5 (nar .char p4)).toInt8.toInt32)] (vi 0)) := by
  refine own_enter (plainFor_of_name pn_0) (L0 := (L_iiiii 4 p1 p2 p3 p4)) ?_
  intro p e s m below meth c s₁ hx hby hml hown hnm hret hZ X0 e0
  have N0 := Fr.nil n0
  obtain ⟨T6, h6, b5, X6, e6, E6, g6, A6, D6, st6⟩ := own_new X0 hx hZ hown (tw_8 hw) (tw_9 hw) (tw_10 hw) e0 (Ls := (L_iiiii 4 p1 p2 p3 p4)) (S := []) (hb hby d2_87)
  have q6 := Nat.le_trans Z0 g6
  have z6 := Nat.le_trans (Nat.le_refl h0.size) g6
  have F7 : ab7 Z h6 b5 .null := D6 (Or.inr (tw_24 hw)) (ty := (.array .byte)) (by decide)
  have F8 : ab6 Z h6 b5 (vi 0) := D6 (Or.inr (tw_25 hw)) (ty := .byte) (by decide)
  obtain ⟨T10, h10, b9, k10, X10, e10, E10, g10, V10, st10⟩ := own_newP X6 hx hZ (tw_11 hw) e6 (n := (4 : Int32)) (k := 4) (d := (vi 0)) (vs := [vi 0, vi 0, vi 0, vi 0]) (Ls := (L_iiiii 4 p1 p2 p3 p4)) (S := [vr b5, vr b5]) (hb hby d2_92)
  have q10 := Nat.le_trans (Nat.le_trans Z0 E6.1) g10
  have z10 := Nat.le_trans (Nat.le_trans (Nat.le_refl h0.size) E6.1) g10
  obtain ⟨T11, h11, X11, e11, W11, V11, st11⟩ := own_stC X10 hx hZ e10 V10 (j := (0 : Int32)) (x := p1) (by decide) 0 rfl (Nat.le_of_ble_eq_true rfl) (Ls := (L_iiiii 4 p1 p2 p3 p4)) (rest := [vr b9, vr b5, vr b5]) (hb hby d2_97)
  have N11 := Fr.snoc X11 N0 q10
  obtain ⟨T12, h12, X12, e12, W12, V12, st12⟩ := own_stC X11 hx hZ e11 V11 (j := (1 : Int32)) (x := p2) (by decide) 1 rfl (Nat.le_of_ble_eq_true rfl) (Ls := (L_iiiii 4 p1 p2 p3 p4)) (rest := [vr b9, vr b5, vr b5]) (hb hby d2_101)
  have N12 := Fr.snoc X12 N11 q10
  obtain ⟨T13, h13, X13, e13, W13, V13, st13⟩ := own_stC X12 hx hZ e12 V12 (j := (2 : Int32)) (x := p3) (by decide) 2 rfl (Nat.le_of_ble_eq_true rfl) (Ls := (L_iiiii 4 p1 p2 p3 p4)) (rest := [vr b9, vr b5, vr b5]) (hb hby d2_105)
  have N13 := Fr.snoc X13 N12 q10
  obtain ⟨T14, h14, X14, e14, W14, V14, st14⟩ := own_stC X13 hx hZ e13 V13 (j := (3 : Int32)) (x := p4) (by decide) 3 rfl (Nat.le_of_ble_eq_true rfl) (Ls := (L_iiiii 4 p1 p2 p3 p4)) (rest := [vr b9, vr b5, vr b5]) (hb hby d2_110)
  have N14 := Fr.snoc X14 N13 q10
  have F16 := ((((((P2.ext E6).ext E10).wr W11 q10).wr W12 q10).wr W13 q10).wr W14 q10)
  have n17 := Nat.ne_of_lt (Nat.lt_of_lt_of_le A6.lt g10)
  have F18 := (Fld.other W14 (Fld.other W13 (Fld.other W12 (Fld.other W11 (Fld.ext E10 F8) (Or.inl n17)) (Or.inl n17)) (Or.inl n17)) (Or.inl n17))
  have F19 := (Exa.wr W14 (Exa.wr W13 (Exa.wr W12 (Exa.wr W11 (Exa.ext E10 A6)))))
  have F20 := (Fld.other W14 (Fld.other W13 (Fld.other W12 (Fld.other W11 (Fld.ext E10 F7) (Or.inl n17)) (Or.inl n17)) (Or.inl n17)) (Or.inl n17))
  have F22 := (Nat.le_trans (Nat.le_trans (Nat.le_trans (Nat.le_trans (Nat.le_trans (Nat.le_trans Z0 E6.1) E10.1) (Keep.of_wr W11).1) (Keep.of_wr W12).1) (Keep.of_wr W13).1) (Keep.of_wr W14).1)
  obtain ⟨T21, L21, _, X21, ⟨b23, kk21_0, rfl, N21q, K21, qa21_0, qb21_0, f21_0, f21_1, f21_2⟩, st21⟩ := own_callI X14 hx hZ hown (cw_15 hw) (rm3_11 hw b5 b9 k10 (nar .char p1) (nar .char p2) (nar .char p3) (nar .char p4) p15 F22 V14 P1 F16 P3 P4 P5 P6 P7 P8 F18 F19 q6 F20) e14 (Ls := (L_iiiii 4 p1 p2 p3 p4)) hml b5 [vr b9] [vr b5] pd_2 1 (hb hby d2_111)
  have N21 := Fr.app N14 N21q
  have F24 := (Nat.le_trans (Nat.le_trans (Nat.le_trans (Nat.le_trans (Nat.le_trans (Nat.le_trans (Nat.le_refl h0.size) E6.1) E10.1) (Keep.of_wr W11).1) (Keep.of_wr W12).1) (Keep.of_wr W13).1) (Keep.of_wr W14).1)
  have qd21_0 := Nat.le_trans F24 qb21_0
  have F25 := (Exa.keep F19 K21)
  have K26 := (Keep.refl h0 []).ext E6
  have K27 := K26.ext E10
  have K28 := K27.wr W11 (Or.inr z10)
  have K29 := K28.wr W12 (Or.inr z10)
  have K30 := K29.wr W13 (Or.inr z10)
  have K31 := K30.wr W14 (Or.inr z10)
  have K32 := K31.trans K21 (allS (Or.inr z6) all0)
  have n33 := Nat.ne_of_lt (Nat.lt_of_lt_of_le F18.lt qb21_0)
  refine ⟨T21, _, _, _, _, some (vr b5), X21, rfl, by decide, by decide, nofun, ⟨b5, b23, kk21_0, rfl, N21, K32, q6, z6, qa21_0, qd21_0, n33, F25, f21_0, f21_1, f21_2⟩, fun fs hr => ?_⟩
  refine own_b X0 hx hby tb2 11 [true, true, true, true] 87 _ [] (ai (by decide) (ai (by decide) (ai (by decide) (ai (by decide) rfl)))) ?_
  refine st6 _ ?_
  refine own_b X6 hx hby tb2 2 [] 92 _ [vi 4, vr b5, vr b5] rfl ?_
  refine st10 _ ?_
  refine own_b X10 hx hby tb2 3 [] 97 _ [vi p1, vi 0, vr b9, vr b9, vr b5, vr b5] rfl ?_
  refine st11 _ ?_
  refine own_b X11 hx hby tb2 3 [] 101 _ [vi p2, vi 1, vr b9, vr b9, vr b5, vr b5] rfl ?_
  refine st12 _ ?_
  refine own_b X12 hx hby tb2 3 [] 105 _ [vi p3, vi 2, vr b9, vr b9, vr b5, vr b5] rfl ?_
  refine st13 _ ?_
  refine own_b X13 hx hby tb2 3 [] 110 _ [vi p4, vi 3, vr b9, vr b9, vr b5, vr b5] rfl ?_
  refine st14 _ ?_
  refine st21 _ ?_
  exact own_retA X21 hx hret rfl (hb hby d2_114) hr
theorem rm10_8 (hw : OW Z a0) (a1 a2 : Addr) (w4 : ClassId) (p5 p6 p7 p8 p9 p10 p11 p12 p13 : Int32) (Z0 : n0 ≤ h0.size) (P1 : ab7 Z h0 a1 (vr a2)) (P2 : Arv Z h0 a2 w4 .byte (8 : Int32) [vi p5, vi p6, vi p7, vi p8, vi p9, vi p10, vi p11, vi p12] (vi 0)) (P3 : ab8 Z h0 a1) (P4 : ab1 Z (vi p13)) (P5 : Old Z n0 h0) (P6 : ¬ (p13 = (0 : Int32))) (P7 : ab6 Z h0 a1 (vi 1)) :
    M10 l Z ws (orm 1 0 0 13) #[vr a1] h0 (QI n0 h0 (vi 4)) := by
  refine own_enter (plainFor_of_name pn_1) (L0 := #[sr a1]) ?_
  intro p e s m below meth c s₁ hx hby hml hown hnm hret hZ X0 e0
  have N0 := Fr.nil n0
  obtain ⟨T3, X3, e3, st3⟩ := getF X0 hx hZ hown (host := "") (Or.inl (tw_28 hw)) Via.refl e0 P1 (g := (mkF m 1 #[sr a1] [vr a1])) rfl rfl (hb hby d10_1)
  obtain ⟨T14, L14, _, X14, ⟨rfl, N14q, e14q⟩, st14⟩ := own_callV X3 hx hZ hown (tw_55 hw) (tw_56 hw) (notFace_of_selects (args := #[]) (mvT hZ (tw_58 hw))) (tw_58 hw) (tw_57 hw) (tw_10 hw) (tw_59 hw) (rm11_2 hw a1 p13 Z0 P4 P5 P6 P7) e3 P3 (Ls := #[sr a1]) hml [] [vi 8] pd_5 1 (hb hby d10_6)
  have N14 := Fr.app N0 N14q
  refine ⟨T14, _, _, _, _, some (vi 4), X14, e14q, by decide, by decide, nofun, ⟨rfl, N14, rfl⟩, fun fs hr => ?_⟩
  refine own_b X0 hx hby tb10 1 [] 1 _ [vr a1] rfl ?_
  refine st3 _ ?_
  refine own_a X3 hx hZ e3 hby tb10 (aec P2 aen) 2 [] [0] 6 _ [vr a1, vi 8] (ai rfl rfl) ?_
  refine st14 _ ?_
  refine own_b X14 hx hby tb10 1 [] 10 _ [vi 4] rfl ?_
  exact retI X14 hx hret (hb hby d10_10) hr
theorem rm15_5 (hw : OW Z a0)  (Z0 : n0 ≤ h0.size) :
    M15 l Z ws (orm 0 0 0 0) #[vi 4, vi 4] h0 (QI n0 h0 (vi 4)) := by
  refine own_enter (Jvm.Free.JP.mathPlain rfl (by decide +kernel)) (L0 := (L_ii 4 4)) ?_
  intro p e s m below meth c s₁ hx hby hml hown hnm hret hZ X0 e0
  have N0 := Fr.nil n0
  refine ⟨s₁, _, _, _, _, some (vi 4), X0, e0, by decide, by decide, nofun, ⟨rfl, N0, rfl⟩, fun fs hr => ?_⟩
  refine own_b X0 hx hby tb15 5 [false] 10 _ [vi 4] (ai (by decide) rfl) ?_
  exact retI X0 hx hret (hb hby d15_10) hr
theorem rm28_4 (hw : OW Z a0) (a1 : Addr) (w2 : ClassId) (p3 p4 p5 p6 p7 p8 p9 p10 : Int32) (Z0 : n0 ≤ h0.size) (P1 : Arv Z h0 a1 w2 .byte (8 : Int32) [vi p3, vi p4, vi p5, vi p6, vi p7, vi p8, vi p9, vi p10] (vi 0)) :
    M28 l Z ws (orm 0 0 0 0) #[vr a1] h0 (QI n0 h0 (vi 4)) := by
  refine own_enter (plainFor_of_name pn_4) (L0 := #[sr a1]) ?_
  intro p e s m below meth c s₁ hx hby hml hown hnm hret hZ X0 e0
  have N0 := Fr.nil n0
  refine ⟨s₁, _, _, _, _, some (vi 4), X0, e0, by decide, by decide, nofun, ⟨rfl, N0, rfl⟩, fun fs hr => ?_⟩
  refine own_a X0 hx hZ e0 hby tb28 (aec P1 aen) 4 [] [0] 4 _ [vi 4] (ai rfl rfl) ?_
  exact retI X0 hx hret (hb hby d28_4) hr
theorem rm30_4 (hw : OW Z a0) (a1 : Value) (Z0 : n0 ≤ h0.size) (P1 : a1.isRef = true) :
    M30 l Z ws (orm 0 0 0 0) #[vi 0, vi 4, vi 4, a1] h0 (QI n0 h0 (vi 0)) := by
  refine own_enter (plainFor_of_name pn_5) (L0 := #[si 0, si 4, si 4, .val a1]) (hef := fun m => by rcases ref_cases P1 with h0 | ⟨_, h0⟩ <;> simp only [h0] <;> first | rfl | (simp [entryFrame, mkF, argsToLocals, Value.category]; done)) ?_
  intro p e s m below meth c s₁ hx hby hml hown hnm hret hZ X0 e0
  have N0 := Fr.nil n0
  refine ⟨s₁, _, _, _, _, some (vi 0), X0, e0, by decide, by decide, nofun, ⟨rfl, N0, rfl⟩, fun fs hr => ?_⟩
  refine own_b X0 hx hby tb30 9 [false, false, true] 23 _ [vi 0] (ai (by decide) (ai (by decide) (ai (by decide) rfl))) ?_
  exact retI X0 hx hret (hb hby d30_23) hr
theorem rm29_4 (hw : OW Z a0) (a1 : Value) (Z0 : n0 ≤ h0.size) (P1 : ab5 Z a1) (P2 : Old Z n0 h0) (P3 : a1.isRef = true) :
    M29 l Z ws (orm 1 0 0 15) #[vi 0, vi 4, vi 4] h0 (fun v h L => v = none ∧ Fr n0 L ∧ h = h0) := by
  refine own_enter (plainFor_of_name pn_1) (L0 := (L_iii 0 4 4)) ?_
  intro p e s m below meth c s₁ hx hby hml hown hnm hret hZ X0 e0
  have N0 := Fr.nil n0
  obtain ⟨T2, X2, e2, st2⟩ := getS2 X0 hx hZ hown (host := "") (Or.inl (tw_125 hw)) Via.refl e0 (Sta.ext P2.2 P1) (g := (mkF m 3 (L_iii 0 4 4) [vi 4, vi 4, vi 0])) rfl (hb hby d29_3)
  obtain ⟨T3, L3, _, X3, ⟨rfl, N3q, e3q⟩, st3⟩ := own_callS X2 hx hZ hown (cw_20 hw) (rm30_4 hw a1 Z0 P3) e2 (Ls := (L_iii 0 4 4)) hml [vi 0, vi 4, vi 4, a1] [] pd_19 0 (hb hby d29_6)
  have N3 := Fr.app N0 N3q
  refine ⟨T3, _, _, _, _, none, X3, e3q, by decide, by decide, (fun _ => rfl), ⟨rfl, N3, rfl⟩, fun fs hr => ?_⟩
  refine own_b X0 hx hby tb29 3 [] 3 _ [vi 4, vi 4, vi 0] rfl ?_
  refine st2 _ ?_
  refine st3 _ ?_
  refine own_b X3 hx hby tb29 1 [] 10 _ [] rfl ?_
  exact X3.returnOut hx hret (hb hby d29_10) hr
theorem rm27_4 (hw : OW Z a0) (a1 : Addr) (w2 : ClassId) (p3 p4 p5 p6 p7 p8 p9 p10 : Int32) (a12 : Value) (Z0 : n0 ≤ h0.size) (P1 : Arv Z h0 a1 w2 .byte (8 : Int32) [vi p3, vi p4, vi p5, vi p6, vi p7, vi p8, vi p9, vi p10] (vi 0)) (P2 : ab5 Z a12) (P3 : Old Z n0 h0) (P4 : a12.isRef = true) :
    M27 l Z ws (orm 2 0 0 29) #[vi 0, vi 4, vr a1] h0 (fun v h L => v = none ∧ Fr n0 L ∧ h = h0) := by
  refine own_enter (plainFor_of_name pn_4) (L0 := (L_iir 0 4 a1)) ?_
  intro p e s m below meth c s₁ hx hby hml hown hnm hret hZ X0 e0
  have N0 := Fr.nil n0
  obtain ⟨T11, L11, _, X11, ⟨rfl, N11q, e11q⟩, st11⟩ := own_callS X0 hx hZ hown (cw_19 hw) (rm28_4 hw a1 w2 p3 p4 p5 p6 p7 p8 p9 p10 Z0 P1) e0 (Ls := (L_iir 0 4 a1)) hml [vr a1] [vi 4, vi 0] pd_18 2 (hb hby d27_3)
  have N11 := Fr.app N0 N11q
  obtain ⟨T13, L13, _, X13, ⟨rfl, N13q, e13q⟩, st13⟩ := own_callS X11 hx hZ hown (cw_21 hw) (rm29_4 hw a12 Z0 P2 P3 P4) e11q (Ls := (L_iir 0 4 a1)) hml [vi 0, vi 4, vi 4] [] pd_20 0 (hb hby d27_6)
  have N13 := Fr.app N11 N13q
  refine ⟨T13, _, _, _, _, none, X13, e13q, by decide, by decide, (fun _ => rfl), ⟨rfl, N13, rfl⟩, fun fs hr => ?_⟩
  refine own_b X0 hx hby tb27 3 [] 3 _ [vr a1, vi 4, vi 0] rfl ?_
  refine st11 _ ?_
  refine st13 _ ?_
  show OS p e below T13 m 9 (L_iir 0 4 a1) [] _
  exact X13.returnOut hx hret (hb hby d27_9) hr
theorem rm24_8 (hw : OW Z a0) (a1 : Addr) (w3 : ClassId) (p4 p5 p6 p7 p8 p9 p10 p11 : Int32) (Z0 : n0 ≤ h0.size) (P1 : ab2 Z (vi 1)) (P2 : Old Z n0 h0) (P3 : Arv Z h0 a1 w3 .byte (8 : Int32) [vi p4, vi p5, vi p6, vi p7, vi p8, vi p9, vi p10, vi p11] (vi 0)) (P4 : ab3 Z (vi 0)) (P5 : ab4 Z (vi 8)) :
    M24 l Z ws (orm 0 0 0 0) #[vr a1, vi 1] h0 (QI n0 h0 (vi (nar .char (va8 p6 p7)))) := by
  refine own_enter (plainFor_of_name pn_4) (L0 := (L_ri a1 1)) ?_
  intro p e s m below meth c s₁ hx hby hml hown hnm hret hZ X0 e0
  have N0 := Fr.nil n0
  obtain ⟨T2, X2, e2, st2⟩ := getS2 X0 hx hZ hown (host := "") (Or.inl (tw_101 hw)) Via.refl e0 (Sta.ext P2.2 P1) (g := (mkF m 0 (L_ri a1 1) [])) rfl (hb hby d24_0)
  obtain ⟨T12, X12, e12, st12⟩ := getS2 X2 hx hZ hown (host := "") (Or.inl (tw_102 hw)) Via.refl e2 (Sta.ext P2.2 P4) (g := (mkF m 42 (L_ri a1 3) [vi (p6 &&& (255 : Int32))])) rfl (hb hby d24_42)
  obtain ⟨T13, X13, e13, st13⟩ := getS2 X12 hx hZ hown (host := "") (Or.inl (tw_103 hw)) Via.refl e12 (Sta.ext P2.2 P5) (g := (mkF m 53 (L_ri a1 3) [vi (p7 &&& (255 : Int32)), vi (va6 p6)])) rfl (hb hby d24_53)
  refine ⟨T13, _, _, _, _, some (vi (nar .char (va8 p6 p7))), X13, e13, by decide, by decide, nofun, ⟨rfl, N0, rfl⟩, fun fs hr => ?_⟩
  show OS p e below s₁ m 0 (L_ri a1 1) [] _
  refine st2 _ ?_
  refine own_a X2 hx hZ e2 hby tb24 (aec P3 aen) 11 [true] [0] 42 (L_ri a1 3) [vi (p6 &&& (255 : Int32))] (ai (by decide) (ai rfl rfl)) ?_
  refine st12 _ ?_
  refine own_a X12 hx hZ e12 hby tb24 (aec P3 aen) 6 [] [0] 53 _ [vi (p7 &&& (255 : Int32)), vi (va6 p6)] (ai rfl rfl) ?_
  refine st13 _ ?_
  refine own_b X13 hx hby tb24 3 [] 59 _ [vi (va8 p6 p7)] rfl ?_
  exact retN X13 hx (t := .char) hret (by simp) (hb hby d24_59) hr
theorem rm24_9 (hw : OW Z a0) (a1 : Addr) (w3 : ClassId) (p4 p5 p6 p7 p8 p9 p10 p11 : Int32) (Z0 : n0 ≤ h0.size) (P1 : ab2 Z (vi 1)) (P2 : Old Z n0 h0) (P3 : Arv Z h0 a1 w3 .byte (8 : Int32) [vi p4, vi p5, vi p6, vi p7, vi p8, vi p9, vi p10, vi p11] (vi 0)) (P4 : ab3 Z (vi 0)) (P5 : ab4 Z (vi 8)) :
    M24 l Z ws (orm 0 0 0 0) #[vr a1, vi 2] h0 (QI n0 h0 (vi (nar .char (va8 p8 p9)))) := by
  refine own_enter (plainFor_of_name pn_4) (L0 := (L_ri a1 2)) ?_
  intro p e s m below meth c s₁ hx hby hml hown hnm hret hZ X0 e0
  have N0 := Fr.nil n0
  obtain ⟨T2, X2, e2, st2⟩ := getS2 X0 hx hZ hown (host := "") (Or.inl (tw_101 hw)) Via.refl e0 (Sta.ext P2.2 P1) (g := (mkF m 0 (L_ri a1 2) [])) rfl (hb hby d24_0)
  obtain ⟨T12, X12, e12, st12⟩ := getS2 X2 hx hZ hown (host := "") (Or.inl (tw_102 hw)) Via.refl e2 (Sta.ext P2.2 P4) (g := (mkF m 42 (L_ri a1 5) [vi (p8 &&& (255 : Int32))])) rfl (hb hby d24_42)
  obtain ⟨T13, X13, e13, st13⟩ := getS2 X12 hx hZ hown (host := "") (Or.inl (tw_103 hw)) Via.refl e12 (Sta.ext P2.2 P5) (g := (mkF m 53 (L_ri a1 5) [vi (p9 &&& (255 : Int32)), vi (va6 p8)])) rfl (hb hby d24_53)
  refine ⟨T13, _, _, _, _, some (vi (nar .char (va8 p8 p9))), X13, e13, by decide, by decide, nofun, ⟨rfl, N0, rfl⟩, fun fs hr => ?_⟩
  show OS p e below s₁ m 0 (L_ri a1 2) [] _
  refine st2 _ ?_
  refine own_a X2 hx hZ e2 hby tb24 (aec P3 aen) 11 [true] [0] 42 (L_ri a1 5) [vi (p8 &&& (255 : Int32))] (ai (by decide) (ai rfl rfl)) ?_
  refine st12 _ ?_
  refine own_a X12 hx hZ e12 hby tb24 (aec P3 aen) 6 [] [0] 53 _ [vi (p9 &&& (255 : Int32)), vi (va6 p8)] (ai rfl rfl) ?_
  refine st13 _ ?_
  refine own_b X13 hx hby tb24 3 [] 59 _ [vi (va8 p8 p9)] rfl ?_
  exact retN X13 hx (t := .char) hret (by simp) (hb hby d24_59) hr
theorem rm24_10 (hw : OW Z a0) (a1 : Addr) (w3 : ClassId) (p4 p5 p6 p7 p8 p9 p10 p11 : Int32) (Z0 : n0 ≤ h0.size) (P1 : ab2 Z (vi 1)) (P2 : Old Z n0 h0) (P3 : Arv Z h0 a1 w3 .byte (8 : Int32) [vi p4, vi p5, vi p6, vi p7, vi p8, vi p9, vi p10, vi p11] (vi 0)) (P4 : ab3 Z (vi 0)) (P5 : ab4 Z (vi 8)) :
    M24 l Z ws (orm 0 0 0 0) #[vr a1, vi 3] h0 (QI n0 h0 (vi (nar .char (va8 p10 p11)))) := by
  refine own_enter (plainFor_of_name pn_4) (L0 := (L_ri a1 3)) ?_
  intro p e s m below meth c s₁ hx hby hml hown hnm hret hZ X0 e0
  have N0 := Fr.nil n0
  obtain ⟨T2, X2, e2, st2⟩ := getS2 X0 hx hZ hown (host := "") (Or.inl (tw_101 hw)) Via.refl e0 (Sta.ext P2.2 P1) (g := (mkF m 0 (L_ri a1 3) [])) rfl (hb hby d24_0)
  obtain ⟨T12, X12, e12, st12⟩ := getS2 X2 hx hZ hown (host := "") (Or.inl (tw_102 hw)) Via.refl e2 (Sta.ext P2.2 P4) (g := (mkF m 42 (L_ri a1 7) [vi (p10 &&& (255 : Int32))])) rfl (hb hby d24_42)
  obtain ⟨T13, X13, e13, st13⟩ := getS2 X12 hx hZ hown (host := "") (Or.inl (tw_103 hw)) Via.refl e12 (Sta.ext P2.2 P5) (g := (mkF m 53 (L_ri a1 7) [vi (p11 &&& (255 : Int32)), vi (va6 p10)])) rfl (hb hby d24_53)
  refine ⟨T13, _, _, _, _, some (vi (nar .char (va8 p10 p11))), X13, e13, by decide, by decide, nofun, ⟨rfl, N0, rfl⟩, fun fs hr => ?_⟩
  show OS p e below s₁ m 0 (L_ri a1 3) [] _
  refine st2 _ ?_
  refine own_a X2 hx hZ e2 hby tb24 (aec P3 aen) 11 [true] [0] 42 (L_ri a1 7) [vi (p10 &&& (255 : Int32))] (ai (by decide) (ai rfl rfl)) ?_
  refine st12 _ ?_
  refine own_a X12 hx hZ e12 hby tb24 (aec P3 aen) 6 [] [0] 53 _ [vi (p11 &&& (255 : Int32)), vi (va6 p10)] (ai rfl rfl) ?_
  refine st13 _ ?_
  refine own_b X13 hx hby tb24 3 [] 59 _ [vi (va8 p10 p11)] rfl ?_
  exact retN X13 hx (t := .char) hret (by simp) (hb hby d24_59) hr
theorem rm31_19 (hw : OW Z a0) (a1 : Addr) (w2 : ClassId) (p3 p4 p5 p6 p7 p8 p9 p10 : Int32) (Z0 : n0 ≤ h0.size) (P1 : ab2 Z (vi 1)) (P2 : Old Z n0 h0) (P3 : Arv Z h0 a1 w2 .byte (8 : Int32) [vi p3, vi p4, vi p5, vi p6, vi p7, vi p8, vi p9, vi p10] (vi 0)) (P4 : ab3 Z (vi 0)) (P5 : ab4 Z (vi 8)) (P6 : ¬ ((nar .char (va8 p3 p4)) = (42 : Int32))) (H1 : (nar .char (va8 p5 p6)) = (42 : Int32)) :
    M31 l Z ws (orm 1 0 0 13) #[vr a1, vi 42, vi 0, vi 4] h0 (QI n0 h0 (vi 1)) := by
  refine own_enter (plainFor_of_name pn_4) (L0 := (L_riiiu a1 42 0 4)) ?_
  intro p e s m below meth c s₁ hx hby hml hown hnm hret hZ X0 e0
  have N0 := Fr.nil n0
  obtain ⟨T11, L11, _, X11, ⟨rfl, N11q, e11q⟩, st11⟩ := own_callS X0 hx hZ hown (cw_11 hw) (rm24_7 hw a1 w2 p3 p4 p5 p6 p7 p8 p9 p10 Z0 P1 P2 P3 P4 P5) e0 (Ls := (L_riiii a1 42 0 4 0)) hml [vr a1, vi 0] [] pd_16 0 (hb hby d31_12)
  have N11 := Fr.app N0 N11q
  obtain ⟨T12, L12, _, X12, ⟨rfl, N12q, e12q⟩, st12⟩ := own_callS X11 hx hZ hown (cw_11 hw) (rm24_8 hw a1 w2 p3 p4 p5 p6 p7 p8 p9 p10 Z0 P1 P2 P3 P4 P5) e11q (Ls := (L_riiii a1 42 0 4 1)) hml [vr a1, vi 1] [] pd_16 0 (hb hby d31_12)
  have N12 := Fr.app N11 N12q
  refine ⟨T12, _, _, _, _, some (vi 1), X12, e12q, by decide, by decide, nofun, ⟨rfl, N12, rfl⟩, fun fs hr => ?_⟩
  refine own_b X0 hx hby tb31 7 [false] 12 (L_riiii a1 42 0 4 0) [vi 0, vr a1] (ai (by decide) rfl) ?_
  refine st11 _ ?_
  refine own_b X11 hx hby tb31 9 [true, false] 12 (L_riiii a1 42 0 4 1) [vi 1, vr a1] (ai (feq P6).2 (ai (by decide) rfl)) ?_
  refine st12 _ ?_
  refine own_b X12 hx hby tb31 3 [false] 21 _ [vi 1] (ai (teq H1).2 rfl) ?_
  exact retI X12 hx hret (hb hby d31_21) hr
theorem rm31_20 (hw : OW Z a0) (a1 : Addr) (w2 : ClassId) (p3 p4 p5 p6 p7 p8 p9 p10 : Int32) (Z0 : n0 ≤ h0.size) (P1 : ab2 Z (vi 1)) (P2 : Old Z n0 h0) (P3 : Arv Z h0 a1 w2 .byte (8 : Int32) [vi p3, vi p4, vi p5, vi p6, vi p7, vi p8, vi p9, vi p10] (vi 0)) (P4 : ab3 Z (vi 0)) (P5 : ab4 Z (vi 8)) (P6 : ¬ ((nar .char (va8 p3 p4)) = (42 : Int32))) (H1 : ¬ ((nar .char (va8 p5 p6)) = (42 : Int32))) (H2 : (nar .char (va8 p7 p8)) = (42 : Int32)) :
    M31 l Z ws (orm 1 0 0 13) #[vr a1, vi 42, vi 0, vi 4] h0 (QI n0 h0 (vi 2)) := by
  refine own_enter (plainFor_of_name pn_4) (L0 := (L_riiiu a1 42 0 4)) ?_
  intro p e s m below meth c s₁ hx hby hml hown hnm hret hZ X0 e0
  have N0 := Fr.nil n0
  obtain ⟨T11, L11, _, X11, ⟨rfl, N11q, e11q⟩, st11⟩ := own_callS X0 hx hZ hown (cw_11 hw) (rm24_7 hw a1 w2 p3 p4 p5 p6 p7 p8 p9 p10 Z0 P1 P2 P3 P4 P5) e0 (Ls := (L_riiii a1 42 0 4 0)) hml [vr a1, vi 0] [] pd_16 0 (hb hby d31_12)
  have N11 := Fr.app N0 N11q
  obtain ⟨T12, L12, _, X12, ⟨rfl, N12q, e12q⟩, st12⟩ := own_callS X11 hx hZ hown (cw_11 hw) (rm24_8 hw a1 w2 p3 p4 p5 p6 p7 p8 p9 p10 Z0 P1 P2 P3 P4 P5) e11q (Ls := (L_riiii a1 42 0 4 1)) hml [vr a1, vi 1] [] pd_16 0 (hb hby d31_12)
  have N12 := Fr.app N11 N12q
  obtain ⟨T13, L13, _, X13, ⟨rfl, N13q, e13q⟩, st13⟩ := own_callS X12 hx hZ hown (cw_11 hw) (rm24_9 hw a1 w2 p3 p4 p5 p6 p7 p8 p9 p10 Z0 P1 P2 P3 P4 P5) e12q (Ls := (L_riiii a1 42 0 4 2)) hml [vr a1, vi 2] [] pd_16 0 (hb hby d31_12)
  have N13 := Fr.app N12 N13q
  refine ⟨T13, _, _, _, _, some (vi 2), X13, e13q, by decide, by decide, nofun, ⟨rfl, N13, rfl⟩, fun fs hr => ?_⟩
  refine own_b X0 hx hby tb31 7 [false] 12 (L_riiii a1 42 0 4 0) [vi 0, vr a1] (ai (by decide) rfl) ?_
  refine st11 _ ?_
  refine own_b X11 hx hby tb31 9 [true, false] 12 (L_riiii a1 42 0 4 1) [vi 1, vr a1] (ai (feq P6).2 (ai (by decide) rfl)) ?_
  refine st12 _ ?_
  refine own_b X12 hx hby tb31 9 [true, false] 12 (L_riiii a1 42 0 4 2) [vi 2, vr a1] (ai (feq H1).2 (ai (by decide) rfl)) ?_
  refine st13 _ ?_
  refine own_b X13 hx hby tb31 3 [false] 21 _ [vi 2] (ai (teq H2).2 rfl) ?_
  exact retI X13 hx hret (hb hby d31_21) hr
theorem rm31_21 (hw : OW Z a0) (a1 : Addr) (w2 : ClassId) (p3 p4 p5 p6 p7 p8 p9 p10 : Int32) (Z0 : n0 ≤ h0.size) (P1 : ab2 Z (vi 1)) (P2 : Old Z n0 h0) (P3 : Arv Z h0 a1 w2 .byte (8 : Int32) [vi p3, vi p4, vi p5, vi p6, vi p7, vi p8, vi p9, vi p10] (vi 0)) (P4 : ab3 Z (vi 0)) (P5 : ab4 Z (vi 8)) (P6 : ¬ ((nar .char (va8 p3 p4)) = (42 : Int32))) (H1 : ¬ ((nar .char (va8 p5 p6)) = (42 : Int32))) (H2 : ¬ ((nar .char (va8 p7 p8)) = (42 : Int32))) (H3 : (nar .char (va8 p9 p10)) = (42 : Int32)) :
    M31 l Z ws (orm 1 0 0 13) #[vr a1, vi 42, vi 0, vi 4] h0 (QI n0 h0 (vi 3)) := by
  refine own_enter (plainFor_of_name pn_4) (L0 := (L_riiiu a1 42 0 4)) ?_
  intro p e s m below meth c s₁ hx hby hml hown hnm hret hZ X0 e0
  have N0 := Fr.nil n0
  obtain ⟨T11, L11, _, X11, ⟨rfl, N11q, e11q⟩, st11⟩ := own_callS X0 hx hZ hown (cw_11 hw) (rm24_7 hw a1 w2 p3 p4 p5 p6 p7 p8 p9 p10 Z0 P1 P2 P3 P4 P5) e0 (Ls := (L_riiii a1 42 0 4 0)) hml [vr a1, vi 0] [] pd_16 0 (hb hby d31_12)
  have N11 := Fr.app N0 N11q
  obtain ⟨T12, L12, _, X12, ⟨rfl, N12q, e12q⟩, st12⟩ := own_callS X11 hx hZ hown (cw_11 hw) (rm24_8 hw a1 w2 p3 p4 p5 p6 p7 p8 p9 p10 Z0 P1 P2 P3 P4 P5) e11q (Ls := (L_riiii a1 42 0 4 1)) hml [vr a1, vi 1] [] pd_16 0 (hb hby d31_12)
  have N12 := Fr.app N11 N12q
  obtain ⟨T13, L13, _, X13, ⟨rfl, N13q, e13q⟩, st13⟩ := own_callS X12 hx hZ hown (cw_11 hw) (rm24_9 hw a1 w2 p3 p4 p5 p6 p7 p8 p9 p10 Z0 P1 P2 P3 P4 P5) e12q (Ls := (L_riiii a1 42 0 4 2)) hml [vr a1, vi 2] [] pd_16 0 (hb hby d31_12)
  have N13 := Fr.app N12 N13q
  obtain ⟨T14, L14, _, X14, ⟨rfl, N14q, e14q⟩, st14⟩ := own_callS X13 hx hZ hown (cw_11 hw) (rm24_10 hw a1 w2 p3 p4 p5 p6 p7 p8 p9 p10 Z0 P1 P2 P3 P4 P5) e13q (Ls := (L_riiii a1 42 0 4 3)) hml [vr a1, vi 3] [] pd_16 0 (hb hby d31_12)
  have N14 := Fr.app N13 N14q
  refine ⟨T14, _, _, _, _, some (vi 3), X14, e14q, by decide, by decide, nofun, ⟨rfl, N14, rfl⟩, fun fs hr => ?_⟩
  refine own_b X0 hx hby tb31 7 [false] 12 (L_riiii a1 42 0 4 0) [vi 0, vr a1] (ai (by decide) rfl) ?_
  refine st11 _ ?_
  refine own_b X11 hx hby tb31 9 [true, false] 12 (L_riiii a1 42 0 4 1) [vi 1, vr a1] (ai (feq P6).2 (ai (by decide) rfl)) ?_
  refine st12 _ ?_
  refine own_b X12 hx hby tb31 9 [true, false] 12 (L_riiii a1 42 0 4 2) [vi 2, vr a1] (ai (feq H1).2 (ai (by decide) rfl)) ?_
  refine st13 _ ?_
  refine own_b X13 hx hby tb31 9 [true, false] 12 (L_riiii a1 42 0 4 3) [vi 3, vr a1] (ai (feq H2).2 (ai (by decide) rfl)) ?_
  refine st14 _ ?_
  refine own_b X14 hx hby tb31 3 [false] 21 _ [vi 3] (ai (teq H3).2 rfl) ?_
  exact retI X14 hx hret (hb hby d31_21) hr
theorem rm31_22 (hw : OW Z a0) (a1 : Addr) (w2 : ClassId) (p3 p4 p5 p6 p7 p8 p9 p10 : Int32) (Z0 : n0 ≤ h0.size) (P1 : ab2 Z (vi 1)) (P2 : Old Z n0 h0) (P3 : Arv Z h0 a1 w2 .byte (8 : Int32) [vi p3, vi p4, vi p5, vi p6, vi p7, vi p8, vi p9, vi p10] (vi 0)) (P4 : ab3 Z (vi 0)) (P5 : ab4 Z (vi 8)) (P6 : ¬ ((nar .char (va8 p3 p4)) = (42 : Int32))) (H1 : ¬ ((nar .char (va8 p5 p6)) = (42 : Int32))) (H2 : ¬ ((nar .char (va8 p7 p8)) = (42 : Int32))) (H3 : ¬ ((nar .char (va8 p9 p10)) = (42 : Int32))) :
    M31 l Z ws (orm 1 0 0 13) #[vr a1, vi 42, vi 0, vi 4] h0 (QI n0 h0 (vi (-1))) := by
  refine own_enter (plainFor_of_name pn_4) (L0 := (L_riiiu a1 42 0 4)) ?_
  intro p e s m below meth c s₁ hx hby hml hown hnm hret hZ X0 e0
  have N0 := Fr.nil n0
  obtain ⟨T11, L11, _, X11, ⟨rfl, N11q, e11q⟩, st11⟩ := own_callS X0 hx hZ hown (cw_11 hw) (rm24_7 hw a1 w2 p3 p4 p5 p6 p7 p8 p9 p10 Z0 P1 P2 P3 P4 P5) e0 (Ls := (L_riiii a1 42 0 4 0)) hml [vr a1, vi 0] [] pd_16 0 (hb hby d31_12)
  have N11 := Fr.app N0 N11q
  obtain ⟨T12, L12, _, X12, ⟨rfl, N12q, e12q⟩, st12⟩ := own_callS X11 hx hZ hown (cw_11 hw) (rm24_8 hw a1 w2 p3 p4 p5 p6 p7 p8 p9 p10 Z0 P1 P2 P3 P4 P5) e11q (Ls := (L_riiii a1 42 0 4 1)) hml [vr a1, vi 1] [] pd_16 0 (hb hby d31_12)
  have N12 := Fr.app N11 N12q
  obtain ⟨T13, L13, _, X13, ⟨rfl, N13q, e13q⟩, st13⟩ := own_callS X12 hx hZ hown (cw_11 hw) (rm24_9 hw a1 w2 p3 p4 p5 p6 p7 p8 p9 p10 Z0 P1 P2 P3 P4 P5) e12q (Ls := (L_riiii a1 42 0 4 2)) hml [vr a1, vi 2] [] pd_16 0 (hb hby d31_12)
  have N13 := Fr.app N12 N13q
  obtain ⟨T14, L14, _, X14, ⟨rfl, N14q, e14q⟩, st14⟩ := own_callS X13 hx hZ hown (cw_11 hw) (rm24_10 hw a1 w2 p3 p4 p5 p6 p7 p8 p9 p10 Z0 P1 P2 P3 P4 P5) e13q (Ls := (L_riiii a1 42 0 4 3)) hml [vr a1, vi 3] [] pd_16 0 (hb hby d31_12)
  have N14 := Fr.app N13 N14q
  refine ⟨T14, _, _, _, _, some (vi (-1)), X14, e14q, by decide, by decide, nofun, ⟨rfl, N14, rfl⟩, fun fs hr => ?_⟩
  refine own_b X0 hx hby tb31 7 [false] 12 (L_riiii a1 42 0 4 0) [vi 0, vr a1] (ai (by decide) rfl) ?_
  refine st11 _ ?_
  refine own_b X11 hx hby tb31 9 [true, false] 12 (L_riiii a1 42 0 4 1) [vi 1, vr a1] (ai (feq P6).2 (ai (by decide) rfl)) ?_
  refine st12 _ ?_
  refine own_b X12 hx hby tb31 9 [true, false] 12 (L_riiii a1 42 0 4 2) [vi 2, vr a1] (ai (feq H1).2 (ai (by decide) rfl)) ?_
  refine st13 _ ?_
  refine own_b X13 hx hby tb31 9 [true, false] 12 (L_riiii a1 42 0 4 3) [vi 3, vr a1] (ai (feq H2).2 (ai (by decide) rfl)) ?_
  refine st14 _ ?_
  refine own_b X14 hx hby tb31 8 [true, true] 29 (L_riiii a1 42 0 4 4) [vi (-1)] (ai (feq H3).2 (ai (by decide) rfl)) ?_
  exact retI X14 hx hret (hb hby d31_29) hr
theorem rm31_23 (hw : OW Z a0) (a1 : Addr) (w2 : ClassId) (p3 p4 p5 p6 p7 p8 p9 p10 : Int32) (Z0 : n0 ≤ h0.size) (P1 : ab2 Z (vi 1)) (P2 : Old Z n0 h0) (P3 : Arv Z h0 a1 w2 .byte (8 : Int32) [vi p3, vi p4, vi p5, vi p6, vi p7, vi p8, vi p9, vi p10] (vi 0)) (P4 : ab3 Z (vi 0)) (P5 : ab4 Z (vi 8)) (P6 : ¬ ((nar .char (va8 p3 p4)) = (42 : Int32))) :
    M31 l Z ws (orm 1 0 0 13) #[vr a1, vi 42, vi 0, vi 4] h0 (QI n0 h0 (vi (va38 p5 p6 p7 p8 p9 p10))) := by
  by_cases H1 : (nar .char (va8 p5 p6)) = (42 : Int32)
  ·
    rw [show (va38 p5 p6 p7 p8 p9 p10) = (1 : Int32) from by simp only [va38, if_pos H1]]
    exact rm31_19 hw a1 w2 p3 p4 p5 p6 p7 p8 p9 p10 Z0 P1 P2 P3 P4 P5 P6 H1
  ·
    by_cases H2 : (nar .char (va8 p7 p8)) = (42 : Int32)
    ·
      rw [show (va38 p5 p6 p7 p8 p9 p10) = (2 : Int32) from by simp only [va38, if_neg H1, if_pos H2]]
      exact rm31_20 hw a1 w2 p3 p4 p5 p6 p7 p8 p9 p10 Z0 P1 P2 P3 P4 P5 P6 H1 H2
    ·
      by_cases H3 : (nar .char (va8 p9 p10)) = (42 : Int32)
      ·
        rw [show (va38 p5 p6 p7 p8 p9 p10) = (3 : Int32) from by simp only [va38, if_neg H1, if_neg H2, if_pos H3]]
        exact rm31_21 hw a1 w2 p3 p4 p5 p6 p7 p8 p9 p10 Z0 P1 P2 P3 P4 P5 P6 H1 H2 H3
      ·
        rw [show (va38 p5 p6 p7 p8 p9 p10) = (-1 : Int32) from by simp only [va38, if_neg H1, if_neg H2, if_neg H3]]
        exact rm31_22 hw a1 w2 p3 p4 p5 p6 p7 p8 p9 p10 Z0 P1 P2 P3 P4 P5 P6 H1 H2 H3
theorem rm26_7 (hw : OW Z a0) (a1 : Addr) (w2 : ClassId) (p3 p4 p5 p6 p7 p8 p9 p10 : Int32) (a11 : Value) (Z0 : n0 ≤ h0.size) (P1 : Arv Z h0 a1 w2 .byte (8 : Int32) [vi p3, vi p4, vi p5, vi p6, vi p7, vi p8, vi p9, vi p10] (vi 0)) (P2 : ab5 Z a11) (P3 : Old Z n0 h0) (P4 : a11.isRef = true) (P5 : ab2 Z (vi 1)) (P6 : ab3 Z (vi 0)) (P7 : ab4 Z (vi 8)) (P8 : ¬ ((nar .char (va8 p3 p4)) = (42 : Int32))) :
    M26 l Z ws (orm 3 0 0 43) #[vr a1, vi 42, vi 0, vi 4] h0 (QI n0 h0 (vi (va38 p5 p6 p7 p8 p9 p10))) := by
  refine own_enter (plainFor_of_name pn_4) (L0 := (L_riii a1 42 0 4)) ?_
  intro p e s m below meth c s₁ hx hby hml hown hnm hret hZ X0 e0
  have N0 := Fr.nil n0
  obtain ⟨T12, L12, _, X12, ⟨rfl, N12q, e12q⟩, st12⟩ := own_callS X0 hx hZ hown (cw_22 hw) (rm27_4 hw a1 w2 p3 p4 p5 p6 p7 p8 p9 p10 a11 Z0 P1 P2 P3 P4) e0 (Ls := (L_riii a1 42 0 4)) hml [vi 0, vi 4, vr a1] [] pd_21 0 (hb hby d26_3)
  have N12 := Fr.app N0 N12q
  obtain ⟨T13, L13, _, X13, ⟨rfl, N13q, e13q⟩, st13⟩ := own_callS X12 hx hZ hown (cw_23 hw) (rm31_23 hw a1 w2 p3 p4 p5 p6 p7 p8 p9 p10 Z0 P5 P3 P1 P6 P7 P8) e12q (Ls := (L_riii a1 42 0 4)) hml [vr a1, vi 42, vi 0, vi 4] [] pd_9 0 (hb hby d26_10)
  have N13 := Fr.app N12 N13q
  refine ⟨T13, _, _, _, _, some (vi (va38 p5 p6 p7 p8 p9 p10)), X13, e13q, by decide, by decide, nofun, ⟨rfl, N13, rfl⟩, fun fs hr => ?_⟩
  refine own_b X0 hx hby tb26 3 [] 3 _ [vr a1, vi 4, vi 0] rfl ?_
  refine st12 _ ?_
  refine own_b X12 hx hby tb26 4 [] 10 _ [vi 4, vi 0, vi 42, vr a1] rfl ?_
  refine st13 _ ?_
  exact retI X13 hx hret (hb hby d26_13) hr
theorem rm25_7 (hw : OW Z a0) (a1 : Addr) (w3 : ClassId) (p4 p5 p6 p7 p8 p9 p10 p11 : Int32) (a13 : Value) (Z0 : n0 ≤ h0.size) (P1 : Arv Z h0 a1 w3 .byte (8 : Int32) [vi p4, vi p5, vi p6, vi p7, vi p8, vi p9, vi p10, vi p11] (vi 0)) (P2 : ab5 Z a13) (P3 : Old Z n0 h0) (P4 : a13.isRef = true) (P5 : ab2 Z (vi 1)) (P6 : ab3 Z (vi 0)) (P7 : ab4 Z (vi 8)) (P8 : ¬ ((nar .char (va8 p4 p5)) = (42 : Int32))) :
    M25 l Z ws (orm 4 0 0 58) #[vr a1, vi 42, vi 0, vi 4] h0 (QI n0 h0 (vi (va38 p6 p7 p8 p9 p10 p11))) := by
  refine own_enter (plainFor_of_name pn_4) (L0 := (L_riii a1 42 0 4)) ?_
  intro p e s m below meth c s₁ hx hby hml hown hnm hret hZ X0 e0
  have N0 := Fr.nil n0
  obtain ⟨T2, L2, _, X2, ⟨rfl, N2q, e2q⟩, st2⟩ := own_callS X0 hx hZ hown (cw_17 hw) (rm14_1 hw  Z0 ) e0 (Ls := (L_riii a1 42 0 4)) hml [vi 0, vi 0] [] pd_8 0 (hb hby d25_2)
  have N2 := Fr.app N0 N2q
  obtain ⟨T12, L12, _, X12, ⟨rfl, N12q, e12q⟩, st12⟩ := own_callS X2 hx hZ hown (cw_18 hw) (rm15_5 hw  Z0 ) e2q (Ls := (L_riii a1 42 0 4)) hml [vi 4, vi 4] [] pd_8 0 (hb hby d25_11)
  have N12 := Fr.app N2 N12q
  obtain ⟨T14, L14, _, X14, ⟨rfl, N14q, e14q⟩, st14⟩ := own_callS X12 hx hZ hown (cw_24 hw) (rm26_7 hw a1 w3 p4 p5 p6 p7 p8 p9 p10 p11 a13 Z0 P1 P2 P3 P4 P5 P6 P7 P8) e12q (Ls := (L_riii a1 42 0 4)) hml [vr a1, vi 42, vi 0, vi 4] [] pd_9 0 (hb hby d25_32)
  have N14 := Fr.app N12 N14q
  refine ⟨T14, _, _, _, _, some (vi (va38 p6 p7 p8 p9 p10 p11)), X14, e14q, by decide, by decide, nofun, ⟨rfl, N14, rfl⟩, fun fs hr => ?_⟩
  refine own_b X0 hx hby tb25 2 [] 2 _ [vi 0, vi 0] rfl ?_
  refine st2 _ ?_
  refine own_a X2 hx hZ e2q hby tb25 (aec P1 aen) 6 [] [0] 11 (L_riii a1 42 0 4) [vi 4, vi 4] (ai rfl rfl) ?_
  refine st12 _ ?_
  refine own_b X12 hx hby tb25 5 [true] 23 (L_riii a1 42 0 4) [vi 42] (ai (by decide) rfl) ?_
  refine X12.ldcInt hx hown (mvT hZ (tw_112 hw)) (g := (mkF m 23 (L_riii a1 42 0 4) [vi 42])) rfl (hb hby d25_23) _ ?_
  show OS p e below T12 m 25 (L_riii a1 42 0 4) [vi 65536, vi 42] _
  refine own_b X12 hx hby tb25 5 [false] 32 _ [vi 4, vi 0, vi 42, vr a1] (ai (by decide) rfl) ?_
  refine st14 _ ?_
  exact retI X14 hx hret (hb hby d25_35) hr
theorem rm8_11 (hw : OW Z a0) (a1 : Addr) (p2 : Int32) (a4 : Addr) (w6 : ClassId) (p7 p8 p9 p10 p11 p12 p13 p14 : Int32) (a16 : Value) (Z0 : n0 ≤ h0.size) (P1 : ab8 Z h0 a1) (P2 : ab1 Z (vi p2)) (P3 : Old Z n0 h0) (P4 : ¬ (p2 = (0 : Int32))) (P5 : ab6 Z h0 a1 (vi 1)) (P6 : ab7 Z h0 a1 (vr a4)) (P7 : Arv Z h0 a4 w6 .byte (8 : Int32) [vi p7, vi p8, vi p9, vi p10, vi p11, vi p12, vi p13, vi p14] (vi 0)) (P8 : ab5 Z a16) (P9 : a16.isRef = true) (P10 : ab2 Z (vi 1)) (P11 : ab3 Z (vi 0)) (P12 : ab4 Z (vi 8)) (P13 : ¬ ((nar .char (va8 p7 p8)) = (42 : Int32))) :
    M8 l Z ws (orm 5 0 0 73) #[vr a1, vi 42, vi 0] h0 (QI n0 h0 (vi (va38 p9 p10 p11 p12 p13 p14))) := by
  refine own_enter (plainFor_of_name pn_1) (L0 := (L_rii a1 42 0)) ?_
  intro p e s m below meth c s₁ hx hby hml hown hnm hret hZ X0 e0
  have N0 := Fr.nil n0
  obtain ⟨T3, L3, _, X3, ⟨rfl, N3q, e3q⟩, st3⟩ := own_callV X0 hx hZ hown (tw_44 hw) (tw_45 hw) (notFace_of_selects (args := #[]) (mvT hZ (tw_47 hw))) (tw_47 hw) (tw_46 hw) (tw_10 hw) (tw_48 hw) (rm9_2 hw a1 p2 Z0 P2 P3 P4 P5) e0 P1 (Ls := (L_rii a1 42 0)) hml [] [] pd_4 0 (hb hby d8_1)
  have N3 := Fr.app N0 N3q
  obtain ⟨T5, X5, e5, st5⟩ := getF X3 hx hZ hown (host := "") (Or.inl (tw_28 hw)) Via.refl e3q P6 (g := (mkF m 24 (L_rii a1 42 0) [vr a1])) rfl rfl (hb hby d8_24)
  obtain ⟨T15, L15, _, X15, ⟨rfl, N15q, e15q⟩, st15⟩ := own_callV X5 hx hZ hown (tw_50 hw) (tw_51 hw) (notFace_of_selects (args := #[]) (mvT hZ (tw_53 hw))) (tw_53 hw) (tw_52 hw) (tw_10 hw) (tw_54 hw) (rm10_8 hw a1 a4 w6 p7 p8 p9 p10 p11 p12 p13 p14 p2 Z0 P6 P7 P1 P2 P3 P4 P5) e5 P1 (Ls := (L_rii a1 42 0)) hml [] [vi 0, vi 42, vr a4] pd_6 3 (hb hby d8_30)
  have N15 := Fr.app N3 N15q
  obtain ⟨T17, L17, _, X17, ⟨rfl, N17q, e17q⟩, st17⟩ := own_callS X15 hx hZ hown (cw_25 hw) (rm25_7 hw a4 w6 p7 p8 p9 p10 p11 p12 p13 p14 a16 Z0 P7 P8 P3 P9 P10 P11 P12 P13) e15q (Ls := (L_rii a1 42 0)) hml [vr a4, vi 42, vi 0, vi 4] [] pd_9 0 (hb hby d8_33)
  have N17 := Fr.app N15 N17q
  refine ⟨T17, _, _, _, _, some (vi (va38 p9 p10 p11 p12 p13 p14)), X17, e17q, by decide, by decide, nofun, ⟨rfl, N17, rfl⟩, fun fs hr => ?_⟩
  refine own_b X0 hx hby tb8 1 [] 1 _ [vr a1] rfl ?_
  refine st3 _ ?_
  refine own_b X3 hx hby tb8 2 [true] 24 _ [vr a1] (ai (by decide) rfl) ?_
  refine st5 _ ?_
  refine own_b X5 hx hby tb8 3 [] 30 _ [vr a1, vi 0, vi 42, vr a4] rfl ?_
  refine st15 _ ?_
  refine st17 _ ?_
  exact retI X17 hx hret (hb hby d8_36) hr
theorem rm7_11 (hw : OW Z a0) (a1 : Addr) (p2 : Int32) (a3 : Addr) (w4 : ClassId) (p5 p6 p7 p8 p9 p10 p11 p12 : Int32) (a13 : Value) (Z0 : n0 ≤ h0.size) (P1 : ab8 Z h0 a1) (P2 : ab1 Z (vi p2)) (P3 : Old Z n0 h0) (P4 : ¬ (p2 = (0 : Int32))) (P5 : ab6 Z h0 a1 (vi 1)) (P6 : ab7 Z h0 a1 (vr a3)) (P7 : Arv Z h0 a3 w4 .byte (8 : Int32) [vi p5, vi p6, vi p7, vi p8, vi p9, vi p10, vi p11, vi p12] (vi 0)) (P8 : ab5 Z a13) (P9 : a13.isRef = true) (P10 : ab2 Z (vi 1)) (P11 : ab3 Z (vi 0)) (P12 : ab4 Z (vi 8)) (P13 : ¬ ((nar .char (va8 p5 p6)) = (42 : Int32))) :
    M7 l Z ws (orm 6 0 0 87) #[vr a1, vi 42] h0 (QI n0 h0 (vi (va38 p7 p8 p9 p10 p11 p12))) := by
  refine own_enter (plainFor_of_name pn_1) (L0 := (L_ri a1 42)) ?_
  intro p e s m below meth c s₁ hx hby hml hown hnm hret hZ X0 e0
  have N0 := Fr.nil n0
  obtain ⟨T14, L14, _, X14, ⟨rfl, N14q, e14q⟩, st14⟩ := own_callV X0 hx hZ hown (tw_39 hw) (tw_40 hw) (notFace_of_selects (args := #[]) (mvT hZ (tw_42 hw))) (tw_42 hw) (tw_41 hw) (tw_10 hw) (tw_43 hw) (rm8_11 hw a1 p2 a3 w4 p5 p6 p7 p8 p9 p10 p11 p12 a13 Z0 P1 P2 P3 P4 P5 P6 P7 P8 P9 P10 P11 P12 P13) e0 P1 (Ls := (L_ri a1 42)) hml [vi 42, vi 0] [] pd_8 0 (hb hby d7_3)
  have N14 := Fr.app N0 N14q
  refine ⟨T14, _, _, _, _, some (vi (va38 p7 p8 p9 p10 p11 p12)), X14, e14q, by decide, by decide, nofun, ⟨rfl, N14, rfl⟩, fun fs hr => ?_⟩
  refine own_b X0 hx hby tb7 3 [] 3 _ [vi 0, vi 42, vr a1] rfl ?_
  refine st14 _ ?_
  exact retI X14 hx hret (hb hby d7_6) hr
theorem rm6_27 (hw : OW Z a0) (a1 : Addr) (p2 : Int32) (a3 : Addr) (w4 : ClassId) (p5 p6 p7 p8 p9 p10 p11 p12 : Int32) (a13 : Value) (Z0 : n0 ≤ h0.size) (P1 : ab8 Z h0 a1) (P2 : ab1 Z (vi p2)) (P3 : Old Z n0 h0) (P4 : ¬ (p2 = (0 : Int32))) (P5 : ab6 Z h0 a1 (vi 1)) (P6 : ab7 Z h0 a1 (vr a3)) (P7 : Arv Z h0 a3 w4 .byte (8 : Int32) [vi p5, vi p6, vi p7, vi p8, vi p9, vi p10, vi p11, vi p12] (vi 0)) (P8 : ab5 Z a13) (P9 : a13.isRef = true) (P10 : ab2 Z (vi 1)) (P11 : ab3 Z (vi 0)) (P12 : ab4 Z (vi 8)) (P13 : ¬ ((nar .char (va8 p5 p6)) = (42 : Int32))) (H1 : (va38 p7 p8 p9 p10 p11 p12) < (0 : Int32)) :
    M6 l Z ws (orm 7 0 0 100) #[vr a1] h0 (QI n0 h0 (vi 0)) := by
  refine own_enter (plainFor_of_name pn_3) (L0 := #[sr a1]) ?_
  intro p e s m below meth c s₁ hx hby hml hown hnm hret hZ X0 e0
  have N0 := Fr.nil n0
  obtain ⟨T14, L14, _, X14, ⟨rfl, N14q, e14q⟩, st14⟩ := own_callV X0 hx hZ hown (tw_34 hw) (tw_35 hw) (notFace_of_selects (args := #[]) (mvT hZ (tw_37 hw))) (tw_37 hw) (tw_36 hw) (tw_10 hw) (tw_38 hw) (rm7_11 hw a1 p2 a3 w4 p5 p6 p7 p8 p9 p10 p11 p12 a13 Z0 P1 P2 P3 P4 P5 P6 P7 P8 P9 P10 P11 P12 P13) e0 P1 (Ls := #[sr a1]) hml [vi 42] [] pd_10 0 (hb hby d6_3)
  have N14 := Fr.app N0 N14q
  refine ⟨T14, _, _, _, _, some (vi 0), X14, e14q, by decide, by decide, nofun, ⟨rfl, N14, rfl⟩, fun fs hr => ?_⟩
  refine own_b X0 hx hby tb6 2 [] 3 _ [vi 42, vr a1] rfl ?_
  refine st14 _ ?_
  refine own_b X14 hx hby tb6 2 [true] 14 _ [vi 0] (ai (tlt H1).1 rfl) ?_
  exact retN X14 hx (t := .boolean) hret (by simp) (hb hby d6_14) hr
theorem rm6_28 (hw : OW Z a0) (a1 : Addr) (p2 : Int32) (a3 : Addr) (w4 : ClassId) (p5 p6 p7 p8 p9 p10 p11 p12 : Int32) (a13 : Value) (Z0 : n0 ≤ h0.size) (P1 : ab8 Z h0 a1) (P2 : ab1 Z (vi p2)) (P3 : Old Z n0 h0) (P4 : ¬ (p2 = (0 : Int32))) (P5 : ab6 Z h0 a1 (vi 1)) (P6 : ab7 Z h0 a1 (vr a3)) (P7 : Arv Z h0 a3 w4 .byte (8 : Int32) [vi p5, vi p6, vi p7, vi p8, vi p9, vi p10, vi p11, vi p12] (vi 0)) (P8 : ab5 Z a13) (P9 : a13.isRef = true) (P10 : ab2 Z (vi 1)) (P11 : ab3 Z (vi 0)) (P12 : ab4 Z (vi 8)) (P13 : ¬ ((nar .char (va8 p5 p6)) = (42 : Int32))) (H1 : ¬ ((va38 p7 p8 p9 p10 p11 p12) < (0 : Int32))) :
    M6 l Z ws (orm 7 0 0 100) #[vr a1] h0 (QI n0 h0 (vi 1)) := by
  refine own_enter (plainFor_of_name pn_3) (L0 := #[sr a1]) ?_
  intro p e s m below meth c s₁ hx hby hml hown hnm hret hZ X0 e0
  have N0 := Fr.nil n0
  obtain ⟨T14, L14, _, X14, ⟨rfl, N14q, e14q⟩, st14⟩ := own_callV X0 hx hZ hown (tw_34 hw) (tw_35 hw) (notFace_of_selects (args := #[]) (mvT hZ (tw_37 hw))) (tw_37 hw) (tw_36 hw) (tw_10 hw) (tw_38 hw) (rm7_11 hw a1 p2 a3 w4 p5 p6 p7 p8 p9 p10 p11 p12 a13 Z0 P1 P2 P3 P4 P5 P6 P7 P8 P9 P10 P11 P12 P13) e0 P1 (Ls := #[sr a1]) hml [vi 42] [] pd_10 0 (hb hby d6_3)
  have N14 := Fr.app N0 N14q
  refine ⟨T14, _, _, _, _, some (vi 1), X14, e14q, by decide, by decide, nofun, ⟨rfl, N14, rfl⟩, fun fs hr => ?_⟩
  refine own_b X0 hx hby tb6 2 [] 3 _ [vi 42, vr a1] rfl ?_
  refine st14 _ ?_
  refine own_b X14 hx hby tb6 3 [false] 14 _ [vi 1] (ai (flt H1).1 rfl) ?_
  exact retN X14 hx (t := .boolean) hret (by simp) (hb hby d6_14) hr
theorem rm6_29 (hw : OW Z a0) (a1 : Addr) (p2 : Int32) (a3 : Addr) (w4 : ClassId) (p5 p6 p7 p8 p9 p10 p11 p12 : Int32) (a13 : Value) (Z0 : n0 ≤ h0.size) (P1 : ab8 Z h0 a1) (P2 : ab1 Z (vi p2)) (P3 : Old Z n0 h0) (P4 : ¬ (p2 = (0 : Int32))) (P5 : ab6 Z h0 a1 (vi 1)) (P6 : ab7 Z h0 a1 (vr a3)) (P7 : Arv Z h0 a3 w4 .byte (8 : Int32) [vi p5, vi p6, vi p7, vi p8, vi p9, vi p10, vi p11, vi p12] (vi 0)) (P8 : ab5 Z a13) (P9 : a13.isRef = true) (P10 : ab2 Z (vi 1)) (P11 : ab3 Z (vi 0)) (P12 : ab4 Z (vi 8)) (P13 : ¬ ((nar .char (va8 p5 p6)) = (42 : Int32))) :
    M6 l Z ws (orm 7 0 0 100) #[vr a1] h0 (QI n0 h0 (vi (va39 p7 p8 p9 p10 p11 p12))) := by
  by_cases H1 : (va38 p7 p8 p9 p10 p11 p12) < (0 : Int32)
  ·
    rw [show (va39 p7 p8 p9 p10 p11 p12) = (0 : Int32) from by simp only [va39, if_pos H1]]
    exact rm6_27 hw a1 p2 a3 w4 p5 p6 p7 p8 p9 p10 p11 p12 a13 Z0 P1 P2 P3 P4 P5 P6 P7 P8 P9 P10 P11 P12 P13 H1
  ·
    rw [show (va39 p7 p8 p9 p10 p11 p12) = (1 : Int32) from by simp only [va39, if_neg H1]]
    exact rm6_28 hw a1 p2 a3 w4 p5 p6 p7 p8 p9 p10 p11 p12 a13 Z0 P1 P2 P3 P4 P5 P6 P7 P8 P9 P10 P11 P12 P13 H1
theorem rm17_11 (hw : OW Z a0) (a1 a2 : Addr) (w3 : ClassId) (p4 p5 p6 p7 : Int32) (w8 : ClassId) (Z0 : n0 ≤ h0.size) (P1 : Arv Z h0 a1 w3 .char (4 : Int32) [vi p4, vi p5, vi p6, vi p7] (vi 0)) (P2 : ¬ ((255 : Int32) < p4)) (P3 : Arv Z h0 a2 w8 .byte (4 : Int32) [vi 0, vi 0, vi 0, vi 0] (vi 0)) (P4 : n0 ≤ a2) (P5 : a1 ≠ a2) (P6 : (255 : Int32) < p5) :
    M17 l Z ws (orm 0 0 0 0) #[vr a1, vi 0, vr a2, vi 0, vi 4] h0 (fun v h L => v = some (vi 1) ∧ Fr n0 L ∧ Keep h0 h [a2] ∧ Arv Z h a2 w8 .byte (4 : Int32) [vi ((p4.toInt8.toInt32).toInt8.toInt32), vi 0, vi 0, vi 0] (vi 0)) := by
  refine own_enter (plainFor_of_name pn_4) (L0 := (L_ririiuu a1 0 a2 0 4)) ?_
  intro p e s m below meth c s₁ hx hby hml hown hnm hret hZ X0 e0
  have N0 := Fr.nil n0
  obtain ⟨T9, h9, X9, e9, W9, V9, st9⟩ := own_stB X0 hx hZ e0 P3 (j := (0 : Int32)) (x := (p4.toInt8.toInt32)) (by decide) 0 rfl (Nat.le_of_ble_eq_true rfl) (Ls := (L_ririiii a1 0 a2 0 4 0 p4)) (rest := []) (hb hby d17_31)
  have N9 := Fr.snoc X9 N0 P4
  have F10 := (Arv.other P1 W9 P5)
  have K11 := (Keep.refl h0 [a2]).wr W9 (Or.inl (List.mem_of_getElem? (i := 0) rfl))
  refine ⟨T9, _, _, _, _, some (vi 1), X9, e9, by decide, by decide, nofun, ⟨rfl, N9, K11, V9⟩, fun fs hr => ?_⟩
  refine own_a X0 hx hZ e0 hby tb17 (aec P1 aen) 16 [false, true] [0] 31 (L_ririiii a1 0 a2 0 4 0 p4) [vi (p4.toInt8.toInt32), vi 0, vr a2] (ai (by decide) (ai rfl (ai (flt P2).2.2.2 rfl))) ?_
  refine st9 _ ?_
  refine own_a X9 hx hZ e9 hby tb17 (aec F10 aen) 15 [false, false] [0] 25 (L_ririiii a1 1 a2 1 4 1 p5) [vi 1] (ai (by decide) (ai rfl (ai (tlt P6).2.2.2 rfl))) ?_
  exact retI X9 hx hret (hb hby d17_25) hr
theorem rm16_11 (hw : OW Z a0) (a1 : Addr) (w4 : ClassId) (p5 p6 p7 p8 : Int32) (Z0 : n0 ≤ h0.size) (P1 : Arv Z h0 a1 w4 .char (4 : Int32) [vi p5, vi p6, vi p7, vi p8] (vi 0)) (P2 : ¬ ((255 : Int32) < p5)) (P3 : (255 : Int32) < p6) (P4 : ab2 Z (vi 1)) (P5 : Old Z n0 h0) (P6 : ab3 Z (vi 0)) (P7 : ab4 Z (vi 8)) (P8 : (255 : Int32) < (nar .char (va8 ((va4 p6).toInt8.toInt32) ((va5 p6).toInt8.toInt32)))) :
    M16 l Z ws (orm 3 2 12 40) #[vr a1, vi 0, vi 4] h0 (fun v h L => ∃ b15 : Addr, ∃ kk14_0 : ClassId, v = some (vr b15) ∧ Fr n0 L ∧ Keep h0 h [] ∧ n0 ≤ b15 ∧ h0.size ≤ b15 ∧ Arv Z h b15 kk14_0 .byte (8 : Int32) [vi ((va4 p5).toInt8.toInt32), vi ((va5 p5).toInt8.toInt32), vi ((va4 p6).toInt8.toInt32), vi ((va5 p6).toInt8.toInt32), vi ((va4 p7).toInt8.toInt32), vi ((va5 p7).toInt8.toInt32), vi ((va4 p8).toInt8.toInt32), vi ((va5 p8).toInt8.toInt32)] (vi 0)) := by
  refine own_enter (plainFor_of_name pn_4) (L0 := (L_riiuuu a1 0 4)) ?_
  intro p e s m below meth c s₁ hx hby hml hown hnm hret hZ X0 e0
  have N0 := Fr.nil n0
  obtain ⟨T3, h3, b2, k3, X3, e3, E3, g3, V3, st3⟩ := own_newP X0 hx hZ (tw_23 hw) e0 (n := (4 : Int32)) (k := 4) (d := (vi 0)) (vs := [vi 0, vi 0, vi 0, vi 0]) (Ls := (L_riiuuu a1 0 4)) (S := []) (hb hby d16_1)
  have q3 := Nat.le_trans Z0 g3
  have z3 := Nat.le_trans (Nat.le_refl h0.size) g3
  have F9 := (P1.ext E3)
  have n10 := Nat.ne_of_lt (Nat.lt_of_lt_of_le P1.lt g3)
  obtain ⟨T11, L11, _, X11, ⟨rfl, N11q, K11, f11_0⟩, st11⟩ := own_callS X3 hx hZ hown (cw_6 hw) (rm17_11 hw a1 b2 w4 p5 p6 p7 p8 k3 (Nat.le_trans Z0 E3.1) F9 P2 V3 q3 n10 P3) e3 (Ls := (L_riiruu a1 0 4 b2)) hml [vr a1, vi 0, vr b2, vi 0, vi 4] [] pd_12 0 (hb hby d16_9)
  have N11 := Fr.app N0 N11q
  have F12 := (Arv.keep F9 K11 (ninS n10 nin0))
  have F13 := ((P5.ext E3).keep K11 (allS q3 all0))
  obtain ⟨T14, L14, _, X14, ⟨b15, kk14_0, rfl, N14q, K14, qa14_0, qb14_0, f14_0⟩, st14⟩ := own_callS X11 hx hZ hown (cw_10 hw) (rm20_4 hw a1 w4 p5 p6 p7 p8 (Nat.le_trans (Nat.le_trans Z0 E3.1) K11.1) F12 P4 F13 P6 P7) rfl (Ls := (L_riiriu a1 0 4 b2 1)) hml [vr a1, vi 0, vi 4] [] pd_15 0 (hb hby d16_23)
  have N14 := Fr.app N11 N14q
  have F16 := (Nat.le_trans (Nat.le_trans (Nat.le_refl h0.size) E3.1) K11.1)
  have qd14_0 := Nat.le_trans F16 qb14_0
  have F17 := (F13.keep K14 all0)
  have F19 := (Nat.le_trans (Nat.le_trans (Nat.le_trans Z0 E3.1) K11.1) K14.1)
  obtain ⟨T18, L18, _, X18, ⟨rfl, N18q, e18q⟩, st18⟩ := own_callS X14 hx hZ hown (cw_11 hw) (rm24_8 hw b15 kk14_0 ((va4 p5).toInt8.toInt32) ((va5 p5).toInt8.toInt32) ((va4 p6).toInt8.toInt32) ((va5 p6).toInt8.toInt32) ((va4 p7).toInt8.toInt32) ((va5 p7).toInt8.toInt32) ((va4 p8).toInt8.toInt32) ((va5 p8).toInt8.toInt32) F19 P4 F17 f14_0 P6 P7) rfl (Ls := (L_riirir a1 0 4 b2 1 b15)) hml [vr b15, vi 1] [] pd_16 0 (hb hby d16_32)
  have N18 := Fr.app N14 N18q
  have K20 := (Keep.refl h0 []).ext E3
  have K21 := K20.trans K11 (allS (Or.inr z3) all0)
  have K22 := K21.trans K14 all0
  refine ⟨T18, _, _, _, _, some (vr b15), X18, e18q, by decide, by decide, nofun, ⟨b15, kk14_0, rfl, N18, K22, qa14_0, qd14_0, f14_0⟩, fun fs hr => ?_⟩
  refine own_b X0 hx hby tb16 1 [] 1 _ [vi 4] rfl ?_
  refine st3 _ ?_
  refine own_b X3 hx hby tb16 6 [] 9 (L_riiruu a1 0 4 b2) [vi 4, vi 0, vr b2, vi 0, vr a1] rfl ?_
  refine st11 _ ?_
  refine own_b X11 hx hby tb16 7 [false] 23 (L_riiriu a1 0 4 b2 1) [vi 4, vi 0, vr a1] (ai (by decide) rfl) ?_
  refine st14 _ ?_
  refine own_b X14 hx hby tb16 3 [] 32 (L_riirir a1 0 4 b2 1 b15) [vi 1, vr b15] rfl ?_
  refine st18 _ ?_
  refine own_b X18 hx hby tb16 3 [true] 56 _ [vr b15] (ai (tlt P8).2.2.1 rfl) ?_
  exact own_retA X18 hx hret rfl (hb hby d16_56) hr
theorem rm4_12 (hw : OW Z a0) (a1 a2 : Addr) (p4 : Int32) (w6 : ClassId) (p7 p8 p9 p10 : Int32) (Z0 : n0 ≤ h0.size) (P1 : ab1 Z (vi p4)) (P2 : Old Z n0 h0) (P3 : ¬ (p4 = (0 : Int32))) (P4 : Arv Z h0 a2 w6 .char (4 : Int32) [vi p7, vi p8, vi p9, vi p10] (vi 0)) (P5 : ¬ ((255 : Int32) < p7)) (P6 : (255 : Int32) < p8) (P7 : ab2 Z (vi 1)) (P8 : ab3 Z (vi 0)) (P9 : ab4 Z (vi 8)) (P10 : (255 : Int32) < (nar .char (va8 ((va4 p8).toInt8.toInt32) ((va5 p8).toInt8.toInt32)))) (P11 : ab6 Z h0 a1 (vi 0)) (P12 : ab8 Z h0 a1) (P13 : n0 ≤ a1) (P14 : ab7 Z h0 a1 .null) :
    M4 l Z ws (orm 4 2 12 57) #[vr a1, vr a2, vi 0, vi 4, .null] h0 (fun v h L => ∃ b12 : Addr, ∃ kk11_0 : ClassId, v = none ∧ Fr n0 L ∧ Keep h0 h [a1] ∧ n0 ≤ b12 ∧ h0.size ≤ b12 ∧ ab6 Z h a1 (vi 1) ∧ ab7 Z h a1 (vr b12) ∧ Arv Z h b12 kk11_0 .byte (8 : Int32) [vi ((va4 p7).toInt8.toInt32), vi ((va5 p7).toInt8.toInt32), vi ((va4 p8).toInt8.toInt32), vi ((va5 p8).toInt8.toInt32), vi ((va4 p9).toInt8.toInt32), vi ((va5 p9).toInt8.toInt32), vi ((va4 p10).toInt8.toInt32), vi ((va5 p10).toInt8.toInt32)] (vi 0)) := by
  refine own_enter (plainFor_of_name pn_1) (L0 := (L_rriinu a1 a2 0 4)) ?_
  intro p e s m below meth c s₁ hx hby hml hown hnm hret hZ X0 e0
  have N0 := Fr.nil n0
  obtain ⟨T3, X3, e3, st3⟩ := initO X0 hx hZ hown (tw_19 hw) (tw_20 hw) (tw_21 hw) e0 (g := (mkF m 1 (L_rriinu a1 a2 0 4) [vr a1])) rfl (by rw [hml]; rfl) rfl (hb hby d4_1) (by decide) (W := 0) (by show 2 * 0 + _ ≤ _; exact Nat.le_of_eq rfl) (by decide)
  obtain ⟨T5, X5, e5, st5⟩ := getS2 X3 hx hZ hown (host := "") (Or.inl (tw_49 hw)) Via.refl e3 (Sta.ext P2.2 P1) (g := (mkF m 27 (L_rriinu a1 a2 0 4) [])) rfl (hb hby d4_27)
  obtain ⟨T11, L11, _, X11, ⟨b12, kk11_0, rfl, N11q, K11, qa11_0, qb11_0, f11_0⟩, st11⟩ := own_callS X5 hx hZ hown (cw_12 hw) (rm16_11 hw a2 w6 p7 p8 p9 p10 Z0 P4 P5 P6 P7 P2 P8 P9 P10) e5 (Ls := (L_rriinu a1 a2 0 4)) hml [vr a2, vi 0, vi 4] [] pd_15 0 (hb hby d4_36)
  have N11 := Fr.app N0 N11q
  have qd11_0 := Nat.le_trans (Nat.le_refl h0.size) qb11_0
  obtain ⟨T13, L13, _, X13, ⟨rfl, N13q, e13q⟩, st13⟩ := own_callS X11 hx hZ hown (cw_13 hw) (rm18_7 hw b12 kk11_0 ((va4 p7).toInt8.toInt32) ((va5 p7).toInt8.toInt32) ((va4 p8).toInt8.toInt32) ((va5 p8).toInt8.toInt32) ((va4 p9).toInt8.toInt32) ((va5 p9).toInt8.toInt32) ((va4 p10).toInt8.toInt32) ((va5 p10).toInt8.toInt32) (Nat.le_trans Z0 K11.1) f11_0) rfl (Ls := (L_rriinr a1 a2 0 4 b12)) hml [vr b12, vi 4] [vr a1] pd_17 1 (hb hby d4_45)
  have N13 := Fr.app N11 N13q
  have F14 := (Fld.keep P11 K11 nin0)
  have F15 := (Exa.keep P12 K11)
  obtain ⟨T16, h16, X16, e16, W16, st16⟩ := putF X13 hx hZ hown (host := "") (Or.inl (tw_29 hw)) Via.refl e13q F14 F15 (Or.inr ⟨(tw_25 hw), rfl, hnm⟩) (tw_9 hw) (ty := .byte) (by decide) rfl rfl (g := (mkF m 48 (L_rriinr a1 a2 0 4 b12) [vi 1, vr a1])) rfl rfl (hb hby d4_48)
  have N16 := Fr.snoc X16 N13 P13
  have Fw16 := Fld.same W16 F14
  have F17 := (Fld.other W16 (Fld.keep P14 K11 nin0) (Or.inr (slot_ne (Or.inr (tw_24 hw)) (Or.inr (tw_25 hw)) (by decide) (t := (.array .byte)) (t' := .byte) (by decide) (by decide))))
  have F18 := (Exa.wr W16 F15)
  obtain ⟨T19, h19, X19, e19, W19, st19⟩ := putF X16 hx hZ hown (host := "") (Or.inl (tw_28 hw)) Via.refl e16 F17 F18 (Or.inr ⟨(tw_24 hw), rfl, hnm⟩) (tw_9 hw) (ty := (.array .byte)) (by decide) rfl rfl (g := (mkF m 54 (L_rriinr a1 a2 0 4 b12) [vr b12, vr a1])) rfl rfl (hb hby d4_54)
  have N19 := Fr.snoc X19 N16 P13
  have Fw19 := Fld.same W19 F17
  have F20 := (Fld.other W19 Fw16 (Or.inr (slot_ne (Or.inr (tw_25 hw)) (Or.inr (tw_24 hw)) (by decide) (t := .byte) (t' := (.array .byte)) (by decide) (by decide))))
  have n21 := Nat.ne_of_lt (Nat.lt_of_lt_of_le P11.lt qb11_0)
  have F22 := (Arv.other (Arv.other f11_0 W16 (Ne.symm n21)) W19 (Ne.symm n21))
  have K23 := (Keep.refl h0 [a1]).trans K11 all0
  have K24 := K23.wr W16 (Or.inl (List.mem_of_getElem? (i := 0) rfl))
  have K25 := K24.wr W19 (Or.inl (List.mem_of_getElem? (i := 0) rfl))
  refine ⟨T19, _, _, _, _, none, X19, e19, by decide, by decide, (fun _ => rfl), ⟨b12, kk11_0, rfl, N19, K25, qa11_0, qd11_0, F20, Fw19, F22⟩, fun fs hr => ?_⟩
  refine own_b X0 hx hby tb4 1 [] 1 _ [vr a1] rfl ?_
  refine st3 _ ?_
  refine own_b X3 hx hby tb4 2 [true] 27 _ [] (ai (by decide) rfl) ?_
  refine st5 _ ?_
  refine own_b X5 hx hby tb4 4 [false] 36 _ [vi 4, vi 0, vr a2] (ai (feq P3).1 rfl) ?_
  refine st11 _ ?_
  refine own_b X11 hx hby tb4 4 [] 45 (L_rriinr a1 a2 0 4 b12) [vi 4, vr b12, vr a1] rfl ?_
  refine st13 _ ?_
  refine st16 _ ?_
  refine own_b X16 hx hby tb4 2 [] 54 _ [vr b12, vr a1] rfl ?_
  refine st19 _ ?_
  show OS p e below T19 m 57 (L_rriinr a1 a2 0 4 b12) [] _
  exact X19.returnOut hx hret (hb hby d4_57) hr
theorem rm3_12 (hw : OW Z a0) (a1 a2 : Addr) (w3 : ClassId) (p4 p5 p6 p7 p8 : Int32) (Z0 : n0 ≤ h0.size) (P1 : Arv Z h0 a2 w3 .char (4 : Int32) [vi p4, vi p5, vi p6, vi p7] (vi 0)) (P2 : ab1 Z (vi p8)) (P3 : Old Z n0 h0) (P4 : ¬ (p8 = (0 : Int32))) (P5 : ¬ ((255 : Int32) < p4)) (P6 : (255 : Int32) < p5) (P7 : ab2 Z (vi 1)) (P8 : ab3 Z (vi 0)) (P9 : ab4 Z (vi 8)) (P10 : (255 : Int32) < (nar .char (va8 ((va4 p5).toInt8.toInt32) ((va5 p5).toInt8.toInt32)))) (P11 : ab6 Z h0 a1 (vi 0)) (P12 : ab8 Z h0 a1) (P13 : n0 ≤ a1) (P14 : ab7 Z h0 a1 .null) :
    M3 l Z ws (orm 5 2 12 74) #[vr a1, vr a2] h0 (fun v h L => ∃ b10 : Addr, ∃ kk9_0 : ClassId, v = none ∧ Fr n0 L ∧ Keep h0 h [a1] ∧ n0 ≤ b10 ∧ h0.size ≤ b10 ∧ ab6 Z h a1 (vi 1) ∧ ab7 Z h a1 (vr b10) ∧ Arv Z h b10 kk9_0 .byte (8 : Int32) [vi ((va4 p4).toInt8.toInt32), vi ((va5 p4).toInt8.toInt32), vi ((va4 p5).toInt8.toInt32), vi ((va5 p5).toInt8.toInt32), vi ((va4 p6).toInt8.toInt32), vi ((va5 p6).toInt8.toInt32), vi ((va4 p7).toInt8.toInt32), vi ((va5 p7).toInt8.toInt32)] (vi 0)) := by
  refine own_enter (plainFor_of_name pn_1) (L0 := (L_rr a1 a2)) ?_
  intro p e s m below meth c s₁ hx hby hml hown hnm hret hZ X0 e0
  have N0 := Fr.nil n0
  obtain ⟨T9, L9, _, X9, ⟨b10, kk9_0, rfl, N9q, K9, qa9_0, qb9_0, f9_0, f9_1, f9_2⟩, st9⟩ := own_callI X0 hx hZ hown (cw_14 hw) (rm4_12 hw a1 a2 p8 w3 p4 p5 p6 p7 Z0 P2 P3 P4 P1 P5 P6 P7 P8 P9 P10 P11 P12 P13 P14) e0 (Ls := (L_rr a1 a2)) hml a1 [vr a2, vi 0, vi 4, .null] [] pd_1 0 (hb hby d3_6)
  have N9 := Fr.app N0 N9q
  have qd9_0 := Nat.le_trans (Nat.le_refl h0.size) qb9_0
  have K11 := (Keep.refl h0 [a1]).trans K9 (allS (Or.inl (List.mem_of_getElem? (i := 0) rfl)) all0)
  refine ⟨T9, _, _, _, _, none, X9, rfl, by decide, by decide, (fun _ => rfl), ⟨b10, kk9_0, rfl, N9, K11, qa9_0, qd9_0, f9_0, f9_1, f9_2⟩, fun fs hr => ?_⟩
  refine own_a X0 hx hZ e0 hby tb3 (aec P1 aen) 6 [] [0] 6 _ [.null, vi 4, vi 0, vr a2, vr a1] (ai rfl rfl) ?_
  refine st9 _ ?_
  show OS p e below T9 m 9 (L_rr a1 a2) [] _
  exact X9.returnOut hx hret (hb hby d3_9) hr
theorem rm2_12 (hw : OW Z a0) (p1 p2 p3 p4 p15 : Int32) (Z0 : n0 ≤ h0.size) (P1 : ab1 Z (vi p15)) (P2 : Old Z n0 h0) (P3 : ¬ (p15 = (0 : Int32))) (P4 : ¬ ((255 : Int32) < (nar .char p1))) (P5 : (255 : Int32) < (nar .char p2)) (P6 : ab2 Z (vi 1)) (P7 : ab3 Z (vi 0)) (P8 : ab4 Z (vi 8)) (P9 : (255 : Int32) < (nar .char (va8 ((va4 (nar .char p2)).toInt8.toInt32) ((va5 (nar .char p2)).toInt8.toInt32)))) :
    M2 l Z ws (orm 6 4 20 88) #[vi 4, vi p1, vi p2, vi p3, vi p4] h0 (fun v h L => ∃ b5 : Addr, ∃ b23 : Addr, ∃ kk21_0 : ClassId, v = some (vr b5) ∧ Fr n0 L ∧ Keep h0 h [] ∧ n0 ≤ b5 ∧ h0.size ≤ b5 ∧ n0 ≤ b23 ∧ h0.size ≤ b23 ∧ b5 ≠ b23 ∧ ab8 Z h b5 ∧ ab6 Z h b5 (vi 1) ∧ ab7 Z h b5 (vr b23) ∧ Arv Z h b23 kk21_0 .byte (8 : Int32) [vi ((va4 (nar .char p1)).toInt8.toInt32), vi ((va5 (nar .char p1)).toInt8.toInt32), vi ((va4 (nar .char p2)).toInt8.toInt32), vi ((va5 (nar .char p2)).toInt8.toInt32), vi ((va4 (nar .char p3)).toInt8.toInt32), vi ((va5 (nar .char p3)).toInt8.toInt32), vi ((va4 (nar .char p4)).toInt8.toInt32), vi ((va5 (nar .char p4)).toInt8.toInt32)] (vi 0)) := by
  refine own_enter (plainFor_of_name pn_0) (L0 := (L_iiiii 4 p1 p2 p3 p4)) ?_
  intro p e s m below meth c s₁ hx hby hml hown hnm hret hZ X0 e0
  have N0 := Fr.nil n0
  obtain ⟨T6, h6, b5, X6, e6, E6, g6, A6, D6, st6⟩ := own_new X0 hx hZ hown (tw_8 hw) (tw_9 hw) (tw_10 hw) e0 (Ls := (L_iiiii 4 p1 p2 p3 p4)) (S := []) (hb hby d2_87)
  have q6 := Nat.le_trans Z0 g6
  have z6 := Nat.le_trans (Nat.le_refl h0.size) g6
  have F7 : ab7 Z h6 b5 .null := D6 (Or.inr (tw_24 hw)) (ty := (.array .byte)) (by decide)
  have F8 : ab6 Z h6 b5 (vi 0) := D6 (Or.inr (tw_25 hw)) (ty := .byte) (by decide)
  obtain ⟨T10, h10, b9, k10, X10, e10, E10, g10, V10, st10⟩ := own_newP X6 hx hZ (tw_11 hw) e6 (n := (4 : Int32)) (k := 4) (d := (vi 0)) (vs := [vi 0, vi 0, vi 0, vi 0]) (Ls := (L_iiiii 4 p1 p2 p3 p4)) (S := [vr b5, vr b5]) (hb hby d2_92)
  have q10 := Nat.le_trans (Nat.le_trans Z0 E6.1) g10
  have z10 := Nat.le_trans (Nat.le_trans (Nat.le_refl h0.size) E6.1) g10
  obtain ⟨T11, h11, X11, e11, W11, V11, st11⟩ := own_stC X10 hx hZ e10 V10 (j := (0 : Int32)) (x := p1) (by decide) 0 rfl (Nat.le_of_ble_eq_true rfl) (Ls := (L_iiiii 4 p1 p2 p3 p4)) (rest := [vr b9, vr b5, vr b5]) (hb hby d2_97)
  have N11 := Fr.snoc X11 N0 q10
  obtain ⟨T12, h12, X12, e12, W12, V12, st12⟩ := own_stC X11 hx hZ e11 V11 (j := (1 : Int32)) (x := p2) (by decide) 1 rfl (Nat.le_of_ble_eq_true rfl) (Ls := (L_iiiii 4 p1 p2 p3 p4)) (rest := [vr b9, vr b5, vr b5]) (hb hby d2_101)
  have N12 := Fr.snoc X12 N11 q10
  obtain ⟨T13, h13, X13, e13, W13, V13, st13⟩ := own_stC X12 hx hZ e12 V12 (j := (2 : Int32)) (x := p3) (by decide) 2 rfl (Nat.le_of_ble_eq_true rfl) (Ls := (L_iiiii 4 p1 p2 p3 p4)) (rest := [vr b9, vr b5, vr b5]) (hb hby d2_105)
  have N13 := Fr.snoc X13 N12 q10
  obtain ⟨T14, h14, X14, e14, W14, V14, st14⟩ := own_stC X13 hx hZ e13 V13 (j := (3 : Int32)) (x := p4) (by decide) 3 rfl (Nat.le_of_ble_eq_true rfl) (Ls := (L_iiiii 4 p1 p2 p3 p4)) (rest := [vr b9, vr b5, vr b5]) (hb hby d2_110)
  have N14 := Fr.snoc X14 N13 q10
  have F16 := ((((((P2.ext E6).ext E10).wr W11 q10).wr W12 q10).wr W13 q10).wr W14 q10)
  have n17 := Nat.ne_of_lt (Nat.lt_of_lt_of_le A6.lt g10)
  have F18 := (Fld.other W14 (Fld.other W13 (Fld.other W12 (Fld.other W11 (Fld.ext E10 F8) (Or.inl n17)) (Or.inl n17)) (Or.inl n17)) (Or.inl n17))
  have F19 := (Exa.wr W14 (Exa.wr W13 (Exa.wr W12 (Exa.wr W11 (Exa.ext E10 A6)))))
  have F20 := (Fld.other W14 (Fld.other W13 (Fld.other W12 (Fld.other W11 (Fld.ext E10 F7) (Or.inl n17)) (Or.inl n17)) (Or.inl n17)) (Or.inl n17))
  have F22 := (Nat.le_trans (Nat.le_trans (Nat.le_trans (Nat.le_trans (Nat.le_trans (Nat.le_trans Z0 E6.1) E10.1) (Keep.of_wr W11).1) (Keep.of_wr W12).1) (Keep.of_wr W13).1) (Keep.of_wr W14).1)
  obtain ⟨T21, L21, _, X21, ⟨b23, kk21_0, rfl, N21q, K21, qa21_0, qb21_0, f21_0, f21_1, f21_2⟩, st21⟩ := own_callI X14 hx hZ hown (cw_15 hw) (rm3_12 hw b5 b9 k10 (nar .char p1) (nar .char p2) (nar .char p3) (nar .char p4) p15 F22 V14 P1 F16 P3 P4 P5 P6 P7 P8 P9 F18 F19 q6 F20) e14 (Ls := (L_iiiii 4 p1 p2 p3 p4)) hml b5 [vr b9] [vr b5] pd_2 1 (hb hby d2_111)
  have N21 := Fr.app N14 N21q
  have F24 := (Nat.le_trans (Nat.le_trans (Nat.le_trans (Nat.le_trans (Nat.le_trans (Nat.le_trans (Nat.le_refl h0.size) E6.1) E10.1) (Keep.of_wr W11).1) (Keep.of_wr W12).1) (Keep.of_wr W13).1) (Keep.of_wr W14).1)
  have qd21_0 := Nat.le_trans F24 qb21_0
  have F25 := (Exa.keep F19 K21)
  have K26 := (Keep.refl h0 []).ext E6
  have K27 := K26.ext E10
  have K28 := K27.wr W11 (Or.inr z10)
  have K29 := K28.wr W12 (Or.inr z10)
  have K30 := K29.wr W13 (Or.inr z10)
  have K31 := K30.wr W14 (Or.inr z10)
  have K32 := K31.trans K21 (allS (Or.inr z6) all0)
  have n33 := Nat.ne_of_lt (Nat.lt_of_lt_of_le F18.lt qb21_0)
  refine ⟨T21, _, _, _, _, some (vr b5), X21, rfl, by decide, by decide, nofun, ⟨b5, b23, kk21_0, rfl, N21, K32, q6, z6, qa21_0, qd21_0, n33, F25, f21_0, f21_1, f21_2⟩, fun fs hr => ?_⟩
  refine own_b X0 hx hby tb2 11 [true, true, true, true] 87 _ [] (ai (by decide) (ai (by decide) (ai (by decide) (ai (by decide) rfl)))) ?_
  refine st6 _ ?_
  refine own_b X6 hx hby tb2 2 [] 92 _ [vi 4, vr b5, vr b5] rfl ?_
  refine st10 _ ?_
  refine own_b X10 hx hby tb2 3 [] 97 _ [vi p1, vi 0, vr b9, vr b9, vr b5, vr b5] rfl ?_
  refine st11 _ ?_
  refine own_b X11 hx hby tb2 3 [] 101 _ [vi p2, vi 1, vr b9, vr b9, vr b5, vr b5] rfl ?_
  refine st12 _ ?_
  refine own_b X12 hx hby tb2 3 [] 105 _ [vi p3, vi 2, vr b9, vr b9, vr b5, vr b5] rfl ?_
  refine st13 _ ?_
  refine own_b X13 hx hby tb2 3 [] 110 _ [vi p4, vi 3, vr b9, vr b9, vr b5, vr b5] rfl ?_
  refine st14 _ ?_
  refine st21 _ ?_
  exact own_retA X21 hx hret rfl (hb hby d2_114) hr
theorem rm31_24 (hw : OW Z a0) (a1 : Addr) (w2 : ClassId) (p3 p4 p5 p6 p7 p8 p9 p10 : Int32) (Z0 : n0 ≤ h0.size) (P1 : ab2 Z (vi 1)) (P2 : Old Z n0 h0) (P3 : Arv Z h0 a1 w2 .byte (8 : Int32) [vi p3, vi p4, vi p5, vi p6, vi p7, vi p8, vi p9, vi p10] (vi 0)) (P4 : ab3 Z (vi 0)) (P5 : ab4 Z (vi 8)) (H1 : (nar .char (va8 p3 p4)) = (42 : Int32)) :
    M31 l Z ws (orm 1 0 0 13) #[vr a1, vi 42, vi 0, vi 4] h0 (QI n0 h0 (vi 0)) := by
  refine own_enter (plainFor_of_name pn_4) (L0 := (L_riiiu a1 42 0 4)) ?_
  intro p e s m below meth c s₁ hx hby hml hown hnm hret hZ X0 e0
  have N0 := Fr.nil n0
  obtain ⟨T11, L11, _, X11, ⟨rfl, N11q, e11q⟩, st11⟩ := own_callS X0 hx hZ hown (cw_11 hw) (rm24_7 hw a1 w2 p3 p4 p5 p6 p7 p8 p9 p10 Z0 P1 P2 P3 P4 P5) e0 (Ls := (L_riiii a1 42 0 4 0)) hml [vr a1, vi 0] [] pd_16 0 (hb hby d31_12)
  have N11 := Fr.app N0 N11q
  refine ⟨T11, _, _, _, _, some (vi 0), X11, e11q, by decide, by decide, nofun, ⟨rfl, N11, rfl⟩, fun fs hr => ?_⟩
  refine own_b X0 hx hby tb31 7 [false] 12 (L_riiii a1 42 0 4 0) [vi 0, vr a1] (ai (by decide) rfl) ?_
  refine st11 _ ?_
  refine own_b X11 hx hby tb31 3 [false] 21 _ [vi 0] (ai (teq H1).2 rfl) ?_
  exact retI X11 hx hret (hb hby d31_21) hr
theorem rm31_25 (hw : OW Z a0) (a1 : Addr) (w2 : ClassId) (p3 p4 p5 p6 p7 p8 p9 p10 : Int32) (Z0 : n0 ≤ h0.size) (P1 : ab2 Z (vi 1)) (P2 : Old Z n0 h0) (P3 : Arv Z h0 a1 w2 .byte (8 : Int32) [vi p3, vi p4, vi p5, vi p6, vi p7, vi p8, vi p9, vi p10] (vi 0)) (P4 : ab3 Z (vi 0)) (P5 : ab4 Z (vi 8)) (P6 : ¬ ((nar .char (va8 p5 p6)) = (42 : Int32))) (H1 : ¬ ((nar .char (va8 p3 p4)) = (42 : Int32))) (H2 : (nar .char (va8 p7 p8)) = (42 : Int32)) :
    M31 l Z ws (orm 1 0 0 13) #[vr a1, vi 42, vi 0, vi 4] h0 (QI n0 h0 (vi 2)) := by
  refine own_enter (plainFor_of_name pn_4) (L0 := (L_riiiu a1 42 0 4)) ?_
  intro p e s m below meth c s₁ hx hby hml hown hnm hret hZ X0 e0
  have N0 := Fr.nil n0
  obtain ⟨T11, L11, _, X11, ⟨rfl, N11q, e11q⟩, st11⟩ := own_callS X0 hx hZ hown (cw_11 hw) (rm24_7 hw a1 w2 p3 p4 p5 p6 p7 p8 p9 p10 Z0 P1 P2 P3 P4 P5) e0 (Ls := (L_riiii a1 42 0 4 0)) hml [vr a1, vi 0] [] pd_16 0 (hb hby d31_12)
  have N11 := Fr.app N0 N11q
  obtain ⟨T12, L12, _, X12, ⟨rfl, N12q, e12q⟩, st12⟩ := own_callS X11 hx hZ hown (cw_11 hw) (rm24_8 hw a1 w2 p3 p4 p5 p6 p7 p8 p9 p10 Z0 P1 P2 P3 P4 P5) e11q (Ls := (L_riiii a1 42 0 4 1)) hml [vr a1, vi 1] [] pd_16 0 (hb hby d31_12)
  have N12 := Fr.app N11 N12q
  obtain ⟨T13, L13, _, X13, ⟨rfl, N13q, e13q⟩, st13⟩ := own_callS X12 hx hZ hown (cw_11 hw) (rm24_9 hw a1 w2 p3 p4 p5 p6 p7 p8 p9 p10 Z0 P1 P2 P3 P4 P5) e12q (Ls := (L_riiii a1 42 0 4 2)) hml [vr a1, vi 2] [] pd_16 0 (hb hby d31_12)
  have N13 := Fr.app N12 N13q
  refine ⟨T13, _, _, _, _, some (vi 2), X13, e13q, by decide, by decide, nofun, ⟨rfl, N13, rfl⟩, fun fs hr => ?_⟩
  refine own_b X0 hx hby tb31 7 [false] 12 (L_riiii a1 42 0 4 0) [vi 0, vr a1] (ai (by decide) rfl) ?_
  refine st11 _ ?_
  refine own_b X11 hx hby tb31 9 [true, false] 12 (L_riiii a1 42 0 4 1) [vi 1, vr a1] (ai (feq H1).2 (ai (by decide) rfl)) ?_
  refine st12 _ ?_
  refine own_b X12 hx hby tb31 9 [true, false] 12 (L_riiii a1 42 0 4 2) [vi 2, vr a1] (ai (feq P6).2 (ai (by decide) rfl)) ?_
  refine st13 _ ?_
  refine own_b X13 hx hby tb31 3 [false] 21 _ [vi 2] (ai (teq H2).2 rfl) ?_
  exact retI X13 hx hret (hb hby d31_21) hr
theorem rm31_26 (hw : OW Z a0) (a1 : Addr) (w2 : ClassId) (p3 p4 p5 p6 p7 p8 p9 p10 : Int32) (Z0 : n0 ≤ h0.size) (P1 : ab2 Z (vi 1)) (P2 : Old Z n0 h0) (P3 : Arv Z h0 a1 w2 .byte (8 : Int32) [vi p3, vi p4, vi p5, vi p6, vi p7, vi p8, vi p9, vi p10] (vi 0)) (P4 : ab3 Z (vi 0)) (P5 : ab4 Z (vi 8)) (P6 : ¬ ((nar .char (va8 p5 p6)) = (42 : Int32))) (H1 : ¬ ((nar .char (va8 p3 p4)) = (42 : Int32))) (H2 : ¬ ((nar .char (va8 p7 p8)) = (42 : Int32))) (H3 : (nar .char (va8 p9 p10)) = (42 : Int32)) :
    M31 l Z ws (orm 1 0 0 13) #[vr a1, vi 42, vi 0, vi 4] h0 (QI n0 h0 (vi 3)) := by
  refine own_enter (plainFor_of_name pn_4) (L0 := (L_riiiu a1 42 0 4)) ?_
  intro p e s m below meth c s₁ hx hby hml hown hnm hret hZ X0 e0
  have N0 := Fr.nil n0
  obtain ⟨T11, L11, _, X11, ⟨rfl, N11q, e11q⟩, st11⟩ := own_callS X0 hx hZ hown (cw_11 hw) (rm24_7 hw a1 w2 p3 p4 p5 p6 p7 p8 p9 p10 Z0 P1 P2 P3 P4 P5) e0 (Ls := (L_riiii a1 42 0 4 0)) hml [vr a1, vi 0] [] pd_16 0 (hb hby d31_12)
  have N11 := Fr.app N0 N11q
  obtain ⟨T12, L12, _, X12, ⟨rfl, N12q, e12q⟩, st12⟩ := own_callS X11 hx hZ hown (cw_11 hw) (rm24_8 hw a1 w2 p3 p4 p5 p6 p7 p8 p9 p10 Z0 P1 P2 P3 P4 P5) e11q (Ls := (L_riiii a1 42 0 4 1)) hml [vr a1, vi 1] [] pd_16 0 (hb hby d31_12)
  have N12 := Fr.app N11 N12q
  obtain ⟨T13, L13, _, X13, ⟨rfl, N13q, e13q⟩, st13⟩ := own_callS X12 hx hZ hown (cw_11 hw) (rm24_9 hw a1 w2 p3 p4 p5 p6 p7 p8 p9 p10 Z0 P1 P2 P3 P4 P5) e12q (Ls := (L_riiii a1 42 0 4 2)) hml [vr a1, vi 2] [] pd_16 0 (hb hby d31_12)
  have N13 := Fr.app N12 N13q
  obtain ⟨T14, L14, _, X14, ⟨rfl, N14q, e14q⟩, st14⟩ := own_callS X13 hx hZ hown (cw_11 hw) (rm24_10 hw a1 w2 p3 p4 p5 p6 p7 p8 p9 p10 Z0 P1 P2 P3 P4 P5) e13q (Ls := (L_riiii a1 42 0 4 3)) hml [vr a1, vi 3] [] pd_16 0 (hb hby d31_12)
  have N14 := Fr.app N13 N14q
  refine ⟨T14, _, _, _, _, some (vi 3), X14, e14q, by decide, by decide, nofun, ⟨rfl, N14, rfl⟩, fun fs hr => ?_⟩
  refine own_b X0 hx hby tb31 7 [false] 12 (L_riiii a1 42 0 4 0) [vi 0, vr a1] (ai (by decide) rfl) ?_
  refine st11 _ ?_
  refine own_b X11 hx hby tb31 9 [true, false] 12 (L_riiii a1 42 0 4 1) [vi 1, vr a1] (ai (feq H1).2 (ai (by decide) rfl)) ?_
  refine st12 _ ?_
  refine own_b X12 hx hby tb31 9 [true, false] 12 (L_riiii a1 42 0 4 2) [vi 2, vr a1] (ai (feq P6).2 (ai (by decide) rfl)) ?_
  refine st13 _ ?_
  refine own_b X13 hx hby tb31 9 [true, false] 12 (L_riiii a1 42 0 4 3) [vi 3, vr a1] (ai (feq H2).2 (ai (by decide) rfl)) ?_
  refine st14 _ ?_
  refine own_b X14 hx hby tb31 3 [false] 21 _ [vi 3] (ai (teq H3).2 rfl) ?_
  exact retI X14 hx hret (hb hby d31_21) hr
theorem rm31_27 (hw : OW Z a0) (a1 : Addr) (w2 : ClassId) (p3 p4 p5 p6 p7 p8 p9 p10 : Int32) (Z0 : n0 ≤ h0.size) (P1 : ab2 Z (vi 1)) (P2 : Old Z n0 h0) (P3 : Arv Z h0 a1 w2 .byte (8 : Int32) [vi p3, vi p4, vi p5, vi p6, vi p7, vi p8, vi p9, vi p10] (vi 0)) (P4 : ab3 Z (vi 0)) (P5 : ab4 Z (vi 8)) (P6 : ¬ ((nar .char (va8 p5 p6)) = (42 : Int32))) (H1 : ¬ ((nar .char (va8 p3 p4)) = (42 : Int32))) (H2 : ¬ ((nar .char (va8 p7 p8)) = (42 : Int32))) (H3 : ¬ ((nar .char (va8 p9 p10)) = (42 : Int32))) :
    M31 l Z ws (orm 1 0 0 13) #[vr a1, vi 42, vi 0, vi 4] h0 (QI n0 h0 (vi (-1))) := by
  refine own_enter (plainFor_of_name pn_4) (L0 := (L_riiiu a1 42 0 4)) ?_
  intro p e s m below meth c s₁ hx hby hml hown hnm hret hZ X0 e0
  have N0 := Fr.nil n0
  obtain ⟨T11, L11, _, X11, ⟨rfl, N11q, e11q⟩, st11⟩ := own_callS X0 hx hZ hown (cw_11 hw) (rm24_7 hw a1 w2 p3 p4 p5 p6 p7 p8 p9 p10 Z0 P1 P2 P3 P4 P5) e0 (Ls := (L_riiii a1 42 0 4 0)) hml [vr a1, vi 0] [] pd_16 0 (hb hby d31_12)
  have N11 := Fr.app N0 N11q
  obtain ⟨T12, L12, _, X12, ⟨rfl, N12q, e12q⟩, st12⟩ := own_callS X11 hx hZ hown (cw_11 hw) (rm24_8 hw a1 w2 p3 p4 p5 p6 p7 p8 p9 p10 Z0 P1 P2 P3 P4 P5) e11q (Ls := (L_riiii a1 42 0 4 1)) hml [vr a1, vi 1] [] pd_16 0 (hb hby d31_12)
  have N12 := Fr.app N11 N12q
  obtain ⟨T13, L13, _, X13, ⟨rfl, N13q, e13q⟩, st13⟩ := own_callS X12 hx hZ hown (cw_11 hw) (rm24_9 hw a1 w2 p3 p4 p5 p6 p7 p8 p9 p10 Z0 P1 P2 P3 P4 P5) e12q (Ls := (L_riiii a1 42 0 4 2)) hml [vr a1, vi 2] [] pd_16 0 (hb hby d31_12)
  have N13 := Fr.app N12 N13q
  obtain ⟨T14, L14, _, X14, ⟨rfl, N14q, e14q⟩, st14⟩ := own_callS X13 hx hZ hown (cw_11 hw) (rm24_10 hw a1 w2 p3 p4 p5 p6 p7 p8 p9 p10 Z0 P1 P2 P3 P4 P5) e13q (Ls := (L_riiii a1 42 0 4 3)) hml [vr a1, vi 3] [] pd_16 0 (hb hby d31_12)
  have N14 := Fr.app N13 N14q
  refine ⟨T14, _, _, _, _, some (vi (-1)), X14, e14q, by decide, by decide, nofun, ⟨rfl, N14, rfl⟩, fun fs hr => ?_⟩
  refine own_b X0 hx hby tb31 7 [false] 12 (L_riiii a1 42 0 4 0) [vi 0, vr a1] (ai (by decide) rfl) ?_
  refine st11 _ ?_
  refine own_b X11 hx hby tb31 9 [true, false] 12 (L_riiii a1 42 0 4 1) [vi 1, vr a1] (ai (feq H1).2 (ai (by decide) rfl)) ?_
  refine st12 _ ?_
  refine own_b X12 hx hby tb31 9 [true, false] 12 (L_riiii a1 42 0 4 2) [vi 2, vr a1] (ai (feq P6).2 (ai (by decide) rfl)) ?_
  refine st13 _ ?_
  refine own_b X13 hx hby tb31 9 [true, false] 12 (L_riiii a1 42 0 4 3) [vi 3, vr a1] (ai (feq H2).2 (ai (by decide) rfl)) ?_
  refine st14 _ ?_
  refine own_b X14 hx hby tb31 8 [true, true] 29 (L_riiii a1 42 0 4 4) [vi (-1)] (ai (feq H3).2 (ai (by decide) rfl)) ?_
  exact retI X14 hx hret (hb hby d31_29) hr
theorem rm31_28 (hw : OW Z a0) (a1 : Addr) (w2 : ClassId) (p3 p4 p5 p6 p7 p8 p9 p10 : Int32) (Z0 : n0 ≤ h0.size) (P1 : ab2 Z (vi 1)) (P2 : Old Z n0 h0) (P3 : Arv Z h0 a1 w2 .byte (8 : Int32) [vi p3, vi p4, vi p5, vi p6, vi p7, vi p8, vi p9, vi p10] (vi 0)) (P4 : ab3 Z (vi 0)) (P5 : ab4 Z (vi 8)) (P6 : ¬ ((nar .char (va8 p5 p6)) = (42 : Int32))) :
    M31 l Z ws (orm 1 0 0 13) #[vr a1, vi 42, vi 0, vi 4] h0 (QI n0 h0 (vi (va41 p3 p4 p7 p8 p9 p10))) := by
  by_cases H1 : (nar .char (va8 p3 p4)) = (42 : Int32)
  ·
    rw [show (va41 p3 p4 p7 p8 p9 p10) = (0 : Int32) from by simp only [va41, if_pos H1]]
    exact rm31_24 hw a1 w2 p3 p4 p5 p6 p7 p8 p9 p10 Z0 P1 P2 P3 P4 P5 H1
  ·
    by_cases H2 : (nar .char (va8 p7 p8)) = (42 : Int32)
    ·
      rw [show (va41 p3 p4 p7 p8 p9 p10) = (2 : Int32) from by simp only [va41, if_neg H1, if_pos H2]]
      exact rm31_25 hw a1 w2 p3 p4 p5 p6 p7 p8 p9 p10 Z0 P1 P2 P3 P4 P5 P6 H1 H2
    ·
      by_cases H3 : (nar .char (va8 p9 p10)) = (42 : Int32)
      ·
        rw [show (va41 p3 p4 p7 p8 p9 p10) = (3 : Int32) from by simp only [va41, if_neg H1, if_neg H2, if_pos H3]]
        exact rm31_26 hw a1 w2 p3 p4 p5 p6 p7 p8 p9 p10 Z0 P1 P2 P3 P4 P5 P6 H1 H2 H3
      ·
        rw [show (va41 p3 p4 p7 p8 p9 p10) = (-1 : Int32) from by simp only [va41, if_neg H1, if_neg H2, if_neg H3]]
        exact rm31_27 hw a1 w2 p3 p4 p5 p6 p7 p8 p9 p10 Z0 P1 P2 P3 P4 P5 P6 H1 H2 H3
theorem rm26_8 (hw : OW Z a0) (a1 : Addr) (w2 : ClassId) (p3 p4 p5 p6 p7 p8 p9 p10 : Int32) (a11 : Value) (Z0 : n0 ≤ h0.size) (P1 : Arv Z h0 a1 w2 .byte (8 : Int32) [vi p3, vi p4, vi p5, vi p6, vi p7, vi p8, vi p9, vi p10] (vi 0)) (P2 : ab5 Z a11) (P3 : Old Z n0 h0) (P4 : a11.isRef = true) (P5 : ab2 Z (vi 1)) (P6 : ab3 Z (vi 0)) (P7 : ab4 Z (vi 8)) (P8 : ¬ ((nar .char (va8 p5 p6)) = (42 : Int32))) :
    M26 l Z ws (orm 3 0 0 43) #[vr a1, vi 42, vi 0, vi 4] h0 (QI n0 h0 (vi (va41 p3 p4 p7 p8 p9 p10))) := by
  refine own_enter (plainFor_of_name pn_4) (L0 := (L_riii a1 42 0 4)) ?_
  intro p e s m below meth c s₁ hx hby hml hown hnm hret hZ X0 e0
  have N0 := Fr.nil n0
  obtain ⟨T12, L12, _, X12, ⟨rfl, N12q, e12q⟩, st12⟩ := own_callS X0 hx hZ hown (cw_22 hw) (rm27_4 hw a1 w2 p3 p4 p5 p6 p7 p8 p9 p10 a11 Z0 P1 P2 P3 P4) e0 (Ls := (L_riii a1 42 0 4)) hml [vi 0, vi 4, vr a1] [] pd_21 0 (hb hby d26_3)
  have N12 := Fr.app N0 N12q
  obtain ⟨T13, L13, _, X13, ⟨rfl, N13q, e13q⟩, st13⟩ := own_callS X12 hx hZ hown (cw_23 hw) (rm31_28 hw a1 w2 p3 p4 p5 p6 p7 p8 p9 p10 Z0 P5 P3 P1 P6 P7 P8) e12q (Ls := (L_riii a1 42 0 4)) hml [vr a1, vi 42, vi 0, vi 4] [] pd_9 0 (hb hby d26_10)
  have N13 := Fr.app N12 N13q
  refine ⟨T13, _, _, _, _, some (vi (va41 p3 p4 p7 p8 p9 p10)), X13, e13q, by decide, by decide, nofun, ⟨rfl, N13, rfl⟩, fun fs hr => ?_⟩
  refine own_b X0 hx hby tb26 3 [] 3 _ [vr a1, vi 4, vi 0] rfl ?_
  refine st12 _ ?_
  refine own_b X12 hx hby tb26 4 [] 10 _ [vi 4, vi 0, vi 42, vr a1] rfl ?_
  refine st13 _ ?_
  exact retI X13 hx hret (hb hby d26_13) hr
theorem rm25_8 (hw : OW Z a0) (a1 : Addr) (w3 : ClassId) (p4 p5 p6 p7 p8 p9 p10 p11 : Int32) (a13 : Value) (Z0 : n0 ≤ h0.size) (P1 : Arv Z h0 a1 w3 .byte (8 : Int32) [vi p4, vi p5, vi p6, vi p7, vi p8, vi p9, vi p10, vi p11] (vi 0)) (P2 : ab5 Z a13) (P3 : Old Z n0 h0) (P4 : a13.isRef = true) (P5 : ab2 Z (vi 1)) (P6 : ab3 Z (vi 0)) (P7 : ab4 Z (vi 8)) (P8 : ¬ ((nar .char (va8 p6 p7)) = (42 : Int32))) :
    M25 l Z ws (orm 4 0 0 58) #[vr a1, vi 42, vi 0, vi 4] h0 (QI n0 h0 (vi (va41 p4 p5 p8 p9 p10 p11))) := by
  refine own_enter (plainFor_of_name pn_4) (L0 := (L_riii a1 42 0 4)) ?_
  intro p e s m below meth c s₁ hx hby hml hown hnm hret hZ X0 e0
  have N0 := Fr.nil n0
  obtain ⟨T2, L2, _, X2, ⟨rfl, N2q, e2q⟩, st2⟩ := own_callS X0 hx hZ hown (cw_17 hw) (rm14_1 hw  Z0 ) e0 (Ls := (L_riii a1 42 0 4)) hml [vi 0, vi 0] [] pd_8 0 (hb hby d25_2)
  have N2 := Fr.app N0 N2q
  obtain ⟨T12, L12, _, X12, ⟨rfl, N12q, e12q⟩, st12⟩ := own_callS X2 hx hZ hown (cw_18 hw) (rm15_5 hw  Z0 ) e2q (Ls := (L_riii a1 42 0 4)) hml [vi 4, vi 4] [] pd_8 0 (hb hby d25_11)
  have N12 := Fr.app N2 N12q
  obtain ⟨T14, L14, _, X14, ⟨rfl, N14q, e14q⟩, st14⟩ := own_callS X12 hx hZ hown (cw_24 hw) (rm26_8 hw a1 w3 p4 p5 p6 p7 p8 p9 p10 p11 a13 Z0 P1 P2 P3 P4 P5 P6 P7 P8) e12q (Ls := (L_riii a1 42 0 4)) hml [vr a1, vi 42, vi 0, vi 4] [] pd_9 0 (hb hby d25_32)
  have N14 := Fr.app N12 N14q
  refine ⟨T14, _, _, _, _, some (vi (va41 p4 p5 p8 p9 p10 p11)), X14, e14q, by decide, by decide, nofun, ⟨rfl, N14, rfl⟩, fun fs hr => ?_⟩
  refine own_b X0 hx hby tb25 2 [] 2 _ [vi 0, vi 0] rfl ?_
  refine st2 _ ?_
  refine own_a X2 hx hZ e2q hby tb25 (aec P1 aen) 6 [] [0] 11 (L_riii a1 42 0 4) [vi 4, vi 4] (ai rfl rfl) ?_
  refine st12 _ ?_
  refine own_b X12 hx hby tb25 5 [true] 23 (L_riii a1 42 0 4) [vi 42] (ai (by decide) rfl) ?_
  refine X12.ldcInt hx hown (mvT hZ (tw_112 hw)) (g := (mkF m 23 (L_riii a1 42 0 4) [vi 42])) rfl (hb hby d25_23) _ ?_
  show OS p e below T12 m 25 (L_riii a1 42 0 4) [vi 65536, vi 42] _
  refine own_b X12 hx hby tb25 5 [false] 32 _ [vi 4, vi 0, vi 42, vr a1] (ai (by decide) rfl) ?_
  refine st14 _ ?_
  exact retI X14 hx hret (hb hby d25_35) hr
theorem rm8_12 (hw : OW Z a0) (a1 : Addr) (p2 : Int32) (a4 : Addr) (w6 : ClassId) (p7 p8 p9 p10 p11 p12 p13 p14 : Int32) (a16 : Value) (Z0 : n0 ≤ h0.size) (P1 : ab8 Z h0 a1) (P2 : ab1 Z (vi p2)) (P3 : Old Z n0 h0) (P4 : ¬ (p2 = (0 : Int32))) (P5 : ab6 Z h0 a1 (vi 1)) (P6 : ab7 Z h0 a1 (vr a4)) (P7 : Arv Z h0 a4 w6 .byte (8 : Int32) [vi p7, vi p8, vi p9, vi p10, vi p11, vi p12, vi p13, vi p14] (vi 0)) (P8 : ab5 Z a16) (P9 : a16.isRef = true) (P10 : ab2 Z (vi 1)) (P11 : ab3 Z (vi 0)) (P12 : ab4 Z (vi 8)) (P13 : ¬ ((nar .char (va8 p9 p10)) = (42 : Int32))) :
    M8 l Z ws (orm 5 0 0 73) #[vr a1, vi 42, vi 0] h0 (QI n0 h0 (vi (va41 p7 p8 p11 p12 p13 p14))) := by
  refine own_enter (plainFor_of_name pn_1) (L0 := (L_rii a1 42 0)) ?_
  intro p e s m below meth c s₁ hx hby hml hown hnm hret hZ X0 e0
  have N0 := Fr.nil n0
  obtain ⟨T3, L3, _, X3, ⟨rfl, N3q, e3q⟩, st3⟩ := own_callV X0 hx hZ hown (tw_44 hw) (tw_45 hw) (notFace_of_selects (args := #[]) (mvT hZ (tw_47 hw))) (tw_47 hw) (tw_46 hw) (tw_10 hw) (tw_48 hw) (rm9_2 hw a1 p2 Z0 P2 P3 P4 P5) e0 P1 (Ls := (L_rii a1 42 0)) hml [] [] pd_4 0 (hb hby d8_1)
  have N3 := Fr.app N0 N3q
  obtain ⟨T5, X5, e5, st5⟩ := getF X3 hx hZ hown (host := "") (Or.inl (tw_28 hw)) Via.refl e3q P6 (g := (mkF m 24 (L_rii a1 42 0) [vr a1])) rfl rfl (hb hby d8_24)
  obtain ⟨T15, L15, _, X15, ⟨rfl, N15q, e15q⟩, st15⟩ := own_callV X5 hx hZ hown (tw_50 hw) (tw_51 hw) (notFace_of_selects (args := #[]) (mvT hZ (tw_53 hw))) (tw_53 hw) (tw_52 hw) (tw_10 hw) (tw_54 hw) (rm10_8 hw a1 a4 w6 p7 p8 p9 p10 p11 p12 p13 p14 p2 Z0 P6 P7 P1 P2 P3 P4 P5) e5 P1 (Ls := (L_rii a1 42 0)) hml [] [vi 0, vi 42, vr a4] pd_6 3 (hb hby d8_30)
  have N15 := Fr.app N3 N15q
  obtain ⟨T17, L17, _, X17, ⟨rfl, N17q, e17q⟩, st17⟩ := own_callS X15 hx hZ hown (cw_25 hw) (rm25_8 hw a4 w6 p7 p8 p9 p10 p11 p12 p13 p14 a16 Z0 P7 P8 P3 P9 P10 P11 P12 P13) e15q (Ls := (L_rii a1 42 0)) hml [vr a4, vi 42, vi 0, vi 4] [] pd_9 0 (hb hby d8_33)
  have N17 := Fr.app N15 N17q
  refine ⟨T17, _, _, _, _, some (vi (va41 p7 p8 p11 p12 p13 p14)), X17, e17q, by decide, by decide, nofun, ⟨rfl, N17, rfl⟩, fun fs hr => ?_⟩
  refine own_b X0 hx hby tb8 1 [] 1 _ [vr a1] rfl ?_
  refine st3 _ ?_
  refine own_b X3 hx hby tb8 2 [true] 24 _ [vr a1] (ai (by decide) rfl) ?_
  refine st5 _ ?_
  refine own_b X5 hx hby tb8 3 [] 30 _ [vr a1, vi 0, vi 42, vr a4] rfl ?_
  refine st15 _ ?_
  refine st17 _ ?_
  exact retI X17 hx hret (hb hby d8_36) hr
theorem rm7_12 (hw : OW Z a0) (a1 : Addr) (p2 : Int32) (a3 : Addr) (w4 : ClassId) (p5 p6 p7 p8 p9 p10 p11 p12 : Int32) (a13 : Value) (Z0 : n0 ≤ h0.size) (P1 : ab8 Z h0 a1) (P2 : ab1 Z (vi p2)) (P3 : Old Z n0 h0) (P4 : ¬ (p2 = (0 : Int32))) (P5 : ab6 Z h0 a1 (vi 1)) (P6 : ab7 Z h0 a1 (vr a3)) (P7 : Arv Z h0 a3 w4 .byte (8 : Int32) [vi p5, vi p6, vi p7, vi p8, vi p9, vi p10, vi p11, vi p12] (vi 0)) (P8 : ab5 Z a13) (P9 : a13.isRef = true) (P10 : ab2 Z (vi 1)) (P11 : ab3 Z (vi 0)) (P12 : ab4 Z (vi 8)) (P13 : ¬ ((nar .char (va8 p7 p8)) = (42 : Int32))) :
    M7 l Z ws (orm 6 0 0 87) #[vr a1, vi 42] h0 (QI n0 h0 (vi (va41 p5 p6 p9 p10 p11 p12))) := by
  refine own_enter (plainFor_of_name pn_1) (L0 := (L_ri a1 42)) ?_
  intro p e s m below meth c s₁ hx hby hml hown hnm hret hZ X0 e0
  have N0 := Fr.nil n0
  obtain ⟨T14, L14, _, X14, ⟨rfl, N14q, e14q⟩, st14⟩ := own_callV X0 hx hZ hown (tw_39 hw) (tw_40 hw) (notFace_of_selects (args := #[]) (mvT hZ (tw_42 hw))) (tw_42 hw) (tw_41 hw) (tw_10 hw) (tw_43 hw) (rm8_12 hw a1 p2 a3 w4 p5 p6 p7 p8 p9 p10 p11 p12 a13 Z0 P1 P2 P3 P4 P5 P6 P7 P8 P9 P10 P11 P12 P13) e0 P1 (Ls := (L_ri a1 42)) hml [vi 42, vi 0] [] pd_8 0 (hb hby d7_3)
  have N14 := Fr.app N0 N14q
  refine ⟨T14, _, _, _, _, some (vi (va41 p5 p6 p9 p10 p11 p12)), X14, e14q, by decide, by decide, nofun, ⟨rfl, N14, rfl⟩, fun fs hr => ?_⟩
  refine own_b X0 hx hby tb7 3 [] 3 _ [vi 0, vi 42, vr a1] rfl ?_
  refine st14 _ ?_
  exact retI X14 hx hret (hb hby d7_6) hr
theorem rm6_30 (hw : OW Z a0) (a1 : Addr) (p2 : Int32) (a3 : Addr) (w4 : ClassId) (p5 p6 p7 p8 p9 p10 p11 p12 : Int32) (a13 : Value) (Z0 : n0 ≤ h0.size) (P1 : ab8 Z h0 a1) (P2 : ab1 Z (vi p2)) (P3 : Old Z n0 h0) (P4 : ¬ (p2 = (0 : Int32))) (P5 : ab6 Z h0 a1 (vi 1)) (P6 : ab7 Z h0 a1 (vr a3)) (P7 : Arv Z h0 a3 w4 .byte (8 : Int32) [vi p5, vi p6, vi p7, vi p8, vi p9, vi p10, vi p11, vi p12] (vi 0)) (P8 : ab5 Z a13) (P9 : a13.isRef = true) (P10 : ab2 Z (vi 1)) (P11 : ab3 Z (vi 0)) (P12 : ab4 Z (vi 8)) (P13 : ¬ ((nar .char (va8 p7 p8)) = (42 : Int32))) (H1 : (va41 p5 p6 p9 p10 p11 p12) < (0 : Int32)) :
    M6 l Z ws (orm 7 0 0 100) #[vr a1] h0 (QI n0 h0 (vi 0)) := by
  refine own_enter (plainFor_of_name pn_3) (L0 := #[sr a1]) ?_
  intro p e s m below meth c s₁ hx hby hml hown hnm hret hZ X0 e0
  have N0 := Fr.nil n0
  obtain ⟨T14, L14, _, X14, ⟨rfl, N14q, e14q⟩, st14⟩ := own_callV X0 hx hZ hown (tw_34 hw) (tw_35 hw) (notFace_of_selects (args := #[]) (mvT hZ (tw_37 hw))) (tw_37 hw) (tw_36 hw) (tw_10 hw) (tw_38 hw) (rm7_12 hw a1 p2 a3 w4 p5 p6 p7 p8 p9 p10 p11 p12 a13 Z0 P1 P2 P3 P4 P5 P6 P7 P8 P9 P10 P11 P12 P13) e0 P1 (Ls := #[sr a1]) hml [vi 42] [] pd_10 0 (hb hby d6_3)
  have N14 := Fr.app N0 N14q
  refine ⟨T14, _, _, _, _, some (vi 0), X14, e14q, by decide, by decide, nofun, ⟨rfl, N14, rfl⟩, fun fs hr => ?_⟩
  refine own_b X0 hx hby tb6 2 [] 3 _ [vi 42, vr a1] rfl ?_
  refine st14 _ ?_
  refine own_b X14 hx hby tb6 2 [true] 14 _ [vi 0] (ai (tlt H1).1 rfl) ?_
  exact retN X14 hx (t := .boolean) hret (by simp) (hb hby d6_14) hr
theorem rm6_31 (hw : OW Z a0) (a1 : Addr) (p2 : Int32) (a3 : Addr) (w4 : ClassId) (p5 p6 p7 p8 p9 p10 p11 p12 : Int32) (a13 : Value) (Z0 : n0 ≤ h0.size) (P1 : ab8 Z h0 a1) (P2 : ab1 Z (vi p2)) (P3 : Old Z n0 h0) (P4 : ¬ (p2 = (0 : Int32))) (P5 : ab6 Z h0 a1 (vi 1)) (P6 : ab7 Z h0 a1 (vr a3)) (P7 : Arv Z h0 a3 w4 .byte (8 : Int32) [vi p5, vi p6, vi p7, vi p8, vi p9, vi p10, vi p11, vi p12] (vi 0)) (P8 : ab5 Z a13) (P9 : a13.isRef = true) (P10 : ab2 Z (vi 1)) (P11 : ab3 Z (vi 0)) (P12 : ab4 Z (vi 8)) (P13 : ¬ ((nar .char (va8 p7 p8)) = (42 : Int32))) (H1 : ¬ ((va41 p5 p6 p9 p10 p11 p12) < (0 : Int32))) :
    M6 l Z ws (orm 7 0 0 100) #[vr a1] h0 (QI n0 h0 (vi 1)) := by
  refine own_enter (plainFor_of_name pn_3) (L0 := #[sr a1]) ?_
  intro p e s m below meth c s₁ hx hby hml hown hnm hret hZ X0 e0
  have N0 := Fr.nil n0
  obtain ⟨T14, L14, _, X14, ⟨rfl, N14q, e14q⟩, st14⟩ := own_callV X0 hx hZ hown (tw_34 hw) (tw_35 hw) (notFace_of_selects (args := #[]) (mvT hZ (tw_37 hw))) (tw_37 hw) (tw_36 hw) (tw_10 hw) (tw_38 hw) (rm7_12 hw a1 p2 a3 w4 p5 p6 p7 p8 p9 p10 p11 p12 a13 Z0 P1 P2 P3 P4 P5 P6 P7 P8 P9 P10 P11 P12 P13) e0 P1 (Ls := #[sr a1]) hml [vi 42] [] pd_10 0 (hb hby d6_3)
  have N14 := Fr.app N0 N14q
  refine ⟨T14, _, _, _, _, some (vi 1), X14, e14q, by decide, by decide, nofun, ⟨rfl, N14, rfl⟩, fun fs hr => ?_⟩
  refine own_b X0 hx hby tb6 2 [] 3 _ [vi 42, vr a1] rfl ?_
  refine st14 _ ?_
  refine own_b X14 hx hby tb6 3 [false] 14 _ [vi 1] (ai (flt H1).1 rfl) ?_
  exact retN X14 hx (t := .boolean) hret (by simp) (hb hby d6_14) hr
theorem rm6_32 (hw : OW Z a0) (a1 : Addr) (p2 : Int32) (a3 : Addr) (w4 : ClassId) (p5 p6 p7 p8 p9 p10 p11 p12 : Int32) (a13 : Value) (Z0 : n0 ≤ h0.size) (P1 : ab8 Z h0 a1) (P2 : ab1 Z (vi p2)) (P3 : Old Z n0 h0) (P4 : ¬ (p2 = (0 : Int32))) (P5 : ab6 Z h0 a1 (vi 1)) (P6 : ab7 Z h0 a1 (vr a3)) (P7 : Arv Z h0 a3 w4 .byte (8 : Int32) [vi p5, vi p6, vi p7, vi p8, vi p9, vi p10, vi p11, vi p12] (vi 0)) (P8 : ab5 Z a13) (P9 : a13.isRef = true) (P10 : ab2 Z (vi 1)) (P11 : ab3 Z (vi 0)) (P12 : ab4 Z (vi 8)) (P13 : ¬ ((nar .char (va8 p7 p8)) = (42 : Int32))) :
    M6 l Z ws (orm 7 0 0 100) #[vr a1] h0 (QI n0 h0 (vi (va42 p5 p6 p9 p10 p11 p12))) := by
  by_cases H1 : (va41 p5 p6 p9 p10 p11 p12) < (0 : Int32)
  ·
    rw [show (va42 p5 p6 p9 p10 p11 p12) = (0 : Int32) from by simp only [va42, if_pos H1]]
    exact rm6_30 hw a1 p2 a3 w4 p5 p6 p7 p8 p9 p10 p11 p12 a13 Z0 P1 P2 P3 P4 P5 P6 P7 P8 P9 P10 P11 P12 P13 H1
  ·
    rw [show (va42 p5 p6 p9 p10 p11 p12) = (1 : Int32) from by simp only [va42, if_neg H1]]
    exact rm6_31 hw a1 p2 a3 w4 p5 p6 p7 p8 p9 p10 p11 p12 a13 Z0 P1 P2 P3 P4 P5 P6 P7 P8 P9 P10 P11 P12 P13 H1
theorem rm17_12 (hw : OW Z a0) (a1 a2 : Addr) (w3 : ClassId) (p4 p5 p6 p7 : Int32) (w8 : ClassId) (Z0 : n0 ≤ h0.size) (P1 : Arv Z h0 a1 w3 .char (4 : Int32) [vi p4, vi p5, vi p6, vi p7] (vi 0)) (P2 : ¬ ((255 : Int32) < p4)) (P3 : Arv Z h0 a2 w8 .byte (4 : Int32) [vi 0, vi 0, vi 0, vi 0] (vi 0)) (P4 : n0 ≤ a2) (P5 : a1 ≠ a2) (P6 : ¬ ((255 : Int32) < p5)) (P7 : (255 : Int32) < p6) :
    M17 l Z ws (orm 0 0 0 0) #[vr a1, vi 0, vr a2, vi 0, vi 4] h0 (fun v h L => v = some (vi 2) ∧ Fr n0 L ∧ Keep h0 h [a2] ∧ Arv Z h a2 w8 .byte (4 : Int32) [vi ((p4.toInt8.toInt32).toInt8.toInt32), vi ((p5.toInt8.toInt32).toInt8.toInt32), vi 0, vi 0] (vi 0)) := by
  refine own_enter (plainFor_of_name pn_4) (L0 := (L_ririiuu a1 0 a2 0 4)) ?_
  intro p e s m below meth c s₁ hx hby hml hown hnm hret hZ X0 e0
  have N0 := Fr.nil n0
  obtain ⟨T9, h9, X9, e9, W9, V9, st9⟩ := own_stB X0 hx hZ e0 P3 (j := (0 : Int32)) (x := (p4.toInt8.toInt32)) (by decide) 0 rfl (Nat.le_of_ble_eq_true rfl) (Ls := (L_ririiii a1 0 a2 0 4 0 p4)) (rest := []) (hb hby d17_31)
  have N9 := Fr.snoc X9 N0 P4
  have F10 := (Arv.other P1 W9 P5)
  obtain ⟨T11, h11, X11, e11, W11, V11, st11⟩ := own_stB X9 hx hZ e9 V9 (j := (1 : Int32)) (x := (p5.toInt8.toInt32)) (by decide) 1 rfl (Nat.le_of_ble_eq_true rfl) (Ls := (L_ririiii a1 1 a2 1 4 1 p5)) (rest := []) (hb hby d17_31)
  have N11 := Fr.snoc X11 N9 P4
  have F12 := (Arv.other F10 W11 P5)
  have K13 := (Keep.refl h0 [a2]).wr W9 (Or.inl (List.mem_of_getElem? (i := 0) rfl))
  have K14 := K13.wr W11 (Or.inl (List.mem_of_getElem? (i := 0) rfl))
  refine ⟨T11, _, _, _, _, some (vi 2), X11, e11, by decide, by decide, nofun, ⟨rfl, N11, K14, V11⟩, fun fs hr => ?_⟩
  refine own_a X0 hx hZ e0 hby tb17 (aec P1 aen) 16 [false, true] [0] 31 (L_ririiii a1 0 a2 0 4 0 p4) [vi (p4.toInt8.toInt32), vi 0, vr a2] (ai (by decide) (ai rfl (ai (flt P2).2.2.2 rfl))) ?_
  refine st9 _ ?_
  refine own_a X9 hx hZ e9 hby tb17 (aec F10 aen) 18 [false, true] [0] 31 (L_ririiii a1 1 a2 1 4 1 p5) [vi (p5.toInt8.toInt32), vi 1, vr a2] (ai (by decide) (ai rfl (ai (flt P6).2.2.2 rfl))) ?_
  refine st11 _ ?_
  refine own_a X11 hx hZ e11 hby tb17 (aec F12 aen) 15 [false, false] [0] 25 (L_ririiii a1 2 a2 2 4 2 p6) [vi 2] (ai (by decide) (ai rfl (ai (tlt P7).2.2.2 rfl))) ?_
  exact retI X11 hx hret (hb hby d17_25) hr
theorem rm16_12 (hw : OW Z a0) (a1 : Addr) (w4 : ClassId) (p5 p6 p7 p8 : Int32) (Z0 : n0 ≤ h0.size) (P1 : Arv Z h0 a1 w4 .char (4 : Int32) [vi p5, vi p6, vi p7, vi p8] (vi 0)) (P2 : ¬ ((255 : Int32) < p5)) (P3 : ¬ ((255 : Int32) < p6)) (P4 : (255 : Int32) < p7) (P5 : ab2 Z (vi 1)) (P6 : Old Z n0 h0) (P7 : ab3 Z (vi 0)) (P8 : ab4 Z (vi 8)) (P9 : (255 : Int32) < (nar .char (va8 ((va4 p7).toInt8.toInt32) ((va5 p7).toInt8.toInt32)))) :
    M16 l Z ws (orm 3 2 12 40) #[vr a1, vi 0, vi 4] h0 (fun v h L => ∃ b15 : Addr, ∃ kk14_0 : ClassId, v = some (vr b15) ∧ Fr n0 L ∧ Keep h0 h [] ∧ n0 ≤ b15 ∧ h0.size ≤ b15 ∧ Arv Z h b15 kk14_0 .byte (8 : Int32) [vi ((va4 p5).toInt8.toInt32), vi ((va5 p5).toInt8.toInt32), vi ((va4 p6).toInt8.toInt32), vi ((va5 p6).toInt8.toInt32), vi ((va4 p7).toInt8.toInt32), vi ((va5 p7).toInt8.toInt32), vi ((va4 p8).toInt8.toInt32), vi ((va5 p8).toInt8.toInt32)] (vi 0)) := by
  refine own_enter (plainFor_of_name pn_4) (L0 := (L_riiuuu a1 0 4)) ?_
  intro p e s m below meth c s₁ hx hby hml hown hnm hret hZ X0 e0
  have N0 := Fr.nil n0
  obtain ⟨T3, h3, b2, k3, X3, e3, E3, g3, V3, st3⟩ := own_newP X0 hx hZ (tw_23 hw) e0 (n := (4 : Int32)) (k := 4) (d := (vi 0)) (vs := [vi 0, vi 0, vi 0, vi 0]) (Ls := (L_riiuuu a1 0 4)) (S := []) (hb hby d16_1)
  have q3 := Nat.le_trans Z0 g3
  have z3 := Nat.le_trans (Nat.le_refl h0.size) g3
  have F9 := (P1.ext E3)
  have n10 := Nat.ne_of_lt (Nat.lt_of_lt_of_le P1.lt g3)
  obtain ⟨T11, L11, _, X11, ⟨rfl, N11q, K11, f11_0⟩, st11⟩ := own_callS X3 hx hZ hown (cw_6 hw) (rm17_12 hw a1 b2 w4 p5 p6 p7 p8 k3 (Nat.le_trans Z0 E3.1) F9 P2 V3 q3 n10 P3 P4) e3 (Ls := (L_riiruu a1 0 4 b2)) hml [vr a1, vi 0, vr b2, vi 0, vi 4] [] pd_12 0 (hb hby d16_9)
  have N11 := Fr.app N0 N11q
  have F12 := (Arv.keep F9 K11 (ninS n10 nin0))
  have F13 := ((P6.ext E3).keep K11 (allS q3 all0))
  obtain ⟨T14, L14, _, X14, ⟨b15, kk14_0, rfl, N14q, K14, qa14_0, qb14_0, f14_0⟩, st14⟩ := own_callS X11 hx hZ hown (cw_10 hw) (rm20_4 hw a1 w4 p5 p6 p7 p8 (Nat.le_trans (Nat.le_trans Z0 E3.1) K11.1) F12 P5 F13 P7 P8) rfl (Ls := (L_riiriu a1 0 4 b2 2)) hml [vr a1, vi 0, vi 4] [] pd_15 0 (hb hby d16_23)
  have N14 := Fr.app N11 N14q
  have F16 := (Nat.le_trans (Nat.le_trans (Nat.le_refl h0.size) E3.1) K11.1)
  have qd14_0 := Nat.le_trans F16 qb14_0
  have F17 := (F13.keep K14 all0)
  have F19 := (Nat.le_trans (Nat.le_trans (Nat.le_trans Z0 E3.1) K11.1) K14.1)
  obtain ⟨T18, L18, _, X18, ⟨rfl, N18q, e18q⟩, st18⟩ := own_callS X14 hx hZ hown (cw_11 hw) (rm24_9 hw b15 kk14_0 ((va4 p5).toInt8.toInt32) ((va5 p5).toInt8.toInt32) ((va4 p6).toInt8.toInt32) ((va5 p6).toInt8.toInt32) ((va4 p7).toInt8.toInt32) ((va5 p7).toInt8.toInt32) ((va4 p8).toInt8.toInt32) ((va5 p8).toInt8.toInt32) F19 P5 F17 f14_0 P7 P8) rfl (Ls := (L_riirir a1 0 4 b2 2 b15)) hml [vr b15, vi 2] [] pd_16 0 (hb hby d16_32)
  have N18 := Fr.app N14 N18q
  have K20 := (Keep.refl h0 []).ext E3
  have K21 := K20.trans K11 (allS (Or.inr z3) all0)
  have K22 := K21.trans K14 all0
  refine ⟨T18, _, _, _, _, some (vr b15), X18, e18q, by decide, by decide, nofun, ⟨b15, kk14_0, rfl, N18, K22, qa14_0, qd14_0, f14_0⟩, fun fs hr => ?_⟩
  refine own_b X0 hx hby tb16 1 [] 1 _ [vi 4] rfl ?_
  refine st3 _ ?_
  refine own_b X3 hx hby tb16 6 [] 9 (L_riiruu a1 0 4 b2) [vi 4, vi 0, vr b2, vi 0, vr a1] rfl ?_
  refine st11 _ ?_
  refine own_b X11 hx hby tb16 7 [false] 23 (L_riiriu a1 0 4 b2 2) [vi 4, vi 0, vr a1] (ai (by decide) rfl) ?_
  refine st14 _ ?_
  refine own_b X14 hx hby tb16 3 [] 32 (L_riirir a1 0 4 b2 2 b15) [vi 2, vr b15] rfl ?_
  refine st18 _ ?_
  refine own_b X18 hx hby tb16 3 [true] 56 _ [vr b15] (ai (tlt P9).2.2.1 rfl) ?_
  exact own_retA X18 hx hret rfl (hb hby d16_56) hr
theorem rm4_13 (hw : OW Z a0) (a1 a2 : Addr) (p4 : Int32) (w6 : ClassId) (p7 p8 p9 p10 : Int32) (Z0 : n0 ≤ h0.size) (P1 : ab1 Z (vi p4)) (P2 : Old Z n0 h0) (P3 : ¬ (p4 = (0 : Int32))) (P4 : Arv Z h0 a2 w6 .char (4 : Int32) [vi p7, vi p8, vi p9, vi p10] (vi 0)) (P5 : ¬ ((255 : Int32) < p7)) (P6 : ¬ ((255 : Int32) < p8)) (P7 : (255 : Int32) < p9) (P8 : ab2 Z (vi 1)) (P9 : ab3 Z (vi 0)) (P10 : ab4 Z (vi 8)) (P11 : (255 : Int32) < (nar .char (va8 ((va4 p9).toInt8.toInt32) ((va5 p9).toInt8.toInt32)))) (P12 : ab6 Z h0 a1 (vi 0)) (P13 : ab8 Z h0 a1) (P14 : n0 ≤ a1) (P15 : ab7 Z h0 a1 .null) :
    M4 l Z ws (orm 4 2 12 57) #[vr a1, vr a2, vi 0, vi 4, .null] h0 (fun v h L => ∃ b12 : Addr, ∃ kk11_0 : ClassId, v = none ∧ Fr n0 L ∧ Keep h0 h [a1] ∧ n0 ≤ b12 ∧ h0.size ≤ b12 ∧ ab6 Z h a1 (vi 1) ∧ ab7 Z h a1 (vr b12) ∧ Arv Z h b12 kk11_0 .byte (8 : Int32) [vi ((va4 p7).toInt8.toInt32), vi ((va5 p7).toInt8.toInt32), vi ((va4 p8).toInt8.toInt32), vi ((va5 p8).toInt8.toInt32), vi ((va4 p9).toInt8.toInt32), vi ((va5 p9).toInt8.toInt32), vi ((va4 p10).toInt8.toInt32), vi ((va5 p10).toInt8.toInt32)] (vi 0)) := by
  refine own_enter (plainFor_of_name pn_1) (L0 := (L_rriinu a1 a2 0 4)) ?_
  intro p e s m below meth c s₁ hx hby hml hown hnm hret hZ X0 e0
  have N0 := Fr.nil n0
  obtain ⟨T3, X3, e3, st3⟩ := initO X0 hx hZ hown (tw_19 hw) (tw_20 hw) (tw_21 hw) e0 (g := (mkF m 1 (L_rriinu a1 a2 0 4) [vr a1])) rfl (by rw [hml]; rfl) rfl (hb hby d4_1) (by decide) (W := 0) (by show 2 * 0 + _ ≤ _; exact Nat.le_of_eq rfl) (by decide)
  obtain ⟨T5, X5, e5, st5⟩ := getS2 X3 hx hZ hown (host := "") (Or.inl (tw_49 hw)) Via.refl e3 (Sta.ext P2.2 P1) (g := (mkF m 27 (L_rriinu a1 a2 0 4) [])) rfl (hb hby d4_27)
  obtain ⟨T11, L11, _, X11, ⟨b12, kk11_0, rfl, N11q, K11, qa11_0, qb11_0, f11_0⟩, st11⟩ := own_callS X5 hx hZ hown (cw_12 hw) (rm16_12 hw a2 w6 p7 p8 p9 p10 Z0 P4 P5 P6 P7 P8 P2 P9 P10 P11) e5 (Ls := (L_rriinu a1 a2 0 4)) hml [vr a2, vi 0, vi 4] [] pd_15 0 (hb hby d4_36)
  have N11 := Fr.app N0 N11q
  have qd11_0 := Nat.le_trans (Nat.le_refl h0.size) qb11_0
  obtain ⟨T13, L13, _, X13, ⟨rfl, N13q, e13q⟩, st13⟩ := own_callS X11 hx hZ hown (cw_13 hw) (rm18_7 hw b12 kk11_0 ((va4 p7).toInt8.toInt32) ((va5 p7).toInt8.toInt32) ((va4 p8).toInt8.toInt32) ((va5 p8).toInt8.toInt32) ((va4 p9).toInt8.toInt32) ((va5 p9).toInt8.toInt32) ((va4 p10).toInt8.toInt32) ((va5 p10).toInt8.toInt32) (Nat.le_trans Z0 K11.1) f11_0) rfl (Ls := (L_rriinr a1 a2 0 4 b12)) hml [vr b12, vi 4] [vr a1] pd_17 1 (hb hby d4_45)
  have N13 := Fr.app N11 N13q
  have F14 := (Fld.keep P12 K11 nin0)
  have F15 := (Exa.keep P13 K11)
  obtain ⟨T16, h16, X16, e16, W16, st16⟩ := putF X13 hx hZ hown (host := "") (Or.inl (tw_29 hw)) Via.refl e13q F14 F15 (Or.inr ⟨(tw_25 hw), rfl, hnm⟩) (tw_9 hw) (ty := .byte) (by decide) rfl rfl (g := (mkF m 48 (L_rriinr a1 a2 0 4 b12) [vi 1, vr a1])) rfl rfl (hb hby d4_48)
  have N16 := Fr.snoc X16 N13 P14
  have Fw16 := Fld.same W16 F14
  have F17 := (Fld.other W16 (Fld.keep P15 K11 nin0) (Or.inr (slot_ne (Or.inr (tw_24 hw)) (Or.inr (tw_25 hw)) (by decide) (t := (.array .byte)) (t' := .byte) (by decide) (by decide))))
  have F18 := (Exa.wr W16 F15)
  obtain ⟨T19, h19, X19, e19, W19, st19⟩ := putF X16 hx hZ hown (host := "") (Or.inl (tw_28 hw)) Via.refl e16 F17 F18 (Or.inr ⟨(tw_24 hw), rfl, hnm⟩) (tw_9 hw) (ty := (.array .byte)) (by decide) rfl rfl (g := (mkF m 54 (L_rriinr a1 a2 0 4 b12) [vr b12, vr a1])) rfl rfl (hb hby d4_54)
  have N19 := Fr.snoc X19 N16 P14
  have Fw19 := Fld.same W19 F17
  have F20 := (Fld.other W19 Fw16 (Or.inr (slot_ne (Or.inr (tw_25 hw)) (Or.inr (tw_24 hw)) (by decide) (t := .byte) (t' := (.array .byte)) (by decide) (by decide))))
  have n21 := Nat.ne_of_lt (Nat.lt_of_lt_of_le P12.lt qb11_0)
  have F22 := (Arv.other (Arv.other f11_0 W16 (Ne.symm n21)) W19 (Ne.symm n21))
  have K23 := (Keep.refl h0 [a1]).trans K11 all0
  have K24 := K23.wr W16 (Or.inl (List.mem_of_getElem? (i := 0) rfl))
  have K25 := K24.wr W19 (Or.inl (List.mem_of_getElem? (i := 0) rfl))
  refine ⟨T19, _, _, _, _, none, X19, e19, by decide, by decide, (fun _ => rfl), ⟨b12, kk11_0, rfl, N19, K25, qa11_0, qd11_0, F20, Fw19, F22⟩, fun fs hr => ?_⟩
  refine own_b X0 hx hby tb4 1 [] 1 _ [vr a1] rfl ?_
  refine st3 _ ?_
  refine own_b X3 hx hby tb4 2 [true] 27 _ [] (ai (by decide) rfl) ?_
  refine st5 _ ?_
  refine own_b X5 hx hby tb4 4 [false] 36 _ [vi 4, vi 0, vr a2] (ai (feq P3).1 rfl) ?_
  refine st11 _ ?_
  refine own_b X11 hx hby tb4 4 [] 45 (L_rriinr a1 a2 0 4 b12) [vi 4, vr b12, vr a1] rfl ?_
  refine st13 _ ?_
  refine st16 _ ?_
  refine own_b X16 hx hby tb4 2 [] 54 _ [vr b12, vr a1] rfl ?_
  refine st19 _ ?_
  show OS p e below T19 m 57 (L_rriinr a1 a2 0 4 b12) [] _
  exact X19.returnOut hx hret (hb hby d4_57) hr
theorem rm3_13 (hw : OW Z a0) (a1 a2 : Addr) (w3 : ClassId) (p4 p5 p6 p7 p8 : Int32) (Z0 : n0 ≤ h0.size) (P1 : Arv Z h0 a2 w3 .char (4 : Int32) [vi p4, vi p5, vi p6, vi p7] (vi 0)) (P2 : ab1 Z (vi p8)) (P3 : Old Z n0 h0) (P4 : ¬ (p8 = (0 : Int32))) (P5 : ¬ ((255 : Int32) < p4)) (P6 : ¬ ((255 : Int32) < p5)) (P7 : (255 : Int32) < p6) (P8 : ab2 Z (vi 1)) (P9 : ab3 Z (vi 0)) (P10 : ab4 Z (vi 8)) (P11 : (255 : Int32) < (nar .char (va8 ((va4 p6).toInt8.toInt32) ((va5 p6).toInt8.toInt32)))) (P12 : ab6 Z h0 a1 (vi 0)) (P13 : ab8 Z h0 a1) (P14 : n0 ≤ a1) (P15 : ab7 Z h0 a1 .null) :
    M3 l Z ws (orm 5 2 12 74) #[vr a1, vr a2] h0 (fun v h L => ∃ b10 : Addr, ∃ kk9_0 : ClassId, v = none ∧ Fr n0 L ∧ Keep h0 h [a1] ∧ n0 ≤ b10 ∧ h0.size ≤ b10 ∧ ab6 Z h a1 (vi 1) ∧ ab7 Z h a1 (vr b10) ∧ Arv Z h b10 kk9_0 .byte (8 : Int32) [vi ((va4 p4).toInt8.toInt32), vi ((va5 p4).toInt8.toInt32), vi ((va4 p5).toInt8.toInt32), vi ((va5 p5).toInt8.toInt32), vi ((va4 p6).toInt8.toInt32), vi ((va5 p6).toInt8.toInt32), vi ((va4 p7).toInt8.toInt32), vi ((va5 p7).toInt8.toInt32)] (vi 0)) := by
  refine own_enter (plainFor_of_name pn_1) (L0 := (L_rr a1 a2)) ?_
  intro p e s m below meth c s₁ hx hby hml hown hnm hret hZ X0 e0
  have N0 := Fr.nil n0
  obtain ⟨T9, L9, _, X9, ⟨b10, kk9_0, rfl, N9q, K9, qa9_0, qb9_0, f9_0, f9_1, f9_2⟩, st9⟩ := own_callI X0 hx hZ hown (cw_14 hw) (rm4_13 hw a1 a2 p8 w3 p4 p5 p6 p7 Z0 P2 P3 P4 P1 P5 P6 P7 P8 P9 P10 P11 P12 P13 P14 P15) e0 (Ls := (L_rr a1 a2)) hml a1 [vr a2, vi 0, vi 4, .null] [] pd_1 0 (hb hby d3_6)
  have N9 := Fr.app N0 N9q
  have qd9_0 := Nat.le_trans (Nat.le_refl h0.size) qb9_0
  have K11 := (Keep.refl h0 [a1]).trans K9 (allS (Or.inl (List.mem_of_getElem? (i := 0) rfl)) all0)
  refine ⟨T9, _, _, _, _, none, X9, rfl, by decide, by decide, (fun _ => rfl), ⟨b10, kk9_0, rfl, N9, K11, qa9_0, qd9_0, f9_0, f9_1, f9_2⟩, fun fs hr => ?_⟩
  refine own_a X0 hx hZ e0 hby tb3 (aec P1 aen) 6 [] [0] 6 _ [.null, vi 4, vi 0, vr a2, vr a1] (ai rfl rfl) ?_
  refine st9 _ ?_
  show OS p e below T9 m 9 (L_rr a1 a2) [] _
  exact X9.returnOut hx hret (hb hby d3_9) hr
theorem rm2_13 (hw : OW Z a0) (p1 p2 p3 p4 p15 : Int32) (Z0 : n0 ≤ h0.size) (P1 : ab1 Z (vi p15)) (P2 : Old Z n0 h0) (P3 : ¬ (p15 = (0 : Int32))) (P4 : ¬ ((255 : Int32) < (nar .char p1))) (P5 : ¬ ((255 : Int32) < (nar .char p2))) (P6 : (255 : Int32) < (nar .char p3)) (P7 : ab2 Z (vi 1)) (P8 : ab3 Z (vi 0)) (P9 : ab4 Z (vi 8)) (P10 : (255 : Int32) < (nar .char (va8 ((va4 (nar .char p3)).toInt8.toInt32) ((va5 (nar .char p3)).toInt8.toInt32)))) :
    M2 l Z ws (orm 6 4 20 88) #[vi 4, vi p1, vi p2, vi p3, vi p4] h0 (fun v h L => ∃ b5 : Addr, ∃ b23 : Addr, ∃ kk21_0 : ClassId, v = some (vr b5) ∧ Fr n0 L ∧ Keep h0 h [] ∧ n0 ≤ b5 ∧ h0.size ≤ b5 ∧ n0 ≤ b23 ∧ h0.size ≤ b23 ∧ b5 ≠ b23 ∧ ab8 Z h b5 ∧ ab6 Z h b5 (vi 1) ∧ ab7 Z h b5 (vr b23) ∧ Arv Z h b23 kk21_0 .byte (8 : Int32) [vi ((va4 (nar .char p1)).toInt8.toInt32), vi ((va5 (nar .char p1)).toInt8.toInt32), vi ((va4 (nar .char p2)).toInt8.toInt32), vi ((va5 (nar .char p2)).toInt8.toInt32), vi ((va4 (nar .char p3)).toInt8.toInt32), vi ((va5 (nar .char p3)).toInt8.toInt32), vi ((va4 (nar .char p4)).toInt8.toInt32), vi ((va5 (nar .char p4)).toInt8.toInt32)] (vi 0)) := by
  refine own_enter (plainFor_of_name pn_0) (L0 := (L_iiiii 4 p1 p2 p3 p4)) ?_
  intro p e s m below meth c s₁ hx hby hml hown hnm hret hZ X0 e0
  have N0 := Fr.nil n0
  obtain ⟨T6, h6, b5, X6, e6, E6, g6, A6, D6, st6⟩ := own_new X0 hx hZ hown (tw_8 hw) (tw_9 hw) (tw_10 hw) e0 (Ls := (L_iiiii 4 p1 p2 p3 p4)) (S := []) (hb hby d2_87)
  have q6 := Nat.le_trans Z0 g6
  have z6 := Nat.le_trans (Nat.le_refl h0.size) g6
  have F7 : ab7 Z h6 b5 .null := D6 (Or.inr (tw_24 hw)) (ty := (.array .byte)) (by decide)
  have F8 : ab6 Z h6 b5 (vi 0) := D6 (Or.inr (tw_25 hw)) (ty := .byte) (by decide)
  obtain ⟨T10, h10, b9, k10, X10, e10, E10, g10, V10, st10⟩ := own_newP X6 hx hZ (tw_11 hw) e6 (n := (4 : Int32)) (k := 4) (d := (vi 0)) (vs := [vi 0, vi 0, vi 0, vi 0]) (Ls := (L_iiiii 4 p1 p2 p3 p4)) (S := [vr b5, vr b5]) (hb hby d2_92)
  have q10 := Nat.le_trans (Nat.le_trans Z0 E6.1) g10
  have z10 := Nat.le_trans (Nat.le_trans (Nat.le_refl h0.size) E6.1) g10
  obtain ⟨T11, h11, X11, e11, W11, V11, st11⟩ := own_stC X10 hx hZ e10 V10 (j := (0 : Int32)) (x := p1) (by decide) 0 rfl (Nat.le_of_ble_eq_true rfl) (Ls := (L_iiiii 4 p1 p2 p3 p4)) (rest := [vr b9, vr b5, vr b5]) (hb hby d2_97)
  have N11 := Fr.snoc X11 N0 q10
  obtain ⟨T12, h12, X12, e12, W12, V12, st12⟩ := own_stC X11 hx hZ e11 V11 (j := (1 : Int32)) (x := p2) (by decide) 1 rfl (Nat.le_of_ble_eq_true rfl) (Ls := (L_iiiii 4 p1 p2 p3 p4)) (rest := [vr b9, vr b5, vr b5]) (hb hby d2_101)
  have N12 := Fr.snoc X12 N11 q10
  obtain ⟨T13, h13, X13, e13, W13, V13, st13⟩ := own_stC X12 hx hZ e12 V12 (j := (2 : Int32)) (x := p3) (by decide) 2 rfl (Nat.le_of_ble_eq_true rfl) (Ls := (L_iiiii 4 p1 p2 p3 p4)) (rest := [vr b9, vr b5, vr b5]) (hb hby d2_105)
  have N13 := Fr.snoc X13 N12 q10
  obtain ⟨T14, h14, X14, e14, W14, V14, st14⟩ := own_stC X13 hx hZ e13 V13 (j := (3 : Int32)) (x := p4) (by decide) 3 rfl (Nat.le_of_ble_eq_true rfl) (Ls := (L_iiiii 4 p1 p2 p3 p4)) (rest := [vr b9, vr b5, vr b5]) (hb hby d2_110)
  have N14 := Fr.snoc X14 N13 q10
  have F16 := ((((((P2.ext E6).ext E10).wr W11 q10).wr W12 q10).wr W13 q10).wr W14 q10)
  have n17 := Nat.ne_of_lt (Nat.lt_of_lt_of_le A6.lt g10)
  have F18 := (Fld.other W14 (Fld.other W13 (Fld.other W12 (Fld.other W11 (Fld.ext E10 F8) (Or.inl n17)) (Or.inl n17)) (Or.inl n17)) (Or.inl n17))
  have F19 := (Exa.wr W14 (Exa.wr W13 (Exa.wr W12 (Exa.wr W11 (Exa.ext E10 A6)))))
  have F20 := (Fld.other W14 (Fld.other W13 (Fld.other W12 (Fld.other W11 (Fld.ext E10 F7) (Or.inl n17)) (Or.inl n17)) (Or.inl n17)) (Or.inl n17))
  have F22 := (Nat.le_trans (Nat.le_trans (Nat.le_trans (Nat.le_trans (Nat.le_trans (Nat.le_trans Z0 E6.1) E10.1) (Keep.of_wr W11).1) (Keep.of_wr W12).1) (Keep.of_wr W13).1) (Keep.of_wr W14).1)
  obtain ⟨T21, L21, _, X21, ⟨b23, kk21_0, rfl, N21q, K21, qa21_0, qb21_0, f21_0, f21_1, f21_2⟩, st21⟩ := own_callI X14 hx hZ hown (cw_15 hw) (rm3_13 hw b5 b9 k10 (nar .char p1) (nar .char p2) (nar .char p3) (nar .char p4) p15 F22 V14 P1 F16 P3 P4 P5 P6 P7 P8 P9 P10 F18 F19 q6 F20) e14 (Ls := (L_iiiii 4 p1 p2 p3 p4)) hml b5 [vr b9] [vr b5] pd_2 1 (hb hby d2_111)
  have N21 := Fr.app N14 N21q
  have F24 := (Nat.le_trans (Nat.le_trans (Nat.le_trans (Nat.le_trans (Nat.le_trans (Nat.le_trans (Nat.le_refl h0.size) E6.1) E10.1) (Keep.of_wr W11).1) (Keep.of_wr W12).1) (Keep.of_wr W13).1) (Keep.of_wr W14).1)
  have qd21_0 := Nat.le_trans F24 qb21_0
  have F25 := (Exa.keep F19 K21)
  have K26 := (Keep.refl h0 []).ext E6
  have K27 := K26.ext E10
  have K28 := K27.wr W11 (Or.inr z10)
  have K29 := K28.wr W12 (Or.inr z10)
  have K30 := K29.wr W13 (Or.inr z10)
  have K31 := K30.wr W14 (Or.inr z10)
  have K32 := K31.trans K21 (allS (Or.inr z6) all0)
  have n33 := Nat.ne_of_lt (Nat.lt_of_lt_of_le F18.lt qb21_0)
  refine ⟨T21, _, _, _, _, some (vr b5), X21, rfl, by decide, by decide, nofun, ⟨b5, b23, kk21_0, rfl, N21, K32, q6, z6, qa21_0, qd21_0, n33, F25, f21_0, f21_1, f21_2⟩, fun fs hr => ?_⟩
  refine own_b X0 hx hby tb2 11 [true, true, true, true] 87 _ [] (ai (by decide) (ai (by decide) (ai (by decide) (ai (by decide) rfl)))) ?_
  refine st6 _ ?_
  refine own_b X6 hx hby tb2 2 [] 92 _ [vi 4, vr b5, vr b5] rfl ?_
  refine st10 _ ?_
  refine own_b X10 hx hby tb2 3 [] 97 _ [vi p1, vi 0, vr b9, vr b9, vr b5, vr b5] rfl ?_
  refine st11 _ ?_
  refine own_b X11 hx hby tb2 3 [] 101 _ [vi p2, vi 1, vr b9, vr b9, vr b5, vr b5] rfl ?_
  refine st12 _ ?_
  refine own_b X12 hx hby tb2 3 [] 105 _ [vi p3, vi 2, vr b9, vr b9, vr b5, vr b5] rfl ?_
  refine st13 _ ?_
  refine own_b X13 hx hby tb2 3 [] 110 _ [vi p4, vi 3, vr b9, vr b9, vr b5, vr b5] rfl ?_
  refine st14 _ ?_
  refine st21 _ ?_
  exact own_retA X21 hx hret rfl (hb hby d2_114) hr
theorem rm31_29 (hw : OW Z a0) (a1 : Addr) (w2 : ClassId) (p3 p4 p5 p6 p7 p8 p9 p10 : Int32) (Z0 : n0 ≤ h0.size) (P1 : ab2 Z (vi 1)) (P2 : Old Z n0 h0) (P3 : Arv Z h0 a1 w2 .byte (8 : Int32) [vi p3, vi p4, vi p5, vi p6, vi p7, vi p8, vi p9, vi p10] (vi 0)) (P4 : ab3 Z (vi 0)) (P5 : ab4 Z (vi 8)) (H1 : ¬ ((nar .char (va8 p3 p4)) = (42 : Int32))) (H2 : (nar .char (va8 p5 p6)) = (42 : Int32)) :
    M31 l Z ws (orm 1 0 0 13) #[vr a1, vi 42, vi 0, vi 4] h0 (QI n0 h0 (vi 1)) := by
  refine own_enter (plainFor_of_name pn_4) (L0 := (L_riiiu a1 42 0 4)) ?_
  intro p e s m below meth c s₁ hx hby hml hown hnm hret hZ X0 e0
  have N0 := Fr.nil n0
  obtain ⟨T11, L11, _, X11, ⟨rfl, N11q, e11q⟩, st11⟩ := own_callS X0 hx hZ hown (cw_11 hw) (rm24_7 hw a1 w2 p3 p4 p5 p6 p7 p8 p9 p10 Z0 P1 P2 P3 P4 P5) e0 (Ls := (L_riiii a1 42 0 4 0)) hml [vr a1, vi 0] [] pd_16 0 (hb hby d31_12)
  have N11 := Fr.app N0 N11q
  obtain ⟨T12, L12, _, X12, ⟨rfl, N12q, e12q⟩, st12⟩ := own_callS X11 hx hZ hown (cw_11 hw) (rm24_8 hw a1 w2 p3 p4 p5 p6 p7 p8 p9 p10 Z0 P1 P2 P3 P4 P5) e11q (Ls := (L_riiii a1 42 0 4 1)) hml [vr a1, vi 1] [] pd_16 0 (hb hby d31_12)
  have N12 := Fr.app N11 N12q
  refine ⟨T12, _, _, _, _, some (vi 1), X12, e12q, by decide, by decide, nofun, ⟨rfl, N12, rfl⟩, fun fs hr => ?_⟩
  refine own_b X0 hx hby tb31 7 [false] 12 (L_riiii a1 42 0 4 0) [vi 0, vr a1] (ai (by decide) rfl) ?_
  refine st11 _ ?_
  refine own_b X11 hx hby tb31 9 [true, false] 12 (L_riiii a1 42 0 4 1) [vi 1, vr a1] (ai (feq H1).2 (ai (by decide) rfl)) ?_
  refine st12 _ ?_
  refine own_b X12 hx hby tb31 3 [false] 21 _ [vi 1] (ai (teq H2).2 rfl) ?_
  exact retI X12 hx hret (hb hby d31_21) hr
theorem rm31_30 (hw : OW Z a0) (a1 : Addr) (w2 : ClassId) (p3 p4 p5 p6 p7 p8 p9 p10 : Int32) (Z0 : n0 ≤ h0.size) (P1 : ab2 Z (vi 1)) (P2 : Old Z n0 h0) (P3 : Arv Z h0 a1 w2 .byte (8 : Int32) [vi p3, vi p4, vi p5, vi p6, vi p7, vi p8, vi p9, vi p10] (vi 0)) (P4 : ab3 Z (vi 0)) (P5 : ab4 Z (vi 8)) (P6 : ¬ ((nar .char (va8 p7 p8)) = (42 : Int32))) (H1 : ¬ ((nar .char (va8 p3 p4)) = (42 : Int32))) (H2 : ¬ ((nar .char (va8 p5 p6)) = (42 : Int32))) (H3 : (nar .char (va8 p9 p10)) = (42 : Int32)) :
    M31 l Z ws (orm 1 0 0 13) #[vr a1, vi 42, vi 0, vi 4] h0 (QI n0 h0 (vi 3)) := by
  refine own_enter (plainFor_of_name pn_4) (L0 := (L_riiiu a1 42 0 4)) ?_
  intro p e s m below meth c s₁ hx hby hml hown hnm hret hZ X0 e0
  have N0 := Fr.nil n0
  obtain ⟨T11, L11, _, X11, ⟨rfl, N11q, e11q⟩, st11⟩ := own_callS X0 hx hZ hown (cw_11 hw) (rm24_7 hw a1 w2 p3 p4 p5 p6 p7 p8 p9 p10 Z0 P1 P2 P3 P4 P5) e0 (Ls := (L_riiii a1 42 0 4 0)) hml [vr a1, vi 0] [] pd_16 0 (hb hby d31_12)
  have N11 := Fr.app N0 N11q
  obtain ⟨T12, L12, _, X12, ⟨rfl, N12q, e12q⟩, st12⟩ := own_callS X11 hx hZ hown (cw_11 hw) (rm24_8 hw a1 w2 p3 p4 p5 p6 p7 p8 p9 p10 Z0 P1 P2 P3 P4 P5) e11q (Ls := (L_riiii a1 42 0 4 1)) hml [vr a1, vi 1] [] pd_16 0 (hb hby d31_12)
  have N12 := Fr.app N11 N12q
  obtain ⟨T13, L13, _, X13, ⟨rfl, N13q, e13q⟩, st13⟩ := own_callS X12 hx hZ hown (cw_11 hw) (rm24_9 hw a1 w2 p3 p4 p5 p6 p7 p8 p9 p10 Z0 P1 P2 P3 P4 P5) e12q (Ls := (L_riiii a1 42 0 4 2)) hml [vr a1, vi 2] [] pd_16 0 (hb hby d31_12)
  have N13 := Fr.app N12 N13q
  obtain ⟨T14, L14, _, X14, ⟨rfl, N14q, e14q⟩, st14⟩ := own_callS X13 hx hZ hown (cw_11 hw) (rm24_10 hw a1 w2 p3 p4 p5 p6 p7 p8 p9 p10 Z0 P1 P2 P3 P4 P5) e13q (Ls := (L_riiii a1 42 0 4 3)) hml [vr a1, vi 3] [] pd_16 0 (hb hby d31_12)
  have N14 := Fr.app N13 N14q
  refine ⟨T14, _, _, _, _, some (vi 3), X14, e14q, by decide, by decide, nofun, ⟨rfl, N14, rfl⟩, fun fs hr => ?_⟩
  refine own_b X0 hx hby tb31 7 [false] 12 (L_riiii a1 42 0 4 0) [vi 0, vr a1] (ai (by decide) rfl) ?_
  refine st11 _ ?_
  refine own_b X11 hx hby tb31 9 [true, false] 12 (L_riiii a1 42 0 4 1) [vi 1, vr a1] (ai (feq H1).2 (ai (by decide) rfl)) ?_
  refine st12 _ ?_
  refine own_b X12 hx hby tb31 9 [true, false] 12 (L_riiii a1 42 0 4 2) [vi 2, vr a1] (ai (feq H2).2 (ai (by decide) rfl)) ?_
  refine st13 _ ?_
  refine own_b X13 hx hby tb31 9 [true, false] 12 (L_riiii a1 42 0 4 3) [vi 3, vr a1] (ai (feq P6).2 (ai (by decide) rfl)) ?_
  refine st14 _ ?_
  refine own_b X14 hx hby tb31 3 [false] 21 _ [vi 3] (ai (teq H3).2 rfl) ?_
  exact retI X14 hx hret (hb hby d31_21) hr
theorem rm31_31 (hw : OW Z a0) (a1 : Addr) (w2 : ClassId) (p3 p4 p5 p6 p7 p8 p9 p10 : Int32) (Z0 : n0 ≤ h0.size) (P1 : ab2 Z (vi 1)) (P2 : Old Z n0 h0) (P3 : Arv Z h0 a1 w2 .byte (8 : Int32) [vi p3, vi p4, vi p5, vi p6, vi p7, vi p8, vi p9, vi p10] (vi 0)) (P4 : ab3 Z (vi 0)) (P5 : ab4 Z (vi 8)) (P6 : ¬ ((nar .char (va8 p7 p8)) = (42 : Int32))) (H1 : ¬ ((nar .char (va8 p3 p4)) = (42 : Int32))) (H2 : ¬ ((nar .char (va8 p5 p6)) = (42 : Int32))) (H3 : ¬ ((nar .char (va8 p9 p10)) = (42 : Int32))) :
    M31 l Z ws (orm 1 0 0 13) #[vr a1, vi 42, vi 0, vi 4] h0 (QI n0 h0 (vi (-1))) := by
  refine own_enter (plainFor_of_name pn_4) (L0 := (L_riiiu a1 42 0 4)) ?_
  intro p e s m below meth c s₁ hx hby hml hown hnm hret hZ X0 e0
  have N0 := Fr.nil n0
  obtain ⟨T11, L11, _, X11, ⟨rfl, N11q, e11q⟩, st11⟩ := own_callS X0 hx hZ hown (cw_11 hw) (rm24_7 hw a1 w2 p3 p4 p5 p6 p7 p8 p9 p10 Z0 P1 P2 P3 P4 P5) e0 (Ls := (L_riiii a1 42 0 4 0)) hml [vr a1, vi 0] [] pd_16 0 (hb hby d31_12)
  have N11 := Fr.app N0 N11q
  obtain ⟨T12, L12, _, X12, ⟨rfl, N12q, e12q⟩, st12⟩ := own_callS X11 hx hZ hown (cw_11 hw) (rm24_8 hw a1 w2 p3 p4 p5 p6 p7 p8 p9 p10 Z0 P1 P2 P3 P4 P5) e11q (Ls := (L_riiii a1 42 0 4 1)) hml [vr a1, vi 1] [] pd_16 0 (hb hby d31_12)
  have N12 := Fr.app N11 N12q
  obtain ⟨T13, L13, _, X13, ⟨rfl, N13q, e13q⟩, st13⟩ := own_callS X12 hx hZ hown (cw_11 hw) (rm24_9 hw a1 w2 p3 p4 p5 p6 p7 p8 p9 p10 Z0 P1 P2 P3 P4 P5) e12q (Ls := (L_riiii a1 42 0 4 2)) hml [vr a1, vi 2] [] pd_16 0 (hb hby d31_12)
  have N13 := Fr.app N12 N13q
  obtain ⟨T14, L14, _, X14, ⟨rfl, N14q, e14q⟩, st14⟩ := own_callS X13 hx hZ hown (cw_11 hw) (rm24_10 hw a1 w2 p3 p4 p5 p6 p7 p8 p9 p10 Z0 P1 P2 P3 P4 P5) e13q (Ls := (L_riiii a1 42 0 4 3)) hml [vr a1, vi 3] [] pd_16 0 (hb hby d31_12)
  have N14 := Fr.app N13 N14q
  refine ⟨T14, _, _, _, _, some (vi (-1)), X14, e14q, by decide, by decide, nofun, ⟨rfl, N14, rfl⟩, fun fs hr => ?_⟩
  refine own_b X0 hx hby tb31 7 [false] 12 (L_riiii a1 42 0 4 0) [vi 0, vr a1] (ai (by decide) rfl) ?_
  refine st11 _ ?_
  refine own_b X11 hx hby tb31 9 [true, false] 12 (L_riiii a1 42 0 4 1) [vi 1, vr a1] (ai (feq H1).2 (ai (by decide) rfl)) ?_
  refine st12 _ ?_
  refine own_b X12 hx hby tb31 9 [true, false] 12 (L_riiii a1 42 0 4 2) [vi 2, vr a1] (ai (feq H2).2 (ai (by decide) rfl)) ?_
  refine st13 _ ?_
  refine own_b X13 hx hby tb31 9 [true, false] 12 (L_riiii a1 42 0 4 3) [vi 3, vr a1] (ai (feq P6).2 (ai (by decide) rfl)) ?_
  refine st14 _ ?_
  refine own_b X14 hx hby tb31 8 [true, true] 29 (L_riiii a1 42 0 4 4) [vi (-1)] (ai (feq H3).2 (ai (by decide) rfl)) ?_
  exact retI X14 hx hret (hb hby d31_29) hr
theorem rm31_32 (hw : OW Z a0) (a1 : Addr) (w2 : ClassId) (p3 p4 p5 p6 p7 p8 p9 p10 : Int32) (Z0 : n0 ≤ h0.size) (P1 : ab2 Z (vi 1)) (P2 : Old Z n0 h0) (P3 : Arv Z h0 a1 w2 .byte (8 : Int32) [vi p3, vi p4, vi p5, vi p6, vi p7, vi p8, vi p9, vi p10] (vi 0)) (P4 : ab3 Z (vi 0)) (P5 : ab4 Z (vi 8)) (P6 : ¬ ((nar .char (va8 p7 p8)) = (42 : Int32))) :
    M31 l Z ws (orm 1 0 0 13) #[vr a1, vi 42, vi 0, vi 4] h0 (QI n0 h0 (vi (va44 p3 p4 p5 p6 p9 p10))) := by
  by_cases H1 : (nar .char (va8 p3 p4)) = (42 : Int32)
  ·
    rw [show (va44 p3 p4 p5 p6 p9 p10) = (0 : Int32) from by simp only [va44, if_pos H1]]
    exact rm31_24 hw a1 w2 p3 p4 p5 p6 p7 p8 p9 p10 Z0 P1 P2 P3 P4 P5 H1
  ·
    by_cases H2 : (nar .char (va8 p5 p6)) = (42 : Int32)
    ·
      rw [show (va44 p3 p4 p5 p6 p9 p10) = (1 : Int32) from by simp only [va44, if_neg H1, if_pos H2]]
      exact rm31_29 hw a1 w2 p3 p4 p5 p6 p7 p8 p9 p10 Z0 P1 P2 P3 P4 P5 H1 H2
    ·
      by_cases H3 : (nar .char (va8 p9 p10)) = (42 : Int32)
      ·
        rw [show (va44 p3 p4 p5 p6 p9 p10) = (3 : Int32) from by simp only [va44, if_neg H1, if_neg H2, if_pos H3]]
        exact rm31_30 hw a1 w2 p3 p4 p5 p6 p7 p8 p9 p10 Z0 P1 P2 P3 P4 P5 P6 H1 H2 H3
      ·
        rw [show (va44 p3 p4 p5 p6 p9 p10) = (-1 : Int32) from by simp only [va44, if_neg H1, if_neg H2, if_neg H3]]
        exact rm31_31 hw a1 w2 p3 p4 p5 p6 p7 p8 p9 p10 Z0 P1 P2 P3 P4 P5 P6 H1 H2 H3
theorem rm26_9 (hw : OW Z a0) (a1 : Addr) (w2 : ClassId) (p3 p4 p5 p6 p7 p8 p9 p10 : Int32) (a11 : Value) (Z0 : n0 ≤ h0.size) (P1 : Arv Z h0 a1 w2 .byte (8 : Int32) [vi p3, vi p4, vi p5, vi p6, vi p7, vi p8, vi p9, vi p10] (vi 0)) (P2 : ab5 Z a11) (P3 : Old Z n0 h0) (P4 : a11.isRef = true) (P5 : ab2 Z (vi 1)) (P6 : ab3 Z (vi 0)) (P7 : ab4 Z (vi 8)) (P8 : ¬ ((nar .char (va8 p7 p8)) = (42 : Int32))) :
    M26 l Z ws (orm 3 0 0 43) #[vr a1, vi 42, vi 0, vi 4] h0 (QI n0 h0 (vi (va44 p3 p4 p5 p6 p9 p10))) := by
  refine own_enter (plainFor_of_name pn_4) (L0 := (L_riii a1 42 0 4)) ?_
  intro p e s m below meth c s₁ hx hby hml hown hnm hret hZ X0 e0
  have N0 := Fr.nil n0
  obtain ⟨T12, L12, _, X12, ⟨rfl, N12q, e12q⟩, st12⟩ := own_callS X0 hx hZ hown (cw_22 hw) (rm27_4 hw a1 w2 p3 p4 p5 p6 p7 p8 p9 p10 a11 Z0 P1 P2 P3 P4) e0 (Ls := (L_riii a1 42 0 4)) hml [vi 0, vi 4, vr a1] [] pd_21 0 (hb hby d26_3)
  have N12 := Fr.app N0 N12q
  obtain ⟨T13, L13, _, X13, ⟨rfl, N13q, e13q⟩, st13⟩ := own_callS X12 hx hZ hown (cw_23 hw) (rm31_32 hw a1 w2 p3 p4 p5 p6 p7 p8 p9 p10 Z0 P5 P3 P1 P6 P7 P8) e12q (Ls := (L_riii a1 42 0 4)) hml [vr a1, vi 42, vi 0, vi 4] [] pd_9 0 (hb hby d26_10)
  have N13 := Fr.app N12 N13q
  refine ⟨T13, _, _, _, _, some (vi (va44 p3 p4 p5 p6 p9 p10)), X13, e13q, by decide, by decide, nofun, ⟨rfl, N13, rfl⟩, fun fs hr => ?_⟩
  refine own_b X0 hx hby tb26 3 [] 3 _ [vr a1, vi 4, vi 0] rfl ?_
  refine st12 _ ?_
  refine own_b X12 hx hby tb26 4 [] 10 _ [vi 4, vi 0, vi 42, vr a1] rfl ?_
  refine st13 _ ?_
  exact retI X13 hx hret (hb hby d26_13) hr
theorem rm25_9 (hw : OW Z a0) (a1 : Addr) (w3 : ClassId) (p4 p5 p6 p7 p8 p9 p10 p11 : Int32) (a13 : Value) (Z0 : n0 ≤ h0.size) (P1 : Arv Z h0 a1 w3 .byte (8 : Int32) [vi p4, vi p5, vi p6, vi p7, vi p8, vi p9, vi p10, vi p11] (vi 0)) (P2 : ab5 Z a13) (P3 : Old Z n0 h0) (P4 : a13.isRef = true) (P5 : ab2 Z (vi 1)) (P6 : ab3 Z (vi 0)) (P7 : ab4 Z (vi 8)) (P8 : ¬ ((nar .char (va8 p8 p9)) = (42 : Int32))) :
    M25 l Z ws (orm 4 0 0 58) #[vr a1, vi 42, vi 0, vi 4] h0 (QI n0 h0 (vi (va44 p4 p5 p6 p7 p10 p11))) := by
  refine own_enter (plainFor_of_name pn_4) (L0 := (L_riii a1 42 0 4)) ?_
  intro p e s m below meth c s₁ hx hby hml hown hnm hret hZ X0 e0
  have N0 := Fr.nil n0
  obtain ⟨T2, L2, _, X2, ⟨rfl, N2q, e2q⟩, st2⟩ := own_callS X0 hx hZ hown (cw_17 hw) (rm14_1 hw  Z0 ) e0 (Ls := (L_riii a1 42 0 4)) hml [vi 0, vi 0] [] pd_8 0 (hb hby d25_2)
  have N2 := Fr.app N0 N2q
  obtain ⟨T12, L12, _, X12, ⟨rfl, N12q, e12q⟩, st12⟩ := own_callS X2 hx hZ hown (cw_18 hw) (rm15_5 hw  Z0 ) e2q (Ls := (L_riii a1 42 0 4)) hml [vi 4, vi 4] [] pd_8 0 (hb hby d25_11)
  have N12 := Fr.app N2 N12q
  obtain ⟨T14, L14, _, X14, ⟨rfl, N14q, e14q⟩, st14⟩ := own_callS X12 hx hZ hown (cw_24 hw) (rm26_9 hw a1 w3 p4 p5 p6 p7 p8 p9 p10 p11 a13 Z0 P1 P2 P3 P4 P5 P6 P7 P8) e12q (Ls := (L_riii a1 42 0 4)) hml [vr a1, vi 42, vi 0, vi 4] [] pd_9 0 (hb hby d25_32)
  have N14 := Fr.app N12 N14q
  refine ⟨T14, _, _, _, _, some (vi (va44 p4 p5 p6 p7 p10 p11)), X14, e14q, by decide, by decide, nofun, ⟨rfl, N14, rfl⟩, fun fs hr => ?_⟩
  refine own_b X0 hx hby tb25 2 [] 2 _ [vi 0, vi 0] rfl ?_
  refine st2 _ ?_
  refine own_a X2 hx hZ e2q hby tb25 (aec P1 aen) 6 [] [0] 11 (L_riii a1 42 0 4) [vi 4, vi 4] (ai rfl rfl) ?_
  refine st12 _ ?_
  refine own_b X12 hx hby tb25 5 [true] 23 (L_riii a1 42 0 4) [vi 42] (ai (by decide) rfl) ?_
  refine X12.ldcInt hx hown (mvT hZ (tw_112 hw)) (g := (mkF m 23 (L_riii a1 42 0 4) [vi 42])) rfl (hb hby d25_23) _ ?_
  show OS p e below T12 m 25 (L_riii a1 42 0 4) [vi 65536, vi 42] _
  refine own_b X12 hx hby tb25 5 [false] 32 _ [vi 4, vi 0, vi 42, vr a1] (ai (by decide) rfl) ?_
  refine st14 _ ?_
  exact retI X14 hx hret (hb hby d25_35) hr
theorem rm8_13 (hw : OW Z a0) (a1 : Addr) (p2 : Int32) (a4 : Addr) (w6 : ClassId) (p7 p8 p9 p10 p11 p12 p13 p14 : Int32) (a16 : Value) (Z0 : n0 ≤ h0.size) (P1 : ab8 Z h0 a1) (P2 : ab1 Z (vi p2)) (P3 : Old Z n0 h0) (P4 : ¬ (p2 = (0 : Int32))) (P5 : ab6 Z h0 a1 (vi 1)) (P6 : ab7 Z h0 a1 (vr a4)) (P7 : Arv Z h0 a4 w6 .byte (8 : Int32) [vi p7, vi p8, vi p9, vi p10, vi p11, vi p12, vi p13, vi p14] (vi 0)) (P8 : ab5 Z a16) (P9 : a16.isRef = true) (P10 : ab2 Z (vi 1)) (P11 : ab3 Z (vi 0)) (P12 : ab4 Z (vi 8)) (P13 : ¬ ((nar .char (va8 p11 p12)) = (42 : Int32))) :
    M8 l Z ws (orm 5 0 0 73) #[vr a1, vi 42, vi 0] h0 (QI n0 h0 (vi (va44 p7 p8 p9 p10 p13 p14))) := by
  refine own_enter (plainFor_of_name pn_1) (L0 := (L_rii a1 42 0)) ?_
  intro p e s m below meth c s₁ hx hby hml hown hnm hret hZ X0 e0
  have N0 := Fr.nil n0
  obtain ⟨T3, L3, _, X3, ⟨rfl, N3q, e3q⟩, st3⟩ := own_callV X0 hx hZ hown (tw_44 hw) (tw_45 hw) (notFace_of_selects (args := #[]) (mvT hZ (tw_47 hw))) (tw_47 hw) (tw_46 hw) (tw_10 hw) (tw_48 hw) (rm9_2 hw a1 p2 Z0 P2 P3 P4 P5) e0 P1 (Ls := (L_rii a1 42 0)) hml [] [] pd_4 0 (hb hby d8_1)
  have N3 := Fr.app N0 N3q
  obtain ⟨T5, X5, e5, st5⟩ := getF X3 hx hZ hown (host := "") (Or.inl (tw_28 hw)) Via.refl e3q P6 (g := (mkF m 24 (L_rii a1 42 0) [vr a1])) rfl rfl (hb hby d8_24)
  obtain ⟨T15, L15, _, X15, ⟨rfl, N15q, e15q⟩, st15⟩ := own_callV X5 hx hZ hown (tw_50 hw) (tw_51 hw) (notFace_of_selects (args := #[]) (mvT hZ (tw_53 hw))) (tw_53 hw) (tw_52 hw) (tw_10 hw) (tw_54 hw) (rm10_8 hw a1 a4 w6 p7 p8 p9 p10 p11 p12 p13 p14 p2 Z0 P6 P7 P1 P2 P3 P4 P5) e5 P1 (Ls := (L_rii a1 42 0)) hml [] [vi 0, vi 42, vr a4] pd_6 3 (hb hby d8_30)
  have N15 := Fr.app N3 N15q
  obtain ⟨T17, L17, _, X17, ⟨rfl, N17q, e17q⟩, st17⟩ := own_callS X15 hx hZ hown (cw_25 hw) (rm25_9 hw a4 w6 p7 p8 p9 p10 p11 p12 p13 p14 a16 Z0 P7 P8 P3 P9 P10 P11 P12 P13) e15q (Ls := (L_rii a1 42 0)) hml [vr a4, vi 42, vi 0, vi 4] [] pd_9 0 (hb hby d8_33)
  have N17 := Fr.app N15 N17q
  refine ⟨T17, _, _, _, _, some (vi (va44 p7 p8 p9 p10 p13 p14)), X17, e17q, by decide, by decide, nofun, ⟨rfl, N17, rfl⟩, fun fs hr => ?_⟩
  refine own_b X0 hx hby tb8 1 [] 1 _ [vr a1] rfl ?_
  refine st3 _ ?_
  refine own_b X3 hx hby tb8 2 [true] 24 _ [vr a1] (ai (by decide) rfl) ?_
  refine st5 _ ?_
  refine own_b X5 hx hby tb8 3 [] 30 _ [vr a1, vi 0, vi 42, vr a4] rfl ?_
  refine st15 _ ?_
  refine st17 _ ?_
  exact retI X17 hx hret (hb hby d8_36) hr
theorem rm7_13 (hw : OW Z a0) (a1 : Addr) (p2 : Int32) (a3 : Addr) (w4 : ClassId) (p5 p6 p7 p8 p9 p10 p11 p12 : Int32) (a13 : Value) (Z0 : n0 ≤ h0.size) (P1 : ab8 Z h0 a1) (P2 : ab1 Z (vi p2)) (P3 : Old Z n0 h0) (P4 : ¬ (p2 = (0 : Int32))) (P5 : ab6 Z h0 a1 (vi 1)) (P6 : ab7 Z h0 a1 (vr a3)) (P7 : Arv Z h0 a3 w4 .byte (8 : Int32) [vi p5, vi p6, vi p7, vi p8, vi p9, vi p10, vi p11, vi p12] (vi 0)) (P8 : ab5 Z a13) (P9 : a13.isRef = true) (P10 : ab2 Z (vi 1)) (P11 : ab3 Z (vi 0)) (P12 : ab4 Z (vi 8)) (P13 : ¬ ((nar .char (va8 p9 p10)) = (42 : Int32))) :
    M7 l Z ws (orm 6 0 0 87) #[vr a1, vi 42] h0 (QI n0 h0 (vi (va44 p5 p6 p7 p8 p11 p12))) := by
  refine own_enter (plainFor_of_name pn_1) (L0 := (L_ri a1 42)) ?_
  intro p e s m below meth c s₁ hx hby hml hown hnm hret hZ X0 e0
  have N0 := Fr.nil n0
  obtain ⟨T14, L14, _, X14, ⟨rfl, N14q, e14q⟩, st14⟩ := own_callV X0 hx hZ hown (tw_39 hw) (tw_40 hw) (notFace_of_selects (args := #[]) (mvT hZ (tw_42 hw))) (tw_42 hw) (tw_41 hw) (tw_10 hw) (tw_43 hw) (rm8_13 hw a1 p2 a3 w4 p5 p6 p7 p8 p9 p10 p11 p12 a13 Z0 P1 P2 P3 P4 P5 P6 P7 P8 P9 P10 P11 P12 P13) e0 P1 (Ls := (L_ri a1 42)) hml [vi 42, vi 0] [] pd_8 0 (hb hby d7_3)
  have N14 := Fr.app N0 N14q
  refine ⟨T14, _, _, _, _, some (vi (va44 p5 p6 p7 p8 p11 p12)), X14, e14q, by decide, by decide, nofun, ⟨rfl, N14, rfl⟩, fun fs hr => ?_⟩
  refine own_b X0 hx hby tb7 3 [] 3 _ [vi 0, vi 42, vr a1] rfl ?_
  refine st14 _ ?_
  exact retI X14 hx hret (hb hby d7_6) hr
theorem rm6_33 (hw : OW Z a0) (a1 : Addr) (p2 : Int32) (a3 : Addr) (w4 : ClassId) (p5 p6 p7 p8 p9 p10 p11 p12 : Int32) (a13 : Value) (Z0 : n0 ≤ h0.size) (P1 : ab8 Z h0 a1) (P2 : ab1 Z (vi p2)) (P3 : Old Z n0 h0) (P4 : ¬ (p2 = (0 : Int32))) (P5 : ab6 Z h0 a1 (vi 1)) (P6 : ab7 Z h0 a1 (vr a3)) (P7 : Arv Z h0 a3 w4 .byte (8 : Int32) [vi p5, vi p6, vi p7, vi p8, vi p9, vi p10, vi p11, vi p12] (vi 0)) (P8 : ab5 Z a13) (P9 : a13.isRef = true) (P10 : ab2 Z (vi 1)) (P11 : ab3 Z (vi 0)) (P12 : ab4 Z (vi 8)) (P13 : ¬ ((nar .char (va8 p9 p10)) = (42 : Int32))) (H1 : (va44 p5 p6 p7 p8 p11 p12) < (0 : Int32)) :
    M6 l Z ws (orm 7 0 0 100) #[vr a1] h0 (QI n0 h0 (vi 0)) := by
  refine own_enter (plainFor_of_name pn_3) (L0 := #[sr a1]) ?_
  intro p e s m below meth c s₁ hx hby hml hown hnm hret hZ X0 e0
  have N0 := Fr.nil n0
  obtain ⟨T14, L14, _, X14, ⟨rfl, N14q, e14q⟩, st14⟩ := own_callV X0 hx hZ hown (tw_34 hw) (tw_35 hw) (notFace_of_selects (args := #[]) (mvT hZ (tw_37 hw))) (tw_37 hw) (tw_36 hw) (tw_10 hw) (tw_38 hw) (rm7_13 hw a1 p2 a3 w4 p5 p6 p7 p8 p9 p10 p11 p12 a13 Z0 P1 P2 P3 P4 P5 P6 P7 P8 P9 P10 P11 P12 P13) e0 P1 (Ls := #[sr a1]) hml [vi 42] [] pd_10 0 (hb hby d6_3)
  have N14 := Fr.app N0 N14q
  refine ⟨T14, _, _, _, _, some (vi 0), X14, e14q, by decide, by decide, nofun, ⟨rfl, N14, rfl⟩, fun fs hr => ?_⟩
  refine own_b X0 hx hby tb6 2 [] 3 _ [vi 42, vr a1] rfl ?_
  refine st14 _ ?_
  refine own_b X14 hx hby tb6 2 [true] 14 _ [vi 0] (ai (tlt H1).1 rfl) ?_
  exact retN X14 hx (t := .boolean) hret (by simp) (hb hby d6_14) hr
theorem rm6_34 (hw : OW Z a0) (a1 : Addr) (p2 : Int32) (a3 : Addr) (w4 : ClassId) (p5 p6 p7 p8 p9 p10 p11 p12 : Int32) (a13 : Value) (Z0 : n0 ≤ h0.size) (P1 : ab8 Z h0 a1) (P2 : ab1 Z (vi p2)) (P3 : Old Z n0 h0) (P4 : ¬ (p2 = (0 : Int32))) (P5 : ab6 Z h0 a1 (vi 1)) (P6 : ab7 Z h0 a1 (vr a3)) (P7 : Arv Z h0 a3 w4 .byte (8 : Int32) [vi p5, vi p6, vi p7, vi p8, vi p9, vi p10, vi p11, vi p12] (vi 0)) (P8 : ab5 Z a13) (P9 : a13.isRef = true) (P10 : ab2 Z (vi 1)) (P11 : ab3 Z (vi 0)) (P12 : ab4 Z (vi 8)) (P13 : ¬ ((nar .char (va8 p9 p10)) = (42 : Int32))) (H1 : ¬ ((va44 p5 p6 p7 p8 p11 p12) < (0 : Int32))) :
    M6 l Z ws (orm 7 0 0 100) #[vr a1] h0 (QI n0 h0 (vi 1)) := by
  refine own_enter (plainFor_of_name pn_3) (L0 := #[sr a1]) ?_
  intro p e s m below meth c s₁ hx hby hml hown hnm hret hZ X0 e0
  have N0 := Fr.nil n0
  obtain ⟨T14, L14, _, X14, ⟨rfl, N14q, e14q⟩, st14⟩ := own_callV X0 hx hZ hown (tw_34 hw) (tw_35 hw) (notFace_of_selects (args := #[]) (mvT hZ (tw_37 hw))) (tw_37 hw) (tw_36 hw) (tw_10 hw) (tw_38 hw) (rm7_13 hw a1 p2 a3 w4 p5 p6 p7 p8 p9 p10 p11 p12 a13 Z0 P1 P2 P3 P4 P5 P6 P7 P8 P9 P10 P11 P12 P13) e0 P1 (Ls := #[sr a1]) hml [vi 42] [] pd_10 0 (hb hby d6_3)
  have N14 := Fr.app N0 N14q
  refine ⟨T14, _, _, _, _, some (vi 1), X14, e14q, by decide, by decide, nofun, ⟨rfl, N14, rfl⟩, fun fs hr => ?_⟩
  refine own_b X0 hx hby tb6 2 [] 3 _ [vi 42, vr a1] rfl ?_
  refine st14 _ ?_
  refine own_b X14 hx hby tb6 3 [false] 14 _ [vi 1] (ai (flt H1).1 rfl) ?_
  exact retN X14 hx (t := .boolean) hret (by simp) (hb hby d6_14) hr
theorem rm6_35 (hw : OW Z a0) (a1 : Addr) (p2 : Int32) (a3 : Addr) (w4 : ClassId) (p5 p6 p7 p8 p9 p10 p11 p12 : Int32) (a13 : Value) (Z0 : n0 ≤ h0.size) (P1 : ab8 Z h0 a1) (P2 : ab1 Z (vi p2)) (P3 : Old Z n0 h0) (P4 : ¬ (p2 = (0 : Int32))) (P5 : ab6 Z h0 a1 (vi 1)) (P6 : ab7 Z h0 a1 (vr a3)) (P7 : Arv Z h0 a3 w4 .byte (8 : Int32) [vi p5, vi p6, vi p7, vi p8, vi p9, vi p10, vi p11, vi p12] (vi 0)) (P8 : ab5 Z a13) (P9 : a13.isRef = true) (P10 : ab2 Z (vi 1)) (P11 : ab3 Z (vi 0)) (P12 : ab4 Z (vi 8)) (P13 : ¬ ((nar .char (va8 p9 p10)) = (42 : Int32))) :
    M6 l Z ws (orm 7 0 0 100) #[vr a1] h0 (QI n0 h0 (vi (va45 p5 p6 p7 p8 p11 p12))) := by
  by_cases H1 : (va44 p5 p6 p7 p8 p11 p12) < (0 : Int32)
  ·
    rw [show (va45 p5 p6 p7 p8 p11 p12) = (0 : Int32) from by simp only [va45, if_pos H1]]
    exact rm6_33 hw a1 p2 a3 w4 p5 p6 p7 p8 p9 p10 p11 p12 a13 Z0 P1 P2 P3 P4 P5 P6 P7 P8 P9 P10 P11 P12 P13 H1
  ·
    rw [show (va45 p5 p6 p7 p8 p11 p12) = (1 : Int32) from by simp only [va45, if_neg H1]]
    exact rm6_34 hw a1 p2 a3 w4 p5 p6 p7 p8 p9 p10 p11 p12 a13 Z0 P1 P2 P3 P4 P5 P6 P7 P8 P9 P10 P11 P12 P13 H1
theorem rm17_13 (hw : OW Z a0) (a1 a2 : Addr) (w3 : ClassId) (p4 p5 p6 p7 : Int32) (w8 : ClassId) (Z0 : n0 ≤ h0.size) (P1 : Arv Z h0 a1 w3 .char (4 : Int32) [vi p4, vi p5, vi p6, vi p7] (vi 0)) (P2 : ¬ ((255 : Int32) < p4)) (P3 : Arv Z h0 a2 w8 .byte (4 : Int32) [vi 0, vi 0, vi 0, vi 0] (vi 0)) (P4 : n0 ≤ a2) (P5 : a1 ≠ a2) (P6 : ¬ ((255 : Int32) < p5)) (P7 : ¬ ((255 : Int32) < p6)) (P8 : (255 : Int32) < p7) :
    M17 l Z ws (orm 0 0 0 0) #[vr a1, vi 0, vr a2, vi 0, vi 4] h0 (fun v h L => v = some (vi 3) ∧ Fr n0 L ∧ Keep h0 h [a2] ∧ Arv Z h a2 w8 .byte (4 : Int32) [vi ((p4.toInt8.toInt32).toInt8.toInt32), vi ((p5.toInt8.toInt32).toInt8.toInt32), vi ((p6.toInt8.toInt32).toInt8.toInt32), vi 0] (vi 0)) := by
  refine own_enter (plainFor_of_name pn_4) (L0 := (L_ririiuu a1 0 a2 0 4)) ?_
  intro p e s m below meth c s₁ hx hby hml hown hnm hret hZ X0 e0
  have N0 := Fr.nil n0
  obtain ⟨T9, h9, X9, e9, W9, V9, st9⟩ := own_stB X0 hx hZ e0 P3 (j := (0 : Int32)) (x := (p4.toInt8.toInt32)) (by decide) 0 rfl (Nat.le_of_ble_eq_true rfl) (Ls := (L_ririiii a1 0 a2 0 4 0 p4)) (rest := []) (hb hby d17_31)
  have N9 := Fr.snoc X9 N0 P4
  have F10 := (Arv.other P1 W9 P5)
  obtain ⟨T11, h11, X11, e11, W11, V11, st11⟩ := own_stB X9 hx hZ e9 V9 (j := (1 : Int32)) (x := (p5.toInt8.toInt32)) (by decide) 1 rfl (Nat.le_of_ble_eq_true rfl) (Ls := (L_ririiii a1 1 a2 1 4 1 p5)) (rest := []) (hb hby d17_31)
  have N11 := Fr.snoc X11 N9 P4
  have F12 := (Arv.other F10 W11 P5)
  obtain ⟨T13, h13, X13, e13, W13, V13, st13⟩ := own_stB X11 hx hZ e11 V11 (j := (2 : Int32)) (x := (p6.toInt8.toInt32)) (by decide) 2 rfl (Nat.le_of_ble_eq_true rfl) (Ls := (L_ririiii a1 2 a2 2 4 2 p6)) (rest := []) (hb hby d17_31)
  have N13 := Fr.snoc X13 N11 P4
  have F14 := (Arv.other F12 W13 P5)
  have K15 := (Keep.refl h0 [a2]).wr W9 (Or.inl (List.mem_of_getElem? (i := 0) rfl))
  have K16 := K15.wr W11 (Or.inl (List.mem_of_getElem? (i := 0) rfl))
  have K17 := K16.wr W13 (Or.inl (List.mem_of_getElem? (i := 0) rfl))
  refine ⟨T13, _, _, _, _, some (vi 3), X13, e13, by decide, by decide, nofun, ⟨rfl, N13, K17, V13⟩, fun fs hr => ?_⟩
  refine own_a X0 hx hZ e0 hby tb17 (aec P1 aen) 16 [false, true] [0] 31 (L_ririiii a1 0 a2 0 4 0 p4) [vi (p4.toInt8.toInt32), vi 0, vr a2] (ai (by decide) (ai rfl (ai (flt P2).2.2.2 rfl))) ?_
  refine st9 _ ?_
  refine own_a X9 hx hZ e9 hby tb17 (aec F10 aen) 18 [false, true] [0] 31 (L_ririiii a1 1 a2 1 4 1 p5) [vi (p5.toInt8.toInt32), vi 1, vr a2] (ai (by decide) (ai rfl (ai (flt P6).2.2.2 rfl))) ?_
  refine st11 _ ?_
  refine own_a X11 hx hZ e11 hby tb17 (aec F12 aen) 18 [false, true] [0] 31 (L_ririiii a1 2 a2 2 4 2 p6) [vi (p6.toInt8.toInt32), vi 2, vr a2] (ai (by decide) (ai rfl (ai (flt P7).2.2.2 rfl))) ?_
  refine st13 _ ?_
  refine own_a X13 hx hZ e13 hby tb17 (aec F14 aen) 15 [false, false] [0] 25 (L_ririiii a1 3 a2 3 4 3 p7) [vi 3] (ai (by decide) (ai rfl (ai (tlt P8).2.2.2 rfl))) ?_
  exact retI X13 hx hret (hb hby d17_25) hr
theorem rm16_13 (hw : OW Z a0) (a1 : Addr) (w4 : ClassId) (p5 p6 p7 p8 : Int32) (Z0 : n0 ≤ h0.size) (P1 : Arv Z h0 a1 w4 .char (4 : Int32) [vi p5, vi p6, vi p7, vi p8] (vi 0)) (P2 : ¬ ((255 : Int32) < p5)) (P3 : ¬ ((255 : Int32) < p6)) (P4 : ¬ ((255 : Int32) < p7)) (P5 : (255 : Int32) < p8) (P6 : ab2 Z (vi 1)) (P7 : Old Z n0 h0) (P8 : ab3 Z (vi 0)) (P9 : ab4 Z (vi 8)) (P10 : (255 : Int32) < (nar .char (va8 ((va4 p8).toInt8.toInt32) ((va5 p8).toInt8.toInt32)))) :
    M16 l Z ws (orm 3 2 12 40) #[vr a1, vi 0, vi 4] h0 (fun v h L => ∃ b15 : Addr, ∃ kk14_0 : ClassId, v = some (vr b15) ∧ Fr n0 L ∧ Keep h0 h [] ∧ n0 ≤ b15 ∧ h0.size ≤ b15 ∧ Arv Z h b15 kk14_0 .byte (8 : Int32) [vi ((va4 p5).toInt8.toInt32), vi ((va5 p5).toInt8.toInt32), vi ((va4 p6).toInt8.toInt32), vi ((va5 p6).toInt8.toInt32), vi ((va4 p7).toInt8.toInt32), vi ((va5 p7).toInt8.toInt32), vi ((va4 p8).toInt8.toInt32), vi ((va5 p8).toInt8.toInt32)] (vi 0)) := by
  refine own_enter (plainFor_of_name pn_4) (L0 := (L_riiuuu a1 0 4)) ?_
  intro p e s m below meth c s₁ hx hby hml hown hnm hret hZ X0 e0
  have N0 := Fr.nil n0
  obtain ⟨T3, h3, b2, k3, X3, e3, E3, g3, V3, st3⟩ := own_newP X0 hx hZ (tw_23 hw) e0 (n := (4 : Int32)) (k := 4) (d := (vi 0)) (vs := [vi 0, vi 0, vi 0, vi 0]) (Ls := (L_riiuuu a1 0 4)) (S := []) (hb hby d16_1)
  have q3 := Nat.le_trans Z0 g3
  have z3 := Nat.le_trans (Nat.le_refl h0.size) g3
  have F9 := (P1.ext E3)
  have n10 := Nat.ne_of_lt (Nat.lt_of_lt_of_le P1.lt g3)
  obtain ⟨T11, L11, _, X11, ⟨rfl, N11q, K11, f11_0⟩, st11⟩ := own_callS X3 hx hZ hown (cw_6 hw) (rm17_13 hw a1 b2 w4 p5 p6 p7 p8 k3 (Nat.le_trans Z0 E3.1) F9 P2 V3 q3 n10 P3 P4 P5) e3 (Ls := (L_riiruu a1 0 4 b2)) hml [vr a1, vi 0, vr b2, vi 0, vi 4] [] pd_12 0 (hb hby d16_9)
  have N11 := Fr.app N0 N11q
  have F12 := (Arv.keep F9 K11 (ninS n10 nin0))
  have F13 := ((P7.ext E3).keep K11 (allS q3 all0))
  obtain ⟨T14, L14, _, X14, ⟨b15, kk14_0, rfl, N14q, K14, qa14_0, qb14_0, f14_0⟩, st14⟩ := own_callS X11 hx hZ hown (cw_10 hw) (rm20_4 hw a1 w4 p5 p6 p7 p8 (Nat.le_trans (Nat.le_trans Z0 E3.1) K11.1) F12 P6 F13 P8 P9) rfl (Ls := (L_riiriu a1 0 4 b2 3)) hml [vr a1, vi 0, vi 4] [] pd_15 0 (hb hby d16_23)
  have N14 := Fr.app N11 N14q
  have F16 := (Nat.le_trans (Nat.le_trans (Nat.le_refl h0.size) E3.1) K11.1)
  have qd14_0 := Nat.le_trans F16 qb14_0
  have F17 := (F13.keep K14 all0)
  have F19 := (Nat.le_trans (Nat.le_trans (Nat.le_trans Z0 E3.1) K11.1) K14.1)
  obtain ⟨T18, L18, _, X18, ⟨rfl, N18q, e18q⟩, st18⟩ := own_callS X14 hx hZ hown (cw_11 hw) (rm24_10 hw b15 kk14_0 ((va4 p5).toInt8.toInt32) ((va5 p5).toInt8.toInt32) ((va4 p6).toInt8.toInt32) ((va5 p6).toInt8.toInt32) ((va4 p7).toInt8.toInt32) ((va5 p7).toInt8.toInt32) ((va4 p8).toInt8.toInt32) ((va5 p8).toInt8.toInt32) F19 P6 F17 f14_0 P8 P9) rfl (Ls := (L_riirir a1 0 4 b2 3 b15)) hml [vr b15, vi 3] [] pd_16 0 (hb hby d16_32)
  have N18 := Fr.app N14 N18q
  have K20 := (Keep.refl h0 []).ext E3
  have K21 := K20.trans K11 (allS (Or.inr z3) all0)
  have K22 := K21.trans K14 all0
  refine ⟨T18, _, _, _, _, some (vr b15), X18, e18q, by decide, by decide, nofun, ⟨b15, kk14_0, rfl, N18, K22, qa14_0, qd14_0, f14_0⟩, fun fs hr => ?_⟩
  refine own_b X0 hx hby tb16 1 [] 1 _ [vi 4] rfl ?_
  refine st3 _ ?_
  refine own_b X3 hx hby tb16 6 [] 9 (L_riiruu a1 0 4 b2) [vi 4, vi 0, vr b2, vi 0, vr a1] rfl ?_
  refine st11 _ ?_
  refine own_b X11 hx hby tb16 7 [false] 23 (L_riiriu a1 0 4 b2 3) [vi 4, vi 0, vr a1] (ai (by decide) rfl) ?_
  refine st14 _ ?_
  refine own_b X14 hx hby tb16 3 [] 32 (L_riirir a1 0 4 b2 3 b15) [vi 3, vr b15] rfl ?_
  refine st18 _ ?_
  refine own_b X18 hx hby tb16 3 [true] 56 _ [vr b15] (ai (tlt P10).2.2.1 rfl) ?_
  exact own_retA X18 hx hret rfl (hb hby d16_56) hr
theorem rm4_14 (hw : OW Z a0) (a1 a2 : Addr) (p4 : Int32) (w6 : ClassId) (p7 p8 p9 p10 : Int32) (Z0 : n0 ≤ h0.size) (P1 : ab1 Z (vi p4)) (P2 : Old Z n0 h0) (P3 : ¬ (p4 = (0 : Int32))) (P4 : Arv Z h0 a2 w6 .char (4 : Int32) [vi p7, vi p8, vi p9, vi p10] (vi 0)) (P5 : ¬ ((255 : Int32) < p7)) (P6 : ¬ ((255 : Int32) < p8)) (P7 : ¬ ((255 : Int32) < p9)) (P8 : (255 : Int32) < p10) (P9 : ab2 Z (vi 1)) (P10 : ab3 Z (vi 0)) (P11 : ab4 Z (vi 8)) (P12 : (255 : Int32) < (nar .char (va8 ((va4 p10).toInt8.toInt32) ((va5 p10).toInt8.toInt32)))) (P13 : ab6 Z h0 a1 (vi 0)) (P14 : ab8 Z h0 a1) (P15 : n0 ≤ a1) (P16 : ab7 Z h0 a1 .null) :
    M4 l Z ws (orm 4 2 12 57) #[vr a1, vr a2, vi 0, vi 4, .null] h0 (fun v h L => ∃ b12 : Addr, ∃ kk11_0 : ClassId, v = none ∧ Fr n0 L ∧ Keep h0 h [a1] ∧ n0 ≤ b12 ∧ h0.size ≤ b12 ∧ ab6 Z h a1 (vi 1) ∧ ab7 Z h a1 (vr b12) ∧ Arv Z h b12 kk11_0 .byte (8 : Int32) [vi ((va4 p7).toInt8.toInt32), vi ((va5 p7).toInt8.toInt32), vi ((va4 p8).toInt8.toInt32), vi ((va5 p8).toInt8.toInt32), vi ((va4 p9).toInt8.toInt32), vi ((va5 p9).toInt8.toInt32), vi ((va4 p10).toInt8.toInt32), vi ((va5 p10).toInt8.toInt32)] (vi 0)) := by
  refine own_enter (plainFor_of_name pn_1) (L0 := (L_rriinu a1 a2 0 4)) ?_
  intro p e s m below meth c s₁ hx hby hml hown hnm hret hZ X0 e0
  have N0 := Fr.nil n0
  obtain ⟨T3, X3, e3, st3⟩ := initO X0 hx hZ hown (tw_19 hw) (tw_20 hw) (tw_21 hw) e0 (g := (mkF m 1 (L_rriinu a1 a2 0 4) [vr a1])) rfl (by rw [hml]; rfl) rfl (hb hby d4_1) (by decide) (W := 0) (by show 2 * 0 + _ ≤ _; exact Nat.le_of_eq rfl) (by decide)
  obtain ⟨T5, X5, e5, st5⟩ := getS2 X3 hx hZ hown (host := "") (Or.inl (tw_49 hw)) Via.refl e3 (Sta.ext P2.2 P1) (g := (mkF m 27 (L_rriinu a1 a2 0 4) [])) rfl (hb hby d4_27)
  obtain ⟨T11, L11, _, X11, ⟨b12, kk11_0, rfl, N11q, K11, qa11_0, qb11_0, f11_0⟩, st11⟩ := own_callS X5 hx hZ hown (cw_12 hw) (rm16_13 hw a2 w6 p7 p8 p9 p10 Z0 P4 P5 P6 P7 P8 P9 P2 P10 P11 P12) e5 (Ls := (L_rriinu a1 a2 0 4)) hml [vr a2, vi 0, vi 4] [] pd_15 0 (hb hby d4_36)
  have N11 := Fr.app N0 N11q
  have qd11_0 := Nat.le_trans (Nat.le_refl h0.size) qb11_0
  obtain ⟨T13, L13, _, X13, ⟨rfl, N13q, e13q⟩, st13⟩ := own_callS X11 hx hZ hown (cw_13 hw) (rm18_7 hw b12 kk11_0 ((va4 p7).toInt8.toInt32) ((va5 p7).toInt8.toInt32) ((va4 p8).toInt8.toInt32) ((va5 p8).toInt8.toInt32) ((va4 p9).toInt8.toInt32) ((va5 p9).toInt8.toInt32) ((va4 p10).toInt8.toInt32) ((va5 p10).toInt8.toInt32) (Nat.le_trans Z0 K11.1) f11_0) rfl (Ls := (L_rriinr a1 a2 0 4 b12)) hml [vr b12, vi 4] [vr a1] pd_17 1 (hb hby d4_45)
  have N13 := Fr.app N11 N13q
  have F14 := (Fld.keep P13 K11 nin0)
  have F15 := (Exa.keep P14 K11)
  obtain ⟨T16, h16, X16, e16, W16, st16⟩ := putF X13 hx hZ hown (host := "") (Or.inl (tw_29 hw)) Via.refl e13q F14 F15 (Or.inr ⟨(tw_25 hw), rfl, hnm⟩) (tw_9 hw) (ty := .byte) (by decide) rfl rfl (g := (mkF m 48 (L_rriinr a1 a2 0 4 b12) [vi 1, vr a1])) rfl rfl (hb hby d4_48)
  have N16 := Fr.snoc X16 N13 P15
  have Fw16 := Fld.same W16 F14
  have F17 := (Fld.other W16 (Fld.keep P16 K11 nin0) (Or.inr (slot_ne (Or.inr (tw_24 hw)) (Or.inr (tw_25 hw)) (by decide) (t := (.array .byte)) (t' := .byte) (by decide) (by decide))))
  have F18 := (Exa.wr W16 F15)
  obtain ⟨T19, h19, X19, e19, W19, st19⟩ := putF X16 hx hZ hown (host := "") (Or.inl (tw_28 hw)) Via.refl e16 F17 F18 (Or.inr ⟨(tw_24 hw), rfl, hnm⟩) (tw_9 hw) (ty := (.array .byte)) (by decide) rfl rfl (g := (mkF m 54 (L_rriinr a1 a2 0 4 b12) [vr b12, vr a1])) rfl rfl (hb hby d4_54)
  have N19 := Fr.snoc X19 N16 P15
  have Fw19 := Fld.same W19 F17
  have F20 := (Fld.other W19 Fw16 (Or.inr (slot_ne (Or.inr (tw_25 hw)) (Or.inr (tw_24 hw)) (by decide) (t := .byte) (t' := (.array .byte)) (by decide) (by decide))))
  have n21 := Nat.ne_of_lt (Nat.lt_of_lt_of_le P13.lt qb11_0)
  have F22 := (Arv.other (Arv.other f11_0 W16 (Ne.symm n21)) W19 (Ne.symm n21))
  have K23 := (Keep.refl h0 [a1]).trans K11 all0
  have K24 := K23.wr W16 (Or.inl (List.mem_of_getElem? (i := 0) rfl))
  have K25 := K24.wr W19 (Or.inl (List.mem_of_getElem? (i := 0) rfl))
  refine ⟨T19, _, _, _, _, none, X19, e19, by decide, by decide, (fun _ => rfl), ⟨b12, kk11_0, rfl, N19, K25, qa11_0, qd11_0, F20, Fw19, F22⟩, fun fs hr => ?_⟩
  refine own_b X0 hx hby tb4 1 [] 1 _ [vr a1] rfl ?_
  refine st3 _ ?_
  refine own_b X3 hx hby tb4 2 [true] 27 _ [] (ai (by decide) rfl) ?_
  refine st5 _ ?_
  refine own_b X5 hx hby tb4 4 [false] 36 _ [vi 4, vi 0, vr a2] (ai (feq P3).1 rfl) ?_
  refine st11 _ ?_
  refine own_b X11 hx hby tb4 4 [] 45 (L_rriinr a1 a2 0 4 b12) [vi 4, vr b12, vr a1] rfl ?_
  refine st13 _ ?_
  refine st16 _ ?_
  refine own_b X16 hx hby tb4 2 [] 54 _ [vr b12, vr a1] rfl ?_
  refine st19 _ ?_
  show OS p e below T19 m 57 (L_rriinr a1 a2 0 4 b12) [] _
  exact X19.returnOut hx hret (hb hby d4_57) hr
theorem rm3_14 (hw : OW Z a0) (a1 a2 : Addr) (w3 : ClassId) (p4 p5 p6 p7 p8 : Int32) (Z0 : n0 ≤ h0.size) (P1 : Arv Z h0 a2 w3 .char (4 : Int32) [vi p4, vi p5, vi p6, vi p7] (vi 0)) (P2 : ab1 Z (vi p8)) (P3 : Old Z n0 h0) (P4 : ¬ (p8 = (0 : Int32))) (P5 : ¬ ((255 : Int32) < p4)) (P6 : ¬ ((255 : Int32) < p5)) (P7 : ¬ ((255 : Int32) < p6)) (P8 : (255 : Int32) < p7) (P9 : ab2 Z (vi 1)) (P10 : ab3 Z (vi 0)) (P11 : ab4 Z (vi 8)) (P12 : (255 : Int32) < (nar .char (va8 ((va4 p7).toInt8.toInt32) ((va5 p7).toInt8.toInt32)))) (P13 : ab6 Z h0 a1 (vi 0)) (P14 : ab8 Z h0 a1) (P15 : n0 ≤ a1) (P16 : ab7 Z h0 a1 .null) :
    M3 l Z ws (orm 5 2 12 74) #[vr a1, vr a2] h0 (fun v h L => ∃ b10 : Addr, ∃ kk9_0 : ClassId, v = none ∧ Fr n0 L ∧ Keep h0 h [a1] ∧ n0 ≤ b10 ∧ h0.size ≤ b10 ∧ ab6 Z h a1 (vi 1) ∧ ab7 Z h a1 (vr b10) ∧ Arv Z h b10 kk9_0 .byte (8 : Int32) [vi ((va4 p4).toInt8.toInt32), vi ((va5 p4).toInt8.toInt32), vi ((va4 p5).toInt8.toInt32), vi ((va5 p5).toInt8.toInt32), vi ((va4 p6).toInt8.toInt32), vi ((va5 p6).toInt8.toInt32), vi ((va4 p7).toInt8.toInt32), vi ((va5 p7).toInt8.toInt32)] (vi 0)) := by
  refine own_enter (plainFor_of_name pn_1) (L0 := (L_rr a1 a2)) ?_
  intro p e s m below meth c s₁ hx hby hml hown hnm hret hZ X0 e0
  have N0 := Fr.nil n0
  obtain ⟨T9, L9, _, X9, ⟨b10, kk9_0, rfl, N9q, K9, qa9_0, qb9_0, f9_0, f9_1, f9_2⟩, st9⟩ := own_callI X0 hx hZ hown (cw_14 hw) (rm4_14 hw a1 a2 p8 w3 p4 p5 p6 p7 Z0 P2 P3 P4 P1 P5 P6 P7 P8 P9 P10 P11 P12 P13 P14 P15 P16) e0 (Ls := (L_rr a1 a2)) hml a1 [vr a2, vi 0, vi 4, .null] [] pd_1 0 (hb hby d3_6)
  have N9 := Fr.app N0 N9q
  have qd9_0 := Nat.le_trans (Nat.le_refl h0.size) qb9_0
  have K11 := (Keep.refl h0 [a1]).trans K9 (allS (Or.inl (List.mem_of_getElem? (i := 0) rfl)) all0)
  refine ⟨T9, _, _, _, _, none, X9, rfl, by decide, by decide, (fun _ => rfl), ⟨b10, kk9_0, rfl, N9, K11, qa9_0, qd9_0, f9_0, f9_1, f9_2⟩, fun fs hr => ?_⟩
  refine own_a X0 hx hZ e0 hby tb3 (aec P1 aen) 6 [] [0] 6 _ [.null, vi 4, vi 0, vr a2, vr a1] (ai rfl rfl) ?_
  refine st9 _ ?_
  show OS p e below T9 m 9 (L_rr a1 a2) [] _
  exact X9.returnOut hx hret (hb hby d3_9) hr
theorem rm2_14 (hw : OW Z a0) (p1 p2 p3 p4 p15 : Int32) (Z0 : n0 ≤ h0.size) (P1 : ab1 Z (vi p15)) (P2 : Old Z n0 h0) (P3 : ¬ (p15 = (0 : Int32))) (P4 : ¬ ((255 : Int32) < (nar .char p1))) (P5 : ¬ ((255 : Int32) < (nar .char p2))) (P6 : ¬ ((255 : Int32) < (nar .char p3))) (P7 : (255 : Int32) < (nar .char p4)) (P8 : ab2 Z (vi 1)) (P9 : ab3 Z (vi 0)) (P10 : ab4 Z (vi 8)) (P11 : (255 : Int32) < (nar .char (va8 ((va4 (nar .char p4)).toInt8.toInt32) ((va5 (nar .char p4)).toInt8.toInt32)))) :
    M2 l Z ws (orm 6 4 20 88) #[vi 4, vi p1, vi p2, vi p3, vi p4] h0 (fun v h L => ∃ b5 : Addr, ∃ b23 : Addr, ∃ kk21_0 : ClassId, v = some (vr b5) ∧ Fr n0 L ∧ Keep h0 h [] ∧ n0 ≤ b5 ∧ h0.size ≤ b5 ∧ n0 ≤ b23 ∧ h0.size ≤ b23 ∧ b5 ≠ b23 ∧ ab8 Z h b5 ∧ ab6 Z h b5 (vi 1) ∧ ab7 Z h b5 (vr b23) ∧ Arv Z h b23 kk21_0 .byte (8 : Int32) [vi ((va4 (nar .char p1)).toInt8.toInt32), vi ((va5 (nar .char p1)).toInt8.toInt32), vi ((va4 (nar .char p2)).toInt8.toInt32), vi ((va5 (nar .char p2)).toInt8.toInt32), vi ((va4 (nar .char p3)).toInt8.toInt32), vi ((va5 (nar .char p3)).toInt8.toInt32), vi ((va4 (nar .char p4)).toInt8.toInt32), vi ((va5 (nar .char p4)).toInt8.toInt32)] (vi 0)) := by
  refine own_enter (plainFor_of_name pn_0) (L0 := (L_iiiii 4 p1 p2 p3 p4)) ?_
  intro p e s m below meth c s₁ hx hby hml hown hnm hret hZ X0 e0
  have N0 := Fr.nil n0
  obtain ⟨T6, h6, b5, X6, e6, E6, g6, A6, D6, st6⟩ := own_new X0 hx hZ hown (tw_8 hw) (tw_9 hw) (tw_10 hw) e0 (Ls := (L_iiiii 4 p1 p2 p3 p4)) (S := []) (hb hby d2_87)
  have q6 := Nat.le_trans Z0 g6
  have z6 := Nat.le_trans (Nat.le_refl h0.size) g6
  have F7 : ab7 Z h6 b5 .null := D6 (Or.inr (tw_24 hw)) (ty := (.array .byte)) (by decide)
  have F8 : ab6 Z h6 b5 (vi 0) := D6 (Or.inr (tw_25 hw)) (ty := .byte) (by decide)
  obtain ⟨T10, h10, b9, k10, X10, e10, E10, g10, V10, st10⟩ := own_newP X6 hx hZ (tw_11 hw) e6 (n := (4 : Int32)) (k := 4) (d := (vi 0)) (vs := [vi 0, vi 0, vi 0, vi 0]) (Ls := (L_iiiii 4 p1 p2 p3 p4)) (S := [vr b5, vr b5]) (hb hby d2_92)
  have q10 := Nat.le_trans (Nat.le_trans Z0 E6.1) g10
  have z10 := Nat.le_trans (Nat.le_trans (Nat.le_refl h0.size) E6.1) g10
  obtain ⟨T11, h11, X11, e11, W11, V11, st11⟩ := own_stC X10 hx hZ e10 V10 (j := (0 : Int32)) (x := p1) (by decide) 0 rfl (Nat.le_of_ble_eq_true rfl) (Ls := (L_iiiii 4 p1 p2 p3 p4)) (rest := [vr b9, vr b5, vr b5]) (hb hby d2_97)
  have N11 := Fr.snoc X11 N0 q10
  obtain ⟨T12, h12, X12, e12, W12, V12, st12⟩ := own_stC X11 hx hZ e11 V11 (j := (1 : Int32)) (x := p2) (by decide) 1 rfl (Nat.le_of_ble_eq_true rfl) (Ls := (L_iiiii 4 p1 p2 p3 p4)) (rest := [vr b9, vr b5, vr b5]) (hb hby d2_101)
  have N12 := Fr.snoc X12 N11 q10
  obtain ⟨T13, h13, X13, e13, W13, V13, st13⟩ := own_stC X12 hx hZ e12 V12 (j := (2 : Int32)) (x := p3) (by decide) 2 rfl (Nat.le_of_ble_eq_true rfl) (Ls := (L_iiiii 4 p1 p2 p3 p4)) (rest := [vr b9, vr b5, vr b5]) (hb hby d2_105)
  have N13 := Fr.snoc X13 N12 q10
  obtain ⟨T14, h14, X14, e14, W14, V14, st14⟩ := own_stC X13 hx hZ e13 V13 (j := (3 : Int32)) (x := p4) (by decide) 3 rfl (Nat.le_of_ble_eq_true rfl) (Ls := (L_iiiii 4 p1 p2 p3 p4)) (rest := [vr b9, vr b5, vr b5]) (hb hby d2_110)
  have N14 := Fr.snoc X14 N13 q10
  have F16 := ((((((P2.ext E6).ext E10).wr W11 q10).wr W12 q10).wr W13 q10).wr W14 q10)
  have n17 := Nat.ne_of_lt (Nat.lt_of_lt_of_le A6.lt g10)
  have F18 := (Fld.other W14 (Fld.other W13 (Fld.other W12 (Fld.other W11 (Fld.ext E10 F8) (Or.inl n17)) (Or.inl n17)) (Or.inl n17)) (Or.inl n17))
  have F19 := (Exa.wr W14 (Exa.wr W13 (Exa.wr W12 (Exa.wr W11 (Exa.ext E10 A6)))))
  have F20 := (Fld.other W14 (Fld.other W13 (Fld.other W12 (Fld.other W11 (Fld.ext E10 F7) (Or.inl n17)) (Or.inl n17)) (Or.inl n17)) (Or.inl n17))
  have F22 := (Nat.le_trans (Nat.le_trans (Nat.le_trans (Nat.le_trans (Nat.le_trans (Nat.le_trans Z0 E6.1) E10.1) (Keep.of_wr W11).1) (Keep.of_wr W12).1) (Keep.of_wr W13).1) (Keep.of_wr W14).1)
  obtain ⟨T21, L21, _, X21, ⟨b23, kk21_0, rfl, N21q, K21, qa21_0, qb21_0, f21_0, f21_1, f21_2⟩, st21⟩ := own_callI X14 hx hZ hown (cw_15 hw) (rm3_14 hw b5 b9 k10 (nar .char p1) (nar .char p2) (nar .char p3) (nar .char p4) p15 F22 V14 P1 F16 P3 P4 P5 P6 P7 P8 P9 P10 P11 F18 F19 q6 F20) e14 (Ls := (L_iiiii 4 p1 p2 p3 p4)) hml b5 [vr b9] [vr b5] pd_2 1 (hb hby d2_111)
  have N21 := Fr.app N14 N21q
  have F24 := (Nat.le_trans (Nat.le_trans (Nat.le_trans (Nat.le_trans (Nat.le_trans (Nat.le_trans (Nat.le_refl h0.size) E6.1) E10.1) (Keep.of_wr W11).1) (Keep.of_wr W12).1) (Keep.of_wr W13).1) (Keep.of_wr W14).1)
  have qd21_0 := Nat.le_trans F24 qb21_0
  have F25 := (Exa.keep F19 K21)
  have K26 := (Keep.refl h0 []).ext E6
  have K27 := K26.ext E10
  have K28 := K27.wr W11 (Or.inr z10)
  have K29 := K28.wr W12 (Or.inr z10)
  have K30 := K29.wr W13 (Or.inr z10)
  have K31 := K30.wr W14 (Or.inr z10)
  have K32 := K31.trans K21 (allS (Or.inr z6) all0)
  have n33 := Nat.ne_of_lt (Nat.lt_of_lt_of_le F18.lt qb21_0)
  refine ⟨T21, _, _, _, _, some (vr b5), X21, rfl, by decide, by decide, nofun, ⟨b5, b23, kk21_0, rfl, N21, K32, q6, z6, qa21_0, qd21_0, n33, F25, f21_0, f21_1, f21_2⟩, fun fs hr => ?_⟩
  refine own_b X0 hx hby tb2 11 [true, true, true, true] 87 _ [] (ai (by decide) (ai (by decide) (ai (by decide) (ai (by decide) rfl)))) ?_
  refine st6 _ ?_
  refine own_b X6 hx hby tb2 2 [] 92 _ [vi 4, vr b5, vr b5] rfl ?_
  refine st10 _ ?_
  refine own_b X10 hx hby tb2 3 [] 97 _ [vi p1, vi 0, vr b9, vr b9, vr b5, vr b5] rfl ?_
  refine st11 _ ?_
  refine own_b X11 hx hby tb2 3 [] 101 _ [vi p2, vi 1, vr b9, vr b9, vr b5, vr b5] rfl ?_
  refine st12 _ ?_
  refine own_b X12 hx hby tb2 3 [] 105 _ [vi p3, vi 2, vr b9, vr b9, vr b5, vr b5] rfl ?_
  refine st13 _ ?_
  refine own_b X13 hx hby tb2 3 [] 110 _ [vi p4, vi 3, vr b9, vr b9, vr b5, vr b5] rfl ?_
  refine st14 _ ?_
  refine st21 _ ?_
  exact own_retA X21 hx hret rfl (hb hby d2_114) hr
theorem rm31_33 (hw : OW Z a0) (a1 : Addr) (w2 : ClassId) (p3 p4 p5 p6 p7 p8 p9 p10 : Int32) (Z0 : n0 ≤ h0.size) (P1 : ab2 Z (vi 1)) (P2 : Old Z n0 h0) (P3 : Arv Z h0 a1 w2 .byte (8 : Int32) [vi p3, vi p4, vi p5, vi p6, vi p7, vi p8, vi p9, vi p10] (vi 0)) (P4 : ab3 Z (vi 0)) (P5 : ab4 Z (vi 8)) (H1 : ¬ ((nar .char (va8 p3 p4)) = (42 : Int32))) (H2 : ¬ ((nar .char (va8 p5 p6)) = (42 : Int32))) (H3 : (nar .char (va8 p7 p8)) = (42 : Int32)) :
    M31 l Z ws (orm 1 0 0 13) #[vr a1, vi 42, vi 0, vi 4] h0 (QI n0 h0 (vi 2)) := by
  refine own_enter (plainFor_of_name pn_4) (L0 := (L_riiiu a1 42 0 4)) ?_
  intro p e s m below meth c s₁ hx hby hml hown hnm hret hZ X0 e0
  have N0 := Fr.nil n0
  obtain ⟨T11, L11, _, X11, ⟨rfl, N11q, e11q⟩, st11⟩ := own_callS X0 hx hZ hown (cw_11 hw) (rm24_7 hw a1 w2 p3 p4 p5 p6 p7 p8 p9 p10 Z0 P1 P2 P3 P4 P5) e0 (Ls := (L_riiii a1 42 0 4 0)) hml [vr a1, vi 0] [] pd_16 0 (hb hby d31_12)
  have N11 := Fr.app N0 N11q
  obtain ⟨T12, L12, _, X12, ⟨rfl, N12q, e12q⟩, st12⟩ := own_callS X11 hx hZ hown (cw_11 hw) (rm24_8 hw a1 w2 p3 p4 p5 p6 p7 p8 p9 p10 Z0 P1 P2 P3 P4 P5) e11q (Ls := (L_riiii a1 42 0 4 1)) hml [vr a1, vi 1] [] pd_16 0 (hb hby d31_12)
  have N12 := Fr.app N11 N12q
  obtain ⟨T13, L13, _, X13, ⟨rfl, N13q, e13q⟩, st13⟩ := own_callS X12 hx hZ hown (cw_11 hw) (rm24_9 hw a1 w2 p3 p4 p5 p6 p7 p8 p9 p10 Z0 P1 P2 P3 P4 P5) e12q (Ls := (L_riiii a1 42 0 4 2)) hml [vr a1, vi 2] [] pd_16 0 (hb hby d31_12)
  have N13 := Fr.app N12 N13q
  refine ⟨T13, _, _, _, _, some (vi 2), X13, e13q, by decide, by decide, nofun, ⟨rfl, N13, rfl⟩, fun fs hr => ?_⟩
  refine own_b X0 hx hby tb31 7 [false] 12 (L_riiii a1 42 0 4 0) [vi 0, vr a1] (ai (by decide) rfl) ?_
  refine st11 _ ?_
  refine own_b X11 hx hby tb31 9 [true, false] 12 (L_riiii a1 42 0 4 1) [vi 1, vr a1] (ai (feq H1).2 (ai (by decide) rfl)) ?_
  refine st12 _ ?_
  refine own_b X12 hx hby tb31 9 [true, false] 12 (L_riiii a1 42 0 4 2) [vi 2, vr a1] (ai (feq H2).2 (ai (by decide) rfl)) ?_
  refine st13 _ ?_
  refine own_b X13 hx hby tb31 3 [false] 21 _ [vi 2] (ai (teq H3).2 rfl) ?_
  exact retI X13 hx hret (hb hby d31_21) hr
theorem rm31_34 (hw : OW Z a0) (a1 : Addr) (w2 : ClassId) (p3 p4 p5 p6 p7 p8 p9 p10 : Int32) (Z0 : n0 ≤ h0.size) (P1 : ab2 Z (vi 1)) (P2 : Old Z n0 h0) (P3 : Arv Z h0 a1 w2 .byte (8 : Int32) [vi p3, vi p4, vi p5, vi p6, vi p7, vi p8, vi p9, vi p10] (vi 0)) (P4 : ab3 Z (vi 0)) (P5 : ab4 Z (vi 8)) (P6 : ¬ ((nar .char (va8 p9 p10)) = (42 : Int32))) (H1 : ¬ ((nar .char (va8 p3 p4)) = (42 : Int32))) (H2 : ¬ ((nar .char (va8 p5 p6)) = (42 : Int32))) (H3 : ¬ ((nar .char (va8 p7 p8)) = (42 : Int32))) :
    M31 l Z ws (orm 1 0 0 13) #[vr a1, vi 42, vi 0, vi 4] h0 (QI n0 h0 (vi (-1))) := by
  refine own_enter (plainFor_of_name pn_4) (L0 := (L_riiiu a1 42 0 4)) ?_
  intro p e s m below meth c s₁ hx hby hml hown hnm hret hZ X0 e0
  have N0 := Fr.nil n0
  obtain ⟨T11, L11, _, X11, ⟨rfl, N11q, e11q⟩, st11⟩ := own_callS X0 hx hZ hown (cw_11 hw) (rm24_7 hw a1 w2 p3 p4 p5 p6 p7 p8 p9 p10 Z0 P1 P2 P3 P4 P5) e0 (Ls := (L_riiii a1 42 0 4 0)) hml [vr a1, vi 0] [] pd_16 0 (hb hby d31_12)
  have N11 := Fr.app N0 N11q
  obtain ⟨T12, L12, _, X12, ⟨rfl, N12q, e12q⟩, st12⟩ := own_callS X11 hx hZ hown (cw_11 hw) (rm24_8 hw a1 w2 p3 p4 p5 p6 p7 p8 p9 p10 Z0 P1 P2 P3 P4 P5) e11q (Ls := (L_riiii a1 42 0 4 1)) hml [vr a1, vi 1] [] pd_16 0 (hb hby d31_12)
  have N12 := Fr.app N11 N12q
  obtain ⟨T13, L13, _, X13, ⟨rfl, N13q, e13q⟩, st13⟩ := own_callS X12 hx hZ hown (cw_11 hw) (rm24_9 hw a1 w2 p3 p4 p5 p6 p7 p8 p9 p10 Z0 P1 P2 P3 P4 P5) e12q (Ls := (L_riiii a1 42 0 4 2)) hml [vr a1, vi 2] [] pd_16 0 (hb hby d31_12)
  have N13 := Fr.app N12 N13q
  obtain ⟨T14, L14, _, X14, ⟨rfl, N14q, e14q⟩, st14⟩ := own_callS X13 hx hZ hown (cw_11 hw) (rm24_10 hw a1 w2 p3 p4 p5 p6 p7 p8 p9 p10 Z0 P1 P2 P3 P4 P5) e13q (Ls := (L_riiii a1 42 0 4 3)) hml [vr a1, vi 3] [] pd_16 0 (hb hby d31_12)
  have N14 := Fr.app N13 N14q
  refine ⟨T14, _, _, _, _, some (vi (-1)), X14, e14q, by decide, by decide, nofun, ⟨rfl, N14, rfl⟩, fun fs hr => ?_⟩
  refine own_b X0 hx hby tb31 7 [false] 12 (L_riiii a1 42 0 4 0) [vi 0, vr a1] (ai (by decide) rfl) ?_
  refine st11 _ ?_
  refine own_b X11 hx hby tb31 9 [true, false] 12 (L_riiii a1 42 0 4 1) [vi 1, vr a1] (ai (feq H1).2 (ai (by decide) rfl)) ?_
  refine st12 _ ?_
  refine own_b X12 hx hby tb31 9 [true, false] 12 (L_riiii a1 42 0 4 2) [vi 2, vr a1] (ai (feq H2).2 (ai (by decide) rfl)) ?_
  refine st13 _ ?_
  refine own_b X13 hx hby tb31 9 [true, false] 12 (L_riiii a1 42 0 4 3) [vi 3, vr a1] (ai (feq H3).2 (ai (by decide) rfl)) ?_
  refine st14 _ ?_
  refine own_b X14 hx hby tb31 8 [true, true] 29 (L_riiii a1 42 0 4 4) [vi (-1)] (ai (feq P6).2 (ai (by decide) rfl)) ?_
  exact retI X14 hx hret (hb hby d31_29) hr
theorem rm31_35 (hw : OW Z a0) (a1 : Addr) (w2 : ClassId) (p3 p4 p5 p6 p7 p8 p9 p10 : Int32) (Z0 : n0 ≤ h0.size) (P1 : ab2 Z (vi 1)) (P2 : Old Z n0 h0) (P3 : Arv Z h0 a1 w2 .byte (8 : Int32) [vi p3, vi p4, vi p5, vi p6, vi p7, vi p8, vi p9, vi p10] (vi 0)) (P4 : ab3 Z (vi 0)) (P5 : ab4 Z (vi 8)) (P6 : ¬ ((nar .char (va8 p9 p10)) = (42 : Int32))) :
    M31 l Z ws (orm 1 0 0 13) #[vr a1, vi 42, vi 0, vi 4] h0 (QI n0 h0 (vi (va47 p3 p4 p5 p6 p7 p8))) := by
  by_cases H1 : (nar .char (va8 p3 p4)) = (42 : Int32)
  ·
    rw [show (va47 p3 p4 p5 p6 p7 p8) = (0 : Int32) from by simp only [va47, if_pos H1]]
    exact rm31_24 hw a1 w2 p3 p4 p5 p6 p7 p8 p9 p10 Z0 P1 P2 P3 P4 P5 H1
  ·
    by_cases H2 : (nar .char (va8 p5 p6)) = (42 : Int32)
    ·
      rw [show (va47 p3 p4 p5 p6 p7 p8) = (1 : Int32) from by simp only [va47, if_neg H1, if_pos H2]]
      exact rm31_29 hw a1 w2 p3 p4 p5 p6 p7 p8 p9 p10 Z0 P1 P2 P3 P4 P5 H1 H2
    ·
      by_cases H3 : (nar .char (va8 p7 p8)) = (42 : Int32)
      ·
        rw [show (va47 p3 p4 p5 p6 p7 p8) = (2 : Int32) from by simp only [va47, if_neg H1, if_neg H2, if_pos H3]]
        exact rm31_33 hw a1 w2 p3 p4 p5 p6 p7 p8 p9 p10 Z0 P1 P2 P3 P4 P5 H1 H2 H3
      ·
        rw [show (va47 p3 p4 p5 p6 p7 p8) = (-1 : Int32) from by simp only [va47, if_neg H1, if_neg H2, if_neg H3]]
        exact rm31_34 hw a1 w2 p3 p4 p5 p6 p7 p8 p9 p10 Z0 P1 P2 P3 P4 P5 P6 H1 H2 H3
theorem rm26_10 (hw : OW Z a0) (a1 : Addr) (w2 : ClassId) (p3 p4 p5 p6 p7 p8 p9 p10 : Int32) (a11 : Value) (Z0 : n0 ≤ h0.size) (P1 : Arv Z h0 a1 w2 .byte (8 : Int32) [vi p3, vi p4, vi p5, vi p6, vi p7, vi p8, vi p9, vi p10] (vi 0)) (P2 : ab5 Z a11) (P3 : Old Z n0 h0) (P4 : a11.isRef = true) (P5 : ab2 Z (vi 1)) (P6 : ab3 Z (vi 0)) (P7 : ab4 Z (vi 8)) (P8 : ¬ ((nar .char (va8 p9 p10)) = (42 : Int32))) :
    M26 l Z ws (orm 3 0 0 43) #[vr a1, vi 42, vi 0, vi 4] h0 (QI n0 h0 (vi (va47 p3 p4 p5 p6 p7 p8))) := by
  refine own_enter (plainFor_of_name pn_4) (L0 := (L_riii a1 42 0 4)) ?_
  intro p e s m below meth c s₁ hx hby hml hown hnm hret hZ X0 e0
  have N0 := Fr.nil n0
  obtain ⟨T12, L12, _, X12, ⟨rfl, N12q, e12q⟩, st12⟩ := own_callS X0 hx hZ hown (cw_22 hw) (rm27_4 hw a1 w2 p3 p4 p5 p6 p7 p8 p9 p10 a11 Z0 P1 P2 P3 P4) e0 (Ls := (L_riii a1 42 0 4)) hml [vi 0, vi 4, vr a1] [] pd_21 0 (hb hby d26_3)
  have N12 := Fr.app N0 N12q
  obtain ⟨T13, L13, _, X13, ⟨rfl, N13q, e13q⟩, st13⟩ := own_callS X12 hx hZ hown (cw_23 hw) (rm31_35 hw a1 w2 p3 p4 p5 p6 p7 p8 p9 p10 Z0 P5 P3 P1 P6 P7 P8) e12q (Ls := (L_riii a1 42 0 4)) hml [vr a1, vi 42, vi 0, vi 4] [] pd_9 0 (hb hby d26_10)
  have N13 := Fr.app N12 N13q
  refine ⟨T13, _, _, _, _, some (vi (va47 p3 p4 p5 p6 p7 p8)), X13, e13q, by decide, by decide, nofun, ⟨rfl, N13, rfl⟩, fun fs hr => ?_⟩
  refine own_b X0 hx hby tb26 3 [] 3 _ [vr a1, vi 4, vi 0] rfl ?_
  refine st12 _ ?_
  refine own_b X12 hx hby tb26 4 [] 10 _ [vi 4, vi 0, vi 42, vr a1] rfl ?_
  refine st13 _ ?_
  exact retI X13 hx hret (hb hby d26_13) hr
theorem rm25_10 (hw : OW Z a0) (a1 : Addr) (w3 : ClassId) (p4 p5 p6 p7 p8 p9 p10 p11 : Int32) (a13 : Value) (Z0 : n0 ≤ h0.size) (P1 : Arv Z h0 a1 w3 .byte (8 : Int32) [vi p4, vi p5, vi p6, vi p7, vi p8, vi p9, vi p10, vi p11] (vi 0)) (P2 : ab5 Z a13) (P3 : Old Z n0 h0) (P4 : a13.isRef = true) (P5 : ab2 Z (vi 1)) (P6 : ab3 Z (vi 0)) (P7 : ab4 Z (vi 8)) (P8 : ¬ ((nar .char (va8 p10 p11)) = (42 : Int32))) :
    M25 l Z ws (orm 4 0 0 58) #[vr a1, vi 42, vi 0, vi 4] h0 (QI n0 h0 (vi (va47 p4 p5 p6 p7 p8 p9))) := by
  refine own_enter (plainFor_of_name pn_4) (L0 := (L_riii a1 42 0 4)) ?_
  intro p e s m below meth c s₁ hx hby hml hown hnm hret hZ X0 e0
  have N0 := Fr.nil n0
  obtain ⟨T2, L2, _, X2, ⟨rfl, N2q, e2q⟩, st2⟩ := own_callS X0 hx hZ hown (cw_17 hw) (rm14_1 hw  Z0 ) e0 (Ls := (L_riii a1 42 0 4)) hml [vi 0, vi 0] [] pd_8 0 (hb hby d25_2)
  have N2 := Fr.app N0 N2q
  obtain ⟨T12, L12, _, X12, ⟨rfl, N12q, e12q⟩, st12⟩ := own_callS X2 hx hZ hown (cw_18 hw) (rm15_5 hw  Z0 ) e2q (Ls := (L_riii a1 42 0 4)) hml [vi 4, vi 4] [] pd_8 0 (hb hby d25_11)
  have N12 := Fr.app N2 N12q
  obtain ⟨T14, L14, _, X14, ⟨rfl, N14q, e14q⟩, st14⟩ := own_callS X12 hx hZ hown (cw_24 hw) (rm26_10 hw a1 w3 p4 p5 p6 p7 p8 p9 p10 p11 a13 Z0 P1 P2 P3 P4 P5 P6 P7 P8) e12q (Ls := (L_riii a1 42 0 4)) hml [vr a1, vi 42, vi 0, vi 4] [] pd_9 0 (hb hby d25_32)
  have N14 := Fr.app N12 N14q
  refine ⟨T14, _, _, _, _, some (vi (va47 p4 p5 p6 p7 p8 p9)), X14, e14q, by decide, by decide, nofun, ⟨rfl, N14, rfl⟩, fun fs hr => ?_⟩
  refine own_b X0 hx hby tb25 2 [] 2 _ [vi 0, vi 0] rfl ?_
  refine st2 _ ?_
  refine own_a X2 hx hZ e2q hby tb25 (aec P1 aen) 6 [] [0] 11 (L_riii a1 42 0 4) [vi 4, vi 4] (ai rfl rfl) ?_
  refine st12 _ ?_
  refine own_b X12 hx hby tb25 5 [true] 23 (L_riii a1 42 0 4) [vi 42] (ai (by decide) rfl) ?_
  refine X12.ldcInt hx hown (mvT hZ (tw_112 hw)) (g := (mkF m 23 (L_riii a1 42 0 4) [vi 42])) rfl (hb hby d25_23) _ ?_
  show OS p e below T12 m 25 (L_riii a1 42 0 4) [vi 65536, vi 42] _
  refine own_b X12 hx hby tb25 5 [false] 32 _ [vi 4, vi 0, vi 42, vr a1] (ai (by decide) rfl) ?_
  refine st14 _ ?_
  exact retI X14 hx hret (hb hby d25_35) hr
theorem rm8_14 (hw : OW Z a0) (a1 : Addr) (p2 : Int32) (a4 : Addr) (w6 : ClassId) (p7 p8 p9 p10 p11 p12 p13 p14 : Int32) (a16 : Value) (Z0 : n0 ≤ h0.size) (P1 : ab8 Z h0 a1) (P2 : ab1 Z (vi p2)) (P3 : Old Z n0 h0) (P4 : ¬ (p2 = (0 : Int32))) (P5 : ab6 Z h0 a1 (vi 1)) (P6 : ab7 Z h0 a1 (vr a4)) (P7 : Arv Z h0 a4 w6 .byte (8 : Int32) [vi p7, vi p8, vi p9, vi p10, vi p11, vi p12, vi p13, vi p14] (vi 0)) (P8 : ab5 Z a16) (P9 : a16.isRef = true) (P10 : ab2 Z (vi 1)) (P11 : ab3 Z (vi 0)) (P12 : ab4 Z (vi 8)) (P13 : ¬ ((nar .char (va8 p13 p14)) = (42 : Int32))) :
    M8 l Z ws (orm 5 0 0 73) #[vr a1, vi 42, vi 0] h0 (QI n0 h0 (vi (va47 p7 p8 p9 p10 p11 p12))) := by
  refine own_enter (plainFor_of_name pn_1) (L0 := (L_rii a1 42 0)) ?_
  intro p e s m below meth c s₁ hx hby hml hown hnm hret hZ X0 e0
  have N0 := Fr.nil n0
  obtain ⟨T3, L3, _, X3, ⟨rfl, N3q, e3q⟩, st3⟩ := own_callV X0 hx hZ hown (tw_44 hw) (tw_45 hw) (notFace_of_selects (args := #[]) (mvT hZ (tw_47 hw))) (tw_47 hw) (tw_46 hw) (tw_10 hw) (tw_48 hw) (rm9_2 hw a1 p2 Z0 P2 P3 P4 P5) e0 P1 (Ls := (L_rii a1 42 0)) hml [] [] pd_4 0 (hb hby d8_1)
  have N3 := Fr.app N0 N3q
  obtain ⟨T5, X5, e5, st5⟩ := getF X3 hx hZ hown (host := "") (Or.inl (tw_28 hw)) Via.refl e3q P6 (g := (mkF m 24 (L_rii a1 42 0) [vr a1])) rfl rfl (hb hby d8_24)
  obtain ⟨T15, L15, _, X15, ⟨rfl, N15q, e15q⟩, st15⟩ := own_callV X5 hx hZ hown (tw_50 hw) (tw_51 hw) (notFace_of_selects (args := #[]) (mvT hZ (tw_53 hw))) (tw_53 hw) (tw_52 hw) (tw_10 hw) (tw_54 hw) (rm10_8 hw a1 a4 w6 p7 p8 p9 p10 p11 p12 p13 p14 p2 Z0 P6 P7 P1 P2 P3 P4 P5) e5 P1 (Ls := (L_rii a1 42 0)) hml [] [vi 0, vi 42, vr a4] pd_6 3 (hb hby d8_30)
  have N15 := Fr.app N3 N15q
  obtain ⟨T17, L17, _, X17, ⟨rfl, N17q, e17q⟩, st17⟩ := own_callS X15 hx hZ hown (cw_25 hw) (rm25_10 hw a4 w6 p7 p8 p9 p10 p11 p12 p13 p14 a16 Z0 P7 P8 P3 P9 P10 P11 P12 P13) e15q (Ls := (L_rii a1 42 0)) hml [vr a4, vi 42, vi 0, vi 4] [] pd_9 0 (hb hby d8_33)
  have N17 := Fr.app N15 N17q
  refine ⟨T17, _, _, _, _, some (vi (va47 p7 p8 p9 p10 p11 p12)), X17, e17q, by decide, by decide, nofun, ⟨rfl, N17, rfl⟩, fun fs hr => ?_⟩
  refine own_b X0 hx hby tb8 1 [] 1 _ [vr a1] rfl ?_
  refine st3 _ ?_
  refine own_b X3 hx hby tb8 2 [true] 24 _ [vr a1] (ai (by decide) rfl) ?_
  refine st5 _ ?_
  refine own_b X5 hx hby tb8 3 [] 30 _ [vr a1, vi 0, vi 42, vr a4] rfl ?_
  refine st15 _ ?_
  refine st17 _ ?_
  exact retI X17 hx hret (hb hby d8_36) hr
theorem rm7_14 (hw : OW Z a0) (a1 : Addr) (p2 : Int32) (a3 : Addr) (w4 : ClassId) (p5 p6 p7 p8 p9 p10 p11 p12 : Int32) (a13 : Value) (Z0 : n0 ≤ h0.size) (P1 : ab8 Z h0 a1) (P2 : ab1 Z (vi p2)) (P3 : Old Z n0 h0) (P4 : ¬ (p2 = (0 : Int32))) (P5 : ab6 Z h0 a1 (vi 1)) (P6 : ab7 Z h0 a1 (vr a3)) (P7 : Arv Z h0 a3 w4 .byte (8 : Int32) [vi p5, vi p6, vi p7, vi p8, vi p9, vi p10, vi p11, vi p12] (vi 0)) (P8 : ab5 Z a13) (P9 : a13.isRef = true) (P10 : ab2 Z (vi 1)) (P11 : ab3 Z (vi 0)) (P12 : ab4 Z (vi 8)) (P13 : ¬ ((nar .char (va8 p11 p12)) = (42 : Int32))) :
    M7 l Z ws (orm 6 0 0 87) #[vr a1, vi 42] h0 (QI n0 h0 (vi (va47 p5 p6 p7 p8 p9 p10))) := by
  refine own_enter (plainFor_of_name pn_1) (L0 := (L_ri a1 42)) ?_
  intro p e s m below meth c s₁ hx hby hml hown hnm hret hZ X0 e0
  have N0 := Fr.nil n0
  obtain ⟨T14, L14, _, X14, ⟨rfl, N14q, e14q⟩, st14⟩ := own_callV X0 hx hZ hown (tw_39 hw) (tw_40 hw) (notFace_of_selects (args := #[]) (mvT hZ (tw_42 hw))) (tw_42 hw) (tw_41 hw) (tw_10 hw) (tw_43 hw) (rm8_14 hw a1 p2 a3 w4 p5 p6 p7 p8 p9 p10 p11 p12 a13 Z0 P1 P2 P3 P4 P5 P6 P7 P8 P9 P10 P11 P12 P13) e0 P1 (Ls := (L_ri a1 42)) hml [vi 42, vi 0] [] pd_8 0 (hb hby d7_3)
  have N14 := Fr.app N0 N14q
  refine ⟨T14, _, _, _, _, some (vi (va47 p5 p6 p7 p8 p9 p10)), X14, e14q, by decide, by decide, nofun, ⟨rfl, N14, rfl⟩, fun fs hr => ?_⟩
  refine own_b X0 hx hby tb7 3 [] 3 _ [vi 0, vi 42, vr a1] rfl ?_
  refine st14 _ ?_
  exact retI X14 hx hret (hb hby d7_6) hr
theorem rm6_36 (hw : OW Z a0) (a1 : Addr) (p2 : Int32) (a3 : Addr) (w4 : ClassId) (p5 p6 p7 p8 p9 p10 p11 p12 : Int32) (a13 : Value) (Z0 : n0 ≤ h0.size) (P1 : ab8 Z h0 a1) (P2 : ab1 Z (vi p2)) (P3 : Old Z n0 h0) (P4 : ¬ (p2 = (0 : Int32))) (P5 : ab6 Z h0 a1 (vi 1)) (P6 : ab7 Z h0 a1 (vr a3)) (P7 : Arv Z h0 a3 w4 .byte (8 : Int32) [vi p5, vi p6, vi p7, vi p8, vi p9, vi p10, vi p11, vi p12] (vi 0)) (P8 : ab5 Z a13) (P9 : a13.isRef = true) (P10 : ab2 Z (vi 1)) (P11 : ab3 Z (vi 0)) (P12 : ab4 Z (vi 8)) (P13 : ¬ ((nar .char (va8 p11 p12)) = (42 : Int32))) (H1 : (va47 p5 p6 p7 p8 p9 p10) < (0 : Int32)) :
    M6 l Z ws (orm 7 0 0 100) #[vr a1] h0 (QI n0 h0 (vi 0)) := by
  refine own_enter (plainFor_of_name pn_3) (L0 := #[sr a1]) ?_
  intro p e s m below meth c s₁ hx hby hml hown hnm hret hZ X0 e0
  have N0 := Fr.nil n0
  obtain ⟨T14, L14, _, X14, ⟨rfl, N14q, e14q⟩, st14⟩ := own_callV X0 hx hZ hown (tw_34 hw) (tw_35 hw) (notFace_of_selects (args := #[]) (mvT hZ (tw_37 hw))) (tw_37 hw) (tw_36 hw) (tw_10 hw) (tw_38 hw) (rm7_14 hw a1 p2 a3 w4 p5 p6 p7 p8 p9 p10 p11 p12 a13 Z0 P1 P2 P3 P4 P5 P6 P7 P8 P9 P10 P11 P12 P13) e0 P1 (Ls := #[sr a1]) hml [vi 42] [] pd_10 0 (hb hby d6_3)
  have N14 := Fr.app N0 N14q
  refine ⟨T14, _, _, _, _, some (vi 0), X14, e14q, by decide, by decide, nofun, ⟨rfl, N14, rfl⟩, fun fs hr => ?_⟩
  refine own_b X0 hx hby tb6 2 [] 3 _ [vi 42, vr a1] rfl ?_
  refine st14 _ ?_
  refine own_b X14 hx hby tb6 2 [true] 14 _ [vi 0] (ai (tlt H1).1 rfl) ?_
  exact retN X14 hx (t := .boolean) hret (by simp) (hb hby d6_14) hr
theorem rm6_37 (hw : OW Z a0) (a1 : Addr) (p2 : Int32) (a3 : Addr) (w4 : ClassId) (p5 p6 p7 p8 p9 p10 p11 p12 : Int32) (a13 : Value) (Z0 : n0 ≤ h0.size) (P1 : ab8 Z h0 a1) (P2 : ab1 Z (vi p2)) (P3 : Old Z n0 h0) (P4 : ¬ (p2 = (0 : Int32))) (P5 : ab6 Z h0 a1 (vi 1)) (P6 : ab7 Z h0 a1 (vr a3)) (P7 : Arv Z h0 a3 w4 .byte (8 : Int32) [vi p5, vi p6, vi p7, vi p8, vi p9, vi p10, vi p11, vi p12] (vi 0)) (P8 : ab5 Z a13) (P9 : a13.isRef = true) (P10 : ab2 Z (vi 1)) (P11 : ab3 Z (vi 0)) (P12 : ab4 Z (vi 8)) (P13 : ¬ ((nar .char (va8 p11 p12)) = (42 : Int32))) (H1 : ¬ ((va47 p5 p6 p7 p8 p9 p10) < (0 : Int32))) :
    M6 l Z ws (orm 7 0 0 100) #[vr a1] h0 (QI n0 h0 (vi 1)) := by
  refine own_enter (plainFor_of_name pn_3) (L0 := #[sr a1]) ?_
  intro p e s m below meth c s₁ hx hby hml hown hnm hret hZ X0 e0
  have N0 := Fr.nil n0
  obtain ⟨T14, L14, _, X14, ⟨rfl, N14q, e14q⟩, st14⟩ := own_callV X0 hx hZ hown (tw_34 hw) (tw_35 hw) (notFace_of_selects (args := #[]) (mvT hZ (tw_37 hw))) (tw_37 hw) (tw_36 hw) (tw_10 hw) (tw_38 hw) (rm7_14 hw a1 p2 a3 w4 p5 p6 p7 p8 p9 p10 p11 p12 a13 Z0 P1 P2 P3 P4 P5 P6 P7 P8 P9 P10 P11 P12 P13) e0 P1 (Ls := #[sr a1]) hml [vi 42] [] pd_10 0 (hb hby d6_3)
  have N14 := Fr.app N0 N14q
  refine ⟨T14, _, _, _, _, some (vi 1), X14, e14q, by decide, by decide, nofun, ⟨rfl, N14, rfl⟩, fun fs hr => ?_⟩
  refine own_b X0 hx hby tb6 2 [] 3 _ [vi 42, vr a1] rfl ?_
  refine st14 _ ?_
  refine own_b X14 hx hby tb6 3 [false] 14 _ [vi 1] (ai (flt H1).1 rfl) ?_
  exact retN X14 hx (t := .boolean) hret (by simp) (hb hby d6_14) hr
theorem rm6_38 (hw : OW Z a0) (a1 : Addr) (p2 : Int32) (a3 : Addr) (w4 : ClassId) (p5 p6 p7 p8 p9 p10 p11 p12 : Int32) (a13 : Value) (Z0 : n0 ≤ h0.size) (P1 : ab8 Z h0 a1) (P2 : ab1 Z (vi p2)) (P3 : Old Z n0 h0) (P4 : ¬ (p2 = (0 : Int32))) (P5 : ab6 Z h0 a1 (vi 1)) (P6 : ab7 Z h0 a1 (vr a3)) (P7 : Arv Z h0 a3 w4 .byte (8 : Int32) [vi p5, vi p6, vi p7, vi p8, vi p9, vi p10, vi p11, vi p12] (vi 0)) (P8 : ab5 Z a13) (P9 : a13.isRef = true) (P10 : ab2 Z (vi 1)) (P11 : ab3 Z (vi 0)) (P12 : ab4 Z (vi 8)) (P13 : ¬ ((nar .char (va8 p11 p12)) = (42 : Int32))) :
    M6 l Z ws (orm 7 0 0 100) #[vr a1] h0 (QI n0 h0 (vi (va48 p5 p6 p7 p8 p9 p10))) := by
  by_cases H1 : (va47 p5 p6 p7 p8 p9 p10) < (0 : Int32)
  ·
    rw [show (va48 p5 p6 p7 p8 p9 p10) = (0 : Int32) from by simp only [va48, if_pos H1]]
    exact rm6_36 hw a1 p2 a3 w4 p5 p6 p7 p8 p9 p10 p11 p12 a13 Z0 P1 P2 P3 P4 P5 P6 P7 P8 P9 P10 P11 P12 P13 H1
  ·
    rw [show (va48 p5 p6 p7 p8 p9 p10) = (1 : Int32) from by simp only [va48, if_neg H1]]
    exact rm6_37 hw a1 p2 a3 w4 p5 p6 p7 p8 p9 p10 p11 p12 a13 Z0 P1 P2 P3 P4 P5 P6 P7 P8 P9 P10 P11 P12 P13 H1
theorem rm17_14 (hw : OW Z a0) (a1 a2 : Addr) (w3 : ClassId) (p4 p5 p6 p7 : Int32) (w8 : ClassId) (Z0 : n0 ≤ h0.size) (P1 : Arv Z h0 a1 w3 .char (4 : Int32) [vi p4, vi p5, vi p6, vi p7] (vi 0)) (P2 : ¬ ((255 : Int32) < p4)) (P3 : Arv Z h0 a2 w8 .byte (4 : Int32) [vi 0, vi 0, vi 0, vi 0] (vi 0)) (P4 : n0 ≤ a2) (P5 : a1 ≠ a2) (P6 : ¬ ((255 : Int32) < p5)) (P7 : ¬ ((255 : Int32) < p6)) (P8 : ¬ ((255 : Int32) < p7)) :
    M17 l Z ws (orm 0 0 0 0) #[vr a1, vi 0, vr a2, vi 0, vi 4] h0 (fun v h L => v = some (vi 4) ∧ Fr n0 L ∧ Keep h0 h [a2] ∧ Arv Z h a2 w8 .byte (4 : Int32) [vi ((p4.toInt8.toInt32).toInt8.toInt32), vi ((p5.toInt8.toInt32).toInt8.toInt32), vi ((p6.toInt8.toInt32).toInt8.toInt32), vi ((p7.toInt8.toInt32).toInt8.toInt32)] (vi 0)) := by
  refine own_enter (plainFor_of_name pn_4) (L0 := (L_ririiuu a1 0 a2 0 4)) ?_
  intro p e s m below meth c s₁ hx hby hml hown hnm hret hZ X0 e0
  have N0 := Fr.nil n0
  obtain ⟨T9, h9, X9, e9, W9, V9, st9⟩ := own_stB X0 hx hZ e0 P3 (j := (0 : Int32)) (x := (p4.toInt8.toInt32)) (by decide) 0 rfl (Nat.le_of_ble_eq_true rfl) (Ls := (L_ririiii a1 0 a2 0 4 0 p4)) (rest := []) (hb hby d17_31)
  have N9 := Fr.snoc X9 N0 P4
  have F10 := (Arv.other P1 W9 P5)
  obtain ⟨T11, h11, X11, e11, W11, V11, st11⟩ := own_stB X9 hx hZ e9 V9 (j := (1 : Int32)) (x := (p5.toInt8.toInt32)) (by decide) 1 rfl (Nat.le_of_ble_eq_true rfl) (Ls := (L_ririiii a1 1 a2 1 4 1 p5)) (rest := []) (hb hby d17_31)
  have N11 := Fr.snoc X11 N9 P4
  have F12 := (Arv.other F10 W11 P5)
  obtain ⟨T13, h13, X13, e13, W13, V13, st13⟩ := own_stB X11 hx hZ e11 V11 (j := (2 : Int32)) (x := (p6.toInt8.toInt32)) (by decide) 2 rfl (Nat.le_of_ble_eq_true rfl) (Ls := (L_ririiii a1 2 a2 2 4 2 p6)) (rest := []) (hb hby d17_31)
  have N13 := Fr.snoc X13 N11 P4
  have F14 := (Arv.other F12 W13 P5)
  obtain ⟨T15, h15, X15, e15, W15, V15, st15⟩ := own_stB X13 hx hZ e13 V13 (j := (3 : Int32)) (x := (p7.toInt8.toInt32)) (by decide) 3 rfl (Nat.le_of_ble_eq_true rfl) (Ls := (L_ririiii a1 3 a2 3 4 3 p7)) (rest := []) (hb hby d17_31)
  have N15 := Fr.snoc X15 N13 P4
  have K16 := (Keep.refl h0 [a2]).wr W9 (Or.inl (List.mem_of_getElem? (i := 0) rfl))
  have K17 := K16.wr W11 (Or.inl (List.mem_of_getElem? (i := 0) rfl))
  have K18 := K17.wr W13 (Or.inl (List.mem_of_getElem? (i := 0) rfl))
  have K19 := K18.wr W15 (Or.inl (List.mem_of_getElem? (i := 0) rfl))
  refine ⟨T15, _, _, _, _, some (vi 4), X15, e15, by decide, by decide, nofun, ⟨rfl, N15, K19, V15⟩, fun fs hr => ?_⟩
  refine own_a X0 hx hZ e0 hby tb17 (aec P1 aen) 16 [false, true] [0] 31 (L_ririiii a1 0 a2 0 4 0 p4) [vi (p4.toInt8.toInt32), vi 0, vr a2] (ai (by decide) (ai rfl (ai (flt P2).2.2.2 rfl))) ?_
  refine st9 _ ?_
  refine own_a X9 hx hZ e9 hby tb17 (aec F10 aen) 18 [false, true] [0] 31 (L_ririiii a1 1 a2 1 4 1 p5) [vi (p5.toInt8.toInt32), vi 1, vr a2] (ai (by decide) (ai rfl (ai (flt P6).2.2.2 rfl))) ?_
  refine st11 _ ?_
  refine own_a X11 hx hZ e11 hby tb17 (aec F12 aen) 18 [false, true] [0] 31 (L_ririiii a1 2 a2 2 4 2 p6) [vi (p6.toInt8.toInt32), vi 2, vr a2] (ai (by decide) (ai rfl (ai (flt P7).2.2.2 rfl))) ?_
  refine st13 _ ?_
  refine own_a X13 hx hZ e13 hby tb17 (aec F14 aen) 18 [false, true] [0] 31 (L_ririiii a1 3 a2 3 4 3 p7) [vi (p7.toInt8.toInt32), vi 3, vr a2] (ai (by decide) (ai rfl (ai (flt P8).2.2.2 rfl))) ?_
  refine st15 _ ?_
  refine own_b X15 hx hby tb17 8 [true] 46 (L_ririiii a1 4 a2 4 4 4 p7) [vi 4] (ai (by decide) rfl) ?_
  exact retI X15 hx hret (hb hby d17_46) hr
theorem rm16_14 (hw : OW Z a0) (a1 : Addr) (w4 : ClassId) (p5 p6 p7 p8 : Int32) (Z0 : n0 ≤ h0.size) (P1 : Arv Z h0 a1 w4 .char (4 : Int32) [vi p5, vi p6, vi p7, vi p8] (vi 0)) (P2 : ¬ ((255 : Int32) < p5)) (P3 : ¬ ((255 : Int32) < p6)) (P4 : ¬ ((255 : Int32) < p7)) (P5 : ¬ ((255 : Int32) < p8)) :
    M16 l Z ws (orm 1 1 4 18) #[vr a1, vi 0, vi 4] h0 (fun v h L => ∃ b2 : Addr, ∃ k3 : ClassId, v = some (vr b2) ∧ Fr n0 L ∧ Keep h0 h [] ∧ n0 ≤ b2 ∧ h0.size ≤ b2 ∧ Arv Z h b2 k3 .byte (4 : Int32) [vi ((p5.toInt8.toInt32).toInt8.toInt32), vi ((p6.toInt8.toInt32).toInt8.toInt32), vi ((p7.toInt8.toInt32).toInt8.toInt32), vi ((p8.toInt8.toInt32).toInt8.toInt32)] (vi 0)) := by
  refine own_enter (plainFor_of_name pn_4) (L0 := (L_riiuuu a1 0 4)) ?_
  intro p e s m below meth c s₁ hx hby hml hown hnm hret hZ X0 e0
  have N0 := Fr.nil n0
  obtain ⟨T3, h3, b2, k3, X3, e3, E3, g3, V3, st3⟩ := own_newP X0 hx hZ (tw_23 hw) e0 (n := (4 : Int32)) (k := 4) (d := (vi 0)) (vs := [vi 0, vi 0, vi 0, vi 0]) (Ls := (L_riiuuu a1 0 4)) (S := []) (hb hby d16_1)
  have q3 := Nat.le_trans Z0 g3
  have z3 := Nat.le_trans (Nat.le_refl h0.size) g3
  have F9 := (P1.ext E3)
  have n10 := Nat.ne_of_lt (Nat.lt_of_lt_of_le P1.lt g3)
  obtain ⟨T11, L11, _, X11, ⟨rfl, N11q, K11, f11_0⟩, st11⟩ := own_callS X3 hx hZ hown (cw_6 hw) (rm17_14 hw a1 b2 w4 p5 p6 p7 p8 k3 (Nat.le_trans Z0 E3.1) F9 P2 V3 q3 n10 P3 P4 P5) e3 (Ls := (L_riiruu a1 0 4 b2)) hml [vr a1, vi 0, vr b2, vi 0, vi 4] [] pd_12 0 (hb hby d16_9)
  have N11 := Fr.app N0 N11q
  have K12 := (Keep.refl h0 []).ext E3
  have K13 := K12.trans K11 (allS (Or.inr z3) all0)
  refine ⟨T11, _, _, _, _, some (vr b2), X11, rfl, by decide, by decide, nofun, ⟨b2, k3, rfl, N11, K13, q3, z3, f11_0⟩, fun fs hr => ?_⟩
  refine own_b X0 hx hby tb16 1 [] 1 _ [vi 4] rfl ?_
  refine st3 _ ?_
  refine own_b X3 hx hby tb16 6 [] 9 (L_riiruu a1 0 4 b2) [vi 4, vi 0, vr b2, vi 0, vr a1] rfl ?_
  refine st11 _ ?_
  refine own_b X11 hx hby tb16 5 [true] 58 (L_riiriu a1 0 4 b2 4) [vr b2] (ai (by decide) rfl) ?_
  exact own_retA X11 hx hret rfl (hb hby d16_58) hr
theorem rm18_8 (hw : OW Z a0) (a1 : Addr) (w2 : ClassId) (p3 p4 p5 p6 : Int32) (Z0 : n0 ≤ h0.size) (P1 : Arv Z h0 a1 w2 .byte (4 : Int32) [vi p3, vi p4, vi p5, vi p6] (vi 0)) :
    M18 l Z ws (orm 0 0 0 0) #[vr a1, vi 4] h0 (QI n0 h0 (vi 0)) := by
  refine own_enter (plainFor_of_name pn_4) (L0 := (L_ri a1 4)) ?_
  intro p e s m below meth c s₁ hx hby hml hown hnm hret hZ X0 e0
  have N0 := Fr.nil n0
  refine ⟨s₁, _, _, _, _, some (vi 0), X0, e0, by decide, by decide, nofun, ⟨rfl, N0, rfl⟩, fun fs hr => ?_⟩
  refine own_a X0 hx hZ e0 hby tb18 (aec P1 aen) 7 [] [0] 8 _ [vi 0] (ai rfl rfl) ?_
  exact retN X0 hx (t := .byte) hret (by simp) (hb hby d18_8) hr
theorem rm4_15 (hw : OW Z a0) (a1 a2 : Addr) (p4 : Int32) (w6 : ClassId) (p7 p8 p9 p10 : Int32) (Z0 : n0 ≤ h0.size) (P1 : ab1 Z (vi p4)) (P2 : Old Z n0 h0) (P3 : ¬ (p4 = (0 : Int32))) (P4 : Arv Z h0 a2 w6 .char (4 : Int32) [vi p7, vi p8, vi p9, vi p10] (vi 0)) (P5 : ¬ ((255 : Int32) < p7)) (P6 : ¬ ((255 : Int32) < p8)) (P7 : ¬ ((255 : Int32) < p9)) (P8 : ¬ ((255 : Int32) < p10)) (P9 : ab6 Z h0 a1 (vi 0)) (P10 : ab8 Z h0 a1) (P11 : n0 ≤ a1) (P12 : ab7 Z h0 a1 .null) :
    M4 l Z ws (orm 2 1 4 35) #[vr a1, vr a2, vi 0, vi 4, .null] h0 (fun v h L => ∃ b12 : Addr, ∃ kk11_0 : ClassId, v = none ∧ Fr n0 L ∧ Keep h0 h [a1] ∧ n0 ≤ b12 ∧ h0.size ≤ b12 ∧ ab6 Z h a1 (vi 0) ∧ ab7 Z h a1 (vr b12) ∧ Arv Z h b12 kk11_0 .byte (4 : Int32) [vi ((p7.toInt8.toInt32).toInt8.toInt32), vi ((p8.toInt8.toInt32).toInt8.toInt32), vi ((p9.toInt8.toInt32).toInt8.toInt32), vi ((p10.toInt8.toInt32).toInt8.toInt32)] (vi 0)) := by
  refine own_enter (plainFor_of_name pn_1) (L0 := (L_rriinu a1 a2 0 4)) ?_
  intro p e s m below meth c s₁ hx hby hml hown hnm hret hZ X0 e0
  have N0 := Fr.nil n0
  obtain ⟨T3, X3, e3, st3⟩ := initO X0 hx hZ hown (tw_19 hw) (tw_20 hw) (tw_21 hw) e0 (g := (mkF m 1 (L_rriinu a1 a2 0 4) [vr a1])) rfl (by rw [hml]; rfl) rfl (hb hby d4_1) (by decide) (W := 0) (by show 2 * 0 + _ ≤ _; exact Nat.le_of_eq rfl) (by decide)
  obtain ⟨T5, X5, e5, st5⟩ := getS2 X3 hx hZ hown (host := "") (Or.inl (tw_49 hw)) Via.refl e3 (Sta.ext P2.2 P1) (g := (mkF m 27 (L_rriinu a1 a2 0 4) [])) rfl (hb hby d4_27)
  obtain ⟨T11, L11, _, X11, ⟨b12, kk11_0, rfl, N11q, K11, qa11_0, qb11_0, f11_0⟩, st11⟩ := own_callS X5 hx hZ hown (cw_12 hw) (rm16_14 hw a2 w6 p7 p8 p9 p10 Z0 P4 P5 P6 P7 P8) e5 (Ls := (L_rriinu a1 a2 0 4)) hml [vr a2, vi 0, vi 4] [] pd_15 0 (hb hby d4_36)
  have N11 := Fr.app N0 N11q
  have qd11_0 := Nat.le_trans (Nat.le_refl h0.size) qb11_0
  obtain ⟨T13, L13, _, X13, ⟨rfl, N13q, e13q⟩, st13⟩ := own_callS X11 hx hZ hown (cw_13 hw) (rm18_8 hw b12 kk11_0 ((p7.toInt8.toInt32).toInt8.toInt32) ((p8.toInt8.toInt32).toInt8.toInt32) ((p9.toInt8.toInt32).toInt8.toInt32) ((p10.toInt8.toInt32).toInt8.toInt32) (Nat.le_trans Z0 K11.1) f11_0) rfl (Ls := (L_rriinr a1 a2 0 4 b12)) hml [vr b12, vi 4] [vr a1] pd_17 1 (hb hby d4_45)
  have N13 := Fr.app N11 N13q
  have F14 := (Fld.keep P9 K11 nin0)
  have F15 := (Exa.keep P10 K11)
  obtain ⟨T16, h16, X16, e16, W16, st16⟩ := putF X13 hx hZ hown (host := "") (Or.inl (tw_29 hw)) Via.refl e13q F14 F15 (Or.inr ⟨(tw_25 hw), rfl, hnm⟩) (tw_9 hw) (ty := .byte) (by decide) rfl rfl (g := (mkF m 48 (L_rriinr a1 a2 0 4 b12) [vi 0, vr a1])) rfl rfl (hb hby d4_48)
  have N16 := Fr.snoc X16 N13 P11
  have Fw16 := Fld.same W16 F14
  have F17 := (Fld.other W16 (Fld.keep P12 K11 nin0) (Or.inr (slot_ne (Or.inr (tw_24 hw)) (Or.inr (tw_25 hw)) (by decide) (t := (.array .byte)) (t' := .byte) (by decide) (by decide))))
  have F18 := (Exa.wr W16 F15)
  obtain ⟨T19, h19, X19, e19, W19, st19⟩ := putF X16 hx hZ hown (host := "") (Or.inl (tw_28 hw)) Via.refl e16 F17 F18 (Or.inr ⟨(tw_24 hw), rfl, hnm⟩) (tw_9 hw) (ty := (.array .byte)) (by decide) rfl rfl (g := (mkF m 54 (L_rriinr a1 a2 0 4 b12) [vr b12, vr a1])) rfl rfl (hb hby d4_54)
  have N19 := Fr.snoc X19 N16 P11
  have Fw19 := Fld.same W19 F17
  have F20 := (Fld.other W19 Fw16 (Or.inr (slot_ne (Or.inr (tw_25 hw)) (Or.inr (tw_24 hw)) (by decide) (t := .byte) (t' := (.array .byte)) (by decide) (by decide))))
  have n21 := Nat.ne_of_lt (Nat.lt_of_lt_of_le P9.lt qb11_0)
  have F22 := (Arv.other (Arv.other f11_0 W16 (Ne.symm n21)) W19 (Ne.symm n21))
  have K23 := (Keep.refl h0 [a1]).trans K11 all0
  have K24 := K23.wr W16 (Or.inl (List.mem_of_getElem? (i := 0) rfl))
  have K25 := K24.wr W19 (Or.inl (List.mem_of_getElem? (i := 0) rfl))
  refine ⟨T19, _, _, _, _, none, X19, e19, by decide, by decide, (fun _ => rfl), ⟨b12, kk11_0, rfl, N19, K25, qa11_0, qd11_0, F20, Fw19, F22⟩, fun fs hr => ?_⟩
  refine own_b X0 hx hby tb4 1 [] 1 _ [vr a1] rfl ?_
  refine st3 _ ?_
  refine own_b X3 hx hby tb4 2 [true] 27 _ [] (ai (by decide) rfl) ?_
  refine st5 _ ?_
  refine own_b X5 hx hby tb4 4 [false] 36 _ [vi 4, vi 0, vr a2] (ai (feq P3).1 rfl) ?_
  refine st11 _ ?_
  refine own_b X11 hx hby tb4 4 [] 45 (L_rriinr a1 a2 0 4 b12) [vi 4, vr b12, vr a1] rfl ?_
  refine st13 _ ?_
  refine st16 _ ?_
  refine own_b X16 hx hby tb4 2 [] 54 _ [vr b12, vr a1] rfl ?_
  refine st19 _ ?_
  show OS p e below T19 m 57 (L_rriinr a1 a2 0 4 b12) [] _
  exact X19.returnOut hx hret (hb hby d4_57) hr
theorem rm3_15 (hw : OW Z a0) (a1 a2 : Addr) (w3 : ClassId) (p4 p5 p6 p7 p8 : Int32) (Z0 : n0 ≤ h0.size) (P1 : Arv Z h0 a2 w3 .char (4 : Int32) [vi p4, vi p5, vi p6, vi p7] (vi 0)) (P2 : ab1 Z (vi p8)) (P3 : Old Z n0 h0) (P4 : ¬ (p8 = (0 : Int32))) (P5 : ¬ ((255 : Int32) < p4)) (P6 : ¬ ((255 : Int32) < p5)) (P7 : ¬ ((255 : Int32) < p6)) (P8 : ¬ ((255 : Int32) < p7)) (P9 : ab6 Z h0 a1 (vi 0)) (P10 : ab8 Z h0 a1) (P11 : n0 ≤ a1) (P12 : ab7 Z h0 a1 .null) :
    M3 l Z ws (orm 3 1 4 52) #[vr a1, vr a2] h0 (fun v h L => ∃ b10 : Addr, ∃ kk9_0 : ClassId, v = none ∧ Fr n0 L ∧ Keep h0 h [a1] ∧ n0 ≤ b10 ∧ h0.size ≤ b10 ∧ ab6 Z h a1 (vi 0) ∧ ab7 Z h a1 (vr b10) ∧ Arv Z h b10 kk9_0 .byte (4 : Int32) [vi ((p4.toInt8.toInt32).toInt8.toInt32), vi ((p5.toInt8.toInt32).toInt8.toInt32), vi ((p6.toInt8.toInt32).toInt8.toInt32), vi ((p7.toInt8.toInt32).toInt8.toInt32)] (vi 0)) := by
  refine own_enter (plainFor_of_name pn_1) (L0 := (L_rr a1 a2)) ?_
  intro p e s m below meth c s₁ hx hby hml hown hnm hret hZ X0 e0
  have N0 := Fr.nil n0
  obtain ⟨T9, L9, _, X9, ⟨b10, kk9_0, rfl, N9q, K9, qa9_0, qb9_0, f9_0, f9_1, f9_2⟩, st9⟩ := own_callI X0 hx hZ hown (cw_14 hw) (rm4_15 hw a1 a2 p8 w3 p4 p5 p6 p7 Z0 P2 P3 P4 P1 P5 P6 P7 P8 P9 P10 P11 P12) e0 (Ls := (L_rr a1 a2)) hml a1 [vr a2, vi 0, vi 4, .null] [] pd_1 0 (hb hby d3_6)
  have N9 := Fr.app N0 N9q
  have qd9_0 := Nat.le_trans (Nat.le_refl h0.size) qb9_0
  have K11 := (Keep.refl h0 [a1]).trans K9 (allS (Or.inl (List.mem_of_getElem? (i := 0) rfl)) all0)
  refine ⟨T9, _, _, _, _, none, X9, rfl, by decide, by decide, (fun _ => rfl), ⟨b10, kk9_0, rfl, N9, K11, qa9_0, qd9_0, f9_0, f9_1, f9_2⟩, fun fs hr => ?_⟩
  refine own_a X0 hx hZ e0 hby tb3 (aec P1 aen) 6 [] [0] 6 _ [.null, vi 4, vi 0, vr a2, vr a1] (ai rfl rfl) ?_
  refine st9 _ ?_
  show OS p e below T9 m 9 (L_rr a1 a2) [] _
  exact X9.returnOut hx hret (hb hby d3_9) hr
theorem rm2_15 (hw : OW Z a0) (p1 p2 p3 p4 p15 : Int32) (Z0 : n0 ≤ h0.size) (P1 : ab1 Z (vi p15)) (P2 : Old Z n0 h0) (P3 : ¬ (p15 = (0 : Int32))) (P4 : ¬ ((255 : Int32) < (nar .char p1))) (P5 : ¬ ((255 : Int32) < (nar .char p2))) (P6 : ¬ ((255 : Int32) < (nar .char p3))) (P7 : ¬ ((255 : Int32) < (nar .char p4))) :
    M2 l Z ws (orm 4 3 12 66) #[vi 4, vi p1, vi p2, vi p3, vi p4] h0 (fun v h L => ∃ b5 : Addr, ∃ b23 : Addr, ∃ kk21_0 : ClassId, v = some (vr b5) ∧ Fr n0 L ∧ Keep h0 h [] ∧ n0 ≤ b5 ∧ h0.size ≤ b5 ∧ n0 ≤ b23 ∧ h0.size ≤ b23 ∧ b5 ≠ b23 ∧ ab8 Z h b5 ∧ ab6 Z h b5 (vi 0) ∧ ab7 Z h b5 (vr b23) ∧ Arv Z h b23 kk21_0 .byte (4 : Int32) [vi (((nar .char p1).toInt8.toInt32).toInt8.toInt32), vi (((nar .char p2).toInt8.toInt32).toInt8.toInt32), vi (((nar .char p3).toInt8.toInt32).toInt8.toInt32), vi (((nar .char p4).toInt8.toInt32).toInt8.toInt32)] (vi 0)) := by
  refine own_enter (plainFor_of_name pn_0) (L0 := (L_iiiii 4 p1 p2 p3 p4)) ?_
  intro p e s m below meth c s₁ hx hby hml hown hnm hret hZ X0 e0
  have N0 := Fr.nil n0
  obtain ⟨T6, h6, b5, X6, e6, E6, g6, A6, D6, st6⟩ := own_new X0 hx hZ hown (tw_8 hw) (tw_9 hw) (tw_10 hw) e0 (Ls := (L_iiiii 4 p1 p2 p3 p4)) (S := []) (hb hby d2_87)
  have q6 := Nat.le_trans Z0 g6
  have z6 := Nat.le_trans (Nat.le_refl h0.size) g6
  have F7 : ab7 Z h6 b5 .null := D6 (Or.inr (tw_24 hw)) (ty := (.array .byte)) (by decide)
  have F8 : ab6 Z h6 b5 (vi 0) := D6 (Or.inr (tw_25 hw)) (ty := .byte) (by decide)
  obtain ⟨T10, h10, b9, k10, X10, e10, E10, g10, V10, st10⟩ := own_newP X6 hx hZ (tw_11 hw) e6 (n := (4 : Int32)) (k := 4) (d := (vi 0)) (vs := [vi 0, vi 0, vi 0, vi 0]) (Ls := (L_iiiii 4 p1 p2 p3 p4)) (S := [vr b5, vr b5]) (hb hby d2_92)
  have q10 := Nat.le_trans (Nat.le_trans Z0 E6.1) g10
  have z10 := Nat.le_trans (Nat.le_trans (Nat.le_refl h0.size) E6.1) g10
  obtain ⟨T11, h11, X11, e11, W11, V11, st11⟩ := own_stC X10 hx hZ e10 V10 (j := (0 : Int32)) (x := p1) (by decide) 0 rfl (Nat.le_of_ble_eq_true rfl) (Ls := (L_iiiii 4 p1 p2 p3 p4)) (rest := [vr b9, vr b5, vr b5]) (hb hby d2_97)
  have N11 := Fr.snoc X11 N0 q10
  obtain ⟨T12, h12, X12, e12, W12, V12, st12⟩ := own_stC X11 hx hZ e11 V11 (j := (1 : Int32)) (x := p2) (by decide) 1 rfl (Nat.le_of_ble_eq_true rfl) (Ls := (L_iiiii 4 p1 p2 p3 p4)) (rest := [vr b9, vr b5, vr b5]) (hb hby d2_101)
  have N12 := Fr.snoc X12 N11 q10
  obtain ⟨T13, h13, X13, e13, W13, V13, st13⟩ := own_stC X12 hx hZ e12 V12 (j := (2 : Int32)) (x := p3) (by decide) 2 rfl (Nat.le_of_ble_eq_true rfl) (Ls := (L_iiiii 4 p1 p2 p3 p4)) (rest := [vr b9, vr b5, vr b5]) (hb hby d2_105)
  have N13 := Fr.snoc X13 N12 q10
  obtain ⟨T14, h14, X14, e14, W14, V14, st14⟩ := own_stC X13 hx hZ e13 V13 (j := (3 : Int32)) (x := p4) (by decide) 3 rfl (Nat.le_of_ble_eq_true rfl) (Ls := (L_iiiii 4 p1 p2 p3 p4)) (rest := [vr b9, vr b5, vr b5]) (hb hby d2_110)
  have N14 := Fr.snoc X14 N13 q10
  have F16 := ((((((P2.ext E6).ext E10).wr W11 q10).wr W12 q10).wr W13 q10).wr W14 q10)
  have n17 := Nat.ne_of_lt (Nat.lt_of_lt_of_le A6.lt g10)
  have F18 := (Fld.other W14 (Fld.other W13 (Fld.other W12 (Fld.other W11 (Fld.ext E10 F8) (Or.inl n17)) (Or.inl n17)) (Or.inl n17)) (Or.inl n17))
  have F19 := (Exa.wr W14 (Exa.wr W13 (Exa.wr W12 (Exa.wr W11 (Exa.ext E10 A6)))))
  have F20 := (Fld.other W14 (Fld.other W13 (Fld.other W12 (Fld.other W11 (Fld.ext E10 F7) (Or.inl n17)) (Or.inl n17)) (Or.inl n17)) (Or.inl n17))
  have F22 := (Nat.le_trans (Nat.le_trans (Nat.le_trans (Nat.le_trans (Nat.le_trans (Nat.le_trans Z0 E6.1) E10.1) (Keep.of_wr W11).1) (Keep.of_wr W12).1) (Keep.of_wr W13).1) (Keep.of_wr W14).1)
  obtain ⟨T21, L21, _, X21, ⟨b23, kk21_0, rfl, N21q, K21, qa21_0, qb21_0, f21_0, f21_1, f21_2⟩, st21⟩ := own_callI X14 hx hZ hown (cw_15 hw) (rm3_15 hw b5 b9 k10 (nar .char p1) (nar .char p2) (nar .char p3) (nar .char p4) p15 F22 V14 P1 F16 P3 P4 P5 P6 P7 F18 F19 q6 F20) e14 (Ls := (L_iiiii 4 p1 p2 p3 p4)) hml b5 [vr b9] [vr b5] pd_2 1 (hb hby d2_111)
  have N21 := Fr.app N14 N21q
  have F24 := (Nat.le_trans (Nat.le_trans (Nat.le_trans (Nat.le_trans (Nat.le_trans (Nat.le_trans (Nat.le_refl h0.size) E6.1) E10.1) (Keep.of_wr W11).1) (Keep.of_wr W12).1) (Keep.of_wr W13).1) (Keep.of_wr W14).1)
  have qd21_0 := Nat.le_trans F24 qb21_0
  have F25 := (Exa.keep F19 K21)
  have K26 := (Keep.refl h0 []).ext E6
  have K27 := K26.ext E10
  have K28 := K27.wr W11 (Or.inr z10)
  have K29 := K28.wr W12 (Or.inr z10)
  have K30 := K29.wr W13 (Or.inr z10)
  have K31 := K30.wr W14 (Or.inr z10)
  have K32 := K31.trans K21 (allS (Or.inr z6) all0)
  have n33 := Nat.ne_of_lt (Nat.lt_of_lt_of_le F18.lt qb21_0)
  refine ⟨T21, _, _, _, _, some (vr b5), X21, rfl, by decide, by decide, nofun, ⟨b5, b23, kk21_0, rfl, N21, K32, q6, z6, qa21_0, qd21_0, n33, F25, f21_0, f21_1, f21_2⟩, fun fs hr => ?_⟩
  refine own_b X0 hx hby tb2 11 [true, true, true, true] 87 _ [] (ai (by decide) (ai (by decide) (ai (by decide) (ai (by decide) rfl)))) ?_
  refine st6 _ ?_
  refine own_b X6 hx hby tb2 2 [] 92 _ [vi 4, vr b5, vr b5] rfl ?_
  refine st10 _ ?_
  refine own_b X10 hx hby tb2 3 [] 97 _ [vi p1, vi 0, vr b9, vr b9, vr b5, vr b5] rfl ?_
  refine st11 _ ?_
  refine own_b X11 hx hby tb2 3 [] 101 _ [vi p2, vi 1, vr b9, vr b9, vr b5, vr b5] rfl ?_
  refine st12 _ ?_
  refine own_b X12 hx hby tb2 3 [] 105 _ [vi p3, vi 2, vr b9, vr b9, vr b5, vr b5] rfl ?_
  refine st13 _ ?_
  refine own_b X13 hx hby tb2 3 [] 110 _ [vi p4, vi 3, vr b9, vr b9, vr b5, vr b5] rfl ?_
  refine st14 _ ?_
  refine st21 _ ?_
  exact own_retA X21 hx hret rfl (hb hby d2_114) hr
theorem rm10_9 (hw : OW Z a0) (a1 a2 : Addr) (w4 : ClassId) (p5 p6 p7 p8 p9 : Int32) (Z0 : n0 ≤ h0.size) (P1 : ab7 Z h0 a1 (vr a2)) (P2 : Arv Z h0 a2 w4 .byte (4 : Int32) [vi p5, vi p6, vi p7, vi p8] (vi 0)) (P3 : ab8 Z h0 a1) (P4 : ab1 Z (vi p9)) (P5 : Old Z n0 h0) (P6 : ¬ (p9 = (0 : Int32))) (P7 : ab6 Z h0 a1 (vi 0)) :
    M10 l Z ws (orm 1 0 0 13) #[vr a1] h0 (QI n0 h0 (vi 4)) := by
  refine own_enter (plainFor_of_name pn_1) (L0 := #[sr a1]) ?_
  intro p e s m below meth c s₁ hx hby hml hown hnm hret hZ X0 e0
  have N0 := Fr.nil n0
  obtain ⟨T3, X3, e3, st3⟩ := getF X0 hx hZ hown (host := "") (Or.inl (tw_28 hw)) Via.refl e0 P1 (g := (mkF m 1 #[sr a1] [vr a1])) rfl rfl (hb hby d10_1)
  obtain ⟨T10, L10, _, X10, ⟨rfl, N10q, e10q⟩, st10⟩ := own_callV X3 hx hZ hown (tw_55 hw) (tw_56 hw) (notFace_of_selects (args := #[]) (mvT hZ (tw_58 hw))) (tw_58 hw) (tw_57 hw) (tw_10 hw) (tw_59 hw) (rm11_1 hw a1 p9 Z0 P4 P5 P6 P7) e3 P3 (Ls := #[sr a1]) hml [] [vi 4] pd_5 1 (hb hby d10_6)
  have N10 := Fr.app N0 N10q
  refine ⟨T10, _, _, _, _, some (vi 4), X10, e10q, by decide, by decide, nofun, ⟨rfl, N10, rfl⟩, fun fs hr => ?_⟩
  refine own_b X0 hx hby tb10 1 [] 1 _ [vr a1] rfl ?_
  refine st3 _ ?_
  refine own_a X3 hx hZ e3 hby tb10 (aec P2 aen) 2 [] [0] 6 _ [vr a1, vi 4] (ai rfl rfl) ?_
  refine st10 _ ?_
  refine own_b X10 hx hby tb10 1 [] 10 _ [vi 4] rfl ?_
  exact retI X10 hx hret (hb hby d10_10) hr
theorem rm19_13 (hw : OW Z a0) (a1 : Addr) (w2 : ClassId) (p3 p4 p5 p6 : Int32) (Z0 : n0 ≤ h0.size) (P1 : Arv Z h0 a1 w2 .byte (4 : Int32) [vi p3, vi p4, vi p5, vi p6] (vi 0)) (H1 : p3 = (42 : Int32)) :
    M19 l Z ws (orm 0 0 0 0) #[vr a1, vi 42, vi 0, vi 4] h0 (QI n0 h0 (vi 0)) := by
  refine own_enter (plainFor_of_name pn_2) (L0 := (L_riiiuu a1 42 0 4)) ?_
  intro p e s m below meth c s₁ hx hby hml hown hnm hret hZ X0 e0
  have N0 := Fr.nil n0
  refine ⟨s₁, _, _, _, _, some (vi 0), X0, e0, by decide, by decide, nofun, ⟨rfl, N0, rfl⟩, fun fs hr => ?_⟩
  refine own_a X0 hx hZ e0 hby tb19 (aec P1 aen) 14 [false, false] [0] 24 (L_riiiii a1 42 0 4 42 0) [vi 0] (ai (by decide) (ai rfl (ai (teq H1).2 rfl))) ?_
  exact retI X0 hx hret (hb hby d19_24) hr
theorem rm19_14 (hw : OW Z a0) (a1 : Addr) (w2 : ClassId) (p3 p4 p5 p6 : Int32) (Z0 : n0 ≤ h0.size) (P1 : Arv Z h0 a1 w2 .byte (4 : Int32) [vi p3, vi p4, vi p5, vi p6] (vi 0)) (H1 : ¬ (p3 = (42 : Int32))) (H2 : p4 = (42 : Int32)) :
    M19 l Z ws (orm 0 0 0 0) #[vr a1, vi 42, vi 0, vi 4] h0 (QI n0 h0 (vi 1)) := by
  refine own_enter (plainFor_of_name pn_2) (L0 := (L_riiiuu a1 42 0 4)) ?_
  intro p e s m below meth c s₁ hx hby hml hown hnm hret hZ X0 e0
  have N0 := Fr.nil n0
  refine ⟨s₁, _, _, _, _, some (vi 1), X0, e0, by decide, by decide, nofun, ⟨rfl, N0, rfl⟩, fun fs hr => ?_⟩
  refine own_a X0 hx hZ e0 hby tb19 (aec P1 aen) 24 [false, true, false, false] [0, 0] 24 (L_riiiii a1 42 0 4 42 1) [vi 1] (ai (by decide) (ai rfl (ai (feq H1).2 (ai (by decide) (ai rfl (ai (teq H2).2 rfl)))))) ?_
  exact retI X0 hx hret (hb hby d19_24) hr
theorem rm19_15 (hw : OW Z a0) (a1 : Addr) (w2 : ClassId) (p3 p4 p5 p6 : Int32) (Z0 : n0 ≤ h0.size) (P1 : Arv Z h0 a1 w2 .byte (4 : Int32) [vi p3, vi p4, vi p5, vi p6] (vi 0)) (H1 : ¬ (p3 = (42 : Int32))) (H2 : ¬ (p4 = (42 : Int32))) (H3 : p5 = (42 : Int32)) :
    M19 l Z ws (orm 0 0 0 0) #[vr a1, vi 42, vi 0, vi 4] h0 (QI n0 h0 (vi 2)) := by
  refine own_enter (plainFor_of_name pn_2) (L0 := (L_riiiuu a1 42 0 4)) ?_
  intro p e s m below meth c s₁ hx hby hml hown hnm hret hZ X0 e0
  have N0 := Fr.nil n0
  refine ⟨s₁, _, _, _, _, some (vi 2), X0, e0, by decide, by decide, nofun, ⟨rfl, N0, rfl⟩, fun fs hr => ?_⟩
  refine own_a X0 hx hZ e0 hby tb19 (aec P1 aen) 34 [false, true, false, true, false, false] [0, 0, 0] 24 (L_riiiii a1 42 0 4 42 2) [vi 2] (ai (by decide) (ai rfl (ai (feq H1).2 (ai (by decide) (ai rfl (ai (feq H2).2 (ai (by decide) (ai rfl (ai (teq H3).2 rfl))))))))) ?_
  exact retI X0 hx hret (hb hby d19_24) hr
theorem rm19_16 (hw : OW Z a0) (a1 : Addr) (w2 : ClassId) (p3 p4 p5 p6 : Int32) (Z0 : n0 ≤ h0.size) (P1 : Arv Z h0 a1 w2 .byte (4 : Int32) [vi p3, vi p4, vi p5, vi p6] (vi 0)) (H1 : ¬ (p3 = (42 : Int32))) (H2 : ¬ (p4 = (42 : Int32))) (H3 : ¬ (p5 = (42 : Int32))) (H4 : p6 = (42 : Int32)) :
    M19 l Z ws (orm 0 0 0 0) #[vr a1, vi 42, vi 0, vi 4] h0 (QI n0 h0 (vi 3)) := by
  refine own_enter (plainFor_of_name pn_2) (L0 := (L_riiiuu a1 42 0 4)) ?_
  intro p e s m below meth c s₁ hx hby hml hown hnm hret hZ X0 e0
  have N0 := Fr.nil n0
  refine ⟨s₁, _, _, _, _, some (vi 3), X0, e0, by decide, by decide, nofun, ⟨rfl, N0, rfl⟩, fun fs hr => ?_⟩
  refine own_a X0 hx hZ e0 hby tb19 (aec P1 aen) 44 [false, true, false, true, false, true, false, false] [0, 0, 0, 0] 24 (L_riiiii a1 42 0 4 42 3) [vi 3] (ai (by decide) (ai rfl (ai (feq H1).2 (ai (by decide) (ai rfl (ai (feq H2).2 (ai (by decide) (ai rfl (ai (feq H3).2 (ai (by decide) (ai rfl (ai (teq H4).2 rfl)))))))))))) ?_
  exact retI X0 hx hret (hb hby d19_24) hr
theorem rm19_17 (hw : OW Z a0) (a1 : Addr) (w2 : ClassId) (p3 p4 p5 p6 : Int32) (Z0 : n0 ≤ h0.size) (P1 : Arv Z h0 a1 w2 .byte (4 : Int32) [vi p3, vi p4, vi p5, vi p6] (vi 0)) (H1 : ¬ (p3 = (42 : Int32))) (H2 : ¬ (p4 = (42 : Int32))) (H3 : ¬ (p5 = (42 : Int32))) (H4 : ¬ (p6 = (42 : Int32))) :
    M19 l Z ws (orm 0 0 0 0) #[vr a1, vi 42, vi 0, vi 4] h0 (QI n0 h0 (vi (-1))) := by
  refine own_enter (plainFor_of_name pn_2) (L0 := (L_riiiuu a1 42 0 4)) ?_
  intro p e s m below meth c s₁ hx hby hml hown hnm hret hZ X0 e0
  have N0 := Fr.nil n0
  refine ⟨s₁, _, _, _, _, some (vi (-1)), X0, e0, by decide, by decide, nofun, ⟨rfl, N0, rfl⟩, fun fs hr => ?_⟩
  refine own_a X0 hx hZ e0 hby tb19 (aec P1 aen) 49 [false, true, false, true, false, true, false, true, true] [0, 0, 0, 0] 32 (L_riiiii a1 42 0 4 42 4) [vi (-1)] (ai (by decide) (ai rfl (ai (feq H1).2 (ai (by decide) (ai rfl (ai (feq H2).2 (ai (by decide) (ai rfl (ai (feq H3).2 (ai (by decide) (ai rfl (ai (feq H4).2 (ai (by decide) rfl))))))))))))) ?_
  exact retI X0 hx hret (hb hby d19_32) hr
theorem rm19_18 (hw : OW Z a0) (a1 : Addr) (w2 : ClassId) (p3 p4 p5 p6 : Int32) (Z0 : n0 ≤ h0.size) (P1 : Arv Z h0 a1 w2 .byte (4 : Int32) [vi p3, vi p4, vi p5, vi p6] (vi 0)) :
    M19 l Z ws (orm 0 0 0 0) #[vr a1, vi 42, vi 0, vi 4] h0 (QI n0 h0 (vi (va50 p3 p4 p5 p6))) := by
  by_cases H1 : p3 = (42 : Int32)
  ·
    rw [show (va50 p3 p4 p5 p6) = (0 : Int32) from by simp only [va50, if_pos H1]]
    exact rm19_13 hw a1 w2 p3 p4 p5 p6 Z0 P1 H1
  ·
    by_cases H2 : p4 = (42 : Int32)
    ·
      rw [show (va50 p3 p4 p5 p6) = (1 : Int32) from by simp only [va50, if_neg H1, if_pos H2]]
      exact rm19_14 hw a1 w2 p3 p4 p5 p6 Z0 P1 H1 H2
    ·
      by_cases H3 : p5 = (42 : Int32)
      ·
        rw [show (va50 p3 p4 p5 p6) = (2 : Int32) from by simp only [va50, if_neg H1, if_neg H2, if_pos H3]]
        exact rm19_15 hw a1 w2 p3 p4 p5 p6 Z0 P1 H1 H2 H3
      ·
        by_cases H4 : p6 = (42 : Int32)
        ·
          rw [show (va50 p3 p4 p5 p6) = (3 : Int32) from by simp only [va50, if_neg H1, if_neg H2, if_neg H3, if_pos H4]]
          exact rm19_16 hw a1 w2 p3 p4 p5 p6 Z0 P1 H1 H2 H3 H4
        ·
          rw [show (va50 p3 p4 p5 p6) = (-1 : Int32) from by simp only [va50, if_neg H1, if_neg H2, if_neg H3, if_neg H4]]
          exact rm19_17 hw a1 w2 p3 p4 p5 p6 Z0 P1 H1 H2 H3 H4
theorem rm12_5 (hw : OW Z a0) (a1 : Addr) (w4 : ClassId) (p5 p6 p7 p8 : Int32) (Z0 : n0 ≤ h0.size) (P1 : Arv Z h0 a1 w4 .byte (4 : Int32) [vi p5, vi p6, vi p7, vi p8] (vi 0)) :
    M12 l Z ws (orm 1 0 0 17) #[vr a1, vi 42, vi 0, vi 4] h0 (QI n0 h0 (vi (va50 p5 p6 p7 p8))) := by
  refine own_enter (plainFor_of_name pn_2) (L0 := (L_riii a1 42 0 4)) ?_
  intro p e s m below meth c s₁ hx hby hml hown hnm hret hZ X0 e0
  have N0 := Fr.nil n0
  obtain ⟨T2, L2, _, X2, ⟨rfl, N2q, e2q⟩, st2⟩ := own_callS X0 hx hZ hown (cw_1 hw) (rm13_1 hw  Z0 ) e0 (Ls := (L_riii a1 42 0 4)) hml [vi 42] [] pd_7 0 (hb hby d12_1)
  have N2 := Fr.app N0 N2q
  obtain ⟨T3, L3, _, X3, ⟨rfl, N3q, e3q⟩, st3⟩ := own_callS X2 hx hZ hown (cw_2 hw) (rm14_1 hw  Z0 ) e2q (Ls := (L_riii a1 42 0 4)) hml [vi 0, vi 0] [] pd_8 0 (hb hby d12_11)
  have N3 := Fr.app N2 N3q
  obtain ⟨T9, L9, _, X9, ⟨rfl, N9q, e9q⟩, st9⟩ := own_callS X3 hx hZ hown (cw_3 hw) (rm15_5 hw  Z0 ) e3q (Ls := (L_riii a1 42 0 4)) hml [vi 4, vi 4] [] pd_8 0 (hb hby d12_18)
  have N9 := Fr.app N3 N9q
  obtain ⟨T10, L10, _, X10, ⟨rfl, N10q, e10q⟩, st10⟩ := own_callS X9 hx hZ hown (cw_26 hw) (rm19_18 hw a1 w4 p5 p6 p7 p8 Z0 P1) e9q (Ls := (L_riii a1 42 0 4)) hml [vr a1, vi 42, vi 0, vi 4] [] pd_9 0 (hb hby d12_33)
  have N10 := Fr.app N9 N10q
  refine ⟨T10, _, _, _, _, some (vi (va50 p5 p6 p7 p8)), X10, e10q, by decide, by decide, nofun, ⟨rfl, N10, rfl⟩, fun fs hr => ?_⟩
  refine own_b X0 hx hby tb12 1 [] 1 _ [vi 42] rfl ?_
  refine st2 _ ?_
  refine own_b X2 hx hby tb12 3 [true] 11 _ [vi 0, vi 0] (ai (by decide) rfl) ?_
  refine st3 _ ?_
  refine own_a X3 hx hZ e3q hby tb12 (aec P1 aen) 4 [] [0] 18 (L_riii a1 42 0 4) [vi 4, vi 4] (ai rfl rfl) ?_
  refine st9 _ ?_
  refine own_b X9 hx hby tb12 8 [true] 33 (L_riii a1 42 0 4) [vi 4, vi 0, vi 42, vr a1] (ai (by decide) rfl) ?_
  refine st10 _ ?_
  exact retI X10 hx hret (hb hby d12_36) hr
theorem rm8_15 (hw : OW Z a0) (a1 : Addr) (p2 : Int32) (a4 : Addr) (w6 : ClassId) (p7 p8 p9 p10 : Int32) (Z0 : n0 ≤ h0.size) (P1 : ab8 Z h0 a1) (P2 : ab1 Z (vi p2)) (P3 : Old Z n0 h0) (P4 : ¬ (p2 = (0 : Int32))) (P5 : ab6 Z h0 a1 (vi 0)) (P6 : ab7 Z h0 a1 (vr a4)) (P7 : Arv Z h0 a4 w6 .byte (4 : Int32) [vi p7, vi p8, vi p9, vi p10] (vi 0)) :
    M8 l Z ws (orm 2 0 0 32) #[vr a1, vi 42, vi 0] h0 (QI n0 h0 (vi (va50 p7 p8 p9 p10))) := by
  refine own_enter (plainFor_of_name pn_1) (L0 := (L_rii a1 42 0)) ?_
  intro p e s m below meth c s₁ hx hby hml hown hnm hret hZ X0 e0
  have N0 := Fr.nil n0
  obtain ⟨T3, L3, _, X3, ⟨rfl, N3q, e3q⟩, st3⟩ := own_callV X0 hx hZ hown (tw_44 hw) (tw_45 hw) (notFace_of_selects (args := #[]) (mvT hZ (tw_47 hw))) (tw_47 hw) (tw_46 hw) (tw_10 hw) (tw_48 hw) (rm9_1 hw a1 p2 Z0 P2 P3 P4 P5) e0 P1 (Ls := (L_rii a1 42 0)) hml [] [] pd_4 0 (hb hby d8_1)
  have N3 := Fr.app N0 N3q
  obtain ⟨T5, X5, e5, st5⟩ := getF X3 hx hZ hown (host := "") (Or.inl (tw_28 hw)) Via.refl e3q P6 (g := (mkF m 8 (L_rii a1 42 0) [vr a1])) rfl rfl (hb hby d8_8)
  obtain ⟨T11, L11, _, X11, ⟨rfl, N11q, e11q⟩, st11⟩ := own_callV X5 hx hZ hown (tw_50 hw) (tw_51 hw) (notFace_of_selects (args := #[]) (mvT hZ (tw_53 hw))) (tw_53 hw) (tw_52 hw) (tw_10 hw) (tw_54 hw) (rm10_9 hw a1 a4 w6 p7 p8 p9 p10 p2 Z0 P6 P7 P1 P2 P3 P4 P5) e5 P1 (Ls := (L_rii a1 42 0)) hml [] [vi 0, vi 42, vr a4] pd_6 3 (hb hby d8_14)
  have N11 := Fr.app N3 N11q
  obtain ⟨T12, L12, _, X12, ⟨rfl, N12q, e12q⟩, st12⟩ := own_callS X11 hx hZ hown (cw_4 hw) (rm12_5 hw a4 w6 p7 p8 p9 p10 Z0 P7) e11q (Ls := (L_rii a1 42 0)) hml [vr a4, vi 42, vi 0, vi 4] [] pd_9 0 (hb hby d8_17)
  have N12 := Fr.app N11 N12q
  refine ⟨T12, _, _, _, _, some (vi (va50 p7 p8 p9 p10)), X12, e12q, by decide, by decide, nofun, ⟨rfl, N12, rfl⟩, fun fs hr => ?_⟩
  refine own_b X0 hx hby tb8 1 [] 1 _ [vr a1] rfl ?_
  refine st3 _ ?_
  refine own_b X3 hx hby tb8 2 [false] 8 _ [vr a1] (ai (by decide) rfl) ?_
  refine st5 _ ?_
  refine own_b X5 hx hby tb8 3 [] 14 _ [vr a1, vi 0, vi 42, vr a4] rfl ?_
  refine st11 _ ?_
  refine st12 _ ?_
  refine own_b X12 hx hby tb8 1 [] 36 _ [vi (va50 p7 p8 p9 p10)] rfl ?_
  exact retI X12 hx hret (hb hby d8_36) hr
theorem rm7_15 (hw : OW Z a0) (a1 : Addr) (p2 : Int32) (a3 : Addr) (w4 : ClassId) (p5 p6 p7 p8 : Int32) (Z0 : n0 ≤ h0.size) (P1 : ab8 Z h0 a1) (P2 : ab1 Z (vi p2)) (P3 : Old Z n0 h0) (P4 : ¬ (p2 = (0 : Int32))) (P5 : ab6 Z h0 a1 (vi 0)) (P6 : ab7 Z h0 a1 (vr a3)) (P7 : Arv Z h0 a3 w4 .byte (4 : Int32) [vi p5, vi p6, vi p7, vi p8] (vi 0)) :
    M7 l Z ws (orm 3 0 0 46) #[vr a1, vi 42] h0 (QI n0 h0 (vi (va50 p5 p6 p7 p8))) := by
  refine own_enter (plainFor_of_name pn_1) (L0 := (L_ri a1 42)) ?_
  intro p e s m below meth c s₁ hx hby hml hown hnm hret hZ X0 e0
  have N0 := Fr.nil n0
  obtain ⟨T9, L9, _, X9, ⟨rfl, N9q, e9q⟩, st9⟩ := own_callV X0 hx hZ hown (tw_39 hw) (tw_40 hw) (notFace_of_selects (args := #[]) (mvT hZ (tw_42 hw))) (tw_42 hw) (tw_41 hw) (tw_10 hw) (tw_43 hw) (rm8_15 hw a1 p2 a3 w4 p5 p6 p7 p8 Z0 P1 P2 P3 P4 P5 P6 P7) e0 P1 (Ls := (L_ri a1 42)) hml [vi 42, vi 0] [] pd_8 0 (hb hby d7_3)
  have N9 := Fr.app N0 N9q
  refine ⟨T9, _, _, _, _, some (vi (va50 p5 p6 p7 p8)), X9, e9q, by decide, by decide, nofun, ⟨rfl, N9, rfl⟩, fun fs hr => ?_⟩
  refine own_b X0 hx hby tb7 3 [] 3 _ [vi 0, vi 42, vr a1] rfl ?_
  refine st9 _ ?_
  exact retI X9 hx hret (hb hby d7_6) hr
theorem rm6_39 (hw : OW Z a0) (a1 : Addr) (p2 : Int32) (a3 : Addr) (w4 : ClassId) (p5 p6 p7 p8 : Int32) (Z0 : n0 ≤ h0.size) (P1 : ab8 Z h0 a1) (P2 : ab1 Z (vi p2)) (P3 : Old Z n0 h0) (P4 : ¬ (p2 = (0 : Int32))) (P5 : ab6 Z h0 a1 (vi 0)) (P6 : ab7 Z h0 a1 (vr a3)) (P7 : Arv Z h0 a3 w4 .byte (4 : Int32) [vi p5, vi p6, vi p7, vi p8] (vi 0)) (H1 : (va50 p5 p6 p7 p8) < (0 : Int32)) :
    M6 l Z ws (orm 4 0 0 59) #[vr a1] h0 (QI n0 h0 (vi 0)) := by
  refine own_enter (plainFor_of_name pn_3) (L0 := #[sr a1]) ?_
  intro p e s m below meth c s₁ hx hby hml hown hnm hret hZ X0 e0
  have N0 := Fr.nil n0
  obtain ⟨T9, L9, _, X9, ⟨rfl, N9q, e9q⟩, st9⟩ := own_callV X0 hx hZ hown (tw_34 hw) (tw_35 hw) (notFace_of_selects (args := #[]) (mvT hZ (tw_37 hw))) (tw_37 hw) (tw_36 hw) (tw_10 hw) (tw_38 hw) (rm7_15 hw a1 p2 a3 w4 p5 p6 p7 p8 Z0 P1 P2 P3 P4 P5 P6 P7) e0 P1 (Ls := #[sr a1]) hml [vi 42] [] pd_10 0 (hb hby d6_3)
  have N9 := Fr.app N0 N9q
  refine ⟨T9, _, _, _, _, some (vi 0), X9, e9q, by decide, by decide, nofun, ⟨rfl, N9, rfl⟩, fun fs hr => ?_⟩
  refine own_b X0 hx hby tb6 2 [] 3 _ [vi 42, vr a1] rfl ?_
  refine st9 _ ?_
  refine own_b X9 hx hby tb6 2 [true] 14 _ [vi 0] (ai (tlt H1).1 rfl) ?_
  exact retN X9 hx (t := .boolean) hret (by simp) (hb hby d6_14) hr
theorem rm6_40 (hw : OW Z a0) (a1 : Addr) (p2 : Int32) (a3 : Addr) (w4 : ClassId) (p5 p6 p7 p8 : Int32) (Z0 : n0 ≤ h0.size) (P1 : ab8 Z h0 a1) (P2 : ab1 Z (vi p2)) (P3 : Old Z n0 h0) (P4 : ¬ (p2 = (0 : Int32))) (P5 : ab6 Z h0 a1 (vi 0)) (P6 : ab7 Z h0 a1 (vr a3)) (P7 : Arv Z h0 a3 w4 .byte (4 : Int32) [vi p5, vi p6, vi p7, vi p8] (vi 0)) (H1 : ¬ ((va50 p5 p6 p7 p8) < (0 : Int32))) :
    M6 l Z ws (orm 4 0 0 59) #[vr a1] h0 (QI n0 h0 (vi 1)) := by
  refine own_enter (plainFor_of_name pn_3) (L0 := #[sr a1]) ?_
  intro p e s m below meth c s₁ hx hby hml hown hnm hret hZ X0 e0
  have N0 := Fr.nil n0
  obtain ⟨T9, L9, _, X9, ⟨rfl, N9q, e9q⟩, st9⟩ := own_callV X0 hx hZ hown (tw_34 hw) (tw_35 hw) (notFace_of_selects (args := #[]) (mvT hZ (tw_37 hw))) (tw_37 hw) (tw_36 hw) (tw_10 hw) (tw_38 hw) (rm7_15 hw a1 p2 a3 w4 p5 p6 p7 p8 Z0 P1 P2 P3 P4 P5 P6 P7) e0 P1 (Ls := #[sr a1]) hml [vi 42] [] pd_10 0 (hb hby d6_3)
  have N9 := Fr.app N0 N9q
  refine ⟨T9, _, _, _, _, some (vi 1), X9, e9q, by decide, by decide, nofun, ⟨rfl, N9, rfl⟩, fun fs hr => ?_⟩
  refine own_b X0 hx hby tb6 2 [] 3 _ [vi 42, vr a1] rfl ?_
  refine st9 _ ?_
  refine own_b X9 hx hby tb6 3 [false] 14 _ [vi 1] (ai (flt H1).1 rfl) ?_
  exact retN X9 hx (t := .boolean) hret (by simp) (hb hby d6_14) hr
theorem rm6_41 (hw : OW Z a0) (a1 : Addr) (p2 : Int32) (a3 : Addr) (w4 : ClassId) (p5 p6 p7 p8 : Int32) (Z0 : n0 ≤ h0.size) (P1 : ab8 Z h0 a1) (P2 : ab1 Z (vi p2)) (P3 : Old Z n0 h0) (P4 : ¬ (p2 = (0 : Int32))) (P5 : ab6 Z h0 a1 (vi 0)) (P6 : ab7 Z h0 a1 (vr a3)) (P7 : Arv Z h0 a3 w4 .byte (4 : Int32) [vi p5, vi p6, vi p7, vi p8] (vi 0)) :
    M6 l Z ws (orm 4 0 0 59) #[vr a1] h0 (QI n0 h0 (vi (va51 p5 p6 p7 p8))) := by
  by_cases H1 : (va50 p5 p6 p7 p8) < (0 : Int32)
  ·
    rw [show (va51 p5 p6 p7 p8) = (0 : Int32) from by simp only [va51, if_pos H1]]
    exact rm6_39 hw a1 p2 a3 w4 p5 p6 p7 p8 Z0 P1 P2 P3 P4 P5 P6 P7 H1
  ·
    rw [show (va51 p5 p6 p7 p8) = (1 : Int32) from by simp only [va51, if_neg H1]]
    exact rm6_40 hw a1 p2 a3 w4 p5 p6 p7 p8 Z0 P1 P2 P3 P4 P5 P6 P7 H1
def Q0 (h0 : Heap) (n0 : Nat) (v : Option Value) (h : Heap) (L : List Loc) : Prop := v = some (.int (1 : Int32)) ∧ Fr n0 L
abbrev MC (l : Launch) (Z : State) (ws : List Jvm.Cond) (h0 : Heap) (n0 : Nat) (p1 : Int32) (p2 : Int32) (p3 : Int32) (p4 : Int32) (p5 : Int32) : Prop := MetFree l x (head1 (Jvm.Cond.code x code maxLocals ret :: ws) room_1) (fun a U => a = #[(vi p1), (vi p2), (vi p3), (vi p4), (vi p5)] ∧ Z.Warmed39 U.vm ∧ U.heap = h0 ∧ CHv Z consts_1 U.vm h0) (fun _ _ _ _ _ => True) (fun _ U o U' => ∃ v L, o = .returned v ∧ Q0 h0 n0 v U'.heap L ∧ ReturnedEndW U o U' L 24 1152)
theorem ef0 (m : MethodId) (p1 : Int32) (p2 : Int32) (p3 : Int32) (p4 : Int32) (p5 : Int32) : entryFrame m #[(vi p1), (vi p2), (vi p3), (vi p4), (vi p5)] maxLocals = mkF m 0 #[si p1, si p2, si p3, si p4, si p5, .unset, .unset, .unset, .unset, .unset, .unset, .unset] [] := by first | (simp [entryFrame, mkF, argsToLocals, Value.category, maxLocals]; done) | rfl
theorem rm0_0 (hw : OW Z a0) (p1 : Int32) (p2 : Int32) (p3 : Int32) (p4 : Int32) (p5 : Int32) (p90 : Int32) (rv0 : Value) (Z0 : n0 ≤ h0.size) (Sp0 : ab1 Z (.int p90)) (Sp1 : Old Z n0 h0) (Sp2 : ab2 Z (.int (1 : Int32))) (Sp3 : ab3 Z (.int (0 : Int32))) (Sp4 : ab4 Z (.int (8 : Int32))) (Sp5 : ab5 Z rv0) (Sp6 : rv0.isRef = true) (Sp7 : ¬ (p90 = (0 : Int32))) (H1 : ((p1 &&& (2147483647 : Int32)) % (5 : Int32)) = (0 : Int32)) (H2 : ¬ (p90 = (0 : Int32))) :
    MC l Z ws h0 n0 p1 p2 p3 p4 p5 := by
  refine MetFree.of_bodySF (plainFor_of_name pn_0) hisR ?_
  intro p e s m args below meth c s₁ Bd hml0 hP hK
  obtain ⟨rfl, hZ, hh, hH⟩ := hP
  have hx := Bd.exec
  have hby := Bd.bytes
  have hml : c.maxLocals = 12 := hml0
  have hown : s.vm.findClass "purlin/config/NamePatternIsPatternPinLaw" = some m.cls := findClass_of_methodNamed Bd.named
  have hnm := (name_of_methodNamed Bd.named Bd.method).1
  have hret := Bd.returns
  have X0 : Stand p l e room_1 s m #[(vi p1), (vi p2), (vi p3), (vi p4), (vi p5)] below meth c s₁ [] 0 0 := Stand.of_body Bd
  have e0 : s₁.heap = h0 := by rw [← hh, Bd.state]; rfl
  have N0 := Fr.nil n0
  have pre0 : ∀ t, Steps p.tables e below (s₁.setTop (mkF m 0 #[si p1, si p2, si p3, si p4, si p5, .unset, .unset, .unset, .unset, .unset, .unset, .unset] [])) t → Steps p.tables e below (s₁.setTop (entryFrame m #[(vi p1), (vi p2), (vi p3), (vi p4), (vi p5)] maxLocals)) t := fun t k => castTop (ef0 m p1 p2 p3 p4 p5) k
  obtain ⟨T6, L6, _, X6, ⟨rfl, N6q, e6q⟩, st6⟩ := own_callS X0 hx hZ hown (cw_0 hw) (rm1_3 hw p2 Z0 ) e0 (Ls := (L_iiiiiiuuuuuu p1 p2 p3 p4 p5 0)) hml [vi p2] [] pd_0 0 (hb hby at_9)
  have N6 := Fr.app N0 N6q
  obtain ⟨T7, L7, _, X7, ⟨rfl, N7q, e7q⟩, st7⟩ := own_callS X6 hx hZ hown (cw_0 hw) (rm1_3 hw p3 Z0 ) e6q (Ls := (L_iiiiiiiuuuuu p1 p2 p3 p4 p5 0 (va3 p2))) hml [vi p3] [] pd_0 0 (hb hby at_15)
  have N7 := Fr.app N6 N7q
  obtain ⟨T8, L8, _, X8, ⟨rfl, N8q, e8q⟩, st8⟩ := own_callS X7 hx hZ hown (cw_0 hw) (rm1_3 hw p4 Z0 ) e7q (Ls := (L_iiiiiiiiuuuu p1 p2 p3 p4 p5 0 (va3 p2) (va3 p3))) hml [vi p4] [] pd_0 0 (hb hby at_21)
  have N8 := Fr.app N7 N8q
  obtain ⟨T9, L9, _, X9, ⟨rfl, N9q, e9q⟩, st9⟩ := own_callS X8 hx hZ hown (cw_0 hw) (rm1_3 hw p5 Z0 ) e8q (Ls := (L_iiiiiiiiiuuu p1 p2 p3 p4 p5 0 (va3 p2) (va3 p3) (va3 p4))) hml [vi p5] [] pd_0 0 (hb hby at_28)
  have N9 := Fr.app N8 N9q
  obtain ⟨_, _, ⟨T10, L10, k10, n10⟩, -, Xq10, hSq10, gq10, ⟨Lc10, hQ10, l10, y10, z10⟩, st10⟩ := callSS (show Stand _ _ _ _ (s.setVm s.vm) _ _ _ _ _ _ _ _ _ from X9) hx (y := y3) hown (mvT hZ (tw_5 hw)) (mvT hZ (tw_6 hw)) (mvT hZ (tw_3 hw)) (mvT hZ (tw_7 hw)) (by decide) (own_backH (s := s) (vm0 := s.vm) (W := 0) (rm2_1 (ws := []) (h0 := h0) hw (va3 p2) (va3 p3) (va3 p4) (va3 p5) Z0 ) hZ (tw_7 hw) (tw_3 hw) (by decide) (by decide) (own_EW hw) hH all0) (g := (mkF m 43 (L_iiiiiiiiiiuu p1 p2 p3 p4 p5 0 (va3 p2) (va3 p3) (va3 p4) (va3 p5)) [vi (va3 p5), vi (va3 p4), vi (va3 p3), vi (va3 p2), vi 0])) rfl (by rw [hml]; rfl) (argsL := [(vi 0), (vi (va3 p2)), (vi (va3 p3)), (vi (va3 p4)), (vi (va3 p5))]) (rest := []) (lenOf pd_3 rfl) rfl (by show 2 * 0 + _ ≤ _; exact Nat.le_of_eq rfl) (hb hby at_43) (fun _ _ => ⟨rfl, e9q, (by decide : 0 + 4 ≤ _), (by decide : 0 + 8 ≤ _)⟩)
  dsimp only [Pt.U, Pt.locs, Pt.cells, Pt.slots] at Xq10 l10 y10 z10 st10 hQ10
  subst l10 y10 z10
  obtain ⟨X10, hS10, hZ10, hown10⟩ := rebS (s := s) (vm0 := s.vm) (State.WarmedH.since (State.WarmedH.refl s) 0) (n1 := T9.heap.size) (by rw [e9q]; exact (Nat.zero_le _)) Xq10 hSq10 gq10 hZ hown
  obtain ⟨b11, b12, kk10_0, rfl, N10q, K10, qa10_0, qb10_0, f10_0, f10_1, f10_2, f10_3⟩ := hQ10
  have N10 := Fr.app N9 N10q
  have qd10_0 := Nat.le_trans (Nat.le_refl h0.size) qb10_0
  have F13 := (Sp1.keep K10 all0)
  obtain ⟨T14, L14, _, X14, ⟨rfl, N14q, e14q⟩, st14⟩ := own_callS X10 hx hZ10 hown10 (cw_5 hw) (rm6_1 hw b11 p90 b12 kk10_0 (Nat.le_trans Z0 K10.1) f10_0 Sp0 F13 H2 f10_1 f10_2 f10_3) rfl (Ls := (L_iiiiiiiiiiri p1 p2 p3 p4 p5 0 (va3 p2) (va3 p3) (va3 p4) (va3 p5) b11 0)) hml [vr b11] [] pd_11 0 (hb hby at_108)
  have N14 := Fr.app N10 N14q
  obtain ⟨fs, hr, hrun, hended, hRE⟩ := X14.leaveW hS10 (by rw [e14q]; exact (Nat.le_refl _)) (v := some (vi 1)) (fun h => by rw [hret] at h; cases h)
  refine ⟨_, _, pre0 _ ?_, hrun, hended, _, _, rfl, ?_, hRE.1, hRE.2.1, hRE.2.2.1, hRE.2.2.2.mono (by decide) (by decide)⟩
  · refine own_b X0 hx hby tb0 1 [] 1 _ [vi p1] rfl ?_
    refine X0.ldcInt hx hown (mvT hZ (tw_0 hw)) (g := (mkF m 1 (L_iiiiiuuuuuuu p1 p2 p3 p4 p5) [vi p1])) rfl (hb hby at_1) _ ?_
    show OS p e below s₁ m 3 (L_iiiiiuuuuuuu p1 p2 p3 p4 p5) [vi 2147483647, vi p1] _
    refine own_b X0 hx hby tb0 2 [] 5 _ [vi 5, vi (p1 &&& (2147483647 : Int32))] rfl ?_
    refine iremM X0 hx (g := (mkF m 5 (L_iiiiiuuuuuuu p1 p2 p3 p4 p5) [vi 5, vi (p1 &&& (2147483647 : Int32))])) rfl (hb hby at_5) rfl (by decide) ?_
    show OS p e below s₁ m 6 (L_iiiiiuuuuuuu p1 p2 p3 p4 p5) [vi ((p1 &&& (2147483647 : Int32)) % (5 : Int32))] _
    rw [H1]
    show OS p e below s₁ m 6 (L_iiiiiuuuuuuu p1 p2 p3 p4 p5) [vi 0] _
    refine own_b X0 hx hby tb0 2 [] 9 (L_iiiiiiuuuuuu p1 p2 p3 p4 p5 0) [vi p2] rfl ?_
    refine st6 _ ?_
    refine own_b X6 hx hby tb0 2 [] 15 (L_iiiiiiiuuuuu p1 p2 p3 p4 p5 0 (va3 p2)) [vi p3] rfl ?_
    refine st7 _ ?_
    refine own_b X7 hx hby tb0 2 [] 21 (L_iiiiiiiiuuuu p1 p2 p3 p4 p5 0 (va3 p2) (va3 p3)) [vi p4] rfl ?_
    refine st8 _ ?_
    refine own_b X8 hx hby tb0 2 [] 28 (L_iiiiiiiiiuuu p1 p2 p3 p4 p5 0 (va3 p2) (va3 p3) (va3 p4)) [vi p5] rfl ?_
    refine st9 _ ?_
    refine own_b X9 hx hby tb0 6 [] 43 (L_iiiiiiiiiiuu p1 p2 p3 p4 p5 0 (va3 p2) (va3 p3) (va3 p4) (va3 p5)) [vi (va3 p5), vi (va3 p4), vi (va3 p3), vi (va3 p2), vi 0] rfl ?_
    refine st10.trans ?_
    refine own_b X10 hx hby tb0 15 [true, true, true, true] 108 (L_iiiiiiiiiiri p1 p2 p3 p4 p5 0 (va3 p2) (va3 p3) (va3 p4) (va3 p5) b11 0) [vr b11] (ai (by decide) (ai (by decide) (ai (by decide) (ai (by decide) rfl)))) ?_
    refine st14 _ ?_
    refine own_b X14 hx hby tb0 4 [false] 121 _ [vi 1] (ai (by decide) rfl) ?_
    exact retN X14 hx (t := .boolean) hret (by simp) (hb hby at_121) hr
  · show Q0 h0 n0 _ T14.heap _
    rw [e14q]
    exact ⟨rfl, N14⟩
theorem rm0_1 (hw : OW Z a0) (p1 : Int32) (p2 : Int32) (p3 : Int32) (p4 : Int32) (p5 : Int32) (p90 : Int32) (rv0 : Value) (Z0 : n0 ≤ h0.size) (Sp0 : ab1 Z (.int p90)) (Sp1 : Old Z n0 h0) (Sp2 : ab2 Z (.int (1 : Int32))) (Sp3 : ab3 Z (.int (0 : Int32))) (Sp4 : ab4 Z (.int (8 : Int32))) (Sp5 : ab5 Z rv0) (Sp6 : rv0.isRef = true) (Sp7 : ¬ (p90 = (0 : Int32))) (H1 : ¬ (((p1 &&& (2147483647 : Int32)) % (5 : Int32)) = (0 : Int32))) (H2 : ((p1 &&& (2147483647 : Int32)) % (5 : Int32)) = (1 : Int32)) (H3 : ¬ (p90 = (0 : Int32))) (H4 : (255 : Int32) < (nar .char (va3 p2))) (H5 : (255 : Int32) < (nar .char (va8 ((va4 (nar .char (va3 p2))).toInt8.toInt32) ((va5 (nar .char (va3 p2))).toInt8.toInt32)))) (H6 : ¬ ((nar .char (va8 ((va4 (nar .char (va3 p2))).toInt8.toInt32) ((va5 (nar .char (va3 p2))).toInt8.toInt32))) = (42 : Int32))) (H7 : (nar .boolean (va10 p2)) = (1 : Int32)) :
    MC l Z ws h0 n0 p1 p2 p3 p4 p5 := by
  refine MetFree.of_bodySF (plainFor_of_name pn_0) hisR ?_
  intro p e s m args below meth c s₁ Bd hml0 hP hK
  obtain ⟨rfl, hZ, hh, hH⟩ := hP
  have hx := Bd.exec
  have hby := Bd.bytes
  have hml : c.maxLocals = 12 := hml0
  have hown : s.vm.findClass "purlin/config/NamePatternIsPatternPinLaw" = some m.cls := findClass_of_methodNamed Bd.named
  have hnm := (name_of_methodNamed Bd.named Bd.method).1
  have hret := Bd.returns
  have X0 : Stand p l e room_1 s m #[(vi p1), (vi p2), (vi p3), (vi p4), (vi p5)] below meth c s₁ [] 0 0 := Stand.of_body Bd
  have e0 : s₁.heap = h0 := by rw [← hh, Bd.state]; rfl
  have N0 := Fr.nil n0
  have pre0 : ∀ t, Steps p.tables e below (s₁.setTop (mkF m 0 #[si p1, si p2, si p3, si p4, si p5, .unset, .unset, .unset, .unset, .unset, .unset, .unset] [])) t → Steps p.tables e below (s₁.setTop (entryFrame m #[(vi p1), (vi p2), (vi p3), (vi p4), (vi p5)] maxLocals)) t := fun t k => castTop (ef0 m p1 p2 p3 p4 p5) k
  obtain ⟨T6, L6, _, X6, ⟨rfl, N6q, e6q⟩, st6⟩ := own_callS X0 hx hZ hown (cw_0 hw) (rm1_3 hw p2 Z0 ) e0 (Ls := (L_iiiiiiuuuuuu p1 p2 p3 p4 p5 1)) hml [vi p2] [] pd_0 0 (hb hby at_9)
  have N6 := Fr.app N0 N6q
  obtain ⟨T7, L7, _, X7, ⟨rfl, N7q, e7q⟩, st7⟩ := own_callS X6 hx hZ hown (cw_0 hw) (rm1_3 hw p3 Z0 ) e6q (Ls := (L_iiiiiiiuuuuu p1 p2 p3 p4 p5 1 (va3 p2))) hml [vi p3] [] pd_0 0 (hb hby at_15)
  have N7 := Fr.app N6 N7q
  obtain ⟨T8, L8, _, X8, ⟨rfl, N8q, e8q⟩, st8⟩ := own_callS X7 hx hZ hown (cw_0 hw) (rm1_3 hw p4 Z0 ) e7q (Ls := (L_iiiiiiiiuuuu p1 p2 p3 p4 p5 1 (va3 p2) (va3 p3))) hml [vi p4] [] pd_0 0 (hb hby at_21)
  have N8 := Fr.app N7 N8q
  obtain ⟨T9, L9, _, X9, ⟨rfl, N9q, e9q⟩, st9⟩ := own_callS X8 hx hZ hown (cw_0 hw) (rm1_3 hw p5 Z0 ) e8q (Ls := (L_iiiiiiiiiuuu p1 p2 p3 p4 p5 1 (va3 p2) (va3 p3) (va3 p4))) hml [vi p5] [] pd_0 0 (hb hby at_28)
  have N9 := Fr.app N8 N9q
  obtain ⟨T10, L10, _, X10, ⟨b11, b12, kk10_0, rfl, N10q, K10, qa10_0, qb10_0, qa10_1, qb10_1, qc10_0_1, f10_0, f10_1, f10_2, f10_3⟩, st10⟩ := own_callS X9 hx hZ hown (cw_16 hw) (rm2_2 hw (va3 p2) (va3 p3) (va3 p4) (va3 p5) p90 Z0 Sp0 Sp1 H3 H4 Sp2 Sp3 Sp4 H5) e9q (Ls := (L_iiiiiiiiiiuu p1 p2 p3 p4 p5 1 (va3 p2) (va3 p3) (va3 p4) (va3 p5))) hml [vi 1, vi (va3 p2), vi (va3 p3), vi (va3 p4), vi (va3 p5)] [] pd_3 0 (hb hby at_43)
  have N10 := Fr.app N9 N10q
  have qd10_0 := Nat.le_trans (Nat.le_refl h0.size) qb10_0
  have qd10_1 := Nat.le_trans (Nat.le_refl h0.size) qb10_1
  have F14 := (Sp1.keep K10 all0)
  obtain ⟨T15, L15, _, X15, ⟨rfl, N15q, e15q⟩, st15⟩ := own_callS X10 hx hZ hown (cw_5 hw) (rm6_2 hw b11 p90 b12 kk10_0 ((va4 (nar .char (va3 p2))).toInt8.toInt32) ((va5 (nar .char (va3 p2))).toInt8.toInt32) rv0 (Nat.le_trans Z0 K10.1) f10_0 Sp0 F14 H3 f10_1 f10_2 f10_3 Sp5 Sp6 Sp2 Sp3 Sp4 H6) rfl (Ls := (L_iiiiiiiiiiri p1 p2 p3 p4 p5 1 (va3 p2) (va3 p3) (va3 p4) (va3 p5) b11 (va9 p2))) hml [vr b11] [] pd_11 0 (hb hby at_108)
  have N15 := Fr.app N10 N15q
  obtain ⟨fs, hr, hrun, hended, hW, hsame⟩ := X15.leave (v := some (vi (nar .boolean (va10 p2)))) (fun h => by rw [hret] at h; cases h)
  refine ⟨_, _, pre0 _ ?_, hrun, hended, _, _, rfl, ?_, ⟨_, rfl⟩, hW.wide, hW.no_new_pair _, hsame.mono (by decide) (by decide)⟩
  · refine own_b X0 hx hby tb0 1 [] 1 _ [vi p1] rfl ?_
    refine X0.ldcInt hx hown (mvT hZ (tw_0 hw)) (g := (mkF m 1 (L_iiiiiuuuuuuu p1 p2 p3 p4 p5) [vi p1])) rfl (hb hby at_1) _ ?_
    show OS p e below s₁ m 3 (L_iiiiiuuuuuuu p1 p2 p3 p4 p5) [vi 2147483647, vi p1] _
    refine own_b X0 hx hby tb0 2 [] 5 _ [vi 5, vi (p1 &&& (2147483647 : Int32))] rfl ?_
    refine iremM X0 hx (g := (mkF m 5 (L_iiiiiuuuuuuu p1 p2 p3 p4 p5) [vi 5, vi (p1 &&& (2147483647 : Int32))])) rfl (hb hby at_5) rfl (by decide) ?_
    show OS p e below s₁ m 6 (L_iiiiiuuuuuuu p1 p2 p3 p4 p5) [vi ((p1 &&& (2147483647 : Int32)) % (5 : Int32))] _
    rw [H2]
    show OS p e below s₁ m 6 (L_iiiiiuuuuuuu p1 p2 p3 p4 p5) [vi 1] _
    refine own_b X0 hx hby tb0 2 [] 9 (L_iiiiiiuuuuuu p1 p2 p3 p4 p5 1) [vi p2] rfl ?_
    refine st6 _ ?_
    refine own_b X6 hx hby tb0 2 [] 15 (L_iiiiiiiuuuuu p1 p2 p3 p4 p5 1 (va3 p2)) [vi p3] rfl ?_
    refine st7 _ ?_
    refine own_b X7 hx hby tb0 2 [] 21 (L_iiiiiiiiuuuu p1 p2 p3 p4 p5 1 (va3 p2) (va3 p3)) [vi p4] rfl ?_
    refine st8 _ ?_
    refine own_b X8 hx hby tb0 2 [] 28 (L_iiiiiiiiiuuu p1 p2 p3 p4 p5 1 (va3 p2) (va3 p3) (va3 p4)) [vi p5] rfl ?_
    refine st9 _ ?_
    refine own_b X9 hx hby tb0 6 [] 43 (L_iiiiiiiiiiuu p1 p2 p3 p4 p5 1 (va3 p2) (va3 p3) (va3 p4) (va3 p5)) [vi (va3 p5), vi (va3 p4), vi (va3 p3), vi (va3 p2), vi 1] rfl ?_
    refine st10 _ ?_
    refine own_b X10 hx hby tb0 5 [false] 57 (L_iiiiiiiiiiru p1 p2 p3 p4 p5 1 (va3 p2) (va3 p3) (va3 p4) (va3 p5) b11) [vi 42, vi (va3 p2)] (ai (by decide) rfl) ?_
    suffices j13 : OS p e below T10 m 104 (L_iiiiiiiiiiru p1 p2 p3 p4 p5 1 (va3 p2) (va3 p3) (va3 p4) (va3 p5) b11) [vi (va9 p2)] (T15.setFrames fs) by
      by_cases j13_1 : (va3 p2) = (42 : Int32)
      ·
        refine own_b X10 hx hby tb0 3 [true] 104 _ [vi 1] (ai (teq j13_1).1 rfl) ?_
        exact os_eq (by simp only [va9, if_pos j13_1]) j13
      ·
        refine own_b X10 hx hby tb0 11 [false, true, true, true] 104 _ [vi 0] (ai (feq j13_1).1 (ai (by decide) (ai (by decide) (ai (by decide) rfl)))) ?_
        exact os_eq (by simp only [va9, if_neg j13_1]) j13
    refine own_b X10 hx hby tb0 2 [] 108 (L_iiiiiiiiiiri p1 p2 p3 p4 p5 1 (va3 p2) (va3 p3) (va3 p4) (va3 p5) b11 (va9 p2)) [vr b11] rfl ?_
    refine st15 _ ?_
    refine own_b X15 hx hby tb0 1 [] 113 _ [vi (va9 p2), vi 0] rfl ?_
    suffices j16 : OS p e below T15 m 121 (L_iiiiiiiiiiri p1 p2 p3 p4 p5 1 (va3 p2) (va3 p3) (va3 p4) (va3 p5) b11 (va9 p2)) [vi (va10 p2)] (T15.setFrames fs) by
      by_cases j16_1 : (0 : Int32) = (va9 p2)
      ·
        refine own_b X15 hx hby tb0 3 [false] 121 _ [vi 1] (ai (teq j16_1).2 rfl) ?_
        exact os_eq (by simp only [va10, if_pos j16_1]) j16
      ·
        refine own_b X15 hx hby tb0 2 [true] 121 _ [vi 0] (ai (feq j16_1).2 rfl) ?_
        exact os_eq (by simp only [va10, if_neg j16_1]) j16
    show OS p e below T15 m 121 (L_iiiiiiiiiiri p1 p2 p3 p4 p5 1 (va3 p2) (va3 p3) (va3 p4) (va3 p5) b11 (va9 p2)) [vi (va10 p2)] _
    exact retN X15 hx (t := .boolean) hret (by simp) (hb hby at_121) hr
  · show Q0 h0 n0 _ T15.heap _
    rw [e15q]
    exact ⟨(congrArg (fun z => some (Value.int z)) H7), N15⟩
theorem rm0_2 (hw : OW Z a0) (p1 : Int32) (p2 : Int32) (p3 : Int32) (p4 : Int32) (p5 : Int32) (p90 : Int32) (rv0 : Value) (Z0 : n0 ≤ h0.size) (Sp0 : ab1 Z (.int p90)) (Sp1 : Old Z n0 h0) (Sp2 : ab2 Z (.int (1 : Int32))) (Sp3 : ab3 Z (.int (0 : Int32))) (Sp4 : ab4 Z (.int (8 : Int32))) (Sp5 : ab5 Z rv0) (Sp6 : rv0.isRef = true) (Sp7 : ¬ (p90 = (0 : Int32))) (H1 : ¬ (((p1 &&& (2147483647 : Int32)) % (5 : Int32)) = (0 : Int32))) (H2 : ((p1 &&& (2147483647 : Int32)) % (5 : Int32)) = (1 : Int32)) (H3 : ¬ (p90 = (0 : Int32))) (H4 : ¬ ((255 : Int32) < (nar .char (va3 p2)))) (H5 : (nar .boolean (va13 p2)) = (1 : Int32)) :
    MC l Z ws h0 n0 p1 p2 p3 p4 p5 := by
  refine MetFree.of_bodySF (plainFor_of_name pn_0) hisR ?_
  intro p e s m args below meth c s₁ Bd hml0 hP hK
  obtain ⟨rfl, hZ, hh, hH⟩ := hP
  have hx := Bd.exec
  have hby := Bd.bytes
  have hml : c.maxLocals = 12 := hml0
  have hown : s.vm.findClass "purlin/config/NamePatternIsPatternPinLaw" = some m.cls := findClass_of_methodNamed Bd.named
  have hnm := (name_of_methodNamed Bd.named Bd.method).1
  have hret := Bd.returns
  have X0 : Stand p l e room_1 s m #[(vi p1), (vi p2), (vi p3), (vi p4), (vi p5)] below meth c s₁ [] 0 0 := Stand.of_body Bd
  have e0 : s₁.heap = h0 := by rw [← hh, Bd.state]; rfl
  have N0 := Fr.nil n0
  have pre0 : ∀ t, Steps p.tables e below (s₁.setTop (mkF m 0 #[si p1, si p2, si p3, si p4, si p5, .unset, .unset, .unset, .unset, .unset, .unset, .unset] [])) t → Steps p.tables e below (s₁.setTop (entryFrame m #[(vi p1), (vi p2), (vi p3), (vi p4), (vi p5)] maxLocals)) t := fun t k => castTop (ef0 m p1 p2 p3 p4 p5) k
  obtain ⟨T6, L6, _, X6, ⟨rfl, N6q, e6q⟩, st6⟩ := own_callS X0 hx hZ hown (cw_0 hw) (rm1_3 hw p2 Z0 ) e0 (Ls := (L_iiiiiiuuuuuu p1 p2 p3 p4 p5 1)) hml [vi p2] [] pd_0 0 (hb hby at_9)
  have N6 := Fr.app N0 N6q
  obtain ⟨T7, L7, _, X7, ⟨rfl, N7q, e7q⟩, st7⟩ := own_callS X6 hx hZ hown (cw_0 hw) (rm1_3 hw p3 Z0 ) e6q (Ls := (L_iiiiiiiuuuuu p1 p2 p3 p4 p5 1 (va3 p2))) hml [vi p3] [] pd_0 0 (hb hby at_15)
  have N7 := Fr.app N6 N7q
  obtain ⟨T8, L8, _, X8, ⟨rfl, N8q, e8q⟩, st8⟩ := own_callS X7 hx hZ hown (cw_0 hw) (rm1_3 hw p4 Z0 ) e7q (Ls := (L_iiiiiiiiuuuu p1 p2 p3 p4 p5 1 (va3 p2) (va3 p3))) hml [vi p4] [] pd_0 0 (hb hby at_21)
  have N8 := Fr.app N7 N8q
  obtain ⟨T9, L9, _, X9, ⟨rfl, N9q, e9q⟩, st9⟩ := own_callS X8 hx hZ hown (cw_0 hw) (rm1_3 hw p5 Z0 ) e8q (Ls := (L_iiiiiiiiiuuu p1 p2 p3 p4 p5 1 (va3 p2) (va3 p3) (va3 p4))) hml [vi p5] [] pd_0 0 (hb hby at_28)
  have N9 := Fr.app N8 N9q
  obtain ⟨T10, L10, _, X10, ⟨b11, b12, kk10_0, rfl, N10q, K10, qa10_0, qb10_0, qa10_1, qb10_1, qc10_0_1, f10_0, f10_1, f10_2, f10_3⟩, st10⟩ := own_callS X9 hx hZ hown (cw_16 hw) (rm2_3 hw (va3 p2) (va3 p3) (va3 p4) (va3 p5) p90 Z0 Sp0 Sp1 H3 H4) e9q (Ls := (L_iiiiiiiiiiuu p1 p2 p3 p4 p5 1 (va3 p2) (va3 p3) (va3 p4) (va3 p5))) hml [vi 1, vi (va3 p2), vi (va3 p3), vi (va3 p4), vi (va3 p5)] [] pd_3 0 (hb hby at_43)
  have N10 := Fr.app N9 N10q
  have qd10_0 := Nat.le_trans (Nat.le_refl h0.size) qb10_0
  have qd10_1 := Nat.le_trans (Nat.le_refl h0.size) qb10_1
  have F14 := (Sp1.keep K10 all0)
  obtain ⟨T15, L15, _, X15, ⟨rfl, N15q, e15q⟩, st15⟩ := own_callS X10 hx hZ hown (cw_5 hw) (rm6_5 hw b11 p90 b12 kk10_0 (((nar .char (va3 p2)).toInt8.toInt32).toInt8.toInt32) (Nat.le_trans Z0 K10.1) f10_0 Sp0 F14 H3 f10_1 f10_2 f10_3) rfl (Ls := (L_iiiiiiiiiiri p1 p2 p3 p4 p5 1 (va3 p2) (va3 p3) (va3 p4) (va3 p5) b11 (va9 p2))) hml [vr b11] [] pd_11 0 (hb hby at_108)
  have N15 := Fr.app N10 N15q
  obtain ⟨fs, hr, hrun, hended, hW, hsame⟩ := X15.leave (v := some (vi (nar .boolean (va13 p2)))) (fun h => by rw [hret] at h; cases h)
  refine ⟨_, _, pre0 _ ?_, hrun, hended, _, _, rfl, ?_, ⟨_, rfl⟩, hW.wide, hW.no_new_pair _, hsame.mono (by decide) (by decide)⟩
  · refine own_b X0 hx hby tb0 1 [] 1 _ [vi p1] rfl ?_
    refine X0.ldcInt hx hown (mvT hZ (tw_0 hw)) (g := (mkF m 1 (L_iiiiiuuuuuuu p1 p2 p3 p4 p5) [vi p1])) rfl (hb hby at_1) _ ?_
    show OS p e below s₁ m 3 (L_iiiiiuuuuuuu p1 p2 p3 p4 p5) [vi 2147483647, vi p1] _
    refine own_b X0 hx hby tb0 2 [] 5 _ [vi 5, vi (p1 &&& (2147483647 : Int32))] rfl ?_
    refine iremM X0 hx (g := (mkF m 5 (L_iiiiiuuuuuuu p1 p2 p3 p4 p5) [vi 5, vi (p1 &&& (2147483647 : Int32))])) rfl (hb hby at_5) rfl (by decide) ?_
    show OS p e below s₁ m 6 (L_iiiiiuuuuuuu p1 p2 p3 p4 p5) [vi ((p1 &&& (2147483647 : Int32)) % (5 : Int32))] _
    rw [H2]
    show OS p e below s₁ m 6 (L_iiiiiuuuuuuu p1 p2 p3 p4 p5) [vi 1] _
    refine own_b X0 hx hby tb0 2 [] 9 (L_iiiiiiuuuuuu p1 p2 p3 p4 p5 1) [vi p2] rfl ?_
    refine st6 _ ?_
    refine own_b X6 hx hby tb0 2 [] 15 (L_iiiiiiiuuuuu p1 p2 p3 p4 p5 1 (va3 p2)) [vi p3] rfl ?_
    refine st7 _ ?_
    refine own_b X7 hx hby tb0 2 [] 21 (L_iiiiiiiiuuuu p1 p2 p3 p4 p5 1 (va3 p2) (va3 p3)) [vi p4] rfl ?_
    refine st8 _ ?_
    refine own_b X8 hx hby tb0 2 [] 28 (L_iiiiiiiiiuuu p1 p2 p3 p4 p5 1 (va3 p2) (va3 p3) (va3 p4)) [vi p5] rfl ?_
    refine st9 _ ?_
    refine own_b X9 hx hby tb0 6 [] 43 (L_iiiiiiiiiiuu p1 p2 p3 p4 p5 1 (va3 p2) (va3 p3) (va3 p4) (va3 p5)) [vi (va3 p5), vi (va3 p4), vi (va3 p3), vi (va3 p2), vi 1] rfl ?_
    refine st10 _ ?_
    refine own_b X10 hx hby tb0 5 [false] 57 (L_iiiiiiiiiiru p1 p2 p3 p4 p5 1 (va3 p2) (va3 p3) (va3 p4) (va3 p5) b11) [vi 42, vi (va3 p2)] (ai (by decide) rfl) ?_
    suffices j13 : OS p e below T10 m 104 (L_iiiiiiiiiiru p1 p2 p3 p4 p5 1 (va3 p2) (va3 p3) (va3 p4) (va3 p5) b11) [vi (va9 p2)] (T15.setFrames fs) by
      by_cases j13_1 : (va3 p2) = (42 : Int32)
      ·
        refine own_b X10 hx hby tb0 3 [true] 104 _ [vi 1] (ai (teq j13_1).1 rfl) ?_
        exact os_eq (by simp only [va9, if_pos j13_1]) j13
      ·
        refine own_b X10 hx hby tb0 11 [false, true, true, true] 104 _ [vi 0] (ai (feq j13_1).1 (ai (by decide) (ai (by decide) (ai (by decide) rfl)))) ?_
        exact os_eq (by simp only [va9, if_neg j13_1]) j13
    refine own_b X10 hx hby tb0 2 [] 108 (L_iiiiiiiiiiri p1 p2 p3 p4 p5 1 (va3 p2) (va3 p3) (va3 p4) (va3 p5) b11 (va9 p2)) [vr b11] rfl ?_
    refine st15 _ ?_
    refine own_b X15 hx hby tb0 1 [] 113 _ [vi (va9 p2), vi (va12 (((nar .char (va3 p2)).toInt8.toInt32).toInt8.toInt32))] rfl ?_
    suffices j16 : OS p e below T15 m 121 (L_iiiiiiiiiiri p1 p2 p3 p4 p5 1 (va3 p2) (va3 p3) (va3 p4) (va3 p5) b11 (va9 p2)) [vi (va13 p2)] (T15.setFrames fs) by
      by_cases j16_1 : (va12 (((nar .char (va3 p2)).toInt8.toInt32).toInt8.toInt32)) = (va9 p2)
      ·
        refine own_b X15 hx hby tb0 3 [false] 121 _ [vi 1] (ai (teq j16_1).2 rfl) ?_
        exact os_eq (by simp only [va13, if_pos j16_1]) j16
      ·
        refine own_b X15 hx hby tb0 2 [true] 121 _ [vi 0] (ai (feq j16_1).2 rfl) ?_
        exact os_eq (by simp only [va13, if_neg j16_1]) j16
    show OS p e below T15 m 121 (L_iiiiiiiiiiri p1 p2 p3 p4 p5 1 (va3 p2) (va3 p3) (va3 p4) (va3 p5) b11 (va9 p2)) [vi (va13 p2)] _
    exact retN X15 hx (t := .boolean) hret (by simp) (hb hby at_121) hr
  · show Q0 h0 n0 _ T15.heap _
    rw [e15q]
    exact ⟨(congrArg (fun z => some (Value.int z)) H5), N15⟩
theorem rm0_3 (hw : OW Z a0) (p1 : Int32) (p2 : Int32) (p3 : Int32) (p4 : Int32) (p5 : Int32) (p90 : Int32) (rv0 : Value) (Z0 : n0 ≤ h0.size) (Sp0 : ab1 Z (.int p90)) (Sp1 : Old Z n0 h0) (Sp2 : ab2 Z (.int (1 : Int32))) (Sp3 : ab3 Z (.int (0 : Int32))) (Sp4 : ab4 Z (.int (8 : Int32))) (Sp5 : ab5 Z rv0) (Sp6 : rv0.isRef = true) (Sp7 : ¬ (p90 = (0 : Int32))) (H1 : ¬ (((p1 &&& (2147483647 : Int32)) % (5 : Int32)) = (0 : Int32))) (H2 : ¬ (((p1 &&& (2147483647 : Int32)) % (5 : Int32)) = (1 : Int32))) (H3 : ((p1 &&& (2147483647 : Int32)) % (5 : Int32)) = (2 : Int32)) (H4 : ¬ (p90 = (0 : Int32))) (H5 : (255 : Int32) < (nar .char (va3 p2))) (H6 : (255 : Int32) < (nar .char (va8 ((va4 (nar .char (va3 p2))).toInt8.toInt32) ((va5 (nar .char (va3 p2))).toInt8.toInt32)))) (H7 : ¬ ((nar .char (va8 ((va4 (nar .char (va3 p2))).toInt8.toInt32) ((va5 (nar .char (va3 p2))).toInt8.toInt32))) = (42 : Int32))) (H8 : (nar .boolean (va17 p3 p2)) = (1 : Int32)) :
    MC l Z ws h0 n0 p1 p2 p3 p4 p5 := by
  refine MetFree.of_bodySF (plainFor_of_name pn_0) hisR ?_
  intro p e s m args below meth c s₁ Bd hml0 hP hK
  obtain ⟨rfl, hZ, hh, hH⟩ := hP
  have hx := Bd.exec
  have hby := Bd.bytes
  have hml : c.maxLocals = 12 := hml0
  have hown : s.vm.findClass "purlin/config/NamePatternIsPatternPinLaw" = some m.cls := findClass_of_methodNamed Bd.named
  have hnm := (name_of_methodNamed Bd.named Bd.method).1
  have hret := Bd.returns
  have X0 : Stand p l e room_1 s m #[(vi p1), (vi p2), (vi p3), (vi p4), (vi p5)] below meth c s₁ [] 0 0 := Stand.of_body Bd
  have e0 : s₁.heap = h0 := by rw [← hh, Bd.state]; rfl
  have N0 := Fr.nil n0
  have pre0 : ∀ t, Steps p.tables e below (s₁.setTop (mkF m 0 #[si p1, si p2, si p3, si p4, si p5, .unset, .unset, .unset, .unset, .unset, .unset, .unset] [])) t → Steps p.tables e below (s₁.setTop (entryFrame m #[(vi p1), (vi p2), (vi p3), (vi p4), (vi p5)] maxLocals)) t := fun t k => castTop (ef0 m p1 p2 p3 p4 p5) k
  obtain ⟨T6, L6, _, X6, ⟨rfl, N6q, e6q⟩, st6⟩ := own_callS X0 hx hZ hown (cw_0 hw) (rm1_3 hw p2 Z0 ) e0 (Ls := (L_iiiiiiuuuuuu p1 p2 p3 p4 p5 2)) hml [vi p2] [] pd_0 0 (hb hby at_9)
  have N6 := Fr.app N0 N6q
  obtain ⟨T7, L7, _, X7, ⟨rfl, N7q, e7q⟩, st7⟩ := own_callS X6 hx hZ hown (cw_0 hw) (rm1_3 hw p3 Z0 ) e6q (Ls := (L_iiiiiiiuuuuu p1 p2 p3 p4 p5 2 (va3 p2))) hml [vi p3] [] pd_0 0 (hb hby at_15)
  have N7 := Fr.app N6 N7q
  obtain ⟨T8, L8, _, X8, ⟨rfl, N8q, e8q⟩, st8⟩ := own_callS X7 hx hZ hown (cw_0 hw) (rm1_3 hw p4 Z0 ) e7q (Ls := (L_iiiiiiiiuuuu p1 p2 p3 p4 p5 2 (va3 p2) (va3 p3))) hml [vi p4] [] pd_0 0 (hb hby at_21)
  have N8 := Fr.app N7 N8q
  obtain ⟨T9, L9, _, X9, ⟨rfl, N9q, e9q⟩, st9⟩ := own_callS X8 hx hZ hown (cw_0 hw) (rm1_3 hw p5 Z0 ) e8q (Ls := (L_iiiiiiiiiuuu p1 p2 p3 p4 p5 2 (va3 p2) (va3 p3) (va3 p4))) hml [vi p5] [] pd_0 0 (hb hby at_28)
  have N9 := Fr.app N8 N9q
  obtain ⟨T10, L10, _, X10, ⟨b11, b12, kk10_0, rfl, N10q, K10, qa10_0, qb10_0, qa10_1, qb10_1, qc10_0_1, f10_0, f10_1, f10_2, f10_3⟩, st10⟩ := own_callS X9 hx hZ hown (cw_16 hw) (rm2_4 hw (va3 p2) (va3 p3) (va3 p4) (va3 p5) p90 Z0 Sp0 Sp1 H4 H5 Sp2 Sp3 Sp4 H6) e9q (Ls := (L_iiiiiiiiiiuu p1 p2 p3 p4 p5 2 (va3 p2) (va3 p3) (va3 p4) (va3 p5))) hml [vi 2, vi (va3 p2), vi (va3 p3), vi (va3 p4), vi (va3 p5)] [] pd_3 0 (hb hby at_43)
  have N10 := Fr.app N9 N10q
  have qd10_0 := Nat.le_trans (Nat.le_refl h0.size) qb10_0
  have qd10_1 := Nat.le_trans (Nat.le_refl h0.size) qb10_1
  have F14 := (Sp1.keep K10 all0)
  obtain ⟨T15, L15, _, X15, ⟨rfl, N15q, e15q⟩, st15⟩ := own_callS X10 hx hZ hown (cw_5 hw) (rm6_8 hw b11 p90 b12 kk10_0 ((va4 (nar .char (va3 p2))).toInt8.toInt32) ((va5 (nar .char (va3 p2))).toInt8.toInt32) ((va4 (nar .char (va3 p3))).toInt8.toInt32) ((va5 (nar .char (va3 p3))).toInt8.toInt32) rv0 (Nat.le_trans Z0 K10.1) f10_0 Sp0 F14 H4 f10_1 f10_2 f10_3 Sp5 Sp6 Sp2 Sp3 Sp4 H7) rfl (Ls := (L_iiiiiiiiiiri p1 p2 p3 p4 p5 2 (va3 p2) (va3 p3) (va3 p4) (va3 p5) b11 (va14 p2 p3))) hml [vr b11] [] pd_11 0 (hb hby at_108)
  have N15 := Fr.app N10 N15q
  obtain ⟨fs, hr, hrun, hended, hW, hsame⟩ := X15.leave (v := some (vi (nar .boolean (va17 p3 p2)))) (fun h => by rw [hret] at h; cases h)
  refine ⟨_, _, pre0 _ ?_, hrun, hended, _, _, rfl, ?_, ⟨_, rfl⟩, hW.wide, hW.no_new_pair _, hsame.mono (by decide) (by decide)⟩
  · refine own_b X0 hx hby tb0 1 [] 1 _ [vi p1] rfl ?_
    refine X0.ldcInt hx hown (mvT hZ (tw_0 hw)) (g := (mkF m 1 (L_iiiiiuuuuuuu p1 p2 p3 p4 p5) [vi p1])) rfl (hb hby at_1) _ ?_
    show OS p e below s₁ m 3 (L_iiiiiuuuuuuu p1 p2 p3 p4 p5) [vi 2147483647, vi p1] _
    refine own_b X0 hx hby tb0 2 [] 5 _ [vi 5, vi (p1 &&& (2147483647 : Int32))] rfl ?_
    refine iremM X0 hx (g := (mkF m 5 (L_iiiiiuuuuuuu p1 p2 p3 p4 p5) [vi 5, vi (p1 &&& (2147483647 : Int32))])) rfl (hb hby at_5) rfl (by decide) ?_
    show OS p e below s₁ m 6 (L_iiiiiuuuuuuu p1 p2 p3 p4 p5) [vi ((p1 &&& (2147483647 : Int32)) % (5 : Int32))] _
    rw [H3]
    show OS p e below s₁ m 6 (L_iiiiiuuuuuuu p1 p2 p3 p4 p5) [vi 2] _
    refine own_b X0 hx hby tb0 2 [] 9 (L_iiiiiiuuuuuu p1 p2 p3 p4 p5 2) [vi p2] rfl ?_
    refine st6 _ ?_
    refine own_b X6 hx hby tb0 2 [] 15 (L_iiiiiiiuuuuu p1 p2 p3 p4 p5 2 (va3 p2)) [vi p3] rfl ?_
    refine st7 _ ?_
    refine own_b X7 hx hby tb0 2 [] 21 (L_iiiiiiiiuuuu p1 p2 p3 p4 p5 2 (va3 p2) (va3 p3)) [vi p4] rfl ?_
    refine st8 _ ?_
    refine own_b X8 hx hby tb0 2 [] 28 (L_iiiiiiiiiuuu p1 p2 p3 p4 p5 2 (va3 p2) (va3 p3) (va3 p4)) [vi p5] rfl ?_
    refine st9 _ ?_
    refine own_b X9 hx hby tb0 6 [] 43 (L_iiiiiiiiiiuu p1 p2 p3 p4 p5 2 (va3 p2) (va3 p3) (va3 p4) (va3 p5)) [vi (va3 p5), vi (va3 p4), vi (va3 p3), vi (va3 p2), vi 2] rfl ?_
    refine st10 _ ?_
    refine own_b X10 hx hby tb0 5 [false] 57 (L_iiiiiiiiiiru p1 p2 p3 p4 p5 2 (va3 p2) (va3 p3) (va3 p4) (va3 p5) b11) [vi 42, vi (va3 p2)] (ai (by decide) rfl) ?_
    suffices j13 : OS p e below T10 m 104 (L_iiiiiiiiiiru p1 p2 p3 p4 p5 2 (va3 p2) (va3 p3) (va3 p4) (va3 p5) b11) [vi (va14 p2 p3)] (T15.setFrames fs) by
      by_cases j13_1 : (va3 p2) = (42 : Int32)
      ·
        refine own_b X10 hx hby tb0 3 [true] 104 _ [vi 1] (ai (teq j13_1).1 rfl) ?_
        exact os_eq (by simp only [va14, if_pos j13_1]) j13
      ·
        refine own_b X10 hx hby tb0 6 [false, false] 70 _ [vi 42, vi (va3 p3)] (ai (feq j13_1).1 (ai (by decide) rfl)) ?_
        by_cases j13_2 : (va3 p3) = (42 : Int32)
        ·
          refine own_b X10 hx hby tb0 3 [true] 104 _ [vi 1] (ai (teq j13_2).1 rfl) ?_
          exact os_eq (by simp only [va14, if_neg j13_1, if_pos j13_2]) j13
        ·
          refine own_b X10 hx hby tb0 8 [false, true, true] 104 _ [vi 0] (ai (feq j13_2).1 (ai (by decide) (ai (by decide) rfl))) ?_
          exact os_eq (by simp only [va14, if_neg j13_1, if_neg j13_2]) j13
    refine own_b X10 hx hby tb0 2 [] 108 (L_iiiiiiiiiiri p1 p2 p3 p4 p5 2 (va3 p2) (va3 p3) (va3 p4) (va3 p5) b11 (va14 p2 p3)) [vr b11] rfl ?_
    refine st15 _ ?_
    refine own_b X15 hx hby tb0 1 [] 113 _ [vi (va14 p2 p3), vi (va16 ((va4 (nar .char (va3 p3))).toInt8.toInt32) ((va5 (nar .char (va3 p3))).toInt8.toInt32))] rfl ?_
    suffices j16 : OS p e below T15 m 121 (L_iiiiiiiiiiri p1 p2 p3 p4 p5 2 (va3 p2) (va3 p3) (va3 p4) (va3 p5) b11 (va14 p2 p3)) [vi (va17 p3 p2)] (T15.setFrames fs) by
      by_cases j16_1 : (va16 ((va4 (nar .char (va3 p3))).toInt8.toInt32) ((va5 (nar .char (va3 p3))).toInt8.toInt32)) = (va14 p2 p3)
      ·
        refine own_b X15 hx hby tb0 3 [false] 121 _ [vi 1] (ai (teq j16_1).2 rfl) ?_
        exact os_eq (by simp only [va17, if_pos j16_1]) j16
      ·
        refine own_b X15 hx hby tb0 2 [true] 121 _ [vi 0] (ai (feq j16_1).2 rfl) ?_
        exact os_eq (by simp only [va17, if_neg j16_1]) j16
    show OS p e below T15 m 121 (L_iiiiiiiiiiri p1 p2 p3 p4 p5 2 (va3 p2) (va3 p3) (va3 p4) (va3 p5) b11 (va14 p2 p3)) [vi (va17 p3 p2)] _
    exact retN X15 hx (t := .boolean) hret (by simp) (hb hby at_121) hr
  · show Q0 h0 n0 _ T15.heap _
    rw [e15q]
    exact ⟨(congrArg (fun z => some (Value.int z)) H8), N15⟩
theorem rm0_4 (hw : OW Z a0) (p1 : Int32) (p2 : Int32) (p3 : Int32) (p4 : Int32) (p5 : Int32) (p90 : Int32) (rv0 : Value) (Z0 : n0 ≤ h0.size) (Sp0 : ab1 Z (.int p90)) (Sp1 : Old Z n0 h0) (Sp2 : ab2 Z (.int (1 : Int32))) (Sp3 : ab3 Z (.int (0 : Int32))) (Sp4 : ab4 Z (.int (8 : Int32))) (Sp5 : ab5 Z rv0) (Sp6 : rv0.isRef = true) (Sp7 : ¬ (p90 = (0 : Int32))) (H1 : ¬ (((p1 &&& (2147483647 : Int32)) % (5 : Int32)) = (0 : Int32))) (H2 : ¬ (((p1 &&& (2147483647 : Int32)) % (5 : Int32)) = (1 : Int32))) (H3 : ((p1 &&& (2147483647 : Int32)) % (5 : Int32)) = (2 : Int32)) (H4 : ¬ (p90 = (0 : Int32))) (H5 : ¬ ((255 : Int32) < (nar .char (va3 p2)))) (H6 : (255 : Int32) < (nar .char (va3 p3))) (H7 : (255 : Int32) < (nar .char (va8 ((va4 (nar .char (va3 p3))).toInt8.toInt32) ((va5 (nar .char (va3 p3))).toInt8.toInt32)))) (H8 : ¬ ((nar .char (va8 ((va4 (nar .char (va3 p3))).toInt8.toInt32) ((va5 (nar .char (va3 p3))).toInt8.toInt32))) = (42 : Int32))) (H9 : (nar .boolean (va20 p2 p3)) = (1 : Int32)) :
    MC l Z ws h0 n0 p1 p2 p3 p4 p5 := by
  refine MetFree.of_bodySF (plainFor_of_name pn_0) hisR ?_
  intro p e s m args below meth c s₁ Bd hml0 hP hK
  obtain ⟨rfl, hZ, hh, hH⟩ := hP
  have hx := Bd.exec
  have hby := Bd.bytes
  have hml : c.maxLocals = 12 := hml0
  have hown : s.vm.findClass "purlin/config/NamePatternIsPatternPinLaw" = some m.cls := findClass_of_methodNamed Bd.named
  have hnm := (name_of_methodNamed Bd.named Bd.method).1
  have hret := Bd.returns
  have X0 : Stand p l e room_1 s m #[(vi p1), (vi p2), (vi p3), (vi p4), (vi p5)] below meth c s₁ [] 0 0 := Stand.of_body Bd
  have e0 : s₁.heap = h0 := by rw [← hh, Bd.state]; rfl
  have N0 := Fr.nil n0
  have pre0 : ∀ t, Steps p.tables e below (s₁.setTop (mkF m 0 #[si p1, si p2, si p3, si p4, si p5, .unset, .unset, .unset, .unset, .unset, .unset, .unset] [])) t → Steps p.tables e below (s₁.setTop (entryFrame m #[(vi p1), (vi p2), (vi p3), (vi p4), (vi p5)] maxLocals)) t := fun t k => castTop (ef0 m p1 p2 p3 p4 p5) k
  obtain ⟨T6, L6, _, X6, ⟨rfl, N6q, e6q⟩, st6⟩ := own_callS X0 hx hZ hown (cw_0 hw) (rm1_3 hw p2 Z0 ) e0 (Ls := (L_iiiiiiuuuuuu p1 p2 p3 p4 p5 2)) hml [vi p2] [] pd_0 0 (hb hby at_9)
  have N6 := Fr.app N0 N6q
  obtain ⟨T7, L7, _, X7, ⟨rfl, N7q, e7q⟩, st7⟩ := own_callS X6 hx hZ hown (cw_0 hw) (rm1_3 hw p3 Z0 ) e6q (Ls := (L_iiiiiiiuuuuu p1 p2 p3 p4 p5 2 (va3 p2))) hml [vi p3] [] pd_0 0 (hb hby at_15)
  have N7 := Fr.app N6 N7q
  obtain ⟨T8, L8, _, X8, ⟨rfl, N8q, e8q⟩, st8⟩ := own_callS X7 hx hZ hown (cw_0 hw) (rm1_3 hw p4 Z0 ) e7q (Ls := (L_iiiiiiiiuuuu p1 p2 p3 p4 p5 2 (va3 p2) (va3 p3))) hml [vi p4] [] pd_0 0 (hb hby at_21)
  have N8 := Fr.app N7 N8q
  obtain ⟨T9, L9, _, X9, ⟨rfl, N9q, e9q⟩, st9⟩ := own_callS X8 hx hZ hown (cw_0 hw) (rm1_3 hw p5 Z0 ) e8q (Ls := (L_iiiiiiiiiuuu p1 p2 p3 p4 p5 2 (va3 p2) (va3 p3) (va3 p4))) hml [vi p5] [] pd_0 0 (hb hby at_28)
  have N9 := Fr.app N8 N9q
  obtain ⟨T10, L10, _, X10, ⟨b11, b12, kk10_0, rfl, N10q, K10, qa10_0, qb10_0, qa10_1, qb10_1, qc10_0_1, f10_0, f10_1, f10_2, f10_3⟩, st10⟩ := own_callS X9 hx hZ hown (cw_16 hw) (rm2_5 hw (va3 p2) (va3 p3) (va3 p4) (va3 p5) p90 Z0 Sp0 Sp1 H4 H5 H6 Sp2 Sp3 Sp4 H7) e9q (Ls := (L_iiiiiiiiiiuu p1 p2 p3 p4 p5 2 (va3 p2) (va3 p3) (va3 p4) (va3 p5))) hml [vi 2, vi (va3 p2), vi (va3 p3), vi (va3 p4), vi (va3 p5)] [] pd_3 0 (hb hby at_43)
  have N10 := Fr.app N9 N10q
  have qd10_0 := Nat.le_trans (Nat.le_refl h0.size) qb10_0
  have qd10_1 := Nat.le_trans (Nat.le_refl h0.size) qb10_1
  have F14 := (Sp1.keep K10 all0)
  obtain ⟨T15, L15, _, X15, ⟨rfl, N15q, e15q⟩, st15⟩ := own_callS X10 hx hZ hown (cw_5 hw) (rm6_11 hw b11 p90 b12 kk10_0 ((va4 (nar .char (va3 p2))).toInt8.toInt32) ((va5 (nar .char (va3 p2))).toInt8.toInt32) ((va4 (nar .char (va3 p3))).toInt8.toInt32) ((va5 (nar .char (va3 p3))).toInt8.toInt32) rv0 (Nat.le_trans Z0 K10.1) f10_0 Sp0 F14 H4 f10_1 f10_2 f10_3 Sp5 Sp6 Sp2 Sp3 Sp4 H8) rfl (Ls := (L_iiiiiiiiiiri p1 p2 p3 p4 p5 2 (va3 p2) (va3 p3) (va3 p4) (va3 p5) b11 (va14 p2 p3))) hml [vr b11] [] pd_11 0 (hb hby at_108)
  have N15 := Fr.app N10 N15q
  obtain ⟨fs, hr, hrun, hended, hW, hsame⟩ := X15.leave (v := some (vi (nar .boolean (va20 p2 p3)))) (fun h => by rw [hret] at h; cases h)
  refine ⟨_, _, pre0 _ ?_, hrun, hended, _, _, rfl, ?_, ⟨_, rfl⟩, hW.wide, hW.no_new_pair _, hsame.mono (by decide) (by decide)⟩
  · refine own_b X0 hx hby tb0 1 [] 1 _ [vi p1] rfl ?_
    refine X0.ldcInt hx hown (mvT hZ (tw_0 hw)) (g := (mkF m 1 (L_iiiiiuuuuuuu p1 p2 p3 p4 p5) [vi p1])) rfl (hb hby at_1) _ ?_
    show OS p e below s₁ m 3 (L_iiiiiuuuuuuu p1 p2 p3 p4 p5) [vi 2147483647, vi p1] _
    refine own_b X0 hx hby tb0 2 [] 5 _ [vi 5, vi (p1 &&& (2147483647 : Int32))] rfl ?_
    refine iremM X0 hx (g := (mkF m 5 (L_iiiiiuuuuuuu p1 p2 p3 p4 p5) [vi 5, vi (p1 &&& (2147483647 : Int32))])) rfl (hb hby at_5) rfl (by decide) ?_
    show OS p e below s₁ m 6 (L_iiiiiuuuuuuu p1 p2 p3 p4 p5) [vi ((p1 &&& (2147483647 : Int32)) % (5 : Int32))] _
    rw [H3]
    show OS p e below s₁ m 6 (L_iiiiiuuuuuuu p1 p2 p3 p4 p5) [vi 2] _
    refine own_b X0 hx hby tb0 2 [] 9 (L_iiiiiiuuuuuu p1 p2 p3 p4 p5 2) [vi p2] rfl ?_
    refine st6 _ ?_
    refine own_b X6 hx hby tb0 2 [] 15 (L_iiiiiiiuuuuu p1 p2 p3 p4 p5 2 (va3 p2)) [vi p3] rfl ?_
    refine st7 _ ?_
    refine own_b X7 hx hby tb0 2 [] 21 (L_iiiiiiiiuuuu p1 p2 p3 p4 p5 2 (va3 p2) (va3 p3)) [vi p4] rfl ?_
    refine st8 _ ?_
    refine own_b X8 hx hby tb0 2 [] 28 (L_iiiiiiiiiuuu p1 p2 p3 p4 p5 2 (va3 p2) (va3 p3) (va3 p4)) [vi p5] rfl ?_
    refine st9 _ ?_
    refine own_b X9 hx hby tb0 6 [] 43 (L_iiiiiiiiiiuu p1 p2 p3 p4 p5 2 (va3 p2) (va3 p3) (va3 p4) (va3 p5)) [vi (va3 p5), vi (va3 p4), vi (va3 p3), vi (va3 p2), vi 2] rfl ?_
    refine st10 _ ?_
    refine own_b X10 hx hby tb0 5 [false] 57 (L_iiiiiiiiiiru p1 p2 p3 p4 p5 2 (va3 p2) (va3 p3) (va3 p4) (va3 p5) b11) [vi 42, vi (va3 p2)] (ai (by decide) rfl) ?_
    suffices j13 : OS p e below T10 m 104 (L_iiiiiiiiiiru p1 p2 p3 p4 p5 2 (va3 p2) (va3 p3) (va3 p4) (va3 p5) b11) [vi (va14 p2 p3)] (T15.setFrames fs) by
      by_cases j13_1 : (va3 p2) = (42 : Int32)
      ·
        refine own_b X10 hx hby tb0 3 [true] 104 _ [vi 1] (ai (teq j13_1).1 rfl) ?_
        exact os_eq (by simp only [va14, if_pos j13_1]) j13
      ·
        refine own_b X10 hx hby tb0 6 [false, false] 70 _ [vi 42, vi (va3 p3)] (ai (feq j13_1).1 (ai (by decide) rfl)) ?_
        by_cases j13_2 : (va3 p3) = (42 : Int32)
        ·
          refine own_b X10 hx hby tb0 3 [true] 104 _ [vi 1] (ai (teq j13_2).1 rfl) ?_
          exact os_eq (by simp only [va14, if_neg j13_1, if_pos j13_2]) j13
        ·
          refine own_b X10 hx hby tb0 8 [false, true, true] 104 _ [vi 0] (ai (feq j13_2).1 (ai (by decide) (ai (by decide) rfl))) ?_
          exact os_eq (by simp only [va14, if_neg j13_1, if_neg j13_2]) j13
    refine own_b X10 hx hby tb0 2 [] 108 (L_iiiiiiiiiiri p1 p2 p3 p4 p5 2 (va3 p2) (va3 p3) (va3 p4) (va3 p5) b11 (va14 p2 p3)) [vr b11] rfl ?_
    refine st15 _ ?_
    refine own_b X15 hx hby tb0 1 [] 113 _ [vi (va14 p2 p3), vi (va19 ((va4 (nar .char (va3 p2))).toInt8.toInt32) ((va5 (nar .char (va3 p2))).toInt8.toInt32))] rfl ?_
    suffices j16 : OS p e below T15 m 121 (L_iiiiiiiiiiri p1 p2 p3 p4 p5 2 (va3 p2) (va3 p3) (va3 p4) (va3 p5) b11 (va14 p2 p3)) [vi (va20 p2 p3)] (T15.setFrames fs) by
      by_cases j16_1 : (va19 ((va4 (nar .char (va3 p2))).toInt8.toInt32) ((va5 (nar .char (va3 p2))).toInt8.toInt32)) = (va14 p2 p3)
      ·
        refine own_b X15 hx hby tb0 3 [false] 121 _ [vi 1] (ai (teq j16_1).2 rfl) ?_
        exact os_eq (by simp only [va20, if_pos j16_1]) j16
      ·
        refine own_b X15 hx hby tb0 2 [true] 121 _ [vi 0] (ai (feq j16_1).2 rfl) ?_
        exact os_eq (by simp only [va20, if_neg j16_1]) j16
    show OS p e below T15 m 121 (L_iiiiiiiiiiri p1 p2 p3 p4 p5 2 (va3 p2) (va3 p3) (va3 p4) (va3 p5) b11 (va14 p2 p3)) [vi (va20 p2 p3)] _
    exact retN X15 hx (t := .boolean) hret (by simp) (hb hby at_121) hr
  · show Q0 h0 n0 _ T15.heap _
    rw [e15q]
    exact ⟨(congrArg (fun z => some (Value.int z)) H9), N15⟩
theorem rm0_5 (hw : OW Z a0) (p1 : Int32) (p2 : Int32) (p3 : Int32) (p4 : Int32) (p5 : Int32) (p90 : Int32) (rv0 : Value) (Z0 : n0 ≤ h0.size) (Sp0 : ab1 Z (.int p90)) (Sp1 : Old Z n0 h0) (Sp2 : ab2 Z (.int (1 : Int32))) (Sp3 : ab3 Z (.int (0 : Int32))) (Sp4 : ab4 Z (.int (8 : Int32))) (Sp5 : ab5 Z rv0) (Sp6 : rv0.isRef = true) (Sp7 : ¬ (p90 = (0 : Int32))) (H1 : ¬ (((p1 &&& (2147483647 : Int32)) % (5 : Int32)) = (0 : Int32))) (H2 : ¬ (((p1 &&& (2147483647 : Int32)) % (5 : Int32)) = (1 : Int32))) (H3 : ((p1 &&& (2147483647 : Int32)) % (5 : Int32)) = (2 : Int32)) (H4 : ¬ (p90 = (0 : Int32))) (H5 : ¬ ((255 : Int32) < (nar .char (va3 p2)))) (H6 : ¬ ((255 : Int32) < (nar .char (va3 p3)))) (H7 : (nar .boolean (va23 p2 p3)) = (1 : Int32)) :
    MC l Z ws h0 n0 p1 p2 p3 p4 p5 := by
  refine MetFree.of_bodySF (plainFor_of_name pn_0) hisR ?_
  intro p e s m args below meth c s₁ Bd hml0 hP hK
  obtain ⟨rfl, hZ, hh, hH⟩ := hP
  have hx := Bd.exec
  have hby := Bd.bytes
  have hml : c.maxLocals = 12 := hml0
  have hown : s.vm.findClass "purlin/config/NamePatternIsPatternPinLaw" = some m.cls := findClass_of_methodNamed Bd.named
  have hnm := (name_of_methodNamed Bd.named Bd.method).1
  have hret := Bd.returns
  have X0 : Stand p l e room_1 s m #[(vi p1), (vi p2), (vi p3), (vi p4), (vi p5)] below meth c s₁ [] 0 0 := Stand.of_body Bd
  have e0 : s₁.heap = h0 := by rw [← hh, Bd.state]; rfl
  have N0 := Fr.nil n0
  have pre0 : ∀ t, Steps p.tables e below (s₁.setTop (mkF m 0 #[si p1, si p2, si p3, si p4, si p5, .unset, .unset, .unset, .unset, .unset, .unset, .unset] [])) t → Steps p.tables e below (s₁.setTop (entryFrame m #[(vi p1), (vi p2), (vi p3), (vi p4), (vi p5)] maxLocals)) t := fun t k => castTop (ef0 m p1 p2 p3 p4 p5) k
  obtain ⟨T6, L6, _, X6, ⟨rfl, N6q, e6q⟩, st6⟩ := own_callS X0 hx hZ hown (cw_0 hw) (rm1_3 hw p2 Z0 ) e0 (Ls := (L_iiiiiiuuuuuu p1 p2 p3 p4 p5 2)) hml [vi p2] [] pd_0 0 (hb hby at_9)
  have N6 := Fr.app N0 N6q
  obtain ⟨T7, L7, _, X7, ⟨rfl, N7q, e7q⟩, st7⟩ := own_callS X6 hx hZ hown (cw_0 hw) (rm1_3 hw p3 Z0 ) e6q (Ls := (L_iiiiiiiuuuuu p1 p2 p3 p4 p5 2 (va3 p2))) hml [vi p3] [] pd_0 0 (hb hby at_15)
  have N7 := Fr.app N6 N7q
  obtain ⟨T8, L8, _, X8, ⟨rfl, N8q, e8q⟩, st8⟩ := own_callS X7 hx hZ hown (cw_0 hw) (rm1_3 hw p4 Z0 ) e7q (Ls := (L_iiiiiiiiuuuu p1 p2 p3 p4 p5 2 (va3 p2) (va3 p3))) hml [vi p4] [] pd_0 0 (hb hby at_21)
  have N8 := Fr.app N7 N8q
  obtain ⟨T9, L9, _, X9, ⟨rfl, N9q, e9q⟩, st9⟩ := own_callS X8 hx hZ hown (cw_0 hw) (rm1_3 hw p5 Z0 ) e8q (Ls := (L_iiiiiiiiiuuu p1 p2 p3 p4 p5 2 (va3 p2) (va3 p3) (va3 p4))) hml [vi p5] [] pd_0 0 (hb hby at_28)
  have N9 := Fr.app N8 N9q
  obtain ⟨T10, L10, _, X10, ⟨b11, b12, kk10_0, rfl, N10q, K10, qa10_0, qb10_0, qa10_1, qb10_1, qc10_0_1, f10_0, f10_1, f10_2, f10_3⟩, st10⟩ := own_callS X9 hx hZ hown (cw_16 hw) (rm2_6 hw (va3 p2) (va3 p3) (va3 p4) (va3 p5) p90 Z0 Sp0 Sp1 H4 H5 H6) e9q (Ls := (L_iiiiiiiiiiuu p1 p2 p3 p4 p5 2 (va3 p2) (va3 p3) (va3 p4) (va3 p5))) hml [vi 2, vi (va3 p2), vi (va3 p3), vi (va3 p4), vi (va3 p5)] [] pd_3 0 (hb hby at_43)
  have N10 := Fr.app N9 N10q
  have qd10_0 := Nat.le_trans (Nat.le_refl h0.size) qb10_0
  have qd10_1 := Nat.le_trans (Nat.le_refl h0.size) qb10_1
  have F14 := (Sp1.keep K10 all0)
  obtain ⟨T15, L15, _, X15, ⟨rfl, N15q, e15q⟩, st15⟩ := own_callS X10 hx hZ hown (cw_5 hw) (rm6_14 hw b11 p90 b12 kk10_0 (((nar .char (va3 p2)).toInt8.toInt32).toInt8.toInt32) (((nar .char (va3 p3)).toInt8.toInt32).toInt8.toInt32) (Nat.le_trans Z0 K10.1) f10_0 Sp0 F14 H4 f10_1 f10_2 f10_3) rfl (Ls := (L_iiiiiiiiiiri p1 p2 p3 p4 p5 2 (va3 p2) (va3 p3) (va3 p4) (va3 p5) b11 (va14 p2 p3))) hml [vr b11] [] pd_11 0 (hb hby at_108)
  have N15 := Fr.app N10 N15q
  obtain ⟨fs, hr, hrun, hended, hW, hsame⟩ := X15.leave (v := some (vi (nar .boolean (va23 p2 p3)))) (fun h => by rw [hret] at h; cases h)
  refine ⟨_, _, pre0 _ ?_, hrun, hended, _, _, rfl, ?_, ⟨_, rfl⟩, hW.wide, hW.no_new_pair _, hsame.mono (by decide) (by decide)⟩
  · refine own_b X0 hx hby tb0 1 [] 1 _ [vi p1] rfl ?_
    refine X0.ldcInt hx hown (mvT hZ (tw_0 hw)) (g := (mkF m 1 (L_iiiiiuuuuuuu p1 p2 p3 p4 p5) [vi p1])) rfl (hb hby at_1) _ ?_
    show OS p e below s₁ m 3 (L_iiiiiuuuuuuu p1 p2 p3 p4 p5) [vi 2147483647, vi p1] _
    refine own_b X0 hx hby tb0 2 [] 5 _ [vi 5, vi (p1 &&& (2147483647 : Int32))] rfl ?_
    refine iremM X0 hx (g := (mkF m 5 (L_iiiiiuuuuuuu p1 p2 p3 p4 p5) [vi 5, vi (p1 &&& (2147483647 : Int32))])) rfl (hb hby at_5) rfl (by decide) ?_
    show OS p e below s₁ m 6 (L_iiiiiuuuuuuu p1 p2 p3 p4 p5) [vi ((p1 &&& (2147483647 : Int32)) % (5 : Int32))] _
    rw [H3]
    show OS p e below s₁ m 6 (L_iiiiiuuuuuuu p1 p2 p3 p4 p5) [vi 2] _
    refine own_b X0 hx hby tb0 2 [] 9 (L_iiiiiiuuuuuu p1 p2 p3 p4 p5 2) [vi p2] rfl ?_
    refine st6 _ ?_
    refine own_b X6 hx hby tb0 2 [] 15 (L_iiiiiiiuuuuu p1 p2 p3 p4 p5 2 (va3 p2)) [vi p3] rfl ?_
    refine st7 _ ?_
    refine own_b X7 hx hby tb0 2 [] 21 (L_iiiiiiiiuuuu p1 p2 p3 p4 p5 2 (va3 p2) (va3 p3)) [vi p4] rfl ?_
    refine st8 _ ?_
    refine own_b X8 hx hby tb0 2 [] 28 (L_iiiiiiiiiuuu p1 p2 p3 p4 p5 2 (va3 p2) (va3 p3) (va3 p4)) [vi p5] rfl ?_
    refine st9 _ ?_
    refine own_b X9 hx hby tb0 6 [] 43 (L_iiiiiiiiiiuu p1 p2 p3 p4 p5 2 (va3 p2) (va3 p3) (va3 p4) (va3 p5)) [vi (va3 p5), vi (va3 p4), vi (va3 p3), vi (va3 p2), vi 2] rfl ?_
    refine st10 _ ?_
    refine own_b X10 hx hby tb0 5 [false] 57 (L_iiiiiiiiiiru p1 p2 p3 p4 p5 2 (va3 p2) (va3 p3) (va3 p4) (va3 p5) b11) [vi 42, vi (va3 p2)] (ai (by decide) rfl) ?_
    suffices j13 : OS p e below T10 m 104 (L_iiiiiiiiiiru p1 p2 p3 p4 p5 2 (va3 p2) (va3 p3) (va3 p4) (va3 p5) b11) [vi (va14 p2 p3)] (T15.setFrames fs) by
      by_cases j13_1 : (va3 p2) = (42 : Int32)
      ·
        refine own_b X10 hx hby tb0 3 [true] 104 _ [vi 1] (ai (teq j13_1).1 rfl) ?_
        exact os_eq (by simp only [va14, if_pos j13_1]) j13
      ·
        refine own_b X10 hx hby tb0 6 [false, false] 70 _ [vi 42, vi (va3 p3)] (ai (feq j13_1).1 (ai (by decide) rfl)) ?_
        by_cases j13_2 : (va3 p3) = (42 : Int32)
        ·
          refine own_b X10 hx hby tb0 3 [true] 104 _ [vi 1] (ai (teq j13_2).1 rfl) ?_
          exact os_eq (by simp only [va14, if_neg j13_1, if_pos j13_2]) j13
        ·
          refine own_b X10 hx hby tb0 8 [false, true, true] 104 _ [vi 0] (ai (feq j13_2).1 (ai (by decide) (ai (by decide) rfl))) ?_
          exact os_eq (by simp only [va14, if_neg j13_1, if_neg j13_2]) j13
    refine own_b X10 hx hby tb0 2 [] 108 (L_iiiiiiiiiiri p1 p2 p3 p4 p5 2 (va3 p2) (va3 p3) (va3 p4) (va3 p5) b11 (va14 p2 p3)) [vr b11] rfl ?_
    refine st15 _ ?_
    refine own_b X15 hx hby tb0 1 [] 113 _ [vi (va14 p2 p3), vi (va22 (((nar .char (va3 p2)).toInt8.toInt32).toInt8.toInt32) (((nar .char (va3 p3)).toInt8.toInt32).toInt8.toInt32))] rfl ?_
    suffices j16 : OS p e below T15 m 121 (L_iiiiiiiiiiri p1 p2 p3 p4 p5 2 (va3 p2) (va3 p3) (va3 p4) (va3 p5) b11 (va14 p2 p3)) [vi (va23 p2 p3)] (T15.setFrames fs) by
      by_cases j16_1 : (va22 (((nar .char (va3 p2)).toInt8.toInt32).toInt8.toInt32) (((nar .char (va3 p3)).toInt8.toInt32).toInt8.toInt32)) = (va14 p2 p3)
      ·
        refine own_b X15 hx hby tb0 3 [false] 121 _ [vi 1] (ai (teq j16_1).2 rfl) ?_
        exact os_eq (by simp only [va23, if_pos j16_1]) j16
      ·
        refine own_b X15 hx hby tb0 2 [true] 121 _ [vi 0] (ai (feq j16_1).2 rfl) ?_
        exact os_eq (by simp only [va23, if_neg j16_1]) j16
    show OS p e below T15 m 121 (L_iiiiiiiiiiri p1 p2 p3 p4 p5 2 (va3 p2) (va3 p3) (va3 p4) (va3 p5) b11 (va14 p2 p3)) [vi (va23 p2 p3)] _
    exact retN X15 hx (t := .boolean) hret (by simp) (hb hby at_121) hr
  · show Q0 h0 n0 _ T15.heap _
    rw [e15q]
    exact ⟨(congrArg (fun z => some (Value.int z)) H7), N15⟩
theorem rm0_6 (hw : OW Z a0) (p1 : Int32) (p2 : Int32) (p3 : Int32) (p4 : Int32) (p5 : Int32) (p90 : Int32) (rv0 : Value) (Z0 : n0 ≤ h0.size) (Sp0 : ab1 Z (.int p90)) (Sp1 : Old Z n0 h0) (Sp2 : ab2 Z (.int (1 : Int32))) (Sp3 : ab3 Z (.int (0 : Int32))) (Sp4 : ab4 Z (.int (8 : Int32))) (Sp5 : ab5 Z rv0) (Sp6 : rv0.isRef = true) (Sp7 : ¬ (p90 = (0 : Int32))) (H1 : ¬ (((p1 &&& (2147483647 : Int32)) % (5 : Int32)) = (0 : Int32))) (H2 : ¬ (((p1 &&& (2147483647 : Int32)) % (5 : Int32)) = (1 : Int32))) (H3 : ¬ (((p1 &&& (2147483647 : Int32)) % (5 : Int32)) = (2 : Int32))) (H4 : ((p1 &&& (2147483647 : Int32)) % (5 : Int32)) = (3 : Int32)) (H5 : ¬ (p90 = (0 : Int32))) (H6 : (255 : Int32) < (nar .char (va3 p2))) (H7 : (255 : Int32) < (nar .char (va8 ((va4 (nar .char (va3 p2))).toInt8.toInt32) ((va5 (nar .char (va3 p2))).toInt8.toInt32)))) (H8 : ¬ ((nar .char (va8 ((va4 (nar .char (va3 p2))).toInt8.toInt32) ((va5 (nar .char (va3 p2))).toInt8.toInt32))) = (42 : Int32))) (H9 : (nar .boolean (va27 p3 p4 p2)) = (1 : Int32)) :
    MC l Z ws h0 n0 p1 p2 p3 p4 p5 := by
  refine MetFree.of_bodySF (plainFor_of_name pn_0) hisR ?_
  intro p e s m args below meth c s₁ Bd hml0 hP hK
  obtain ⟨rfl, hZ, hh, hH⟩ := hP
  have hx := Bd.exec
  have hby := Bd.bytes
  have hml : c.maxLocals = 12 := hml0
  have hown : s.vm.findClass "purlin/config/NamePatternIsPatternPinLaw" = some m.cls := findClass_of_methodNamed Bd.named
  have hnm := (name_of_methodNamed Bd.named Bd.method).1
  have hret := Bd.returns
  have X0 : Stand p l e room_1 s m #[(vi p1), (vi p2), (vi p3), (vi p4), (vi p5)] below meth c s₁ [] 0 0 := Stand.of_body Bd
  have e0 : s₁.heap = h0 := by rw [← hh, Bd.state]; rfl
  have N0 := Fr.nil n0
  have pre0 : ∀ t, Steps p.tables e below (s₁.setTop (mkF m 0 #[si p1, si p2, si p3, si p4, si p5, .unset, .unset, .unset, .unset, .unset, .unset, .unset] [])) t → Steps p.tables e below (s₁.setTop (entryFrame m #[(vi p1), (vi p2), (vi p3), (vi p4), (vi p5)] maxLocals)) t := fun t k => castTop (ef0 m p1 p2 p3 p4 p5) k
  obtain ⟨T6, L6, _, X6, ⟨rfl, N6q, e6q⟩, st6⟩ := own_callS X0 hx hZ hown (cw_0 hw) (rm1_3 hw p2 Z0 ) e0 (Ls := (L_iiiiiiuuuuuu p1 p2 p3 p4 p5 3)) hml [vi p2] [] pd_0 0 (hb hby at_9)
  have N6 := Fr.app N0 N6q
  obtain ⟨T7, L7, _, X7, ⟨rfl, N7q, e7q⟩, st7⟩ := own_callS X6 hx hZ hown (cw_0 hw) (rm1_3 hw p3 Z0 ) e6q (Ls := (L_iiiiiiiuuuuu p1 p2 p3 p4 p5 3 (va3 p2))) hml [vi p3] [] pd_0 0 (hb hby at_15)
  have N7 := Fr.app N6 N7q
  obtain ⟨T8, L8, _, X8, ⟨rfl, N8q, e8q⟩, st8⟩ := own_callS X7 hx hZ hown (cw_0 hw) (rm1_3 hw p4 Z0 ) e7q (Ls := (L_iiiiiiiiuuuu p1 p2 p3 p4 p5 3 (va3 p2) (va3 p3))) hml [vi p4] [] pd_0 0 (hb hby at_21)
  have N8 := Fr.app N7 N8q
  obtain ⟨T9, L9, _, X9, ⟨rfl, N9q, e9q⟩, st9⟩ := own_callS X8 hx hZ hown (cw_0 hw) (rm1_3 hw p5 Z0 ) e8q (Ls := (L_iiiiiiiiiuuu p1 p2 p3 p4 p5 3 (va3 p2) (va3 p3) (va3 p4))) hml [vi p5] [] pd_0 0 (hb hby at_28)
  have N9 := Fr.app N8 N9q
  obtain ⟨T10, L10, _, X10, ⟨b11, b12, kk10_0, rfl, N10q, K10, qa10_0, qb10_0, qa10_1, qb10_1, qc10_0_1, f10_0, f10_1, f10_2, f10_3⟩, st10⟩ := own_callS X9 hx hZ hown (cw_16 hw) (rm2_7 hw (va3 p2) (va3 p3) (va3 p4) (va3 p5) p90 Z0 Sp0 Sp1 H5 H6 Sp2 Sp3 Sp4 H7) e9q (Ls := (L_iiiiiiiiiiuu p1 p2 p3 p4 p5 3 (va3 p2) (va3 p3) (va3 p4) (va3 p5))) hml [vi 3, vi (va3 p2), vi (va3 p3), vi (va3 p4), vi (va3 p5)] [] pd_3 0 (hb hby at_43)
  have N10 := Fr.app N9 N10q
  have qd10_0 := Nat.le_trans (Nat.le_refl h0.size) qb10_0
  have qd10_1 := Nat.le_trans (Nat.le_refl h0.size) qb10_1
  have F14 := (Sp1.keep K10 all0)
  obtain ⟨T15, L15, _, X15, ⟨rfl, N15q, e15q⟩, st15⟩ := own_callS X10 hx hZ hown (cw_5 hw) (rm6_17 hw b11 p90 b12 kk10_0 ((va4 (nar .char (va3 p2))).toInt8.toInt32) ((va5 (nar .char (va3 p2))).toInt8.toInt32) ((va4 (nar .char (va3 p3))).toInt8.toInt32) ((va5 (nar .char (va3 p3))).toInt8.toInt32) ((va4 (nar .char (va3 p4))).toInt8.toInt32) ((va5 (nar .char (va3 p4))).toInt8.toInt32) rv0 (Nat.le_trans Z0 K10.1) f10_0 Sp0 F14 H5 f10_1 f10_2 f10_3 Sp5 Sp6 Sp2 Sp3 Sp4 H8) rfl (Ls := (L_iiiiiiiiiiri p1 p2 p3 p4 p5 3 (va3 p2) (va3 p3) (va3 p4) (va3 p5) b11 (va24 p2 p3 p4))) hml [vr b11] [] pd_11 0 (hb hby at_108)
  have N15 := Fr.app N10 N15q
  obtain ⟨fs, hr, hrun, hended, hW, hsame⟩ := X15.leave (v := some (vi (nar .boolean (va27 p3 p4 p2)))) (fun h => by rw [hret] at h; cases h)
  refine ⟨_, _, pre0 _ ?_, hrun, hended, _, _, rfl, ?_, ⟨_, rfl⟩, hW.wide, hW.no_new_pair _, hsame.mono (by decide) (by decide)⟩
  · refine own_b X0 hx hby tb0 1 [] 1 _ [vi p1] rfl ?_
    refine X0.ldcInt hx hown (mvT hZ (tw_0 hw)) (g := (mkF m 1 (L_iiiiiuuuuuuu p1 p2 p3 p4 p5) [vi p1])) rfl (hb hby at_1) _ ?_
    show OS p e below s₁ m 3 (L_iiiiiuuuuuuu p1 p2 p3 p4 p5) [vi 2147483647, vi p1] _
    refine own_b X0 hx hby tb0 2 [] 5 _ [vi 5, vi (p1 &&& (2147483647 : Int32))] rfl ?_
    refine iremM X0 hx (g := (mkF m 5 (L_iiiiiuuuuuuu p1 p2 p3 p4 p5) [vi 5, vi (p1 &&& (2147483647 : Int32))])) rfl (hb hby at_5) rfl (by decide) ?_
    show OS p e below s₁ m 6 (L_iiiiiuuuuuuu p1 p2 p3 p4 p5) [vi ((p1 &&& (2147483647 : Int32)) % (5 : Int32))] _
    rw [H4]
    show OS p e below s₁ m 6 (L_iiiiiuuuuuuu p1 p2 p3 p4 p5) [vi 3] _
    refine own_b X0 hx hby tb0 2 [] 9 (L_iiiiiiuuuuuu p1 p2 p3 p4 p5 3) [vi p2] rfl ?_
    refine st6 _ ?_
    refine own_b X6 hx hby tb0 2 [] 15 (L_iiiiiiiuuuuu p1 p2 p3 p4 p5 3 (va3 p2)) [vi p3] rfl ?_
    refine st7 _ ?_
    refine own_b X7 hx hby tb0 2 [] 21 (L_iiiiiiiiuuuu p1 p2 p3 p4 p5 3 (va3 p2) (va3 p3)) [vi p4] rfl ?_
    refine st8 _ ?_
    refine own_b X8 hx hby tb0 2 [] 28 (L_iiiiiiiiiuuu p1 p2 p3 p4 p5 3 (va3 p2) (va3 p3) (va3 p4)) [vi p5] rfl ?_
    refine st9 _ ?_
    refine own_b X9 hx hby tb0 6 [] 43 (L_iiiiiiiiiiuu p1 p2 p3 p4 p5 3 (va3 p2) (va3 p3) (va3 p4) (va3 p5)) [vi (va3 p5), vi (va3 p4), vi (va3 p3), vi (va3 p2), vi 3] rfl ?_
    refine st10 _ ?_
    refine own_b X10 hx hby tb0 5 [false] 57 (L_iiiiiiiiiiru p1 p2 p3 p4 p5 3 (va3 p2) (va3 p3) (va3 p4) (va3 p5) b11) [vi 42, vi (va3 p2)] (ai (by decide) rfl) ?_
    suffices j13 : OS p e below T10 m 104 (L_iiiiiiiiiiru p1 p2 p3 p4 p5 3 (va3 p2) (va3 p3) (va3 p4) (va3 p5) b11) [vi (va24 p2 p3 p4)] (T15.setFrames fs) by
      by_cases j13_1 : (va3 p2) = (42 : Int32)
      ·
        refine own_b X10 hx hby tb0 3 [true] 104 _ [vi 1] (ai (teq j13_1).1 rfl) ?_
        exact os_eq (by simp only [va24, if_pos j13_1]) j13
      ·
        refine own_b X10 hx hby tb0 6 [false, false] 70 _ [vi 42, vi (va3 p3)] (ai (feq j13_1).1 (ai (by decide) rfl)) ?_
        by_cases j13_2 : (va3 p3) = (42 : Int32)
        ·
          refine own_b X10 hx hby tb0 3 [true] 104 _ [vi 1] (ai (teq j13_2).1 rfl) ?_
          exact os_eq (by simp only [va24, if_neg j13_1, if_pos j13_2]) j13
        ·
          refine own_b X10 hx hby tb0 6 [false, false] 83 _ [vi 42, vi (va3 p4)] (ai (feq j13_2).1 (ai (by decide) rfl)) ?_
          by_cases j13_3 : (va3 p4) = (42 : Int32)
          ·
            refine own_b X10 hx hby tb0 3 [true] 104 _ [vi 1] (ai (teq j13_3).1 rfl) ?_
            exact os_eq (by simp only [va24, if_neg j13_1, if_neg j13_2, if_pos j13_3]) j13
          ·
            refine own_b X10 hx hby tb0 5 [false, true] 104 _ [vi 0] (ai (feq j13_3).1 (ai (by decide) rfl)) ?_
            exact os_eq (by simp only [va24, if_neg j13_1, if_neg j13_2, if_neg j13_3]) j13
    refine own_b X10 hx hby tb0 2 [] 108 (L_iiiiiiiiiiri p1 p2 p3 p4 p5 3 (va3 p2) (va3 p3) (va3 p4) (va3 p5) b11 (va24 p2 p3 p4)) [vr b11] rfl ?_
    refine st15 _ ?_
    refine own_b X15 hx hby tb0 1 [] 113 _ [vi (va24 p2 p3 p4), vi (va26 ((va4 (nar .char (va3 p3))).toInt8.toInt32) ((va5 (nar .char (va3 p3))).toInt8.toInt32) ((va4 (nar .char (va3 p4))).toInt8.toInt32) ((va5 (nar .char (va3 p4))).toInt8.toInt32))] rfl ?_
    suffices j16 : OS p e below T15 m 121 (L_iiiiiiiiiiri p1 p2 p3 p4 p5 3 (va3 p2) (va3 p3) (va3 p4) (va3 p5) b11 (va24 p2 p3 p4)) [vi (va27 p3 p4 p2)] (T15.setFrames fs) by
      by_cases j16_1 : (va26 ((va4 (nar .char (va3 p3))).toInt8.toInt32) ((va5 (nar .char (va3 p3))).toInt8.toInt32) ((va4 (nar .char (va3 p4))).toInt8.toInt32) ((va5 (nar .char (va3 p4))).toInt8.toInt32)) = (va24 p2 p3 p4)
      ·
        refine own_b X15 hx hby tb0 3 [false] 121 _ [vi 1] (ai (teq j16_1).2 rfl) ?_
        exact os_eq (by simp only [va27, if_pos j16_1]) j16
      ·
        refine own_b X15 hx hby tb0 2 [true] 121 _ [vi 0] (ai (feq j16_1).2 rfl) ?_
        exact os_eq (by simp only [va27, if_neg j16_1]) j16
    show OS p e below T15 m 121 (L_iiiiiiiiiiri p1 p2 p3 p4 p5 3 (va3 p2) (va3 p3) (va3 p4) (va3 p5) b11 (va24 p2 p3 p4)) [vi (va27 p3 p4 p2)] _
    exact retN X15 hx (t := .boolean) hret (by simp) (hb hby at_121) hr
  · show Q0 h0 n0 _ T15.heap _
    rw [e15q]
    exact ⟨(congrArg (fun z => some (Value.int z)) H9), N15⟩
theorem rm0_7 (hw : OW Z a0) (p1 : Int32) (p2 : Int32) (p3 : Int32) (p4 : Int32) (p5 : Int32) (p90 : Int32) (rv0 : Value) (Z0 : n0 ≤ h0.size) (Sp0 : ab1 Z (.int p90)) (Sp1 : Old Z n0 h0) (Sp2 : ab2 Z (.int (1 : Int32))) (Sp3 : ab3 Z (.int (0 : Int32))) (Sp4 : ab4 Z (.int (8 : Int32))) (Sp5 : ab5 Z rv0) (Sp6 : rv0.isRef = true) (Sp7 : ¬ (p90 = (0 : Int32))) (H1 : ¬ (((p1 &&& (2147483647 : Int32)) % (5 : Int32)) = (0 : Int32))) (H2 : ¬ (((p1 &&& (2147483647 : Int32)) % (5 : Int32)) = (1 : Int32))) (H3 : ¬ (((p1 &&& (2147483647 : Int32)) % (5 : Int32)) = (2 : Int32))) (H4 : ((p1 &&& (2147483647 : Int32)) % (5 : Int32)) = (3 : Int32)) (H5 : ¬ (p90 = (0 : Int32))) (H6 : ¬ ((255 : Int32) < (nar .char (va3 p2)))) (H7 : (255 : Int32) < (nar .char (va3 p3))) (H8 : (255 : Int32) < (nar .char (va8 ((va4 (nar .char (va3 p3))).toInt8.toInt32) ((va5 (nar .char (va3 p3))).toInt8.toInt32)))) (H9 : ¬ ((nar .char (va8 ((va4 (nar .char (va3 p3))).toInt8.toInt32) ((va5 (nar .char (va3 p3))).toInt8.toInt32))) = (42 : Int32))) (H10 : (nar .boolean (va30 p2 p4 p3)) = (1 : Int32)) :
    MC l Z ws h0 n0 p1 p2 p3 p4 p5 := by
  refine MetFree.of_bodySF (plainFor_of_name pn_0) hisR ?_
  intro p e s m args below meth c s₁ Bd hml0 hP hK
  obtain ⟨rfl, hZ, hh, hH⟩ := hP
  have hx := Bd.exec
  have hby := Bd.bytes
  have hml : c.maxLocals = 12 := hml0
  have hown : s.vm.findClass "purlin/config/NamePatternIsPatternPinLaw" = some m.cls := findClass_of_methodNamed Bd.named
  have hnm := (name_of_methodNamed Bd.named Bd.method).1
  have hret := Bd.returns
  have X0 : Stand p l e room_1 s m #[(vi p1), (vi p2), (vi p3), (vi p4), (vi p5)] below meth c s₁ [] 0 0 := Stand.of_body Bd
  have e0 : s₁.heap = h0 := by rw [← hh, Bd.state]; rfl
  have N0 := Fr.nil n0
  have pre0 : ∀ t, Steps p.tables e below (s₁.setTop (mkF m 0 #[si p1, si p2, si p3, si p4, si p5, .unset, .unset, .unset, .unset, .unset, .unset, .unset] [])) t → Steps p.tables e below (s₁.setTop (entryFrame m #[(vi p1), (vi p2), (vi p3), (vi p4), (vi p5)] maxLocals)) t := fun t k => castTop (ef0 m p1 p2 p3 p4 p5) k
  obtain ⟨T6, L6, _, X6, ⟨rfl, N6q, e6q⟩, st6⟩ := own_callS X0 hx hZ hown (cw_0 hw) (rm1_3 hw p2 Z0 ) e0 (Ls := (L_iiiiiiuuuuuu p1 p2 p3 p4 p5 3)) hml [vi p2] [] pd_0 0 (hb hby at_9)
  have N6 := Fr.app N0 N6q
  obtain ⟨T7, L7, _, X7, ⟨rfl, N7q, e7q⟩, st7⟩ := own_callS X6 hx hZ hown (cw_0 hw) (rm1_3 hw p3 Z0 ) e6q (Ls := (L_iiiiiiiuuuuu p1 p2 p3 p4 p5 3 (va3 p2))) hml [vi p3] [] pd_0 0 (hb hby at_15)
  have N7 := Fr.app N6 N7q
  obtain ⟨T8, L8, _, X8, ⟨rfl, N8q, e8q⟩, st8⟩ := own_callS X7 hx hZ hown (cw_0 hw) (rm1_3 hw p4 Z0 ) e7q (Ls := (L_iiiiiiiiuuuu p1 p2 p3 p4 p5 3 (va3 p2) (va3 p3))) hml [vi p4] [] pd_0 0 (hb hby at_21)
  have N8 := Fr.app N7 N8q
  obtain ⟨T9, L9, _, X9, ⟨rfl, N9q, e9q⟩, st9⟩ := own_callS X8 hx hZ hown (cw_0 hw) (rm1_3 hw p5 Z0 ) e8q (Ls := (L_iiiiiiiiiuuu p1 p2 p3 p4 p5 3 (va3 p2) (va3 p3) (va3 p4))) hml [vi p5] [] pd_0 0 (hb hby at_28)
  have N9 := Fr.app N8 N9q
  obtain ⟨T10, L10, _, X10, ⟨b11, b12, kk10_0, rfl, N10q, K10, qa10_0, qb10_0, qa10_1, qb10_1, qc10_0_1, f10_0, f10_1, f10_2, f10_3⟩, st10⟩ := own_callS X9 hx hZ hown (cw_16 hw) (rm2_8 hw (va3 p2) (va3 p3) (va3 p4) (va3 p5) p90 Z0 Sp0 Sp1 H5 H6 H7 Sp2 Sp3 Sp4 H8) e9q (Ls := (L_iiiiiiiiiiuu p1 p2 p3 p4 p5 3 (va3 p2) (va3 p3) (va3 p4) (va3 p5))) hml [vi 3, vi (va3 p2), vi (va3 p3), vi (va3 p4), vi (va3 p5)] [] pd_3 0 (hb hby at_43)
  have N10 := Fr.app N9 N10q
  have qd10_0 := Nat.le_trans (Nat.le_refl h0.size) qb10_0
  have qd10_1 := Nat.le_trans (Nat.le_refl h0.size) qb10_1
  have F14 := (Sp1.keep K10 all0)
  obtain ⟨T15, L15, _, X15, ⟨rfl, N15q, e15q⟩, st15⟩ := own_callS X10 hx hZ hown (cw_5 hw) (rm6_20 hw b11 p90 b12 kk10_0 ((va4 (nar .char (va3 p2))).toInt8.toInt32) ((va5 (nar .char (va3 p2))).toInt8.toInt32) ((va4 (nar .char (va3 p3))).toInt8.toInt32) ((va5 (nar .char (va3 p3))).toInt8.toInt32) ((va4 (nar .char (va3 p4))).toInt8.toInt32) ((va5 (nar .char (va3 p4))).toInt8.toInt32) rv0 (Nat.le_trans Z0 K10.1) f10_0 Sp0 F14 H5 f10_1 f10_2 f10_3 Sp5 Sp6 Sp2 Sp3 Sp4 H9) rfl (Ls := (L_iiiiiiiiiiri p1 p2 p3 p4 p5 3 (va3 p2) (va3 p3) (va3 p4) (va3 p5) b11 (va24 p2 p3 p4))) hml [vr b11] [] pd_11 0 (hb hby at_108)
  have N15 := Fr.app N10 N15q
  obtain ⟨fs, hr, hrun, hended, hW, hsame⟩ := X15.leave (v := some (vi (nar .boolean (va30 p2 p4 p3)))) (fun h => by rw [hret] at h; cases h)
  refine ⟨_, _, pre0 _ ?_, hrun, hended, _, _, rfl, ?_, ⟨_, rfl⟩, hW.wide, hW.no_new_pair _, hsame.mono (by decide) (by decide)⟩
  · refine own_b X0 hx hby tb0 1 [] 1 _ [vi p1] rfl ?_
    refine X0.ldcInt hx hown (mvT hZ (tw_0 hw)) (g := (mkF m 1 (L_iiiiiuuuuuuu p1 p2 p3 p4 p5) [vi p1])) rfl (hb hby at_1) _ ?_
    show OS p e below s₁ m 3 (L_iiiiiuuuuuuu p1 p2 p3 p4 p5) [vi 2147483647, vi p1] _
    refine own_b X0 hx hby tb0 2 [] 5 _ [vi 5, vi (p1 &&& (2147483647 : Int32))] rfl ?_
    refine iremM X0 hx (g := (mkF m 5 (L_iiiiiuuuuuuu p1 p2 p3 p4 p5) [vi 5, vi (p1 &&& (2147483647 : Int32))])) rfl (hb hby at_5) rfl (by decide) ?_
    show OS p e below s₁ m 6 (L_iiiiiuuuuuuu p1 p2 p3 p4 p5) [vi ((p1 &&& (2147483647 : Int32)) % (5 : Int32))] _
    rw [H4]
    show OS p e below s₁ m 6 (L_iiiiiuuuuuuu p1 p2 p3 p4 p5) [vi 3] _
    refine own_b X0 hx hby tb0 2 [] 9 (L_iiiiiiuuuuuu p1 p2 p3 p4 p5 3) [vi p2] rfl ?_
    refine st6 _ ?_
    refine own_b X6 hx hby tb0 2 [] 15 (L_iiiiiiiuuuuu p1 p2 p3 p4 p5 3 (va3 p2)) [vi p3] rfl ?_
    refine st7 _ ?_
    refine own_b X7 hx hby tb0 2 [] 21 (L_iiiiiiiiuuuu p1 p2 p3 p4 p5 3 (va3 p2) (va3 p3)) [vi p4] rfl ?_
    refine st8 _ ?_
    refine own_b X8 hx hby tb0 2 [] 28 (L_iiiiiiiiiuuu p1 p2 p3 p4 p5 3 (va3 p2) (va3 p3) (va3 p4)) [vi p5] rfl ?_
    refine st9 _ ?_
    refine own_b X9 hx hby tb0 6 [] 43 (L_iiiiiiiiiiuu p1 p2 p3 p4 p5 3 (va3 p2) (va3 p3) (va3 p4) (va3 p5)) [vi (va3 p5), vi (va3 p4), vi (va3 p3), vi (va3 p2), vi 3] rfl ?_
    refine st10 _ ?_
    refine own_b X10 hx hby tb0 5 [false] 57 (L_iiiiiiiiiiru p1 p2 p3 p4 p5 3 (va3 p2) (va3 p3) (va3 p4) (va3 p5) b11) [vi 42, vi (va3 p2)] (ai (by decide) rfl) ?_
    suffices j13 : OS p e below T10 m 104 (L_iiiiiiiiiiru p1 p2 p3 p4 p5 3 (va3 p2) (va3 p3) (va3 p4) (va3 p5) b11) [vi (va24 p2 p3 p4)] (T15.setFrames fs) by
      by_cases j13_1 : (va3 p2) = (42 : Int32)
      ·
        refine own_b X10 hx hby tb0 3 [true] 104 _ [vi 1] (ai (teq j13_1).1 rfl) ?_
        exact os_eq (by simp only [va24, if_pos j13_1]) j13
      ·
        refine own_b X10 hx hby tb0 6 [false, false] 70 _ [vi 42, vi (va3 p3)] (ai (feq j13_1).1 (ai (by decide) rfl)) ?_
        by_cases j13_2 : (va3 p3) = (42 : Int32)
        ·
          refine own_b X10 hx hby tb0 3 [true] 104 _ [vi 1] (ai (teq j13_2).1 rfl) ?_
          exact os_eq (by simp only [va24, if_neg j13_1, if_pos j13_2]) j13
        ·
          refine own_b X10 hx hby tb0 6 [false, false] 83 _ [vi 42, vi (va3 p4)] (ai (feq j13_2).1 (ai (by decide) rfl)) ?_
          by_cases j13_3 : (va3 p4) = (42 : Int32)
          ·
            refine own_b X10 hx hby tb0 3 [true] 104 _ [vi 1] (ai (teq j13_3).1 rfl) ?_
            exact os_eq (by simp only [va24, if_neg j13_1, if_neg j13_2, if_pos j13_3]) j13
          ·
            refine own_b X10 hx hby tb0 5 [false, true] 104 _ [vi 0] (ai (feq j13_3).1 (ai (by decide) rfl)) ?_
            exact os_eq (by simp only [va24, if_neg j13_1, if_neg j13_2, if_neg j13_3]) j13
    refine own_b X10 hx hby tb0 2 [] 108 (L_iiiiiiiiiiri p1 p2 p3 p4 p5 3 (va3 p2) (va3 p3) (va3 p4) (va3 p5) b11 (va24 p2 p3 p4)) [vr b11] rfl ?_
    refine st15 _ ?_
    refine own_b X15 hx hby tb0 1 [] 113 _ [vi (va24 p2 p3 p4), vi (va29 ((va4 (nar .char (va3 p2))).toInt8.toInt32) ((va5 (nar .char (va3 p2))).toInt8.toInt32) ((va4 (nar .char (va3 p4))).toInt8.toInt32) ((va5 (nar .char (va3 p4))).toInt8.toInt32))] rfl ?_
    suffices j16 : OS p e below T15 m 121 (L_iiiiiiiiiiri p1 p2 p3 p4 p5 3 (va3 p2) (va3 p3) (va3 p4) (va3 p5) b11 (va24 p2 p3 p4)) [vi (va30 p2 p4 p3)] (T15.setFrames fs) by
      by_cases j16_1 : (va29 ((va4 (nar .char (va3 p2))).toInt8.toInt32) ((va5 (nar .char (va3 p2))).toInt8.toInt32) ((va4 (nar .char (va3 p4))).toInt8.toInt32) ((va5 (nar .char (va3 p4))).toInt8.toInt32)) = (va24 p2 p3 p4)
      ·
        refine own_b X15 hx hby tb0 3 [false] 121 _ [vi 1] (ai (teq j16_1).2 rfl) ?_
        exact os_eq (by simp only [va30, if_pos j16_1]) j16
      ·
        refine own_b X15 hx hby tb0 2 [true] 121 _ [vi 0] (ai (feq j16_1).2 rfl) ?_
        exact os_eq (by simp only [va30, if_neg j16_1]) j16
    show OS p e below T15 m 121 (L_iiiiiiiiiiri p1 p2 p3 p4 p5 3 (va3 p2) (va3 p3) (va3 p4) (va3 p5) b11 (va24 p2 p3 p4)) [vi (va30 p2 p4 p3)] _
    exact retN X15 hx (t := .boolean) hret (by simp) (hb hby at_121) hr
  · show Q0 h0 n0 _ T15.heap _
    rw [e15q]
    exact ⟨(congrArg (fun z => some (Value.int z)) H10), N15⟩
theorem rm0_8 (hw : OW Z a0) (p1 : Int32) (p2 : Int32) (p3 : Int32) (p4 : Int32) (p5 : Int32) (p90 : Int32) (rv0 : Value) (Z0 : n0 ≤ h0.size) (Sp0 : ab1 Z (.int p90)) (Sp1 : Old Z n0 h0) (Sp2 : ab2 Z (.int (1 : Int32))) (Sp3 : ab3 Z (.int (0 : Int32))) (Sp4 : ab4 Z (.int (8 : Int32))) (Sp5 : ab5 Z rv0) (Sp6 : rv0.isRef = true) (Sp7 : ¬ (p90 = (0 : Int32))) (H1 : ¬ (((p1 &&& (2147483647 : Int32)) % (5 : Int32)) = (0 : Int32))) (H2 : ¬ (((p1 &&& (2147483647 : Int32)) % (5 : Int32)) = (1 : Int32))) (H3 : ¬ (((p1 &&& (2147483647 : Int32)) % (5 : Int32)) = (2 : Int32))) (H4 : ((p1 &&& (2147483647 : Int32)) % (5 : Int32)) = (3 : Int32)) (H5 : ¬ (p90 = (0 : Int32))) (H6 : ¬ ((255 : Int32) < (nar .char (va3 p2)))) (H7 : ¬ ((255 : Int32) < (nar .char (va3 p3)))) (H8 : (255 : Int32) < (nar .char (va3 p4))) (H9 : (255 : Int32) < (nar .char (va8 ((va4 (nar .char (va3 p4))).toInt8.toInt32) ((va5 (nar .char (va3 p4))).toInt8.toInt32)))) (H10 : ¬ ((nar .char (va8 ((va4 (nar .char (va3 p4))).toInt8.toInt32) ((va5 (nar .char (va3 p4))).toInt8.toInt32))) = (42 : Int32))) (H11 : (nar .boolean (va33 p2 p3 p4)) = (1 : Int32)) :
    MC l Z ws h0 n0 p1 p2 p3 p4 p5 := by
  refine MetFree.of_bodySF (plainFor_of_name pn_0) hisR ?_
  intro p e s m args below meth c s₁ Bd hml0 hP hK
  obtain ⟨rfl, hZ, hh, hH⟩ := hP
  have hx := Bd.exec
  have hby := Bd.bytes
  have hml : c.maxLocals = 12 := hml0
  have hown : s.vm.findClass "purlin/config/NamePatternIsPatternPinLaw" = some m.cls := findClass_of_methodNamed Bd.named
  have hnm := (name_of_methodNamed Bd.named Bd.method).1
  have hret := Bd.returns
  have X0 : Stand p l e room_1 s m #[(vi p1), (vi p2), (vi p3), (vi p4), (vi p5)] below meth c s₁ [] 0 0 := Stand.of_body Bd
  have e0 : s₁.heap = h0 := by rw [← hh, Bd.state]; rfl
  have N0 := Fr.nil n0
  have pre0 : ∀ t, Steps p.tables e below (s₁.setTop (mkF m 0 #[si p1, si p2, si p3, si p4, si p5, .unset, .unset, .unset, .unset, .unset, .unset, .unset] [])) t → Steps p.tables e below (s₁.setTop (entryFrame m #[(vi p1), (vi p2), (vi p3), (vi p4), (vi p5)] maxLocals)) t := fun t k => castTop (ef0 m p1 p2 p3 p4 p5) k
  obtain ⟨T6, L6, _, X6, ⟨rfl, N6q, e6q⟩, st6⟩ := own_callS X0 hx hZ hown (cw_0 hw) (rm1_3 hw p2 Z0 ) e0 (Ls := (L_iiiiiiuuuuuu p1 p2 p3 p4 p5 3)) hml [vi p2] [] pd_0 0 (hb hby at_9)
  have N6 := Fr.app N0 N6q
  obtain ⟨T7, L7, _, X7, ⟨rfl, N7q, e7q⟩, st7⟩ := own_callS X6 hx hZ hown (cw_0 hw) (rm1_3 hw p3 Z0 ) e6q (Ls := (L_iiiiiiiuuuuu p1 p2 p3 p4 p5 3 (va3 p2))) hml [vi p3] [] pd_0 0 (hb hby at_15)
  have N7 := Fr.app N6 N7q
  obtain ⟨T8, L8, _, X8, ⟨rfl, N8q, e8q⟩, st8⟩ := own_callS X7 hx hZ hown (cw_0 hw) (rm1_3 hw p4 Z0 ) e7q (Ls := (L_iiiiiiiiuuuu p1 p2 p3 p4 p5 3 (va3 p2) (va3 p3))) hml [vi p4] [] pd_0 0 (hb hby at_21)
  have N8 := Fr.app N7 N8q
  obtain ⟨T9, L9, _, X9, ⟨rfl, N9q, e9q⟩, st9⟩ := own_callS X8 hx hZ hown (cw_0 hw) (rm1_3 hw p5 Z0 ) e8q (Ls := (L_iiiiiiiiiuuu p1 p2 p3 p4 p5 3 (va3 p2) (va3 p3) (va3 p4))) hml [vi p5] [] pd_0 0 (hb hby at_28)
  have N9 := Fr.app N8 N9q
  obtain ⟨T10, L10, _, X10, ⟨b11, b12, kk10_0, rfl, N10q, K10, qa10_0, qb10_0, qa10_1, qb10_1, qc10_0_1, f10_0, f10_1, f10_2, f10_3⟩, st10⟩ := own_callS X9 hx hZ hown (cw_16 hw) (rm2_9 hw (va3 p2) (va3 p3) (va3 p4) (va3 p5) p90 Z0 Sp0 Sp1 H5 H6 H7 H8 Sp2 Sp3 Sp4 H9) e9q (Ls := (L_iiiiiiiiiiuu p1 p2 p3 p4 p5 3 (va3 p2) (va3 p3) (va3 p4) (va3 p5))) hml [vi 3, vi (va3 p2), vi (va3 p3), vi (va3 p4), vi (va3 p5)] [] pd_3 0 (hb hby at_43)
  have N10 := Fr.app N9 N10q
  have qd10_0 := Nat.le_trans (Nat.le_refl h0.size) qb10_0
  have qd10_1 := Nat.le_trans (Nat.le_refl h0.size) qb10_1
  have F14 := (Sp1.keep K10 all0)
  obtain ⟨T15, L15, _, X15, ⟨rfl, N15q, e15q⟩, st15⟩ := own_callS X10 hx hZ hown (cw_5 hw) (rm6_23 hw b11 p90 b12 kk10_0 ((va4 (nar .char (va3 p2))).toInt8.toInt32) ((va5 (nar .char (va3 p2))).toInt8.toInt32) ((va4 (nar .char (va3 p3))).toInt8.toInt32) ((va5 (nar .char (va3 p3))).toInt8.toInt32) ((va4 (nar .char (va3 p4))).toInt8.toInt32) ((va5 (nar .char (va3 p4))).toInt8.toInt32) rv0 (Nat.le_trans Z0 K10.1) f10_0 Sp0 F14 H5 f10_1 f10_2 f10_3 Sp5 Sp6 Sp2 Sp3 Sp4 H10) rfl (Ls := (L_iiiiiiiiiiri p1 p2 p3 p4 p5 3 (va3 p2) (va3 p3) (va3 p4) (va3 p5) b11 (va24 p2 p3 p4))) hml [vr b11] [] pd_11 0 (hb hby at_108)
  have N15 := Fr.app N10 N15q
  obtain ⟨fs, hr, hrun, hended, hW, hsame⟩ := X15.leave (v := some (vi (nar .boolean (va33 p2 p3 p4)))) (fun h => by rw [hret] at h; cases h)
  refine ⟨_, _, pre0 _ ?_, hrun, hended, _, _, rfl, ?_, ⟨_, rfl⟩, hW.wide, hW.no_new_pair _, hsame.mono (by decide) (by decide)⟩
  · refine own_b X0 hx hby tb0 1 [] 1 _ [vi p1] rfl ?_
    refine X0.ldcInt hx hown (mvT hZ (tw_0 hw)) (g := (mkF m 1 (L_iiiiiuuuuuuu p1 p2 p3 p4 p5) [vi p1])) rfl (hb hby at_1) _ ?_
    show OS p e below s₁ m 3 (L_iiiiiuuuuuuu p1 p2 p3 p4 p5) [vi 2147483647, vi p1] _
    refine own_b X0 hx hby tb0 2 [] 5 _ [vi 5, vi (p1 &&& (2147483647 : Int32))] rfl ?_
    refine iremM X0 hx (g := (mkF m 5 (L_iiiiiuuuuuuu p1 p2 p3 p4 p5) [vi 5, vi (p1 &&& (2147483647 : Int32))])) rfl (hb hby at_5) rfl (by decide) ?_
    show OS p e below s₁ m 6 (L_iiiiiuuuuuuu p1 p2 p3 p4 p5) [vi ((p1 &&& (2147483647 : Int32)) % (5 : Int32))] _
    rw [H4]
    show OS p e below s₁ m 6 (L_iiiiiuuuuuuu p1 p2 p3 p4 p5) [vi 3] _
    refine own_b X0 hx hby tb0 2 [] 9 (L_iiiiiiuuuuuu p1 p2 p3 p4 p5 3) [vi p2] rfl ?_
    refine st6 _ ?_
    refine own_b X6 hx hby tb0 2 [] 15 (L_iiiiiiiuuuuu p1 p2 p3 p4 p5 3 (va3 p2)) [vi p3] rfl ?_
    refine st7 _ ?_
    refine own_b X7 hx hby tb0 2 [] 21 (L_iiiiiiiiuuuu p1 p2 p3 p4 p5 3 (va3 p2) (va3 p3)) [vi p4] rfl ?_
    refine st8 _ ?_
    refine own_b X8 hx hby tb0 2 [] 28 (L_iiiiiiiiiuuu p1 p2 p3 p4 p5 3 (va3 p2) (va3 p3) (va3 p4)) [vi p5] rfl ?_
    refine st9 _ ?_
    refine own_b X9 hx hby tb0 6 [] 43 (L_iiiiiiiiiiuu p1 p2 p3 p4 p5 3 (va3 p2) (va3 p3) (va3 p4) (va3 p5)) [vi (va3 p5), vi (va3 p4), vi (va3 p3), vi (va3 p2), vi 3] rfl ?_
    refine st10 _ ?_
    refine own_b X10 hx hby tb0 5 [false] 57 (L_iiiiiiiiiiru p1 p2 p3 p4 p5 3 (va3 p2) (va3 p3) (va3 p4) (va3 p5) b11) [vi 42, vi (va3 p2)] (ai (by decide) rfl) ?_
    suffices j13 : OS p e below T10 m 104 (L_iiiiiiiiiiru p1 p2 p3 p4 p5 3 (va3 p2) (va3 p3) (va3 p4) (va3 p5) b11) [vi (va24 p2 p3 p4)] (T15.setFrames fs) by
      by_cases j13_1 : (va3 p2) = (42 : Int32)
      ·
        refine own_b X10 hx hby tb0 3 [true] 104 _ [vi 1] (ai (teq j13_1).1 rfl) ?_
        exact os_eq (by simp only [va24, if_pos j13_1]) j13
      ·
        refine own_b X10 hx hby tb0 6 [false, false] 70 _ [vi 42, vi (va3 p3)] (ai (feq j13_1).1 (ai (by decide) rfl)) ?_
        by_cases j13_2 : (va3 p3) = (42 : Int32)
        ·
          refine own_b X10 hx hby tb0 3 [true] 104 _ [vi 1] (ai (teq j13_2).1 rfl) ?_
          exact os_eq (by simp only [va24, if_neg j13_1, if_pos j13_2]) j13
        ·
          refine own_b X10 hx hby tb0 6 [false, false] 83 _ [vi 42, vi (va3 p4)] (ai (feq j13_2).1 (ai (by decide) rfl)) ?_
          by_cases j13_3 : (va3 p4) = (42 : Int32)
          ·
            refine own_b X10 hx hby tb0 3 [true] 104 _ [vi 1] (ai (teq j13_3).1 rfl) ?_
            exact os_eq (by simp only [va24, if_neg j13_1, if_neg j13_2, if_pos j13_3]) j13
          ·
            refine own_b X10 hx hby tb0 5 [false, true] 104 _ [vi 0] (ai (feq j13_3).1 (ai (by decide) rfl)) ?_
            exact os_eq (by simp only [va24, if_neg j13_1, if_neg j13_2, if_neg j13_3]) j13
    refine own_b X10 hx hby tb0 2 [] 108 (L_iiiiiiiiiiri p1 p2 p3 p4 p5 3 (va3 p2) (va3 p3) (va3 p4) (va3 p5) b11 (va24 p2 p3 p4)) [vr b11] rfl ?_
    refine st15 _ ?_
    refine own_b X15 hx hby tb0 1 [] 113 _ [vi (va24 p2 p3 p4), vi (va32 ((va4 (nar .char (va3 p2))).toInt8.toInt32) ((va5 (nar .char (va3 p2))).toInt8.toInt32) ((va4 (nar .char (va3 p3))).toInt8.toInt32) ((va5 (nar .char (va3 p3))).toInt8.toInt32))] rfl ?_
    suffices j16 : OS p e below T15 m 121 (L_iiiiiiiiiiri p1 p2 p3 p4 p5 3 (va3 p2) (va3 p3) (va3 p4) (va3 p5) b11 (va24 p2 p3 p4)) [vi (va33 p2 p3 p4)] (T15.setFrames fs) by
      by_cases j16_1 : (va32 ((va4 (nar .char (va3 p2))).toInt8.toInt32) ((va5 (nar .char (va3 p2))).toInt8.toInt32) ((va4 (nar .char (va3 p3))).toInt8.toInt32) ((va5 (nar .char (va3 p3))).toInt8.toInt32)) = (va24 p2 p3 p4)
      ·
        refine own_b X15 hx hby tb0 3 [false] 121 _ [vi 1] (ai (teq j16_1).2 rfl) ?_
        exact os_eq (by simp only [va33, if_pos j16_1]) j16
      ·
        refine own_b X15 hx hby tb0 2 [true] 121 _ [vi 0] (ai (feq j16_1).2 rfl) ?_
        exact os_eq (by simp only [va33, if_neg j16_1]) j16
    show OS p e below T15 m 121 (L_iiiiiiiiiiri p1 p2 p3 p4 p5 3 (va3 p2) (va3 p3) (va3 p4) (va3 p5) b11 (va24 p2 p3 p4)) [vi (va33 p2 p3 p4)] _
    exact retN X15 hx (t := .boolean) hret (by simp) (hb hby at_121) hr
  · show Q0 h0 n0 _ T15.heap _
    rw [e15q]
    exact ⟨(congrArg (fun z => some (Value.int z)) H11), N15⟩
theorem rm0_9 (hw : OW Z a0) (p1 : Int32) (p2 : Int32) (p3 : Int32) (p4 : Int32) (p5 : Int32) (p90 : Int32) (rv0 : Value) (Z0 : n0 ≤ h0.size) (Sp0 : ab1 Z (.int p90)) (Sp1 : Old Z n0 h0) (Sp2 : ab2 Z (.int (1 : Int32))) (Sp3 : ab3 Z (.int (0 : Int32))) (Sp4 : ab4 Z (.int (8 : Int32))) (Sp5 : ab5 Z rv0) (Sp6 : rv0.isRef = true) (Sp7 : ¬ (p90 = (0 : Int32))) (H1 : ¬ (((p1 &&& (2147483647 : Int32)) % (5 : Int32)) = (0 : Int32))) (H2 : ¬ (((p1 &&& (2147483647 : Int32)) % (5 : Int32)) = (1 : Int32))) (H3 : ¬ (((p1 &&& (2147483647 : Int32)) % (5 : Int32)) = (2 : Int32))) (H4 : ((p1 &&& (2147483647 : Int32)) % (5 : Int32)) = (3 : Int32)) (H5 : ¬ (p90 = (0 : Int32))) (H6 : ¬ ((255 : Int32) < (nar .char (va3 p2)))) (H7 : ¬ ((255 : Int32) < (nar .char (va3 p3)))) (H8 : ¬ ((255 : Int32) < (nar .char (va3 p4)))) (H9 : (nar .boolean (va36 p2 p3 p4)) = (1 : Int32)) :
    MC l Z ws h0 n0 p1 p2 p3 p4 p5 := by
  refine MetFree.of_bodySF (plainFor_of_name pn_0) hisR ?_
  intro p e s m args below meth c s₁ Bd hml0 hP hK
  obtain ⟨rfl, hZ, hh, hH⟩ := hP
  have hx := Bd.exec
  have hby := Bd.bytes
  have hml : c.maxLocals = 12 := hml0
  have hown : s.vm.findClass "purlin/config/NamePatternIsPatternPinLaw" = some m.cls := findClass_of_methodNamed Bd.named
  have hnm := (name_of_methodNamed Bd.named Bd.method).1
  have hret := Bd.returns
  have X0 : Stand p l e room_1 s m #[(vi p1), (vi p2), (vi p3), (vi p4), (vi p5)] below meth c s₁ [] 0 0 := Stand.of_body Bd
  have e0 : s₁.heap = h0 := by rw [← hh, Bd.state]; rfl
  have N0 := Fr.nil n0
  have pre0 : ∀ t, Steps p.tables e below (s₁.setTop (mkF m 0 #[si p1, si p2, si p3, si p4, si p5, .unset, .unset, .unset, .unset, .unset, .unset, .unset] [])) t → Steps p.tables e below (s₁.setTop (entryFrame m #[(vi p1), (vi p2), (vi p3), (vi p4), (vi p5)] maxLocals)) t := fun t k => castTop (ef0 m p1 p2 p3 p4 p5) k
  obtain ⟨T6, L6, _, X6, ⟨rfl, N6q, e6q⟩, st6⟩ := own_callS X0 hx hZ hown (cw_0 hw) (rm1_3 hw p2 Z0 ) e0 (Ls := (L_iiiiiiuuuuuu p1 p2 p3 p4 p5 3)) hml [vi p2] [] pd_0 0 (hb hby at_9)
  have N6 := Fr.app N0 N6q
  obtain ⟨T7, L7, _, X7, ⟨rfl, N7q, e7q⟩, st7⟩ := own_callS X6 hx hZ hown (cw_0 hw) (rm1_3 hw p3 Z0 ) e6q (Ls := (L_iiiiiiiuuuuu p1 p2 p3 p4 p5 3 (va3 p2))) hml [vi p3] [] pd_0 0 (hb hby at_15)
  have N7 := Fr.app N6 N7q
  obtain ⟨T8, L8, _, X8, ⟨rfl, N8q, e8q⟩, st8⟩ := own_callS X7 hx hZ hown (cw_0 hw) (rm1_3 hw p4 Z0 ) e7q (Ls := (L_iiiiiiiiuuuu p1 p2 p3 p4 p5 3 (va3 p2) (va3 p3))) hml [vi p4] [] pd_0 0 (hb hby at_21)
  have N8 := Fr.app N7 N8q
  obtain ⟨T9, L9, _, X9, ⟨rfl, N9q, e9q⟩, st9⟩ := own_callS X8 hx hZ hown (cw_0 hw) (rm1_3 hw p5 Z0 ) e8q (Ls := (L_iiiiiiiiiuuu p1 p2 p3 p4 p5 3 (va3 p2) (va3 p3) (va3 p4))) hml [vi p5] [] pd_0 0 (hb hby at_28)
  have N9 := Fr.app N8 N9q
  obtain ⟨T10, L10, _, X10, ⟨b11, b12, kk10_0, rfl, N10q, K10, qa10_0, qb10_0, qa10_1, qb10_1, qc10_0_1, f10_0, f10_1, f10_2, f10_3⟩, st10⟩ := own_callS X9 hx hZ hown (cw_16 hw) (rm2_10 hw (va3 p2) (va3 p3) (va3 p4) (va3 p5) p90 Z0 Sp0 Sp1 H5 H6 H7 H8) e9q (Ls := (L_iiiiiiiiiiuu p1 p2 p3 p4 p5 3 (va3 p2) (va3 p3) (va3 p4) (va3 p5))) hml [vi 3, vi (va3 p2), vi (va3 p3), vi (va3 p4), vi (va3 p5)] [] pd_3 0 (hb hby at_43)
  have N10 := Fr.app N9 N10q
  have qd10_0 := Nat.le_trans (Nat.le_refl h0.size) qb10_0
  have qd10_1 := Nat.le_trans (Nat.le_refl h0.size) qb10_1
  have F14 := (Sp1.keep K10 all0)
  obtain ⟨T15, L15, _, X15, ⟨rfl, N15q, e15q⟩, st15⟩ := own_callS X10 hx hZ hown (cw_5 hw) (rm6_26 hw b11 p90 b12 kk10_0 (((nar .char (va3 p2)).toInt8.toInt32).toInt8.toInt32) (((nar .char (va3 p3)).toInt8.toInt32).toInt8.toInt32) (((nar .char (va3 p4)).toInt8.toInt32).toInt8.toInt32) (Nat.le_trans Z0 K10.1) f10_0 Sp0 F14 H5 f10_1 f10_2 f10_3) rfl (Ls := (L_iiiiiiiiiiri p1 p2 p3 p4 p5 3 (va3 p2) (va3 p3) (va3 p4) (va3 p5) b11 (va24 p2 p3 p4))) hml [vr b11] [] pd_11 0 (hb hby at_108)
  have N15 := Fr.app N10 N15q
  obtain ⟨fs, hr, hrun, hended, hW, hsame⟩ := X15.leave (v := some (vi (nar .boolean (va36 p2 p3 p4)))) (fun h => by rw [hret] at h; cases h)
  refine ⟨_, _, pre0 _ ?_, hrun, hended, _, _, rfl, ?_, ⟨_, rfl⟩, hW.wide, hW.no_new_pair _, hsame.mono (by decide) (by decide)⟩
  · refine own_b X0 hx hby tb0 1 [] 1 _ [vi p1] rfl ?_
    refine X0.ldcInt hx hown (mvT hZ (tw_0 hw)) (g := (mkF m 1 (L_iiiiiuuuuuuu p1 p2 p3 p4 p5) [vi p1])) rfl (hb hby at_1) _ ?_
    show OS p e below s₁ m 3 (L_iiiiiuuuuuuu p1 p2 p3 p4 p5) [vi 2147483647, vi p1] _
    refine own_b X0 hx hby tb0 2 [] 5 _ [vi 5, vi (p1 &&& (2147483647 : Int32))] rfl ?_
    refine iremM X0 hx (g := (mkF m 5 (L_iiiiiuuuuuuu p1 p2 p3 p4 p5) [vi 5, vi (p1 &&& (2147483647 : Int32))])) rfl (hb hby at_5) rfl (by decide) ?_
    show OS p e below s₁ m 6 (L_iiiiiuuuuuuu p1 p2 p3 p4 p5) [vi ((p1 &&& (2147483647 : Int32)) % (5 : Int32))] _
    rw [H4]
    show OS p e below s₁ m 6 (L_iiiiiuuuuuuu p1 p2 p3 p4 p5) [vi 3] _
    refine own_b X0 hx hby tb0 2 [] 9 (L_iiiiiiuuuuuu p1 p2 p3 p4 p5 3) [vi p2] rfl ?_
    refine st6 _ ?_
    refine own_b X6 hx hby tb0 2 [] 15 (L_iiiiiiiuuuuu p1 p2 p3 p4 p5 3 (va3 p2)) [vi p3] rfl ?_
    refine st7 _ ?_
    refine own_b X7 hx hby tb0 2 [] 21 (L_iiiiiiiiuuuu p1 p2 p3 p4 p5 3 (va3 p2) (va3 p3)) [vi p4] rfl ?_
    refine st8 _ ?_
    refine own_b X8 hx hby tb0 2 [] 28 (L_iiiiiiiiiuuu p1 p2 p3 p4 p5 3 (va3 p2) (va3 p3) (va3 p4)) [vi p5] rfl ?_
    refine st9 _ ?_
    refine own_b X9 hx hby tb0 6 [] 43 (L_iiiiiiiiiiuu p1 p2 p3 p4 p5 3 (va3 p2) (va3 p3) (va3 p4) (va3 p5)) [vi (va3 p5), vi (va3 p4), vi (va3 p3), vi (va3 p2), vi 3] rfl ?_
    refine st10 _ ?_
    refine own_b X10 hx hby tb0 5 [false] 57 (L_iiiiiiiiiiru p1 p2 p3 p4 p5 3 (va3 p2) (va3 p3) (va3 p4) (va3 p5) b11) [vi 42, vi (va3 p2)] (ai (by decide) rfl) ?_
    suffices j13 : OS p e below T10 m 104 (L_iiiiiiiiiiru p1 p2 p3 p4 p5 3 (va3 p2) (va3 p3) (va3 p4) (va3 p5) b11) [vi (va24 p2 p3 p4)] (T15.setFrames fs) by
      by_cases j13_1 : (va3 p2) = (42 : Int32)
      ·
        refine own_b X10 hx hby tb0 3 [true] 104 _ [vi 1] (ai (teq j13_1).1 rfl) ?_
        exact os_eq (by simp only [va24, if_pos j13_1]) j13
      ·
        refine own_b X10 hx hby tb0 6 [false, false] 70 _ [vi 42, vi (va3 p3)] (ai (feq j13_1).1 (ai (by decide) rfl)) ?_
        by_cases j13_2 : (va3 p3) = (42 : Int32)
        ·
          refine own_b X10 hx hby tb0 3 [true] 104 _ [vi 1] (ai (teq j13_2).1 rfl) ?_
          exact os_eq (by simp only [va24, if_neg j13_1, if_pos j13_2]) j13
        ·
          refine own_b X10 hx hby tb0 6 [false, false] 83 _ [vi 42, vi (va3 p4)] (ai (feq j13_2).1 (ai (by decide) rfl)) ?_
          by_cases j13_3 : (va3 p4) = (42 : Int32)
          ·
            refine own_b X10 hx hby tb0 3 [true] 104 _ [vi 1] (ai (teq j13_3).1 rfl) ?_
            exact os_eq (by simp only [va24, if_neg j13_1, if_neg j13_2, if_pos j13_3]) j13
          ·
            refine own_b X10 hx hby tb0 5 [false, true] 104 _ [vi 0] (ai (feq j13_3).1 (ai (by decide) rfl)) ?_
            exact os_eq (by simp only [va24, if_neg j13_1, if_neg j13_2, if_neg j13_3]) j13
    refine own_b X10 hx hby tb0 2 [] 108 (L_iiiiiiiiiiri p1 p2 p3 p4 p5 3 (va3 p2) (va3 p3) (va3 p4) (va3 p5) b11 (va24 p2 p3 p4)) [vr b11] rfl ?_
    refine st15 _ ?_
    refine own_b X15 hx hby tb0 1 [] 113 _ [vi (va24 p2 p3 p4), vi (va35 (((nar .char (va3 p2)).toInt8.toInt32).toInt8.toInt32) (((nar .char (va3 p3)).toInt8.toInt32).toInt8.toInt32) (((nar .char (va3 p4)).toInt8.toInt32).toInt8.toInt32))] rfl ?_
    suffices j16 : OS p e below T15 m 121 (L_iiiiiiiiiiri p1 p2 p3 p4 p5 3 (va3 p2) (va3 p3) (va3 p4) (va3 p5) b11 (va24 p2 p3 p4)) [vi (va36 p2 p3 p4)] (T15.setFrames fs) by
      by_cases j16_1 : (va35 (((nar .char (va3 p2)).toInt8.toInt32).toInt8.toInt32) (((nar .char (va3 p3)).toInt8.toInt32).toInt8.toInt32) (((nar .char (va3 p4)).toInt8.toInt32).toInt8.toInt32)) = (va24 p2 p3 p4)
      ·
        refine own_b X15 hx hby tb0 3 [false] 121 _ [vi 1] (ai (teq j16_1).2 rfl) ?_
        exact os_eq (by simp only [va36, if_pos j16_1]) j16
      ·
        refine own_b X15 hx hby tb0 2 [true] 121 _ [vi 0] (ai (feq j16_1).2 rfl) ?_
        exact os_eq (by simp only [va36, if_neg j16_1]) j16
    show OS p e below T15 m 121 (L_iiiiiiiiiiri p1 p2 p3 p4 p5 3 (va3 p2) (va3 p3) (va3 p4) (va3 p5) b11 (va24 p2 p3 p4)) [vi (va36 p2 p3 p4)] _
    exact retN X15 hx (t := .boolean) hret (by simp) (hb hby at_121) hr
  · show Q0 h0 n0 _ T15.heap _
    rw [e15q]
    exact ⟨(congrArg (fun z => some (Value.int z)) H9), N15⟩
theorem rm0_10 (hw : OW Z a0) (p1 : Int32) (p2 : Int32) (p3 : Int32) (p4 : Int32) (p5 : Int32) (p90 : Int32) (rv0 : Value) (Z0 : n0 ≤ h0.size) (Sp0 : ab1 Z (.int p90)) (Sp1 : Old Z n0 h0) (Sp2 : ab2 Z (.int (1 : Int32))) (Sp3 : ab3 Z (.int (0 : Int32))) (Sp4 : ab4 Z (.int (8 : Int32))) (Sp5 : ab5 Z rv0) (Sp6 : rv0.isRef = true) (Sp7 : ¬ (p90 = (0 : Int32))) (H1 : ¬ (((p1 &&& (2147483647 : Int32)) % (5 : Int32)) = (0 : Int32))) (H2 : ¬ (((p1 &&& (2147483647 : Int32)) % (5 : Int32)) = (1 : Int32))) (H3 : ¬ (((p1 &&& (2147483647 : Int32)) % (5 : Int32)) = (2 : Int32))) (H4 : ¬ (((p1 &&& (2147483647 : Int32)) % (5 : Int32)) = (3 : Int32))) (H5 : ((p1 &&& (2147483647 : Int32)) % (5 : Int32)) = (4 : Int32)) (H6 : ¬ (p90 = (0 : Int32))) (H7 : (255 : Int32) < (nar .char (va3 p2))) (H8 : (255 : Int32) < (nar .char (va8 ((va4 (nar .char (va3 p2))).toInt8.toInt32) ((va5 (nar .char (va3 p2))).toInt8.toInt32)))) (H9 : ¬ ((nar .char (va8 ((va4 (nar .char (va3 p2))).toInt8.toInt32) ((va5 (nar .char (va3 p2))).toInt8.toInt32))) = (42 : Int32))) (H10 : (nar .boolean (va40 p3 p4 p5 p2)) = (1 : Int32)) :
    MC l Z ws h0 n0 p1 p2 p3 p4 p5 := by
  refine MetFree.of_bodySF (plainFor_of_name pn_0) hisR ?_
  intro p e s m args below meth c s₁ Bd hml0 hP hK
  obtain ⟨rfl, hZ, hh, hH⟩ := hP
  have hx := Bd.exec
  have hby := Bd.bytes
  have hml : c.maxLocals = 12 := hml0
  have hown : s.vm.findClass "purlin/config/NamePatternIsPatternPinLaw" = some m.cls := findClass_of_methodNamed Bd.named
  have hnm := (name_of_methodNamed Bd.named Bd.method).1
  have hret := Bd.returns
  have X0 : Stand p l e room_1 s m #[(vi p1), (vi p2), (vi p3), (vi p4), (vi p5)] below meth c s₁ [] 0 0 := Stand.of_body Bd
  have e0 : s₁.heap = h0 := by rw [← hh, Bd.state]; rfl
  have N0 := Fr.nil n0
  have pre0 : ∀ t, Steps p.tables e below (s₁.setTop (mkF m 0 #[si p1, si p2, si p3, si p4, si p5, .unset, .unset, .unset, .unset, .unset, .unset, .unset] [])) t → Steps p.tables e below (s₁.setTop (entryFrame m #[(vi p1), (vi p2), (vi p3), (vi p4), (vi p5)] maxLocals)) t := fun t k => castTop (ef0 m p1 p2 p3 p4 p5) k
  obtain ⟨T6, L6, _, X6, ⟨rfl, N6q, e6q⟩, st6⟩ := own_callS X0 hx hZ hown (cw_0 hw) (rm1_3 hw p2 Z0 ) e0 (Ls := (L_iiiiiiuuuuuu p1 p2 p3 p4 p5 4)) hml [vi p2] [] pd_0 0 (hb hby at_9)
  have N6 := Fr.app N0 N6q
  obtain ⟨T7, L7, _, X7, ⟨rfl, N7q, e7q⟩, st7⟩ := own_callS X6 hx hZ hown (cw_0 hw) (rm1_3 hw p3 Z0 ) e6q (Ls := (L_iiiiiiiuuuuu p1 p2 p3 p4 p5 4 (va3 p2))) hml [vi p3] [] pd_0 0 (hb hby at_15)
  have N7 := Fr.app N6 N7q
  obtain ⟨T8, L8, _, X8, ⟨rfl, N8q, e8q⟩, st8⟩ := own_callS X7 hx hZ hown (cw_0 hw) (rm1_3 hw p4 Z0 ) e7q (Ls := (L_iiiiiiiiuuuu p1 p2 p3 p4 p5 4 (va3 p2) (va3 p3))) hml [vi p4] [] pd_0 0 (hb hby at_21)
  have N8 := Fr.app N7 N8q
  obtain ⟨T9, L9, _, X9, ⟨rfl, N9q, e9q⟩, st9⟩ := own_callS X8 hx hZ hown (cw_0 hw) (rm1_3 hw p5 Z0 ) e8q (Ls := (L_iiiiiiiiiuuu p1 p2 p3 p4 p5 4 (va3 p2) (va3 p3) (va3 p4))) hml [vi p5] [] pd_0 0 (hb hby at_28)
  have N9 := Fr.app N8 N9q
  obtain ⟨T10, L10, _, X10, ⟨b11, b12, kk10_0, rfl, N10q, K10, qa10_0, qb10_0, qa10_1, qb10_1, qc10_0_1, f10_0, f10_1, f10_2, f10_3⟩, st10⟩ := own_callS X9 hx hZ hown (cw_16 hw) (rm2_11 hw (va3 p2) (va3 p3) (va3 p4) (va3 p5) p90 Z0 Sp0 Sp1 H6 H7 Sp2 Sp3 Sp4 H8) e9q (Ls := (L_iiiiiiiiiiuu p1 p2 p3 p4 p5 4 (va3 p2) (va3 p3) (va3 p4) (va3 p5))) hml [vi 4, vi (va3 p2), vi (va3 p3), vi (va3 p4), vi (va3 p5)] [] pd_3 0 (hb hby at_43)
  have N10 := Fr.app N9 N10q
  have qd10_0 := Nat.le_trans (Nat.le_refl h0.size) qb10_0
  have qd10_1 := Nat.le_trans (Nat.le_refl h0.size) qb10_1
  have F14 := (Sp1.keep K10 all0)
  obtain ⟨T15, L15, _, X15, ⟨rfl, N15q, e15q⟩, st15⟩ := own_callS X10 hx hZ hown (cw_5 hw) (rm6_29 hw b11 p90 b12 kk10_0 ((va4 (nar .char (va3 p2))).toInt8.toInt32) ((va5 (nar .char (va3 p2))).toInt8.toInt32) ((va4 (nar .char (va3 p3))).toInt8.toInt32) ((va5 (nar .char (va3 p3))).toInt8.toInt32) ((va4 (nar .char (va3 p4))).toInt8.toInt32) ((va5 (nar .char (va3 p4))).toInt8.toInt32) ((va4 (nar .char (va3 p5))).toInt8.toInt32) ((va5 (nar .char (va3 p5))).toInt8.toInt32) rv0 (Nat.le_trans Z0 K10.1) f10_0 Sp0 F14 H6 f10_1 f10_2 f10_3 Sp5 Sp6 Sp2 Sp3 Sp4 H9) rfl (Ls := (L_iiiiiiiiiiri p1 p2 p3 p4 p5 4 (va3 p2) (va3 p3) (va3 p4) (va3 p5) b11 (va37 p2 p3 p4 p5))) hml [vr b11] [] pd_11 0 (hb hby at_108)
  have N15 := Fr.app N10 N15q
  obtain ⟨fs, hr, hrun, hended, hW, hsame⟩ := X15.leave (v := some (vi (nar .boolean (va40 p3 p4 p5 p2)))) (fun h => by rw [hret] at h; cases h)
  refine ⟨_, _, pre0 _ ?_, hrun, hended, _, _, rfl, ?_, ⟨_, rfl⟩, hW.wide, hW.no_new_pair _, hsame.mono (by decide) (by decide)⟩
  · refine own_b X0 hx hby tb0 1 [] 1 _ [vi p1] rfl ?_
    refine X0.ldcInt hx hown (mvT hZ (tw_0 hw)) (g := (mkF m 1 (L_iiiiiuuuuuuu p1 p2 p3 p4 p5) [vi p1])) rfl (hb hby at_1) _ ?_
    show OS p e below s₁ m 3 (L_iiiiiuuuuuuu p1 p2 p3 p4 p5) [vi 2147483647, vi p1] _
    refine own_b X0 hx hby tb0 2 [] 5 _ [vi 5, vi (p1 &&& (2147483647 : Int32))] rfl ?_
    refine iremM X0 hx (g := (mkF m 5 (L_iiiiiuuuuuuu p1 p2 p3 p4 p5) [vi 5, vi (p1 &&& (2147483647 : Int32))])) rfl (hb hby at_5) rfl (by decide) ?_
    show OS p e below s₁ m 6 (L_iiiiiuuuuuuu p1 p2 p3 p4 p5) [vi ((p1 &&& (2147483647 : Int32)) % (5 : Int32))] _
    rw [H5]
    show OS p e below s₁ m 6 (L_iiiiiuuuuuuu p1 p2 p3 p4 p5) [vi 4] _
    refine own_b X0 hx hby tb0 2 [] 9 (L_iiiiiiuuuuuu p1 p2 p3 p4 p5 4) [vi p2] rfl ?_
    refine st6 _ ?_
    refine own_b X6 hx hby tb0 2 [] 15 (L_iiiiiiiuuuuu p1 p2 p3 p4 p5 4 (va3 p2)) [vi p3] rfl ?_
    refine st7 _ ?_
    refine own_b X7 hx hby tb0 2 [] 21 (L_iiiiiiiiuuuu p1 p2 p3 p4 p5 4 (va3 p2) (va3 p3)) [vi p4] rfl ?_
    refine st8 _ ?_
    refine own_b X8 hx hby tb0 2 [] 28 (L_iiiiiiiiiuuu p1 p2 p3 p4 p5 4 (va3 p2) (va3 p3) (va3 p4)) [vi p5] rfl ?_
    refine st9 _ ?_
    refine own_b X9 hx hby tb0 6 [] 43 (L_iiiiiiiiiiuu p1 p2 p3 p4 p5 4 (va3 p2) (va3 p3) (va3 p4) (va3 p5)) [vi (va3 p5), vi (va3 p4), vi (va3 p3), vi (va3 p2), vi 4] rfl ?_
    refine st10 _ ?_
    refine own_b X10 hx hby tb0 5 [false] 57 (L_iiiiiiiiiiru p1 p2 p3 p4 p5 4 (va3 p2) (va3 p3) (va3 p4) (va3 p5) b11) [vi 42, vi (va3 p2)] (ai (by decide) rfl) ?_
    suffices j13 : OS p e below T10 m 104 (L_iiiiiiiiiiru p1 p2 p3 p4 p5 4 (va3 p2) (va3 p3) (va3 p4) (va3 p5) b11) [vi (va37 p2 p3 p4 p5)] (T15.setFrames fs) by
      by_cases j13_1 : (va3 p2) = (42 : Int32)
      ·
        refine own_b X10 hx hby tb0 3 [true] 104 _ [vi 1] (ai (teq j13_1).1 rfl) ?_
        exact os_eq (by simp only [va37, if_pos j13_1]) j13
      ·
        refine own_b X10 hx hby tb0 6 [false, false] 70 _ [vi 42, vi (va3 p3)] (ai (feq j13_1).1 (ai (by decide) rfl)) ?_
        by_cases j13_2 : (va3 p3) = (42 : Int32)
        ·
          refine own_b X10 hx hby tb0 3 [true] 104 _ [vi 1] (ai (teq j13_2).1 rfl) ?_
          exact os_eq (by simp only [va37, if_neg j13_1, if_pos j13_2]) j13
        ·
          refine own_b X10 hx hby tb0 6 [false, false] 83 _ [vi 42, vi (va3 p4)] (ai (feq j13_2).1 (ai (by decide) rfl)) ?_
          by_cases j13_3 : (va3 p4) = (42 : Int32)
          ·
            refine own_b X10 hx hby tb0 3 [true] 104 _ [vi 1] (ai (teq j13_3).1 rfl) ?_
            exact os_eq (by simp only [va37, if_neg j13_1, if_neg j13_2, if_pos j13_3]) j13
          ·
            refine own_b X10 hx hby tb0 6 [false, false] 96 _ [vi 42, vi (va3 p5)] (ai (feq j13_3).1 (ai (by decide) rfl)) ?_
            by_cases j13_4 : (va3 p5) = (42 : Int32)
            ·
              refine own_b X10 hx hby tb0 3 [false] 104 _ [vi 1] (ai (teq j13_4).2 rfl) ?_
              exact os_eq (by simp only [va37, if_neg j13_1, if_neg j13_2, if_neg j13_3, if_pos j13_4]) j13
            ·
              refine own_b X10 hx hby tb0 2 [true] 104 _ [vi 0] (ai (feq j13_4).2 rfl) ?_
              exact os_eq (by simp only [va37, if_neg j13_1, if_neg j13_2, if_neg j13_3, if_neg j13_4]) j13
    refine own_b X10 hx hby tb0 2 [] 108 (L_iiiiiiiiiiri p1 p2 p3 p4 p5 4 (va3 p2) (va3 p3) (va3 p4) (va3 p5) b11 (va37 p2 p3 p4 p5)) [vr b11] rfl ?_
    refine st15 _ ?_
    refine own_b X15 hx hby tb0 1 [] 113 _ [vi (va37 p2 p3 p4 p5), vi (va39 ((va4 (nar .char (va3 p3))).toInt8.toInt32) ((va5 (nar .char (va3 p3))).toInt8.toInt32) ((va4 (nar .char (va3 p4))).toInt8.toInt32) ((va5 (nar .char (va3 p4))).toInt8.toInt32) ((va4 (nar .char (va3 p5))).toInt8.toInt32) ((va5 (nar .char (va3 p5))).toInt8.toInt32))] rfl ?_
    suffices j16 : OS p e below T15 m 121 (L_iiiiiiiiiiri p1 p2 p3 p4 p5 4 (va3 p2) (va3 p3) (va3 p4) (va3 p5) b11 (va37 p2 p3 p4 p5)) [vi (va40 p3 p4 p5 p2)] (T15.setFrames fs) by
      by_cases j16_1 : (va39 ((va4 (nar .char (va3 p3))).toInt8.toInt32) ((va5 (nar .char (va3 p3))).toInt8.toInt32) ((va4 (nar .char (va3 p4))).toInt8.toInt32) ((va5 (nar .char (va3 p4))).toInt8.toInt32) ((va4 (nar .char (va3 p5))).toInt8.toInt32) ((va5 (nar .char (va3 p5))).toInt8.toInt32)) = (va37 p2 p3 p4 p5)
      ·
        refine own_b X15 hx hby tb0 3 [false] 121 _ [vi 1] (ai (teq j16_1).2 rfl) ?_
        exact os_eq (by simp only [va40, if_pos j16_1]) j16
      ·
        refine own_b X15 hx hby tb0 2 [true] 121 _ [vi 0] (ai (feq j16_1).2 rfl) ?_
        exact os_eq (by simp only [va40, if_neg j16_1]) j16
    show OS p e below T15 m 121 (L_iiiiiiiiiiri p1 p2 p3 p4 p5 4 (va3 p2) (va3 p3) (va3 p4) (va3 p5) b11 (va37 p2 p3 p4 p5)) [vi (va40 p3 p4 p5 p2)] _
    exact retN X15 hx (t := .boolean) hret (by simp) (hb hby at_121) hr
  · show Q0 h0 n0 _ T15.heap _
    rw [e15q]
    exact ⟨(congrArg (fun z => some (Value.int z)) H10), N15⟩
theorem rm0_11 (hw : OW Z a0) (p1 : Int32) (p2 : Int32) (p3 : Int32) (p4 : Int32) (p5 : Int32) (p90 : Int32) (rv0 : Value) (Z0 : n0 ≤ h0.size) (Sp0 : ab1 Z (.int p90)) (Sp1 : Old Z n0 h0) (Sp2 : ab2 Z (.int (1 : Int32))) (Sp3 : ab3 Z (.int (0 : Int32))) (Sp4 : ab4 Z (.int (8 : Int32))) (Sp5 : ab5 Z rv0) (Sp6 : rv0.isRef = true) (Sp7 : ¬ (p90 = (0 : Int32))) (H1 : ¬ (((p1 &&& (2147483647 : Int32)) % (5 : Int32)) = (0 : Int32))) (H2 : ¬ (((p1 &&& (2147483647 : Int32)) % (5 : Int32)) = (1 : Int32))) (H3 : ¬ (((p1 &&& (2147483647 : Int32)) % (5 : Int32)) = (2 : Int32))) (H4 : ¬ (((p1 &&& (2147483647 : Int32)) % (5 : Int32)) = (3 : Int32))) (H5 : ((p1 &&& (2147483647 : Int32)) % (5 : Int32)) = (4 : Int32)) (H6 : ¬ (p90 = (0 : Int32))) (H7 : ¬ ((255 : Int32) < (nar .char (va3 p2)))) (H8 : (255 : Int32) < (nar .char (va3 p3))) (H9 : (255 : Int32) < (nar .char (va8 ((va4 (nar .char (va3 p3))).toInt8.toInt32) ((va5 (nar .char (va3 p3))).toInt8.toInt32)))) (H10 : ¬ ((nar .char (va8 ((va4 (nar .char (va3 p3))).toInt8.toInt32) ((va5 (nar .char (va3 p3))).toInt8.toInt32))) = (42 : Int32))) (H11 : (nar .boolean (va43 p2 p4 p5 p3)) = (1 : Int32)) :
    MC l Z ws h0 n0 p1 p2 p3 p4 p5 := by
  refine MetFree.of_bodySF (plainFor_of_name pn_0) hisR ?_
  intro p e s m args below meth c s₁ Bd hml0 hP hK
  obtain ⟨rfl, hZ, hh, hH⟩ := hP
  have hx := Bd.exec
  have hby := Bd.bytes
  have hml : c.maxLocals = 12 := hml0
  have hown : s.vm.findClass "purlin/config/NamePatternIsPatternPinLaw" = some m.cls := findClass_of_methodNamed Bd.named
  have hnm := (name_of_methodNamed Bd.named Bd.method).1
  have hret := Bd.returns
  have X0 : Stand p l e room_1 s m #[(vi p1), (vi p2), (vi p3), (vi p4), (vi p5)] below meth c s₁ [] 0 0 := Stand.of_body Bd
  have e0 : s₁.heap = h0 := by rw [← hh, Bd.state]; rfl
  have N0 := Fr.nil n0
  have pre0 : ∀ t, Steps p.tables e below (s₁.setTop (mkF m 0 #[si p1, si p2, si p3, si p4, si p5, .unset, .unset, .unset, .unset, .unset, .unset, .unset] [])) t → Steps p.tables e below (s₁.setTop (entryFrame m #[(vi p1), (vi p2), (vi p3), (vi p4), (vi p5)] maxLocals)) t := fun t k => castTop (ef0 m p1 p2 p3 p4 p5) k
  obtain ⟨T6, L6, _, X6, ⟨rfl, N6q, e6q⟩, st6⟩ := own_callS X0 hx hZ hown (cw_0 hw) (rm1_3 hw p2 Z0 ) e0 (Ls := (L_iiiiiiuuuuuu p1 p2 p3 p4 p5 4)) hml [vi p2] [] pd_0 0 (hb hby at_9)
  have N6 := Fr.app N0 N6q
  obtain ⟨T7, L7, _, X7, ⟨rfl, N7q, e7q⟩, st7⟩ := own_callS X6 hx hZ hown (cw_0 hw) (rm1_3 hw p3 Z0 ) e6q (Ls := (L_iiiiiiiuuuuu p1 p2 p3 p4 p5 4 (va3 p2))) hml [vi p3] [] pd_0 0 (hb hby at_15)
  have N7 := Fr.app N6 N7q
  obtain ⟨T8, L8, _, X8, ⟨rfl, N8q, e8q⟩, st8⟩ := own_callS X7 hx hZ hown (cw_0 hw) (rm1_3 hw p4 Z0 ) e7q (Ls := (L_iiiiiiiiuuuu p1 p2 p3 p4 p5 4 (va3 p2) (va3 p3))) hml [vi p4] [] pd_0 0 (hb hby at_21)
  have N8 := Fr.app N7 N8q
  obtain ⟨T9, L9, _, X9, ⟨rfl, N9q, e9q⟩, st9⟩ := own_callS X8 hx hZ hown (cw_0 hw) (rm1_3 hw p5 Z0 ) e8q (Ls := (L_iiiiiiiiiuuu p1 p2 p3 p4 p5 4 (va3 p2) (va3 p3) (va3 p4))) hml [vi p5] [] pd_0 0 (hb hby at_28)
  have N9 := Fr.app N8 N9q
  obtain ⟨T10, L10, _, X10, ⟨b11, b12, kk10_0, rfl, N10q, K10, qa10_0, qb10_0, qa10_1, qb10_1, qc10_0_1, f10_0, f10_1, f10_2, f10_3⟩, st10⟩ := own_callS X9 hx hZ hown (cw_16 hw) (rm2_12 hw (va3 p2) (va3 p3) (va3 p4) (va3 p5) p90 Z0 Sp0 Sp1 H6 H7 H8 Sp2 Sp3 Sp4 H9) e9q (Ls := (L_iiiiiiiiiiuu p1 p2 p3 p4 p5 4 (va3 p2) (va3 p3) (va3 p4) (va3 p5))) hml [vi 4, vi (va3 p2), vi (va3 p3), vi (va3 p4), vi (va3 p5)] [] pd_3 0 (hb hby at_43)
  have N10 := Fr.app N9 N10q
  have qd10_0 := Nat.le_trans (Nat.le_refl h0.size) qb10_0
  have qd10_1 := Nat.le_trans (Nat.le_refl h0.size) qb10_1
  have F14 := (Sp1.keep K10 all0)
  obtain ⟨T15, L15, _, X15, ⟨rfl, N15q, e15q⟩, st15⟩ := own_callS X10 hx hZ hown (cw_5 hw) (rm6_32 hw b11 p90 b12 kk10_0 ((va4 (nar .char (va3 p2))).toInt8.toInt32) ((va5 (nar .char (va3 p2))).toInt8.toInt32) ((va4 (nar .char (va3 p3))).toInt8.toInt32) ((va5 (nar .char (va3 p3))).toInt8.toInt32) ((va4 (nar .char (va3 p4))).toInt8.toInt32) ((va5 (nar .char (va3 p4))).toInt8.toInt32) ((va4 (nar .char (va3 p5))).toInt8.toInt32) ((va5 (nar .char (va3 p5))).toInt8.toInt32) rv0 (Nat.le_trans Z0 K10.1) f10_0 Sp0 F14 H6 f10_1 f10_2 f10_3 Sp5 Sp6 Sp2 Sp3 Sp4 H10) rfl (Ls := (L_iiiiiiiiiiri p1 p2 p3 p4 p5 4 (va3 p2) (va3 p3) (va3 p4) (va3 p5) b11 (va37 p2 p3 p4 p5))) hml [vr b11] [] pd_11 0 (hb hby at_108)
  have N15 := Fr.app N10 N15q
  obtain ⟨fs, hr, hrun, hended, hW, hsame⟩ := X15.leave (v := some (vi (nar .boolean (va43 p2 p4 p5 p3)))) (fun h => by rw [hret] at h; cases h)
  refine ⟨_, _, pre0 _ ?_, hrun, hended, _, _, rfl, ?_, ⟨_, rfl⟩, hW.wide, hW.no_new_pair _, hsame.mono (by decide) (by decide)⟩
  · refine own_b X0 hx hby tb0 1 [] 1 _ [vi p1] rfl ?_
    refine X0.ldcInt hx hown (mvT hZ (tw_0 hw)) (g := (mkF m 1 (L_iiiiiuuuuuuu p1 p2 p3 p4 p5) [vi p1])) rfl (hb hby at_1) _ ?_
    show OS p e below s₁ m 3 (L_iiiiiuuuuuuu p1 p2 p3 p4 p5) [vi 2147483647, vi p1] _
    refine own_b X0 hx hby tb0 2 [] 5 _ [vi 5, vi (p1 &&& (2147483647 : Int32))] rfl ?_
    refine iremM X0 hx (g := (mkF m 5 (L_iiiiiuuuuuuu p1 p2 p3 p4 p5) [vi 5, vi (p1 &&& (2147483647 : Int32))])) rfl (hb hby at_5) rfl (by decide) ?_
    show OS p e below s₁ m 6 (L_iiiiiuuuuuuu p1 p2 p3 p4 p5) [vi ((p1 &&& (2147483647 : Int32)) % (5 : Int32))] _
    rw [H5]
    show OS p e below s₁ m 6 (L_iiiiiuuuuuuu p1 p2 p3 p4 p5) [vi 4] _
    refine own_b X0 hx hby tb0 2 [] 9 (L_iiiiiiuuuuuu p1 p2 p3 p4 p5 4) [vi p2] rfl ?_
    refine st6 _ ?_
    refine own_b X6 hx hby tb0 2 [] 15 (L_iiiiiiiuuuuu p1 p2 p3 p4 p5 4 (va3 p2)) [vi p3] rfl ?_
    refine st7 _ ?_
    refine own_b X7 hx hby tb0 2 [] 21 (L_iiiiiiiiuuuu p1 p2 p3 p4 p5 4 (va3 p2) (va3 p3)) [vi p4] rfl ?_
    refine st8 _ ?_
    refine own_b X8 hx hby tb0 2 [] 28 (L_iiiiiiiiiuuu p1 p2 p3 p4 p5 4 (va3 p2) (va3 p3) (va3 p4)) [vi p5] rfl ?_
    refine st9 _ ?_
    refine own_b X9 hx hby tb0 6 [] 43 (L_iiiiiiiiiiuu p1 p2 p3 p4 p5 4 (va3 p2) (va3 p3) (va3 p4) (va3 p5)) [vi (va3 p5), vi (va3 p4), vi (va3 p3), vi (va3 p2), vi 4] rfl ?_
    refine st10 _ ?_
    refine own_b X10 hx hby tb0 5 [false] 57 (L_iiiiiiiiiiru p1 p2 p3 p4 p5 4 (va3 p2) (va3 p3) (va3 p4) (va3 p5) b11) [vi 42, vi (va3 p2)] (ai (by decide) rfl) ?_
    suffices j13 : OS p e below T10 m 104 (L_iiiiiiiiiiru p1 p2 p3 p4 p5 4 (va3 p2) (va3 p3) (va3 p4) (va3 p5) b11) [vi (va37 p2 p3 p4 p5)] (T15.setFrames fs) by
      by_cases j13_1 : (va3 p2) = (42 : Int32)
      ·
        refine own_b X10 hx hby tb0 3 [true] 104 _ [vi 1] (ai (teq j13_1).1 rfl) ?_
        exact os_eq (by simp only [va37, if_pos j13_1]) j13
      ·
        refine own_b X10 hx hby tb0 6 [false, false] 70 _ [vi 42, vi (va3 p3)] (ai (feq j13_1).1 (ai (by decide) rfl)) ?_
        by_cases j13_2 : (va3 p3) = (42 : Int32)
        ·
          refine own_b X10 hx hby tb0 3 [true] 104 _ [vi 1] (ai (teq j13_2).1 rfl) ?_
          exact os_eq (by simp only [va37, if_neg j13_1, if_pos j13_2]) j13
        ·
          refine own_b X10 hx hby tb0 6 [false, false] 83 _ [vi 42, vi (va3 p4)] (ai (feq j13_2).1 (ai (by decide) rfl)) ?_
          by_cases j13_3 : (va3 p4) = (42 : Int32)
          ·
            refine own_b X10 hx hby tb0 3 [true] 104 _ [vi 1] (ai (teq j13_3).1 rfl) ?_
            exact os_eq (by simp only [va37, if_neg j13_1, if_neg j13_2, if_pos j13_3]) j13
          ·
            refine own_b X10 hx hby tb0 6 [false, false] 96 _ [vi 42, vi (va3 p5)] (ai (feq j13_3).1 (ai (by decide) rfl)) ?_
            by_cases j13_4 : (va3 p5) = (42 : Int32)
            ·
              refine own_b X10 hx hby tb0 3 [false] 104 _ [vi 1] (ai (teq j13_4).2 rfl) ?_
              exact os_eq (by simp only [va37, if_neg j13_1, if_neg j13_2, if_neg j13_3, if_pos j13_4]) j13
            ·
              refine own_b X10 hx hby tb0 2 [true] 104 _ [vi 0] (ai (feq j13_4).2 rfl) ?_
              exact os_eq (by simp only [va37, if_neg j13_1, if_neg j13_2, if_neg j13_3, if_neg j13_4]) j13
    refine own_b X10 hx hby tb0 2 [] 108 (L_iiiiiiiiiiri p1 p2 p3 p4 p5 4 (va3 p2) (va3 p3) (va3 p4) (va3 p5) b11 (va37 p2 p3 p4 p5)) [vr b11] rfl ?_
    refine st15 _ ?_
    refine own_b X15 hx hby tb0 1 [] 113 _ [vi (va37 p2 p3 p4 p5), vi (va42 ((va4 (nar .char (va3 p2))).toInt8.toInt32) ((va5 (nar .char (va3 p2))).toInt8.toInt32) ((va4 (nar .char (va3 p4))).toInt8.toInt32) ((va5 (nar .char (va3 p4))).toInt8.toInt32) ((va4 (nar .char (va3 p5))).toInt8.toInt32) ((va5 (nar .char (va3 p5))).toInt8.toInt32))] rfl ?_
    suffices j16 : OS p e below T15 m 121 (L_iiiiiiiiiiri p1 p2 p3 p4 p5 4 (va3 p2) (va3 p3) (va3 p4) (va3 p5) b11 (va37 p2 p3 p4 p5)) [vi (va43 p2 p4 p5 p3)] (T15.setFrames fs) by
      by_cases j16_1 : (va42 ((va4 (nar .char (va3 p2))).toInt8.toInt32) ((va5 (nar .char (va3 p2))).toInt8.toInt32) ((va4 (nar .char (va3 p4))).toInt8.toInt32) ((va5 (nar .char (va3 p4))).toInt8.toInt32) ((va4 (nar .char (va3 p5))).toInt8.toInt32) ((va5 (nar .char (va3 p5))).toInt8.toInt32)) = (va37 p2 p3 p4 p5)
      ·
        refine own_b X15 hx hby tb0 3 [false] 121 _ [vi 1] (ai (teq j16_1).2 rfl) ?_
        exact os_eq (by simp only [va43, if_pos j16_1]) j16
      ·
        refine own_b X15 hx hby tb0 2 [true] 121 _ [vi 0] (ai (feq j16_1).2 rfl) ?_
        exact os_eq (by simp only [va43, if_neg j16_1]) j16
    show OS p e below T15 m 121 (L_iiiiiiiiiiri p1 p2 p3 p4 p5 4 (va3 p2) (va3 p3) (va3 p4) (va3 p5) b11 (va37 p2 p3 p4 p5)) [vi (va43 p2 p4 p5 p3)] _
    exact retN X15 hx (t := .boolean) hret (by simp) (hb hby at_121) hr
  · show Q0 h0 n0 _ T15.heap _
    rw [e15q]
    exact ⟨(congrArg (fun z => some (Value.int z)) H11), N15⟩
theorem rm0_12 (hw : OW Z a0) (p1 : Int32) (p2 : Int32) (p3 : Int32) (p4 : Int32) (p5 : Int32) (p90 : Int32) (rv0 : Value) (Z0 : n0 ≤ h0.size) (Sp0 : ab1 Z (.int p90)) (Sp1 : Old Z n0 h0) (Sp2 : ab2 Z (.int (1 : Int32))) (Sp3 : ab3 Z (.int (0 : Int32))) (Sp4 : ab4 Z (.int (8 : Int32))) (Sp5 : ab5 Z rv0) (Sp6 : rv0.isRef = true) (Sp7 : ¬ (p90 = (0 : Int32))) (H1 : ¬ (((p1 &&& (2147483647 : Int32)) % (5 : Int32)) = (0 : Int32))) (H2 : ¬ (((p1 &&& (2147483647 : Int32)) % (5 : Int32)) = (1 : Int32))) (H3 : ¬ (((p1 &&& (2147483647 : Int32)) % (5 : Int32)) = (2 : Int32))) (H4 : ¬ (((p1 &&& (2147483647 : Int32)) % (5 : Int32)) = (3 : Int32))) (H5 : ((p1 &&& (2147483647 : Int32)) % (5 : Int32)) = (4 : Int32)) (H6 : ¬ (p90 = (0 : Int32))) (H7 : ¬ ((255 : Int32) < (nar .char (va3 p2)))) (H8 : ¬ ((255 : Int32) < (nar .char (va3 p3)))) (H9 : (255 : Int32) < (nar .char (va3 p4))) (H10 : (255 : Int32) < (nar .char (va8 ((va4 (nar .char (va3 p4))).toInt8.toInt32) ((va5 (nar .char (va3 p4))).toInt8.toInt32)))) (H11 : ¬ ((nar .char (va8 ((va4 (nar .char (va3 p4))).toInt8.toInt32) ((va5 (nar .char (va3 p4))).toInt8.toInt32))) = (42 : Int32))) (H12 : (nar .boolean (va46 p2 p3 p5 p4)) = (1 : Int32)) :
    MC l Z ws h0 n0 p1 p2 p3 p4 p5 := by
  refine MetFree.of_bodySF (plainFor_of_name pn_0) hisR ?_
  intro p e s m args below meth c s₁ Bd hml0 hP hK
  obtain ⟨rfl, hZ, hh, hH⟩ := hP
  have hx := Bd.exec
  have hby := Bd.bytes
  have hml : c.maxLocals = 12 := hml0
  have hown : s.vm.findClass "purlin/config/NamePatternIsPatternPinLaw" = some m.cls := findClass_of_methodNamed Bd.named
  have hnm := (name_of_methodNamed Bd.named Bd.method).1
  have hret := Bd.returns
  have X0 : Stand p l e room_1 s m #[(vi p1), (vi p2), (vi p3), (vi p4), (vi p5)] below meth c s₁ [] 0 0 := Stand.of_body Bd
  have e0 : s₁.heap = h0 := by rw [← hh, Bd.state]; rfl
  have N0 := Fr.nil n0
  have pre0 : ∀ t, Steps p.tables e below (s₁.setTop (mkF m 0 #[si p1, si p2, si p3, si p4, si p5, .unset, .unset, .unset, .unset, .unset, .unset, .unset] [])) t → Steps p.tables e below (s₁.setTop (entryFrame m #[(vi p1), (vi p2), (vi p3), (vi p4), (vi p5)] maxLocals)) t := fun t k => castTop (ef0 m p1 p2 p3 p4 p5) k
  obtain ⟨T6, L6, _, X6, ⟨rfl, N6q, e6q⟩, st6⟩ := own_callS X0 hx hZ hown (cw_0 hw) (rm1_3 hw p2 Z0 ) e0 (Ls := (L_iiiiiiuuuuuu p1 p2 p3 p4 p5 4)) hml [vi p2] [] pd_0 0 (hb hby at_9)
  have N6 := Fr.app N0 N6q
  obtain ⟨T7, L7, _, X7, ⟨rfl, N7q, e7q⟩, st7⟩ := own_callS X6 hx hZ hown (cw_0 hw) (rm1_3 hw p3 Z0 ) e6q (Ls := (L_iiiiiiiuuuuu p1 p2 p3 p4 p5 4 (va3 p2))) hml [vi p3] [] pd_0 0 (hb hby at_15)
  have N7 := Fr.app N6 N7q
  obtain ⟨T8, L8, _, X8, ⟨rfl, N8q, e8q⟩, st8⟩ := own_callS X7 hx hZ hown (cw_0 hw) (rm1_3 hw p4 Z0 ) e7q (Ls := (L_iiiiiiiiuuuu p1 p2 p3 p4 p5 4 (va3 p2) (va3 p3))) hml [vi p4] [] pd_0 0 (hb hby at_21)
  have N8 := Fr.app N7 N8q
  obtain ⟨T9, L9, _, X9, ⟨rfl, N9q, e9q⟩, st9⟩ := own_callS X8 hx hZ hown (cw_0 hw) (rm1_3 hw p5 Z0 ) e8q (Ls := (L_iiiiiiiiiuuu p1 p2 p3 p4 p5 4 (va3 p2) (va3 p3) (va3 p4))) hml [vi p5] [] pd_0 0 (hb hby at_28)
  have N9 := Fr.app N8 N9q
  obtain ⟨T10, L10, _, X10, ⟨b11, b12, kk10_0, rfl, N10q, K10, qa10_0, qb10_0, qa10_1, qb10_1, qc10_0_1, f10_0, f10_1, f10_2, f10_3⟩, st10⟩ := own_callS X9 hx hZ hown (cw_16 hw) (rm2_13 hw (va3 p2) (va3 p3) (va3 p4) (va3 p5) p90 Z0 Sp0 Sp1 H6 H7 H8 H9 Sp2 Sp3 Sp4 H10) e9q (Ls := (L_iiiiiiiiiiuu p1 p2 p3 p4 p5 4 (va3 p2) (va3 p3) (va3 p4) (va3 p5))) hml [vi 4, vi (va3 p2), vi (va3 p3), vi (va3 p4), vi (va3 p5)] [] pd_3 0 (hb hby at_43)
  have N10 := Fr.app N9 N10q
  have qd10_0 := Nat.le_trans (Nat.le_refl h0.size) qb10_0
  have qd10_1 := Nat.le_trans (Nat.le_refl h0.size) qb10_1
  have F14 := (Sp1.keep K10 all0)
  obtain ⟨T15, L15, _, X15, ⟨rfl, N15q, e15q⟩, st15⟩ := own_callS X10 hx hZ hown (cw_5 hw) (rm6_35 hw b11 p90 b12 kk10_0 ((va4 (nar .char (va3 p2))).toInt8.toInt32) ((va5 (nar .char (va3 p2))).toInt8.toInt32) ((va4 (nar .char (va3 p3))).toInt8.toInt32) ((va5 (nar .char (va3 p3))).toInt8.toInt32) ((va4 (nar .char (va3 p4))).toInt8.toInt32) ((va5 (nar .char (va3 p4))).toInt8.toInt32) ((va4 (nar .char (va3 p5))).toInt8.toInt32) ((va5 (nar .char (va3 p5))).toInt8.toInt32) rv0 (Nat.le_trans Z0 K10.1) f10_0 Sp0 F14 H6 f10_1 f10_2 f10_3 Sp5 Sp6 Sp2 Sp3 Sp4 H11) rfl (Ls := (L_iiiiiiiiiiri p1 p2 p3 p4 p5 4 (va3 p2) (va3 p3) (va3 p4) (va3 p5) b11 (va37 p2 p3 p4 p5))) hml [vr b11] [] pd_11 0 (hb hby at_108)
  have N15 := Fr.app N10 N15q
  obtain ⟨fs, hr, hrun, hended, hW, hsame⟩ := X15.leave (v := some (vi (nar .boolean (va46 p2 p3 p5 p4)))) (fun h => by rw [hret] at h; cases h)
  refine ⟨_, _, pre0 _ ?_, hrun, hended, _, _, rfl, ?_, ⟨_, rfl⟩, hW.wide, hW.no_new_pair _, hsame.mono (by decide) (by decide)⟩
  · refine own_b X0 hx hby tb0 1 [] 1 _ [vi p1] rfl ?_
    refine X0.ldcInt hx hown (mvT hZ (tw_0 hw)) (g := (mkF m 1 (L_iiiiiuuuuuuu p1 p2 p3 p4 p5) [vi p1])) rfl (hb hby at_1) _ ?_
    show OS p e below s₁ m 3 (L_iiiiiuuuuuuu p1 p2 p3 p4 p5) [vi 2147483647, vi p1] _
    refine own_b X0 hx hby tb0 2 [] 5 _ [vi 5, vi (p1 &&& (2147483647 : Int32))] rfl ?_
    refine iremM X0 hx (g := (mkF m 5 (L_iiiiiuuuuuuu p1 p2 p3 p4 p5) [vi 5, vi (p1 &&& (2147483647 : Int32))])) rfl (hb hby at_5) rfl (by decide) ?_
    show OS p e below s₁ m 6 (L_iiiiiuuuuuuu p1 p2 p3 p4 p5) [vi ((p1 &&& (2147483647 : Int32)) % (5 : Int32))] _
    rw [H5]
    show OS p e below s₁ m 6 (L_iiiiiuuuuuuu p1 p2 p3 p4 p5) [vi 4] _
    refine own_b X0 hx hby tb0 2 [] 9 (L_iiiiiiuuuuuu p1 p2 p3 p4 p5 4) [vi p2] rfl ?_
    refine st6 _ ?_
    refine own_b X6 hx hby tb0 2 [] 15 (L_iiiiiiiuuuuu p1 p2 p3 p4 p5 4 (va3 p2)) [vi p3] rfl ?_
    refine st7 _ ?_
    refine own_b X7 hx hby tb0 2 [] 21 (L_iiiiiiiiuuuu p1 p2 p3 p4 p5 4 (va3 p2) (va3 p3)) [vi p4] rfl ?_
    refine st8 _ ?_
    refine own_b X8 hx hby tb0 2 [] 28 (L_iiiiiiiiiuuu p1 p2 p3 p4 p5 4 (va3 p2) (va3 p3) (va3 p4)) [vi p5] rfl ?_
    refine st9 _ ?_
    refine own_b X9 hx hby tb0 6 [] 43 (L_iiiiiiiiiiuu p1 p2 p3 p4 p5 4 (va3 p2) (va3 p3) (va3 p4) (va3 p5)) [vi (va3 p5), vi (va3 p4), vi (va3 p3), vi (va3 p2), vi 4] rfl ?_
    refine st10 _ ?_
    refine own_b X10 hx hby tb0 5 [false] 57 (L_iiiiiiiiiiru p1 p2 p3 p4 p5 4 (va3 p2) (va3 p3) (va3 p4) (va3 p5) b11) [vi 42, vi (va3 p2)] (ai (by decide) rfl) ?_
    suffices j13 : OS p e below T10 m 104 (L_iiiiiiiiiiru p1 p2 p3 p4 p5 4 (va3 p2) (va3 p3) (va3 p4) (va3 p5) b11) [vi (va37 p2 p3 p4 p5)] (T15.setFrames fs) by
      by_cases j13_1 : (va3 p2) = (42 : Int32)
      ·
        refine own_b X10 hx hby tb0 3 [true] 104 _ [vi 1] (ai (teq j13_1).1 rfl) ?_
        exact os_eq (by simp only [va37, if_pos j13_1]) j13
      ·
        refine own_b X10 hx hby tb0 6 [false, false] 70 _ [vi 42, vi (va3 p3)] (ai (feq j13_1).1 (ai (by decide) rfl)) ?_
        by_cases j13_2 : (va3 p3) = (42 : Int32)
        ·
          refine own_b X10 hx hby tb0 3 [true] 104 _ [vi 1] (ai (teq j13_2).1 rfl) ?_
          exact os_eq (by simp only [va37, if_neg j13_1, if_pos j13_2]) j13
        ·
          refine own_b X10 hx hby tb0 6 [false, false] 83 _ [vi 42, vi (va3 p4)] (ai (feq j13_2).1 (ai (by decide) rfl)) ?_
          by_cases j13_3 : (va3 p4) = (42 : Int32)
          ·
            refine own_b X10 hx hby tb0 3 [true] 104 _ [vi 1] (ai (teq j13_3).1 rfl) ?_
            exact os_eq (by simp only [va37, if_neg j13_1, if_neg j13_2, if_pos j13_3]) j13
          ·
            refine own_b X10 hx hby tb0 6 [false, false] 96 _ [vi 42, vi (va3 p5)] (ai (feq j13_3).1 (ai (by decide) rfl)) ?_
            by_cases j13_4 : (va3 p5) = (42 : Int32)
            ·
              refine own_b X10 hx hby tb0 3 [false] 104 _ [vi 1] (ai (teq j13_4).2 rfl) ?_
              exact os_eq (by simp only [va37, if_neg j13_1, if_neg j13_2, if_neg j13_3, if_pos j13_4]) j13
            ·
              refine own_b X10 hx hby tb0 2 [true] 104 _ [vi 0] (ai (feq j13_4).2 rfl) ?_
              exact os_eq (by simp only [va37, if_neg j13_1, if_neg j13_2, if_neg j13_3, if_neg j13_4]) j13
    refine own_b X10 hx hby tb0 2 [] 108 (L_iiiiiiiiiiri p1 p2 p3 p4 p5 4 (va3 p2) (va3 p3) (va3 p4) (va3 p5) b11 (va37 p2 p3 p4 p5)) [vr b11] rfl ?_
    refine st15 _ ?_
    refine own_b X15 hx hby tb0 1 [] 113 _ [vi (va37 p2 p3 p4 p5), vi (va45 ((va4 (nar .char (va3 p2))).toInt8.toInt32) ((va5 (nar .char (va3 p2))).toInt8.toInt32) ((va4 (nar .char (va3 p3))).toInt8.toInt32) ((va5 (nar .char (va3 p3))).toInt8.toInt32) ((va4 (nar .char (va3 p5))).toInt8.toInt32) ((va5 (nar .char (va3 p5))).toInt8.toInt32))] rfl ?_
    suffices j16 : OS p e below T15 m 121 (L_iiiiiiiiiiri p1 p2 p3 p4 p5 4 (va3 p2) (va3 p3) (va3 p4) (va3 p5) b11 (va37 p2 p3 p4 p5)) [vi (va46 p2 p3 p5 p4)] (T15.setFrames fs) by
      by_cases j16_1 : (va45 ((va4 (nar .char (va3 p2))).toInt8.toInt32) ((va5 (nar .char (va3 p2))).toInt8.toInt32) ((va4 (nar .char (va3 p3))).toInt8.toInt32) ((va5 (nar .char (va3 p3))).toInt8.toInt32) ((va4 (nar .char (va3 p5))).toInt8.toInt32) ((va5 (nar .char (va3 p5))).toInt8.toInt32)) = (va37 p2 p3 p4 p5)
      ·
        refine own_b X15 hx hby tb0 3 [false] 121 _ [vi 1] (ai (teq j16_1).2 rfl) ?_
        exact os_eq (by simp only [va46, if_pos j16_1]) j16
      ·
        refine own_b X15 hx hby tb0 2 [true] 121 _ [vi 0] (ai (feq j16_1).2 rfl) ?_
        exact os_eq (by simp only [va46, if_neg j16_1]) j16
    show OS p e below T15 m 121 (L_iiiiiiiiiiri p1 p2 p3 p4 p5 4 (va3 p2) (va3 p3) (va3 p4) (va3 p5) b11 (va37 p2 p3 p4 p5)) [vi (va46 p2 p3 p5 p4)] _
    exact retN X15 hx (t := .boolean) hret (by simp) (hb hby at_121) hr
  · show Q0 h0 n0 _ T15.heap _
    rw [e15q]
    exact ⟨(congrArg (fun z => some (Value.int z)) H12), N15⟩
theorem rm0_13 (hw : OW Z a0) (p1 : Int32) (p2 : Int32) (p3 : Int32) (p4 : Int32) (p5 : Int32) (p90 : Int32) (rv0 : Value) (Z0 : n0 ≤ h0.size) (Sp0 : ab1 Z (.int p90)) (Sp1 : Old Z n0 h0) (Sp2 : ab2 Z (.int (1 : Int32))) (Sp3 : ab3 Z (.int (0 : Int32))) (Sp4 : ab4 Z (.int (8 : Int32))) (Sp5 : ab5 Z rv0) (Sp6 : rv0.isRef = true) (Sp7 : ¬ (p90 = (0 : Int32))) (H1 : ¬ (((p1 &&& (2147483647 : Int32)) % (5 : Int32)) = (0 : Int32))) (H2 : ¬ (((p1 &&& (2147483647 : Int32)) % (5 : Int32)) = (1 : Int32))) (H3 : ¬ (((p1 &&& (2147483647 : Int32)) % (5 : Int32)) = (2 : Int32))) (H4 : ¬ (((p1 &&& (2147483647 : Int32)) % (5 : Int32)) = (3 : Int32))) (H5 : ((p1 &&& (2147483647 : Int32)) % (5 : Int32)) = (4 : Int32)) (H6 : ¬ (p90 = (0 : Int32))) (H7 : ¬ ((255 : Int32) < (nar .char (va3 p2)))) (H8 : ¬ ((255 : Int32) < (nar .char (va3 p3)))) (H9 : ¬ ((255 : Int32) < (nar .char (va3 p4)))) (H10 : (255 : Int32) < (nar .char (va3 p5))) (H11 : (255 : Int32) < (nar .char (va8 ((va4 (nar .char (va3 p5))).toInt8.toInt32) ((va5 (nar .char (va3 p5))).toInt8.toInt32)))) (H12 : ¬ ((nar .char (va8 ((va4 (nar .char (va3 p5))).toInt8.toInt32) ((va5 (nar .char (va3 p5))).toInt8.toInt32))) = (42 : Int32))) (H13 : (nar .boolean (va49 p2 p3 p4 p5)) = (1 : Int32)) :
    MC l Z ws h0 n0 p1 p2 p3 p4 p5 := by
  refine MetFree.of_bodySF (plainFor_of_name pn_0) hisR ?_
  intro p e s m args below meth c s₁ Bd hml0 hP hK
  obtain ⟨rfl, hZ, hh, hH⟩ := hP
  have hx := Bd.exec
  have hby := Bd.bytes
  have hml : c.maxLocals = 12 := hml0
  have hown : s.vm.findClass "purlin/config/NamePatternIsPatternPinLaw" = some m.cls := findClass_of_methodNamed Bd.named
  have hnm := (name_of_methodNamed Bd.named Bd.method).1
  have hret := Bd.returns
  have X0 : Stand p l e room_1 s m #[(vi p1), (vi p2), (vi p3), (vi p4), (vi p5)] below meth c s₁ [] 0 0 := Stand.of_body Bd
  have e0 : s₁.heap = h0 := by rw [← hh, Bd.state]; rfl
  have N0 := Fr.nil n0
  have pre0 : ∀ t, Steps p.tables e below (s₁.setTop (mkF m 0 #[si p1, si p2, si p3, si p4, si p5, .unset, .unset, .unset, .unset, .unset, .unset, .unset] [])) t → Steps p.tables e below (s₁.setTop (entryFrame m #[(vi p1), (vi p2), (vi p3), (vi p4), (vi p5)] maxLocals)) t := fun t k => castTop (ef0 m p1 p2 p3 p4 p5) k
  obtain ⟨T6, L6, _, X6, ⟨rfl, N6q, e6q⟩, st6⟩ := own_callS X0 hx hZ hown (cw_0 hw) (rm1_3 hw p2 Z0 ) e0 (Ls := (L_iiiiiiuuuuuu p1 p2 p3 p4 p5 4)) hml [vi p2] [] pd_0 0 (hb hby at_9)
  have N6 := Fr.app N0 N6q
  obtain ⟨T7, L7, _, X7, ⟨rfl, N7q, e7q⟩, st7⟩ := own_callS X6 hx hZ hown (cw_0 hw) (rm1_3 hw p3 Z0 ) e6q (Ls := (L_iiiiiiiuuuuu p1 p2 p3 p4 p5 4 (va3 p2))) hml [vi p3] [] pd_0 0 (hb hby at_15)
  have N7 := Fr.app N6 N7q
  obtain ⟨T8, L8, _, X8, ⟨rfl, N8q, e8q⟩, st8⟩ := own_callS X7 hx hZ hown (cw_0 hw) (rm1_3 hw p4 Z0 ) e7q (Ls := (L_iiiiiiiiuuuu p1 p2 p3 p4 p5 4 (va3 p2) (va3 p3))) hml [vi p4] [] pd_0 0 (hb hby at_21)
  have N8 := Fr.app N7 N8q
  obtain ⟨T9, L9, _, X9, ⟨rfl, N9q, e9q⟩, st9⟩ := own_callS X8 hx hZ hown (cw_0 hw) (rm1_3 hw p5 Z0 ) e8q (Ls := (L_iiiiiiiiiuuu p1 p2 p3 p4 p5 4 (va3 p2) (va3 p3) (va3 p4))) hml [vi p5] [] pd_0 0 (hb hby at_28)
  have N9 := Fr.app N8 N9q
  obtain ⟨T10, L10, _, X10, ⟨b11, b12, kk10_0, rfl, N10q, K10, qa10_0, qb10_0, qa10_1, qb10_1, qc10_0_1, f10_0, f10_1, f10_2, f10_3⟩, st10⟩ := own_callS X9 hx hZ hown (cw_16 hw) (rm2_14 hw (va3 p2) (va3 p3) (va3 p4) (va3 p5) p90 Z0 Sp0 Sp1 H6 H7 H8 H9 H10 Sp2 Sp3 Sp4 H11) e9q (Ls := (L_iiiiiiiiiiuu p1 p2 p3 p4 p5 4 (va3 p2) (va3 p3) (va3 p4) (va3 p5))) hml [vi 4, vi (va3 p2), vi (va3 p3), vi (va3 p4), vi (va3 p5)] [] pd_3 0 (hb hby at_43)
  have N10 := Fr.app N9 N10q
  have qd10_0 := Nat.le_trans (Nat.le_refl h0.size) qb10_0
  have qd10_1 := Nat.le_trans (Nat.le_refl h0.size) qb10_1
  have F14 := (Sp1.keep K10 all0)
  obtain ⟨T15, L15, _, X15, ⟨rfl, N15q, e15q⟩, st15⟩ := own_callS X10 hx hZ hown (cw_5 hw) (rm6_38 hw b11 p90 b12 kk10_0 ((va4 (nar .char (va3 p2))).toInt8.toInt32) ((va5 (nar .char (va3 p2))).toInt8.toInt32) ((va4 (nar .char (va3 p3))).toInt8.toInt32) ((va5 (nar .char (va3 p3))).toInt8.toInt32) ((va4 (nar .char (va3 p4))).toInt8.toInt32) ((va5 (nar .char (va3 p4))).toInt8.toInt32) ((va4 (nar .char (va3 p5))).toInt8.toInt32) ((va5 (nar .char (va3 p5))).toInt8.toInt32) rv0 (Nat.le_trans Z0 K10.1) f10_0 Sp0 F14 H6 f10_1 f10_2 f10_3 Sp5 Sp6 Sp2 Sp3 Sp4 H12) rfl (Ls := (L_iiiiiiiiiiri p1 p2 p3 p4 p5 4 (va3 p2) (va3 p3) (va3 p4) (va3 p5) b11 (va37 p2 p3 p4 p5))) hml [vr b11] [] pd_11 0 (hb hby at_108)
  have N15 := Fr.app N10 N15q
  obtain ⟨fs, hr, hrun, hended, hW, hsame⟩ := X15.leave (v := some (vi (nar .boolean (va49 p2 p3 p4 p5)))) (fun h => by rw [hret] at h; cases h)
  refine ⟨_, _, pre0 _ ?_, hrun, hended, _, _, rfl, ?_, ⟨_, rfl⟩, hW.wide, hW.no_new_pair _, hsame.mono (by decide) (by decide)⟩
  · refine own_b X0 hx hby tb0 1 [] 1 _ [vi p1] rfl ?_
    refine X0.ldcInt hx hown (mvT hZ (tw_0 hw)) (g := (mkF m 1 (L_iiiiiuuuuuuu p1 p2 p3 p4 p5) [vi p1])) rfl (hb hby at_1) _ ?_
    show OS p e below s₁ m 3 (L_iiiiiuuuuuuu p1 p2 p3 p4 p5) [vi 2147483647, vi p1] _
    refine own_b X0 hx hby tb0 2 [] 5 _ [vi 5, vi (p1 &&& (2147483647 : Int32))] rfl ?_
    refine iremM X0 hx (g := (mkF m 5 (L_iiiiiuuuuuuu p1 p2 p3 p4 p5) [vi 5, vi (p1 &&& (2147483647 : Int32))])) rfl (hb hby at_5) rfl (by decide) ?_
    show OS p e below s₁ m 6 (L_iiiiiuuuuuuu p1 p2 p3 p4 p5) [vi ((p1 &&& (2147483647 : Int32)) % (5 : Int32))] _
    rw [H5]
    show OS p e below s₁ m 6 (L_iiiiiuuuuuuu p1 p2 p3 p4 p5) [vi 4] _
    refine own_b X0 hx hby tb0 2 [] 9 (L_iiiiiiuuuuuu p1 p2 p3 p4 p5 4) [vi p2] rfl ?_
    refine st6 _ ?_
    refine own_b X6 hx hby tb0 2 [] 15 (L_iiiiiiiuuuuu p1 p2 p3 p4 p5 4 (va3 p2)) [vi p3] rfl ?_
    refine st7 _ ?_
    refine own_b X7 hx hby tb0 2 [] 21 (L_iiiiiiiiuuuu p1 p2 p3 p4 p5 4 (va3 p2) (va3 p3)) [vi p4] rfl ?_
    refine st8 _ ?_
    refine own_b X8 hx hby tb0 2 [] 28 (L_iiiiiiiiiuuu p1 p2 p3 p4 p5 4 (va3 p2) (va3 p3) (va3 p4)) [vi p5] rfl ?_
    refine st9 _ ?_
    refine own_b X9 hx hby tb0 6 [] 43 (L_iiiiiiiiiiuu p1 p2 p3 p4 p5 4 (va3 p2) (va3 p3) (va3 p4) (va3 p5)) [vi (va3 p5), vi (va3 p4), vi (va3 p3), vi (va3 p2), vi 4] rfl ?_
    refine st10 _ ?_
    refine own_b X10 hx hby tb0 5 [false] 57 (L_iiiiiiiiiiru p1 p2 p3 p4 p5 4 (va3 p2) (va3 p3) (va3 p4) (va3 p5) b11) [vi 42, vi (va3 p2)] (ai (by decide) rfl) ?_
    suffices j13 : OS p e below T10 m 104 (L_iiiiiiiiiiru p1 p2 p3 p4 p5 4 (va3 p2) (va3 p3) (va3 p4) (va3 p5) b11) [vi (va37 p2 p3 p4 p5)] (T15.setFrames fs) by
      by_cases j13_1 : (va3 p2) = (42 : Int32)
      ·
        refine own_b X10 hx hby tb0 3 [true] 104 _ [vi 1] (ai (teq j13_1).1 rfl) ?_
        exact os_eq (by simp only [va37, if_pos j13_1]) j13
      ·
        refine own_b X10 hx hby tb0 6 [false, false] 70 _ [vi 42, vi (va3 p3)] (ai (feq j13_1).1 (ai (by decide) rfl)) ?_
        by_cases j13_2 : (va3 p3) = (42 : Int32)
        ·
          refine own_b X10 hx hby tb0 3 [true] 104 _ [vi 1] (ai (teq j13_2).1 rfl) ?_
          exact os_eq (by simp only [va37, if_neg j13_1, if_pos j13_2]) j13
        ·
          refine own_b X10 hx hby tb0 6 [false, false] 83 _ [vi 42, vi (va3 p4)] (ai (feq j13_2).1 (ai (by decide) rfl)) ?_
          by_cases j13_3 : (va3 p4) = (42 : Int32)
          ·
            refine own_b X10 hx hby tb0 3 [true] 104 _ [vi 1] (ai (teq j13_3).1 rfl) ?_
            exact os_eq (by simp only [va37, if_neg j13_1, if_neg j13_2, if_pos j13_3]) j13
          ·
            refine own_b X10 hx hby tb0 6 [false, false] 96 _ [vi 42, vi (va3 p5)] (ai (feq j13_3).1 (ai (by decide) rfl)) ?_
            by_cases j13_4 : (va3 p5) = (42 : Int32)
            ·
              refine own_b X10 hx hby tb0 3 [false] 104 _ [vi 1] (ai (teq j13_4).2 rfl) ?_
              exact os_eq (by simp only [va37, if_neg j13_1, if_neg j13_2, if_neg j13_3, if_pos j13_4]) j13
            ·
              refine own_b X10 hx hby tb0 2 [true] 104 _ [vi 0] (ai (feq j13_4).2 rfl) ?_
              exact os_eq (by simp only [va37, if_neg j13_1, if_neg j13_2, if_neg j13_3, if_neg j13_4]) j13
    refine own_b X10 hx hby tb0 2 [] 108 (L_iiiiiiiiiiri p1 p2 p3 p4 p5 4 (va3 p2) (va3 p3) (va3 p4) (va3 p5) b11 (va37 p2 p3 p4 p5)) [vr b11] rfl ?_
    refine st15 _ ?_
    refine own_b X15 hx hby tb0 1 [] 113 _ [vi (va37 p2 p3 p4 p5), vi (va48 ((va4 (nar .char (va3 p2))).toInt8.toInt32) ((va5 (nar .char (va3 p2))).toInt8.toInt32) ((va4 (nar .char (va3 p3))).toInt8.toInt32) ((va5 (nar .char (va3 p3))).toInt8.toInt32) ((va4 (nar .char (va3 p4))).toInt8.toInt32) ((va5 (nar .char (va3 p4))).toInt8.toInt32))] rfl ?_
    suffices j16 : OS p e below T15 m 121 (L_iiiiiiiiiiri p1 p2 p3 p4 p5 4 (va3 p2) (va3 p3) (va3 p4) (va3 p5) b11 (va37 p2 p3 p4 p5)) [vi (va49 p2 p3 p4 p5)] (T15.setFrames fs) by
      by_cases j16_1 : (va48 ((va4 (nar .char (va3 p2))).toInt8.toInt32) ((va5 (nar .char (va3 p2))).toInt8.toInt32) ((va4 (nar .char (va3 p3))).toInt8.toInt32) ((va5 (nar .char (va3 p3))).toInt8.toInt32) ((va4 (nar .char (va3 p4))).toInt8.toInt32) ((va5 (nar .char (va3 p4))).toInt8.toInt32)) = (va37 p2 p3 p4 p5)
      ·
        refine own_b X15 hx hby tb0 3 [false] 121 _ [vi 1] (ai (teq j16_1).2 rfl) ?_
        exact os_eq (by simp only [va49, if_pos j16_1]) j16
      ·
        refine own_b X15 hx hby tb0 2 [true] 121 _ [vi 0] (ai (feq j16_1).2 rfl) ?_
        exact os_eq (by simp only [va49, if_neg j16_1]) j16
    show OS p e below T15 m 121 (L_iiiiiiiiiiri p1 p2 p3 p4 p5 4 (va3 p2) (va3 p3) (va3 p4) (va3 p5) b11 (va37 p2 p3 p4 p5)) [vi (va49 p2 p3 p4 p5)] _
    exact retN X15 hx (t := .boolean) hret (by simp) (hb hby at_121) hr
  · show Q0 h0 n0 _ T15.heap _
    rw [e15q]
    exact ⟨(congrArg (fun z => some (Value.int z)) H13), N15⟩
theorem rm0_14 (hw : OW Z a0) (p1 : Int32) (p2 : Int32) (p3 : Int32) (p4 : Int32) (p5 : Int32) (p90 : Int32) (rv0 : Value) (Z0 : n0 ≤ h0.size) (Sp0 : ab1 Z (.int p90)) (Sp1 : Old Z n0 h0) (Sp2 : ab2 Z (.int (1 : Int32))) (Sp3 : ab3 Z (.int (0 : Int32))) (Sp4 : ab4 Z (.int (8 : Int32))) (Sp5 : ab5 Z rv0) (Sp6 : rv0.isRef = true) (Sp7 : ¬ (p90 = (0 : Int32))) (H1 : ¬ (((p1 &&& (2147483647 : Int32)) % (5 : Int32)) = (0 : Int32))) (H2 : ¬ (((p1 &&& (2147483647 : Int32)) % (5 : Int32)) = (1 : Int32))) (H3 : ¬ (((p1 &&& (2147483647 : Int32)) % (5 : Int32)) = (2 : Int32))) (H4 : ¬ (((p1 &&& (2147483647 : Int32)) % (5 : Int32)) = (3 : Int32))) (H5 : ((p1 &&& (2147483647 : Int32)) % (5 : Int32)) = (4 : Int32)) (H6 : ¬ (p90 = (0 : Int32))) (H7 : ¬ ((255 : Int32) < (nar .char (va3 p2)))) (H8 : ¬ ((255 : Int32) < (nar .char (va3 p3)))) (H9 : ¬ ((255 : Int32) < (nar .char (va3 p4)))) (H10 : ¬ ((255 : Int32) < (nar .char (va3 p5)))) (H11 : (nar .boolean (va52 p2 p3 p4 p5)) = (1 : Int32)) :
    MC l Z ws h0 n0 p1 p2 p3 p4 p5 := by
  refine MetFree.of_bodySF (plainFor_of_name pn_0) hisR ?_
  intro p e s m args below meth c s₁ Bd hml0 hP hK
  obtain ⟨rfl, hZ, hh, hH⟩ := hP
  have hx := Bd.exec
  have hby := Bd.bytes
  have hml : c.maxLocals = 12 := hml0
  have hown : s.vm.findClass "purlin/config/NamePatternIsPatternPinLaw" = some m.cls := findClass_of_methodNamed Bd.named
  have hnm := (name_of_methodNamed Bd.named Bd.method).1
  have hret := Bd.returns
  have X0 : Stand p l e room_1 s m #[(vi p1), (vi p2), (vi p3), (vi p4), (vi p5)] below meth c s₁ [] 0 0 := Stand.of_body Bd
  have e0 : s₁.heap = h0 := by rw [← hh, Bd.state]; rfl
  have N0 := Fr.nil n0
  have pre0 : ∀ t, Steps p.tables e below (s₁.setTop (mkF m 0 #[si p1, si p2, si p3, si p4, si p5, .unset, .unset, .unset, .unset, .unset, .unset, .unset] [])) t → Steps p.tables e below (s₁.setTop (entryFrame m #[(vi p1), (vi p2), (vi p3), (vi p4), (vi p5)] maxLocals)) t := fun t k => castTop (ef0 m p1 p2 p3 p4 p5) k
  obtain ⟨T6, L6, _, X6, ⟨rfl, N6q, e6q⟩, st6⟩ := own_callS X0 hx hZ hown (cw_0 hw) (rm1_3 hw p2 Z0 ) e0 (Ls := (L_iiiiiiuuuuuu p1 p2 p3 p4 p5 4)) hml [vi p2] [] pd_0 0 (hb hby at_9)
  have N6 := Fr.app N0 N6q
  obtain ⟨T7, L7, _, X7, ⟨rfl, N7q, e7q⟩, st7⟩ := own_callS X6 hx hZ hown (cw_0 hw) (rm1_3 hw p3 Z0 ) e6q (Ls := (L_iiiiiiiuuuuu p1 p2 p3 p4 p5 4 (va3 p2))) hml [vi p3] [] pd_0 0 (hb hby at_15)
  have N7 := Fr.app N6 N7q
  obtain ⟨T8, L8, _, X8, ⟨rfl, N8q, e8q⟩, st8⟩ := own_callS X7 hx hZ hown (cw_0 hw) (rm1_3 hw p4 Z0 ) e7q (Ls := (L_iiiiiiiiuuuu p1 p2 p3 p4 p5 4 (va3 p2) (va3 p3))) hml [vi p4] [] pd_0 0 (hb hby at_21)
  have N8 := Fr.app N7 N8q
  obtain ⟨T9, L9, _, X9, ⟨rfl, N9q, e9q⟩, st9⟩ := own_callS X8 hx hZ hown (cw_0 hw) (rm1_3 hw p5 Z0 ) e8q (Ls := (L_iiiiiiiiiuuu p1 p2 p3 p4 p5 4 (va3 p2) (va3 p3) (va3 p4))) hml [vi p5] [] pd_0 0 (hb hby at_28)
  have N9 := Fr.app N8 N9q
  obtain ⟨T10, L10, _, X10, ⟨b11, b12, kk10_0, rfl, N10q, K10, qa10_0, qb10_0, qa10_1, qb10_1, qc10_0_1, f10_0, f10_1, f10_2, f10_3⟩, st10⟩ := own_callS X9 hx hZ hown (cw_16 hw) (rm2_15 hw (va3 p2) (va3 p3) (va3 p4) (va3 p5) p90 Z0 Sp0 Sp1 H6 H7 H8 H9 H10) e9q (Ls := (L_iiiiiiiiiiuu p1 p2 p3 p4 p5 4 (va3 p2) (va3 p3) (va3 p4) (va3 p5))) hml [vi 4, vi (va3 p2), vi (va3 p3), vi (va3 p4), vi (va3 p5)] [] pd_3 0 (hb hby at_43)
  have N10 := Fr.app N9 N10q
  have qd10_0 := Nat.le_trans (Nat.le_refl h0.size) qb10_0
  have qd10_1 := Nat.le_trans (Nat.le_refl h0.size) qb10_1
  have F14 := (Sp1.keep K10 all0)
  obtain ⟨T15, L15, _, X15, ⟨rfl, N15q, e15q⟩, st15⟩ := own_callS X10 hx hZ hown (cw_5 hw) (rm6_41 hw b11 p90 b12 kk10_0 (((nar .char (va3 p2)).toInt8.toInt32).toInt8.toInt32) (((nar .char (va3 p3)).toInt8.toInt32).toInt8.toInt32) (((nar .char (va3 p4)).toInt8.toInt32).toInt8.toInt32) (((nar .char (va3 p5)).toInt8.toInt32).toInt8.toInt32) (Nat.le_trans Z0 K10.1) f10_0 Sp0 F14 H6 f10_1 f10_2 f10_3) rfl (Ls := (L_iiiiiiiiiiri p1 p2 p3 p4 p5 4 (va3 p2) (va3 p3) (va3 p4) (va3 p5) b11 (va37 p2 p3 p4 p5))) hml [vr b11] [] pd_11 0 (hb hby at_108)
  have N15 := Fr.app N10 N15q
  obtain ⟨fs, hr, hrun, hended, hW, hsame⟩ := X15.leave (v := some (vi (nar .boolean (va52 p2 p3 p4 p5)))) (fun h => by rw [hret] at h; cases h)
  refine ⟨_, _, pre0 _ ?_, hrun, hended, _, _, rfl, ?_, ⟨_, rfl⟩, hW.wide, hW.no_new_pair _, hsame.mono (by decide) (by decide)⟩
  · refine own_b X0 hx hby tb0 1 [] 1 _ [vi p1] rfl ?_
    refine X0.ldcInt hx hown (mvT hZ (tw_0 hw)) (g := (mkF m 1 (L_iiiiiuuuuuuu p1 p2 p3 p4 p5) [vi p1])) rfl (hb hby at_1) _ ?_
    show OS p e below s₁ m 3 (L_iiiiiuuuuuuu p1 p2 p3 p4 p5) [vi 2147483647, vi p1] _
    refine own_b X0 hx hby tb0 2 [] 5 _ [vi 5, vi (p1 &&& (2147483647 : Int32))] rfl ?_
    refine iremM X0 hx (g := (mkF m 5 (L_iiiiiuuuuuuu p1 p2 p3 p4 p5) [vi 5, vi (p1 &&& (2147483647 : Int32))])) rfl (hb hby at_5) rfl (by decide) ?_
    show OS p e below s₁ m 6 (L_iiiiiuuuuuuu p1 p2 p3 p4 p5) [vi ((p1 &&& (2147483647 : Int32)) % (5 : Int32))] _
    rw [H5]
    show OS p e below s₁ m 6 (L_iiiiiuuuuuuu p1 p2 p3 p4 p5) [vi 4] _
    refine own_b X0 hx hby tb0 2 [] 9 (L_iiiiiiuuuuuu p1 p2 p3 p4 p5 4) [vi p2] rfl ?_
    refine st6 _ ?_
    refine own_b X6 hx hby tb0 2 [] 15 (L_iiiiiiiuuuuu p1 p2 p3 p4 p5 4 (va3 p2)) [vi p3] rfl ?_
    refine st7 _ ?_
    refine own_b X7 hx hby tb0 2 [] 21 (L_iiiiiiiiuuuu p1 p2 p3 p4 p5 4 (va3 p2) (va3 p3)) [vi p4] rfl ?_
    refine st8 _ ?_
    refine own_b X8 hx hby tb0 2 [] 28 (L_iiiiiiiiiuuu p1 p2 p3 p4 p5 4 (va3 p2) (va3 p3) (va3 p4)) [vi p5] rfl ?_
    refine st9 _ ?_
    refine own_b X9 hx hby tb0 6 [] 43 (L_iiiiiiiiiiuu p1 p2 p3 p4 p5 4 (va3 p2) (va3 p3) (va3 p4) (va3 p5)) [vi (va3 p5), vi (va3 p4), vi (va3 p3), vi (va3 p2), vi 4] rfl ?_
    refine st10 _ ?_
    refine own_b X10 hx hby tb0 5 [false] 57 (L_iiiiiiiiiiru p1 p2 p3 p4 p5 4 (va3 p2) (va3 p3) (va3 p4) (va3 p5) b11) [vi 42, vi (va3 p2)] (ai (by decide) rfl) ?_
    suffices j13 : OS p e below T10 m 104 (L_iiiiiiiiiiru p1 p2 p3 p4 p5 4 (va3 p2) (va3 p3) (va3 p4) (va3 p5) b11) [vi (va37 p2 p3 p4 p5)] (T15.setFrames fs) by
      by_cases j13_1 : (va3 p2) = (42 : Int32)
      ·
        refine own_b X10 hx hby tb0 3 [true] 104 _ [vi 1] (ai (teq j13_1).1 rfl) ?_
        exact os_eq (by simp only [va37, if_pos j13_1]) j13
      ·
        refine own_b X10 hx hby tb0 6 [false, false] 70 _ [vi 42, vi (va3 p3)] (ai (feq j13_1).1 (ai (by decide) rfl)) ?_
        by_cases j13_2 : (va3 p3) = (42 : Int32)
        ·
          refine own_b X10 hx hby tb0 3 [true] 104 _ [vi 1] (ai (teq j13_2).1 rfl) ?_
          exact os_eq (by simp only [va37, if_neg j13_1, if_pos j13_2]) j13
        ·
          refine own_b X10 hx hby tb0 6 [false, false] 83 _ [vi 42, vi (va3 p4)] (ai (feq j13_2).1 (ai (by decide) rfl)) ?_
          by_cases j13_3 : (va3 p4) = (42 : Int32)
          ·
            refine own_b X10 hx hby tb0 3 [true] 104 _ [vi 1] (ai (teq j13_3).1 rfl) ?_
            exact os_eq (by simp only [va37, if_neg j13_1, if_neg j13_2, if_pos j13_3]) j13
          ·
            refine own_b X10 hx hby tb0 6 [false, false] 96 _ [vi 42, vi (va3 p5)] (ai (feq j13_3).1 (ai (by decide) rfl)) ?_
            by_cases j13_4 : (va3 p5) = (42 : Int32)
            ·
              refine own_b X10 hx hby tb0 3 [false] 104 _ [vi 1] (ai (teq j13_4).2 rfl) ?_
              exact os_eq (by simp only [va37, if_neg j13_1, if_neg j13_2, if_neg j13_3, if_pos j13_4]) j13
            ·
              refine own_b X10 hx hby tb0 2 [true] 104 _ [vi 0] (ai (feq j13_4).2 rfl) ?_
              exact os_eq (by simp only [va37, if_neg j13_1, if_neg j13_2, if_neg j13_3, if_neg j13_4]) j13
    refine own_b X10 hx hby tb0 2 [] 108 (L_iiiiiiiiiiri p1 p2 p3 p4 p5 4 (va3 p2) (va3 p3) (va3 p4) (va3 p5) b11 (va37 p2 p3 p4 p5)) [vr b11] rfl ?_
    refine st15 _ ?_
    refine own_b X15 hx hby tb0 1 [] 113 _ [vi (va37 p2 p3 p4 p5), vi (va51 (((nar .char (va3 p2)).toInt8.toInt32).toInt8.toInt32) (((nar .char (va3 p3)).toInt8.toInt32).toInt8.toInt32) (((nar .char (va3 p4)).toInt8.toInt32).toInt8.toInt32) (((nar .char (va3 p5)).toInt8.toInt32).toInt8.toInt32))] rfl ?_
    suffices j16 : OS p e below T15 m 121 (L_iiiiiiiiiiri p1 p2 p3 p4 p5 4 (va3 p2) (va3 p3) (va3 p4) (va3 p5) b11 (va37 p2 p3 p4 p5)) [vi (va52 p2 p3 p4 p5)] (T15.setFrames fs) by
      by_cases j16_1 : (va51 (((nar .char (va3 p2)).toInt8.toInt32).toInt8.toInt32) (((nar .char (va3 p3)).toInt8.toInt32).toInt8.toInt32) (((nar .char (va3 p4)).toInt8.toInt32).toInt8.toInt32) (((nar .char (va3 p5)).toInt8.toInt32).toInt8.toInt32)) = (va37 p2 p3 p4 p5)
      ·
        refine own_b X15 hx hby tb0 3 [false] 121 _ [vi 1] (ai (teq j16_1).2 rfl) ?_
        exact os_eq (by simp only [va52, if_pos j16_1]) j16
      ·
        refine own_b X15 hx hby tb0 2 [true] 121 _ [vi 0] (ai (feq j16_1).2 rfl) ?_
        exact os_eq (by simp only [va52, if_neg j16_1]) j16
    show OS p e below T15 m 121 (L_iiiiiiiiiiri p1 p2 p3 p4 p5 4 (va3 p2) (va3 p3) (va3 p4) (va3 p5) b11 (va37 p2 p3 p4 p5)) [vi (va52 p2 p3 p4 p5)] _
    exact retN X15 hx (t := .boolean) hret (by simp) (hb hby at_121) hr
  · show Q0 h0 n0 _ T15.heap _
    rw [e15q]
    exact ⟨(congrArg (fun z => some (Value.int z)) H11), N15⟩
theorem imp_1 (p2 : Int32) (h1 : (255 : Int32) < (nar .char (va3 p2))) : (255 : Int32) < (nar .char (va8 ((va4 (nar .char (va3 p2))).toInt8.toInt32) ((va5 (nar .char (va3 p2))).toInt8.toInt32))) := by
  simp only [(q_chr p2).1, q_utf p2] at *
  first | assumption | exact q_eq (by assumption)
theorem imp_2 (p2 : Int32) (h1 : (255 : Int32) < (nar .char (va3 p2))) (h2 : (255 : Int32) < (nar .char (va8 ((va4 (nar .char (va3 p2))).toInt8.toInt32) ((va5 (nar .char (va3 p2))).toInt8.toInt32)))) : ¬ ((nar .char (va8 ((va4 (nar .char (va3 p2))).toInt8.toInt32) ((va5 (nar .char (va3 p2))).toInt8.toInt32))) = (42 : Int32)) := by
  simp only [(q_chr p2).1, q_utf p2] at *
  first | assumption | exact q_eq (by assumption)
theorem imp_3 (p2 : Int32) (h1 : (255 : Int32) < (nar .char (va3 p2))) (h2 : (255 : Int32) < (nar .char (va8 ((va4 (nar .char (va3 p2))).toInt8.toInt32) ((va5 (nar .char (va3 p2))).toInt8.toInt32)))) (h3 : ¬ ((nar .char (va8 ((va4 (nar .char (va3 p2))).toInt8.toInt32) ((va5 (nar .char (va3 p2))).toInt8.toInt32))) = (42 : Int32))) : (nar .boolean (va10 p2)) = (1 : Int32) := by
  simp only [(q_chr p2).1, q_utf p2] at *
  simp only [va10, va9, (q_chr p2).1, q_utf p2]
  by_cases kp2 : va3 p2 = 42 <;> simp_all <;> decide
theorem imp_4 (p2 : Int32) (h1 : ¬ ((255 : Int32) < (nar .char (va3 p2)))) : (nar .boolean (va13 p2)) = (1 : Int32) := by
  simp only [(q_chr p2).1, q_utf p2] at *
  simp only [va13, va12, va11, va9, (q_chr p2).1, q_utf p2]
  try simp only [q_lat h1]
  by_cases kp2 : va3 p2 = 42 <;> simp_all <;> decide
theorem imp_5 (p2 : Int32) (p3 : Int32) (h1 : (255 : Int32) < (nar .char (va3 p2))) (h2 : (255 : Int32) < (nar .char (va8 ((va4 (nar .char (va3 p2))).toInt8.toInt32) ((va5 (nar .char (va3 p2))).toInt8.toInt32)))) (h3 : ¬ ((nar .char (va8 ((va4 (nar .char (va3 p2))).toInt8.toInt32) ((va5 (nar .char (va3 p2))).toInt8.toInt32))) = (42 : Int32))) : (nar .boolean (va17 p3 p2)) = (1 : Int32) := by
  simp only [(q_chr p2).1, q_utf p2, (q_chr p3).1, q_utf p3] at *
  simp only [va17, va16, va15, va14, (q_chr p2).1, q_utf p2, (q_chr p3).1, q_utf p3]
  by_cases kp2 : va3 p2 = 42 <;> by_cases kp3 : va3 p3 = 42 <;> simp_all <;> decide
theorem imp_6 (p3 : Int32) (h1 : (255 : Int32) < (nar .char (va3 p3))) : (255 : Int32) < (nar .char (va8 ((va4 (nar .char (va3 p3))).toInt8.toInt32) ((va5 (nar .char (va3 p3))).toInt8.toInt32))) := by
  simp only [(q_chr p3).1, q_utf p3] at *
  first | assumption | exact q_eq (by assumption)
theorem imp_7 (p3 : Int32) (h1 : (255 : Int32) < (nar .char (va3 p3))) (h2 : (255 : Int32) < (nar .char (va8 ((va4 (nar .char (va3 p3))).toInt8.toInt32) ((va5 (nar .char (va3 p3))).toInt8.toInt32)))) : ¬ ((nar .char (va8 ((va4 (nar .char (va3 p3))).toInt8.toInt32) ((va5 (nar .char (va3 p3))).toInt8.toInt32))) = (42 : Int32)) := by
  simp only [(q_chr p3).1, q_utf p3] at *
  first | assumption | exact q_eq (by assumption)
theorem imp_8 (p2 : Int32) (p3 : Int32) (h1 : ¬ ((255 : Int32) < (nar .char (va3 p2)))) (h2 : (255 : Int32) < (nar .char (va3 p3))) (h3 : (255 : Int32) < (nar .char (va8 ((va4 (nar .char (va3 p3))).toInt8.toInt32) ((va5 (nar .char (va3 p3))).toInt8.toInt32)))) (h4 : ¬ ((nar .char (va8 ((va4 (nar .char (va3 p3))).toInt8.toInt32) ((va5 (nar .char (va3 p3))).toInt8.toInt32))) = (42 : Int32))) : (nar .boolean (va20 p2 p3)) = (1 : Int32) := by
  simp only [(q_chr p2).1, q_utf p2, (q_chr p3).1, q_utf p3] at *
  simp only [va20, va19, va18, va14, (q_chr p2).1, q_utf p2, (q_chr p3).1, q_utf p3]
  try simp only [q_lat h1]
  by_cases kp2 : va3 p2 = 42 <;> by_cases kp3 : va3 p3 = 42 <;> simp_all <;> decide
theorem imp_9 (p2 : Int32) (p3 : Int32) (h1 : ¬ ((255 : Int32) < (nar .char (va3 p2)))) (h2 : ¬ ((255 : Int32) < (nar .char (va3 p3)))) : (nar .boolean (va23 p2 p3)) = (1 : Int32) := by
  simp only [(q_chr p2).1, q_utf p2, (q_chr p3).1, q_utf p3] at *
  simp only [va23, va22, va21, va14, (q_chr p2).1, q_utf p2, (q_chr p3).1, q_utf p3]
  try simp only [q_lat h1, q_lat h2]
  by_cases kp2 : va3 p2 = 42 <;> by_cases kp3 : va3 p3 = 42 <;> simp_all <;> decide
theorem imp_10 (p2 : Int32) (p3 : Int32) (p4 : Int32) (h1 : (255 : Int32) < (nar .char (va3 p2))) (h2 : (255 : Int32) < (nar .char (va8 ((va4 (nar .char (va3 p2))).toInt8.toInt32) ((va5 (nar .char (va3 p2))).toInt8.toInt32)))) (h3 : ¬ ((nar .char (va8 ((va4 (nar .char (va3 p2))).toInt8.toInt32) ((va5 (nar .char (va3 p2))).toInt8.toInt32))) = (42 : Int32))) : (nar .boolean (va27 p3 p4 p2)) = (1 : Int32) := by
  simp only [(q_chr p2).1, q_utf p2, (q_chr p3).1, q_utf p3, (q_chr p4).1, q_utf p4] at *
  simp only [va27, va26, va25, va24, (q_chr p2).1, q_utf p2, (q_chr p3).1, q_utf p3, (q_chr p4).1, q_utf p4]
  by_cases kp2 : va3 p2 = 42 <;> by_cases kp3 : va3 p3 = 42 <;> by_cases kp4 : va3 p4 = 42 <;> simp_all <;> decide
theorem imp_11 (p2 : Int32) (p3 : Int32) (p4 : Int32) (h1 : ¬ ((255 : Int32) < (nar .char (va3 p2)))) (h2 : (255 : Int32) < (nar .char (va3 p3))) (h3 : (255 : Int32) < (nar .char (va8 ((va4 (nar .char (va3 p3))).toInt8.toInt32) ((va5 (nar .char (va3 p3))).toInt8.toInt32)))) (h4 : ¬ ((nar .char (va8 ((va4 (nar .char (va3 p3))).toInt8.toInt32) ((va5 (nar .char (va3 p3))).toInt8.toInt32))) = (42 : Int32))) : (nar .boolean (va30 p2 p4 p3)) = (1 : Int32) := by
  simp only [(q_chr p2).1, q_utf p2, (q_chr p3).1, q_utf p3, (q_chr p4).1, q_utf p4] at *
  simp only [va30, va29, va28, va24, (q_chr p2).1, q_utf p2, (q_chr p3).1, q_utf p3, (q_chr p4).1, q_utf p4]
  try simp only [q_lat h1]
  by_cases kp2 : va3 p2 = 42 <;> by_cases kp3 : va3 p3 = 42 <;> by_cases kp4 : va3 p4 = 42 <;> simp_all <;> decide
theorem imp_12 (p4 : Int32) (h1 : (255 : Int32) < (nar .char (va3 p4))) : (255 : Int32) < (nar .char (va8 ((va4 (nar .char (va3 p4))).toInt8.toInt32) ((va5 (nar .char (va3 p4))).toInt8.toInt32))) := by
  simp only [(q_chr p4).1, q_utf p4] at *
  first | assumption | exact q_eq (by assumption)
theorem imp_13 (p4 : Int32) (h1 : (255 : Int32) < (nar .char (va3 p4))) (h2 : (255 : Int32) < (nar .char (va8 ((va4 (nar .char (va3 p4))).toInt8.toInt32) ((va5 (nar .char (va3 p4))).toInt8.toInt32)))) : ¬ ((nar .char (va8 ((va4 (nar .char (va3 p4))).toInt8.toInt32) ((va5 (nar .char (va3 p4))).toInt8.toInt32))) = (42 : Int32)) := by
  simp only [(q_chr p4).1, q_utf p4] at *
  first | assumption | exact q_eq (by assumption)
theorem imp_14 (p2 : Int32) (p3 : Int32) (p4 : Int32) (h1 : ¬ ((255 : Int32) < (nar .char (va3 p2)))) (h2 : ¬ ((255 : Int32) < (nar .char (va3 p3)))) (h3 : (255 : Int32) < (nar .char (va3 p4))) (h4 : (255 : Int32) < (nar .char (va8 ((va4 (nar .char (va3 p4))).toInt8.toInt32) ((va5 (nar .char (va3 p4))).toInt8.toInt32)))) (h5 : ¬ ((nar .char (va8 ((va4 (nar .char (va3 p4))).toInt8.toInt32) ((va5 (nar .char (va3 p4))).toInt8.toInt32))) = (42 : Int32))) : (nar .boolean (va33 p2 p3 p4)) = (1 : Int32) := by
  simp only [(q_chr p2).1, q_utf p2, (q_chr p3).1, q_utf p3, (q_chr p4).1, q_utf p4] at *
  simp only [va33, va32, va31, va24, (q_chr p2).1, q_utf p2, (q_chr p3).1, q_utf p3, (q_chr p4).1, q_utf p4]
  try simp only [q_lat h1, q_lat h2]
  by_cases kp2 : va3 p2 = 42 <;> by_cases kp3 : va3 p3 = 42 <;> by_cases kp4 : va3 p4 = 42 <;> simp_all <;> decide
theorem imp_15 (p2 : Int32) (p3 : Int32) (p4 : Int32) (h1 : ¬ ((255 : Int32) < (nar .char (va3 p2)))) (h2 : ¬ ((255 : Int32) < (nar .char (va3 p3)))) (h3 : ¬ ((255 : Int32) < (nar .char (va3 p4)))) : (nar .boolean (va36 p2 p3 p4)) = (1 : Int32) := by
  simp only [(q_chr p2).1, q_utf p2, (q_chr p3).1, q_utf p3, (q_chr p4).1, q_utf p4] at *
  simp only [va36, va35, va34, va24, (q_chr p2).1, q_utf p2, (q_chr p3).1, q_utf p3, (q_chr p4).1, q_utf p4]
  try simp only [q_lat h1, q_lat h2, q_lat h3]
  by_cases kp2 : va3 p2 = 42 <;> by_cases kp3 : va3 p3 = 42 <;> by_cases kp4 : va3 p4 = 42 <;> simp_all <;> decide
theorem imp_16 (p1 : Int32) (h1 : ¬ (((p1 &&& (2147483647 : Int32)) % (5 : Int32)) = (0 : Int32))) (h2 : ¬ (((p1 &&& (2147483647 : Int32)) % (5 : Int32)) = (1 : Int32))) (h3 : ¬ (((p1 &&& (2147483647 : Int32)) % (5 : Int32)) = (2 : Int32))) (h4 : ¬ (((p1 &&& (2147483647 : Int32)) % (5 : Int32)) = (3 : Int32))) : ((p1 &&& (2147483647 : Int32)) % (5 : Int32)) = (4 : Int32) := by
  have := rng32 p1
  have := (by decide : (2147483647 : Int32).toInt = 2147483647)
  have := c_mask p1 (2147483647 : Int32) 31 (by decide) (by decide)
  have := rng32 (p1 &&& (2147483647 : Int32))
  have := (by decide : (5 : Int32).toInt = 5)
  have := c_irem (p1 &&& (2147483647 : Int32)) (5 : Int32) 5 (by decide)
  have := rng32 ((p1 &&& (2147483647 : Int32)) % (5 : Int32))
  have := (by decide : (0 : Int32).toInt = 0)
  have := (by decide : (1 : Int32).toInt = 1)
  have := (by decide : (2 : Int32).toInt = 2)
  have := (by decide : (3 : Int32).toInt = 3)
  have := (by decide : (4 : Int32).toInt = 4)
  have := mt Int32.toInt_inj.mp h1
  have := mt Int32.toInt_inj.mp h2
  have := mt Int32.toInt_inj.mp h3
  have := mt Int32.toInt_inj.mp h4
  apply Int32.toInt_inj.mp
  omega
theorem imp_17 (p2 : Int32) (p3 : Int32) (p4 : Int32) (p5 : Int32) (h1 : (255 : Int32) < (nar .char (va3 p2))) (h2 : (255 : Int32) < (nar .char (va8 ((va4 (nar .char (va3 p2))).toInt8.toInt32) ((va5 (nar .char (va3 p2))).toInt8.toInt32)))) (h3 : ¬ ((nar .char (va8 ((va4 (nar .char (va3 p2))).toInt8.toInt32) ((va5 (nar .char (va3 p2))).toInt8.toInt32))) = (42 : Int32))) : (nar .boolean (va40 p3 p4 p5 p2)) = (1 : Int32) := by
  simp only [(q_chr p2).1, q_utf p2, (q_chr p3).1, q_utf p3, (q_chr p4).1, q_utf p4, (q_chr p5).1, q_utf p5] at *
  simp only [va40, va39, va38, va37, (q_chr p2).1, q_utf p2, (q_chr p3).1, q_utf p3, (q_chr p4).1, q_utf p4, (q_chr p5).1, q_utf p5]
  by_cases kp2 : va3 p2 = 42 <;> by_cases kp3 : va3 p3 = 42 <;> by_cases kp4 : va3 p4 = 42 <;> by_cases kp5 : va3 p5 = 42 <;> simp_all <;> decide
theorem imp_18 (p2 : Int32) (p3 : Int32) (p4 : Int32) (p5 : Int32) (h1 : ¬ ((255 : Int32) < (nar .char (va3 p2)))) (h2 : (255 : Int32) < (nar .char (va3 p3))) (h3 : (255 : Int32) < (nar .char (va8 ((va4 (nar .char (va3 p3))).toInt8.toInt32) ((va5 (nar .char (va3 p3))).toInt8.toInt32)))) (h4 : ¬ ((nar .char (va8 ((va4 (nar .char (va3 p3))).toInt8.toInt32) ((va5 (nar .char (va3 p3))).toInt8.toInt32))) = (42 : Int32))) : (nar .boolean (va43 p2 p4 p5 p3)) = (1 : Int32) := by
  simp only [(q_chr p2).1, q_utf p2, (q_chr p3).1, q_utf p3, (q_chr p4).1, q_utf p4, (q_chr p5).1, q_utf p5] at *
  simp only [va43, va42, va41, va37, (q_chr p2).1, q_utf p2, (q_chr p3).1, q_utf p3, (q_chr p4).1, q_utf p4, (q_chr p5).1, q_utf p5]
  try simp only [q_lat h1]
  by_cases kp2 : va3 p2 = 42 <;> by_cases kp3 : va3 p3 = 42 <;> by_cases kp4 : va3 p4 = 42 <;> by_cases kp5 : va3 p5 = 42 <;> simp_all <;> decide
theorem imp_19 (p2 : Int32) (p3 : Int32) (p4 : Int32) (p5 : Int32) (h1 : ¬ ((255 : Int32) < (nar .char (va3 p2)))) (h2 : ¬ ((255 : Int32) < (nar .char (va3 p3)))) (h3 : (255 : Int32) < (nar .char (va3 p4))) (h4 : (255 : Int32) < (nar .char (va8 ((va4 (nar .char (va3 p4))).toInt8.toInt32) ((va5 (nar .char (va3 p4))).toInt8.toInt32)))) (h5 : ¬ ((nar .char (va8 ((va4 (nar .char (va3 p4))).toInt8.toInt32) ((va5 (nar .char (va3 p4))).toInt8.toInt32))) = (42 : Int32))) : (nar .boolean (va46 p2 p3 p5 p4)) = (1 : Int32) := by
  simp only [(q_chr p2).1, q_utf p2, (q_chr p3).1, q_utf p3, (q_chr p4).1, q_utf p4, (q_chr p5).1, q_utf p5] at *
  simp only [va46, va45, va44, va37, (q_chr p2).1, q_utf p2, (q_chr p3).1, q_utf p3, (q_chr p4).1, q_utf p4, (q_chr p5).1, q_utf p5]
  try simp only [q_lat h1, q_lat h2]
  by_cases kp2 : va3 p2 = 42 <;> by_cases kp3 : va3 p3 = 42 <;> by_cases kp4 : va3 p4 = 42 <;> by_cases kp5 : va3 p5 = 42 <;> simp_all <;> decide
theorem imp_20 (p5 : Int32) (h1 : (255 : Int32) < (nar .char (va3 p5))) : (255 : Int32) < (nar .char (va8 ((va4 (nar .char (va3 p5))).toInt8.toInt32) ((va5 (nar .char (va3 p5))).toInt8.toInt32))) := by
  simp only [(q_chr p5).1, q_utf p5] at *
  first | assumption | exact q_eq (by assumption)
theorem imp_21 (p5 : Int32) (h1 : (255 : Int32) < (nar .char (va3 p5))) (h2 : (255 : Int32) < (nar .char (va8 ((va4 (nar .char (va3 p5))).toInt8.toInt32) ((va5 (nar .char (va3 p5))).toInt8.toInt32)))) : ¬ ((nar .char (va8 ((va4 (nar .char (va3 p5))).toInt8.toInt32) ((va5 (nar .char (va3 p5))).toInt8.toInt32))) = (42 : Int32)) := by
  simp only [(q_chr p5).1, q_utf p5] at *
  first | assumption | exact q_eq (by assumption)
theorem imp_22 (p2 : Int32) (p3 : Int32) (p4 : Int32) (p5 : Int32) (h1 : ¬ ((255 : Int32) < (nar .char (va3 p2)))) (h2 : ¬ ((255 : Int32) < (nar .char (va3 p3)))) (h3 : ¬ ((255 : Int32) < (nar .char (va3 p4)))) (h4 : (255 : Int32) < (nar .char (va3 p5))) (h5 : (255 : Int32) < (nar .char (va8 ((va4 (nar .char (va3 p5))).toInt8.toInt32) ((va5 (nar .char (va3 p5))).toInt8.toInt32)))) (h6 : ¬ ((nar .char (va8 ((va4 (nar .char (va3 p5))).toInt8.toInt32) ((va5 (nar .char (va3 p5))).toInt8.toInt32))) = (42 : Int32))) : (nar .boolean (va49 p2 p3 p4 p5)) = (1 : Int32) := by
  simp only [(q_chr p2).1, q_utf p2, (q_chr p3).1, q_utf p3, (q_chr p4).1, q_utf p4, (q_chr p5).1, q_utf p5] at *
  simp only [va49, va48, va47, va37, (q_chr p2).1, q_utf p2, (q_chr p3).1, q_utf p3, (q_chr p4).1, q_utf p4, (q_chr p5).1, q_utf p5]
  try simp only [q_lat h1, q_lat h2, q_lat h3]
  by_cases kp2 : va3 p2 = 42 <;> by_cases kp3 : va3 p3 = 42 <;> by_cases kp4 : va3 p4 = 42 <;> by_cases kp5 : va3 p5 = 42 <;> simp_all <;> decide
theorem imp_23 (p2 : Int32) (p3 : Int32) (p4 : Int32) (p5 : Int32) (h1 : ¬ ((255 : Int32) < (nar .char (va3 p2)))) (h2 : ¬ ((255 : Int32) < (nar .char (va3 p3)))) (h3 : ¬ ((255 : Int32) < (nar .char (va3 p4)))) (h4 : ¬ ((255 : Int32) < (nar .char (va3 p5)))) : (nar .boolean (va52 p2 p3 p4 p5)) = (1 : Int32) := by
  simp only [(q_chr p2).1, q_utf p2, (q_chr p3).1, q_utf p3, (q_chr p4).1, q_utf p4, (q_chr p5).1, q_utf p5] at *
  simp only [va52, va51, va50, va37, (q_chr p2).1, q_utf p2, (q_chr p3).1, q_utf p3, (q_chr p4).1, q_utf p4, (q_chr p5).1, q_utf p5]
  try simp only [q_lat h1, q_lat h2, q_lat h3, q_lat h4]
  by_cases kp2 : va3 p2 = 42 <;> by_cases kp3 : va3 p3 = 42 <;> by_cases kp4 : va3 p4 = 42 <;> by_cases kp5 : va3 p5 = 42 <;> simp_all <;> decide
theorem rm0 (hw : OW Z a0) (p1 : Int32) (p2 : Int32) (p3 : Int32) (p4 : Int32) (p5 : Int32) (p90 : Int32) (rv0 : Value) (Z0 : n0 ≤ h0.size) (Sp0 : ab1 Z (.int p90)) (Sp1 : Old Z n0 h0) (Sp2 : ab2 Z (.int (1 : Int32))) (Sp3 : ab3 Z (.int (0 : Int32))) (Sp4 : ab4 Z (.int (8 : Int32))) (Sp5 : ab5 Z rv0) (Sp6 : rv0.isRef = true) (Sp7 : ¬ (p90 = (0 : Int32))) :
    MC l Z ws h0 n0 p1 p2 p3 p4 p5 := by
  by_cases H1 : ((p1 &&& (2147483647 : Int32)) % (5 : Int32)) = (0 : Int32)
  ·
    have H2 : ¬ (p90 = (0 : Int32)) := by
      exact Sp7
    exact rm0_0 hw p1 p2 p3 p4 p5 p90 rv0 Z0 Sp0 Sp1 Sp2 Sp3 Sp4 Sp5 Sp6 Sp7 H1 H2
  ·
    by_cases H2 : ((p1 &&& (2147483647 : Int32)) % (5 : Int32)) = (1 : Int32)
    ·
      have H3 : ¬ (p90 = (0 : Int32)) := by
        exact Sp7
      by_cases H4 : (255 : Int32) < (nar .char (va3 p2))
      ·
        have H5 : (255 : Int32) < (nar .char (va8 ((va4 (nar .char (va3 p2))).toInt8.toInt32) ((va5 (nar .char (va3 p2))).toInt8.toInt32))) := by
          exact imp_1 p2 H4
        have H6 : ¬ ((nar .char (va8 ((va4 (nar .char (va3 p2))).toInt8.toInt32) ((va5 (nar .char (va3 p2))).toInt8.toInt32))) = (42 : Int32)) := by
          exact imp_2 p2 H4 H5
        have H7 : (nar .boolean (va10 p2)) = (1 : Int32) := by
          exact imp_3 p2 H4 H5 H6
        exact rm0_1 hw p1 p2 p3 p4 p5 p90 rv0 Z0 Sp0 Sp1 Sp2 Sp3 Sp4 Sp5 Sp6 Sp7 H1 H2 H3 H4 H5 H6 H7
      ·
        have H5 : (nar .boolean (va13 p2)) = (1 : Int32) := by
          exact imp_4 p2 H4
        exact rm0_2 hw p1 p2 p3 p4 p5 p90 rv0 Z0 Sp0 Sp1 Sp2 Sp3 Sp4 Sp5 Sp6 Sp7 H1 H2 H3 H4 H5
    ·
      by_cases H3 : ((p1 &&& (2147483647 : Int32)) % (5 : Int32)) = (2 : Int32)
      ·
        have H4 : ¬ (p90 = (0 : Int32)) := by
          exact Sp7
        by_cases H5 : (255 : Int32) < (nar .char (va3 p2))
        ·
          have H6 : (255 : Int32) < (nar .char (va8 ((va4 (nar .char (va3 p2))).toInt8.toInt32) ((va5 (nar .char (va3 p2))).toInt8.toInt32))) := by
            exact imp_1 p2 H5
          have H7 : ¬ ((nar .char (va8 ((va4 (nar .char (va3 p2))).toInt8.toInt32) ((va5 (nar .char (va3 p2))).toInt8.toInt32))) = (42 : Int32)) := by
            exact imp_2 p2 H5 H6
          have H8 : (nar .boolean (va17 p3 p2)) = (1 : Int32) := by
            exact imp_5 p2 p3 H5 H6 H7
          exact rm0_3 hw p1 p2 p3 p4 p5 p90 rv0 Z0 Sp0 Sp1 Sp2 Sp3 Sp4 Sp5 Sp6 Sp7 H1 H2 H3 H4 H5 H6 H7 H8
        ·
          by_cases H6 : (255 : Int32) < (nar .char (va3 p3))
          ·
            have H7 : (255 : Int32) < (nar .char (va8 ((va4 (nar .char (va3 p3))).toInt8.toInt32) ((va5 (nar .char (va3 p3))).toInt8.toInt32))) := by
              exact imp_6 p3 H6
            have H8 : ¬ ((nar .char (va8 ((va4 (nar .char (va3 p3))).toInt8.toInt32) ((va5 (nar .char (va3 p3))).toInt8.toInt32))) = (42 : Int32)) := by
              exact imp_7 p3 H6 H7
            have H9 : (nar .boolean (va20 p2 p3)) = (1 : Int32) := by
              exact imp_8 p2 p3 H5 H6 H7 H8
            exact rm0_4 hw p1 p2 p3 p4 p5 p90 rv0 Z0 Sp0 Sp1 Sp2 Sp3 Sp4 Sp5 Sp6 Sp7 H1 H2 H3 H4 H5 H6 H7 H8 H9
          ·
            have H7 : (nar .boolean (va23 p2 p3)) = (1 : Int32) := by
              exact imp_9 p2 p3 H5 H6
            exact rm0_5 hw p1 p2 p3 p4 p5 p90 rv0 Z0 Sp0 Sp1 Sp2 Sp3 Sp4 Sp5 Sp6 Sp7 H1 H2 H3 H4 H5 H6 H7
      ·
        by_cases H4 : ((p1 &&& (2147483647 : Int32)) % (5 : Int32)) = (3 : Int32)
        ·
          have H5 : ¬ (p90 = (0 : Int32)) := by
            exact Sp7
          by_cases H6 : (255 : Int32) < (nar .char (va3 p2))
          ·
            have H7 : (255 : Int32) < (nar .char (va8 ((va4 (nar .char (va3 p2))).toInt8.toInt32) ((va5 (nar .char (va3 p2))).toInt8.toInt32))) := by
              exact imp_1 p2 H6
            have H8 : ¬ ((nar .char (va8 ((va4 (nar .char (va3 p2))).toInt8.toInt32) ((va5 (nar .char (va3 p2))).toInt8.toInt32))) = (42 : Int32)) := by
              exact imp_2 p2 H6 H7
            have H9 : (nar .boolean (va27 p3 p4 p2)) = (1 : Int32) := by
              exact imp_10 p2 p3 p4 H6 H7 H8
            exact rm0_6 hw p1 p2 p3 p4 p5 p90 rv0 Z0 Sp0 Sp1 Sp2 Sp3 Sp4 Sp5 Sp6 Sp7 H1 H2 H3 H4 H5 H6 H7 H8 H9
          ·
            by_cases H7 : (255 : Int32) < (nar .char (va3 p3))
            ·
              have H8 : (255 : Int32) < (nar .char (va8 ((va4 (nar .char (va3 p3))).toInt8.toInt32) ((va5 (nar .char (va3 p3))).toInt8.toInt32))) := by
                exact imp_6 p3 H7
              have H9 : ¬ ((nar .char (va8 ((va4 (nar .char (va3 p3))).toInt8.toInt32) ((va5 (nar .char (va3 p3))).toInt8.toInt32))) = (42 : Int32)) := by
                exact imp_7 p3 H7 H8
              have H10 : (nar .boolean (va30 p2 p4 p3)) = (1 : Int32) := by
                exact imp_11 p2 p3 p4 H6 H7 H8 H9
              exact rm0_7 hw p1 p2 p3 p4 p5 p90 rv0 Z0 Sp0 Sp1 Sp2 Sp3 Sp4 Sp5 Sp6 Sp7 H1 H2 H3 H4 H5 H6 H7 H8 H9 H10
            ·
              by_cases H8 : (255 : Int32) < (nar .char (va3 p4))
              ·
                have H9 : (255 : Int32) < (nar .char (va8 ((va4 (nar .char (va3 p4))).toInt8.toInt32) ((va5 (nar .char (va3 p4))).toInt8.toInt32))) := by
                  exact imp_12 p4 H8
                have H10 : ¬ ((nar .char (va8 ((va4 (nar .char (va3 p4))).toInt8.toInt32) ((va5 (nar .char (va3 p4))).toInt8.toInt32))) = (42 : Int32)) := by
                  exact imp_13 p4 H8 H9
                have H11 : (nar .boolean (va33 p2 p3 p4)) = (1 : Int32) := by
                  exact imp_14 p2 p3 p4 H6 H7 H8 H9 H10
                exact rm0_8 hw p1 p2 p3 p4 p5 p90 rv0 Z0 Sp0 Sp1 Sp2 Sp3 Sp4 Sp5 Sp6 Sp7 H1 H2 H3 H4 H5 H6 H7 H8 H9 H10 H11
              ·
                have H9 : (nar .boolean (va36 p2 p3 p4)) = (1 : Int32) := by
                  exact imp_15 p2 p3 p4 H6 H7 H8
                exact rm0_9 hw p1 p2 p3 p4 p5 p90 rv0 Z0 Sp0 Sp1 Sp2 Sp3 Sp4 Sp5 Sp6 Sp7 H1 H2 H3 H4 H5 H6 H7 H8 H9
        ·
          have H5 : ((p1 &&& (2147483647 : Int32)) % (5 : Int32)) = (4 : Int32) := by
            exact imp_16 p1 H1 H2 H3 H4
          have H6 : ¬ (p90 = (0 : Int32)) := by
            exact Sp7
          by_cases H7 : (255 : Int32) < (nar .char (va3 p2))
          ·
            have H8 : (255 : Int32) < (nar .char (va8 ((va4 (nar .char (va3 p2))).toInt8.toInt32) ((va5 (nar .char (va3 p2))).toInt8.toInt32))) := by
              exact imp_1 p2 H7
            have H9 : ¬ ((nar .char (va8 ((va4 (nar .char (va3 p2))).toInt8.toInt32) ((va5 (nar .char (va3 p2))).toInt8.toInt32))) = (42 : Int32)) := by
              exact imp_2 p2 H7 H8
            have H10 : (nar .boolean (va40 p3 p4 p5 p2)) = (1 : Int32) := by
              exact imp_17 p2 p3 p4 p5 H7 H8 H9
            exact rm0_10 hw p1 p2 p3 p4 p5 p90 rv0 Z0 Sp0 Sp1 Sp2 Sp3 Sp4 Sp5 Sp6 Sp7 H1 H2 H3 H4 H5 H6 H7 H8 H9 H10
          ·
            by_cases H8 : (255 : Int32) < (nar .char (va3 p3))
            ·
              have H9 : (255 : Int32) < (nar .char (va8 ((va4 (nar .char (va3 p3))).toInt8.toInt32) ((va5 (nar .char (va3 p3))).toInt8.toInt32))) := by
                exact imp_6 p3 H8
              have H10 : ¬ ((nar .char (va8 ((va4 (nar .char (va3 p3))).toInt8.toInt32) ((va5 (nar .char (va3 p3))).toInt8.toInt32))) = (42 : Int32)) := by
                exact imp_7 p3 H8 H9
              have H11 : (nar .boolean (va43 p2 p4 p5 p3)) = (1 : Int32) := by
                exact imp_18 p2 p3 p4 p5 H7 H8 H9 H10
              exact rm0_11 hw p1 p2 p3 p4 p5 p90 rv0 Z0 Sp0 Sp1 Sp2 Sp3 Sp4 Sp5 Sp6 Sp7 H1 H2 H3 H4 H5 H6 H7 H8 H9 H10 H11
            ·
              by_cases H9 : (255 : Int32) < (nar .char (va3 p4))
              ·
                have H10 : (255 : Int32) < (nar .char (va8 ((va4 (nar .char (va3 p4))).toInt8.toInt32) ((va5 (nar .char (va3 p4))).toInt8.toInt32))) := by
                  exact imp_12 p4 H9
                have H11 : ¬ ((nar .char (va8 ((va4 (nar .char (va3 p4))).toInt8.toInt32) ((va5 (nar .char (va3 p4))).toInt8.toInt32))) = (42 : Int32)) := by
                  exact imp_13 p4 H9 H10
                have H12 : (nar .boolean (va46 p2 p3 p5 p4)) = (1 : Int32) := by
                  exact imp_19 p2 p3 p4 p5 H7 H8 H9 H10 H11
                exact rm0_12 hw p1 p2 p3 p4 p5 p90 rv0 Z0 Sp0 Sp1 Sp2 Sp3 Sp4 Sp5 Sp6 Sp7 H1 H2 H3 H4 H5 H6 H7 H8 H9 H10 H11 H12
              ·
                by_cases H10 : (255 : Int32) < (nar .char (va3 p5))
                ·
                  have H11 : (255 : Int32) < (nar .char (va8 ((va4 (nar .char (va3 p5))).toInt8.toInt32) ((va5 (nar .char (va3 p5))).toInt8.toInt32))) := by
                    exact imp_20 p5 H10
                  have H12 : ¬ ((nar .char (va8 ((va4 (nar .char (va3 p5))).toInt8.toInt32) ((va5 (nar .char (va3 p5))).toInt8.toInt32))) = (42 : Int32)) := by
                    exact imp_21 p5 H10 H11
                  have H13 : (nar .boolean (va49 p2 p3 p4 p5)) = (1 : Int32) := by
                    exact imp_22 p2 p3 p4 p5 H7 H8 H9 H10 H11 H12
                  exact rm0_13 hw p1 p2 p3 p4 p5 p90 rv0 Z0 Sp0 Sp1 Sp2 Sp3 Sp4 Sp5 Sp6 Sp7 H1 H2 H3 H4 H5 H6 H7 H8 H9 H10 H11 H12 H13
                ·
                  have H11 : (nar .boolean (va52 p2 p3 p4 p5)) = (1 : Int32) := by
                    exact imp_23 p2 p3 p4 p5 H7 H8 H9 H10
                  exact rm0_14 hw p1 p2 p3 p4 p5 p90 rv0 Z0 Sp0 Sp1 Sp2 Sp3 Sp4 Sp5 Sp6 Sp7 H1 H2 H3 H4 H5 H6 H7 H8 H9 H10 H11
end V
theorem comes_1 {Post : Tables → Env → Array Value → State → Outcome → State → Prop} (hpost : ∀ tb e args s v u, (limb_1_1.after args s (.returned v) u = true ∧ limb_1_2.after args s (.returned v) u = true ∧ True) → ReturnedEndW s (.returned v) u (Jvm.fieldLocs frame_1_writes args s ++ Jvm.arrayLocs frame_1_arrays args s ++ Jvm.staticLocs frame_1_statics s) 24 1152 → Post tb e args s (.returned v) u) :
    ArmFor flags0 classFile x code maxLocals ret World_1 tables_1 room_1 Calls_1 rest_1 Pre_1 Post := by
  intro l hfl _ _ p e ha hc hk s m args below hf hA hF happ hP
  obtain ⟨hcalls, hrest, hpre⟩ := hP
  obtain ⟨-, -, -, hnamed, -, -, -, hat⟩ := (Spec.applies_iff hf).mp happ
  obtain ⟨hg, hn⟩ := and_e (Cond.before_iff.mp (show (Jvm.Cond.and given_1 narrow_1).before args s = true from hpre))
  obtain ⟨g1, g2⟩ := and_e hg
  obtain ⟨g3, g4⟩ := and_e g2
  obtain ⟨g5, g6⟩ := and_e g4
  obtain ⟨g7, g8⟩ := and_e g6
  obtain ⟨g9, g10⟩ := and_e g8
  obtain ⟨w0, w1, w2, w3, w4, rfl⟩ : ∃ w0 w1 w2 w3 w4 : Value, args = #[w0, w1, w2, w3, w4] := by
    have hs : args.size = 5 := by simpa [Cond.value, given_1] using g1
    obtain ⟨L⟩ := args
    match L, hs with
    | [w0, w1, w2, w3, w4], _ => exact ⟨w0, w1, w2, w3, w4, rfl⟩
  have hw := fun d (hd : d ∈ tables_1) => atoms_spec (ws := Jvm.Cond.code x code maxLocals ret :: tables_1) hat d (List.mem_cons_of_mem _ hd)
  have hfit : Fit s := fun {y c} hc i hi => by
    obtain ⟨ha, rfl⟩ := Array.getElem?_eq_some_iff.mp hc
    have q := List.all_eq_true.mp ((Array.all_eq_true_iff_forall_mem.mp hF) _ (Array.getElem_mem ha)) i (List.mem_range.mpr hi)
    simpa [Array.getElem?_eq_getElem hi] using q
  obtain ⟨hsets, hown0⟩ := atoms_of _ (rest_1_c_eq ▸ (show rest_1_c.before _ s = true from hrest))
  have hr0 := Cond.before_iff.mp hown0
  obtain ⟨i0, ei0⟩ := is_v g3
  obtain rfl : w0 = (.int i0) := Option.some.inj ei0
  obtain ⟨i1, ei1⟩ := is_v g5
  obtain rfl : w1 = (.int i1) := Option.some.inj ei1
  obtain ⟨i2, ei2⟩ := is_v g7
  obtain rfl : w2 = (.int i2) := Option.some.inj ei2
  obtain ⟨i3, ei3⟩ := is_v g9
  obtain rfl : w3 = (.int i3) := Option.some.inj ei3
  obtain ⟨i4, ei4⟩ := is_v g10
  obtain rfl : w4 = (.int i4) := Option.some.inj ei4
  obtain ⟨p90, ev_p90⟩ := is_v (Cond.before_iff.mp (hsets _ (List.mem_of_getElem? (i := 1) rfl)))
  have St1 := Sta.start ev_p90 (Or.inl (hsets _ (List.mem_of_getElem? (i := 0) rfl)))
  have Sn2 : ¬ (p90 = (0 : Int32)) := fun q => by
    have z := not_v (Cond.before_iff.mp (hsets _ (List.mem_of_getElem? (i := 2) rfl)))
    simp only [Cond.value, ev_p90] at z
    simp [Term.eval, q] at z
  obtain ⟨rv0, ev_rv0, hr_rv0⟩ := isR_v (Cond.before_iff.mp (hsets _ (List.mem_of_getElem? (i := 8) rfl)))
  have St4 := Sta.start ev_rv0 (Or.inl (hsets _ (List.mem_of_getElem? (i := 7) rfl)))
  have ev5 := eqv_i (Term.int_eval _) (Cond.before_iff.mp (hsets _ (List.mem_of_getElem? (i := 12) rfl)))
  have St6 := Sta.start ev5 (Or.inl (hsets _ (List.mem_of_getElem? (i := 11) rfl)))
  have ev7 := eqv_i (Term.int_eval _) (Cond.before_iff.mp (hsets _ (List.mem_of_getElem? (i := 15) rfl)))
  have St8 := Sta.start ev7 (Or.inl (hsets _ (List.mem_of_getElem? (i := 14) rfl)))
  have ev9 := eqv_i (Term.int_eval _) (Cond.before_iff.mp (hsets _ (List.mem_of_getElem? (i := 18) rfl)))
  have St10 := Sta.start ev9 (Or.inl (hsets _ (List.mem_of_getElem? (i := 17) rfl)))
  obtain ⟨n, o, h1, h2, h3, _, L, rfl, ⟨rfl, N⟩, hq⟩ := rm0 (l := l) (Z := s) (ws := tables_1) (h0 := s.heap) (n0 := s.heap.size) hw i0 i1 i2 i3 i4 p90 rv0 (Nat.le_refl _) St1 (Old.start s) St6 St8 St10 St4 hr_rv0 Sn2 p e ha hc hk s m _ below hf ((Spec.applies_iff_loose hf).mp happ).1 ⟨rfl, State.Warmed39.refl s, rfl, CHv.start (own_EW hw) hcalls.1 (hsets _ (List.mem_of_getElem? (i := 2) rfl)) (hw _ (List.mem_of_getElem? (i := 23) rfl)) (hw _ (List.mem_of_getElem? (i := 9) rfl))⟩ trivial
  refine ⟨n, _, h1, h2, h3, hpost _ _ _ _ _ _ ⟨Cond.after_iff.mpr rfl, Cond.after_iff.mpr (eq_i res_at (Term.int_eval (1)) rfl), trivial⟩ ⟨hq.1, hq.2.1, hq.2.2.1, (hq.2.2.2.sift fun y hy => Or.inr (N y hy)).mono (by decide) (by decide)⟩⟩
theorem main_1_1 : Claimed_1_1 := comes_1 fun _ _ _ _ _ _ h hF => ⟨h.1, hF⟩
theorem main_1_2 : Claimed_1_2 := comes_1 fun _ _ _ _ _ _ h hF => ⟨h.2.1, hF⟩
end Jvm.Pilot.@@N@@
namespace Jvm.Pilot.@@N@@
open Jvm Jvm.ClassFile Sem Op Lib Jvm.Free Jvm.Stand Jvm.Pilot.@@N@@.Jvm.D
/-! MADE BY PROGRAM (witnessworld.py) out of the Statement's table words and the real class files: 21 classes; the members and pool entries that the words name. The judged class is class 1, her method 3. -/
namespace start1
open Jvm.ClassFile
def u (s : String) : CpInfo := .utf8 (stringToUtf16 s)
/-- a pool by its gaps: so many unusable entries, then the entry; so many at the end -/
def gap : Nat → List CpInfo → List CpInfo
  | 0, r => r
  | n + 1, r => .unusable :: gap n r
def poolList (es : List (Nat × CpInfo)) (last : Nat) : List CpInfo := es.foldr (fun e r => gap e.1 (e.2 :: r)) (gap last [])
def pool (es : List (Nat × CpInfo)) (last : Nat) : Array CpInfo := ⟨poolList es last⟩
def fileOf (pool : Array CpInfo) (this : Nat) (attrs : Array Attribute := #[]) (ms : Array MethodInfo := #[]) (fl : Nat := 33) (sup : Nat := 0) (ifs : Array Nat := #[]) (fds : Array FieldInfo := #[]) : ClassFile where
  minorVersion := 0
  majorVersion := 65
  constantPool := pool
  accessFlags := fl
  thisClass := this
  superClass := sup
  interfaces := ifs
  fields := fds
  methods := ms
  attributes := attrs
def plain (name : String) (sup : Option ClassId) : Class where
  name := name
  kind := .ordinary
  loader := none
  accessFlags := 33
  super := sup
  interfaces := #[]
  cf := none
  fields := #[]
  methods := #[]
  instanceTypes := #[]
  staticTypes := #[]
  resolved := #[]
  callSites := []
  init := .initialized
  statics := none
  mirror := none

def pool0 : Array CpInfo := pool [(5, u "<init>"), (0, u "()V"), (1, .class_ 10), (1, u "java/lang/Object")] 113

def k0c0 : Code := { maxStack := 0, maxLocals := 1, code := object_method_1_code, exceptionTable := #[], attributes := #[] }
def k0m0 : Method := { name := "<init>", desc := "()V", sig := { parameters := [], returnType := none }, accessFlags := 1, code := some k0c0 }
/-- java/lang/Object -/
def k0 : Class := { plain "java/lang/Object" none with
  accessFlags := 33
  interfaces := #[]
  cf := some (fileOf pool0 8 #[] #[{ accessFlags := 1, nameIndex := 5, descriptorIndex := 6, attributes := #[] }] 33 0 #[] #[])
  fields := #[]
  methods := #[k0m0]
  instanceTypes := #[]
  staticTypes := #[]
  resolved := Array.replicate 124 none
  statics := none }

def pool1 : Array CpInfo := pool [(2, .class_ 4), (1, u "java/lang/Object"), (0, u "<init>"), (0, u "()V"), (0, .integer 65535), (0, .class_ 9), (0, u "java/lang/String"), (0, .methodref 8 11), (0, .nameAndType 5 12), (0, u "([C)V"), (0, .integer 2147483647), (0, .methodref 15 16), (0, .class_ 17), (0, .nameAndType 18 19), (0, u "purlin/config/NamePatternIsPatternPinLaw"), (0, u "ch"), (0, u "(I)C"), (0, .methodref 15 21), (0, .nameAndType 22 23), (0, u "str"), (0, u "(ICCCC)Ljava/lang/String;"), (0, .methodref 25 26), (0, .class_ 27), (0, .nameAndType 28 29), (0, u "purlin/config/NamePattern"), (0, u "isPattern"), (0, u "(Ljava/lang/String;)Z"), (3, u "law"), (0, u "(IIIII)Z")] 2

def k1m0 : Method := { name := "<init>", desc := "()V", sig := { parameters := [], returnType := none }, accessFlags := 2, code := none }
def k1c1 : Code := { maxStack := 2, maxLocals := 1, code := method_2_code, exceptionTable := #[], attributes := #[] }
def k1m1 : Method := { name := "ch", desc := "(I)C", sig := { parameters := [.int], returnType := some .char }, accessFlags := 10, code := some k1c1 }
def k1c2 : Code := { maxStack := 6, maxLocals := 5, code := method_3_code, exceptionTable := #[], attributes := #[] }
def k1m2 : Method := { name := "str", desc := "(ICCCC)Ljava/lang/String;", sig := { parameters := [.int, .char, .char, .char, .char], returnType := some (.object "java/lang/String") }, accessFlags := 10, code := some k1c2 }
def k1c3 : Code := { maxStack := 5, maxLocals := 12, code := code, exceptionTable := #[], attributes := #[] }
def k1m3 : Method := { name := "law", desc := "(IIIII)Z", sig := { parameters := [.int, .int, .int, .int, .int], returnType := some .boolean }, accessFlags := 9, code := some k1c3 }
/-- purlin/config/NamePatternIsPatternPinLaw -/
def k1 : Class := { plain "purlin/config/NamePatternIsPatternPinLaw" (some 0) with
  accessFlags := 49
  interfaces := #[]
  cf := some (fileOf pool1 15 #[] #[{ accessFlags := 2, nameIndex := 5, descriptorIndex := 6, attributes := #[] }, { accessFlags := 10, nameIndex := 18, descriptorIndex := 19, attributes := #[] }, { accessFlags := 10, nameIndex := 22, descriptorIndex := 23, attributes := #[] }, { accessFlags := 9, nameIndex := 33, descriptorIndex := 34, attributes := #[] }] 49 2 #[] #[])
  fields := #[]
  methods := #[k1m0, k1m1, k1m2, k1m3]
  instanceTypes := #[]
  staticTypes := #[]
  resolved := Array.replicate 37 none
  statics := none }

def pool2 : Array CpInfo := pool [(1, .class_ 2), (0, u "java/io/Serializable"), (0, .class_ 4), (0, u "java/lang/Object")] 2

/-- java/io/Serializable -/
def k2 : Class := { plain "java/io/Serializable" (some 0) with
  accessFlags := 1537
  interfaces := #[]
  cf := some (fileOf pool2 1 #[] #[] 1537 3 #[] #[])
  fields := #[]
  methods := #[]
  instanceTypes := #[]
  staticTypes := #[]
  resolved := Array.replicate 7 none
  statics := none }

def pool3 : Array CpInfo := pool [(1, .class_ 2), (0, u "java/lang/Comparable"), (0, .class_ 4), (0, u "java/lang/Object")] 7

/-- java/lang/Comparable -/
def k3 : Class := { plain "java/lang/Comparable" (some 0) with
  accessFlags := 1537
  interfaces := #[]
  cf := some (fileOf pool3 1 #[] #[] 1537 3 #[] #[])
  fields := #[]
  methods := #[]
  instanceTypes := #[]
  staticTypes := #[]
  resolved := Array.replicate 12 none
  statics := none }

def pool4 : Array CpInfo := pool [(2, .class_ 4), (1, u "java/lang/CharSequence"), (42, .class_ 48), (0, u "java/lang/CharSequence$1CodePointIterator"), (10, .class_ 60), (0, u "java/lang/CharSequence$1CharIterator"), (5, .class_ 67), (0, u "java/lang/Object")] 63

/-- java/lang/CharSequence -/
def k4 : Class := { plain "java/lang/CharSequence" (some 0) with
  accessFlags := 1537
  interfaces := #[]
  cf := some (fileOf pool4 2 #[.nestMembers #[47, 59]] #[] 1537 66 #[] #[])
  fields := #[]
  methods := #[]
  instanceTypes := #[]
  staticTypes := #[]
  resolved := Array.replicate 131 none
  statics := none }

def pool5 : Array CpInfo := pool [(1, .class_ 2), (0, u "java/lang/constant/Constable"), (0, .class_ 4), (0, u "java/lang/Object")] 6

/-- java/lang/constant/Constable -/
def k5 : Class := { plain "java/lang/constant/Constable" (some 0) with
  accessFlags := 1537
  interfaces := #[]
  cf := some (fileOf pool5 1 #[] #[] 1537 3 #[] #[])
  fields := #[]
  methods := #[]
  instanceTypes := #[]
  staticTypes := #[]
  resolved := Array.replicate 11 none
  statics := none }

def pool6 : Array CpInfo := pool [(1, .class_ 2), (0, u "java/lang/constant/ConstantDesc"), (0, .class_ 4), (0, u "java/lang/Object")] 32

/-- java/lang/constant/ConstantDesc -/
def k6 : Class := { plain "java/lang/constant/ConstantDesc" (some 0) with
  accessFlags := 1537
  interfaces := #[]
  cf := some (fileOf pool6 1 #[] #[] 1537 3 #[] #[])
  fields := #[]
  methods := #[]
  instanceTypes := #[]
  staticTypes := #[]
  resolved := Array.replicate 37 none
  statics := none }

def pool7 : Array CpInfo := pool [(1, .methodref 2 3), (0, .class_ 4), (0, .nameAndType 5 6), (0, u "java/lang/Object"), (0, u "<init>"), (0, u "()V"), (0, .string 8), (0, u ""), (0, .fieldref 10 11), (0, .class_ 12), (0, .nameAndType 13 14), (0, u "java/lang/String"), (0, u "value"), (0, u "[B"), (0, .fieldref 10 16), (0, .nameAndType 17 18), (0, u "coder"), (0, u "B"), (2, u "hash"), (0, u "I"), (2, u "hashIsZero"), (0, u "Z"), (0, .methodref 10 28), (0, .nameAndType 5 29), (0, u "([CIILjava/lang/Void;)V"), (8, .fieldref 10 39), (0, .nameAndType 40 26), (0, u "COMPACT_STRINGS"), (1, .class_ 44), (1, u "java/lang/StringUTF16"), (0, u "compress"), (1, .methodref 42 48), (0, .nameAndType 49 50), (0, u "coderFromArrayLen"), (0, u "([BI)B"), (56, .class_ 109), (1, u "java/lang/StringLatin1"), (32, u "()Z"), (34, .methodref 42 178), (0, .nameAndType 45 179), (0, u "([CII)[B"), (154, u "()I"), (0, .methodref 10 336), (0, .nameAndType 17 337), (0, u "()B"), (154, .methodref 10 493), (0, .nameAndType 494 142), (0, u "isLatin1"), (10, .methodref 10 506), (0, .nameAndType 507 334), (0, u "length"), (5, u "checkFromToIndex"), (9, u "checkBoundsBeginEnd"), (0, u "(III)V"), (50, .class_ 576), (0, u "java/lang/CharSequence"), (22, u "CASE_INSENSITIVE_ORDER"), (0, u "Ljava/util/Comparator;"), (32, .methodref 10 634), (0, .nameAndType 635 636), (0, u "indexOf"), (0, u "(II)I"), (0, .methodref 107 638), (0, .nameAndType 635 639), (0, u "([BIII)I"), (0, .methodref 42 638), (124, u "(I)I"), (244, u "([C)V"), (42, .fieldref 1054 1055), (0, .class_ 1056), (0, .nameAndType 1057 1058), (0, u "jdk/internal/util/Preconditions"), (0, u "SIOOBE_FORMATTER"), (0, u "Ljava/util/function/BiFunction;"), (3, .methodref 1054 1063), (0, .nameAndType 513 1064), (0, u "(IIILjava/util/function/BiFunction;)I"), (36, u "serialPersistentFields"), (0, u "[Ljava/io/ObjectStreamField;"), (0, .class_ 1104), (0, u "java/lang/String$CaseInsensitiveComparator"), (1, .class_ 1107), (0, u "java/io/Serializable"), (0, .class_ 1109), (0, u "java/lang/Comparable"), (0, .class_ 1111), (0, u "java/lang/constant/Constable"), (0, .class_ 1113), (0, u "java/lang/constant/ConstantDesc"), (2, u "serialVersionUID"), (0, u "J"), (3, u "REPL"), (0, u "C"), (2, u "LATIN1"), (1, u "UTF16")] 323

def k7m0 : Method := { name := "<init>", desc := "()V", sig := { parameters := [], returnType := none }, accessFlags := 1, code := none }
def k7c1 : Code := { maxStack := 5, maxLocals := 2, code := jdk_42_method_3_code, exceptionTable := #[], attributes := #[] }
def k7m1 : Method := { name := "<init>", desc := "([C)V", sig := { parameters := [(.array .char)], returnType := none }, accessFlags := 1, code := some k7c1 }
def k7c2 : Code := { maxStack := 2, maxLocals := 1, code := jdk_42_method_54_code, exceptionTable := #[], attributes := #[] }
def k7m2 : Method := { name := "length", desc := "()I", sig := { parameters := [], returnType := some .int }, accessFlags := 1, code := some k7c2 }
def k7c3 : Code := { maxStack := 3, maxLocals := 2, code := jdk_42_method_79_code, exceptionTable := #[], attributes := #[] }
def k7m3 : Method := { name := "indexOf", desc := "(I)I", sig := { parameters := [.int], returnType := some .int }, accessFlags := 1, code := some k7c3 }
def k7c4 : Code := { maxStack := 4, maxLocals := 3, code := jdk_42_method_80_code, exceptionTable := #[], attributes := #[] }
def k7m4 : Method := { name := "indexOf", desc := "(II)I", sig := { parameters := [.int, .int], returnType := some .int }, accessFlags := 1, code := some k7c4 }
def k7c5 : Code := { maxStack := 4, maxLocals := 6, code := jdk_42_method_149_code, exceptionTable := #[], attributes := #[] }
def k7m5 : Method := { name := "<init>", desc := "([CIILjava/lang/Void;)V", sig := { parameters := [(.array .char), .int, .int, (.object "java/lang/Void")], returnType := none }, accessFlags := 2, code := some k7c5 }
def k7c6 : Code := { maxStack := 1, maxLocals := 1, code := jdk_42_method_152_code, exceptionTable := #[], attributes := #[] }
def k7m6 : Method := { name := "coder", desc := "()B", sig := { parameters := [], returnType := some .byte }, accessFlags := 0, code := some k7c6 }
def k7c7 : Code := { maxStack := 1, maxLocals := 1, code := jdk_42_method_154_code, exceptionTable := #[], attributes := #[] }
def k7m7 : Method := { name := "isLatin1", desc := "()Z", sig := { parameters := [], returnType := some .boolean }, accessFlags := 0, code := some k7c7 }
def k7c8 : Code := { maxStack := 4, maxLocals := 3, code := jdk_42_method_158_code, exceptionTable := #[], attributes := #[] }
def k7m8 : Method := { name := "checkBoundsBeginEnd", desc := "(III)V", sig := { parameters := [.int, .int, .int], returnType := none }, accessFlags := 8, code := some k7c8 }
/-- java/lang/String -/
def k7 : Class := { plain "java/lang/String" (some 0) with
  accessFlags := 49
  interfaces := #[2, 3, 4, 5, 6]
  cf := some (fileOf pool7 10 #[.nestMembers #[1103]] #[{ accessFlags := 1, nameIndex := 5, descriptorIndex := 6, attributes := #[] }, { accessFlags := 1, nameIndex := 5, descriptorIndex := 1010, attributes := #[] }, { accessFlags := 1, nameIndex := 507, descriptorIndex := 334, attributes := #[] }, { accessFlags := 1, nameIndex := 635, descriptorIndex := 765, attributes := #[] }, { accessFlags := 1, nameIndex := 635, descriptorIndex := 636, attributes := #[] }, { accessFlags := 2, nameIndex := 5, descriptorIndex := 29, attributes := #[] }, { accessFlags := 0, nameIndex := 17, descriptorIndex := 337, attributes := #[] }, { accessFlags := 0, nameIndex := 494, descriptorIndex := 142, attributes := #[] }, { accessFlags := 8, nameIndex := 523, descriptorIndex := 524, attributes := #[] }] 49 2 #[1106, 1108, 575, 1110, 1112] #[{ accessFlags := 18, nameIndex := 13, descriptorIndex := 14, attributes := #[] }, { accessFlags := 18, nameIndex := 17, descriptorIndex := 18, attributes := #[] }, { accessFlags := 2, nameIndex := 21, descriptorIndex := 22, attributes := #[] }, { accessFlags := 2, nameIndex := 25, descriptorIndex := 26, attributes := #[] }, { accessFlags := 26, nameIndex := 1116, descriptorIndex := 1117, attributes := #[] }, { accessFlags := 24, nameIndex := 40, descriptorIndex := 26, attributes := #[] }, { accessFlags := 26, nameIndex := 1101, descriptorIndex := 1102, attributes := #[] }, { accessFlags := 26, nameIndex := 1121, descriptorIndex := 1122, attributes := #[] }, { accessFlags := 25, nameIndex := 599, descriptorIndex := 600, attributes := #[] }, { accessFlags := 24, nameIndex := 1125, descriptorIndex := 18, attributes := #[] }, { accessFlags := 24, nameIndex := 1127, descriptorIndex := 18, attributes := #[] }])
  fields := #[{ name := "value", type := (.array .byte), accessFlags := 18, slot := 0, constantValue := 0 }, { name := "coder", type := .byte, accessFlags := 18, slot := 1, constantValue := 0 }, { name := "hash", type := .int, accessFlags := 2, slot := 2, constantValue := 0 }, { name := "hashIsZero", type := .boolean, accessFlags := 2, slot := 3, constantValue := 0 }, { name := "serialVersionUID", type := .long, accessFlags := 26, slot := 0, constantValue := 0 }, { name := "COMPACT_STRINGS", type := .boolean, accessFlags := 24, slot := 1, constantValue := 0 }, { name := "serialPersistentFields", type := (.array (.object "java/io/ObjectStreamField")), accessFlags := 26, slot := 2, constantValue := 0 }, { name := "REPL", type := .char, accessFlags := 26, slot := 3, constantValue := 0 }, { name := "CASE_INSENSITIVE_ORDER", type := (.object "java/util/Comparator"), accessFlags := 25, slot := 4, constantValue := 0 }, { name := "LATIN1", type := .byte, accessFlags := 24, slot := 5, constantValue := 0 }, { name := "UTF16", type := .byte, accessFlags := 24, slot := 6, constantValue := 0 }]
  methods := #[k7m0, k7m1, k7m2, k7m3, k7m4, k7m5, k7m6, k7m7, k7m8]
  instanceTypes := #[(.array .byte), .byte, .int, .boolean]
  staticTypes := #[.long, .boolean, (.array (.object "java/io/ObjectStreamField")), .char, (.object "java/util/Comparator"), .byte, .byte]
  resolved := Array.replicate 1451 none
  statics := some 0 }

def pool8 : Array CpInfo := pool [(2, .class_ 4), (1, u "java/lang/Object"), (9, .class_ 16), (1, u "purlin/config/NamePattern"), (0, u "pieces"), (0, u "Ljava/util/List;"), (0, .methodref 20 21), (0, .class_ 22), (0, .nameAndType 23 24), (0, u "java/lang/String"), (0, u "indexOf"), (0, u "(I)I"), (42, u "(Ljava/lang/String;)Z"), (43, .class_ 112), (0, u "purlin/config/NamePattern$Reference"), (51, u "STAR"), (0, u "C"), (2, u "OPEN"), (1, u "CLOSE"), (1, u "MAX_DIGITS"), (0, u "I"), (6, u "isPattern")] 52

def k8c0 : Code := { maxStack := 2, maxLocals := 1, code := prog_24_method_2_code, exceptionTable := #[], attributes := #[] }
def k8m0 : Method := { name := "isPattern", desc := "(Ljava/lang/String;)Z", sig := { parameters := [(.object "java/lang/String")], returnType := some .boolean }, accessFlags := 8, code := some k8c0 }
/-- purlin/config/NamePattern -/
def k8 : Class := { plain "purlin/config/NamePattern" (some 0) with
  accessFlags := 48
  interfaces := #[]
  cf := some (fileOf pool8 14 #[.nestMembers #[111]] #[{ accessFlags := 8, nameIndex := 180, descriptorIndex := 67, attributes := #[] }] 48 2 #[] #[{ accessFlags := 26, nameIndex := 164, descriptorIndex := 165, attributes := #[] }, { accessFlags := 26, nameIndex := 168, descriptorIndex := 165, attributes := #[] }, { accessFlags := 26, nameIndex := 170, descriptorIndex := 165, attributes := #[] }, { accessFlags := 26, nameIndex := 172, descriptorIndex := 173, attributes := #[] }, { accessFlags := 18, nameIndex := 17, descriptorIndex := 18, attributes := #[] }])
  fields := #[{ name := "STAR", type := .char, accessFlags := 26, slot := 0, constantValue := 0 }, { name := "OPEN", type := .char, accessFlags := 26, slot := 1, constantValue := 0 }, { name := "CLOSE", type := .char, accessFlags := 26, slot := 2, constantValue := 0 }, { name := "MAX_DIGITS", type := .int, accessFlags := 26, slot := 3, constantValue := 0 }, { name := "pieces", type := (.object "java/util/List"), accessFlags := 18, slot := 0, constantValue := 0 }]
  methods := #[k8m0]
  instanceTypes := #[(.object "java/util/List")]
  staticTypes := #[.char, .char, .char, .int]
  resolved := Array.replicate 233 none
  statics := none }

def pool9 : Array CpInfo := pool [(4, .class_ 6), (1, u "java/lang/Object"), (0, u "<init>"), (0, u "()V"), (5, .class_ 16), (1, u "java/lang/StringLatin1"), (21, .methodref 39 40), (0, .class_ 41), (0, .nameAndType 42 43), (0, u "java/lang/Math"), (0, u "min"), (0, u "(II)I"), (44, .methodref 14 89), (0, .nameAndType 90 91), (0, u "canEncode"), (0, u "(I)Z"), (0, .methodref 39 93), (0, .nameAndType 94 43), (0, u "max"), (0, .methodref 14 96), (0, .nameAndType 97 98), (0, u "indexOfChar"), (0, u "([BIII)I"), (2, u "indexOf"), (19, u "$assertionsDisabled"), (0, u "Z"), (98, .class_ 223), (1, u "java/lang/StringLatin1$LinesSpliterator"), (166, .class_ 391), (0, u "java/lang/StringLatin1$CharsSpliterator")] 3

def k9m0 : Method := { name := "<init>", desc := "()V", sig := { parameters := [], returnType := none }, accessFlags := 0, code := none }
def k9c1 : Code := { maxStack := 2, maxLocals := 1, code := jdk_43_method_4_code, exceptionTable := #[], attributes := #[] }
def k9m1 : Method := { name := "canEncode", desc := "(I)Z", sig := { parameters := [.int], returnType := some .boolean }, accessFlags := 9, code := some k9c1 }
def k9c2 : Code := { maxStack := 4, maxLocals := 4, code := jdk_43_method_22_code, exceptionTable := #[], attributes := #[] }
def k9m2 : Method := { name := "indexOf", desc := "([BIII)I", sig := { parameters := [(.array .byte), .int, .int, .int], returnType := some .int }, accessFlags := 9, code := some k9c2 }
def k9c3 : Code := { maxStack := 2, maxLocals := 6, code := jdk_43_method_23_code, exceptionTable := #[], attributes := #[] }
def k9m3 : Method := { name := "indexOfChar", desc := "([BIII)I", sig := { parameters := [(.array .byte), .int, .int, .int], returnType := some .int }, accessFlags := 10, code := some k9c3 }
/-- java/lang/StringLatin1 -/
def k9 : Class := { plain "java/lang/StringLatin1" (some 0) with
  accessFlags := 48
  interfaces := #[]
  cf := some (fileOf pool9 14 #[.nestMembers #[390, 221]] #[{ accessFlags := 0, nameIndex := 7, descriptorIndex := 8, attributes := #[] }, { accessFlags := 9, nameIndex := 90, descriptorIndex := 91, attributes := #[] }, { accessFlags := 9, nameIndex := 101, descriptorIndex := 98, attributes := #[] }, { accessFlags := 10, nameIndex := 97, descriptorIndex := 98, attributes := #[] }] 48 4 #[] #[{ accessFlags := 4120, nameIndex := 121, descriptorIndex := 122, attributes := #[] }])
  fields := #[{ name := "$assertionsDisabled", type := .boolean, accessFlags := 4120, slot := 0, constantValue := 0 }]
  methods := #[k9m0, k9m1, k9m2, k9m3]
  instanceTypes := #[]
  staticTypes := #[.boolean]
  resolved := Array.replicate 395 none
  statics := none }

def pool10 : Array CpInfo := pool [(1, .class_ 2), (0, u "java/lang/Math"), (1, .class_ 6), (1, u "java/lang/Object"), (0, u "<init>"), (0, u "()V"), (89, .class_ 100), (1, u "java/lang/Math$RandomNumberGeneratorHolder"), (71, u "negativeZeroFloatBits"), (0, u "J"), (2, u "negativeZeroDoubleBits"), (21, u "max"), (2, u "min"), (43, u "$assertionsDisabled"), (0, u "Z"), (88, u "(II)I"), (2, u "twoToTheDoubleScaleDown"), (0, u "D"), (4, u "twoToTheDoubleScaleUp"), (9, u "E"), (3, u "PI"), (2, u "TAU"), (2, u "DEGREES_TO_RADIANS"), (0, u "RADIANS_TO_DEGREES")] 94

def k10m0 : Method := { name := "<init>", desc := "()V", sig := { parameters := [], returnType := none }, accessFlags := 2, code := none }
def k10c1 : Code := { maxStack := 2, maxLocals := 2, code := jdk_29_method_65_code, exceptionTable := #[], attributes := #[] }
def k10m1 : Method := { name := "max", desc := "(II)I", sig := { parameters := [.int, .int], returnType := some .int }, accessFlags := 9, code := some k10c1 }
def k10c2 : Code := { maxStack := 2, maxLocals := 2, code := jdk_29_method_69_code, exceptionTable := #[], attributes := #[] }
def k10m2 : Method := { name := "min", desc := "(II)I", sig := { parameters := [.int, .int], returnType := some .int }, accessFlags := 9, code := some k10c2 }
/-- java/lang/Math -/
def k10 : Class := { plain "java/lang/Math" (some 0) with
  accessFlags := 49
  interfaces := #[]
  cf := some (fileOf pool10 1 #[.nestMembers #[98]] #[{ accessFlags := 2, nameIndex := 7, descriptorIndex := 8, attributes := #[] }, { accessFlags := 9, nameIndex := 198, descriptorIndex := 335, attributes := #[] }, { accessFlags := 9, nameIndex := 201, descriptorIndex := 335, attributes := #[] }] 49 4 #[] #[{ accessFlags := 25, nameIndex := 354, descriptorIndex := 339, attributes := #[] }, { accessFlags := 25, nameIndex := 358, descriptorIndex := 339, attributes := #[] }, { accessFlags := 25, nameIndex := 361, descriptorIndex := 339, attributes := #[] }, { accessFlags := 26, nameIndex := 364, descriptorIndex := 339, attributes := #[] }, { accessFlags := 26, nameIndex := 365, descriptorIndex := 339, attributes := #[] }, { accessFlags := 26, nameIndex := 172, descriptorIndex := 173, attributes := #[] }, { accessFlags := 26, nameIndex := 176, descriptorIndex := 173, attributes := #[] }, { accessFlags := 8, nameIndex := 344, descriptorIndex := 339, attributes := #[] }, { accessFlags := 8, nameIndex := 338, descriptorIndex := 339, attributes := #[] }, { accessFlags := 4120, nameIndex := 245, descriptorIndex := 246, attributes := #[] }])
  fields := #[{ name := "E", type := .double, accessFlags := 25, slot := 0, constantValue := 0 }, { name := "PI", type := .double, accessFlags := 25, slot := 1, constantValue := 0 }, { name := "TAU", type := .double, accessFlags := 25, slot := 2, constantValue := 0 }, { name := "DEGREES_TO_RADIANS", type := .double, accessFlags := 26, slot := 3, constantValue := 0 }, { name := "RADIANS_TO_DEGREES", type := .double, accessFlags := 26, slot := 4, constantValue := 0 }, { name := "negativeZeroFloatBits", type := .long, accessFlags := 26, slot := 5, constantValue := 0 }, { name := "negativeZeroDoubleBits", type := .long, accessFlags := 26, slot := 6, constantValue := 0 }, { name := "twoToTheDoubleScaleUp", type := .double, accessFlags := 8, slot := 7, constantValue := 0 }, { name := "twoToTheDoubleScaleDown", type := .double, accessFlags := 8, slot := 8, constantValue := 0 }, { name := "$assertionsDisabled", type := .boolean, accessFlags := 4120, slot := 9, constantValue := 0 }]
  methods := #[k10m0, k10m1, k10m2]
  instanceTypes := #[]
  staticTypes := #[.double, .double, .double, .double, .double, .long, .long, .double, .double, .boolean]
  resolved := Array.replicate 460 none
  statics := none }

def pool11 : Array CpInfo := pool [(3, .class_ 4), (0, u "java/lang/String"), (1, .class_ 8), (1, u "java/lang/Object"), (0, u "<init>"), (0, u "()V"), (0, .methodref 12 13), (0, .class_ 14), (0, .nameAndType 15 16), (0, u "java/lang/StringUTF16"), (0, u "newBytesLength"), (0, u "(I)I"), (3, .integer 1073741823), (23, .fieldref 12 45), (0, .nameAndType 46 47), (0, u "$assertionsDisabled"), (0, u "Z"), (0, .methodref 12 49), (0, .nameAndType 50 51), (0, u "length"), (0, u "([B)I"), (7, .fieldref 12 60), (0, .nameAndType 61 62), (0, u "HI_BYTE_SHIFT"), (0, u "I"), (0, .fieldref 12 64), (0, .nameAndType 65 62), (0, u "LO_BYTE_SHIFT"), (5, .methodref 12 72), (0, .nameAndType 73 74), (0, u "getChar"), (0, u "([BI)C"), (21, .methodref 12 97), (0, .nameAndType 98 99), (0, u "checkBoundsBeginEnd"), (0, u "(II[B)V"), (7, .methodref 12 108), (0, .nameAndType 109 110), (0, u "newBytesFor"), (0, u "(I)[B"), (0, .methodref 12 112), (0, .nameAndType 113 114), (0, u "putChar"), (0, u "([BII)V"), (0, .methodref 12 116), (0, .nameAndType 117 118), (0, u "compress"), (0, u "([CI[BII)I"), (0, .methodref 12 120), (0, .nameAndType 121 122), (0, u "toBytes"), (0, u "([CII)[B"), (60, .methodref 184 185), (0, .class_ 186), (0, .nameAndType 187 188), (0, u "java/lang/Math"), (0, u "min"), (0, u "(II)I"), (35, .methodref 184 225), (0, .nameAndType 226 188), (0, u "max"), (0, .integer 65536), (0, .methodref 12 229), (0, .nameAndType 230 231), (0, u "indexOfChar"), (0, u "([BIII)I"), (9, .methodref 3 242), (0, .nameAndType 98 243), (0, u "(III)V"), (0, .methodref 12 245), (0, .nameAndType 246 231), (0, u "indexOfCharUnsafe"), (14, u "coderFromArrayLen"), (0, u "([BI)B"), (5, u "indexOf"), (100, .class_ 371), (1, u "java/lang/StringUTF16$LinesSpliterator"), (58, u "MAX_LENGTH"), (196, .class_ 628), (0, u "java/lang/StringUTF16$CodePointsSpliterator"), (0, .class_ 630), (0, u "java/lang/StringUTF16$CharsSpliterator")] 4

def k11m0 : Method := { name := "<init>", desc := "()V", sig := { parameters := [], returnType := none }, accessFlags := 0, code := none }
def k11c1 : Code := { maxStack := 1, maxLocals := 1, code := jdk_52_method_2_code, exceptionTable := #[], attributes := #[] }
def k11m1 : Method := { name := "newBytesFor", desc := "(I)[B", sig := { parameters := [.int], returnType := some (.array .byte) }, accessFlags := 9, code := some k11c1 }
def k11c2 : Code := { maxStack := 4, maxLocals := 1, code := jdk_52_method_3_code, exceptionTable := #[], attributes := #[] }
def k11m2 : Method := { name := "newBytesLength", desc := "(I)I", sig := { parameters := [.int], returnType := some .int }, accessFlags := 9, code := some k11c2 }
def k11c3 : Code := { maxStack := 4, maxLocals := 3, code := jdk_52_method_4_code, exceptionTable := #[], attributes := #[] }
def k11m3 : Method := { name := "putChar", desc := "([BII)V", sig := { parameters := [(.array .byte), .int, .int], returnType := none }, accessFlags := 8, code := some k11c3 }
def k11c4 : Code := { maxStack := 3, maxLocals := 2, code := jdk_52_method_5_code, exceptionTable := #[], attributes := #[] }
def k11m4 : Method := { name := "getChar", desc := "([BI)C", sig := { parameters := [(.array .byte), .int], returnType := some .char }, accessFlags := 8, code := some k11c4 }
def k11c5 : Code := { maxStack := 2, maxLocals := 1, code := jdk_52_method_6_code, exceptionTable := #[], attributes := #[] }
def k11m5 : Method := { name := "length", desc := "([B)I", sig := { parameters := [(.array .byte)], returnType := some .int }, accessFlags := 9, code := some k11c5 }
def k11c6 : Code := { maxStack := 4, maxLocals := 5, code := jdk_52_method_14_code, exceptionTable := #[], attributes := #[] }
def k11m6 : Method := { name := "toBytes", desc := "([CII)[B", sig := { parameters := [(.array .char), .int, .int], returnType := some (.array .byte) }, accessFlags := 9, code := some k11c6 }
def k11c7 : Code := { maxStack := 2, maxLocals := 2, code := jdk_52_method_15_code, exceptionTable := #[], attributes := #[] }
def k11m7 : Method := { name := "coderFromArrayLen", desc := "([BI)B", sig := { parameters := [(.array .byte), .int], returnType := some .byte }, accessFlags := 8, code := some k11c7 }
def k11c8 : Code := { maxStack := 5, maxLocals := 6, code := jdk_52_method_16_code, exceptionTable := #[], attributes := #[] }
def k11m8 : Method := { name := "compress", desc := "([CII)[B", sig := { parameters := [(.array .char), .int, .int], returnType := some (.array .byte) }, accessFlags := 9, code := some k11c8 }
def k11c9 : Code := { maxStack := 3, maxLocals := 7, code := jdk_52_method_21_code, exceptionTable := #[], attributes := #[] }
def k11m9 : Method := { name := "compress", desc := "([CI[BII)I", sig := { parameters := [(.array .char), .int, (.array .byte), .int, .int], returnType := some .int }, accessFlags := 9, code := some k11c9 }
def k11c10 : Code := { maxStack := 4, maxLocals := 4, code := jdk_52_method_40_code, exceptionTable := #[], attributes := #[] }
def k11m10 : Method := { name := "indexOf", desc := "([BIII)I", sig := { parameters := [(.array .byte), .int, .int, .int], returnType := some .int }, accessFlags := 9, code := some k11c10 }
def k11c11 : Code := { maxStack := 4, maxLocals := 4, code := jdk_52_method_47_code, exceptionTable := #[], attributes := #[] }
def k11m11 : Method := { name := "indexOfChar", desc := "([BIII)I", sig := { parameters := [(.array .byte), .int, .int, .int], returnType := some .int }, accessFlags := 10, code := some k11c11 }
def k11c12 : Code := { maxStack := 2, maxLocals := 5, code := jdk_52_method_48_code, exceptionTable := #[], attributes := #[] }
def k11m12 : Method := { name := "indexOfCharUnsafe", desc := "([BIII)I", sig := { parameters := [(.array .byte), .int, .int, .int], returnType := some .int }, accessFlags := 10, code := some k11c12 }
def k11c13 : Code := { maxStack := 3, maxLocals := 3, code := jdk_52_method_93_code, exceptionTable := #[], attributes := #[] }
def k11m13 : Method := { name := "checkBoundsBeginEnd", desc := "(II[B)V", sig := { parameters := [.int, .int, (.array .byte)], returnType := none }, accessFlags := 9, code := some k11c13 }
/-- java/lang/StringUTF16 -/
def k11 : Class := { plain "java/lang/StringUTF16" (some 0) with
  accessFlags := 48
  interfaces := #[]
  cf := some (fileOf pool11 12 #[.nestMembers #[627, 629, 369]] #[{ accessFlags := 0, nameIndex := 9, descriptorIndex := 10, attributes := #[] }, { accessFlags := 9, nameIndex := 109, descriptorIndex := 110, attributes := #[] }, { accessFlags := 9, nameIndex := 15, descriptorIndex := 16, attributes := #[] }, { accessFlags := 8, nameIndex := 113, descriptorIndex := 114, attributes := #[] }, { accessFlags := 8, nameIndex := 73, descriptorIndex := 74, attributes := #[] }, { accessFlags := 9, nameIndex := 50, descriptorIndex := 51, attributes := #[] }, { accessFlags := 9, nameIndex := 121, descriptorIndex := 122, attributes := #[] }, { accessFlags := 8, nameIndex := 261, descriptorIndex := 262, attributes := #[] }, { accessFlags := 9, nameIndex := 117, descriptorIndex := 122, attributes := #[] }, { accessFlags := 9, nameIndex := 117, descriptorIndex := 118, attributes := #[] }, { accessFlags := 9, nameIndex := 268, descriptorIndex := 231, attributes := #[] }, { accessFlags := 10, nameIndex := 230, descriptorIndex := 231, attributes := #[] }, { accessFlags := 10, nameIndex := 246, descriptorIndex := 231, attributes := #[] }, { accessFlags := 9, nameIndex := 98, descriptorIndex := 99, attributes := #[] }] 48 6 #[] #[{ accessFlags := 26, nameIndex := 61, descriptorIndex := 62, attributes := #[] }, { accessFlags := 26, nameIndex := 65, descriptorIndex := 62, attributes := #[] }, { accessFlags := 24, nameIndex := 430, descriptorIndex := 62, attributes := #[] }, { accessFlags := 4120, nameIndex := 46, descriptorIndex := 47, attributes := #[] }])
  fields := #[{ name := "HI_BYTE_SHIFT", type := .int, accessFlags := 26, slot := 0, constantValue := 0 }, { name := "LO_BYTE_SHIFT", type := .int, accessFlags := 26, slot := 1, constantValue := 0 }, { name := "MAX_LENGTH", type := .int, accessFlags := 24, slot := 2, constantValue := 0 }, { name := "$assertionsDisabled", type := .boolean, accessFlags := 4120, slot := 3, constantValue := 0 }]
  methods := #[k11m0, k11m1, k11m2, k11m3, k11m4, k11m5, k11m6, k11m7, k11m8, k11m9, k11m10, k11m11, k11m12, k11m13]
  instanceTypes := #[]
  staticTypes := #[.int, .int, .int, .boolean]
  resolved := Array.replicate 635 none
  statics := some 1 }

def pool12 : Array CpInfo := pool [(2, .class_ 4), (1, u "java/lang/Object"), (0, u "<init>"), (0, u "()V"), (17, .class_ 26), (1, u "jdk/internal/util/Preconditions"), (20, u "checkFromToIndex"), (7, .class_ 56), (0, u "jdk/internal/util/Preconditions$4"), (57, .class_ 115), (0, u "jdk/internal/util/Preconditions$1"), (7, u "SIOOBE_FORMATTER"), (0, u "Ljava/util/function/BiFunction;"), (0, .class_ 126), (0, u "jdk/internal/util/Preconditions$2"), (3, u "AIOOBE_FORMATTER"), (0, .class_ 132), (0, u "jdk/internal/util/Preconditions$3"), (3, u "IOOBE_FORMATTER"), (46, u "(IIILjava/util/function/BiFunction;)I")] 10

def k12m0 : Method := { name := "<init>", desc := "()V", sig := { parameters := [], returnType := none }, accessFlags := 1, code := none }
def k12c1 : Code := { maxStack := 4, maxLocals := 4, code := jdk_41_method_12_code, exceptionTable := #[], attributes := #[] }
def k12m1 : Method := { name := "checkFromToIndex", desc := "(IIILjava/util/function/BiFunction;)I", sig := { parameters := [.int, .int, .int, (.object "java/util/function/BiFunction")], returnType := some .int }, accessFlags := 9, code := some k12c1 }
/-- jdk/internal/util/Preconditions -/
def k12 : Class := { plain "jdk/internal/util/Preconditions" (some 0) with
  accessFlags := 33
  interfaces := #[]
  cf := some (fileOf pool12 24 #[.nestMembers #[55, 131, 125, 114]] #[{ accessFlags := 1, nameIndex := 5, descriptorIndex := 6, attributes := #[] }, { accessFlags := 9, nameIndex := 47, descriptorIndex := 183, attributes := #[] }] 33 2 #[] #[{ accessFlags := 25, nameIndex := 123, descriptorIndex := 124, attributes := #[] }, { accessFlags := 25, nameIndex := 130, descriptorIndex := 124, attributes := #[] }, { accessFlags := 25, nameIndex := 136, descriptorIndex := 124, attributes := #[] }])
  fields := #[{ name := "SIOOBE_FORMATTER", type := (.object "java/util/function/BiFunction"), accessFlags := 25, slot := 0, constantValue := 0 }, { name := "AIOOBE_FORMATTER", type := (.object "java/util/function/BiFunction"), accessFlags := 25, slot := 1, constantValue := 0 }, { name := "IOOBE_FORMATTER", type := (.object "java/util/function/BiFunction"), accessFlags := 25, slot := 2, constantValue := 0 }]
  methods := #[k12m0, k12m1]
  instanceTypes := #[]
  staticTypes := #[(.object "java/util/function/BiFunction"), (.object "java/util/function/BiFunction"), (.object "java/util/function/BiFunction")]
  resolved := Array.replicate 194 none
  statics := some 2 }

def pool13 : Array CpInfo := pool [(9, u "<init>"), (6, .class_ 18), (1, u "java/lang/Object"), (0, u "()V"), (1, .class_ 23), (1, u "jdk/internal/util/ArraysSupport"), (0, u "LOG2_ARRAY_LONG_INDEX_SCALE"), (0, u "I"), (2, u "U"), (0, u "Ljdk/internal/misc/Unsafe;"), (8, u "BIG_ENDIAN"), (0, u "Z"), (8, u "LOG2_BYTE_BIT_SIZE"), (4, u "LOG2_ARRAY_INT_INDEX_SCALE"), (54, u "JLA"), (0, u "Ljdk/internal/access/JavaLangAccess;"), (11, u "LOG2_ARRAY_BOOLEAN_INDEX_SCALE"), (9, u "LOG2_ARRAY_BYTE_INDEX_SCALE"), (5, u "LOG2_ARRAY_CHAR_INDEX_SCALE"), (5, u "LOG2_ARRAY_SHORT_INDEX_SCALE"), (18, u "LOG2_ARRAY_FLOAT_INDEX_SCALE"), (24, u "LOG2_ARRAY_DOUBLE_INDEX_SCALE"), (89, u "T_BOOLEAN"), (2, u "T_CHAR"), (1, u "T_FLOAT"), (1, u "T_DOUBLE"), (1, u "T_BYTE"), (1, u "T_SHORT"), (1, u "T_INT"), (1, u "T_LONG"), (1, u "SOFT_MAX_ARRAY_LENGTH")] 83

def k13m0 : Method := { name := "<init>", desc := "()V", sig := { parameters := [], returnType := none }, accessFlags := 2, code := none }
/-- jdk/internal/util/ArraysSupport -/
def k13 : Class := { plain "jdk/internal/util/ArraysSupport" (some 0) with
  accessFlags := 33
  interfaces := #[]
  cf := some (fileOf pool13 21 #[] #[{ accessFlags := 2, nameIndex := 9, descriptorIndex := 19, attributes := #[] }] 33 16 #[] #[{ accessFlags := 24, nameIndex := 28, descriptorIndex := 29, attributes := #[] }, { accessFlags := 26, nameIndex := 38, descriptorIndex := 39, attributes := #[] }, { accessFlags := 25, nameIndex := 121, descriptorIndex := 25, attributes := #[] }, { accessFlags := 25, nameIndex := 131, descriptorIndex := 25, attributes := #[] }, { accessFlags := 25, nameIndex := 137, descriptorIndex := 25, attributes := #[] }, { accessFlags := 25, nameIndex := 143, descriptorIndex := 25, attributes := #[] }, { accessFlags := 25, nameIndex := 53, descriptorIndex := 25, attributes := #[] }, { accessFlags := 25, nameIndex := 24, descriptorIndex := 25, attributes := #[] }, { accessFlags := 25, nameIndex := 162, descriptorIndex := 25, attributes := #[] }, { accessFlags := 25, nameIndex := 187, descriptorIndex := 25, attributes := #[] }, { accessFlags := 26, nameIndex := 48, descriptorIndex := 25, attributes := #[] }, { accessFlags := 25, nameIndex := 277, descriptorIndex := 25, attributes := #[] }, { accessFlags := 25, nameIndex := 280, descriptorIndex := 25, attributes := #[] }, { accessFlags := 25, nameIndex := 282, descriptorIndex := 25, attributes := #[] }, { accessFlags := 25, nameIndex := 284, descriptorIndex := 25, attributes := #[] }, { accessFlags := 25, nameIndex := 286, descriptorIndex := 25, attributes := #[] }, { accessFlags := 25, nameIndex := 288, descriptorIndex := 25, attributes := #[] }, { accessFlags := 25, nameIndex := 290, descriptorIndex := 25, attributes := #[] }, { accessFlags := 25, nameIndex := 292, descriptorIndex := 25, attributes := #[] }, { accessFlags := 26, nameIndex := 108, descriptorIndex := 109, attributes := #[] }, { accessFlags := 25, nameIndex := 294, descriptorIndex := 25, attributes := #[] }])
  fields := #[{ name := "U", type := (.object "jdk/internal/misc/Unsafe"), accessFlags := 24, slot := 0, constantValue := 0 }, { name := "BIG_ENDIAN", type := .boolean, accessFlags := 26, slot := 1, constantValue := 0 }, { name := "LOG2_ARRAY_BOOLEAN_INDEX_SCALE", type := .int, accessFlags := 25, slot := 2, constantValue := 0 }, { name := "LOG2_ARRAY_BYTE_INDEX_SCALE", type := .int, accessFlags := 25, slot := 3, constantValue := 0 }, { name := "LOG2_ARRAY_CHAR_INDEX_SCALE", type := .int, accessFlags := 25, slot := 4, constantValue := 0 }, { name := "LOG2_ARRAY_SHORT_INDEX_SCALE", type := .int, accessFlags := 25, slot := 5, constantValue := 0 }, { name := "LOG2_ARRAY_INT_INDEX_SCALE", type := .int, accessFlags := 25, slot := 6, constantValue := 0 }, { name := "LOG2_ARRAY_LONG_INDEX_SCALE", type := .int, accessFlags := 25, slot := 7, constantValue := 0 }, { name := "LOG2_ARRAY_FLOAT_INDEX_SCALE", type := .int, accessFlags := 25, slot := 8, constantValue := 0 }, { name := "LOG2_ARRAY_DOUBLE_INDEX_SCALE", type := .int, accessFlags := 25, slot := 9, constantValue := 0 }, { name := "LOG2_BYTE_BIT_SIZE", type := .int, accessFlags := 26, slot := 10, constantValue := 0 }, { name := "T_BOOLEAN", type := .int, accessFlags := 25, slot := 11, constantValue := 0 }, { name := "T_CHAR", type := .int, accessFlags := 25, slot := 12, constantValue := 0 }, { name := "T_FLOAT", type := .int, accessFlags := 25, slot := 13, constantValue := 0 }, { name := "T_DOUBLE", type := .int, accessFlags := 25, slot := 14, constantValue := 0 }, { name := "T_BYTE", type := .int, accessFlags := 25, slot := 15, constantValue := 0 }, { name := "T_SHORT", type := .int, accessFlags := 25, slot := 16, constantValue := 0 }, { name := "T_INT", type := .int, accessFlags := 25, slot := 17, constantValue := 0 }, { name := "T_LONG", type := .int, accessFlags := 25, slot := 18, constantValue := 0 }, { name := "JLA", type := (.object "jdk/internal/access/JavaLangAccess"), accessFlags := 26, slot := 19, constantValue := 0 }, { name := "SOFT_MAX_ARRAY_LENGTH", type := .int, accessFlags := 25, slot := 20, constantValue := 0 }]
  methods := #[k13m0]
  instanceTypes := #[]
  staticTypes := #[(.object "jdk/internal/misc/Unsafe"), .boolean, .int, .int, .int, .int, .int, .int, .int, .int, .int, .int, .int, .int, .int, .int, .int, .int, .int, (.object "jdk/internal/access/JavaLangAccess"), .int]
  resolved := Array.replicate 378 none
  statics := none }

def pool14 : Array CpInfo := pool [(1, u "java/lang/Cloneable"), (0, .class_ 1), (0, u "java/lang/Object"), (0, .class_ 3)] 3

/-- java/lang/Cloneable -/
def k14 : Class := { plain "java/lang/Cloneable" (some 0) with
  accessFlags := 1537
  interfaces := #[]
  cf := some (fileOf pool14 2 #[] #[] 1537 4 #[] #[])
  fields := #[]
  methods := #[]
  instanceTypes := #[]
  staticTypes := #[]
  resolved := Array.replicate 8 none
  statics := none }

/-- the primitive byte -/
def k15 : Class := { plain "byte" none with kind := .primitive 'B', accessFlags := 0x411 }
/-- [B -/
def k16 : Class := { plain "[B" (some 0) with kind := .array 15 .byte, interfaces := #[14, 2], accessFlags := 1041 }

/-- the primitive char -/
def k17 : Class := { plain "char" none with kind := .primitive 'C', accessFlags := 0x411 }
/-- [C -/
def k18 : Class := { plain "[C" (some 0) with kind := .array 17 .char, interfaces := #[14, 2], accessFlags := 1041 }

/-- the primitive int -/
def k19 : Class := { plain "int" none with kind := .primitive 'I', accessFlags := 0x411 }
/-- [I -/
def k20 : Class := { plain "[I" (some 0) with kind := .array 19 .int, interfaces := #[14, 2], accessFlags := 1041 }

def heap : Heap := #[{ cls := 7, slots := #[.long 0, .int 1, .null, .int 0, .null, .int 0, .int 0], vm := .statics 7 },
  { cls := 11, slots := #[.int 0, .int 8, .int 0, .int 1], vm := .statics 11 },
  { cls := 12, slots := #[.null, .null, .null], vm := .statics 12 }]
def classes : Array Class := #[k0, k1, k2, k3, k4, k5, k6, k7, k8, k9, k10, k11, k12, k13, k14, k15, k16, k17, k18, k19, k20]
def interned : List (Array UInt16 × Addr) := []
def slotsUsed : Nat := 14
def theMethod : MethodId := ⟨1, 3⟩
def args0 : Array Value := #[.int 5, .int 65537, .int 65538, .int 65539, .int 65540]
def aboutOver (below : List Frame) : State where
  vm := { classes := classes, interned := interned.toArray }
  heap := heap
  slotsUsed := slotsUsed
  threads := #[{ frames := .invoking theMethod args0 :: below }]
def below0 : List Frame := [.native { method := ⟨0, 0⟩, args := #[] }]
def about1 : State := aboutOver below0
def p0 : Program := .bare "" "" ""
def e0 : Env := launch0.env 0 0 0
theorem w_frames : about1.frames = Frame.invoking theMethod args0 :: below0 := rfl
set_option maxRecDepth 65536 in
theorem w_args : argsFit about1.vm theMethod args0 = true := by decide +kernel
set_option maxRecDepth 65536 in
theorem w_heap : heapFits about1 = true := by decide +kernel
set_option maxRecDepth 65536 in
theorem w_runnable : about1.curStatus? = some .runnable := by decide +kernel
set_option maxRecDepth 65536 in
theorem w_alone : about1.alone = true := by decide +kernel
set_option maxRecDepth 65536 in
theorem w_named : about1.methodNamed? x = some theMethod := by decide +kernel
set_option maxRecDepth 65536 in
theorem w_hears : about1.hears theMethod below0 = true := by decide +kernel
set_option maxRecDepth 65536 in
theorem w_ripe : about1.ripe theMethod args0 below0 = true := by decide +kernel
theorem w_running : about1.status = .running := rfl
set_option maxRecDepth 65536 in
theorem w_room : about1.hasRoom e0.platform room_1 = true :=
  launch0.hasRoom_least _ room_1 (by decide +kernel) (by decide +kernel) (by decide +kernel) (by decide +kernel) (by decide +kernel) (by decide +kernel)
theorem allAtoms_all (ts : List Jvm.Cond) (a : Array Jvm.Value) (st : Jvm.State) : (allAtoms ts).before a st = ts.all (fun c => c.before a st) := by
  induction ts with
  | nil => rfl
  | cons c t ih =>
    show (Jvm.Cond.and c (allAtoms t)).before a st = _
    rw [Jvm.Cond.before_and, ih, List.all_cons]
def words1 : List Jvm.Cond := Jvm.Cond.code x code maxLocals ret :: tables_1
/-- a 'code' word, met by the world's own term for the bytes: nothing is compared byte by byte -/
theorem code_word {y : MethodName} {bytes : ByteArray} {mx : Nat} {rt : Option FieldType} {a : Array Value} {s : State} {m : MethodId} {meth : Method} {c : Code} (h1 : s.methodNamed? y = some m) (h2 : s.vm.method? m = some meth) (h3 : meth.code = some c) (h4 : c.code = bytes)
    (h5 : (c.maxLocals == mx && c.exceptionTable.isEmpty && decide (c.maxStack ≤ mostOperands) && decide (meth.sig.returnType = rt) && !meth.locks && decide (parseMethodDescriptor y.desc = some meth.sig)) = true) : (Jvm.Cond.code y bytes mx rt).before a s = true := by
  simp only [Bool.and_eq_true, beq_iff_eq, Bool.not_eq_true', decide_eq_true_eq] at h5
  obtain ⟨⟨⟨⟨⟨g1, g2⟩, g3⟩, g4⟩, g5⟩, g6⟩ := h5
  simp [Cond.before, Cond.holds, Cond.value, h1, h2, h3, h4, g1, g2, g3, g4, g5, g6]
def isCode : Jvm.Cond → Bool
  | .code _ _ _ _ => true
  | _ => false
theorem all_split {L : List Jvm.Cond} {P : Jvm.Cond → Bool} (h1 : L.all (fun c => isCode c || P c) = true) (h2 : ∀ c ∈ L.filter isCode, P c = true) : L.all P = true := by
  refine List.all_eq_true.mpr fun c hc => ?_
  have h := List.all_eq_true.mp h1 c hc
  rcases Bool.eq_false_or_eq_true (isCode c) with hi | hi
  · exact h2 c (List.mem_filter.mpr ⟨hc, hi⟩)
  · simpa [hi] using h
set_option maxRecDepth 65536 in
theorem w_c0 : (Jvm.Cond.code x code maxLocals ret).before args0 about1 = true := code_word (m := ⟨1, 3⟩) (meth := k1m3) (c := k1c3) (by decide +kernel) rfl rfl rfl (by decide +kernel)
set_option maxRecDepth 65536 in
theorem w_c1 : (Jvm.Cond.code ({ cls := "purlin/config/NamePatternIsPatternPinLaw", name := "ch", desc := "(I)C" } : Jvm.MethodName) method_2_code (1 : Nat) (Option.some Jvm.ClassFile.FieldType.char)).before args0 about1 = true := code_word (m := ⟨1, 1⟩) (meth := k1m1) (c := k1c1) (by decide +kernel) rfl rfl rfl (by decide +kernel)
set_option maxRecDepth 65536 in
theorem w_c2 : (Jvm.Cond.code ({ cls := "purlin/config/NamePatternIsPatternPinLaw", name := "str", desc := "(ICCCC)Ljava/lang/String;" } : Jvm.MethodName) method_3_code (5 : Nat) (Option.some (Jvm.ClassFile.FieldType.object "java/lang/String"))).before args0 about1 = true := code_word (m := ⟨1, 2⟩) (meth := k1m2) (c := k1c2) (by decide +kernel) rfl rfl rfl (by decide +kernel)
set_option maxRecDepth 65536 in
theorem w_c3 : (Jvm.Cond.code ({ cls := "java/lang/String", name := "<init>", desc := "([C)V" } : Jvm.MethodName) jdk_42_method_3_code (2 : Nat) (Option.none : Option Jvm.ClassFile.FieldType)).before args0 about1 = true := code_word (m := ⟨7, 1⟩) (meth := k7m1) (c := k7c1) (by decide +kernel) rfl rfl rfl (by decide +kernel)
set_option maxRecDepth 65536 in
theorem w_c4 : (Jvm.Cond.code ({ cls := "java/lang/String", name := "<init>", desc := "([CIILjava/lang/Void;)V" } : Jvm.MethodName) jdk_42_method_149_code (6 : Nat) (Option.none : Option Jvm.ClassFile.FieldType)).before args0 about1 = true := code_word (m := ⟨7, 5⟩) (meth := k7m5) (c := k7c5) (by decide +kernel) rfl rfl rfl (by decide +kernel)
set_option maxRecDepth 65536 in
theorem w_c5 : (Jvm.Cond.code ({ cls := "java/lang/Object", name := "<init>", desc := "()V" } : Jvm.MethodName) object_method_1_code (1 : Nat) (Option.none : Option Jvm.ClassFile.FieldType)).before args0 about1 = true := code_word (m := ⟨0, 0⟩) (meth := k0m0) (c := k0c0) (by decide +kernel) rfl rfl rfl (by decide +kernel)
set_option maxRecDepth 65536 in
theorem w_c6 : (Jvm.Cond.code ({ cls := "purlin/config/NamePattern", name := "isPattern", desc := "(Ljava/lang/String;)Z" } : Jvm.MethodName) prog_24_method_2_code (1 : Nat) (Option.some Jvm.ClassFile.FieldType.boolean)).before args0 about1 = true := code_word (m := ⟨8, 0⟩) (meth := k8m0) (c := k8c0) (by decide +kernel) rfl rfl rfl (by decide +kernel)
set_option maxRecDepth 65536 in
theorem w_c7 : (Jvm.Cond.code ({ cls := "java/lang/String", name := "indexOf", desc := "(I)I" } : Jvm.MethodName) jdk_42_method_79_code (2 : Nat) (Option.some Jvm.ClassFile.FieldType.int)).before args0 about1 = true := code_word (m := ⟨7, 3⟩) (meth := k7m3) (c := k7c3) (by decide +kernel) rfl rfl rfl (by decide +kernel)
set_option maxRecDepth 65536 in
theorem w_c8 : (Jvm.Cond.code ({ cls := "java/lang/String", name := "indexOf", desc := "(II)I" } : Jvm.MethodName) jdk_42_method_80_code (3 : Nat) (Option.some Jvm.ClassFile.FieldType.int)).before args0 about1 = true := code_word (m := ⟨7, 4⟩) (meth := k7m4) (c := k7c4) (by decide +kernel) rfl rfl rfl (by decide +kernel)
set_option maxRecDepth 65536 in
theorem w_c9 : (Jvm.Cond.code ({ cls := "java/lang/String", name := "isLatin1", desc := "()Z" } : Jvm.MethodName) jdk_42_method_154_code (1 : Nat) (Option.some Jvm.ClassFile.FieldType.boolean)).before args0 about1 = true := code_word (m := ⟨7, 7⟩) (meth := k7m7) (c := k7c7) (by decide +kernel) rfl rfl rfl (by decide +kernel)
set_option maxRecDepth 65536 in
theorem w_c10 : (Jvm.Cond.code ({ cls := "java/lang/String", name := "length", desc := "()I" } : Jvm.MethodName) jdk_42_method_54_code (1 : Nat) (Option.some Jvm.ClassFile.FieldType.int)).before args0 about1 = true := code_word (m := ⟨7, 2⟩) (meth := k7m2) (c := k7c2) (by decide +kernel) rfl rfl rfl (by decide +kernel)
set_option maxRecDepth 65536 in
theorem w_c11 : (Jvm.Cond.code ({ cls := "java/lang/String", name := "coder", desc := "()B" } : Jvm.MethodName) jdk_42_method_152_code (1 : Nat) (Option.some Jvm.ClassFile.FieldType.byte)).before args0 about1 = true := code_word (m := ⟨7, 6⟩) (meth := k7m6) (c := k7c6) (by decide +kernel) rfl rfl rfl (by decide +kernel)
set_option maxRecDepth 65536 in
theorem w_c12 : (Jvm.Cond.code ({ cls := "java/lang/StringLatin1", name := "indexOf", desc := "([BIII)I" } : Jvm.MethodName) jdk_43_method_22_code (4 : Nat) (Option.some Jvm.ClassFile.FieldType.int)).before args0 about1 = true := code_word (m := ⟨9, 2⟩) (meth := k9m2) (c := k9c2) (by decide +kernel) rfl rfl rfl (by decide +kernel)
set_option maxRecDepth 65536 in
theorem w_c13 : (Jvm.Cond.code ({ cls := "java/lang/StringLatin1", name := "canEncode", desc := "(I)Z" } : Jvm.MethodName) jdk_43_method_4_code (1 : Nat) (Option.some Jvm.ClassFile.FieldType.boolean)).before args0 about1 = true := code_word (m := ⟨9, 1⟩) (meth := k9m1) (c := k9c1) (by decide +kernel) rfl rfl rfl (by decide +kernel)
set_option maxRecDepth 65536 in
theorem w_c14 : (Jvm.Cond.code ({ cls := "java/lang/Math", name := "max", desc := "(II)I" } : Jvm.MethodName) jdk_29_method_65_code (2 : Nat) (Option.some Jvm.ClassFile.FieldType.int)).before args0 about1 = true := code_word (m := ⟨10, 1⟩) (meth := k10m1) (c := k10c1) (by decide +kernel) rfl rfl rfl (by decide +kernel)
set_option maxRecDepth 65536 in
theorem w_c15 : (Jvm.Cond.code ({ cls := "java/lang/Math", name := "min", desc := "(II)I" } : Jvm.MethodName) jdk_29_method_69_code (2 : Nat) (Option.some Jvm.ClassFile.FieldType.int)).before args0 about1 = true := code_word (m := ⟨10, 2⟩) (meth := k10m2) (c := k10c2) (by decide +kernel) rfl rfl rfl (by decide +kernel)
set_option maxRecDepth 65536 in
theorem w_c16 : (Jvm.Cond.code ({ cls := "java/lang/StringUTF16", name := "compress", desc := "([CII)[B" } : Jvm.MethodName) jdk_52_method_16_code (6 : Nat) (Option.some (Jvm.ClassFile.FieldType.array Jvm.ClassFile.FieldType.byte))).before args0 about1 = true := code_word (m := ⟨11, 8⟩) (meth := k11m8) (c := k11c8) (by decide +kernel) rfl rfl rfl (by decide +kernel)
set_option maxRecDepth 65536 in
theorem w_c17 : (Jvm.Cond.code ({ cls := "java/lang/StringUTF16", name := "compress", desc := "([CI[BII)I" } : Jvm.MethodName) jdk_52_method_21_code (7 : Nat) (Option.some Jvm.ClassFile.FieldType.int)).before args0 about1 = true := code_word (m := ⟨11, 9⟩) (meth := k11m9) (c := k11c9) (by decide +kernel) rfl rfl rfl (by decide +kernel)
set_option maxRecDepth 65536 in
theorem w_c18 : (Jvm.Cond.code ({ cls := "java/lang/StringUTF16", name := "coderFromArrayLen", desc := "([BI)B" } : Jvm.MethodName) jdk_52_method_15_code (2 : Nat) (Option.some Jvm.ClassFile.FieldType.byte)).before args0 about1 = true := code_word (m := ⟨11, 7⟩) (meth := k11m7) (c := k11c7) (by decide +kernel) rfl rfl rfl (by decide +kernel)
set_option maxRecDepth 65536 in
theorem w_c19 : (Jvm.Cond.code ({ cls := "java/lang/StringLatin1", name := "indexOfChar", desc := "([BIII)I" } : Jvm.MethodName) jdk_43_method_23_code (6 : Nat) (Option.some Jvm.ClassFile.FieldType.int)).before args0 about1 = true := code_word (m := ⟨9, 3⟩) (meth := k9m3) (c := k9c3) (by decide +kernel) rfl rfl rfl (by decide +kernel)
set_option maxRecDepth 65536 in
theorem w_c20 : (Jvm.Cond.code ({ cls := "java/lang/StringUTF16", name := "toBytes", desc := "([CII)[B" } : Jvm.MethodName) jdk_52_method_14_code (5 : Nat) (Option.some (Jvm.ClassFile.FieldType.array Jvm.ClassFile.FieldType.byte))).before args0 about1 = true := code_word (m := ⟨11, 6⟩) (meth := k11m6) (c := k11c6) (by decide +kernel) rfl rfl rfl (by decide +kernel)
set_option maxRecDepth 65536 in
theorem w_c21 : (Jvm.Cond.code ({ cls := "java/lang/StringUTF16", name := "newBytesFor", desc := "(I)[B" } : Jvm.MethodName) jdk_52_method_2_code (1 : Nat) (Option.some (Jvm.ClassFile.FieldType.array Jvm.ClassFile.FieldType.byte))).before args0 about1 = true := code_word (m := ⟨11, 1⟩) (meth := k11m1) (c := k11c1) (by decide +kernel) rfl rfl rfl (by decide +kernel)
set_option maxRecDepth 65536 in
theorem w_c22 : (Jvm.Cond.code ({ cls := "java/lang/StringUTF16", name := "newBytesLength", desc := "(I)I" } : Jvm.MethodName) jdk_52_method_3_code (1 : Nat) (Option.some Jvm.ClassFile.FieldType.int)).before args0 about1 = true := code_word (m := ⟨11, 2⟩) (meth := k11m2) (c := k11c2) (by decide +kernel) rfl rfl rfl (by decide +kernel)
set_option maxRecDepth 65536 in
theorem w_c23 : (Jvm.Cond.code ({ cls := "java/lang/StringUTF16", name := "putChar", desc := "([BII)V" } : Jvm.MethodName) jdk_52_method_4_code (3 : Nat) (Option.none : Option Jvm.ClassFile.FieldType)).before args0 about1 = true := code_word (m := ⟨11, 3⟩) (meth := k11m3) (c := k11c3) (by decide +kernel) rfl rfl rfl (by decide +kernel)
set_option maxRecDepth 65536 in
theorem w_c24 : (Jvm.Cond.code ({ cls := "java/lang/StringUTF16", name := "getChar", desc := "([BI)C" } : Jvm.MethodName) jdk_52_method_5_code (2 : Nat) (Option.some Jvm.ClassFile.FieldType.char)).before args0 about1 = true := code_word (m := ⟨11, 4⟩) (meth := k11m4) (c := k11c4) (by decide +kernel) rfl rfl rfl (by decide +kernel)
set_option maxRecDepth 65536 in
theorem w_c25 : (Jvm.Cond.code ({ cls := "java/lang/StringUTF16", name := "indexOf", desc := "([BIII)I" } : Jvm.MethodName) jdk_52_method_40_code (4 : Nat) (Option.some Jvm.ClassFile.FieldType.int)).before args0 about1 = true := code_word (m := ⟨11, 10⟩) (meth := k11m10) (c := k11c10) (by decide +kernel) rfl rfl rfl (by decide +kernel)
set_option maxRecDepth 65536 in
theorem w_c26 : (Jvm.Cond.code ({ cls := "java/lang/StringUTF16", name := "indexOfChar", desc := "([BIII)I" } : Jvm.MethodName) jdk_52_method_47_code (4 : Nat) (Option.some Jvm.ClassFile.FieldType.int)).before args0 about1 = true := code_word (m := ⟨11, 11⟩) (meth := k11m11) (c := k11c11) (by decide +kernel) rfl rfl rfl (by decide +kernel)
set_option maxRecDepth 65536 in
theorem w_c27 : (Jvm.Cond.code ({ cls := "java/lang/StringUTF16", name := "checkBoundsBeginEnd", desc := "(II[B)V" } : Jvm.MethodName) jdk_52_method_93_code (3 : Nat) (Option.none : Option Jvm.ClassFile.FieldType)).before args0 about1 = true := code_word (m := ⟨11, 13⟩) (meth := k11m13) (c := k11c13) (by decide +kernel) rfl rfl rfl (by decide +kernel)
set_option maxRecDepth 65536 in
theorem w_c28 : (Jvm.Cond.code ({ cls := "java/lang/StringUTF16", name := "length", desc := "([B)I" } : Jvm.MethodName) jdk_52_method_6_code (1 : Nat) (Option.some Jvm.ClassFile.FieldType.int)).before args0 about1 = true := code_word (m := ⟨11, 5⟩) (meth := k11m5) (c := k11c5) (by decide +kernel) rfl rfl rfl (by decide +kernel)
set_option maxRecDepth 65536 in
theorem w_c29 : (Jvm.Cond.code ({ cls := "java/lang/String", name := "checkBoundsBeginEnd", desc := "(III)V" } : Jvm.MethodName) jdk_42_method_158_code (3 : Nat) (Option.none : Option Jvm.ClassFile.FieldType)).before args0 about1 = true := code_word (m := ⟨7, 8⟩) (meth := k7m8) (c := k7c8) (by decide +kernel) rfl rfl rfl (by decide +kernel)
set_option maxRecDepth 65536 in
theorem w_c30 : (Jvm.Cond.code ({ cls := "jdk/internal/util/Preconditions", name := "checkFromToIndex", desc := "(IIILjava/util/function/BiFunction;)I" } : Jvm.MethodName) jdk_41_method_12_code (4 : Nat) (Option.some Jvm.ClassFile.FieldType.int)).before args0 about1 = true := code_word (m := ⟨12, 1⟩) (meth := k12m1) (c := k12c1) (by decide +kernel) rfl rfl rfl (by decide +kernel)
set_option maxRecDepth 65536 in
theorem w_c31 : (Jvm.Cond.code ({ cls := "java/lang/StringUTF16", name := "indexOfCharUnsafe", desc := "([BIII)I" } : Jvm.MethodName) jdk_52_method_48_code (5 : Nat) (Option.some Jvm.ClassFile.FieldType.int)).before args0 about1 = true := code_word (m := ⟨11, 12⟩) (meth := k11m12) (c := k11c12) (by decide +kernel) rfl rfl rfl (by decide +kernel)
def codes1 : List Jvm.Cond := [Jvm.Cond.code x code maxLocals ret, Jvm.Cond.code ({ cls := "purlin/config/NamePatternIsPatternPinLaw", name := "ch", desc := "(I)C" } : Jvm.MethodName) method_2_code (1 : Nat) (Option.some Jvm.ClassFile.FieldType.char), Jvm.Cond.code ({ cls := "purlin/config/NamePatternIsPatternPinLaw", name := "str", desc := "(ICCCC)Ljava/lang/String;" } : Jvm.MethodName) method_3_code (5 : Nat) (Option.some (Jvm.ClassFile.FieldType.object "java/lang/String")), Jvm.Cond.code ({ cls := "java/lang/String", name := "<init>", desc := "([C)V" } : Jvm.MethodName) jdk_42_method_3_code (2 : Nat) (Option.none : Option Jvm.ClassFile.FieldType), Jvm.Cond.code ({ cls := "java/lang/String", name := "<init>", desc := "([CIILjava/lang/Void;)V" } : Jvm.MethodName) jdk_42_method_149_code (6 : Nat) (Option.none : Option Jvm.ClassFile.FieldType), Jvm.Cond.code ({ cls := "java/lang/Object", name := "<init>", desc := "()V" } : Jvm.MethodName) object_method_1_code (1 : Nat) (Option.none : Option Jvm.ClassFile.FieldType), Jvm.Cond.code ({ cls := "purlin/config/NamePattern", name := "isPattern", desc := "(Ljava/lang/String;)Z" } : Jvm.MethodName) prog_24_method_2_code (1 : Nat) (Option.some Jvm.ClassFile.FieldType.boolean), Jvm.Cond.code ({ cls := "java/lang/String", name := "indexOf", desc := "(I)I" } : Jvm.MethodName) jdk_42_method_79_code (2 : Nat) (Option.some Jvm.ClassFile.FieldType.int), Jvm.Cond.code ({ cls := "java/lang/String", name := "indexOf", desc := "(II)I" } : Jvm.MethodName) jdk_42_method_80_code (3 : Nat) (Option.some Jvm.ClassFile.FieldType.int), Jvm.Cond.code ({ cls := "java/lang/String", name := "isLatin1", desc := "()Z" } : Jvm.MethodName) jdk_42_method_154_code (1 : Nat) (Option.some Jvm.ClassFile.FieldType.boolean), Jvm.Cond.code ({ cls := "java/lang/String", name := "length", desc := "()I" } : Jvm.MethodName) jdk_42_method_54_code (1 : Nat) (Option.some Jvm.ClassFile.FieldType.int), Jvm.Cond.code ({ cls := "java/lang/String", name := "coder", desc := "()B" } : Jvm.MethodName) jdk_42_method_152_code (1 : Nat) (Option.some Jvm.ClassFile.FieldType.byte), Jvm.Cond.code ({ cls := "java/lang/StringLatin1", name := "indexOf", desc := "([BIII)I" } : Jvm.MethodName) jdk_43_method_22_code (4 : Nat) (Option.some Jvm.ClassFile.FieldType.int), Jvm.Cond.code ({ cls := "java/lang/StringLatin1", name := "canEncode", desc := "(I)Z" } : Jvm.MethodName) jdk_43_method_4_code (1 : Nat) (Option.some Jvm.ClassFile.FieldType.boolean), Jvm.Cond.code ({ cls := "java/lang/Math", name := "max", desc := "(II)I" } : Jvm.MethodName) jdk_29_method_65_code (2 : Nat) (Option.some Jvm.ClassFile.FieldType.int), Jvm.Cond.code ({ cls := "java/lang/Math", name := "min", desc := "(II)I" } : Jvm.MethodName) jdk_29_method_69_code (2 : Nat) (Option.some Jvm.ClassFile.FieldType.int), Jvm.Cond.code ({ cls := "java/lang/StringUTF16", name := "compress", desc := "([CII)[B" } : Jvm.MethodName) jdk_52_method_16_code (6 : Nat) (Option.some (Jvm.ClassFile.FieldType.array Jvm.ClassFile.FieldType.byte)), Jvm.Cond.code ({ cls := "java/lang/StringUTF16", name := "compress", desc := "([CI[BII)I" } : Jvm.MethodName) jdk_52_method_21_code (7 : Nat) (Option.some Jvm.ClassFile.FieldType.int), Jvm.Cond.code ({ cls := "java/lang/StringUTF16", name := "coderFromArrayLen", desc := "([BI)B" } : Jvm.MethodName) jdk_52_method_15_code (2 : Nat) (Option.some Jvm.ClassFile.FieldType.byte), Jvm.Cond.code ({ cls := "java/lang/StringLatin1", name := "indexOfChar", desc := "([BIII)I" } : Jvm.MethodName) jdk_43_method_23_code (6 : Nat) (Option.some Jvm.ClassFile.FieldType.int), Jvm.Cond.code ({ cls := "java/lang/StringUTF16", name := "toBytes", desc := "([CII)[B" } : Jvm.MethodName) jdk_52_method_14_code (5 : Nat) (Option.some (Jvm.ClassFile.FieldType.array Jvm.ClassFile.FieldType.byte)), Jvm.Cond.code ({ cls := "java/lang/StringUTF16", name := "newBytesFor", desc := "(I)[B" } : Jvm.MethodName) jdk_52_method_2_code (1 : Nat) (Option.some (Jvm.ClassFile.FieldType.array Jvm.ClassFile.FieldType.byte)), Jvm.Cond.code ({ cls := "java/lang/StringUTF16", name := "newBytesLength", desc := "(I)I" } : Jvm.MethodName) jdk_52_method_3_code (1 : Nat) (Option.some Jvm.ClassFile.FieldType.int), Jvm.Cond.code ({ cls := "java/lang/StringUTF16", name := "putChar", desc := "([BII)V" } : Jvm.MethodName) jdk_52_method_4_code (3 : Nat) (Option.none : Option Jvm.ClassFile.FieldType), Jvm.Cond.code ({ cls := "java/lang/StringUTF16", name := "getChar", desc := "([BI)C" } : Jvm.MethodName) jdk_52_method_5_code (2 : Nat) (Option.some Jvm.ClassFile.FieldType.char), Jvm.Cond.code ({ cls := "java/lang/StringUTF16", name := "indexOf", desc := "([BIII)I" } : Jvm.MethodName) jdk_52_method_40_code (4 : Nat) (Option.some Jvm.ClassFile.FieldType.int), Jvm.Cond.code ({ cls := "java/lang/StringUTF16", name := "indexOfChar", desc := "([BIII)I" } : Jvm.MethodName) jdk_52_method_47_code (4 : Nat) (Option.some Jvm.ClassFile.FieldType.int), Jvm.Cond.code ({ cls := "java/lang/StringUTF16", name := "checkBoundsBeginEnd", desc := "(II[B)V" } : Jvm.MethodName) jdk_52_method_93_code (3 : Nat) (Option.none : Option Jvm.ClassFile.FieldType), Jvm.Cond.code ({ cls := "java/lang/StringUTF16", name := "length", desc := "([B)I" } : Jvm.MethodName) jdk_52_method_6_code (1 : Nat) (Option.some Jvm.ClassFile.FieldType.int), Jvm.Cond.code ({ cls := "java/lang/String", name := "checkBoundsBeginEnd", desc := "(III)V" } : Jvm.MethodName) jdk_42_method_158_code (3 : Nat) (Option.none : Option Jvm.ClassFile.FieldType), Jvm.Cond.code ({ cls := "jdk/internal/util/Preconditions", name := "checkFromToIndex", desc := "(IIILjava/util/function/BiFunction;)I" } : Jvm.MethodName) jdk_41_method_12_code (4 : Nat) (Option.some Jvm.ClassFile.FieldType.int), Jvm.Cond.code ({ cls := "java/lang/StringUTF16", name := "indexOfCharUnsafe", desc := "([BIII)I" } : Jvm.MethodName) jdk_52_method_48_code (5 : Nat) (Option.some Jvm.ClassFile.FieldType.int)]
set_option maxRecDepth 65536 in
theorem codes_eq : words1.filter isCode = codes1 := rfl
theorem w_codes : ∀ c ∈ words1.filter isCode, c.before args0 about1 = true := by
  rw [codes_eq]
  intro c hc
  simp only [codes1, List.mem_cons, List.not_mem_nil, or_false] at hc
  rcases hc with rfl | rfl | rfl | rfl | rfl | rfl | rfl | rfl | rfl | rfl | rfl | rfl | rfl | rfl | rfl | rfl | rfl | rfl | rfl | rfl | rfl | rfl | rfl | rfl | rfl | rfl | rfl | rfl | rfl | rfl | rfl | rfl
  · exact w_c0
  · exact w_c1
  · exact w_c2
  · exact w_c3
  · exact w_c4
  · exact w_c5
  · exact w_c6
  · exact w_c7
  · exact w_c8
  · exact w_c9
  · exact w_c10
  · exact w_c11
  · exact w_c12
  · exact w_c13
  · exact w_c14
  · exact w_c15
  · exact w_c16
  · exact w_c17
  · exact w_c18
  · exact w_c19
  · exact w_c20
  · exact w_c21
  · exact w_c22
  · exact w_c23
  · exact w_c24
  · exact w_c25
  · exact w_c26
  · exact w_c27
  · exact w_c28
  · exact w_c29
  · exact w_c30
  · exact w_c31
set_option maxRecDepth 65536 in
theorem w_t1 : (words1.take 24).all (fun c => isCode c || c.before args0 about1) = true := by decide +kernel
set_option maxRecDepth 65536 in
theorem w_t2 : ((words1.drop 24).take 24).all (fun c => isCode c || c.before args0 about1) = true := by decide +kernel
set_option maxRecDepth 65536 in
theorem w_t3 : (((words1.drop 24).drop 24).take 24).all (fun c => isCode c || c.before args0 about1) = true := by decide +kernel
set_option maxRecDepth 65536 in
theorem w_t4 : ((((words1.drop 24).drop 24).drop 24).take 24).all (fun c => isCode c || c.before args0 about1) = true := by decide +kernel
set_option maxRecDepth 65536 in
theorem w_t5 : (((((words1.drop 24).drop 24).drop 24).drop 24).take 24).all (fun c => isCode c || c.before args0 about1) = true := by decide +kernel
set_option maxRecDepth 65536 in
theorem w_t6 : (((((words1.drop 24).drop 24).drop 24).drop 24).drop 24).all (fun c => isCode c || c.before args0 about1) = true := by decide +kernel
theorem w_tables : (allAtoms (Jvm.Cond.code x code maxLocals ret :: tables_1)).before args0 about1 = true := by
  rw [allAtoms_all]
  show words1.all (fun c => c.before args0 about1) = true
  refine all_split ?_ w_codes
  rw [← List.take_append_drop 24 words1, List.all_append, w_t1, ← List.take_append_drop 24 (words1.drop 24), List.all_append, w_t2, ← List.take_append_drop 24 ((words1.drop 24).drop 24), List.all_append, w_t3, ← List.take_append_drop 24 (((words1.drop 24).drop 24).drop 24), List.all_append, w_t4, ← List.take_append_drop 24 ((((words1.drop 24).drop 24).drop 24).drop 24), List.all_append, w_t5, w_t6]
  rfl
set_option maxRecDepth 65536 in
theorem w_rest : rest_1_c.before args0 about1 = true := by decide +kernel
set_option maxRecDepth 65536 in
theorem w_case : (Jvm.Cond.and given_1 narrow_1).before args0 about1 = true := by decide +kernel
set_option maxRecDepth 65536 in
theorem w_consts : constsHeld consts_1 about1 := Jvm.Lit.constsHeldB_iff.mp (by decide +kernel)
theorem w_applies : (headSpec (Jvm.Cond.code x code maxLocals ret :: tables_1) room_1).applies x e0.platform about1 = true :=
  (Spec.applies_iff w_frames).mpr ⟨w_running, w_runnable, w_alone, w_named, w_hears, w_ripe, w_room, w_tables⟩
theorem atStart : AtStart classFile x code maxLocals ret World_1 tables_1 room_1 Calls_1 rest_1 Pre_1 launch0 p0 e0 about1 theMethod args0 below0 :=
  ⟨lists_1, trivial, launch0.admits_env _ _ _, launch0.least_env, fairChoices_fair.cas, fairChoices_fair.clock, w_frames, w_args, w_heap, w_applies, ⟨w_consts, trivial⟩, w_rest, w_case⟩
end start1
theorem witness_1 : WitnessClaimed_1 := ⟨start1.p0, start1.e0, start1.about1, start1.theMethod, start1.args0, start1.below0, start1.atStart⟩
end Jvm.Pilot.@@N@@
