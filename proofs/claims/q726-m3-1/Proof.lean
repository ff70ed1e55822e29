import JvmDerived
import JvmDerived.Pilot.@@N@@Statement
import JvmDerived.Pilot.@@N@@Code
set_option maxRecDepth 65536
set_option maxHeartbeats 40000000
set_option linter.unusedVariables false
set_option linter.unusedSimpArgs false
namespace Jvm.RoadKit
open Sem ClassFile Op Lib Jvm.Stand Jvm.Free Jvm.LawKit
section New
variable {p : Program} {l : Launch} {e : Env} {R : Room} {s : State} {m : MethodId} {args : Array Value} {below : List Frame} {meth : Method} {c : Code} {T : State} {locs : List Loc} {cells slots : Nat}
theorem retI (X : Stand p l e R s m args below meth c T locs cells slots) (hx : p.tables.exec = Jvm.exec) {pc : Nat} {Ls : Array Slot} {z : Int32} {rest : List Value} (hret : meth.sig.returnType = some .int) (hd : decode c.code pc = .ok (.ireturn, 1)) {fs : List Frame}
    (hl : ∀ (f : JFrame) (acts : List Action), f.method = m → f.locked = none → f.entered = [] → (doReturn e (T.setTop f) acts (some (.int z))).1 = T.setFrames fs) : Steps p.tables e below (T.setTop (mkF m pc Ls (.int z :: rest))) (T.setFrames fs) := by
  have hm' : T.vm.method? m = some meth := X.method'
  have hn : narrow .int (.int z) = .int z := rfl
  show Steps p.tables e below (T.setTop { method := m, pc := pc, locals := Ls, stack := _ :: rest, locked := none }) _
  jvm_step X.here [X.here.top, hx, hd, hm', hret, hn]
  first | (intro acts; rw [hl _ acts rfl rfl rfl]) | rw [hl _ _ rfl rfl rfl]
  exact Steps.refl _
end New
end Jvm.RoadKit
namespace Jvm.Pilot.@@N@@
open Jvm Jvm.ClassFile Sem Op Lib Jvm.Free Jvm.Stand Jvm.LawKit Jvm.RoadKit Bundle Jvm.Pilot.@@N@@.Jvm.D
abbrev vi (x : Int32) : Value := .int x
abbrev vl (x : Int64) : Value := .long x
abbrev vr (a : Addr) : Value := .ref a
abbrev si (x : Int32) : Slot := .val (.int x)
abbrev sl (x : Int64) : Slot := .val (.long x)
abbrev sr (a : Addr) : Slot := .val (.ref a)
abbrev orm (f c s l : Nat) : Room := { frames := f, cells := c, slots := s, locals := l }
abbrev OW (Z : State) (a0 : Array Value) : Prop := ∀ d ∈ tables_1, d.before a0 Z = true
abbrev OS (p : Program) (e : Env) (b : List Frame) (T : State) (m : MethodId) (pc : Nat) (L : Array Slot) (S : List Value) (t : State) : Prop := Steps p.tables e b (T.setTop (mkF m pc L S)) t
abbrev MF (l : Launch) (Z : State) (y : MethodName) (bytes : ByteArray) (maxL : Nat) (ret : Option FieldType) (ws : List Jvm.Cond) (rm : Room) (A : Array Value) (h0 : Heap) (Q : Option Value → Heap → List Loc → Prop) : Prop :=
  MetFree l y (head1 (Jvm.Cond.code y bytes maxL ret :: ws) rm) (fun a U => a = A ∧ Z.Warmed39 U.vm ∧ U.heap = h0) (fun _ _ _ _ _ => True) (fun _ U o U' => ∃ v L, o = .returned v ∧ Q v U'.heap L ∧ FrameEnd U o U' L rm.cells rm.slots)
section K
variable {p : Program} {l : Launch} {e : Env} {R : Room} {s : State} {m : MethodId} {args : Array Value} {below : List Frame} {meth : Method} {c : Code} {T : State} {locs : List Loc} {cells slots : Nat} {Z : State} {a0 : Array Value} {h : Heap}
theorem own_enter {y : MethodName} {bytes : ByteArray} {maxL : Nat} {ret : Option FieldType} {ws : List Jvm.Cond} {rm : Room} {A : Array Value} {h0 : Heap} {Q : Option Value → Heap → List Loc → Prop} {L0 : Array Slot} (hpl : plainFor y = true)
    (k : ∀ (p : Program) (e : Env) (s : State) (m : MethodId) (below : List Frame) (meth : Method) (c : Code) (T : State), p.tables.exec = Jvm.exec → c.code = bytes → c.maxLocals = maxL → s.vm.findClass y.cls = some m.cls → meth.name = y.name → meth.sig.returnType = ret → Z.Warmed39 s.vm → Stand p l e rm s m A below meth c T [] 0 0 → T.heap = h0 →
      ∃ (T' : State) (h' : Heap) (L : List Loc) (kc ks : Nat) (v : Option Value), Stand p l e rm s m A below meth c T' L kc ks ∧ T'.heap = h' ∧ kc ≤ rm.cells ∧ ks ≤ rm.slots ∧ (ret = none → v = none) ∧ Q v h' L ∧
        ∀ fs, (∀ (f : JFrame) (acts : List Action), f.method = m → f.locked = none → f.entered = [] → (doReturn e (T'.setTop f) acts v).1 = T'.setFrames fs) → OS p e below T m 0 L0 [] (T'.setFrames fs)) (hef : ∀ m : MethodId, entryFrame m A maxL = mkF m 0 L0 [] := by intro; rfl) : MF l Z y bytes maxL ret ws rm A h0 Q := by
  refine MetFree.of_bodySF hpl hisR ?_
  intro p e s m args below meth c s₁ Bd hml0 hP hK
  obtain ⟨rfl, hZ, hh⟩ := hP
  obtain ⟨T', h', L, kc, ks, v, X, e', hc, hs, hv, hQ, st⟩ := k p e s m below meth c s₁ Bd.exec Bd.bytes hml0 (findClass_of_methodNamed Bd.named) (name_of_methodNamed Bd.named Bd.method).1 Bd.returns hZ (Stand.of_body Bd) (by rw [← hh, Bd.state]; rfl)
  obtain ⟨fs, hr, hrun, hended, hW, hsame⟩ := X.leave (v := v) (fun q => hv (Bd.returns.symm.trans q))
  subst e'
  exact ⟨_, _, castTop (hef m) (st fs hr), hrun, hended, v, L, rfl, hQ, ⟨_, rfl⟩, hW, hsame.mono hc hs⟩
theorem own_callS {own : String} {index : Nat} {y : MethodName} {bytes : ByteArray} {maxL : Nat} {ret : Option FieldType} {rm : Room} {A : Array Value} {Q : Option Value → Heap → List Loc → Prop}
    (X : Stand p l e R s m args below meth c T locs cells slots) (hx : p.tables.exec = Jvm.exec) (hZ : Z.Warmed39 s.vm) (hown : s.vm.findClass own = some m.cls) (w : (Jvm.Cond.methodLink own index y).before a0 Z = true ∧ (Jvm.Cond.static y).before a0 Z = true ∧ (Jvm.Cond.initialized y.cls).before a0 Z = true ∧ (Jvm.Cond.code y bytes maxL ret).before a0 Z = true)
    (hM : MF l Z y bytes maxL ret [] rm A h Q) (eT : T.heap = h) {pc : Nat} {Ls : Array Slot} {k : Nat} (hml : c.maxLocals = k) (argsL rest : List Value) {ps : List FieldType} {r : Option FieldType} (hd : parseMethodDescriptor y.desc = some ⟨ps, r⟩) (W : Nat) (hdg : decode c.code pc = .ok (.invokestatic index, 3))
    (hA : argsL.toArray = A := by rfl) (hsz : Ls.size = k := by rfl) (hl : argsL.length = ps.length := by rfl) (hW : (rest.map fun v => v.category).sum = W := by rfl) (hy : y.cls ≠ "java/lang/invoke/MethodHandle" ∧ y.cls ≠ "java/lang/invoke/VarHandle" := by decide) (hf : rm.frames + 1 ≤ R.frames := by decide) (hlo : W + (maxL + 11) + rm.locals ≤ R.locals := by decide) (hc : cells + rm.cells ≤ R.cells := by decide) (hs : slots + rm.slots ≤ R.slots := by decide) :
    ∃ (T' : State) (L : List Loc) (v : Option Value), Stand p l e R s m args below meth c T' (locs ++ L) (cells + rm.cells) (slots + rm.slots) ∧ Q v T'.heap L ∧ ∀ target, OS p e below T' m (pc + 3) Ls (v.toList ++ rest) target → OS p e below T m pc Ls (argsL.reverse ++ rest) target := by
  obtain ⟨w1, w2, w3, w4⟩ := w
  obtain ⟨v, vm, ⟨U, l1, c1, s1⟩, -, X', ⟨L, hQ, e1, e2, e3⟩, st⟩ := Jvm.LawKit.callS X hx (y := y) hown (mvT hZ w1) (mvT hZ w2) (mvT hZ w3) (mvT hZ w4) hy (backOf (W := W) hM hZ w4 w3 hf hlo) (g := mkF m pc Ls (argsL.reverse ++ rest)) rfl (by rw [hml]; exact hsz) (argsL := argsL) (rest := rest) (lenOf hd hl) rfl (by show 2 * 0 + _ ≤ _; omega) hdg (fun _ _ => ⟨hA, eT, hc, hs⟩)
  dsimp only [Pt.U, Pt.locs, Pt.cells, Pt.slots] at X' e1 e2 e3 st hQ
  subst e1 e2 e3
  exact ⟨U, L, v, X', hQ, st⟩
theorem own_callI {own : String} {index : Nat} {y : MethodName} {bytes : ByteArray} {maxL : Nat} {rm : Room} {A : Array Value} {Q : Option Value → Heap → List Loc → Prop}
    (X : Stand p l e R s m args below meth c T locs cells slots) (hx : p.tables.exec = Jvm.exec) (hZ : Z.Warmed39 s.vm) (hown : s.vm.findClass own = some m.cls) (w : (Jvm.Cond.methodLink own index y).before a0 Z = true ∧ (Jvm.Cond.instanceMethod y).before a0 Z = true ∧ (Jvm.Cond.initialized y.cls).before a0 Z = true ∧ (Jvm.Cond.code y bytes maxL none).before a0 Z = true)
    (hM : MF l Z y bytes maxL none [] rm A h Q) (eT : T.heap = h) {pc : Nat} {Ls : Array Slot} {k : Nat} (hml : c.maxLocals = k) (a : Addr) (argsL rest : List Value) {ps : List FieldType} {r : Option FieldType} (hd : parseMethodDescriptor y.desc = some ⟨ps, r⟩) (W : Nat) (hdg : decode c.code pc = .ok (.invokespecial index, 3))
    (hy1 : y.name = "<init>" := by rfl) (hA : (.ref a :: argsL).toArray = A := by rfl) (hsz : Ls.size = k := by rfl) (hl : argsL.length = ps.length := by rfl) (hW : (rest.map fun v => v.category).sum = W := by rfl) (hy : y.cls ≠ "java/lang/invoke/MethodHandle" ∧ y.cls ≠ "java/lang/invoke/VarHandle" := by decide) (hf : rm.frames + 1 ≤ R.frames := by decide) (hlo : W + (maxL + 11) + rm.locals ≤ R.locals := by decide) (hc : cells + rm.cells ≤ R.cells := by decide) (hs : slots + rm.slots ≤ R.slots := by decide) :
    ∃ (T' : State) (L : List Loc) (v : Option Value), Stand p l e R s m args below meth c T' (locs ++ L) (cells + rm.cells) (slots + rm.slots) ∧ Q v T'.heap L ∧ ∀ target, OS p e below T' m (pc + 3) Ls (v.toList ++ rest) target → OS p e below T m pc Ls (argsL.reverse ++ .ref a :: rest) target := by
  obtain ⟨w1, w2, w3, w4⟩ := w
  obtain ⟨v, vm, ⟨U, l1, c1, s1⟩, -, X', ⟨L, hQ, e1, e2, e3⟩, st⟩ := X.specialBack hx (y := y) hy1 hown (mvT hZ w1) (mvT hZ w2) (mvT hZ w4) hy (backOf (W := W) hM hZ w4 w3 hf hlo) (g := mkF m pc Ls (argsL.reverse ++ .ref a :: rest)) rfl (by rw [hml]; exact hsz) (Steps.refl _) (a := a) (argsL := argsL) (rest := rest) (lenOf hd hl) rfl (by show 2 * 0 + _ ≤ _; omega) hdg (fun _ _ => ⟨hA, eT, hc, hs⟩)
  dsimp only [Pt.U, Pt.locs, Pt.cells, Pt.slots] at X' e1 e2 e3 st hQ
  subst e1 e2 e3
  exact ⟨U, L, v, X', hQ, fun t k => st.trans k⟩
theorem own_callV {own C : String} {index : Nat} {y z : MethodName} {bytes : ByteArray} {maxL : Nat} {ret : Option FieldType} {rm : Room} {A : Array Value} {Q : Option Value → Heap → List Loc → Prop}
    (X : Stand p l e R s m args below meth c T locs cells slots) (hx : p.tables.exec = Jvm.exec) (hZ : Z.Warmed39 s.vm) (hown : s.vm.findClass own = some m.cls) (w1 : (Jvm.Cond.methodLink own index y).before a0 Z = true) (w2 : (Jvm.Cond.declares y).before a0 Z = true) (nf : NotFace s y) (w5 : (Jvm.Cond.selects C y z).before a0 Z = true) (w6 : (Jvm.Cond.instanceMethod z).before a0 Z = true) (w3 : (Jvm.Cond.initialized z.cls).before a0 Z = true) (w4 : (Jvm.Cond.code z bytes maxL ret).before a0 Z = true)
    (hM : MF l Z z bytes maxL ret [] rm A h Q) (eT : T.heap = h) {a : Addr} (E : Exa Z h a C) {pc : Nat} {Ls : Array Slot} {k : Nat} (hml : c.maxLocals = k) (argsL rest : List Value) {ps : List FieldType} {r : Option FieldType} (hd : parseMethodDescriptor y.desc = some ⟨ps, r⟩) (W : Nat) (hdg : decode c.code pc = .ok (.invokevirtual index, 3))
    (hA : (.ref a :: argsL).toArray = A := by rfl) (hsz : Ls.size = k := by rfl) (hl : argsL.length = ps.length := by rfl) (hW : (rest.map fun v => v.category).sum = W := by rfl) (hy : y.cls ≠ "java/lang/invoke/MethodHandle" ∧ y.cls ≠ "java/lang/invoke/VarHandle" := by decide) (hf : rm.frames + 1 ≤ R.frames := by decide) (hlo : W + (maxL + 11) + rm.locals ≤ R.locals := by decide) (hc : cells + rm.cells ≤ R.cells := by decide) (hs : slots + rm.slots ≤ R.slots := by decide) :
    ∃ (T' : State) (L : List Loc) (v : Option Value), Stand p l e R s m args below meth c T' (locs ++ L) (cells + rm.cells) (slots + rm.slots) ∧ Q v T'.heap L ∧ ∀ target, OS p e below T' m (pc + 3) Ls (v.toList ++ rest) target → OS p e below T m pc Ls (argsL.reverse ++ .ref a :: rest) target := by
  obtain ⟨cB, kB, qa, qb, qc⟩ := isOf hZ eT E
  obtain ⟨v, vm, ⟨U, l1, c1, s1⟩, -, X', ⟨L, hQ, e1, e2, e3⟩, st⟩ := X.virtualBack hx (y := y) (z := z) hown (mvT hZ w1) (mvT hZ w2) nf (mvT hZ w5) (mvT hZ w6) hy (backOf (W := W) hM hZ w4 w3 hf hlo) qa qc (g := mkF m pc Ls (argsL.reverse ++ .ref a :: rest)) rfl (by rw [hml]; exact hsz) (Steps.refl _) (argsL := argsL) (rest := rest) (lenOf hd hl) rfl (by show 2 * 0 + _ ≤ _; omega) hdg (fun _ _ => ⟨hA, eT, hc, hs⟩)
  dsimp only [Pt.U, Pt.locs, Pt.cells, Pt.slots] at X' e1 e2 e3 st hQ
  subst e1 e2 e3
  exact ⟨U, L, v, X', hQ, fun t k => st.trans k⟩
theorem own_retL (X : Stand p l e R s m args below meth c T locs cells slots) (hx : p.tables.exec = Jvm.exec) {pc : Nat} {Ls : Array Slot} {z : Int64} {rest : List Value} (hret : meth.sig.returnType = some .long) (hd : decode c.code pc = .ok (.lreturn, 1)) {fs : List Frame}
    (hl : ∀ (f : JFrame) (acts : List Action), f.method = m → f.locked = none → f.entered = [] → (doReturn e (T.setTop f) acts (some (.long z))).1 = T.setFrames fs) : OS p e below T m pc Ls (.long z :: rest) (T.setFrames fs) := by
  have hm' : T.vm.method? m = some meth := X.method'
  show Steps p.tables e below (T.setTop { method := m, pc := pc, locals := Ls, stack := _ :: rest, locked := none }) _
  jvm_step X.here [X.here.top, hx, hd, hm', hret, narrow]
  first | (intro acts; rw [hl _ acts rfl rfl rfl]) | rw [hl _ _ rfl rfl rfl]
  exact Steps.refl _
theorem own_retA (X : Stand p l e R s m args below meth c T locs cells slots) (hx : p.tables.exec = Jvm.exec) {pc : Nat} {Ls : Array Slot} {a : Addr} {t : FieldType} {rest : List Value} (hret : meth.sig.returnType = some t) (ht : t.isReference = true) (hd : decode c.code pc = .ok (.areturn, 1)) {fs : List Frame}
    (hl : ∀ (f : JFrame) (acts : List Action), f.method = m → f.locked = none → f.entered = [] → (doReturn e (T.setTop f) acts (some (.ref a))).1 = T.setFrames fs) : OS p e below T m pc Ls (.ref a :: rest) (T.setFrames fs) := by
  have hm' : T.vm.method? m = some meth := X.method'
  show Steps p.tables e below (T.setTop { method := m, pc := pc, locals := Ls, stack := _ :: rest, locked := none }) _
  jvm_step X.here [X.here.top, hx, hd, hm', hret, Value.isRef, ht]
  first | (intro acts; rw [hl _ acts rfl rfl rfl]) | rw [hl _ _ rfl rfl rfl]
  exact Steps.refl _
theorem own_retNull (X : Stand p l e R s m args below meth c T locs cells slots) (hx : p.tables.exec = Jvm.exec) {pc : Nat} {Ls : Array Slot} {t : FieldType} {rest : List Value} (hret : meth.sig.returnType = some t) (ht : t.isReference = true) (hd : decode c.code pc = .ok (.areturn, 1)) {fs : List Frame}
    (hl : ∀ (f : JFrame) (acts : List Action), f.method = m → f.locked = none → f.entered = [] → (doReturn e (T.setTop f) acts (some .null)).1 = T.setFrames fs) : OS p e below T m pc Ls (.null :: rest) (T.setFrames fs) := by
  have hm' : T.vm.method? m = some meth := X.method'
  show Steps p.tables e below (T.setTop { method := m, pc := pc, locals := Ls, stack := _ :: rest, locked := none }) _
  jvm_step X.here [X.here.top, hx, hd, hm', hret, Value.isRef, ht]
  first | (intro acts; rw [hl _ acts rfl rfl rfl]) | rw [hl _ _ rfl rfl rfl]
  exact Steps.refl _
theorem own_alen (X : Stand p l e R s m args below meth c T locs cells slots) (hx : p.tables.exec = Jvm.exec) (hZ : Z.Warmed39 s.vm) (eT : T.heap = h) {a : Addr} {k : ClassId} {ty : FieldType} {z : Int32} {vs : List Value} {d : Value} (V : Arv Z h a k ty z vs d) {pc : Nat} {Ls : Array Slot} {rest : List Value} (hd : decode c.code pc = .ok (.arraylength, 1)) (t : State) (kk : OS p e below T m (pc + 1) Ls (.int z :: rest) t) : OS p e below T m pc Ls (.ref a :: rest) t := by
  obtain ⟨cl, A, q, S, N, H, G⟩ := V
  refine X.arraylength hx (by rw [eT]; exact A.1) (State.isArrayOf_alike hZ.alike A.2.1) (g := mkF m pc Ls (.ref a :: rest)) rfl rfl hd t ?_
  rw [len_of S N]; exact kk
theorem own_iaload (X : Stand p l e R s m args below meth c T locs cells slots) (hx : p.tables.exec = Jvm.exec) (hZ : Z.Warmed39 s.vm) (eT : T.heap = h) {a : Addr} {k : ClassId} {z : Int32} {vs : List Value} {d v : Value} {j : Int32} (V : Arv Z h a k .int z vs d) (hj : ¬ j < 0 ∧ j < z) (hv : vs.getD j.toNatClampNeg d = v) {pc : Nat} {Ls : Array Slot} {rest : List Value} (hd : decode c.code pc = .ok (.iaload, 1)) (t : State) (kk : OS p e below T m (pc + 1) Ls (v :: rest) t) : OS p e below T m pc Ls (.int j :: .ref a :: rest) t := by
  obtain ⟨cl, A, q, S, N, H, G⟩ := V
  have hin := inb_of S hj
  exact X.iaload hx (j := j) (v := v) (by rw [eT]; exact A.1) (State.isArrayOf_alike hZ.alike A.2.1) A.2.2 hin (Has.at H hin hv) (g := mkF m pc Ls (.int j :: .ref a :: rest)) rfl rfl hd t kk
theorem own_caload (X : Stand p l e R s m args below meth c T locs cells slots) (hx : p.tables.exec = Jvm.exec) (hZ : Z.Warmed39 s.vm) (eT : T.heap = h) {a : Addr} {k : ClassId} {z : Int32} {vs : List Value} {d v : Value} {j : Int32} (V : Arv Z h a k .char z vs d) (hj : ¬ j < 0 ∧ j < z) (hv : vs.getD j.toNatClampNeg d = v) {pc : Nat} {Ls : Array Slot} {rest : List Value} (hd : decode c.code pc = .ok (.caload, 1)) (t : State) (kk : OS p e below T m (pc + 1) Ls (v :: rest) t) : OS p e below T m pc Ls (.int j :: .ref a :: rest) t := by
  obtain ⟨cl, A, q, S, N, H, G⟩ := V
  have hin := inb_of S hj
  exact X.caload hx (j := j) (v := v) (by rw [eT]; exact A.1) (State.isArrayOf_alike hZ.alike A.2.1) A.2.2 hin (Has.at H hin hv) (g := mkF m pc Ls (.int j :: .ref a :: rest)) rfl rfl hd t kk
theorem own_saload (X : Stand p l e R s m args below meth c T locs cells slots) (hx : p.tables.exec = Jvm.exec) (hZ : Z.Warmed39 s.vm) (eT : T.heap = h) {a : Addr} {k : ClassId} {z : Int32} {vs : List Value} {d v : Value} {j : Int32} (V : Arv Z h a k .short z vs d) (hj : ¬ j < 0 ∧ j < z) (hv : vs.getD j.toNatClampNeg d = v) {pc : Nat} {Ls : Array Slot} {rest : List Value} (hd : decode c.code pc = .ok (.saload, 1)) (t : State) (kk : OS p e below T m (pc + 1) Ls (v :: rest) t) : OS p e below T m pc Ls (.int j :: .ref a :: rest) t := by
  obtain ⟨cl, A, q, S, N, H, G⟩ := V
  have hin := inb_of S hj
  exact X.saload hx (j := j) (v := v) (by rw [eT]; exact A.1) (State.isArrayOf_alike hZ.alike A.2.1) A.2.2 hin (Has.at H hin hv) (g := mkF m pc Ls (.int j :: .ref a :: rest)) rfl rfl hd t kk
theorem own_baload (X : Stand p l e R s m args below meth c T locs cells slots) (hx : p.tables.exec = Jvm.exec) (hZ : Z.Warmed39 s.vm) (eT : T.heap = h) {a : Addr} {k : ClassId} {z : Int32} {vs : List Value} {d v : Value} {j : Int32} (V : Arv Z h a k .byte z vs d) (hj : ¬ j < 0 ∧ j < z) (hv : vs.getD j.toNatClampNeg d = v) {pc : Nat} {Ls : Array Slot} {rest : List Value} (hd : decode c.code pc = .ok (.baload, 1)) (t : State) (kk : OS p e below T m (pc + 1) Ls (v :: rest) t) : OS p e below T m pc Ls (.int j :: .ref a :: rest) t := by
  obtain ⟨cl, A, q, S, N, H, G⟩ := V
  have hin := inb_of S hj
  exact X.baloadBytes hx (j := j) (v := v) (by rw [eT]; exact A.1) (State.isArrayOf_alike hZ.alike A.2.1) A.2.2 hin (Has.at H hin hv) (g := mkF m pc Ls (.int j :: .ref a :: rest)) rfl rfl hd t kk
theorem own_laload (X : Stand p l e R s m args below meth c T locs cells slots) (hx : p.tables.exec = Jvm.exec) (hZ : Z.Warmed39 s.vm) (eT : T.heap = h) {a : Addr} {k : ClassId} {z : Int32} {vs : List Value} {d v : Value} {j : Int32} (V : Arv Z h a k .long z vs d) (hj : ¬ j < 0 ∧ j < z) (hv : vs.getD j.toNatClampNeg d = v) {pc : Nat} {Ls : Array Slot} {rest : List Value} (hd : decode c.code pc = .ok (.laload, 1)) (t : State) (kk : OS p e below T m (pc + 1) Ls (v :: rest) t) : OS p e below T m pc Ls (.int j :: .ref a :: rest) t := by
  obtain ⟨cl, A, q, S, N, H, G⟩ := V
  have hin := inb_of S hj
  exact X.laload hx (j := j) (v := v) (by rw [eT]; exact A.1) (State.isArrayOf_alike hZ.alike A.2.1) A.2.2 hin (Has.at H hin hv) (g := mkF m pc Ls (.int j :: .ref a :: rest)) rfl rfl hd t kk
theorem own_aaload (X : Stand p l e R s m args below meth c T locs cells slots) (hx : p.tables.exec = Jvm.exec) (hZ : Z.Warmed39 s.vm) (eT : T.heap = h) {a : Addr} {k : ClassId} {ty : FieldType} {z : Int32} {vs : List Value} {d v : Value} {j : Int32} (V : Arv Z h a k ty z vs d) (hty : ty.isReference = true) (hj : ¬ j < 0 ∧ j < z) (hv : vs.getD j.toNatClampNeg d = v) {pc : Nat} {Ls : Array Slot} {rest : List Value} (hd : decode c.code pc = .ok (.aaload, 1)) (t : State) (kk : OS p e below T m (pc + 1) Ls (v :: rest) t) : OS p e below T m pc Ls (.int j :: .ref a :: rest) t := by
  obtain ⟨cl, A, q, S, N, H, G⟩ := V
  have hin := inb_of S hj
  exact X.aaload hx (j := j) (v := v) (by rw [eT]; exact A.1) (State.isArrayOf_alike hZ.alike A.2.1) hty A.2.2 hin (Has.at H hin hv) (g := mkF m pc Ls (.int j :: .ref a :: rest)) rfl rfl hd t kk
theorem own_stI (X : Stand p l e R s m args below meth c T locs cells slots) (hx : p.tables.exec = Jvm.exec) (hZ : Z.Warmed39 s.vm) (eT : T.heap = h) {a : Addr} {k : ClassId} {z : Int32} {vs : List Value} {d : Value} {j : Int32} {x : Int32} (V : Arv Z h a k .int z vs d) (i : Nat) {pc : Nat} {Ls : Array Slot} {rest : List Value} (hd : decode c.code pc = .ok (.iastore, 1)) (hj : ¬ j < 0 ∧ j < z := by decide) (hi : j.toNatClampNeg = i := by rfl) (hlt : i < vs.length := by exact Nat.le_of_ble_eq_true rfl) :
    ∃ T' h', Stand p l e R s m args below meth c T' (locs ++ [⟨a, j.toNatClampNeg⟩]) cells slots ∧ T'.heap = h' ∧ Wr h h' a j.toNatClampNeg (.int x) ∧ Arv Z h' a k .int z (vs.set i (.int x)) d ∧ ∀ t, OS p e below T' m (pc + 1) Ls rest t → OS p e below T m pc Ls (.int x :: .int j :: .ref a :: rest) t := by
  obtain ⟨cl, A, q, S, N, H, G⟩ := V
  have hin := inb_of S hj
  obtain ⟨T', h', X', e', W, st⟩ := stI X hx hZ eT A (j := j) hin (g := mkF m pc Ls (.int x :: .int j :: .ref a :: rest)) rfl rfl hd
  exact ⟨T', h', X', e', W, Arv.set A q S N H G rfl W i hi hlt, st⟩
theorem own_stJ (X : Stand p l e R s m args below meth c T locs cells slots) (hx : p.tables.exec = Jvm.exec) (hZ : Z.Warmed39 s.vm) (eT : T.heap = h) {a : Addr} {k : ClassId} {z : Int32} {vs : List Value} {d : Value} {j : Int32} {x : Int64} (V : Arv Z h a k .long z vs d) (i : Nat) {pc : Nat} {Ls : Array Slot} {rest : List Value} (hd : decode c.code pc = .ok (.lastore, 1)) (hj : ¬ j < 0 ∧ j < z := by decide) (hi : j.toNatClampNeg = i := by rfl) (hlt : i < vs.length := by exact Nat.le_of_ble_eq_true rfl) :
    ∃ T' h', Stand p l e R s m args below meth c T' (locs ++ [⟨a, j.toNatClampNeg⟩]) cells slots ∧ T'.heap = h' ∧ Wr h h' a j.toNatClampNeg (.long x) ∧ Arv Z h' a k .long z (vs.set i (.long x)) d ∧ ∀ t, OS p e below T' m (pc + 1) Ls rest t → OS p e below T m pc Ls (.long x :: .int j :: .ref a :: rest) t := by
  obtain ⟨cl, A, q, S, N, H, G⟩ := V
  have hin := inb_of S hj
  obtain ⟨T', h', X', e', W, st⟩ := stJ X hx hZ eT A (j := j) hin (g := mkF m pc Ls (.long x :: .int j :: .ref a :: rest)) rfl rfl hd
  exact ⟨T', h', X', e', W, Arv.set A q S N H G rfl W i hi hlt, st⟩
theorem own_stC (X : Stand p l e R s m args below meth c T locs cells slots) (hx : p.tables.exec = Jvm.exec) (hZ : Z.Warmed39 s.vm) (eT : T.heap = h) {a : Addr} {k : ClassId} {z : Int32} {vs : List Value} {d : Value} {j : Int32} {x : Int32} (V : Arv Z h a k .char z vs d) (i : Nat) {pc : Nat} {Ls : Array Slot} {rest : List Value} (hd : decode c.code pc = .ok (.castore, 1)) (hj : ¬ j < 0 ∧ j < z := by decide) (hi : j.toNatClampNeg = i := by rfl) (hlt : i < vs.length := by exact Nat.le_of_ble_eq_true rfl) :
    ∃ T' h', Stand p l e R s m args below meth c T' (locs ++ [⟨a, j.toNatClampNeg⟩]) cells slots ∧ T'.heap = h' ∧ Wr h h' a j.toNatClampNeg (.int (nar .char x)) ∧ Arv Z h' a k .char z (vs.set i (.int (nar .char x))) d ∧ ∀ t, OS p e below T' m (pc + 1) Ls rest t → OS p e below T m pc Ls (.int x :: .int j :: .ref a :: rest) t := by
  obtain ⟨cl, A, q, S, N, H, G⟩ := V
  have hin := inb_of S hj
  obtain ⟨T', h', X', e', W, st⟩ := stC X hx hZ eT A (j := j) hin (g := mkF m pc Ls (.int x :: .int j :: .ref a :: rest)) rfl rfl hd
  exact ⟨T', h', X', e', W, Arv.set A q S N H G (fits_nar_char _) W i hi hlt, st⟩
theorem own_stS (X : Stand p l e R s m args below meth c T locs cells slots) (hx : p.tables.exec = Jvm.exec) (hZ : Z.Warmed39 s.vm) (eT : T.heap = h) {a : Addr} {k : ClassId} {z : Int32} {vs : List Value} {d : Value} {j : Int32} {x : Int32} (V : Arv Z h a k .short z vs d) (i : Nat) {pc : Nat} {Ls : Array Slot} {rest : List Value} (hd : decode c.code pc = .ok (.sastore, 1)) (hj : ¬ j < 0 ∧ j < z := by decide) (hi : j.toNatClampNeg = i := by rfl) (hlt : i < vs.length := by exact Nat.le_of_ble_eq_true rfl) :
    ∃ T' h', Stand p l e R s m args below meth c T' (locs ++ [⟨a, j.toNatClampNeg⟩]) cells slots ∧ T'.heap = h' ∧ Wr h h' a j.toNatClampNeg (.int (nar .short x)) ∧ Arv Z h' a k .short z (vs.set i (.int (nar .short x))) d ∧ ∀ t, OS p e below T' m (pc + 1) Ls rest t → OS p e below T m pc Ls (.int x :: .int j :: .ref a :: rest) t := by
  obtain ⟨cl, A, q, S, N, H, G⟩ := V
  have hin := inb_of S hj
  obtain ⟨T', h', X', e', W, st⟩ := stS X hx hZ eT A (j := j) hin (g := mkF m pc Ls (.int x :: .int j :: .ref a :: rest)) rfl rfl hd
  exact ⟨T', h', X', e', W, Arv.set A q S N H G (fits_nar_short _) W i hi hlt, st⟩
theorem own_stB (X : Stand p l e R s m args below meth c T locs cells slots) (hx : p.tables.exec = Jvm.exec) (hZ : Z.Warmed39 s.vm) (eT : T.heap = h) {a : Addr} {k : ClassId} {z : Int32} {vs : List Value} {d : Value} {j : Int32} {x : Int32} (V : Arv Z h a k .byte z vs d) (i : Nat) {pc : Nat} {Ls : Array Slot} {rest : List Value} (hd : decode c.code pc = .ok (.bastore, 1)) (hj : ¬ j < 0 ∧ j < z := by decide) (hi : j.toNatClampNeg = i := by rfl) (hlt : i < vs.length := by exact Nat.le_of_ble_eq_true rfl) :
    ∃ T' h', Stand p l e R s m args below meth c T' (locs ++ [⟨a, j.toNatClampNeg⟩]) cells slots ∧ T'.heap = h' ∧ Wr h h' a j.toNatClampNeg (.int x.toInt8.toInt32) ∧ Arv Z h' a k .byte z (vs.set i (.int x.toInt8.toInt32)) d ∧ ∀ t, OS p e below T' m (pc + 1) Ls rest t → OS p e below T m pc Ls (.int x :: .int j :: .ref a :: rest) t := by
  obtain ⟨cl, A, q, S, N, H, G⟩ := V
  have hin := inb_of S hj
  obtain ⟨T', h', X', e', W, st⟩ := stB X hx hZ eT A (j := j) hin (g := mkF m pc Ls (.int x :: .int j :: .ref a :: rest)) rfl rfl hd
  exact ⟨T', h', X', e', W, Arv.set A q S N H G (fits_nar_byte _) W i hi hlt, st⟩
theorem own_stZ (X : Stand p l e R s m args below meth c T locs cells slots) (hx : p.tables.exec = Jvm.exec) (hZ : Z.Warmed39 s.vm) (eT : T.heap = h) {a : Addr} {k : ClassId} {z : Int32} {vs : List Value} {d : Value} {j : Int32} {x : Int32} (V : Arv Z h a k .boolean z vs d) (i : Nat) {pc : Nat} {Ls : Array Slot} {rest : List Value} (hd : decode c.code pc = .ok (.bastore, 1)) (hj : ¬ j < 0 ∧ j < z := by decide) (hi : j.toNatClampNeg = i := by rfl) (hlt : i < vs.length := by exact Nat.le_of_ble_eq_true rfl) :
    ∃ T' h', Stand p l e R s m args below meth c T' (locs ++ [⟨a, j.toNatClampNeg⟩]) cells slots ∧ T'.heap = h' ∧ Wr h h' a j.toNatClampNeg (.int (nar .boolean x)) ∧ Arv Z h' a k .boolean z (vs.set i (.int (nar .boolean x))) d ∧ ∀ t, OS p e below T' m (pc + 1) Ls rest t → OS p e below T m pc Ls (.int x :: .int j :: .ref a :: rest) t := by
  obtain ⟨cl, A, q, S, N, H, G⟩ := V
  have hin := inb_of S hj
  obtain ⟨T', h', X', e', W, st⟩ := stZ X hx hZ eT A (j := j) hin (g := mkF m pc Ls (.int x :: .int j :: .ref a :: rest)) rfl rfl hd
  exact ⟨T', h', X', e', W, Arv.set A q S N H G (fits_nar_bool _) W i hi hlt, st⟩
theorem own_stR (X : Stand p l e R s m args below meth c T locs cells slots) (hx : p.tables.exec = Jvm.exec) (hZ : Z.Warmed39 s.vm) (eT : T.heap = h) {a y : Addr} {k : ClassId} {C K : String} {z : Int32} {vs : List Value} {d : Value} {j : Int32} (V : Arv Z h a k (.object C) z vs d) (O : Ovr Z k K) (I : Ins Z h y K true) (i : Nat) {pc : Nat} {Ls : Array Slot} {rest : List Value} (hd : decode c.code pc = .ok (.aastore, 1)) (hj : ¬ j < 0 ∧ j < z := by decide) (hi : j.toNatClampNeg = i := by rfl) (hlt : i < vs.length := by exact Nat.le_of_ble_eq_true rfl) :
    ∃ T' h', Stand p l e R s m args below meth c T' (locs ++ [⟨a, j.toNatClampNeg⟩]) cells slots ∧ T'.heap = h' ∧ Wr h h' a j.toNatClampNeg (.ref y) ∧ Arv Z h' a k (.object C) z (vs.set i (.ref y)) d ∧ ∀ t, OS p e below T' m (pc + 1) Ls rest t → OS p e below T m pc Ls (.ref y :: .int j :: .ref a :: rest) t := by
  obtain ⟨cl, A, q, S, N, H, G⟩ := V
  have hin := inb_of S hj
  obtain ⟨T', h', X', e', W, st⟩ := stR X hx hZ eT A (j := j) hin rfl (Sto.ofV A q O I) (g := mkF m pc Ls (.ref y :: .int j :: .ref a :: rest)) rfl rfl hd
  exact ⟨T', h', X', e', W, Arv.set A q S N H G rfl W i hi hlt, st⟩
theorem own_icY (X : Stand p l e R s m args below meth c T locs cells slots) (hx : p.tables.exec = Jvm.exec) {cd : ClassFile.Cond} {o : Int} {x y : Int32} {pc : Nat} {Ls : Array Slot} {rest : List Value} {t : State} (hd : decode c.code pc = .ok (.if_icmp cd o, 3)) (hc : if_icmp.holds cd x y = true) (k : OS p e below T m ((pc : Int) + o).toNat Ls rest t) (ho : 0 ≤ (pc : Int) + o := by decide) : OS p e below T m pc Ls (.int y :: .int x :: rest) t :=
  XS.icmpYes X.here hx rfl (pc0 := pc) rfl hd rfl hc ho rfl k
theorem own_icN (X : Stand p l e R s m args below meth c T locs cells slots) (hx : p.tables.exec = Jvm.exec) {cd : ClassFile.Cond} {o : Int} {x y : Int32} {pc : Nat} {Ls : Array Slot} {rest : List Value} {t : State} (hd : decode c.code pc = .ok (.if_icmp cd o, 3)) (hc : if_icmp.holds cd x y = false) (k : OS p e below T m (pc + 3) Ls rest t) : OS p e below T m pc Ls (.int y :: .int x :: rest) t :=
  XS.icmpNo X.here hx rfl hd rfl hc k
theorem own_ifY (X : Stand p l e R s m args below meth c T locs cells slots) (hx : p.tables.exec = Jvm.exec) {cd : ClassFile.Cond} {o : Int} {x : Int32} {pc : Nat} {Ls : Array Slot} {rest : List Value} {t : State} (hd : decode c.code pc = .ok (.ifCond cd o, 3)) (hc : if_icmp.holds cd x 0 = true) (k : OS p e below T m ((pc : Int) + o).toNat Ls rest t) (ho : 0 ≤ (pc : Int) + o := by decide) : OS p e below T m pc Ls (.int x :: rest) t :=
  XS.ifYes X.here hx rfl (pc0 := pc) rfl hd rfl ((if0 _ _).trans hc) ho rfl k
theorem own_ifN (X : Stand p l e R s m args below meth c T locs cells slots) (hx : p.tables.exec = Jvm.exec) {cd : ClassFile.Cond} {o : Int} {x : Int32} {pc : Nat} {Ls : Array Slot} {rest : List Value} {t : State} (hd : decode c.code pc = .ok (.ifCond cd o, 3)) (hc : if_icmp.holds cd x 0 = false) (k : OS p e below T m (pc + 3) Ls rest t) : OS p e below T m pc Ls (.int x :: rest) t :=
  XS.ifNo X.here hx rfl hd rfl ((if0 _ _).trans hc) k
theorem own_goto (X : Stand p l e R s m args below meth c T locs cells slots) (hx : p.tables.exec = Jvm.exec) {o : Int} {pc : Nat} {Ls : Array Slot} {S : List Value} {t : State} (hd : decode c.code pc = .ok (.goto o, 3)) (k : OS p e below T m ((pc : Int) + o).toNat Ls S t) (ho : 0 ≤ (pc : Int) + o := by decide) : OS p e below T m pc Ls S t :=
  XS.goto X.here hx rfl (pc0 := pc) rfl hd ho rfl k
theorem own_new {own C : String} {index n : Nat} (X : Stand p l e R s m args below meth c T locs cells slots) (hx : p.tables.exec = Jvm.exec) (hZ : Z.Warmed39 s.vm) (hown : s.vm.findClass own = some m.cls) (w : (Jvm.Cond.classLink own index C).before a0 Z = true) (wi : (Jvm.Cond.instantiable C n).before a0 Z = true) (wz : (Jvm.Cond.initialized C).before a0 Z = true) (eT : T.heap = h) {pc : Nat} {Ls : Array Slot} {S : List Value} (hd : decode c.code pc = .ok (.new index, 3)) (hc : cells + 1 ≤ R.cells := by decide) (hl : slots + n ≤ R.slots := by decide) :
    ∃ T' h' b, Stand p l e R s m args below meth c T' locs (cells + 1) (slots + n) ∧ T'.heap = h' ∧ Ext h h' ∧ h.size ≤ b ∧ Exa Z h' b C ∧ (∀ {O nm d : String} {ty : FieldType}, Laid Z a0 C O nm d → parseFieldDescriptor d = some ty → Fld Z h' b O nm d (defaultValue ty)) ∧ ∀ t, OS p e below T' m (pc + 3) Ls (.ref b :: S) t → OS p e below T m pc Ls S t := by
  obtain ⟨T', h', X', e', E, A, D, -, st⟩ := newO X hx hZ hown w wi wz eT (g := mkF m pc Ls S) rfl hd hc hl
  exact ⟨T', h', h.size, X', e', E, Nat.le_refl _, A, D, st⟩
theorem own_newP (X : Stand p l e R s m args below meth c T locs cells slots) (hx : p.tables.exec = Jvm.exec) (hZ : Z.Warmed39 s.vm) {aty : ArrayType} {ty : FieldType} (w : (Jvm.Cond.arrayClass ty).before a0 Z = true) (eT : T.heap = h) {n : Int32} {k : Nat} {d : Value} {vs : List Value} {pc : Nat} {Ls : Array Slot} {S : List Value} (hd : decode c.code pc = .ok (.newarray aty, 2)) (hty : newarray.typeOf aty = ty := by rfl) (hd0 : defaultValue ty = d := by rfl) (hvs : List.replicate k d = vs := by rfl) (hn : ¬ n < 0 := by decide) (hcap : n.toNatClampNeg ≤ k := by decide) (hb : k * 8 ≤ 536870912 := by decide) (hc : cells + 1 ≤ R.cells := by decide) (hl : slots + k ≤ R.slots := by decide) :
    ∃ T' h' b cA, Stand p l e R s m args below meth c T' locs (cells + 1) (slots + k) ∧ T'.heap = h' ∧ Ext h h' ∧ h.size ≤ b ∧ Arv Z h' b cA ty n vs d ∧ ∀ t, OS p e below T' m (pc + 2) Ls (.ref b :: S) t → OS p e below T m pc Ls (.int n :: S) t := by
  subst hty hd0 hvs
  obtain ⟨T', h', cA, X', e', E, A, st⟩ := newP (aty := aty) X hx hZ w eT (g := mkF m pc Ls (.int n :: S)) rfl hd rfl hn (cap := k) hcap hb hc hl
  exact ⟨T', h', h.size, cA, X', e', E, Nat.le_refl _, (Arv.new A hn).pad (pad_rep [] _ k), st⟩
theorem own_newR {own C : String} {index : Nat} (X : Stand p l e R s m args below meth c T locs cells slots) (hx : p.tables.exec = Jvm.exec) (hZ : Z.Warmed39 s.vm) (hown : s.vm.findClass own = some m.cls) (w1 : (Jvm.Cond.classLink own index C).before a0 Z = true) (w2 : (Jvm.Cond.arrayOver (.object C)).before a0 Z = true) (eT : T.heap = h) {n : Int32} {k : Nat} {vs : List Value} {ad : String} {pc : Nat} {Ls : Array Slot} {S : List Value} (hd : decode c.code pc = .ok (.anewarray index, 3)) (had : "[" ++ (FieldType.object C).toString = ad := by decide) (hvs : List.replicate k .null = vs := by rfl) (hn : ¬ n < 0 := by decide) (hcap : n.toNatClampNeg ≤ k := by decide) (hb : k * 8 ≤ 536870912 := by decide) (hc : cells + 1 ≤ R.cells := by decide) (hl : slots + k ≤ R.slots := by decide) :
    ∃ T' h' b cA, Stand p l e R s m args below meth c T' locs (cells + 1) (slots + k) ∧ T'.heap = h' ∧ Ext h h' ∧ h.size ≤ b ∧ Arv Z h' b cA (.object C) n vs .null ∧ Exa Z h' b ad ∧ Ovr Z cA C ∧ ∀ t, OS p e below T' m (pc + 3) Ls (.ref b :: S) t → OS p e below T m pc Ls (.int n :: S) t := by
  subst hvs
  obtain ⟨T', h', cA, X', e', E, A, B, O, st⟩ := newRE X hx hZ hown w1 w2 eT (g := mkF m pc Ls (.int n :: S)) rfl hd rfl hn (cap := k) hcap hb hc hl had
  exact ⟨T', h', h.size, cA, X', e', E, Nat.le_refl _, (Arv.new A hn).pad (pad_rep [] _ k), B, O, st⟩
end K
theorem ai {a b : Prop} (x : a) (y : b) : a ∧ b := ⟨x, y⟩
abbrev BT := List (Nat × Instr × Nat)
def bfind : BT → Nat → Option (Instr × Nat)
  | [], _ => none
  | (q, r) :: t, pc => match Nat.beq q pc with
    | true => some r
    | false => bfind t pc
def Tab (code : ByteArray) : BT → Prop
  | [] => True
  | (q, r) :: t => decode code q = .ok r ∧ Tab code t
theorem Tab.get {code : ByteArray} : ∀ {K : BT}, Tab code K → ∀ {pc : Nat} {r : Instr × Nat}, bfind K pc = some r → decode code pc = .ok r
  | [], _, pc, r, h => by simp [bfind] at h
  | (q, r0) :: t, hK, pc, r, h => by
    unfold bfind at h
    split at h
    · rename_i hq
      have := Nat.eq_of_beq_eq_true hq
      cases h
      subst this
      exact hK.1
    · exact Tab.get hK.2 h
def bput (L : Array Slot) (k : Nat) (v : Value) (pc : Nat) (S : List Value) : Option (Nat × Array Slot × List Value) :=
  match storeLocals L k v with
  | some l => some (pc, l, S)
  | none => none
def bloadI (L : Array Slot) (k : Nat) (pc : Nat) (S : List Value) : Option (Nat × Array Slot × List Value) :=
  match L[k]? with
  | some (.val (.int v)) => some (pc, L, .int v :: S)
  | _ => none
def bloadA (L : Array Slot) (k : Nat) (pc : Nat) (S : List Value) : Option (Nat × Array Slot × List Value) :=
  match L[k]? with
  | some (.val (.ref a)) => some (pc, L, .ref a :: S)
  | some (.val .null) => some (pc, L, .null :: S)
  | _ => none
def bstep (I : Instr) (n pc : Nat) (L : Array Slot) (S : List Value) : Option (Nat × Array Slot × List Value) :=
  match I, n, S with
  | .iload k, 2, S => bloadI L k (pc + 2) S
  | .iload_n k, 1, S => bloadI L k.val (pc + 1) S
  | .aload k, 2, S => bloadA L k (pc + 2) S
  | .aload_n k, 1, S => bloadA L k.val (pc + 1) S
  | .istore k, 2, .int x :: r => bput L k (.int x) (pc + 2) r
  | .istore_n k, 1, .int x :: r => bput L k.val (.int x) (pc + 1) r
  | .astore k, 2, .ref x :: r => bput L k (.ref x) (pc + 2) r
  | .astore_n k, 1, .ref x :: r => bput L k.val (.ref x) (pc + 1) r
  | .iconst i, 1, S => some (pc + 1, L, .int (Int32.ofInt i) :: S)
  | .bipush i, 2, S => some (pc + 2, L, .int (Int8.ofInt i).toInt32 :: S)
  | .sipush i, 3, S => some (pc + 3, L, .int (Int16.ofInt i).toInt32 :: S)
  | .aconst_null, 1, S => some (pc + 1, L, .null :: S)
  | .iadd, 1, .int y :: .int x :: r => some (pc + 1, L, .int (x + y) :: r)
  | .isub, 1, .int y :: .int x :: r => some (pc + 1, L, .int (x - y) :: r)
  | .iand, 1, .int y :: .int x :: r => some (pc + 1, L, .int (x &&& y) :: r)
  | .ior, 1, .int y :: .int x :: r => some (pc + 1, L, .int (x ||| y) :: r)
  | .ixor, 1, .int y :: .int x :: r => some (pc + 1, L, .int (x ^^^ y) :: r)
  | .imul, 1, .int y :: .int x :: r => some (pc + 1, L, .int (x * y) :: r)
  | .ishl, 1, .int y :: .int x :: r => some (pc + 1, L, .int (x <<< (y &&& 31)) :: r)
  | .ishr, 1, .int y :: .int x :: r => some (pc + 1, L, .int (x >>> (y &&& 31)) :: r)
  | .iushr, 1, .int y :: .int x :: r => some (pc + 1, L, .int ((x.toUInt32 >>> (y &&& 31).toUInt32).toInt32) :: r)
  | .i2b, 1, .int x :: r => some (pc + 1, L, .int (x.toInt8.toInt32) :: r)
  | .i2c, 1, .int x :: r => some (pc + 1, L, .int (x.toUInt32.toUInt16.toUInt32.toInt32) :: r)
  | .i2s, 1, .int x :: r => some (pc + 1, L, .int (x.toInt16.toInt32) :: r)
  | .dup, 1, .ref x :: r => some (pc + 1, L, .ref x :: .ref x :: r)
  | .dup, 1, .int x :: r => some (pc + 1, L, .int x :: .int x :: r)
  | .pop, 1, .ref x :: r => some (pc + 1, L, r)
  | .pop, 1, .int x :: r => some (pc + 1, L, r)
  | .iinc k d, 3, S => match L[k]? with
    | some (.val (.int x)) => bput L k (.int (x + Int32.ofInt d)) (pc + 3) S
    | _ => none
  | .goto o, 3, S => match (pc : Int) + o with
    | .ofNat q => some (q, L, S)
    | .negSucc _ => none
  | _, _, _ => none
def bbr (I : Instr) (n : Nat) (S : List Value) : Option (ClassFile.Cond × Int × Int32 × Int32 × List Value) :=
  match I, n, S with
  | .if_icmp cd o, 3, .int y :: .int x :: r => some (cd, o, x, y, r)
  | .ifCond cd o, 3, .int x :: r => some (cd, o, x, 0, r)
  | _, _, _ => none
def bpre (K : BT) : Nat → List Bool → Nat → Array Slot → List Value → Nat → Array Slot → List Value → Prop
  | 0, _, pc, L, S, pc', L', S' => (pc, L, S) = (pc', L', S')
  | n + 1, ds, pc, L, S, pc', L', S' =>
    match bfind K pc with
    | none => False
    | some (I, k) => match bbr I k S with
      | some (cd, o, x, y, r) => match ds with
        | [] => False
        | true :: ds => if_icmp.holds cd x y = true ∧ (match (pc : Int) + o with
          | .ofNat q => bpre K n ds q L r pc' L' S'
          | .negSucc _ => False)
        | false :: ds => if_icmp.holds cd x y = false ∧ bpre K n ds (pc + 3) L r pc' L' S'
      | none => match bstep I k pc L S with
        | none => False
        | some (pc1, L1, S1) => bpre K n ds pc1 L1 S1 pc' L' S'
theorem bput_some {L : Array Slot} {k : Nat} {v : Value} {pc : Nat} {S : List Value} {r : Nat × Array Slot × List Value} (h : bput L k v pc S = some r) : ∃ l, storeLocals L k v = some l ∧ r = (pc, l, S) := by
  unfold bput at h
  split at h
  · rename_i l hl; exact ⟨l, hl, (Option.some.inj h).symm⟩
  · cases h
theorem bloadI_some {L : Array Slot} {k : Nat} {pc : Nat} {S : List Value} {r : Nat × Array Slot × List Value} (h : bloadI L k pc S = some r) : ∃ v, L[k]? = some (.val (.int v)) ∧ r = (pc, L, .int v :: S) := by
  unfold bloadI at h
  split at h
  · rename_i v hl; exact ⟨v, hl, (Option.some.inj h).symm⟩
  · cases h
theorem bloadA_some {L : Array Slot} {k : Nat} {pc : Nat} {S : List Value} {r : Nat × Array Slot × List Value} (h : bloadA L k pc S = some r) : ∃ v, L[k]? = some (.val v) ∧ v.isRef = true ∧ r = (pc, L, v :: S) := by
  unfold bloadA at h
  split at h
  · rename_i v hl; exact ⟨_, hl, rfl, (Option.some.inj h).symm⟩
  · rename_i hl; exact ⟨_, hl, rfl, (Option.some.inj h).symm⟩
  · cases h
section B
variable {p : Program} {l : Launch} {e : Env} {R : Room} {s : State} {m : MethodId} {args : Array Value} {below : List Frame} {meth : Method} {c : Code} {T : State} {locs : List Loc} {cells slots : Nat}
theorem own_b1 (X : Stand p l e R s m args below meth c T locs cells slots) (hx : p.tables.exec = Jvm.exec) {I : Instr} {n pc : Nat} {L : Array Slot} {S : List Value} {pc1 : Nat} {L1 : Array Slot} {S1 : List Value} {t : State} (hd : decode c.code pc = .ok (I, n)) (h : bstep I n pc L S = some (pc1, L1, S1)) (k : OS p e below T m pc1 L1 S1 t) : OS p e below T m pc L S t := by
  unfold bstep at h
  split at h
  · obtain ⟨v, hl, q⟩ := bloadI_some h; cases q; exact XS.iload X.here hx rfl hd hl k
  · obtain ⟨v, hl, q⟩ := bloadI_some h; cases q; exact XS.iloadN X.here hx rfl hd hl k
  · obtain ⟨v, hl, hv, q⟩ := bloadA_some h; cases q; exact XS.aload X.here hx rfl hd hl hv k
  · obtain ⟨v, hl, hv, q⟩ := bloadA_some h; cases q; exact XS.aloadN X.here hx rfl hd hl hv k
  · obtain ⟨v, hl, q⟩ := bput_some h; cases q; exact XS.istore X.here hx rfl hd rfl hl k
  · obtain ⟨v, hl, q⟩ := bput_some h; cases q; exact XS.istoreN X.here hx rfl hd rfl hl k
  · obtain ⟨v, hl, q⟩ := bput_some h; cases q; exact XS.astore X.here hx rfl hd rfl rfl hl k
  · obtain ⟨v, hl, q⟩ := bput_some h; cases q; exact XS.astoreN X.here hx rfl hd rfl rfl hl k
  · cases h; exact XS.iconst X.here hx rfl hd k
  · cases h; exact XS.bipush X.here hx rfl hd k
  · cases h; exact XS.sipush X.here hx rfl hd k
  · cases h; exact XS.aconstNull X.here hx rfl hd k
  · cases h; exact XS.iadd X.here hx rfl hd rfl k
  · cases h; exact XS.isub X.here hx rfl hd rfl k
  · cases h; exact XS.iand X.here hx rfl hd rfl k
  · cases h; exact XS.ior X.here hx rfl hd rfl k
  · cases h; exact XS.ixor X.here hx rfl hd rfl k
  · cases h; exact XS.imul X.here hx rfl hd rfl k
  · cases h; exact XS.ishl X.here hx rfl hd rfl k
  · cases h; exact XS.ishr X.here hx rfl hd rfl k
  · cases h; exact XS.iushr X.here hx rfl hd rfl k
  · cases h; exact XS.i2b X.here hx rfl hd rfl k
  · cases h; exact XS.i2c X.here hx rfl hd rfl k
  · cases h; exact XS.i2s X.here hx rfl hd rfl k
  · cases h; exact XS.dup X.here hx rfl hd rfl rfl k
  · cases h; exact XS.dup X.here hx rfl hd rfl rfl k
  · cases h; exact XS.pop X.here hx rfl hd rfl rfl k
  · cases h; exact XS.pop X.here hx rfl hd rfl rfl k
  · split at h
    · rename_i x hl; obtain ⟨v, hl', q⟩ := bput_some h; cases q; exact XS.iinc X.here hx rfl hd hl hl' k
    · cases h
  · split at h
    · rename_i o q hq; cases h; exact XS.goto X.here hx rfl (pc0 := pc) rfl hd (by rw [hq]; exact Int.natCast_nonneg _) (by rw [hq]; rfl) k
    · cases h
  · cases h
theorem own_br (X : Stand p l e R s m args below meth c T locs cells slots) (hx : p.tables.exec = Jvm.exec) {K : BT} : ∀ (n : Nat) (ds : List Bool) (pc : Nat) (L : Array Slot) (S : List Value) {pc' : Nat} {L' : Array Slot} {S' : List Value} {t : State}, Tab c.code K → bpre K n ds pc L S pc' L' S' → OS p e below T m pc' L' S' t → OS p e below T m pc L S t
  | 0, ds, pc, L, S, pc', L', S', t, hK, h, k => by
    cases (show (pc, L, S) = (pc', L', S') from h)
    exact k
  | n + 1, ds, pc, L, S, pc', L', S', t, hK, h, k => by
    unfold bpre at h
    split at h
    · exact h.elim
    · rename_i I w hf
      have hd := Tab.get hK hf
      split at h
      · rename_i cd o x y r hb
        unfold bbr at hb
        split at hb
        · cases hb
          split at h
          · exact h.elim
          · obtain ⟨hc, h⟩ := h
            split at h
            · rename_i q hq
              exact XS.icmpYes X.here hx rfl (pc0 := pc) rfl hd rfl hc (by rw [hq]; exact Int.natCast_nonneg _) (by rw [hq]; rfl) (own_br X hx n _ _ _ _ hK h k)
            · exact h.elim
          · exact XS.icmpNo X.here hx rfl hd rfl h.1 (own_br X hx n _ _ _ _ hK h.2 k)
        · cases hb
          split at h
          · exact h.elim
          · obtain ⟨hc, h⟩ := h
            split at h
            · rename_i q hq
              exact XS.ifYes X.here hx rfl (pc0 := pc) rfl hd rfl ((if0 _ _).trans hc) (by rw [hq]; exact Int.natCast_nonneg _) (by rw [hq]; rfl) (own_br X hx n _ _ _ _ hK h k)
            · exact h.elim
          · exact XS.ifNo X.here hx rfl hd rfl ((if0 _ _).trans h.1) (own_br X hx n _ _ _ _ hK h.2 k)
        · cases hb
      · split at h
        · exact h.elim
        · rename_i pc1 L1 S1 hs
          exact own_b1 X hx hd hs (own_br X hx n _ _ _ _ hK h k)
theorem own_b (X : Stand p l e R s m args below meth c T locs cells slots) (hx : p.tables.exec = Jvm.exec) {code : ByteArray} (hby : c.code = code) {K : BT} (hK : Tab code K) (n : Nat) (ds : List Bool) {pc : Nat} {L : Array Slot} {S : List Value} (pc' : Nat) (L' : Array Slot) (S' : List Value) {t : State} (h : bpre K n ds pc L S pc' L' S') (k : OS p e below T m pc' L' S' t) : OS p e below T m pc L S t :=
  own_br X hx n ds pc L S (hby ▸ hK) h k
theorem os_eq {pc : Nat} {L : Array Slot} {S : List Value} {a b : Int32} {t : State} (h : a = b) (k : OS p e below T m pc L (vi a :: S) t) : OS p e below T m pc L (vi b :: S) t := h ▸ k
end B
theorem lw {n : Nat} {h h' : Heap} {a : Addr} {sl : Nat} {v : Value} (q : n ≤ h.size) (W : Wr h h' a sl v) : n ≤ h'.size := Nat.le_trans q (Keep.of_wr W).1
theorem lx {n : Nat} {h h' : Heap} (q : n ≤ h.size) (E : Ext h h') : n ≤ h'.size := Nat.le_trans q E.1
abbrev AE := List (Addr × FieldType × Int32 × List Value × Value)
def AEok (Z : State) (h : Heap) : AE → Prop
  | [] => True
  | (a, ty, z, vs, d) :: t => (∃ k, Arv Z h a k ty z vs d) ∧ AEok Z h t
theorem aen {Z : State} {h : Heap} : AEok Z h [] := trivial
theorem aec {Z : State} {h : Heap} {a : Addr} {k : ClassId} {ty : FieldType} {z : Int32} {vs : List Value} {d : Value} {E : AE} (V : Arv Z h a k ty z vs d) (t : AEok Z h E) : AEok Z h ((a, ty, z, vs, d) :: E) := ⟨⟨k, V⟩, t⟩
theorem AEok.get {Z : State} {h : Heap} : ∀ {E : AE}, AEok Z h E → ∀ {i : Nat} {a : Addr} {ty : FieldType} {z : Int32} {vs : List Value} {d : Value}, E[i]? = some (a, ty, z, vs, d) → ∃ k, Arv Z h a k ty z vs d
  | [], _, i, a, ty, z, vs, d, h => by simp at h
  | (a0, ty0, z0, vs0, d0) :: t, hE, 0, a, ty, z, vs, d, h => by
    simp only [List.getElem?_cons_zero, Option.some.injEq, Prod.mk.injEq] at h
    obtain ⟨rfl, rfl, rfl, rfl, rfl⟩ := h
    exact hE.1
  | _ :: t, hE, i + 1, a, ty, z, vs, d, h => AEok.get hE.2 (by simpa using h)
def bld (I : Instr) (n : Nat) (ty : FieldType) : Bool :=
  match I, n, ty with
  | .baload, 1, .byte => true
  | .caload, 1, .char => true
  | .iaload, 1, .int => true
  | .saload, 1, .short => true
  | _, _, _ => false
def isLen (I : Instr) (n : Nat) : Bool :=
  match I, n with
  | .arraylength, 1 => true
  | _, _ => false
def bard (E : AE) (x : Nat) (I : Instr) (n : Nat) (S : List Value) : Option (Addr × Addr × Value × List Value) :=
  match E[x]? with
  | none => none
  | some (b, ty, z, vs, d) => match isLen I n with
    | true => match S with
      | .ref a :: r => some (a, b, .int z, r)
      | _ => none
    | false => match bld I n ty with
      | false => none
      | true => match S with
        | .int j :: .ref a :: r => match decide (¬ j < 0 ∧ j < z) with
          | true => some (a, b, vs.getD j.toNatClampNeg d, r)
          | false => none
        | _ => none
def apre (K : BT) (E : AE) : Nat → List Bool → List Nat → Nat → Array Slot → List Value → Nat → Array Slot → List Value → Prop
  | 0, _, _, pc, L, S, pc', L', S' => (pc, L, S) = (pc', L', S')
  | n + 1, ds, xs, pc, L, S, pc', L', S' =>
    match bfind K pc with
    | none => False
    | some (I, k) => match bbr I k S with
      | some (cd, o, x, y, r) => match ds with
        | [] => False
        | true :: ds => if_icmp.holds cd x y = true ∧ (match (pc : Int) + o with
          | .ofNat q => apre K E n ds xs q L r pc' L' S'
          | .negSucc _ => False)
        | false :: ds => if_icmp.holds cd x y = false ∧ apre K E n ds xs (pc + 3) L r pc' L' S'
      | none => match bstep I k pc L S with
        | some (pc1, L1, S1) => apre K E n ds xs pc1 L1 S1 pc' L' S'
        | none => match xs with
          | [] => False
          | x :: xs => match bard E x I k S with
            | none => False
            | some (a, b, v, r) => a = b ∧ apre K E n ds xs (pc + 1) L (v :: r) pc' L' S'
section A
variable {p : Program} {l : Launch} {e : Env} {R : Room} {s : State} {m : MethodId} {args : Array Value} {below : List Frame} {meth : Method} {c : Code} {T : State} {locs : List Loc} {cells slots : Nat} {Z : State} {h : Heap}
theorem own_ar (X : Stand p l e R s m args below meth c T locs cells slots) (hx : p.tables.exec = Jvm.exec) (hZ : Z.Warmed39 s.vm) (eT : T.heap = h) {E : AE} (hE : AEok Z h E) {I : Instr} {n pc x : Nat} {L : Array Slot} {S : List Value} {a : Addr} {v : Value} {r : List Value} {t : State} (hd : decode c.code pc = .ok (I, n)) (hb : bard E x I n S = some (a, a, v, r)) (k : OS p e below T m (pc + 1) L (v :: r) t) : OS p e below T m pc L S t := by
  unfold bard at hb
  split at hb
  · cases hb
  · rename_i b ty z vs d hx1
    obtain ⟨kk, V⟩ := AEok.get hE hx1
    split at hb
    · rename_i hl
      unfold isLen at hl
      split at hl
      · split at hb
        · cases hb
          exact own_alen X hx hZ eT V hd t k
        · cases hb
      · cases hl
    · split at hb
      · cases hb
      · rename_i hl
        unfold bld at hl
        split at hb
        · split at hb
          · rename_i hj
            have hj := of_decide_eq_true hj
            cases hb
            split at hl
            · exact own_baload X hx hZ eT V hj rfl hd t k
            · exact own_caload X hx hZ eT V hj rfl hd t k
            · exact own_iaload X hx hZ eT V hj rfl hd t k
            · exact own_saload X hx hZ eT V hj rfl hd t k
            · cases hl
          · cases hb
        · cases hb
theorem own_ab (X : Stand p l e R s m args below meth c T locs cells slots) (hx : p.tables.exec = Jvm.exec) (hZ : Z.Warmed39 s.vm) (eT : T.heap = h) {E : AE} (hE : AEok Z h E) {K : BT} : ∀ (n : Nat) (ds : List Bool) (xs : List Nat) (pc : Nat) (L : Array Slot) (S : List Value) {pc' : Nat} {L' : Array Slot} {S' : List Value} {t : State}, Tab c.code K → apre K E n ds xs pc L S pc' L' S' → OS p e below T m pc' L' S' t → OS p e below T m pc L S t
  | 0, ds, xs, pc, L, S, pc', L', S', t, hK, h, k => by
    cases (show (pc, L, S) = (pc', L', S') from h)
    exact k
  | n + 1, ds, xs, pc, L, S, pc', L', S', t, hK, h, k => by
    unfold apre at h
    split at h
    · exact h.elim
    · rename_i I w hf
      have hd := Tab.get hK hf
      split at h
      · rename_i cd o x y r hb
        unfold bbr at hb
        split at hb
        · cases hb
          split at h
          · exact h.elim
          · obtain ⟨hc, h⟩ := h
            split at h
            · rename_i q hq
              exact XS.icmpYes X.here hx rfl (pc0 := pc) rfl hd rfl hc (by rw [hq]; exact Int.natCast_nonneg _) (by rw [hq]; rfl) (own_ab X hx hZ eT hE n _ _ _ _ _ hK h k)
            · exact h.elim
          · exact XS.icmpNo X.here hx rfl hd rfl h.1 (own_ab X hx hZ eT hE n _ _ _ _ _ hK h.2 k)
        · cases hb
          split at h
          · exact h.elim
          · obtain ⟨hc, h⟩ := h
            split at h
            · rename_i q hq
              exact XS.ifYes X.here hx rfl (pc0 := pc) rfl hd rfl ((if0 _ _).trans hc) (by rw [hq]; exact Int.natCast_nonneg _) (by rw [hq]; rfl) (own_ab X hx hZ eT hE n _ _ _ _ _ hK h k)
            · exact h.elim
          · exact XS.ifNo X.here hx rfl hd rfl ((if0 _ _).trans h.1) (own_ab X hx hZ eT hE n _ _ _ _ _ hK h.2 k)
        · cases hb
      · split at h
        · rename_i pc1 L1 S1 hs
          exact own_b1 X hx hd hs (own_ab X hx hZ eT hE n _ _ _ _ _ hK h k)
        · split at h
          · exact h.elim
          · split at h
            · exact h.elim
            · rename_i a b v r hb
              obtain ⟨rfl, h⟩ := h
              exact own_ar X hx hZ eT hE hd hb (own_ab X hx hZ eT hE n _ _ _ _ _ hK h k)
theorem own_a (X : Stand p l e R s m args below meth c T locs cells slots) (hx : p.tables.exec = Jvm.exec) (hZ : Z.Warmed39 s.vm) (eT : T.heap = h) {code : ByteArray} (hby : c.code = code) {K : BT} (hK : Tab code K) {E : AE} (hE : AEok Z h E) (n : Nat) (ds : List Bool) (xs : List Nat) {pc : Nat} {L : Array Slot} {S : List Value} (pc' : Nat) (L' : Array Slot) (S' : List Value) {t : State} (hp : apre K E n ds xs pc L S pc' L' S') (k : OS p e below T m pc' L' S' t) : OS p e below T m pc L S t :=
  own_ab X hx hZ eT hE n ds xs pc L S (hby ▸ hK) hp k
end A

section V
variable {l : Launch} {Z : State} {a0 : Array Value} {ws : List Jvm.Cond} {h0 : Heap} {n0 : Nat}
theorem wq (hw : OW Z a0) {c : Jvm.Cond} (i : Nat) (h : tables_1[i]? = some c) : c.before a0 Z = true := hw _ (List.mem_of_getElem? h)
theorem tw_0 (hw : OW Z a0) : (Jvm.Cond.constant "com/example/sinkwatch/sinkwatch/FlawNamedPinLaw" (48 : Nat) (2147483647 : Int32)).before a0 Z = true := wq hw 0 rfl
theorem tw_1 (hw : OW Z a0) : (Jvm.Cond.stringLink "com/example/sinkwatch/sinkwatch/FlawNamedPinLaw" (26 : Nat) "sql-injection").before a0 Z = true := wq hw 1 rfl
theorem tw_2 (hw : OW Z a0) : (Jvm.Cond.initialized "java/lang/String").before a0 Z = true := wq hw 2 rfl
theorem tw_3 (hw : OW Z a0) : (Jvm.Cond.instantiable "java/lang/String" (4 : Nat)).before a0 Z = true := wq hw 3 rfl
theorem tw_4 (hw : OW Z a0) : (Jvm.Cond.arrayClass Jvm.ClassFile.FieldType.byte).before a0 Z = true := wq hw 4 rfl
theorem tw_5 (hw : OW Z a0) : (Jvm.Cond.laysFinal "java/lang/String" "java/lang/String" "value" "[B").before a0 Z = true := wq hw 5 rfl
theorem tw_6 (hw : OW Z a0) : (Jvm.Cond.laysFinal "java/lang/String" "java/lang/String" "coder" "B").before a0 Z = true := wq hw 6 rfl
theorem tw_9 (hw : OW Z a0) : (Jvm.Cond.methodLink "com/example/sinkwatch/sinkwatch/FlawNamedPinLaw" (7 : Nat) ({ cls := "java/lang/String", name := "length", desc := "()I" } : Jvm.MethodName)).before a0 Z = true := wq hw 9 rfl
theorem tw_10 (hw : OW Z a0) : (Jvm.Cond.declares ({ cls := "java/lang/String", name := "length", desc := "()I" } : Jvm.MethodName)).before a0 Z = true := wq hw 10 rfl
theorem tw_11 (hw : OW Z a0) : (Jvm.Cond.instanceMethod ({ cls := "java/lang/String", name := "length", desc := "()I" } : Jvm.MethodName)).before a0 Z = true := wq hw 11 rfl
theorem tw_12 (hw : OW Z a0) : (Jvm.Cond.selects "java/lang/String" ({ cls := "java/lang/String", name := "length", desc := "()I" } : Jvm.MethodName) ({ cls := "java/lang/String", name := "length", desc := "()I" } : Jvm.MethodName)).before a0 Z = true := wq hw 12 rfl
theorem tw_13 (hw : OW Z a0) : (Jvm.Cond.code ({ cls := "java/lang/String", name := "length", desc := "()I" } : Jvm.MethodName) jdk_42_method_54_code (1 : Nat) (Option.some Jvm.ClassFile.FieldType.int)).before a0 Z = true := wq hw 13 rfl
theorem tw_14 (hw : OW Z a0) : (Jvm.Cond.fieldLink "java/lang/String" (9 : Nat) "java/lang/String" "value" "[B").before a0 Z = true := wq hw 14 rfl
theorem tw_15 (hw : OW Z a0) : (Jvm.Cond.methodLink "java/lang/String" (335 : Nat) ({ cls := "java/lang/String", name := "coder", desc := "()B" } : Jvm.MethodName)).before a0 Z = true := wq hw 15 rfl
theorem tw_16 (hw : OW Z a0) : (Jvm.Cond.declares ({ cls := "java/lang/String", name := "coder", desc := "()B" } : Jvm.MethodName)).before a0 Z = true := wq hw 16 rfl
theorem tw_17 (hw : OW Z a0) : (Jvm.Cond.instanceMethod ({ cls := "java/lang/String", name := "coder", desc := "()B" } : Jvm.MethodName)).before a0 Z = true := wq hw 17 rfl
theorem tw_18 (hw : OW Z a0) : (Jvm.Cond.selects "java/lang/String" ({ cls := "java/lang/String", name := "coder", desc := "()B" } : Jvm.MethodName) ({ cls := "java/lang/String", name := "coder", desc := "()B" } : Jvm.MethodName)).before a0 Z = true := wq hw 18 rfl
theorem tw_19 (hw : OW Z a0) : (Jvm.Cond.code ({ cls := "java/lang/String", name := "coder", desc := "()B" } : Jvm.MethodName) jdk_42_method_152_code (1 : Nat) (Option.some Jvm.ClassFile.FieldType.byte)).before a0 Z = true := wq hw 19 rfl
theorem tw_20 (hw : OW Z a0) : (Jvm.Cond.fieldLink "java/lang/String" (38 : Nat) "java/lang/String" "COMPACT_STRINGS" "Z").before a0 Z = true := wq hw 20 rfl
theorem tw_21 (hw : OW Z a0) : (Jvm.Cond.fieldLink "java/lang/String" (15 : Nat) "java/lang/String" "coder" "B").before a0 Z = true := wq hw 21 rfl
theorem tw_22 (hw : OW Z a0) : (Jvm.Cond.methodLink "com/example/sinkwatch/sinkwatch/FlawNamedPinLaw" (49 : Nat) ({ cls := "com/example/sinkwatch/sinkwatch/FlawNamedPinLaw", name := "make", desc := "(Ljava/lang/String;ICI)Ljava/lang/String;" } : Jvm.MethodName)).before a0 Z = true := wq hw 22 rfl
theorem tw_23 (hw : OW Z a0) : (Jvm.Cond.static ({ cls := "com/example/sinkwatch/sinkwatch/FlawNamedPinLaw", name := "make", desc := "(Ljava/lang/String;ICI)Ljava/lang/String;" } : Jvm.MethodName)).before a0 Z = true := wq hw 23 rfl
theorem tw_24 (hw : OW Z a0) : (Jvm.Cond.initialized "com/example/sinkwatch/sinkwatch/FlawNamedPinLaw").before a0 Z = true := wq hw 24 rfl
theorem tw_25 (hw : OW Z a0) : (Jvm.Cond.code ({ cls := "com/example/sinkwatch/sinkwatch/FlawNamedPinLaw", name := "make", desc := "(Ljava/lang/String;ICI)Ljava/lang/String;" } : Jvm.MethodName) method_3_code (5 : Nat) (Option.some (Jvm.ClassFile.FieldType.object "java/lang/String"))).before a0 Z = true := wq hw 25 rfl
theorem tw_26 (hw : OW Z a0) : (Jvm.Cond.arrayClass Jvm.ClassFile.FieldType.char).before a0 Z = true := wq hw 26 rfl
theorem tw_27 (hw : OW Z a0) : (Jvm.Cond.methodLink "com/example/sinkwatch/sinkwatch/FlawNamedPinLaw" (17 : Nat) ({ cls := "com/example/sinkwatch/sinkwatch/FlawNamedPinLaw", name := "cell", desc := "(Ljava/lang/String;IIC)C" } : Jvm.MethodName)).before a0 Z = true := wq hw 27 rfl
theorem tw_28 (hw : OW Z a0) : (Jvm.Cond.static ({ cls := "com/example/sinkwatch/sinkwatch/FlawNamedPinLaw", name := "cell", desc := "(Ljava/lang/String;IIC)C" } : Jvm.MethodName)).before a0 Z = true := wq hw 28 rfl
theorem tw_29 (hw : OW Z a0) : (Jvm.Cond.code ({ cls := "com/example/sinkwatch/sinkwatch/FlawNamedPinLaw", name := "cell", desc := "(Ljava/lang/String;IIC)C" } : Jvm.MethodName) method_2_code (4 : Nat) (Option.some Jvm.ClassFile.FieldType.char)).before a0 Z = true := wq hw 29 rfl
theorem tw_30 (hw : OW Z a0) : (Jvm.Cond.methodLink "com/example/sinkwatch/sinkwatch/FlawNamedPinLaw" (13 : Nat) ({ cls := "java/lang/String", name := "charAt", desc := "(I)C" } : Jvm.MethodName)).before a0 Z = true := wq hw 30 rfl
theorem tw_31 (hw : OW Z a0) : (Jvm.Cond.declares ({ cls := "java/lang/String", name := "charAt", desc := "(I)C" } : Jvm.MethodName)).before a0 Z = true := wq hw 31 rfl
theorem tw_32 (hw : OW Z a0) : (Jvm.Cond.instanceMethod ({ cls := "java/lang/String", name := "charAt", desc := "(I)C" } : Jvm.MethodName)).before a0 Z = true := wq hw 32 rfl
theorem tw_33 (hw : OW Z a0) : (Jvm.Cond.selects "java/lang/String" ({ cls := "java/lang/String", name := "charAt", desc := "(I)C" } : Jvm.MethodName) ({ cls := "java/lang/String", name := "charAt", desc := "(I)C" } : Jvm.MethodName)).before a0 Z = true := wq hw 33 rfl
theorem tw_34 (hw : OW Z a0) : (Jvm.Cond.code ({ cls := "java/lang/String", name := "charAt", desc := "(I)C" } : Jvm.MethodName) jdk_42_method_56_code (2 : Nat) (Option.some Jvm.ClassFile.FieldType.char)).before a0 Z = true := wq hw 34 rfl
theorem tw_35 (hw : OW Z a0) : (Jvm.Cond.methodLink "java/lang/String" (492 : Nat) ({ cls := "java/lang/String", name := "isLatin1", desc := "()Z" } : Jvm.MethodName)).before a0 Z = true := wq hw 35 rfl
theorem tw_36 (hw : OW Z a0) : (Jvm.Cond.declares ({ cls := "java/lang/String", name := "isLatin1", desc := "()Z" } : Jvm.MethodName)).before a0 Z = true := wq hw 36 rfl
theorem tw_37 (hw : OW Z a0) : (Jvm.Cond.instanceMethod ({ cls := "java/lang/String", name := "isLatin1", desc := "()Z" } : Jvm.MethodName)).before a0 Z = true := wq hw 37 rfl
theorem tw_38 (hw : OW Z a0) : (Jvm.Cond.selects "java/lang/String" ({ cls := "java/lang/String", name := "isLatin1", desc := "()Z" } : Jvm.MethodName) ({ cls := "java/lang/String", name := "isLatin1", desc := "()Z" } : Jvm.MethodName)).before a0 Z = true := wq hw 38 rfl
theorem tw_39 (hw : OW Z a0) : (Jvm.Cond.code ({ cls := "java/lang/String", name := "isLatin1", desc := "()Z" } : Jvm.MethodName) jdk_42_method_154_code (1 : Nat) (Option.some Jvm.ClassFile.FieldType.boolean)).before a0 Z = true := wq hw 39 rfl
theorem tw_40 (hw : OW Z a0) : (Jvm.Cond.methodLink "java/lang/String" (495 : Nat) ({ cls := "java/lang/StringLatin1", name := "charAt", desc := "([BI)C" } : Jvm.MethodName)).before a0 Z = true := wq hw 40 rfl
theorem tw_41 (hw : OW Z a0) : (Jvm.Cond.static ({ cls := "java/lang/StringLatin1", name := "charAt", desc := "([BI)C" } : Jvm.MethodName)).before a0 Z = true := wq hw 41 rfl
theorem tw_42 (hw : OW Z a0) : (Jvm.Cond.initialized "java/lang/StringLatin1").before a0 Z = true := wq hw 42 rfl
theorem tw_43 (hw : OW Z a0) : (Jvm.Cond.code ({ cls := "java/lang/StringLatin1", name := "charAt", desc := "([BI)C" } : Jvm.MethodName) jdk_43_method_2_code (2 : Nat) (Option.some Jvm.ClassFile.FieldType.char)).before a0 Z = true := wq hw 43 rfl
theorem tw_44 (hw : OW Z a0) : (Jvm.Cond.methodLink "java/lang/StringLatin1" (9 : Nat) ({ cls := "java/lang/String", name := "checkIndex", desc := "(II)V" } : Jvm.MethodName)).before a0 Z = true := wq hw 44 rfl
theorem tw_45 (hw : OW Z a0) : (Jvm.Cond.static ({ cls := "java/lang/String", name := "checkIndex", desc := "(II)V" } : Jvm.MethodName)).before a0 Z = true := wq hw 45 rfl
theorem tw_46 (hw : OW Z a0) : (Jvm.Cond.code ({ cls := "java/lang/String", name := "checkIndex", desc := "(II)V" } : Jvm.MethodName) jdk_42_method_155_code (2 : Nat) (Option.none : Option Jvm.ClassFile.FieldType)).before a0 Z = true := wq hw 46 rfl
theorem tw_47 (hw : OW Z a0) : (Jvm.Cond.fieldLink "java/lang/String" (1053 : Nat) "jdk/internal/util/Preconditions" "SIOOBE_FORMATTER" "Ljava/util/function/BiFunction;").before a0 Z = true := wq hw 47 rfl
theorem tw_48 (hw : OW Z a0) : (Jvm.Cond.initialized "jdk/internal/util/Preconditions").before a0 Z = true := wq hw 48 rfl
theorem tw_49 (hw : OW Z a0) : (Jvm.Cond.methodLink "java/lang/String" (1059 : Nat) ({ cls := "jdk/internal/util/Preconditions", name := "checkIndex", desc := "(IILjava/util/function/BiFunction;)I" } : Jvm.MethodName)).before a0 Z = true := wq hw 49 rfl
theorem tw_50 (hw : OW Z a0) : (Jvm.Cond.static ({ cls := "jdk/internal/util/Preconditions", name := "checkIndex", desc := "(IILjava/util/function/BiFunction;)I" } : Jvm.MethodName)).before a0 Z = true := wq hw 50 rfl
theorem tw_51 (hw : OW Z a0) : (Jvm.Cond.code ({ cls := "jdk/internal/util/Preconditions", name := "checkIndex", desc := "(IILjava/util/function/BiFunction;)I" } : Jvm.MethodName) jdk_41_method_11_code (3 : Nat) (Option.some Jvm.ClassFile.FieldType.int)).before a0 Z = true := wq hw 51 rfl
theorem tw_52 (hw : OW Z a0) : (Jvm.Cond.classLink "com/example/sinkwatch/sinkwatch/FlawNamedPinLaw" (8 : Nat) "java/lang/String").before a0 Z = true := wq hw 52 rfl
theorem tw_53 (hw : OW Z a0) : (Jvm.Cond.methodLink "com/example/sinkwatch/sinkwatch/FlawNamedPinLaw" (23 : Nat) ({ cls := "java/lang/String", name := "<init>", desc := "([C)V" } : Jvm.MethodName)).before a0 Z = true := wq hw 53 rfl
theorem tw_54 (hw : OW Z a0) : (Jvm.Cond.instanceMethod ({ cls := "java/lang/String", name := "<init>", desc := "([C)V" } : Jvm.MethodName)).before a0 Z = true := wq hw 54 rfl
theorem tw_55 (hw : OW Z a0) : (Jvm.Cond.code ({ cls := "java/lang/String", name := "<init>", desc := "([C)V" } : Jvm.MethodName) jdk_42_method_3_code (2 : Nat) (Option.none : Option Jvm.ClassFile.FieldType)).before a0 Z = true := wq hw 55 rfl
theorem tw_56 (hw : OW Z a0) : (Jvm.Cond.methodLink "java/lang/String" (27 : Nat) ({ cls := "java/lang/String", name := "<init>", desc := "([CIILjava/lang/Void;)V" } : Jvm.MethodName)).before a0 Z = true := wq hw 56 rfl
theorem tw_57 (hw : OW Z a0) : (Jvm.Cond.instanceMethod ({ cls := "java/lang/String", name := "<init>", desc := "([CIILjava/lang/Void;)V" } : Jvm.MethodName)).before a0 Z = true := wq hw 57 rfl
theorem tw_59 (hw : OW Z a0) : (Jvm.Cond.code ({ cls := "java/lang/String", name := "<init>", desc := "([CIILjava/lang/Void;)V" } : Jvm.MethodName) jdk_42_method_149_code (6 : Nat) (Option.none : Option Jvm.ClassFile.FieldType)).before a0 Z = true := wq hw 59 rfl
theorem tw_60 (hw : OW Z a0) : (Jvm.Cond.methodLink "java/lang/String" (1 : Nat) ({ cls := "java/lang/Object", name := "<init>", desc := "()V" } : Jvm.MethodName)).before a0 Z = true := wq hw 60 rfl
theorem tw_61 (hw : OW Z a0) : (Jvm.Cond.instanceMethod ({ cls := "java/lang/Object", name := "<init>", desc := "()V" } : Jvm.MethodName)).before a0 Z = true := wq hw 61 rfl
theorem tw_62 (hw : OW Z a0) : (Jvm.Cond.code ({ cls := "java/lang/Object", name := "<init>", desc := "()V" } : Jvm.MethodName) object_method_1_code (1 : Nat) (Option.none : Option Jvm.ClassFile.FieldType)).before a0 Z = true := wq hw 62 rfl
theorem tw_63 (hw : OW Z a0) : (Jvm.Cond.methodLink "java/lang/String" (177 : Nat) ({ cls := "java/lang/StringUTF16", name := "compress", desc := "([CII)[B" } : Jvm.MethodName)).before a0 Z = true := wq hw 63 rfl
theorem tw_64 (hw : OW Z a0) : (Jvm.Cond.static ({ cls := "java/lang/StringUTF16", name := "compress", desc := "([CII)[B" } : Jvm.MethodName)).before a0 Z = true := wq hw 64 rfl
theorem tw_65 (hw : OW Z a0) : (Jvm.Cond.initialized "java/lang/StringUTF16").before a0 Z = true := wq hw 65 rfl
theorem tw_66 (hw : OW Z a0) : (Jvm.Cond.code ({ cls := "java/lang/StringUTF16", name := "compress", desc := "([CII)[B" } : Jvm.MethodName) jdk_52_method_16_code (6 : Nat) (Option.some (Jvm.ClassFile.FieldType.array Jvm.ClassFile.FieldType.byte))).before a0 Z = true := wq hw 66 rfl
theorem tw_67 (hw : OW Z a0) : (Jvm.Cond.methodLink "java/lang/StringUTF16" (115 : Nat) ({ cls := "java/lang/StringUTF16", name := "compress", desc := "([CI[BII)I" } : Jvm.MethodName)).before a0 Z = true := wq hw 67 rfl
theorem tw_68 (hw : OW Z a0) : (Jvm.Cond.static ({ cls := "java/lang/StringUTF16", name := "compress", desc := "([CI[BII)I" } : Jvm.MethodName)).before a0 Z = true := wq hw 68 rfl
theorem tw_69 (hw : OW Z a0) : (Jvm.Cond.code ({ cls := "java/lang/StringUTF16", name := "compress", desc := "([CI[BII)I" } : Jvm.MethodName) jdk_52_method_21_code (7 : Nat) (Option.some Jvm.ClassFile.FieldType.int)).before a0 Z = true := wq hw 69 rfl
theorem tw_70 (hw : OW Z a0) : (Jvm.Cond.methodLink "java/lang/String" (47 : Nat) ({ cls := "java/lang/StringUTF16", name := "coderFromArrayLen", desc := "([BI)B" } : Jvm.MethodName)).before a0 Z = true := wq hw 70 rfl
theorem tw_71 (hw : OW Z a0) : (Jvm.Cond.static ({ cls := "java/lang/StringUTF16", name := "coderFromArrayLen", desc := "([BI)B" } : Jvm.MethodName)).before a0 Z = true := wq hw 71 rfl
theorem tw_72 (hw : OW Z a0) : (Jvm.Cond.code ({ cls := "java/lang/StringUTF16", name := "coderFromArrayLen", desc := "([BI)B" } : Jvm.MethodName) jdk_52_method_15_code (2 : Nat) (Option.some Jvm.ClassFile.FieldType.byte)).before a0 Z = true := wq hw 72 rfl
theorem tw_73 (hw : OW Z a0) : (Jvm.Cond.methodLink "com/example/sinkwatch/sinkwatch/FlawNamedPinLaw" (53 : Nat) ({ cls := "com/example/sinkwatch/sinkwatch/Flaw", name := "named", desc := "(Ljava/lang/String;)Lcom/example/sinkwatch/sinkwatch/Flaw;" } : Jvm.MethodName)).before a0 Z = true := wq hw 73 rfl
theorem tw_74 (hw : OW Z a0) : (Jvm.Cond.static ({ cls := "com/example/sinkwatch/sinkwatch/Flaw", name := "named", desc := "(Ljava/lang/String;)Lcom/example/sinkwatch/sinkwatch/Flaw;" } : Jvm.MethodName)).before a0 Z = true := wq hw 74 rfl
theorem tw_75 (hw : OW Z a0) : (Jvm.Cond.initialized "com/example/sinkwatch/sinkwatch/Flaw").before a0 Z = true := wq hw 75 rfl
theorem tw_76 (hw : OW Z a0) : (Jvm.Cond.code ({ cls := "com/example/sinkwatch/sinkwatch/Flaw", name := "named", desc := "(Ljava/lang/String;)Lcom/example/sinkwatch/sinkwatch/Flaw;" } : Jvm.MethodName) prog_3_method_5_code (5 : Nat) (Option.some (Jvm.ClassFile.FieldType.object "com/example/sinkwatch/sinkwatch/Flaw"))).before a0 Z = true := wq hw 76 rfl
theorem tw_77 (hw : OW Z a0) : (Jvm.Cond.methodLink "com/example/sinkwatch/sinkwatch/Flaw" (36 : Nat) ({ cls := "com/example/sinkwatch/sinkwatch/Flaw", name := "values", desc := "()[Lcom/example/sinkwatch/sinkwatch/Flaw;" } : Jvm.MethodName)).before a0 Z = true := wq hw 77 rfl
theorem tw_78 (hw : OW Z a0) : (Jvm.Cond.static ({ cls := "com/example/sinkwatch/sinkwatch/Flaw", name := "values", desc := "()[Lcom/example/sinkwatch/sinkwatch/Flaw;" } : Jvm.MethodName)).before a0 Z = true := wq hw 78 rfl
theorem tw_79 (hw : OW Z a0) : (Jvm.Cond.code ({ cls := "com/example/sinkwatch/sinkwatch/Flaw", name := "values", desc := "()[Lcom/example/sinkwatch/sinkwatch/Flaw;" } : Jvm.MethodName) prog_3_method_1_code (0 : Nat) (Option.some (Jvm.ClassFile.FieldType.array (Jvm.ClassFile.FieldType.object "com/example/sinkwatch/sinkwatch/Flaw")))).before a0 Z = true := wq hw 79 rfl
theorem tw_80 (hw : OW Z a0) : (Jvm.Cond.fieldLink "com/example/sinkwatch/sinkwatch/Flaw" (13 : Nat) "com/example/sinkwatch/sinkwatch/Flaw" "$VALUES" "[Lcom/example/sinkwatch/sinkwatch/Flaw;").before a0 Z = true := wq hw 80 rfl
theorem tw_81 (hw : OW Z a0) : (Jvm.Cond.laysStatic "com/example/sinkwatch/sinkwatch/Flaw" "$VALUES" "[Lcom/example/sinkwatch/sinkwatch/Flaw;").before a0 Z = true := wq hw 81 rfl
theorem tw_82 (hw : OW Z a0) : (Jvm.Cond.methodLink "com/example/sinkwatch/sinkwatch/Flaw" (17 : Nat) ({ cls := "[Lcom/example/sinkwatch/sinkwatch/Flaw;", name := "clone", desc := "()Ljava/lang/Object;" } : Jvm.MethodName)).before a0 Z = true := wq hw 82 rfl
theorem tw_83 (hw : OW Z a0) : (Jvm.Cond.sameMethod "[Lcom/example/sinkwatch/sinkwatch/Flaw;" "java/lang/Object" "clone" "()Ljava/lang/Object;").before a0 Z = true := wq hw 83 rfl
theorem tw_85 (hw : OW Z a0) : (Jvm.Cond.instanceMethod ({ cls := "java/lang/Object", name := "clone", desc := "()Ljava/lang/Object;" } : Jvm.MethodName)).before a0 Z = true := wq hw 85 rfl
theorem tw_86 (hw : OW Z a0) : (Jvm.Cond.selects "[Lcom/example/sinkwatch/sinkwatch/Flaw;" ({ cls := "[Lcom/example/sinkwatch/sinkwatch/Flaw;", name := "clone", desc := "()Ljava/lang/Object;" } : Jvm.MethodName) ({ cls := "java/lang/Object", name := "clone", desc := "()Ljava/lang/Object;" } : Jvm.MethodName)).before a0 Z = true := wq hw 86 rfl
theorem tw_87 (hw : OW Z a0) : (Jvm.Cond.native ({ cls := "java/lang/Object", name := "clone", desc := "()Ljava/lang/Object;" } : Jvm.MethodName)).before a0 Z = true := wq hw 87 rfl
theorem tw_88 (hw : OW Z a0) : (Jvm.Cond.castable "[Lcom/example/sinkwatch/sinkwatch/Flaw;" "java/lang/Cloneable").before a0 Z = true := wq hw 88 rfl
theorem tw_89 (hw : OW Z a0) : (Jvm.Cond.laysStatic "com/example/sinkwatch/sinkwatch/Flaw" "SQL_INJECTION" "Lcom/example/sinkwatch/sinkwatch/Flaw;").before a0 Z = true := wq hw 89 rfl
theorem tw_90 (hw : OW Z a0) : (Jvm.Cond.laysStatic "com/example/sinkwatch/sinkwatch/Flaw" "PATH_TRAVERSAL" "Lcom/example/sinkwatch/sinkwatch/Flaw;").before a0 Z = true := wq hw 90 rfl
theorem tw_91 (hw : OW Z a0) : (Jvm.Cond.laysStatic "com/example/sinkwatch/sinkwatch/Flaw" "OPEN_REDIRECT" "Lcom/example/sinkwatch/sinkwatch/Flaw;").before a0 Z = true := wq hw 91 rfl
theorem tw_93 (hw : OW Z a0) : (Jvm.Cond.classLink "com/example/sinkwatch/sinkwatch/Flaw" (18 : Nat) "[Lcom/example/sinkwatch/sinkwatch/Flaw;").before a0 Z = true := wq hw 93 rfl
theorem tw_95 (hw : OW Z a0) : (Jvm.Cond.fieldLink "com/example/sinkwatch/sinkwatch/Flaw" (32 : Nat) "com/example/sinkwatch/sinkwatch/Flaw" "word" "Ljava/lang/String;").before a0 Z = true := wq hw 95 rfl
theorem tw_97 (hw : OW Z a0) : (Jvm.Cond.methodLink "com/example/sinkwatch/sinkwatch/Flaw" (40 : Nat) ({ cls := "java/lang/String", name := "equals", desc := "(Ljava/lang/Object;)Z" } : Jvm.MethodName)).before a0 Z = true := wq hw 97 rfl
theorem tw_98 (hw : OW Z a0) : (Jvm.Cond.declares ({ cls := "java/lang/String", name := "equals", desc := "(Ljava/lang/Object;)Z" } : Jvm.MethodName)).before a0 Z = true := wq hw 98 rfl
theorem tw_99 (hw : OW Z a0) : (Jvm.Cond.instanceMethod ({ cls := "java/lang/String", name := "equals", desc := "(Ljava/lang/Object;)Z" } : Jvm.MethodName)).before a0 Z = true := wq hw 99 rfl
theorem tw_100 (hw : OW Z a0) : (Jvm.Cond.selects "java/lang/String" ({ cls := "java/lang/String", name := "equals", desc := "(Ljava/lang/Object;)Z" } : Jvm.MethodName) ({ cls := "java/lang/String", name := "equals", desc := "(Ljava/lang/Object;)Z" } : Jvm.MethodName)).before a0 Z = true := wq hw 100 rfl
theorem tw_101 (hw : OW Z a0) : (Jvm.Cond.code ({ cls := "java/lang/String", name := "equals", desc := "(Ljava/lang/Object;)Z" } : Jvm.MethodName) jdk_42_method_66_code (3 : Nat) (Option.some Jvm.ClassFile.FieldType.boolean)).before a0 Z = true := wq hw 101 rfl
theorem tw_102 (hw : OW Z a0) : (Jvm.Cond.classLink "java/lang/String" (10 : Nat) "java/lang/String").before a0 Z = true := wq hw 102 rfl
theorem tw_103 (hw : OW Z a0) : (Jvm.Cond.methodLink "java/lang/String" (541 : Nat) ({ cls := "java/lang/StringLatin1", name := "equals", desc := "([B[B)Z" } : Jvm.MethodName)).before a0 Z = true := wq hw 103 rfl
theorem tw_104 (hw : OW Z a0) : (Jvm.Cond.static ({ cls := "java/lang/StringLatin1", name := "equals", desc := "([B[B)Z" } : Jvm.MethodName)).before a0 Z = true := wq hw 104 rfl
theorem tw_105 (hw : OW Z a0) : (Jvm.Cond.code ({ cls := "java/lang/StringLatin1", name := "equals", desc := "([B[B)Z" } : Jvm.MethodName) jdk_43_method_13_code (3 : Nat) (Option.some Jvm.ClassFile.FieldType.boolean)).before a0 Z = true := wq hw 105 rfl
theorem tw_106 (hw : OW Z a0) : (Jvm.Cond.methodLink "com/example/sinkwatch/sinkwatch/FlawNamedPinLaw" (57 : Nat) ({ cls := "com/example/sinkwatch/sinkwatch/FlawNamedPinLaw", name := "ref", desc := "(Ljava/lang/String;)Lcom/example/sinkwatch/sinkwatch/Flaw;" } : Jvm.MethodName)).before a0 Z = true := wq hw 106 rfl
theorem tw_107 (hw : OW Z a0) : (Jvm.Cond.static ({ cls := "com/example/sinkwatch/sinkwatch/FlawNamedPinLaw", name := "ref", desc := "(Ljava/lang/String;)Lcom/example/sinkwatch/sinkwatch/Flaw;" } : Jvm.MethodName)).before a0 Z = true := wq hw 107 rfl
theorem tw_108 (hw : OW Z a0) : (Jvm.Cond.code ({ cls := "com/example/sinkwatch/sinkwatch/FlawNamedPinLaw", name := "ref", desc := "(Ljava/lang/String;)Lcom/example/sinkwatch/sinkwatch/Flaw;" } : Jvm.MethodName) method_4_code (1 : Nat) (Option.some (Jvm.ClassFile.FieldType.object "com/example/sinkwatch/sinkwatch/Flaw"))).before a0 Z = true := wq hw 108 rfl
theorem tw_109 (hw : OW Z a0) : (Jvm.Cond.methodLink "com/example/sinkwatch/sinkwatch/FlawNamedPinLaw" (28 : Nat) ({ cls := "java/lang/String", name := "equals", desc := "(Ljava/lang/Object;)Z" } : Jvm.MethodName)).before a0 Z = true := wq hw 109 rfl
theorem tw_110 (hw : OW Z a0) : (Jvm.Cond.stringLink "com/example/sinkwatch/sinkwatch/FlawNamedPinLaw" (38 : Nat) "path-traversal").before a0 Z = true := wq hw 110 rfl
theorem tw_111 (hw : OW Z a0) : (Jvm.Cond.stringLink "com/example/sinkwatch/sinkwatch/FlawNamedPinLaw" (43 : Nat) "open-redirect").before a0 Z = true := wq hw 111 rfl
theorem tw_112 (hw : OW Z a0) : (Jvm.Cond.fieldLink "com/example/sinkwatch/sinkwatch/FlawNamedPinLaw" (32 : Nat) "com/example/sinkwatch/sinkwatch/Flaw" "SQL_INJECTION" "Lcom/example/sinkwatch/sinkwatch/Flaw;").before a0 Z = true := wq hw 112 rfl
theorem tw_113 (hw : OW Z a0) : (Jvm.Cond.fieldLink "com/example/sinkwatch/sinkwatch/FlawNamedPinLaw" (40 : Nat) "com/example/sinkwatch/sinkwatch/Flaw" "PATH_TRAVERSAL" "Lcom/example/sinkwatch/sinkwatch/Flaw;").before a0 Z = true := wq hw 113 rfl
theorem tw_114 (hw : OW Z a0) : (Jvm.Cond.fieldLink "com/example/sinkwatch/sinkwatch/FlawNamedPinLaw" (45 : Nat) "com/example/sinkwatch/sinkwatch/Flaw" "OPEN_REDIRECT" "Lcom/example/sinkwatch/sinkwatch/Flaw;").before a0 Z = true := wq hw 114 rfl
theorem d1_0 : decode jdk_42_method_54_code 0 = .ok (.aload_n 0, 1) := by decide +kernel
theorem d1_1 : decode jdk_42_method_54_code 1 = .ok (.getfield 9, 3) := by decide +kernel
theorem d1_4 : decode jdk_42_method_54_code 4 = .ok (.arraylength, 1) := by decide +kernel
theorem d1_5 : decode jdk_42_method_54_code 5 = .ok (.aload_n 0, 1) := by decide +kernel
theorem d1_6 : decode jdk_42_method_54_code 6 = .ok (.invokevirtual 335, 3) := by decide +kernel
theorem d1_9 : decode jdk_42_method_54_code 9 = .ok (.ishr, 1) := by decide +kernel
theorem d1_10 : decode jdk_42_method_54_code 10 = .ok (.ireturn, 1) := by decide +kernel
theorem d2_0 : decode jdk_42_method_152_code 0 = .ok (.getstatic 38, 3) := by decide +kernel
theorem d2_3 : decode jdk_42_method_152_code 3 = .ok (.ifCond .eq 10, 3) := by decide +kernel
theorem d2_6 : decode jdk_42_method_152_code 6 = .ok (.aload_n 0, 1) := by decide +kernel
theorem d2_7 : decode jdk_42_method_152_code 7 = .ok (.getfield 15, 3) := by decide +kernel
theorem d2_10 : decode jdk_42_method_152_code 10 = .ok (.goto 4, 3) := by decide +kernel
theorem d2_14 : decode jdk_42_method_152_code 14 = .ok (.ireturn, 1) := by decide +kernel
theorem d3_0 : decode method_3_code 0 = .ok (.bipush 15, 2) := by decide +kernel
theorem d3_2 : decode method_3_code 2 = .ok (.newarray .char, 2) := by decide +kernel
theorem d3_4 : decode method_3_code 4 = .ok (.dup, 1) := by decide +kernel
theorem d3_5 : decode method_3_code 5 = .ok (.iconst 0, 1) := by decide +kernel
theorem d3_6 : decode method_3_code 6 = .ok (.aload_n 0, 1) := by decide +kernel
theorem d3_7 : decode method_3_code 7 = .ok (.iconst 0, 1) := by decide +kernel
theorem d3_8 : decode method_3_code 8 = .ok (.iload_n 1, 1) := by decide +kernel
theorem d3_9 : decode method_3_code 9 = .ok (.iload_n 2, 1) := by decide +kernel
theorem d3_10 : decode method_3_code 10 = .ok (.invokestatic 17, 3) := by decide +kernel
theorem d3_13 : decode method_3_code 13 = .ok (.castore, 1) := by decide +kernel
theorem d3_14 : decode method_3_code 14 = .ok (.dup, 1) := by decide +kernel
theorem d3_15 : decode method_3_code 15 = .ok (.iconst 1, 1) := by decide +kernel
theorem d3_16 : decode method_3_code 16 = .ok (.aload_n 0, 1) := by decide +kernel
theorem d3_17 : decode method_3_code 17 = .ok (.iconst 1, 1) := by decide +kernel
theorem d3_18 : decode method_3_code 18 = .ok (.iload_n 1, 1) := by decide +kernel
theorem d3_19 : decode method_3_code 19 = .ok (.iload_n 2, 1) := by decide +kernel
theorem d3_20 : decode method_3_code 20 = .ok (.invokestatic 17, 3) := by decide +kernel
theorem d3_23 : decode method_3_code 23 = .ok (.castore, 1) := by decide +kernel
theorem d3_24 : decode method_3_code 24 = .ok (.dup, 1) := by decide +kernel
theorem d3_25 : decode method_3_code 25 = .ok (.iconst 2, 1) := by decide +kernel
theorem d3_26 : decode method_3_code 26 = .ok (.aload_n 0, 1) := by decide +kernel
theorem d3_27 : decode method_3_code 27 = .ok (.iconst 2, 1) := by decide +kernel
theorem d3_28 : decode method_3_code 28 = .ok (.iload_n 1, 1) := by decide +kernel
theorem d3_29 : decode method_3_code 29 = .ok (.iload_n 2, 1) := by decide +kernel
theorem d3_30 : decode method_3_code 30 = .ok (.invokestatic 17, 3) := by decide +kernel
theorem d3_33 : decode method_3_code 33 = .ok (.castore, 1) := by decide +kernel
theorem d3_34 : decode method_3_code 34 = .ok (.dup, 1) := by decide +kernel
theorem d3_35 : decode method_3_code 35 = .ok (.iconst 3, 1) := by decide +kernel
theorem d3_36 : decode method_3_code 36 = .ok (.aload_n 0, 1) := by decide +kernel
theorem d3_37 : decode method_3_code 37 = .ok (.iconst 3, 1) := by decide +kernel
theorem d3_38 : decode method_3_code 38 = .ok (.iload_n 1, 1) := by decide +kernel
theorem d3_39 : decode method_3_code 39 = .ok (.iload_n 2, 1) := by decide +kernel
theorem d3_40 : decode method_3_code 40 = .ok (.invokestatic 17, 3) := by decide +kernel
theorem d3_43 : decode method_3_code 43 = .ok (.castore, 1) := by decide +kernel
theorem d3_44 : decode method_3_code 44 = .ok (.dup, 1) := by decide +kernel
theorem d3_45 : decode method_3_code 45 = .ok (.iconst 4, 1) := by decide +kernel
theorem d3_46 : decode method_3_code 46 = .ok (.aload_n 0, 1) := by decide +kernel
theorem d3_47 : decode method_3_code 47 = .ok (.iconst 4, 1) := by decide +kernel
theorem d3_48 : decode method_3_code 48 = .ok (.iload_n 1, 1) := by decide +kernel
theorem d3_49 : decode method_3_code 49 = .ok (.iload_n 2, 1) := by decide +kernel
theorem d3_50 : decode method_3_code 50 = .ok (.invokestatic 17, 3) := by decide +kernel
theorem d3_53 : decode method_3_code 53 = .ok (.castore, 1) := by decide +kernel
theorem d3_54 : decode method_3_code 54 = .ok (.dup, 1) := by decide +kernel
theorem d3_55 : decode method_3_code 55 = .ok (.iconst 5, 1) := by decide +kernel
theorem d3_56 : decode method_3_code 56 = .ok (.aload_n 0, 1) := by decide +kernel
theorem d3_57 : decode method_3_code 57 = .ok (.iconst 5, 1) := by decide +kernel
theorem d3_58 : decode method_3_code 58 = .ok (.iload_n 1, 1) := by decide +kernel
theorem d3_59 : decode method_3_code 59 = .ok (.iload_n 2, 1) := by decide +kernel
theorem d3_60 : decode method_3_code 60 = .ok (.invokestatic 17, 3) := by decide +kernel
theorem d3_63 : decode method_3_code 63 = .ok (.castore, 1) := by decide +kernel
theorem d3_64 : decode method_3_code 64 = .ok (.dup, 1) := by decide +kernel
theorem d3_65 : decode method_3_code 65 = .ok (.bipush 6, 2) := by decide +kernel
theorem d3_67 : decode method_3_code 67 = .ok (.aload_n 0, 1) := by decide +kernel
theorem d3_68 : decode method_3_code 68 = .ok (.bipush 6, 2) := by decide +kernel
theorem d3_70 : decode method_3_code 70 = .ok (.iload_n 1, 1) := by decide +kernel
theorem d3_71 : decode method_3_code 71 = .ok (.iload_n 2, 1) := by decide +kernel
theorem d3_72 : decode method_3_code 72 = .ok (.invokestatic 17, 3) := by decide +kernel
theorem d3_75 : decode method_3_code 75 = .ok (.castore, 1) := by decide +kernel
theorem d3_76 : decode method_3_code 76 = .ok (.dup, 1) := by decide +kernel
theorem d3_77 : decode method_3_code 77 = .ok (.bipush 7, 2) := by decide +kernel
theorem d3_79 : decode method_3_code 79 = .ok (.aload_n 0, 1) := by decide +kernel
theorem d3_80 : decode method_3_code 80 = .ok (.bipush 7, 2) := by decide +kernel
theorem d3_82 : decode method_3_code 82 = .ok (.iload_n 1, 1) := by decide +kernel
theorem d3_83 : decode method_3_code 83 = .ok (.iload_n 2, 1) := by decide +kernel
theorem d3_84 : decode method_3_code 84 = .ok (.invokestatic 17, 3) := by decide +kernel
theorem d3_87 : decode method_3_code 87 = .ok (.castore, 1) := by decide +kernel
theorem d3_88 : decode method_3_code 88 = .ok (.dup, 1) := by decide +kernel
theorem d3_89 : decode method_3_code 89 = .ok (.bipush 8, 2) := by decide +kernel
theorem d3_91 : decode method_3_code 91 = .ok (.aload_n 0, 1) := by decide +kernel
theorem d3_92 : decode method_3_code 92 = .ok (.bipush 8, 2) := by decide +kernel
theorem d3_94 : decode method_3_code 94 = .ok (.iload_n 1, 1) := by decide +kernel
theorem d3_95 : decode method_3_code 95 = .ok (.iload_n 2, 1) := by decide +kernel
theorem d3_96 : decode method_3_code 96 = .ok (.invokestatic 17, 3) := by decide +kernel
theorem d3_99 : decode method_3_code 99 = .ok (.castore, 1) := by decide +kernel
theorem d3_100 : decode method_3_code 100 = .ok (.dup, 1) := by decide +kernel
theorem d3_101 : decode method_3_code 101 = .ok (.bipush 9, 2) := by decide +kernel
theorem d3_103 : decode method_3_code 103 = .ok (.aload_n 0, 1) := by decide +kernel
theorem d3_104 : decode method_3_code 104 = .ok (.bipush 9, 2) := by decide +kernel
theorem d3_106 : decode method_3_code 106 = .ok (.iload_n 1, 1) := by decide +kernel
theorem d3_107 : decode method_3_code 107 = .ok (.iload_n 2, 1) := by decide +kernel
theorem d3_108 : decode method_3_code 108 = .ok (.invokestatic 17, 3) := by decide +kernel
theorem d3_111 : decode method_3_code 111 = .ok (.castore, 1) := by decide +kernel
theorem d3_112 : decode method_3_code 112 = .ok (.dup, 1) := by decide +kernel
theorem d3_113 : decode method_3_code 113 = .ok (.bipush 10, 2) := by decide +kernel
theorem d3_115 : decode method_3_code 115 = .ok (.aload_n 0, 1) := by decide +kernel
theorem d3_116 : decode method_3_code 116 = .ok (.bipush 10, 2) := by decide +kernel
theorem d3_118 : decode method_3_code 118 = .ok (.iload_n 1, 1) := by decide +kernel
theorem d3_119 : decode method_3_code 119 = .ok (.iload_n 2, 1) := by decide +kernel
theorem d3_120 : decode method_3_code 120 = .ok (.invokestatic 17, 3) := by decide +kernel
theorem d3_123 : decode method_3_code 123 = .ok (.castore, 1) := by decide +kernel
theorem d3_124 : decode method_3_code 124 = .ok (.dup, 1) := by decide +kernel
theorem d3_125 : decode method_3_code 125 = .ok (.bipush 11, 2) := by decide +kernel
theorem d3_127 : decode method_3_code 127 = .ok (.aload_n 0, 1) := by decide +kernel
theorem d3_128 : decode method_3_code 128 = .ok (.bipush 11, 2) := by decide +kernel
theorem d3_130 : decode method_3_code 130 = .ok (.iload_n 1, 1) := by decide +kernel
theorem d3_131 : decode method_3_code 131 = .ok (.iload_n 2, 1) := by decide +kernel
theorem d3_132 : decode method_3_code 132 = .ok (.invokestatic 17, 3) := by decide +kernel
theorem d3_135 : decode method_3_code 135 = .ok (.castore, 1) := by decide +kernel
theorem d3_136 : decode method_3_code 136 = .ok (.dup, 1) := by decide +kernel
theorem d3_137 : decode method_3_code 137 = .ok (.bipush 12, 2) := by decide +kernel
theorem d3_139 : decode method_3_code 139 = .ok (.aload_n 0, 1) := by decide +kernel
theorem d3_140 : decode method_3_code 140 = .ok (.bipush 12, 2) := by decide +kernel
theorem d3_142 : decode method_3_code 142 = .ok (.iload_n 1, 1) := by decide +kernel
theorem d3_143 : decode method_3_code 143 = .ok (.iload_n 2, 1) := by decide +kernel
theorem d3_144 : decode method_3_code 144 = .ok (.invokestatic 17, 3) := by decide +kernel
theorem d3_147 : decode method_3_code 147 = .ok (.castore, 1) := by decide +kernel
theorem d3_148 : decode method_3_code 148 = .ok (.dup, 1) := by decide +kernel
theorem d3_149 : decode method_3_code 149 = .ok (.bipush 13, 2) := by decide +kernel
theorem d3_151 : decode method_3_code 151 = .ok (.aload_n 0, 1) := by decide +kernel
theorem d3_152 : decode method_3_code 152 = .ok (.bipush 13, 2) := by decide +kernel
theorem d3_154 : decode method_3_code 154 = .ok (.iload_n 1, 1) := by decide +kernel
theorem d3_155 : decode method_3_code 155 = .ok (.iload_n 2, 1) := by decide +kernel
theorem d3_156 : decode method_3_code 156 = .ok (.invokestatic 17, 3) := by decide +kernel
theorem d3_159 : decode method_3_code 159 = .ok (.castore, 1) := by decide +kernel
theorem d3_160 : decode method_3_code 160 = .ok (.dup, 1) := by decide +kernel
theorem d3_161 : decode method_3_code 161 = .ok (.bipush 14, 2) := by decide +kernel
theorem d3_163 : decode method_3_code 163 = .ok (.aload_n 0, 1) := by decide +kernel
theorem d3_164 : decode method_3_code 164 = .ok (.bipush 14, 2) := by decide +kernel
theorem d3_166 : decode method_3_code 166 = .ok (.iload_n 1, 1) := by decide +kernel
theorem d3_167 : decode method_3_code 167 = .ok (.iload_n 2, 1) := by decide +kernel
theorem d3_168 : decode method_3_code 168 = .ok (.invokestatic 17, 3) := by decide +kernel
theorem d3_171 : decode method_3_code 171 = .ok (.castore, 1) := by decide +kernel
theorem d3_172 : decode method_3_code 172 = .ok (.astore 4, 2) := by decide +kernel
theorem d3_174 : decode method_3_code 174 = .ok (.iload_n 3, 1) := by decide +kernel
theorem d3_175 : decode method_3_code 175 = .ok (.bipush 12, 2) := by decide +kernel
theorem d3_177 : decode method_3_code 177 = .ok (.if_icmp .ne 111, 3) := by decide +kernel
theorem d3_180 : decode method_3_code 180 = .ok (.new 8, 3) := by decide +kernel
theorem d3_183 : decode method_3_code 183 = .ok (.dup, 1) := by decide +kernel
theorem d3_184 : decode method_3_code 184 = .ok (.bipush 12, 2) := by decide +kernel
theorem d3_186 : decode method_3_code 186 = .ok (.newarray .char, 2) := by decide +kernel
theorem d3_188 : decode method_3_code 188 = .ok (.dup, 1) := by decide +kernel
theorem d3_189 : decode method_3_code 189 = .ok (.iconst 0, 1) := by decide +kernel
theorem d3_190 : decode method_3_code 190 = .ok (.aload 4, 2) := by decide +kernel
theorem d3_192 : decode method_3_code 192 = .ok (.iconst 0, 1) := by decide +kernel
theorem d3_193 : decode method_3_code 193 = .ok (.caload, 1) := by decide +kernel
theorem d3_194 : decode method_3_code 194 = .ok (.castore, 1) := by decide +kernel
theorem d3_195 : decode method_3_code 195 = .ok (.dup, 1) := by decide +kernel
theorem d3_196 : decode method_3_code 196 = .ok (.iconst 1, 1) := by decide +kernel
theorem d3_197 : decode method_3_code 197 = .ok (.aload 4, 2) := by decide +kernel
theorem d3_199 : decode method_3_code 199 = .ok (.iconst 1, 1) := by decide +kernel
theorem d3_200 : decode method_3_code 200 = .ok (.caload, 1) := by decide +kernel
theorem d3_201 : decode method_3_code 201 = .ok (.castore, 1) := by decide +kernel
theorem d3_202 : decode method_3_code 202 = .ok (.dup, 1) := by decide +kernel
theorem d3_203 : decode method_3_code 203 = .ok (.iconst 2, 1) := by decide +kernel
theorem d3_204 : decode method_3_code 204 = .ok (.aload 4, 2) := by decide +kernel
theorem d3_206 : decode method_3_code 206 = .ok (.iconst 2, 1) := by decide +kernel
theorem d3_207 : decode method_3_code 207 = .ok (.caload, 1) := by decide +kernel
theorem d3_208 : decode method_3_code 208 = .ok (.castore, 1) := by decide +kernel
theorem d3_209 : decode method_3_code 209 = .ok (.dup, 1) := by decide +kernel
theorem d3_210 : decode method_3_code 210 = .ok (.iconst 3, 1) := by decide +kernel
theorem d3_211 : decode method_3_code 211 = .ok (.aload 4, 2) := by decide +kernel
theorem d3_213 : decode method_3_code 213 = .ok (.iconst 3, 1) := by decide +kernel
theorem d3_214 : decode method_3_code 214 = .ok (.caload, 1) := by decide +kernel
theorem d3_215 : decode method_3_code 215 = .ok (.castore, 1) := by decide +kernel
theorem d3_216 : decode method_3_code 216 = .ok (.dup, 1) := by decide +kernel
theorem d3_217 : decode method_3_code 217 = .ok (.iconst 4, 1) := by decide +kernel
theorem d3_218 : decode method_3_code 218 = .ok (.aload 4, 2) := by decide +kernel
theorem d3_220 : decode method_3_code 220 = .ok (.iconst 4, 1) := by decide +kernel
theorem d3_221 : decode method_3_code 221 = .ok (.caload, 1) := by decide +kernel
theorem d3_222 : decode method_3_code 222 = .ok (.castore, 1) := by decide +kernel
theorem d3_223 : decode method_3_code 223 = .ok (.dup, 1) := by decide +kernel
theorem d3_224 : decode method_3_code 224 = .ok (.iconst 5, 1) := by decide +kernel
theorem d3_225 : decode method_3_code 225 = .ok (.aload 4, 2) := by decide +kernel
theorem d3_227 : decode method_3_code 227 = .ok (.iconst 5, 1) := by decide +kernel
theorem d3_228 : decode method_3_code 228 = .ok (.caload, 1) := by decide +kernel
theorem d3_229 : decode method_3_code 229 = .ok (.castore, 1) := by decide +kernel
theorem d3_230 : decode method_3_code 230 = .ok (.dup, 1) := by decide +kernel
theorem d3_231 : decode method_3_code 231 = .ok (.bipush 6, 2) := by decide +kernel
theorem d3_233 : decode method_3_code 233 = .ok (.aload 4, 2) := by decide +kernel
theorem d3_235 : decode method_3_code 235 = .ok (.bipush 6, 2) := by decide +kernel
theorem d3_237 : decode method_3_code 237 = .ok (.caload, 1) := by decide +kernel
theorem d3_238 : decode method_3_code 238 = .ok (.castore, 1) := by decide +kernel
theorem d3_239 : decode method_3_code 239 = .ok (.dup, 1) := by decide +kernel
theorem d3_240 : decode method_3_code 240 = .ok (.bipush 7, 2) := by decide +kernel
theorem d3_242 : decode method_3_code 242 = .ok (.aload 4, 2) := by decide +kernel
theorem d3_244 : decode method_3_code 244 = .ok (.bipush 7, 2) := by decide +kernel
theorem d3_246 : decode method_3_code 246 = .ok (.caload, 1) := by decide +kernel
theorem d3_247 : decode method_3_code 247 = .ok (.castore, 1) := by decide +kernel
theorem d3_248 : decode method_3_code 248 = .ok (.dup, 1) := by decide +kernel
theorem d3_249 : decode method_3_code 249 = .ok (.bipush 8, 2) := by decide +kernel
theorem d3_251 : decode method_3_code 251 = .ok (.aload 4, 2) := by decide +kernel
theorem d3_253 : decode method_3_code 253 = .ok (.bipush 8, 2) := by decide +kernel
theorem d3_255 : decode method_3_code 255 = .ok (.caload, 1) := by decide +kernel
theorem d3_256 : decode method_3_code 256 = .ok (.castore, 1) := by decide +kernel
theorem d3_257 : decode method_3_code 257 = .ok (.dup, 1) := by decide +kernel
theorem d3_258 : decode method_3_code 258 = .ok (.bipush 9, 2) := by decide +kernel
theorem d3_260 : decode method_3_code 260 = .ok (.aload 4, 2) := by decide +kernel
theorem d3_262 : decode method_3_code 262 = .ok (.bipush 9, 2) := by decide +kernel
theorem d3_264 : decode method_3_code 264 = .ok (.caload, 1) := by decide +kernel
theorem d3_265 : decode method_3_code 265 = .ok (.castore, 1) := by decide +kernel
theorem d3_266 : decode method_3_code 266 = .ok (.dup, 1) := by decide +kernel
theorem d3_267 : decode method_3_code 267 = .ok (.bipush 10, 2) := by decide +kernel
theorem d3_269 : decode method_3_code 269 = .ok (.aload 4, 2) := by decide +kernel
theorem d3_271 : decode method_3_code 271 = .ok (.bipush 10, 2) := by decide +kernel
theorem d3_273 : decode method_3_code 273 = .ok (.caload, 1) := by decide +kernel
theorem d3_274 : decode method_3_code 274 = .ok (.castore, 1) := by decide +kernel
theorem d3_275 : decode method_3_code 275 = .ok (.dup, 1) := by decide +kernel
theorem d3_276 : decode method_3_code 276 = .ok (.bipush 11, 2) := by decide +kernel
theorem d3_278 : decode method_3_code 278 = .ok (.aload 4, 2) := by decide +kernel
theorem d3_280 : decode method_3_code 280 = .ok (.bipush 11, 2) := by decide +kernel
theorem d3_282 : decode method_3_code 282 = .ok (.caload, 1) := by decide +kernel
theorem d3_283 : decode method_3_code 283 = .ok (.castore, 1) := by decide +kernel
theorem d3_284 : decode method_3_code 284 = .ok (.invokespecial 23, 3) := by decide +kernel
theorem d3_287 : decode method_3_code 287 = .ok (.areturn, 1) := by decide +kernel
theorem d3_288 : decode method_3_code 288 = .ok (.iload_n 3, 1) := by decide +kernel
theorem d3_289 : decode method_3_code 289 = .ok (.bipush 13, 2) := by decide +kernel
theorem d3_291 : decode method_3_code 291 = .ok (.if_icmp .ne 120, 3) := by decide +kernel
theorem d3_294 : decode method_3_code 294 = .ok (.new 8, 3) := by decide +kernel
theorem d3_297 : decode method_3_code 297 = .ok (.dup, 1) := by decide +kernel
theorem d3_298 : decode method_3_code 298 = .ok (.bipush 13, 2) := by decide +kernel
theorem d3_300 : decode method_3_code 300 = .ok (.newarray .char, 2) := by decide +kernel
theorem d3_302 : decode method_3_code 302 = .ok (.dup, 1) := by decide +kernel
theorem d3_303 : decode method_3_code 303 = .ok (.iconst 0, 1) := by decide +kernel
theorem d3_304 : decode method_3_code 304 = .ok (.aload 4, 2) := by decide +kernel
theorem d3_306 : decode method_3_code 306 = .ok (.iconst 0, 1) := by decide +kernel
theorem d3_307 : decode method_3_code 307 = .ok (.caload, 1) := by decide +kernel
theorem d3_308 : decode method_3_code 308 = .ok (.castore, 1) := by decide +kernel
theorem d3_309 : decode method_3_code 309 = .ok (.dup, 1) := by decide +kernel
theorem d3_310 : decode method_3_code 310 = .ok (.iconst 1, 1) := by decide +kernel
theorem d3_311 : decode method_3_code 311 = .ok (.aload 4, 2) := by decide +kernel
theorem d3_313 : decode method_3_code 313 = .ok (.iconst 1, 1) := by decide +kernel
theorem d3_314 : decode method_3_code 314 = .ok (.caload, 1) := by decide +kernel
theorem d3_315 : decode method_3_code 315 = .ok (.castore, 1) := by decide +kernel
theorem d3_316 : decode method_3_code 316 = .ok (.dup, 1) := by decide +kernel
theorem d3_317 : decode method_3_code 317 = .ok (.iconst 2, 1) := by decide +kernel
theorem d3_318 : decode method_3_code 318 = .ok (.aload 4, 2) := by decide +kernel
theorem d3_320 : decode method_3_code 320 = .ok (.iconst 2, 1) := by decide +kernel
theorem d3_321 : decode method_3_code 321 = .ok (.caload, 1) := by decide +kernel
theorem d3_322 : decode method_3_code 322 = .ok (.castore, 1) := by decide +kernel
theorem d3_323 : decode method_3_code 323 = .ok (.dup, 1) := by decide +kernel
theorem d3_324 : decode method_3_code 324 = .ok (.iconst 3, 1) := by decide +kernel
theorem d3_325 : decode method_3_code 325 = .ok (.aload 4, 2) := by decide +kernel
theorem d3_327 : decode method_3_code 327 = .ok (.iconst 3, 1) := by decide +kernel
theorem d3_328 : decode method_3_code 328 = .ok (.caload, 1) := by decide +kernel
theorem d3_329 : decode method_3_code 329 = .ok (.castore, 1) := by decide +kernel
theorem d3_330 : decode method_3_code 330 = .ok (.dup, 1) := by decide +kernel
theorem d3_331 : decode method_3_code 331 = .ok (.iconst 4, 1) := by decide +kernel
theorem d3_332 : decode method_3_code 332 = .ok (.aload 4, 2) := by decide +kernel
theorem d3_334 : decode method_3_code 334 = .ok (.iconst 4, 1) := by decide +kernel
theorem d3_335 : decode method_3_code 335 = .ok (.caload, 1) := by decide +kernel
theorem d3_336 : decode method_3_code 336 = .ok (.castore, 1) := by decide +kernel
theorem d3_337 : decode method_3_code 337 = .ok (.dup, 1) := by decide +kernel
theorem d3_338 : decode method_3_code 338 = .ok (.iconst 5, 1) := by decide +kernel
theorem d3_339 : decode method_3_code 339 = .ok (.aload 4, 2) := by decide +kernel
theorem d3_341 : decode method_3_code 341 = .ok (.iconst 5, 1) := by decide +kernel
theorem d3_342 : decode method_3_code 342 = .ok (.caload, 1) := by decide +kernel
theorem d3_343 : decode method_3_code 343 = .ok (.castore, 1) := by decide +kernel
theorem d3_344 : decode method_3_code 344 = .ok (.dup, 1) := by decide +kernel
theorem d3_345 : decode method_3_code 345 = .ok (.bipush 6, 2) := by decide +kernel
theorem d3_347 : decode method_3_code 347 = .ok (.aload 4, 2) := by decide +kernel
theorem d3_349 : decode method_3_code 349 = .ok (.bipush 6, 2) := by decide +kernel
theorem d3_351 : decode method_3_code 351 = .ok (.caload, 1) := by decide +kernel
theorem d3_352 : decode method_3_code 352 = .ok (.castore, 1) := by decide +kernel
theorem d3_353 : decode method_3_code 353 = .ok (.dup, 1) := by decide +kernel
theorem d3_354 : decode method_3_code 354 = .ok (.bipush 7, 2) := by decide +kernel
theorem d3_356 : decode method_3_code 356 = .ok (.aload 4, 2) := by decide +kernel
theorem d3_358 : decode method_3_code 358 = .ok (.bipush 7, 2) := by decide +kernel
theorem d3_360 : decode method_3_code 360 = .ok (.caload, 1) := by decide +kernel
theorem d3_361 : decode method_3_code 361 = .ok (.castore, 1) := by decide +kernel
theorem d3_362 : decode method_3_code 362 = .ok (.dup, 1) := by decide +kernel
theorem d3_363 : decode method_3_code 363 = .ok (.bipush 8, 2) := by decide +kernel
theorem d3_365 : decode method_3_code 365 = .ok (.aload 4, 2) := by decide +kernel
theorem d3_367 : decode method_3_code 367 = .ok (.bipush 8, 2) := by decide +kernel
theorem d3_369 : decode method_3_code 369 = .ok (.caload, 1) := by decide +kernel
theorem d3_370 : decode method_3_code 370 = .ok (.castore, 1) := by decide +kernel
theorem d3_371 : decode method_3_code 371 = .ok (.dup, 1) := by decide +kernel
theorem d3_372 : decode method_3_code 372 = .ok (.bipush 9, 2) := by decide +kernel
theorem d3_374 : decode method_3_code 374 = .ok (.aload 4, 2) := by decide +kernel
theorem d3_376 : decode method_3_code 376 = .ok (.bipush 9, 2) := by decide +kernel
theorem d3_378 : decode method_3_code 378 = .ok (.caload, 1) := by decide +kernel
theorem d3_379 : decode method_3_code 379 = .ok (.castore, 1) := by decide +kernel
theorem d3_380 : decode method_3_code 380 = .ok (.dup, 1) := by decide +kernel
theorem d3_381 : decode method_3_code 381 = .ok (.bipush 10, 2) := by decide +kernel
theorem d3_383 : decode method_3_code 383 = .ok (.aload 4, 2) := by decide +kernel
theorem d3_385 : decode method_3_code 385 = .ok (.bipush 10, 2) := by decide +kernel
theorem d3_387 : decode method_3_code 387 = .ok (.caload, 1) := by decide +kernel
theorem d3_388 : decode method_3_code 388 = .ok (.castore, 1) := by decide +kernel
theorem d3_389 : decode method_3_code 389 = .ok (.dup, 1) := by decide +kernel
theorem d3_390 : decode method_3_code 390 = .ok (.bipush 11, 2) := by decide +kernel
theorem d3_392 : decode method_3_code 392 = .ok (.aload 4, 2) := by decide +kernel
theorem d3_394 : decode method_3_code 394 = .ok (.bipush 11, 2) := by decide +kernel
theorem d3_396 : decode method_3_code 396 = .ok (.caload, 1) := by decide +kernel
theorem d3_397 : decode method_3_code 397 = .ok (.castore, 1) := by decide +kernel
theorem d3_398 : decode method_3_code 398 = .ok (.dup, 1) := by decide +kernel
theorem d3_399 : decode method_3_code 399 = .ok (.bipush 12, 2) := by decide +kernel
theorem d3_401 : decode method_3_code 401 = .ok (.aload 4, 2) := by decide +kernel
theorem d3_403 : decode method_3_code 403 = .ok (.bipush 12, 2) := by decide +kernel
theorem d3_405 : decode method_3_code 405 = .ok (.caload, 1) := by decide +kernel
theorem d3_406 : decode method_3_code 406 = .ok (.castore, 1) := by decide +kernel
theorem d3_407 : decode method_3_code 407 = .ok (.invokespecial 23, 3) := by decide +kernel
theorem d3_410 : decode method_3_code 410 = .ok (.areturn, 1) := by decide +kernel
theorem d3_411 : decode method_3_code 411 = .ok (.iload_n 3, 1) := by decide +kernel
theorem d3_412 : decode method_3_code 412 = .ok (.bipush 14, 2) := by decide +kernel
theorem d3_414 : decode method_3_code 414 = .ok (.if_icmp .ne 129, 3) := by decide +kernel
theorem d3_417 : decode method_3_code 417 = .ok (.new 8, 3) := by decide +kernel
theorem d3_420 : decode method_3_code 420 = .ok (.dup, 1) := by decide +kernel
theorem d3_421 : decode method_3_code 421 = .ok (.bipush 14, 2) := by decide +kernel
theorem d3_423 : decode method_3_code 423 = .ok (.newarray .char, 2) := by decide +kernel
theorem d3_425 : decode method_3_code 425 = .ok (.dup, 1) := by decide +kernel
theorem d3_426 : decode method_3_code 426 = .ok (.iconst 0, 1) := by decide +kernel
theorem d3_427 : decode method_3_code 427 = .ok (.aload 4, 2) := by decide +kernel
theorem d3_429 : decode method_3_code 429 = .ok (.iconst 0, 1) := by decide +kernel
theorem d3_430 : decode method_3_code 430 = .ok (.caload, 1) := by decide +kernel
theorem d3_431 : decode method_3_code 431 = .ok (.castore, 1) := by decide +kernel
theorem d3_432 : decode method_3_code 432 = .ok (.dup, 1) := by decide +kernel
theorem d3_433 : decode method_3_code 433 = .ok (.iconst 1, 1) := by decide +kernel
theorem d3_434 : decode method_3_code 434 = .ok (.aload 4, 2) := by decide +kernel
theorem d3_436 : decode method_3_code 436 = .ok (.iconst 1, 1) := by decide +kernel
theorem d3_437 : decode method_3_code 437 = .ok (.caload, 1) := by decide +kernel
theorem d3_438 : decode method_3_code 438 = .ok (.castore, 1) := by decide +kernel
theorem d3_439 : decode method_3_code 439 = .ok (.dup, 1) := by decide +kernel
theorem d3_440 : decode method_3_code 440 = .ok (.iconst 2, 1) := by decide +kernel
theorem d3_441 : decode method_3_code 441 = .ok (.aload 4, 2) := by decide +kernel
theorem d3_443 : decode method_3_code 443 = .ok (.iconst 2, 1) := by decide +kernel
theorem d3_444 : decode method_3_code 444 = .ok (.caload, 1) := by decide +kernel
theorem d3_445 : decode method_3_code 445 = .ok (.castore, 1) := by decide +kernel
theorem d3_446 : decode method_3_code 446 = .ok (.dup, 1) := by decide +kernel
theorem d3_447 : decode method_3_code 447 = .ok (.iconst 3, 1) := by decide +kernel
theorem d3_448 : decode method_3_code 448 = .ok (.aload 4, 2) := by decide +kernel
theorem d3_450 : decode method_3_code 450 = .ok (.iconst 3, 1) := by decide +kernel
theorem d3_451 : decode method_3_code 451 = .ok (.caload, 1) := by decide +kernel
theorem d3_452 : decode method_3_code 452 = .ok (.castore, 1) := by decide +kernel
theorem d3_453 : decode method_3_code 453 = .ok (.dup, 1) := by decide +kernel
theorem d3_454 : decode method_3_code 454 = .ok (.iconst 4, 1) := by decide +kernel
theorem d3_455 : decode method_3_code 455 = .ok (.aload 4, 2) := by decide +kernel
theorem d3_457 : decode method_3_code 457 = .ok (.iconst 4, 1) := by decide +kernel
theorem d3_458 : decode method_3_code 458 = .ok (.caload, 1) := by decide +kernel
theorem d3_459 : decode method_3_code 459 = .ok (.castore, 1) := by decide +kernel
theorem d3_460 : decode method_3_code 460 = .ok (.dup, 1) := by decide +kernel
theorem d3_461 : decode method_3_code 461 = .ok (.iconst 5, 1) := by decide +kernel
theorem d3_462 : decode method_3_code 462 = .ok (.aload 4, 2) := by decide +kernel
theorem d3_464 : decode method_3_code 464 = .ok (.iconst 5, 1) := by decide +kernel
theorem d3_465 : decode method_3_code 465 = .ok (.caload, 1) := by decide +kernel
theorem d3_466 : decode method_3_code 466 = .ok (.castore, 1) := by decide +kernel
theorem d3_467 : decode method_3_code 467 = .ok (.dup, 1) := by decide +kernel
theorem d3_468 : decode method_3_code 468 = .ok (.bipush 6, 2) := by decide +kernel
theorem d3_470 : decode method_3_code 470 = .ok (.aload 4, 2) := by decide +kernel
theorem d3_472 : decode method_3_code 472 = .ok (.bipush 6, 2) := by decide +kernel
theorem d3_474 : decode method_3_code 474 = .ok (.caload, 1) := by decide +kernel
theorem d3_475 : decode method_3_code 475 = .ok (.castore, 1) := by decide +kernel
theorem d3_476 : decode method_3_code 476 = .ok (.dup, 1) := by decide +kernel
theorem d3_477 : decode method_3_code 477 = .ok (.bipush 7, 2) := by decide +kernel
theorem d3_479 : decode method_3_code 479 = .ok (.aload 4, 2) := by decide +kernel
theorem d3_481 : decode method_3_code 481 = .ok (.bipush 7, 2) := by decide +kernel
theorem d3_483 : decode method_3_code 483 = .ok (.caload, 1) := by decide +kernel
theorem d3_484 : decode method_3_code 484 = .ok (.castore, 1) := by decide +kernel
theorem d3_485 : decode method_3_code 485 = .ok (.dup, 1) := by decide +kernel
theorem d3_486 : decode method_3_code 486 = .ok (.bipush 8, 2) := by decide +kernel
theorem d3_488 : decode method_3_code 488 = .ok (.aload 4, 2) := by decide +kernel
theorem d3_490 : decode method_3_code 490 = .ok (.bipush 8, 2) := by decide +kernel
theorem d3_492 : decode method_3_code 492 = .ok (.caload, 1) := by decide +kernel
theorem d3_493 : decode method_3_code 493 = .ok (.castore, 1) := by decide +kernel
theorem d3_494 : decode method_3_code 494 = .ok (.dup, 1) := by decide +kernel
theorem d3_495 : decode method_3_code 495 = .ok (.bipush 9, 2) := by decide +kernel
theorem d3_497 : decode method_3_code 497 = .ok (.aload 4, 2) := by decide +kernel
theorem d3_499 : decode method_3_code 499 = .ok (.bipush 9, 2) := by decide +kernel
theorem d3_501 : decode method_3_code 501 = .ok (.caload, 1) := by decide +kernel
theorem d3_502 : decode method_3_code 502 = .ok (.castore, 1) := by decide +kernel
theorem d3_503 : decode method_3_code 503 = .ok (.dup, 1) := by decide +kernel
theorem d3_504 : decode method_3_code 504 = .ok (.bipush 10, 2) := by decide +kernel
theorem d3_506 : decode method_3_code 506 = .ok (.aload 4, 2) := by decide +kernel
theorem d3_508 : decode method_3_code 508 = .ok (.bipush 10, 2) := by decide +kernel
theorem d3_510 : decode method_3_code 510 = .ok (.caload, 1) := by decide +kernel
theorem d3_511 : decode method_3_code 511 = .ok (.castore, 1) := by decide +kernel
theorem d3_512 : decode method_3_code 512 = .ok (.dup, 1) := by decide +kernel
theorem d3_513 : decode method_3_code 513 = .ok (.bipush 11, 2) := by decide +kernel
theorem d3_515 : decode method_3_code 515 = .ok (.aload 4, 2) := by decide +kernel
theorem d3_517 : decode method_3_code 517 = .ok (.bipush 11, 2) := by decide +kernel
theorem d3_519 : decode method_3_code 519 = .ok (.caload, 1) := by decide +kernel
theorem d3_520 : decode method_3_code 520 = .ok (.castore, 1) := by decide +kernel
theorem d3_521 : decode method_3_code 521 = .ok (.dup, 1) := by decide +kernel
theorem d3_522 : decode method_3_code 522 = .ok (.bipush 12, 2) := by decide +kernel
theorem d3_524 : decode method_3_code 524 = .ok (.aload 4, 2) := by decide +kernel
theorem d3_526 : decode method_3_code 526 = .ok (.bipush 12, 2) := by decide +kernel
theorem d3_528 : decode method_3_code 528 = .ok (.caload, 1) := by decide +kernel
theorem d3_529 : decode method_3_code 529 = .ok (.castore, 1) := by decide +kernel
theorem d3_530 : decode method_3_code 530 = .ok (.dup, 1) := by decide +kernel
theorem d3_531 : decode method_3_code 531 = .ok (.bipush 13, 2) := by decide +kernel
theorem d3_533 : decode method_3_code 533 = .ok (.aload 4, 2) := by decide +kernel
theorem d3_535 : decode method_3_code 535 = .ok (.bipush 13, 2) := by decide +kernel
theorem d3_537 : decode method_3_code 537 = .ok (.caload, 1) := by decide +kernel
theorem d3_538 : decode method_3_code 538 = .ok (.castore, 1) := by decide +kernel
theorem d3_539 : decode method_3_code 539 = .ok (.invokespecial 23, 3) := by decide +kernel
theorem d3_542 : decode method_3_code 542 = .ok (.areturn, 1) := by decide +kernel
theorem d3_543 : decode method_3_code 543 = .ok (.new 8, 3) := by decide +kernel
theorem d3_546 : decode method_3_code 546 = .ok (.dup, 1) := by decide +kernel
theorem d3_547 : decode method_3_code 547 = .ok (.bipush 15, 2) := by decide +kernel
theorem d3_549 : decode method_3_code 549 = .ok (.newarray .char, 2) := by decide +kernel
theorem d3_551 : decode method_3_code 551 = .ok (.dup, 1) := by decide +kernel
theorem d3_552 : decode method_3_code 552 = .ok (.iconst 0, 1) := by decide +kernel
theorem d3_553 : decode method_3_code 553 = .ok (.aload 4, 2) := by decide +kernel
theorem d3_555 : decode method_3_code 555 = .ok (.iconst 0, 1) := by decide +kernel
theorem d3_556 : decode method_3_code 556 = .ok (.caload, 1) := by decide +kernel
theorem d3_557 : decode method_3_code 557 = .ok (.castore, 1) := by decide +kernel
theorem d3_558 : decode method_3_code 558 = .ok (.dup, 1) := by decide +kernel
theorem d3_559 : decode method_3_code 559 = .ok (.iconst 1, 1) := by decide +kernel
theorem d3_560 : decode method_3_code 560 = .ok (.aload 4, 2) := by decide +kernel
theorem d3_562 : decode method_3_code 562 = .ok (.iconst 1, 1) := by decide +kernel
theorem d3_563 : decode method_3_code 563 = .ok (.caload, 1) := by decide +kernel
theorem d3_564 : decode method_3_code 564 = .ok (.castore, 1) := by decide +kernel
theorem d3_565 : decode method_3_code 565 = .ok (.dup, 1) := by decide +kernel
theorem d3_566 : decode method_3_code 566 = .ok (.iconst 2, 1) := by decide +kernel
theorem d3_567 : decode method_3_code 567 = .ok (.aload 4, 2) := by decide +kernel
theorem d3_569 : decode method_3_code 569 = .ok (.iconst 2, 1) := by decide +kernel
theorem d3_570 : decode method_3_code 570 = .ok (.caload, 1) := by decide +kernel
theorem d3_571 : decode method_3_code 571 = .ok (.castore, 1) := by decide +kernel
theorem d3_572 : decode method_3_code 572 = .ok (.dup, 1) := by decide +kernel
theorem d3_573 : decode method_3_code 573 = .ok (.iconst 3, 1) := by decide +kernel
theorem d3_574 : decode method_3_code 574 = .ok (.aload 4, 2) := by decide +kernel
theorem d3_576 : decode method_3_code 576 = .ok (.iconst 3, 1) := by decide +kernel
theorem d3_577 : decode method_3_code 577 = .ok (.caload, 1) := by decide +kernel
theorem d3_578 : decode method_3_code 578 = .ok (.castore, 1) := by decide +kernel
theorem d3_579 : decode method_3_code 579 = .ok (.dup, 1) := by decide +kernel
theorem d3_580 : decode method_3_code 580 = .ok (.iconst 4, 1) := by decide +kernel
theorem d3_581 : decode method_3_code 581 = .ok (.aload 4, 2) := by decide +kernel
theorem d3_583 : decode method_3_code 583 = .ok (.iconst 4, 1) := by decide +kernel
theorem d3_584 : decode method_3_code 584 = .ok (.caload, 1) := by decide +kernel
theorem d3_585 : decode method_3_code 585 = .ok (.castore, 1) := by decide +kernel
theorem d3_586 : decode method_3_code 586 = .ok (.dup, 1) := by decide +kernel
theorem d3_587 : decode method_3_code 587 = .ok (.iconst 5, 1) := by decide +kernel
theorem d3_588 : decode method_3_code 588 = .ok (.aload 4, 2) := by decide +kernel
theorem d3_590 : decode method_3_code 590 = .ok (.iconst 5, 1) := by decide +kernel
theorem d3_591 : decode method_3_code 591 = .ok (.caload, 1) := by decide +kernel
theorem d3_592 : decode method_3_code 592 = .ok (.castore, 1) := by decide +kernel
theorem d3_593 : decode method_3_code 593 = .ok (.dup, 1) := by decide +kernel
theorem d3_594 : decode method_3_code 594 = .ok (.bipush 6, 2) := by decide +kernel
theorem d3_596 : decode method_3_code 596 = .ok (.aload 4, 2) := by decide +kernel
theorem d3_598 : decode method_3_code 598 = .ok (.bipush 6, 2) := by decide +kernel
theorem d3_600 : decode method_3_code 600 = .ok (.caload, 1) := by decide +kernel
theorem d3_601 : decode method_3_code 601 = .ok (.castore, 1) := by decide +kernel
theorem d3_602 : decode method_3_code 602 = .ok (.dup, 1) := by decide +kernel
theorem d3_603 : decode method_3_code 603 = .ok (.bipush 7, 2) := by decide +kernel
theorem d3_605 : decode method_3_code 605 = .ok (.aload 4, 2) := by decide +kernel
theorem d3_607 : decode method_3_code 607 = .ok (.bipush 7, 2) := by decide +kernel
theorem d3_609 : decode method_3_code 609 = .ok (.caload, 1) := by decide +kernel
theorem d3_610 : decode method_3_code 610 = .ok (.castore, 1) := by decide +kernel
theorem d3_611 : decode method_3_code 611 = .ok (.dup, 1) := by decide +kernel
theorem d3_612 : decode method_3_code 612 = .ok (.bipush 8, 2) := by decide +kernel
theorem d3_614 : decode method_3_code 614 = .ok (.aload 4, 2) := by decide +kernel
theorem d3_616 : decode method_3_code 616 = .ok (.bipush 8, 2) := by decide +kernel
theorem d3_618 : decode method_3_code 618 = .ok (.caload, 1) := by decide +kernel
theorem d3_619 : decode method_3_code 619 = .ok (.castore, 1) := by decide +kernel
theorem d3_620 : decode method_3_code 620 = .ok (.dup, 1) := by decide +kernel
theorem d3_621 : decode method_3_code 621 = .ok (.bipush 9, 2) := by decide +kernel
theorem d3_623 : decode method_3_code 623 = .ok (.aload 4, 2) := by decide +kernel
theorem d3_625 : decode method_3_code 625 = .ok (.bipush 9, 2) := by decide +kernel
theorem d3_627 : decode method_3_code 627 = .ok (.caload, 1) := by decide +kernel
theorem d3_628 : decode method_3_code 628 = .ok (.castore, 1) := by decide +kernel
theorem d3_629 : decode method_3_code 629 = .ok (.dup, 1) := by decide +kernel
theorem d3_630 : decode method_3_code 630 = .ok (.bipush 10, 2) := by decide +kernel
theorem d3_632 : decode method_3_code 632 = .ok (.aload 4, 2) := by decide +kernel
theorem d3_634 : decode method_3_code 634 = .ok (.bipush 10, 2) := by decide +kernel
theorem d3_636 : decode method_3_code 636 = .ok (.caload, 1) := by decide +kernel
theorem d3_637 : decode method_3_code 637 = .ok (.castore, 1) := by decide +kernel
theorem d3_638 : decode method_3_code 638 = .ok (.dup, 1) := by decide +kernel
theorem d3_639 : decode method_3_code 639 = .ok (.bipush 11, 2) := by decide +kernel
theorem d3_641 : decode method_3_code 641 = .ok (.aload 4, 2) := by decide +kernel
theorem d3_643 : decode method_3_code 643 = .ok (.bipush 11, 2) := by decide +kernel
theorem d3_645 : decode method_3_code 645 = .ok (.caload, 1) := by decide +kernel
theorem d3_646 : decode method_3_code 646 = .ok (.castore, 1) := by decide +kernel
theorem d3_647 : decode method_3_code 647 = .ok (.dup, 1) := by decide +kernel
theorem d3_648 : decode method_3_code 648 = .ok (.bipush 12, 2) := by decide +kernel
theorem d3_650 : decode method_3_code 650 = .ok (.aload 4, 2) := by decide +kernel
theorem d3_652 : decode method_3_code 652 = .ok (.bipush 12, 2) := by decide +kernel
theorem d3_654 : decode method_3_code 654 = .ok (.caload, 1) := by decide +kernel
theorem d3_655 : decode method_3_code 655 = .ok (.castore, 1) := by decide +kernel
theorem d3_656 : decode method_3_code 656 = .ok (.dup, 1) := by decide +kernel
theorem d3_657 : decode method_3_code 657 = .ok (.bipush 13, 2) := by decide +kernel
theorem d3_659 : decode method_3_code 659 = .ok (.aload 4, 2) := by decide +kernel
theorem d3_661 : decode method_3_code 661 = .ok (.bipush 13, 2) := by decide +kernel
theorem d3_663 : decode method_3_code 663 = .ok (.caload, 1) := by decide +kernel
theorem d3_664 : decode method_3_code 664 = .ok (.castore, 1) := by decide +kernel
theorem d3_665 : decode method_3_code 665 = .ok (.dup, 1) := by decide +kernel
theorem d3_666 : decode method_3_code 666 = .ok (.bipush 14, 2) := by decide +kernel
theorem d3_668 : decode method_3_code 668 = .ok (.aload 4, 2) := by decide +kernel
theorem d3_670 : decode method_3_code 670 = .ok (.bipush 14, 2) := by decide +kernel
theorem d3_672 : decode method_3_code 672 = .ok (.caload, 1) := by decide +kernel
theorem d3_673 : decode method_3_code 673 = .ok (.castore, 1) := by decide +kernel
theorem d3_674 : decode method_3_code 674 = .ok (.invokespecial 23, 3) := by decide +kernel
theorem d3_677 : decode method_3_code 677 = .ok (.areturn, 1) := by decide +kernel
theorem d4_0 : decode method_2_code 0 = .ok (.iload_n 1, 1) := by decide +kernel
theorem d4_1 : decode method_2_code 1 = .ok (.iload_n 2, 1) := by decide +kernel
theorem d4_2 : decode method_2_code 2 = .ok (.if_icmp .ne 5, 3) := by decide +kernel
theorem d4_5 : decode method_2_code 5 = .ok (.iload_n 3, 1) := by decide +kernel
theorem d4_6 : decode method_2_code 6 = .ok (.ireturn, 1) := by decide +kernel
theorem d4_7 : decode method_2_code 7 = .ok (.iload_n 1, 1) := by decide +kernel
theorem d4_8 : decode method_2_code 8 = .ok (.aload_n 0, 1) := by decide +kernel
theorem d4_9 : decode method_2_code 9 = .ok (.invokevirtual 7, 3) := by decide +kernel
theorem d4_12 : decode method_2_code 12 = .ok (.if_icmp .ge 9, 3) := by decide +kernel
theorem d4_15 : decode method_2_code 15 = .ok (.aload_n 0, 1) := by decide +kernel
theorem d4_16 : decode method_2_code 16 = .ok (.iload_n 1, 1) := by decide +kernel
theorem d4_17 : decode method_2_code 17 = .ok (.invokevirtual 13, 3) := by decide +kernel
theorem d4_20 : decode method_2_code 20 = .ok (.ireturn, 1) := by decide +kernel
theorem d4_21 : decode method_2_code 21 = .ok (.iload_n 3, 1) := by decide +kernel
theorem d4_22 : decode method_2_code 22 = .ok (.ireturn, 1) := by decide +kernel
theorem d5_0 : decode jdk_42_method_56_code 0 = .ok (.aload_n 0, 1) := by decide +kernel
theorem d5_1 : decode jdk_42_method_56_code 1 = .ok (.invokevirtual 492, 3) := by decide +kernel
theorem d5_4 : decode jdk_42_method_56_code 4 = .ok (.ifCond .eq 12, 3) := by decide +kernel
theorem d5_7 : decode jdk_42_method_56_code 7 = .ok (.aload_n 0, 1) := by decide +kernel
theorem d5_8 : decode jdk_42_method_56_code 8 = .ok (.getfield 9, 3) := by decide +kernel
theorem d5_11 : decode jdk_42_method_56_code 11 = .ok (.iload_n 1, 1) := by decide +kernel
theorem d5_12 : decode jdk_42_method_56_code 12 = .ok (.invokestatic 495, 3) := by decide +kernel
theorem d5_15 : decode jdk_42_method_56_code 15 = .ok (.ireturn, 1) := by decide +kernel
theorem d6_0 : decode jdk_42_method_154_code 0 = .ok (.getstatic 38, 3) := by decide +kernel
theorem d6_3 : decode jdk_42_method_154_code 3 = .ok (.ifCond .eq 14, 3) := by decide +kernel
theorem d6_6 : decode jdk_42_method_154_code 6 = .ok (.aload_n 0, 1) := by decide +kernel
theorem d6_7 : decode jdk_42_method_154_code 7 = .ok (.getfield 15, 3) := by decide +kernel
theorem d6_10 : decode jdk_42_method_154_code 10 = .ok (.ifCond .ne 7, 3) := by decide +kernel
theorem d6_13 : decode jdk_42_method_154_code 13 = .ok (.iconst 1, 1) := by decide +kernel
theorem d6_14 : decode jdk_42_method_154_code 14 = .ok (.goto 4, 3) := by decide +kernel
theorem d6_18 : decode jdk_42_method_154_code 18 = .ok (.ireturn, 1) := by decide +kernel
theorem d7_0 : decode jdk_43_method_2_code 0 = .ok (.iload_n 1, 1) := by decide +kernel
theorem d7_1 : decode jdk_43_method_2_code 1 = .ok (.aload_n 0, 1) := by decide +kernel
theorem d7_2 : decode jdk_43_method_2_code 2 = .ok (.arraylength, 1) := by decide +kernel
theorem d7_3 : decode jdk_43_method_2_code 3 = .ok (.invokestatic 9, 3) := by decide +kernel
theorem d7_6 : decode jdk_43_method_2_code 6 = .ok (.aload_n 0, 1) := by decide +kernel
theorem d7_7 : decode jdk_43_method_2_code 7 = .ok (.iload_n 1, 1) := by decide +kernel
theorem d7_8 : decode jdk_43_method_2_code 8 = .ok (.baload, 1) := by decide +kernel
theorem d7_9 : decode jdk_43_method_2_code 9 = .ok (.sipush 255, 3) := by decide +kernel
theorem d7_12 : decode jdk_43_method_2_code 12 = .ok (.iand, 1) := by decide +kernel
theorem d7_13 : decode jdk_43_method_2_code 13 = .ok (.i2c, 1) := by decide +kernel
theorem d7_14 : decode jdk_43_method_2_code 14 = .ok (.ireturn, 1) := by decide +kernel
theorem d8_0 : decode jdk_42_method_155_code 0 = .ok (.iload_n 0, 1) := by decide +kernel
theorem d8_1 : decode jdk_42_method_155_code 1 = .ok (.iload_n 1, 1) := by decide +kernel
theorem d8_2 : decode jdk_42_method_155_code 2 = .ok (.getstatic 1053, 3) := by decide +kernel
theorem d8_5 : decode jdk_42_method_155_code 5 = .ok (.invokestatic 1059, 3) := by decide +kernel
theorem d8_8 : decode jdk_42_method_155_code 8 = .ok (.pop, 1) := by decide +kernel
theorem d8_9 : decode jdk_42_method_155_code 9 = .ok (.return_, 1) := by decide +kernel
theorem d9_0 : decode jdk_41_method_11_code 0 = .ok (.iload_n 0, 1) := by decide +kernel
theorem d9_1 : decode jdk_41_method_11_code 1 = .ok (.ifCond .lt 8, 3) := by decide +kernel
theorem d9_4 : decode jdk_41_method_11_code 4 = .ok (.iload_n 0, 1) := by decide +kernel
theorem d9_5 : decode jdk_41_method_11_code 5 = .ok (.iload_n 1, 1) := by decide +kernel
theorem d9_6 : decode jdk_41_method_11_code 6 = .ok (.if_icmp .lt 10, 3) := by decide +kernel
theorem d9_16 : decode jdk_41_method_11_code 16 = .ok (.iload_n 0, 1) := by decide +kernel
theorem d9_17 : decode jdk_41_method_11_code 17 = .ok (.ireturn, 1) := by decide +kernel
theorem d10_0 : decode jdk_42_method_3_code 0 = .ok (.aload_n 0, 1) := by decide +kernel
theorem d10_1 : decode jdk_42_method_3_code 1 = .ok (.aload_n 1, 1) := by decide +kernel
theorem d10_2 : decode jdk_42_method_3_code 2 = .ok (.iconst 0, 1) := by decide +kernel
theorem d10_3 : decode jdk_42_method_3_code 3 = .ok (.aload_n 1, 1) := by decide +kernel
theorem d10_4 : decode jdk_42_method_3_code 4 = .ok (.arraylength, 1) := by decide +kernel
theorem d10_5 : decode jdk_42_method_3_code 5 = .ok (.aconst_null, 1) := by decide +kernel
theorem d10_6 : decode jdk_42_method_3_code 6 = .ok (.invokespecial 27, 3) := by decide +kernel
theorem d10_9 : decode jdk_42_method_3_code 9 = .ok (.return_, 1) := by decide +kernel
theorem d11_0 : decode jdk_42_method_149_code 0 = .ok (.aload_n 0, 1) := by decide +kernel
theorem d11_1 : decode jdk_42_method_149_code 1 = .ok (.invokespecial 1, 3) := by decide +kernel
theorem d11_4 : decode jdk_42_method_149_code 4 = .ok (.iload_n 3, 1) := by decide +kernel
theorem d11_5 : decode jdk_42_method_149_code 5 = .ok (.ifCond .ne 22, 3) := by decide +kernel
theorem d11_27 : decode jdk_42_method_149_code 27 = .ok (.getstatic 38, 3) := by decide +kernel
theorem d11_30 : decode jdk_42_method_149_code 30 = .ok (.ifCond .eq 28, 3) := by decide +kernel
theorem d11_33 : decode jdk_42_method_149_code 33 = .ok (.aload_n 1, 1) := by decide +kernel
theorem d11_34 : decode jdk_42_method_149_code 34 = .ok (.iload_n 2, 1) := by decide +kernel
theorem d11_35 : decode jdk_42_method_149_code 35 = .ok (.iload_n 3, 1) := by decide +kernel
theorem d11_36 : decode jdk_42_method_149_code 36 = .ok (.invokestatic 177, 3) := by decide +kernel
theorem d11_39 : decode jdk_42_method_149_code 39 = .ok (.astore 5, 2) := by decide +kernel
theorem d11_41 : decode jdk_42_method_149_code 41 = .ok (.aload_n 0, 1) := by decide +kernel
theorem d11_42 : decode jdk_42_method_149_code 42 = .ok (.aload 5, 2) := by decide +kernel
theorem d11_44 : decode jdk_42_method_149_code 44 = .ok (.iload_n 3, 1) := by decide +kernel
theorem d11_45 : decode jdk_42_method_149_code 45 = .ok (.invokestatic 47, 3) := by decide +kernel
theorem d11_48 : decode jdk_42_method_149_code 48 = .ok (.putfield 15, 3) := by decide +kernel
theorem d11_51 : decode jdk_42_method_149_code 51 = .ok (.aload_n 0, 1) := by decide +kernel
theorem d11_52 : decode jdk_42_method_149_code 52 = .ok (.aload 5, 2) := by decide +kernel
theorem d11_54 : decode jdk_42_method_149_code 54 = .ok (.putfield 9, 3) := by decide +kernel
theorem d11_57 : decode jdk_42_method_149_code 57 = .ok (.return_, 1) := by decide +kernel
theorem d13_0 : decode jdk_52_method_16_code 0 = .ok (.iload_n 2, 1) := by decide +kernel
theorem d13_1 : decode jdk_52_method_16_code 1 = .ok (.newarray .byte, 2) := by decide +kernel
theorem d13_3 : decode jdk_52_method_16_code 3 = .ok (.astore_n 3, 1) := by decide +kernel
theorem d13_4 : decode jdk_52_method_16_code 4 = .ok (.aload_n 0, 1) := by decide +kernel
theorem d13_5 : decode jdk_52_method_16_code 5 = .ok (.iload_n 1, 1) := by decide +kernel
theorem d13_6 : decode jdk_52_method_16_code 6 = .ok (.aload_n 3, 1) := by decide +kernel
theorem d13_7 : decode jdk_52_method_16_code 7 = .ok (.iconst 0, 1) := by decide +kernel
theorem d13_8 : decode jdk_52_method_16_code 8 = .ok (.iload_n 2, 1) := by decide +kernel
theorem d13_9 : decode jdk_52_method_16_code 9 = .ok (.invokestatic 115, 3) := by decide +kernel
theorem d13_12 : decode jdk_52_method_16_code 12 = .ok (.istore 4, 2) := by decide +kernel
theorem d13_14 : decode jdk_52_method_16_code 14 = .ok (.iload 4, 2) := by decide +kernel
theorem d13_16 : decode jdk_52_method_16_code 16 = .ok (.iload_n 2, 1) := by decide +kernel
theorem d13_17 : decode jdk_52_method_16_code 17 = .ok (.if_icmp .eq 40, 3) := by decide +kernel
theorem d13_57 : decode jdk_52_method_16_code 57 = .ok (.aload_n 3, 1) := by decide +kernel
theorem d13_58 : decode jdk_52_method_16_code 58 = .ok (.areturn, 1) := by decide +kernel
theorem d14_0 : decode jdk_52_method_21_code 0 = .ok (.iconst 0, 1) := by decide +kernel
theorem d14_1 : decode jdk_52_method_21_code 1 = .ok (.istore 5, 2) := by decide +kernel
theorem d14_3 : decode jdk_52_method_21_code 3 = .ok (.iload 5, 2) := by decide +kernel
theorem d14_5 : decode jdk_52_method_21_code 5 = .ok (.iload 4, 2) := by decide +kernel
theorem d14_7 : decode jdk_52_method_21_code 7 = .ok (.if_icmp .ge 37, 3) := by decide +kernel
theorem d14_10 : decode jdk_52_method_21_code 10 = .ok (.aload_n 0, 1) := by decide +kernel
theorem d14_11 : decode jdk_52_method_21_code 11 = .ok (.iload_n 1, 1) := by decide +kernel
theorem d14_12 : decode jdk_52_method_21_code 12 = .ok (.caload, 1) := by decide +kernel
theorem d14_13 : decode jdk_52_method_21_code 13 = .ok (.istore 6, 2) := by decide +kernel
theorem d14_15 : decode jdk_52_method_21_code 15 = .ok (.iload 6, 2) := by decide +kernel
theorem d14_17 : decode jdk_52_method_21_code 17 = .ok (.sipush 255, 3) := by decide +kernel
theorem d14_20 : decode jdk_52_method_21_code 20 = .ok (.if_icmp .le 6, 3) := by decide +kernel
theorem d14_26 : decode jdk_52_method_21_code 26 = .ok (.aload_n 2, 1) := by decide +kernel
theorem d14_27 : decode jdk_52_method_21_code 27 = .ok (.iload_n 3, 1) := by decide +kernel
theorem d14_28 : decode jdk_52_method_21_code 28 = .ok (.iload 6, 2) := by decide +kernel
theorem d14_30 : decode jdk_52_method_21_code 30 = .ok (.i2b, 1) := by decide +kernel
theorem d14_31 : decode jdk_52_method_21_code 31 = .ok (.bastore, 1) := by decide +kernel
theorem d14_32 : decode jdk_52_method_21_code 32 = .ok (.iinc 1 1, 3) := by decide +kernel
theorem d14_35 : decode jdk_52_method_21_code 35 = .ok (.iinc 3 1, 3) := by decide +kernel
theorem d14_38 : decode jdk_52_method_21_code 38 = .ok (.iinc 5 1, 3) := by decide +kernel
theorem d14_41 : decode jdk_52_method_21_code 41 = .ok (.goto (-38), 3) := by decide +kernel
theorem d14_44 : decode jdk_52_method_21_code 44 = .ok (.iload 4, 2) := by decide +kernel
theorem d14_46 : decode jdk_52_method_21_code 46 = .ok (.ireturn, 1) := by decide +kernel
theorem d15_0 : decode jdk_52_method_15_code 0 = .ok (.iload_n 1, 1) := by decide +kernel
theorem d15_1 : decode jdk_52_method_15_code 1 = .ok (.aload_n 0, 1) := by decide +kernel
theorem d15_2 : decode jdk_52_method_15_code 2 = .ok (.arraylength, 1) := by decide +kernel
theorem d15_3 : decode jdk_52_method_15_code 3 = .ok (.isub, 1) := by decide +kernel
theorem d15_4 : decode jdk_52_method_15_code 4 = .ok (.bipush 31, 2) := by decide +kernel
theorem d15_6 : decode jdk_52_method_15_code 6 = .ok (.iushr, 1) := by decide +kernel
theorem d15_7 : decode jdk_52_method_15_code 7 = .ok (.i2b, 1) := by decide +kernel
theorem d15_8 : decode jdk_52_method_15_code 8 = .ok (.ireturn, 1) := by decide +kernel
theorem d16_0 : decode prog_3_method_5_code 0 = .ok (.invokestatic 36, 3) := by decide +kernel
theorem d16_3 : decode prog_3_method_5_code 3 = .ok (.astore_n 1, 1) := by decide +kernel
theorem d16_4 : decode prog_3_method_5_code 4 = .ok (.aload_n 1, 1) := by decide +kernel
theorem d16_5 : decode prog_3_method_5_code 5 = .ok (.arraylength, 1) := by decide +kernel
theorem d16_6 : decode prog_3_method_5_code 6 = .ok (.istore_n 2, 1) := by decide +kernel
theorem d16_7 : decode prog_3_method_5_code 7 = .ok (.iconst 0, 1) := by decide +kernel
theorem d16_8 : decode prog_3_method_5_code 8 = .ok (.istore_n 3, 1) := by decide +kernel
theorem d16_9 : decode prog_3_method_5_code 9 = .ok (.iload_n 3, 1) := by decide +kernel
theorem d16_10 : decode prog_3_method_5_code 10 = .ok (.iload_n 2, 1) := by decide +kernel
theorem d16_11 : decode prog_3_method_5_code 11 = .ok (.if_icmp .ge 29, 3) := by decide +kernel
theorem d16_14 : decode prog_3_method_5_code 14 = .ok (.aload_n 1, 1) := by decide +kernel
theorem d16_15 : decode prog_3_method_5_code 15 = .ok (.iload_n 3, 1) := by decide +kernel
theorem d16_16 : decode prog_3_method_5_code 16 = .ok (.aaload, 1) := by decide +kernel
theorem d16_17 : decode prog_3_method_5_code 17 = .ok (.astore 4, 2) := by decide +kernel
theorem d16_19 : decode prog_3_method_5_code 19 = .ok (.aload 4, 2) := by decide +kernel
theorem d16_21 : decode prog_3_method_5_code 21 = .ok (.getfield 32, 3) := by decide +kernel
theorem d16_24 : decode prog_3_method_5_code 24 = .ok (.aload_n 0, 1) := by decide +kernel
theorem d16_25 : decode prog_3_method_5_code 25 = .ok (.invokevirtual 40, 3) := by decide +kernel
theorem d16_28 : decode prog_3_method_5_code 28 = .ok (.ifCond .eq 6, 3) := by decide +kernel
theorem d16_31 : decode prog_3_method_5_code 31 = .ok (.aload 4, 2) := by decide +kernel
theorem d16_33 : decode prog_3_method_5_code 33 = .ok (.areturn, 1) := by decide +kernel
theorem d16_34 : decode prog_3_method_5_code 34 = .ok (.iinc 3 1, 3) := by decide +kernel
theorem d16_37 : decode prog_3_method_5_code 37 = .ok (.goto (-28), 3) := by decide +kernel
theorem d16_40 : decode prog_3_method_5_code 40 = .ok (.aconst_null, 1) := by decide +kernel
theorem d16_41 : decode prog_3_method_5_code 41 = .ok (.areturn, 1) := by decide +kernel
theorem d17_0 : decode prog_3_method_1_code 0 = .ok (.getstatic 13, 3) := by decide +kernel
theorem d17_3 : decode prog_3_method_1_code 3 = .ok (.invokevirtual 17, 3) := by decide +kernel
theorem d17_6 : decode prog_3_method_1_code 6 = .ok (.checkcast 18, 3) := by decide +kernel
theorem d17_9 : decode prog_3_method_1_code 9 = .ok (.areturn, 1) := by decide +kernel
theorem d18_0 : decode jdk_42_method_66_code 0 = .ok (.aload_n 0, 1) := by decide +kernel
theorem d18_1 : decode jdk_42_method_66_code 1 = .ok (.aload_n 1, 1) := by decide +kernel
theorem d18_2 : decode jdk_42_method_66_code 2 = .ok (.if_acmp .ne 5, 3) := by decide +kernel
theorem d18_7 : decode jdk_42_method_66_code 7 = .ok (.aload_n 1, 1) := by decide +kernel
theorem d18_8 : decode jdk_42_method_66_code 8 = .ok (.instanceof 10, 3) := by decide +kernel
theorem d18_11 : decode jdk_42_method_66_code 11 = .ok (.ifCond .eq 43, 3) := by decide +kernel
theorem d18_14 : decode jdk_42_method_66_code 14 = .ok (.aload_n 1, 1) := by decide +kernel
theorem d18_15 : decode jdk_42_method_66_code 15 = .ok (.checkcast 10, 3) := by decide +kernel
theorem d18_18 : decode jdk_42_method_66_code 18 = .ok (.astore_n 2, 1) := by decide +kernel
theorem d18_19 : decode jdk_42_method_66_code 19 = .ok (.getstatic 38, 3) := by decide +kernel
theorem d18_22 : decode jdk_42_method_66_code 22 = .ok (.ifCond .eq 14, 3) := by decide +kernel
theorem d18_25 : decode jdk_42_method_66_code 25 = .ok (.aload_n 0, 1) := by decide +kernel
theorem d18_26 : decode jdk_42_method_66_code 26 = .ok (.getfield 15, 3) := by decide +kernel
theorem d18_29 : decode jdk_42_method_66_code 29 = .ok (.aload_n 2, 1) := by decide +kernel
theorem d18_30 : decode jdk_42_method_66_code 30 = .ok (.getfield 15, 3) := by decide +kernel
theorem d18_33 : decode jdk_42_method_66_code 33 = .ok (.if_icmp .ne 21, 3) := by decide +kernel
theorem d18_36 : decode jdk_42_method_66_code 36 = .ok (.aload_n 0, 1) := by decide +kernel
theorem d18_37 : decode jdk_42_method_66_code 37 = .ok (.getfield 9, 3) := by decide +kernel
theorem d18_40 : decode jdk_42_method_66_code 40 = .ok (.aload_n 2, 1) := by decide +kernel
theorem d18_41 : decode jdk_42_method_66_code 41 = .ok (.getfield 9, 3) := by decide +kernel
theorem d18_44 : decode jdk_42_method_66_code 44 = .ok (.invokestatic 541, 3) := by decide +kernel
theorem d18_47 : decode jdk_42_method_66_code 47 = .ok (.ifCond .eq 7, 3) := by decide +kernel
theorem d18_50 : decode jdk_42_method_66_code 50 = .ok (.iconst 1, 1) := by decide +kernel
theorem d18_51 : decode jdk_42_method_66_code 51 = .ok (.goto 4, 3) := by decide +kernel
theorem d18_54 : decode jdk_42_method_66_code 54 = .ok (.iconst 0, 1) := by decide +kernel
theorem d18_55 : decode jdk_42_method_66_code 55 = .ok (.ireturn, 1) := by decide +kernel
theorem d19_0 : decode jdk_43_method_13_code 0 = .ok (.aload_n 0, 1) := by decide +kernel
theorem d19_1 : decode jdk_43_method_13_code 1 = .ok (.arraylength, 1) := by decide +kernel
theorem d19_2 : decode jdk_43_method_13_code 2 = .ok (.aload_n 1, 1) := by decide +kernel
theorem d19_3 : decode jdk_43_method_13_code 3 = .ok (.arraylength, 1) := by decide +kernel
theorem d19_4 : decode jdk_43_method_13_code 4 = .ok (.if_icmp .ne 30, 3) := by decide +kernel
theorem d19_7 : decode jdk_43_method_13_code 7 = .ok (.iconst 0, 1) := by decide +kernel
theorem d19_8 : decode jdk_43_method_13_code 8 = .ok (.istore_n 2, 1) := by decide +kernel
theorem d19_9 : decode jdk_43_method_13_code 9 = .ok (.iload_n 2, 1) := by decide +kernel
theorem d19_10 : decode jdk_43_method_13_code 10 = .ok (.aload_n 0, 1) := by decide +kernel
theorem d19_11 : decode jdk_43_method_13_code 11 = .ok (.arraylength, 1) := by decide +kernel
theorem d19_12 : decode jdk_43_method_13_code 12 = .ok (.if_icmp .ge 20, 3) := by decide +kernel
theorem d19_15 : decode jdk_43_method_13_code 15 = .ok (.aload_n 0, 1) := by decide +kernel
theorem d19_16 : decode jdk_43_method_13_code 16 = .ok (.iload_n 2, 1) := by decide +kernel
theorem d19_17 : decode jdk_43_method_13_code 17 = .ok (.baload, 1) := by decide +kernel
theorem d19_18 : decode jdk_43_method_13_code 18 = .ok (.aload_n 1, 1) := by decide +kernel
theorem d19_19 : decode jdk_43_method_13_code 19 = .ok (.iload_n 2, 1) := by decide +kernel
theorem d19_20 : decode jdk_43_method_13_code 20 = .ok (.baload, 1) := by decide +kernel
theorem d19_21 : decode jdk_43_method_13_code 21 = .ok (.if_icmp .eq 5, 3) := by decide +kernel
theorem d19_24 : decode jdk_43_method_13_code 24 = .ok (.iconst 0, 1) := by decide +kernel
theorem d19_25 : decode jdk_43_method_13_code 25 = .ok (.ireturn, 1) := by decide +kernel
theorem d19_26 : decode jdk_43_method_13_code 26 = .ok (.iinc 2 1, 3) := by decide +kernel
theorem d19_29 : decode jdk_43_method_13_code 29 = .ok (.goto (-20), 3) := by decide +kernel
theorem d19_32 : decode jdk_43_method_13_code 32 = .ok (.iconst 1, 1) := by decide +kernel
theorem d19_33 : decode jdk_43_method_13_code 33 = .ok (.ireturn, 1) := by decide +kernel
theorem d19_34 : decode jdk_43_method_13_code 34 = .ok (.iconst 0, 1) := by decide +kernel
theorem d19_35 : decode jdk_43_method_13_code 35 = .ok (.ireturn, 1) := by decide +kernel
theorem d20_0 : decode method_4_code 0 = .ok (.aload_n 0, 1) := by decide +kernel
theorem d20_1 : decode method_4_code 1 = .ok (.ldc 26, 2) := by decide +kernel
theorem d20_3 : decode method_4_code 3 = .ok (.invokevirtual 28, 3) := by decide +kernel
theorem d20_6 : decode method_4_code 6 = .ok (.ifCond .eq 7, 3) := by decide +kernel
theorem d20_9 : decode method_4_code 9 = .ok (.getstatic 32, 3) := by decide +kernel
theorem d20_12 : decode method_4_code 12 = .ok (.areturn, 1) := by decide +kernel
theorem d20_13 : decode method_4_code 13 = .ok (.aload_n 0, 1) := by decide +kernel
theorem d20_14 : decode method_4_code 14 = .ok (.ldc 38, 2) := by decide +kernel
theorem d20_16 : decode method_4_code 16 = .ok (.invokevirtual 28, 3) := by decide +kernel
theorem d20_19 : decode method_4_code 19 = .ok (.ifCond .eq 7, 3) := by decide +kernel
theorem d20_22 : decode method_4_code 22 = .ok (.getstatic 40, 3) := by decide +kernel
theorem d20_25 : decode method_4_code 25 = .ok (.areturn, 1) := by decide +kernel
theorem d20_26 : decode method_4_code 26 = .ok (.aload_n 0, 1) := by decide +kernel
theorem d20_27 : decode method_4_code 27 = .ok (.ldc 43, 2) := by decide +kernel
theorem d20_29 : decode method_4_code 29 = .ok (.invokevirtual 28, 3) := by decide +kernel
theorem d20_32 : decode method_4_code 32 = .ok (.ifCond .eq 7, 3) := by decide +kernel
theorem d20_35 : decode method_4_code 35 = .ok (.getstatic 45, 3) := by decide +kernel
theorem d20_38 : decode method_4_code 38 = .ok (.areturn, 1) := by decide +kernel
theorem d20_39 : decode method_4_code 39 = .ok (.aconst_null, 1) := by decide +kernel
theorem d20_40 : decode method_4_code 40 = .ok (.areturn, 1) := by decide +kernel
def K0 : BT := [(0, .iload_n 0, 1), (3, .iand, 1), (4, .iconst 3, 1), (6, .istore 5, 2), (10, .astore 6, 2), (12, .iload 5, 2), (14, .iconst 1, 1), (15, .if_icmp .ne 7, 3), (20, .astore 6, 2), (22, .iload 5, 2), (24, .iconst 2, 1), (25, .if_icmp .ne 7, 3), (30, .astore 6, 2), (32, .iload_n 1, 1), (33, .bipush 15, 2), (35, .iand, 1), (36, .istore 7, 2), (38, .iload 4, 2), (40, .iconst 1, 1), (41, .iand, 1), (42, .ifCond .eq 7, 3), (45, .bipush 15, 2), (47, .istore 7, 2), (49, .iload_n 2, 1), (50, .sipush 255, 3), (53, .iand, 1), (54, .i2c, 1), (55, .istore 8, 2), (57, .aload 6, 2), (62, .iconst 1, 1), (63, .isub, 1), (64, .iload_n 3, 1), (67, .iand, 1), (68, .iconst 3, 1), (70, .iadd, 1), (71, .istore 9, 2), (73, .aload 6, 2), (75, .iload 7, 2), (77, .iload 8, 2), (79, .iload 9, 2), (84, .astore 10, 2), (86, .aload 10, 2), (91, .aload 10, 2), (99, .iconst 1, 1), (100, .goto 4, 3)]
theorem tb0 : Tab code K0 := ai at_0 (ai at_3 (ai at_4 (ai at_6 (ai at_10 (ai at_12 (ai at_14 (ai at_15 (ai at_20 (ai at_22 (ai at_24 (ai at_25 (ai at_30 (ai at_32 (ai at_33 (ai at_35 (ai at_36 (ai at_38 (ai at_40 (ai at_41 (ai at_42 (ai at_45 (ai at_47 (ai at_49 (ai at_50 (ai at_53 (ai at_54 (ai at_55 (ai at_57 (ai at_62 (ai at_63 (ai at_64 (ai at_67 (ai at_68 (ai at_70 (ai at_71 (ai at_73 (ai at_75 (ai at_77 (ai at_79 (ai at_84 (ai at_86 (ai at_91 (ai at_99 (ai at_100 trivial))))))))))))))))))))))))))))))))))))))))))))
def K1 : BT := [(0, .aload_n 0, 1), (4, .arraylength, 1), (5, .aload_n 0, 1), (9, .ishr, 1)]
theorem tb1 : Tab jdk_42_method_54_code K1 := ai d1_0 (ai d1_4 (ai d1_5 (ai d1_9 trivial)))
def K2 : BT := [(3, .ifCond .eq 10, 3), (6, .aload_n 0, 1), (10, .goto 4, 3)]
theorem tb2 : Tab jdk_42_method_152_code K2 := ai d2_3 (ai d2_6 (ai d2_10 trivial))
def K3 : BT := [(0, .bipush 15, 2), (4, .dup, 1), (5, .iconst 0, 1), (6, .aload_n 0, 1), (7, .iconst 0, 1), (8, .iload_n 1, 1), (9, .iload_n 2, 1), (14, .dup, 1), (15, .iconst 1, 1), (16, .aload_n 0, 1), (17, .iconst 1, 1), (18, .iload_n 1, 1), (19, .iload_n 2, 1), (24, .dup, 1), (25, .iconst 2, 1), (26, .aload_n 0, 1), (27, .iconst 2, 1), (28, .iload_n 1, 1), (29, .iload_n 2, 1), (34, .dup, 1), (35, .iconst 3, 1), (36, .aload_n 0, 1), (37, .iconst 3, 1), (38, .iload_n 1, 1), (39, .iload_n 2, 1), (44, .dup, 1), (45, .iconst 4, 1), (46, .aload_n 0, 1), (47, .iconst 4, 1), (48, .iload_n 1, 1), (49, .iload_n 2, 1), (54, .dup, 1), (55, .iconst 5, 1), (56, .aload_n 0, 1), (57, .iconst 5, 1), (58, .iload_n 1, 1), (59, .iload_n 2, 1), (64, .dup, 1), (65, .bipush 6, 2), (67, .aload_n 0, 1), (68, .bipush 6, 2), (70, .iload_n 1, 1), (71, .iload_n 2, 1), (76, .dup, 1), (77, .bipush 7, 2), (79, .aload_n 0, 1), (80, .bipush 7, 2), (82, .iload_n 1, 1), (83, .iload_n 2, 1), (88, .dup, 1), (89, .bipush 8, 2), (91, .aload_n 0, 1), (92, .bipush 8, 2), (94, .iload_n 1, 1), (95, .iload_n 2, 1), (100, .dup, 1), (101, .bipush 9, 2), (103, .aload_n 0, 1), (104, .bipush 9, 2), (106, .iload_n 1, 1), (107, .iload_n 2, 1), (112, .dup, 1), (113, .bipush 10, 2), (115, .aload_n 0, 1), (116, .bipush 10, 2), (118, .iload_n 1, 1), (119, .iload_n 2, 1), (124, .dup, 1), (125, .bipush 11, 2), (127, .aload_n 0, 1), (128, .bipush 11, 2), (130, .iload_n 1, 1), (131, .iload_n 2, 1), (136, .dup, 1), (137, .bipush 12, 2), (139, .aload_n 0, 1), (140, .bipush 12, 2), (142, .iload_n 1, 1), (143, .iload_n 2, 1), (148, .dup, 1), (149, .bipush 13, 2), (151, .aload_n 0, 1), (152, .bipush 13, 2), (154, .iload_n 1, 1), (155, .iload_n 2, 1), (160, .dup, 1), (161, .bipush 14, 2), (163, .aload_n 0, 1), (164, .bipush 14, 2), (166, .iload_n 1, 1), (167, .iload_n 2, 1), (172, .astore 4, 2), (174, .iload_n 3, 1), (175, .bipush 12, 2), (177, .if_icmp .ne 111, 3), (183, .dup, 1), (184, .bipush 12, 2), (188, .dup, 1), (189, .iconst 0, 1), (190, .aload 4, 2), (192, .iconst 0, 1), (193, .caload, 1), (195, .dup, 1), (196, .iconst 1, 1), (197, .aload 4, 2), (199, .iconst 1, 1), (200, .caload, 1), (202, .dup, 1), (203, .iconst 2, 1), (204, .aload 4, 2), (206, .iconst 2, 1), (207, .caload, 1), (209, .dup, 1), (210, .iconst 3, 1), (211, .aload 4, 2), (213, .iconst 3, 1), (214, .caload, 1), (216, .dup, 1), (217, .iconst 4, 1), (218, .aload 4, 2), (220, .iconst 4, 1), (221, .caload, 1), (223, .dup, 1), (224, .iconst 5, 1), (225, .aload 4, 2), (227, .iconst 5, 1), (228, .caload, 1), (230, .dup, 1), (231, .bipush 6, 2), (233, .aload 4, 2), (235, .bipush 6, 2), (237, .caload, 1), (239, .dup, 1), (240, .bipush 7, 2), (242, .aload 4, 2), (244, .bipush 7, 2), (246, .caload, 1), (248, .dup, 1), (249, .bipush 8, 2), (251, .aload 4, 2), (253, .bipush 8, 2), (255, .caload, 1), (257, .dup, 1), (258, .bipush 9, 2), (260, .aload 4, 2), (262, .bipush 9, 2), (264, .caload, 1), (266, .dup, 1), (267, .bipush 10, 2), (269, .aload 4, 2), (271, .bipush 10, 2), (273, .caload, 1), (275, .dup, 1), (276, .bipush 11, 2), (278, .aload 4, 2), (280, .bipush 11, 2), (282, .caload, 1), (288, .iload_n 3, 1), (289, .bipush 13, 2), (291, .if_icmp .ne 120, 3), (297, .dup, 1), (298, .bipush 13, 2), (302, .dup, 1), (303, .iconst 0, 1), (304, .aload 4, 2), (306, .iconst 0, 1), (307, .caload, 1), (309, .dup, 1), (310, .iconst 1, 1), (311, .aload 4, 2), (313, .iconst 1, 1), (314, .caload, 1), (316, .dup, 1), (317, .iconst 2, 1), (318, .aload 4, 2), (320, .iconst 2, 1), (321, .caload, 1), (323, .dup, 1), (324, .iconst 3, 1), (325, .aload 4, 2), (327, .iconst 3, 1), (328, .caload, 1), (330, .dup, 1), (331, .iconst 4, 1), (332, .aload 4, 2), (334, .iconst 4, 1), (335, .caload, 1), (337, .dup, 1), (338, .iconst 5, 1), (339, .aload 4, 2), (341, .iconst 5, 1), (342, .caload, 1), (344, .dup, 1), (345, .bipush 6, 2), (347, .aload 4, 2), (349, .bipush 6, 2), (351, .caload, 1), (353, .dup, 1), (354, .bipush 7, 2), (356, .aload 4, 2), (358, .bipush 7, 2), (360, .caload, 1), (362, .dup, 1), (363, .bipush 8, 2), (365, .aload 4, 2), (367, .bipush 8, 2), (369, .caload, 1), (371, .dup, 1), (372, .bipush 9, 2), (374, .aload 4, 2), (376, .bipush 9, 2), (378, .caload, 1), (380, .dup, 1), (381, .bipush 10, 2), (383, .aload 4, 2), (385, .bipush 10, 2), (387, .caload, 1), (389, .dup, 1), (390, .bipush 11, 2), (392, .aload 4, 2), (394, .bipush 11, 2), (396, .caload, 1), (398, .dup, 1), (399, .bipush 12, 2), (401, .aload 4, 2), (403, .bipush 12, 2), (405, .caload, 1), (411, .iload_n 3, 1), (412, .bipush 14, 2), (414, .if_icmp .ne 129, 3), (420, .dup, 1), (421, .bipush 14, 2), (425, .dup, 1), (426, .iconst 0, 1), (427, .aload 4, 2), (429, .iconst 0, 1), (430, .caload, 1), (432, .dup, 1), (433, .iconst 1, 1), (434, .aload 4, 2), (436, .iconst 1, 1), (437, .caload, 1), (439, .dup, 1), (440, .iconst 2, 1), (441, .aload 4, 2), (443, .iconst 2, 1), (444, .caload, 1), (446, .dup, 1), (447, .iconst 3, 1), (448, .aload 4, 2), (450, .iconst 3, 1), (451, .caload, 1), (453, .dup, 1), (454, .iconst 4, 1), (455, .aload 4, 2), (457, .iconst 4, 1), (458, .caload, 1), (460, .dup, 1), (461, .iconst 5, 1), (462, .aload 4, 2), (464, .iconst 5, 1), (465, .caload, 1), (467, .dup, 1), (468, .bipush 6, 2), (470, .aload 4, 2), (472, .bipush 6, 2), (474, .caload, 1), (476, .dup, 1), (477, .bipush 7, 2), (479, .aload 4, 2), (481, .bipush 7, 2), (483, .caload, 1), (485, .dup, 1), (486, .bipush 8, 2), (488, .aload 4, 2), (490, .bipush 8, 2), (492, .caload, 1), (494, .dup, 1), (495, .bipush 9, 2), (497, .aload 4, 2), (499, .bipush 9, 2), (501, .caload, 1), (503, .dup, 1), (504, .bipush 10, 2), (506, .aload 4, 2), (508, .bipush 10, 2), (510, .caload, 1), (512, .dup, 1), (513, .bipush 11, 2), (515, .aload 4, 2), (517, .bipush 11, 2), (519, .caload, 1), (521, .dup, 1), (522, .bipush 12, 2), (524, .aload 4, 2), (526, .bipush 12, 2), (528, .caload, 1), (530, .dup, 1), (531, .bipush 13, 2), (533, .aload 4, 2), (535, .bipush 13, 2), (537, .caload, 1), (546, .dup, 1), (547, .bipush 15, 2), (551, .dup, 1), (552, .iconst 0, 1), (553, .aload 4, 2), (555, .iconst 0, 1), (556, .caload, 1), (558, .dup, 1), (559, .iconst 1, 1), (560, .aload 4, 2), (562, .iconst 1, 1), (563, .caload, 1), (565, .dup, 1), (566, .iconst 2, 1), (567, .aload 4, 2), (569, .iconst 2, 1), (570, .caload, 1), (572, .dup, 1), (573, .iconst 3, 1), (574, .aload 4, 2), (576, .iconst 3, 1), (577, .caload, 1), (579, .dup, 1), (580, .iconst 4, 1), (581, .aload 4, 2), (583, .iconst 4, 1), (584, .caload, 1), (586, .dup, 1), (587, .iconst 5, 1), (588, .aload 4, 2), (590, .iconst 5, 1), (591, .caload, 1), (593, .dup, 1), (594, .bipush 6, 2), (596, .aload 4, 2), (598, .bipush 6, 2), (600, .caload, 1), (602, .dup, 1), (603, .bipush 7, 2), (605, .aload 4, 2), (607, .bipush 7, 2), (609, .caload, 1), (611, .dup, 1), (612, .bipush 8, 2), (614, .aload 4, 2), (616, .bipush 8, 2), (618, .caload, 1), (620, .dup, 1), (621, .bipush 9, 2), (623, .aload 4, 2), (625, .bipush 9, 2), (627, .caload, 1), (629, .dup, 1), (630, .bipush 10, 2), (632, .aload 4, 2), (634, .bipush 10, 2), (636, .caload, 1), (638, .dup, 1), (639, .bipush 11, 2), (641, .aload 4, 2), (643, .bipush 11, 2), (645, .caload, 1), (647, .dup, 1), (648, .bipush 12, 2), (650, .aload 4, 2), (652, .bipush 12, 2), (654, .caload, 1), (656, .dup, 1), (657, .bipush 13, 2), (659, .aload 4, 2), (661, .bipush 13, 2), (663, .caload, 1), (665, .dup, 1), (666, .bipush 14, 2), (668, .aload 4, 2), (670, .bipush 14, 2), (672, .caload, 1)]
theorem tb3 : Tab method_3_code K3 := ai d3_0 (ai d3_4 (ai d3_5 (ai d3_6 (ai d3_7 (ai d3_8 (ai d3_9 (ai d3_14 (ai d3_15 (ai d3_16 (ai d3_17 (ai d3_18 (ai d3_19 (ai d3_24 (ai d3_25 (ai d3_26 (ai d3_27 (ai d3_28 (ai d3_29 (ai d3_34 (ai d3_35 (ai d3_36 (ai d3_37 (ai d3_38 (ai d3_39 (ai d3_44 (ai d3_45 (ai d3_46 (ai d3_47 (ai d3_48 (ai d3_49 (ai d3_54 (ai d3_55 (ai d3_56 (ai d3_57 (ai d3_58 (ai d3_59 (ai d3_64 (ai d3_65 (ai d3_67 (ai d3_68 (ai d3_70 (ai d3_71 (ai d3_76 (ai d3_77 (ai d3_79 (ai d3_80 (ai d3_82 (ai d3_83 (ai d3_88 (ai d3_89 (ai d3_91 (ai d3_92 (ai d3_94 (ai d3_95 (ai d3_100 (ai d3_101 (ai d3_103 (ai d3_104 (ai d3_106 (ai d3_107 (ai d3_112 (ai d3_113 (ai d3_115 (ai d3_116 (ai d3_118 (ai d3_119 (ai d3_124 (ai d3_125 (ai d3_127 (ai d3_128 (ai d3_130 (ai d3_131 (ai d3_136 (ai d3_137 (ai d3_139 (ai d3_140 (ai d3_142 (ai d3_143 (ai d3_148 (ai d3_149 (ai d3_151 (ai d3_152 (ai d3_154 (ai d3_155 (ai d3_160 (ai d3_161 (ai d3_163 (ai d3_164 (ai d3_166 (ai d3_167 (ai d3_172 (ai d3_174 (ai d3_175 (ai d3_177 (ai d3_183 (ai d3_184 (ai d3_188 (ai d3_189 (ai d3_190 (ai d3_192 (ai d3_193 (ai d3_195 (ai d3_196 (ai d3_197 (ai d3_199 (ai d3_200 (ai d3_202 (ai d3_203 (ai d3_204 (ai d3_206 (ai d3_207 (ai d3_209 (ai d3_210 (ai d3_211 (ai d3_213 (ai d3_214 (ai d3_216 (ai d3_217 (ai d3_218 (ai d3_220 (ai d3_221 (ai d3_223 (ai d3_224 (ai d3_225 (ai d3_227 (ai d3_228 (ai d3_230 (ai d3_231 (ai d3_233 (ai d3_235 (ai d3_237 (ai d3_239 (ai d3_240 (ai d3_242 (ai d3_244 (ai d3_246 (ai d3_248 (ai d3_249 (ai d3_251 (ai d3_253 (ai d3_255 (ai d3_257 (ai d3_258 (ai d3_260 (ai d3_262 (ai d3_264 (ai d3_266 (ai d3_267 (ai d3_269 (ai d3_271 (ai d3_273 (ai d3_275 (ai d3_276 (ai d3_278 (ai d3_280 (ai d3_282 (ai d3_288 (ai d3_289 (ai d3_291 (ai d3_297 (ai d3_298 (ai d3_302 (ai d3_303 (ai d3_304 (ai d3_306 (ai d3_307 (ai d3_309 (ai d3_310 (ai d3_311 (ai d3_313 (ai d3_314 (ai d3_316 (ai d3_317 (ai d3_318 (ai d3_320 (ai d3_321 (ai d3_323 (ai d3_324 (ai d3_325 (ai d3_327 (ai d3_328 (ai d3_330 (ai d3_331 (ai d3_332 (ai d3_334 (ai d3_335 (ai d3_337 (ai d3_338 (ai d3_339 (ai d3_341 (ai d3_342 (ai d3_344 (ai d3_345 (ai d3_347 (ai d3_349 (ai d3_351 (ai d3_353 (ai d3_354 (ai d3_356 (ai d3_358 (ai d3_360 (ai d3_362 (ai d3_363 (ai d3_365 (ai d3_367 (ai d3_369 (ai d3_371 (ai d3_372 (ai d3_374 (ai d3_376 (ai d3_378 (ai d3_380 (ai d3_381 (ai d3_383 (ai d3_385 (ai d3_387 (ai d3_389 (ai d3_390 (ai d3_392 (ai d3_394 (ai d3_396 (ai d3_398 (ai d3_399 (ai d3_401 (ai d3_403 (ai d3_405 (ai d3_411 (ai d3_412 (ai d3_414 (ai d3_420 (ai d3_421 (ai d3_425 (ai d3_426 (ai d3_427 (ai d3_429 (ai d3_430 (ai d3_432 (ai d3_433 (ai d3_434 (ai d3_436 (ai d3_437 (ai d3_439 (ai d3_440 (ai d3_441 (ai d3_443 (ai d3_444 (ai d3_446 (ai d3_447 (ai d3_448 (ai d3_450 (ai d3_451 (ai d3_453 (ai d3_454 (ai d3_455 (ai d3_457 (ai d3_458 (ai d3_460 (ai d3_461 (ai d3_462 (ai d3_464 (ai d3_465 (ai d3_467 (ai d3_468 (ai d3_470 (ai d3_472 (ai d3_474 (ai d3_476 (ai d3_477 (ai d3_479 (ai d3_481 (ai d3_483 (ai d3_485 (ai d3_486 (ai d3_488 (ai d3_490 (ai d3_492 (ai d3_494 (ai d3_495 (ai d3_497 (ai d3_499 (ai d3_501 (ai d3_503 (ai d3_504 (ai d3_506 (ai d3_508 (ai d3_510 (ai d3_512 (ai d3_513 (ai d3_515 (ai d3_517 (ai d3_519 (ai d3_521 (ai d3_522 (ai d3_524 (ai d3_526 (ai d3_528 (ai d3_530 (ai d3_531 (ai d3_533 (ai d3_535 (ai d3_537 (ai d3_546 (ai d3_547 (ai d3_551 (ai d3_552 (ai d3_553 (ai d3_555 (ai d3_556 (ai d3_558 (ai d3_559 (ai d3_560 (ai d3_562 (ai d3_563 (ai d3_565 (ai d3_566 (ai d3_567 (ai d3_569 (ai d3_570 (ai d3_572 (ai d3_573 (ai d3_574 (ai d3_576 (ai d3_577 (ai d3_579 (ai d3_580 (ai d3_581 (ai d3_583 (ai d3_584 (ai d3_586 (ai d3_587 (ai d3_588 (ai d3_590 (ai d3_591 (ai d3_593 (ai d3_594 (ai d3_596 (ai d3_598 (ai d3_600 (ai d3_602 (ai d3_603 (ai d3_605 (ai d3_607 (ai d3_609 (ai d3_611 (ai d3_612 (ai d3_614 (ai d3_616 (ai d3_618 (ai d3_620 (ai d3_621 (ai d3_623 (ai d3_625 (ai d3_627 (ai d3_629 (ai d3_630 (ai d3_632 (ai d3_634 (ai d3_636 (ai d3_638 (ai d3_639 (ai d3_641 (ai d3_643 (ai d3_645 (ai d3_647 (ai d3_648 (ai d3_650 (ai d3_652 (ai d3_654 (ai d3_656 (ai d3_657 (ai d3_659 (ai d3_661 (ai d3_663 (ai d3_665 (ai d3_666 (ai d3_668 (ai d3_670 (ai d3_672 trivial))))))))))))))))))))))))))))))))))))))))))))))))))))))))))))))))))))))))))))))))))))))))))))))))))))))))))))))))))))))))))))))))))))))))))))))))))))))))))))))))))))))))))))))))))))))))))))))))))))))))))))))))))))))))))))))))))))))))))))))))))))))))))))))))))))))))))))))))))))))))))))))))))))))))))))))))))))))))))))))))))))))))))))))))))))))))))))))))))))))))))))))))))))))))))
def K4 : BT := [(0, .iload_n 1, 1), (1, .iload_n 2, 1), (2, .if_icmp .ne 5, 3), (5, .iload_n 3, 1), (7, .iload_n 1, 1), (8, .aload_n 0, 1), (12, .if_icmp .ge 9, 3), (15, .aload_n 0, 1), (16, .iload_n 1, 1), (21, .iload_n 3, 1)]
theorem tb4 : Tab method_2_code K4 := ai d4_0 (ai d4_1 (ai d4_2 (ai d4_5 (ai d4_7 (ai d4_8 (ai d4_12 (ai d4_15 (ai d4_16 (ai d4_21 trivial)))))))))
def K5 : BT := [(0, .aload_n 0, 1), (4, .ifCond .eq 12, 3), (7, .aload_n 0, 1), (11, .iload_n 1, 1)]
theorem tb5 : Tab jdk_42_method_56_code K5 := ai d5_0 (ai d5_4 (ai d5_7 (ai d5_11 trivial)))
def K6 : BT := [(3, .ifCond .eq 14, 3), (6, .aload_n 0, 1), (10, .ifCond .ne 7, 3), (13, .iconst 1, 1), (14, .goto 4, 3)]
theorem tb6 : Tab jdk_42_method_154_code K6 := ai d6_3 (ai d6_6 (ai d6_10 (ai d6_13 (ai d6_14 trivial))))
def K7 : BT := [(0, .iload_n 1, 1), (1, .aload_n 0, 1), (2, .arraylength, 1), (6, .aload_n 0, 1), (7, .iload_n 1, 1), (8, .baload, 1), (9, .sipush 255, 3), (12, .iand, 1), (13, .i2c, 1)]
theorem tb7 : Tab jdk_43_method_2_code K7 := ai d7_0 (ai d7_1 (ai d7_2 (ai d7_6 (ai d7_7 (ai d7_8 (ai d7_9 (ai d7_12 (ai d7_13 trivial))))))))
def K8 : BT := [(0, .iload_n 0, 1), (1, .iload_n 1, 1), (8, .pop, 1)]
theorem tb8 : Tab jdk_42_method_155_code K8 := ai d8_0 (ai d8_1 (ai d8_8 trivial))
def K9 : BT := [(0, .iload_n 0, 1), (1, .ifCond .lt 8, 3), (4, .iload_n 0, 1), (5, .iload_n 1, 1), (6, .if_icmp .lt 10, 3), (16, .iload_n 0, 1)]
theorem tb9 : Tab jdk_41_method_11_code K9 := ai d9_0 (ai d9_1 (ai d9_4 (ai d9_5 (ai d9_6 (ai d9_16 trivial)))))
def K10 : BT := [(0, .aload_n 0, 1), (1, .aload_n 1, 1), (2, .iconst 0, 1), (3, .aload_n 1, 1), (4, .arraylength, 1), (5, .aconst_null, 1)]
theorem tb10 : Tab jdk_42_method_3_code K10 := ai d10_0 (ai d10_1 (ai d10_2 (ai d10_3 (ai d10_4 (ai d10_5 trivial)))))
def K11 : BT := [(0, .aload_n 0, 1), (4, .iload_n 3, 1), (5, .ifCond .ne 22, 3), (30, .ifCond .eq 28, 3), (33, .aload_n 1, 1), (34, .iload_n 2, 1), (35, .iload_n 3, 1), (39, .astore 5, 2), (41, .aload_n 0, 1), (42, .aload 5, 2), (44, .iload_n 3, 1), (51, .aload_n 0, 1), (52, .aload 5, 2)]
theorem tb11 : Tab jdk_42_method_149_code K11 := ai d11_0 (ai d11_4 (ai d11_5 (ai d11_30 (ai d11_33 (ai d11_34 (ai d11_35 (ai d11_39 (ai d11_41 (ai d11_42 (ai d11_44 (ai d11_51 (ai d11_52 trivial))))))))))))
def K13 : BT := [(0, .iload_n 2, 1), (3, .astore_n 3, 1), (4, .aload_n 0, 1), (5, .iload_n 1, 1), (6, .aload_n 3, 1), (7, .iconst 0, 1), (8, .iload_n 2, 1), (12, .istore 4, 2), (14, .iload 4, 2), (16, .iload_n 2, 1), (17, .if_icmp .eq 40, 3), (57, .aload_n 3, 1)]
theorem tb13 : Tab jdk_52_method_16_code K13 := ai d13_0 (ai d13_3 (ai d13_4 (ai d13_5 (ai d13_6 (ai d13_7 (ai d13_8 (ai d13_12 (ai d13_14 (ai d13_16 (ai d13_17 (ai d13_57 trivial)))))))))))
def K14 : BT := [(0, .iconst 0, 1), (1, .istore 5, 2), (3, .iload 5, 2), (5, .iload 4, 2), (7, .if_icmp .ge 37, 3), (10, .aload_n 0, 1), (11, .iload_n 1, 1), (12, .caload, 1), (13, .istore 6, 2), (15, .iload 6, 2), (17, .sipush 255, 3), (20, .if_icmp .le 6, 3), (26, .aload_n 2, 1), (27, .iload_n 3, 1), (28, .iload 6, 2), (30, .i2b, 1), (32, .iinc 1 1, 3), (35, .iinc 3 1, 3), (38, .iinc 5 1, 3), (41, .goto (-38), 3), (44, .iload 4, 2)]
theorem tb14 : Tab jdk_52_method_21_code K14 := ai d14_0 (ai d14_1 (ai d14_3 (ai d14_5 (ai d14_7 (ai d14_10 (ai d14_11 (ai d14_12 (ai d14_13 (ai d14_15 (ai d14_17 (ai d14_20 (ai d14_26 (ai d14_27 (ai d14_28 (ai d14_30 (ai d14_32 (ai d14_35 (ai d14_38 (ai d14_41 (ai d14_44 trivial))))))))))))))))))))
def K15 : BT := [(0, .iload_n 1, 1), (1, .aload_n 0, 1), (2, .arraylength, 1), (3, .isub, 1), (4, .bipush 31, 2), (6, .iushr, 1), (7, .i2b, 1)]
theorem tb15 : Tab jdk_52_method_15_code K15 := ai d15_0 (ai d15_1 (ai d15_2 (ai d15_3 (ai d15_4 (ai d15_6 (ai d15_7 trivial))))))
def K16 : BT := [(3, .astore_n 1, 1), (4, .aload_n 1, 1), (5, .arraylength, 1), (6, .istore_n 2, 1), (7, .iconst 0, 1), (8, .istore_n 3, 1), (9, .iload_n 3, 1), (10, .iload_n 2, 1), (11, .if_icmp .ge 29, 3), (14, .aload_n 1, 1), (15, .iload_n 3, 1), (17, .astore 4, 2), (19, .aload 4, 2), (24, .aload_n 0, 1), (28, .ifCond .eq 6, 3), (31, .aload 4, 2), (34, .iinc 3 1, 3), (37, .goto (-28), 3), (40, .aconst_null, 1)]
theorem tb16 : Tab prog_3_method_5_code K16 := ai d16_3 (ai d16_4 (ai d16_5 (ai d16_6 (ai d16_7 (ai d16_8 (ai d16_9 (ai d16_10 (ai d16_11 (ai d16_14 (ai d16_15 (ai d16_17 (ai d16_19 (ai d16_24 (ai d16_28 (ai d16_31 (ai d16_34 (ai d16_37 (ai d16_40 trivial))))))))))))))))))
def K18 : BT := [(0, .aload_n 0, 1), (1, .aload_n 1, 1), (7, .aload_n 1, 1), (11, .ifCond .eq 43, 3), (14, .aload_n 1, 1), (18, .astore_n 2, 1), (22, .ifCond .eq 14, 3), (25, .aload_n 0, 1), (29, .aload_n 2, 1), (33, .if_icmp .ne 21, 3), (36, .aload_n 0, 1), (40, .aload_n 2, 1), (47, .ifCond .eq 7, 3), (50, .iconst 1, 1), (51, .goto 4, 3), (54, .iconst 0, 1)]
theorem tb18 : Tab jdk_42_method_66_code K18 := ai d18_0 (ai d18_1 (ai d18_7 (ai d18_11 (ai d18_14 (ai d18_18 (ai d18_22 (ai d18_25 (ai d18_29 (ai d18_33 (ai d18_36 (ai d18_40 (ai d18_47 (ai d18_50 (ai d18_51 (ai d18_54 trivial)))))))))))))))
def K19 : BT := [(0, .aload_n 0, 1), (2, .aload_n 1, 1), (4, .if_icmp .ne 30, 3), (7, .iconst 0, 1), (8, .istore_n 2, 1), (9, .iload_n 2, 1), (10, .aload_n 0, 1), (12, .if_icmp .ge 20, 3), (15, .aload_n 0, 1), (16, .iload_n 2, 1), (18, .aload_n 1, 1), (19, .iload_n 2, 1), (21, .if_icmp .eq 5, 3), (24, .iconst 0, 1), (26, .iinc 2 1, 3), (29, .goto (-20), 3), (32, .iconst 1, 1), (34, .iconst 0, 1)]
theorem tb19 : Tab jdk_43_method_13_code K19 := ai d19_0 (ai d19_2 (ai d19_4 (ai d19_7 (ai d19_8 (ai d19_9 (ai d19_10 (ai d19_12 (ai d19_15 (ai d19_16 (ai d19_18 (ai d19_19 (ai d19_21 (ai d19_24 (ai d19_26 (ai d19_29 (ai d19_32 (ai d19_34 trivial)))))))))))))))))
def K20 : BT := [(0, .aload_n 0, 1), (6, .ifCond .eq 7, 3), (13, .aload_n 0, 1), (19, .ifCond .eq 7, 3), (26, .aload_n 0, 1), (32, .ifCond .eq 7, 3), (39, .aconst_null, 1)]
theorem tb20 : Tab method_4_code K20 := ai d20_0 (ai d20_6 (ai d20_13 (ai d20_19 (ai d20_26 (ai d20_32 (ai d20_39 trivial))))))
theorem pn_0 : plainName "java/lang/String" = true := by first | (simp [plainName, overriddenIn]; done) | decide +kernel
theorem pn_1 : plainName "jdk/internal/util/Preconditions" = true := by first | (simp [plainName, overriddenIn]; done) | decide +kernel
theorem pn_2 : plainName "java/lang/StringLatin1" = true := by first | (simp [plainName, overriddenIn]; done) | decide +kernel
theorem pn_3 : plainName "com/example/sinkwatch/sinkwatch/FlawNamedPinLaw" = true := by first | (simp [plainName, overriddenIn]; done) | decide +kernel
theorem pn_4 : plainName "java/lang/StringUTF16" = true := by first | (simp [plainName, overriddenIn]; done) | decide +kernel
theorem pn_5 : plainName "com/example/sinkwatch/sinkwatch/Flaw" = true := by first | (simp [plainName, overriddenIn]; done) | decide +kernel
theorem pd_0 : parseMethodDescriptor "()B" = some ⟨[], some .byte⟩ := by decide +kernel
theorem pd_1 : parseMethodDescriptor "()I" = some ⟨[], some .int⟩ := by decide +kernel
theorem pd_2 : parseMethodDescriptor "()Z" = some ⟨[], some .boolean⟩ := by decide +kernel
theorem pd_3 : parseMethodDescriptor "(IILjava/util/function/BiFunction;)I" = some ⟨[.int, .int, (.object "java/util/function/BiFunction")], some .int⟩ := by decide +kernel
theorem pd_4 : parseMethodDescriptor "(II)V" = some ⟨[.int, .int], none⟩ := by decide +kernel
theorem pd_5 : parseMethodDescriptor "([BI)C" = some ⟨[(.array .byte), .int], some .char⟩ := by decide +kernel
theorem pd_6 : parseMethodDescriptor "(I)C" = some ⟨[.int], some .char⟩ := by decide +kernel
theorem pd_7 : parseMethodDescriptor "(Ljava/lang/String;IIC)C" = some ⟨[(.object "java/lang/String"), .int, .int, .char], some .char⟩ := by decide +kernel
theorem pd_8 : parseMethodDescriptor "([CI[BII)I" = some ⟨[(.array .char), .int, (.array .byte), .int, .int], some .int⟩ := by decide +kernel
theorem pd_9 : parseMethodDescriptor "([CII)[B" = some ⟨[(.array .char), .int, .int], some (.array .byte)⟩ := by decide +kernel
theorem pd_10 : parseMethodDescriptor "([BI)B" = some ⟨[(.array .byte), .int], some .byte⟩ := by decide +kernel
theorem pd_11 : parseMethodDescriptor "([CIILjava/lang/Void;)V" = some ⟨[(.array .char), .int, .int, (.object "java/lang/Void")], none⟩ := by decide +kernel
theorem pd_12 : parseMethodDescriptor "([C)V" = some ⟨[(.array .char)], none⟩ := by decide +kernel
theorem pd_13 : parseMethodDescriptor "(Ljava/lang/String;ICI)Ljava/lang/String;" = some ⟨[(.object "java/lang/String"), .int, .char, .int], some (.object "java/lang/String")⟩ := by decide +kernel
theorem pd_14 : parseMethodDescriptor "()[Lcom/example/sinkwatch/sinkwatch/Flaw;" = some ⟨[], some (.array (.object "com/example/sinkwatch/sinkwatch/Flaw"))⟩ := by decide +kernel
theorem pd_15 : parseMethodDescriptor "([B[B)Z" = some ⟨[(.array .byte), (.array .byte)], some .boolean⟩ := by decide +kernel
theorem pd_16 : parseMethodDescriptor "(Ljava/lang/Object;)Z" = some ⟨[(.object "java/lang/Object")], some .boolean⟩ := by decide +kernel
theorem pd_17 : parseMethodDescriptor "(Ljava/lang/String;)Lcom/example/sinkwatch/sinkwatch/Flaw;" = some ⟨[(.object "java/lang/String")], some (.object "com/example/sinkwatch/sinkwatch/Flaw")⟩ := by decide +kernel
abbrev bl10 : List Value := [vi 0, vi 0, vi 0, vi 0, vi 0, vi 0, vi 0, vi 0, vi 0, vi 0, vi 0, vi 0]
abbrev bl9 : List Value := [vi 0, vi 0, vi 0, vi 0, vi 0, vi 0, vi 0, vi 0, vi 0, vi 0, vi 0, vi 0, vi 0, vi 0, vi 0]
abbrev bl8 : List Value := [vi 0, vi 0, vi 0, vi 0, vi 0, vi 0, vi 0, vi 0, vi 0, vi 0, vi 0, vi 0, vi 0, vi 0]
abbrev bl7 : List Int32 := [111, 112, 101, 110, 45, 114, 101, 100, 105, 114, 101, 99, 116]
abbrev bl6 : List Value := [vi 111, vi 112, vi 101, vi 110, vi 45, vi 114, vi 101, vi 100, vi 105, vi 114, vi 101, vi 99, vi 116]
abbrev bl5 : List Int32 := [112, 97, 116, 104, 45, 116, 114, 97, 118, 101, 114, 115, 97, 108]
abbrev bl4 : List Int32 := [115, 113, 108, 45, 105, 110, 106, 101, 99, 116, 105, 111, 110]
abbrev bl3 : List Value := [vi 115, vi 113, vi 108, vi 45, vi 105, vi 110, vi 106, vi 101, vi 99, vi 116, vi 105, vi 111, vi 110]
abbrev bl2 : List Value := [vi 0, vi 0, vi 0, vi 0, vi 0, vi 0, vi 0, vi 0, vi 0, vi 0, vi 0, vi 0, vi 0]
abbrev bl1 : List Value := [vi 112, vi 97, vi 116, vi 104, vi 45, vi 116, vi 114, vi 97, vi 118, vi 101, vi 114, vi 115, vi 97, vi 108]
def eqA (xs ys : List Int32) : Int32 := if xs = ys then 1 else 0
def va1 (x1 : Int32) : Int32 := ((x1 &&& (2147483647 : Int32)) % (3 : Int32))
def va2 (x1 : Int32) (x2 : Int32) : Int32 := (if (x1 &&& (1 : Int32)) = (0 : Int32) then (x2 &&& (15 : Int32)) else (15 : Int32))
def va3 (x1 : Int32) : Int32 := ((x1 &&& (255 : Int32)).toUInt32.toUInt16.toUInt32.toInt32)
def va4 (x1 : Int32) (x2 : Int32) : Int32 := (if (0 : Int32) = x1 then (nar .char x2) else (112 : Int32))
def va5 (x1 : Int32) (x2 : Int32) (x3 : Int32) : Int32 := (if (0 : Int32) = (va2 x1 x2) then (nar .char (va3 x3)) else (112 : Int32))
def va6 (x1 : Int32) (x2 : Int32) (x3 : Int32) : Int32 := (if (1 : Int32) = (va2 x1 x2) then (nar .char (va3 x3)) else (97 : Int32))
def va7 (x1 : Int32) (x2 : Int32) (x3 : Int32) : Int32 := (if (2 : Int32) = (va2 x1 x2) then (nar .char (va3 x3)) else (116 : Int32))
def va8 (x1 : Int32) (x2 : Int32) (x3 : Int32) : Int32 := (if (3 : Int32) = (va2 x1 x2) then (nar .char (va3 x3)) else (104 : Int32))
def va9 (x1 : Int32) (x2 : Int32) (x3 : Int32) : Int32 := (if (4 : Int32) = (va2 x1 x2) then (nar .char (va3 x3)) else (45 : Int32))
def va10 (x1 : Int32) (x2 : Int32) (x3 : Int32) : Int32 := (if (5 : Int32) = (va2 x1 x2) then (nar .char (va3 x3)) else (116 : Int32))
def va11 (x1 : Int32) (x2 : Int32) (x3 : Int32) : Int32 := (if (6 : Int32) = (va2 x1 x2) then (nar .char (va3 x3)) else (114 : Int32))
def va12 (x1 : Int32) (x2 : Int32) (x3 : Int32) : Int32 := (if (7 : Int32) = (va2 x1 x2) then (nar .char (va3 x3)) else (97 : Int32))
def va13 (x1 : Int32) (x2 : Int32) (x3 : Int32) : Int32 := (if (8 : Int32) = (va2 x1 x2) then (nar .char (va3 x3)) else (118 : Int32))
def va14 (x1 : Int32) (x2 : Int32) (x3 : Int32) : Int32 := (if (9 : Int32) = (va2 x1 x2) then (nar .char (va3 x3)) else (101 : Int32))
def va15 (x1 : Int32) (x2 : Int32) (x3 : Int32) : Int32 := (if (10 : Int32) = (va2 x1 x2) then (nar .char (va3 x3)) else (114 : Int32))
def va16 (x1 : Int32) (x2 : Int32) (x3 : Int32) : Int32 := (if (11 : Int32) = (va2 x1 x2) then (nar .char (va3 x3)) else (115 : Int32))
def va17 (x1 : Int32) (x2 : Int32) (x3 : Int32) : Int32 := (if (12 : Int32) = (va2 x1 x2) then (nar .char (va3 x3)) else (97 : Int32))
def va18 (x1 : Int32) (x2 : Int32) (x3 : Int32) : Int32 := (if (13 : Int32) = (va2 x1 x2) then (nar .char (va3 x3)) else (108 : Int32))
def va19 (x1 : Int32) : Int32 := (nar .char (va3 x1))
def va20 (x1 : Int32) : Int32 := (nar .char (nar .char x1))
def va21 (x1 : Int32) : Int32 := ((x1.toInt8.toInt32).toInt8.toInt32)
def va22 (x1 : Int32) (x2 : Int32) (x3 : Int32) : Int32 := (va21 (va20 (va5 x1 x2 x3)))
def va23 (x1 : Int32) (x2 : Int32) (x3 : Int32) : Int32 := (va21 (va20 (va6 x1 x2 x3)))
def va24 (x1 : Int32) (x2 : Int32) (x3 : Int32) : Int32 := (va21 (va20 (va7 x1 x2 x3)))
def va25 (x1 : Int32) (x2 : Int32) (x3 : Int32) : Int32 := (va21 (va20 (va8 x1 x2 x3)))
def va26 (x1 : Int32) (x2 : Int32) (x3 : Int32) : Int32 := (va21 (va20 (va9 x1 x2 x3)))
def va27 (x1 : Int32) (x2 : Int32) (x3 : Int32) : Int32 := (va21 (va20 (va10 x1 x2 x3)))
def va28 (x1 : Int32) (x2 : Int32) (x3 : Int32) : Int32 := (va21 (va20 (va11 x1 x2 x3)))
def va29 (x1 : Int32) (x2 : Int32) (x3 : Int32) : Int32 := (va21 (va20 (va12 x1 x2 x3)))
def va30 (x1 : Int32) (x2 : Int32) (x3 : Int32) : Int32 := (va21 (va20 (va13 x1 x2 x3)))
def va31 (x1 : Int32) (x2 : Int32) (x3 : Int32) : Int32 := (va21 (va20 (va14 x1 x2 x3)))
def va32 (x1 : Int32) (x2 : Int32) (x3 : Int32) : Int32 := (va21 (va20 (va15 x1 x2 x3)))
def va33 (x1 : Int32) (x2 : Int32) (x3 : Int32) : Int32 := (va21 (va20 (va16 x1 x2 x3)))
def va34 (x1 : Int32) (x2 : Int32) (x3 : Int32) : Int32 := (va21 (va20 (va17 x1 x2 x3)))
def va35 (x1 : Int32) (x2 : Int32) (x3 : Int32) (x4 : Int32) (x5 : Int32) (x6 : Int32) (x7 : Int32) (x8 : Int32) (x9 : Int32) (x10 : Int32) (x11 : Int32) (x12 : Int32) (x13 : Int32) : Int32 := (nar .boolean (eqA bl4 [x1, x2, x3, x4, x5, x6, x7, x8, x9, x10, x11, x12, x13]))
def va36 (x1 : Int32) (x2 : Int32) (x3 : Int32) : Int32 := (va35 (va22 x1 x2 x3) (va23 x1 x2 x3) (va24 x1 x2 x3) (va25 x1 x2 x3) (va26 x1 x2 x3) (va27 x1 x2 x3) (va28 x1 x2 x3) (va29 x1 x2 x3) (va30 x1 x2 x3) (va31 x1 x2 x3) (va32 x1 x2 x3) (va33 x1 x2 x3) (va34 x1 x2 x3))
def va37 (x1 : Int32) (x2 : Int32) (x3 : Int32) (x4 : Int32) (x5 : Int32) (x6 : Int32) (x7 : Int32) (x8 : Int32) (x9 : Int32) (x10 : Int32) (x11 : Int32) (x12 : Int32) (x13 : Int32) : Int32 := (nar .boolean (eqA bl7 [x1, x2, x3, x4, x5, x6, x7, x8, x9, x10, x11, x12, x13]))
def va38 (x1 : Int32) (x2 : Int32) (x3 : Int32) : Int32 := (va37 (va22 x1 x2 x3) (va23 x1 x2 x3) (va24 x1 x2 x3) (va25 x1 x2 x3) (va26 x1 x2 x3) (va27 x1 x2 x3) (va28 x1 x2 x3) (va29 x1 x2 x3) (va30 x1 x2 x3) (va31 x1 x2 x3) (va32 x1 x2 x3) (va33 x1 x2 x3) (va34 x1 x2 x3))
def va39 (x1 : Int32) (x2 : Int32) (x3 : Int32) (x4 : Int32) (x5 : Int32) (x6 : Int32) (x7 : Int32) (x8 : Int32) (x9 : Int32) (x10 : Int32) (x11 : Int32) (x12 : Int32) (x13 : Int32) : Int32 := (nar .boolean (eqA [x1, x2, x3, x4, x5, x6, x7, x8, x9, x10, x11, x12, x13] bl4))
def va40 (x1 : Int32) (x2 : Int32) (x3 : Int32) : Int32 := (va39 (va22 x1 x2 x3) (va23 x1 x2 x3) (va24 x1 x2 x3) (va25 x1 x2 x3) (va26 x1 x2 x3) (va27 x1 x2 x3) (va28 x1 x2 x3) (va29 x1 x2 x3) (va30 x1 x2 x3) (va31 x1 x2 x3) (va32 x1 x2 x3) (va33 x1 x2 x3) (va34 x1 x2 x3))
def va41 (x1 : Int32) (x2 : Int32) (x3 : Int32) (x4 : Int32) (x5 : Int32) (x6 : Int32) (x7 : Int32) (x8 : Int32) (x9 : Int32) (x10 : Int32) (x11 : Int32) (x12 : Int32) (x13 : Int32) : Int32 := (nar .boolean (eqA [x1, x2, x3, x4, x5, x6, x7, x8, x9, x10, x11, x12, x13] bl7))
def va42 (x1 : Int32) (x2 : Int32) (x3 : Int32) : Int32 := (va41 (va22 x1 x2 x3) (va23 x1 x2 x3) (va24 x1 x2 x3) (va25 x1 x2 x3) (va26 x1 x2 x3) (va27 x1 x2 x3) (va28 x1 x2 x3) (va29 x1 x2 x3) (va30 x1 x2 x3) (va31 x1 x2 x3) (va32 x1 x2 x3) (va33 x1 x2 x3) (va34 x1 x2 x3))
def va43 (x1 : Int32) (x2 : Int32) (x3 : Int32) : Int32 := (va21 (va20 (va18 x1 x2 x3)))
def va44 (x1 : Int32) (x2 : Int32) (x3 : Int32) (x4 : Int32) (x5 : Int32) (x6 : Int32) (x7 : Int32) (x8 : Int32) (x9 : Int32) (x10 : Int32) (x11 : Int32) (x12 : Int32) (x13 : Int32) (x14 : Int32) : Int32 := (nar .boolean (eqA bl5 [x1, x2, x3, x4, x5, x6, x7, x8, x9, x10, x11, x12, x13, x14]))
def va45 (x1 : Int32) (x2 : Int32) (x3 : Int32) : Int32 := (va44 (va22 x1 x2 x3) (va23 x1 x2 x3) (va24 x1 x2 x3) (va25 x1 x2 x3) (va26 x1 x2 x3) (va27 x1 x2 x3) (va28 x1 x2 x3) (va29 x1 x2 x3) (va30 x1 x2 x3) (va31 x1 x2 x3) (va32 x1 x2 x3) (va33 x1 x2 x3) (va34 x1 x2 x3) (va43 x1 x2 x3))
def va46 (x1 : Int32) (x2 : Int32) (x3 : Int32) (x4 : Int32) (x5 : Int32) (x6 : Int32) (x7 : Int32) (x8 : Int32) (x9 : Int32) (x10 : Int32) (x11 : Int32) (x12 : Int32) (x13 : Int32) (x14 : Int32) : Int32 := (nar .boolean (eqA [x1, x2, x3, x4, x5, x6, x7, x8, x9, x10, x11, x12, x13, x14] bl5))
def va47 (x1 : Int32) (x2 : Int32) (x3 : Int32) : Int32 := (va46 (va22 x1 x2 x3) (va23 x1 x2 x3) (va24 x1 x2 x3) (va25 x1 x2 x3) (va26 x1 x2 x3) (va27 x1 x2 x3) (va28 x1 x2 x3) (va29 x1 x2 x3) (va30 x1 x2 x3) (va31 x1 x2 x3) (va32 x1 x2 x3) (va33 x1 x2 x3) (va34 x1 x2 x3) (va43 x1 x2 x3))
def va48 (x1 : Int32) : Int32 := (va21 (va20 (va19 x1)))
def va49 (x1 : Int32) (x2 : Int32) (x3 : Int32) : Int32 := (if (0 : Int32) = (va2 x1 x2) then (nar .char (va3 x3)) else (111 : Int32))
def va50 (x1 : Int32) (x2 : Int32) (x3 : Int32) : Int32 := (if (1 : Int32) = (va2 x1 x2) then (nar .char (va3 x3)) else (112 : Int32))
def va51 (x1 : Int32) (x2 : Int32) (x3 : Int32) : Int32 := (if (2 : Int32) = (va2 x1 x2) then (nar .char (va3 x3)) else (101 : Int32))
def va52 (x1 : Int32) (x2 : Int32) (x3 : Int32) : Int32 := (if (3 : Int32) = (va2 x1 x2) then (nar .char (va3 x3)) else (110 : Int32))
def va53 (x1 : Int32) (x2 : Int32) (x3 : Int32) : Int32 := (if (5 : Int32) = (va2 x1 x2) then (nar .char (va3 x3)) else (114 : Int32))
def va54 (x1 : Int32) (x2 : Int32) (x3 : Int32) : Int32 := (if (6 : Int32) = (va2 x1 x2) then (nar .char (va3 x3)) else (101 : Int32))
def va55 (x1 : Int32) (x2 : Int32) (x3 : Int32) : Int32 := (if (7 : Int32) = (va2 x1 x2) then (nar .char (va3 x3)) else (100 : Int32))
def va56 (x1 : Int32) (x2 : Int32) (x3 : Int32) : Int32 := (if (8 : Int32) = (va2 x1 x2) then (nar .char (va3 x3)) else (105 : Int32))
def va57 (x1 : Int32) (x2 : Int32) (x3 : Int32) : Int32 := (if (9 : Int32) = (va2 x1 x2) then (nar .char (va3 x3)) else (114 : Int32))
def va58 (x1 : Int32) (x2 : Int32) (x3 : Int32) : Int32 := (if (10 : Int32) = (va2 x1 x2) then (nar .char (va3 x3)) else (101 : Int32))
def va59 (x1 : Int32) (x2 : Int32) (x3 : Int32) : Int32 := (if (11 : Int32) = (va2 x1 x2) then (nar .char (va3 x3)) else (99 : Int32))
def va60 (x1 : Int32) (x2 : Int32) (x3 : Int32) : Int32 := (if (12 : Int32) = (va2 x1 x2) then (nar .char (va3 x3)) else (116 : Int32))
def va61 (x1 : Int32) (x2 : Int32) (x3 : Int32) : Int32 := (va21 (va20 (va49 x1 x2 x3)))
def va62 (x1 : Int32) (x2 : Int32) (x3 : Int32) : Int32 := (va21 (va20 (va50 x1 x2 x3)))
def va63 (x1 : Int32) (x2 : Int32) (x3 : Int32) : Int32 := (va21 (va20 (va51 x1 x2 x3)))
def va64 (x1 : Int32) (x2 : Int32) (x3 : Int32) : Int32 := (va21 (va20 (va52 x1 x2 x3)))
def va65 (x1 : Int32) (x2 : Int32) (x3 : Int32) : Int32 := (va21 (va20 (va53 x1 x2 x3)))
def va66 (x1 : Int32) (x2 : Int32) (x3 : Int32) : Int32 := (va21 (va20 (va54 x1 x2 x3)))
def va67 (x1 : Int32) (x2 : Int32) (x3 : Int32) : Int32 := (va21 (va20 (va55 x1 x2 x3)))
def va68 (x1 : Int32) (x2 : Int32) (x3 : Int32) : Int32 := (va21 (va20 (va56 x1 x2 x3)))
def va69 (x1 : Int32) (x2 : Int32) (x3 : Int32) : Int32 := (va21 (va20 (va57 x1 x2 x3)))
def va70 (x1 : Int32) (x2 : Int32) (x3 : Int32) : Int32 := (va21 (va20 (va58 x1 x2 x3)))
def va71 (x1 : Int32) (x2 : Int32) (x3 : Int32) : Int32 := (va21 (va20 (va59 x1 x2 x3)))
def va72 (x1 : Int32) (x2 : Int32) (x3 : Int32) : Int32 := (va21 (va20 (va60 x1 x2 x3)))
def va73 (x1 : Int32) (x2 : Int32) (x3 : Int32) : Int32 := (va35 (va61 x1 x2 x3) (va62 x1 x2 x3) (va63 x1 x2 x3) (va64 x1 x2 x3) (va26 x1 x2 x3) (va65 x1 x2 x3) (va66 x1 x2 x3) (va67 x1 x2 x3) (va68 x1 x2 x3) (va69 x1 x2 x3) (va70 x1 x2 x3) (va71 x1 x2 x3) (va72 x1 x2 x3))
def va74 (x1 : Int32) (x2 : Int32) (x3 : Int32) : Int32 := (va37 (va61 x1 x2 x3) (va62 x1 x2 x3) (va63 x1 x2 x3) (va64 x1 x2 x3) (va26 x1 x2 x3) (va65 x1 x2 x3) (va66 x1 x2 x3) (va67 x1 x2 x3) (va68 x1 x2 x3) (va69 x1 x2 x3) (va70 x1 x2 x3) (va71 x1 x2 x3) (va72 x1 x2 x3))
def va75 (x1 : Int32) (x2 : Int32) (x3 : Int32) : Int32 := (va39 (va61 x1 x2 x3) (va62 x1 x2 x3) (va63 x1 x2 x3) (va64 x1 x2 x3) (va26 x1 x2 x3) (va65 x1 x2 x3) (va66 x1 x2 x3) (va67 x1 x2 x3) (va68 x1 x2 x3) (va69 x1 x2 x3) (va70 x1 x2 x3) (va71 x1 x2 x3) (va72 x1 x2 x3))
def va76 (x1 : Int32) (x2 : Int32) (x3 : Int32) : Int32 := (va41 (va61 x1 x2 x3) (va62 x1 x2 x3) (va63 x1 x2 x3) (va64 x1 x2 x3) (va26 x1 x2 x3) (va65 x1 x2 x3) (va66 x1 x2 x3) (va67 x1 x2 x3) (va68 x1 x2 x3) (va69 x1 x2 x3) (va70 x1 x2 x3) (va71 x1 x2 x3) (va72 x1 x2 x3))
def va77 (x1 : Int32) (x2 : Int32) (x3 : Int32) : Int32 := (va44 (va61 x1 x2 x3) (va62 x1 x2 x3) (va63 x1 x2 x3) (va64 x1 x2 x3) (va26 x1 x2 x3) (va65 x1 x2 x3) (va66 x1 x2 x3) (va67 x1 x2 x3) (va68 x1 x2 x3) (va69 x1 x2 x3) (va70 x1 x2 x3) (va71 x1 x2 x3) (va72 x1 x2 x3) (va48 x3))
def va78 (x1 : Int32) (x2 : Int32) (x3 : Int32) : Int32 := (va46 (va61 x1 x2 x3) (va62 x1 x2 x3) (va63 x1 x2 x3) (va64 x1 x2 x3) (va26 x1 x2 x3) (va65 x1 x2 x3) (va66 x1 x2 x3) (va67 x1 x2 x3) (va68 x1 x2 x3) (va69 x1 x2 x3) (va70 x1 x2 x3) (va71 x1 x2 x3) (va72 x1 x2 x3) (va48 x3))
def va79 (x1 : Int32) (x2 : Int32) (x3 : Int32) : Int32 := (if (0 : Int32) = (va2 x1 x2) then (nar .char (va3 x3)) else (115 : Int32))
def va80 (x1 : Int32) (x2 : Int32) (x3 : Int32) : Int32 := (if (1 : Int32) = (va2 x1 x2) then (nar .char (va3 x3)) else (113 : Int32))
def va81 (x1 : Int32) (x2 : Int32) (x3 : Int32) : Int32 := (if (2 : Int32) = (va2 x1 x2) then (nar .char (va3 x3)) else (108 : Int32))
def va82 (x1 : Int32) (x2 : Int32) (x3 : Int32) : Int32 := (if (3 : Int32) = (va2 x1 x2) then (nar .char (va3 x3)) else (45 : Int32))
def va83 (x1 : Int32) (x2 : Int32) (x3 : Int32) : Int32 := (if (4 : Int32) = (va2 x1 x2) then (nar .char (va3 x3)) else (105 : Int32))
def va84 (x1 : Int32) (x2 : Int32) (x3 : Int32) : Int32 := (if (5 : Int32) = (va2 x1 x2) then (nar .char (va3 x3)) else (110 : Int32))
def va85 (x1 : Int32) (x2 : Int32) (x3 : Int32) : Int32 := (if (6 : Int32) = (va2 x1 x2) then (nar .char (va3 x3)) else (106 : Int32))
def va86 (x1 : Int32) (x2 : Int32) (x3 : Int32) : Int32 := (if (7 : Int32) = (va2 x1 x2) then (nar .char (va3 x3)) else (101 : Int32))
def va87 (x1 : Int32) (x2 : Int32) (x3 : Int32) : Int32 := (if (8 : Int32) = (va2 x1 x2) then (nar .char (va3 x3)) else (99 : Int32))
def va88 (x1 : Int32) (x2 : Int32) (x3 : Int32) : Int32 := (if (9 : Int32) = (va2 x1 x2) then (nar .char (va3 x3)) else (116 : Int32))
def va89 (x1 : Int32) (x2 : Int32) (x3 : Int32) : Int32 := (if (10 : Int32) = (va2 x1 x2) then (nar .char (va3 x3)) else (105 : Int32))
def va90 (x1 : Int32) (x2 : Int32) (x3 : Int32) : Int32 := (if (11 : Int32) = (va2 x1 x2) then (nar .char (va3 x3)) else (111 : Int32))
def va91 (x1 : Int32) (x2 : Int32) (x3 : Int32) : Int32 := (if (12 : Int32) = (va2 x1 x2) then (nar .char (va3 x3)) else (110 : Int32))
def va92 (x1 : Int32) (x2 : Int32) (x3 : Int32) : Int32 := (va21 (va20 (va79 x1 x2 x3)))
def va93 (x1 : Int32) (x2 : Int32) (x3 : Int32) : Int32 := (va21 (va20 (va80 x1 x2 x3)))
def va94 (x1 : Int32) (x2 : Int32) (x3 : Int32) : Int32 := (va21 (va20 (va81 x1 x2 x3)))
def va95 (x1 : Int32) (x2 : Int32) (x3 : Int32) : Int32 := (va21 (va20 (va82 x1 x2 x3)))
def va96 (x1 : Int32) (x2 : Int32) (x3 : Int32) : Int32 := (va21 (va20 (va83 x1 x2 x3)))
def va97 (x1 : Int32) (x2 : Int32) (x3 : Int32) : Int32 := (va21 (va20 (va84 x1 x2 x3)))
def va98 (x1 : Int32) (x2 : Int32) (x3 : Int32) : Int32 := (va21 (va20 (va85 x1 x2 x3)))
def va99 (x1 : Int32) (x2 : Int32) (x3 : Int32) : Int32 := (va21 (va20 (va86 x1 x2 x3)))
def va100 (x1 : Int32) (x2 : Int32) (x3 : Int32) : Int32 := (va21 (va20 (va87 x1 x2 x3)))
def va101 (x1 : Int32) (x2 : Int32) (x3 : Int32) : Int32 := (va21 (va20 (va88 x1 x2 x3)))
def va102 (x1 : Int32) (x2 : Int32) (x3 : Int32) : Int32 := (va21 (va20 (va89 x1 x2 x3)))
def va103 (x1 : Int32) (x2 : Int32) (x3 : Int32) : Int32 := (va21 (va20 (va90 x1 x2 x3)))
def va104 (x1 : Int32) (x2 : Int32) (x3 : Int32) : Int32 := (va21 (va20 (va91 x1 x2 x3)))
def va105 (x1 : Int32) (x2 : Int32) (x3 : Int32) : Int32 := (va35 (va92 x1 x2 x3) (va93 x1 x2 x3) (va94 x1 x2 x3) (va95 x1 x2 x3) (va96 x1 x2 x3) (va97 x1 x2 x3) (va98 x1 x2 x3) (va99 x1 x2 x3) (va100 x1 x2 x3) (va101 x1 x2 x3) (va102 x1 x2 x3) (va103 x1 x2 x3) (va104 x1 x2 x3))
def va106 (x1 : Int32) (x2 : Int32) (x3 : Int32) : Int32 := (va37 (va92 x1 x2 x3) (va93 x1 x2 x3) (va94 x1 x2 x3) (va95 x1 x2 x3) (va96 x1 x2 x3) (va97 x1 x2 x3) (va98 x1 x2 x3) (va99 x1 x2 x3) (va100 x1 x2 x3) (va101 x1 x2 x3) (va102 x1 x2 x3) (va103 x1 x2 x3) (va104 x1 x2 x3))
def va107 (x1 : Int32) (x2 : Int32) (x3 : Int32) : Int32 := (va39 (va92 x1 x2 x3) (va93 x1 x2 x3) (va94 x1 x2 x3) (va95 x1 x2 x3) (va96 x1 x2 x3) (va97 x1 x2 x3) (va98 x1 x2 x3) (va99 x1 x2 x3) (va100 x1 x2 x3) (va101 x1 x2 x3) (va102 x1 x2 x3) (va103 x1 x2 x3) (va104 x1 x2 x3))
def va108 (x1 : Int32) (x2 : Int32) (x3 : Int32) : Int32 := (va41 (va92 x1 x2 x3) (va93 x1 x2 x3) (va94 x1 x2 x3) (va95 x1 x2 x3) (va96 x1 x2 x3) (va97 x1 x2 x3) (va98 x1 x2 x3) (va99 x1 x2 x3) (va100 x1 x2 x3) (va101 x1 x2 x3) (va102 x1 x2 x3) (va103 x1 x2 x3) (va104 x1 x2 x3))
def va109 (x1 : Int32) (x2 : Int32) (x3 : Int32) : Int32 := (va44 (va92 x1 x2 x3) (va93 x1 x2 x3) (va94 x1 x2 x3) (va95 x1 x2 x3) (va96 x1 x2 x3) (va97 x1 x2 x3) (va98 x1 x2 x3) (va99 x1 x2 x3) (va100 x1 x2 x3) (va101 x1 x2 x3) (va102 x1 x2 x3) (va103 x1 x2 x3) (va104 x1 x2 x3) (va48 x3))
def va110 (x1 : Int32) (x2 : Int32) (x3 : Int32) : Int32 := (va46 (va92 x1 x2 x3) (va93 x1 x2 x3) (va94 x1 x2 x3) (va95 x1 x2 x3) (va96 x1 x2 x3) (va97 x1 x2 x3) (va98 x1 x2 x3) (va99 x1 x2 x3) (va100 x1 x2 x3) (va101 x1 x2 x3) (va102 x1 x2 x3) (va103 x1 x2 x3) (va104 x1 x2 x3) (va48 x3))
abbrev y0 : MethodName := ⟨"java/lang/String", "coder", "()B"⟩
abbrev y1 : MethodName := ⟨"java/lang/String", "length", "()I"⟩
abbrev y2 : MethodName := ⟨"java/lang/String", "isLatin1", "()Z"⟩
abbrev y3 : MethodName := ⟨"jdk/internal/util/Preconditions", "checkIndex", "(IILjava/util/function/BiFunction;)I"⟩
abbrev y4 : MethodName := ⟨"java/lang/String", "checkIndex", "(II)V"⟩
abbrev y5 : MethodName := ⟨"java/lang/StringLatin1", "charAt", "([BI)C"⟩
abbrev y6 : MethodName := ⟨"java/lang/String", "charAt", "(I)C"⟩
abbrev y7 : MethodName := ⟨"com/example/sinkwatch/sinkwatch/FlawNamedPinLaw", "cell", "(Ljava/lang/String;IIC)C"⟩
abbrev y8 : MethodName := ⟨"java/lang/StringUTF16", "compress", "([CI[BII)I"⟩
abbrev y9 : MethodName := ⟨"java/lang/StringUTF16", "compress", "([CII)[B"⟩
abbrev y10 : MethodName := ⟨"java/lang/StringUTF16", "coderFromArrayLen", "([BI)B"⟩
abbrev y11 : MethodName := ⟨"java/lang/String", "<init>", "([CIILjava/lang/Void;)V"⟩
abbrev y12 : MethodName := ⟨"java/lang/String", "<init>", "([C)V"⟩
abbrev y13 : MethodName := ⟨"com/example/sinkwatch/sinkwatch/FlawNamedPinLaw", "make", "(Ljava/lang/String;ICI)Ljava/lang/String;"⟩
abbrev y14 : MethodName := ⟨"com/example/sinkwatch/sinkwatch/Flaw", "values", "()[Lcom/example/sinkwatch/sinkwatch/Flaw;"⟩
abbrev y15 : MethodName := ⟨"java/lang/StringLatin1", "equals", "([B[B)Z"⟩
abbrev y16 : MethodName := ⟨"java/lang/String", "equals", "(Ljava/lang/Object;)Z"⟩
abbrev y17 : MethodName := ⟨"com/example/sinkwatch/sinkwatch/Flaw", "named", "(Ljava/lang/String;)Lcom/example/sinkwatch/sinkwatch/Flaw;"⟩
abbrev y18 : MethodName := ⟨"com/example/sinkwatch/sinkwatch/FlawNamedPinLaw", "ref", "(Ljava/lang/String;)Lcom/example/sinkwatch/sinkwatch/Flaw;"⟩
abbrev L_iiiiiuuuuuu (x0 : Int32) (x1 : Int32) (x2 : Int32) (x3 : Int32) (x4 : Int32) : Array Slot := #[si x0, si x1, si x2, si x3, si x4, .unset, .unset, .unset, .unset, .unset, .unset]
abbrev L_iiiiiiuuuuu (x0 : Int32) (x1 : Int32) (x2 : Int32) (x3 : Int32) (x4 : Int32) (x5 : Int32) : Array Slot := #[si x0, si x1, si x2, si x3, si x4, si x5, .unset, .unset, .unset, .unset, .unset]
abbrev L_iiiiiiruuuu (x0 : Int32) (x1 : Int32) (x2 : Int32) (x3 : Int32) (x4 : Int32) (x5 : Int32) (x6 : Addr) : Array Slot := #[si x0, si x1, si x2, si x3, si x4, si x5, sr x6, .unset, .unset, .unset, .unset]
abbrev L_iiiiiiriuuu (x0 : Int32) (x1 : Int32) (x2 : Int32) (x3 : Int32) (x4 : Int32) (x5 : Int32) (x6 : Addr) (x7 : Int32) : Array Slot := #[si x0, si x1, si x2, si x3, si x4, si x5, sr x6, si x7, .unset, .unset, .unset]
abbrev L_iiiiiiriiuu (x0 : Int32) (x1 : Int32) (x2 : Int32) (x3 : Int32) (x4 : Int32) (x5 : Int32) (x6 : Addr) (x7 : Int32) (x8 : Int32) : Array Slot := #[si x0, si x1, si x2, si x3, si x4, si x5, sr x6, si x7, si x8, .unset, .unset]
abbrev L_iiiiiiriiiu (x0 : Int32) (x1 : Int32) (x2 : Int32) (x3 : Int32) (x4 : Int32) (x5 : Int32) (x6 : Addr) (x7 : Int32) (x8 : Int32) (x9 : Int32) : Array Slot := #[si x0, si x1, si x2, si x3, si x4, si x5, sr x6, si x7, si x8, si x9, .unset]
abbrev L_riiiu (x0 : Addr) (x1 : Int32) (x2 : Int32) (x3 : Int32) : Array Slot := #[sr x0, si x1, si x2, si x3, .unset]
abbrev L_riii (x0 : Addr) (x1 : Int32) (x2 : Int32) (x3 : Int32) : Array Slot := #[sr x0, si x1, si x2, si x3]
abbrev L_ri (x0 : Addr) (x1 : Int32) : Array Slot := #[sr x0, si x1]
abbrev L_ii (x0 : Int32) (x1 : Int32) : Array Slot := #[si x0, si x1]
abbrev L_riiir (x0 : Addr) (x1 : Int32) (x2 : Int32) (x3 : Int32) (x4 : Addr) : Array Slot := #[sr x0, si x1, si x2, si x3, sr x4]
abbrev L_rr (x0 : Addr) (x1 : Addr) : Array Slot := #[sr x0, sr x1]
abbrev L_rriinu (x0 : Addr) (x1 : Addr) (x2 : Int32) (x3 : Int32) : Array Slot := #[sr x0, sr x1, si x2, si x3, .val .null, .unset]
abbrev L_riiuuu (x0 : Addr) (x1 : Int32) (x2 : Int32) : Array Slot := #[sr x0, si x1, si x2, .unset, .unset, .unset]
abbrev L_riiruu (x0 : Addr) (x1 : Int32) (x2 : Int32) (x3 : Addr) : Array Slot := #[sr x0, si x1, si x2, sr x3, .unset, .unset]
abbrev L_ririiuu (x0 : Addr) (x1 : Int32) (x2 : Addr) (x3 : Int32) (x4 : Int32) : Array Slot := #[sr x0, si x1, sr x2, si x3, si x4, .unset, .unset]
abbrev L_ririiiu (x0 : Addr) (x1 : Int32) (x2 : Addr) (x3 : Int32) (x4 : Int32) (x5 : Int32) : Array Slot := #[sr x0, si x1, sr x2, si x3, si x4, si x5, .unset]
abbrev L_ririiii (x0 : Addr) (x1 : Int32) (x2 : Addr) (x3 : Int32) (x4 : Int32) (x5 : Int32) (x6 : Int32) : Array Slot := #[sr x0, si x1, sr x2, si x3, si x4, si x5, si x6]
abbrev L_riiriu (x0 : Addr) (x1 : Int32) (x2 : Int32) (x3 : Addr) (x4 : Int32) : Array Slot := #[sr x0, si x1, si x2, sr x3, si x4, .unset]
abbrev L_rriinr (x0 : Addr) (x1 : Addr) (x2 : Int32) (x3 : Int32) (x5 : Addr) : Array Slot := #[sr x0, sr x1, si x2, si x3, .val .null, sr x5]
abbrev L_iiiiiiriiir (x0 : Int32) (x1 : Int32) (x2 : Int32) (x3 : Int32) (x4 : Int32) (x5 : Int32) (x6 : Addr) (x7 : Int32) (x8 : Int32) (x9 : Int32) (x10 : Addr) : Array Slot := #[si x0, si x1, si x2, si x3, si x4, si x5, sr x6, si x7, si x8, si x9, sr x10]
abbrev L_ruuuu (x0 : Addr) : Array Slot := #[sr x0, .unset, .unset, .unset, .unset]
abbrev L_rruuu (x0 : Addr) (x1 : Addr) : Array Slot := #[sr x0, sr x1, .unset, .unset, .unset]
abbrev L_rriuu (x0 : Addr) (x1 : Addr) (x2 : Int32) : Array Slot := #[sr x0, sr x1, si x2, .unset, .unset]
abbrev L_rriiu (x0 : Addr) (x1 : Addr) (x2 : Int32) (x3 : Int32) : Array Slot := #[sr x0, sr x1, si x2, si x3, .unset]
abbrev L_rriir (x0 : Addr) (x1 : Addr) (x2 : Int32) (x3 : Int32) (x4 : Addr) : Array Slot := #[sr x0, sr x1, si x2, si x3, sr x4]
abbrev CBS (own : String) (i : Nat) (y : MethodName) (b : ByteArray) (k : Nat) (r : Option FieldType) (Z : State) (a0 : Array Value) : Prop := (Jvm.Cond.methodLink own i y).before a0 Z = true ∧ (Jvm.Cond.static y).before a0 Z = true ∧ (Jvm.Cond.initialized y.cls).before a0 Z = true ∧ (Jvm.Cond.code y b k r).before a0 Z = true
abbrev CBI (own : String) (i : Nat) (y : MethodName) (b : ByteArray) (k : Nat) (Z : State) (a0 : Array Value) : Prop := (Jvm.Cond.methodLink own i y).before a0 Z = true ∧ (Jvm.Cond.instanceMethod y).before a0 Z = true ∧ (Jvm.Cond.initialized y.cls).before a0 Z = true ∧ (Jvm.Cond.code y b k none).before a0 Z = true
theorem cw_0 (hw : OW Z a0) : CBS "java/lang/String" 1059 y3 jdk_41_method_11_code 3 (some .int) Z a0 := ai (tw_49 hw) (ai (tw_50 hw) (ai (tw_48 hw) (tw_51 hw)))
theorem cw_1 (hw : OW Z a0) : CBS "java/lang/StringLatin1" 9 y4 jdk_42_method_155_code 2 none Z a0 := ai (tw_44 hw) (ai (tw_45 hw) (ai (tw_2 hw) (tw_46 hw)))
theorem cw_2 (hw : OW Z a0) : CBS "java/lang/String" 495 y5 jdk_43_method_2_code 2 (some .char) Z a0 := ai (tw_40 hw) (ai (tw_41 hw) (ai (tw_42 hw) (tw_43 hw)))
theorem cw_3 (hw : OW Z a0) : CBS "com/example/sinkwatch/sinkwatch/FlawNamedPinLaw" 17 y7 method_2_code 4 (some .char) Z a0 := ai (tw_27 hw) (ai (tw_28 hw) (ai (tw_24 hw) (tw_29 hw)))
theorem cw_4 (hw : OW Z a0) : CBS "java/lang/StringUTF16" 115 y8 jdk_52_method_21_code 7 (some .int) Z a0 := ai (tw_67 hw) (ai (tw_68 hw) (ai (tw_65 hw) (tw_69 hw)))
theorem cw_5 (hw : OW Z a0) : CBS "java/lang/String" 177 y9 jdk_52_method_16_code 6 (some (.array .byte)) Z a0 := ai (tw_63 hw) (ai (tw_64 hw) (ai (tw_65 hw) (tw_66 hw)))
theorem cw_6 (hw : OW Z a0) : CBS "java/lang/String" 47 y10 jdk_52_method_15_code 2 (some .byte) Z a0 := ai (tw_70 hw) (ai (tw_71 hw) (ai (tw_65 hw) (tw_72 hw)))
theorem cw_7 (hw : OW Z a0) : CBI "java/lang/String" 27 y11 jdk_42_method_149_code 6 Z a0 := ai (tw_56 hw) (ai (tw_57 hw) (ai (tw_2 hw) (tw_59 hw)))
theorem cw_8 (hw : OW Z a0) : CBI "com/example/sinkwatch/sinkwatch/FlawNamedPinLaw" 23 y12 jdk_42_method_3_code 2 Z a0 := ai (tw_53 hw) (ai (tw_54 hw) (ai (tw_2 hw) (tw_55 hw)))
theorem cw_9 (hw : OW Z a0) : CBS "com/example/sinkwatch/sinkwatch/FlawNamedPinLaw" 49 y13 method_3_code 5 (some (.object "java/lang/String")) Z a0 := ai (tw_22 hw) (ai (tw_23 hw) (ai (tw_24 hw) (tw_25 hw)))
theorem cw_10 (hw : OW Z a0) : CBS "com/example/sinkwatch/sinkwatch/Flaw" 36 y14 prog_3_method_1_code 0 (some (.array (.object "com/example/sinkwatch/sinkwatch/Flaw"))) Z a0 := ai (tw_77 hw) (ai (tw_78 hw) (ai (tw_75 hw) (tw_79 hw)))
theorem cw_11 (hw : OW Z a0) : CBS "java/lang/String" 541 y15 jdk_43_method_13_code 3 (some .boolean) Z a0 := ai (tw_103 hw) (ai (tw_104 hw) (ai (tw_42 hw) (tw_105 hw)))
theorem cw_12 (hw : OW Z a0) : CBS "com/example/sinkwatch/sinkwatch/FlawNamedPinLaw" 53 y17 prog_3_method_5_code 5 (some (.object "com/example/sinkwatch/sinkwatch/Flaw")) Z a0 := ai (tw_73 hw) (ai (tw_74 hw) (ai (tw_75 hw) (tw_76 hw)))
abbrev M2 (l : Launch) (Z : State) (ws : List Jvm.Cond) (rm : Room) (A : Array Value) (h0 : Heap) (Q : Option Value → Heap → List Loc → Prop) : Prop := MF l Z y0 jdk_42_method_152_code 1 (some .byte) ws rm A h0 Q
abbrev M1 (l : Launch) (Z : State) (ws : List Jvm.Cond) (rm : Room) (A : Array Value) (h0 : Heap) (Q : Option Value → Heap → List Loc → Prop) : Prop := MF l Z y1 jdk_42_method_54_code 1 (some .int) ws rm A h0 Q
abbrev M6 (l : Launch) (Z : State) (ws : List Jvm.Cond) (rm : Room) (A : Array Value) (h0 : Heap) (Q : Option Value → Heap → List Loc → Prop) : Prop := MF l Z y2 jdk_42_method_154_code 1 (some .boolean) ws rm A h0 Q
abbrev M9 (l : Launch) (Z : State) (ws : List Jvm.Cond) (rm : Room) (A : Array Value) (h0 : Heap) (Q : Option Value → Heap → List Loc → Prop) : Prop := MF l Z y3 jdk_41_method_11_code 3 (some .int) ws rm A h0 Q
abbrev M8 (l : Launch) (Z : State) (ws : List Jvm.Cond) (rm : Room) (A : Array Value) (h0 : Heap) (Q : Option Value → Heap → List Loc → Prop) : Prop := MF l Z y4 jdk_42_method_155_code 2 none ws rm A h0 Q
abbrev M7 (l : Launch) (Z : State) (ws : List Jvm.Cond) (rm : Room) (A : Array Value) (h0 : Heap) (Q : Option Value → Heap → List Loc → Prop) : Prop := MF l Z y5 jdk_43_method_2_code 2 (some .char) ws rm A h0 Q
abbrev M5 (l : Launch) (Z : State) (ws : List Jvm.Cond) (rm : Room) (A : Array Value) (h0 : Heap) (Q : Option Value → Heap → List Loc → Prop) : Prop := MF l Z y6 jdk_42_method_56_code 2 (some .char) ws rm A h0 Q
abbrev M4 (l : Launch) (Z : State) (ws : List Jvm.Cond) (rm : Room) (A : Array Value) (h0 : Heap) (Q : Option Value → Heap → List Loc → Prop) : Prop := MF l Z y7 method_2_code 4 (some .char) ws rm A h0 Q
abbrev M14 (l : Launch) (Z : State) (ws : List Jvm.Cond) (rm : Room) (A : Array Value) (h0 : Heap) (Q : Option Value → Heap → List Loc → Prop) : Prop := MF l Z y8 jdk_52_method_21_code 7 (some .int) ws rm A h0 Q
abbrev M13 (l : Launch) (Z : State) (ws : List Jvm.Cond) (rm : Room) (A : Array Value) (h0 : Heap) (Q : Option Value → Heap → List Loc → Prop) : Prop := MF l Z y9 jdk_52_method_16_code 6 (some (.array .byte)) ws rm A h0 Q
abbrev M15 (l : Launch) (Z : State) (ws : List Jvm.Cond) (rm : Room) (A : Array Value) (h0 : Heap) (Q : Option Value → Heap → List Loc → Prop) : Prop := MF l Z y10 jdk_52_method_15_code 2 (some .byte) ws rm A h0 Q
abbrev M11 (l : Launch) (Z : State) (ws : List Jvm.Cond) (rm : Room) (A : Array Value) (h0 : Heap) (Q : Option Value → Heap → List Loc → Prop) : Prop := MF l Z y11 jdk_42_method_149_code 6 none ws rm A h0 Q
abbrev M10 (l : Launch) (Z : State) (ws : List Jvm.Cond) (rm : Room) (A : Array Value) (h0 : Heap) (Q : Option Value → Heap → List Loc → Prop) : Prop := MF l Z y12 jdk_42_method_3_code 2 none ws rm A h0 Q
abbrev M3 (l : Launch) (Z : State) (ws : List Jvm.Cond) (rm : Room) (A : Array Value) (h0 : Heap) (Q : Option Value → Heap → List Loc → Prop) : Prop := MF l Z y13 method_3_code 5 (some (.object "java/lang/String")) ws rm A h0 Q
abbrev M17 (l : Launch) (Z : State) (ws : List Jvm.Cond) (rm : Room) (A : Array Value) (h0 : Heap) (Q : Option Value → Heap → List Loc → Prop) : Prop := MF l Z y14 prog_3_method_1_code 0 (some (.array (.object "com/example/sinkwatch/sinkwatch/Flaw"))) ws rm A h0 Q
abbrev M19 (l : Launch) (Z : State) (ws : List Jvm.Cond) (rm : Room) (A : Array Value) (h0 : Heap) (Q : Option Value → Heap → List Loc → Prop) : Prop := MF l Z y15 jdk_43_method_13_code 3 (some .boolean) ws rm A h0 Q
abbrev M18 (l : Launch) (Z : State) (ws : List Jvm.Cond) (rm : Room) (A : Array Value) (h0 : Heap) (Q : Option Value → Heap → List Loc → Prop) : Prop := MF l Z y16 jdk_42_method_66_code 3 (some .boolean) ws rm A h0 Q
abbrev M16 (l : Launch) (Z : State) (ws : List Jvm.Cond) (rm : Room) (A : Array Value) (h0 : Heap) (Q : Option Value → Heap → List Loc → Prop) : Prop := MF l Z y17 prog_3_method_5_code 5 (some (.object "com/example/sinkwatch/sinkwatch/Flaw")) ws rm A h0 Q
abbrev QI (n0 : Nat) (h0 : Heap) (x : Value) : Option Value → Heap → List Loc → Prop := fun v h L => v = some x ∧ Fr n0 L ∧ h = h0
theorem ofn_int (i : Nat) (h : i < 65) : (Int32.ofNat i).toInt = i := Int32.toInt_ofNat_of_lt (by omega)
theorem ofn_nat (i : Nat) (h : i < 65) : (Int32.ofNat i).toNatClampNeg = i := by
  show (Int32.ofNat i).toInt.toNat = i
  rw [ofn_int i h]; rfl
theorem ofn_lt {i n : Nat} (h : i < n) (hn : n < 65) : ¬ (Int32.ofNat i) < 0 ∧ (Int32.ofNat i) < Int32.ofNat n := by
  have a := ofn_int i (by omega); have b := ofn_int n hn; have c := (by decide : (0 : Int32).toInt = 0)
  constructor
  · intro q; have := Int32.lt_iff_toInt_lt.mp q; omega
  · apply Int32.lt_iff_toInt_lt.mpr; omega
theorem ofn_succ (i : Nat) (h : i < 64) : Int32.ofNat i + Int32.ofInt 1 = Int32.ofNat (i + 1) := by
  show Int32.ofNat i + 1 = _
  exact (Int32.ofNat_add i 1).symm
theorem getv (xs : List Int32) (i : Nat) (h : i < xs.length) (d : Value) : (xs.map vi).getD i d = vi xs[i] := by
  simp [List.getD, h]
theorem own_leq (hw : OW Z a0) (a1 a2 : Addr) (k1 k2 : ClassId) (xs ys : List Int32) {z z2 : Int32} {d1 d2 : Value} (Z0 : n0 ≤ h0.size) (V1 : Arv Z h0 a1 k1 .byte z (xs.map vi) d1) (V2 : Arv Z h0 a2 k2 .byte z2 (ys.map vi) d2) (hz : Int32.ofNat xs.length = z := by rfl) (hz2 : Int32.ofNat ys.length = z2 := by rfl) (h65 : xs.length < 65 := by exact Nat.le_of_ble_eq_true rfl) (h66 : ys.length < 65 := by exact Nat.le_of_ble_eq_true rfl) :
    M19 l Z ws (orm 0 0 0 0) #[vr a1, vr a2] h0 (QI n0 h0 (vi (nar .boolean (eqA xs ys)))) := by
  refine own_enter (plainFor_of_name pn_2) (L0 := #[sr a1, sr a2, .unset]) ?_
  intro p e s m below meth c s₁ hx hby hml hown hnm hret hZ X0 e0
  have N0 := Fr.nil n0
  refine ⟨s₁, _, _, _, _, some (vi (nar .boolean (eqA xs ys))), X0, e0, by decide, by decide, nofun, ⟨rfl, N0, rfl⟩, fun fs hr => ?_⟩
  refine own_b X0 hx hby tb19 1 [] 1 _ [vr a1] rfl ?_
  refine own_alen X0 hx hZ e0 V1 (hb hby d19_1) _ ?_
  refine own_b X0 hx hby tb19 1 [] 3 _ [vr a2, vi z] rfl ?_
  refine own_alen X0 hx hZ e0 V2 (hb hby d19_3) _ ?_
  by_cases hl : ys.length = xs.length
  case neg =>
    have h1 : eqA xs ys = 0 := if_neg (fun q => hl (by rw [q]))
    rw [h1] at hr
    have h2 : ¬ z = z2 := by
      intro q
      rw [← hz, ← hz2] at q
      have a := ofn_int xs.length h65
      have b := ofn_int ys.length h66
      rw [q] at a
      omega
    refine own_b X0 hx hby tb19 2 [true] 35 _ [vi 0] (ai (feq h2).2 rfl) ?_
    exact retN X0 hx (t := .boolean) hret (by simp) (hb hby d19_35) hr
  have hzz : z2 = z := by rw [← hz, ← hz2, hl]
  subst hzz
  have loop : ∀ k i, i + k = xs.length → eqA xs ys = (if xs.drop i = ys.drop i then 1 else 0) → OS p e below s₁ m 9 #[sr a1, sr a2, si (Int32.ofNat i)] [] (s₁.setFrames fs) := by
    intro k
    induction k with
    | zero =>
      intro i hi he
      have h1 : xs.drop i = ys.drop i := by rw [List.drop_of_length_le (by omega), List.drop_of_length_le (by omega)]
      rw [if_pos h1] at he
      rw [he] at hr
      refine own_b X0 hx hby tb19 2 [] 11 _ [vr a1, vi (Int32.ofNat i)] rfl ?_
      refine own_alen X0 hx hZ e0 V1 (hb hby d19_11) _ ?_
      refine own_b X0 hx hby tb19 2 [true] 33 _ [vi 1] (ai ?_ rfl) ?_
      · rw [← hz, show i = xs.length by omega]
        exact (flt (fun q => Int32.lt_irrefl q)).2.1
      exact retN X0 hx (t := .boolean) hret (by simp) (hb hby d19_33) hr
    | succ k ih =>
      intro i hi he
      have hi1 : i < xs.length := by omega
      have hi2 : i < ys.length := by omega
      have hj := ofn_lt hi1 h65
      rw [hz] at hj
      have g1 : (xs.map vi).getD (Int32.ofNat i).toNatClampNeg d1 = vi xs[i] := by rw [ofn_nat i (by omega)]; exact getv xs i hi1 d1
      have g2 : (ys.map vi).getD (Int32.ofNat i).toNatClampNeg d2 = vi ys[i] := by rw [ofn_nat i (by omega)]; exact getv ys i hi2 d2
      rw [List.drop_eq_getElem_cons hi1, List.drop_eq_getElem_cons hi2] at he
      refine own_b X0 hx hby tb19 2 [] 11 _ [vr a1, vi (Int32.ofNat i)] rfl ?_
      refine own_alen X0 hx hZ e0 V1 (hb hby d19_11) _ ?_
      refine own_b X0 hx hby tb19 3 [false] 17 _ [vi (Int32.ofNat i), vr a1] (ai (tlt hj.2).2.1 rfl) ?_
      refine own_baload X0 hx hZ e0 V1 hj g1 (hb hby d19_17) _ ?_
      refine own_b X0 hx hby tb19 2 [] 20 _ [vi (Int32.ofNat i), vr a2, vi xs[i]] rfl ?_
      refine own_baload X0 hx hZ e0 V2 hj g2 (hb hby d19_20) _ ?_
      by_cases hq : xs[i] = ys[i]
      · refine own_b X0 hx hby tb19 3 [true] 9 #[sr a1, sr a2, si (Int32.ofNat i + Int32.ofInt 1)] [] (ai (teq hq).1 rfl) ?_
        rw [ofn_succ i (by omega)]
        refine ih (i + 1) (by omega) ?_
        rw [he, hq]
        by_cases h2 : xs.drop (i + 1) = ys.drop (i + 1)
        · rw [if_pos h2, if_pos (by rw [h2])]
        · rw [if_neg h2, if_neg (fun q => h2 (List.cons.inj q).2)]
      · have h1 : eqA xs ys = 0 := by rw [he, if_neg (fun q => hq (List.cons.inj q).1)]
        rw [h1] at hr
        refine own_b X0 hx hby tb19 2 [false] 25 _ [vi 0] (ai (feq hq).1 rfl) ?_
        exact retN X0 hx (t := .boolean) hret (by simp) (hb hby d19_25) hr
  refine own_b X0 hx hby tb19 3 [false] 9 #[sr a1, sr a2, si (Int32.ofNat 0)] [] (ai (teq rfl).2 rfl) ?_
  exact loop xs.length 0 (by omega) (by simp [eqA])
theorem eqA01 (xs ys : List Int32) : (eqA xs ys = 0 ∧ nar .boolean (eqA xs ys) = 0) ∨ (eqA xs ys = 1 ∧ nar .boolean (eqA xs ys) = 1) := by
  unfold eqA
  split
  · exact Or.inr ⟨rfl, by decide⟩
  · exact Or.inl ⟨rfl, by decide⟩
theorem eqA_ne {xs ys : List Int32} (h : xs.length ≠ ys.length) : nar .boolean (eqA xs ys) = 0 := by
  rcases eqA01 xs ys with q | q
  · exact q.2
  · unfold eqA at q
    split at q
    · rename_i e; exact absurd (by rw [e]) h
    · exact absurd q.1 (by decide)
theorem own_eq18 (hw : OW Z a0) (a1 a2 b1 b2 : Addr) (k1 k2 : ClassId) (xs ys : List Int32) (p6 x : Int32) {z z2 : Int32} {d1 d2 : Value} (Z0 : n0 ≤ h0.size) (ne : a1 ≠ a2) (E2 : Exa Z h0 a2 "java/lang/String") (P5 : Sta Z Z.heap "java/lang/String" "COMPACT_STRINGS" "Z" (vi p6)) (P2 : Old Z n0 h0) (P6 : ¬ (p6 = (0 : Int32))) (C1 : Fld Z h0 a1 "java/lang/String" "coder" "B" (vi 0)) (C2 : Fld Z h0 a2 "java/lang/String" "coder" "B" (vi 0)) (W1 : Fld Z h0 a1 "java/lang/String" "value" "[B" (vr b1)) (W2 : Fld Z h0 a2 "java/lang/String" "value" "[B" (vr b2)) (V1 : Arv Z h0 b1 k1 .byte z (xs.map vi) d1) (V2 : Arv Z h0 b2 k2 .byte z2 (ys.map vi) d2) (hz : Int32.ofNat xs.length = z := by rfl) (hz2 : Int32.ofNat ys.length = z2 := by rfl) (h65 : xs.length < 65 := by exact Nat.le_of_ble_eq_true rfl) (h66 : ys.length < 65 := by exact Nat.le_of_ble_eq_true rfl) (hq : nar .boolean (eqA xs ys) = x := by first | rfl | exact eqA_ne (Nat.ne_of_beq_eq_false rfl)) :
    M18 l Z ws (orm 1 0 0 14) #[vr a1, vr a2] h0 (QI n0 h0 (vi x)) := by
  subst hq
  refine own_enter (plainFor_of_name pn_0) (L0 := #[sr a1, sr a2, .unset]) ?_
  intro p e s m below meth c s₁ hx hby hml hown hnm hret hZ X0 e0
  have N0 := Fr.nil n0
  obtain ⟨T4, X4, e4, st4⟩ := instY X0 hx hZ hown (tw_102 hw) e0 (Ins.self E2) (g := (mkF m 8 #[sr a1, sr a2, .unset] [vr a2])) rfl rfl (hb hby d18_8)
  obtain ⟨T5, X5, e5, st5⟩ := castY X4 hx hZ hown (tw_102 hw) e4 (Ins.self E2) (g := (mkF m 15 #[sr a1, sr a2, .unset] [vr a2])) rfl rfl (hb hby d18_15)
  obtain ⟨T7, X7, e7, st7⟩ := getS2 X5 hx hZ hown (host := "") (Or.inl (tw_20 hw)) Via.refl e5 (Sta.ext P2.2 P5) (g := (mkF m 19 #[sr a1, sr a2, sr a2] [])) rfl (hb hby d18_19)
  obtain ⟨T8, X8, e8, st8⟩ := getF X7 hx hZ hown (host := "") (Or.inl (tw_21 hw)) Via.refl e7 C1 (g := (mkF m 26 #[sr a1, sr a2, sr a2] [vr a1])) rfl rfl (hb hby d18_26)
  obtain ⟨T9, X9, e9, st9⟩ := getF X8 hx hZ hown (host := "") (Or.inl (tw_21 hw)) Via.refl e8 C2 (g := (mkF m 30 #[sr a1, sr a2, sr a2] [vr a2, vi 0])) rfl rfl (hb hby d18_30)
  obtain ⟨T11, X11, e11, st11⟩ := getF X9 hx hZ hown (host := "") (Or.inl (tw_14 hw)) Via.refl e9 W1 (g := (mkF m 37 #[sr a1, sr a2, sr a2] [vr a1])) rfl rfl (hb hby d18_37)
  obtain ⟨T13, X13, e13, st13⟩ := getF X11 hx hZ hown (host := "") (Or.inl (tw_14 hw)) Via.refl e11 W2 (g := (mkF m 41 #[sr a1, sr a2, sr a2] [vr a2, vr b1])) rfl rfl (hb hby d18_41)
  obtain ⟨T29, L29, _, X29, ⟨rfl, N29q, e29q⟩, st29⟩ := own_callS X13 hx hZ hown (cw_11 hw) (own_leq hw b1 b2 k1 k2 xs ys Z0 V1 V2 hz hz2 h65 h66) e13 (Ls := #[sr a1, sr a2, sr a2]) hml [vr b1, vr b2] [] pd_15 0 (hb hby d18_44)
  have N29 := Fr.app N0 N29q
  refine ⟨T29, _, _, _, _, some (vi (nar .boolean (eqA xs ys))), X29, e29q, by decide, by decide, nofun, ⟨rfl, N29, rfl⟩, fun fs hr => ?_⟩
  refine own_b X0 hx hby tb18 2 [] 2 _ [vr a2, vr a1] rfl ?_
  refine Jvm.RoadKit.acmp (g := (mkF m 2 #[sr a1, sr a2, .unset] [vr a2, vr a1])) X0 hx rfl rfl rfl (pc0 := 2) (pc' := 7) (same := false) rfl (hb hby d18_2) rfl (decide_eq_false fun q => ne (Value.ref.inj q)) (by decide) (by decide) ?_
  show OS p e below s₁ m 7 #[sr a1, sr a2, .unset] [] _
  refine own_b X0 hx hby tb18 1 [] 8 _ [vr a2] rfl ?_
  refine st4 _ ?_
  refine own_b X4 hx hby tb18 2 [false] 15 _ [vr a2] (ai (by decide) rfl) ?_
  refine st5 _ ?_
  refine own_b X5 hx hby tb18 1 [] 19 #[sr a1, sr a2, sr a2] [] rfl ?_
  refine st7 _ ?_
  refine own_b X7 hx hby tb18 2 [false] 26 _ [vr a1] (ai (feq P6).1 rfl) ?_
  refine st8 _ ?_
  refine own_b X8 hx hby tb18 1 [] 30 _ [vr a2, vi 0] rfl ?_
  refine st9 _ ?_
  refine own_b X9 hx hby tb18 2 [false] 37 _ [vr a1] (ai (by decide) rfl) ?_
  refine st11 _ ?_
  refine own_b X11 hx hby tb18 1 [] 41 _ [vr a2, vr b1] rfl ?_
  refine st13 _ ?_
  refine st29 _ ?_
  rcases eqA01 xs ys with q | q
  · refine own_b X29 hx hby tb18 2 [true] 55 _ [vi 0] (ai (teq q.2).1 rfl) ?_
    rw [q.1] at hr
    exact retN X29 hx (t := .boolean) hret (by simp) (hb hby d18_55) hr
  · refine own_b X29 hx hby tb18 3 [false] 55 _ [vi 1] (ai (feq (by rw [q.2]; decide)).1 rfl) ?_
    rw [q.1] at hr
    exact retN X29 hx (t := .boolean) hret (by simp) (hb hby d18_55) hr
theorem va3_255 (x : Int32) : 0 ≤ (va3 x).toInt ∧ (va3 x).toInt < 256 := by
  have a := c_mask x 255 8 (by decide) (by decide)
  have b := c_i2c (x &&& (255 : Int32))
  unfold va3
  omega
theorem nar255 (x : Int32) (h : 0 ≤ x.toInt ∧ x.toInt < 256) : (nar .char x).toInt = x.toInt := by
  have a := (show ((nar .char x).toInt - x.toInt) % 65536 = 0 ∧ 0 ≤ (nar .char x).toInt ∧ (nar .char x).toInt < 65536 from c_i2c _)
  omega
theorem x255q (x : Int32) (h : 0 ≤ x.toInt ∧ x.toInt < 256) : ¬ (255 : Int32) < va20 x := by
  have a := nar255 x h
  have b := nar255 (nar .char x) (by omega)
  intro q
  have q := Int32.lt_iff_toInt_lt.mp q
  have c : (255 : Int32).toInt = 255 := by decide
  unfold va20 at q
  omega
theorem x255 {q : Prop} [Decidable q] {p : Int32} (y : Int32) (hy : 0 ≤ y.toInt ∧ y.toInt < 256 := by decide) : ¬ (255 : Int32) < va20 (if q then nar .char (va3 p) else y) := by
  apply x255q
  have a := va3_255 p
  have b := nar255 _ a
  split
  · omega
  · exact hy
theorem x255o {p : Int32} : ¬ (255 : Int32) < va20 (nar .char (va3 p)) := by
  have a := va3_255 p
  have b := nar255 _ a
  exact x255q _ (by omega)
theorem eqA_no {xs ys : List Int32} (h : ¬ xs = ys) : nar .boolean (eqA xs ys) = 0 := by
  unfold eqA; rw [if_neg h]; decide
theorem eqA_comm (xs ys : List Int32) : nar .boolean (eqA xs ys) = nar .boolean (eqA ys xs) := by
  unfold eqA
  by_cases h : xs = ys
  · rw [if_pos h, if_pos h.symm]
  · rw [if_neg h, if_neg (fun q => h q.symm)]
theorem imA {xs ys : List Int32} (i j : Nat) (I J : Int32) {P C : Int32} (y1 y2 w1 w2 : Int32) (h1 : xs[i]? = some w1) (h2 : ys[i]? = some (va21 (va20 (if I = P then C else y1)))) (h3 : xs[j]? = some w2) (h4 : ys[j]? = some (va21 (va20 (if J = P then C else y2)))) (hij : ¬ I = J) (n1 : ¬ w1 = va21 (va20 y1)) (n2 : ¬ w2 = va21 (va20 y2)) : nar .boolean (eqA xs ys) = 0 := by
  apply eqA_no
  intro e
  rw [e, h2] at h1
  rw [e, h4] at h3
  have h1 := Option.some.inj h1
  have h3 := Option.some.inj h3
  by_cases q : I = P
  · rw [if_neg (fun r => hij (q.trans r.symm))] at h3; exact n2 h3.symm
  · rw [if_neg q] at h1; exact n1 h1.symm
theorem imB {xs ys : List Int32} (i j : Nat) (I J : Int32) {P C : Int32} (y1 y2 w1 w2 : Int32) (h1 : xs[i]? = some w1) (h2 : ys[i]? = some (va21 (va20 (if I = P then C else y1)))) (h3 : xs[j]? = some w2) (h4 : ys[j]? = some (va21 (va20 (if J = P then C else y2)))) (hij : ¬ I = J) (n1 : ¬ w1 = va21 (va20 y1)) (n2 : ¬ w2 = va21 (va20 y2)) : nar .boolean (eqA ys xs) = 0 :=
  (eqA_comm ys xs).trans (imA i j I J y1 y2 w1 w2 h1 h2 h3 h4 hij n1 n2)
theorem own_wS {a0 : Array Value} {Z : State} (hw : ∀ d ∈ tables_1, d.before a0 Z = true) : ∀ a ∈ Bundle.stringAtoms, a.before a0 Z = true := by
  have sub : ∀ a ∈ Bundle.stringAtoms, a ∈ tables_1 := by
    intro a ha
    simp only [Bundle.stringAtoms, Bundle.sN, List.mem_cons, List.not_mem_nil, or_false] at ha
    rcases ha with rfl | rfl | rfl | rfl | rfl | rfl | rfl <;> simp [tables_1]
  exact fun a ha => hw a (sub a ha)
theorem own_arr {s : State} {args : Array Value} {T : Term} {ty : FieldType} {a : Addr} {n : Int32} (hf : Fit s) (ev : T.eval args s none [] s = some (.ref a)) (hA : (Jvm.Cond.arrayOf T ty).value args s none s [] = some true) (hL : (Jvm.Cond.eq (.length T) (.int n)).value args s none s [] = some true) : ∃ cl, Arr s s.heap a cl ty ∧ cl.slots.size < 2 ^ 31 ∧ cl.slots.size.toInt32 = n := by
  obtain ⟨cl, A⟩ := Arr.start ev hA
  have hl := eqv_i (Term.int_eval n) hL
  have ha : s.arrayAt? a = some cl := A.fin (Vm.Alike.refl _)
  by_cases q : cl.slots.size < 2 ^ 31
  · have := (len_f ev ha q).symm.trans hl
    exact ⟨cl, A, q, by injection this with z; injection z⟩
  · simp [Term.eval, ev, ha, q] at hl
theorem own_eqr {s : State} {args : Array Value} {X F : Term} {b : Addr} (hF : F.eval args s none [] s = some (.ref b)) (h : (Jvm.Cond.eq X F).value args s none s [] = some true) : X.eval args s none [] s = some (.ref b) := by
  obtain ⟨x, y', e1, e2, k1, k2⟩ := cmp_v (Or.inl h)
  cases hF.symm.trans e2
  cases x <;> simp_all [Jvm.Cond.value]
theorem own_EW {a0 : Array Value} {Z : State} (hw : ∀ d ∈ tables_1, d.before a0 Z = true) : EW Z a0 consts_1 := (EW.cons (hw _ (List.mem_of_getElem? (i := 1) rfl)) (by decide +kernel) (EW.cons (hw _ (List.mem_of_getElem? (i := 110) rfl)) (by decide +kernel) (EW.cons (hw _ (List.mem_of_getElem? (i := 111) rfl)) (by decide +kernel) EW.nil)))
theorem own_backH {l : Launch} {R : Room} {p : Program} {e : Env} {below : List Frame} {s : State} {args : Array Value} {Z : State} {a0 : Array Value} {EL : List (String × Nat)} {h : Heap} {vm0 : Vm} {SX : List Addr} {y : MethodName} {bytes : ByteArray} {maxL : Nat} {ret : Option FieldType} {rm : Room} {len W : Nat} {as' : Array Value} {Q : Option Value → Heap → List Loc → Prop}
    (hM : MetFree l y (head1 [Jvm.Cond.code y bytes maxL ret] rm) (fun a U => a = as' ∧ Z.Warmed39 U.vm ∧ U.heap = h ∧ CHv Z EL U.vm h ∧ ∀ x ∈ SX, Safe Z EL U.vm h x) (fun _ _ _ _ _ => True) (fun _ U o U' => ∃ v L, o = .returned v ∧ Q v U'.heap L ∧ ReturnedEndW U o U' L rm.cells rm.slots))
    (hZ : Z.Warmed39 vm0) (wc : (Jvm.Cond.code y bytes maxL ret).before a0 Z = true) (wz : (Jvm.Cond.initialized y.cls).before a0 Z = true) (hf : rm.frames + 1 ≤ R.frames) (hl : W + (maxL + 11) + rm.locals ≤ R.locals) (hEL : EW Z a0 EL) (H : CHv Z EL vm0 h) (HS : ∀ x ∈ SX, x < h.size ∧ Safe Z EL vm0 h x) :
    BackS l R p e below (s.setVm vm0) args y len W (fun A a => a = as' ∧ A.U.heap = h ∧ A.cells + rm.cells ≤ R.cells ∧ A.slots + rm.slots ≤ R.slots)
      (fun A _ v B => ∃ L, Q v B.U.heap L ∧ B.locs = A.locs ++ L ∧ B.cells = A.cells + rm.cells ∧ B.slots = A.slots + rm.slots) :=
  BackS.of_freeW (bytes := bytes) (maxL := maxL) (ret := ret) (E := fun _ _ o t L k n => k = rm.cells ∧ n = rm.slots ∧ ∃ v, o = .returned v ∧ Q v t.heap L) hM hf hl
    (fun m meth c A a Y hp => have hU : Z.Warmed39 A.U.vm := wtrans (s := s.setVm vm0) hZ Y.warmed
      ⟨by show (Jvm.Cond.and _ .tt).before a A.U = true; rw [Cond.before_and, mv hU wc]; rfl, mv hU wc, mv hU wz, hp.2.2.1, hp.2.2.2⟩)
    (fun m meth c A a g mk Y hp => ⟨hp.1, wtrans (s := s.setVm vm0) hZ Y.warmed, hp.2.1, (CHv.at Y hZ hEL H).1, fun x hx => (CHv.at Y hZ hEL H).safe (HS x hx).1 (HS x hx).2⟩) (fun _ _ _ _ _ _ _ _ _ => trivial)
    (fun _ _ _ _ ⟨v, L, h1, h2, h3⟩ => ⟨L, _, _, h3, rfl, rfl, v, h1, h2⟩)
    (fun m meth c A a g mk v t L k n Y hp _ _ ⟨e1, e2, v', e3, e4⟩ => by cases e3; subst e1 e2; exact ⟨L, e4, rfl, rfl, rfl⟩)
abbrev ab1 (Z : State) (v : Value) : Prop := Sta Z Z.heap "java/lang/String" "COMPACT_STRINGS" "Z" v
abbrev ab2 (Z : State) (v : Value) : Prop := Sta Z Z.heap "jdk/internal/util/Preconditions" "SIOOBE_FORMATTER" "Ljava/util/function/BiFunction;" v
abbrev ab3 (Z : State) (v : Value) : Prop := Sta Z Z.heap "com/example/sinkwatch/sinkwatch/Flaw" "$VALUES" "[Lcom/example/sinkwatch/sinkwatch/Flaw;" v
abbrev ab4 (Z : State) (v : Value) : Prop := Sta Z Z.heap "com/example/sinkwatch/sinkwatch/Flaw" "PATH_TRAVERSAL" "Lcom/example/sinkwatch/sinkwatch/Flaw;" v
abbrev ab5 (Z : State) (v : Value) : Prop := Sta Z Z.heap "com/example/sinkwatch/sinkwatch/Flaw" "OPEN_REDIRECT" "Lcom/example/sinkwatch/sinkwatch/Flaw;" v
abbrev ab6 (Z : State) (v : Value) : Prop := Sta Z Z.heap "com/example/sinkwatch/sinkwatch/Flaw" "SQL_INJECTION" "Lcom/example/sinkwatch/sinkwatch/Flaw;" v
abbrev ab7 (Z : State) (h : Heap) (a : Addr) (v : Value) : Prop := Fld Z h a "java/lang/String" "coder" "B" v
abbrev ab8 (Z : State) (h : Heap) (a : Addr) (v : Value) : Prop := Fld Z h a "java/lang/String" "value" "[B" v
abbrev ab9 (Z : State) (h : Heap) (a : Addr) (v : Value) : Prop := Fld Z h a "com/example/sinkwatch/sinkwatch/Flaw" "word" "Ljava/lang/String;" v
abbrev ab10 (Z : State) (h : Heap) (a : Addr) : Prop := Exa Z h a "java/lang/String"
abbrev ab11 (Z : State) (h : Heap) (a : Addr) : Prop := Exa Z h a "[Lcom/example/sinkwatch/sinkwatch/Flaw;"
theorem rm6_1 (hw : OW Z a0) (a1 : Addr) (p2 : Int32) (Z0 : n0 ≤ h0.size) (P1 : ab1 Z (vi p2)) (P2 : Old Z n0 h0) (P3 : ¬ (p2 = (0 : Int32))) (P4 : ab7 Z h0 a1 (vi 0)) :
    M6 l Z ws (orm 0 0 0 0) #[vr a1] h0 (QI n0 h0 (vi 1)) := by
  refine own_enter (plainFor_of_name pn_0) (L0 := #[sr a1]) ?_
  intro p e s m below meth c s₁ hx hby hml hown hnm hret hZ X0 e0
  have N0 := Fr.nil n0
  obtain ⟨T3, X3, e3, st3⟩ := getS2 X0 hx hZ hown (host := "") (Or.inl (tw_20 hw)) Via.refl e0 (Sta.ext P2.2 P1) (g := (mkF m 0 #[sr a1] [])) rfl (hb hby d6_0)
  obtain ⟨T4, X4, e4, st4⟩ := getF X3 hx hZ hown (host := "") (Or.inl (tw_21 hw)) Via.refl e3 P4 (g := (mkF m 7 #[sr a1] [vr a1])) rfl rfl (hb hby d6_7)
  refine ⟨T4, _, _, _, _, some (vi 1), X4, e4, by decide, by decide, nofun, ⟨rfl, N0, rfl⟩, fun fs hr => ?_⟩
  show OS p e below s₁ m 0 #[sr a1] [] _
  refine st3 _ ?_
  refine own_b X3 hx hby tb6 2 [false] 7 _ [vr a1] (ai (feq P3).1 rfl) ?_
  refine st4 _ ?_
  refine own_b X4 hx hby tb6 3 [false] 18 _ [vi 1] (ai (by decide) rfl) ?_
  exact retN X4 hx (t := .boolean) hret (by simp) (hb hby d6_18) hr
theorem c_cc (x : Int32) : nar .char (nar .char x) = nar .char x := by
  have a := (show ((nar .char x).toInt - x.toInt) % 65536 = 0 ∧ 0 ≤ (nar .char x).toInt ∧ (nar .char x).toInt < 65536 from c_i2c _)
  have b := (show ((nar .char (nar .char x)).toInt - (nar .char x).toInt) % 65536 = 0 ∧ 0 ≤ (nar .char (nar .char x)).toInt ∧ (nar .char (nar .char x)).toInt < 65536 from c_i2c _)
  exact Int32.toInt_inj.mp (by omega)
theorem own_ci9 (hw : OW Z a0) (i z : Int32) (a1 : Value) (Z0 : n0 ≤ h0.size) (P1 : a1.isRef = true) (hj : ¬ i < 0 ∧ i < z) :
    M9 l Z ws (orm 0 0 0 0) #[vi i, vi z, a1] h0 (QI n0 h0 (vi i)) := by
  refine own_enter (plainFor_of_name pn_1) (L0 := #[si i, si z, .val a1]) (hef := fun m => by rcases ref_cases P1 with h0 | ⟨_, h0⟩ <;> simp only [h0] <;> first | rfl | (simp [entryFrame, mkF, argsToLocals, Value.category]; done)) ?_
  intro p e s m below meth c s₁ hx hby hml hown hnm hret hZ X0 e0
  have N0 := Fr.nil n0
  refine ⟨s₁, _, _, _, _, some (vi i), X0, e0, by decide, by decide, nofun, ⟨rfl, N0, rfl⟩, fun fs hr => ?_⟩
  refine own_b X0 hx hby tb9 6 [false, true] 17 _ [vi i] (ai (flt hj.1).1 (ai (tlt hj.2).1 rfl)) ?_
  exact retI X0 hx hret (hb hby d9_17) hr
theorem own_ci8 (hw : OW Z a0) (i z : Int32) (a1 : Value) (Z0 : n0 ≤ h0.size) (P1 : ab2 Z a1) (P2 : Old Z n0 h0) (P3 : a1.isRef = true) (hj : ¬ i < 0 ∧ i < z) :
    M8 l Z ws (orm 1 0 0 14) #[vi i, vi z] h0 (fun v h L => v = none ∧ Fr n0 L ∧ h = h0) := by
  refine own_enter (plainFor_of_name pn_0) (L0 := #[si i, si z]) ?_
  intro p e s m below meth c s₁ hx hby hml hown hnm hret hZ X0 e0
  have N0 := Fr.nil n0
  obtain ⟨T2, X2, e2, st2⟩ := getS2 X0 hx hZ hown (host := "") (Or.inl (tw_47 hw)) Via.refl e0 (Sta.ext P2.2 P1) (g := (mkF m 2 #[si i, si z] [vi z, vi i])) rfl (hb hby d8_2)
  obtain ⟨T3, L3, _, X3, ⟨rfl, N3q, e3q⟩, st3⟩ := own_callS X2 hx hZ hown (cw_0 hw) (own_ci9 hw i z a1 Z0 P3 hj) e2 (Ls := #[si i, si z]) hml [vi i, vi z, a1] [] pd_3 0 (hb hby d8_5)
  have N3 := Fr.app N0 N3q
  refine ⟨T3, _, _, _, _, none, X3, e3q, by decide, by decide, (fun _ => rfl), ⟨rfl, N3, rfl⟩, fun fs hr => ?_⟩
  refine own_b X0 hx hby tb8 2 [] 2 _ [vi z, vi i] rfl ?_
  refine st2 _ ?_
  refine st3 _ ?_
  refine own_b X3 hx hby tb8 1 [] 9 _ [] rfl ?_
  exact X3.returnOut hx hret (hb hby d8_9) hr
theorem own_ch7 (hw : OW Z a0) (a1 : Addr) (w2 : ClassId) (i y x : Int32) (a3 : Value) {z : Int32} {vs : List Value} {d : Value} (Z0 : n0 ≤ h0.size) (P1 : Arv Z h0 a1 w2 .byte z vs d) (P2 : ab2 Z a3) (P3 : Old Z n0 h0) (P4 : a3.isRef = true) (hj : ¬ i < 0 ∧ i < z) (hv : vs.getD i.toNatClampNeg d = vi y) (hq : nar .char ((y &&& (255 : Int32)).toUInt32.toUInt16.toUInt32.toInt32) = x) :
    M7 l Z ws (orm 2 0 0 27) #[vr a1, vi i] h0 (QI n0 h0 (vi x)) := by
  subst hq
  refine own_enter (plainFor_of_name pn_2) (L0 := #[sr a1, si i]) ?_
  intro p e s m below meth c s₁ hx hby hml hown hnm hret hZ X0 e0
  have N0 := Fr.nil n0
  obtain ⟨T4, L4, _, X4, ⟨rfl, N4q, e4q⟩, st4⟩ := own_callS X0 hx hZ hown (cw_1 hw) (own_ci8 hw i z a3 Z0 P2 P3 P4 hj) e0 (Ls := #[sr a1, si i]) hml [vi i, vi z] [] pd_4 0 (hb hby d7_3)
  have N4 := Fr.app N0 N4q
  refine ⟨T4, _, _, _, _, some _, X4, e4q, by decide, by decide, nofun, ⟨rfl, N4, rfl⟩, fun fs hr => ?_⟩
  refine own_b X0 hx hby tb7 2 [] 2 _ [vr a1, vi i] rfl ?_
  refine own_alen X0 hx hZ e0 P1 (hb hby d7_2) _ ?_
  refine st4 _ ?_
  refine own_b X4 hx hby tb7 2 [] 8 _ [vi i, vr a1] rfl ?_
  refine own_baload X4 hx hZ e4q P1 hj hv (hb hby d7_8) _ ?_
  refine own_b X4 hx hby tb7 3 [] 14 _ [vi ((y &&& (255 : Int32)).toUInt32.toUInt16.toUInt32.toInt32)] rfl ?_
  exact retN X4 hx (t := .char) hret (by simp) (hb hby d7_14) hr
theorem own_ch5 (hw : OW Z a0) (a1 a4 : Addr) (w6 : ClassId) (i y x p2 : Int32) (a7 : Value) {z : Int32} {vs : List Value} {d : Value} (Z0 : n0 ≤ h0.size) (P1 : ab10 Z h0 a1) (P2 : ab1 Z (vi p2)) (P3 : Old Z n0 h0) (P4 : ¬ (p2 = (0 : Int32))) (P5 : ab7 Z h0 a1 (vi 0)) (P6 : ab8 Z h0 a1 (vr a4)) (P7 : Arv Z h0 a4 w6 .byte z vs d) (P8 : ab2 Z a7) (P9 : a7.isRef = true) (hj : ¬ i < 0 ∧ i < z := by decide) (hv : vs.getD i.toNatClampNeg d = vi y := by rfl) (hq : nar .char ((y &&& (255 : Int32)).toUInt32.toUInt16.toUInt32.toInt32) = x := by decide) :
    M5 l Z ws (orm 3 0 0 40) #[vr a1, vi i] h0 (QI n0 h0 (vi x)) := by
  refine own_enter (plainFor_of_name pn_0) (L0 := #[sr a1, si i]) ?_
  intro p e s m below meth c s₁ hx hby hml hown hnm hret hZ X0 e0
  have N0 := Fr.nil n0
  obtain ⟨T3, L3, _, X3, ⟨rfl, N3q, e3q⟩, st3⟩ := own_callV X0 hx hZ hown (tw_35 hw) (tw_36 hw) (notFace_of_selects (args := #[]) (mvT hZ (tw_38 hw))) (tw_38 hw) (tw_37 hw) (tw_2 hw) (tw_39 hw) (rm6_1 hw a1 p2 Z0 P2 P3 P4 P5) e0 P1 (Ls := #[sr a1, si i]) hml [] [] pd_2 0 (hb hby d5_1)
  have N3 := Fr.app N0 N3q
  obtain ⟨T5, X5, e5, st5⟩ := getF X3 hx hZ hown (host := "") (Or.inl (tw_14 hw)) Via.refl e3q P6 (g := (mkF m 8 #[sr a1, si i] [vr a1])) rfl rfl (hb hby d5_8)
  obtain ⟨T8, L8, _, X8, ⟨rfl, N8q, e8q⟩, st8⟩ := own_callS X5 hx hZ hown (cw_2 hw) (own_ch7 hw a4 w6 i y x a7 Z0 P7 P8 P3 P9 hj hv hq) e5 (Ls := #[sr a1, si i]) hml [vr a4, vi i] [] pd_5 0 (hb hby d5_12)
  have N8 := Fr.app N3 N8q
  refine ⟨T8, _, _, _, _, some (vi (nar .char x)), X8, e8q, by decide, by decide, nofun, ⟨?_, N8, rfl⟩, fun fs hr => ?_⟩
  · rw [← hq]; exact congrArg (fun q => some (vi q)) (c_cc _)
  refine own_b X0 hx hby tb5 1 [] 1 _ [vr a1] rfl ?_
  refine st3 _ ?_
  refine own_b X3 hx hby tb5 2 [false] 8 _ [vr a1] (ai (by decide) rfl) ?_
  refine st5 _ ?_
  refine own_b X5 hx hby tb5 1 [] 12 _ [vi i, vr a4] rfl ?_
  refine st8 _ ?_
  exact retN X8 hx (t := .char) hret (by simp) (hb hby d5_15) hr
theorem rm2_1 (hw : OW Z a0) (a1 : Addr) (p2 : Int32) (Z0 : n0 ≤ h0.size) (P1 : ab1 Z (vi p2)) (P2 : Old Z n0 h0) (P3 : ¬ (p2 = (0 : Int32))) (P4 : ab7 Z h0 a1 (vi 0)) :
    M2 l Z ws (orm 0 0 0 0) #[vr a1] h0 (QI n0 h0 (vi 0)) := by
  refine own_enter (plainFor_of_name pn_0) (L0 := #[sr a1]) ?_
  intro p e s m below meth c s₁ hx hby hml hown hnm hret hZ X0 e0
  have N0 := Fr.nil n0
  obtain ⟨T3, X3, e3, st3⟩ := getS2 X0 hx hZ hown (host := "") (Or.inl (tw_20 hw)) Via.refl e0 (Sta.ext P2.2 P1) (g := (mkF m 0 #[sr a1] [])) rfl (hb hby d2_0)
  obtain ⟨T4, X4, e4, st4⟩ := getF X3 hx hZ hown (host := "") (Or.inl (tw_21 hw)) Via.refl e3 P4 (g := (mkF m 7 #[sr a1] [vr a1])) rfl rfl (hb hby d2_7)
  refine ⟨T4, _, _, _, _, some (vi 0), X4, e4, by decide, by decide, nofun, ⟨rfl, N0, rfl⟩, fun fs hr => ?_⟩
  show OS p e below s₁ m 0 #[sr a1] [] _
  refine st3 _ ?_
  refine own_b X3 hx hby tb2 2 [false] 7 _ [vr a1] (ai (feq P3).1 rfl) ?_
  refine st4 _ ?_
  refine own_b X4 hx hby tb2 1 [] 14 _ [vi 0] rfl ?_
  exact retN X4 hx (t := .byte) hret (by simp) (hb hby d2_14) hr
def CV (z : Int32) (vs : List Value) (d : Value) (i p c x : Int32) : Prop := (i = p ∧ nar .char c = x) ∨ (¬ i = p ∧ (¬ i < 0 ∧ i < z) ∧ ∃ y, vs.getD i.toNatClampNeg d = vi y ∧ nar .char ((y &&& (255 : Int32)).toUInt32.toUInt16.toUInt32.toInt32) = x) ∨ (¬ i = p ∧ ¬ i < z ∧ nar .char c = x)
theorem CVi {z : Int32} {vs : List Value} {d : Value} {i p c x : Int32} (y : Int32) (hj : ¬ i < 0 ∧ i < z := by decide) (hv : vs.getD i.toNatClampNeg d = vi y := by rfl) (hq : nar .char ((y &&& (255 : Int32)).toUInt32.toUInt16.toUInt32.toInt32) = y := by decide) (hx : (if i = p then nar .char c else y) = x := by rfl) : CV z vs d i p c x := by
  by_cases h : i = p
  · rw [if_pos h] at hx; exact Or.inl ⟨h, hx⟩
  · rw [if_neg h] at hx; exact Or.inr (Or.inl ⟨h, hj, y, hv, hq.trans hx⟩)
theorem CVo {z : Int32} {vs : List Value} {d : Value} {i p c x : Int32} (hj : ¬ i < z := by decide) (hx : nar .char c = x := by rfl) : CV z vs d i p c x := by
  by_cases h : i = p
  · exact Or.inl ⟨h, hx⟩
  · exact Or.inr (Or.inr ⟨h, hj, hx⟩)
theorem shr0 (z : Int32) : z >>> ((0 : Int32) &&& 31) = z := by
  rw [show ((0 : Int32) &&& 31) = 0 by decide]; simp
theorem own_len (hw : OW Z a0) (a1 a2 : Addr) (w4 : ClassId) (p5 : Int32) {z : Int32} {vs : List Value} {d : Value} (Z0 : n0 ≤ h0.size) (P1 : ab8 Z h0 a1 (vr a2)) (P2 : Arv Z h0 a2 w4 .byte z vs d) (P3 : ab10 Z h0 a1) (P4 : ab1 Z (vi p5)) (P5 : Old Z n0 h0) (P6 : ¬ (p5 = (0 : Int32))) (P7 : ab7 Z h0 a1 (vi 0)) :
    M1 l Z ws (orm 1 0 0 13) #[vr a1] h0 (QI n0 h0 (vi z)) := by
  refine own_enter (plainFor_of_name pn_0) (L0 := #[sr a1]) ?_
  intro p e s m below meth c s₁ hx hby hml hown hnm hret hZ X0 e0
  have N0 := Fr.nil n0
  obtain ⟨T3, X3, e3, st3⟩ := getF X0 hx hZ hown (host := "") (Or.inl (tw_14 hw)) Via.refl e0 P1 (g := (mkF m 1 #[sr a1] [vr a1])) rfl rfl (hb hby d1_1)
  obtain ⟨T6, L6, _, X6, ⟨rfl, N6q, e6q⟩, st6⟩ := own_callV X3 hx hZ hown (tw_15 hw) (tw_16 hw) (notFace_of_selects (args := #[]) (mvT hZ (tw_18 hw))) (tw_18 hw) (tw_17 hw) (tw_2 hw) (tw_19 hw) (rm2_1 hw a1 p5 Z0 P4 P5 P6 P7) e3 P3 (Ls := #[sr a1]) hml [] [vi z] pd_0 1 (hb hby d1_6)
  have N6 := Fr.app N0 N6q
  refine ⟨T6, _, _, _, _, some (vi (z >>> ((0 : Int32) &&& 31))), X6, e6q, by decide, by decide, nofun, ⟨?_, N6, rfl⟩, fun fs hr => ?_⟩
  · rw [shr0]
  refine own_b X0 hx hby tb1 1 [] 1 _ [vr a1] rfl ?_
  refine st3 _ ?_
  refine own_alen X3 hx hZ e3 P2 (hb hby d1_4) _ ?_
  refine own_b X3 hx hby tb1 1 [] 6 _ [vr a1, vi z] rfl ?_
  refine st6 _ ?_
  refine own_b X6 hx hby tb1 1 [] 10 _ [vi (z >>> ((0 : Int32) &&& 31))] rfl ?_
  exact retI X6 hx hret (hb hby d1_10) hr
theorem own_cell1 (hw : OW Z a0) (a1 : Addr) (i p2 p3 : Int32) (Z0 : n0 ≤ h0.size) (H1 : i = p2) :
    M4 l Z ws (orm 4 0 0 53) #[vr a1, vi i, vi p2, vi p3] h0 (QI n0 h0 (vi (nar .char p3))) := by
  refine own_enter (plainFor_of_name pn_3) (L0 := #[sr a1, si i, si p2, si p3]) ?_
  intro p e s m below meth c s₁ hx hby hml hown hnm hret hZ X0 e0
  have N0 := Fr.nil n0
  refine ⟨s₁, _, _, _, _, some (vi (nar .char p3)), X0, e0, by decide, by decide, nofun, ⟨rfl, N0, rfl⟩, fun fs hr => ?_⟩
  refine own_b X0 hx hby tb4 4 [false] 6 _ [vi p3] (ai (teq H1).2 rfl) ?_
  exact retN X0 hx (t := .char) hret (by simp) (hb hby d4_6) hr
theorem own_cell2 (hw : OW Z a0) (a1 : Addr) (i p2 p3 x : Int32) (a4 : Addr) (w5 : ClassId) (p6 : Int32) (a8 : Value) (y : Int32) {z : Int32} {vs : List Value} {d : Value} (Z0 : n0 ≤ h0.size) (P1 : ab10 Z h0 a1) (P2 : ab8 Z h0 a1 (vr a4)) (P3 : Arv Z h0 a4 w5 .byte z vs d) (P4 : ab1 Z (vi p6)) (P5 : Old Z n0 h0) (P6 : ¬ (p6 = (0 : Int32))) (P7 : ab7 Z h0 a1 (vi 0)) (P8 : ab2 Z a8) (P9 : a8.isRef = true) (H1 : ¬ i = p2) (hj : ¬ i < 0 ∧ i < z) (hv : vs.getD i.toNatClampNeg d = vi y) (hq : nar .char ((y &&& (255 : Int32)).toUInt32.toUInt16.toUInt32.toInt32) = x) :
    M4 l Z ws (orm 4 0 0 53) #[vr a1, vi i, vi p2, vi p3] h0 (QI n0 h0 (vi x)) := by
  refine own_enter (plainFor_of_name pn_3) (L0 := #[sr a1, si i, si p2, si p3]) ?_
  intro p e s m below meth c s₁ hx hby hml hown hnm hret hZ X0 e0
  have N0 := Fr.nil n0
  obtain ⟨T7, L7, _, X7, ⟨rfl, N7q, e7q⟩, st7⟩ := own_callV X0 hx hZ hown (tw_9 hw) (tw_10 hw) (notFace_of_selects (args := #[]) (mvT hZ (tw_12 hw))) (tw_12 hw) (tw_11 hw) (tw_2 hw) (tw_13 hw) (own_len hw a1 a4 w5 p6 Z0 P2 P3 P1 P4 P5 P6 P7) e0 P1 (Ls := #[sr a1, si i, si p2, si p3]) hml [] [vi i] pd_1 1 (hb hby d4_9)
  have N7 := Fr.app N0 N7q
  obtain ⟨T9, L9, _, X9, ⟨rfl, N9q, e9q⟩, st9⟩ := own_callV X7 hx hZ hown (tw_30 hw) (tw_31 hw) (notFace_of_selects (args := #[]) (mvT hZ (tw_33 hw))) (tw_33 hw) (tw_32 hw) (tw_2 hw) (tw_34 hw) (own_ch5 hw a1 a4 w5 i y x p6 a8 Z0 P1 P4 P5 P6 P7 P2 P3 P8 P9 hj hv hq) e7q P1 (Ls := #[sr a1, si i, si p2, si p3]) hml [vi i] [] pd_6 0 (hb hby d4_17)
  have N9 := Fr.app N7 N9q
  refine ⟨T9, _, _, _, _, some (vi (nar .char x)), X9, e9q, by decide, by decide, nofun, ⟨?_, N9, rfl⟩, fun fs hr => ?_⟩
  · rw [← hq]; exact congrArg (fun q => some (vi q)) (c_cc _)
  refine own_b X0 hx hby tb4 5 [true] 9 _ [vr a1, vi i] (ai (feq H1).2 rfl) ?_
  refine st7 _ ?_
  refine own_b X7 hx hby tb4 3 [false] 17 _ [vi i, vr a1] (ai (tlt hj.2).2.1 rfl) ?_
  refine st9 _ ?_
  exact retN X9 hx (t := .char) hret (by simp) (hb hby d4_20) hr
theorem own_cell3 (hw : OW Z a0) (a1 : Addr) (i p2 p3 : Int32) (a4 : Addr) (w5 : ClassId) (p6 : Int32) {z : Int32} {vs : List Value} {d : Value} (Z0 : n0 ≤ h0.size) (P1 : ab10 Z h0 a1) (P2 : ab8 Z h0 a1 (vr a4)) (P3 : Arv Z h0 a4 w5 .byte z vs d) (P4 : ab1 Z (vi p6)) (P5 : Old Z n0 h0) (P6 : ¬ (p6 = (0 : Int32))) (P7 : ab7 Z h0 a1 (vi 0)) (H1 : ¬ i = p2) (hj : ¬ i < z) :
    M4 l Z ws (orm 4 0 0 53) #[vr a1, vi i, vi p2, vi p3] h0 (QI n0 h0 (vi (nar .char p3))) := by
  refine own_enter (plainFor_of_name pn_3) (L0 := #[sr a1, si i, si p2, si p3]) ?_
  intro p e s m below meth c s₁ hx hby hml hown hnm hret hZ X0 e0
  have N0 := Fr.nil n0
  obtain ⟨T7, L7, _, X7, ⟨rfl, N7q, e7q⟩, st7⟩ := own_callV X0 hx hZ hown (tw_9 hw) (tw_10 hw) (notFace_of_selects (args := #[]) (mvT hZ (tw_12 hw))) (tw_12 hw) (tw_11 hw) (tw_2 hw) (tw_13 hw) (own_len hw a1 a4 w5 p6 Z0 P2 P3 P1 P4 P5 P6 P7) e0 P1 (Ls := #[sr a1, si i, si p2, si p3]) hml [] [vi i] pd_1 1 (hb hby d4_9)
  have N7 := Fr.app N0 N7q
  refine ⟨T7, _, _, _, _, some (vi (nar .char p3)), X7, e7q, by decide, by decide, nofun, ⟨rfl, N7, rfl⟩, fun fs hr => ?_⟩
  refine own_b X0 hx hby tb4 5 [true] 9 _ [vr a1, vi i] (ai (feq H1).2 rfl) ?_
  refine st7 _ ?_
  refine own_b X7 hx hby tb4 2 [true] 22 _ [vi p3] (ai (flt hj).2.1 rfl) ?_
  exact retN X7 hx (t := .char) hret (by simp) (hb hby d4_22) hr
theorem own_cell (hw : OW Z a0) (a1 : Addr) (i p2 p3 x : Int32) (a4 : Addr) (w5 : ClassId) (p6 : Int32) (a8 : Value) {z : Int32} {vs : List Value} {d : Value} (Z0 : n0 ≤ h0.size) (P1 : ab10 Z h0 a1) (P2 : ab8 Z h0 a1 (vr a4)) (P3 : Arv Z h0 a4 w5 .byte z vs d) (P4 : ab1 Z (vi p6)) (P5 : Old Z n0 h0) (P6 : ¬ (p6 = (0 : Int32))) (P7 : ab7 Z h0 a1 (vi 0)) (P8 : ab2 Z a8) (P9 : a8.isRef = true) (hc : CV z vs d i p2 p3 x) :
    M4 l Z ws (orm 4 0 0 53) #[vr a1, vi i, vi p2, vi p3] h0 (QI n0 h0 (vi x)) := by
  rcases hc with ⟨H1, q⟩ | ⟨H1, hj, y, hv, hq⟩ | ⟨H1, hj, q⟩
  · rw [← q]; exact own_cell1 hw a1 i p2 p3 Z0 H1
  · exact own_cell2 hw a1 i p2 p3 x a4 w5 p6 a8 y Z0 P1 P2 P3 P4 P5 P6 P7 P8 P9 H1 hj hv hq
  · rw [← q]; exact own_cell3 hw a1 i p2 p3 a4 w5 p6 Z0 P1 P2 P3 P4 P5 P6 P7 H1 hj
theorem rm1_1 (hw : OW Z a0) (a1 a2 : Addr) (w4 : ClassId) (p5 : Int32) (Z0 : n0 ≤ h0.size) (P1 : ab8 Z h0 a1 (vr a2)) (P2 : Arv Z h0 a2 w4 .byte (14 : Int32) bl1 (vi 0)) (P3 : ab10 Z h0 a1) (P4 : ab1 Z (vi p5)) (P5 : Old Z n0 h0) (P6 : ¬ (p5 = (0 : Int32))) (P7 : ab7 Z h0 a1 (vi 0)) :
    M1 l Z ws (orm 1 0 0 13) #[vr a1] h0 (QI n0 h0 (vi 14)) := by
  refine own_enter (plainFor_of_name pn_0) (L0 := #[sr a1]) ?_
  intro p e s m below meth c s₁ hx hby hml hown hnm hret hZ X0 e0
  have N0 := Fr.nil n0
  obtain ⟨T3, X3, e3, st3⟩ := getF X0 hx hZ hown (host := "") (Or.inl (tw_14 hw)) Via.refl e0 P1 (g := (mkF m 1 #[sr a1] [vr a1])) rfl rfl (hb hby d1_1)
  obtain ⟨T6, L6, _, X6, ⟨rfl, N6q, e6q⟩, st6⟩ := own_callV X3 hx hZ hown (tw_15 hw) (tw_16 hw) (notFace_of_selects (args := #[]) (mvT hZ (tw_18 hw))) (tw_18 hw) (tw_17 hw) (tw_2 hw) (tw_19 hw) (rm2_1 hw a1 p5 Z0 P4 P5 P6 P7) e3 P3 (Ls := #[sr a1]) hml [] [vi 14] pd_0 1 (hb hby d1_6)
  have N6 := Fr.app N0 N6q
  refine ⟨T6, _, _, _, _, some (vi 14), X6, e6q, by decide, by decide, nofun, ⟨rfl, N6, rfl⟩, fun fs hr => ?_⟩
  refine own_b X0 hx hby tb1 1 [] 1 _ [vr a1] rfl ?_
  refine st3 _ ?_
  refine own_a X3 hx hZ e3 hby tb1 (aec P2 aen) 2 [] [0] 6 _ [vr a1, vi 14] (ai rfl rfl) ?_
  refine st6 _ ?_
  refine own_b X6 hx hby tb1 1 [] 10 _ [vi 14] rfl ?_
  exact retI X6 hx hret (hb hby d1_10) hr
theorem rm14_1 (hw : OW Z a0) (a1 a2 : Addr) (w3 : ClassId) (p4 p5 p6 p7 p8 p9 p10 p11 p12 p13 p14 p15 p16 : Int32) (w17 : ClassId) (Z0 : n0 ≤ h0.size) (P1 : Arv Z h0 a1 w3 .char (13 : Int32) [vi p4, vi p5, vi p6, vi p7, vi p8, vi p9, vi p10, vi p11, vi p12, vi p13, vi p14, vi p15, vi p16] (vi 0)) (P2 : ¬ ((255 : Int32) < p4)) (P3 : Arv Z h0 a2 w17 .byte (13 : Int32) bl2 (vi 0)) (P4 : n0 ≤ a2) (P5 : a1 ≠ a2) (P6 : ¬ ((255 : Int32) < p5)) (P7 : ¬ ((255 : Int32) < p6)) (P8 : ¬ ((255 : Int32) < p7)) (P9 : ¬ ((255 : Int32) < p8)) (P10 : ¬ ((255 : Int32) < p9)) (P11 : ¬ ((255 : Int32) < p10)) (P12 : ¬ ((255 : Int32) < p11)) (P13 : ¬ ((255 : Int32) < p12)) (P14 : ¬ ((255 : Int32) < p13)) (P15 : ¬ ((255 : Int32) < p14)) (P16 : ¬ ((255 : Int32) < p15)) (P17 : ¬ ((255 : Int32) < p16)) :
    M14 l Z ws (orm 0 0 0 0) #[vr a1, vi 0, vr a2, vi 0, vi 13] h0 (fun v h L => v = some (vi 13) ∧ Fr n0 L ∧ Keep h0 h [a2] ∧ Arv Z h a2 w17 .byte (13 : Int32) [vi (va21 p4), vi (va21 p5), vi (va21 p6), vi (va21 p7), vi (va21 p8), vi (va21 p9), vi (va21 p10), vi (va21 p11), vi (va21 p12), vi (va21 p13), vi (va21 p14), vi (va21 p15), vi (va21 p16)] (vi 0)) := by
  refine own_enter (plainFor_of_name pn_4) (L0 := (L_ririiuu a1 0 a2 0 13)) ?_
  intro p e s m below meth c s₁ hx hby hml hown hnm hret hZ X0 e0
  have N0 := Fr.nil n0
  obtain ⟨T18, h18, X18, e18, W18, V18, st18⟩ := own_stB X0 hx hZ e0 P3 (j := (0 : Int32)) (x := (p4.toInt8.toInt32)) 0 (Ls := (L_ririiii a1 0 a2 0 13 0 p4)) (rest := []) (hb hby d14_31)
  have N18 := Fr.snoc X18 N0 P4
  have F19 := (Arv.other P1 W18 P5)
  obtain ⟨T20, h20, X20, e20, W20, V20, st20⟩ := own_stB X18 hx hZ e18 V18 (j := (1 : Int32)) (x := (p5.toInt8.toInt32)) 1 (Ls := (L_ririiii a1 1 a2 1 13 1 p5)) (rest := []) (hb hby d14_31)
  have N20 := Fr.snoc X20 N18 P4
  have F21 := (Arv.other F19 W20 P5)
  obtain ⟨T22, h22, X22, e22, W22, V22, st22⟩ := own_stB X20 hx hZ e20 V20 (j := (2 : Int32)) (x := (p6.toInt8.toInt32)) 2 (Ls := (L_ririiii a1 2 a2 2 13 2 p6)) (rest := []) (hb hby d14_31)
  have N22 := Fr.snoc X22 N20 P4
  have F23 := (Arv.other F21 W22 P5)
  obtain ⟨T24, h24, X24, e24, W24, V24, st24⟩ := own_stB X22 hx hZ e22 V22 (j := (3 : Int32)) (x := (p7.toInt8.toInt32)) 3 (Ls := (L_ririiii a1 3 a2 3 13 3 p7)) (rest := []) (hb hby d14_31)
  have N24 := Fr.snoc X24 N22 P4
  have F25 := (Arv.other F23 W24 P5)
  obtain ⟨T26, h26, X26, e26, W26, V26, st26⟩ := own_stB X24 hx hZ e24 V24 (j := (4 : Int32)) (x := (p8.toInt8.toInt32)) 4 (Ls := (L_ririiii a1 4 a2 4 13 4 p8)) (rest := []) (hb hby d14_31)
  have N26 := Fr.snoc X26 N24 P4
  have F27 := (Arv.other F25 W26 P5)
  obtain ⟨T28, h28, X28, e28, W28, V28, st28⟩ := own_stB X26 hx hZ e26 V26 (j := (5 : Int32)) (x := (p9.toInt8.toInt32)) 5 (Ls := (L_ririiii a1 5 a2 5 13 5 p9)) (rest := []) (hb hby d14_31)
  have N28 := Fr.snoc X28 N26 P4
  have F29 := (Arv.other F27 W28 P5)
  obtain ⟨T30, h30, X30, e30, W30, V30, st30⟩ := own_stB X28 hx hZ e28 V28 (j := (6 : Int32)) (x := (p10.toInt8.toInt32)) 6 (Ls := (L_ririiii a1 6 a2 6 13 6 p10)) (rest := []) (hb hby d14_31)
  have N30 := Fr.snoc X30 N28 P4
  have F31 := (Arv.other F29 W30 P5)
  obtain ⟨T32, h32, X32, e32, W32, V32, st32⟩ := own_stB X30 hx hZ e30 V30 (j := (7 : Int32)) (x := (p11.toInt8.toInt32)) 7 (Ls := (L_ririiii a1 7 a2 7 13 7 p11)) (rest := []) (hb hby d14_31)
  have N32 := Fr.snoc X32 N30 P4
  have F33 := (Arv.other F31 W32 P5)
  obtain ⟨T34, h34, X34, e34, W34, V34, st34⟩ := own_stB X32 hx hZ e32 V32 (j := (8 : Int32)) (x := (p12.toInt8.toInt32)) 8 (Ls := (L_ririiii a1 8 a2 8 13 8 p12)) (rest := []) (hb hby d14_31)
  have N34 := Fr.snoc X34 N32 P4
  have F35 := (Arv.other F33 W34 P5)
  obtain ⟨T36, h36, X36, e36, W36, V36, st36⟩ := own_stB X34 hx hZ e34 V34 (j := (9 : Int32)) (x := (p13.toInt8.toInt32)) 9 (Ls := (L_ririiii a1 9 a2 9 13 9 p13)) (rest := []) (hb hby d14_31)
  have N36 := Fr.snoc X36 N34 P4
  have F37 := (Arv.other F35 W36 P5)
  obtain ⟨T38, h38, X38, e38, W38, V38, st38⟩ := own_stB X36 hx hZ e36 V36 (j := (10 : Int32)) (x := (p14.toInt8.toInt32)) 10 (Ls := (L_ririiii a1 10 a2 10 13 10 p14)) (rest := []) (hb hby d14_31)
  have N38 := Fr.snoc X38 N36 P4
  have F39 := (Arv.other F37 W38 P5)
  obtain ⟨T40, h40, X40, e40, W40, V40, st40⟩ := own_stB X38 hx hZ e38 V38 (j := (11 : Int32)) (x := (p15.toInt8.toInt32)) 11 (Ls := (L_ririiii a1 11 a2 11 13 11 p15)) (rest := []) (hb hby d14_31)
  have N40 := Fr.snoc X40 N38 P4
  have F41 := (Arv.other F39 W40 P5)
  obtain ⟨T42, h42, X42, e42, W42, V42, st42⟩ := own_stB X40 hx hZ e40 V40 (j := (12 : Int32)) (x := (p16.toInt8.toInt32)) 12 (Ls := (L_ririiii a1 12 a2 12 13 12 p16)) (rest := []) (hb hby d14_31)
  have N42 := Fr.snoc X42 N40 P4
  have K43 := (Keep.refl h0 [a2]).wr W18 (Or.inl (List.mem_of_getElem? (i := 0) rfl))
  have K44 := K43.wr W20 (Or.inl (List.mem_of_getElem? (i := 0) rfl))
  have K45 := K44.wr W22 (Or.inl (List.mem_of_getElem? (i := 0) rfl))
  have K46 := K45.wr W24 (Or.inl (List.mem_of_getElem? (i := 0) rfl))
  have K47 := K46.wr W26 (Or.inl (List.mem_of_getElem? (i := 0) rfl))
  have K48 := K47.wr W28 (Or.inl (List.mem_of_getElem? (i := 0) rfl))
  have K49 := K48.wr W30 (Or.inl (List.mem_of_getElem? (i := 0) rfl))
  have K50 := K49.wr W32 (Or.inl (List.mem_of_getElem? (i := 0) rfl))
  have K51 := K50.wr W34 (Or.inl (List.mem_of_getElem? (i := 0) rfl))
  have K52 := K51.wr W36 (Or.inl (List.mem_of_getElem? (i := 0) rfl))
  have K53 := K52.wr W38 (Or.inl (List.mem_of_getElem? (i := 0) rfl))
  have K54 := K53.wr W40 (Or.inl (List.mem_of_getElem? (i := 0) rfl))
  have K55 := K54.wr W42 (Or.inl (List.mem_of_getElem? (i := 0) rfl))
  refine ⟨T42, _, _, _, _, some (vi 13), X42, e42, by decide, by decide, nofun, ⟨rfl, N42, K55, V42⟩, fun fs hr => ?_⟩
  refine own_a X0 hx hZ e0 hby tb14 (aec P1 aen) 16 [false, true] [0] 31 (L_ririiii a1 0 a2 0 13 0 p4) [vi (p4.toInt8.toInt32), vi 0, vr a2] (ai (by decide) (ai rfl (ai (flt P2).2.2.2 rfl))) ?_
  refine st18 _ ?_
  refine own_a X18 hx hZ e18 hby tb14 (aec F19 aen) 18 [false, true] [0] 31 (L_ririiii a1 1 a2 1 13 1 p5) [vi (p5.toInt8.toInt32), vi 1, vr a2] (ai (by decide) (ai rfl (ai (flt P6).2.2.2 rfl))) ?_
  refine st20 _ ?_
  refine own_a X20 hx hZ e20 hby tb14 (aec F21 aen) 18 [false, true] [0] 31 (L_ririiii a1 2 a2 2 13 2 p6) [vi (p6.toInt8.toInt32), vi 2, vr a2] (ai (by decide) (ai rfl (ai (flt P7).2.2.2 rfl))) ?_
  refine st22 _ ?_
  refine own_a X22 hx hZ e22 hby tb14 (aec F23 aen) 18 [false, true] [0] 31 (L_ririiii a1 3 a2 3 13 3 p7) [vi (p7.toInt8.toInt32), vi 3, vr a2] (ai (by decide) (ai rfl (ai (flt P8).2.2.2 rfl))) ?_
  refine st24 _ ?_
  refine own_a X24 hx hZ e24 hby tb14 (aec F25 aen) 18 [false, true] [0] 31 (L_ririiii a1 4 a2 4 13 4 p8) [vi (p8.toInt8.toInt32), vi 4, vr a2] (ai (by decide) (ai rfl (ai (flt P9).2.2.2 rfl))) ?_
  refine st26 _ ?_
  refine own_a X26 hx hZ e26 hby tb14 (aec F27 aen) 18 [false, true] [0] 31 (L_ririiii a1 5 a2 5 13 5 p9) [vi (p9.toInt8.toInt32), vi 5, vr a2] (ai (by decide) (ai rfl (ai (flt P10).2.2.2 rfl))) ?_
  refine st28 _ ?_
  refine own_a X28 hx hZ e28 hby tb14 (aec F29 aen) 18 [false, true] [0] 31 (L_ririiii a1 6 a2 6 13 6 p10) [vi (p10.toInt8.toInt32), vi 6, vr a2] (ai (by decide) (ai rfl (ai (flt P11).2.2.2 rfl))) ?_
  refine st30 _ ?_
  refine own_a X30 hx hZ e30 hby tb14 (aec F31 aen) 18 [false, true] [0] 31 (L_ririiii a1 7 a2 7 13 7 p11) [vi (p11.toInt8.toInt32), vi 7, vr a2] (ai (by decide) (ai rfl (ai (flt P12).2.2.2 rfl))) ?_
  refine st32 _ ?_
  refine own_a X32 hx hZ e32 hby tb14 (aec F33 aen) 18 [false, true] [0] 31 (L_ririiii a1 8 a2 8 13 8 p12) [vi (p12.toInt8.toInt32), vi 8, vr a2] (ai (by decide) (ai rfl (ai (flt P13).2.2.2 rfl))) ?_
  refine st34 _ ?_
  refine own_a X34 hx hZ e34 hby tb14 (aec F35 aen) 18 [false, true] [0] 31 (L_ririiii a1 9 a2 9 13 9 p13) [vi (p13.toInt8.toInt32), vi 9, vr a2] (ai (by decide) (ai rfl (ai (flt P14).2.2.2 rfl))) ?_
  refine st36 _ ?_
  refine own_a X36 hx hZ e36 hby tb14 (aec F37 aen) 18 [false, true] [0] 31 (L_ririiii a1 10 a2 10 13 10 p14) [vi (p14.toInt8.toInt32), vi 10, vr a2] (ai (by decide) (ai rfl (ai (flt P15).2.2.2 rfl))) ?_
  refine st38 _ ?_
  refine own_a X38 hx hZ e38 hby tb14 (aec F39 aen) 18 [false, true] [0] 31 (L_ririiii a1 11 a2 11 13 11 p15) [vi (p15.toInt8.toInt32), vi 11, vr a2] (ai (by decide) (ai rfl (ai (flt P16).2.2.2 rfl))) ?_
  refine st40 _ ?_
  refine own_a X40 hx hZ e40 hby tb14 (aec F41 aen) 18 [false, true] [0] 31 (L_ririiii a1 12 a2 12 13 12 p16) [vi (p16.toInt8.toInt32), vi 12, vr a2] (ai (by decide) (ai rfl (ai (flt P17).2.2.2 rfl))) ?_
  refine st42 _ ?_
  refine own_b X42 hx hby tb14 8 [true] 46 (L_ririiii a1 13 a2 13 13 13 p16) [vi 13] (ai (by decide) rfl) ?_
  exact retI X42 hx hret (hb hby d14_46) hr
theorem rm13_1 (hw : OW Z a0) (a1 : Addr) (w4 : ClassId) (p5 p6 p7 p8 p9 p10 p11 p12 p13 p14 p15 p16 p17 : Int32) (Z0 : n0 ≤ h0.size) (P1 : Arv Z h0 a1 w4 .char (13 : Int32) [vi p5, vi p6, vi p7, vi p8, vi p9, vi p10, vi p11, vi p12, vi p13, vi p14, vi p15, vi p16, vi p17] (vi 0)) (P2 : ¬ ((255 : Int32) < p5)) (P3 : ¬ ((255 : Int32) < p6)) (P4 : ¬ ((255 : Int32) < p7)) (P5 : ¬ ((255 : Int32) < p8)) (P6 : ¬ ((255 : Int32) < p9)) (P7 : ¬ ((255 : Int32) < p10)) (P8 : ¬ ((255 : Int32) < p11)) (P9 : ¬ ((255 : Int32) < p12)) (P10 : ¬ ((255 : Int32) < p13)) (P11 : ¬ ((255 : Int32) < p14)) (P12 : ¬ ((255 : Int32) < p15)) (P13 : ¬ ((255 : Int32) < p16)) (P14 : ¬ ((255 : Int32) < p17)) :
    M13 l Z ws (orm 1 1 13 18) #[vr a1, vi 0, vi 13] h0 (fun v h L => ∃ b2 : Addr, ∃ k3 : ClassId, v = some (vr b2) ∧ Fr n0 L ∧ Keep h0 h [] ∧ n0 ≤ b2 ∧ h0.size ≤ b2 ∧ Arv Z h b2 k3 .byte (13 : Int32) [vi (va21 p5), vi (va21 p6), vi (va21 p7), vi (va21 p8), vi (va21 p9), vi (va21 p10), vi (va21 p11), vi (va21 p12), vi (va21 p13), vi (va21 p14), vi (va21 p15), vi (va21 p16), vi (va21 p17)] (vi 0)) := by
  refine own_enter (plainFor_of_name pn_4) (L0 := (L_riiuuu a1 0 13)) ?_
  intro p e s m below meth c s₁ hx hby hml hown hnm hret hZ X0 e0
  have N0 := Fr.nil n0
  obtain ⟨T3, h3, b2, k3, X3, e3, E3, g3, V3, st3⟩ := own_newP X0 hx hZ (tw_4 hw) e0 (n := (13 : Int32)) (k := 13) (d := (vi 0)) (vs := [vi 0, vi 0, vi 0, vi 0, vi 0, vi 0, vi 0, vi 0, vi 0, vi 0, vi 0, vi 0, vi 0]) (Ls := (L_riiuuu a1 0 13)) (S := []) (hb hby d13_1)
  have q3 := Nat.le_trans Z0 g3
  have z3 := Nat.le_trans (Nat.le_refl h0.size) g3
  have F18 := (P1.ext E3)
  have n19 := Nat.ne_of_lt (Nat.lt_of_lt_of_le P1.lt g3)
  obtain ⟨T20, L20, _, X20, ⟨rfl, N20q, K20, f20_0⟩, st20⟩ := own_callS X3 hx hZ hown (cw_4 hw) (rm14_1 hw a1 b2 w4 p5 p6 p7 p8 p9 p10 p11 p12 p13 p14 p15 p16 p17 k3 (lx Z0 E3) F18 P2 V3 q3 n19 P3 P4 P5 P6 P7 P8 P9 P10 P11 P12 P13 P14) e3 (Ls := (L_riiruu a1 0 13 b2)) hml [vr a1, vi 0, vr b2, vi 0, vi 13] [] pd_8 0 (hb hby d13_9)
  have N20 := Fr.app N0 N20q
  have K21 := (Keep.refl h0 []).ext E3
  have K22 := K21.trans K20 (allS (Or.inr z3) all0)
  refine ⟨T20, _, _, _, _, some (vr b2), X20, rfl, by decide, by decide, nofun, ⟨b2, k3, rfl, N20, K22, q3, z3, f20_0⟩, fun fs hr => ?_⟩
  refine own_b X0 hx hby tb13 1 [] 1 _ [vi 13] rfl ?_
  refine st3 _ ?_
  refine own_b X3 hx hby tb13 6 [] 9 (L_riiruu a1 0 13 b2) [vi 13, vi 0, vr b2, vi 0, vr a1] rfl ?_
  refine st20 _ ?_
  refine own_b X20 hx hby tb13 5 [true] 58 (L_riiriu a1 0 13 b2 13) [vr b2] (ai (by decide) rfl) ?_
  exact own_retA X20 hx hret rfl (hb hby d13_58) hr
theorem rm15_1 (hw : OW Z a0) (a1 : Addr) (w2 : ClassId) (p3 p4 p5 p6 p7 p8 p9 p10 p11 p12 p13 p14 p15 : Int32) (Z0 : n0 ≤ h0.size) (P1 : Arv Z h0 a1 w2 .byte (13 : Int32) [vi p3, vi p4, vi p5, vi p6, vi p7, vi p8, vi p9, vi p10, vi p11, vi p12, vi p13, vi p14, vi p15] (vi 0)) :
    M15 l Z ws (orm 0 0 0 0) #[vr a1, vi 13] h0 (QI n0 h0 (vi 0)) := by
  refine own_enter (plainFor_of_name pn_4) (L0 := (L_ri a1 13)) ?_
  intro p e s m below meth c s₁ hx hby hml hown hnm hret hZ X0 e0
  have N0 := Fr.nil n0
  refine ⟨s₁, _, _, _, _, some (vi 0), X0, e0, by decide, by decide, nofun, ⟨rfl, N0, rfl⟩, fun fs hr => ?_⟩
  refine own_a X0 hx hZ e0 hby tb15 (aec P1 aen) 7 [] [0] 8 _ [vi 0] (ai rfl rfl) ?_
  exact retN X0 hx (t := .byte) hret (by simp) (hb hby d15_8) hr
theorem rm11_1 (hw : OW Z a0) (a1 a2 : Addr) (p4 : Int32) (w6 : ClassId) (p7 p8 p9 p10 p11 p12 p13 p14 p15 p16 p17 p18 p19 : Int32) (Z0 : n0 ≤ h0.size) (P1 : ab1 Z (vi p4)) (P2 : Old Z n0 h0) (P3 : ¬ (p4 = (0 : Int32))) (P4 : Arv Z h0 a2 w6 .char (13 : Int32) [vi p7, vi p8, vi p9, vi p10, vi p11, vi p12, vi p13, vi p14, vi p15, vi p16, vi p17, vi p18, vi p19] (vi 0)) (P5 : ¬ ((255 : Int32) < p7)) (P6 : ¬ ((255 : Int32) < p8)) (P7 : ¬ ((255 : Int32) < p9)) (P8 : ¬ ((255 : Int32) < p10)) (P9 : ¬ ((255 : Int32) < p11)) (P10 : ¬ ((255 : Int32) < p12)) (P11 : ¬ ((255 : Int32) < p13)) (P12 : ¬ ((255 : Int32) < p14)) (P13 : ¬ ((255 : Int32) < p15)) (P14 : ¬ ((255 : Int32) < p16)) (P15 : ¬ ((255 : Int32) < p17)) (P16 : ¬ ((255 : Int32) < p18)) (P17 : ¬ ((255 : Int32) < p19)) (P18 : ab7 Z h0 a1 (vi 0)) (P19 : ab10 Z h0 a1) (P20 : n0 ≤ a1) (P21 : ab8 Z h0 a1 .null) :
    M11 l Z ws (orm 2 1 13 35) #[vr a1, vr a2, vi 0, vi 13, .null] h0 (fun v h L => ∃ b21 : Addr, ∃ kk20_0 : ClassId, v = none ∧ Fr n0 L ∧ Keep h0 h [a1] ∧ n0 ≤ b21 ∧ h0.size ≤ b21 ∧ ab7 Z h a1 (vi 0) ∧ ab8 Z h a1 (vr b21) ∧ Arv Z h b21 kk20_0 .byte (13 : Int32) [vi (va21 p7), vi (va21 p8), vi (va21 p9), vi (va21 p10), vi (va21 p11), vi (va21 p12), vi (va21 p13), vi (va21 p14), vi (va21 p15), vi (va21 p16), vi (va21 p17), vi (va21 p18), vi (va21 p19)] (vi 0)) := by
  refine own_enter (plainFor_of_name pn_0) (L0 := (L_rriinu a1 a2 0 13)) ?_
  intro p e s m below meth c s₁ hx hby hml hown hnm hret hZ X0 e0
  have N0 := Fr.nil n0
  obtain ⟨T3, X3, e3, st3⟩ := initO X0 hx hZ hown (tw_60 hw) (tw_61 hw) (tw_62 hw) e0 (g := (mkF m 1 (L_rriinu a1 a2 0 13) [vr a1])) rfl (by rw [hml]; rfl) rfl (hb hby d11_1) (by decide) (W := 0) (by show 2 * 0 + _ ≤ _; exact Nat.le_of_eq rfl) (by decide)
  obtain ⟨T5, X5, e5, st5⟩ := getS2 X3 hx hZ hown (host := "") (Or.inl (tw_20 hw)) Via.refl e3 (Sta.ext P2.2 P1) (g := (mkF m 27 (L_rriinu a1 a2 0 13) [])) rfl (hb hby d11_27)
  obtain ⟨T20, L20, _, X20, ⟨b21, kk20_0, rfl, N20q, K20, qa20_0, qb20_0, f20_0⟩, st20⟩ := own_callS X5 hx hZ hown (cw_5 hw) (rm13_1 hw a2 w6 p7 p8 p9 p10 p11 p12 p13 p14 p15 p16 p17 p18 p19 Z0 P4 P5 P6 P7 P8 P9 P10 P11 P12 P13 P14 P15 P16 P17) e5 (Ls := (L_rriinu a1 a2 0 13)) hml [vr a2, vi 0, vi 13] [] pd_9 0 (hb hby d11_36)
  have N20 := Fr.app N0 N20q
  have qd20_0 := Nat.le_trans (Nat.le_refl h0.size) qb20_0
  obtain ⟨T22, L22, _, X22, ⟨rfl, N22q, e22q⟩, st22⟩ := own_callS X20 hx hZ hown (cw_6 hw) (rm15_1 hw b21 kk20_0 (va21 p7) (va21 p8) (va21 p9) (va21 p10) (va21 p11) (va21 p12) (va21 p13) (va21 p14) (va21 p15) (va21 p16) (va21 p17) (va21 p18) (va21 p19) (Nat.le_trans Z0 K20.1) f20_0) rfl (Ls := (L_rriinr a1 a2 0 13 b21)) hml [vr b21, vi 13] [vr a1] pd_10 1 (hb hby d11_45)
  have N22 := Fr.app N20 N22q
  have F23 := (Fld.keep P18 K20 nin0)
  have F24 := (Exa.keep P19 K20)
  obtain ⟨T25, h25, X25, e25, W25, st25⟩ := putF X22 hx hZ hown (host := "") (Or.inl (tw_21 hw)) Via.refl e22q F23 F24 (Or.inr ⟨(tw_6 hw), rfl, hnm⟩) (tw_3 hw) (ty := .byte) (by decide) rfl rfl (g := (mkF m 48 (L_rriinr a1 a2 0 13 b21) [vi 0, vr a1])) rfl rfl (hb hby d11_48)
  have N25 := Fr.snoc X25 N22 P20
  have Fw25 := Fld.same W25 F23
  have F26 := (Fld.other W25 (Fld.keep P21 K20 nin0) (Or.inr (slot_ne (Or.inr (tw_5 hw)) (Or.inr (tw_6 hw)) (by decide) (t := (.array .byte)) (t' := .byte) (by decide) (by decide))))
  have F27 := (Exa.wr W25 F24)
  obtain ⟨T28, h28, X28, e28, W28, st28⟩ := putF X25 hx hZ hown (host := "") (Or.inl (tw_14 hw)) Via.refl e25 F26 F27 (Or.inr ⟨(tw_5 hw), rfl, hnm⟩) (tw_3 hw) (ty := (.array .byte)) (by decide) rfl rfl (g := (mkF m 54 (L_rriinr a1 a2 0 13 b21) [vr b21, vr a1])) rfl rfl (hb hby d11_54)
  have N28 := Fr.snoc X28 N25 P20
  have Fw28 := Fld.same W28 F26
  have F29 := (Fld.other W28 Fw25 (Or.inr (slot_ne (Or.inr (tw_6 hw)) (Or.inr (tw_5 hw)) (by decide) (t := .byte) (t' := (.array .byte)) (by decide) (by decide))))
  have n30 := Nat.ne_of_lt (Nat.lt_of_lt_of_le P18.lt qb20_0)
  have F31 := (Arv.other (Arv.other f20_0 W25 (Ne.symm n30)) W28 (Ne.symm n30))
  have K32 := (Keep.refl h0 [a1]).trans K20 all0
  have K33 := K32.wr W25 (Or.inl (List.mem_of_getElem? (i := 0) rfl))
  have K34 := K33.wr W28 (Or.inl (List.mem_of_getElem? (i := 0) rfl))
  refine ⟨T28, _, _, _, _, none, X28, e28, by decide, by decide, (fun _ => rfl), ⟨b21, kk20_0, rfl, N28, K34, qa20_0, qd20_0, F29, Fw28, F31⟩, fun fs hr => ?_⟩
  refine own_b X0 hx hby tb11 1 [] 1 _ [vr a1] rfl ?_
  refine st3 _ ?_
  refine own_b X3 hx hby tb11 2 [true] 27 _ [] (ai (by decide) rfl) ?_
  refine st5 _ ?_
  refine own_b X5 hx hby tb11 4 [false] 36 _ [vi 13, vi 0, vr a2] (ai (feq P3).1 rfl) ?_
  refine st20 _ ?_
  refine own_b X20 hx hby tb11 4 [] 45 (L_rriinr a1 a2 0 13 b21) [vi 13, vr b21, vr a1] rfl ?_
  refine st22 _ ?_
  refine st25 _ ?_
  refine own_b X25 hx hby tb11 2 [] 54 _ [vr b21, vr a1] rfl ?_
  refine st28 _ ?_
  show OS p e below T28 m 57 (L_rriinr a1 a2 0 13 b21) [] _
  exact X28.returnOut hx hret (hb hby d11_57) hr
theorem rm10_1 (hw : OW Z a0) (a1 a2 : Addr) (w3 : ClassId) (p4 p5 p6 p7 p8 p9 p10 p11 p12 p13 p14 p15 p16 p17 : Int32) (Z0 : n0 ≤ h0.size) (P1 : Arv Z h0 a2 w3 .char (13 : Int32) [vi p4, vi p5, vi p6, vi p7, vi p8, vi p9, vi p10, vi p11, vi p12, vi p13, vi p14, vi p15, vi p16] (vi 0)) (P2 : ab1 Z (vi p17)) (P3 : Old Z n0 h0) (P4 : ¬ (p17 = (0 : Int32))) (P5 : ¬ ((255 : Int32) < p4)) (P6 : ¬ ((255 : Int32) < p5)) (P7 : ¬ ((255 : Int32) < p6)) (P8 : ¬ ((255 : Int32) < p7)) (P9 : ¬ ((255 : Int32) < p8)) (P10 : ¬ ((255 : Int32) < p9)) (P11 : ¬ ((255 : Int32) < p10)) (P12 : ¬ ((255 : Int32) < p11)) (P13 : ¬ ((255 : Int32) < p12)) (P14 : ¬ ((255 : Int32) < p13)) (P15 : ¬ ((255 : Int32) < p14)) (P16 : ¬ ((255 : Int32) < p15)) (P17 : ¬ ((255 : Int32) < p16)) (P18 : ab7 Z h0 a1 (vi 0)) (P19 : ab10 Z h0 a1) (P20 : n0 ≤ a1) (P21 : ab8 Z h0 a1 .null) :
    M10 l Z ws (orm 3 1 13 52) #[vr a1, vr a2] h0 (fun v h L => ∃ b19 : Addr, ∃ kk18_0 : ClassId, v = none ∧ Fr n0 L ∧ Keep h0 h [a1] ∧ n0 ≤ b19 ∧ h0.size ≤ b19 ∧ ab7 Z h a1 (vi 0) ∧ ab8 Z h a1 (vr b19) ∧ Arv Z h b19 kk18_0 .byte (13 : Int32) [vi (va21 p4), vi (va21 p5), vi (va21 p6), vi (va21 p7), vi (va21 p8), vi (va21 p9), vi (va21 p10), vi (va21 p11), vi (va21 p12), vi (va21 p13), vi (va21 p14), vi (va21 p15), vi (va21 p16)] (vi 0)) := by
  refine own_enter (plainFor_of_name pn_0) (L0 := (L_rr a1 a2)) ?_
  intro p e s m below meth c s₁ hx hby hml hown hnm hret hZ X0 e0
  have N0 := Fr.nil n0
  obtain ⟨T18, L18, _, X18, ⟨b19, kk18_0, rfl, N18q, K18, qa18_0, qb18_0, f18_0, f18_1, f18_2⟩, st18⟩ := own_callI X0 hx hZ hown (cw_7 hw) (rm11_1 hw a1 a2 p17 w3 p4 p5 p6 p7 p8 p9 p10 p11 p12 p13 p14 p15 p16 Z0 P2 P3 P4 P1 P5 P6 P7 P8 P9 P10 P11 P12 P13 P14 P15 P16 P17 P18 P19 P20 P21) e0 (Ls := (L_rr a1 a2)) hml a1 [vr a2, vi 0, vi 13, .null] [] pd_11 0 (hb hby d10_6)
  have N18 := Fr.app N0 N18q
  have qd18_0 := Nat.le_trans (Nat.le_refl h0.size) qb18_0
  have K20 := (Keep.refl h0 [a1]).trans K18 (allS (Or.inl (List.mem_of_getElem? (i := 0) rfl)) all0)
  refine ⟨T18, _, _, _, _, none, X18, rfl, by decide, by decide, (fun _ => rfl), ⟨b19, kk18_0, rfl, N18, K20, qa18_0, qd18_0, f18_0, f18_1, f18_2⟩, fun fs hr => ?_⟩
  refine own_a X0 hx hZ e0 hby tb10 (aec P1 aen) 6 [] [0] 6 _ [.null, vi 13, vi 0, vr a2, vr a1] (ai rfl rfl) ?_
  refine st18 _ ?_
  show OS p e below T18 m 9 (L_rr a1 a2) [] _
  exact X18.returnOut hx hret (hb hby d10_9) hr
theorem rm3_1 (hw : OW Z a0) (a1 : Addr) (p2 p3 p4 : Int32) (a7 : Addr) (w8 : ClassId) (p9 : Int32) (w10 : (List Value)) (p11 : Int32) (a12 : Value) (p13 p21 p31 p39 p47 p56 p64 p72 p80 p88 p97 p105 p113 p121 p130 : Int32) (Z0 : n0 ≤ h0.size) (P1 : ab8 Z h0 a1 (vr a7)) (P2 : Arv Z h0 a7 w8 .byte p9 w10 (vi 0)) (P3 : ab7 Z h0 a1 (vi 0)) (P4 : ab10 Z h0 a1) (P5 : ab1 Z (vi p11)) (P6 : ab2 Z a12) (P7 : ¬ (p11 = (0 : Int32))) (P8 : CV p9 w10 (vi 0) (0 : Int32) p2 p3 p13) (P9 : Old Z n0 h0) (P10 : a12.isRef = true) (P11 : CV p9 w10 (vi 0) (1 : Int32) p2 p3 p21) (P12 : CV p9 w10 (vi 0) (2 : Int32) p2 p3 p31) (P13 : CV p9 w10 (vi 0) (3 : Int32) p2 p3 p39) (P14 : CV p9 w10 (vi 0) (4 : Int32) p2 p3 p47) (P15 : CV p9 w10 (vi 0) (5 : Int32) p2 p3 p56) (P16 : CV p9 w10 (vi 0) (6 : Int32) p2 p3 p64) (P17 : CV p9 w10 (vi 0) (7 : Int32) p2 p3 p72) (P18 : CV p9 w10 (vi 0) (8 : Int32) p2 p3 p80) (P19 : CV p9 w10 (vi 0) (9 : Int32) p2 p3 p88) (P20 : CV p9 w10 (vi 0) (10 : Int32) p2 p3 p97) (P21 : CV p9 w10 (vi 0) (11 : Int32) p2 p3 p105) (P22 : CV p9 w10 (vi 0) (12 : Int32) p2 p3 p113) (P23 : CV p9 w10 (vi 0) (13 : Int32) p2 p3 p121) (P24 : CV p9 w10 (vi 0) (14 : Int32) p2 p3 p130) (P25 : ¬ (p4 = (12 : Int32))) (P26 : p4 = (13 : Int32)) (P27 : ¬ ((255 : Int32) < (va20 p13))) (P28 : ¬ ((255 : Int32) < (va20 p21))) (P29 : ¬ ((255 : Int32) < (va20 p31))) (P30 : ¬ ((255 : Int32) < (va20 p39))) (P31 : ¬ ((255 : Int32) < (va20 p47))) (P32 : ¬ ((255 : Int32) < (va20 p56))) (P33 : ¬ ((255 : Int32) < (va20 p64))) (P34 : ¬ ((255 : Int32) < (va20 p72))) (P35 : ¬ ((255 : Int32) < (va20 p80))) (P36 : ¬ ((255 : Int32) < (va20 p88))) (P37 : ¬ ((255 : Int32) < (va20 p97))) (P38 : ¬ ((255 : Int32) < (va20 p105))) (P39 : ¬ ((255 : Int32) < (va20 p113))) :
    M3 l Z ws (orm 5 4 45 71) #[vr a1, vi p2, vi p3, vi p4] h0 (fun v h L => ∃ b138 : Addr, ∃ b179 : Addr, ∃ kk177_0 : ClassId, v = some (vr b138) ∧ Fr n0 L ∧ Keep h0 h [] ∧ n0 ≤ b138 ∧ h0.size ≤ b138 ∧ n0 ≤ b179 ∧ h0.size ≤ b179 ∧ b138 ≠ b179 ∧ ab10 Z h b138 ∧ ab7 Z h b138 (vi 0) ∧ ab8 Z h b138 (vr b179) ∧ Arv Z h b179 kk177_0 .byte (13 : Int32) [vi (va21 (va20 p13)), vi (va21 (va20 p21)), vi (va21 (va20 p31)), vi (va21 (va20 p39)), vi (va21 (va20 p47)), vi (va21 (va20 p56)), vi (va21 (va20 p64)), vi (va21 (va20 p72)), vi (va21 (va20 p80)), vi (va21 (va20 p88)), vi (va21 (va20 p97)), vi (va21 (va20 p105)), vi (va21 (va20 p113))] (vi 0)) := by
  refine own_enter (plainFor_of_name pn_3) (L0 := (L_riiiu a1 p2 p3 p4)) ?_
  intro p e s m below meth c s₁ hx hby hml hown hnm hret hZ X0 e0
  have N0 := Fr.nil n0
  obtain ⟨T6, h6, b5, k6, X6, e6, E6, g6, V6, st6⟩ := own_newP X0 hx hZ (tw_26 hw) e0 (n := (15 : Int32)) (k := 15) (d := (vi 0)) (vs := [vi 0, vi 0, vi 0, vi 0, vi 0, vi 0, vi 0, vi 0, vi 0, vi 0, vi 0, vi 0, vi 0, vi 0, vi 0]) (Ls := (L_riiiu a1 p2 p3 p4)) (S := []) (hb hby d3_2)
  have q6 := Nat.le_trans Z0 g6
  have z6 := Nat.le_trans (Nat.le_refl h0.size) g6
  have F14 := (Exa.ext E6 P4)
  have F15 := (Fld.ext E6 P1)
  have F16 := (P2.ext E6)
  have F17 := (P9.ext E6)
  have F18 := (Fld.ext E6 P3)
  obtain ⟨T19, L19, _, X19, ⟨rfl, N19q, e19q⟩, st19⟩ := own_callS X6 hx hZ hown (cw_3 hw) (own_cell hw a1 0 p2 p3 p13 a7 w8 p11 a12 (lx Z0 E6) F14 F15 F16 P5 F17 P7 F18 P6 P10 P8) e6 (Ls := (L_riiiu a1 p2 p3 p4)) hml [vr a1, vi 0, vi p2, vi p3] [vi 0, vr b5, vr b5] pd_7 3 (hb hby d3_10)
  have N19 := Fr.app N0 N19q
  obtain ⟨T20, h20, X20, e20, W20, V20, st20⟩ := own_stC X19 hx hZ e19q V6 (j := (0 : Int32)) (x := p13) 0 (Ls := (L_riiiu a1 p2 p3 p4)) (rest := [vr b5]) (hb hby d3_13)
  have N20 := Fr.snoc X20 N19 q6
  have F22 := (Exa.wr W20 F14)
  have n23 := Nat.ne_of_lt (Nat.lt_of_lt_of_le P1.lt g6)
  have F24 := (Fld.other W20 F15 (Or.inl n23))
  have n25 := Nat.ne_of_lt (Nat.lt_of_lt_of_le P2.lt g6)
  have F26 := (Arv.other F16 W20 n25)
  have F27 := (F17.wr W20 q6)
  have F28 := (Fld.other W20 F18 (Or.inl n23))
  obtain ⟨T29, L29, _, X29, ⟨rfl, N29q, e29q⟩, st29⟩ := own_callS X20 hx hZ hown (cw_3 hw) (own_cell hw a1 1 p2 p3 p21 a7 w8 p11 a12 (lw (lx Z0 E6) W20) F22 F24 F26 P5 F27 P7 F28 P6 P10 P11) e20 (Ls := (L_riiiu a1 p2 p3 p4)) hml [vr a1, vi 1, vi p2, vi p3] [vi 1, vr b5, vr b5] pd_7 3 (hb hby d3_20)
  have N29 := Fr.app N20 N29q
  obtain ⟨T30, h30, X30, e30, W30, V30, st30⟩ := own_stC X29 hx hZ e29q V20 (j := (1 : Int32)) (x := p21) 1 (Ls := (L_riiiu a1 p2 p3 p4)) (rest := [vr b5]) (hb hby d3_23)
  have N30 := Fr.snoc X30 N29 q6
  have F32 := (Exa.wr W30 F22)
  have F33 := (Fld.other W30 F24 (Or.inl n23))
  have F34 := (Arv.other F26 W30 n25)
  have F35 := (F27.wr W30 q6)
  have F36 := (Fld.other W30 F28 (Or.inl n23))
  obtain ⟨T37, L37, _, X37, ⟨rfl, N37q, e37q⟩, st37⟩ := own_callS X30 hx hZ hown (cw_3 hw) (own_cell hw a1 2 p2 p3 p31 a7 w8 p11 a12 (lw (lw (lx Z0 E6) W20) W30) F32 F33 F34 P5 F35 P7 F36 P6 P10 P12) e30 (Ls := (L_riiiu a1 p2 p3 p4)) hml [vr a1, vi 2, vi p2, vi p3] [vi 2, vr b5, vr b5] pd_7 3 (hb hby d3_30)
  have N37 := Fr.app N30 N37q
  obtain ⟨T38, h38, X38, e38, W38, V38, st38⟩ := own_stC X37 hx hZ e37q V30 (j := (2 : Int32)) (x := p31) 2 (Ls := (L_riiiu a1 p2 p3 p4)) (rest := [vr b5]) (hb hby d3_33)
  have N38 := Fr.snoc X38 N37 q6
  have F40 := (Exa.wr W38 F32)
  have F41 := (Fld.other W38 F33 (Or.inl n23))
  have F42 := (Arv.other F34 W38 n25)
  have F43 := (F35.wr W38 q6)
  have F44 := (Fld.other W38 F36 (Or.inl n23))
  obtain ⟨T45, L45, _, X45, ⟨rfl, N45q, e45q⟩, st45⟩ := own_callS X38 hx hZ hown (cw_3 hw) (own_cell hw a1 3 p2 p3 p39 a7 w8 p11 a12 (lw (lw (lw (lx Z0 E6) W20) W30) W38) F40 F41 F42 P5 F43 P7 F44 P6 P10 P13) e38 (Ls := (L_riiiu a1 p2 p3 p4)) hml [vr a1, vi 3, vi p2, vi p3] [vi 3, vr b5, vr b5] pd_7 3 (hb hby d3_40)
  have N45 := Fr.app N38 N45q
  obtain ⟨T46, h46, X46, e46, W46, V46, st46⟩ := own_stC X45 hx hZ e45q V38 (j := (3 : Int32)) (x := p39) 3 (Ls := (L_riiiu a1 p2 p3 p4)) (rest := [vr b5]) (hb hby d3_43)
  have N46 := Fr.snoc X46 N45 q6
  have F48 := (Exa.wr W46 F40)
  have F49 := (Fld.other W46 F41 (Or.inl n23))
  have F50 := (Arv.other F42 W46 n25)
  have F51 := (F43.wr W46 q6)
  have F52 := (Fld.other W46 F44 (Or.inl n23))
  have F54 := (lw (lw (lw (lw (lx Z0 E6) W20) W30) W38) W46)
  obtain ⟨T53, L53, _, X53, ⟨rfl, N53q, e53q⟩, st53⟩ := own_callS X46 hx hZ hown (cw_3 hw) (own_cell hw a1 4 p2 p3 p47 a7 w8 p11 a12 F54 F48 F49 F50 P5 F51 P7 F52 P6 P10 P14) e46 (Ls := (L_riiiu a1 p2 p3 p4)) hml [vr a1, vi 4, vi p2, vi p3] [vi 4, vr b5, vr b5] pd_7 3 (hb hby d3_50)
  have N53 := Fr.app N46 N53q
  obtain ⟨T55, h55, X55, e55, W55, V55, st55⟩ := own_stC X53 hx hZ e53q V46 (j := (4 : Int32)) (x := p47) 4 (Ls := (L_riiiu a1 p2 p3 p4)) (rest := [vr b5]) (hb hby d3_53)
  have N55 := Fr.snoc X55 N53 q6
  have F57 := (Exa.wr W55 F48)
  have F58 := (Fld.other W55 F49 (Or.inl n23))
  have F59 := (Arv.other F50 W55 n25)
  have F60 := (F51.wr W55 q6)
  have F61 := (Fld.other W55 F52 (Or.inl n23))
  obtain ⟨T62, L62, _, X62, ⟨rfl, N62q, e62q⟩, st62⟩ := own_callS X55 hx hZ hown (cw_3 hw) (own_cell hw a1 5 p2 p3 p56 a7 w8 p11 a12 (lw F54 W55) F57 F58 F59 P5 F60 P7 F61 P6 P10 P15) e55 (Ls := (L_riiiu a1 p2 p3 p4)) hml [vr a1, vi 5, vi p2, vi p3] [vi 5, vr b5, vr b5] pd_7 3 (hb hby d3_60)
  have N62 := Fr.app N55 N62q
  obtain ⟨T63, h63, X63, e63, W63, V63, st63⟩ := own_stC X62 hx hZ e62q V55 (j := (5 : Int32)) (x := p56) 5 (Ls := (L_riiiu a1 p2 p3 p4)) (rest := [vr b5]) (hb hby d3_63)
  have N63 := Fr.snoc X63 N62 q6
  have F65 := (Exa.wr W63 F57)
  have F66 := (Fld.other W63 F58 (Or.inl n23))
  have F67 := (Arv.other F59 W63 n25)
  have F68 := (F60.wr W63 q6)
  have F69 := (Fld.other W63 F61 (Or.inl n23))
  obtain ⟨T70, L70, _, X70, ⟨rfl, N70q, e70q⟩, st70⟩ := own_callS X63 hx hZ hown (cw_3 hw) (own_cell hw a1 6 p2 p3 p64 a7 w8 p11 a12 (lw (lw F54 W55) W63) F65 F66 F67 P5 F68 P7 F69 P6 P10 P16) e63 (Ls := (L_riiiu a1 p2 p3 p4)) hml [vr a1, vi 6, vi p2, vi p3] [vi 6, vr b5, vr b5] pd_7 3 (hb hby d3_72)
  have N70 := Fr.app N63 N70q
  obtain ⟨T71, h71, X71, e71, W71, V71, st71⟩ := own_stC X70 hx hZ e70q V63 (j := (6 : Int32)) (x := p64) 6 (Ls := (L_riiiu a1 p2 p3 p4)) (rest := [vr b5]) (hb hby d3_75)
  have N71 := Fr.snoc X71 N70 q6
  have F73 := (Exa.wr W71 F65)
  have F74 := (Fld.other W71 F66 (Or.inl n23))
  have F75 := (Arv.other F67 W71 n25)
  have F76 := (F68.wr W71 q6)
  have F77 := (Fld.other W71 F69 (Or.inl n23))
  obtain ⟨T78, L78, _, X78, ⟨rfl, N78q, e78q⟩, st78⟩ := own_callS X71 hx hZ hown (cw_3 hw) (own_cell hw a1 7 p2 p3 p72 a7 w8 p11 a12 (lw (lw (lw F54 W55) W63) W71) F73 F74 F75 P5 F76 P7 F77 P6 P10 P17) e71 (Ls := (L_riiiu a1 p2 p3 p4)) hml [vr a1, vi 7, vi p2, vi p3] [vi 7, vr b5, vr b5] pd_7 3 (hb hby d3_84)
  have N78 := Fr.app N71 N78q
  obtain ⟨T79, h79, X79, e79, W79, V79, st79⟩ := own_stC X78 hx hZ e78q V71 (j := (7 : Int32)) (x := p72) 7 (Ls := (L_riiiu a1 p2 p3 p4)) (rest := [vr b5]) (hb hby d3_87)
  have N79 := Fr.snoc X79 N78 q6
  have F81 := (Exa.wr W79 F73)
  have F82 := (Fld.other W79 F74 (Or.inl n23))
  have F83 := (Arv.other F75 W79 n25)
  have F84 := (F76.wr W79 q6)
  have F85 := (Fld.other W79 F77 (Or.inl n23))
  obtain ⟨T86, L86, _, X86, ⟨rfl, N86q, e86q⟩, st86⟩ := own_callS X79 hx hZ hown (cw_3 hw) (own_cell hw a1 8 p2 p3 p80 a7 w8 p11 a12 (lw (lw (lw (lw F54 W55) W63) W71) W79) F81 F82 F83 P5 F84 P7 F85 P6 P10 P18) e79 (Ls := (L_riiiu a1 p2 p3 p4)) hml [vr a1, vi 8, vi p2, vi p3] [vi 8, vr b5, vr b5] pd_7 3 (hb hby d3_96)
  have N86 := Fr.app N79 N86q
  obtain ⟨T87, h87, X87, e87, W87, V87, st87⟩ := own_stC X86 hx hZ e86q V79 (j := (8 : Int32)) (x := p80) 8 (Ls := (L_riiiu a1 p2 p3 p4)) (rest := [vr b5]) (hb hby d3_99)
  have N87 := Fr.snoc X87 N86 q6
  have F89 := (Exa.wr W87 F81)
  have F90 := (Fld.other W87 F82 (Or.inl n23))
  have F91 := (Arv.other F83 W87 n25)
  have F92 := (F84.wr W87 q6)
  have F93 := (Fld.other W87 F85 (Or.inl n23))
  have F95 := (lw (lw (lw (lw (lw F54 W55) W63) W71) W79) W87)
  obtain ⟨T94, L94, _, X94, ⟨rfl, N94q, e94q⟩, st94⟩ := own_callS X87 hx hZ hown (cw_3 hw) (own_cell hw a1 9 p2 p3 p88 a7 w8 p11 a12 F95 F89 F90 F91 P5 F92 P7 F93 P6 P10 P19) e87 (Ls := (L_riiiu a1 p2 p3 p4)) hml [vr a1, vi 9, vi p2, vi p3] [vi 9, vr b5, vr b5] pd_7 3 (hb hby d3_108)
  have N94 := Fr.app N87 N94q
  obtain ⟨T96, h96, X96, e96, W96, V96, st96⟩ := own_stC X94 hx hZ e94q V87 (j := (9 : Int32)) (x := p88) 9 (Ls := (L_riiiu a1 p2 p3 p4)) (rest := [vr b5]) (hb hby d3_111)
  have N96 := Fr.snoc X96 N94 q6
  have F98 := (Exa.wr W96 F89)
  have F99 := (Fld.other W96 F90 (Or.inl n23))
  have F100 := (Arv.other F91 W96 n25)
  have F101 := (F92.wr W96 q6)
  have F102 := (Fld.other W96 F93 (Or.inl n23))
  obtain ⟨T103, L103, _, X103, ⟨rfl, N103q, e103q⟩, st103⟩ := own_callS X96 hx hZ hown (cw_3 hw) (own_cell hw a1 10 p2 p3 p97 a7 w8 p11 a12 (lw F95 W96) F98 F99 F100 P5 F101 P7 F102 P6 P10 P20) e96 (Ls := (L_riiiu a1 p2 p3 p4)) hml [vr a1, vi 10, vi p2, vi p3] [vi 10, vr b5, vr b5] pd_7 3 (hb hby d3_120)
  have N103 := Fr.app N96 N103q
  obtain ⟨T104, h104, X104, e104, W104, V104, st104⟩ := own_stC X103 hx hZ e103q V96 (j := (10 : Int32)) (x := p97) 10 (Ls := (L_riiiu a1 p2 p3 p4)) (rest := [vr b5]) (hb hby d3_123)
  have N104 := Fr.snoc X104 N103 q6
  have F106 := (Exa.wr W104 F98)
  have F107 := (Fld.other W104 F99 (Or.inl n23))
  have F108 := (Arv.other F100 W104 n25)
  have F109 := (F101.wr W104 q6)
  have F110 := (Fld.other W104 F102 (Or.inl n23))
  obtain ⟨T111, L111, _, X111, ⟨rfl, N111q, e111q⟩, st111⟩ := own_callS X104 hx hZ hown (cw_3 hw) (own_cell hw a1 11 p2 p3 p105 a7 w8 p11 a12 (lw (lw F95 W96) W104) F106 F107 F108 P5 F109 P7 F110 P6 P10 P21) e104 (Ls := (L_riiiu a1 p2 p3 p4)) hml [vr a1, vi 11, vi p2, vi p3] [vi 11, vr b5, vr b5] pd_7 3 (hb hby d3_132)
  have N111 := Fr.app N104 N111q
  obtain ⟨T112, h112, X112, e112, W112, V112, st112⟩ := own_stC X111 hx hZ e111q V104 (j := (11 : Int32)) (x := p105) 11 (Ls := (L_riiiu a1 p2 p3 p4)) (rest := [vr b5]) (hb hby d3_135)
  have N112 := Fr.snoc X112 N111 q6
  have F114 := (Exa.wr W112 F106)
  have F115 := (Fld.other W112 F107 (Or.inl n23))
  have F116 := (Arv.other F108 W112 n25)
  have F117 := (F109.wr W112 q6)
  have F118 := (Fld.other W112 F110 (Or.inl n23))
  obtain ⟨T119, L119, _, X119, ⟨rfl, N119q, e119q⟩, st119⟩ := own_callS X112 hx hZ hown (cw_3 hw) (own_cell hw a1 12 p2 p3 p113 a7 w8 p11 a12 (lw (lw (lw F95 W96) W104) W112) F114 F115 F116 P5 F117 P7 F118 P6 P10 P22) e112 (Ls := (L_riiiu a1 p2 p3 p4)) hml [vr a1, vi 12, vi p2, vi p3] [vi 12, vr b5, vr b5] pd_7 3 (hb hby d3_144)
  have N119 := Fr.app N112 N119q
  obtain ⟨T120, h120, X120, e120, W120, V120, st120⟩ := own_stC X119 hx hZ e119q V112 (j := (12 : Int32)) (x := p113) 12 (Ls := (L_riiiu a1 p2 p3 p4)) (rest := [vr b5]) (hb hby d3_147)
  have N120 := Fr.snoc X120 N119 q6
  have F122 := (Exa.wr W120 F114)
  have F123 := (Fld.other W120 F115 (Or.inl n23))
  have F124 := (Arv.other F116 W120 n25)
  have F125 := (F117.wr W120 q6)
  have F126 := (Fld.other W120 F118 (Or.inl n23))
  have F128 := (lw (lw (lw (lw F95 W96) W104) W112) W120)
  obtain ⟨T127, L127, _, X127, ⟨rfl, N127q, e127q⟩, st127⟩ := own_callS X120 hx hZ hown (cw_3 hw) (own_cell hw a1 13 p2 p3 p121 a7 w8 p11 a12 F128 F122 F123 F124 P5 F125 P7 F126 P6 P10 P23) e120 (Ls := (L_riiiu a1 p2 p3 p4)) hml [vr a1, vi 13, vi p2, vi p3] [vi 13, vr b5, vr b5] pd_7 3 (hb hby d3_156)
  have N127 := Fr.app N120 N127q
  obtain ⟨T129, h129, X129, e129, W129, V129, st129⟩ := own_stC X127 hx hZ e127q V120 (j := (13 : Int32)) (x := p121) 13 (Ls := (L_riiiu a1 p2 p3 p4)) (rest := [vr b5]) (hb hby d3_159)
  have N129 := Fr.snoc X129 N127 q6
  have F131 := (Exa.wr W129 F122)
  have F132 := (Fld.other W129 F123 (Or.inl n23))
  have F133 := (Arv.other F124 W129 n25)
  have F134 := (F125.wr W129 q6)
  have F135 := (Fld.other W129 F126 (Or.inl n23))
  obtain ⟨T136, L136, _, X136, ⟨rfl, N136q, e136q⟩, st136⟩ := own_callS X129 hx hZ hown (cw_3 hw) (own_cell hw a1 14 p2 p3 p130 a7 w8 p11 a12 (lw F128 W129) F131 F132 F133 P5 F134 P7 F135 P6 P10 P24) e129 (Ls := (L_riiiu a1 p2 p3 p4)) hml [vr a1, vi 14, vi p2, vi p3] [vi 14, vr b5, vr b5] pd_7 3 (hb hby d3_168)
  have N136 := Fr.app N129 N136q
  obtain ⟨T137, h137, X137, e137, W137, V137, st137⟩ := own_stC X136 hx hZ e136q V129 (j := (14 : Int32)) (x := p130) 14 (Ls := (L_riiiu a1 p2 p3 p4)) (rest := [vr b5]) (hb hby d3_171)
  have N137 := Fr.snoc X137 N136 q6
  obtain ⟨T139, h139, b138, X139, e139, E139, g139, A139, D139, st139⟩ := own_new X137 hx hZ hown (tw_52 hw) (tw_3 hw) (tw_2 hw) e137 (Ls := (L_riiir a1 p2 p3 p4 b5)) (S := []) (hb hby d3_294)
  have F140 := (lw (lw (lw (lw (lw (lw (lw (lw (lw (lw (lw (lw (lw (lw (lw (lx (Nat.le_refl h0.size) E6) W20) W30) W38) W46) W55) W63) W71) W79) W87) W96) W104) W112) W120) W129) W137)
  have q139 := Nat.le_trans (lw (lw F128 W129) W137) g139
  have z139 := Nat.le_trans F140 g139
  have F141 : ab8 Z h139 b138 .null := D139 (Or.inr (tw_5 hw)) (ty := (.array .byte)) (by decide)
  have F142 : ab7 Z h139 b138 (vi 0) := D139 (Or.inr (tw_6 hw)) (ty := .byte) (by decide)
  obtain ⟨T144, h144, b143, k144, X144, e144, E144, g144, V144, st144⟩ := own_newP X139 hx hZ (tw_26 hw) e139 (n := (13 : Int32)) (k := 13) (d := (vi 0)) (vs := [vi 0, vi 0, vi 0, vi 0, vi 0, vi 0, vi 0, vi 0, vi 0, vi 0, vi 0, vi 0, vi 0]) (Ls := (L_riiir a1 p2 p3 p4 b5)) (S := [vr b138, vr b138]) (hb hby d3_300)
  have q144 := Nat.le_trans (lx (lw (lw F128 W129) W137) E139) g144
  have z144 := Nat.le_trans (lx F140 E139) g144
  have F145 := ((V137.ext E139).ext E144)
  obtain ⟨T146, h146, X146, e146, W146, V146, st146⟩ := own_stC X144 hx hZ e144 V144 (j := (0 : Int32)) (x := (nar .char p13)) 0 (Ls := (L_riiir a1 p2 p3 p4 b5)) (rest := [vr b143, vr b138, vr b138]) (hb hby d3_308)
  have N146 := Fr.snoc X146 N137 q144
  have n147 := Nat.ne_of_lt (Nat.lt_of_lt_of_le (Nat.lt_of_lt_of_le V137.lt E139.1) g144)
  have F148 := (Arv.other F145 W146 n147)
  obtain ⟨T149, h149, X149, e149, W149, V149, st149⟩ := own_stC X146 hx hZ e146 V146 (j := (1 : Int32)) (x := (nar .char p21)) 1 (Ls := (L_riiir a1 p2 p3 p4 b5)) (rest := [vr b143, vr b138, vr b138]) (hb hby d3_315)
  have N149 := Fr.snoc X149 N146 q144
  have F150 := (Arv.other F148 W149 n147)
  obtain ⟨T151, h151, X151, e151, W151, V151, st151⟩ := own_stC X149 hx hZ e149 V149 (j := (2 : Int32)) (x := (nar .char p31)) 2 (Ls := (L_riiir a1 p2 p3 p4 b5)) (rest := [vr b143, vr b138, vr b138]) (hb hby d3_322)
  have N151 := Fr.snoc X151 N149 q144
  have F152 := (Arv.other F150 W151 n147)
  obtain ⟨T153, h153, X153, e153, W153, V153, st153⟩ := own_stC X151 hx hZ e151 V151 (j := (3 : Int32)) (x := (nar .char p39)) 3 (Ls := (L_riiir a1 p2 p3 p4 b5)) (rest := [vr b143, vr b138, vr b138]) (hb hby d3_329)
  have N153 := Fr.snoc X153 N151 q144
  have F154 := (Arv.other F152 W153 n147)
  obtain ⟨T155, h155, X155, e155, W155, V155, st155⟩ := own_stC X153 hx hZ e153 V153 (j := (4 : Int32)) (x := (nar .char p47)) 4 (Ls := (L_riiir a1 p2 p3 p4 b5)) (rest := [vr b143, vr b138, vr b138]) (hb hby d3_336)
  have N155 := Fr.snoc X155 N153 q144
  have F156 := (Arv.other F154 W155 n147)
  obtain ⟨T157, h157, X157, e157, W157, V157, st157⟩ := own_stC X155 hx hZ e155 V155 (j := (5 : Int32)) (x := (nar .char p56)) 5 (Ls := (L_riiir a1 p2 p3 p4 b5)) (rest := [vr b143, vr b138, vr b138]) (hb hby d3_343)
  have N157 := Fr.snoc X157 N155 q144
  have F158 := (Arv.other F156 W157 n147)
  obtain ⟨T159, h159, X159, e159, W159, V159, st159⟩ := own_stC X157 hx hZ e157 V157 (j := (6 : Int32)) (x := (nar .char p64)) 6 (Ls := (L_riiir a1 p2 p3 p4 b5)) (rest := [vr b143, vr b138, vr b138]) (hb hby d3_352)
  have N159 := Fr.snoc X159 N157 q144
  have F160 := (Arv.other F158 W159 n147)
  obtain ⟨T161, h161, X161, e161, W161, V161, st161⟩ := own_stC X159 hx hZ e159 V159 (j := (7 : Int32)) (x := (nar .char p72)) 7 (Ls := (L_riiir a1 p2 p3 p4 b5)) (rest := [vr b143, vr b138, vr b138]) (hb hby d3_361)
  have N161 := Fr.snoc X161 N159 q144
  have F162 := (Arv.other F160 W161 n147)
  obtain ⟨T163, h163, X163, e163, W163, V163, st163⟩ := own_stC X161 hx hZ e161 V161 (j := (8 : Int32)) (x := (nar .char p80)) 8 (Ls := (L_riiir a1 p2 p3 p4 b5)) (rest := [vr b143, vr b138, vr b138]) (hb hby d3_370)
  have N163 := Fr.snoc X163 N161 q144
  have F164 := (Arv.other F162 W163 n147)
  obtain ⟨T165, h165, X165, e165, W165, V165, st165⟩ := own_stC X163 hx hZ e163 V163 (j := (9 : Int32)) (x := (nar .char p88)) 9 (Ls := (L_riiir a1 p2 p3 p4 b5)) (rest := [vr b143, vr b138, vr b138]) (hb hby d3_379)
  have N165 := Fr.snoc X165 N163 q144
  have F166 := (Arv.other F164 W165 n147)
  obtain ⟨T167, h167, X167, e167, W167, V167, st167⟩ := own_stC X165 hx hZ e165 V165 (j := (10 : Int32)) (x := (nar .char p97)) 10 (Ls := (L_riiir a1 p2 p3 p4 b5)) (rest := [vr b143, vr b138, vr b138]) (hb hby d3_388)
  have N167 := Fr.snoc X167 N165 q144
  have F168 := (Arv.other F166 W167 n147)
  obtain ⟨T169, h169, X169, e169, W169, V169, st169⟩ := own_stC X167 hx hZ e167 V167 (j := (11 : Int32)) (x := (nar .char p105)) 11 (Ls := (L_riiir a1 p2 p3 p4 b5)) (rest := [vr b143, vr b138, vr b138]) (hb hby d3_397)
  have N169 := Fr.snoc X169 N167 q144
  have F170 := (Arv.other F168 W169 n147)
  obtain ⟨T171, h171, X171, e171, W171, V171, st171⟩ := own_stC X169 hx hZ e169 V169 (j := (12 : Int32)) (x := (nar .char p113)) 12 (Ls := (L_riiir a1 p2 p3 p4 b5)) (rest := [vr b143, vr b138, vr b138]) (hb hby d3_406)
  have N171 := Fr.snoc X171 N169 q144
  have F172 := ((((((((((((((((F134.wr W137 q6).ext E139).ext E144).wr W146 q144).wr W149 q144).wr W151 q144).wr W153 q144).wr W155 q144).wr W157 q144).wr W159 q144).wr W161 q144).wr W163 q144).wr W165 q144).wr W167 q144).wr W169 q144).wr W171 q144)
  have n173 := Nat.ne_of_lt (Nat.lt_of_lt_of_le A139.lt g144)
  have F174 := (Fld.other W171 (Fld.other W169 (Fld.other W167 (Fld.other W165 (Fld.other W163 (Fld.other W161 (Fld.other W159 (Fld.other W157 (Fld.other W155 (Fld.other W153 (Fld.other W151 (Fld.other W149 (Fld.other W146 (Fld.ext E144 F142) (Or.inl n173)) (Or.inl n173)) (Or.inl n173)) (Or.inl n173)) (Or.inl n173)) (Or.inl n173)) (Or.inl n173)) (Or.inl n173)) (Or.inl n173)) (Or.inl n173)) (Or.inl n173)) (Or.inl n173)) (Or.inl n173))
  have F175 := (Exa.wr W171 (Exa.wr W169 (Exa.wr W167 (Exa.wr W165 (Exa.wr W163 (Exa.wr W161 (Exa.wr W159 (Exa.wr W157 (Exa.wr W155 (Exa.wr W153 (Exa.wr W151 (Exa.wr W149 (Exa.wr W146 (Exa.ext E144 A139))))))))))))))
  have F176 := (Fld.other W171 (Fld.other W169 (Fld.other W167 (Fld.other W165 (Fld.other W163 (Fld.other W161 (Fld.other W159 (Fld.other W157 (Fld.other W155 (Fld.other W153 (Fld.other W151 (Fld.other W149 (Fld.other W146 (Fld.ext E144 F141) (Or.inl n173)) (Or.inl n173)) (Or.inl n173)) (Or.inl n173)) (Or.inl n173)) (Or.inl n173)) (Or.inl n173)) (Or.inl n173)) (Or.inl n173)) (Or.inl n173)) (Or.inl n173)) (Or.inl n173)) (Or.inl n173))
  have F178 := (lw (lw (lw (lw (lw (lw (lw (lw (lw (lw (lw (lw (lw (lx (lx (lw (lw F128 W129) W137) E139) E144) W146) W149) W151) W153) W155) W157) W159) W161) W163) W165) W167) W169) W171)
  obtain ⟨T177, L177, _, X177, ⟨b179, kk177_0, rfl, N177q, K177, qa177_0, qb177_0, f177_0, f177_1, f177_2⟩, st177⟩ := own_callI X171 hx hZ hown (cw_8 hw) (rm10_1 hw b138 b143 k144 (va20 p13) (va20 p21) (va20 p31) (va20 p39) (va20 p47) (va20 p56) (va20 p64) (va20 p72) (va20 p80) (va20 p88) (va20 p97) (va20 p105) (va20 p113) p11 F178 V171 P5 F172 P7 P27 P28 P29 P30 P31 P32 P33 P34 P35 P36 P37 P38 P39 F174 F175 q139 F176) e171 (Ls := (L_riiir a1 p2 p3 p4 b5)) hml b138 [vr b143] [vr b138] pd_12 1 (hb hby d3_407)
  have N177 := Fr.app N171 N177q
  have F180 := (lw (lw (lw (lw (lw (lw (lw (lw (lw (lw (lw (lw (lw (lx (lx F140 E139) E144) W146) W149) W151) W153) W155) W157) W159) W161) W163) W165) W167) W169) W171)
  have qd177_0 := Nat.le_trans F180 qb177_0
  have F181 := (Exa.keep F175 K177)
  have K182 := (Keep.refl h0 []).ext E6
  have K183 := K182.wr W20 (Or.inr z6)
  have K184 := K183.wr W30 (Or.inr z6)
  have K185 := K184.wr W38 (Or.inr z6)
  have K186 := K185.wr W46 (Or.inr z6)
  have K187 := K186.wr W55 (Or.inr z6)
  have K188 := K187.wr W63 (Or.inr z6)
  have K189 := K188.wr W71 (Or.inr z6)
  have K190 := K189.wr W79 (Or.inr z6)
  have K191 := K190.wr W87 (Or.inr z6)
  have K192 := K191.wr W96 (Or.inr z6)
  have K193 := K192.wr W104 (Or.inr z6)
  have K194 := K193.wr W112 (Or.inr z6)
  have K195 := K194.wr W120 (Or.inr z6)
  have K196 := K195.wr W129 (Or.inr z6)
  have K197 := K196.wr W137 (Or.inr z6)
  have K198 := K197.ext E139
  have K199 := K198.ext E144
  have K200 := K199.wr W146 (Or.inr z144)
  have K201 := K200.wr W149 (Or.inr z144)
  have K202 := K201.wr W151 (Or.inr z144)
  have K203 := K202.wr W153 (Or.inr z144)
  have K204 := K203.wr W155 (Or.inr z144)
  have K205 := K204.wr W157 (Or.inr z144)
  have K206 := K205.wr W159 (Or.inr z144)
  have K207 := K206.wr W161 (Or.inr z144)
  have K208 := K207.wr W163 (Or.inr z144)
  have K209 := K208.wr W165 (Or.inr z144)
  have K210 := K209.wr W167 (Or.inr z144)
  have K211 := K210.wr W169 (Or.inr z144)
  have K212 := K211.wr W171 (Or.inr z144)
  have K213 := K212.trans K177 (allS (Or.inr z139) all0)
  have n214 := Nat.ne_of_lt (Nat.lt_of_lt_of_le F174.lt qb177_0)
  refine ⟨T177, _, _, _, _, some (vr b138), X177, rfl, by decide, by decide, nofun, ⟨b138, b179, kk177_0, rfl, N177, K213, q139, z139, qa177_0, qd177_0, n214, F181, f177_0, f177_1, f177_2⟩, fun fs hr => ?_⟩
  refine own_b X0 hx hby tb3 1 [] 2 _ [vi 15] rfl ?_
  refine st6 _ ?_
  refine own_b X6 hx hby tb3 6 [] 10 _ [vi p3, vi p2, vi 0, vr a1, vi 0, vr b5, vr b5] rfl ?_
  refine st19 _ ?_
  refine st20 _ ?_
  refine own_b X20 hx hby tb3 6 [] 20 _ [vi p3, vi p2, vi 1, vr a1, vi 1, vr b5, vr b5] rfl ?_
  refine st29 _ ?_
  refine st30 _ ?_
  refine own_b X30 hx hby tb3 6 [] 30 _ [vi p3, vi p2, vi 2, vr a1, vi 2, vr b5, vr b5] rfl ?_
  refine st37 _ ?_
  refine st38 _ ?_
  refine own_b X38 hx hby tb3 6 [] 40 _ [vi p3, vi p2, vi 3, vr a1, vi 3, vr b5, vr b5] rfl ?_
  refine st45 _ ?_
  refine st46 _ ?_
  refine own_b X46 hx hby tb3 6 [] 50 _ [vi p3, vi p2, vi 4, vr a1, vi 4, vr b5, vr b5] rfl ?_
  refine st53 _ ?_
  refine st55 _ ?_
  refine own_b X55 hx hby tb3 6 [] 60 _ [vi p3, vi p2, vi 5, vr a1, vi 5, vr b5, vr b5] rfl ?_
  refine st62 _ ?_
  refine st63 _ ?_
  refine own_b X63 hx hby tb3 6 [] 72 _ [vi p3, vi p2, vi 6, vr a1, vi 6, vr b5, vr b5] rfl ?_
  refine st70 _ ?_
  refine st71 _ ?_
  refine own_b X71 hx hby tb3 6 [] 84 _ [vi p3, vi p2, vi 7, vr a1, vi 7, vr b5, vr b5] rfl ?_
  refine st78 _ ?_
  refine st79 _ ?_
  refine own_b X79 hx hby tb3 6 [] 96 _ [vi p3, vi p2, vi 8, vr a1, vi 8, vr b5, vr b5] rfl ?_
  refine st86 _ ?_
  refine st87 _ ?_
  refine own_b X87 hx hby tb3 6 [] 108 _ [vi p3, vi p2, vi 9, vr a1, vi 9, vr b5, vr b5] rfl ?_
  refine st94 _ ?_
  refine st96 _ ?_
  refine own_b X96 hx hby tb3 6 [] 120 _ [vi p3, vi p2, vi 10, vr a1, vi 10, vr b5, vr b5] rfl ?_
  refine st103 _ ?_
  refine st104 _ ?_
  refine own_b X104 hx hby tb3 6 [] 132 _ [vi p3, vi p2, vi 11, vr a1, vi 11, vr b5, vr b5] rfl ?_
  refine st111 _ ?_
  refine st112 _ ?_
  refine own_b X112 hx hby tb3 6 [] 144 _ [vi p3, vi p2, vi 12, vr a1, vi 12, vr b5, vr b5] rfl ?_
  refine st119 _ ?_
  refine st120 _ ?_
  refine own_b X120 hx hby tb3 6 [] 156 _ [vi p3, vi p2, vi 13, vr a1, vi 13, vr b5, vr b5] rfl ?_
  refine st127 _ ?_
  refine st129 _ ?_
  refine own_b X129 hx hby tb3 6 [] 168 _ [vi p3, vi p2, vi 14, vr a1, vi 14, vr b5, vr b5] rfl ?_
  refine st136 _ ?_
  refine st137 _ ?_
  refine own_b X137 hx hby tb3 7 [true, false] 294 (L_riiir a1 p2 p3 p4 b5) [] (ai (feq P25).2 (ai (teq P26).2 rfl)) ?_
  refine st139 _ ?_
  refine own_b X139 hx hby tb3 2 [] 300 _ [vi 13, vr b138, vr b138] rfl ?_
  refine st144 _ ?_
  refine own_a X144 hx hZ e144 hby tb3 (aec F145 aen) 5 [] [0] 308 _ [vi (nar .char p13), vi 0, vr b143, vr b143, vr b138, vr b138] (ai rfl rfl) ?_
  refine st146 _ ?_
  refine own_a X146 hx hZ e146 hby tb3 (aec F148 aen) 5 [] [0] 315 _ [vi (nar .char p21), vi 1, vr b143, vr b143, vr b138, vr b138] (ai rfl rfl) ?_
  refine st149 _ ?_
  refine own_a X149 hx hZ e149 hby tb3 (aec F150 aen) 5 [] [0] 322 _ [vi (nar .char p31), vi 2, vr b143, vr b143, vr b138, vr b138] (ai rfl rfl) ?_
  refine st151 _ ?_
  refine own_a X151 hx hZ e151 hby tb3 (aec F152 aen) 5 [] [0] 329 _ [vi (nar .char p39), vi 3, vr b143, vr b143, vr b138, vr b138] (ai rfl rfl) ?_
  refine st153 _ ?_
  refine own_a X153 hx hZ e153 hby tb3 (aec F154 aen) 5 [] [0] 336 _ [vi (nar .char p47), vi 4, vr b143, vr b143, vr b138, vr b138] (ai rfl rfl) ?_
  refine st155 _ ?_
  refine own_a X155 hx hZ e155 hby tb3 (aec F156 aen) 5 [] [0] 343 _ [vi (nar .char p56), vi 5, vr b143, vr b143, vr b138, vr b138] (ai rfl rfl) ?_
  refine st157 _ ?_
  refine own_a X157 hx hZ e157 hby tb3 (aec F158 aen) 5 [] [0] 352 _ [vi (nar .char p64), vi 6, vr b143, vr b143, vr b138, vr b138] (ai rfl rfl) ?_
  refine st159 _ ?_
  refine own_a X159 hx hZ e159 hby tb3 (aec F160 aen) 5 [] [0] 361 _ [vi (nar .char p72), vi 7, vr b143, vr b143, vr b138, vr b138] (ai rfl rfl) ?_
  refine st161 _ ?_
  refine own_a X161 hx hZ e161 hby tb3 (aec F162 aen) 5 [] [0] 370 _ [vi (nar .char p80), vi 8, vr b143, vr b143, vr b138, vr b138] (ai rfl rfl) ?_
  refine st163 _ ?_
  refine own_a X163 hx hZ e163 hby tb3 (aec F164 aen) 5 [] [0] 379 _ [vi (nar .char p88), vi 9, vr b143, vr b143, vr b138, vr b138] (ai rfl rfl) ?_
  refine st165 _ ?_
  refine own_a X165 hx hZ e165 hby tb3 (aec F166 aen) 5 [] [0] 388 _ [vi (nar .char p97), vi 10, vr b143, vr b143, vr b138, vr b138] (ai rfl rfl) ?_
  refine st167 _ ?_
  refine own_a X167 hx hZ e167 hby tb3 (aec F168 aen) 5 [] [0] 397 _ [vi (nar .char p105), vi 11, vr b143, vr b143, vr b138, vr b138] (ai rfl rfl) ?_
  refine st169 _ ?_
  refine own_a X169 hx hZ e169 hby tb3 (aec F170 aen) 5 [] [0] 406 _ [vi (nar .char p113), vi 12, vr b143, vr b143, vr b138, vr b138] (ai rfl rfl) ?_
  refine st171 _ ?_
  refine st177 _ ?_
  exact own_retA X177 hx hret rfl (hb hby d3_410) hr
theorem rm17_1 (hw : OW Z a0) (a1 : Addr) (w3 : ClassId) (a4 a5 a6 : Addr) (Z0 : n0 ≤ h0.size) (P1 : ab3 Z (vr a1)) (P2 : Old Z n0 h0) (P3 : ab11 Z Z.heap a1) (P4 : Arv Z Z.heap a1 w3 (.object "com/example/sinkwatch/sinkwatch/Flaw") (3 : Int32) [vr a4, vr a5, vr a6] .null) :
    M17 l Z ws (orm 1 1 3 14) #[] h0 (fun v h L => ∃ b8 : Addr, v = some (vr b8) ∧ Fr n0 L ∧ Keep h0 h [] ∧ n0 ≤ b8 ∧ h0.size ≤ b8 ∧ ab11 Z h b8 ∧ Arv Z h b8 w3 (.object "com/example/sinkwatch/sinkwatch/Flaw") (3 : Int32) [vr a4, vr a5, vr a6] .null) := by
  refine own_enter (plainFor_of_name pn_5) (L0 := #[]) ?_
  intro p e s m below meth c s₁ hx hby hml hown hnm hret hZ X0 e0
  have N0 := Fr.nil n0
  obtain ⟨T2, X2, e2, st2⟩ := getS2 X0 hx hZ hown (host := "") (Or.inl (tw_80 hw)) Via.refl e0 (Sta.ext P2.2 P1) (g := (mkF m 0 #[] [])) rfl (hb hby d17_0)
  obtain ⟨T7, h7, X7, e7, E7, V7, B7, st7⟩ := cloneH X2 hx hZ hown (tw_82 hw) (tw_83 hw) (tw_87 hw) (tw_85 hw) (tw_86 hw) (tw_88 hw) e2 (Arv.arh (P4.ext P2.2)) (Exa.ext P2.2 P3) (g := (mkF m 3 #[] [vr a1])) rfl (by rw [hml]; rfl) rfl (hb hby d17_3) (by decide) (W := 0) (cap := 3) (by show 2 * 0 + _ ≤ _; exact Nat.le_of_eq rfl) (by decide) (by decide) (by decide) (by decide)
  obtain ⟨b8, g7⟩ : ∃ z, z = h0.size := ⟨_, rfl⟩
  rw [← g7] at V7 B7 st7
  have q7 := Nat.le_trans Z0 (Nat.le_of_eq g7.symm)
  have z7 := Nat.le_trans (Nat.le_refl h0.size) (Nat.le_of_eq g7.symm)
  have Va7 : Arv Z h7 b8 w3 (.object "com/example/sinkwatch/sinkwatch/Flaw") (3 : Int32) [vr a4, vr a5, vr a6] .null := V7
  obtain ⟨T9, X9, e9, st9⟩ := castY X7 hx hZ hown (tw_93 hw) e7 (Ins.self B7) (g := (mkF m 6 #[] [vr b8])) rfl rfl (hb hby d17_6)
  have K10 := (Keep.refl h0 []).ext E7
  refine ⟨T9, _, _, _, _, some (vr b8), X9, e9, by decide, by decide, nofun, ⟨b8, rfl, N0, K10, q7, z7, B7, Va7⟩, fun fs hr => ?_⟩
  show OS p e below s₁ m 0 #[] [] _
  refine st2 _ ?_
  refine st7 _ ?_
  refine st9 _ ?_
  exact own_retA X9 hx hret rfl (hb hby d17_9) hr
theorem rm16_1 (hw : OW Z a0) (a1 a2 : Addr) (w3 : ClassId) (a4 a5 a6 a9 a12 a13 : Addr) (w14 w15 : ClassId) (p16 p17 p18 p19 p20 p21 p22 p23 p24 p25 p26 p27 p28 p29 : Int32) (a36 a38 : Addr) (w39 : ClassId) (a42 a44 : Addr) (w45 : ClassId) (Z0 : n0 ≤ h0.size) (P1 : ab3 Z (vr a2)) (P2 : Old Z n0 h0) (P3 : ab11 Z Z.heap a2) (P4 : Arv Z Z.heap a2 w3 (.object "com/example/sinkwatch/sinkwatch/Flaw") (3 : Int32) [vr a4, vr a5, vr a6] .null) (P5 : ab9 Z Z.heap a4 (vr a9)) (P6 : ab10 Z Z.heap a9) (P7 : ab10 Z h0 a1) (P8 : ab7 Z Z.heap a9 (vi 0)) (P9 : ab7 Z h0 a1 (vi 0)) (P10 : ab8 Z Z.heap a9 (vr a12)) (P11 : ab8 Z h0 a1 (vr a13)) (P12 : Arv Z Z.heap a12 w14 .byte (13 : Int32) bl3 (vi 0)) (P13 : Arv Z h0 a13 w15 .byte (13 : Int32) [vi p16, vi p17, vi p18, vi p19, vi p20, vi p21, vi p22, vi p23, vi p24, vi p25, vi p26, vi p27, vi p28] (vi 0)) (P14 : ab1 Z (vi p29)) (P15 : ¬ (p29 = (0 : Int32))) (P16 : n0 ≤ a1) (P17 : (va35 p16 p17 p18 p19 p20 p21 p22 p23 p24 p25 p26 p27 p28) = (0 : Int32)) (P18 : ab9 Z Z.heap a5 (vr a36)) (P19 : ab10 Z Z.heap a36) (P20 : ab7 Z Z.heap a36 (vi 0)) (P21 : ab8 Z Z.heap a36 (vr a38)) (P22 : Arv Z Z.heap a38 w39 .byte (14 : Int32) bl1 (vi 0)) (P23 : ab9 Z Z.heap a6 (vr a42)) (P24 : ab10 Z Z.heap a42) (P25 : ab7 Z Z.heap a42 (vi 0)) (P26 : ab8 Z Z.heap a42 (vr a44)) (P27 : Arv Z Z.heap a44 w45 .byte (13 : Int32) bl6 (vi 0)) (P28 : (va37 p16 p17 p18 p19 p20 p21 p22 p23 p24 p25 p26 p27 p28) = (0 : Int32)) :
    M16 l Z ws (orm 2 1 3 28) #[vr a1] h0 (fun v h L => v = some .null ∧ Fr n0 L ∧ Keep h0 h []) := by
  refine own_enter (plainFor_of_name pn_5) (L0 := (L_ruuuu a1)) ?_
  intro p e s m below meth c s₁ hx hby hml hown hnm hret hZ X0 e0
  have N0 := Fr.nil n0
  obtain ⟨T7, L7, _, X7, ⟨b8, rfl, N7q, K7, qa7_0, qb7_0, f7_0, f7_1⟩, st7⟩ := own_callS X0 hx hZ hown (cw_10 hw) (rm17_1 hw a2 w3 a4 a5 a6 Z0 P1 P2 P3 P4) e0 (Ls := (L_ruuuu a1)) hml [] [] pd_14 0 (hb hby d16_0)
  have N7 := Fr.app N0 N7q
  have qd7_0 := Nat.le_trans (Nat.le_refl h0.size) qb7_0
  have F10 := (P2.keep K7 all0)
  obtain ⟨T11, X11, e11, st11⟩ := getF X7 hx hZ hown (host := "") (Or.inl (tw_95 hw)) Via.refl rfl (Fld.ext F10.2 P5) (g := (mkF m 21 (L_rriir a1 b8 3 0 a4) [vr a4])) rfl rfl (hb hby d16_21)
  have n30 := Old.ne P2 P6.lt P16
  have F31 := (Exa.keep P7 K7)
  have F32 := (Fld.keep P9 K7 nin0)
  have F33 := (Fld.keep P11 K7 nin0)
  have F34 := (Arv.keep P13 K7 nin0)
  obtain ⟨T35, L35, _, X35, ⟨rfl, N35q, e35q⟩, st35⟩ := own_callV X11 hx hZ hown (tw_97 hw) (tw_98 hw) (notFace_of_selects (args := #[]) (mvT hZ (tw_100 hw))) (tw_100 hw) (tw_99 hw) (tw_2 hw) (tw_101 hw) (own_eq18 hw a9 a1 a12 a13 w14 w15 bl4 ([p16, p17, p18, p19, p20, p21, p22, p23, p24, p25, p26, p27, p28]) p29 (va35 p16 p17 p18 p19 p20 p21 p22 p23 p24 p25 p26 p27 p28) (Nat.le_trans Z0 K7.1) n30 F31 P14 F10 P15 (Fld.ext F10.2 P8) F32 (Fld.ext F10.2 P10) F33 (P12.ext F10.2) F34) e11 (Exa.ext F10.2 P6) (Ls := (L_rriir a1 b8 3 0 a4)) hml [vr a1] [] pd_16 0 (hb hby d16_25)
  have N35 := Fr.app N7 N35q
  obtain ⟨T37, X37, e37, st37⟩ := getF X35 hx hZ hown (host := "") (Or.inl (tw_95 hw)) Via.refl e35q (Fld.ext F10.2 P18) (g := (mkF m 21 (L_rriir a1 b8 3 1 a5) [vr a5])) rfl rfl (hb hby d16_21)
  have n40 := Old.ne P2 P19.lt P16
  obtain ⟨T41, L41, _, X41, ⟨rfl, N41q, e41q⟩, st41⟩ := own_callV X37 hx hZ hown (tw_97 hw) (tw_98 hw) (notFace_of_selects (args := #[]) (mvT hZ (tw_100 hw))) (tw_100 hw) (tw_99 hw) (tw_2 hw) (tw_101 hw) (own_eq18 hw a36 a1 a38 a13 w39 w15 bl5 ([p16, p17, p18, p19, p20, p21, p22, p23, p24, p25, p26, p27, p28]) p29 0 (Nat.le_trans Z0 K7.1) n40 F31 P14 F10 P15 (Fld.ext F10.2 P20) F32 (Fld.ext F10.2 P21) F33 (P22.ext F10.2) F34) e37 (Exa.ext F10.2 P19) (Ls := (L_rriir a1 b8 3 1 a5)) hml [vr a1] [] pd_16 0 (hb hby d16_25)
  have N41 := Fr.app N35 N41q
  obtain ⟨T43, X43, e43, st43⟩ := getF X41 hx hZ hown (host := "") (Or.inl (tw_95 hw)) Via.refl e41q (Fld.ext F10.2 P23) (g := (mkF m 21 (L_rriir a1 b8 3 2 a6) [vr a6])) rfl rfl (hb hby d16_21)
  have n46 := Old.ne P2 P24.lt P16
  obtain ⟨T47, L47, _, X47, ⟨rfl, N47q, e47q⟩, st47⟩ := own_callV X43 hx hZ hown (tw_97 hw) (tw_98 hw) (notFace_of_selects (args := #[]) (mvT hZ (tw_100 hw))) (tw_100 hw) (tw_99 hw) (tw_2 hw) (tw_101 hw) (own_eq18 hw a42 a1 a44 a13 w45 w15 bl7 ([p16, p17, p18, p19, p20, p21, p22, p23, p24, p25, p26, p27, p28]) p29 (va37 p16 p17 p18 p19 p20 p21 p22 p23 p24 p25 p26 p27 p28) (Nat.le_trans Z0 K7.1) n46 F31 P14 F10 P15 (Fld.ext F10.2 P25) F32 (Fld.ext F10.2 P26) F33 (P27.ext F10.2) F34) e43 (Exa.ext F10.2 P24) (Ls := (L_rriir a1 b8 3 2 a6)) hml [vr a1] [] pd_16 0 (hb hby d16_25)
  have N47 := Fr.app N41 N47q
  have K48 := (Keep.refl h0 []).trans K7 all0
  refine ⟨T47, _, _, _, _, some .null, X47, e47q, by decide, by decide, nofun, ⟨rfl, N47, K48⟩, fun fs hr => ?_⟩
  show OS p e below s₁ m 0 (L_ruuuu a1) [] _
  refine st7 _ ?_
  refine own_a X7 hx hZ rfl hby tb16 (aec f7_1 aen) 11 [false] [0] 16 (L_rriiu a1 b8 3 0) [vi 0, vr b8] (ai rfl (ai (by decide) rfl)) ?_
  refine own_aaload X7 hx hZ rfl f7_1 rfl (by decide) rfl (hb hby d16_16) _ ?_
  refine own_b X7 hx hby tb16 2 [] 21 (L_rriir a1 b8 3 0 a4) [vr a4] rfl ?_
  refine st11 _ ?_
  refine own_b X11 hx hby tb16 1 [] 25 _ [vr a1, vr a9] rfl ?_
  refine st35 _ ?_
  refine own_b X35 hx hby tb16 8 [true, false] 16 (L_rriir a1 b8 3 1 a4) [vi 1, vr b8] (ai (teq P17).1 (ai (by decide) rfl)) ?_
  refine own_aaload X35 hx hZ e35q f7_1 rfl (by decide) rfl (hb hby d16_16) _ ?_
  refine own_b X35 hx hby tb16 2 [] 21 (L_rriir a1 b8 3 1 a5) [vr a5] rfl ?_
  refine st37 _ ?_
  refine own_b X37 hx hby tb16 1 [] 25 _ [vr a1, vr a36] rfl ?_
  refine st41 _ ?_
  refine own_b X41 hx hby tb16 8 [true, false] 16 (L_rriir a1 b8 3 2 a5) [vi 2, vr b8] (ai (by decide) (ai (by decide) rfl)) ?_
  refine own_aaload X41 hx hZ e41q f7_1 rfl (by decide) rfl (hb hby d16_16) _ ?_
  refine own_b X41 hx hby tb16 2 [] 21 (L_rriir a1 b8 3 2 a6) [vr a6] rfl ?_
  refine st43 _ ?_
  refine own_b X43 hx hby tb16 1 [] 25 _ [vr a1, vr a42] rfl ?_
  refine st47 _ ?_
  refine own_b X47 hx hby tb16 7 [true, true] 41 (L_rriir a1 b8 3 3 a6) [.null] (ai (teq P28).1 (ai (by decide) rfl)) ?_
  exact own_retNull X47 hx hret rfl (hb hby d16_41) hr
theorem ef20_1 (m : MethodId) (a1 a3 : Addr) (w4 : ClassId) (p5 p6 p7 p8 p9 p10 p11 p12 p13 p14 p15 p16 p17 p18 : Int32) : entryFrame m #[vr a1] 1 = mkF m 0 #[sr a1] [] := by first | rfl | (simp [entryFrame, mkF, argsToLocals, Value.category]; done)
def Q20_1 (Z : State) (a1 a3 : Addr) (w4 : ClassId) (p5 p6 p7 p8 p9 p10 p11 p12 p13 p14 p15 p16 p17 p18 : Int32) (h0 : Heap) (n0 : Nat) (v : Option Value) (h : Heap) (L : List Loc) : Prop := v = some .null ∧ Fr n0 L ∧ Keep h0 h []
theorem rm20_1 (hw : OW Z a0) (a1 a3 : Addr) (w4 : ClassId) (p5 p6 p7 p8 p9 p10 p11 p12 p13 p14 p15 p16 p17 p18 : Int32) (Z0 : n0 ≤ h0.size) (P1 : ab10 Z h0 a1) (P2 : ab7 Z h0 a1 (vi 0)) (P3 : ab8 Z h0 a1 (vr a3)) (P4 : Arv Z h0 a3 w4 .byte (13 : Int32) [vi p5, vi p6, vi p7, vi p8, vi p9, vi p10, vi p11, vi p12, vi p13, vi p14, vi p15, vi p16, vi p17] (vi 0)) (P5 : ab1 Z (vi p18)) (P6 : ¬ (p18 = (0 : Int32))) (P7 : Old Z n0 h0) (P8 : (va39 p5 p6 p7 p8 p9 p10 p11 p12 p13 p14 p15 p16 p17) = (0 : Int32)) (P9 : (va41 p5 p6 p7 p8 p9 p10 p11 p12 p13 p14 p15 p16 p17) = (0 : Int32)) :
    MetFree l y18 (head1 (Jvm.Cond.code y18 method_4_code 1 (some (.object "com/example/sinkwatch/sinkwatch/Flaw")) :: ws) (orm 2 6 172 28)) (fun a U => a = #[vr a1] ∧ Z.Warmed39 U.vm ∧ U.heap = h0 ∧ CHv Z consts_1 U.vm h0 ∧ ∀ x ∈ ([a1] : List Addr), Safe Z consts_1 U.vm h0 x) (fun _ _ _ _ _ => True) (fun _ U o U' => ∃ v L, o = .returned v ∧ Q20_1 Z a1 a3 w4 p5 p6 p7 p8 p9 p10 p11 p12 p13 p14 p15 p16 p17 p18 h0 n0 v U'.heap L ∧ ReturnedEndW U o U' L (orm 2 6 172 28).cells (orm 2 6 172 28).slots) := by
  refine MetFree.of_bodySF (plainFor_of_name pn_3) hisR ?_
  intro p e s m args below meth c s₁ Bd hml0 hP hK
  obtain ⟨rfl, hZ, hh, hH, hSf⟩ := hP
  have hx := Bd.exec
  have hby := Bd.bytes
  have hml : c.maxLocals = 1 := hml0
  have hown : s.vm.findClass "com/example/sinkwatch/sinkwatch/FlawNamedPinLaw" = some m.cls := findClass_of_methodNamed Bd.named
  have hnm := (name_of_methodNamed Bd.named Bd.method).1
  have hret := Bd.returns
  have X0 : Stand p l e (orm 2 6 172 28) s m #[vr a1] below meth c s₁ [] 0 0 := Stand.of_body Bd
  have e0 : s₁.heap = h0 := by rw [← hh, Bd.state]; rfl
  have N0 := Fr.nil n0
  have pre0 : ∀ t, Steps p.tables e below (s₁.setTop (mkF m 0 #[sr a1] [])) t → Steps p.tables e below (s₁.setTop (entryFrame m #[vr a1] 1)) t := fun t k => castTop (ef20_1 m a1 a3 w4 p5 p6 p7 p8 p9 p10 p11 p12 p13 p14 p15 p16 p17 p18) k
  obtain ⟨b2a, T2, h2, k2, b2b, kl2, X2, e2, E2, hS2, hk2, hZ2, hown2, fa2, fb2, fc2, fd2, -, -, CH2, LT2, LN2, st2⟩ := ldcCH (s := s) (vm0 := s.vm) (show Stand _ _ _ _ (s.setVm s.vm) _ _ _ _ _ _ _ _ _ from X0) hx hZ hown (tw_1 hw) (own_wS hw) e0 (State.WarmedH.since (State.WarmedH.refl s) 0) (Nat.zero_le _) (own_EW hw) (List.mem_of_getElem? (i := 0) rfl) hH (vs := [(vi 115), (vi 113), (vi 108), (vi 45), (vi 105), (vi 110), (vi 106), (vi 101), (vi 99), (vi 116), (vi 105), (vi 111), (vi 110)]) (z := (13 : Int32)) (by decide +kernel) (by decide) (by decide) (g := (mkF m 1 #[sr a1] [vr a1])) rfl (hb hby d20_1) (n := 52) (by decide) (by decide) (by decide) (by decide)
  have F19 := (CHr.safe CH2 P1.lt (hSf _ (List.mem_of_getElem? (i := 0) rfl)))
  have F20 := (LN2 _ F19).1
  have F21 := (P7.ext E2)
  have F22 := (Fld.ext E2 P2)
  have F23 := (Fld.ext E2 P3)
  have F24 := (P4.ext E2)
  have F26 := (Exa.ext E2 P1)
  obtain ⟨T25, L25, _, X25, ⟨rfl, N25q, e25q⟩, st25⟩ := own_callV X2 hx hZ2 hown2 (tw_109 hw) (tw_98 hw) (notFace_of_selects (args := #[]) (mvT hZ2 (tw_100 hw))) (tw_100 hw) (tw_99 hw) (tw_2 hw) (tw_101 hw) (own_eq18 hw a1 b2a a3 b2b w4 kl2 ([p5, p6, p7, p8, p9, p10, p11, p12, p13, p14, p15, p16, p17]) bl4 p18 (va39 p5 p6 p7 p8 p9 p10 p11 p12 p13 p14 p15 p16 p17) (lx Z0 E2) F20 fa2 P5 F21 P6 F22 fb2 F23 fc2 F24 fd2) e2 F26 (Ls := #[sr a1]) hml [vr b2a] [] pd_16 0 (hb hby d20_3)
  have N25 := Fr.app N0 N25q
  have F27 := CH2.1
  obtain ⟨b28a, T28, h28, k28, b28b, kl28, X28, e28, E28, hS28, hk28, hZ28, hown28, fa28, fb28, fc28, fd28, -, -, CH28, LT28, LN28, st28⟩ := ldcCH (s := s) (vm0 := T2.vm) X25 hx hZ2 hown2 (tw_110 hw) (own_wS hw) e25q hS2 hk2 (own_EW hw) (List.mem_of_getElem? (i := 1) rfl) F27 (vs := [(vi 112), (vi 97), (vi 116), (vi 104), (vi 45), (vi 116), (vi 114), (vi 97), (vi 118), (vi 101), (vi 114), (vi 115), (vi 97), (vi 108)]) (z := (14 : Int32)) (by decide +kernel) (by decide) (by decide) (g := (mkF m 14 #[sr a1] [vr a1])) rfl (hb hby d20_14) (n := 56) (by decide) (by decide) (by decide) (by decide)
  have F29 := (CHr.safe CH28 F22.lt F19)
  have F30 := (LN28 _ F29).1
  have F31 := (F21.ext E28)
  have F32 := (Fld.ext E28 F22)
  have F33 := (Fld.ext E28 F23)
  have F34 := (F24.ext E28)
  have F36 := (Exa.ext E28 F26)
  obtain ⟨T35, L35, _, X35, ⟨rfl, N35q, e35q⟩, st35⟩ := own_callV X28 hx hZ28 hown28 (tw_109 hw) (tw_98 hw) (notFace_of_selects (args := #[]) (mvT hZ28 (tw_100 hw))) (tw_100 hw) (tw_99 hw) (tw_2 hw) (tw_101 hw) (own_eq18 hw a1 b28a a3 b28b w4 kl28 ([p5, p6, p7, p8, p9, p10, p11, p12, p13, p14, p15, p16, p17]) bl5 p18 0 (lx (lx Z0 E2) E28) F30 fa28 P5 F31 P6 F32 fb28 F33 fc28 F34 fd28) e28 F36 (Ls := #[sr a1]) hml [vr b28a] [] pd_16 0 (hb hby d20_16)
  have N35 := Fr.app N25 N35q
  have F37 := CH28.1
  obtain ⟨b38a, T38, h38, k38, b38b, kl38, X38, e38, E38, hS38, hk38, hZ38, hown38, fa38, fb38, fc38, fd38, -, -, CH38, LT38, LN38, st38⟩ := ldcCH (s := s) (vm0 := T28.vm) X35 hx hZ28 hown28 (tw_111 hw) (own_wS hw) e35q hS28 hk28 (own_EW hw) (List.mem_of_getElem? (i := 2) rfl) F37 (vs := [(vi 111), (vi 112), (vi 101), (vi 110), (vi 45), (vi 114), (vi 101), (vi 100), (vi 105), (vi 114), (vi 101), (vi 99), (vi 116)]) (z := (13 : Int32)) (by decide +kernel) (by decide) (by decide) (g := (mkF m 27 #[sr a1] [vr a1])) rfl (hb hby d20_27) (n := 52) (by decide) (by decide) (by decide) (by decide)
  have F39 := (CHr.safe CH38 F32.lt F29)
  have F40 := (LN38 _ F39).1
  have F41 := (F31.ext E38)
  have F42 := (Fld.ext E38 F32)
  have F43 := (Fld.ext E38 F33)
  have F44 := (F34.ext E38)
  have F46 := (Exa.ext E38 F36)
  obtain ⟨T45, L45, _, X45, ⟨rfl, N45q, e45q⟩, st45⟩ := own_callV X38 hx hZ38 hown38 (tw_109 hw) (tw_98 hw) (notFace_of_selects (args := #[]) (mvT hZ38 (tw_100 hw))) (tw_100 hw) (tw_99 hw) (tw_2 hw) (tw_101 hw) (own_eq18 hw a1 b38a a3 b38b w4 kl38 ([p5, p6, p7, p8, p9, p10, p11, p12, p13, p14, p15, p16, p17]) bl7 p18 (va41 p5 p6 p7 p8 p9 p10 p11 p12 p13 p14 p15 p16 p17) (lx (lx (lx Z0 E2) E28) E38) F40 fa38 P5 F41 P6 F42 fb38 F43 fc38 F44 fd38) e38 F46 (Ls := #[sr a1]) hml [vr b38a] [] pd_16 0 (hb hby d20_29)
  have N45 := Fr.app N35 N45q
  have K47 := (Keep.refl h0 []).ext E2
  have K48 := K47.ext E28
  have K49 := K48.ext E38
  obtain ⟨fs, hr, hrun, hended, hRE⟩ := X45.leaveW hS38 (by rw [e45q]; exact hk38) (v := some .null) (fun h => by rw [hret] at h; cases h)
  refine ⟨_, _, pre0 _ ?_, hrun, hended, _, _, rfl, ?_, hRE.1, hRE.2.1, hRE.2.2.1, hRE.2.2.2.mono (by decide) (by decide)⟩
  · refine own_b X0 hx hby tb20 1 [] 1 _ [vr a1] rfl ?_
    refine st2 _ ?_
    refine st25 _ ?_
    refine own_b X25 hx hby tb20 2 [true] 14 _ [vr a1] (ai (teq P8).1 rfl) ?_
    refine st28 _ ?_
    refine st35 _ ?_
    refine own_b X35 hx hby tb20 2 [true] 27 _ [vr a1] (ai (by decide) rfl) ?_
    refine st38 _ ?_
    refine st45 _ ?_
    refine own_b X45 hx hby tb20 2 [true] 40 _ [.null] (ai (teq P9).1 rfl) ?_
    exact own_retNull X45 hx hret rfl (hb hby d20_40) hr
  · show Q20_1 Z a1 a3 w4 p5 p6 p7 p8 p9 p10 p11 p12 p13 p14 p15 p16 p17 p18 h0 n0 _ T45.heap _
    rw [e45q]
    exact ⟨rfl, N45, K49⟩
theorem rm14_2 (hw : OW Z a0) (a1 a2 : Addr) (w3 : ClassId) (p4 p5 p6 p7 p8 p9 p10 p11 p12 p13 p14 p15 p16 p17 : Int32) (w18 : ClassId) (Z0 : n0 ≤ h0.size) (P1 : Arv Z h0 a1 w3 .char (14 : Int32) [vi p4, vi p5, vi p6, vi p7, vi p8, vi p9, vi p10, vi p11, vi p12, vi p13, vi p14, vi p15, vi p16, vi p17] (vi 0)) (P2 : ¬ ((255 : Int32) < p4)) (P3 : Arv Z h0 a2 w18 .byte (14 : Int32) bl8 (vi 0)) (P4 : n0 ≤ a2) (P5 : a1 ≠ a2) (P6 : ¬ ((255 : Int32) < p5)) (P7 : ¬ ((255 : Int32) < p6)) (P8 : ¬ ((255 : Int32) < p7)) (P9 : ¬ ((255 : Int32) < p8)) (P10 : ¬ ((255 : Int32) < p9)) (P11 : ¬ ((255 : Int32) < p10)) (P12 : ¬ ((255 : Int32) < p11)) (P13 : ¬ ((255 : Int32) < p12)) (P14 : ¬ ((255 : Int32) < p13)) (P15 : ¬ ((255 : Int32) < p14)) (P16 : ¬ ((255 : Int32) < p15)) (P17 : ¬ ((255 : Int32) < p16)) (P18 : ¬ ((255 : Int32) < p17)) :
    M14 l Z ws (orm 0 0 0 0) #[vr a1, vi 0, vr a2, vi 0, vi 14] h0 (fun v h L => v = some (vi 14) ∧ Fr n0 L ∧ Keep h0 h [a2] ∧ Arv Z h a2 w18 .byte (14 : Int32) [vi (va21 p4), vi (va21 p5), vi (va21 p6), vi (va21 p7), vi (va21 p8), vi (va21 p9), vi (va21 p10), vi (va21 p11), vi (va21 p12), vi (va21 p13), vi (va21 p14), vi (va21 p15), vi (va21 p16), vi (va21 p17)] (vi 0)) := by
  refine own_enter (plainFor_of_name pn_4) (L0 := (L_ririiuu a1 0 a2 0 14)) ?_
  intro p e s m below meth c s₁ hx hby hml hown hnm hret hZ X0 e0
  have N0 := Fr.nil n0
  obtain ⟨T19, h19, X19, e19, W19, V19, st19⟩ := own_stB X0 hx hZ e0 P3 (j := (0 : Int32)) (x := (p4.toInt8.toInt32)) 0 (Ls := (L_ririiii a1 0 a2 0 14 0 p4)) (rest := []) (hb hby d14_31)
  have N19 := Fr.snoc X19 N0 P4
  have F20 := (Arv.other P1 W19 P5)
  obtain ⟨T21, h21, X21, e21, W21, V21, st21⟩ := own_stB X19 hx hZ e19 V19 (j := (1 : Int32)) (x := (p5.toInt8.toInt32)) 1 (Ls := (L_ririiii a1 1 a2 1 14 1 p5)) (rest := []) (hb hby d14_31)
  have N21 := Fr.snoc X21 N19 P4
  have F22 := (Arv.other F20 W21 P5)
  obtain ⟨T23, h23, X23, e23, W23, V23, st23⟩ := own_stB X21 hx hZ e21 V21 (j := (2 : Int32)) (x := (p6.toInt8.toInt32)) 2 (Ls := (L_ririiii a1 2 a2 2 14 2 p6)) (rest := []) (hb hby d14_31)
  have N23 := Fr.snoc X23 N21 P4
  have F24 := (Arv.other F22 W23 P5)
  obtain ⟨T25, h25, X25, e25, W25, V25, st25⟩ := own_stB X23 hx hZ e23 V23 (j := (3 : Int32)) (x := (p7.toInt8.toInt32)) 3 (Ls := (L_ririiii a1 3 a2 3 14 3 p7)) (rest := []) (hb hby d14_31)
  have N25 := Fr.snoc X25 N23 P4
  have F26 := (Arv.other F24 W25 P5)
  obtain ⟨T27, h27, X27, e27, W27, V27, st27⟩ := own_stB X25 hx hZ e25 V25 (j := (4 : Int32)) (x := (p8.toInt8.toInt32)) 4 (Ls := (L_ririiii a1 4 a2 4 14 4 p8)) (rest := []) (hb hby d14_31)
  have N27 := Fr.snoc X27 N25 P4
  have F28 := (Arv.other F26 W27 P5)
  obtain ⟨T29, h29, X29, e29, W29, V29, st29⟩ := own_stB X27 hx hZ e27 V27 (j := (5 : Int32)) (x := (p9.toInt8.toInt32)) 5 (Ls := (L_ririiii a1 5 a2 5 14 5 p9)) (rest := []) (hb hby d14_31)
  have N29 := Fr.snoc X29 N27 P4
  have F30 := (Arv.other F28 W29 P5)
  obtain ⟨T31, h31, X31, e31, W31, V31, st31⟩ := own_stB X29 hx hZ e29 V29 (j := (6 : Int32)) (x := (p10.toInt8.toInt32)) 6 (Ls := (L_ririiii a1 6 a2 6 14 6 p10)) (rest := []) (hb hby d14_31)
  have N31 := Fr.snoc X31 N29 P4
  have F32 := (Arv.other F30 W31 P5)
  obtain ⟨T33, h33, X33, e33, W33, V33, st33⟩ := own_stB X31 hx hZ e31 V31 (j := (7 : Int32)) (x := (p11.toInt8.toInt32)) 7 (Ls := (L_ririiii a1 7 a2 7 14 7 p11)) (rest := []) (hb hby d14_31)
  have N33 := Fr.snoc X33 N31 P4
  have F34 := (Arv.other F32 W33 P5)
  obtain ⟨T35, h35, X35, e35, W35, V35, st35⟩ := own_stB X33 hx hZ e33 V33 (j := (8 : Int32)) (x := (p12.toInt8.toInt32)) 8 (Ls := (L_ririiii a1 8 a2 8 14 8 p12)) (rest := []) (hb hby d14_31)
  have N35 := Fr.snoc X35 N33 P4
  have F36 := (Arv.other F34 W35 P5)
  obtain ⟨T37, h37, X37, e37, W37, V37, st37⟩ := own_stB X35 hx hZ e35 V35 (j := (9 : Int32)) (x := (p13.toInt8.toInt32)) 9 (Ls := (L_ririiii a1 9 a2 9 14 9 p13)) (rest := []) (hb hby d14_31)
  have N37 := Fr.snoc X37 N35 P4
  have F38 := (Arv.other F36 W37 P5)
  obtain ⟨T39, h39, X39, e39, W39, V39, st39⟩ := own_stB X37 hx hZ e37 V37 (j := (10 : Int32)) (x := (p14.toInt8.toInt32)) 10 (Ls := (L_ririiii a1 10 a2 10 14 10 p14)) (rest := []) (hb hby d14_31)
  have N39 := Fr.snoc X39 N37 P4
  have F40 := (Arv.other F38 W39 P5)
  obtain ⟨T41, h41, X41, e41, W41, V41, st41⟩ := own_stB X39 hx hZ e39 V39 (j := (11 : Int32)) (x := (p15.toInt8.toInt32)) 11 (Ls := (L_ririiii a1 11 a2 11 14 11 p15)) (rest := []) (hb hby d14_31)
  have N41 := Fr.snoc X41 N39 P4
  have F42 := (Arv.other F40 W41 P5)
  obtain ⟨T43, h43, X43, e43, W43, V43, st43⟩ := own_stB X41 hx hZ e41 V41 (j := (12 : Int32)) (x := (p16.toInt8.toInt32)) 12 (Ls := (L_ririiii a1 12 a2 12 14 12 p16)) (rest := []) (hb hby d14_31)
  have N43 := Fr.snoc X43 N41 P4
  have F44 := (Arv.other F42 W43 P5)
  obtain ⟨T45, h45, X45, e45, W45, V45, st45⟩ := own_stB X43 hx hZ e43 V43 (j := (13 : Int32)) (x := (p17.toInt8.toInt32)) 13 (Ls := (L_ririiii a1 13 a2 13 14 13 p17)) (rest := []) (hb hby d14_31)
  have N45 := Fr.snoc X45 N43 P4
  have K46 := (Keep.refl h0 [a2]).wr W19 (Or.inl (List.mem_of_getElem? (i := 0) rfl))
  have K47 := K46.wr W21 (Or.inl (List.mem_of_getElem? (i := 0) rfl))
  have K48 := K47.wr W23 (Or.inl (List.mem_of_getElem? (i := 0) rfl))
  have K49 := K48.wr W25 (Or.inl (List.mem_of_getElem? (i := 0) rfl))
  have K50 := K49.wr W27 (Or.inl (List.mem_of_getElem? (i := 0) rfl))
  have K51 := K50.wr W29 (Or.inl (List.mem_of_getElem? (i := 0) rfl))
  have K52 := K51.wr W31 (Or.inl (List.mem_of_getElem? (i := 0) rfl))
  have K53 := K52.wr W33 (Or.inl (List.mem_of_getElem? (i := 0) rfl))
  have K54 := K53.wr W35 (Or.inl (List.mem_of_getElem? (i := 0) rfl))
  have K55 := K54.wr W37 (Or.inl (List.mem_of_getElem? (i := 0) rfl))
  have K56 := K55.wr W39 (Or.inl (List.mem_of_getElem? (i := 0) rfl))
  have K57 := K56.wr W41 (Or.inl (List.mem_of_getElem? (i := 0) rfl))
  have K58 := K57.wr W43 (Or.inl (List.mem_of_getElem? (i := 0) rfl))
  have K59 := K58.wr W45 (Or.inl (List.mem_of_getElem? (i := 0) rfl))
  refine ⟨T45, _, _, _, _, some (vi 14), X45, e45, by decide, by decide, nofun, ⟨rfl, N45, K59, V45⟩, fun fs hr => ?_⟩
  refine own_a X0 hx hZ e0 hby tb14 (aec P1 aen) 16 [false, true] [0] 31 (L_ririiii a1 0 a2 0 14 0 p4) [vi (p4.toInt8.toInt32), vi 0, vr a2] (ai (by decide) (ai rfl (ai (flt P2).2.2.2 rfl))) ?_
  refine st19 _ ?_
  refine own_a X19 hx hZ e19 hby tb14 (aec F20 aen) 18 [false, true] [0] 31 (L_ririiii a1 1 a2 1 14 1 p5) [vi (p5.toInt8.toInt32), vi 1, vr a2] (ai (by decide) (ai rfl (ai (flt P6).2.2.2 rfl))) ?_
  refine st21 _ ?_
  refine own_a X21 hx hZ e21 hby tb14 (aec F22 aen) 18 [false, true] [0] 31 (L_ririiii a1 2 a2 2 14 2 p6) [vi (p6.toInt8.toInt32), vi 2, vr a2] (ai (by decide) (ai rfl (ai (flt P7).2.2.2 rfl))) ?_
  refine st23 _ ?_
  refine own_a X23 hx hZ e23 hby tb14 (aec F24 aen) 18 [false, true] [0] 31 (L_ririiii a1 3 a2 3 14 3 p7) [vi (p7.toInt8.toInt32), vi 3, vr a2] (ai (by decide) (ai rfl (ai (flt P8).2.2.2 rfl))) ?_
  refine st25 _ ?_
  refine own_a X25 hx hZ e25 hby tb14 (aec F26 aen) 18 [false, true] [0] 31 (L_ririiii a1 4 a2 4 14 4 p8) [vi (p8.toInt8.toInt32), vi 4, vr a2] (ai (by decide) (ai rfl (ai (flt P9).2.2.2 rfl))) ?_
  refine st27 _ ?_
  refine own_a X27 hx hZ e27 hby tb14 (aec F28 aen) 18 [false, true] [0] 31 (L_ririiii a1 5 a2 5 14 5 p9) [vi (p9.toInt8.toInt32), vi 5, vr a2] (ai (by decide) (ai rfl (ai (flt P10).2.2.2 rfl))) ?_
  refine st29 _ ?_
  refine own_a X29 hx hZ e29 hby tb14 (aec F30 aen) 18 [false, true] [0] 31 (L_ririiii a1 6 a2 6 14 6 p10) [vi (p10.toInt8.toInt32), vi 6, vr a2] (ai (by decide) (ai rfl (ai (flt P11).2.2.2 rfl))) ?_
  refine st31 _ ?_
  refine own_a X31 hx hZ e31 hby tb14 (aec F32 aen) 18 [false, true] [0] 31 (L_ririiii a1 7 a2 7 14 7 p11) [vi (p11.toInt8.toInt32), vi 7, vr a2] (ai (by decide) (ai rfl (ai (flt P12).2.2.2 rfl))) ?_
  refine st33 _ ?_
  refine own_a X33 hx hZ e33 hby tb14 (aec F34 aen) 18 [false, true] [0] 31 (L_ririiii a1 8 a2 8 14 8 p12) [vi (p12.toInt8.toInt32), vi 8, vr a2] (ai (by decide) (ai rfl (ai (flt P13).2.2.2 rfl))) ?_
  refine st35 _ ?_
  refine own_a X35 hx hZ e35 hby tb14 (aec F36 aen) 18 [false, true] [0] 31 (L_ririiii a1 9 a2 9 14 9 p13) [vi (p13.toInt8.toInt32), vi 9, vr a2] (ai (by decide) (ai rfl (ai (flt P14).2.2.2 rfl))) ?_
  refine st37 _ ?_
  refine own_a X37 hx hZ e37 hby tb14 (aec F38 aen) 18 [false, true] [0] 31 (L_ririiii a1 10 a2 10 14 10 p14) [vi (p14.toInt8.toInt32), vi 10, vr a2] (ai (by decide) (ai rfl (ai (flt P15).2.2.2 rfl))) ?_
  refine st39 _ ?_
  refine own_a X39 hx hZ e39 hby tb14 (aec F40 aen) 18 [false, true] [0] 31 (L_ririiii a1 11 a2 11 14 11 p15) [vi (p15.toInt8.toInt32), vi 11, vr a2] (ai (by decide) (ai rfl (ai (flt P16).2.2.2 rfl))) ?_
  refine st41 _ ?_
  refine own_a X41 hx hZ e41 hby tb14 (aec F42 aen) 18 [false, true] [0] 31 (L_ririiii a1 12 a2 12 14 12 p16) [vi (p16.toInt8.toInt32), vi 12, vr a2] (ai (by decide) (ai rfl (ai (flt P17).2.2.2 rfl))) ?_
  refine st43 _ ?_
  refine own_a X43 hx hZ e43 hby tb14 (aec F44 aen) 18 [false, true] [0] 31 (L_ririiii a1 13 a2 13 14 13 p17) [vi (p17.toInt8.toInt32), vi 13, vr a2] (ai (by decide) (ai rfl (ai (flt P18).2.2.2 rfl))) ?_
  refine st45 _ ?_
  refine own_b X45 hx hby tb14 8 [true] 46 (L_ririiii a1 14 a2 14 14 14 p17) [vi 14] (ai (by decide) rfl) ?_
  exact retI X45 hx hret (hb hby d14_46) hr
theorem rm13_2 (hw : OW Z a0) (a1 : Addr) (w4 : ClassId) (p5 p6 p7 p8 p9 p10 p11 p12 p13 p14 p15 p16 p17 p18 : Int32) (Z0 : n0 ≤ h0.size) (P1 : Arv Z h0 a1 w4 .char (14 : Int32) [vi p5, vi p6, vi p7, vi p8, vi p9, vi p10, vi p11, vi p12, vi p13, vi p14, vi p15, vi p16, vi p17, vi p18] (vi 0)) (P2 : ¬ ((255 : Int32) < p5)) (P3 : ¬ ((255 : Int32) < p6)) (P4 : ¬ ((255 : Int32) < p7)) (P5 : ¬ ((255 : Int32) < p8)) (P6 : ¬ ((255 : Int32) < p9)) (P7 : ¬ ((255 : Int32) < p10)) (P8 : ¬ ((255 : Int32) < p11)) (P9 : ¬ ((255 : Int32) < p12)) (P10 : ¬ ((255 : Int32) < p13)) (P11 : ¬ ((255 : Int32) < p14)) (P12 : ¬ ((255 : Int32) < p15)) (P13 : ¬ ((255 : Int32) < p16)) (P14 : ¬ ((255 : Int32) < p17)) (P15 : ¬ ((255 : Int32) < p18)) :
    M13 l Z ws (orm 1 1 14 18) #[vr a1, vi 0, vi 14] h0 (fun v h L => ∃ b2 : Addr, ∃ k3 : ClassId, v = some (vr b2) ∧ Fr n0 L ∧ Keep h0 h [] ∧ n0 ≤ b2 ∧ h0.size ≤ b2 ∧ Arv Z h b2 k3 .byte (14 : Int32) [vi (va21 p5), vi (va21 p6), vi (va21 p7), vi (va21 p8), vi (va21 p9), vi (va21 p10), vi (va21 p11), vi (va21 p12), vi (va21 p13), vi (va21 p14), vi (va21 p15), vi (va21 p16), vi (va21 p17), vi (va21 p18)] (vi 0)) := by
  refine own_enter (plainFor_of_name pn_4) (L0 := (L_riiuuu a1 0 14)) ?_
  intro p e s m below meth c s₁ hx hby hml hown hnm hret hZ X0 e0
  have N0 := Fr.nil n0
  obtain ⟨T3, h3, b2, k3, X3, e3, E3, g3, V3, st3⟩ := own_newP X0 hx hZ (tw_4 hw) e0 (n := (14 : Int32)) (k := 14) (d := (vi 0)) (vs := [vi 0, vi 0, vi 0, vi 0, vi 0, vi 0, vi 0, vi 0, vi 0, vi 0, vi 0, vi 0, vi 0, vi 0]) (Ls := (L_riiuuu a1 0 14)) (S := []) (hb hby d13_1)
  have q3 := Nat.le_trans Z0 g3
  have z3 := Nat.le_trans (Nat.le_refl h0.size) g3
  have F19 := (P1.ext E3)
  have n20 := Nat.ne_of_lt (Nat.lt_of_lt_of_le P1.lt g3)
  obtain ⟨T21, L21, _, X21, ⟨rfl, N21q, K21, f21_0⟩, st21⟩ := own_callS X3 hx hZ hown (cw_4 hw) (rm14_2 hw a1 b2 w4 p5 p6 p7 p8 p9 p10 p11 p12 p13 p14 p15 p16 p17 p18 k3 (lx Z0 E3) F19 P2 V3 q3 n20 P3 P4 P5 P6 P7 P8 P9 P10 P11 P12 P13 P14 P15) e3 (Ls := (L_riiruu a1 0 14 b2)) hml [vr a1, vi 0, vr b2, vi 0, vi 14] [] pd_8 0 (hb hby d13_9)
  have N21 := Fr.app N0 N21q
  have K22 := (Keep.refl h0 []).ext E3
  have K23 := K22.trans K21 (allS (Or.inr z3) all0)
  refine ⟨T21, _, _, _, _, some (vr b2), X21, rfl, by decide, by decide, nofun, ⟨b2, k3, rfl, N21, K23, q3, z3, f21_0⟩, fun fs hr => ?_⟩
  refine own_b X0 hx hby tb13 1 [] 1 _ [vi 14] rfl ?_
  refine st3 _ ?_
  refine own_b X3 hx hby tb13 6 [] 9 (L_riiruu a1 0 14 b2) [vi 14, vi 0, vr b2, vi 0, vr a1] rfl ?_
  refine st21 _ ?_
  refine own_b X21 hx hby tb13 5 [true] 58 (L_riiriu a1 0 14 b2 14) [vr b2] (ai (by decide) rfl) ?_
  exact own_retA X21 hx hret rfl (hb hby d13_58) hr
theorem rm15_2 (hw : OW Z a0) (a1 : Addr) (w2 : ClassId) (p3 p4 p5 p6 p7 p8 p9 p10 p11 p12 p13 p14 p15 p16 : Int32) (Z0 : n0 ≤ h0.size) (P1 : Arv Z h0 a1 w2 .byte (14 : Int32) [vi p3, vi p4, vi p5, vi p6, vi p7, vi p8, vi p9, vi p10, vi p11, vi p12, vi p13, vi p14, vi p15, vi p16] (vi 0)) :
    M15 l Z ws (orm 0 0 0 0) #[vr a1, vi 14] h0 (QI n0 h0 (vi 0)) := by
  refine own_enter (plainFor_of_name pn_4) (L0 := (L_ri a1 14)) ?_
  intro p e s m below meth c s₁ hx hby hml hown hnm hret hZ X0 e0
  have N0 := Fr.nil n0
  refine ⟨s₁, _, _, _, _, some (vi 0), X0, e0, by decide, by decide, nofun, ⟨rfl, N0, rfl⟩, fun fs hr => ?_⟩
  refine own_a X0 hx hZ e0 hby tb15 (aec P1 aen) 7 [] [0] 8 _ [vi 0] (ai rfl rfl) ?_
  exact retN X0 hx (t := .byte) hret (by simp) (hb hby d15_8) hr
theorem rm11_2 (hw : OW Z a0) (a1 a2 : Addr) (p4 : Int32) (w6 : ClassId) (p7 p8 p9 p10 p11 p12 p13 p14 p15 p16 p17 p18 p19 p20 : Int32) (Z0 : n0 ≤ h0.size) (P1 : ab1 Z (vi p4)) (P2 : Old Z n0 h0) (P3 : ¬ (p4 = (0 : Int32))) (P4 : Arv Z h0 a2 w6 .char (14 : Int32) [vi p7, vi p8, vi p9, vi p10, vi p11, vi p12, vi p13, vi p14, vi p15, vi p16, vi p17, vi p18, vi p19, vi p20] (vi 0)) (P5 : ¬ ((255 : Int32) < p7)) (P6 : ¬ ((255 : Int32) < p8)) (P7 : ¬ ((255 : Int32) < p9)) (P8 : ¬ ((255 : Int32) < p10)) (P9 : ¬ ((255 : Int32) < p11)) (P10 : ¬ ((255 : Int32) < p12)) (P11 : ¬ ((255 : Int32) < p13)) (P12 : ¬ ((255 : Int32) < p14)) (P13 : ¬ ((255 : Int32) < p15)) (P14 : ¬ ((255 : Int32) < p16)) (P15 : ¬ ((255 : Int32) < p17)) (P16 : ¬ ((255 : Int32) < p18)) (P17 : ¬ ((255 : Int32) < p19)) (P18 : ¬ ((255 : Int32) < p20)) (P19 : ab7 Z h0 a1 (vi 0)) (P20 : ab10 Z h0 a1) (P21 : n0 ≤ a1) (P22 : ab8 Z h0 a1 .null) :
    M11 l Z ws (orm 2 1 14 35) #[vr a1, vr a2, vi 0, vi 14, .null] h0 (fun v h L => ∃ b22 : Addr, ∃ kk21_0 : ClassId, v = none ∧ Fr n0 L ∧ Keep h0 h [a1] ∧ n0 ≤ b22 ∧ h0.size ≤ b22 ∧ ab7 Z h a1 (vi 0) ∧ ab8 Z h a1 (vr b22) ∧ Arv Z h b22 kk21_0 .byte (14 : Int32) [vi (va21 p7), vi (va21 p8), vi (va21 p9), vi (va21 p10), vi (va21 p11), vi (va21 p12), vi (va21 p13), vi (va21 p14), vi (va21 p15), vi (va21 p16), vi (va21 p17), vi (va21 p18), vi (va21 p19), vi (va21 p20)] (vi 0)) := by
  refine own_enter (plainFor_of_name pn_0) (L0 := (L_rriinu a1 a2 0 14)) ?_
  intro p e s m below meth c s₁ hx hby hml hown hnm hret hZ X0 e0
  have N0 := Fr.nil n0
  obtain ⟨T3, X3, e3, st3⟩ := initO X0 hx hZ hown (tw_60 hw) (tw_61 hw) (tw_62 hw) e0 (g := (mkF m 1 (L_rriinu a1 a2 0 14) [vr a1])) rfl (by rw [hml]; rfl) rfl (hb hby d11_1) (by decide) (W := 0) (by show 2 * 0 + _ ≤ _; exact Nat.le_of_eq rfl) (by decide)
  obtain ⟨T5, X5, e5, st5⟩ := getS2 X3 hx hZ hown (host := "") (Or.inl (tw_20 hw)) Via.refl e3 (Sta.ext P2.2 P1) (g := (mkF m 27 (L_rriinu a1 a2 0 14) [])) rfl (hb hby d11_27)
  obtain ⟨T21, L21, _, X21, ⟨b22, kk21_0, rfl, N21q, K21, qa21_0, qb21_0, f21_0⟩, st21⟩ := own_callS X5 hx hZ hown (cw_5 hw) (rm13_2 hw a2 w6 p7 p8 p9 p10 p11 p12 p13 p14 p15 p16 p17 p18 p19 p20 Z0 P4 P5 P6 P7 P8 P9 P10 P11 P12 P13 P14 P15 P16 P17 P18) e5 (Ls := (L_rriinu a1 a2 0 14)) hml [vr a2, vi 0, vi 14] [] pd_9 0 (hb hby d11_36)
  have N21 := Fr.app N0 N21q
  have qd21_0 := Nat.le_trans (Nat.le_refl h0.size) qb21_0
  obtain ⟨T23, L23, _, X23, ⟨rfl, N23q, e23q⟩, st23⟩ := own_callS X21 hx hZ hown (cw_6 hw) (rm15_2 hw b22 kk21_0 (va21 p7) (va21 p8) (va21 p9) (va21 p10) (va21 p11) (va21 p12) (va21 p13) (va21 p14) (va21 p15) (va21 p16) (va21 p17) (va21 p18) (va21 p19) (va21 p20) (Nat.le_trans Z0 K21.1) f21_0) rfl (Ls := (L_rriinr a1 a2 0 14 b22)) hml [vr b22, vi 14] [vr a1] pd_10 1 (hb hby d11_45)
  have N23 := Fr.app N21 N23q
  have F24 := (Fld.keep P19 K21 nin0)
  have F25 := (Exa.keep P20 K21)
  obtain ⟨T26, h26, X26, e26, W26, st26⟩ := putF X23 hx hZ hown (host := "") (Or.inl (tw_21 hw)) Via.refl e23q F24 F25 (Or.inr ⟨(tw_6 hw), rfl, hnm⟩) (tw_3 hw) (ty := .byte) (by decide) rfl rfl (g := (mkF m 48 (L_rriinr a1 a2 0 14 b22) [vi 0, vr a1])) rfl rfl (hb hby d11_48)
  have N26 := Fr.snoc X26 N23 P21
  have Fw26 := Fld.same W26 F24
  have F27 := (Fld.other W26 (Fld.keep P22 K21 nin0) (Or.inr (slot_ne (Or.inr (tw_5 hw)) (Or.inr (tw_6 hw)) (by decide) (t := (.array .byte)) (t' := .byte) (by decide) (by decide))))
  have F28 := (Exa.wr W26 F25)
  obtain ⟨T29, h29, X29, e29, W29, st29⟩ := putF X26 hx hZ hown (host := "") (Or.inl (tw_14 hw)) Via.refl e26 F27 F28 (Or.inr ⟨(tw_5 hw), rfl, hnm⟩) (tw_3 hw) (ty := (.array .byte)) (by decide) rfl rfl (g := (mkF m 54 (L_rriinr a1 a2 0 14 b22) [vr b22, vr a1])) rfl rfl (hb hby d11_54)
  have N29 := Fr.snoc X29 N26 P21
  have Fw29 := Fld.same W29 F27
  have F30 := (Fld.other W29 Fw26 (Or.inr (slot_ne (Or.inr (tw_6 hw)) (Or.inr (tw_5 hw)) (by decide) (t := .byte) (t' := (.array .byte)) (by decide) (by decide))))
  have n31 := Nat.ne_of_lt (Nat.lt_of_lt_of_le P19.lt qb21_0)
  have F32 := (Arv.other (Arv.other f21_0 W26 (Ne.symm n31)) W29 (Ne.symm n31))
  have K33 := (Keep.refl h0 [a1]).trans K21 all0
  have K34 := K33.wr W26 (Or.inl (List.mem_of_getElem? (i := 0) rfl))
  have K35 := K34.wr W29 (Or.inl (List.mem_of_getElem? (i := 0) rfl))
  refine ⟨T29, _, _, _, _, none, X29, e29, by decide, by decide, (fun _ => rfl), ⟨b22, kk21_0, rfl, N29, K35, qa21_0, qd21_0, F30, Fw29, F32⟩, fun fs hr => ?_⟩
  refine own_b X0 hx hby tb11 1 [] 1 _ [vr a1] rfl ?_
  refine st3 _ ?_
  refine own_b X3 hx hby tb11 2 [true] 27 _ [] (ai (by decide) rfl) ?_
  refine st5 _ ?_
  refine own_b X5 hx hby tb11 4 [false] 36 _ [vi 14, vi 0, vr a2] (ai (feq P3).1 rfl) ?_
  refine st21 _ ?_
  refine own_b X21 hx hby tb11 4 [] 45 (L_rriinr a1 a2 0 14 b22) [vi 14, vr b22, vr a1] rfl ?_
  refine st23 _ ?_
  refine st26 _ ?_
  refine own_b X26 hx hby tb11 2 [] 54 _ [vr b22, vr a1] rfl ?_
  refine st29 _ ?_
  show OS p e below T29 m 57 (L_rriinr a1 a2 0 14 b22) [] _
  exact X29.returnOut hx hret (hb hby d11_57) hr
theorem rm10_2 (hw : OW Z a0) (a1 a2 : Addr) (w3 : ClassId) (p4 p5 p6 p7 p8 p9 p10 p11 p12 p13 p14 p15 p16 p17 p18 : Int32) (Z0 : n0 ≤ h0.size) (P1 : Arv Z h0 a2 w3 .char (14 : Int32) [vi p4, vi p5, vi p6, vi p7, vi p8, vi p9, vi p10, vi p11, vi p12, vi p13, vi p14, vi p15, vi p16, vi p17] (vi 0)) (P2 : ab1 Z (vi p18)) (P3 : Old Z n0 h0) (P4 : ¬ (p18 = (0 : Int32))) (P5 : ¬ ((255 : Int32) < p4)) (P6 : ¬ ((255 : Int32) < p5)) (P7 : ¬ ((255 : Int32) < p6)) (P8 : ¬ ((255 : Int32) < p7)) (P9 : ¬ ((255 : Int32) < p8)) (P10 : ¬ ((255 : Int32) < p9)) (P11 : ¬ ((255 : Int32) < p10)) (P12 : ¬ ((255 : Int32) < p11)) (P13 : ¬ ((255 : Int32) < p12)) (P14 : ¬ ((255 : Int32) < p13)) (P15 : ¬ ((255 : Int32) < p14)) (P16 : ¬ ((255 : Int32) < p15)) (P17 : ¬ ((255 : Int32) < p16)) (P18 : ¬ ((255 : Int32) < p17)) (P19 : ab7 Z h0 a1 (vi 0)) (P20 : ab10 Z h0 a1) (P21 : n0 ≤ a1) (P22 : ab8 Z h0 a1 .null) :
    M10 l Z ws (orm 3 1 14 52) #[vr a1, vr a2] h0 (fun v h L => ∃ b20 : Addr, ∃ kk19_0 : ClassId, v = none ∧ Fr n0 L ∧ Keep h0 h [a1] ∧ n0 ≤ b20 ∧ h0.size ≤ b20 ∧ ab7 Z h a1 (vi 0) ∧ ab8 Z h a1 (vr b20) ∧ Arv Z h b20 kk19_0 .byte (14 : Int32) [vi (va21 p4), vi (va21 p5), vi (va21 p6), vi (va21 p7), vi (va21 p8), vi (va21 p9), vi (va21 p10), vi (va21 p11), vi (va21 p12), vi (va21 p13), vi (va21 p14), vi (va21 p15), vi (va21 p16), vi (va21 p17)] (vi 0)) := by
  refine own_enter (plainFor_of_name pn_0) (L0 := (L_rr a1 a2)) ?_
  intro p e s m below meth c s₁ hx hby hml hown hnm hret hZ X0 e0
  have N0 := Fr.nil n0
  obtain ⟨T19, L19, _, X19, ⟨b20, kk19_0, rfl, N19q, K19, qa19_0, qb19_0, f19_0, f19_1, f19_2⟩, st19⟩ := own_callI X0 hx hZ hown (cw_7 hw) (rm11_2 hw a1 a2 p18 w3 p4 p5 p6 p7 p8 p9 p10 p11 p12 p13 p14 p15 p16 p17 Z0 P2 P3 P4 P1 P5 P6 P7 P8 P9 P10 P11 P12 P13 P14 P15 P16 P17 P18 P19 P20 P21 P22) e0 (Ls := (L_rr a1 a2)) hml a1 [vr a2, vi 0, vi 14, .null] [] pd_11 0 (hb hby d10_6)
  have N19 := Fr.app N0 N19q
  have qd19_0 := Nat.le_trans (Nat.le_refl h0.size) qb19_0
  have K21 := (Keep.refl h0 [a1]).trans K19 (allS (Or.inl (List.mem_of_getElem? (i := 0) rfl)) all0)
  refine ⟨T19, _, _, _, _, none, X19, rfl, by decide, by decide, (fun _ => rfl), ⟨b20, kk19_0, rfl, N19, K21, qa19_0, qd19_0, f19_0, f19_1, f19_2⟩, fun fs hr => ?_⟩
  refine own_a X0 hx hZ e0 hby tb10 (aec P1 aen) 6 [] [0] 6 _ [.null, vi 14, vi 0, vr a2, vr a1] (ai rfl rfl) ?_
  refine st19 _ ?_
  show OS p e below T19 m 9 (L_rr a1 a2) [] _
  exact X19.returnOut hx hret (hb hby d10_9) hr
theorem rm3_2 (hw : OW Z a0) (a1 : Addr) (p2 p3 p4 : Int32) (a7 : Addr) (w8 : ClassId) (p9 : Int32) (w10 : (List Value)) (p11 : Int32) (a12 : Value) (p13 p21 p31 p39 p47 p56 p64 p72 p80 p88 p97 p105 p113 p121 p130 : Int32) (Z0 : n0 ≤ h0.size) (P1 : ab8 Z h0 a1 (vr a7)) (P2 : Arv Z h0 a7 w8 .byte p9 w10 (vi 0)) (P3 : ab7 Z h0 a1 (vi 0)) (P4 : ab10 Z h0 a1) (P5 : ab1 Z (vi p11)) (P6 : ab2 Z a12) (P7 : ¬ (p11 = (0 : Int32))) (P8 : CV p9 w10 (vi 0) (0 : Int32) p2 p3 p13) (P9 : Old Z n0 h0) (P10 : a12.isRef = true) (P11 : CV p9 w10 (vi 0) (1 : Int32) p2 p3 p21) (P12 : CV p9 w10 (vi 0) (2 : Int32) p2 p3 p31) (P13 : CV p9 w10 (vi 0) (3 : Int32) p2 p3 p39) (P14 : CV p9 w10 (vi 0) (4 : Int32) p2 p3 p47) (P15 : CV p9 w10 (vi 0) (5 : Int32) p2 p3 p56) (P16 : CV p9 w10 (vi 0) (6 : Int32) p2 p3 p64) (P17 : CV p9 w10 (vi 0) (7 : Int32) p2 p3 p72) (P18 : CV p9 w10 (vi 0) (8 : Int32) p2 p3 p80) (P19 : CV p9 w10 (vi 0) (9 : Int32) p2 p3 p88) (P20 : CV p9 w10 (vi 0) (10 : Int32) p2 p3 p97) (P21 : CV p9 w10 (vi 0) (11 : Int32) p2 p3 p105) (P22 : CV p9 w10 (vi 0) (12 : Int32) p2 p3 p113) (P23 : CV p9 w10 (vi 0) (13 : Int32) p2 p3 p121) (P24 : CV p9 w10 (vi 0) (14 : Int32) p2 p3 p130) (P25 : ¬ (p4 = (12 : Int32))) (P26 : ¬ (p4 = (13 : Int32))) (P27 : p4 = (14 : Int32)) (P28 : ¬ ((255 : Int32) < (va20 p13))) (P29 : ¬ ((255 : Int32) < (va20 p21))) (P30 : ¬ ((255 : Int32) < (va20 p31))) (P31 : ¬ ((255 : Int32) < (va20 p39))) (P32 : ¬ ((255 : Int32) < (va20 p47))) (P33 : ¬ ((255 : Int32) < (va20 p56))) (P34 : ¬ ((255 : Int32) < (va20 p64))) (P35 : ¬ ((255 : Int32) < (va20 p72))) (P36 : ¬ ((255 : Int32) < (va20 p80))) (P37 : ¬ ((255 : Int32) < (va20 p88))) (P38 : ¬ ((255 : Int32) < (va20 p97))) (P39 : ¬ ((255 : Int32) < (va20 p105))) (P40 : ¬ ((255 : Int32) < (va20 p113))) (P41 : ¬ ((255 : Int32) < (va20 p121))) :
    M3 l Z ws (orm 5 4 47 71) #[vr a1, vi p2, vi p3, vi p4] h0 (fun v h L => ∃ b138 : Addr, ∃ b181 : Addr, ∃ kk179_0 : ClassId, v = some (vr b138) ∧ Fr n0 L ∧ Keep h0 h [] ∧ n0 ≤ b138 ∧ h0.size ≤ b138 ∧ n0 ≤ b181 ∧ h0.size ≤ b181 ∧ b138 ≠ b181 ∧ ab10 Z h b138 ∧ ab7 Z h b138 (vi 0) ∧ ab8 Z h b138 (vr b181) ∧ Arv Z h b181 kk179_0 .byte (14 : Int32) [vi (va21 (va20 p13)), vi (va21 (va20 p21)), vi (va21 (va20 p31)), vi (va21 (va20 p39)), vi (va21 (va20 p47)), vi (va21 (va20 p56)), vi (va21 (va20 p64)), vi (va21 (va20 p72)), vi (va21 (va20 p80)), vi (va21 (va20 p88)), vi (va21 (va20 p97)), vi (va21 (va20 p105)), vi (va21 (va20 p113)), vi (va21 (va20 p121))] (vi 0)) := by
  refine own_enter (plainFor_of_name pn_3) (L0 := (L_riiiu a1 p2 p3 p4)) ?_
  intro p e s m below meth c s₁ hx hby hml hown hnm hret hZ X0 e0
  have N0 := Fr.nil n0
  obtain ⟨T6, h6, b5, k6, X6, e6, E6, g6, V6, st6⟩ := own_newP X0 hx hZ (tw_26 hw) e0 (n := (15 : Int32)) (k := 15) (d := (vi 0)) (vs := [vi 0, vi 0, vi 0, vi 0, vi 0, vi 0, vi 0, vi 0, vi 0, vi 0, vi 0, vi 0, vi 0, vi 0, vi 0]) (Ls := (L_riiiu a1 p2 p3 p4)) (S := []) (hb hby d3_2)
  have q6 := Nat.le_trans Z0 g6
  have z6 := Nat.le_trans (Nat.le_refl h0.size) g6
  have F14 := (Exa.ext E6 P4)
  have F15 := (Fld.ext E6 P1)
  have F16 := (P2.ext E6)
  have F17 := (P9.ext E6)
  have F18 := (Fld.ext E6 P3)
  obtain ⟨T19, L19, _, X19, ⟨rfl, N19q, e19q⟩, st19⟩ := own_callS X6 hx hZ hown (cw_3 hw) (own_cell hw a1 0 p2 p3 p13 a7 w8 p11 a12 (lx Z0 E6) F14 F15 F16 P5 F17 P7 F18 P6 P10 P8) e6 (Ls := (L_riiiu a1 p2 p3 p4)) hml [vr a1, vi 0, vi p2, vi p3] [vi 0, vr b5, vr b5] pd_7 3 (hb hby d3_10)
  have N19 := Fr.app N0 N19q
  obtain ⟨T20, h20, X20, e20, W20, V20, st20⟩ := own_stC X19 hx hZ e19q V6 (j := (0 : Int32)) (x := p13) 0 (Ls := (L_riiiu a1 p2 p3 p4)) (rest := [vr b5]) (hb hby d3_13)
  have N20 := Fr.snoc X20 N19 q6
  have F22 := (Exa.wr W20 F14)
  have n23 := Nat.ne_of_lt (Nat.lt_of_lt_of_le P1.lt g6)
  have F24 := (Fld.other W20 F15 (Or.inl n23))
  have n25 := Nat.ne_of_lt (Nat.lt_of_lt_of_le P2.lt g6)
  have F26 := (Arv.other F16 W20 n25)
  have F27 := (F17.wr W20 q6)
  have F28 := (Fld.other W20 F18 (Or.inl n23))
  obtain ⟨T29, L29, _, X29, ⟨rfl, N29q, e29q⟩, st29⟩ := own_callS X20 hx hZ hown (cw_3 hw) (own_cell hw a1 1 p2 p3 p21 a7 w8 p11 a12 (lw (lx Z0 E6) W20) F22 F24 F26 P5 F27 P7 F28 P6 P10 P11) e20 (Ls := (L_riiiu a1 p2 p3 p4)) hml [vr a1, vi 1, vi p2, vi p3] [vi 1, vr b5, vr b5] pd_7 3 (hb hby d3_20)
  have N29 := Fr.app N20 N29q
  obtain ⟨T30, h30, X30, e30, W30, V30, st30⟩ := own_stC X29 hx hZ e29q V20 (j := (1 : Int32)) (x := p21) 1 (Ls := (L_riiiu a1 p2 p3 p4)) (rest := [vr b5]) (hb hby d3_23)
  have N30 := Fr.snoc X30 N29 q6
  have F32 := (Exa.wr W30 F22)
  have F33 := (Fld.other W30 F24 (Or.inl n23))
  have F34 := (Arv.other F26 W30 n25)
  have F35 := (F27.wr W30 q6)
  have F36 := (Fld.other W30 F28 (Or.inl n23))
  obtain ⟨T37, L37, _, X37, ⟨rfl, N37q, e37q⟩, st37⟩ := own_callS X30 hx hZ hown (cw_3 hw) (own_cell hw a1 2 p2 p3 p31 a7 w8 p11 a12 (lw (lw (lx Z0 E6) W20) W30) F32 F33 F34 P5 F35 P7 F36 P6 P10 P12) e30 (Ls := (L_riiiu a1 p2 p3 p4)) hml [vr a1, vi 2, vi p2, vi p3] [vi 2, vr b5, vr b5] pd_7 3 (hb hby d3_30)
  have N37 := Fr.app N30 N37q
  obtain ⟨T38, h38, X38, e38, W38, V38, st38⟩ := own_stC X37 hx hZ e37q V30 (j := (2 : Int32)) (x := p31) 2 (Ls := (L_riiiu a1 p2 p3 p4)) (rest := [vr b5]) (hb hby d3_33)
  have N38 := Fr.snoc X38 N37 q6
  have F40 := (Exa.wr W38 F32)
  have F41 := (Fld.other W38 F33 (Or.inl n23))
  have F42 := (Arv.other F34 W38 n25)
  have F43 := (F35.wr W38 q6)
  have F44 := (Fld.other W38 F36 (Or.inl n23))
  obtain ⟨T45, L45, _, X45, ⟨rfl, N45q, e45q⟩, st45⟩ := own_callS X38 hx hZ hown (cw_3 hw) (own_cell hw a1 3 p2 p3 p39 a7 w8 p11 a12 (lw (lw (lw (lx Z0 E6) W20) W30) W38) F40 F41 F42 P5 F43 P7 F44 P6 P10 P13) e38 (Ls := (L_riiiu a1 p2 p3 p4)) hml [vr a1, vi 3, vi p2, vi p3] [vi 3, vr b5, vr b5] pd_7 3 (hb hby d3_40)
  have N45 := Fr.app N38 N45q
  obtain ⟨T46, h46, X46, e46, W46, V46, st46⟩ := own_stC X45 hx hZ e45q V38 (j := (3 : Int32)) (x := p39) 3 (Ls := (L_riiiu a1 p2 p3 p4)) (rest := [vr b5]) (hb hby d3_43)
  have N46 := Fr.snoc X46 N45 q6
  have F48 := (Exa.wr W46 F40)
  have F49 := (Fld.other W46 F41 (Or.inl n23))
  have F50 := (Arv.other F42 W46 n25)
  have F51 := (F43.wr W46 q6)
  have F52 := (Fld.other W46 F44 (Or.inl n23))
  have F54 := (lw (lw (lw (lw (lx Z0 E6) W20) W30) W38) W46)
  obtain ⟨T53, L53, _, X53, ⟨rfl, N53q, e53q⟩, st53⟩ := own_callS X46 hx hZ hown (cw_3 hw) (own_cell hw a1 4 p2 p3 p47 a7 w8 p11 a12 F54 F48 F49 F50 P5 F51 P7 F52 P6 P10 P14) e46 (Ls := (L_riiiu a1 p2 p3 p4)) hml [vr a1, vi 4, vi p2, vi p3] [vi 4, vr b5, vr b5] pd_7 3 (hb hby d3_50)
  have N53 := Fr.app N46 N53q
  obtain ⟨T55, h55, X55, e55, W55, V55, st55⟩ := own_stC X53 hx hZ e53q V46 (j := (4 : Int32)) (x := p47) 4 (Ls := (L_riiiu a1 p2 p3 p4)) (rest := [vr b5]) (hb hby d3_53)
  have N55 := Fr.snoc X55 N53 q6
  have F57 := (Exa.wr W55 F48)
  have F58 := (Fld.other W55 F49 (Or.inl n23))
  have F59 := (Arv.other F50 W55 n25)
  have F60 := (F51.wr W55 q6)
  have F61 := (Fld.other W55 F52 (Or.inl n23))
  obtain ⟨T62, L62, _, X62, ⟨rfl, N62q, e62q⟩, st62⟩ := own_callS X55 hx hZ hown (cw_3 hw) (own_cell hw a1 5 p2 p3 p56 a7 w8 p11 a12 (lw F54 W55) F57 F58 F59 P5 F60 P7 F61 P6 P10 P15) e55 (Ls := (L_riiiu a1 p2 p3 p4)) hml [vr a1, vi 5, vi p2, vi p3] [vi 5, vr b5, vr b5] pd_7 3 (hb hby d3_60)
  have N62 := Fr.app N55 N62q
  obtain ⟨T63, h63, X63, e63, W63, V63, st63⟩ := own_stC X62 hx hZ e62q V55 (j := (5 : Int32)) (x := p56) 5 (Ls := (L_riiiu a1 p2 p3 p4)) (rest := [vr b5]) (hb hby d3_63)
  have N63 := Fr.snoc X63 N62 q6
  have F65 := (Exa.wr W63 F57)
  have F66 := (Fld.other W63 F58 (Or.inl n23))
  have F67 := (Arv.other F59 W63 n25)
  have F68 := (F60.wr W63 q6)
  have F69 := (Fld.other W63 F61 (Or.inl n23))
  obtain ⟨T70, L70, _, X70, ⟨rfl, N70q, e70q⟩, st70⟩ := own_callS X63 hx hZ hown (cw_3 hw) (own_cell hw a1 6 p2 p3 p64 a7 w8 p11 a12 (lw (lw F54 W55) W63) F65 F66 F67 P5 F68 P7 F69 P6 P10 P16) e63 (Ls := (L_riiiu a1 p2 p3 p4)) hml [vr a1, vi 6, vi p2, vi p3] [vi 6, vr b5, vr b5] pd_7 3 (hb hby d3_72)
  have N70 := Fr.app N63 N70q
  obtain ⟨T71, h71, X71, e71, W71, V71, st71⟩ := own_stC X70 hx hZ e70q V63 (j := (6 : Int32)) (x := p64) 6 (Ls := (L_riiiu a1 p2 p3 p4)) (rest := [vr b5]) (hb hby d3_75)
  have N71 := Fr.snoc X71 N70 q6
  have F73 := (Exa.wr W71 F65)
  have F74 := (Fld.other W71 F66 (Or.inl n23))
  have F75 := (Arv.other F67 W71 n25)
  have F76 := (F68.wr W71 q6)
  have F77 := (Fld.other W71 F69 (Or.inl n23))
  obtain ⟨T78, L78, _, X78, ⟨rfl, N78q, e78q⟩, st78⟩ := own_callS X71 hx hZ hown (cw_3 hw) (own_cell hw a1 7 p2 p3 p72 a7 w8 p11 a12 (lw (lw (lw F54 W55) W63) W71) F73 F74 F75 P5 F76 P7 F77 P6 P10 P17) e71 (Ls := (L_riiiu a1 p2 p3 p4)) hml [vr a1, vi 7, vi p2, vi p3] [vi 7, vr b5, vr b5] pd_7 3 (hb hby d3_84)
  have N78 := Fr.app N71 N78q
  obtain ⟨T79, h79, X79, e79, W79, V79, st79⟩ := own_stC X78 hx hZ e78q V71 (j := (7 : Int32)) (x := p72) 7 (Ls := (L_riiiu a1 p2 p3 p4)) (rest := [vr b5]) (hb hby d3_87)
  have N79 := Fr.snoc X79 N78 q6
  have F81 := (Exa.wr W79 F73)
  have F82 := (Fld.other W79 F74 (Or.inl n23))
  have F83 := (Arv.other F75 W79 n25)
  have F84 := (F76.wr W79 q6)
  have F85 := (Fld.other W79 F77 (Or.inl n23))
  obtain ⟨T86, L86, _, X86, ⟨rfl, N86q, e86q⟩, st86⟩ := own_callS X79 hx hZ hown (cw_3 hw) (own_cell hw a1 8 p2 p3 p80 a7 w8 p11 a12 (lw (lw (lw (lw F54 W55) W63) W71) W79) F81 F82 F83 P5 F84 P7 F85 P6 P10 P18) e79 (Ls := (L_riiiu a1 p2 p3 p4)) hml [vr a1, vi 8, vi p2, vi p3] [vi 8, vr b5, vr b5] pd_7 3 (hb hby d3_96)
  have N86 := Fr.app N79 N86q
  obtain ⟨T87, h87, X87, e87, W87, V87, st87⟩ := own_stC X86 hx hZ e86q V79 (j := (8 : Int32)) (x := p80) 8 (Ls := (L_riiiu a1 p2 p3 p4)) (rest := [vr b5]) (hb hby d3_99)
  have N87 := Fr.snoc X87 N86 q6
  have F89 := (Exa.wr W87 F81)
  have F90 := (Fld.other W87 F82 (Or.inl n23))
  have F91 := (Arv.other F83 W87 n25)
  have F92 := (F84.wr W87 q6)
  have F93 := (Fld.other W87 F85 (Or.inl n23))
  have F95 := (lw (lw (lw (lw (lw F54 W55) W63) W71) W79) W87)
  obtain ⟨T94, L94, _, X94, ⟨rfl, N94q, e94q⟩, st94⟩ := own_callS X87 hx hZ hown (cw_3 hw) (own_cell hw a1 9 p2 p3 p88 a7 w8 p11 a12 F95 F89 F90 F91 P5 F92 P7 F93 P6 P10 P19) e87 (Ls := (L_riiiu a1 p2 p3 p4)) hml [vr a1, vi 9, vi p2, vi p3] [vi 9, vr b5, vr b5] pd_7 3 (hb hby d3_108)
  have N94 := Fr.app N87 N94q
  obtain ⟨T96, h96, X96, e96, W96, V96, st96⟩ := own_stC X94 hx hZ e94q V87 (j := (9 : Int32)) (x := p88) 9 (Ls := (L_riiiu a1 p2 p3 p4)) (rest := [vr b5]) (hb hby d3_111)
  have N96 := Fr.snoc X96 N94 q6
  have F98 := (Exa.wr W96 F89)
  have F99 := (Fld.other W96 F90 (Or.inl n23))
  have F100 := (Arv.other F91 W96 n25)
  have F101 := (F92.wr W96 q6)
  have F102 := (Fld.other W96 F93 (Or.inl n23))
  obtain ⟨T103, L103, _, X103, ⟨rfl, N103q, e103q⟩, st103⟩ := own_callS X96 hx hZ hown (cw_3 hw) (own_cell hw a1 10 p2 p3 p97 a7 w8 p11 a12 (lw F95 W96) F98 F99 F100 P5 F101 P7 F102 P6 P10 P20) e96 (Ls := (L_riiiu a1 p2 p3 p4)) hml [vr a1, vi 10, vi p2, vi p3] [vi 10, vr b5, vr b5] pd_7 3 (hb hby d3_120)
  have N103 := Fr.app N96 N103q
  obtain ⟨T104, h104, X104, e104, W104, V104, st104⟩ := own_stC X103 hx hZ e103q V96 (j := (10 : Int32)) (x := p97) 10 (Ls := (L_riiiu a1 p2 p3 p4)) (rest := [vr b5]) (hb hby d3_123)
  have N104 := Fr.snoc X104 N103 q6
  have F106 := (Exa.wr W104 F98)
  have F107 := (Fld.other W104 F99 (Or.inl n23))
  have F108 := (Arv.other F100 W104 n25)
  have F109 := (F101.wr W104 q6)
  have F110 := (Fld.other W104 F102 (Or.inl n23))
  obtain ⟨T111, L111, _, X111, ⟨rfl, N111q, e111q⟩, st111⟩ := own_callS X104 hx hZ hown (cw_3 hw) (own_cell hw a1 11 p2 p3 p105 a7 w8 p11 a12 (lw (lw F95 W96) W104) F106 F107 F108 P5 F109 P7 F110 P6 P10 P21) e104 (Ls := (L_riiiu a1 p2 p3 p4)) hml [vr a1, vi 11, vi p2, vi p3] [vi 11, vr b5, vr b5] pd_7 3 (hb hby d3_132)
  have N111 := Fr.app N104 N111q
  obtain ⟨T112, h112, X112, e112, W112, V112, st112⟩ := own_stC X111 hx hZ e111q V104 (j := (11 : Int32)) (x := p105) 11 (Ls := (L_riiiu a1 p2 p3 p4)) (rest := [vr b5]) (hb hby d3_135)
  have N112 := Fr.snoc X112 N111 q6
  have F114 := (Exa.wr W112 F106)
  have F115 := (Fld.other W112 F107 (Or.inl n23))
  have F116 := (Arv.other F108 W112 n25)
  have F117 := (F109.wr W112 q6)
  have F118 := (Fld.other W112 F110 (Or.inl n23))
  obtain ⟨T119, L119, _, X119, ⟨rfl, N119q, e119q⟩, st119⟩ := own_callS X112 hx hZ hown (cw_3 hw) (own_cell hw a1 12 p2 p3 p113 a7 w8 p11 a12 (lw (lw (lw F95 W96) W104) W112) F114 F115 F116 P5 F117 P7 F118 P6 P10 P22) e112 (Ls := (L_riiiu a1 p2 p3 p4)) hml [vr a1, vi 12, vi p2, vi p3] [vi 12, vr b5, vr b5] pd_7 3 (hb hby d3_144)
  have N119 := Fr.app N112 N119q
  obtain ⟨T120, h120, X120, e120, W120, V120, st120⟩ := own_stC X119 hx hZ e119q V112 (j := (12 : Int32)) (x := p113) 12 (Ls := (L_riiiu a1 p2 p3 p4)) (rest := [vr b5]) (hb hby d3_147)
  have N120 := Fr.snoc X120 N119 q6
  have F122 := (Exa.wr W120 F114)
  have F123 := (Fld.other W120 F115 (Or.inl n23))
  have F124 := (Arv.other F116 W120 n25)
  have F125 := (F117.wr W120 q6)
  have F126 := (Fld.other W120 F118 (Or.inl n23))
  have F128 := (lw (lw (lw (lw F95 W96) W104) W112) W120)
  obtain ⟨T127, L127, _, X127, ⟨rfl, N127q, e127q⟩, st127⟩ := own_callS X120 hx hZ hown (cw_3 hw) (own_cell hw a1 13 p2 p3 p121 a7 w8 p11 a12 F128 F122 F123 F124 P5 F125 P7 F126 P6 P10 P23) e120 (Ls := (L_riiiu a1 p2 p3 p4)) hml [vr a1, vi 13, vi p2, vi p3] [vi 13, vr b5, vr b5] pd_7 3 (hb hby d3_156)
  have N127 := Fr.app N120 N127q
  obtain ⟨T129, h129, X129, e129, W129, V129, st129⟩ := own_stC X127 hx hZ e127q V120 (j := (13 : Int32)) (x := p121) 13 (Ls := (L_riiiu a1 p2 p3 p4)) (rest := [vr b5]) (hb hby d3_159)
  have N129 := Fr.snoc X129 N127 q6
  have F131 := (Exa.wr W129 F122)
  have F132 := (Fld.other W129 F123 (Or.inl n23))
  have F133 := (Arv.other F124 W129 n25)
  have F134 := (F125.wr W129 q6)
  have F135 := (Fld.other W129 F126 (Or.inl n23))
  obtain ⟨T136, L136, _, X136, ⟨rfl, N136q, e136q⟩, st136⟩ := own_callS X129 hx hZ hown (cw_3 hw) (own_cell hw a1 14 p2 p3 p130 a7 w8 p11 a12 (lw F128 W129) F131 F132 F133 P5 F134 P7 F135 P6 P10 P24) e129 (Ls := (L_riiiu a1 p2 p3 p4)) hml [vr a1, vi 14, vi p2, vi p3] [vi 14, vr b5, vr b5] pd_7 3 (hb hby d3_168)
  have N136 := Fr.app N129 N136q
  obtain ⟨T137, h137, X137, e137, W137, V137, st137⟩ := own_stC X136 hx hZ e136q V129 (j := (14 : Int32)) (x := p130) 14 (Ls := (L_riiiu a1 p2 p3 p4)) (rest := [vr b5]) (hb hby d3_171)
  have N137 := Fr.snoc X137 N136 q6
  obtain ⟨T139, h139, b138, X139, e139, E139, g139, A139, D139, st139⟩ := own_new X137 hx hZ hown (tw_52 hw) (tw_3 hw) (tw_2 hw) e137 (Ls := (L_riiir a1 p2 p3 p4 b5)) (S := []) (hb hby d3_417)
  have F140 := (lw (lw (lw (lw (lw (lw (lw (lw (lw (lw (lw (lw (lw (lw (lw (lx (Nat.le_refl h0.size) E6) W20) W30) W38) W46) W55) W63) W71) W79) W87) W96) W104) W112) W120) W129) W137)
  have q139 := Nat.le_trans (lw (lw F128 W129) W137) g139
  have z139 := Nat.le_trans F140 g139
  have F141 : ab8 Z h139 b138 .null := D139 (Or.inr (tw_5 hw)) (ty := (.array .byte)) (by decide)
  have F142 : ab7 Z h139 b138 (vi 0) := D139 (Or.inr (tw_6 hw)) (ty := .byte) (by decide)
  obtain ⟨T144, h144, b143, k144, X144, e144, E144, g144, V144, st144⟩ := own_newP X139 hx hZ (tw_26 hw) e139 (n := (14 : Int32)) (k := 14) (d := (vi 0)) (vs := [vi 0, vi 0, vi 0, vi 0, vi 0, vi 0, vi 0, vi 0, vi 0, vi 0, vi 0, vi 0, vi 0, vi 0]) (Ls := (L_riiir a1 p2 p3 p4 b5)) (S := [vr b138, vr b138]) (hb hby d3_423)
  have q144 := Nat.le_trans (lx (lw (lw F128 W129) W137) E139) g144
  have z144 := Nat.le_trans (lx F140 E139) g144
  have F145 := ((V137.ext E139).ext E144)
  obtain ⟨T146, h146, X146, e146, W146, V146, st146⟩ := own_stC X144 hx hZ e144 V144 (j := (0 : Int32)) (x := (nar .char p13)) 0 (Ls := (L_riiir a1 p2 p3 p4 b5)) (rest := [vr b143, vr b138, vr b138]) (hb hby d3_431)
  have N146 := Fr.snoc X146 N137 q144
  have n147 := Nat.ne_of_lt (Nat.lt_of_lt_of_le (Nat.lt_of_lt_of_le V137.lt E139.1) g144)
  have F148 := (Arv.other F145 W146 n147)
  obtain ⟨T149, h149, X149, e149, W149, V149, st149⟩ := own_stC X146 hx hZ e146 V146 (j := (1 : Int32)) (x := (nar .char p21)) 1 (Ls := (L_riiir a1 p2 p3 p4 b5)) (rest := [vr b143, vr b138, vr b138]) (hb hby d3_438)
  have N149 := Fr.snoc X149 N146 q144
  have F150 := (Arv.other F148 W149 n147)
  obtain ⟨T151, h151, X151, e151, W151, V151, st151⟩ := own_stC X149 hx hZ e149 V149 (j := (2 : Int32)) (x := (nar .char p31)) 2 (Ls := (L_riiir a1 p2 p3 p4 b5)) (rest := [vr b143, vr b138, vr b138]) (hb hby d3_445)
  have N151 := Fr.snoc X151 N149 q144
  have F152 := (Arv.other F150 W151 n147)
  obtain ⟨T153, h153, X153, e153, W153, V153, st153⟩ := own_stC X151 hx hZ e151 V151 (j := (3 : Int32)) (x := (nar .char p39)) 3 (Ls := (L_riiir a1 p2 p3 p4 b5)) (rest := [vr b143, vr b138, vr b138]) (hb hby d3_452)
  have N153 := Fr.snoc X153 N151 q144
  have F154 := (Arv.other F152 W153 n147)
  obtain ⟨T155, h155, X155, e155, W155, V155, st155⟩ := own_stC X153 hx hZ e153 V153 (j := (4 : Int32)) (x := (nar .char p47)) 4 (Ls := (L_riiir a1 p2 p3 p4 b5)) (rest := [vr b143, vr b138, vr b138]) (hb hby d3_459)
  have N155 := Fr.snoc X155 N153 q144
  have F156 := (Arv.other F154 W155 n147)
  obtain ⟨T157, h157, X157, e157, W157, V157, st157⟩ := own_stC X155 hx hZ e155 V155 (j := (5 : Int32)) (x := (nar .char p56)) 5 (Ls := (L_riiir a1 p2 p3 p4 b5)) (rest := [vr b143, vr b138, vr b138]) (hb hby d3_466)
  have N157 := Fr.snoc X157 N155 q144
  have F158 := (Arv.other F156 W157 n147)
  obtain ⟨T159, h159, X159, e159, W159, V159, st159⟩ := own_stC X157 hx hZ e157 V157 (j := (6 : Int32)) (x := (nar .char p64)) 6 (Ls := (L_riiir a1 p2 p3 p4 b5)) (rest := [vr b143, vr b138, vr b138]) (hb hby d3_475)
  have N159 := Fr.snoc X159 N157 q144
  have F160 := (Arv.other F158 W159 n147)
  obtain ⟨T161, h161, X161, e161, W161, V161, st161⟩ := own_stC X159 hx hZ e159 V159 (j := (7 : Int32)) (x := (nar .char p72)) 7 (Ls := (L_riiir a1 p2 p3 p4 b5)) (rest := [vr b143, vr b138, vr b138]) (hb hby d3_484)
  have N161 := Fr.snoc X161 N159 q144
  have F162 := (Arv.other F160 W161 n147)
  obtain ⟨T163, h163, X163, e163, W163, V163, st163⟩ := own_stC X161 hx hZ e161 V161 (j := (8 : Int32)) (x := (nar .char p80)) 8 (Ls := (L_riiir a1 p2 p3 p4 b5)) (rest := [vr b143, vr b138, vr b138]) (hb hby d3_493)
  have N163 := Fr.snoc X163 N161 q144
  have F164 := (Arv.other F162 W163 n147)
  obtain ⟨T165, h165, X165, e165, W165, V165, st165⟩ := own_stC X163 hx hZ e163 V163 (j := (9 : Int32)) (x := (nar .char p88)) 9 (Ls := (L_riiir a1 p2 p3 p4 b5)) (rest := [vr b143, vr b138, vr b138]) (hb hby d3_502)
  have N165 := Fr.snoc X165 N163 q144
  have F166 := (Arv.other F164 W165 n147)
  obtain ⟨T167, h167, X167, e167, W167, V167, st167⟩ := own_stC X165 hx hZ e165 V165 (j := (10 : Int32)) (x := (nar .char p97)) 10 (Ls := (L_riiir a1 p2 p3 p4 b5)) (rest := [vr b143, vr b138, vr b138]) (hb hby d3_511)
  have N167 := Fr.snoc X167 N165 q144
  have F168 := (Arv.other F166 W167 n147)
  obtain ⟨T169, h169, X169, e169, W169, V169, st169⟩ := own_stC X167 hx hZ e167 V167 (j := (11 : Int32)) (x := (nar .char p105)) 11 (Ls := (L_riiir a1 p2 p3 p4 b5)) (rest := [vr b143, vr b138, vr b138]) (hb hby d3_520)
  have N169 := Fr.snoc X169 N167 q144
  have F170 := (Arv.other F168 W169 n147)
  obtain ⟨T171, h171, X171, e171, W171, V171, st171⟩ := own_stC X169 hx hZ e169 V169 (j := (12 : Int32)) (x := (nar .char p113)) 12 (Ls := (L_riiir a1 p2 p3 p4 b5)) (rest := [vr b143, vr b138, vr b138]) (hb hby d3_529)
  have N171 := Fr.snoc X171 N169 q144
  have F172 := (Arv.other F170 W171 n147)
  obtain ⟨T173, h173, X173, e173, W173, V173, st173⟩ := own_stC X171 hx hZ e171 V171 (j := (13 : Int32)) (x := (nar .char p121)) 13 (Ls := (L_riiir a1 p2 p3 p4 b5)) (rest := [vr b143, vr b138, vr b138]) (hb hby d3_538)
  have N173 := Fr.snoc X173 N171 q144
  have F174 := (((((((((((((((((F134.wr W137 q6).ext E139).ext E144).wr W146 q144).wr W149 q144).wr W151 q144).wr W153 q144).wr W155 q144).wr W157 q144).wr W159 q144).wr W161 q144).wr W163 q144).wr W165 q144).wr W167 q144).wr W169 q144).wr W171 q144).wr W173 q144)
  have n175 := Nat.ne_of_lt (Nat.lt_of_lt_of_le A139.lt g144)
  have F176 := (Fld.other W173 (Fld.other W171 (Fld.other W169 (Fld.other W167 (Fld.other W165 (Fld.other W163 (Fld.other W161 (Fld.other W159 (Fld.other W157 (Fld.other W155 (Fld.other W153 (Fld.other W151 (Fld.other W149 (Fld.other W146 (Fld.ext E144 F142) (Or.inl n175)) (Or.inl n175)) (Or.inl n175)) (Or.inl n175)) (Or.inl n175)) (Or.inl n175)) (Or.inl n175)) (Or.inl n175)) (Or.inl n175)) (Or.inl n175)) (Or.inl n175)) (Or.inl n175)) (Or.inl n175)) (Or.inl n175))
  have F177 := (Exa.wr W173 (Exa.wr W171 (Exa.wr W169 (Exa.wr W167 (Exa.wr W165 (Exa.wr W163 (Exa.wr W161 (Exa.wr W159 (Exa.wr W157 (Exa.wr W155 (Exa.wr W153 (Exa.wr W151 (Exa.wr W149 (Exa.wr W146 (Exa.ext E144 A139)))))))))))))))
  have F178 := (Fld.other W173 (Fld.other W171 (Fld.other W169 (Fld.other W167 (Fld.other W165 (Fld.other W163 (Fld.other W161 (Fld.other W159 (Fld.other W157 (Fld.other W155 (Fld.other W153 (Fld.other W151 (Fld.other W149 (Fld.other W146 (Fld.ext E144 F141) (Or.inl n175)) (Or.inl n175)) (Or.inl n175)) (Or.inl n175)) (Or.inl n175)) (Or.inl n175)) (Or.inl n175)) (Or.inl n175)) (Or.inl n175)) (Or.inl n175)) (Or.inl n175)) (Or.inl n175)) (Or.inl n175)) (Or.inl n175))
  have F180 := (lw (lw (lw (lw (lw (lw (lw (lw (lw (lw (lw (lw (lw (lw (lx (lx (lw (lw F128 W129) W137) E139) E144) W146) W149) W151) W153) W155) W157) W159) W161) W163) W165) W167) W169) W171) W173)
  obtain ⟨T179, L179, _, X179, ⟨b181, kk179_0, rfl, N179q, K179, qa179_0, qb179_0, f179_0, f179_1, f179_2⟩, st179⟩ := own_callI X173 hx hZ hown (cw_8 hw) (rm10_2 hw b138 b143 k144 (va20 p13) (va20 p21) (va20 p31) (va20 p39) (va20 p47) (va20 p56) (va20 p64) (va20 p72) (va20 p80) (va20 p88) (va20 p97) (va20 p105) (va20 p113) (va20 p121) p11 F180 V173 P5 F174 P7 P28 P29 P30 P31 P32 P33 P34 P35 P36 P37 P38 P39 P40 P41 F176 F177 q139 F178) e173 (Ls := (L_riiir a1 p2 p3 p4 b5)) hml b138 [vr b143] [vr b138] pd_12 1 (hb hby d3_539)
  have N179 := Fr.app N173 N179q
  have F182 := (lw (lw (lw (lw (lw (lw (lw (lw (lw (lw (lw (lw (lw (lw (lx (lx F140 E139) E144) W146) W149) W151) W153) W155) W157) W159) W161) W163) W165) W167) W169) W171) W173)
  have qd179_0 := Nat.le_trans F182 qb179_0
  have F183 := (Exa.keep F177 K179)
  have K184 := (Keep.refl h0 []).ext E6
  have K185 := K184.wr W20 (Or.inr z6)
  have K186 := K185.wr W30 (Or.inr z6)
  have K187 := K186.wr W38 (Or.inr z6)
  have K188 := K187.wr W46 (Or.inr z6)
  have K189 := K188.wr W55 (Or.inr z6)
  have K190 := K189.wr W63 (Or.inr z6)
  have K191 := K190.wr W71 (Or.inr z6)
  have K192 := K191.wr W79 (Or.inr z6)
  have K193 := K192.wr W87 (Or.inr z6)
  have K194 := K193.wr W96 (Or.inr z6)
  have K195 := K194.wr W104 (Or.inr z6)
  have K196 := K195.wr W112 (Or.inr z6)
  have K197 := K196.wr W120 (Or.inr z6)
  have K198 := K197.wr W129 (Or.inr z6)
  have K199 := K198.wr W137 (Or.inr z6)
  have K200 := K199.ext E139
  have K201 := K200.ext E144
  have K202 := K201.wr W146 (Or.inr z144)
  have K203 := K202.wr W149 (Or.inr z144)
  have K204 := K203.wr W151 (Or.inr z144)
  have K205 := K204.wr W153 (Or.inr z144)
  have K206 := K205.wr W155 (Or.inr z144)
  have K207 := K206.wr W157 (Or.inr z144)
  have K208 := K207.wr W159 (Or.inr z144)
  have K209 := K208.wr W161 (Or.inr z144)
  have K210 := K209.wr W163 (Or.inr z144)
  have K211 := K210.wr W165 (Or.inr z144)
  have K212 := K211.wr W167 (Or.inr z144)
  have K213 := K212.wr W169 (Or.inr z144)
  have K214 := K213.wr W171 (Or.inr z144)
  have K215 := K214.wr W173 (Or.inr z144)
  have K216 := K215.trans K179 (allS (Or.inr z139) all0)
  have n217 := Nat.ne_of_lt (Nat.lt_of_lt_of_le F176.lt qb179_0)
  refine ⟨T179, _, _, _, _, some (vr b138), X179, rfl, by decide, by decide, nofun, ⟨b138, b181, kk179_0, rfl, N179, K216, q139, z139, qa179_0, qd179_0, n217, F183, f179_0, f179_1, f179_2⟩, fun fs hr => ?_⟩
  refine own_b X0 hx hby tb3 1 [] 2 _ [vi 15] rfl ?_
  refine st6 _ ?_
  refine own_b X6 hx hby tb3 6 [] 10 _ [vi p3, vi p2, vi 0, vr a1, vi 0, vr b5, vr b5] rfl ?_
  refine st19 _ ?_
  refine st20 _ ?_
  refine own_b X20 hx hby tb3 6 [] 20 _ [vi p3, vi p2, vi 1, vr a1, vi 1, vr b5, vr b5] rfl ?_
  refine st29 _ ?_
  refine st30 _ ?_
  refine own_b X30 hx hby tb3 6 [] 30 _ [vi p3, vi p2, vi 2, vr a1, vi 2, vr b5, vr b5] rfl ?_
  refine st37 _ ?_
  refine st38 _ ?_
  refine own_b X38 hx hby tb3 6 [] 40 _ [vi p3, vi p2, vi 3, vr a1, vi 3, vr b5, vr b5] rfl ?_
  refine st45 _ ?_
  refine st46 _ ?_
  refine own_b X46 hx hby tb3 6 [] 50 _ [vi p3, vi p2, vi 4, vr a1, vi 4, vr b5, vr b5] rfl ?_
  refine st53 _ ?_
  refine st55 _ ?_
  refine own_b X55 hx hby tb3 6 [] 60 _ [vi p3, vi p2, vi 5, vr a1, vi 5, vr b5, vr b5] rfl ?_
  refine st62 _ ?_
  refine st63 _ ?_
  refine own_b X63 hx hby tb3 6 [] 72 _ [vi p3, vi p2, vi 6, vr a1, vi 6, vr b5, vr b5] rfl ?_
  refine st70 _ ?_
  refine st71 _ ?_
  refine own_b X71 hx hby tb3 6 [] 84 _ [vi p3, vi p2, vi 7, vr a1, vi 7, vr b5, vr b5] rfl ?_
  refine st78 _ ?_
  refine st79 _ ?_
  refine own_b X79 hx hby tb3 6 [] 96 _ [vi p3, vi p2, vi 8, vr a1, vi 8, vr b5, vr b5] rfl ?_
  refine st86 _ ?_
  refine st87 _ ?_
  refine own_b X87 hx hby tb3 6 [] 108 _ [vi p3, vi p2, vi 9, vr a1, vi 9, vr b5, vr b5] rfl ?_
  refine st94 _ ?_
  refine st96 _ ?_
  refine own_b X96 hx hby tb3 6 [] 120 _ [vi p3, vi p2, vi 10, vr a1, vi 10, vr b5, vr b5] rfl ?_
  refine st103 _ ?_
  refine st104 _ ?_
  refine own_b X104 hx hby tb3 6 [] 132 _ [vi p3, vi p2, vi 11, vr a1, vi 11, vr b5, vr b5] rfl ?_
  refine st111 _ ?_
  refine st112 _ ?_
  refine own_b X112 hx hby tb3 6 [] 144 _ [vi p3, vi p2, vi 12, vr a1, vi 12, vr b5, vr b5] rfl ?_
  refine st119 _ ?_
  refine st120 _ ?_
  refine own_b X120 hx hby tb3 6 [] 156 _ [vi p3, vi p2, vi 13, vr a1, vi 13, vr b5, vr b5] rfl ?_
  refine st127 _ ?_
  refine st129 _ ?_
  refine own_b X129 hx hby tb3 6 [] 168 _ [vi p3, vi p2, vi 14, vr a1, vi 14, vr b5, vr b5] rfl ?_
  refine st136 _ ?_
  refine st137 _ ?_
  refine own_b X137 hx hby tb3 10 [true, true, false] 417 (L_riiir a1 p2 p3 p4 b5) [] (ai (feq P25).2 (ai (feq P26).2 (ai (teq P27).2 rfl))) ?_
  refine st139 _ ?_
  refine own_b X139 hx hby tb3 2 [] 423 _ [vi 14, vr b138, vr b138] rfl ?_
  refine st144 _ ?_
  refine own_a X144 hx hZ e144 hby tb3 (aec F145 aen) 5 [] [0] 431 _ [vi (nar .char p13), vi 0, vr b143, vr b143, vr b138, vr b138] (ai rfl rfl) ?_
  refine st146 _ ?_
  refine own_a X146 hx hZ e146 hby tb3 (aec F148 aen) 5 [] [0] 438 _ [vi (nar .char p21), vi 1, vr b143, vr b143, vr b138, vr b138] (ai rfl rfl) ?_
  refine st149 _ ?_
  refine own_a X149 hx hZ e149 hby tb3 (aec F150 aen) 5 [] [0] 445 _ [vi (nar .char p31), vi 2, vr b143, vr b143, vr b138, vr b138] (ai rfl rfl) ?_
  refine st151 _ ?_
  refine own_a X151 hx hZ e151 hby tb3 (aec F152 aen) 5 [] [0] 452 _ [vi (nar .char p39), vi 3, vr b143, vr b143, vr b138, vr b138] (ai rfl rfl) ?_
  refine st153 _ ?_
  refine own_a X153 hx hZ e153 hby tb3 (aec F154 aen) 5 [] [0] 459 _ [vi (nar .char p47), vi 4, vr b143, vr b143, vr b138, vr b138] (ai rfl rfl) ?_
  refine st155 _ ?_
  refine own_a X155 hx hZ e155 hby tb3 (aec F156 aen) 5 [] [0] 466 _ [vi (nar .char p56), vi 5, vr b143, vr b143, vr b138, vr b138] (ai rfl rfl) ?_
  refine st157 _ ?_
  refine own_a X157 hx hZ e157 hby tb3 (aec F158 aen) 5 [] [0] 475 _ [vi (nar .char p64), vi 6, vr b143, vr b143, vr b138, vr b138] (ai rfl rfl) ?_
  refine st159 _ ?_
  refine own_a X159 hx hZ e159 hby tb3 (aec F160 aen) 5 [] [0] 484 _ [vi (nar .char p72), vi 7, vr b143, vr b143, vr b138, vr b138] (ai rfl rfl) ?_
  refine st161 _ ?_
  refine own_a X161 hx hZ e161 hby tb3 (aec F162 aen) 5 [] [0] 493 _ [vi (nar .char p80), vi 8, vr b143, vr b143, vr b138, vr b138] (ai rfl rfl) ?_
  refine st163 _ ?_
  refine own_a X163 hx hZ e163 hby tb3 (aec F164 aen) 5 [] [0] 502 _ [vi (nar .char p88), vi 9, vr b143, vr b143, vr b138, vr b138] (ai rfl rfl) ?_
  refine st165 _ ?_
  refine own_a X165 hx hZ e165 hby tb3 (aec F166 aen) 5 [] [0] 511 _ [vi (nar .char p97), vi 10, vr b143, vr b143, vr b138, vr b138] (ai rfl rfl) ?_
  refine st167 _ ?_
  refine own_a X167 hx hZ e167 hby tb3 (aec F168 aen) 5 [] [0] 520 _ [vi (nar .char p105), vi 11, vr b143, vr b143, vr b138, vr b138] (ai rfl rfl) ?_
  refine st169 _ ?_
  refine own_a X169 hx hZ e169 hby tb3 (aec F170 aen) 5 [] [0] 529 _ [vi (nar .char p113), vi 12, vr b143, vr b143, vr b138, vr b138] (ai rfl rfl) ?_
  refine st171 _ ?_
  refine own_a X171 hx hZ e171 hby tb3 (aec F172 aen) 5 [] [0] 538 _ [vi (nar .char p121), vi 13, vr b143, vr b143, vr b138, vr b138] (ai rfl rfl) ?_
  refine st173 _ ?_
  refine st179 _ ?_
  exact own_retA X179 hx hret rfl (hb hby d3_542) hr
theorem rm16_2 (hw : OW Z a0) (a1 a2 : Addr) (w3 : ClassId) (a4 a5 a6 a9 a12 a13 : Addr) (w14 w15 : ClassId) (p16 p17 p18 p19 p20 p21 p22 p23 p24 p25 p26 p27 p28 p29 p30 : Int32) (a37 a39 : Addr) (w40 : ClassId) (a43 a45 : Addr) (w46 : ClassId) (Z0 : n0 ≤ h0.size) (P1 : ab3 Z (vr a2)) (P2 : Old Z n0 h0) (P3 : ab11 Z Z.heap a2) (P4 : Arv Z Z.heap a2 w3 (.object "com/example/sinkwatch/sinkwatch/Flaw") (3 : Int32) [vr a4, vr a5, vr a6] .null) (P5 : ab9 Z Z.heap a4 (vr a9)) (P6 : ab10 Z Z.heap a9) (P7 : ab10 Z h0 a1) (P8 : ab7 Z Z.heap a9 (vi 0)) (P9 : ab7 Z h0 a1 (vi 0)) (P10 : ab8 Z Z.heap a9 (vr a12)) (P11 : ab8 Z h0 a1 (vr a13)) (P12 : Arv Z Z.heap a12 w14 .byte (13 : Int32) bl3 (vi 0)) (P13 : Arv Z h0 a13 w15 .byte (14 : Int32) [vi p16, vi p17, vi p18, vi p19, vi p20, vi p21, vi p22, vi p23, vi p24, vi p25, vi p26, vi p27, vi p28, vi p29] (vi 0)) (P14 : ab1 Z (vi p30)) (P15 : ¬ (p30 = (0 : Int32))) (P16 : n0 ≤ a1) (P17 : ab9 Z Z.heap a5 (vr a37)) (P18 : ab10 Z Z.heap a37) (P19 : ab7 Z Z.heap a37 (vi 0)) (P20 : ab8 Z Z.heap a37 (vr a39)) (P21 : Arv Z Z.heap a39 w40 .byte (14 : Int32) bl1 (vi 0)) (P22 : (va44 p16 p17 p18 p19 p20 p21 p22 p23 p24 p25 p26 p27 p28 p29) = (0 : Int32)) (P23 : ab9 Z Z.heap a6 (vr a43)) (P24 : ab10 Z Z.heap a43) (P25 : ab7 Z Z.heap a43 (vi 0)) (P26 : ab8 Z Z.heap a43 (vr a45)) (P27 : Arv Z Z.heap a45 w46 .byte (13 : Int32) bl6 (vi 0)) :
    M16 l Z ws (orm 2 1 3 28) #[vr a1] h0 (fun v h L => v = some .null ∧ Fr n0 L ∧ Keep h0 h []) := by
  refine own_enter (plainFor_of_name pn_5) (L0 := (L_ruuuu a1)) ?_
  intro p e s m below meth c s₁ hx hby hml hown hnm hret hZ X0 e0
  have N0 := Fr.nil n0
  obtain ⟨T7, L7, _, X7, ⟨b8, rfl, N7q, K7, qa7_0, qb7_0, f7_0, f7_1⟩, st7⟩ := own_callS X0 hx hZ hown (cw_10 hw) (rm17_1 hw a2 w3 a4 a5 a6 Z0 P1 P2 P3 P4) e0 (Ls := (L_ruuuu a1)) hml [] [] pd_14 0 (hb hby d16_0)
  have N7 := Fr.app N0 N7q
  have qd7_0 := Nat.le_trans (Nat.le_refl h0.size) qb7_0
  have F10 := (P2.keep K7 all0)
  obtain ⟨T11, X11, e11, st11⟩ := getF X7 hx hZ hown (host := "") (Or.inl (tw_95 hw)) Via.refl rfl (Fld.ext F10.2 P5) (g := (mkF m 21 (L_rriir a1 b8 3 0 a4) [vr a4])) rfl rfl (hb hby d16_21)
  have n31 := Old.ne P2 P6.lt P16
  have F32 := (Exa.keep P7 K7)
  have F33 := (Fld.keep P9 K7 nin0)
  have F34 := (Fld.keep P11 K7 nin0)
  have F35 := (Arv.keep P13 K7 nin0)
  obtain ⟨T36, L36, _, X36, ⟨rfl, N36q, e36q⟩, st36⟩ := own_callV X11 hx hZ hown (tw_97 hw) (tw_98 hw) (notFace_of_selects (args := #[]) (mvT hZ (tw_100 hw))) (tw_100 hw) (tw_99 hw) (tw_2 hw) (tw_101 hw) (own_eq18 hw a9 a1 a12 a13 w14 w15 bl4 ([p16, p17, p18, p19, p20, p21, p22, p23, p24, p25, p26, p27, p28, p29]) p30 0 (Nat.le_trans Z0 K7.1) n31 F32 P14 F10 P15 (Fld.ext F10.2 P8) F33 (Fld.ext F10.2 P10) F34 (P12.ext F10.2) F35) e11 (Exa.ext F10.2 P6) (Ls := (L_rriir a1 b8 3 0 a4)) hml [vr a1] [] pd_16 0 (hb hby d16_25)
  have N36 := Fr.app N7 N36q
  obtain ⟨T38, X38, e38, st38⟩ := getF X36 hx hZ hown (host := "") (Or.inl (tw_95 hw)) Via.refl e36q (Fld.ext F10.2 P17) (g := (mkF m 21 (L_rriir a1 b8 3 1 a5) [vr a5])) rfl rfl (hb hby d16_21)
  have n41 := Old.ne P2 P18.lt P16
  obtain ⟨T42, L42, _, X42, ⟨rfl, N42q, e42q⟩, st42⟩ := own_callV X38 hx hZ hown (tw_97 hw) (tw_98 hw) (notFace_of_selects (args := #[]) (mvT hZ (tw_100 hw))) (tw_100 hw) (tw_99 hw) (tw_2 hw) (tw_101 hw) (own_eq18 hw a37 a1 a39 a13 w40 w15 bl5 ([p16, p17, p18, p19, p20, p21, p22, p23, p24, p25, p26, p27, p28, p29]) p30 (va44 p16 p17 p18 p19 p20 p21 p22 p23 p24 p25 p26 p27 p28 p29) (Nat.le_trans Z0 K7.1) n41 F32 P14 F10 P15 (Fld.ext F10.2 P19) F33 (Fld.ext F10.2 P20) F34 (P21.ext F10.2) F35) e38 (Exa.ext F10.2 P18) (Ls := (L_rriir a1 b8 3 1 a5)) hml [vr a1] [] pd_16 0 (hb hby d16_25)
  have N42 := Fr.app N36 N42q
  obtain ⟨T44, X44, e44, st44⟩ := getF X42 hx hZ hown (host := "") (Or.inl (tw_95 hw)) Via.refl e42q (Fld.ext F10.2 P23) (g := (mkF m 21 (L_rriir a1 b8 3 2 a6) [vr a6])) rfl rfl (hb hby d16_21)
  have n47 := Old.ne P2 P24.lt P16
  obtain ⟨T48, L48, _, X48, ⟨rfl, N48q, e48q⟩, st48⟩ := own_callV X44 hx hZ hown (tw_97 hw) (tw_98 hw) (notFace_of_selects (args := #[]) (mvT hZ (tw_100 hw))) (tw_100 hw) (tw_99 hw) (tw_2 hw) (tw_101 hw) (own_eq18 hw a43 a1 a45 a13 w46 w15 bl7 ([p16, p17, p18, p19, p20, p21, p22, p23, p24, p25, p26, p27, p28, p29]) p30 0 (Nat.le_trans Z0 K7.1) n47 F32 P14 F10 P15 (Fld.ext F10.2 P25) F33 (Fld.ext F10.2 P26) F34 (P27.ext F10.2) F35) e44 (Exa.ext F10.2 P24) (Ls := (L_rriir a1 b8 3 2 a6)) hml [vr a1] [] pd_16 0 (hb hby d16_25)
  have N48 := Fr.app N42 N48q
  have K49 := (Keep.refl h0 []).trans K7 all0
  refine ⟨T48, _, _, _, _, some .null, X48, e48q, by decide, by decide, nofun, ⟨rfl, N48, K49⟩, fun fs hr => ?_⟩
  show OS p e below s₁ m 0 (L_ruuuu a1) [] _
  refine st7 _ ?_
  refine own_a X7 hx hZ rfl hby tb16 (aec f7_1 aen) 11 [false] [0] 16 (L_rriiu a1 b8 3 0) [vi 0, vr b8] (ai rfl (ai (by decide) rfl)) ?_
  refine own_aaload X7 hx hZ rfl f7_1 rfl (by decide) rfl (hb hby d16_16) _ ?_
  refine own_b X7 hx hby tb16 2 [] 21 (L_rriir a1 b8 3 0 a4) [vr a4] rfl ?_
  refine st11 _ ?_
  refine own_b X11 hx hby tb16 1 [] 25 _ [vr a1, vr a9] rfl ?_
  refine st36 _ ?_
  refine own_b X36 hx hby tb16 8 [true, false] 16 (L_rriir a1 b8 3 1 a4) [vi 1, vr b8] (ai (by decide) (ai (by decide) rfl)) ?_
  refine own_aaload X36 hx hZ e36q f7_1 rfl (by decide) rfl (hb hby d16_16) _ ?_
  refine own_b X36 hx hby tb16 2 [] 21 (L_rriir a1 b8 3 1 a5) [vr a5] rfl ?_
  refine st38 _ ?_
  refine own_b X38 hx hby tb16 1 [] 25 _ [vr a1, vr a37] rfl ?_
  refine st42 _ ?_
  refine own_b X42 hx hby tb16 8 [true, false] 16 (L_rriir a1 b8 3 2 a5) [vi 2, vr b8] (ai (teq P22).1 (ai (by decide) rfl)) ?_
  refine own_aaload X42 hx hZ e42q f7_1 rfl (by decide) rfl (hb hby d16_16) _ ?_
  refine own_b X42 hx hby tb16 2 [] 21 (L_rriir a1 b8 3 2 a6) [vr a6] rfl ?_
  refine st44 _ ?_
  refine own_b X44 hx hby tb16 1 [] 25 _ [vr a1, vr a43] rfl ?_
  refine st48 _ ?_
  refine own_b X48 hx hby tb16 7 [true, true] 41 (L_rriir a1 b8 3 3 a6) [.null] (ai (by decide) (ai (by decide) rfl)) ?_
  exact own_retNull X48 hx hret rfl (hb hby d16_41) hr
theorem ef20_2 (m : MethodId) (a1 a3 : Addr) (w4 : ClassId) (p5 p6 p7 p8 p9 p10 p11 p12 p13 p14 p15 p16 p17 p18 p19 : Int32) : entryFrame m #[vr a1] 1 = mkF m 0 #[sr a1] [] := by first | rfl | (simp [entryFrame, mkF, argsToLocals, Value.category]; done)
def Q20_2 (Z : State) (a1 a3 : Addr) (w4 : ClassId) (p5 p6 p7 p8 p9 p10 p11 p12 p13 p14 p15 p16 p17 p18 p19 : Int32) (h0 : Heap) (n0 : Nat) (v : Option Value) (h : Heap) (L : List Loc) : Prop := v = some .null ∧ Fr n0 L ∧ Keep h0 h []
theorem rm20_2 (hw : OW Z a0) (a1 a3 : Addr) (w4 : ClassId) (p5 p6 p7 p8 p9 p10 p11 p12 p13 p14 p15 p16 p17 p18 p19 : Int32) (Z0 : n0 ≤ h0.size) (P1 : ab10 Z h0 a1) (P2 : ab7 Z h0 a1 (vi 0)) (P3 : ab8 Z h0 a1 (vr a3)) (P4 : Arv Z h0 a3 w4 .byte (14 : Int32) [vi p5, vi p6, vi p7, vi p8, vi p9, vi p10, vi p11, vi p12, vi p13, vi p14, vi p15, vi p16, vi p17, vi p18] (vi 0)) (P5 : ab1 Z (vi p19)) (P6 : ¬ (p19 = (0 : Int32))) (P7 : Old Z n0 h0) (P8 : (va46 p5 p6 p7 p8 p9 p10 p11 p12 p13 p14 p15 p16 p17 p18) = (0 : Int32)) :
    MetFree l y18 (head1 (Jvm.Cond.code y18 method_4_code 1 (some (.object "com/example/sinkwatch/sinkwatch/Flaw")) :: ws) (orm 2 6 172 28)) (fun a U => a = #[vr a1] ∧ Z.Warmed39 U.vm ∧ U.heap = h0 ∧ CHv Z consts_1 U.vm h0 ∧ ∀ x ∈ ([a1] : List Addr), Safe Z consts_1 U.vm h0 x) (fun _ _ _ _ _ => True) (fun _ U o U' => ∃ v L, o = .returned v ∧ Q20_2 Z a1 a3 w4 p5 p6 p7 p8 p9 p10 p11 p12 p13 p14 p15 p16 p17 p18 p19 h0 n0 v U'.heap L ∧ ReturnedEndW U o U' L (orm 2 6 172 28).cells (orm 2 6 172 28).slots) := by
  refine MetFree.of_bodySF (plainFor_of_name pn_3) hisR ?_
  intro p e s m args below meth c s₁ Bd hml0 hP hK
  obtain ⟨rfl, hZ, hh, hH, hSf⟩ := hP
  have hx := Bd.exec
  have hby := Bd.bytes
  have hml : c.maxLocals = 1 := hml0
  have hown : s.vm.findClass "com/example/sinkwatch/sinkwatch/FlawNamedPinLaw" = some m.cls := findClass_of_methodNamed Bd.named
  have hnm := (name_of_methodNamed Bd.named Bd.method).1
  have hret := Bd.returns
  have X0 : Stand p l e (orm 2 6 172 28) s m #[vr a1] below meth c s₁ [] 0 0 := Stand.of_body Bd
  have e0 : s₁.heap = h0 := by rw [← hh, Bd.state]; rfl
  have N0 := Fr.nil n0
  have pre0 : ∀ t, Steps p.tables e below (s₁.setTop (mkF m 0 #[sr a1] [])) t → Steps p.tables e below (s₁.setTop (entryFrame m #[vr a1] 1)) t := fun t k => castTop (ef20_2 m a1 a3 w4 p5 p6 p7 p8 p9 p10 p11 p12 p13 p14 p15 p16 p17 p18 p19) k
  obtain ⟨b2a, T2, h2, k2, b2b, kl2, X2, e2, E2, hS2, hk2, hZ2, hown2, fa2, fb2, fc2, fd2, -, -, CH2, LT2, LN2, st2⟩ := ldcCH (s := s) (vm0 := s.vm) (show Stand _ _ _ _ (s.setVm s.vm) _ _ _ _ _ _ _ _ _ from X0) hx hZ hown (tw_1 hw) (own_wS hw) e0 (State.WarmedH.since (State.WarmedH.refl s) 0) (Nat.zero_le _) (own_EW hw) (List.mem_of_getElem? (i := 0) rfl) hH (vs := [(vi 115), (vi 113), (vi 108), (vi 45), (vi 105), (vi 110), (vi 106), (vi 101), (vi 99), (vi 116), (vi 105), (vi 111), (vi 110)]) (z := (13 : Int32)) (by decide +kernel) (by decide) (by decide) (g := (mkF m 1 #[sr a1] [vr a1])) rfl (hb hby d20_1) (n := 52) (by decide) (by decide) (by decide) (by decide)
  have F20 := (CHr.safe CH2 P1.lt (hSf _ (List.mem_of_getElem? (i := 0) rfl)))
  have F21 := (LN2 _ F20).1
  have F22 := (P7.ext E2)
  have F23 := (Fld.ext E2 P2)
  have F24 := (Fld.ext E2 P3)
  have F25 := (P4.ext E2)
  have F27 := (Exa.ext E2 P1)
  obtain ⟨T26, L26, _, X26, ⟨rfl, N26q, e26q⟩, st26⟩ := own_callV X2 hx hZ2 hown2 (tw_109 hw) (tw_98 hw) (notFace_of_selects (args := #[]) (mvT hZ2 (tw_100 hw))) (tw_100 hw) (tw_99 hw) (tw_2 hw) (tw_101 hw) (own_eq18 hw a1 b2a a3 b2b w4 kl2 ([p5, p6, p7, p8, p9, p10, p11, p12, p13, p14, p15, p16, p17, p18]) bl4 p19 0 (lx Z0 E2) F21 fa2 P5 F22 P6 F23 fb2 F24 fc2 F25 fd2) e2 F27 (Ls := #[sr a1]) hml [vr b2a] [] pd_16 0 (hb hby d20_3)
  have N26 := Fr.app N0 N26q
  have F28 := CH2.1
  obtain ⟨b29a, T29, h29, k29, b29b, kl29, X29, e29, E29, hS29, hk29, hZ29, hown29, fa29, fb29, fc29, fd29, -, -, CH29, LT29, LN29, st29⟩ := ldcCH (s := s) (vm0 := T2.vm) X26 hx hZ2 hown2 (tw_110 hw) (own_wS hw) e26q hS2 hk2 (own_EW hw) (List.mem_of_getElem? (i := 1) rfl) F28 (vs := [(vi 112), (vi 97), (vi 116), (vi 104), (vi 45), (vi 116), (vi 114), (vi 97), (vi 118), (vi 101), (vi 114), (vi 115), (vi 97), (vi 108)]) (z := (14 : Int32)) (by decide +kernel) (by decide) (by decide) (g := (mkF m 14 #[sr a1] [vr a1])) rfl (hb hby d20_14) (n := 56) (by decide) (by decide) (by decide) (by decide)
  have F30 := (CHr.safe CH29 F23.lt F20)
  have F31 := (LN29 _ F30).1
  have F32 := (F22.ext E29)
  have F33 := (Fld.ext E29 F23)
  have F34 := (Fld.ext E29 F24)
  have F35 := (F25.ext E29)
  have F37 := (Exa.ext E29 F27)
  obtain ⟨T36, L36, _, X36, ⟨rfl, N36q, e36q⟩, st36⟩ := own_callV X29 hx hZ29 hown29 (tw_109 hw) (tw_98 hw) (notFace_of_selects (args := #[]) (mvT hZ29 (tw_100 hw))) (tw_100 hw) (tw_99 hw) (tw_2 hw) (tw_101 hw) (own_eq18 hw a1 b29a a3 b29b w4 kl29 ([p5, p6, p7, p8, p9, p10, p11, p12, p13, p14, p15, p16, p17, p18]) bl5 p19 (va46 p5 p6 p7 p8 p9 p10 p11 p12 p13 p14 p15 p16 p17 p18) (lx (lx Z0 E2) E29) F31 fa29 P5 F32 P6 F33 fb29 F34 fc29 F35 fd29) e29 F37 (Ls := #[sr a1]) hml [vr b29a] [] pd_16 0 (hb hby d20_16)
  have N36 := Fr.app N26 N36q
  have F38 := CH29.1
  obtain ⟨b39a, T39, h39, k39, b39b, kl39, X39, e39, E39, hS39, hk39, hZ39, hown39, fa39, fb39, fc39, fd39, -, -, CH39, LT39, LN39, st39⟩ := ldcCH (s := s) (vm0 := T29.vm) X36 hx hZ29 hown29 (tw_111 hw) (own_wS hw) e36q hS29 hk29 (own_EW hw) (List.mem_of_getElem? (i := 2) rfl) F38 (vs := [(vi 111), (vi 112), (vi 101), (vi 110), (vi 45), (vi 114), (vi 101), (vi 100), (vi 105), (vi 114), (vi 101), (vi 99), (vi 116)]) (z := (13 : Int32)) (by decide +kernel) (by decide) (by decide) (g := (mkF m 27 #[sr a1] [vr a1])) rfl (hb hby d20_27) (n := 52) (by decide) (by decide) (by decide) (by decide)
  have F40 := (CHr.safe CH39 F33.lt F30)
  have F41 := (LN39 _ F40).1
  have F42 := (F32.ext E39)
  have F43 := (Fld.ext E39 F33)
  have F44 := (Fld.ext E39 F34)
  have F45 := (F35.ext E39)
  have F47 := (Exa.ext E39 F37)
  obtain ⟨T46, L46, _, X46, ⟨rfl, N46q, e46q⟩, st46⟩ := own_callV X39 hx hZ39 hown39 (tw_109 hw) (tw_98 hw) (notFace_of_selects (args := #[]) (mvT hZ39 (tw_100 hw))) (tw_100 hw) (tw_99 hw) (tw_2 hw) (tw_101 hw) (own_eq18 hw a1 b39a a3 b39b w4 kl39 ([p5, p6, p7, p8, p9, p10, p11, p12, p13, p14, p15, p16, p17, p18]) bl7 p19 0 (lx (lx (lx Z0 E2) E29) E39) F41 fa39 P5 F42 P6 F43 fb39 F44 fc39 F45 fd39) e39 F47 (Ls := #[sr a1]) hml [vr b39a] [] pd_16 0 (hb hby d20_29)
  have N46 := Fr.app N36 N46q
  have K48 := (Keep.refl h0 []).ext E2
  have K49 := K48.ext E29
  have K50 := K49.ext E39
  obtain ⟨fs, hr, hrun, hended, hRE⟩ := X46.leaveW hS39 (by rw [e46q]; exact hk39) (v := some .null) (fun h => by rw [hret] at h; cases h)
  refine ⟨_, _, pre0 _ ?_, hrun, hended, _, _, rfl, ?_, hRE.1, hRE.2.1, hRE.2.2.1, hRE.2.2.2.mono (by decide) (by decide)⟩
  · refine own_b X0 hx hby tb20 1 [] 1 _ [vr a1] rfl ?_
    refine st2 _ ?_
    refine st26 _ ?_
    refine own_b X26 hx hby tb20 2 [true] 14 _ [vr a1] (ai (by decide) rfl) ?_
    refine st29 _ ?_
    refine st36 _ ?_
    refine own_b X36 hx hby tb20 2 [true] 27 _ [vr a1] (ai (teq P8).1 rfl) ?_
    refine st39 _ ?_
    refine st46 _ ?_
    refine own_b X46 hx hby tb20 2 [true] 40 _ [.null] (ai (by decide) rfl) ?_
    exact own_retNull X46 hx hret rfl (hb hby d20_40) hr
  · show Q20_2 Z a1 a3 w4 p5 p6 p7 p8 p9 p10 p11 p12 p13 p14 p15 p16 p17 p18 p19 h0 n0 _ T46.heap _
    rw [e46q]
    exact ⟨rfl, N46, K50⟩
theorem rm16_3 (hw : OW Z a0) (a1 a2 : Addr) (w3 : ClassId) (a4 a5 a6 a9 a12 a13 : Addr) (w14 w15 : ClassId) (p16 p17 p18 p19 p20 p21 p22 p23 p24 p25 p26 p27 p28 p29 p30 : Int32) (a37 a39 : Addr) (w40 : ClassId) (Z0 : n0 ≤ h0.size) (P1 : ab3 Z (vr a2)) (P2 : Old Z n0 h0) (P3 : ab11 Z Z.heap a2) (P4 : Arv Z Z.heap a2 w3 (.object "com/example/sinkwatch/sinkwatch/Flaw") (3 : Int32) [vr a4, vr a5, vr a6] .null) (P5 : ab9 Z Z.heap a4 (vr a9)) (P6 : ab10 Z Z.heap a9) (P7 : ab10 Z h0 a1) (P8 : ab7 Z Z.heap a9 (vi 0)) (P9 : ab7 Z h0 a1 (vi 0)) (P10 : ab8 Z Z.heap a9 (vr a12)) (P11 : ab8 Z h0 a1 (vr a13)) (P12 : Arv Z Z.heap a12 w14 .byte (13 : Int32) bl3 (vi 0)) (P13 : Arv Z h0 a13 w15 .byte (14 : Int32) [vi p16, vi p17, vi p18, vi p19, vi p20, vi p21, vi p22, vi p23, vi p24, vi p25, vi p26, vi p27, vi p28, vi p29] (vi 0)) (P14 : ab1 Z (vi p30)) (P15 : ¬ (p30 = (0 : Int32))) (P16 : n0 ≤ a1) (P17 : ab9 Z Z.heap a5 (vr a37)) (P18 : ab10 Z Z.heap a37) (P19 : ab7 Z Z.heap a37 (vi 0)) (P20 : ab8 Z Z.heap a37 (vr a39)) (P21 : Arv Z Z.heap a39 w40 .byte (14 : Int32) bl1 (vi 0)) (P22 : ¬ ((va44 p16 p17 p18 p19 p20 p21 p22 p23 p24 p25 p26 p27 p28 p29) = (0 : Int32))) :
    M16 l Z ws (orm 2 1 3 28) #[vr a1] h0 (fun v h L => v = some (vr a5) ∧ Fr n0 L ∧ Keep h0 h []) := by
  refine own_enter (plainFor_of_name pn_5) (L0 := (L_ruuuu a1)) ?_
  intro p e s m below meth c s₁ hx hby hml hown hnm hret hZ X0 e0
  have N0 := Fr.nil n0
  obtain ⟨T7, L7, _, X7, ⟨b8, rfl, N7q, K7, qa7_0, qb7_0, f7_0, f7_1⟩, st7⟩ := own_callS X0 hx hZ hown (cw_10 hw) (rm17_1 hw a2 w3 a4 a5 a6 Z0 P1 P2 P3 P4) e0 (Ls := (L_ruuuu a1)) hml [] [] pd_14 0 (hb hby d16_0)
  have N7 := Fr.app N0 N7q
  have qd7_0 := Nat.le_trans (Nat.le_refl h0.size) qb7_0
  have F10 := (P2.keep K7 all0)
  obtain ⟨T11, X11, e11, st11⟩ := getF X7 hx hZ hown (host := "") (Or.inl (tw_95 hw)) Via.refl rfl (Fld.ext F10.2 P5) (g := (mkF m 21 (L_rriir a1 b8 3 0 a4) [vr a4])) rfl rfl (hb hby d16_21)
  have n31 := Old.ne P2 P6.lt P16
  have F32 := (Exa.keep P7 K7)
  have F33 := (Fld.keep P9 K7 nin0)
  have F34 := (Fld.keep P11 K7 nin0)
  have F35 := (Arv.keep P13 K7 nin0)
  obtain ⟨T36, L36, _, X36, ⟨rfl, N36q, e36q⟩, st36⟩ := own_callV X11 hx hZ hown (tw_97 hw) (tw_98 hw) (notFace_of_selects (args := #[]) (mvT hZ (tw_100 hw))) (tw_100 hw) (tw_99 hw) (tw_2 hw) (tw_101 hw) (own_eq18 hw a9 a1 a12 a13 w14 w15 bl4 ([p16, p17, p18, p19, p20, p21, p22, p23, p24, p25, p26, p27, p28, p29]) p30 0 (Nat.le_trans Z0 K7.1) n31 F32 P14 F10 P15 (Fld.ext F10.2 P8) F33 (Fld.ext F10.2 P10) F34 (P12.ext F10.2) F35) e11 (Exa.ext F10.2 P6) (Ls := (L_rriir a1 b8 3 0 a4)) hml [vr a1] [] pd_16 0 (hb hby d16_25)
  have N36 := Fr.app N7 N36q
  obtain ⟨T38, X38, e38, st38⟩ := getF X36 hx hZ hown (host := "") (Or.inl (tw_95 hw)) Via.refl e36q (Fld.ext F10.2 P17) (g := (mkF m 21 (L_rriir a1 b8 3 1 a5) [vr a5])) rfl rfl (hb hby d16_21)
  have n41 := Old.ne P2 P18.lt P16
  obtain ⟨T42, L42, _, X42, ⟨rfl, N42q, e42q⟩, st42⟩ := own_callV X38 hx hZ hown (tw_97 hw) (tw_98 hw) (notFace_of_selects (args := #[]) (mvT hZ (tw_100 hw))) (tw_100 hw) (tw_99 hw) (tw_2 hw) (tw_101 hw) (own_eq18 hw a37 a1 a39 a13 w40 w15 bl5 ([p16, p17, p18, p19, p20, p21, p22, p23, p24, p25, p26, p27, p28, p29]) p30 (va44 p16 p17 p18 p19 p20 p21 p22 p23 p24 p25 p26 p27 p28 p29) (Nat.le_trans Z0 K7.1) n41 F32 P14 F10 P15 (Fld.ext F10.2 P19) F33 (Fld.ext F10.2 P20) F34 (P21.ext F10.2) F35) e38 (Exa.ext F10.2 P18) (Ls := (L_rriir a1 b8 3 1 a5)) hml [vr a1] [] pd_16 0 (hb hby d16_25)
  have N42 := Fr.app N36 N42q
  have K43 := (Keep.refl h0 []).trans K7 all0
  refine ⟨T42, _, _, _, _, some (vr a5), X42, e42q, by decide, by decide, nofun, ⟨rfl, N42, K43⟩, fun fs hr => ?_⟩
  show OS p e below s₁ m 0 (L_ruuuu a1) [] _
  refine st7 _ ?_
  refine own_a X7 hx hZ rfl hby tb16 (aec f7_1 aen) 11 [false] [0] 16 (L_rriiu a1 b8 3 0) [vi 0, vr b8] (ai rfl (ai (by decide) rfl)) ?_
  refine own_aaload X7 hx hZ rfl f7_1 rfl (by decide) rfl (hb hby d16_16) _ ?_
  refine own_b X7 hx hby tb16 2 [] 21 (L_rriir a1 b8 3 0 a4) [vr a4] rfl ?_
  refine st11 _ ?_
  refine own_b X11 hx hby tb16 1 [] 25 _ [vr a1, vr a9] rfl ?_
  refine st36 _ ?_
  refine own_b X36 hx hby tb16 8 [true, false] 16 (L_rriir a1 b8 3 1 a4) [vi 1, vr b8] (ai (by decide) (ai (by decide) rfl)) ?_
  refine own_aaload X36 hx hZ e36q f7_1 rfl (by decide) rfl (hb hby d16_16) _ ?_
  refine own_b X36 hx hby tb16 2 [] 21 (L_rriir a1 b8 3 1 a5) [vr a5] rfl ?_
  refine st38 _ ?_
  refine own_b X38 hx hby tb16 1 [] 25 _ [vr a1, vr a37] rfl ?_
  refine st42 _ ?_
  refine own_b X42 hx hby tb16 2 [false] 33 _ [vr a5] (ai (feq P22).1 rfl) ?_
  exact own_retA X42 hx hret rfl (hb hby d16_33) hr
theorem ef20_3 (m : MethodId) (a1 a3 : Addr) (w4 : ClassId) (p5 p6 p7 p8 p9 p10 p11 p12 p13 p14 p15 p16 p17 p18 p19 : Int32) (a38 : Addr) : entryFrame m #[vr a1] 1 = mkF m 0 #[sr a1] [] := by first | rfl | (simp [entryFrame, mkF, argsToLocals, Value.category]; done)
def Q20_3 (Z : State) (a1 a3 : Addr) (w4 : ClassId) (p5 p6 p7 p8 p9 p10 p11 p12 p13 p14 p15 p16 p17 p18 p19 : Int32) (a38 : Addr) (h0 : Heap) (n0 : Nat) (v : Option Value) (h : Heap) (L : List Loc) : Prop := v = some (vr a38) ∧ Fr n0 L ∧ Keep h0 h []
theorem rm20_3 (hw : OW Z a0) (a1 a3 : Addr) (w4 : ClassId) (p5 p6 p7 p8 p9 p10 p11 p12 p13 p14 p15 p16 p17 p18 p19 : Int32) (a38 : Addr) (Z0 : n0 ≤ h0.size) (P1 : ab10 Z h0 a1) (P2 : ab7 Z h0 a1 (vi 0)) (P3 : ab8 Z h0 a1 (vr a3)) (P4 : Arv Z h0 a3 w4 .byte (14 : Int32) [vi p5, vi p6, vi p7, vi p8, vi p9, vi p10, vi p11, vi p12, vi p13, vi p14, vi p15, vi p16, vi p17, vi p18] (vi 0)) (P5 : ab1 Z (vi p19)) (P6 : ¬ (p19 = (0 : Int32))) (P7 : Old Z n0 h0) (P8 : ¬ ((va46 p5 p6 p7 p8 p9 p10 p11 p12 p13 p14 p15 p16 p17 p18) = (0 : Int32))) (P9 : ab4 Z (vr a38)) :
    MetFree l y18 (head1 (Jvm.Cond.code y18 method_4_code 1 (some (.object "com/example/sinkwatch/sinkwatch/Flaw")) :: ws) (orm 2 4 116 28)) (fun a U => a = #[vr a1] ∧ Z.Warmed39 U.vm ∧ U.heap = h0 ∧ CHv Z consts_1 U.vm h0 ∧ ∀ x ∈ ([a1] : List Addr), Safe Z consts_1 U.vm h0 x) (fun _ _ _ _ _ => True) (fun _ U o U' => ∃ v L, o = .returned v ∧ Q20_3 Z a1 a3 w4 p5 p6 p7 p8 p9 p10 p11 p12 p13 p14 p15 p16 p17 p18 p19 a38 h0 n0 v U'.heap L ∧ ReturnedEndW U o U' L (orm 2 4 116 28).cells (orm 2 4 116 28).slots) := by
  refine MetFree.of_bodySF (plainFor_of_name pn_3) hisR ?_
  intro p e s m args below meth c s₁ Bd hml0 hP hK
  obtain ⟨rfl, hZ, hh, hH, hSf⟩ := hP
  have hx := Bd.exec
  have hby := Bd.bytes
  have hml : c.maxLocals = 1 := hml0
  have hown : s.vm.findClass "com/example/sinkwatch/sinkwatch/FlawNamedPinLaw" = some m.cls := findClass_of_methodNamed Bd.named
  have hnm := (name_of_methodNamed Bd.named Bd.method).1
  have hret := Bd.returns
  have X0 : Stand p l e (orm 2 4 116 28) s m #[vr a1] below meth c s₁ [] 0 0 := Stand.of_body Bd
  have e0 : s₁.heap = h0 := by rw [← hh, Bd.state]; rfl
  have N0 := Fr.nil n0
  have pre0 : ∀ t, Steps p.tables e below (s₁.setTop (mkF m 0 #[sr a1] [])) t → Steps p.tables e below (s₁.setTop (entryFrame m #[vr a1] 1)) t := fun t k => castTop (ef20_3 m a1 a3 w4 p5 p6 p7 p8 p9 p10 p11 p12 p13 p14 p15 p16 p17 p18 p19 a38) k
  obtain ⟨b2a, T2, h2, k2, b2b, kl2, X2, e2, E2, hS2, hk2, hZ2, hown2, fa2, fb2, fc2, fd2, -, -, CH2, LT2, LN2, st2⟩ := ldcCH (s := s) (vm0 := s.vm) (show Stand _ _ _ _ (s.setVm s.vm) _ _ _ _ _ _ _ _ _ from X0) hx hZ hown (tw_1 hw) (own_wS hw) e0 (State.WarmedH.since (State.WarmedH.refl s) 0) (Nat.zero_le _) (own_EW hw) (List.mem_of_getElem? (i := 0) rfl) hH (vs := [(vi 115), (vi 113), (vi 108), (vi 45), (vi 105), (vi 110), (vi 106), (vi 101), (vi 99), (vi 116), (vi 105), (vi 111), (vi 110)]) (z := (13 : Int32)) (by decide +kernel) (by decide) (by decide) (g := (mkF m 1 #[sr a1] [vr a1])) rfl (hb hby d20_1) (n := 52) (by decide) (by decide) (by decide) (by decide)
  have F20 := (CHr.safe CH2 P1.lt (hSf _ (List.mem_of_getElem? (i := 0) rfl)))
  have F21 := (LN2 _ F20).1
  have F22 := (P7.ext E2)
  have F23 := (Fld.ext E2 P2)
  have F24 := (Fld.ext E2 P3)
  have F25 := (P4.ext E2)
  have F27 := (Exa.ext E2 P1)
  obtain ⟨T26, L26, _, X26, ⟨rfl, N26q, e26q⟩, st26⟩ := own_callV X2 hx hZ2 hown2 (tw_109 hw) (tw_98 hw) (notFace_of_selects (args := #[]) (mvT hZ2 (tw_100 hw))) (tw_100 hw) (tw_99 hw) (tw_2 hw) (tw_101 hw) (own_eq18 hw a1 b2a a3 b2b w4 kl2 ([p5, p6, p7, p8, p9, p10, p11, p12, p13, p14, p15, p16, p17, p18]) bl4 p19 0 (lx Z0 E2) F21 fa2 P5 F22 P6 F23 fb2 F24 fc2 F25 fd2) e2 F27 (Ls := #[sr a1]) hml [vr b2a] [] pd_16 0 (hb hby d20_3)
  have N26 := Fr.app N0 N26q
  have F28 := CH2.1
  obtain ⟨b29a, T29, h29, k29, b29b, kl29, X29, e29, E29, hS29, hk29, hZ29, hown29, fa29, fb29, fc29, fd29, -, -, CH29, LT29, LN29, st29⟩ := ldcCH (s := s) (vm0 := T2.vm) X26 hx hZ2 hown2 (tw_110 hw) (own_wS hw) e26q hS2 hk2 (own_EW hw) (List.mem_of_getElem? (i := 1) rfl) F28 (vs := [(vi 112), (vi 97), (vi 116), (vi 104), (vi 45), (vi 116), (vi 114), (vi 97), (vi 118), (vi 101), (vi 114), (vi 115), (vi 97), (vi 108)]) (z := (14 : Int32)) (by decide +kernel) (by decide) (by decide) (g := (mkF m 14 #[sr a1] [vr a1])) rfl (hb hby d20_14) (n := 56) (by decide) (by decide) (by decide) (by decide)
  have F30 := (CHr.safe CH29 F23.lt F20)
  have F31 := (LN29 _ F30).1
  have F32 := (F22.ext E29)
  have F33 := (Fld.ext E29 F23)
  have F34 := (Fld.ext E29 F24)
  have F35 := (F25.ext E29)
  have F37 := (Exa.ext E29 F27)
  obtain ⟨T36, L36, _, X36, ⟨rfl, N36q, e36q⟩, st36⟩ := own_callV X29 hx hZ29 hown29 (tw_109 hw) (tw_98 hw) (notFace_of_selects (args := #[]) (mvT hZ29 (tw_100 hw))) (tw_100 hw) (tw_99 hw) (tw_2 hw) (tw_101 hw) (own_eq18 hw a1 b29a a3 b29b w4 kl29 ([p5, p6, p7, p8, p9, p10, p11, p12, p13, p14, p15, p16, p17, p18]) bl5 p19 (va46 p5 p6 p7 p8 p9 p10 p11 p12 p13 p14 p15 p16 p17 p18) (lx (lx Z0 E2) E29) F31 fa29 P5 F32 P6 F33 fb29 F34 fc29 F35 fd29) e29 F37 (Ls := #[sr a1]) hml [vr b29a] [] pd_16 0 (hb hby d20_16)
  have N36 := Fr.app N26 N36q
  obtain ⟨T39, X39, e39, st39⟩ := getS2 X36 hx hZ29 hown29 (host := "") (Or.inl (tw_113 hw)) Via.refl e36q (Sta.ext F32.2 P9) (g := (mkF m 22 #[sr a1] [])) rfl (hb hby d20_22)
  have K40 := (Keep.refl h0 []).ext E2
  have K41 := K40.ext E29
  obtain ⟨fs, hr, hrun, hended, hRE⟩ := X39.leaveW hS29 (by rw [e39]; exact hk29) (v := some (vr a38)) (fun h => by rw [hret] at h; cases h)
  refine ⟨_, _, pre0 _ ?_, hrun, hended, _, _, rfl, ?_, hRE.1, hRE.2.1, hRE.2.2.1, hRE.2.2.2.mono (by decide) (by decide)⟩
  · refine own_b X0 hx hby tb20 1 [] 1 _ [vr a1] rfl ?_
    refine st2 _ ?_
    refine st26 _ ?_
    refine own_b X26 hx hby tb20 2 [true] 14 _ [vr a1] (ai (by decide) rfl) ?_
    refine st29 _ ?_
    refine st36 _ ?_
    refine own_b X36 hx hby tb20 1 [false] 22 _ [] (ai (feq P8).1 rfl) ?_
    refine st39 _ ?_
    exact own_retA X39 hx hret rfl (hb hby d20_25) hr
  · show Q20_3 Z a1 a3 w4 p5 p6 p7 p8 p9 p10 p11 p12 p13 p14 p15 p16 p17 p18 p19 a38 h0 n0 _ T39.heap _
    rw [e39]
    exact ⟨rfl, N36, K41⟩
theorem rm14_3 (hw : OW Z a0) (a1 a2 : Addr) (w3 : ClassId) (p4 p5 p6 p7 p8 p9 p10 p11 p12 p13 p14 p15 p16 p17 p18 : Int32) (w19 : ClassId) (Z0 : n0 ≤ h0.size) (P1 : Arv Z h0 a1 w3 .char (15 : Int32) [vi p4, vi p5, vi p6, vi p7, vi p8, vi p9, vi p10, vi p11, vi p12, vi p13, vi p14, vi p15, vi p16, vi p17, vi p18] (vi 0)) (P2 : ¬ ((255 : Int32) < p4)) (P3 : Arv Z h0 a2 w19 .byte (15 : Int32) bl9 (vi 0)) (P4 : n0 ≤ a2) (P5 : a1 ≠ a2) (P6 : ¬ ((255 : Int32) < p5)) (P7 : ¬ ((255 : Int32) < p6)) (P8 : ¬ ((255 : Int32) < p7)) (P9 : ¬ ((255 : Int32) < p8)) (P10 : ¬ ((255 : Int32) < p9)) (P11 : ¬ ((255 : Int32) < p10)) (P12 : ¬ ((255 : Int32) < p11)) (P13 : ¬ ((255 : Int32) < p12)) (P14 : ¬ ((255 : Int32) < p13)) (P15 : ¬ ((255 : Int32) < p14)) (P16 : ¬ ((255 : Int32) < p15)) (P17 : ¬ ((255 : Int32) < p16)) (P18 : ¬ ((255 : Int32) < p17)) (P19 : ¬ ((255 : Int32) < p18)) :
    M14 l Z ws (orm 0 0 0 0) #[vr a1, vi 0, vr a2, vi 0, vi 15] h0 (fun v h L => v = some (vi 15) ∧ Fr n0 L ∧ Keep h0 h [a2] ∧ Arv Z h a2 w19 .byte (15 : Int32) [vi (va21 p4), vi (va21 p5), vi (va21 p6), vi (va21 p7), vi (va21 p8), vi (va21 p9), vi (va21 p10), vi (va21 p11), vi (va21 p12), vi (va21 p13), vi (va21 p14), vi (va21 p15), vi (va21 p16), vi (va21 p17), vi (va21 p18)] (vi 0)) := by
  refine own_enter (plainFor_of_name pn_4) (L0 := (L_ririiuu a1 0 a2 0 15)) ?_
  intro p e s m below meth c s₁ hx hby hml hown hnm hret hZ X0 e0
  have N0 := Fr.nil n0
  obtain ⟨T20, h20, X20, e20, W20, V20, st20⟩ := own_stB X0 hx hZ e0 P3 (j := (0 : Int32)) (x := (p4.toInt8.toInt32)) 0 (Ls := (L_ririiii a1 0 a2 0 15 0 p4)) (rest := []) (hb hby d14_31)
  have N20 := Fr.snoc X20 N0 P4
  have F21 := (Arv.other P1 W20 P5)
  obtain ⟨T22, h22, X22, e22, W22, V22, st22⟩ := own_stB X20 hx hZ e20 V20 (j := (1 : Int32)) (x := (p5.toInt8.toInt32)) 1 (Ls := (L_ririiii a1 1 a2 1 15 1 p5)) (rest := []) (hb hby d14_31)
  have N22 := Fr.snoc X22 N20 P4
  have F23 := (Arv.other F21 W22 P5)
  obtain ⟨T24, h24, X24, e24, W24, V24, st24⟩ := own_stB X22 hx hZ e22 V22 (j := (2 : Int32)) (x := (p6.toInt8.toInt32)) 2 (Ls := (L_ririiii a1 2 a2 2 15 2 p6)) (rest := []) (hb hby d14_31)
  have N24 := Fr.snoc X24 N22 P4
  have F25 := (Arv.other F23 W24 P5)
  obtain ⟨T26, h26, X26, e26, W26, V26, st26⟩ := own_stB X24 hx hZ e24 V24 (j := (3 : Int32)) (x := (p7.toInt8.toInt32)) 3 (Ls := (L_ririiii a1 3 a2 3 15 3 p7)) (rest := []) (hb hby d14_31)
  have N26 := Fr.snoc X26 N24 P4
  have F27 := (Arv.other F25 W26 P5)
  obtain ⟨T28, h28, X28, e28, W28, V28, st28⟩ := own_stB X26 hx hZ e26 V26 (j := (4 : Int32)) (x := (p8.toInt8.toInt32)) 4 (Ls := (L_ririiii a1 4 a2 4 15 4 p8)) (rest := []) (hb hby d14_31)
  have N28 := Fr.snoc X28 N26 P4
  have F29 := (Arv.other F27 W28 P5)
  obtain ⟨T30, h30, X30, e30, W30, V30, st30⟩ := own_stB X28 hx hZ e28 V28 (j := (5 : Int32)) (x := (p9.toInt8.toInt32)) 5 (Ls := (L_ririiii a1 5 a2 5 15 5 p9)) (rest := []) (hb hby d14_31)
  have N30 := Fr.snoc X30 N28 P4
  have F31 := (Arv.other F29 W30 P5)
  obtain ⟨T32, h32, X32, e32, W32, V32, st32⟩ := own_stB X30 hx hZ e30 V30 (j := (6 : Int32)) (x := (p10.toInt8.toInt32)) 6 (Ls := (L_ririiii a1 6 a2 6 15 6 p10)) (rest := []) (hb hby d14_31)
  have N32 := Fr.snoc X32 N30 P4
  have F33 := (Arv.other F31 W32 P5)
  obtain ⟨T34, h34, X34, e34, W34, V34, st34⟩ := own_stB X32 hx hZ e32 V32 (j := (7 : Int32)) (x := (p11.toInt8.toInt32)) 7 (Ls := (L_ririiii a1 7 a2 7 15 7 p11)) (rest := []) (hb hby d14_31)
  have N34 := Fr.snoc X34 N32 P4
  have F35 := (Arv.other F33 W34 P5)
  obtain ⟨T36, h36, X36, e36, W36, V36, st36⟩ := own_stB X34 hx hZ e34 V34 (j := (8 : Int32)) (x := (p12.toInt8.toInt32)) 8 (Ls := (L_ririiii a1 8 a2 8 15 8 p12)) (rest := []) (hb hby d14_31)
  have N36 := Fr.snoc X36 N34 P4
  have F37 := (Arv.other F35 W36 P5)
  obtain ⟨T38, h38, X38, e38, W38, V38, st38⟩ := own_stB X36 hx hZ e36 V36 (j := (9 : Int32)) (x := (p13.toInt8.toInt32)) 9 (Ls := (L_ririiii a1 9 a2 9 15 9 p13)) (rest := []) (hb hby d14_31)
  have N38 := Fr.snoc X38 N36 P4
  have F39 := (Arv.other F37 W38 P5)
  obtain ⟨T40, h40, X40, e40, W40, V40, st40⟩ := own_stB X38 hx hZ e38 V38 (j := (10 : Int32)) (x := (p14.toInt8.toInt32)) 10 (Ls := (L_ririiii a1 10 a2 10 15 10 p14)) (rest := []) (hb hby d14_31)
  have N40 := Fr.snoc X40 N38 P4
  have F41 := (Arv.other F39 W40 P5)
  obtain ⟨T42, h42, X42, e42, W42, V42, st42⟩ := own_stB X40 hx hZ e40 V40 (j := (11 : Int32)) (x := (p15.toInt8.toInt32)) 11 (Ls := (L_ririiii a1 11 a2 11 15 11 p15)) (rest := []) (hb hby d14_31)
  have N42 := Fr.snoc X42 N40 P4
  have F43 := (Arv.other F41 W42 P5)
  obtain ⟨T44, h44, X44, e44, W44, V44, st44⟩ := own_stB X42 hx hZ e42 V42 (j := (12 : Int32)) (x := (p16.toInt8.toInt32)) 12 (Ls := (L_ririiii a1 12 a2 12 15 12 p16)) (rest := []) (hb hby d14_31)
  have N44 := Fr.snoc X44 N42 P4
  have F45 := (Arv.other F43 W44 P5)
  obtain ⟨T46, h46, X46, e46, W46, V46, st46⟩ := own_stB X44 hx hZ e44 V44 (j := (13 : Int32)) (x := (p17.toInt8.toInt32)) 13 (Ls := (L_ririiii a1 13 a2 13 15 13 p17)) (rest := []) (hb hby d14_31)
  have N46 := Fr.snoc X46 N44 P4
  have F47 := (Arv.other F45 W46 P5)
  obtain ⟨T48, h48, X48, e48, W48, V48, st48⟩ := own_stB X46 hx hZ e46 V46 (j := (14 : Int32)) (x := (p18.toInt8.toInt32)) 14 (Ls := (L_ririiii a1 14 a2 14 15 14 p18)) (rest := []) (hb hby d14_31)
  have N48 := Fr.snoc X48 N46 P4
  have K49 := (Keep.refl h0 [a2]).wr W20 (Or.inl (List.mem_of_getElem? (i := 0) rfl))
  have K50 := K49.wr W22 (Or.inl (List.mem_of_getElem? (i := 0) rfl))
  have K51 := K50.wr W24 (Or.inl (List.mem_of_getElem? (i := 0) rfl))
  have K52 := K51.wr W26 (Or.inl (List.mem_of_getElem? (i := 0) rfl))
  have K53 := K52.wr W28 (Or.inl (List.mem_of_getElem? (i := 0) rfl))
  have K54 := K53.wr W30 (Or.inl (List.mem_of_getElem? (i := 0) rfl))
  have K55 := K54.wr W32 (Or.inl (List.mem_of_getElem? (i := 0) rfl))
  have K56 := K55.wr W34 (Or.inl (List.mem_of_getElem? (i := 0) rfl))
  have K57 := K56.wr W36 (Or.inl (List.mem_of_getElem? (i := 0) rfl))
  have K58 := K57.wr W38 (Or.inl (List.mem_of_getElem? (i := 0) rfl))
  have K59 := K58.wr W40 (Or.inl (List.mem_of_getElem? (i := 0) rfl))
  have K60 := K59.wr W42 (Or.inl (List.mem_of_getElem? (i := 0) rfl))
  have K61 := K60.wr W44 (Or.inl (List.mem_of_getElem? (i := 0) rfl))
  have K62 := K61.wr W46 (Or.inl (List.mem_of_getElem? (i := 0) rfl))
  have K63 := K62.wr W48 (Or.inl (List.mem_of_getElem? (i := 0) rfl))
  refine ⟨T48, _, _, _, _, some (vi 15), X48, e48, by decide, by decide, nofun, ⟨rfl, N48, K63, V48⟩, fun fs hr => ?_⟩
  refine own_a X0 hx hZ e0 hby tb14 (aec P1 aen) 16 [false, true] [0] 31 (L_ririiii a1 0 a2 0 15 0 p4) [vi (p4.toInt8.toInt32), vi 0, vr a2] (ai (by decide) (ai rfl (ai (flt P2).2.2.2 rfl))) ?_
  refine st20 _ ?_
  refine own_a X20 hx hZ e20 hby tb14 (aec F21 aen) 18 [false, true] [0] 31 (L_ririiii a1 1 a2 1 15 1 p5) [vi (p5.toInt8.toInt32), vi 1, vr a2] (ai (by decide) (ai rfl (ai (flt P6).2.2.2 rfl))) ?_
  refine st22 _ ?_
  refine own_a X22 hx hZ e22 hby tb14 (aec F23 aen) 18 [false, true] [0] 31 (L_ririiii a1 2 a2 2 15 2 p6) [vi (p6.toInt8.toInt32), vi 2, vr a2] (ai (by decide) (ai rfl (ai (flt P7).2.2.2 rfl))) ?_
  refine st24 _ ?_
  refine own_a X24 hx hZ e24 hby tb14 (aec F25 aen) 18 [false, true] [0] 31 (L_ririiii a1 3 a2 3 15 3 p7) [vi (p7.toInt8.toInt32), vi 3, vr a2] (ai (by decide) (ai rfl (ai (flt P8).2.2.2 rfl))) ?_
  refine st26 _ ?_
  refine own_a X26 hx hZ e26 hby tb14 (aec F27 aen) 18 [false, true] [0] 31 (L_ririiii a1 4 a2 4 15 4 p8) [vi (p8.toInt8.toInt32), vi 4, vr a2] (ai (by decide) (ai rfl (ai (flt P9).2.2.2 rfl))) ?_
  refine st28 _ ?_
  refine own_a X28 hx hZ e28 hby tb14 (aec F29 aen) 18 [false, true] [0] 31 (L_ririiii a1 5 a2 5 15 5 p9) [vi (p9.toInt8.toInt32), vi 5, vr a2] (ai (by decide) (ai rfl (ai (flt P10).2.2.2 rfl))) ?_
  refine st30 _ ?_
  refine own_a X30 hx hZ e30 hby tb14 (aec F31 aen) 18 [false, true] [0] 31 (L_ririiii a1 6 a2 6 15 6 p10) [vi (p10.toInt8.toInt32), vi 6, vr a2] (ai (by decide) (ai rfl (ai (flt P11).2.2.2 rfl))) ?_
  refine st32 _ ?_
  refine own_a X32 hx hZ e32 hby tb14 (aec F33 aen) 18 [false, true] [0] 31 (L_ririiii a1 7 a2 7 15 7 p11) [vi (p11.toInt8.toInt32), vi 7, vr a2] (ai (by decide) (ai rfl (ai (flt P12).2.2.2 rfl))) ?_
  refine st34 _ ?_
  refine own_a X34 hx hZ e34 hby tb14 (aec F35 aen) 18 [false, true] [0] 31 (L_ririiii a1 8 a2 8 15 8 p12) [vi (p12.toInt8.toInt32), vi 8, vr a2] (ai (by decide) (ai rfl (ai (flt P13).2.2.2 rfl))) ?_
  refine st36 _ ?_
  refine own_a X36 hx hZ e36 hby tb14 (aec F37 aen) 18 [false, true] [0] 31 (L_ririiii a1 9 a2 9 15 9 p13) [vi (p13.toInt8.toInt32), vi 9, vr a2] (ai (by decide) (ai rfl (ai (flt P14).2.2.2 rfl))) ?_
  refine st38 _ ?_
  refine own_a X38 hx hZ e38 hby tb14 (aec F39 aen) 18 [false, true] [0] 31 (L_ririiii a1 10 a2 10 15 10 p14) [vi (p14.toInt8.toInt32), vi 10, vr a2] (ai (by decide) (ai rfl (ai (flt P15).2.2.2 rfl))) ?_
  refine st40 _ ?_
  refine own_a X40 hx hZ e40 hby tb14 (aec F41 aen) 18 [false, true] [0] 31 (L_ririiii a1 11 a2 11 15 11 p15) [vi (p15.toInt8.toInt32), vi 11, vr a2] (ai (by decide) (ai rfl (ai (flt P16).2.2.2 rfl))) ?_
  refine st42 _ ?_
  refine own_a X42 hx hZ e42 hby tb14 (aec F43 aen) 18 [false, true] [0] 31 (L_ririiii a1 12 a2 12 15 12 p16) [vi (p16.toInt8.toInt32), vi 12, vr a2] (ai (by decide) (ai rfl (ai (flt P17).2.2.2 rfl))) ?_
  refine st44 _ ?_
  refine own_a X44 hx hZ e44 hby tb14 (aec F45 aen) 18 [false, true] [0] 31 (L_ririiii a1 13 a2 13 15 13 p17) [vi (p17.toInt8.toInt32), vi 13, vr a2] (ai (by decide) (ai rfl (ai (flt P18).2.2.2 rfl))) ?_
  refine st46 _ ?_
  refine own_a X46 hx hZ e46 hby tb14 (aec F47 aen) 18 [false, true] [0] 31 (L_ririiii a1 14 a2 14 15 14 p18) [vi (p18.toInt8.toInt32), vi 14, vr a2] (ai (by decide) (ai rfl (ai (flt P19).2.2.2 rfl))) ?_
  refine st48 _ ?_
  refine own_b X48 hx hby tb14 8 [true] 46 (L_ririiii a1 15 a2 15 15 15 p18) [vi 15] (ai (by decide) rfl) ?_
  exact retI X48 hx hret (hb hby d14_46) hr
theorem rm13_3 (hw : OW Z a0) (a1 : Addr) (w4 : ClassId) (p5 p6 p7 p8 p9 p10 p11 p12 p13 p14 p15 p16 p17 p18 p19 : Int32) (Z0 : n0 ≤ h0.size) (P1 : Arv Z h0 a1 w4 .char (15 : Int32) [vi p5, vi p6, vi p7, vi p8, vi p9, vi p10, vi p11, vi p12, vi p13, vi p14, vi p15, vi p16, vi p17, vi p18, vi p19] (vi 0)) (P2 : ¬ ((255 : Int32) < p5)) (P3 : ¬ ((255 : Int32) < p6)) (P4 : ¬ ((255 : Int32) < p7)) (P5 : ¬ ((255 : Int32) < p8)) (P6 : ¬ ((255 : Int32) < p9)) (P7 : ¬ ((255 : Int32) < p10)) (P8 : ¬ ((255 : Int32) < p11)) (P9 : ¬ ((255 : Int32) < p12)) (P10 : ¬ ((255 : Int32) < p13)) (P11 : ¬ ((255 : Int32) < p14)) (P12 : ¬ ((255 : Int32) < p15)) (P13 : ¬ ((255 : Int32) < p16)) (P14 : ¬ ((255 : Int32) < p17)) (P15 : ¬ ((255 : Int32) < p18)) (P16 : ¬ ((255 : Int32) < p19)) :
    M13 l Z ws (orm 1 1 15 18) #[vr a1, vi 0, vi 15] h0 (fun v h L => ∃ b2 : Addr, ∃ k3 : ClassId, v = some (vr b2) ∧ Fr n0 L ∧ Keep h0 h [] ∧ n0 ≤ b2 ∧ h0.size ≤ b2 ∧ Arv Z h b2 k3 .byte (15 : Int32) [vi (va21 p5), vi (va21 p6), vi (va21 p7), vi (va21 p8), vi (va21 p9), vi (va21 p10), vi (va21 p11), vi (va21 p12), vi (va21 p13), vi (va21 p14), vi (va21 p15), vi (va21 p16), vi (va21 p17), vi (va21 p18), vi (va21 p19)] (vi 0)) := by
  refine own_enter (plainFor_of_name pn_4) (L0 := (L_riiuuu a1 0 15)) ?_
  intro p e s m below meth c s₁ hx hby hml hown hnm hret hZ X0 e0
  have N0 := Fr.nil n0
  obtain ⟨T3, h3, b2, k3, X3, e3, E3, g3, V3, st3⟩ := own_newP X0 hx hZ (tw_4 hw) e0 (n := (15 : Int32)) (k := 15) (d := (vi 0)) (vs := [vi 0, vi 0, vi 0, vi 0, vi 0, vi 0, vi 0, vi 0, vi 0, vi 0, vi 0, vi 0, vi 0, vi 0, vi 0]) (Ls := (L_riiuuu a1 0 15)) (S := []) (hb hby d13_1)
  have q3 := Nat.le_trans Z0 g3
  have z3 := Nat.le_trans (Nat.le_refl h0.size) g3
  have F20 := (P1.ext E3)
  have n21 := Nat.ne_of_lt (Nat.lt_of_lt_of_le P1.lt g3)
  obtain ⟨T22, L22, _, X22, ⟨rfl, N22q, K22, f22_0⟩, st22⟩ := own_callS X3 hx hZ hown (cw_4 hw) (rm14_3 hw a1 b2 w4 p5 p6 p7 p8 p9 p10 p11 p12 p13 p14 p15 p16 p17 p18 p19 k3 (lx Z0 E3) F20 P2 V3 q3 n21 P3 P4 P5 P6 P7 P8 P9 P10 P11 P12 P13 P14 P15 P16) e3 (Ls := (L_riiruu a1 0 15 b2)) hml [vr a1, vi 0, vr b2, vi 0, vi 15] [] pd_8 0 (hb hby d13_9)
  have N22 := Fr.app N0 N22q
  have K23 := (Keep.refl h0 []).ext E3
  have K24 := K23.trans K22 (allS (Or.inr z3) all0)
  refine ⟨T22, _, _, _, _, some (vr b2), X22, rfl, by decide, by decide, nofun, ⟨b2, k3, rfl, N22, K24, q3, z3, f22_0⟩, fun fs hr => ?_⟩
  refine own_b X0 hx hby tb13 1 [] 1 _ [vi 15] rfl ?_
  refine st3 _ ?_
  refine own_b X3 hx hby tb13 6 [] 9 (L_riiruu a1 0 15 b2) [vi 15, vi 0, vr b2, vi 0, vr a1] rfl ?_
  refine st22 _ ?_
  refine own_b X22 hx hby tb13 5 [true] 58 (L_riiriu a1 0 15 b2 15) [vr b2] (ai (by decide) rfl) ?_
  exact own_retA X22 hx hret rfl (hb hby d13_58) hr
theorem rm15_3 (hw : OW Z a0) (a1 : Addr) (w2 : ClassId) (p3 p4 p5 p6 p7 p8 p9 p10 p11 p12 p13 p14 p15 p16 p17 : Int32) (Z0 : n0 ≤ h0.size) (P1 : Arv Z h0 a1 w2 .byte (15 : Int32) [vi p3, vi p4, vi p5, vi p6, vi p7, vi p8, vi p9, vi p10, vi p11, vi p12, vi p13, vi p14, vi p15, vi p16, vi p17] (vi 0)) :
    M15 l Z ws (orm 0 0 0 0) #[vr a1, vi 15] h0 (QI n0 h0 (vi 0)) := by
  refine own_enter (plainFor_of_name pn_4) (L0 := (L_ri a1 15)) ?_
  intro p e s m below meth c s₁ hx hby hml hown hnm hret hZ X0 e0
  have N0 := Fr.nil n0
  refine ⟨s₁, _, _, _, _, some (vi 0), X0, e0, by decide, by decide, nofun, ⟨rfl, N0, rfl⟩, fun fs hr => ?_⟩
  refine own_a X0 hx hZ e0 hby tb15 (aec P1 aen) 7 [] [0] 8 _ [vi 0] (ai rfl rfl) ?_
  exact retN X0 hx (t := .byte) hret (by simp) (hb hby d15_8) hr
theorem rm11_3 (hw : OW Z a0) (a1 a2 : Addr) (p4 : Int32) (w6 : ClassId) (p7 p8 p9 p10 p11 p12 p13 p14 p15 p16 p17 p18 p19 p20 p21 : Int32) (Z0 : n0 ≤ h0.size) (P1 : ab1 Z (vi p4)) (P2 : Old Z n0 h0) (P3 : ¬ (p4 = (0 : Int32))) (P4 : Arv Z h0 a2 w6 .char (15 : Int32) [vi p7, vi p8, vi p9, vi p10, vi p11, vi p12, vi p13, vi p14, vi p15, vi p16, vi p17, vi p18, vi p19, vi p20, vi p21] (vi 0)) (P5 : ¬ ((255 : Int32) < p7)) (P6 : ¬ ((255 : Int32) < p8)) (P7 : ¬ ((255 : Int32) < p9)) (P8 : ¬ ((255 : Int32) < p10)) (P9 : ¬ ((255 : Int32) < p11)) (P10 : ¬ ((255 : Int32) < p12)) (P11 : ¬ ((255 : Int32) < p13)) (P12 : ¬ ((255 : Int32) < p14)) (P13 : ¬ ((255 : Int32) < p15)) (P14 : ¬ ((255 : Int32) < p16)) (P15 : ¬ ((255 : Int32) < p17)) (P16 : ¬ ((255 : Int32) < p18)) (P17 : ¬ ((255 : Int32) < p19)) (P18 : ¬ ((255 : Int32) < p20)) (P19 : ¬ ((255 : Int32) < p21)) (P20 : ab7 Z h0 a1 (vi 0)) (P21 : ab10 Z h0 a1) (P22 : n0 ≤ a1) (P23 : ab8 Z h0 a1 .null) :
    M11 l Z ws (orm 2 1 15 35) #[vr a1, vr a2, vi 0, vi 15, .null] h0 (fun v h L => ∃ b23 : Addr, ∃ kk22_0 : ClassId, v = none ∧ Fr n0 L ∧ Keep h0 h [a1] ∧ n0 ≤ b23 ∧ h0.size ≤ b23 ∧ ab7 Z h a1 (vi 0) ∧ ab8 Z h a1 (vr b23) ∧ Arv Z h b23 kk22_0 .byte (15 : Int32) [vi (va21 p7), vi (va21 p8), vi (va21 p9), vi (va21 p10), vi (va21 p11), vi (va21 p12), vi (va21 p13), vi (va21 p14), vi (va21 p15), vi (va21 p16), vi (va21 p17), vi (va21 p18), vi (va21 p19), vi (va21 p20), vi (va21 p21)] (vi 0)) := by
  refine own_enter (plainFor_of_name pn_0) (L0 := (L_rriinu a1 a2 0 15)) ?_
  intro p e s m below meth c s₁ hx hby hml hown hnm hret hZ X0 e0
  have N0 := Fr.nil n0
  obtain ⟨T3, X3, e3, st3⟩ := initO X0 hx hZ hown (tw_60 hw) (tw_61 hw) (tw_62 hw) e0 (g := (mkF m 1 (L_rriinu a1 a2 0 15) [vr a1])) rfl (by rw [hml]; rfl) rfl (hb hby d11_1) (by decide) (W := 0) (by show 2 * 0 + _ ≤ _; exact Nat.le_of_eq rfl) (by decide)
  obtain ⟨T5, X5, e5, st5⟩ := getS2 X3 hx hZ hown (host := "") (Or.inl (tw_20 hw)) Via.refl e3 (Sta.ext P2.2 P1) (g := (mkF m 27 (L_rriinu a1 a2 0 15) [])) rfl (hb hby d11_27)
  obtain ⟨T22, L22, _, X22, ⟨b23, kk22_0, rfl, N22q, K22, qa22_0, qb22_0, f22_0⟩, st22⟩ := own_callS X5 hx hZ hown (cw_5 hw) (rm13_3 hw a2 w6 p7 p8 p9 p10 p11 p12 p13 p14 p15 p16 p17 p18 p19 p20 p21 Z0 P4 P5 P6 P7 P8 P9 P10 P11 P12 P13 P14 P15 P16 P17 P18 P19) e5 (Ls := (L_rriinu a1 a2 0 15)) hml [vr a2, vi 0, vi 15] [] pd_9 0 (hb hby d11_36)
  have N22 := Fr.app N0 N22q
  have qd22_0 := Nat.le_trans (Nat.le_refl h0.size) qb22_0
  obtain ⟨T24, L24, _, X24, ⟨rfl, N24q, e24q⟩, st24⟩ := own_callS X22 hx hZ hown (cw_6 hw) (rm15_3 hw b23 kk22_0 (va21 p7) (va21 p8) (va21 p9) (va21 p10) (va21 p11) (va21 p12) (va21 p13) (va21 p14) (va21 p15) (va21 p16) (va21 p17) (va21 p18) (va21 p19) (va21 p20) (va21 p21) (Nat.le_trans Z0 K22.1) f22_0) rfl (Ls := (L_rriinr a1 a2 0 15 b23)) hml [vr b23, vi 15] [vr a1] pd_10 1 (hb hby d11_45)
  have N24 := Fr.app N22 N24q
  have F25 := (Fld.keep P20 K22 nin0)
  have F26 := (Exa.keep P21 K22)
  obtain ⟨T27, h27, X27, e27, W27, st27⟩ := putF X24 hx hZ hown (host := "") (Or.inl (tw_21 hw)) Via.refl e24q F25 F26 (Or.inr ⟨(tw_6 hw), rfl, hnm⟩) (tw_3 hw) (ty := .byte) (by decide) rfl rfl (g := (mkF m 48 (L_rriinr a1 a2 0 15 b23) [vi 0, vr a1])) rfl rfl (hb hby d11_48)
  have N27 := Fr.snoc X27 N24 P22
  have Fw27 := Fld.same W27 F25
  have F28 := (Fld.other W27 (Fld.keep P23 K22 nin0) (Or.inr (slot_ne (Or.inr (tw_5 hw)) (Or.inr (tw_6 hw)) (by decide) (t := (.array .byte)) (t' := .byte) (by decide) (by decide))))
  have F29 := (Exa.wr W27 F26)
  obtain ⟨T30, h30, X30, e30, W30, st30⟩ := putF X27 hx hZ hown (host := "") (Or.inl (tw_14 hw)) Via.refl e27 F28 F29 (Or.inr ⟨(tw_5 hw), rfl, hnm⟩) (tw_3 hw) (ty := (.array .byte)) (by decide) rfl rfl (g := (mkF m 54 (L_rriinr a1 a2 0 15 b23) [vr b23, vr a1])) rfl rfl (hb hby d11_54)
  have N30 := Fr.snoc X30 N27 P22
  have Fw30 := Fld.same W30 F28
  have F31 := (Fld.other W30 Fw27 (Or.inr (slot_ne (Or.inr (tw_6 hw)) (Or.inr (tw_5 hw)) (by decide) (t := .byte) (t' := (.array .byte)) (by decide) (by decide))))
  have n32 := Nat.ne_of_lt (Nat.lt_of_lt_of_le P20.lt qb22_0)
  have F33 := (Arv.other (Arv.other f22_0 W27 (Ne.symm n32)) W30 (Ne.symm n32))
  have K34 := (Keep.refl h0 [a1]).trans K22 all0
  have K35 := K34.wr W27 (Or.inl (List.mem_of_getElem? (i := 0) rfl))
  have K36 := K35.wr W30 (Or.inl (List.mem_of_getElem? (i := 0) rfl))
  refine ⟨T30, _, _, _, _, none, X30, e30, by decide, by decide, (fun _ => rfl), ⟨b23, kk22_0, rfl, N30, K36, qa22_0, qd22_0, F31, Fw30, F33⟩, fun fs hr => ?_⟩
  refine own_b X0 hx hby tb11 1 [] 1 _ [vr a1] rfl ?_
  refine st3 _ ?_
  refine own_b X3 hx hby tb11 2 [true] 27 _ [] (ai (by decide) rfl) ?_
  refine st5 _ ?_
  refine own_b X5 hx hby tb11 4 [false] 36 _ [vi 15, vi 0, vr a2] (ai (feq P3).1 rfl) ?_
  refine st22 _ ?_
  refine own_b X22 hx hby tb11 4 [] 45 (L_rriinr a1 a2 0 15 b23) [vi 15, vr b23, vr a1] rfl ?_
  refine st24 _ ?_
  refine st27 _ ?_
  refine own_b X27 hx hby tb11 2 [] 54 _ [vr b23, vr a1] rfl ?_
  refine st30 _ ?_
  show OS p e below T30 m 57 (L_rriinr a1 a2 0 15 b23) [] _
  exact X30.returnOut hx hret (hb hby d11_57) hr
theorem rm10_3 (hw : OW Z a0) (a1 a2 : Addr) (w3 : ClassId) (p4 p5 p6 p7 p8 p9 p10 p11 p12 p13 p14 p15 p16 p17 p18 p19 : Int32) (Z0 : n0 ≤ h0.size) (P1 : Arv Z h0 a2 w3 .char (15 : Int32) [vi p4, vi p5, vi p6, vi p7, vi p8, vi p9, vi p10, vi p11, vi p12, vi p13, vi p14, vi p15, vi p16, vi p17, vi p18] (vi 0)) (P2 : ab1 Z (vi p19)) (P3 : Old Z n0 h0) (P4 : ¬ (p19 = (0 : Int32))) (P5 : ¬ ((255 : Int32) < p4)) (P6 : ¬ ((255 : Int32) < p5)) (P7 : ¬ ((255 : Int32) < p6)) (P8 : ¬ ((255 : Int32) < p7)) (P9 : ¬ ((255 : Int32) < p8)) (P10 : ¬ ((255 : Int32) < p9)) (P11 : ¬ ((255 : Int32) < p10)) (P12 : ¬ ((255 : Int32) < p11)) (P13 : ¬ ((255 : Int32) < p12)) (P14 : ¬ ((255 : Int32) < p13)) (P15 : ¬ ((255 : Int32) < p14)) (P16 : ¬ ((255 : Int32) < p15)) (P17 : ¬ ((255 : Int32) < p16)) (P18 : ¬ ((255 : Int32) < p17)) (P19 : ¬ ((255 : Int32) < p18)) (P20 : ab7 Z h0 a1 (vi 0)) (P21 : ab10 Z h0 a1) (P22 : n0 ≤ a1) (P23 : ab8 Z h0 a1 .null) :
    M10 l Z ws (orm 3 1 15 52) #[vr a1, vr a2] h0 (fun v h L => ∃ b21 : Addr, ∃ kk20_0 : ClassId, v = none ∧ Fr n0 L ∧ Keep h0 h [a1] ∧ n0 ≤ b21 ∧ h0.size ≤ b21 ∧ ab7 Z h a1 (vi 0) ∧ ab8 Z h a1 (vr b21) ∧ Arv Z h b21 kk20_0 .byte (15 : Int32) [vi (va21 p4), vi (va21 p5), vi (va21 p6), vi (va21 p7), vi (va21 p8), vi (va21 p9), vi (va21 p10), vi (va21 p11), vi (va21 p12), vi (va21 p13), vi (va21 p14), vi (va21 p15), vi (va21 p16), vi (va21 p17), vi (va21 p18)] (vi 0)) := by
  refine own_enter (plainFor_of_name pn_0) (L0 := (L_rr a1 a2)) ?_
  intro p e s m below meth c s₁ hx hby hml hown hnm hret hZ X0 e0
  have N0 := Fr.nil n0
  obtain ⟨T20, L20, _, X20, ⟨b21, kk20_0, rfl, N20q, K20, qa20_0, qb20_0, f20_0, f20_1, f20_2⟩, st20⟩ := own_callI X0 hx hZ hown (cw_7 hw) (rm11_3 hw a1 a2 p19 w3 p4 p5 p6 p7 p8 p9 p10 p11 p12 p13 p14 p15 p16 p17 p18 Z0 P2 P3 P4 P1 P5 P6 P7 P8 P9 P10 P11 P12 P13 P14 P15 P16 P17 P18 P19 P20 P21 P22 P23) e0 (Ls := (L_rr a1 a2)) hml a1 [vr a2, vi 0, vi 15, .null] [] pd_11 0 (hb hby d10_6)
  have N20 := Fr.app N0 N20q
  have qd20_0 := Nat.le_trans (Nat.le_refl h0.size) qb20_0
  have K22 := (Keep.refl h0 [a1]).trans K20 (allS (Or.inl (List.mem_of_getElem? (i := 0) rfl)) all0)
  refine ⟨T20, _, _, _, _, none, X20, rfl, by decide, by decide, (fun _ => rfl), ⟨b21, kk20_0, rfl, N20, K22, qa20_0, qd20_0, f20_0, f20_1, f20_2⟩, fun fs hr => ?_⟩
  refine own_a X0 hx hZ e0 hby tb10 (aec P1 aen) 6 [] [0] 6 _ [.null, vi 15, vi 0, vr a2, vr a1] (ai rfl rfl) ?_
  refine st20 _ ?_
  show OS p e below T20 m 9 (L_rr a1 a2) [] _
  exact X20.returnOut hx hret (hb hby d10_9) hr
theorem rm3_3 (hw : OW Z a0) (a1 : Addr) (p2 p3 p4 : Int32) (a7 : Addr) (w8 : ClassId) (p9 : Int32) (w10 : (List Value)) (p11 : Int32) (a12 : Value) (p13 p21 p31 p39 p47 p56 p64 p72 p80 p88 p97 p105 p113 p121 p130 : Int32) (Z0 : n0 ≤ h0.size) (P1 : ab8 Z h0 a1 (vr a7)) (P2 : Arv Z h0 a7 w8 .byte p9 w10 (vi 0)) (P3 : ab7 Z h0 a1 (vi 0)) (P4 : ab10 Z h0 a1) (P5 : ab1 Z (vi p11)) (P6 : ab2 Z a12) (P7 : ¬ (p11 = (0 : Int32))) (P8 : CV p9 w10 (vi 0) (0 : Int32) p2 p3 p13) (P9 : Old Z n0 h0) (P10 : a12.isRef = true) (P11 : CV p9 w10 (vi 0) (1 : Int32) p2 p3 p21) (P12 : CV p9 w10 (vi 0) (2 : Int32) p2 p3 p31) (P13 : CV p9 w10 (vi 0) (3 : Int32) p2 p3 p39) (P14 : CV p9 w10 (vi 0) (4 : Int32) p2 p3 p47) (P15 : CV p9 w10 (vi 0) (5 : Int32) p2 p3 p56) (P16 : CV p9 w10 (vi 0) (6 : Int32) p2 p3 p64) (P17 : CV p9 w10 (vi 0) (7 : Int32) p2 p3 p72) (P18 : CV p9 w10 (vi 0) (8 : Int32) p2 p3 p80) (P19 : CV p9 w10 (vi 0) (9 : Int32) p2 p3 p88) (P20 : CV p9 w10 (vi 0) (10 : Int32) p2 p3 p97) (P21 : CV p9 w10 (vi 0) (11 : Int32) p2 p3 p105) (P22 : CV p9 w10 (vi 0) (12 : Int32) p2 p3 p113) (P23 : CV p9 w10 (vi 0) (13 : Int32) p2 p3 p121) (P24 : CV p9 w10 (vi 0) (14 : Int32) p2 p3 p130) (P25 : ¬ (p4 = (12 : Int32))) (P26 : ¬ (p4 = (13 : Int32))) (P27 : ¬ (p4 = (14 : Int32))) (P28 : ¬ ((255 : Int32) < (va20 p13))) (P29 : ¬ ((255 : Int32) < (va20 p21))) (P30 : ¬ ((255 : Int32) < (va20 p31))) (P31 : ¬ ((255 : Int32) < (va20 p39))) (P32 : ¬ ((255 : Int32) < (va20 p47))) (P33 : ¬ ((255 : Int32) < (va20 p56))) (P34 : ¬ ((255 : Int32) < (va20 p64))) (P35 : ¬ ((255 : Int32) < (va20 p72))) (P36 : ¬ ((255 : Int32) < (va20 p80))) (P37 : ¬ ((255 : Int32) < (va20 p88))) (P38 : ¬ ((255 : Int32) < (va20 p97))) (P39 : ¬ ((255 : Int32) < (va20 p105))) (P40 : ¬ ((255 : Int32) < (va20 p113))) (P41 : ¬ ((255 : Int32) < (va20 p121))) (P42 : ¬ ((255 : Int32) < (va20 p130))) :
    M3 l Z ws (orm 5 4 49 71) #[vr a1, vi p2, vi p3, vi p4] h0 (fun v h L => ∃ b138 : Addr, ∃ b183 : Addr, ∃ kk181_0 : ClassId, v = some (vr b138) ∧ Fr n0 L ∧ Keep h0 h [] ∧ n0 ≤ b138 ∧ h0.size ≤ b138 ∧ n0 ≤ b183 ∧ h0.size ≤ b183 ∧ b138 ≠ b183 ∧ ab10 Z h b138 ∧ ab7 Z h b138 (vi 0) ∧ ab8 Z h b138 (vr b183) ∧ Arv Z h b183 kk181_0 .byte (15 : Int32) [vi (va21 (va20 p13)), vi (va21 (va20 p21)), vi (va21 (va20 p31)), vi (va21 (va20 p39)), vi (va21 (va20 p47)), vi (va21 (va20 p56)), vi (va21 (va20 p64)), vi (va21 (va20 p72)), vi (va21 (va20 p80)), vi (va21 (va20 p88)), vi (va21 (va20 p97)), vi (va21 (va20 p105)), vi (va21 (va20 p113)), vi (va21 (va20 p121)), vi (va21 (va20 p130))] (vi 0)) := by
  refine own_enter (plainFor_of_name pn_3) (L0 := (L_riiiu a1 p2 p3 p4)) ?_
  intro p e s m below meth c s₁ hx hby hml hown hnm hret hZ X0 e0
  have N0 := Fr.nil n0
  obtain ⟨T6, h6, b5, k6, X6, e6, E6, g6, V6, st6⟩ := own_newP X0 hx hZ (tw_26 hw) e0 (n := (15 : Int32)) (k := 15) (d := (vi 0)) (vs := [vi 0, vi 0, vi 0, vi 0, vi 0, vi 0, vi 0, vi 0, vi 0, vi 0, vi 0, vi 0, vi 0, vi 0, vi 0]) (Ls := (L_riiiu a1 p2 p3 p4)) (S := []) (hb hby d3_2)
  have q6 := Nat.le_trans Z0 g6
  have z6 := Nat.le_trans (Nat.le_refl h0.size) g6
  have F14 := (Exa.ext E6 P4)
  have F15 := (Fld.ext E6 P1)
  have F16 := (P2.ext E6)
  have F17 := (P9.ext E6)
  have F18 := (Fld.ext E6 P3)
  obtain ⟨T19, L19, _, X19, ⟨rfl, N19q, e19q⟩, st19⟩ := own_callS X6 hx hZ hown (cw_3 hw) (own_cell hw a1 0 p2 p3 p13 a7 w8 p11 a12 (lx Z0 E6) F14 F15 F16 P5 F17 P7 F18 P6 P10 P8) e6 (Ls := (L_riiiu a1 p2 p3 p4)) hml [vr a1, vi 0, vi p2, vi p3] [vi 0, vr b5, vr b5] pd_7 3 (hb hby d3_10)
  have N19 := Fr.app N0 N19q
  obtain ⟨T20, h20, X20, e20, W20, V20, st20⟩ := own_stC X19 hx hZ e19q V6 (j := (0 : Int32)) (x := p13) 0 (Ls := (L_riiiu a1 p2 p3 p4)) (rest := [vr b5]) (hb hby d3_13)
  have N20 := Fr.snoc X20 N19 q6
  have F22 := (Exa.wr W20 F14)
  have n23 := Nat.ne_of_lt (Nat.lt_of_lt_of_le P1.lt g6)
  have F24 := (Fld.other W20 F15 (Or.inl n23))
  have n25 := Nat.ne_of_lt (Nat.lt_of_lt_of_le P2.lt g6)
  have F26 := (Arv.other F16 W20 n25)
  have F27 := (F17.wr W20 q6)
  have F28 := (Fld.other W20 F18 (Or.inl n23))
  obtain ⟨T29, L29, _, X29, ⟨rfl, N29q, e29q⟩, st29⟩ := own_callS X20 hx hZ hown (cw_3 hw) (own_cell hw a1 1 p2 p3 p21 a7 w8 p11 a12 (lw (lx Z0 E6) W20) F22 F24 F26 P5 F27 P7 F28 P6 P10 P11) e20 (Ls := (L_riiiu a1 p2 p3 p4)) hml [vr a1, vi 1, vi p2, vi p3] [vi 1, vr b5, vr b5] pd_7 3 (hb hby d3_20)
  have N29 := Fr.app N20 N29q
  obtain ⟨T30, h30, X30, e30, W30, V30, st30⟩ := own_stC X29 hx hZ e29q V20 (j := (1 : Int32)) (x := p21) 1 (Ls := (L_riiiu a1 p2 p3 p4)) (rest := [vr b5]) (hb hby d3_23)
  have N30 := Fr.snoc X30 N29 q6
  have F32 := (Exa.wr W30 F22)
  have F33 := (Fld.other W30 F24 (Or.inl n23))
  have F34 := (Arv.other F26 W30 n25)
  have F35 := (F27.wr W30 q6)
  have F36 := (Fld.other W30 F28 (Or.inl n23))
  obtain ⟨T37, L37, _, X37, ⟨rfl, N37q, e37q⟩, st37⟩ := own_callS X30 hx hZ hown (cw_3 hw) (own_cell hw a1 2 p2 p3 p31 a7 w8 p11 a12 (lw (lw (lx Z0 E6) W20) W30) F32 F33 F34 P5 F35 P7 F36 P6 P10 P12) e30 (Ls := (L_riiiu a1 p2 p3 p4)) hml [vr a1, vi 2, vi p2, vi p3] [vi 2, vr b5, vr b5] pd_7 3 (hb hby d3_30)
  have N37 := Fr.app N30 N37q
  obtain ⟨T38, h38, X38, e38, W38, V38, st38⟩ := own_stC X37 hx hZ e37q V30 (j := (2 : Int32)) (x := p31) 2 (Ls := (L_riiiu a1 p2 p3 p4)) (rest := [vr b5]) (hb hby d3_33)
  have N38 := Fr.snoc X38 N37 q6
  have F40 := (Exa.wr W38 F32)
  have F41 := (Fld.other W38 F33 (Or.inl n23))
  have F42 := (Arv.other F34 W38 n25)
  have F43 := (F35.wr W38 q6)
  have F44 := (Fld.other W38 F36 (Or.inl n23))
  obtain ⟨T45, L45, _, X45, ⟨rfl, N45q, e45q⟩, st45⟩ := own_callS X38 hx hZ hown (cw_3 hw) (own_cell hw a1 3 p2 p3 p39 a7 w8 p11 a12 (lw (lw (lw (lx Z0 E6) W20) W30) W38) F40 F41 F42 P5 F43 P7 F44 P6 P10 P13) e38 (Ls := (L_riiiu a1 p2 p3 p4)) hml [vr a1, vi 3, vi p2, vi p3] [vi 3, vr b5, vr b5] pd_7 3 (hb hby d3_40)
  have N45 := Fr.app N38 N45q
  obtain ⟨T46, h46, X46, e46, W46, V46, st46⟩ := own_stC X45 hx hZ e45q V38 (j := (3 : Int32)) (x := p39) 3 (Ls := (L_riiiu a1 p2 p3 p4)) (rest := [vr b5]) (hb hby d3_43)
  have N46 := Fr.snoc X46 N45 q6
  have F48 := (Exa.wr W46 F40)
  have F49 := (Fld.other W46 F41 (Or.inl n23))
  have F50 := (Arv.other F42 W46 n25)
  have F51 := (F43.wr W46 q6)
  have F52 := (Fld.other W46 F44 (Or.inl n23))
  have F54 := (lw (lw (lw (lw (lx Z0 E6) W20) W30) W38) W46)
  obtain ⟨T53, L53, _, X53, ⟨rfl, N53q, e53q⟩, st53⟩ := own_callS X46 hx hZ hown (cw_3 hw) (own_cell hw a1 4 p2 p3 p47 a7 w8 p11 a12 F54 F48 F49 F50 P5 F51 P7 F52 P6 P10 P14) e46 (Ls := (L_riiiu a1 p2 p3 p4)) hml [vr a1, vi 4, vi p2, vi p3] [vi 4, vr b5, vr b5] pd_7 3 (hb hby d3_50)
  have N53 := Fr.app N46 N53q
  obtain ⟨T55, h55, X55, e55, W55, V55, st55⟩ := own_stC X53 hx hZ e53q V46 (j := (4 : Int32)) (x := p47) 4 (Ls := (L_riiiu a1 p2 p3 p4)) (rest := [vr b5]) (hb hby d3_53)
  have N55 := Fr.snoc X55 N53 q6
  have F57 := (Exa.wr W55 F48)
  have F58 := (Fld.other W55 F49 (Or.inl n23))
  have F59 := (Arv.other F50 W55 n25)
  have F60 := (F51.wr W55 q6)
  have F61 := (Fld.other W55 F52 (Or.inl n23))
  obtain ⟨T62, L62, _, X62, ⟨rfl, N62q, e62q⟩, st62⟩ := own_callS X55 hx hZ hown (cw_3 hw) (own_cell hw a1 5 p2 p3 p56 a7 w8 p11 a12 (lw F54 W55) F57 F58 F59 P5 F60 P7 F61 P6 P10 P15) e55 (Ls := (L_riiiu a1 p2 p3 p4)) hml [vr a1, vi 5, vi p2, vi p3] [vi 5, vr b5, vr b5] pd_7 3 (hb hby d3_60)
  have N62 := Fr.app N55 N62q
  obtain ⟨T63, h63, X63, e63, W63, V63, st63⟩ := own_stC X62 hx hZ e62q V55 (j := (5 : Int32)) (x := p56) 5 (Ls := (L_riiiu a1 p2 p3 p4)) (rest := [vr b5]) (hb hby d3_63)
  have N63 := Fr.snoc X63 N62 q6
  have F65 := (Exa.wr W63 F57)
  have F66 := (Fld.other W63 F58 (Or.inl n23))
  have F67 := (Arv.other F59 W63 n25)
  have F68 := (F60.wr W63 q6)
  have F69 := (Fld.other W63 F61 (Or.inl n23))
  obtain ⟨T70, L70, _, X70, ⟨rfl, N70q, e70q⟩, st70⟩ := own_callS X63 hx hZ hown (cw_3 hw) (own_cell hw a1 6 p2 p3 p64 a7 w8 p11 a12 (lw (lw F54 W55) W63) F65 F66 F67 P5 F68 P7 F69 P6 P10 P16) e63 (Ls := (L_riiiu a1 p2 p3 p4)) hml [vr a1, vi 6, vi p2, vi p3] [vi 6, vr b5, vr b5] pd_7 3 (hb hby d3_72)
  have N70 := Fr.app N63 N70q
  obtain ⟨T71, h71, X71, e71, W71, V71, st71⟩ := own_stC X70 hx hZ e70q V63 (j := (6 : Int32)) (x := p64) 6 (Ls := (L_riiiu a1 p2 p3 p4)) (rest := [vr b5]) (hb hby d3_75)
  have N71 := Fr.snoc X71 N70 q6
  have F73 := (Exa.wr W71 F65)
  have F74 := (Fld.other W71 F66 (Or.inl n23))
  have F75 := (Arv.other F67 W71 n25)
  have F76 := (F68.wr W71 q6)
  have F77 := (Fld.other W71 F69 (Or.inl n23))
  obtain ⟨T78, L78, _, X78, ⟨rfl, N78q, e78q⟩, st78⟩ := own_callS X71 hx hZ hown (cw_3 hw) (own_cell hw a1 7 p2 p3 p72 a7 w8 p11 a12 (lw (lw (lw F54 W55) W63) W71) F73 F74 F75 P5 F76 P7 F77 P6 P10 P17) e71 (Ls := (L_riiiu a1 p2 p3 p4)) hml [vr a1, vi 7, vi p2, vi p3] [vi 7, vr b5, vr b5] pd_7 3 (hb hby d3_84)
  have N78 := Fr.app N71 N78q
  obtain ⟨T79, h79, X79, e79, W79, V79, st79⟩ := own_stC X78 hx hZ e78q V71 (j := (7 : Int32)) (x := p72) 7 (Ls := (L_riiiu a1 p2 p3 p4)) (rest := [vr b5]) (hb hby d3_87)
  have N79 := Fr.snoc X79 N78 q6
  have F81 := (Exa.wr W79 F73)
  have F82 := (Fld.other W79 F74 (Or.inl n23))
  have F83 := (Arv.other F75 W79 n25)
  have F84 := (F76.wr W79 q6)
  have F85 := (Fld.other W79 F77 (Or.inl n23))
  obtain ⟨T86, L86, _, X86, ⟨rfl, N86q, e86q⟩, st86⟩ := own_callS X79 hx hZ hown (cw_3 hw) (own_cell hw a1 8 p2 p3 p80 a7 w8 p11 a12 (lw (lw (lw (lw F54 W55) W63) W71) W79) F81 F82 F83 P5 F84 P7 F85 P6 P10 P18) e79 (Ls := (L_riiiu a1 p2 p3 p4)) hml [vr a1, vi 8, vi p2, vi p3] [vi 8, vr b5, vr b5] pd_7 3 (hb hby d3_96)
  have N86 := Fr.app N79 N86q
  obtain ⟨T87, h87, X87, e87, W87, V87, st87⟩ := own_stC X86 hx hZ e86q V79 (j := (8 : Int32)) (x := p80) 8 (Ls := (L_riiiu a1 p2 p3 p4)) (rest := [vr b5]) (hb hby d3_99)
  have N87 := Fr.snoc X87 N86 q6
  have F89 := (Exa.wr W87 F81)
  have F90 := (Fld.other W87 F82 (Or.inl n23))
  have F91 := (Arv.other F83 W87 n25)
  have F92 := (F84.wr W87 q6)
  have F93 := (Fld.other W87 F85 (Or.inl n23))
  have F95 := (lw (lw (lw (lw (lw F54 W55) W63) W71) W79) W87)
  obtain ⟨T94, L94, _, X94, ⟨rfl, N94q, e94q⟩, st94⟩ := own_callS X87 hx hZ hown (cw_3 hw) (own_cell hw a1 9 p2 p3 p88 a7 w8 p11 a12 F95 F89 F90 F91 P5 F92 P7 F93 P6 P10 P19) e87 (Ls := (L_riiiu a1 p2 p3 p4)) hml [vr a1, vi 9, vi p2, vi p3] [vi 9, vr b5, vr b5] pd_7 3 (hb hby d3_108)
  have N94 := Fr.app N87 N94q
  obtain ⟨T96, h96, X96, e96, W96, V96, st96⟩ := own_stC X94 hx hZ e94q V87 (j := (9 : Int32)) (x := p88) 9 (Ls := (L_riiiu a1 p2 p3 p4)) (rest := [vr b5]) (hb hby d3_111)
  have N96 := Fr.snoc X96 N94 q6
  have F98 := (Exa.wr W96 F89)
  have F99 := (Fld.other W96 F90 (Or.inl n23))
  have F100 := (Arv.other F91 W96 n25)
  have F101 := (F92.wr W96 q6)
  have F102 := (Fld.other W96 F93 (Or.inl n23))
  obtain ⟨T103, L103, _, X103, ⟨rfl, N103q, e103q⟩, st103⟩ := own_callS X96 hx hZ hown (cw_3 hw) (own_cell hw a1 10 p2 p3 p97 a7 w8 p11 a12 (lw F95 W96) F98 F99 F100 P5 F101 P7 F102 P6 P10 P20) e96 (Ls := (L_riiiu a1 p2 p3 p4)) hml [vr a1, vi 10, vi p2, vi p3] [vi 10, vr b5, vr b5] pd_7 3 (hb hby d3_120)
  have N103 := Fr.app N96 N103q
  obtain ⟨T104, h104, X104, e104, W104, V104, st104⟩ := own_stC X103 hx hZ e103q V96 (j := (10 : Int32)) (x := p97) 10 (Ls := (L_riiiu a1 p2 p3 p4)) (rest := [vr b5]) (hb hby d3_123)
  have N104 := Fr.snoc X104 N103 q6
  have F106 := (Exa.wr W104 F98)
  have F107 := (Fld.other W104 F99 (Or.inl n23))
  have F108 := (Arv.other F100 W104 n25)
  have F109 := (F101.wr W104 q6)
  have F110 := (Fld.other W104 F102 (Or.inl n23))
  obtain ⟨T111, L111, _, X111, ⟨rfl, N111q, e111q⟩, st111⟩ := own_callS X104 hx hZ hown (cw_3 hw) (own_cell hw a1 11 p2 p3 p105 a7 w8 p11 a12 (lw (lw F95 W96) W104) F106 F107 F108 P5 F109 P7 F110 P6 P10 P21) e104 (Ls := (L_riiiu a1 p2 p3 p4)) hml [vr a1, vi 11, vi p2, vi p3] [vi 11, vr b5, vr b5] pd_7 3 (hb hby d3_132)
  have N111 := Fr.app N104 N111q
  obtain ⟨T112, h112, X112, e112, W112, V112, st112⟩ := own_stC X111 hx hZ e111q V104 (j := (11 : Int32)) (x := p105) 11 (Ls := (L_riiiu a1 p2 p3 p4)) (rest := [vr b5]) (hb hby d3_135)
  have N112 := Fr.snoc X112 N111 q6
  have F114 := (Exa.wr W112 F106)
  have F115 := (Fld.other W112 F107 (Or.inl n23))
  have F116 := (Arv.other F108 W112 n25)
  have F117 := (F109.wr W112 q6)
  have F118 := (Fld.other W112 F110 (Or.inl n23))
  obtain ⟨T119, L119, _, X119, ⟨rfl, N119q, e119q⟩, st119⟩ := own_callS X112 hx hZ hown (cw_3 hw) (own_cell hw a1 12 p2 p3 p113 a7 w8 p11 a12 (lw (lw (lw F95 W96) W104) W112) F114 F115 F116 P5 F117 P7 F118 P6 P10 P22) e112 (Ls := (L_riiiu a1 p2 p3 p4)) hml [vr a1, vi 12, vi p2, vi p3] [vi 12, vr b5, vr b5] pd_7 3 (hb hby d3_144)
  have N119 := Fr.app N112 N119q
  obtain ⟨T120, h120, X120, e120, W120, V120, st120⟩ := own_stC X119 hx hZ e119q V112 (j := (12 : Int32)) (x := p113) 12 (Ls := (L_riiiu a1 p2 p3 p4)) (rest := [vr b5]) (hb hby d3_147)
  have N120 := Fr.snoc X120 N119 q6
  have F122 := (Exa.wr W120 F114)
  have F123 := (Fld.other W120 F115 (Or.inl n23))
  have F124 := (Arv.other F116 W120 n25)
  have F125 := (F117.wr W120 q6)
  have F126 := (Fld.other W120 F118 (Or.inl n23))
  have F128 := (lw (lw (lw (lw F95 W96) W104) W112) W120)
  obtain ⟨T127, L127, _, X127, ⟨rfl, N127q, e127q⟩, st127⟩ := own_callS X120 hx hZ hown (cw_3 hw) (own_cell hw a1 13 p2 p3 p121 a7 w8 p11 a12 F128 F122 F123 F124 P5 F125 P7 F126 P6 P10 P23) e120 (Ls := (L_riiiu a1 p2 p3 p4)) hml [vr a1, vi 13, vi p2, vi p3] [vi 13, vr b5, vr b5] pd_7 3 (hb hby d3_156)
  have N127 := Fr.app N120 N127q
  obtain ⟨T129, h129, X129, e129, W129, V129, st129⟩ := own_stC X127 hx hZ e127q V120 (j := (13 : Int32)) (x := p121) 13 (Ls := (L_riiiu a1 p2 p3 p4)) (rest := [vr b5]) (hb hby d3_159)
  have N129 := Fr.snoc X129 N127 q6
  have F131 := (Exa.wr W129 F122)
  have F132 := (Fld.other W129 F123 (Or.inl n23))
  have F133 := (Arv.other F124 W129 n25)
  have F134 := (F125.wr W129 q6)
  have F135 := (Fld.other W129 F126 (Or.inl n23))
  obtain ⟨T136, L136, _, X136, ⟨rfl, N136q, e136q⟩, st136⟩ := own_callS X129 hx hZ hown (cw_3 hw) (own_cell hw a1 14 p2 p3 p130 a7 w8 p11 a12 (lw F128 W129) F131 F132 F133 P5 F134 P7 F135 P6 P10 P24) e129 (Ls := (L_riiiu a1 p2 p3 p4)) hml [vr a1, vi 14, vi p2, vi p3] [vi 14, vr b5, vr b5] pd_7 3 (hb hby d3_168)
  have N136 := Fr.app N129 N136q
  obtain ⟨T137, h137, X137, e137, W137, V137, st137⟩ := own_stC X136 hx hZ e136q V129 (j := (14 : Int32)) (x := p130) 14 (Ls := (L_riiiu a1 p2 p3 p4)) (rest := [vr b5]) (hb hby d3_171)
  have N137 := Fr.snoc X137 N136 q6
  obtain ⟨T139, h139, b138, X139, e139, E139, g139, A139, D139, st139⟩ := own_new X137 hx hZ hown (tw_52 hw) (tw_3 hw) (tw_2 hw) e137 (Ls := (L_riiir a1 p2 p3 p4 b5)) (S := []) (hb hby d3_543)
  have F140 := (lw (lw (lw (lw (lw (lw (lw (lw (lw (lw (lw (lw (lw (lw (lw (lx (Nat.le_refl h0.size) E6) W20) W30) W38) W46) W55) W63) W71) W79) W87) W96) W104) W112) W120) W129) W137)
  have q139 := Nat.le_trans (lw (lw F128 W129) W137) g139
  have z139 := Nat.le_trans F140 g139
  have F141 : ab8 Z h139 b138 .null := D139 (Or.inr (tw_5 hw)) (ty := (.array .byte)) (by decide)
  have F142 : ab7 Z h139 b138 (vi 0) := D139 (Or.inr (tw_6 hw)) (ty := .byte) (by decide)
  obtain ⟨T144, h144, b143, k144, X144, e144, E144, g144, V144, st144⟩ := own_newP X139 hx hZ (tw_26 hw) e139 (n := (15 : Int32)) (k := 15) (d := (vi 0)) (vs := [vi 0, vi 0, vi 0, vi 0, vi 0, vi 0, vi 0, vi 0, vi 0, vi 0, vi 0, vi 0, vi 0, vi 0, vi 0]) (Ls := (L_riiir a1 p2 p3 p4 b5)) (S := [vr b138, vr b138]) (hb hby d3_549)
  have q144 := Nat.le_trans (lx (lw (lw F128 W129) W137) E139) g144
  have z144 := Nat.le_trans (lx F140 E139) g144
  have F145 := ((V137.ext E139).ext E144)
  obtain ⟨T146, h146, X146, e146, W146, V146, st146⟩ := own_stC X144 hx hZ e144 V144 (j := (0 : Int32)) (x := (nar .char p13)) 0 (Ls := (L_riiir a1 p2 p3 p4 b5)) (rest := [vr b143, vr b138, vr b138]) (hb hby d3_557)
  have N146 := Fr.snoc X146 N137 q144
  have n147 := Nat.ne_of_lt (Nat.lt_of_lt_of_le (Nat.lt_of_lt_of_le V137.lt E139.1) g144)
  have F148 := (Arv.other F145 W146 n147)
  obtain ⟨T149, h149, X149, e149, W149, V149, st149⟩ := own_stC X146 hx hZ e146 V146 (j := (1 : Int32)) (x := (nar .char p21)) 1 (Ls := (L_riiir a1 p2 p3 p4 b5)) (rest := [vr b143, vr b138, vr b138]) (hb hby d3_564)
  have N149 := Fr.snoc X149 N146 q144
  have F150 := (Arv.other F148 W149 n147)
  obtain ⟨T151, h151, X151, e151, W151, V151, st151⟩ := own_stC X149 hx hZ e149 V149 (j := (2 : Int32)) (x := (nar .char p31)) 2 (Ls := (L_riiir a1 p2 p3 p4 b5)) (rest := [vr b143, vr b138, vr b138]) (hb hby d3_571)
  have N151 := Fr.snoc X151 N149 q144
  have F152 := (Arv.other F150 W151 n147)
  obtain ⟨T153, h153, X153, e153, W153, V153, st153⟩ := own_stC X151 hx hZ e151 V151 (j := (3 : Int32)) (x := (nar .char p39)) 3 (Ls := (L_riiir a1 p2 p3 p4 b5)) (rest := [vr b143, vr b138, vr b138]) (hb hby d3_578)
  have N153 := Fr.snoc X153 N151 q144
  have F154 := (Arv.other F152 W153 n147)
  obtain ⟨T155, h155, X155, e155, W155, V155, st155⟩ := own_stC X153 hx hZ e153 V153 (j := (4 : Int32)) (x := (nar .char p47)) 4 (Ls := (L_riiir a1 p2 p3 p4 b5)) (rest := [vr b143, vr b138, vr b138]) (hb hby d3_585)
  have N155 := Fr.snoc X155 N153 q144
  have F156 := (Arv.other F154 W155 n147)
  obtain ⟨T157, h157, X157, e157, W157, V157, st157⟩ := own_stC X155 hx hZ e155 V155 (j := (5 : Int32)) (x := (nar .char p56)) 5 (Ls := (L_riiir a1 p2 p3 p4 b5)) (rest := [vr b143, vr b138, vr b138]) (hb hby d3_592)
  have N157 := Fr.snoc X157 N155 q144
  have F158 := (Arv.other F156 W157 n147)
  obtain ⟨T159, h159, X159, e159, W159, V159, st159⟩ := own_stC X157 hx hZ e157 V157 (j := (6 : Int32)) (x := (nar .char p64)) 6 (Ls := (L_riiir a1 p2 p3 p4 b5)) (rest := [vr b143, vr b138, vr b138]) (hb hby d3_601)
  have N159 := Fr.snoc X159 N157 q144
  have F160 := (Arv.other F158 W159 n147)
  obtain ⟨T161, h161, X161, e161, W161, V161, st161⟩ := own_stC X159 hx hZ e159 V159 (j := (7 : Int32)) (x := (nar .char p72)) 7 (Ls := (L_riiir a1 p2 p3 p4 b5)) (rest := [vr b143, vr b138, vr b138]) (hb hby d3_610)
  have N161 := Fr.snoc X161 N159 q144
  have F162 := (Arv.other F160 W161 n147)
  obtain ⟨T163, h163, X163, e163, W163, V163, st163⟩ := own_stC X161 hx hZ e161 V161 (j := (8 : Int32)) (x := (nar .char p80)) 8 (Ls := (L_riiir a1 p2 p3 p4 b5)) (rest := [vr b143, vr b138, vr b138]) (hb hby d3_619)
  have N163 := Fr.snoc X163 N161 q144
  have F164 := (Arv.other F162 W163 n147)
  obtain ⟨T165, h165, X165, e165, W165, V165, st165⟩ := own_stC X163 hx hZ e163 V163 (j := (9 : Int32)) (x := (nar .char p88)) 9 (Ls := (L_riiir a1 p2 p3 p4 b5)) (rest := [vr b143, vr b138, vr b138]) (hb hby d3_628)
  have N165 := Fr.snoc X165 N163 q144
  have F166 := (Arv.other F164 W165 n147)
  obtain ⟨T167, h167, X167, e167, W167, V167, st167⟩ := own_stC X165 hx hZ e165 V165 (j := (10 : Int32)) (x := (nar .char p97)) 10 (Ls := (L_riiir a1 p2 p3 p4 b5)) (rest := [vr b143, vr b138, vr b138]) (hb hby d3_637)
  have N167 := Fr.snoc X167 N165 q144
  have F168 := (Arv.other F166 W167 n147)
  obtain ⟨T169, h169, X169, e169, W169, V169, st169⟩ := own_stC X167 hx hZ e167 V167 (j := (11 : Int32)) (x := (nar .char p105)) 11 (Ls := (L_riiir a1 p2 p3 p4 b5)) (rest := [vr b143, vr b138, vr b138]) (hb hby d3_646)
  have N169 := Fr.snoc X169 N167 q144
  have F170 := (Arv.other F168 W169 n147)
  obtain ⟨T171, h171, X171, e171, W171, V171, st171⟩ := own_stC X169 hx hZ e169 V169 (j := (12 : Int32)) (x := (nar .char p113)) 12 (Ls := (L_riiir a1 p2 p3 p4 b5)) (rest := [vr b143, vr b138, vr b138]) (hb hby d3_655)
  have N171 := Fr.snoc X171 N169 q144
  have F172 := (Arv.other F170 W171 n147)
  obtain ⟨T173, h173, X173, e173, W173, V173, st173⟩ := own_stC X171 hx hZ e171 V171 (j := (13 : Int32)) (x := (nar .char p121)) 13 (Ls := (L_riiir a1 p2 p3 p4 b5)) (rest := [vr b143, vr b138, vr b138]) (hb hby d3_664)
  have N173 := Fr.snoc X173 N171 q144
  have F174 := (Arv.other F172 W173 n147)
  obtain ⟨T175, h175, X175, e175, W175, V175, st175⟩ := own_stC X173 hx hZ e173 V173 (j := (14 : Int32)) (x := (nar .char p130)) 14 (Ls := (L_riiir a1 p2 p3 p4 b5)) (rest := [vr b143, vr b138, vr b138]) (hb hby d3_673)
  have N175 := Fr.snoc X175 N173 q144
  have F176 := ((((((((((((((((((F134.wr W137 q6).ext E139).ext E144).wr W146 q144).wr W149 q144).wr W151 q144).wr W153 q144).wr W155 q144).wr W157 q144).wr W159 q144).wr W161 q144).wr W163 q144).wr W165 q144).wr W167 q144).wr W169 q144).wr W171 q144).wr W173 q144).wr W175 q144)
  have n177 := Nat.ne_of_lt (Nat.lt_of_lt_of_le A139.lt g144)
  have F178 := (Fld.other W175 (Fld.other W173 (Fld.other W171 (Fld.other W169 (Fld.other W167 (Fld.other W165 (Fld.other W163 (Fld.other W161 (Fld.other W159 (Fld.other W157 (Fld.other W155 (Fld.other W153 (Fld.other W151 (Fld.other W149 (Fld.other W146 (Fld.ext E144 F142) (Or.inl n177)) (Or.inl n177)) (Or.inl n177)) (Or.inl n177)) (Or.inl n177)) (Or.inl n177)) (Or.inl n177)) (Or.inl n177)) (Or.inl n177)) (Or.inl n177)) (Or.inl n177)) (Or.inl n177)) (Or.inl n177)) (Or.inl n177)) (Or.inl n177))
  have F179 := (Exa.wr W175 (Exa.wr W173 (Exa.wr W171 (Exa.wr W169 (Exa.wr W167 (Exa.wr W165 (Exa.wr W163 (Exa.wr W161 (Exa.wr W159 (Exa.wr W157 (Exa.wr W155 (Exa.wr W153 (Exa.wr W151 (Exa.wr W149 (Exa.wr W146 (Exa.ext E144 A139))))))))))))))))
  have F180 := (Fld.other W175 (Fld.other W173 (Fld.other W171 (Fld.other W169 (Fld.other W167 (Fld.other W165 (Fld.other W163 (Fld.other W161 (Fld.other W159 (Fld.other W157 (Fld.other W155 (Fld.other W153 (Fld.other W151 (Fld.other W149 (Fld.other W146 (Fld.ext E144 F141) (Or.inl n177)) (Or.inl n177)) (Or.inl n177)) (Or.inl n177)) (Or.inl n177)) (Or.inl n177)) (Or.inl n177)) (Or.inl n177)) (Or.inl n177)) (Or.inl n177)) (Or.inl n177)) (Or.inl n177)) (Or.inl n177)) (Or.inl n177)) (Or.inl n177))
  have F182 := (lw (lw (lw (lw (lw (lw (lw (lw (lw (lw (lw (lw (lw (lw (lw (lx (lx (lw (lw F128 W129) W137) E139) E144) W146) W149) W151) W153) W155) W157) W159) W161) W163) W165) W167) W169) W171) W173) W175)
  obtain ⟨T181, L181, _, X181, ⟨b183, kk181_0, rfl, N181q, K181, qa181_0, qb181_0, f181_0, f181_1, f181_2⟩, st181⟩ := own_callI X175 hx hZ hown (cw_8 hw) (rm10_3 hw b138 b143 k144 (va20 p13) (va20 p21) (va20 p31) (va20 p39) (va20 p47) (va20 p56) (va20 p64) (va20 p72) (va20 p80) (va20 p88) (va20 p97) (va20 p105) (va20 p113) (va20 p121) (va20 p130) p11 F182 V175 P5 F176 P7 P28 P29 P30 P31 P32 P33 P34 P35 P36 P37 P38 P39 P40 P41 P42 F178 F179 q139 F180) e175 (Ls := (L_riiir a1 p2 p3 p4 b5)) hml b138 [vr b143] [vr b138] pd_12 1 (hb hby d3_674)
  have N181 := Fr.app N175 N181q
  have F184 := (lw (lw (lw (lw (lw (lw (lw (lw (lw (lw (lw (lw (lw (lw (lw (lx (lx F140 E139) E144) W146) W149) W151) W153) W155) W157) W159) W161) W163) W165) W167) W169) W171) W173) W175)
  have qd181_0 := Nat.le_trans F184 qb181_0
  have F185 := (Exa.keep F179 K181)
  have K186 := (Keep.refl h0 []).ext E6
  have K187 := K186.wr W20 (Or.inr z6)
  have K188 := K187.wr W30 (Or.inr z6)
  have K189 := K188.wr W38 (Or.inr z6)
  have K190 := K189.wr W46 (Or.inr z6)
  have K191 := K190.wr W55 (Or.inr z6)
  have K192 := K191.wr W63 (Or.inr z6)
  have K193 := K192.wr W71 (Or.inr z6)
  have K194 := K193.wr W79 (Or.inr z6)
  have K195 := K194.wr W87 (Or.inr z6)
  have K196 := K195.wr W96 (Or.inr z6)
  have K197 := K196.wr W104 (Or.inr z6)
  have K198 := K197.wr W112 (Or.inr z6)
  have K199 := K198.wr W120 (Or.inr z6)
  have K200 := K199.wr W129 (Or.inr z6)
  have K201 := K200.wr W137 (Or.inr z6)
  have K202 := K201.ext E139
  have K203 := K202.ext E144
  have K204 := K203.wr W146 (Or.inr z144)
  have K205 := K204.wr W149 (Or.inr z144)
  have K206 := K205.wr W151 (Or.inr z144)
  have K207 := K206.wr W153 (Or.inr z144)
  have K208 := K207.wr W155 (Or.inr z144)
  have K209 := K208.wr W157 (Or.inr z144)
  have K210 := K209.wr W159 (Or.inr z144)
  have K211 := K210.wr W161 (Or.inr z144)
  have K212 := K211.wr W163 (Or.inr z144)
  have K213 := K212.wr W165 (Or.inr z144)
  have K214 := K213.wr W167 (Or.inr z144)
  have K215 := K214.wr W169 (Or.inr z144)
  have K216 := K215.wr W171 (Or.inr z144)
  have K217 := K216.wr W173 (Or.inr z144)
  have K218 := K217.wr W175 (Or.inr z144)
  have K219 := K218.trans K181 (allS (Or.inr z139) all0)
  have n220 := Nat.ne_of_lt (Nat.lt_of_lt_of_le F178.lt qb181_0)
  refine ⟨T181, _, _, _, _, some (vr b138), X181, rfl, by decide, by decide, nofun, ⟨b138, b183, kk181_0, rfl, N181, K219, q139, z139, qa181_0, qd181_0, n220, F185, f181_0, f181_1, f181_2⟩, fun fs hr => ?_⟩
  refine own_b X0 hx hby tb3 1 [] 2 _ [vi 15] rfl ?_
  refine st6 _ ?_
  refine own_b X6 hx hby tb3 6 [] 10 _ [vi p3, vi p2, vi 0, vr a1, vi 0, vr b5, vr b5] rfl ?_
  refine st19 _ ?_
  refine st20 _ ?_
  refine own_b X20 hx hby tb3 6 [] 20 _ [vi p3, vi p2, vi 1, vr a1, vi 1, vr b5, vr b5] rfl ?_
  refine st29 _ ?_
  refine st30 _ ?_
  refine own_b X30 hx hby tb3 6 [] 30 _ [vi p3, vi p2, vi 2, vr a1, vi 2, vr b5, vr b5] rfl ?_
  refine st37 _ ?_
  refine st38 _ ?_
  refine own_b X38 hx hby tb3 6 [] 40 _ [vi p3, vi p2, vi 3, vr a1, vi 3, vr b5, vr b5] rfl ?_
  refine st45 _ ?_
  refine st46 _ ?_
  refine own_b X46 hx hby tb3 6 [] 50 _ [vi p3, vi p2, vi 4, vr a1, vi 4, vr b5, vr b5] rfl ?_
  refine st53 _ ?_
  refine st55 _ ?_
  refine own_b X55 hx hby tb3 6 [] 60 _ [vi p3, vi p2, vi 5, vr a1, vi 5, vr b5, vr b5] rfl ?_
  refine st62 _ ?_
  refine st63 _ ?_
  refine own_b X63 hx hby tb3 6 [] 72 _ [vi p3, vi p2, vi 6, vr a1, vi 6, vr b5, vr b5] rfl ?_
  refine st70 _ ?_
  refine st71 _ ?_
  refine own_b X71 hx hby tb3 6 [] 84 _ [vi p3, vi p2, vi 7, vr a1, vi 7, vr b5, vr b5] rfl ?_
  refine st78 _ ?_
  refine st79 _ ?_
  refine own_b X79 hx hby tb3 6 [] 96 _ [vi p3, vi p2, vi 8, vr a1, vi 8, vr b5, vr b5] rfl ?_
  refine st86 _ ?_
  refine st87 _ ?_
  refine own_b X87 hx hby tb3 6 [] 108 _ [vi p3, vi p2, vi 9, vr a1, vi 9, vr b5, vr b5] rfl ?_
  refine st94 _ ?_
  refine st96 _ ?_
  refine own_b X96 hx hby tb3 6 [] 120 _ [vi p3, vi p2, vi 10, vr a1, vi 10, vr b5, vr b5] rfl ?_
  refine st103 _ ?_
  refine st104 _ ?_
  refine own_b X104 hx hby tb3 6 [] 132 _ [vi p3, vi p2, vi 11, vr a1, vi 11, vr b5, vr b5] rfl ?_
  refine st111 _ ?_
  refine st112 _ ?_
  refine own_b X112 hx hby tb3 6 [] 144 _ [vi p3, vi p2, vi 12, vr a1, vi 12, vr b5, vr b5] rfl ?_
  refine st119 _ ?_
  refine st120 _ ?_
  refine own_b X120 hx hby tb3 6 [] 156 _ [vi p3, vi p2, vi 13, vr a1, vi 13, vr b5, vr b5] rfl ?_
  refine st127 _ ?_
  refine st129 _ ?_
  refine own_b X129 hx hby tb3 6 [] 168 _ [vi p3, vi p2, vi 14, vr a1, vi 14, vr b5, vr b5] rfl ?_
  refine st136 _ ?_
  refine st137 _ ?_
  refine own_b X137 hx hby tb3 10 [true, true, true] 543 (L_riiir a1 p2 p3 p4 b5) [] (ai (feq P25).2 (ai (feq P26).2 (ai (feq P27).2 rfl))) ?_
  refine st139 _ ?_
  refine own_b X139 hx hby tb3 2 [] 549 _ [vi 15, vr b138, vr b138] rfl ?_
  refine st144 _ ?_
  refine own_a X144 hx hZ e144 hby tb3 (aec F145 aen) 5 [] [0] 557 _ [vi (nar .char p13), vi 0, vr b143, vr b143, vr b138, vr b138] (ai rfl rfl) ?_
  refine st146 _ ?_
  refine own_a X146 hx hZ e146 hby tb3 (aec F148 aen) 5 [] [0] 564 _ [vi (nar .char p21), vi 1, vr b143, vr b143, vr b138, vr b138] (ai rfl rfl) ?_
  refine st149 _ ?_
  refine own_a X149 hx hZ e149 hby tb3 (aec F150 aen) 5 [] [0] 571 _ [vi (nar .char p31), vi 2, vr b143, vr b143, vr b138, vr b138] (ai rfl rfl) ?_
  refine st151 _ ?_
  refine own_a X151 hx hZ e151 hby tb3 (aec F152 aen) 5 [] [0] 578 _ [vi (nar .char p39), vi 3, vr b143, vr b143, vr b138, vr b138] (ai rfl rfl) ?_
  refine st153 _ ?_
  refine own_a X153 hx hZ e153 hby tb3 (aec F154 aen) 5 [] [0] 585 _ [vi (nar .char p47), vi 4, vr b143, vr b143, vr b138, vr b138] (ai rfl rfl) ?_
  refine st155 _ ?_
  refine own_a X155 hx hZ e155 hby tb3 (aec F156 aen) 5 [] [0] 592 _ [vi (nar .char p56), vi 5, vr b143, vr b143, vr b138, vr b138] (ai rfl rfl) ?_
  refine st157 _ ?_
  refine own_a X157 hx hZ e157 hby tb3 (aec F158 aen) 5 [] [0] 601 _ [vi (nar .char p64), vi 6, vr b143, vr b143, vr b138, vr b138] (ai rfl rfl) ?_
  refine st159 _ ?_
  refine own_a X159 hx hZ e159 hby tb3 (aec F160 aen) 5 [] [0] 610 _ [vi (nar .char p72), vi 7, vr b143, vr b143, vr b138, vr b138] (ai rfl rfl) ?_
  refine st161 _ ?_
  refine own_a X161 hx hZ e161 hby tb3 (aec F162 aen) 5 [] [0] 619 _ [vi (nar .char p80), vi 8, vr b143, vr b143, vr b138, vr b138] (ai rfl rfl) ?_
  refine st163 _ ?_
  refine own_a X163 hx hZ e163 hby tb3 (aec F164 aen) 5 [] [0] 628 _ [vi (nar .char p88), vi 9, vr b143, vr b143, vr b138, vr b138] (ai rfl rfl) ?_
  refine st165 _ ?_
  refine own_a X165 hx hZ e165 hby tb3 (aec F166 aen) 5 [] [0] 637 _ [vi (nar .char p97), vi 10, vr b143, vr b143, vr b138, vr b138] (ai rfl rfl) ?_
  refine st167 _ ?_
  refine own_a X167 hx hZ e167 hby tb3 (aec F168 aen) 5 [] [0] 646 _ [vi (nar .char p105), vi 11, vr b143, vr b143, vr b138, vr b138] (ai rfl rfl) ?_
  refine st169 _ ?_
  refine own_a X169 hx hZ e169 hby tb3 (aec F170 aen) 5 [] [0] 655 _ [vi (nar .char p113), vi 12, vr b143, vr b143, vr b138, vr b138] (ai rfl rfl) ?_
  refine st171 _ ?_
  refine own_a X171 hx hZ e171 hby tb3 (aec F172 aen) 5 [] [0] 664 _ [vi (nar .char p121), vi 13, vr b143, vr b143, vr b138, vr b138] (ai rfl rfl) ?_
  refine st173 _ ?_
  refine own_a X173 hx hZ e173 hby tb3 (aec F174 aen) 5 [] [0] 673 _ [vi (nar .char p130), vi 14, vr b143, vr b143, vr b138, vr b138] (ai rfl rfl) ?_
  refine st175 _ ?_
  refine st181 _ ?_
  exact own_retA X181 hx hret rfl (hb hby d3_677) hr
theorem rm16_4 (hw : OW Z a0) (a1 a2 : Addr) (w3 : ClassId) (a4 a5 a6 a9 a12 a13 : Addr) (w14 w15 : ClassId) (p16 p17 p18 p19 p20 p21 p22 p23 p24 p25 p26 p27 p28 p29 p30 p31 : Int32) (a38 a40 : Addr) (w41 : ClassId) (a44 a46 : Addr) (w47 : ClassId) (Z0 : n0 ≤ h0.size) (P1 : ab3 Z (vr a2)) (P2 : Old Z n0 h0) (P3 : ab11 Z Z.heap a2) (P4 : Arv Z Z.heap a2 w3 (.object "com/example/sinkwatch/sinkwatch/Flaw") (3 : Int32) [vr a4, vr a5, vr a6] .null) (P5 : ab9 Z Z.heap a4 (vr a9)) (P6 : ab10 Z Z.heap a9) (P7 : ab10 Z h0 a1) (P8 : ab7 Z Z.heap a9 (vi 0)) (P9 : ab7 Z h0 a1 (vi 0)) (P10 : ab8 Z Z.heap a9 (vr a12)) (P11 : ab8 Z h0 a1 (vr a13)) (P12 : Arv Z Z.heap a12 w14 .byte (13 : Int32) bl3 (vi 0)) (P13 : Arv Z h0 a13 w15 .byte (15 : Int32) [vi p16, vi p17, vi p18, vi p19, vi p20, vi p21, vi p22, vi p23, vi p24, vi p25, vi p26, vi p27, vi p28, vi p29, vi p30] (vi 0)) (P14 : ab1 Z (vi p31)) (P15 : ¬ (p31 = (0 : Int32))) (P16 : n0 ≤ a1) (P17 : ab9 Z Z.heap a5 (vr a38)) (P18 : ab10 Z Z.heap a38) (P19 : ab7 Z Z.heap a38 (vi 0)) (P20 : ab8 Z Z.heap a38 (vr a40)) (P21 : Arv Z Z.heap a40 w41 .byte (14 : Int32) bl1 (vi 0)) (P22 : ab9 Z Z.heap a6 (vr a44)) (P23 : ab10 Z Z.heap a44) (P24 : ab7 Z Z.heap a44 (vi 0)) (P25 : ab8 Z Z.heap a44 (vr a46)) (P26 : Arv Z Z.heap a46 w47 .byte (13 : Int32) bl6 (vi 0)) :
    M16 l Z ws (orm 2 1 3 28) #[vr a1] h0 (fun v h L => v = some .null ∧ Fr n0 L ∧ Keep h0 h []) := by
  refine own_enter (plainFor_of_name pn_5) (L0 := (L_ruuuu a1)) ?_
  intro p e s m below meth c s₁ hx hby hml hown hnm hret hZ X0 e0
  have N0 := Fr.nil n0
  obtain ⟨T7, L7, _, X7, ⟨b8, rfl, N7q, K7, qa7_0, qb7_0, f7_0, f7_1⟩, st7⟩ := own_callS X0 hx hZ hown (cw_10 hw) (rm17_1 hw a2 w3 a4 a5 a6 Z0 P1 P2 P3 P4) e0 (Ls := (L_ruuuu a1)) hml [] [] pd_14 0 (hb hby d16_0)
  have N7 := Fr.app N0 N7q
  have qd7_0 := Nat.le_trans (Nat.le_refl h0.size) qb7_0
  have F10 := (P2.keep K7 all0)
  obtain ⟨T11, X11, e11, st11⟩ := getF X7 hx hZ hown (host := "") (Or.inl (tw_95 hw)) Via.refl rfl (Fld.ext F10.2 P5) (g := (mkF m 21 (L_rriir a1 b8 3 0 a4) [vr a4])) rfl rfl (hb hby d16_21)
  have n32 := Old.ne P2 P6.lt P16
  have F33 := (Exa.keep P7 K7)
  have F34 := (Fld.keep P9 K7 nin0)
  have F35 := (Fld.keep P11 K7 nin0)
  have F36 := (Arv.keep P13 K7 nin0)
  obtain ⟨T37, L37, _, X37, ⟨rfl, N37q, e37q⟩, st37⟩ := own_callV X11 hx hZ hown (tw_97 hw) (tw_98 hw) (notFace_of_selects (args := #[]) (mvT hZ (tw_100 hw))) (tw_100 hw) (tw_99 hw) (tw_2 hw) (tw_101 hw) (own_eq18 hw a9 a1 a12 a13 w14 w15 bl4 ([p16, p17, p18, p19, p20, p21, p22, p23, p24, p25, p26, p27, p28, p29, p30]) p31 0 (Nat.le_trans Z0 K7.1) n32 F33 P14 F10 P15 (Fld.ext F10.2 P8) F34 (Fld.ext F10.2 P10) F35 (P12.ext F10.2) F36) e11 (Exa.ext F10.2 P6) (Ls := (L_rriir a1 b8 3 0 a4)) hml [vr a1] [] pd_16 0 (hb hby d16_25)
  have N37 := Fr.app N7 N37q
  obtain ⟨T39, X39, e39, st39⟩ := getF X37 hx hZ hown (host := "") (Or.inl (tw_95 hw)) Via.refl e37q (Fld.ext F10.2 P17) (g := (mkF m 21 (L_rriir a1 b8 3 1 a5) [vr a5])) rfl rfl (hb hby d16_21)
  have n42 := Old.ne P2 P18.lt P16
  obtain ⟨T43, L43, _, X43, ⟨rfl, N43q, e43q⟩, st43⟩ := own_callV X39 hx hZ hown (tw_97 hw) (tw_98 hw) (notFace_of_selects (args := #[]) (mvT hZ (tw_100 hw))) (tw_100 hw) (tw_99 hw) (tw_2 hw) (tw_101 hw) (own_eq18 hw a38 a1 a40 a13 w41 w15 bl5 ([p16, p17, p18, p19, p20, p21, p22, p23, p24, p25, p26, p27, p28, p29, p30]) p31 0 (Nat.le_trans Z0 K7.1) n42 F33 P14 F10 P15 (Fld.ext F10.2 P19) F34 (Fld.ext F10.2 P20) F35 (P21.ext F10.2) F36) e39 (Exa.ext F10.2 P18) (Ls := (L_rriir a1 b8 3 1 a5)) hml [vr a1] [] pd_16 0 (hb hby d16_25)
  have N43 := Fr.app N37 N43q
  obtain ⟨T45, X45, e45, st45⟩ := getF X43 hx hZ hown (host := "") (Or.inl (tw_95 hw)) Via.refl e43q (Fld.ext F10.2 P22) (g := (mkF m 21 (L_rriir a1 b8 3 2 a6) [vr a6])) rfl rfl (hb hby d16_21)
  have n48 := Old.ne P2 P23.lt P16
  obtain ⟨T49, L49, _, X49, ⟨rfl, N49q, e49q⟩, st49⟩ := own_callV X45 hx hZ hown (tw_97 hw) (tw_98 hw) (notFace_of_selects (args := #[]) (mvT hZ (tw_100 hw))) (tw_100 hw) (tw_99 hw) (tw_2 hw) (tw_101 hw) (own_eq18 hw a44 a1 a46 a13 w47 w15 bl7 ([p16, p17, p18, p19, p20, p21, p22, p23, p24, p25, p26, p27, p28, p29, p30]) p31 0 (Nat.le_trans Z0 K7.1) n48 F33 P14 F10 P15 (Fld.ext F10.2 P24) F34 (Fld.ext F10.2 P25) F35 (P26.ext F10.2) F36) e45 (Exa.ext F10.2 P23) (Ls := (L_rriir a1 b8 3 2 a6)) hml [vr a1] [] pd_16 0 (hb hby d16_25)
  have N49 := Fr.app N43 N49q
  have K50 := (Keep.refl h0 []).trans K7 all0
  refine ⟨T49, _, _, _, _, some .null, X49, e49q, by decide, by decide, nofun, ⟨rfl, N49, K50⟩, fun fs hr => ?_⟩
  show OS p e below s₁ m 0 (L_ruuuu a1) [] _
  refine st7 _ ?_
  refine own_a X7 hx hZ rfl hby tb16 (aec f7_1 aen) 11 [false] [0] 16 (L_rriiu a1 b8 3 0) [vi 0, vr b8] (ai rfl (ai (by decide) rfl)) ?_
  refine own_aaload X7 hx hZ rfl f7_1 rfl (by decide) rfl (hb hby d16_16) _ ?_
  refine own_b X7 hx hby tb16 2 [] 21 (L_rriir a1 b8 3 0 a4) [vr a4] rfl ?_
  refine st11 _ ?_
  refine own_b X11 hx hby tb16 1 [] 25 _ [vr a1, vr a9] rfl ?_
  refine st37 _ ?_
  refine own_b X37 hx hby tb16 8 [true, false] 16 (L_rriir a1 b8 3 1 a4) [vi 1, vr b8] (ai (by decide) (ai (by decide) rfl)) ?_
  refine own_aaload X37 hx hZ e37q f7_1 rfl (by decide) rfl (hb hby d16_16) _ ?_
  refine own_b X37 hx hby tb16 2 [] 21 (L_rriir a1 b8 3 1 a5) [vr a5] rfl ?_
  refine st39 _ ?_
  refine own_b X39 hx hby tb16 1 [] 25 _ [vr a1, vr a38] rfl ?_
  refine st43 _ ?_
  refine own_b X43 hx hby tb16 8 [true, false] 16 (L_rriir a1 b8 3 2 a5) [vi 2, vr b8] (ai (by decide) (ai (by decide) rfl)) ?_
  refine own_aaload X43 hx hZ e43q f7_1 rfl (by decide) rfl (hb hby d16_16) _ ?_
  refine own_b X43 hx hby tb16 2 [] 21 (L_rriir a1 b8 3 2 a6) [vr a6] rfl ?_
  refine st45 _ ?_
  refine own_b X45 hx hby tb16 1 [] 25 _ [vr a1, vr a44] rfl ?_
  refine st49 _ ?_
  refine own_b X49 hx hby tb16 7 [true, true] 41 (L_rriir a1 b8 3 3 a6) [.null] (ai (by decide) (ai (by decide) rfl)) ?_
  exact own_retNull X49 hx hret rfl (hb hby d16_41) hr
theorem ef20_4 (m : MethodId) (a1 a3 : Addr) (w4 : ClassId) (p5 p6 p7 p8 p9 p10 p11 p12 p13 p14 p15 p16 p17 p18 p19 p20 : Int32) : entryFrame m #[vr a1] 1 = mkF m 0 #[sr a1] [] := by first | rfl | (simp [entryFrame, mkF, argsToLocals, Value.category]; done)
def Q20_4 (Z : State) (a1 a3 : Addr) (w4 : ClassId) (p5 p6 p7 p8 p9 p10 p11 p12 p13 p14 p15 p16 p17 p18 p19 p20 : Int32) (h0 : Heap) (n0 : Nat) (v : Option Value) (h : Heap) (L : List Loc) : Prop := v = some .null ∧ Fr n0 L ∧ Keep h0 h []
theorem rm20_4 (hw : OW Z a0) (a1 a3 : Addr) (w4 : ClassId) (p5 p6 p7 p8 p9 p10 p11 p12 p13 p14 p15 p16 p17 p18 p19 p20 : Int32) (Z0 : n0 ≤ h0.size) (P1 : ab10 Z h0 a1) (P2 : ab7 Z h0 a1 (vi 0)) (P3 : ab8 Z h0 a1 (vr a3)) (P4 : Arv Z h0 a3 w4 .byte (15 : Int32) [vi p5, vi p6, vi p7, vi p8, vi p9, vi p10, vi p11, vi p12, vi p13, vi p14, vi p15, vi p16, vi p17, vi p18, vi p19] (vi 0)) (P5 : ab1 Z (vi p20)) (P6 : ¬ (p20 = (0 : Int32))) (P7 : Old Z n0 h0) :
    MetFree l y18 (head1 (Jvm.Cond.code y18 method_4_code 1 (some (.object "com/example/sinkwatch/sinkwatch/Flaw")) :: ws) (orm 2 6 172 28)) (fun a U => a = #[vr a1] ∧ Z.Warmed39 U.vm ∧ U.heap = h0 ∧ CHv Z consts_1 U.vm h0 ∧ ∀ x ∈ ([a1] : List Addr), Safe Z consts_1 U.vm h0 x) (fun _ _ _ _ _ => True) (fun _ U o U' => ∃ v L, o = .returned v ∧ Q20_4 Z a1 a3 w4 p5 p6 p7 p8 p9 p10 p11 p12 p13 p14 p15 p16 p17 p18 p19 p20 h0 n0 v U'.heap L ∧ ReturnedEndW U o U' L (orm 2 6 172 28).cells (orm 2 6 172 28).slots) := by
  refine MetFree.of_bodySF (plainFor_of_name pn_3) hisR ?_
  intro p e s m args below meth c s₁ Bd hml0 hP hK
  obtain ⟨rfl, hZ, hh, hH, hSf⟩ := hP
  have hx := Bd.exec
  have hby := Bd.bytes
  have hml : c.maxLocals = 1 := hml0
  have hown : s.vm.findClass "com/example/sinkwatch/sinkwatch/FlawNamedPinLaw" = some m.cls := findClass_of_methodNamed Bd.named
  have hnm := (name_of_methodNamed Bd.named Bd.method).1
  have hret := Bd.returns
  have X0 : Stand p l e (orm 2 6 172 28) s m #[vr a1] below meth c s₁ [] 0 0 := Stand.of_body Bd
  have e0 : s₁.heap = h0 := by rw [← hh, Bd.state]; rfl
  have N0 := Fr.nil n0
  have pre0 : ∀ t, Steps p.tables e below (s₁.setTop (mkF m 0 #[sr a1] [])) t → Steps p.tables e below (s₁.setTop (entryFrame m #[vr a1] 1)) t := fun t k => castTop (ef20_4 m a1 a3 w4 p5 p6 p7 p8 p9 p10 p11 p12 p13 p14 p15 p16 p17 p18 p19 p20) k
  obtain ⟨b2a, T2, h2, k2, b2b, kl2, X2, e2, E2, hS2, hk2, hZ2, hown2, fa2, fb2, fc2, fd2, -, -, CH2, LT2, LN2, st2⟩ := ldcCH (s := s) (vm0 := s.vm) (show Stand _ _ _ _ (s.setVm s.vm) _ _ _ _ _ _ _ _ _ from X0) hx hZ hown (tw_1 hw) (own_wS hw) e0 (State.WarmedH.since (State.WarmedH.refl s) 0) (Nat.zero_le _) (own_EW hw) (List.mem_of_getElem? (i := 0) rfl) hH (vs := [(vi 115), (vi 113), (vi 108), (vi 45), (vi 105), (vi 110), (vi 106), (vi 101), (vi 99), (vi 116), (vi 105), (vi 111), (vi 110)]) (z := (13 : Int32)) (by decide +kernel) (by decide) (by decide) (g := (mkF m 1 #[sr a1] [vr a1])) rfl (hb hby d20_1) (n := 52) (by decide) (by decide) (by decide) (by decide)
  have F21 := (CHr.safe CH2 P1.lt (hSf _ (List.mem_of_getElem? (i := 0) rfl)))
  have F22 := (LN2 _ F21).1
  have F23 := (P7.ext E2)
  have F24 := (Fld.ext E2 P2)
  have F25 := (Fld.ext E2 P3)
  have F26 := (P4.ext E2)
  have F28 := (Exa.ext E2 P1)
  obtain ⟨T27, L27, _, X27, ⟨rfl, N27q, e27q⟩, st27⟩ := own_callV X2 hx hZ2 hown2 (tw_109 hw) (tw_98 hw) (notFace_of_selects (args := #[]) (mvT hZ2 (tw_100 hw))) (tw_100 hw) (tw_99 hw) (tw_2 hw) (tw_101 hw) (own_eq18 hw a1 b2a a3 b2b w4 kl2 ([p5, p6, p7, p8, p9, p10, p11, p12, p13, p14, p15, p16, p17, p18, p19]) bl4 p20 0 (lx Z0 E2) F22 fa2 P5 F23 P6 F24 fb2 F25 fc2 F26 fd2) e2 F28 (Ls := #[sr a1]) hml [vr b2a] [] pd_16 0 (hb hby d20_3)
  have N27 := Fr.app N0 N27q
  have F29 := CH2.1
  obtain ⟨b30a, T30, h30, k30, b30b, kl30, X30, e30, E30, hS30, hk30, hZ30, hown30, fa30, fb30, fc30, fd30, -, -, CH30, LT30, LN30, st30⟩ := ldcCH (s := s) (vm0 := T2.vm) X27 hx hZ2 hown2 (tw_110 hw) (own_wS hw) e27q hS2 hk2 (own_EW hw) (List.mem_of_getElem? (i := 1) rfl) F29 (vs := [(vi 112), (vi 97), (vi 116), (vi 104), (vi 45), (vi 116), (vi 114), (vi 97), (vi 118), (vi 101), (vi 114), (vi 115), (vi 97), (vi 108)]) (z := (14 : Int32)) (by decide +kernel) (by decide) (by decide) (g := (mkF m 14 #[sr a1] [vr a1])) rfl (hb hby d20_14) (n := 56) (by decide) (by decide) (by decide) (by decide)
  have F31 := (CHr.safe CH30 F24.lt F21)
  have F32 := (LN30 _ F31).1
  have F33 := (F23.ext E30)
  have F34 := (Fld.ext E30 F24)
  have F35 := (Fld.ext E30 F25)
  have F36 := (F26.ext E30)
  have F38 := (Exa.ext E30 F28)
  obtain ⟨T37, L37, _, X37, ⟨rfl, N37q, e37q⟩, st37⟩ := own_callV X30 hx hZ30 hown30 (tw_109 hw) (tw_98 hw) (notFace_of_selects (args := #[]) (mvT hZ30 (tw_100 hw))) (tw_100 hw) (tw_99 hw) (tw_2 hw) (tw_101 hw) (own_eq18 hw a1 b30a a3 b30b w4 kl30 ([p5, p6, p7, p8, p9, p10, p11, p12, p13, p14, p15, p16, p17, p18, p19]) bl5 p20 0 (lx (lx Z0 E2) E30) F32 fa30 P5 F33 P6 F34 fb30 F35 fc30 F36 fd30) e30 F38 (Ls := #[sr a1]) hml [vr b30a] [] pd_16 0 (hb hby d20_16)
  have N37 := Fr.app N27 N37q
  have F39 := CH30.1
  obtain ⟨b40a, T40, h40, k40, b40b, kl40, X40, e40, E40, hS40, hk40, hZ40, hown40, fa40, fb40, fc40, fd40, -, -, CH40, LT40, LN40, st40⟩ := ldcCH (s := s) (vm0 := T30.vm) X37 hx hZ30 hown30 (tw_111 hw) (own_wS hw) e37q hS30 hk30 (own_EW hw) (List.mem_of_getElem? (i := 2) rfl) F39 (vs := [(vi 111), (vi 112), (vi 101), (vi 110), (vi 45), (vi 114), (vi 101), (vi 100), (vi 105), (vi 114), (vi 101), (vi 99), (vi 116)]) (z := (13 : Int32)) (by decide +kernel) (by decide) (by decide) (g := (mkF m 27 #[sr a1] [vr a1])) rfl (hb hby d20_27) (n := 52) (by decide) (by decide) (by decide) (by decide)
  have F41 := (CHr.safe CH40 F34.lt F31)
  have F42 := (LN40 _ F41).1
  have F43 := (F33.ext E40)
  have F44 := (Fld.ext E40 F34)
  have F45 := (Fld.ext E40 F35)
  have F46 := (F36.ext E40)
  have F48 := (Exa.ext E40 F38)
  obtain ⟨T47, L47, _, X47, ⟨rfl, N47q, e47q⟩, st47⟩ := own_callV X40 hx hZ40 hown40 (tw_109 hw) (tw_98 hw) (notFace_of_selects (args := #[]) (mvT hZ40 (tw_100 hw))) (tw_100 hw) (tw_99 hw) (tw_2 hw) (tw_101 hw) (own_eq18 hw a1 b40a a3 b40b w4 kl40 ([p5, p6, p7, p8, p9, p10, p11, p12, p13, p14, p15, p16, p17, p18, p19]) bl7 p20 0 (lx (lx (lx Z0 E2) E30) E40) F42 fa40 P5 F43 P6 F44 fb40 F45 fc40 F46 fd40) e40 F48 (Ls := #[sr a1]) hml [vr b40a] [] pd_16 0 (hb hby d20_29)
  have N47 := Fr.app N37 N47q
  have K49 := (Keep.refl h0 []).ext E2
  have K50 := K49.ext E30
  have K51 := K50.ext E40
  obtain ⟨fs, hr, hrun, hended, hRE⟩ := X47.leaveW hS40 (by rw [e47q]; exact hk40) (v := some .null) (fun h => by rw [hret] at h; cases h)
  refine ⟨_, _, pre0 _ ?_, hrun, hended, _, _, rfl, ?_, hRE.1, hRE.2.1, hRE.2.2.1, hRE.2.2.2.mono (by decide) (by decide)⟩
  · refine own_b X0 hx hby tb20 1 [] 1 _ [vr a1] rfl ?_
    refine st2 _ ?_
    refine st27 _ ?_
    refine own_b X27 hx hby tb20 2 [true] 14 _ [vr a1] (ai (by decide) rfl) ?_
    refine st30 _ ?_
    refine st37 _ ?_
    refine own_b X37 hx hby tb20 2 [true] 27 _ [vr a1] (ai (by decide) rfl) ?_
    refine st40 _ ?_
    refine st47 _ ?_
    refine own_b X47 hx hby tb20 2 [true] 40 _ [.null] (ai (by decide) rfl) ?_
    exact own_retNull X47 hx hret rfl (hb hby d20_40) hr
  · show Q20_4 Z a1 a3 w4 p5 p6 p7 p8 p9 p10 p11 p12 p13 p14 p15 p16 p17 p18 p19 p20 h0 n0 _ T47.heap _
    rw [e47q]
    exact ⟨rfl, N47, K51⟩
theorem rm1_2 (hw : OW Z a0) (a1 a2 : Addr) (w4 : ClassId) (p5 : Int32) (Z0 : n0 ≤ h0.size) (P1 : ab8 Z h0 a1 (vr a2)) (P2 : Arv Z h0 a2 w4 .byte (13 : Int32) bl6 (vi 0)) (P3 : ab10 Z h0 a1) (P4 : ab1 Z (vi p5)) (P5 : Old Z n0 h0) (P6 : ¬ (p5 = (0 : Int32))) (P7 : ab7 Z h0 a1 (vi 0)) :
    M1 l Z ws (orm 1 0 0 13) #[vr a1] h0 (QI n0 h0 (vi 13)) := by
  refine own_enter (plainFor_of_name pn_0) (L0 := #[sr a1]) ?_
  intro p e s m below meth c s₁ hx hby hml hown hnm hret hZ X0 e0
  have N0 := Fr.nil n0
  obtain ⟨T3, X3, e3, st3⟩ := getF X0 hx hZ hown (host := "") (Or.inl (tw_14 hw)) Via.refl e0 P1 (g := (mkF m 1 #[sr a1] [vr a1])) rfl rfl (hb hby d1_1)
  obtain ⟨T6, L6, _, X6, ⟨rfl, N6q, e6q⟩, st6⟩ := own_callV X3 hx hZ hown (tw_15 hw) (tw_16 hw) (notFace_of_selects (args := #[]) (mvT hZ (tw_18 hw))) (tw_18 hw) (tw_17 hw) (tw_2 hw) (tw_19 hw) (rm2_1 hw a1 p5 Z0 P4 P5 P6 P7) e3 P3 (Ls := #[sr a1]) hml [] [vi 13] pd_0 1 (hb hby d1_6)
  have N6 := Fr.app N0 N6q
  refine ⟨T6, _, _, _, _, some (vi 13), X6, e6q, by decide, by decide, nofun, ⟨rfl, N6, rfl⟩, fun fs hr => ?_⟩
  refine own_b X0 hx hby tb1 1 [] 1 _ [vr a1] rfl ?_
  refine st3 _ ?_
  refine own_a X3 hx hZ e3 hby tb1 (aec P2 aen) 2 [] [0] 6 _ [vr a1, vi 13] (ai rfl rfl) ?_
  refine st6 _ ?_
  refine own_b X6 hx hby tb1 1 [] 10 _ [vi 13] rfl ?_
  exact retI X6 hx hret (hb hby d1_10) hr
theorem rm14_4 (hw : OW Z a0) (a1 a2 : Addr) (w3 : ClassId) (p4 p5 p6 p7 p8 p9 p10 p11 p12 p13 p14 p15 : Int32) (w16 : ClassId) (Z0 : n0 ≤ h0.size) (P1 : Arv Z h0 a1 w3 .char (12 : Int32) [vi p4, vi p5, vi p6, vi p7, vi p8, vi p9, vi p10, vi p11, vi p12, vi p13, vi p14, vi p15] (vi 0)) (P2 : ¬ ((255 : Int32) < p4)) (P3 : Arv Z h0 a2 w16 .byte (12 : Int32) bl10 (vi 0)) (P4 : n0 ≤ a2) (P5 : a1 ≠ a2) (P6 : ¬ ((255 : Int32) < p5)) (P7 : ¬ ((255 : Int32) < p6)) (P8 : ¬ ((255 : Int32) < p7)) (P9 : ¬ ((255 : Int32) < p8)) (P10 : ¬ ((255 : Int32) < p9)) (P11 : ¬ ((255 : Int32) < p10)) (P12 : ¬ ((255 : Int32) < p11)) (P13 : ¬ ((255 : Int32) < p12)) (P14 : ¬ ((255 : Int32) < p13)) (P15 : ¬ ((255 : Int32) < p14)) (P16 : ¬ ((255 : Int32) < p15)) :
    M14 l Z ws (orm 0 0 0 0) #[vr a1, vi 0, vr a2, vi 0, vi 12] h0 (fun v h L => v = some (vi 12) ∧ Fr n0 L ∧ Keep h0 h [a2] ∧ Arv Z h a2 w16 .byte (12 : Int32) [vi (va21 p4), vi (va21 p5), vi (va21 p6), vi (va21 p7), vi (va21 p8), vi (va21 p9), vi (va21 p10), vi (va21 p11), vi (va21 p12), vi (va21 p13), vi (va21 p14), vi (va21 p15)] (vi 0)) := by
  refine own_enter (plainFor_of_name pn_4) (L0 := (L_ririiuu a1 0 a2 0 12)) ?_
  intro p e s m below meth c s₁ hx hby hml hown hnm hret hZ X0 e0
  have N0 := Fr.nil n0
  obtain ⟨T17, h17, X17, e17, W17, V17, st17⟩ := own_stB X0 hx hZ e0 P3 (j := (0 : Int32)) (x := (p4.toInt8.toInt32)) 0 (Ls := (L_ririiii a1 0 a2 0 12 0 p4)) (rest := []) (hb hby d14_31)
  have N17 := Fr.snoc X17 N0 P4
  have F18 := (Arv.other P1 W17 P5)
  obtain ⟨T19, h19, X19, e19, W19, V19, st19⟩ := own_stB X17 hx hZ e17 V17 (j := (1 : Int32)) (x := (p5.toInt8.toInt32)) 1 (Ls := (L_ririiii a1 1 a2 1 12 1 p5)) (rest := []) (hb hby d14_31)
  have N19 := Fr.snoc X19 N17 P4
  have F20 := (Arv.other F18 W19 P5)
  obtain ⟨T21, h21, X21, e21, W21, V21, st21⟩ := own_stB X19 hx hZ e19 V19 (j := (2 : Int32)) (x := (p6.toInt8.toInt32)) 2 (Ls := (L_ririiii a1 2 a2 2 12 2 p6)) (rest := []) (hb hby d14_31)
  have N21 := Fr.snoc X21 N19 P4
  have F22 := (Arv.other F20 W21 P5)
  obtain ⟨T23, h23, X23, e23, W23, V23, st23⟩ := own_stB X21 hx hZ e21 V21 (j := (3 : Int32)) (x := (p7.toInt8.toInt32)) 3 (Ls := (L_ririiii a1 3 a2 3 12 3 p7)) (rest := []) (hb hby d14_31)
  have N23 := Fr.snoc X23 N21 P4
  have F24 := (Arv.other F22 W23 P5)
  obtain ⟨T25, h25, X25, e25, W25, V25, st25⟩ := own_stB X23 hx hZ e23 V23 (j := (4 : Int32)) (x := (p8.toInt8.toInt32)) 4 (Ls := (L_ririiii a1 4 a2 4 12 4 p8)) (rest := []) (hb hby d14_31)
  have N25 := Fr.snoc X25 N23 P4
  have F26 := (Arv.other F24 W25 P5)
  obtain ⟨T27, h27, X27, e27, W27, V27, st27⟩ := own_stB X25 hx hZ e25 V25 (j := (5 : Int32)) (x := (p9.toInt8.toInt32)) 5 (Ls := (L_ririiii a1 5 a2 5 12 5 p9)) (rest := []) (hb hby d14_31)
  have N27 := Fr.snoc X27 N25 P4
  have F28 := (Arv.other F26 W27 P5)
  obtain ⟨T29, h29, X29, e29, W29, V29, st29⟩ := own_stB X27 hx hZ e27 V27 (j := (6 : Int32)) (x := (p10.toInt8.toInt32)) 6 (Ls := (L_ririiii a1 6 a2 6 12 6 p10)) (rest := []) (hb hby d14_31)
  have N29 := Fr.snoc X29 N27 P4
  have F30 := (Arv.other F28 W29 P5)
  obtain ⟨T31, h31, X31, e31, W31, V31, st31⟩ := own_stB X29 hx hZ e29 V29 (j := (7 : Int32)) (x := (p11.toInt8.toInt32)) 7 (Ls := (L_ririiii a1 7 a2 7 12 7 p11)) (rest := []) (hb hby d14_31)
  have N31 := Fr.snoc X31 N29 P4
  have F32 := (Arv.other F30 W31 P5)
  obtain ⟨T33, h33, X33, e33, W33, V33, st33⟩ := own_stB X31 hx hZ e31 V31 (j := (8 : Int32)) (x := (p12.toInt8.toInt32)) 8 (Ls := (L_ririiii a1 8 a2 8 12 8 p12)) (rest := []) (hb hby d14_31)
  have N33 := Fr.snoc X33 N31 P4
  have F34 := (Arv.other F32 W33 P5)
  obtain ⟨T35, h35, X35, e35, W35, V35, st35⟩ := own_stB X33 hx hZ e33 V33 (j := (9 : Int32)) (x := (p13.toInt8.toInt32)) 9 (Ls := (L_ririiii a1 9 a2 9 12 9 p13)) (rest := []) (hb hby d14_31)
  have N35 := Fr.snoc X35 N33 P4
  have F36 := (Arv.other F34 W35 P5)
  obtain ⟨T37, h37, X37, e37, W37, V37, st37⟩ := own_stB X35 hx hZ e35 V35 (j := (10 : Int32)) (x := (p14.toInt8.toInt32)) 10 (Ls := (L_ririiii a1 10 a2 10 12 10 p14)) (rest := []) (hb hby d14_31)
  have N37 := Fr.snoc X37 N35 P4
  have F38 := (Arv.other F36 W37 P5)
  obtain ⟨T39, h39, X39, e39, W39, V39, st39⟩ := own_stB X37 hx hZ e37 V37 (j := (11 : Int32)) (x := (p15.toInt8.toInt32)) 11 (Ls := (L_ririiii a1 11 a2 11 12 11 p15)) (rest := []) (hb hby d14_31)
  have N39 := Fr.snoc X39 N37 P4
  have K40 := (Keep.refl h0 [a2]).wr W17 (Or.inl (List.mem_of_getElem? (i := 0) rfl))
  have K41 := K40.wr W19 (Or.inl (List.mem_of_getElem? (i := 0) rfl))
  have K42 := K41.wr W21 (Or.inl (List.mem_of_getElem? (i := 0) rfl))
  have K43 := K42.wr W23 (Or.inl (List.mem_of_getElem? (i := 0) rfl))
  have K44 := K43.wr W25 (Or.inl (List.mem_of_getElem? (i := 0) rfl))
  have K45 := K44.wr W27 (Or.inl (List.mem_of_getElem? (i := 0) rfl))
  have K46 := K45.wr W29 (Or.inl (List.mem_of_getElem? (i := 0) rfl))
  have K47 := K46.wr W31 (Or.inl (List.mem_of_getElem? (i := 0) rfl))
  have K48 := K47.wr W33 (Or.inl (List.mem_of_getElem? (i := 0) rfl))
  have K49 := K48.wr W35 (Or.inl (List.mem_of_getElem? (i := 0) rfl))
  have K50 := K49.wr W37 (Or.inl (List.mem_of_getElem? (i := 0) rfl))
  have K51 := K50.wr W39 (Or.inl (List.mem_of_getElem? (i := 0) rfl))
  refine ⟨T39, _, _, _, _, some (vi 12), X39, e39, by decide, by decide, nofun, ⟨rfl, N39, K51, V39⟩, fun fs hr => ?_⟩
  refine own_a X0 hx hZ e0 hby tb14 (aec P1 aen) 16 [false, true] [0] 31 (L_ririiii a1 0 a2 0 12 0 p4) [vi (p4.toInt8.toInt32), vi 0, vr a2] (ai (by decide) (ai rfl (ai (flt P2).2.2.2 rfl))) ?_
  refine st17 _ ?_
  refine own_a X17 hx hZ e17 hby tb14 (aec F18 aen) 18 [false, true] [0] 31 (L_ririiii a1 1 a2 1 12 1 p5) [vi (p5.toInt8.toInt32), vi 1, vr a2] (ai (by decide) (ai rfl (ai (flt P6).2.2.2 rfl))) ?_
  refine st19 _ ?_
  refine own_a X19 hx hZ e19 hby tb14 (aec F20 aen) 18 [false, true] [0] 31 (L_ririiii a1 2 a2 2 12 2 p6) [vi (p6.toInt8.toInt32), vi 2, vr a2] (ai (by decide) (ai rfl (ai (flt P7).2.2.2 rfl))) ?_
  refine st21 _ ?_
  refine own_a X21 hx hZ e21 hby tb14 (aec F22 aen) 18 [false, true] [0] 31 (L_ririiii a1 3 a2 3 12 3 p7) [vi (p7.toInt8.toInt32), vi 3, vr a2] (ai (by decide) (ai rfl (ai (flt P8).2.2.2 rfl))) ?_
  refine st23 _ ?_
  refine own_a X23 hx hZ e23 hby tb14 (aec F24 aen) 18 [false, true] [0] 31 (L_ririiii a1 4 a2 4 12 4 p8) [vi (p8.toInt8.toInt32), vi 4, vr a2] (ai (by decide) (ai rfl (ai (flt P9).2.2.2 rfl))) ?_
  refine st25 _ ?_
  refine own_a X25 hx hZ e25 hby tb14 (aec F26 aen) 18 [false, true] [0] 31 (L_ririiii a1 5 a2 5 12 5 p9) [vi (p9.toInt8.toInt32), vi 5, vr a2] (ai (by decide) (ai rfl (ai (flt P10).2.2.2 rfl))) ?_
  refine st27 _ ?_
  refine own_a X27 hx hZ e27 hby tb14 (aec F28 aen) 18 [false, true] [0] 31 (L_ririiii a1 6 a2 6 12 6 p10) [vi (p10.toInt8.toInt32), vi 6, vr a2] (ai (by decide) (ai rfl (ai (flt P11).2.2.2 rfl))) ?_
  refine st29 _ ?_
  refine own_a X29 hx hZ e29 hby tb14 (aec F30 aen) 18 [false, true] [0] 31 (L_ririiii a1 7 a2 7 12 7 p11) [vi (p11.toInt8.toInt32), vi 7, vr a2] (ai (by decide) (ai rfl (ai (flt P12).2.2.2 rfl))) ?_
  refine st31 _ ?_
  refine own_a X31 hx hZ e31 hby tb14 (aec F32 aen) 18 [false, true] [0] 31 (L_ririiii a1 8 a2 8 12 8 p12) [vi (p12.toInt8.toInt32), vi 8, vr a2] (ai (by decide) (ai rfl (ai (flt P13).2.2.2 rfl))) ?_
  refine st33 _ ?_
  refine own_a X33 hx hZ e33 hby tb14 (aec F34 aen) 18 [false, true] [0] 31 (L_ririiii a1 9 a2 9 12 9 p13) [vi (p13.toInt8.toInt32), vi 9, vr a2] (ai (by decide) (ai rfl (ai (flt P14).2.2.2 rfl))) ?_
  refine st35 _ ?_
  refine own_a X35 hx hZ e35 hby tb14 (aec F36 aen) 18 [false, true] [0] 31 (L_ririiii a1 10 a2 10 12 10 p14) [vi (p14.toInt8.toInt32), vi 10, vr a2] (ai (by decide) (ai rfl (ai (flt P15).2.2.2 rfl))) ?_
  refine st37 _ ?_
  refine own_a X37 hx hZ e37 hby tb14 (aec F38 aen) 18 [false, true] [0] 31 (L_ririiii a1 11 a2 11 12 11 p15) [vi (p15.toInt8.toInt32), vi 11, vr a2] (ai (by decide) (ai rfl (ai (flt P16).2.2.2 rfl))) ?_
  refine st39 _ ?_
  refine own_b X39 hx hby tb14 8 [true] 46 (L_ririiii a1 12 a2 12 12 12 p15) [vi 12] (ai (by decide) rfl) ?_
  exact retI X39 hx hret (hb hby d14_46) hr
theorem rm13_4 (hw : OW Z a0) (a1 : Addr) (w4 : ClassId) (p5 p6 p7 p8 p9 p10 p11 p12 p13 p14 p15 p16 : Int32) (Z0 : n0 ≤ h0.size) (P1 : Arv Z h0 a1 w4 .char (12 : Int32) [vi p5, vi p6, vi p7, vi p8, vi p9, vi p10, vi p11, vi p12, vi p13, vi p14, vi p15, vi p16] (vi 0)) (P2 : ¬ ((255 : Int32) < p5)) (P3 : ¬ ((255 : Int32) < p6)) (P4 : ¬ ((255 : Int32) < p7)) (P5 : ¬ ((255 : Int32) < p8)) (P6 : ¬ ((255 : Int32) < p9)) (P7 : ¬ ((255 : Int32) < p10)) (P8 : ¬ ((255 : Int32) < p11)) (P9 : ¬ ((255 : Int32) < p12)) (P10 : ¬ ((255 : Int32) < p13)) (P11 : ¬ ((255 : Int32) < p14)) (P12 : ¬ ((255 : Int32) < p15)) (P13 : ¬ ((255 : Int32) < p16)) :
    M13 l Z ws (orm 1 1 12 18) #[vr a1, vi 0, vi 12] h0 (fun v h L => ∃ b2 : Addr, ∃ k3 : ClassId, v = some (vr b2) ∧ Fr n0 L ∧ Keep h0 h [] ∧ n0 ≤ b2 ∧ h0.size ≤ b2 ∧ Arv Z h b2 k3 .byte (12 : Int32) [vi (va21 p5), vi (va21 p6), vi (va21 p7), vi (va21 p8), vi (va21 p9), vi (va21 p10), vi (va21 p11), vi (va21 p12), vi (va21 p13), vi (va21 p14), vi (va21 p15), vi (va21 p16)] (vi 0)) := by
  refine own_enter (plainFor_of_name pn_4) (L0 := (L_riiuuu a1 0 12)) ?_
  intro p e s m below meth c s₁ hx hby hml hown hnm hret hZ X0 e0
  have N0 := Fr.nil n0
  obtain ⟨T3, h3, b2, k3, X3, e3, E3, g3, V3, st3⟩ := own_newP X0 hx hZ (tw_4 hw) e0 (n := (12 : Int32)) (k := 12) (d := (vi 0)) (vs := [vi 0, vi 0, vi 0, vi 0, vi 0, vi 0, vi 0, vi 0, vi 0, vi 0, vi 0, vi 0]) (Ls := (L_riiuuu a1 0 12)) (S := []) (hb hby d13_1)
  have q3 := Nat.le_trans Z0 g3
  have z3 := Nat.le_trans (Nat.le_refl h0.size) g3
  have F17 := (P1.ext E3)
  have n18 := Nat.ne_of_lt (Nat.lt_of_lt_of_le P1.lt g3)
  obtain ⟨T19, L19, _, X19, ⟨rfl, N19q, K19, f19_0⟩, st19⟩ := own_callS X3 hx hZ hown (cw_4 hw) (rm14_4 hw a1 b2 w4 p5 p6 p7 p8 p9 p10 p11 p12 p13 p14 p15 p16 k3 (lx Z0 E3) F17 P2 V3 q3 n18 P3 P4 P5 P6 P7 P8 P9 P10 P11 P12 P13) e3 (Ls := (L_riiruu a1 0 12 b2)) hml [vr a1, vi 0, vr b2, vi 0, vi 12] [] pd_8 0 (hb hby d13_9)
  have N19 := Fr.app N0 N19q
  have K20 := (Keep.refl h0 []).ext E3
  have K21 := K20.trans K19 (allS (Or.inr z3) all0)
  refine ⟨T19, _, _, _, _, some (vr b2), X19, rfl, by decide, by decide, nofun, ⟨b2, k3, rfl, N19, K21, q3, z3, f19_0⟩, fun fs hr => ?_⟩
  refine own_b X0 hx hby tb13 1 [] 1 _ [vi 12] rfl ?_
  refine st3 _ ?_
  refine own_b X3 hx hby tb13 6 [] 9 (L_riiruu a1 0 12 b2) [vi 12, vi 0, vr b2, vi 0, vr a1] rfl ?_
  refine st19 _ ?_
  refine own_b X19 hx hby tb13 5 [true] 58 (L_riiriu a1 0 12 b2 12) [vr b2] (ai (by decide) rfl) ?_
  exact own_retA X19 hx hret rfl (hb hby d13_58) hr
theorem rm15_4 (hw : OW Z a0) (a1 : Addr) (w2 : ClassId) (p3 p4 p5 p6 p7 p8 p9 p10 p11 p12 p13 p14 : Int32) (Z0 : n0 ≤ h0.size) (P1 : Arv Z h0 a1 w2 .byte (12 : Int32) [vi p3, vi p4, vi p5, vi p6, vi p7, vi p8, vi p9, vi p10, vi p11, vi p12, vi p13, vi p14] (vi 0)) :
    M15 l Z ws (orm 0 0 0 0) #[vr a1, vi 12] h0 (QI n0 h0 (vi 0)) := by
  refine own_enter (plainFor_of_name pn_4) (L0 := (L_ri a1 12)) ?_
  intro p e s m below meth c s₁ hx hby hml hown hnm hret hZ X0 e0
  have N0 := Fr.nil n0
  refine ⟨s₁, _, _, _, _, some (vi 0), X0, e0, by decide, by decide, nofun, ⟨rfl, N0, rfl⟩, fun fs hr => ?_⟩
  refine own_a X0 hx hZ e0 hby tb15 (aec P1 aen) 7 [] [0] 8 _ [vi 0] (ai rfl rfl) ?_
  exact retN X0 hx (t := .byte) hret (by simp) (hb hby d15_8) hr
theorem rm11_4 (hw : OW Z a0) (a1 a2 : Addr) (p4 : Int32) (w6 : ClassId) (p7 p8 p9 p10 p11 p12 p13 p14 p15 p16 p17 p18 : Int32) (Z0 : n0 ≤ h0.size) (P1 : ab1 Z (vi p4)) (P2 : Old Z n0 h0) (P3 : ¬ (p4 = (0 : Int32))) (P4 : Arv Z h0 a2 w6 .char (12 : Int32) [vi p7, vi p8, vi p9, vi p10, vi p11, vi p12, vi p13, vi p14, vi p15, vi p16, vi p17, vi p18] (vi 0)) (P5 : ¬ ((255 : Int32) < p7)) (P6 : ¬ ((255 : Int32) < p8)) (P7 : ¬ ((255 : Int32) < p9)) (P8 : ¬ ((255 : Int32) < p10)) (P9 : ¬ ((255 : Int32) < p11)) (P10 : ¬ ((255 : Int32) < p12)) (P11 : ¬ ((255 : Int32) < p13)) (P12 : ¬ ((255 : Int32) < p14)) (P13 : ¬ ((255 : Int32) < p15)) (P14 : ¬ ((255 : Int32) < p16)) (P15 : ¬ ((255 : Int32) < p17)) (P16 : ¬ ((255 : Int32) < p18)) (P17 : ab7 Z h0 a1 (vi 0)) (P18 : ab10 Z h0 a1) (P19 : n0 ≤ a1) (P20 : ab8 Z h0 a1 .null) :
    M11 l Z ws (orm 2 1 12 35) #[vr a1, vr a2, vi 0, vi 12, .null] h0 (fun v h L => ∃ b20 : Addr, ∃ kk19_0 : ClassId, v = none ∧ Fr n0 L ∧ Keep h0 h [a1] ∧ n0 ≤ b20 ∧ h0.size ≤ b20 ∧ ab7 Z h a1 (vi 0) ∧ ab8 Z h a1 (vr b20) ∧ Arv Z h b20 kk19_0 .byte (12 : Int32) [vi (va21 p7), vi (va21 p8), vi (va21 p9), vi (va21 p10), vi (va21 p11), vi (va21 p12), vi (va21 p13), vi (va21 p14), vi (va21 p15), vi (va21 p16), vi (va21 p17), vi (va21 p18)] (vi 0)) := by
  refine own_enter (plainFor_of_name pn_0) (L0 := (L_rriinu a1 a2 0 12)) ?_
  intro p e s m below meth c s₁ hx hby hml hown hnm hret hZ X0 e0
  have N0 := Fr.nil n0
  obtain ⟨T3, X3, e3, st3⟩ := initO X0 hx hZ hown (tw_60 hw) (tw_61 hw) (tw_62 hw) e0 (g := (mkF m 1 (L_rriinu a1 a2 0 12) [vr a1])) rfl (by rw [hml]; rfl) rfl (hb hby d11_1) (by decide) (W := 0) (by show 2 * 0 + _ ≤ _; exact Nat.le_of_eq rfl) (by decide)
  obtain ⟨T5, X5, e5, st5⟩ := getS2 X3 hx hZ hown (host := "") (Or.inl (tw_20 hw)) Via.refl e3 (Sta.ext P2.2 P1) (g := (mkF m 27 (L_rriinu a1 a2 0 12) [])) rfl (hb hby d11_27)
  obtain ⟨T19, L19, _, X19, ⟨b20, kk19_0, rfl, N19q, K19, qa19_0, qb19_0, f19_0⟩, st19⟩ := own_callS X5 hx hZ hown (cw_5 hw) (rm13_4 hw a2 w6 p7 p8 p9 p10 p11 p12 p13 p14 p15 p16 p17 p18 Z0 P4 P5 P6 P7 P8 P9 P10 P11 P12 P13 P14 P15 P16) e5 (Ls := (L_rriinu a1 a2 0 12)) hml [vr a2, vi 0, vi 12] [] pd_9 0 (hb hby d11_36)
  have N19 := Fr.app N0 N19q
  have qd19_0 := Nat.le_trans (Nat.le_refl h0.size) qb19_0
  obtain ⟨T21, L21, _, X21, ⟨rfl, N21q, e21q⟩, st21⟩ := own_callS X19 hx hZ hown (cw_6 hw) (rm15_4 hw b20 kk19_0 (va21 p7) (va21 p8) (va21 p9) (va21 p10) (va21 p11) (va21 p12) (va21 p13) (va21 p14) (va21 p15) (va21 p16) (va21 p17) (va21 p18) (Nat.le_trans Z0 K19.1) f19_0) rfl (Ls := (L_rriinr a1 a2 0 12 b20)) hml [vr b20, vi 12] [vr a1] pd_10 1 (hb hby d11_45)
  have N21 := Fr.app N19 N21q
  have F22 := (Fld.keep P17 K19 nin0)
  have F23 := (Exa.keep P18 K19)
  obtain ⟨T24, h24, X24, e24, W24, st24⟩ := putF X21 hx hZ hown (host := "") (Or.inl (tw_21 hw)) Via.refl e21q F22 F23 (Or.inr ⟨(tw_6 hw), rfl, hnm⟩) (tw_3 hw) (ty := .byte) (by decide) rfl rfl (g := (mkF m 48 (L_rriinr a1 a2 0 12 b20) [vi 0, vr a1])) rfl rfl (hb hby d11_48)
  have N24 := Fr.snoc X24 N21 P19
  have Fw24 := Fld.same W24 F22
  have F25 := (Fld.other W24 (Fld.keep P20 K19 nin0) (Or.inr (slot_ne (Or.inr (tw_5 hw)) (Or.inr (tw_6 hw)) (by decide) (t := (.array .byte)) (t' := .byte) (by decide) (by decide))))
  have F26 := (Exa.wr W24 F23)
  obtain ⟨T27, h27, X27, e27, W27, st27⟩ := putF X24 hx hZ hown (host := "") (Or.inl (tw_14 hw)) Via.refl e24 F25 F26 (Or.inr ⟨(tw_5 hw), rfl, hnm⟩) (tw_3 hw) (ty := (.array .byte)) (by decide) rfl rfl (g := (mkF m 54 (L_rriinr a1 a2 0 12 b20) [vr b20, vr a1])) rfl rfl (hb hby d11_54)
  have N27 := Fr.snoc X27 N24 P19
  have Fw27 := Fld.same W27 F25
  have F28 := (Fld.other W27 Fw24 (Or.inr (slot_ne (Or.inr (tw_6 hw)) (Or.inr (tw_5 hw)) (by decide) (t := .byte) (t' := (.array .byte)) (by decide) (by decide))))
  have n29 := Nat.ne_of_lt (Nat.lt_of_lt_of_le P17.lt qb19_0)
  have F30 := (Arv.other (Arv.other f19_0 W24 (Ne.symm n29)) W27 (Ne.symm n29))
  have K31 := (Keep.refl h0 [a1]).trans K19 all0
  have K32 := K31.wr W24 (Or.inl (List.mem_of_getElem? (i := 0) rfl))
  have K33 := K32.wr W27 (Or.inl (List.mem_of_getElem? (i := 0) rfl))
  refine ⟨T27, _, _, _, _, none, X27, e27, by decide, by decide, (fun _ => rfl), ⟨b20, kk19_0, rfl, N27, K33, qa19_0, qd19_0, F28, Fw27, F30⟩, fun fs hr => ?_⟩
  refine own_b X0 hx hby tb11 1 [] 1 _ [vr a1] rfl ?_
  refine st3 _ ?_
  refine own_b X3 hx hby tb11 2 [true] 27 _ [] (ai (by decide) rfl) ?_
  refine st5 _ ?_
  refine own_b X5 hx hby tb11 4 [false] 36 _ [vi 12, vi 0, vr a2] (ai (feq P3).1 rfl) ?_
  refine st19 _ ?_
  refine own_b X19 hx hby tb11 4 [] 45 (L_rriinr a1 a2 0 12 b20) [vi 12, vr b20, vr a1] rfl ?_
  refine st21 _ ?_
  refine st24 _ ?_
  refine own_b X24 hx hby tb11 2 [] 54 _ [vr b20, vr a1] rfl ?_
  refine st27 _ ?_
  show OS p e below T27 m 57 (L_rriinr a1 a2 0 12 b20) [] _
  exact X27.returnOut hx hret (hb hby d11_57) hr
theorem rm10_4 (hw : OW Z a0) (a1 a2 : Addr) (w3 : ClassId) (p4 p5 p6 p7 p8 p9 p10 p11 p12 p13 p14 p15 p16 : Int32) (Z0 : n0 ≤ h0.size) (P1 : Arv Z h0 a2 w3 .char (12 : Int32) [vi p4, vi p5, vi p6, vi p7, vi p8, vi p9, vi p10, vi p11, vi p12, vi p13, vi p14, vi p15] (vi 0)) (P2 : ab1 Z (vi p16)) (P3 : Old Z n0 h0) (P4 : ¬ (p16 = (0 : Int32))) (P5 : ¬ ((255 : Int32) < p4)) (P6 : ¬ ((255 : Int32) < p5)) (P7 : ¬ ((255 : Int32) < p6)) (P8 : ¬ ((255 : Int32) < p7)) (P9 : ¬ ((255 : Int32) < p8)) (P10 : ¬ ((255 : Int32) < p9)) (P11 : ¬ ((255 : Int32) < p10)) (P12 : ¬ ((255 : Int32) < p11)) (P13 : ¬ ((255 : Int32) < p12)) (P14 : ¬ ((255 : Int32) < p13)) (P15 : ¬ ((255 : Int32) < p14)) (P16 : ¬ ((255 : Int32) < p15)) (P17 : ab7 Z h0 a1 (vi 0)) (P18 : ab10 Z h0 a1) (P19 : n0 ≤ a1) (P20 : ab8 Z h0 a1 .null) :
    M10 l Z ws (orm 3 1 12 52) #[vr a1, vr a2] h0 (fun v h L => ∃ b18 : Addr, ∃ kk17_0 : ClassId, v = none ∧ Fr n0 L ∧ Keep h0 h [a1] ∧ n0 ≤ b18 ∧ h0.size ≤ b18 ∧ ab7 Z h a1 (vi 0) ∧ ab8 Z h a1 (vr b18) ∧ Arv Z h b18 kk17_0 .byte (12 : Int32) [vi (va21 p4), vi (va21 p5), vi (va21 p6), vi (va21 p7), vi (va21 p8), vi (va21 p9), vi (va21 p10), vi (va21 p11), vi (va21 p12), vi (va21 p13), vi (va21 p14), vi (va21 p15)] (vi 0)) := by
  refine own_enter (plainFor_of_name pn_0) (L0 := (L_rr a1 a2)) ?_
  intro p e s m below meth c s₁ hx hby hml hown hnm hret hZ X0 e0
  have N0 := Fr.nil n0
  obtain ⟨T17, L17, _, X17, ⟨b18, kk17_0, rfl, N17q, K17, qa17_0, qb17_0, f17_0, f17_1, f17_2⟩, st17⟩ := own_callI X0 hx hZ hown (cw_7 hw) (rm11_4 hw a1 a2 p16 w3 p4 p5 p6 p7 p8 p9 p10 p11 p12 p13 p14 p15 Z0 P2 P3 P4 P1 P5 P6 P7 P8 P9 P10 P11 P12 P13 P14 P15 P16 P17 P18 P19 P20) e0 (Ls := (L_rr a1 a2)) hml a1 [vr a2, vi 0, vi 12, .null] [] pd_11 0 (hb hby d10_6)
  have N17 := Fr.app N0 N17q
  have qd17_0 := Nat.le_trans (Nat.le_refl h0.size) qb17_0
  have K19 := (Keep.refl h0 [a1]).trans K17 (allS (Or.inl (List.mem_of_getElem? (i := 0) rfl)) all0)
  refine ⟨T17, _, _, _, _, none, X17, rfl, by decide, by decide, (fun _ => rfl), ⟨b18, kk17_0, rfl, N17, K19, qa17_0, qd17_0, f17_0, f17_1, f17_2⟩, fun fs hr => ?_⟩
  refine own_a X0 hx hZ e0 hby tb10 (aec P1 aen) 6 [] [0] 6 _ [.null, vi 12, vi 0, vr a2, vr a1] (ai rfl rfl) ?_
  refine st17 _ ?_
  show OS p e below T17 m 9 (L_rr a1 a2) [] _
  exact X17.returnOut hx hret (hb hby d10_9) hr
theorem rm3_4 (hw : OW Z a0) (a1 : Addr) (p2 p3 p4 : Int32) (a7 : Addr) (w8 : ClassId) (p9 : Int32) (w10 : (List Value)) (p11 : Int32) (a12 : Value) (p13 p21 p31 p39 p47 p56 p64 p72 p80 p88 p97 p105 p113 p121 p130 : Int32) (Z0 : n0 ≤ h0.size) (P1 : ab8 Z h0 a1 (vr a7)) (P2 : Arv Z h0 a7 w8 .byte p9 w10 (vi 0)) (P3 : ab7 Z h0 a1 (vi 0)) (P4 : ab10 Z h0 a1) (P5 : ab1 Z (vi p11)) (P6 : ab2 Z a12) (P7 : ¬ (p11 = (0 : Int32))) (P8 : CV p9 w10 (vi 0) (0 : Int32) p2 p3 p13) (P9 : Old Z n0 h0) (P10 : a12.isRef = true) (P11 : CV p9 w10 (vi 0) (1 : Int32) p2 p3 p21) (P12 : CV p9 w10 (vi 0) (2 : Int32) p2 p3 p31) (P13 : CV p9 w10 (vi 0) (3 : Int32) p2 p3 p39) (P14 : CV p9 w10 (vi 0) (4 : Int32) p2 p3 p47) (P15 : CV p9 w10 (vi 0) (5 : Int32) p2 p3 p56) (P16 : CV p9 w10 (vi 0) (6 : Int32) p2 p3 p64) (P17 : CV p9 w10 (vi 0) (7 : Int32) p2 p3 p72) (P18 : CV p9 w10 (vi 0) (8 : Int32) p2 p3 p80) (P19 : CV p9 w10 (vi 0) (9 : Int32) p2 p3 p88) (P20 : CV p9 w10 (vi 0) (10 : Int32) p2 p3 p97) (P21 : CV p9 w10 (vi 0) (11 : Int32) p2 p3 p105) (P22 : CV p9 w10 (vi 0) (12 : Int32) p2 p3 p113) (P23 : CV p9 w10 (vi 0) (13 : Int32) p2 p3 p121) (P24 : CV p9 w10 (vi 0) (14 : Int32) p2 p3 p130) (P25 : p4 = (12 : Int32)) (P26 : ¬ ((255 : Int32) < (va20 p13))) (P27 : ¬ ((255 : Int32) < (va20 p21))) (P28 : ¬ ((255 : Int32) < (va20 p31))) (P29 : ¬ ((255 : Int32) < (va20 p39))) (P30 : ¬ ((255 : Int32) < (va20 p47))) (P31 : ¬ ((255 : Int32) < (va20 p56))) (P32 : ¬ ((255 : Int32) < (va20 p64))) (P33 : ¬ ((255 : Int32) < (va20 p72))) (P34 : ¬ ((255 : Int32) < (va20 p80))) (P35 : ¬ ((255 : Int32) < (va20 p88))) (P36 : ¬ ((255 : Int32) < (va20 p97))) (P37 : ¬ ((255 : Int32) < (va20 p105))) :
    M3 l Z ws (orm 5 4 43 71) #[vr a1, vi p2, vi p3, vi p4] h0 (fun v h L => ∃ b138 : Addr, ∃ b177 : Addr, ∃ kk175_0 : ClassId, v = some (vr b138) ∧ Fr n0 L ∧ Keep h0 h [] ∧ n0 ≤ b138 ∧ h0.size ≤ b138 ∧ n0 ≤ b177 ∧ h0.size ≤ b177 ∧ b138 ≠ b177 ∧ ab10 Z h b138 ∧ ab7 Z h b138 (vi 0) ∧ ab8 Z h b138 (vr b177) ∧ Arv Z h b177 kk175_0 .byte (12 : Int32) [vi (va21 (va20 p13)), vi (va21 (va20 p21)), vi (va21 (va20 p31)), vi (va21 (va20 p39)), vi (va21 (va20 p47)), vi (va21 (va20 p56)), vi (va21 (va20 p64)), vi (va21 (va20 p72)), vi (va21 (va20 p80)), vi (va21 (va20 p88)), vi (va21 (va20 p97)), vi (va21 (va20 p105))] (vi 0)) := by
  refine own_enter (plainFor_of_name pn_3) (L0 := (L_riiiu a1 p2 p3 p4)) ?_
  intro p e s m below meth c s₁ hx hby hml hown hnm hret hZ X0 e0
  have N0 := Fr.nil n0
  obtain ⟨T6, h6, b5, k6, X6, e6, E6, g6, V6, st6⟩ := own_newP X0 hx hZ (tw_26 hw) e0 (n := (15 : Int32)) (k := 15) (d := (vi 0)) (vs := [vi 0, vi 0, vi 0, vi 0, vi 0, vi 0, vi 0, vi 0, vi 0, vi 0, vi 0, vi 0, vi 0, vi 0, vi 0]) (Ls := (L_riiiu a1 p2 p3 p4)) (S := []) (hb hby d3_2)
  have q6 := Nat.le_trans Z0 g6
  have z6 := Nat.le_trans (Nat.le_refl h0.size) g6
  have F14 := (Exa.ext E6 P4)
  have F15 := (Fld.ext E6 P1)
  have F16 := (P2.ext E6)
  have F17 := (P9.ext E6)
  have F18 := (Fld.ext E6 P3)
  obtain ⟨T19, L19, _, X19, ⟨rfl, N19q, e19q⟩, st19⟩ := own_callS X6 hx hZ hown (cw_3 hw) (own_cell hw a1 0 p2 p3 p13 a7 w8 p11 a12 (lx Z0 E6) F14 F15 F16 P5 F17 P7 F18 P6 P10 P8) e6 (Ls := (L_riiiu a1 p2 p3 p4)) hml [vr a1, vi 0, vi p2, vi p3] [vi 0, vr b5, vr b5] pd_7 3 (hb hby d3_10)
  have N19 := Fr.app N0 N19q
  obtain ⟨T20, h20, X20, e20, W20, V20, st20⟩ := own_stC X19 hx hZ e19q V6 (j := (0 : Int32)) (x := p13) 0 (Ls := (L_riiiu a1 p2 p3 p4)) (rest := [vr b5]) (hb hby d3_13)
  have N20 := Fr.snoc X20 N19 q6
  have F22 := (Exa.wr W20 F14)
  have n23 := Nat.ne_of_lt (Nat.lt_of_lt_of_le P1.lt g6)
  have F24 := (Fld.other W20 F15 (Or.inl n23))
  have n25 := Nat.ne_of_lt (Nat.lt_of_lt_of_le P2.lt g6)
  have F26 := (Arv.other F16 W20 n25)
  have F27 := (F17.wr W20 q6)
  have F28 := (Fld.other W20 F18 (Or.inl n23))
  obtain ⟨T29, L29, _, X29, ⟨rfl, N29q, e29q⟩, st29⟩ := own_callS X20 hx hZ hown (cw_3 hw) (own_cell hw a1 1 p2 p3 p21 a7 w8 p11 a12 (lw (lx Z0 E6) W20) F22 F24 F26 P5 F27 P7 F28 P6 P10 P11) e20 (Ls := (L_riiiu a1 p2 p3 p4)) hml [vr a1, vi 1, vi p2, vi p3] [vi 1, vr b5, vr b5] pd_7 3 (hb hby d3_20)
  have N29 := Fr.app N20 N29q
  obtain ⟨T30, h30, X30, e30, W30, V30, st30⟩ := own_stC X29 hx hZ e29q V20 (j := (1 : Int32)) (x := p21) 1 (Ls := (L_riiiu a1 p2 p3 p4)) (rest := [vr b5]) (hb hby d3_23)
  have N30 := Fr.snoc X30 N29 q6
  have F32 := (Exa.wr W30 F22)
  have F33 := (Fld.other W30 F24 (Or.inl n23))
  have F34 := (Arv.other F26 W30 n25)
  have F35 := (F27.wr W30 q6)
  have F36 := (Fld.other W30 F28 (Or.inl n23))
  obtain ⟨T37, L37, _, X37, ⟨rfl, N37q, e37q⟩, st37⟩ := own_callS X30 hx hZ hown (cw_3 hw) (own_cell hw a1 2 p2 p3 p31 a7 w8 p11 a12 (lw (lw (lx Z0 E6) W20) W30) F32 F33 F34 P5 F35 P7 F36 P6 P10 P12) e30 (Ls := (L_riiiu a1 p2 p3 p4)) hml [vr a1, vi 2, vi p2, vi p3] [vi 2, vr b5, vr b5] pd_7 3 (hb hby d3_30)
  have N37 := Fr.app N30 N37q
  obtain ⟨T38, h38, X38, e38, W38, V38, st38⟩ := own_stC X37 hx hZ e37q V30 (j := (2 : Int32)) (x := p31) 2 (Ls := (L_riiiu a1 p2 p3 p4)) (rest := [vr b5]) (hb hby d3_33)
  have N38 := Fr.snoc X38 N37 q6
  have F40 := (Exa.wr W38 F32)
  have F41 := (Fld.other W38 F33 (Or.inl n23))
  have F42 := (Arv.other F34 W38 n25)
  have F43 := (F35.wr W38 q6)
  have F44 := (Fld.other W38 F36 (Or.inl n23))
  obtain ⟨T45, L45, _, X45, ⟨rfl, N45q, e45q⟩, st45⟩ := own_callS X38 hx hZ hown (cw_3 hw) (own_cell hw a1 3 p2 p3 p39 a7 w8 p11 a12 (lw (lw (lw (lx Z0 E6) W20) W30) W38) F40 F41 F42 P5 F43 P7 F44 P6 P10 P13) e38 (Ls := (L_riiiu a1 p2 p3 p4)) hml [vr a1, vi 3, vi p2, vi p3] [vi 3, vr b5, vr b5] pd_7 3 (hb hby d3_40)
  have N45 := Fr.app N38 N45q
  obtain ⟨T46, h46, X46, e46, W46, V46, st46⟩ := own_stC X45 hx hZ e45q V38 (j := (3 : Int32)) (x := p39) 3 (Ls := (L_riiiu a1 p2 p3 p4)) (rest := [vr b5]) (hb hby d3_43)
  have N46 := Fr.snoc X46 N45 q6
  have F48 := (Exa.wr W46 F40)
  have F49 := (Fld.other W46 F41 (Or.inl n23))
  have F50 := (Arv.other F42 W46 n25)
  have F51 := (F43.wr W46 q6)
  have F52 := (Fld.other W46 F44 (Or.inl n23))
  have F54 := (lw (lw (lw (lw (lx Z0 E6) W20) W30) W38) W46)
  obtain ⟨T53, L53, _, X53, ⟨rfl, N53q, e53q⟩, st53⟩ := own_callS X46 hx hZ hown (cw_3 hw) (own_cell hw a1 4 p2 p3 p47 a7 w8 p11 a12 F54 F48 F49 F50 P5 F51 P7 F52 P6 P10 P14) e46 (Ls := (L_riiiu a1 p2 p3 p4)) hml [vr a1, vi 4, vi p2, vi p3] [vi 4, vr b5, vr b5] pd_7 3 (hb hby d3_50)
  have N53 := Fr.app N46 N53q
  obtain ⟨T55, h55, X55, e55, W55, V55, st55⟩ := own_stC X53 hx hZ e53q V46 (j := (4 : Int32)) (x := p47) 4 (Ls := (L_riiiu a1 p2 p3 p4)) (rest := [vr b5]) (hb hby d3_53)
  have N55 := Fr.snoc X55 N53 q6
  have F57 := (Exa.wr W55 F48)
  have F58 := (Fld.other W55 F49 (Or.inl n23))
  have F59 := (Arv.other F50 W55 n25)
  have F60 := (F51.wr W55 q6)
  have F61 := (Fld.other W55 F52 (Or.inl n23))
  obtain ⟨T62, L62, _, X62, ⟨rfl, N62q, e62q⟩, st62⟩ := own_callS X55 hx hZ hown (cw_3 hw) (own_cell hw a1 5 p2 p3 p56 a7 w8 p11 a12 (lw F54 W55) F57 F58 F59 P5 F60 P7 F61 P6 P10 P15) e55 (Ls := (L_riiiu a1 p2 p3 p4)) hml [vr a1, vi 5, vi p2, vi p3] [vi 5, vr b5, vr b5] pd_7 3 (hb hby d3_60)
  have N62 := Fr.app N55 N62q
  obtain ⟨T63, h63, X63, e63, W63, V63, st63⟩ := own_stC X62 hx hZ e62q V55 (j := (5 : Int32)) (x := p56) 5 (Ls := (L_riiiu a1 p2 p3 p4)) (rest := [vr b5]) (hb hby d3_63)
  have N63 := Fr.snoc X63 N62 q6
  have F65 := (Exa.wr W63 F57)
  have F66 := (Fld.other W63 F58 (Or.inl n23))
  have F67 := (Arv.other F59 W63 n25)
  have F68 := (F60.wr W63 q6)
  have F69 := (Fld.other W63 F61 (Or.inl n23))
  obtain ⟨T70, L70, _, X70, ⟨rfl, N70q, e70q⟩, st70⟩ := own_callS X63 hx hZ hown (cw_3 hw) (own_cell hw a1 6 p2 p3 p64 a7 w8 p11 a12 (lw (lw F54 W55) W63) F65 F66 F67 P5 F68 P7 F69 P6 P10 P16) e63 (Ls := (L_riiiu a1 p2 p3 p4)) hml [vr a1, vi 6, vi p2, vi p3] [vi 6, vr b5, vr b5] pd_7 3 (hb hby d3_72)
  have N70 := Fr.app N63 N70q
  obtain ⟨T71, h71, X71, e71, W71, V71, st71⟩ := own_stC X70 hx hZ e70q V63 (j := (6 : Int32)) (x := p64) 6 (Ls := (L_riiiu a1 p2 p3 p4)) (rest := [vr b5]) (hb hby d3_75)
  have N71 := Fr.snoc X71 N70 q6
  have F73 := (Exa.wr W71 F65)
  have F74 := (Fld.other W71 F66 (Or.inl n23))
  have F75 := (Arv.other F67 W71 n25)
  have F76 := (F68.wr W71 q6)
  have F77 := (Fld.other W71 F69 (Or.inl n23))
  obtain ⟨T78, L78, _, X78, ⟨rfl, N78q, e78q⟩, st78⟩ := own_callS X71 hx hZ hown (cw_3 hw) (own_cell hw a1 7 p2 p3 p72 a7 w8 p11 a12 (lw (lw (lw F54 W55) W63) W71) F73 F74 F75 P5 F76 P7 F77 P6 P10 P17) e71 (Ls := (L_riiiu a1 p2 p3 p4)) hml [vr a1, vi 7, vi p2, vi p3] [vi 7, vr b5, vr b5] pd_7 3 (hb hby d3_84)
  have N78 := Fr.app N71 N78q
  obtain ⟨T79, h79, X79, e79, W79, V79, st79⟩ := own_stC X78 hx hZ e78q V71 (j := (7 : Int32)) (x := p72) 7 (Ls := (L_riiiu a1 p2 p3 p4)) (rest := [vr b5]) (hb hby d3_87)
  have N79 := Fr.snoc X79 N78 q6
  have F81 := (Exa.wr W79 F73)
  have F82 := (Fld.other W79 F74 (Or.inl n23))
  have F83 := (Arv.other F75 W79 n25)
  have F84 := (F76.wr W79 q6)
  have F85 := (Fld.other W79 F77 (Or.inl n23))
  obtain ⟨T86, L86, _, X86, ⟨rfl, N86q, e86q⟩, st86⟩ := own_callS X79 hx hZ hown (cw_3 hw) (own_cell hw a1 8 p2 p3 p80 a7 w8 p11 a12 (lw (lw (lw (lw F54 W55) W63) W71) W79) F81 F82 F83 P5 F84 P7 F85 P6 P10 P18) e79 (Ls := (L_riiiu a1 p2 p3 p4)) hml [vr a1, vi 8, vi p2, vi p3] [vi 8, vr b5, vr b5] pd_7 3 (hb hby d3_96)
  have N86 := Fr.app N79 N86q
  obtain ⟨T87, h87, X87, e87, W87, V87, st87⟩ := own_stC X86 hx hZ e86q V79 (j := (8 : Int32)) (x := p80) 8 (Ls := (L_riiiu a1 p2 p3 p4)) (rest := [vr b5]) (hb hby d3_99)
  have N87 := Fr.snoc X87 N86 q6
  have F89 := (Exa.wr W87 F81)
  have F90 := (Fld.other W87 F82 (Or.inl n23))
  have F91 := (Arv.other F83 W87 n25)
  have F92 := (F84.wr W87 q6)
  have F93 := (Fld.other W87 F85 (Or.inl n23))
  have F95 := (lw (lw (lw (lw (lw F54 W55) W63) W71) W79) W87)
  obtain ⟨T94, L94, _, X94, ⟨rfl, N94q, e94q⟩, st94⟩ := own_callS X87 hx hZ hown (cw_3 hw) (own_cell hw a1 9 p2 p3 p88 a7 w8 p11 a12 F95 F89 F90 F91 P5 F92 P7 F93 P6 P10 P19) e87 (Ls := (L_riiiu a1 p2 p3 p4)) hml [vr a1, vi 9, vi p2, vi p3] [vi 9, vr b5, vr b5] pd_7 3 (hb hby d3_108)
  have N94 := Fr.app N87 N94q
  obtain ⟨T96, h96, X96, e96, W96, V96, st96⟩ := own_stC X94 hx hZ e94q V87 (j := (9 : Int32)) (x := p88) 9 (Ls := (L_riiiu a1 p2 p3 p4)) (rest := [vr b5]) (hb hby d3_111)
  have N96 := Fr.snoc X96 N94 q6
  have F98 := (Exa.wr W96 F89)
  have F99 := (Fld.other W96 F90 (Or.inl n23))
  have F100 := (Arv.other F91 W96 n25)
  have F101 := (F92.wr W96 q6)
  have F102 := (Fld.other W96 F93 (Or.inl n23))
  obtain ⟨T103, L103, _, X103, ⟨rfl, N103q, e103q⟩, st103⟩ := own_callS X96 hx hZ hown (cw_3 hw) (own_cell hw a1 10 p2 p3 p97 a7 w8 p11 a12 (lw F95 W96) F98 F99 F100 P5 F101 P7 F102 P6 P10 P20) e96 (Ls := (L_riiiu a1 p2 p3 p4)) hml [vr a1, vi 10, vi p2, vi p3] [vi 10, vr b5, vr b5] pd_7 3 (hb hby d3_120)
  have N103 := Fr.app N96 N103q
  obtain ⟨T104, h104, X104, e104, W104, V104, st104⟩ := own_stC X103 hx hZ e103q V96 (j := (10 : Int32)) (x := p97) 10 (Ls := (L_riiiu a1 p2 p3 p4)) (rest := [vr b5]) (hb hby d3_123)
  have N104 := Fr.snoc X104 N103 q6
  have F106 := (Exa.wr W104 F98)
  have F107 := (Fld.other W104 F99 (Or.inl n23))
  have F108 := (Arv.other F100 W104 n25)
  have F109 := (F101.wr W104 q6)
  have F110 := (Fld.other W104 F102 (Or.inl n23))
  obtain ⟨T111, L111, _, X111, ⟨rfl, N111q, e111q⟩, st111⟩ := own_callS X104 hx hZ hown (cw_3 hw) (own_cell hw a1 11 p2 p3 p105 a7 w8 p11 a12 (lw (lw F95 W96) W104) F106 F107 F108 P5 F109 P7 F110 P6 P10 P21) e104 (Ls := (L_riiiu a1 p2 p3 p4)) hml [vr a1, vi 11, vi p2, vi p3] [vi 11, vr b5, vr b5] pd_7 3 (hb hby d3_132)
  have N111 := Fr.app N104 N111q
  obtain ⟨T112, h112, X112, e112, W112, V112, st112⟩ := own_stC X111 hx hZ e111q V104 (j := (11 : Int32)) (x := p105) 11 (Ls := (L_riiiu a1 p2 p3 p4)) (rest := [vr b5]) (hb hby d3_135)
  have N112 := Fr.snoc X112 N111 q6
  have F114 := (Exa.wr W112 F106)
  have F115 := (Fld.other W112 F107 (Or.inl n23))
  have F116 := (Arv.other F108 W112 n25)
  have F117 := (F109.wr W112 q6)
  have F118 := (Fld.other W112 F110 (Or.inl n23))
  obtain ⟨T119, L119, _, X119, ⟨rfl, N119q, e119q⟩, st119⟩ := own_callS X112 hx hZ hown (cw_3 hw) (own_cell hw a1 12 p2 p3 p113 a7 w8 p11 a12 (lw (lw (lw F95 W96) W104) W112) F114 F115 F116 P5 F117 P7 F118 P6 P10 P22) e112 (Ls := (L_riiiu a1 p2 p3 p4)) hml [vr a1, vi 12, vi p2, vi p3] [vi 12, vr b5, vr b5] pd_7 3 (hb hby d3_144)
  have N119 := Fr.app N112 N119q
  obtain ⟨T120, h120, X120, e120, W120, V120, st120⟩ := own_stC X119 hx hZ e119q V112 (j := (12 : Int32)) (x := p113) 12 (Ls := (L_riiiu a1 p2 p3 p4)) (rest := [vr b5]) (hb hby d3_147)
  have N120 := Fr.snoc X120 N119 q6
  have F122 := (Exa.wr W120 F114)
  have F123 := (Fld.other W120 F115 (Or.inl n23))
  have F124 := (Arv.other F116 W120 n25)
  have F125 := (F117.wr W120 q6)
  have F126 := (Fld.other W120 F118 (Or.inl n23))
  have F128 := (lw (lw (lw (lw F95 W96) W104) W112) W120)
  obtain ⟨T127, L127, _, X127, ⟨rfl, N127q, e127q⟩, st127⟩ := own_callS X120 hx hZ hown (cw_3 hw) (own_cell hw a1 13 p2 p3 p121 a7 w8 p11 a12 F128 F122 F123 F124 P5 F125 P7 F126 P6 P10 P23) e120 (Ls := (L_riiiu a1 p2 p3 p4)) hml [vr a1, vi 13, vi p2, vi p3] [vi 13, vr b5, vr b5] pd_7 3 (hb hby d3_156)
  have N127 := Fr.app N120 N127q
  obtain ⟨T129, h129, X129, e129, W129, V129, st129⟩ := own_stC X127 hx hZ e127q V120 (j := (13 : Int32)) (x := p121) 13 (Ls := (L_riiiu a1 p2 p3 p4)) (rest := [vr b5]) (hb hby d3_159)
  have N129 := Fr.snoc X129 N127 q6
  have F131 := (Exa.wr W129 F122)
  have F132 := (Fld.other W129 F123 (Or.inl n23))
  have F133 := (Arv.other F124 W129 n25)
  have F134 := (F125.wr W129 q6)
  have F135 := (Fld.other W129 F126 (Or.inl n23))
  obtain ⟨T136, L136, _, X136, ⟨rfl, N136q, e136q⟩, st136⟩ := own_callS X129 hx hZ hown (cw_3 hw) (own_cell hw a1 14 p2 p3 p130 a7 w8 p11 a12 (lw F128 W129) F131 F132 F133 P5 F134 P7 F135 P6 P10 P24) e129 (Ls := (L_riiiu a1 p2 p3 p4)) hml [vr a1, vi 14, vi p2, vi p3] [vi 14, vr b5, vr b5] pd_7 3 (hb hby d3_168)
  have N136 := Fr.app N129 N136q
  obtain ⟨T137, h137, X137, e137, W137, V137, st137⟩ := own_stC X136 hx hZ e136q V129 (j := (14 : Int32)) (x := p130) 14 (Ls := (L_riiiu a1 p2 p3 p4)) (rest := [vr b5]) (hb hby d3_171)
  have N137 := Fr.snoc X137 N136 q6
  obtain ⟨T139, h139, b138, X139, e139, E139, g139, A139, D139, st139⟩ := own_new X137 hx hZ hown (tw_52 hw) (tw_3 hw) (tw_2 hw) e137 (Ls := (L_riiir a1 p2 p3 p4 b5)) (S := []) (hb hby d3_180)
  have F140 := (lw (lw (lw (lw (lw (lw (lw (lw (lw (lw (lw (lw (lw (lw (lw (lx (Nat.le_refl h0.size) E6) W20) W30) W38) W46) W55) W63) W71) W79) W87) W96) W104) W112) W120) W129) W137)
  have q139 := Nat.le_trans (lw (lw F128 W129) W137) g139
  have z139 := Nat.le_trans F140 g139
  have F141 : ab8 Z h139 b138 .null := D139 (Or.inr (tw_5 hw)) (ty := (.array .byte)) (by decide)
  have F142 : ab7 Z h139 b138 (vi 0) := D139 (Or.inr (tw_6 hw)) (ty := .byte) (by decide)
  obtain ⟨T144, h144, b143, k144, X144, e144, E144, g144, V144, st144⟩ := own_newP X139 hx hZ (tw_26 hw) e139 (n := (12 : Int32)) (k := 12) (d := (vi 0)) (vs := [vi 0, vi 0, vi 0, vi 0, vi 0, vi 0, vi 0, vi 0, vi 0, vi 0, vi 0, vi 0]) (Ls := (L_riiir a1 p2 p3 p4 b5)) (S := [vr b138, vr b138]) (hb hby d3_186)
  have q144 := Nat.le_trans (lx (lw (lw F128 W129) W137) E139) g144
  have z144 := Nat.le_trans (lx F140 E139) g144
  have F145 := ((V137.ext E139).ext E144)
  obtain ⟨T146, h146, X146, e146, W146, V146, st146⟩ := own_stC X144 hx hZ e144 V144 (j := (0 : Int32)) (x := (nar .char p13)) 0 (Ls := (L_riiir a1 p2 p3 p4 b5)) (rest := [vr b143, vr b138, vr b138]) (hb hby d3_194)
  have N146 := Fr.snoc X146 N137 q144
  have n147 := Nat.ne_of_lt (Nat.lt_of_lt_of_le (Nat.lt_of_lt_of_le V137.lt E139.1) g144)
  have F148 := (Arv.other F145 W146 n147)
  obtain ⟨T149, h149, X149, e149, W149, V149, st149⟩ := own_stC X146 hx hZ e146 V146 (j := (1 : Int32)) (x := (nar .char p21)) 1 (Ls := (L_riiir a1 p2 p3 p4 b5)) (rest := [vr b143, vr b138, vr b138]) (hb hby d3_201)
  have N149 := Fr.snoc X149 N146 q144
  have F150 := (Arv.other F148 W149 n147)
  obtain ⟨T151, h151, X151, e151, W151, V151, st151⟩ := own_stC X149 hx hZ e149 V149 (j := (2 : Int32)) (x := (nar .char p31)) 2 (Ls := (L_riiir a1 p2 p3 p4 b5)) (rest := [vr b143, vr b138, vr b138]) (hb hby d3_208)
  have N151 := Fr.snoc X151 N149 q144
  have F152 := (Arv.other F150 W151 n147)
  obtain ⟨T153, h153, X153, e153, W153, V153, st153⟩ := own_stC X151 hx hZ e151 V151 (j := (3 : Int32)) (x := (nar .char p39)) 3 (Ls := (L_riiir a1 p2 p3 p4 b5)) (rest := [vr b143, vr b138, vr b138]) (hb hby d3_215)
  have N153 := Fr.snoc X153 N151 q144
  have F154 := (Arv.other F152 W153 n147)
  obtain ⟨T155, h155, X155, e155, W155, V155, st155⟩ := own_stC X153 hx hZ e153 V153 (j := (4 : Int32)) (x := (nar .char p47)) 4 (Ls := (L_riiir a1 p2 p3 p4 b5)) (rest := [vr b143, vr b138, vr b138]) (hb hby d3_222)
  have N155 := Fr.snoc X155 N153 q144
  have F156 := (Arv.other F154 W155 n147)
  obtain ⟨T157, h157, X157, e157, W157, V157, st157⟩ := own_stC X155 hx hZ e155 V155 (j := (5 : Int32)) (x := (nar .char p56)) 5 (Ls := (L_riiir a1 p2 p3 p4 b5)) (rest := [vr b143, vr b138, vr b138]) (hb hby d3_229)
  have N157 := Fr.snoc X157 N155 q144
  have F158 := (Arv.other F156 W157 n147)
  obtain ⟨T159, h159, X159, e159, W159, V159, st159⟩ := own_stC X157 hx hZ e157 V157 (j := (6 : Int32)) (x := (nar .char p64)) 6 (Ls := (L_riiir a1 p2 p3 p4 b5)) (rest := [vr b143, vr b138, vr b138]) (hb hby d3_238)
  have N159 := Fr.snoc X159 N157 q144
  have F160 := (Arv.other F158 W159 n147)
  obtain ⟨T161, h161, X161, e161, W161, V161, st161⟩ := own_stC X159 hx hZ e159 V159 (j := (7 : Int32)) (x := (nar .char p72)) 7 (Ls := (L_riiir a1 p2 p3 p4 b5)) (rest := [vr b143, vr b138, vr b138]) (hb hby d3_247)
  have N161 := Fr.snoc X161 N159 q144
  have F162 := (Arv.other F160 W161 n147)
  obtain ⟨T163, h163, X163, e163, W163, V163, st163⟩ := own_stC X161 hx hZ e161 V161 (j := (8 : Int32)) (x := (nar .char p80)) 8 (Ls := (L_riiir a1 p2 p3 p4 b5)) (rest := [vr b143, vr b138, vr b138]) (hb hby d3_256)
  have N163 := Fr.snoc X163 N161 q144
  have F164 := (Arv.other F162 W163 n147)
  obtain ⟨T165, h165, X165, e165, W165, V165, st165⟩ := own_stC X163 hx hZ e163 V163 (j := (9 : Int32)) (x := (nar .char p88)) 9 (Ls := (L_riiir a1 p2 p3 p4 b5)) (rest := [vr b143, vr b138, vr b138]) (hb hby d3_265)
  have N165 := Fr.snoc X165 N163 q144
  have F166 := (Arv.other F164 W165 n147)
  obtain ⟨T167, h167, X167, e167, W167, V167, st167⟩ := own_stC X165 hx hZ e165 V165 (j := (10 : Int32)) (x := (nar .char p97)) 10 (Ls := (L_riiir a1 p2 p3 p4 b5)) (rest := [vr b143, vr b138, vr b138]) (hb hby d3_274)
  have N167 := Fr.snoc X167 N165 q144
  have F168 := (Arv.other F166 W167 n147)
  obtain ⟨T169, h169, X169, e169, W169, V169, st169⟩ := own_stC X167 hx hZ e167 V167 (j := (11 : Int32)) (x := (nar .char p105)) 11 (Ls := (L_riiir a1 p2 p3 p4 b5)) (rest := [vr b143, vr b138, vr b138]) (hb hby d3_283)
  have N169 := Fr.snoc X169 N167 q144
  have F170 := (((((((((((((((F134.wr W137 q6).ext E139).ext E144).wr W146 q144).wr W149 q144).wr W151 q144).wr W153 q144).wr W155 q144).wr W157 q144).wr W159 q144).wr W161 q144).wr W163 q144).wr W165 q144).wr W167 q144).wr W169 q144)
  have n171 := Nat.ne_of_lt (Nat.lt_of_lt_of_le A139.lt g144)
  have F172 := (Fld.other W169 (Fld.other W167 (Fld.other W165 (Fld.other W163 (Fld.other W161 (Fld.other W159 (Fld.other W157 (Fld.other W155 (Fld.other W153 (Fld.other W151 (Fld.other W149 (Fld.other W146 (Fld.ext E144 F142) (Or.inl n171)) (Or.inl n171)) (Or.inl n171)) (Or.inl n171)) (Or.inl n171)) (Or.inl n171)) (Or.inl n171)) (Or.inl n171)) (Or.inl n171)) (Or.inl n171)) (Or.inl n171)) (Or.inl n171))
  have F173 := (Exa.wr W169 (Exa.wr W167 (Exa.wr W165 (Exa.wr W163 (Exa.wr W161 (Exa.wr W159 (Exa.wr W157 (Exa.wr W155 (Exa.wr W153 (Exa.wr W151 (Exa.wr W149 (Exa.wr W146 (Exa.ext E144 A139)))))))))))))
  have F174 := (Fld.other W169 (Fld.other W167 (Fld.other W165 (Fld.other W163 (Fld.other W161 (Fld.other W159 (Fld.other W157 (Fld.other W155 (Fld.other W153 (Fld.other W151 (Fld.other W149 (Fld.other W146 (Fld.ext E144 F141) (Or.inl n171)) (Or.inl n171)) (Or.inl n171)) (Or.inl n171)) (Or.inl n171)) (Or.inl n171)) (Or.inl n171)) (Or.inl n171)) (Or.inl n171)) (Or.inl n171)) (Or.inl n171)) (Or.inl n171))
  have F176 := (lw (lw (lw (lw (lw (lw (lw (lw (lw (lw (lw (lw (lx (lx (lw (lw F128 W129) W137) E139) E144) W146) W149) W151) W153) W155) W157) W159) W161) W163) W165) W167) W169)
  obtain ⟨T175, L175, _, X175, ⟨b177, kk175_0, rfl, N175q, K175, qa175_0, qb175_0, f175_0, f175_1, f175_2⟩, st175⟩ := own_callI X169 hx hZ hown (cw_8 hw) (rm10_4 hw b138 b143 k144 (va20 p13) (va20 p21) (va20 p31) (va20 p39) (va20 p47) (va20 p56) (va20 p64) (va20 p72) (va20 p80) (va20 p88) (va20 p97) (va20 p105) p11 F176 V169 P5 F170 P7 P26 P27 P28 P29 P30 P31 P32 P33 P34 P35 P36 P37 F172 F173 q139 F174) e169 (Ls := (L_riiir a1 p2 p3 p4 b5)) hml b138 [vr b143] [vr b138] pd_12 1 (hb hby d3_284)
  have N175 := Fr.app N169 N175q
  have F178 := (lw (lw (lw (lw (lw (lw (lw (lw (lw (lw (lw (lw (lx (lx F140 E139) E144) W146) W149) W151) W153) W155) W157) W159) W161) W163) W165) W167) W169)
  have qd175_0 := Nat.le_trans F178 qb175_0
  have F179 := (Exa.keep F173 K175)
  have K180 := (Keep.refl h0 []).ext E6
  have K181 := K180.wr W20 (Or.inr z6)
  have K182 := K181.wr W30 (Or.inr z6)
  have K183 := K182.wr W38 (Or.inr z6)
  have K184 := K183.wr W46 (Or.inr z6)
  have K185 := K184.wr W55 (Or.inr z6)
  have K186 := K185.wr W63 (Or.inr z6)
  have K187 := K186.wr W71 (Or.inr z6)
  have K188 := K187.wr W79 (Or.inr z6)
  have K189 := K188.wr W87 (Or.inr z6)
  have K190 := K189.wr W96 (Or.inr z6)
  have K191 := K190.wr W104 (Or.inr z6)
  have K192 := K191.wr W112 (Or.inr z6)
  have K193 := K192.wr W120 (Or.inr z6)
  have K194 := K193.wr W129 (Or.inr z6)
  have K195 := K194.wr W137 (Or.inr z6)
  have K196 := K195.ext E139
  have K197 := K196.ext E144
  have K198 := K197.wr W146 (Or.inr z144)
  have K199 := K198.wr W149 (Or.inr z144)
  have K200 := K199.wr W151 (Or.inr z144)
  have K201 := K200.wr W153 (Or.inr z144)
  have K202 := K201.wr W155 (Or.inr z144)
  have K203 := K202.wr W157 (Or.inr z144)
  have K204 := K203.wr W159 (Or.inr z144)
  have K205 := K204.wr W161 (Or.inr z144)
  have K206 := K205.wr W163 (Or.inr z144)
  have K207 := K206.wr W165 (Or.inr z144)
  have K208 := K207.wr W167 (Or.inr z144)
  have K209 := K208.wr W169 (Or.inr z144)
  have K210 := K209.trans K175 (allS (Or.inr z139) all0)
  have n211 := Nat.ne_of_lt (Nat.lt_of_lt_of_le F172.lt qb175_0)
  refine ⟨T175, _, _, _, _, some (vr b138), X175, rfl, by decide, by decide, nofun, ⟨b138, b177, kk175_0, rfl, N175, K210, q139, z139, qa175_0, qd175_0, n211, F179, f175_0, f175_1, f175_2⟩, fun fs hr => ?_⟩
  refine own_b X0 hx hby tb3 1 [] 2 _ [vi 15] rfl ?_
  refine st6 _ ?_
  refine own_b X6 hx hby tb3 6 [] 10 _ [vi p3, vi p2, vi 0, vr a1, vi 0, vr b5, vr b5] rfl ?_
  refine st19 _ ?_
  refine st20 _ ?_
  refine own_b X20 hx hby tb3 6 [] 20 _ [vi p3, vi p2, vi 1, vr a1, vi 1, vr b5, vr b5] rfl ?_
  refine st29 _ ?_
  refine st30 _ ?_
  refine own_b X30 hx hby tb3 6 [] 30 _ [vi p3, vi p2, vi 2, vr a1, vi 2, vr b5, vr b5] rfl ?_
  refine st37 _ ?_
  refine st38 _ ?_
  refine own_b X38 hx hby tb3 6 [] 40 _ [vi p3, vi p2, vi 3, vr a1, vi 3, vr b5, vr b5] rfl ?_
  refine st45 _ ?_
  refine st46 _ ?_
  refine own_b X46 hx hby tb3 6 [] 50 _ [vi p3, vi p2, vi 4, vr a1, vi 4, vr b5, vr b5] rfl ?_
  refine st53 _ ?_
  refine st55 _ ?_
  refine own_b X55 hx hby tb3 6 [] 60 _ [vi p3, vi p2, vi 5, vr a1, vi 5, vr b5, vr b5] rfl ?_
  refine st62 _ ?_
  refine st63 _ ?_
  refine own_b X63 hx hby tb3 6 [] 72 _ [vi p3, vi p2, vi 6, vr a1, vi 6, vr b5, vr b5] rfl ?_
  refine st70 _ ?_
  refine st71 _ ?_
  refine own_b X71 hx hby tb3 6 [] 84 _ [vi p3, vi p2, vi 7, vr a1, vi 7, vr b5, vr b5] rfl ?_
  refine st78 _ ?_
  refine st79 _ ?_
  refine own_b X79 hx hby tb3 6 [] 96 _ [vi p3, vi p2, vi 8, vr a1, vi 8, vr b5, vr b5] rfl ?_
  refine st86 _ ?_
  refine st87 _ ?_
  refine own_b X87 hx hby tb3 6 [] 108 _ [vi p3, vi p2, vi 9, vr a1, vi 9, vr b5, vr b5] rfl ?_
  refine st94 _ ?_
  refine st96 _ ?_
  refine own_b X96 hx hby tb3 6 [] 120 _ [vi p3, vi p2, vi 10, vr a1, vi 10, vr b5, vr b5] rfl ?_
  refine st103 _ ?_
  refine st104 _ ?_
  refine own_b X104 hx hby tb3 6 [] 132 _ [vi p3, vi p2, vi 11, vr a1, vi 11, vr b5, vr b5] rfl ?_
  refine st111 _ ?_
  refine st112 _ ?_
  refine own_b X112 hx hby tb3 6 [] 144 _ [vi p3, vi p2, vi 12, vr a1, vi 12, vr b5, vr b5] rfl ?_
  refine st119 _ ?_
  refine st120 _ ?_
  refine own_b X120 hx hby tb3 6 [] 156 _ [vi p3, vi p2, vi 13, vr a1, vi 13, vr b5, vr b5] rfl ?_
  refine st127 _ ?_
  refine st129 _ ?_
  refine own_b X129 hx hby tb3 6 [] 168 _ [vi p3, vi p2, vi 14, vr a1, vi 14, vr b5, vr b5] rfl ?_
  refine st136 _ ?_
  refine st137 _ ?_
  refine own_b X137 hx hby tb3 4 [false] 180 (L_riiir a1 p2 p3 p4 b5) [] (ai (teq P25).2 rfl) ?_
  refine st139 _ ?_
  refine own_b X139 hx hby tb3 2 [] 186 _ [vi 12, vr b138, vr b138] rfl ?_
  refine st144 _ ?_
  refine own_a X144 hx hZ e144 hby tb3 (aec F145 aen) 5 [] [0] 194 _ [vi (nar .char p13), vi 0, vr b143, vr b143, vr b138, vr b138] (ai rfl rfl) ?_
  refine st146 _ ?_
  refine own_a X146 hx hZ e146 hby tb3 (aec F148 aen) 5 [] [0] 201 _ [vi (nar .char p21), vi 1, vr b143, vr b143, vr b138, vr b138] (ai rfl rfl) ?_
  refine st149 _ ?_
  refine own_a X149 hx hZ e149 hby tb3 (aec F150 aen) 5 [] [0] 208 _ [vi (nar .char p31), vi 2, vr b143, vr b143, vr b138, vr b138] (ai rfl rfl) ?_
  refine st151 _ ?_
  refine own_a X151 hx hZ e151 hby tb3 (aec F152 aen) 5 [] [0] 215 _ [vi (nar .char p39), vi 3, vr b143, vr b143, vr b138, vr b138] (ai rfl rfl) ?_
  refine st153 _ ?_
  refine own_a X153 hx hZ e153 hby tb3 (aec F154 aen) 5 [] [0] 222 _ [vi (nar .char p47), vi 4, vr b143, vr b143, vr b138, vr b138] (ai rfl rfl) ?_
  refine st155 _ ?_
  refine own_a X155 hx hZ e155 hby tb3 (aec F156 aen) 5 [] [0] 229 _ [vi (nar .char p56), vi 5, vr b143, vr b143, vr b138, vr b138] (ai rfl rfl) ?_
  refine st157 _ ?_
  refine own_a X157 hx hZ e157 hby tb3 (aec F158 aen) 5 [] [0] 238 _ [vi (nar .char p64), vi 6, vr b143, vr b143, vr b138, vr b138] (ai rfl rfl) ?_
  refine st159 _ ?_
  refine own_a X159 hx hZ e159 hby tb3 (aec F160 aen) 5 [] [0] 247 _ [vi (nar .char p72), vi 7, vr b143, vr b143, vr b138, vr b138] (ai rfl rfl) ?_
  refine st161 _ ?_
  refine own_a X161 hx hZ e161 hby tb3 (aec F162 aen) 5 [] [0] 256 _ [vi (nar .char p80), vi 8, vr b143, vr b143, vr b138, vr b138] (ai rfl rfl) ?_
  refine st163 _ ?_
  refine own_a X163 hx hZ e163 hby tb3 (aec F164 aen) 5 [] [0] 265 _ [vi (nar .char p88), vi 9, vr b143, vr b143, vr b138, vr b138] (ai rfl rfl) ?_
  refine st165 _ ?_
  refine own_a X165 hx hZ e165 hby tb3 (aec F166 aen) 5 [] [0] 274 _ [vi (nar .char p97), vi 10, vr b143, vr b143, vr b138, vr b138] (ai rfl rfl) ?_
  refine st167 _ ?_
  refine own_a X167 hx hZ e167 hby tb3 (aec F168 aen) 5 [] [0] 283 _ [vi (nar .char p105), vi 11, vr b143, vr b143, vr b138, vr b138] (ai rfl rfl) ?_
  refine st169 _ ?_
  refine st175 _ ?_
  exact own_retA X175 hx hret rfl (hb hby d3_287) hr
theorem rm16_5 (hw : OW Z a0) (a1 a2 : Addr) (w3 : ClassId) (a4 a5 a6 a9 a12 a13 : Addr) (w14 w15 : ClassId) (p16 p17 p18 p19 p20 p21 p22 p23 p24 p25 p26 p27 p28 : Int32) (a35 a37 : Addr) (w38 : ClassId) (a41 a43 : Addr) (w44 : ClassId) (Z0 : n0 ≤ h0.size) (P1 : ab3 Z (vr a2)) (P2 : Old Z n0 h0) (P3 : ab11 Z Z.heap a2) (P4 : Arv Z Z.heap a2 w3 (.object "com/example/sinkwatch/sinkwatch/Flaw") (3 : Int32) [vr a4, vr a5, vr a6] .null) (P5 : ab9 Z Z.heap a4 (vr a9)) (P6 : ab10 Z Z.heap a9) (P7 : ab10 Z h0 a1) (P8 : ab7 Z Z.heap a9 (vi 0)) (P9 : ab7 Z h0 a1 (vi 0)) (P10 : ab8 Z Z.heap a9 (vr a12)) (P11 : ab8 Z h0 a1 (vr a13)) (P12 : Arv Z Z.heap a12 w14 .byte (13 : Int32) bl3 (vi 0)) (P13 : Arv Z h0 a13 w15 .byte (12 : Int32) [vi p16, vi p17, vi p18, vi p19, vi p20, vi p21, vi p22, vi p23, vi p24, vi p25, vi p26, vi p27] (vi 0)) (P14 : ab1 Z (vi p28)) (P15 : ¬ (p28 = (0 : Int32))) (P16 : n0 ≤ a1) (P17 : ab9 Z Z.heap a5 (vr a35)) (P18 : ab10 Z Z.heap a35) (P19 : ab7 Z Z.heap a35 (vi 0)) (P20 : ab8 Z Z.heap a35 (vr a37)) (P21 : Arv Z Z.heap a37 w38 .byte (14 : Int32) bl1 (vi 0)) (P22 : ab9 Z Z.heap a6 (vr a41)) (P23 : ab10 Z Z.heap a41) (P24 : ab7 Z Z.heap a41 (vi 0)) (P25 : ab8 Z Z.heap a41 (vr a43)) (P26 : Arv Z Z.heap a43 w44 .byte (13 : Int32) bl6 (vi 0)) :
    M16 l Z ws (orm 2 1 3 28) #[vr a1] h0 (fun v h L => v = some .null ∧ Fr n0 L ∧ Keep h0 h []) := by
  refine own_enter (plainFor_of_name pn_5) (L0 := (L_ruuuu a1)) ?_
  intro p e s m below meth c s₁ hx hby hml hown hnm hret hZ X0 e0
  have N0 := Fr.nil n0
  obtain ⟨T7, L7, _, X7, ⟨b8, rfl, N7q, K7, qa7_0, qb7_0, f7_0, f7_1⟩, st7⟩ := own_callS X0 hx hZ hown (cw_10 hw) (rm17_1 hw a2 w3 a4 a5 a6 Z0 P1 P2 P3 P4) e0 (Ls := (L_ruuuu a1)) hml [] [] pd_14 0 (hb hby d16_0)
  have N7 := Fr.app N0 N7q
  have qd7_0 := Nat.le_trans (Nat.le_refl h0.size) qb7_0
  have F10 := (P2.keep K7 all0)
  obtain ⟨T11, X11, e11, st11⟩ := getF X7 hx hZ hown (host := "") (Or.inl (tw_95 hw)) Via.refl rfl (Fld.ext F10.2 P5) (g := (mkF m 21 (L_rriir a1 b8 3 0 a4) [vr a4])) rfl rfl (hb hby d16_21)
  have n29 := Old.ne P2 P6.lt P16
  have F30 := (Exa.keep P7 K7)
  have F31 := (Fld.keep P9 K7 nin0)
  have F32 := (Fld.keep P11 K7 nin0)
  have F33 := (Arv.keep P13 K7 nin0)
  obtain ⟨T34, L34, _, X34, ⟨rfl, N34q, e34q⟩, st34⟩ := own_callV X11 hx hZ hown (tw_97 hw) (tw_98 hw) (notFace_of_selects (args := #[]) (mvT hZ (tw_100 hw))) (tw_100 hw) (tw_99 hw) (tw_2 hw) (tw_101 hw) (own_eq18 hw a9 a1 a12 a13 w14 w15 bl4 ([p16, p17, p18, p19, p20, p21, p22, p23, p24, p25, p26, p27]) p28 0 (Nat.le_trans Z0 K7.1) n29 F30 P14 F10 P15 (Fld.ext F10.2 P8) F31 (Fld.ext F10.2 P10) F32 (P12.ext F10.2) F33) e11 (Exa.ext F10.2 P6) (Ls := (L_rriir a1 b8 3 0 a4)) hml [vr a1] [] pd_16 0 (hb hby d16_25)
  have N34 := Fr.app N7 N34q
  obtain ⟨T36, X36, e36, st36⟩ := getF X34 hx hZ hown (host := "") (Or.inl (tw_95 hw)) Via.refl e34q (Fld.ext F10.2 P17) (g := (mkF m 21 (L_rriir a1 b8 3 1 a5) [vr a5])) rfl rfl (hb hby d16_21)
  have n39 := Old.ne P2 P18.lt P16
  obtain ⟨T40, L40, _, X40, ⟨rfl, N40q, e40q⟩, st40⟩ := own_callV X36 hx hZ hown (tw_97 hw) (tw_98 hw) (notFace_of_selects (args := #[]) (mvT hZ (tw_100 hw))) (tw_100 hw) (tw_99 hw) (tw_2 hw) (tw_101 hw) (own_eq18 hw a35 a1 a37 a13 w38 w15 bl5 ([p16, p17, p18, p19, p20, p21, p22, p23, p24, p25, p26, p27]) p28 0 (Nat.le_trans Z0 K7.1) n39 F30 P14 F10 P15 (Fld.ext F10.2 P19) F31 (Fld.ext F10.2 P20) F32 (P21.ext F10.2) F33) e36 (Exa.ext F10.2 P18) (Ls := (L_rriir a1 b8 3 1 a5)) hml [vr a1] [] pd_16 0 (hb hby d16_25)
  have N40 := Fr.app N34 N40q
  obtain ⟨T42, X42, e42, st42⟩ := getF X40 hx hZ hown (host := "") (Or.inl (tw_95 hw)) Via.refl e40q (Fld.ext F10.2 P22) (g := (mkF m 21 (L_rriir a1 b8 3 2 a6) [vr a6])) rfl rfl (hb hby d16_21)
  have n45 := Old.ne P2 P23.lt P16
  obtain ⟨T46, L46, _, X46, ⟨rfl, N46q, e46q⟩, st46⟩ := own_callV X42 hx hZ hown (tw_97 hw) (tw_98 hw) (notFace_of_selects (args := #[]) (mvT hZ (tw_100 hw))) (tw_100 hw) (tw_99 hw) (tw_2 hw) (tw_101 hw) (own_eq18 hw a41 a1 a43 a13 w44 w15 bl7 ([p16, p17, p18, p19, p20, p21, p22, p23, p24, p25, p26, p27]) p28 0 (Nat.le_trans Z0 K7.1) n45 F30 P14 F10 P15 (Fld.ext F10.2 P24) F31 (Fld.ext F10.2 P25) F32 (P26.ext F10.2) F33) e42 (Exa.ext F10.2 P23) (Ls := (L_rriir a1 b8 3 2 a6)) hml [vr a1] [] pd_16 0 (hb hby d16_25)
  have N46 := Fr.app N40 N46q
  have K47 := (Keep.refl h0 []).trans K7 all0
  refine ⟨T46, _, _, _, _, some .null, X46, e46q, by decide, by decide, nofun, ⟨rfl, N46, K47⟩, fun fs hr => ?_⟩
  show OS p e below s₁ m 0 (L_ruuuu a1) [] _
  refine st7 _ ?_
  refine own_a X7 hx hZ rfl hby tb16 (aec f7_1 aen) 11 [false] [0] 16 (L_rriiu a1 b8 3 0) [vi 0, vr b8] (ai rfl (ai (by decide) rfl)) ?_
  refine own_aaload X7 hx hZ rfl f7_1 rfl (by decide) rfl (hb hby d16_16) _ ?_
  refine own_b X7 hx hby tb16 2 [] 21 (L_rriir a1 b8 3 0 a4) [vr a4] rfl ?_
  refine st11 _ ?_
  refine own_b X11 hx hby tb16 1 [] 25 _ [vr a1, vr a9] rfl ?_
  refine st34 _ ?_
  refine own_b X34 hx hby tb16 8 [true, false] 16 (L_rriir a1 b8 3 1 a4) [vi 1, vr b8] (ai (by decide) (ai (by decide) rfl)) ?_
  refine own_aaload X34 hx hZ e34q f7_1 rfl (by decide) rfl (hb hby d16_16) _ ?_
  refine own_b X34 hx hby tb16 2 [] 21 (L_rriir a1 b8 3 1 a5) [vr a5] rfl ?_
  refine st36 _ ?_
  refine own_b X36 hx hby tb16 1 [] 25 _ [vr a1, vr a35] rfl ?_
  refine st40 _ ?_
  refine own_b X40 hx hby tb16 8 [true, false] 16 (L_rriir a1 b8 3 2 a5) [vi 2, vr b8] (ai (by decide) (ai (by decide) rfl)) ?_
  refine own_aaload X40 hx hZ e40q f7_1 rfl (by decide) rfl (hb hby d16_16) _ ?_
  refine own_b X40 hx hby tb16 2 [] 21 (L_rriir a1 b8 3 2 a6) [vr a6] rfl ?_
  refine st42 _ ?_
  refine own_b X42 hx hby tb16 1 [] 25 _ [vr a1, vr a41] rfl ?_
  refine st46 _ ?_
  refine own_b X46 hx hby tb16 7 [true, true] 41 (L_rriir a1 b8 3 3 a6) [.null] (ai (by decide) (ai (by decide) rfl)) ?_
  exact own_retNull X46 hx hret rfl (hb hby d16_41) hr
theorem ef20_5 (m : MethodId) (a1 a3 : Addr) (w4 : ClassId) (p5 p6 p7 p8 p9 p10 p11 p12 p13 p14 p15 p16 p17 : Int32) : entryFrame m #[vr a1] 1 = mkF m 0 #[sr a1] [] := by first | rfl | (simp [entryFrame, mkF, argsToLocals, Value.category]; done)
def Q20_5 (Z : State) (a1 a3 : Addr) (w4 : ClassId) (p5 p6 p7 p8 p9 p10 p11 p12 p13 p14 p15 p16 p17 : Int32) (h0 : Heap) (n0 : Nat) (v : Option Value) (h : Heap) (L : List Loc) : Prop := v = some .null ∧ Fr n0 L ∧ Keep h0 h []
theorem rm20_5 (hw : OW Z a0) (a1 a3 : Addr) (w4 : ClassId) (p5 p6 p7 p8 p9 p10 p11 p12 p13 p14 p15 p16 p17 : Int32) (Z0 : n0 ≤ h0.size) (P1 : ab10 Z h0 a1) (P2 : ab7 Z h0 a1 (vi 0)) (P3 : ab8 Z h0 a1 (vr a3)) (P4 : Arv Z h0 a3 w4 .byte (12 : Int32) [vi p5, vi p6, vi p7, vi p8, vi p9, vi p10, vi p11, vi p12, vi p13, vi p14, vi p15, vi p16] (vi 0)) (P5 : ab1 Z (vi p17)) (P6 : ¬ (p17 = (0 : Int32))) (P7 : Old Z n0 h0) :
    MetFree l y18 (head1 (Jvm.Cond.code y18 method_4_code 1 (some (.object "com/example/sinkwatch/sinkwatch/Flaw")) :: ws) (orm 2 6 172 28)) (fun a U => a = #[vr a1] ∧ Z.Warmed39 U.vm ∧ U.heap = h0 ∧ CHv Z consts_1 U.vm h0 ∧ ∀ x ∈ ([a1] : List Addr), Safe Z consts_1 U.vm h0 x) (fun _ _ _ _ _ => True) (fun _ U o U' => ∃ v L, o = .returned v ∧ Q20_5 Z a1 a3 w4 p5 p6 p7 p8 p9 p10 p11 p12 p13 p14 p15 p16 p17 h0 n0 v U'.heap L ∧ ReturnedEndW U o U' L (orm 2 6 172 28).cells (orm 2 6 172 28).slots) := by
  refine MetFree.of_bodySF (plainFor_of_name pn_3) hisR ?_
  intro p e s m args below meth c s₁ Bd hml0 hP hK
  obtain ⟨rfl, hZ, hh, hH, hSf⟩ := hP
  have hx := Bd.exec
  have hby := Bd.bytes
  have hml : c.maxLocals = 1 := hml0
  have hown : s.vm.findClass "com/example/sinkwatch/sinkwatch/FlawNamedPinLaw" = some m.cls := findClass_of_methodNamed Bd.named
  have hnm := (name_of_methodNamed Bd.named Bd.method).1
  have hret := Bd.returns
  have X0 : Stand p l e (orm 2 6 172 28) s m #[vr a1] below meth c s₁ [] 0 0 := Stand.of_body Bd
  have e0 : s₁.heap = h0 := by rw [← hh, Bd.state]; rfl
  have N0 := Fr.nil n0
  have pre0 : ∀ t, Steps p.tables e below (s₁.setTop (mkF m 0 #[sr a1] [])) t → Steps p.tables e below (s₁.setTop (entryFrame m #[vr a1] 1)) t := fun t k => castTop (ef20_5 m a1 a3 w4 p5 p6 p7 p8 p9 p10 p11 p12 p13 p14 p15 p16 p17) k
  obtain ⟨b2a, T2, h2, k2, b2b, kl2, X2, e2, E2, hS2, hk2, hZ2, hown2, fa2, fb2, fc2, fd2, -, -, CH2, LT2, LN2, st2⟩ := ldcCH (s := s) (vm0 := s.vm) (show Stand _ _ _ _ (s.setVm s.vm) _ _ _ _ _ _ _ _ _ from X0) hx hZ hown (tw_1 hw) (own_wS hw) e0 (State.WarmedH.since (State.WarmedH.refl s) 0) (Nat.zero_le _) (own_EW hw) (List.mem_of_getElem? (i := 0) rfl) hH (vs := [(vi 115), (vi 113), (vi 108), (vi 45), (vi 105), (vi 110), (vi 106), (vi 101), (vi 99), (vi 116), (vi 105), (vi 111), (vi 110)]) (z := (13 : Int32)) (by decide +kernel) (by decide) (by decide) (g := (mkF m 1 #[sr a1] [vr a1])) rfl (hb hby d20_1) (n := 52) (by decide) (by decide) (by decide) (by decide)
  have F18 := (CHr.safe CH2 P1.lt (hSf _ (List.mem_of_getElem? (i := 0) rfl)))
  have F19 := (LN2 _ F18).1
  have F20 := (P7.ext E2)
  have F21 := (Fld.ext E2 P2)
  have F22 := (Fld.ext E2 P3)
  have F23 := (P4.ext E2)
  have F25 := (Exa.ext E2 P1)
  obtain ⟨T24, L24, _, X24, ⟨rfl, N24q, e24q⟩, st24⟩ := own_callV X2 hx hZ2 hown2 (tw_109 hw) (tw_98 hw) (notFace_of_selects (args := #[]) (mvT hZ2 (tw_100 hw))) (tw_100 hw) (tw_99 hw) (tw_2 hw) (tw_101 hw) (own_eq18 hw a1 b2a a3 b2b w4 kl2 ([p5, p6, p7, p8, p9, p10, p11, p12, p13, p14, p15, p16]) bl4 p17 0 (lx Z0 E2) F19 fa2 P5 F20 P6 F21 fb2 F22 fc2 F23 fd2) e2 F25 (Ls := #[sr a1]) hml [vr b2a] [] pd_16 0 (hb hby d20_3)
  have N24 := Fr.app N0 N24q
  have F26 := CH2.1
  obtain ⟨b27a, T27, h27, k27, b27b, kl27, X27, e27, E27, hS27, hk27, hZ27, hown27, fa27, fb27, fc27, fd27, -, -, CH27, LT27, LN27, st27⟩ := ldcCH (s := s) (vm0 := T2.vm) X24 hx hZ2 hown2 (tw_110 hw) (own_wS hw) e24q hS2 hk2 (own_EW hw) (List.mem_of_getElem? (i := 1) rfl) F26 (vs := [(vi 112), (vi 97), (vi 116), (vi 104), (vi 45), (vi 116), (vi 114), (vi 97), (vi 118), (vi 101), (vi 114), (vi 115), (vi 97), (vi 108)]) (z := (14 : Int32)) (by decide +kernel) (by decide) (by decide) (g := (mkF m 14 #[sr a1] [vr a1])) rfl (hb hby d20_14) (n := 56) (by decide) (by decide) (by decide) (by decide)
  have F28 := (CHr.safe CH27 F21.lt F18)
  have F29 := (LN27 _ F28).1
  have F30 := (F20.ext E27)
  have F31 := (Fld.ext E27 F21)
  have F32 := (Fld.ext E27 F22)
  have F33 := (F23.ext E27)
  have F35 := (Exa.ext E27 F25)
  obtain ⟨T34, L34, _, X34, ⟨rfl, N34q, e34q⟩, st34⟩ := own_callV X27 hx hZ27 hown27 (tw_109 hw) (tw_98 hw) (notFace_of_selects (args := #[]) (mvT hZ27 (tw_100 hw))) (tw_100 hw) (tw_99 hw) (tw_2 hw) (tw_101 hw) (own_eq18 hw a1 b27a a3 b27b w4 kl27 ([p5, p6, p7, p8, p9, p10, p11, p12, p13, p14, p15, p16]) bl5 p17 0 (lx (lx Z0 E2) E27) F29 fa27 P5 F30 P6 F31 fb27 F32 fc27 F33 fd27) e27 F35 (Ls := #[sr a1]) hml [vr b27a] [] pd_16 0 (hb hby d20_16)
  have N34 := Fr.app N24 N34q
  have F36 := CH27.1
  obtain ⟨b37a, T37, h37, k37, b37b, kl37, X37, e37, E37, hS37, hk37, hZ37, hown37, fa37, fb37, fc37, fd37, -, -, CH37, LT37, LN37, st37⟩ := ldcCH (s := s) (vm0 := T27.vm) X34 hx hZ27 hown27 (tw_111 hw) (own_wS hw) e34q hS27 hk27 (own_EW hw) (List.mem_of_getElem? (i := 2) rfl) F36 (vs := [(vi 111), (vi 112), (vi 101), (vi 110), (vi 45), (vi 114), (vi 101), (vi 100), (vi 105), (vi 114), (vi 101), (vi 99), (vi 116)]) (z := (13 : Int32)) (by decide +kernel) (by decide) (by decide) (g := (mkF m 27 #[sr a1] [vr a1])) rfl (hb hby d20_27) (n := 52) (by decide) (by decide) (by decide) (by decide)
  have F38 := (CHr.safe CH37 F31.lt F28)
  have F39 := (LN37 _ F38).1
  have F40 := (F30.ext E37)
  have F41 := (Fld.ext E37 F31)
  have F42 := (Fld.ext E37 F32)
  have F43 := (F33.ext E37)
  have F45 := (Exa.ext E37 F35)
  obtain ⟨T44, L44, _, X44, ⟨rfl, N44q, e44q⟩, st44⟩ := own_callV X37 hx hZ37 hown37 (tw_109 hw) (tw_98 hw) (notFace_of_selects (args := #[]) (mvT hZ37 (tw_100 hw))) (tw_100 hw) (tw_99 hw) (tw_2 hw) (tw_101 hw) (own_eq18 hw a1 b37a a3 b37b w4 kl37 ([p5, p6, p7, p8, p9, p10, p11, p12, p13, p14, p15, p16]) bl7 p17 0 (lx (lx (lx Z0 E2) E27) E37) F39 fa37 P5 F40 P6 F41 fb37 F42 fc37 F43 fd37) e37 F45 (Ls := #[sr a1]) hml [vr b37a] [] pd_16 0 (hb hby d20_29)
  have N44 := Fr.app N34 N44q
  have K46 := (Keep.refl h0 []).ext E2
  have K47 := K46.ext E27
  have K48 := K47.ext E37
  obtain ⟨fs, hr, hrun, hended, hRE⟩ := X44.leaveW hS37 (by rw [e44q]; exact hk37) (v := some .null) (fun h => by rw [hret] at h; cases h)
  refine ⟨_, _, pre0 _ ?_, hrun, hended, _, _, rfl, ?_, hRE.1, hRE.2.1, hRE.2.2.1, hRE.2.2.2.mono (by decide) (by decide)⟩
  · refine own_b X0 hx hby tb20 1 [] 1 _ [vr a1] rfl ?_
    refine st2 _ ?_
    refine st24 _ ?_
    refine own_b X24 hx hby tb20 2 [true] 14 _ [vr a1] (ai (by decide) rfl) ?_
    refine st27 _ ?_
    refine st34 _ ?_
    refine own_b X34 hx hby tb20 2 [true] 27 _ [vr a1] (ai (by decide) rfl) ?_
    refine st37 _ ?_
    refine st44 _ ?_
    refine own_b X44 hx hby tb20 2 [true] 40 _ [.null] (ai (by decide) rfl) ?_
    exact own_retNull X44 hx hret rfl (hb hby d20_40) hr
  · show Q20_5 Z a1 a3 w4 p5 p6 p7 p8 p9 p10 p11 p12 p13 p14 p15 p16 p17 h0 n0 _ T44.heap _
    rw [e44q]
    exact ⟨rfl, N44, K48⟩
theorem rm16_6 (hw : OW Z a0) (a1 a2 : Addr) (w3 : ClassId) (a4 a5 a6 a9 a12 a13 : Addr) (w14 w15 : ClassId) (p16 p17 p18 p19 p20 p21 p22 p23 p24 p25 p26 p27 p28 p29 : Int32) (a36 a38 : Addr) (w39 : ClassId) (a42 a44 : Addr) (w45 : ClassId) (Z0 : n0 ≤ h0.size) (P1 : ab3 Z (vr a2)) (P2 : Old Z n0 h0) (P3 : ab11 Z Z.heap a2) (P4 : Arv Z Z.heap a2 w3 (.object "com/example/sinkwatch/sinkwatch/Flaw") (3 : Int32) [vr a4, vr a5, vr a6] .null) (P5 : ab9 Z Z.heap a4 (vr a9)) (P6 : ab10 Z Z.heap a9) (P7 : ab10 Z h0 a1) (P8 : ab7 Z Z.heap a9 (vi 0)) (P9 : ab7 Z h0 a1 (vi 0)) (P10 : ab8 Z Z.heap a9 (vr a12)) (P11 : ab8 Z h0 a1 (vr a13)) (P12 : Arv Z Z.heap a12 w14 .byte (13 : Int32) bl3 (vi 0)) (P13 : Arv Z h0 a13 w15 .byte (13 : Int32) [vi p16, vi p17, vi p18, vi p19, vi p20, vi p21, vi p22, vi p23, vi p24, vi p25, vi p26, vi p27, vi p28] (vi 0)) (P14 : ab1 Z (vi p29)) (P15 : ¬ (p29 = (0 : Int32))) (P16 : n0 ≤ a1) (P17 : (va35 p16 p17 p18 p19 p20 p21 p22 p23 p24 p25 p26 p27 p28) = (0 : Int32)) (P18 : ab9 Z Z.heap a5 (vr a36)) (P19 : ab10 Z Z.heap a36) (P20 : ab7 Z Z.heap a36 (vi 0)) (P21 : ab8 Z Z.heap a36 (vr a38)) (P22 : Arv Z Z.heap a38 w39 .byte (14 : Int32) bl1 (vi 0)) (P23 : ab9 Z Z.heap a6 (vr a42)) (P24 : ab10 Z Z.heap a42) (P25 : ab7 Z Z.heap a42 (vi 0)) (P26 : ab8 Z Z.heap a42 (vr a44)) (P27 : Arv Z Z.heap a44 w45 .byte (13 : Int32) bl6 (vi 0)) (P28 : ¬ ((va37 p16 p17 p18 p19 p20 p21 p22 p23 p24 p25 p26 p27 p28) = (0 : Int32))) :
    M16 l Z ws (orm 2 1 3 28) #[vr a1] h0 (fun v h L => v = some (vr a6) ∧ Fr n0 L ∧ Keep h0 h []) := by
  refine own_enter (plainFor_of_name pn_5) (L0 := (L_ruuuu a1)) ?_
  intro p e s m below meth c s₁ hx hby hml hown hnm hret hZ X0 e0
  have N0 := Fr.nil n0
  obtain ⟨T7, L7, _, X7, ⟨b8, rfl, N7q, K7, qa7_0, qb7_0, f7_0, f7_1⟩, st7⟩ := own_callS X0 hx hZ hown (cw_10 hw) (rm17_1 hw a2 w3 a4 a5 a6 Z0 P1 P2 P3 P4) e0 (Ls := (L_ruuuu a1)) hml [] [] pd_14 0 (hb hby d16_0)
  have N7 := Fr.app N0 N7q
  have qd7_0 := Nat.le_trans (Nat.le_refl h0.size) qb7_0
  have F10 := (P2.keep K7 all0)
  obtain ⟨T11, X11, e11, st11⟩ := getF X7 hx hZ hown (host := "") (Or.inl (tw_95 hw)) Via.refl rfl (Fld.ext F10.2 P5) (g := (mkF m 21 (L_rriir a1 b8 3 0 a4) [vr a4])) rfl rfl (hb hby d16_21)
  have n30 := Old.ne P2 P6.lt P16
  have F31 := (Exa.keep P7 K7)
  have F32 := (Fld.keep P9 K7 nin0)
  have F33 := (Fld.keep P11 K7 nin0)
  have F34 := (Arv.keep P13 K7 nin0)
  obtain ⟨T35, L35, _, X35, ⟨rfl, N35q, e35q⟩, st35⟩ := own_callV X11 hx hZ hown (tw_97 hw) (tw_98 hw) (notFace_of_selects (args := #[]) (mvT hZ (tw_100 hw))) (tw_100 hw) (tw_99 hw) (tw_2 hw) (tw_101 hw) (own_eq18 hw a9 a1 a12 a13 w14 w15 bl4 ([p16, p17, p18, p19, p20, p21, p22, p23, p24, p25, p26, p27, p28]) p29 (va35 p16 p17 p18 p19 p20 p21 p22 p23 p24 p25 p26 p27 p28) (Nat.le_trans Z0 K7.1) n30 F31 P14 F10 P15 (Fld.ext F10.2 P8) F32 (Fld.ext F10.2 P10) F33 (P12.ext F10.2) F34) e11 (Exa.ext F10.2 P6) (Ls := (L_rriir a1 b8 3 0 a4)) hml [vr a1] [] pd_16 0 (hb hby d16_25)
  have N35 := Fr.app N7 N35q
  obtain ⟨T37, X37, e37, st37⟩ := getF X35 hx hZ hown (host := "") (Or.inl (tw_95 hw)) Via.refl e35q (Fld.ext F10.2 P18) (g := (mkF m 21 (L_rriir a1 b8 3 1 a5) [vr a5])) rfl rfl (hb hby d16_21)
  have n40 := Old.ne P2 P19.lt P16
  obtain ⟨T41, L41, _, X41, ⟨rfl, N41q, e41q⟩, st41⟩ := own_callV X37 hx hZ hown (tw_97 hw) (tw_98 hw) (notFace_of_selects (args := #[]) (mvT hZ (tw_100 hw))) (tw_100 hw) (tw_99 hw) (tw_2 hw) (tw_101 hw) (own_eq18 hw a36 a1 a38 a13 w39 w15 bl5 ([p16, p17, p18, p19, p20, p21, p22, p23, p24, p25, p26, p27, p28]) p29 0 (Nat.le_trans Z0 K7.1) n40 F31 P14 F10 P15 (Fld.ext F10.2 P20) F32 (Fld.ext F10.2 P21) F33 (P22.ext F10.2) F34) e37 (Exa.ext F10.2 P19) (Ls := (L_rriir a1 b8 3 1 a5)) hml [vr a1] [] pd_16 0 (hb hby d16_25)
  have N41 := Fr.app N35 N41q
  obtain ⟨T43, X43, e43, st43⟩ := getF X41 hx hZ hown (host := "") (Or.inl (tw_95 hw)) Via.refl e41q (Fld.ext F10.2 P23) (g := (mkF m 21 (L_rriir a1 b8 3 2 a6) [vr a6])) rfl rfl (hb hby d16_21)
  have n46 := Old.ne P2 P24.lt P16
  obtain ⟨T47, L47, _, X47, ⟨rfl, N47q, e47q⟩, st47⟩ := own_callV X43 hx hZ hown (tw_97 hw) (tw_98 hw) (notFace_of_selects (args := #[]) (mvT hZ (tw_100 hw))) (tw_100 hw) (tw_99 hw) (tw_2 hw) (tw_101 hw) (own_eq18 hw a42 a1 a44 a13 w45 w15 bl7 ([p16, p17, p18, p19, p20, p21, p22, p23, p24, p25, p26, p27, p28]) p29 (va37 p16 p17 p18 p19 p20 p21 p22 p23 p24 p25 p26 p27 p28) (Nat.le_trans Z0 K7.1) n46 F31 P14 F10 P15 (Fld.ext F10.2 P25) F32 (Fld.ext F10.2 P26) F33 (P27.ext F10.2) F34) e43 (Exa.ext F10.2 P24) (Ls := (L_rriir a1 b8 3 2 a6)) hml [vr a1] [] pd_16 0 (hb hby d16_25)
  have N47 := Fr.app N41 N47q
  have K48 := (Keep.refl h0 []).trans K7 all0
  refine ⟨T47, _, _, _, _, some (vr a6), X47, e47q, by decide, by decide, nofun, ⟨rfl, N47, K48⟩, fun fs hr => ?_⟩
  show OS p e below s₁ m 0 (L_ruuuu a1) [] _
  refine st7 _ ?_
  refine own_a X7 hx hZ rfl hby tb16 (aec f7_1 aen) 11 [false] [0] 16 (L_rriiu a1 b8 3 0) [vi 0, vr b8] (ai rfl (ai (by decide) rfl)) ?_
  refine own_aaload X7 hx hZ rfl f7_1 rfl (by decide) rfl (hb hby d16_16) _ ?_
  refine own_b X7 hx hby tb16 2 [] 21 (L_rriir a1 b8 3 0 a4) [vr a4] rfl ?_
  refine st11 _ ?_
  refine own_b X11 hx hby tb16 1 [] 25 _ [vr a1, vr a9] rfl ?_
  refine st35 _ ?_
  refine own_b X35 hx hby tb16 8 [true, false] 16 (L_rriir a1 b8 3 1 a4) [vi 1, vr b8] (ai (teq P17).1 (ai (by decide) rfl)) ?_
  refine own_aaload X35 hx hZ e35q f7_1 rfl (by decide) rfl (hb hby d16_16) _ ?_
  refine own_b X35 hx hby tb16 2 [] 21 (L_rriir a1 b8 3 1 a5) [vr a5] rfl ?_
  refine st37 _ ?_
  refine own_b X37 hx hby tb16 1 [] 25 _ [vr a1, vr a36] rfl ?_
  refine st41 _ ?_
  refine own_b X41 hx hby tb16 8 [true, false] 16 (L_rriir a1 b8 3 2 a5) [vi 2, vr b8] (ai (by decide) (ai (by decide) rfl)) ?_
  refine own_aaload X41 hx hZ e41q f7_1 rfl (by decide) rfl (hb hby d16_16) _ ?_
  refine own_b X41 hx hby tb16 2 [] 21 (L_rriir a1 b8 3 2 a6) [vr a6] rfl ?_
  refine st43 _ ?_
  refine own_b X43 hx hby tb16 1 [] 25 _ [vr a1, vr a42] rfl ?_
  refine st47 _ ?_
  refine own_b X47 hx hby tb16 2 [false] 33 _ [vr a6] (ai (feq P28).1 rfl) ?_
  exact own_retA X47 hx hret rfl (hb hby d16_33) hr
theorem ef20_6 (m : MethodId) (a1 a3 : Addr) (w4 : ClassId) (p5 p6 p7 p8 p9 p10 p11 p12 p13 p14 p15 p16 p17 p18 : Int32) (a47 : Addr) : entryFrame m #[vr a1] 1 = mkF m 0 #[sr a1] [] := by first | rfl | (simp [entryFrame, mkF, argsToLocals, Value.category]; done)
def Q20_6 (Z : State) (a1 a3 : Addr) (w4 : ClassId) (p5 p6 p7 p8 p9 p10 p11 p12 p13 p14 p15 p16 p17 p18 : Int32) (a47 : Addr) (h0 : Heap) (n0 : Nat) (v : Option Value) (h : Heap) (L : List Loc) : Prop := v = some (vr a47) ∧ Fr n0 L ∧ Keep h0 h []
theorem rm20_6 (hw : OW Z a0) (a1 a3 : Addr) (w4 : ClassId) (p5 p6 p7 p8 p9 p10 p11 p12 p13 p14 p15 p16 p17 p18 : Int32) (a47 : Addr) (Z0 : n0 ≤ h0.size) (P1 : ab10 Z h0 a1) (P2 : ab7 Z h0 a1 (vi 0)) (P3 : ab8 Z h0 a1 (vr a3)) (P4 : Arv Z h0 a3 w4 .byte (13 : Int32) [vi p5, vi p6, vi p7, vi p8, vi p9, vi p10, vi p11, vi p12, vi p13, vi p14, vi p15, vi p16, vi p17] (vi 0)) (P5 : ab1 Z (vi p18)) (P6 : ¬ (p18 = (0 : Int32))) (P7 : Old Z n0 h0) (P8 : (va39 p5 p6 p7 p8 p9 p10 p11 p12 p13 p14 p15 p16 p17) = (0 : Int32)) (P9 : ¬ ((va41 p5 p6 p7 p8 p9 p10 p11 p12 p13 p14 p15 p16 p17) = (0 : Int32))) (P10 : ab5 Z (vr a47)) :
    MetFree l y18 (head1 (Jvm.Cond.code y18 method_4_code 1 (some (.object "com/example/sinkwatch/sinkwatch/Flaw")) :: ws) (orm 2 6 172 28)) (fun a U => a = #[vr a1] ∧ Z.Warmed39 U.vm ∧ U.heap = h0 ∧ CHv Z consts_1 U.vm h0 ∧ ∀ x ∈ ([a1] : List Addr), Safe Z consts_1 U.vm h0 x) (fun _ _ _ _ _ => True) (fun _ U o U' => ∃ v L, o = .returned v ∧ Q20_6 Z a1 a3 w4 p5 p6 p7 p8 p9 p10 p11 p12 p13 p14 p15 p16 p17 p18 a47 h0 n0 v U'.heap L ∧ ReturnedEndW U o U' L (orm 2 6 172 28).cells (orm 2 6 172 28).slots) := by
  refine MetFree.of_bodySF (plainFor_of_name pn_3) hisR ?_
  intro p e s m args below meth c s₁ Bd hml0 hP hK
  obtain ⟨rfl, hZ, hh, hH, hSf⟩ := hP
  have hx := Bd.exec
  have hby := Bd.bytes
  have hml : c.maxLocals = 1 := hml0
  have hown : s.vm.findClass "com/example/sinkwatch/sinkwatch/FlawNamedPinLaw" = some m.cls := findClass_of_methodNamed Bd.named
  have hnm := (name_of_methodNamed Bd.named Bd.method).1
  have hret := Bd.returns
  have X0 : Stand p l e (orm 2 6 172 28) s m #[vr a1] below meth c s₁ [] 0 0 := Stand.of_body Bd
  have e0 : s₁.heap = h0 := by rw [← hh, Bd.state]; rfl
  have N0 := Fr.nil n0
  have pre0 : ∀ t, Steps p.tables e below (s₁.setTop (mkF m 0 #[sr a1] [])) t → Steps p.tables e below (s₁.setTop (entryFrame m #[vr a1] 1)) t := fun t k => castTop (ef20_6 m a1 a3 w4 p5 p6 p7 p8 p9 p10 p11 p12 p13 p14 p15 p16 p17 p18 a47) k
  obtain ⟨b2a, T2, h2, k2, b2b, kl2, X2, e2, E2, hS2, hk2, hZ2, hown2, fa2, fb2, fc2, fd2, -, -, CH2, LT2, LN2, st2⟩ := ldcCH (s := s) (vm0 := s.vm) (show Stand _ _ _ _ (s.setVm s.vm) _ _ _ _ _ _ _ _ _ from X0) hx hZ hown (tw_1 hw) (own_wS hw) e0 (State.WarmedH.since (State.WarmedH.refl s) 0) (Nat.zero_le _) (own_EW hw) (List.mem_of_getElem? (i := 0) rfl) hH (vs := [(vi 115), (vi 113), (vi 108), (vi 45), (vi 105), (vi 110), (vi 106), (vi 101), (vi 99), (vi 116), (vi 105), (vi 111), (vi 110)]) (z := (13 : Int32)) (by decide +kernel) (by decide) (by decide) (g := (mkF m 1 #[sr a1] [vr a1])) rfl (hb hby d20_1) (n := 52) (by decide) (by decide) (by decide) (by decide)
  have F19 := (CHr.safe CH2 P1.lt (hSf _ (List.mem_of_getElem? (i := 0) rfl)))
  have F20 := (LN2 _ F19).1
  have F21 := (P7.ext E2)
  have F22 := (Fld.ext E2 P2)
  have F23 := (Fld.ext E2 P3)
  have F24 := (P4.ext E2)
  have F26 := (Exa.ext E2 P1)
  obtain ⟨T25, L25, _, X25, ⟨rfl, N25q, e25q⟩, st25⟩ := own_callV X2 hx hZ2 hown2 (tw_109 hw) (tw_98 hw) (notFace_of_selects (args := #[]) (mvT hZ2 (tw_100 hw))) (tw_100 hw) (tw_99 hw) (tw_2 hw) (tw_101 hw) (own_eq18 hw a1 b2a a3 b2b w4 kl2 ([p5, p6, p7, p8, p9, p10, p11, p12, p13, p14, p15, p16, p17]) bl4 p18 (va39 p5 p6 p7 p8 p9 p10 p11 p12 p13 p14 p15 p16 p17) (lx Z0 E2) F20 fa2 P5 F21 P6 F22 fb2 F23 fc2 F24 fd2) e2 F26 (Ls := #[sr a1]) hml [vr b2a] [] pd_16 0 (hb hby d20_3)
  have N25 := Fr.app N0 N25q
  have F27 := CH2.1
  obtain ⟨b28a, T28, h28, k28, b28b, kl28, X28, e28, E28, hS28, hk28, hZ28, hown28, fa28, fb28, fc28, fd28, -, -, CH28, LT28, LN28, st28⟩ := ldcCH (s := s) (vm0 := T2.vm) X25 hx hZ2 hown2 (tw_110 hw) (own_wS hw) e25q hS2 hk2 (own_EW hw) (List.mem_of_getElem? (i := 1) rfl) F27 (vs := [(vi 112), (vi 97), (vi 116), (vi 104), (vi 45), (vi 116), (vi 114), (vi 97), (vi 118), (vi 101), (vi 114), (vi 115), (vi 97), (vi 108)]) (z := (14 : Int32)) (by decide +kernel) (by decide) (by decide) (g := (mkF m 14 #[sr a1] [vr a1])) rfl (hb hby d20_14) (n := 56) (by decide) (by decide) (by decide) (by decide)
  have F29 := (CHr.safe CH28 F22.lt F19)
  have F30 := (LN28 _ F29).1
  have F31 := (F21.ext E28)
  have F32 := (Fld.ext E28 F22)
  have F33 := (Fld.ext E28 F23)
  have F34 := (F24.ext E28)
  have F36 := (Exa.ext E28 F26)
  obtain ⟨T35, L35, _, X35, ⟨rfl, N35q, e35q⟩, st35⟩ := own_callV X28 hx hZ28 hown28 (tw_109 hw) (tw_98 hw) (notFace_of_selects (args := #[]) (mvT hZ28 (tw_100 hw))) (tw_100 hw) (tw_99 hw) (tw_2 hw) (tw_101 hw) (own_eq18 hw a1 b28a a3 b28b w4 kl28 ([p5, p6, p7, p8, p9, p10, p11, p12, p13, p14, p15, p16, p17]) bl5 p18 0 (lx (lx Z0 E2) E28) F30 fa28 P5 F31 P6 F32 fb28 F33 fc28 F34 fd28) e28 F36 (Ls := #[sr a1]) hml [vr b28a] [] pd_16 0 (hb hby d20_16)
  have N35 := Fr.app N25 N35q
  have F37 := CH28.1
  obtain ⟨b38a, T38, h38, k38, b38b, kl38, X38, e38, E38, hS38, hk38, hZ38, hown38, fa38, fb38, fc38, fd38, -, -, CH38, LT38, LN38, st38⟩ := ldcCH (s := s) (vm0 := T28.vm) X35 hx hZ28 hown28 (tw_111 hw) (own_wS hw) e35q hS28 hk28 (own_EW hw) (List.mem_of_getElem? (i := 2) rfl) F37 (vs := [(vi 111), (vi 112), (vi 101), (vi 110), (vi 45), (vi 114), (vi 101), (vi 100), (vi 105), (vi 114), (vi 101), (vi 99), (vi 116)]) (z := (13 : Int32)) (by decide +kernel) (by decide) (by decide) (g := (mkF m 27 #[sr a1] [vr a1])) rfl (hb hby d20_27) (n := 52) (by decide) (by decide) (by decide) (by decide)
  have F39 := (CHr.safe CH38 F32.lt F29)
  have F40 := (LN38 _ F39).1
  have F41 := (F31.ext E38)
  have F42 := (Fld.ext E38 F32)
  have F43 := (Fld.ext E38 F33)
  have F44 := (F34.ext E38)
  have F46 := (Exa.ext E38 F36)
  obtain ⟨T45, L45, _, X45, ⟨rfl, N45q, e45q⟩, st45⟩ := own_callV X38 hx hZ38 hown38 (tw_109 hw) (tw_98 hw) (notFace_of_selects (args := #[]) (mvT hZ38 (tw_100 hw))) (tw_100 hw) (tw_99 hw) (tw_2 hw) (tw_101 hw) (own_eq18 hw a1 b38a a3 b38b w4 kl38 ([p5, p6, p7, p8, p9, p10, p11, p12, p13, p14, p15, p16, p17]) bl7 p18 (va41 p5 p6 p7 p8 p9 p10 p11 p12 p13 p14 p15 p16 p17) (lx (lx (lx Z0 E2) E28) E38) F40 fa38 P5 F41 P6 F42 fb38 F43 fc38 F44 fd38) e38 F46 (Ls := #[sr a1]) hml [vr b38a] [] pd_16 0 (hb hby d20_29)
  have N45 := Fr.app N35 N45q
  obtain ⟨T48, X48, e48, st48⟩ := getS2 X45 hx hZ38 hown38 (host := "") (Or.inl (tw_114 hw)) Via.refl e45q (Sta.ext F41.2 P10) (g := (mkF m 35 #[sr a1] [])) rfl (hb hby d20_35)
  have K49 := (Keep.refl h0 []).ext E2
  have K50 := K49.ext E28
  have K51 := K50.ext E38
  obtain ⟨fs, hr, hrun, hended, hRE⟩ := X48.leaveW hS38 (by rw [e48]; exact hk38) (v := some (vr a47)) (fun h => by rw [hret] at h; cases h)
  refine ⟨_, _, pre0 _ ?_, hrun, hended, _, _, rfl, ?_, hRE.1, hRE.2.1, hRE.2.2.1, hRE.2.2.2.mono (by decide) (by decide)⟩
  · refine own_b X0 hx hby tb20 1 [] 1 _ [vr a1] rfl ?_
    refine st2 _ ?_
    refine st25 _ ?_
    refine own_b X25 hx hby tb20 2 [true] 14 _ [vr a1] (ai (teq P8).1 rfl) ?_
    refine st28 _ ?_
    refine st35 _ ?_
    refine own_b X35 hx hby tb20 2 [true] 27 _ [vr a1] (ai (by decide) rfl) ?_
    refine st38 _ ?_
    refine st45 _ ?_
    refine own_b X45 hx hby tb20 1 [false] 35 _ [] (ai (feq P9).1 rfl) ?_
    refine st48 _ ?_
    exact own_retA X48 hx hret rfl (hb hby d20_38) hr
  · show Q20_6 Z a1 a3 w4 p5 p6 p7 p8 p9 p10 p11 p12 p13 p14 p15 p16 p17 p18 a47 h0 n0 _ T48.heap _
    rw [e48]
    exact ⟨rfl, N45, K51⟩
theorem rm1_3 (hw : OW Z a0) (a1 a2 : Addr) (w4 : ClassId) (p5 : Int32) (Z0 : n0 ≤ h0.size) (P1 : ab8 Z h0 a1 (vr a2)) (P2 : Arv Z h0 a2 w4 .byte (13 : Int32) bl3 (vi 0)) (P3 : ab10 Z h0 a1) (P4 : ab1 Z (vi p5)) (P5 : Old Z n0 h0) (P6 : ¬ (p5 = (0 : Int32))) (P7 : ab7 Z h0 a1 (vi 0)) :
    M1 l Z ws (orm 1 0 0 13) #[vr a1] h0 (QI n0 h0 (vi 13)) := by
  refine own_enter (plainFor_of_name pn_0) (L0 := #[sr a1]) ?_
  intro p e s m below meth c s₁ hx hby hml hown hnm hret hZ X0 e0
  have N0 := Fr.nil n0
  obtain ⟨T3, X3, e3, st3⟩ := getF X0 hx hZ hown (host := "") (Or.inl (tw_14 hw)) Via.refl e0 P1 (g := (mkF m 1 #[sr a1] [vr a1])) rfl rfl (hb hby d1_1)
  obtain ⟨T6, L6, _, X6, ⟨rfl, N6q, e6q⟩, st6⟩ := own_callV X3 hx hZ hown (tw_15 hw) (tw_16 hw) (notFace_of_selects (args := #[]) (mvT hZ (tw_18 hw))) (tw_18 hw) (tw_17 hw) (tw_2 hw) (tw_19 hw) (rm2_1 hw a1 p5 Z0 P4 P5 P6 P7) e3 P3 (Ls := #[sr a1]) hml [] [vi 13] pd_0 1 (hb hby d1_6)
  have N6 := Fr.app N0 N6q
  refine ⟨T6, _, _, _, _, some (vi 13), X6, e6q, by decide, by decide, nofun, ⟨rfl, N6, rfl⟩, fun fs hr => ?_⟩
  refine own_b X0 hx hby tb1 1 [] 1 _ [vr a1] rfl ?_
  refine st3 _ ?_
  refine own_a X3 hx hZ e3 hby tb1 (aec P2 aen) 2 [] [0] 6 _ [vr a1, vi 13] (ai rfl rfl) ?_
  refine st6 _ ?_
  refine own_b X6 hx hby tb1 1 [] 10 _ [vi 13] rfl ?_
  exact retI X6 hx hret (hb hby d1_10) hr
theorem rm16_7 (hw : OW Z a0) (a1 a2 : Addr) (w3 : ClassId) (a4 a5 a6 a9 a12 a13 : Addr) (w14 w15 : ClassId) (p16 p17 p18 p19 p20 p21 p22 p23 p24 p25 p26 p27 p28 p29 : Int32) (Z0 : n0 ≤ h0.size) (P1 : ab3 Z (vr a2)) (P2 : Old Z n0 h0) (P3 : ab11 Z Z.heap a2) (P4 : Arv Z Z.heap a2 w3 (.object "com/example/sinkwatch/sinkwatch/Flaw") (3 : Int32) [vr a4, vr a5, vr a6] .null) (P5 : ab9 Z Z.heap a4 (vr a9)) (P6 : ab10 Z Z.heap a9) (P7 : ab10 Z h0 a1) (P8 : ab7 Z Z.heap a9 (vi 0)) (P9 : ab7 Z h0 a1 (vi 0)) (P10 : ab8 Z Z.heap a9 (vr a12)) (P11 : ab8 Z h0 a1 (vr a13)) (P12 : Arv Z Z.heap a12 w14 .byte (13 : Int32) bl3 (vi 0)) (P13 : Arv Z h0 a13 w15 .byte (13 : Int32) [vi p16, vi p17, vi p18, vi p19, vi p20, vi p21, vi p22, vi p23, vi p24, vi p25, vi p26, vi p27, vi p28] (vi 0)) (P14 : ab1 Z (vi p29)) (P15 : ¬ (p29 = (0 : Int32))) (P16 : n0 ≤ a1) (P17 : ¬ ((va35 p16 p17 p18 p19 p20 p21 p22 p23 p24 p25 p26 p27 p28) = (0 : Int32))) :
    M16 l Z ws (orm 2 1 3 28) #[vr a1] h0 (fun v h L => v = some (vr a4) ∧ Fr n0 L ∧ Keep h0 h []) := by
  refine own_enter (plainFor_of_name pn_5) (L0 := (L_ruuuu a1)) ?_
  intro p e s m below meth c s₁ hx hby hml hown hnm hret hZ X0 e0
  have N0 := Fr.nil n0
  obtain ⟨T7, L7, _, X7, ⟨b8, rfl, N7q, K7, qa7_0, qb7_0, f7_0, f7_1⟩, st7⟩ := own_callS X0 hx hZ hown (cw_10 hw) (rm17_1 hw a2 w3 a4 a5 a6 Z0 P1 P2 P3 P4) e0 (Ls := (L_ruuuu a1)) hml [] [] pd_14 0 (hb hby d16_0)
  have N7 := Fr.app N0 N7q
  have qd7_0 := Nat.le_trans (Nat.le_refl h0.size) qb7_0
  have F10 := (P2.keep K7 all0)
  obtain ⟨T11, X11, e11, st11⟩ := getF X7 hx hZ hown (host := "") (Or.inl (tw_95 hw)) Via.refl rfl (Fld.ext F10.2 P5) (g := (mkF m 21 (L_rriir a1 b8 3 0 a4) [vr a4])) rfl rfl (hb hby d16_21)
  have n30 := Old.ne P2 P6.lt P16
  have F31 := (Exa.keep P7 K7)
  have F32 := (Fld.keep P9 K7 nin0)
  have F33 := (Fld.keep P11 K7 nin0)
  have F34 := (Arv.keep P13 K7 nin0)
  obtain ⟨T35, L35, _, X35, ⟨rfl, N35q, e35q⟩, st35⟩ := own_callV X11 hx hZ hown (tw_97 hw) (tw_98 hw) (notFace_of_selects (args := #[]) (mvT hZ (tw_100 hw))) (tw_100 hw) (tw_99 hw) (tw_2 hw) (tw_101 hw) (own_eq18 hw a9 a1 a12 a13 w14 w15 bl4 ([p16, p17, p18, p19, p20, p21, p22, p23, p24, p25, p26, p27, p28]) p29 (va35 p16 p17 p18 p19 p20 p21 p22 p23 p24 p25 p26 p27 p28) (Nat.le_trans Z0 K7.1) n30 F31 P14 F10 P15 (Fld.ext F10.2 P8) F32 (Fld.ext F10.2 P10) F33 (P12.ext F10.2) F34) e11 (Exa.ext F10.2 P6) (Ls := (L_rriir a1 b8 3 0 a4)) hml [vr a1] [] pd_16 0 (hb hby d16_25)
  have N35 := Fr.app N7 N35q
  have K36 := (Keep.refl h0 []).trans K7 all0
  refine ⟨T35, _, _, _, _, some (vr a4), X35, e35q, by decide, by decide, nofun, ⟨rfl, N35, K36⟩, fun fs hr => ?_⟩
  show OS p e below s₁ m 0 (L_ruuuu a1) [] _
  refine st7 _ ?_
  refine own_a X7 hx hZ rfl hby tb16 (aec f7_1 aen) 11 [false] [0] 16 (L_rriiu a1 b8 3 0) [vi 0, vr b8] (ai rfl (ai (by decide) rfl)) ?_
  refine own_aaload X7 hx hZ rfl f7_1 rfl (by decide) rfl (hb hby d16_16) _ ?_
  refine own_b X7 hx hby tb16 2 [] 21 (L_rriir a1 b8 3 0 a4) [vr a4] rfl ?_
  refine st11 _ ?_
  refine own_b X11 hx hby tb16 1 [] 25 _ [vr a1, vr a9] rfl ?_
  refine st35 _ ?_
  refine own_b X35 hx hby tb16 2 [false] 33 _ [vr a4] (ai (feq P17).1 rfl) ?_
  exact own_retA X35 hx hret rfl (hb hby d16_33) hr
theorem ef20_7 (m : MethodId) (a1 a3 : Addr) (w4 : ClassId) (p5 p6 p7 p8 p9 p10 p11 p12 p13 p14 p15 p16 p17 p18 : Int32) (a27 : Addr) : entryFrame m #[vr a1] 1 = mkF m 0 #[sr a1] [] := by first | rfl | (simp [entryFrame, mkF, argsToLocals, Value.category]; done)
def Q20_7 (Z : State) (a1 a3 : Addr) (w4 : ClassId) (p5 p6 p7 p8 p9 p10 p11 p12 p13 p14 p15 p16 p17 p18 : Int32) (a27 : Addr) (h0 : Heap) (n0 : Nat) (v : Option Value) (h : Heap) (L : List Loc) : Prop := v = some (vr a27) ∧ Fr n0 L ∧ Keep h0 h []
theorem rm20_7 (hw : OW Z a0) (a1 a3 : Addr) (w4 : ClassId) (p5 p6 p7 p8 p9 p10 p11 p12 p13 p14 p15 p16 p17 p18 : Int32) (a27 : Addr) (Z0 : n0 ≤ h0.size) (P1 : ab10 Z h0 a1) (P2 : ab7 Z h0 a1 (vi 0)) (P3 : ab8 Z h0 a1 (vr a3)) (P4 : Arv Z h0 a3 w4 .byte (13 : Int32) [vi p5, vi p6, vi p7, vi p8, vi p9, vi p10, vi p11, vi p12, vi p13, vi p14, vi p15, vi p16, vi p17] (vi 0)) (P5 : ab1 Z (vi p18)) (P6 : ¬ (p18 = (0 : Int32))) (P7 : Old Z n0 h0) (P8 : ¬ ((va39 p5 p6 p7 p8 p9 p10 p11 p12 p13 p14 p15 p16 p17) = (0 : Int32))) (P9 : ab6 Z (vr a27)) :
    MetFree l y18 (head1 (Jvm.Cond.code y18 method_4_code 1 (some (.object "com/example/sinkwatch/sinkwatch/Flaw")) :: ws) (orm 2 2 56 28)) (fun a U => a = #[vr a1] ∧ Z.Warmed39 U.vm ∧ U.heap = h0 ∧ CHv Z consts_1 U.vm h0 ∧ ∀ x ∈ ([a1] : List Addr), Safe Z consts_1 U.vm h0 x) (fun _ _ _ _ _ => True) (fun _ U o U' => ∃ v L, o = .returned v ∧ Q20_7 Z a1 a3 w4 p5 p6 p7 p8 p9 p10 p11 p12 p13 p14 p15 p16 p17 p18 a27 h0 n0 v U'.heap L ∧ ReturnedEndW U o U' L (orm 2 2 56 28).cells (orm 2 2 56 28).slots) := by
  refine MetFree.of_bodySF (plainFor_of_name pn_3) hisR ?_
  intro p e s m args below meth c s₁ Bd hml0 hP hK
  obtain ⟨rfl, hZ, hh, hH, hSf⟩ := hP
  have hx := Bd.exec
  have hby := Bd.bytes
  have hml : c.maxLocals = 1 := hml0
  have hown : s.vm.findClass "com/example/sinkwatch/sinkwatch/FlawNamedPinLaw" = some m.cls := findClass_of_methodNamed Bd.named
  have hnm := (name_of_methodNamed Bd.named Bd.method).1
  have hret := Bd.returns
  have X0 : Stand p l e (orm 2 2 56 28) s m #[vr a1] below meth c s₁ [] 0 0 := Stand.of_body Bd
  have e0 : s₁.heap = h0 := by rw [← hh, Bd.state]; rfl
  have N0 := Fr.nil n0
  have pre0 : ∀ t, Steps p.tables e below (s₁.setTop (mkF m 0 #[sr a1] [])) t → Steps p.tables e below (s₁.setTop (entryFrame m #[vr a1] 1)) t := fun t k => castTop (ef20_7 m a1 a3 w4 p5 p6 p7 p8 p9 p10 p11 p12 p13 p14 p15 p16 p17 p18 a27) k
  obtain ⟨b2a, T2, h2, k2, b2b, kl2, X2, e2, E2, hS2, hk2, hZ2, hown2, fa2, fb2, fc2, fd2, -, -, CH2, LT2, LN2, st2⟩ := ldcCH (s := s) (vm0 := s.vm) (show Stand _ _ _ _ (s.setVm s.vm) _ _ _ _ _ _ _ _ _ from X0) hx hZ hown (tw_1 hw) (own_wS hw) e0 (State.WarmedH.since (State.WarmedH.refl s) 0) (Nat.zero_le _) (own_EW hw) (List.mem_of_getElem? (i := 0) rfl) hH (vs := [(vi 115), (vi 113), (vi 108), (vi 45), (vi 105), (vi 110), (vi 106), (vi 101), (vi 99), (vi 116), (vi 105), (vi 111), (vi 110)]) (z := (13 : Int32)) (by decide +kernel) (by decide) (by decide) (g := (mkF m 1 #[sr a1] [vr a1])) rfl (hb hby d20_1) (n := 52) (by decide) (by decide) (by decide) (by decide)
  have F19 := (CHr.safe CH2 P1.lt (hSf _ (List.mem_of_getElem? (i := 0) rfl)))
  have F20 := (LN2 _ F19).1
  have F21 := (P7.ext E2)
  have F22 := (Fld.ext E2 P2)
  have F23 := (Fld.ext E2 P3)
  have F24 := (P4.ext E2)
  have F26 := (Exa.ext E2 P1)
  obtain ⟨T25, L25, _, X25, ⟨rfl, N25q, e25q⟩, st25⟩ := own_callV X2 hx hZ2 hown2 (tw_109 hw) (tw_98 hw) (notFace_of_selects (args := #[]) (mvT hZ2 (tw_100 hw))) (tw_100 hw) (tw_99 hw) (tw_2 hw) (tw_101 hw) (own_eq18 hw a1 b2a a3 b2b w4 kl2 ([p5, p6, p7, p8, p9, p10, p11, p12, p13, p14, p15, p16, p17]) bl4 p18 (va39 p5 p6 p7 p8 p9 p10 p11 p12 p13 p14 p15 p16 p17) (lx Z0 E2) F20 fa2 P5 F21 P6 F22 fb2 F23 fc2 F24 fd2) e2 F26 (Ls := #[sr a1]) hml [vr b2a] [] pd_16 0 (hb hby d20_3)
  have N25 := Fr.app N0 N25q
  obtain ⟨T28, X28, e28, st28⟩ := getS2 X25 hx hZ2 hown2 (host := "") (Or.inl (tw_112 hw)) Via.refl e25q (Sta.ext F21.2 P9) (g := (mkF m 9 #[sr a1] [])) rfl (hb hby d20_9)
  have K29 := (Keep.refl h0 []).ext E2
  obtain ⟨fs, hr, hrun, hended, hRE⟩ := X28.leaveW hS2 (by rw [e28]; exact hk2) (v := some (vr a27)) (fun h => by rw [hret] at h; cases h)
  refine ⟨_, _, pre0 _ ?_, hrun, hended, _, _, rfl, ?_, hRE.1, hRE.2.1, hRE.2.2.1, hRE.2.2.2.mono (by decide) (by decide)⟩
  · refine own_b X0 hx hby tb20 1 [] 1 _ [vr a1] rfl ?_
    refine st2 _ ?_
    refine st25 _ ?_
    refine own_b X25 hx hby tb20 1 [false] 9 _ [] (ai (feq P8).1 rfl) ?_
    refine st28 _ ?_
    exact own_retA X28 hx hret rfl (hb hby d20_12) hr
  · show Q20_7 Z a1 a3 w4 p5 p6 p7 p8 p9 p10 p11 p12 p13 p14 p15 p16 p17 p18 a27 h0 n0 _ T28.heap _
    rw [e28]
    exact ⟨rfl, N25, K29⟩
def Q0 (h0 : Heap) (n0 : Nat) (v : Option Value) (h : Heap) (L : List Loc) : Prop := v = some (.int (1 : Int32)) ∧ Fr n0 L
abbrev MC (l : Launch) (Z : State) (ws : List Jvm.Cond) (h0 : Heap) (n0 : Nat) (p1 : Int32) (p2 : Int32) (p3 : Int32) (p4 : Int32) (p5 : Int32) : Prop := MetFree l x (head1 (Jvm.Cond.code x code maxLocals ret :: ws) room_1) (fun a U => a = #[(vi p1), (vi p2), (vi p3), (vi p4), (vi p5)] ∧ Z.Warmed39 U.vm ∧ U.heap = h0 ∧ CHv Z consts_1 U.vm h0) (fun _ _ _ _ _ => True) (fun _ U o U' => ∃ v L, o = .returned v ∧ Q0 h0 n0 v U'.heap L ∧ ReturnedEndW U o U' L 24 3264)
theorem ef0 (m : MethodId) (p1 : Int32) (p2 : Int32) (p3 : Int32) (p4 : Int32) (p5 : Int32) : entryFrame m #[(vi p1), (vi p2), (vi p3), (vi p4), (vi p5)] maxLocals = mkF m 0 #[si p1, si p2, si p3, si p4, si p5, .unset, .unset, .unset, .unset, .unset, .unset] [] := by first | (simp [entryFrame, mkF, argsToLocals, Value.category, maxLocals]; done) | rfl
theorem rm0_0 (hw : OW Z a0) (p1 : Int32) (p2 : Int32) (p3 : Int32) (p4 : Int32) (p5 : Int32) (s1 : Addr) (s2 : Addr) (s3 : Addr) (s4 : Addr) (s5 : Addr) (s6 : Addr) (s7 : Addr) (s8 : Addr) (s9 : Addr) (s10 : Addr) (p90 : Int32) (rv0 : Value) (ks_s1 : ClassId) (ks_s6 : ClassId) (ks_s8 : ClassId) (ks_s10 : ClassId) (Z0 : n0 ≤ h0.size) (Sp0 : ab1 Z (.int p90)) (Sp1 : Old Z n0 h0) (Sp2 : ab2 Z rv0) (Sp3 : rv0.isRef = true) (Sp4 : ab3 Z (.ref s1)) (Sp5 : ab11 Z Z.heap s1) (Sp6 : Arv Z Z.heap s1 ks_s1 (.object "com/example/sinkwatch/sinkwatch/Flaw") (3 : Int32) [(.ref s2), (.ref s3), (.ref s4)] .null) (Sp7 : ab9 Z Z.heap s2 (.ref s5)) (Sp8 : ab10 Z Z.heap s5) (Sp9 : ab7 Z Z.heap s5 (.int (0 : Int32))) (Sp10 : ab8 Z Z.heap s5 (.ref s6)) (Sp11 : Arv Z Z.heap s6 ks_s6 .byte (13 : Int32) bl3 (.int (0 : Int32))) (Sp12 : ab9 Z Z.heap s3 (.ref s7)) (Sp13 : ab10 Z Z.heap s7) (Sp14 : ab7 Z Z.heap s7 (.int (0 : Int32))) (Sp15 : ab8 Z Z.heap s7 (.ref s8)) (Sp16 : Arv Z Z.heap s8 ks_s8 .byte (14 : Int32) bl1 (.int (0 : Int32))) (Sp17 : ab9 Z Z.heap s4 (.ref s9)) (Sp18 : ab10 Z Z.heap s9) (Sp19 : ab7 Z Z.heap s9 (.int (0 : Int32))) (Sp20 : ab8 Z Z.heap s9 (.ref s10)) (Sp21 : Arv Z Z.heap s10 ks_s10 .byte (13 : Int32) bl6 (.int (0 : Int32))) (Sp22 : ab4 Z (.ref s3)) (Sp23 : ab5 Z (.ref s4)) (Sp24 : ab6 Z (.ref s2)) (Sp25 : ¬ (p90 = (0 : Int32))) (H1 : (va1 p1) = (1 : Int32)) (H2 : ¬ ((va1 p1) = (2 : Int32))) (H3 : ¬ (p90 = (0 : Int32))) (H4 : ¬ (((13 : Int32) + (va1 p4)) = (12 : Int32))) (H5 : ((13 : Int32) + (va1 p4)) = (13 : Int32)) (H6 : (va36 p5 p2 p3) = (0 : Int32)) (H7 : (va38 p5 p2 p3) = (0 : Int32)) (H8 : (va40 p5 p2 p3) = (0 : Int32)) (H9 : (va42 p5 p2 p3) = (0 : Int32)) :
    MC l Z ws h0 n0 p1 p2 p3 p4 p5 := by
  refine MetFree.of_bodySF (plainFor_of_name pn_3) hisR ?_
  intro p e s m args below meth c s₁ Bd hml0 hP hK
  obtain ⟨rfl, hZ, hh, hH⟩ := hP
  have hx := Bd.exec
  have hby := Bd.bytes
  have hml : c.maxLocals = 11 := hml0
  have hown : s.vm.findClass "com/example/sinkwatch/sinkwatch/FlawNamedPinLaw" = some m.cls := findClass_of_methodNamed Bd.named
  have hnm := (name_of_methodNamed Bd.named Bd.method).1
  have hret := Bd.returns
  have X0 : Stand p l e room_1 s m #[(vi p1), (vi p2), (vi p3), (vi p4), (vi p5)] below meth c s₁ [] 0 0 := Stand.of_body Bd
  have e0 : s₁.heap = h0 := by rw [← hh, Bd.state]; rfl
  have N0 := Fr.nil n0
  have pre0 : ∀ t, Steps p.tables e below (s₁.setTop (mkF m 0 #[si p1, si p2, si p3, si p4, si p5, .unset, .unset, .unset, .unset, .unset, .unset] [])) t → Steps p.tables e below (s₁.setTop (entryFrame m #[(vi p1), (vi p2), (vi p3), (vi p4), (vi p5)] maxLocals)) t := fun t k => castTop (ef0 m p1 p2 p3 p4 p5) k
  obtain ⟨b6a, T6, h6, k6, b6b, kl6, X6, e6, E6, hS6, hk6, hZ6, hown6, fa6, fb6, fc6, fd6, -, -, CH6, LT6, LN6, st6⟩ := ldcCH (s := s) (vm0 := s.vm) (show Stand _ _ _ _ (s.setVm s.vm) _ _ _ _ _ _ _ _ _ from X0) hx hZ hown (tw_1 hw) (own_wS hw) e0 (State.WarmedH.since (State.WarmedH.refl s) 0) (Nat.zero_le _) (own_EW hw) (List.mem_of_getElem? (i := 0) rfl) hH (vs := [(vi 115), (vi 113), (vi 108), (vi 45), (vi 105), (vi 110), (vi 106), (vi 101), (vi 99), (vi 116), (vi 105), (vi 111), (vi 110)]) (z := (13 : Int32)) (by decide +kernel) (by decide) (by decide) (g := (mkF m 8 (L_iiiiiiuuuuu p1 p2 p3 p4 p5 (va1 p1)) [])) rfl (hb hby at_8) (n := 52) (by decide) (by decide) (by decide) (by decide)
  have F7 := CH6.1
  obtain ⟨b8a, T8, h8, k8, b8b, kl8, X8, e8, E8, hS8, hk8, hZ8, hown8, fa8, fb8, fc8, fd8, -, -, CH8, LT8, LN8, st8⟩ := ldcCH (s := s) (vm0 := T6.vm) X6 hx hZ6 hown6 (tw_110 hw) (own_wS hw) e6 hS6 hk6 (own_EW hw) (List.mem_of_getElem? (i := 1) rfl) F7 (vs := [(vi 112), (vi 97), (vi 116), (vi 104), (vi 45), (vi 116), (vi 114), (vi 97), (vi 118), (vi 101), (vi 114), (vi 115), (vi 97), (vi 108)]) (z := (14 : Int32)) (by decide +kernel) (by decide) (by decide) (g := (mkF m 18 (L_iiiiiiruuuu p1 p2 p3 p4 p5 (va1 p1) b6a) [])) rfl (hb hby at_18) (n := 56) (by decide) (by decide) (by decide) (by decide)
  have F10 := ((Sp1.ext E6).ext E8)
  obtain ⟨T11, L11, _, X11, ⟨rfl, N11q, e11q⟩, st11⟩ := own_callV X8 hx hZ8 hown8 (tw_9 hw) (tw_10 hw) (notFace_of_selects (args := #[]) (mvT hZ8 (tw_12 hw))) (tw_12 hw) (tw_11 hw) (tw_2 hw) (tw_13 hw) (rm1_1 hw b8a b8b kl8 p90 (lx (lx Z0 E6) E8) fc8 fd8 fa8 Sp0 F10 H3 fb8) e8 fa8 (Ls := (L_iiiiiiriiuu p1 p2 p3 p4 p5 (va1 p1) b8a (va2 p5 p2) (va3 p3))) hml [] [] pd_1 0 (hb hby at_59)
  have N11 := Fr.app N0 N11q
  obtain ⟨T12, L12, _, X12, ⟨b13, b14, kk12_0, rfl, N12q, K12, qa12_0, qb12_0, qa12_1, qb12_1, qc12_0_1, f12_0, f12_1, f12_2, f12_3⟩, st12⟩ := own_callS X11 hx hZ8 hown8 (cw_9 hw) (rm3_1 hw b8a (va2 p5 p2) (va3 p3) ((13 : Int32) + (va1 p4)) b8b kl8 (14 : Int32) bl1 p90 rv0 (va5 p5 p2 p3) (va6 p5 p2 p3) (va7 p5 p2 p3) (va8 p5 p2 p3) (va9 p5 p2 p3) (va10 p5 p2 p3) (va11 p5 p2 p3) (va12 p5 p2 p3) (va13 p5 p2 p3) (va14 p5 p2 p3) (va15 p5 p2 p3) (va16 p5 p2 p3) (va17 p5 p2 p3) (va18 p5 p2 p3) (va19 p3) (lx (lx Z0 E6) E8) fc8 fd8 fb8 fa8 Sp0 Sp2 H3 (CVi 112) F10 Sp3 (CVi 97) (CVi 116) (CVi 104) (CVi 45) (CVi 116) (CVi 114) (CVi 97) (CVi 118) (CVi 101) (CVi 114) (CVi 115) (CVi 97) (CVi 108) CVo H4 H5 (x255 112) (x255 97) (x255 116) (x255 104) (x255 45) (x255 116) (x255 114) (x255 97) (x255 118) (x255 101) (x255 114) (x255 115) (x255 97)) e11q (Ls := (L_iiiiiiriiiu p1 p2 p3 p4 p5 (va1 p1) b8a (va2 p5 p2) (va3 p3) ((13 : Int32) + (va1 p4)))) hml [vr b8a, vi (va2 p5 p2), vi (va3 p3), vi ((13 : Int32) + (va1 p4))] [] pd_13 0 (hb hby at_81)
  have N12 := Fr.app N11 N12q
  have qd12_0 := Nat.le_trans (lx (lx (Nat.le_refl h0.size) E6) E8) qb12_0
  have qd12_1 := Nat.le_trans (lx (lx (Nat.le_refl h0.size) E6) E8) qb12_1
  have F15 := (F10.keep K12 all0)
  obtain ⟨T16, L16, _, X16, ⟨rfl, N16q, K16⟩, st16⟩ := own_callS X12 hx hZ8 hown8 (cw_12 hw) (rm16_1 hw b13 s1 ks_s1 s2 s3 s4 s5 s6 b14 ks_s6 kk12_0 (va22 p5 p2 p3) (va23 p5 p2 p3) (va24 p5 p2 p3) (va25 p5 p2 p3) (va26 p5 p2 p3) (va27 p5 p2 p3) (va28 p5 p2 p3) (va29 p5 p2 p3) (va30 p5 p2 p3) (va31 p5 p2 p3) (va32 p5 p2 p3) (va33 p5 p2 p3) (va34 p5 p2 p3) p90 s7 s8 ks_s8 s9 s10 ks_s10 (Nat.le_trans (lx (lx Z0 E6) E8) K12.1) Sp4 F15 Sp5 Sp6 Sp7 Sp8 f12_0 Sp9 f12_1 Sp10 f12_2 Sp11 f12_3 Sp0 H3 qa12_0 H6 Sp12 Sp13 Sp14 Sp15 Sp16 Sp17 Sp18 Sp19 Sp20 Sp21 H7) rfl (Ls := (L_iiiiiiriiir p1 p2 p3 p4 p5 (va1 p1) b8a (va2 p5 p2) (va3 p3) ((13 : Int32) + (va1 p4)) b13)) hml [vr b13] [] pd_17 0 (hb hby at_88)
  have N16 := Fr.app N12 N16q
  have F17 := (Exa.keep f12_0 K16)
  have F18 := (Fld.keep f12_1 K16 nin0)
  have F19 := (Fld.keep f12_2 K16 nin0)
  have F20 := (Arv.keep f12_3 K16 nin0)
  have F21 := (F15.keep K16 all0)
  have F23 := (Nat.le_trans (Nat.le_trans (lx (lx Z0 E6) E8) K12.1) K16.1)
  have F24 := CH8.1
  have F25 := (CHv.keep K12 all0 F24)
  have F26 := (CHv.keep K16 all0 F25)
  have F27 := (Safe.keep K12 all0 F24 (Safe.new qb12_0))
  have F28 := (Safe.keep K16 all0 F25 F27)
  obtain ⟨_, _, ⟨T22, L22, k22, n22⟩, -, Xq22, hSq22, gq22, ⟨Lc22, hQ22, l22, y22, z22⟩, st22⟩ := callSS X16 hx (y := y18) hown8 (mvT hZ8 (tw_106 hw)) (mvT hZ8 (tw_107 hw)) (mvT hZ8 (tw_24 hw)) (mvT hZ8 (tw_108 hw)) (by decide) (own_backH (s := s) (vm0 := T8.vm) (W := 1) (rm20_1 (ws := []) (h0 := T16.heap) hw b13 b14 kk12_0 (va22 p5 p2 p3) (va23 p5 p2 p3) (va24 p5 p2 p3) (va25 p5 p2 p3) (va26 p5 p2 p3) (va27 p5 p2 p3) (va28 p5 p2 p3) (va29 p5 p2 p3) (va30 p5 p2 p3) (va31 p5 p2 p3) (va32 p5 p2 p3) (va33 p5 p2 p3) (va34 p5 p2 p3) p90 F23 F17 F18 F19 F20 Sp0 H3 F21 H8 H9) hZ8 (tw_108 hw) (tw_24 hw) (by decide) (by decide) (own_EW hw) F26 (allS ⟨F17.lt, F28⟩ all0)) (g := (mkF m 93 (L_iiiiiiriiir p1 p2 p3 p4 p5 (va1 p1) b8a (va2 p5 p2) (va3 p3) ((13 : Int32) + (va1 p4)) b13) [vr b13, .null])) rfl (by rw [hml]; rfl) (argsL := [(vr b13)]) (rest := [.null]) (lenOf pd_17 rfl) rfl (by show 2 * 0 + _ ≤ _; exact Nat.le_of_eq rfl) (hb hby at_93) (fun _ _ => ⟨rfl, rfl, (by decide : 9 + 6 ≤ _), (by decide : 164 + 172 ≤ _)⟩)
  dsimp only [Pt.U, Pt.locs, Pt.cells, Pt.slots] at Xq22 l22 y22 z22 st22 hQ22
  subst l22 y22 z22
  obtain ⟨X22, hS22, hZ22, hown22⟩ := rebS (s := s) (vm0 := T8.vm) hS8 (n1 := T16.heap.size) (Nat.le_trans (Nat.le_trans hk8 K12.1) K16.1) Xq22 hSq22 gq22 hZ8 hown8
  obtain ⟨rfl, N22q, K22⟩ := hQ22
  have N22 := Fr.app N16 N22q
  obtain ⟨fs, hr, hrun, hended, hRE⟩ := X22.leaveW hS22 (Nat.le_refl _) (v := some (vi 1)) (fun h => by rw [hret] at h; cases h)
  refine ⟨_, _, pre0 _ ?_, hrun, hended, _, _, rfl, ?_, hRE.1, hRE.2.1, hRE.2.2.1, hRE.2.2.2.mono (by decide) (by decide)⟩
  · refine own_b X0 hx hby tb0 1 [] 1 _ [vi p1] rfl ?_
    refine X0.ldcInt hx hown (mvT hZ (tw_0 hw)) (g := (mkF m 1 (L_iiiiiuuuuuu p1 p2 p3 p4 p5) [vi p1])) rfl (hb hby at_1) _ ?_
    show OS p e below s₁ m 3 (L_iiiiiuuuuuu p1 p2 p3 p4 p5) [vi 2147483647, vi p1] _
    refine own_b X0 hx hby tb0 2 [] 5 _ [vi 3, vi (p1 &&& (2147483647 : Int32))] rfl ?_
    refine iremM X0 hx (g := (mkF m 5 (L_iiiiiuuuuuu p1 p2 p3 p4 p5) [vi 3, vi (p1 &&& (2147483647 : Int32))])) rfl (hb hby at_5) rfl (by decide) ?_
    show OS p e below s₁ m 6 (L_iiiiiuuuuuu p1 p2 p3 p4 p5) [vi (va1 p1)] _
    refine own_b X0 hx hby tb0 1 [] 8 (L_iiiiiiuuuuu p1 p2 p3 p4 p5 (va1 p1)) [] rfl ?_
    refine st6 _ ?_
    refine own_b X6 hx hby tb0 4 [false] 18 (L_iiiiiiruuuu p1 p2 p3 p4 p5 (va1 p1) b6a) [] (ai (teq H1).2 rfl) ?_
    refine st8 _ ?_
    refine own_b X8 hx hby tb0 11 [true] 42 (L_iiiiiiriuuu p1 p2 p3 p4 p5 (va1 p1) b8a (p2 &&& (15 : Int32))) [vi (p5 &&& (1 : Int32))] (ai (feq H2).2 rfl) ?_
    suffices j9 : OS p e below T8 m 49 (L_iiiiiiriuuu p1 p2 p3 p4 p5 (va1 p1) b8a (va2 p5 p2)) [] (T22.setFrames fs) by
      by_cases j9_1 : (p5 &&& (1 : Int32)) = (0 : Int32)
      ·
        refine own_b X8 hx hby tb0 1 [true] 49 _ [] (ai (teq j9_1).1 rfl) ?_
        exact (Eq.mp (congrArg (fun z => OS p e below T8 m 49 (L_iiiiiiriuuu p1 p2 p3 p4 p5 (va1 p1) b8a z) [] (T22.setFrames fs)) (by simp only [va2, if_pos j9_1] : (va2 p5 p2) = (p2 &&& (15 : Int32)))) j9)
      ·
        refine own_b X8 hx hby tb0 3 [false] 49 (L_iiiiiiriuuu p1 p2 p3 p4 p5 (va1 p1) b8a 15) [] (ai (feq j9_1).1 rfl) ?_
        exact (Eq.mp (congrArg (fun z => OS p e below T8 m 49 (L_iiiiiiriuuu p1 p2 p3 p4 p5 (va1 p1) b8a z) [] (T22.setFrames fs)) (by simp only [va2, if_neg j9_1] : (va2 p5 p2) = (15 : Int32))) j9)
    refine own_b X8 hx hby tb0 6 [] 59 (L_iiiiiiriiuu p1 p2 p3 p4 p5 (va1 p1) b8a (va2 p5 p2) (va3 p3)) [vr b8a] rfl ?_
    refine st11 _ ?_
    refine own_b X11 hx hby tb0 3 [] 65 _ [vi p4, vi 13] rfl ?_
    refine X11.ldcInt hx hown8 (mvT hZ8 (tw_0 hw)) (g := (mkF m 65 (L_iiiiiiriiuu p1 p2 p3 p4 p5 (va1 p1) b8a (va2 p5 p2) (va3 p3)) [vi p4, vi 13])) rfl (hb hby at_65) _ ?_
    show OS p e below T11 m 67 (L_iiiiiiriiuu p1 p2 p3 p4 p5 (va1 p1) b8a (va2 p5 p2) (va3 p3)) [vi 2147483647, vi p4, vi 13] _
    refine own_b X11 hx hby tb0 2 [] 69 _ [vi 3, vi (p4 &&& (2147483647 : Int32)), vi 13] rfl ?_
    refine iremM X11 hx (g := (mkF m 69 (L_iiiiiiriiuu p1 p2 p3 p4 p5 (va1 p1) b8a (va2 p5 p2) (va3 p3)) [vi 3, vi (p4 &&& (2147483647 : Int32)), vi 13])) rfl (hb hby at_69) rfl (by decide) ?_
    show OS p e below T11 m 70 (L_iiiiiiriiuu p1 p2 p3 p4 p5 (va1 p1) b8a (va2 p5 p2) (va3 p3)) [vi (va1 p4), vi 13] _
    refine own_b X11 hx hby tb0 6 [] 81 (L_iiiiiiriiiu p1 p2 p3 p4 p5 (va1 p1) b8a (va2 p5 p2) (va3 p3) ((13 : Int32) + (va1 p4))) [vi ((13 : Int32) + (va1 p4)), vi (va3 p3), vi (va2 p5 p2), vr b8a] rfl ?_
    refine st12 _ ?_
    refine own_b X12 hx hby tb0 2 [] 88 (L_iiiiiiriiir p1 p2 p3 p4 p5 (va1 p1) b8a (va2 p5 p2) (va3 p3) ((13 : Int32) + (va1 p4)) b13) [vr b13] rfl ?_
    refine st16 _ ?_
    refine own_b X16 hx hby tb0 1 [] 93 _ [vr b13, .null] rfl ?_
    refine st22.trans ?_
    show OS p e below T22 m 96 (L_iiiiiiriiir p1 p2 p3 p4 p5 (va1 p1) b8a (va2 p5 p2) (va3 p3) ((13 : Int32) + (va1 p4)) b13) [.null, .null] _
    refine Jvm.RoadKit.acmp (g := (mkF m 96 (L_iiiiiiriiir p1 p2 p3 p4 p5 (va1 p1) b8a (va2 p5 p2) (va3 p3) ((13 : Int32) + (va1 p4)) b13) [.null, .null])) X22 hx rfl rfl rfl (pc0 := 96) (pc' := 99) (same := true) rfl (hb hby at_96) rfl (decide_eq_true rfl) (by decide) (by decide) ?_
    show OS p e below T22 m 99 (L_iiiiiiriiir p1 p2 p3 p4 p5 (va1 p1) b8a (va2 p5 p2) (va3 p3) ((13 : Int32) + (va1 p4)) b13) [] _
    refine own_b X22 hx hby tb0 2 [] 104 _ [vi 1] rfl ?_
    exact retN X22 hx (t := .boolean) hret (by simp) (hb hby at_104) hr
  · show Q0 h0 n0 _ T22.heap _
    exact ⟨rfl, N22⟩
theorem rm0_1 (hw : OW Z a0) (p1 : Int32) (p2 : Int32) (p3 : Int32) (p4 : Int32) (p5 : Int32) (s1 : Addr) (s2 : Addr) (s3 : Addr) (s4 : Addr) (s5 : Addr) (s6 : Addr) (s7 : Addr) (s8 : Addr) (s9 : Addr) (s10 : Addr) (p90 : Int32) (rv0 : Value) (ks_s1 : ClassId) (ks_s6 : ClassId) (ks_s8 : ClassId) (ks_s10 : ClassId) (Z0 : n0 ≤ h0.size) (Sp0 : ab1 Z (.int p90)) (Sp1 : Old Z n0 h0) (Sp2 : ab2 Z rv0) (Sp3 : rv0.isRef = true) (Sp4 : ab3 Z (.ref s1)) (Sp5 : ab11 Z Z.heap s1) (Sp6 : Arv Z Z.heap s1 ks_s1 (.object "com/example/sinkwatch/sinkwatch/Flaw") (3 : Int32) [(.ref s2), (.ref s3), (.ref s4)] .null) (Sp7 : ab9 Z Z.heap s2 (.ref s5)) (Sp8 : ab10 Z Z.heap s5) (Sp9 : ab7 Z Z.heap s5 (.int (0 : Int32))) (Sp10 : ab8 Z Z.heap s5 (.ref s6)) (Sp11 : Arv Z Z.heap s6 ks_s6 .byte (13 : Int32) bl3 (.int (0 : Int32))) (Sp12 : ab9 Z Z.heap s3 (.ref s7)) (Sp13 : ab10 Z Z.heap s7) (Sp14 : ab7 Z Z.heap s7 (.int (0 : Int32))) (Sp15 : ab8 Z Z.heap s7 (.ref s8)) (Sp16 : Arv Z Z.heap s8 ks_s8 .byte (14 : Int32) bl1 (.int (0 : Int32))) (Sp17 : ab9 Z Z.heap s4 (.ref s9)) (Sp18 : ab10 Z Z.heap s9) (Sp19 : ab7 Z Z.heap s9 (.int (0 : Int32))) (Sp20 : ab8 Z Z.heap s9 (.ref s10)) (Sp21 : Arv Z Z.heap s10 ks_s10 .byte (13 : Int32) bl6 (.int (0 : Int32))) (Sp22 : ab4 Z (.ref s3)) (Sp23 : ab5 Z (.ref s4)) (Sp24 : ab6 Z (.ref s2)) (Sp25 : ¬ (p90 = (0 : Int32))) (H1 : (va1 p1) = (1 : Int32)) (H2 : ¬ ((va1 p1) = (2 : Int32))) (H3 : ¬ (p90 = (0 : Int32))) (H4 : ¬ (((13 : Int32) + (va1 p4)) = (12 : Int32))) (H5 : ¬ (((13 : Int32) + (va1 p4)) = (13 : Int32))) (H6 : ((13 : Int32) + (va1 p4)) = (14 : Int32)) (H7 : (va45 p5 p2 p3) = (0 : Int32)) (H8 : (va47 p5 p2 p3) = (0 : Int32)) :
    MC l Z ws h0 n0 p1 p2 p3 p4 p5 := by
  refine MetFree.of_bodySF (plainFor_of_name pn_3) hisR ?_
  intro p e s m args below meth c s₁ Bd hml0 hP hK
  obtain ⟨rfl, hZ, hh, hH⟩ := hP
  have hx := Bd.exec
  have hby := Bd.bytes
  have hml : c.maxLocals = 11 := hml0
  have hown : s.vm.findClass "com/example/sinkwatch/sinkwatch/FlawNamedPinLaw" = some m.cls := findClass_of_methodNamed Bd.named
  have hnm := (name_of_methodNamed Bd.named Bd.method).1
  have hret := Bd.returns
  have X0 : Stand p l e room_1 s m #[(vi p1), (vi p2), (vi p3), (vi p4), (vi p5)] below meth c s₁ [] 0 0 := Stand.of_body Bd
  have e0 : s₁.heap = h0 := by rw [← hh, Bd.state]; rfl
  have N0 := Fr.nil n0
  have pre0 : ∀ t, Steps p.tables e below (s₁.setTop (mkF m 0 #[si p1, si p2, si p3, si p4, si p5, .unset, .unset, .unset, .unset, .unset, .unset] [])) t → Steps p.tables e below (s₁.setTop (entryFrame m #[(vi p1), (vi p2), (vi p3), (vi p4), (vi p5)] maxLocals)) t := fun t k => castTop (ef0 m p1 p2 p3 p4 p5) k
  obtain ⟨b6a, T6, h6, k6, b6b, kl6, X6, e6, E6, hS6, hk6, hZ6, hown6, fa6, fb6, fc6, fd6, -, -, CH6, LT6, LN6, st6⟩ := ldcCH (s := s) (vm0 := s.vm) (show Stand _ _ _ _ (s.setVm s.vm) _ _ _ _ _ _ _ _ _ from X0) hx hZ hown (tw_1 hw) (own_wS hw) e0 (State.WarmedH.since (State.WarmedH.refl s) 0) (Nat.zero_le _) (own_EW hw) (List.mem_of_getElem? (i := 0) rfl) hH (vs := [(vi 115), (vi 113), (vi 108), (vi 45), (vi 105), (vi 110), (vi 106), (vi 101), (vi 99), (vi 116), (vi 105), (vi 111), (vi 110)]) (z := (13 : Int32)) (by decide +kernel) (by decide) (by decide) (g := (mkF m 8 (L_iiiiiiuuuuu p1 p2 p3 p4 p5 (va1 p1)) [])) rfl (hb hby at_8) (n := 52) (by decide) (by decide) (by decide) (by decide)
  have F7 := CH6.1
  obtain ⟨b8a, T8, h8, k8, b8b, kl8, X8, e8, E8, hS8, hk8, hZ8, hown8, fa8, fb8, fc8, fd8, -, -, CH8, LT8, LN8, st8⟩ := ldcCH (s := s) (vm0 := T6.vm) X6 hx hZ6 hown6 (tw_110 hw) (own_wS hw) e6 hS6 hk6 (own_EW hw) (List.mem_of_getElem? (i := 1) rfl) F7 (vs := [(vi 112), (vi 97), (vi 116), (vi 104), (vi 45), (vi 116), (vi 114), (vi 97), (vi 118), (vi 101), (vi 114), (vi 115), (vi 97), (vi 108)]) (z := (14 : Int32)) (by decide +kernel) (by decide) (by decide) (g := (mkF m 18 (L_iiiiiiruuuu p1 p2 p3 p4 p5 (va1 p1) b6a) [])) rfl (hb hby at_18) (n := 56) (by decide) (by decide) (by decide) (by decide)
  have F10 := ((Sp1.ext E6).ext E8)
  obtain ⟨T11, L11, _, X11, ⟨rfl, N11q, e11q⟩, st11⟩ := own_callV X8 hx hZ8 hown8 (tw_9 hw) (tw_10 hw) (notFace_of_selects (args := #[]) (mvT hZ8 (tw_12 hw))) (tw_12 hw) (tw_11 hw) (tw_2 hw) (tw_13 hw) (rm1_1 hw b8a b8b kl8 p90 (lx (lx Z0 E6) E8) fc8 fd8 fa8 Sp0 F10 H3 fb8) e8 fa8 (Ls := (L_iiiiiiriiuu p1 p2 p3 p4 p5 (va1 p1) b8a (va2 p5 p2) (va3 p3))) hml [] [] pd_1 0 (hb hby at_59)
  have N11 := Fr.app N0 N11q
  obtain ⟨T12, L12, _, X12, ⟨b13, b14, kk12_0, rfl, N12q, K12, qa12_0, qb12_0, qa12_1, qb12_1, qc12_0_1, f12_0, f12_1, f12_2, f12_3⟩, st12⟩ := own_callS X11 hx hZ8 hown8 (cw_9 hw) (rm3_2 hw b8a (va2 p5 p2) (va3 p3) ((13 : Int32) + (va1 p4)) b8b kl8 (14 : Int32) bl1 p90 rv0 (va5 p5 p2 p3) (va6 p5 p2 p3) (va7 p5 p2 p3) (va8 p5 p2 p3) (va9 p5 p2 p3) (va10 p5 p2 p3) (va11 p5 p2 p3) (va12 p5 p2 p3) (va13 p5 p2 p3) (va14 p5 p2 p3) (va15 p5 p2 p3) (va16 p5 p2 p3) (va17 p5 p2 p3) (va18 p5 p2 p3) (va19 p3) (lx (lx Z0 E6) E8) fc8 fd8 fb8 fa8 Sp0 Sp2 H3 (CVi 112) F10 Sp3 (CVi 97) (CVi 116) (CVi 104) (CVi 45) (CVi 116) (CVi 114) (CVi 97) (CVi 118) (CVi 101) (CVi 114) (CVi 115) (CVi 97) (CVi 108) CVo H4 H5 H6 (x255 112) (x255 97) (x255 116) (x255 104) (x255 45) (x255 116) (x255 114) (x255 97) (x255 118) (x255 101) (x255 114) (x255 115) (x255 97) (x255 108)) e11q (Ls := (L_iiiiiiriiiu p1 p2 p3 p4 p5 (va1 p1) b8a (va2 p5 p2) (va3 p3) ((13 : Int32) + (va1 p4)))) hml [vr b8a, vi (va2 p5 p2), vi (va3 p3), vi ((13 : Int32) + (va1 p4))] [] pd_13 0 (hb hby at_81)
  have N12 := Fr.app N11 N12q
  have qd12_0 := Nat.le_trans (lx (lx (Nat.le_refl h0.size) E6) E8) qb12_0
  have qd12_1 := Nat.le_trans (lx (lx (Nat.le_refl h0.size) E6) E8) qb12_1
  have F15 := (F10.keep K12 all0)
  obtain ⟨T16, L16, _, X16, ⟨rfl, N16q, K16⟩, st16⟩ := own_callS X12 hx hZ8 hown8 (cw_12 hw) (rm16_2 hw b13 s1 ks_s1 s2 s3 s4 s5 s6 b14 ks_s6 kk12_0 (va22 p5 p2 p3) (va23 p5 p2 p3) (va24 p5 p2 p3) (va25 p5 p2 p3) (va26 p5 p2 p3) (va27 p5 p2 p3) (va28 p5 p2 p3) (va29 p5 p2 p3) (va30 p5 p2 p3) (va31 p5 p2 p3) (va32 p5 p2 p3) (va33 p5 p2 p3) (va34 p5 p2 p3) (va43 p5 p2 p3) p90 s7 s8 ks_s8 s9 s10 ks_s10 (Nat.le_trans (lx (lx Z0 E6) E8) K12.1) Sp4 F15 Sp5 Sp6 Sp7 Sp8 f12_0 Sp9 f12_1 Sp10 f12_2 Sp11 f12_3 Sp0 H3 qa12_0 Sp12 Sp13 Sp14 Sp15 Sp16 H7 Sp17 Sp18 Sp19 Sp20 Sp21) rfl (Ls := (L_iiiiiiriiir p1 p2 p3 p4 p5 (va1 p1) b8a (va2 p5 p2) (va3 p3) ((13 : Int32) + (va1 p4)) b13)) hml [vr b13] [] pd_17 0 (hb hby at_88)
  have N16 := Fr.app N12 N16q
  have F17 := (Exa.keep f12_0 K16)
  have F18 := (Fld.keep f12_1 K16 nin0)
  have F19 := (Fld.keep f12_2 K16 nin0)
  have F20 := (Arv.keep f12_3 K16 nin0)
  have F21 := (F15.keep K16 all0)
  have F23 := (Nat.le_trans (Nat.le_trans (lx (lx Z0 E6) E8) K12.1) K16.1)
  have F24 := CH8.1
  have F25 := (CHv.keep K12 all0 F24)
  have F26 := (CHv.keep K16 all0 F25)
  have F27 := (Safe.keep K12 all0 F24 (Safe.new qb12_0))
  have F28 := (Safe.keep K16 all0 F25 F27)
  obtain ⟨_, _, ⟨T22, L22, k22, n22⟩, -, Xq22, hSq22, gq22, ⟨Lc22, hQ22, l22, y22, z22⟩, st22⟩ := callSS X16 hx (y := y18) hown8 (mvT hZ8 (tw_106 hw)) (mvT hZ8 (tw_107 hw)) (mvT hZ8 (tw_24 hw)) (mvT hZ8 (tw_108 hw)) (by decide) (own_backH (s := s) (vm0 := T8.vm) (W := 1) (rm20_2 (ws := []) (h0 := T16.heap) hw b13 b14 kk12_0 (va22 p5 p2 p3) (va23 p5 p2 p3) (va24 p5 p2 p3) (va25 p5 p2 p3) (va26 p5 p2 p3) (va27 p5 p2 p3) (va28 p5 p2 p3) (va29 p5 p2 p3) (va30 p5 p2 p3) (va31 p5 p2 p3) (va32 p5 p2 p3) (va33 p5 p2 p3) (va34 p5 p2 p3) (va43 p5 p2 p3) p90 F23 F17 F18 F19 F20 Sp0 H3 F21 H8) hZ8 (tw_108 hw) (tw_24 hw) (by decide) (by decide) (own_EW hw) F26 (allS ⟨F17.lt, F28⟩ all0)) (g := (mkF m 93 (L_iiiiiiriiir p1 p2 p3 p4 p5 (va1 p1) b8a (va2 p5 p2) (va3 p3) ((13 : Int32) + (va1 p4)) b13) [vr b13, .null])) rfl (by rw [hml]; rfl) (argsL := [(vr b13)]) (rest := [.null]) (lenOf pd_17 rfl) rfl (by show 2 * 0 + _ ≤ _; exact Nat.le_of_eq rfl) (hb hby at_93) (fun _ _ => ⟨rfl, rfl, (by decide : 9 + 6 ≤ _), (by decide : 166 + 172 ≤ _)⟩)
  dsimp only [Pt.U, Pt.locs, Pt.cells, Pt.slots] at Xq22 l22 y22 z22 st22 hQ22
  subst l22 y22 z22
  obtain ⟨X22, hS22, hZ22, hown22⟩ := rebS (s := s) (vm0 := T8.vm) hS8 (n1 := T16.heap.size) (Nat.le_trans (Nat.le_trans hk8 K12.1) K16.1) Xq22 hSq22 gq22 hZ8 hown8
  obtain ⟨rfl, N22q, K22⟩ := hQ22
  have N22 := Fr.app N16 N22q
  obtain ⟨fs, hr, hrun, hended, hRE⟩ := X22.leaveW hS22 (Nat.le_refl _) (v := some (vi 1)) (fun h => by rw [hret] at h; cases h)
  refine ⟨_, _, pre0 _ ?_, hrun, hended, _, _, rfl, ?_, hRE.1, hRE.2.1, hRE.2.2.1, hRE.2.2.2.mono (by decide) (by decide)⟩
  · refine own_b X0 hx hby tb0 1 [] 1 _ [vi p1] rfl ?_
    refine X0.ldcInt hx hown (mvT hZ (tw_0 hw)) (g := (mkF m 1 (L_iiiiiuuuuuu p1 p2 p3 p4 p5) [vi p1])) rfl (hb hby at_1) _ ?_
    show OS p e below s₁ m 3 (L_iiiiiuuuuuu p1 p2 p3 p4 p5) [vi 2147483647, vi p1] _
    refine own_b X0 hx hby tb0 2 [] 5 _ [vi 3, vi (p1 &&& (2147483647 : Int32))] rfl ?_
    refine iremM X0 hx (g := (mkF m 5 (L_iiiiiuuuuuu p1 p2 p3 p4 p5) [vi 3, vi (p1 &&& (2147483647 : Int32))])) rfl (hb hby at_5) rfl (by decide) ?_
    show OS p e below s₁ m 6 (L_iiiiiuuuuuu p1 p2 p3 p4 p5) [vi (va1 p1)] _
    refine own_b X0 hx hby tb0 1 [] 8 (L_iiiiiiuuuuu p1 p2 p3 p4 p5 (va1 p1)) [] rfl ?_
    refine st6 _ ?_
    refine own_b X6 hx hby tb0 4 [false] 18 (L_iiiiiiruuuu p1 p2 p3 p4 p5 (va1 p1) b6a) [] (ai (teq H1).2 rfl) ?_
    refine st8 _ ?_
    refine own_b X8 hx hby tb0 11 [true] 42 (L_iiiiiiriuuu p1 p2 p3 p4 p5 (va1 p1) b8a (p2 &&& (15 : Int32))) [vi (p5 &&& (1 : Int32))] (ai (feq H2).2 rfl) ?_
    suffices j9 : OS p e below T8 m 49 (L_iiiiiiriuuu p1 p2 p3 p4 p5 (va1 p1) b8a (va2 p5 p2)) [] (T22.setFrames fs) by
      by_cases j9_1 : (p5 &&& (1 : Int32)) = (0 : Int32)
      ·
        refine own_b X8 hx hby tb0 1 [true] 49 _ [] (ai (teq j9_1).1 rfl) ?_
        exact (Eq.mp (congrArg (fun z => OS p e below T8 m 49 (L_iiiiiiriuuu p1 p2 p3 p4 p5 (va1 p1) b8a z) [] (T22.setFrames fs)) (by simp only [va2, if_pos j9_1] : (va2 p5 p2) = (p2 &&& (15 : Int32)))) j9)
      ·
        refine own_b X8 hx hby tb0 3 [false] 49 (L_iiiiiiriuuu p1 p2 p3 p4 p5 (va1 p1) b8a 15) [] (ai (feq j9_1).1 rfl) ?_
        exact (Eq.mp (congrArg (fun z => OS p e below T8 m 49 (L_iiiiiiriuuu p1 p2 p3 p4 p5 (va1 p1) b8a z) [] (T22.setFrames fs)) (by simp only [va2, if_neg j9_1] : (va2 p5 p2) = (15 : Int32))) j9)
    refine own_b X8 hx hby tb0 6 [] 59 (L_iiiiiiriiuu p1 p2 p3 p4 p5 (va1 p1) b8a (va2 p5 p2) (va3 p3)) [vr b8a] rfl ?_
    refine st11 _ ?_
    refine own_b X11 hx hby tb0 3 [] 65 _ [vi p4, vi 13] rfl ?_
    refine X11.ldcInt hx hown8 (mvT hZ8 (tw_0 hw)) (g := (mkF m 65 (L_iiiiiiriiuu p1 p2 p3 p4 p5 (va1 p1) b8a (va2 p5 p2) (va3 p3)) [vi p4, vi 13])) rfl (hb hby at_65) _ ?_
    show OS p e below T11 m 67 (L_iiiiiiriiuu p1 p2 p3 p4 p5 (va1 p1) b8a (va2 p5 p2) (va3 p3)) [vi 2147483647, vi p4, vi 13] _
    refine own_b X11 hx hby tb0 2 [] 69 _ [vi 3, vi (p4 &&& (2147483647 : Int32)), vi 13] rfl ?_
    refine iremM X11 hx (g := (mkF m 69 (L_iiiiiiriiuu p1 p2 p3 p4 p5 (va1 p1) b8a (va2 p5 p2) (va3 p3)) [vi 3, vi (p4 &&& (2147483647 : Int32)), vi 13])) rfl (hb hby at_69) rfl (by decide) ?_
    show OS p e below T11 m 70 (L_iiiiiiriiuu p1 p2 p3 p4 p5 (va1 p1) b8a (va2 p5 p2) (va3 p3)) [vi (va1 p4), vi 13] _
    refine own_b X11 hx hby tb0 6 [] 81 (L_iiiiiiriiiu p1 p2 p3 p4 p5 (va1 p1) b8a (va2 p5 p2) (va3 p3) ((13 : Int32) + (va1 p4))) [vi ((13 : Int32) + (va1 p4)), vi (va3 p3), vi (va2 p5 p2), vr b8a] rfl ?_
    refine st12 _ ?_
    refine own_b X12 hx hby tb0 2 [] 88 (L_iiiiiiriiir p1 p2 p3 p4 p5 (va1 p1) b8a (va2 p5 p2) (va3 p3) ((13 : Int32) + (va1 p4)) b13) [vr b13] rfl ?_
    refine st16 _ ?_
    refine own_b X16 hx hby tb0 1 [] 93 _ [vr b13, .null] rfl ?_
    refine st22.trans ?_
    show OS p e below T22 m 96 (L_iiiiiiriiir p1 p2 p3 p4 p5 (va1 p1) b8a (va2 p5 p2) (va3 p3) ((13 : Int32) + (va1 p4)) b13) [.null, .null] _
    refine Jvm.RoadKit.acmp (g := (mkF m 96 (L_iiiiiiriiir p1 p2 p3 p4 p5 (va1 p1) b8a (va2 p5 p2) (va3 p3) ((13 : Int32) + (va1 p4)) b13) [.null, .null])) X22 hx rfl rfl rfl (pc0 := 96) (pc' := 99) (same := true) rfl (hb hby at_96) rfl (decide_eq_true rfl) (by decide) (by decide) ?_
    show OS p e below T22 m 99 (L_iiiiiiriiir p1 p2 p3 p4 p5 (va1 p1) b8a (va2 p5 p2) (va3 p3) ((13 : Int32) + (va1 p4)) b13) [] _
    refine own_b X22 hx hby tb0 2 [] 104 _ [vi 1] rfl ?_
    exact retN X22 hx (t := .boolean) hret (by simp) (hb hby at_104) hr
  · show Q0 h0 n0 _ T22.heap _
    exact ⟨rfl, N22⟩
theorem rm0_2 (hw : OW Z a0) (p1 : Int32) (p2 : Int32) (p3 : Int32) (p4 : Int32) (p5 : Int32) (s1 : Addr) (s2 : Addr) (s3 : Addr) (s4 : Addr) (s5 : Addr) (s6 : Addr) (s7 : Addr) (s8 : Addr) (s9 : Addr) (s10 : Addr) (p90 : Int32) (rv0 : Value) (ks_s1 : ClassId) (ks_s6 : ClassId) (ks_s8 : ClassId) (ks_s10 : ClassId) (Z0 : n0 ≤ h0.size) (Sp0 : ab1 Z (.int p90)) (Sp1 : Old Z n0 h0) (Sp2 : ab2 Z rv0) (Sp3 : rv0.isRef = true) (Sp4 : ab3 Z (.ref s1)) (Sp5 : ab11 Z Z.heap s1) (Sp6 : Arv Z Z.heap s1 ks_s1 (.object "com/example/sinkwatch/sinkwatch/Flaw") (3 : Int32) [(.ref s2), (.ref s3), (.ref s4)] .null) (Sp7 : ab9 Z Z.heap s2 (.ref s5)) (Sp8 : ab10 Z Z.heap s5) (Sp9 : ab7 Z Z.heap s5 (.int (0 : Int32))) (Sp10 : ab8 Z Z.heap s5 (.ref s6)) (Sp11 : Arv Z Z.heap s6 ks_s6 .byte (13 : Int32) bl3 (.int (0 : Int32))) (Sp12 : ab9 Z Z.heap s3 (.ref s7)) (Sp13 : ab10 Z Z.heap s7) (Sp14 : ab7 Z Z.heap s7 (.int (0 : Int32))) (Sp15 : ab8 Z Z.heap s7 (.ref s8)) (Sp16 : Arv Z Z.heap s8 ks_s8 .byte (14 : Int32) bl1 (.int (0 : Int32))) (Sp17 : ab9 Z Z.heap s4 (.ref s9)) (Sp18 : ab10 Z Z.heap s9) (Sp19 : ab7 Z Z.heap s9 (.int (0 : Int32))) (Sp20 : ab8 Z Z.heap s9 (.ref s10)) (Sp21 : Arv Z Z.heap s10 ks_s10 .byte (13 : Int32) bl6 (.int (0 : Int32))) (Sp22 : ab4 Z (.ref s3)) (Sp23 : ab5 Z (.ref s4)) (Sp24 : ab6 Z (.ref s2)) (Sp25 : ¬ (p90 = (0 : Int32))) (H1 : (va1 p1) = (1 : Int32)) (H2 : ¬ ((va1 p1) = (2 : Int32))) (H3 : ¬ (p90 = (0 : Int32))) (H4 : ¬ (((13 : Int32) + (va1 p4)) = (12 : Int32))) (H5 : ¬ (((13 : Int32) + (va1 p4)) = (13 : Int32))) (H6 : ((13 : Int32) + (va1 p4)) = (14 : Int32)) (H7 : ¬ ((va45 p5 p2 p3) = (0 : Int32))) (H8 : ¬ ((va47 p5 p2 p3) = (0 : Int32))) :
    MC l Z ws h0 n0 p1 p2 p3 p4 p5 := by
  refine MetFree.of_bodySF (plainFor_of_name pn_3) hisR ?_
  intro p e s m args below meth c s₁ Bd hml0 hP hK
  obtain ⟨rfl, hZ, hh, hH⟩ := hP
  have hx := Bd.exec
  have hby := Bd.bytes
  have hml : c.maxLocals = 11 := hml0
  have hown : s.vm.findClass "com/example/sinkwatch/sinkwatch/FlawNamedPinLaw" = some m.cls := findClass_of_methodNamed Bd.named
  have hnm := (name_of_methodNamed Bd.named Bd.method).1
  have hret := Bd.returns
  have X0 : Stand p l e room_1 s m #[(vi p1), (vi p2), (vi p3), (vi p4), (vi p5)] below meth c s₁ [] 0 0 := Stand.of_body Bd
  have e0 : s₁.heap = h0 := by rw [← hh, Bd.state]; rfl
  have N0 := Fr.nil n0
  have pre0 : ∀ t, Steps p.tables e below (s₁.setTop (mkF m 0 #[si p1, si p2, si p3, si p4, si p5, .unset, .unset, .unset, .unset, .unset, .unset] [])) t → Steps p.tables e below (s₁.setTop (entryFrame m #[(vi p1), (vi p2), (vi p3), (vi p4), (vi p5)] maxLocals)) t := fun t k => castTop (ef0 m p1 p2 p3 p4 p5) k
  obtain ⟨b6a, T6, h6, k6, b6b, kl6, X6, e6, E6, hS6, hk6, hZ6, hown6, fa6, fb6, fc6, fd6, -, -, CH6, LT6, LN6, st6⟩ := ldcCH (s := s) (vm0 := s.vm) (show Stand _ _ _ _ (s.setVm s.vm) _ _ _ _ _ _ _ _ _ from X0) hx hZ hown (tw_1 hw) (own_wS hw) e0 (State.WarmedH.since (State.WarmedH.refl s) 0) (Nat.zero_le _) (own_EW hw) (List.mem_of_getElem? (i := 0) rfl) hH (vs := [(vi 115), (vi 113), (vi 108), (vi 45), (vi 105), (vi 110), (vi 106), (vi 101), (vi 99), (vi 116), (vi 105), (vi 111), (vi 110)]) (z := (13 : Int32)) (by decide +kernel) (by decide) (by decide) (g := (mkF m 8 (L_iiiiiiuuuuu p1 p2 p3 p4 p5 (va1 p1)) [])) rfl (hb hby at_8) (n := 52) (by decide) (by decide) (by decide) (by decide)
  have F7 := CH6.1
  obtain ⟨b8a, T8, h8, k8, b8b, kl8, X8, e8, E8, hS8, hk8, hZ8, hown8, fa8, fb8, fc8, fd8, -, -, CH8, LT8, LN8, st8⟩ := ldcCH (s := s) (vm0 := T6.vm) X6 hx hZ6 hown6 (tw_110 hw) (own_wS hw) e6 hS6 hk6 (own_EW hw) (List.mem_of_getElem? (i := 1) rfl) F7 (vs := [(vi 112), (vi 97), (vi 116), (vi 104), (vi 45), (vi 116), (vi 114), (vi 97), (vi 118), (vi 101), (vi 114), (vi 115), (vi 97), (vi 108)]) (z := (14 : Int32)) (by decide +kernel) (by decide) (by decide) (g := (mkF m 18 (L_iiiiiiruuuu p1 p2 p3 p4 p5 (va1 p1) b6a) [])) rfl (hb hby at_18) (n := 56) (by decide) (by decide) (by decide) (by decide)
  have F10 := ((Sp1.ext E6).ext E8)
  obtain ⟨T11, L11, _, X11, ⟨rfl, N11q, e11q⟩, st11⟩ := own_callV X8 hx hZ8 hown8 (tw_9 hw) (tw_10 hw) (notFace_of_selects (args := #[]) (mvT hZ8 (tw_12 hw))) (tw_12 hw) (tw_11 hw) (tw_2 hw) (tw_13 hw) (rm1_1 hw b8a b8b kl8 p90 (lx (lx Z0 E6) E8) fc8 fd8 fa8 Sp0 F10 H3 fb8) e8 fa8 (Ls := (L_iiiiiiriiuu p1 p2 p3 p4 p5 (va1 p1) b8a (va2 p5 p2) (va3 p3))) hml [] [] pd_1 0 (hb hby at_59)
  have N11 := Fr.app N0 N11q
  obtain ⟨T12, L12, _, X12, ⟨b13, b14, kk12_0, rfl, N12q, K12, qa12_0, qb12_0, qa12_1, qb12_1, qc12_0_1, f12_0, f12_1, f12_2, f12_3⟩, st12⟩ := own_callS X11 hx hZ8 hown8 (cw_9 hw) (rm3_2 hw b8a (va2 p5 p2) (va3 p3) ((13 : Int32) + (va1 p4)) b8b kl8 (14 : Int32) bl1 p90 rv0 (va5 p5 p2 p3) (va6 p5 p2 p3) (va7 p5 p2 p3) (va8 p5 p2 p3) (va9 p5 p2 p3) (va10 p5 p2 p3) (va11 p5 p2 p3) (va12 p5 p2 p3) (va13 p5 p2 p3) (va14 p5 p2 p3) (va15 p5 p2 p3) (va16 p5 p2 p3) (va17 p5 p2 p3) (va18 p5 p2 p3) (va19 p3) (lx (lx Z0 E6) E8) fc8 fd8 fb8 fa8 Sp0 Sp2 H3 (CVi 112) F10 Sp3 (CVi 97) (CVi 116) (CVi 104) (CVi 45) (CVi 116) (CVi 114) (CVi 97) (CVi 118) (CVi 101) (CVi 114) (CVi 115) (CVi 97) (CVi 108) CVo H4 H5 H6 (x255 112) (x255 97) (x255 116) (x255 104) (x255 45) (x255 116) (x255 114) (x255 97) (x255 118) (x255 101) (x255 114) (x255 115) (x255 97) (x255 108)) e11q (Ls := (L_iiiiiiriiiu p1 p2 p3 p4 p5 (va1 p1) b8a (va2 p5 p2) (va3 p3) ((13 : Int32) + (va1 p4)))) hml [vr b8a, vi (va2 p5 p2), vi (va3 p3), vi ((13 : Int32) + (va1 p4))] [] pd_13 0 (hb hby at_81)
  have N12 := Fr.app N11 N12q
  have qd12_0 := Nat.le_trans (lx (lx (Nat.le_refl h0.size) E6) E8) qb12_0
  have qd12_1 := Nat.le_trans (lx (lx (Nat.le_refl h0.size) E6) E8) qb12_1
  have F15 := (F10.keep K12 all0)
  obtain ⟨T16, L16, _, X16, ⟨rfl, N16q, K16⟩, st16⟩ := own_callS X12 hx hZ8 hown8 (cw_12 hw) (rm16_3 hw b13 s1 ks_s1 s2 s3 s4 s5 s6 b14 ks_s6 kk12_0 (va22 p5 p2 p3) (va23 p5 p2 p3) (va24 p5 p2 p3) (va25 p5 p2 p3) (va26 p5 p2 p3) (va27 p5 p2 p3) (va28 p5 p2 p3) (va29 p5 p2 p3) (va30 p5 p2 p3) (va31 p5 p2 p3) (va32 p5 p2 p3) (va33 p5 p2 p3) (va34 p5 p2 p3) (va43 p5 p2 p3) p90 s7 s8 ks_s8 (Nat.le_trans (lx (lx Z0 E6) E8) K12.1) Sp4 F15 Sp5 Sp6 Sp7 Sp8 f12_0 Sp9 f12_1 Sp10 f12_2 Sp11 f12_3 Sp0 H3 qa12_0 Sp12 Sp13 Sp14 Sp15 Sp16 H7) rfl (Ls := (L_iiiiiiriiir p1 p2 p3 p4 p5 (va1 p1) b8a (va2 p5 p2) (va3 p3) ((13 : Int32) + (va1 p4)) b13)) hml [vr b13] [] pd_17 0 (hb hby at_88)
  have N16 := Fr.app N12 N16q
  have F17 := (Exa.keep f12_0 K16)
  have F18 := (Fld.keep f12_1 K16 nin0)
  have F19 := (Fld.keep f12_2 K16 nin0)
  have F20 := (Arv.keep f12_3 K16 nin0)
  have F21 := (F15.keep K16 all0)
  have F23 := (Nat.le_trans (Nat.le_trans (lx (lx Z0 E6) E8) K12.1) K16.1)
  have F24 := CH8.1
  have F25 := (CHv.keep K12 all0 F24)
  have F26 := (CHv.keep K16 all0 F25)
  have F27 := (Safe.keep K12 all0 F24 (Safe.new qb12_0))
  have F28 := (Safe.keep K16 all0 F25 F27)
  obtain ⟨_, _, ⟨T22, L22, k22, n22⟩, -, Xq22, hSq22, gq22, ⟨Lc22, hQ22, l22, y22, z22⟩, st22⟩ := callSS X16 hx (y := y18) hown8 (mvT hZ8 (tw_106 hw)) (mvT hZ8 (tw_107 hw)) (mvT hZ8 (tw_24 hw)) (mvT hZ8 (tw_108 hw)) (by decide) (own_backH (s := s) (vm0 := T8.vm) (W := 1) (rm20_3 (ws := []) (h0 := T16.heap) hw b13 b14 kk12_0 (va22 p5 p2 p3) (va23 p5 p2 p3) (va24 p5 p2 p3) (va25 p5 p2 p3) (va26 p5 p2 p3) (va27 p5 p2 p3) (va28 p5 p2 p3) (va29 p5 p2 p3) (va30 p5 p2 p3) (va31 p5 p2 p3) (va32 p5 p2 p3) (va33 p5 p2 p3) (va34 p5 p2 p3) (va43 p5 p2 p3) p90 s3 F23 F17 F18 F19 F20 Sp0 H3 F21 H8 Sp22) hZ8 (tw_108 hw) (tw_24 hw) (by decide) (by decide) (own_EW hw) F26 (allS ⟨F17.lt, F28⟩ all0)) (g := (mkF m 93 (L_iiiiiiriiir p1 p2 p3 p4 p5 (va1 p1) b8a (va2 p5 p2) (va3 p3) ((13 : Int32) + (va1 p4)) b13) [vr b13, vr s3])) rfl (by rw [hml]; rfl) (argsL := [(vr b13)]) (rest := [(vr s3)]) (lenOf pd_17 rfl) rfl (by show 2 * 0 + _ ≤ _; exact Nat.le_of_eq rfl) (hb hby at_93) (fun _ _ => ⟨rfl, rfl, (by decide : 9 + 4 ≤ _), (by decide : 166 + 116 ≤ _)⟩)
  dsimp only [Pt.U, Pt.locs, Pt.cells, Pt.slots] at Xq22 l22 y22 z22 st22 hQ22
  subst l22 y22 z22
  obtain ⟨X22, hS22, hZ22, hown22⟩ := rebS (s := s) (vm0 := T8.vm) hS8 (n1 := T16.heap.size) (Nat.le_trans (Nat.le_trans hk8 K12.1) K16.1) Xq22 hSq22 gq22 hZ8 hown8
  obtain ⟨rfl, N22q, K22⟩ := hQ22
  have N22 := Fr.app N16 N22q
  obtain ⟨fs, hr, hrun, hended, hRE⟩ := X22.leaveW hS22 (Nat.le_refl _) (v := some (vi 1)) (fun h => by rw [hret] at h; cases h)
  refine ⟨_, _, pre0 _ ?_, hrun, hended, _, _, rfl, ?_, hRE.1, hRE.2.1, hRE.2.2.1, hRE.2.2.2.mono (by decide) (by decide)⟩
  · refine own_b X0 hx hby tb0 1 [] 1 _ [vi p1] rfl ?_
    refine X0.ldcInt hx hown (mvT hZ (tw_0 hw)) (g := (mkF m 1 (L_iiiiiuuuuuu p1 p2 p3 p4 p5) [vi p1])) rfl (hb hby at_1) _ ?_
    show OS p e below s₁ m 3 (L_iiiiiuuuuuu p1 p2 p3 p4 p5) [vi 2147483647, vi p1] _
    refine own_b X0 hx hby tb0 2 [] 5 _ [vi 3, vi (p1 &&& (2147483647 : Int32))] rfl ?_
    refine iremM X0 hx (g := (mkF m 5 (L_iiiiiuuuuuu p1 p2 p3 p4 p5) [vi 3, vi (p1 &&& (2147483647 : Int32))])) rfl (hb hby at_5) rfl (by decide) ?_
    show OS p e below s₁ m 6 (L_iiiiiuuuuuu p1 p2 p3 p4 p5) [vi (va1 p1)] _
    refine own_b X0 hx hby tb0 1 [] 8 (L_iiiiiiuuuuu p1 p2 p3 p4 p5 (va1 p1)) [] rfl ?_
    refine st6 _ ?_
    refine own_b X6 hx hby tb0 4 [false] 18 (L_iiiiiiruuuu p1 p2 p3 p4 p5 (va1 p1) b6a) [] (ai (teq H1).2 rfl) ?_
    refine st8 _ ?_
    refine own_b X8 hx hby tb0 11 [true] 42 (L_iiiiiiriuuu p1 p2 p3 p4 p5 (va1 p1) b8a (p2 &&& (15 : Int32))) [vi (p5 &&& (1 : Int32))] (ai (feq H2).2 rfl) ?_
    suffices j9 : OS p e below T8 m 49 (L_iiiiiiriuuu p1 p2 p3 p4 p5 (va1 p1) b8a (va2 p5 p2)) [] (T22.setFrames fs) by
      by_cases j9_1 : (p5 &&& (1 : Int32)) = (0 : Int32)
      ·
        refine own_b X8 hx hby tb0 1 [true] 49 _ [] (ai (teq j9_1).1 rfl) ?_
        exact (Eq.mp (congrArg (fun z => OS p e below T8 m 49 (L_iiiiiiriuuu p1 p2 p3 p4 p5 (va1 p1) b8a z) [] (T22.setFrames fs)) (by simp only [va2, if_pos j9_1] : (va2 p5 p2) = (p2 &&& (15 : Int32)))) j9)
      ·
        refine own_b X8 hx hby tb0 3 [false] 49 (L_iiiiiiriuuu p1 p2 p3 p4 p5 (va1 p1) b8a 15) [] (ai (feq j9_1).1 rfl) ?_
        exact (Eq.mp (congrArg (fun z => OS p e below T8 m 49 (L_iiiiiiriuuu p1 p2 p3 p4 p5 (va1 p1) b8a z) [] (T22.setFrames fs)) (by simp only [va2, if_neg j9_1] : (va2 p5 p2) = (15 : Int32))) j9)
    refine own_b X8 hx hby tb0 6 [] 59 (L_iiiiiiriiuu p1 p2 p3 p4 p5 (va1 p1) b8a (va2 p5 p2) (va3 p3)) [vr b8a] rfl ?_
    refine st11 _ ?_
    refine own_b X11 hx hby tb0 3 [] 65 _ [vi p4, vi 13] rfl ?_
    refine X11.ldcInt hx hown8 (mvT hZ8 (tw_0 hw)) (g := (mkF m 65 (L_iiiiiiriiuu p1 p2 p3 p4 p5 (va1 p1) b8a (va2 p5 p2) (va3 p3)) [vi p4, vi 13])) rfl (hb hby at_65) _ ?_
    show OS p e below T11 m 67 (L_iiiiiiriiuu p1 p2 p3 p4 p5 (va1 p1) b8a (va2 p5 p2) (va3 p3)) [vi 2147483647, vi p4, vi 13] _
    refine own_b X11 hx hby tb0 2 [] 69 _ [vi 3, vi (p4 &&& (2147483647 : Int32)), vi 13] rfl ?_
    refine iremM X11 hx (g := (mkF m 69 (L_iiiiiiriiuu p1 p2 p3 p4 p5 (va1 p1) b8a (va2 p5 p2) (va3 p3)) [vi 3, vi (p4 &&& (2147483647 : Int32)), vi 13])) rfl (hb hby at_69) rfl (by decide) ?_
    show OS p e below T11 m 70 (L_iiiiiiriiuu p1 p2 p3 p4 p5 (va1 p1) b8a (va2 p5 p2) (va3 p3)) [vi (va1 p4), vi 13] _
    refine own_b X11 hx hby tb0 6 [] 81 (L_iiiiiiriiiu p1 p2 p3 p4 p5 (va1 p1) b8a (va2 p5 p2) (va3 p3) ((13 : Int32) + (va1 p4))) [vi ((13 : Int32) + (va1 p4)), vi (va3 p3), vi (va2 p5 p2), vr b8a] rfl ?_
    refine st12 _ ?_
    refine own_b X12 hx hby tb0 2 [] 88 (L_iiiiiiriiir p1 p2 p3 p4 p5 (va1 p1) b8a (va2 p5 p2) (va3 p3) ((13 : Int32) + (va1 p4)) b13) [vr b13] rfl ?_
    refine st16 _ ?_
    refine own_b X16 hx hby tb0 1 [] 93 _ [vr b13, vr s3] rfl ?_
    refine st22.trans ?_
    show OS p e below T22 m 96 (L_iiiiiiriiir p1 p2 p3 p4 p5 (va1 p1) b8a (va2 p5 p2) (va3 p3) ((13 : Int32) + (va1 p4)) b13) [vr s3, vr s3] _
    refine Jvm.RoadKit.acmp (g := (mkF m 96 (L_iiiiiiriiir p1 p2 p3 p4 p5 (va1 p1) b8a (va2 p5 p2) (va3 p3) ((13 : Int32) + (va1 p4)) b13) [vr s3, vr s3])) X22 hx rfl rfl rfl (pc0 := 96) (pc' := 99) (same := true) rfl (hb hby at_96) rfl (decide_eq_true rfl) (by decide) (by decide) ?_
    show OS p e below T22 m 99 (L_iiiiiiriiir p1 p2 p3 p4 p5 (va1 p1) b8a (va2 p5 p2) (va3 p3) ((13 : Int32) + (va1 p4)) b13) [] _
    refine own_b X22 hx hby tb0 2 [] 104 _ [vi 1] rfl ?_
    exact retN X22 hx (t := .boolean) hret (by simp) (hb hby at_104) hr
  · show Q0 h0 n0 _ T22.heap _
    exact ⟨rfl, N22⟩
theorem rm0_3 (hw : OW Z a0) (p1 : Int32) (p2 : Int32) (p3 : Int32) (p4 : Int32) (p5 : Int32) (s1 : Addr) (s2 : Addr) (s3 : Addr) (s4 : Addr) (s5 : Addr) (s6 : Addr) (s7 : Addr) (s8 : Addr) (s9 : Addr) (s10 : Addr) (p90 : Int32) (rv0 : Value) (ks_s1 : ClassId) (ks_s6 : ClassId) (ks_s8 : ClassId) (ks_s10 : ClassId) (Z0 : n0 ≤ h0.size) (Sp0 : ab1 Z (.int p90)) (Sp1 : Old Z n0 h0) (Sp2 : ab2 Z rv0) (Sp3 : rv0.isRef = true) (Sp4 : ab3 Z (.ref s1)) (Sp5 : ab11 Z Z.heap s1) (Sp6 : Arv Z Z.heap s1 ks_s1 (.object "com/example/sinkwatch/sinkwatch/Flaw") (3 : Int32) [(.ref s2), (.ref s3), (.ref s4)] .null) (Sp7 : ab9 Z Z.heap s2 (.ref s5)) (Sp8 : ab10 Z Z.heap s5) (Sp9 : ab7 Z Z.heap s5 (.int (0 : Int32))) (Sp10 : ab8 Z Z.heap s5 (.ref s6)) (Sp11 : Arv Z Z.heap s6 ks_s6 .byte (13 : Int32) bl3 (.int (0 : Int32))) (Sp12 : ab9 Z Z.heap s3 (.ref s7)) (Sp13 : ab10 Z Z.heap s7) (Sp14 : ab7 Z Z.heap s7 (.int (0 : Int32))) (Sp15 : ab8 Z Z.heap s7 (.ref s8)) (Sp16 : Arv Z Z.heap s8 ks_s8 .byte (14 : Int32) bl1 (.int (0 : Int32))) (Sp17 : ab9 Z Z.heap s4 (.ref s9)) (Sp18 : ab10 Z Z.heap s9) (Sp19 : ab7 Z Z.heap s9 (.int (0 : Int32))) (Sp20 : ab8 Z Z.heap s9 (.ref s10)) (Sp21 : Arv Z Z.heap s10 ks_s10 .byte (13 : Int32) bl6 (.int (0 : Int32))) (Sp22 : ab4 Z (.ref s3)) (Sp23 : ab5 Z (.ref s4)) (Sp24 : ab6 Z (.ref s2)) (Sp25 : ¬ (p90 = (0 : Int32))) (H1 : (va1 p1) = (1 : Int32)) (H2 : ¬ ((va1 p1) = (2 : Int32))) (H3 : ¬ (p90 = (0 : Int32))) (H4 : ¬ (((13 : Int32) + (va1 p4)) = (12 : Int32))) (H5 : ¬ (((13 : Int32) + (va1 p4)) = (13 : Int32))) (H6 : ¬ (((13 : Int32) + (va1 p4)) = (14 : Int32))) :
    MC l Z ws h0 n0 p1 p2 p3 p4 p5 := by
  refine MetFree.of_bodySF (plainFor_of_name pn_3) hisR ?_
  intro p e s m args below meth c s₁ Bd hml0 hP hK
  obtain ⟨rfl, hZ, hh, hH⟩ := hP
  have hx := Bd.exec
  have hby := Bd.bytes
  have hml : c.maxLocals = 11 := hml0
  have hown : s.vm.findClass "com/example/sinkwatch/sinkwatch/FlawNamedPinLaw" = some m.cls := findClass_of_methodNamed Bd.named
  have hnm := (name_of_methodNamed Bd.named Bd.method).1
  have hret := Bd.returns
  have X0 : Stand p l e room_1 s m #[(vi p1), (vi p2), (vi p3), (vi p4), (vi p5)] below meth c s₁ [] 0 0 := Stand.of_body Bd
  have e0 : s₁.heap = h0 := by rw [← hh, Bd.state]; rfl
  have N0 := Fr.nil n0
  have pre0 : ∀ t, Steps p.tables e below (s₁.setTop (mkF m 0 #[si p1, si p2, si p3, si p4, si p5, .unset, .unset, .unset, .unset, .unset, .unset] [])) t → Steps p.tables e below (s₁.setTop (entryFrame m #[(vi p1), (vi p2), (vi p3), (vi p4), (vi p5)] maxLocals)) t := fun t k => castTop (ef0 m p1 p2 p3 p4 p5) k
  obtain ⟨b6a, T6, h6, k6, b6b, kl6, X6, e6, E6, hS6, hk6, hZ6, hown6, fa6, fb6, fc6, fd6, -, -, CH6, LT6, LN6, st6⟩ := ldcCH (s := s) (vm0 := s.vm) (show Stand _ _ _ _ (s.setVm s.vm) _ _ _ _ _ _ _ _ _ from X0) hx hZ hown (tw_1 hw) (own_wS hw) e0 (State.WarmedH.since (State.WarmedH.refl s) 0) (Nat.zero_le _) (own_EW hw) (List.mem_of_getElem? (i := 0) rfl) hH (vs := [(vi 115), (vi 113), (vi 108), (vi 45), (vi 105), (vi 110), (vi 106), (vi 101), (vi 99), (vi 116), (vi 105), (vi 111), (vi 110)]) (z := (13 : Int32)) (by decide +kernel) (by decide) (by decide) (g := (mkF m 8 (L_iiiiiiuuuuu p1 p2 p3 p4 p5 (va1 p1)) [])) rfl (hb hby at_8) (n := 52) (by decide) (by decide) (by decide) (by decide)
  have F7 := CH6.1
  obtain ⟨b8a, T8, h8, k8, b8b, kl8, X8, e8, E8, hS8, hk8, hZ8, hown8, fa8, fb8, fc8, fd8, -, -, CH8, LT8, LN8, st8⟩ := ldcCH (s := s) (vm0 := T6.vm) X6 hx hZ6 hown6 (tw_110 hw) (own_wS hw) e6 hS6 hk6 (own_EW hw) (List.mem_of_getElem? (i := 1) rfl) F7 (vs := [(vi 112), (vi 97), (vi 116), (vi 104), (vi 45), (vi 116), (vi 114), (vi 97), (vi 118), (vi 101), (vi 114), (vi 115), (vi 97), (vi 108)]) (z := (14 : Int32)) (by decide +kernel) (by decide) (by decide) (g := (mkF m 18 (L_iiiiiiruuuu p1 p2 p3 p4 p5 (va1 p1) b6a) [])) rfl (hb hby at_18) (n := 56) (by decide) (by decide) (by decide) (by decide)
  have F10 := ((Sp1.ext E6).ext E8)
  obtain ⟨T11, L11, _, X11, ⟨rfl, N11q, e11q⟩, st11⟩ := own_callV X8 hx hZ8 hown8 (tw_9 hw) (tw_10 hw) (notFace_of_selects (args := #[]) (mvT hZ8 (tw_12 hw))) (tw_12 hw) (tw_11 hw) (tw_2 hw) (tw_13 hw) (rm1_1 hw b8a b8b kl8 p90 (lx (lx Z0 E6) E8) fc8 fd8 fa8 Sp0 F10 H3 fb8) e8 fa8 (Ls := (L_iiiiiiriiuu p1 p2 p3 p4 p5 (va1 p1) b8a (va2 p5 p2) (va3 p3))) hml [] [] pd_1 0 (hb hby at_59)
  have N11 := Fr.app N0 N11q
  obtain ⟨T12, L12, _, X12, ⟨b13, b14, kk12_0, rfl, N12q, K12, qa12_0, qb12_0, qa12_1, qb12_1, qc12_0_1, f12_0, f12_1, f12_2, f12_3⟩, st12⟩ := own_callS X11 hx hZ8 hown8 (cw_9 hw) (rm3_3 hw b8a (va2 p5 p2) (va3 p3) ((13 : Int32) + (va1 p4)) b8b kl8 (14 : Int32) bl1 p90 rv0 (va5 p5 p2 p3) (va6 p5 p2 p3) (va7 p5 p2 p3) (va8 p5 p2 p3) (va9 p5 p2 p3) (va10 p5 p2 p3) (va11 p5 p2 p3) (va12 p5 p2 p3) (va13 p5 p2 p3) (va14 p5 p2 p3) (va15 p5 p2 p3) (va16 p5 p2 p3) (va17 p5 p2 p3) (va18 p5 p2 p3) (va19 p3) (lx (lx Z0 E6) E8) fc8 fd8 fb8 fa8 Sp0 Sp2 H3 (CVi 112) F10 Sp3 (CVi 97) (CVi 116) (CVi 104) (CVi 45) (CVi 116) (CVi 114) (CVi 97) (CVi 118) (CVi 101) (CVi 114) (CVi 115) (CVi 97) (CVi 108) CVo H4 H5 H6 (x255 112) (x255 97) (x255 116) (x255 104) (x255 45) (x255 116) (x255 114) (x255 97) (x255 118) (x255 101) (x255 114) (x255 115) (x255 97) (x255 108) x255o) e11q (Ls := (L_iiiiiiriiiu p1 p2 p3 p4 p5 (va1 p1) b8a (va2 p5 p2) (va3 p3) ((13 : Int32) + (va1 p4)))) hml [vr b8a, vi (va2 p5 p2), vi (va3 p3), vi ((13 : Int32) + (va1 p4))] [] pd_13 0 (hb hby at_81)
  have N12 := Fr.app N11 N12q
  have qd12_0 := Nat.le_trans (lx (lx (Nat.le_refl h0.size) E6) E8) qb12_0
  have qd12_1 := Nat.le_trans (lx (lx (Nat.le_refl h0.size) E6) E8) qb12_1
  have F15 := (F10.keep K12 all0)
  obtain ⟨T16, L16, _, X16, ⟨rfl, N16q, K16⟩, st16⟩ := own_callS X12 hx hZ8 hown8 (cw_12 hw) (rm16_4 hw b13 s1 ks_s1 s2 s3 s4 s5 s6 b14 ks_s6 kk12_0 (va22 p5 p2 p3) (va23 p5 p2 p3) (va24 p5 p2 p3) (va25 p5 p2 p3) (va26 p5 p2 p3) (va27 p5 p2 p3) (va28 p5 p2 p3) (va29 p5 p2 p3) (va30 p5 p2 p3) (va31 p5 p2 p3) (va32 p5 p2 p3) (va33 p5 p2 p3) (va34 p5 p2 p3) (va43 p5 p2 p3) (va48 p3) p90 s7 s8 ks_s8 s9 s10 ks_s10 (Nat.le_trans (lx (lx Z0 E6) E8) K12.1) Sp4 F15 Sp5 Sp6 Sp7 Sp8 f12_0 Sp9 f12_1 Sp10 f12_2 Sp11 f12_3 Sp0 H3 qa12_0 Sp12 Sp13 Sp14 Sp15 Sp16 Sp17 Sp18 Sp19 Sp20 Sp21) rfl (Ls := (L_iiiiiiriiir p1 p2 p3 p4 p5 (va1 p1) b8a (va2 p5 p2) (va3 p3) ((13 : Int32) + (va1 p4)) b13)) hml [vr b13] [] pd_17 0 (hb hby at_88)
  have N16 := Fr.app N12 N16q
  have F17 := (Exa.keep f12_0 K16)
  have F18 := (Fld.keep f12_1 K16 nin0)
  have F19 := (Fld.keep f12_2 K16 nin0)
  have F20 := (Arv.keep f12_3 K16 nin0)
  have F21 := (F15.keep K16 all0)
  have F23 := (Nat.le_trans (Nat.le_trans (lx (lx Z0 E6) E8) K12.1) K16.1)
  have F24 := CH8.1
  have F25 := (CHv.keep K12 all0 F24)
  have F26 := (CHv.keep K16 all0 F25)
  have F27 := (Safe.keep K12 all0 F24 (Safe.new qb12_0))
  have F28 := (Safe.keep K16 all0 F25 F27)
  obtain ⟨_, _, ⟨T22, L22, k22, n22⟩, -, Xq22, hSq22, gq22, ⟨Lc22, hQ22, l22, y22, z22⟩, st22⟩ := callSS X16 hx (y := y18) hown8 (mvT hZ8 (tw_106 hw)) (mvT hZ8 (tw_107 hw)) (mvT hZ8 (tw_24 hw)) (mvT hZ8 (tw_108 hw)) (by decide) (own_backH (s := s) (vm0 := T8.vm) (W := 1) (rm20_4 (ws := []) (h0 := T16.heap) hw b13 b14 kk12_0 (va22 p5 p2 p3) (va23 p5 p2 p3) (va24 p5 p2 p3) (va25 p5 p2 p3) (va26 p5 p2 p3) (va27 p5 p2 p3) (va28 p5 p2 p3) (va29 p5 p2 p3) (va30 p5 p2 p3) (va31 p5 p2 p3) (va32 p5 p2 p3) (va33 p5 p2 p3) (va34 p5 p2 p3) (va43 p5 p2 p3) (va48 p3) p90 F23 F17 F18 F19 F20 Sp0 H3 F21) hZ8 (tw_108 hw) (tw_24 hw) (by decide) (by decide) (own_EW hw) F26 (allS ⟨F17.lt, F28⟩ all0)) (g := (mkF m 93 (L_iiiiiiriiir p1 p2 p3 p4 p5 (va1 p1) b8a (va2 p5 p2) (va3 p3) ((13 : Int32) + (va1 p4)) b13) [vr b13, .null])) rfl (by rw [hml]; rfl) (argsL := [(vr b13)]) (rest := [.null]) (lenOf pd_17 rfl) rfl (by show 2 * 0 + _ ≤ _; exact Nat.le_of_eq rfl) (hb hby at_93) (fun _ _ => ⟨rfl, rfl, (by decide : 9 + 6 ≤ _), (by decide : 168 + 172 ≤ _)⟩)
  dsimp only [Pt.U, Pt.locs, Pt.cells, Pt.slots] at Xq22 l22 y22 z22 st22 hQ22
  subst l22 y22 z22
  obtain ⟨X22, hS22, hZ22, hown22⟩ := rebS (s := s) (vm0 := T8.vm) hS8 (n1 := T16.heap.size) (Nat.le_trans (Nat.le_trans hk8 K12.1) K16.1) Xq22 hSq22 gq22 hZ8 hown8
  obtain ⟨rfl, N22q, K22⟩ := hQ22
  have N22 := Fr.app N16 N22q
  obtain ⟨fs, hr, hrun, hended, hRE⟩ := X22.leaveW hS22 (Nat.le_refl _) (v := some (vi 1)) (fun h => by rw [hret] at h; cases h)
  refine ⟨_, _, pre0 _ ?_, hrun, hended, _, _, rfl, ?_, hRE.1, hRE.2.1, hRE.2.2.1, hRE.2.2.2.mono (by decide) (by decide)⟩
  · refine own_b X0 hx hby tb0 1 [] 1 _ [vi p1] rfl ?_
    refine X0.ldcInt hx hown (mvT hZ (tw_0 hw)) (g := (mkF m 1 (L_iiiiiuuuuuu p1 p2 p3 p4 p5) [vi p1])) rfl (hb hby at_1) _ ?_
    show OS p e below s₁ m 3 (L_iiiiiuuuuuu p1 p2 p3 p4 p5) [vi 2147483647, vi p1] _
    refine own_b X0 hx hby tb0 2 [] 5 _ [vi 3, vi (p1 &&& (2147483647 : Int32))] rfl ?_
    refine iremM X0 hx (g := (mkF m 5 (L_iiiiiuuuuuu p1 p2 p3 p4 p5) [vi 3, vi (p1 &&& (2147483647 : Int32))])) rfl (hb hby at_5) rfl (by decide) ?_
    show OS p e below s₁ m 6 (L_iiiiiuuuuuu p1 p2 p3 p4 p5) [vi (va1 p1)] _
    refine own_b X0 hx hby tb0 1 [] 8 (L_iiiiiiuuuuu p1 p2 p3 p4 p5 (va1 p1)) [] rfl ?_
    refine st6 _ ?_
    refine own_b X6 hx hby tb0 4 [false] 18 (L_iiiiiiruuuu p1 p2 p3 p4 p5 (va1 p1) b6a) [] (ai (teq H1).2 rfl) ?_
    refine st8 _ ?_
    refine own_b X8 hx hby tb0 11 [true] 42 (L_iiiiiiriuuu p1 p2 p3 p4 p5 (va1 p1) b8a (p2 &&& (15 : Int32))) [vi (p5 &&& (1 : Int32))] (ai (feq H2).2 rfl) ?_
    suffices j9 : OS p e below T8 m 49 (L_iiiiiiriuuu p1 p2 p3 p4 p5 (va1 p1) b8a (va2 p5 p2)) [] (T22.setFrames fs) by
      by_cases j9_1 : (p5 &&& (1 : Int32)) = (0 : Int32)
      ·
        refine own_b X8 hx hby tb0 1 [true] 49 _ [] (ai (teq j9_1).1 rfl) ?_
        exact (Eq.mp (congrArg (fun z => OS p e below T8 m 49 (L_iiiiiiriuuu p1 p2 p3 p4 p5 (va1 p1) b8a z) [] (T22.setFrames fs)) (by simp only [va2, if_pos j9_1] : (va2 p5 p2) = (p2 &&& (15 : Int32)))) j9)
      ·
        refine own_b X8 hx hby tb0 3 [false] 49 (L_iiiiiiriuuu p1 p2 p3 p4 p5 (va1 p1) b8a 15) [] (ai (feq j9_1).1 rfl) ?_
        exact (Eq.mp (congrArg (fun z => OS p e below T8 m 49 (L_iiiiiiriuuu p1 p2 p3 p4 p5 (va1 p1) b8a z) [] (T22.setFrames fs)) (by simp only [va2, if_neg j9_1] : (va2 p5 p2) = (15 : Int32))) j9)
    refine own_b X8 hx hby tb0 6 [] 59 (L_iiiiiiriiuu p1 p2 p3 p4 p5 (va1 p1) b8a (va2 p5 p2) (va3 p3)) [vr b8a] rfl ?_
    refine st11 _ ?_
    refine own_b X11 hx hby tb0 3 [] 65 _ [vi p4, vi 13] rfl ?_
    refine X11.ldcInt hx hown8 (mvT hZ8 (tw_0 hw)) (g := (mkF m 65 (L_iiiiiiriiuu p1 p2 p3 p4 p5 (va1 p1) b8a (va2 p5 p2) (va3 p3)) [vi p4, vi 13])) rfl (hb hby at_65) _ ?_
    show OS p e below T11 m 67 (L_iiiiiiriiuu p1 p2 p3 p4 p5 (va1 p1) b8a (va2 p5 p2) (va3 p3)) [vi 2147483647, vi p4, vi 13] _
    refine own_b X11 hx hby tb0 2 [] 69 _ [vi 3, vi (p4 &&& (2147483647 : Int32)), vi 13] rfl ?_
    refine iremM X11 hx (g := (mkF m 69 (L_iiiiiiriiuu p1 p2 p3 p4 p5 (va1 p1) b8a (va2 p5 p2) (va3 p3)) [vi 3, vi (p4 &&& (2147483647 : Int32)), vi 13])) rfl (hb hby at_69) rfl (by decide) ?_
    show OS p e below T11 m 70 (L_iiiiiiriiuu p1 p2 p3 p4 p5 (va1 p1) b8a (va2 p5 p2) (va3 p3)) [vi (va1 p4), vi 13] _
    refine own_b X11 hx hby tb0 6 [] 81 (L_iiiiiiriiiu p1 p2 p3 p4 p5 (va1 p1) b8a (va2 p5 p2) (va3 p3) ((13 : Int32) + (va1 p4))) [vi ((13 : Int32) + (va1 p4)), vi (va3 p3), vi (va2 p5 p2), vr b8a] rfl ?_
    refine st12 _ ?_
    refine own_b X12 hx hby tb0 2 [] 88 (L_iiiiiiriiir p1 p2 p3 p4 p5 (va1 p1) b8a (va2 p5 p2) (va3 p3) ((13 : Int32) + (va1 p4)) b13) [vr b13] rfl ?_
    refine st16 _ ?_
    refine own_b X16 hx hby tb0 1 [] 93 _ [vr b13, .null] rfl ?_
    refine st22.trans ?_
    show OS p e below T22 m 96 (L_iiiiiiriiir p1 p2 p3 p4 p5 (va1 p1) b8a (va2 p5 p2) (va3 p3) ((13 : Int32) + (va1 p4)) b13) [.null, .null] _
    refine Jvm.RoadKit.acmp (g := (mkF m 96 (L_iiiiiiriiir p1 p2 p3 p4 p5 (va1 p1) b8a (va2 p5 p2) (va3 p3) ((13 : Int32) + (va1 p4)) b13) [.null, .null])) X22 hx rfl rfl rfl (pc0 := 96) (pc' := 99) (same := true) rfl (hb hby at_96) rfl (decide_eq_true rfl) (by decide) (by decide) ?_
    show OS p e below T22 m 99 (L_iiiiiiriiir p1 p2 p3 p4 p5 (va1 p1) b8a (va2 p5 p2) (va3 p3) ((13 : Int32) + (va1 p4)) b13) [] _
    refine own_b X22 hx hby tb0 2 [] 104 _ [vi 1] rfl ?_
    exact retN X22 hx (t := .boolean) hret (by simp) (hb hby at_104) hr
  · show Q0 h0 n0 _ T22.heap _
    exact ⟨rfl, N22⟩
theorem rm0_4 (hw : OW Z a0) (p1 : Int32) (p2 : Int32) (p3 : Int32) (p4 : Int32) (p5 : Int32) (s1 : Addr) (s2 : Addr) (s3 : Addr) (s4 : Addr) (s5 : Addr) (s6 : Addr) (s7 : Addr) (s8 : Addr) (s9 : Addr) (s10 : Addr) (p90 : Int32) (rv0 : Value) (ks_s1 : ClassId) (ks_s6 : ClassId) (ks_s8 : ClassId) (ks_s10 : ClassId) (Z0 : n0 ≤ h0.size) (Sp0 : ab1 Z (.int p90)) (Sp1 : Old Z n0 h0) (Sp2 : ab2 Z rv0) (Sp3 : rv0.isRef = true) (Sp4 : ab3 Z (.ref s1)) (Sp5 : ab11 Z Z.heap s1) (Sp6 : Arv Z Z.heap s1 ks_s1 (.object "com/example/sinkwatch/sinkwatch/Flaw") (3 : Int32) [(.ref s2), (.ref s3), (.ref s4)] .null) (Sp7 : ab9 Z Z.heap s2 (.ref s5)) (Sp8 : ab10 Z Z.heap s5) (Sp9 : ab7 Z Z.heap s5 (.int (0 : Int32))) (Sp10 : ab8 Z Z.heap s5 (.ref s6)) (Sp11 : Arv Z Z.heap s6 ks_s6 .byte (13 : Int32) bl3 (.int (0 : Int32))) (Sp12 : ab9 Z Z.heap s3 (.ref s7)) (Sp13 : ab10 Z Z.heap s7) (Sp14 : ab7 Z Z.heap s7 (.int (0 : Int32))) (Sp15 : ab8 Z Z.heap s7 (.ref s8)) (Sp16 : Arv Z Z.heap s8 ks_s8 .byte (14 : Int32) bl1 (.int (0 : Int32))) (Sp17 : ab9 Z Z.heap s4 (.ref s9)) (Sp18 : ab10 Z Z.heap s9) (Sp19 : ab7 Z Z.heap s9 (.int (0 : Int32))) (Sp20 : ab8 Z Z.heap s9 (.ref s10)) (Sp21 : Arv Z Z.heap s10 ks_s10 .byte (13 : Int32) bl6 (.int (0 : Int32))) (Sp22 : ab4 Z (.ref s3)) (Sp23 : ab5 Z (.ref s4)) (Sp24 : ab6 Z (.ref s2)) (Sp25 : ¬ (p90 = (0 : Int32))) (H1 : ¬ ((va1 p1) = (1 : Int32))) (H2 : (va1 p1) = (2 : Int32)) (H3 : ¬ (p90 = (0 : Int32))) (H4 : ((12 : Int32) + (va1 p4)) = (12 : Int32)) :
    MC l Z ws h0 n0 p1 p2 p3 p4 p5 := by
  refine MetFree.of_bodySF (plainFor_of_name pn_3) hisR ?_
  intro p e s m args below meth c s₁ Bd hml0 hP hK
  obtain ⟨rfl, hZ, hh, hH⟩ := hP
  have hx := Bd.exec
  have hby := Bd.bytes
  have hml : c.maxLocals = 11 := hml0
  have hown : s.vm.findClass "com/example/sinkwatch/sinkwatch/FlawNamedPinLaw" = some m.cls := findClass_of_methodNamed Bd.named
  have hnm := (name_of_methodNamed Bd.named Bd.method).1
  have hret := Bd.returns
  have X0 : Stand p l e room_1 s m #[(vi p1), (vi p2), (vi p3), (vi p4), (vi p5)] below meth c s₁ [] 0 0 := Stand.of_body Bd
  have e0 : s₁.heap = h0 := by rw [← hh, Bd.state]; rfl
  have N0 := Fr.nil n0
  have pre0 : ∀ t, Steps p.tables e below (s₁.setTop (mkF m 0 #[si p1, si p2, si p3, si p4, si p5, .unset, .unset, .unset, .unset, .unset, .unset] [])) t → Steps p.tables e below (s₁.setTop (entryFrame m #[(vi p1), (vi p2), (vi p3), (vi p4), (vi p5)] maxLocals)) t := fun t k => castTop (ef0 m p1 p2 p3 p4 p5) k
  obtain ⟨b6a, T6, h6, k6, b6b, kl6, X6, e6, E6, hS6, hk6, hZ6, hown6, fa6, fb6, fc6, fd6, -, -, CH6, LT6, LN6, st6⟩ := ldcCH (s := s) (vm0 := s.vm) (show Stand _ _ _ _ (s.setVm s.vm) _ _ _ _ _ _ _ _ _ from X0) hx hZ hown (tw_1 hw) (own_wS hw) e0 (State.WarmedH.since (State.WarmedH.refl s) 0) (Nat.zero_le _) (own_EW hw) (List.mem_of_getElem? (i := 0) rfl) hH (vs := [(vi 115), (vi 113), (vi 108), (vi 45), (vi 105), (vi 110), (vi 106), (vi 101), (vi 99), (vi 116), (vi 105), (vi 111), (vi 110)]) (z := (13 : Int32)) (by decide +kernel) (by decide) (by decide) (g := (mkF m 8 (L_iiiiiiuuuuu p1 p2 p3 p4 p5 (va1 p1)) [])) rfl (hb hby at_8) (n := 52) (by decide) (by decide) (by decide) (by decide)
  have F7 := CH6.1
  obtain ⟨b8a, T8, h8, k8, b8b, kl8, X8, e8, E8, hS8, hk8, hZ8, hown8, fa8, fb8, fc8, fd8, -, -, CH8, LT8, LN8, st8⟩ := ldcCH (s := s) (vm0 := T6.vm) X6 hx hZ6 hown6 (tw_111 hw) (own_wS hw) e6 hS6 hk6 (own_EW hw) (List.mem_of_getElem? (i := 2) rfl) F7 (vs := [(vi 111), (vi 112), (vi 101), (vi 110), (vi 45), (vi 114), (vi 101), (vi 100), (vi 105), (vi 114), (vi 101), (vi 99), (vi 116)]) (z := (13 : Int32)) (by decide +kernel) (by decide) (by decide) (g := (mkF m 28 (L_iiiiiiruuuu p1 p2 p3 p4 p5 (va1 p1) b6a) [])) rfl (hb hby at_28) (n := 52) (by decide) (by decide) (by decide) (by decide)
  have F10 := ((Sp1.ext E6).ext E8)
  obtain ⟨T11, L11, _, X11, ⟨rfl, N11q, e11q⟩, st11⟩ := own_callV X8 hx hZ8 hown8 (tw_9 hw) (tw_10 hw) (notFace_of_selects (args := #[]) (mvT hZ8 (tw_12 hw))) (tw_12 hw) (tw_11 hw) (tw_2 hw) (tw_13 hw) (rm1_2 hw b8a b8b kl8 p90 (lx (lx Z0 E6) E8) fc8 fd8 fa8 Sp0 F10 H3 fb8) e8 fa8 (Ls := (L_iiiiiiriiuu p1 p2 p3 p4 p5 (va1 p1) b8a (va2 p5 p2) (va3 p3))) hml [] [] pd_1 0 (hb hby at_59)
  have N11 := Fr.app N0 N11q
  obtain ⟨T12, L12, _, X12, ⟨b13, b14, kk12_0, rfl, N12q, K12, qa12_0, qb12_0, qa12_1, qb12_1, qc12_0_1, f12_0, f12_1, f12_2, f12_3⟩, st12⟩ := own_callS X11 hx hZ8 hown8 (cw_9 hw) (rm3_4 hw b8a (va2 p5 p2) (va3 p3) ((12 : Int32) + (va1 p4)) b8b kl8 (13 : Int32) bl6 p90 rv0 (va49 p5 p2 p3) (va50 p5 p2 p3) (va51 p5 p2 p3) (va52 p5 p2 p3) (va9 p5 p2 p3) (va53 p5 p2 p3) (va54 p5 p2 p3) (va55 p5 p2 p3) (va56 p5 p2 p3) (va57 p5 p2 p3) (va58 p5 p2 p3) (va59 p5 p2 p3) (va60 p5 p2 p3) (va19 p3) (va19 p3) (lx (lx Z0 E6) E8) fc8 fd8 fb8 fa8 Sp0 Sp2 H3 (CVi 111) F10 Sp3 (CVi 112) (CVi 101) (CVi 110) (CVi 45) (CVi 114) (CVi 101) (CVi 100) (CVi 105) (CVi 114) (CVi 101) (CVi 99) (CVi 116) CVo CVo H4 (x255 111) (x255 112) (x255 101) (x255 110) (x255 45) (x255 114) (x255 101) (x255 100) (x255 105) (x255 114) (x255 101) (x255 99)) e11q (Ls := (L_iiiiiiriiiu p1 p2 p3 p4 p5 (va1 p1) b8a (va2 p5 p2) (va3 p3) ((12 : Int32) + (va1 p4)))) hml [vr b8a, vi (va2 p5 p2), vi (va3 p3), vi ((12 : Int32) + (va1 p4))] [] pd_13 0 (hb hby at_81)
  have N12 := Fr.app N11 N12q
  have qd12_0 := Nat.le_trans (lx (lx (Nat.le_refl h0.size) E6) E8) qb12_0
  have qd12_1 := Nat.le_trans (lx (lx (Nat.le_refl h0.size) E6) E8) qb12_1
  have F15 := (F10.keep K12 all0)
  obtain ⟨T16, L16, _, X16, ⟨rfl, N16q, K16⟩, st16⟩ := own_callS X12 hx hZ8 hown8 (cw_12 hw) (rm16_5 hw b13 s1 ks_s1 s2 s3 s4 s5 s6 b14 ks_s6 kk12_0 (va61 p5 p2 p3) (va62 p5 p2 p3) (va63 p5 p2 p3) (va64 p5 p2 p3) (va26 p5 p2 p3) (va65 p5 p2 p3) (va66 p5 p2 p3) (va67 p5 p2 p3) (va68 p5 p2 p3) (va69 p5 p2 p3) (va70 p5 p2 p3) (va71 p5 p2 p3) p90 s7 s8 ks_s8 s9 s10 ks_s10 (Nat.le_trans (lx (lx Z0 E6) E8) K12.1) Sp4 F15 Sp5 Sp6 Sp7 Sp8 f12_0 Sp9 f12_1 Sp10 f12_2 Sp11 f12_3 Sp0 H3 qa12_0 Sp12 Sp13 Sp14 Sp15 Sp16 Sp17 Sp18 Sp19 Sp20 Sp21) rfl (Ls := (L_iiiiiiriiir p1 p2 p3 p4 p5 (va1 p1) b8a (va2 p5 p2) (va3 p3) ((12 : Int32) + (va1 p4)) b13)) hml [vr b13] [] pd_17 0 (hb hby at_88)
  have N16 := Fr.app N12 N16q
  have F17 := (Exa.keep f12_0 K16)
  have F18 := (Fld.keep f12_1 K16 nin0)
  have F19 := (Fld.keep f12_2 K16 nin0)
  have F20 := (Arv.keep f12_3 K16 nin0)
  have F21 := (F15.keep K16 all0)
  have F23 := (Nat.le_trans (Nat.le_trans (lx (lx Z0 E6) E8) K12.1) K16.1)
  have F24 := CH8.1
  have F25 := (CHv.keep K12 all0 F24)
  have F26 := (CHv.keep K16 all0 F25)
  have F27 := (Safe.keep K12 all0 F24 (Safe.new qb12_0))
  have F28 := (Safe.keep K16 all0 F25 F27)
  obtain ⟨_, _, ⟨T22, L22, k22, n22⟩, -, Xq22, hSq22, gq22, ⟨Lc22, hQ22, l22, y22, z22⟩, st22⟩ := callSS X16 hx (y := y18) hown8 (mvT hZ8 (tw_106 hw)) (mvT hZ8 (tw_107 hw)) (mvT hZ8 (tw_24 hw)) (mvT hZ8 (tw_108 hw)) (by decide) (own_backH (s := s) (vm0 := T8.vm) (W := 1) (rm20_5 (ws := []) (h0 := T16.heap) hw b13 b14 kk12_0 (va61 p5 p2 p3) (va62 p5 p2 p3) (va63 p5 p2 p3) (va64 p5 p2 p3) (va26 p5 p2 p3) (va65 p5 p2 p3) (va66 p5 p2 p3) (va67 p5 p2 p3) (va68 p5 p2 p3) (va69 p5 p2 p3) (va70 p5 p2 p3) (va71 p5 p2 p3) p90 F23 F17 F18 F19 F20 Sp0 H3 F21) hZ8 (tw_108 hw) (tw_24 hw) (by decide) (by decide) (own_EW hw) F26 (allS ⟨F17.lt, F28⟩ all0)) (g := (mkF m 93 (L_iiiiiiriiir p1 p2 p3 p4 p5 (va1 p1) b8a (va2 p5 p2) (va3 p3) ((12 : Int32) + (va1 p4)) b13) [vr b13, .null])) rfl (by rw [hml]; rfl) (argsL := [(vr b13)]) (rest := [.null]) (lenOf pd_17 rfl) rfl (by show 2 * 0 + _ ≤ _; exact Nat.le_of_eq rfl) (hb hby at_93) (fun _ _ => ⟨rfl, rfl, (by decide : 9 + 6 ≤ _), (by decide : 158 + 172 ≤ _)⟩)
  dsimp only [Pt.U, Pt.locs, Pt.cells, Pt.slots] at Xq22 l22 y22 z22 st22 hQ22
  subst l22 y22 z22
  obtain ⟨X22, hS22, hZ22, hown22⟩ := rebS (s := s) (vm0 := T8.vm) hS8 (n1 := T16.heap.size) (Nat.le_trans (Nat.le_trans hk8 K12.1) K16.1) Xq22 hSq22 gq22 hZ8 hown8
  obtain ⟨rfl, N22q, K22⟩ := hQ22
  have N22 := Fr.app N16 N22q
  obtain ⟨fs, hr, hrun, hended, hRE⟩ := X22.leaveW hS22 (Nat.le_refl _) (v := some (vi 1)) (fun h => by rw [hret] at h; cases h)
  refine ⟨_, _, pre0 _ ?_, hrun, hended, _, _, rfl, ?_, hRE.1, hRE.2.1, hRE.2.2.1, hRE.2.2.2.mono (by decide) (by decide)⟩
  · refine own_b X0 hx hby tb0 1 [] 1 _ [vi p1] rfl ?_
    refine X0.ldcInt hx hown (mvT hZ (tw_0 hw)) (g := (mkF m 1 (L_iiiiiuuuuuu p1 p2 p3 p4 p5) [vi p1])) rfl (hb hby at_1) _ ?_
    show OS p e below s₁ m 3 (L_iiiiiuuuuuu p1 p2 p3 p4 p5) [vi 2147483647, vi p1] _
    refine own_b X0 hx hby tb0 2 [] 5 _ [vi 3, vi (p1 &&& (2147483647 : Int32))] rfl ?_
    refine iremM X0 hx (g := (mkF m 5 (L_iiiiiuuuuuu p1 p2 p3 p4 p5) [vi 3, vi (p1 &&& (2147483647 : Int32))])) rfl (hb hby at_5) rfl (by decide) ?_
    show OS p e below s₁ m 6 (L_iiiiiuuuuuu p1 p2 p3 p4 p5) [vi (va1 p1)] _
    refine own_b X0 hx hby tb0 1 [] 8 (L_iiiiiiuuuuu p1 p2 p3 p4 p5 (va1 p1)) [] rfl ?_
    refine st6 _ ?_
    refine own_b X6 hx hby tb0 7 [true, false] 28 (L_iiiiiiruuuu p1 p2 p3 p4 p5 (va1 p1) b6a) [] (ai (feq H1).2 (ai (teq H2).2 rfl)) ?_
    refine st8 _ ?_
    refine own_b X8 hx hby tb0 8 [] 42 (L_iiiiiiriuuu p1 p2 p3 p4 p5 (va1 p1) b8a (p2 &&& (15 : Int32))) [vi (p5 &&& (1 : Int32))] rfl ?_
    suffices j9 : OS p e below T8 m 49 (L_iiiiiiriuuu p1 p2 p3 p4 p5 (va1 p1) b8a (va2 p5 p2)) [] (T22.setFrames fs) by
      by_cases j9_1 : (p5 &&& (1 : Int32)) = (0 : Int32)
      ·
        refine own_b X8 hx hby tb0 1 [true] 49 _ [] (ai (teq j9_1).1 rfl) ?_
        exact (Eq.mp (congrArg (fun z => OS p e below T8 m 49 (L_iiiiiiriuuu p1 p2 p3 p4 p5 (va1 p1) b8a z) [] (T22.setFrames fs)) (by simp only [va2, if_pos j9_1] : (va2 p5 p2) = (p2 &&& (15 : Int32)))) j9)
      ·
        refine own_b X8 hx hby tb0 3 [false] 49 (L_iiiiiiriuuu p1 p2 p3 p4 p5 (va1 p1) b8a 15) [] (ai (feq j9_1).1 rfl) ?_
        exact (Eq.mp (congrArg (fun z => OS p e below T8 m 49 (L_iiiiiiriuuu p1 p2 p3 p4 p5 (va1 p1) b8a z) [] (T22.setFrames fs)) (by simp only [va2, if_neg j9_1] : (va2 p5 p2) = (15 : Int32))) j9)
    refine own_b X8 hx hby tb0 6 [] 59 (L_iiiiiiriiuu p1 p2 p3 p4 p5 (va1 p1) b8a (va2 p5 p2) (va3 p3)) [vr b8a] rfl ?_
    refine st11 _ ?_
    refine own_b X11 hx hby tb0 3 [] 65 _ [vi p4, vi 12] rfl ?_
    refine X11.ldcInt hx hown8 (mvT hZ8 (tw_0 hw)) (g := (mkF m 65 (L_iiiiiiriiuu p1 p2 p3 p4 p5 (va1 p1) b8a (va2 p5 p2) (va3 p3)) [vi p4, vi 12])) rfl (hb hby at_65) _ ?_
    show OS p e below T11 m 67 (L_iiiiiiriiuu p1 p2 p3 p4 p5 (va1 p1) b8a (va2 p5 p2) (va3 p3)) [vi 2147483647, vi p4, vi 12] _
    refine own_b X11 hx hby tb0 2 [] 69 _ [vi 3, vi (p4 &&& (2147483647 : Int32)), vi 12] rfl ?_
    refine iremM X11 hx (g := (mkF m 69 (L_iiiiiiriiuu p1 p2 p3 p4 p5 (va1 p1) b8a (va2 p5 p2) (va3 p3)) [vi 3, vi (p4 &&& (2147483647 : Int32)), vi 12])) rfl (hb hby at_69) rfl (by decide) ?_
    show OS p e below T11 m 70 (L_iiiiiiriiuu p1 p2 p3 p4 p5 (va1 p1) b8a (va2 p5 p2) (va3 p3)) [vi (va1 p4), vi 12] _
    refine own_b X11 hx hby tb0 6 [] 81 (L_iiiiiiriiiu p1 p2 p3 p4 p5 (va1 p1) b8a (va2 p5 p2) (va3 p3) ((12 : Int32) + (va1 p4))) [vi ((12 : Int32) + (va1 p4)), vi (va3 p3), vi (va2 p5 p2), vr b8a] rfl ?_
    refine st12 _ ?_
    refine own_b X12 hx hby tb0 2 [] 88 (L_iiiiiiriiir p1 p2 p3 p4 p5 (va1 p1) b8a (va2 p5 p2) (va3 p3) ((12 : Int32) + (va1 p4)) b13) [vr b13] rfl ?_
    refine st16 _ ?_
    refine own_b X16 hx hby tb0 1 [] 93 _ [vr b13, .null] rfl ?_
    refine st22.trans ?_
    show OS p e below T22 m 96 (L_iiiiiiriiir p1 p2 p3 p4 p5 (va1 p1) b8a (va2 p5 p2) (va3 p3) ((12 : Int32) + (va1 p4)) b13) [.null, .null] _
    refine Jvm.RoadKit.acmp (g := (mkF m 96 (L_iiiiiiriiir p1 p2 p3 p4 p5 (va1 p1) b8a (va2 p5 p2) (va3 p3) ((12 : Int32) + (va1 p4)) b13) [.null, .null])) X22 hx rfl rfl rfl (pc0 := 96) (pc' := 99) (same := true) rfl (hb hby at_96) rfl (decide_eq_true rfl) (by decide) (by decide) ?_
    show OS p e below T22 m 99 (L_iiiiiiriiir p1 p2 p3 p4 p5 (va1 p1) b8a (va2 p5 p2) (va3 p3) ((12 : Int32) + (va1 p4)) b13) [] _
    refine own_b X22 hx hby tb0 2 [] 104 _ [vi 1] rfl ?_
    exact retN X22 hx (t := .boolean) hret (by simp) (hb hby at_104) hr
  · show Q0 h0 n0 _ T22.heap _
    exact ⟨rfl, N22⟩
theorem rm0_5 (hw : OW Z a0) (p1 : Int32) (p2 : Int32) (p3 : Int32) (p4 : Int32) (p5 : Int32) (s1 : Addr) (s2 : Addr) (s3 : Addr) (s4 : Addr) (s5 : Addr) (s6 : Addr) (s7 : Addr) (s8 : Addr) (s9 : Addr) (s10 : Addr) (p90 : Int32) (rv0 : Value) (ks_s1 : ClassId) (ks_s6 : ClassId) (ks_s8 : ClassId) (ks_s10 : ClassId) (Z0 : n0 ≤ h0.size) (Sp0 : ab1 Z (.int p90)) (Sp1 : Old Z n0 h0) (Sp2 : ab2 Z rv0) (Sp3 : rv0.isRef = true) (Sp4 : ab3 Z (.ref s1)) (Sp5 : ab11 Z Z.heap s1) (Sp6 : Arv Z Z.heap s1 ks_s1 (.object "com/example/sinkwatch/sinkwatch/Flaw") (3 : Int32) [(.ref s2), (.ref s3), (.ref s4)] .null) (Sp7 : ab9 Z Z.heap s2 (.ref s5)) (Sp8 : ab10 Z Z.heap s5) (Sp9 : ab7 Z Z.heap s5 (.int (0 : Int32))) (Sp10 : ab8 Z Z.heap s5 (.ref s6)) (Sp11 : Arv Z Z.heap s6 ks_s6 .byte (13 : Int32) bl3 (.int (0 : Int32))) (Sp12 : ab9 Z Z.heap s3 (.ref s7)) (Sp13 : ab10 Z Z.heap s7) (Sp14 : ab7 Z Z.heap s7 (.int (0 : Int32))) (Sp15 : ab8 Z Z.heap s7 (.ref s8)) (Sp16 : Arv Z Z.heap s8 ks_s8 .byte (14 : Int32) bl1 (.int (0 : Int32))) (Sp17 : ab9 Z Z.heap s4 (.ref s9)) (Sp18 : ab10 Z Z.heap s9) (Sp19 : ab7 Z Z.heap s9 (.int (0 : Int32))) (Sp20 : ab8 Z Z.heap s9 (.ref s10)) (Sp21 : Arv Z Z.heap s10 ks_s10 .byte (13 : Int32) bl6 (.int (0 : Int32))) (Sp22 : ab4 Z (.ref s3)) (Sp23 : ab5 Z (.ref s4)) (Sp24 : ab6 Z (.ref s2)) (Sp25 : ¬ (p90 = (0 : Int32))) (H1 : ¬ ((va1 p1) = (1 : Int32))) (H2 : (va1 p1) = (2 : Int32)) (H3 : ¬ (p90 = (0 : Int32))) (H4 : ¬ (((12 : Int32) + (va1 p4)) = (12 : Int32))) (H5 : ((12 : Int32) + (va1 p4)) = (13 : Int32)) (H6 : (va73 p5 p2 p3) = (0 : Int32)) (H7 : (va74 p5 p2 p3) = (0 : Int32)) (H8 : (va75 p5 p2 p3) = (0 : Int32)) (H9 : (va76 p5 p2 p3) = (0 : Int32)) :
    MC l Z ws h0 n0 p1 p2 p3 p4 p5 := by
  refine MetFree.of_bodySF (plainFor_of_name pn_3) hisR ?_
  intro p e s m args below meth c s₁ Bd hml0 hP hK
  obtain ⟨rfl, hZ, hh, hH⟩ := hP
  have hx := Bd.exec
  have hby := Bd.bytes
  have hml : c.maxLocals = 11 := hml0
  have hown : s.vm.findClass "com/example/sinkwatch/sinkwatch/FlawNamedPinLaw" = some m.cls := findClass_of_methodNamed Bd.named
  have hnm := (name_of_methodNamed Bd.named Bd.method).1
  have hret := Bd.returns
  have X0 : Stand p l e room_1 s m #[(vi p1), (vi p2), (vi p3), (vi p4), (vi p5)] below meth c s₁ [] 0 0 := Stand.of_body Bd
  have e0 : s₁.heap = h0 := by rw [← hh, Bd.state]; rfl
  have N0 := Fr.nil n0
  have pre0 : ∀ t, Steps p.tables e below (s₁.setTop (mkF m 0 #[si p1, si p2, si p3, si p4, si p5, .unset, .unset, .unset, .unset, .unset, .unset] [])) t → Steps p.tables e below (s₁.setTop (entryFrame m #[(vi p1), (vi p2), (vi p3), (vi p4), (vi p5)] maxLocals)) t := fun t k => castTop (ef0 m p1 p2 p3 p4 p5) k
  obtain ⟨b6a, T6, h6, k6, b6b, kl6, X6, e6, E6, hS6, hk6, hZ6, hown6, fa6, fb6, fc6, fd6, -, -, CH6, LT6, LN6, st6⟩ := ldcCH (s := s) (vm0 := s.vm) (show Stand _ _ _ _ (s.setVm s.vm) _ _ _ _ _ _ _ _ _ from X0) hx hZ hown (tw_1 hw) (own_wS hw) e0 (State.WarmedH.since (State.WarmedH.refl s) 0) (Nat.zero_le _) (own_EW hw) (List.mem_of_getElem? (i := 0) rfl) hH (vs := [(vi 115), (vi 113), (vi 108), (vi 45), (vi 105), (vi 110), (vi 106), (vi 101), (vi 99), (vi 116), (vi 105), (vi 111), (vi 110)]) (z := (13 : Int32)) (by decide +kernel) (by decide) (by decide) (g := (mkF m 8 (L_iiiiiiuuuuu p1 p2 p3 p4 p5 (va1 p1)) [])) rfl (hb hby at_8) (n := 52) (by decide) (by decide) (by decide) (by decide)
  have F7 := CH6.1
  obtain ⟨b8a, T8, h8, k8, b8b, kl8, X8, e8, E8, hS8, hk8, hZ8, hown8, fa8, fb8, fc8, fd8, -, -, CH8, LT8, LN8, st8⟩ := ldcCH (s := s) (vm0 := T6.vm) X6 hx hZ6 hown6 (tw_111 hw) (own_wS hw) e6 hS6 hk6 (own_EW hw) (List.mem_of_getElem? (i := 2) rfl) F7 (vs := [(vi 111), (vi 112), (vi 101), (vi 110), (vi 45), (vi 114), (vi 101), (vi 100), (vi 105), (vi 114), (vi 101), (vi 99), (vi 116)]) (z := (13 : Int32)) (by decide +kernel) (by decide) (by decide) (g := (mkF m 28 (L_iiiiiiruuuu p1 p2 p3 p4 p5 (va1 p1) b6a) [])) rfl (hb hby at_28) (n := 52) (by decide) (by decide) (by decide) (by decide)
  have F10 := ((Sp1.ext E6).ext E8)
  obtain ⟨T11, L11, _, X11, ⟨rfl, N11q, e11q⟩, st11⟩ := own_callV X8 hx hZ8 hown8 (tw_9 hw) (tw_10 hw) (notFace_of_selects (args := #[]) (mvT hZ8 (tw_12 hw))) (tw_12 hw) (tw_11 hw) (tw_2 hw) (tw_13 hw) (rm1_2 hw b8a b8b kl8 p90 (lx (lx Z0 E6) E8) fc8 fd8 fa8 Sp0 F10 H3 fb8) e8 fa8 (Ls := (L_iiiiiiriiuu p1 p2 p3 p4 p5 (va1 p1) b8a (va2 p5 p2) (va3 p3))) hml [] [] pd_1 0 (hb hby at_59)
  have N11 := Fr.app N0 N11q
  obtain ⟨T12, L12, _, X12, ⟨b13, b14, kk12_0, rfl, N12q, K12, qa12_0, qb12_0, qa12_1, qb12_1, qc12_0_1, f12_0, f12_1, f12_2, f12_3⟩, st12⟩ := own_callS X11 hx hZ8 hown8 (cw_9 hw) (rm3_1 hw b8a (va2 p5 p2) (va3 p3) ((12 : Int32) + (va1 p4)) b8b kl8 (13 : Int32) bl6 p90 rv0 (va49 p5 p2 p3) (va50 p5 p2 p3) (va51 p5 p2 p3) (va52 p5 p2 p3) (va9 p5 p2 p3) (va53 p5 p2 p3) (va54 p5 p2 p3) (va55 p5 p2 p3) (va56 p5 p2 p3) (va57 p5 p2 p3) (va58 p5 p2 p3) (va59 p5 p2 p3) (va60 p5 p2 p3) (va19 p3) (va19 p3) (lx (lx Z0 E6) E8) fc8 fd8 fb8 fa8 Sp0 Sp2 H3 (CVi 111) F10 Sp3 (CVi 112) (CVi 101) (CVi 110) (CVi 45) (CVi 114) (CVi 101) (CVi 100) (CVi 105) (CVi 114) (CVi 101) (CVi 99) (CVi 116) CVo CVo H4 H5 (x255 111) (x255 112) (x255 101) (x255 110) (x255 45) (x255 114) (x255 101) (x255 100) (x255 105) (x255 114) (x255 101) (x255 99) (x255 116)) e11q (Ls := (L_iiiiiiriiiu p1 p2 p3 p4 p5 (va1 p1) b8a (va2 p5 p2) (va3 p3) ((12 : Int32) + (va1 p4)))) hml [vr b8a, vi (va2 p5 p2), vi (va3 p3), vi ((12 : Int32) + (va1 p4))] [] pd_13 0 (hb hby at_81)
  have N12 := Fr.app N11 N12q
  have qd12_0 := Nat.le_trans (lx (lx (Nat.le_refl h0.size) E6) E8) qb12_0
  have qd12_1 := Nat.le_trans (lx (lx (Nat.le_refl h0.size) E6) E8) qb12_1
  have F15 := (F10.keep K12 all0)
  obtain ⟨T16, L16, _, X16, ⟨rfl, N16q, K16⟩, st16⟩ := own_callS X12 hx hZ8 hown8 (cw_12 hw) (rm16_1 hw b13 s1 ks_s1 s2 s3 s4 s5 s6 b14 ks_s6 kk12_0 (va61 p5 p2 p3) (va62 p5 p2 p3) (va63 p5 p2 p3) (va64 p5 p2 p3) (va26 p5 p2 p3) (va65 p5 p2 p3) (va66 p5 p2 p3) (va67 p5 p2 p3) (va68 p5 p2 p3) (va69 p5 p2 p3) (va70 p5 p2 p3) (va71 p5 p2 p3) (va72 p5 p2 p3) p90 s7 s8 ks_s8 s9 s10 ks_s10 (Nat.le_trans (lx (lx Z0 E6) E8) K12.1) Sp4 F15 Sp5 Sp6 Sp7 Sp8 f12_0 Sp9 f12_1 Sp10 f12_2 Sp11 f12_3 Sp0 H3 qa12_0 H6 Sp12 Sp13 Sp14 Sp15 Sp16 Sp17 Sp18 Sp19 Sp20 Sp21 H7) rfl (Ls := (L_iiiiiiriiir p1 p2 p3 p4 p5 (va1 p1) b8a (va2 p5 p2) (va3 p3) ((12 : Int32) + (va1 p4)) b13)) hml [vr b13] [] pd_17 0 (hb hby at_88)
  have N16 := Fr.app N12 N16q
  have F17 := (Exa.keep f12_0 K16)
  have F18 := (Fld.keep f12_1 K16 nin0)
  have F19 := (Fld.keep f12_2 K16 nin0)
  have F20 := (Arv.keep f12_3 K16 nin0)
  have F21 := (F15.keep K16 all0)
  have F23 := (Nat.le_trans (Nat.le_trans (lx (lx Z0 E6) E8) K12.1) K16.1)
  have F24 := CH8.1
  have F25 := (CHv.keep K12 all0 F24)
  have F26 := (CHv.keep K16 all0 F25)
  have F27 := (Safe.keep K12 all0 F24 (Safe.new qb12_0))
  have F28 := (Safe.keep K16 all0 F25 F27)
  obtain ⟨_, _, ⟨T22, L22, k22, n22⟩, -, Xq22, hSq22, gq22, ⟨Lc22, hQ22, l22, y22, z22⟩, st22⟩ := callSS X16 hx (y := y18) hown8 (mvT hZ8 (tw_106 hw)) (mvT hZ8 (tw_107 hw)) (mvT hZ8 (tw_24 hw)) (mvT hZ8 (tw_108 hw)) (by decide) (own_backH (s := s) (vm0 := T8.vm) (W := 1) (rm20_1 (ws := []) (h0 := T16.heap) hw b13 b14 kk12_0 (va61 p5 p2 p3) (va62 p5 p2 p3) (va63 p5 p2 p3) (va64 p5 p2 p3) (va26 p5 p2 p3) (va65 p5 p2 p3) (va66 p5 p2 p3) (va67 p5 p2 p3) (va68 p5 p2 p3) (va69 p5 p2 p3) (va70 p5 p2 p3) (va71 p5 p2 p3) (va72 p5 p2 p3) p90 F23 F17 F18 F19 F20 Sp0 H3 F21 H8 H9) hZ8 (tw_108 hw) (tw_24 hw) (by decide) (by decide) (own_EW hw) F26 (allS ⟨F17.lt, F28⟩ all0)) (g := (mkF m 93 (L_iiiiiiriiir p1 p2 p3 p4 p5 (va1 p1) b8a (va2 p5 p2) (va3 p3) ((12 : Int32) + (va1 p4)) b13) [vr b13, .null])) rfl (by rw [hml]; rfl) (argsL := [(vr b13)]) (rest := [.null]) (lenOf pd_17 rfl) rfl (by show 2 * 0 + _ ≤ _; exact Nat.le_of_eq rfl) (hb hby at_93) (fun _ _ => ⟨rfl, rfl, (by decide : 9 + 6 ≤ _), (by decide : 160 + 172 ≤ _)⟩)
  dsimp only [Pt.U, Pt.locs, Pt.cells, Pt.slots] at Xq22 l22 y22 z22 st22 hQ22
  subst l22 y22 z22
  obtain ⟨X22, hS22, hZ22, hown22⟩ := rebS (s := s) (vm0 := T8.vm) hS8 (n1 := T16.heap.size) (Nat.le_trans (Nat.le_trans hk8 K12.1) K16.1) Xq22 hSq22 gq22 hZ8 hown8
  obtain ⟨rfl, N22q, K22⟩ := hQ22
  have N22 := Fr.app N16 N22q
  obtain ⟨fs, hr, hrun, hended, hRE⟩ := X22.leaveW hS22 (Nat.le_refl _) (v := some (vi 1)) (fun h => by rw [hret] at h; cases h)
  refine ⟨_, _, pre0 _ ?_, hrun, hended, _, _, rfl, ?_, hRE.1, hRE.2.1, hRE.2.2.1, hRE.2.2.2.mono (by decide) (by decide)⟩
  · refine own_b X0 hx hby tb0 1 [] 1 _ [vi p1] rfl ?_
    refine X0.ldcInt hx hown (mvT hZ (tw_0 hw)) (g := (mkF m 1 (L_iiiiiuuuuuu p1 p2 p3 p4 p5) [vi p1])) rfl (hb hby at_1) _ ?_
    show OS p e below s₁ m 3 (L_iiiiiuuuuuu p1 p2 p3 p4 p5) [vi 2147483647, vi p1] _
    refine own_b X0 hx hby tb0 2 [] 5 _ [vi 3, vi (p1 &&& (2147483647 : Int32))] rfl ?_
    refine iremM X0 hx (g := (mkF m 5 (L_iiiiiuuuuuu p1 p2 p3 p4 p5) [vi 3, vi (p1 &&& (2147483647 : Int32))])) rfl (hb hby at_5) rfl (by decide) ?_
    show OS p e below s₁ m 6 (L_iiiiiuuuuuu p1 p2 p3 p4 p5) [vi (va1 p1)] _
    refine own_b X0 hx hby tb0 1 [] 8 (L_iiiiiiuuuuu p1 p2 p3 p4 p5 (va1 p1)) [] rfl ?_
    refine st6 _ ?_
    refine own_b X6 hx hby tb0 7 [true, false] 28 (L_iiiiiiruuuu p1 p2 p3 p4 p5 (va1 p1) b6a) [] (ai (feq H1).2 (ai (teq H2).2 rfl)) ?_
    refine st8 _ ?_
    refine own_b X8 hx hby tb0 8 [] 42 (L_iiiiiiriuuu p1 p2 p3 p4 p5 (va1 p1) b8a (p2 &&& (15 : Int32))) [vi (p5 &&& (1 : Int32))] rfl ?_
    suffices j9 : OS p e below T8 m 49 (L_iiiiiiriuuu p1 p2 p3 p4 p5 (va1 p1) b8a (va2 p5 p2)) [] (T22.setFrames fs) by
      by_cases j9_1 : (p5 &&& (1 : Int32)) = (0 : Int32)
      ·
        refine own_b X8 hx hby tb0 1 [true] 49 _ [] (ai (teq j9_1).1 rfl) ?_
        exact (Eq.mp (congrArg (fun z => OS p e below T8 m 49 (L_iiiiiiriuuu p1 p2 p3 p4 p5 (va1 p1) b8a z) [] (T22.setFrames fs)) (by simp only [va2, if_pos j9_1] : (va2 p5 p2) = (p2 &&& (15 : Int32)))) j9)
      ·
        refine own_b X8 hx hby tb0 3 [false] 49 (L_iiiiiiriuuu p1 p2 p3 p4 p5 (va1 p1) b8a 15) [] (ai (feq j9_1).1 rfl) ?_
        exact (Eq.mp (congrArg (fun z => OS p e below T8 m 49 (L_iiiiiiriuuu p1 p2 p3 p4 p5 (va1 p1) b8a z) [] (T22.setFrames fs)) (by simp only [va2, if_neg j9_1] : (va2 p5 p2) = (15 : Int32))) j9)
    refine own_b X8 hx hby tb0 6 [] 59 (L_iiiiiiriiuu p1 p2 p3 p4 p5 (va1 p1) b8a (va2 p5 p2) (va3 p3)) [vr b8a] rfl ?_
    refine st11 _ ?_
    refine own_b X11 hx hby tb0 3 [] 65 _ [vi p4, vi 12] rfl ?_
    refine X11.ldcInt hx hown8 (mvT hZ8 (tw_0 hw)) (g := (mkF m 65 (L_iiiiiiriiuu p1 p2 p3 p4 p5 (va1 p1) b8a (va2 p5 p2) (va3 p3)) [vi p4, vi 12])) rfl (hb hby at_65) _ ?_
    show OS p e below T11 m 67 (L_iiiiiiriiuu p1 p2 p3 p4 p5 (va1 p1) b8a (va2 p5 p2) (va3 p3)) [vi 2147483647, vi p4, vi 12] _
    refine own_b X11 hx hby tb0 2 [] 69 _ [vi 3, vi (p4 &&& (2147483647 : Int32)), vi 12] rfl ?_
    refine iremM X11 hx (g := (mkF m 69 (L_iiiiiiriiuu p1 p2 p3 p4 p5 (va1 p1) b8a (va2 p5 p2) (va3 p3)) [vi 3, vi (p4 &&& (2147483647 : Int32)), vi 12])) rfl (hb hby at_69) rfl (by decide) ?_
    show OS p e below T11 m 70 (L_iiiiiiriiuu p1 p2 p3 p4 p5 (va1 p1) b8a (va2 p5 p2) (va3 p3)) [vi (va1 p4), vi 12] _
    refine own_b X11 hx hby tb0 6 [] 81 (L_iiiiiiriiiu p1 p2 p3 p4 p5 (va1 p1) b8a (va2 p5 p2) (va3 p3) ((12 : Int32) + (va1 p4))) [vi ((12 : Int32) + (va1 p4)), vi (va3 p3), vi (va2 p5 p2), vr b8a] rfl ?_
    refine st12 _ ?_
    refine own_b X12 hx hby tb0 2 [] 88 (L_iiiiiiriiir p1 p2 p3 p4 p5 (va1 p1) b8a (va2 p5 p2) (va3 p3) ((12 : Int32) + (va1 p4)) b13) [vr b13] rfl ?_
    refine st16 _ ?_
    refine own_b X16 hx hby tb0 1 [] 93 _ [vr b13, .null] rfl ?_
    refine st22.trans ?_
    show OS p e below T22 m 96 (L_iiiiiiriiir p1 p2 p3 p4 p5 (va1 p1) b8a (va2 p5 p2) (va3 p3) ((12 : Int32) + (va1 p4)) b13) [.null, .null] _
    refine Jvm.RoadKit.acmp (g := (mkF m 96 (L_iiiiiiriiir p1 p2 p3 p4 p5 (va1 p1) b8a (va2 p5 p2) (va3 p3) ((12 : Int32) + (va1 p4)) b13) [.null, .null])) X22 hx rfl rfl rfl (pc0 := 96) (pc' := 99) (same := true) rfl (hb hby at_96) rfl (decide_eq_true rfl) (by decide) (by decide) ?_
    show OS p e below T22 m 99 (L_iiiiiiriiir p1 p2 p3 p4 p5 (va1 p1) b8a (va2 p5 p2) (va3 p3) ((12 : Int32) + (va1 p4)) b13) [] _
    refine own_b X22 hx hby tb0 2 [] 104 _ [vi 1] rfl ?_
    exact retN X22 hx (t := .boolean) hret (by simp) (hb hby at_104) hr
  · show Q0 h0 n0 _ T22.heap _
    exact ⟨rfl, N22⟩
theorem rm0_6 (hw : OW Z a0) (p1 : Int32) (p2 : Int32) (p3 : Int32) (p4 : Int32) (p5 : Int32) (s1 : Addr) (s2 : Addr) (s3 : Addr) (s4 : Addr) (s5 : Addr) (s6 : Addr) (s7 : Addr) (s8 : Addr) (s9 : Addr) (s10 : Addr) (p90 : Int32) (rv0 : Value) (ks_s1 : ClassId) (ks_s6 : ClassId) (ks_s8 : ClassId) (ks_s10 : ClassId) (Z0 : n0 ≤ h0.size) (Sp0 : ab1 Z (.int p90)) (Sp1 : Old Z n0 h0) (Sp2 : ab2 Z rv0) (Sp3 : rv0.isRef = true) (Sp4 : ab3 Z (.ref s1)) (Sp5 : ab11 Z Z.heap s1) (Sp6 : Arv Z Z.heap s1 ks_s1 (.object "com/example/sinkwatch/sinkwatch/Flaw") (3 : Int32) [(.ref s2), (.ref s3), (.ref s4)] .null) (Sp7 : ab9 Z Z.heap s2 (.ref s5)) (Sp8 : ab10 Z Z.heap s5) (Sp9 : ab7 Z Z.heap s5 (.int (0 : Int32))) (Sp10 : ab8 Z Z.heap s5 (.ref s6)) (Sp11 : Arv Z Z.heap s6 ks_s6 .byte (13 : Int32) bl3 (.int (0 : Int32))) (Sp12 : ab9 Z Z.heap s3 (.ref s7)) (Sp13 : ab10 Z Z.heap s7) (Sp14 : ab7 Z Z.heap s7 (.int (0 : Int32))) (Sp15 : ab8 Z Z.heap s7 (.ref s8)) (Sp16 : Arv Z Z.heap s8 ks_s8 .byte (14 : Int32) bl1 (.int (0 : Int32))) (Sp17 : ab9 Z Z.heap s4 (.ref s9)) (Sp18 : ab10 Z Z.heap s9) (Sp19 : ab7 Z Z.heap s9 (.int (0 : Int32))) (Sp20 : ab8 Z Z.heap s9 (.ref s10)) (Sp21 : Arv Z Z.heap s10 ks_s10 .byte (13 : Int32) bl6 (.int (0 : Int32))) (Sp22 : ab4 Z (.ref s3)) (Sp23 : ab5 Z (.ref s4)) (Sp24 : ab6 Z (.ref s2)) (Sp25 : ¬ (p90 = (0 : Int32))) (H1 : ¬ ((va1 p1) = (1 : Int32))) (H2 : (va1 p1) = (2 : Int32)) (H3 : ¬ (p90 = (0 : Int32))) (H4 : ¬ (((12 : Int32) + (va1 p4)) = (12 : Int32))) (H5 : ((12 : Int32) + (va1 p4)) = (13 : Int32)) (H6 : (va73 p5 p2 p3) = (0 : Int32)) (H7 : ¬ ((va74 p5 p2 p3) = (0 : Int32))) (H8 : (va75 p5 p2 p3) = (0 : Int32)) (H9 : ¬ ((va76 p5 p2 p3) = (0 : Int32))) :
    MC l Z ws h0 n0 p1 p2 p3 p4 p5 := by
  refine MetFree.of_bodySF (plainFor_of_name pn_3) hisR ?_
  intro p e s m args below meth c s₁ Bd hml0 hP hK
  obtain ⟨rfl, hZ, hh, hH⟩ := hP
  have hx := Bd.exec
  have hby := Bd.bytes
  have hml : c.maxLocals = 11 := hml0
  have hown : s.vm.findClass "com/example/sinkwatch/sinkwatch/FlawNamedPinLaw" = some m.cls := findClass_of_methodNamed Bd.named
  have hnm := (name_of_methodNamed Bd.named Bd.method).1
  have hret := Bd.returns
  have X0 : Stand p l e room_1 s m #[(vi p1), (vi p2), (vi p3), (vi p4), (vi p5)] below meth c s₁ [] 0 0 := Stand.of_body Bd
  have e0 : s₁.heap = h0 := by rw [← hh, Bd.state]; rfl
  have N0 := Fr.nil n0
  have pre0 : ∀ t, Steps p.tables e below (s₁.setTop (mkF m 0 #[si p1, si p2, si p3, si p4, si p5, .unset, .unset, .unset, .unset, .unset, .unset] [])) t → Steps p.tables e below (s₁.setTop (entryFrame m #[(vi p1), (vi p2), (vi p3), (vi p4), (vi p5)] maxLocals)) t := fun t k => castTop (ef0 m p1 p2 p3 p4 p5) k
  obtain ⟨b6a, T6, h6, k6, b6b, kl6, X6, e6, E6, hS6, hk6, hZ6, hown6, fa6, fb6, fc6, fd6, -, -, CH6, LT6, LN6, st6⟩ := ldcCH (s := s) (vm0 := s.vm) (show Stand _ _ _ _ (s.setVm s.vm) _ _ _ _ _ _ _ _ _ from X0) hx hZ hown (tw_1 hw) (own_wS hw) e0 (State.WarmedH.since (State.WarmedH.refl s) 0) (Nat.zero_le _) (own_EW hw) (List.mem_of_getElem? (i := 0) rfl) hH (vs := [(vi 115), (vi 113), (vi 108), (vi 45), (vi 105), (vi 110), (vi 106), (vi 101), (vi 99), (vi 116), (vi 105), (vi 111), (vi 110)]) (z := (13 : Int32)) (by decide +kernel) (by decide) (by decide) (g := (mkF m 8 (L_iiiiiiuuuuu p1 p2 p3 p4 p5 (va1 p1)) [])) rfl (hb hby at_8) (n := 52) (by decide) (by decide) (by decide) (by decide)
  have F7 := CH6.1
  obtain ⟨b8a, T8, h8, k8, b8b, kl8, X8, e8, E8, hS8, hk8, hZ8, hown8, fa8, fb8, fc8, fd8, -, -, CH8, LT8, LN8, st8⟩ := ldcCH (s := s) (vm0 := T6.vm) X6 hx hZ6 hown6 (tw_111 hw) (own_wS hw) e6 hS6 hk6 (own_EW hw) (List.mem_of_getElem? (i := 2) rfl) F7 (vs := [(vi 111), (vi 112), (vi 101), (vi 110), (vi 45), (vi 114), (vi 101), (vi 100), (vi 105), (vi 114), (vi 101), (vi 99), (vi 116)]) (z := (13 : Int32)) (by decide +kernel) (by decide) (by decide) (g := (mkF m 28 (L_iiiiiiruuuu p1 p2 p3 p4 p5 (va1 p1) b6a) [])) rfl (hb hby at_28) (n := 52) (by decide) (by decide) (by decide) (by decide)
  have F10 := ((Sp1.ext E6).ext E8)
  obtain ⟨T11, L11, _, X11, ⟨rfl, N11q, e11q⟩, st11⟩ := own_callV X8 hx hZ8 hown8 (tw_9 hw) (tw_10 hw) (notFace_of_selects (args := #[]) (mvT hZ8 (tw_12 hw))) (tw_12 hw) (tw_11 hw) (tw_2 hw) (tw_13 hw) (rm1_2 hw b8a b8b kl8 p90 (lx (lx Z0 E6) E8) fc8 fd8 fa8 Sp0 F10 H3 fb8) e8 fa8 (Ls := (L_iiiiiiriiuu p1 p2 p3 p4 p5 (va1 p1) b8a (va2 p5 p2) (va3 p3))) hml [] [] pd_1 0 (hb hby at_59)
  have N11 := Fr.app N0 N11q
  obtain ⟨T12, L12, _, X12, ⟨b13, b14, kk12_0, rfl, N12q, K12, qa12_0, qb12_0, qa12_1, qb12_1, qc12_0_1, f12_0, f12_1, f12_2, f12_3⟩, st12⟩ := own_callS X11 hx hZ8 hown8 (cw_9 hw) (rm3_1 hw b8a (va2 p5 p2) (va3 p3) ((12 : Int32) + (va1 p4)) b8b kl8 (13 : Int32) bl6 p90 rv0 (va49 p5 p2 p3) (va50 p5 p2 p3) (va51 p5 p2 p3) (va52 p5 p2 p3) (va9 p5 p2 p3) (va53 p5 p2 p3) (va54 p5 p2 p3) (va55 p5 p2 p3) (va56 p5 p2 p3) (va57 p5 p2 p3) (va58 p5 p2 p3) (va59 p5 p2 p3) (va60 p5 p2 p3) (va19 p3) (va19 p3) (lx (lx Z0 E6) E8) fc8 fd8 fb8 fa8 Sp0 Sp2 H3 (CVi 111) F10 Sp3 (CVi 112) (CVi 101) (CVi 110) (CVi 45) (CVi 114) (CVi 101) (CVi 100) (CVi 105) (CVi 114) (CVi 101) (CVi 99) (CVi 116) CVo CVo H4 H5 (x255 111) (x255 112) (x255 101) (x255 110) (x255 45) (x255 114) (x255 101) (x255 100) (x255 105) (x255 114) (x255 101) (x255 99) (x255 116)) e11q (Ls := (L_iiiiiiriiiu p1 p2 p3 p4 p5 (va1 p1) b8a (va2 p5 p2) (va3 p3) ((12 : Int32) + (va1 p4)))) hml [vr b8a, vi (va2 p5 p2), vi (va3 p3), vi ((12 : Int32) + (va1 p4))] [] pd_13 0 (hb hby at_81)
  have N12 := Fr.app N11 N12q
  have qd12_0 := Nat.le_trans (lx (lx (Nat.le_refl h0.size) E6) E8) qb12_0
  have qd12_1 := Nat.le_trans (lx (lx (Nat.le_refl h0.size) E6) E8) qb12_1
  have F15 := (F10.keep K12 all0)
  obtain ⟨T16, L16, _, X16, ⟨rfl, N16q, K16⟩, st16⟩ := own_callS X12 hx hZ8 hown8 (cw_12 hw) (rm16_6 hw b13 s1 ks_s1 s2 s3 s4 s5 s6 b14 ks_s6 kk12_0 (va61 p5 p2 p3) (va62 p5 p2 p3) (va63 p5 p2 p3) (va64 p5 p2 p3) (va26 p5 p2 p3) (va65 p5 p2 p3) (va66 p5 p2 p3) (va67 p5 p2 p3) (va68 p5 p2 p3) (va69 p5 p2 p3) (va70 p5 p2 p3) (va71 p5 p2 p3) (va72 p5 p2 p3) p90 s7 s8 ks_s8 s9 s10 ks_s10 (Nat.le_trans (lx (lx Z0 E6) E8) K12.1) Sp4 F15 Sp5 Sp6 Sp7 Sp8 f12_0 Sp9 f12_1 Sp10 f12_2 Sp11 f12_3 Sp0 H3 qa12_0 H6 Sp12 Sp13 Sp14 Sp15 Sp16 Sp17 Sp18 Sp19 Sp20 Sp21 H7) rfl (Ls := (L_iiiiiiriiir p1 p2 p3 p4 p5 (va1 p1) b8a (va2 p5 p2) (va3 p3) ((12 : Int32) + (va1 p4)) b13)) hml [vr b13] [] pd_17 0 (hb hby at_88)
  have N16 := Fr.app N12 N16q
  have F17 := (Exa.keep f12_0 K16)
  have F18 := (Fld.keep f12_1 K16 nin0)
  have F19 := (Fld.keep f12_2 K16 nin0)
  have F20 := (Arv.keep f12_3 K16 nin0)
  have F21 := (F15.keep K16 all0)
  have F23 := (Nat.le_trans (Nat.le_trans (lx (lx Z0 E6) E8) K12.1) K16.1)
  have F24 := CH8.1
  have F25 := (CHv.keep K12 all0 F24)
  have F26 := (CHv.keep K16 all0 F25)
  have F27 := (Safe.keep K12 all0 F24 (Safe.new qb12_0))
  have F28 := (Safe.keep K16 all0 F25 F27)
  obtain ⟨_, _, ⟨T22, L22, k22, n22⟩, -, Xq22, hSq22, gq22, ⟨Lc22, hQ22, l22, y22, z22⟩, st22⟩ := callSS X16 hx (y := y18) hown8 (mvT hZ8 (tw_106 hw)) (mvT hZ8 (tw_107 hw)) (mvT hZ8 (tw_24 hw)) (mvT hZ8 (tw_108 hw)) (by decide) (own_backH (s := s) (vm0 := T8.vm) (W := 1) (rm20_6 (ws := []) (h0 := T16.heap) hw b13 b14 kk12_0 (va61 p5 p2 p3) (va62 p5 p2 p3) (va63 p5 p2 p3) (va64 p5 p2 p3) (va26 p5 p2 p3) (va65 p5 p2 p3) (va66 p5 p2 p3) (va67 p5 p2 p3) (va68 p5 p2 p3) (va69 p5 p2 p3) (va70 p5 p2 p3) (va71 p5 p2 p3) (va72 p5 p2 p3) p90 s4 F23 F17 F18 F19 F20 Sp0 H3 F21 H8 H9 Sp23) hZ8 (tw_108 hw) (tw_24 hw) (by decide) (by decide) (own_EW hw) F26 (allS ⟨F17.lt, F28⟩ all0)) (g := (mkF m 93 (L_iiiiiiriiir p1 p2 p3 p4 p5 (va1 p1) b8a (va2 p5 p2) (va3 p3) ((12 : Int32) + (va1 p4)) b13) [vr b13, vr s4])) rfl (by rw [hml]; rfl) (argsL := [(vr b13)]) (rest := [(vr s4)]) (lenOf pd_17 rfl) rfl (by show 2 * 0 + _ ≤ _; exact Nat.le_of_eq rfl) (hb hby at_93) (fun _ _ => ⟨rfl, rfl, (by decide : 9 + 6 ≤ _), (by decide : 160 + 172 ≤ _)⟩)
  dsimp only [Pt.U, Pt.locs, Pt.cells, Pt.slots] at Xq22 l22 y22 z22 st22 hQ22
  subst l22 y22 z22
  obtain ⟨X22, hS22, hZ22, hown22⟩ := rebS (s := s) (vm0 := T8.vm) hS8 (n1 := T16.heap.size) (Nat.le_trans (Nat.le_trans hk8 K12.1) K16.1) Xq22 hSq22 gq22 hZ8 hown8
  obtain ⟨rfl, N22q, K22⟩ := hQ22
  have N22 := Fr.app N16 N22q
  obtain ⟨fs, hr, hrun, hended, hRE⟩ := X22.leaveW hS22 (Nat.le_refl _) (v := some (vi 1)) (fun h => by rw [hret] at h; cases h)
  refine ⟨_, _, pre0 _ ?_, hrun, hended, _, _, rfl, ?_, hRE.1, hRE.2.1, hRE.2.2.1, hRE.2.2.2.mono (by decide) (by decide)⟩
  · refine own_b X0 hx hby tb0 1 [] 1 _ [vi p1] rfl ?_
    refine X0.ldcInt hx hown (mvT hZ (tw_0 hw)) (g := (mkF m 1 (L_iiiiiuuuuuu p1 p2 p3 p4 p5) [vi p1])) rfl (hb hby at_1) _ ?_
    show OS p e below s₁ m 3 (L_iiiiiuuuuuu p1 p2 p3 p4 p5) [vi 2147483647, vi p1] _
    refine own_b X0 hx hby tb0 2 [] 5 _ [vi 3, vi (p1 &&& (2147483647 : Int32))] rfl ?_
    refine iremM X0 hx (g := (mkF m 5 (L_iiiiiuuuuuu p1 p2 p3 p4 p5) [vi 3, vi (p1 &&& (2147483647 : Int32))])) rfl (hb hby at_5) rfl (by decide) ?_
    show OS p e below s₁ m 6 (L_iiiiiuuuuuu p1 p2 p3 p4 p5) [vi (va1 p1)] _
    refine own_b X0 hx hby tb0 1 [] 8 (L_iiiiiiuuuuu p1 p2 p3 p4 p5 (va1 p1)) [] rfl ?_
    refine st6 _ ?_
    refine own_b X6 hx hby tb0 7 [true, false] 28 (L_iiiiiiruuuu p1 p2 p3 p4 p5 (va1 p1) b6a) [] (ai (feq H1).2 (ai (teq H2).2 rfl)) ?_
    refine st8 _ ?_
    refine own_b X8 hx hby tb0 8 [] 42 (L_iiiiiiriuuu p1 p2 p3 p4 p5 (va1 p1) b8a (p2 &&& (15 : Int32))) [vi (p5 &&& (1 : Int32))] rfl ?_
    suffices j9 : OS p e below T8 m 49 (L_iiiiiiriuuu p1 p2 p3 p4 p5 (va1 p1) b8a (va2 p5 p2)) [] (T22.setFrames fs) by
      by_cases j9_1 : (p5 &&& (1 : Int32)) = (0 : Int32)
      ·
        refine own_b X8 hx hby tb0 1 [true] 49 _ [] (ai (teq j9_1).1 rfl) ?_
        exact (Eq.mp (congrArg (fun z => OS p e below T8 m 49 (L_iiiiiiriuuu p1 p2 p3 p4 p5 (va1 p1) b8a z) [] (T22.setFrames fs)) (by simp only [va2, if_pos j9_1] : (va2 p5 p2) = (p2 &&& (15 : Int32)))) j9)
      ·
        refine own_b X8 hx hby tb0 3 [false] 49 (L_iiiiiiriuuu p1 p2 p3 p4 p5 (va1 p1) b8a 15) [] (ai (feq j9_1).1 rfl) ?_
        exact (Eq.mp (congrArg (fun z => OS p e below T8 m 49 (L_iiiiiiriuuu p1 p2 p3 p4 p5 (va1 p1) b8a z) [] (T22.setFrames fs)) (by simp only [va2, if_neg j9_1] : (va2 p5 p2) = (15 : Int32))) j9)
    refine own_b X8 hx hby tb0 6 [] 59 (L_iiiiiiriiuu p1 p2 p3 p4 p5 (va1 p1) b8a (va2 p5 p2) (va3 p3)) [vr b8a] rfl ?_
    refine st11 _ ?_
    refine own_b X11 hx hby tb0 3 [] 65 _ [vi p4, vi 12] rfl ?_
    refine X11.ldcInt hx hown8 (mvT hZ8 (tw_0 hw)) (g := (mkF m 65 (L_iiiiiiriiuu p1 p2 p3 p4 p5 (va1 p1) b8a (va2 p5 p2) (va3 p3)) [vi p4, vi 12])) rfl (hb hby at_65) _ ?_
    show OS p e below T11 m 67 (L_iiiiiiriiuu p1 p2 p3 p4 p5 (va1 p1) b8a (va2 p5 p2) (va3 p3)) [vi 2147483647, vi p4, vi 12] _
    refine own_b X11 hx hby tb0 2 [] 69 _ [vi 3, vi (p4 &&& (2147483647 : Int32)), vi 12] rfl ?_
    refine iremM X11 hx (g := (mkF m 69 (L_iiiiiiriiuu p1 p2 p3 p4 p5 (va1 p1) b8a (va2 p5 p2) (va3 p3)) [vi 3, vi (p4 &&& (2147483647 : Int32)), vi 12])) rfl (hb hby at_69) rfl (by decide) ?_
    show OS p e below T11 m 70 (L_iiiiiiriiuu p1 p2 p3 p4 p5 (va1 p1) b8a (va2 p5 p2) (va3 p3)) [vi (va1 p4), vi 12] _
    refine own_b X11 hx hby tb0 6 [] 81 (L_iiiiiiriiiu p1 p2 p3 p4 p5 (va1 p1) b8a (va2 p5 p2) (va3 p3) ((12 : Int32) + (va1 p4))) [vi ((12 : Int32) + (va1 p4)), vi (va3 p3), vi (va2 p5 p2), vr b8a] rfl ?_
    refine st12 _ ?_
    refine own_b X12 hx hby tb0 2 [] 88 (L_iiiiiiriiir p1 p2 p3 p4 p5 (va1 p1) b8a (va2 p5 p2) (va3 p3) ((12 : Int32) + (va1 p4)) b13) [vr b13] rfl ?_
    refine st16 _ ?_
    refine own_b X16 hx hby tb0 1 [] 93 _ [vr b13, vr s4] rfl ?_
    refine st22.trans ?_
    show OS p e below T22 m 96 (L_iiiiiiriiir p1 p2 p3 p4 p5 (va1 p1) b8a (va2 p5 p2) (va3 p3) ((12 : Int32) + (va1 p4)) b13) [vr s4, vr s4] _
    refine Jvm.RoadKit.acmp (g := (mkF m 96 (L_iiiiiiriiir p1 p2 p3 p4 p5 (va1 p1) b8a (va2 p5 p2) (va3 p3) ((12 : Int32) + (va1 p4)) b13) [vr s4, vr s4])) X22 hx rfl rfl rfl (pc0 := 96) (pc' := 99) (same := true) rfl (hb hby at_96) rfl (decide_eq_true rfl) (by decide) (by decide) ?_
    show OS p e below T22 m 99 (L_iiiiiiriiir p1 p2 p3 p4 p5 (va1 p1) b8a (va2 p5 p2) (va3 p3) ((12 : Int32) + (va1 p4)) b13) [] _
    refine own_b X22 hx hby tb0 2 [] 104 _ [vi 1] rfl ?_
    exact retN X22 hx (t := .boolean) hret (by simp) (hb hby at_104) hr
  · show Q0 h0 n0 _ T22.heap _
    exact ⟨rfl, N22⟩
theorem rm0_7 (hw : OW Z a0) (p1 : Int32) (p2 : Int32) (p3 : Int32) (p4 : Int32) (p5 : Int32) (s1 : Addr) (s2 : Addr) (s3 : Addr) (s4 : Addr) (s5 : Addr) (s6 : Addr) (s7 : Addr) (s8 : Addr) (s9 : Addr) (s10 : Addr) (p90 : Int32) (rv0 : Value) (ks_s1 : ClassId) (ks_s6 : ClassId) (ks_s8 : ClassId) (ks_s10 : ClassId) (Z0 : n0 ≤ h0.size) (Sp0 : ab1 Z (.int p90)) (Sp1 : Old Z n0 h0) (Sp2 : ab2 Z rv0) (Sp3 : rv0.isRef = true) (Sp4 : ab3 Z (.ref s1)) (Sp5 : ab11 Z Z.heap s1) (Sp6 : Arv Z Z.heap s1 ks_s1 (.object "com/example/sinkwatch/sinkwatch/Flaw") (3 : Int32) [(.ref s2), (.ref s3), (.ref s4)] .null) (Sp7 : ab9 Z Z.heap s2 (.ref s5)) (Sp8 : ab10 Z Z.heap s5) (Sp9 : ab7 Z Z.heap s5 (.int (0 : Int32))) (Sp10 : ab8 Z Z.heap s5 (.ref s6)) (Sp11 : Arv Z Z.heap s6 ks_s6 .byte (13 : Int32) bl3 (.int (0 : Int32))) (Sp12 : ab9 Z Z.heap s3 (.ref s7)) (Sp13 : ab10 Z Z.heap s7) (Sp14 : ab7 Z Z.heap s7 (.int (0 : Int32))) (Sp15 : ab8 Z Z.heap s7 (.ref s8)) (Sp16 : Arv Z Z.heap s8 ks_s8 .byte (14 : Int32) bl1 (.int (0 : Int32))) (Sp17 : ab9 Z Z.heap s4 (.ref s9)) (Sp18 : ab10 Z Z.heap s9) (Sp19 : ab7 Z Z.heap s9 (.int (0 : Int32))) (Sp20 : ab8 Z Z.heap s9 (.ref s10)) (Sp21 : Arv Z Z.heap s10 ks_s10 .byte (13 : Int32) bl6 (.int (0 : Int32))) (Sp22 : ab4 Z (.ref s3)) (Sp23 : ab5 Z (.ref s4)) (Sp24 : ab6 Z (.ref s2)) (Sp25 : ¬ (p90 = (0 : Int32))) (H1 : ¬ ((va1 p1) = (1 : Int32))) (H2 : (va1 p1) = (2 : Int32)) (H3 : ¬ (p90 = (0 : Int32))) (H4 : ¬ (((12 : Int32) + (va1 p4)) = (12 : Int32))) (H5 : ¬ (((12 : Int32) + (va1 p4)) = (13 : Int32))) (H6 : ((12 : Int32) + (va1 p4)) = (14 : Int32)) (H7 : (va77 p5 p2 p3) = (0 : Int32)) (H8 : (va78 p5 p2 p3) = (0 : Int32)) :
    MC l Z ws h0 n0 p1 p2 p3 p4 p5 := by
  refine MetFree.of_bodySF (plainFor_of_name pn_3) hisR ?_
  intro p e s m args below meth c s₁ Bd hml0 hP hK
  obtain ⟨rfl, hZ, hh, hH⟩ := hP
  have hx := Bd.exec
  have hby := Bd.bytes
  have hml : c.maxLocals = 11 := hml0
  have hown : s.vm.findClass "com/example/sinkwatch/sinkwatch/FlawNamedPinLaw" = some m.cls := findClass_of_methodNamed Bd.named
  have hnm := (name_of_methodNamed Bd.named Bd.method).1
  have hret := Bd.returns
  have X0 : Stand p l e room_1 s m #[(vi p1), (vi p2), (vi p3), (vi p4), (vi p5)] below meth c s₁ [] 0 0 := Stand.of_body Bd
  have e0 : s₁.heap = h0 := by rw [← hh, Bd.state]; rfl
  have N0 := Fr.nil n0
  have pre0 : ∀ t, Steps p.tables e below (s₁.setTop (mkF m 0 #[si p1, si p2, si p3, si p4, si p5, .unset, .unset, .unset, .unset, .unset, .unset] [])) t → Steps p.tables e below (s₁.setTop (entryFrame m #[(vi p1), (vi p2), (vi p3), (vi p4), (vi p5)] maxLocals)) t := fun t k => castTop (ef0 m p1 p2 p3 p4 p5) k
  obtain ⟨b6a, T6, h6, k6, b6b, kl6, X6, e6, E6, hS6, hk6, hZ6, hown6, fa6, fb6, fc6, fd6, -, -, CH6, LT6, LN6, st6⟩ := ldcCH (s := s) (vm0 := s.vm) (show Stand _ _ _ _ (s.setVm s.vm) _ _ _ _ _ _ _ _ _ from X0) hx hZ hown (tw_1 hw) (own_wS hw) e0 (State.WarmedH.since (State.WarmedH.refl s) 0) (Nat.zero_le _) (own_EW hw) (List.mem_of_getElem? (i := 0) rfl) hH (vs := [(vi 115), (vi 113), (vi 108), (vi 45), (vi 105), (vi 110), (vi 106), (vi 101), (vi 99), (vi 116), (vi 105), (vi 111), (vi 110)]) (z := (13 : Int32)) (by decide +kernel) (by decide) (by decide) (g := (mkF m 8 (L_iiiiiiuuuuu p1 p2 p3 p4 p5 (va1 p1)) [])) rfl (hb hby at_8) (n := 52) (by decide) (by decide) (by decide) (by decide)
  have F7 := CH6.1
  obtain ⟨b8a, T8, h8, k8, b8b, kl8, X8, e8, E8, hS8, hk8, hZ8, hown8, fa8, fb8, fc8, fd8, -, -, CH8, LT8, LN8, st8⟩ := ldcCH (s := s) (vm0 := T6.vm) X6 hx hZ6 hown6 (tw_111 hw) (own_wS hw) e6 hS6 hk6 (own_EW hw) (List.mem_of_getElem? (i := 2) rfl) F7 (vs := [(vi 111), (vi 112), (vi 101), (vi 110), (vi 45), (vi 114), (vi 101), (vi 100), (vi 105), (vi 114), (vi 101), (vi 99), (vi 116)]) (z := (13 : Int32)) (by decide +kernel) (by decide) (by decide) (g := (mkF m 28 (L_iiiiiiruuuu p1 p2 p3 p4 p5 (va1 p1) b6a) [])) rfl (hb hby at_28) (n := 52) (by decide) (by decide) (by decide) (by decide)
  have F10 := ((Sp1.ext E6).ext E8)
  obtain ⟨T11, L11, _, X11, ⟨rfl, N11q, e11q⟩, st11⟩ := own_callV X8 hx hZ8 hown8 (tw_9 hw) (tw_10 hw) (notFace_of_selects (args := #[]) (mvT hZ8 (tw_12 hw))) (tw_12 hw) (tw_11 hw) (tw_2 hw) (tw_13 hw) (rm1_2 hw b8a b8b kl8 p90 (lx (lx Z0 E6) E8) fc8 fd8 fa8 Sp0 F10 H3 fb8) e8 fa8 (Ls := (L_iiiiiiriiuu p1 p2 p3 p4 p5 (va1 p1) b8a (va2 p5 p2) (va3 p3))) hml [] [] pd_1 0 (hb hby at_59)
  have N11 := Fr.app N0 N11q
  obtain ⟨T12, L12, _, X12, ⟨b13, b14, kk12_0, rfl, N12q, K12, qa12_0, qb12_0, qa12_1, qb12_1, qc12_0_1, f12_0, f12_1, f12_2, f12_3⟩, st12⟩ := own_callS X11 hx hZ8 hown8 (cw_9 hw) (rm3_2 hw b8a (va2 p5 p2) (va3 p3) ((12 : Int32) + (va1 p4)) b8b kl8 (13 : Int32) bl6 p90 rv0 (va49 p5 p2 p3) (va50 p5 p2 p3) (va51 p5 p2 p3) (va52 p5 p2 p3) (va9 p5 p2 p3) (va53 p5 p2 p3) (va54 p5 p2 p3) (va55 p5 p2 p3) (va56 p5 p2 p3) (va57 p5 p2 p3) (va58 p5 p2 p3) (va59 p5 p2 p3) (va60 p5 p2 p3) (va19 p3) (va19 p3) (lx (lx Z0 E6) E8) fc8 fd8 fb8 fa8 Sp0 Sp2 H3 (CVi 111) F10 Sp3 (CVi 112) (CVi 101) (CVi 110) (CVi 45) (CVi 114) (CVi 101) (CVi 100) (CVi 105) (CVi 114) (CVi 101) (CVi 99) (CVi 116) CVo CVo H4 H5 H6 (x255 111) (x255 112) (x255 101) (x255 110) (x255 45) (x255 114) (x255 101) (x255 100) (x255 105) (x255 114) (x255 101) (x255 99) (x255 116) x255o) e11q (Ls := (L_iiiiiiriiiu p1 p2 p3 p4 p5 (va1 p1) b8a (va2 p5 p2) (va3 p3) ((12 : Int32) + (va1 p4)))) hml [vr b8a, vi (va2 p5 p2), vi (va3 p3), vi ((12 : Int32) + (va1 p4))] [] pd_13 0 (hb hby at_81)
  have N12 := Fr.app N11 N12q
  have qd12_0 := Nat.le_trans (lx (lx (Nat.le_refl h0.size) E6) E8) qb12_0
  have qd12_1 := Nat.le_trans (lx (lx (Nat.le_refl h0.size) E6) E8) qb12_1
  have F15 := (F10.keep K12 all0)
  obtain ⟨T16, L16, _, X16, ⟨rfl, N16q, K16⟩, st16⟩ := own_callS X12 hx hZ8 hown8 (cw_12 hw) (rm16_2 hw b13 s1 ks_s1 s2 s3 s4 s5 s6 b14 ks_s6 kk12_0 (va61 p5 p2 p3) (va62 p5 p2 p3) (va63 p5 p2 p3) (va64 p5 p2 p3) (va26 p5 p2 p3) (va65 p5 p2 p3) (va66 p5 p2 p3) (va67 p5 p2 p3) (va68 p5 p2 p3) (va69 p5 p2 p3) (va70 p5 p2 p3) (va71 p5 p2 p3) (va72 p5 p2 p3) (va48 p3) p90 s7 s8 ks_s8 s9 s10 ks_s10 (Nat.le_trans (lx (lx Z0 E6) E8) K12.1) Sp4 F15 Sp5 Sp6 Sp7 Sp8 f12_0 Sp9 f12_1 Sp10 f12_2 Sp11 f12_3 Sp0 H3 qa12_0 Sp12 Sp13 Sp14 Sp15 Sp16 H7 Sp17 Sp18 Sp19 Sp20 Sp21) rfl (Ls := (L_iiiiiiriiir p1 p2 p3 p4 p5 (va1 p1) b8a (va2 p5 p2) (va3 p3) ((12 : Int32) + (va1 p4)) b13)) hml [vr b13] [] pd_17 0 (hb hby at_88)
  have N16 := Fr.app N12 N16q
  have F17 := (Exa.keep f12_0 K16)
  have F18 := (Fld.keep f12_1 K16 nin0)
  have F19 := (Fld.keep f12_2 K16 nin0)
  have F20 := (Arv.keep f12_3 K16 nin0)
  have F21 := (F15.keep K16 all0)
  have F23 := (Nat.le_trans (Nat.le_trans (lx (lx Z0 E6) E8) K12.1) K16.1)
  have F24 := CH8.1
  have F25 := (CHv.keep K12 all0 F24)
  have F26 := (CHv.keep K16 all0 F25)
  have F27 := (Safe.keep K12 all0 F24 (Safe.new qb12_0))
  have F28 := (Safe.keep K16 all0 F25 F27)
  obtain ⟨_, _, ⟨T22, L22, k22, n22⟩, -, Xq22, hSq22, gq22, ⟨Lc22, hQ22, l22, y22, z22⟩, st22⟩ := callSS X16 hx (y := y18) hown8 (mvT hZ8 (tw_106 hw)) (mvT hZ8 (tw_107 hw)) (mvT hZ8 (tw_24 hw)) (mvT hZ8 (tw_108 hw)) (by decide) (own_backH (s := s) (vm0 := T8.vm) (W := 1) (rm20_2 (ws := []) (h0 := T16.heap) hw b13 b14 kk12_0 (va61 p5 p2 p3) (va62 p5 p2 p3) (va63 p5 p2 p3) (va64 p5 p2 p3) (va26 p5 p2 p3) (va65 p5 p2 p3) (va66 p5 p2 p3) (va67 p5 p2 p3) (va68 p5 p2 p3) (va69 p5 p2 p3) (va70 p5 p2 p3) (va71 p5 p2 p3) (va72 p5 p2 p3) (va48 p3) p90 F23 F17 F18 F19 F20 Sp0 H3 F21 H8) hZ8 (tw_108 hw) (tw_24 hw) (by decide) (by decide) (own_EW hw) F26 (allS ⟨F17.lt, F28⟩ all0)) (g := (mkF m 93 (L_iiiiiiriiir p1 p2 p3 p4 p5 (va1 p1) b8a (va2 p5 p2) (va3 p3) ((12 : Int32) + (va1 p4)) b13) [vr b13, .null])) rfl (by rw [hml]; rfl) (argsL := [(vr b13)]) (rest := [.null]) (lenOf pd_17 rfl) rfl (by show 2 * 0 + _ ≤ _; exact Nat.le_of_eq rfl) (hb hby at_93) (fun _ _ => ⟨rfl, rfl, (by decide : 9 + 6 ≤ _), (by decide : 162 + 172 ≤ _)⟩)
  dsimp only [Pt.U, Pt.locs, Pt.cells, Pt.slots] at Xq22 l22 y22 z22 st22 hQ22
  subst l22 y22 z22
  obtain ⟨X22, hS22, hZ22, hown22⟩ := rebS (s := s) (vm0 := T8.vm) hS8 (n1 := T16.heap.size) (Nat.le_trans (Nat.le_trans hk8 K12.1) K16.1) Xq22 hSq22 gq22 hZ8 hown8
  obtain ⟨rfl, N22q, K22⟩ := hQ22
  have N22 := Fr.app N16 N22q
  obtain ⟨fs, hr, hrun, hended, hRE⟩ := X22.leaveW hS22 (Nat.le_refl _) (v := some (vi 1)) (fun h => by rw [hret] at h; cases h)
  refine ⟨_, _, pre0 _ ?_, hrun, hended, _, _, rfl, ?_, hRE.1, hRE.2.1, hRE.2.2.1, hRE.2.2.2.mono (by decide) (by decide)⟩
  · refine own_b X0 hx hby tb0 1 [] 1 _ [vi p1] rfl ?_
    refine X0.ldcInt hx hown (mvT hZ (tw_0 hw)) (g := (mkF m 1 (L_iiiiiuuuuuu p1 p2 p3 p4 p5) [vi p1])) rfl (hb hby at_1) _ ?_
    show OS p e below s₁ m 3 (L_iiiiiuuuuuu p1 p2 p3 p4 p5) [vi 2147483647, vi p1] _
    refine own_b X0 hx hby tb0 2 [] 5 _ [vi 3, vi (p1 &&& (2147483647 : Int32))] rfl ?_
    refine iremM X0 hx (g := (mkF m 5 (L_iiiiiuuuuuu p1 p2 p3 p4 p5) [vi 3, vi (p1 &&& (2147483647 : Int32))])) rfl (hb hby at_5) rfl (by decide) ?_
    show OS p e below s₁ m 6 (L_iiiiiuuuuuu p1 p2 p3 p4 p5) [vi (va1 p1)] _
    refine own_b X0 hx hby tb0 1 [] 8 (L_iiiiiiuuuuu p1 p2 p3 p4 p5 (va1 p1)) [] rfl ?_
    refine st6 _ ?_
    refine own_b X6 hx hby tb0 7 [true, false] 28 (L_iiiiiiruuuu p1 p2 p3 p4 p5 (va1 p1) b6a) [] (ai (feq H1).2 (ai (teq H2).2 rfl)) ?_
    refine st8 _ ?_
    refine own_b X8 hx hby tb0 8 [] 42 (L_iiiiiiriuuu p1 p2 p3 p4 p5 (va1 p1) b8a (p2 &&& (15 : Int32))) [vi (p5 &&& (1 : Int32))] rfl ?_
    suffices j9 : OS p e below T8 m 49 (L_iiiiiiriuuu p1 p2 p3 p4 p5 (va1 p1) b8a (va2 p5 p2)) [] (T22.setFrames fs) by
      by_cases j9_1 : (p5 &&& (1 : Int32)) = (0 : Int32)
      ·
        refine own_b X8 hx hby tb0 1 [true] 49 _ [] (ai (teq j9_1).1 rfl) ?_
        exact (Eq.mp (congrArg (fun z => OS p e below T8 m 49 (L_iiiiiiriuuu p1 p2 p3 p4 p5 (va1 p1) b8a z) [] (T22.setFrames fs)) (by simp only [va2, if_pos j9_1] : (va2 p5 p2) = (p2 &&& (15 : Int32)))) j9)
      ·
        refine own_b X8 hx hby tb0 3 [false] 49 (L_iiiiiiriuuu p1 p2 p3 p4 p5 (va1 p1) b8a 15) [] (ai (feq j9_1).1 rfl) ?_
        exact (Eq.mp (congrArg (fun z => OS p e below T8 m 49 (L_iiiiiiriuuu p1 p2 p3 p4 p5 (va1 p1) b8a z) [] (T22.setFrames fs)) (by simp only [va2, if_neg j9_1] : (va2 p5 p2) = (15 : Int32))) j9)
    refine own_b X8 hx hby tb0 6 [] 59 (L_iiiiiiriiuu p1 p2 p3 p4 p5 (va1 p1) b8a (va2 p5 p2) (va3 p3)) [vr b8a] rfl ?_
    refine st11 _ ?_
    refine own_b X11 hx hby tb0 3 [] 65 _ [vi p4, vi 12] rfl ?_
    refine X11.ldcInt hx hown8 (mvT hZ8 (tw_0 hw)) (g := (mkF m 65 (L_iiiiiiriiuu p1 p2 p3 p4 p5 (va1 p1) b8a (va2 p5 p2) (va3 p3)) [vi p4, vi 12])) rfl (hb hby at_65) _ ?_
    show OS p e below T11 m 67 (L_iiiiiiriiuu p1 p2 p3 p4 p5 (va1 p1) b8a (va2 p5 p2) (va3 p3)) [vi 2147483647, vi p4, vi 12] _
    refine own_b X11 hx hby tb0 2 [] 69 _ [vi 3, vi (p4 &&& (2147483647 : Int32)), vi 12] rfl ?_
    refine iremM X11 hx (g := (mkF m 69 (L_iiiiiiriiuu p1 p2 p3 p4 p5 (va1 p1) b8a (va2 p5 p2) (va3 p3)) [vi 3, vi (p4 &&& (2147483647 : Int32)), vi 12])) rfl (hb hby at_69) rfl (by decide) ?_
    show OS p e below T11 m 70 (L_iiiiiiriiuu p1 p2 p3 p4 p5 (va1 p1) b8a (va2 p5 p2) (va3 p3)) [vi (va1 p4), vi 12] _
    refine own_b X11 hx hby tb0 6 [] 81 (L_iiiiiiriiiu p1 p2 p3 p4 p5 (va1 p1) b8a (va2 p5 p2) (va3 p3) ((12 : Int32) + (va1 p4))) [vi ((12 : Int32) + (va1 p4)), vi (va3 p3), vi (va2 p5 p2), vr b8a] rfl ?_
    refine st12 _ ?_
    refine own_b X12 hx hby tb0 2 [] 88 (L_iiiiiiriiir p1 p2 p3 p4 p5 (va1 p1) b8a (va2 p5 p2) (va3 p3) ((12 : Int32) + (va1 p4)) b13) [vr b13] rfl ?_
    refine st16 _ ?_
    refine own_b X16 hx hby tb0 1 [] 93 _ [vr b13, .null] rfl ?_
    refine st22.trans ?_
    show OS p e below T22 m 96 (L_iiiiiiriiir p1 p2 p3 p4 p5 (va1 p1) b8a (va2 p5 p2) (va3 p3) ((12 : Int32) + (va1 p4)) b13) [.null, .null] _
    refine Jvm.RoadKit.acmp (g := (mkF m 96 (L_iiiiiiriiir p1 p2 p3 p4 p5 (va1 p1) b8a (va2 p5 p2) (va3 p3) ((12 : Int32) + (va1 p4)) b13) [.null, .null])) X22 hx rfl rfl rfl (pc0 := 96) (pc' := 99) (same := true) rfl (hb hby at_96) rfl (decide_eq_true rfl) (by decide) (by decide) ?_
    show OS p e below T22 m 99 (L_iiiiiiriiir p1 p2 p3 p4 p5 (va1 p1) b8a (va2 p5 p2) (va3 p3) ((12 : Int32) + (va1 p4)) b13) [] _
    refine own_b X22 hx hby tb0 2 [] 104 _ [vi 1] rfl ?_
    exact retN X22 hx (t := .boolean) hret (by simp) (hb hby at_104) hr
  · show Q0 h0 n0 _ T22.heap _
    exact ⟨rfl, N22⟩
theorem rm0_8 (hw : OW Z a0) (p1 : Int32) (p2 : Int32) (p3 : Int32) (p4 : Int32) (p5 : Int32) (s1 : Addr) (s2 : Addr) (s3 : Addr) (s4 : Addr) (s5 : Addr) (s6 : Addr) (s7 : Addr) (s8 : Addr) (s9 : Addr) (s10 : Addr) (p90 : Int32) (rv0 : Value) (ks_s1 : ClassId) (ks_s6 : ClassId) (ks_s8 : ClassId) (ks_s10 : ClassId) (Z0 : n0 ≤ h0.size) (Sp0 : ab1 Z (.int p90)) (Sp1 : Old Z n0 h0) (Sp2 : ab2 Z rv0) (Sp3 : rv0.isRef = true) (Sp4 : ab3 Z (.ref s1)) (Sp5 : ab11 Z Z.heap s1) (Sp6 : Arv Z Z.heap s1 ks_s1 (.object "com/example/sinkwatch/sinkwatch/Flaw") (3 : Int32) [(.ref s2), (.ref s3), (.ref s4)] .null) (Sp7 : ab9 Z Z.heap s2 (.ref s5)) (Sp8 : ab10 Z Z.heap s5) (Sp9 : ab7 Z Z.heap s5 (.int (0 : Int32))) (Sp10 : ab8 Z Z.heap s5 (.ref s6)) (Sp11 : Arv Z Z.heap s6 ks_s6 .byte (13 : Int32) bl3 (.int (0 : Int32))) (Sp12 : ab9 Z Z.heap s3 (.ref s7)) (Sp13 : ab10 Z Z.heap s7) (Sp14 : ab7 Z Z.heap s7 (.int (0 : Int32))) (Sp15 : ab8 Z Z.heap s7 (.ref s8)) (Sp16 : Arv Z Z.heap s8 ks_s8 .byte (14 : Int32) bl1 (.int (0 : Int32))) (Sp17 : ab9 Z Z.heap s4 (.ref s9)) (Sp18 : ab10 Z Z.heap s9) (Sp19 : ab7 Z Z.heap s9 (.int (0 : Int32))) (Sp20 : ab8 Z Z.heap s9 (.ref s10)) (Sp21 : Arv Z Z.heap s10 ks_s10 .byte (13 : Int32) bl6 (.int (0 : Int32))) (Sp22 : ab4 Z (.ref s3)) (Sp23 : ab5 Z (.ref s4)) (Sp24 : ab6 Z (.ref s2)) (Sp25 : ¬ (p90 = (0 : Int32))) (H1 : ¬ ((va1 p1) = (1 : Int32))) (H2 : ¬ ((va1 p1) = (2 : Int32))) (H3 : ¬ (p90 = (0 : Int32))) (H4 : ((12 : Int32) + (va1 p4)) = (12 : Int32)) :
    MC l Z ws h0 n0 p1 p2 p3 p4 p5 := by
  refine MetFree.of_bodySF (plainFor_of_name pn_3) hisR ?_
  intro p e s m args below meth c s₁ Bd hml0 hP hK
  obtain ⟨rfl, hZ, hh, hH⟩ := hP
  have hx := Bd.exec
  have hby := Bd.bytes
  have hml : c.maxLocals = 11 := hml0
  have hown : s.vm.findClass "com/example/sinkwatch/sinkwatch/FlawNamedPinLaw" = some m.cls := findClass_of_methodNamed Bd.named
  have hnm := (name_of_methodNamed Bd.named Bd.method).1
  have hret := Bd.returns
  have X0 : Stand p l e room_1 s m #[(vi p1), (vi p2), (vi p3), (vi p4), (vi p5)] below meth c s₁ [] 0 0 := Stand.of_body Bd
  have e0 : s₁.heap = h0 := by rw [← hh, Bd.state]; rfl
  have N0 := Fr.nil n0
  have pre0 : ∀ t, Steps p.tables e below (s₁.setTop (mkF m 0 #[si p1, si p2, si p3, si p4, si p5, .unset, .unset, .unset, .unset, .unset, .unset] [])) t → Steps p.tables e below (s₁.setTop (entryFrame m #[(vi p1), (vi p2), (vi p3), (vi p4), (vi p5)] maxLocals)) t := fun t k => castTop (ef0 m p1 p2 p3 p4 p5) k
  obtain ⟨b6a, T6, h6, k6, b6b, kl6, X6, e6, E6, hS6, hk6, hZ6, hown6, fa6, fb6, fc6, fd6, -, -, CH6, LT6, LN6, st6⟩ := ldcCH (s := s) (vm0 := s.vm) (show Stand _ _ _ _ (s.setVm s.vm) _ _ _ _ _ _ _ _ _ from X0) hx hZ hown (tw_1 hw) (own_wS hw) e0 (State.WarmedH.since (State.WarmedH.refl s) 0) (Nat.zero_le _) (own_EW hw) (List.mem_of_getElem? (i := 0) rfl) hH (vs := [(vi 115), (vi 113), (vi 108), (vi 45), (vi 105), (vi 110), (vi 106), (vi 101), (vi 99), (vi 116), (vi 105), (vi 111), (vi 110)]) (z := (13 : Int32)) (by decide +kernel) (by decide) (by decide) (g := (mkF m 8 (L_iiiiiiuuuuu p1 p2 p3 p4 p5 (va1 p1)) [])) rfl (hb hby at_8) (n := 52) (by decide) (by decide) (by decide) (by decide)
  have F8 := (Sp1.ext E6)
  obtain ⟨T9, L9, _, X9, ⟨rfl, N9q, e9q⟩, st9⟩ := own_callV X6 hx hZ6 hown6 (tw_9 hw) (tw_10 hw) (notFace_of_selects (args := #[]) (mvT hZ6 (tw_12 hw))) (tw_12 hw) (tw_11 hw) (tw_2 hw) (tw_13 hw) (rm1_3 hw b6a b6b kl6 p90 (lx Z0 E6) fc6 fd6 fa6 Sp0 F8 H3 fb6) e6 fa6 (Ls := (L_iiiiiiriiuu p1 p2 p3 p4 p5 (va1 p1) b6a (va2 p5 p2) (va3 p3))) hml [] [] pd_1 0 (hb hby at_59)
  have N9 := Fr.app N0 N9q
  obtain ⟨T10, L10, _, X10, ⟨b11, b12, kk10_0, rfl, N10q, K10, qa10_0, qb10_0, qa10_1, qb10_1, qc10_0_1, f10_0, f10_1, f10_2, f10_3⟩, st10⟩ := own_callS X9 hx hZ6 hown6 (cw_9 hw) (rm3_4 hw b6a (va2 p5 p2) (va3 p3) ((12 : Int32) + (va1 p4)) b6b kl6 (13 : Int32) bl3 p90 rv0 (va79 p5 p2 p3) (va80 p5 p2 p3) (va81 p5 p2 p3) (va82 p5 p2 p3) (va83 p5 p2 p3) (va84 p5 p2 p3) (va85 p5 p2 p3) (va86 p5 p2 p3) (va87 p5 p2 p3) (va88 p5 p2 p3) (va89 p5 p2 p3) (va90 p5 p2 p3) (va91 p5 p2 p3) (va19 p3) (va19 p3) (lx Z0 E6) fc6 fd6 fb6 fa6 Sp0 Sp2 H3 (CVi 115) F8 Sp3 (CVi 113) (CVi 108) (CVi 45) (CVi 105) (CVi 110) (CVi 106) (CVi 101) (CVi 99) (CVi 116) (CVi 105) (CVi 111) (CVi 110) CVo CVo H4 (x255 115) (x255 113) (x255 108) (x255 45) (x255 105) (x255 110) (x255 106) (x255 101) (x255 99) (x255 116) (x255 105) (x255 111)) e9q (Ls := (L_iiiiiiriiiu p1 p2 p3 p4 p5 (va1 p1) b6a (va2 p5 p2) (va3 p3) ((12 : Int32) + (va1 p4)))) hml [vr b6a, vi (va2 p5 p2), vi (va3 p3), vi ((12 : Int32) + (va1 p4))] [] pd_13 0 (hb hby at_81)
  have N10 := Fr.app N9 N10q
  have qd10_0 := Nat.le_trans (lx (Nat.le_refl h0.size) E6) qb10_0
  have qd10_1 := Nat.le_trans (lx (Nat.le_refl h0.size) E6) qb10_1
  have F13 := (F8.keep K10 all0)
  obtain ⟨T14, L14, _, X14, ⟨rfl, N14q, K14⟩, st14⟩ := own_callS X10 hx hZ6 hown6 (cw_12 hw) (rm16_5 hw b11 s1 ks_s1 s2 s3 s4 s5 s6 b12 ks_s6 kk10_0 (va92 p5 p2 p3) (va93 p5 p2 p3) (va94 p5 p2 p3) (va95 p5 p2 p3) (va96 p5 p2 p3) (va97 p5 p2 p3) (va98 p5 p2 p3) (va99 p5 p2 p3) (va100 p5 p2 p3) (va101 p5 p2 p3) (va102 p5 p2 p3) (va103 p5 p2 p3) p90 s7 s8 ks_s8 s9 s10 ks_s10 (Nat.le_trans (lx Z0 E6) K10.1) Sp4 F13 Sp5 Sp6 Sp7 Sp8 f10_0 Sp9 f10_1 Sp10 f10_2 Sp11 f10_3 Sp0 H3 qa10_0 Sp12 Sp13 Sp14 Sp15 Sp16 Sp17 Sp18 Sp19 Sp20 Sp21) rfl (Ls := (L_iiiiiiriiir p1 p2 p3 p4 p5 (va1 p1) b6a (va2 p5 p2) (va3 p3) ((12 : Int32) + (va1 p4)) b11)) hml [vr b11] [] pd_17 0 (hb hby at_88)
  have N14 := Fr.app N10 N14q
  have F15 := (Exa.keep f10_0 K14)
  have F16 := (Fld.keep f10_1 K14 nin0)
  have F17 := (Fld.keep f10_2 K14 nin0)
  have F18 := (Arv.keep f10_3 K14 nin0)
  have F19 := (F13.keep K14 all0)
  have F21 := (Nat.le_trans (Nat.le_trans (lx Z0 E6) K10.1) K14.1)
  have F22 := CH6.1
  have F23 := (CHv.keep K10 all0 F22)
  have F24 := (CHv.keep K14 all0 F23)
  have F25 := (Safe.keep K10 all0 F22 (Safe.new qb10_0))
  have F26 := (Safe.keep K14 all0 F23 F25)
  obtain ⟨_, _, ⟨T20, L20, k20, n20⟩, -, Xq20, hSq20, gq20, ⟨Lc20, hQ20, l20, y20, z20⟩, st20⟩ := callSS X14 hx (y := y18) hown6 (mvT hZ6 (tw_106 hw)) (mvT hZ6 (tw_107 hw)) (mvT hZ6 (tw_24 hw)) (mvT hZ6 (tw_108 hw)) (by decide) (own_backH (s := s) (vm0 := T6.vm) (W := 1) (rm20_5 (ws := []) (h0 := T14.heap) hw b11 b12 kk10_0 (va92 p5 p2 p3) (va93 p5 p2 p3) (va94 p5 p2 p3) (va95 p5 p2 p3) (va96 p5 p2 p3) (va97 p5 p2 p3) (va98 p5 p2 p3) (va99 p5 p2 p3) (va100 p5 p2 p3) (va101 p5 p2 p3) (va102 p5 p2 p3) (va103 p5 p2 p3) p90 F21 F15 F16 F17 F18 Sp0 H3 F19) hZ6 (tw_108 hw) (tw_24 hw) (by decide) (by decide) (own_EW hw) F24 (allS ⟨F15.lt, F26⟩ all0)) (g := (mkF m 93 (L_iiiiiiriiir p1 p2 p3 p4 p5 (va1 p1) b6a (va2 p5 p2) (va3 p3) ((12 : Int32) + (va1 p4)) b11) [vr b11, .null])) rfl (by rw [hml]; rfl) (argsL := [(vr b11)]) (rest := [.null]) (lenOf pd_17 rfl) rfl (by show 2 * 0 + _ ≤ _; exact Nat.le_of_eq rfl) (hb hby at_93) (fun _ _ => ⟨rfl, rfl, (by decide : 7 + 6 ≤ _), (by decide : 102 + 172 ≤ _)⟩)
  dsimp only [Pt.U, Pt.locs, Pt.cells, Pt.slots] at Xq20 l20 y20 z20 st20 hQ20
  subst l20 y20 z20
  obtain ⟨X20, hS20, hZ20, hown20⟩ := rebS (s := s) (vm0 := T6.vm) hS6 (n1 := T14.heap.size) (Nat.le_trans (Nat.le_trans hk6 K10.1) K14.1) Xq20 hSq20 gq20 hZ6 hown6
  obtain ⟨rfl, N20q, K20⟩ := hQ20
  have N20 := Fr.app N14 N20q
  obtain ⟨fs, hr, hrun, hended, hRE⟩ := X20.leaveW hS20 (Nat.le_refl _) (v := some (vi 1)) (fun h => by rw [hret] at h; cases h)
  refine ⟨_, _, pre0 _ ?_, hrun, hended, _, _, rfl, ?_, hRE.1, hRE.2.1, hRE.2.2.1, hRE.2.2.2.mono (by decide) (by decide)⟩
  · refine own_b X0 hx hby tb0 1 [] 1 _ [vi p1] rfl ?_
    refine X0.ldcInt hx hown (mvT hZ (tw_0 hw)) (g := (mkF m 1 (L_iiiiiuuuuuu p1 p2 p3 p4 p5) [vi p1])) rfl (hb hby at_1) _ ?_
    show OS p e below s₁ m 3 (L_iiiiiuuuuuu p1 p2 p3 p4 p5) [vi 2147483647, vi p1] _
    refine own_b X0 hx hby tb0 2 [] 5 _ [vi 3, vi (p1 &&& (2147483647 : Int32))] rfl ?_
    refine iremM X0 hx (g := (mkF m 5 (L_iiiiiuuuuuu p1 p2 p3 p4 p5) [vi 3, vi (p1 &&& (2147483647 : Int32))])) rfl (hb hby at_5) rfl (by decide) ?_
    show OS p e below s₁ m 6 (L_iiiiiuuuuuu p1 p2 p3 p4 p5) [vi (va1 p1)] _
    refine own_b X0 hx hby tb0 1 [] 8 (L_iiiiiiuuuuu p1 p2 p3 p4 p5 (va1 p1)) [] rfl ?_
    refine st6 _ ?_
    refine own_b X6 hx hby tb0 14 [true, true] 42 (L_iiiiiiriuuu p1 p2 p3 p4 p5 (va1 p1) b6a (p2 &&& (15 : Int32))) [vi (p5 &&& (1 : Int32))] (ai (feq H1).2 (ai (feq H2).2 rfl)) ?_
    suffices j7 : OS p e below T6 m 49 (L_iiiiiiriuuu p1 p2 p3 p4 p5 (va1 p1) b6a (va2 p5 p2)) [] (T20.setFrames fs) by
      by_cases j7_1 : (p5 &&& (1 : Int32)) = (0 : Int32)
      ·
        refine own_b X6 hx hby tb0 1 [true] 49 _ [] (ai (teq j7_1).1 rfl) ?_
        exact (Eq.mp (congrArg (fun z => OS p e below T6 m 49 (L_iiiiiiriuuu p1 p2 p3 p4 p5 (va1 p1) b6a z) [] (T20.setFrames fs)) (by simp only [va2, if_pos j7_1] : (va2 p5 p2) = (p2 &&& (15 : Int32)))) j7)
      ·
        refine own_b X6 hx hby tb0 3 [false] 49 (L_iiiiiiriuuu p1 p2 p3 p4 p5 (va1 p1) b6a 15) [] (ai (feq j7_1).1 rfl) ?_
        exact (Eq.mp (congrArg (fun z => OS p e below T6 m 49 (L_iiiiiiriuuu p1 p2 p3 p4 p5 (va1 p1) b6a z) [] (T20.setFrames fs)) (by simp only [va2, if_neg j7_1] : (va2 p5 p2) = (15 : Int32))) j7)
    refine own_b X6 hx hby tb0 6 [] 59 (L_iiiiiiriiuu p1 p2 p3 p4 p5 (va1 p1) b6a (va2 p5 p2) (va3 p3)) [vr b6a] rfl ?_
    refine st9 _ ?_
    refine own_b X9 hx hby tb0 3 [] 65 _ [vi p4, vi 12] rfl ?_
    refine X9.ldcInt hx hown6 (mvT hZ6 (tw_0 hw)) (g := (mkF m 65 (L_iiiiiiriiuu p1 p2 p3 p4 p5 (va1 p1) b6a (va2 p5 p2) (va3 p3)) [vi p4, vi 12])) rfl (hb hby at_65) _ ?_
    show OS p e below T9 m 67 (L_iiiiiiriiuu p1 p2 p3 p4 p5 (va1 p1) b6a (va2 p5 p2) (va3 p3)) [vi 2147483647, vi p4, vi 12] _
    refine own_b X9 hx hby tb0 2 [] 69 _ [vi 3, vi (p4 &&& (2147483647 : Int32)), vi 12] rfl ?_
    refine iremM X9 hx (g := (mkF m 69 (L_iiiiiiriiuu p1 p2 p3 p4 p5 (va1 p1) b6a (va2 p5 p2) (va3 p3)) [vi 3, vi (p4 &&& (2147483647 : Int32)), vi 12])) rfl (hb hby at_69) rfl (by decide) ?_
    show OS p e below T9 m 70 (L_iiiiiiriiuu p1 p2 p3 p4 p5 (va1 p1) b6a (va2 p5 p2) (va3 p3)) [vi (va1 p4), vi 12] _
    refine own_b X9 hx hby tb0 6 [] 81 (L_iiiiiiriiiu p1 p2 p3 p4 p5 (va1 p1) b6a (va2 p5 p2) (va3 p3) ((12 : Int32) + (va1 p4))) [vi ((12 : Int32) + (va1 p4)), vi (va3 p3), vi (va2 p5 p2), vr b6a] rfl ?_
    refine st10 _ ?_
    refine own_b X10 hx hby tb0 2 [] 88 (L_iiiiiiriiir p1 p2 p3 p4 p5 (va1 p1) b6a (va2 p5 p2) (va3 p3) ((12 : Int32) + (va1 p4)) b11) [vr b11] rfl ?_
    refine st14 _ ?_
    refine own_b X14 hx hby tb0 1 [] 93 _ [vr b11, .null] rfl ?_
    refine st20.trans ?_
    show OS p e below T20 m 96 (L_iiiiiiriiir p1 p2 p3 p4 p5 (va1 p1) b6a (va2 p5 p2) (va3 p3) ((12 : Int32) + (va1 p4)) b11) [.null, .null] _
    refine Jvm.RoadKit.acmp (g := (mkF m 96 (L_iiiiiiriiir p1 p2 p3 p4 p5 (va1 p1) b6a (va2 p5 p2) (va3 p3) ((12 : Int32) + (va1 p4)) b11) [.null, .null])) X20 hx rfl rfl rfl (pc0 := 96) (pc' := 99) (same := true) rfl (hb hby at_96) rfl (decide_eq_true rfl) (by decide) (by decide) ?_
    show OS p e below T20 m 99 (L_iiiiiiriiir p1 p2 p3 p4 p5 (va1 p1) b6a (va2 p5 p2) (va3 p3) ((12 : Int32) + (va1 p4)) b11) [] _
    refine own_b X20 hx hby tb0 2 [] 104 _ [vi 1] rfl ?_
    exact retN X20 hx (t := .boolean) hret (by simp) (hb hby at_104) hr
  · show Q0 h0 n0 _ T20.heap _
    exact ⟨rfl, N20⟩
theorem rm0_9 (hw : OW Z a0) (p1 : Int32) (p2 : Int32) (p3 : Int32) (p4 : Int32) (p5 : Int32) (s1 : Addr) (s2 : Addr) (s3 : Addr) (s4 : Addr) (s5 : Addr) (s6 : Addr) (s7 : Addr) (s8 : Addr) (s9 : Addr) (s10 : Addr) (p90 : Int32) (rv0 : Value) (ks_s1 : ClassId) (ks_s6 : ClassId) (ks_s8 : ClassId) (ks_s10 : ClassId) (Z0 : n0 ≤ h0.size) (Sp0 : ab1 Z (.int p90)) (Sp1 : Old Z n0 h0) (Sp2 : ab2 Z rv0) (Sp3 : rv0.isRef = true) (Sp4 : ab3 Z (.ref s1)) (Sp5 : ab11 Z Z.heap s1) (Sp6 : Arv Z Z.heap s1 ks_s1 (.object "com/example/sinkwatch/sinkwatch/Flaw") (3 : Int32) [(.ref s2), (.ref s3), (.ref s4)] .null) (Sp7 : ab9 Z Z.heap s2 (.ref s5)) (Sp8 : ab10 Z Z.heap s5) (Sp9 : ab7 Z Z.heap s5 (.int (0 : Int32))) (Sp10 : ab8 Z Z.heap s5 (.ref s6)) (Sp11 : Arv Z Z.heap s6 ks_s6 .byte (13 : Int32) bl3 (.int (0 : Int32))) (Sp12 : ab9 Z Z.heap s3 (.ref s7)) (Sp13 : ab10 Z Z.heap s7) (Sp14 : ab7 Z Z.heap s7 (.int (0 : Int32))) (Sp15 : ab8 Z Z.heap s7 (.ref s8)) (Sp16 : Arv Z Z.heap s8 ks_s8 .byte (14 : Int32) bl1 (.int (0 : Int32))) (Sp17 : ab9 Z Z.heap s4 (.ref s9)) (Sp18 : ab10 Z Z.heap s9) (Sp19 : ab7 Z Z.heap s9 (.int (0 : Int32))) (Sp20 : ab8 Z Z.heap s9 (.ref s10)) (Sp21 : Arv Z Z.heap s10 ks_s10 .byte (13 : Int32) bl6 (.int (0 : Int32))) (Sp22 : ab4 Z (.ref s3)) (Sp23 : ab5 Z (.ref s4)) (Sp24 : ab6 Z (.ref s2)) (Sp25 : ¬ (p90 = (0 : Int32))) (H1 : ¬ ((va1 p1) = (1 : Int32))) (H2 : ¬ ((va1 p1) = (2 : Int32))) (H3 : ¬ (p90 = (0 : Int32))) (H4 : ¬ (((12 : Int32) + (va1 p4)) = (12 : Int32))) (H5 : ((12 : Int32) + (va1 p4)) = (13 : Int32)) (H6 : (va105 p5 p2 p3) = (0 : Int32)) (H7 : (va106 p5 p2 p3) = (0 : Int32)) (H8 : (va107 p5 p2 p3) = (0 : Int32)) (H9 : (va108 p5 p2 p3) = (0 : Int32)) :
    MC l Z ws h0 n0 p1 p2 p3 p4 p5 := by
  refine MetFree.of_bodySF (plainFor_of_name pn_3) hisR ?_
  intro p e s m args below meth c s₁ Bd hml0 hP hK
  obtain ⟨rfl, hZ, hh, hH⟩ := hP
  have hx := Bd.exec
  have hby := Bd.bytes
  have hml : c.maxLocals = 11 := hml0
  have hown : s.vm.findClass "com/example/sinkwatch/sinkwatch/FlawNamedPinLaw" = some m.cls := findClass_of_methodNamed Bd.named
  have hnm := (name_of_methodNamed Bd.named Bd.method).1
  have hret := Bd.returns
  have X0 : Stand p l e room_1 s m #[(vi p1), (vi p2), (vi p3), (vi p4), (vi p5)] below meth c s₁ [] 0 0 := Stand.of_body Bd
  have e0 : s₁.heap = h0 := by rw [← hh, Bd.state]; rfl
  have N0 := Fr.nil n0
  have pre0 : ∀ t, Steps p.tables e below (s₁.setTop (mkF m 0 #[si p1, si p2, si p3, si p4, si p5, .unset, .unset, .unset, .unset, .unset, .unset] [])) t → Steps p.tables e below (s₁.setTop (entryFrame m #[(vi p1), (vi p2), (vi p3), (vi p4), (vi p5)] maxLocals)) t := fun t k => castTop (ef0 m p1 p2 p3 p4 p5) k
  obtain ⟨b6a, T6, h6, k6, b6b, kl6, X6, e6, E6, hS6, hk6, hZ6, hown6, fa6, fb6, fc6, fd6, -, -, CH6, LT6, LN6, st6⟩ := ldcCH (s := s) (vm0 := s.vm) (show Stand _ _ _ _ (s.setVm s.vm) _ _ _ _ _ _ _ _ _ from X0) hx hZ hown (tw_1 hw) (own_wS hw) e0 (State.WarmedH.since (State.WarmedH.refl s) 0) (Nat.zero_le _) (own_EW hw) (List.mem_of_getElem? (i := 0) rfl) hH (vs := [(vi 115), (vi 113), (vi 108), (vi 45), (vi 105), (vi 110), (vi 106), (vi 101), (vi 99), (vi 116), (vi 105), (vi 111), (vi 110)]) (z := (13 : Int32)) (by decide +kernel) (by decide) (by decide) (g := (mkF m 8 (L_iiiiiiuuuuu p1 p2 p3 p4 p5 (va1 p1)) [])) rfl (hb hby at_8) (n := 52) (by decide) (by decide) (by decide) (by decide)
  have F8 := (Sp1.ext E6)
  obtain ⟨T9, L9, _, X9, ⟨rfl, N9q, e9q⟩, st9⟩ := own_callV X6 hx hZ6 hown6 (tw_9 hw) (tw_10 hw) (notFace_of_selects (args := #[]) (mvT hZ6 (tw_12 hw))) (tw_12 hw) (tw_11 hw) (tw_2 hw) (tw_13 hw) (rm1_3 hw b6a b6b kl6 p90 (lx Z0 E6) fc6 fd6 fa6 Sp0 F8 H3 fb6) e6 fa6 (Ls := (L_iiiiiiriiuu p1 p2 p3 p4 p5 (va1 p1) b6a (va2 p5 p2) (va3 p3))) hml [] [] pd_1 0 (hb hby at_59)
  have N9 := Fr.app N0 N9q
  obtain ⟨T10, L10, _, X10, ⟨b11, b12, kk10_0, rfl, N10q, K10, qa10_0, qb10_0, qa10_1, qb10_1, qc10_0_1, f10_0, f10_1, f10_2, f10_3⟩, st10⟩ := own_callS X9 hx hZ6 hown6 (cw_9 hw) (rm3_1 hw b6a (va2 p5 p2) (va3 p3) ((12 : Int32) + (va1 p4)) b6b kl6 (13 : Int32) bl3 p90 rv0 (va79 p5 p2 p3) (va80 p5 p2 p3) (va81 p5 p2 p3) (va82 p5 p2 p3) (va83 p5 p2 p3) (va84 p5 p2 p3) (va85 p5 p2 p3) (va86 p5 p2 p3) (va87 p5 p2 p3) (va88 p5 p2 p3) (va89 p5 p2 p3) (va90 p5 p2 p3) (va91 p5 p2 p3) (va19 p3) (va19 p3) (lx Z0 E6) fc6 fd6 fb6 fa6 Sp0 Sp2 H3 (CVi 115) F8 Sp3 (CVi 113) (CVi 108) (CVi 45) (CVi 105) (CVi 110) (CVi 106) (CVi 101) (CVi 99) (CVi 116) (CVi 105) (CVi 111) (CVi 110) CVo CVo H4 H5 (x255 115) (x255 113) (x255 108) (x255 45) (x255 105) (x255 110) (x255 106) (x255 101) (x255 99) (x255 116) (x255 105) (x255 111) (x255 110)) e9q (Ls := (L_iiiiiiriiiu p1 p2 p3 p4 p5 (va1 p1) b6a (va2 p5 p2) (va3 p3) ((12 : Int32) + (va1 p4)))) hml [vr b6a, vi (va2 p5 p2), vi (va3 p3), vi ((12 : Int32) + (va1 p4))] [] pd_13 0 (hb hby at_81)
  have N10 := Fr.app N9 N10q
  have qd10_0 := Nat.le_trans (lx (Nat.le_refl h0.size) E6) qb10_0
  have qd10_1 := Nat.le_trans (lx (Nat.le_refl h0.size) E6) qb10_1
  have F13 := (F8.keep K10 all0)
  obtain ⟨T14, L14, _, X14, ⟨rfl, N14q, K14⟩, st14⟩ := own_callS X10 hx hZ6 hown6 (cw_12 hw) (rm16_1 hw b11 s1 ks_s1 s2 s3 s4 s5 s6 b12 ks_s6 kk10_0 (va92 p5 p2 p3) (va93 p5 p2 p3) (va94 p5 p2 p3) (va95 p5 p2 p3) (va96 p5 p2 p3) (va97 p5 p2 p3) (va98 p5 p2 p3) (va99 p5 p2 p3) (va100 p5 p2 p3) (va101 p5 p2 p3) (va102 p5 p2 p3) (va103 p5 p2 p3) (va104 p5 p2 p3) p90 s7 s8 ks_s8 s9 s10 ks_s10 (Nat.le_trans (lx Z0 E6) K10.1) Sp4 F13 Sp5 Sp6 Sp7 Sp8 f10_0 Sp9 f10_1 Sp10 f10_2 Sp11 f10_3 Sp0 H3 qa10_0 H6 Sp12 Sp13 Sp14 Sp15 Sp16 Sp17 Sp18 Sp19 Sp20 Sp21 H7) rfl (Ls := (L_iiiiiiriiir p1 p2 p3 p4 p5 (va1 p1) b6a (va2 p5 p2) (va3 p3) ((12 : Int32) + (va1 p4)) b11)) hml [vr b11] [] pd_17 0 (hb hby at_88)
  have N14 := Fr.app N10 N14q
  have F15 := (Exa.keep f10_0 K14)
  have F16 := (Fld.keep f10_1 K14 nin0)
  have F17 := (Fld.keep f10_2 K14 nin0)
  have F18 := (Arv.keep f10_3 K14 nin0)
  have F19 := (F13.keep K14 all0)
  have F21 := (Nat.le_trans (Nat.le_trans (lx Z0 E6) K10.1) K14.1)
  have F22 := CH6.1
  have F23 := (CHv.keep K10 all0 F22)
  have F24 := (CHv.keep K14 all0 F23)
  have F25 := (Safe.keep K10 all0 F22 (Safe.new qb10_0))
  have F26 := (Safe.keep K14 all0 F23 F25)
  obtain ⟨_, _, ⟨T20, L20, k20, n20⟩, -, Xq20, hSq20, gq20, ⟨Lc20, hQ20, l20, y20, z20⟩, st20⟩ := callSS X14 hx (y := y18) hown6 (mvT hZ6 (tw_106 hw)) (mvT hZ6 (tw_107 hw)) (mvT hZ6 (tw_24 hw)) (mvT hZ6 (tw_108 hw)) (by decide) (own_backH (s := s) (vm0 := T6.vm) (W := 1) (rm20_1 (ws := []) (h0 := T14.heap) hw b11 b12 kk10_0 (va92 p5 p2 p3) (va93 p5 p2 p3) (va94 p5 p2 p3) (va95 p5 p2 p3) (va96 p5 p2 p3) (va97 p5 p2 p3) (va98 p5 p2 p3) (va99 p5 p2 p3) (va100 p5 p2 p3) (va101 p5 p2 p3) (va102 p5 p2 p3) (va103 p5 p2 p3) (va104 p5 p2 p3) p90 F21 F15 F16 F17 F18 Sp0 H3 F19 H8 H9) hZ6 (tw_108 hw) (tw_24 hw) (by decide) (by decide) (own_EW hw) F24 (allS ⟨F15.lt, F26⟩ all0)) (g := (mkF m 93 (L_iiiiiiriiir p1 p2 p3 p4 p5 (va1 p1) b6a (va2 p5 p2) (va3 p3) ((12 : Int32) + (va1 p4)) b11) [vr b11, .null])) rfl (by rw [hml]; rfl) (argsL := [(vr b11)]) (rest := [.null]) (lenOf pd_17 rfl) rfl (by show 2 * 0 + _ ≤ _; exact Nat.le_of_eq rfl) (hb hby at_93) (fun _ _ => ⟨rfl, rfl, (by decide : 7 + 6 ≤ _), (by decide : 104 + 172 ≤ _)⟩)
  dsimp only [Pt.U, Pt.locs, Pt.cells, Pt.slots] at Xq20 l20 y20 z20 st20 hQ20
  subst l20 y20 z20
  obtain ⟨X20, hS20, hZ20, hown20⟩ := rebS (s := s) (vm0 := T6.vm) hS6 (n1 := T14.heap.size) (Nat.le_trans (Nat.le_trans hk6 K10.1) K14.1) Xq20 hSq20 gq20 hZ6 hown6
  obtain ⟨rfl, N20q, K20⟩ := hQ20
  have N20 := Fr.app N14 N20q
  obtain ⟨fs, hr, hrun, hended, hRE⟩ := X20.leaveW hS20 (Nat.le_refl _) (v := some (vi 1)) (fun h => by rw [hret] at h; cases h)
  refine ⟨_, _, pre0 _ ?_, hrun, hended, _, _, rfl, ?_, hRE.1, hRE.2.1, hRE.2.2.1, hRE.2.2.2.mono (by decide) (by decide)⟩
  · refine own_b X0 hx hby tb0 1 [] 1 _ [vi p1] rfl ?_
    refine X0.ldcInt hx hown (mvT hZ (tw_0 hw)) (g := (mkF m 1 (L_iiiiiuuuuuu p1 p2 p3 p4 p5) [vi p1])) rfl (hb hby at_1) _ ?_
    show OS p e below s₁ m 3 (L_iiiiiuuuuuu p1 p2 p3 p4 p5) [vi 2147483647, vi p1] _
    refine own_b X0 hx hby tb0 2 [] 5 _ [vi 3, vi (p1 &&& (2147483647 : Int32))] rfl ?_
    refine iremM X0 hx (g := (mkF m 5 (L_iiiiiuuuuuu p1 p2 p3 p4 p5) [vi 3, vi (p1 &&& (2147483647 : Int32))])) rfl (hb hby at_5) rfl (by decide) ?_
    show OS p e below s₁ m 6 (L_iiiiiuuuuuu p1 p2 p3 p4 p5) [vi (va1 p1)] _
    refine own_b X0 hx hby tb0 1 [] 8 (L_iiiiiiuuuuu p1 p2 p3 p4 p5 (va1 p1)) [] rfl ?_
    refine st6 _ ?_
    refine own_b X6 hx hby tb0 14 [true, true] 42 (L_iiiiiiriuuu p1 p2 p3 p4 p5 (va1 p1) b6a (p2 &&& (15 : Int32))) [vi (p5 &&& (1 : Int32))] (ai (feq H1).2 (ai (feq H2).2 rfl)) ?_
    suffices j7 : OS p e below T6 m 49 (L_iiiiiiriuuu p1 p2 p3 p4 p5 (va1 p1) b6a (va2 p5 p2)) [] (T20.setFrames fs) by
      by_cases j7_1 : (p5 &&& (1 : Int32)) = (0 : Int32)
      ·
        refine own_b X6 hx hby tb0 1 [true] 49 _ [] (ai (teq j7_1).1 rfl) ?_
        exact (Eq.mp (congrArg (fun z => OS p e below T6 m 49 (L_iiiiiiriuuu p1 p2 p3 p4 p5 (va1 p1) b6a z) [] (T20.setFrames fs)) (by simp only [va2, if_pos j7_1] : (va2 p5 p2) = (p2 &&& (15 : Int32)))) j7)
      ·
        refine own_b X6 hx hby tb0 3 [false] 49 (L_iiiiiiriuuu p1 p2 p3 p4 p5 (va1 p1) b6a 15) [] (ai (feq j7_1).1 rfl) ?_
        exact (Eq.mp (congrArg (fun z => OS p e below T6 m 49 (L_iiiiiiriuuu p1 p2 p3 p4 p5 (va1 p1) b6a z) [] (T20.setFrames fs)) (by simp only [va2, if_neg j7_1] : (va2 p5 p2) = (15 : Int32))) j7)
    refine own_b X6 hx hby tb0 6 [] 59 (L_iiiiiiriiuu p1 p2 p3 p4 p5 (va1 p1) b6a (va2 p5 p2) (va3 p3)) [vr b6a] rfl ?_
    refine st9 _ ?_
    refine own_b X9 hx hby tb0 3 [] 65 _ [vi p4, vi 12] rfl ?_
    refine X9.ldcInt hx hown6 (mvT hZ6 (tw_0 hw)) (g := (mkF m 65 (L_iiiiiiriiuu p1 p2 p3 p4 p5 (va1 p1) b6a (va2 p5 p2) (va3 p3)) [vi p4, vi 12])) rfl (hb hby at_65) _ ?_
    show OS p e below T9 m 67 (L_iiiiiiriiuu p1 p2 p3 p4 p5 (va1 p1) b6a (va2 p5 p2) (va3 p3)) [vi 2147483647, vi p4, vi 12] _
    refine own_b X9 hx hby tb0 2 [] 69 _ [vi 3, vi (p4 &&& (2147483647 : Int32)), vi 12] rfl ?_
    refine iremM X9 hx (g := (mkF m 69 (L_iiiiiiriiuu p1 p2 p3 p4 p5 (va1 p1) b6a (va2 p5 p2) (va3 p3)) [vi 3, vi (p4 &&& (2147483647 : Int32)), vi 12])) rfl (hb hby at_69) rfl (by decide) ?_
    show OS p e below T9 m 70 (L_iiiiiiriiuu p1 p2 p3 p4 p5 (va1 p1) b6a (va2 p5 p2) (va3 p3)) [vi (va1 p4), vi 12] _
    refine own_b X9 hx hby tb0 6 [] 81 (L_iiiiiiriiiu p1 p2 p3 p4 p5 (va1 p1) b6a (va2 p5 p2) (va3 p3) ((12 : Int32) + (va1 p4))) [vi ((12 : Int32) + (va1 p4)), vi (va3 p3), vi (va2 p5 p2), vr b6a] rfl ?_
    refine st10 _ ?_
    refine own_b X10 hx hby tb0 2 [] 88 (L_iiiiiiriiir p1 p2 p3 p4 p5 (va1 p1) b6a (va2 p5 p2) (va3 p3) ((12 : Int32) + (va1 p4)) b11) [vr b11] rfl ?_
    refine st14 _ ?_
    refine own_b X14 hx hby tb0 1 [] 93 _ [vr b11, .null] rfl ?_
    refine st20.trans ?_
    show OS p e below T20 m 96 (L_iiiiiiriiir p1 p2 p3 p4 p5 (va1 p1) b6a (va2 p5 p2) (va3 p3) ((12 : Int32) + (va1 p4)) b11) [.null, .null] _
    refine Jvm.RoadKit.acmp (g := (mkF m 96 (L_iiiiiiriiir p1 p2 p3 p4 p5 (va1 p1) b6a (va2 p5 p2) (va3 p3) ((12 : Int32) + (va1 p4)) b11) [.null, .null])) X20 hx rfl rfl rfl (pc0 := 96) (pc' := 99) (same := true) rfl (hb hby at_96) rfl (decide_eq_true rfl) (by decide) (by decide) ?_
    show OS p e below T20 m 99 (L_iiiiiiriiir p1 p2 p3 p4 p5 (va1 p1) b6a (va2 p5 p2) (va3 p3) ((12 : Int32) + (va1 p4)) b11) [] _
    refine own_b X20 hx hby tb0 2 [] 104 _ [vi 1] rfl ?_
    exact retN X20 hx (t := .boolean) hret (by simp) (hb hby at_104) hr
  · show Q0 h0 n0 _ T20.heap _
    exact ⟨rfl, N20⟩
theorem rm0_10 (hw : OW Z a0) (p1 : Int32) (p2 : Int32) (p3 : Int32) (p4 : Int32) (p5 : Int32) (s1 : Addr) (s2 : Addr) (s3 : Addr) (s4 : Addr) (s5 : Addr) (s6 : Addr) (s7 : Addr) (s8 : Addr) (s9 : Addr) (s10 : Addr) (p90 : Int32) (rv0 : Value) (ks_s1 : ClassId) (ks_s6 : ClassId) (ks_s8 : ClassId) (ks_s10 : ClassId) (Z0 : n0 ≤ h0.size) (Sp0 : ab1 Z (.int p90)) (Sp1 : Old Z n0 h0) (Sp2 : ab2 Z rv0) (Sp3 : rv0.isRef = true) (Sp4 : ab3 Z (.ref s1)) (Sp5 : ab11 Z Z.heap s1) (Sp6 : Arv Z Z.heap s1 ks_s1 (.object "com/example/sinkwatch/sinkwatch/Flaw") (3 : Int32) [(.ref s2), (.ref s3), (.ref s4)] .null) (Sp7 : ab9 Z Z.heap s2 (.ref s5)) (Sp8 : ab10 Z Z.heap s5) (Sp9 : ab7 Z Z.heap s5 (.int (0 : Int32))) (Sp10 : ab8 Z Z.heap s5 (.ref s6)) (Sp11 : Arv Z Z.heap s6 ks_s6 .byte (13 : Int32) bl3 (.int (0 : Int32))) (Sp12 : ab9 Z Z.heap s3 (.ref s7)) (Sp13 : ab10 Z Z.heap s7) (Sp14 : ab7 Z Z.heap s7 (.int (0 : Int32))) (Sp15 : ab8 Z Z.heap s7 (.ref s8)) (Sp16 : Arv Z Z.heap s8 ks_s8 .byte (14 : Int32) bl1 (.int (0 : Int32))) (Sp17 : ab9 Z Z.heap s4 (.ref s9)) (Sp18 : ab10 Z Z.heap s9) (Sp19 : ab7 Z Z.heap s9 (.int (0 : Int32))) (Sp20 : ab8 Z Z.heap s9 (.ref s10)) (Sp21 : Arv Z Z.heap s10 ks_s10 .byte (13 : Int32) bl6 (.int (0 : Int32))) (Sp22 : ab4 Z (.ref s3)) (Sp23 : ab5 Z (.ref s4)) (Sp24 : ab6 Z (.ref s2)) (Sp25 : ¬ (p90 = (0 : Int32))) (H1 : ¬ ((va1 p1) = (1 : Int32))) (H2 : ¬ ((va1 p1) = (2 : Int32))) (H3 : ¬ (p90 = (0 : Int32))) (H4 : ¬ (((12 : Int32) + (va1 p4)) = (12 : Int32))) (H5 : ((12 : Int32) + (va1 p4)) = (13 : Int32)) (H6 : ¬ ((va105 p5 p2 p3) = (0 : Int32))) (H7 : ¬ ((va107 p5 p2 p3) = (0 : Int32))) :
    MC l Z ws h0 n0 p1 p2 p3 p4 p5 := by
  refine MetFree.of_bodySF (plainFor_of_name pn_3) hisR ?_
  intro p e s m args below meth c s₁ Bd hml0 hP hK
  obtain ⟨rfl, hZ, hh, hH⟩ := hP
  have hx := Bd.exec
  have hby := Bd.bytes
  have hml : c.maxLocals = 11 := hml0
  have hown : s.vm.findClass "com/example/sinkwatch/sinkwatch/FlawNamedPinLaw" = some m.cls := findClass_of_methodNamed Bd.named
  have hnm := (name_of_methodNamed Bd.named Bd.method).1
  have hret := Bd.returns
  have X0 : Stand p l e room_1 s m #[(vi p1), (vi p2), (vi p3), (vi p4), (vi p5)] below meth c s₁ [] 0 0 := Stand.of_body Bd
  have e0 : s₁.heap = h0 := by rw [← hh, Bd.state]; rfl
  have N0 := Fr.nil n0
  have pre0 : ∀ t, Steps p.tables e below (s₁.setTop (mkF m 0 #[si p1, si p2, si p3, si p4, si p5, .unset, .unset, .unset, .unset, .unset, .unset] [])) t → Steps p.tables e below (s₁.setTop (entryFrame m #[(vi p1), (vi p2), (vi p3), (vi p4), (vi p5)] maxLocals)) t := fun t k => castTop (ef0 m p1 p2 p3 p4 p5) k
  obtain ⟨b6a, T6, h6, k6, b6b, kl6, X6, e6, E6, hS6, hk6, hZ6, hown6, fa6, fb6, fc6, fd6, -, -, CH6, LT6, LN6, st6⟩ := ldcCH (s := s) (vm0 := s.vm) (show Stand _ _ _ _ (s.setVm s.vm) _ _ _ _ _ _ _ _ _ from X0) hx hZ hown (tw_1 hw) (own_wS hw) e0 (State.WarmedH.since (State.WarmedH.refl s) 0) (Nat.zero_le _) (own_EW hw) (List.mem_of_getElem? (i := 0) rfl) hH (vs := [(vi 115), (vi 113), (vi 108), (vi 45), (vi 105), (vi 110), (vi 106), (vi 101), (vi 99), (vi 116), (vi 105), (vi 111), (vi 110)]) (z := (13 : Int32)) (by decide +kernel) (by decide) (by decide) (g := (mkF m 8 (L_iiiiiiuuuuu p1 p2 p3 p4 p5 (va1 p1)) [])) rfl (hb hby at_8) (n := 52) (by decide) (by decide) (by decide) (by decide)
  have F8 := (Sp1.ext E6)
  obtain ⟨T9, L9, _, X9, ⟨rfl, N9q, e9q⟩, st9⟩ := own_callV X6 hx hZ6 hown6 (tw_9 hw) (tw_10 hw) (notFace_of_selects (args := #[]) (mvT hZ6 (tw_12 hw))) (tw_12 hw) (tw_11 hw) (tw_2 hw) (tw_13 hw) (rm1_3 hw b6a b6b kl6 p90 (lx Z0 E6) fc6 fd6 fa6 Sp0 F8 H3 fb6) e6 fa6 (Ls := (L_iiiiiiriiuu p1 p2 p3 p4 p5 (va1 p1) b6a (va2 p5 p2) (va3 p3))) hml [] [] pd_1 0 (hb hby at_59)
  have N9 := Fr.app N0 N9q
  obtain ⟨T10, L10, _, X10, ⟨b11, b12, kk10_0, rfl, N10q, K10, qa10_0, qb10_0, qa10_1, qb10_1, qc10_0_1, f10_0, f10_1, f10_2, f10_3⟩, st10⟩ := own_callS X9 hx hZ6 hown6 (cw_9 hw) (rm3_1 hw b6a (va2 p5 p2) (va3 p3) ((12 : Int32) + (va1 p4)) b6b kl6 (13 : Int32) bl3 p90 rv0 (va79 p5 p2 p3) (va80 p5 p2 p3) (va81 p5 p2 p3) (va82 p5 p2 p3) (va83 p5 p2 p3) (va84 p5 p2 p3) (va85 p5 p2 p3) (va86 p5 p2 p3) (va87 p5 p2 p3) (va88 p5 p2 p3) (va89 p5 p2 p3) (va90 p5 p2 p3) (va91 p5 p2 p3) (va19 p3) (va19 p3) (lx Z0 E6) fc6 fd6 fb6 fa6 Sp0 Sp2 H3 (CVi 115) F8 Sp3 (CVi 113) (CVi 108) (CVi 45) (CVi 105) (CVi 110) (CVi 106) (CVi 101) (CVi 99) (CVi 116) (CVi 105) (CVi 111) (CVi 110) CVo CVo H4 H5 (x255 115) (x255 113) (x255 108) (x255 45) (x255 105) (x255 110) (x255 106) (x255 101) (x255 99) (x255 116) (x255 105) (x255 111) (x255 110)) e9q (Ls := (L_iiiiiiriiiu p1 p2 p3 p4 p5 (va1 p1) b6a (va2 p5 p2) (va3 p3) ((12 : Int32) + (va1 p4)))) hml [vr b6a, vi (va2 p5 p2), vi (va3 p3), vi ((12 : Int32) + (va1 p4))] [] pd_13 0 (hb hby at_81)
  have N10 := Fr.app N9 N10q
  have qd10_0 := Nat.le_trans (lx (Nat.le_refl h0.size) E6) qb10_0
  have qd10_1 := Nat.le_trans (lx (Nat.le_refl h0.size) E6) qb10_1
  have F13 := (F8.keep K10 all0)
  obtain ⟨T14, L14, _, X14, ⟨rfl, N14q, K14⟩, st14⟩ := own_callS X10 hx hZ6 hown6 (cw_12 hw) (rm16_7 hw b11 s1 ks_s1 s2 s3 s4 s5 s6 b12 ks_s6 kk10_0 (va92 p5 p2 p3) (va93 p5 p2 p3) (va94 p5 p2 p3) (va95 p5 p2 p3) (va96 p5 p2 p3) (va97 p5 p2 p3) (va98 p5 p2 p3) (va99 p5 p2 p3) (va100 p5 p2 p3) (va101 p5 p2 p3) (va102 p5 p2 p3) (va103 p5 p2 p3) (va104 p5 p2 p3) p90 (Nat.le_trans (lx Z0 E6) K10.1) Sp4 F13 Sp5 Sp6 Sp7 Sp8 f10_0 Sp9 f10_1 Sp10 f10_2 Sp11 f10_3 Sp0 H3 qa10_0 H6) rfl (Ls := (L_iiiiiiriiir p1 p2 p3 p4 p5 (va1 p1) b6a (va2 p5 p2) (va3 p3) ((12 : Int32) + (va1 p4)) b11)) hml [vr b11] [] pd_17 0 (hb hby at_88)
  have N14 := Fr.app N10 N14q
  have F15 := (Exa.keep f10_0 K14)
  have F16 := (Fld.keep f10_1 K14 nin0)
  have F17 := (Fld.keep f10_2 K14 nin0)
  have F18 := (Arv.keep f10_3 K14 nin0)
  have F19 := (F13.keep K14 all0)
  have F21 := (Nat.le_trans (Nat.le_trans (lx Z0 E6) K10.1) K14.1)
  have F22 := CH6.1
  have F23 := (CHv.keep K10 all0 F22)
  have F24 := (CHv.keep K14 all0 F23)
  have F25 := (Safe.keep K10 all0 F22 (Safe.new qb10_0))
  have F26 := (Safe.keep K14 all0 F23 F25)
  obtain ⟨_, _, ⟨T20, L20, k20, n20⟩, -, Xq20, hSq20, gq20, ⟨Lc20, hQ20, l20, y20, z20⟩, st20⟩ := callSS X14 hx (y := y18) hown6 (mvT hZ6 (tw_106 hw)) (mvT hZ6 (tw_107 hw)) (mvT hZ6 (tw_24 hw)) (mvT hZ6 (tw_108 hw)) (by decide) (own_backH (s := s) (vm0 := T6.vm) (W := 1) (rm20_7 (ws := []) (h0 := T14.heap) hw b11 b12 kk10_0 (va92 p5 p2 p3) (va93 p5 p2 p3) (va94 p5 p2 p3) (va95 p5 p2 p3) (va96 p5 p2 p3) (va97 p5 p2 p3) (va98 p5 p2 p3) (va99 p5 p2 p3) (va100 p5 p2 p3) (va101 p5 p2 p3) (va102 p5 p2 p3) (va103 p5 p2 p3) (va104 p5 p2 p3) p90 s2 F21 F15 F16 F17 F18 Sp0 H3 F19 H7 Sp24) hZ6 (tw_108 hw) (tw_24 hw) (by decide) (by decide) (own_EW hw) F24 (allS ⟨F15.lt, F26⟩ all0)) (g := (mkF m 93 (L_iiiiiiriiir p1 p2 p3 p4 p5 (va1 p1) b6a (va2 p5 p2) (va3 p3) ((12 : Int32) + (va1 p4)) b11) [vr b11, vr s2])) rfl (by rw [hml]; rfl) (argsL := [(vr b11)]) (rest := [(vr s2)]) (lenOf pd_17 rfl) rfl (by show 2 * 0 + _ ≤ _; exact Nat.le_of_eq rfl) (hb hby at_93) (fun _ _ => ⟨rfl, rfl, (by decide : 7 + 2 ≤ _), (by decide : 104 + 56 ≤ _)⟩)
  dsimp only [Pt.U, Pt.locs, Pt.cells, Pt.slots] at Xq20 l20 y20 z20 st20 hQ20
  subst l20 y20 z20
  obtain ⟨X20, hS20, hZ20, hown20⟩ := rebS (s := s) (vm0 := T6.vm) hS6 (n1 := T14.heap.size) (Nat.le_trans (Nat.le_trans hk6 K10.1) K14.1) Xq20 hSq20 gq20 hZ6 hown6
  obtain ⟨rfl, N20q, K20⟩ := hQ20
  have N20 := Fr.app N14 N20q
  obtain ⟨fs, hr, hrun, hended, hRE⟩ := X20.leaveW hS20 (Nat.le_refl _) (v := some (vi 1)) (fun h => by rw [hret] at h; cases h)
  refine ⟨_, _, pre0 _ ?_, hrun, hended, _, _, rfl, ?_, hRE.1, hRE.2.1, hRE.2.2.1, hRE.2.2.2.mono (by decide) (by decide)⟩
  · refine own_b X0 hx hby tb0 1 [] 1 _ [vi p1] rfl ?_
    refine X0.ldcInt hx hown (mvT hZ (tw_0 hw)) (g := (mkF m 1 (L_iiiiiuuuuuu p1 p2 p3 p4 p5) [vi p1])) rfl (hb hby at_1) _ ?_
    show OS p e below s₁ m 3 (L_iiiiiuuuuuu p1 p2 p3 p4 p5) [vi 2147483647, vi p1] _
    refine own_b X0 hx hby tb0 2 [] 5 _ [vi 3, vi (p1 &&& (2147483647 : Int32))] rfl ?_
    refine iremM X0 hx (g := (mkF m 5 (L_iiiiiuuuuuu p1 p2 p3 p4 p5) [vi 3, vi (p1 &&& (2147483647 : Int32))])) rfl (hb hby at_5) rfl (by decide) ?_
    show OS p e below s₁ m 6 (L_iiiiiuuuuuu p1 p2 p3 p4 p5) [vi (va1 p1)] _
    refine own_b X0 hx hby tb0 1 [] 8 (L_iiiiiiuuuuu p1 p2 p3 p4 p5 (va1 p1)) [] rfl ?_
    refine st6 _ ?_
    refine own_b X6 hx hby tb0 14 [true, true] 42 (L_iiiiiiriuuu p1 p2 p3 p4 p5 (va1 p1) b6a (p2 &&& (15 : Int32))) [vi (p5 &&& (1 : Int32))] (ai (feq H1).2 (ai (feq H2).2 rfl)) ?_
    suffices j7 : OS p e below T6 m 49 (L_iiiiiiriuuu p1 p2 p3 p4 p5 (va1 p1) b6a (va2 p5 p2)) [] (T20.setFrames fs) by
      by_cases j7_1 : (p5 &&& (1 : Int32)) = (0 : Int32)
      ·
        refine own_b X6 hx hby tb0 1 [true] 49 _ [] (ai (teq j7_1).1 rfl) ?_
        exact (Eq.mp (congrArg (fun z => OS p e below T6 m 49 (L_iiiiiiriuuu p1 p2 p3 p4 p5 (va1 p1) b6a z) [] (T20.setFrames fs)) (by simp only [va2, if_pos j7_1] : (va2 p5 p2) = (p2 &&& (15 : Int32)))) j7)
      ·
        refine own_b X6 hx hby tb0 3 [false] 49 (L_iiiiiiriuuu p1 p2 p3 p4 p5 (va1 p1) b6a 15) [] (ai (feq j7_1).1 rfl) ?_
        exact (Eq.mp (congrArg (fun z => OS p e below T6 m 49 (L_iiiiiiriuuu p1 p2 p3 p4 p5 (va1 p1) b6a z) [] (T20.setFrames fs)) (by simp only [va2, if_neg j7_1] : (va2 p5 p2) = (15 : Int32))) j7)
    refine own_b X6 hx hby tb0 6 [] 59 (L_iiiiiiriiuu p1 p2 p3 p4 p5 (va1 p1) b6a (va2 p5 p2) (va3 p3)) [vr b6a] rfl ?_
    refine st9 _ ?_
    refine own_b X9 hx hby tb0 3 [] 65 _ [vi p4, vi 12] rfl ?_
    refine X9.ldcInt hx hown6 (mvT hZ6 (tw_0 hw)) (g := (mkF m 65 (L_iiiiiiriiuu p1 p2 p3 p4 p5 (va1 p1) b6a (va2 p5 p2) (va3 p3)) [vi p4, vi 12])) rfl (hb hby at_65) _ ?_
    show OS p e below T9 m 67 (L_iiiiiiriiuu p1 p2 p3 p4 p5 (va1 p1) b6a (va2 p5 p2) (va3 p3)) [vi 2147483647, vi p4, vi 12] _
    refine own_b X9 hx hby tb0 2 [] 69 _ [vi 3, vi (p4 &&& (2147483647 : Int32)), vi 12] rfl ?_
    refine iremM X9 hx (g := (mkF m 69 (L_iiiiiiriiuu p1 p2 p3 p4 p5 (va1 p1) b6a (va2 p5 p2) (va3 p3)) [vi 3, vi (p4 &&& (2147483647 : Int32)), vi 12])) rfl (hb hby at_69) rfl (by decide) ?_
    show OS p e below T9 m 70 (L_iiiiiiriiuu p1 p2 p3 p4 p5 (va1 p1) b6a (va2 p5 p2) (va3 p3)) [vi (va1 p4), vi 12] _
    refine own_b X9 hx hby tb0 6 [] 81 (L_iiiiiiriiiu p1 p2 p3 p4 p5 (va1 p1) b6a (va2 p5 p2) (va3 p3) ((12 : Int32) + (va1 p4))) [vi ((12 : Int32) + (va1 p4)), vi (va3 p3), vi (va2 p5 p2), vr b6a] rfl ?_
    refine st10 _ ?_
    refine own_b X10 hx hby tb0 2 [] 88 (L_iiiiiiriiir p1 p2 p3 p4 p5 (va1 p1) b6a (va2 p5 p2) (va3 p3) ((12 : Int32) + (va1 p4)) b11) [vr b11] rfl ?_
    refine st14 _ ?_
    refine own_b X14 hx hby tb0 1 [] 93 _ [vr b11, vr s2] rfl ?_
    refine st20.trans ?_
    show OS p e below T20 m 96 (L_iiiiiiriiir p1 p2 p3 p4 p5 (va1 p1) b6a (va2 p5 p2) (va3 p3) ((12 : Int32) + (va1 p4)) b11) [vr s2, vr s2] _
    refine Jvm.RoadKit.acmp (g := (mkF m 96 (L_iiiiiiriiir p1 p2 p3 p4 p5 (va1 p1) b6a (va2 p5 p2) (va3 p3) ((12 : Int32) + (va1 p4)) b11) [vr s2, vr s2])) X20 hx rfl rfl rfl (pc0 := 96) (pc' := 99) (same := true) rfl (hb hby at_96) rfl (decide_eq_true rfl) (by decide) (by decide) ?_
    show OS p e below T20 m 99 (L_iiiiiiriiir p1 p2 p3 p4 p5 (va1 p1) b6a (va2 p5 p2) (va3 p3) ((12 : Int32) + (va1 p4)) b11) [] _
    refine own_b X20 hx hby tb0 2 [] 104 _ [vi 1] rfl ?_
    exact retN X20 hx (t := .boolean) hret (by simp) (hb hby at_104) hr
  · show Q0 h0 n0 _ T20.heap _
    exact ⟨rfl, N20⟩
theorem rm0_11 (hw : OW Z a0) (p1 : Int32) (p2 : Int32) (p3 : Int32) (p4 : Int32) (p5 : Int32) (s1 : Addr) (s2 : Addr) (s3 : Addr) (s4 : Addr) (s5 : Addr) (s6 : Addr) (s7 : Addr) (s8 : Addr) (s9 : Addr) (s10 : Addr) (p90 : Int32) (rv0 : Value) (ks_s1 : ClassId) (ks_s6 : ClassId) (ks_s8 : ClassId) (ks_s10 : ClassId) (Z0 : n0 ≤ h0.size) (Sp0 : ab1 Z (.int p90)) (Sp1 : Old Z n0 h0) (Sp2 : ab2 Z rv0) (Sp3 : rv0.isRef = true) (Sp4 : ab3 Z (.ref s1)) (Sp5 : ab11 Z Z.heap s1) (Sp6 : Arv Z Z.heap s1 ks_s1 (.object "com/example/sinkwatch/sinkwatch/Flaw") (3 : Int32) [(.ref s2), (.ref s3), (.ref s4)] .null) (Sp7 : ab9 Z Z.heap s2 (.ref s5)) (Sp8 : ab10 Z Z.heap s5) (Sp9 : ab7 Z Z.heap s5 (.int (0 : Int32))) (Sp10 : ab8 Z Z.heap s5 (.ref s6)) (Sp11 : Arv Z Z.heap s6 ks_s6 .byte (13 : Int32) bl3 (.int (0 : Int32))) (Sp12 : ab9 Z Z.heap s3 (.ref s7)) (Sp13 : ab10 Z Z.heap s7) (Sp14 : ab7 Z Z.heap s7 (.int (0 : Int32))) (Sp15 : ab8 Z Z.heap s7 (.ref s8)) (Sp16 : Arv Z Z.heap s8 ks_s8 .byte (14 : Int32) bl1 (.int (0 : Int32))) (Sp17 : ab9 Z Z.heap s4 (.ref s9)) (Sp18 : ab10 Z Z.heap s9) (Sp19 : ab7 Z Z.heap s9 (.int (0 : Int32))) (Sp20 : ab8 Z Z.heap s9 (.ref s10)) (Sp21 : Arv Z Z.heap s10 ks_s10 .byte (13 : Int32) bl6 (.int (0 : Int32))) (Sp22 : ab4 Z (.ref s3)) (Sp23 : ab5 Z (.ref s4)) (Sp24 : ab6 Z (.ref s2)) (Sp25 : ¬ (p90 = (0 : Int32))) (H1 : ¬ ((va1 p1) = (1 : Int32))) (H2 : ¬ ((va1 p1) = (2 : Int32))) (H3 : ¬ (p90 = (0 : Int32))) (H4 : ¬ (((12 : Int32) + (va1 p4)) = (12 : Int32))) (H5 : ¬ (((12 : Int32) + (va1 p4)) = (13 : Int32))) (H6 : ((12 : Int32) + (va1 p4)) = (14 : Int32)) (H7 : (va109 p5 p2 p3) = (0 : Int32)) (H8 : (va110 p5 p2 p3) = (0 : Int32)) :
    MC l Z ws h0 n0 p1 p2 p3 p4 p5 := by
  refine MetFree.of_bodySF (plainFor_of_name pn_3) hisR ?_
  intro p e s m args below meth c s₁ Bd hml0 hP hK
  obtain ⟨rfl, hZ, hh, hH⟩ := hP
  have hx := Bd.exec
  have hby := Bd.bytes
  have hml : c.maxLocals = 11 := hml0
  have hown : s.vm.findClass "com/example/sinkwatch/sinkwatch/FlawNamedPinLaw" = some m.cls := findClass_of_methodNamed Bd.named
  have hnm := (name_of_methodNamed Bd.named Bd.method).1
  have hret := Bd.returns
  have X0 : Stand p l e room_1 s m #[(vi p1), (vi p2), (vi p3), (vi p4), (vi p5)] below meth c s₁ [] 0 0 := Stand.of_body Bd
  have e0 : s₁.heap = h0 := by rw [← hh, Bd.state]; rfl
  have N0 := Fr.nil n0
  have pre0 : ∀ t, Steps p.tables e below (s₁.setTop (mkF m 0 #[si p1, si p2, si p3, si p4, si p5, .unset, .unset, .unset, .unset, .unset, .unset] [])) t → Steps p.tables e below (s₁.setTop (entryFrame m #[(vi p1), (vi p2), (vi p3), (vi p4), (vi p5)] maxLocals)) t := fun t k => castTop (ef0 m p1 p2 p3 p4 p5) k
  obtain ⟨b6a, T6, h6, k6, b6b, kl6, X6, e6, E6, hS6, hk6, hZ6, hown6, fa6, fb6, fc6, fd6, -, -, CH6, LT6, LN6, st6⟩ := ldcCH (s := s) (vm0 := s.vm) (show Stand _ _ _ _ (s.setVm s.vm) _ _ _ _ _ _ _ _ _ from X0) hx hZ hown (tw_1 hw) (own_wS hw) e0 (State.WarmedH.since (State.WarmedH.refl s) 0) (Nat.zero_le _) (own_EW hw) (List.mem_of_getElem? (i := 0) rfl) hH (vs := [(vi 115), (vi 113), (vi 108), (vi 45), (vi 105), (vi 110), (vi 106), (vi 101), (vi 99), (vi 116), (vi 105), (vi 111), (vi 110)]) (z := (13 : Int32)) (by decide +kernel) (by decide) (by decide) (g := (mkF m 8 (L_iiiiiiuuuuu p1 p2 p3 p4 p5 (va1 p1)) [])) rfl (hb hby at_8) (n := 52) (by decide) (by decide) (by decide) (by decide)
  have F8 := (Sp1.ext E6)
  obtain ⟨T9, L9, _, X9, ⟨rfl, N9q, e9q⟩, st9⟩ := own_callV X6 hx hZ6 hown6 (tw_9 hw) (tw_10 hw) (notFace_of_selects (args := #[]) (mvT hZ6 (tw_12 hw))) (tw_12 hw) (tw_11 hw) (tw_2 hw) (tw_13 hw) (rm1_3 hw b6a b6b kl6 p90 (lx Z0 E6) fc6 fd6 fa6 Sp0 F8 H3 fb6) e6 fa6 (Ls := (L_iiiiiiriiuu p1 p2 p3 p4 p5 (va1 p1) b6a (va2 p5 p2) (va3 p3))) hml [] [] pd_1 0 (hb hby at_59)
  have N9 := Fr.app N0 N9q
  obtain ⟨T10, L10, _, X10, ⟨b11, b12, kk10_0, rfl, N10q, K10, qa10_0, qb10_0, qa10_1, qb10_1, qc10_0_1, f10_0, f10_1, f10_2, f10_3⟩, st10⟩ := own_callS X9 hx hZ6 hown6 (cw_9 hw) (rm3_2 hw b6a (va2 p5 p2) (va3 p3) ((12 : Int32) + (va1 p4)) b6b kl6 (13 : Int32) bl3 p90 rv0 (va79 p5 p2 p3) (va80 p5 p2 p3) (va81 p5 p2 p3) (va82 p5 p2 p3) (va83 p5 p2 p3) (va84 p5 p2 p3) (va85 p5 p2 p3) (va86 p5 p2 p3) (va87 p5 p2 p3) (va88 p5 p2 p3) (va89 p5 p2 p3) (va90 p5 p2 p3) (va91 p5 p2 p3) (va19 p3) (va19 p3) (lx Z0 E6) fc6 fd6 fb6 fa6 Sp0 Sp2 H3 (CVi 115) F8 Sp3 (CVi 113) (CVi 108) (CVi 45) (CVi 105) (CVi 110) (CVi 106) (CVi 101) (CVi 99) (CVi 116) (CVi 105) (CVi 111) (CVi 110) CVo CVo H4 H5 H6 (x255 115) (x255 113) (x255 108) (x255 45) (x255 105) (x255 110) (x255 106) (x255 101) (x255 99) (x255 116) (x255 105) (x255 111) (x255 110) x255o) e9q (Ls := (L_iiiiiiriiiu p1 p2 p3 p4 p5 (va1 p1) b6a (va2 p5 p2) (va3 p3) ((12 : Int32) + (va1 p4)))) hml [vr b6a, vi (va2 p5 p2), vi (va3 p3), vi ((12 : Int32) + (va1 p4))] [] pd_13 0 (hb hby at_81)
  have N10 := Fr.app N9 N10q
  have qd10_0 := Nat.le_trans (lx (Nat.le_refl h0.size) E6) qb10_0
  have qd10_1 := Nat.le_trans (lx (Nat.le_refl h0.size) E6) qb10_1
  have F13 := (F8.keep K10 all0)
  obtain ⟨T14, L14, _, X14, ⟨rfl, N14q, K14⟩, st14⟩ := own_callS X10 hx hZ6 hown6 (cw_12 hw) (rm16_2 hw b11 s1 ks_s1 s2 s3 s4 s5 s6 b12 ks_s6 kk10_0 (va92 p5 p2 p3) (va93 p5 p2 p3) (va94 p5 p2 p3) (va95 p5 p2 p3) (va96 p5 p2 p3) (va97 p5 p2 p3) (va98 p5 p2 p3) (va99 p5 p2 p3) (va100 p5 p2 p3) (va101 p5 p2 p3) (va102 p5 p2 p3) (va103 p5 p2 p3) (va104 p5 p2 p3) (va48 p3) p90 s7 s8 ks_s8 s9 s10 ks_s10 (Nat.le_trans (lx Z0 E6) K10.1) Sp4 F13 Sp5 Sp6 Sp7 Sp8 f10_0 Sp9 f10_1 Sp10 f10_2 Sp11 f10_3 Sp0 H3 qa10_0 Sp12 Sp13 Sp14 Sp15 Sp16 H7 Sp17 Sp18 Sp19 Sp20 Sp21) rfl (Ls := (L_iiiiiiriiir p1 p2 p3 p4 p5 (va1 p1) b6a (va2 p5 p2) (va3 p3) ((12 : Int32) + (va1 p4)) b11)) hml [vr b11] [] pd_17 0 (hb hby at_88)
  have N14 := Fr.app N10 N14q
  have F15 := (Exa.keep f10_0 K14)
  have F16 := (Fld.keep f10_1 K14 nin0)
  have F17 := (Fld.keep f10_2 K14 nin0)
  have F18 := (Arv.keep f10_3 K14 nin0)
  have F19 := (F13.keep K14 all0)
  have F21 := (Nat.le_trans (Nat.le_trans (lx Z0 E6) K10.1) K14.1)
  have F22 := CH6.1
  have F23 := (CHv.keep K10 all0 F22)
  have F24 := (CHv.keep K14 all0 F23)
  have F25 := (Safe.keep K10 all0 F22 (Safe.new qb10_0))
  have F26 := (Safe.keep K14 all0 F23 F25)
  obtain ⟨_, _, ⟨T20, L20, k20, n20⟩, -, Xq20, hSq20, gq20, ⟨Lc20, hQ20, l20, y20, z20⟩, st20⟩ := callSS X14 hx (y := y18) hown6 (mvT hZ6 (tw_106 hw)) (mvT hZ6 (tw_107 hw)) (mvT hZ6 (tw_24 hw)) (mvT hZ6 (tw_108 hw)) (by decide) (own_backH (s := s) (vm0 := T6.vm) (W := 1) (rm20_2 (ws := []) (h0 := T14.heap) hw b11 b12 kk10_0 (va92 p5 p2 p3) (va93 p5 p2 p3) (va94 p5 p2 p3) (va95 p5 p2 p3) (va96 p5 p2 p3) (va97 p5 p2 p3) (va98 p5 p2 p3) (va99 p5 p2 p3) (va100 p5 p2 p3) (va101 p5 p2 p3) (va102 p5 p2 p3) (va103 p5 p2 p3) (va104 p5 p2 p3) (va48 p3) p90 F21 F15 F16 F17 F18 Sp0 H3 F19 H8) hZ6 (tw_108 hw) (tw_24 hw) (by decide) (by decide) (own_EW hw) F24 (allS ⟨F15.lt, F26⟩ all0)) (g := (mkF m 93 (L_iiiiiiriiir p1 p2 p3 p4 p5 (va1 p1) b6a (va2 p5 p2) (va3 p3) ((12 : Int32) + (va1 p4)) b11) [vr b11, .null])) rfl (by rw [hml]; rfl) (argsL := [(vr b11)]) (rest := [.null]) (lenOf pd_17 rfl) rfl (by show 2 * 0 + _ ≤ _; exact Nat.le_of_eq rfl) (hb hby at_93) (fun _ _ => ⟨rfl, rfl, (by decide : 7 + 6 ≤ _), (by decide : 106 + 172 ≤ _)⟩)
  dsimp only [Pt.U, Pt.locs, Pt.cells, Pt.slots] at Xq20 l20 y20 z20 st20 hQ20
  subst l20 y20 z20
  obtain ⟨X20, hS20, hZ20, hown20⟩ := rebS (s := s) (vm0 := T6.vm) hS6 (n1 := T14.heap.size) (Nat.le_trans (Nat.le_trans hk6 K10.1) K14.1) Xq20 hSq20 gq20 hZ6 hown6
  obtain ⟨rfl, N20q, K20⟩ := hQ20
  have N20 := Fr.app N14 N20q
  obtain ⟨fs, hr, hrun, hended, hRE⟩ := X20.leaveW hS20 (Nat.le_refl _) (v := some (vi 1)) (fun h => by rw [hret] at h; cases h)
  refine ⟨_, _, pre0 _ ?_, hrun, hended, _, _, rfl, ?_, hRE.1, hRE.2.1, hRE.2.2.1, hRE.2.2.2.mono (by decide) (by decide)⟩
  · refine own_b X0 hx hby tb0 1 [] 1 _ [vi p1] rfl ?_
    refine X0.ldcInt hx hown (mvT hZ (tw_0 hw)) (g := (mkF m 1 (L_iiiiiuuuuuu p1 p2 p3 p4 p5) [vi p1])) rfl (hb hby at_1) _ ?_
    show OS p e below s₁ m 3 (L_iiiiiuuuuuu p1 p2 p3 p4 p5) [vi 2147483647, vi p1] _
    refine own_b X0 hx hby tb0 2 [] 5 _ [vi 3, vi (p1 &&& (2147483647 : Int32))] rfl ?_
    refine iremM X0 hx (g := (mkF m 5 (L_iiiiiuuuuuu p1 p2 p3 p4 p5) [vi 3, vi (p1 &&& (2147483647 : Int32))])) rfl (hb hby at_5) rfl (by decide) ?_
    show OS p e below s₁ m 6 (L_iiiiiuuuuuu p1 p2 p3 p4 p5) [vi (va1 p1)] _
    refine own_b X0 hx hby tb0 1 [] 8 (L_iiiiiiuuuuu p1 p2 p3 p4 p5 (va1 p1)) [] rfl ?_
    refine st6 _ ?_
    refine own_b X6 hx hby tb0 14 [true, true] 42 (L_iiiiiiriuuu p1 p2 p3 p4 p5 (va1 p1) b6a (p2 &&& (15 : Int32))) [vi (p5 &&& (1 : Int32))] (ai (feq H1).2 (ai (feq H2).2 rfl)) ?_
    suffices j7 : OS p e below T6 m 49 (L_iiiiiiriuuu p1 p2 p3 p4 p5 (va1 p1) b6a (va2 p5 p2)) [] (T20.setFrames fs) by
      by_cases j7_1 : (p5 &&& (1 : Int32)) = (0 : Int32)
      ·
        refine own_b X6 hx hby tb0 1 [true] 49 _ [] (ai (teq j7_1).1 rfl) ?_
        exact (Eq.mp (congrArg (fun z => OS p e below T6 m 49 (L_iiiiiiriuuu p1 p2 p3 p4 p5 (va1 p1) b6a z) [] (T20.setFrames fs)) (by simp only [va2, if_pos j7_1] : (va2 p5 p2) = (p2 &&& (15 : Int32)))) j7)
      ·
        refine own_b X6 hx hby tb0 3 [false] 49 (L_iiiiiiriuuu p1 p2 p3 p4 p5 (va1 p1) b6a 15) [] (ai (feq j7_1).1 rfl) ?_
        exact (Eq.mp (congrArg (fun z => OS p e below T6 m 49 (L_iiiiiiriuuu p1 p2 p3 p4 p5 (va1 p1) b6a z) [] (T20.setFrames fs)) (by simp only [va2, if_neg j7_1] : (va2 p5 p2) = (15 : Int32))) j7)
    refine own_b X6 hx hby tb0 6 [] 59 (L_iiiiiiriiuu p1 p2 p3 p4 p5 (va1 p1) b6a (va2 p5 p2) (va3 p3)) [vr b6a] rfl ?_
    refine st9 _ ?_
    refine own_b X9 hx hby tb0 3 [] 65 _ [vi p4, vi 12] rfl ?_
    refine X9.ldcInt hx hown6 (mvT hZ6 (tw_0 hw)) (g := (mkF m 65 (L_iiiiiiriiuu p1 p2 p3 p4 p5 (va1 p1) b6a (va2 p5 p2) (va3 p3)) [vi p4, vi 12])) rfl (hb hby at_65) _ ?_
    show OS p e below T9 m 67 (L_iiiiiiriiuu p1 p2 p3 p4 p5 (va1 p1) b6a (va2 p5 p2) (va3 p3)) [vi 2147483647, vi p4, vi 12] _
    refine own_b X9 hx hby tb0 2 [] 69 _ [vi 3, vi (p4 &&& (2147483647 : Int32)), vi 12] rfl ?_
    refine iremM X9 hx (g := (mkF m 69 (L_iiiiiiriiuu p1 p2 p3 p4 p5 (va1 p1) b6a (va2 p5 p2) (va3 p3)) [vi 3, vi (p4 &&& (2147483647 : Int32)), vi 12])) rfl (hb hby at_69) rfl (by decide) ?_
    show OS p e below T9 m 70 (L_iiiiiiriiuu p1 p2 p3 p4 p5 (va1 p1) b6a (va2 p5 p2) (va3 p3)) [vi (va1 p4), vi 12] _
    refine own_b X9 hx hby tb0 6 [] 81 (L_iiiiiiriiiu p1 p2 p3 p4 p5 (va1 p1) b6a (va2 p5 p2) (va3 p3) ((12 : Int32) + (va1 p4))) [vi ((12 : Int32) + (va1 p4)), vi (va3 p3), vi (va2 p5 p2), vr b6a] rfl ?_
    refine st10 _ ?_
    refine own_b X10 hx hby tb0 2 [] 88 (L_iiiiiiriiir p1 p2 p3 p4 p5 (va1 p1) b6a (va2 p5 p2) (va3 p3) ((12 : Int32) + (va1 p4)) b11) [vr b11] rfl ?_
    refine st14 _ ?_
    refine own_b X14 hx hby tb0 1 [] 93 _ [vr b11, .null] rfl ?_
    refine st20.trans ?_
    show OS p e below T20 m 96 (L_iiiiiiriiir p1 p2 p3 p4 p5 (va1 p1) b6a (va2 p5 p2) (va3 p3) ((12 : Int32) + (va1 p4)) b11) [.null, .null] _
    refine Jvm.RoadKit.acmp (g := (mkF m 96 (L_iiiiiiriiir p1 p2 p3 p4 p5 (va1 p1) b6a (va2 p5 p2) (va3 p3) ((12 : Int32) + (va1 p4)) b11) [.null, .null])) X20 hx rfl rfl rfl (pc0 := 96) (pc' := 99) (same := true) rfl (hb hby at_96) rfl (decide_eq_true rfl) (by decide) (by decide) ?_
    show OS p e below T20 m 99 (L_iiiiiiriiir p1 p2 p3 p4 p5 (va1 p1) b6a (va2 p5 p2) (va3 p3) ((12 : Int32) + (va1 p4)) b11) [] _
    refine own_b X20 hx hby tb0 2 [] 104 _ [vi 1] rfl ?_
    exact retN X20 hx (t := .boolean) hret (by simp) (hb hby at_104) hr
  · show Q0 h0 n0 _ T20.heap _
    exact ⟨rfl, N20⟩
theorem imp_1 (p1 : Int32) (h1 : (va1 p1) = (1 : Int32)) : ¬ ((va1 p1) = (2 : Int32)) := by
  have := rng32 p1
  have := (by decide : (2147483647 : Int32).toInt = 2147483647)
  have := c_mask p1 (2147483647 : Int32) 31 (by decide) (by decide)
  have := rng32 (p1 &&& (2147483647 : Int32))
  have := (by decide : (3 : Int32).toInt = 3)
  have := c_irem (p1 &&& (2147483647 : Int32)) (3 : Int32) 3 (by decide)
  have := rng32 ((p1 &&& (2147483647 : Int32)) % (3 : Int32))
  have := (congrArg Int32.toInt (show (va1 p1) = ((p1 &&& (2147483647 : Int32)) % (3 : Int32)) from rfl))
  have := (by decide : (1 : Int32).toInt = 1)
  have := (by decide : (2 : Int32).toInt = 2)
  have := congrArg Int32.toInt h1
  refine mt (congrArg Int32.toInt) ?_
  omega
theorem imp_2 (p4 : Int32) : ¬ (((13 : Int32) + (va1 p4)) = (12 : Int32)) := by
  have := (by decide : (13 : Int32).toInt = 13)
  have := rng32 p4
  have := (by decide : (2147483647 : Int32).toInt = 2147483647)
  have := c_mask p4 (2147483647 : Int32) 31 (by decide) (by decide)
  have := rng32 (p4 &&& (2147483647 : Int32))
  have := (by decide : (3 : Int32).toInt = 3)
  have := c_irem (p4 &&& (2147483647 : Int32)) (3 : Int32) 3 (by decide)
  have := rng32 ((p4 &&& (2147483647 : Int32)) % (3 : Int32))
  have := (congrArg Int32.toInt (show (va1 p4) = ((p4 &&& (2147483647 : Int32)) % (3 : Int32)) from rfl))
  have := c_iadd (13 : Int32) (va1 p4)
  have := rng32 ((13 : Int32) + (va1 p4))
  have := (by decide : (12 : Int32).toInt = 12)
  refine mt (congrArg Int32.toInt) ?_
  omega
theorem imp_3 (p4 : Int32) (h1 : ¬ (((12 : Int32) + (va1 p4)) = (12 : Int32))) (h2 : ¬ (((12 : Int32) + (va1 p4)) = (13 : Int32))) : ((12 : Int32) + (va1 p4)) = (14 : Int32) := by
  have := (by decide : (12 : Int32).toInt = 12)
  have := rng32 p4
  have := (by decide : (2147483647 : Int32).toInt = 2147483647)
  have := c_mask p4 (2147483647 : Int32) 31 (by decide) (by decide)
  have := rng32 (p4 &&& (2147483647 : Int32))
  have := (by decide : (3 : Int32).toInt = 3)
  have := c_irem (p4 &&& (2147483647 : Int32)) (3 : Int32) 3 (by decide)
  have := rng32 ((p4 &&& (2147483647 : Int32)) % (3 : Int32))
  have := (congrArg Int32.toInt (show (va1 p4) = ((p4 &&& (2147483647 : Int32)) % (3 : Int32)) from rfl))
  have := c_iadd (12 : Int32) (va1 p4)
  have := rng32 ((12 : Int32) + (va1 p4))
  have := (by decide : (13 : Int32).toInt = 13)
  have := (by decide : (14 : Int32).toInt = 14)
  have := mt Int32.toInt_inj.mp h1
  have := mt Int32.toInt_inj.mp h2
  apply Int32.toInt_inj.mp
  omega
theorem rm0 (hw : OW Z a0) (p1 : Int32) (p2 : Int32) (p3 : Int32) (p4 : Int32) (p5 : Int32) (s1 : Addr) (s2 : Addr) (s3 : Addr) (s4 : Addr) (s5 : Addr) (s6 : Addr) (s7 : Addr) (s8 : Addr) (s9 : Addr) (s10 : Addr) (p90 : Int32) (rv0 : Value) (ks_s1 : ClassId) (ks_s6 : ClassId) (ks_s8 : ClassId) (ks_s10 : ClassId) (Z0 : n0 ≤ h0.size) (Sp0 : ab1 Z (.int p90)) (Sp1 : Old Z n0 h0) (Sp2 : ab2 Z rv0) (Sp3 : rv0.isRef = true) (Sp4 : ab3 Z (.ref s1)) (Sp5 : ab11 Z Z.heap s1) (Sp6 : Arv Z Z.heap s1 ks_s1 (.object "com/example/sinkwatch/sinkwatch/Flaw") (3 : Int32) [(.ref s2), (.ref s3), (.ref s4)] .null) (Sp7 : ab9 Z Z.heap s2 (.ref s5)) (Sp8 : ab10 Z Z.heap s5) (Sp9 : ab7 Z Z.heap s5 (.int (0 : Int32))) (Sp10 : ab8 Z Z.heap s5 (.ref s6)) (Sp11 : Arv Z Z.heap s6 ks_s6 .byte (13 : Int32) bl3 (.int (0 : Int32))) (Sp12 : ab9 Z Z.heap s3 (.ref s7)) (Sp13 : ab10 Z Z.heap s7) (Sp14 : ab7 Z Z.heap s7 (.int (0 : Int32))) (Sp15 : ab8 Z Z.heap s7 (.ref s8)) (Sp16 : Arv Z Z.heap s8 ks_s8 .byte (14 : Int32) bl1 (.int (0 : Int32))) (Sp17 : ab9 Z Z.heap s4 (.ref s9)) (Sp18 : ab10 Z Z.heap s9) (Sp19 : ab7 Z Z.heap s9 (.int (0 : Int32))) (Sp20 : ab8 Z Z.heap s9 (.ref s10)) (Sp21 : Arv Z Z.heap s10 ks_s10 .byte (13 : Int32) bl6 (.int (0 : Int32))) (Sp22 : ab4 Z (.ref s3)) (Sp23 : ab5 Z (.ref s4)) (Sp24 : ab6 Z (.ref s2)) (Sp25 : ¬ (p90 = (0 : Int32))) :
    MC l Z ws h0 n0 p1 p2 p3 p4 p5 := by
  by_cases H1 : (va1 p1) = (1 : Int32)
  ·
    have H2 : ¬ ((va1 p1) = (2 : Int32)) := by
      exact imp_1 p1 H1
    have H3 : ¬ (p90 = (0 : Int32)) := by
      exact Sp25
    have H4 : ¬ (((13 : Int32) + (va1 p4)) = (12 : Int32)) := by
      exact imp_2 p4
    by_cases H5 : ((13 : Int32) + (va1 p4)) = (13 : Int32)
    ·
      have H6 : (va36 p5 p2 p3) = (0 : Int32) := by
        unfold va36 va35
        exact imA 0 1 0 1 112 97 115 113 rfl rfl rfl rfl (by decide) (by decide) (by decide)
      have H7 : (va38 p5 p2 p3) = (0 : Int32) := by
        unfold va38 va37
        exact imA 0 1 0 1 112 97 111 112 rfl rfl rfl rfl (by decide) (by decide) (by decide)
      have H8 : (va40 p5 p2 p3) = (0 : Int32) := by
        unfold va40 va39
        exact imB 0 1 0 1 112 97 115 113 rfl rfl rfl rfl (by decide) (by decide) (by decide)
      have H9 : (va42 p5 p2 p3) = (0 : Int32) := by
        unfold va42 va41
        exact imB 0 1 0 1 112 97 111 112 rfl rfl rfl rfl (by decide) (by decide) (by decide)
      exact rm0_0 hw p1 p2 p3 p4 p5 s1 s2 s3 s4 s5 s6 s7 s8 s9 s10 p90 rv0 ks_s1 ks_s6 ks_s8 ks_s10 Z0 Sp0 Sp1 Sp2 Sp3 Sp4 Sp5 Sp6 Sp7 Sp8 Sp9 Sp10 Sp11 Sp12 Sp13 Sp14 Sp15 Sp16 Sp17 Sp18 Sp19 Sp20 Sp21 Sp22 Sp23 Sp24 Sp25 H1 H2 H3 H4 H5 H6 H7 H8 H9
    ·
      by_cases H6 : ((13 : Int32) + (va1 p4)) = (14 : Int32)
      ·
        by_cases H7 : (va45 p5 p2 p3) = (0 : Int32)
        ·
          have H8 : (va47 p5 p2 p3) = (0 : Int32) := by
            rw [(show va47 p5 p2 p3 = va45 p5 p2 p3 by unfold va47 va46 va45 va44; exact eqA_comm _ _)]; exact H7
          exact rm0_1 hw p1 p2 p3 p4 p5 s1 s2 s3 s4 s5 s6 s7 s8 s9 s10 p90 rv0 ks_s1 ks_s6 ks_s8 ks_s10 Z0 Sp0 Sp1 Sp2 Sp3 Sp4 Sp5 Sp6 Sp7 Sp8 Sp9 Sp10 Sp11 Sp12 Sp13 Sp14 Sp15 Sp16 Sp17 Sp18 Sp19 Sp20 Sp21 Sp22 Sp23 Sp24 Sp25 H1 H2 H3 H4 H5 H6 H7 H8
        ·
          have H8 : ¬ ((va47 p5 p2 p3) = (0 : Int32)) := by
            rw [(show va47 p5 p2 p3 = va45 p5 p2 p3 by unfold va47 va46 va45 va44; exact eqA_comm _ _)]; exact H7
          exact rm0_2 hw p1 p2 p3 p4 p5 s1 s2 s3 s4 s5 s6 s7 s8 s9 s10 p90 rv0 ks_s1 ks_s6 ks_s8 ks_s10 Z0 Sp0 Sp1 Sp2 Sp3 Sp4 Sp5 Sp6 Sp7 Sp8 Sp9 Sp10 Sp11 Sp12 Sp13 Sp14 Sp15 Sp16 Sp17 Sp18 Sp19 Sp20 Sp21 Sp22 Sp23 Sp24 Sp25 H1 H2 H3 H4 H5 H6 H7 H8
      ·
        exact rm0_3 hw p1 p2 p3 p4 p5 s1 s2 s3 s4 s5 s6 s7 s8 s9 s10 p90 rv0 ks_s1 ks_s6 ks_s8 ks_s10 Z0 Sp0 Sp1 Sp2 Sp3 Sp4 Sp5 Sp6 Sp7 Sp8 Sp9 Sp10 Sp11 Sp12 Sp13 Sp14 Sp15 Sp16 Sp17 Sp18 Sp19 Sp20 Sp21 Sp22 Sp23 Sp24 Sp25 H1 H2 H3 H4 H5 H6
  ·
    by_cases H2 : (va1 p1) = (2 : Int32)
    ·
      have H3 : ¬ (p90 = (0 : Int32)) := by
        exact Sp25
      by_cases H4 : ((12 : Int32) + (va1 p4)) = (12 : Int32)
      ·
        exact rm0_4 hw p1 p2 p3 p4 p5 s1 s2 s3 s4 s5 s6 s7 s8 s9 s10 p90 rv0 ks_s1 ks_s6 ks_s8 ks_s10 Z0 Sp0 Sp1 Sp2 Sp3 Sp4 Sp5 Sp6 Sp7 Sp8 Sp9 Sp10 Sp11 Sp12 Sp13 Sp14 Sp15 Sp16 Sp17 Sp18 Sp19 Sp20 Sp21 Sp22 Sp23 Sp24 Sp25 H1 H2 H3 H4
      ·
        by_cases H5 : ((12 : Int32) + (va1 p4)) = (13 : Int32)
        ·
          have H6 : (va73 p5 p2 p3) = (0 : Int32) := by
            unfold va73 va35
            exact imA 0 1 0 1 111 112 115 113 rfl rfl rfl rfl (by decide) (by decide) (by decide)
          by_cases H7 : (va74 p5 p2 p3) = (0 : Int32)
          ·
            have H8 : (va75 p5 p2 p3) = (0 : Int32) := by
              unfold va75 va39
              exact imB 0 1 0 1 111 112 115 113 rfl rfl rfl rfl (by decide) (by decide) (by decide)
            have H9 : (va76 p5 p2 p3) = (0 : Int32) := by
              rw [(show va76 p5 p2 p3 = va74 p5 p2 p3 by unfold va76 va41 va74 va37; exact eqA_comm _ _)]; exact H7
            exact rm0_5 hw p1 p2 p3 p4 p5 s1 s2 s3 s4 s5 s6 s7 s8 s9 s10 p90 rv0 ks_s1 ks_s6 ks_s8 ks_s10 Z0 Sp0 Sp1 Sp2 Sp3 Sp4 Sp5 Sp6 Sp7 Sp8 Sp9 Sp10 Sp11 Sp12 Sp13 Sp14 Sp15 Sp16 Sp17 Sp18 Sp19 Sp20 Sp21 Sp22 Sp23 Sp24 Sp25 H1 H2 H3 H4 H5 H6 H7 H8 H9
          ·
            have H8 : (va75 p5 p2 p3) = (0 : Int32) := by
              unfold va75 va39
              exact imB 0 1 0 1 111 112 115 113 rfl rfl rfl rfl (by decide) (by decide) (by decide)
            have H9 : ¬ ((va76 p5 p2 p3) = (0 : Int32)) := by
              rw [(show va76 p5 p2 p3 = va74 p5 p2 p3 by unfold va76 va41 va74 va37; exact eqA_comm _ _)]; exact H7
            exact rm0_6 hw p1 p2 p3 p4 p5 s1 s2 s3 s4 s5 s6 s7 s8 s9 s10 p90 rv0 ks_s1 ks_s6 ks_s8 ks_s10 Z0 Sp0 Sp1 Sp2 Sp3 Sp4 Sp5 Sp6 Sp7 Sp8 Sp9 Sp10 Sp11 Sp12 Sp13 Sp14 Sp15 Sp16 Sp17 Sp18 Sp19 Sp20 Sp21 Sp22 Sp23 Sp24 Sp25 H1 H2 H3 H4 H5 H6 H7 H8 H9
        ·
          have H6 : ((12 : Int32) + (va1 p4)) = (14 : Int32) := by
            exact imp_3 p4 H4 H5
          have H7 : (va77 p5 p2 p3) = (0 : Int32) := by
            unfold va77 va44
            exact imA 0 1 0 1 111 112 112 97 rfl rfl rfl rfl (by decide) (by decide) (by decide)
          have H8 : (va78 p5 p2 p3) = (0 : Int32) := by
            unfold va78 va46
            exact imB 0 1 0 1 111 112 112 97 rfl rfl rfl rfl (by decide) (by decide) (by decide)
          exact rm0_7 hw p1 p2 p3 p4 p5 s1 s2 s3 s4 s5 s6 s7 s8 s9 s10 p90 rv0 ks_s1 ks_s6 ks_s8 ks_s10 Z0 Sp0 Sp1 Sp2 Sp3 Sp4 Sp5 Sp6 Sp7 Sp8 Sp9 Sp10 Sp11 Sp12 Sp13 Sp14 Sp15 Sp16 Sp17 Sp18 Sp19 Sp20 Sp21 Sp22 Sp23 Sp24 Sp25 H1 H2 H3 H4 H5 H6 H7 H8
    ·
      have H3 : ¬ (p90 = (0 : Int32)) := by
        exact Sp25
      by_cases H4 : ((12 : Int32) + (va1 p4)) = (12 : Int32)
      ·
        exact rm0_8 hw p1 p2 p3 p4 p5 s1 s2 s3 s4 s5 s6 s7 s8 s9 s10 p90 rv0 ks_s1 ks_s6 ks_s8 ks_s10 Z0 Sp0 Sp1 Sp2 Sp3 Sp4 Sp5 Sp6 Sp7 Sp8 Sp9 Sp10 Sp11 Sp12 Sp13 Sp14 Sp15 Sp16 Sp17 Sp18 Sp19 Sp20 Sp21 Sp22 Sp23 Sp24 Sp25 H1 H2 H3 H4
      ·
        by_cases H5 : ((12 : Int32) + (va1 p4)) = (13 : Int32)
        ·
          by_cases H6 : (va105 p5 p2 p3) = (0 : Int32)
          ·
            have H7 : (va106 p5 p2 p3) = (0 : Int32) := by
              unfold va106 va37
              exact imA 0 1 0 1 115 113 111 112 rfl rfl rfl rfl (by decide) (by decide) (by decide)
            have H8 : (va107 p5 p2 p3) = (0 : Int32) := by
              rw [(show va107 p5 p2 p3 = va105 p5 p2 p3 by unfold va107 va39 va105 va35; exact eqA_comm _ _)]; exact H6
            have H9 : (va108 p5 p2 p3) = (0 : Int32) := by
              unfold va108 va41
              exact imB 0 1 0 1 115 113 111 112 rfl rfl rfl rfl (by decide) (by decide) (by decide)
            exact rm0_9 hw p1 p2 p3 p4 p5 s1 s2 s3 s4 s5 s6 s7 s8 s9 s10 p90 rv0 ks_s1 ks_s6 ks_s8 ks_s10 Z0 Sp0 Sp1 Sp2 Sp3 Sp4 Sp5 Sp6 Sp7 Sp8 Sp9 Sp10 Sp11 Sp12 Sp13 Sp14 Sp15 Sp16 Sp17 Sp18 Sp19 Sp20 Sp21 Sp22 Sp23 Sp24 Sp25 H1 H2 H3 H4 H5 H6 H7 H8 H9
          ·
            have H7 : ¬ ((va107 p5 p2 p3) = (0 : Int32)) := by
              rw [(show va107 p5 p2 p3 = va105 p5 p2 p3 by unfold va107 va39 va105 va35; exact eqA_comm _ _)]; exact H6
            exact rm0_10 hw p1 p2 p3 p4 p5 s1 s2 s3 s4 s5 s6 s7 s8 s9 s10 p90 rv0 ks_s1 ks_s6 ks_s8 ks_s10 Z0 Sp0 Sp1 Sp2 Sp3 Sp4 Sp5 Sp6 Sp7 Sp8 Sp9 Sp10 Sp11 Sp12 Sp13 Sp14 Sp15 Sp16 Sp17 Sp18 Sp19 Sp20 Sp21 Sp22 Sp23 Sp24 Sp25 H1 H2 H3 H4 H5 H6 H7
        ·
          have H6 : ((12 : Int32) + (va1 p4)) = (14 : Int32) := by
            exact imp_3 p4 H4 H5
          have H7 : (va109 p5 p2 p3) = (0 : Int32) := by
            unfold va109 va44
            exact imA 0 1 0 1 115 113 112 97 rfl rfl rfl rfl (by decide) (by decide) (by decide)
          have H8 : (va110 p5 p2 p3) = (0 : Int32) := by
            unfold va110 va46
            exact imB 0 1 0 1 115 113 112 97 rfl rfl rfl rfl (by decide) (by decide) (by decide)
          exact rm0_11 hw p1 p2 p3 p4 p5 s1 s2 s3 s4 s5 s6 s7 s8 s9 s10 p90 rv0 ks_s1 ks_s6 ks_s8 ks_s10 Z0 Sp0 Sp1 Sp2 Sp3 Sp4 Sp5 Sp6 Sp7 Sp8 Sp9 Sp10 Sp11 Sp12 Sp13 Sp14 Sp15 Sp16 Sp17 Sp18 Sp19 Sp20 Sp21 Sp22 Sp23 Sp24 Sp25 H1 H2 H3 H4 H5 H6 H7 H8
end V
theorem comes_1 {Post : Tables → Env → Array Value → State → Outcome → State → Prop} (hpost : ∀ tb e args s v u, (limb_1_1.after args s (.returned v) u = true ∧ limb_1_2.after args s (.returned v) u = true ∧ True) → ReturnedEndW s (.returned v) u (Jvm.fieldLocs frame_1_writes args s ++ Jvm.arrayLocs frame_1_arrays args s ++ Jvm.staticLocs frame_1_statics s) 24 3264 → Post tb e args s (.returned v) u) :
    ArmFor flags0 classFile x code maxLocals ret World_1 tables_1 room_1 Calls_1 rest_1 Pre_1 Post := by
  intro l hfl _ _ p e ha hc hk s m args below hf hA hF happ hP
  obtain ⟨hcalls, hrest, hpre⟩ := hP
  obtain ⟨-, -, -, hnamed, -, -, -, hat⟩ := (Spec.applies_iff hf).mp happ
  obtain ⟨hg, hn⟩ := and_e (Cond.before_iff.mp (show (Jvm.Cond.and given_1 narrow_1).before args s = true from hpre))
  obtain ⟨g1, g2⟩ := and_e hg
  obtain ⟨g3, g4⟩ := and_e g2
  obtain ⟨g5, g6⟩ := and_e g4
  obtain ⟨g7, g8⟩ := and_e g6
  obtain ⟨g9, g10⟩ := and_e g8
  obtain ⟨w0, w1, w2, w3, w4, rfl⟩ : ∃ w0 w1 w2 w3 w4 : Value, args = #[w0, w1, w2, w3, w4] := by
    have hs : args.size = 5 := by simpa [Cond.value, given_1] using g1
    obtain ⟨L⟩ := args
    match L, hs with
    | [w0, w1, w2, w3, w4], _ => exact ⟨w0, w1, w2, w3, w4, rfl⟩
  have hw := fun d (hd : d ∈ tables_1) => atoms_spec (ws := Jvm.Cond.code x code maxLocals ret :: tables_1) hat d (List.mem_cons_of_mem _ hd)
  have hfit : Fit s := fun {y c} hc i hi => by
    obtain ⟨ha, rfl⟩ := Array.getElem?_eq_some_iff.mp hc
    have q := List.all_eq_true.mp ((Array.all_eq_true_iff_forall_mem.mp hF) _ (Array.getElem_mem ha)) i (List.mem_range.mpr hi)
    simpa [Array.getElem?_eq_getElem hi] using q
  obtain ⟨hsets, hown0⟩ := atoms_of _ (rest_1_c_eq ▸ (show rest_1_c.before _ s = true from hrest))
  have hr0 := Cond.before_iff.mp hown0
  obtain ⟨i0, ei0⟩ := is_v g3
  obtain rfl : w0 = (.int i0) := Option.some.inj ei0
  obtain ⟨i1, ei1⟩ := is_v g5
  obtain rfl : w1 = (.int i1) := Option.some.inj ei1
  obtain ⟨i2, ei2⟩ := is_v g7
  obtain rfl : w2 = (.int i2) := Option.some.inj ei2
  obtain ⟨i3, ei3⟩ := is_v g9
  obtain rfl : w3 = (.int i3) := Option.some.inj ei3
  obtain ⟨i4, ei4⟩ := is_v g10
  obtain rfl : w4 = (.int i4) := Option.some.inj ei4
  obtain ⟨nr1, nr2⟩ := and_e hn
  obtain ⟨nr3, nr4⟩ := and_e nr2
  obtain ⟨nr5, nr6⟩ := and_e nr4
  obtain ⟨nr7, nr8⟩ := and_e nr6
  obtain ⟨nr9, nr10⟩ := and_e nr8
  obtain ⟨nr11, nr12⟩ := and_e nr10
  obtain ⟨nr13, nr14⟩ := and_e nr12
  obtain ⟨nr15, nr16⟩ := and_e nr14
  obtain ⟨nr17, nr18⟩ := and_e nr16
  obtain ⟨nr19, nr20⟩ := and_e nr18
  obtain ⟨nr21, nr22⟩ := and_e nr20
  obtain ⟨nr23, nr24⟩ := and_e nr22
  obtain ⟨nr25, nr26⟩ := and_e nr24
  obtain ⟨nr27, nr28⟩ := and_e nr26
  obtain ⟨nr29, nr30⟩ := and_e nr28
  obtain ⟨nr31, nr32⟩ := and_e nr30
  obtain ⟨nr33, nr34⟩ := and_e nr32
  obtain ⟨nr35, nr36⟩ := and_e nr34
  obtain ⟨nr37, nr38⟩ := and_e nr36
  obtain ⟨nr39, nr40⟩ := and_e nr38
  obtain ⟨nr41, nr42⟩ := and_e nr40
  obtain ⟨nr43, nr44⟩ := and_e nr42
  obtain ⟨nr45, nr46⟩ := and_e nr44
  obtain ⟨nr47, nr48⟩ := and_e nr46
  obtain ⟨nr49, nr50⟩ := and_e nr48
  obtain ⟨nr51, nr52⟩ := and_e nr50
  obtain ⟨nr53, nr54⟩ := and_e nr52
  obtain ⟨nr55, nr56⟩ := and_e nr54
  obtain ⟨nr57, nr58⟩ := and_e nr56
  obtain ⟨nr59, nr60⟩ := and_e nr58
  obtain ⟨nr61, nr62⟩ := and_e nr60
  obtain ⟨nr63, nr64⟩ := and_e nr62
  obtain ⟨nr65, nr66⟩ := and_e nr64
  obtain ⟨nr67, nr68⟩ := and_e nr66
  obtain ⟨nr69, nr70⟩ := and_e nr68
  obtain ⟨nr71, nr72⟩ := and_e nr70
  obtain ⟨nr73, nr74⟩ := and_e nr72
  obtain ⟨nr75, nr76⟩ := and_e nr74
  obtain ⟨nr77, nr78⟩ := and_e nr76
  obtain ⟨nr79, nr80⟩ := and_e nr78
  obtain ⟨nr81, nr82⟩ := and_e nr80
  obtain ⟨nr83, nr84⟩ := and_e nr82
  obtain ⟨nr85, nr86⟩ := and_e nr84
  obtain ⟨nr87, nr88⟩ := and_e nr86
  obtain ⟨nr89, nr90⟩ := and_e nr88
  obtain ⟨nr91, nr92⟩ := and_e nr90
  obtain ⟨nr93, nr94⟩ := and_e nr92
  obtain ⟨nr95, nr96⟩ := and_e nr94
  obtain ⟨nr97, nr98⟩ := and_e nr96
  obtain ⟨nr99, nr100⟩ := and_e nr98
  obtain ⟨nr101, nr102⟩ := and_e nr100
  obtain ⟨nr103, nr104⟩ := and_e nr102
  obtain ⟨nr105, nr106⟩ := and_e nr104
  obtain ⟨nr107, nr108⟩ := and_e nr106
  obtain ⟨nr109, nr110⟩ := and_e nr108
  obtain ⟨nr111, nr112⟩ := and_e nr110
  obtain ⟨nr113, nr114⟩ := and_e nr112
  obtain ⟨nr115, nr116⟩ := and_e nr114
  obtain ⟨nr117, nr118⟩ := and_e nr116
  obtain ⟨nr119, nr120⟩ := and_e nr118
  obtain ⟨s1, ev_s1⟩ := exa_v nr3
  have St61 := Sta.start ev_s1 (Or.inr ⟨(tw_75 hw), (tw_81 hw)⟩)
  have Se_s1 := Exa.start ev_s1 nr3
  obtain ⟨s2, ev_s2⟩ := exa_v nr7
  have St64 := Sta.start ev_s2 (Or.inr ⟨(tw_75 hw), (tw_89 hw)⟩)
  have Se_s2 := Exa.start ev_s2 nr7
  obtain ⟨s3, ev_s3⟩ := exa_v nr11
  have St67 := Sta.start ev_s3 (Or.inr ⟨(tw_75 hw), (tw_90 hw)⟩)
  have Se_s3 := Exa.start ev_s3 nr11
  obtain ⟨s4, ev_s4⟩ := exa_v nr15
  have St70 := Sta.start ev_s4 (Or.inr ⟨(tw_75 hw), (tw_91 hw)⟩)
  have Se_s4 := Exa.start ev_s4 nr15
  obtain ⟨s5, ev_s5⟩ := exa_v nr19
  have Sf73 := Fld.start ((fld_at ev_s2).symm.trans ev_s5)
  have Se_s5 := Exa.start ev_s5 nr19
  have ev75 := eqv_i (Term.int_eval _) nr21
  have Sf76 := Fld.start ((fld_at ev_s5).symm.trans ev75)
  obtain ⟨s6, ev_s6⟩ := arr_v nr23
  have Sf78 := Fld.start ((fld_at ev_s5).symm.trans ev_s6)
  obtain ⟨s7, ev_s7⟩ := exa_v nr27
  have Sf80 := Fld.start ((fld_at ev_s3).symm.trans ev_s7)
  have Se_s7 := Exa.start ev_s7 nr27
  have ev82 := eqv_i (Term.int_eval _) nr29
  have Sf83 := Fld.start ((fld_at ev_s7).symm.trans ev82)
  obtain ⟨s8, ev_s8⟩ := arr_v nr31
  have Sf85 := Fld.start ((fld_at ev_s7).symm.trans ev_s8)
  obtain ⟨s9, ev_s9⟩ := exa_v nr35
  have Sf87 := Fld.start ((fld_at ev_s4).symm.trans ev_s9)
  have Se_s9 := Exa.start ev_s9 nr35
  have ev89 := eqv_i (Term.int_eval _) nr37
  have Sf90 := Fld.start ((fld_at ev_s9).symm.trans ev89)
  obtain ⟨s10, ev_s10⟩ := arr_v nr39
  have Sf92 := Fld.start ((fld_at ev_s9).symm.trans ev_s10)
  obtain ⟨p90, ev_p90⟩ := is_v (Cond.before_iff.mp (hsets _ (List.mem_of_getElem? (i := 1) rfl)))
  have St94 := Sta.start ev_p90 (Or.inl (hsets _ (List.mem_of_getElem? (i := 0) rfl)))
  have Sn95 : ¬ (p90 = (0 : Int32)) := fun q => by
    have z := not_v (Cond.before_iff.mp (hsets _ (List.mem_of_getElem? (i := 2) rfl)))
    simp only [Cond.value, ev_p90] at z
    simp [Term.eval, q] at z
  obtain ⟨rv0, ev_rv0, hr_rv0⟩ := isR_v (Cond.before_iff.mp (hsets _ (List.mem_of_getElem? (i := 8) rfl)))
  have St97 := Sta.start ev_rv0 (Or.inl (hsets _ (List.mem_of_getElem? (i := 7) rfl)))
  obtain ⟨cl_s1, Aa_s1, Ab_s1, Ac_s1⟩ := own_arr hfit ev_s1 nr1 nr5
  have Ae_s1_0 := (elem_in (own_eqr ev_s2 nr9) ev_s1 (Term.int_eval _) Aa_s1.1).2
  have Ae_s1_1 := (elem_in (own_eqr ev_s3 nr13) ev_s1 (Term.int_eval _) Aa_s1.1).2
  have Ae_s1_2 := (elem_in (own_eqr ev_s4 nr17) ev_s1 (Term.int_eval _) Aa_s1.1).2
  have Av_s1 : Arv s s.heap s1 cl_s1.cls (.object "com/example/sinkwatch/sinkwatch/Flaw") (3 : Int32) [(.ref s2), (.ref s3), (.ref s4)] .null := Arv.start hfit Aa_s1 Ab_s1 Ac_s1 (by decide) rfl ⟨Ae_s1_0, Ae_s1_1, Ae_s1_2, trivial⟩
  obtain ⟨cl_s6, Aa_s6, Ab_s6, Ac_s6⟩ := own_arr hfit ev_s6 nr23 nr25
  have Ae_s6_0 := (elem_in (eqv_i (Term.int_eval _) nr43) ev_s6 (Term.int_eval _) Aa_s6.1).2
  have Ae_s6_1 := (elem_in (eqv_i (Term.int_eval _) nr45) ev_s6 (Term.int_eval _) Aa_s6.1).2
  have Ae_s6_2 := (elem_in (eqv_i (Term.int_eval _) nr47) ev_s6 (Term.int_eval _) Aa_s6.1).2
  have Ae_s6_3 := (elem_in (eqv_i (Term.int_eval _) nr49) ev_s6 (Term.int_eval _) Aa_s6.1).2
  have Ae_s6_4 := (elem_in (eqv_i (Term.int_eval _) nr51) ev_s6 (Term.int_eval _) Aa_s6.1).2
  have Ae_s6_5 := (elem_in (eqv_i (Term.int_eval _) nr53) ev_s6 (Term.int_eval _) Aa_s6.1).2
  have Ae_s6_6 := (elem_in (eqv_i (Term.int_eval _) nr55) ev_s6 (Term.int_eval _) Aa_s6.1).2
  have Ae_s6_7 := (elem_in (eqv_i (Term.int_eval _) nr57) ev_s6 (Term.int_eval _) Aa_s6.1).2
  have Ae_s6_8 := (elem_in (eqv_i (Term.int_eval _) nr59) ev_s6 (Term.int_eval _) Aa_s6.1).2
  have Ae_s6_9 := (elem_in (eqv_i (Term.int_eval _) nr61) ev_s6 (Term.int_eval _) Aa_s6.1).2
  have Ae_s6_10 := (elem_in (eqv_i (Term.int_eval _) nr63) ev_s6 (Term.int_eval _) Aa_s6.1).2
  have Ae_s6_11 := (elem_in (eqv_i (Term.int_eval _) nr65) ev_s6 (Term.int_eval _) Aa_s6.1).2
  have Ae_s6_12 := (elem_in (eqv_i (Term.int_eval _) nr67) ev_s6 (Term.int_eval _) Aa_s6.1).2
  have Av_s6 : Arv s s.heap s6 cl_s6.cls .byte (13 : Int32) [(.int (115 : Int32)), (.int (113 : Int32)), (.int (108 : Int32)), (.int (45 : Int32)), (.int (105 : Int32)), (.int (110 : Int32)), (.int (106 : Int32)), (.int (101 : Int32)), (.int (99 : Int32)), (.int (116 : Int32)), (.int (105 : Int32)), (.int (111 : Int32)), (.int (110 : Int32))] (.int (0 : Int32)) := Arv.start hfit Aa_s6 Ab_s6 Ac_s6 (by decide) rfl ⟨Ae_s6_0, Ae_s6_1, Ae_s6_2, Ae_s6_3, Ae_s6_4, Ae_s6_5, Ae_s6_6, Ae_s6_7, Ae_s6_8, Ae_s6_9, Ae_s6_10, Ae_s6_11, Ae_s6_12, trivial⟩
  obtain ⟨cl_s8, Aa_s8, Ab_s8, Ac_s8⟩ := own_arr hfit ev_s8 nr31 nr33
  have Ae_s8_0 := (elem_in (eqv_i (Term.int_eval _) nr69) ev_s8 (Term.int_eval _) Aa_s8.1).2
  have Ae_s8_1 := (elem_in (eqv_i (Term.int_eval _) nr71) ev_s8 (Term.int_eval _) Aa_s8.1).2
  have Ae_s8_2 := (elem_in (eqv_i (Term.int_eval _) nr73) ev_s8 (Term.int_eval _) Aa_s8.1).2
  have Ae_s8_3 := (elem_in (eqv_i (Term.int_eval _) nr75) ev_s8 (Term.int_eval _) Aa_s8.1).2
  have Ae_s8_4 := (elem_in (eqv_i (Term.int_eval _) nr77) ev_s8 (Term.int_eval _) Aa_s8.1).2
  have Ae_s8_5 := (elem_in (eqv_i (Term.int_eval _) nr79) ev_s8 (Term.int_eval _) Aa_s8.1).2
  have Ae_s8_6 := (elem_in (eqv_i (Term.int_eval _) nr81) ev_s8 (Term.int_eval _) Aa_s8.1).2
  have Ae_s8_7 := (elem_in (eqv_i (Term.int_eval _) nr83) ev_s8 (Term.int_eval _) Aa_s8.1).2
  have Ae_s8_8 := (elem_in (eqv_i (Term.int_eval _) nr85) ev_s8 (Term.int_eval _) Aa_s8.1).2
  have Ae_s8_9 := (elem_in (eqv_i (Term.int_eval _) nr87) ev_s8 (Term.int_eval _) Aa_s8.1).2
  have Ae_s8_10 := (elem_in (eqv_i (Term.int_eval _) nr89) ev_s8 (Term.int_eval _) Aa_s8.1).2
  have Ae_s8_11 := (elem_in (eqv_i (Term.int_eval _) nr91) ev_s8 (Term.int_eval _) Aa_s8.1).2
  have Ae_s8_12 := (elem_in (eqv_i (Term.int_eval _) nr93) ev_s8 (Term.int_eval _) Aa_s8.1).2
  have Ae_s8_13 := (elem_in (eqv_i (Term.int_eval _) nr95) ev_s8 (Term.int_eval _) Aa_s8.1).2
  have Av_s8 : Arv s s.heap s8 cl_s8.cls .byte (14 : Int32) [(.int (112 : Int32)), (.int (97 : Int32)), (.int (116 : Int32)), (.int (104 : Int32)), (.int (45 : Int32)), (.int (116 : Int32)), (.int (114 : Int32)), (.int (97 : Int32)), (.int (118 : Int32)), (.int (101 : Int32)), (.int (114 : Int32)), (.int (115 : Int32)), (.int (97 : Int32)), (.int (108 : Int32))] (.int (0 : Int32)) := Arv.start hfit Aa_s8 Ab_s8 Ac_s8 (by decide) rfl ⟨Ae_s8_0, Ae_s8_1, Ae_s8_2, Ae_s8_3, Ae_s8_4, Ae_s8_5, Ae_s8_6, Ae_s8_7, Ae_s8_8, Ae_s8_9, Ae_s8_10, Ae_s8_11, Ae_s8_12, Ae_s8_13, trivial⟩
  obtain ⟨cl_s10, Aa_s10, Ab_s10, Ac_s10⟩ := own_arr hfit ev_s10 nr39 nr41
  have Ae_s10_0 := (elem_in (eqv_i (Term.int_eval _) nr97) ev_s10 (Term.int_eval _) Aa_s10.1).2
  have Ae_s10_1 := (elem_in (eqv_i (Term.int_eval _) nr99) ev_s10 (Term.int_eval _) Aa_s10.1).2
  have Ae_s10_2 := (elem_in (eqv_i (Term.int_eval _) nr101) ev_s10 (Term.int_eval _) Aa_s10.1).2
  have Ae_s10_3 := (elem_in (eqv_i (Term.int_eval _) nr103) ev_s10 (Term.int_eval _) Aa_s10.1).2
  have Ae_s10_4 := (elem_in (eqv_i (Term.int_eval _) nr105) ev_s10 (Term.int_eval _) Aa_s10.1).2
  have Ae_s10_5 := (elem_in (eqv_i (Term.int_eval _) nr107) ev_s10 (Term.int_eval _) Aa_s10.1).2
  have Ae_s10_6 := (elem_in (eqv_i (Term.int_eval _) nr109) ev_s10 (Term.int_eval _) Aa_s10.1).2
  have Ae_s10_7 := (elem_in (eqv_i (Term.int_eval _) nr111) ev_s10 (Term.int_eval _) Aa_s10.1).2
  have Ae_s10_8 := (elem_in (eqv_i (Term.int_eval _) nr113) ev_s10 (Term.int_eval _) Aa_s10.1).2
  have Ae_s10_9 := (elem_in (eqv_i (Term.int_eval _) nr115) ev_s10 (Term.int_eval _) Aa_s10.1).2
  have Ae_s10_10 := (elem_in (eqv_i (Term.int_eval _) nr117) ev_s10 (Term.int_eval _) Aa_s10.1).2
  have Ae_s10_11 := (elem_in (eqv_i (Term.int_eval _) nr119) ev_s10 (Term.int_eval _) Aa_s10.1).2
  have Ae_s10_12 := (elem_in (eqv_i (Term.int_eval _) nr120) ev_s10 (Term.int_eval _) Aa_s10.1).2
  have Av_s10 : Arv s s.heap s10 cl_s10.cls .byte (13 : Int32) [(.int (111 : Int32)), (.int (112 : Int32)), (.int (101 : Int32)), (.int (110 : Int32)), (.int (45 : Int32)), (.int (114 : Int32)), (.int (101 : Int32)), (.int (100 : Int32)), (.int (105 : Int32)), (.int (114 : Int32)), (.int (101 : Int32)), (.int (99 : Int32)), (.int (116 : Int32))] (.int (0 : Int32)) := Arv.start hfit Aa_s10 Ab_s10 Ac_s10 (by decide) rfl ⟨Ae_s10_0, Ae_s10_1, Ae_s10_2, Ae_s10_3, Ae_s10_4, Ae_s10_5, Ae_s10_6, Ae_s10_7, Ae_s10_8, Ae_s10_9, Ae_s10_10, Ae_s10_11, Ae_s10_12, trivial⟩
  obtain ⟨n, o, h1, h2, h3, _, L, rfl, ⟨rfl, N⟩, hq⟩ := rm0 (l := l) (Z := s) (ws := tables_1) (h0 := s.heap) (n0 := s.heap.size) hw i0 i1 i2 i3 i4 s1 s2 s3 s4 s5 s6 s7 s8 s9 s10 p90 rv0 cl_s1.cls cl_s6.cls cl_s8.cls cl_s10.cls (Nat.le_refl _) St94 (Old.start s) St97 hr_rv0 St61 Se_s1 Av_s1 Sf73 Se_s5 Sf76 Sf78 Av_s6 Sf80 Se_s7 Sf83 Sf85 Av_s8 Sf87 Se_s9 Sf90 Sf92 Av_s10 St67 St70 St64 Sn95 p e ha hc hk s m _ below hf ((Spec.applies_iff_loose hf).mp happ).1 ⟨rfl, State.Warmed39.refl s, rfl, CHv.start (own_EW hw) hcalls.1 (hsets _ (List.mem_of_getElem? (i := 2) rfl)) (hw _ (List.mem_of_getElem? (i := 4) rfl)) (hw _ (List.mem_of_getElem? (i := 3) rfl))⟩ trivial
  refine ⟨n, _, h1, h2, h3, hpost _ _ _ _ _ _ ⟨Cond.after_iff.mpr rfl, Cond.after_iff.mpr (eq_i res_at (Term.int_eval (1)) rfl), trivial⟩ ⟨hq.1, hq.2.1, hq.2.2.1, (hq.2.2.2.sift fun y hy => Or.inr (N y hy)).mono (by decide) (by decide)⟩⟩
theorem main_1_1 : Claimed_1_1 := comes_1 fun _ _ _ _ _ _ h hF => ⟨h.1, hF⟩
theorem main_1_2 : Claimed_1_2 := comes_1 fun _ _ _ _ _ _ h hF => ⟨h.2.1, hF⟩
end Jvm.Pilot.@@N@@
namespace Jvm.Pilot.@@N@@
open Jvm Jvm.ClassFile Sem Op Lib Jvm.Free Jvm.Stand Jvm.Pilot.@@N@@.Jvm.D
/-! MADE BY PROGRAM (witnessworld.py) out of the Statement's table words and the real class files: 22 classes; the members and pool entries that the words name. The judged class is class 1, her method 4. -/
namespace start1
open Jvm.ClassFile
def u (s : String) : CpInfo := .utf8 (stringToUtf16 s)
/-- a pool by its gaps: so many unusable entries, then the entry; so many at the end -/
def gap : Nat → List CpInfo → List CpInfo
  | 0, r => r
  | n + 1, r => .unusable :: gap n r
def poolList (es : List (Nat × CpInfo)) (last : Nat) : List CpInfo := es.foldr (fun e r => gap e.1 (e.2 :: r)) (gap last [])
def pool (es : List (Nat × CpInfo)) (last : Nat) : Array CpInfo := ⟨poolList es last⟩
def fileOf (pool : Array CpInfo) (this : Nat) (attrs : Array Attribute := #[]) (ms : Array MethodInfo := #[]) (fl : Nat := 33) (sup : Nat := 0) (ifs : Array Nat := #[]) (fds : Array FieldInfo := #[]) : ClassFile where
  minorVersion := 0
  majorVersion := 65
  constantPool := pool
  accessFlags := fl
  thisClass := this
  superClass := sup
  interfaces := ifs
  fields := fds
  methods := ms
  attributes := attrs
def plain (name : String) (sup : Option ClassId) : Class where
  name := name
  kind := .ordinary
  loader := none
  accessFlags := 33
  super := sup
  interfaces := #[]
  cf := none
  fields := #[]
  methods := #[]
  instanceTypes := #[]
  staticTypes := #[]
  resolved := #[]
  callSites := []
  init := .initialized
  statics := none
  mirror := none

def pool0 : Array CpInfo := pool [(5, u "<init>"), (0, u "()V"), (1, .class_ 10), (1, u "java/lang/Object"), (85, u "clone"), (0, u "()Ljava/lang/Object;")] 26

def k0c0 : Code := { maxStack := 0, maxLocals := 1, code := object_method_1_code, exceptionTable := #[], attributes := #[] }
def k0m0 : Method := { name := "<init>", desc := "()V", sig := { parameters := [], returnType := none }, accessFlags := 1, code := some k0c0 }
def k0m1 : Method := { name := "clone", desc := "()Ljava/lang/Object;", sig := { parameters := [], returnType := some (.object "java/lang/Object") }, accessFlags := 260, code := none }
/-- java/lang/Object -/
def k0 : Class := { plain "java/lang/Object" none with
  accessFlags := 33
  interfaces := #[]
  cf := some (fileOf pool0 8 #[] #[{ accessFlags := 1, nameIndex := 5, descriptorIndex := 6, attributes := #[] }, { accessFlags := 260, nameIndex := 96, descriptorIndex := 97, attributes := #[] }] 33 0 #[] #[])
  fields := #[]
  methods := #[k0m0, k0m1]
  instanceTypes := #[]
  staticTypes := #[]
  resolved := Array.replicate 124 none
  statics := none }

def pool1 : Array CpInfo := pool [(2, .class_ 4), (1, u "java/lang/Object"), (0, u "<init>"), (0, u "()V"), (0, .methodref 8 9), (0, .class_ 10), (0, .nameAndType 11 12), (0, u "java/lang/String"), (0, u "length"), (0, u "()I"), (0, .methodref 8 14), (0, .nameAndType 15 16), (0, u "charAt"), (0, u "(I)C"), (0, .methodref 18 19), (0, .class_ 20), (0, .nameAndType 21 22), (0, u "com/example/sinkwatch/sinkwatch/FlawNamedPinLaw"), (0, u "cell"), (0, u "(Ljava/lang/String;IIC)C"), (0, .methodref 8 24), (0, .nameAndType 5 25), (0, u "([C)V"), (0, .string 27), (0, u "sql-injection"), (0, .methodref 8 29), (0, .nameAndType 30 31), (0, u "equals"), (0, u "(Ljava/lang/Object;)Z"), (0, .fieldref 33 34), (0, .class_ 35), (0, .nameAndType 36 37), (0, u "com/example/sinkwatch/sinkwatch/Flaw"), (0, u "SQL_INJECTION"), (0, u "Lcom/example/sinkwatch/sinkwatch/Flaw;"), (0, .string 39), (0, u "path-traversal"), (0, .fieldref 33 41), (0, .nameAndType 42 37), (0, u "PATH_TRAVERSAL"), (0, .string 44), (0, u "open-redirect"), (0, .fieldref 33 46), (0, .nameAndType 47 37), (0, u "OPEN_REDIRECT"), (0, .integer 2147483647), (0, .methodref 18 50), (0, .nameAndType 51 52), (0, u "make"), (0, u "(Ljava/lang/String;ICI)Ljava/lang/String;"), (0, .methodref 33 54), (0, .nameAndType 55 56), (0, u "named"), (0, u "(Ljava/lang/String;)Lcom/example/sinkwatch/sinkwatch/Flaw;"), (0, .methodref 18 58), (0, .nameAndType 59 56), (0, u "ref"), (5, u "law"), (0, u "(IIIII)Z")] 2

def k1m0 : Method := { name := "<init>", desc := "()V", sig := { parameters := [], returnType := none }, accessFlags := 2, code := none }
def k1c1 : Code := { maxStack := 2, maxLocals := 4, code := method_2_code, exceptionTable := #[], attributes := #[] }
def k1m1 : Method := { name := "cell", desc := "(Ljava/lang/String;IIC)C", sig := { parameters := [(.object "java/lang/String"), .int, .int, .char], returnType := some .char }, accessFlags := 10, code := some k1c1 }
def k1c2 : Code := { maxStack := 7, maxLocals := 5, code := method_3_code, exceptionTable := #[], attributes := #[] }
def k1m2 : Method := { name := "make", desc := "(Ljava/lang/String;ICI)Ljava/lang/String;", sig := { parameters := [(.object "java/lang/String"), .int, .char, .int], returnType := some (.object "java/lang/String") }, accessFlags := 10, code := some k1c2 }
def k1c3 : Code := { maxStack := 2, maxLocals := 1, code := method_4_code, exceptionTable := #[], attributes := #[] }
def k1m3 : Method := { name := "ref", desc := "(Ljava/lang/String;)Lcom/example/sinkwatch/sinkwatch/Flaw;", sig := { parameters := [(.object "java/lang/String")], returnType := some (.object "com/example/sinkwatch/sinkwatch/Flaw") }, accessFlags := 10, code := some k1c3 }
def k1c4 : Code := { maxStack := 4, maxLocals := 11, code := code, exceptionTable := #[], attributes := #[] }
def k1m4 : Method := { name := "law", desc := "(IIIII)Z", sig := { parameters := [.int, .int, .int, .int, .int], returnType := some .boolean }, accessFlags := 9, code := some k1c4 }
/-- com/example/sinkwatch/sinkwatch/FlawNamedPinLaw -/
def k1 : Class := { plain "com/example/sinkwatch/sinkwatch/FlawNamedPinLaw" (some 0) with
  accessFlags := 49
  interfaces := #[]
  cf := some (fileOf pool1 18 #[] #[{ accessFlags := 2, nameIndex := 5, descriptorIndex := 6, attributes := #[] }, { accessFlags := 10, nameIndex := 21, descriptorIndex := 22, attributes := #[] }, { accessFlags := 10, nameIndex := 51, descriptorIndex := 52, attributes := #[] }, { accessFlags := 10, nameIndex := 59, descriptorIndex := 56, attributes := #[] }, { accessFlags := 9, nameIndex := 65, descriptorIndex := 66, attributes := #[] }] 49 2 #[] #[])
  fields := #[]
  methods := #[k1m0, k1m1, k1m2, k1m3, k1m4]
  instanceTypes := #[]
  staticTypes := #[]
  resolved := Array.replicate 69 none
  statics := none }

def pool2 : Array CpInfo := pool [(1, .class_ 2), (0, u "java/io/Serializable"), (0, .class_ 4), (0, u "java/lang/Object")] 2

/-- java/io/Serializable -/
def k2 : Class := { plain "java/io/Serializable" (some 0) with
  accessFlags := 1537
  interfaces := #[]
  cf := some (fileOf pool2 1 #[] #[] 1537 3 #[] #[])
  fields := #[]
  methods := #[]
  instanceTypes := #[]
  staticTypes := #[]
  resolved := Array.replicate 7 none
  statics := none }

def pool3 : Array CpInfo := pool [(1, .class_ 2), (0, u "java/lang/Comparable"), (0, .class_ 4), (0, u "java/lang/Object")] 7

/-- java/lang/Comparable -/
def k3 : Class := { plain "java/lang/Comparable" (some 0) with
  accessFlags := 1537
  interfaces := #[]
  cf := some (fileOf pool3 1 #[] #[] 1537 3 #[] #[])
  fields := #[]
  methods := #[]
  instanceTypes := #[]
  staticTypes := #[]
  resolved := Array.replicate 12 none
  statics := none }

def pool4 : Array CpInfo := pool [(2, .class_ 4), (1, u "java/lang/CharSequence"), (42, .class_ 48), (0, u "java/lang/CharSequence$1CodePointIterator"), (10, .class_ 60), (0, u "java/lang/CharSequence$1CharIterator"), (5, .class_ 67), (0, u "java/lang/Object")] 63

/-- java/lang/CharSequence -/
def k4 : Class := { plain "java/lang/CharSequence" (some 0) with
  accessFlags := 1537
  interfaces := #[]
  cf := some (fileOf pool4 2 #[.nestMembers #[47, 59]] #[] 1537 66 #[] #[])
  fields := #[]
  methods := #[]
  instanceTypes := #[]
  staticTypes := #[]
  resolved := Array.replicate 131 none
  statics := none }

def pool5 : Array CpInfo := pool [(1, .class_ 2), (0, u "java/lang/constant/Constable"), (0, .class_ 4), (0, u "java/lang/Object")] 6

/-- java/lang/constant/Constable -/
def k5 : Class := { plain "java/lang/constant/Constable" (some 0) with
  accessFlags := 1537
  interfaces := #[]
  cf := some (fileOf pool5 1 #[] #[] 1537 3 #[] #[])
  fields := #[]
  methods := #[]
  instanceTypes := #[]
  staticTypes := #[]
  resolved := Array.replicate 11 none
  statics := none }

def pool6 : Array CpInfo := pool [(1, .class_ 2), (0, u "java/lang/constant/ConstantDesc"), (0, .class_ 4), (0, u "java/lang/Object")] 32

/-- java/lang/constant/ConstantDesc -/
def k6 : Class := { plain "java/lang/constant/ConstantDesc" (some 0) with
  accessFlags := 1537
  interfaces := #[]
  cf := some (fileOf pool6 1 #[] #[] 1537 3 #[] #[])
  fields := #[]
  methods := #[]
  instanceTypes := #[]
  staticTypes := #[]
  resolved := Array.replicate 37 none
  statics := none }

def pool7 : Array CpInfo := pool [(1, .methodref 2 3), (0, .class_ 4), (0, .nameAndType 5 6), (0, u "java/lang/Object"), (0, u "<init>"), (0, u "()V"), (2, .fieldref 10 11), (0, .class_ 12), (0, .nameAndType 13 14), (0, u "java/lang/String"), (0, u "value"), (0, u "[B"), (0, .fieldref 10 16), (0, .nameAndType 17 18), (0, u "coder"), (0, u "B"), (2, u "hash"), (0, u "I"), (2, u "hashIsZero"), (0, u "Z"), (0, .methodref 10 28), (0, .nameAndType 5 29), (0, u "([CIILjava/lang/Void;)V"), (8, .fieldref 10 39), (0, .nameAndType 40 26), (0, u "COMPACT_STRINGS"), (1, .class_ 44), (1, u "java/lang/StringUTF16"), (0, u "compress"), (1, .methodref 42 48), (0, .nameAndType 49 50), (0, u "coderFromArrayLen"), (0, u "([BI)B"), (56, .class_ 109), (1, u "java/lang/StringLatin1"), (32, u "()Z"), (34, .methodref 42 178), (0, .nameAndType 45 179), (0, u "([CII)[B"), (154, u "()I"), (0, .methodref 10 336), (0, .nameAndType 17 337), (0, u "()B"), (25, u "([BI)C"), (27, u "(II)V"), (35, u "(I)C"), (64, .methodref 10 493), (0, .nameAndType 494 142), (0, u "isLatin1"), (0, .methodref 107 496), (0, .nameAndType 497 363), (0, u "charAt"), (3, u "checkIndex"), (5, u "length"), (33, .methodref 107 542), (0, .nameAndType 543 544), (0, u "equals"), (0, u "([B[B)Z"), (28, u "(Ljava/lang/Object;)Z"), (1, .class_ 576), (0, u "java/lang/CharSequence"), (22, u "CASE_INSENSITIVE_ORDER"), (0, u "Ljava/util/Comparator;"), (409, u "([C)V"), (42, .fieldref 1054 1055), (0, .class_ 1056), (0, .nameAndType 1057 1058), (0, u "jdk/internal/util/Preconditions"), (0, u "SIOOBE_FORMATTER"), (0, u "Ljava/util/function/BiFunction;"), (0, .methodref 1054 1060), (0, .nameAndType 501 1061), (0, u "(IILjava/util/function/BiFunction;)I"), (39, u "serialPersistentFields"), (0, u "[Ljava/io/ObjectStreamField;"), (0, .class_ 1104), (0, u "java/lang/String$CaseInsensitiveComparator"), (1, .class_ 1107), (0, u "java/io/Serializable"), (0, .class_ 1109), (0, u "java/lang/Comparable"), (0, .class_ 1111), (0, u "java/lang/constant/Constable"), (0, .class_ 1113), (0, u "java/lang/constant/ConstantDesc"), (2, u "serialVersionUID"), (0, u "J"), (3, u "REPL"), (0, u "C"), (2, u "LATIN1"), (1, u "UTF16")] 323

def k7m0 : Method := { name := "<init>", desc := "()V", sig := { parameters := [], returnType := none }, accessFlags := 1, code := none }
def k7c1 : Code := { maxStack := 5, maxLocals := 2, code := jdk_42_method_3_code, exceptionTable := #[], attributes := #[] }
def k7m1 : Method := { name := "<init>", desc := "([C)V", sig := { parameters := [(.array .char)], returnType := none }, accessFlags := 1, code := some k7c1 }
def k7c2 : Code := { maxStack := 2, maxLocals := 1, code := jdk_42_method_54_code, exceptionTable := #[], attributes := #[] }
def k7m2 : Method := { name := "length", desc := "()I", sig := { parameters := [], returnType := some .int }, accessFlags := 1, code := some k7c2 }
def k7c3 : Code := { maxStack := 2, maxLocals := 2, code := jdk_42_method_56_code, exceptionTable := #[], attributes := #[] }
def k7m3 : Method := { name := "charAt", desc := "(I)C", sig := { parameters := [.int], returnType := some .char }, accessFlags := 1, code := some k7c3 }
def k7c4 : Code := { maxStack := 2, maxLocals := 3, code := jdk_42_method_66_code, exceptionTable := #[], attributes := #[] }
def k7m4 : Method := { name := "equals", desc := "(Ljava/lang/Object;)Z", sig := { parameters := [(.object "java/lang/Object")], returnType := some .boolean }, accessFlags := 1, code := some k7c4 }
def k7c5 : Code := { maxStack := 4, maxLocals := 6, code := jdk_42_method_149_code, exceptionTable := #[], attributes := #[] }
def k7m5 : Method := { name := "<init>", desc := "([CIILjava/lang/Void;)V", sig := { parameters := [(.array .char), .int, .int, (.object "java/lang/Void")], returnType := none }, accessFlags := 2, code := some k7c5 }
def k7c6 : Code := { maxStack := 1, maxLocals := 1, code := jdk_42_method_152_code, exceptionTable := #[], attributes := #[] }
def k7m6 : Method := { name := "coder", desc := "()B", sig := { parameters := [], returnType := some .byte }, accessFlags := 0, code := some k7c6 }
def k7c7 : Code := { maxStack := 1, maxLocals := 1, code := jdk_42_method_154_code, exceptionTable := #[], attributes := #[] }
def k7m7 : Method := { name := "isLatin1", desc := "()Z", sig := { parameters := [], returnType := some .boolean }, accessFlags := 0, code := some k7c7 }
def k7c8 : Code := { maxStack := 3, maxLocals := 2, code := jdk_42_method_155_code, exceptionTable := #[], attributes := #[] }
def k7m8 : Method := { name := "checkIndex", desc := "(II)V", sig := { parameters := [.int, .int], returnType := none }, accessFlags := 8, code := some k7c8 }
/-- java/lang/String -/
def k7 : Class := { plain "java/lang/String" (some 0) with
  accessFlags := 49
  interfaces := #[2, 3, 4, 5, 6]
  cf := some (fileOf pool7 10 #[.nestMembers #[1103]] #[{ accessFlags := 1, nameIndex := 5, descriptorIndex := 6, attributes := #[] }, { accessFlags := 1, nameIndex := 5, descriptorIndex := 1010, attributes := #[] }, { accessFlags := 1, nameIndex := 507, descriptorIndex := 334, attributes := #[] }, { accessFlags := 1, nameIndex := 497, descriptorIndex := 427, attributes := #[] }, { accessFlags := 1, nameIndex := 543, descriptorIndex := 573, attributes := #[] }, { accessFlags := 2, nameIndex := 5, descriptorIndex := 29, attributes := #[] }, { accessFlags := 0, nameIndex := 17, descriptorIndex := 337, attributes := #[] }, { accessFlags := 0, nameIndex := 494, descriptorIndex := 142, attributes := #[] }, { accessFlags := 8, nameIndex := 501, descriptorIndex := 391, attributes := #[] }] 49 2 #[1106, 1108, 575, 1110, 1112] #[{ accessFlags := 18, nameIndex := 13, descriptorIndex := 14, attributes := #[] }, { accessFlags := 18, nameIndex := 17, descriptorIndex := 18, attributes := #[] }, { accessFlags := 2, nameIndex := 21, descriptorIndex := 22, attributes := #[] }, { accessFlags := 2, nameIndex := 25, descriptorIndex := 26, attributes := #[] }, { accessFlags := 26, nameIndex := 1116, descriptorIndex := 1117, attributes := #[] }, { accessFlags := 24, nameIndex := 40, descriptorIndex := 26, attributes := #[] }, { accessFlags := 26, nameIndex := 1101, descriptorIndex := 1102, attributes := #[] }, { accessFlags := 26, nameIndex := 1121, descriptorIndex := 1122, attributes := #[] }, { accessFlags := 25, nameIndex := 599, descriptorIndex := 600, attributes := #[] }, { accessFlags := 24, nameIndex := 1125, descriptorIndex := 18, attributes := #[] }, { accessFlags := 24, nameIndex := 1127, descriptorIndex := 18, attributes := #[] }])
  fields := #[{ name := "value", type := (.array .byte), accessFlags := 18, slot := 0, constantValue := 0 }, { name := "coder", type := .byte, accessFlags := 18, slot := 1, constantValue := 0 }, { name := "hash", type := .int, accessFlags := 2, slot := 2, constantValue := 0 }, { name := "hashIsZero", type := .boolean, accessFlags := 2, slot := 3, constantValue := 0 }, { name := "serialVersionUID", type := .long, accessFlags := 26, slot := 0, constantValue := 0 }, { name := "COMPACT_STRINGS", type := .boolean, accessFlags := 24, slot := 1, constantValue := 0 }, { name := "serialPersistentFields", type := (.array (.object "java/io/ObjectStreamField")), accessFlags := 26, slot := 2, constantValue := 0 }, { name := "REPL", type := .char, accessFlags := 26, slot := 3, constantValue := 0 }, { name := "CASE_INSENSITIVE_ORDER", type := (.object "java/util/Comparator"), accessFlags := 25, slot := 4, constantValue := 0 }, { name := "LATIN1", type := .byte, accessFlags := 24, slot := 5, constantValue := 0 }, { name := "UTF16", type := .byte, accessFlags := 24, slot := 6, constantValue := 0 }]
  methods := #[k7m0, k7m1, k7m2, k7m3, k7m4, k7m5, k7m6, k7m7, k7m8]
  instanceTypes := #[(.array .byte), .byte, .int, .boolean]
  staticTypes := #[.long, .boolean, (.array (.object "java/io/ObjectStreamField")), .char, (.object "java/util/Comparator"), .byte, .byte]
  resolved := Array.replicate 1451 none
  statics := some 0 }

def pool8 : Array CpInfo := pool [(1, .class_ 2), (0, u "java/lang/String"), (1, .class_ 6), (1, u "java/lang/Object"), (0, u "<init>"), (0, u "()V"), (0, .methodref 1 10), (0, .nameAndType 11 12), (0, u "checkIndex"), (0, u "(II)V"), (1, .class_ 16), (1, u "java/lang/StringLatin1"), (36, u "([BI)C"), (67, u "$assertionsDisabled"), (0, u "Z"), (98, .class_ 223), (1, u "java/lang/StringLatin1$LinesSpliterator"), (28, u "charAt"), (28, u "equals"), (0, u "([B[B)Z"), (107, .class_ 391), (0, u "java/lang/StringLatin1$CharsSpliterator")] 3

def k8m0 : Method := { name := "<init>", desc := "()V", sig := { parameters := [], returnType := none }, accessFlags := 0, code := none }
def k8c1 : Code := { maxStack := 2, maxLocals := 2, code := jdk_43_method_2_code, exceptionTable := #[], attributes := #[] }
def k8m1 : Method := { name := "charAt", desc := "([BI)C", sig := { parameters := [(.array .byte), .int], returnType := some .char }, accessFlags := 9, code := some k8c1 }
def k8c2 : Code := { maxStack := 3, maxLocals := 3, code := jdk_43_method_13_code, exceptionTable := #[], attributes := #[] }
def k8m2 : Method := { name := "equals", desc := "([B[B)Z", sig := { parameters := [(.array .byte), (.array .byte)], returnType := some .boolean }, accessFlags := 9, code := some k8c2 }
/-- java/lang/StringLatin1 -/
def k8 : Class := { plain "java/lang/StringLatin1" (some 0) with
  accessFlags := 48
  interfaces := #[]
  cf := some (fileOf pool8 14 #[.nestMembers #[390, 221]] #[{ accessFlags := 0, nameIndex := 7, descriptorIndex := 8, attributes := #[] }, { accessFlags := 9, nameIndex := 252, descriptorIndex := 53, attributes := #[] }, { accessFlags := 9, nameIndex := 281, descriptorIndex := 282, attributes := #[] }] 48 4 #[] #[{ accessFlags := 4120, nameIndex := 121, descriptorIndex := 122, attributes := #[] }])
  fields := #[{ name := "$assertionsDisabled", type := .boolean, accessFlags := 4120, slot := 0, constantValue := 0 }]
  methods := #[k8m0, k8m1, k8m2]
  instanceTypes := #[]
  staticTypes := #[.boolean]
  resolved := Array.replicate 395 none
  statics := none }

def pool9 : Array CpInfo := pool [(2, .class_ 4), (1, u "java/lang/Object"), (0, u "<init>"), (0, u "()V"), (17, .class_ 26), (1, u "jdk/internal/util/Preconditions"), (6, u "checkIndex"), (21, .class_ 56), (0, u "jdk/internal/util/Preconditions$4"), (57, .class_ 115), (0, u "jdk/internal/util/Preconditions$1"), (7, u "SIOOBE_FORMATTER"), (0, u "Ljava/util/function/BiFunction;"), (0, .class_ 126), (0, u "jdk/internal/util/Preconditions$2"), (3, u "AIOOBE_FORMATTER"), (0, .class_ 132), (0, u "jdk/internal/util/Preconditions$3"), (3, u "IOOBE_FORMATTER"), (41, u "(IILjava/util/function/BiFunction;)I")] 15

def k9m0 : Method := { name := "<init>", desc := "()V", sig := { parameters := [], returnType := none }, accessFlags := 1, code := none }
def k9c1 : Code := { maxStack := 3, maxLocals := 3, code := jdk_41_method_11_code, exceptionTable := #[], attributes := #[] }
def k9m1 : Method := { name := "checkIndex", desc := "(IILjava/util/function/BiFunction;)I", sig := { parameters := [.int, .int, (.object "java/util/function/BiFunction")], returnType := some .int }, accessFlags := 9, code := some k9c1 }
/-- jdk/internal/util/Preconditions -/
def k9 : Class := { plain "jdk/internal/util/Preconditions" (some 0) with
  accessFlags := 33
  interfaces := #[]
  cf := some (fileOf pool9 24 #[.nestMembers #[55, 131, 125, 114]] #[{ accessFlags := 1, nameIndex := 5, descriptorIndex := 6, attributes := #[] }, { accessFlags := 9, nameIndex := 33, descriptorIndex := 178, attributes := #[] }] 33 2 #[] #[{ accessFlags := 25, nameIndex := 123, descriptorIndex := 124, attributes := #[] }, { accessFlags := 25, nameIndex := 130, descriptorIndex := 124, attributes := #[] }, { accessFlags := 25, nameIndex := 136, descriptorIndex := 124, attributes := #[] }])
  fields := #[{ name := "SIOOBE_FORMATTER", type := (.object "java/util/function/BiFunction"), accessFlags := 25, slot := 0, constantValue := 0 }, { name := "AIOOBE_FORMATTER", type := (.object "java/util/function/BiFunction"), accessFlags := 25, slot := 1, constantValue := 0 }, { name := "IOOBE_FORMATTER", type := (.object "java/util/function/BiFunction"), accessFlags := 25, slot := 2, constantValue := 0 }]
  methods := #[k9m0, k9m1]
  instanceTypes := #[]
  staticTypes := #[(.object "java/util/function/BiFunction"), (.object "java/util/function/BiFunction"), (.object "java/util/function/BiFunction")]
  resolved := Array.replicate 194 none
  statics := some 1 }

def pool10 : Array CpInfo := pool [(6, .class_ 8), (1, u "java/lang/Object"), (0, u "<init>"), (0, u "()V"), (1, .class_ 14), (1, u "java/lang/StringUTF16"), (31, u "$assertionsDisabled"), (0, u "Z"), (13, u "HI_BYTE_SHIFT"), (0, u "I"), (2, u "LO_BYTE_SHIFT"), (49, .methodref 12 116), (0, .nameAndType 117 118), (0, u "compress"), (0, u "([CI[BII)I"), (3, u "([CII)[B"), (138, u "coderFromArrayLen"), (0, u "([BI)B"), (106, .class_ 371), (1, u "java/lang/StringUTF16$LinesSpliterator"), (58, u "MAX_LENGTH"), (196, .class_ 628), (0, u "java/lang/StringUTF16$CodePointsSpliterator"), (0, .class_ 630), (0, u "java/lang/StringUTF16$CharsSpliterator")] 4

def k10m0 : Method := { name := "<init>", desc := "()V", sig := { parameters := [], returnType := none }, accessFlags := 0, code := none }
def k10c1 : Code := { maxStack := 2, maxLocals := 2, code := jdk_52_method_15_code, exceptionTable := #[], attributes := #[] }
def k10m1 : Method := { name := "coderFromArrayLen", desc := "([BI)B", sig := { parameters := [(.array .byte), .int], returnType := some .byte }, accessFlags := 8, code := some k10c1 }
def k10c2 : Code := { maxStack := 5, maxLocals := 6, code := jdk_52_method_16_code, exceptionTable := #[], attributes := #[] }
def k10m2 : Method := { name := "compress", desc := "([CII)[B", sig := { parameters := [(.array .char), .int, .int], returnType := some (.array .byte) }, accessFlags := 9, code := some k10c2 }
def k10c3 : Code := { maxStack := 3, maxLocals := 7, code := jdk_52_method_21_code, exceptionTable := #[], attributes := #[] }
def k10m3 : Method := { name := "compress", desc := "([CI[BII)I", sig := { parameters := [(.array .char), .int, (.array .byte), .int, .int], returnType := some .int }, accessFlags := 9, code := some k10c3 }
/-- java/lang/StringUTF16 -/
def k10 : Class := { plain "java/lang/StringUTF16" (some 0) with
  accessFlags := 48
  interfaces := #[]
  cf := some (fileOf pool10 12 #[.nestMembers #[627, 629, 369]] #[{ accessFlags := 0, nameIndex := 9, descriptorIndex := 10, attributes := #[] }, { accessFlags := 8, nameIndex := 261, descriptorIndex := 262, attributes := #[] }, { accessFlags := 9, nameIndex := 117, descriptorIndex := 122, attributes := #[] }, { accessFlags := 9, nameIndex := 117, descriptorIndex := 118, attributes := #[] }] 48 6 #[] #[{ accessFlags := 26, nameIndex := 61, descriptorIndex := 62, attributes := #[] }, { accessFlags := 26, nameIndex := 65, descriptorIndex := 62, attributes := #[] }, { accessFlags := 24, nameIndex := 430, descriptorIndex := 62, attributes := #[] }, { accessFlags := 4120, nameIndex := 46, descriptorIndex := 47, attributes := #[] }])
  fields := #[{ name := "HI_BYTE_SHIFT", type := .int, accessFlags := 26, slot := 0, constantValue := 0 }, { name := "LO_BYTE_SHIFT", type := .int, accessFlags := 26, slot := 1, constantValue := 0 }, { name := "MAX_LENGTH", type := .int, accessFlags := 24, slot := 2, constantValue := 0 }, { name := "$assertionsDisabled", type := .boolean, accessFlags := 4120, slot := 3, constantValue := 0 }]
  methods := #[k10m0, k10m1, k10m2, k10m3]
  instanceTypes := #[]
  staticTypes := #[.int, .int, .int, .boolean]
  resolved := Array.replicate 635 none
  statics := none }

def pool11 : Array CpInfo := pool [(2, .class_ 4), (1, u "java/lang/Enum"), (0, u "name"), (0, u "Ljava/lang/String;"), (2, u "ordinal"), (0, u "I"), (1, .class_ 14), (1, u "java/lang/Object"), (4, u "hash"), (86, .class_ 108), (1, u "java/lang/Enum$EnumDesc"), (2, .class_ 112), (0, u "java/lang/constant/Constable"), (0, .class_ 114), (0, u "java/lang/Comparable"), (0, .class_ 116), (0, u "java/io/Serializable")] 87

/-- java/lang/Enum -/
def k11 : Class := { plain "java/lang/Enum" (some 0) with
  accessFlags := 1057
  interfaces := #[5, 3, 2]
  cf := some (fileOf pool11 2 #[.nestMembers #[106]] #[] 1057 12 #[111, 113, 115] #[{ accessFlags := 18, nameIndex := 5, descriptorIndex := 6, attributes := #[] }, { accessFlags := 18, nameIndex := 9, descriptorIndex := 10, attributes := #[] }, { accessFlags := 2, nameIndex := 19, descriptorIndex := 10, attributes := #[] }])
  fields := #[{ name := "name", type := (.object "java/lang/String"), accessFlags := 18, slot := 0, constantValue := 0 }, { name := "ordinal", type := .int, accessFlags := 18, slot := 1, constantValue := 0 }, { name := "hash", type := .int, accessFlags := 2, slot := 2, constantValue := 0 }]
  methods := #[]
  instanceTypes := #[(.object "java/lang/String"), .int, .int]
  staticTypes := #[]
  resolved := Array.replicate 204 none
  statics := none }

def pool12 : Array CpInfo := pool [(1, .class_ 2), (0, u "com/example/sinkwatch/sinkwatch/Flaw"), (2, u "SQL_INJECTION"), (0, u "Lcom/example/sinkwatch/sinkwatch/Flaw;"), (2, u "PATH_TRAVERSAL"), (2, u "OPEN_REDIRECT"), (0, .fieldref 1 14), (0, .nameAndType 15 16), (0, u "$VALUES"), (0, u "[Lcom/example/sinkwatch/sinkwatch/Flaw;"), (0, .methodref 18 19), (0, .class_ 16), (0, .nameAndType 20 21), (0, u "clone"), (0, u "()Ljava/lang/Object;"), (1, .class_ 25), (1, u "java/lang/Enum"), (6, .fieldref 1 33), (0, .nameAndType 34 35), (0, u "word"), (0, u "Ljava/lang/String;"), (0, .methodref 1 37), (0, .nameAndType 38 39), (0, u "values"), (0, u "()[Lcom/example/sinkwatch/sinkwatch/Flaw;"), (0, .methodref 41 42), (0, .class_ 43), (0, .nameAndType 44 45), (0, u "java/lang/String"), (0, u "equals"), (0, u "(Ljava/lang/Object;)Z"), (17, u "(Ljava/lang/String;)Lcom/example/sinkwatch/sinkwatch/Flaw;"), (4, u "named")] 6

def k12c0 : Code := { maxStack := 1, maxLocals := 0, code := prog_3_method_1_code, exceptionTable := #[], attributes := #[] }
def k12m0 : Method := { name := "values", desc := "()[Lcom/example/sinkwatch/sinkwatch/Flaw;", sig := { parameters := [], returnType := some (.array (.object "com/example/sinkwatch/sinkwatch/Flaw")) }, accessFlags := 9, code := some k12c0 }
def k12c1 : Code := { maxStack := 2, maxLocals := 5, code := prog_3_method_5_code, exceptionTable := #[], attributes := #[] }
def k12m1 : Method := { name := "named", desc := "(Ljava/lang/String;)Lcom/example/sinkwatch/sinkwatch/Flaw;", sig := { parameters := [(.object "java/lang/String")], returnType := some (.object "com/example/sinkwatch/sinkwatch/Flaw") }, accessFlags := 8, code := some k12c1 }
/-- com/example/sinkwatch/sinkwatch/Flaw -/
def k12 : Class := { plain "com/example/sinkwatch/sinkwatch/Flaw" (some 11) with
  accessFlags := 16432
  interfaces := #[]
  cf := some (fileOf pool12 1 #[] #[{ accessFlags := 9, nameIndex := 38, descriptorIndex := 39, attributes := #[] }, { accessFlags := 8, nameIndex := 68, descriptorIndex := 63, attributes := #[] }] 16432 23 #[] #[{ accessFlags := 16409, nameIndex := 5, descriptorIndex := 6, attributes := #[] }, { accessFlags := 16409, nameIndex := 9, descriptorIndex := 6, attributes := #[] }, { accessFlags := 16409, nameIndex := 12, descriptorIndex := 6, attributes := #[] }, { accessFlags := 18, nameIndex := 34, descriptorIndex := 35, attributes := #[] }, { accessFlags := 4122, nameIndex := 15, descriptorIndex := 16, attributes := #[] }])
  fields := #[{ name := "SQL_INJECTION", type := (.object "com/example/sinkwatch/sinkwatch/Flaw"), accessFlags := 16409, slot := 0, constantValue := 0 }, { name := "PATH_TRAVERSAL", type := (.object "com/example/sinkwatch/sinkwatch/Flaw"), accessFlags := 16409, slot := 1, constantValue := 0 }, { name := "OPEN_REDIRECT", type := (.object "com/example/sinkwatch/sinkwatch/Flaw"), accessFlags := 16409, slot := 2, constantValue := 0 }, { name := "word", type := (.object "java/lang/String"), accessFlags := 18, slot := 3, constantValue := 0 }, { name := "$VALUES", type := (.array (.object "com/example/sinkwatch/sinkwatch/Flaw")), accessFlags := 4122, slot := 3, constantValue := 0 }]
  methods := #[k12m0, k12m1]
  instanceTypes := #[(.object "java/lang/String"), .int, .int, (.object "java/lang/String")]
  staticTypes := #[(.object "com/example/sinkwatch/sinkwatch/Flaw"), (.object "com/example/sinkwatch/sinkwatch/Flaw"), (.object "com/example/sinkwatch/sinkwatch/Flaw"), (.array (.object "com/example/sinkwatch/sinkwatch/Flaw"))]
  resolved := Array.replicate 75 none
  statics := some 2 }

def pool13 : Array CpInfo := pool [(1, .class_ 2), (0, u "java/lang/Cloneable"), (0, .class_ 4), (0, u "java/lang/Object")] 2

/-- java/lang/Cloneable -/
def k13 : Class := { plain "java/lang/Cloneable" (some 0) with
  accessFlags := 1537
  interfaces := #[]
  cf := some (fileOf pool13 1 #[] #[] 1537 3 #[] #[])
  fields := #[]
  methods := #[]
  instanceTypes := #[]
  staticTypes := #[]
  resolved := Array.replicate 7 none
  statics := none }

def pool14 : Array CpInfo := pool [(9, u "<init>"), (6, .class_ 18), (1, u "java/lang/Object"), (0, u "()V"), (1, .class_ 23), (1, u "jdk/internal/util/ArraysSupport"), (0, u "LOG2_ARRAY_LONG_INDEX_SCALE"), (0, u "I"), (2, u "U"), (0, u "Ljdk/internal/misc/Unsafe;"), (8, u "BIG_ENDIAN"), (0, u "Z"), (8, u "LOG2_BYTE_BIT_SIZE"), (4, u "LOG2_ARRAY_INT_INDEX_SCALE"), (54, u "JLA"), (0, u "Ljdk/internal/access/JavaLangAccess;"), (11, u "LOG2_ARRAY_BOOLEAN_INDEX_SCALE"), (9, u "LOG2_ARRAY_BYTE_INDEX_SCALE"), (5, u "LOG2_ARRAY_CHAR_INDEX_SCALE"), (5, u "LOG2_ARRAY_SHORT_INDEX_SCALE"), (18, u "LOG2_ARRAY_FLOAT_INDEX_SCALE"), (24, u "LOG2_ARRAY_DOUBLE_INDEX_SCALE"), (89, u "T_BOOLEAN"), (2, u "T_CHAR"), (1, u "T_FLOAT"), (1, u "T_DOUBLE"), (1, u "T_BYTE"), (1, u "T_SHORT"), (1, u "T_INT"), (1, u "T_LONG"), (1, u "SOFT_MAX_ARRAY_LENGTH")] 83

def k14m0 : Method := { name := "<init>", desc := "()V", sig := { parameters := [], returnType := none }, accessFlags := 2, code := none }
/-- jdk/internal/util/ArraysSupport -/
def k14 : Class := { plain "jdk/internal/util/ArraysSupport" (some 0) with
  accessFlags := 33
  interfaces := #[]
  cf := some (fileOf pool14 21 #[] #[{ accessFlags := 2, nameIndex := 9, descriptorIndex := 19, attributes := #[] }] 33 16 #[] #[{ accessFlags := 24, nameIndex := 28, descriptorIndex := 29, attributes := #[] }, { accessFlags := 26, nameIndex := 38, descriptorIndex := 39, attributes := #[] }, { accessFlags := 25, nameIndex := 121, descriptorIndex := 25, attributes := #[] }, { accessFlags := 25, nameIndex := 131, descriptorIndex := 25, attributes := #[] }, { accessFlags := 25, nameIndex := 137, descriptorIndex := 25, attributes := #[] }, { accessFlags := 25, nameIndex := 143, descriptorIndex := 25, attributes := #[] }, { accessFlags := 25, nameIndex := 53, descriptorIndex := 25, attributes := #[] }, { accessFlags := 25, nameIndex := 24, descriptorIndex := 25, attributes := #[] }, { accessFlags := 25, nameIndex := 162, descriptorIndex := 25, attributes := #[] }, { accessFlags := 25, nameIndex := 187, descriptorIndex := 25, attributes := #[] }, { accessFlags := 26, nameIndex := 48, descriptorIndex := 25, attributes := #[] }, { accessFlags := 25, nameIndex := 277, descriptorIndex := 25, attributes := #[] }, { accessFlags := 25, nameIndex := 280, descriptorIndex := 25, attributes := #[] }, { accessFlags := 25, nameIndex := 282, descriptorIndex := 25, attributes := #[] }, { accessFlags := 25, nameIndex := 284, descriptorIndex := 25, attributes := #[] }, { accessFlags := 25, nameIndex := 286, descriptorIndex := 25, attributes := #[] }, { accessFlags := 25, nameIndex := 288, descriptorIndex := 25, attributes := #[] }, { accessFlags := 25, nameIndex := 290, descriptorIndex := 25, attributes := #[] }, { accessFlags := 25, nameIndex := 292, descriptorIndex := 25, attributes := #[] }, { accessFlags := 26, nameIndex := 108, descriptorIndex := 109, attributes := #[] }, { accessFlags := 25, nameIndex := 294, descriptorIndex := 25, attributes := #[] }])
  fields := #[{ name := "U", type := (.object "jdk/internal/misc/Unsafe"), accessFlags := 24, slot := 0, constantValue := 0 }, { name := "BIG_ENDIAN", type := .boolean, accessFlags := 26, slot := 1, constantValue := 0 }, { name := "LOG2_ARRAY_BOOLEAN_INDEX_SCALE", type := .int, accessFlags := 25, slot := 2, constantValue := 0 }, { name := "LOG2_ARRAY_BYTE_INDEX_SCALE", type := .int, accessFlags := 25, slot := 3, constantValue := 0 }, { name := "LOG2_ARRAY_CHAR_INDEX_SCALE", type := .int, accessFlags := 25, slot := 4, constantValue := 0 }, { name := "LOG2_ARRAY_SHORT_INDEX_SCALE", type := .int, accessFlags := 25, slot := 5, constantValue := 0 }, { name := "LOG2_ARRAY_INT_INDEX_SCALE", type := .int, accessFlags := 25, slot := 6, constantValue := 0 }, { name := "LOG2_ARRAY_LONG_INDEX_SCALE", type := .int, accessFlags := 25, slot := 7, constantValue := 0 }, { name := "LOG2_ARRAY_FLOAT_INDEX_SCALE", type := .int, accessFlags := 25, slot := 8, constantValue := 0 }, { name := "LOG2_ARRAY_DOUBLE_INDEX_SCALE", type := .int, accessFlags := 25, slot := 9, constantValue := 0 }, { name := "LOG2_BYTE_BIT_SIZE", type := .int, accessFlags := 26, slot := 10, constantValue := 0 }, { name := "T_BOOLEAN", type := .int, accessFlags := 25, slot := 11, constantValue := 0 }, { name := "T_CHAR", type := .int, accessFlags := 25, slot := 12, constantValue := 0 }, { name := "T_FLOAT", type := .int, accessFlags := 25, slot := 13, constantValue := 0 }, { name := "T_DOUBLE", type := .int, accessFlags := 25, slot := 14, constantValue := 0 }, { name := "T_BYTE", type := .int, accessFlags := 25, slot := 15, constantValue := 0 }, { name := "T_SHORT", type := .int, accessFlags := 25, slot := 16, constantValue := 0 }, { name := "T_INT", type := .int, accessFlags := 25, slot := 17, constantValue := 0 }, { name := "T_LONG", type := .int, accessFlags := 25, slot := 18, constantValue := 0 }, { name := "JLA", type := (.object "jdk/internal/access/JavaLangAccess"), accessFlags := 26, slot := 19, constantValue := 0 }, { name := "SOFT_MAX_ARRAY_LENGTH", type := .int, accessFlags := 25, slot := 20, constantValue := 0 }]
  methods := #[k14m0]
  instanceTypes := #[]
  staticTypes := #[(.object "jdk/internal/misc/Unsafe"), .boolean, .int, .int, .int, .int, .int, .int, .int, .int, .int, .int, .int, .int, .int, .int, .int, .int, .int, (.object "jdk/internal/access/JavaLangAccess"), .int]
  resolved := Array.replicate 378 none
  statics := none }

/-- the primitive byte -/
def k15 : Class := { plain "byte" none with kind := .primitive 'B', accessFlags := 0x411 }
/-- [B -/
def k16 : Class := { plain "[B" (some 0) with kind := .array 15 .byte, interfaces := #[13, 2], accessFlags := 1041 }

/-- the primitive char -/
def k17 : Class := { plain "char" none with kind := .primitive 'C', accessFlags := 0x411 }
/-- [C -/
def k18 : Class := { plain "[C" (some 0) with kind := .array 17 .char, interfaces := #[13, 2], accessFlags := 1041 }

/-- the primitive int -/
def k19 : Class := { plain "int" none with kind := .primitive 'I', accessFlags := 0x411 }
/-- [I -/
def k20 : Class := { plain "[I" (some 0) with kind := .array 19 .int, interfaces := #[13, 2], accessFlags := 1041 }

/-- [Lcom/example/sinkwatch/sinkwatch/Flaw; -/
def k21 : Class := { plain "[Lcom/example/sinkwatch/sinkwatch/Flaw;" (some 0) with kind := .array 12 (.object "com/example/sinkwatch/sinkwatch/Flaw"), interfaces := #[13, 2], accessFlags := 1041 }

def heap : Heap := #[{ cls := 7, slots := #[.long 0, .int 1, .null, .int 0, .null, .int 0, .int 0], vm := .statics 7 },
  { cls := 9, slots := #[.null, .null, .null], vm := .statics 9 },
  { cls := 12, slots := #[.ref 9, .ref 10, .ref 11, .ref 12], vm := .statics 12 },
  { cls := 16, slots := #[.int 115, .int 113, .int 108, .int 45, .int 105, .int 110, .int 106, .int 101, .int 99, .int 116, .int 105, .int 111, .int 110], vm := .none },
  { cls := 16, slots := #[.int 112, .int 97, .int 116, .int 104, .int 45, .int 116, .int 114, .int 97, .int 118, .int 101, .int 114, .int 115, .int 97, .int 108], vm := .none },
  { cls := 16, slots := #[.int 111, .int 112, .int 101, .int 110, .int 45, .int 114, .int 101, .int 100, .int 105, .int 114, .int 101, .int 99, .int 116], vm := .none },
  { cls := 7, slots := #[.ref 3, .int 0, .int 0, .int 0], vm := .none },
  { cls := 7, slots := #[.ref 4, .int 0, .int 0, .int 0], vm := .none },
  { cls := 7, slots := #[.ref 5, .int 0, .int 0, .int 0], vm := .none },
  { cls := 12, slots := #[.null, .int 0, .int 0, .ref 6], vm := .none },
  { cls := 12, slots := #[.null, .int 1, .int 0, .ref 7], vm := .none },
  { cls := 12, slots := #[.null, .int 2, .int 0, .ref 8], vm := .none },
  { cls := 21, slots := #[.ref 9, .ref 10, .ref 11], vm := .none }]
def classes : Array Class := #[k0, k1, k2, k3, k4, k5, k6, k7, k8, k9, k10, k11, k12, k13, k14, k15, k16, k17, k18, k19, k20, k21]
def interned : List (Array UInt16 × Addr) := []
def slotsUsed : Nat := 81
def theMethod : MethodId := ⟨1, 4⟩
def args0 : Array Value := #[.int 5, .int 3, .int 77, .int 4, .int 1]
def aboutOver (below : List Frame) : State where
  vm := { classes := classes, interned := interned.toArray }
  heap := heap
  slotsUsed := slotsUsed
  threads := #[{ frames := .invoking theMethod args0 :: below }]
def below0 : List Frame := [.native { method := ⟨0, 0⟩, args := #[] }]
def about1 : State := aboutOver below0
def p0 : Program := .bare "" "" ""
def e0 : Env := launch0.env 0 0 0
theorem w_frames : about1.frames = Frame.invoking theMethod args0 :: below0 := rfl
set_option maxRecDepth 65536 in
theorem w_args : argsFit about1.vm theMethod args0 = true := by decide +kernel
set_option maxRecDepth 65536 in
theorem w_heap : heapFits about1 = true := by decide +kernel
set_option maxRecDepth 65536 in
theorem w_runnable : about1.curStatus? = some .runnable := by decide +kernel
set_option maxRecDepth 65536 in
theorem w_alone : about1.alone = true := by decide +kernel
set_option maxRecDepth 65536 in
theorem w_named : about1.methodNamed? x = some theMethod := by decide +kernel
set_option maxRecDepth 65536 in
theorem w_hears : about1.hears theMethod below0 = true := by decide +kernel
set_option maxRecDepth 65536 in
theorem w_ripe : about1.ripe theMethod args0 below0 = true := by decide +kernel
theorem w_running : about1.status = .running := rfl
set_option maxRecDepth 65536 in
theorem w_room : about1.hasRoom e0.platform room_1 = true :=
  launch0.hasRoom_least _ room_1 (by decide +kernel) (by decide +kernel) (by decide +kernel) (by decide +kernel) (by decide +kernel) (by decide +kernel)
theorem allAtoms_all (ts : List Jvm.Cond) (a : Array Jvm.Value) (st : Jvm.State) : (allAtoms ts).before a st = ts.all (fun c => c.before a st) := by
  induction ts with
  | nil => rfl
  | cons c t ih =>
    show (Jvm.Cond.and c (allAtoms t)).before a st = _
    rw [Jvm.Cond.before_and, ih, List.all_cons]
def words1 : List Jvm.Cond := Jvm.Cond.code x code maxLocals ret :: tables_1
/-- a 'code' word, met by the world's own term for the bytes: nothing is compared byte by byte -/
theorem code_word {y : MethodName} {bytes : ByteArray} {mx : Nat} {rt : Option FieldType} {a : Array Value} {s : State} {m : MethodId} {meth : Method} {c : Code} (h1 : s.methodNamed? y = some m) (h2 : s.vm.method? m = some meth) (h3 : meth.code = some c) (h4 : c.code = bytes)
    (h5 : (c.maxLocals == mx && c.exceptionTable.isEmpty && decide (c.maxStack ≤ mostOperands) && decide (meth.sig.returnType = rt) && !meth.locks && decide (parseMethodDescriptor y.desc = some meth.sig)) = true) : (Jvm.Cond.code y bytes mx rt).before a s = true := by
  simp only [Bool.and_eq_true, beq_iff_eq, Bool.not_eq_true', decide_eq_true_eq] at h5
  obtain ⟨⟨⟨⟨⟨g1, g2⟩, g3⟩, g4⟩, g5⟩, g6⟩ := h5
  simp [Cond.before, Cond.holds, Cond.value, h1, h2, h3, h4, g1, g2, g3, g4, g5, g6]
def isCode : Jvm.Cond → Bool
  | .code _ _ _ _ => true
  | _ => false
theorem all_split {L : List Jvm.Cond} {P : Jvm.Cond → Bool} (h1 : L.all (fun c => isCode c || P c) = true) (h2 : ∀ c ∈ L.filter isCode, P c = true) : L.all P = true := by
  refine List.all_eq_true.mpr fun c hc => ?_
  have h := List.all_eq_true.mp h1 c hc
  rcases Bool.eq_false_or_eq_true (isCode c) with hi | hi
  · exact h2 c (List.mem_filter.mpr ⟨hc, hi⟩)
  · simpa [hi] using h
set_option maxRecDepth 65536 in
theorem w_c0 : (Jvm.Cond.code x code maxLocals ret).before args0 about1 = true := code_word (m := ⟨1, 4⟩) (meth := k1m4) (c := k1c4) (by decide +kernel) rfl rfl rfl (by decide +kernel)
set_option maxRecDepth 65536 in
theorem w_c1 : (Jvm.Cond.code ({ cls := "java/lang/String", name := "length", desc := "()I" } : Jvm.MethodName) jdk_42_method_54_code (1 : Nat) (Option.some Jvm.ClassFile.FieldType.int)).before args0 about1 = true := code_word (m := ⟨7, 2⟩) (meth := k7m2) (c := k7c2) (by decide +kernel) rfl rfl rfl (by decide +kernel)
set_option maxRecDepth 65536 in
theorem w_c2 : (Jvm.Cond.code ({ cls := "java/lang/String", name := "coder", desc := "()B" } : Jvm.MethodName) jdk_42_method_152_code (1 : Nat) (Option.some Jvm.ClassFile.FieldType.byte)).before args0 about1 = true := code_word (m := ⟨7, 6⟩) (meth := k7m6) (c := k7c6) (by decide +kernel) rfl rfl rfl (by decide +kernel)
set_option maxRecDepth 65536 in
theorem w_c3 : (Jvm.Cond.code ({ cls := "com/example/sinkwatch/sinkwatch/FlawNamedPinLaw", name := "make", desc := "(Ljava/lang/String;ICI)Ljava/lang/String;" } : Jvm.MethodName) method_3_code (5 : Nat) (Option.some (Jvm.ClassFile.FieldType.object "java/lang/String"))).before args0 about1 = true := code_word (m := ⟨1, 2⟩) (meth := k1m2) (c := k1c2) (by decide +kernel) rfl rfl rfl (by decide +kernel)
set_option maxRecDepth 65536 in
theorem w_c4 : (Jvm.Cond.code ({ cls := "com/example/sinkwatch/sinkwatch/FlawNamedPinLaw", name := "cell", desc := "(Ljava/lang/String;IIC)C" } : Jvm.MethodName) method_2_code (4 : Nat) (Option.some Jvm.ClassFile.FieldType.char)).before args0 about1 = true := code_word (m := ⟨1, 1⟩) (meth := k1m1) (c := k1c1) (by decide +kernel) rfl rfl rfl (by decide +kernel)
set_option maxRecDepth 65536 in
theorem w_c5 : (Jvm.Cond.code ({ cls := "java/lang/String", name := "charAt", desc := "(I)C" } : Jvm.MethodName) jdk_42_method_56_code (2 : Nat) (Option.some Jvm.ClassFile.FieldType.char)).before args0 about1 = true := code_word (m := ⟨7, 3⟩) (meth := k7m3) (c := k7c3) (by decide +kernel) rfl rfl rfl (by decide +kernel)
set_option maxRecDepth 65536 in
theorem w_c6 : (Jvm.Cond.code ({ cls := "java/lang/String", name := "isLatin1", desc := "()Z" } : Jvm.MethodName) jdk_42_method_154_code (1 : Nat) (Option.some Jvm.ClassFile.FieldType.boolean)).before args0 about1 = true := code_word (m := ⟨7, 7⟩) (meth := k7m7) (c := k7c7) (by decide +kernel) rfl rfl rfl (by decide +kernel)
set_option maxRecDepth 65536 in
theorem w_c7 : (Jvm.Cond.code ({ cls := "java/lang/StringLatin1", name := "charAt", desc := "([BI)C" } : Jvm.MethodName) jdk_43_method_2_code (2 : Nat) (Option.some Jvm.ClassFile.FieldType.char)).before args0 about1 = true := code_word (m := ⟨8, 1⟩) (meth := k8m1) (c := k8c1) (by decide +kernel) rfl rfl rfl (by decide +kernel)
set_option maxRecDepth 65536 in
theorem w_c8 : (Jvm.Cond.code ({ cls := "java/lang/String", name := "checkIndex", desc := "(II)V" } : Jvm.MethodName) jdk_42_method_155_code (2 : Nat) (Option.none : Option Jvm.ClassFile.FieldType)).before args0 about1 = true := code_word (m := ⟨7, 8⟩) (meth := k7m8) (c := k7c8) (by decide +kernel) rfl rfl rfl (by decide +kernel)
set_option maxRecDepth 65536 in
theorem w_c9 : (Jvm.Cond.code ({ cls := "jdk/internal/util/Preconditions", name := "checkIndex", desc := "(IILjava/util/function/BiFunction;)I" } : Jvm.MethodName) jdk_41_method_11_code (3 : Nat) (Option.some Jvm.ClassFile.FieldType.int)).before args0 about1 = true := code_word (m := ⟨9, 1⟩) (meth := k9m1) (c := k9c1) (by decide +kernel) rfl rfl rfl (by decide +kernel)
set_option maxRecDepth 65536 in
theorem w_c10 : (Jvm.Cond.code ({ cls := "java/lang/String", name := "<init>", desc := "([C)V" } : Jvm.MethodName) jdk_42_method_3_code (2 : Nat) (Option.none : Option Jvm.ClassFile.FieldType)).before args0 about1 = true := code_word (m := ⟨7, 1⟩) (meth := k7m1) (c := k7c1) (by decide +kernel) rfl rfl rfl (by decide +kernel)
set_option maxRecDepth 65536 in
theorem w_c11 : (Jvm.Cond.code ({ cls := "java/lang/String", name := "<init>", desc := "([CIILjava/lang/Void;)V" } : Jvm.MethodName) jdk_42_method_149_code (6 : Nat) (Option.none : Option Jvm.ClassFile.FieldType)).before args0 about1 = true := code_word (m := ⟨7, 5⟩) (meth := k7m5) (c := k7c5) (by decide +kernel) rfl rfl rfl (by decide +kernel)
set_option maxRecDepth 65536 in
theorem w_c12 : (Jvm.Cond.code ({ cls := "java/lang/Object", name := "<init>", desc := "()V" } : Jvm.MethodName) object_method_1_code (1 : Nat) (Option.none : Option Jvm.ClassFile.FieldType)).before args0 about1 = true := code_word (m := ⟨0, 0⟩) (meth := k0m0) (c := k0c0) (by decide +kernel) rfl rfl rfl (by decide +kernel)
set_option maxRecDepth 65536 in
theorem w_c13 : (Jvm.Cond.code ({ cls := "java/lang/StringUTF16", name := "compress", desc := "([CII)[B" } : Jvm.MethodName) jdk_52_method_16_code (6 : Nat) (Option.some (Jvm.ClassFile.FieldType.array Jvm.ClassFile.FieldType.byte))).before args0 about1 = true := code_word (m := ⟨10, 2⟩) (meth := k10m2) (c := k10c2) (by decide +kernel) rfl rfl rfl (by decide +kernel)
set_option maxRecDepth 65536 in
theorem w_c14 : (Jvm.Cond.code ({ cls := "java/lang/StringUTF16", name := "compress", desc := "([CI[BII)I" } : Jvm.MethodName) jdk_52_method_21_code (7 : Nat) (Option.some Jvm.ClassFile.FieldType.int)).before args0 about1 = true := code_word (m := ⟨10, 3⟩) (meth := k10m3) (c := k10c3) (by decide +kernel) rfl rfl rfl (by decide +kernel)
set_option maxRecDepth 65536 in
theorem w_c15 : (Jvm.Cond.code ({ cls := "java/lang/StringUTF16", name := "coderFromArrayLen", desc := "([BI)B" } : Jvm.MethodName) jdk_52_method_15_code (2 : Nat) (Option.some Jvm.ClassFile.FieldType.byte)).before args0 about1 = true := code_word (m := ⟨10, 1⟩) (meth := k10m1) (c := k10c1) (by decide +kernel) rfl rfl rfl (by decide +kernel)
set_option maxRecDepth 65536 in
theorem w_c16 : (Jvm.Cond.code ({ cls := "com/example/sinkwatch/sinkwatch/Flaw", name := "named", desc := "(Ljava/lang/String;)Lcom/example/sinkwatch/sinkwatch/Flaw;" } : Jvm.MethodName) prog_3_method_5_code (5 : Nat) (Option.some (Jvm.ClassFile.FieldType.object "com/example/sinkwatch/sinkwatch/Flaw"))).before args0 about1 = true := code_word (m := ⟨12, 1⟩) (meth := k12m1) (c := k12c1) (by decide +kernel) rfl rfl rfl (by decide +kernel)
set_option maxRecDepth 65536 in
theorem w_c17 : (Jvm.Cond.code ({ cls := "com/example/sinkwatch/sinkwatch/Flaw", name := "values", desc := "()[Lcom/example/sinkwatch/sinkwatch/Flaw;" } : Jvm.MethodName) prog_3_method_1_code (0 : Nat) (Option.some (Jvm.ClassFile.FieldType.array (Jvm.ClassFile.FieldType.object "com/example/sinkwatch/sinkwatch/Flaw")))).before args0 about1 = true := code_word (m := ⟨12, 0⟩) (meth := k12m0) (c := k12c0) (by decide +kernel) rfl rfl rfl (by decide +kernel)
set_option maxRecDepth 65536 in
theorem w_c18 : (Jvm.Cond.code ({ cls := "java/lang/String", name := "equals", desc := "(Ljava/lang/Object;)Z" } : Jvm.MethodName) jdk_42_method_66_code (3 : Nat) (Option.some Jvm.ClassFile.FieldType.boolean)).before args0 about1 = true := code_word (m := ⟨7, 4⟩) (meth := k7m4) (c := k7c4) (by decide +kernel) rfl rfl rfl (by decide +kernel)
set_option maxRecDepth 65536 in
theorem w_c19 : (Jvm.Cond.code ({ cls := "java/lang/StringLatin1", name := "equals", desc := "([B[B)Z" } : Jvm.MethodName) jdk_43_method_13_code (3 : Nat) (Option.some Jvm.ClassFile.FieldType.boolean)).before args0 about1 = true := code_word (m := ⟨8, 2⟩) (meth := k8m2) (c := k8c2) (by decide +kernel) rfl rfl rfl (by decide +kernel)
set_option maxRecDepth 65536 in
theorem w_c20 : (Jvm.Cond.code ({ cls := "com/example/sinkwatch/sinkwatch/FlawNamedPinLaw", name := "ref", desc := "(Ljava/lang/String;)Lcom/example/sinkwatch/sinkwatch/Flaw;" } : Jvm.MethodName) method_4_code (1 : Nat) (Option.some (Jvm.ClassFile.FieldType.object "com/example/sinkwatch/sinkwatch/Flaw"))).before args0 about1 = true := code_word (m := ⟨1, 3⟩) (meth := k1m3) (c := k1c3) (by decide +kernel) rfl rfl rfl (by decide +kernel)
def codes1 : List Jvm.Cond := [Jvm.Cond.code x code maxLocals ret, Jvm.Cond.code ({ cls := "java/lang/String", name := "length", desc := "()I" } : Jvm.MethodName) jdk_42_method_54_code (1 : Nat) (Option.some Jvm.ClassFile.FieldType.int), Jvm.Cond.code ({ cls := "java/lang/String", name := "coder", desc := "()B" } : Jvm.MethodName) jdk_42_method_152_code (1 : Nat) (Option.some Jvm.ClassFile.FieldType.byte), Jvm.Cond.code ({ cls := "com/example/sinkwatch/sinkwatch/FlawNamedPinLaw", name := "make", desc := "(Ljava/lang/String;ICI)Ljava/lang/String;" } : Jvm.MethodName) method_3_code (5 : Nat) (Option.some (Jvm.ClassFile.FieldType.object "java/lang/String")), Jvm.Cond.code ({ cls := "com/example/sinkwatch/sinkwatch/FlawNamedPinLaw", name := "cell", desc := "(Ljava/lang/String;IIC)C" } : Jvm.MethodName) method_2_code (4 : Nat) (Option.some Jvm.ClassFile.FieldType.char), Jvm.Cond.code ({ cls := "java/lang/String", name := "charAt", desc := "(I)C" } : Jvm.MethodName) jdk_42_method_56_code (2 : Nat) (Option.some Jvm.ClassFile.FieldType.char), Jvm.Cond.code ({ cls := "java/lang/String", name := "isLatin1", desc := "()Z" } : Jvm.MethodName) jdk_42_method_154_code (1 : Nat) (Option.some Jvm.ClassFile.FieldType.boolean), Jvm.Cond.code ({ cls := "java/lang/StringLatin1", name := "charAt", desc := "([BI)C" } : Jvm.MethodName) jdk_43_method_2_code (2 : Nat) (Option.some Jvm.ClassFile.FieldType.char), Jvm.Cond.code ({ cls := "java/lang/String", name := "checkIndex", desc := "(II)V" } : Jvm.MethodName) jdk_42_method_155_code (2 : Nat) (Option.none : Option Jvm.ClassFile.FieldType), Jvm.Cond.code ({ cls := "jdk/internal/util/Preconditions", name := "checkIndex", desc := "(IILjava/util/function/BiFunction;)I" } : Jvm.MethodName) jdk_41_method_11_code (3 : Nat) (Option.some Jvm.ClassFile.FieldType.int), Jvm.Cond.code ({ cls := "java/lang/String", name := "<init>", desc := "([C)V" } : Jvm.MethodName) jdk_42_method_3_code (2 : Nat) (Option.none : Option Jvm.ClassFile.FieldType), Jvm.Cond.code ({ cls := "java/lang/String", name := "<init>", desc := "([CIILjava/lang/Void;)V" } : Jvm.MethodName) jdk_42_method_149_code (6 : Nat) (Option.none : Option Jvm.ClassFile.FieldType), Jvm.Cond.code ({ cls := "java/lang/Object", name := "<init>", desc := "()V" } : Jvm.MethodName) object_method_1_code (1 : Nat) (Option.none : Option Jvm.ClassFile.FieldType), Jvm.Cond.code ({ cls := "java/lang/StringUTF16", name := "compress", desc := "([CII)[B" } : Jvm.MethodName) jdk_52_method_16_code (6 : Nat) (Option.some (Jvm.ClassFile.FieldType.array Jvm.ClassFile.FieldType.byte)), Jvm.Cond.code ({ cls := "java/lang/StringUTF16", name := "compress", desc := "([CI[BII)I" } : Jvm.MethodName) jdk_52_method_21_code (7 : Nat) (Option.some Jvm.ClassFile.FieldType.int), Jvm.Cond.code ({ cls := "java/lang/StringUTF16", name := "coderFromArrayLen", desc := "([BI)B" } : Jvm.MethodName) jdk_52_method_15_code (2 : Nat) (Option.some Jvm.ClassFile.FieldType.byte), Jvm.Cond.code ({ cls := "com/example/sinkwatch/sinkwatch/Flaw", name := "named", desc := "(Ljava/lang/String;)Lcom/example/sinkwatch/sinkwatch/Flaw;" } : Jvm.MethodName) prog_3_method_5_code (5 : Nat) (Option.some (Jvm.ClassFile.FieldType.object "com/example/sinkwatch/sinkwatch/Flaw")), Jvm.Cond.code ({ cls := "com/example/sinkwatch/sinkwatch/Flaw", name := "values", desc := "()[Lcom/example/sinkwatch/sinkwatch/Flaw;" } : Jvm.MethodName) prog_3_method_1_code (0 : Nat) (Option.some (Jvm.ClassFile.FieldType.array (Jvm.ClassFile.FieldType.object "com/example/sinkwatch/sinkwatch/Flaw"))), Jvm.Cond.code ({ cls := "java/lang/String", name := "equals", desc := "(Ljava/lang/Object;)Z" } : Jvm.MethodName) jdk_42_method_66_code (3 : Nat) (Option.some Jvm.ClassFile.FieldType.boolean), Jvm.Cond.code ({ cls := "java/lang/StringLatin1", name := "equals", desc := "([B[B)Z" } : Jvm.MethodName) jdk_43_method_13_code (3 : Nat) (Option.some Jvm.ClassFile.FieldType.boolean), Jvm.Cond.code ({ cls := "com/example/sinkwatch/sinkwatch/FlawNamedPinLaw", name := "ref", desc := "(Ljava/lang/String;)Lcom/example/sinkwatch/sinkwatch/Flaw;" } : Jvm.MethodName) method_4_code (1 : Nat) (Option.some (Jvm.ClassFile.FieldType.object "com/example/sinkwatch/sinkwatch/Flaw"))]
set_option maxRecDepth 65536 in
theorem codes_eq : words1.filter isCode = codes1 := rfl
theorem w_codes : ∀ c ∈ words1.filter isCode, c.before args0 about1 = true := by
  rw [codes_eq]
  intro c hc
  simp only [codes1, List.mem_cons, List.not_mem_nil, or_false] at hc
  rcases hc with rfl | rfl | rfl | rfl | rfl | rfl | rfl | rfl | rfl | rfl | rfl | rfl | rfl | rfl | rfl | rfl | rfl | rfl | rfl | rfl | rfl
  · exact w_c0
  · exact w_c1
  · exact w_c2
  · exact w_c3
  · exact w_c4
  · exact w_c5
  · exact w_c6
  · exact w_c7
  · exact w_c8
  · exact w_c9
  · exact w_c10
  · exact w_c11
  · exact w_c12
  · exact w_c13
  · exact w_c14
  · exact w_c15
  · exact w_c16
  · exact w_c17
  · exact w_c18
  · exact w_c19
  · exact w_c20
set_option maxRecDepth 65536 in
theorem w_t1 : (words1.take 24).all (fun c => isCode c || c.before args0 about1) = true := by decide +kernel
set_option maxRecDepth 65536 in
theorem w_t2 : ((words1.drop 24).take 24).all (fun c => isCode c || c.before args0 about1) = true := by decide +kernel
set_option maxRecDepth 65536 in
theorem w_t3 : (((words1.drop 24).drop 24).take 24).all (fun c => isCode c || c.before args0 about1) = true := by decide +kernel
set_option maxRecDepth 65536 in
theorem w_t4 : ((((words1.drop 24).drop 24).drop 24).take 24).all (fun c => isCode c || c.before args0 about1) = true := by decide +kernel
set_option maxRecDepth 65536 in
theorem w_t5 : ((((words1.drop 24).drop 24).drop 24).drop 24).all (fun c => isCode c || c.before args0 about1) = true := by decide +kernel
theorem w_tables : (allAtoms (Jvm.Cond.code x code maxLocals ret :: tables_1)).before args0 about1 = true := by
  rw [allAtoms_all]
  show words1.all (fun c => c.before args0 about1) = true
  refine all_split ?_ w_codes
  rw [← List.take_append_drop 24 words1, List.all_append, w_t1, ← List.take_append_drop 24 (words1.drop 24), List.all_append, w_t2, ← List.take_append_drop 24 ((words1.drop 24).drop 24), List.all_append, w_t3, ← List.take_append_drop 24 (((words1.drop 24).drop 24).drop 24), List.all_append, w_t4, w_t5]
  rfl
set_option maxRecDepth 65536 in
theorem w_rest : rest_1_c.before args0 about1 = true := by decide +kernel
set_option maxRecDepth 65536 in
theorem w_case : (Jvm.Cond.and given_1 narrow_1).before args0 about1 = true := by decide +kernel
set_option maxRecDepth 65536 in
theorem w_consts : constsHeld consts_1 about1 := Jvm.Lit.constsHeldB_iff.mp (by decide +kernel)
theorem w_applies : (headSpec (Jvm.Cond.code x code maxLocals ret :: tables_1) room_1).applies x e0.platform about1 = true :=
  (Spec.applies_iff w_frames).mpr ⟨w_running, w_runnable, w_alone, w_named, w_hears, w_ripe, w_room, w_tables⟩
theorem atStart : AtStart classFile x code maxLocals ret World_1 tables_1 room_1 Calls_1 rest_1 Pre_1 launch0 p0 e0 about1 theMethod args0 below0 :=
  ⟨lists_1, trivial, launch0.admits_env _ _ _, launch0.least_env, fairChoices_fair.cas, fairChoices_fair.clock, w_frames, w_args, w_heap, w_applies, ⟨w_consts, trivial⟩, w_rest, w_case⟩
end start1
theorem witness_1 : WitnessClaimed_1 := ⟨start1.p0, start1.e0, start1.about1, start1.theMethod, start1.args0, start1.below0, start1.atStart⟩
end Jvm.Pilot.@@N@@
