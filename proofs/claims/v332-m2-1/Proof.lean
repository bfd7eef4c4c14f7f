import JvmDerived
import JvmDerived.Pilot.@@N@@Statement
import JvmDerived.Pilot.@@N@@Code
set_option linter.unusedVariables false
set_option linter.unusedSimpArgs false
@@BLOCK:NumsL.lean.txt@@
namespace Jvm.OwnK
open Sem ClassFile Op Lib Jvm.Free Jvm.Stand Jvm.LawKit Jvm.RoadKit
section Base
variable {p : Program} {l : Launch} {e : Env} {R : Room} {s : State} {m : MethodId} {args : Array Value} {below : List Frame} {meth : Method} {c : Code} {T T' : State} {locs : List Loc} {cells slots : Nat} {Q : Option Value → Heap → List Loc → Prop} {kc ks : Nat} {g g' : JFrame} {Z : State} {a0 : Array Value} {h : Heap}
/-- the walk's goal: from T with g on top the invocation comes to its end, with Q -/
def Go (p : Program) (e : Env) (below : List Frame) (s T : State) (g : JFrame) (Q : Option Value → Heap → List Loc → Prop) (kc ks : Nat) : Prop :=
  ∃ s₂ o, Steps p.tables e below (T.setTop g) s₂ ∧ s₂.status = .running ∧ Ended s₂ below o ∧ ∃ v L, o = .returned v ∧ Q v s₂.heap L ∧ FrameEnd s o s₂ L kc ks
theorem Go.step (st : ∀ target, Steps p.tables e below (T'.setTop g') target → Steps p.tables e below (T.setTop g) target) (k : Go p e below s T' g' Q kc ks) : Go p e below s T g Q kc ks := by
  obtain ⟨s₂, o, h1, r⟩ := k
  exact ⟨s₂, o, st _ h1, r⟩
theorem Go.trans (st : Steps p.tables e below (T.setTop g) (T'.setTop g')) (k : Go p e below s T' g' Q kc ks) : Go p e below s T g Q kc ks := by
  obtain ⟨s₂, o, h1, r⟩ := k
  exact ⟨s₂, o, st.trans h1, r⟩
theorem Go.cast (q : g = g') (k : Go p e below s T g' Q kc ks) : Go p e below s T g Q kc ks := q ▸ k
theorem Go.out (X : Stand p l e R s m args below meth c T locs cells slots) (hlk : meth.locks = false) {v : Option Value} (hv : meth.sig.returnType = none → v = none) (hQ : Q v T.heap locs) (hc : cells ≤ kc) (hs : slots ≤ ks)
    (st : ∀ fs : List Frame, (∀ (f : JFrame) (acts : List Action), f.method = m → f.locked = none → f.entered = [] → (doReturn e (T.setTop f) acts v).1 = T.setFrames fs) → Steps p.tables e below (T.setTop g) (T.setFrames fs)) : Go p e below s T g Q kc ks := by
  obtain ⟨fs, hr, hrun, hended, hW, hsame⟩ := X.leave hv hlk
  exact ⟨_, _, st fs hr, hrun, hended, _, _, rfl, hQ, ⟨_, rfl⟩, hW, hsame.mono hc hs⟩
theorem Go.ret0 (X : Stand p l e R s m args below meth c T locs cells slots) (hx : p.tables.exec = Jvm.exec) (hlk : meth.locks = false) {pc : Nat} {Ls : Array Slot} (hret : meth.sig.returnType = none) (hd : decode c.code pc = .ok (.return_, 1)) (hc : cells ≤ kc) (hs : slots ≤ ks) (hQ : Q none T.heap locs) : Go p e below s T (mkF m pc Ls []) Q kc ks :=
  Go.out X hlk (fun _ => rfl) hQ hc hs fun fs hr => X.returnOut hx hret hd hr
theorem Go.retV (X : Stand p l e R s m args below meth c T locs cells slots) (hx : p.tables.exec = Jvm.exec) (hlk : meth.locks = false) {pc : Nat} {Ls : Array Slot} {w : Value} {t : FieldType} {i : Instr} {rest : List Value} (hret : meth.sig.returnType = some t) (hn : narrow t w = w)
    (hi : (i = .ireturn ∧ (t = .int ∨ t = .boolean ∨ t = .byte ∨ t = .char ∨ t = .short) ∧ ∃ z, w = .int z) ∨ (i = .lreturn ∧ t = .long ∧ ∃ z, w = .long z) ∨ (i = .dreturn ∧ t = .double ∧ ∃ z, w = .double z) ∨ (i = .freturn ∧ t = .float ∧ ∃ z, w = .float z) ∨ (i = .areturn ∧ t.isReference = true ∧ w.isRef = true))
    (hd : decode c.code pc = .ok (i, 1)) (hc : cells ≤ kc) (hs : slots ≤ ks) (hQ : Q (some w) T.heap locs) : Go p e below s T (mkF m pc Ls (w :: rest)) Q kc ks :=
  Go.out X hlk (fun q => by rw [hret] at q; cases q) hQ hc hs fun fs hr => retOut X hx hret hn hi hd hr
theorem Go.retI (X : Stand p l e R s m args below meth c T locs cells slots) (hx : p.tables.exec = Jvm.exec) (hlk : meth.locks = false) {pc : Nat} {Ls : Array Slot} {z : Int32} {rest : List Value} (hret : meth.sig.returnType = some .int)
    (hd : decode c.code pc = .ok (.ireturn, 1)) (hc : cells ≤ kc) (hs : slots ≤ ks) (hQ : Q (some (.int z)) T.heap locs) : Go p e below s T (mkF m pc Ls (.int z :: rest)) Q kc ks :=
  Go.retV X hx hlk hret rfl (Or.inl ⟨rfl, Or.inl rfl, z, rfl⟩) hd hc hs hQ
theorem nar_bool {z : Int32} (h : z = 0 ∨ z = 1) : narrow .boolean (.int z) = .int z := by rcases h with rfl | rfl <;> rfl
theorem Go.retZ (X : Stand p l e R s m args below meth c T locs cells slots) (hx : p.tables.exec = Jvm.exec) (hlk : meth.locks = false) {pc : Nat} {Ls : Array Slot} {z : Int32} {rest : List Value} (hret : meth.sig.returnType = some .boolean) (hz : z = 0 ∨ z = 1)
    (hd : decode c.code pc = .ok (.ireturn, 1)) (hc : cells ≤ kc) (hs : slots ≤ ks) (hQ : Q (some (.int z)) T.heap locs) : Go p e below s T (mkF m pc Ls (.int z :: rest)) Q kc ks :=
  Go.retV X hx hlk hret (nar_bool hz) (Or.inl ⟨rfl, Or.inr (Or.inl rfl), z, rfl⟩) hd hc hs hQ
theorem Go.retJ (X : Stand p l e R s m args below meth c T locs cells slots) (hx : p.tables.exec = Jvm.exec) (hlk : meth.locks = false) {pc : Nat} {Ls : Array Slot} {z : Int64} {rest : List Value} (hret : meth.sig.returnType = some .long)
    (hd : decode c.code pc = .ok (.lreturn, 1)) (hc : cells ≤ kc) (hs : slots ≤ ks) (hQ : Q (some (.long z)) T.heap locs) : Go p e below s T (mkF m pc Ls (.long z :: rest)) Q kc ks :=
  Go.retV X hx hlk hret rfl (Or.inr (Or.inl ⟨rfl, rfl, z, rfl⟩)) hd hc hs hQ
theorem Go.retR (X : Stand p l e R s m args below meth c T locs cells slots) (hx : p.tables.exec = Jvm.exec) (hlk : meth.locks = false) {pc : Nat} {Ls : Array Slot} {w : Value} {t : FieldType} {rest : List Value} (hret : meth.sig.returnType = some t) (ht : t.isReference = true) (hw : w.isRef = true)
    (hd : decode c.code pc = .ok (.areturn, 1)) (hc : cells ≤ kc) (hs : slots ≤ ks) (hQ : Q (some w) T.heap locs) : Go p e below s T (mkF m pc Ls (w :: rest)) Q kc ks :=
  Go.retV X hx hlk hret (by cases t <;> simp [narrow, FieldType.isReference] at ht ⊢) (Or.inr (Or.inr (Or.inr (Or.inr ⟨rfl, ht, hw⟩)))) hd hc hs hQ
/-- a method's contract in this text: from the heap h0, with these arguments, it returns, with Q -/
def Met (l : Launch) (Z : State) (y : MethodName) (bytes : ByteArray) (maxL : Nat) (ret : Option FieldType) (ws : List Jvm.Cond) (rm : Room) (as' : Array Value) (h0 : Heap) (Q : Option Value → Heap → List Loc → Prop) : Prop :=
  MetFree l y (head1 (Jvm.Cond.code y bytes maxL ret :: ws) rm) (fun a U => a = as' ∧ Z.Warmed39 U.vm ∧ U.heap = h0) (fun _ _ _ _ _ => True) (fun _ U o U' => ∃ v L, o = .returned v ∧ Q v U'.heap L ∧ FrameEnd U o U' L rm.cells rm.slots)
theorem Met.of {y : MethodName} {bytes : ByteArray} {maxL : Nat} {ret : Option FieldType} {ws : List Jvm.Cond} {rm : Room} {as' : Array Value} {h0 : Heap} (hpn : plainFor y = true)
    (body : ∀ (p : Program) (e : Env) (s : State) (m : MethodId) (below : List Frame) (meth : Method) (c : Code) (s₁ : State), Stand p l e rm s m as' below meth c s₁ [] 0 0 → p.tables.exec = Jvm.exec → c.code = bytes → c.maxLocals = maxL → Z.Warmed39 s.vm →
      s.vm.findClass y.cls = some m.cls → meth.name = y.name → s₁.heap = h0 → meth.sig.returnType = ret → meth.locks = false → Go p e below s s₁ (entryFrame m as' maxL) Q rm.cells rm.slots) : Met l Z y bytes maxL ret ws rm as' h0 Q := by
  refine MetFree.of_bodySF hpn hisR ?_
  intro p e s m args below meth c s₁ Bd hml0 hP hK
  obtain ⟨rfl, hZ, hh⟩ := hP
  exact body p e s m below meth c s₁ (Stand.of_body Bd) Bd.exec Bd.bytes hml0 hZ (findClass_of_methodNamed Bd.named) (name_of_methodNamed Bd.named Bd.method).1 (by rw [← hh, Bd.state]; rfl) Bd.returns Bd.notSynchronized
theorem Met.mono {y : MethodName} {bytes : ByteArray} {maxL : Nat} {ret : Option FieldType} {ws : List Jvm.Cond} {rm : Room} {as' : Array Value} {h0 : Heap} {Q' : Option Value → Heap → List Loc → Prop} (hM : Met l Z y bytes maxL ret ws rm as' h0 Q) (q : ∀ v h L, Q v h L → Q' v h L) : Met l Z y bytes maxL ret ws rm as' h0 Q' := by
  intro p e ha hc hk s m args below hf happ hP hK
  obtain ⟨n, o, h1, h2, h3, v, L, h4, h5, h6⟩ := hM p e ha hc hk s m args below hf happ hP hK
  exact ⟨n, o, h1, h2, h3, v, L, h4, q _ _ _ h5, h6⟩
/-- the call of a static method, by its contract -/
theorem Go.callS {own : String} {index : Nat} {y : MethodName} {bytes : ByteArray} {maxL : Nat} {ret : Option FieldType} {rm : Room} {argsL rest : List Value} {Q' : Option Value → Heap → List Loc → Prop} {W pc : Nat} {Ls : Array Slot} {st : List Value}
    (X : Stand p l e R s m args below meth c T locs cells slots) (hx : p.tables.exec = Jvm.exec) (hZ : Z.Warmed39 s.vm) (hown : s.vm.findClass own = some m.cls)
    (w1 : (Jvm.Cond.methodLink own index y).before a0 Z = true) (w2 : (Jvm.Cond.static y).before a0 Z = true) (w3 : (Jvm.Cond.initialized y.cls).before a0 Z = true) (w4 : (Jvm.Cond.code y bytes maxL ret).before a0 Z = true)
    (hy : y.cls ≠ "java/lang/invoke/MethodHandle" ∧ y.cls ≠ "java/lang/invoke/VarHandle") (hM : Met l Z y bytes maxL ret [] rm argsL.toArray h Q') (eT : T.heap = h)
    (hlen : ∀ sig, parseMethodDescriptor y.desc = some sig → argsL.length = sig.parameters.length) (hd : decode c.code pc = .ok (.invokestatic index, 3)) (hsize : Ls.size = c.maxLocals) (hst : st = argsL.reverse ++ rest) (hW : (rest.map fun v => v.category).sum ≤ W)
    (hf : rm.frames + 1 ≤ R.frames) (hl : W + (maxL + 11) + rm.locals ≤ R.locals) (hc : cells + rm.cells ≤ R.cells) (hs : slots + rm.slots ≤ R.slots)
    (k : ∀ v T' L, Stand p l e R s m args below meth c T' (locs ++ L) (cells + rm.cells) (slots + rm.slots) → Q' v T'.heap L → Go p e below s T' (mkF m (pc + 3) Ls (v.toList ++ rest)) Q kc ks) : Go p e below s T (mkF m pc Ls st) Q kc ks := by
  obtain ⟨v, vm₁, ⟨T1, L1, k1, n1⟩, -, X1, ⟨Lc, hQ1, l1, y1, z1⟩, st1⟩ := Jvm.LawKit.callS X hx (y := y) hown (mvT hZ w1) (mvT hZ w2) (mvT hZ w3) (mvT hZ w4) hy (backOf (W := W) hM hZ w4 w3 hf hl) (g := mkF m pc Ls st) rfl hsize (argsL := argsL) (rest := rest) hlen hst (by show 2 * 0 + _ ≤ _; omega) hd (fun _ _ => ⟨rfl, eT, hc, hs⟩)
  dsimp only [Pt.U, Pt.locs, Pt.cells, Pt.slots] at X1 l1 y1 z1 st1 hQ1
  subst l1 y1 z1
  exact Go.step st1 (k v T1 Lc X1 hQ1)
/-- the call of a constructor, by its contract -/
theorem Go.callI {own : String} {index : Nat} {y : MethodName} {bytes : ByteArray} {maxL : Nat} {rm : Room} {a : Addr} {argsL rest : List Value} {Q' : Option Value → Heap → List Loc → Prop} {W pc : Nat} {Ls : Array Slot} {st : List Value}
    (X : Stand p l e R s m args below meth c T locs cells slots) (hx : p.tables.exec = Jvm.exec) (hZ : Z.Warmed39 s.vm) (hown : s.vm.findClass own = some m.cls) (hy1 : y.name = "<init>")
    (w1 : (Jvm.Cond.methodLink own index y).before a0 Z = true) (w2 : (Jvm.Cond.instanceMethod y).before a0 Z = true) (w3 : (Jvm.Cond.initialized y.cls).before a0 Z = true) (w4 : (Jvm.Cond.code y bytes maxL none).before a0 Z = true)
    (hy : y.cls ≠ "java/lang/invoke/MethodHandle" ∧ y.cls ≠ "java/lang/invoke/VarHandle") (hM : Met l Z y bytes maxL none [] rm (.ref a :: argsL).toArray h Q') (eT : T.heap = h)
    (hlen : ∀ sig, parseMethodDescriptor y.desc = some sig → argsL.length = sig.parameters.length) (hd : decode c.code pc = .ok (.invokespecial index, 3)) (hsize : Ls.size = c.maxLocals) (hst : st = argsL.reverse ++ .ref a :: rest) (hW : (rest.map fun v => v.category).sum ≤ W)
    (hf : rm.frames + 1 ≤ R.frames) (hl : W + (maxL + 11) + rm.locals ≤ R.locals) (hc : cells + rm.cells ≤ R.cells) (hs : slots + rm.slots ≤ R.slots)
    (k : ∀ v T' L, Stand p l e R s m args below meth c T' (locs ++ L) (cells + rm.cells) (slots + rm.slots) → Q' v T'.heap L → Go p e below s T' (mkF m (pc + 3) Ls (v.toList ++ rest)) Q kc ks) : Go p e below s T (mkF m pc Ls st) Q kc ks := by
  obtain ⟨v, vm₁, ⟨T1, L1, k1, n1⟩, -, X1, ⟨Lc, hQ1, l1, y1, z1⟩, st1⟩ := X.specialBack hx (y := y) hy1 hown (mvT hZ w1) (mvT hZ w2) (mvT hZ w4) hy (backOf (W := W) hM hZ w4 w3 hf hl) (g := mkF m pc Ls st) rfl hsize (Steps.refl _) (a := a) (argsL := argsL) (rest := rest) hlen hst (by show 2 * 0 + _ ≤ _; omega) hd (fun _ _ => ⟨rfl, eT, hc, hs⟩)
  dsimp only [Pt.U, Pt.locs, Pt.cells, Pt.slots] at X1 l1 y1 z1 st1 hQ1
  subst l1 y1 z1
  exact Go.trans st1 (k v T1 Lc X1 hQ1)
/-- the call of an instance method, by its contract -/
theorem Go.callV {own C : String} {index : Nat} {y z : MethodName} {bytes : ByteArray} {maxL : Nat} {ret : Option FieldType} {rm : Room} {a : Addr} {argsL rest : List Value} {Q' : Option Value → Heap → List Loc → Prop} {W pc : Nat} {Ls : Array Slot} {st : List Value}
    (X : Stand p l e R s m args below meth c T locs cells slots) (hx : p.tables.exec = Jvm.exec) (hZ : Z.Warmed39 s.vm) (hown : s.vm.findClass own = some m.cls)
    (w1 : (Jvm.Cond.methodLink own index y).before a0 Z = true) (w2 : (Jvm.Cond.declares y).before a0 Z = true) (w5 : (Jvm.Cond.selects C y z).before a0 Z = true) (w6 : (Jvm.Cond.instanceMethod z).before a0 Z = true) (w3 : (Jvm.Cond.initialized z.cls).before a0 Z = true) (w4 : (Jvm.Cond.code z bytes maxL ret).before a0 Z = true)
    (nf : NotFace s y) (hy : y.cls ≠ "java/lang/invoke/MethodHandle" ∧ y.cls ≠ "java/lang/invoke/VarHandle") (E : Exa Z h a C) (hM : Met l Z z bytes maxL ret [] rm (.ref a :: argsL).toArray h Q') (eT : T.heap = h)
    (hlen : ∀ sig, parseMethodDescriptor y.desc = some sig → argsL.length = sig.parameters.length) (hd : decode c.code pc = .ok (.invokevirtual index, 3)) (hsize : Ls.size = c.maxLocals) (hst : st = argsL.reverse ++ .ref a :: rest) (hW : (rest.map fun v => v.category).sum ≤ W)
    (hf : rm.frames + 1 ≤ R.frames) (hl : W + (maxL + 11) + rm.locals ≤ R.locals) (hc : cells + rm.cells ≤ R.cells) (hs : slots + rm.slots ≤ R.slots)
    (k : ∀ v T' L, Stand p l e R s m args below meth c T' (locs ++ L) (cells + rm.cells) (slots + rm.slots) → Q' v T'.heap L → Go p e below s T' (mkF m (pc + 3) Ls (v.toList ++ rest)) Q kc ks) : Go p e below s T (mkF m pc Ls st) Q kc ks := by
  obtain ⟨cB, kB, q1, q2, q3⟩ := isOf hZ eT E
  obtain ⟨v, vm₁, ⟨T1, L1, k1, n1⟩, -, X1, ⟨Lc, hQ1, l1, y1, z1⟩, st1⟩ := X.virtualBack hx (y := y) (z := z) hown (mvT hZ w1) (mvT hZ w2) nf (mvT hZ w5) (mvT hZ w6) hy (backOf (W := W) hM hZ w4 w3 hf hl) q1 q3 (g := mkF m pc Ls st) rfl hsize (Steps.refl _) (argsL := argsL) (rest := rest) hlen hst (by show 2 * 0 + _ ≤ _; omega) hd (fun _ _ => ⟨rfl, eT, hc, hs⟩)
  dsimp only [Pt.U, Pt.locs, Pt.cells, Pt.slots] at X1 l1 y1 z1 st1 hQ1
  subst l1 y1 z1
  exact Go.trans st1 (k v T1 Lc X1 hQ1)
theorem Go.ldc {own : String} {index pc : Nat} {v : Int32} {Ls : Array Slot} {st : List Value} (X : Stand p l e R s m args below meth c T locs cells slots) (hx : p.tables.exec = Jvm.exec) (hZ : Z.Warmed39 s.vm) (hown : s.vm.findClass own = some m.cls) (w : (Jvm.Cond.constant own index v).before a0 Z = true) (hd : decode c.code pc = .ok (.ldc index, 2))
    (k : Go p e below s T (mkF m (pc + 2) Ls (.int v :: st)) Q kc ks) : Go p e below s T (mkF m pc Ls st) Q kc ks :=
  Go.step (fun _ => X.ldcI hx hown (mvT hZ w) (g := mkF m pc Ls st) rfl hd) k
theorem Go.ldc2 {own : String} {index pc : Nat} {v : Int64} {Ls : Array Slot} {st : List Value} (X : Stand p l e R s m args below meth c T locs cells slots) (hx : p.tables.exec = Jvm.exec) (hZ : Z.Warmed39 s.vm) (hown : s.vm.findClass own = some m.cls) (w : (Jvm.Cond.constantLong own index v).before a0 Z = true) (hd : decode c.code pc = .ok (.ldc2_w index, 3))
    (k : Go p e below s T (mkF m (pc + 3) Ls (.long v :: st)) Q kc ks) : Go p e below s T (mkF m pc Ls st) Q kc ks :=
  Go.step (fun _ => X.ldc2J hx hown (mvT hZ w) (g := mkF m pc Ls st) rfl hd) k
end Base
end Jvm.OwnK
namespace Jvm.OwnK
open Sem ClassFile Op Lib Jvm.Free Jvm.Stand Jvm.LawKit Jvm.RoadKit
section Steps
variable {p : Program} {l : Launch} {e : Env} {R : Room} {s : State} {m : MethodId} {args : Array Value} {below : List Frame} {meth : Method} {c : Code} {T T' : State} {locs : List Loc} {cells slots : Nat} {Q : Option Value → Heap → List Loc → Prop} {kc ks : Nat} {Z : State} {a0 : Array Value} {h : Heap} {pc : Nat} {Ls : Array Slot} {rest : List Value}
theorem Go.iadd {x y : Int32} (X : Stand p l e R s m args below meth c T locs cells slots) (hx : p.tables.exec = Jvm.exec) (hd : decode c.code pc = .ok (.iadd, 1)) (k : Go p e below s T (mkF m (pc + 1) Ls (.int (x + y) :: rest)) Q kc ks) : Go p e below s T (mkF m pc Ls (.int y :: .int x :: rest)) Q kc ks :=
  Go.step (fun _ => XS.iadd X.here hx (g := mkF m pc Ls (.int y :: .int x :: rest)) rfl hd rfl) k
theorem Go.isub {x y : Int32} (X : Stand p l e R s m args below meth c T locs cells slots) (hx : p.tables.exec = Jvm.exec) (hd : decode c.code pc = .ok (.isub, 1)) (k : Go p e below s T (mkF m (pc + 1) Ls (.int (x - y) :: rest)) Q kc ks) : Go p e below s T (mkF m pc Ls (.int y :: .int x :: rest)) Q kc ks :=
  Go.step (fun _ => XS.isub X.here hx (g := mkF m pc Ls (.int y :: .int x :: rest)) rfl hd rfl) k
theorem Go.iand {x y : Int32} (X : Stand p l e R s m args below meth c T locs cells slots) (hx : p.tables.exec = Jvm.exec) (hd : decode c.code pc = .ok (.iand, 1)) (k : Go p e below s T (mkF m (pc + 1) Ls (.int (x &&& y) :: rest)) Q kc ks) : Go p e below s T (mkF m pc Ls (.int y :: .int x :: rest)) Q kc ks :=
  Go.step (fun _ => XS.iand X.here hx (g := mkF m pc Ls (.int y :: .int x :: rest)) rfl hd rfl) k
theorem Go.imul {x y : Int32} (X : Stand p l e R s m args below meth c T locs cells slots) (hx : p.tables.exec = Jvm.exec) (hd : decode c.code pc = .ok (.imul, 1)) (k : Go p e below s T (mkF m (pc + 1) Ls (.int (x * y) :: rest)) Q kc ks) : Go p e below s T (mkF m pc Ls (.int y :: .int x :: rest)) Q kc ks :=
  Go.step (fun _ => XS.imul X.here hx (g := mkF m pc Ls (.int y :: .int x :: rest)) rfl hd rfl) k
theorem Go.ixor {x y : Int32} (X : Stand p l e R s m args below meth c T locs cells slots) (hx : p.tables.exec = Jvm.exec) (hd : decode c.code pc = .ok (.ixor, 1)) (k : Go p e below s T (mkF m (pc + 1) Ls (.int (x ^^^ y) :: rest)) Q kc ks) : Go p e below s T (mkF m pc Ls (.int y :: .int x :: rest)) Q kc ks :=
  Go.step (fun _ => XT.ixor X.here hx (g := mkF m pc Ls (.int y :: .int x :: rest)) rfl hd rfl) k
theorem Go.ior {x y : Int32} (X : Stand p l e R s m args below meth c T locs cells slots) (hx : p.tables.exec = Jvm.exec) (hd : decode c.code pc = .ok (.ior, 1)) (k : Go p e below s T (mkF m (pc + 1) Ls (.int (x ||| y) :: rest)) Q kc ks) : Go p e below s T (mkF m pc Ls (.int y :: .int x :: rest)) Q kc ks :=
  Go.step (fun _ => XT.ior X.here hx (g := mkF m pc Ls (.int y :: .int x :: rest)) rfl hd rfl) k
theorem Go.ishl {x y : Int32} (X : Stand p l e R s m args below meth c T locs cells slots) (hx : p.tables.exec = Jvm.exec) (hd : decode c.code pc = .ok (.ishl, 1)) (k : Go p e below s T (mkF m (pc + 1) Ls (.int (x <<< (y &&& 31)) :: rest)) Q kc ks) : Go p e below s T (mkF m pc Ls (.int y :: .int x :: rest)) Q kc ks :=
  Go.step (fun _ => XT.ishl X.here hx (g := mkF m pc Ls (.int y :: .int x :: rest)) rfl hd rfl) k
theorem Go.ishr {x y : Int32} (X : Stand p l e R s m args below meth c T locs cells slots) (hx : p.tables.exec = Jvm.exec) (hd : decode c.code pc = .ok (.ishr, 1)) (k : Go p e below s T (mkF m (pc + 1) Ls (.int (x >>> (y &&& 31)) :: rest)) Q kc ks) : Go p e below s T (mkF m pc Ls (.int y :: .int x :: rest)) Q kc ks :=
  Go.step (fun _ => XT.ishr X.here hx (g := mkF m pc Ls (.int y :: .int x :: rest)) rfl hd rfl) k
theorem Go.iushr {x y : Int32} (X : Stand p l e R s m args below meth c T locs cells slots) (hx : p.tables.exec = Jvm.exec) (hd : decode c.code pc = .ok (.iushr, 1)) (k : Go p e below s T (mkF m (pc + 1) Ls (.int (XT.ushr x y) :: rest)) Q kc ks) : Go p e below s T (mkF m pc Ls (.int y :: .int x :: rest)) Q kc ks :=
  Go.step (fun _ => XT.iushr X.here hx (g := mkF m pc Ls (.int y :: .int x :: rest)) rfl hd rfl) k
theorem Go.idiv {x y : Int32} (X : Stand p l e R s m args below meth c T locs cells slots) (hx : p.tables.exec = Jvm.exec) (hd : decode c.code pc = .ok (.idiv, 1)) (hy : y ≠ 0) (k : Go p e below s T (mkF m (pc + 1) Ls (.int (x / y) :: rest)) Q kc ks) : Go p e below s T (mkF m pc Ls (.int y :: .int x :: rest)) Q kc ks :=
  Go.step (fun _ => XS.idiv X.here hx (g := mkF m pc Ls (.int y :: .int x :: rest)) rfl hd rfl hy) k
theorem Go.irem {x y : Int32} (X : Stand p l e R s m args below meth c T locs cells slots) (hx : p.tables.exec = Jvm.exec) (hd : decode c.code pc = .ok (.irem, 1)) (hy : y ≠ 0) (k : Go p e below s T (mkF m (pc + 1) Ls (.int (x % y) :: rest)) Q kc ks) : Go p e below s T (mkF m pc Ls (.int y :: .int x :: rest)) Q kc ks :=
  Go.step (fun _ => iremM X hx (g := mkF m pc Ls (.int y :: .int x :: rest)) rfl hd rfl hy) k
theorem Go.ladd {x y : Int64} (X : Stand p l e R s m args below meth c T locs cells slots) (hx : p.tables.exec = Jvm.exec) (hd : decode c.code pc = .ok (.ladd, 1)) (k : Go p e below s T (mkF m (pc + 1) Ls (.long (x + y) :: rest)) Q kc ks) : Go p e below s T (mkF m pc Ls (.long y :: .long x :: rest)) Q kc ks :=
  Go.step (fun _ => XT.ladd X.here hx (g := mkF m pc Ls (.long y :: .long x :: rest)) rfl hd rfl) k
theorem Go.lsub {x y : Int64} (X : Stand p l e R s m args below meth c T locs cells slots) (hx : p.tables.exec = Jvm.exec) (hd : decode c.code pc = .ok (.lsub, 1)) (k : Go p e below s T (mkF m (pc + 1) Ls (.long (x - y) :: rest)) Q kc ks) : Go p e below s T (mkF m pc Ls (.long y :: .long x :: rest)) Q kc ks :=
  Go.step (fun _ => XT.lsub X.here hx (g := mkF m pc Ls (.long y :: .long x :: rest)) rfl hd rfl) k
theorem Go.lmul {x y : Int64} (X : Stand p l e R s m args below meth c T locs cells slots) (hx : p.tables.exec = Jvm.exec) (hd : decode c.code pc = .ok (.lmul, 1)) (k : Go p e below s T (mkF m (pc + 1) Ls (.long (x * y) :: rest)) Q kc ks) : Go p e below s T (mkF m pc Ls (.long y :: .long x :: rest)) Q kc ks :=
  Go.step (fun _ => XT.lmul X.here hx (g := mkF m pc Ls (.long y :: .long x :: rest)) rfl hd rfl) k
theorem Go.land {x y : Int64} (X : Stand p l e R s m args below meth c T locs cells slots) (hx : p.tables.exec = Jvm.exec) (hd : decode c.code pc = .ok (.land, 1)) (k : Go p e below s T (mkF m (pc + 1) Ls (.long (x &&& y) :: rest)) Q kc ks) : Go p e below s T (mkF m pc Ls (.long y :: .long x :: rest)) Q kc ks :=
  Go.step (fun _ => XT.land X.here hx (g := mkF m pc Ls (.long y :: .long x :: rest)) rfl hd rfl) k
theorem Go.lor {x y : Int64} (X : Stand p l e R s m args below meth c T locs cells slots) (hx : p.tables.exec = Jvm.exec) (hd : decode c.code pc = .ok (.lor, 1)) (k : Go p e below s T (mkF m (pc + 1) Ls (.long (x ||| y) :: rest)) Q kc ks) : Go p e below s T (mkF m pc Ls (.long y :: .long x :: rest)) Q kc ks :=
  Go.step (fun _ => XT.lor X.here hx (g := mkF m pc Ls (.long y :: .long x :: rest)) rfl hd rfl) k
theorem Go.lxor {x y : Int64} (X : Stand p l e R s m args below meth c T locs cells slots) (hx : p.tables.exec = Jvm.exec) (hd : decode c.code pc = .ok (.lxor, 1)) (k : Go p e below s T (mkF m (pc + 1) Ls (.long (x ^^^ y) :: rest)) Q kc ks) : Go p e below s T (mkF m pc Ls (.long y :: .long x :: rest)) Q kc ks :=
  Go.step (fun _ => XT.lxor X.here hx (g := mkF m pc Ls (.long y :: .long x :: rest)) rfl hd rfl) k
theorem Go.lcmp {x y : Int64} (X : Stand p l e R s m args below meth c T locs cells slots) (hx : p.tables.exec = Jvm.exec) (hd : decode c.code pc = .ok (.lcmp, 1)) (k : Go p e below s T (mkF m (pc + 1) Ls (.int (XT.cmpL x y) :: rest)) Q kc ks) : Go p e below s T (mkF m pc Ls (.long y :: .long x :: rest)) Q kc ks :=
  Go.step (fun _ => XT.lcmp X.here hx (g := mkF m pc Ls (.long y :: .long x :: rest)) rfl hd rfl) k
theorem Go.lshl {x : Int64} {y : Int32} (X : Stand p l e R s m args below meth c T locs cells slots) (hx : p.tables.exec = Jvm.exec) (hd : decode c.code pc = .ok (.lshl, 1)) (k : Go p e below s T (mkF m (pc + 1) Ls (.long (x <<< (y.toInt64 &&& 63)) :: rest)) Q kc ks) : Go p e below s T (mkF m pc Ls (.int y :: .long x :: rest)) Q kc ks :=
  Go.step (fun _ => XT.lshl X.here hx (g := mkF m pc Ls (.int y :: .long x :: rest)) rfl hd rfl) k
theorem Go.lshr {x : Int64} {y : Int32} (X : Stand p l e R s m args below meth c T locs cells slots) (hx : p.tables.exec = Jvm.exec) (hd : decode c.code pc = .ok (.lshr, 1)) (k : Go p e below s T (mkF m (pc + 1) Ls (.long (x >>> (y.toInt64 &&& 63)) :: rest)) Q kc ks) : Go p e below s T (mkF m pc Ls (.int y :: .long x :: rest)) Q kc ks :=
  Go.step (fun _ => XT.lshr X.here hx (g := mkF m pc Ls (.int y :: .long x :: rest)) rfl hd rfl) k
theorem Go.lushr {x : Int64} {y : Int32} (X : Stand p l e R s m args below meth c T locs cells slots) (hx : p.tables.exec = Jvm.exec) (hd : decode c.code pc = .ok (.lushr, 1)) (k : Go p e below s T (mkF m (pc + 1) Ls (.long (XT.ushrL x y) :: rest)) Q kc ks) : Go p e below s T (mkF m pc Ls (.int y :: .long x :: rest)) Q kc ks :=
  Go.step (fun _ => XT.lushr X.here hx (g := mkF m pc Ls (.int y :: .long x :: rest)) rfl hd rfl) k
theorem Go.i2b {x : Int32} (X : Stand p l e R s m args below meth c T locs cells slots) (hx : p.tables.exec = Jvm.exec) (hd : decode c.code pc = .ok (.i2b, 1)) (k : Go p e below s T (mkF m (pc + 1) Ls (.int (x.toInt8.toInt32) :: rest)) Q kc ks) : Go p e below s T (mkF m pc Ls (.int x :: rest)) Q kc ks :=
  Go.step (fun _ => XT.i2b X.here hx (g := mkF m pc Ls (.int x :: rest)) rfl hd rfl) k
theorem Go.i2c {x : Int32} (X : Stand p l e R s m args below meth c T locs cells slots) (hx : p.tables.exec = Jvm.exec) (hd : decode c.code pc = .ok (.i2c, 1)) (k : Go p e below s T (mkF m (pc + 1) Ls (.int (x.toUInt32.toUInt16.toUInt32.toInt32) :: rest)) Q kc ks) : Go p e below s T (mkF m pc Ls (.int x :: rest)) Q kc ks :=
  Go.step (fun _ => XT.i2c X.here hx (g := mkF m pc Ls (.int x :: rest)) rfl hd rfl) k
theorem Go.i2s {x : Int32} (X : Stand p l e R s m args below meth c T locs cells slots) (hx : p.tables.exec = Jvm.exec) (hd : decode c.code pc = .ok (.i2s, 1)) (k : Go p e below s T (mkF m (pc + 1) Ls (.int (x.toInt16.toInt32) :: rest)) Q kc ks) : Go p e below s T (mkF m pc Ls (.int x :: rest)) Q kc ks :=
  Go.step (fun _ => XT.i2s X.here hx (g := mkF m pc Ls (.int x :: rest)) rfl hd rfl) k
theorem Go.i2l {x : Int32} (X : Stand p l e R s m args below meth c T locs cells slots) (hx : p.tables.exec = Jvm.exec) (hd : decode c.code pc = .ok (.i2l, 1)) (k : Go p e below s T (mkF m (pc + 1) Ls (.long (x.toInt64) :: rest)) Q kc ks) : Go p e below s T (mkF m pc Ls (.int x :: rest)) Q kc ks :=
  Go.step (fun _ => XT.i2l X.here hx (g := mkF m pc Ls (.int x :: rest)) rfl hd rfl) k
theorem Go.ineg {x : Int32} (X : Stand p l e R s m args below meth c T locs cells slots) (hx : p.tables.exec = Jvm.exec) (hd : decode c.code pc = .ok (.ineg, 1)) (k : Go p e below s T (mkF m (pc + 1) Ls (.int (-x) :: rest)) Q kc ks) : Go p e below s T (mkF m pc Ls (.int x :: rest)) Q kc ks :=
  Go.step (fun _ => XS.ineg X.here hx (g := mkF m pc Ls (.int x :: rest)) rfl hd rfl) k
theorem Go.l2i {x : Int64} (X : Stand p l e R s m args below meth c T locs cells slots) (hx : p.tables.exec = Jvm.exec) (hd : decode c.code pc = .ok (.l2i, 1)) (k : Go p e below s T (mkF m (pc + 1) Ls (.int (x.toInt32) :: rest)) Q kc ks) : Go p e below s T (mkF m pc Ls (.long x :: rest)) Q kc ks :=
  Go.step (fun _ => XT.l2i X.here hx (g := mkF m pc Ls (.long x :: rest)) rfl hd rfl) k
theorem Go.iconst {i : Int} (X : Stand p l e R s m args below meth c T locs cells slots) (hx : p.tables.exec = Jvm.exec) (hd : decode c.code pc = .ok (.iconst i, 1)) (k : Go p e below s T (mkF m (pc + 1) Ls (.int (Int32.ofInt i) :: rest)) Q kc ks) : Go p e below s T (mkF m pc Ls rest) Q kc ks :=
  Go.step (fun _ => XS.iconst X.here hx (g := mkF m pc Ls rest) rfl hd) k
theorem Go.bipush {i : Int} (X : Stand p l e R s m args below meth c T locs cells slots) (hx : p.tables.exec = Jvm.exec) (hd : decode c.code pc = .ok (.bipush i, 2)) (k : Go p e below s T (mkF m (pc + 2) Ls (.int (Int8.ofInt i).toInt32 :: rest)) Q kc ks) : Go p e below s T (mkF m pc Ls rest) Q kc ks :=
  Go.step (fun _ => XS.bipush X.here hx (g := mkF m pc Ls rest) rfl hd) k
theorem Go.sipush {i : Int} (X : Stand p l e R s m args below meth c T locs cells slots) (hx : p.tables.exec = Jvm.exec) (hd : decode c.code pc = .ok (.sipush i, 3)) (k : Go p e below s T (mkF m (pc + 3) Ls (.int (Int16.ofInt i).toInt32 :: rest)) Q kc ks) : Go p e below s T (mkF m pc Ls rest) Q kc ks :=
  Go.step (fun _ => XS.sipush X.here hx (g := mkF m pc Ls rest) rfl hd) k
theorem Go.lconst {k0 : Fin 2} (X : Stand p l e R s m args below meth c T locs cells slots) (hx : p.tables.exec = Jvm.exec) (hd : decode c.code pc = .ok (.lconst k0, 1)) (k : Go p e below s T (mkF m (pc + 1) Ls (.long (Int64.ofNat k0) :: rest)) Q kc ks) : Go p e below s T (mkF m pc Ls rest) Q kc ks :=
  Go.step (fun _ => XT.lconst X.here hx (g := mkF m pc Ls rest) rfl hd) k
theorem Go.aconst_null (X : Stand p l e R s m args below meth c T locs cells slots) (hx : p.tables.exec = Jvm.exec) (hd : decode c.code pc = .ok (.aconst_null, 1)) (k : Go p e below s T (mkF m (pc + 1) Ls (.null :: rest)) Q kc ks) : Go p e below s T (mkF m pc Ls rest) Q kc ks :=
  Go.step (fun _ => XS.aconstNull X.here hx (g := mkF m pc Ls rest) rfl hd) k
theorem Go.iload {k0 : Nat} {v : Int32} (X : Stand p l e R s m args below meth c T locs cells slots) (hx : p.tables.exec = Jvm.exec) (hd : decode c.code pc = .ok (.iload k0, 2)) (hl : Ls[k0]? = some (.val (.int v))) (k : Go p e below s T (mkF m (pc + 2) Ls (.int v :: rest)) Q kc ks) : Go p e below s T (mkF m pc Ls rest) Q kc ks :=
  Go.step (fun _ => XS.iload X.here hx (g := mkF m pc Ls rest) rfl hd hl) k
theorem Go.iloadN {k0 : Fin 4} {v : Int32} (X : Stand p l e R s m args below meth c T locs cells slots) (hx : p.tables.exec = Jvm.exec) (hd : decode c.code pc = .ok (.iload_n k0, 1)) (hl : Ls[k0.val]? = some (.val (.int v))) (k : Go p e below s T (mkF m (pc + 1) Ls (.int v :: rest)) Q kc ks) : Go p e below s T (mkF m pc Ls rest) Q kc ks :=
  Go.step (fun _ => XS.iloadN X.here hx (g := mkF m pc Ls rest) rfl hd hl) k
theorem Go.istore {k0 : Nat} {v : Int32} {l' : Array Slot} (X : Stand p l e R s m args below meth c T locs cells slots) (hx : p.tables.exec = Jvm.exec) (hd : decode c.code pc = .ok (.istore k0, 2)) (hl : storeLocals Ls k0 (.int v) = some l') (k : Go p e below s T (mkF m (pc + 2) l' rest) Q kc ks) : Go p e below s T (mkF m pc Ls (.int v :: rest)) Q kc ks :=
  Go.step (fun _ => XS.istore X.here hx (g := mkF m pc Ls (.int v :: rest)) rfl hd rfl hl) k
theorem Go.istoreN {k0 : Fin 4} {v : Int32} {l' : Array Slot} (X : Stand p l e R s m args below meth c T locs cells slots) (hx : p.tables.exec = Jvm.exec) (hd : decode c.code pc = .ok (.istore_n k0, 1)) (hl : storeLocals Ls k0.val (.int v) = some l') (k : Go p e below s T (mkF m (pc + 1) l' rest) Q kc ks) : Go p e below s T (mkF m pc Ls (.int v :: rest)) Q kc ks :=
  Go.step (fun _ => XS.istoreN X.here hx (g := mkF m pc Ls (.int v :: rest)) rfl hd rfl hl) k
theorem Go.lload {k0 : Nat} {v : Int64} (X : Stand p l e R s m args below meth c T locs cells slots) (hx : p.tables.exec = Jvm.exec) (hd : decode c.code pc = .ok (.lload k0, 2)) (hl : Ls[k0]? = some (.val (.long v))) (k : Go p e below s T (mkF m (pc + 2) Ls (.long v :: rest)) Q kc ks) : Go p e below s T (mkF m pc Ls rest) Q kc ks :=
  Go.step (fun _ => XT.lload X.here hx (g := mkF m pc Ls rest) rfl hd hl) k
theorem Go.lloadN {k0 : Fin 4} {v : Int64} (X : Stand p l e R s m args below meth c T locs cells slots) (hx : p.tables.exec = Jvm.exec) (hd : decode c.code pc = .ok (.lload_n k0, 1)) (hl : Ls[k0.val]? = some (.val (.long v))) (k : Go p e below s T (mkF m (pc + 1) Ls (.long v :: rest)) Q kc ks) : Go p e below s T (mkF m pc Ls rest) Q kc ks :=
  Go.step (fun _ => XT.lloadN X.here hx (g := mkF m pc Ls rest) rfl hd hl) k
theorem Go.lstore {k0 : Nat} {v : Int64} {l' : Array Slot} (X : Stand p l e R s m args below meth c T locs cells slots) (hx : p.tables.exec = Jvm.exec) (hd : decode c.code pc = .ok (.lstore k0, 2)) (hl : storeLocals Ls k0 (.long v) = some l') (k : Go p e below s T (mkF m (pc + 2) l' rest) Q kc ks) : Go p e below s T (mkF m pc Ls (.long v :: rest)) Q kc ks :=
  Go.step (fun _ => XT.lstore X.here hx (g := mkF m pc Ls (.long v :: rest)) rfl hd rfl hl) k
theorem Go.lstoreN {k0 : Fin 4} {v : Int64} {l' : Array Slot} (X : Stand p l e R s m args below meth c T locs cells slots) (hx : p.tables.exec = Jvm.exec) (hd : decode c.code pc = .ok (.lstore_n k0, 1)) (hl : storeLocals Ls k0.val (.long v) = some l') (k : Go p e below s T (mkF m (pc + 1) l' rest) Q kc ks) : Go p e below s T (mkF m pc Ls (.long v :: rest)) Q kc ks :=
  Go.step (fun _ => XT.lstoreN X.here hx (g := mkF m pc Ls (.long v :: rest)) rfl hd rfl hl) k
theorem Go.aload {k0 : Nat} {v : Value} (X : Stand p l e R s m args below meth c T locs cells slots) (hx : p.tables.exec = Jvm.exec) (hd : decode c.code pc = .ok (.aload k0, 2)) (hl : Ls[k0]? = some (.val v)) (hv : v.isRef = true) (k : Go p e below s T (mkF m (pc + 2) Ls (v :: rest)) Q kc ks) : Go p e below s T (mkF m pc Ls rest) Q kc ks :=
  Go.step (fun _ => XS.aload X.here hx (g := mkF m pc Ls rest) rfl hd hl hv) k
theorem Go.aloadN {k0 : Fin 4} {v : Value} (X : Stand p l e R s m args below meth c T locs cells slots) (hx : p.tables.exec = Jvm.exec) (hd : decode c.code pc = .ok (.aload_n k0, 1)) (hl : Ls[k0.val]? = some (.val v)) (hv : v.isRef = true) (k : Go p e below s T (mkF m (pc + 1) Ls (v :: rest)) Q kc ks) : Go p e below s T (mkF m pc Ls rest) Q kc ks :=
  Go.step (fun _ => XS.aloadN X.here hx (g := mkF m pc Ls rest) rfl hd hl hv) k
theorem Go.astore {k0 : Nat} {v : Value} {l' : Array Slot} (X : Stand p l e R s m args below meth c T locs cells slots) (hx : p.tables.exec = Jvm.exec) (hd : decode c.code pc = .ok (.astore k0, 2)) (hv : v.isRef = true) (hl : storeLocals Ls k0 v = some l') (k : Go p e below s T (mkF m (pc + 2) l' rest) Q kc ks) : Go p e below s T (mkF m pc Ls (v :: rest)) Q kc ks :=
  Go.step (fun _ => XS.astore X.here hx (g := mkF m pc Ls (v :: rest)) rfl hd rfl hv hl) k
theorem Go.astoreN {k0 : Fin 4} {v : Value} {l' : Array Slot} (X : Stand p l e R s m args below meth c T locs cells slots) (hx : p.tables.exec = Jvm.exec) (hd : decode c.code pc = .ok (.astore_n k0, 1)) (hv : v.isRef = true) (hl : storeLocals Ls k0.val v = some l') (k : Go p e below s T (mkF m (pc + 1) l' rest) Q kc ks) : Go p e below s T (mkF m pc Ls (v :: rest)) Q kc ks :=
  Go.step (fun _ => XS.astoreN X.here hx (g := mkF m pc Ls (v :: rest)) rfl hd rfl hv hl) k
theorem Go.iinc {k0 : Nat} {cst : Int} {x : Int32} {l' : Array Slot} (X : Stand p l e R s m args below meth c T locs cells slots) (hx : p.tables.exec = Jvm.exec) (hd : decode c.code pc = .ok (.iinc k0 cst, 3)) (hl : Ls[k0]? = some (.val (.int x))) (hs : storeLocals Ls k0 (.int (x + Int32.ofInt cst)) = some l') (k : Go p e below s T (mkF m (pc + 3) l' rest) Q kc ks) : Go p e below s T (mkF m pc Ls rest) Q kc ks :=
  Go.step (fun _ => XS.iinc X.here hx (g := mkF m pc Ls rest) rfl hd hl hs) k
theorem Go.dup {v : Value} (X : Stand p l e R s m args below meth c T locs cells slots) (hx : p.tables.exec = Jvm.exec) (hd : decode c.code pc = .ok (.dup, 1)) (hv : v.category = 1) (k : Go p e below s T (mkF m (pc + 1) Ls (v :: v :: rest)) Q kc ks) : Go p e below s T (mkF m pc Ls (v :: rest)) Q kc ks :=
  Go.step (fun _ => XS.dup X.here hx (g := mkF m pc Ls (v :: rest)) rfl hd rfl hv) k
theorem Go.pop {v : Value} (X : Stand p l e R s m args below meth c T locs cells slots) (hx : p.tables.exec = Jvm.exec) (hd : decode c.code pc = .ok (.pop, 1)) (hv : v.category = 1) (k : Go p e below s T (mkF m (pc + 1) Ls rest) Q kc ks) : Go p e below s T (mkF m pc Ls (v :: rest)) Q kc ks :=
  Go.step (fun _ => XT.pop X.here hx (g := mkF m pc Ls (v :: rest)) rfl hd rfl hv) k
theorem Go.dup_x1 {v w : Value} (X : Stand p l e R s m args below meth c T locs cells slots) (hx : p.tables.exec = Jvm.exec) (hd : decode c.code pc = .ok (.dup_x1, 1)) (hv : v.category = 1) (hw' : w.category = 1) (k : Go p e below s T (mkF m (pc + 1) Ls (v :: w :: v :: rest)) Q kc ks) : Go p e below s T (mkF m pc Ls (v :: w :: rest)) Q kc ks :=
  Go.step (fun _ => XT.dupX1 X.here hx (g := mkF m pc Ls (v :: w :: rest)) rfl hd rfl hv hw') k
theorem Go.dup2 {v w : Value} (X : Stand p l e R s m args below meth c T locs cells slots) (hx : p.tables.exec = Jvm.exec) (hd : decode c.code pc = .ok (.dup2, 1)) (hv : v.category = 1) (hw' : w.category = 1) (k : Go p e below s T (mkF m (pc + 1) Ls (v :: w :: v :: w :: rest)) Q kc ks) : Go p e below s T (mkF m pc Ls (v :: w :: rest)) Q kc ks :=
  Go.step (fun _ => XT.dup2 X.here hx (g := mkF m pc Ls (v :: w :: rest)) rfl hd rfl hv hw') k
theorem Go.goto {o : Int} {pc' : Nat} (X : Stand p l e R s m args below meth c T locs cells slots) (hx : p.tables.exec = Jvm.exec) (hd : decode c.code pc = .ok (.goto o, 3)) (ho : 0 ≤ (pc : Int) + o) (hp : ((pc : Int) + o).toNat = pc') (k : Go p e below s T (mkF m pc' Ls rest) Q kc ks) : Go p e below s T (mkF m pc Ls rest) Q kc ks :=
  Go.step (fun _ => XS.goto X.here hx (g := mkF m pc Ls rest) rfl rfl hd ho hp) k
theorem Go.ifYes {cd : ClassFile.Cond} {x : Int32} {o : Int} {pc' : Nat} (X : Stand p l e R s m args below meth c T locs cells slots) (hx : p.tables.exec = Jvm.exec) (hd : decode c.code pc = .ok (.ifCond cd o, 3)) (hc : ifCond.holds cd x = true) (ho : 0 ≤ (pc : Int) + o) (hp : ((pc : Int) + o).toNat = pc') (k : Go p e below s T (mkF m pc' Ls rest) Q kc ks) : Go p e below s T (mkF m pc Ls (.int x :: rest)) Q kc ks :=
  Go.step (fun _ => XS.ifYes X.here hx (g := mkF m pc Ls (.int x :: rest)) rfl rfl hd rfl hc ho hp) k
theorem Go.ifNo {cd : ClassFile.Cond} {x : Int32} {o : Int} (X : Stand p l e R s m args below meth c T locs cells slots) (hx : p.tables.exec = Jvm.exec) (hd : decode c.code pc = .ok (.ifCond cd o, 3)) (hc : ifCond.holds cd x = false) (k : Go p e below s T (mkF m (pc + 3) Ls rest) Q kc ks) : Go p e below s T (mkF m pc Ls (.int x :: rest)) Q kc ks :=
  Go.step (fun _ => XS.ifNo X.here hx (g := mkF m pc Ls (.int x :: rest)) rfl hd rfl hc) k
theorem Go.icmpYes {cd : ClassFile.Cond} {x y : Int32} {o : Int} {pc' : Nat} (X : Stand p l e R s m args below meth c T locs cells slots) (hx : p.tables.exec = Jvm.exec) (hd : decode c.code pc = .ok (.if_icmp cd o, 3)) (hc : if_icmp.holds cd x y = true) (ho : 0 ≤ (pc : Int) + o) (hp : ((pc : Int) + o).toNat = pc') (k : Go p e below s T (mkF m pc' Ls rest) Q kc ks) : Go p e below s T (mkF m pc Ls (.int y :: .int x :: rest)) Q kc ks :=
  Go.step (fun _ => XS.icmpYes X.here hx (g := mkF m pc Ls (.int y :: .int x :: rest)) rfl rfl hd rfl hc ho hp) k
theorem Go.icmpNo {cd : ClassFile.Cond} {x y : Int32} {o : Int} (X : Stand p l e R s m args below meth c T locs cells slots) (hx : p.tables.exec = Jvm.exec) (hd : decode c.code pc = .ok (.if_icmp cd o, 3)) (hc : if_icmp.holds cd x y = false) (k : Go p e below s T (mkF m (pc + 3) Ls rest) Q kc ks) : Go p e below s T (mkF m pc Ls (.int y :: .int x :: rest)) Q kc ks :=
  Go.step (fun _ => XS.icmpNo X.here hx (g := mkF m pc Ls (.int y :: .int x :: rest)) rfl hd rfl hc) k
theorem Go.acmpYes {cd : ClassFile.ACond} {x y : Value} {o : Int} {pc' : Nat} (X : Stand p l e R s m args below meth c T locs cells slots) (hx : p.tables.exec = Jvm.exec) (hd : decode c.code pc = .ok (.if_acmp cd o, 3)) (h1 : x.isRef = true) (h2 : y.isRef = true) (hc : XT.acmp cd x y = true) (ho : 0 ≤ (pc : Int) + o) (hp : ((pc : Int) + o).toNat = pc') (k : Go p e below s T (mkF m pc' Ls rest) Q kc ks) : Go p e below s T (mkF m pc Ls (y :: x :: rest)) Q kc ks :=
  Go.step (fun _ => XT.acmpYes X.here hx (g := mkF m pc Ls (y :: x :: rest)) rfl rfl hd rfl h1 h2 hc ho hp) k
theorem Go.acmpNo {cd : ClassFile.ACond} {x y : Value} {o : Int} (X : Stand p l e R s m args below meth c T locs cells slots) (hx : p.tables.exec = Jvm.exec) (hd : decode c.code pc = .ok (.if_acmp cd o, 3)) (h1 : x.isRef = true) (h2 : y.isRef = true) (hc : XT.acmp cd x y = false) (k : Go p e below s T (mkF m (pc + 3) Ls rest) Q kc ks) : Go p e below s T (mkF m pc Ls (y :: x :: rest)) Q kc ks :=
  Go.step (fun _ => XT.acmpNo X.here hx (g := mkF m pc Ls (y :: x :: rest)) rfl hd rfl h1 h2 hc) k
theorem Go.ifnullYes {a : Addr} {o : Int} {pc' : Nat} (X : Stand p l e R s m args below meth c T locs cells slots) (hx : p.tables.exec = Jvm.exec) (hd : decode c.code pc = .ok (.ifnull o, 3)) (ho : 0 ≤ (pc : Int) + o) (hp : ((pc : Int) + o).toNat = pc') (k : Go p e below s T (mkF m pc' Ls rest) Q kc ks) : Go p e below s T (mkF m pc Ls (.null :: rest)) Q kc ks :=
  Go.step (fun _ => XS.ifnullYes X.here hx (g := mkF m pc Ls (.null :: rest)) rfl rfl hd rfl ho hp) k
theorem Go.ifnullNo {a : Addr} {o : Int} (X : Stand p l e R s m args below meth c T locs cells slots) (hx : p.tables.exec = Jvm.exec) (hd : decode c.code pc = .ok (.ifnull o, 3)) (k : Go p e below s T (mkF m (pc + 3) Ls rest) Q kc ks) : Go p e below s T (mkF m pc Ls (.ref a :: rest)) Q kc ks :=
  Go.step (fun _ => XS.ifnullNo X.here hx (g := mkF m pc Ls (.ref a :: rest)) rfl hd rfl) k
theorem Go.ifnonnullYes {a : Addr} {o : Int} {pc' : Nat} (X : Stand p l e R s m args below meth c T locs cells slots) (hx : p.tables.exec = Jvm.exec) (hd : decode c.code pc = .ok (.ifnonnull o, 3)) (ho : 0 ≤ (pc : Int) + o) (hp : ((pc : Int) + o).toNat = pc') (k : Go p e below s T (mkF m pc' Ls rest) Q kc ks) : Go p e below s T (mkF m pc Ls (.ref a :: rest)) Q kc ks :=
  Go.step (fun _ => XT.ifnonnullYes X.here hx (g := mkF m pc Ls (.ref a :: rest)) rfl rfl hd rfl ho hp) k
theorem Go.ifnonnullNo {a : Addr} {o : Int} (X : Stand p l e R s m args below meth c T locs cells slots) (hx : p.tables.exec = Jvm.exec) (hd : decode c.code pc = .ok (.ifnonnull o, 3)) (k : Go p e below s T (mkF m (pc + 3) Ls rest) Q kc ks) : Go p e below s T (mkF m pc Ls (.null :: rest)) Q kc ks :=
  Go.step (fun _ => XT.ifnonnullNo X.here hx (g := mkF m pc Ls (.null :: rest)) rfl hd rfl) k
end Steps
section Conds
variable {x y : Int32} {u v : Int64} {a b : Addr}
theorem ac_eq_p (h : a = b) : XT.acmp .eq (.ref a) (.ref b) = true := by simp [XT.acmp, h]
theorem ac_eq_n (h : ¬ a = b) : XT.acmp .eq (.ref a) (.ref b) = false := by simp [XT.acmp, h]
theorem ac_ne_p (h : a = b) : XT.acmp .ne (.ref a) (.ref b) = false := by simp [XT.acmp, h]
theorem ac_ne_n (h : ¬ a = b) : XT.acmp .ne (.ref a) (.ref b) = true := by simp [XT.acmp, h]
end Conds
end Jvm.OwnK
namespace Jvm.OwnK
open Sem ClassFile Op Lib Jvm.Free Jvm.Stand Jvm.LawKit Jvm.RoadKit
section Heap
variable {p : Program} {l : Launch} {e : Env} {R : Room} {s : State} {m : MethodId} {args : Array Value} {below : List Frame} {meth : Method} {c : Code} {T T' : State} {locs : List Loc} {cells slots : Nat} {Q : Option Value → Heap → List Loc → Prop} {kc ks : Nat} {Z : State} {a0 : Array Value} {h h' : Heap} {pc : Nat} {Ls : Array Slot} {rest : List Value}
theorem Go.getF {own R0 O n d : String} {index : Nat} {a : Addr} {v : Value} (X : Stand p l e R s m args below meth c T locs cells slots) (hx : p.tables.exec = Jvm.exec) (hZ : Z.Warmed39 s.vm) (hown : s.vm.findClass own = some m.cls) (w : (Jvm.Cond.fieldLink own index R0 n d).before a0 Z = true) (via : Via Z R0 O n d) (eT : T.heap = h) (F : Fld Z h a O n d v) (hd : decode c.code pc = .ok (.getfield index, 3))
    (k : ∀ T', Stand p l e R s m args below meth c T' locs cells slots → T'.heap = h → Go p e below s T' (mkF m (pc + 3) Ls (v :: rest)) Q kc ks) : Go p e below s T (mkF m pc Ls (.ref a :: rest)) Q kc ks := by
  obtain ⟨T', X', e', st⟩ := RoadKit.getF X hx hZ hown (host := "") (Or.inl w) via eT F (g := mkF m pc Ls (.ref a :: rest)) rfl rfl hd
  exact Go.step st (k T' X' e')
theorem Go.getS {own R0 O n d : String} {index : Nat} {v : Value} (X : Stand p l e R s m args below meth c T locs cells slots) (hx : p.tables.exec = Jvm.exec) (hZ : Z.Warmed39 s.vm) (hown : s.vm.findClass own = some m.cls) (w : (Jvm.Cond.fieldLink own index R0 n d).before a0 Z = true) (via : Via Z R0 O n d) (eT : T.heap = h) (F : Sta Z h O n d v) (hd : decode c.code pc = .ok (.getstatic index, 3))
    (k : ∀ T', Stand p l e R s m args below meth c T' locs cells slots → T'.heap = h → Go p e below s T' (mkF m (pc + 3) Ls (v :: rest)) Q kc ks) : Go p e below s T (mkF m pc Ls rest) Q kc ks := by
  obtain ⟨T', X', e', st⟩ := RoadKit.getS X hx hZ hown (host := "") w via eT F (g := mkF m pc Ls rest) rfl hd
  exact Go.step st (k T' X' e')
theorem Go.putF {own R0 O n d C : String} {index kk : Nat} {ty : FieldType} {a : Addr} {v old : Value} (X : Stand p l e R s m args below meth c T locs cells slots) (hx : p.tables.exec = Jvm.exec) (hZ : Z.Warmed39 s.vm) (hown : s.vm.findClass own = some m.cls) (w : (Jvm.Cond.fieldLink own index R0 n d).before a0 Z = true) (via : Via Z R0 O n d) (eT : T.heap = h) (F : Fld Z h a O n d old) (E : Exa Z h a C)
    (L : (Jvm.Cond.lays C O n d).before a0 Z = true ∨ ((Jvm.Cond.laysFinal C O n d).before a0 Z = true ∧ own = O ∧ meth.name = "<init>")) (wi : (Jvm.Cond.instantiable C kk).before a0 Z = true) (hty : parseFieldDescriptor d = some ty) (hn : narrow ty v = v) (hf : fits ty v = true) (hd : decode c.code pc = .ok (.putfield index, 3))
    (k : ∀ T' h', Stand p l e R s m args below meth c T' (locs ++ [⟨a, Jvm.RoadKit.slotOf Z O n d⟩]) cells slots → T'.heap = h' → Wr h h' a (Jvm.RoadKit.slotOf Z O n d) v → Go p e below s T' (mkF m (pc + 3) Ls rest) Q kc ks) : Go p e below s T (mkF m pc Ls (v :: .ref a :: rest)) Q kc ks := by
  obtain ⟨T', h', X', e', W, st⟩ := RoadKit.putF X hx hZ hown (host := "") (Or.inl w) via eT F E L wi hty hn hf (g := mkF m pc Ls (v :: .ref a :: rest)) rfl rfl hd
  exact Go.step st (k T' h' X' e' W)
theorem Go.initO {own : String} {idx : Nat} {W : Nat} {a : Addr} (X : Stand p l e R s m args below meth c T locs cells slots) (hx : p.tables.exec = Jvm.exec) (hZ : Z.Warmed39 s.vm) (hown : s.vm.findClass own = some m.cls) (w1 : (Jvm.Cond.methodLink own idx Lib.objectInit).before a0 Z = true) (w2 : (Jvm.Cond.instanceMethod Lib.objectInit).before a0 Z = true)
    (w3 : (Jvm.Cond.code Lib.objectInit ⟨#[0xb1]⟩ 1 none).before a0 Z = true) (eT : T.heap = h) (hd : decode c.code pc = .ok (.invokespecial idx, 3)) (hsize : Ls.size = c.maxLocals) (hW : (rest.map fun v => v.category).sum ≤ W) (hf : 1 ≤ R.frames) (hl : W + 12 ≤ R.locals)
    (k : ∀ T', Stand p l e R s m args below meth c T' locs cells slots → T'.heap = h → Go p e below s T' (mkF m (pc + 3) Ls rest) Q kc ks) : Go p e below s T (mkF m pc Ls (.ref a :: rest)) Q kc ks := by
  obtain ⟨T', X', e', st⟩ := RoadKit.initO X hx hZ hown w1 w2 w3 eT (g := mkF m pc Ls (.ref a :: rest)) rfl hsize rfl hd hf (W := W) (by show 2 * 0 + _ ≤ _; omega) hl
  exact Go.step st (k T' X' e')
theorem Go.newO {own C : String} {index n : Nat} (X : Stand p l e R s m args below meth c T locs cells slots) (hx : p.tables.exec = Jvm.exec) (hZ : Z.Warmed39 s.vm) (hown : s.vm.findClass own = some m.cls) (w : (Jvm.Cond.classLink own index C).before a0 Z = true) (wi : (Jvm.Cond.instantiable C n).before a0 Z = true) (wz : (Jvm.Cond.initialized C).before a0 Z = true) (eT : T.heap = h)
    (hd : decode c.code pc = .ok (.new index, 3)) (hc : cells + 1 ≤ R.cells) (hl : slots + n ≤ R.slots)
    (k : ∀ T' h' a, a = h.size → Stand p l e R s m args below meth c T' locs (cells + 1) (slots + n) → T'.heap = h' → Ext h h' → Exa Z h' a C → (∀ {O nm d : String} {ty : FieldType}, Laid Z a0 C O nm d → parseFieldDescriptor d = some ty → Fld Z h' a O nm d (defaultValue ty)) →
      Go p e below s T' (mkF m (pc + 3) Ls (.ref a :: rest)) Q kc ks) : Go p e below s T (mkF m pc Ls rest) Q kc ks := by
  obtain ⟨T', h', X', e', E, A, D, -, st⟩ := RoadKit.newO X hx hZ hown w wi wz eT (g := mkF m pc Ls rest) rfl hd hc hl
  exact Go.step st (k T' h' _ rfl X' e' E A D)
theorem Go.ccast {own K : String} {index : Nat} {a : Addr} (X : Stand p l e R s m args below meth c T locs cells slots) (hx : p.tables.exec = Jvm.exec) (hZ : Z.Warmed39 s.vm) (hown : s.vm.findClass own = some m.cls) (w : (Jvm.Cond.classLink own index K).before a0 Z = true) (eT : T.heap = h) (F : Ins Z h a K true) (hd : decode c.code pc = .ok (.checkcast index, 3))
    (k : ∀ T', Stand p l e R s m args below meth c T' locs cells slots → T'.heap = h → Go p e below s T' (mkF m (pc + 3) Ls (.ref a :: rest)) Q kc ks) : Go p e below s T (mkF m pc Ls (.ref a :: rest)) Q kc ks := by
  obtain ⟨T', X', e', st⟩ := castY X hx hZ hown w eT F (g := mkF m pc Ls (.ref a :: rest)) rfl rfl hd
  exact Go.step st (k T' X' e')
theorem Go.instY {own K : String} {index : Nat} {a : Addr} (X : Stand p l e R s m args below meth c T locs cells slots) (hx : p.tables.exec = Jvm.exec) (hZ : Z.Warmed39 s.vm) (hown : s.vm.findClass own = some m.cls) (w : (Jvm.Cond.classLink own index K).before a0 Z = true) (eT : T.heap = h) (F : Ins Z h a K true) (hd : decode c.code pc = .ok (.instanceof index, 3))
    (k : ∀ T', Stand p l e R s m args below meth c T' locs cells slots → T'.heap = h → Go p e below s T' (mkF m (pc + 3) Ls (.int 1 :: rest)) Q kc ks) : Go p e below s T (mkF m pc Ls (.ref a :: rest)) Q kc ks := by
  obtain ⟨T', X', e', st⟩ := RoadKit.instY X hx hZ hown w eT F (g := mkF m pc Ls (.ref a :: rest)) rfl rfl hd
  exact Go.step st (k T' X' e')
theorem Go.instNull {index : Nat} (X : Stand p l e R s m args below meth c T locs cells slots) (hx : p.tables.exec = Jvm.exec) (hd : decode c.code pc = .ok (.instanceof index, 3))
    (k : Go p e below s T (mkF m (pc + 3) Ls (.int 0 :: rest)) Q kc ks) : Go p e below s T (mkF m pc Ls (.null :: rest)) Q kc ks :=
  Go.step (X.instanceofNull hx (g := mkF m pc Ls (.null :: rest)) rfl rfl hd) k
theorem Go.instNo {own K C : String} {index : Nat} {a : Addr} (X : Stand p l e R s m args below meth c T locs cells slots) (hx : p.tables.exec = Jvm.exec) (hZ : Z.Warmed39 s.vm) (hown : s.vm.findClass own = some m.cls) (w : (Jvm.Cond.classLink own index K).before a0 Z = true) (eT : T.heap = h) (E : Exa Z h a C) (F : ∃ c t, Z.vm.findClass C = some c ∧ Z.vm.findClass K = some t ∧ Z.vm.assignable c t = false) (hd : decode c.code pc = .ok (.instanceof index, 3))
    (k : ∀ T', Stand p l e R s m args below meth c T' locs cells slots → T'.heap = h → Go p e below s T' (mkF m (pc + 3) Ls (.int 0 :: rest)) Q kc ks) : Go p e below s T (mkF m pc Ls (.ref a :: rest)) Q kc ks := by
  obtain ⟨T', X', e', st⟩ := RoadKit.instNo X hx hZ hown w eT E F (g := mkF m pc Ls (.ref a :: rest)) rfl rfl hd
  exact Go.step st (k T' X' e')
/-- an array: its class, length n, its component i is f i -/
def Af (Z : State) (h : Heap) (a : Addr) (k : ClassId) (ty : FieldType) (n : Nat) (f : Nat → Value) : Prop := ∃ c : Cell, Arr Z h a c ty ∧ c.cls = k ∧ c.slots.size = n ∧ n < 2 ^ 31 ∧ ∀ i, i < n → c.slots[i]? = some (f i)
def updV (f : Nat → Value) (j : Nat) (v : Value) : Nat → Value := fun i => if i = j then v else f i
variable {a b : Addr} {cid : ClassId} {ty : FieldType} {n : Nat} {f f' : Nat → Value} {ws : List Addr} {sl : Nat} {v : Value}
theorem Af.lt (F : Af Z h a cid ty n f) : a < h.size := by obtain ⟨_, A, -⟩ := F; exact A.lt
theorem Af.ext (E : Ext h h') (F : Af Z h a cid ty n f) : Af Z h' a cid ty n f := by obtain ⟨cl, A, r⟩ := F; exact ⟨cl, A.ext E, r⟩
theorem Af.other (W : Wr h h' b sl v) (F : Af Z h a cid ty n f) (q : a ≠ b) : Af Z h' a cid ty n f := by obtain ⟨cl, A, r⟩ := F; exact ⟨cl, A.other W q, r⟩
theorem Af.keep (F : Af Z h a cid ty n f) (K : Keep h h' ws) (q : a ∉ ws) : Af Z h' a cid ty n f := by obtain ⟨cl, A, r⟩ := F; exact ⟨cl, ⟨K.2.1 a cl A.1 q, A.2⟩, r⟩
theorem Af.congr (F : Af Z h a cid ty n f) (q : ∀ i, i < n → f' i = f i) : Af Z h a cid ty n f' := by obtain ⟨cl, A, r1, r2, r3, r4⟩ := F; exact ⟨cl, A, r1, r2, r3, fun i hi => by rw [q i hi]; exact r4 i hi⟩
theorem Af.set (F : Af Z h a cid ty n f) (W : Wr h h' a sl v) : Af Z h' a cid ty n (updV f sl v) := by
  obtain ⟨cl, A, r1, r2, r3, r4⟩ := F
  refine ⟨_, A.same W, r1, by rw [sz_set]; exact r2, r3, fun i hi => ?_⟩
  by_cases q : i = sl
  · subst q; simp [updV, Cell.setSlot, r2, hi]
  · simp only [updV, if_neg q]; rw [← r4 i hi]; simp [Cell.setSlot, Array.getElem?_setIfInBounds, Ne.symm q]
theorem Af.arv (A : Arr Z h a (newA cid ty z) ty) (q : ¬ z < 0) : Af Z h a cid ty z.toNatClampNeg (fun _ => defaultValue ty) :=
  ⟨_, A, rfl, sz_new _ _ _, by have := (back32 q).2; exact this, fun i hi => by simp [newA, hi]⟩
def updI (g : Nat → Int32) (j : Nat) (v : Int32) : Nat → Int32 := fun i => if i = j then v else g i
def updJ (g : Nat → Int64) (j : Nat) (v : Int64) : Nat → Int64 := fun i => if i = j then v else g i
theorem Af.updI {g : Nat → Int32} {j : Nat} {x : Int32} (A : Af Z h a cid ty n (updV (fun i => Value.int (g i)) j (.int x))) : Af Z h a cid ty n (fun i => Value.int (Jvm.OwnK.updI g j x i)) :=
  A.congr fun i _ => by simp only [Jvm.OwnK.updI, updV]; split <;> rfl
theorem Af.updJ {g : Nat → Int64} {j : Nat} {x : Int64} (A : Af Z h a cid ty n (updV (fun i => Value.long (g i)) j (.long x))) : Af Z h a cid ty n (fun i => Value.long (Jvm.OwnK.updJ g j x i)) :=
  A.congr fun i _ => by simp only [Jvm.OwnK.updJ, updV]; split <;> rfl
theorem in_of {cl : Cell} {j : Int32} (r2 : cl.slots.size = n) (h1 : ¬ j < 0) (h2 : j.toNatClampNeg < n) : ¬ (j < 0 ∨ cl.slots.size ≤ j.toNatClampNeg) := fun q => q.elim h1 fun z => by omega
theorem Go.alen (X : Stand p l e R s m args below meth c T locs cells slots) (hx : p.tables.exec = Jvm.exec) (hZ : Z.Warmed39 s.vm) (eT : T.heap = h) (A : Af Z h a cid ty n f) (hd : decode c.code pc = .ok (.arraylength, 1)) (k : Go p e below s T (mkF m (pc + 1) Ls (.int n.toInt32 :: rest)) Q kc ks) : Go p e below s T (mkF m pc Ls (.ref a :: rest)) Q kc ks := by
  obtain ⟨cl, A1, -, r2, -⟩ := A
  subst r2
  exact Go.step (fun target => X.arraylength hx (by rw [eT]; exact A1.1) (State.isArrayOf_alike hZ.alike A1.2.1) (g := mkF m pc Ls (.ref a :: rest)) rfl rfl hd target) k
theorem Go.iaload {j : Int32} (X : Stand p l e R s m args below meth c T locs cells slots) (hx : p.tables.exec = Jvm.exec) (hZ : Z.Warmed39 s.vm) (eT : T.heap = h) (A : Af Z h a cid .int n f) (h1 : ¬ j < 0) (h2 : j.toNatClampNeg < n) (hd : decode c.code pc = .ok (.iaload, 1)) (k : Go p e below s T (mkF m (pc + 1) Ls (f j.toNatClampNeg :: rest)) Q kc ks) : Go p e below s T (mkF m pc Ls (.int j :: .ref a :: rest)) Q kc ks := by
  obtain ⟨cl, A1, -, r2, -, r4⟩ := A
  exact Go.step (fun target => X.iaload hx (by rw [eT]; exact A1.1) (State.isArrayOf_alike hZ.alike A1.2.1) A1.2.2 (in_of r2 h1 h2) (r4 _ h2) (g := mkF m pc Ls (.int j :: .ref a :: rest)) rfl rfl hd target) k
theorem Go.laload {j : Int32} (X : Stand p l e R s m args below meth c T locs cells slots) (hx : p.tables.exec = Jvm.exec) (hZ : Z.Warmed39 s.vm) (eT : T.heap = h) (A : Af Z h a cid .long n f) (h1 : ¬ j < 0) (h2 : j.toNatClampNeg < n) (hd : decode c.code pc = .ok (.laload, 1)) (k : Go p e below s T (mkF m (pc + 1) Ls (f j.toNatClampNeg :: rest)) Q kc ks) : Go p e below s T (mkF m pc Ls (.int j :: .ref a :: rest)) Q kc ks := by
  obtain ⟨cl, A1, -, r2, -, r4⟩ := A
  exact Go.step (fun target => X.laload hx (by rw [eT]; exact A1.1) (State.isArrayOf_alike hZ.alike A1.2.1) A1.2.2 (in_of r2 h1 h2) (r4 _ h2) (g := mkF m pc Ls (.int j :: .ref a :: rest)) rfl rfl hd target) k
theorem Go.caload {j : Int32} (X : Stand p l e R s m args below meth c T locs cells slots) (hx : p.tables.exec = Jvm.exec) (hZ : Z.Warmed39 s.vm) (eT : T.heap = h) (A : Af Z h a cid .char n f) (h1 : ¬ j < 0) (h2 : j.toNatClampNeg < n) (hd : decode c.code pc = .ok (.caload, 1)) (k : Go p e below s T (mkF m (pc + 1) Ls (f j.toNatClampNeg :: rest)) Q kc ks) : Go p e below s T (mkF m pc Ls (.int j :: .ref a :: rest)) Q kc ks := by
  obtain ⟨cl, A1, -, r2, -, r4⟩ := A
  exact Go.step (fun target => X.caload hx (by rw [eT]; exact A1.1) (State.isArrayOf_alike hZ.alike A1.2.1) A1.2.2 (in_of r2 h1 h2) (r4 _ h2) (g := mkF m pc Ls (.int j :: .ref a :: rest)) rfl rfl hd target) k
theorem Go.aaload {j : Int32} (X : Stand p l e R s m args below meth c T locs cells slots) (hx : p.tables.exec = Jvm.exec) (hZ : Z.Warmed39 s.vm) (eT : T.heap = h) (A : Af Z h a cid ty n f) (hty : ty.isReference = true) (h1 : ¬ j < 0) (h2 : j.toNatClampNeg < n) (hd : decode c.code pc = .ok (.aaload, 1)) (k : Go p e below s T (mkF m (pc + 1) Ls (f j.toNatClampNeg :: rest)) Q kc ks) : Go p e below s T (mkF m pc Ls (.int j :: .ref a :: rest)) Q kc ks := by
  obtain ⟨cl, A1, -, r2, -, r4⟩ := A
  exact Go.step (fun target => X.aaload hx (by rw [eT]; exact A1.1) (State.isArrayOf_alike hZ.alike A1.2.1) hty A1.2.2 (in_of r2 h1 h2) (r4 _ h2) (g := mkF m pc Ls (.int j :: .ref a :: rest)) rfl rfl hd target) k
theorem Go.baloadB {j : Int32} (X : Stand p l e R s m args below meth c T locs cells slots) (hx : p.tables.exec = Jvm.exec) (hZ : Z.Warmed39 s.vm) (eT : T.heap = h) (A : Af Z h a cid .byte n f) (h1 : ¬ j < 0) (h2 : j.toNatClampNeg < n) (hd : decode c.code pc = .ok (.baload, 1)) (k : Go p e below s T (mkF m (pc + 1) Ls (f j.toNatClampNeg :: rest)) Q kc ks) : Go p e below s T (mkF m pc Ls (.int j :: .ref a :: rest)) Q kc ks := by
  obtain ⟨cl, A1, -, r2, -, r4⟩ := A
  exact Go.step (fun target => X.baloadBytes hx (by rw [eT]; exact A1.1) (State.isArrayOf_alike hZ.alike A1.2.1) A1.2.2 (in_of r2 h1 h2) (r4 _ h2) (g := mkF m pc Ls (.int j :: .ref a :: rest)) rfl rfl hd target) k
theorem Go.baloadZ {j : Int32} (X : Stand p l e R s m args below meth c T locs cells slots) (hx : p.tables.exec = Jvm.exec) (hZ : Z.Warmed39 s.vm) (eT : T.heap = h) (A : Af Z h a cid .boolean n f) (h1 : ¬ j < 0) (h2 : j.toNatClampNeg < n) (hd : decode c.code pc = .ok (.baload, 1)) (k : Go p e below s T (mkF m (pc + 1) Ls (f j.toNatClampNeg :: rest)) Q kc ks) : Go p e below s T (mkF m pc Ls (.int j :: .ref a :: rest)) Q kc ks := by
  obtain ⟨cl, A1, -, r2, -, r4⟩ := A
  exact Go.step (fun target => X.baloadBooleans hx (by rw [eT]; exact A1.1) (State.isArrayOf_alike hZ.alike A1.2.1) A1.2.2 (in_of r2 h1 h2) (r4 _ h2) (g := mkF m pc Ls (.int j :: .ref a :: rest)) rfl rfl hd target) k
theorem Go.iastore {j x : Int32} (X : Stand p l e R s m args below meth c T locs cells slots) (hx : p.tables.exec = Jvm.exec) (hZ : Z.Warmed39 s.vm) (eT : T.heap = h) (A : Af Z h a cid .int n f) (h1 : ¬ j < 0) (h2 : j.toNatClampNeg < n) (hd : decode c.code pc = .ok (.iastore, 1))
    (k : ∀ T' h', Stand p l e R s m args below meth c T' (locs ++ [⟨a, j.toNatClampNeg⟩]) cells slots → T'.heap = h' → Wr h h' a j.toNatClampNeg (.int x) → Af Z h' a cid .int n (updV f j.toNatClampNeg (.int x)) → Go p e below s T' (mkF m (pc + 1) Ls rest) Q kc ks) : Go p e below s T (mkF m pc Ls (.int x :: .int j :: .ref a :: rest)) Q kc ks := by
  have A' := A
  obtain ⟨cl, A1, -, r2, -, r4⟩ := A
  obtain ⟨T', h', X', e', W, st⟩ := stI X hx hZ eT A1 (in_of r2 h1 h2) (g := mkF m pc Ls (.int x :: .int j :: .ref a :: rest)) rfl rfl hd
  exact Go.step st (k T' h' X' e' W (A'.set W))
theorem Go.lastore {j : Int32} {x : Int64} (X : Stand p l e R s m args below meth c T locs cells slots) (hx : p.tables.exec = Jvm.exec) (hZ : Z.Warmed39 s.vm) (eT : T.heap = h) (A : Af Z h a cid .long n f) (h1 : ¬ j < 0) (h2 : j.toNatClampNeg < n) (hd : decode c.code pc = .ok (.lastore, 1))
    (k : ∀ T' h', Stand p l e R s m args below meth c T' (locs ++ [⟨a, j.toNatClampNeg⟩]) cells slots → T'.heap = h' → Wr h h' a j.toNatClampNeg (.long x) → Af Z h' a cid .long n (updV f j.toNatClampNeg (.long x)) → Go p e below s T' (mkF m (pc + 1) Ls rest) Q kc ks) : Go p e below s T (mkF m pc Ls (.long x :: .int j :: .ref a :: rest)) Q kc ks := by
  have A' := A
  obtain ⟨cl, A1, -, r2, -, r4⟩ := A
  obtain ⟨T', h', X', e', W, st⟩ := stJ X hx hZ eT A1 (in_of r2 h1 h2) (g := mkF m pc Ls (.long x :: .int j :: .ref a :: rest)) rfl rfl hd
  exact Go.step st (k T' h' X' e' W (A'.set W))
theorem Go.bastoreB {j x : Int32} (X : Stand p l e R s m args below meth c T locs cells slots) (hx : p.tables.exec = Jvm.exec) (hZ : Z.Warmed39 s.vm) (eT : T.heap = h) (A : Af Z h a cid .byte n f) (h1 : ¬ j < 0) (h2 : j.toNatClampNeg < n) (hd : decode c.code pc = .ok (.bastore, 1))
    (k : ∀ T' h', Stand p l e R s m args below meth c T' (locs ++ [⟨a, j.toNatClampNeg⟩]) cells slots → T'.heap = h' → Wr h h' a j.toNatClampNeg (.int x.toInt8.toInt32) → Af Z h' a cid .byte n (updV f j.toNatClampNeg (.int x.toInt8.toInt32)) → Go p e below s T' (mkF m (pc + 1) Ls rest) Q kc ks) : Go p e below s T (mkF m pc Ls (.int x :: .int j :: .ref a :: rest)) Q kc ks := by
  have A' := A
  obtain ⟨cl, A1, -, r2, -, r4⟩ := A
  obtain ⟨T', h', X', e', W, st⟩ := stB X hx hZ eT A1 (in_of r2 h1 h2) (g := mkF m pc Ls (.int x :: .int j :: .ref a :: rest)) rfl rfl hd
  exact Go.step st (k T' h' X' e' W (A'.set W))
theorem Go.bastoreZ {j x : Int32} (X : Stand p l e R s m args below meth c T locs cells slots) (hx : p.tables.exec = Jvm.exec) (hZ : Z.Warmed39 s.vm) (eT : T.heap = h) (A : Af Z h a cid .boolean n f) (h1 : ¬ j < 0) (h2 : j.toNatClampNeg < n) (hd : decode c.code pc = .ok (.bastore, 1))
    (k : ∀ T' h', Stand p l e R s m args below meth c T' (locs ++ [⟨a, j.toNatClampNeg⟩]) cells slots → T'.heap = h' → Wr h h' a j.toNatClampNeg (.int (nar .boolean x)) → Af Z h' a cid .boolean n (updV f j.toNatClampNeg (.int (nar .boolean x))) → Go p e below s T' (mkF m (pc + 1) Ls rest) Q kc ks) : Go p e below s T (mkF m pc Ls (.int x :: .int j :: .ref a :: rest)) Q kc ks := by
  have A' := A
  obtain ⟨cl, A1, -, r2, -, r4⟩ := A
  obtain ⟨T', h', X', e', W, st⟩ := stZ X hx hZ eT A1 (in_of r2 h1 h2) (g := mkF m pc Ls (.int x :: .int j :: .ref a :: rest)) rfl rfl hd
  exact Go.step st (k T' h' X' e' W (A'.set W))
theorem Go.castore {j x : Int32} (X : Stand p l e R s m args below meth c T locs cells slots) (hx : p.tables.exec = Jvm.exec) (hZ : Z.Warmed39 s.vm) (eT : T.heap = h) (A : Af Z h a cid .char n f) (h1 : ¬ j < 0) (h2 : j.toNatClampNeg < n) (hd : decode c.code pc = .ok (.castore, 1))
    (k : ∀ T' h', Stand p l e R s m args below meth c T' (locs ++ [⟨a, j.toNatClampNeg⟩]) cells slots → T'.heap = h' → Wr h h' a j.toNatClampNeg (.int (nar .char x)) → Af Z h' a cid .char n (updV f j.toNatClampNeg (.int (nar .char x))) → Go p e below s T' (mkF m (pc + 1) Ls rest) Q kc ks) : Go p e below s T (mkF m pc Ls (.int x :: .int j :: .ref a :: rest)) Q kc ks := by
  have A' := A
  obtain ⟨cl, A1, -, r2, -, r4⟩ := A
  obtain ⟨T', h', X', e', W, st⟩ := stC X hx hZ eT A1 (in_of r2 h1 h2) (g := mkF m pc Ls (.int x :: .int j :: .ref a :: rest)) rfl rfl hd
  exact Go.step st (k T' h' X' e' W (A'.set W))
theorem Go.aastore {j : Int32} {C : String} {y : Addr} (X : Stand p l e R s m args below meth c T locs cells slots) (hx : p.tables.exec = Jvm.exec) (hZ : Z.Warmed39 s.vm) (eT : T.heap = h) (A : Af Z h a cid ty n f) (hty : ty.isReference = true) (O : Ovr Z cid C) (I : Ins Z h y C true) (h1 : ¬ j < 0) (h2 : j.toNatClampNeg < n) (hd : decode c.code pc = .ok (.aastore, 1))
    (k : ∀ T' h', Stand p l e R s m args below meth c T' (locs ++ [⟨a, j.toNatClampNeg⟩]) cells slots → T'.heap = h' → Wr h h' a j.toNatClampNeg (.ref y) → Af Z h' a cid ty n (updV f j.toNatClampNeg (.ref y)) → Go p e below s T' (mkF m (pc + 1) Ls rest) Q kc ks) : Go p e below s T (mkF m pc Ls (.ref y :: .int j :: .ref a :: rest)) Q kc ks := by
  have A' := A
  obtain ⟨cl, A1, r1, r2, -, r4⟩ := A
  obtain ⟨T', h', X', e', W, st⟩ := stR X hx hZ eT A1 (in_of r2 h1 h2) hty (Sto.ofV A1 r1 O I) (g := mkF m pc Ls (.ref y :: .int j :: .ref a :: rest)) rfl rfl hd
  exact Go.step st (k T' h' X' e' W (A'.set W))
theorem Go.newarray {aty : ArrayType} {z : Int32} {cap : Nat} (X : Stand p l e R s m args below meth c T locs cells slots) (hx : p.tables.exec = Jvm.exec) (hZ : Z.Warmed39 s.vm) (w : (Jvm.Cond.arrayClass (newarray.typeOf aty)).before a0 Z = true) (eT : T.heap = h) (hd : decode c.code pc = .ok (.newarray aty, 2)) (hn : ¬ z < 0) (hcap : z.toNatClampNeg ≤ cap) (hb : cap * 8 ≤ 536870912) (hc : cells + 1 ≤ R.cells) (hl : slots + cap ≤ R.slots)
    (k : ∀ T' h' a cA, a = h.size → Stand p l e R s m args below meth c T' locs (cells + 1) (slots + cap) → T'.heap = h' → Ext h h' → Af Z h' a cA (newarray.typeOf aty) z.toNatClampNeg (fun _ => defaultValue (newarray.typeOf aty)) → Go p e below s T' (mkF m (pc + 2) Ls (.ref a :: rest)) Q kc ks) : Go p e below s T (mkF m pc Ls (.int z :: rest)) Q kc ks := by
  obtain ⟨T', h', cA, X', e', E, A, st⟩ := newP X hx hZ w eT (g := mkF m pc Ls (.int z :: rest)) rfl hd rfl hn hcap hb hc hl
  exact Go.step st (k T' h' _ cA rfl X' e' E (Af.arv A hn))
theorem Go.anewarray {own C : String} {index : Nat} {z : Int32} {cap : Nat} (X : Stand p l e R s m args below meth c T locs cells slots) (hx : p.tables.exec = Jvm.exec) (hZ : Z.Warmed39 s.vm) (hown : s.vm.findClass own = some m.cls) (w1 : (Jvm.Cond.classLink own index C).before a0 Z = true) (w2 : (Jvm.Cond.arrayOver (.object C)).before a0 Z = true) (eT : T.heap = h) (hd : decode c.code pc = .ok (.anewarray index, 3)) (hn : ¬ z < 0) (hcap : z.toNatClampNeg ≤ cap) (hb : cap * 8 ≤ 536870912) (hc : cells + 1 ≤ R.cells) (hl : slots + cap ≤ R.slots)
    (k : ∀ T' h' a cA, a = h.size → Stand p l e R s m args below meth c T' locs (cells + 1) (slots + cap) → T'.heap = h' → Ext h h' → Af Z h' a cA (.object C) z.toNatClampNeg (fun _ => .null) → Ovr Z cA C → Go p e below s T' (mkF m (pc + 3) Ls (.ref a :: rest)) Q kc ks) : Go p e below s T (mkF m pc Ls (.int z :: rest)) Q kc ks := by
  obtain ⟨T', h', cA, X', e', E, A, O, st⟩ := newR X hx hZ hown w1 w2 eT (g := mkF m pc Ls (.int z :: rest)) rfl hd rfl hn hcap hb hc hl
  exact Go.step st (k T' h' _ cA rfl X' e' E (Af.arv A hn) O)
theorem Go.clone {own ad : String} {index W cap : Nat} (X : Stand p l e R s m args below meth c T locs cells slots) (hx : p.tables.exec = Jvm.exec) (hZ : Z.Warmed39 s.vm) (hown : s.vm.findClass own = some m.cls)
    (w1 : (Jvm.Cond.methodLink own index ⟨ad, "clone", "()Ljava/lang/Object;"⟩).before a0 Z = true) (w2 : (Jvm.Cond.sameMethod ad "java/lang/Object" "clone" "()Ljava/lang/Object;").before a0 Z = true) (w3 : (Jvm.Cond.native ⟨"java/lang/Object", "clone", "()Ljava/lang/Object;"⟩).before a0 Z = true)
    (w4 : (Jvm.Cond.instanceMethod ⟨"java/lang/Object", "clone", "()Ljava/lang/Object;"⟩).before a0 Z = true) (w5 : (Jvm.Cond.selects ad ⟨ad, "clone", "()Ljava/lang/Object;"⟩ ⟨"java/lang/Object", "clone", "()Ljava/lang/Object;"⟩).before a0 Z = true) (w6 : (Jvm.Cond.castable ad "java/lang/Cloneable").before a0 Z = true)
    (eT : T.heap = h) (A : Af Z h a cid ty n f) (E : Exa Z h a ad) (F : ∀ cl : Cell, h[a]? = some cl → FitC Z cl) (hd : decode c.code pc = .ok (.invokevirtual index, 3)) (hsize : Ls.size = c.maxLocals) (hW : (rest.map fun v => v.category).sum ≤ W) (hf : 1 ≤ R.frames) (hl : W + 14 ≤ R.locals) (hcap : n ≤ cap) (hc : cells + 1 ≤ R.cells) (hsl : slots + cap ≤ R.slots)
    (k : ∀ T' h' b, b = h.size → Stand p l e R s m args below meth c T' locs (cells + 1) (slots + cap) → T'.heap = h' → Ext h h' → Af Z h' b cid ty n f → Exa Z h' b ad → Go p e below s T' (mkF m (pc + 3) Ls (.ref b :: rest)) Q kc ks) : Go p e below s T (mkF m pc Ls (.ref a :: rest)) Q kc ks := by
  obtain ⟨cl, A1, r1, r2, r3, r4⟩ := A
  obtain ⟨T', h', X', e', Ex, A2, E2, st⟩ := cloneA X hx hZ hown w1 w2 w3 w4 w5 w6 eT A1 E (F cl A1.1) (g := mkF m pc Ls (.ref a :: rest)) rfl hsize rfl hd hf (W := W) (cap := cap) (by show 2 * 0 + _ ≤ _; omega) hl (by rw [r2]; exact hcap) hc hsl
  exact Go.step st (k T' h' _ rfl X' e' Ex ⟨_, A2, r1, r2, r3, r4⟩ E2)
/-- the call of a private method by invokevirtual, by its contract -/
theorem Go.callP {own C : String} {index kk : Nat} {y : MethodName} {bytes : ByteArray} {maxL : Nat} {ret : Option FieldType} {rm : Room} {argsL : List Value} {Q' : Option Value → Heap → List Loc → Prop} {W : Nat} {st : List Value}
    (X : Stand p l e R s m args below meth c T locs cells slots) (hx : p.tables.exec = Jvm.exec) (hZ : Z.Warmed39 s.vm) (hown : s.vm.findClass own = some m.cls)
    (w1 : (Jvm.Cond.methodLink own index y).before a0 Z = true) (w2 : (Jvm.Cond.instanceMethod y).before a0 Z = true) (wp : (Jvm.Cond.privateMethod y).before a0 Z = true) (wi : (Jvm.Cond.instantiable y.cls kk).before a0 Z = true) (w3 : (Jvm.Cond.initialized y.cls).before a0 Z = true) (w4 : (Jvm.Cond.code y bytes maxL ret).before a0 Z = true)
    (hy : y.cls ≠ "java/lang/invoke/MethodHandle" ∧ y.cls ≠ "java/lang/invoke/VarHandle") (E : Exa Z h a C) (hM : Met l Z y bytes maxL ret [] rm (.ref a :: argsL).toArray h Q') (eT : T.heap = h)
    (hlen : ∀ sig, parseMethodDescriptor y.desc = some sig → argsL.length = sig.parameters.length) (hd : decode c.code pc = .ok (.invokevirtual index, 3)) (hsize : Ls.size = c.maxLocals) (hst : st = argsL.reverse ++ .ref a :: rest) (hW : (rest.map fun v => v.category).sum ≤ W)
    (hf : rm.frames + 1 ≤ R.frames) (hl : W + (maxL + 11) + rm.locals ≤ R.locals) (hc : cells + rm.cells ≤ R.cells) (hs : slots + rm.slots ≤ R.slots)
    (k : ∀ v T' L, Stand p l e R s m args below meth c T' (locs ++ L) (cells + rm.cells) (slots + rm.slots) → Q' v T'.heap L → Go p e below s T' (mkF m (pc + 3) Ls (v.toList ++ rest)) Q kc ks) : Go p e below s T (mkF m pc Ls st) Q kc ks := by
  have wi' : (Jvm.Cond.instantiable y.cls kk).before args s = true := mvT hZ wi
  obtain ⟨cc, kc', i1, i2, i3, i4, -⟩ := Cond.instantiable_spec wi'
  have ni : kc'.isInterface = false := by revert i4; cases kc'.isInterface <;> simp
  have hp := Cond.privateMethod_at (mvP hZ wp (args := args))
  have hsel := Jvm.Stand.selects_self_of_private i1 i2 ni hp (mvT hZ w2 (args := args)) hy
  obtain ⟨cl, q1, q2⟩ := E.cell
  obtain ⟨v, vm₁, ⟨T1, L1, k1, n1⟩, -, X1, ⟨Lc, hQ1, l1, y1, z1⟩, st1⟩ := X.privateBack hx (y := y) hown (mvT hZ w1) (mvT hZ w2) hsel hp (mvT hZ w4) hy (backOf (W := W) hM hZ w4 w3 hf hl) (g := mkF m pc Ls st) rfl hsize (Steps.refl _) (a := a) (by rw [eT]; exact q1) q2 (argsL := argsL) (rest := rest) hlen hst (by show 2 * 0 + _ ≤ _; omega) hd (fun _ _ => ⟨rfl, eT, hc, hs⟩)
  dsimp only [Pt.U, Pt.locs, Pt.cells, Pt.slots] at X1 l1 y1 z1 st1 hQ1
  subst l1 y1 z1
  exact Go.trans st1 (k v T1 Lc X1 hQ1)
/-- the call of an interface's method, by the contract of the body that the receiver's class selects -/
theorem Go.callN {own C : String} {index count : Nat} {xi y : MethodName} {bytes : ByteArray} {maxL : Nat} {ret : Option FieldType} {rm : Room} {argsL : List Value} {Q' : Option Value → Heap → List Loc → Prop} {W : Nat} {st : List Value}
    (X : Stand p l e R s m args below meth c T locs cells slots) (hx : p.tables.exec = Jvm.exec) (hZ : Z.Warmed39 s.vm) (hown : s.vm.findClass own = some m.cls)
    (w1 : (Jvm.Cond.methodLink own index xi).before a0 Z = true) (w2 : (Jvm.Cond.declares xi).before a0 Z = true) (w5 : (Jvm.Cond.interfaceMethod xi.cls xi.cls xi.name xi.desc).before a0 Z = true) (w6 : (Jvm.Cond.selects C xi y).before a0 Z = true) (w7 : (Jvm.Cond.instanceMethod y).before a0 Z = true) (w8 : (Jvm.Cond.publicMethod y).before a0 Z = true) (w9 : (Jvm.Cond.unhidden C xi.name xi.desc).before a0 Z = true) (w10 : (Jvm.Cond.castable C xi.cls).before a0 Z = true)
    (w3 : (Jvm.Cond.initialized y.cls).before a0 Z = true) (w4 : (Jvm.Cond.code y bytes maxL ret).before a0 Z = true) (hy : xi.cls ≠ "java/lang/invoke/MethodHandle" ∧ xi.cls ≠ "java/lang/invoke/VarHandle") (k5 : ((Jvm.Cond.interfaceMethod xi.cls xi.cls xi.name xi.desc).onTables && (Jvm.Cond.interfaceMethod xi.cls xi.cls xi.name xi.desc).keepsFace) = true) (E : Exa Z h a C) (hM : Met l Z y bytes maxL ret [] rm (.ref a :: argsL).toArray h Q') (eT : T.heap = h)
    (hlen : ∀ sig, parseMethodDescriptor xi.desc = some sig → argsL.length = sig.parameters.length) (hd : decode c.code pc = .ok (.invokeinterface index count, 5)) (hsize : Ls.size = c.maxLocals) (hst : st = argsL.reverse ++ .ref a :: rest) (hW : (rest.map fun v => v.category).sum ≤ W)
    (hf : rm.frames + 1 ≤ R.frames) (hl : W + (maxL + 11) + rm.locals ≤ R.locals) (hc : cells + rm.cells ≤ R.cells) (hs : slots + rm.slots ≤ R.slots)
    (k : ∀ v T' L, Stand p l e R s m args below meth c T' (locs ++ L) (cells + rm.cells) (slots + rm.slots) → Q' v T'.heap L → Go p e below s T' (mkF m (pc + 5) Ls (v.toList ++ rest)) Q kc ks) : Go p e below s T (mkF m pc Ls st) Q kc ks := by
  obtain ⟨cB, kB, q1, q2, q3⟩ := isOf hZ eT E
  obtain ⟨v, vm₁, ⟨T1, L1, k1, n1⟩, -, X1, ⟨Lc, hQ1, l1, y1, z1⟩, st1⟩ := X.interfaceBack hx (xi := xi) (y := y) hown (mvT hZ w1) (mvT hZ w2) (mvT hZ w5 k5) (mvT hZ w6) (mvT hZ w7) (mvT hZ w8) (mvT hZ w9) (mvT hZ w10) hy (backOf (W := W) hM hZ w4 w3 hf hl) q1 q2 q3 (g := mkF m pc Ls st) rfl hsize (Steps.refl _) (argsL := argsL) (rest := rest) hlen hst (by show 2 * 0 + _ ≤ _; omega) hd (fun _ _ => ⟨rfl, eT, hc, hs⟩)
  dsimp only [Pt.U, Pt.locs, Pt.cells, Pt.slots] at X1 l1 y1 z1 st1 hQ1
  subst l1 y1 z1
  exact Go.trans st1 (k v T1 Lc X1 hQ1)
def cpf (f f' : Nat → Value) (sp dp nn : Nat) : Nat → Value := fun i => if dp ≤ i ∧ i < dp + nn then f (sp + (i - dp)) else f' i
theorem getD_range {i : Nat} (hi : i < n) (d : Value) : ((List.range n).map f).getD i d = f i := by simp [List.getD_eq_getElem?_getD, hi]
theorem Af.toArv (F : Af Z h a cid ty n f) (hf : ∀ i, i < n → fits ty (f i) = true) : Arv Z h a cid ty n.toInt32 ((List.range n).map f) .null := by
  obtain ⟨cl, A, r1, r2, r3, r4⟩ := F
  have z : (n.toInt32).toNatClampNeg = n := by simp only [Int32.toNatClampNeg, len_toInt r3]; rfl
  refine ⟨cl, A, r1, by rw [r2, z], ?_, fun i hi => ?_, fun i hi => ?_⟩
  · rw [Int32.lt_iff_toInt_lt, len_toInt r3]; show ¬ (n : Int) < 0; omega
  · rw [getD_range (by omega)]; exact r4 i (by omega)
  · rw [getD_range (by omega)]; exact hf i (by omega)
theorem Af.ofArv {z : Int32} {vs : List Value} {d : Value} (F : Arv Z h a cid ty z vs d) : Af Z h a cid ty z.toNatClampNeg (fun i => vs.getD i d) := by
  obtain ⟨cl, A, r1, r2, r3, H, G⟩ := F
  exact ⟨cl, A, r1, r2, (back32 r3).2, fun i hi => H i (by omega)⟩
theorem cp_at {n' sp dp nn i : Nat} (hi : i < n') (h4 : sp + nn ≤ n) (h5 : dp + nn ≤ n') :
    ((((List.range n').map f').take dp) ++ ((List.range nn).map fun i => ((List.range n).map f).getD (sp + i) .null) ++ (((List.range n').map f').drop (dp + nn))).getD i .null = cpf f f' sp dp nn i := by
  have lt : (((List.range n').map f').take dp).length = dp := by simp; omega
  have lu : ((List.range nn).map fun i => ((List.range n).map f).getD (sp + i) .null).length = nn := by simp
  rw [List.getD_eq_getElem?_getD]
  unfold cpf
  by_cases h1 : i < dp
  · rw [List.append_assoc, List.getElem?_append_left (by omega), if_neg (by omega)]
    simp [List.getElem?_take, h1, hi]
  · by_cases h2 : i < dp + nn
    · rw [List.getElem?_append_left (by rw [List.length_append]; omega), List.getElem?_append_right (by omega), if_pos ⟨by omega, h2⟩, lt]
      have h3 : i - dp < nn := by omega
      have h6 : sp + (i - dp) < n := by omega
      simp [h3, List.getD_eq_getElem?_getD, h6]
    · rw [List.getElem?_append_right (by rw [List.length_append]; omega), if_neg (by omega), List.length_append, lt, lu]
      have h3 : dp + nn + (i - (dp + nn)) = i := by omega
      simp [List.getElem?_drop, h3, hi]
theorem Go.acopy {own : String} {index W n0 n' : Nat} {b : Addr} {cid' : ClassId} {sp dp nn : Int32} (X : Stand p l e R s m args below meth c T locs cells slots) (hx : p.tables.exec = Jvm.exec) (hZ : Z.Warmed39 s.vm) (hown : s.vm.findClass own = some m.cls)
    (w1 : (Jvm.Cond.methodLink own index ⟨"java/lang/System", "arraycopy", "(Ljava/lang/Object;ILjava/lang/Object;II)V"⟩).before a0 Z = true) (w2 : (Jvm.Cond.native ⟨"java/lang/System", "arraycopy", "(Ljava/lang/Object;ILjava/lang/Object;II)V"⟩).before a0 Z = true) (w3 : (Jvm.Cond.static ⟨"java/lang/System", "arraycopy", "(Ljava/lang/Object;ILjava/lang/Object;II)V"⟩).before a0 Z = true) (w4 : (Jvm.Cond.initialized "java/lang/System").before a0 Z = true)
    (eT : T.heap = h) (A : Af Z h a cid ty n f) (B : Af Z h b cid' ty n' f') (hty : refKind ty = false) (hfa : ∀ i, i < n → fits ty (f i) = true) (hfb : ∀ i, i < n' → fits ty (f' i) = true) (h1 : ¬ sp < 0) (h2 : ¬ dp < 0) (h3 : ¬ nn < 0) (h4 : sp.toNatClampNeg + nn.toNatClampNeg ≤ n) (h5 : dp.toNatClampNeg + nn.toNatClampNeg ≤ n')
    (N : Fr n0 locs) (ge : n0 ≤ b) (hd : decode c.code pc = .ok (.invokestatic index, 3)) (hsize : Ls.size = c.maxLocals) (hW : (rest.map fun v => v.category).sum ≤ W) (hf : 1 ≤ R.frames) (hl : W + 18 ≤ R.locals)
    (k : ∀ T' h' L, Stand p l e R s m args below meth c T' L cells slots → T'.heap = h' → Fr n0 L → Keep h h' [b] → Af Z h' b cid' ty n' (cpf f f' sp.toNatClampNeg dp.toNatClampNeg nn.toNatClampNeg) → Go p e below s T' (mkF m (pc + 3) Ls rest) Q kc ks) : Go p e below s T (mkF m pc Ls (.int nn :: .int dp :: .ref b :: .int sp :: .ref a :: rest)) Q kc ks := by
  have za : (n.toInt32).toNatClampNeg = n := by obtain ⟨_, _, _, _, r3, _⟩ := A; simp only [Int32.toNatClampNeg, len_toInt r3]; rfl
  have zb : (n'.toInt32).toNatClampNeg = n' := by obtain ⟨_, _, _, _, r3, _⟩ := B; simp only [Int32.toNatClampNeg, len_toInt r3]; rfl
  obtain ⟨T', h', L, X', e', NL, K, V, st⟩ := cpA X hx hZ hown w1 w2 w3 w4 eT (A.toArv hfa) (B.toArv hfb) (Or.inl ⟨rfl, hty⟩) h1 h2 h3 (by rw [za]; exact h4) (by rw [zb]; exact h5) rfl (by simp; exact h5) N ge (g := mkF m pc Ls (.int nn :: .int dp :: .ref b :: .int sp :: .ref a :: rest)) rfl hsize rfl hd hf (W := W) (by show 2 * 0 + _ ≤ _; omega) (by show W + (7 + 11) ≤ _; omega)
  have V' := Af.ofArv V
  rw [zb] at V'
  exact Go.step st (k T' h' L X' e' NL K (V'.congr fun i hi => (cp_at hi h4 h5).symm))
theorem Keep.wr1 {ha hb hc : Heap} {ws : List Addr} {a : Addr} {sl : Nat} {v : Value} (K : Keep ha hb ws) (W : Wr hb hc a sl v) (q : a ∈ ws ∨ ha.size ≤ a) : Keep ha hc ws := Jvm.RoadKit.Keep.wr K W q
end Heap
end Jvm.OwnK
namespace Jvm.OwnK
open Sem ClassFile Op Lib Jvm.Free Jvm.Stand Jvm.LawKit Jvm.RoadKit
section Start
variable {s : State} {args : Array Value}
theorem st_static {C f d K : String} (h : (Jvm.Cond.exactly (Jvm.Term.static C f d) K).value args s none s [] = some true) (hi : (Jvm.Cond.initializedFor C f d).before args s = true ∨ ((Jvm.Cond.initialized C).before args s = true ∧ (Jvm.Cond.laysStatic C f d).before args s = true)) :
    ∃ g, (Jvm.Term.static C f d).eval args s none [] s = some (.ref g) ∧ Sta s s.heap C f d (.ref g) ∧ Exa s s.heap g K := by
  obtain ⟨g, eg⟩ := exa_v h
  exact ⟨g, eg, Sta.start eg hi, Exa.start eg h⟩
theorem st_int {t : Jvm.Term} {k : Int32} (h : (Jvm.Cond.eq t (.int k)).value args s none s [] = some true) : t.eval args s none [] s = some (.int k) := by
  obtain ⟨x, y, ha, hb, k1, k2⟩ := cmp_v (Or.inl h)
  have hb' : (Jvm.Term.int k).eval args s none [] s = some (.int k) := Term.int_eval k
  cases hb.symm.trans hb'
  obtain ⟨z, rfl⟩ := k2
  have q := gotT (Cond.eq_ints ha hb') h
  rw [ha, q]
theorem st_ref {t u : Jvm.Term} {g : Addr} (h : (Jvm.Cond.eq t u).value args s none s [] = some true) (hu : u.eval args s none [] s = some (.ref g)) : t.eval args s none [] s = some (.ref g) := by
  obtain ⟨x, y, ha, hb, k1, k2⟩ := cmp_v (Or.inl h)
  cases hb.symm.trans hu
  have hx : x.isRef = true := k2.2
  have q := gotT (eq_R ha hu hx rfl) h
  rw [ha, q]
theorem st_fieldI {t : Jvm.Term} {a : Addr} {C n d : String} {k : Int32} (ev : t.eval args s none [] s = some (.ref a)) (h : (Jvm.Cond.eq (.field t C n d) (.int k)).value args s none s [] = some true) : Fld s s.heap a C n d (.int k) :=
  Fld.start (by rw [← fld_at ev]; exact st_int h)
theorem st_fieldR {t : Jvm.Term} {a : Addr} {C n d K : String} (ev : t.eval args s none [] s = some (.ref a)) (h : (Jvm.Cond.exactly (.field t C n d) K).value args s none s [] = some true) :
    ∃ g, (Jvm.Term.field t C n d).eval args s none [] s = some (.ref g) ∧ Fld s s.heap a C n d (.ref g) ∧ Exa s s.heap g K := by
  obtain ⟨g, eg⟩ := exa_v h
  exact ⟨g, eg, Fld.start (by rw [← fld_at ev]; exact eg), Exa.start eg h⟩
/-- an array that stood before the law, with its length -/
theorem st_arr {t : Jvm.Term} {a : Addr} {ty : FieldType} {k : Int32} {n : Nat} (ev : t.eval args s none [] s = some (.ref a)) (h : (Jvm.Cond.arrayOf t ty).value args s none s [] = some true) (hl : (Jvm.Cond.eq (.length t) (.int k)).value args s none s [] = some true) (hk : k = n.toInt32) (hn : n < 2 ^ 31) :
    ∃ c : Cell, s.heap[a]? = some c ∧ Af s s.heap a c.cls ty n (fun i => (c.slots[i]?).getD .null) := by
  obtain ⟨c, A⟩ := Arr.start ev h
  have e1 := st_int hl
  obtain ⟨a', cell, g1, g2, g5, g3⟩ := Jvm.Lib.length_spec e1
  cases ev.symm.trans g1
  have g4 : s.arrayAt? a = some c := A.fin (Vm.Alike.refl _)
  cases g4.symm.trans g2
  injection g3 with g3
  have g6 : c.slots.size = n := by
    have q : (c.slots.size.toInt32).toInt = (n.toInt32).toInt := by rw [← g3, hk]
    rw [len_toInt g5, len_toInt hn] at q
    omega
  refine ⟨c, A.1, c, A, rfl, g6, hn, fun i hi => ?_⟩
  have q : i < c.slots.size := by omega
  simp [Array.getElem?_eq_getElem q]
theorem st_elem {t : Jvm.Term} {a : Addr} {j : Int32} {c : Cell} {v : Value} (ev : t.eval args s none [] s = some (.ref a)) (hc : s.heap[a]? = some c) (h : (Jvm.Term.elem t (.int j)).eval args s none [] s = some v) : (c.slots[j.toNatClampNeg]?).getD .null = v := by
  have q := (elem_in h ev (Term.int_eval j) hc).2
  rw [q]; rfl
theorem Af.known {Z : State} {h : Heap} {a : Addr} {cid : ClassId} {ty : FieldType} {n j : Nat} {f : Nat → Value} {v : Value} (F : Af Z h a cid ty n f) (q : f j = v) : Af Z h a cid ty n (updV f j v) := F.congr fun i _ => by
  by_cases e : i = j
  · subst e; simp [updV, q]
  · simp [updV, e]
end Start
end Jvm.OwnK
namespace Jvm.Pilot.@@N@@
open Jvm Jvm.ClassFile Sem Op Lib Jvm.Free Jvm.Stand Jvm.LawKit Jvm.RoadKit Jvm.OwnK Bundle Jvm.Pilot.@@N@@.Jvm.D
theorem w0 {Z : State} {a0 : Array Value} (hw : ∀ d ∈ tables_1, d.before a0 Z = true) : (Jvm.Cond.classLink "com/example/coppice/coppice/classfile/InstructionFallsThroughPinLaw" (7 : Nat) "java/util/ArrayList").before a0 Z = true := hw _ (List.mem_of_getElem? (i := 0) rfl)
theorem w1 {Z : State} {a0 : Array Value} (hw : ∀ d ∈ tables_1, d.before a0 Z = true) : (Jvm.Cond.instantiable "java/util/ArrayList" (3 : Nat)).before a0 Z = true := hw _ (List.mem_of_getElem? (i := 1) rfl)
theorem w2 {Z : State} {a0 : Array Value} (hw : ∀ d ∈ tables_1, d.before a0 Z = true) : (Jvm.Cond.initialized "java/util/ArrayList").before a0 Z = true := hw _ (List.mem_of_getElem? (i := 2) rfl)
theorem w3 {Z : State} {a0 : Array Value} (hw : ∀ d ∈ tables_1, d.before a0 Z = true) : (Jvm.Cond.methodLink "com/example/coppice/coppice/classfile/InstructionFallsThroughPinLaw" (9 : Nat) ({ cls := "java/util/ArrayList", name := "<init>", desc := "()V" } : Jvm.MethodName)).before a0 Z = true := hw _ (List.mem_of_getElem? (i := 3) rfl)
theorem w4 {Z : State} {a0 : Array Value} (hw : ∀ d ∈ tables_1, d.before a0 Z = true) : (Jvm.Cond.instanceMethod ({ cls := "java/util/ArrayList", name := "<init>", desc := "()V" } : Jvm.MethodName)).before a0 Z = true := hw _ (List.mem_of_getElem? (i := 4) rfl)
theorem w5 {Z : State} {a0 : Array Value} (hw : ∀ d ∈ tables_1, d.before a0 Z = true) : (Jvm.Cond.code ({ cls := "java/util/ArrayList", name := "<init>", desc := "()V" } : Jvm.MethodName) jdk_38_method_2_code (1 : Nat) (Option.none : Option Jvm.ClassFile.FieldType)).before a0 Z = true := hw _ (List.mem_of_getElem? (i := 5) rfl)
theorem w6 {Z : State} {a0 : Array Value} (hw : ∀ d ∈ tables_1, d.before a0 Z = true) : (Jvm.Cond.methodLink "java/util/ArrayList" (1 : Nat) ({ cls := "java/util/AbstractList", name := "<init>", desc := "()V" } : Jvm.MethodName)).before a0 Z = true := hw _ (List.mem_of_getElem? (i := 6) rfl)
theorem w7 {Z : State} {a0 : Array Value} (hw : ∀ d ∈ tables_1, d.before a0 Z = true) : (Jvm.Cond.instanceMethod ({ cls := "java/util/AbstractList", name := "<init>", desc := "()V" } : Jvm.MethodName)).before a0 Z = true := hw _ (List.mem_of_getElem? (i := 7) rfl)
theorem w10 {Z : State} {a0 : Array Value} (hw : ∀ d ∈ tables_1, d.before a0 Z = true) : (Jvm.Cond.initialized "java/util/AbstractList").before a0 Z = true := hw _ (List.mem_of_getElem? (i := 10) rfl)
theorem w11 {Z : State} {a0 : Array Value} (hw : ∀ d ∈ tables_1, d.before a0 Z = true) : (Jvm.Cond.code ({ cls := "java/util/AbstractList", name := "<init>", desc := "()V" } : Jvm.MethodName) jdk_39_method_1_code (1 : Nat) (Option.none : Option Jvm.ClassFile.FieldType)).before a0 Z = true := hw _ (List.mem_of_getElem? (i := 11) rfl)
theorem w12 {Z : State} {a0 : Array Value} (hw : ∀ d ∈ tables_1, d.before a0 Z = true) : (Jvm.Cond.methodLink "java/util/AbstractList" (1 : Nat) ({ cls := "java/util/AbstractCollection", name := "<init>", desc := "()V" } : Jvm.MethodName)).before a0 Z = true := hw _ (List.mem_of_getElem? (i := 12) rfl)
theorem w13 {Z : State} {a0 : Array Value} (hw : ∀ d ∈ tables_1, d.before a0 Z = true) : (Jvm.Cond.instanceMethod ({ cls := "java/util/AbstractCollection", name := "<init>", desc := "()V" } : Jvm.MethodName)).before a0 Z = true := hw _ (List.mem_of_getElem? (i := 13) rfl)
theorem w16 {Z : State} {a0 : Array Value} (hw : ∀ d ∈ tables_1, d.before a0 Z = true) : (Jvm.Cond.initialized "java/util/AbstractCollection").before a0 Z = true := hw _ (List.mem_of_getElem? (i := 16) rfl)
theorem w17 {Z : State} {a0 : Array Value} (hw : ∀ d ∈ tables_1, d.before a0 Z = true) : (Jvm.Cond.code ({ cls := "java/util/AbstractCollection", name := "<init>", desc := "()V" } : Jvm.MethodName) jdk_22_method_1_code (1 : Nat) (Option.none : Option Jvm.ClassFile.FieldType)).before a0 Z = true := hw _ (List.mem_of_getElem? (i := 17) rfl)
theorem w18 {Z : State} {a0 : Array Value} (hw : ∀ d ∈ tables_1, d.before a0 Z = true) : (Jvm.Cond.methodLink "java/util/AbstractCollection" (1 : Nat) ({ cls := "java/lang/Object", name := "<init>", desc := "()V" } : Jvm.MethodName)).before a0 Z = true := hw _ (List.mem_of_getElem? (i := 18) rfl)
theorem w19 {Z : State} {a0 : Array Value} (hw : ∀ d ∈ tables_1, d.before a0 Z = true) : (Jvm.Cond.instanceMethod ({ cls := "java/lang/Object", name := "<init>", desc := "()V" } : Jvm.MethodName)).before a0 Z = true := hw _ (List.mem_of_getElem? (i := 19) rfl)
theorem w20 {Z : State} {a0 : Array Value} (hw : ∀ d ∈ tables_1, d.before a0 Z = true) : (Jvm.Cond.code ({ cls := "java/lang/Object", name := "<init>", desc := "()V" } : Jvm.MethodName) object_method_1_code (1 : Nat) (Option.none : Option Jvm.ClassFile.FieldType)).before a0 Z = true := hw _ (List.mem_of_getElem? (i := 20) rfl)
theorem w21 {Z : State} {a0 : Array Value} (hw : ∀ d ∈ tables_1, d.before a0 Z = true) : (Jvm.Cond.fieldLink "java/util/AbstractList" (7 : Nat) "java/util/AbstractList" "modCount" "I").before a0 Z = true := hw _ (List.mem_of_getElem? (i := 21) rfl)
theorem w22 {Z : State} {a0 : Array Value} (hw : ∀ d ∈ tables_1, d.before a0 Z = true) : (Jvm.Cond.lays "java/util/ArrayList" "java/util/AbstractList" "modCount" "I").before a0 Z = true := hw _ (List.mem_of_getElem? (i := 22) rfl)
theorem w23 {Z : State} {a0 : Array Value} (hw : ∀ d ∈ tables_1, d.before a0 Z = true) : (Jvm.Cond.fieldLink "java/util/ArrayList" (39 : Nat) "java/util/ArrayList" "DEFAULTCAPACITY_EMPTY_ELEMENTDATA" "[Ljava/lang/Object;").before a0 Z = true := hw _ (List.mem_of_getElem? (i := 23) rfl)
theorem w24 {Z : State} {a0 : Array Value} (hw : ∀ d ∈ tables_1, d.before a0 Z = true) : (Jvm.Cond.fieldLink "java/util/ArrayList" (9 : Nat) "java/util/ArrayList" "elementData" "[Ljava/lang/Object;").before a0 Z = true := hw _ (List.mem_of_getElem? (i := 24) rfl)
theorem w25 {Z : State} {a0 : Array Value} (hw : ∀ d ∈ tables_1, d.before a0 Z = true) : (Jvm.Cond.lays "java/util/ArrayList" "java/util/ArrayList" "elementData" "[Ljava/lang/Object;").before a0 Z = true := hw _ (List.mem_of_getElem? (i := 25) rfl)
theorem w26 {Z : State} {a0 : Array Value} (hw : ∀ d ∈ tables_1, d.before a0 Z = true) : (Jvm.Cond.classLink "com/example/coppice/coppice/classfile/InstructionFallsThroughPinLaw" (22 : Nat) "com/example/coppice/coppice/classfile/Bytecode$Instruction").before a0 Z = true := hw _ (List.mem_of_getElem? (i := 26) rfl)
theorem w27 {Z : State} {a0 : Array Value} (hw : ∀ d ∈ tables_1, d.before a0 Z = true) : (Jvm.Cond.instantiable "com/example/coppice/coppice/classfile/Bytecode$Instruction" (4 : Nat)).before a0 Z = true := hw _ (List.mem_of_getElem? (i := 27) rfl)
theorem w28 {Z : State} {a0 : Array Value} (hw : ∀ d ∈ tables_1, d.before a0 Z = true) : (Jvm.Cond.initialized "com/example/coppice/coppice/classfile/Bytecode$Instruction").before a0 Z = true := hw _ (List.mem_of_getElem? (i := 28) rfl)
theorem w29 {Z : State} {a0 : Array Value} (hw : ∀ d ∈ tables_1, d.before a0 Z = true) : (Jvm.Cond.methodLink "com/example/coppice/coppice/classfile/InstructionFallsThroughPinLaw" (24 : Nat) ({ cls := "com/example/coppice/coppice/classfile/Bytecode$Instruction", name := "<init>", desc := "(IIILjava/util/List;)V" } : Jvm.MethodName)).before a0 Z = true := hw _ (List.mem_of_getElem? (i := 29) rfl)
theorem w30 {Z : State} {a0 : Array Value} (hw : ∀ d ∈ tables_1, d.before a0 Z = true) : (Jvm.Cond.instanceMethod ({ cls := "com/example/coppice/coppice/classfile/Bytecode$Instruction", name := "<init>", desc := "(IIILjava/util/List;)V" } : Jvm.MethodName)).before a0 Z = true := hw _ (List.mem_of_getElem? (i := 30) rfl)
theorem w31 {Z : State} {a0 : Array Value} (hw : ∀ d ∈ tables_1, d.before a0 Z = true) : (Jvm.Cond.code ({ cls := "com/example/coppice/coppice/classfile/Bytecode$Instruction", name := "<init>", desc := "(IIILjava/util/List;)V" } : Jvm.MethodName) prog_17_method_1_code (5 : Nat) (Option.none : Option Jvm.ClassFile.FieldType)).before a0 Z = true := hw _ (List.mem_of_getElem? (i := 31) rfl)
theorem w32 {Z : State} {a0 : Array Value} (hw : ∀ d ∈ tables_1, d.before a0 Z = true) : (Jvm.Cond.methodLink "com/example/coppice/coppice/classfile/Bytecode$Instruction" (3 : Nat) ({ cls := "java/lang/Record", name := "<init>", desc := "()V" } : Jvm.MethodName)).before a0 Z = true := hw _ (List.mem_of_getElem? (i := 32) rfl)
theorem w33 {Z : State} {a0 : Array Value} (hw : ∀ d ∈ tables_1, d.before a0 Z = true) : (Jvm.Cond.instanceMethod ({ cls := "java/lang/Record", name := "<init>", desc := "()V" } : Jvm.MethodName)).before a0 Z = true := hw _ (List.mem_of_getElem? (i := 33) rfl)
theorem w35 {Z : State} {a0 : Array Value} (hw : ∀ d ∈ tables_1, d.before a0 Z = true) : (Jvm.Cond.initialized "java/lang/Record").before a0 Z = true := hw _ (List.mem_of_getElem? (i := 35) rfl)
theorem w36 {Z : State} {a0 : Array Value} (hw : ∀ d ∈ tables_1, d.before a0 Z = true) : (Jvm.Cond.code ({ cls := "java/lang/Record", name := "<init>", desc := "()V" } : Jvm.MethodName) jdk_30_method_1_code (1 : Nat) (Option.none : Option Jvm.ClassFile.FieldType)).before a0 Z = true := hw _ (List.mem_of_getElem? (i := 36) rfl)
theorem w37 {Z : State} {a0 : Array Value} (hw : ∀ d ∈ tables_1, d.before a0 Z = true) : (Jvm.Cond.methodLink "java/lang/Record" (1 : Nat) ({ cls := "java/lang/Object", name := "<init>", desc := "()V" } : Jvm.MethodName)).before a0 Z = true := hw _ (List.mem_of_getElem? (i := 37) rfl)
theorem w38 {Z : State} {a0 : Array Value} (hw : ∀ d ∈ tables_1, d.before a0 Z = true) : (Jvm.Cond.fieldLink "com/example/coppice/coppice/classfile/Bytecode$Instruction" (9 : Nat) "com/example/coppice/coppice/classfile/Bytecode$Instruction" "offset" "I").before a0 Z = true := hw _ (List.mem_of_getElem? (i := 38) rfl)
theorem w39 {Z : State} {a0 : Array Value} (hw : ∀ d ∈ tables_1, d.before a0 Z = true) : (Jvm.Cond.laysFinal "com/example/coppice/coppice/classfile/Bytecode$Instruction" "com/example/coppice/coppice/classfile/Bytecode$Instruction" "offset" "I").before a0 Z = true := hw _ (List.mem_of_getElem? (i := 39) rfl)
theorem w40 {Z : State} {a0 : Array Value} (hw : ∀ d ∈ tables_1, d.before a0 Z = true) : (Jvm.Cond.fieldLink "com/example/coppice/coppice/classfile/Bytecode$Instruction" (15 : Nat) "com/example/coppice/coppice/classfile/Bytecode$Instruction" "opcode" "I").before a0 Z = true := hw _ (List.mem_of_getElem? (i := 40) rfl)
theorem w41 {Z : State} {a0 : Array Value} (hw : ∀ d ∈ tables_1, d.before a0 Z = true) : (Jvm.Cond.laysFinal "com/example/coppice/coppice/classfile/Bytecode$Instruction" "com/example/coppice/coppice/classfile/Bytecode$Instruction" "opcode" "I").before a0 Z = true := hw _ (List.mem_of_getElem? (i := 41) rfl)
theorem w42 {Z : State} {a0 : Array Value} (hw : ∀ d ∈ tables_1, d.before a0 Z = true) : (Jvm.Cond.fieldLink "com/example/coppice/coppice/classfile/Bytecode$Instruction" (18 : Nat) "com/example/coppice/coppice/classfile/Bytecode$Instruction" "operand" "I").before a0 Z = true := hw _ (List.mem_of_getElem? (i := 42) rfl)
theorem w43 {Z : State} {a0 : Array Value} (hw : ∀ d ∈ tables_1, d.before a0 Z = true) : (Jvm.Cond.laysFinal "com/example/coppice/coppice/classfile/Bytecode$Instruction" "com/example/coppice/coppice/classfile/Bytecode$Instruction" "operand" "I").before a0 Z = true := hw _ (List.mem_of_getElem? (i := 43) rfl)
theorem w44 {Z : State} {a0 : Array Value} (hw : ∀ d ∈ tables_1, d.before a0 Z = true) : (Jvm.Cond.fieldLink "com/example/coppice/coppice/classfile/Bytecode$Instruction" (21 : Nat) "com/example/coppice/coppice/classfile/Bytecode$Instruction" "targets" "Ljava/util/List;").before a0 Z = true := hw _ (List.mem_of_getElem? (i := 44) rfl)
theorem w45 {Z : State} {a0 : Array Value} (hw : ∀ d ∈ tables_1, d.before a0 Z = true) : (Jvm.Cond.laysFinal "com/example/coppice/coppice/classfile/Bytecode$Instruction" "com/example/coppice/coppice/classfile/Bytecode$Instruction" "targets" "Ljava/util/List;").before a0 Z = true := hw _ (List.mem_of_getElem? (i := 45) rfl)
theorem w46 {Z : State} {a0 : Array Value} (hw : ∀ d ∈ tables_1, d.before a0 Z = true) : (Jvm.Cond.methodLink "com/example/coppice/coppice/classfile/InstructionFallsThroughPinLaw" (27 : Nat) ({ cls := "com/example/coppice/coppice/classfile/InstructionFallsThroughPinLaw", name := "endsFlow", desc := "(I)Z" } : Jvm.MethodName)).before a0 Z = true := hw _ (List.mem_of_getElem? (i := 46) rfl)
theorem w47 {Z : State} {a0 : Array Value} (hw : ∀ d ∈ tables_1, d.before a0 Z = true) : (Jvm.Cond.static ({ cls := "com/example/coppice/coppice/classfile/InstructionFallsThroughPinLaw", name := "endsFlow", desc := "(I)Z" } : Jvm.MethodName)).before a0 Z = true := hw _ (List.mem_of_getElem? (i := 47) rfl)
theorem w48 {Z : State} {a0 : Array Value} (hw : ∀ d ∈ tables_1, d.before a0 Z = true) : (Jvm.Cond.initialized "com/example/coppice/coppice/classfile/InstructionFallsThroughPinLaw").before a0 Z = true := hw _ (List.mem_of_getElem? (i := 48) rfl)
theorem w49 {Z : State} {a0 : Array Value} (hw : ∀ d ∈ tables_1, d.before a0 Z = true) : (Jvm.Cond.code ({ cls := "com/example/coppice/coppice/classfile/InstructionFallsThroughPinLaw", name := "endsFlow", desc := "(I)Z" } : Jvm.MethodName) method_2_code (1 : Nat) (Option.some Jvm.ClassFile.FieldType.boolean)).before a0 Z = true := hw _ (List.mem_of_getElem? (i := 49) rfl)
theorem w50 {Z : State} {a0 : Array Value} (hw : ∀ d ∈ tables_1, d.before a0 Z = true) : (Jvm.Cond.methodLink "com/example/coppice/coppice/classfile/InstructionFallsThroughPinLaw" (33 : Nat) ({ cls := "com/example/coppice/coppice/classfile/Bytecode$Instruction", name := "fallsThrough", desc := "()Z" } : Jvm.MethodName)).before a0 Z = true := hw _ (List.mem_of_getElem? (i := 50) rfl)
theorem w51 {Z : State} {a0 : Array Value} (hw : ∀ d ∈ tables_1, d.before a0 Z = true) : (Jvm.Cond.declares ({ cls := "com/example/coppice/coppice/classfile/Bytecode$Instruction", name := "fallsThrough", desc := "()Z" } : Jvm.MethodName)).before a0 Z = true := hw _ (List.mem_of_getElem? (i := 51) rfl)
theorem w52 {Z : State} {a0 : Array Value} (hw : ∀ d ∈ tables_1, d.before a0 Z = true) : (Jvm.Cond.instanceMethod ({ cls := "com/example/coppice/coppice/classfile/Bytecode$Instruction", name := "fallsThrough", desc := "()Z" } : Jvm.MethodName)).before a0 Z = true := hw _ (List.mem_of_getElem? (i := 52) rfl)
theorem w53 {Z : State} {a0 : Array Value} (hw : ∀ d ∈ tables_1, d.before a0 Z = true) : (Jvm.Cond.selects "com/example/coppice/coppice/classfile/Bytecode$Instruction" ({ cls := "com/example/coppice/coppice/classfile/Bytecode$Instruction", name := "fallsThrough", desc := "()Z" } : Jvm.MethodName) ({ cls := "com/example/coppice/coppice/classfile/Bytecode$Instruction", name := "fallsThrough", desc := "()Z" } : Jvm.MethodName)).before a0 Z = true := hw _ (List.mem_of_getElem? (i := 53) rfl)
theorem w54 {Z : State} {a0 : Array Value} (hw : ∀ d ∈ tables_1, d.before a0 Z = true) : (Jvm.Cond.code ({ cls := "com/example/coppice/coppice/classfile/Bytecode$Instruction", name := "fallsThrough", desc := "()Z" } : Jvm.MethodName) prog_17_method_2_code (1 : Nat) (Option.some Jvm.ClassFile.FieldType.boolean)).before a0 Z = true := hw _ (List.mem_of_getElem? (i := 54) rfl)
theorem w55 {Z : State} {a0 : Array Value} (hw : ∀ d ∈ tables_1, d.before a0 Z = true) : (Jvm.Cond.methodLink "com/example/coppice/coppice/classfile/InstructionFallsThroughPinLaw" (10 : Nat) ({ cls := "java/lang/Integer", name := "valueOf", desc := "(I)Ljava/lang/Integer;" } : Jvm.MethodName)).before a0 Z = true := hw _ (List.mem_of_getElem? (i := 55) rfl)
theorem w56 {Z : State} {a0 : Array Value} (hw : ∀ d ∈ tables_1, d.before a0 Z = true) : (Jvm.Cond.static ({ cls := "java/lang/Integer", name := "valueOf", desc := "(I)Ljava/lang/Integer;" } : Jvm.MethodName)).before a0 Z = true := hw _ (List.mem_of_getElem? (i := 56) rfl)
theorem w57 {Z : State} {a0 : Array Value} (hw : ∀ d ∈ tables_1, d.before a0 Z = true) : (Jvm.Cond.initialized "java/lang/Integer").before a0 Z = true := hw _ (List.mem_of_getElem? (i := 57) rfl)
theorem w58 {Z : State} {a0 : Array Value} (hw : ∀ d ∈ tables_1, d.before a0 Z = true) : (Jvm.Cond.code ({ cls := "java/lang/Integer", name := "valueOf", desc := "(I)Ljava/lang/Integer;" } : Jvm.MethodName) jdk_33_method_22_code (1 : Nat) (Option.some (Jvm.ClassFile.FieldType.object "java/lang/Integer"))).before a0 Z = true := hw _ (List.mem_of_getElem? (i := 58) rfl)
theorem w59 {Z : State} {a0 : Array Value} (hw : ∀ d ∈ tables_1, d.before a0 Z = true) : (Jvm.Cond.fieldLink "java/lang/Integer" (191 : Nat) "java/lang/Integer$IntegerCache" "high" "I").before a0 Z = true := hw _ (List.mem_of_getElem? (i := 59) rfl)
theorem w60 {Z : State} {a0 : Array Value} (hw : ∀ d ∈ tables_1, d.before a0 Z = true) : (Jvm.Cond.initialized "java/lang/Integer$IntegerCache").before a0 Z = true := hw _ (List.mem_of_getElem? (i := 60) rfl)
theorem w61 {Z : State} {a0 : Array Value} (hw : ∀ d ∈ tables_1, d.before a0 Z = true) : (Jvm.Cond.fieldLink "java/lang/Integer" (195 : Nat) "java/lang/Integer$IntegerCache" "cache" "[Ljava/lang/Integer;").before a0 Z = true := hw _ (List.mem_of_getElem? (i := 61) rfl)
theorem w62 {Z : State} {a0 : Array Value} (hw : ∀ d ∈ tables_1, d.before a0 Z = true) : (Jvm.Cond.methodLink "com/example/coppice/coppice/classfile/InstructionFallsThroughPinLaw" (16 : Nat) ({ cls := "java/util/List", name := "add", desc := "(Ljava/lang/Object;)Z" } : Jvm.MethodName)).before a0 Z = true := hw _ (List.mem_of_getElem? (i := 62) rfl)
theorem w63 {Z : State} {a0 : Array Value} (hw : ∀ d ∈ tables_1, d.before a0 Z = true) : (Jvm.Cond.declares ({ cls := "java/util/List", name := "add", desc := "(Ljava/lang/Object;)Z" } : Jvm.MethodName)).before a0 Z = true := hw _ (List.mem_of_getElem? (i := 63) rfl)
theorem w64 {Z : State} {a0 : Array Value} (hw : ∀ d ∈ tables_1, d.before a0 Z = true) : (Jvm.Cond.interfaceMethod "java/util/List" "java/util/List" "add" "(Ljava/lang/Object;)Z").before a0 Z = true := hw _ (List.mem_of_getElem? (i := 64) rfl)
theorem w65 {Z : State} {a0 : Array Value} (hw : ∀ d ∈ tables_1, d.before a0 Z = true) : (Jvm.Cond.selects "java/util/ArrayList" ({ cls := "java/util/List", name := "add", desc := "(Ljava/lang/Object;)Z" } : Jvm.MethodName) ({ cls := "java/util/ArrayList", name := "add", desc := "(Ljava/lang/Object;)Z" } : Jvm.MethodName)).before a0 Z = true := hw _ (List.mem_of_getElem? (i := 65) rfl)
theorem w66 {Z : State} {a0 : Array Value} (hw : ∀ d ∈ tables_1, d.before a0 Z = true) : (Jvm.Cond.instanceMethod ({ cls := "java/util/ArrayList", name := "add", desc := "(Ljava/lang/Object;)Z" } : Jvm.MethodName)).before a0 Z = true := hw _ (List.mem_of_getElem? (i := 66) rfl)
theorem w67 {Z : State} {a0 : Array Value} (hw : ∀ d ∈ tables_1, d.before a0 Z = true) : (Jvm.Cond.publicMethod ({ cls := "java/util/ArrayList", name := "add", desc := "(Ljava/lang/Object;)Z" } : Jvm.MethodName)).before a0 Z = true := hw _ (List.mem_of_getElem? (i := 67) rfl)
theorem w68 {Z : State} {a0 : Array Value} (hw : ∀ d ∈ tables_1, d.before a0 Z = true) : (Jvm.Cond.unhidden "java/util/ArrayList" "add" "(Ljava/lang/Object;)Z").before a0 Z = true := hw _ (List.mem_of_getElem? (i := 68) rfl)
theorem w69 {Z : State} {a0 : Array Value} (hw : ∀ d ∈ tables_1, d.before a0 Z = true) : (Jvm.Cond.castable "java/util/ArrayList" "java/util/List").before a0 Z = true := hw _ (List.mem_of_getElem? (i := 69) rfl)
theorem w70 {Z : State} {a0 : Array Value} (hw : ∀ d ∈ tables_1, d.before a0 Z = true) : (Jvm.Cond.code ({ cls := "java/util/ArrayList", name := "add", desc := "(Ljava/lang/Object;)Z" } : Jvm.MethodName) jdk_38_method_25_code (2 : Nat) (Option.some Jvm.ClassFile.FieldType.boolean)).before a0 Z = true := hw _ (List.mem_of_getElem? (i := 70) rfl)
theorem w71 {Z : State} {a0 : Array Value} (hw : ∀ d ∈ tables_1, d.before a0 Z = true) : (Jvm.Cond.fieldLink "java/util/ArrayList" (63 : Nat) "java/util/ArrayList" "modCount" "I").before a0 Z = true := hw _ (List.mem_of_getElem? (i := 71) rfl)
theorem w72 {Z : State} {a0 : Array Value} (hw : ∀ d ∈ tables_1, d.before a0 Z = true) : (Jvm.Cond.sameField "java/util/ArrayList" "java/util/AbstractList" "modCount" "I").before a0 Z = true := hw _ (List.mem_of_getElem? (i := 72) rfl)
theorem w73 {Z : State} {a0 : Array Value} (hw : ∀ d ∈ tables_1, d.before a0 Z = true) : (Jvm.Cond.fieldLink "java/util/ArrayList" (48 : Nat) "java/util/ArrayList" "size" "I").before a0 Z = true := hw _ (List.mem_of_getElem? (i := 73) rfl)
theorem w74 {Z : State} {a0 : Array Value} (hw : ∀ d ∈ tables_1, d.before a0 Z = true) : (Jvm.Cond.lays "java/util/ArrayList" "java/util/ArrayList" "size" "I").before a0 Z = true := hw _ (List.mem_of_getElem? (i := 74) rfl)
theorem w75 {Z : State} {a0 : Array Value} (hw : ∀ d ∈ tables_1, d.before a0 Z = true) : (Jvm.Cond.methodLink "java/util/ArrayList" (131 : Nat) ({ cls := "java/util/ArrayList", name := "add", desc := "(Ljava/lang/Object;[Ljava/lang/Object;I)V" } : Jvm.MethodName)).before a0 Z = true := hw _ (List.mem_of_getElem? (i := 75) rfl)
theorem w76 {Z : State} {a0 : Array Value} (hw : ∀ d ∈ tables_1, d.before a0 Z = true) : (Jvm.Cond.instanceMethod ({ cls := "java/util/ArrayList", name := "add", desc := "(Ljava/lang/Object;[Ljava/lang/Object;I)V" } : Jvm.MethodName)).before a0 Z = true := hw _ (List.mem_of_getElem? (i := 76) rfl)
theorem w77 {Z : State} {a0 : Array Value} (hw : ∀ d ∈ tables_1, d.before a0 Z = true) : (Jvm.Cond.privateMethod ({ cls := "java/util/ArrayList", name := "add", desc := "(Ljava/lang/Object;[Ljava/lang/Object;I)V" } : Jvm.MethodName)).before a0 Z = true := hw _ (List.mem_of_getElem? (i := 77) rfl)
theorem w78 {Z : State} {a0 : Array Value} (hw : ∀ d ∈ tables_1, d.before a0 Z = true) : (Jvm.Cond.selects "java/util/ArrayList" ({ cls := "java/util/ArrayList", name := "add", desc := "(Ljava/lang/Object;[Ljava/lang/Object;I)V" } : Jvm.MethodName) ({ cls := "java/util/ArrayList", name := "add", desc := "(Ljava/lang/Object;[Ljava/lang/Object;I)V" } : Jvm.MethodName)).before a0 Z = true := hw _ (List.mem_of_getElem? (i := 78) rfl)
theorem w79 {Z : State} {a0 : Array Value} (hw : ∀ d ∈ tables_1, d.before a0 Z = true) : (Jvm.Cond.code ({ cls := "java/util/ArrayList", name := "add", desc := "(Ljava/lang/Object;[Ljava/lang/Object;I)V" } : Jvm.MethodName) jdk_38_method_24_code (4 : Nat) (Option.none : Option Jvm.ClassFile.FieldType)).before a0 Z = true := hw _ (List.mem_of_getElem? (i := 79) rfl)
theorem w80 {Z : State} {a0 : Array Value} (hw : ∀ d ∈ tables_1, d.before a0 Z = true) : (Jvm.Cond.methodLink "java/util/ArrayList" (129 : Nat) ({ cls := "java/util/ArrayList", name := "grow", desc := "()[Ljava/lang/Object;" } : Jvm.MethodName)).before a0 Z = true := hw _ (List.mem_of_getElem? (i := 80) rfl)
theorem w81 {Z : State} {a0 : Array Value} (hw : ∀ d ∈ tables_1, d.before a0 Z = true) : (Jvm.Cond.instanceMethod ({ cls := "java/util/ArrayList", name := "grow", desc := "()[Ljava/lang/Object;" } : Jvm.MethodName)).before a0 Z = true := hw _ (List.mem_of_getElem? (i := 81) rfl)
theorem w82 {Z : State} {a0 : Array Value} (hw : ∀ d ∈ tables_1, d.before a0 Z = true) : (Jvm.Cond.privateMethod ({ cls := "java/util/ArrayList", name := "grow", desc := "()[Ljava/lang/Object;" } : Jvm.MethodName)).before a0 Z = true := hw _ (List.mem_of_getElem? (i := 82) rfl)
theorem w83 {Z : State} {a0 : Array Value} (hw : ∀ d ∈ tables_1, d.before a0 Z = true) : (Jvm.Cond.selects "java/util/ArrayList" ({ cls := "java/util/ArrayList", name := "grow", desc := "()[Ljava/lang/Object;" } : Jvm.MethodName) ({ cls := "java/util/ArrayList", name := "grow", desc := "()[Ljava/lang/Object;" } : Jvm.MethodName)).before a0 Z = true := hw _ (List.mem_of_getElem? (i := 83) rfl)
theorem w84 {Z : State} {a0 : Array Value} (hw : ∀ d ∈ tables_1, d.before a0 Z = true) : (Jvm.Cond.code ({ cls := "java/util/ArrayList", name := "grow", desc := "()[Ljava/lang/Object;" } : Jvm.MethodName) jdk_38_method_7_code (1 : Nat) (Option.some (Jvm.ClassFile.FieldType.array (Jvm.ClassFile.FieldType.object "java/lang/Object")))).before a0 Z = true := hw _ (List.mem_of_getElem? (i := 84) rfl)
theorem w85 {Z : State} {a0 : Array Value} (hw : ∀ d ∈ tables_1, d.before a0 Z = true) : (Jvm.Cond.methodLink "java/util/ArrayList" (69 : Nat) ({ cls := "java/util/ArrayList", name := "grow", desc := "(I)[Ljava/lang/Object;" } : Jvm.MethodName)).before a0 Z = true := hw _ (List.mem_of_getElem? (i := 85) rfl)
theorem w86 {Z : State} {a0 : Array Value} (hw : ∀ d ∈ tables_1, d.before a0 Z = true) : (Jvm.Cond.instanceMethod ({ cls := "java/util/ArrayList", name := "grow", desc := "(I)[Ljava/lang/Object;" } : Jvm.MethodName)).before a0 Z = true := hw _ (List.mem_of_getElem? (i := 86) rfl)
theorem w87 {Z : State} {a0 : Array Value} (hw : ∀ d ∈ tables_1, d.before a0 Z = true) : (Jvm.Cond.privateMethod ({ cls := "java/util/ArrayList", name := "grow", desc := "(I)[Ljava/lang/Object;" } : Jvm.MethodName)).before a0 Z = true := hw _ (List.mem_of_getElem? (i := 87) rfl)
theorem w88 {Z : State} {a0 : Array Value} (hw : ∀ d ∈ tables_1, d.before a0 Z = true) : (Jvm.Cond.selects "java/util/ArrayList" ({ cls := "java/util/ArrayList", name := "grow", desc := "(I)[Ljava/lang/Object;" } : Jvm.MethodName) ({ cls := "java/util/ArrayList", name := "grow", desc := "(I)[Ljava/lang/Object;" } : Jvm.MethodName)).before a0 Z = true := hw _ (List.mem_of_getElem? (i := 88) rfl)
theorem w89 {Z : State} {a0 : Array Value} (hw : ∀ d ∈ tables_1, d.before a0 Z = true) : (Jvm.Cond.code ({ cls := "java/util/ArrayList", name := "grow", desc := "(I)[Ljava/lang/Object;" } : Jvm.MethodName) jdk_38_method_6_code (4 : Nat) (Option.some (Jvm.ClassFile.FieldType.array (Jvm.ClassFile.FieldType.object "java/lang/Object")))).before a0 Z = true := hw _ (List.mem_of_getElem? (i := 89) rfl)
theorem w90 {Z : State} {a0 : Array Value} (hw : ∀ d ∈ tables_1, d.before a0 Z = true) : (Jvm.Cond.methodLink "java/util/ArrayList" (79 : Nat) ({ cls := "java/lang/Math", name := "max", desc := "(II)I" } : Jvm.MethodName)).before a0 Z = true := hw _ (List.mem_of_getElem? (i := 90) rfl)
theorem w91 {Z : State} {a0 : Array Value} (hw : ∀ d ∈ tables_1, d.before a0 Z = true) : (Jvm.Cond.static ({ cls := "java/lang/Math", name := "max", desc := "(II)I" } : Jvm.MethodName)).before a0 Z = true := hw _ (List.mem_of_getElem? (i := 91) rfl)
theorem w92 {Z : State} {a0 : Array Value} (hw : ∀ d ∈ tables_1, d.before a0 Z = true) : (Jvm.Cond.initialized "java/lang/Math").before a0 Z = true := hw _ (List.mem_of_getElem? (i := 92) rfl)
theorem w93 {Z : State} {a0 : Array Value} (hw : ∀ d ∈ tables_1, d.before a0 Z = true) : (Jvm.Cond.code ({ cls := "java/lang/Math", name := "max", desc := "(II)I" } : Jvm.MethodName) jdk_29_method_65_code (2 : Nat) (Option.some Jvm.ClassFile.FieldType.int)).before a0 Z = true := hw _ (List.mem_of_getElem? (i := 93) rfl)
theorem w94 {Z : State} {a0 : Array Value} (hw : ∀ d ∈ tables_1, d.before a0 Z = true) : (Jvm.Cond.classLink "java/util/ArrayList" (7 : Nat) "java/lang/Object").before a0 Z = true := hw _ (List.mem_of_getElem? (i := 94) rfl)
theorem w95 {Z : State} {a0 : Array Value} (hw : ∀ d ∈ tables_1, d.before a0 Z = true) : (Jvm.Cond.arrayOver (Jvm.ClassFile.FieldType.object "java/lang/Object")).before a0 Z = true := hw _ (List.mem_of_getElem? (i := 95) rfl)
theorem w96 {Z : State} {a0 : Array Value} (hw : ∀ d ∈ tables_1, d.before a0 Z = true) : (Jvm.Cond.castable "java/lang/Integer" "java/lang/Object").before a0 Z = true := hw _ (List.mem_of_getElem? (i := 96) rfl)
theorem w97 {Z : State} {a0 : Array Value} (hw : ∀ d ∈ tables_1, d.before a0 Z = true) : (Jvm.Cond.classLink "java/lang/Integer" (1 : Nat) "java/lang/Integer").before a0 Z = true := hw _ (List.mem_of_getElem? (i := 97) rfl)
theorem w98 {Z : State} {a0 : Array Value} (hw : ∀ d ∈ tables_1, d.before a0 Z = true) : (Jvm.Cond.instantiable "java/lang/Integer" (1 : Nat)).before a0 Z = true := hw _ (List.mem_of_getElem? (i := 98) rfl)
theorem w99 {Z : State} {a0 : Array Value} (hw : ∀ d ∈ tables_1, d.before a0 Z = true) : (Jvm.Cond.methodLink "java/lang/Integer" (199 : Nat) ({ cls := "java/lang/Integer", name := "<init>", desc := "(I)V" } : Jvm.MethodName)).before a0 Z = true := hw _ (List.mem_of_getElem? (i := 99) rfl)
theorem w100 {Z : State} {a0 : Array Value} (hw : ∀ d ∈ tables_1, d.before a0 Z = true) : (Jvm.Cond.instanceMethod ({ cls := "java/lang/Integer", name := "<init>", desc := "(I)V" } : Jvm.MethodName)).before a0 Z = true := hw _ (List.mem_of_getElem? (i := 100) rfl)
theorem w102 {Z : State} {a0 : Array Value} (hw : ∀ d ∈ tables_1, d.before a0 Z = true) : (Jvm.Cond.code ({ cls := "java/lang/Integer", name := "<init>", desc := "(I)V" } : Jvm.MethodName) jdk_33_method_23_code (2 : Nat) (Option.none : Option Jvm.ClassFile.FieldType)).before a0 Z = true := hw _ (List.mem_of_getElem? (i := 102) rfl)
theorem w103 {Z : State} {a0 : Array Value} (hw : ∀ d ∈ tables_1, d.before a0 Z = true) : (Jvm.Cond.methodLink "java/lang/Integer" (202 : Nat) ({ cls := "java/lang/Number", name := "<init>", desc := "()V" } : Jvm.MethodName)).before a0 Z = true := hw _ (List.mem_of_getElem? (i := 103) rfl)
theorem w104 {Z : State} {a0 : Array Value} (hw : ∀ d ∈ tables_1, d.before a0 Z = true) : (Jvm.Cond.instanceMethod ({ cls := "java/lang/Number", name := "<init>", desc := "()V" } : Jvm.MethodName)).before a0 Z = true := hw _ (List.mem_of_getElem? (i := 104) rfl)
theorem w107 {Z : State} {a0 : Array Value} (hw : ∀ d ∈ tables_1, d.before a0 Z = true) : (Jvm.Cond.initialized "java/lang/Number").before a0 Z = true := hw _ (List.mem_of_getElem? (i := 107) rfl)
theorem w108 {Z : State} {a0 : Array Value} (hw : ∀ d ∈ tables_1, d.before a0 Z = true) : (Jvm.Cond.code ({ cls := "java/lang/Number", name := "<init>", desc := "()V" } : Jvm.MethodName) jdk_18_method_1_code (1 : Nat) (Option.none : Option Jvm.ClassFile.FieldType)).before a0 Z = true := hw _ (List.mem_of_getElem? (i := 108) rfl)
theorem w109 {Z : State} {a0 : Array Value} (hw : ∀ d ∈ tables_1, d.before a0 Z = true) : (Jvm.Cond.methodLink "java/lang/Number" (1 : Nat) ({ cls := "java/lang/Object", name := "<init>", desc := "()V" } : Jvm.MethodName)).before a0 Z = true := hw _ (List.mem_of_getElem? (i := 109) rfl)
theorem w110 {Z : State} {a0 : Array Value} (hw : ∀ d ∈ tables_1, d.before a0 Z = true) : (Jvm.Cond.fieldLink "java/lang/Integer" (205 : Nat) "java/lang/Integer" "value" "I").before a0 Z = true := hw _ (List.mem_of_getElem? (i := 110) rfl)
theorem w111 {Z : State} {a0 : Array Value} (hw : ∀ d ∈ tables_1, d.before a0 Z = true) : (Jvm.Cond.laysFinal "java/lang/Integer" "java/lang/Integer" "value" "I").before a0 Z = true := hw _ (List.mem_of_getElem? (i := 111) rfl)
theorem d_rec_0 : decode jdk_30_method_1_code 0 = .ok (.aload_n 0, 1) := by decide +kernel
theorem d_rec_1 : decode jdk_30_method_1_code 1 = .ok (.invokespecial 1, 3) := by decide +kernel
theorem d_rec_4 : decode jdk_30_method_1_code 4 = .ok (.return_, 1) := by decide +kernel
theorem pn_rec : plainName "java/lang/Record" = true := by first | (simp [plainName, overriddenIn]; done) | decide +kernel
theorem d_num_0 : decode jdk_18_method_1_code 0 = .ok (.aload_n 0, 1) := by decide +kernel
theorem d_num_1 : decode jdk_18_method_1_code 1 = .ok (.invokespecial 1, 3) := by decide +kernel
theorem d_num_4 : decode jdk_18_method_1_code 4 = .ok (.return_, 1) := by decide +kernel
theorem pn_num : plainName "java/lang/Number" = true := by first | (simp [plainName, overriddenIn]; done) | decide +kernel
theorem d_abc_0 : decode jdk_22_method_1_code 0 = .ok (.aload_n 0, 1) := by decide +kernel
theorem d_abc_1 : decode jdk_22_method_1_code 1 = .ok (.invokespecial 1, 3) := by decide +kernel
theorem d_abc_4 : decode jdk_22_method_1_code 4 = .ok (.return_, 1) := by decide +kernel
theorem pn_abc : plainName "java/util/AbstractCollection" = true := by first | (simp [plainName, overriddenIn]; done) | decide +kernel
theorem d_max_0 : decode jdk_29_method_65_code 0 = .ok (.iload_n 0, 1) := by decide +kernel
theorem d_max_1 : decode jdk_29_method_65_code 1 = .ok (.iload_n 1, 1) := by decide +kernel
theorem d_max_2 : decode jdk_29_method_65_code 2 = .ok (.if_icmp .lt 7, 3) := by decide +kernel
theorem d_max_9 : decode jdk_29_method_65_code 9 = .ok (.iload_n 1, 1) := by decide +kernel
theorem d_max_10 : decode jdk_29_method_65_code 10 = .ok (.ireturn, 1) := by decide +kernel
theorem d_max_5 : decode jdk_29_method_65_code 5 = .ok (.iload_n 0, 1) := by decide +kernel
theorem d_max_6 : decode jdk_29_method_65_code 6 = .ok (.goto 4, 3) := by decide +kernel
theorem d_abl_0 : decode jdk_39_method_1_code 0 = .ok (.aload_n 0, 1) := by decide +kernel
theorem d_abl_1 : decode jdk_39_method_1_code 1 = .ok (.invokespecial 1, 3) := by decide +kernel
theorem pd_0 : parseMethodDescriptor "()V" = some ⟨[], none⟩ := by decide +kernel
theorem d_abl_4 : decode jdk_39_method_1_code 4 = .ok (.aload_n 0, 1) := by decide +kernel
theorem d_abl_5 : decode jdk_39_method_1_code 5 = .ok (.iconst 0, 1) := by decide +kernel
theorem d_abl_6 : decode jdk_39_method_1_code 6 = .ok (.putfield 7, 3) := by decide +kernel
theorem d_abl_9 : decode jdk_39_method_1_code 9 = .ok (.return_, 1) := by decide +kernel
theorem pn_abl : plainName "java/util/AbstractList" = true := by first | (simp [plainName, overriddenIn]; done) | decide +kernel
theorem d_ali_0 : decode jdk_38_method_2_code 0 = .ok (.aload_n 0, 1) := by decide +kernel
theorem d_ali_1 : decode jdk_38_method_2_code 1 = .ok (.invokespecial 1, 3) := by decide +kernel
theorem d_ali_4 : decode jdk_38_method_2_code 4 = .ok (.aload_n 0, 1) := by decide +kernel
theorem d_ali_5 : decode jdk_38_method_2_code 5 = .ok (.getstatic 39, 3) := by decide +kernel
theorem d_ali_8 : decode jdk_38_method_2_code 8 = .ok (.putfield 9, 3) := by decide +kernel
theorem d_ali_11 : decode jdk_38_method_2_code 11 = .ok (.return_, 1) := by decide +kernel
theorem pn_ali : plainName "java/util/ArrayList" = true := by first | (simp [plainName, overriddenIn]; done) | decide +kernel
theorem d_int_0 : decode jdk_33_method_23_code 0 = .ok (.aload_n 0, 1) := by decide +kernel
theorem d_int_1 : decode jdk_33_method_23_code 1 = .ok (.invokespecial 202, 3) := by decide +kernel
theorem d_int_4 : decode jdk_33_method_23_code 4 = .ok (.aload_n 0, 1) := by decide +kernel
theorem d_int_5 : decode jdk_33_method_23_code 5 = .ok (.iload_n 1, 1) := by decide +kernel
theorem d_int_6 : decode jdk_33_method_23_code 6 = .ok (.putfield 205, 3) := by decide +kernel
theorem d_int_9 : decode jdk_33_method_23_code 9 = .ok (.return_, 1) := by decide +kernel
theorem pn_int : plainName "java/lang/Integer" = true := by first | (simp [plainName, overriddenIn]; done) | decide +kernel
theorem d_vo_0 : decode jdk_33_method_22_code 0 = .ok (.iload_n 0, 1) := by decide +kernel
theorem d_vo_1 : decode jdk_33_method_22_code 1 = .ok (.bipush (-128), 2) := by decide +kernel
theorem d_vo_3 : decode jdk_33_method_22_code 3 = .ok (.if_icmp .lt 20, 3) := by decide +kernel
theorem d_vo_23 : decode jdk_33_method_22_code 23 = .ok (.new 1, 3) := by decide +kernel
theorem d_vo_26 : decode jdk_33_method_22_code 26 = .ok (.dup, 1) := by decide +kernel
theorem d_vo_27 : decode jdk_33_method_22_code 27 = .ok (.iload_n 0, 1) := by decide +kernel
theorem d_vo_28 : decode jdk_33_method_22_code 28 = .ok (.invokespecial 199, 3) := by decide +kernel
theorem pd_1 : parseMethodDescriptor "(I)V" = some ⟨[.int], none⟩ := by decide +kernel
theorem d_vo_31 : decode jdk_33_method_22_code 31 = .ok (.areturn, 1) := by decide +kernel
theorem d_vo_6 : decode jdk_33_method_22_code 6 = .ok (.iload_n 0, 1) := by decide +kernel
theorem d_vo_7 : decode jdk_33_method_22_code 7 = .ok (.getstatic 191, 3) := by decide +kernel
theorem d_vo_10 : decode jdk_33_method_22_code 10 = .ok (.if_icmp .gt 13, 3) := by decide +kernel
theorem d_vo_13 : decode jdk_33_method_22_code 13 = .ok (.getstatic 195, 3) := by decide +kernel
theorem d_vo_16 : decode jdk_33_method_22_code 16 = .ok (.iload_n 0, 1) := by decide +kernel
theorem d_vo_17 : decode jdk_33_method_22_code 17 = .ok (.sipush 128, 3) := by decide +kernel
theorem d_vo_20 : decode jdk_33_method_22_code 20 = .ok (.iadd, 1) := by decide +kernel
theorem d_vo_21 : decode jdk_33_method_22_code 21 = .ok (.aaload, 1) := by decide +kernel
theorem d_vo_22 : decode jdk_33_method_22_code 22 = .ok (.areturn, 1) := by decide +kernel
theorem pn_vo : plainName "java/lang/Integer" = true := by first | (simp [plainName, overriddenIn]; done) | decide +kernel
theorem d_g1_0 : decode jdk_38_method_6_code 0 = .ok (.aload_n 0, 1) := by decide +kernel
theorem d_g1_1 : decode jdk_38_method_6_code 1 = .ok (.getfield 9, 3) := by decide +kernel
theorem d_g1_4 : decode jdk_38_method_6_code 4 = .ok (.arraylength, 1) := by decide +kernel
theorem d_g1_5 : decode jdk_38_method_6_code 5 = .ok (.istore_n 2, 1) := by decide +kernel
theorem d_g1_6 : decode jdk_38_method_6_code 6 = .ok (.iload_n 2, 1) := by decide +kernel
theorem d_g1_7 : decode jdk_38_method_6_code 7 = .ok (.ifCond .gt 13, 3) := by decide +kernel
theorem d_g1_10 : decode jdk_38_method_6_code 10 = .ok (.aload_n 0, 1) := by decide +kernel
theorem d_g1_11 : decode jdk_38_method_6_code 11 = .ok (.getfield 9, 3) := by decide +kernel
theorem d_g1_14 : decode jdk_38_method_6_code 14 = .ok (.getstatic 39, 3) := by decide +kernel
theorem d_g1_17 : decode jdk_38_method_6_code 17 = .ok (.if_acmp .eq 28, 3) := by decide +kernel
theorem d_g1_45 : decode jdk_38_method_6_code 45 = .ok (.aload_n 0, 1) := by decide +kernel
theorem d_g1_46 : decode jdk_38_method_6_code 46 = .ok (.bipush 10, 2) := by decide +kernel
theorem d_g1_48 : decode jdk_38_method_6_code 48 = .ok (.iload_n 1, 1) := by decide +kernel
theorem d_g1_49 : decode jdk_38_method_6_code 49 = .ok (.invokestatic 79, 3) := by decide +kernel
theorem pd_2 : parseMethodDescriptor "(II)I" = some ⟨[.int, .int], some .int⟩ := by decide +kernel
theorem d_g1_52 : decode jdk_38_method_6_code 52 = .ok (.anewarray 7, 3) := by decide +kernel
theorem d_g1_55 : decode jdk_38_method_6_code 55 = .ok (.dup_x1, 1) := by decide +kernel
theorem d_g1_56 : decode jdk_38_method_6_code 56 = .ok (.putfield 9, 3) := by decide +kernel
theorem d_g1_59 : decode jdk_38_method_6_code 59 = .ok (.areturn, 1) := by decide +kernel
theorem pn_g1 : plainName "java/util/ArrayList" = true := by first | (simp [plainName, overriddenIn]; done) | decide +kernel
theorem d_g0_0 : decode jdk_38_method_7_code 0 = .ok (.aload_n 0, 1) := by decide +kernel
theorem d_g0_1 : decode jdk_38_method_7_code 1 = .ok (.aload_n 0, 1) := by decide +kernel
theorem d_g0_2 : decode jdk_38_method_7_code 2 = .ok (.getfield 48, 3) := by decide +kernel
theorem d_g0_5 : decode jdk_38_method_7_code 5 = .ok (.iconst 1, 1) := by decide +kernel
theorem d_g0_6 : decode jdk_38_method_7_code 6 = .ok (.iadd, 1) := by decide +kernel
theorem d_g0_7 : decode jdk_38_method_7_code 7 = .ok (.invokevirtual 69, 3) := by decide +kernel
theorem pd_3 : parseMethodDescriptor "(I)[Ljava/lang/Object;" = some ⟨[.int], some (.array (.object "java/lang/Object"))⟩ := by decide +kernel
theorem d_g0_10 : decode jdk_38_method_7_code 10 = .ok (.areturn, 1) := by decide +kernel
theorem pn_g0 : plainName "java/util/ArrayList" = true := by first | (simp [plainName, overriddenIn]; done) | decide +kernel
theorem d_hA_0 : decode jdk_38_method_24_code 0 = .ok (.iload_n 3, 1) := by decide +kernel
theorem d_hA_1 : decode jdk_38_method_24_code 1 = .ok (.aload_n 2, 1) := by decide +kernel
theorem d_hA_2 : decode jdk_38_method_24_code 2 = .ok (.arraylength, 1) := by decide +kernel
theorem d_hA_3 : decode jdk_38_method_24_code 3 = .ok (.if_icmp .ne 8, 3) := by decide +kernel
theorem d_hA_6 : decode jdk_38_method_24_code 6 = .ok (.aload_n 0, 1) := by decide +kernel
theorem d_hA_7 : decode jdk_38_method_24_code 7 = .ok (.invokevirtual 129, 3) := by decide +kernel
theorem pd_4 : parseMethodDescriptor "()[Ljava/lang/Object;" = some ⟨[], some (.array (.object "java/lang/Object"))⟩ := by decide +kernel
theorem d_hA_10 : decode jdk_38_method_24_code 10 = .ok (.astore_n 2, 1) := by decide +kernel
theorem d_hA_11 : decode jdk_38_method_24_code 11 = .ok (.aload_n 2, 1) := by decide +kernel
theorem d_hA_12 : decode jdk_38_method_24_code 12 = .ok (.iload_n 3, 1) := by decide +kernel
theorem d_hA_13 : decode jdk_38_method_24_code 13 = .ok (.aload_n 1, 1) := by decide +kernel
theorem d_hA_14 : decode jdk_38_method_24_code 14 = .ok (.aastore, 1) := by decide +kernel
theorem d_hA_15 : decode jdk_38_method_24_code 15 = .ok (.aload_n 0, 1) := by decide +kernel
theorem d_hA_16 : decode jdk_38_method_24_code 16 = .ok (.iload_n 3, 1) := by decide +kernel
theorem d_hA_17 : decode jdk_38_method_24_code 17 = .ok (.iconst 1, 1) := by decide +kernel
theorem d_hA_18 : decode jdk_38_method_24_code 18 = .ok (.iadd, 1) := by decide +kernel
theorem d_hA_19 : decode jdk_38_method_24_code 19 = .ok (.putfield 48, 3) := by decide +kernel
theorem d_hA_22 : decode jdk_38_method_24_code 22 = .ok (.return_, 1) := by decide +kernel
theorem pn_hA : plainName "java/util/ArrayList" = true := by first | (simp [plainName, overriddenIn]; done) | decide +kernel
theorem d_hB_0 : decode jdk_38_method_24_code 0 = .ok (.iload_n 3, 1) := by decide +kernel
theorem d_hB_1 : decode jdk_38_method_24_code 1 = .ok (.aload_n 2, 1) := by decide +kernel
theorem d_hB_2 : decode jdk_38_method_24_code 2 = .ok (.arraylength, 1) := by decide +kernel
theorem d_hB_3 : decode jdk_38_method_24_code 3 = .ok (.if_icmp .ne 8, 3) := by decide +kernel
theorem d_hB_11 : decode jdk_38_method_24_code 11 = .ok (.aload_n 2, 1) := by decide +kernel
theorem d_hB_12 : decode jdk_38_method_24_code 12 = .ok (.iload_n 3, 1) := by decide +kernel
theorem d_hB_13 : decode jdk_38_method_24_code 13 = .ok (.aload_n 1, 1) := by decide +kernel
theorem d_hB_14 : decode jdk_38_method_24_code 14 = .ok (.aastore, 1) := by decide +kernel
theorem d_hB_15 : decode jdk_38_method_24_code 15 = .ok (.aload_n 0, 1) := by decide +kernel
theorem d_hB_16 : decode jdk_38_method_24_code 16 = .ok (.iload_n 3, 1) := by decide +kernel
theorem d_hB_17 : decode jdk_38_method_24_code 17 = .ok (.iconst 1, 1) := by decide +kernel
theorem d_hB_18 : decode jdk_38_method_24_code 18 = .ok (.iadd, 1) := by decide +kernel
theorem d_hB_19 : decode jdk_38_method_24_code 19 = .ok (.putfield 48, 3) := by decide +kernel
theorem d_hB_22 : decode jdk_38_method_24_code 22 = .ok (.return_, 1) := by decide +kernel
theorem pn_hB : plainName "java/util/ArrayList" = true := by first | (simp [plainName, overriddenIn]; done) | decide +kernel
theorem d_aA_0 : decode jdk_38_method_25_code 0 = .ok (.aload_n 0, 1) := by decide +kernel
theorem d_aA_1 : decode jdk_38_method_25_code 1 = .ok (.dup, 1) := by decide +kernel
theorem d_aA_2 : decode jdk_38_method_25_code 2 = .ok (.getfield 63, 3) := by decide +kernel
theorem d_aA_5 : decode jdk_38_method_25_code 5 = .ok (.iconst 1, 1) := by decide +kernel
theorem d_aA_6 : decode jdk_38_method_25_code 6 = .ok (.iadd, 1) := by decide +kernel
theorem d_aA_7 : decode jdk_38_method_25_code 7 = .ok (.putfield 63, 3) := by decide +kernel
theorem d_aA_10 : decode jdk_38_method_25_code 10 = .ok (.aload_n 0, 1) := by decide +kernel
theorem d_aA_11 : decode jdk_38_method_25_code 11 = .ok (.aload_n 1, 1) := by decide +kernel
theorem d_aA_12 : decode jdk_38_method_25_code 12 = .ok (.aload_n 0, 1) := by decide +kernel
theorem d_aA_13 : decode jdk_38_method_25_code 13 = .ok (.getfield 9, 3) := by decide +kernel
theorem d_aA_16 : decode jdk_38_method_25_code 16 = .ok (.aload_n 0, 1) := by decide +kernel
theorem d_aA_17 : decode jdk_38_method_25_code 17 = .ok (.getfield 48, 3) := by decide +kernel
theorem d_aA_20 : decode jdk_38_method_25_code 20 = .ok (.invokevirtual 131, 3) := by decide +kernel
theorem pd_5 : parseMethodDescriptor "(Ljava/lang/Object;[Ljava/lang/Object;I)V" = some ⟨[(.object "java/lang/Object"), (.array (.object "java/lang/Object")), .int], none⟩ := by decide +kernel
theorem d_aA_23 : decode jdk_38_method_25_code 23 = .ok (.iconst 1, 1) := by decide +kernel
theorem d_aA_24 : decode jdk_38_method_25_code 24 = .ok (.ireturn, 1) := by decide +kernel
theorem pn_aA : plainName "java/util/ArrayList" = true := by first | (simp [plainName, overriddenIn]; done) | decide +kernel
theorem d_aB_0 : decode jdk_38_method_25_code 0 = .ok (.aload_n 0, 1) := by decide +kernel
theorem d_aB_1 : decode jdk_38_method_25_code 1 = .ok (.dup, 1) := by decide +kernel
theorem d_aB_2 : decode jdk_38_method_25_code 2 = .ok (.getfield 63, 3) := by decide +kernel
theorem d_aB_5 : decode jdk_38_method_25_code 5 = .ok (.iconst 1, 1) := by decide +kernel
theorem d_aB_6 : decode jdk_38_method_25_code 6 = .ok (.iadd, 1) := by decide +kernel
theorem d_aB_7 : decode jdk_38_method_25_code 7 = .ok (.putfield 63, 3) := by decide +kernel
theorem d_aB_10 : decode jdk_38_method_25_code 10 = .ok (.aload_n 0, 1) := by decide +kernel
theorem d_aB_11 : decode jdk_38_method_25_code 11 = .ok (.aload_n 1, 1) := by decide +kernel
theorem d_aB_12 : decode jdk_38_method_25_code 12 = .ok (.aload_n 0, 1) := by decide +kernel
theorem d_aB_13 : decode jdk_38_method_25_code 13 = .ok (.getfield 9, 3) := by decide +kernel
theorem d_aB_16 : decode jdk_38_method_25_code 16 = .ok (.aload_n 0, 1) := by decide +kernel
theorem d_aB_17 : decode jdk_38_method_25_code 17 = .ok (.getfield 48, 3) := by decide +kernel
theorem d_aB_20 : decode jdk_38_method_25_code 20 = .ok (.invokevirtual 131, 3) := by decide +kernel
theorem d_aB_23 : decode jdk_38_method_25_code 23 = .ok (.iconst 1, 1) := by decide +kernel
theorem d_aB_24 : decode jdk_38_method_25_code 24 = .ok (.ireturn, 1) := by decide +kernel
theorem pn_aB : plainName "java/util/ArrayList" = true := by first | (simp [plainName, overriddenIn]; done) | decide +kernel
theorem d_rci_0 : decode prog_17_method_1_code 0 = .ok (.aload_n 0, 1) := by decide +kernel
theorem d_rci_1 : decode prog_17_method_1_code 1 = .ok (.invokespecial 3, 3) := by decide +kernel
theorem d_rci_4 : decode prog_17_method_1_code 4 = .ok (.aload_n 0, 1) := by decide +kernel
theorem d_rci_5 : decode prog_17_method_1_code 5 = .ok (.iload_n 1, 1) := by decide +kernel
theorem d_rci_6 : decode prog_17_method_1_code 6 = .ok (.putfield 9, 3) := by decide +kernel
theorem d_rci_9 : decode prog_17_method_1_code 9 = .ok (.aload_n 0, 1) := by decide +kernel
theorem d_rci_10 : decode prog_17_method_1_code 10 = .ok (.iload_n 2, 1) := by decide +kernel
theorem d_rci_11 : decode prog_17_method_1_code 11 = .ok (.putfield 15, 3) := by decide +kernel
theorem d_rci_14 : decode prog_17_method_1_code 14 = .ok (.aload_n 0, 1) := by decide +kernel
theorem d_rci_15 : decode prog_17_method_1_code 15 = .ok (.iload_n 3, 1) := by decide +kernel
theorem d_rci_16 : decode prog_17_method_1_code 16 = .ok (.putfield 18, 3) := by decide +kernel
theorem d_rci_19 : decode prog_17_method_1_code 19 = .ok (.aload_n 0, 1) := by decide +kernel
theorem d_rci_20 : decode prog_17_method_1_code 20 = .ok (.aload 4, 2) := by decide +kernel
theorem d_rci_22 : decode prog_17_method_1_code 22 = .ok (.putfield 21, 3) := by decide +kernel
theorem d_rci_25 : decode prog_17_method_1_code 25 = .ok (.return_, 1) := by decide +kernel
theorem pn_rci : plainName "com/example/coppice/coppice/classfile/Bytecode$Instruction" = true := by first | (simp [plainName, overriddenIn]; done) | decide +kernel
theorem d_ef_0 : decode method_2_code 0 = .ok (.iload_n 0, 1) := by decide +kernel
theorem d_ef_1 : decode method_2_code 1 = .ok (.sipush 167, 3) := by decide +kernel
theorem d_ef_4 : decode method_2_code 4 = .ok (.if_icmp .ne 5, 3) := by decide +kernel
theorem d_ef_7 : decode method_2_code 7 = .ok (.iconst 1, 1) := by decide +kernel
theorem d_ef_8 : decode method_2_code 8 = .ok (.ireturn, 1) := by decide +kernel
theorem d_ef_9 : decode method_2_code 9 = .ok (.iload_n 0, 1) := by decide +kernel
theorem d_ef_10 : decode method_2_code 10 = .ok (.sipush 168, 3) := by decide +kernel
theorem d_ef_13 : decode method_2_code 13 = .ok (.if_icmp .ne 5, 3) := by decide +kernel
theorem d_ef_16 : decode method_2_code 16 = .ok (.iconst 1, 1) := by decide +kernel
theorem d_ef_17 : decode method_2_code 17 = .ok (.ireturn, 1) := by decide +kernel
theorem d_ef_18 : decode method_2_code 18 = .ok (.iload_n 0, 1) := by decide +kernel
theorem d_ef_19 : decode method_2_code 19 = .ok (.sipush 169, 3) := by decide +kernel
theorem d_ef_22 : decode method_2_code 22 = .ok (.if_icmp .ne 5, 3) := by decide +kernel
theorem d_ef_25 : decode method_2_code 25 = .ok (.iconst 1, 1) := by decide +kernel
theorem d_ef_26 : decode method_2_code 26 = .ok (.ireturn, 1) := by decide +kernel
theorem d_ef_27 : decode method_2_code 27 = .ok (.iload_n 0, 1) := by decide +kernel
theorem d_ef_28 : decode method_2_code 28 = .ok (.sipush 170, 3) := by decide +kernel
theorem d_ef_31 : decode method_2_code 31 = .ok (.if_icmp .ne 5, 3) := by decide +kernel
theorem d_ef_34 : decode method_2_code 34 = .ok (.iconst 1, 1) := by decide +kernel
theorem d_ef_35 : decode method_2_code 35 = .ok (.ireturn, 1) := by decide +kernel
theorem d_ef_36 : decode method_2_code 36 = .ok (.iload_n 0, 1) := by decide +kernel
theorem d_ef_37 : decode method_2_code 37 = .ok (.sipush 171, 3) := by decide +kernel
theorem d_ef_40 : decode method_2_code 40 = .ok (.if_icmp .ne 5, 3) := by decide +kernel
theorem d_ef_43 : decode method_2_code 43 = .ok (.iconst 1, 1) := by decide +kernel
theorem d_ef_44 : decode method_2_code 44 = .ok (.ireturn, 1) := by decide +kernel
theorem d_ef_45 : decode method_2_code 45 = .ok (.iload_n 0, 1) := by decide +kernel
theorem d_ef_46 : decode method_2_code 46 = .ok (.sipush 172, 3) := by decide +kernel
theorem d_ef_49 : decode method_2_code 49 = .ok (.if_icmp .ne 5, 3) := by decide +kernel
theorem d_ef_52 : decode method_2_code 52 = .ok (.iconst 1, 1) := by decide +kernel
theorem d_ef_53 : decode method_2_code 53 = .ok (.ireturn, 1) := by decide +kernel
theorem d_ef_54 : decode method_2_code 54 = .ok (.iload_n 0, 1) := by decide +kernel
theorem d_ef_55 : decode method_2_code 55 = .ok (.sipush 173, 3) := by decide +kernel
theorem d_ef_58 : decode method_2_code 58 = .ok (.if_icmp .ne 5, 3) := by decide +kernel
theorem d_ef_61 : decode method_2_code 61 = .ok (.iconst 1, 1) := by decide +kernel
theorem d_ef_62 : decode method_2_code 62 = .ok (.ireturn, 1) := by decide +kernel
theorem d_ef_63 : decode method_2_code 63 = .ok (.iload_n 0, 1) := by decide +kernel
theorem d_ef_64 : decode method_2_code 64 = .ok (.sipush 174, 3) := by decide +kernel
theorem d_ef_67 : decode method_2_code 67 = .ok (.if_icmp .ne 5, 3) := by decide +kernel
theorem d_ef_70 : decode method_2_code 70 = .ok (.iconst 1, 1) := by decide +kernel
theorem d_ef_71 : decode method_2_code 71 = .ok (.ireturn, 1) := by decide +kernel
theorem d_ef_72 : decode method_2_code 72 = .ok (.iload_n 0, 1) := by decide +kernel
theorem d_ef_73 : decode method_2_code 73 = .ok (.sipush 175, 3) := by decide +kernel
theorem d_ef_76 : decode method_2_code 76 = .ok (.if_icmp .ne 5, 3) := by decide +kernel
theorem d_ef_79 : decode method_2_code 79 = .ok (.iconst 1, 1) := by decide +kernel
theorem d_ef_80 : decode method_2_code 80 = .ok (.ireturn, 1) := by decide +kernel
theorem d_ef_81 : decode method_2_code 81 = .ok (.iload_n 0, 1) := by decide +kernel
theorem d_ef_82 : decode method_2_code 82 = .ok (.sipush 176, 3) := by decide +kernel
theorem d_ef_85 : decode method_2_code 85 = .ok (.if_icmp .ne 5, 3) := by decide +kernel
theorem d_ef_88 : decode method_2_code 88 = .ok (.iconst 1, 1) := by decide +kernel
theorem d_ef_89 : decode method_2_code 89 = .ok (.ireturn, 1) := by decide +kernel
theorem d_ef_90 : decode method_2_code 90 = .ok (.iload_n 0, 1) := by decide +kernel
theorem d_ef_91 : decode method_2_code 91 = .ok (.sipush 177, 3) := by decide +kernel
theorem d_ef_94 : decode method_2_code 94 = .ok (.if_icmp .ne 5, 3) := by decide +kernel
theorem d_ef_97 : decode method_2_code 97 = .ok (.iconst 1, 1) := by decide +kernel
theorem d_ef_98 : decode method_2_code 98 = .ok (.ireturn, 1) := by decide +kernel
theorem d_ef_99 : decode method_2_code 99 = .ok (.iload_n 0, 1) := by decide +kernel
theorem d_ef_100 : decode method_2_code 100 = .ok (.sipush 191, 3) := by decide +kernel
theorem d_ef_103 : decode method_2_code 103 = .ok (.if_icmp .ne 5, 3) := by decide +kernel
theorem d_ef_106 : decode method_2_code 106 = .ok (.iconst 1, 1) := by decide +kernel
theorem d_ef_107 : decode method_2_code 107 = .ok (.ireturn, 1) := by decide +kernel
theorem d_ef_108 : decode method_2_code 108 = .ok (.iload_n 0, 1) := by decide +kernel
theorem d_ef_109 : decode method_2_code 109 = .ok (.sipush 200, 3) := by decide +kernel
theorem d_ef_112 : decode method_2_code 112 = .ok (.if_icmp .ne 5, 3) := by decide +kernel
theorem d_ef_115 : decode method_2_code 115 = .ok (.iconst 1, 1) := by decide +kernel
theorem d_ef_116 : decode method_2_code 116 = .ok (.ireturn, 1) := by decide +kernel
theorem d_ef_117 : decode method_2_code 117 = .ok (.iload_n 0, 1) := by decide +kernel
theorem d_ef_118 : decode method_2_code 118 = .ok (.sipush 201, 3) := by decide +kernel
theorem d_ef_121 : decode method_2_code 121 = .ok (.if_icmp .ne 5, 3) := by decide +kernel
theorem d_ef_124 : decode method_2_code 124 = .ok (.iconst 1, 1) := by decide +kernel
theorem d_ef_125 : decode method_2_code 125 = .ok (.ireturn, 1) := by decide +kernel
theorem d_ef_126 : decode method_2_code 126 = .ok (.iconst 0, 1) := by decide +kernel
theorem d_ef_127 : decode method_2_code 127 = .ok (.ireturn, 1) := by decide +kernel
theorem pn_ef : plainName "com/example/coppice/coppice/classfile/InstructionFallsThroughPinLaw" = true := by first | (simp [plainName, overriddenIn]; done) | decide +kernel
theorem d_ft_0 : decode prog_17_method_2_code 0 = .ok (.aload_n 0, 1) := by decide +kernel
theorem d_ft_1 : decode prog_17_method_2_code 1 = .ok (.getfield 15, 3) := by decide +kernel
theorem d_ft_4 : decode prog_17_method_2_code 4 = .ok (.sipush 167, 3) := by decide +kernel
theorem d_ft_7 : decode prog_17_method_2_code 7 = .ok (.if_icmp .lt 43, 3) := by decide +kernel
theorem d_ft_50 : decode prog_17_method_2_code 50 = .ok (.iconst 1, 1) := by decide +kernel
theorem d_ft_51 : decode prog_17_method_2_code 51 = .ok (.goto 4, 3) := by decide +kernel
theorem d_ft_55 : decode prog_17_method_2_code 55 = .ok (.ireturn, 1) := by decide +kernel
theorem d_ft_10 : decode prog_17_method_2_code 10 = .ok (.aload_n 0, 1) := by decide +kernel
theorem d_ft_11 : decode prog_17_method_2_code 11 = .ok (.getfield 15, 3) := by decide +kernel
theorem d_ft_14 : decode prog_17_method_2_code 14 = .ok (.sipush 177, 3) := by decide +kernel
theorem d_ft_17 : decode prog_17_method_2_code 17 = .ok (.if_icmp .le 37, 3) := by decide +kernel
theorem d_ft_20 : decode prog_17_method_2_code 20 = .ok (.aload_n 0, 1) := by decide +kernel
theorem d_ft_21 : decode prog_17_method_2_code 21 = .ok (.getfield 15, 3) := by decide +kernel
theorem d_ft_24 : decode prog_17_method_2_code 24 = .ok (.sipush 191, 3) := by decide +kernel
theorem d_ft_27 : decode prog_17_method_2_code 27 = .ok (.if_icmp .eq 27, 3) := by decide +kernel
theorem d_ft_54 : decode prog_17_method_2_code 54 = .ok (.iconst 0, 1) := by decide +kernel
theorem d_ft_30 : decode prog_17_method_2_code 30 = .ok (.aload_n 0, 1) := by decide +kernel
theorem d_ft_31 : decode prog_17_method_2_code 31 = .ok (.getfield 15, 3) := by decide +kernel
theorem d_ft_34 : decode prog_17_method_2_code 34 = .ok (.sipush 200, 3) := by decide +kernel
theorem d_ft_37 : decode prog_17_method_2_code 37 = .ok (.if_icmp .eq 17, 3) := by decide +kernel
theorem d_ft_40 : decode prog_17_method_2_code 40 = .ok (.aload_n 0, 1) := by decide +kernel
theorem d_ft_41 : decode prog_17_method_2_code 41 = .ok (.getfield 15, 3) := by decide +kernel
theorem d_ft_44 : decode prog_17_method_2_code 44 = .ok (.sipush 201, 3) := by decide +kernel
theorem d_ft_47 : decode prog_17_method_2_code 47 = .ok (.if_icmp .eq 7, 3) := by decide +kernel
theorem pn_ft : plainName "com/example/coppice/coppice/classfile/Bytecode$Instruction" = true := by first | (simp [plainName, overriddenIn]; done) | decide +kernel
theorem pd_6 : parseMethodDescriptor "(IIILjava/util/List;)V" = some ⟨[.int, .int, .int, (.object "java/util/List")], none⟩ := by decide +kernel
theorem pd_7 : parseMethodDescriptor "(I)Z" = some ⟨[.int], some .boolean⟩ := by decide +kernel
theorem pd_8 : parseMethodDescriptor "()Z" = some ⟨[], some .boolean⟩ := by decide +kernel
theorem pd_9 : parseMethodDescriptor "(I)Ljava/lang/Integer;" = some ⟨[.int], some (.object "java/lang/Integer")⟩ := by decide +kernel
theorem pd_10 : parseMethodDescriptor "(Ljava/lang/Object;)Z" = some ⟨[(.object "java/lang/Object")], some .boolean⟩ := by decide +kernel
theorem pn_law : plainName "com/example/coppice/coppice/classfile/InstructionFallsThroughPinLaw" = true := by first | (simp [plainName, overriddenIn]; done) | decide +kernel
theorem own_ix {p : Int32} (h1 : ¬ p < (-128 : Int32)) (h2 : ¬ (127 : Int32) < p) : ¬ (p + (128 : Int32)) < 0 ∧ (p + (128 : Int32)).toNatClampNeg < 256 := by
  rw [Int32.lt_iff_toInt_lt] at h1 h2
  have a1 : (-128 : Int32).toInt = -128 := by decide
  have a2 : (127 : Int32).toInt = 127 := by decide
  have a3 : (128 : Int32).toInt = 128 := by decide
  have e : (p + (128 : Int32)).toInt = p.toInt + 128 := Jvm.Kit.i32_add (by rw [a3]; omega) (by rw [a3]; omega)
  refine ⟨by rw [Int32.lt_iff_toInt_lt, e]; show ¬ _ < (0 : Int); omega, ?_⟩
  simp only [Int32.toNatClampNeg, e]; omega

def Q_rec (Z : State) (a : Addr) (h0 : Heap) (n0 : Nat) (v : Option Value) (h : Heap) (L : List Loc) : Prop := v = none ∧ Fr n0 L ∧ h = h0
theorem ef_rec (m : MethodId) (x0 : Addr) : entryFrame m #[(.ref x0)] 1 = mkF m 0 #[.val (.ref x0)] [] := by first | (simp [entryFrame, mkF, argsToLocals, Value.category]; done) | rfl
set_option maxRecDepth 65536 in
set_option maxHeartbeats 40000000 in
theorem rm_rec (l : Launch) (Z : State) (a0 : Array Value) (hw : ∀ d ∈ tables_1, d.before a0 Z = true) (a : Addr) (h0 : Heap) (n0 : Nat) (Z0 : n0 ≤ h0.size)  :
    Met l Z (⟨"java/lang/Record", "<init>", "()V"⟩ : MethodName) jdk_30_method_1_code 1 none [] ({ frames := 1, cells := 0, slots := 0, locals := 12 } : Room) #[(.ref a)] h0 (Q_rec Z a h0 n0) := by
  refine Met.of (plainFor_of_name pn_rec) ?_
  intro p e s m below meth c s₁ X0 hx hby hml hZ hown hnm e0 hret hlk
  refine Go.cast (ef_rec m a) ?_
  show Go _ _ _ _ s₁ (mkF m 0 #[.val (.ref a)] []) _ _ _
  have N0 := Fr.nil n0
  refine Go.aloadN X0 hx (hb hby d_rec_0) rfl rfl ?_
  show Go _ _ _ _ s₁ (mkF m 1 #[.val (.ref a)] [(.ref a)]) _ _ _
  refine Go.initO (W := 0) X0 hx hZ hown (w37 hw) (w19 hw) (w20 hw) e0 (hb hby d_rec_1) (by rw [hml]; rfl) (Nat.le_of_eq rfl) (by decide) (by decide) ?_
  intro T1 X1 e1
  show Go _ _ _ _ T1 (mkF m 4 #[.val (.ref a)] []) _ _ _
  refine Go.ret0 X1 hx hlk hret (hb hby d_rec_4) (by decide) (by decide) ?_
  rw [e1]
  exact ⟨rfl, N0, rfl⟩
def Q_num (Z : State) (a : Addr) (h0 : Heap) (n0 : Nat) (v : Option Value) (h : Heap) (L : List Loc) : Prop := v = none ∧ Fr n0 L ∧ h = h0
theorem ef_num (m : MethodId) (x0 : Addr) : entryFrame m #[(.ref x0)] 1 = mkF m 0 #[.val (.ref x0)] [] := by first | (simp [entryFrame, mkF, argsToLocals, Value.category]; done) | rfl
set_option maxRecDepth 65536 in
set_option maxHeartbeats 40000000 in
theorem rm_num (l : Launch) (Z : State) (a0 : Array Value) (hw : ∀ d ∈ tables_1, d.before a0 Z = true) (a : Addr) (h0 : Heap) (n0 : Nat) (Z0 : n0 ≤ h0.size)  :
    Met l Z (⟨"java/lang/Number", "<init>", "()V"⟩ : MethodName) jdk_18_method_1_code 1 none [] ({ frames := 1, cells := 0, slots := 0, locals := 12 } : Room) #[(.ref a)] h0 (Q_num Z a h0 n0) := by
  refine Met.of (plainFor_of_name pn_num) ?_
  intro p e s m below meth c s₁ X0 hx hby hml hZ hown hnm e0 hret hlk
  refine Go.cast (ef_num m a) ?_
  show Go _ _ _ _ s₁ (mkF m 0 #[.val (.ref a)] []) _ _ _
  have N0 := Fr.nil n0
  refine Go.aloadN X0 hx (hb hby d_num_0) rfl rfl ?_
  show Go _ _ _ _ s₁ (mkF m 1 #[.val (.ref a)] [(.ref a)]) _ _ _
  refine Go.initO (W := 0) X0 hx hZ hown (w109 hw) (w19 hw) (w20 hw) e0 (hb hby d_num_1) (by rw [hml]; rfl) (Nat.le_of_eq rfl) (by decide) (by decide) ?_
  intro T2 X2 e2
  show Go _ _ _ _ T2 (mkF m 4 #[.val (.ref a)] []) _ _ _
  refine Go.ret0 X2 hx hlk hret (hb hby d_num_4) (by decide) (by decide) ?_
  rw [e2]
  exact ⟨rfl, N0, rfl⟩
def Q_abc (Z : State) (a : Addr) (h0 : Heap) (n0 : Nat) (v : Option Value) (h : Heap) (L : List Loc) : Prop := v = none ∧ Fr n0 L ∧ h = h0
theorem ef_abc (m : MethodId) (x0 : Addr) : entryFrame m #[(.ref x0)] 1 = mkF m 0 #[.val (.ref x0)] [] := by first | (simp [entryFrame, mkF, argsToLocals, Value.category]; done) | rfl
set_option maxRecDepth 65536 in
set_option maxHeartbeats 40000000 in
theorem rm_abc (l : Launch) (Z : State) (a0 : Array Value) (hw : ∀ d ∈ tables_1, d.before a0 Z = true) (a : Addr) (h0 : Heap) (n0 : Nat) (Z0 : n0 ≤ h0.size)  :
    Met l Z (⟨"java/util/AbstractCollection", "<init>", "()V"⟩ : MethodName) jdk_22_method_1_code 1 none [] ({ frames := 1, cells := 0, slots := 0, locals := 12 } : Room) #[(.ref a)] h0 (Q_abc Z a h0 n0) := by
  refine Met.of (plainFor_of_name pn_abc) ?_
  intro p e s m below meth c s₁ X0 hx hby hml hZ hown hnm e0 hret hlk
  refine Go.cast (ef_abc m a) ?_
  show Go _ _ _ _ s₁ (mkF m 0 #[.val (.ref a)] []) _ _ _
  have N0 := Fr.nil n0
  refine Go.aloadN X0 hx (hb hby d_abc_0) rfl rfl ?_
  show Go _ _ _ _ s₁ (mkF m 1 #[.val (.ref a)] [(.ref a)]) _ _ _
  refine Go.initO (W := 0) X0 hx hZ hown (w18 hw) (w19 hw) (w20 hw) e0 (hb hby d_abc_1) (by rw [hml]; rfl) (Nat.le_of_eq rfl) (by decide) (by decide) ?_
  intro T3 X3 e3
  show Go _ _ _ _ T3 (mkF m 4 #[.val (.ref a)] []) _ _ _
  refine Go.ret0 X3 hx hlk hret (hb hby d_abc_4) (by decide) (by decide) ?_
  rw [e3]
  exact ⟨rfl, N0, rfl⟩
def F_max (p0 : Int32) (p1 : Int32) : Int32 := (if p0 < p1 then p1 else p0)
def Q_max (p0 : Int32) (p1 : Int32) (h0 : Heap) (v : Option Value) (h : Heap) (L : List Loc) : Prop := v = some (.int (F_max p0 p1)) ∧ L = [] ∧ h = h0
theorem ef_max (m : MethodId) (x0 : Int32) (x1 : Int32) : entryFrame m #[(.int x0), (.int x1)] 2 = mkF m 0 #[.val (.int x0), .val (.int x1)] [] := by first | (simp [entryFrame, mkF, argsToLocals, Value.category]; done) | rfl
set_option maxRecDepth 65536 in
set_option maxHeartbeats 40000000 in
theorem rm_max (l : Launch) (Z : State) (a0 : Array Value) (hw : ∀ d ∈ tables_1, d.before a0 Z = true) (p0 : Int32) (p1 : Int32) (h0 : Heap)  :
    Met l Z (⟨"java/lang/Math", "max", "(II)I"⟩ : MethodName) jdk_29_method_65_code 2 (Option.some Jvm.ClassFile.FieldType.int) [] ({ frames := 0, cells := 0, slots := 0, locals := 0 } : Room) #[(.int p0), (.int p1)] h0 (Q_max p0 p1 h0) := by
  refine Met.of ((by decide +kernel)) ?_
  intro p e s m below meth c s₁ X0 hx hby hml hZ hown hnm e0 hret hlk
  refine Go.cast (ef_max m p0 p1) ?_
  show Go _ _ _ _ s₁ (mkF m 0 #[.val (.int p0), .val (.int p1)] []) _ _ _
  refine Go.iloadN X0 hx (hb hby d_max_0) rfl ?_
  show Go _ _ _ _ s₁ (mkF m 1 #[.val (.int p0), .val (.int p1)] [(.int p0)]) _ _ _
  refine Go.iloadN X0 hx (hb hby d_max_1) rfl ?_
  show Go _ _ _ _ s₁ (mkF m 2 #[.val (.int p0), .val (.int p1)] [(.int p1), (.int p0)]) _ _ _
  rcases Decidable.em (p0 < p1) with c4 | c4
  · refine Go.icmpYes X0 hx (hb hby d_max_2) (XT.ii_lt_t c4) (pc' := 9) (by decide) (by decide) ?_
    show Go _ _ _ _ s₁ (mkF m 9 #[.val (.int p0), .val (.int p1)] []) _ _ _
    refine Go.iloadN X0 hx (hb hby d_max_9) rfl ?_
    show Go _ _ _ _ s₁ (mkF m 10 #[.val (.int p0), .val (.int p1)] [(.int p1)]) _ _ _
    refine Go.retI X0 hx hlk hret (hb hby d_max_10) (by decide) (by decide) ?_
    rw [e0]
    exact ⟨by unfold F_max; rw [if_pos c4], rfl, rfl⟩
  · refine Go.icmpNo X0 hx (hb hby d_max_2) (XT.ii_lt_f c4) ?_
    show Go _ _ _ _ s₁ (mkF m 5 #[.val (.int p0), .val (.int p1)] []) _ _ _
    refine Go.iloadN X0 hx (hb hby d_max_5) rfl ?_
    show Go _ _ _ _ s₁ (mkF m 6 #[.val (.int p0), .val (.int p1)] [(.int p0)]) _ _ _
    refine Go.goto X0 hx (hb hby d_max_6) (pc' := 10) (by decide) (by decide) ?_
    show Go _ _ _ _ s₁ (mkF m 10 #[.val (.int p0), .val (.int p1)] [(.int p0)]) _ _ _
    refine Go.retI X0 hx hlk hret (hb hby d_max_10) (by decide) (by decide) ?_
    rw [e0]
    exact ⟨by unfold F_max; rw [if_neg c4], rfl, rfl⟩
def Q_abl (Z : State) (a : Addr) (h0 : Heap) (n0 : Nat) (v : Option Value) (h : Heap) (L : List Loc) : Prop := v = none ∧ Fr n0 L ∧ Keep h0 h [a] ∧ Exa Z h a "java/util/ArrayList" ∧ Fld Z h a "java/util/AbstractList" "modCount" "I" (.int (0 : Int32)) ∧ Fld Z h a "java/util/ArrayList" "elementData" "[Ljava/lang/Object;" .null ∧ Fld Z h a "java/util/ArrayList" "size" "I" (.int (0 : Int32))
theorem ef_abl (m : MethodId) (x0 : Addr) : entryFrame m #[(.ref x0)] 1 = mkF m 0 #[.val (.ref x0)] [] := by first | (simp [entryFrame, mkF, argsToLocals, Value.category]; done) | rfl
set_option maxRecDepth 65536 in
set_option maxHeartbeats 40000000 in
theorem rm_abl (l : Launch) (Z : State) (a0 : Array Value) (hw : ∀ d ∈ tables_1, d.before a0 Z = true) (a : Addr) (h0 : Heap) (n0 : Nat) (Z0 : n0 ≤ h0.size) (f0 : Exa Z h0 a "java/util/ArrayList") (f1 : n0 ≤ a) (f2 : Fld Z h0 a "java/util/AbstractList" "modCount" "I" (.int (0 : Int32))) (f3 : Fld Z h0 a "java/util/ArrayList" "elementData" "[Ljava/lang/Object;" .null) (f4 : Fld Z h0 a "java/util/ArrayList" "size" "I" (.int (0 : Int32))) :
    Met l Z (⟨"java/util/AbstractList", "<init>", "()V"⟩ : MethodName) jdk_39_method_1_code 1 none [] ({ frames := 2, cells := 0, slots := 0, locals := 24 } : Room) #[(.ref a)] h0 (Q_abl Z a h0 n0) := by
  refine Met.of (plainFor_of_name pn_abl) ?_
  intro p e s m below meth c s₁ X0 hx hby hml hZ hown hnm e0 hret hlk
  refine Go.cast (ef_abl m a) ?_
  show Go _ _ _ _ s₁ (mkF m 0 #[.val (.ref a)] []) _ _ _
  have N0 := Fr.nil n0
  refine Go.aloadN X0 hx (hb hby d_abl_0) rfl rfl ?_
  show Go _ _ _ _ s₁ (mkF m 1 #[.val (.ref a)] [(.ref a)]) _ _ _
  refine Go.callI (W := 0) (a := a) (argsL := []) (rest := []) X0 hx hZ hown rfl (w12 hw) (w13 hw) (w16 hw) (w17 hw) (by decide) (rm_abc l Z a0 hw a h0 n0 Z0 ) e0 (lenOf pd_0 rfl) (hb hby d_abl_1) (by rw [hml]; rfl) rfl (Nat.le_of_eq rfl) (by decide) (by decide) (by decide) (by decide) ?_
  intro v5 T5 L5 X5 q5
  obtain ⟨rfl, M5, e5⟩ := q5
  have N5 := Fr.app N0 M5
  show Go _ _ _ _ T5 (mkF m 4 #[.val (.ref a)] []) _ _ _
  refine Go.aloadN X5 hx (hb hby d_abl_4) rfl rfl ?_
  show Go _ _ _ _ T5 (mkF m 5 #[.val (.ref a)] [(.ref a)]) _ _ _
  refine Go.iconst X5 hx (hb hby d_abl_5) ?_
  show Go _ _ _ _ T5 (mkF m 6 #[.val (.ref a)] [(.int (0 : Int32)), (.ref a)]) _ _ _
  refine Go.putF X5 hx hZ hown (w21 hw) Via.refl e5 f2 f0 (Or.inl (w22 hw)) (w1 hw) (ty := .int) (by decide) rfl rfl (hb hby d_abl_6) ?_
  intro T6 h6 X6 e6 W6
  have N6 := Fr.snoc X6 N5 f1
  have Z6 : n0 ≤ h6.size := by rw [Wr.size W6]; exact Z0
  have B6 : h0.size ≤ h6.size := by rw [Wr.size W6]; exact (Nat.le_refl _)
  show Go _ _ _ _ T6 (mkF m 9 #[.val (.ref a)] []) _ _ _
  refine Go.ret0 X6 hx hlk hret (hb hby d_abl_9) (by decide) (by decide) ?_
  rw [e6]
  have F7 := (Fld.other W6 f3 (Or.inr (slot_ne (a0 := a0) (Or.inl (w25 hw)) (Or.inl (w22 hw)) (t := (.array (.object "java/lang/Object"))) (t' := .int) (by decide) (by decide) (by decide))))
  have F8 := (Fld.other W6 f4 (Or.inr (slot_ne (a0 := a0) (Or.inl (w74 hw)) (Or.inl (w22 hw)) (t := .int) (t' := .int) (by decide) (by decide) (by decide))))
  exact ⟨rfl, N6, (Keep.wr (Keep.refl _ _) W6 (Or.inl (List.mem_of_getElem? (i := 0) rfl))), (Exa.wr W6 f0), (Fld.same W6 f2), F7, F8⟩
def Q_ali (Z : State) (a : Addr) (de : Addr) (h0 : Heap) (n0 : Nat) (v : Option Value) (h : Heap) (L : List Loc) : Prop := v = none ∧ Fr n0 L ∧ Keep h0 h [a] ∧ Exa Z h a "java/util/ArrayList" ∧ Fld Z h a "java/util/AbstractList" "modCount" "I" (.int (0 : Int32)) ∧ Fld Z h a "java/util/ArrayList" "elementData" "[Ljava/lang/Object;" (.ref de) ∧ Fld Z h a "java/util/ArrayList" "size" "I" (.int (0 : Int32))
theorem ef_ali (m : MethodId) (x0 : Addr) : entryFrame m #[(.ref x0)] 1 = mkF m 0 #[.val (.ref x0)] [] := by first | (simp [entryFrame, mkF, argsToLocals, Value.category]; done) | rfl
set_option maxRecDepth 65536 in
set_option maxHeartbeats 40000000 in
theorem rm_ali (l : Launch) (Z : State) (a0 : Array Value) (hw : ∀ d ∈ tables_1, d.before a0 Z = true) (a : Addr) (de : Addr) (h0 : Heap) (n0 : Nat) (Z0 : n0 ≤ h0.size) (f0 : Exa Z h0 a "java/util/ArrayList") (f1 : n0 ≤ a) (f2 : Fld Z h0 a "java/util/AbstractList" "modCount" "I" (.int (0 : Int32))) (f3 : Fld Z h0 a "java/util/ArrayList" "elementData" "[Ljava/lang/Object;" .null) (f4 : Fld Z h0 a "java/util/ArrayList" "size" "I" (.int (0 : Int32))) (f5 : Old Z n0 h0) (f6 : Sta Z Z.heap "java/util/ArrayList" "DEFAULTCAPACITY_EMPTY_ELEMENTDATA" "[Ljava/lang/Object;" (.ref de)) :
    Met l Z (⟨"java/util/ArrayList", "<init>", "()V"⟩ : MethodName) jdk_38_method_2_code 1 none [] ({ frames := 3, cells := 0, slots := 0, locals := 36 } : Room) #[(.ref a)] h0 (Q_ali Z a de h0 n0) := by
  refine Met.of (plainFor_of_name pn_ali) ?_
  intro p e s m below meth c s₁ X0 hx hby hml hZ hown hnm e0 hret hlk
  refine Go.cast (ef_ali m a) ?_
  show Go _ _ _ _ s₁ (mkF m 0 #[.val (.ref a)] []) _ _ _
  have N0 := Fr.nil n0
  refine Go.aloadN X0 hx (hb hby d_ali_0) rfl rfl ?_
  show Go _ _ _ _ s₁ (mkF m 1 #[.val (.ref a)] [(.ref a)]) _ _ _
  refine Go.callI (W := 0) (a := a) (argsL := []) (rest := []) X0 hx hZ hown rfl (w6 hw) (w7 hw) (w10 hw) (w11 hw) (by decide) (rm_abl l Z a0 hw a h0 n0 Z0 f0 f1 f2 f3 f4) e0 (lenOf pd_0 rfl) (hb hby d_ali_1) (by rw [hml]; rfl) rfl (Nat.le_of_eq rfl) (by decide) (by decide) (by decide) (by decide) ?_
  intro v9 T9 L9 X9 q9
  obtain ⟨rfl, M9, K9, P9_0, P9_1, P9_2, P9_3⟩ := q9
  have N9 := Fr.app N0 M9
  have Z9 : n0 ≤ T9.heap.size := Nat.le_trans Z0 K9.1
  have B9 : h0.size ≤ T9.heap.size := Nat.le_trans (Nat.le_refl _) K9.1
  show Go _ _ _ _ T9 (mkF m 4 #[.val (.ref a)] []) _ _ _
  refine Go.aloadN X9 hx (hb hby d_ali_4) rfl rfl ?_
  show Go _ _ _ _ T9 (mkF m 5 #[.val (.ref a)] [(.ref a)]) _ _ _
  have O10 := (Old.keep f5 K9 (allS f1 all0))
  have F11 := Sta.ext O10.2 f6
  refine Go.getS X9 hx hZ hown (w23 hw) Via.refl rfl F11 (hb hby d_ali_5) ?_
  intro T12 X12 e12
  show Go _ _ _ _ T12 (mkF m 8 #[.val (.ref a)] [(.ref de), (.ref a)]) _ _ _
  refine Go.putF X12 hx hZ hown (w24 hw) Via.refl e12 P9_2 P9_0 (Or.inl (w25 hw)) (w1 hw) (ty := (.array (.object "java/lang/Object"))) (by decide) rfl rfl (hb hby d_ali_8) ?_
  intro T13 h13 X13 e13 W13
  have N13 := Fr.snoc X13 N9 f1
  have Z13 : n0 ≤ h13.size := by rw [Wr.size W13]; exact Z9
  have B13 : h0.size ≤ h13.size := by rw [Wr.size W13]; exact B9
  show Go _ _ _ _ T13 (mkF m 11 #[.val (.ref a)] []) _ _ _
  refine Go.ret0 X13 hx hlk hret (hb hby d_ali_11) (by decide) (by decide) ?_
  rw [e13]
  have F14 := (Fld.other W13 P9_1 (Or.inr (slot_ne (a0 := a0) (Or.inl (w22 hw)) (Or.inl (w25 hw)) (t := .int) (t' := (.array (.object "java/lang/Object"))) (by decide) (by decide) (by decide))))
  have F15 := (Fld.other W13 P9_3 (Or.inr (slot_ne (a0 := a0) (Or.inl (w74 hw)) (Or.inl (w25 hw)) (t := .int) (t' := (.array (.object "java/lang/Object"))) (by decide) (by decide) (by decide))))
  exact ⟨rfl, N13, (Keep.wr (Keep.trans (Keep.refl _ _) K9 (allS (Or.inl (List.mem_of_getElem? (i := 0) rfl)) all0)) W13 (Or.inl (List.mem_of_getElem? (i := 0) rfl))), (Exa.wr W13 P9_0), F14, (Fld.same W13 P9_2), F15⟩
def Q_int (Z : State) (a : Addr) (p0 : Int32) (h0 : Heap) (n0 : Nat) (v : Option Value) (h : Heap) (L : List Loc) : Prop := v = none ∧ Fr n0 L ∧ Keep h0 h [a] ∧ Exa Z h a "java/lang/Integer"
theorem ef_int (m : MethodId) (x0 : Addr) (x1 : Int32) : entryFrame m #[(.ref x0), (.int x1)] 2 = mkF m 0 #[.val (.ref x0), .val (.int x1)] [] := by first | (simp [entryFrame, mkF, argsToLocals, Value.category]; done) | rfl
set_option maxRecDepth 65536 in
set_option maxHeartbeats 40000000 in
theorem rm_int (l : Launch) (Z : State) (a0 : Array Value) (hw : ∀ d ∈ tables_1, d.before a0 Z = true) (a : Addr) (p0 : Int32) (h0 : Heap) (n0 : Nat) (Z0 : n0 ≤ h0.size) (f0 : Exa Z h0 a "java/lang/Integer") (f1 : n0 ≤ a) (f2 : Fld Z h0 a "java/lang/Integer" "value" "I" (.int (0 : Int32))) :
    Met l Z (⟨"java/lang/Integer", "<init>", "(I)V"⟩ : MethodName) jdk_33_method_23_code 2 none [] ({ frames := 2, cells := 0, slots := 0, locals := 24 } : Room) #[(.ref a), (.int p0)] h0 (Q_int Z a p0 h0 n0) := by
  refine Met.of (plainFor_of_name pn_int) ?_
  intro p e s m below meth c s₁ X0 hx hby hml hZ hown hnm e0 hret hlk
  refine Go.cast (ef_int m a p0) ?_
  show Go _ _ _ _ s₁ (mkF m 0 #[.val (.ref a), .val (.int p0)] []) _ _ _
  have N0 := Fr.nil n0
  refine Go.aloadN X0 hx (hb hby d_int_0) rfl rfl ?_
  show Go _ _ _ _ s₁ (mkF m 1 #[.val (.ref a), .val (.int p0)] [(.ref a)]) _ _ _
  refine Go.callI (W := 0) (a := a) (argsL := []) (rest := []) X0 hx hZ hown rfl (w103 hw) (w104 hw) (w107 hw) (w108 hw) (by decide) (rm_num l Z a0 hw a h0 n0 Z0 ) e0 (lenOf pd_0 rfl) (hb hby d_int_1) (by rw [hml]; rfl) rfl (Nat.le_of_eq rfl) (by decide) (by decide) (by decide) (by decide) ?_
  intro v16 T16 L16 X16 q16
  obtain ⟨rfl, M16, e16⟩ := q16
  have N16 := Fr.app N0 M16
  show Go _ _ _ _ T16 (mkF m 4 #[.val (.ref a), .val (.int p0)] []) _ _ _
  refine Go.aloadN X16 hx (hb hby d_int_4) rfl rfl ?_
  show Go _ _ _ _ T16 (mkF m 5 #[.val (.ref a), .val (.int p0)] [(.ref a)]) _ _ _
  refine Go.iloadN X16 hx (hb hby d_int_5) rfl ?_
  show Go _ _ _ _ T16 (mkF m 6 #[.val (.ref a), .val (.int p0)] [(.int p0), (.ref a)]) _ _ _
  refine Go.putF X16 hx hZ hown (w110 hw) Via.refl e16 f2 f0 (Or.inr ⟨(w111 hw), rfl, hnm⟩) (w98 hw) (ty := .int) (by decide) rfl rfl (hb hby d_int_6) ?_
  intro T17 h17 X17 e17 W17
  have N17 := Fr.snoc X17 N16 f1
  have Z17 : n0 ≤ h17.size := by rw [Wr.size W17]; exact Z0
  have B17 : h0.size ≤ h17.size := by rw [Wr.size W17]; exact (Nat.le_refl _)
  show Go _ _ _ _ T17 (mkF m 9 #[.val (.ref a), .val (.int p0)] []) _ _ _
  refine Go.ret0 X17 hx hlk hret (hb hby d_int_9) (by decide) (by decide) ?_
  rw [e17]
  exact ⟨rfl, N17, (Keep.wr (Keep.refl _ _) W17 (Or.inl (List.mem_of_getElem? (i := 0) rfl))), (Exa.wr W17 f0)⟩
def Q_vo (Z : State) (p0 : Int32) (ca : Addr) (kc : ClassId) (f : Nat → Value) (h0 : Heap) (n0 : Nat) (v : Option Value) (h : Heap) (L : List Loc) : Prop := ∃ (r : Addr), v = some (.ref r) ∧ Fr n0 L ∧ Keep h0 h [] ∧ Exa Z h r "java/lang/Integer"
theorem ef_vo (m : MethodId) (x0 : Int32) : entryFrame m #[(.int x0)] 1 = mkF m 0 #[.val (.int x0)] [] := by first | (simp [entryFrame, mkF, argsToLocals, Value.category]; done) | rfl
set_option maxRecDepth 65536 in
set_option maxHeartbeats 40000000 in
theorem rm_vo (l : Launch) (Z : State) (a0 : Array Value) (hw : ∀ d ∈ tables_1, d.before a0 Z = true) (p0 : Int32) (ca : Addr) (kc : ClassId) (f : Nat → Value) (h0 : Heap) (n0 : Nat) (Z0 : n0 ≤ h0.size) (f0 : True) (f1 : True) (f2 : Old Z n0 h0) (f3 : Sta Z Z.heap "java/lang/Integer$IntegerCache" "high" "I" (.int (127 : Int32))) (f4 : Sta Z Z.heap "java/lang/Integer$IntegerCache" "cache" "[Ljava/lang/Integer;" (.ref ca)) (f5 : Af Z Z.heap ca kc (.object "java/lang/Integer") 256 (f)) (f6 : True) (f7 : ∀ j, j < 256 → ∃ y, f j = Value.ref y ∧ Exa Z Z.heap y "java/lang/Integer") :
    Met l Z (⟨"java/lang/Integer", "valueOf", "(I)Ljava/lang/Integer;"⟩ : MethodName) jdk_33_method_22_code 1 (Option.some (Jvm.ClassFile.FieldType.object "java/lang/Integer")) [] ({ frames := 3, cells := 1, slots := 1, locals := 38 } : Room) #[(.int p0)] h0 (Q_vo Z p0 ca kc f h0 n0) := by
  refine Met.of (plainFor_of_name pn_vo) ?_
  intro p e s m below meth c s₁ X0 hx hby hml hZ hown hnm e0 hret hlk
  refine Go.cast (ef_vo m p0) ?_
  show Go _ _ _ _ s₁ (mkF m 0 #[.val (.int p0)] []) _ _ _
  have N0 := Fr.nil n0
  refine Go.iloadN X0 hx (hb hby d_vo_0) rfl ?_
  show Go _ _ _ _ s₁ (mkF m 1 #[.val (.int p0)] [(.int p0)]) _ _ _
  refine Go.bipush X0 hx (hb hby d_vo_1) ?_
  show Go _ _ _ _ s₁ (mkF m 3 #[.val (.int p0)] [(.int (-128 : Int32)), (.int p0)]) _ _ _
  rcases Decidable.em (p0 < (-128 : Int32)) with c18 | c18
  · refine Go.icmpYes X0 hx (hb hby d_vo_3) (XT.ii_lt_t c18) (pc' := 23) (by decide) (by decide) ?_
    show Go _ _ _ _ s₁ (mkF m 23 #[.val (.int p0)] []) _ _ _
    refine Go.newO X0 hx hZ hown (w97 hw) (w98 hw) (w57 hw) e0 (hb hby d_vo_23) (by decide) (by decide) ?_
    intro T19 h19 a19 b19 X19 e19 E19 A19 D19
    have g_a19 : n0 ≤ a19 := by rw [b19]; exact Z0
    have y_a19 : h0.size ≤ a19 := by rw [b19]; exact (Nat.le_refl _)
    have Z19 : n0 ≤ h19.size := Nat.le_trans Z0 E19.1
    have B19 : h0.size ≤ h19.size := Nat.le_trans (Nat.le_refl _) E19.1
    show Go _ _ _ _ T19 (mkF m 26 #[.val (.int p0)] [(.ref a19)]) _ _ _
    refine Go.dup X19 hx (hb hby d_vo_26) rfl ?_
    show Go _ _ _ _ T19 (mkF m 27 #[.val (.int p0)] [(.ref a19), (.ref a19)]) _ _ _
    refine Go.iloadN X19 hx (hb hby d_vo_27) rfl ?_
    show Go _ _ _ _ T19 (mkF m 28 #[.val (.int p0)] [(.int p0), (.ref a19), (.ref a19)]) _ _ _
    have F20 := (D19 (Or.inr (w111 hw)) (ty := .int) (by decide))
    refine Go.callI (W := 1) (a := a19) (argsL := [(.int p0)]) (rest := [(.ref a19)]) X19 hx hZ hown rfl (w99 hw) (w100 hw) (w57 hw) (w102 hw) (by decide) (rm_int l Z a0 hw a19 p0 h19 n0 Z19 A19 g_a19 F20) e19 (lenOf pd_1 rfl) (hb hby d_vo_28) (by rw [hml]; rfl) rfl (Nat.le_of_eq rfl) (by decide) (by decide) (by decide) (by decide) ?_
    intro v21 T21 L21 X21 q21
    obtain ⟨rfl, M21, K21, P21_0⟩ := q21
    have N21 := Fr.app N0 M21
    have Z21 : n0 ≤ T21.heap.size := Nat.le_trans Z19 K21.1
    have B21 : h0.size ≤ T21.heap.size := Nat.le_trans B19 K21.1
    show Go _ _ _ _ T21 (mkF m 31 #[.val (.int p0)] [(.ref a19)]) _ _ _
    refine Go.retR X21 hx hlk hret rfl rfl (hb hby d_vo_31) (by decide) (by decide) ?_
    exact ⟨a19, rfl, N21, (Keep.trans (Keep.ext (Keep.refl _ _) E19) K21 (allS (Or.inr y_a19) all0)), P21_0⟩
  · refine Go.icmpNo X0 hx (hb hby d_vo_3) (XT.ii_lt_f c18) ?_
    show Go _ _ _ _ s₁ (mkF m 6 #[.val (.int p0)] []) _ _ _
    refine Go.iloadN X0 hx (hb hby d_vo_6) rfl ?_
    show Go _ _ _ _ s₁ (mkF m 7 #[.val (.int p0)] [(.int p0)]) _ _ _
    have F22 := Sta.ext f2.2 f3
    refine Go.getS X0 hx hZ hown (w59 hw) Via.refl e0 F22 (hb hby d_vo_7) ?_
    intro T23 X23 e23
    show Go _ _ _ _ T23 (mkF m 10 #[.val (.int p0)] [(.int (127 : Int32)), (.int p0)]) _ _ _
    rcases Decidable.em ((127 : Int32) < p0) with c24 | c24
    · refine Go.icmpYes X23 hx (hb hby d_vo_10) (XT.ii_gt_t c24) (pc' := 23) (by decide) (by decide) ?_
      show Go _ _ _ _ T23 (mkF m 23 #[.val (.int p0)] []) _ _ _
      refine Go.newO X23 hx hZ hown (w97 hw) (w98 hw) (w57 hw) e23 (hb hby d_vo_23) (by decide) (by decide) ?_
      intro T25 h25 a25 b25 X25 e25 E25 A25 D25
      have g_a25 : n0 ≤ a25 := by rw [b25]; exact Z0
      have y_a25 : h0.size ≤ a25 := by rw [b25]; exact (Nat.le_refl _)
      have Z25 : n0 ≤ h25.size := Nat.le_trans Z0 E25.1
      have B25 : h0.size ≤ h25.size := Nat.le_trans (Nat.le_refl _) E25.1
      show Go _ _ _ _ T25 (mkF m 26 #[.val (.int p0)] [(.ref a25)]) _ _ _
      refine Go.dup X25 hx (hb hby d_vo_26) rfl ?_
      show Go _ _ _ _ T25 (mkF m 27 #[.val (.int p0)] [(.ref a25), (.ref a25)]) _ _ _
      refine Go.iloadN X25 hx (hb hby d_vo_27) rfl ?_
      show Go _ _ _ _ T25 (mkF m 28 #[.val (.int p0)] [(.int p0), (.ref a25), (.ref a25)]) _ _ _
      have F26 := (D25 (Or.inr (w111 hw)) (ty := .int) (by decide))
      refine Go.callI (W := 1) (a := a25) (argsL := [(.int p0)]) (rest := [(.ref a25)]) X25 hx hZ hown rfl (w99 hw) (w100 hw) (w57 hw) (w102 hw) (by decide) (rm_int l Z a0 hw a25 p0 h25 n0 Z25 A25 g_a25 F26) e25 (lenOf pd_1 rfl) (hb hby d_vo_28) (by rw [hml]; rfl) rfl (Nat.le_of_eq rfl) (by decide) (by decide) (by decide) (by decide) ?_
      intro v27 T27 L27 X27 q27
      obtain ⟨rfl, M27, K27, P27_0⟩ := q27
      have N27 := Fr.app N0 M27
      have Z27 : n0 ≤ T27.heap.size := Nat.le_trans Z25 K27.1
      have B27 : h0.size ≤ T27.heap.size := Nat.le_trans B25 K27.1
      show Go _ _ _ _ T27 (mkF m 31 #[.val (.int p0)] [(.ref a25)]) _ _ _
      refine Go.retR X27 hx hlk hret rfl rfl (hb hby d_vo_31) (by decide) (by decide) ?_
      exact ⟨a25, rfl, N27, (Keep.trans (Keep.ext (Keep.refl _ _) E25) K27 (allS (Or.inr y_a25) all0)), P27_0⟩
    · refine Go.icmpNo X23 hx (hb hby d_vo_10) (XT.ii_gt_f c24) ?_
      show Go _ _ _ _ T23 (mkF m 13 #[.val (.int p0)] []) _ _ _
      have F28 := Sta.ext f2.2 f4
      refine Go.getS X23 hx hZ hown (w61 hw) Via.refl e23 F28 (hb hby d_vo_13) ?_
      intro T29 X29 e29
      show Go _ _ _ _ T29 (mkF m 16 #[.val (.int p0)] [(.ref ca)]) _ _ _
      refine Go.iloadN X29 hx (hb hby d_vo_16) rfl ?_
      show Go _ _ _ _ T29 (mkF m 17 #[.val (.int p0)] [(.int p0), (.ref ca)]) _ _ _
      refine Go.sipush X29 hx (hb hby d_vo_17) ?_
      show Go _ _ _ _ T29 (mkF m 20 #[.val (.int p0)] [(.int (128 : Int32)), (.int p0), (.ref ca)]) _ _ _
      refine Go.iadd X29 hx (hb hby d_vo_20) ?_
      show Go _ _ _ _ T29 (mkF m 21 #[.val (.int p0)] [(.int (p0 + (128 : Int32))), (.ref ca)]) _ _ _
      have F30 := Af.ext f2.2 f5
      have bj := own_ix c18 c24
      obtain ⟨y, ey, Ey0⟩ := f7 _ bj.2
      have Ey := Exa.ext f2.2 Ey0
      refine Go.aaload X29 hx hZ e29 F30 rfl bj.1 bj.2 (hb hby d_vo_21) ?_
      rw [ey]
      show Go _ _ _ _ T29 (mkF m 22 #[.val (.int p0)] [(.ref y)]) _ _ _
      refine Go.retR X29 hx hlk hret rfl rfl (hb hby d_vo_22) (by decide) (by decide) ?_
      rw [e29]
      exact ⟨y, rfl, N0, (Keep.refl _ _), Ey⟩
def Q_g1 (Z : State) (a : Addr) (mc : Int32) (de : Addr) (kd : ClassId) (fd : Nat → Value) (h0 : Heap) (n0 : Nat) (v : Option Value) (h : Heap) (L : List Loc) : Prop := ∃ (r : Addr) (kr : ClassId), v = some (.ref r) ∧ Fr n0 L ∧ Keep h0 h [a] ∧ Exa Z h a "java/util/ArrayList" ∧ n0 ≤ r ∧ h0.size ≤ r ∧ a ≠ r ∧ Fld Z h a "java/util/AbstractList" "modCount" "I" (.int mc) ∧ Fld Z h a "java/util/ArrayList" "elementData" "[Ljava/lang/Object;" (.ref r) ∧ Fld Z h a "java/util/ArrayList" "size" "I" (.int (0 : Int32)) ∧ Af Z h r kr (.object "java/lang/Object") 10 (fun _ => Value.null) ∧ Ovr Z kr "java/lang/Object"
theorem ef_g1 (m : MethodId) (x0 : Addr) (x1 : Int32) : entryFrame m #[(.ref x0), (.int x1)] 4 = mkF m 0 #[.val (.ref x0), .val (.int x1), .unset, .unset] [] := by first | (simp [entryFrame, mkF, argsToLocals, Value.category]; done) | rfl
set_option maxRecDepth 65536 in
set_option maxHeartbeats 40000000 in
theorem rm_g1 (l : Launch) (Z : State) (a0 : Array Value) (hw : ∀ d ∈ tables_1, d.before a0 Z = true) (a : Addr) (mc : Int32) (de : Addr) (kd : ClassId) (fd : Nat → Value) (h0 : Heap) (n0 : Nat) (Z0 : n0 ≤ h0.size) (f0 : Exa Z h0 a "java/util/ArrayList") (f1 : n0 ≤ a) (f2 : Fld Z h0 a "java/util/AbstractList" "modCount" "I" (.int mc)) (f3 : Fld Z h0 a "java/util/ArrayList" "elementData" "[Ljava/lang/Object;" (.ref de)) (f4 : Fld Z h0 a "java/util/ArrayList" "size" "I" (.int (0 : Int32))) (f5 : Old Z n0 h0) (f6 : Sta Z Z.heap "java/util/ArrayList" "DEFAULTCAPACITY_EMPTY_ELEMENTDATA" "[Ljava/lang/Object;" (.ref de)) (f7 : Af Z Z.heap de kd (.object "java/lang/Object") 0 (fd)) :
    Met l Z (⟨"java/util/ArrayList", "grow", "(I)[Ljava/lang/Object;"⟩ : MethodName) jdk_38_method_6_code 4 (Option.some (Jvm.ClassFile.FieldType.array (Jvm.ClassFile.FieldType.object "java/lang/Object"))) [] ({ frames := 1, cells := 1, slots := 10, locals := 14 } : Room) #[(.ref a), (.int (1 : Int32))] h0 (Q_g1 Z a mc de kd fd h0 n0) := by
  refine Met.of (plainFor_of_name pn_g1) ?_
  intro p e s m below meth c s₁ X0 hx hby hml hZ hown hnm e0 hret hlk
  refine Go.cast (ef_g1 m a ((1 : Int32))) ?_
  show Go _ _ _ _ s₁ (mkF m 0 #[.val (.ref a), .val (.int (1 : Int32)), .unset, .unset] []) _ _ _
  have N0 := Fr.nil n0
  refine Go.aloadN X0 hx (hb hby d_g1_0) rfl rfl ?_
  show Go _ _ _ _ s₁ (mkF m 1 #[.val (.ref a), .val (.int (1 : Int32)), .unset, .unset] [(.ref a)]) _ _ _
  refine Go.getF X0 hx hZ hown (w24 hw) Via.refl e0 f3 (hb hby d_g1_1) ?_
  intro T31 X31 e31
  show Go _ _ _ _ T31 (mkF m 4 #[.val (.ref a), .val (.int (1 : Int32)), .unset, .unset] [(.ref de)]) _ _ _
  have F32 := Af.ext f5.2 f7
  refine Go.alen X31 hx hZ e31 F32 (hb hby d_g1_4) ?_
  show Go _ _ _ _ T31 (mkF m 5 #[.val (.ref a), .val (.int (1 : Int32)), .unset, .unset] [(.int (0 : Int32))]) _ _ _
  refine Go.istoreN X31 hx (hb hby d_g1_5) (l' := #[.val (.ref a), .val (.int (1 : Int32)), .val (.int (0 : Int32)), .unset]) rfl ?_
  show Go _ _ _ _ T31 (mkF m 6 #[.val (.ref a), .val (.int (1 : Int32)), .val (.int (0 : Int32)), .unset] []) _ _ _
  refine Go.iloadN X31 hx (hb hby d_g1_6) rfl ?_
  show Go _ _ _ _ T31 (mkF m 7 #[.val (.ref a), .val (.int (1 : Int32)), .val (.int (0 : Int32)), .unset] [(.int (0 : Int32))]) _ _ _
  refine Go.ifNo X31 hx (hb hby d_g1_7) (XT.i0_gt_f (by decide)) ?_
  show Go _ _ _ _ T31 (mkF m 10 #[.val (.ref a), .val (.int (1 : Int32)), .val (.int (0 : Int32)), .unset] []) _ _ _
  refine Go.aloadN X31 hx (hb hby d_g1_10) rfl rfl ?_
  show Go _ _ _ _ T31 (mkF m 11 #[.val (.ref a), .val (.int (1 : Int32)), .val (.int (0 : Int32)), .unset] [(.ref a)]) _ _ _
  refine Go.getF X31 hx hZ hown (w24 hw) Via.refl e31 f3 (hb hby d_g1_11) ?_
  intro T33 X33 e33
  show Go _ _ _ _ T33 (mkF m 14 #[.val (.ref a), .val (.int (1 : Int32)), .val (.int (0 : Int32)), .unset] [(.ref de)]) _ _ _
  have F34 := Sta.ext f5.2 f6
  refine Go.getS X33 hx hZ hown (w23 hw) Via.refl e33 F34 (hb hby d_g1_14) ?_
  intro T35 X35 e35
  show Go _ _ _ _ T35 (mkF m 17 #[.val (.ref a), .val (.int (1 : Int32)), .val (.int (0 : Int32)), .unset] [(.ref de), (.ref de)]) _ _ _
  refine Go.acmpYes X35 hx (hb hby d_g1_17) rfl rfl (ac_eq_p rfl) (pc' := 45) (by decide) (by decide) ?_
  show Go _ _ _ _ T35 (mkF m 45 #[.val (.ref a), .val (.int (1 : Int32)), .val (.int (0 : Int32)), .unset] []) _ _ _
  refine Go.aloadN X35 hx (hb hby d_g1_45) rfl rfl ?_
  show Go _ _ _ _ T35 (mkF m 46 #[.val (.ref a), .val (.int (1 : Int32)), .val (.int (0 : Int32)), .unset] [(.ref a)]) _ _ _
  refine Go.bipush X35 hx (hb hby d_g1_46) ?_
  show Go _ _ _ _ T35 (mkF m 48 #[.val (.ref a), .val (.int (1 : Int32)), .val (.int (0 : Int32)), .unset] [(.int (10 : Int32)), (.ref a)]) _ _ _
  refine Go.iloadN X35 hx (hb hby d_g1_48) rfl ?_
  show Go _ _ _ _ T35 (mkF m 49 #[.val (.ref a), .val (.int (1 : Int32)), .val (.int (0 : Int32)), .unset] [(.int (1 : Int32)), (.int (10 : Int32)), (.ref a)]) _ _ _
  refine Go.callS (W := 1) (argsL := [(.int (10 : Int32)), (.int (1 : Int32))]) (rest := [(.ref a)]) X35 hx hZ hown (w90 hw) (w91 hw) (w92 hw) (w93 hw) (by decide) (rm_max l Z a0 hw ((10 : Int32)) ((1 : Int32)) h0) e35 (lenOf pd_2 rfl) (hb hby d_g1_49) (by rw [hml]; rfl) rfl (Nat.le_of_eq rfl) (by decide) (by decide) (by decide) (by decide) ?_
  intro v36 T36 L36 X36 q36
  obtain ⟨rfl, rfl, e36⟩ := q36
  have N36 := Fr.app N0 (Fr.nil n0)
  show Go _ _ _ _ T36 (mkF m 52 #[.val (.ref a), .val (.int (1 : Int32)), .val (.int (0 : Int32)), .unset] [(.int (10 : Int32)), (.ref a)]) _ _ _
  refine Go.anewarray (cap := 10) X36 hx hZ hown (w94 hw) (w95 hw) e36 (hb hby d_g1_52) (by decide) (by decide) (by decide) (by decide) (by decide) ?_
  intro T37 h37 a37 k37 b37 X37 e37 E37 A37 R37
  have g_a37 : n0 ≤ a37 := by rw [b37]; exact Z0
  have y_a37 : h0.size ≤ a37 := by rw [b37]; exact (Nat.le_refl _)
  have ne_a_a37 : a ≠ a37 := by rw [b37]; exact Nat.ne_of_lt f0.lt
  have ne_de_a37 : de ≠ a37 := by rw [b37]; exact Nat.ne_of_lt F32.lt
  have Z37 : n0 ≤ h37.size := Nat.le_trans Z0 E37.1
  have B37 : h0.size ≤ h37.size := Nat.le_trans (Nat.le_refl _) E37.1
  show Go _ _ _ _ T37 (mkF m 55 #[.val (.ref a), .val (.int (1 : Int32)), .val (.int (0 : Int32)), .unset] [(.ref a37), (.ref a)]) _ _ _
  refine Go.dup_x1 X37 hx (hb hby d_g1_55) rfl rfl ?_
  show Go _ _ _ _ T37 (mkF m 56 #[.val (.ref a), .val (.int (1 : Int32)), .val (.int (0 : Int32)), .unset] [(.ref a37), (.ref a), (.ref a37)]) _ _ _
  refine Go.putF X37 hx hZ hown (w24 hw) Via.refl e37 (Fld.ext E37 f3) (Exa.ext E37 f0) (Or.inl (w25 hw)) (w1 hw) (ty := (.array (.object "java/lang/Object"))) (by decide) rfl rfl (hb hby d_g1_56) ?_
  intro T38 h38 X38 e38 W38
  have N38 := Fr.snoc X38 N36 f1
  have Z38 : n0 ≤ h38.size := by rw [Wr.size W38]; exact Z37
  have B38 : h0.size ≤ h38.size := by rw [Wr.size W38]; exact B37
  show Go _ _ _ _ T38 (mkF m 59 #[.val (.ref a), .val (.int (1 : Int32)), .val (.int (0 : Int32)), .unset] [(.ref a37)]) _ _ _
  refine Go.retR X38 hx hlk hret rfl rfl (hb hby d_g1_59) (by decide) (by decide) ?_
  rw [e38]
  have F39 := (Fld.other W38 (Fld.ext E37 f2) (Or.inr (slot_ne (a0 := a0) (Or.inl (w22 hw)) (Or.inl (w25 hw)) (t := .int) (t' := (.array (.object "java/lang/Object"))) (by decide) (by decide) (by decide))))
  have F40 := (Fld.other W38 (Fld.ext E37 f4) (Or.inr (slot_ne (a0 := a0) (Or.inl (w74 hw)) (Or.inl (w25 hw)) (t := .int) (t' := (.array (.object "java/lang/Object"))) (by decide) (by decide) (by decide))))
  exact ⟨a37, k37, rfl, N38, (Keep.wr (Keep.ext (Keep.refl _ _) E37) W38 (Or.inl (List.mem_of_getElem? (i := 0) rfl))), (Exa.wr W38 (Exa.ext E37 f0)), g_a37, y_a37, ne_a_a37, F39, (Fld.same W38 (Fld.ext E37 f3)), F40, (Af.other W38 A37 (Ne.symm ne_a_a37)), R37⟩
def Q_g0 (Z : State) (a : Addr) (mc : Int32) (de : Addr) (kd : ClassId) (fd : Nat → Value) (h0 : Heap) (n0 : Nat) (v : Option Value) (h : Heap) (L : List Loc) : Prop := ∃ (r : Addr) (kr : ClassId), v = some (.ref r) ∧ Fr n0 L ∧ Keep h0 h [a] ∧ Exa Z h a "java/util/ArrayList" ∧ n0 ≤ r ∧ h0.size ≤ r ∧ a ≠ r ∧ Fld Z h a "java/util/AbstractList" "modCount" "I" (.int mc) ∧ Fld Z h a "java/util/ArrayList" "elementData" "[Ljava/lang/Object;" (.ref r) ∧ Fld Z h a "java/util/ArrayList" "size" "I" (.int (0 : Int32)) ∧ Af Z h r kr (.object "java/lang/Object") 10 (fun _ => Value.null) ∧ Ovr Z kr "java/lang/Object"
theorem ef_g0 (m : MethodId) (x0 : Addr) : entryFrame m #[(.ref x0)] 1 = mkF m 0 #[.val (.ref x0)] [] := by first | (simp [entryFrame, mkF, argsToLocals, Value.category]; done) | rfl
set_option maxRecDepth 65536 in
set_option maxHeartbeats 40000000 in
theorem rm_g0 (l : Launch) (Z : State) (a0 : Array Value) (hw : ∀ d ∈ tables_1, d.before a0 Z = true) (a : Addr) (mc : Int32) (de : Addr) (kd : ClassId) (fd : Nat → Value) (h0 : Heap) (n0 : Nat) (Z0 : n0 ≤ h0.size) (f0 : Exa Z h0 a "java/util/ArrayList") (f1 : n0 ≤ a) (f2 : Fld Z h0 a "java/util/AbstractList" "modCount" "I" (.int mc)) (f3 : Fld Z h0 a "java/util/ArrayList" "elementData" "[Ljava/lang/Object;" (.ref de)) (f4 : Fld Z h0 a "java/util/ArrayList" "size" "I" (.int (0 : Int32))) (f5 : Old Z n0 h0) (f6 : Sta Z Z.heap "java/util/ArrayList" "DEFAULTCAPACITY_EMPTY_ELEMENTDATA" "[Ljava/lang/Object;" (.ref de)) (f7 : Af Z Z.heap de kd (.object "java/lang/Object") 0 (fd)) :
    Met l Z (⟨"java/util/ArrayList", "grow", "()[Ljava/lang/Object;"⟩ : MethodName) jdk_38_method_7_code 1 (Option.some (Jvm.ClassFile.FieldType.array (Jvm.ClassFile.FieldType.object "java/lang/Object"))) [] ({ frames := 2, cells := 1, slots := 10, locals := 29 } : Room) #[(.ref a)] h0 (Q_g0 Z a mc de kd fd h0 n0) := by
  refine Met.of (plainFor_of_name pn_g0) ?_
  intro p e s m below meth c s₁ X0 hx hby hml hZ hown hnm e0 hret hlk
  refine Go.cast (ef_g0 m a) ?_
  show Go _ _ _ _ s₁ (mkF m 0 #[.val (.ref a)] []) _ _ _
  have N0 := Fr.nil n0
  refine Go.aloadN X0 hx (hb hby d_g0_0) rfl rfl ?_
  show Go _ _ _ _ s₁ (mkF m 1 #[.val (.ref a)] [(.ref a)]) _ _ _
  refine Go.aloadN X0 hx (hb hby d_g0_1) rfl rfl ?_
  show Go _ _ _ _ s₁ (mkF m 2 #[.val (.ref a)] [(.ref a), (.ref a)]) _ _ _
  refine Go.getF X0 hx hZ hown (w73 hw) Via.refl e0 f4 (hb hby d_g0_2) ?_
  intro T41 X41 e41
  show Go _ _ _ _ T41 (mkF m 5 #[.val (.ref a)] [(.int (0 : Int32)), (.ref a)]) _ _ _
  refine Go.iconst X41 hx (hb hby d_g0_5) ?_
  show Go _ _ _ _ T41 (mkF m 6 #[.val (.ref a)] [(.int (1 : Int32)), (.int (0 : Int32)), (.ref a)]) _ _ _
  refine Go.iadd X41 hx (hb hby d_g0_6) ?_
  show Go _ _ _ _ T41 (mkF m 7 #[.val (.ref a)] [(.int (1 : Int32)), (.ref a)]) _ _ _
  refine Go.callP (W := 0) (argsL := [(.int (1 : Int32))]) (rest := []) X41 hx hZ hown (w85 hw) (w86 hw) (w87 hw) (w1 hw) (w2 hw) (w89 hw) (by decide) f0 (rm_g1 l Z a0 hw a mc de kd fd h0 n0 Z0 f0 f1 f2 f3 f4 f5 f6 f7) e41 (lenOf pd_3 rfl) (hb hby d_g0_7) (by rw [hml]; rfl) rfl (Nat.le_of_eq rfl) (by decide) (by decide) (by decide) (by decide) ?_
  intro v42 T42 L42 X42 q42
  obtain ⟨r42, kr42, rfl, M42, K42, P42_0, P42_1, P42_2, P42_3, P42_4, P42_5, P42_6, P42_7, P42_8⟩ := q42
  have N42 := Fr.app N0 M42
  have Z42 : n0 ≤ T42.heap.size := Nat.le_trans Z0 K42.1
  have B42 : h0.size ≤ T42.heap.size := Nat.le_trans (Nat.le_refl _) K42.1
  have ne_a_r42 : a ≠ r42 := Nat.ne_of_lt (Nat.lt_of_lt_of_le (f0).lt P42_2)
  show Go _ _ _ _ T42 (mkF m 10 #[.val (.ref a)] [(.ref r42)]) _ _ _
  refine Go.retR X42 hx hlk hret rfl rfl (hb hby d_g0_10) (by decide) (by decide) ?_
  exact ⟨r42, kr42, rfl, N42, (Keep.trans (Keep.refl _ _) K42 (allS (Or.inl (List.mem_of_getElem? (i := 0) rfl)) all0)), P42_0, P42_1, (Nat.le_trans (Nat.le_refl _) P42_2), P42_3, P42_4, P42_5, P42_6, P42_7, P42_8⟩
def Q_hA (Z : State) (a : Addr) (y : Addr) (de : Addr) (mc : Int32) (kd : ClassId) (fd : Nat → Value) (h0 : Heap) (n0 : Nat) (v : Option Value) (h : Heap) (L : List Loc) : Prop := ∃ (r : Addr) (kr : ClassId) (fr : Nat → Value), v = none ∧ Fr n0 L ∧ Keep h0 h [a] ∧ Exa Z h a "java/util/ArrayList" ∧ n0 ≤ r ∧ h0.size ≤ r ∧ a ≠ r ∧ Fld Z h a "java/util/AbstractList" "modCount" "I" (.int mc) ∧ Fld Z h a "java/util/ArrayList" "elementData" "[Ljava/lang/Object;" (.ref r) ∧ Fld Z h a "java/util/ArrayList" "size" "I" (.int (1 : Int32)) ∧ Af Z h r kr (.object "java/lang/Object") 10 (fr) ∧ Ovr Z kr "java/lang/Object"
theorem ef_hA (m : MethodId) (x0 : Addr) (x1 : Addr) (x2 : Addr) (x3 : Int32) : entryFrame m #[(.ref x0), (.ref x1), (.ref x2), (.int x3)] 4 = mkF m 0 #[.val (.ref x0), .val (.ref x1), .val (.ref x2), .val (.int x3)] [] := by first | (simp [entryFrame, mkF, argsToLocals, Value.category]; done) | rfl
set_option maxRecDepth 65536 in
set_option maxHeartbeats 40000000 in
theorem rm_hA (l : Launch) (Z : State) (a0 : Array Value) (hw : ∀ d ∈ tables_1, d.before a0 Z = true) (a : Addr) (y : Addr) (de : Addr) (mc : Int32) (kd : ClassId) (fd : Nat → Value) (h0 : Heap) (n0 : Nat) (Z0 : n0 ≤ h0.size) (f0 : Exa Z h0 a "java/util/ArrayList") (f1 : n0 ≤ a) (f2 : Fld Z h0 a "java/util/AbstractList" "modCount" "I" (.int mc)) (f3 : Fld Z h0 a "java/util/ArrayList" "elementData" "[Ljava/lang/Object;" (.ref de)) (f4 : Fld Z h0 a "java/util/ArrayList" "size" "I" (.int (0 : Int32))) (f5 : Old Z n0 h0) (f6 : Sta Z Z.heap "java/util/ArrayList" "DEFAULTCAPACITY_EMPTY_ELEMENTDATA" "[Ljava/lang/Object;" (.ref de)) (f7 : Af Z Z.heap de kd (.object "java/lang/Object") 0 (fd)) (f8 : Exa Z h0 y "java/lang/Integer") :
    Met l Z (⟨"java/util/ArrayList", "add", "(Ljava/lang/Object;[Ljava/lang/Object;I)V"⟩ : MethodName) jdk_38_method_24_code 4 none [] ({ frames := 3, cells := 1, slots := 10, locals := 41 } : Room) #[(.ref a), (.ref y), (.ref de), (.int (0 : Int32))] h0 (Q_hA Z a y de mc kd fd h0 n0) := by
  refine Met.of (plainFor_of_name pn_hA) ?_
  intro p e s m below meth c s₁ X0 hx hby hml hZ hown hnm e0 hret hlk
  refine Go.cast (ef_hA m a y de ((0 : Int32))) ?_
  show Go _ _ _ _ s₁ (mkF m 0 #[.val (.ref a), .val (.ref y), .val (.ref de), .val (.int (0 : Int32))] []) _ _ _
  have N0 := Fr.nil n0
  refine Go.iloadN X0 hx (hb hby d_hA_0) rfl ?_
  show Go _ _ _ _ s₁ (mkF m 1 #[.val (.ref a), .val (.ref y), .val (.ref de), .val (.int (0 : Int32))] [(.int (0 : Int32))]) _ _ _
  refine Go.aloadN X0 hx (hb hby d_hA_1) rfl rfl ?_
  show Go _ _ _ _ s₁ (mkF m 2 #[.val (.ref a), .val (.ref y), .val (.ref de), .val (.int (0 : Int32))] [(.ref de), (.int (0 : Int32))]) _ _ _
  have F43 := Af.ext f5.2 f7
  refine Go.alen X0 hx hZ e0 F43 (hb hby d_hA_2) ?_
  show Go _ _ _ _ s₁ (mkF m 3 #[.val (.ref a), .val (.ref y), .val (.ref de), .val (.int (0 : Int32))] [(.int (0 : Int32)), (.int (0 : Int32))]) _ _ _
  refine Go.icmpNo X0 hx (hb hby d_hA_3) (XT.ii_ne_f (by decide)) ?_
  show Go _ _ _ _ s₁ (mkF m 6 #[.val (.ref a), .val (.ref y), .val (.ref de), .val (.int (0 : Int32))] []) _ _ _
  refine Go.aloadN X0 hx (hb hby d_hA_6) rfl rfl ?_
  show Go _ _ _ _ s₁ (mkF m 7 #[.val (.ref a), .val (.ref y), .val (.ref de), .val (.int (0 : Int32))] [(.ref a)]) _ _ _
  refine Go.callP (W := 0) (argsL := []) (rest := []) X0 hx hZ hown (w80 hw) (w81 hw) (w82 hw) (w1 hw) (w2 hw) (w84 hw) (by decide) f0 (rm_g0 l Z a0 hw a mc de kd fd h0 n0 Z0 f0 f1 f2 f3 f4 f5 f6 f7) e0 (lenOf pd_4 rfl) (hb hby d_hA_7) (by rw [hml]; rfl) rfl (Nat.le_of_eq rfl) (by decide) (by decide) (by decide) (by decide) ?_
  intro v44 T44 L44 X44 q44
  obtain ⟨r44, kr44, rfl, M44, K44, P44_0, P44_1, P44_2, P44_3, P44_4, P44_5, P44_6, P44_7, P44_8⟩ := q44
  have N44 := Fr.app N0 M44
  have Z44 : n0 ≤ T44.heap.size := Nat.le_trans Z0 K44.1
  have B44 : h0.size ≤ T44.heap.size := Nat.le_trans (Nat.le_refl _) K44.1
  have ne_a_r44 : a ≠ r44 := Nat.ne_of_lt (Nat.lt_of_lt_of_le (f0).lt P44_2)
  have ne_y_r44 : y ≠ r44 := Nat.ne_of_lt (Nat.lt_of_lt_of_le (f8).lt P44_2)
  have ne_de_r44 : de ≠ r44 := Nat.ne_of_lt (Nat.lt_of_lt_of_le (F43).lt P44_2)
  show Go _ _ _ _ T44 (mkF m 10 #[.val (.ref a), .val (.ref y), .val (.ref de), .val (.int (0 : Int32))] [(.ref r44)]) _ _ _
  refine Go.astoreN X44 hx (hb hby d_hA_10) rfl (l' := #[.val (.ref a), .val (.ref y), .val (.ref r44), .val (.int (0 : Int32))]) rfl ?_
  show Go _ _ _ _ T44 (mkF m 11 #[.val (.ref a), .val (.ref y), .val (.ref r44), .val (.int (0 : Int32))] []) _ _ _
  refine Go.aloadN X44 hx (hb hby d_hA_11) rfl rfl ?_
  show Go _ _ _ _ T44 (mkF m 12 #[.val (.ref a), .val (.ref y), .val (.ref r44), .val (.int (0 : Int32))] [(.ref r44)]) _ _ _
  refine Go.iloadN X44 hx (hb hby d_hA_12) rfl ?_
  show Go _ _ _ _ T44 (mkF m 13 #[.val (.ref a), .val (.ref y), .val (.ref r44), .val (.int (0 : Int32))] [(.int (0 : Int32)), (.ref r44)]) _ _ _
  refine Go.aloadN X44 hx (hb hby d_hA_13) rfl rfl ?_
  show Go _ _ _ _ T44 (mkF m 14 #[.val (.ref a), .val (.ref y), .val (.ref r44), .val (.int (0 : Int32))] [(.ref y), (.int (0 : Int32)), (.ref r44)]) _ _ _
  refine Go.aastore X44 hx hZ rfl P44_7 rfl P44_8 (Ins.of_exa (Exa.keep f8 K44) (w96 hw)) (by decide) (by decide) (hb hby d_hA_14) ?_
  intro T45 h45 X45 e45 W45 A45
  have N45 := Fr.snoc X45 N44 P44_1
  have Z45 : n0 ≤ h45.size := by rw [Wr.size W45]; exact Z44
  have B45 : h0.size ≤ h45.size := by rw [Wr.size W45]; exact B44
  show Go _ _ _ _ T45 (mkF m 15 #[.val (.ref a), .val (.ref y), .val (.ref r44), .val (.int (0 : Int32))] []) _ _ _
  refine Go.aloadN X45 hx (hb hby d_hA_15) rfl rfl ?_
  show Go _ _ _ _ T45 (mkF m 16 #[.val (.ref a), .val (.ref y), .val (.ref r44), .val (.int (0 : Int32))] [(.ref a)]) _ _ _
  refine Go.iloadN X45 hx (hb hby d_hA_16) rfl ?_
  show Go _ _ _ _ T45 (mkF m 17 #[.val (.ref a), .val (.ref y), .val (.ref r44), .val (.int (0 : Int32))] [(.int (0 : Int32)), (.ref a)]) _ _ _
  refine Go.iconst X45 hx (hb hby d_hA_17) ?_
  show Go _ _ _ _ T45 (mkF m 18 #[.val (.ref a), .val (.ref y), .val (.ref r44), .val (.int (0 : Int32))] [(.int (1 : Int32)), (.int (0 : Int32)), (.ref a)]) _ _ _
  refine Go.iadd X45 hx (hb hby d_hA_18) ?_
  show Go _ _ _ _ T45 (mkF m 19 #[.val (.ref a), .val (.ref y), .val (.ref r44), .val (.int (0 : Int32))] [(.int (1 : Int32)), (.ref a)]) _ _ _
  refine Go.putF X45 hx hZ hown (w73 hw) Via.refl e45 (Fld.other W45 P44_6 (Or.inl P44_3)) (Exa.wr W45 P44_0) (Or.inl (w74 hw)) (w1 hw) (ty := .int) (by decide) rfl rfl (hb hby d_hA_19) ?_
  intro T46 h46 X46 e46 W46
  have N46 := Fr.snoc X46 N45 f1
  have Z46 : n0 ≤ h46.size := by rw [Wr.size W46]; exact Z45
  have B46 : h0.size ≤ h46.size := by rw [Wr.size W46]; exact B45
  show Go _ _ _ _ T46 (mkF m 22 #[.val (.ref a), .val (.ref y), .val (.ref r44), .val (.int (0 : Int32))] []) _ _ _
  refine Go.ret0 X46 hx hlk hret (hb hby d_hA_22) (by decide) (by decide) ?_
  rw [e46]
  have F47 := (Fld.other W46 (Fld.other W45 P44_4 (Or.inl P44_3)) (Or.inr (slot_ne (a0 := a0) (Or.inl (w22 hw)) (Or.inl (w74 hw)) (t := .int) (t' := .int) (by decide) (by decide) (by decide))))
  have F48 := (Fld.other W46 (Fld.other W45 P44_5 (Or.inl P44_3)) (Or.inr (slot_ne (a0 := a0) (Or.inl (w25 hw)) (Or.inl (w74 hw)) (t := (.array (.object "java/lang/Object"))) (t' := .int) (by decide) (by decide) (by decide))))
  have F49 := (Fld.same W46 (Fld.other W45 P44_6 (Or.inl P44_3)))
  exact ⟨r44, kr44, _, rfl, N46, (Keep.wr (Keep.wr (Keep.trans (Keep.refl _ _) K44 (allS (Or.inl (List.mem_of_getElem? (i := 0) rfl)) all0)) W45 (Or.inr (Nat.le_trans (Nat.le_refl _) P44_2))) W46 (Or.inl (List.mem_of_getElem? (i := 0) rfl))), (Exa.wr W46 (Exa.wr W45 P44_0)), P44_1, (Nat.le_trans (Nat.le_refl _) P44_2), P44_3, F47, F48, F49, (Af.other W46 A45 (Ne.symm P44_3)), P44_8⟩
def Q_hB (Z : State) (a : Addr) (y : Addr) (r : Addr) (mc : Int32) (kr : ClassId) (fr : Nat → Value) (h0 : Heap) (n0 : Nat) (v : Option Value) (h : Heap) (L : List Loc) : Prop := v = none ∧ Fr n0 L ∧ Keep h0 h [a, r] ∧ Exa Z h a "java/util/ArrayList" ∧ Fld Z h a "java/util/AbstractList" "modCount" "I" (.int mc) ∧ Fld Z h a "java/util/ArrayList" "elementData" "[Ljava/lang/Object;" (.ref r) ∧ Fld Z h a "java/util/ArrayList" "size" "I" (.int (2 : Int32))
theorem ef_hB (m : MethodId) (x0 : Addr) (x1 : Addr) (x2 : Addr) (x3 : Int32) : entryFrame m #[(.ref x0), (.ref x1), (.ref x2), (.int x3)] 4 = mkF m 0 #[.val (.ref x0), .val (.ref x1), .val (.ref x2), .val (.int x3)] [] := by first | (simp [entryFrame, mkF, argsToLocals, Value.category]; done) | rfl
set_option maxRecDepth 65536 in
set_option maxHeartbeats 40000000 in
theorem rm_hB (l : Launch) (Z : State) (a0 : Array Value) (hw : ∀ d ∈ tables_1, d.before a0 Z = true) (a : Addr) (y : Addr) (r : Addr) (mc : Int32) (kr : ClassId) (fr : Nat → Value) (h0 : Heap) (n0 : Nat) (Z0 : n0 ≤ h0.size) (f0 : Exa Z h0 a "java/util/ArrayList") (f1 : n0 ≤ a) (f2 : n0 ≤ r) (f3 : a ≠ r) (f4 : Fld Z h0 a "java/util/AbstractList" "modCount" "I" (.int mc)) (f5 : Fld Z h0 a "java/util/ArrayList" "elementData" "[Ljava/lang/Object;" (.ref r)) (f6 : Fld Z h0 a "java/util/ArrayList" "size" "I" (.int (1 : Int32))) (f7 : Af Z h0 r kr (.object "java/lang/Object") 10 (fr)) (f8 : Ovr Z kr "java/lang/Object") (f9 : Exa Z h0 y "java/lang/Integer") :
    Met l Z (⟨"java/util/ArrayList", "add", "(Ljava/lang/Object;[Ljava/lang/Object;I)V"⟩ : MethodName) jdk_38_method_24_code 4 none [] ({ frames := 0, cells := 0, slots := 0, locals := 0 } : Room) #[(.ref a), (.ref y), (.ref r), (.int (1 : Int32))] h0 (Q_hB Z a y r mc kr fr h0 n0) := by
  refine Met.of (plainFor_of_name pn_hB) ?_
  intro p e s m below meth c s₁ X0 hx hby hml hZ hown hnm e0 hret hlk
  refine Go.cast (ef_hB m a y r ((1 : Int32))) ?_
  show Go _ _ _ _ s₁ (mkF m 0 #[.val (.ref a), .val (.ref y), .val (.ref r), .val (.int (1 : Int32))] []) _ _ _
  have N0 := Fr.nil n0
  refine Go.iloadN X0 hx (hb hby d_hB_0) rfl ?_
  show Go _ _ _ _ s₁ (mkF m 1 #[.val (.ref a), .val (.ref y), .val (.ref r), .val (.int (1 : Int32))] [(.int (1 : Int32))]) _ _ _
  refine Go.aloadN X0 hx (hb hby d_hB_1) rfl rfl ?_
  show Go _ _ _ _ s₁ (mkF m 2 #[.val (.ref a), .val (.ref y), .val (.ref r), .val (.int (1 : Int32))] [(.ref r), (.int (1 : Int32))]) _ _ _
  refine Go.alen X0 hx hZ e0 f7 (hb hby d_hB_2) ?_
  show Go _ _ _ _ s₁ (mkF m 3 #[.val (.ref a), .val (.ref y), .val (.ref r), .val (.int (1 : Int32))] [(.int (10 : Int32)), (.int (1 : Int32))]) _ _ _
  refine Go.icmpYes X0 hx (hb hby d_hB_3) (XT.ii_ne_t (by decide)) (pc' := 11) (by decide) (by decide) ?_
  show Go _ _ _ _ s₁ (mkF m 11 #[.val (.ref a), .val (.ref y), .val (.ref r), .val (.int (1 : Int32))] []) _ _ _
  refine Go.aloadN X0 hx (hb hby d_hB_11) rfl rfl ?_
  show Go _ _ _ _ s₁ (mkF m 12 #[.val (.ref a), .val (.ref y), .val (.ref r), .val (.int (1 : Int32))] [(.ref r)]) _ _ _
  refine Go.iloadN X0 hx (hb hby d_hB_12) rfl ?_
  show Go _ _ _ _ s₁ (mkF m 13 #[.val (.ref a), .val (.ref y), .val (.ref r), .val (.int (1 : Int32))] [(.int (1 : Int32)), (.ref r)]) _ _ _
  refine Go.aloadN X0 hx (hb hby d_hB_13) rfl rfl ?_
  show Go _ _ _ _ s₁ (mkF m 14 #[.val (.ref a), .val (.ref y), .val (.ref r), .val (.int (1 : Int32))] [(.ref y), (.int (1 : Int32)), (.ref r)]) _ _ _
  refine Go.aastore X0 hx hZ e0 f7 rfl f8 (Ins.of_exa f9 (w96 hw)) (by decide) (by decide) (hb hby d_hB_14) ?_
  intro T50 h50 X50 e50 W50 A50
  have N50 := Fr.snoc X50 N0 f2
  have Z50 : n0 ≤ h50.size := by rw [Wr.size W50]; exact Z0
  have B50 : h0.size ≤ h50.size := by rw [Wr.size W50]; exact (Nat.le_refl _)
  show Go _ _ _ _ T50 (mkF m 15 #[.val (.ref a), .val (.ref y), .val (.ref r), .val (.int (1 : Int32))] []) _ _ _
  refine Go.aloadN X50 hx (hb hby d_hB_15) rfl rfl ?_
  show Go _ _ _ _ T50 (mkF m 16 #[.val (.ref a), .val (.ref y), .val (.ref r), .val (.int (1 : Int32))] [(.ref a)]) _ _ _
  refine Go.iloadN X50 hx (hb hby d_hB_16) rfl ?_
  show Go _ _ _ _ T50 (mkF m 17 #[.val (.ref a), .val (.ref y), .val (.ref r), .val (.int (1 : Int32))] [(.int (1 : Int32)), (.ref a)]) _ _ _
  refine Go.iconst X50 hx (hb hby d_hB_17) ?_
  show Go _ _ _ _ T50 (mkF m 18 #[.val (.ref a), .val (.ref y), .val (.ref r), .val (.int (1 : Int32))] [(.int (1 : Int32)), (.int (1 : Int32)), (.ref a)]) _ _ _
  refine Go.iadd X50 hx (hb hby d_hB_18) ?_
  show Go _ _ _ _ T50 (mkF m 19 #[.val (.ref a), .val (.ref y), .val (.ref r), .val (.int (1 : Int32))] [(.int (2 : Int32)), (.ref a)]) _ _ _
  refine Go.putF X50 hx hZ hown (w73 hw) Via.refl e50 (Fld.other W50 f6 (Or.inl f3)) (Exa.wr W50 f0) (Or.inl (w74 hw)) (w1 hw) (ty := .int) (by decide) rfl rfl (hb hby d_hB_19) ?_
  intro T51 h51 X51 e51 W51
  have N51 := Fr.snoc X51 N50 f1
  have Z51 : n0 ≤ h51.size := by rw [Wr.size W51]; exact Z50
  have B51 : h0.size ≤ h51.size := by rw [Wr.size W51]; exact B50
  show Go _ _ _ _ T51 (mkF m 22 #[.val (.ref a), .val (.ref y), .val (.ref r), .val (.int (1 : Int32))] []) _ _ _
  refine Go.ret0 X51 hx hlk hret (hb hby d_hB_22) (by decide) (by decide) ?_
  rw [e51]
  have F52 := (Fld.other W51 (Fld.other W50 f4 (Or.inl f3)) (Or.inr (slot_ne (a0 := a0) (Or.inl (w22 hw)) (Or.inl (w74 hw)) (t := .int) (t' := .int) (by decide) (by decide) (by decide))))
  have F53 := (Fld.other W51 (Fld.other W50 f5 (Or.inl f3)) (Or.inr (slot_ne (a0 := a0) (Or.inl (w25 hw)) (Or.inl (w74 hw)) (t := (.array (.object "java/lang/Object"))) (t' := .int) (by decide) (by decide) (by decide))))
  have F54 := (Fld.same W51 (Fld.other W50 f6 (Or.inl f3)))
  exact ⟨rfl, N51, (Keep.wr (Keep.wr (Keep.refl _ _) W50 (Or.inl (List.mem_of_getElem? (i := 1) rfl))) W51 (Or.inl (List.mem_of_getElem? (i := 0) rfl))), (Exa.wr W51 (Exa.wr W50 f0)), F52, F53, F54⟩
def Q_aA (Z : State) (a : Addr) (y : Addr) (mc : Int32) (de : Addr) (kd : ClassId) (fd : Nat → Value) (h0 : Heap) (n0 : Nat) (v : Option Value) (h : Heap) (L : List Loc) : Prop := ∃ (r : Addr) (kr : ClassId) (fr : Nat → Value), v = some (.int (1 : Int32)) ∧ Fr n0 L ∧ Keep h0 h [a] ∧ Exa Z h a "java/util/ArrayList" ∧ n0 ≤ r ∧ h0.size ≤ r ∧ a ≠ r ∧ Fld Z h a "java/util/AbstractList" "modCount" "I" (.int (mc + (1 : Int32))) ∧ Fld Z h a "java/util/ArrayList" "elementData" "[Ljava/lang/Object;" (.ref r) ∧ Fld Z h a "java/util/ArrayList" "size" "I" (.int (1 : Int32)) ∧ Af Z h r kr (.object "java/lang/Object") 10 (fr) ∧ Ovr Z kr "java/lang/Object"
theorem ef_aA (m : MethodId) (x0 : Addr) (x1 : Addr) : entryFrame m #[(.ref x0), (.ref x1)] 2 = mkF m 0 #[.val (.ref x0), .val (.ref x1)] [] := by first | (simp [entryFrame, mkF, argsToLocals, Value.category]; done) | rfl
set_option maxRecDepth 65536 in
set_option maxHeartbeats 40000000 in
theorem rm_aA (l : Launch) (Z : State) (a0 : Array Value) (hw : ∀ d ∈ tables_1, d.before a0 Z = true) (a : Addr) (y : Addr) (mc : Int32) (de : Addr) (kd : ClassId) (fd : Nat → Value) (h0 : Heap) (n0 : Nat) (Z0 : n0 ≤ h0.size) (f0 : Exa Z h0 a "java/util/ArrayList") (f1 : n0 ≤ a) (f2 : Fld Z h0 a "java/util/AbstractList" "modCount" "I" (.int mc)) (f3 : Fld Z h0 a "java/util/ArrayList" "elementData" "[Ljava/lang/Object;" (.ref de)) (f4 : Fld Z h0 a "java/util/ArrayList" "size" "I" (.int (0 : Int32))) (f5 : Old Z n0 h0) (f6 : Sta Z Z.heap "java/util/ArrayList" "DEFAULTCAPACITY_EMPTY_ELEMENTDATA" "[Ljava/lang/Object;" (.ref de)) (f7 : Af Z Z.heap de kd (.object "java/lang/Object") 0 (fd)) (f8 : Exa Z h0 y "java/lang/Integer") :
    Met l Z (⟨"java/util/ArrayList", "add", "(Ljava/lang/Object;)Z"⟩ : MethodName) jdk_38_method_25_code 2 (Option.some Jvm.ClassFile.FieldType.boolean) [] ({ frames := 4, cells := 1, slots := 10, locals := 56 } : Room) #[(.ref a), (.ref y)] h0 (Q_aA Z a y mc de kd fd h0 n0) := by
  refine Met.of (plainFor_of_name pn_aA) ?_
  intro p e s m below meth c s₁ X0 hx hby hml hZ hown hnm e0 hret hlk
  refine Go.cast (ef_aA m a y) ?_
  show Go _ _ _ _ s₁ (mkF m 0 #[.val (.ref a), .val (.ref y)] []) _ _ _
  have N0 := Fr.nil n0
  refine Go.aloadN X0 hx (hb hby d_aA_0) rfl rfl ?_
  show Go _ _ _ _ s₁ (mkF m 1 #[.val (.ref a), .val (.ref y)] [(.ref a)]) _ _ _
  refine Go.dup X0 hx (hb hby d_aA_1) rfl ?_
  show Go _ _ _ _ s₁ (mkF m 2 #[.val (.ref a), .val (.ref y)] [(.ref a), (.ref a)]) _ _ _
  refine Go.getF X0 hx hZ hown (w71 hw) (Via.of (w72 hw)) e0 f2 (hb hby d_aA_2) ?_
  intro T55 X55 e55
  show Go _ _ _ _ T55 (mkF m 5 #[.val (.ref a), .val (.ref y)] [(.int mc), (.ref a)]) _ _ _
  refine Go.iconst X55 hx (hb hby d_aA_5) ?_
  show Go _ _ _ _ T55 (mkF m 6 #[.val (.ref a), .val (.ref y)] [(.int (1 : Int32)), (.int mc), (.ref a)]) _ _ _
  refine Go.iadd X55 hx (hb hby d_aA_6) ?_
  show Go _ _ _ _ T55 (mkF m 7 #[.val (.ref a), .val (.ref y)] [(.int (mc + (1 : Int32))), (.ref a)]) _ _ _
  refine Go.putF X55 hx hZ hown (w71 hw) (Via.of (w72 hw)) e55 f2 f0 (Or.inl (w22 hw)) (w1 hw) (ty := .int) (by decide) rfl rfl (hb hby d_aA_7) ?_
  intro T56 h56 X56 e56 W56
  have N56 := Fr.snoc X56 N0 f1
  have Z56 : n0 ≤ h56.size := by rw [Wr.size W56]; exact Z0
  have B56 : h0.size ≤ h56.size := by rw [Wr.size W56]; exact (Nat.le_refl _)
  show Go _ _ _ _ T56 (mkF m 10 #[.val (.ref a), .val (.ref y)] []) _ _ _
  refine Go.aloadN X56 hx (hb hby d_aA_10) rfl rfl ?_
  show Go _ _ _ _ T56 (mkF m 11 #[.val (.ref a), .val (.ref y)] [(.ref a)]) _ _ _
  refine Go.aloadN X56 hx (hb hby d_aA_11) rfl rfl ?_
  show Go _ _ _ _ T56 (mkF m 12 #[.val (.ref a), .val (.ref y)] [(.ref y), (.ref a)]) _ _ _
  refine Go.aloadN X56 hx (hb hby d_aA_12) rfl rfl ?_
  show Go _ _ _ _ T56 (mkF m 13 #[.val (.ref a), .val (.ref y)] [(.ref a), (.ref y), (.ref a)]) _ _ _
  have F57 := (Fld.other W56 f3 (Or.inr (slot_ne (a0 := a0) (Or.inl (w25 hw)) (Or.inl (w22 hw)) (t := (.array (.object "java/lang/Object"))) (t' := .int) (by decide) (by decide) (by decide))))
  refine Go.getF X56 hx hZ hown (w24 hw) Via.refl e56 F57 (hb hby d_aA_13) ?_
  intro T58 X58 e58
  show Go _ _ _ _ T58 (mkF m 16 #[.val (.ref a), .val (.ref y)] [(.ref de), (.ref y), (.ref a)]) _ _ _
  refine Go.aloadN X58 hx (hb hby d_aA_16) rfl rfl ?_
  show Go _ _ _ _ T58 (mkF m 17 #[.val (.ref a), .val (.ref y)] [(.ref a), (.ref de), (.ref y), (.ref a)]) _ _ _
  have F59 := (Fld.other W56 f4 (Or.inr (slot_ne (a0 := a0) (Or.inl (w74 hw)) (Or.inl (w22 hw)) (t := .int) (t' := .int) (by decide) (by decide) (by decide))))
  refine Go.getF X58 hx hZ hown (w73 hw) Via.refl e58 F59 (hb hby d_aA_17) ?_
  intro T60 X60 e60
  show Go _ _ _ _ T60 (mkF m 20 #[.val (.ref a), .val (.ref y)] [(.int (0 : Int32)), (.ref de), (.ref y), (.ref a)]) _ _ _
  have O61 := (Old.wr f5 W56 f1)
  refine Go.callP (W := 0) (argsL := [(.ref y), (.ref de), (.int (0 : Int32))]) (rest := []) X60 hx hZ hown (w75 hw) (w76 hw) (w77 hw) (w1 hw) (w2 hw) (w79 hw) (by decide) (Exa.wr W56 f0) (rm_hA l Z a0 hw a y de (mc + (1 : Int32)) kd fd h56 n0 Z56 (Exa.wr W56 f0) f1 (Fld.same W56 f2) F57 F59 O61 f6 f7 (Exa.wr W56 f8)) e60 (lenOf pd_5 rfl) (hb hby d_aA_20) (by rw [hml]; rfl) rfl (Nat.le_of_eq rfl) (by decide) (by decide) (by decide) (by decide) ?_
  intro v62 T62 L62 X62 q62
  obtain ⟨r62, kr62, fr62, rfl, M62, K62, P62_0, P62_1, P62_2, P62_3, P62_4, P62_5, P62_6, P62_7, P62_8⟩ := q62
  have N62 := Fr.app N56 M62
  have Z62 : n0 ≤ T62.heap.size := Nat.le_trans Z56 K62.1
  have B62 : h0.size ≤ T62.heap.size := Nat.le_trans B56 K62.1
  have ne_a_r62 : a ≠ r62 := Nat.ne_of_lt (Nat.lt_of_lt_of_le ((Exa.wr W56 f0)).lt P62_2)
  have ne_y_r62 : y ≠ r62 := Nat.ne_of_lt (Nat.lt_of_lt_of_le ((Exa.wr W56 f8)).lt P62_2)
  show Go _ _ _ _ T62 (mkF m 23 #[.val (.ref a), .val (.ref y)] []) _ _ _
  refine Go.iconst X62 hx (hb hby d_aA_23) ?_
  show Go _ _ _ _ T62 (mkF m 24 #[.val (.ref a), .val (.ref y)] [(.int (1 : Int32))]) _ _ _
  refine Go.retZ X62 hx hlk hret (by decide) (hb hby d_aA_24) (by decide) (by decide) ?_
  exact ⟨r62, kr62, fr62, rfl, N62, (Keep.trans (Keep.wr (Keep.refl _ _) W56 (Or.inl (List.mem_of_getElem? (i := 0) rfl))) K62 (allS (Or.inl (List.mem_of_getElem? (i := 0) rfl)) all0)), P62_0, P62_1, (Nat.le_trans B56 P62_2), P62_3, P62_4, P62_5, P62_6, P62_7, P62_8⟩
def Q_aB (Z : State) (a : Addr) (y : Addr) (mc : Int32) (r : Addr) (kr : ClassId) (fr : Nat → Value) (h0 : Heap) (n0 : Nat) (v : Option Value) (h : Heap) (L : List Loc) : Prop := v = some (.int (1 : Int32)) ∧ Fr n0 L ∧ Keep h0 h [a, r] ∧ Exa Z h a "java/util/ArrayList" ∧ Fld Z h a "java/util/AbstractList" "modCount" "I" (.int (mc + (1 : Int32))) ∧ Fld Z h a "java/util/ArrayList" "elementData" "[Ljava/lang/Object;" (.ref r) ∧ Fld Z h a "java/util/ArrayList" "size" "I" (.int (2 : Int32))
theorem ef_aB (m : MethodId) (x0 : Addr) (x1 : Addr) : entryFrame m #[(.ref x0), (.ref x1)] 2 = mkF m 0 #[.val (.ref x0), .val (.ref x1)] [] := by first | (simp [entryFrame, mkF, argsToLocals, Value.category]; done) | rfl
set_option maxRecDepth 65536 in
set_option maxHeartbeats 40000000 in
theorem rm_aB (l : Launch) (Z : State) (a0 : Array Value) (hw : ∀ d ∈ tables_1, d.before a0 Z = true) (a : Addr) (y : Addr) (mc : Int32) (r : Addr) (kr : ClassId) (fr : Nat → Value) (h0 : Heap) (n0 : Nat) (Z0 : n0 ≤ h0.size) (f0 : Exa Z h0 a "java/util/ArrayList") (f1 : n0 ≤ a) (f2 : n0 ≤ r) (f3 : a ≠ r) (f4 : Fld Z h0 a "java/util/AbstractList" "modCount" "I" (.int mc)) (f5 : Fld Z h0 a "java/util/ArrayList" "elementData" "[Ljava/lang/Object;" (.ref r)) (f6 : Fld Z h0 a "java/util/ArrayList" "size" "I" (.int (1 : Int32))) (f7 : Af Z h0 r kr (.object "java/lang/Object") 10 (fr)) (f8 : Ovr Z kr "java/lang/Object") (f9 : Exa Z h0 y "java/lang/Integer") :
    Met l Z (⟨"java/util/ArrayList", "add", "(Ljava/lang/Object;)Z"⟩ : MethodName) jdk_38_method_25_code 2 (Option.some Jvm.ClassFile.FieldType.boolean) [] ({ frames := 1, cells := 0, slots := 0, locals := 15 } : Room) #[(.ref a), (.ref y)] h0 (Q_aB Z a y mc r kr fr h0 n0) := by
  refine Met.of (plainFor_of_name pn_aB) ?_
  intro p e s m below meth c s₁ X0 hx hby hml hZ hown hnm e0 hret hlk
  refine Go.cast (ef_aB m a y) ?_
  show Go _ _ _ _ s₁ (mkF m 0 #[.val (.ref a), .val (.ref y)] []) _ _ _
  have N0 := Fr.nil n0
  refine Go.aloadN X0 hx (hb hby d_aB_0) rfl rfl ?_
  show Go _ _ _ _ s₁ (mkF m 1 #[.val (.ref a), .val (.ref y)] [(.ref a)]) _ _ _
  refine Go.dup X0 hx (hb hby d_aB_1) rfl ?_
  show Go _ _ _ _ s₁ (mkF m 2 #[.val (.ref a), .val (.ref y)] [(.ref a), (.ref a)]) _ _ _
  refine Go.getF X0 hx hZ hown (w71 hw) (Via.of (w72 hw)) e0 f4 (hb hby d_aB_2) ?_
  intro T63 X63 e63
  show Go _ _ _ _ T63 (mkF m 5 #[.val (.ref a), .val (.ref y)] [(.int mc), (.ref a)]) _ _ _
  refine Go.iconst X63 hx (hb hby d_aB_5) ?_
  show Go _ _ _ _ T63 (mkF m 6 #[.val (.ref a), .val (.ref y)] [(.int (1 : Int32)), (.int mc), (.ref a)]) _ _ _
  refine Go.iadd X63 hx (hb hby d_aB_6) ?_
  show Go _ _ _ _ T63 (mkF m 7 #[.val (.ref a), .val (.ref y)] [(.int (mc + (1 : Int32))), (.ref a)]) _ _ _
  refine Go.putF X63 hx hZ hown (w71 hw) (Via.of (w72 hw)) e63 f4 f0 (Or.inl (w22 hw)) (w1 hw) (ty := .int) (by decide) rfl rfl (hb hby d_aB_7) ?_
  intro T64 h64 X64 e64 W64
  have N64 := Fr.snoc X64 N0 f1
  have Z64 : n0 ≤ h64.size := by rw [Wr.size W64]; exact Z0
  have B64 : h0.size ≤ h64.size := by rw [Wr.size W64]; exact (Nat.le_refl _)
  show Go _ _ _ _ T64 (mkF m 10 #[.val (.ref a), .val (.ref y)] []) _ _ _
  refine Go.aloadN X64 hx (hb hby d_aB_10) rfl rfl ?_
  show Go _ _ _ _ T64 (mkF m 11 #[.val (.ref a), .val (.ref y)] [(.ref a)]) _ _ _
  refine Go.aloadN X64 hx (hb hby d_aB_11) rfl rfl ?_
  show Go _ _ _ _ T64 (mkF m 12 #[.val (.ref a), .val (.ref y)] [(.ref y), (.ref a)]) _ _ _
  refine Go.aloadN X64 hx (hb hby d_aB_12) rfl rfl ?_
  show Go _ _ _ _ T64 (mkF m 13 #[.val (.ref a), .val (.ref y)] [(.ref a), (.ref y), (.ref a)]) _ _ _
  have F65 := (Fld.other W64 f5 (Or.inr (slot_ne (a0 := a0) (Or.inl (w25 hw)) (Or.inl (w22 hw)) (t := (.array (.object "java/lang/Object"))) (t' := .int) (by decide) (by decide) (by decide))))
  refine Go.getF X64 hx hZ hown (w24 hw) Via.refl e64 F65 (hb hby d_aB_13) ?_
  intro T66 X66 e66
  show Go _ _ _ _ T66 (mkF m 16 #[.val (.ref a), .val (.ref y)] [(.ref r), (.ref y), (.ref a)]) _ _ _
  refine Go.aloadN X66 hx (hb hby d_aB_16) rfl rfl ?_
  show Go _ _ _ _ T66 (mkF m 17 #[.val (.ref a), .val (.ref y)] [(.ref a), (.ref r), (.ref y), (.ref a)]) _ _ _
  have F67 := (Fld.other W64 f6 (Or.inr (slot_ne (a0 := a0) (Or.inl (w74 hw)) (Or.inl (w22 hw)) (t := .int) (t' := .int) (by decide) (by decide) (by decide))))
  refine Go.getF X66 hx hZ hown (w73 hw) Via.refl e66 F67 (hb hby d_aB_17) ?_
  intro T68 X68 e68
  show Go _ _ _ _ T68 (mkF m 20 #[.val (.ref a), .val (.ref y)] [(.int (1 : Int32)), (.ref r), (.ref y), (.ref a)]) _ _ _
  refine Go.callP (W := 0) (argsL := [(.ref y), (.ref r), (.int (1 : Int32))]) (rest := []) X68 hx hZ hown (w75 hw) (w76 hw) (w77 hw) (w1 hw) (w2 hw) (w79 hw) (by decide) (Exa.wr W64 f0) (rm_hB l Z a0 hw a y r (mc + (1 : Int32)) kr fr h64 n0 Z64 (Exa.wr W64 f0) f1 f2 f3 (Fld.same W64 f4) F65 F67 (Af.other W64 f7 (Ne.symm f3)) f8 (Exa.wr W64 f9)) e68 (lenOf pd_5 rfl) (hb hby d_aB_20) (by rw [hml]; rfl) rfl (Nat.le_of_eq rfl) (by decide) (by decide) (by decide) (by decide) ?_
  intro v69 T69 L69 X69 q69
  obtain ⟨rfl, M69, K69, P69_0, P69_1, P69_2, P69_3⟩ := q69
  have N69 := Fr.app N64 M69
  have Z69 : n0 ≤ T69.heap.size := Nat.le_trans Z64 K69.1
  have B69 : h0.size ≤ T69.heap.size := Nat.le_trans B64 K69.1
  show Go _ _ _ _ T69 (mkF m 23 #[.val (.ref a), .val (.ref y)] []) _ _ _
  refine Go.iconst X69 hx (hb hby d_aB_23) ?_
  show Go _ _ _ _ T69 (mkF m 24 #[.val (.ref a), .val (.ref y)] [(.int (1 : Int32))]) _ _ _
  refine Go.retZ X69 hx hlk hret (by decide) (hb hby d_aB_24) (by decide) (by decide) ?_
  exact ⟨rfl, N69, (Keep.trans (Keep.wr (Keep.refl _ _) W64 (Or.inl (List.mem_of_getElem? (i := 0) rfl))) K69 (allS (Or.inl (List.mem_of_getElem? (i := 0) rfl)) (allS (Or.inl (List.mem_of_getElem? (i := 1) rfl)) all0))), P69_0, P69_1, P69_2, P69_3⟩
def Q_rci (Z : State) (a : Addr) (p0 : Int32) (p1 : Int32) (p2 : Int32) (t : Addr) (h0 : Heap) (n0 : Nat) (v : Option Value) (h : Heap) (L : List Loc) : Prop := v = none ∧ Fr n0 L ∧ Keep h0 h [a] ∧ Exa Z h a "com/example/coppice/coppice/classfile/Bytecode$Instruction" ∧ Fld Z h a "com/example/coppice/coppice/classfile/Bytecode$Instruction" "opcode" "I" (.int p1)
theorem ef_rci (m : MethodId) (x0 : Addr) (x1 : Int32) (x2 : Int32) (x3 : Int32) (x4 : Addr) : entryFrame m #[(.ref x0), (.int x1), (.int x2), (.int x3), (.ref x4)] 5 = mkF m 0 #[.val (.ref x0), .val (.int x1), .val (.int x2), .val (.int x3), .val (.ref x4)] [] := by first | (simp [entryFrame, mkF, argsToLocals, Value.category]; done) | rfl
set_option maxRecDepth 65536 in
set_option maxHeartbeats 40000000 in
theorem rm_rci (l : Launch) (Z : State) (a0 : Array Value) (hw : ∀ d ∈ tables_1, d.before a0 Z = true) (a : Addr) (p0 : Int32) (p1 : Int32) (p2 : Int32) (t : Addr) (h0 : Heap) (n0 : Nat) (Z0 : n0 ≤ h0.size) (f0 : Exa Z h0 a "com/example/coppice/coppice/classfile/Bytecode$Instruction") (f1 : n0 ≤ a) (f2 : Fld Z h0 a "com/example/coppice/coppice/classfile/Bytecode$Instruction" "offset" "I" (.int (0 : Int32))) (f3 : Fld Z h0 a "com/example/coppice/coppice/classfile/Bytecode$Instruction" "opcode" "I" (.int (0 : Int32))) (f4 : Fld Z h0 a "com/example/coppice/coppice/classfile/Bytecode$Instruction" "operand" "I" (.int (0 : Int32))) (f5 : Fld Z h0 a "com/example/coppice/coppice/classfile/Bytecode$Instruction" "targets" "Ljava/util/List;" .null) :
    Met l Z (⟨"com/example/coppice/coppice/classfile/Bytecode$Instruction", "<init>", "(IIILjava/util/List;)V"⟩ : MethodName) prog_17_method_1_code 5 none [] ({ frames := 2, cells := 0, slots := 0, locals := 24 } : Room) #[(.ref a), (.int p0), (.int p1), (.int p2), (.ref t)] h0 (Q_rci Z a p0 p1 p2 t h0 n0) := by
  refine Met.of (plainFor_of_name pn_rci) ?_
  intro p e s m below meth c s₁ X0 hx hby hml hZ hown hnm e0 hret hlk
  refine Go.cast (ef_rci m a p0 p1 p2 t) ?_
  show Go _ _ _ _ s₁ (mkF m 0 #[.val (.ref a), .val (.int p0), .val (.int p1), .val (.int p2), .val (.ref t)] []) _ _ _
  have N0 := Fr.nil n0
  refine Go.aloadN X0 hx (hb hby d_rci_0) rfl rfl ?_
  show Go _ _ _ _ s₁ (mkF m 1 #[.val (.ref a), .val (.int p0), .val (.int p1), .val (.int p2), .val (.ref t)] [(.ref a)]) _ _ _
  refine Go.callI (W := 0) (a := a) (argsL := []) (rest := []) X0 hx hZ hown rfl (w32 hw) (w33 hw) (w35 hw) (w36 hw) (by decide) (rm_rec l Z a0 hw a h0 n0 Z0 ) e0 (lenOf pd_0 rfl) (hb hby d_rci_1) (by rw [hml]; rfl) rfl (Nat.le_of_eq rfl) (by decide) (by decide) (by decide) (by decide) ?_
  intro v70 T70 L70 X70 q70
  obtain ⟨rfl, M70, e70⟩ := q70
  have N70 := Fr.app N0 M70
  show Go _ _ _ _ T70 (mkF m 4 #[.val (.ref a), .val (.int p0), .val (.int p1), .val (.int p2), .val (.ref t)] []) _ _ _
  refine Go.aloadN X70 hx (hb hby d_rci_4) rfl rfl ?_
  show Go _ _ _ _ T70 (mkF m 5 #[.val (.ref a), .val (.int p0), .val (.int p1), .val (.int p2), .val (.ref t)] [(.ref a)]) _ _ _
  refine Go.iloadN X70 hx (hb hby d_rci_5) rfl ?_
  show Go _ _ _ _ T70 (mkF m 6 #[.val (.ref a), .val (.int p0), .val (.int p1), .val (.int p2), .val (.ref t)] [(.int p0), (.ref a)]) _ _ _
  refine Go.putF X70 hx hZ hown (w38 hw) Via.refl e70 f2 f0 (Or.inr ⟨(w39 hw), rfl, hnm⟩) (w27 hw) (ty := .int) (by decide) rfl rfl (hb hby d_rci_6) ?_
  intro T71 h71 X71 e71 W71
  have N71 := Fr.snoc X71 N70 f1
  have Z71 : n0 ≤ h71.size := by rw [Wr.size W71]; exact Z0
  have B71 : h0.size ≤ h71.size := by rw [Wr.size W71]; exact (Nat.le_refl _)
  show Go _ _ _ _ T71 (mkF m 9 #[.val (.ref a), .val (.int p0), .val (.int p1), .val (.int p2), .val (.ref t)] []) _ _ _
  refine Go.aloadN X71 hx (hb hby d_rci_9) rfl rfl ?_
  show Go _ _ _ _ T71 (mkF m 10 #[.val (.ref a), .val (.int p0), .val (.int p1), .val (.int p2), .val (.ref t)] [(.ref a)]) _ _ _
  refine Go.iloadN X71 hx (hb hby d_rci_10) rfl ?_
  show Go _ _ _ _ T71 (mkF m 11 #[.val (.ref a), .val (.int p0), .val (.int p1), .val (.int p2), .val (.ref t)] [(.int p1), (.ref a)]) _ _ _
  have F72 := (Fld.other W71 f3 (Or.inr (slot_ne (a0 := a0) (Or.inr (w41 hw)) (Or.inr (w39 hw)) (t := .int) (t' := .int) (by decide) (by decide) (by decide))))
  refine Go.putF X71 hx hZ hown (w40 hw) Via.refl e71 F72 (Exa.wr W71 f0) (Or.inr ⟨(w41 hw), rfl, hnm⟩) (w27 hw) (ty := .int) (by decide) rfl rfl (hb hby d_rci_11) ?_
  intro T73 h73 X73 e73 W73
  have N73 := Fr.snoc X73 N71 f1
  have Z73 : n0 ≤ h73.size := by rw [Wr.size W73]; exact Z71
  have B73 : h0.size ≤ h73.size := by rw [Wr.size W73]; exact B71
  show Go _ _ _ _ T73 (mkF m 14 #[.val (.ref a), .val (.int p0), .val (.int p1), .val (.int p2), .val (.ref t)] []) _ _ _
  refine Go.aloadN X73 hx (hb hby d_rci_14) rfl rfl ?_
  show Go _ _ _ _ T73 (mkF m 15 #[.val (.ref a), .val (.int p0), .val (.int p1), .val (.int p2), .val (.ref t)] [(.ref a)]) _ _ _
  refine Go.iloadN X73 hx (hb hby d_rci_15) rfl ?_
  show Go _ _ _ _ T73 (mkF m 16 #[.val (.ref a), .val (.int p0), .val (.int p1), .val (.int p2), .val (.ref t)] [(.int p2), (.ref a)]) _ _ _
  have F74 := (Fld.other W73 (Fld.other W71 f4 (Or.inr (slot_ne (a0 := a0) (Or.inr (w43 hw)) (Or.inr (w39 hw)) (t := .int) (t' := .int) (by decide) (by decide) (by decide)))) (Or.inr (slot_ne (a0 := a0) (Or.inr (w43 hw)) (Or.inr (w41 hw)) (t := .int) (t' := .int) (by decide) (by decide) (by decide))))
  refine Go.putF X73 hx hZ hown (w42 hw) Via.refl e73 F74 (Exa.wr W73 (Exa.wr W71 f0)) (Or.inr ⟨(w43 hw), rfl, hnm⟩) (w27 hw) (ty := .int) (by decide) rfl rfl (hb hby d_rci_16) ?_
  intro T75 h75 X75 e75 W75
  have N75 := Fr.snoc X75 N73 f1
  have Z75 : n0 ≤ h75.size := by rw [Wr.size W75]; exact Z73
  have B75 : h0.size ≤ h75.size := by rw [Wr.size W75]; exact B73
  show Go _ _ _ _ T75 (mkF m 19 #[.val (.ref a), .val (.int p0), .val (.int p1), .val (.int p2), .val (.ref t)] []) _ _ _
  refine Go.aloadN X75 hx (hb hby d_rci_19) rfl rfl ?_
  show Go _ _ _ _ T75 (mkF m 20 #[.val (.ref a), .val (.int p0), .val (.int p1), .val (.int p2), .val (.ref t)] [(.ref a)]) _ _ _
  refine Go.aload X75 hx (hb hby d_rci_20) rfl rfl ?_
  show Go _ _ _ _ T75 (mkF m 22 #[.val (.ref a), .val (.int p0), .val (.int p1), .val (.int p2), .val (.ref t)] [(.ref t), (.ref a)]) _ _ _
  have F76 := (Fld.other W75 (Fld.other W73 (Fld.other W71 f5 (Or.inr (slot_ne (a0 := a0) (Or.inr (w45 hw)) (Or.inr (w39 hw)) (t := (.object "java/util/List")) (t' := .int) (by decide) (by decide) (by decide)))) (Or.inr (slot_ne (a0 := a0) (Or.inr (w45 hw)) (Or.inr (w41 hw)) (t := (.object "java/util/List")) (t' := .int) (by decide) (by decide) (by decide)))) (Or.inr (slot_ne (a0 := a0) (Or.inr (w45 hw)) (Or.inr (w43 hw)) (t := (.object "java/util/List")) (t' := .int) (by decide) (by decide) (by decide))))
  have F77 := (Exa.wr W75 (Exa.wr W73 (Exa.wr W71 f0)))
  refine Go.putF X75 hx hZ hown (w44 hw) Via.refl e75 F76 F77 (Or.inr ⟨(w45 hw), rfl, hnm⟩) (w27 hw) (ty := (.object "java/util/List")) (by decide) rfl rfl (hb hby d_rci_22) ?_
  intro T78 h78 X78 e78 W78
  have N78 := Fr.snoc X78 N75 f1
  have Z78 : n0 ≤ h78.size := by rw [Wr.size W78]; exact Z75
  have B78 : h0.size ≤ h78.size := by rw [Wr.size W78]; exact B75
  show Go _ _ _ _ T78 (mkF m 25 #[.val (.ref a), .val (.int p0), .val (.int p1), .val (.int p2), .val (.ref t)] []) _ _ _
  refine Go.ret0 X78 hx hlk hret (hb hby d_rci_25) (by decide) (by decide) ?_
  rw [e78]
  have F79 := (Fld.other W78 (Fld.other W75 (Fld.same W73 F72) (Or.inr (slot_ne (a0 := a0) (Or.inr (w41 hw)) (Or.inr (w43 hw)) (t := .int) (t' := .int) (by decide) (by decide) (by decide)))) (Or.inr (slot_ne (a0 := a0) (Or.inr (w41 hw)) (Or.inr (w45 hw)) (t := .int) (t' := (.object "java/util/List")) (by decide) (by decide) (by decide))))
  exact ⟨rfl, N78, (Keep.wr (Keep.wr (Keep.wr (Keep.wr (Keep.refl _ _) W71 (Or.inl (List.mem_of_getElem? (i := 0) rfl))) W73 (Or.inl (List.mem_of_getElem? (i := 0) rfl))) W75 (Or.inl (List.mem_of_getElem? (i := 0) rfl))) W78 (Or.inl (List.mem_of_getElem? (i := 0) rfl))), (Exa.wr W78 F77), F79⟩
def F_ef (p0 : Int32) : Int32 := (if p0 = (167 : Int32) then (1 : Int32) else (if p0 = (168 : Int32) then (1 : Int32) else (if p0 = (169 : Int32) then (1 : Int32) else (if p0 = (170 : Int32) then (1 : Int32) else (if p0 = (171 : Int32) then (1 : Int32) else (if p0 = (172 : Int32) then (1 : Int32) else (if p0 = (173 : Int32) then (1 : Int32) else (if p0 = (174 : Int32) then (1 : Int32) else (if p0 = (175 : Int32) then (1 : Int32) else (if p0 = (176 : Int32) then (1 : Int32) else (if p0 = (177 : Int32) then (1 : Int32) else (if p0 = (191 : Int32) then (1 : Int32) else (if p0 = (200 : Int32) then (1 : Int32) else (if p0 = (201 : Int32) then (1 : Int32) else (0 : Int32)))))))))))))))
def Q_ef (p0 : Int32) (h0 : Heap) (v : Option Value) (h : Heap) (L : List Loc) : Prop := v = some (.int (F_ef p0)) ∧ L = [] ∧ h = h0
theorem ef_ef (m : MethodId) (x0 : Int32) : entryFrame m #[(.int x0)] 1 = mkF m 0 #[.val (.int x0)] [] := by first | (simp [entryFrame, mkF, argsToLocals, Value.category]; done) | rfl
set_option maxRecDepth 65536 in
set_option maxHeartbeats 40000000 in
theorem rm_ef (l : Launch) (Z : State) (a0 : Array Value) (hw : ∀ d ∈ tables_1, d.before a0 Z = true) (p0 : Int32) (h0 : Heap)  :
    Met l Z (⟨"com/example/coppice/coppice/classfile/InstructionFallsThroughPinLaw", "endsFlow", "(I)Z"⟩ : MethodName) method_2_code 1 (Option.some Jvm.ClassFile.FieldType.boolean) [] ({ frames := 0, cells := 0, slots := 0, locals := 0 } : Room) #[(.int p0)] h0 (Q_ef p0 h0) := by
  refine Met.of (plainFor_of_name pn_ef) ?_
  intro p e s m below meth c s₁ X0 hx hby hml hZ hown hnm e0 hret hlk
  refine Go.cast (ef_ef m p0) ?_
  show Go _ _ _ _ s₁ (mkF m 0 #[.val (.int p0)] []) _ _ _
  refine Go.iloadN X0 hx (hb hby d_ef_0) rfl ?_
  show Go _ _ _ _ s₁ (mkF m 1 #[.val (.int p0)] [(.int p0)]) _ _ _
  refine Go.sipush X0 hx (hb hby d_ef_1) ?_
  show Go _ _ _ _ s₁ (mkF m 4 #[.val (.int p0)] [(.int (167 : Int32)), (.int p0)]) _ _ _
  rcases Decidable.em (p0 = (167 : Int32)) with c80 | c80
  · refine Go.icmpNo X0 hx (hb hby d_ef_4) (XT.ii_ne_f c80) ?_
    show Go _ _ _ _ s₁ (mkF m 7 #[.val (.int p0)] []) _ _ _
    refine Go.iconst X0 hx (hb hby d_ef_7) ?_
    show Go _ _ _ _ s₁ (mkF m 8 #[.val (.int p0)] [(.int (1 : Int32))]) _ _ _
    refine Go.retZ X0 hx hlk hret (by decide) (hb hby d_ef_8) (by decide) (by decide) ?_
    rw [e0]
    exact ⟨by unfold F_ef; rw [if_pos c80], rfl, rfl⟩
  · refine Go.icmpYes X0 hx (hb hby d_ef_4) (XT.ii_ne_t c80) (pc' := 9) (by decide) (by decide) ?_
    show Go _ _ _ _ s₁ (mkF m 9 #[.val (.int p0)] []) _ _ _
    refine Go.iloadN X0 hx (hb hby d_ef_9) rfl ?_
    show Go _ _ _ _ s₁ (mkF m 10 #[.val (.int p0)] [(.int p0)]) _ _ _
    refine Go.sipush X0 hx (hb hby d_ef_10) ?_
    show Go _ _ _ _ s₁ (mkF m 13 #[.val (.int p0)] [(.int (168 : Int32)), (.int p0)]) _ _ _
    rcases Decidable.em (p0 = (168 : Int32)) with c81 | c81
    · refine Go.icmpNo X0 hx (hb hby d_ef_13) (XT.ii_ne_f c81) ?_
      show Go _ _ _ _ s₁ (mkF m 16 #[.val (.int p0)] []) _ _ _
      refine Go.iconst X0 hx (hb hby d_ef_16) ?_
      show Go _ _ _ _ s₁ (mkF m 17 #[.val (.int p0)] [(.int (1 : Int32))]) _ _ _
      refine Go.retZ X0 hx hlk hret (by decide) (hb hby d_ef_17) (by decide) (by decide) ?_
      rw [e0]
      exact ⟨by unfold F_ef; rw [if_neg c80]; rw [if_pos c81], rfl, rfl⟩
    · refine Go.icmpYes X0 hx (hb hby d_ef_13) (XT.ii_ne_t c81) (pc' := 18) (by decide) (by decide) ?_
      show Go _ _ _ _ s₁ (mkF m 18 #[.val (.int p0)] []) _ _ _
      refine Go.iloadN X0 hx (hb hby d_ef_18) rfl ?_
      show Go _ _ _ _ s₁ (mkF m 19 #[.val (.int p0)] [(.int p0)]) _ _ _
      refine Go.sipush X0 hx (hb hby d_ef_19) ?_
      show Go _ _ _ _ s₁ (mkF m 22 #[.val (.int p0)] [(.int (169 : Int32)), (.int p0)]) _ _ _
      rcases Decidable.em (p0 = (169 : Int32)) with c82 | c82
      · refine Go.icmpNo X0 hx (hb hby d_ef_22) (XT.ii_ne_f c82) ?_
        show Go _ _ _ _ s₁ (mkF m 25 #[.val (.int p0)] []) _ _ _
        refine Go.iconst X0 hx (hb hby d_ef_25) ?_
        show Go _ _ _ _ s₁ (mkF m 26 #[.val (.int p0)] [(.int (1 : Int32))]) _ _ _
        refine Go.retZ X0 hx hlk hret (by decide) (hb hby d_ef_26) (by decide) (by decide) ?_
        rw [e0]
        exact ⟨by unfold F_ef; rw [if_neg c80]; rw [if_neg c81]; rw [if_pos c82], rfl, rfl⟩
      · refine Go.icmpYes X0 hx (hb hby d_ef_22) (XT.ii_ne_t c82) (pc' := 27) (by decide) (by decide) ?_
        show Go _ _ _ _ s₁ (mkF m 27 #[.val (.int p0)] []) _ _ _
        refine Go.iloadN X0 hx (hb hby d_ef_27) rfl ?_
        show Go _ _ _ _ s₁ (mkF m 28 #[.val (.int p0)] [(.int p0)]) _ _ _
        refine Go.sipush X0 hx (hb hby d_ef_28) ?_
        show Go _ _ _ _ s₁ (mkF m 31 #[.val (.int p0)] [(.int (170 : Int32)), (.int p0)]) _ _ _
        rcases Decidable.em (p0 = (170 : Int32)) with c83 | c83
        · refine Go.icmpNo X0 hx (hb hby d_ef_31) (XT.ii_ne_f c83) ?_
          show Go _ _ _ _ s₁ (mkF m 34 #[.val (.int p0)] []) _ _ _
          refine Go.iconst X0 hx (hb hby d_ef_34) ?_
          show Go _ _ _ _ s₁ (mkF m 35 #[.val (.int p0)] [(.int (1 : Int32))]) _ _ _
          refine Go.retZ X0 hx hlk hret (by decide) (hb hby d_ef_35) (by decide) (by decide) ?_
          rw [e0]
          exact ⟨by unfold F_ef; rw [if_neg c80]; rw [if_neg c81]; rw [if_neg c82]; rw [if_pos c83], rfl, rfl⟩
        · refine Go.icmpYes X0 hx (hb hby d_ef_31) (XT.ii_ne_t c83) (pc' := 36) (by decide) (by decide) ?_
          show Go _ _ _ _ s₁ (mkF m 36 #[.val (.int p0)] []) _ _ _
          refine Go.iloadN X0 hx (hb hby d_ef_36) rfl ?_
          show Go _ _ _ _ s₁ (mkF m 37 #[.val (.int p0)] [(.int p0)]) _ _ _
          refine Go.sipush X0 hx (hb hby d_ef_37) ?_
          show Go _ _ _ _ s₁ (mkF m 40 #[.val (.int p0)] [(.int (171 : Int32)), (.int p0)]) _ _ _
          rcases Decidable.em (p0 = (171 : Int32)) with c84 | c84
          · refine Go.icmpNo X0 hx (hb hby d_ef_40) (XT.ii_ne_f c84) ?_
            show Go _ _ _ _ s₁ (mkF m 43 #[.val (.int p0)] []) _ _ _
            refine Go.iconst X0 hx (hb hby d_ef_43) ?_
            show Go _ _ _ _ s₁ (mkF m 44 #[.val (.int p0)] [(.int (1 : Int32))]) _ _ _
            refine Go.retZ X0 hx hlk hret (by decide) (hb hby d_ef_44) (by decide) (by decide) ?_
            rw [e0]
            exact ⟨by unfold F_ef; rw [if_neg c80]; rw [if_neg c81]; rw [if_neg c82]; rw [if_neg c83]; rw [if_pos c84], rfl, rfl⟩
          · refine Go.icmpYes X0 hx (hb hby d_ef_40) (XT.ii_ne_t c84) (pc' := 45) (by decide) (by decide) ?_
            show Go _ _ _ _ s₁ (mkF m 45 #[.val (.int p0)] []) _ _ _
            refine Go.iloadN X0 hx (hb hby d_ef_45) rfl ?_
            show Go _ _ _ _ s₁ (mkF m 46 #[.val (.int p0)] [(.int p0)]) _ _ _
            refine Go.sipush X0 hx (hb hby d_ef_46) ?_
            show Go _ _ _ _ s₁ (mkF m 49 #[.val (.int p0)] [(.int (172 : Int32)), (.int p0)]) _ _ _
            rcases Decidable.em (p0 = (172 : Int32)) with c85 | c85
            · refine Go.icmpNo X0 hx (hb hby d_ef_49) (XT.ii_ne_f c85) ?_
              show Go _ _ _ _ s₁ (mkF m 52 #[.val (.int p0)] []) _ _ _
              refine Go.iconst X0 hx (hb hby d_ef_52) ?_
              show Go _ _ _ _ s₁ (mkF m 53 #[.val (.int p0)] [(.int (1 : Int32))]) _ _ _
              refine Go.retZ X0 hx hlk hret (by decide) (hb hby d_ef_53) (by decide) (by decide) ?_
              rw [e0]
              exact ⟨by unfold F_ef; rw [if_neg c80]; rw [if_neg c81]; rw [if_neg c82]; rw [if_neg c83]; rw [if_neg c84]; rw [if_pos c85], rfl, rfl⟩
            · refine Go.icmpYes X0 hx (hb hby d_ef_49) (XT.ii_ne_t c85) (pc' := 54) (by decide) (by decide) ?_
              show Go _ _ _ _ s₁ (mkF m 54 #[.val (.int p0)] []) _ _ _
              refine Go.iloadN X0 hx (hb hby d_ef_54) rfl ?_
              show Go _ _ _ _ s₁ (mkF m 55 #[.val (.int p0)] [(.int p0)]) _ _ _
              refine Go.sipush X0 hx (hb hby d_ef_55) ?_
              show Go _ _ _ _ s₁ (mkF m 58 #[.val (.int p0)] [(.int (173 : Int32)), (.int p0)]) _ _ _
              rcases Decidable.em (p0 = (173 : Int32)) with c86 | c86
              · refine Go.icmpNo X0 hx (hb hby d_ef_58) (XT.ii_ne_f c86) ?_
                show Go _ _ _ _ s₁ (mkF m 61 #[.val (.int p0)] []) _ _ _
                refine Go.iconst X0 hx (hb hby d_ef_61) ?_
                show Go _ _ _ _ s₁ (mkF m 62 #[.val (.int p0)] [(.int (1 : Int32))]) _ _ _
                refine Go.retZ X0 hx hlk hret (by decide) (hb hby d_ef_62) (by decide) (by decide) ?_
                rw [e0]
                exact ⟨by unfold F_ef; rw [if_neg c80]; rw [if_neg c81]; rw [if_neg c82]; rw [if_neg c83]; rw [if_neg c84]; rw [if_neg c85]; rw [if_pos c86], rfl, rfl⟩
              · refine Go.icmpYes X0 hx (hb hby d_ef_58) (XT.ii_ne_t c86) (pc' := 63) (by decide) (by decide) ?_
                show Go _ _ _ _ s₁ (mkF m 63 #[.val (.int p0)] []) _ _ _
                refine Go.iloadN X0 hx (hb hby d_ef_63) rfl ?_
                show Go _ _ _ _ s₁ (mkF m 64 #[.val (.int p0)] [(.int p0)]) _ _ _
                refine Go.sipush X0 hx (hb hby d_ef_64) ?_
                show Go _ _ _ _ s₁ (mkF m 67 #[.val (.int p0)] [(.int (174 : Int32)), (.int p0)]) _ _ _
                rcases Decidable.em (p0 = (174 : Int32)) with c87 | c87
                · refine Go.icmpNo X0 hx (hb hby d_ef_67) (XT.ii_ne_f c87) ?_
                  show Go _ _ _ _ s₁ (mkF m 70 #[.val (.int p0)] []) _ _ _
                  refine Go.iconst X0 hx (hb hby d_ef_70) ?_
                  show Go _ _ _ _ s₁ (mkF m 71 #[.val (.int p0)] [(.int (1 : Int32))]) _ _ _
                  refine Go.retZ X0 hx hlk hret (by decide) (hb hby d_ef_71) (by decide) (by decide) ?_
                  rw [e0]
                  exact ⟨by unfold F_ef; rw [if_neg c80]; rw [if_neg c81]; rw [if_neg c82]; rw [if_neg c83]; rw [if_neg c84]; rw [if_neg c85]; rw [if_neg c86]; rw [if_pos c87], rfl, rfl⟩
                · refine Go.icmpYes X0 hx (hb hby d_ef_67) (XT.ii_ne_t c87) (pc' := 72) (by decide) (by decide) ?_
                  show Go _ _ _ _ s₁ (mkF m 72 #[.val (.int p0)] []) _ _ _
                  refine Go.iloadN X0 hx (hb hby d_ef_72) rfl ?_
                  show Go _ _ _ _ s₁ (mkF m 73 #[.val (.int p0)] [(.int p0)]) _ _ _
                  refine Go.sipush X0 hx (hb hby d_ef_73) ?_
                  show Go _ _ _ _ s₁ (mkF m 76 #[.val (.int p0)] [(.int (175 : Int32)), (.int p0)]) _ _ _
                  rcases Decidable.em (p0 = (175 : Int32)) with c88 | c88
                  · refine Go.icmpNo X0 hx (hb hby d_ef_76) (XT.ii_ne_f c88) ?_
                    show Go _ _ _ _ s₁ (mkF m 79 #[.val (.int p0)] []) _ _ _
                    refine Go.iconst X0 hx (hb hby d_ef_79) ?_
                    show Go _ _ _ _ s₁ (mkF m 80 #[.val (.int p0)] [(.int (1 : Int32))]) _ _ _
                    refine Go.retZ X0 hx hlk hret (by decide) (hb hby d_ef_80) (by decide) (by decide) ?_
                    rw [e0]
                    exact ⟨by unfold F_ef; rw [if_neg c80]; rw [if_neg c81]; rw [if_neg c82]; rw [if_neg c83]; rw [if_neg c84]; rw [if_neg c85]; rw [if_neg c86]; rw [if_neg c87]; rw [if_pos c88], rfl, rfl⟩
                  · refine Go.icmpYes X0 hx (hb hby d_ef_76) (XT.ii_ne_t c88) (pc' := 81) (by decide) (by decide) ?_
                    show Go _ _ _ _ s₁ (mkF m 81 #[.val (.int p0)] []) _ _ _
                    refine Go.iloadN X0 hx (hb hby d_ef_81) rfl ?_
                    show Go _ _ _ _ s₁ (mkF m 82 #[.val (.int p0)] [(.int p0)]) _ _ _
                    refine Go.sipush X0 hx (hb hby d_ef_82) ?_
                    show Go _ _ _ _ s₁ (mkF m 85 #[.val (.int p0)] [(.int (176 : Int32)), (.int p0)]) _ _ _
                    rcases Decidable.em (p0 = (176 : Int32)) with c89 | c89
                    · refine Go.icmpNo X0 hx (hb hby d_ef_85) (XT.ii_ne_f c89) ?_
                      show Go _ _ _ _ s₁ (mkF m 88 #[.val (.int p0)] []) _ _ _
                      refine Go.iconst X0 hx (hb hby d_ef_88) ?_
                      show Go _ _ _ _ s₁ (mkF m 89 #[.val (.int p0)] [(.int (1 : Int32))]) _ _ _
                      refine Go.retZ X0 hx hlk hret (by decide) (hb hby d_ef_89) (by decide) (by decide) ?_
                      rw [e0]
                      exact ⟨by unfold F_ef; rw [if_neg c80]; rw [if_neg c81]; rw [if_neg c82]; rw [if_neg c83]; rw [if_neg c84]; rw [if_neg c85]; rw [if_neg c86]; rw [if_neg c87]; rw [if_neg c88]; rw [if_pos c89], rfl, rfl⟩
                    · refine Go.icmpYes X0 hx (hb hby d_ef_85) (XT.ii_ne_t c89) (pc' := 90) (by decide) (by decide) ?_
                      show Go _ _ _ _ s₁ (mkF m 90 #[.val (.int p0)] []) _ _ _
                      refine Go.iloadN X0 hx (hb hby d_ef_90) rfl ?_
                      show Go _ _ _ _ s₁ (mkF m 91 #[.val (.int p0)] [(.int p0)]) _ _ _
                      refine Go.sipush X0 hx (hb hby d_ef_91) ?_
                      show Go _ _ _ _ s₁ (mkF m 94 #[.val (.int p0)] [(.int (177 : Int32)), (.int p0)]) _ _ _
                      rcases Decidable.em (p0 = (177 : Int32)) with c90 | c90
                      · refine Go.icmpNo X0 hx (hb hby d_ef_94) (XT.ii_ne_f c90) ?_
                        show Go _ _ _ _ s₁ (mkF m 97 #[.val (.int p0)] []) _ _ _
                        refine Go.iconst X0 hx (hb hby d_ef_97) ?_
                        show Go _ _ _ _ s₁ (mkF m 98 #[.val (.int p0)] [(.int (1 : Int32))]) _ _ _
                        refine Go.retZ X0 hx hlk hret (by decide) (hb hby d_ef_98) (by decide) (by decide) ?_
                        rw [e0]
                        exact ⟨by unfold F_ef; rw [if_neg c80]; rw [if_neg c81]; rw [if_neg c82]; rw [if_neg c83]; rw [if_neg c84]; rw [if_neg c85]; rw [if_neg c86]; rw [if_neg c87]; rw [if_neg c88]; rw [if_neg c89]; rw [if_pos c90], rfl, rfl⟩
                      · refine Go.icmpYes X0 hx (hb hby d_ef_94) (XT.ii_ne_t c90) (pc' := 99) (by decide) (by decide) ?_
                        show Go _ _ _ _ s₁ (mkF m 99 #[.val (.int p0)] []) _ _ _
                        refine Go.iloadN X0 hx (hb hby d_ef_99) rfl ?_
                        show Go _ _ _ _ s₁ (mkF m 100 #[.val (.int p0)] [(.int p0)]) _ _ _
                        refine Go.sipush X0 hx (hb hby d_ef_100) ?_
                        show Go _ _ _ _ s₁ (mkF m 103 #[.val (.int p0)] [(.int (191 : Int32)), (.int p0)]) _ _ _
                        rcases Decidable.em (p0 = (191 : Int32)) with c91 | c91
                        · refine Go.icmpNo X0 hx (hb hby d_ef_103) (XT.ii_ne_f c91) ?_
                          show Go _ _ _ _ s₁ (mkF m 106 #[.val (.int p0)] []) _ _ _
                          refine Go.iconst X0 hx (hb hby d_ef_106) ?_
                          show Go _ _ _ _ s₁ (mkF m 107 #[.val (.int p0)] [(.int (1 : Int32))]) _ _ _
                          refine Go.retZ X0 hx hlk hret (by decide) (hb hby d_ef_107) (by decide) (by decide) ?_
                          rw [e0]
                          exact ⟨by unfold F_ef; rw [if_neg c80]; rw [if_neg c81]; rw [if_neg c82]; rw [if_neg c83]; rw [if_neg c84]; rw [if_neg c85]; rw [if_neg c86]; rw [if_neg c87]; rw [if_neg c88]; rw [if_neg c89]; rw [if_neg c90]; rw [if_pos c91], rfl, rfl⟩
                        · refine Go.icmpYes X0 hx (hb hby d_ef_103) (XT.ii_ne_t c91) (pc' := 108) (by decide) (by decide) ?_
                          show Go _ _ _ _ s₁ (mkF m 108 #[.val (.int p0)] []) _ _ _
                          refine Go.iloadN X0 hx (hb hby d_ef_108) rfl ?_
                          show Go _ _ _ _ s₁ (mkF m 109 #[.val (.int p0)] [(.int p0)]) _ _ _
                          refine Go.sipush X0 hx (hb hby d_ef_109) ?_
                          show Go _ _ _ _ s₁ (mkF m 112 #[.val (.int p0)] [(.int (200 : Int32)), (.int p0)]) _ _ _
                          rcases Decidable.em (p0 = (200 : Int32)) with c92 | c92
                          · refine Go.icmpNo X0 hx (hb hby d_ef_112) (XT.ii_ne_f c92) ?_
                            show Go _ _ _ _ s₁ (mkF m 115 #[.val (.int p0)] []) _ _ _
                            refine Go.iconst X0 hx (hb hby d_ef_115) ?_
                            show Go _ _ _ _ s₁ (mkF m 116 #[.val (.int p0)] [(.int (1 : Int32))]) _ _ _
                            refine Go.retZ X0 hx hlk hret (by decide) (hb hby d_ef_116) (by decide) (by decide) ?_
                            rw [e0]
                            exact ⟨by unfold F_ef; rw [if_neg c80]; rw [if_neg c81]; rw [if_neg c82]; rw [if_neg c83]; rw [if_neg c84]; rw [if_neg c85]; rw [if_neg c86]; rw [if_neg c87]; rw [if_neg c88]; rw [if_neg c89]; rw [if_neg c90]; rw [if_neg c91]; rw [if_pos c92], rfl, rfl⟩
                          · refine Go.icmpYes X0 hx (hb hby d_ef_112) (XT.ii_ne_t c92) (pc' := 117) (by decide) (by decide) ?_
                            show Go _ _ _ _ s₁ (mkF m 117 #[.val (.int p0)] []) _ _ _
                            refine Go.iloadN X0 hx (hb hby d_ef_117) rfl ?_
                            show Go _ _ _ _ s₁ (mkF m 118 #[.val (.int p0)] [(.int p0)]) _ _ _
                            refine Go.sipush X0 hx (hb hby d_ef_118) ?_
                            show Go _ _ _ _ s₁ (mkF m 121 #[.val (.int p0)] [(.int (201 : Int32)), (.int p0)]) _ _ _
                            rcases Decidable.em (p0 = (201 : Int32)) with c93 | c93
                            · refine Go.icmpNo X0 hx (hb hby d_ef_121) (XT.ii_ne_f c93) ?_
                              show Go _ _ _ _ s₁ (mkF m 124 #[.val (.int p0)] []) _ _ _
                              refine Go.iconst X0 hx (hb hby d_ef_124) ?_
                              show Go _ _ _ _ s₁ (mkF m 125 #[.val (.int p0)] [(.int (1 : Int32))]) _ _ _
                              refine Go.retZ X0 hx hlk hret (by decide) (hb hby d_ef_125) (by decide) (by decide) ?_
                              rw [e0]
                              exact ⟨by unfold F_ef; rw [if_neg c80]; rw [if_neg c81]; rw [if_neg c82]; rw [if_neg c83]; rw [if_neg c84]; rw [if_neg c85]; rw [if_neg c86]; rw [if_neg c87]; rw [if_neg c88]; rw [if_neg c89]; rw [if_neg c90]; rw [if_neg c91]; rw [if_neg c92]; rw [if_pos c93], rfl, rfl⟩
                            · refine Go.icmpYes X0 hx (hb hby d_ef_121) (XT.ii_ne_t c93) (pc' := 126) (by decide) (by decide) ?_
                              show Go _ _ _ _ s₁ (mkF m 126 #[.val (.int p0)] []) _ _ _
                              refine Go.iconst X0 hx (hb hby d_ef_126) ?_
                              show Go _ _ _ _ s₁ (mkF m 127 #[.val (.int p0)] [(.int (0 : Int32))]) _ _ _
                              refine Go.retZ X0 hx hlk hret (by decide) (hb hby d_ef_127) (by decide) (by decide) ?_
                              rw [e0]
                              exact ⟨by unfold F_ef; rw [if_neg c80]; rw [if_neg c81]; rw [if_neg c82]; rw [if_neg c83]; rw [if_neg c84]; rw [if_neg c85]; rw [if_neg c86]; rw [if_neg c87]; rw [if_neg c88]; rw [if_neg c89]; rw [if_neg c90]; rw [if_neg c91]; rw [if_neg c92]; rw [if_neg c93], rfl, rfl⟩
def F_ft (a : Addr) (p0 : Int32) : Int32 := (if p0 < (167 : Int32) then (1 : Int32) else (if (177 : Int32) < p0 then (if p0 = (191 : Int32) then (0 : Int32) else (if p0 = (200 : Int32) then (0 : Int32) else (if p0 = (201 : Int32) then (0 : Int32) else (1 : Int32)))) else (0 : Int32)))
def Q_ft (Z : State) (a : Addr) (p0 : Int32) (h0 : Heap) (n0 : Nat) (v : Option Value) (h : Heap) (L : List Loc) : Prop := v = some (.int (F_ft a p0)) ∧ Fr n0 L ∧ h = h0
theorem ef_ft (m : MethodId) (x0 : Addr) : entryFrame m #[(.ref x0)] 1 = mkF m 0 #[.val (.ref x0)] [] := by first | (simp [entryFrame, mkF, argsToLocals, Value.category]; done) | rfl
set_option maxRecDepth 65536 in
set_option maxHeartbeats 40000000 in
theorem rm_ft (l : Launch) (Z : State) (a0 : Array Value) (hw : ∀ d ∈ tables_1, d.before a0 Z = true) (a : Addr) (p0 : Int32) (h0 : Heap) (n0 : Nat) (Z0 : n0 ≤ h0.size) (f0 : Fld Z h0 a "com/example/coppice/coppice/classfile/Bytecode$Instruction" "opcode" "I" (.int p0)) :
    Met l Z (⟨"com/example/coppice/coppice/classfile/Bytecode$Instruction", "fallsThrough", "()Z"⟩ : MethodName) prog_17_method_2_code 1 (Option.some Jvm.ClassFile.FieldType.boolean) [] ({ frames := 0, cells := 0, slots := 0, locals := 0 } : Room) #[(.ref a)] h0 (Q_ft Z a p0 h0 n0) := by
  refine Met.of (plainFor_of_name pn_ft) ?_
  intro p e s m below meth c s₁ X0 hx hby hml hZ hown hnm e0 hret hlk
  refine Go.cast (ef_ft m a) ?_
  show Go _ _ _ _ s₁ (mkF m 0 #[.val (.ref a)] []) _ _ _
  have N0 := Fr.nil n0
  refine Go.aloadN X0 hx (hb hby d_ft_0) rfl rfl ?_
  show Go _ _ _ _ s₁ (mkF m 1 #[.val (.ref a)] [(.ref a)]) _ _ _
  refine Go.getF X0 hx hZ hown (w40 hw) Via.refl e0 f0 (hb hby d_ft_1) ?_
  intro T94 X94 e94
  show Go _ _ _ _ T94 (mkF m 4 #[.val (.ref a)] [(.int p0)]) _ _ _
  refine Go.sipush X94 hx (hb hby d_ft_4) ?_
  show Go _ _ _ _ T94 (mkF m 7 #[.val (.ref a)] [(.int (167 : Int32)), (.int p0)]) _ _ _
  rcases Decidable.em (p0 < (167 : Int32)) with c95 | c95
  · refine Go.icmpYes X94 hx (hb hby d_ft_7) (XT.ii_lt_t c95) (pc' := 50) (by decide) (by decide) ?_
    show Go _ _ _ _ T94 (mkF m 50 #[.val (.ref a)] []) _ _ _
    refine Go.iconst X94 hx (hb hby d_ft_50) ?_
    show Go _ _ _ _ T94 (mkF m 51 #[.val (.ref a)] [(.int (1 : Int32))]) _ _ _
    refine Go.goto X94 hx (hb hby d_ft_51) (pc' := 55) (by decide) (by decide) ?_
    show Go _ _ _ _ T94 (mkF m 55 #[.val (.ref a)] [(.int (1 : Int32))]) _ _ _
    refine Go.retZ X94 hx hlk hret (by decide) (hb hby d_ft_55) (by decide) (by decide) ?_
    rw [e94]
    exact ⟨by unfold F_ft; rw [if_pos c95], N0, rfl⟩
  · refine Go.icmpNo X94 hx (hb hby d_ft_7) (XT.ii_lt_f c95) ?_
    show Go _ _ _ _ T94 (mkF m 10 #[.val (.ref a)] []) _ _ _
    refine Go.aloadN X94 hx (hb hby d_ft_10) rfl rfl ?_
    show Go _ _ _ _ T94 (mkF m 11 #[.val (.ref a)] [(.ref a)]) _ _ _
    refine Go.getF X94 hx hZ hown (w40 hw) Via.refl e94 f0 (hb hby d_ft_11) ?_
    intro T96 X96 e96
    show Go _ _ _ _ T96 (mkF m 14 #[.val (.ref a)] [(.int p0)]) _ _ _
    refine Go.sipush X96 hx (hb hby d_ft_14) ?_
    show Go _ _ _ _ T96 (mkF m 17 #[.val (.ref a)] [(.int (177 : Int32)), (.int p0)]) _ _ _
    rcases Decidable.em ((177 : Int32) < p0) with c97 | c97
    · refine Go.icmpNo X96 hx (hb hby d_ft_17) (XT.ii_le_f c97) ?_
      show Go _ _ _ _ T96 (mkF m 20 #[.val (.ref a)] []) _ _ _
      refine Go.aloadN X96 hx (hb hby d_ft_20) rfl rfl ?_
      show Go _ _ _ _ T96 (mkF m 21 #[.val (.ref a)] [(.ref a)]) _ _ _
      refine Go.getF X96 hx hZ hown (w40 hw) Via.refl e96 f0 (hb hby d_ft_21) ?_
      intro T98 X98 e98
      show Go _ _ _ _ T98 (mkF m 24 #[.val (.ref a)] [(.int p0)]) _ _ _
      refine Go.sipush X98 hx (hb hby d_ft_24) ?_
      show Go _ _ _ _ T98 (mkF m 27 #[.val (.ref a)] [(.int (191 : Int32)), (.int p0)]) _ _ _
      rcases Decidable.em (p0 = (191 : Int32)) with c99 | c99
      · refine Go.icmpYes X98 hx (hb hby d_ft_27) (XT.ii_eq_t c99) (pc' := 54) (by decide) (by decide) ?_
        show Go _ _ _ _ T98 (mkF m 54 #[.val (.ref a)] []) _ _ _
        refine Go.iconst X98 hx (hb hby d_ft_54) ?_
        show Go _ _ _ _ T98 (mkF m 55 #[.val (.ref a)] [(.int (0 : Int32))]) _ _ _
        refine Go.retZ X98 hx hlk hret (by decide) (hb hby d_ft_55) (by decide) (by decide) ?_
        rw [e98]
        exact ⟨by unfold F_ft; rw [if_neg c95]; rw [if_pos c97]; rw [if_pos c99], N0, rfl⟩
      · refine Go.icmpNo X98 hx (hb hby d_ft_27) (XT.ii_eq_f c99) ?_
        show Go _ _ _ _ T98 (mkF m 30 #[.val (.ref a)] []) _ _ _
        refine Go.aloadN X98 hx (hb hby d_ft_30) rfl rfl ?_
        show Go _ _ _ _ T98 (mkF m 31 #[.val (.ref a)] [(.ref a)]) _ _ _
        refine Go.getF X98 hx hZ hown (w40 hw) Via.refl e98 f0 (hb hby d_ft_31) ?_
        intro T100 X100 e100
        show Go _ _ _ _ T100 (mkF m 34 #[.val (.ref a)] [(.int p0)]) _ _ _
        refine Go.sipush X100 hx (hb hby d_ft_34) ?_
        show Go _ _ _ _ T100 (mkF m 37 #[.val (.ref a)] [(.int (200 : Int32)), (.int p0)]) _ _ _
        rcases Decidable.em (p0 = (200 : Int32)) with c101 | c101
        · refine Go.icmpYes X100 hx (hb hby d_ft_37) (XT.ii_eq_t c101) (pc' := 54) (by decide) (by decide) ?_
          show Go _ _ _ _ T100 (mkF m 54 #[.val (.ref a)] []) _ _ _
          refine Go.iconst X100 hx (hb hby d_ft_54) ?_
          show Go _ _ _ _ T100 (mkF m 55 #[.val (.ref a)] [(.int (0 : Int32))]) _ _ _
          refine Go.retZ X100 hx hlk hret (by decide) (hb hby d_ft_55) (by decide) (by decide) ?_
          rw [e100]
          exact ⟨by unfold F_ft; rw [if_neg c95]; rw [if_pos c97]; rw [if_neg c99]; rw [if_pos c101], N0, rfl⟩
        · refine Go.icmpNo X100 hx (hb hby d_ft_37) (XT.ii_eq_f c101) ?_
          show Go _ _ _ _ T100 (mkF m 40 #[.val (.ref a)] []) _ _ _
          refine Go.aloadN X100 hx (hb hby d_ft_40) rfl rfl ?_
          show Go _ _ _ _ T100 (mkF m 41 #[.val (.ref a)] [(.ref a)]) _ _ _
          refine Go.getF X100 hx hZ hown (w40 hw) Via.refl e100 f0 (hb hby d_ft_41) ?_
          intro T102 X102 e102
          show Go _ _ _ _ T102 (mkF m 44 #[.val (.ref a)] [(.int p0)]) _ _ _
          refine Go.sipush X102 hx (hb hby d_ft_44) ?_
          show Go _ _ _ _ T102 (mkF m 47 #[.val (.ref a)] [(.int (201 : Int32)), (.int p0)]) _ _ _
          rcases Decidable.em (p0 = (201 : Int32)) with c103 | c103
          · refine Go.icmpYes X102 hx (hb hby d_ft_47) (XT.ii_eq_t c103) (pc' := 54) (by decide) (by decide) ?_
            show Go _ _ _ _ T102 (mkF m 54 #[.val (.ref a)] []) _ _ _
            refine Go.iconst X102 hx (hb hby d_ft_54) ?_
            show Go _ _ _ _ T102 (mkF m 55 #[.val (.ref a)] [(.int (0 : Int32))]) _ _ _
            refine Go.retZ X102 hx hlk hret (by decide) (hb hby d_ft_55) (by decide) (by decide) ?_
            rw [e102]
            exact ⟨by unfold F_ft; rw [if_neg c95]; rw [if_pos c97]; rw [if_neg c99]; rw [if_neg c101]; rw [if_pos c103], N0, rfl⟩
          · refine Go.icmpNo X102 hx (hb hby d_ft_47) (XT.ii_eq_f c103) ?_
            show Go _ _ _ _ T102 (mkF m 50 #[.val (.ref a)] []) _ _ _
            refine Go.iconst X102 hx (hb hby d_ft_50) ?_
            show Go _ _ _ _ T102 (mkF m 51 #[.val (.ref a)] [(.int (1 : Int32))]) _ _ _
            refine Go.goto X102 hx (hb hby d_ft_51) (pc' := 55) (by decide) (by decide) ?_
            show Go _ _ _ _ T102 (mkF m 55 #[.val (.ref a)] [(.int (1 : Int32))]) _ _ _
            refine Go.retZ X102 hx hlk hret (by decide) (hb hby d_ft_55) (by decide) (by decide) ?_
            rw [e102]
            exact ⟨by unfold F_ft; rw [if_neg c95]; rw [if_pos c97]; rw [if_neg c99]; rw [if_neg c101]; rw [if_neg c103], N0, rfl⟩
    · refine Go.icmpYes X96 hx (hb hby d_ft_17) (XT.ii_le_t c97) (pc' := 54) (by decide) (by decide) ?_
      show Go _ _ _ _ T96 (mkF m 54 #[.val (.ref a)] []) _ _ _
      refine Go.iconst X96 hx (hb hby d_ft_54) ?_
      show Go _ _ _ _ T96 (mkF m 55 #[.val (.ref a)] [(.int (0 : Int32))]) _ _ _
      refine Go.retZ X96 hx hlk hret (by decide) (hb hby d_ft_55) (by decide) (by decide) ?_
      rw [e96]
      exact ⟨by unfold F_ft; rw [if_neg c95]; rw [if_neg c97], N0, rfl⟩
theorem own_ft (a : Addr) (p : Int32) : (F_ef p = 0 ∧ F_ft a p = 1) ∨ (¬ F_ef p = 0 ∧ F_ft a p = 0) := by
  by_cases h167 : p = 167; · subst h167; exact Or.inr (by unfold F_ef F_ft; decide)
  by_cases h168 : p = 168; · subst h168; exact Or.inr (by unfold F_ef F_ft; decide)
  by_cases h169 : p = 169; · subst h169; exact Or.inr (by unfold F_ef F_ft; decide)
  by_cases h170 : p = 170; · subst h170; exact Or.inr (by unfold F_ef F_ft; decide)
  by_cases h171 : p = 171; · subst h171; exact Or.inr (by unfold F_ef F_ft; decide)
  by_cases h172 : p = 172; · subst h172; exact Or.inr (by unfold F_ef F_ft; decide)
  by_cases h173 : p = 173; · subst h173; exact Or.inr (by unfold F_ef F_ft; decide)
  by_cases h174 : p = 174; · subst h174; exact Or.inr (by unfold F_ef F_ft; decide)
  by_cases h175 : p = 175; · subst h175; exact Or.inr (by unfold F_ef F_ft; decide)
  by_cases h176 : p = 176; · subst h176; exact Or.inr (by unfold F_ef F_ft; decide)
  by_cases h177 : p = 177; · subst h177; exact Or.inr (by unfold F_ef F_ft; decide)
  by_cases h191 : p = 191; · subst h191; exact Or.inr (by unfold F_ef F_ft; decide)
  by_cases h200 : p = 200; · subst h200; exact Or.inr (by unfold F_ef F_ft; decide)
  by_cases h201 : p = 201; · subst h201; exact Or.inr (by unfold F_ef F_ft; decide)
  have e1 : F_ef p = 0 := by unfold F_ef; simp only [h167, h168, h169, h170, h171, h172, h173, h174, h175, h176, h177, h191, h200, h201, if_false]
  refine Or.inl ⟨e1, ?_⟩
  unfold F_ft; simp only [h191, h200, h201, if_false]
  by_cases a1 : p < 167
  · rw [if_pos a1]
  rw [if_neg a1]
  by_cases a2 : (177 : Int32) < p
  · rw [if_pos a2]
  exfalso
  have L : ∀ k : Int32, ¬ p = k → p.toInt ≠ k.toInt := fun k q z => q (Int32.toInt_inj.mp z)
  have g167 : p.toInt ≠ 167 := L 167 h167
  have g168 : p.toInt ≠ 168 := L 168 h168
  have g169 : p.toInt ≠ 169 := L 169 h169
  have g170 : p.toInt ≠ 170 := L 170 h170
  have g171 : p.toInt ≠ 171 := L 171 h171
  have g172 : p.toInt ≠ 172 := L 172 h172
  have g173 : p.toInt ≠ 173 := L 173 h173
  have g174 : p.toInt ≠ 174 := L 174 h174
  have g175 : p.toInt ≠ 175 := L 175 h175
  have g176 : p.toInt ≠ 176 := L 176 h176
  have g177 : p.toInt ≠ 177 := L 177 h177
  rw [Int32.lt_iff_toInt_lt] at a1 a2
  have b1 : (167 : Int32).toInt = 167 := rfl
  have b2 : (177 : Int32).toInt = 177 := rfl
  omega
theorem own_small : ∀ j : Fin 256, (j.val.toInt32).toNatClampNeg = j.val := by decide +kernel
theorem own_all {s : State} {args : Array Value} {t : Jvm.Term} {a : Addr} {c : Cell} {k : ClassId} {ty : FieldType} {f : Nat → Value} {C : String} {d : Jvm.Cond} (ev : t.eval args s none [] s = some (.ref a)) (hc : s.heap[a]? = some c) (A : Af s s.heap a k ty 256 f) (hclosed : ∀ i, t.eval args s none [i] s = t.eval args s none [] s)
    (h : (Jvm.Cond.all t (Jvm.Cond.and (Jvm.Cond.exactly (Jvm.Term.elem t (Jvm.Term.index 0)) C) d)).value args s none s [] = some true) : ∀ j, j < 256 → ∃ y, (c.slots[j]?).getD .null = Value.ref y ∧ Exa s s.heap y C := by
  intro j hj
  obtain ⟨cl, A1, -, r2, -, -⟩ := A
  cases hc.symm.trans A1.1
  have ha : s.arrayAt? a = some c := A1.fin (Vm.Alike.refl _)
  have q := Cond.all_elim ev ha h j (by omega)
  obtain ⟨q1, -⟩ := and_e q
  obtain ⟨y, ey⟩ := exa_v q1
  refine ⟨y, ?_, exa_at ey q1⟩
  have q2 := (elem_in (j := j.toInt32) ey ((hclosed j).trans ev) rfl A1.1).2
  have e : j.toInt32.toNatClampNeg = j := own_small ⟨j, hj⟩
  rw [e] at q2; rw [q2]; rfl
def Q_law (Z : State) (p0 : Int32) (p1 : Int32) (p2 : Int32) (p3 : Int32) (p4 : Int32) (de : Addr) (kd : ClassId) (fd : Nat → Value) (ca : Addr) (kc : ClassId) (f : Nat → Value) (h0 : Heap) (n0 : Nat) (v : Option Value) (h : Heap) (L : List Loc) : Prop := v = some (.int (1 : Int32)) ∧ Fr n0 L
theorem ef_law (m : MethodId) (x0 : Int32) (x1 : Int32) (x2 : Int32) (x3 : Int32) (x4 : Int32) : entryFrame m #[(.int x0), (.int x1), (.int x2), (.int x3), (.int x4)] maxLocals = mkF m 0 #[.val (.int x0), .val (.int x1), .val (.int x2), .val (.int x3), .val (.int x4), .unset, .unset, .unset, .unset] [] := by first | (simp [entryFrame, mkF, argsToLocals, Value.category, maxLocals]; done) | rfl
set_option maxRecDepth 65536 in
set_option maxHeartbeats 40000000 in
theorem rm_law (l : Launch) (Z : State) (a0 : Array Value) (hw : ∀ d ∈ tables_1, d.before a0 Z = true) (ws : List Jvm.Cond) (p0 : Int32) (p1 : Int32) (p2 : Int32) (p3 : Int32) (p4 : Int32) (de : Addr) (kd : ClassId) (fd : Nat → Value) (ca : Addr) (kc : ClassId) (f : Nat → Value) (h0 : Heap) (n0 : Nat) (Z0 : n0 ≤ h0.size) (f0 : Old Z n0 h0) (f1 : Sta Z Z.heap "java/util/ArrayList" "DEFAULTCAPACITY_EMPTY_ELEMENTDATA" "[Ljava/lang/Object;" (.ref de)) (f2 : Af Z Z.heap de kd (.object "java/lang/Object") 0 (fd)) (f3 : Sta Z Z.heap "java/lang/Integer$IntegerCache" "high" "I" (.int (127 : Int32))) (f4 : Sta Z Z.heap "java/lang/Integer$IntegerCache" "cache" "[Ljava/lang/Integer;" (.ref ca)) (f5 : Af Z Z.heap ca kc (.object "java/lang/Integer") 256 (f)) (f6 : True) (f7 : ∀ j, j < 256 → ∃ y, f j = Value.ref y ∧ Exa Z Z.heap y "java/lang/Integer") :
    Met l Z x code maxLocals ret ws room_1 #[(.int p0), (.int p1), (.int p2), (.int p3), (.int p4)] h0 (Q_law Z p0 p1 p2 p3 p4 de kd fd ca kc f h0 n0) := by
  refine Met.of (plainFor_of_name pn_law) ?_
  intro p e s m below meth c s₁ X0 hx hby hml hZ hown hnm e0 hret hlk
  refine Go.cast (ef_law m p0 p1 p2 p3 p4) ?_
  show Go _ _ _ _ s₁ (mkF m 0 #[.val (.int p0), .val (.int p1), .val (.int p2), .val (.int p3), .val (.int p4), .unset, .unset, .unset, .unset] []) _ _ _
  have N0 := Fr.nil n0
  refine Go.iloadN X0 hx (hb hby at_0) rfl ?_
  show Go _ _ _ _ s₁ (mkF m 1 #[.val (.int p0), .val (.int p1), .val (.int p2), .val (.int p3), .val (.int p4), .unset, .unset, .unset, .unset] [(.int p0)]) _ _ _
  refine Go.sipush X0 hx (hb hby at_1) ?_
  show Go _ _ _ _ s₁ (mkF m 4 #[.val (.int p0), .val (.int p1), .val (.int p2), .val (.int p3), .val (.int p4), .unset, .unset, .unset, .unset] [(.int (255 : Int32)), (.int p0)]) _ _ _
  refine Go.iand X0 hx (hb hby at_4) ?_
  show Go _ _ _ _ s₁ (mkF m 5 #[.val (.int p0), .val (.int p1), .val (.int p2), .val (.int p3), .val (.int p4), .unset, .unset, .unset, .unset] [(.int (p0 &&& (255 : Int32)))]) _ _ _
  refine Go.istore X0 hx (hb hby at_5) (l' := #[.val (.int p0), .val (.int p1), .val (.int p2), .val (.int p3), .val (.int p4), .val (.int (p0 &&& (255 : Int32))), .unset, .unset, .unset]) rfl ?_
  show Go _ _ _ _ s₁ (mkF m 7 #[.val (.int p0), .val (.int p1), .val (.int p2), .val (.int p3), .val (.int p4), .val (.int (p0 &&& (255 : Int32))), .unset, .unset, .unset] []) _ _ _
  refine Go.newO X0 hx hZ hown (w0 hw) (w1 hw) (w2 hw) e0 (hb hby at_7) (by decide) (by decide) ?_
  intro T104 h104 a104 b104 X104 e104 E104 A104 D104
  have g_a104 : n0 ≤ a104 := by rw [b104]; exact Z0
  have y_a104 : h0.size ≤ a104 := by rw [b104]; exact (Nat.le_refl _)
  have Z104 : n0 ≤ h104.size := Nat.le_trans Z0 E104.1
  have B104 : h0.size ≤ h104.size := Nat.le_trans (Nat.le_refl _) E104.1
  show Go _ _ _ _ T104 (mkF m 10 #[.val (.int p0), .val (.int p1), .val (.int p2), .val (.int p3), .val (.int p4), .val (.int (p0 &&& (255 : Int32))), .unset, .unset, .unset] [(.ref a104)]) _ _ _
  refine Go.dup X104 hx (hb hby at_10) rfl ?_
  show Go _ _ _ _ T104 (mkF m 11 #[.val (.int p0), .val (.int p1), .val (.int p2), .val (.int p3), .val (.int p4), .val (.int (p0 &&& (255 : Int32))), .unset, .unset, .unset] [(.ref a104), (.ref a104)]) _ _ _
  have F105 := (D104 (Or.inl (w22 hw)) (ty := .int) (by decide))
  have F106 := (D104 (Or.inl (w25 hw)) (ty := (.array (.object "java/lang/Object"))) (by decide))
  have F107 := (D104 (Or.inl (w74 hw)) (ty := .int) (by decide))
  have O108 := (Old.ext f0 E104)
  refine Go.callI (W := 1) (a := a104) (argsL := []) (rest := [(.ref a104)]) X104 hx hZ hown rfl (w3 hw) (w4 hw) (w2 hw) (w5 hw) (by decide) (rm_ali l Z a0 hw a104 de h104 n0 Z104 A104 g_a104 F105 F106 F107 O108 f1) e104 (lenOf pd_0 rfl) (hb hby at_11) (by rw [hml]; rfl) rfl (Nat.le_of_eq rfl) (by decide) (by decide) (by decide) (by decide) ?_
  intro v109 T109 L109 X109 q109
  obtain ⟨rfl, M109, K109, P109_0, P109_1, P109_2, P109_3⟩ := q109
  have N109 := Fr.app N0 M109
  have Z109 : n0 ≤ T109.heap.size := Nat.le_trans Z104 K109.1
  have B109 : h0.size ≤ T109.heap.size := Nat.le_trans B104 K109.1
  show Go _ _ _ _ T109 (mkF m 14 #[.val (.int p0), .val (.int p1), .val (.int p2), .val (.int p3), .val (.int p4), .val (.int (p0 &&& (255 : Int32))), .unset, .unset, .unset] [(.ref a104)]) _ _ _
  refine Go.astore X109 hx (hb hby at_14) rfl (l' := #[.val (.int p0), .val (.int p1), .val (.int p2), .val (.int p3), .val (.int p4), .val (.int (p0 &&& (255 : Int32))), .val (.ref a104), .unset, .unset]) rfl ?_
  show Go _ _ _ _ T109 (mkF m 16 #[.val (.int p0), .val (.int p1), .val (.int p2), .val (.int p3), .val (.int p4), .val (.int (p0 &&& (255 : Int32))), .val (.ref a104), .unset, .unset] []) _ _ _
  refine Go.iload X109 hx (hb hby at_16) rfl ?_
  show Go _ _ _ _ T109 (mkF m 18 #[.val (.int p0), .val (.int p1), .val (.int p2), .val (.int p3), .val (.int p4), .val (.int (p0 &&& (255 : Int32))), .val (.ref a104), .unset, .unset] [(.int p4)]) _ _ _
  refine Go.iconst X109 hx (hb hby at_18) ?_
  show Go _ _ _ _ T109 (mkF m 19 #[.val (.int p0), .val (.int p1), .val (.int p2), .val (.int p3), .val (.int p4), .val (.int (p0 &&& (255 : Int32))), .val (.ref a104), .unset, .unset] [(.int (1 : Int32)), (.int p4)]) _ _ _
  refine Go.iand X109 hx (hb hby at_19) ?_
  show Go _ _ _ _ T109 (mkF m 20 #[.val (.int p0), .val (.int p1), .val (.int p2), .val (.int p3), .val (.int p4), .val (.int (p0 &&& (255 : Int32))), .val (.ref a104), .unset, .unset] [(.int (p4 &&& (1 : Int32)))]) _ _ _
  rcases Decidable.em ((p4 &&& (1 : Int32)) = (0 : Int32)) with c110 | c110
  · refine Go.ifYes X109 hx (hb hby at_20) (XT.i0_eq_t c110) (pc' := 35) (by decide) (by decide) ?_
    show Go _ _ _ _ T109 (mkF m 35 #[.val (.int p0), .val (.int p1), .val (.int p2), .val (.int p3), .val (.int p4), .val (.int (p0 &&& (255 : Int32))), .val (.ref a104), .unset, .unset] []) _ _ _
    refine Go.iload X109 hx (hb hby at_35) rfl ?_
    show Go _ _ _ _ T109 (mkF m 37 #[.val (.int p0), .val (.int p1), .val (.int p2), .val (.int p3), .val (.int p4), .val (.int (p0 &&& (255 : Int32))), .val (.ref a104), .unset, .unset] [(.int p4)]) _ _ _
    refine Go.iconst X109 hx (hb hby at_37) ?_
    show Go _ _ _ _ T109 (mkF m 38 #[.val (.int p0), .val (.int p1), .val (.int p2), .val (.int p3), .val (.int p4), .val (.int (p0 &&& (255 : Int32))), .val (.ref a104), .unset, .unset] [(.int (2 : Int32)), (.int p4)]) _ _ _
    refine Go.iand X109 hx (hb hby at_38) ?_
    show Go _ _ _ _ T109 (mkF m 39 #[.val (.int p0), .val (.int p1), .val (.int p2), .val (.int p3), .val (.int p4), .val (.int (p0 &&& (255 : Int32))), .val (.ref a104), .unset, .unset] [(.int (p4 &&& (2 : Int32)))]) _ _ _
    rcases Decidable.em ((p4 &&& (2 : Int32)) = (0 : Int32)) with c111 | c111
    · refine Go.ifYes X109 hx (hb hby at_39) (XT.i0_eq_t c111) (pc' := 54) (by decide) (by decide) ?_
      show Go _ _ _ _ T109 (mkF m 54 #[.val (.int p0), .val (.int p1), .val (.int p2), .val (.int p3), .val (.int p4), .val (.int (p0 &&& (255 : Int32))), .val (.ref a104), .unset, .unset] []) _ _ _
      refine Go.newO X109 hx hZ hown (w26 hw) (w27 hw) (w28 hw) rfl (hb hby at_54) (by decide) (by decide) ?_
      intro T112 h112 a112 b112 X112 e112 E112 A112 D112
      have g_a112 : n0 ≤ a112 := by rw [b112]; exact Z109
      have y_a112 : h0.size ≤ a112 := by rw [b112]; exact B109
      have ne_a104_a112 : a104 ≠ a112 := by rw [b112]; exact Nat.ne_of_lt P109_0.lt
      have Z112 : n0 ≤ h112.size := Nat.le_trans Z109 E112.1
      have B112 : h0.size ≤ h112.size := Nat.le_trans B109 E112.1
      show Go _ _ _ _ T112 (mkF m 57 #[.val (.int p0), .val (.int p1), .val (.int p2), .val (.int p3), .val (.int p4), .val (.int (p0 &&& (255 : Int32))), .val (.ref a104), .unset, .unset] [(.ref a112)]) _ _ _
      refine Go.dup X112 hx (hb hby at_57) rfl ?_
      show Go _ _ _ _ T112 (mkF m 58 #[.val (.int p0), .val (.int p1), .val (.int p2), .val (.int p3), .val (.int p4), .val (.int (p0 &&& (255 : Int32))), .val (.ref a104), .unset, .unset] [(.ref a112), (.ref a112)]) _ _ _
      refine Go.iloadN X112 hx (hb hby at_58) rfl ?_
      show Go _ _ _ _ T112 (mkF m 59 #[.val (.int p0), .val (.int p1), .val (.int p2), .val (.int p3), .val (.int p4), .val (.int (p0 &&& (255 : Int32))), .val (.ref a104), .unset, .unset] [(.int p1), (.ref a112), (.ref a112)]) _ _ _
      refine Go.iload X112 hx (hb hby at_59) rfl ?_
      show Go _ _ _ _ T112 (mkF m 61 #[.val (.int p0), .val (.int p1), .val (.int p2), .val (.int p3), .val (.int p4), .val (.int (p0 &&& (255 : Int32))), .val (.ref a104), .unset, .unset] [(.int (p0 &&& (255 : Int32))), (.int p1), (.ref a112), (.ref a112)]) _ _ _
      refine Go.iloadN X112 hx (hb hby at_61) rfl ?_
      show Go _ _ _ _ T112 (mkF m 62 #[.val (.int p0), .val (.int p1), .val (.int p2), .val (.int p3), .val (.int p4), .val (.int (p0 &&& (255 : Int32))), .val (.ref a104), .unset, .unset] [(.int p2), (.int (p0 &&& (255 : Int32))), (.int p1), (.ref a112), (.ref a112)]) _ _ _
      refine Go.aload X112 hx (hb hby at_62) rfl rfl ?_
      show Go _ _ _ _ T112 (mkF m 64 #[.val (.int p0), .val (.int p1), .val (.int p2), .val (.int p3), .val (.int p4), .val (.int (p0 &&& (255 : Int32))), .val (.ref a104), .unset, .unset] [(.ref a104), (.int p2), (.int (p0 &&& (255 : Int32))), (.int p1), (.ref a112), (.ref a112)]) _ _ _
      have F113 := (D112 (Or.inr (w39 hw)) (ty := .int) (by decide))
      have F114 := (D112 (Or.inr (w41 hw)) (ty := .int) (by decide))
      have F115 := (D112 (Or.inr (w43 hw)) (ty := .int) (by decide))
      have F116 := (D112 (Or.inr (w45 hw)) (ty := (.object "java/util/List")) (by decide))
      refine Go.callI (W := 1) (a := a112) (argsL := [(.int p1), (.int (p0 &&& (255 : Int32))), (.int p2), (.ref a104)]) (rest := [(.ref a112)]) X112 hx hZ hown rfl (w29 hw) (w30 hw) (w28 hw) (w31 hw) (by decide) (rm_rci l Z a0 hw a112 p1 (p0 &&& (255 : Int32)) p2 a104 h112 n0 Z112 A112 g_a112 F113 F114 F115 F116) e112 (lenOf pd_6 rfl) (hb hby at_64) (by rw [hml]; rfl) rfl (Nat.le_of_eq rfl) (by decide) (by decide) (by decide) (by decide) ?_
      intro v117 T117 L117 X117 q117
      obtain ⟨rfl, M117, K117, P117_0, P117_1⟩ := q117
      have N117 := Fr.app N109 M117
      have Z117 : n0 ≤ T117.heap.size := Nat.le_trans Z112 K117.1
      have B117 : h0.size ≤ T117.heap.size := Nat.le_trans B112 K117.1
      show Go _ _ _ _ T117 (mkF m 67 #[.val (.int p0), .val (.int p1), .val (.int p2), .val (.int p3), .val (.int p4), .val (.int (p0 &&& (255 : Int32))), .val (.ref a104), .unset, .unset] [(.ref a112)]) _ _ _
      refine Go.astore X117 hx (hb hby at_67) rfl (l' := #[.val (.int p0), .val (.int p1), .val (.int p2), .val (.int p3), .val (.int p4), .val (.int (p0 &&& (255 : Int32))), .val (.ref a104), .val (.ref a112), .unset]) rfl ?_
      show Go _ _ _ _ T117 (mkF m 69 #[.val (.int p0), .val (.int p1), .val (.int p2), .val (.int p3), .val (.int p4), .val (.int (p0 &&& (255 : Int32))), .val (.ref a104), .val (.ref a112), .unset] []) _ _ _
      refine Go.iload X117 hx (hb hby at_69) rfl ?_
      show Go _ _ _ _ T117 (mkF m 71 #[.val (.int p0), .val (.int p1), .val (.int p2), .val (.int p3), .val (.int p4), .val (.int (p0 &&& (255 : Int32))), .val (.ref a104), .val (.ref a112), .unset] [(.int (p0 &&& (255 : Int32)))]) _ _ _
      refine Go.callS (W := 0) (argsL := [(.int (p0 &&& (255 : Int32)))]) (rest := []) X117 hx hZ hown (w46 hw) (w47 hw) (w48 hw) (w49 hw) (by decide) (rm_ef l Z a0 hw ((p0 &&& (255 : Int32))) T117.heap) rfl (lenOf pd_7 rfl) (hb hby at_71) (by rw [hml]; rfl) rfl (Nat.le_of_eq rfl) (by decide) (by decide) (by decide) (by decide) ?_
      intro v118 T118 L118 X118 q118
      obtain ⟨rfl, rfl, e118⟩ := q118
      have N118 := Fr.app N117 (Fr.nil n0)
      show Go _ _ _ _ T118 (mkF m 74 #[.val (.int p0), .val (.int p1), .val (.int p2), .val (.int p3), .val (.int p4), .val (.int (p0 &&& (255 : Int32))), .val (.ref a104), .val (.ref a112), .unset] [(.int (F_ef (p0 &&& (255 : Int32))))]) _ _ _
      rcases Decidable.em ((F_ef (p0 &&& (255 : Int32))) = (0 : Int32)) with c119 | c119
      · refine Go.ifNo X118 hx (hb hby at_74) (XT.i0_ne_f c119) ?_
        show Go _ _ _ _ T118 (mkF m 77 #[.val (.int p0), .val (.int p1), .val (.int p2), .val (.int p3), .val (.int p4), .val (.int (p0 &&& (255 : Int32))), .val (.ref a104), .val (.ref a112), .unset] []) _ _ _
        refine Go.iconst X118 hx (hb hby at_77) ?_
        show Go _ _ _ _ T118 (mkF m 78 #[.val (.int p0), .val (.int p1), .val (.int p2), .val (.int p3), .val (.int p4), .val (.int (p0 &&& (255 : Int32))), .val (.ref a104), .val (.ref a112), .unset] [(.int (1 : Int32))]) _ _ _
        refine Go.goto X118 hx (hb hby at_78) (pc' := 82) (by decide) (by decide) ?_
        show Go _ _ _ _ T118 (mkF m 82 #[.val (.int p0), .val (.int p1), .val (.int p2), .val (.int p3), .val (.int p4), .val (.int (p0 &&& (255 : Int32))), .val (.ref a104), .val (.ref a112), .unset] [(.int (1 : Int32))]) _ _ _
        refine Go.istore X118 hx (hb hby at_82) (l' := #[.val (.int p0), .val (.int p1), .val (.int p2), .val (.int p3), .val (.int p4), .val (.int (p0 &&& (255 : Int32))), .val (.ref a104), .val (.ref a112), .val (.int (1 : Int32))]) rfl ?_
        show Go _ _ _ _ T118 (mkF m 84 #[.val (.int p0), .val (.int p1), .val (.int p2), .val (.int p3), .val (.int p4), .val (.int (p0 &&& (255 : Int32))), .val (.ref a104), .val (.ref a112), .val (.int (1 : Int32))] []) _ _ _
        refine Go.aload X118 hx (hb hby at_84) rfl rfl ?_
        show Go _ _ _ _ T118 (mkF m 86 #[.val (.int p0), .val (.int p1), .val (.int p2), .val (.int p3), .val (.int p4), .val (.int (p0 &&& (255 : Int32))), .val (.ref a104), .val (.ref a112), .val (.int (1 : Int32))] [(.ref a112)]) _ _ _
        refine Go.callV (W := 0) (argsL := []) (rest := []) X118 hx hZ hown (w50 hw) (w51 hw) (w53 hw) (w52 hw) (w28 hw) (w54 hw) (notFace_of_selects (args := #[]) (mvT hZ (w53 hw))) (by decide) P117_0 (rm_ft l Z a0 hw a112 (p0 &&& (255 : Int32)) T117.heap n0 Z117 P117_1) e118 (lenOf pd_8 rfl) (hb hby at_86) (by rw [hml]; rfl) rfl (Nat.le_of_eq rfl) (by decide) (by decide) (by decide) (by decide) ?_
        intro v120 T120 L120 X120 q120
        obtain ⟨rfl, M120, e120⟩ := q120
        have N120 := Fr.app N118 M120
        show Go _ _ _ _ T120 (mkF m 89 #[.val (.int p0), .val (.int p1), .val (.int p2), .val (.int p3), .val (.int p4), .val (.int (p0 &&& (255 : Int32))), .val (.ref a104), .val (.ref a112), .val (.int (1 : Int32))] [(.int (F_ft a112 (p0 &&& (255 : Int32))))]) _ _ _
        refine Go.iload X120 hx (hb hby at_89) rfl ?_
        show Go _ _ _ _ T120 (mkF m 91 #[.val (.int p0), .val (.int p1), .val (.int p2), .val (.int p3), .val (.int p4), .val (.int (p0 &&& (255 : Int32))), .val (.ref a104), .val (.ref a112), .val (.int (1 : Int32))] [(.int (1 : Int32)), (.int (F_ft a112 (p0 &&& (255 : Int32))))]) _ _ _
        refine Go.icmpNo X120 hx (hb hby at_91) (XT.ii_ne_f ((own_ft _ _).elim (fun q => q.2) (fun q => absurd c119 q.1))) ?_
        show Go _ _ _ _ T120 (mkF m 94 #[.val (.int p0), .val (.int p1), .val (.int p2), .val (.int p3), .val (.int p4), .val (.int (p0 &&& (255 : Int32))), .val (.ref a104), .val (.ref a112), .val (.int (1 : Int32))] []) _ _ _
        refine Go.iconst X120 hx (hb hby at_94) ?_
        show Go _ _ _ _ T120 (mkF m 95 #[.val (.int p0), .val (.int p1), .val (.int p2), .val (.int p3), .val (.int p4), .val (.int (p0 &&& (255 : Int32))), .val (.ref a104), .val (.ref a112), .val (.int (1 : Int32))] [(.int (1 : Int32))]) _ _ _
        refine Go.goto X120 hx (hb hby at_95) (pc' := 99) (by decide) (by decide) ?_
        show Go _ _ _ _ T120 (mkF m 99 #[.val (.int p0), .val (.int p1), .val (.int p2), .val (.int p3), .val (.int p4), .val (.int (p0 &&& (255 : Int32))), .val (.ref a104), .val (.ref a112), .val (.int (1 : Int32))] [(.int (1 : Int32))]) _ _ _
        refine Go.retZ X120 hx hlk hret (by decide) (hb hby at_99) (by decide) (by decide) ?_
        rw [e120]
        exact ⟨rfl, N120⟩
      · refine Go.ifYes X118 hx (hb hby at_74) (XT.i0_ne_t c119) (pc' := 81) (by decide) (by decide) ?_
        show Go _ _ _ _ T118 (mkF m 81 #[.val (.int p0), .val (.int p1), .val (.int p2), .val (.int p3), .val (.int p4), .val (.int (p0 &&& (255 : Int32))), .val (.ref a104), .val (.ref a112), .unset] []) _ _ _
        refine Go.iconst X118 hx (hb hby at_81) ?_
        show Go _ _ _ _ T118 (mkF m 82 #[.val (.int p0), .val (.int p1), .val (.int p2), .val (.int p3), .val (.int p4), .val (.int (p0 &&& (255 : Int32))), .val (.ref a104), .val (.ref a112), .unset] [(.int (0 : Int32))]) _ _ _
        refine Go.istore X118 hx (hb hby at_82) (l' := #[.val (.int p0), .val (.int p1), .val (.int p2), .val (.int p3), .val (.int p4), .val (.int (p0 &&& (255 : Int32))), .val (.ref a104), .val (.ref a112), .val (.int (0 : Int32))]) rfl ?_
        show Go _ _ _ _ T118 (mkF m 84 #[.val (.int p0), .val (.int p1), .val (.int p2), .val (.int p3), .val (.int p4), .val (.int (p0 &&& (255 : Int32))), .val (.ref a104), .val (.ref a112), .val (.int (0 : Int32))] []) _ _ _
        refine Go.aload X118 hx (hb hby at_84) rfl rfl ?_
        show Go _ _ _ _ T118 (mkF m 86 #[.val (.int p0), .val (.int p1), .val (.int p2), .val (.int p3), .val (.int p4), .val (.int (p0 &&& (255 : Int32))), .val (.ref a104), .val (.ref a112), .val (.int (0 : Int32))] [(.ref a112)]) _ _ _
        refine Go.callV (W := 0) (argsL := []) (rest := []) X118 hx hZ hown (w50 hw) (w51 hw) (w53 hw) (w52 hw) (w28 hw) (w54 hw) (notFace_of_selects (args := #[]) (mvT hZ (w53 hw))) (by decide) P117_0 (rm_ft l Z a0 hw a112 (p0 &&& (255 : Int32)) T117.heap n0 Z117 P117_1) e118 (lenOf pd_8 rfl) (hb hby at_86) (by rw [hml]; rfl) rfl (Nat.le_of_eq rfl) (by decide) (by decide) (by decide) (by decide) ?_
        intro v121 T121 L121 X121 q121
        obtain ⟨rfl, M121, e121⟩ := q121
        have N121 := Fr.app N118 M121
        show Go _ _ _ _ T121 (mkF m 89 #[.val (.int p0), .val (.int p1), .val (.int p2), .val (.int p3), .val (.int p4), .val (.int (p0 &&& (255 : Int32))), .val (.ref a104), .val (.ref a112), .val (.int (0 : Int32))] [(.int (F_ft a112 (p0 &&& (255 : Int32))))]) _ _ _
        refine Go.iload X121 hx (hb hby at_89) rfl ?_
        show Go _ _ _ _ T121 (mkF m 91 #[.val (.int p0), .val (.int p1), .val (.int p2), .val (.int p3), .val (.int p4), .val (.int (p0 &&& (255 : Int32))), .val (.ref a104), .val (.ref a112), .val (.int (0 : Int32))] [(.int (0 : Int32)), (.int (F_ft a112 (p0 &&& (255 : Int32))))]) _ _ _
        refine Go.icmpNo X121 hx (hb hby at_91) (XT.ii_ne_f ((own_ft _ _).elim (fun q => absurd q.1 c119) (fun q => q.2))) ?_
        show Go _ _ _ _ T121 (mkF m 94 #[.val (.int p0), .val (.int p1), .val (.int p2), .val (.int p3), .val (.int p4), .val (.int (p0 &&& (255 : Int32))), .val (.ref a104), .val (.ref a112), .val (.int (0 : Int32))] []) _ _ _
        refine Go.iconst X121 hx (hb hby at_94) ?_
        show Go _ _ _ _ T121 (mkF m 95 #[.val (.int p0), .val (.int p1), .val (.int p2), .val (.int p3), .val (.int p4), .val (.int (p0 &&& (255 : Int32))), .val (.ref a104), .val (.ref a112), .val (.int (0 : Int32))] [(.int (1 : Int32))]) _ _ _
        refine Go.goto X121 hx (hb hby at_95) (pc' := 99) (by decide) (by decide) ?_
        show Go _ _ _ _ T121 (mkF m 99 #[.val (.int p0), .val (.int p1), .val (.int p2), .val (.int p3), .val (.int p4), .val (.int (p0 &&& (255 : Int32))), .val (.ref a104), .val (.ref a112), .val (.int (0 : Int32))] [(.int (1 : Int32))]) _ _ _
        refine Go.retZ X121 hx hlk hret (by decide) (hb hby at_99) (by decide) (by decide) ?_
        rw [e121]
        exact ⟨rfl, N121⟩
    · refine Go.ifNo X109 hx (hb hby at_39) (XT.i0_eq_f c111) ?_
      show Go _ _ _ _ T109 (mkF m 42 #[.val (.int p0), .val (.int p1), .val (.int p2), .val (.int p3), .val (.int p4), .val (.int (p0 &&& (255 : Int32))), .val (.ref a104), .unset, .unset] []) _ _ _
      refine Go.aload X109 hx (hb hby at_42) rfl rfl ?_
      show Go _ _ _ _ T109 (mkF m 44 #[.val (.int p0), .val (.int p1), .val (.int p2), .val (.int p3), .val (.int p4), .val (.int (p0 &&& (255 : Int32))), .val (.ref a104), .unset, .unset] [(.ref a104)]) _ _ _
      refine Go.iloadN X109 hx (hb hby at_44) rfl ?_
      show Go _ _ _ _ T109 (mkF m 45 #[.val (.int p0), .val (.int p1), .val (.int p2), .val (.int p3), .val (.int p4), .val (.int (p0 &&& (255 : Int32))), .val (.ref a104), .unset, .unset] [(.int p1), (.ref a104)]) _ _ _
      have O122 := (Old.keep O108 K109 (allS g_a104 all0))
      refine Go.callS (W := 1) (argsL := [(.int p1)]) (rest := [(.ref a104)]) X109 hx hZ hown (w55 hw) (w56 hw) (w57 hw) (w58 hw) (by decide) (rm_vo l Z a0 hw p1 ca kc f T109.heap n0 Z109 trivial trivial O122 f3 f4 f5 trivial f7) rfl (lenOf pd_9 rfl) (hb hby at_45) (by rw [hml]; rfl) rfl (Nat.le_of_eq rfl) (by decide) (by decide) (by decide) (by decide) ?_
      intro v123 T123 L123 X123 q123
      obtain ⟨r123, rfl, M123, K123, P123_0⟩ := q123
      have N123 := Fr.app N109 M123
      have Z123 : n0 ≤ T123.heap.size := Nat.le_trans Z109 K123.1
      have B123 : h0.size ≤ T123.heap.size := Nat.le_trans B109 K123.1
      show Go _ _ _ _ T123 (mkF m 48 #[.val (.int p0), .val (.int p1), .val (.int p2), .val (.int p3), .val (.int p4), .val (.int (p0 &&& (255 : Int32))), .val (.ref a104), .unset, .unset] [(.ref r123), (.ref a104)]) _ _ _
      have O124 := (Old.keep O122 K123 all0)
      refine Go.callN (W := 0) (argsL := [(.ref r123)]) (rest := []) X123 hx hZ hown (w62 hw) (w63 hw) (w64 hw) (w65 hw) (w66 hw) (w67 hw) (w68 hw) (w69 hw) (w2 hw) (w70 hw) (by decide) rfl (Exa.keep P109_0 K123) (rm_aA l Z a0 hw a104 r123 (0 : Int32) de kd fd T123.heap n0 Z123 (Exa.keep P109_0 K123) g_a104 (Fld.keep P109_1 K123 nin0) (Fld.keep P109_2 K123 nin0) (Fld.keep P109_3 K123 nin0) O124 f1 f2 P123_0) rfl (lenOf pd_10 rfl) (hb hby at_48) (by rw [hml]; rfl) rfl (Nat.le_of_eq rfl) (by decide) (by decide) (by decide) (by decide) ?_
      intro v125 T125 L125 X125 q125
      obtain ⟨r125, kr125, fr125, rfl, M125, K125, P125_0, P125_1, P125_2, P125_3, P125_4, P125_5, P125_6, P125_7, P125_8⟩ := q125
      have N125 := Fr.app N123 M125
      have Z125 : n0 ≤ T125.heap.size := Nat.le_trans Z123 K125.1
      have B125 : h0.size ≤ T125.heap.size := Nat.le_trans B123 K125.1
      have ne_a104_r125 : a104 ≠ r125 := Nat.ne_of_lt (Nat.lt_of_lt_of_le ((Exa.keep P109_0 K123)).lt P125_2)
      have ne_r123_r125 : r123 ≠ r125 := Nat.ne_of_lt (Nat.lt_of_lt_of_le (P123_0).lt P125_2)
      show Go _ _ _ _ T125 (mkF m 53 #[.val (.int p0), .val (.int p1), .val (.int p2), .val (.int p3), .val (.int p4), .val (.int (p0 &&& (255 : Int32))), .val (.ref a104), .unset, .unset] [(.int (1 : Int32))]) _ _ _
      refine Go.pop X125 hx (hb hby at_53) rfl ?_
      show Go _ _ _ _ T125 (mkF m 54 #[.val (.int p0), .val (.int p1), .val (.int p2), .val (.int p3), .val (.int p4), .val (.int (p0 &&& (255 : Int32))), .val (.ref a104), .unset, .unset] []) _ _ _
      refine Go.newO X125 hx hZ hown (w26 hw) (w27 hw) (w28 hw) rfl (hb hby at_54) (by decide) (by decide) ?_
      intro T126 h126 a126 b126 X126 e126 E126 A126 D126
      have g_a126 : n0 ≤ a126 := by rw [b126]; exact Z125
      have y_a126 : h0.size ≤ a126 := by rw [b126]; exact B125
      have ne_a104_a126 : a104 ≠ a126 := by rw [b126]; exact Nat.ne_of_lt P125_0.lt
      have ne_r123_a126 : r123 ≠ a126 := by rw [b126]; exact Nat.ne_of_lt (Exa.keep P123_0 K125).lt
      have ne_r125_a126 : r125 ≠ a126 := by rw [b126]; exact Nat.ne_of_lt P125_7.lt
      have Z126 : n0 ≤ h126.size := Nat.le_trans Z125 E126.1
      have B126 : h0.size ≤ h126.size := Nat.le_trans B125 E126.1
      show Go _ _ _ _ T126 (mkF m 57 #[.val (.int p0), .val (.int p1), .val (.int p2), .val (.int p3), .val (.int p4), .val (.int (p0 &&& (255 : Int32))), .val (.ref a104), .unset, .unset] [(.ref a126)]) _ _ _
      refine Go.dup X126 hx (hb hby at_57) rfl ?_
      show Go _ _ _ _ T126 (mkF m 58 #[.val (.int p0), .val (.int p1), .val (.int p2), .val (.int p3), .val (.int p4), .val (.int (p0 &&& (255 : Int32))), .val (.ref a104), .unset, .unset] [(.ref a126), (.ref a126)]) _ _ _
      refine Go.iloadN X126 hx (hb hby at_58) rfl ?_
      show Go _ _ _ _ T126 (mkF m 59 #[.val (.int p0), .val (.int p1), .val (.int p2), .val (.int p3), .val (.int p4), .val (.int (p0 &&& (255 : Int32))), .val (.ref a104), .unset, .unset] [(.int p1), (.ref a126), (.ref a126)]) _ _ _
      refine Go.iload X126 hx (hb hby at_59) rfl ?_
      show Go _ _ _ _ T126 (mkF m 61 #[.val (.int p0), .val (.int p1), .val (.int p2), .val (.int p3), .val (.int p4), .val (.int (p0 &&& (255 : Int32))), .val (.ref a104), .unset, .unset] [(.int (p0 &&& (255 : Int32))), (.int p1), (.ref a126), (.ref a126)]) _ _ _
      refine Go.iloadN X126 hx (hb hby at_61) rfl ?_
      show Go _ _ _ _ T126 (mkF m 62 #[.val (.int p0), .val (.int p1), .val (.int p2), .val (.int p3), .val (.int p4), .val (.int (p0 &&& (255 : Int32))), .val (.ref a104), .unset, .unset] [(.int p2), (.int (p0 &&& (255 : Int32))), (.int p1), (.ref a126), (.ref a126)]) _ _ _
      refine Go.aload X126 hx (hb hby at_62) rfl rfl ?_
      show Go _ _ _ _ T126 (mkF m 64 #[.val (.int p0), .val (.int p1), .val (.int p2), .val (.int p3), .val (.int p4), .val (.int (p0 &&& (255 : Int32))), .val (.ref a104), .unset, .unset] [(.ref a104), (.int p2), (.int (p0 &&& (255 : Int32))), (.int p1), (.ref a126), (.ref a126)]) _ _ _
      have F127 := (D126 (Or.inr (w39 hw)) (ty := .int) (by decide))
      have F128 := (D126 (Or.inr (w41 hw)) (ty := .int) (by decide))
      have F129 := (D126 (Or.inr (w43 hw)) (ty := .int) (by decide))
      have F130 := (D126 (Or.inr (w45 hw)) (ty := (.object "java/util/List")) (by decide))
      refine Go.callI (W := 1) (a := a126) (argsL := [(.int p1), (.int (p0 &&& (255 : Int32))), (.int p2), (.ref a104)]) (rest := [(.ref a126)]) X126 hx hZ hown rfl (w29 hw) (w30 hw) (w28 hw) (w31 hw) (by decide) (rm_rci l Z a0 hw a126 p1 (p0 &&& (255 : Int32)) p2 a104 h126 n0 Z126 A126 g_a126 F127 F128 F129 F130) e126 (lenOf pd_6 rfl) (hb hby at_64) (by rw [hml]; rfl) rfl (Nat.le_of_eq rfl) (by decide) (by decide) (by decide) (by decide) ?_
      intro v131 T131 L131 X131 q131
      obtain ⟨rfl, M131, K131, P131_0, P131_1⟩ := q131
      have N131 := Fr.app N125 M131
      have Z131 : n0 ≤ T131.heap.size := Nat.le_trans Z126 K131.1
      have B131 : h0.size ≤ T131.heap.size := Nat.le_trans B126 K131.1
      show Go _ _ _ _ T131 (mkF m 67 #[.val (.int p0), .val (.int p1), .val (.int p2), .val (.int p3), .val (.int p4), .val (.int (p0 &&& (255 : Int32))), .val (.ref a104), .unset, .unset] [(.ref a126)]) _ _ _
      refine Go.astore X131 hx (hb hby at_67) rfl (l' := #[.val (.int p0), .val (.int p1), .val (.int p2), .val (.int p3), .val (.int p4), .val (.int (p0 &&& (255 : Int32))), .val (.ref a104), .val (.ref a126), .unset]) rfl ?_
      show Go _ _ _ _ T131 (mkF m 69 #[.val (.int p0), .val (.int p1), .val (.int p2), .val (.int p3), .val (.int p4), .val (.int (p0 &&& (255 : Int32))), .val (.ref a104), .val (.ref a126), .unset] []) _ _ _
      refine Go.iload X131 hx (hb hby at_69) rfl ?_
      show Go _ _ _ _ T131 (mkF m 71 #[.val (.int p0), .val (.int p1), .val (.int p2), .val (.int p3), .val (.int p4), .val (.int (p0 &&& (255 : Int32))), .val (.ref a104), .val (.ref a126), .unset] [(.int (p0 &&& (255 : Int32)))]) _ _ _
      refine Go.callS (W := 0) (argsL := [(.int (p0 &&& (255 : Int32)))]) (rest := []) X131 hx hZ hown (w46 hw) (w47 hw) (w48 hw) (w49 hw) (by decide) (rm_ef l Z a0 hw ((p0 &&& (255 : Int32))) T131.heap) rfl (lenOf pd_7 rfl) (hb hby at_71) (by rw [hml]; rfl) rfl (Nat.le_of_eq rfl) (by decide) (by decide) (by decide) (by decide) ?_
      intro v132 T132 L132 X132 q132
      obtain ⟨rfl, rfl, e132⟩ := q132
      have N132 := Fr.app N131 (Fr.nil n0)
      show Go _ _ _ _ T132 (mkF m 74 #[.val (.int p0), .val (.int p1), .val (.int p2), .val (.int p3), .val (.int p4), .val (.int (p0 &&& (255 : Int32))), .val (.ref a104), .val (.ref a126), .unset] [(.int (F_ef (p0 &&& (255 : Int32))))]) _ _ _
      rcases Decidable.em ((F_ef (p0 &&& (255 : Int32))) = (0 : Int32)) with c133 | c133
      · refine Go.ifNo X132 hx (hb hby at_74) (XT.i0_ne_f c133) ?_
        show Go _ _ _ _ T132 (mkF m 77 #[.val (.int p0), .val (.int p1), .val (.int p2), .val (.int p3), .val (.int p4), .val (.int (p0 &&& (255 : Int32))), .val (.ref a104), .val (.ref a126), .unset] []) _ _ _
        refine Go.iconst X132 hx (hb hby at_77) ?_
        show Go _ _ _ _ T132 (mkF m 78 #[.val (.int p0), .val (.int p1), .val (.int p2), .val (.int p3), .val (.int p4), .val (.int (p0 &&& (255 : Int32))), .val (.ref a104), .val (.ref a126), .unset] [(.int (1 : Int32))]) _ _ _
        refine Go.goto X132 hx (hb hby at_78) (pc' := 82) (by decide) (by decide) ?_
        show Go _ _ _ _ T132 (mkF m 82 #[.val (.int p0), .val (.int p1), .val (.int p2), .val (.int p3), .val (.int p4), .val (.int (p0 &&& (255 : Int32))), .val (.ref a104), .val (.ref a126), .unset] [(.int (1 : Int32))]) _ _ _
        refine Go.istore X132 hx (hb hby at_82) (l' := #[.val (.int p0), .val (.int p1), .val (.int p2), .val (.int p3), .val (.int p4), .val (.int (p0 &&& (255 : Int32))), .val (.ref a104), .val (.ref a126), .val (.int (1 : Int32))]) rfl ?_
        show Go _ _ _ _ T132 (mkF m 84 #[.val (.int p0), .val (.int p1), .val (.int p2), .val (.int p3), .val (.int p4), .val (.int (p0 &&& (255 : Int32))), .val (.ref a104), .val (.ref a126), .val (.int (1 : Int32))] []) _ _ _
        refine Go.aload X132 hx (hb hby at_84) rfl rfl ?_
        show Go _ _ _ _ T132 (mkF m 86 #[.val (.int p0), .val (.int p1), .val (.int p2), .val (.int p3), .val (.int p4), .val (.int (p0 &&& (255 : Int32))), .val (.ref a104), .val (.ref a126), .val (.int (1 : Int32))] [(.ref a126)]) _ _ _
        refine Go.callV (W := 0) (argsL := []) (rest := []) X132 hx hZ hown (w50 hw) (w51 hw) (w53 hw) (w52 hw) (w28 hw) (w54 hw) (notFace_of_selects (args := #[]) (mvT hZ (w53 hw))) (by decide) P131_0 (rm_ft l Z a0 hw a126 (p0 &&& (255 : Int32)) T131.heap n0 Z131 P131_1) e132 (lenOf pd_8 rfl) (hb hby at_86) (by rw [hml]; rfl) rfl (Nat.le_of_eq rfl) (by decide) (by decide) (by decide) (by decide) ?_
        intro v134 T134 L134 X134 q134
        obtain ⟨rfl, M134, e134⟩ := q134
        have N134 := Fr.app N132 M134
        show Go _ _ _ _ T134 (mkF m 89 #[.val (.int p0), .val (.int p1), .val (.int p2), .val (.int p3), .val (.int p4), .val (.int (p0 &&& (255 : Int32))), .val (.ref a104), .val (.ref a126), .val (.int (1 : Int32))] [(.int (F_ft a126 (p0 &&& (255 : Int32))))]) _ _ _
        refine Go.iload X134 hx (hb hby at_89) rfl ?_
        show Go _ _ _ _ T134 (mkF m 91 #[.val (.int p0), .val (.int p1), .val (.int p2), .val (.int p3), .val (.int p4), .val (.int (p0 &&& (255 : Int32))), .val (.ref a104), .val (.ref a126), .val (.int (1 : Int32))] [(.int (1 : Int32)), (.int (F_ft a126 (p0 &&& (255 : Int32))))]) _ _ _
        refine Go.icmpNo X134 hx (hb hby at_91) (XT.ii_ne_f ((own_ft _ _).elim (fun q => q.2) (fun q => absurd c133 q.1))) ?_
        show Go _ _ _ _ T134 (mkF m 94 #[.val (.int p0), .val (.int p1), .val (.int p2), .val (.int p3), .val (.int p4), .val (.int (p0 &&& (255 : Int32))), .val (.ref a104), .val (.ref a126), .val (.int (1 : Int32))] []) _ _ _
        refine Go.iconst X134 hx (hb hby at_94) ?_
        show Go _ _ _ _ T134 (mkF m 95 #[.val (.int p0), .val (.int p1), .val (.int p2), .val (.int p3), .val (.int p4), .val (.int (p0 &&& (255 : Int32))), .val (.ref a104), .val (.ref a126), .val (.int (1 : Int32))] [(.int (1 : Int32))]) _ _ _
        refine Go.goto X134 hx (hb hby at_95) (pc' := 99) (by decide) (by decide) ?_
        show Go _ _ _ _ T134 (mkF m 99 #[.val (.int p0), .val (.int p1), .val (.int p2), .val (.int p3), .val (.int p4), .val (.int (p0 &&& (255 : Int32))), .val (.ref a104), .val (.ref a126), .val (.int (1 : Int32))] [(.int (1 : Int32))]) _ _ _
        refine Go.retZ X134 hx hlk hret (by decide) (hb hby at_99) (by decide) (by decide) ?_
        rw [e134]
        exact ⟨rfl, N134⟩
      · refine Go.ifYes X132 hx (hb hby at_74) (XT.i0_ne_t c133) (pc' := 81) (by decide) (by decide) ?_
        show Go _ _ _ _ T132 (mkF m 81 #[.val (.int p0), .val (.int p1), .val (.int p2), .val (.int p3), .val (.int p4), .val (.int (p0 &&& (255 : Int32))), .val (.ref a104), .val (.ref a126), .unset] []) _ _ _
        refine Go.iconst X132 hx (hb hby at_81) ?_
        show Go _ _ _ _ T132 (mkF m 82 #[.val (.int p0), .val (.int p1), .val (.int p2), .val (.int p3), .val (.int p4), .val (.int (p0 &&& (255 : Int32))), .val (.ref a104), .val (.ref a126), .unset] [(.int (0 : Int32))]) _ _ _
        refine Go.istore X132 hx (hb hby at_82) (l' := #[.val (.int p0), .val (.int p1), .val (.int p2), .val (.int p3), .val (.int p4), .val (.int (p0 &&& (255 : Int32))), .val (.ref a104), .val (.ref a126), .val (.int (0 : Int32))]) rfl ?_
        show Go _ _ _ _ T132 (mkF m 84 #[.val (.int p0), .val (.int p1), .val (.int p2), .val (.int p3), .val (.int p4), .val (.int (p0 &&& (255 : Int32))), .val (.ref a104), .val (.ref a126), .val (.int (0 : Int32))] []) _ _ _
        refine Go.aload X132 hx (hb hby at_84) rfl rfl ?_
        show Go _ _ _ _ T132 (mkF m 86 #[.val (.int p0), .val (.int p1), .val (.int p2), .val (.int p3), .val (.int p4), .val (.int (p0 &&& (255 : Int32))), .val (.ref a104), .val (.ref a126), .val (.int (0 : Int32))] [(.ref a126)]) _ _ _
        refine Go.callV (W := 0) (argsL := []) (rest := []) X132 hx hZ hown (w50 hw) (w51 hw) (w53 hw) (w52 hw) (w28 hw) (w54 hw) (notFace_of_selects (args := #[]) (mvT hZ (w53 hw))) (by decide) P131_0 (rm_ft l Z a0 hw a126 (p0 &&& (255 : Int32)) T131.heap n0 Z131 P131_1) e132 (lenOf pd_8 rfl) (hb hby at_86) (by rw [hml]; rfl) rfl (Nat.le_of_eq rfl) (by decide) (by decide) (by decide) (by decide) ?_
        intro v135 T135 L135 X135 q135
        obtain ⟨rfl, M135, e135⟩ := q135
        have N135 := Fr.app N132 M135
        show Go _ _ _ _ T135 (mkF m 89 #[.val (.int p0), .val (.int p1), .val (.int p2), .val (.int p3), .val (.int p4), .val (.int (p0 &&& (255 : Int32))), .val (.ref a104), .val (.ref a126), .val (.int (0 : Int32))] [(.int (F_ft a126 (p0 &&& (255 : Int32))))]) _ _ _
        refine Go.iload X135 hx (hb hby at_89) rfl ?_
        show Go _ _ _ _ T135 (mkF m 91 #[.val (.int p0), .val (.int p1), .val (.int p2), .val (.int p3), .val (.int p4), .val (.int (p0 &&& (255 : Int32))), .val (.ref a104), .val (.ref a126), .val (.int (0 : Int32))] [(.int (0 : Int32)), (.int (F_ft a126 (p0 &&& (255 : Int32))))]) _ _ _
        refine Go.icmpNo X135 hx (hb hby at_91) (XT.ii_ne_f ((own_ft _ _).elim (fun q => absurd q.1 c133) (fun q => q.2))) ?_
        show Go _ _ _ _ T135 (mkF m 94 #[.val (.int p0), .val (.int p1), .val (.int p2), .val (.int p3), .val (.int p4), .val (.int (p0 &&& (255 : Int32))), .val (.ref a104), .val (.ref a126), .val (.int (0 : Int32))] []) _ _ _
        refine Go.iconst X135 hx (hb hby at_94) ?_
        show Go _ _ _ _ T135 (mkF m 95 #[.val (.int p0), .val (.int p1), .val (.int p2), .val (.int p3), .val (.int p4), .val (.int (p0 &&& (255 : Int32))), .val (.ref a104), .val (.ref a126), .val (.int (0 : Int32))] [(.int (1 : Int32))]) _ _ _
        refine Go.goto X135 hx (hb hby at_95) (pc' := 99) (by decide) (by decide) ?_
        show Go _ _ _ _ T135 (mkF m 99 #[.val (.int p0), .val (.int p1), .val (.int p2), .val (.int p3), .val (.int p4), .val (.int (p0 &&& (255 : Int32))), .val (.ref a104), .val (.ref a126), .val (.int (0 : Int32))] [(.int (1 : Int32))]) _ _ _
        refine Go.retZ X135 hx hlk hret (by decide) (hb hby at_99) (by decide) (by decide) ?_
        rw [e135]
        exact ⟨rfl, N135⟩
  · refine Go.ifNo X109 hx (hb hby at_20) (XT.i0_eq_f c110) ?_
    show Go _ _ _ _ T109 (mkF m 23 #[.val (.int p0), .val (.int p1), .val (.int p2), .val (.int p3), .val (.int p4), .val (.int (p0 &&& (255 : Int32))), .val (.ref a104), .unset, .unset] []) _ _ _
    refine Go.aload X109 hx (hb hby at_23) rfl rfl ?_
    show Go _ _ _ _ T109 (mkF m 25 #[.val (.int p0), .val (.int p1), .val (.int p2), .val (.int p3), .val (.int p4), .val (.int (p0 &&& (255 : Int32))), .val (.ref a104), .unset, .unset] [(.ref a104)]) _ _ _
    refine Go.iloadN X109 hx (hb hby at_25) rfl ?_
    show Go _ _ _ _ T109 (mkF m 26 #[.val (.int p0), .val (.int p1), .val (.int p2), .val (.int p3), .val (.int p4), .val (.int (p0 &&& (255 : Int32))), .val (.ref a104), .unset, .unset] [(.int p3), (.ref a104)]) _ _ _
    have O136 := (Old.keep O108 K109 (allS g_a104 all0))
    refine Go.callS (W := 1) (argsL := [(.int p3)]) (rest := [(.ref a104)]) X109 hx hZ hown (w55 hw) (w56 hw) (w57 hw) (w58 hw) (by decide) (rm_vo l Z a0 hw p3 ca kc f T109.heap n0 Z109 trivial trivial O136 f3 f4 f5 trivial f7) rfl (lenOf pd_9 rfl) (hb hby at_26) (by rw [hml]; rfl) rfl (Nat.le_of_eq rfl) (by decide) (by decide) (by decide) (by decide) ?_
    intro v137 T137 L137 X137 q137
    obtain ⟨r137, rfl, M137, K137, P137_0⟩ := q137
    have N137 := Fr.app N109 M137
    have Z137 : n0 ≤ T137.heap.size := Nat.le_trans Z109 K137.1
    have B137 : h0.size ≤ T137.heap.size := Nat.le_trans B109 K137.1
    show Go _ _ _ _ T137 (mkF m 29 #[.val (.int p0), .val (.int p1), .val (.int p2), .val (.int p3), .val (.int p4), .val (.int (p0 &&& (255 : Int32))), .val (.ref a104), .unset, .unset] [(.ref r137), (.ref a104)]) _ _ _
    have O138 := (Old.keep O136 K137 all0)
    refine Go.callN (W := 0) (argsL := [(.ref r137)]) (rest := []) X137 hx hZ hown (w62 hw) (w63 hw) (w64 hw) (w65 hw) (w66 hw) (w67 hw) (w68 hw) (w69 hw) (w2 hw) (w70 hw) (by decide) rfl (Exa.keep P109_0 K137) (rm_aA l Z a0 hw a104 r137 (0 : Int32) de kd fd T137.heap n0 Z137 (Exa.keep P109_0 K137) g_a104 (Fld.keep P109_1 K137 nin0) (Fld.keep P109_2 K137 nin0) (Fld.keep P109_3 K137 nin0) O138 f1 f2 P137_0) rfl (lenOf pd_10 rfl) (hb hby at_29) (by rw [hml]; rfl) rfl (Nat.le_of_eq rfl) (by decide) (by decide) (by decide) (by decide) ?_
    intro v139 T139 L139 X139 q139
    obtain ⟨r139, kr139, fr139, rfl, M139, K139, P139_0, P139_1, P139_2, P139_3, P139_4, P139_5, P139_6, P139_7, P139_8⟩ := q139
    have N139 := Fr.app N137 M139
    have Z139 : n0 ≤ T139.heap.size := Nat.le_trans Z137 K139.1
    have B139 : h0.size ≤ T139.heap.size := Nat.le_trans B137 K139.1
    have ne_a104_r139 : a104 ≠ r139 := Nat.ne_of_lt (Nat.lt_of_lt_of_le ((Exa.keep P109_0 K137)).lt P139_2)
    have ne_r137_r139 : r137 ≠ r139 := Nat.ne_of_lt (Nat.lt_of_lt_of_le (P137_0).lt P139_2)
    show Go _ _ _ _ T139 (mkF m 34 #[.val (.int p0), .val (.int p1), .val (.int p2), .val (.int p3), .val (.int p4), .val (.int (p0 &&& (255 : Int32))), .val (.ref a104), .unset, .unset] [(.int (1 : Int32))]) _ _ _
    refine Go.pop X139 hx (hb hby at_34) rfl ?_
    show Go _ _ _ _ T139 (mkF m 35 #[.val (.int p0), .val (.int p1), .val (.int p2), .val (.int p3), .val (.int p4), .val (.int (p0 &&& (255 : Int32))), .val (.ref a104), .unset, .unset] []) _ _ _
    refine Go.iload X139 hx (hb hby at_35) rfl ?_
    show Go _ _ _ _ T139 (mkF m 37 #[.val (.int p0), .val (.int p1), .val (.int p2), .val (.int p3), .val (.int p4), .val (.int (p0 &&& (255 : Int32))), .val (.ref a104), .unset, .unset] [(.int p4)]) _ _ _
    refine Go.iconst X139 hx (hb hby at_37) ?_
    show Go _ _ _ _ T139 (mkF m 38 #[.val (.int p0), .val (.int p1), .val (.int p2), .val (.int p3), .val (.int p4), .val (.int (p0 &&& (255 : Int32))), .val (.ref a104), .unset, .unset] [(.int (2 : Int32)), (.int p4)]) _ _ _
    refine Go.iand X139 hx (hb hby at_38) ?_
    show Go _ _ _ _ T139 (mkF m 39 #[.val (.int p0), .val (.int p1), .val (.int p2), .val (.int p3), .val (.int p4), .val (.int (p0 &&& (255 : Int32))), .val (.ref a104), .unset, .unset] [(.int (p4 &&& (2 : Int32)))]) _ _ _
    rcases Decidable.em ((p4 &&& (2 : Int32)) = (0 : Int32)) with c140 | c140
    · refine Go.ifYes X139 hx (hb hby at_39) (XT.i0_eq_t c140) (pc' := 54) (by decide) (by decide) ?_
      show Go _ _ _ _ T139 (mkF m 54 #[.val (.int p0), .val (.int p1), .val (.int p2), .val (.int p3), .val (.int p4), .val (.int (p0 &&& (255 : Int32))), .val (.ref a104), .unset, .unset] []) _ _ _
      refine Go.newO X139 hx hZ hown (w26 hw) (w27 hw) (w28 hw) rfl (hb hby at_54) (by decide) (by decide) ?_
      intro T141 h141 a141 b141 X141 e141 E141 A141 D141
      have g_a141 : n0 ≤ a141 := by rw [b141]; exact Z139
      have y_a141 : h0.size ≤ a141 := by rw [b141]; exact B139
      have ne_a104_a141 : a104 ≠ a141 := by rw [b141]; exact Nat.ne_of_lt P139_0.lt
      have ne_r137_a141 : r137 ≠ a141 := by rw [b141]; exact Nat.ne_of_lt (Exa.keep P137_0 K139).lt
      have ne_r139_a141 : r139 ≠ a141 := by rw [b141]; exact Nat.ne_of_lt P139_7.lt
      have Z141 : n0 ≤ h141.size := Nat.le_trans Z139 E141.1
      have B141 : h0.size ≤ h141.size := Nat.le_trans B139 E141.1
      show Go _ _ _ _ T141 (mkF m 57 #[.val (.int p0), .val (.int p1), .val (.int p2), .val (.int p3), .val (.int p4), .val (.int (p0 &&& (255 : Int32))), .val (.ref a104), .unset, .unset] [(.ref a141)]) _ _ _
      refine Go.dup X141 hx (hb hby at_57) rfl ?_
      show Go _ _ _ _ T141 (mkF m 58 #[.val (.int p0), .val (.int p1), .val (.int p2), .val (.int p3), .val (.int p4), .val (.int (p0 &&& (255 : Int32))), .val (.ref a104), .unset, .unset] [(.ref a141), (.ref a141)]) _ _ _
      refine Go.iloadN X141 hx (hb hby at_58) rfl ?_
      show Go _ _ _ _ T141 (mkF m 59 #[.val (.int p0), .val (.int p1), .val (.int p2), .val (.int p3), .val (.int p4), .val (.int (p0 &&& (255 : Int32))), .val (.ref a104), .unset, .unset] [(.int p1), (.ref a141), (.ref a141)]) _ _ _
      refine Go.iload X141 hx (hb hby at_59) rfl ?_
      show Go _ _ _ _ T141 (mkF m 61 #[.val (.int p0), .val (.int p1), .val (.int p2), .val (.int p3), .val (.int p4), .val (.int (p0 &&& (255 : Int32))), .val (.ref a104), .unset, .unset] [(.int (p0 &&& (255 : Int32))), (.int p1), (.ref a141), (.ref a141)]) _ _ _
      refine Go.iloadN X141 hx (hb hby at_61) rfl ?_
      show Go _ _ _ _ T141 (mkF m 62 #[.val (.int p0), .val (.int p1), .val (.int p2), .val (.int p3), .val (.int p4), .val (.int (p0 &&& (255 : Int32))), .val (.ref a104), .unset, .unset] [(.int p2), (.int (p0 &&& (255 : Int32))), (.int p1), (.ref a141), (.ref a141)]) _ _ _
      refine Go.aload X141 hx (hb hby at_62) rfl rfl ?_
      show Go _ _ _ _ T141 (mkF m 64 #[.val (.int p0), .val (.int p1), .val (.int p2), .val (.int p3), .val (.int p4), .val (.int (p0 &&& (255 : Int32))), .val (.ref a104), .unset, .unset] [(.ref a104), (.int p2), (.int (p0 &&& (255 : Int32))), (.int p1), (.ref a141), (.ref a141)]) _ _ _
      have F142 := (D141 (Or.inr (w39 hw)) (ty := .int) (by decide))
      have F143 := (D141 (Or.inr (w41 hw)) (ty := .int) (by decide))
      have F144 := (D141 (Or.inr (w43 hw)) (ty := .int) (by decide))
      have F145 := (D141 (Or.inr (w45 hw)) (ty := (.object "java/util/List")) (by decide))
      refine Go.callI (W := 1) (a := a141) (argsL := [(.int p1), (.int (p0 &&& (255 : Int32))), (.int p2), (.ref a104)]) (rest := [(.ref a141)]) X141 hx hZ hown rfl (w29 hw) (w30 hw) (w28 hw) (w31 hw) (by decide) (rm_rci l Z a0 hw a141 p1 (p0 &&& (255 : Int32)) p2 a104 h141 n0 Z141 A141 g_a141 F142 F143 F144 F145) e141 (lenOf pd_6 rfl) (hb hby at_64) (by rw [hml]; rfl) rfl (Nat.le_of_eq rfl) (by decide) (by decide) (by decide) (by decide) ?_
      intro v146 T146 L146 X146 q146
      obtain ⟨rfl, M146, K146, P146_0, P146_1⟩ := q146
      have N146 := Fr.app N139 M146
      have Z146 : n0 ≤ T146.heap.size := Nat.le_trans Z141 K146.1
      have B146 : h0.size ≤ T146.heap.size := Nat.le_trans B141 K146.1
      show Go _ _ _ _ T146 (mkF m 67 #[.val (.int p0), .val (.int p1), .val (.int p2), .val (.int p3), .val (.int p4), .val (.int (p0 &&& (255 : Int32))), .val (.ref a104), .unset, .unset] [(.ref a141)]) _ _ _
      refine Go.astore X146 hx (hb hby at_67) rfl (l' := #[.val (.int p0), .val (.int p1), .val (.int p2), .val (.int p3), .val (.int p4), .val (.int (p0 &&& (255 : Int32))), .val (.ref a104), .val (.ref a141), .unset]) rfl ?_
      show Go _ _ _ _ T146 (mkF m 69 #[.val (.int p0), .val (.int p1), .val (.int p2), .val (.int p3), .val (.int p4), .val (.int (p0 &&& (255 : Int32))), .val (.ref a104), .val (.ref a141), .unset] []) _ _ _
      refine Go.iload X146 hx (hb hby at_69) rfl ?_
      show Go _ _ _ _ T146 (mkF m 71 #[.val (.int p0), .val (.int p1), .val (.int p2), .val (.int p3), .val (.int p4), .val (.int (p0 &&& (255 : Int32))), .val (.ref a104), .val (.ref a141), .unset] [(.int (p0 &&& (255 : Int32)))]) _ _ _
      refine Go.callS (W := 0) (argsL := [(.int (p0 &&& (255 : Int32)))]) (rest := []) X146 hx hZ hown (w46 hw) (w47 hw) (w48 hw) (w49 hw) (by decide) (rm_ef l Z a0 hw ((p0 &&& (255 : Int32))) T146.heap) rfl (lenOf pd_7 rfl) (hb hby at_71) (by rw [hml]; rfl) rfl (Nat.le_of_eq rfl) (by decide) (by decide) (by decide) (by decide) ?_
      intro v147 T147 L147 X147 q147
      obtain ⟨rfl, rfl, e147⟩ := q147
      have N147 := Fr.app N146 (Fr.nil n0)
      show Go _ _ _ _ T147 (mkF m 74 #[.val (.int p0), .val (.int p1), .val (.int p2), .val (.int p3), .val (.int p4), .val (.int (p0 &&& (255 : Int32))), .val (.ref a104), .val (.ref a141), .unset] [(.int (F_ef (p0 &&& (255 : Int32))))]) _ _ _
      rcases Decidable.em ((F_ef (p0 &&& (255 : Int32))) = (0 : Int32)) with c148 | c148
      · refine Go.ifNo X147 hx (hb hby at_74) (XT.i0_ne_f c148) ?_
        show Go _ _ _ _ T147 (mkF m 77 #[.val (.int p0), .val (.int p1), .val (.int p2), .val (.int p3), .val (.int p4), .val (.int (p0 &&& (255 : Int32))), .val (.ref a104), .val (.ref a141), .unset] []) _ _ _
        refine Go.iconst X147 hx (hb hby at_77) ?_
        show Go _ _ _ _ T147 (mkF m 78 #[.val (.int p0), .val (.int p1), .val (.int p2), .val (.int p3), .val (.int p4), .val (.int (p0 &&& (255 : Int32))), .val (.ref a104), .val (.ref a141), .unset] [(.int (1 : Int32))]) _ _ _
        refine Go.goto X147 hx (hb hby at_78) (pc' := 82) (by decide) (by decide) ?_
        show Go _ _ _ _ T147 (mkF m 82 #[.val (.int p0), .val (.int p1), .val (.int p2), .val (.int p3), .val (.int p4), .val (.int (p0 &&& (255 : Int32))), .val (.ref a104), .val (.ref a141), .unset] [(.int (1 : Int32))]) _ _ _
        refine Go.istore X147 hx (hb hby at_82) (l' := #[.val (.int p0), .val (.int p1), .val (.int p2), .val (.int p3), .val (.int p4), .val (.int (p0 &&& (255 : Int32))), .val (.ref a104), .val (.ref a141), .val (.int (1 : Int32))]) rfl ?_
        show Go _ _ _ _ T147 (mkF m 84 #[.val (.int p0), .val (.int p1), .val (.int p2), .val (.int p3), .val (.int p4), .val (.int (p0 &&& (255 : Int32))), .val (.ref a104), .val (.ref a141), .val (.int (1 : Int32))] []) _ _ _
        refine Go.aload X147 hx (hb hby at_84) rfl rfl ?_
        show Go _ _ _ _ T147 (mkF m 86 #[.val (.int p0), .val (.int p1), .val (.int p2), .val (.int p3), .val (.int p4), .val (.int (p0 &&& (255 : Int32))), .val (.ref a104), .val (.ref a141), .val (.int (1 : Int32))] [(.ref a141)]) _ _ _
        refine Go.callV (W := 0) (argsL := []) (rest := []) X147 hx hZ hown (w50 hw) (w51 hw) (w53 hw) (w52 hw) (w28 hw) (w54 hw) (notFace_of_selects (args := #[]) (mvT hZ (w53 hw))) (by decide) P146_0 (rm_ft l Z a0 hw a141 (p0 &&& (255 : Int32)) T146.heap n0 Z146 P146_1) e147 (lenOf pd_8 rfl) (hb hby at_86) (by rw [hml]; rfl) rfl (Nat.le_of_eq rfl) (by decide) (by decide) (by decide) (by decide) ?_
        intro v149 T149 L149 X149 q149
        obtain ⟨rfl, M149, e149⟩ := q149
        have N149 := Fr.app N147 M149
        show Go _ _ _ _ T149 (mkF m 89 #[.val (.int p0), .val (.int p1), .val (.int p2), .val (.int p3), .val (.int p4), .val (.int (p0 &&& (255 : Int32))), .val (.ref a104), .val (.ref a141), .val (.int (1 : Int32))] [(.int (F_ft a141 (p0 &&& (255 : Int32))))]) _ _ _
        refine Go.iload X149 hx (hb hby at_89) rfl ?_
        show Go _ _ _ _ T149 (mkF m 91 #[.val (.int p0), .val (.int p1), .val (.int p2), .val (.int p3), .val (.int p4), .val (.int (p0 &&& (255 : Int32))), .val (.ref a104), .val (.ref a141), .val (.int (1 : Int32))] [(.int (1 : Int32)), (.int (F_ft a141 (p0 &&& (255 : Int32))))]) _ _ _
        refine Go.icmpNo X149 hx (hb hby at_91) (XT.ii_ne_f ((own_ft _ _).elim (fun q => q.2) (fun q => absurd c148 q.1))) ?_
        show Go _ _ _ _ T149 (mkF m 94 #[.val (.int p0), .val (.int p1), .val (.int p2), .val (.int p3), .val (.int p4), .val (.int (p0 &&& (255 : Int32))), .val (.ref a104), .val (.ref a141), .val (.int (1 : Int32))] []) _ _ _
        refine Go.iconst X149 hx (hb hby at_94) ?_
        show Go _ _ _ _ T149 (mkF m 95 #[.val (.int p0), .val (.int p1), .val (.int p2), .val (.int p3), .val (.int p4), .val (.int (p0 &&& (255 : Int32))), .val (.ref a104), .val (.ref a141), .val (.int (1 : Int32))] [(.int (1 : Int32))]) _ _ _
        refine Go.goto X149 hx (hb hby at_95) (pc' := 99) (by decide) (by decide) ?_
        show Go _ _ _ _ T149 (mkF m 99 #[.val (.int p0), .val (.int p1), .val (.int p2), .val (.int p3), .val (.int p4), .val (.int (p0 &&& (255 : Int32))), .val (.ref a104), .val (.ref a141), .val (.int (1 : Int32))] [(.int (1 : Int32))]) _ _ _
        refine Go.retZ X149 hx hlk hret (by decide) (hb hby at_99) (by decide) (by decide) ?_
        rw [e149]
        exact ⟨rfl, N149⟩
      · refine Go.ifYes X147 hx (hb hby at_74) (XT.i0_ne_t c148) (pc' := 81) (by decide) (by decide) ?_
        show Go _ _ _ _ T147 (mkF m 81 #[.val (.int p0), .val (.int p1), .val (.int p2), .val (.int p3), .val (.int p4), .val (.int (p0 &&& (255 : Int32))), .val (.ref a104), .val (.ref a141), .unset] []) _ _ _
        refine Go.iconst X147 hx (hb hby at_81) ?_
        show Go _ _ _ _ T147 (mkF m 82 #[.val (.int p0), .val (.int p1), .val (.int p2), .val (.int p3), .val (.int p4), .val (.int (p0 &&& (255 : Int32))), .val (.ref a104), .val (.ref a141), .unset] [(.int (0 : Int32))]) _ _ _
        refine Go.istore X147 hx (hb hby at_82) (l' := #[.val (.int p0), .val (.int p1), .val (.int p2), .val (.int p3), .val (.int p4), .val (.int (p0 &&& (255 : Int32))), .val (.ref a104), .val (.ref a141), .val (.int (0 : Int32))]) rfl ?_
        show Go _ _ _ _ T147 (mkF m 84 #[.val (.int p0), .val (.int p1), .val (.int p2), .val (.int p3), .val (.int p4), .val (.int (p0 &&& (255 : Int32))), .val (.ref a104), .val (.ref a141), .val (.int (0 : Int32))] []) _ _ _
        refine Go.aload X147 hx (hb hby at_84) rfl rfl ?_
        show Go _ _ _ _ T147 (mkF m 86 #[.val (.int p0), .val (.int p1), .val (.int p2), .val (.int p3), .val (.int p4), .val (.int (p0 &&& (255 : Int32))), .val (.ref a104), .val (.ref a141), .val (.int (0 : Int32))] [(.ref a141)]) _ _ _
        refine Go.callV (W := 0) (argsL := []) (rest := []) X147 hx hZ hown (w50 hw) (w51 hw) (w53 hw) (w52 hw) (w28 hw) (w54 hw) (notFace_of_selects (args := #[]) (mvT hZ (w53 hw))) (by decide) P146_0 (rm_ft l Z a0 hw a141 (p0 &&& (255 : Int32)) T146.heap n0 Z146 P146_1) e147 (lenOf pd_8 rfl) (hb hby at_86) (by rw [hml]; rfl) rfl (Nat.le_of_eq rfl) (by decide) (by decide) (by decide) (by decide) ?_
        intro v150 T150 L150 X150 q150
        obtain ⟨rfl, M150, e150⟩ := q150
        have N150 := Fr.app N147 M150
        show Go _ _ _ _ T150 (mkF m 89 #[.val (.int p0), .val (.int p1), .val (.int p2), .val (.int p3), .val (.int p4), .val (.int (p0 &&& (255 : Int32))), .val (.ref a104), .val (.ref a141), .val (.int (0 : Int32))] [(.int (F_ft a141 (p0 &&& (255 : Int32))))]) _ _ _
        refine Go.iload X150 hx (hb hby at_89) rfl ?_
        show Go _ _ _ _ T150 (mkF m 91 #[.val (.int p0), .val (.int p1), .val (.int p2), .val (.int p3), .val (.int p4), .val (.int (p0 &&& (255 : Int32))), .val (.ref a104), .val (.ref a141), .val (.int (0 : Int32))] [(.int (0 : Int32)), (.int (F_ft a141 (p0 &&& (255 : Int32))))]) _ _ _
        refine Go.icmpNo X150 hx (hb hby at_91) (XT.ii_ne_f ((own_ft _ _).elim (fun q => absurd q.1 c148) (fun q => q.2))) ?_
        show Go _ _ _ _ T150 (mkF m 94 #[.val (.int p0), .val (.int p1), .val (.int p2), .val (.int p3), .val (.int p4), .val (.int (p0 &&& (255 : Int32))), .val (.ref a104), .val (.ref a141), .val (.int (0 : Int32))] []) _ _ _
        refine Go.iconst X150 hx (hb hby at_94) ?_
        show Go _ _ _ _ T150 (mkF m 95 #[.val (.int p0), .val (.int p1), .val (.int p2), .val (.int p3), .val (.int p4), .val (.int (p0 &&& (255 : Int32))), .val (.ref a104), .val (.ref a141), .val (.int (0 : Int32))] [(.int (1 : Int32))]) _ _ _
        refine Go.goto X150 hx (hb hby at_95) (pc' := 99) (by decide) (by decide) ?_
        show Go _ _ _ _ T150 (mkF m 99 #[.val (.int p0), .val (.int p1), .val (.int p2), .val (.int p3), .val (.int p4), .val (.int (p0 &&& (255 : Int32))), .val (.ref a104), .val (.ref a141), .val (.int (0 : Int32))] [(.int (1 : Int32))]) _ _ _
        refine Go.retZ X150 hx hlk hret (by decide) (hb hby at_99) (by decide) (by decide) ?_
        rw [e150]
        exact ⟨rfl, N150⟩
    · refine Go.ifNo X139 hx (hb hby at_39) (XT.i0_eq_f c140) ?_
      show Go _ _ _ _ T139 (mkF m 42 #[.val (.int p0), .val (.int p1), .val (.int p2), .val (.int p3), .val (.int p4), .val (.int (p0 &&& (255 : Int32))), .val (.ref a104), .unset, .unset] []) _ _ _
      refine Go.aload X139 hx (hb hby at_42) rfl rfl ?_
      show Go _ _ _ _ T139 (mkF m 44 #[.val (.int p0), .val (.int p1), .val (.int p2), .val (.int p3), .val (.int p4), .val (.int (p0 &&& (255 : Int32))), .val (.ref a104), .unset, .unset] [(.ref a104)]) _ _ _
      refine Go.iloadN X139 hx (hb hby at_44) rfl ?_
      show Go _ _ _ _ T139 (mkF m 45 #[.val (.int p0), .val (.int p1), .val (.int p2), .val (.int p3), .val (.int p4), .val (.int (p0 &&& (255 : Int32))), .val (.ref a104), .unset, .unset] [(.int p1), (.ref a104)]) _ _ _
      have O151 := (Old.keep O138 K139 (allS g_a104 all0))
      refine Go.callS (W := 1) (argsL := [(.int p1)]) (rest := [(.ref a104)]) X139 hx hZ hown (w55 hw) (w56 hw) (w57 hw) (w58 hw) (by decide) (rm_vo l Z a0 hw p1 ca kc f T139.heap n0 Z139 trivial trivial O151 f3 f4 f5 trivial f7) rfl (lenOf pd_9 rfl) (hb hby at_45) (by rw [hml]; rfl) rfl (Nat.le_of_eq rfl) (by decide) (by decide) (by decide) (by decide) ?_
      intro v152 T152 L152 X152 q152
      obtain ⟨r152, rfl, M152, K152, P152_0⟩ := q152
      have N152 := Fr.app N139 M152
      have Z152 : n0 ≤ T152.heap.size := Nat.le_trans Z139 K152.1
      have B152 : h0.size ≤ T152.heap.size := Nat.le_trans B139 K152.1
      show Go _ _ _ _ T152 (mkF m 48 #[.val (.int p0), .val (.int p1), .val (.int p2), .val (.int p3), .val (.int p4), .val (.int (p0 &&& (255 : Int32))), .val (.ref a104), .unset, .unset] [(.ref r152), (.ref a104)]) _ _ _
      refine Go.callN (W := 0) (argsL := [(.ref r152)]) (rest := []) X152 hx hZ hown (w62 hw) (w63 hw) (w64 hw) (w65 hw) (w66 hw) (w67 hw) (w68 hw) (w69 hw) (w2 hw) (w70 hw) (by decide) rfl (Exa.keep P139_0 K152) (rm_aB l Z a0 hw a104 r152 ((0 : Int32) + (1 : Int32)) r139 kr139 fr139 T152.heap n0 Z152 (Exa.keep P139_0 K152) g_a104 P139_1 P139_3 (Fld.keep P139_4 K152 nin0) (Fld.keep P139_5 K152 nin0) (Fld.keep P139_6 K152 nin0) (Af.keep P139_7 K152 nin0) P139_8 P152_0) rfl (lenOf pd_10 rfl) (hb hby at_48) (by rw [hml]; rfl) rfl (Nat.le_of_eq rfl) (by decide) (by decide) (by decide) (by decide) ?_
      intro v153 T153 L153 X153 q153
      obtain ⟨rfl, M153, K153, P153_0, P153_1, P153_2, P153_3⟩ := q153
      have N153 := Fr.app N152 M153
      have Z153 : n0 ≤ T153.heap.size := Nat.le_trans Z152 K153.1
      have B153 : h0.size ≤ T153.heap.size := Nat.le_trans B152 K153.1
      show Go _ _ _ _ T153 (mkF m 53 #[.val (.int p0), .val (.int p1), .val (.int p2), .val (.int p3), .val (.int p4), .val (.int (p0 &&& (255 : Int32))), .val (.ref a104), .unset, .unset] [(.int (1 : Int32))]) _ _ _
      refine Go.pop X153 hx (hb hby at_53) rfl ?_
      show Go _ _ _ _ T153 (mkF m 54 #[.val (.int p0), .val (.int p1), .val (.int p2), .val (.int p3), .val (.int p4), .val (.int (p0 &&& (255 : Int32))), .val (.ref a104), .unset, .unset] []) _ _ _
      have F155 := (Exa.keep (Exa.keep (Exa.keep P137_0 K139) K152) K153)
      refine Go.newO X153 hx hZ hown (w26 hw) (w27 hw) (w28 hw) rfl (hb hby at_54) (by decide) (by decide) ?_
      intro T154 h154 a154 b154 X154 e154 E154 A154 D154
      have g_a154 : n0 ≤ a154 := by rw [b154]; exact Z153
      have y_a154 : h0.size ≤ a154 := by rw [b154]; exact B153
      have ne_a104_a154 : a104 ≠ a154 := by rw [b154]; exact Nat.ne_of_lt P153_0.lt
      have ne_r137_a154 : r137 ≠ a154 := by rw [b154]; exact Nat.ne_of_lt F155.lt
      have ne_r152_a154 : r152 ≠ a154 := by rw [b154]; exact Nat.ne_of_lt (Exa.keep P152_0 K153).lt
      have Z154 : n0 ≤ h154.size := Nat.le_trans Z153 E154.1
      have B154 : h0.size ≤ h154.size := Nat.le_trans B153 E154.1
      show Go _ _ _ _ T154 (mkF m 57 #[.val (.int p0), .val (.int p1), .val (.int p2), .val (.int p3), .val (.int p4), .val (.int (p0 &&& (255 : Int32))), .val (.ref a104), .unset, .unset] [(.ref a154)]) _ _ _
      refine Go.dup X154 hx (hb hby at_57) rfl ?_
      show Go _ _ _ _ T154 (mkF m 58 #[.val (.int p0), .val (.int p1), .val (.int p2), .val (.int p3), .val (.int p4), .val (.int (p0 &&& (255 : Int32))), .val (.ref a104), .unset, .unset] [(.ref a154), (.ref a154)]) _ _ _
      refine Go.iloadN X154 hx (hb hby at_58) rfl ?_
      show Go _ _ _ _ T154 (mkF m 59 #[.val (.int p0), .val (.int p1), .val (.int p2), .val (.int p3), .val (.int p4), .val (.int (p0 &&& (255 : Int32))), .val (.ref a104), .unset, .unset] [(.int p1), (.ref a154), (.ref a154)]) _ _ _
      refine Go.iload X154 hx (hb hby at_59) rfl ?_
      show Go _ _ _ _ T154 (mkF m 61 #[.val (.int p0), .val (.int p1), .val (.int p2), .val (.int p3), .val (.int p4), .val (.int (p0 &&& (255 : Int32))), .val (.ref a104), .unset, .unset] [(.int (p0 &&& (255 : Int32))), (.int p1), (.ref a154), (.ref a154)]) _ _ _
      refine Go.iloadN X154 hx (hb hby at_61) rfl ?_
      show Go _ _ _ _ T154 (mkF m 62 #[.val (.int p0), .val (.int p1), .val (.int p2), .val (.int p3), .val (.int p4), .val (.int (p0 &&& (255 : Int32))), .val (.ref a104), .unset, .unset] [(.int p2), (.int (p0 &&& (255 : Int32))), (.int p1), (.ref a154), (.ref a154)]) _ _ _
      refine Go.aload X154 hx (hb hby at_62) rfl rfl ?_
      show Go _ _ _ _ T154 (mkF m 64 #[.val (.int p0), .val (.int p1), .val (.int p2), .val (.int p3), .val (.int p4), .val (.int (p0 &&& (255 : Int32))), .val (.ref a104), .unset, .unset] [(.ref a104), (.int p2), (.int (p0 &&& (255 : Int32))), (.int p1), (.ref a154), (.ref a154)]) _ _ _
      have F156 := (D154 (Or.inr (w39 hw)) (ty := .int) (by decide))
      have F157 := (D154 (Or.inr (w41 hw)) (ty := .int) (by decide))
      have F158 := (D154 (Or.inr (w43 hw)) (ty := .int) (by decide))
      have F159 := (D154 (Or.inr (w45 hw)) (ty := (.object "java/util/List")) (by decide))
      refine Go.callI (W := 1) (a := a154) (argsL := [(.int p1), (.int (p0 &&& (255 : Int32))), (.int p2), (.ref a104)]) (rest := [(.ref a154)]) X154 hx hZ hown rfl (w29 hw) (w30 hw) (w28 hw) (w31 hw) (by decide) (rm_rci l Z a0 hw a154 p1 (p0 &&& (255 : Int32)) p2 a104 h154 n0 Z154 A154 g_a154 F156 F157 F158 F159) e154 (lenOf pd_6 rfl) (hb hby at_64) (by rw [hml]; rfl) rfl (Nat.le_of_eq rfl) (by decide) (by decide) (by decide) (by decide) ?_
      intro v160 T160 L160 X160 q160
      obtain ⟨rfl, M160, K160, P160_0, P160_1⟩ := q160
      have N160 := Fr.app N153 M160
      have Z160 : n0 ≤ T160.heap.size := Nat.le_trans Z154 K160.1
      have B160 : h0.size ≤ T160.heap.size := Nat.le_trans B154 K160.1
      show Go _ _ _ _ T160 (mkF m 67 #[.val (.int p0), .val (.int p1), .val (.int p2), .val (.int p3), .val (.int p4), .val (.int (p0 &&& (255 : Int32))), .val (.ref a104), .unset, .unset] [(.ref a154)]) _ _ _
      refine Go.astore X160 hx (hb hby at_67) rfl (l' := #[.val (.int p0), .val (.int p1), .val (.int p2), .val (.int p3), .val (.int p4), .val (.int (p0 &&& (255 : Int32))), .val (.ref a104), .val (.ref a154), .unset]) rfl ?_
      show Go _ _ _ _ T160 (mkF m 69 #[.val (.int p0), .val (.int p1), .val (.int p2), .val (.int p3), .val (.int p4), .val (.int (p0 &&& (255 : Int32))), .val (.ref a104), .val (.ref a154), .unset] []) _ _ _
      refine Go.iload X160 hx (hb hby at_69) rfl ?_
      show Go _ _ _ _ T160 (mkF m 71 #[.val (.int p0), .val (.int p1), .val (.int p2), .val (.int p3), .val (.int p4), .val (.int (p0 &&& (255 : Int32))), .val (.ref a104), .val (.ref a154), .unset] [(.int (p0 &&& (255 : Int32)))]) _ _ _
      refine Go.callS (W := 0) (argsL := [(.int (p0 &&& (255 : Int32)))]) (rest := []) X160 hx hZ hown (w46 hw) (w47 hw) (w48 hw) (w49 hw) (by decide) (rm_ef l Z a0 hw ((p0 &&& (255 : Int32))) T160.heap) rfl (lenOf pd_7 rfl) (hb hby at_71) (by rw [hml]; rfl) rfl (Nat.le_of_eq rfl) (by decide) (by decide) (by decide) (by decide) ?_
      intro v161 T161 L161 X161 q161
      obtain ⟨rfl, rfl, e161⟩ := q161
      have N161 := Fr.app N160 (Fr.nil n0)
      show Go _ _ _ _ T161 (mkF m 74 #[.val (.int p0), .val (.int p1), .val (.int p2), .val (.int p3), .val (.int p4), .val (.int (p0 &&& (255 : Int32))), .val (.ref a104), .val (.ref a154), .unset] [(.int (F_ef (p0 &&& (255 : Int32))))]) _ _ _
      rcases Decidable.em ((F_ef (p0 &&& (255 : Int32))) = (0 : Int32)) with c162 | c162
      · refine Go.ifNo X161 hx (hb hby at_74) (XT.i0_ne_f c162) ?_
        show Go _ _ _ _ T161 (mkF m 77 #[.val (.int p0), .val (.int p1), .val (.int p2), .val (.int p3), .val (.int p4), .val (.int (p0 &&& (255 : Int32))), .val (.ref a104), .val (.ref a154), .unset] []) _ _ _
        refine Go.iconst X161 hx (hb hby at_77) ?_
        show Go _ _ _ _ T161 (mkF m 78 #[.val (.int p0), .val (.int p1), .val (.int p2), .val (.int p3), .val (.int p4), .val (.int (p0 &&& (255 : Int32))), .val (.ref a104), .val (.ref a154), .unset] [(.int (1 : Int32))]) _ _ _
        refine Go.goto X161 hx (hb hby at_78) (pc' := 82) (by decide) (by decide) ?_
        show Go _ _ _ _ T161 (mkF m 82 #[.val (.int p0), .val (.int p1), .val (.int p2), .val (.int p3), .val (.int p4), .val (.int (p0 &&& (255 : Int32))), .val (.ref a104), .val (.ref a154), .unset] [(.int (1 : Int32))]) _ _ _
        refine Go.istore X161 hx (hb hby at_82) (l' := #[.val (.int p0), .val (.int p1), .val (.int p2), .val (.int p3), .val (.int p4), .val (.int (p0 &&& (255 : Int32))), .val (.ref a104), .val (.ref a154), .val (.int (1 : Int32))]) rfl ?_
        show Go _ _ _ _ T161 (mkF m 84 #[.val (.int p0), .val (.int p1), .val (.int p2), .val (.int p3), .val (.int p4), .val (.int (p0 &&& (255 : Int32))), .val (.ref a104), .val (.ref a154), .val (.int (1 : Int32))] []) _ _ _
        refine Go.aload X161 hx (hb hby at_84) rfl rfl ?_
        show Go _ _ _ _ T161 (mkF m 86 #[.val (.int p0), .val (.int p1), .val (.int p2), .val (.int p3), .val (.int p4), .val (.int (p0 &&& (255 : Int32))), .val (.ref a104), .val (.ref a154), .val (.int (1 : Int32))] [(.ref a154)]) _ _ _
        refine Go.callV (W := 0) (argsL := []) (rest := []) X161 hx hZ hown (w50 hw) (w51 hw) (w53 hw) (w52 hw) (w28 hw) (w54 hw) (notFace_of_selects (args := #[]) (mvT hZ (w53 hw))) (by decide) P160_0 (rm_ft l Z a0 hw a154 (p0 &&& (255 : Int32)) T160.heap n0 Z160 P160_1) e161 (lenOf pd_8 rfl) (hb hby at_86) (by rw [hml]; rfl) rfl (Nat.le_of_eq rfl) (by decide) (by decide) (by decide) (by decide) ?_
        intro v163 T163 L163 X163 q163
        obtain ⟨rfl, M163, e163⟩ := q163
        have N163 := Fr.app N161 M163
        show Go _ _ _ _ T163 (mkF m 89 #[.val (.int p0), .val (.int p1), .val (.int p2), .val (.int p3), .val (.int p4), .val (.int (p0 &&& (255 : Int32))), .val (.ref a104), .val (.ref a154), .val (.int (1 : Int32))] [(.int (F_ft a154 (p0 &&& (255 : Int32))))]) _ _ _
        refine Go.iload X163 hx (hb hby at_89) rfl ?_
        show Go _ _ _ _ T163 (mkF m 91 #[.val (.int p0), .val (.int p1), .val (.int p2), .val (.int p3), .val (.int p4), .val (.int (p0 &&& (255 : Int32))), .val (.ref a104), .val (.ref a154), .val (.int (1 : Int32))] [(.int (1 : Int32)), (.int (F_ft a154 (p0 &&& (255 : Int32))))]) _ _ _
        refine Go.icmpNo X163 hx (hb hby at_91) (XT.ii_ne_f ((own_ft _ _).elim (fun q => q.2) (fun q => absurd c162 q.1))) ?_
        show Go _ _ _ _ T163 (mkF m 94 #[.val (.int p0), .val (.int p1), .val (.int p2), .val (.int p3), .val (.int p4), .val (.int (p0 &&& (255 : Int32))), .val (.ref a104), .val (.ref a154), .val (.int (1 : Int32))] []) _ _ _
        refine Go.iconst X163 hx (hb hby at_94) ?_
        show Go _ _ _ _ T163 (mkF m 95 #[.val (.int p0), .val (.int p1), .val (.int p2), .val (.int p3), .val (.int p4), .val (.int (p0 &&& (255 : Int32))), .val (.ref a104), .val (.ref a154), .val (.int (1 : Int32))] [(.int (1 : Int32))]) _ _ _
        refine Go.goto X163 hx (hb hby at_95) (pc' := 99) (by decide) (by decide) ?_
        show Go _ _ _ _ T163 (mkF m 99 #[.val (.int p0), .val (.int p1), .val (.int p2), .val (.int p3), .val (.int p4), .val (.int (p0 &&& (255 : Int32))), .val (.ref a104), .val (.ref a154), .val (.int (1 : Int32))] [(.int (1 : Int32))]) _ _ _
        refine Go.retZ X163 hx hlk hret (by decide) (hb hby at_99) (by decide) (by decide) ?_
        rw [e163]
        exact ⟨rfl, N163⟩
      · refine Go.ifYes X161 hx (hb hby at_74) (XT.i0_ne_t c162) (pc' := 81) (by decide) (by decide) ?_
        show Go _ _ _ _ T161 (mkF m 81 #[.val (.int p0), .val (.int p1), .val (.int p2), .val (.int p3), .val (.int p4), .val (.int (p0 &&& (255 : Int32))), .val (.ref a104), .val (.ref a154), .unset] []) _ _ _
        refine Go.iconst X161 hx (hb hby at_81) ?_
        show Go _ _ _ _ T161 (mkF m 82 #[.val (.int p0), .val (.int p1), .val (.int p2), .val (.int p3), .val (.int p4), .val (.int (p0 &&& (255 : Int32))), .val (.ref a104), .val (.ref a154), .unset] [(.int (0 : Int32))]) _ _ _
        refine Go.istore X161 hx (hb hby at_82) (l' := #[.val (.int p0), .val (.int p1), .val (.int p2), .val (.int p3), .val (.int p4), .val (.int (p0 &&& (255 : Int32))), .val (.ref a104), .val (.ref a154), .val (.int (0 : Int32))]) rfl ?_
        show Go _ _ _ _ T161 (mkF m 84 #[.val (.int p0), .val (.int p1), .val (.int p2), .val (.int p3), .val (.int p4), .val (.int (p0 &&& (255 : Int32))), .val (.ref a104), .val (.ref a154), .val (.int (0 : Int32))] []) _ _ _
        refine Go.aload X161 hx (hb hby at_84) rfl rfl ?_
        show Go _ _ _ _ T161 (mkF m 86 #[.val (.int p0), .val (.int p1), .val (.int p2), .val (.int p3), .val (.int p4), .val (.int (p0 &&& (255 : Int32))), .val (.ref a104), .val (.ref a154), .val (.int (0 : Int32))] [(.ref a154)]) _ _ _
        refine Go.callV (W := 0) (argsL := []) (rest := []) X161 hx hZ hown (w50 hw) (w51 hw) (w53 hw) (w52 hw) (w28 hw) (w54 hw) (notFace_of_selects (args := #[]) (mvT hZ (w53 hw))) (by decide) P160_0 (rm_ft l Z a0 hw a154 (p0 &&& (255 : Int32)) T160.heap n0 Z160 P160_1) e161 (lenOf pd_8 rfl) (hb hby at_86) (by rw [hml]; rfl) rfl (Nat.le_of_eq rfl) (by decide) (by decide) (by decide) (by decide) ?_
        intro v164 T164 L164 X164 q164
        obtain ⟨rfl, M164, e164⟩ := q164
        have N164 := Fr.app N161 M164
        show Go _ _ _ _ T164 (mkF m 89 #[.val (.int p0), .val (.int p1), .val (.int p2), .val (.int p3), .val (.int p4), .val (.int (p0 &&& (255 : Int32))), .val (.ref a104), .val (.ref a154), .val (.int (0 : Int32))] [(.int (F_ft a154 (p0 &&& (255 : Int32))))]) _ _ _
        refine Go.iload X164 hx (hb hby at_89) rfl ?_
        show Go _ _ _ _ T164 (mkF m 91 #[.val (.int p0), .val (.int p1), .val (.int p2), .val (.int p3), .val (.int p4), .val (.int (p0 &&& (255 : Int32))), .val (.ref a104), .val (.ref a154), .val (.int (0 : Int32))] [(.int (0 : Int32)), (.int (F_ft a154 (p0 &&& (255 : Int32))))]) _ _ _
        refine Go.icmpNo X164 hx (hb hby at_91) (XT.ii_ne_f ((own_ft _ _).elim (fun q => absurd q.1 c162) (fun q => q.2))) ?_
        show Go _ _ _ _ T164 (mkF m 94 #[.val (.int p0), .val (.int p1), .val (.int p2), .val (.int p3), .val (.int p4), .val (.int (p0 &&& (255 : Int32))), .val (.ref a104), .val (.ref a154), .val (.int (0 : Int32))] []) _ _ _
        refine Go.iconst X164 hx (hb hby at_94) ?_
        show Go _ _ _ _ T164 (mkF m 95 #[.val (.int p0), .val (.int p1), .val (.int p2), .val (.int p3), .val (.int p4), .val (.int (p0 &&& (255 : Int32))), .val (.ref a104), .val (.ref a154), .val (.int (0 : Int32))] [(.int (1 : Int32))]) _ _ _
        refine Go.goto X164 hx (hb hby at_95) (pc' := 99) (by decide) (by decide) ?_
        show Go _ _ _ _ T164 (mkF m 99 #[.val (.int p0), .val (.int p1), .val (.int p2), .val (.int p3), .val (.int p4), .val (.int (p0 &&& (255 : Int32))), .val (.ref a104), .val (.ref a154), .val (.int (0 : Int32))] [(.int (1 : Int32))]) _ _ _
        refine Go.retZ X164 hx hlk hret (by decide) (hb hby at_99) (by decide) (by decide) ?_
        rw [e164]
        exact ⟨rfl, N164⟩
set_option maxRecDepth 65536 in
set_option maxHeartbeats 40000000 in
theorem comes_1 {Post : Tables → Env → Array Value → State → Outcome → State → Prop} (hpost : ∀ tb e args s v u, (limb_1_1.after args s (.returned v) u = true ∧ limb_1_2.after args s (.returned v) u = true ∧ True) → FrameEnd s (.returned v) u (Jvm.fieldLocs frame_1_writes args s ++ Jvm.arrayLocs frame_1_arrays args s ++ Jvm.staticLocs frame_1_statics s) 24 128 → Post tb e args s (.returned v) u) :
    ArmFor flags0 classFile x code maxLocals ret World_1 tables_1 room_1 Calls_1 rest_1 Pre_1 Post := by
  intro l hfl _ _ p e ha hc hk s m args below hf hA hF happ hP
  obtain ⟨hcalls, hrest, hpre⟩ := hP
  obtain ⟨-, -, -, hnamed, -, -, -, hat⟩ := (Spec.applies_iff hf).mp happ
  obtain ⟨hg, hn⟩ := and_e (Cond.before_iff.mp (show (Jvm.Cond.and given_1 narrow_1).before args s = true from hpre))
  obtain ⟨hcount, hgs⟩ := and_e hg
  obtain ⟨hg0, hgr0⟩ := and_e hgs
  obtain ⟨hg1, hgr1⟩ := and_e hgr0
  obtain ⟨hg2, hgr2⟩ := and_e hgr1
  obtain ⟨hg3, hgr3⟩ := and_e hgr2
  obtain ⟨w0', w1', w2', w3', w4', rfl⟩ : ∃ w0' w1' w2' w3' w4' : Value, args = #[w0', w1', w2', w3', w4'] := by
    have hs : args.size = 5 := by simpa [Cond.value, given_1] using hcount
    obtain ⟨L⟩ := args
    match L, hs with
    | [w0', w1', w2', w3', w4'], _ => exact ⟨w0', w1', w2', w3', w4', rfl⟩
  have hw := fun d (hd : d ∈ tables_1) => atoms_spec (ws := Jvm.Cond.code x code maxLocals ret :: tables_1) hat d (List.mem_cons_of_mem _ hd)
  obtain ⟨hsets, hown0⟩ := atoms_of _ (rest_1_c_eq ▸ (show rest_1_c.before _ s = true from hrest))
  have hfit : Fit s := fun {y c} hc i hi => by
    obtain ⟨ha, rfl⟩ := Array.getElem?_eq_some_iff.mp hc
    have q := List.all_eq_true.mp ((Array.all_eq_true_iff_forall_mem.mp hF) _ (Array.getElem_mem ha)) i (List.mem_range.mpr hi)
    simpa [Array.getElem?_eq_getElem hi] using q
  obtain ⟨i0, ei0⟩ := is_v hg0
  obtain rfl : w0' = (.int i0) := Option.some.inj ei0
  obtain ⟨i1, ei1⟩ := is_v hg1
  obtain rfl : w1' = (.int i1) := Option.some.inj ei1
  obtain ⟨i2, ei2⟩ := is_v hg2
  obtain rfl : w2' = (.int i2) := Option.some.inj ei2
  obtain ⟨i3, ei3⟩ := is_v hg3
  obtain rfl : w3' = (.int i3) := Option.some.inj ei3
  obtain ⟨i4, ei4⟩ := is_v hgr3
  obtain rfl : w4' = (.int i4) := Option.some.inj ei4
  obtain ⟨de, ede, Sde, Ede⟩ := st_static (Cond.before_iff.mp (hsets _ (List.mem_of_getElem? (i := 7) rfl))) (Or.inr ⟨(w2 hw), (hsets _ (List.mem_of_getElem? (i := 2) rfl))⟩)
  obtain ⟨cd, hcd, Ade⟩ := st_arr (n := 0) ede (Cond.before_iff.mp (hsets _ (List.mem_of_getElem? (i := 6) rfl))) (Cond.before_iff.mp (hsets _ (List.mem_of_getElem? (i := 8) rfl))) rfl (by decide)
  have Shi : Sta s s.heap "java/lang/Integer$IntegerCache" "high" "I" (.int 127) := Sta.start (st_int (Cond.before_iff.mp (hsets _ (List.mem_of_getElem? (i := 12) rfl)))) (Or.inl (hsets _ (List.mem_of_getElem? (i := 10) rfl)))
  obtain ⟨ca, eca, Sca, Eca⟩ := st_static (Cond.before_iff.mp (hsets _ (List.mem_of_getElem? (i := 14) rfl))) (Or.inr ⟨(w60 hw), (hsets _ (List.mem_of_getElem? (i := 11) rfl))⟩)
  obtain ⟨cc, hcc, Aca⟩ := st_arr (n := 256) eca (Cond.before_iff.mp (hsets _ (List.mem_of_getElem? (i := 13) rfl))) (Cond.before_iff.mp (hsets _ (List.mem_of_getElem? (i := 15) rfl))) rfl (by decide)
  have Hca : ∀ j, j < 256 → ∃ y, (cc.slots[j]?).getD .null = Value.ref y ∧ Exa s s.heap y "java/lang/Integer" := own_all eca hcc Aca (by intro i; rfl) (Cond.before_iff.mp (hsets _ (List.mem_of_getElem? (i := 16) rfl)))
  obtain ⟨n, o, h1, h2, h3, _, L, rfl, ⟨rfl, N⟩, hq⟩ := rm_law l s _ hw tables_1 i0 i1 i2 i3 i4 de _ _ ca _ _ s.heap s.heap.size (Nat.le_refl _) (Old.start s) Sde Ade Shi Sca Aca trivial Hca p e ha hc hk s m _ below hf ((Spec.applies_iff_loose hf).mp happ).1 ⟨rfl, State.Warmed39.refl s, rfl⟩ trivial
  refine ⟨n, _, h1, h2, h3, hpost _ _ _ _ _ _ ⟨Cond.after_iff.mpr rfl, Cond.after_iff.mpr (eq_i res_at (Term.int_eval (1)) rfl), trivial⟩ ⟨hq.1, hq.2.1, (hq.2.2.sift fun y hy => Or.inr (N y hy)).mono (by decide) (by decide)⟩⟩
theorem main_1_1 : Claimed_1_1 := comes_1 fun _ _ _ _ _ _ h hF => ⟨h.1, hF⟩
theorem main_1_2 : Claimed_1_2 := comes_1 fun _ _ _ _ _ _ h hF => ⟨h.2.1, hF⟩
end Jvm.Pilot.@@N@@
namespace Jvm.Pilot.@@N@@
open Jvm Jvm.ClassFile Sem Op Lib Jvm.Free Jvm.Stand Jvm.Pilot.@@N@@.Jvm.D
/-! MADE BY PROGRAM (witnessworld.py) out of the Statement's table words and the real class files: 27 classes; the members and pool entries that the words name. The judged class is class 1, her method 2. -/
namespace start1
open Jvm.ClassFile
def u (s : String) : CpInfo := .utf8 (stringToUtf16 s)
/-- a pool by its gaps: so many unusable entries, then the entry; so many at the end -/
def gap : Nat → List CpInfo → List CpInfo
  | 0, r => r
  | n + 1, r => .unusable :: gap n r
def poolList (es : List (Nat × CpInfo)) (last : Nat) : List CpInfo := es.foldr (fun e r => gap e.1 (e.2 :: r)) (gap last [])
def pool (es : List (Nat × CpInfo)) (last : Nat) : Array CpInfo := ⟨poolList es last⟩
def fileOf (pool : Array CpInfo) (this : Nat) (attrs : Array Attribute := #[]) (ms : Array MethodInfo := #[]) (fl : Nat := 33) (sup : Nat := 0) (ifs : Array Nat := #[]) (fds : Array FieldInfo := #[]) : ClassFile where
  minorVersion := 0
  majorVersion := 65
  constantPool := pool
  accessFlags := fl
  thisClass := this
  superClass := sup
  interfaces := ifs
  fields := fds
  methods := ms
  attributes := attrs
def plain (name : String) (sup : Option ClassId) : Class where
  name := name
  kind := .ordinary
  loader := none
  accessFlags := 33
  super := sup
  interfaces := #[]
  cf := none
  fields := #[]
  methods := #[]
  instanceTypes := #[]
  staticTypes := #[]
  resolved := #[]
  callSites := []
  init := .initialized
  statics := none
  mirror := none

def pool0 : Array CpInfo := pool [(5, u "<init>"), (0, u "()V"), (1, .class_ 10), (1, u "java/lang/Object")] 113

def k0c0 : Code := { maxStack := 0, maxLocals := 1, code := object_method_1_code, exceptionTable := #[], attributes := #[] }
def k0m0 : Method := { name := "<init>", desc := "()V", sig := { parameters := [], returnType := none }, accessFlags := 1, code := some k0c0 }
/-- java/lang/Object -/
def k0 : Class := { plain "java/lang/Object" none with
  accessFlags := 33
  interfaces := #[]
  cf := some (fileOf pool0 8 #[] #[{ accessFlags := 1, nameIndex := 5, descriptorIndex := 6, attributes := #[] }] 33 0 #[] #[])
  fields := #[]
  methods := #[k0m0]
  instanceTypes := #[]
  staticTypes := #[]
  resolved := Array.replicate 124 none
  statics := none }

def pool1 : Array CpInfo := pool [(2, .class_ 4), (0, .nameAndType 5 6), (0, u "java/lang/Object"), (0, u "<init>"), (0, u "()V"), (0, .class_ 8), (0, u "java/util/ArrayList"), (0, .methodref 7 3), (0, .methodref 11 12), (0, .class_ 13), (0, .nameAndType 14 15), (0, u "java/lang/Integer"), (0, u "valueOf"), (0, u "(I)Ljava/lang/Integer;"), (0, .interfaceMethodref 17 18), (0, .class_ 19), (0, .nameAndType 20 21), (0, u "java/util/List"), (0, u "add"), (0, u "(Ljava/lang/Object;)Z"), (0, .class_ 23), (0, u "com/example/coppice/coppice/classfile/Bytecode$Instruction"), (0, .methodref 22 25), (0, .nameAndType 5 26), (0, u "(IIILjava/util/List;)V"), (0, .methodref 28 29), (0, .class_ 30), (0, .nameAndType 31 32), (0, u "com/example/coppice/coppice/classfile/InstructionFallsThroughPinLaw"), (0, u "endsFlow"), (0, u "(I)Z"), (0, .methodref 22 34), (0, .nameAndType 35 36), (0, u "fallsThrough"), (0, u "()Z"), (3, u "law"), (0, u "(IIIII)Z")] 6

def k1m0 : Method := { name := "<init>", desc := "()V", sig := { parameters := [], returnType := none }, accessFlags := 2, code := none }
def k1c1 : Code := { maxStack := 2, maxLocals := 1, code := method_2_code, exceptionTable := #[], attributes := #[] }
def k1m1 : Method := { name := "endsFlow", desc := "(I)Z", sig := { parameters := [.int], returnType := some .boolean }, accessFlags := 10, code := some k1c1 }
def k1c2 : Code := { maxStack := 6, maxLocals := 9, code := code, exceptionTable := #[], attributes := #[] }
def k1m2 : Method := { name := "law", desc := "(IIIII)Z", sig := { parameters := [.int, .int, .int, .int, .int], returnType := some .boolean }, accessFlags := 9, code := some k1c2 }
/-- com/example/coppice/coppice/classfile/InstructionFallsThroughPinLaw -/
def k1 : Class := { plain "com/example/coppice/coppice/classfile/InstructionFallsThroughPinLaw" (some 0) with
  accessFlags := 49
  interfaces := #[]
  cf := some (fileOf pool1 28 #[] #[{ accessFlags := 2, nameIndex := 5, descriptorIndex := 6, attributes := #[] }, { accessFlags := 10, nameIndex := 31, descriptorIndex := 32, attributes := #[] }, { accessFlags := 9, nameIndex := 40, descriptorIndex := 41, attributes := #[] }] 49 2 #[] #[])
  fields := #[]
  methods := #[k1m0, k1m1, k1m2]
  instanceTypes := #[]
  staticTypes := #[]
  resolved := Array.replicate 48 none
  statics := none }

def pool2 : Array CpInfo := pool [(8, .class_ 10), (1, u "java/lang/Iterable"), (24, .class_ 36), (0, u "java/lang/Object")] 25

/-- java/lang/Iterable -/
def k2 : Class := { plain "java/lang/Iterable" (some 0) with
  accessFlags := 1537
  interfaces := #[]
  cf := some (fileOf pool2 8 #[] #[] 1537 35 #[] #[])
  fields := #[]
  methods := #[]
  instanceTypes := #[]
  staticTypes := #[]
  resolved := Array.replicate 62 none
  statics := none }

def pool3 : Array CpInfo := pool [(10, .class_ 12), (1, u "java/util/Collection"), (47, .class_ 61), (0, u "java/lang/Object"), (0, .class_ 63), (0, u "java/lang/Iterable")] 51

/-- java/util/Collection -/
def k3 : Class := { plain "java/util/Collection" (some 0) with
  accessFlags := 1537
  interfaces := #[2]
  cf := some (fileOf pool3 10 #[] #[] 1537 60 #[62] #[])
  fields := #[]
  methods := #[]
  instanceTypes := #[]
  staticTypes := #[]
  resolved := Array.replicate 115 none
  statics := none }

def pool4 : Array CpInfo := pool [(1, .methodref 2 3), (0, .class_ 4), (0, .nameAndType 5 6), (0, u "java/lang/Object"), (0, u "<init>"), (0, u "()V"), (1, .class_ 10), (1, u "java/util/AbstractCollection"), (66, .class_ 78), (0, u "java/util/Collection")] 81

def k4c0 : Code := { maxStack := 1, maxLocals := 1, code := jdk_22_method_1_code, exceptionTable := #[], attributes := #[] }
def k4m0 : Method := { name := "<init>", desc := "()V", sig := { parameters := [], returnType := none }, accessFlags := 4, code := some k4c0 }
/-- java/util/AbstractCollection -/
def k4 : Class := { plain "java/util/AbstractCollection" (some 0) with
  accessFlags := 1057
  interfaces := #[3]
  cf := some (fileOf pool4 8 #[] #[{ accessFlags := 4, nameIndex := 5, descriptorIndex := 6, attributes := #[] }] 1057 2 #[77] #[])
  fields := #[]
  methods := #[k4m0]
  instanceTypes := #[]
  staticTypes := #[]
  resolved := Array.replicate 160 none
  statics := none }

def pool5 : Array CpInfo := pool [(8, .class_ 10), (1, u "java/util/SequencedCollection"), (15, .class_ 27), (0, u "java/lang/Object"), (0, .class_ 29), (0, u "java/util/Collection")] 27

/-- java/util/SequencedCollection -/
def k5 : Class := { plain "java/util/SequencedCollection" (some 0) with
  accessFlags := 1537
  interfaces := #[3]
  cf := some (fileOf pool5 8 #[] #[] 1537 26 #[28] #[])
  fields := #[]
  methods := #[]
  instanceTypes := #[]
  staticTypes := #[]
  resolved := Array.replicate 57 none
  statics := none }

def pool6 : Array CpInfo := pool [(8, .class_ 10), (1, u "java/util/List"), (49, u "add"), (3, u "(Ljava/lang/Object;)Z"), (38, .class_ 104), (0, u "java/lang/Object"), (15, .class_ 121), (0, u "java/util/SequencedCollection")] 129

def k6m0 : Method := { name := "add", desc := "(Ljava/lang/Object;)Z", sig := { parameters := [(.object "java/lang/Object")], returnType := some .boolean }, accessFlags := 1025, code := none }
/-- java/util/List -/
def k6 : Class := { plain "java/util/List" (some 0) with
  accessFlags := 1537
  interfaces := #[5]
  cf := some (fileOf pool6 8 #[] #[{ accessFlags := 1025, nameIndex := 60, descriptorIndex := 64, attributes := #[] }] 1537 103 #[120] #[])
  fields := #[]
  methods := #[k6m0]
  instanceTypes := #[]
  staticTypes := #[]
  resolved := Array.replicate 251 none
  statics := none }

def pool7 : Array CpInfo := pool [(1, .methodref 2 3), (0, .class_ 4), (0, .nameAndType 5 6), (0, u "java/util/AbstractCollection"), (0, u "<init>"), (0, u "()V"), (0, .fieldref 8 9), (0, .class_ 10), (0, .nameAndType 11 12), (0, u "java/util/AbstractList"), (0, u "modCount"), (0, u "I"), (64, .class_ 78), (0, u "java/util/AbstractList$Itr"), (3, .class_ 83), (0, u "java/util/AbstractList$ListItr"), (9, .class_ 94), (0, u "java/util/AbstractList$RandomAccessSubList"), (3, .class_ 99), (0, u "java/util/AbstractList$SubList"), (33, .class_ 134), (0, u "java/util/List"), (73, .class_ 209), (0, u "java/util/AbstractList$SubList$1"), (0, .class_ 211), (0, u "java/util/AbstractList$RandomAccessSpliterator")] 6

def k7c0 : Code := { maxStack := 2, maxLocals := 1, code := jdk_39_method_1_code, exceptionTable := #[], attributes := #[] }
def k7m0 : Method := { name := "<init>", desc := "()V", sig := { parameters := [], returnType := none }, accessFlags := 4, code := some k7c0 }
/-- java/util/AbstractList -/
def k7 : Class := { plain "java/util/AbstractList" (some 4) with
  accessFlags := 1057
  interfaces := #[6]
  cf := some (fileOf pool7 8 #[.nestMembers #[93, 98, 208, 210, 82, 77]] #[{ accessFlags := 4, nameIndex := 5, descriptorIndex := 6, attributes := #[] }] 1057 2 #[133] #[{ accessFlags := 132, nameIndex := 11, descriptorIndex := 12, attributes := #[] }])
  fields := #[{ name := "modCount", type := .int, accessFlags := 132, slot := 0, constantValue := 0 }]
  methods := #[k7m0]
  instanceTypes := #[.int]
  staticTypes := #[]
  resolved := Array.replicate 218 none
  statics := none }

def pool8 : Array CpInfo := pool [(1, .class_ 2), (0, u "java/util/RandomAccess"), (0, .class_ 4), (0, u "java/lang/Object")] 2

/-- java/util/RandomAccess -/
def k8 : Class := { plain "java/util/RandomAccess" (some 0) with
  accessFlags := 1537
  interfaces := #[]
  cf := some (fileOf pool8 1 #[] #[] 1537 3 #[] #[])
  fields := #[]
  methods := #[]
  instanceTypes := #[]
  staticTypes := #[]
  resolved := Array.replicate 7 none
  statics := none }

def pool9 : Array CpInfo := pool [(1, .class_ 2), (0, u "java/lang/Cloneable"), (0, .class_ 4), (0, u "java/lang/Object")] 2

/-- java/lang/Cloneable -/
def k9 : Class := { plain "java/lang/Cloneable" (some 0) with
  accessFlags := 1537
  interfaces := #[]
  cf := some (fileOf pool9 1 #[] #[] 1537 3 #[] #[])
  fields := #[]
  methods := #[]
  instanceTypes := #[]
  staticTypes := #[]
  resolved := Array.replicate 7 none
  statics := none }

def pool10 : Array CpInfo := pool [(1, .class_ 2), (0, u "java/io/Serializable"), (0, .class_ 4), (0, u "java/lang/Object")] 2

/-- java/io/Serializable -/
def k10 : Class := { plain "java/io/Serializable" (some 0) with
  accessFlags := 1537
  interfaces := #[]
  cf := some (fileOf pool10 1 #[] #[] 1537 3 #[] #[])
  fields := #[]
  methods := #[]
  instanceTypes := #[]
  staticTypes := #[]
  resolved := Array.replicate 7 none
  statics := none }

def pool11 : Array CpInfo := pool [(1, .methodref 2 3), (0, .class_ 4), (0, .nameAndType 5 6), (0, u "java/util/AbstractList"), (0, u "<init>"), (0, u "()V"), (0, .class_ 8), (0, u "java/lang/Object"), (0, .fieldref 10 11), (0, .class_ 12), (0, .nameAndType 13 14), (0, u "java/util/ArrayList"), (0, u "elementData"), (0, u "[Ljava/lang/Object;"), (2, u "EMPTY_ELEMENTDATA"), (21, .fieldref 10 40), (0, .nameAndType 41 14), (0, u "DEFAULTCAPACITY_EMPTY_ELEMENTDATA"), (5, u "()[Ljava/lang/Object;"), (0, .fieldref 10 49), (0, .nameAndType 50 51), (0, u "size"), (0, u "I"), (11, .fieldref 10 64), (0, .nameAndType 65 51), (0, u "modCount"), (3, .methodref 10 70), (0, .nameAndType 71 72), (0, u "grow"), (0, u "(I)[Ljava/lang/Object;"), (6, .methodref 80 81), (0, .class_ 82), (0, .nameAndType 83 84), (0, u "java/lang/Math"), (0, u "max"), (0, u "(II)I"), (11, u "(Ljava/lang/Object;)Z"), (32, .methodref 10 130), (0, .nameAndType 71 47), (0, .methodref 10 132), (0, .nameAndType 133 134), (0, u "add"), (0, u "(Ljava/lang/Object;[Ljava/lang/Object;I)V"), (13, .class_ 149), (0, u "java/util/List"), (112, .class_ 263), (0, u "java/util/ArrayList$ListItr"), (3, .class_ 268), (0, u "java/util/ArrayList$Itr"), (7, .class_ 277), (0, u "java/util/ArrayList$SubList"), (12, .class_ 291), (0, u "java/util/ArrayList$ArrayListSpliterator"), (37, .class_ 330), (0, u "java/util/RandomAccess"), (0, .class_ 332), (0, u "java/lang/Cloneable"), (0, .class_ 334), (0, u "java/io/Serializable"), (0, u "serialVersionUID"), (0, u "J"), (3, u "DEFAULT_CAPACITY"), (159, .class_ 501), (0, u "java/util/ArrayList$SubList$2"), (0, .class_ 503), (0, u "java/util/ArrayList$SubList$1")] 5

def k11c0 : Code := { maxStack := 2, maxLocals := 1, code := jdk_38_method_2_code, exceptionTable := #[], attributes := #[] }
def k11m0 : Method := { name := "<init>", desc := "()V", sig := { parameters := [], returnType := none }, accessFlags := 1, code := some k11c0 }
def k11c1 : Code := { maxStack := 4, maxLocals := 4, code := jdk_38_method_6_code, exceptionTable := #[], attributes := #[] }
def k11m1 : Method := { name := "grow", desc := "(I)[Ljava/lang/Object;", sig := { parameters := [.int], returnType := some (.array (.object "java/lang/Object")) }, accessFlags := 2, code := some k11c1 }
def k11c2 : Code := { maxStack := 3, maxLocals := 1, code := jdk_38_method_7_code, exceptionTable := #[], attributes := #[] }
def k11m2 : Method := { name := "grow", desc := "()[Ljava/lang/Object;", sig := { parameters := [], returnType := some (.array (.object "java/lang/Object")) }, accessFlags := 2, code := some k11c2 }
def k11c3 : Code := { maxStack := 3, maxLocals := 4, code := jdk_38_method_24_code, exceptionTable := #[], attributes := #[] }
def k11m3 : Method := { name := "add", desc := "(Ljava/lang/Object;[Ljava/lang/Object;I)V", sig := { parameters := [(.object "java/lang/Object"), (.array (.object "java/lang/Object")), .int], returnType := none }, accessFlags := 2, code := some k11c3 }
def k11c4 : Code := { maxStack := 4, maxLocals := 2, code := jdk_38_method_25_code, exceptionTable := #[], attributes := #[] }
def k11m4 : Method := { name := "add", desc := "(Ljava/lang/Object;)Z", sig := { parameters := [(.object "java/lang/Object")], returnType := some .boolean }, accessFlags := 1, code := some k11c4 }
/-- java/util/ArrayList -/
def k11 : Class := { plain "java/util/ArrayList" (some 7) with
  accessFlags := 33
  interfaces := #[6, 8, 9, 10]
  cf := some (fileOf pool11 10 #[.nestMembers #[290, 276, 500, 502, 262, 267]] #[{ accessFlags := 1, nameIndex := 5, descriptorIndex := 6, attributes := #[] }, { accessFlags := 2, nameIndex := 71, descriptorIndex := 72, attributes := #[] }, { accessFlags := 2, nameIndex := 71, descriptorIndex := 47, attributes := #[] }, { accessFlags := 2, nameIndex := 133, descriptorIndex := 134, attributes := #[] }, { accessFlags := 1, nameIndex := 133, descriptorIndex := 96, attributes := #[] }] 33 2 #[148, 329, 331, 333] #[{ accessFlags := 26, nameIndex := 335, descriptorIndex := 336, attributes := #[] }, { accessFlags := 26, nameIndex := 340, descriptorIndex := 51, attributes := #[] }, { accessFlags := 26, nameIndex := 17, descriptorIndex := 14, attributes := #[] }, { accessFlags := 26, nameIndex := 41, descriptorIndex := 14, attributes := #[] }, { accessFlags := 128, nameIndex := 13, descriptorIndex := 14, attributes := #[] }, { accessFlags := 2, nameIndex := 50, descriptorIndex := 51, attributes := #[] }])
  fields := #[{ name := "serialVersionUID", type := .long, accessFlags := 26, slot := 0, constantValue := 0 }, { name := "DEFAULT_CAPACITY", type := .int, accessFlags := 26, slot := 1, constantValue := 0 }, { name := "EMPTY_ELEMENTDATA", type := (.array (.object "java/lang/Object")), accessFlags := 26, slot := 2, constantValue := 0 }, { name := "DEFAULTCAPACITY_EMPTY_ELEMENTDATA", type := (.array (.object "java/lang/Object")), accessFlags := 26, slot := 3, constantValue := 0 }, { name := "elementData", type := (.array (.object "java/lang/Object")), accessFlags := 128, slot := 1, constantValue := 0 }, { name := "size", type := .int, accessFlags := 2, slot := 2, constantValue := 0 }]
  methods := #[k11m0, k11m1, k11m2, k11m3, k11m4]
  instanceTypes := #[.int, (.array (.object "java/lang/Object")), .int]
  staticTypes := #[.long, .int, (.array (.object "java/lang/Object")), (.array (.object "java/lang/Object"))]
  resolved := Array.replicate 509 none
  statics := some 0 }

def pool12 : Array CpInfo := pool [(1, .methodref 2 3), (0, .class_ 4), (0, .nameAndType 5 6), (0, u "java/lang/Object"), (0, u "<init>"), (0, u "()V"), (0, .class_ 8), (0, u "java/lang/Record")] 13

def k12c0 : Code := { maxStack := 1, maxLocals := 1, code := jdk_30_method_1_code, exceptionTable := #[], attributes := #[] }
def k12m0 : Method := { name := "<init>", desc := "()V", sig := { parameters := [], returnType := none }, accessFlags := 4, code := some k12c0 }
/-- java/lang/Record -/
def k12 : Class := { plain "java/lang/Record" (some 0) with
  accessFlags := 1057
  interfaces := #[]
  cf := some (fileOf pool12 7 #[] #[{ accessFlags := 4, nameIndex := 5, descriptorIndex := 6, attributes := #[] }] 1057 2 #[] #[])
  fields := #[]
  methods := #[k12m0]
  instanceTypes := #[]
  staticTypes := #[]
  resolved := Array.replicate 22 none
  statics := none }

def pool13 : Array CpInfo := pool [(1, .class_ 2), (0, u "com/example/coppice/coppice/classfile/Bytecode"), (0, .methodref 4 5), (0, .class_ 6), (0, .nameAndType 7 8), (0, u "java/lang/Record"), (0, u "<init>"), (0, u "()V"), (0, .fieldref 10 11), (0, .class_ 12), (0, .nameAndType 13 14), (0, u "com/example/coppice/coppice/classfile/Bytecode$Instruction"), (0, u "offset"), (0, u "I"), (0, .fieldref 10 16), (0, .nameAndType 17 14), (0, u "opcode"), (0, .fieldref 10 19), (0, .nameAndType 20 14), (0, u "operand"), (0, .fieldref 10 22), (0, .nameAndType 23 24), (0, u "targets"), (0, u "Ljava/util/List;"), (14, u "(IIILjava/util/List;)V"), (4, u "fallsThrough"), (0, u "()Z")] 31

def k13c0 : Code := { maxStack := 2, maxLocals := 5, code := prog_17_method_1_code, exceptionTable := #[], attributes := #[] }
def k13m0 : Method := { name := "<init>", desc := "(IIILjava/util/List;)V", sig := { parameters := [.int, .int, .int, (.object "java/util/List")], returnType := none }, accessFlags := 1, code := some k13c0 }
def k13c1 : Code := { maxStack := 2, maxLocals := 1, code := prog_17_method_2_code, exceptionTable := #[], attributes := #[] }
def k13m1 : Method := { name := "fallsThrough", desc := "()Z", sig := { parameters := [], returnType := some .boolean }, accessFlags := 1, code := some k13c1 }
/-- com/example/coppice/coppice/classfile/Bytecode$Instruction -/
def k13 : Class := { plain "com/example/coppice/coppice/classfile/Bytecode$Instruction" (some 12) with
  accessFlags := 49
  interfaces := #[]
  cf := some (fileOf pool13 10 #[.nestHost 1] #[{ accessFlags := 1, nameIndex := 7, descriptorIndex := 39, attributes := #[] }, { accessFlags := 1, nameIndex := 44, descriptorIndex := 45, attributes := #[] }] 49 4 #[] #[{ accessFlags := 18, nameIndex := 13, descriptorIndex := 14, attributes := #[] }, { accessFlags := 18, nameIndex := 17, descriptorIndex := 14, attributes := #[] }, { accessFlags := 18, nameIndex := 20, descriptorIndex := 14, attributes := #[] }, { accessFlags := 18, nameIndex := 23, descriptorIndex := 24, attributes := #[] }])
  fields := #[{ name := "offset", type := .int, accessFlags := 18, slot := 0, constantValue := 0 }, { name := "opcode", type := .int, accessFlags := 18, slot := 1, constantValue := 0 }, { name := "operand", type := .int, accessFlags := 18, slot := 2, constantValue := 0 }, { name := "targets", type := (.object "java/util/List"), accessFlags := 18, slot := 3, constantValue := 0 }]
  methods := #[k13m0, k13m1]
  instanceTypes := #[.int, .int, .int, (.object "java/util/List")]
  staticTypes := #[]
  resolved := Array.replicate 77 none
  statics := none }

def pool14 : Array CpInfo := pool [(1, .methodref 2 3), (0, .class_ 4), (0, .nameAndType 5 6), (0, u "java/lang/Object"), (0, u "<init>"), (0, u "()V"), (1, .class_ 10), (1, u "java/lang/Number"), (2, .class_ 14), (0, u "java/io/Serializable"), (0, u "serialVersionUID"), (0, u "J")] 20

def k14c0 : Code := { maxStack := 1, maxLocals := 1, code := jdk_18_method_1_code, exceptionTable := #[], attributes := #[] }
def k14m0 : Method := { name := "<init>", desc := "()V", sig := { parameters := [], returnType := none }, accessFlags := 1, code := some k14c0 }
/-- java/lang/Number -/
def k14 : Class := { plain "java/lang/Number" (some 0) with
  accessFlags := 1057
  interfaces := #[10]
  cf := some (fileOf pool14 8 #[] #[{ accessFlags := 1, nameIndex := 5, descriptorIndex := 6, attributes := #[] }] 1057 2 #[13] #[{ accessFlags := 26, nameIndex := 15, descriptorIndex := 16, attributes := #[] }])
  fields := #[{ name := "serialVersionUID", type := .long, accessFlags := 26, slot := 0, constantValue := 0 }]
  methods := #[k14m0]
  instanceTypes := #[]
  staticTypes := #[.long]
  resolved := Array.replicate 37 none
  statics := none }

def pool15 : Array CpInfo := pool [(1, .class_ 2), (0, u "java/lang/Comparable"), (0, .class_ 4), (0, u "java/lang/Object")] 7

/-- java/lang/Comparable -/
def k15 : Class := { plain "java/lang/Comparable" (some 0) with
  accessFlags := 1537
  interfaces := #[]
  cf := some (fileOf pool15 1 #[] #[] 1537 3 #[] #[])
  fields := #[]
  methods := #[]
  instanceTypes := #[]
  staticTypes := #[]
  resolved := Array.replicate 12 none
  statics := none }

def pool16 : Array CpInfo := pool [(1, .class_ 2), (0, u "java/lang/constant/Constable"), (0, .class_ 4), (0, u "java/lang/Object")] 6

/-- java/lang/constant/Constable -/
def k16 : Class := { plain "java/lang/constant/Constable" (some 0) with
  accessFlags := 1537
  interfaces := #[]
  cf := some (fileOf pool16 1 #[] #[] 1537 3 #[] #[])
  fields := #[]
  methods := #[]
  instanceTypes := #[]
  staticTypes := #[]
  resolved := Array.replicate 11 none
  statics := none }

def pool17 : Array CpInfo := pool [(1, .class_ 2), (0, u "java/lang/constant/ConstantDesc"), (0, .class_ 4), (0, u "java/lang/Object")] 32

/-- java/lang/constant/ConstantDesc -/
def k17 : Class := { plain "java/lang/constant/ConstantDesc" (some 0) with
  accessFlags := 1537
  interfaces := #[]
  cf := some (fileOf pool17 1 #[] #[] 1537 3 #[] #[])
  fields := #[]
  methods := #[]
  instanceTypes := #[]
  staticTypes := #[]
  resolved := Array.replicate 37 none
  statics := none }

def pool18 : Array CpInfo := pool [(1, .class_ 2), (0, u "java/lang/Integer"), (16, u "digits"), (0, u "[C"), (46, u "<init>"), (17, u "DigitOnes"), (0, u "[B"), (2, u "DigitTens"), (10, .nameAndType 67 101), (0, u "()V"), (85, u "valueOf"), (0, u "(I)Ljava/lang/Integer;"), (0, .class_ 190), (0, u "java/lang/Integer$IntegerCache"), (0, .fieldref 189 192), (0, .nameAndType 193 194), (0, u "high"), (0, u "I"), (0, .fieldref 189 196), (0, .nameAndType 197 198), (0, u "cache"), (0, u "[Ljava/lang/Integer;"), (0, .methodref 1 200), (0, .nameAndType 67 201), (0, u "(I)V"), (0, .methodref 203 100), (0, .class_ 204), (0, u "java/lang/Number"), (0, .fieldref 1 206), (0, .nameAndType 207 194), (0, u "value"), (94, u "TYPE"), (0, u "Ljava/lang/Class;"), (0, .class_ 305), (0, u "java/lang/Comparable"), (0, .class_ 307), (0, u "java/lang/constant/Constable"), (0, .class_ 309), (0, u "java/lang/constant/ConstantDesc"), (0, u "MIN_VALUE"), (1, u "MAX_VALUE"), (3, u "SIZE"), (1, u "BYTES"), (1, u "serialVersionUID"), (0, u "J")] 131

def k18c0 : Code := { maxStack := 3, maxLocals := 1, code := jdk_33_method_22_code, exceptionTable := #[], attributes := #[] }
def k18m0 : Method := { name := "valueOf", desc := "(I)Ljava/lang/Integer;", sig := { parameters := [.int], returnType := some (.object "java/lang/Integer") }, accessFlags := 9, code := some k18c0 }
def k18c1 : Code := { maxStack := 2, maxLocals := 2, code := jdk_33_method_23_code, exceptionTable := #[], attributes := #[] }
def k18m1 : Method := { name := "<init>", desc := "(I)V", sig := { parameters := [.int], returnType := none }, accessFlags := 1, code := some k18c1 }
/-- java/lang/Integer -/
def k18 : Class := { plain "java/lang/Integer" (some 14) with
  accessFlags := 49
  interfaces := #[15, 16, 17]
  cf := some (fileOf pool18 1 #[.nestMembers #[189]] #[{ accessFlags := 9, nameIndex := 187, descriptorIndex := 188, attributes := #[] }, { accessFlags := 1, nameIndex := 67, descriptorIndex := 201, attributes := #[] }] 49 203 #[304, 306, 308] #[{ accessFlags := 25, nameIndex := 310, descriptorIndex := 194, attributes := #[] }, { accessFlags := 25, nameIndex := 312, descriptorIndex := 194, attributes := #[] }, { accessFlags := 25, nameIndex := 302, descriptorIndex := 303, attributes := #[] }, { accessFlags := 24, nameIndex := 19, descriptorIndex := 20, attributes := #[] }, { accessFlags := 24, nameIndex := 89, descriptorIndex := 86, attributes := #[] }, { accessFlags := 24, nameIndex := 85, descriptorIndex := 86, attributes := #[] }, { accessFlags := 18, nameIndex := 207, descriptorIndex := 194, attributes := #[] }, { accessFlags := 25, nameIndex := 316, descriptorIndex := 194, attributes := #[] }, { accessFlags := 25, nameIndex := 318, descriptorIndex := 194, attributes := #[] }, { accessFlags := 26, nameIndex := 320, descriptorIndex := 321, attributes := #[] }])
  fields := #[{ name := "MIN_VALUE", type := .int, accessFlags := 25, slot := 0, constantValue := 0 }, { name := "MAX_VALUE", type := .int, accessFlags := 25, slot := 1, constantValue := 0 }, { name := "TYPE", type := (.object "java/lang/Class"), accessFlags := 25, slot := 2, constantValue := 0 }, { name := "digits", type := (.array .char), accessFlags := 24, slot := 3, constantValue := 0 }, { name := "DigitTens", type := (.array .byte), accessFlags := 24, slot := 4, constantValue := 0 }, { name := "DigitOnes", type := (.array .byte), accessFlags := 24, slot := 5, constantValue := 0 }, { name := "value", type := .int, accessFlags := 18, slot := 0, constantValue := 0 }, { name := "SIZE", type := .int, accessFlags := 25, slot := 6, constantValue := 0 }, { name := "BYTES", type := .int, accessFlags := 25, slot := 7, constantValue := 0 }, { name := "serialVersionUID", type := .long, accessFlags := 26, slot := 8, constantValue := 0 }]
  methods := #[k18m0, k18m1]
  instanceTypes := #[.int]
  staticTypes := #[.int, .int, (.object "java/lang/Class"), (.array .char), (.array .byte), (.array .byte), .int, .int, .long]
  resolved := Array.replicate 453 none
  statics := none }

def pool19 : Array CpInfo := pool [(2, .class_ 4), (1, u "java/lang/Object"), (0, u "<init>"), (0, u "()V"), (0, .class_ 8), (0, u "java/lang/Integer"), (7, .class_ 18), (1, u "java/lang/Integer$IntegerCache"), (0, u "$assertionsDisabled"), (0, u "Z"), (26, u "high"), (0, u "I"), (8, u "archivedCache"), (0, u "[Ljava/lang/Integer;"), (12, u "cache"), (0, u "low")] 27

def k19m0 : Method := { name := "<init>", desc := "()V", sig := { parameters := [], returnType := none }, accessFlags := 2, code := none }
/-- java/lang/Integer$IntegerCache -/
def k19 : Class := { plain "java/lang/Integer$IntegerCache" (some 0) with
  accessFlags := 48
  interfaces := #[]
  cf := some (fileOf pool19 16 #[.nestHost 7] #[{ accessFlags := 2, nameIndex := 5, descriptorIndex := 6, attributes := #[] }] 48 2 #[] #[{ accessFlags := 24, nameIndex := 72, descriptorIndex := 48, attributes := #[] }, { accessFlags := 24, nameIndex := 47, descriptorIndex := 48, attributes := #[] }, { accessFlags := 24, nameIndex := 71, descriptorIndex := 58, attributes := #[] }, { accessFlags := 8, nameIndex := 57, descriptorIndex := 58, attributes := #[] }, { accessFlags := 4120, nameIndex := 19, descriptorIndex := 20, attributes := #[] }])
  fields := #[{ name := "low", type := .int, accessFlags := 24, slot := 0, constantValue := 0 }, { name := "high", type := .int, accessFlags := 24, slot := 1, constantValue := 0 }, { name := "cache", type := (.array (.object "java/lang/Integer")), accessFlags := 24, slot := 2, constantValue := 0 }, { name := "archivedCache", type := (.array (.object "java/lang/Integer")), accessFlags := 8, slot := 3, constantValue := 0 }, { name := "$assertionsDisabled", type := .boolean, accessFlags := 4120, slot := 4, constantValue := 0 }]
  methods := #[k19m0]
  instanceTypes := #[]
  staticTypes := #[.int, .int, (.array (.object "java/lang/Integer")), (.array (.object "java/lang/Integer")), .boolean]
  resolved := Array.replicate 100 none
  statics := some 1 }

def pool20 : Array CpInfo := pool [(1, .class_ 2), (0, u "java/lang/Math"), (1, .class_ 6), (1, u "java/lang/Object"), (0, u "<init>"), (0, u "()V"), (89, .class_ 100), (1, u "java/lang/Math$RandomNumberGeneratorHolder"), (71, u "negativeZeroFloatBits"), (0, u "J"), (2, u "negativeZeroDoubleBits"), (21, u "max"), (46, u "$assertionsDisabled"), (0, u "Z"), (88, u "(II)I"), (2, u "twoToTheDoubleScaleDown"), (0, u "D"), (4, u "twoToTheDoubleScaleUp"), (9, u "E"), (3, u "PI"), (2, u "TAU"), (2, u "DEGREES_TO_RADIANS"), (0, u "RADIANS_TO_DEGREES")] 94

def k20m0 : Method := { name := "<init>", desc := "()V", sig := { parameters := [], returnType := none }, accessFlags := 2, code := none }
def k20c1 : Code := { maxStack := 2, maxLocals := 2, code := jdk_29_method_65_code, exceptionTable := #[], attributes := #[] }
def k20m1 : Method := { name := "max", desc := "(II)I", sig := { parameters := [.int, .int], returnType := some .int }, accessFlags := 9, code := some k20c1 }
/-- java/lang/Math -/
def k20 : Class := { plain "java/lang/Math" (some 0) with
  accessFlags := 49
  interfaces := #[]
  cf := some (fileOf pool20 1 #[.nestMembers #[98]] #[{ accessFlags := 2, nameIndex := 7, descriptorIndex := 8, attributes := #[] }, { accessFlags := 9, nameIndex := 198, descriptorIndex := 335, attributes := #[] }] 49 4 #[] #[{ accessFlags := 25, nameIndex := 354, descriptorIndex := 339, attributes := #[] }, { accessFlags := 25, nameIndex := 358, descriptorIndex := 339, attributes := #[] }, { accessFlags := 25, nameIndex := 361, descriptorIndex := 339, attributes := #[] }, { accessFlags := 26, nameIndex := 364, descriptorIndex := 339, attributes := #[] }, { accessFlags := 26, nameIndex := 365, descriptorIndex := 339, attributes := #[] }, { accessFlags := 26, nameIndex := 172, descriptorIndex := 173, attributes := #[] }, { accessFlags := 26, nameIndex := 176, descriptorIndex := 173, attributes := #[] }, { accessFlags := 8, nameIndex := 344, descriptorIndex := 339, attributes := #[] }, { accessFlags := 8, nameIndex := 338, descriptorIndex := 339, attributes := #[] }, { accessFlags := 4120, nameIndex := 245, descriptorIndex := 246, attributes := #[] }])
  fields := #[{ name := "E", type := .double, accessFlags := 25, slot := 0, constantValue := 0 }, { name := "PI", type := .double, accessFlags := 25, slot := 1, constantValue := 0 }, { name := "TAU", type := .double, accessFlags := 25, slot := 2, constantValue := 0 }, { name := "DEGREES_TO_RADIANS", type := .double, accessFlags := 26, slot := 3, constantValue := 0 }, { name := "RADIANS_TO_DEGREES", type := .double, accessFlags := 26, slot := 4, constantValue := 0 }, { name := "negativeZeroFloatBits", type := .long, accessFlags := 26, slot := 5, constantValue := 0 }, { name := "negativeZeroDoubleBits", type := .long, accessFlags := 26, slot := 6, constantValue := 0 }, { name := "twoToTheDoubleScaleUp", type := .double, accessFlags := 8, slot := 7, constantValue := 0 }, { name := "twoToTheDoubleScaleDown", type := .double, accessFlags := 8, slot := 8, constantValue := 0 }, { name := "$assertionsDisabled", type := .boolean, accessFlags := 4120, slot := 9, constantValue := 0 }]
  methods := #[k20m0, k20m1]
  instanceTypes := #[]
  staticTypes := #[.double, .double, .double, .double, .double, .long, .long, .double, .double, .boolean]
  resolved := Array.replicate 460 none
  statics := none }

/-- the primitive byte -/
def k21 : Class := { plain "byte" none with kind := .primitive 'B', accessFlags := 0x411 }
/-- [B -/
def k22 : Class := { plain "[B" (some 0) with kind := .array 21 .byte, interfaces := #[9, 10], accessFlags := 1041 }

/-- the primitive int -/
def k23 : Class := { plain "int" none with kind := .primitive 'I', accessFlags := 0x411 }
/-- [I -/
def k24 : Class := { plain "[I" (some 0) with kind := .array 23 .int, interfaces := #[9, 10], accessFlags := 1041 }

/-- [Ljava/lang/Integer; -/
def k25 : Class := { plain "[Ljava/lang/Integer;" (some 0) with kind := .array 18 (.object "java/lang/Integer"), interfaces := #[9, 10], accessFlags := 1041 }

/-- [Ljava/lang/Object; -/
def k26 : Class := { plain "[Ljava/lang/Object;" (some 0) with kind := .array 0 (.object "java/lang/Object"), interfaces := #[9, 10], accessFlags := 1041 }

def heap : Heap := #[{ cls := 11, slots := #[.long 0, .int 0, .ref 259, .ref 260], vm := .statics 11 },
  { cls := 19, slots := #[.int 0, .int 127, .ref 2, .null, .int 0], vm := .statics 19 },
  { cls := 25, slots := #[.ref 3, .ref 4, .ref 5, .ref 6, .ref 7, .ref 8, .ref 9, .ref 10, .ref 11, .ref 12, .ref 13, .ref 14, .ref 15, .ref 16, .ref 17, .ref 18, .ref 19, .ref 20, .ref 21, .ref 22, .ref 23, .ref 24, .ref 25, .ref 26, .ref 27, .ref 28, .ref 29, .ref 30, .ref 31, .ref 32, .ref 33, .ref 34, .ref 35, .ref 36, .ref 37, .ref 38, .ref 39, .ref 40, .ref 41, .ref 42, .ref 43, .ref 44, .ref 45, .ref 46, .ref 47, .ref 48, .ref 49, .ref 50, .ref 51, .ref 52, .ref 53, .ref 54, .ref 55, .ref 56, .ref 57, .ref 58, .ref 59, .ref 60, .ref 61, .ref 62, .ref 63, .ref 64, .ref 65, .ref 66, .ref 67, .ref 68, .ref 69, .ref 70, .ref 71, .ref 72, .ref 73, .ref 74, .ref 75, .ref 76, .ref 77, .ref 78, .ref 79, .ref 80, .ref 81, .ref 82, .ref 83, .ref 84, .ref 85, .ref 86, .ref 87, .ref 88, .ref 89, .ref 90, .ref 91, .ref 92, .ref 93, .ref 94, .ref 95, .ref 96, .ref 97, .ref 98, .ref 99, .ref 100, .ref 101, .ref 102, .ref 103, .ref 104, .ref 105, .ref 106, .ref 107, .ref 108, .ref 109, .ref 110, .ref 111, .ref 112, .ref 113, .ref 114, .ref 115, .ref 116, .ref 117, .ref 118, .ref 119, .ref 120, .ref 121, .ref 122, .ref 123, .ref 124, .ref 125, .ref 126, .ref 127, .ref 128, .ref 129, .ref 130, .ref 131, .ref 132, .ref 133, .ref 134, .ref 135, .ref 136, .ref 137, .ref 138, .ref 139, .ref 140, .ref 141, .ref 142, .ref 143, .ref 144, .ref 145, .ref 146, .ref 147, .ref 148, .ref 149, .ref 150, .ref 151, .ref 152, .ref 153, .ref 154, .ref 155, .ref 156, .ref 157, .ref 158, .ref 159, .ref 160, .ref 161, .ref 162, .ref 163, .ref 164, .ref 165, .ref 166, .ref 167, .ref 168, .ref 169, .ref 170, .ref 171, .ref 172, .ref 173, .ref 174, .ref 175, .ref 176, .ref 177, .ref 178, .ref 179, .ref 180, .ref 181, .ref 182, .ref 183, .ref 184, .ref 185, .ref 186, .ref 187, .ref 188, .ref 189, .ref 190, .ref 191, .ref 192, .ref 193, .ref 194, .ref 195, .ref 196, .ref 197, .ref 198, .ref 199, .ref 200, .ref 201, .ref 202, .ref 203, .ref 204, .ref 205, .ref 206, .ref 207, .ref 208, .ref 209, .ref 210, .ref 211, .ref 212, .ref 213, .ref 214, .ref 215, .ref 216, .ref 217, .ref 218, .ref 219, .ref 220, .ref 221, .ref 222, .ref 223, .ref 224, .ref 225, .ref 226, .ref 227, .ref 228, .ref 229, .ref 230, .ref 231, .ref 232, .ref 233, .ref 234, .ref 235, .ref 236, .ref 237, .ref 238, .ref 239, .ref 240, .ref 241, .ref 242, .ref 243, .ref 244, .ref 245, .ref 246, .ref 247, .ref 248, .ref 249, .ref 250, .ref 251, .ref 252, .ref 253, .ref 254, .ref 255, .ref 256, .ref 257, .ref 258], vm := .none },
  { cls := 18, slots := #[.int (-128)], vm := .none },
  { cls := 18, slots := #[.int (-127)], vm := .none },
  { cls := 18, slots := #[.int (-126)], vm := .none },
  { cls := 18, slots := #[.int (-125)], vm := .none },
  { cls := 18, slots := #[.int (-124)], vm := .none },
  { cls := 18, slots := #[.int (-123)], vm := .none },
  { cls := 18, slots := #[.int (-122)], vm := .none },
  { cls := 18, slots := #[.int (-121)], vm := .none },
  { cls := 18, slots := #[.int (-120)], vm := .none },
  { cls := 18, slots := #[.int (-119)], vm := .none },
  { cls := 18, slots := #[.int (-118)], vm := .none },
  { cls := 18, slots := #[.int (-117)], vm := .none },
  { cls := 18, slots := #[.int (-116)], vm := .none },
  { cls := 18, slots := #[.int (-115)], vm := .none },
  { cls := 18, slots := #[.int (-114)], vm := .none },
  { cls := 18, slots := #[.int (-113)], vm := .none },
  { cls := 18, slots := #[.int (-112)], vm := .none },
  { cls := 18, slots := #[.int (-111)], vm := .none },
  { cls := 18, slots := #[.int (-110)], vm := .none },
  { cls := 18, slots := #[.int (-109)], vm := .none },
  { cls := 18, slots := #[.int (-108)], vm := .none },
  { cls := 18, slots := #[.int (-107)], vm := .none },
  { cls := 18, slots := #[.int (-106)], vm := .none },
  { cls := 18, slots := #[.int (-105)], vm := .none },
  { cls := 18, slots := #[.int (-104)], vm := .none },
  { cls := 18, slots := #[.int (-103)], vm := .none },
  { cls := 18, slots := #[.int (-102)], vm := .none },
  { cls := 18, slots := #[.int (-101)], vm := .none },
  { cls := 18, slots := #[.int (-100)], vm := .none },
  { cls := 18, slots := #[.int (-99)], vm := .none },
  { cls := 18, slots := #[.int (-98)], vm := .none },
  { cls := 18, slots := #[.int (-97)], vm := .none },
  { cls := 18, slots := #[.int (-96)], vm := .none },
  { cls := 18, slots := #[.int (-95)], vm := .none },
  { cls := 18, slots := #[.int (-94)], vm := .none },
  { cls := 18, slots := #[.int (-93)], vm := .none },
  { cls := 18, slots := #[.int (-92)], vm := .none },
  { cls := 18, slots := #[.int (-91)], vm := .none },
  { cls := 18, slots := #[.int (-90)], vm := .none },
  { cls := 18, slots := #[.int (-89)], vm := .none },
  { cls := 18, slots := #[.int (-88)], vm := .none },
  { cls := 18, slots := #[.int (-87)], vm := .none },
  { cls := 18, slots := #[.int (-86)], vm := .none },
  { cls := 18, slots := #[.int (-85)], vm := .none },
  { cls := 18, slots := #[.int (-84)], vm := .none },
  { cls := 18, slots := #[.int (-83)], vm := .none },
  { cls := 18, slots := #[.int (-82)], vm := .none },
  { cls := 18, slots := #[.int (-81)], vm := .none },
  { cls := 18, slots := #[.int (-80)], vm := .none },
  { cls := 18, slots := #[.int (-79)], vm := .none },
  { cls := 18, slots := #[.int (-78)], vm := .none },
  { cls := 18, slots := #[.int (-77)], vm := .none },
  { cls := 18, slots := #[.int (-76)], vm := .none },
  { cls := 18, slots := #[.int (-75)], vm := .none },
  { cls := 18, slots := #[.int (-74)], vm := .none },
  { cls := 18, slots := #[.int (-73)], vm := .none },
  { cls := 18, slots := #[.int (-72)], vm := .none },
  { cls := 18, slots := #[.int (-71)], vm := .none },
  { cls := 18, slots := #[.int (-70)], vm := .none },
  { cls := 18, slots := #[.int (-69)], vm := .none },
  { cls := 18, slots := #[.int (-68)], vm := .none },
  { cls := 18, slots := #[.int (-67)], vm := .none },
  { cls := 18, slots := #[.int (-66)], vm := .none },
  { cls := 18, slots := #[.int (-65)], vm := .none },
  { cls := 18, slots := #[.int (-64)], vm := .none },
  { cls := 18, slots := #[.int (-63)], vm := .none },
  { cls := 18, slots := #[.int (-62)], vm := .none },
  { cls := 18, slots := #[.int (-61)], vm := .none },
  { cls := 18, slots := #[.int (-60)], vm := .none },
  { cls := 18, slots := #[.int (-59)], vm := .none },
  { cls := 18, slots := #[.int (-58)], vm := .none },
  { cls := 18, slots := #[.int (-57)], vm := .none },
  { cls := 18, slots := #[.int (-56)], vm := .none },
  { cls := 18, slots := #[.int (-55)], vm := .none },
  { cls := 18, slots := #[.int (-54)], vm := .none },
  { cls := 18, slots := #[.int (-53)], vm := .none },
  { cls := 18, slots := #[.int (-52)], vm := .none },
  { cls := 18, slots := #[.int (-51)], vm := .none },
  { cls := 18, slots := #[.int (-50)], vm := .none },
  { cls := 18, slots := #[.int (-49)], vm := .none },
  { cls := 18, slots := #[.int (-48)], vm := .none },
  { cls := 18, slots := #[.int (-47)], vm := .none },
  { cls := 18, slots := #[.int (-46)], vm := .none },
  { cls := 18, slots := #[.int (-45)], vm := .none },
  { cls := 18, slots := #[.int (-44)], vm := .none },
  { cls := 18, slots := #[.int (-43)], vm := .none },
  { cls := 18, slots := #[.int (-42)], vm := .none },
  { cls := 18, slots := #[.int (-41)], vm := .none },
  { cls := 18, slots := #[.int (-40)], vm := .none },
  { cls := 18, slots := #[.int (-39)], vm := .none },
  { cls := 18, slots := #[.int (-38)], vm := .none },
  { cls := 18, slots := #[.int (-37)], vm := .none },
  { cls := 18, slots := #[.int (-36)], vm := .none },
  { cls := 18, slots := #[.int (-35)], vm := .none },
  { cls := 18, slots := #[.int (-34)], vm := .none },
  { cls := 18, slots := #[.int (-33)], vm := .none },
  { cls := 18, slots := #[.int (-32)], vm := .none },
  { cls := 18, slots := #[.int (-31)], vm := .none },
  { cls := 18, slots := #[.int (-30)], vm := .none },
  { cls := 18, slots := #[.int (-29)], vm := .none },
  { cls := 18, slots := #[.int (-28)], vm := .none },
  { cls := 18, slots := #[.int (-27)], vm := .none },
  { cls := 18, slots := #[.int (-26)], vm := .none },
  { cls := 18, slots := #[.int (-25)], vm := .none },
  { cls := 18, slots := #[.int (-24)], vm := .none },
  { cls := 18, slots := #[.int (-23)], vm := .none },
  { cls := 18, slots := #[.int (-22)], vm := .none },
  { cls := 18, slots := #[.int (-21)], vm := .none },
  { cls := 18, slots := #[.int (-20)], vm := .none },
  { cls := 18, slots := #[.int (-19)], vm := .none },
  { cls := 18, slots := #[.int (-18)], vm := .none },
  { cls := 18, slots := #[.int (-17)], vm := .none },
  { cls := 18, slots := #[.int (-16)], vm := .none },
  { cls := 18, slots := #[.int (-15)], vm := .none },
  { cls := 18, slots := #[.int (-14)], vm := .none },
  { cls := 18, slots := #[.int (-13)], vm := .none },
  { cls := 18, slots := #[.int (-12)], vm := .none },
  { cls := 18, slots := #[.int (-11)], vm := .none },
  { cls := 18, slots := #[.int (-10)], vm := .none },
  { cls := 18, slots := #[.int (-9)], vm := .none },
  { cls := 18, slots := #[.int (-8)], vm := .none },
  { cls := 18, slots := #[.int (-7)], vm := .none },
  { cls := 18, slots := #[.int (-6)], vm := .none },
  { cls := 18, slots := #[.int (-5)], vm := .none },
  { cls := 18, slots := #[.int (-4)], vm := .none },
  { cls := 18, slots := #[.int (-3)], vm := .none },
  { cls := 18, slots := #[.int (-2)], vm := .none },
  { cls := 18, slots := #[.int (-1)], vm := .none },
  { cls := 18, slots := #[.int 0], vm := .none },
  { cls := 18, slots := #[.int 1], vm := .none },
  { cls := 18, slots := #[.int 2], vm := .none },
  { cls := 18, slots := #[.int 3], vm := .none },
  { cls := 18, slots := #[.int 4], vm := .none },
  { cls := 18, slots := #[.int 5], vm := .none },
  { cls := 18, slots := #[.int 6], vm := .none },
  { cls := 18, slots := #[.int 7], vm := .none },
  { cls := 18, slots := #[.int 8], vm := .none },
  { cls := 18, slots := #[.int 9], vm := .none },
  { cls := 18, slots := #[.int 10], vm := .none },
  { cls := 18, slots := #[.int 11], vm := .none },
  { cls := 18, slots := #[.int 12], vm := .none },
  { cls := 18, slots := #[.int 13], vm := .none },
  { cls := 18, slots := #[.int 14], vm := .none },
  { cls := 18, slots := #[.int 15], vm := .none },
  { cls := 18, slots := #[.int 16], vm := .none },
  { cls := 18, slots := #[.int 17], vm := .none },
  { cls := 18, slots := #[.int 18], vm := .none },
  { cls := 18, slots := #[.int 19], vm := .none },
  { cls := 18, slots := #[.int 20], vm := .none },
  { cls := 18, slots := #[.int 21], vm := .none },
  { cls := 18, slots := #[.int 22], vm := .none },
  { cls := 18, slots := #[.int 23], vm := .none },
  { cls := 18, slots := #[.int 24], vm := .none },
  { cls := 18, slots := #[.int 25], vm := .none },
  { cls := 18, slots := #[.int 26], vm := .none },
  { cls := 18, slots := #[.int 27], vm := .none },
  { cls := 18, slots := #[.int 28], vm := .none },
  { cls := 18, slots := #[.int 29], vm := .none },
  { cls := 18, slots := #[.int 30], vm := .none },
  { cls := 18, slots := #[.int 31], vm := .none },
  { cls := 18, slots := #[.int 32], vm := .none },
  { cls := 18, slots := #[.int 33], vm := .none },
  { cls := 18, slots := #[.int 34], vm := .none },
  { cls := 18, slots := #[.int 35], vm := .none },
  { cls := 18, slots := #[.int 36], vm := .none },
  { cls := 18, slots := #[.int 37], vm := .none },
  { cls := 18, slots := #[.int 38], vm := .none },
  { cls := 18, slots := #[.int 39], vm := .none },
  { cls := 18, slots := #[.int 40], vm := .none },
  { cls := 18, slots := #[.int 41], vm := .none },
  { cls := 18, slots := #[.int 42], vm := .none },
  { cls := 18, slots := #[.int 43], vm := .none },
  { cls := 18, slots := #[.int 44], vm := .none },
  { cls := 18, slots := #[.int 45], vm := .none },
  { cls := 18, slots := #[.int 46], vm := .none },
  { cls := 18, slots := #[.int 47], vm := .none },
  { cls := 18, slots := #[.int 48], vm := .none },
  { cls := 18, slots := #[.int 49], vm := .none },
  { cls := 18, slots := #[.int 50], vm := .none },
  { cls := 18, slots := #[.int 51], vm := .none },
  { cls := 18, slots := #[.int 52], vm := .none },
  { cls := 18, slots := #[.int 53], vm := .none },
  { cls := 18, slots := #[.int 54], vm := .none },
  { cls := 18, slots := #[.int 55], vm := .none },
  { cls := 18, slots := #[.int 56], vm := .none },
  { cls := 18, slots := #[.int 57], vm := .none },
  { cls := 18, slots := #[.int 58], vm := .none },
  { cls := 18, slots := #[.int 59], vm := .none },
  { cls := 18, slots := #[.int 60], vm := .none },
  { cls := 18, slots := #[.int 61], vm := .none },
  { cls := 18, slots := #[.int 62], vm := .none },
  { cls := 18, slots := #[.int 63], vm := .none },
  { cls := 18, slots := #[.int 64], vm := .none },
  { cls := 18, slots := #[.int 65], vm := .none },
  { cls := 18, slots := #[.int 66], vm := .none },
  { cls := 18, slots := #[.int 67], vm := .none },
  { cls := 18, slots := #[.int 68], vm := .none },
  { cls := 18, slots := #[.int 69], vm := .none },
  { cls := 18, slots := #[.int 70], vm := .none },
  { cls := 18, slots := #[.int 71], vm := .none },
  { cls := 18, slots := #[.int 72], vm := .none },
  { cls := 18, slots := #[.int 73], vm := .none },
  { cls := 18, slots := #[.int 74], vm := .none },
  { cls := 18, slots := #[.int 75], vm := .none },
  { cls := 18, slots := #[.int 76], vm := .none },
  { cls := 18, slots := #[.int 77], vm := .none },
  { cls := 18, slots := #[.int 78], vm := .none },
  { cls := 18, slots := #[.int 79], vm := .none },
  { cls := 18, slots := #[.int 80], vm := .none },
  { cls := 18, slots := #[.int 81], vm := .none },
  { cls := 18, slots := #[.int 82], vm := .none },
  { cls := 18, slots := #[.int 83], vm := .none },
  { cls := 18, slots := #[.int 84], vm := .none },
  { cls := 18, slots := #[.int 85], vm := .none },
  { cls := 18, slots := #[.int 86], vm := .none },
  { cls := 18, slots := #[.int 87], vm := .none },
  { cls := 18, slots := #[.int 88], vm := .none },
  { cls := 18, slots := #[.int 89], vm := .none },
  { cls := 18, slots := #[.int 90], vm := .none },
  { cls := 18, slots := #[.int 91], vm := .none },
  { cls := 18, slots := #[.int 92], vm := .none },
  { cls := 18, slots := #[.int 93], vm := .none },
  { cls := 18, slots := #[.int 94], vm := .none },
  { cls := 18, slots := #[.int 95], vm := .none },
  { cls := 18, slots := #[.int 96], vm := .none },
  { cls := 18, slots := #[.int 97], vm := .none },
  { cls := 18, slots := #[.int 98], vm := .none },
  { cls := 18, slots := #[.int 99], vm := .none },
  { cls := 18, slots := #[.int 100], vm := .none },
  { cls := 18, slots := #[.int 101], vm := .none },
  { cls := 18, slots := #[.int 102], vm := .none },
  { cls := 18, slots := #[.int 103], vm := .none },
  { cls := 18, slots := #[.int 104], vm := .none },
  { cls := 18, slots := #[.int 105], vm := .none },
  { cls := 18, slots := #[.int 106], vm := .none },
  { cls := 18, slots := #[.int 107], vm := .none },
  { cls := 18, slots := #[.int 108], vm := .none },
  { cls := 18, slots := #[.int 109], vm := .none },
  { cls := 18, slots := #[.int 110], vm := .none },
  { cls := 18, slots := #[.int 111], vm := .none },
  { cls := 18, slots := #[.int 112], vm := .none },
  { cls := 18, slots := #[.int 113], vm := .none },
  { cls := 18, slots := #[.int 114], vm := .none },
  { cls := 18, slots := #[.int 115], vm := .none },
  { cls := 18, slots := #[.int 116], vm := .none },
  { cls := 18, slots := #[.int 117], vm := .none },
  { cls := 18, slots := #[.int 118], vm := .none },
  { cls := 18, slots := #[.int 119], vm := .none },
  { cls := 18, slots := #[.int 120], vm := .none },
  { cls := 18, slots := #[.int 121], vm := .none },
  { cls := 18, slots := #[.int 122], vm := .none },
  { cls := 18, slots := #[.int 123], vm := .none },
  { cls := 18, slots := #[.int 124], vm := .none },
  { cls := 18, slots := #[.int 125], vm := .none },
  { cls := 18, slots := #[.int 126], vm := .none },
  { cls := 18, slots := #[.int 127], vm := .none },
  { cls := 26, slots := #[], vm := .none },
  { cls := 26, slots := #[], vm := .none }]
def classes : Array Class := #[k0, k1, k2, k3, k4, k5, k6, k7, k8, k9, k10, k11, k12, k13, k14, k15, k16, k17, k18, k19, k20, k21, k22, k23, k24, k25, k26]
def interned : List (Array UInt16 × Addr) := []
def slotsUsed : Nat := 521
def theMethod : MethodId := ⟨1, 2⟩
def args0 : Array Value := #[.int 5, .int 6, .int 7, .int 8, .int 9]
def aboutOver (below : List Frame) : State where
  vm := { classes := classes, interned := interned.toArray }
  heap := heap
  slotsUsed := slotsUsed
  threads := #[{ frames := .invoking theMethod args0 :: below }]
def below0 : List Frame := [.native { method := ⟨0, 0⟩, args := #[] }]
def about1 : State := aboutOver below0
def p0 : Program := .bare "" "" ""
def e0 : Env := launch0.env 0 0 0
theorem w_frames : about1.frames = Frame.invoking theMethod args0 :: below0 := rfl
set_option maxRecDepth 65536 in
theorem w_args : argsFit about1.vm theMethod args0 = true := by decide +kernel
set_option maxRecDepth 65536 in
theorem w_heap : heapFits about1 = true := by decide +kernel
set_option maxRecDepth 65536 in
theorem w_runnable : about1.curStatus? = some .runnable := by decide +kernel
set_option maxRecDepth 65536 in
theorem w_alone : about1.alone = true := by decide +kernel
set_option maxRecDepth 65536 in
theorem w_named : about1.methodNamed? x = some theMethod := by decide +kernel
set_option maxRecDepth 65536 in
theorem w_hears : about1.hears theMethod below0 = true := by decide +kernel
set_option maxRecDepth 65536 in
theorem w_ripe : about1.ripe theMethod args0 below0 = true := by decide +kernel
theorem w_running : about1.status = .running := rfl
set_option maxRecDepth 65536 in
theorem w_room : about1.hasRoom e0.platform room_1 = true :=
  launch0.hasRoom_least _ room_1 (by decide +kernel) (by decide +kernel) (by decide +kernel) (by decide +kernel) (by decide +kernel) (by decide +kernel)
theorem allAtoms_all (ts : List Jvm.Cond) (a : Array Jvm.Value) (st : Jvm.State) : (allAtoms ts).before a st = ts.all (fun c => c.before a st) := by
  induction ts with
  | nil => rfl
  | cons c t ih =>
    show (Jvm.Cond.and c (allAtoms t)).before a st = _
    rw [Jvm.Cond.before_and, ih, List.all_cons]
def words1 : List Jvm.Cond := Jvm.Cond.code x code maxLocals ret :: tables_1
/-- a 'code' word, met by the world's own term for the bytes: nothing is compared byte by byte -/
theorem code_word {y : MethodName} {bytes : ByteArray} {mx : Nat} {rt : Option FieldType} {a : Array Value} {s : State} {m : MethodId} {meth : Method} {c : Code} (h1 : s.methodNamed? y = some m) (h2 : s.vm.method? m = some meth) (h3 : meth.code = some c) (h4 : c.code = bytes)
    (h5 : (c.maxLocals == mx && c.exceptionTable.isEmpty && decide (c.maxStack ≤ mostOperands) && decide (meth.sig.returnType = rt) && !meth.locks && decide (parseMethodDescriptor y.desc = some meth.sig)) = true) : (Jvm.Cond.code y bytes mx rt).before a s = true := by
  simp only [Bool.and_eq_true, beq_iff_eq, Bool.not_eq_true', decide_eq_true_eq] at h5
  obtain ⟨⟨⟨⟨⟨g1, g2⟩, g3⟩, g4⟩, g5⟩, g6⟩ := h5
  simp [Cond.before, Cond.holds, Cond.value, h1, h2, h3, h4, g1, g2, g3, g4, g5, g6]
def isCode : Jvm.Cond → Bool
  | .code _ _ _ _ => true
  | _ => false
theorem all_split {L : List Jvm.Cond} {P : Jvm.Cond → Bool} (h1 : L.all (fun c => isCode c || P c) = true) (h2 : ∀ c ∈ L.filter isCode, P c = true) : L.all P = true := by
  refine List.all_eq_true.mpr fun c hc => ?_
  have h := List.all_eq_true.mp h1 c hc
  rcases Bool.eq_false_or_eq_true (isCode c) with hi | hi
  · exact h2 c (List.mem_filter.mpr ⟨hc, hi⟩)
  · simpa [hi] using h
set_option maxRecDepth 65536 in
theorem w_c0 : (Jvm.Cond.code x code maxLocals ret).before args0 about1 = true := code_word (m := ⟨1, 2⟩) (meth := k1m2) (c := k1c2) (by decide +kernel) rfl rfl rfl (by decide +kernel)
set_option maxRecDepth 65536 in
theorem w_c1 : (Jvm.Cond.code ({ cls := "java/util/ArrayList", name := "<init>", desc := "()V" } : Jvm.MethodName) jdk_38_method_2_code (1 : Nat) (Option.none : Option Jvm.ClassFile.FieldType)).before args0 about1 = true := code_word (m := ⟨11, 0⟩) (meth := k11m0) (c := k11c0) (by decide +kernel) rfl rfl rfl (by decide +kernel)
set_option maxRecDepth 65536 in
theorem w_c2 : (Jvm.Cond.code ({ cls := "java/util/AbstractList", name := "<init>", desc := "()V" } : Jvm.MethodName) jdk_39_method_1_code (1 : Nat) (Option.none : Option Jvm.ClassFile.FieldType)).before args0 about1 = true := code_word (m := ⟨7, 0⟩) (meth := k7m0) (c := k7c0) (by decide +kernel) rfl rfl rfl (by decide +kernel)
set_option maxRecDepth 65536 in
theorem w_c3 : (Jvm.Cond.code ({ cls := "java/util/AbstractCollection", name := "<init>", desc := "()V" } : Jvm.MethodName) jdk_22_method_1_code (1 : Nat) (Option.none : Option Jvm.ClassFile.FieldType)).before args0 about1 = true := code_word (m := ⟨4, 0⟩) (meth := k4m0) (c := k4c0) (by decide +kernel) rfl rfl rfl (by decide +kernel)
set_option maxRecDepth 65536 in
theorem w_c4 : (Jvm.Cond.code ({ cls := "java/lang/Object", name := "<init>", desc := "()V" } : Jvm.MethodName) object_method_1_code (1 : Nat) (Option.none : Option Jvm.ClassFile.FieldType)).before args0 about1 = true := code_word (m := ⟨0, 0⟩) (meth := k0m0) (c := k0c0) (by decide +kernel) rfl rfl rfl (by decide +kernel)
set_option maxRecDepth 65536 in
theorem w_c5 : (Jvm.Cond.code ({ cls := "com/example/coppice/coppice/classfile/Bytecode$Instruction", name := "<init>", desc := "(IIILjava/util/List;)V" } : Jvm.MethodName) prog_17_method_1_code (5 : Nat) (Option.none : Option Jvm.ClassFile.FieldType)).before args0 about1 = true := code_word (m := ⟨13, 0⟩) (meth := k13m0) (c := k13c0) (by decide +kernel) rfl rfl rfl (by decide +kernel)
set_option maxRecDepth 65536 in
theorem w_c6 : (Jvm.Cond.code ({ cls := "java/lang/Record", name := "<init>", desc := "()V" } : Jvm.MethodName) jdk_30_method_1_code (1 : Nat) (Option.none : Option Jvm.ClassFile.FieldType)).before args0 about1 = true := code_word (m := ⟨12, 0⟩) (meth := k12m0) (c := k12c0) (by decide +kernel) rfl rfl rfl (by decide +kernel)
set_option maxRecDepth 65536 in
theorem w_c7 : (Jvm.Cond.code ({ cls := "com/example/coppice/coppice/classfile/InstructionFallsThroughPinLaw", name := "endsFlow", desc := "(I)Z" } : Jvm.MethodName) method_2_code (1 : Nat) (Option.some Jvm.ClassFile.FieldType.boolean)).before args0 about1 = true := code_word (m := ⟨1, 1⟩) (meth := k1m1) (c := k1c1) (by decide +kernel) rfl rfl rfl (by decide +kernel)
set_option maxRecDepth 65536 in
theorem w_c8 : (Jvm.Cond.code ({ cls := "com/example/coppice/coppice/classfile/Bytecode$Instruction", name := "fallsThrough", desc := "()Z" } : Jvm.MethodName) prog_17_method_2_code (1 : Nat) (Option.some Jvm.ClassFile.FieldType.boolean)).before args0 about1 = true := code_word (m := ⟨13, 1⟩) (meth := k13m1) (c := k13c1) (by decide +kernel) rfl rfl rfl (by decide +kernel)
set_option maxRecDepth 65536 in
theorem w_c9 : (Jvm.Cond.code ({ cls := "java/lang/Integer", name := "valueOf", desc := "(I)Ljava/lang/Integer;" } : Jvm.MethodName) jdk_33_method_22_code (1 : Nat) (Option.some (Jvm.ClassFile.FieldType.object "java/lang/Integer"))).before args0 about1 = true := code_word (m := ⟨18, 0⟩) (meth := k18m0) (c := k18c0) (by decide +kernel) rfl rfl rfl (by decide +kernel)
set_option maxRecDepth 65536 in
theorem w_c10 : (Jvm.Cond.code ({ cls := "java/util/ArrayList", name := "add", desc := "(Ljava/lang/Object;)Z" } : Jvm.MethodName) jdk_38_method_25_code (2 : Nat) (Option.some Jvm.ClassFile.FieldType.boolean)).before args0 about1 = true := code_word (m := ⟨11, 4⟩) (meth := k11m4) (c := k11c4) (by decide +kernel) rfl rfl rfl (by decide +kernel)
set_option maxRecDepth 65536 in
theorem w_c11 : (Jvm.Cond.code ({ cls := "java/util/ArrayList", name := "add", desc := "(Ljava/lang/Object;[Ljava/lang/Object;I)V" } : Jvm.MethodName) jdk_38_method_24_code (4 : Nat) (Option.none : Option Jvm.ClassFile.FieldType)).before args0 about1 = true := code_word (m := ⟨11, 3⟩) (meth := k11m3) (c := k11c3) (by decide +kernel) rfl rfl rfl (by decide +kernel)
set_option maxRecDepth 65536 in
theorem w_c12 : (Jvm.Cond.code ({ cls := "java/util/ArrayList", name := "grow", desc := "()[Ljava/lang/Object;" } : Jvm.MethodName) jdk_38_method_7_code (1 : Nat) (Option.some (Jvm.ClassFile.FieldType.array (Jvm.ClassFile.FieldType.object "java/lang/Object")))).before args0 about1 = true := code_word (m := ⟨11, 2⟩) (meth := k11m2) (c := k11c2) (by decide +kernel) rfl rfl rfl (by decide +kernel)
set_option maxRecDepth 65536 in
theorem w_c13 : (Jvm.Cond.code ({ cls := "java/util/ArrayList", name := "grow", desc := "(I)[Ljava/lang/Object;" } : Jvm.MethodName) jdk_38_method_6_code (4 : Nat) (Option.some (Jvm.ClassFile.FieldType.array (Jvm.ClassFile.FieldType.object "java/lang/Object")))).before args0 about1 = true := code_word (m := ⟨11, 1⟩) (meth := k11m1) (c := k11c1) (by decide +kernel) rfl rfl rfl (by decide +kernel)
set_option maxRecDepth 65536 in
theorem w_c14 : (Jvm.Cond.code ({ cls := "java/lang/Math", name := "max", desc := "(II)I" } : Jvm.MethodName) jdk_29_method_65_code (2 : Nat) (Option.some Jvm.ClassFile.FieldType.int)).before args0 about1 = true := code_word (m := ⟨20, 1⟩) (meth := k20m1) (c := k20c1) (by decide +kernel) rfl rfl rfl (by decide +kernel)
set_option maxRecDepth 65536 in
theorem w_c15 : (Jvm.Cond.code ({ cls := "java/lang/Integer", name := "<init>", desc := "(I)V" } : Jvm.MethodName) jdk_33_method_23_code (2 : Nat) (Option.none : Option Jvm.ClassFile.FieldType)).before args0 about1 = true := code_word (m := ⟨18, 1⟩) (meth := k18m1) (c := k18c1) (by decide +kernel) rfl rfl rfl (by decide +kernel)
set_option maxRecDepth 65536 in
theorem w_c16 : (Jvm.Cond.code ({ cls := "java/lang/Number", name := "<init>", desc := "()V" } : Jvm.MethodName) jdk_18_method_1_code (1 : Nat) (Option.none : Option Jvm.ClassFile.FieldType)).before args0 about1 = true := code_word (m := ⟨14, 0⟩) (meth := k14m0) (c := k14c0) (by decide +kernel) rfl rfl rfl (by decide +kernel)
def codes1 : List Jvm.Cond := [Jvm.Cond.code x code maxLocals ret, Jvm.Cond.code ({ cls := "java/util/ArrayList", name := "<init>", desc := "()V" } : Jvm.MethodName) jdk_38_method_2_code (1 : Nat) (Option.none : Option Jvm.ClassFile.FieldType), Jvm.Cond.code ({ cls := "java/util/AbstractList", name := "<init>", desc := "()V" } : Jvm.MethodName) jdk_39_method_1_code (1 : Nat) (Option.none : Option Jvm.ClassFile.FieldType), Jvm.Cond.code ({ cls := "java/util/AbstractCollection", name := "<init>", desc := "()V" } : Jvm.MethodName) jdk_22_method_1_code (1 : Nat) (Option.none : Option Jvm.ClassFile.FieldType), Jvm.Cond.code ({ cls := "java/lang/Object", name := "<init>", desc := "()V" } : Jvm.MethodName) object_method_1_code (1 : Nat) (Option.none : Option Jvm.ClassFile.FieldType), Jvm.Cond.code ({ cls := "com/example/coppice/coppice/classfile/Bytecode$Instruction", name := "<init>", desc := "(IIILjava/util/List;)V" } : Jvm.MethodName) prog_17_method_1_code (5 : Nat) (Option.none : Option Jvm.ClassFile.FieldType), Jvm.Cond.code ({ cls := "java/lang/Record", name := "<init>", desc := "()V" } : Jvm.MethodName) jdk_30_method_1_code (1 : Nat) (Option.none : Option Jvm.ClassFile.FieldType), Jvm.Cond.code ({ cls := "com/example/coppice/coppice/classfile/InstructionFallsThroughPinLaw", name := "endsFlow", desc := "(I)Z" } : Jvm.MethodName) method_2_code (1 : Nat) (Option.some Jvm.ClassFile.FieldType.boolean), Jvm.Cond.code ({ cls := "com/example/coppice/coppice/classfile/Bytecode$Instruction", name := "fallsThrough", desc := "()Z" } : Jvm.MethodName) prog_17_method_2_code (1 : Nat) (Option.some Jvm.ClassFile.FieldType.boolean), Jvm.Cond.code ({ cls := "java/lang/Integer", name := "valueOf", desc := "(I)Ljava/lang/Integer;" } : Jvm.MethodName) jdk_33_method_22_code (1 : Nat) (Option.some (Jvm.ClassFile.FieldType.object "java/lang/Integer")), Jvm.Cond.code ({ cls := "java/util/ArrayList", name := "add", desc := "(Ljava/lang/Object;)Z" } : Jvm.MethodName) jdk_38_method_25_code (2 : Nat) (Option.some Jvm.ClassFile.FieldType.boolean), Jvm.Cond.code ({ cls := "java/util/ArrayList", name := "add", desc := "(Ljava/lang/Object;[Ljava/lang/Object;I)V" } : Jvm.MethodName) jdk_38_method_24_code (4 : Nat) (Option.none : Option Jvm.ClassFile.FieldType), Jvm.Cond.code ({ cls := "java/util/ArrayList", name := "grow", desc := "()[Ljava/lang/Object;" } : Jvm.MethodName) jdk_38_method_7_code (1 : Nat) (Option.some (Jvm.ClassFile.FieldType.array (Jvm.ClassFile.FieldType.object "java/lang/Object"))), Jvm.Cond.code ({ cls := "java/util/ArrayList", name := "grow", desc := "(I)[Ljava/lang/Object;" } : Jvm.MethodName) jdk_38_method_6_code (4 : Nat) (Option.some (Jvm.ClassFile.FieldType.array (Jvm.ClassFile.FieldType.object "java/lang/Object"))), Jvm.Cond.code ({ cls := "java/lang/Math", name := "max", desc := "(II)I" } : Jvm.MethodName) jdk_29_method_65_code (2 : Nat) (Option.some Jvm.ClassFile.FieldType.int), Jvm.Cond.code ({ cls := "java/lang/Integer", name := "<init>", desc := "(I)V" } : Jvm.MethodName) jdk_33_method_23_code (2 : Nat) (Option.none : Option Jvm.ClassFile.FieldType), Jvm.Cond.code ({ cls := "java/lang/Number", name := "<init>", desc := "()V" } : Jvm.MethodName) jdk_18_method_1_code (1 : Nat) (Option.none : Option Jvm.ClassFile.FieldType)]
set_option maxRecDepth 65536 in
theorem codes_eq : words1.filter isCode = codes1 := rfl
theorem w_codes : ∀ c ∈ words1.filter isCode, c.before args0 about1 = true := by
  rw [codes_eq]
  intro c hc
  simp only [codes1, List.mem_cons, List.not_mem_nil, or_false] at hc
  rcases hc with rfl | rfl | rfl | rfl | rfl | rfl | rfl | rfl | rfl | rfl | rfl | rfl | rfl | rfl | rfl | rfl | rfl
  · exact w_c0
  · exact w_c1
  · exact w_c2
  · exact w_c3
  · exact w_c4
  · exact w_c5
  · exact w_c6
  · exact w_c7
  · exact w_c8
  · exact w_c9
  · exact w_c10
  · exact w_c11
  · exact w_c12
  · exact w_c13
  · exact w_c14
  · exact w_c15
  · exact w_c16
set_option maxRecDepth 65536 in
theorem w_t1 : (words1.take 24).all (fun c => isCode c || c.before args0 about1) = true := by decide +kernel
set_option maxRecDepth 65536 in
theorem w_t2 : ((words1.drop 24).take 24).all (fun c => isCode c || c.before args0 about1) = true := by decide +kernel
set_option maxRecDepth 65536 in
theorem w_t3 : (((words1.drop 24).drop 24).take 24).all (fun c => isCode c || c.before args0 about1) = true := by decide +kernel
set_option maxRecDepth 65536 in
theorem w_t4 : ((((words1.drop 24).drop 24).drop 24).take 24).all (fun c => isCode c || c.before args0 about1) = true := by decide +kernel
set_option maxRecDepth 65536 in
theorem w_t5 : ((((words1.drop 24).drop 24).drop 24).drop 24).all (fun c => isCode c || c.before args0 about1) = true := by decide +kernel
theorem w_tables : (allAtoms (Jvm.Cond.code x code maxLocals ret :: tables_1)).before args0 about1 = true := by
  rw [allAtoms_all]
  show words1.all (fun c => c.before args0 about1) = true
  refine all_split ?_ w_codes
  rw [← List.take_append_drop 24 words1, List.all_append, w_t1, ← List.take_append_drop 24 (words1.drop 24), List.all_append, w_t2, ← List.take_append_drop 24 ((words1.drop 24).drop 24), List.all_append, w_t3, ← List.take_append_drop 24 (((words1.drop 24).drop 24).drop 24), List.all_append, w_t4, w_t5]
  rfl
set_option maxRecDepth 65536 in
theorem w_rest : rest_1_c.before args0 about1 = true := by decide +kernel
set_option maxRecDepth 65536 in
theorem w_case : (Jvm.Cond.and given_1 narrow_1).before args0 about1 = true := by decide +kernel
theorem w_applies : (headSpec (Jvm.Cond.code x code maxLocals ret :: tables_1) room_1).applies x e0.platform about1 = true :=
  (Spec.applies_iff w_frames).mpr ⟨w_running, w_runnable, w_alone, w_named, w_hears, w_ripe, w_room, w_tables⟩
theorem atStart : AtStart classFile x code maxLocals ret World_1 tables_1 room_1 Calls_1 rest_1 Pre_1 launch0 p0 e0 about1 theMethod args0 below0 :=
  ⟨lists_1, trivial, launch0.admits_env _ _ _, launch0.least_env, fairChoices_fair.cas, fairChoices_fair.clock, w_frames, w_args, w_heap, w_applies, trivial, w_rest, w_case⟩
end start1
theorem witness_1 : WitnessClaimed_1 := ⟨start1.p0, start1.e0, start1.about1, start1.theMethod, start1.args0, start1.below0, start1.atStart⟩
end Jvm.Pilot.@@N@@
