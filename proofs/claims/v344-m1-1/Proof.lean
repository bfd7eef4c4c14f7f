import JvmDerived
import JvmDerived.Pilot.@@N@@Statement
import JvmDerived.Pilot.@@N@@Code
set_option linter.unusedVariables false
set_option linter.unusedSimpArgs false
@@BLOCK:NumsL.lean.txt@@
namespace Jvm.OwnK
open Sem ClassFile Op Lib Jvm.Free Jvm.Stand Jvm.LawKit Jvm.RoadKit
section Base
variable {p : Program} {l : Launch} {e : Env} {R : Room} {s : State} {m : MethodId} {args : Array Value} {below : List Frame} {meth : Method} {c : Code} {T T' : State} {locs : List Loc} {cells slots : Nat} {Q : Option Value → Heap → List Loc → Prop} {kc ks : Nat} {g g' : JFrame} {Z : State} {a0 : Array Value} {h : Heap}
/-- the walk's goal: from T with g on top the invocation comes to its end, with Q -/
def Go (p : Program) (e : Env) (below : List Frame) (s T : State) (g : JFrame) (Q : Option Value → Heap → List Loc → Prop) (kc ks : Nat) : Prop :=
  ∃ s₂ o, Steps p.tables e below (T.setTop g) s₂ ∧ s₂.status = .running ∧ Ended s₂ below o ∧ ∃ v L, o = .returned v ∧ Q v s₂.heap L ∧ FrameEnd s o s₂ L kc ks
theorem Go.step (st : ∀ target, Steps p.tables e below (T'.setTop g') target → Steps p.tables e below (T.setTop g) target) (k : Go p e below s T' g' Q kc ks) : Go p e below s T g Q kc ks := by
  obtain ⟨s₂, o, h1, r⟩ := k
  exact ⟨s₂, o, st _ h1, r⟩
theorem Go.trans (st : Steps p.tables e below (T.setTop g) (T'.setTop g')) (k : Go p e below s T' g' Q kc ks) : Go p e below s T g Q kc ks := by
  obtain ⟨s₂, o, h1, r⟩ := k
  exact ⟨s₂, o, st.trans h1, r⟩
theorem Go.cast (q : g = g') (k : Go p e below s T g' Q kc ks) : Go p e below s T g Q kc ks := q ▸ k
theorem Go.out (X : Stand p l e R s m args below meth c T locs cells slots) (hlk : meth.locks = false) {v : Option Value} (hv : meth.sig.returnType = none → v = none) (hQ : Q v T.heap locs) (hc : cells ≤ kc) (hs : slots ≤ ks)
    (st : ∀ fs : List Frame, (∀ (f : JFrame) (acts : List Action), f.method = m → f.locked = none → f.entered = [] → (doReturn e (T.setTop f) acts v).1 = T.setFrames fs) → Steps p.tables e below (T.setTop g) (T.setFrames fs)) : Go p e below s T g Q kc ks := by
  obtain ⟨fs, hr, hrun, hended, hW, hsame⟩ := X.leave hv hlk
  exact ⟨_, _, st fs hr, hrun, hended, _, _, rfl, hQ, ⟨_, rfl⟩, hW, hsame.mono hc hs⟩
theorem Go.ret0 (X : Stand p l e R s m args below meth c T locs cells slots) (hx : p.tables.exec = Jvm.exec) (hlk : meth.locks = false) {pc : Nat} {Ls : Array Slot} (hret : meth.sig.returnType = none) (hd : decode c.code pc = .ok (.return_, 1)) (hc : cells ≤ kc) (hs : slots ≤ ks) (hQ : Q none T.heap locs) : Go p e below s T (mkF m pc Ls []) Q kc ks :=
  Go.out X hlk (fun _ => rfl) hQ hc hs fun fs hr => X.returnOut hx hret hd hr
theorem Go.retV (X : Stand p l e R s m args below meth c T locs cells slots) (hx : p.tables.exec = Jvm.exec) (hlk : meth.locks = false) {pc : Nat} {Ls : Array Slot} {w : Value} {t : FieldType} {i : Instr} {rest : List Value} (hret : meth.sig.returnType = some t) (hn : narrow t w = w)
    (hi : (i = .ireturn ∧ (t = .int ∨ t = .boolean ∨ t = .byte ∨ t = .char ∨ t = .short) ∧ ∃ z, w = .int z) ∨ (i = .lreturn ∧ t = .long ∧ ∃ z, w = .long z) ∨ (i = .dreturn ∧ t = .double ∧ ∃ z, w = .double z) ∨ (i = .freturn ∧ t = .float ∧ ∃ z, w = .float z) ∨ (i = .areturn ∧ t.isReference = true ∧ w.isRef = true))
    (hd : decode c.code pc = .ok (i, 1)) (hc : cells ≤ kc) (hs : slots ≤ ks) (hQ : Q (some w) T.heap locs) : Go p e below s T (mkF m pc Ls (w :: rest)) Q kc ks :=
  Go.out X hlk (fun q => by rw [hret] at q; cases q) hQ hc hs fun fs hr => retOut X hx hret hn hi hd hr
theorem Go.retI (X : Stand p l e R s m args below meth c T locs cells slots) (hx : p.tables.exec = Jvm.exec) (hlk : meth.locks = false) {pc : Nat} {Ls : Array Slot} {z : Int32} {rest : List Value} (hret : meth.sig.returnType = some .int)
    (hd : decode c.code pc = .ok (.ireturn, 1)) (hc : cells ≤ kc) (hs : slots ≤ ks) (hQ : Q (some (.int z)) T.heap locs) : Go p e below s T (mkF m pc Ls (.int z :: rest)) Q kc ks :=
  Go.retV X hx hlk hret rfl (Or.inl ⟨rfl, Or.inl rfl, z, rfl⟩) hd hc hs hQ
theorem nar_bool {z : Int32} (h : z = 0 ∨ z = 1) : narrow .boolean (.int z) = .int z := by rcases h with rfl | rfl <;> rfl
theorem Go.retZ (X : Stand p l e R s m args below meth c T locs cells slots) (hx : p.tables.exec = Jvm.exec) (hlk : meth.locks = false) {pc : Nat} {Ls : Array Slot} {z : Int32} {rest : List Value} (hret : meth.sig.returnType = some .boolean) (hz : z = 0 ∨ z = 1)
    (hd : decode c.code pc = .ok (.ireturn, 1)) (hc : cells ≤ kc) (hs : slots ≤ ks) (hQ : Q (some (.int z)) T.heap locs) : Go p e below s T (mkF m pc Ls (.int z :: rest)) Q kc ks :=
  Go.retV X hx hlk hret (nar_bool hz) (Or.inl ⟨rfl, Or.inr (Or.inl rfl), z, rfl⟩) hd hc hs hQ
theorem Go.retJ (X : Stand p l e R s m args below meth c T locs cells slots) (hx : p.tables.exec = Jvm.exec) (hlk : meth.locks = false) {pc : Nat} {Ls : Array Slot} {z : Int64} {rest : List Value} (hret : meth.sig.returnType = some .long)
    (hd : decode c.code pc = .ok (.lreturn, 1)) (hc : cells ≤ kc) (hs : slots ≤ ks) (hQ : Q (some (.long z)) T.heap locs) : Go p e below s T (mkF m pc Ls (.long z :: rest)) Q kc ks :=
  Go.retV X hx hlk hret rfl (Or.inr (Or.inl ⟨rfl, rfl, z, rfl⟩)) hd hc hs hQ
theorem Go.retR (X : Stand p l e R s m args below meth c T locs cells slots) (hx : p.tables.exec = Jvm.exec) (hlk : meth.locks = false) {pc : Nat} {Ls : Array Slot} {w : Value} {t : FieldType} {rest : List Value} (hret : meth.sig.returnType = some t) (ht : t.isReference = true) (hw : w.isRef = true)
    (hd : decode c.code pc = .ok (.areturn, 1)) (hc : cells ≤ kc) (hs : slots ≤ ks) (hQ : Q (some w) T.heap locs) : Go p e below s T (mkF m pc Ls (w :: rest)) Q kc ks :=
  Go.retV X hx hlk hret (by cases t <;> simp [narrow, FieldType.isReference] at ht ⊢) (Or.inr (Or.inr (Or.inr (Or.inr ⟨rfl, ht, hw⟩)))) hd hc hs hQ
/-- a method's contract in this text: from the heap h0, with these arguments, it returns, with Q -/
def Met (l : Launch) (Z : State) (y : MethodName) (bytes : ByteArray) (maxL : Nat) (ret : Option FieldType) (ws : List Jvm.Cond) (rm : Room) (as' : Array Value) (h0 : Heap) (Q : Option Value → Heap → List Loc → Prop) : Prop :=
  MetFree l y (head1 (Jvm.Cond.code y bytes maxL ret :: ws) rm) (fun a U => a = as' ∧ Z.Warmed39 U.vm ∧ U.heap = h0) (fun _ _ _ _ _ => True) (fun _ U o U' => ∃ v L, o = .returned v ∧ Q v U'.heap L ∧ FrameEnd U o U' L rm.cells rm.slots)
theorem Met.of {y : MethodName} {bytes : ByteArray} {maxL : Nat} {ret : Option FieldType} {ws : List Jvm.Cond} {rm : Room} {as' : Array Value} {h0 : Heap} (hpn : plainFor y = true)
    (body : ∀ (p : Program) (e : Env) (s : State) (m : MethodId) (below : List Frame) (meth : Method) (c : Code) (s₁ : State), Stand p l e rm s m as' below meth c s₁ [] 0 0 → p.tables.exec = Jvm.exec → c.code = bytes → c.maxLocals = maxL → Z.Warmed39 s.vm →
      s.vm.findClass y.cls = some m.cls → meth.name = y.name → s₁.heap = h0 → meth.sig.returnType = ret → meth.locks = false → Go p e below s s₁ (entryFrame m as' maxL) Q rm.cells rm.slots) : Met l Z y bytes maxL ret ws rm as' h0 Q := by
  refine MetFree.of_bodySF hpn hisR ?_
  intro p e s m args below meth c s₁ Bd hml0 hP hK
  obtain ⟨rfl, hZ, hh⟩ := hP
  exact body p e s m below meth c s₁ (Stand.of_body Bd) Bd.exec Bd.bytes hml0 hZ (findClass_of_methodNamed Bd.named) (name_of_methodNamed Bd.named Bd.method).1 (by rw [← hh, Bd.state]; rfl) Bd.returns Bd.notSynchronized
theorem Met.mono {y : MethodName} {bytes : ByteArray} {maxL : Nat} {ret : Option FieldType} {ws : List Jvm.Cond} {rm : Room} {as' : Array Value} {h0 : Heap} {Q' : Option Value → Heap → List Loc → Prop} (hM : Met l Z y bytes maxL ret ws rm as' h0 Q) (q : ∀ v h L, Q v h L → Q' v h L) : Met l Z y bytes maxL ret ws rm as' h0 Q' := by
  intro p e ha hc hk s m args below hf happ hP hK
  obtain ⟨n, o, h1, h2, h3, v, L, h4, h5, h6⟩ := hM p e ha hc hk s m args below hf happ hP hK
  exact ⟨n, o, h1, h2, h3, v, L, h4, q _ _ _ h5, h6⟩
/-- the call of a static method, by its contract -/
theorem Go.callS {own : String} {index : Nat} {y : MethodName} {bytes : ByteArray} {maxL : Nat} {ret : Option FieldType} {rm : Room} {argsL rest : List Value} {Q' : Option Value → Heap → List Loc → Prop} {W pc : Nat} {Ls : Array Slot} {st : List Value}
    (X : Stand p l e R s m args below meth c T locs cells slots) (hx : p.tables.exec = Jvm.exec) (hZ : Z.Warmed39 s.vm) (hown : s.vm.findClass own = some m.cls)
    (w1 : (Jvm.Cond.methodLink own index y).before a0 Z = true) (w2 : (Jvm.Cond.static y).before a0 Z = true) (w3 : (Jvm.Cond.initialized y.cls).before a0 Z = true) (w4 : (Jvm.Cond.code y bytes maxL ret).before a0 Z = true)
    (hy : y.cls ≠ "java/lang/invoke/MethodHandle" ∧ y.cls ≠ "java/lang/invoke/VarHandle") (hM : Met l Z y bytes maxL ret [] rm argsL.toArray h Q') (eT : T.heap = h)
    (hlen : ∀ sig, parseMethodDescriptor y.desc = some sig → argsL.length = sig.parameters.length) (hd : decode c.code pc = .ok (.invokestatic index, 3)) (hsize : Ls.size = c.maxLocals) (hst : st = argsL.reverse ++ rest) (hW : (rest.map fun v => v.category).sum ≤ W)
    (hf : rm.frames + 1 ≤ R.frames) (hl : W + (maxL + 11) + rm.locals ≤ R.locals) (hc : cells + rm.cells ≤ R.cells) (hs : slots + rm.slots ≤ R.slots)
    (k : ∀ v T' L, Stand p l e R s m args below meth c T' (locs ++ L) (cells + rm.cells) (slots + rm.slots) → Q' v T'.heap L → Go p e below s T' (mkF m (pc + 3) Ls (v.toList ++ rest)) Q kc ks) : Go p e below s T (mkF m pc Ls st) Q kc ks := by
  obtain ⟨v, vm₁, ⟨T1, L1, k1, n1⟩, -, X1, ⟨Lc, hQ1, l1, y1, z1⟩, st1⟩ := Jvm.LawKit.callS X hx (y := y) hown (mvT hZ w1) (mvT hZ w2) (mvT hZ w3) (mvT hZ w4) hy (backOf (W := W) hM hZ w4 w3 hf hl) (g := mkF m pc Ls st) rfl hsize (argsL := argsL) (rest := rest) hlen hst (by show 2 * 0 + _ ≤ _; omega) hd (fun _ _ => ⟨rfl, eT, hc, hs⟩)
  dsimp only [Pt.U, Pt.locs, Pt.cells, Pt.slots] at X1 l1 y1 z1 st1 hQ1
  subst l1 y1 z1
  exact Go.step st1 (k v T1 Lc X1 hQ1)
/-- the call of a constructor, by its contract -/
theorem Go.callI {own : String} {index : Nat} {y : MethodName} {bytes : ByteArray} {maxL : Nat} {rm : Room} {a : Addr} {argsL rest : List Value} {Q' : Option Value → Heap → List Loc → Prop} {W pc : Nat} {Ls : Array Slot} {st : List Value}
    (X : Stand p l e R s m args below meth c T locs cells slots) (hx : p.tables.exec = Jvm.exec) (hZ : Z.Warmed39 s.vm) (hown : s.vm.findClass own = some m.cls) (hy1 : y.name = "<init>")
    (w1 : (Jvm.Cond.methodLink own index y).before a0 Z = true) (w2 : (Jvm.Cond.instanceMethod y).before a0 Z = true) (w3 : (Jvm.Cond.initialized y.cls).before a0 Z = true) (w4 : (Jvm.Cond.code y bytes maxL none).before a0 Z = true)
    (hy : y.cls ≠ "java/lang/invoke/MethodHandle" ∧ y.cls ≠ "java/lang/invoke/VarHandle") (hM : Met l Z y bytes maxL none [] rm (.ref a :: argsL).toArray h Q') (eT : T.heap = h)
    (hlen : ∀ sig, parseMethodDescriptor y.desc = some sig → argsL.length = sig.parameters.length) (hd : decode c.code pc = .ok (.invokespecial index, 3)) (hsize : Ls.size = c.maxLocals) (hst : st = argsL.reverse ++ .ref a :: rest) (hW : (rest.map fun v => v.category).sum ≤ W)
    (hf : rm.frames + 1 ≤ R.frames) (hl : W + (maxL + 11) + rm.locals ≤ R.locals) (hc : cells + rm.cells ≤ R.cells) (hs : slots + rm.slots ≤ R.slots)
    (k : ∀ v T' L, Stand p l e R s m args below meth c T' (locs ++ L) (cells + rm.cells) (slots + rm.slots) → Q' v T'.heap L → Go p e below s T' (mkF m (pc + 3) Ls (v.toList ++ rest)) Q kc ks) : Go p e below s T (mkF m pc Ls st) Q kc ks := by
  obtain ⟨v, vm₁, ⟨T1, L1, k1, n1⟩, -, X1, ⟨Lc, hQ1, l1, y1, z1⟩, st1⟩ := X.specialBack hx (y := y) hy1 hown (mvT hZ w1) (mvT hZ w2) (mvT hZ w4) hy (backOf (W := W) hM hZ w4 w3 hf hl) (g := mkF m pc Ls st) rfl hsize (Steps.refl _) (a := a) (argsL := argsL) (rest := rest) hlen hst (by show 2 * 0 + _ ≤ _; omega) hd (fun _ _ => ⟨rfl, eT, hc, hs⟩)
  dsimp only [Pt.U, Pt.locs, Pt.cells, Pt.slots] at X1 l1 y1 z1 st1 hQ1
  subst l1 y1 z1
  exact Go.trans st1 (k v T1 Lc X1 hQ1)
/-- the call of an instance method, by its contract -/
theorem Go.callV {own C : String} {index : Nat} {y z : MethodName} {bytes : ByteArray} {maxL : Nat} {ret : Option FieldType} {rm : Room} {a : Addr} {argsL rest : List Value} {Q' : Option Value → Heap → List Loc → Prop} {W pc : Nat} {Ls : Array Slot} {st : List Value}
    (X : Stand p l e R s m args below meth c T locs cells slots) (hx : p.tables.exec = Jvm.exec) (hZ : Z.Warmed39 s.vm) (hown : s.vm.findClass own = some m.cls)
    (w1 : (Jvm.Cond.methodLink own index y).before a0 Z = true) (w2 : (Jvm.Cond.declares y).before a0 Z = true) (w5 : (Jvm.Cond.selects C y z).before a0 Z = true) (w6 : (Jvm.Cond.instanceMethod z).before a0 Z = true) (w3 : (Jvm.Cond.initialized z.cls).before a0 Z = true) (w4 : (Jvm.Cond.code z bytes maxL ret).before a0 Z = true)
    (nf : NotFace s y) (hy : y.cls ≠ "java/lang/invoke/MethodHandle" ∧ y.cls ≠ "java/lang/invoke/VarHandle") (E : Exa Z h a C) (hM : Met l Z z bytes maxL ret [] rm (.ref a :: argsL).toArray h Q') (eT : T.heap = h)
    (hlen : ∀ sig, parseMethodDescriptor y.desc = some sig → argsL.length = sig.parameters.length) (hd : decode c.code pc = .ok (.invokevirtual index, 3)) (hsize : Ls.size = c.maxLocals) (hst : st = argsL.reverse ++ .ref a :: rest) (hW : (rest.map fun v => v.category).sum ≤ W)
    (hf : rm.frames + 1 ≤ R.frames) (hl : W + (maxL + 11) + rm.locals ≤ R.locals) (hc : cells + rm.cells ≤ R.cells) (hs : slots + rm.slots ≤ R.slots)
    (k : ∀ v T' L, Stand p l e R s m args below meth c T' (locs ++ L) (cells + rm.cells) (slots + rm.slots) → Q' v T'.heap L → Go p e below s T' (mkF m (pc + 3) Ls (v.toList ++ rest)) Q kc ks) : Go p e below s T (mkF m pc Ls st) Q kc ks := by
  obtain ⟨cB, kB, q1, q2, q3⟩ := isOf hZ eT E
  obtain ⟨v, vm₁, ⟨T1, L1, k1, n1⟩, -, X1, ⟨Lc, hQ1, l1, y1, z1⟩, st1⟩ := X.virtualBack hx (y := y) (z := z) hown (mvT hZ w1) (mvT hZ w2) nf (mvT hZ w5) (mvT hZ w6) hy (backOf (W := W) hM hZ w4 w3 hf hl) q1 q3 (g := mkF m pc Ls st) rfl hsize (Steps.refl _) (argsL := argsL) (rest := rest) hlen hst (by show 2 * 0 + _ ≤ _; omega) hd (fun _ _ => ⟨rfl, eT, hc, hs⟩)
  dsimp only [Pt.U, Pt.locs, Pt.cells, Pt.slots] at X1 l1 y1 z1 st1 hQ1
  subst l1 y1 z1
  exact Go.trans st1 (k v T1 Lc X1 hQ1)
theorem Go.ldc {own : String} {index pc : Nat} {v : Int32} {Ls : Array Slot} {st : List Value} (X : Stand p l e R s m args below meth c T locs cells slots) (hx : p.tables.exec = Jvm.exec) (hZ : Z.Warmed39 s.vm) (hown : s.vm.findClass own = some m.cls) (w : (Jvm.Cond.constant own index v).before a0 Z = true) (hd : decode c.code pc = .ok (.ldc index, 2))
    (k : Go p e below s T (mkF m (pc + 2) Ls (.int v :: st)) Q kc ks) : Go p e below s T (mkF m pc Ls st) Q kc ks :=
  Go.step (fun _ => X.ldcI hx hown (mvT hZ w) (g := mkF m pc Ls st) rfl hd) k
theorem Go.ldc2 {own : String} {index pc : Nat} {v : Int64} {Ls : Array Slot} {st : List Value} (X : Stand p l e R s m args below meth c T locs cells slots) (hx : p.tables.exec = Jvm.exec) (hZ : Z.Warmed39 s.vm) (hown : s.vm.findClass own = some m.cls) (w : (Jvm.Cond.constantLong own index v).before a0 Z = true) (hd : decode c.code pc = .ok (.ldc2_w index, 3))
    (k : Go p e below s T (mkF m (pc + 3) Ls (.long v :: st)) Q kc ks) : Go p e below s T (mkF m pc Ls st) Q kc ks :=
  Go.step (fun _ => X.ldc2J hx hown (mvT hZ w) (g := mkF m pc Ls st) rfl hd) k
end Base
end Jvm.OwnK
namespace Jvm.OwnK
open Sem ClassFile Op Lib Jvm.Free Jvm.Stand Jvm.LawKit Jvm.RoadKit
section Steps
variable {p : Program} {l : Launch} {e : Env} {R : Room} {s : State} {m : MethodId} {args : Array Value} {below : List Frame} {meth : Method} {c : Code} {T T' : State} {locs : List Loc} {cells slots : Nat} {Q : Option Value → Heap → List Loc → Prop} {kc ks : Nat} {Z : State} {a0 : Array Value} {h : Heap} {pc : Nat} {Ls : Array Slot} {rest : List Value}
theorem Go.iadd {x y : Int32} (X : Stand p l e R s m args below meth c T locs cells slots) (hx : p.tables.exec = Jvm.exec) (hd : decode c.code pc = .ok (.iadd, 1)) (k : Go p e below s T (mkF m (pc + 1) Ls (.int (x + y) :: rest)) Q kc ks) : Go p e below s T (mkF m pc Ls (.int y :: .int x :: rest)) Q kc ks :=
  Go.step (fun _ => XS.iadd X.here hx (g := mkF m pc Ls (.int y :: .int x :: rest)) rfl hd rfl) k
theorem Go.isub {x y : Int32} (X : Stand p l e R s m args below meth c T locs cells slots) (hx : p.tables.exec = Jvm.exec) (hd : decode c.code pc = .ok (.isub, 1)) (k : Go p e below s T (mkF m (pc + 1) Ls (.int (x - y) :: rest)) Q kc ks) : Go p e below s T (mkF m pc Ls (.int y :: .int x :: rest)) Q kc ks :=
  Go.step (fun _ => XS.isub X.here hx (g := mkF m pc Ls (.int y :: .int x :: rest)) rfl hd rfl) k
theorem Go.iand {x y : Int32} (X : Stand p l e R s m args below meth c T locs cells slots) (hx : p.tables.exec = Jvm.exec) (hd : decode c.code pc = .ok (.iand, 1)) (k : Go p e below s T (mkF m (pc + 1) Ls (.int (x &&& y) :: rest)) Q kc ks) : Go p e below s T (mkF m pc Ls (.int y :: .int x :: rest)) Q kc ks :=
  Go.step (fun _ => XS.iand X.here hx (g := mkF m pc Ls (.int y :: .int x :: rest)) rfl hd rfl) k
theorem Go.imul {x y : Int32} (X : Stand p l e R s m args below meth c T locs cells slots) (hx : p.tables.exec = Jvm.exec) (hd : decode c.code pc = .ok (.imul, 1)) (k : Go p e below s T (mkF m (pc + 1) Ls (.int (x * y) :: rest)) Q kc ks) : Go p e below s T (mkF m pc Ls (.int y :: .int x :: rest)) Q kc ks :=
  Go.step (fun _ => XS.imul X.here hx (g := mkF m pc Ls (.int y :: .int x :: rest)) rfl hd rfl) k
theorem Go.ixor {x y : Int32} (X : Stand p l e R s m args below meth c T locs cells slots) (hx : p.tables.exec = Jvm.exec) (hd : decode c.code pc = .ok (.ixor, 1)) (k : Go p e below s T (mkF m (pc + 1) Ls (.int (x ^^^ y) :: rest)) Q kc ks) : Go p e below s T (mkF m pc Ls (.int y :: .int x :: rest)) Q kc ks :=
  Go.step (fun _ => XT.ixor X.here hx (g := mkF m pc Ls (.int y :: .int x :: rest)) rfl hd rfl) k
theorem Go.ior {x y : Int32} (X : Stand p l e R s m args below meth c T locs cells slots) (hx : p.tables.exec = Jvm.exec) (hd : decode c.code pc = .ok (.ior, 1)) (k : Go p e below s T (mkF m (pc + 1) Ls (.int (x ||| y) :: rest)) Q kc ks) : Go p e below s T (mkF m pc Ls (.int y :: .int x :: rest)) Q kc ks :=
  Go.step (fun _ => XT.ior X.here hx (g := mkF m pc Ls (.int y :: .int x :: rest)) rfl hd rfl) k
theorem Go.ishl {x y : Int32} (X : Stand p l e R s m args below meth c T locs cells slots) (hx : p.tables.exec = Jvm.exec) (hd : decode c.code pc = .ok (.ishl, 1)) (k : Go p e below s T (mkF m (pc + 1) Ls (.int (x <<< (y &&& 31)) :: rest)) Q kc ks) : Go p e below s T (mkF m pc Ls (.int y :: .int x :: rest)) Q kc ks :=
  Go.step (fun _ => XT.ishl X.here hx (g := mkF m pc Ls (.int y :: .int x :: rest)) rfl hd rfl) k
theorem Go.ishr {x y : Int32} (X : Stand p l e R s m args below meth c T locs cells slots) (hx : p.tables.exec = Jvm.exec) (hd : decode c.code pc = .ok (.ishr, 1)) (k : Go p e below s T (mkF m (pc + 1) Ls (.int (x >>> (y &&& 31)) :: rest)) Q kc ks) : Go p e below s T (mkF m pc Ls (.int y :: .int x :: rest)) Q kc ks :=
  Go.step (fun _ => XT.ishr X.here hx (g := mkF m pc Ls (.int y :: .int x :: rest)) rfl hd rfl) k
theorem Go.iushr {x y : Int32} (X : Stand p l e R s m args below meth c T locs cells slots) (hx : p.tables.exec = Jvm.exec) (hd : decode c.code pc = .ok (.iushr, 1)) (k : Go p e below s T (mkF m (pc + 1) Ls (.int (XT.ushr x y) :: rest)) Q kc ks) : Go p e below s T (mkF m pc Ls (.int y :: .int x :: rest)) Q kc ks :=
  Go.step (fun _ => XT.iushr X.here hx (g := mkF m pc Ls (.int y :: .int x :: rest)) rfl hd rfl) k
theorem Go.idiv {x y : Int32} (X : Stand p l e R s m args below meth c T locs cells slots) (hx : p.tables.exec = Jvm.exec) (hd : decode c.code pc = .ok (.idiv, 1)) (hy : y ≠ 0) (k : Go p e below s T (mkF m (pc + 1) Ls (.int (x / y) :: rest)) Q kc ks) : Go p e below s T (mkF m pc Ls (.int y :: .int x :: rest)) Q kc ks :=
  Go.step (fun _ => XS.idiv X.here hx (g := mkF m pc Ls (.int y :: .int x :: rest)) rfl hd rfl hy) k
theorem Go.irem {x y : Int32} (X : Stand p l e R s m args below meth c T locs cells slots) (hx : p.tables.exec = Jvm.exec) (hd : decode c.code pc = .ok (.irem, 1)) (hy : y ≠ 0) (k : Go p e below s T (mkF m (pc + 1) Ls (.int (x % y) :: rest)) Q kc ks) : Go p e below s T (mkF m pc Ls (.int y :: .int x :: rest)) Q kc ks :=
  Go.step (fun _ => iremM X hx (g := mkF m pc Ls (.int y :: .int x :: rest)) rfl hd rfl hy) k
theorem Go.ladd {x y : Int64} (X : Stand p l e R s m args below meth c T locs cells slots) (hx : p.tables.exec = Jvm.exec) (hd : decode c.code pc = .ok (.ladd, 1)) (k : Go p e below s T (mkF m (pc + 1) Ls (.long (x + y) :: rest)) Q kc ks) : Go p e below s T (mkF m pc Ls (.long y :: .long x :: rest)) Q kc ks :=
  Go.step (fun _ => XT.ladd X.here hx (g := mkF m pc Ls (.long y :: .long x :: rest)) rfl hd rfl) k
theorem Go.lsub {x y : Int64} (X : Stand p l e R s m args below meth c T locs cells slots) (hx : p.tables.exec = Jvm.exec) (hd : decode c.code pc = .ok (.lsub, 1)) (k : Go p e below s T (mkF m (pc + 1) Ls (.long (x - y) :: rest)) Q kc ks) : Go p e below s T (mkF m pc Ls (.long y :: .long x :: rest)) Q kc ks :=
  Go.step (fun _ => XT.lsub X.here hx (g := mkF m pc Ls (.long y :: .long x :: rest)) rfl hd rfl) k
theorem Go.lmul {x y : Int64} (X : Stand p l e R s m args below meth c T locs cells slots) (hx : p.tables.exec = Jvm.exec) (hd : decode c.code pc = .ok (.lmul, 1)) (k : Go p e below s T (mkF m (pc + 1) Ls (.long (x * y) :: rest)) Q kc ks) : Go p e below s T (mkF m pc Ls (.long y :: .long x :: rest)) Q kc ks :=
  Go.step (fun _ => XT.lmul X.here hx (g := mkF m pc Ls (.long y :: .long x :: rest)) rfl hd rfl) k
theorem Go.land {x y : Int64} (X : Stand p l e R s m args below meth c T locs cells slots) (hx : p.tables.exec = Jvm.exec) (hd : decode c.code pc = .ok (.land, 1)) (k : Go p e below s T (mkF m (pc + 1) Ls (.long (x &&& y) :: rest)) Q kc ks) : Go p e below s T (mkF m pc Ls (.long y :: .long x :: rest)) Q kc ks :=
  Go.step (fun _ => XT.land X.here hx (g := mkF m pc Ls (.long y :: .long x :: rest)) rfl hd rfl) k
theorem Go.lor {x y : Int64} (X : Stand p l e R s m args below meth c T locs cells slots) (hx : p.tables.exec = Jvm.exec) (hd : decode c.code pc = .ok (.lor, 1)) (k : Go p e below s T (mkF m (pc + 1) Ls (.long (x ||| y) :: rest)) Q kc ks) : Go p e below s T (mkF m pc Ls (.long y :: .long x :: rest)) Q kc ks :=
  Go.step (fun _ => XT.lor X.here hx (g := mkF m pc Ls (.long y :: .long x :: rest)) rfl hd rfl) k
theorem Go.lxor {x y : Int64} (X : Stand p l e R s m args below meth c T locs cells slots) (hx : p.tables.exec = Jvm.exec) (hd : decode c.code pc = .ok (.lxor, 1)) (k : Go p e below s T (mkF m (pc + 1) Ls (.long (x ^^^ y) :: rest)) Q kc ks) : Go p e below s T (mkF m pc Ls (.long y :: .long x :: rest)) Q kc ks :=
  Go.step (fun _ => XT.lxor X.here hx (g := mkF m pc Ls (.long y :: .long x :: rest)) rfl hd rfl) k
theorem Go.lcmp {x y : Int64} (X : Stand p l e R s m args below meth c T locs cells slots) (hx : p.tables.exec = Jvm.exec) (hd : decode c.code pc = .ok (.lcmp, 1)) (k : Go p e below s T (mkF m (pc + 1) Ls (.int (XT.cmpL x y) :: rest)) Q kc ks) : Go p e below s T (mkF m pc Ls (.long y :: .long x :: rest)) Q kc ks :=
  Go.step (fun _ => XT.lcmp X.here hx (g := mkF m pc Ls (.long y :: .long x :: rest)) rfl hd rfl) k
theorem Go.lshl {x : Int64} {y : Int32} (X : Stand p l e R s m args below meth c T locs cells slots) (hx : p.tables.exec = Jvm.exec) (hd : decode c.code pc = .ok (.lshl, 1)) (k : Go p e below s T (mkF m (pc + 1) Ls (.long (x <<< (y.toInt64 &&& 63)) :: rest)) Q kc ks) : Go p e below s T (mkF m pc Ls (.int y :: .long x :: rest)) Q kc ks :=
  Go.step (fun _ => XT.lshl X.here hx (g := mkF m pc Ls (.int y :: .long x :: rest)) rfl hd rfl) k
theorem Go.lshr {x : Int64} {y : Int32} (X : Stand p l e R s m args below meth c T locs cells slots) (hx : p.tables.exec = Jvm.exec) (hd : decode c.code pc = .ok (.lshr, 1)) (k : Go p e below s T (mkF m (pc + 1) Ls (.long (x >>> (y.toInt64 &&& 63)) :: rest)) Q kc ks) : Go p e below s T (mkF m pc Ls (.int y :: .long x :: rest)) Q kc ks :=
  Go.step (fun _ => XT.lshr X.here hx (g := mkF m pc Ls (.int y :: .long x :: rest)) rfl hd rfl) k
theorem Go.lushr {x : Int64} {y : Int32} (X : Stand p l e R s m args below meth c T locs cells slots) (hx : p.tables.exec = Jvm.exec) (hd : decode c.code pc = .ok (.lushr, 1)) (k : Go p e below s T (mkF m (pc + 1) Ls (.long (XT.ushrL x y) :: rest)) Q kc ks) : Go p e below s T (mkF m pc Ls (.int y :: .long x :: rest)) Q kc ks :=
  Go.step (fun _ => XT.lushr X.here hx (g := mkF m pc Ls (.int y :: .long x :: rest)) rfl hd rfl) k
theorem Go.i2b {x : Int32} (X : Stand p l e R s m args below meth c T locs cells slots) (hx : p.tables.exec = Jvm.exec) (hd : decode c.code pc = .ok (.i2b, 1)) (k : Go p e below s T (mkF m (pc + 1) Ls (.int (x.toInt8.toInt32) :: rest)) Q kc ks) : Go p e below s T (mkF m pc Ls (.int x :: rest)) Q kc ks :=
  Go.step (fun _ => XT.i2b X.here hx (g := mkF m pc Ls (.int x :: rest)) rfl hd rfl) k
theorem Go.i2c {x : Int32} (X : Stand p l e R s m args below meth c T locs cells slots) (hx : p.tables.exec = Jvm.exec) (hd : decode c.code pc = .ok (.i2c, 1)) (k : Go p e below s T (mkF m (pc + 1) Ls (.int (x.toUInt32.toUInt16.toUInt32.toInt32) :: rest)) Q kc ks) : Go p e below s T (mkF m pc Ls (.int x :: rest)) Q kc ks :=
  Go.step (fun _ => XT.i2c X.here hx (g := mkF m pc Ls (.int x :: rest)) rfl hd rfl) k
theorem Go.i2s {x : Int32} (X : Stand p l e R s m args below meth c T locs cells slots) (hx : p.tables.exec = Jvm.exec) (hd : decode c.code pc = .ok (.i2s, 1)) (k : Go p e below s T (mkF m (pc + 1) Ls (.int (x.toInt16.toInt32) :: rest)) Q kc ks) : Go p e below s T (mkF m pc Ls (.int x :: rest)) Q kc ks :=
  Go.step (fun _ => XT.i2s X.here hx (g := mkF m pc Ls (.int x :: rest)) rfl hd rfl) k
theorem Go.i2l {x : Int32} (X : Stand p l e R s m args below meth c T locs cells slots) (hx : p.tables.exec = Jvm.exec) (hd : decode c.code pc = .ok (.i2l, 1)) (k : Go p e below s T (mkF m (pc + 1) Ls (.long (x.toInt64) :: rest)) Q kc ks) : Go p e below s T (mkF m pc Ls (.int x :: rest)) Q kc ks :=
  Go.step (fun _ => XT.i2l X.here hx (g := mkF m pc Ls (.int x :: rest)) rfl hd rfl) k
theorem Go.ineg {x : Int32} (X : Stand p l e R s m args below meth c T locs cells slots) (hx : p.tables.exec = Jvm.exec) (hd : decode c.code pc = .ok (.ineg, 1)) (k : Go p e below s T (mkF m (pc + 1) Ls (.int (-x) :: rest)) Q kc ks) : Go p e below s T (mkF m pc Ls (.int x :: rest)) Q kc ks :=
  Go.step (fun _ => XS.ineg X.here hx (g := mkF m pc Ls (.int x :: rest)) rfl hd rfl) k
theorem Go.l2i {x : Int64} (X : Stand p l e R s m args below meth c T locs cells slots) (hx : p.tables.exec = Jvm.exec) (hd : decode c.code pc = .ok (.l2i, 1)) (k : Go p e below s T (mkF m (pc + 1) Ls (.int (x.toInt32) :: rest)) Q kc ks) : Go p e below s T (mkF m pc Ls (.long x :: rest)) Q kc ks :=
  Go.step (fun _ => XT.l2i X.here hx (g := mkF m pc Ls (.long x :: rest)) rfl hd rfl) k
theorem Go.iconst {i : Int} (X : Stand p l e R s m args below meth c T locs cells slots) (hx : p.tables.exec = Jvm.exec) (hd : decode c.code pc = .ok (.iconst i, 1)) (k : Go p e below s T (mkF m (pc + 1) Ls (.int (Int32.ofInt i) :: rest)) Q kc ks) : Go p e below s T (mkF m pc Ls rest) Q kc ks :=
  Go.step (fun _ => XS.iconst X.here hx (g := mkF m pc Ls rest) rfl hd) k
theorem Go.bipush {i : Int} (X : Stand p l e R s m args below meth c T locs cells slots) (hx : p.tables.exec = Jvm.exec) (hd : decode c.code pc = .ok (.bipush i, 2)) (k : Go p e below s T (mkF m (pc + 2) Ls (.int (Int8.ofInt i).toInt32 :: rest)) Q kc ks) : Go p e below s T (mkF m pc Ls rest) Q kc ks :=
  Go.step (fun _ => XS.bipush X.here hx (g := mkF m pc Ls rest) rfl hd) k
theorem Go.sipush {i : Int} (X : Stand p l e R s m args below meth c T locs cells slots) (hx : p.tables.exec = Jvm.exec) (hd : decode c.code pc = .ok (.sipush i, 3)) (k : Go p e below s T (mkF m (pc + 3) Ls (.int (Int16.ofInt i).toInt32 :: rest)) Q kc ks) : Go p e below s T (mkF m pc Ls rest) Q kc ks :=
  Go.step (fun _ => XS.sipush X.here hx (g := mkF m pc Ls rest) rfl hd) k
theorem Go.lconst {k0 : Fin 2} (X : Stand p l e R s m args below meth c T locs cells slots) (hx : p.tables.exec = Jvm.exec) (hd : decode c.code pc = .ok (.lconst k0, 1)) (k : Go p e below s T (mkF m (pc + 1) Ls (.long (Int64.ofNat k0) :: rest)) Q kc ks) : Go p e below s T (mkF m pc Ls rest) Q kc ks :=
  Go.step (fun _ => XT.lconst X.here hx (g := mkF m pc Ls rest) rfl hd) k
theorem Go.aconst_null (X : Stand p l e R s m args below meth c T locs cells slots) (hx : p.tables.exec = Jvm.exec) (hd : decode c.code pc = .ok (.aconst_null, 1)) (k : Go p e below s T (mkF m (pc + 1) Ls (.null :: rest)) Q kc ks) : Go p e below s T (mkF m pc Ls rest) Q kc ks :=
  Go.step (fun _ => XS.aconstNull X.here hx (g := mkF m pc Ls rest) rfl hd) k
theorem Go.iload {k0 : Nat} {v : Int32} (X : Stand p l e R s m args below meth c T locs cells slots) (hx : p.tables.exec = Jvm.exec) (hd : decode c.code pc = .ok (.iload k0, 2)) (hl : Ls[k0]? = some (.val (.int v))) (k : Go p e below s T (mkF m (pc + 2) Ls (.int v :: rest)) Q kc ks) : Go p e below s T (mkF m pc Ls rest) Q kc ks :=
  Go.step (fun _ => XS.iload X.here hx (g := mkF m pc Ls rest) rfl hd hl) k
theorem Go.iloadN {k0 : Fin 4} {v : Int32} (X : Stand p l e R s m args below meth c T locs cells slots) (hx : p.tables.exec = Jvm.exec) (hd : decode c.code pc = .ok (.iload_n k0, 1)) (hl : Ls[k0.val]? = some (.val (.int v))) (k : Go p e below s T (mkF m (pc + 1) Ls (.int v :: rest)) Q kc ks) : Go p e below s T (mkF m pc Ls rest) Q kc ks :=
  Go.step (fun _ => XS.iloadN X.here hx (g := mkF m pc Ls rest) rfl hd hl) k
theorem Go.istore {k0 : Nat} {v : Int32} {l' : Array Slot} (X : Stand p l e R s m args below meth c T locs cells slots) (hx : p.tables.exec = Jvm.exec) (hd : decode c.code pc = .ok (.istore k0, 2)) (hl : storeLocals Ls k0 (.int v) = some l') (k : Go p e below s T (mkF m (pc + 2) l' rest) Q kc ks) : Go p e below s T (mkF m pc Ls (.int v :: rest)) Q kc ks :=
  Go.step (fun _ => XS.istore X.here hx (g := mkF m pc Ls (.int v :: rest)) rfl hd rfl hl) k
theorem Go.istoreN {k0 : Fin 4} {v : Int32} {l' : Array Slot} (X : Stand p l e R s m args below meth c T locs cells slots) (hx : p.tables.exec = Jvm.exec) (hd : decode c.code pc = .ok (.istore_n k0, 1)) (hl : storeLocals Ls k0.val (.int v) = some l') (k : Go p e below s T (mkF m (pc + 1) l' rest) Q kc ks) : Go p e below s T (mkF m pc Ls (.int v :: rest)) Q kc ks :=
  Go.step (fun _ => XS.istoreN X.here hx (g := mkF m pc Ls (.int v :: rest)) rfl hd rfl hl) k
theorem Go.lload {k0 : Nat} {v : Int64} (X : Stand p l e R s m args below meth c T locs cells slots) (hx : p.tables.exec = Jvm.exec) (hd : decode c.code pc = .ok (.lload k0, 2)) (hl : Ls[k0]? = some (.val (.long v))) (k : Go p e below s T (mkF m (pc + 2) Ls (.long v :: rest)) Q kc ks) : Go p e below s T (mkF m pc Ls rest) Q kc ks :=
  Go.step (fun _ => XT.lload X.here hx (g := mkF m pc Ls rest) rfl hd hl) k
theorem Go.lloadN {k0 : Fin 4} {v : Int64} (X : Stand p l e R s m args below meth c T locs cells slots) (hx : p.tables.exec = Jvm.exec) (hd : decode c.code pc = .ok (.lload_n k0, 1)) (hl : Ls[k0.val]? = some (.val (.long v))) (k : Go p e below s T (mkF m (pc + 1) Ls (.long v :: rest)) Q kc ks) : Go p e below s T (mkF m pc Ls rest) Q kc ks :=
  Go.step (fun _ => XT.lloadN X.here hx (g := mkF m pc Ls rest) rfl hd hl) k
theorem Go.lstore {k0 : Nat} {v : Int64} {l' : Array Slot} (X : Stand p l e R s m args below meth c T locs cells slots) (hx : p.tables.exec = Jvm.exec) (hd : decode c.code pc = .ok (.lstore k0, 2)) (hl : storeLocals Ls k0 (.long v) = some l') (k : Go p e below s T (mkF m (pc + 2) l' rest) Q kc ks) : Go p e below s T (mkF m pc Ls (.long v :: rest)) Q kc ks :=
  Go.step (fun _ => XT.lstore X.here hx (g := mkF m pc Ls (.long v :: rest)) rfl hd rfl hl) k
theorem Go.lstoreN {k0 : Fin 4} {v : Int64} {l' : Array Slot} (X : Stand p l e R s m args below meth c T locs cells slots) (hx : p.tables.exec = Jvm.exec) (hd : decode c.code pc = .ok (.lstore_n k0, 1)) (hl : storeLocals Ls k0.val (.long v) = some l') (k : Go p e below s T (mkF m (pc + 1) l' rest) Q kc ks) : Go p e below s T (mkF m pc Ls (.long v :: rest)) Q kc ks :=
  Go.step (fun _ => XT.lstoreN X.here hx (g := mkF m pc Ls (.long v :: rest)) rfl hd rfl hl) k
theorem Go.aload {k0 : Nat} {v : Value} (X : Stand p l e R s m args below meth c T locs cells slots) (hx : p.tables.exec = Jvm.exec) (hd : decode c.code pc = .ok (.aload k0, 2)) (hl : Ls[k0]? = some (.val v)) (hv : v.isRef = true) (k : Go p e below s T (mkF m (pc + 2) Ls (v :: rest)) Q kc ks) : Go p e below s T (mkF m pc Ls rest) Q kc ks :=
  Go.step (fun _ => XS.aload X.here hx (g := mkF m pc Ls rest) rfl hd hl hv) k
theorem Go.aloadN {k0 : Fin 4} {v : Value} (X : Stand p l e R s m args below meth c T locs cells slots) (hx : p.tables.exec = Jvm.exec) (hd : decode c.code pc = .ok (.aload_n k0, 1)) (hl : Ls[k0.val]? = some (.val v)) (hv : v.isRef = true) (k : Go p e below s T (mkF m (pc + 1) Ls (v :: rest)) Q kc ks) : Go p e below s T (mkF m pc Ls rest) Q kc ks :=
  Go.step (fun _ => XS.aloadN X.here hx (g := mkF m pc Ls rest) rfl hd hl hv) k
theorem Go.astore {k0 : Nat} {v : Value} {l' : Array Slot} (X : Stand p l e R s m args below meth c T locs cells slots) (hx : p.tables.exec = Jvm.exec) (hd : decode c.code pc = .ok (.astore k0, 2)) (hv : v.isRef = true) (hl : storeLocals Ls k0 v = some l') (k : Go p e below s T (mkF m (pc + 2) l' rest) Q kc ks) : Go p e below s T (mkF m pc Ls (v :: rest)) Q kc ks :=
  Go.step (fun _ => XS.astore X.here hx (g := mkF m pc Ls (v :: rest)) rfl hd rfl hv hl) k
theorem Go.astoreN {k0 : Fin 4} {v : Value} {l' : Array Slot} (X : Stand p l e R s m args below meth c T locs cells slots) (hx : p.tables.exec = Jvm.exec) (hd : decode c.code pc = .ok (.astore_n k0, 1)) (hv : v.isRef = true) (hl : storeLocals Ls k0.val v = some l') (k : Go p e below s T (mkF m (pc + 1) l' rest) Q kc ks) : Go p e below s T (mkF m pc Ls (v :: rest)) Q kc ks :=
  Go.step (fun _ => XS.astoreN X.here hx (g := mkF m pc Ls (v :: rest)) rfl hd rfl hv hl) k
theorem Go.iinc {k0 : Nat} {cst : Int} {x : Int32} {l' : Array Slot} (X : Stand p l e R s m args below meth c T locs cells slots) (hx : p.tables.exec = Jvm.exec) (hd : decode c.code pc = .ok (.iinc k0 cst, 3)) (hl : Ls[k0]? = some (.val (.int x))) (hs : storeLocals Ls k0 (.int (x + Int32.ofInt cst)) = some l') (k : Go p e below s T (mkF m (pc + 3) l' rest) Q kc ks) : Go p e below s T (mkF m pc Ls rest) Q kc ks :=
  Go.step (fun _ => XS.iinc X.here hx (g := mkF m pc Ls rest) rfl hd hl hs) k
theorem Go.dup {v : Value} (X : Stand p l e R s m args below meth c T locs cells slots) (hx : p.tables.exec = Jvm.exec) (hd : decode c.code pc = .ok (.dup, 1)) (hv : v.category = 1) (k : Go p e below s T (mkF m (pc + 1) Ls (v :: v :: rest)) Q kc ks) : Go p e below s T (mkF m pc Ls (v :: rest)) Q kc ks :=
  Go.step (fun _ => XS.dup X.here hx (g := mkF m pc Ls (v :: rest)) rfl hd rfl hv) k
theorem Go.pop {v : Value} (X : Stand p l e R s m args below meth c T locs cells slots) (hx : p.tables.exec = Jvm.exec) (hd : decode c.code pc = .ok (.pop, 1)) (hv : v.category = 1) (k : Go p e below s T (mkF m (pc + 1) Ls rest) Q kc ks) : Go p e below s T (mkF m pc Ls (v :: rest)) Q kc ks :=
  Go.step (fun _ => XT.pop X.here hx (g := mkF m pc Ls (v :: rest)) rfl hd rfl hv) k
theorem Go.dup_x1 {v w : Value} (X : Stand p l e R s m args below meth c T locs cells slots) (hx : p.tables.exec = Jvm.exec) (hd : decode c.code pc = .ok (.dup_x1, 1)) (hv : v.category = 1) (hw' : w.category = 1) (k : Go p e below s T (mkF m (pc + 1) Ls (v :: w :: v :: rest)) Q kc ks) : Go p e below s T (mkF m pc Ls (v :: w :: rest)) Q kc ks :=
  Go.step (fun _ => XT.dupX1 X.here hx (g := mkF m pc Ls (v :: w :: rest)) rfl hd rfl hv hw') k
theorem Go.dup2 {v w : Value} (X : Stand p l e R s m args below meth c T locs cells slots) (hx : p.tables.exec = Jvm.exec) (hd : decode c.code pc = .ok (.dup2, 1)) (hv : v.category = 1) (hw' : w.category = 1) (k : Go p e below s T (mkF m (pc + 1) Ls (v :: w :: v :: w :: rest)) Q kc ks) : Go p e below s T (mkF m pc Ls (v :: w :: rest)) Q kc ks :=
  Go.step (fun _ => XT.dup2 X.here hx (g := mkF m pc Ls (v :: w :: rest)) rfl hd rfl hv hw') k
theorem Go.goto {o : Int} {pc' : Nat} (X : Stand p l e R s m args below meth c T locs cells slots) (hx : p.tables.exec = Jvm.exec) (hd : decode c.code pc = .ok (.goto o, 3)) (ho : 0 ≤ (pc : Int) + o) (hp : ((pc : Int) + o).toNat = pc') (k : Go p e below s T (mkF m pc' Ls rest) Q kc ks) : Go p e below s T (mkF m pc Ls rest) Q kc ks :=
  Go.step (fun _ => XS.goto X.here hx (g := mkF m pc Ls rest) rfl rfl hd ho hp) k
theorem Go.ifYes {cd : ClassFile.Cond} {x : Int32} {o : Int} {pc' : Nat} (X : Stand p l e R s m args below meth c T locs cells slots) (hx : p.tables.exec = Jvm.exec) (hd : decode c.code pc = .ok (.ifCond cd o, 3)) (hc : ifCond.holds cd x = true) (ho : 0 ≤ (pc : Int) + o) (hp : ((pc : Int) + o).toNat = pc') (k : Go p e below s T (mkF m pc' Ls rest) Q kc ks) : Go p e below s T (mkF m pc Ls (.int x :: rest)) Q kc ks :=
  Go.step (fun _ => XS.ifYes X.here hx (g := mkF m pc Ls (.int x :: rest)) rfl rfl hd rfl hc ho hp) k
theorem Go.ifNo {cd : ClassFile.Cond} {x : Int32} {o : Int} (X : Stand p l e R s m args below meth c T locs cells slots) (hx : p.tables.exec = Jvm.exec) (hd : decode c.code pc = .ok (.ifCond cd o, 3)) (hc : ifCond.holds cd x = false) (k : Go p e below s T (mkF m (pc + 3) Ls rest) Q kc ks) : Go p e below s T (mkF m pc Ls (.int x :: rest)) Q kc ks :=
  Go.step (fun _ => XS.ifNo X.here hx (g := mkF m pc Ls (.int x :: rest)) rfl hd rfl hc) k
theorem Go.icmpYes {cd : ClassFile.Cond} {x y : Int32} {o : Int} {pc' : Nat} (X : Stand p l e R s m args below meth c T locs cells slots) (hx : p.tables.exec = Jvm.exec) (hd : decode c.code pc = .ok (.if_icmp cd o, 3)) (hc : if_icmp.holds cd x y = true) (ho : 0 ≤ (pc : Int) + o) (hp : ((pc : Int) + o).toNat = pc') (k : Go p e below s T (mkF m pc' Ls rest) Q kc ks) : Go p e below s T (mkF m pc Ls (.int y :: .int x :: rest)) Q kc ks :=
  Go.step (fun _ => XS.icmpYes X.here hx (g := mkF m pc Ls (.int y :: .int x :: rest)) rfl rfl hd rfl hc ho hp) k
theorem Go.icmpNo {cd : ClassFile.Cond} {x y : Int32} {o : Int} (X : Stand p l e R s m args below meth c T locs cells slots) (hx : p.tables.exec = Jvm.exec) (hd : decode c.code pc = .ok (.if_icmp cd o, 3)) (hc : if_icmp.holds cd x y = false) (k : Go p e below s T (mkF m (pc + 3) Ls rest) Q kc ks) : Go p e below s T (mkF m pc Ls (.int y :: .int x :: rest)) Q kc ks :=
  Go.step (fun _ => XS.icmpNo X.here hx (g := mkF m pc Ls (.int y :: .int x :: rest)) rfl hd rfl hc) k
theorem Go.acmpYes {cd : ClassFile.ACond} {x y : Value} {o : Int} {pc' : Nat} (X : Stand p l e R s m args below meth c T locs cells slots) (hx : p.tables.exec = Jvm.exec) (hd : decode c.code pc = .ok (.if_acmp cd o, 3)) (h1 : x.isRef = true) (h2 : y.isRef = true) (hc : XT.acmp cd x y = true) (ho : 0 ≤ (pc : Int) + o) (hp : ((pc : Int) + o).toNat = pc') (k : Go p e below s T (mkF m pc' Ls rest) Q kc ks) : Go p e below s T (mkF m pc Ls (y :: x :: rest)) Q kc ks :=
  Go.step (fun _ => XT.acmpYes X.here hx (g := mkF m pc Ls (y :: x :: rest)) rfl rfl hd rfl h1 h2 hc ho hp) k
theorem Go.acmpNo {cd : ClassFile.ACond} {x y : Value} {o : Int} (X : Stand p l e R s m args below meth c T locs cells slots) (hx : p.tables.exec = Jvm.exec) (hd : decode c.code pc = .ok (.if_acmp cd o, 3)) (h1 : x.isRef = true) (h2 : y.isRef = true) (hc : XT.acmp cd x y = false) (k : Go p e below s T (mkF m (pc + 3) Ls rest) Q kc ks) : Go p e below s T (mkF m pc Ls (y :: x :: rest)) Q kc ks :=
  Go.step (fun _ => XT.acmpNo X.here hx (g := mkF m pc Ls (y :: x :: rest)) rfl hd rfl h1 h2 hc) k
theorem Go.ifnullYes {a : Addr} {o : Int} {pc' : Nat} (X : Stand p l e R s m args below meth c T locs cells slots) (hx : p.tables.exec = Jvm.exec) (hd : decode c.code pc = .ok (.ifnull o, 3)) (ho : 0 ≤ (pc : Int) + o) (hp : ((pc : Int) + o).toNat = pc') (k : Go p e below s T (mkF m pc' Ls rest) Q kc ks) : Go p e below s T (mkF m pc Ls (.null :: rest)) Q kc ks :=
  Go.step (fun _ => XS.ifnullYes X.here hx (g := mkF m pc Ls (.null :: rest)) rfl rfl hd rfl ho hp) k
theorem Go.ifnullNo {a : Addr} {o : Int} (X : Stand p l e R s m args below meth c T locs cells slots) (hx : p.tables.exec = Jvm.exec) (hd : decode c.code pc = .ok (.ifnull o, 3)) (k : Go p e below s T (mkF m (pc + 3) Ls rest) Q kc ks) : Go p e below s T (mkF m pc Ls (.ref a :: rest)) Q kc ks :=
  Go.step (fun _ => XS.ifnullNo X.here hx (g := mkF m pc Ls (.ref a :: rest)) rfl hd rfl) k
theorem Go.ifnonnullYes {a : Addr} {o : Int} {pc' : Nat} (X : Stand p l e R s m args below meth c T locs cells slots) (hx : p.tables.exec = Jvm.exec) (hd : decode c.code pc = .ok (.ifnonnull o, 3)) (ho : 0 ≤ (pc : Int) + o) (hp : ((pc : Int) + o).toNat = pc') (k : Go p e below s T (mkF m pc' Ls rest) Q kc ks) : Go p e below s T (mkF m pc Ls (.ref a :: rest)) Q kc ks :=
  Go.step (fun _ => XT.ifnonnullYes X.here hx (g := mkF m pc Ls (.ref a :: rest)) rfl rfl hd rfl ho hp) k
theorem Go.ifnonnullNo {a : Addr} {o : Int} (X : Stand p l e R s m args below meth c T locs cells slots) (hx : p.tables.exec = Jvm.exec) (hd : decode c.code pc = .ok (.ifnonnull o, 3)) (k : Go p e below s T (mkF m (pc + 3) Ls rest) Q kc ks) : Go p e below s T (mkF m pc Ls (.null :: rest)) Q kc ks :=
  Go.step (fun _ => XT.ifnonnullNo X.here hx (g := mkF m pc Ls (.null :: rest)) rfl hd rfl) k
end Steps
section Conds
variable {x y : Int32} {u v : Int64} {a b : Addr}
theorem ac_eq_p (h : a = b) : XT.acmp .eq (.ref a) (.ref b) = true := by simp [XT.acmp, h]
theorem ac_eq_n (h : ¬ a = b) : XT.acmp .eq (.ref a) (.ref b) = false := by simp [XT.acmp, h]
theorem ac_ne_p (h : a = b) : XT.acmp .ne (.ref a) (.ref b) = false := by simp [XT.acmp, h]
theorem ac_ne_n (h : ¬ a = b) : XT.acmp .ne (.ref a) (.ref b) = true := by simp [XT.acmp, h]
end Conds
end Jvm.OwnK
namespace Jvm.OwnK
open Sem ClassFile Op Lib Jvm.Free Jvm.Stand Jvm.LawKit Jvm.RoadKit
section Heap
variable {p : Program} {l : Launch} {e : Env} {R : Room} {s : State} {m : MethodId} {args : Array Value} {below : List Frame} {meth : Method} {c : Code} {T T' : State} {locs : List Loc} {cells slots : Nat} {Q : Option Value → Heap → List Loc → Prop} {kc ks : Nat} {Z : State} {a0 : Array Value} {h h' : Heap} {pc : Nat} {Ls : Array Slot} {rest : List Value}
theorem Go.getF {own R0 O n d : String} {index : Nat} {a : Addr} {v : Value} (X : Stand p l e R s m args below meth c T locs cells slots) (hx : p.tables.exec = Jvm.exec) (hZ : Z.Warmed39 s.vm) (hown : s.vm.findClass own = some m.cls) (w : (Jvm.Cond.fieldLink own index R0 n d).before a0 Z = true) (via : Via Z R0 O n d) (eT : T.heap = h) (F : Fld Z h a O n d v) (hd : decode c.code pc = .ok (.getfield index, 3))
    (k : ∀ T', Stand p l e R s m args below meth c T' locs cells slots → T'.heap = h → Go p e below s T' (mkF m (pc + 3) Ls (v :: rest)) Q kc ks) : Go p e below s T (mkF m pc Ls (.ref a :: rest)) Q kc ks := by
  obtain ⟨T', X', e', st⟩ := RoadKit.getF X hx hZ hown (host := "") (Or.inl w) via eT F (g := mkF m pc Ls (.ref a :: rest)) rfl rfl hd
  exact Go.step st (k T' X' e')
theorem Go.getS {own R0 O n d : String} {index : Nat} {v : Value} (X : Stand p l e R s m args below meth c T locs cells slots) (hx : p.tables.exec = Jvm.exec) (hZ : Z.Warmed39 s.vm) (hown : s.vm.findClass own = some m.cls) (w : (Jvm.Cond.fieldLink own index R0 n d).before a0 Z = true) (via : Via Z R0 O n d) (eT : T.heap = h) (F : Sta Z h O n d v) (hd : decode c.code pc = .ok (.getstatic index, 3))
    (k : ∀ T', Stand p l e R s m args below meth c T' locs cells slots → T'.heap = h → Go p e below s T' (mkF m (pc + 3) Ls (v :: rest)) Q kc ks) : Go p e below s T (mkF m pc Ls rest) Q kc ks := by
  obtain ⟨T', X', e', st⟩ := RoadKit.getS X hx hZ hown (host := "") w via eT F (g := mkF m pc Ls rest) rfl hd
  exact Go.step st (k T' X' e')
theorem Go.putF {own R0 O n d C : String} {index kk : Nat} {ty : FieldType} {a : Addr} {v old : Value} (X : Stand p l e R s m args below meth c T locs cells slots) (hx : p.tables.exec = Jvm.exec) (hZ : Z.Warmed39 s.vm) (hown : s.vm.findClass own = some m.cls) (w : (Jvm.Cond.fieldLink own index R0 n d).before a0 Z = true) (via : Via Z R0 O n d) (eT : T.heap = h) (F : Fld Z h a O n d old) (E : Exa Z h a C)
    (L : (Jvm.Cond.lays C O n d).before a0 Z = true ∨ ((Jvm.Cond.laysFinal C O n d).before a0 Z = true ∧ own = O ∧ meth.name = "<init>")) (wi : (Jvm.Cond.instantiable C kk).before a0 Z = true) (hty : parseFieldDescriptor d = some ty) (hn : narrow ty v = v) (hf : fits ty v = true) (hd : decode c.code pc = .ok (.putfield index, 3))
    (k : ∀ T' h', Stand p l e R s m args below meth c T' (locs ++ [⟨a, Jvm.RoadKit.slotOf Z O n d⟩]) cells slots → T'.heap = h' → Wr h h' a (Jvm.RoadKit.slotOf Z O n d) v → Go p e below s T' (mkF m (pc + 3) Ls rest) Q kc ks) : Go p e below s T (mkF m pc Ls (v :: .ref a :: rest)) Q kc ks := by
  obtain ⟨T', h', X', e', W, st⟩ := RoadKit.putF X hx hZ hown (host := "") (Or.inl w) via eT F E L wi hty hn hf (g := mkF m pc Ls (v :: .ref a :: rest)) rfl rfl hd
  exact Go.step st (k T' h' X' e' W)
theorem Go.initO {own : String} {idx : Nat} {W : Nat} {a : Addr} (X : Stand p l e R s m args below meth c T locs cells slots) (hx : p.tables.exec = Jvm.exec) (hZ : Z.Warmed39 s.vm) (hown : s.vm.findClass own = some m.cls) (w1 : (Jvm.Cond.methodLink own idx Lib.objectInit).before a0 Z = true) (w2 : (Jvm.Cond.instanceMethod Lib.objectInit).before a0 Z = true)
    (w3 : (Jvm.Cond.code Lib.objectInit ⟨#[0xb1]⟩ 1 none).before a0 Z = true) (eT : T.heap = h) (hd : decode c.code pc = .ok (.invokespecial idx, 3)) (hsize : Ls.size = c.maxLocals) (hW : (rest.map fun v => v.category).sum ≤ W) (hf : 1 ≤ R.frames) (hl : W + 12 ≤ R.locals)
    (k : ∀ T', Stand p l e R s m args below meth c T' locs cells slots → T'.heap = h → Go p e below s T' (mkF m (pc + 3) Ls rest) Q kc ks) : Go p e below s T (mkF m pc Ls (.ref a :: rest)) Q kc ks := by
  obtain ⟨T', X', e', st⟩ := RoadKit.initO X hx hZ hown w1 w2 w3 eT (g := mkF m pc Ls (.ref a :: rest)) rfl hsize rfl hd hf (W := W) (by show 2 * 0 + _ ≤ _; omega) hl
  exact Go.step st (k T' X' e')
theorem Go.newO {own C : String} {index n : Nat} (X : Stand p l e R s m args below meth c T locs cells slots) (hx : p.tables.exec = Jvm.exec) (hZ : Z.Warmed39 s.vm) (hown : s.vm.findClass own = some m.cls) (w : (Jvm.Cond.classLink own index C).before a0 Z = true) (wi : (Jvm.Cond.instantiable C n).before a0 Z = true) (wz : (Jvm.Cond.initialized C).before a0 Z = true) (eT : T.heap = h)
    (hd : decode c.code pc = .ok (.new index, 3)) (hc : cells + 1 ≤ R.cells) (hl : slots + n ≤ R.slots)
    (k : ∀ T' h' a, a = h.size → Stand p l e R s m args below meth c T' locs (cells + 1) (slots + n) → T'.heap = h' → Ext h h' → Exa Z h' a C → (∀ {O nm d : String} {ty : FieldType}, Laid Z a0 C O nm d → parseFieldDescriptor d = some ty → Fld Z h' a O nm d (defaultValue ty)) →
      Go p e below s T' (mkF m (pc + 3) Ls (.ref a :: rest)) Q kc ks) : Go p e below s T (mkF m pc Ls rest) Q kc ks := by
  obtain ⟨T', h', X', e', E, A, D, -, st⟩ := RoadKit.newO X hx hZ hown w wi wz eT (g := mkF m pc Ls rest) rfl hd hc hl
  exact Go.step st (k T' h' _ rfl X' e' E A D)
theorem Go.ccast {own K : String} {index : Nat} {a : Addr} (X : Stand p l e R s m args below meth c T locs cells slots) (hx : p.tables.exec = Jvm.exec) (hZ : Z.Warmed39 s.vm) (hown : s.vm.findClass own = some m.cls) (w : (Jvm.Cond.classLink own index K).before a0 Z = true) (eT : T.heap = h) (F : Ins Z h a K true) (hd : decode c.code pc = .ok (.checkcast index, 3))
    (k : ∀ T', Stand p l e R s m args below meth c T' locs cells slots → T'.heap = h → Go p e below s T' (mkF m (pc + 3) Ls (.ref a :: rest)) Q kc ks) : Go p e below s T (mkF m pc Ls (.ref a :: rest)) Q kc ks := by
  obtain ⟨T', X', e', st⟩ := castY X hx hZ hown w eT F (g := mkF m pc Ls (.ref a :: rest)) rfl rfl hd
  exact Go.step st (k T' X' e')
theorem Go.instY {own K : String} {index : Nat} {a : Addr} (X : Stand p l e R s m args below meth c T locs cells slots) (hx : p.tables.exec = Jvm.exec) (hZ : Z.Warmed39 s.vm) (hown : s.vm.findClass own = some m.cls) (w : (Jvm.Cond.classLink own index K).before a0 Z = true) (eT : T.heap = h) (F : Ins Z h a K true) (hd : decode c.code pc = .ok (.instanceof index, 3))
    (k : ∀ T', Stand p l e R s m args below meth c T' locs cells slots → T'.heap = h → Go p e below s T' (mkF m (pc + 3) Ls (.int 1 :: rest)) Q kc ks) : Go p e below s T (mkF m pc Ls (.ref a :: rest)) Q kc ks := by
  obtain ⟨T', X', e', st⟩ := RoadKit.instY X hx hZ hown w eT F (g := mkF m pc Ls (.ref a :: rest)) rfl rfl hd
  exact Go.step st (k T' X' e')
theorem Go.instNull {index : Nat} (X : Stand p l e R s m args below meth c T locs cells slots) (hx : p.tables.exec = Jvm.exec) (hd : decode c.code pc = .ok (.instanceof index, 3))
    (k : Go p e below s T (mkF m (pc + 3) Ls (.int 0 :: rest)) Q kc ks) : Go p e below s T (mkF m pc Ls (.null :: rest)) Q kc ks :=
  Go.step (X.instanceofNull hx (g := mkF m pc Ls (.null :: rest)) rfl rfl hd) k
theorem Go.instNo {own K C : String} {index : Nat} {a : Addr} (X : Stand p l e R s m args below meth c T locs cells slots) (hx : p.tables.exec = Jvm.exec) (hZ : Z.Warmed39 s.vm) (hown : s.vm.findClass own = some m.cls) (w : (Jvm.Cond.classLink own index K).before a0 Z = true) (eT : T.heap = h) (E : Exa Z h a C) (F : ∃ c t, Z.vm.findClass C = some c ∧ Z.vm.findClass K = some t ∧ Z.vm.assignable c t = false) (hd : decode c.code pc = .ok (.instanceof index, 3))
    (k : ∀ T', Stand p l e R s m args below meth c T' locs cells slots → T'.heap = h → Go p e below s T' (mkF m (pc + 3) Ls (.int 0 :: rest)) Q kc ks) : Go p e below s T (mkF m pc Ls (.ref a :: rest)) Q kc ks := by
  obtain ⟨T', X', e', st⟩ := RoadKit.instNo X hx hZ hown w eT E F (g := mkF m pc Ls (.ref a :: rest)) rfl rfl hd
  exact Go.step st (k T' X' e')
/-- an array: its class, length n, its component i is f i -/
def Af (Z : State) (h : Heap) (a : Addr) (k : ClassId) (ty : FieldType) (n : Nat) (f : Nat → Value) : Prop := ∃ c : Cell, Arr Z h a c ty ∧ c.cls = k ∧ c.slots.size = n ∧ n < 2 ^ 31 ∧ ∀ i, i < n → c.slots[i]? = some (f i)
def updV (f : Nat → Value) (j : Nat) (v : Value) : Nat → Value := fun i => if i = j then v else f i
variable {a b : Addr} {cid : ClassId} {ty : FieldType} {n : Nat} {f f' : Nat → Value} {ws : List Addr} {sl : Nat} {v : Value}
theorem Af.lt (F : Af Z h a cid ty n f) : a < h.size := by obtain ⟨_, A, -⟩ := F; exact A.lt
theorem Af.ext (E : Ext h h') (F : Af Z h a cid ty n f) : Af Z h' a cid ty n f := by obtain ⟨cl, A, r⟩ := F; exact ⟨cl, A.ext E, r⟩
theorem Af.other (W : Wr h h' b sl v) (F : Af Z h a cid ty n f) (q : a ≠ b) : Af Z h' a cid ty n f := by obtain ⟨cl, A, r⟩ := F; exact ⟨cl, A.other W q, r⟩
theorem Af.keep (F : Af Z h a cid ty n f) (K : Keep h h' ws) (q : a ∉ ws) : Af Z h' a cid ty n f := by obtain ⟨cl, A, r⟩ := F; exact ⟨cl, ⟨K.2.1 a cl A.1 q, A.2⟩, r⟩
theorem Af.congr (F : Af Z h a cid ty n f) (q : ∀ i, i < n → f' i = f i) : Af Z h a cid ty n f' := by obtain ⟨cl, A, r1, r2, r3, r4⟩ := F; exact ⟨cl, A, r1, r2, r3, fun i hi => by rw [q i hi]; exact r4 i hi⟩
theorem Af.set (F : Af Z h a cid ty n f) (W : Wr h h' a sl v) : Af Z h' a cid ty n (updV f sl v) := by
  obtain ⟨cl, A, r1, r2, r3, r4⟩ := F
  refine ⟨_, A.same W, r1, by rw [sz_set]; exact r2, r3, fun i hi => ?_⟩
  by_cases q : i = sl
  · subst q; simp [updV, Cell.setSlot, r2, hi]
  · simp only [updV, if_neg q]; rw [← r4 i hi]; simp [Cell.setSlot, Array.getElem?_setIfInBounds, Ne.symm q]
theorem Af.arv (A : Arr Z h a (newA cid ty z) ty) (q : ¬ z < 0) : Af Z h a cid ty z.toNatClampNeg (fun _ => defaultValue ty) :=
  ⟨_, A, rfl, sz_new _ _ _, by have := (back32 q).2; exact this, fun i hi => by simp [newA, hi]⟩
def updI (g : Nat → Int32) (j : Nat) (v : Int32) : Nat → Int32 := fun i => if i = j then v else g i
def updJ (g : Nat → Int64) (j : Nat) (v : Int64) : Nat → Int64 := fun i => if i = j then v else g i
theorem Af.updI {g : Nat → Int32} {j : Nat} {x : Int32} (A : Af Z h a cid ty n (updV (fun i => Value.int (g i)) j (.int x))) : Af Z h a cid ty n (fun i => Value.int (Jvm.OwnK.updI g j x i)) :=
  A.congr fun i _ => by simp only [Jvm.OwnK.updI, updV]; split <;> rfl
theorem Af.updJ {g : Nat → Int64} {j : Nat} {x : Int64} (A : Af Z h a cid ty n (updV (fun i => Value.long (g i)) j (.long x))) : Af Z h a cid ty n (fun i => Value.long (Jvm.OwnK.updJ g j x i)) :=
  A.congr fun i _ => by simp only [Jvm.OwnK.updJ, updV]; split <;> rfl
theorem in_of {cl : Cell} {j : Int32} (r2 : cl.slots.size = n) (h1 : ¬ j < 0) (h2 : j.toNatClampNeg < n) : ¬ (j < 0 ∨ cl.slots.size ≤ j.toNatClampNeg) := fun q => q.elim h1 fun z => by omega
theorem Go.alen (X : Stand p l e R s m args below meth c T locs cells slots) (hx : p.tables.exec = Jvm.exec) (hZ : Z.Warmed39 s.vm) (eT : T.heap = h) (A : Af Z h a cid ty n f) (hd : decode c.code pc = .ok (.arraylength, 1)) (k : Go p e below s T (mkF m (pc + 1) Ls (.int n.toInt32 :: rest)) Q kc ks) : Go p e below s T (mkF m pc Ls (.ref a :: rest)) Q kc ks := by
  obtain ⟨cl, A1, -, r2, -⟩ := A
  subst r2
  exact Go.step (fun target => X.arraylength hx (by rw [eT]; exact A1.1) (State.isArrayOf_alike hZ.alike A1.2.1) (g := mkF m pc Ls (.ref a :: rest)) rfl rfl hd target) k
theorem Go.iaload {j : Int32} (X : Stand p l e R s m args below meth c T locs cells slots) (hx : p.tables.exec = Jvm.exec) (hZ : Z.Warmed39 s.vm) (eT : T.heap = h) (A : Af Z h a cid .int n f) (h1 : ¬ j < 0) (h2 : j.toNatClampNeg < n) (hd : decode c.code pc = .ok (.iaload, 1)) (k : Go p e below s T (mkF m (pc + 1) Ls (f j.toNatClampNeg :: rest)) Q kc ks) : Go p e below s T (mkF m pc Ls (.int j :: .ref a :: rest)) Q kc ks := by
  obtain ⟨cl, A1, -, r2, -, r4⟩ := A
  exact Go.step (fun target => X.iaload hx (by rw [eT]; exact A1.1) (State.isArrayOf_alike hZ.alike A1.2.1) A1.2.2 (in_of r2 h1 h2) (r4 _ h2) (g := mkF m pc Ls (.int j :: .ref a :: rest)) rfl rfl hd target) k
theorem Go.laload {j : Int32} (X : Stand p l e R s m args below meth c T locs cells slots) (hx : p.tables.exec = Jvm.exec) (hZ : Z.Warmed39 s.vm) (eT : T.heap = h) (A : Af Z h a cid .long n f) (h1 : ¬ j < 0) (h2 : j.toNatClampNeg < n) (hd : decode c.code pc = .ok (.laload, 1)) (k : Go p e below s T (mkF m (pc + 1) Ls (f j.toNatClampNeg :: rest)) Q kc ks) : Go p e below s T (mkF m pc Ls (.int j :: .ref a :: rest)) Q kc ks := by
  obtain ⟨cl, A1, -, r2, -, r4⟩ := A
  exact Go.step (fun target => X.laload hx (by rw [eT]; exact A1.1) (State.isArrayOf_alike hZ.alike A1.2.1) A1.2.2 (in_of r2 h1 h2) (r4 _ h2) (g := mkF m pc Ls (.int j :: .ref a :: rest)) rfl rfl hd target) k
theorem Go.caload {j : Int32} (X : Stand p l e R s m args below meth c T locs cells slots) (hx : p.tables.exec = Jvm.exec) (hZ : Z.Warmed39 s.vm) (eT : T.heap = h) (A : Af Z h a cid .char n f) (h1 : ¬ j < 0) (h2 : j.toNatClampNeg < n) (hd : decode c.code pc = .ok (.caload, 1)) (k : Go p e below s T (mkF m (pc + 1) Ls (f j.toNatClampNeg :: rest)) Q kc ks) : Go p e below s T (mkF m pc Ls (.int j :: .ref a :: rest)) Q kc ks := by
  obtain ⟨cl, A1, -, r2, -, r4⟩ := A
  exact Go.step (fun target => X.caload hx (by rw [eT]; exact A1.1) (State.isArrayOf_alike hZ.alike A1.2.1) A1.2.2 (in_of r2 h1 h2) (r4 _ h2) (g := mkF m pc Ls (.int j :: .ref a :: rest)) rfl rfl hd target) k
theorem Go.aaload {j : Int32} (X : Stand p l e R s m args below meth c T locs cells slots) (hx : p.tables.exec = Jvm.exec) (hZ : Z.Warmed39 s.vm) (eT : T.heap = h) (A : Af Z h a cid ty n f) (hty : ty.isReference = true) (h1 : ¬ j < 0) (h2 : j.toNatClampNeg < n) (hd : decode c.code pc = .ok (.aaload, 1)) (k : Go p e below s T (mkF m (pc + 1) Ls (f j.toNatClampNeg :: rest)) Q kc ks) : Go p e below s T (mkF m pc Ls (.int j :: .ref a :: rest)) Q kc ks := by
  obtain ⟨cl, A1, -, r2, -, r4⟩ := A
  exact Go.step (fun target => X.aaload hx (by rw [eT]; exact A1.1) (State.isArrayOf_alike hZ.alike A1.2.1) hty A1.2.2 (in_of r2 h1 h2) (r4 _ h2) (g := mkF m pc Ls (.int j :: .ref a :: rest)) rfl rfl hd target) k
theorem Go.baloadB {j : Int32} (X : Stand p l e R s m args below meth c T locs cells slots) (hx : p.tables.exec = Jvm.exec) (hZ : Z.Warmed39 s.vm) (eT : T.heap = h) (A : Af Z h a cid .byte n f) (h1 : ¬ j < 0) (h2 : j.toNatClampNeg < n) (hd : decode c.code pc = .ok (.baload, 1)) (k : Go p e below s T (mkF m (pc + 1) Ls (f j.toNatClampNeg :: rest)) Q kc ks) : Go p e below s T (mkF m pc Ls (.int j :: .ref a :: rest)) Q kc ks := by
  obtain ⟨cl, A1, -, r2, -, r4⟩ := A
  exact Go.step (fun target => X.baloadBytes hx (by rw [eT]; exact A1.1) (State.isArrayOf_alike hZ.alike A1.2.1) A1.2.2 (in_of r2 h1 h2) (r4 _ h2) (g := mkF m pc Ls (.int j :: .ref a :: rest)) rfl rfl hd target) k
theorem Go.baloadZ {j : Int32} (X : Stand p l e R s m args below meth c T locs cells slots) (hx : p.tables.exec = Jvm.exec) (hZ : Z.Warmed39 s.vm) (eT : T.heap = h) (A : Af Z h a cid .boolean n f) (h1 : ¬ j < 0) (h2 : j.toNatClampNeg < n) (hd : decode c.code pc = .ok (.baload, 1)) (k : Go p e below s T (mkF m (pc + 1) Ls (f j.toNatClampNeg :: rest)) Q kc ks) : Go p e below s T (mkF m pc Ls (.int j :: .ref a :: rest)) Q kc ks := by
  obtain ⟨cl, A1, -, r2, -, r4⟩ := A
  exact Go.step (fun target => X.baloadBooleans hx (by rw [eT]; exact A1.1) (State.isArrayOf_alike hZ.alike A1.2.1) A1.2.2 (in_of r2 h1 h2) (r4 _ h2) (g := mkF m pc Ls (.int j :: .ref a :: rest)) rfl rfl hd target) k
theorem Go.iastore {j x : Int32} (X : Stand p l e R s m args below meth c T locs cells slots) (hx : p.tables.exec = Jvm.exec) (hZ : Z.Warmed39 s.vm) (eT : T.heap = h) (A : Af Z h a cid .int n f) (h1 : ¬ j < 0) (h2 : j.toNatClampNeg < n) (hd : decode c.code pc = .ok (.iastore, 1))
    (k : ∀ T' h', Stand p l e R s m args below meth c T' (locs ++ [⟨a, j.toNatClampNeg⟩]) cells slots → T'.heap = h' → Wr h h' a j.toNatClampNeg (.int x) → Af Z h' a cid .int n (updV f j.toNatClampNeg (.int x)) → Go p e below s T' (mkF m (pc + 1) Ls rest) Q kc ks) : Go p e below s T (mkF m pc Ls (.int x :: .int j :: .ref a :: rest)) Q kc ks := by
  have A' := A
  obtain ⟨cl, A1, -, r2, -, r4⟩ := A
  obtain ⟨T', h', X', e', W, st⟩ := stI X hx hZ eT A1 (in_of r2 h1 h2) (g := mkF m pc Ls (.int x :: .int j :: .ref a :: rest)) rfl rfl hd
  exact Go.step st (k T' h' X' e' W (A'.set W))
theorem Go.lastore {j : Int32} {x : Int64} (X : Stand p l e R s m args below meth c T locs cells slots) (hx : p.tables.exec = Jvm.exec) (hZ : Z.Warmed39 s.vm) (eT : T.heap = h) (A : Af Z h a cid .long n f) (h1 : ¬ j < 0) (h2 : j.toNatClampNeg < n) (hd : decode c.code pc = .ok (.lastore, 1))
    (k : ∀ T' h', Stand p l e R s m args below meth c T' (locs ++ [⟨a, j.toNatClampNeg⟩]) cells slots → T'.heap = h' → Wr h h' a j.toNatClampNeg (.long x) → Af Z h' a cid .long n (updV f j.toNatClampNeg (.long x)) → Go p e below s T' (mkF m (pc + 1) Ls rest) Q kc ks) : Go p e below s T (mkF m pc Ls (.long x :: .int j :: .ref a :: rest)) Q kc ks := by
  have A' := A
  obtain ⟨cl, A1, -, r2, -, r4⟩ := A
  obtain ⟨T', h', X', e', W, st⟩ := stJ X hx hZ eT A1 (in_of r2 h1 h2) (g := mkF m pc Ls (.long x :: .int j :: .ref a :: rest)) rfl rfl hd
  exact Go.step st (k T' h' X' e' W (A'.set W))
theorem Go.bastoreB {j x : Int32} (X : Stand p l e R s m args below meth c T locs cells slots) (hx : p.tables.exec = Jvm.exec) (hZ : Z.Warmed39 s.vm) (eT : T.heap = h) (A : Af Z h a cid .byte n f) (h1 : ¬ j < 0) (h2 : j.toNatClampNeg < n) (hd : decode c.code pc = .ok (.bastore, 1))
    (k : ∀ T' h', Stand p l e R s m args below meth c T' (locs ++ [⟨a, j.toNatClampNeg⟩]) cells slots → T'.heap = h' → Wr h h' a j.toNatClampNeg (.int x.toInt8.toInt32) → Af Z h' a cid .byte n (updV f j.toNatClampNeg (.int x.toInt8.toInt32)) → Go p e below s T' (mkF m (pc + 1) Ls rest) Q kc ks) : Go p e below s T (mkF m pc Ls (.int x :: .int j :: .ref a :: rest)) Q kc ks := by
  have A' := A
  obtain ⟨cl, A1, -, r2, -, r4⟩ := A
  obtain ⟨T', h', X', e', W, st⟩ := stB X hx hZ eT A1 (in_of r2 h1 h2) (g := mkF m pc Ls (.int x :: .int j :: .ref a :: rest)) rfl rfl hd
  exact Go.step st (k T' h' X' e' W (A'.set W))
theorem Go.bastoreZ {j x : Int32} (X : Stand p l e R s m args below meth c T locs cells slots) (hx : p.tables.exec = Jvm.exec) (hZ : Z.Warmed39 s.vm) (eT : T.heap = h) (A : Af Z h a cid .boolean n f) (h1 : ¬ j < 0) (h2 : j.toNatClampNeg < n) (hd : decode c.code pc = .ok (.bastore, 1))
    (k : ∀ T' h', Stand p l e R s m args below meth c T' (locs ++ [⟨a, j.toNatClampNeg⟩]) cells slots → T'.heap = h' → Wr h h' a j.toNatClampNeg (.int (nar .boolean x)) → Af Z h' a cid .boolean n (updV f j.toNatClampNeg (.int (nar .boolean x))) → Go p e below s T' (mkF m (pc + 1) Ls rest) Q kc ks) : Go p e below s T (mkF m pc Ls (.int x :: .int j :: .ref a :: rest)) Q kc ks := by
  have A' := A
  obtain ⟨cl, A1, -, r2, -, r4⟩ := A
  obtain ⟨T', h', X', e', W, st⟩ := stZ X hx hZ eT A1 (in_of r2 h1 h2) (g := mkF m pc Ls (.int x :: .int j :: .ref a :: rest)) rfl rfl hd
  exact Go.step st (k T' h' X' e' W (A'.set W))
theorem Go.castore {j x : Int32} (X : Stand p l e R s m args below meth c T locs cells slots) (hx : p.tables.exec = Jvm.exec) (hZ : Z.Warmed39 s.vm) (eT : T.heap = h) (A : Af Z h a cid .char n f) (h1 : ¬ j < 0) (h2 : j.toNatClampNeg < n) (hd : decode c.code pc = .ok (.castore, 1))
    (k : ∀ T' h', Stand p l e R s m args below meth c T' (locs ++ [⟨a, j.toNatClampNeg⟩]) cells slots → T'.heap = h' → Wr h h' a j.toNatClampNeg (.int (nar .char x)) → Af Z h' a cid .char n (updV f j.toNatClampNeg (.int (nar .char x))) → Go p e below s T' (mkF m (pc + 1) Ls rest) Q kc ks) : Go p e below s T (mkF m pc Ls (.int x :: .int j :: .ref a :: rest)) Q kc ks := by
  have A' := A
  obtain ⟨cl, A1, -, r2, -, r4⟩ := A
  obtain ⟨T', h', X', e', W, st⟩ := stC X hx hZ eT A1 (in_of r2 h1 h2) (g := mkF m pc Ls (.int x :: .int j :: .ref a :: rest)) rfl rfl hd
  exact Go.step st (k T' h' X' e' W (A'.set W))
theorem Go.aastore {j : Int32} {C : String} {y : Addr} (X : Stand p l e R s m args below meth c T locs cells slots) (hx : p.tables.exec = Jvm.exec) (hZ : Z.Warmed39 s.vm) (eT : T.heap = h) (A : Af Z h a cid ty n f) (hty : ty.isReference = true) (O : Ovr Z cid C) (I : Ins Z h y C true) (h1 : ¬ j < 0) (h2 : j.toNatClampNeg < n) (hd : decode c.code pc = .ok (.aastore, 1))
    (k : ∀ T' h', Stand p l e R s m args below meth c T' (locs ++ [⟨a, j.toNatClampNeg⟩]) cells slots → T'.heap = h' → Wr h h' a j.toNatClampNeg (.ref y) → Af Z h' a cid ty n (updV f j.toNatClampNeg (.ref y)) → Go p e below s T' (mkF m (pc + 1) Ls rest) Q kc ks) : Go p e below s T (mkF m pc Ls (.ref y :: .int j :: .ref a :: rest)) Q kc ks := by
  have A' := A
  obtain ⟨cl, A1, r1, r2, -, r4⟩ := A
  obtain ⟨T', h', X', e', W, st⟩ := stR X hx hZ eT A1 (in_of r2 h1 h2) hty (Sto.ofV A1 r1 O I) (g := mkF m pc Ls (.ref y :: .int j :: .ref a :: rest)) rfl rfl hd
  exact Go.step st (k T' h' X' e' W (A'.set W))
theorem Go.newarray {aty : ArrayType} {z : Int32} {cap : Nat} (X : Stand p l e R s m args below meth c T locs cells slots) (hx : p.tables.exec = Jvm.exec) (hZ : Z.Warmed39 s.vm) (w : (Jvm.Cond.arrayClass (newarray.typeOf aty)).before a0 Z = true) (eT : T.heap = h) (hd : decode c.code pc = .ok (.newarray aty, 2)) (hn : ¬ z < 0) (hcap : z.toNatClampNeg ≤ cap) (hb : cap * 8 ≤ 536870912) (hc : cells + 1 ≤ R.cells) (hl : slots + cap ≤ R.slots)
    (k : ∀ T' h' a cA, a = h.size → Stand p l e R s m args below meth c T' locs (cells + 1) (slots + cap) → T'.heap = h' → Ext h h' → Af Z h' a cA (newarray.typeOf aty) z.toNatClampNeg (fun _ => defaultValue (newarray.typeOf aty)) → Go p e below s T' (mkF m (pc + 2) Ls (.ref a :: rest)) Q kc ks) : Go p e below s T (mkF m pc Ls (.int z :: rest)) Q kc ks := by
  obtain ⟨T', h', cA, X', e', E, A, st⟩ := newP X hx hZ w eT (g := mkF m pc Ls (.int z :: rest)) rfl hd rfl hn hcap hb hc hl
  exact Go.step st (k T' h' _ cA rfl X' e' E (Af.arv A hn))
theorem Go.anewarray {own C : String} {index : Nat} {z : Int32} {cap : Nat} (X : Stand p l e R s m args below meth c T locs cells slots) (hx : p.tables.exec = Jvm.exec) (hZ : Z.Warmed39 s.vm) (hown : s.vm.findClass own = some m.cls) (w1 : (Jvm.Cond.classLink own index C).before a0 Z = true) (w2 : (Jvm.Cond.arrayOver (.object C)).before a0 Z = true) (eT : T.heap = h) (hd : decode c.code pc = .ok (.anewarray index, 3)) (hn : ¬ z < 0) (hcap : z.toNatClampNeg ≤ cap) (hb : cap * 8 ≤ 536870912) (hc : cells + 1 ≤ R.cells) (hl : slots + cap ≤ R.slots)
    (k : ∀ T' h' a cA, a = h.size → Stand p l e R s m args below meth c T' locs (cells + 1) (slots + cap) → T'.heap = h' → Ext h h' → Af Z h' a cA (.object C) z.toNatClampNeg (fun _ => .null) → Ovr Z cA C → Go p e below s T' (mkF m (pc + 3) Ls (.ref a :: rest)) Q kc ks) : Go p e below s T (mkF m pc Ls (.int z :: rest)) Q kc ks := by
  obtain ⟨T', h', cA, X', e', E, A, O, st⟩ := newR X hx hZ hown w1 w2 eT (g := mkF m pc Ls (.int z :: rest)) rfl hd rfl hn hcap hb hc hl
  exact Go.step st (k T' h' _ cA rfl X' e' E (Af.arv A hn) O)
theorem Go.clone {own ad : String} {index W cap : Nat} (X : Stand p l e R s m args below meth c T locs cells slots) (hx : p.tables.exec = Jvm.exec) (hZ : Z.Warmed39 s.vm) (hown : s.vm.findClass own = some m.cls)
    (w1 : (Jvm.Cond.methodLink own index ⟨ad, "clone", "()Ljava/lang/Object;"⟩).before a0 Z = true) (w2 : (Jvm.Cond.sameMethod ad "java/lang/Object" "clone" "()Ljava/lang/Object;").before a0 Z = true) (w3 : (Jvm.Cond.native ⟨"java/lang/Object", "clone", "()Ljava/lang/Object;"⟩).before a0 Z = true)
    (w4 : (Jvm.Cond.instanceMethod ⟨"java/lang/Object", "clone", "()Ljava/lang/Object;"⟩).before a0 Z = true) (w5 : (Jvm.Cond.selects ad ⟨ad, "clone", "()Ljava/lang/Object;"⟩ ⟨"java/lang/Object", "clone", "()Ljava/lang/Object;"⟩).before a0 Z = true) (w6 : (Jvm.Cond.castable ad "java/lang/Cloneable").before a0 Z = true)
    (eT : T.heap = h) (A : Af Z h a cid ty n f) (E : Exa Z h a ad) (F : ∀ cl : Cell, h[a]? = some cl → FitC Z cl) (hd : decode c.code pc = .ok (.invokevirtual index, 3)) (hsize : Ls.size = c.maxLocals) (hW : (rest.map fun v => v.category).sum ≤ W) (hf : 1 ≤ R.frames) (hl : W + 14 ≤ R.locals) (hcap : n ≤ cap) (hc : cells + 1 ≤ R.cells) (hsl : slots + cap ≤ R.slots)
    (k : ∀ T' h' b, b = h.size → Stand p l e R s m args below meth c T' locs (cells + 1) (slots + cap) → T'.heap = h' → Ext h h' → Af Z h' b cid ty n f → Exa Z h' b ad → Go p e below s T' (mkF m (pc + 3) Ls (.ref b :: rest)) Q kc ks) : Go p e below s T (mkF m pc Ls (.ref a :: rest)) Q kc ks := by
  obtain ⟨cl, A1, r1, r2, r3, r4⟩ := A
  obtain ⟨T', h', X', e', Ex, A2, E2, st⟩ := cloneA X hx hZ hown w1 w2 w3 w4 w5 w6 eT A1 E (F cl A1.1) (g := mkF m pc Ls (.ref a :: rest)) rfl hsize rfl hd hf (W := W) (cap := cap) (by show 2 * 0 + _ ≤ _; omega) hl (by rw [r2]; exact hcap) hc hsl
  exact Go.step st (k T' h' _ rfl X' e' Ex ⟨_, A2, r1, r2, r3, r4⟩ E2)
/-- the call of a private method by invokevirtual, by its contract -/
theorem Go.callP {own C : String} {index kk : Nat} {y : MethodName} {bytes : ByteArray} {maxL : Nat} {ret : Option FieldType} {rm : Room} {argsL : List Value} {Q' : Option Value → Heap → List Loc → Prop} {W : Nat} {st : List Value}
    (X : Stand p l e R s m args below meth c T locs cells slots) (hx : p.tables.exec = Jvm.exec) (hZ : Z.Warmed39 s.vm) (hown : s.vm.findClass own = some m.cls)
    (w1 : (Jvm.Cond.methodLink own index y).before a0 Z = true) (w2 : (Jvm.Cond.instanceMethod y).before a0 Z = true) (wp : (Jvm.Cond.privateMethod y).before a0 Z = true) (wi : (Jvm.Cond.instantiable y.cls kk).before a0 Z = true) (w3 : (Jvm.Cond.initialized y.cls).before a0 Z = true) (w4 : (Jvm.Cond.code y bytes maxL ret).before a0 Z = true)
    (hy : y.cls ≠ "java/lang/invoke/MethodHandle" ∧ y.cls ≠ "java/lang/invoke/VarHandle") (E : Exa Z h a C) (hM : Met l Z y bytes maxL ret [] rm (.ref a :: argsL).toArray h Q') (eT : T.heap = h)
    (hlen : ∀ sig, parseMethodDescriptor y.desc = some sig → argsL.length = sig.parameters.length) (hd : decode c.code pc = .ok (.invokevirtual index, 3)) (hsize : Ls.size = c.maxLocals) (hst : st = argsL.reverse ++ .ref a :: rest) (hW : (rest.map fun v => v.category).sum ≤ W)
    (hf : rm.frames + 1 ≤ R.frames) (hl : W + (maxL + 11) + rm.locals ≤ R.locals) (hc : cells + rm.cells ≤ R.cells) (hs : slots + rm.slots ≤ R.slots)
    (k : ∀ v T' L, Stand p l e R s m args below meth c T' (locs ++ L) (cells + rm.cells) (slots + rm.slots) → Q' v T'.heap L → Go p e below s T' (mkF m (pc + 3) Ls (v.toList ++ rest)) Q kc ks) : Go p e below s T (mkF m pc Ls st) Q kc ks := by
  have wi' : (Jvm.Cond.instantiable y.cls kk).before args s = true := mvT hZ wi
  obtain ⟨cc, kc', i1, i2, i3, i4, -⟩ := Cond.instantiable_spec wi'
  have ni : kc'.isInterface = false := by revert i4; cases kc'.isInterface <;> simp
  have hp := Cond.privateMethod_at (mvP hZ wp (args := args))
  have hsel := Jvm.Stand.selects_self_of_private i1 i2 ni hp (mvT hZ w2 (args := args)) hy
  obtain ⟨cl, q1, q2⟩ := E.cell
  obtain ⟨v, vm₁, ⟨T1, L1, k1, n1⟩, -, X1, ⟨Lc, hQ1, l1, y1, z1⟩, st1⟩ := X.privateBack hx (y := y) hown (mvT hZ w1) (mvT hZ w2) hsel hp (mvT hZ w4) hy (backOf (W := W) hM hZ w4 w3 hf hl) (g := mkF m pc Ls st) rfl hsize (Steps.refl _) (a := a) (by rw [eT]; exact q1) q2 (argsL := argsL) (rest := rest) hlen hst (by show 2 * 0 + _ ≤ _; omega) hd (fun _ _ => ⟨rfl, eT, hc, hs⟩)
  dsimp only [Pt.U, Pt.locs, Pt.cells, Pt.slots] at X1 l1 y1 z1 st1 hQ1
  subst l1 y1 z1
  exact Go.trans st1 (k v T1 Lc X1 hQ1)
/-- the call of an interface's method, by the contract of the body that the receiver's class selects -/
theorem Go.callN {own C : String} {index count : Nat} {xi y : MethodName} {bytes : ByteArray} {maxL : Nat} {ret : Option FieldType} {rm : Room} {argsL : List Value} {Q' : Option Value → Heap → List Loc → Prop} {W : Nat} {st : List Value}
    (X : Stand p l e R s m args below meth c T locs cells slots) (hx : p.tables.exec = Jvm.exec) (hZ : Z.Warmed39 s.vm) (hown : s.vm.findClass own = some m.cls)
    (w1 : (Jvm.Cond.methodLink own index xi).before a0 Z = true) (w2 : (Jvm.Cond.declares xi).before a0 Z = true) (w5 : (Jvm.Cond.interfaceMethod xi.cls xi.cls xi.name xi.desc).before a0 Z = true) (w6 : (Jvm.Cond.selects C xi y).before a0 Z = true) (w7 : (Jvm.Cond.instanceMethod y).before a0 Z = true) (w8 : (Jvm.Cond.publicMethod y).before a0 Z = true) (w9 : (Jvm.Cond.unhidden C xi.name xi.desc).before a0 Z = true) (w10 : (Jvm.Cond.castable C xi.cls).before a0 Z = true)
    (w3 : (Jvm.Cond.initialized y.cls).before a0 Z = true) (w4 : (Jvm.Cond.code y bytes maxL ret).before a0 Z = true) (hy : xi.cls ≠ "java/lang/invoke/MethodHandle" ∧ xi.cls ≠ "java/lang/invoke/VarHandle") (k5 : ((Jvm.Cond.interfaceMethod xi.cls xi.cls xi.name xi.desc).onTables && (Jvm.Cond.interfaceMethod xi.cls xi.cls xi.name xi.desc).keepsFace) = true) (E : Exa Z h a C) (hM : Met l Z y bytes maxL ret [] rm (.ref a :: argsL).toArray h Q') (eT : T.heap = h)
    (hlen : ∀ sig, parseMethodDescriptor xi.desc = some sig → argsL.length = sig.parameters.length) (hd : decode c.code pc = .ok (.invokeinterface index count, 5)) (hsize : Ls.size = c.maxLocals) (hst : st = argsL.reverse ++ .ref a :: rest) (hW : (rest.map fun v => v.category).sum ≤ W)
    (hf : rm.frames + 1 ≤ R.frames) (hl : W + (maxL + 11) + rm.locals ≤ R.locals) (hc : cells + rm.cells ≤ R.cells) (hs : slots + rm.slots ≤ R.slots)
    (k : ∀ v T' L, Stand p l e R s m args below meth c T' (locs ++ L) (cells + rm.cells) (slots + rm.slots) → Q' v T'.heap L → Go p e below s T' (mkF m (pc + 5) Ls (v.toList ++ rest)) Q kc ks) : Go p e below s T (mkF m pc Ls st) Q kc ks := by
  obtain ⟨cB, kB, q1, q2, q3⟩ := isOf hZ eT E
  obtain ⟨v, vm₁, ⟨T1, L1, k1, n1⟩, -, X1, ⟨Lc, hQ1, l1, y1, z1⟩, st1⟩ := X.interfaceBack hx (xi := xi) (y := y) hown (mvT hZ w1) (mvT hZ w2) (mvT hZ w5 k5) (mvT hZ w6) (mvT hZ w7) (mvT hZ w8) (mvT hZ w9) (mvT hZ w10) hy (backOf (W := W) hM hZ w4 w3 hf hl) q1 q2 q3 (g := mkF m pc Ls st) rfl hsize (Steps.refl _) (argsL := argsL) (rest := rest) hlen hst (by show 2 * 0 + _ ≤ _; omega) hd (fun _ _ => ⟨rfl, eT, hc, hs⟩)
  dsimp only [Pt.U, Pt.locs, Pt.cells, Pt.slots] at X1 l1 y1 z1 st1 hQ1
  subst l1 y1 z1
  exact Go.trans st1 (k v T1 Lc X1 hQ1)
def cpf (f f' : Nat → Value) (sp dp nn : Nat) : Nat → Value := fun i => if dp ≤ i ∧ i < dp + nn then f (sp + (i - dp)) else f' i
theorem getD_range {i : Nat} (hi : i < n) (d : Value) : ((List.range n).map f).getD i d = f i := by simp [List.getD_eq_getElem?_getD, hi]
theorem Af.toArv (F : Af Z h a cid ty n f) (hf : ∀ i, i < n → fits ty (f i) = true) : Arv Z h a cid ty n.toInt32 ((List.range n).map f) .null := by
  obtain ⟨cl, A, r1, r2, r3, r4⟩ := F
  have z : (n.toInt32).toNatClampNeg = n := by simp only [Int32.toNatClampNeg, len_toInt r3]; rfl
  refine ⟨cl, A, r1, by rw [r2, z], ?_, fun i hi => ?_, fun i hi => ?_⟩
  · rw [Int32.lt_iff_toInt_lt, len_toInt r3]; show ¬ (n : Int) < 0; omega
  · rw [getD_range (by omega)]; exact r4 i (by omega)
  · rw [getD_range (by omega)]; exact hf i (by omega)
theorem Af.ofArv {z : Int32} {vs : List Value} {d : Value} (F : Arv Z h a cid ty z vs d) : Af Z h a cid ty z.toNatClampNeg (fun i => vs.getD i d) := by
  obtain ⟨cl, A, r1, r2, r3, H, G⟩ := F
  exact ⟨cl, A, r1, r2, (back32 r3).2, fun i hi => H i (by omega)⟩
theorem cp_at {n' sp dp nn i : Nat} (hi : i < n') (h4 : sp + nn ≤ n) (h5 : dp + nn ≤ n') :
    ((((List.range n').map f').take dp) ++ ((List.range nn).map fun i => ((List.range n).map f).getD (sp + i) .null) ++ (((List.range n').map f').drop (dp + nn))).getD i .null = cpf f f' sp dp nn i := by
  have lt : (((List.range n').map f').take dp).length = dp := by simp; omega
  have lu : ((List.range nn).map fun i => ((List.range n).map f).getD (sp + i) .null).length = nn := by simp
  rw [List.getD_eq_getElem?_getD]
  unfold cpf
  by_cases h1 : i < dp
  · rw [List.append_assoc, List.getElem?_append_left (by omega), if_neg (by omega)]
    simp [List.getElem?_take, h1, hi]
  · by_cases h2 : i < dp + nn
    · rw [List.getElem?_append_left (by rw [List.length_append]; omega), List.getElem?_append_right (by omega), if_pos ⟨by omega, h2⟩, lt]
      have h3 : i - dp < nn := by omega
      have h6 : sp + (i - dp) < n := by omega
      simp [h3, List.getD_eq_getElem?_getD, h6]
    · rw [List.getElem?_append_right (by rw [List.length_append]; omega), if_neg (by omega), List.length_append, lt, lu]
      have h3 : dp + nn + (i - (dp + nn)) = i := by omega
      simp [List.getElem?_drop, h3, hi]
theorem Go.acopy {own : String} {index W n0 n' : Nat} {b : Addr} {cid' : ClassId} {sp dp nn : Int32} (X : Stand p l e R s m args below meth c T locs cells slots) (hx : p.tables.exec = Jvm.exec) (hZ : Z.Warmed39 s.vm) (hown : s.vm.findClass own = some m.cls)
    (w1 : (Jvm.Cond.methodLink own index ⟨"java/lang/System", "arraycopy", "(Ljava/lang/Object;ILjava/lang/Object;II)V"⟩).before a0 Z = true) (w2 : (Jvm.Cond.native ⟨"java/lang/System", "arraycopy", "(Ljava/lang/Object;ILjava/lang/Object;II)V"⟩).before a0 Z = true) (w3 : (Jvm.Cond.static ⟨"java/lang/System", "arraycopy", "(Ljava/lang/Object;ILjava/lang/Object;II)V"⟩).before a0 Z = true) (w4 : (Jvm.Cond.initialized "java/lang/System").before a0 Z = true)
    (eT : T.heap = h) (A : Af Z h a cid ty n f) (B : Af Z h b cid' ty n' f') (hty : refKind ty = false) (hfa : ∀ i, i < n → fits ty (f i) = true) (hfb : ∀ i, i < n' → fits ty (f' i) = true) (h1 : ¬ sp < 0) (h2 : ¬ dp < 0) (h3 : ¬ nn < 0) (h4 : sp.toNatClampNeg + nn.toNatClampNeg ≤ n) (h5 : dp.toNatClampNeg + nn.toNatClampNeg ≤ n')
    (N : Fr n0 locs) (ge : n0 ≤ b) (hd : decode c.code pc = .ok (.invokestatic index, 3)) (hsize : Ls.size = c.maxLocals) (hW : (rest.map fun v => v.category).sum ≤ W) (hf : 1 ≤ R.frames) (hl : W + 18 ≤ R.locals)
    (k : ∀ T' h' L, Stand p l e R s m args below meth c T' L cells slots → T'.heap = h' → Fr n0 L → Keep h h' [b] → Af Z h' b cid' ty n' (cpf f f' sp.toNatClampNeg dp.toNatClampNeg nn.toNatClampNeg) → Go p e below s T' (mkF m (pc + 3) Ls rest) Q kc ks) : Go p e below s T (mkF m pc Ls (.int nn :: .int dp :: .ref b :: .int sp :: .ref a :: rest)) Q kc ks := by
  have za : (n.toInt32).toNatClampNeg = n := by obtain ⟨_, _, _, _, r3, _⟩ := A; simp only [Int32.toNatClampNeg, len_toInt r3]; rfl
  have zb : (n'.toInt32).toNatClampNeg = n' := by obtain ⟨_, _, _, _, r3, _⟩ := B; simp only [Int32.toNatClampNeg, len_toInt r3]; rfl
  obtain ⟨T', h', L, X', e', NL, K, V, st⟩ := cpA X hx hZ hown w1 w2 w3 w4 eT (A.toArv hfa) (B.toArv hfb) (Or.inl ⟨rfl, hty⟩) h1 h2 h3 (by rw [za]; exact h4) (by rw [zb]; exact h5) rfl (by simp; exact h5) N ge (g := mkF m pc Ls (.int nn :: .int dp :: .ref b :: .int sp :: .ref a :: rest)) rfl hsize rfl hd hf (W := W) (by show 2 * 0 + _ ≤ _; omega) (by show W + (7 + 11) ≤ _; omega)
  have V' := Af.ofArv V
  rw [zb] at V'
  exact Go.step st (k T' h' L X' e' NL K (V'.congr fun i hi => (cp_at hi h4 h5).symm))
theorem Keep.wr1 {ha hb hc : Heap} {ws : List Addr} {a : Addr} {sl : Nat} {v : Value} (K : Keep ha hb ws) (W : Wr hb hc a sl v) (q : a ∈ ws ∨ ha.size ≤ a) : Keep ha hc ws := Jvm.RoadKit.Keep.wr K W q
end Heap
end Jvm.OwnK
namespace Jvm.OwnK
open Sem ClassFile Op Lib Jvm.Free Jvm.Stand Jvm.LawKit Jvm.RoadKit
section Start
variable {s : State} {args : Array Value}
theorem st_static {C f d K : String} (h : (Jvm.Cond.exactly (Jvm.Term.static C f d) K).value args s none s [] = some true) (hi : (Jvm.Cond.initializedFor C f d).before args s = true ∨ ((Jvm.Cond.initialized C).before args s = true ∧ (Jvm.Cond.laysStatic C f d).before args s = true)) :
    ∃ g, (Jvm.Term.static C f d).eval args s none [] s = some (.ref g) ∧ Sta s s.heap C f d (.ref g) ∧ Exa s s.heap g K := by
  obtain ⟨g, eg⟩ := exa_v h
  exact ⟨g, eg, Sta.start eg hi, Exa.start eg h⟩
theorem st_int {t : Jvm.Term} {k : Int32} (h : (Jvm.Cond.eq t (.int k)).value args s none s [] = some true) : t.eval args s none [] s = some (.int k) := by
  obtain ⟨x, y, ha, hb, k1, k2⟩ := cmp_v (Or.inl h)
  have hb' : (Jvm.Term.int k).eval args s none [] s = some (.int k) := Term.int_eval k
  cases hb.symm.trans hb'
  obtain ⟨z, rfl⟩ := k2
  have q := gotT (Cond.eq_ints ha hb') h
  rw [ha, q]
theorem st_ref {t u : Jvm.Term} {g : Addr} (h : (Jvm.Cond.eq t u).value args s none s [] = some true) (hu : u.eval args s none [] s = some (.ref g)) : t.eval args s none [] s = some (.ref g) := by
  obtain ⟨x, y, ha, hb, k1, k2⟩ := cmp_v (Or.inl h)
  cases hb.symm.trans hu
  have hx : x.isRef = true := k2.2
  have q := gotT (eq_R ha hu hx rfl) h
  rw [ha, q]
theorem st_fieldI {t : Jvm.Term} {a : Addr} {C n d : String} {k : Int32} (ev : t.eval args s none [] s = some (.ref a)) (h : (Jvm.Cond.eq (.field t C n d) (.int k)).value args s none s [] = some true) : Fld s s.heap a C n d (.int k) :=
  Fld.start (by rw [← fld_at ev]; exact st_int h)
theorem st_fieldR {t : Jvm.Term} {a : Addr} {C n d K : String} (ev : t.eval args s none [] s = some (.ref a)) (h : (Jvm.Cond.exactly (.field t C n d) K).value args s none s [] = some true) :
    ∃ g, (Jvm.Term.field t C n d).eval args s none [] s = some (.ref g) ∧ Fld s s.heap a C n d (.ref g) ∧ Exa s s.heap g K := by
  obtain ⟨g, eg⟩ := exa_v h
  exact ⟨g, eg, Fld.start (by rw [← fld_at ev]; exact eg), Exa.start eg h⟩
/-- an array that stood before the law, with its length -/
theorem st_arr {t : Jvm.Term} {a : Addr} {ty : FieldType} {k : Int32} {n : Nat} (ev : t.eval args s none [] s = some (.ref a)) (h : (Jvm.Cond.arrayOf t ty).value args s none s [] = some true) (hl : (Jvm.Cond.eq (.length t) (.int k)).value args s none s [] = some true) (hk : k = n.toInt32) (hn : n < 2 ^ 31) :
    ∃ c : Cell, s.heap[a]? = some c ∧ Af s s.heap a c.cls ty n (fun i => (c.slots[i]?).getD .null) := by
  obtain ⟨c, A⟩ := Arr.start ev h
  have e1 := st_int hl
  obtain ⟨a', cell, g1, g2, g5, g3⟩ := Jvm.Lib.length_spec e1
  cases ev.symm.trans g1
  have g4 : s.arrayAt? a = some c := A.fin (Vm.Alike.refl _)
  cases g4.symm.trans g2
  injection g3 with g3
  have g6 : c.slots.size = n := by
    have q : (c.slots.size.toInt32).toInt = (n.toInt32).toInt := by rw [← g3, hk]
    rw [len_toInt g5, len_toInt hn] at q
    omega
  refine ⟨c, A.1, c, A, rfl, g6, hn, fun i hi => ?_⟩
  have q : i < c.slots.size := by omega
  simp [Array.getElem?_eq_getElem q]
theorem st_elem {t : Jvm.Term} {a : Addr} {j : Int32} {c : Cell} {v : Value} (ev : t.eval args s none [] s = some (.ref a)) (hc : s.heap[a]? = some c) (h : (Jvm.Term.elem t (.int j)).eval args s none [] s = some v) : (c.slots[j.toNatClampNeg]?).getD .null = v := by
  have q := (elem_in h ev (Term.int_eval j) hc).2
  rw [q]; rfl
theorem Af.known {Z : State} {h : Heap} {a : Addr} {cid : ClassId} {ty : FieldType} {n j : Nat} {f : Nat → Value} {v : Value} (F : Af Z h a cid ty n f) (q : f j = v) : Af Z h a cid ty n (updV f j v) := F.congr fun i _ => by
  by_cases e : i = j
  · subst e; simp [updV, q]
  · simp [updV, e]
end Start
end Jvm.OwnK
namespace Jvm.Pilot.@@N@@
open Jvm Jvm.ClassFile Sem Op Lib Jvm.Free Jvm.Stand Jvm.LawKit Jvm.RoadKit Jvm.OwnK Bundle Jvm.Pilot.@@N@@.Jvm.D
theorem w0 {Z : State} {a0 : Array Value} (hw : ∀ d ∈ tables_1, d.before a0 Z = true) : (Jvm.Cond.constant "com/example/rosterd/rosterd/query/OperatorOrdersPinLaw" (31 : Nat) (2147483647 : Int32)).before a0 Z = true := hw _ (List.mem_of_getElem? (i := 0) rfl)
theorem w1 {Z : State} {a0 : Array Value} (hw : ∀ d ∈ tables_1, d.before a0 Z = true) : (Jvm.Cond.methodLink "com/example/rosterd/rosterd/query/OperatorOrdersPinLaw" (32 : Nat) ({ cls := "com/example/rosterd/rosterd/query/OperatorOrdersPinLaw", name := "pick", desc := "(I)Lcom/example/rosterd/rosterd/query/Operator;" } : Jvm.MethodName)).before a0 Z = true := hw _ (List.mem_of_getElem? (i := 1) rfl)
theorem w2 {Z : State} {a0 : Array Value} (hw : ∀ d ∈ tables_1, d.before a0 Z = true) : (Jvm.Cond.static ({ cls := "com/example/rosterd/rosterd/query/OperatorOrdersPinLaw", name := "pick", desc := "(I)Lcom/example/rosterd/rosterd/query/Operator;" } : Jvm.MethodName)).before a0 Z = true := hw _ (List.mem_of_getElem? (i := 2) rfl)
theorem w3 {Z : State} {a0 : Array Value} (hw : ∀ d ∈ tables_1, d.before a0 Z = true) : (Jvm.Cond.initialized "com/example/rosterd/rosterd/query/OperatorOrdersPinLaw").before a0 Z = true := hw _ (List.mem_of_getElem? (i := 3) rfl)
theorem w4 {Z : State} {a0 : Array Value} (hw : ∀ d ∈ tables_1, d.before a0 Z = true) : (Jvm.Cond.code ({ cls := "com/example/rosterd/rosterd/query/OperatorOrdersPinLaw", name := "pick", desc := "(I)Lcom/example/rosterd/rosterd/query/Operator;" } : Jvm.MethodName) method_2_code (1 : Nat) (Option.some (Jvm.ClassFile.FieldType.object "com/example/rosterd/rosterd/query/Operator"))).before a0 Z = true := hw _ (List.mem_of_getElem? (i := 4) rfl)
theorem w5 {Z : State} {a0 : Array Value} (hw : ∀ d ∈ tables_1, d.before a0 Z = true) : (Jvm.Cond.fieldLink "com/example/rosterd/rosterd/query/OperatorOrdersPinLaw" (7 : Nat) "com/example/rosterd/rosterd/query/Operator" "NOT_EQUAL" "Lcom/example/rosterd/rosterd/query/Operator;").before a0 Z = true := hw _ (List.mem_of_getElem? (i := 5) rfl)
theorem w6 {Z : State} {a0 : Array Value} (hw : ∀ d ∈ tables_1, d.before a0 Z = true) : (Jvm.Cond.initialized "com/example/rosterd/rosterd/query/Operator").before a0 Z = true := hw _ (List.mem_of_getElem? (i := 6) rfl)
theorem w7 {Z : State} {a0 : Array Value} (hw : ∀ d ∈ tables_1, d.before a0 Z = true) : (Jvm.Cond.laysStatic "com/example/rosterd/rosterd/query/Operator" "NOT_EQUAL" "Lcom/example/rosterd/rosterd/query/Operator;").before a0 Z = true := hw _ (List.mem_of_getElem? (i := 7) rfl)
theorem w8 {Z : State} {a0 : Array Value} (hw : ∀ d ∈ tables_1, d.before a0 Z = true) : (Jvm.Cond.methodLink "com/example/rosterd/rosterd/query/OperatorOrdersPinLaw" (38 : Nat) ({ cls := "com/example/rosterd/rosterd/query/Operator", name := "symbol", desc := "()Ljava/lang/String;" } : Jvm.MethodName)).before a0 Z = true := hw _ (List.mem_of_getElem? (i := 8) rfl)
theorem w9 {Z : State} {a0 : Array Value} (hw : ∀ d ∈ tables_1, d.before a0 Z = true) : (Jvm.Cond.declares ({ cls := "com/example/rosterd/rosterd/query/Operator", name := "symbol", desc := "()Ljava/lang/String;" } : Jvm.MethodName)).before a0 Z = true := hw _ (List.mem_of_getElem? (i := 9) rfl)
theorem w10 {Z : State} {a0 : Array Value} (hw : ∀ d ∈ tables_1, d.before a0 Z = true) : (Jvm.Cond.instanceMethod ({ cls := "com/example/rosterd/rosterd/query/Operator", name := "symbol", desc := "()Ljava/lang/String;" } : Jvm.MethodName)).before a0 Z = true := hw _ (List.mem_of_getElem? (i := 10) rfl)
theorem w11 {Z : State} {a0 : Array Value} (hw : ∀ d ∈ tables_1, d.before a0 Z = true) : (Jvm.Cond.selects "com/example/rosterd/rosterd/query/Operator" ({ cls := "com/example/rosterd/rosterd/query/Operator", name := "symbol", desc := "()Ljava/lang/String;" } : Jvm.MethodName) ({ cls := "com/example/rosterd/rosterd/query/Operator", name := "symbol", desc := "()Ljava/lang/String;" } : Jvm.MethodName)).before a0 Z = true := hw _ (List.mem_of_getElem? (i := 11) rfl)
theorem w12 {Z : State} {a0 : Array Value} (hw : ∀ d ∈ tables_1, d.before a0 Z = true) : (Jvm.Cond.code ({ cls := "com/example/rosterd/rosterd/query/Operator", name := "symbol", desc := "()Ljava/lang/String;" } : Jvm.MethodName) prog_10_method_4_code (1 : Nat) (Option.some (Jvm.ClassFile.FieldType.object "java/lang/String"))).before a0 Z = true := hw _ (List.mem_of_getElem? (i := 12) rfl)
theorem w13 {Z : State} {a0 : Array Value} (hw : ∀ d ∈ tables_1, d.before a0 Z = true) : (Jvm.Cond.fieldLink "com/example/rosterd/rosterd/query/Operator" (44 : Nat) "com/example/rosterd/rosterd/query/Operator" "symbol" "Ljava/lang/String;").before a0 Z = true := hw _ (List.mem_of_getElem? (i := 13) rfl)
theorem w15 {Z : State} {a0 : Array Value} (hw : ∀ d ∈ tables_1, d.before a0 Z = true) : (Jvm.Cond.methodLink "com/example/rosterd/rosterd/query/OperatorOrdersPinLaw" (42 : Nat) ({ cls := "java/lang/String", name := "isEmpty", desc := "()Z" } : Jvm.MethodName)).before a0 Z = true := hw _ (List.mem_of_getElem? (i := 15) rfl)
theorem w16 {Z : State} {a0 : Array Value} (hw : ∀ d ∈ tables_1, d.before a0 Z = true) : (Jvm.Cond.declares ({ cls := "java/lang/String", name := "isEmpty", desc := "()Z" } : Jvm.MethodName)).before a0 Z = true := hw _ (List.mem_of_getElem? (i := 16) rfl)
theorem w17 {Z : State} {a0 : Array Value} (hw : ∀ d ∈ tables_1, d.before a0 Z = true) : (Jvm.Cond.instanceMethod ({ cls := "java/lang/String", name := "isEmpty", desc := "()Z" } : Jvm.MethodName)).before a0 Z = true := hw _ (List.mem_of_getElem? (i := 17) rfl)
theorem w18 {Z : State} {a0 : Array Value} (hw : ∀ d ∈ tables_1, d.before a0 Z = true) : (Jvm.Cond.selects "java/lang/String" ({ cls := "java/lang/String", name := "isEmpty", desc := "()Z" } : Jvm.MethodName) ({ cls := "java/lang/String", name := "isEmpty", desc := "()Z" } : Jvm.MethodName)).before a0 Z = true := hw _ (List.mem_of_getElem? (i := 18) rfl)
theorem w19 {Z : State} {a0 : Array Value} (hw : ∀ d ∈ tables_1, d.before a0 Z = true) : (Jvm.Cond.initialized "java/lang/String").before a0 Z = true := hw _ (List.mem_of_getElem? (i := 19) rfl)
theorem w20 {Z : State} {a0 : Array Value} (hw : ∀ d ∈ tables_1, d.before a0 Z = true) : (Jvm.Cond.code ({ cls := "java/lang/String", name := "isEmpty", desc := "()Z" } : Jvm.MethodName) jdk_42_method_55_code (1 : Nat) (Option.some Jvm.ClassFile.FieldType.boolean)).before a0 Z = true := hw _ (List.mem_of_getElem? (i := 20) rfl)
theorem w21 {Z : State} {a0 : Array Value} (hw : ∀ d ∈ tables_1, d.before a0 Z = true) : (Jvm.Cond.fieldLink "java/lang/String" (9 : Nat) "java/lang/String" "value" "[B").before a0 Z = true := hw _ (List.mem_of_getElem? (i := 21) rfl)
theorem w23 {Z : State} {a0 : Array Value} (hw : ∀ d ∈ tables_1, d.before a0 Z = true) : (Jvm.Cond.methodLink "com/example/rosterd/rosterd/query/OperatorOrdersPinLaw" (48 : Nat) ({ cls := "java/lang/String", name := "charAt", desc := "(I)C" } : Jvm.MethodName)).before a0 Z = true := hw _ (List.mem_of_getElem? (i := 23) rfl)
theorem w24 {Z : State} {a0 : Array Value} (hw : ∀ d ∈ tables_1, d.before a0 Z = true) : (Jvm.Cond.declares ({ cls := "java/lang/String", name := "charAt", desc := "(I)C" } : Jvm.MethodName)).before a0 Z = true := hw _ (List.mem_of_getElem? (i := 24) rfl)
theorem w25 {Z : State} {a0 : Array Value} (hw : ∀ d ∈ tables_1, d.before a0 Z = true) : (Jvm.Cond.instanceMethod ({ cls := "java/lang/String", name := "charAt", desc := "(I)C" } : Jvm.MethodName)).before a0 Z = true := hw _ (List.mem_of_getElem? (i := 25) rfl)
theorem w26 {Z : State} {a0 : Array Value} (hw : ∀ d ∈ tables_1, d.before a0 Z = true) : (Jvm.Cond.selects "java/lang/String" ({ cls := "java/lang/String", name := "charAt", desc := "(I)C" } : Jvm.MethodName) ({ cls := "java/lang/String", name := "charAt", desc := "(I)C" } : Jvm.MethodName)).before a0 Z = true := hw _ (List.mem_of_getElem? (i := 26) rfl)
theorem w27 {Z : State} {a0 : Array Value} (hw : ∀ d ∈ tables_1, d.before a0 Z = true) : (Jvm.Cond.code ({ cls := "java/lang/String", name := "charAt", desc := "(I)C" } : Jvm.MethodName) jdk_42_method_56_code (2 : Nat) (Option.some Jvm.ClassFile.FieldType.char)).before a0 Z = true := hw _ (List.mem_of_getElem? (i := 27) rfl)
theorem w28 {Z : State} {a0 : Array Value} (hw : ∀ d ∈ tables_1, d.before a0 Z = true) : (Jvm.Cond.methodLink "java/lang/String" (492 : Nat) ({ cls := "java/lang/String", name := "isLatin1", desc := "()Z" } : Jvm.MethodName)).before a0 Z = true := hw _ (List.mem_of_getElem? (i := 28) rfl)
theorem w29 {Z : State} {a0 : Array Value} (hw : ∀ d ∈ tables_1, d.before a0 Z = true) : (Jvm.Cond.declares ({ cls := "java/lang/String", name := "isLatin1", desc := "()Z" } : Jvm.MethodName)).before a0 Z = true := hw _ (List.mem_of_getElem? (i := 29) rfl)
theorem w30 {Z : State} {a0 : Array Value} (hw : ∀ d ∈ tables_1, d.before a0 Z = true) : (Jvm.Cond.instanceMethod ({ cls := "java/lang/String", name := "isLatin1", desc := "()Z" } : Jvm.MethodName)).before a0 Z = true := hw _ (List.mem_of_getElem? (i := 30) rfl)
theorem w31 {Z : State} {a0 : Array Value} (hw : ∀ d ∈ tables_1, d.before a0 Z = true) : (Jvm.Cond.selects "java/lang/String" ({ cls := "java/lang/String", name := "isLatin1", desc := "()Z" } : Jvm.MethodName) ({ cls := "java/lang/String", name := "isLatin1", desc := "()Z" } : Jvm.MethodName)).before a0 Z = true := hw _ (List.mem_of_getElem? (i := 31) rfl)
theorem w32 {Z : State} {a0 : Array Value} (hw : ∀ d ∈ tables_1, d.before a0 Z = true) : (Jvm.Cond.code ({ cls := "java/lang/String", name := "isLatin1", desc := "()Z" } : Jvm.MethodName) jdk_42_method_154_code (1 : Nat) (Option.some Jvm.ClassFile.FieldType.boolean)).before a0 Z = true := hw _ (List.mem_of_getElem? (i := 32) rfl)
theorem w33 {Z : State} {a0 : Array Value} (hw : ∀ d ∈ tables_1, d.before a0 Z = true) : (Jvm.Cond.fieldLink "java/lang/String" (38 : Nat) "java/lang/String" "COMPACT_STRINGS" "Z").before a0 Z = true := hw _ (List.mem_of_getElem? (i := 33) rfl)
theorem w34 {Z : State} {a0 : Array Value} (hw : ∀ d ∈ tables_1, d.before a0 Z = true) : (Jvm.Cond.fieldLink "java/lang/String" (15 : Nat) "java/lang/String" "coder" "B").before a0 Z = true := hw _ (List.mem_of_getElem? (i := 34) rfl)
theorem w36 {Z : State} {a0 : Array Value} (hw : ∀ d ∈ tables_1, d.before a0 Z = true) : (Jvm.Cond.methodLink "java/lang/String" (495 : Nat) ({ cls := "java/lang/StringLatin1", name := "charAt", desc := "([BI)C" } : Jvm.MethodName)).before a0 Z = true := hw _ (List.mem_of_getElem? (i := 36) rfl)
theorem w37 {Z : State} {a0 : Array Value} (hw : ∀ d ∈ tables_1, d.before a0 Z = true) : (Jvm.Cond.static ({ cls := "java/lang/StringLatin1", name := "charAt", desc := "([BI)C" } : Jvm.MethodName)).before a0 Z = true := hw _ (List.mem_of_getElem? (i := 37) rfl)
theorem w38 {Z : State} {a0 : Array Value} (hw : ∀ d ∈ tables_1, d.before a0 Z = true) : (Jvm.Cond.initialized "java/lang/StringLatin1").before a0 Z = true := hw _ (List.mem_of_getElem? (i := 38) rfl)
theorem w39 {Z : State} {a0 : Array Value} (hw : ∀ d ∈ tables_1, d.before a0 Z = true) : (Jvm.Cond.code ({ cls := "java/lang/StringLatin1", name := "charAt", desc := "([BI)C" } : Jvm.MethodName) jdk_43_method_2_code (2 : Nat) (Option.some Jvm.ClassFile.FieldType.char)).before a0 Z = true := hw _ (List.mem_of_getElem? (i := 39) rfl)
theorem w40 {Z : State} {a0 : Array Value} (hw : ∀ d ∈ tables_1, d.before a0 Z = true) : (Jvm.Cond.methodLink "java/lang/StringLatin1" (9 : Nat) ({ cls := "java/lang/String", name := "checkIndex", desc := "(II)V" } : Jvm.MethodName)).before a0 Z = true := hw _ (List.mem_of_getElem? (i := 40) rfl)
theorem w41 {Z : State} {a0 : Array Value} (hw : ∀ d ∈ tables_1, d.before a0 Z = true) : (Jvm.Cond.static ({ cls := "java/lang/String", name := "checkIndex", desc := "(II)V" } : Jvm.MethodName)).before a0 Z = true := hw _ (List.mem_of_getElem? (i := 41) rfl)
theorem w42 {Z : State} {a0 : Array Value} (hw : ∀ d ∈ tables_1, d.before a0 Z = true) : (Jvm.Cond.code ({ cls := "java/lang/String", name := "checkIndex", desc := "(II)V" } : Jvm.MethodName) jdk_42_method_155_code (2 : Nat) (Option.none : Option Jvm.ClassFile.FieldType)).before a0 Z = true := hw _ (List.mem_of_getElem? (i := 42) rfl)
theorem w43 {Z : State} {a0 : Array Value} (hw : ∀ d ∈ tables_1, d.before a0 Z = true) : (Jvm.Cond.fieldLink "java/lang/String" (1053 : Nat) "jdk/internal/util/Preconditions" "SIOOBE_FORMATTER" "Ljava/util/function/BiFunction;").before a0 Z = true := hw _ (List.mem_of_getElem? (i := 43) rfl)
theorem w44 {Z : State} {a0 : Array Value} (hw : ∀ d ∈ tables_1, d.before a0 Z = true) : (Jvm.Cond.initialized "jdk/internal/util/Preconditions").before a0 Z = true := hw _ (List.mem_of_getElem? (i := 44) rfl)
theorem w45 {Z : State} {a0 : Array Value} (hw : ∀ d ∈ tables_1, d.before a0 Z = true) : (Jvm.Cond.methodLink "java/lang/String" (1059 : Nat) ({ cls := "jdk/internal/util/Preconditions", name := "checkIndex", desc := "(IILjava/util/function/BiFunction;)I" } : Jvm.MethodName)).before a0 Z = true := hw _ (List.mem_of_getElem? (i := 45) rfl)
theorem w46 {Z : State} {a0 : Array Value} (hw : ∀ d ∈ tables_1, d.before a0 Z = true) : (Jvm.Cond.static ({ cls := "jdk/internal/util/Preconditions", name := "checkIndex", desc := "(IILjava/util/function/BiFunction;)I" } : Jvm.MethodName)).before a0 Z = true := hw _ (List.mem_of_getElem? (i := 46) rfl)
theorem w47 {Z : State} {a0 : Array Value} (hw : ∀ d ∈ tables_1, d.before a0 Z = true) : (Jvm.Cond.code ({ cls := "jdk/internal/util/Preconditions", name := "checkIndex", desc := "(IILjava/util/function/BiFunction;)I" } : Jvm.MethodName) jdk_41_method_11_code (3 : Nat) (Option.some Jvm.ClassFile.FieldType.int)).before a0 Z = true := hw _ (List.mem_of_getElem? (i := 47) rfl)
theorem w48 {Z : State} {a0 : Array Value} (hw : ∀ d ∈ tables_1, d.before a0 Z = true) : (Jvm.Cond.methodLink "com/example/rosterd/rosterd/query/OperatorOrdersPinLaw" (52 : Nat) ({ cls := "com/example/rosterd/rosterd/query/Operator", name := "orders", desc := "()Z" } : Jvm.MethodName)).before a0 Z = true := hw _ (List.mem_of_getElem? (i := 48) rfl)
theorem w49 {Z : State} {a0 : Array Value} (hw : ∀ d ∈ tables_1, d.before a0 Z = true) : (Jvm.Cond.declares ({ cls := "com/example/rosterd/rosterd/query/Operator", name := "orders", desc := "()Z" } : Jvm.MethodName)).before a0 Z = true := hw _ (List.mem_of_getElem? (i := 49) rfl)
theorem w50 {Z : State} {a0 : Array Value} (hw : ∀ d ∈ tables_1, d.before a0 Z = true) : (Jvm.Cond.instanceMethod ({ cls := "com/example/rosterd/rosterd/query/Operator", name := "orders", desc := "()Z" } : Jvm.MethodName)).before a0 Z = true := hw _ (List.mem_of_getElem? (i := 50) rfl)
theorem w51 {Z : State} {a0 : Array Value} (hw : ∀ d ∈ tables_1, d.before a0 Z = true) : (Jvm.Cond.selects "com/example/rosterd/rosterd/query/Operator" ({ cls := "com/example/rosterd/rosterd/query/Operator", name := "orders", desc := "()Z" } : Jvm.MethodName) ({ cls := "com/example/rosterd/rosterd/query/Operator", name := "orders", desc := "()Z" } : Jvm.MethodName)).before a0 Z = true := hw _ (List.mem_of_getElem? (i := 51) rfl)
theorem w52 {Z : State} {a0 : Array Value} (hw : ∀ d ∈ tables_1, d.before a0 Z = true) : (Jvm.Cond.code ({ cls := "com/example/rosterd/rosterd/query/Operator", name := "orders", desc := "()Z" } : Jvm.MethodName) prog_10_method_7_code (1 : Nat) (Option.some Jvm.ClassFile.FieldType.boolean)).before a0 Z = true := hw _ (List.mem_of_getElem? (i := 52) rfl)
theorem w53 {Z : State} {a0 : Array Value} (hw : ∀ d ∈ tables_1, d.before a0 Z = true) : (Jvm.Cond.fieldLink "com/example/rosterd/rosterd/query/Operator" (16 : Nat) "com/example/rosterd/rosterd/query/Operator" "GREATER" "Lcom/example/rosterd/rosterd/query/Operator;").before a0 Z = true := hw _ (List.mem_of_getElem? (i := 53) rfl)
theorem w54 {Z : State} {a0 : Array Value} (hw : ∀ d ∈ tables_1, d.before a0 Z = true) : (Jvm.Cond.laysStatic "com/example/rosterd/rosterd/query/Operator" "GREATER" "Lcom/example/rosterd/rosterd/query/Operator;").before a0 Z = true := hw _ (List.mem_of_getElem? (i := 54) rfl)
theorem w55 {Z : State} {a0 : Array Value} (hw : ∀ d ∈ tables_1, d.before a0 Z = true) : (Jvm.Cond.fieldLink "com/example/rosterd/rosterd/query/Operator" (7 : Nat) "com/example/rosterd/rosterd/query/Operator" "GREATER_OR_EQUAL" "Lcom/example/rosterd/rosterd/query/Operator;").before a0 Z = true := hw _ (List.mem_of_getElem? (i := 55) rfl)
theorem w56 {Z : State} {a0 : Array Value} (hw : ∀ d ∈ tables_1, d.before a0 Z = true) : (Jvm.Cond.laysStatic "com/example/rosterd/rosterd/query/Operator" "GREATER_OR_EQUAL" "Lcom/example/rosterd/rosterd/query/Operator;").before a0 Z = true := hw _ (List.mem_of_getElem? (i := 56) rfl)
theorem w57 {Z : State} {a0 : Array Value} (hw : ∀ d ∈ tables_1, d.before a0 Z = true) : (Jvm.Cond.fieldLink "com/example/rosterd/rosterd/query/Operator" (19 : Nat) "com/example/rosterd/rosterd/query/Operator" "LESS" "Lcom/example/rosterd/rosterd/query/Operator;").before a0 Z = true := hw _ (List.mem_of_getElem? (i := 57) rfl)
theorem w58 {Z : State} {a0 : Array Value} (hw : ∀ d ∈ tables_1, d.before a0 Z = true) : (Jvm.Cond.laysStatic "com/example/rosterd/rosterd/query/Operator" "LESS" "Lcom/example/rosterd/rosterd/query/Operator;").before a0 Z = true := hw _ (List.mem_of_getElem? (i := 58) rfl)
theorem w59 {Z : State} {a0 : Array Value} (hw : ∀ d ∈ tables_1, d.before a0 Z = true) : (Jvm.Cond.fieldLink "com/example/rosterd/rosterd/query/Operator" (10 : Nat) "com/example/rosterd/rosterd/query/Operator" "LESS_OR_EQUAL" "Lcom/example/rosterd/rosterd/query/Operator;").before a0 Z = true := hw _ (List.mem_of_getElem? (i := 59) rfl)
theorem w60 {Z : State} {a0 : Array Value} (hw : ∀ d ∈ tables_1, d.before a0 Z = true) : (Jvm.Cond.laysStatic "com/example/rosterd/rosterd/query/Operator" "LESS_OR_EQUAL" "Lcom/example/rosterd/rosterd/query/Operator;").before a0 Z = true := hw _ (List.mem_of_getElem? (i := 60) rfl)
theorem w61 {Z : State} {a0 : Array Value} (hw : ∀ d ∈ tables_1, d.before a0 Z = true) : (Jvm.Cond.fieldLink "com/example/rosterd/rosterd/query/OperatorOrdersPinLaw" (19 : Nat) "com/example/rosterd/rosterd/query/Operator" "EQUAL" "Lcom/example/rosterd/rosterd/query/Operator;").before a0 Z = true := hw _ (List.mem_of_getElem? (i := 61) rfl)
theorem w62 {Z : State} {a0 : Array Value} (hw : ∀ d ∈ tables_1, d.before a0 Z = true) : (Jvm.Cond.laysStatic "com/example/rosterd/rosterd/query/Operator" "EQUAL" "Lcom/example/rosterd/rosterd/query/Operator;").before a0 Z = true := hw _ (List.mem_of_getElem? (i := 62) rfl)
theorem w63 {Z : State} {a0 : Array Value} (hw : ∀ d ∈ tables_1, d.before a0 Z = true) : (Jvm.Cond.fieldLink "com/example/rosterd/rosterd/query/OperatorOrdersPinLaw" (25 : Nat) "com/example/rosterd/rosterd/query/Operator" "LESS" "Lcom/example/rosterd/rosterd/query/Operator;").before a0 Z = true := hw _ (List.mem_of_getElem? (i := 63) rfl)
theorem w64 {Z : State} {a0 : Array Value} (hw : ∀ d ∈ tables_1, d.before a0 Z = true) : (Jvm.Cond.fieldLink "com/example/rosterd/rosterd/query/OperatorOrdersPinLaw" (28 : Nat) "com/example/rosterd/rosterd/query/Operator" "CONTAINS" "Lcom/example/rosterd/rosterd/query/Operator;").before a0 Z = true := hw _ (List.mem_of_getElem? (i := 64) rfl)
theorem w65 {Z : State} {a0 : Array Value} (hw : ∀ d ∈ tables_1, d.before a0 Z = true) : (Jvm.Cond.laysStatic "com/example/rosterd/rosterd/query/Operator" "CONTAINS" "Lcom/example/rosterd/rosterd/query/Operator;").before a0 Z = true := hw _ (List.mem_of_getElem? (i := 65) rfl)
theorem w66 {Z : State} {a0 : Array Value} (hw : ∀ d ∈ tables_1, d.before a0 Z = true) : (Jvm.Cond.fieldLink "com/example/rosterd/rosterd/query/OperatorOrdersPinLaw" (22 : Nat) "com/example/rosterd/rosterd/query/Operator" "GREATER" "Lcom/example/rosterd/rosterd/query/Operator;").before a0 Z = true := hw _ (List.mem_of_getElem? (i := 66) rfl)
theorem w67 {Z : State} {a0 : Array Value} (hw : ∀ d ∈ tables_1, d.before a0 Z = true) : (Jvm.Cond.fieldLink "com/example/rosterd/rosterd/query/OperatorOrdersPinLaw" (16 : Nat) "com/example/rosterd/rosterd/query/Operator" "LESS_OR_EQUAL" "Lcom/example/rosterd/rosterd/query/Operator;").before a0 Z = true := hw _ (List.mem_of_getElem? (i := 67) rfl)
theorem w68 {Z : State} {a0 : Array Value} (hw : ∀ d ∈ tables_1, d.before a0 Z = true) : (Jvm.Cond.fieldLink "com/example/rosterd/rosterd/query/OperatorOrdersPinLaw" (13 : Nat) "com/example/rosterd/rosterd/query/Operator" "GREATER_OR_EQUAL" "Lcom/example/rosterd/rosterd/query/Operator;").before a0 Z = true := hw _ (List.mem_of_getElem? (i := 68) rfl)
theorem d_pick0_0 : decode method_2_code 0 = .ok (.iload_n 0, 1) := by decide +kernel
theorem d_pick0_1 : decode method_2_code 1 = .ok (.ifCond .ne 7, 3) := by decide +kernel
theorem d_pick0_4 : decode method_2_code 4 = .ok (.getstatic 7, 3) := by decide +kernel
theorem d_pick0_7 : decode method_2_code 7 = .ok (.areturn, 1) := by decide +kernel
theorem pn_pick0 : plainName "com/example/rosterd/rosterd/query/OperatorOrdersPinLaw" = true := by first | (simp [plainName, overriddenIn]; done) | decide +kernel
theorem d_pick1_0 : decode method_2_code 0 = .ok (.iload_n 0, 1) := by decide +kernel
theorem d_pick1_1 : decode method_2_code 1 = .ok (.ifCond .ne 7, 3) := by decide +kernel
theorem d_pick1_8 : decode method_2_code 8 = .ok (.iload_n 0, 1) := by decide +kernel
theorem d_pick1_9 : decode method_2_code 9 = .ok (.iconst 1, 1) := by decide +kernel
theorem d_pick1_10 : decode method_2_code 10 = .ok (.if_icmp .ne 7, 3) := by decide +kernel
theorem d_pick1_13 : decode method_2_code 13 = .ok (.getstatic 13, 3) := by decide +kernel
theorem d_pick1_16 : decode method_2_code 16 = .ok (.areturn, 1) := by decide +kernel
theorem pn_pick1 : plainName "com/example/rosterd/rosterd/query/OperatorOrdersPinLaw" = true := by first | (simp [plainName, overriddenIn]; done) | decide +kernel
theorem d_pick2_0 : decode method_2_code 0 = .ok (.iload_n 0, 1) := by decide +kernel
theorem d_pick2_1 : decode method_2_code 1 = .ok (.ifCond .ne 7, 3) := by decide +kernel
theorem d_pick2_8 : decode method_2_code 8 = .ok (.iload_n 0, 1) := by decide +kernel
theorem d_pick2_9 : decode method_2_code 9 = .ok (.iconst 1, 1) := by decide +kernel
theorem d_pick2_10 : decode method_2_code 10 = .ok (.if_icmp .ne 7, 3) := by decide +kernel
theorem d_pick2_17 : decode method_2_code 17 = .ok (.iload_n 0, 1) := by decide +kernel
theorem d_pick2_18 : decode method_2_code 18 = .ok (.iconst 2, 1) := by decide +kernel
theorem d_pick2_19 : decode method_2_code 19 = .ok (.if_icmp .ne 7, 3) := by decide +kernel
theorem d_pick2_22 : decode method_2_code 22 = .ok (.getstatic 16, 3) := by decide +kernel
theorem d_pick2_25 : decode method_2_code 25 = .ok (.areturn, 1) := by decide +kernel
theorem pn_pick2 : plainName "com/example/rosterd/rosterd/query/OperatorOrdersPinLaw" = true := by first | (simp [plainName, overriddenIn]; done) | decide +kernel
theorem d_pick3_0 : decode method_2_code 0 = .ok (.iload_n 0, 1) := by decide +kernel
theorem d_pick3_1 : decode method_2_code 1 = .ok (.ifCond .ne 7, 3) := by decide +kernel
theorem d_pick3_8 : decode method_2_code 8 = .ok (.iload_n 0, 1) := by decide +kernel
theorem d_pick3_9 : decode method_2_code 9 = .ok (.iconst 1, 1) := by decide +kernel
theorem d_pick3_10 : decode method_2_code 10 = .ok (.if_icmp .ne 7, 3) := by decide +kernel
theorem d_pick3_17 : decode method_2_code 17 = .ok (.iload_n 0, 1) := by decide +kernel
theorem d_pick3_18 : decode method_2_code 18 = .ok (.iconst 2, 1) := by decide +kernel
theorem d_pick3_19 : decode method_2_code 19 = .ok (.if_icmp .ne 7, 3) := by decide +kernel
theorem d_pick3_26 : decode method_2_code 26 = .ok (.iload_n 0, 1) := by decide +kernel
theorem d_pick3_27 : decode method_2_code 27 = .ok (.iconst 3, 1) := by decide +kernel
theorem d_pick3_28 : decode method_2_code 28 = .ok (.if_icmp .ne 7, 3) := by decide +kernel
theorem d_pick3_31 : decode method_2_code 31 = .ok (.getstatic 19, 3) := by decide +kernel
theorem d_pick3_34 : decode method_2_code 34 = .ok (.areturn, 1) := by decide +kernel
theorem pn_pick3 : plainName "com/example/rosterd/rosterd/query/OperatorOrdersPinLaw" = true := by first | (simp [plainName, overriddenIn]; done) | decide +kernel
theorem d_pick4_0 : decode method_2_code 0 = .ok (.iload_n 0, 1) := by decide +kernel
theorem d_pick4_1 : decode method_2_code 1 = .ok (.ifCond .ne 7, 3) := by decide +kernel
theorem d_pick4_8 : decode method_2_code 8 = .ok (.iload_n 0, 1) := by decide +kernel
theorem d_pick4_9 : decode method_2_code 9 = .ok (.iconst 1, 1) := by decide +kernel
theorem d_pick4_10 : decode method_2_code 10 = .ok (.if_icmp .ne 7, 3) := by decide +kernel
theorem d_pick4_17 : decode method_2_code 17 = .ok (.iload_n 0, 1) := by decide +kernel
theorem d_pick4_18 : decode method_2_code 18 = .ok (.iconst 2, 1) := by decide +kernel
theorem d_pick4_19 : decode method_2_code 19 = .ok (.if_icmp .ne 7, 3) := by decide +kernel
theorem d_pick4_26 : decode method_2_code 26 = .ok (.iload_n 0, 1) := by decide +kernel
theorem d_pick4_27 : decode method_2_code 27 = .ok (.iconst 3, 1) := by decide +kernel
theorem d_pick4_28 : decode method_2_code 28 = .ok (.if_icmp .ne 7, 3) := by decide +kernel
theorem d_pick4_35 : decode method_2_code 35 = .ok (.iload_n 0, 1) := by decide +kernel
theorem d_pick4_36 : decode method_2_code 36 = .ok (.iconst 4, 1) := by decide +kernel
theorem d_pick4_37 : decode method_2_code 37 = .ok (.if_icmp .ne 7, 3) := by decide +kernel
theorem d_pick4_40 : decode method_2_code 40 = .ok (.getstatic 22, 3) := by decide +kernel
theorem d_pick4_43 : decode method_2_code 43 = .ok (.areturn, 1) := by decide +kernel
theorem pn_pick4 : plainName "com/example/rosterd/rosterd/query/OperatorOrdersPinLaw" = true := by first | (simp [plainName, overriddenIn]; done) | decide +kernel
theorem d_pick5_0 : decode method_2_code 0 = .ok (.iload_n 0, 1) := by decide +kernel
theorem d_pick5_1 : decode method_2_code 1 = .ok (.ifCond .ne 7, 3) := by decide +kernel
theorem d_pick5_8 : decode method_2_code 8 = .ok (.iload_n 0, 1) := by decide +kernel
theorem d_pick5_9 : decode method_2_code 9 = .ok (.iconst 1, 1) := by decide +kernel
theorem d_pick5_10 : decode method_2_code 10 = .ok (.if_icmp .ne 7, 3) := by decide +kernel
theorem d_pick5_17 : decode method_2_code 17 = .ok (.iload_n 0, 1) := by decide +kernel
theorem d_pick5_18 : decode method_2_code 18 = .ok (.iconst 2, 1) := by decide +kernel
theorem d_pick5_19 : decode method_2_code 19 = .ok (.if_icmp .ne 7, 3) := by decide +kernel
theorem d_pick5_26 : decode method_2_code 26 = .ok (.iload_n 0, 1) := by decide +kernel
theorem d_pick5_27 : decode method_2_code 27 = .ok (.iconst 3, 1) := by decide +kernel
theorem d_pick5_28 : decode method_2_code 28 = .ok (.if_icmp .ne 7, 3) := by decide +kernel
theorem d_pick5_35 : decode method_2_code 35 = .ok (.iload_n 0, 1) := by decide +kernel
theorem d_pick5_36 : decode method_2_code 36 = .ok (.iconst 4, 1) := by decide +kernel
theorem d_pick5_37 : decode method_2_code 37 = .ok (.if_icmp .ne 7, 3) := by decide +kernel
theorem d_pick5_44 : decode method_2_code 44 = .ok (.iload_n 0, 1) := by decide +kernel
theorem d_pick5_45 : decode method_2_code 45 = .ok (.iconst 5, 1) := by decide +kernel
theorem d_pick5_46 : decode method_2_code 46 = .ok (.if_icmp .ne 7, 3) := by decide +kernel
theorem d_pick5_49 : decode method_2_code 49 = .ok (.getstatic 25, 3) := by decide +kernel
theorem d_pick5_52 : decode method_2_code 52 = .ok (.areturn, 1) := by decide +kernel
theorem pn_pick5 : plainName "com/example/rosterd/rosterd/query/OperatorOrdersPinLaw" = true := by first | (simp [plainName, overriddenIn]; done) | decide +kernel
theorem d_pick6_0 : decode method_2_code 0 = .ok (.iload_n 0, 1) := by decide +kernel
theorem d_pick6_1 : decode method_2_code 1 = .ok (.ifCond .ne 7, 3) := by decide +kernel
theorem d_pick6_8 : decode method_2_code 8 = .ok (.iload_n 0, 1) := by decide +kernel
theorem d_pick6_9 : decode method_2_code 9 = .ok (.iconst 1, 1) := by decide +kernel
theorem d_pick6_10 : decode method_2_code 10 = .ok (.if_icmp .ne 7, 3) := by decide +kernel
theorem d_pick6_17 : decode method_2_code 17 = .ok (.iload_n 0, 1) := by decide +kernel
theorem d_pick6_18 : decode method_2_code 18 = .ok (.iconst 2, 1) := by decide +kernel
theorem d_pick6_19 : decode method_2_code 19 = .ok (.if_icmp .ne 7, 3) := by decide +kernel
theorem d_pick6_26 : decode method_2_code 26 = .ok (.iload_n 0, 1) := by decide +kernel
theorem d_pick6_27 : decode method_2_code 27 = .ok (.iconst 3, 1) := by decide +kernel
theorem d_pick6_28 : decode method_2_code 28 = .ok (.if_icmp .ne 7, 3) := by decide +kernel
theorem d_pick6_35 : decode method_2_code 35 = .ok (.iload_n 0, 1) := by decide +kernel
theorem d_pick6_36 : decode method_2_code 36 = .ok (.iconst 4, 1) := by decide +kernel
theorem d_pick6_37 : decode method_2_code 37 = .ok (.if_icmp .ne 7, 3) := by decide +kernel
theorem d_pick6_44 : decode method_2_code 44 = .ok (.iload_n 0, 1) := by decide +kernel
theorem d_pick6_45 : decode method_2_code 45 = .ok (.iconst 5, 1) := by decide +kernel
theorem d_pick6_46 : decode method_2_code 46 = .ok (.if_icmp .ne 7, 3) := by decide +kernel
theorem d_pick6_53 : decode method_2_code 53 = .ok (.getstatic 28, 3) := by decide +kernel
theorem d_pick6_56 : decode method_2_code 56 = .ok (.areturn, 1) := by decide +kernel
theorem pn_pick6 : plainName "com/example/rosterd/rosterd/query/OperatorOrdersPinLaw" = true := by first | (simp [plainName, overriddenIn]; done) | decide +kernel
theorem d_sym_0 : decode prog_10_method_4_code 0 = .ok (.aload_n 0, 1) := by decide +kernel
theorem d_sym_1 : decode prog_10_method_4_code 1 = .ok (.getfield 44, 3) := by decide +kernel
theorem d_sym_4 : decode prog_10_method_4_code 4 = .ok (.areturn, 1) := by decide +kernel
theorem pn_sym : plainName "com/example/rosterd/rosterd/query/Operator" = true := by first | (simp [plainName, overriddenIn]; done) | decide +kernel
theorem d_ie1_0 : decode jdk_42_method_55_code 0 = .ok (.aload_n 0, 1) := by decide +kernel
theorem d_ie1_1 : decode jdk_42_method_55_code 1 = .ok (.getfield 9, 3) := by decide +kernel
theorem d_ie1_4 : decode jdk_42_method_55_code 4 = .ok (.arraylength, 1) := by decide +kernel
theorem d_ie1_5 : decode jdk_42_method_55_code 5 = .ok (.ifCond .ne 7, 3) := by decide +kernel
theorem d_ie1_12 : decode jdk_42_method_55_code 12 = .ok (.iconst 0, 1) := by decide +kernel
theorem d_ie1_13 : decode jdk_42_method_55_code 13 = .ok (.ireturn, 1) := by decide +kernel
theorem pn_ie1 : plainName "java/lang/String" = true := by first | (simp [plainName, overriddenIn]; done) | decide +kernel
theorem d_ie2_0 : decode jdk_42_method_55_code 0 = .ok (.aload_n 0, 1) := by decide +kernel
theorem d_ie2_1 : decode jdk_42_method_55_code 1 = .ok (.getfield 9, 3) := by decide +kernel
theorem d_ie2_4 : decode jdk_42_method_55_code 4 = .ok (.arraylength, 1) := by decide +kernel
theorem d_ie2_5 : decode jdk_42_method_55_code 5 = .ok (.ifCond .ne 7, 3) := by decide +kernel
theorem d_ie2_12 : decode jdk_42_method_55_code 12 = .ok (.iconst 0, 1) := by decide +kernel
theorem d_ie2_13 : decode jdk_42_method_55_code 13 = .ok (.ireturn, 1) := by decide +kernel
theorem pn_ie2 : plainName "java/lang/String" = true := by first | (simp [plainName, overriddenIn]; done) | decide +kernel
theorem d_isl_0 : decode jdk_42_method_154_code 0 = .ok (.getstatic 38, 3) := by decide +kernel
theorem d_isl_3 : decode jdk_42_method_154_code 3 = .ok (.ifCond .eq 14, 3) := by decide +kernel
theorem d_isl_6 : decode jdk_42_method_154_code 6 = .ok (.aload_n 0, 1) := by decide +kernel
theorem d_isl_7 : decode jdk_42_method_154_code 7 = .ok (.getfield 15, 3) := by decide +kernel
theorem d_isl_10 : decode jdk_42_method_154_code 10 = .ok (.ifCond .ne 7, 3) := by decide +kernel
theorem d_isl_13 : decode jdk_42_method_154_code 13 = .ok (.iconst 1, 1) := by decide +kernel
theorem d_isl_14 : decode jdk_42_method_154_code 14 = .ok (.goto 4, 3) := by decide +kernel
theorem d_isl_18 : decode jdk_42_method_154_code 18 = .ok (.ireturn, 1) := by decide +kernel
theorem pn_isl : plainName "java/lang/String" = true := by first | (simp [plainName, overriddenIn]; done) | decide +kernel
theorem d_pc1_0 : decode jdk_41_method_11_code 0 = .ok (.iload_n 0, 1) := by decide +kernel
theorem d_pc1_1 : decode jdk_41_method_11_code 1 = .ok (.ifCond .lt 8, 3) := by decide +kernel
theorem d_pc1_4 : decode jdk_41_method_11_code 4 = .ok (.iload_n 0, 1) := by decide +kernel
theorem d_pc1_5 : decode jdk_41_method_11_code 5 = .ok (.iload_n 1, 1) := by decide +kernel
theorem d_pc1_6 : decode jdk_41_method_11_code 6 = .ok (.if_icmp .lt 10, 3) := by decide +kernel
theorem d_pc1_16 : decode jdk_41_method_11_code 16 = .ok (.iload_n 0, 1) := by decide +kernel
theorem d_pc1_17 : decode jdk_41_method_11_code 17 = .ok (.ireturn, 1) := by decide +kernel
theorem pn_pc1 : plainName "jdk/internal/util/Preconditions" = true := by first | (simp [plainName, overriddenIn]; done) | decide +kernel
theorem d_sc1_0 : decode jdk_42_method_155_code 0 = .ok (.iload_n 0, 1) := by decide +kernel
theorem d_sc1_1 : decode jdk_42_method_155_code 1 = .ok (.iload_n 1, 1) := by decide +kernel
theorem d_sc1_2 : decode jdk_42_method_155_code 2 = .ok (.getstatic 1053, 3) := by decide +kernel
theorem d_sc1_5 : decode jdk_42_method_155_code 5 = .ok (.invokestatic 1059, 3) := by decide +kernel
theorem pd_0 : parseMethodDescriptor "(IILjava/util/function/BiFunction;)I" = some ⟨[.int, .int, (.object "java/util/function/BiFunction")], some .int⟩ := by decide +kernel
theorem d_sc1_8 : decode jdk_42_method_155_code 8 = .ok (.pop, 1) := by decide +kernel
theorem d_sc1_9 : decode jdk_42_method_155_code 9 = .ok (.return_, 1) := by decide +kernel
theorem pn_sc1 : plainName "java/lang/String" = true := by first | (simp [plainName, overriddenIn]; done) | decide +kernel
theorem d_lc1_0 : decode jdk_43_method_2_code 0 = .ok (.iload_n 1, 1) := by decide +kernel
theorem d_lc1_1 : decode jdk_43_method_2_code 1 = .ok (.aload_n 0, 1) := by decide +kernel
theorem d_lc1_2 : decode jdk_43_method_2_code 2 = .ok (.arraylength, 1) := by decide +kernel
theorem d_lc1_3 : decode jdk_43_method_2_code 3 = .ok (.invokestatic 9, 3) := by decide +kernel
theorem pd_1 : parseMethodDescriptor "(II)V" = some ⟨[.int, .int], none⟩ := by decide +kernel
theorem d_lc1_6 : decode jdk_43_method_2_code 6 = .ok (.aload_n 0, 1) := by decide +kernel
theorem d_lc1_7 : decode jdk_43_method_2_code 7 = .ok (.iload_n 1, 1) := by decide +kernel
theorem d_lc1_8 : decode jdk_43_method_2_code 8 = .ok (.baload, 1) := by decide +kernel
theorem d_lc1_9 : decode jdk_43_method_2_code 9 = .ok (.sipush 255, 3) := by decide +kernel
theorem d_lc1_12 : decode jdk_43_method_2_code 12 = .ok (.iand, 1) := by decide +kernel
theorem d_lc1_13 : decode jdk_43_method_2_code 13 = .ok (.i2c, 1) := by decide +kernel
theorem d_lc1_14 : decode jdk_43_method_2_code 14 = .ok (.ireturn, 1) := by decide +kernel
theorem pn_lc1 : plainName "java/lang/StringLatin1" = true := by first | (simp [plainName, overriddenIn]; done) | decide +kernel
theorem d_ca1_0 : decode jdk_42_method_56_code 0 = .ok (.aload_n 0, 1) := by decide +kernel
theorem d_ca1_1 : decode jdk_42_method_56_code 1 = .ok (.invokevirtual 492, 3) := by decide +kernel
theorem pd_2 : parseMethodDescriptor "()Z" = some ⟨[], some .boolean⟩ := by decide +kernel
theorem d_ca1_4 : decode jdk_42_method_56_code 4 = .ok (.ifCond .eq 12, 3) := by decide +kernel
theorem d_ca1_7 : decode jdk_42_method_56_code 7 = .ok (.aload_n 0, 1) := by decide +kernel
theorem d_ca1_8 : decode jdk_42_method_56_code 8 = .ok (.getfield 9, 3) := by decide +kernel
theorem d_ca1_11 : decode jdk_42_method_56_code 11 = .ok (.iload_n 1, 1) := by decide +kernel
theorem d_ca1_12 : decode jdk_42_method_56_code 12 = .ok (.invokestatic 495, 3) := by decide +kernel
theorem pd_3 : parseMethodDescriptor "([BI)C" = some ⟨[(.array .byte), .int], some .char⟩ := by decide +kernel
theorem d_ca1_15 : decode jdk_42_method_56_code 15 = .ok (.ireturn, 1) := by decide +kernel
theorem pn_ca1 : plainName "java/lang/String" = true := by first | (simp [plainName, overriddenIn]; done) | decide +kernel
theorem d_pc2_0 : decode jdk_41_method_11_code 0 = .ok (.iload_n 0, 1) := by decide +kernel
theorem d_pc2_1 : decode jdk_41_method_11_code 1 = .ok (.ifCond .lt 8, 3) := by decide +kernel
theorem d_pc2_4 : decode jdk_41_method_11_code 4 = .ok (.iload_n 0, 1) := by decide +kernel
theorem d_pc2_5 : decode jdk_41_method_11_code 5 = .ok (.iload_n 1, 1) := by decide +kernel
theorem d_pc2_6 : decode jdk_41_method_11_code 6 = .ok (.if_icmp .lt 10, 3) := by decide +kernel
theorem d_pc2_16 : decode jdk_41_method_11_code 16 = .ok (.iload_n 0, 1) := by decide +kernel
theorem d_pc2_17 : decode jdk_41_method_11_code 17 = .ok (.ireturn, 1) := by decide +kernel
theorem pn_pc2 : plainName "jdk/internal/util/Preconditions" = true := by first | (simp [plainName, overriddenIn]; done) | decide +kernel
theorem d_sc2_0 : decode jdk_42_method_155_code 0 = .ok (.iload_n 0, 1) := by decide +kernel
theorem d_sc2_1 : decode jdk_42_method_155_code 1 = .ok (.iload_n 1, 1) := by decide +kernel
theorem d_sc2_2 : decode jdk_42_method_155_code 2 = .ok (.getstatic 1053, 3) := by decide +kernel
theorem d_sc2_5 : decode jdk_42_method_155_code 5 = .ok (.invokestatic 1059, 3) := by decide +kernel
theorem d_sc2_8 : decode jdk_42_method_155_code 8 = .ok (.pop, 1) := by decide +kernel
theorem d_sc2_9 : decode jdk_42_method_155_code 9 = .ok (.return_, 1) := by decide +kernel
theorem pn_sc2 : plainName "java/lang/String" = true := by first | (simp [plainName, overriddenIn]; done) | decide +kernel
theorem d_lc2_0 : decode jdk_43_method_2_code 0 = .ok (.iload_n 1, 1) := by decide +kernel
theorem d_lc2_1 : decode jdk_43_method_2_code 1 = .ok (.aload_n 0, 1) := by decide +kernel
theorem d_lc2_2 : decode jdk_43_method_2_code 2 = .ok (.arraylength, 1) := by decide +kernel
theorem d_lc2_3 : decode jdk_43_method_2_code 3 = .ok (.invokestatic 9, 3) := by decide +kernel
theorem d_lc2_6 : decode jdk_43_method_2_code 6 = .ok (.aload_n 0, 1) := by decide +kernel
theorem d_lc2_7 : decode jdk_43_method_2_code 7 = .ok (.iload_n 1, 1) := by decide +kernel
theorem d_lc2_8 : decode jdk_43_method_2_code 8 = .ok (.baload, 1) := by decide +kernel
theorem d_lc2_9 : decode jdk_43_method_2_code 9 = .ok (.sipush 255, 3) := by decide +kernel
theorem d_lc2_12 : decode jdk_43_method_2_code 12 = .ok (.iand, 1) := by decide +kernel
theorem d_lc2_13 : decode jdk_43_method_2_code 13 = .ok (.i2c, 1) := by decide +kernel
theorem d_lc2_14 : decode jdk_43_method_2_code 14 = .ok (.ireturn, 1) := by decide +kernel
theorem pn_lc2 : plainName "java/lang/StringLatin1" = true := by first | (simp [plainName, overriddenIn]; done) | decide +kernel
theorem d_ca2_0 : decode jdk_42_method_56_code 0 = .ok (.aload_n 0, 1) := by decide +kernel
theorem d_ca2_1 : decode jdk_42_method_56_code 1 = .ok (.invokevirtual 492, 3) := by decide +kernel
theorem d_ca2_4 : decode jdk_42_method_56_code 4 = .ok (.ifCond .eq 12, 3) := by decide +kernel
theorem d_ca2_7 : decode jdk_42_method_56_code 7 = .ok (.aload_n 0, 1) := by decide +kernel
theorem d_ca2_8 : decode jdk_42_method_56_code 8 = .ok (.getfield 9, 3) := by decide +kernel
theorem d_ca2_11 : decode jdk_42_method_56_code 11 = .ok (.iload_n 1, 1) := by decide +kernel
theorem d_ca2_12 : decode jdk_42_method_56_code 12 = .ok (.invokestatic 495, 3) := by decide +kernel
theorem d_ca2_15 : decode jdk_42_method_56_code 15 = .ok (.ireturn, 1) := by decide +kernel
theorem pn_ca2 : plainName "java/lang/String" = true := by first | (simp [plainName, overriddenIn]; done) | decide +kernel
theorem d_or0_0 : decode prog_10_method_7_code 0 = .ok (.aload_n 0, 1) := by decide +kernel
theorem d_or0_1 : decode prog_10_method_7_code 1 = .ok (.getstatic 16, 3) := by decide +kernel
theorem d_or0_4 : decode prog_10_method_7_code 4 = .ok (.if_acmp .eq 24, 3) := by decide +kernel
theorem d_or0_28 : decode prog_10_method_7_code 28 = .ok (.iconst 1, 1) := by decide +kernel
theorem d_or0_29 : decode prog_10_method_7_code 29 = .ok (.goto 4, 3) := by decide +kernel
theorem d_or0_33 : decode prog_10_method_7_code 33 = .ok (.ireturn, 1) := by decide +kernel
theorem pn_or0 : plainName "com/example/rosterd/rosterd/query/Operator" = true := by first | (simp [plainName, overriddenIn]; done) | decide +kernel
theorem d_or1_0 : decode prog_10_method_7_code 0 = .ok (.aload_n 0, 1) := by decide +kernel
theorem d_or1_1 : decode prog_10_method_7_code 1 = .ok (.getstatic 16, 3) := by decide +kernel
theorem d_or1_4 : decode prog_10_method_7_code 4 = .ok (.if_acmp .eq 24, 3) := by decide +kernel
theorem d_or1_7 : decode prog_10_method_7_code 7 = .ok (.aload_n 0, 1) := by decide +kernel
theorem d_or1_8 : decode prog_10_method_7_code 8 = .ok (.getstatic 7, 3) := by decide +kernel
theorem d_or1_11 : decode prog_10_method_7_code 11 = .ok (.if_acmp .eq 17, 3) := by decide +kernel
theorem d_or1_28 : decode prog_10_method_7_code 28 = .ok (.iconst 1, 1) := by decide +kernel
theorem d_or1_29 : decode prog_10_method_7_code 29 = .ok (.goto 4, 3) := by decide +kernel
theorem d_or1_33 : decode prog_10_method_7_code 33 = .ok (.ireturn, 1) := by decide +kernel
theorem pn_or1 : plainName "com/example/rosterd/rosterd/query/Operator" = true := by first | (simp [plainName, overriddenIn]; done) | decide +kernel
theorem d_or2_0 : decode prog_10_method_7_code 0 = .ok (.aload_n 0, 1) := by decide +kernel
theorem d_or2_1 : decode prog_10_method_7_code 1 = .ok (.getstatic 16, 3) := by decide +kernel
theorem d_or2_4 : decode prog_10_method_7_code 4 = .ok (.if_acmp .eq 24, 3) := by decide +kernel
theorem d_or2_7 : decode prog_10_method_7_code 7 = .ok (.aload_n 0, 1) := by decide +kernel
theorem d_or2_8 : decode prog_10_method_7_code 8 = .ok (.getstatic 7, 3) := by decide +kernel
theorem d_or2_11 : decode prog_10_method_7_code 11 = .ok (.if_acmp .eq 17, 3) := by decide +kernel
theorem d_or2_14 : decode prog_10_method_7_code 14 = .ok (.aload_n 0, 1) := by decide +kernel
theorem d_or2_15 : decode prog_10_method_7_code 15 = .ok (.getstatic 19, 3) := by decide +kernel
theorem d_or2_18 : decode prog_10_method_7_code 18 = .ok (.if_acmp .eq 10, 3) := by decide +kernel
theorem d_or2_28 : decode prog_10_method_7_code 28 = .ok (.iconst 1, 1) := by decide +kernel
theorem d_or2_29 : decode prog_10_method_7_code 29 = .ok (.goto 4, 3) := by decide +kernel
theorem d_or2_33 : decode prog_10_method_7_code 33 = .ok (.ireturn, 1) := by decide +kernel
theorem pn_or2 : plainName "com/example/rosterd/rosterd/query/Operator" = true := by first | (simp [plainName, overriddenIn]; done) | decide +kernel
theorem d_or3_0 : decode prog_10_method_7_code 0 = .ok (.aload_n 0, 1) := by decide +kernel
theorem d_or3_1 : decode prog_10_method_7_code 1 = .ok (.getstatic 16, 3) := by decide +kernel
theorem d_or3_4 : decode prog_10_method_7_code 4 = .ok (.if_acmp .eq 24, 3) := by decide +kernel
theorem d_or3_7 : decode prog_10_method_7_code 7 = .ok (.aload_n 0, 1) := by decide +kernel
theorem d_or3_8 : decode prog_10_method_7_code 8 = .ok (.getstatic 7, 3) := by decide +kernel
theorem d_or3_11 : decode prog_10_method_7_code 11 = .ok (.if_acmp .eq 17, 3) := by decide +kernel
theorem d_or3_14 : decode prog_10_method_7_code 14 = .ok (.aload_n 0, 1) := by decide +kernel
theorem d_or3_15 : decode prog_10_method_7_code 15 = .ok (.getstatic 19, 3) := by decide +kernel
theorem d_or3_18 : decode prog_10_method_7_code 18 = .ok (.if_acmp .eq 10, 3) := by decide +kernel
theorem d_or3_21 : decode prog_10_method_7_code 21 = .ok (.aload_n 0, 1) := by decide +kernel
theorem d_or3_22 : decode prog_10_method_7_code 22 = .ok (.getstatic 10, 3) := by decide +kernel
theorem d_or3_25 : decode prog_10_method_7_code 25 = .ok (.if_acmp .ne 7, 3) := by decide +kernel
theorem d_or3_28 : decode prog_10_method_7_code 28 = .ok (.iconst 1, 1) := by decide +kernel
theorem d_or3_29 : decode prog_10_method_7_code 29 = .ok (.goto 4, 3) := by decide +kernel
theorem d_or3_33 : decode prog_10_method_7_code 33 = .ok (.ireturn, 1) := by decide +kernel
theorem pn_or3 : plainName "com/example/rosterd/rosterd/query/Operator" = true := by first | (simp [plainName, overriddenIn]; done) | decide +kernel
theorem d_or4_0 : decode prog_10_method_7_code 0 = .ok (.aload_n 0, 1) := by decide +kernel
theorem d_or4_1 : decode prog_10_method_7_code 1 = .ok (.getstatic 16, 3) := by decide +kernel
theorem d_or4_4 : decode prog_10_method_7_code 4 = .ok (.if_acmp .eq 24, 3) := by decide +kernel
theorem d_or4_7 : decode prog_10_method_7_code 7 = .ok (.aload_n 0, 1) := by decide +kernel
theorem d_or4_8 : decode prog_10_method_7_code 8 = .ok (.getstatic 7, 3) := by decide +kernel
theorem d_or4_11 : decode prog_10_method_7_code 11 = .ok (.if_acmp .eq 17, 3) := by decide +kernel
theorem d_or4_14 : decode prog_10_method_7_code 14 = .ok (.aload_n 0, 1) := by decide +kernel
theorem d_or4_15 : decode prog_10_method_7_code 15 = .ok (.getstatic 19, 3) := by decide +kernel
theorem d_or4_18 : decode prog_10_method_7_code 18 = .ok (.if_acmp .eq 10, 3) := by decide +kernel
theorem d_or4_21 : decode prog_10_method_7_code 21 = .ok (.aload_n 0, 1) := by decide +kernel
theorem d_or4_22 : decode prog_10_method_7_code 22 = .ok (.getstatic 10, 3) := by decide +kernel
theorem d_or4_25 : decode prog_10_method_7_code 25 = .ok (.if_acmp .ne 7, 3) := by decide +kernel
theorem d_or4_32 : decode prog_10_method_7_code 32 = .ok (.iconst 0, 1) := by decide +kernel
theorem d_or4_33 : decode prog_10_method_7_code 33 = .ok (.ireturn, 1) := by decide +kernel
theorem pn_or4 : plainName "com/example/rosterd/rosterd/query/Operator" = true := by first | (simp [plainName, overriddenIn]; done) | decide +kernel
theorem pd_4 : parseMethodDescriptor "(I)Lcom/example/rosterd/rosterd/query/Operator;" = some ⟨[.int], some (.object "com/example/rosterd/rosterd/query/Operator")⟩ := by decide +kernel
theorem pd_5 : parseMethodDescriptor "()Ljava/lang/String;" = some ⟨[], some (.object "java/lang/String")⟩ := by decide +kernel
theorem pd_6 : parseMethodDescriptor "(I)C" = some ⟨[.int], some .char⟩ := by decide +kernel
theorem pn_law : plainName "com/example/rosterd/rosterd/query/OperatorOrdersPinLaw" = true := by first | (simp [plainName, overriddenIn]; done) | decide +kernel
theorem own_mod (x k : Int32) (n : Int) (hk : k.toInt = n) (hn : 0 < n) : 0 ≤ ((x &&& (2147483647 : Int32)) % k).toInt ∧ ((x &&& (2147483647 : Int32)) % k).toInt < n := by
  have m1 : (x &&& (2147483647 : Int32)).toInt = x.toInt % 2 ^ 31 := Jvm.Kit.i32_mask x _ (k := 31) (by decide) (by decide)
  rw [Jvm.Kit.i32_rem_nonneg (by omega), m1, hk]
  exact ⟨Int.emod_nonneg _ (by omega), Int.emod_lt_of_pos _ hn⟩
theorem own_cases7 {i : Int32} (h0 : 0 ≤ i.toInt) (h1 : i.toInt < 7) : i = (0 : Int32) ∨ i = (1 : Int32) ∨ i = (2 : Int32) ∨ i = (3 : Int32) ∨ i = (4 : Int32) ∨ i = (5 : Int32) ∨ i = (6 : Int32) := by
  have h : i.toInt = 0 ∨ i.toInt = 1 ∨ i.toInt = 2 ∨ i.toInt = 3 ∨ i.toInt = 4 ∨ i.toInt = 5 ∨ i.toInt = 6 := by omega
  rcases h with h | h | h | h | h | h | h
  · exact Or.inl (Int32.toInt_inj.mp (h.trans (by decide)))
  · exact Or.inr (Or.inl (Int32.toInt_inj.mp (h.trans (by decide))))
  · exact Or.inr (Or.inr (Or.inl (Int32.toInt_inj.mp (h.trans (by decide)))))
  · exact Or.inr (Or.inr (Or.inr (Or.inl (Int32.toInt_inj.mp (h.trans (by decide))))))
  · exact Or.inr (Or.inr (Or.inr (Or.inr (Or.inl (Int32.toInt_inj.mp (h.trans (by decide)))))))
  · exact Or.inr (Or.inr (Or.inr (Or.inr (Or.inr (Or.inl (Int32.toInt_inj.mp (h.trans (by decide))))))))
  · exact Or.inr (Or.inr (Or.inr (Or.inr (Or.inr (Or.inr ((Int32.toInt_inj.mp (h.trans (by decide)))))))))
def Q_pick0 (Z : State) (g0 : Addr) (h0 : Heap) (n0 : Nat) (v : Option Value) (h : Heap) (L : List Loc) : Prop := v = some (.ref g0) ∧ Fr n0 L ∧ h = h0
theorem ef_pick0 (m : MethodId) (x0 : Int32) : entryFrame m #[(.int x0)] 1 = mkF m 0 #[.val (.int x0)] [] := by first | (simp [entryFrame, mkF, argsToLocals, Value.category]; done) | rfl
set_option maxRecDepth 65536 in
set_option maxHeartbeats 40000000 in
theorem rm_pick0 (l : Launch) (Z : State) (a0 : Array Value) (hw : ∀ d ∈ tables_1, d.before a0 Z = true) (g0 : Addr) (h0 : Heap) (n0 : Nat) (Z0 : n0 ≤ h0.size) (f0 : Sta Z h0 "com/example/rosterd/rosterd/query/Operator" "NOT_EQUAL" "Lcom/example/rosterd/rosterd/query/Operator;" (.ref g0)) :
    Met l Z (⟨"com/example/rosterd/rosterd/query/OperatorOrdersPinLaw", "pick", "(I)Lcom/example/rosterd/rosterd/query/Operator;"⟩ : MethodName) method_2_code 1 (Option.some (Jvm.ClassFile.FieldType.object "com/example/rosterd/rosterd/query/Operator")) [] ({ frames := 0, cells := 0, slots := 0, locals := 0 } : Room) #[(.int (0 : Int32))] h0 (Q_pick0 Z g0 h0 n0) := by
  refine Met.of (plainFor_of_name pn_pick0) ?_
  intro p e s m below meth c s₁ X0 hx hby hml hZ hown hnm e0 hret hlk
  refine Go.cast (ef_pick0 m ((0 : Int32))) ?_
  show Go _ _ _ _ s₁ (mkF m 0 #[.val (.int (0 : Int32))] []) _ _ _
  have N0 := Fr.nil n0
  refine Go.iloadN X0 hx (hb hby d_pick0_0) rfl ?_
  show Go _ _ _ _ s₁ (mkF m 1 #[.val (.int (0 : Int32))] [(.int (0 : Int32))]) _ _ _
  refine Go.ifNo X0 hx (hb hby d_pick0_1) (XT.i0_ne_f (by decide)) ?_
  show Go _ _ _ _ s₁ (mkF m 4 #[.val (.int (0 : Int32))] []) _ _ _
  refine Go.getS X0 hx hZ hown (w5 hw) Via.refl e0 f0 (hb hby d_pick0_4) ?_
  intro T1 X1 e1
  show Go _ _ _ _ T1 (mkF m 7 #[.val (.int (0 : Int32))] [(.ref g0)]) _ _ _
  refine Go.retR X1 hx hlk hret rfl rfl (hb hby d_pick0_7) (by decide) (by decide) ?_
  rw [e1]
  exact ⟨rfl, N0, rfl⟩
def Q_pick1 (Z : State) (g1 : Addr) (h0 : Heap) (n0 : Nat) (v : Option Value) (h : Heap) (L : List Loc) : Prop := v = some (.ref g1) ∧ Fr n0 L ∧ h = h0
theorem ef_pick1 (m : MethodId) (x0 : Int32) : entryFrame m #[(.int x0)] 1 = mkF m 0 #[.val (.int x0)] [] := by first | (simp [entryFrame, mkF, argsToLocals, Value.category]; done) | rfl
set_option maxRecDepth 65536 in
set_option maxHeartbeats 40000000 in
theorem rm_pick1 (l : Launch) (Z : State) (a0 : Array Value) (hw : ∀ d ∈ tables_1, d.before a0 Z = true) (g1 : Addr) (h0 : Heap) (n0 : Nat) (Z0 : n0 ≤ h0.size) (f0 : Sta Z h0 "com/example/rosterd/rosterd/query/Operator" "GREATER_OR_EQUAL" "Lcom/example/rosterd/rosterd/query/Operator;" (.ref g1)) :
    Met l Z (⟨"com/example/rosterd/rosterd/query/OperatorOrdersPinLaw", "pick", "(I)Lcom/example/rosterd/rosterd/query/Operator;"⟩ : MethodName) method_2_code 1 (Option.some (Jvm.ClassFile.FieldType.object "com/example/rosterd/rosterd/query/Operator")) [] ({ frames := 0, cells := 0, slots := 0, locals := 0 } : Room) #[(.int (1 : Int32))] h0 (Q_pick1 Z g1 h0 n0) := by
  refine Met.of (plainFor_of_name pn_pick1) ?_
  intro p e s m below meth c s₁ X0 hx hby hml hZ hown hnm e0 hret hlk
  refine Go.cast (ef_pick1 m ((1 : Int32))) ?_
  show Go _ _ _ _ s₁ (mkF m 0 #[.val (.int (1 : Int32))] []) _ _ _
  have N0 := Fr.nil n0
  refine Go.iloadN X0 hx (hb hby d_pick1_0) rfl ?_
  show Go _ _ _ _ s₁ (mkF m 1 #[.val (.int (1 : Int32))] [(.int (1 : Int32))]) _ _ _
  refine Go.ifYes X0 hx (hb hby d_pick1_1) (XT.i0_ne_t (by decide)) (pc' := 8) (by decide) (by decide) ?_
  show Go _ _ _ _ s₁ (mkF m 8 #[.val (.int (1 : Int32))] []) _ _ _
  refine Go.iloadN X0 hx (hb hby d_pick1_8) rfl ?_
  show Go _ _ _ _ s₁ (mkF m 9 #[.val (.int (1 : Int32))] [(.int (1 : Int32))]) _ _ _
  refine Go.iconst X0 hx (hb hby d_pick1_9) ?_
  show Go _ _ _ _ s₁ (mkF m 10 #[.val (.int (1 : Int32))] [(.int (1 : Int32)), (.int (1 : Int32))]) _ _ _
  refine Go.icmpNo X0 hx (hb hby d_pick1_10) (XT.ii_ne_f (by decide)) ?_
  show Go _ _ _ _ s₁ (mkF m 13 #[.val (.int (1 : Int32))] []) _ _ _
  refine Go.getS X0 hx hZ hown (w68 hw) Via.refl e0 f0 (hb hby d_pick1_13) ?_
  intro T2 X2 e2
  show Go _ _ _ _ T2 (mkF m 16 #[.val (.int (1 : Int32))] [(.ref g1)]) _ _ _
  refine Go.retR X2 hx hlk hret rfl rfl (hb hby d_pick1_16) (by decide) (by decide) ?_
  rw [e2]
  exact ⟨rfl, N0, rfl⟩
def Q_pick2 (Z : State) (g2 : Addr) (h0 : Heap) (n0 : Nat) (v : Option Value) (h : Heap) (L : List Loc) : Prop := v = some (.ref g2) ∧ Fr n0 L ∧ h = h0
theorem ef_pick2 (m : MethodId) (x0 : Int32) : entryFrame m #[(.int x0)] 1 = mkF m 0 #[.val (.int x0)] [] := by first | (simp [entryFrame, mkF, argsToLocals, Value.category]; done) | rfl
set_option maxRecDepth 65536 in
set_option maxHeartbeats 40000000 in
theorem rm_pick2 (l : Launch) (Z : State) (a0 : Array Value) (hw : ∀ d ∈ tables_1, d.before a0 Z = true) (g2 : Addr) (h0 : Heap) (n0 : Nat) (Z0 : n0 ≤ h0.size) (f0 : Sta Z h0 "com/example/rosterd/rosterd/query/Operator" "LESS_OR_EQUAL" "Lcom/example/rosterd/rosterd/query/Operator;" (.ref g2)) :
    Met l Z (⟨"com/example/rosterd/rosterd/query/OperatorOrdersPinLaw", "pick", "(I)Lcom/example/rosterd/rosterd/query/Operator;"⟩ : MethodName) method_2_code 1 (Option.some (Jvm.ClassFile.FieldType.object "com/example/rosterd/rosterd/query/Operator")) [] ({ frames := 0, cells := 0, slots := 0, locals := 0 } : Room) #[(.int (2 : Int32))] h0 (Q_pick2 Z g2 h0 n0) := by
  refine Met.of (plainFor_of_name pn_pick2) ?_
  intro p e s m below meth c s₁ X0 hx hby hml hZ hown hnm e0 hret hlk
  refine Go.cast (ef_pick2 m ((2 : Int32))) ?_
  show Go _ _ _ _ s₁ (mkF m 0 #[.val (.int (2 : Int32))] []) _ _ _
  have N0 := Fr.nil n0
  refine Go.iloadN X0 hx (hb hby d_pick2_0) rfl ?_
  show Go _ _ _ _ s₁ (mkF m 1 #[.val (.int (2 : Int32))] [(.int (2 : Int32))]) _ _ _
  refine Go.ifYes X0 hx (hb hby d_pick2_1) (XT.i0_ne_t (by decide)) (pc' := 8) (by decide) (by decide) ?_
  show Go _ _ _ _ s₁ (mkF m 8 #[.val (.int (2 : Int32))] []) _ _ _
  refine Go.iloadN X0 hx (hb hby d_pick2_8) rfl ?_
  show Go _ _ _ _ s₁ (mkF m 9 #[.val (.int (2 : Int32))] [(.int (2 : Int32))]) _ _ _
  refine Go.iconst X0 hx (hb hby d_pick2_9) ?_
  show Go _ _ _ _ s₁ (mkF m 10 #[.val (.int (2 : Int32))] [(.int (1 : Int32)), (.int (2 : Int32))]) _ _ _
  refine Go.icmpYes X0 hx (hb hby d_pick2_10) (XT.ii_ne_t (by decide)) (pc' := 17) (by decide) (by decide) ?_
  show Go _ _ _ _ s₁ (mkF m 17 #[.val (.int (2 : Int32))] []) _ _ _
  refine Go.iloadN X0 hx (hb hby d_pick2_17) rfl ?_
  show Go _ _ _ _ s₁ (mkF m 18 #[.val (.int (2 : Int32))] [(.int (2 : Int32))]) _ _ _
  refine Go.iconst X0 hx (hb hby d_pick2_18) ?_
  show Go _ _ _ _ s₁ (mkF m 19 #[.val (.int (2 : Int32))] [(.int (2 : Int32)), (.int (2 : Int32))]) _ _ _
  refine Go.icmpNo X0 hx (hb hby d_pick2_19) (XT.ii_ne_f (by decide)) ?_
  show Go _ _ _ _ s₁ (mkF m 22 #[.val (.int (2 : Int32))] []) _ _ _
  refine Go.getS X0 hx hZ hown (w67 hw) Via.refl e0 f0 (hb hby d_pick2_22) ?_
  intro T3 X3 e3
  show Go _ _ _ _ T3 (mkF m 25 #[.val (.int (2 : Int32))] [(.ref g2)]) _ _ _
  refine Go.retR X3 hx hlk hret rfl rfl (hb hby d_pick2_25) (by decide) (by decide) ?_
  rw [e3]
  exact ⟨rfl, N0, rfl⟩
def Q_pick3 (Z : State) (g3 : Addr) (h0 : Heap) (n0 : Nat) (v : Option Value) (h : Heap) (L : List Loc) : Prop := v = some (.ref g3) ∧ Fr n0 L ∧ h = h0
theorem ef_pick3 (m : MethodId) (x0 : Int32) : entryFrame m #[(.int x0)] 1 = mkF m 0 #[.val (.int x0)] [] := by first | (simp [entryFrame, mkF, argsToLocals, Value.category]; done) | rfl
set_option maxRecDepth 65536 in
set_option maxHeartbeats 40000000 in
theorem rm_pick3 (l : Launch) (Z : State) (a0 : Array Value) (hw : ∀ d ∈ tables_1, d.before a0 Z = true) (g3 : Addr) (h0 : Heap) (n0 : Nat) (Z0 : n0 ≤ h0.size) (f0 : Sta Z h0 "com/example/rosterd/rosterd/query/Operator" "EQUAL" "Lcom/example/rosterd/rosterd/query/Operator;" (.ref g3)) :
    Met l Z (⟨"com/example/rosterd/rosterd/query/OperatorOrdersPinLaw", "pick", "(I)Lcom/example/rosterd/rosterd/query/Operator;"⟩ : MethodName) method_2_code 1 (Option.some (Jvm.ClassFile.FieldType.object "com/example/rosterd/rosterd/query/Operator")) [] ({ frames := 0, cells := 0, slots := 0, locals := 0 } : Room) #[(.int (3 : Int32))] h0 (Q_pick3 Z g3 h0 n0) := by
  refine Met.of (plainFor_of_name pn_pick3) ?_
  intro p e s m below meth c s₁ X0 hx hby hml hZ hown hnm e0 hret hlk
  refine Go.cast (ef_pick3 m ((3 : Int32))) ?_
  show Go _ _ _ _ s₁ (mkF m 0 #[.val (.int (3 : Int32))] []) _ _ _
  have N0 := Fr.nil n0
  refine Go.iloadN X0 hx (hb hby d_pick3_0) rfl ?_
  show Go _ _ _ _ s₁ (mkF m 1 #[.val (.int (3 : Int32))] [(.int (3 : Int32))]) _ _ _
  refine Go.ifYes X0 hx (hb hby d_pick3_1) (XT.i0_ne_t (by decide)) (pc' := 8) (by decide) (by decide) ?_
  show Go _ _ _ _ s₁ (mkF m 8 #[.val (.int (3 : Int32))] []) _ _ _
  refine Go.iloadN X0 hx (hb hby d_pick3_8) rfl ?_
  show Go _ _ _ _ s₁ (mkF m 9 #[.val (.int (3 : Int32))] [(.int (3 : Int32))]) _ _ _
  refine Go.iconst X0 hx (hb hby d_pick3_9) ?_
  show Go _ _ _ _ s₁ (mkF m 10 #[.val (.int (3 : Int32))] [(.int (1 : Int32)), (.int (3 : Int32))]) _ _ _
  refine Go.icmpYes X0 hx (hb hby d_pick3_10) (XT.ii_ne_t (by decide)) (pc' := 17) (by decide) (by decide) ?_
  show Go _ _ _ _ s₁ (mkF m 17 #[.val (.int (3 : Int32))] []) _ _ _
  refine Go.iloadN X0 hx (hb hby d_pick3_17) rfl ?_
  show Go _ _ _ _ s₁ (mkF m 18 #[.val (.int (3 : Int32))] [(.int (3 : Int32))]) _ _ _
  refine Go.iconst X0 hx (hb hby d_pick3_18) ?_
  show Go _ _ _ _ s₁ (mkF m 19 #[.val (.int (3 : Int32))] [(.int (2 : Int32)), (.int (3 : Int32))]) _ _ _
  refine Go.icmpYes X0 hx (hb hby d_pick3_19) (XT.ii_ne_t (by decide)) (pc' := 26) (by decide) (by decide) ?_
  show Go _ _ _ _ s₁ (mkF m 26 #[.val (.int (3 : Int32))] []) _ _ _
  refine Go.iloadN X0 hx (hb hby d_pick3_26) rfl ?_
  show Go _ _ _ _ s₁ (mkF m 27 #[.val (.int (3 : Int32))] [(.int (3 : Int32))]) _ _ _
  refine Go.iconst X0 hx (hb hby d_pick3_27) ?_
  show Go _ _ _ _ s₁ (mkF m 28 #[.val (.int (3 : Int32))] [(.int (3 : Int32)), (.int (3 : Int32))]) _ _ _
  refine Go.icmpNo X0 hx (hb hby d_pick3_28) (XT.ii_ne_f (by decide)) ?_
  show Go _ _ _ _ s₁ (mkF m 31 #[.val (.int (3 : Int32))] []) _ _ _
  refine Go.getS X0 hx hZ hown (w61 hw) Via.refl e0 f0 (hb hby d_pick3_31) ?_
  intro T4 X4 e4
  show Go _ _ _ _ T4 (mkF m 34 #[.val (.int (3 : Int32))] [(.ref g3)]) _ _ _
  refine Go.retR X4 hx hlk hret rfl rfl (hb hby d_pick3_34) (by decide) (by decide) ?_
  rw [e4]
  exact ⟨rfl, N0, rfl⟩
def Q_pick4 (Z : State) (g4 : Addr) (h0 : Heap) (n0 : Nat) (v : Option Value) (h : Heap) (L : List Loc) : Prop := v = some (.ref g4) ∧ Fr n0 L ∧ h = h0
theorem ef_pick4 (m : MethodId) (x0 : Int32) : entryFrame m #[(.int x0)] 1 = mkF m 0 #[.val (.int x0)] [] := by first | (simp [entryFrame, mkF, argsToLocals, Value.category]; done) | rfl
set_option maxRecDepth 65536 in
set_option maxHeartbeats 40000000 in
theorem rm_pick4 (l : Launch) (Z : State) (a0 : Array Value) (hw : ∀ d ∈ tables_1, d.before a0 Z = true) (g4 : Addr) (h0 : Heap) (n0 : Nat) (Z0 : n0 ≤ h0.size) (f0 : Sta Z h0 "com/example/rosterd/rosterd/query/Operator" "GREATER" "Lcom/example/rosterd/rosterd/query/Operator;" (.ref g4)) :
    Met l Z (⟨"com/example/rosterd/rosterd/query/OperatorOrdersPinLaw", "pick", "(I)Lcom/example/rosterd/rosterd/query/Operator;"⟩ : MethodName) method_2_code 1 (Option.some (Jvm.ClassFile.FieldType.object "com/example/rosterd/rosterd/query/Operator")) [] ({ frames := 0, cells := 0, slots := 0, locals := 0 } : Room) #[(.int (4 : Int32))] h0 (Q_pick4 Z g4 h0 n0) := by
  refine Met.of (plainFor_of_name pn_pick4) ?_
  intro p e s m below meth c s₁ X0 hx hby hml hZ hown hnm e0 hret hlk
  refine Go.cast (ef_pick4 m ((4 : Int32))) ?_
  show Go _ _ _ _ s₁ (mkF m 0 #[.val (.int (4 : Int32))] []) _ _ _
  have N0 := Fr.nil n0
  refine Go.iloadN X0 hx (hb hby d_pick4_0) rfl ?_
  show Go _ _ _ _ s₁ (mkF m 1 #[.val (.int (4 : Int32))] [(.int (4 : Int32))]) _ _ _
  refine Go.ifYes X0 hx (hb hby d_pick4_1) (XT.i0_ne_t (by decide)) (pc' := 8) (by decide) (by decide) ?_
  show Go _ _ _ _ s₁ (mkF m 8 #[.val (.int (4 : Int32))] []) _ _ _
  refine Go.iloadN X0 hx (hb hby d_pick4_8) rfl ?_
  show Go _ _ _ _ s₁ (mkF m 9 #[.val (.int (4 : Int32))] [(.int (4 : Int32))]) _ _ _
  refine Go.iconst X0 hx (hb hby d_pick4_9) ?_
  show Go _ _ _ _ s₁ (mkF m 10 #[.val (.int (4 : Int32))] [(.int (1 : Int32)), (.int (4 : Int32))]) _ _ _
  refine Go.icmpYes X0 hx (hb hby d_pick4_10) (XT.ii_ne_t (by decide)) (pc' := 17) (by decide) (by decide) ?_
  show Go _ _ _ _ s₁ (mkF m 17 #[.val (.int (4 : Int32))] []) _ _ _
  refine Go.iloadN X0 hx (hb hby d_pick4_17) rfl ?_
  show Go _ _ _ _ s₁ (mkF m 18 #[.val (.int (4 : Int32))] [(.int (4 : Int32))]) _ _ _
  refine Go.iconst X0 hx (hb hby d_pick4_18) ?_
  show Go _ _ _ _ s₁ (mkF m 19 #[.val (.int (4 : Int32))] [(.int (2 : Int32)), (.int (4 : Int32))]) _ _ _
  refine Go.icmpYes X0 hx (hb hby d_pick4_19) (XT.ii_ne_t (by decide)) (pc' := 26) (by decide) (by decide) ?_
  show Go _ _ _ _ s₁ (mkF m 26 #[.val (.int (4 : Int32))] []) _ _ _
  refine Go.iloadN X0 hx (hb hby d_pick4_26) rfl ?_
  show Go _ _ _ _ s₁ (mkF m 27 #[.val (.int (4 : Int32))] [(.int (4 : Int32))]) _ _ _
  refine Go.iconst X0 hx (hb hby d_pick4_27) ?_
  show Go _ _ _ _ s₁ (mkF m 28 #[.val (.int (4 : Int32))] [(.int (3 : Int32)), (.int (4 : Int32))]) _ _ _
  refine Go.icmpYes X0 hx (hb hby d_pick4_28) (XT.ii_ne_t (by decide)) (pc' := 35) (by decide) (by decide) ?_
  show Go _ _ _ _ s₁ (mkF m 35 #[.val (.int (4 : Int32))] []) _ _ _
  refine Go.iloadN X0 hx (hb hby d_pick4_35) rfl ?_
  show Go _ _ _ _ s₁ (mkF m 36 #[.val (.int (4 : Int32))] [(.int (4 : Int32))]) _ _ _
  refine Go.iconst X0 hx (hb hby d_pick4_36) ?_
  show Go _ _ _ _ s₁ (mkF m 37 #[.val (.int (4 : Int32))] [(.int (4 : Int32)), (.int (4 : Int32))]) _ _ _
  refine Go.icmpNo X0 hx (hb hby d_pick4_37) (XT.ii_ne_f (by decide)) ?_
  show Go _ _ _ _ s₁ (mkF m 40 #[.val (.int (4 : Int32))] []) _ _ _
  refine Go.getS X0 hx hZ hown (w66 hw) Via.refl e0 f0 (hb hby d_pick4_40) ?_
  intro T5 X5 e5
  show Go _ _ _ _ T5 (mkF m 43 #[.val (.int (4 : Int32))] [(.ref g4)]) _ _ _
  refine Go.retR X5 hx hlk hret rfl rfl (hb hby d_pick4_43) (by decide) (by decide) ?_
  rw [e5]
  exact ⟨rfl, N0, rfl⟩
def Q_pick5 (Z : State) (g5 : Addr) (h0 : Heap) (n0 : Nat) (v : Option Value) (h : Heap) (L : List Loc) : Prop := v = some (.ref g5) ∧ Fr n0 L ∧ h = h0
theorem ef_pick5 (m : MethodId) (x0 : Int32) : entryFrame m #[(.int x0)] 1 = mkF m 0 #[.val (.int x0)] [] := by first | (simp [entryFrame, mkF, argsToLocals, Value.category]; done) | rfl
set_option maxRecDepth 65536 in
set_option maxHeartbeats 40000000 in
theorem rm_pick5 (l : Launch) (Z : State) (a0 : Array Value) (hw : ∀ d ∈ tables_1, d.before a0 Z = true) (g5 : Addr) (h0 : Heap) (n0 : Nat) (Z0 : n0 ≤ h0.size) (f0 : Sta Z h0 "com/example/rosterd/rosterd/query/Operator" "LESS" "Lcom/example/rosterd/rosterd/query/Operator;" (.ref g5)) :
    Met l Z (⟨"com/example/rosterd/rosterd/query/OperatorOrdersPinLaw", "pick", "(I)Lcom/example/rosterd/rosterd/query/Operator;"⟩ : MethodName) method_2_code 1 (Option.some (Jvm.ClassFile.FieldType.object "com/example/rosterd/rosterd/query/Operator")) [] ({ frames := 0, cells := 0, slots := 0, locals := 0 } : Room) #[(.int (5 : Int32))] h0 (Q_pick5 Z g5 h0 n0) := by
  refine Met.of (plainFor_of_name pn_pick5) ?_
  intro p e s m below meth c s₁ X0 hx hby hml hZ hown hnm e0 hret hlk
  refine Go.cast (ef_pick5 m ((5 : Int32))) ?_
  show Go _ _ _ _ s₁ (mkF m 0 #[.val (.int (5 : Int32))] []) _ _ _
  have N0 := Fr.nil n0
  refine Go.iloadN X0 hx (hb hby d_pick5_0) rfl ?_
  show Go _ _ _ _ s₁ (mkF m 1 #[.val (.int (5 : Int32))] [(.int (5 : Int32))]) _ _ _
  refine Go.ifYes X0 hx (hb hby d_pick5_1) (XT.i0_ne_t (by decide)) (pc' := 8) (by decide) (by decide) ?_
  show Go _ _ _ _ s₁ (mkF m 8 #[.val (.int (5 : Int32))] []) _ _ _
  refine Go.iloadN X0 hx (hb hby d_pick5_8) rfl ?_
  show Go _ _ _ _ s₁ (mkF m 9 #[.val (.int (5 : Int32))] [(.int (5 : Int32))]) _ _ _
  refine Go.iconst X0 hx (hb hby d_pick5_9) ?_
  show Go _ _ _ _ s₁ (mkF m 10 #[.val (.int (5 : Int32))] [(.int (1 : Int32)), (.int (5 : Int32))]) _ _ _
  refine Go.icmpYes X0 hx (hb hby d_pick5_10) (XT.ii_ne_t (by decide)) (pc' := 17) (by decide) (by decide) ?_
  show Go _ _ _ _ s₁ (mkF m 17 #[.val (.int (5 : Int32))] []) _ _ _
  refine Go.iloadN X0 hx (hb hby d_pick5_17) rfl ?_
  show Go _ _ _ _ s₁ (mkF m 18 #[.val (.int (5 : Int32))] [(.int (5 : Int32))]) _ _ _
  refine Go.iconst X0 hx (hb hby d_pick5_18) ?_
  show Go _ _ _ _ s₁ (mkF m 19 #[.val (.int (5 : Int32))] [(.int (2 : Int32)), (.int (5 : Int32))]) _ _ _
  refine Go.icmpYes X0 hx (hb hby d_pick5_19) (XT.ii_ne_t (by decide)) (pc' := 26) (by decide) (by decide) ?_
  show Go _ _ _ _ s₁ (mkF m 26 #[.val (.int (5 : Int32))] []) _ _ _
  refine Go.iloadN X0 hx (hb hby d_pick5_26) rfl ?_
  show Go _ _ _ _ s₁ (mkF m 27 #[.val (.int (5 : Int32))] [(.int (5 : Int32))]) _ _ _
  refine Go.iconst X0 hx (hb hby d_pick5_27) ?_
  show Go _ _ _ _ s₁ (mkF m 28 #[.val (.int (5 : Int32))] [(.int (3 : Int32)), (.int (5 : Int32))]) _ _ _
  refine Go.icmpYes X0 hx (hb hby d_pick5_28) (XT.ii_ne_t (by decide)) (pc' := 35) (by decide) (by decide) ?_
  show Go _ _ _ _ s₁ (mkF m 35 #[.val (.int (5 : Int32))] []) _ _ _
  refine Go.iloadN X0 hx (hb hby d_pick5_35) rfl ?_
  show Go _ _ _ _ s₁ (mkF m 36 #[.val (.int (5 : Int32))] [(.int (5 : Int32))]) _ _ _
  refine Go.iconst X0 hx (hb hby d_pick5_36) ?_
  show Go _ _ _ _ s₁ (mkF m 37 #[.val (.int (5 : Int32))] [(.int (4 : Int32)), (.int (5 : Int32))]) _ _ _
  refine Go.icmpYes X0 hx (hb hby d_pick5_37) (XT.ii_ne_t (by decide)) (pc' := 44) (by decide) (by decide) ?_
  show Go _ _ _ _ s₁ (mkF m 44 #[.val (.int (5 : Int32))] []) _ _ _
  refine Go.iloadN X0 hx (hb hby d_pick5_44) rfl ?_
  show Go _ _ _ _ s₁ (mkF m 45 #[.val (.int (5 : Int32))] [(.int (5 : Int32))]) _ _ _
  refine Go.iconst X0 hx (hb hby d_pick5_45) ?_
  show Go _ _ _ _ s₁ (mkF m 46 #[.val (.int (5 : Int32))] [(.int (5 : Int32)), (.int (5 : Int32))]) _ _ _
  refine Go.icmpNo X0 hx (hb hby d_pick5_46) (XT.ii_ne_f (by decide)) ?_
  show Go _ _ _ _ s₁ (mkF m 49 #[.val (.int (5 : Int32))] []) _ _ _
  refine Go.getS X0 hx hZ hown (w63 hw) Via.refl e0 f0 (hb hby d_pick5_49) ?_
  intro T6 X6 e6
  show Go _ _ _ _ T6 (mkF m 52 #[.val (.int (5 : Int32))] [(.ref g5)]) _ _ _
  refine Go.retR X6 hx hlk hret rfl rfl (hb hby d_pick5_52) (by decide) (by decide) ?_
  rw [e6]
  exact ⟨rfl, N0, rfl⟩
def Q_pick6 (Z : State) (g6 : Addr) (h0 : Heap) (n0 : Nat) (v : Option Value) (h : Heap) (L : List Loc) : Prop := v = some (.ref g6) ∧ Fr n0 L ∧ h = h0
theorem ef_pick6 (m : MethodId) (x0 : Int32) : entryFrame m #[(.int x0)] 1 = mkF m 0 #[.val (.int x0)] [] := by first | (simp [entryFrame, mkF, argsToLocals, Value.category]; done) | rfl
set_option maxRecDepth 65536 in
set_option maxHeartbeats 40000000 in
theorem rm_pick6 (l : Launch) (Z : State) (a0 : Array Value) (hw : ∀ d ∈ tables_1, d.before a0 Z = true) (g6 : Addr) (h0 : Heap) (n0 : Nat) (Z0 : n0 ≤ h0.size) (f0 : Sta Z h0 "com/example/rosterd/rosterd/query/Operator" "CONTAINS" "Lcom/example/rosterd/rosterd/query/Operator;" (.ref g6)) :
    Met l Z (⟨"com/example/rosterd/rosterd/query/OperatorOrdersPinLaw", "pick", "(I)Lcom/example/rosterd/rosterd/query/Operator;"⟩ : MethodName) method_2_code 1 (Option.some (Jvm.ClassFile.FieldType.object "com/example/rosterd/rosterd/query/Operator")) [] ({ frames := 0, cells := 0, slots := 0, locals := 0 } : Room) #[(.int (6 : Int32))] h0 (Q_pick6 Z g6 h0 n0) := by
  refine Met.of (plainFor_of_name pn_pick6) ?_
  intro p e s m below meth c s₁ X0 hx hby hml hZ hown hnm e0 hret hlk
  refine Go.cast (ef_pick6 m ((6 : Int32))) ?_
  show Go _ _ _ _ s₁ (mkF m 0 #[.val (.int (6 : Int32))] []) _ _ _
  have N0 := Fr.nil n0
  refine Go.iloadN X0 hx (hb hby d_pick6_0) rfl ?_
  show Go _ _ _ _ s₁ (mkF m 1 #[.val (.int (6 : Int32))] [(.int (6 : Int32))]) _ _ _
  refine Go.ifYes X0 hx (hb hby d_pick6_1) (XT.i0_ne_t (by decide)) (pc' := 8) (by decide) (by decide) ?_
  show Go _ _ _ _ s₁ (mkF m 8 #[.val (.int (6 : Int32))] []) _ _ _
  refine Go.iloadN X0 hx (hb hby d_pick6_8) rfl ?_
  show Go _ _ _ _ s₁ (mkF m 9 #[.val (.int (6 : Int32))] [(.int (6 : Int32))]) _ _ _
  refine Go.iconst X0 hx (hb hby d_pick6_9) ?_
  show Go _ _ _ _ s₁ (mkF m 10 #[.val (.int (6 : Int32))] [(.int (1 : Int32)), (.int (6 : Int32))]) _ _ _
  refine Go.icmpYes X0 hx (hb hby d_pick6_10) (XT.ii_ne_t (by decide)) (pc' := 17) (by decide) (by decide) ?_
  show Go _ _ _ _ s₁ (mkF m 17 #[.val (.int (6 : Int32))] []) _ _ _
  refine Go.iloadN X0 hx (hb hby d_pick6_17) rfl ?_
  show Go _ _ _ _ s₁ (mkF m 18 #[.val (.int (6 : Int32))] [(.int (6 : Int32))]) _ _ _
  refine Go.iconst X0 hx (hb hby d_pick6_18) ?_
  show Go _ _ _ _ s₁ (mkF m 19 #[.val (.int (6 : Int32))] [(.int (2 : Int32)), (.int (6 : Int32))]) _ _ _
  refine Go.icmpYes X0 hx (hb hby d_pick6_19) (XT.ii_ne_t (by decide)) (pc' := 26) (by decide) (by decide) ?_
  show Go _ _ _ _ s₁ (mkF m 26 #[.val (.int (6 : Int32))] []) _ _ _
  refine Go.iloadN X0 hx (hb hby d_pick6_26) rfl ?_
  show Go _ _ _ _ s₁ (mkF m 27 #[.val (.int (6 : Int32))] [(.int (6 : Int32))]) _ _ _
  refine Go.iconst X0 hx (hb hby d_pick6_27) ?_
  show Go _ _ _ _ s₁ (mkF m 28 #[.val (.int (6 : Int32))] [(.int (3 : Int32)), (.int (6 : Int32))]) _ _ _
  refine Go.icmpYes X0 hx (hb hby d_pick6_28) (XT.ii_ne_t (by decide)) (pc' := 35) (by decide) (by decide) ?_
  show Go _ _ _ _ s₁ (mkF m 35 #[.val (.int (6 : Int32))] []) _ _ _
  refine Go.iloadN X0 hx (hb hby d_pick6_35) rfl ?_
  show Go _ _ _ _ s₁ (mkF m 36 #[.val (.int (6 : Int32))] [(.int (6 : Int32))]) _ _ _
  refine Go.iconst X0 hx (hb hby d_pick6_36) ?_
  show Go _ _ _ _ s₁ (mkF m 37 #[.val (.int (6 : Int32))] [(.int (4 : Int32)), (.int (6 : Int32))]) _ _ _
  refine Go.icmpYes X0 hx (hb hby d_pick6_37) (XT.ii_ne_t (by decide)) (pc' := 44) (by decide) (by decide) ?_
  show Go _ _ _ _ s₁ (mkF m 44 #[.val (.int (6 : Int32))] []) _ _ _
  refine Go.iloadN X0 hx (hb hby d_pick6_44) rfl ?_
  show Go _ _ _ _ s₁ (mkF m 45 #[.val (.int (6 : Int32))] [(.int (6 : Int32))]) _ _ _
  refine Go.iconst X0 hx (hb hby d_pick6_45) ?_
  show Go _ _ _ _ s₁ (mkF m 46 #[.val (.int (6 : Int32))] [(.int (5 : Int32)), (.int (6 : Int32))]) _ _ _
  refine Go.icmpYes X0 hx (hb hby d_pick6_46) (XT.ii_ne_t (by decide)) (pc' := 53) (by decide) (by decide) ?_
  show Go _ _ _ _ s₁ (mkF m 53 #[.val (.int (6 : Int32))] []) _ _ _
  refine Go.getS X0 hx hZ hown (w64 hw) Via.refl e0 f0 (hb hby d_pick6_53) ?_
  intro T7 X7 e7
  show Go _ _ _ _ T7 (mkF m 56 #[.val (.int (6 : Int32))] [(.ref g6)]) _ _ _
  refine Go.retR X7 hx hlk hret rfl rfl (hb hby d_pick6_56) (by decide) (by decide) ?_
  rw [e7]
  exact ⟨rfl, N0, rfl⟩
def Q_sym (Z : State) (a : Addr) (t : Addr) (h0 : Heap) (n0 : Nat) (v : Option Value) (h : Heap) (L : List Loc) : Prop := v = some (.ref t) ∧ Fr n0 L ∧ h = h0
theorem ef_sym (m : MethodId) (x0 : Addr) : entryFrame m #[(.ref x0)] 1 = mkF m 0 #[.val (.ref x0)] [] := by first | (simp [entryFrame, mkF, argsToLocals, Value.category]; done) | rfl
set_option maxRecDepth 65536 in
set_option maxHeartbeats 40000000 in
theorem rm_sym (l : Launch) (Z : State) (a0 : Array Value) (hw : ∀ d ∈ tables_1, d.before a0 Z = true) (a : Addr) (t : Addr) (h0 : Heap) (n0 : Nat) (Z0 : n0 ≤ h0.size) (f0 : Fld Z h0 a "com/example/rosterd/rosterd/query/Operator" "symbol" "Ljava/lang/String;" (.ref t)) :
    Met l Z (⟨"com/example/rosterd/rosterd/query/Operator", "symbol", "()Ljava/lang/String;"⟩ : MethodName) prog_10_method_4_code 1 (Option.some (Jvm.ClassFile.FieldType.object "java/lang/String")) [] ({ frames := 0, cells := 0, slots := 0, locals := 0 } : Room) #[(.ref a)] h0 (Q_sym Z a t h0 n0) := by
  refine Met.of (plainFor_of_name pn_sym) ?_
  intro p e s m below meth c s₁ X0 hx hby hml hZ hown hnm e0 hret hlk
  refine Go.cast (ef_sym m a) ?_
  show Go _ _ _ _ s₁ (mkF m 0 #[.val (.ref a)] []) _ _ _
  have N0 := Fr.nil n0
  refine Go.aloadN X0 hx (hb hby d_sym_0) rfl rfl ?_
  show Go _ _ _ _ s₁ (mkF m 1 #[.val (.ref a)] [(.ref a)]) _ _ _
  refine Go.getF X0 hx hZ hown (w13 hw) Via.refl e0 f0 (hb hby d_sym_1) ?_
  intro T8 X8 e8
  show Go _ _ _ _ T8 (mkF m 4 #[.val (.ref a)] [(.ref t)]) _ _ _
  refine Go.retR X8 hx hlk hret rfl rfl (hb hby d_sym_4) (by decide) (by decide) ?_
  rw [e8]
  exact ⟨rfl, N0, rfl⟩
def Q_ie1 (Z : State) (t : Addr) (b : Addr) (kid : ClassId) (f : Nat → Value) (ch : Int32) (h0 : Heap) (n0 : Nat) (v : Option Value) (h : Heap) (L : List Loc) : Prop := v = some (.int (0 : Int32)) ∧ Fr n0 L ∧ h = h0
theorem ef_ie1 (m : MethodId) (x0 : Addr) : entryFrame m #[(.ref x0)] 1 = mkF m 0 #[.val (.ref x0)] [] := by first | (simp [entryFrame, mkF, argsToLocals, Value.category]; done) | rfl
set_option maxRecDepth 65536 in
set_option maxHeartbeats 40000000 in
theorem rm_ie1 (l : Launch) (Z : State) (a0 : Array Value) (hw : ∀ d ∈ tables_1, d.before a0 Z = true) (t : Addr) (b : Addr) (kid : ClassId) (f : Nat → Value) (ch : Int32) (h0 : Heap) (n0 : Nat) (Z0 : n0 ≤ h0.size) (f0 : Fld Z h0 t "java/lang/String" "value" "[B" (.ref b)) (f1 : Af Z h0 b kid .byte 1 (updV f 0 (.int ch))) :
    Met l Z (⟨"java/lang/String", "isEmpty", "()Z"⟩ : MethodName) jdk_42_method_55_code 1 (Option.some Jvm.ClassFile.FieldType.boolean) [] ({ frames := 0, cells := 0, slots := 0, locals := 0 } : Room) #[(.ref t)] h0 (Q_ie1 Z t b kid f ch h0 n0) := by
  refine Met.of (plainFor_of_name pn_ie1) ?_
  intro p e s m below meth c s₁ X0 hx hby hml hZ hown hnm e0 hret hlk
  refine Go.cast (ef_ie1 m t) ?_
  show Go _ _ _ _ s₁ (mkF m 0 #[.val (.ref t)] []) _ _ _
  have N0 := Fr.nil n0
  refine Go.aloadN X0 hx (hb hby d_ie1_0) rfl rfl ?_
  show Go _ _ _ _ s₁ (mkF m 1 #[.val (.ref t)] [(.ref t)]) _ _ _
  refine Go.getF X0 hx hZ hown (w21 hw) Via.refl e0 f0 (hb hby d_ie1_1) ?_
  intro T9 X9 e9
  show Go _ _ _ _ T9 (mkF m 4 #[.val (.ref t)] [(.ref b)]) _ _ _
  refine Go.alen X9 hx hZ e9 f1 (hb hby d_ie1_4) ?_
  show Go _ _ _ _ T9 (mkF m 5 #[.val (.ref t)] [(.int (1 : Int32))]) _ _ _
  refine Go.ifYes X9 hx (hb hby d_ie1_5) (XT.i0_ne_t (by decide)) (pc' := 12) (by decide) (by decide) ?_
  show Go _ _ _ _ T9 (mkF m 12 #[.val (.ref t)] []) _ _ _
  refine Go.iconst X9 hx (hb hby d_ie1_12) ?_
  show Go _ _ _ _ T9 (mkF m 13 #[.val (.ref t)] [(.int (0 : Int32))]) _ _ _
  refine Go.retZ X9 hx hlk hret (by decide) (hb hby d_ie1_13) (by decide) (by decide) ?_
  rw [e9]
  exact ⟨rfl, N0, rfl⟩
def Q_ie2 (Z : State) (t : Addr) (b : Addr) (kid : ClassId) (f : Nat → Value) (ch : Int32) (h0 : Heap) (n0 : Nat) (v : Option Value) (h : Heap) (L : List Loc) : Prop := v = some (.int (0 : Int32)) ∧ Fr n0 L ∧ h = h0
theorem ef_ie2 (m : MethodId) (x0 : Addr) : entryFrame m #[(.ref x0)] 1 = mkF m 0 #[.val (.ref x0)] [] := by first | (simp [entryFrame, mkF, argsToLocals, Value.category]; done) | rfl
set_option maxRecDepth 65536 in
set_option maxHeartbeats 40000000 in
theorem rm_ie2 (l : Launch) (Z : State) (a0 : Array Value) (hw : ∀ d ∈ tables_1, d.before a0 Z = true) (t : Addr) (b : Addr) (kid : ClassId) (f : Nat → Value) (ch : Int32) (h0 : Heap) (n0 : Nat) (Z0 : n0 ≤ h0.size) (f0 : Fld Z h0 t "java/lang/String" "value" "[B" (.ref b)) (f1 : Af Z h0 b kid .byte 2 (updV f 0 (.int ch))) :
    Met l Z (⟨"java/lang/String", "isEmpty", "()Z"⟩ : MethodName) jdk_42_method_55_code 1 (Option.some Jvm.ClassFile.FieldType.boolean) [] ({ frames := 0, cells := 0, slots := 0, locals := 0 } : Room) #[(.ref t)] h0 (Q_ie2 Z t b kid f ch h0 n0) := by
  refine Met.of (plainFor_of_name pn_ie2) ?_
  intro p e s m below meth c s₁ X0 hx hby hml hZ hown hnm e0 hret hlk
  refine Go.cast (ef_ie2 m t) ?_
  show Go _ _ _ _ s₁ (mkF m 0 #[.val (.ref t)] []) _ _ _
  have N0 := Fr.nil n0
  refine Go.aloadN X0 hx (hb hby d_ie2_0) rfl rfl ?_
  show Go _ _ _ _ s₁ (mkF m 1 #[.val (.ref t)] [(.ref t)]) _ _ _
  refine Go.getF X0 hx hZ hown (w21 hw) Via.refl e0 f0 (hb hby d_ie2_1) ?_
  intro T10 X10 e10
  show Go _ _ _ _ T10 (mkF m 4 #[.val (.ref t)] [(.ref b)]) _ _ _
  refine Go.alen X10 hx hZ e10 f1 (hb hby d_ie2_4) ?_
  show Go _ _ _ _ T10 (mkF m 5 #[.val (.ref t)] [(.int (2 : Int32))]) _ _ _
  refine Go.ifYes X10 hx (hb hby d_ie2_5) (XT.i0_ne_t (by decide)) (pc' := 12) (by decide) (by decide) ?_
  show Go _ _ _ _ T10 (mkF m 12 #[.val (.ref t)] []) _ _ _
  refine Go.iconst X10 hx (hb hby d_ie2_12) ?_
  show Go _ _ _ _ T10 (mkF m 13 #[.val (.ref t)] [(.int (0 : Int32))]) _ _ _
  refine Go.retZ X10 hx hlk hret (by decide) (hb hby d_ie2_13) (by decide) (by decide) ?_
  rw [e10]
  exact ⟨rfl, N0, rfl⟩
def Q_isl (Z : State) (t : Addr) (cs : Int32) (h0 : Heap) (n0 : Nat) (v : Option Value) (h : Heap) (L : List Loc) : Prop := v = some (.int (1 : Int32)) ∧ Fr n0 L ∧ h = h0
theorem ef_isl (m : MethodId) (x0 : Addr) : entryFrame m #[(.ref x0)] 1 = mkF m 0 #[.val (.ref x0)] [] := by first | (simp [entryFrame, mkF, argsToLocals, Value.category]; done) | rfl
set_option maxRecDepth 65536 in
set_option maxHeartbeats 40000000 in
theorem rm_isl (l : Launch) (Z : State) (a0 : Array Value) (hw : ∀ d ∈ tables_1, d.before a0 Z = true) (t : Addr) (cs : Int32) (h0 : Heap) (n0 : Nat) (Z0 : n0 ≤ h0.size) (f0 : Sta Z h0 "java/lang/String" "COMPACT_STRINGS" "Z" (.int cs)) (f1 : ¬ cs = (0 : Int32)) (f2 : Fld Z h0 t "java/lang/String" "coder" "B" (.int (0 : Int32))) :
    Met l Z (⟨"java/lang/String", "isLatin1", "()Z"⟩ : MethodName) jdk_42_method_154_code 1 (Option.some Jvm.ClassFile.FieldType.boolean) [] ({ frames := 0, cells := 0, slots := 0, locals := 0 } : Room) #[(.ref t)] h0 (Q_isl Z t cs h0 n0) := by
  refine Met.of (plainFor_of_name pn_isl) ?_
  intro p e s m below meth c s₁ X0 hx hby hml hZ hown hnm e0 hret hlk
  refine Go.cast (ef_isl m t) ?_
  show Go _ _ _ _ s₁ (mkF m 0 #[.val (.ref t)] []) _ _ _
  have N0 := Fr.nil n0
  refine Go.getS X0 hx hZ hown (w33 hw) Via.refl e0 f0 (hb hby d_isl_0) ?_
  intro T11 X11 e11
  show Go _ _ _ _ T11 (mkF m 3 #[.val (.ref t)] [(.int cs)]) _ _ _
  refine Go.ifNo X11 hx (hb hby d_isl_3) (XT.i0_eq_f f1) ?_
  show Go _ _ _ _ T11 (mkF m 6 #[.val (.ref t)] []) _ _ _
  refine Go.aloadN X11 hx (hb hby d_isl_6) rfl rfl ?_
  show Go _ _ _ _ T11 (mkF m 7 #[.val (.ref t)] [(.ref t)]) _ _ _
  refine Go.getF X11 hx hZ hown (w34 hw) Via.refl e11 f2 (hb hby d_isl_7) ?_
  intro T12 X12 e12
  show Go _ _ _ _ T12 (mkF m 10 #[.val (.ref t)] [(.int (0 : Int32))]) _ _ _
  refine Go.ifNo X12 hx (hb hby d_isl_10) (XT.i0_ne_f (by decide)) ?_
  show Go _ _ _ _ T12 (mkF m 13 #[.val (.ref t)] []) _ _ _
  refine Go.iconst X12 hx (hb hby d_isl_13) ?_
  show Go _ _ _ _ T12 (mkF m 14 #[.val (.ref t)] [(.int (1 : Int32))]) _ _ _
  refine Go.goto X12 hx (hb hby d_isl_14) (pc' := 18) (by decide) (by decide) ?_
  show Go _ _ _ _ T12 (mkF m 18 #[.val (.ref t)] [(.int (1 : Int32))]) _ _ _
  refine Go.retZ X12 hx hlk hret (by decide) (hb hby d_isl_18) (by decide) (by decide) ?_
  rw [e12]
  exact ⟨rfl, N0, rfl⟩
def Q_pc1 (Z : State) (fm : Value) (h0 : Heap) (n0 : Nat) (v : Option Value) (h : Heap) (L : List Loc) : Prop := v = some (.int (0 : Int32)) ∧ Fr n0 L ∧ h = h0
theorem ef_pc1 (m : MethodId) (x0 : Int32) (x1 : Int32) (x2 : Value) (r2 : x2.isRef = true) : entryFrame m #[(.int x0), (.int x1), x2] 3 = mkF m 0 #[.val (.int x0), .val (.int x1), .val x2] [] := by all_goals rcases ref_cases r2 with rfl | ⟨_, rfl⟩; all_goals first | (simp [entryFrame, mkF, argsToLocals, Value.category]; done) | rfl
set_option maxRecDepth 65536 in
set_option maxHeartbeats 40000000 in
theorem rm_pc1 (l : Launch) (Z : State) (a0 : Array Value) (hw : ∀ d ∈ tables_1, d.before a0 Z = true) (fm : Value) (h0 : Heap) (n0 : Nat) (Z0 : n0 ≤ h0.size) (f0 : fm.isRef = true) :
    Met l Z (⟨"jdk/internal/util/Preconditions", "checkIndex", "(IILjava/util/function/BiFunction;)I"⟩ : MethodName) jdk_41_method_11_code 3 (Option.some Jvm.ClassFile.FieldType.int) [] ({ frames := 0, cells := 0, slots := 0, locals := 0 } : Room) #[(.int (0 : Int32)), (.int (1 : Int32)), fm] h0 (Q_pc1 Z fm h0 n0) := by
  refine Met.of (plainFor_of_name pn_pc1) ?_
  intro p e s m below meth c s₁ X0 hx hby hml hZ hown hnm e0 hret hlk
  refine Go.cast (ef_pc1 m ((0 : Int32)) ((1 : Int32)) fm f0) ?_
  show Go _ _ _ _ s₁ (mkF m 0 #[.val (.int (0 : Int32)), .val (.int (1 : Int32)), .val fm] []) _ _ _
  have N0 := Fr.nil n0
  refine Go.iloadN X0 hx (hb hby d_pc1_0) rfl ?_
  show Go _ _ _ _ s₁ (mkF m 1 #[.val (.int (0 : Int32)), .val (.int (1 : Int32)), .val fm] [(.int (0 : Int32))]) _ _ _
  refine Go.ifNo X0 hx (hb hby d_pc1_1) (XT.i0_lt_f (by decide)) ?_
  show Go _ _ _ _ s₁ (mkF m 4 #[.val (.int (0 : Int32)), .val (.int (1 : Int32)), .val fm] []) _ _ _
  refine Go.iloadN X0 hx (hb hby d_pc1_4) rfl ?_
  show Go _ _ _ _ s₁ (mkF m 5 #[.val (.int (0 : Int32)), .val (.int (1 : Int32)), .val fm] [(.int (0 : Int32))]) _ _ _
  refine Go.iloadN X0 hx (hb hby d_pc1_5) rfl ?_
  show Go _ _ _ _ s₁ (mkF m 6 #[.val (.int (0 : Int32)), .val (.int (1 : Int32)), .val fm] [(.int (1 : Int32)), (.int (0 : Int32))]) _ _ _
  refine Go.icmpYes X0 hx (hb hby d_pc1_6) (XT.ii_lt_t (by decide)) (pc' := 16) (by decide) (by decide) ?_
  show Go _ _ _ _ s₁ (mkF m 16 #[.val (.int (0 : Int32)), .val (.int (1 : Int32)), .val fm] []) _ _ _
  refine Go.iloadN X0 hx (hb hby d_pc1_16) rfl ?_
  show Go _ _ _ _ s₁ (mkF m 17 #[.val (.int (0 : Int32)), .val (.int (1 : Int32)), .val fm] [(.int (0 : Int32))]) _ _ _
  refine Go.retI X0 hx hlk hret (hb hby d_pc1_17) (by decide) (by decide) ?_
  rw [e0]
  exact ⟨rfl, N0, rfl⟩
def Q_sc1 (Z : State) (fm : Value) (h0 : Heap) (n0 : Nat) (v : Option Value) (h : Heap) (L : List Loc) : Prop := v = none ∧ Fr n0 L ∧ h = h0
theorem ef_sc1 (m : MethodId) (x0 : Int32) (x1 : Int32) : entryFrame m #[(.int x0), (.int x1)] 2 = mkF m 0 #[.val (.int x0), .val (.int x1)] [] := by first | (simp [entryFrame, mkF, argsToLocals, Value.category]; done) | rfl
set_option maxRecDepth 65536 in
set_option maxHeartbeats 40000000 in
theorem rm_sc1 (l : Launch) (Z : State) (a0 : Array Value) (hw : ∀ d ∈ tables_1, d.before a0 Z = true) (fm : Value) (h0 : Heap) (n0 : Nat) (Z0 : n0 ≤ h0.size) (f0 : fm.isRef = true) (f1 : Sta Z h0 "jdk/internal/util/Preconditions" "SIOOBE_FORMATTER" "Ljava/util/function/BiFunction;" fm) :
    Met l Z (⟨"java/lang/String", "checkIndex", "(II)V"⟩ : MethodName) jdk_42_method_155_code 2 none [] ({ frames := 1, cells := 0, slots := 0, locals := 14 } : Room) #[(.int (0 : Int32)), (.int (1 : Int32))] h0 (Q_sc1 Z fm h0 n0) := by
  refine Met.of (plainFor_of_name pn_sc1) ?_
  intro p e s m below meth c s₁ X0 hx hby hml hZ hown hnm e0 hret hlk
  refine Go.cast (ef_sc1 m ((0 : Int32)) ((1 : Int32))) ?_
  show Go _ _ _ _ s₁ (mkF m 0 #[.val (.int (0 : Int32)), .val (.int (1 : Int32))] []) _ _ _
  have N0 := Fr.nil n0
  refine Go.iloadN X0 hx (hb hby d_sc1_0) rfl ?_
  show Go _ _ _ _ s₁ (mkF m 1 #[.val (.int (0 : Int32)), .val (.int (1 : Int32))] [(.int (0 : Int32))]) _ _ _
  refine Go.iloadN X0 hx (hb hby d_sc1_1) rfl ?_
  show Go _ _ _ _ s₁ (mkF m 2 #[.val (.int (0 : Int32)), .val (.int (1 : Int32))] [(.int (1 : Int32)), (.int (0 : Int32))]) _ _ _
  refine Go.getS X0 hx hZ hown (w43 hw) Via.refl e0 f1 (hb hby d_sc1_2) ?_
  intro T13 X13 e13
  show Go _ _ _ _ T13 (mkF m 5 #[.val (.int (0 : Int32)), .val (.int (1 : Int32))] [fm, (.int (1 : Int32)), (.int (0 : Int32))]) _ _ _
  refine Go.callS (W := 0) (argsL := [(.int (0 : Int32)), (.int (1 : Int32)), fm]) (rest := []) X13 hx hZ hown (w45 hw) (w46 hw) (w44 hw) (w47 hw) (by decide) (rm_pc1 l Z a0 hw fm h0 n0 Z0 f0) e13 (lenOf pd_0 rfl) (hb hby d_sc1_5) (by rw [hml]; rfl) rfl (Nat.le_of_eq rfl) (by decide) (by decide) (by decide) (by decide) ?_
  intro v14 T14 L14 X14 q14
  obtain ⟨rfl, M14, e14⟩ := q14
  have N14 := Fr.app N0 M14
  show Go _ _ _ _ T14 (mkF m 8 #[.val (.int (0 : Int32)), .val (.int (1 : Int32))] [(.int (0 : Int32))]) _ _ _
  refine Go.pop X14 hx (hb hby d_sc1_8) rfl ?_
  show Go _ _ _ _ T14 (mkF m 9 #[.val (.int (0 : Int32)), .val (.int (1 : Int32))] []) _ _ _
  refine Go.ret0 X14 hx hlk hret (hb hby d_sc1_9) (by decide) (by decide) ?_
  rw [e14]
  exact ⟨rfl, N14, rfl⟩
def Q_lc1 (Z : State) (b : Addr) (kid : ClassId) (f : Nat → Value) (ch : Int32) (fm : Value) (h0 : Heap) (n0 : Nat) (v : Option Value) (h : Heap) (L : List Loc) : Prop := v = some (.int ((ch &&& (255 : Int32)).toUInt32.toUInt16.toUInt32.toInt32)) ∧ Fr n0 L ∧ h = h0
theorem ef_lc1 (m : MethodId) (x0 : Addr) (x1 : Int32) : entryFrame m #[(.ref x0), (.int x1)] 2 = mkF m 0 #[.val (.ref x0), .val (.int x1)] [] := by first | (simp [entryFrame, mkF, argsToLocals, Value.category]; done) | rfl
set_option maxRecDepth 65536 in
set_option maxHeartbeats 40000000 in
theorem rm_lc1 (l : Launch) (Z : State) (a0 : Array Value) (hw : ∀ d ∈ tables_1, d.before a0 Z = true) (b : Addr) (kid : ClassId) (f : Nat → Value) (ch : Int32) (fm : Value) (h0 : Heap) (n0 : Nat) (Z0 : n0 ≤ h0.size) (f0 : fm.isRef = true) (f1 : Sta Z h0 "jdk/internal/util/Preconditions" "SIOOBE_FORMATTER" "Ljava/util/function/BiFunction;" fm) (f2 : Af Z h0 b kid .byte 1 (updV f 0 (.int ch))) :
    Met l Z (⟨"java/lang/StringLatin1", "charAt", "([BI)C"⟩ : MethodName) jdk_43_method_2_code 2 (Option.some Jvm.ClassFile.FieldType.char) [] ({ frames := 2, cells := 0, slots := 0, locals := 27 } : Room) #[(.ref b), (.int (0 : Int32))] h0 (Q_lc1 Z b kid f ch fm h0 n0) := by
  refine Met.of (plainFor_of_name pn_lc1) ?_
  intro p e s m below meth c s₁ X0 hx hby hml hZ hown hnm e0 hret hlk
  refine Go.cast (ef_lc1 m b ((0 : Int32))) ?_
  show Go _ _ _ _ s₁ (mkF m 0 #[.val (.ref b), .val (.int (0 : Int32))] []) _ _ _
  have N0 := Fr.nil n0
  refine Go.iloadN X0 hx (hb hby d_lc1_0) rfl ?_
  show Go _ _ _ _ s₁ (mkF m 1 #[.val (.ref b), .val (.int (0 : Int32))] [(.int (0 : Int32))]) _ _ _
  refine Go.aloadN X0 hx (hb hby d_lc1_1) rfl rfl ?_
  show Go _ _ _ _ s₁ (mkF m 2 #[.val (.ref b), .val (.int (0 : Int32))] [(.ref b), (.int (0 : Int32))]) _ _ _
  refine Go.alen X0 hx hZ e0 f2 (hb hby d_lc1_2) ?_
  show Go _ _ _ _ s₁ (mkF m 3 #[.val (.ref b), .val (.int (0 : Int32))] [(.int (1 : Int32)), (.int (0 : Int32))]) _ _ _
  refine Go.callS (W := 0) (argsL := [(.int (0 : Int32)), (.int (1 : Int32))]) (rest := []) X0 hx hZ hown (w40 hw) (w41 hw) (w19 hw) (w42 hw) (by decide) (rm_sc1 l Z a0 hw fm h0 n0 Z0 f0 f1) e0 (lenOf pd_1 rfl) (hb hby d_lc1_3) (by rw [hml]; rfl) rfl (Nat.le_of_eq rfl) (by decide) (by decide) (by decide) (by decide) ?_
  intro v15 T15 L15 X15 q15
  obtain ⟨rfl, M15, e15⟩ := q15
  have N15 := Fr.app N0 M15
  show Go _ _ _ _ T15 (mkF m 6 #[.val (.ref b), .val (.int (0 : Int32))] []) _ _ _
  refine Go.aloadN X15 hx (hb hby d_lc1_6) rfl rfl ?_
  show Go _ _ _ _ T15 (mkF m 7 #[.val (.ref b), .val (.int (0 : Int32))] [(.ref b)]) _ _ _
  refine Go.iloadN X15 hx (hb hby d_lc1_7) rfl ?_
  show Go _ _ _ _ T15 (mkF m 8 #[.val (.ref b), .val (.int (0 : Int32))] [(.int (0 : Int32)), (.ref b)]) _ _ _
  refine Go.baloadB X15 hx hZ e15 f2 (by decide) (by decide) (hb hby d_lc1_8) ?_
  show Go _ _ _ _ T15 (mkF m 9 #[.val (.ref b), .val (.int (0 : Int32))] [(.int ch)]) _ _ _
  refine Go.sipush X15 hx (hb hby d_lc1_9) ?_
  show Go _ _ _ _ T15 (mkF m 12 #[.val (.ref b), .val (.int (0 : Int32))] [(.int (255 : Int32)), (.int ch)]) _ _ _
  refine Go.iand X15 hx (hb hby d_lc1_12) ?_
  show Go _ _ _ _ T15 (mkF m 13 #[.val (.ref b), .val (.int (0 : Int32))] [(.int (ch &&& (255 : Int32)))]) _ _ _
  refine Go.i2c X15 hx (hb hby d_lc1_13) ?_
  show Go _ _ _ _ T15 (mkF m 14 #[.val (.ref b), .val (.int (0 : Int32))] [(.int (((ch &&& (255 : Int32))).toUInt32.toUInt16.toUInt32.toInt32))]) _ _ _
  refine Go.retV X15 hx hlk hret (XT.narrow_c _) (Or.inl ⟨rfl, Or.inr (Or.inr (Or.inr (Or.inl rfl))), _, rfl⟩) (hb hby d_lc1_14) (by decide) (by decide) ?_
  rw [e15]
  exact ⟨rfl, N15, rfl⟩
def Q_ca1 (Z : State) (t : Addr) (b : Addr) (kid : ClassId) (f : Nat → Value) (ch : Int32) (fm : Value) (cs : Int32) (h0 : Heap) (n0 : Nat) (v : Option Value) (h : Heap) (L : List Loc) : Prop := v = some (.int ((ch &&& (255 : Int32)).toUInt32.toUInt16.toUInt32.toInt32)) ∧ Fr n0 L ∧ h = h0
theorem ef_ca1 (m : MethodId) (x0 : Addr) (x1 : Int32) : entryFrame m #[(.ref x0), (.int x1)] 2 = mkF m 0 #[.val (.ref x0), .val (.int x1)] [] := by first | (simp [entryFrame, mkF, argsToLocals, Value.category]; done) | rfl
set_option maxRecDepth 65536 in
set_option maxHeartbeats 40000000 in
theorem rm_ca1 (l : Launch) (Z : State) (a0 : Array Value) (hw : ∀ d ∈ tables_1, d.before a0 Z = true) (t : Addr) (b : Addr) (kid : ClassId) (f : Nat → Value) (ch : Int32) (fm : Value) (cs : Int32) (h0 : Heap) (n0 : Nat) (Z0 : n0 ≤ h0.size) (f0 : fm.isRef = true) (f1 : ¬ cs = (0 : Int32)) (f2 : Sta Z h0 "jdk/internal/util/Preconditions" "SIOOBE_FORMATTER" "Ljava/util/function/BiFunction;" fm) (f3 : Sta Z h0 "java/lang/String" "COMPACT_STRINGS" "Z" (.int cs)) (f4 : Exa Z h0 t "java/lang/String") (f5 : Fld Z h0 t "java/lang/String" "coder" "B" (.int (0 : Int32))) (f6 : Fld Z h0 t "java/lang/String" "value" "[B" (.ref b)) (f7 : Af Z h0 b kid .byte 1 (updV f 0 (.int ch))) :
    Met l Z (⟨"java/lang/String", "charAt", "(I)C"⟩ : MethodName) jdk_42_method_56_code 2 (Option.some Jvm.ClassFile.FieldType.char) [] ({ frames := 3, cells := 0, slots := 0, locals := 40 } : Room) #[(.ref t), (.int (0 : Int32))] h0 (Q_ca1 Z t b kid f ch fm cs h0 n0) := by
  refine Met.of (plainFor_of_name pn_ca1) ?_
  intro p e s m below meth c s₁ X0 hx hby hml hZ hown hnm e0 hret hlk
  refine Go.cast (ef_ca1 m t ((0 : Int32))) ?_
  show Go _ _ _ _ s₁ (mkF m 0 #[.val (.ref t), .val (.int (0 : Int32))] []) _ _ _
  have N0 := Fr.nil n0
  refine Go.aloadN X0 hx (hb hby d_ca1_0) rfl rfl ?_
  show Go _ _ _ _ s₁ (mkF m 1 #[.val (.ref t), .val (.int (0 : Int32))] [(.ref t)]) _ _ _
  refine Go.callV (W := 0) (argsL := []) (rest := []) X0 hx hZ hown (w28 hw) (w29 hw) (w31 hw) (w30 hw) (w19 hw) (w32 hw) (notFace_of_selects (args := #[]) (mvT hZ (w31 hw))) (by decide) f4 (rm_isl l Z a0 hw t cs h0 n0 Z0 f3 f1 f5) e0 (lenOf pd_2 rfl) (hb hby d_ca1_1) (by rw [hml]; rfl) rfl (Nat.le_of_eq rfl) (by decide) (by decide) (by decide) (by decide) ?_
  intro v16 T16 L16 X16 q16
  obtain ⟨rfl, M16, e16⟩ := q16
  have N16 := Fr.app N0 M16
  show Go _ _ _ _ T16 (mkF m 4 #[.val (.ref t), .val (.int (0 : Int32))] [(.int (1 : Int32))]) _ _ _
  refine Go.ifNo X16 hx (hb hby d_ca1_4) (XT.i0_eq_f (by decide)) ?_
  show Go _ _ _ _ T16 (mkF m 7 #[.val (.ref t), .val (.int (0 : Int32))] []) _ _ _
  refine Go.aloadN X16 hx (hb hby d_ca1_7) rfl rfl ?_
  show Go _ _ _ _ T16 (mkF m 8 #[.val (.ref t), .val (.int (0 : Int32))] [(.ref t)]) _ _ _
  refine Go.getF X16 hx hZ hown (w21 hw) Via.refl e16 f6 (hb hby d_ca1_8) ?_
  intro T17 X17 e17
  show Go _ _ _ _ T17 (mkF m 11 #[.val (.ref t), .val (.int (0 : Int32))] [(.ref b)]) _ _ _
  refine Go.iloadN X17 hx (hb hby d_ca1_11) rfl ?_
  show Go _ _ _ _ T17 (mkF m 12 #[.val (.ref t), .val (.int (0 : Int32))] [(.int (0 : Int32)), (.ref b)]) _ _ _
  refine Go.callS (W := 0) (argsL := [(.ref b), (.int (0 : Int32))]) (rest := []) X17 hx hZ hown (w36 hw) (w37 hw) (w38 hw) (w39 hw) (by decide) (rm_lc1 l Z a0 hw b kid f ch fm h0 n0 Z0 f0 f2 f7) e17 (lenOf pd_3 rfl) (hb hby d_ca1_12) (by rw [hml]; rfl) rfl (Nat.le_of_eq rfl) (by decide) (by decide) (by decide) (by decide) ?_
  intro v18 T18 L18 X18 q18
  obtain ⟨rfl, M18, e18⟩ := q18
  have N18 := Fr.app N16 M18
  show Go _ _ _ _ T18 (mkF m 15 #[.val (.ref t), .val (.int (0 : Int32))] [(.int ((ch &&& (255 : Int32)).toUInt32.toUInt16.toUInt32.toInt32))]) _ _ _
  refine Go.retV X18 hx hlk hret (XT.narrow_c _) (Or.inl ⟨rfl, Or.inr (Or.inr (Or.inr (Or.inl rfl))), _, rfl⟩) (hb hby d_ca1_15) (by decide) (by decide) ?_
  rw [e18]
  exact ⟨rfl, N18, rfl⟩
def Q_pc2 (Z : State) (fm : Value) (h0 : Heap) (n0 : Nat) (v : Option Value) (h : Heap) (L : List Loc) : Prop := v = some (.int (0 : Int32)) ∧ Fr n0 L ∧ h = h0
theorem ef_pc2 (m : MethodId) (x0 : Int32) (x1 : Int32) (x2 : Value) (r2 : x2.isRef = true) : entryFrame m #[(.int x0), (.int x1), x2] 3 = mkF m 0 #[.val (.int x0), .val (.int x1), .val x2] [] := by all_goals rcases ref_cases r2 with rfl | ⟨_, rfl⟩; all_goals first | (simp [entryFrame, mkF, argsToLocals, Value.category]; done) | rfl
set_option maxRecDepth 65536 in
set_option maxHeartbeats 40000000 in
theorem rm_pc2 (l : Launch) (Z : State) (a0 : Array Value) (hw : ∀ d ∈ tables_1, d.before a0 Z = true) (fm : Value) (h0 : Heap) (n0 : Nat) (Z0 : n0 ≤ h0.size) (f0 : fm.isRef = true) :
    Met l Z (⟨"jdk/internal/util/Preconditions", "checkIndex", "(IILjava/util/function/BiFunction;)I"⟩ : MethodName) jdk_41_method_11_code 3 (Option.some Jvm.ClassFile.FieldType.int) [] ({ frames := 0, cells := 0, slots := 0, locals := 0 } : Room) #[(.int (0 : Int32)), (.int (2 : Int32)), fm] h0 (Q_pc2 Z fm h0 n0) := by
  refine Met.of (plainFor_of_name pn_pc2) ?_
  intro p e s m below meth c s₁ X0 hx hby hml hZ hown hnm e0 hret hlk
  refine Go.cast (ef_pc2 m ((0 : Int32)) ((2 : Int32)) fm f0) ?_
  show Go _ _ _ _ s₁ (mkF m 0 #[.val (.int (0 : Int32)), .val (.int (2 : Int32)), .val fm] []) _ _ _
  have N0 := Fr.nil n0
  refine Go.iloadN X0 hx (hb hby d_pc2_0) rfl ?_
  show Go _ _ _ _ s₁ (mkF m 1 #[.val (.int (0 : Int32)), .val (.int (2 : Int32)), .val fm] [(.int (0 : Int32))]) _ _ _
  refine Go.ifNo X0 hx (hb hby d_pc2_1) (XT.i0_lt_f (by decide)) ?_
  show Go _ _ _ _ s₁ (mkF m 4 #[.val (.int (0 : Int32)), .val (.int (2 : Int32)), .val fm] []) _ _ _
  refine Go.iloadN X0 hx (hb hby d_pc2_4) rfl ?_
  show Go _ _ _ _ s₁ (mkF m 5 #[.val (.int (0 : Int32)), .val (.int (2 : Int32)), .val fm] [(.int (0 : Int32))]) _ _ _
  refine Go.iloadN X0 hx (hb hby d_pc2_5) rfl ?_
  show Go _ _ _ _ s₁ (mkF m 6 #[.val (.int (0 : Int32)), .val (.int (2 : Int32)), .val fm] [(.int (2 : Int32)), (.int (0 : Int32))]) _ _ _
  refine Go.icmpYes X0 hx (hb hby d_pc2_6) (XT.ii_lt_t (by decide)) (pc' := 16) (by decide) (by decide) ?_
  show Go _ _ _ _ s₁ (mkF m 16 #[.val (.int (0 : Int32)), .val (.int (2 : Int32)), .val fm] []) _ _ _
  refine Go.iloadN X0 hx (hb hby d_pc2_16) rfl ?_
  show Go _ _ _ _ s₁ (mkF m 17 #[.val (.int (0 : Int32)), .val (.int (2 : Int32)), .val fm] [(.int (0 : Int32))]) _ _ _
  refine Go.retI X0 hx hlk hret (hb hby d_pc2_17) (by decide) (by decide) ?_
  rw [e0]
  exact ⟨rfl, N0, rfl⟩
def Q_sc2 (Z : State) (fm : Value) (h0 : Heap) (n0 : Nat) (v : Option Value) (h : Heap) (L : List Loc) : Prop := v = none ∧ Fr n0 L ∧ h = h0
theorem ef_sc2 (m : MethodId) (x0 : Int32) (x1 : Int32) : entryFrame m #[(.int x0), (.int x1)] 2 = mkF m 0 #[.val (.int x0), .val (.int x1)] [] := by first | (simp [entryFrame, mkF, argsToLocals, Value.category]; done) | rfl
set_option maxRecDepth 65536 in
set_option maxHeartbeats 40000000 in
theorem rm_sc2 (l : Launch) (Z : State) (a0 : Array Value) (hw : ∀ d ∈ tables_1, d.before a0 Z = true) (fm : Value) (h0 : Heap) (n0 : Nat) (Z0 : n0 ≤ h0.size) (f0 : fm.isRef = true) (f1 : Sta Z h0 "jdk/internal/util/Preconditions" "SIOOBE_FORMATTER" "Ljava/util/function/BiFunction;" fm) :
    Met l Z (⟨"java/lang/String", "checkIndex", "(II)V"⟩ : MethodName) jdk_42_method_155_code 2 none [] ({ frames := 1, cells := 0, slots := 0, locals := 14 } : Room) #[(.int (0 : Int32)), (.int (2 : Int32))] h0 (Q_sc2 Z fm h0 n0) := by
  refine Met.of (plainFor_of_name pn_sc2) ?_
  intro p e s m below meth c s₁ X0 hx hby hml hZ hown hnm e0 hret hlk
  refine Go.cast (ef_sc2 m ((0 : Int32)) ((2 : Int32))) ?_
  show Go _ _ _ _ s₁ (mkF m 0 #[.val (.int (0 : Int32)), .val (.int (2 : Int32))] []) _ _ _
  have N0 := Fr.nil n0
  refine Go.iloadN X0 hx (hb hby d_sc2_0) rfl ?_
  show Go _ _ _ _ s₁ (mkF m 1 #[.val (.int (0 : Int32)), .val (.int (2 : Int32))] [(.int (0 : Int32))]) _ _ _
  refine Go.iloadN X0 hx (hb hby d_sc2_1) rfl ?_
  show Go _ _ _ _ s₁ (mkF m 2 #[.val (.int (0 : Int32)), .val (.int (2 : Int32))] [(.int (2 : Int32)), (.int (0 : Int32))]) _ _ _
  refine Go.getS X0 hx hZ hown (w43 hw) Via.refl e0 f1 (hb hby d_sc2_2) ?_
  intro T19 X19 e19
  show Go _ _ _ _ T19 (mkF m 5 #[.val (.int (0 : Int32)), .val (.int (2 : Int32))] [fm, (.int (2 : Int32)), (.int (0 : Int32))]) _ _ _
  refine Go.callS (W := 0) (argsL := [(.int (0 : Int32)), (.int (2 : Int32)), fm]) (rest := []) X19 hx hZ hown (w45 hw) (w46 hw) (w44 hw) (w47 hw) (by decide) (rm_pc2 l Z a0 hw fm h0 n0 Z0 f0) e19 (lenOf pd_0 rfl) (hb hby d_sc2_5) (by rw [hml]; rfl) rfl (Nat.le_of_eq rfl) (by decide) (by decide) (by decide) (by decide) ?_
  intro v20 T20 L20 X20 q20
  obtain ⟨rfl, M20, e20⟩ := q20
  have N20 := Fr.app N0 M20
  show Go _ _ _ _ T20 (mkF m 8 #[.val (.int (0 : Int32)), .val (.int (2 : Int32))] [(.int (0 : Int32))]) _ _ _
  refine Go.pop X20 hx (hb hby d_sc2_8) rfl ?_
  show Go _ _ _ _ T20 (mkF m 9 #[.val (.int (0 : Int32)), .val (.int (2 : Int32))] []) _ _ _
  refine Go.ret0 X20 hx hlk hret (hb hby d_sc2_9) (by decide) (by decide) ?_
  rw [e20]
  exact ⟨rfl, N20, rfl⟩
def Q_lc2 (Z : State) (b : Addr) (kid : ClassId) (f : Nat → Value) (ch : Int32) (fm : Value) (h0 : Heap) (n0 : Nat) (v : Option Value) (h : Heap) (L : List Loc) : Prop := v = some (.int ((ch &&& (255 : Int32)).toUInt32.toUInt16.toUInt32.toInt32)) ∧ Fr n0 L ∧ h = h0
theorem ef_lc2 (m : MethodId) (x0 : Addr) (x1 : Int32) : entryFrame m #[(.ref x0), (.int x1)] 2 = mkF m 0 #[.val (.ref x0), .val (.int x1)] [] := by first | (simp [entryFrame, mkF, argsToLocals, Value.category]; done) | rfl
set_option maxRecDepth 65536 in
set_option maxHeartbeats 40000000 in
theorem rm_lc2 (l : Launch) (Z : State) (a0 : Array Value) (hw : ∀ d ∈ tables_1, d.before a0 Z = true) (b : Addr) (kid : ClassId) (f : Nat → Value) (ch : Int32) (fm : Value) (h0 : Heap) (n0 : Nat) (Z0 : n0 ≤ h0.size) (f0 : fm.isRef = true) (f1 : Sta Z h0 "jdk/internal/util/Preconditions" "SIOOBE_FORMATTER" "Ljava/util/function/BiFunction;" fm) (f2 : Af Z h0 b kid .byte 2 (updV f 0 (.int ch))) :
    Met l Z (⟨"java/lang/StringLatin1", "charAt", "([BI)C"⟩ : MethodName) jdk_43_method_2_code 2 (Option.some Jvm.ClassFile.FieldType.char) [] ({ frames := 2, cells := 0, slots := 0, locals := 27 } : Room) #[(.ref b), (.int (0 : Int32))] h0 (Q_lc2 Z b kid f ch fm h0 n0) := by
  refine Met.of (plainFor_of_name pn_lc2) ?_
  intro p e s m below meth c s₁ X0 hx hby hml hZ hown hnm e0 hret hlk
  refine Go.cast (ef_lc2 m b ((0 : Int32))) ?_
  show Go _ _ _ _ s₁ (mkF m 0 #[.val (.ref b), .val (.int (0 : Int32))] []) _ _ _
  have N0 := Fr.nil n0
  refine Go.iloadN X0 hx (hb hby d_lc2_0) rfl ?_
  show Go _ _ _ _ s₁ (mkF m 1 #[.val (.ref b), .val (.int (0 : Int32))] [(.int (0 : Int32))]) _ _ _
  refine Go.aloadN X0 hx (hb hby d_lc2_1) rfl rfl ?_
  show Go _ _ _ _ s₁ (mkF m 2 #[.val (.ref b), .val (.int (0 : Int32))] [(.ref b), (.int (0 : Int32))]) _ _ _
  refine Go.alen X0 hx hZ e0 f2 (hb hby d_lc2_2) ?_
  show Go _ _ _ _ s₁ (mkF m 3 #[.val (.ref b), .val (.int (0 : Int32))] [(.int (2 : Int32)), (.int (0 : Int32))]) _ _ _
  refine Go.callS (W := 0) (argsL := [(.int (0 : Int32)), (.int (2 : Int32))]) (rest := []) X0 hx hZ hown (w40 hw) (w41 hw) (w19 hw) (w42 hw) (by decide) (rm_sc2 l Z a0 hw fm h0 n0 Z0 f0 f1) e0 (lenOf pd_1 rfl) (hb hby d_lc2_3) (by rw [hml]; rfl) rfl (Nat.le_of_eq rfl) (by decide) (by decide) (by decide) (by decide) ?_
  intro v21 T21 L21 X21 q21
  obtain ⟨rfl, M21, e21⟩ := q21
  have N21 := Fr.app N0 M21
  show Go _ _ _ _ T21 (mkF m 6 #[.val (.ref b), .val (.int (0 : Int32))] []) _ _ _
  refine Go.aloadN X21 hx (hb hby d_lc2_6) rfl rfl ?_
  show Go _ _ _ _ T21 (mkF m 7 #[.val (.ref b), .val (.int (0 : Int32))] [(.ref b)]) _ _ _
  refine Go.iloadN X21 hx (hb hby d_lc2_7) rfl ?_
  show Go _ _ _ _ T21 (mkF m 8 #[.val (.ref b), .val (.int (0 : Int32))] [(.int (0 : Int32)), (.ref b)]) _ _ _
  refine Go.baloadB X21 hx hZ e21 f2 (by decide) (by decide) (hb hby d_lc2_8) ?_
  show Go _ _ _ _ T21 (mkF m 9 #[.val (.ref b), .val (.int (0 : Int32))] [(.int ch)]) _ _ _
  refine Go.sipush X21 hx (hb hby d_lc2_9) ?_
  show Go _ _ _ _ T21 (mkF m 12 #[.val (.ref b), .val (.int (0 : Int32))] [(.int (255 : Int32)), (.int ch)]) _ _ _
  refine Go.iand X21 hx (hb hby d_lc2_12) ?_
  show Go _ _ _ _ T21 (mkF m 13 #[.val (.ref b), .val (.int (0 : Int32))] [(.int (ch &&& (255 : Int32)))]) _ _ _
  refine Go.i2c X21 hx (hb hby d_lc2_13) ?_
  show Go _ _ _ _ T21 (mkF m 14 #[.val (.ref b), .val (.int (0 : Int32))] [(.int (((ch &&& (255 : Int32))).toUInt32.toUInt16.toUInt32.toInt32))]) _ _ _
  refine Go.retV X21 hx hlk hret (XT.narrow_c _) (Or.inl ⟨rfl, Or.inr (Or.inr (Or.inr (Or.inl rfl))), _, rfl⟩) (hb hby d_lc2_14) (by decide) (by decide) ?_
  rw [e21]
  exact ⟨rfl, N21, rfl⟩
def Q_ca2 (Z : State) (t : Addr) (b : Addr) (kid : ClassId) (f : Nat → Value) (ch : Int32) (fm : Value) (cs : Int32) (h0 : Heap) (n0 : Nat) (v : Option Value) (h : Heap) (L : List Loc) : Prop := v = some (.int ((ch &&& (255 : Int32)).toUInt32.toUInt16.toUInt32.toInt32)) ∧ Fr n0 L ∧ h = h0
theorem ef_ca2 (m : MethodId) (x0 : Addr) (x1 : Int32) : entryFrame m #[(.ref x0), (.int x1)] 2 = mkF m 0 #[.val (.ref x0), .val (.int x1)] [] := by first | (simp [entryFrame, mkF, argsToLocals, Value.category]; done) | rfl
set_option maxRecDepth 65536 in
set_option maxHeartbeats 40000000 in
theorem rm_ca2 (l : Launch) (Z : State) (a0 : Array Value) (hw : ∀ d ∈ tables_1, d.before a0 Z = true) (t : Addr) (b : Addr) (kid : ClassId) (f : Nat → Value) (ch : Int32) (fm : Value) (cs : Int32) (h0 : Heap) (n0 : Nat) (Z0 : n0 ≤ h0.size) (f0 : fm.isRef = true) (f1 : ¬ cs = (0 : Int32)) (f2 : Sta Z h0 "jdk/internal/util/Preconditions" "SIOOBE_FORMATTER" "Ljava/util/function/BiFunction;" fm) (f3 : Sta Z h0 "java/lang/String" "COMPACT_STRINGS" "Z" (.int cs)) (f4 : Exa Z h0 t "java/lang/String") (f5 : Fld Z h0 t "java/lang/String" "coder" "B" (.int (0 : Int32))) (f6 : Fld Z h0 t "java/lang/String" "value" "[B" (.ref b)) (f7 : Af Z h0 b kid .byte 2 (updV f 0 (.int ch))) :
    Met l Z (⟨"java/lang/String", "charAt", "(I)C"⟩ : MethodName) jdk_42_method_56_code 2 (Option.some Jvm.ClassFile.FieldType.char) [] ({ frames := 3, cells := 0, slots := 0, locals := 40 } : Room) #[(.ref t), (.int (0 : Int32))] h0 (Q_ca2 Z t b kid f ch fm cs h0 n0) := by
  refine Met.of (plainFor_of_name pn_ca2) ?_
  intro p e s m below meth c s₁ X0 hx hby hml hZ hown hnm e0 hret hlk
  refine Go.cast (ef_ca2 m t ((0 : Int32))) ?_
  show Go _ _ _ _ s₁ (mkF m 0 #[.val (.ref t), .val (.int (0 : Int32))] []) _ _ _
  have N0 := Fr.nil n0
  refine Go.aloadN X0 hx (hb hby d_ca2_0) rfl rfl ?_
  show Go _ _ _ _ s₁ (mkF m 1 #[.val (.ref t), .val (.int (0 : Int32))] [(.ref t)]) _ _ _
  refine Go.callV (W := 0) (argsL := []) (rest := []) X0 hx hZ hown (w28 hw) (w29 hw) (w31 hw) (w30 hw) (w19 hw) (w32 hw) (notFace_of_selects (args := #[]) (mvT hZ (w31 hw))) (by decide) f4 (rm_isl l Z a0 hw t cs h0 n0 Z0 f3 f1 f5) e0 (lenOf pd_2 rfl) (hb hby d_ca2_1) (by rw [hml]; rfl) rfl (Nat.le_of_eq rfl) (by decide) (by decide) (by decide) (by decide) ?_
  intro v22 T22 L22 X22 q22
  obtain ⟨rfl, M22, e22⟩ := q22
  have N22 := Fr.app N0 M22
  show Go _ _ _ _ T22 (mkF m 4 #[.val (.ref t), .val (.int (0 : Int32))] [(.int (1 : Int32))]) _ _ _
  refine Go.ifNo X22 hx (hb hby d_ca2_4) (XT.i0_eq_f (by decide)) ?_
  show Go _ _ _ _ T22 (mkF m 7 #[.val (.ref t), .val (.int (0 : Int32))] []) _ _ _
  refine Go.aloadN X22 hx (hb hby d_ca2_7) rfl rfl ?_
  show Go _ _ _ _ T22 (mkF m 8 #[.val (.ref t), .val (.int (0 : Int32))] [(.ref t)]) _ _ _
  refine Go.getF X22 hx hZ hown (w21 hw) Via.refl e22 f6 (hb hby d_ca2_8) ?_
  intro T23 X23 e23
  show Go _ _ _ _ T23 (mkF m 11 #[.val (.ref t), .val (.int (0 : Int32))] [(.ref b)]) _ _ _
  refine Go.iloadN X23 hx (hb hby d_ca2_11) rfl ?_
  show Go _ _ _ _ T23 (mkF m 12 #[.val (.ref t), .val (.int (0 : Int32))] [(.int (0 : Int32)), (.ref b)]) _ _ _
  refine Go.callS (W := 0) (argsL := [(.ref b), (.int (0 : Int32))]) (rest := []) X23 hx hZ hown (w36 hw) (w37 hw) (w38 hw) (w39 hw) (by decide) (rm_lc2 l Z a0 hw b kid f ch fm h0 n0 Z0 f0 f2 f7) e23 (lenOf pd_3 rfl) (hb hby d_ca2_12) (by rw [hml]; rfl) rfl (Nat.le_of_eq rfl) (by decide) (by decide) (by decide) (by decide) ?_
  intro v24 T24 L24 X24 q24
  obtain ⟨rfl, M24, e24⟩ := q24
  have N24 := Fr.app N22 M24
  show Go _ _ _ _ T24 (mkF m 15 #[.val (.ref t), .val (.int (0 : Int32))] [(.int ((ch &&& (255 : Int32)).toUInt32.toUInt16.toUInt32.toInt32))]) _ _ _
  refine Go.retV X24 hx hlk hret (XT.narrow_c _) (Or.inl ⟨rfl, Or.inr (Or.inr (Or.inr (Or.inl rfl))), _, rfl⟩) (hb hby d_ca2_15) (by decide) (by decide) ?_
  rw [e24]
  exact ⟨rfl, N24, rfl⟩
def Q_or0 (Z : State) (a : Addr) (h0 : Heap) (n0 : Nat) (v : Option Value) (h : Heap) (L : List Loc) : Prop := v = some (.int (1 : Int32)) ∧ Fr n0 L ∧ h = h0
theorem ef_or0 (m : MethodId) (x0 : Addr) : entryFrame m #[(.ref x0)] 1 = mkF m 0 #[.val (.ref x0)] [] := by first | (simp [entryFrame, mkF, argsToLocals, Value.category]; done) | rfl
set_option maxRecDepth 65536 in
set_option maxHeartbeats 40000000 in
theorem rm_or0 (l : Launch) (Z : State) (a0 : Array Value) (hw : ∀ d ∈ tables_1, d.before a0 Z = true) (a : Addr) (h0 : Heap) (n0 : Nat) (Z0 : n0 ≤ h0.size) (f0 : Sta Z h0 "com/example/rosterd/rosterd/query/Operator" "GREATER" "Lcom/example/rosterd/rosterd/query/Operator;" (.ref a)) :
    Met l Z (⟨"com/example/rosterd/rosterd/query/Operator", "orders", "()Z"⟩ : MethodName) prog_10_method_7_code 1 (Option.some Jvm.ClassFile.FieldType.boolean) [] ({ frames := 0, cells := 0, slots := 0, locals := 0 } : Room) #[(.ref a)] h0 (Q_or0 Z a h0 n0) := by
  refine Met.of (plainFor_of_name pn_or0) ?_
  intro p e s m below meth c s₁ X0 hx hby hml hZ hown hnm e0 hret hlk
  refine Go.cast (ef_or0 m a) ?_
  show Go _ _ _ _ s₁ (mkF m 0 #[.val (.ref a)] []) _ _ _
  have N0 := Fr.nil n0
  refine Go.aloadN X0 hx (hb hby d_or0_0) rfl rfl ?_
  show Go _ _ _ _ s₁ (mkF m 1 #[.val (.ref a)] [(.ref a)]) _ _ _
  refine Go.getS X0 hx hZ hown (w53 hw) Via.refl e0 f0 (hb hby d_or0_1) ?_
  intro T25 X25 e25
  show Go _ _ _ _ T25 (mkF m 4 #[.val (.ref a)] [(.ref a), (.ref a)]) _ _ _
  refine Go.acmpYes X25 hx (hb hby d_or0_4) rfl rfl (ac_eq_p rfl) (pc' := 28) (by decide) (by decide) ?_
  show Go _ _ _ _ T25 (mkF m 28 #[.val (.ref a)] []) _ _ _
  refine Go.iconst X25 hx (hb hby d_or0_28) ?_
  show Go _ _ _ _ T25 (mkF m 29 #[.val (.ref a)] [(.int (1 : Int32))]) _ _ _
  refine Go.goto X25 hx (hb hby d_or0_29) (pc' := 33) (by decide) (by decide) ?_
  show Go _ _ _ _ T25 (mkF m 33 #[.val (.ref a)] [(.int (1 : Int32))]) _ _ _
  refine Go.retZ X25 hx hlk hret (by decide) (hb hby d_or0_33) (by decide) (by decide) ?_
  rw [e25]
  exact ⟨rfl, N0, rfl⟩
def Q_or1 (Z : State) (a : Addr) (m0 : Addr) (h0 : Heap) (n0 : Nat) (v : Option Value) (h : Heap) (L : List Loc) : Prop := v = some (.int (1 : Int32)) ∧ Fr n0 L ∧ h = h0
theorem ef_or1 (m : MethodId) (x0 : Addr) : entryFrame m #[(.ref x0)] 1 = mkF m 0 #[.val (.ref x0)] [] := by first | (simp [entryFrame, mkF, argsToLocals, Value.category]; done) | rfl
set_option maxRecDepth 65536 in
set_option maxHeartbeats 40000000 in
theorem rm_or1 (l : Launch) (Z : State) (a0 : Array Value) (hw : ∀ d ∈ tables_1, d.before a0 Z = true) (a : Addr) (m0 : Addr) (h0 : Heap) (n0 : Nat) (Z0 : n0 ≤ h0.size) (f0 : Sta Z h0 "com/example/rosterd/rosterd/query/Operator" "GREATER" "Lcom/example/rosterd/rosterd/query/Operator;" (.ref m0)) (f1 : Sta Z h0 "com/example/rosterd/rosterd/query/Operator" "GREATER_OR_EQUAL" "Lcom/example/rosterd/rosterd/query/Operator;" (.ref a)) (f2 : a ≠ m0) :
    Met l Z (⟨"com/example/rosterd/rosterd/query/Operator", "orders", "()Z"⟩ : MethodName) prog_10_method_7_code 1 (Option.some Jvm.ClassFile.FieldType.boolean) [] ({ frames := 0, cells := 0, slots := 0, locals := 0 } : Room) #[(.ref a)] h0 (Q_or1 Z a m0 h0 n0) := by
  refine Met.of (plainFor_of_name pn_or1) ?_
  intro p e s m below meth c s₁ X0 hx hby hml hZ hown hnm e0 hret hlk
  refine Go.cast (ef_or1 m a) ?_
  show Go _ _ _ _ s₁ (mkF m 0 #[.val (.ref a)] []) _ _ _
  have N0 := Fr.nil n0
  refine Go.aloadN X0 hx (hb hby d_or1_0) rfl rfl ?_
  show Go _ _ _ _ s₁ (mkF m 1 #[.val (.ref a)] [(.ref a)]) _ _ _
  refine Go.getS X0 hx hZ hown (w53 hw) Via.refl e0 f0 (hb hby d_or1_1) ?_
  intro T26 X26 e26
  show Go _ _ _ _ T26 (mkF m 4 #[.val (.ref a)] [(.ref m0), (.ref a)]) _ _ _
  refine Go.acmpNo X26 hx (hb hby d_or1_4) rfl rfl (ac_eq_n f2) ?_
  show Go _ _ _ _ T26 (mkF m 7 #[.val (.ref a)] []) _ _ _
  refine Go.aloadN X26 hx (hb hby d_or1_7) rfl rfl ?_
  show Go _ _ _ _ T26 (mkF m 8 #[.val (.ref a)] [(.ref a)]) _ _ _
  refine Go.getS X26 hx hZ hown (w55 hw) Via.refl e26 f1 (hb hby d_or1_8) ?_
  intro T27 X27 e27
  show Go _ _ _ _ T27 (mkF m 11 #[.val (.ref a)] [(.ref a), (.ref a)]) _ _ _
  refine Go.acmpYes X27 hx (hb hby d_or1_11) rfl rfl (ac_eq_p rfl) (pc' := 28) (by decide) (by decide) ?_
  show Go _ _ _ _ T27 (mkF m 28 #[.val (.ref a)] []) _ _ _
  refine Go.iconst X27 hx (hb hby d_or1_28) ?_
  show Go _ _ _ _ T27 (mkF m 29 #[.val (.ref a)] [(.int (1 : Int32))]) _ _ _
  refine Go.goto X27 hx (hb hby d_or1_29) (pc' := 33) (by decide) (by decide) ?_
  show Go _ _ _ _ T27 (mkF m 33 #[.val (.ref a)] [(.int (1 : Int32))]) _ _ _
  refine Go.retZ X27 hx hlk hret (by decide) (hb hby d_or1_33) (by decide) (by decide) ?_
  rw [e27]
  exact ⟨rfl, N0, rfl⟩
def Q_or2 (Z : State) (a : Addr) (m0 : Addr) (m1 : Addr) (h0 : Heap) (n0 : Nat) (v : Option Value) (h : Heap) (L : List Loc) : Prop := v = some (.int (1 : Int32)) ∧ Fr n0 L ∧ h = h0
theorem ef_or2 (m : MethodId) (x0 : Addr) : entryFrame m #[(.ref x0)] 1 = mkF m 0 #[.val (.ref x0)] [] := by first | (simp [entryFrame, mkF, argsToLocals, Value.category]; done) | rfl
set_option maxRecDepth 65536 in
set_option maxHeartbeats 40000000 in
theorem rm_or2 (l : Launch) (Z : State) (a0 : Array Value) (hw : ∀ d ∈ tables_1, d.before a0 Z = true) (a : Addr) (m0 : Addr) (m1 : Addr) (h0 : Heap) (n0 : Nat) (Z0 : n0 ≤ h0.size) (f0 : Sta Z h0 "com/example/rosterd/rosterd/query/Operator" "GREATER" "Lcom/example/rosterd/rosterd/query/Operator;" (.ref m0)) (f1 : Sta Z h0 "com/example/rosterd/rosterd/query/Operator" "GREATER_OR_EQUAL" "Lcom/example/rosterd/rosterd/query/Operator;" (.ref m1)) (f2 : Sta Z h0 "com/example/rosterd/rosterd/query/Operator" "LESS" "Lcom/example/rosterd/rosterd/query/Operator;" (.ref a)) (f3 : a ≠ m0) (f4 : a ≠ m1) :
    Met l Z (⟨"com/example/rosterd/rosterd/query/Operator", "orders", "()Z"⟩ : MethodName) prog_10_method_7_code 1 (Option.some Jvm.ClassFile.FieldType.boolean) [] ({ frames := 0, cells := 0, slots := 0, locals := 0 } : Room) #[(.ref a)] h0 (Q_or2 Z a m0 m1 h0 n0) := by
  refine Met.of (plainFor_of_name pn_or2) ?_
  intro p e s m below meth c s₁ X0 hx hby hml hZ hown hnm e0 hret hlk
  refine Go.cast (ef_or2 m a) ?_
  show Go _ _ _ _ s₁ (mkF m 0 #[.val (.ref a)] []) _ _ _
  have N0 := Fr.nil n0
  refine Go.aloadN X0 hx (hb hby d_or2_0) rfl rfl ?_
  show Go _ _ _ _ s₁ (mkF m 1 #[.val (.ref a)] [(.ref a)]) _ _ _
  refine Go.getS X0 hx hZ hown (w53 hw) Via.refl e0 f0 (hb hby d_or2_1) ?_
  intro T28 X28 e28
  show Go _ _ _ _ T28 (mkF m 4 #[.val (.ref a)] [(.ref m0), (.ref a)]) _ _ _
  refine Go.acmpNo X28 hx (hb hby d_or2_4) rfl rfl (ac_eq_n f3) ?_
  show Go _ _ _ _ T28 (mkF m 7 #[.val (.ref a)] []) _ _ _
  refine Go.aloadN X28 hx (hb hby d_or2_7) rfl rfl ?_
  show Go _ _ _ _ T28 (mkF m 8 #[.val (.ref a)] [(.ref a)]) _ _ _
  refine Go.getS X28 hx hZ hown (w55 hw) Via.refl e28 f1 (hb hby d_or2_8) ?_
  intro T29 X29 e29
  show Go _ _ _ _ T29 (mkF m 11 #[.val (.ref a)] [(.ref m1), (.ref a)]) _ _ _
  refine Go.acmpNo X29 hx (hb hby d_or2_11) rfl rfl (ac_eq_n f4) ?_
  show Go _ _ _ _ T29 (mkF m 14 #[.val (.ref a)] []) _ _ _
  refine Go.aloadN X29 hx (hb hby d_or2_14) rfl rfl ?_
  show Go _ _ _ _ T29 (mkF m 15 #[.val (.ref a)] [(.ref a)]) _ _ _
  refine Go.getS X29 hx hZ hown (w57 hw) Via.refl e29 f2 (hb hby d_or2_15) ?_
  intro T30 X30 e30
  show Go _ _ _ _ T30 (mkF m 18 #[.val (.ref a)] [(.ref a), (.ref a)]) _ _ _
  refine Go.acmpYes X30 hx (hb hby d_or2_18) rfl rfl (ac_eq_p rfl) (pc' := 28) (by decide) (by decide) ?_
  show Go _ _ _ _ T30 (mkF m 28 #[.val (.ref a)] []) _ _ _
  refine Go.iconst X30 hx (hb hby d_or2_28) ?_
  show Go _ _ _ _ T30 (mkF m 29 #[.val (.ref a)] [(.int (1 : Int32))]) _ _ _
  refine Go.goto X30 hx (hb hby d_or2_29) (pc' := 33) (by decide) (by decide) ?_
  show Go _ _ _ _ T30 (mkF m 33 #[.val (.ref a)] [(.int (1 : Int32))]) _ _ _
  refine Go.retZ X30 hx hlk hret (by decide) (hb hby d_or2_33) (by decide) (by decide) ?_
  rw [e30]
  exact ⟨rfl, N0, rfl⟩
def Q_or3 (Z : State) (a : Addr) (m0 : Addr) (m1 : Addr) (m2 : Addr) (h0 : Heap) (n0 : Nat) (v : Option Value) (h : Heap) (L : List Loc) : Prop := v = some (.int (1 : Int32)) ∧ Fr n0 L ∧ h = h0
theorem ef_or3 (m : MethodId) (x0 : Addr) : entryFrame m #[(.ref x0)] 1 = mkF m 0 #[.val (.ref x0)] [] := by first | (simp [entryFrame, mkF, argsToLocals, Value.category]; done) | rfl
set_option maxRecDepth 65536 in
set_option maxHeartbeats 40000000 in
theorem rm_or3 (l : Launch) (Z : State) (a0 : Array Value) (hw : ∀ d ∈ tables_1, d.before a0 Z = true) (a : Addr) (m0 : Addr) (m1 : Addr) (m2 : Addr) (h0 : Heap) (n0 : Nat) (Z0 : n0 ≤ h0.size) (f0 : Sta Z h0 "com/example/rosterd/rosterd/query/Operator" "GREATER" "Lcom/example/rosterd/rosterd/query/Operator;" (.ref m0)) (f1 : Sta Z h0 "com/example/rosterd/rosterd/query/Operator" "GREATER_OR_EQUAL" "Lcom/example/rosterd/rosterd/query/Operator;" (.ref m1)) (f2 : Sta Z h0 "com/example/rosterd/rosterd/query/Operator" "LESS" "Lcom/example/rosterd/rosterd/query/Operator;" (.ref m2)) (f3 : Sta Z h0 "com/example/rosterd/rosterd/query/Operator" "LESS_OR_EQUAL" "Lcom/example/rosterd/rosterd/query/Operator;" (.ref a)) (f4 : a ≠ m0) (f5 : a ≠ m1) (f6 : a ≠ m2) :
    Met l Z (⟨"com/example/rosterd/rosterd/query/Operator", "orders", "()Z"⟩ : MethodName) prog_10_method_7_code 1 (Option.some Jvm.ClassFile.FieldType.boolean) [] ({ frames := 0, cells := 0, slots := 0, locals := 0 } : Room) #[(.ref a)] h0 (Q_or3 Z a m0 m1 m2 h0 n0) := by
  refine Met.of (plainFor_of_name pn_or3) ?_
  intro p e s m below meth c s₁ X0 hx hby hml hZ hown hnm e0 hret hlk
  refine Go.cast (ef_or3 m a) ?_
  show Go _ _ _ _ s₁ (mkF m 0 #[.val (.ref a)] []) _ _ _
  have N0 := Fr.nil n0
  refine Go.aloadN X0 hx (hb hby d_or3_0) rfl rfl ?_
  show Go _ _ _ _ s₁ (mkF m 1 #[.val (.ref a)] [(.ref a)]) _ _ _
  refine Go.getS X0 hx hZ hown (w53 hw) Via.refl e0 f0 (hb hby d_or3_1) ?_
  intro T31 X31 e31
  show Go _ _ _ _ T31 (mkF m 4 #[.val (.ref a)] [(.ref m0), (.ref a)]) _ _ _
  refine Go.acmpNo X31 hx (hb hby d_or3_4) rfl rfl (ac_eq_n f4) ?_
  show Go _ _ _ _ T31 (mkF m 7 #[.val (.ref a)] []) _ _ _
  refine Go.aloadN X31 hx (hb hby d_or3_7) rfl rfl ?_
  show Go _ _ _ _ T31 (mkF m 8 #[.val (.ref a)] [(.ref a)]) _ _ _
  refine Go.getS X31 hx hZ hown (w55 hw) Via.refl e31 f1 (hb hby d_or3_8) ?_
  intro T32 X32 e32
  show Go _ _ _ _ T32 (mkF m 11 #[.val (.ref a)] [(.ref m1), (.ref a)]) _ _ _
  refine Go.acmpNo X32 hx (hb hby d_or3_11) rfl rfl (ac_eq_n f5) ?_
  show Go _ _ _ _ T32 (mkF m 14 #[.val (.ref a)] []) _ _ _
  refine Go.aloadN X32 hx (hb hby d_or3_14) rfl rfl ?_
  show Go _ _ _ _ T32 (mkF m 15 #[.val (.ref a)] [(.ref a)]) _ _ _
  refine Go.getS X32 hx hZ hown (w57 hw) Via.refl e32 f2 (hb hby d_or3_15) ?_
  intro T33 X33 e33
  show Go _ _ _ _ T33 (mkF m 18 #[.val (.ref a)] [(.ref m2), (.ref a)]) _ _ _
  refine Go.acmpNo X33 hx (hb hby d_or3_18) rfl rfl (ac_eq_n f6) ?_
  show Go _ _ _ _ T33 (mkF m 21 #[.val (.ref a)] []) _ _ _
  refine Go.aloadN X33 hx (hb hby d_or3_21) rfl rfl ?_
  show Go _ _ _ _ T33 (mkF m 22 #[.val (.ref a)] [(.ref a)]) _ _ _
  refine Go.getS X33 hx hZ hown (w59 hw) Via.refl e33 f3 (hb hby d_or3_22) ?_
  intro T34 X34 e34
  show Go _ _ _ _ T34 (mkF m 25 #[.val (.ref a)] [(.ref a), (.ref a)]) _ _ _
  refine Go.acmpNo X34 hx (hb hby d_or3_25) rfl rfl (ac_ne_p rfl) ?_
  show Go _ _ _ _ T34 (mkF m 28 #[.val (.ref a)] []) _ _ _
  refine Go.iconst X34 hx (hb hby d_or3_28) ?_
  show Go _ _ _ _ T34 (mkF m 29 #[.val (.ref a)] [(.int (1 : Int32))]) _ _ _
  refine Go.goto X34 hx (hb hby d_or3_29) (pc' := 33) (by decide) (by decide) ?_
  show Go _ _ _ _ T34 (mkF m 33 #[.val (.ref a)] [(.int (1 : Int32))]) _ _ _
  refine Go.retZ X34 hx hlk hret (by decide) (hb hby d_or3_33) (by decide) (by decide) ?_
  rw [e34]
  exact ⟨rfl, N0, rfl⟩
def Q_or4 (Z : State) (a : Addr) (m0 : Addr) (m1 : Addr) (m2 : Addr) (m3 : Addr) (h0 : Heap) (n0 : Nat) (v : Option Value) (h : Heap) (L : List Loc) : Prop := v = some (.int (0 : Int32)) ∧ Fr n0 L ∧ h = h0
theorem ef_or4 (m : MethodId) (x0 : Addr) : entryFrame m #[(.ref x0)] 1 = mkF m 0 #[.val (.ref x0)] [] := by first | (simp [entryFrame, mkF, argsToLocals, Value.category]; done) | rfl
set_option maxRecDepth 65536 in
set_option maxHeartbeats 40000000 in
theorem rm_or4 (l : Launch) (Z : State) (a0 : Array Value) (hw : ∀ d ∈ tables_1, d.before a0 Z = true) (a : Addr) (m0 : Addr) (m1 : Addr) (m2 : Addr) (m3 : Addr) (h0 : Heap) (n0 : Nat) (Z0 : n0 ≤ h0.size) (f0 : Sta Z h0 "com/example/rosterd/rosterd/query/Operator" "GREATER" "Lcom/example/rosterd/rosterd/query/Operator;" (.ref m0)) (f1 : Sta Z h0 "com/example/rosterd/rosterd/query/Operator" "GREATER_OR_EQUAL" "Lcom/example/rosterd/rosterd/query/Operator;" (.ref m1)) (f2 : Sta Z h0 "com/example/rosterd/rosterd/query/Operator" "LESS" "Lcom/example/rosterd/rosterd/query/Operator;" (.ref m2)) (f3 : Sta Z h0 "com/example/rosterd/rosterd/query/Operator" "LESS_OR_EQUAL" "Lcom/example/rosterd/rosterd/query/Operator;" (.ref m3)) (f4 : a ≠ m0) (f5 : a ≠ m1) (f6 : a ≠ m2) (f7 : a ≠ m3) :
    Met l Z (⟨"com/example/rosterd/rosterd/query/Operator", "orders", "()Z"⟩ : MethodName) prog_10_method_7_code 1 (Option.some Jvm.ClassFile.FieldType.boolean) [] ({ frames := 0, cells := 0, slots := 0, locals := 0 } : Room) #[(.ref a)] h0 (Q_or4 Z a m0 m1 m2 m3 h0 n0) := by
  refine Met.of (plainFor_of_name pn_or4) ?_
  intro p e s m below meth c s₁ X0 hx hby hml hZ hown hnm e0 hret hlk
  refine Go.cast (ef_or4 m a) ?_
  show Go _ _ _ _ s₁ (mkF m 0 #[.val (.ref a)] []) _ _ _
  have N0 := Fr.nil n0
  refine Go.aloadN X0 hx (hb hby d_or4_0) rfl rfl ?_
  show Go _ _ _ _ s₁ (mkF m 1 #[.val (.ref a)] [(.ref a)]) _ _ _
  refine Go.getS X0 hx hZ hown (w53 hw) Via.refl e0 f0 (hb hby d_or4_1) ?_
  intro T35 X35 e35
  show Go _ _ _ _ T35 (mkF m 4 #[.val (.ref a)] [(.ref m0), (.ref a)]) _ _ _
  refine Go.acmpNo X35 hx (hb hby d_or4_4) rfl rfl (ac_eq_n f4) ?_
  show Go _ _ _ _ T35 (mkF m 7 #[.val (.ref a)] []) _ _ _
  refine Go.aloadN X35 hx (hb hby d_or4_7) rfl rfl ?_
  show Go _ _ _ _ T35 (mkF m 8 #[.val (.ref a)] [(.ref a)]) _ _ _
  refine Go.getS X35 hx hZ hown (w55 hw) Via.refl e35 f1 (hb hby d_or4_8) ?_
  intro T36 X36 e36
  show Go _ _ _ _ T36 (mkF m 11 #[.val (.ref a)] [(.ref m1), (.ref a)]) _ _ _
  refine Go.acmpNo X36 hx (hb hby d_or4_11) rfl rfl (ac_eq_n f5) ?_
  show Go _ _ _ _ T36 (mkF m 14 #[.val (.ref a)] []) _ _ _
  refine Go.aloadN X36 hx (hb hby d_or4_14) rfl rfl ?_
  show Go _ _ _ _ T36 (mkF m 15 #[.val (.ref a)] [(.ref a)]) _ _ _
  refine Go.getS X36 hx hZ hown (w57 hw) Via.refl e36 f2 (hb hby d_or4_15) ?_
  intro T37 X37 e37
  show Go _ _ _ _ T37 (mkF m 18 #[.val (.ref a)] [(.ref m2), (.ref a)]) _ _ _
  refine Go.acmpNo X37 hx (hb hby d_or4_18) rfl rfl (ac_eq_n f6) ?_
  show Go _ _ _ _ T37 (mkF m 21 #[.val (.ref a)] []) _ _ _
  refine Go.aloadN X37 hx (hb hby d_or4_21) rfl rfl ?_
  show Go _ _ _ _ T37 (mkF m 22 #[.val (.ref a)] [(.ref a)]) _ _ _
  refine Go.getS X37 hx hZ hown (w59 hw) Via.refl e37 f3 (hb hby d_or4_22) ?_
  intro T38 X38 e38
  show Go _ _ _ _ T38 (mkF m 25 #[.val (.ref a)] [(.ref m3), (.ref a)]) _ _ _
  refine Go.acmpYes X38 hx (hb hby d_or4_25) rfl rfl (ac_ne_n f7) (pc' := 32) (by decide) (by decide) ?_
  show Go _ _ _ _ T38 (mkF m 32 #[.val (.ref a)] []) _ _ _
  refine Go.iconst X38 hx (hb hby d_or4_32) ?_
  show Go _ _ _ _ T38 (mkF m 33 #[.val (.ref a)] [(.int (0 : Int32))]) _ _ _
  refine Go.retZ X38 hx hlk hret (by decide) (hb hby d_or4_33) (by decide) (by decide) ?_
  rw [e38]
  exact ⟨rfl, N0, rfl⟩
def Q_law (Z : State) (p0 : Int32) (g0 : Addr) (g1 : Addr) (g2 : Addr) (g3 : Addr) (g4 : Addr) (g5 : Addr) (g6 : Addr) (t0 : Addr) (t1 : Addr) (t2 : Addr) (t3 : Addr) (t4 : Addr) (t5 : Addr) (t6 : Addr) (b0 : Addr) (b1 : Addr) (b2 : Addr) (b3 : Addr) (b4 : Addr) (b5 : Addr) (b6 : Addr) (k0 : ClassId) (k1 : ClassId) (k2 : ClassId) (k3 : ClassId) (k4 : ClassId) (k5 : ClassId) (k6 : ClassId) (f_0 : Nat → Value) (f_1 : Nat → Value) (f_2 : Nat → Value) (f_3 : Nat → Value) (f_4 : Nat → Value) (f_5 : Nat → Value) (f_6 : Nat → Value) (fm : Value) (cs : Int32) (h0 : Heap) (n0 : Nat) (v : Option Value) (h : Heap) (L : List Loc) : Prop := v = some (.int (1 : Int32)) ∧ Fr n0 L
theorem ef_law (m : MethodId) (x0 : Int32) : entryFrame m #[(.int x0)] maxLocals = mkF m 0 #[.val (.int x0), .unset, .unset, .unset, .unset, .unset] [] := by first | (simp [entryFrame, mkF, argsToLocals, Value.category, maxLocals]; done) | rfl
set_option maxRecDepth 65536 in
set_option maxHeartbeats 40000000 in
theorem rm_law (l : Launch) (Z : State) (a0 : Array Value) (hw : ∀ d ∈ tables_1, d.before a0 Z = true) (ws : List Jvm.Cond) (p0 : Int32) (g0 : Addr) (g1 : Addr) (g2 : Addr) (g3 : Addr) (g4 : Addr) (g5 : Addr) (g6 : Addr) (t0 : Addr) (t1 : Addr) (t2 : Addr) (t3 : Addr) (t4 : Addr) (t5 : Addr) (t6 : Addr) (b0 : Addr) (b1 : Addr) (b2 : Addr) (b3 : Addr) (b4 : Addr) (b5 : Addr) (b6 : Addr) (k0 : ClassId) (k1 : ClassId) (k2 : ClassId) (k3 : ClassId) (k4 : ClassId) (k5 : ClassId) (k6 : ClassId) (f_0 : Nat → Value) (f_1 : Nat → Value) (f_2 : Nat → Value) (f_3 : Nat → Value) (f_4 : Nat → Value) (f_5 : Nat → Value) (f_6 : Nat → Value) (fm : Value) (cs : Int32) (h0 : Heap) (n0 : Nat) (Z0 : n0 ≤ h0.size) (f0 : fm.isRef = true) (f1 : ¬ cs = (0 : Int32)) (f2 : Sta Z h0 "jdk/internal/util/Preconditions" "SIOOBE_FORMATTER" "Ljava/util/function/BiFunction;" fm) (f3 : Sta Z h0 "java/lang/String" "COMPACT_STRINGS" "Z" (.int cs)) (f4 : Sta Z h0 "com/example/rosterd/rosterd/query/Operator" "NOT_EQUAL" "Lcom/example/rosterd/rosterd/query/Operator;" (.ref g0)) (f5 : Exa Z h0 g0 "com/example/rosterd/rosterd/query/Operator") (f6 : Fld Z h0 g0 "com/example/rosterd/rosterd/query/Operator" "symbol" "Ljava/lang/String;" (.ref t0)) (f7 : Exa Z h0 t0 "java/lang/String") (f8 : Fld Z h0 t0 "java/lang/String" "value" "[B" (.ref b0)) (f9 : Fld Z h0 t0 "java/lang/String" "coder" "B" (.int (0 : Int32))) (f10 : Af Z h0 b0 k0 .byte 2 (updV f_0 0 (.int (33 : Int32)))) (f11 : Fld Z h0 g0 "java/lang/Enum" "ordinal" "I" (.int (0 : Int32))) (f12 : Sta Z h0 "com/example/rosterd/rosterd/query/Operator" "GREATER_OR_EQUAL" "Lcom/example/rosterd/rosterd/query/Operator;" (.ref g1)) (f13 : Exa Z h0 g1 "com/example/rosterd/rosterd/query/Operator") (f14 : Fld Z h0 g1 "com/example/rosterd/rosterd/query/Operator" "symbol" "Ljava/lang/String;" (.ref t1)) (f15 : Exa Z h0 t1 "java/lang/String") (f16 : Fld Z h0 t1 "java/lang/String" "value" "[B" (.ref b1)) (f17 : Fld Z h0 t1 "java/lang/String" "coder" "B" (.int (0 : Int32))) (f18 : Af Z h0 b1 k1 .byte 2 (updV f_1 0 (.int (62 : Int32)))) (f19 : Fld Z h0 g1 "java/lang/Enum" "ordinal" "I" (.int (1 : Int32))) (f20 : Sta Z h0 "com/example/rosterd/rosterd/query/Operator" "LESS_OR_EQUAL" "Lcom/example/rosterd/rosterd/query/Operator;" (.ref g2)) (f21 : Exa Z h0 g2 "com/example/rosterd/rosterd/query/Operator") (f22 : Fld Z h0 g2 "com/example/rosterd/rosterd/query/Operator" "symbol" "Ljava/lang/String;" (.ref t2)) (f23 : Exa Z h0 t2 "java/lang/String") (f24 : Fld Z h0 t2 "java/lang/String" "value" "[B" (.ref b2)) (f25 : Fld Z h0 t2 "java/lang/String" "coder" "B" (.int (0 : Int32))) (f26 : Af Z h0 b2 k2 .byte 2 (updV f_2 0 (.int (60 : Int32)))) (f27 : Fld Z h0 g2 "java/lang/Enum" "ordinal" "I" (.int (2 : Int32))) (f28 : Sta Z h0 "com/example/rosterd/rosterd/query/Operator" "EQUAL" "Lcom/example/rosterd/rosterd/query/Operator;" (.ref g3)) (f29 : Exa Z h0 g3 "com/example/rosterd/rosterd/query/Operator") (f30 : Fld Z h0 g3 "com/example/rosterd/rosterd/query/Operator" "symbol" "Ljava/lang/String;" (.ref t3)) (f31 : Exa Z h0 t3 "java/lang/String") (f32 : Fld Z h0 t3 "java/lang/String" "value" "[B" (.ref b3)) (f33 : Fld Z h0 t3 "java/lang/String" "coder" "B" (.int (0 : Int32))) (f34 : Af Z h0 b3 k3 .byte 1 (updV f_3 0 (.int (61 : Int32)))) (f35 : Fld Z h0 g3 "java/lang/Enum" "ordinal" "I" (.int (3 : Int32))) (f36 : Sta Z h0 "com/example/rosterd/rosterd/query/Operator" "GREATER" "Lcom/example/rosterd/rosterd/query/Operator;" (.ref g4)) (f37 : Exa Z h0 g4 "com/example/rosterd/rosterd/query/Operator") (f38 : Fld Z h0 g4 "com/example/rosterd/rosterd/query/Operator" "symbol" "Ljava/lang/String;" (.ref t4)) (f39 : Exa Z h0 t4 "java/lang/String") (f40 : Fld Z h0 t4 "java/lang/String" "value" "[B" (.ref b4)) (f41 : Fld Z h0 t4 "java/lang/String" "coder" "B" (.int (0 : Int32))) (f42 : Af Z h0 b4 k4 .byte 1 (updV f_4 0 (.int (62 : Int32)))) (f43 : Fld Z h0 g4 "java/lang/Enum" "ordinal" "I" (.int (4 : Int32))) (f44 : Sta Z h0 "com/example/rosterd/rosterd/query/Operator" "LESS" "Lcom/example/rosterd/rosterd/query/Operator;" (.ref g5)) (f45 : Exa Z h0 g5 "com/example/rosterd/rosterd/query/Operator") (f46 : Fld Z h0 g5 "com/example/rosterd/rosterd/query/Operator" "symbol" "Ljava/lang/String;" (.ref t5)) (f47 : Exa Z h0 t5 "java/lang/String") (f48 : Fld Z h0 t5 "java/lang/String" "value" "[B" (.ref b5)) (f49 : Fld Z h0 t5 "java/lang/String" "coder" "B" (.int (0 : Int32))) (f50 : Af Z h0 b5 k5 .byte 1 (updV f_5 0 (.int (60 : Int32)))) (f51 : Fld Z h0 g5 "java/lang/Enum" "ordinal" "I" (.int (5 : Int32))) (f52 : Sta Z h0 "com/example/rosterd/rosterd/query/Operator" "CONTAINS" "Lcom/example/rosterd/rosterd/query/Operator;" (.ref g6)) (f53 : Exa Z h0 g6 "com/example/rosterd/rosterd/query/Operator") (f54 : Fld Z h0 g6 "com/example/rosterd/rosterd/query/Operator" "symbol" "Ljava/lang/String;" (.ref t6)) (f55 : Exa Z h0 t6 "java/lang/String") (f56 : Fld Z h0 t6 "java/lang/String" "value" "[B" (.ref b6)) (f57 : Fld Z h0 t6 "java/lang/String" "coder" "B" (.int (0 : Int32))) (f58 : Af Z h0 b6 k6 .byte 1 (updV f_6 0 (.int (126 : Int32)))) (f59 : Fld Z h0 g6 "java/lang/Enum" "ordinal" "I" (.int (6 : Int32))) :
    Met l Z x code maxLocals ret ws room_1 #[(.int p0)] h0 (Q_law Z p0 g0 g1 g2 g3 g4 g5 g6 t0 t1 t2 t3 t4 t5 t6 b0 b1 b2 b3 b4 b5 b6 k0 k1 k2 k3 k4 k5 k6 f_0 f_1 f_2 f_3 f_4 f_5 f_6 fm cs h0 n0) := by
  refine Met.of (plainFor_of_name pn_law) ?_
  intro p e s m below meth c s₁ X0 hx hby hml hZ hown hnm e0 hret hlk
  refine Go.cast (ef_law m p0) ?_
  show Go _ _ _ _ s₁ (mkF m 0 #[.val (.int p0), .unset, .unset, .unset, .unset, .unset] []) _ _ _
  have N0 := Fr.nil n0
  refine Go.iloadN X0 hx (hb hby at_0) rfl ?_
  show Go _ _ _ _ s₁ (mkF m 1 #[.val (.int p0), .unset, .unset, .unset, .unset, .unset] [(.int p0)]) _ _ _
  refine Go.ldc X0 hx hZ hown (w0 hw) (hb hby at_1) ?_
  show Go _ _ _ _ s₁ (mkF m 3 #[.val (.int p0), .unset, .unset, .unset, .unset, .unset] [(.int (2147483647 : Int32)), (.int p0)]) _ _ _
  refine Go.iand X0 hx (hb hby at_3) ?_
  show Go _ _ _ _ s₁ (mkF m 4 #[.val (.int p0), .unset, .unset, .unset, .unset, .unset] [(.int (p0 &&& (2147483647 : Int32)))]) _ _ _
  refine Go.bipush X0 hx (hb hby at_4) ?_
  show Go _ _ _ _ s₁ (mkF m 6 #[.val (.int p0), .unset, .unset, .unset, .unset, .unset] [(.int (7 : Int32)), (.int (p0 &&& (2147483647 : Int32)))]) _ _ _
  refine Go.irem X0 hx (hb hby at_6) (by decide) ?_
  show Go _ _ _ _ s₁ (mkF m 7 #[.val (.int p0), .unset, .unset, .unset, .unset, .unset] [(.int ((p0 &&& (2147483647 : Int32)) % (7 : Int32)))]) _ _ _
  refine Go.istoreN X0 hx (hb hby at_7) (l' := #[.val (.int p0), .val (.int ((p0 &&& (2147483647 : Int32)) % (7 : Int32))), .unset, .unset, .unset, .unset]) rfl ?_
  show Go _ _ _ _ s₁ (mkF m 8 #[.val (.int p0), .val (.int ((p0 &&& (2147483647 : Int32)) % (7 : Int32))), .unset, .unset, .unset, .unset] []) _ _ _
  refine (show ∀ i1 : Int32, i1 = ((p0 &&& (2147483647 : Int32)) % (7 : Int32)) → Go _ _ _ _ s₁ (mkF m 8 #[.val (.int p0), .val (.int i1), .unset, .unset, .unset, .unset] []) _ _ _ from ?_) _ rfl
  intro i1 g_i1
  have ci := own_cases7 (i := i1) (by rw [g_i1]; exact (own_mod p0 7 7 rfl (by decide)).1) (by rw [g_i1]; exact (own_mod p0 7 7 rfl (by decide)).2)
  rcases ci with rfl | rfl | rfl | rfl | rfl | rfl | rfl
  · show Go _ _ _ _ s₁ (mkF m 8 #[.val (.int p0), .val (.int (0 : Int32)), .unset, .unset, .unset, .unset] []) _ _ _
    refine Go.iloadN X0 hx (hb hby at_8) rfl ?_
    show Go _ _ _ _ s₁ (mkF m 9 #[.val (.int p0), .val (.int (0 : Int32)), .unset, .unset, .unset, .unset] [(.int (0 : Int32))]) _ _ _
    refine Go.callS (W := 0) (argsL := [(.int (0 : Int32))]) (rest := []) X0 hx hZ hown (w1 hw) (w2 hw) (w3 hw) (w4 hw) (by decide) (rm_pick0 l Z a0 hw g0 h0 n0 Z0 f4) e0 (lenOf pd_4 rfl) (hb hby at_9) (by rw [hml]; rfl) rfl (Nat.le_of_eq rfl) (by decide) (by decide) (by decide) (by decide) ?_
    intro v39 T39 L39 X39 q39
    obtain ⟨rfl, M39, e39⟩ := q39
    have N39 := Fr.app N0 M39
    show Go _ _ _ _ T39 (mkF m 12 #[.val (.int p0), .val (.int (0 : Int32)), .unset, .unset, .unset, .unset] [(.ref g0)]) _ _ _
    refine Go.astoreN X39 hx (hb hby at_12) rfl (l' := #[.val (.int p0), .val (.int (0 : Int32)), .val (.ref g0), .unset, .unset, .unset]) rfl ?_
    show Go _ _ _ _ T39 (mkF m 13 #[.val (.int p0), .val (.int (0 : Int32)), .val (.ref g0), .unset, .unset, .unset] []) _ _ _
    refine Go.aloadN X39 hx (hb hby at_13) rfl rfl ?_
    show Go _ _ _ _ T39 (mkF m 14 #[.val (.int p0), .val (.int (0 : Int32)), .val (.ref g0), .unset, .unset, .unset] [(.ref g0)]) _ _ _
    refine Go.callV (W := 0) (argsL := []) (rest := []) X39 hx hZ hown (w8 hw) (w9 hw) (w11 hw) (w10 hw) (w6 hw) (w12 hw) (notFace_of_selects (args := #[]) (mvT hZ (w11 hw))) (by decide) f5 (rm_sym l Z a0 hw g0 t0 h0 n0 Z0 f6) e39 (lenOf pd_5 rfl) (hb hby at_14) (by rw [hml]; rfl) rfl (Nat.le_of_eq rfl) (by decide) (by decide) (by decide) (by decide) ?_
    intro v40 T40 L40 X40 q40
    obtain ⟨rfl, M40, e40⟩ := q40
    have N40 := Fr.app N39 M40
    show Go _ _ _ _ T40 (mkF m 17 #[.val (.int p0), .val (.int (0 : Int32)), .val (.ref g0), .unset, .unset, .unset] [(.ref t0)]) _ _ _
    refine Go.astoreN X40 hx (hb hby at_17) rfl (l' := #[.val (.int p0), .val (.int (0 : Int32)), .val (.ref g0), .val (.ref t0), .unset, .unset]) rfl ?_
    show Go _ _ _ _ T40 (mkF m 18 #[.val (.int p0), .val (.int (0 : Int32)), .val (.ref g0), .val (.ref t0), .unset, .unset] []) _ _ _
    refine Go.aloadN X40 hx (hb hby at_18) rfl rfl ?_
    show Go _ _ _ _ T40 (mkF m 19 #[.val (.int p0), .val (.int (0 : Int32)), .val (.ref g0), .val (.ref t0), .unset, .unset] [(.ref t0)]) _ _ _
    refine Go.callV (W := 0) (argsL := []) (rest := []) X40 hx hZ hown (w15 hw) (w16 hw) (w18 hw) (w17 hw) (w19 hw) (w20 hw) (notFace_of_selects (args := #[]) (mvT hZ (w18 hw))) (by decide) f7 (rm_ie2 l Z a0 hw t0 b0 k0 f_0 (33 : Int32) h0 n0 Z0 f8 f10) e40 (lenOf pd_2 rfl) (hb hby at_19) (by rw [hml]; rfl) rfl (Nat.le_of_eq rfl) (by decide) (by decide) (by decide) (by decide) ?_
    intro v41 T41 L41 X41 q41
    obtain ⟨rfl, M41, e41⟩ := q41
    have N41 := Fr.app N40 M41
    show Go _ _ _ _ T41 (mkF m 22 #[.val (.int p0), .val (.int (0 : Int32)), .val (.ref g0), .val (.ref t0), .unset, .unset] [(.int (0 : Int32))]) _ _ _
    refine Go.ifYes X41 hx (hb hby at_22) (XT.i0_eq_t (by decide)) (pc' := 27) (by decide) (by decide) ?_
    show Go _ _ _ _ T41 (mkF m 27 #[.val (.int p0), .val (.int (0 : Int32)), .val (.ref g0), .val (.ref t0), .unset, .unset] []) _ _ _
    refine Go.aloadN X41 hx (hb hby at_27) rfl rfl ?_
    show Go _ _ _ _ T41 (mkF m 28 #[.val (.int p0), .val (.int (0 : Int32)), .val (.ref g0), .val (.ref t0), .unset, .unset] [(.ref t0)]) _ _ _
    refine Go.iconst X41 hx (hb hby at_28) ?_
    show Go _ _ _ _ T41 (mkF m 29 #[.val (.int p0), .val (.int (0 : Int32)), .val (.ref g0), .val (.ref t0), .unset, .unset] [(.int (0 : Int32)), (.ref t0)]) _ _ _
    refine Go.callV (W := 0) (argsL := [(.int (0 : Int32))]) (rest := []) X41 hx hZ hown (w23 hw) (w24 hw) (w26 hw) (w25 hw) (w19 hw) (w27 hw) (notFace_of_selects (args := #[]) (mvT hZ (w26 hw))) (by decide) f7 (rm_ca2 l Z a0 hw t0 b0 k0 f_0 (33 : Int32) fm cs h0 n0 Z0 f0 f1 f2 f3 f7 f9 f8 f10) e41 (lenOf pd_6 rfl) (hb hby at_29) (by rw [hml]; rfl) rfl (Nat.le_of_eq rfl) (by decide) (by decide) (by decide) (by decide) ?_
    intro v42 T42 L42 X42 q42
    obtain ⟨rfl, M42, e42⟩ := q42
    have N42 := Fr.app N41 M42
    show Go _ _ _ _ T42 (mkF m 32 #[.val (.int p0), .val (.int (0 : Int32)), .val (.ref g0), .val (.ref t0), .unset, .unset] [(.int (((33 : Int32) &&& (255 : Int32)).toUInt32.toUInt16.toUInt32.toInt32))]) _ _ _
    refine Go.istore X42 hx (hb hby at_32) (l' := #[.val (.int p0), .val (.int (0 : Int32)), .val (.ref g0), .val (.ref t0), .val (.int (((33 : Int32) &&& (255 : Int32)).toUInt32.toUInt16.toUInt32.toInt32)), .unset]) rfl ?_
    show Go _ _ _ _ T42 (mkF m 34 #[.val (.int p0), .val (.int (0 : Int32)), .val (.ref g0), .val (.ref t0), .val (.int (((33 : Int32) &&& (255 : Int32)).toUInt32.toUInt16.toUInt32.toInt32)), .unset] []) _ _ _
    refine Go.iload X42 hx (hb hby at_34) rfl ?_
    show Go _ _ _ _ T42 (mkF m 36 #[.val (.int p0), .val (.int (0 : Int32)), .val (.ref g0), .val (.ref t0), .val (.int (((33 : Int32) &&& (255 : Int32)).toUInt32.toUInt16.toUInt32.toInt32)), .unset] [(.int (((33 : Int32) &&& (255 : Int32)).toUInt32.toUInt16.toUInt32.toInt32))]) _ _ _
    refine Go.bipush X42 hx (hb hby at_36) ?_
    show Go _ _ _ _ T42 (mkF m 38 #[.val (.int p0), .val (.int (0 : Int32)), .val (.ref g0), .val (.ref t0), .val (.int (((33 : Int32) &&& (255 : Int32)).toUInt32.toUInt16.toUInt32.toInt32)), .unset] [(.int (60 : Int32)), (.int (((33 : Int32) &&& (255 : Int32)).toUInt32.toUInt16.toUInt32.toInt32))]) _ _ _
    refine Go.icmpNo X42 hx (hb hby at_38) (XT.ii_eq_f (by decide)) ?_
    show Go _ _ _ _ T42 (mkF m 41 #[.val (.int p0), .val (.int (0 : Int32)), .val (.ref g0), .val (.ref t0), .val (.int (((33 : Int32) &&& (255 : Int32)).toUInt32.toUInt16.toUInt32.toInt32)), .unset] []) _ _ _
    refine Go.iload X42 hx (hb hby at_41) rfl ?_
    show Go _ _ _ _ T42 (mkF m 43 #[.val (.int p0), .val (.int (0 : Int32)), .val (.ref g0), .val (.ref t0), .val (.int (((33 : Int32) &&& (255 : Int32)).toUInt32.toUInt16.toUInt32.toInt32)), .unset] [(.int (((33 : Int32) &&& (255 : Int32)).toUInt32.toUInt16.toUInt32.toInt32))]) _ _ _
    refine Go.bipush X42 hx (hb hby at_43) ?_
    show Go _ _ _ _ T42 (mkF m 45 #[.val (.int p0), .val (.int (0 : Int32)), .val (.ref g0), .val (.ref t0), .val (.int (((33 : Int32) &&& (255 : Int32)).toUInt32.toUInt16.toUInt32.toInt32)), .unset] [(.int (62 : Int32)), (.int (((33 : Int32) &&& (255 : Int32)).toUInt32.toUInt16.toUInt32.toInt32))]) _ _ _
    refine Go.icmpYes X42 hx (hb hby at_45) (XT.ii_ne_t (by decide)) (pc' := 52) (by decide) (by decide) ?_
    show Go _ _ _ _ T42 (mkF m 52 #[.val (.int p0), .val (.int (0 : Int32)), .val (.ref g0), .val (.ref t0), .val (.int (((33 : Int32) &&& (255 : Int32)).toUInt32.toUInt16.toUInt32.toInt32)), .unset] []) _ _ _
    refine Go.iconst X42 hx (hb hby at_52) ?_
    show Go _ _ _ _ T42 (mkF m 53 #[.val (.int p0), .val (.int (0 : Int32)), .val (.ref g0), .val (.ref t0), .val (.int (((33 : Int32) &&& (255 : Int32)).toUInt32.toUInt16.toUInt32.toInt32)), .unset] [(.int (0 : Int32))]) _ _ _
    refine Go.istore X42 hx (hb hby at_53) (l' := #[.val (.int p0), .val (.int (0 : Int32)), .val (.ref g0), .val (.ref t0), .val (.int (((33 : Int32) &&& (255 : Int32)).toUInt32.toUInt16.toUInt32.toInt32)), .val (.int (0 : Int32))]) rfl ?_
    show Go _ _ _ _ T42 (mkF m 55 #[.val (.int p0), .val (.int (0 : Int32)), .val (.ref g0), .val (.ref t0), .val (.int (((33 : Int32) &&& (255 : Int32)).toUInt32.toUInt16.toUInt32.toInt32)), .val (.int (0 : Int32))] []) _ _ _
    refine Go.aloadN X42 hx (hb hby at_55) rfl rfl ?_
    show Go _ _ _ _ T42 (mkF m 56 #[.val (.int p0), .val (.int (0 : Int32)), .val (.ref g0), .val (.ref t0), .val (.int (((33 : Int32) &&& (255 : Int32)).toUInt32.toUInt16.toUInt32.toInt32)), .val (.int (0 : Int32))] [(.ref g0)]) _ _ _
    refine Go.callV (W := 0) (argsL := []) (rest := []) X42 hx hZ hown (w48 hw) (w49 hw) (w51 hw) (w50 hw) (w6 hw) (w52 hw) (notFace_of_selects (args := #[]) (mvT hZ (w51 hw))) (by decide) f5 (rm_or4 l Z a0 hw g0 g4 g1 g5 g2 h0 n0 Z0 f36 f12 f44 f20 (Fld.ne f11 f43 (by decide)) (Fld.ne f11 f19 (by decide)) (Fld.ne f11 f51 (by decide)) (Fld.ne f11 f27 (by decide))) e42 (lenOf pd_2 rfl) (hb hby at_56) (by rw [hml]; rfl) rfl (Nat.le_of_eq rfl) (by decide) (by decide) (by decide) (by decide) ?_
    intro v43 T43 L43 X43 q43
    obtain ⟨rfl, M43, e43⟩ := q43
    have N43 := Fr.app N42 M43
    show Go _ _ _ _ T43 (mkF m 59 #[.val (.int p0), .val (.int (0 : Int32)), .val (.ref g0), .val (.ref t0), .val (.int (((33 : Int32) &&& (255 : Int32)).toUInt32.toUInt16.toUInt32.toInt32)), .val (.int (0 : Int32))] [(.int (0 : Int32))]) _ _ _
    refine Go.iload X43 hx (hb hby at_59) rfl ?_
    show Go _ _ _ _ T43 (mkF m 61 #[.val (.int p0), .val (.int (0 : Int32)), .val (.ref g0), .val (.ref t0), .val (.int (((33 : Int32) &&& (255 : Int32)).toUInt32.toUInt16.toUInt32.toInt32)), .val (.int (0 : Int32))] [(.int (0 : Int32)), (.int (0 : Int32))]) _ _ _
    refine Go.icmpNo X43 hx (hb hby at_61) (XT.ii_ne_f (by decide)) ?_
    show Go _ _ _ _ T43 (mkF m 64 #[.val (.int p0), .val (.int (0 : Int32)), .val (.ref g0), .val (.ref t0), .val (.int (((33 : Int32) &&& (255 : Int32)).toUInt32.toUInt16.toUInt32.toInt32)), .val (.int (0 : Int32))] []) _ _ _
    refine Go.iconst X43 hx (hb hby at_64) ?_
    show Go _ _ _ _ T43 (mkF m 65 #[.val (.int p0), .val (.int (0 : Int32)), .val (.ref g0), .val (.ref t0), .val (.int (((33 : Int32) &&& (255 : Int32)).toUInt32.toUInt16.toUInt32.toInt32)), .val (.int (0 : Int32))] [(.int (1 : Int32))]) _ _ _
    refine Go.goto X43 hx (hb hby at_65) (pc' := 69) (by decide) (by decide) ?_
    show Go _ _ _ _ T43 (mkF m 69 #[.val (.int p0), .val (.int (0 : Int32)), .val (.ref g0), .val (.ref t0), .val (.int (((33 : Int32) &&& (255 : Int32)).toUInt32.toUInt16.toUInt32.toInt32)), .val (.int (0 : Int32))] [(.int (1 : Int32))]) _ _ _
    refine Go.retZ X43 hx hlk hret (by decide) (hb hby at_69) (by decide) (by decide) ?_
    rw [e43]
    exact ⟨rfl, N43⟩
  · show Go _ _ _ _ s₁ (mkF m 8 #[.val (.int p0), .val (.int (1 : Int32)), .unset, .unset, .unset, .unset] []) _ _ _
    refine Go.iloadN X0 hx (hb hby at_8) rfl ?_
    show Go _ _ _ _ s₁ (mkF m 9 #[.val (.int p0), .val (.int (1 : Int32)), .unset, .unset, .unset, .unset] [(.int (1 : Int32))]) _ _ _
    refine Go.callS (W := 0) (argsL := [(.int (1 : Int32))]) (rest := []) X0 hx hZ hown (w1 hw) (w2 hw) (w3 hw) (w4 hw) (by decide) (rm_pick1 l Z a0 hw g1 h0 n0 Z0 f12) e0 (lenOf pd_4 rfl) (hb hby at_9) (by rw [hml]; rfl) rfl (Nat.le_of_eq rfl) (by decide) (by decide) (by decide) (by decide) ?_
    intro v44 T44 L44 X44 q44
    obtain ⟨rfl, M44, e44⟩ := q44
    have N44 := Fr.app N0 M44
    show Go _ _ _ _ T44 (mkF m 12 #[.val (.int p0), .val (.int (1 : Int32)), .unset, .unset, .unset, .unset] [(.ref g1)]) _ _ _
    refine Go.astoreN X44 hx (hb hby at_12) rfl (l' := #[.val (.int p0), .val (.int (1 : Int32)), .val (.ref g1), .unset, .unset, .unset]) rfl ?_
    show Go _ _ _ _ T44 (mkF m 13 #[.val (.int p0), .val (.int (1 : Int32)), .val (.ref g1), .unset, .unset, .unset] []) _ _ _
    refine Go.aloadN X44 hx (hb hby at_13) rfl rfl ?_
    show Go _ _ _ _ T44 (mkF m 14 #[.val (.int p0), .val (.int (1 : Int32)), .val (.ref g1), .unset, .unset, .unset] [(.ref g1)]) _ _ _
    refine Go.callV (W := 0) (argsL := []) (rest := []) X44 hx hZ hown (w8 hw) (w9 hw) (w11 hw) (w10 hw) (w6 hw) (w12 hw) (notFace_of_selects (args := #[]) (mvT hZ (w11 hw))) (by decide) f13 (rm_sym l Z a0 hw g1 t1 h0 n0 Z0 f14) e44 (lenOf pd_5 rfl) (hb hby at_14) (by rw [hml]; rfl) rfl (Nat.le_of_eq rfl) (by decide) (by decide) (by decide) (by decide) ?_
    intro v45 T45 L45 X45 q45
    obtain ⟨rfl, M45, e45⟩ := q45
    have N45 := Fr.app N44 M45
    show Go _ _ _ _ T45 (mkF m 17 #[.val (.int p0), .val (.int (1 : Int32)), .val (.ref g1), .unset, .unset, .unset] [(.ref t1)]) _ _ _
    refine Go.astoreN X45 hx (hb hby at_17) rfl (l' := #[.val (.int p0), .val (.int (1 : Int32)), .val (.ref g1), .val (.ref t1), .unset, .unset]) rfl ?_
    show Go _ _ _ _ T45 (mkF m 18 #[.val (.int p0), .val (.int (1 : Int32)), .val (.ref g1), .val (.ref t1), .unset, .unset] []) _ _ _
    refine Go.aloadN X45 hx (hb hby at_18) rfl rfl ?_
    show Go _ _ _ _ T45 (mkF m 19 #[.val (.int p0), .val (.int (1 : Int32)), .val (.ref g1), .val (.ref t1), .unset, .unset] [(.ref t1)]) _ _ _
    refine Go.callV (W := 0) (argsL := []) (rest := []) X45 hx hZ hown (w15 hw) (w16 hw) (w18 hw) (w17 hw) (w19 hw) (w20 hw) (notFace_of_selects (args := #[]) (mvT hZ (w18 hw))) (by decide) f15 (rm_ie2 l Z a0 hw t1 b1 k1 f_1 (62 : Int32) h0 n0 Z0 f16 f18) e45 (lenOf pd_2 rfl) (hb hby at_19) (by rw [hml]; rfl) rfl (Nat.le_of_eq rfl) (by decide) (by decide) (by decide) (by decide) ?_
    intro v46 T46 L46 X46 q46
    obtain ⟨rfl, M46, e46⟩ := q46
    have N46 := Fr.app N45 M46
    show Go _ _ _ _ T46 (mkF m 22 #[.val (.int p0), .val (.int (1 : Int32)), .val (.ref g1), .val (.ref t1), .unset, .unset] [(.int (0 : Int32))]) _ _ _
    refine Go.ifYes X46 hx (hb hby at_22) (XT.i0_eq_t (by decide)) (pc' := 27) (by decide) (by decide) ?_
    show Go _ _ _ _ T46 (mkF m 27 #[.val (.int p0), .val (.int (1 : Int32)), .val (.ref g1), .val (.ref t1), .unset, .unset] []) _ _ _
    refine Go.aloadN X46 hx (hb hby at_27) rfl rfl ?_
    show Go _ _ _ _ T46 (mkF m 28 #[.val (.int p0), .val (.int (1 : Int32)), .val (.ref g1), .val (.ref t1), .unset, .unset] [(.ref t1)]) _ _ _
    refine Go.iconst X46 hx (hb hby at_28) ?_
    show Go _ _ _ _ T46 (mkF m 29 #[.val (.int p0), .val (.int (1 : Int32)), .val (.ref g1), .val (.ref t1), .unset, .unset] [(.int (0 : Int32)), (.ref t1)]) _ _ _
    refine Go.callV (W := 0) (argsL := [(.int (0 : Int32))]) (rest := []) X46 hx hZ hown (w23 hw) (w24 hw) (w26 hw) (w25 hw) (w19 hw) (w27 hw) (notFace_of_selects (args := #[]) (mvT hZ (w26 hw))) (by decide) f15 (rm_ca2 l Z a0 hw t1 b1 k1 f_1 (62 : Int32) fm cs h0 n0 Z0 f0 f1 f2 f3 f15 f17 f16 f18) e46 (lenOf pd_6 rfl) (hb hby at_29) (by rw [hml]; rfl) rfl (Nat.le_of_eq rfl) (by decide) (by decide) (by decide) (by decide) ?_
    intro v47 T47 L47 X47 q47
    obtain ⟨rfl, M47, e47⟩ := q47
    have N47 := Fr.app N46 M47
    show Go _ _ _ _ T47 (mkF m 32 #[.val (.int p0), .val (.int (1 : Int32)), .val (.ref g1), .val (.ref t1), .unset, .unset] [(.int (((62 : Int32) &&& (255 : Int32)).toUInt32.toUInt16.toUInt32.toInt32))]) _ _ _
    refine Go.istore X47 hx (hb hby at_32) (l' := #[.val (.int p0), .val (.int (1 : Int32)), .val (.ref g1), .val (.ref t1), .val (.int (((62 : Int32) &&& (255 : Int32)).toUInt32.toUInt16.toUInt32.toInt32)), .unset]) rfl ?_
    show Go _ _ _ _ T47 (mkF m 34 #[.val (.int p0), .val (.int (1 : Int32)), .val (.ref g1), .val (.ref t1), .val (.int (((62 : Int32) &&& (255 : Int32)).toUInt32.toUInt16.toUInt32.toInt32)), .unset] []) _ _ _
    refine Go.iload X47 hx (hb hby at_34) rfl ?_
    show Go _ _ _ _ T47 (mkF m 36 #[.val (.int p0), .val (.int (1 : Int32)), .val (.ref g1), .val (.ref t1), .val (.int (((62 : Int32) &&& (255 : Int32)).toUInt32.toUInt16.toUInt32.toInt32)), .unset] [(.int (((62 : Int32) &&& (255 : Int32)).toUInt32.toUInt16.toUInt32.toInt32))]) _ _ _
    refine Go.bipush X47 hx (hb hby at_36) ?_
    show Go _ _ _ _ T47 (mkF m 38 #[.val (.int p0), .val (.int (1 : Int32)), .val (.ref g1), .val (.ref t1), .val (.int (((62 : Int32) &&& (255 : Int32)).toUInt32.toUInt16.toUInt32.toInt32)), .unset] [(.int (60 : Int32)), (.int (((62 : Int32) &&& (255 : Int32)).toUInt32.toUInt16.toUInt32.toInt32))]) _ _ _
    refine Go.icmpNo X47 hx (hb hby at_38) (XT.ii_eq_f (by decide)) ?_
    show Go _ _ _ _ T47 (mkF m 41 #[.val (.int p0), .val (.int (1 : Int32)), .val (.ref g1), .val (.ref t1), .val (.int (((62 : Int32) &&& (255 : Int32)).toUInt32.toUInt16.toUInt32.toInt32)), .unset] []) _ _ _
    refine Go.iload X47 hx (hb hby at_41) rfl ?_
    show Go _ _ _ _ T47 (mkF m 43 #[.val (.int p0), .val (.int (1 : Int32)), .val (.ref g1), .val (.ref t1), .val (.int (((62 : Int32) &&& (255 : Int32)).toUInt32.toUInt16.toUInt32.toInt32)), .unset] [(.int (((62 : Int32) &&& (255 : Int32)).toUInt32.toUInt16.toUInt32.toInt32))]) _ _ _
    refine Go.bipush X47 hx (hb hby at_43) ?_
    show Go _ _ _ _ T47 (mkF m 45 #[.val (.int p0), .val (.int (1 : Int32)), .val (.ref g1), .val (.ref t1), .val (.int (((62 : Int32) &&& (255 : Int32)).toUInt32.toUInt16.toUInt32.toInt32)), .unset] [(.int (62 : Int32)), (.int (((62 : Int32) &&& (255 : Int32)).toUInt32.toUInt16.toUInt32.toInt32))]) _ _ _
    refine Go.icmpNo X47 hx (hb hby at_45) (XT.ii_ne_f (by decide)) ?_
    show Go _ _ _ _ T47 (mkF m 48 #[.val (.int p0), .val (.int (1 : Int32)), .val (.ref g1), .val (.ref t1), .val (.int (((62 : Int32) &&& (255 : Int32)).toUInt32.toUInt16.toUInt32.toInt32)), .unset] []) _ _ _
    refine Go.iconst X47 hx (hb hby at_48) ?_
    show Go _ _ _ _ T47 (mkF m 49 #[.val (.int p0), .val (.int (1 : Int32)), .val (.ref g1), .val (.ref t1), .val (.int (((62 : Int32) &&& (255 : Int32)).toUInt32.toUInt16.toUInt32.toInt32)), .unset] [(.int (1 : Int32))]) _ _ _
    refine Go.goto X47 hx (hb hby at_49) (pc' := 53) (by decide) (by decide) ?_
    show Go _ _ _ _ T47 (mkF m 53 #[.val (.int p0), .val (.int (1 : Int32)), .val (.ref g1), .val (.ref t1), .val (.int (((62 : Int32) &&& (255 : Int32)).toUInt32.toUInt16.toUInt32.toInt32)), .unset] [(.int (1 : Int32))]) _ _ _
    refine Go.istore X47 hx (hb hby at_53) (l' := #[.val (.int p0), .val (.int (1 : Int32)), .val (.ref g1), .val (.ref t1), .val (.int (((62 : Int32) &&& (255 : Int32)).toUInt32.toUInt16.toUInt32.toInt32)), .val (.int (1 : Int32))]) rfl ?_
    show Go _ _ _ _ T47 (mkF m 55 #[.val (.int p0), .val (.int (1 : Int32)), .val (.ref g1), .val (.ref t1), .val (.int (((62 : Int32) &&& (255 : Int32)).toUInt32.toUInt16.toUInt32.toInt32)), .val (.int (1 : Int32))] []) _ _ _
    refine Go.aloadN X47 hx (hb hby at_55) rfl rfl ?_
    show Go _ _ _ _ T47 (mkF m 56 #[.val (.int p0), .val (.int (1 : Int32)), .val (.ref g1), .val (.ref t1), .val (.int (((62 : Int32) &&& (255 : Int32)).toUInt32.toUInt16.toUInt32.toInt32)), .val (.int (1 : Int32))] [(.ref g1)]) _ _ _
    refine Go.callV (W := 0) (argsL := []) (rest := []) X47 hx hZ hown (w48 hw) (w49 hw) (w51 hw) (w50 hw) (w6 hw) (w52 hw) (notFace_of_selects (args := #[]) (mvT hZ (w51 hw))) (by decide) f13 (rm_or1 l Z a0 hw g1 g4 h0 n0 Z0 f36 f12 (Fld.ne f19 f43 (by decide))) e47 (lenOf pd_2 rfl) (hb hby at_56) (by rw [hml]; rfl) rfl (Nat.le_of_eq rfl) (by decide) (by decide) (by decide) (by decide) ?_
    intro v48 T48 L48 X48 q48
    obtain ⟨rfl, M48, e48⟩ := q48
    have N48 := Fr.app N47 M48
    show Go _ _ _ _ T48 (mkF m 59 #[.val (.int p0), .val (.int (1 : Int32)), .val (.ref g1), .val (.ref t1), .val (.int (((62 : Int32) &&& (255 : Int32)).toUInt32.toUInt16.toUInt32.toInt32)), .val (.int (1 : Int32))] [(.int (1 : Int32))]) _ _ _
    refine Go.iload X48 hx (hb hby at_59) rfl ?_
    show Go _ _ _ _ T48 (mkF m 61 #[.val (.int p0), .val (.int (1 : Int32)), .val (.ref g1), .val (.ref t1), .val (.int (((62 : Int32) &&& (255 : Int32)).toUInt32.toUInt16.toUInt32.toInt32)), .val (.int (1 : Int32))] [(.int (1 : Int32)), (.int (1 : Int32))]) _ _ _
    refine Go.icmpNo X48 hx (hb hby at_61) (XT.ii_ne_f (by decide)) ?_
    show Go _ _ _ _ T48 (mkF m 64 #[.val (.int p0), .val (.int (1 : Int32)), .val (.ref g1), .val (.ref t1), .val (.int (((62 : Int32) &&& (255 : Int32)).toUInt32.toUInt16.toUInt32.toInt32)), .val (.int (1 : Int32))] []) _ _ _
    refine Go.iconst X48 hx (hb hby at_64) ?_
    show Go _ _ _ _ T48 (mkF m 65 #[.val (.int p0), .val (.int (1 : Int32)), .val (.ref g1), .val (.ref t1), .val (.int (((62 : Int32) &&& (255 : Int32)).toUInt32.toUInt16.toUInt32.toInt32)), .val (.int (1 : Int32))] [(.int (1 : Int32))]) _ _ _
    refine Go.goto X48 hx (hb hby at_65) (pc' := 69) (by decide) (by decide) ?_
    show Go _ _ _ _ T48 (mkF m 69 #[.val (.int p0), .val (.int (1 : Int32)), .val (.ref g1), .val (.ref t1), .val (.int (((62 : Int32) &&& (255 : Int32)).toUInt32.toUInt16.toUInt32.toInt32)), .val (.int (1 : Int32))] [(.int (1 : Int32))]) _ _ _
    refine Go.retZ X48 hx hlk hret (by decide) (hb hby at_69) (by decide) (by decide) ?_
    rw [e48]
    exact ⟨rfl, N48⟩
  · show Go _ _ _ _ s₁ (mkF m 8 #[.val (.int p0), .val (.int (2 : Int32)), .unset, .unset, .unset, .unset] []) _ _ _
    refine Go.iloadN X0 hx (hb hby at_8) rfl ?_
    show Go _ _ _ _ s₁ (mkF m 9 #[.val (.int p0), .val (.int (2 : Int32)), .unset, .unset, .unset, .unset] [(.int (2 : Int32))]) _ _ _
    refine Go.callS (W := 0) (argsL := [(.int (2 : Int32))]) (rest := []) X0 hx hZ hown (w1 hw) (w2 hw) (w3 hw) (w4 hw) (by decide) (rm_pick2 l Z a0 hw g2 h0 n0 Z0 f20) e0 (lenOf pd_4 rfl) (hb hby at_9) (by rw [hml]; rfl) rfl (Nat.le_of_eq rfl) (by decide) (by decide) (by decide) (by decide) ?_
    intro v49 T49 L49 X49 q49
    obtain ⟨rfl, M49, e49⟩ := q49
    have N49 := Fr.app N0 M49
    show Go _ _ _ _ T49 (mkF m 12 #[.val (.int p0), .val (.int (2 : Int32)), .unset, .unset, .unset, .unset] [(.ref g2)]) _ _ _
    refine Go.astoreN X49 hx (hb hby at_12) rfl (l' := #[.val (.int p0), .val (.int (2 : Int32)), .val (.ref g2), .unset, .unset, .unset]) rfl ?_
    show Go _ _ _ _ T49 (mkF m 13 #[.val (.int p0), .val (.int (2 : Int32)), .val (.ref g2), .unset, .unset, .unset] []) _ _ _
    refine Go.aloadN X49 hx (hb hby at_13) rfl rfl ?_
    show Go _ _ _ _ T49 (mkF m 14 #[.val (.int p0), .val (.int (2 : Int32)), .val (.ref g2), .unset, .unset, .unset] [(.ref g2)]) _ _ _
    refine Go.callV (W := 0) (argsL := []) (rest := []) X49 hx hZ hown (w8 hw) (w9 hw) (w11 hw) (w10 hw) (w6 hw) (w12 hw) (notFace_of_selects (args := #[]) (mvT hZ (w11 hw))) (by decide) f21 (rm_sym l Z a0 hw g2 t2 h0 n0 Z0 f22) e49 (lenOf pd_5 rfl) (hb hby at_14) (by rw [hml]; rfl) rfl (Nat.le_of_eq rfl) (by decide) (by decide) (by decide) (by decide) ?_
    intro v50 T50 L50 X50 q50
    obtain ⟨rfl, M50, e50⟩ := q50
    have N50 := Fr.app N49 M50
    show Go _ _ _ _ T50 (mkF m 17 #[.val (.int p0), .val (.int (2 : Int32)), .val (.ref g2), .unset, .unset, .unset] [(.ref t2)]) _ _ _
    refine Go.astoreN X50 hx (hb hby at_17) rfl (l' := #[.val (.int p0), .val (.int (2 : Int32)), .val (.ref g2), .val (.ref t2), .unset, .unset]) rfl ?_
    show Go _ _ _ _ T50 (mkF m 18 #[.val (.int p0), .val (.int (2 : Int32)), .val (.ref g2), .val (.ref t2), .unset, .unset] []) _ _ _
    refine Go.aloadN X50 hx (hb hby at_18) rfl rfl ?_
    show Go _ _ _ _ T50 (mkF m 19 #[.val (.int p0), .val (.int (2 : Int32)), .val (.ref g2), .val (.ref t2), .unset, .unset] [(.ref t2)]) _ _ _
    refine Go.callV (W := 0) (argsL := []) (rest := []) X50 hx hZ hown (w15 hw) (w16 hw) (w18 hw) (w17 hw) (w19 hw) (w20 hw) (notFace_of_selects (args := #[]) (mvT hZ (w18 hw))) (by decide) f23 (rm_ie2 l Z a0 hw t2 b2 k2 f_2 (60 : Int32) h0 n0 Z0 f24 f26) e50 (lenOf pd_2 rfl) (hb hby at_19) (by rw [hml]; rfl) rfl (Nat.le_of_eq rfl) (by decide) (by decide) (by decide) (by decide) ?_
    intro v51 T51 L51 X51 q51
    obtain ⟨rfl, M51, e51⟩ := q51
    have N51 := Fr.app N50 M51
    show Go _ _ _ _ T51 (mkF m 22 #[.val (.int p0), .val (.int (2 : Int32)), .val (.ref g2), .val (.ref t2), .unset, .unset] [(.int (0 : Int32))]) _ _ _
    refine Go.ifYes X51 hx (hb hby at_22) (XT.i0_eq_t (by decide)) (pc' := 27) (by decide) (by decide) ?_
    show Go _ _ _ _ T51 (mkF m 27 #[.val (.int p0), .val (.int (2 : Int32)), .val (.ref g2), .val (.ref t2), .unset, .unset] []) _ _ _
    refine Go.aloadN X51 hx (hb hby at_27) rfl rfl ?_
    show Go _ _ _ _ T51 (mkF m 28 #[.val (.int p0), .val (.int (2 : Int32)), .val (.ref g2), .val (.ref t2), .unset, .unset] [(.ref t2)]) _ _ _
    refine Go.iconst X51 hx (hb hby at_28) ?_
    show Go _ _ _ _ T51 (mkF m 29 #[.val (.int p0), .val (.int (2 : Int32)), .val (.ref g2), .val (.ref t2), .unset, .unset] [(.int (0 : Int32)), (.ref t2)]) _ _ _
    refine Go.callV (W := 0) (argsL := [(.int (0 : Int32))]) (rest := []) X51 hx hZ hown (w23 hw) (w24 hw) (w26 hw) (w25 hw) (w19 hw) (w27 hw) (notFace_of_selects (args := #[]) (mvT hZ (w26 hw))) (by decide) f23 (rm_ca2 l Z a0 hw t2 b2 k2 f_2 (60 : Int32) fm cs h0 n0 Z0 f0 f1 f2 f3 f23 f25 f24 f26) e51 (lenOf pd_6 rfl) (hb hby at_29) (by rw [hml]; rfl) rfl (Nat.le_of_eq rfl) (by decide) (by decide) (by decide) (by decide) ?_
    intro v52 T52 L52 X52 q52
    obtain ⟨rfl, M52, e52⟩ := q52
    have N52 := Fr.app N51 M52
    show Go _ _ _ _ T52 (mkF m 32 #[.val (.int p0), .val (.int (2 : Int32)), .val (.ref g2), .val (.ref t2), .unset, .unset] [(.int (((60 : Int32) &&& (255 : Int32)).toUInt32.toUInt16.toUInt32.toInt32))]) _ _ _
    refine Go.istore X52 hx (hb hby at_32) (l' := #[.val (.int p0), .val (.int (2 : Int32)), .val (.ref g2), .val (.ref t2), .val (.int (((60 : Int32) &&& (255 : Int32)).toUInt32.toUInt16.toUInt32.toInt32)), .unset]) rfl ?_
    show Go _ _ _ _ T52 (mkF m 34 #[.val (.int p0), .val (.int (2 : Int32)), .val (.ref g2), .val (.ref t2), .val (.int (((60 : Int32) &&& (255 : Int32)).toUInt32.toUInt16.toUInt32.toInt32)), .unset] []) _ _ _
    refine Go.iload X52 hx (hb hby at_34) rfl ?_
    show Go _ _ _ _ T52 (mkF m 36 #[.val (.int p0), .val (.int (2 : Int32)), .val (.ref g2), .val (.ref t2), .val (.int (((60 : Int32) &&& (255 : Int32)).toUInt32.toUInt16.toUInt32.toInt32)), .unset] [(.int (((60 : Int32) &&& (255 : Int32)).toUInt32.toUInt16.toUInt32.toInt32))]) _ _ _
    refine Go.bipush X52 hx (hb hby at_36) ?_
    show Go _ _ _ _ T52 (mkF m 38 #[.val (.int p0), .val (.int (2 : Int32)), .val (.ref g2), .val (.ref t2), .val (.int (((60 : Int32) &&& (255 : Int32)).toUInt32.toUInt16.toUInt32.toInt32)), .unset] [(.int (60 : Int32)), (.int (((60 : Int32) &&& (255 : Int32)).toUInt32.toUInt16.toUInt32.toInt32))]) _ _ _
    refine Go.icmpYes X52 hx (hb hby at_38) (XT.ii_eq_t (by decide)) (pc' := 48) (by decide) (by decide) ?_
    show Go _ _ _ _ T52 (mkF m 48 #[.val (.int p0), .val (.int (2 : Int32)), .val (.ref g2), .val (.ref t2), .val (.int (((60 : Int32) &&& (255 : Int32)).toUInt32.toUInt16.toUInt32.toInt32)), .unset] []) _ _ _
    refine Go.iconst X52 hx (hb hby at_48) ?_
    show Go _ _ _ _ T52 (mkF m 49 #[.val (.int p0), .val (.int (2 : Int32)), .val (.ref g2), .val (.ref t2), .val (.int (((60 : Int32) &&& (255 : Int32)).toUInt32.toUInt16.toUInt32.toInt32)), .unset] [(.int (1 : Int32))]) _ _ _
    refine Go.goto X52 hx (hb hby at_49) (pc' := 53) (by decide) (by decide) ?_
    show Go _ _ _ _ T52 (mkF m 53 #[.val (.int p0), .val (.int (2 : Int32)), .val (.ref g2), .val (.ref t2), .val (.int (((60 : Int32) &&& (255 : Int32)).toUInt32.toUInt16.toUInt32.toInt32)), .unset] [(.int (1 : Int32))]) _ _ _
    refine Go.istore X52 hx (hb hby at_53) (l' := #[.val (.int p0), .val (.int (2 : Int32)), .val (.ref g2), .val (.ref t2), .val (.int (((60 : Int32) &&& (255 : Int32)).toUInt32.toUInt16.toUInt32.toInt32)), .val (.int (1 : Int32))]) rfl ?_
    show Go _ _ _ _ T52 (mkF m 55 #[.val (.int p0), .val (.int (2 : Int32)), .val (.ref g2), .val (.ref t2), .val (.int (((60 : Int32) &&& (255 : Int32)).toUInt32.toUInt16.toUInt32.toInt32)), .val (.int (1 : Int32))] []) _ _ _
    refine Go.aloadN X52 hx (hb hby at_55) rfl rfl ?_
    show Go _ _ _ _ T52 (mkF m 56 #[.val (.int p0), .val (.int (2 : Int32)), .val (.ref g2), .val (.ref t2), .val (.int (((60 : Int32) &&& (255 : Int32)).toUInt32.toUInt16.toUInt32.toInt32)), .val (.int (1 : Int32))] [(.ref g2)]) _ _ _
    refine Go.callV (W := 0) (argsL := []) (rest := []) X52 hx hZ hown (w48 hw) (w49 hw) (w51 hw) (w50 hw) (w6 hw) (w52 hw) (notFace_of_selects (args := #[]) (mvT hZ (w51 hw))) (by decide) f21 (rm_or3 l Z a0 hw g2 g4 g1 g5 h0 n0 Z0 f36 f12 f44 f20 (Fld.ne f27 f43 (by decide)) (Fld.ne f27 f19 (by decide)) (Fld.ne f27 f51 (by decide))) e52 (lenOf pd_2 rfl) (hb hby at_56) (by rw [hml]; rfl) rfl (Nat.le_of_eq rfl) (by decide) (by decide) (by decide) (by decide) ?_
    intro v53 T53 L53 X53 q53
    obtain ⟨rfl, M53, e53⟩ := q53
    have N53 := Fr.app N52 M53
    show Go _ _ _ _ T53 (mkF m 59 #[.val (.int p0), .val (.int (2 : Int32)), .val (.ref g2), .val (.ref t2), .val (.int (((60 : Int32) &&& (255 : Int32)).toUInt32.toUInt16.toUInt32.toInt32)), .val (.int (1 : Int32))] [(.int (1 : Int32))]) _ _ _
    refine Go.iload X53 hx (hb hby at_59) rfl ?_
    show Go _ _ _ _ T53 (mkF m 61 #[.val (.int p0), .val (.int (2 : Int32)), .val (.ref g2), .val (.ref t2), .val (.int (((60 : Int32) &&& (255 : Int32)).toUInt32.toUInt16.toUInt32.toInt32)), .val (.int (1 : Int32))] [(.int (1 : Int32)), (.int (1 : Int32))]) _ _ _
    refine Go.icmpNo X53 hx (hb hby at_61) (XT.ii_ne_f (by decide)) ?_
    show Go _ _ _ _ T53 (mkF m 64 #[.val (.int p0), .val (.int (2 : Int32)), .val (.ref g2), .val (.ref t2), .val (.int (((60 : Int32) &&& (255 : Int32)).toUInt32.toUInt16.toUInt32.toInt32)), .val (.int (1 : Int32))] []) _ _ _
    refine Go.iconst X53 hx (hb hby at_64) ?_
    show Go _ _ _ _ T53 (mkF m 65 #[.val (.int p0), .val (.int (2 : Int32)), .val (.ref g2), .val (.ref t2), .val (.int (((60 : Int32) &&& (255 : Int32)).toUInt32.toUInt16.toUInt32.toInt32)), .val (.int (1 : Int32))] [(.int (1 : Int32))]) _ _ _
    refine Go.goto X53 hx (hb hby at_65) (pc' := 69) (by decide) (by decide) ?_
    show Go _ _ _ _ T53 (mkF m 69 #[.val (.int p0), .val (.int (2 : Int32)), .val (.ref g2), .val (.ref t2), .val (.int (((60 : Int32) &&& (255 : Int32)).toUInt32.toUInt16.toUInt32.toInt32)), .val (.int (1 : Int32))] [(.int (1 : Int32))]) _ _ _
    refine Go.retZ X53 hx hlk hret (by decide) (hb hby at_69) (by decide) (by decide) ?_
    rw [e53]
    exact ⟨rfl, N53⟩
  · show Go _ _ _ _ s₁ (mkF m 8 #[.val (.int p0), .val (.int (3 : Int32)), .unset, .unset, .unset, .unset] []) _ _ _
    refine Go.iloadN X0 hx (hb hby at_8) rfl ?_
    show Go _ _ _ _ s₁ (mkF m 9 #[.val (.int p0), .val (.int (3 : Int32)), .unset, .unset, .unset, .unset] [(.int (3 : Int32))]) _ _ _
    refine Go.callS (W := 0) (argsL := [(.int (3 : Int32))]) (rest := []) X0 hx hZ hown (w1 hw) (w2 hw) (w3 hw) (w4 hw) (by decide) (rm_pick3 l Z a0 hw g3 h0 n0 Z0 f28) e0 (lenOf pd_4 rfl) (hb hby at_9) (by rw [hml]; rfl) rfl (Nat.le_of_eq rfl) (by decide) (by decide) (by decide) (by decide) ?_
    intro v54 T54 L54 X54 q54
    obtain ⟨rfl, M54, e54⟩ := q54
    have N54 := Fr.app N0 M54
    show Go _ _ _ _ T54 (mkF m 12 #[.val (.int p0), .val (.int (3 : Int32)), .unset, .unset, .unset, .unset] [(.ref g3)]) _ _ _
    refine Go.astoreN X54 hx (hb hby at_12) rfl (l' := #[.val (.int p0), .val (.int (3 : Int32)), .val (.ref g3), .unset, .unset, .unset]) rfl ?_
    show Go _ _ _ _ T54 (mkF m 13 #[.val (.int p0), .val (.int (3 : Int32)), .val (.ref g3), .unset, .unset, .unset] []) _ _ _
    refine Go.aloadN X54 hx (hb hby at_13) rfl rfl ?_
    show Go _ _ _ _ T54 (mkF m 14 #[.val (.int p0), .val (.int (3 : Int32)), .val (.ref g3), .unset, .unset, .unset] [(.ref g3)]) _ _ _
    refine Go.callV (W := 0) (argsL := []) (rest := []) X54 hx hZ hown (w8 hw) (w9 hw) (w11 hw) (w10 hw) (w6 hw) (w12 hw) (notFace_of_selects (args := #[]) (mvT hZ (w11 hw))) (by decide) f29 (rm_sym l Z a0 hw g3 t3 h0 n0 Z0 f30) e54 (lenOf pd_5 rfl) (hb hby at_14) (by rw [hml]; rfl) rfl (Nat.le_of_eq rfl) (by decide) (by decide) (by decide) (by decide) ?_
    intro v55 T55 L55 X55 q55
    obtain ⟨rfl, M55, e55⟩ := q55
    have N55 := Fr.app N54 M55
    show Go _ _ _ _ T55 (mkF m 17 #[.val (.int p0), .val (.int (3 : Int32)), .val (.ref g3), .unset, .unset, .unset] [(.ref t3)]) _ _ _
    refine Go.astoreN X55 hx (hb hby at_17) rfl (l' := #[.val (.int p0), .val (.int (3 : Int32)), .val (.ref g3), .val (.ref t3), .unset, .unset]) rfl ?_
    show Go _ _ _ _ T55 (mkF m 18 #[.val (.int p0), .val (.int (3 : Int32)), .val (.ref g3), .val (.ref t3), .unset, .unset] []) _ _ _
    refine Go.aloadN X55 hx (hb hby at_18) rfl rfl ?_
    show Go _ _ _ _ T55 (mkF m 19 #[.val (.int p0), .val (.int (3 : Int32)), .val (.ref g3), .val (.ref t3), .unset, .unset] [(.ref t3)]) _ _ _
    refine Go.callV (W := 0) (argsL := []) (rest := []) X55 hx hZ hown (w15 hw) (w16 hw) (w18 hw) (w17 hw) (w19 hw) (w20 hw) (notFace_of_selects (args := #[]) (mvT hZ (w18 hw))) (by decide) f31 (rm_ie1 l Z a0 hw t3 b3 k3 f_3 (61 : Int32) h0 n0 Z0 f32 f34) e55 (lenOf pd_2 rfl) (hb hby at_19) (by rw [hml]; rfl) rfl (Nat.le_of_eq rfl) (by decide) (by decide) (by decide) (by decide) ?_
    intro v56 T56 L56 X56 q56
    obtain ⟨rfl, M56, e56⟩ := q56
    have N56 := Fr.app N55 M56
    show Go _ _ _ _ T56 (mkF m 22 #[.val (.int p0), .val (.int (3 : Int32)), .val (.ref g3), .val (.ref t3), .unset, .unset] [(.int (0 : Int32))]) _ _ _
    refine Go.ifYes X56 hx (hb hby at_22) (XT.i0_eq_t (by decide)) (pc' := 27) (by decide) (by decide) ?_
    show Go _ _ _ _ T56 (mkF m 27 #[.val (.int p0), .val (.int (3 : Int32)), .val (.ref g3), .val (.ref t3), .unset, .unset] []) _ _ _
    refine Go.aloadN X56 hx (hb hby at_27) rfl rfl ?_
    show Go _ _ _ _ T56 (mkF m 28 #[.val (.int p0), .val (.int (3 : Int32)), .val (.ref g3), .val (.ref t3), .unset, .unset] [(.ref t3)]) _ _ _
    refine Go.iconst X56 hx (hb hby at_28) ?_
    show Go _ _ _ _ T56 (mkF m 29 #[.val (.int p0), .val (.int (3 : Int32)), .val (.ref g3), .val (.ref t3), .unset, .unset] [(.int (0 : Int32)), (.ref t3)]) _ _ _
    refine Go.callV (W := 0) (argsL := [(.int (0 : Int32))]) (rest := []) X56 hx hZ hown (w23 hw) (w24 hw) (w26 hw) (w25 hw) (w19 hw) (w27 hw) (notFace_of_selects (args := #[]) (mvT hZ (w26 hw))) (by decide) f31 (rm_ca1 l Z a0 hw t3 b3 k3 f_3 (61 : Int32) fm cs h0 n0 Z0 f0 f1 f2 f3 f31 f33 f32 f34) e56 (lenOf pd_6 rfl) (hb hby at_29) (by rw [hml]; rfl) rfl (Nat.le_of_eq rfl) (by decide) (by decide) (by decide) (by decide) ?_
    intro v57 T57 L57 X57 q57
    obtain ⟨rfl, M57, e57⟩ := q57
    have N57 := Fr.app N56 M57
    show Go _ _ _ _ T57 (mkF m 32 #[.val (.int p0), .val (.int (3 : Int32)), .val (.ref g3), .val (.ref t3), .unset, .unset] [(.int (((61 : Int32) &&& (255 : Int32)).toUInt32.toUInt16.toUInt32.toInt32))]) _ _ _
    refine Go.istore X57 hx (hb hby at_32) (l' := #[.val (.int p0), .val (.int (3 : Int32)), .val (.ref g3), .val (.ref t3), .val (.int (((61 : Int32) &&& (255 : Int32)).toUInt32.toUInt16.toUInt32.toInt32)), .unset]) rfl ?_
    show Go _ _ _ _ T57 (mkF m 34 #[.val (.int p0), .val (.int (3 : Int32)), .val (.ref g3), .val (.ref t3), .val (.int (((61 : Int32) &&& (255 : Int32)).toUInt32.toUInt16.toUInt32.toInt32)), .unset] []) _ _ _
    refine Go.iload X57 hx (hb hby at_34) rfl ?_
    show Go _ _ _ _ T57 (mkF m 36 #[.val (.int p0), .val (.int (3 : Int32)), .val (.ref g3), .val (.ref t3), .val (.int (((61 : Int32) &&& (255 : Int32)).toUInt32.toUInt16.toUInt32.toInt32)), .unset] [(.int (((61 : Int32) &&& (255 : Int32)).toUInt32.toUInt16.toUInt32.toInt32))]) _ _ _
    refine Go.bipush X57 hx (hb hby at_36) ?_
    show Go _ _ _ _ T57 (mkF m 38 #[.val (.int p0), .val (.int (3 : Int32)), .val (.ref g3), .val (.ref t3), .val (.int (((61 : Int32) &&& (255 : Int32)).toUInt32.toUInt16.toUInt32.toInt32)), .unset] [(.int (60 : Int32)), (.int (((61 : Int32) &&& (255 : Int32)).toUInt32.toUInt16.toUInt32.toInt32))]) _ _ _
    refine Go.icmpNo X57 hx (hb hby at_38) (XT.ii_eq_f (by decide)) ?_
    show Go _ _ _ _ T57 (mkF m 41 #[.val (.int p0), .val (.int (3 : Int32)), .val (.ref g3), .val (.ref t3), .val (.int (((61 : Int32) &&& (255 : Int32)).toUInt32.toUInt16.toUInt32.toInt32)), .unset] []) _ _ _
    refine Go.iload X57 hx (hb hby at_41) rfl ?_
    show Go _ _ _ _ T57 (mkF m 43 #[.val (.int p0), .val (.int (3 : Int32)), .val (.ref g3), .val (.ref t3), .val (.int (((61 : Int32) &&& (255 : Int32)).toUInt32.toUInt16.toUInt32.toInt32)), .unset] [(.int (((61 : Int32) &&& (255 : Int32)).toUInt32.toUInt16.toUInt32.toInt32))]) _ _ _
    refine Go.bipush X57 hx (hb hby at_43) ?_
    show Go _ _ _ _ T57 (mkF m 45 #[.val (.int p0), .val (.int (3 : Int32)), .val (.ref g3), .val (.ref t3), .val (.int (((61 : Int32) &&& (255 : Int32)).toUInt32.toUInt16.toUInt32.toInt32)), .unset] [(.int (62 : Int32)), (.int (((61 : Int32) &&& (255 : Int32)).toUInt32.toUInt16.toUInt32.toInt32))]) _ _ _
    refine Go.icmpYes X57 hx (hb hby at_45) (XT.ii_ne_t (by decide)) (pc' := 52) (by decide) (by decide) ?_
    show Go _ _ _ _ T57 (mkF m 52 #[.val (.int p0), .val (.int (3 : Int32)), .val (.ref g3), .val (.ref t3), .val (.int (((61 : Int32) &&& (255 : Int32)).toUInt32.toUInt16.toUInt32.toInt32)), .unset] []) _ _ _
    refine Go.iconst X57 hx (hb hby at_52) ?_
    show Go _ _ _ _ T57 (mkF m 53 #[.val (.int p0), .val (.int (3 : Int32)), .val (.ref g3), .val (.ref t3), .val (.int (((61 : Int32) &&& (255 : Int32)).toUInt32.toUInt16.toUInt32.toInt32)), .unset] [(.int (0 : Int32))]) _ _ _
    refine Go.istore X57 hx (hb hby at_53) (l' := #[.val (.int p0), .val (.int (3 : Int32)), .val (.ref g3), .val (.ref t3), .val (.int (((61 : Int32) &&& (255 : Int32)).toUInt32.toUInt16.toUInt32.toInt32)), .val (.int (0 : Int32))]) rfl ?_
    show Go _ _ _ _ T57 (mkF m 55 #[.val (.int p0), .val (.int (3 : Int32)), .val (.ref g3), .val (.ref t3), .val (.int (((61 : Int32) &&& (255 : Int32)).toUInt32.toUInt16.toUInt32.toInt32)), .val (.int (0 : Int32))] []) _ _ _
    refine Go.aloadN X57 hx (hb hby at_55) rfl rfl ?_
    show Go _ _ _ _ T57 (mkF m 56 #[.val (.int p0), .val (.int (3 : Int32)), .val (.ref g3), .val (.ref t3), .val (.int (((61 : Int32) &&& (255 : Int32)).toUInt32.toUInt16.toUInt32.toInt32)), .val (.int (0 : Int32))] [(.ref g3)]) _ _ _
    refine Go.callV (W := 0) (argsL := []) (rest := []) X57 hx hZ hown (w48 hw) (w49 hw) (w51 hw) (w50 hw) (w6 hw) (w52 hw) (notFace_of_selects (args := #[]) (mvT hZ (w51 hw))) (by decide) f29 (rm_or4 l Z a0 hw g3 g4 g1 g5 g2 h0 n0 Z0 f36 f12 f44 f20 (Fld.ne f35 f43 (by decide)) (Fld.ne f35 f19 (by decide)) (Fld.ne f35 f51 (by decide)) (Fld.ne f35 f27 (by decide))) e57 (lenOf pd_2 rfl) (hb hby at_56) (by rw [hml]; rfl) rfl (Nat.le_of_eq rfl) (by decide) (by decide) (by decide) (by decide) ?_
    intro v58 T58 L58 X58 q58
    obtain ⟨rfl, M58, e58⟩ := q58
    have N58 := Fr.app N57 M58
    show Go _ _ _ _ T58 (mkF m 59 #[.val (.int p0), .val (.int (3 : Int32)), .val (.ref g3), .val (.ref t3), .val (.int (((61 : Int32) &&& (255 : Int32)).toUInt32.toUInt16.toUInt32.toInt32)), .val (.int (0 : Int32))] [(.int (0 : Int32))]) _ _ _
    refine Go.iload X58 hx (hb hby at_59) rfl ?_
    show Go _ _ _ _ T58 (mkF m 61 #[.val (.int p0), .val (.int (3 : Int32)), .val (.ref g3), .val (.ref t3), .val (.int (((61 : Int32) &&& (255 : Int32)).toUInt32.toUInt16.toUInt32.toInt32)), .val (.int (0 : Int32))] [(.int (0 : Int32)), (.int (0 : Int32))]) _ _ _
    refine Go.icmpNo X58 hx (hb hby at_61) (XT.ii_ne_f (by decide)) ?_
    show Go _ _ _ _ T58 (mkF m 64 #[.val (.int p0), .val (.int (3 : Int32)), .val (.ref g3), .val (.ref t3), .val (.int (((61 : Int32) &&& (255 : Int32)).toUInt32.toUInt16.toUInt32.toInt32)), .val (.int (0 : Int32))] []) _ _ _
    refine Go.iconst X58 hx (hb hby at_64) ?_
    show Go _ _ _ _ T58 (mkF m 65 #[.val (.int p0), .val (.int (3 : Int32)), .val (.ref g3), .val (.ref t3), .val (.int (((61 : Int32) &&& (255 : Int32)).toUInt32.toUInt16.toUInt32.toInt32)), .val (.int (0 : Int32))] [(.int (1 : Int32))]) _ _ _
    refine Go.goto X58 hx (hb hby at_65) (pc' := 69) (by decide) (by decide) ?_
    show Go _ _ _ _ T58 (mkF m 69 #[.val (.int p0), .val (.int (3 : Int32)), .val (.ref g3), .val (.ref t3), .val (.int (((61 : Int32) &&& (255 : Int32)).toUInt32.toUInt16.toUInt32.toInt32)), .val (.int (0 : Int32))] [(.int (1 : Int32))]) _ _ _
    refine Go.retZ X58 hx hlk hret (by decide) (hb hby at_69) (by decide) (by decide) ?_
    rw [e58]
    exact ⟨rfl, N58⟩
  · show Go _ _ _ _ s₁ (mkF m 8 #[.val (.int p0), .val (.int (4 : Int32)), .unset, .unset, .unset, .unset] []) _ _ _
    refine Go.iloadN X0 hx (hb hby at_8) rfl ?_
    show Go _ _ _ _ s₁ (mkF m 9 #[.val (.int p0), .val (.int (4 : Int32)), .unset, .unset, .unset, .unset] [(.int (4 : Int32))]) _ _ _
    refine Go.callS (W := 0) (argsL := [(.int (4 : Int32))]) (rest := []) X0 hx hZ hown (w1 hw) (w2 hw) (w3 hw) (w4 hw) (by decide) (rm_pick4 l Z a0 hw g4 h0 n0 Z0 f36) e0 (lenOf pd_4 rfl) (hb hby at_9) (by rw [hml]; rfl) rfl (Nat.le_of_eq rfl) (by decide) (by decide) (by decide) (by decide) ?_
    intro v59 T59 L59 X59 q59
    obtain ⟨rfl, M59, e59⟩ := q59
    have N59 := Fr.app N0 M59
    show Go _ _ _ _ T59 (mkF m 12 #[.val (.int p0), .val (.int (4 : Int32)), .unset, .unset, .unset, .unset] [(.ref g4)]) _ _ _
    refine Go.astoreN X59 hx (hb hby at_12) rfl (l' := #[.val (.int p0), .val (.int (4 : Int32)), .val (.ref g4), .unset, .unset, .unset]) rfl ?_
    show Go _ _ _ _ T59 (mkF m 13 #[.val (.int p0), .val (.int (4 : Int32)), .val (.ref g4), .unset, .unset, .unset] []) _ _ _
    refine Go.aloadN X59 hx (hb hby at_13) rfl rfl ?_
    show Go _ _ _ _ T59 (mkF m 14 #[.val (.int p0), .val (.int (4 : Int32)), .val (.ref g4), .unset, .unset, .unset] [(.ref g4)]) _ _ _
    refine Go.callV (W := 0) (argsL := []) (rest := []) X59 hx hZ hown (w8 hw) (w9 hw) (w11 hw) (w10 hw) (w6 hw) (w12 hw) (notFace_of_selects (args := #[]) (mvT hZ (w11 hw))) (by decide) f37 (rm_sym l Z a0 hw g4 t4 h0 n0 Z0 f38) e59 (lenOf pd_5 rfl) (hb hby at_14) (by rw [hml]; rfl) rfl (Nat.le_of_eq rfl) (by decide) (by decide) (by decide) (by decide) ?_
    intro v60 T60 L60 X60 q60
    obtain ⟨rfl, M60, e60⟩ := q60
    have N60 := Fr.app N59 M60
    show Go _ _ _ _ T60 (mkF m 17 #[.val (.int p0), .val (.int (4 : Int32)), .val (.ref g4), .unset, .unset, .unset] [(.ref t4)]) _ _ _
    refine Go.astoreN X60 hx (hb hby at_17) rfl (l' := #[.val (.int p0), .val (.int (4 : Int32)), .val (.ref g4), .val (.ref t4), .unset, .unset]) rfl ?_
    show Go _ _ _ _ T60 (mkF m 18 #[.val (.int p0), .val (.int (4 : Int32)), .val (.ref g4), .val (.ref t4), .unset, .unset] []) _ _ _
    refine Go.aloadN X60 hx (hb hby at_18) rfl rfl ?_
    show Go _ _ _ _ T60 (mkF m 19 #[.val (.int p0), .val (.int (4 : Int32)), .val (.ref g4), .val (.ref t4), .unset, .unset] [(.ref t4)]) _ _ _
    refine Go.callV (W := 0) (argsL := []) (rest := []) X60 hx hZ hown (w15 hw) (w16 hw) (w18 hw) (w17 hw) (w19 hw) (w20 hw) (notFace_of_selects (args := #[]) (mvT hZ (w18 hw))) (by decide) f39 (rm_ie1 l Z a0 hw t4 b4 k4 f_4 (62 : Int32) h0 n0 Z0 f40 f42) e60 (lenOf pd_2 rfl) (hb hby at_19) (by rw [hml]; rfl) rfl (Nat.le_of_eq rfl) (by decide) (by decide) (by decide) (by decide) ?_
    intro v61 T61 L61 X61 q61
    obtain ⟨rfl, M61, e61⟩ := q61
    have N61 := Fr.app N60 M61
    show Go _ _ _ _ T61 (mkF m 22 #[.val (.int p0), .val (.int (4 : Int32)), .val (.ref g4), .val (.ref t4), .unset, .unset] [(.int (0 : Int32))]) _ _ _
    refine Go.ifYes X61 hx (hb hby at_22) (XT.i0_eq_t (by decide)) (pc' := 27) (by decide) (by decide) ?_
    show Go _ _ _ _ T61 (mkF m 27 #[.val (.int p0), .val (.int (4 : Int32)), .val (.ref g4), .val (.ref t4), .unset, .unset] []) _ _ _
    refine Go.aloadN X61 hx (hb hby at_27) rfl rfl ?_
    show Go _ _ _ _ T61 (mkF m 28 #[.val (.int p0), .val (.int (4 : Int32)), .val (.ref g4), .val (.ref t4), .unset, .unset] [(.ref t4)]) _ _ _
    refine Go.iconst X61 hx (hb hby at_28) ?_
    show Go _ _ _ _ T61 (mkF m 29 #[.val (.int p0), .val (.int (4 : Int32)), .val (.ref g4), .val (.ref t4), .unset, .unset] [(.int (0 : Int32)), (.ref t4)]) _ _ _
    refine Go.callV (W := 0) (argsL := [(.int (0 : Int32))]) (rest := []) X61 hx hZ hown (w23 hw) (w24 hw) (w26 hw) (w25 hw) (w19 hw) (w27 hw) (notFace_of_selects (args := #[]) (mvT hZ (w26 hw))) (by decide) f39 (rm_ca1 l Z a0 hw t4 b4 k4 f_4 (62 : Int32) fm cs h0 n0 Z0 f0 f1 f2 f3 f39 f41 f40 f42) e61 (lenOf pd_6 rfl) (hb hby at_29) (by rw [hml]; rfl) rfl (Nat.le_of_eq rfl) (by decide) (by decide) (by decide) (by decide) ?_
    intro v62 T62 L62 X62 q62
    obtain ⟨rfl, M62, e62⟩ := q62
    have N62 := Fr.app N61 M62
    show Go _ _ _ _ T62 (mkF m 32 #[.val (.int p0), .val (.int (4 : Int32)), .val (.ref g4), .val (.ref t4), .unset, .unset] [(.int (((62 : Int32) &&& (255 : Int32)).toUInt32.toUInt16.toUInt32.toInt32))]) _ _ _
    refine Go.istore X62 hx (hb hby at_32) (l' := #[.val (.int p0), .val (.int (4 : Int32)), .val (.ref g4), .val (.ref t4), .val (.int (((62 : Int32) &&& (255 : Int32)).toUInt32.toUInt16.toUInt32.toInt32)), .unset]) rfl ?_
    show Go _ _ _ _ T62 (mkF m 34 #[.val (.int p0), .val (.int (4 : Int32)), .val (.ref g4), .val (.ref t4), .val (.int (((62 : Int32) &&& (255 : Int32)).toUInt32.toUInt16.toUInt32.toInt32)), .unset] []) _ _ _
    refine Go.iload X62 hx (hb hby at_34) rfl ?_
    show Go _ _ _ _ T62 (mkF m 36 #[.val (.int p0), .val (.int (4 : Int32)), .val (.ref g4), .val (.ref t4), .val (.int (((62 : Int32) &&& (255 : Int32)).toUInt32.toUInt16.toUInt32.toInt32)), .unset] [(.int (((62 : Int32) &&& (255 : Int32)).toUInt32.toUInt16.toUInt32.toInt32))]) _ _ _
    refine Go.bipush X62 hx (hb hby at_36) ?_
    show Go _ _ _ _ T62 (mkF m 38 #[.val (.int p0), .val (.int (4 : Int32)), .val (.ref g4), .val (.ref t4), .val (.int (((62 : Int32) &&& (255 : Int32)).toUInt32.toUInt16.toUInt32.toInt32)), .unset] [(.int (60 : Int32)), (.int (((62 : Int32) &&& (255 : Int32)).toUInt32.toUInt16.toUInt32.toInt32))]) _ _ _
    refine Go.icmpNo X62 hx (hb hby at_38) (XT.ii_eq_f (by decide)) ?_
    show Go _ _ _ _ T62 (mkF m 41 #[.val (.int p0), .val (.int (4 : Int32)), .val (.ref g4), .val (.ref t4), .val (.int (((62 : Int32) &&& (255 : Int32)).toUInt32.toUInt16.toUInt32.toInt32)), .unset] []) _ _ _
    refine Go.iload X62 hx (hb hby at_41) rfl ?_
    show Go _ _ _ _ T62 (mkF m 43 #[.val (.int p0), .val (.int (4 : Int32)), .val (.ref g4), .val (.ref t4), .val (.int (((62 : Int32) &&& (255 : Int32)).toUInt32.toUInt16.toUInt32.toInt32)), .unset] [(.int (((62 : Int32) &&& (255 : Int32)).toUInt32.toUInt16.toUInt32.toInt32))]) _ _ _
    refine Go.bipush X62 hx (hb hby at_43) ?_
    show Go _ _ _ _ T62 (mkF m 45 #[.val (.int p0), .val (.int (4 : Int32)), .val (.ref g4), .val (.ref t4), .val (.int (((62 : Int32) &&& (255 : Int32)).toUInt32.toUInt16.toUInt32.toInt32)), .unset] [(.int (62 : Int32)), (.int (((62 : Int32) &&& (255 : Int32)).toUInt32.toUInt16.toUInt32.toInt32))]) _ _ _
    refine Go.icmpNo X62 hx (hb hby at_45) (XT.ii_ne_f (by decide)) ?_
    show Go _ _ _ _ T62 (mkF m 48 #[.val (.int p0), .val (.int (4 : Int32)), .val (.ref g4), .val (.ref t4), .val (.int (((62 : Int32) &&& (255 : Int32)).toUInt32.toUInt16.toUInt32.toInt32)), .unset] []) _ _ _
    refine Go.iconst X62 hx (hb hby at_48) ?_
    show Go _ _ _ _ T62 (mkF m 49 #[.val (.int p0), .val (.int (4 : Int32)), .val (.ref g4), .val (.ref t4), .val (.int (((62 : Int32) &&& (255 : Int32)).toUInt32.toUInt16.toUInt32.toInt32)), .unset] [(.int (1 : Int32))]) _ _ _
    refine Go.goto X62 hx (hb hby at_49) (pc' := 53) (by decide) (by decide) ?_
    show Go _ _ _ _ T62 (mkF m 53 #[.val (.int p0), .val (.int (4 : Int32)), .val (.ref g4), .val (.ref t4), .val (.int (((62 : Int32) &&& (255 : Int32)).toUInt32.toUInt16.toUInt32.toInt32)), .unset] [(.int (1 : Int32))]) _ _ _
    refine Go.istore X62 hx (hb hby at_53) (l' := #[.val (.int p0), .val (.int (4 : Int32)), .val (.ref g4), .val (.ref t4), .val (.int (((62 : Int32) &&& (255 : Int32)).toUInt32.toUInt16.toUInt32.toInt32)), .val (.int (1 : Int32))]) rfl ?_
    show Go _ _ _ _ T62 (mkF m 55 #[.val (.int p0), .val (.int (4 : Int32)), .val (.ref g4), .val (.ref t4), .val (.int (((62 : Int32) &&& (255 : Int32)).toUInt32.toUInt16.toUInt32.toInt32)), .val (.int (1 : Int32))] []) _ _ _
    refine Go.aloadN X62 hx (hb hby at_55) rfl rfl ?_
    show Go _ _ _ _ T62 (mkF m 56 #[.val (.int p0), .val (.int (4 : Int32)), .val (.ref g4), .val (.ref t4), .val (.int (((62 : Int32) &&& (255 : Int32)).toUInt32.toUInt16.toUInt32.toInt32)), .val (.int (1 : Int32))] [(.ref g4)]) _ _ _
    refine Go.callV (W := 0) (argsL := []) (rest := []) X62 hx hZ hown (w48 hw) (w49 hw) (w51 hw) (w50 hw) (w6 hw) (w52 hw) (notFace_of_selects (args := #[]) (mvT hZ (w51 hw))) (by decide) f37 (rm_or0 l Z a0 hw g4 h0 n0 Z0 f36) e62 (lenOf pd_2 rfl) (hb hby at_56) (by rw [hml]; rfl) rfl (Nat.le_of_eq rfl) (by decide) (by decide) (by decide) (by decide) ?_
    intro v63 T63 L63 X63 q63
    obtain ⟨rfl, M63, e63⟩ := q63
    have N63 := Fr.app N62 M63
    show Go _ _ _ _ T63 (mkF m 59 #[.val (.int p0), .val (.int (4 : Int32)), .val (.ref g4), .val (.ref t4), .val (.int (((62 : Int32) &&& (255 : Int32)).toUInt32.toUInt16.toUInt32.toInt32)), .val (.int (1 : Int32))] [(.int (1 : Int32))]) _ _ _
    refine Go.iload X63 hx (hb hby at_59) rfl ?_
    show Go _ _ _ _ T63 (mkF m 61 #[.val (.int p0), .val (.int (4 : Int32)), .val (.ref g4), .val (.ref t4), .val (.int (((62 : Int32) &&& (255 : Int32)).toUInt32.toUInt16.toUInt32.toInt32)), .val (.int (1 : Int32))] [(.int (1 : Int32)), (.int (1 : Int32))]) _ _ _
    refine Go.icmpNo X63 hx (hb hby at_61) (XT.ii_ne_f (by decide)) ?_
    show Go _ _ _ _ T63 (mkF m 64 #[.val (.int p0), .val (.int (4 : Int32)), .val (.ref g4), .val (.ref t4), .val (.int (((62 : Int32) &&& (255 : Int32)).toUInt32.toUInt16.toUInt32.toInt32)), .val (.int (1 : Int32))] []) _ _ _
    refine Go.iconst X63 hx (hb hby at_64) ?_
    show Go _ _ _ _ T63 (mkF m 65 #[.val (.int p0), .val (.int (4 : Int32)), .val (.ref g4), .val (.ref t4), .val (.int (((62 : Int32) &&& (255 : Int32)).toUInt32.toUInt16.toUInt32.toInt32)), .val (.int (1 : Int32))] [(.int (1 : Int32))]) _ _ _
    refine Go.goto X63 hx (hb hby at_65) (pc' := 69) (by decide) (by decide) ?_
    show Go _ _ _ _ T63 (mkF m 69 #[.val (.int p0), .val (.int (4 : Int32)), .val (.ref g4), .val (.ref t4), .val (.int (((62 : Int32) &&& (255 : Int32)).toUInt32.toUInt16.toUInt32.toInt32)), .val (.int (1 : Int32))] [(.int (1 : Int32))]) _ _ _
    refine Go.retZ X63 hx hlk hret (by decide) (hb hby at_69) (by decide) (by decide) ?_
    rw [e63]
    exact ⟨rfl, N63⟩
  · show Go _ _ _ _ s₁ (mkF m 8 #[.val (.int p0), .val (.int (5 : Int32)), .unset, .unset, .unset, .unset] []) _ _ _
    refine Go.iloadN X0 hx (hb hby at_8) rfl ?_
    show Go _ _ _ _ s₁ (mkF m 9 #[.val (.int p0), .val (.int (5 : Int32)), .unset, .unset, .unset, .unset] [(.int (5 : Int32))]) _ _ _
    refine Go.callS (W := 0) (argsL := [(.int (5 : Int32))]) (rest := []) X0 hx hZ hown (w1 hw) (w2 hw) (w3 hw) (w4 hw) (by decide) (rm_pick5 l Z a0 hw g5 h0 n0 Z0 f44) e0 (lenOf pd_4 rfl) (hb hby at_9) (by rw [hml]; rfl) rfl (Nat.le_of_eq rfl) (by decide) (by decide) (by decide) (by decide) ?_
    intro v64 T64 L64 X64 q64
    obtain ⟨rfl, M64, e64⟩ := q64
    have N64 := Fr.app N0 M64
    show Go _ _ _ _ T64 (mkF m 12 #[.val (.int p0), .val (.int (5 : Int32)), .unset, .unset, .unset, .unset] [(.ref g5)]) _ _ _
    refine Go.astoreN X64 hx (hb hby at_12) rfl (l' := #[.val (.int p0), .val (.int (5 : Int32)), .val (.ref g5), .unset, .unset, .unset]) rfl ?_
    show Go _ _ _ _ T64 (mkF m 13 #[.val (.int p0), .val (.int (5 : Int32)), .val (.ref g5), .unset, .unset, .unset] []) _ _ _
    refine Go.aloadN X64 hx (hb hby at_13) rfl rfl ?_
    show Go _ _ _ _ T64 (mkF m 14 #[.val (.int p0), .val (.int (5 : Int32)), .val (.ref g5), .unset, .unset, .unset] [(.ref g5)]) _ _ _
    refine Go.callV (W := 0) (argsL := []) (rest := []) X64 hx hZ hown (w8 hw) (w9 hw) (w11 hw) (w10 hw) (w6 hw) (w12 hw) (notFace_of_selects (args := #[]) (mvT hZ (w11 hw))) (by decide) f45 (rm_sym l Z a0 hw g5 t5 h0 n0 Z0 f46) e64 (lenOf pd_5 rfl) (hb hby at_14) (by rw [hml]; rfl) rfl (Nat.le_of_eq rfl) (by decide) (by decide) (by decide) (by decide) ?_
    intro v65 T65 L65 X65 q65
    obtain ⟨rfl, M65, e65⟩ := q65
    have N65 := Fr.app N64 M65
    show Go _ _ _ _ T65 (mkF m 17 #[.val (.int p0), .val (.int (5 : Int32)), .val (.ref g5), .unset, .unset, .unset] [(.ref t5)]) _ _ _
    refine Go.astoreN X65 hx (hb hby at_17) rfl (l' := #[.val (.int p0), .val (.int (5 : Int32)), .val (.ref g5), .val (.ref t5), .unset, .unset]) rfl ?_
    show Go _ _ _ _ T65 (mkF m 18 #[.val (.int p0), .val (.int (5 : Int32)), .val (.ref g5), .val (.ref t5), .unset, .unset] []) _ _ _
    refine Go.aloadN X65 hx (hb hby at_18) rfl rfl ?_
    show Go _ _ _ _ T65 (mkF m 19 #[.val (.int p0), .val (.int (5 : Int32)), .val (.ref g5), .val (.ref t5), .unset, .unset] [(.ref t5)]) _ _ _
    refine Go.callV (W := 0) (argsL := []) (rest := []) X65 hx hZ hown (w15 hw) (w16 hw) (w18 hw) (w17 hw) (w19 hw) (w20 hw) (notFace_of_selects (args := #[]) (mvT hZ (w18 hw))) (by decide) f47 (rm_ie1 l Z a0 hw t5 b5 k5 f_5 (60 : Int32) h0 n0 Z0 f48 f50) e65 (lenOf pd_2 rfl) (hb hby at_19) (by rw [hml]; rfl) rfl (Nat.le_of_eq rfl) (by decide) (by decide) (by decide) (by decide) ?_
    intro v66 T66 L66 X66 q66
    obtain ⟨rfl, M66, e66⟩ := q66
    have N66 := Fr.app N65 M66
    show Go _ _ _ _ T66 (mkF m 22 #[.val (.int p0), .val (.int (5 : Int32)), .val (.ref g5), .val (.ref t5), .unset, .unset] [(.int (0 : Int32))]) _ _ _
    refine Go.ifYes X66 hx (hb hby at_22) (XT.i0_eq_t (by decide)) (pc' := 27) (by decide) (by decide) ?_
    show Go _ _ _ _ T66 (mkF m 27 #[.val (.int p0), .val (.int (5 : Int32)), .val (.ref g5), .val (.ref t5), .unset, .unset] []) _ _ _
    refine Go.aloadN X66 hx (hb hby at_27) rfl rfl ?_
    show Go _ _ _ _ T66 (mkF m 28 #[.val (.int p0), .val (.int (5 : Int32)), .val (.ref g5), .val (.ref t5), .unset, .unset] [(.ref t5)]) _ _ _
    refine Go.iconst X66 hx (hb hby at_28) ?_
    show Go _ _ _ _ T66 (mkF m 29 #[.val (.int p0), .val (.int (5 : Int32)), .val (.ref g5), .val (.ref t5), .unset, .unset] [(.int (0 : Int32)), (.ref t5)]) _ _ _
    refine Go.callV (W := 0) (argsL := [(.int (0 : Int32))]) (rest := []) X66 hx hZ hown (w23 hw) (w24 hw) (w26 hw) (w25 hw) (w19 hw) (w27 hw) (notFace_of_selects (args := #[]) (mvT hZ (w26 hw))) (by decide) f47 (rm_ca1 l Z a0 hw t5 b5 k5 f_5 (60 : Int32) fm cs h0 n0 Z0 f0 f1 f2 f3 f47 f49 f48 f50) e66 (lenOf pd_6 rfl) (hb hby at_29) (by rw [hml]; rfl) rfl (Nat.le_of_eq rfl) (by decide) (by decide) (by decide) (by decide) ?_
    intro v67 T67 L67 X67 q67
    obtain ⟨rfl, M67, e67⟩ := q67
    have N67 := Fr.app N66 M67
    show Go _ _ _ _ T67 (mkF m 32 #[.val (.int p0), .val (.int (5 : Int32)), .val (.ref g5), .val (.ref t5), .unset, .unset] [(.int (((60 : Int32) &&& (255 : Int32)).toUInt32.toUInt16.toUInt32.toInt32))]) _ _ _
    refine Go.istore X67 hx (hb hby at_32) (l' := #[.val (.int p0), .val (.int (5 : Int32)), .val (.ref g5), .val (.ref t5), .val (.int (((60 : Int32) &&& (255 : Int32)).toUInt32.toUInt16.toUInt32.toInt32)), .unset]) rfl ?_
    show Go _ _ _ _ T67 (mkF m 34 #[.val (.int p0), .val (.int (5 : Int32)), .val (.ref g5), .val (.ref t5), .val (.int (((60 : Int32) &&& (255 : Int32)).toUInt32.toUInt16.toUInt32.toInt32)), .unset] []) _ _ _
    refine Go.iload X67 hx (hb hby at_34) rfl ?_
    show Go _ _ _ _ T67 (mkF m 36 #[.val (.int p0), .val (.int (5 : Int32)), .val (.ref g5), .val (.ref t5), .val (.int (((60 : Int32) &&& (255 : Int32)).toUInt32.toUInt16.toUInt32.toInt32)), .unset] [(.int (((60 : Int32) &&& (255 : Int32)).toUInt32.toUInt16.toUInt32.toInt32))]) _ _ _
    refine Go.bipush X67 hx (hb hby at_36) ?_
    show Go _ _ _ _ T67 (mkF m 38 #[.val (.int p0), .val (.int (5 : Int32)), .val (.ref g5), .val (.ref t5), .val (.int (((60 : Int32) &&& (255 : Int32)).toUInt32.toUInt16.toUInt32.toInt32)), .unset] [(.int (60 : Int32)), (.int (((60 : Int32) &&& (255 : Int32)).toUInt32.toUInt16.toUInt32.toInt32))]) _ _ _
    refine Go.icmpYes X67 hx (hb hby at_38) (XT.ii_eq_t (by decide)) (pc' := 48) (by decide) (by decide) ?_
    show Go _ _ _ _ T67 (mkF m 48 #[.val (.int p0), .val (.int (5 : Int32)), .val (.ref g5), .val (.ref t5), .val (.int (((60 : Int32) &&& (255 : Int32)).toUInt32.toUInt16.toUInt32.toInt32)), .unset] []) _ _ _
    refine Go.iconst X67 hx (hb hby at_48) ?_
    show Go _ _ _ _ T67 (mkF m 49 #[.val (.int p0), .val (.int (5 : Int32)), .val (.ref g5), .val (.ref t5), .val (.int (((60 : Int32) &&& (255 : Int32)).toUInt32.toUInt16.toUInt32.toInt32)), .unset] [(.int (1 : Int32))]) _ _ _
    refine Go.goto X67 hx (hb hby at_49) (pc' := 53) (by decide) (by decide) ?_
    show Go _ _ _ _ T67 (mkF m 53 #[.val (.int p0), .val (.int (5 : Int32)), .val (.ref g5), .val (.ref t5), .val (.int (((60 : Int32) &&& (255 : Int32)).toUInt32.toUInt16.toUInt32.toInt32)), .unset] [(.int (1 : Int32))]) _ _ _
    refine Go.istore X67 hx (hb hby at_53) (l' := #[.val (.int p0), .val (.int (5 : Int32)), .val (.ref g5), .val (.ref t5), .val (.int (((60 : Int32) &&& (255 : Int32)).toUInt32.toUInt16.toUInt32.toInt32)), .val (.int (1 : Int32))]) rfl ?_
    show Go _ _ _ _ T67 (mkF m 55 #[.val (.int p0), .val (.int (5 : Int32)), .val (.ref g5), .val (.ref t5), .val (.int (((60 : Int32) &&& (255 : Int32)).toUInt32.toUInt16.toUInt32.toInt32)), .val (.int (1 : Int32))] []) _ _ _
    refine Go.aloadN X67 hx (hb hby at_55) rfl rfl ?_
    show Go _ _ _ _ T67 (mkF m 56 #[.val (.int p0), .val (.int (5 : Int32)), .val (.ref g5), .val (.ref t5), .val (.int (((60 : Int32) &&& (255 : Int32)).toUInt32.toUInt16.toUInt32.toInt32)), .val (.int (1 : Int32))] [(.ref g5)]) _ _ _
    refine Go.callV (W := 0) (argsL := []) (rest := []) X67 hx hZ hown (w48 hw) (w49 hw) (w51 hw) (w50 hw) (w6 hw) (w52 hw) (notFace_of_selects (args := #[]) (mvT hZ (w51 hw))) (by decide) f45 (rm_or2 l Z a0 hw g5 g4 g1 h0 n0 Z0 f36 f12 f44 (Fld.ne f51 f43 (by decide)) (Fld.ne f51 f19 (by decide))) e67 (lenOf pd_2 rfl) (hb hby at_56) (by rw [hml]; rfl) rfl (Nat.le_of_eq rfl) (by decide) (by decide) (by decide) (by decide) ?_
    intro v68 T68 L68 X68 q68
    obtain ⟨rfl, M68, e68⟩ := q68
    have N68 := Fr.app N67 M68
    show Go _ _ _ _ T68 (mkF m 59 #[.val (.int p0), .val (.int (5 : Int32)), .val (.ref g5), .val (.ref t5), .val (.int (((60 : Int32) &&& (255 : Int32)).toUInt32.toUInt16.toUInt32.toInt32)), .val (.int (1 : Int32))] [(.int (1 : Int32))]) _ _ _
    refine Go.iload X68 hx (hb hby at_59) rfl ?_
    show Go _ _ _ _ T68 (mkF m 61 #[.val (.int p0), .val (.int (5 : Int32)), .val (.ref g5), .val (.ref t5), .val (.int (((60 : Int32) &&& (255 : Int32)).toUInt32.toUInt16.toUInt32.toInt32)), .val (.int (1 : Int32))] [(.int (1 : Int32)), (.int (1 : Int32))]) _ _ _
    refine Go.icmpNo X68 hx (hb hby at_61) (XT.ii_ne_f (by decide)) ?_
    show Go _ _ _ _ T68 (mkF m 64 #[.val (.int p0), .val (.int (5 : Int32)), .val (.ref g5), .val (.ref t5), .val (.int (((60 : Int32) &&& (255 : Int32)).toUInt32.toUInt16.toUInt32.toInt32)), .val (.int (1 : Int32))] []) _ _ _
    refine Go.iconst X68 hx (hb hby at_64) ?_
    show Go _ _ _ _ T68 (mkF m 65 #[.val (.int p0), .val (.int (5 : Int32)), .val (.ref g5), .val (.ref t5), .val (.int (((60 : Int32) &&& (255 : Int32)).toUInt32.toUInt16.toUInt32.toInt32)), .val (.int (1 : Int32))] [(.int (1 : Int32))]) _ _ _
    refine Go.goto X68 hx (hb hby at_65) (pc' := 69) (by decide) (by decide) ?_
    show Go _ _ _ _ T68 (mkF m 69 #[.val (.int p0), .val (.int (5 : Int32)), .val (.ref g5), .val (.ref t5), .val (.int (((60 : Int32) &&& (255 : Int32)).toUInt32.toUInt16.toUInt32.toInt32)), .val (.int (1 : Int32))] [(.int (1 : Int32))]) _ _ _
    refine Go.retZ X68 hx hlk hret (by decide) (hb hby at_69) (by decide) (by decide) ?_
    rw [e68]
    exact ⟨rfl, N68⟩
  · show Go _ _ _ _ s₁ (mkF m 8 #[.val (.int p0), .val (.int (6 : Int32)), .unset, .unset, .unset, .unset] []) _ _ _
    refine Go.iloadN X0 hx (hb hby at_8) rfl ?_
    show Go _ _ _ _ s₁ (mkF m 9 #[.val (.int p0), .val (.int (6 : Int32)), .unset, .unset, .unset, .unset] [(.int (6 : Int32))]) _ _ _
    refine Go.callS (W := 0) (argsL := [(.int (6 : Int32))]) (rest := []) X0 hx hZ hown (w1 hw) (w2 hw) (w3 hw) (w4 hw) (by decide) (rm_pick6 l Z a0 hw g6 h0 n0 Z0 f52) e0 (lenOf pd_4 rfl) (hb hby at_9) (by rw [hml]; rfl) rfl (Nat.le_of_eq rfl) (by decide) (by decide) (by decide) (by decide) ?_
    intro v69 T69 L69 X69 q69
    obtain ⟨rfl, M69, e69⟩ := q69
    have N69 := Fr.app N0 M69
    show Go _ _ _ _ T69 (mkF m 12 #[.val (.int p0), .val (.int (6 : Int32)), .unset, .unset, .unset, .unset] [(.ref g6)]) _ _ _
    refine Go.astoreN X69 hx (hb hby at_12) rfl (l' := #[.val (.int p0), .val (.int (6 : Int32)), .val (.ref g6), .unset, .unset, .unset]) rfl ?_
    show Go _ _ _ _ T69 (mkF m 13 #[.val (.int p0), .val (.int (6 : Int32)), .val (.ref g6), .unset, .unset, .unset] []) _ _ _
    refine Go.aloadN X69 hx (hb hby at_13) rfl rfl ?_
    show Go _ _ _ _ T69 (mkF m 14 #[.val (.int p0), .val (.int (6 : Int32)), .val (.ref g6), .unset, .unset, .unset] [(.ref g6)]) _ _ _
    refine Go.callV (W := 0) (argsL := []) (rest := []) X69 hx hZ hown (w8 hw) (w9 hw) (w11 hw) (w10 hw) (w6 hw) (w12 hw) (notFace_of_selects (args := #[]) (mvT hZ (w11 hw))) (by decide) f53 (rm_sym l Z a0 hw g6 t6 h0 n0 Z0 f54) e69 (lenOf pd_5 rfl) (hb hby at_14) (by rw [hml]; rfl) rfl (Nat.le_of_eq rfl) (by decide) (by decide) (by decide) (by decide) ?_
    intro v70 T70 L70 X70 q70
    obtain ⟨rfl, M70, e70⟩ := q70
    have N70 := Fr.app N69 M70
    show Go _ _ _ _ T70 (mkF m 17 #[.val (.int p0), .val (.int (6 : Int32)), .val (.ref g6), .unset, .unset, .unset] [(.ref t6)]) _ _ _
    refine Go.astoreN X70 hx (hb hby at_17) rfl (l' := #[.val (.int p0), .val (.int (6 : Int32)), .val (.ref g6), .val (.ref t6), .unset, .unset]) rfl ?_
    show Go _ _ _ _ T70 (mkF m 18 #[.val (.int p0), .val (.int (6 : Int32)), .val (.ref g6), .val (.ref t6), .unset, .unset] []) _ _ _
    refine Go.aloadN X70 hx (hb hby at_18) rfl rfl ?_
    show Go _ _ _ _ T70 (mkF m 19 #[.val (.int p0), .val (.int (6 : Int32)), .val (.ref g6), .val (.ref t6), .unset, .unset] [(.ref t6)]) _ _ _
    refine Go.callV (W := 0) (argsL := []) (rest := []) X70 hx hZ hown (w15 hw) (w16 hw) (w18 hw) (w17 hw) (w19 hw) (w20 hw) (notFace_of_selects (args := #[]) (mvT hZ (w18 hw))) (by decide) f55 (rm_ie1 l Z a0 hw t6 b6 k6 f_6 (126 : Int32) h0 n0 Z0 f56 f58) e70 (lenOf pd_2 rfl) (hb hby at_19) (by rw [hml]; rfl) rfl (Nat.le_of_eq rfl) (by decide) (by decide) (by decide) (by decide) ?_
    intro v71 T71 L71 X71 q71
    obtain ⟨rfl, M71, e71⟩ := q71
    have N71 := Fr.app N70 M71
    show Go _ _ _ _ T71 (mkF m 22 #[.val (.int p0), .val (.int (6 : Int32)), .val (.ref g6), .val (.ref t6), .unset, .unset] [(.int (0 : Int32))]) _ _ _
    refine Go.ifYes X71 hx (hb hby at_22) (XT.i0_eq_t (by decide)) (pc' := 27) (by decide) (by decide) ?_
    show Go _ _ _ _ T71 (mkF m 27 #[.val (.int p0), .val (.int (6 : Int32)), .val (.ref g6), .val (.ref t6), .unset, .unset] []) _ _ _
    refine Go.aloadN X71 hx (hb hby at_27) rfl rfl ?_
    show Go _ _ _ _ T71 (mkF m 28 #[.val (.int p0), .val (.int (6 : Int32)), .val (.ref g6), .val (.ref t6), .unset, .unset] [(.ref t6)]) _ _ _
    refine Go.iconst X71 hx (hb hby at_28) ?_
    show Go _ _ _ _ T71 (mkF m 29 #[.val (.int p0), .val (.int (6 : Int32)), .val (.ref g6), .val (.ref t6), .unset, .unset] [(.int (0 : Int32)), (.ref t6)]) _ _ _
    refine Go.callV (W := 0) (argsL := [(.int (0 : Int32))]) (rest := []) X71 hx hZ hown (w23 hw) (w24 hw) (w26 hw) (w25 hw) (w19 hw) (w27 hw) (notFace_of_selects (args := #[]) (mvT hZ (w26 hw))) (by decide) f55 (rm_ca1 l Z a0 hw t6 b6 k6 f_6 (126 : Int32) fm cs h0 n0 Z0 f0 f1 f2 f3 f55 f57 f56 f58) e71 (lenOf pd_6 rfl) (hb hby at_29) (by rw [hml]; rfl) rfl (Nat.le_of_eq rfl) (by decide) (by decide) (by decide) (by decide) ?_
    intro v72 T72 L72 X72 q72
    obtain ⟨rfl, M72, e72⟩ := q72
    have N72 := Fr.app N71 M72
    show Go _ _ _ _ T72 (mkF m 32 #[.val (.int p0), .val (.int (6 : Int32)), .val (.ref g6), .val (.ref t6), .unset, .unset] [(.int (((126 : Int32) &&& (255 : Int32)).toUInt32.toUInt16.toUInt32.toInt32))]) _ _ _
    refine Go.istore X72 hx (hb hby at_32) (l' := #[.val (.int p0), .val (.int (6 : Int32)), .val (.ref g6), .val (.ref t6), .val (.int (((126 : Int32) &&& (255 : Int32)).toUInt32.toUInt16.toUInt32.toInt32)), .unset]) rfl ?_
    show Go _ _ _ _ T72 (mkF m 34 #[.val (.int p0), .val (.int (6 : Int32)), .val (.ref g6), .val (.ref t6), .val (.int (((126 : Int32) &&& (255 : Int32)).toUInt32.toUInt16.toUInt32.toInt32)), .unset] []) _ _ _
    refine Go.iload X72 hx (hb hby at_34) rfl ?_
    show Go _ _ _ _ T72 (mkF m 36 #[.val (.int p0), .val (.int (6 : Int32)), .val (.ref g6), .val (.ref t6), .val (.int (((126 : Int32) &&& (255 : Int32)).toUInt32.toUInt16.toUInt32.toInt32)), .unset] [(.int (((126 : Int32) &&& (255 : Int32)).toUInt32.toUInt16.toUInt32.toInt32))]) _ _ _
    refine Go.bipush X72 hx (hb hby at_36) ?_
    show Go _ _ _ _ T72 (mkF m 38 #[.val (.int p0), .val (.int (6 : Int32)), .val (.ref g6), .val (.ref t6), .val (.int (((126 : Int32) &&& (255 : Int32)).toUInt32.toUInt16.toUInt32.toInt32)), .unset] [(.int (60 : Int32)), (.int (((126 : Int32) &&& (255 : Int32)).toUInt32.toUInt16.toUInt32.toInt32))]) _ _ _
    refine Go.icmpNo X72 hx (hb hby at_38) (XT.ii_eq_f (by decide)) ?_
    show Go _ _ _ _ T72 (mkF m 41 #[.val (.int p0), .val (.int (6 : Int32)), .val (.ref g6), .val (.ref t6), .val (.int (((126 : Int32) &&& (255 : Int32)).toUInt32.toUInt16.toUInt32.toInt32)), .unset] []) _ _ _
    refine Go.iload X72 hx (hb hby at_41) rfl ?_
    show Go _ _ _ _ T72 (mkF m 43 #[.val (.int p0), .val (.int (6 : Int32)), .val (.ref g6), .val (.ref t6), .val (.int (((126 : Int32) &&& (255 : Int32)).toUInt32.toUInt16.toUInt32.toInt32)), .unset] [(.int (((126 : Int32) &&& (255 : Int32)).toUInt32.toUInt16.toUInt32.toInt32))]) _ _ _
    refine Go.bipush X72 hx (hb hby at_43) ?_
    show Go _ _ _ _ T72 (mkF m 45 #[.val (.int p0), .val (.int (6 : Int32)), .val (.ref g6), .val (.ref t6), .val (.int (((126 : Int32) &&& (255 : Int32)).toUInt32.toUInt16.toUInt32.toInt32)), .unset] [(.int (62 : Int32)), (.int (((126 : Int32) &&& (255 : Int32)).toUInt32.toUInt16.toUInt32.toInt32))]) _ _ _
    refine Go.icmpYes X72 hx (hb hby at_45) (XT.ii_ne_t (by decide)) (pc' := 52) (by decide) (by decide) ?_
    show Go _ _ _ _ T72 (mkF m 52 #[.val (.int p0), .val (.int (6 : Int32)), .val (.ref g6), .val (.ref t6), .val (.int (((126 : Int32) &&& (255 : Int32)).toUInt32.toUInt16.toUInt32.toInt32)), .unset] []) _ _ _
    refine Go.iconst X72 hx (hb hby at_52) ?_
    show Go _ _ _ _ T72 (mkF m 53 #[.val (.int p0), .val (.int (6 : Int32)), .val (.ref g6), .val (.ref t6), .val (.int (((126 : Int32) &&& (255 : Int32)).toUInt32.toUInt16.toUInt32.toInt32)), .unset] [(.int (0 : Int32))]) _ _ _
    refine Go.istore X72 hx (hb hby at_53) (l' := #[.val (.int p0), .val (.int (6 : Int32)), .val (.ref g6), .val (.ref t6), .val (.int (((126 : Int32) &&& (255 : Int32)).toUInt32.toUInt16.toUInt32.toInt32)), .val (.int (0 : Int32))]) rfl ?_
    show Go _ _ _ _ T72 (mkF m 55 #[.val (.int p0), .val (.int (6 : Int32)), .val (.ref g6), .val (.ref t6), .val (.int (((126 : Int32) &&& (255 : Int32)).toUInt32.toUInt16.toUInt32.toInt32)), .val (.int (0 : Int32))] []) _ _ _
    refine Go.aloadN X72 hx (hb hby at_55) rfl rfl ?_
    show Go _ _ _ _ T72 (mkF m 56 #[.val (.int p0), .val (.int (6 : Int32)), .val (.ref g6), .val (.ref t6), .val (.int (((126 : Int32) &&& (255 : Int32)).toUInt32.toUInt16.toUInt32.toInt32)), .val (.int (0 : Int32))] [(.ref g6)]) _ _ _
    refine Go.callV (W := 0) (argsL := []) (rest := []) X72 hx hZ hown (w48 hw) (w49 hw) (w51 hw) (w50 hw) (w6 hw) (w52 hw) (notFace_of_selects (args := #[]) (mvT hZ (w51 hw))) (by decide) f53 (rm_or4 l Z a0 hw g6 g4 g1 g5 g2 h0 n0 Z0 f36 f12 f44 f20 (Fld.ne f59 f43 (by decide)) (Fld.ne f59 f19 (by decide)) (Fld.ne f59 f51 (by decide)) (Fld.ne f59 f27 (by decide))) e72 (lenOf pd_2 rfl) (hb hby at_56) (by rw [hml]; rfl) rfl (Nat.le_of_eq rfl) (by decide) (by decide) (by decide) (by decide) ?_
    intro v73 T73 L73 X73 q73
    obtain ⟨rfl, M73, e73⟩ := q73
    have N73 := Fr.app N72 M73
    show Go _ _ _ _ T73 (mkF m 59 #[.val (.int p0), .val (.int (6 : Int32)), .val (.ref g6), .val (.ref t6), .val (.int (((126 : Int32) &&& (255 : Int32)).toUInt32.toUInt16.toUInt32.toInt32)), .val (.int (0 : Int32))] [(.int (0 : Int32))]) _ _ _
    refine Go.iload X73 hx (hb hby at_59) rfl ?_
    show Go _ _ _ _ T73 (mkF m 61 #[.val (.int p0), .val (.int (6 : Int32)), .val (.ref g6), .val (.ref t6), .val (.int (((126 : Int32) &&& (255 : Int32)).toUInt32.toUInt16.toUInt32.toInt32)), .val (.int (0 : Int32))] [(.int (0 : Int32)), (.int (0 : Int32))]) _ _ _
    refine Go.icmpNo X73 hx (hb hby at_61) (XT.ii_ne_f (by decide)) ?_
    show Go _ _ _ _ T73 (mkF m 64 #[.val (.int p0), .val (.int (6 : Int32)), .val (.ref g6), .val (.ref t6), .val (.int (((126 : Int32) &&& (255 : Int32)).toUInt32.toUInt16.toUInt32.toInt32)), .val (.int (0 : Int32))] []) _ _ _
    refine Go.iconst X73 hx (hb hby at_64) ?_
    show Go _ _ _ _ T73 (mkF m 65 #[.val (.int p0), .val (.int (6 : Int32)), .val (.ref g6), .val (.ref t6), .val (.int (((126 : Int32) &&& (255 : Int32)).toUInt32.toUInt16.toUInt32.toInt32)), .val (.int (0 : Int32))] [(.int (1 : Int32))]) _ _ _
    refine Go.goto X73 hx (hb hby at_65) (pc' := 69) (by decide) (by decide) ?_
    show Go _ _ _ _ T73 (mkF m 69 #[.val (.int p0), .val (.int (6 : Int32)), .val (.ref g6), .val (.ref t6), .val (.int (((126 : Int32) &&& (255 : Int32)).toUInt32.toUInt16.toUInt32.toInt32)), .val (.int (0 : Int32))] [(.int (1 : Int32))]) _ _ _
    refine Go.retZ X73 hx hlk hret (by decide) (hb hby at_69) (by decide) (by decide) ?_
    rw [e73]
    exact ⟨rfl, N73⟩
set_option maxRecDepth 65536 in
set_option maxHeartbeats 40000000 in
theorem comes_1 {Post : Tables → Env → Array Value → State → Outcome → State → Prop} (hpost : ∀ tb e args s v u, (limb_1_1.after args s (.returned v) u = true ∧ limb_1_2.after args s (.returned v) u = true ∧ True) → FrameEnd s (.returned v) u (Jvm.fieldLocs frame_1_writes args s ++ Jvm.arrayLocs frame_1_arrays args s ++ Jvm.staticLocs frame_1_statics s) 0 0 → Post tb e args s (.returned v) u) :
    ArmFor flags0 classFile x code maxLocals ret World_1 tables_1 room_1 Calls_1 rest_1 Pre_1 Post := by
  intro l hfl _ _ p e ha hc hk s m args below hf hA hF happ hP
  obtain ⟨hcalls, hrest, hpre⟩ := hP
  obtain ⟨-, -, -, hnamed, -, -, -, hat⟩ := (Spec.applies_iff hf).mp happ
  obtain ⟨hg, hn⟩ := and_e (Cond.before_iff.mp (show (Jvm.Cond.and given_1 narrow_1).before args s = true from hpre))
  obtain ⟨hcount, hgs⟩ := and_e hg
  obtain ⟨w0', rfl⟩ : ∃ w0' : Value, args = #[w0'] := by
    have hs : args.size = 1 := by simpa [Cond.value, given_1] using hcount
    obtain ⟨L⟩ := args
    match L, hs with
    | [w0'], _ => exact ⟨w0', rfl⟩
  have hw := fun d (hd : d ∈ tables_1) => atoms_spec (ws := Jvm.Cond.code x code maxLocals ret :: tables_1) hat d (List.mem_cons_of_mem _ hd)
  obtain ⟨hsets, hown0⟩ := atoms_of _ (rest_1_c_eq ▸ (show rest_1_c.before _ s = true from hrest))
  have hfit : Fit s := fun {y c} hc i hi => by
    obtain ⟨ha, rfl⟩ := Array.getElem?_eq_some_iff.mp hc
    have q := List.all_eq_true.mp ((Array.all_eq_true_iff_forall_mem.mp hF) _ (Array.getElem_mem ha)) i (List.mem_range.mpr hi)
    simpa [Array.getElem?_eq_getElem hi] using q
  obtain ⟨i0, ei0⟩ := is_v hgs
  obtain rfl : w0' = (.int i0) := Option.some.inj ei0
  obtain ⟨nn0, nnr0⟩ := and_e hn
  obtain ⟨nn1, nnr1⟩ := and_e nnr0
  obtain ⟨nn2, nnr2⟩ := and_e nnr1
  obtain ⟨nn3, nnr3⟩ := and_e nnr2
  obtain ⟨nn4, nnr4⟩ := and_e nnr3
  obtain ⟨nn5, nnr5⟩ := and_e nnr4
  obtain ⟨nn6, nnr6⟩ := and_e nnr5
  obtain ⟨nn7, nnr7⟩ := and_e nnr6
  obtain ⟨nn8, nnr8⟩ := and_e nnr7
  obtain ⟨nn9, nnr9⟩ := and_e nnr8
  obtain ⟨nn10, nnr10⟩ := and_e nnr9
  obtain ⟨nn11, nnr11⟩ := and_e nnr10
  obtain ⟨nn12, nnr12⟩ := and_e nnr11
  obtain ⟨nn13, nnr13⟩ := and_e nnr12
  obtain ⟨nn14, nnr14⟩ := and_e nnr13
  obtain ⟨nn15, nnr15⟩ := and_e nnr14
  obtain ⟨nn16, nnr16⟩ := and_e nnr15
  obtain ⟨nn17, nnr17⟩ := and_e nnr16
  obtain ⟨nn18, nnr18⟩ := and_e nnr17
  obtain ⟨nn19, nnr19⟩ := and_e nnr18
  obtain ⟨nn20, nnr20⟩ := and_e nnr19
  obtain ⟨nn21, nnr21⟩ := and_e nnr20
  obtain ⟨nn22, nnr22⟩ := and_e nnr21
  obtain ⟨nn23, nnr23⟩ := and_e nnr22
  obtain ⟨nn24, nnr24⟩ := and_e nnr23
  obtain ⟨nn25, nnr25⟩ := and_e nnr24
  obtain ⟨nn26, nnr26⟩ := and_e nnr25
  obtain ⟨nn27, nnr27⟩ := and_e nnr26
  obtain ⟨nn28, nnr28⟩ := and_e nnr27
  obtain ⟨nn29, nnr29⟩ := and_e nnr28
  obtain ⟨nn30, nnr30⟩ := and_e nnr29
  obtain ⟨nn31, nnr31⟩ := and_e nnr30
  obtain ⟨nn32, nnr32⟩ := and_e nnr31
  obtain ⟨nn33, nnr33⟩ := and_e nnr32
  obtain ⟨nn34, nnr34⟩ := and_e nnr33
  obtain ⟨nn35, nnr35⟩ := and_e nnr34
  obtain ⟨nn36, nnr36⟩ := and_e nnr35
  obtain ⟨nn37, nnr37⟩ := and_e nnr36
  obtain ⟨nn38, nnr38⟩ := and_e nnr37
  obtain ⟨nn39, nnr39⟩ := and_e nnr38
  obtain ⟨nn40, nnr40⟩ := and_e nnr39
  obtain ⟨nn41, nnr41⟩ := and_e nnr40
  obtain ⟨nn42, nnr42⟩ := and_e nnr41
  obtain ⟨nn43, nnr43⟩ := and_e nnr42
  obtain ⟨nn44, nnr44⟩ := and_e nnr43
  obtain ⟨nn45, nnr45⟩ := and_e nnr44
  obtain ⟨nn46, nnr46⟩ := and_e nnr45
  obtain ⟨nn47, nnr47⟩ := and_e nnr46
  obtain ⟨nn48, nnr48⟩ := and_e nnr47
  obtain ⟨nn49, nnr49⟩ := and_e nnr48
  obtain ⟨nn50, nnr50⟩ := and_e nnr49
  have nn51 := nnr50
  obtain ⟨cs, ecs⟩ := is_v (Cond.before_iff.mp (hsets _ (List.mem_of_getElem? (i := 1) rfl)))
  have Scs : Sta s s.heap "java/lang/String" "COMPACT_STRINGS" "Z" (.int cs) := Sta.start ecs (Or.inl (hsets _ (List.mem_of_getElem? (i := 0) rfl)))
  have ncs : ¬ (cs = (0 : Int32)) := gotF (Cond.eq_ints ecs (Term.int_eval (0))) (not_v (Cond.before_iff.mp (hsets _ (List.mem_of_getElem? (i := 2) rfl))))
  obtain ⟨fm, efm, rfm⟩ := isR_v (Cond.before_iff.mp (hsets _ (List.mem_of_getElem? (i := 8) rfl)))
  have Sfm : Sta s s.heap "jdk/internal/util/Preconditions" "SIOOBE_FORMATTER" "Ljava/util/function/BiFunction;" fm := Sta.start efm (Or.inl (hsets _ (List.mem_of_getElem? (i := 7) rfl)))
  obtain ⟨g0, eg0, S0, E0⟩ := st_static nn0 (Or.inr ⟨(w6 hw), (w7 hw)⟩)
  have D0 := st_fieldI eg0 nn7
  obtain ⟨t0, et0, Ft0, Et0⟩ := st_fieldR eg0 nn1
  have C0 := st_fieldI et0 nn4
  obtain ⟨b0, eb0⟩ := arr_v nn2
  have Fb0 := Fld.start (by rw [← fld_at et0]; exact eb0)
  obtain ⟨c0, hc0, A0⟩ := st_arr (n := 2) eb0 nn2 nn3 rfl (by decide)
  have el0 := st_elem eb0 hc0 (st_int nn5)
  have B0 := A0.known (j := 0) el0
  obtain ⟨g1, eg1, S1, E1⟩ := st_static nn9 (Or.inr ⟨(w6 hw), (w56 hw)⟩)
  have D1 := st_fieldI eg1 nn10
  obtain ⟨t1, et1, Ft1, Et1⟩ := st_fieldR eg1 nn44
  have C1 := st_fieldI et1 nn47
  obtain ⟨b1, eb1⟩ := arr_v nn45
  have Fb1 := Fld.start (by rw [← fld_at et1]; exact eb1)
  obtain ⟨c1, hc1, A1⟩ := st_arr (n := 2) eb1 nn45 nn46 rfl (by decide)
  have el1 := st_elem eb1 hc1 (st_int nn48)
  have B1 := A1.known (j := 0) el1
  obtain ⟨g2, eg2, S2, E2⟩ := st_static nn13 (Or.inr ⟨(w6 hw), (w60 hw)⟩)
  have D2 := st_fieldI eg2 nn14
  obtain ⟨t2, et2, Ft2, Et2⟩ := st_fieldR eg2 nn39
  have C2 := st_fieldI et2 nn42
  obtain ⟨b2, eb2⟩ := arr_v nn40
  have Fb2 := Fld.start (by rw [← fld_at et2]; exact eb2)
  obtain ⟨c2, hc2, A2⟩ := st_arr (n := 2) eb2 nn40 nn41 rfl (by decide)
  have el2 := st_elem eb2 hc2 (st_int nn43)
  have B2 := A2.known (j := 0) el2
  obtain ⟨g3, eg3, S3, E3⟩ := st_static nn15 (Or.inr ⟨(w6 hw), (w62 hw)⟩)
  have D3 := st_fieldI eg3 nn21
  obtain ⟨t3, et3, Ft3, Et3⟩ := st_fieldR eg3 nn16
  have C3 := st_fieldI et3 nn19
  obtain ⟨b3, eb3⟩ := arr_v nn17
  have Fb3 := Fld.start (by rw [← fld_at et3]; exact eb3)
  obtain ⟨c3, hc3, A3⟩ := st_arr (n := 1) eb3 nn17 nn18 rfl (by decide)
  have el3 := st_elem eb3 hc3 (st_int nn20)
  have B3 := A3.known (j := 0) el3
  obtain ⟨g4, eg4, S4, E4⟩ := st_static nn6 (Or.inr ⟨(w6 hw), (w54 hw)⟩)
  have D4 := st_fieldI eg4 nn8
  obtain ⟨t4, et4, Ft4, Et4⟩ := st_fieldR eg4 nn34
  have C4 := st_fieldI et4 nn37
  obtain ⟨b4, eb4⟩ := arr_v nn35
  have Fb4 := Fld.start (by rw [← fld_at et4]; exact eb4)
  obtain ⟨c4, hc4, A4⟩ := st_arr (n := 1) eb4 nn35 nn36 rfl (by decide)
  have el4 := st_elem eb4 hc4 (st_int nn38)
  have B4 := A4.known (j := 0) el4
  obtain ⟨g5, eg5, S5, E5⟩ := st_static nn11 (Or.inr ⟨(w6 hw), (w58 hw)⟩)
  have D5 := st_fieldI eg5 nn12
  obtain ⟨t5, et5, Ft5, Et5⟩ := st_fieldR eg5 nn22
  have C5 := st_fieldI et5 nn25
  obtain ⟨b5, eb5⟩ := arr_v nn23
  have Fb5 := Fld.start (by rw [← fld_at et5]; exact eb5)
  obtain ⟨c5, hc5, A5⟩ := st_arr (n := 1) eb5 nn23 nn24 rfl (by decide)
  have el5 := st_elem eb5 hc5 (st_int nn26)
  have B5 := A5.known (j := 0) el5
  obtain ⟨g6, eg6, S6, E6⟩ := st_static nn27 (Or.inr ⟨(w6 hw), (w65 hw)⟩)
  have D6 := st_fieldI eg6 nn33
  obtain ⟨t6, et6, Ft6, Et6⟩ := st_fieldR eg6 nn28
  have C6 := st_fieldI et6 nn31
  obtain ⟨b6, eb6⟩ := arr_v nn29
  have Fb6 := Fld.start (by rw [← fld_at et6]; exact eb6)
  obtain ⟨c6, hc6, A6⟩ := st_arr (n := 1) eb6 nn29 nn30 rfl (by decide)
  have el6 := st_elem eb6 hc6 (st_int nn32)
  have B6 := A6.known (j := 0) el6
  obtain ⟨n, o, h1, h2, h3, _, L, rfl, ⟨rfl, N⟩, hq⟩ := rm_law l s _ hw tables_1 i0 g0 g1 g2 g3 g4 g5 g6 t0 t1 t2 t3 t4 t5 t6 b0 b1 b2 b3 b4 b5 b6 _ _ _ _ _ _ _ _ _ _ _ _ _ _ fm cs s.heap s.heap.size (Nat.le_refl _) rfm ncs Sfm Scs S0 E0 Ft0 Et0 Fb0 C0 B0 D0 S1 E1 Ft1 Et1 Fb1 C1 B1 D1 S2 E2 Ft2 Et2 Fb2 C2 B2 D2 S3 E3 Ft3 Et3 Fb3 C3 B3 D3 S4 E4 Ft4 Et4 Fb4 C4 B4 D4 S5 E5 Ft5 Et5 Fb5 C5 B5 D5 S6 E6 Ft6 Et6 Fb6 C6 B6 D6 p e ha hc hk s m _ below hf ((Spec.applies_iff_loose hf).mp happ).1 ⟨rfl, State.Warmed39.refl s, rfl⟩ trivial
  refine ⟨n, _, h1, h2, h3, hpost _ _ _ _ _ _ ⟨Cond.after_iff.mpr rfl, Cond.after_iff.mpr (eq_i res_at (Term.int_eval (1)) rfl), trivial⟩ ⟨hq.1, hq.2.1, (hq.2.2.sift fun y hy => Or.inr (N y hy)).mono (by decide) (by decide)⟩⟩
theorem main_1_1 : Claimed_1_1 := comes_1 fun _ _ _ _ _ _ h hF => ⟨h.1, hF⟩
theorem main_1_2 : Claimed_1_2 := comes_1 fun _ _ _ _ _ _ h hF => ⟨h.2.1, hF⟩
end Jvm.Pilot.@@N@@
namespace Jvm.Pilot.@@N@@
open Jvm Jvm.ClassFile Sem Op Lib Jvm.Free Jvm.Stand Jvm.Pilot.@@N@@.Jvm.D
/-! MADE BY PROGRAM (witnessworld.py) out of the Statement's table words and the real class files: 18 classes; the members and pool entries that the words name. The judged class is class 1, her method 2. -/
namespace start1
open Jvm.ClassFile
def u (s : String) : CpInfo := .utf8 (stringToUtf16 s)
/-- a pool by its gaps: so many unusable entries, then the entry; so many at the end -/
def gap : Nat → List CpInfo → List CpInfo
  | 0, r => r
  | n + 1, r => .unusable :: gap n r
def poolList (es : List (Nat × CpInfo)) (last : Nat) : List CpInfo := es.foldr (fun e r => gap e.1 (e.2 :: r)) (gap last [])
def pool (es : List (Nat × CpInfo)) (last : Nat) : Array CpInfo := ⟨poolList es last⟩
def fileOf (pool : Array CpInfo) (this : Nat) (attrs : Array Attribute := #[]) (ms : Array MethodInfo := #[]) (fl : Nat := 33) (sup : Nat := 0) (ifs : Array Nat := #[]) (fds : Array FieldInfo := #[]) : ClassFile where
  minorVersion := 0
  majorVersion := 65
  constantPool := pool
  accessFlags := fl
  thisClass := this
  superClass := sup
  interfaces := ifs
  fields := fds
  methods := ms
  attributes := attrs
def plain (name : String) (sup : Option ClassId) : Class where
  name := name
  kind := .ordinary
  loader := none
  accessFlags := 33
  super := sup
  interfaces := #[]
  cf := none
  fields := #[]
  methods := #[]
  instanceTypes := #[]
  staticTypes := #[]
  resolved := #[]
  callSites := []
  init := .initialized
  statics := none
  mirror := none

def pool0 : Array CpInfo := pool [(5, u "<init>"), (0, u "()V"), (1, .class_ 10), (1, u "java/lang/Object")] 113

def k0m0 : Method := { name := "<init>", desc := "()V", sig := { parameters := [], returnType := none }, accessFlags := 1, code := none }
/-- java/lang/Object -/
def k0 : Class := { plain "java/lang/Object" none with
  accessFlags := 33
  interfaces := #[]
  cf := some (fileOf pool0 8 #[] #[{ accessFlags := 1, nameIndex := 5, descriptorIndex := 6, attributes := #[] }] 33 0 #[] #[])
  fields := #[]
  methods := #[k0m0]
  instanceTypes := #[]
  staticTypes := #[]
  resolved := Array.replicate 124 none
  statics := none }

def pool1 : Array CpInfo := pool [(2, .class_ 4), (1, u "java/lang/Object"), (0, u "<init>"), (0, u "()V"), (0, .fieldref 8 9), (0, .class_ 10), (0, .nameAndType 11 12), (0, u "com/example/rosterd/rosterd/query/Operator"), (0, u "NOT_EQUAL"), (0, u "Lcom/example/rosterd/rosterd/query/Operator;"), (0, .fieldref 8 14), (0, .nameAndType 15 12), (0, u "GREATER_OR_EQUAL"), (0, .fieldref 8 17), (0, .nameAndType 18 12), (0, u "LESS_OR_EQUAL"), (0, .fieldref 8 20), (0, .nameAndType 21 12), (0, u "EQUAL"), (0, .fieldref 8 23), (0, .nameAndType 24 12), (0, u "GREATER"), (0, .fieldref 8 26), (0, .nameAndType 27 12), (0, u "LESS"), (0, .fieldref 8 29), (0, .nameAndType 30 12), (0, u "CONTAINS"), (0, .integer 2147483647), (0, .methodref 33 34), (0, .class_ 35), (0, .nameAndType 36 37), (0, u "com/example/rosterd/rosterd/query/OperatorOrdersPinLaw"), (0, u "pick"), (0, u "(I)Lcom/example/rosterd/rosterd/query/Operator;"), (0, .methodref 8 39), (0, .nameAndType 40 41), (0, u "symbol"), (0, u "()Ljava/lang/String;"), (0, .methodref 43 44), (0, .class_ 45), (0, .nameAndType 46 47), (0, u "java/lang/String"), (0, u "isEmpty"), (0, u "()Z"), (0, .methodref 43 49), (0, .nameAndType 50 51), (0, u "charAt"), (0, u "(I)C"), (0, .methodref 8 53), (0, .nameAndType 54 47), (0, u "orders"), (3, u "law"), (0, u "(I)Z")] 2

def k1m0 : Method := { name := "<init>", desc := "()V", sig := { parameters := [], returnType := none }, accessFlags := 1, code := none }
def k1c1 : Code := { maxStack := 2, maxLocals := 1, code := method_2_code, exceptionTable := #[], attributes := #[] }
def k1m1 : Method := { name := "pick", desc := "(I)Lcom/example/rosterd/rosterd/query/Operator;", sig := { parameters := [.int], returnType := some (.object "com/example/rosterd/rosterd/query/Operator") }, accessFlags := 10, code := some k1c1 }
def k1c2 : Code := { maxStack := 2, maxLocals := 6, code := code, exceptionTable := #[], attributes := #[] }
def k1m2 : Method := { name := "law", desc := "(I)Z", sig := { parameters := [.int], returnType := some .boolean }, accessFlags := 9, code := some k1c2 }
/-- com/example/rosterd/rosterd/query/OperatorOrdersPinLaw -/
def k1 : Class := { plain "com/example/rosterd/rosterd/query/OperatorOrdersPinLaw" (some 0) with
  accessFlags := 49
  interfaces := #[]
  cf := some (fileOf pool1 33 #[] #[{ accessFlags := 1, nameIndex := 5, descriptorIndex := 6, attributes := #[] }, { accessFlags := 10, nameIndex := 36, descriptorIndex := 37, attributes := #[] }, { accessFlags := 9, nameIndex := 58, descriptorIndex := 59, attributes := #[] }] 49 2 #[] #[])
  fields := #[]
  methods := #[k1m0, k1m1, k1m2]
  instanceTypes := #[]
  staticTypes := #[]
  resolved := Array.replicate 62 none
  statics := none }

def pool2 : Array CpInfo := pool [(1, .class_ 2), (0, u "java/lang/constant/Constable"), (0, .class_ 4), (0, u "java/lang/Object")] 6

/-- java/lang/constant/Constable -/
def k2 : Class := { plain "java/lang/constant/Constable" (some 0) with
  accessFlags := 1537
  interfaces := #[]
  cf := some (fileOf pool2 1 #[] #[] 1537 3 #[] #[])
  fields := #[]
  methods := #[]
  instanceTypes := #[]
  staticTypes := #[]
  resolved := Array.replicate 11 none
  statics := none }

def pool3 : Array CpInfo := pool [(1, .class_ 2), (0, u "java/lang/Comparable"), (0, .class_ 4), (0, u "java/lang/Object")] 7

/-- java/lang/Comparable -/
def k3 : Class := { plain "java/lang/Comparable" (some 0) with
  accessFlags := 1537
  interfaces := #[]
  cf := some (fileOf pool3 1 #[] #[] 1537 3 #[] #[])
  fields := #[]
  methods := #[]
  instanceTypes := #[]
  staticTypes := #[]
  resolved := Array.replicate 12 none
  statics := none }

def pool4 : Array CpInfo := pool [(1, .class_ 2), (0, u "java/io/Serializable"), (0, .class_ 4), (0, u "java/lang/Object")] 2

/-- java/io/Serializable -/
def k4 : Class := { plain "java/io/Serializable" (some 0) with
  accessFlags := 1537
  interfaces := #[]
  cf := some (fileOf pool4 1 #[] #[] 1537 3 #[] #[])
  fields := #[]
  methods := #[]
  instanceTypes := #[]
  staticTypes := #[]
  resolved := Array.replicate 7 none
  statics := none }

def pool5 : Array CpInfo := pool [(2, .class_ 4), (1, u "java/lang/Enum"), (0, u "name"), (0, u "Ljava/lang/String;"), (2, u "ordinal"), (0, u "I"), (1, .class_ 14), (1, u "java/lang/Object"), (4, u "hash"), (86, .class_ 108), (1, u "java/lang/Enum$EnumDesc"), (2, .class_ 112), (0, u "java/lang/constant/Constable"), (0, .class_ 114), (0, u "java/lang/Comparable"), (0, .class_ 116), (0, u "java/io/Serializable")] 87

/-- java/lang/Enum -/
def k5 : Class := { plain "java/lang/Enum" (some 0) with
  accessFlags := 1057
  interfaces := #[2, 3, 4]
  cf := some (fileOf pool5 2 #[.nestMembers #[106]] #[] 1057 12 #[111, 113, 115] #[{ accessFlags := 18, nameIndex := 5, descriptorIndex := 6, attributes := #[] }, { accessFlags := 18, nameIndex := 9, descriptorIndex := 10, attributes := #[] }, { accessFlags := 2, nameIndex := 19, descriptorIndex := 10, attributes := #[] }])
  fields := #[{ name := "name", type := (.object "java/lang/String"), accessFlags := 18, slot := 0, constantValue := 0 }, { name := "ordinal", type := .int, accessFlags := 18, slot := 1, constantValue := 0 }, { name := "hash", type := .int, accessFlags := 2, slot := 2, constantValue := 0 }]
  methods := #[]
  instanceTypes := #[(.object "java/lang/String"), .int, .int]
  staticTypes := #[]
  resolved := Array.replicate 204 none
  statics := none }

def pool6 : Array CpInfo := pool [(1, .class_ 2), (0, u "com/example/rosterd/rosterd/query/Operator"), (2, u "NOT_EQUAL"), (0, u "Lcom/example/rosterd/rosterd/query/Operator;"), (0, .fieldref 1 8), (0, .nameAndType 9 6), (0, u "GREATER_OR_EQUAL"), (0, .fieldref 1 11), (0, .nameAndType 12 6), (0, u "LESS_OR_EQUAL"), (2, u "EQUAL"), (0, .fieldref 1 17), (0, .nameAndType 18 6), (0, u "GREATER"), (0, .fieldref 1 20), (0, .nameAndType 21 6), (0, u "LESS"), (2, u "CONTAINS"), (2, u "$VALUES"), (0, u "[Lcom/example/rosterd/rosterd/query/Operator;"), (6, .class_ 37), (1, u "java/lang/Enum"), (6, .fieldref 1 45), (0, .nameAndType 46 47), (0, u "symbol"), (0, u "Ljava/lang/String;"), (84, u "FIRST_CHARACTERS"), (8, u "()Ljava/lang/String;"), (5, u "orders"), (0, u "()Z")] 21

def k6c0 : Code := { maxStack := 1, maxLocals := 1, code := prog_10_method_4_code, exceptionTable := #[], attributes := #[] }
def k6m0 : Method := { name := "symbol", desc := "()Ljava/lang/String;", sig := { parameters := [], returnType := some (.object "java/lang/String") }, accessFlags := 0, code := some k6c0 }
def k6c1 : Code := { maxStack := 2, maxLocals := 1, code := prog_10_method_7_code, exceptionTable := #[], attributes := #[] }
def k6m1 : Method := { name := "orders", desc := "()Z", sig := { parameters := [], returnType := some .boolean }, accessFlags := 0, code := some k6c1 }
/-- com/example/rosterd/rosterd/query/Operator -/
def k6 : Class := { plain "com/example/rosterd/rosterd/query/Operator" (some 5) with
  accessFlags := 16432
  interfaces := #[]
  cf := some (fileOf pool6 1 #[] #[{ accessFlags := 0, nameIndex := 46, descriptorIndex := 141, attributes := #[] }, { accessFlags := 0, nameIndex := 147, descriptorIndex := 148, attributes := #[] }] 16432 35 #[] #[{ accessFlags := 16409, nameIndex := 5, descriptorIndex := 6, attributes := #[] }, { accessFlags := 16409, nameIndex := 9, descriptorIndex := 6, attributes := #[] }, { accessFlags := 16409, nameIndex := 12, descriptorIndex := 6, attributes := #[] }, { accessFlags := 16409, nameIndex := 15, descriptorIndex := 6, attributes := #[] }, { accessFlags := 16409, nameIndex := 18, descriptorIndex := 6, attributes := #[] }, { accessFlags := 16409, nameIndex := 21, descriptorIndex := 6, attributes := #[] }, { accessFlags := 16409, nameIndex := 24, descriptorIndex := 6, attributes := #[] }, { accessFlags := 24, nameIndex := 132, descriptorIndex := 47, attributes := #[] }, { accessFlags := 18, nameIndex := 46, descriptorIndex := 47, attributes := #[] }, { accessFlags := 4122, nameIndex := 27, descriptorIndex := 28, attributes := #[] }])
  fields := #[{ name := "NOT_EQUAL", type := (.object "com/example/rosterd/rosterd/query/Operator"), accessFlags := 16409, slot := 0, constantValue := 0 }, { name := "GREATER_OR_EQUAL", type := (.object "com/example/rosterd/rosterd/query/Operator"), accessFlags := 16409, slot := 1, constantValue := 0 }, { name := "LESS_OR_EQUAL", type := (.object "com/example/rosterd/rosterd/query/Operator"), accessFlags := 16409, slot := 2, constantValue := 0 }, { name := "EQUAL", type := (.object "com/example/rosterd/rosterd/query/Operator"), accessFlags := 16409, slot := 3, constantValue := 0 }, { name := "GREATER", type := (.object "com/example/rosterd/rosterd/query/Operator"), accessFlags := 16409, slot := 4, constantValue := 0 }, { name := "LESS", type := (.object "com/example/rosterd/rosterd/query/Operator"), accessFlags := 16409, slot := 5, constantValue := 0 }, { name := "CONTAINS", type := (.object "com/example/rosterd/rosterd/query/Operator"), accessFlags := 16409, slot := 6, constantValue := 0 }, { name := "FIRST_CHARACTERS", type := (.object "java/lang/String"), accessFlags := 24, slot := 7, constantValue := 0 }, { name := "symbol", type := (.object "java/lang/String"), accessFlags := 18, slot := 3, constantValue := 0 }, { name := "$VALUES", type := (.array (.object "com/example/rosterd/rosterd/query/Operator")), accessFlags := 4122, slot := 8, constantValue := 0 }]
  methods := #[k6m0, k6m1]
  instanceTypes := #[(.object "java/lang/String"), .int, .int, (.object "java/lang/String")]
  staticTypes := #[(.object "com/example/rosterd/rosterd/query/Operator"), (.object "com/example/rosterd/rosterd/query/Operator"), (.object "com/example/rosterd/rosterd/query/Operator"), (.object "com/example/rosterd/rosterd/query/Operator"), (.object "com/example/rosterd/rosterd/query/Operator"), (.object "com/example/rosterd/rosterd/query/Operator"), (.object "com/example/rosterd/rosterd/query/Operator"), (.object "java/lang/String"), (.array (.object "com/example/rosterd/rosterd/query/Operator"))]
  resolved := Array.replicate 170 none
  statics := some 0 }

def pool7 : Array CpInfo := pool [(2, .class_ 4), (1, u "java/lang/CharSequence"), (42, .class_ 48), (0, u "java/lang/CharSequence$1CodePointIterator"), (10, .class_ 60), (0, u "java/lang/CharSequence$1CharIterator"), (5, .class_ 67), (0, u "java/lang/Object")] 63

/-- java/lang/CharSequence -/
def k7 : Class := { plain "java/lang/CharSequence" (some 0) with
  accessFlags := 1537
  interfaces := #[]
  cf := some (fileOf pool7 2 #[.nestMembers #[47, 59]] #[] 1537 66 #[] #[])
  fields := #[]
  methods := #[]
  instanceTypes := #[]
  staticTypes := #[]
  resolved := Array.replicate 131 none
  statics := none }

def pool8 : Array CpInfo := pool [(1, .class_ 2), (0, u "java/lang/constant/ConstantDesc"), (0, .class_ 4), (0, u "java/lang/Object")] 32

/-- java/lang/constant/ConstantDesc -/
def k8 : Class := { plain "java/lang/constant/ConstantDesc" (some 0) with
  accessFlags := 1537
  interfaces := #[]
  cf := some (fileOf pool8 1 #[] #[] 1537 3 #[] #[])
  fields := #[]
  methods := #[]
  instanceTypes := #[]
  staticTypes := #[]
  resolved := Array.replicate 37 none
  statics := none }

def pool9 : Array CpInfo := pool [(2, .class_ 4), (1, u "java/lang/Object"), (0, u "<init>"), (0, u "()V"), (2, .fieldref 10 11), (0, .class_ 12), (0, .nameAndType 13 14), (0, u "java/lang/String"), (0, u "value"), (0, u "[B"), (0, .fieldref 10 16), (0, .nameAndType 17 18), (0, u "coder"), (0, u "B"), (2, u "hash"), (0, u "I"), (2, u "hashIsZero"), (0, u "Z"), (11, .fieldref 10 39), (0, .nameAndType 40 26), (0, u "COMPACT_STRINGS"), (66, .class_ 109), (1, u "java/lang/StringLatin1"), (32, u "()Z"), (220, u "([BI)C"), (27, u "(II)V"), (35, u "(I)C"), (64, .methodref 10 493), (0, .nameAndType 494 142), (0, u "isLatin1"), (0, .methodref 107 496), (0, .nameAndType 497 363), (0, u "charAt"), (3, u "checkIndex"), (73, .class_ 576), (0, u "java/lang/CharSequence"), (22, u "CASE_INSENSITIVE_ORDER"), (0, u "Ljava/util/Comparator;"), (91, u "isEmpty"), (360, .fieldref 1054 1055), (0, .class_ 1056), (0, .nameAndType 1057 1058), (0, u "jdk/internal/util/Preconditions"), (0, u "SIOOBE_FORMATTER"), (0, u "Ljava/util/function/BiFunction;"), (0, .methodref 1054 1060), (0, .nameAndType 501 1061), (0, u "(IILjava/util/function/BiFunction;)I"), (39, u "serialPersistentFields"), (0, u "[Ljava/io/ObjectStreamField;"), (0, .class_ 1104), (0, u "java/lang/String$CaseInsensitiveComparator"), (1, .class_ 1107), (0, u "java/io/Serializable"), (0, .class_ 1109), (0, u "java/lang/Comparable"), (0, .class_ 1111), (0, u "java/lang/constant/Constable"), (0, .class_ 1113), (0, u "java/lang/constant/ConstantDesc"), (2, u "serialVersionUID"), (0, u "J"), (3, u "REPL"), (0, u "C"), (2, u "LATIN1"), (1, u "UTF16")] 323

def k9m0 : Method := { name := "<init>", desc := "()V", sig := { parameters := [], returnType := none }, accessFlags := 1, code := none }
def k9c1 : Code := { maxStack := 1, maxLocals := 1, code := jdk_42_method_55_code, exceptionTable := #[], attributes := #[] }
def k9m1 : Method := { name := "isEmpty", desc := "()Z", sig := { parameters := [], returnType := some .boolean }, accessFlags := 1, code := some k9c1 }
def k9c2 : Code := { maxStack := 2, maxLocals := 2, code := jdk_42_method_56_code, exceptionTable := #[], attributes := #[] }
def k9m2 : Method := { name := "charAt", desc := "(I)C", sig := { parameters := [.int], returnType := some .char }, accessFlags := 1, code := some k9c2 }
def k9c3 : Code := { maxStack := 1, maxLocals := 1, code := jdk_42_method_154_code, exceptionTable := #[], attributes := #[] }
def k9m3 : Method := { name := "isLatin1", desc := "()Z", sig := { parameters := [], returnType := some .boolean }, accessFlags := 0, code := some k9c3 }
def k9c4 : Code := { maxStack := 3, maxLocals := 2, code := jdk_42_method_155_code, exceptionTable := #[], attributes := #[] }
def k9m4 : Method := { name := "checkIndex", desc := "(II)V", sig := { parameters := [.int, .int], returnType := none }, accessFlags := 8, code := some k9c4 }
/-- java/lang/String -/
def k9 : Class := { plain "java/lang/String" (some 0) with
  accessFlags := 49
  interfaces := #[4, 3, 7, 2, 8]
  cf := some (fileOf pool9 10 #[.nestMembers #[1103]] #[{ accessFlags := 1, nameIndex := 5, descriptorIndex := 6, attributes := #[] }, { accessFlags := 1, nameIndex := 692, descriptorIndex := 142, attributes := #[] }, { accessFlags := 1, nameIndex := 497, descriptorIndex := 427, attributes := #[] }, { accessFlags := 0, nameIndex := 494, descriptorIndex := 142, attributes := #[] }, { accessFlags := 8, nameIndex := 501, descriptorIndex := 391, attributes := #[] }] 49 2 #[1106, 1108, 575, 1110, 1112] #[{ accessFlags := 18, nameIndex := 13, descriptorIndex := 14, attributes := #[] }, { accessFlags := 18, nameIndex := 17, descriptorIndex := 18, attributes := #[] }, { accessFlags := 2, nameIndex := 21, descriptorIndex := 22, attributes := #[] }, { accessFlags := 2, nameIndex := 25, descriptorIndex := 26, attributes := #[] }, { accessFlags := 26, nameIndex := 1116, descriptorIndex := 1117, attributes := #[] }, { accessFlags := 24, nameIndex := 40, descriptorIndex := 26, attributes := #[] }, { accessFlags := 26, nameIndex := 1101, descriptorIndex := 1102, attributes := #[] }, { accessFlags := 26, nameIndex := 1121, descriptorIndex := 1122, attributes := #[] }, { accessFlags := 25, nameIndex := 599, descriptorIndex := 600, attributes := #[] }, { accessFlags := 24, nameIndex := 1125, descriptorIndex := 18, attributes := #[] }, { accessFlags := 24, nameIndex := 1127, descriptorIndex := 18, attributes := #[] }])
  fields := #[{ name := "value", type := (.array .byte), accessFlags := 18, slot := 0, constantValue := 0 }, { name := "coder", type := .byte, accessFlags := 18, slot := 1, constantValue := 0 }, { name := "hash", type := .int, accessFlags := 2, slot := 2, constantValue := 0 }, { name := "hashIsZero", type := .boolean, accessFlags := 2, slot := 3, constantValue := 0 }, { name := "serialVersionUID", type := .long, accessFlags := 26, slot := 0, constantValue := 0 }, { name := "COMPACT_STRINGS", type := .boolean, accessFlags := 24, slot := 1, constantValue := 0 }, { name := "serialPersistentFields", type := (.array (.object "java/io/ObjectStreamField")), accessFlags := 26, slot := 2, constantValue := 0 }, { name := "REPL", type := .char, accessFlags := 26, slot := 3, constantValue := 0 }, { name := "CASE_INSENSITIVE_ORDER", type := (.object "java/util/Comparator"), accessFlags := 25, slot := 4, constantValue := 0 }, { name := "LATIN1", type := .byte, accessFlags := 24, slot := 5, constantValue := 0 }, { name := "UTF16", type := .byte, accessFlags := 24, slot := 6, constantValue := 0 }]
  methods := #[k9m0, k9m1, k9m2, k9m3, k9m4]
  instanceTypes := #[(.array .byte), .byte, .int, .boolean]
  staticTypes := #[.long, .boolean, (.array (.object "java/io/ObjectStreamField")), .char, (.object "java/util/Comparator"), .byte, .byte]
  resolved := Array.replicate 1451 none
  statics := some 1 }

def pool10 : Array CpInfo := pool [(1, .class_ 2), (0, u "java/lang/String"), (1, .class_ 6), (1, u "java/lang/Object"), (0, u "<init>"), (0, u "()V"), (0, .methodref 1 10), (0, .nameAndType 11 12), (0, u "checkIndex"), (0, u "(II)V"), (1, .class_ 16), (1, u "java/lang/StringLatin1"), (36, u "([BI)C"), (67, u "$assertionsDisabled"), (0, u "Z"), (98, .class_ 223), (1, u "java/lang/StringLatin1$LinesSpliterator"), (28, u "charAt"), (137, .class_ 391), (0, u "java/lang/StringLatin1$CharsSpliterator")] 3

def k10m0 : Method := { name := "<init>", desc := "()V", sig := { parameters := [], returnType := none }, accessFlags := 0, code := none }
def k10c1 : Code := { maxStack := 2, maxLocals := 2, code := jdk_43_method_2_code, exceptionTable := #[], attributes := #[] }
def k10m1 : Method := { name := "charAt", desc := "([BI)C", sig := { parameters := [(.array .byte), .int], returnType := some .char }, accessFlags := 9, code := some k10c1 }
/-- java/lang/StringLatin1 -/
def k10 : Class := { plain "java/lang/StringLatin1" (some 0) with
  accessFlags := 48
  interfaces := #[]
  cf := some (fileOf pool10 14 #[.nestMembers #[390, 221]] #[{ accessFlags := 0, nameIndex := 7, descriptorIndex := 8, attributes := #[] }, { accessFlags := 9, nameIndex := 252, descriptorIndex := 53, attributes := #[] }] 48 4 #[] #[{ accessFlags := 4120, nameIndex := 121, descriptorIndex := 122, attributes := #[] }])
  fields := #[{ name := "$assertionsDisabled", type := .boolean, accessFlags := 4120, slot := 0, constantValue := 0 }]
  methods := #[k10m0, k10m1]
  instanceTypes := #[]
  staticTypes := #[.boolean]
  resolved := Array.replicate 395 none
  statics := none }

def pool11 : Array CpInfo := pool [(2, .class_ 4), (1, u "java/lang/Object"), (0, u "<init>"), (0, u "()V"), (17, .class_ 26), (1, u "jdk/internal/util/Preconditions"), (6, u "checkIndex"), (21, .class_ 56), (0, u "jdk/internal/util/Preconditions$4"), (57, .class_ 115), (0, u "jdk/internal/util/Preconditions$1"), (7, u "SIOOBE_FORMATTER"), (0, u "Ljava/util/function/BiFunction;"), (0, .class_ 126), (0, u "jdk/internal/util/Preconditions$2"), (3, u "AIOOBE_FORMATTER"), (0, .class_ 132), (0, u "jdk/internal/util/Preconditions$3"), (3, u "IOOBE_FORMATTER"), (41, u "(IILjava/util/function/BiFunction;)I")] 15

def k11m0 : Method := { name := "<init>", desc := "()V", sig := { parameters := [], returnType := none }, accessFlags := 1, code := none }
def k11c1 : Code := { maxStack := 3, maxLocals := 3, code := jdk_41_method_11_code, exceptionTable := #[], attributes := #[] }
def k11m1 : Method := { name := "checkIndex", desc := "(IILjava/util/function/BiFunction;)I", sig := { parameters := [.int, .int, (.object "java/util/function/BiFunction")], returnType := some .int }, accessFlags := 9, code := some k11c1 }
/-- jdk/internal/util/Preconditions -/
def k11 : Class := { plain "jdk/internal/util/Preconditions" (some 0) with
  accessFlags := 33
  interfaces := #[]
  cf := some (fileOf pool11 24 #[.nestMembers #[55, 131, 125, 114]] #[{ accessFlags := 1, nameIndex := 5, descriptorIndex := 6, attributes := #[] }, { accessFlags := 9, nameIndex := 33, descriptorIndex := 178, attributes := #[] }] 33 2 #[] #[{ accessFlags := 25, nameIndex := 123, descriptorIndex := 124, attributes := #[] }, { accessFlags := 25, nameIndex := 130, descriptorIndex := 124, attributes := #[] }, { accessFlags := 25, nameIndex := 136, descriptorIndex := 124, attributes := #[] }])
  fields := #[{ name := "SIOOBE_FORMATTER", type := (.object "java/util/function/BiFunction"), accessFlags := 25, slot := 0, constantValue := 0 }, { name := "AIOOBE_FORMATTER", type := (.object "java/util/function/BiFunction"), accessFlags := 25, slot := 1, constantValue := 0 }, { name := "IOOBE_FORMATTER", type := (.object "java/util/function/BiFunction"), accessFlags := 25, slot := 2, constantValue := 0 }]
  methods := #[k11m0, k11m1]
  instanceTypes := #[]
  staticTypes := #[(.object "java/util/function/BiFunction"), (.object "java/util/function/BiFunction"), (.object "java/util/function/BiFunction")]
  resolved := Array.replicate 194 none
  statics := some 2 }

def pool12 : Array CpInfo := pool [(9, u "<init>"), (6, .class_ 18), (1, u "java/lang/Object"), (0, u "()V"), (1, .class_ 23), (1, u "jdk/internal/util/ArraysSupport"), (0, u "LOG2_ARRAY_LONG_INDEX_SCALE"), (0, u "I"), (2, u "U"), (0, u "Ljdk/internal/misc/Unsafe;"), (8, u "BIG_ENDIAN"), (0, u "Z"), (8, u "LOG2_BYTE_BIT_SIZE"), (4, u "LOG2_ARRAY_INT_INDEX_SCALE"), (54, u "JLA"), (0, u "Ljdk/internal/access/JavaLangAccess;"), (11, u "LOG2_ARRAY_BOOLEAN_INDEX_SCALE"), (9, u "LOG2_ARRAY_BYTE_INDEX_SCALE"), (5, u "LOG2_ARRAY_CHAR_INDEX_SCALE"), (5, u "LOG2_ARRAY_SHORT_INDEX_SCALE"), (18, u "LOG2_ARRAY_FLOAT_INDEX_SCALE"), (24, u "LOG2_ARRAY_DOUBLE_INDEX_SCALE"), (89, u "T_BOOLEAN"), (2, u "T_CHAR"), (1, u "T_FLOAT"), (1, u "T_DOUBLE"), (1, u "T_BYTE"), (1, u "T_SHORT"), (1, u "T_INT"), (1, u "T_LONG"), (1, u "SOFT_MAX_ARRAY_LENGTH")] 83

def k12m0 : Method := { name := "<init>", desc := "()V", sig := { parameters := [], returnType := none }, accessFlags := 2, code := none }
/-- jdk/internal/util/ArraysSupport -/
def k12 : Class := { plain "jdk/internal/util/ArraysSupport" (some 0) with
  accessFlags := 33
  interfaces := #[]
  cf := some (fileOf pool12 21 #[] #[{ accessFlags := 2, nameIndex := 9, descriptorIndex := 19, attributes := #[] }] 33 16 #[] #[{ accessFlags := 24, nameIndex := 28, descriptorIndex := 29, attributes := #[] }, { accessFlags := 26, nameIndex := 38, descriptorIndex := 39, attributes := #[] }, { accessFlags := 25, nameIndex := 121, descriptorIndex := 25, attributes := #[] }, { accessFlags := 25, nameIndex := 131, descriptorIndex := 25, attributes := #[] }, { accessFlags := 25, nameIndex := 137, descriptorIndex := 25, attributes := #[] }, { accessFlags := 25, nameIndex := 143, descriptorIndex := 25, attributes := #[] }, { accessFlags := 25, nameIndex := 53, descriptorIndex := 25, attributes := #[] }, { accessFlags := 25, nameIndex := 24, descriptorIndex := 25, attributes := #[] }, { accessFlags := 25, nameIndex := 162, descriptorIndex := 25, attributes := #[] }, { accessFlags := 25, nameIndex := 187, descriptorIndex := 25, attributes := #[] }, { accessFlags := 26, nameIndex := 48, descriptorIndex := 25, attributes := #[] }, { accessFlags := 25, nameIndex := 277, descriptorIndex := 25, attributes := #[] }, { accessFlags := 25, nameIndex := 280, descriptorIndex := 25, attributes := #[] }, { accessFlags := 25, nameIndex := 282, descriptorIndex := 25, attributes := #[] }, { accessFlags := 25, nameIndex := 284, descriptorIndex := 25, attributes := #[] }, { accessFlags := 25, nameIndex := 286, descriptorIndex := 25, attributes := #[] }, { accessFlags := 25, nameIndex := 288, descriptorIndex := 25, attributes := #[] }, { accessFlags := 25, nameIndex := 290, descriptorIndex := 25, attributes := #[] }, { accessFlags := 25, nameIndex := 292, descriptorIndex := 25, attributes := #[] }, { accessFlags := 26, nameIndex := 108, descriptorIndex := 109, attributes := #[] }, { accessFlags := 25, nameIndex := 294, descriptorIndex := 25, attributes := #[] }])
  fields := #[{ name := "U", type := (.object "jdk/internal/misc/Unsafe"), accessFlags := 24, slot := 0, constantValue := 0 }, { name := "BIG_ENDIAN", type := .boolean, accessFlags := 26, slot := 1, constantValue := 0 }, { name := "LOG2_ARRAY_BOOLEAN_INDEX_SCALE", type := .int, accessFlags := 25, slot := 2, constantValue := 0 }, { name := "LOG2_ARRAY_BYTE_INDEX_SCALE", type := .int, accessFlags := 25, slot := 3, constantValue := 0 }, { name := "LOG2_ARRAY_CHAR_INDEX_SCALE", type := .int, accessFlags := 25, slot := 4, constantValue := 0 }, { name := "LOG2_ARRAY_SHORT_INDEX_SCALE", type := .int, accessFlags := 25, slot := 5, constantValue := 0 }, { name := "LOG2_ARRAY_INT_INDEX_SCALE", type := .int, accessFlags := 25, slot := 6, constantValue := 0 }, { name := "LOG2_ARRAY_LONG_INDEX_SCALE", type := .int, accessFlags := 25, slot := 7, constantValue := 0 }, { name := "LOG2_ARRAY_FLOAT_INDEX_SCALE", type := .int, accessFlags := 25, slot := 8, constantValue := 0 }, { name := "LOG2_ARRAY_DOUBLE_INDEX_SCALE", type := .int, accessFlags := 25, slot := 9, constantValue := 0 }, { name := "LOG2_BYTE_BIT_SIZE", type := .int, accessFlags := 26, slot := 10, constantValue := 0 }, { name := "T_BOOLEAN", type := .int, accessFlags := 25, slot := 11, constantValue := 0 }, { name := "T_CHAR", type := .int, accessFlags := 25, slot := 12, constantValue := 0 }, { name := "T_FLOAT", type := .int, accessFlags := 25, slot := 13, constantValue := 0 }, { name := "T_DOUBLE", type := .int, accessFlags := 25, slot := 14, constantValue := 0 }, { name := "T_BYTE", type := .int, accessFlags := 25, slot := 15, constantValue := 0 }, { name := "T_SHORT", type := .int, accessFlags := 25, slot := 16, constantValue := 0 }, { name := "T_INT", type := .int, accessFlags := 25, slot := 17, constantValue := 0 }, { name := "T_LONG", type := .int, accessFlags := 25, slot := 18, constantValue := 0 }, { name := "JLA", type := (.object "jdk/internal/access/JavaLangAccess"), accessFlags := 26, slot := 19, constantValue := 0 }, { name := "SOFT_MAX_ARRAY_LENGTH", type := .int, accessFlags := 25, slot := 20, constantValue := 0 }]
  methods := #[k12m0]
  instanceTypes := #[]
  staticTypes := #[(.object "jdk/internal/misc/Unsafe"), .boolean, .int, .int, .int, .int, .int, .int, .int, .int, .int, .int, .int, .int, .int, .int, .int, .int, .int, (.object "jdk/internal/access/JavaLangAccess"), .int]
  resolved := Array.replicate 378 none
  statics := none }

def pool13 : Array CpInfo := pool [(1, u "java/lang/Cloneable"), (0, .class_ 1), (0, u "java/lang/Object"), (0, .class_ 3)] 3

/-- java/lang/Cloneable -/
def k13 : Class := { plain "java/lang/Cloneable" (some 0) with
  accessFlags := 1537
  interfaces := #[]
  cf := some (fileOf pool13 2 #[] #[] 1537 4 #[] #[])
  fields := #[]
  methods := #[]
  instanceTypes := #[]
  staticTypes := #[]
  resolved := Array.replicate 8 none
  statics := none }

/-- the primitive byte -/
def k14 : Class := { plain "byte" none with kind := .primitive 'B', accessFlags := 0x411 }
/-- [B -/
def k15 : Class := { plain "[B" (some 0) with kind := .array 14 .byte, interfaces := #[13, 4], accessFlags := 1041 }

/-- the primitive int -/
def k16 : Class := { plain "int" none with kind := .primitive 'I', accessFlags := 0x411 }
/-- [I -/
def k17 : Class := { plain "[I" (some 0) with kind := .array 16 .int, interfaces := #[13, 4], accessFlags := 1041 }

def heap : Heap := #[{ cls := 6, slots := #[.ref 3, .ref 4, .ref 5, .ref 6, .ref 7, .ref 8, .ref 9, .null, .null], vm := .statics 6 },
  { cls := 9, slots := #[.long 0, .int 1, .null, .int 0, .null, .int 0, .int 0], vm := .statics 9 },
  { cls := 11, slots := #[.null, .null, .null], vm := .statics 11 },
  { cls := 6, slots := #[.null, .int 0, .int 0, .ref 10], vm := .none },
  { cls := 6, slots := #[.null, .int 1, .int 0, .ref 11], vm := .none },
  { cls := 6, slots := #[.null, .int 2, .int 0, .ref 12], vm := .none },
  { cls := 6, slots := #[.null, .int 3, .int 0, .ref 13], vm := .none },
  { cls := 6, slots := #[.null, .int 4, .int 0, .ref 14], vm := .none },
  { cls := 6, slots := #[.null, .int 5, .int 0, .ref 15], vm := .none },
  { cls := 6, slots := #[.null, .int 6, .int 0, .ref 16], vm := .none },
  { cls := 9, slots := #[.ref 17, .int 0, .int 0, .int 0], vm := .none },
  { cls := 9, slots := #[.ref 18, .int 0, .int 0, .int 0], vm := .none },
  { cls := 9, slots := #[.ref 19, .int 0, .int 0, .int 0], vm := .none },
  { cls := 9, slots := #[.ref 20, .int 0, .int 0, .int 0], vm := .none },
  { cls := 9, slots := #[.ref 21, .int 0, .int 0, .int 0], vm := .none },
  { cls := 9, slots := #[.ref 22, .int 0, .int 0, .int 0], vm := .none },
  { cls := 9, slots := #[.ref 23, .int 0, .int 0, .int 0], vm := .none },
  { cls := 15, slots := #[.int 33, .int 61], vm := .none },
  { cls := 15, slots := #[.int 62, .int 61], vm := .none },
  { cls := 15, slots := #[.int 60, .int 61], vm := .none },
  { cls := 15, slots := #[.int 61], vm := .none },
  { cls := 15, slots := #[.int 62], vm := .none },
  { cls := 15, slots := #[.int 60], vm := .none },
  { cls := 15, slots := #[.int 126], vm := .none }]
def classes : Array Class := #[k0, k1, k2, k3, k4, k5, k6, k7, k8, k9, k10, k11, k12, k13, k14, k15, k16, k17]
def interned : List (Array UInt16 × Addr) := []
def slotsUsed : Nat := 85
def theMethod : MethodId := ⟨1, 2⟩
def args0 : Array Value := #[.int 5]
def aboutOver (below : List Frame) : State where
  vm := { classes := classes, interned := interned.toArray }
  heap := heap
  slotsUsed := slotsUsed
  threads := #[{ frames := .invoking theMethod args0 :: below }]
def below0 : List Frame := [.native { method := ⟨0, 0⟩, args := #[] }]
def about1 : State := aboutOver below0
def p0 : Program := .bare "" "" ""
def e0 : Env := launch0.env 0 0 0
theorem w_frames : about1.frames = Frame.invoking theMethod args0 :: below0 := rfl
set_option maxRecDepth 65536 in
theorem w_args : argsFit about1.vm theMethod args0 = true := by decide +kernel
set_option maxRecDepth 65536 in
theorem w_heap : heapFits about1 = true := by decide +kernel
set_option maxRecDepth 65536 in
theorem w_runnable : about1.curStatus? = some .runnable := by decide +kernel
set_option maxRecDepth 65536 in
theorem w_alone : about1.alone = true := by decide +kernel
set_option maxRecDepth 65536 in
theorem w_named : about1.methodNamed? x = some theMethod := by decide +kernel
set_option maxRecDepth 65536 in
theorem w_hears : about1.hears theMethod below0 = true := by decide +kernel
set_option maxRecDepth 65536 in
theorem w_ripe : about1.ripe theMethod args0 below0 = true := by decide +kernel
theorem w_running : about1.status = .running := rfl
set_option maxRecDepth 65536 in
theorem w_room : about1.hasRoom e0.platform room_1 = true :=
  launch0.hasRoom_least _ room_1 (by decide +kernel) (by decide +kernel) (by decide +kernel) (by decide +kernel) (by decide +kernel) (by decide +kernel)
theorem allAtoms_all (ts : List Jvm.Cond) (a : Array Jvm.Value) (st : Jvm.State) : (allAtoms ts).before a st = ts.all (fun c => c.before a st) := by
  induction ts with
  | nil => rfl
  | cons c t ih =>
    show (Jvm.Cond.and c (allAtoms t)).before a st = _
    rw [Jvm.Cond.before_and, ih, List.all_cons]
def words1 : List Jvm.Cond := Jvm.Cond.code x code maxLocals ret :: tables_1
/-- a 'code' word, met by the world's own term for the bytes: nothing is compared byte by byte -/
theorem code_word {y : MethodName} {bytes : ByteArray} {mx : Nat} {rt : Option FieldType} {a : Array Value} {s : State} {m : MethodId} {meth : Method} {c : Code} (h1 : s.methodNamed? y = some m) (h2 : s.vm.method? m = some meth) (h3 : meth.code = some c) (h4 : c.code = bytes)
    (h5 : (c.maxLocals == mx && c.exceptionTable.isEmpty && decide (c.maxStack ≤ mostOperands) && decide (meth.sig.returnType = rt) && !meth.locks && decide (parseMethodDescriptor y.desc = some meth.sig)) = true) : (Jvm.Cond.code y bytes mx rt).before a s = true := by
  simp only [Bool.and_eq_true, beq_iff_eq, Bool.not_eq_true', decide_eq_true_eq] at h5
  obtain ⟨⟨⟨⟨⟨g1, g2⟩, g3⟩, g4⟩, g5⟩, g6⟩ := h5
  simp [Cond.before, Cond.holds, Cond.value, h1, h2, h3, h4, g1, g2, g3, g4, g5, g6]
def isCode : Jvm.Cond → Bool
  | .code _ _ _ _ => true
  | _ => false
theorem all_split {L : List Jvm.Cond} {P : Jvm.Cond → Bool} (h1 : L.all (fun c => isCode c || P c) = true) (h2 : ∀ c ∈ L.filter isCode, P c = true) : L.all P = true := by
  refine List.all_eq_true.mpr fun c hc => ?_
  have h := List.all_eq_true.mp h1 c hc
  rcases Bool.eq_false_or_eq_true (isCode c) with hi | hi
  · exact h2 c (List.mem_filter.mpr ⟨hc, hi⟩)
  · simpa [hi] using h
set_option maxRecDepth 65536 in
theorem w_c0 : (Jvm.Cond.code x code maxLocals ret).before args0 about1 = true := code_word (m := ⟨1, 2⟩) (meth := k1m2) (c := k1c2) (by decide +kernel) rfl rfl rfl (by decide +kernel)
set_option maxRecDepth 65536 in
theorem w_c1 : (Jvm.Cond.code ({ cls := "com/example/rosterd/rosterd/query/OperatorOrdersPinLaw", name := "pick", desc := "(I)Lcom/example/rosterd/rosterd/query/Operator;" } : Jvm.MethodName) method_2_code (1 : Nat) (Option.some (Jvm.ClassFile.FieldType.object "com/example/rosterd/rosterd/query/Operator"))).before args0 about1 = true := code_word (m := ⟨1, 1⟩) (meth := k1m1) (c := k1c1) (by decide +kernel) rfl rfl rfl (by decide +kernel)
set_option maxRecDepth 65536 in
theorem w_c2 : (Jvm.Cond.code ({ cls := "com/example/rosterd/rosterd/query/Operator", name := "symbol", desc := "()Ljava/lang/String;" } : Jvm.MethodName) prog_10_method_4_code (1 : Nat) (Option.some (Jvm.ClassFile.FieldType.object "java/lang/String"))).before args0 about1 = true := code_word (m := ⟨6, 0⟩) (meth := k6m0) (c := k6c0) (by decide +kernel) rfl rfl rfl (by decide +kernel)
set_option maxRecDepth 65536 in
theorem w_c3 : (Jvm.Cond.code ({ cls := "java/lang/String", name := "isEmpty", desc := "()Z" } : Jvm.MethodName) jdk_42_method_55_code (1 : Nat) (Option.some Jvm.ClassFile.FieldType.boolean)).before args0 about1 = true := code_word (m := ⟨9, 1⟩) (meth := k9m1) (c := k9c1) (by decide +kernel) rfl rfl rfl (by decide +kernel)
set_option maxRecDepth 65536 in
theorem w_c4 : (Jvm.Cond.code ({ cls := "java/lang/String", name := "charAt", desc := "(I)C" } : Jvm.MethodName) jdk_42_method_56_code (2 : Nat) (Option.some Jvm.ClassFile.FieldType.char)).before args0 about1 = true := code_word (m := ⟨9, 2⟩) (meth := k9m2) (c := k9c2) (by decide +kernel) rfl rfl rfl (by decide +kernel)
set_option maxRecDepth 65536 in
theorem w_c5 : (Jvm.Cond.code ({ cls := "java/lang/String", name := "isLatin1", desc := "()Z" } : Jvm.MethodName) jdk_42_method_154_code (1 : Nat) (Option.some Jvm.ClassFile.FieldType.boolean)).before args0 about1 = true := code_word (m := ⟨9, 3⟩) (meth := k9m3) (c := k9c3) (by decide +kernel) rfl rfl rfl (by decide +kernel)
set_option maxRecDepth 65536 in
theorem w_c6 : (Jvm.Cond.code ({ cls := "java/lang/StringLatin1", name := "charAt", desc := "([BI)C" } : Jvm.MethodName) jdk_43_method_2_code (2 : Nat) (Option.some Jvm.ClassFile.FieldType.char)).before args0 about1 = true := code_word (m := ⟨10, 1⟩) (meth := k10m1) (c := k10c1) (by decide +kernel) rfl rfl rfl (by decide +kernel)
set_option maxRecDepth 65536 in
theorem w_c7 : (Jvm.Cond.code ({ cls := "java/lang/String", name := "checkIndex", desc := "(II)V" } : Jvm.MethodName) jdk_42_method_155_code (2 : Nat) (Option.none : Option Jvm.ClassFile.FieldType)).before args0 about1 = true := code_word (m := ⟨9, 4⟩) (meth := k9m4) (c := k9c4) (by decide +kernel) rfl rfl rfl (by decide +kernel)
set_option maxRecDepth 65536 in
theorem w_c8 : (Jvm.Cond.code ({ cls := "jdk/internal/util/Preconditions", name := "checkIndex", desc := "(IILjava/util/function/BiFunction;)I" } : Jvm.MethodName) jdk_41_method_11_code (3 : Nat) (Option.some Jvm.ClassFile.FieldType.int)).before args0 about1 = true := code_word (m := ⟨11, 1⟩) (meth := k11m1) (c := k11c1) (by decide +kernel) rfl rfl rfl (by decide +kernel)
set_option maxRecDepth 65536 in
theorem w_c9 : (Jvm.Cond.code ({ cls := "com/example/rosterd/rosterd/query/Operator", name := "orders", desc := "()Z" } : Jvm.MethodName) prog_10_method_7_code (1 : Nat) (Option.some Jvm.ClassFile.FieldType.boolean)).before args0 about1 = true := code_word (m := ⟨6, 1⟩) (meth := k6m1) (c := k6c1) (by decide +kernel) rfl rfl rfl (by decide +kernel)
def codes1 : List Jvm.Cond := [Jvm.Cond.code x code maxLocals ret, Jvm.Cond.code ({ cls := "com/example/rosterd/rosterd/query/OperatorOrdersPinLaw", name := "pick", desc := "(I)Lcom/example/rosterd/rosterd/query/Operator;" } : Jvm.MethodName) method_2_code (1 : Nat) (Option.some (Jvm.ClassFile.FieldType.object "com/example/rosterd/rosterd/query/Operator")), Jvm.Cond.code ({ cls := "com/example/rosterd/rosterd/query/Operator", name := "symbol", desc := "()Ljava/lang/String;" } : Jvm.MethodName) prog_10_method_4_code (1 : Nat) (Option.some (Jvm.ClassFile.FieldType.object "java/lang/String")), Jvm.Cond.code ({ cls := "java/lang/String", name := "isEmpty", desc := "()Z" } : Jvm.MethodName) jdk_42_method_55_code (1 : Nat) (Option.some Jvm.ClassFile.FieldType.boolean), Jvm.Cond.code ({ cls := "java/lang/String", name := "charAt", desc := "(I)C" } : Jvm.MethodName) jdk_42_method_56_code (2 : Nat) (Option.some Jvm.ClassFile.FieldType.char), Jvm.Cond.code ({ cls := "java/lang/String", name := "isLatin1", desc := "()Z" } : Jvm.MethodName) jdk_42_method_154_code (1 : Nat) (Option.some Jvm.ClassFile.FieldType.boolean), Jvm.Cond.code ({ cls := "java/lang/StringLatin1", name := "charAt", desc := "([BI)C" } : Jvm.MethodName) jdk_43_method_2_code (2 : Nat) (Option.some Jvm.ClassFile.FieldType.char), Jvm.Cond.code ({ cls := "java/lang/String", name := "checkIndex", desc := "(II)V" } : Jvm.MethodName) jdk_42_method_155_code (2 : Nat) (Option.none : Option Jvm.ClassFile.FieldType), Jvm.Cond.code ({ cls := "jdk/internal/util/Preconditions", name := "checkIndex", desc := "(IILjava/util/function/BiFunction;)I" } : Jvm.MethodName) jdk_41_method_11_code (3 : Nat) (Option.some Jvm.ClassFile.FieldType.int), Jvm.Cond.code ({ cls := "com/example/rosterd/rosterd/query/Operator", name := "orders", desc := "()Z" } : Jvm.MethodName) prog_10_method_7_code (1 : Nat) (Option.some Jvm.ClassFile.FieldType.boolean)]
set_option maxRecDepth 65536 in
theorem codes_eq : words1.filter isCode = codes1 := rfl
theorem w_codes : ∀ c ∈ words1.filter isCode, c.before args0 about1 = true := by
  rw [codes_eq]
  intro c hc
  simp only [codes1, List.mem_cons, List.not_mem_nil, or_false] at hc
  rcases hc with rfl | rfl | rfl | rfl | rfl | rfl | rfl | rfl | rfl | rfl
  · exact w_c0
  · exact w_c1
  · exact w_c2
  · exact w_c3
  · exact w_c4
  · exact w_c5
  · exact w_c6
  · exact w_c7
  · exact w_c8
  · exact w_c9
set_option maxRecDepth 65536 in
theorem w_t1 : (words1.take 24).all (fun c => isCode c || c.before args0 about1) = true := by decide +kernel
set_option maxRecDepth 65536 in
theorem w_t2 : ((words1.drop 24).take 24).all (fun c => isCode c || c.before args0 about1) = true := by decide +kernel
set_option maxRecDepth 65536 in
theorem w_t3 : ((words1.drop 24).drop 24).all (fun c => isCode c || c.before args0 about1) = true := by decide +kernel
theorem w_tables : (allAtoms (Jvm.Cond.code x code maxLocals ret :: tables_1)).before args0 about1 = true := by
  rw [allAtoms_all]
  show words1.all (fun c => c.before args0 about1) = true
  refine all_split ?_ w_codes
  rw [← List.take_append_drop 24 words1, List.all_append, w_t1, ← List.take_append_drop 24 (words1.drop 24), List.all_append, w_t2, w_t3]
  rfl
set_option maxRecDepth 65536 in
theorem w_rest : rest_1_c.before args0 about1 = true := by decide +kernel
set_option maxRecDepth 65536 in
theorem w_case : (Jvm.Cond.and given_1 narrow_1).before args0 about1 = true := by decide +kernel
theorem w_applies : (headSpec (Jvm.Cond.code x code maxLocals ret :: tables_1) room_1).applies x e0.platform about1 = true :=
  (Spec.applies_iff w_frames).mpr ⟨w_running, w_runnable, w_alone, w_named, w_hears, w_ripe, w_room, w_tables⟩
theorem atStart : AtStart classFile x code maxLocals ret World_1 tables_1 room_1 Calls_1 rest_1 Pre_1 launch0 p0 e0 about1 theMethod args0 below0 :=
  ⟨lists_1, trivial, launch0.admits_env _ _ _, launch0.least_env, fairChoices_fair.cas, fairChoices_fair.clock, w_frames, w_args, w_heap, w_applies, trivial, w_rest, w_case⟩
end start1
theorem witness_1 : WitnessClaimed_1 := ⟨start1.p0, start1.e0, start1.about1, start1.theMethod, start1.args0, start1.below0, start1.atStart⟩
end Jvm.Pilot.@@N@@
