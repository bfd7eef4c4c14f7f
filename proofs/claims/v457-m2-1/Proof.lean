import JvmDerived
import JvmDerived.Pilot.@@N@@Statement
import JvmDerived.Pilot.@@N@@Code
set_option linter.unusedVariables false
set_option linter.unusedSimpArgs false
@@BLOCK:NumsL.lean.txt@@
namespace Jvm.OwnK
open Sem ClassFile Op Lib Jvm.Free Jvm.Stand Jvm.LawKit Jvm.RoadKit
section Base
variable {p : Program} {l : Launch} {e : Env} {R : Room} {s : State} {m : MethodId} {args : Array Value} {below : List Frame} {meth : Method} {c : Code} {T T' : State} {locs : List Loc} {cells slots : Nat} {Q : Option Value → Heap → List Loc → Prop} {kc ks : Nat} {g g' : JFrame} {Z : State} {a0 : Array Value} {h : Heap}
/-- the walk's goal: from T with g on top the invocation comes to its end, with Q -/
def Go (p : Program) (e : Env) (below : List Frame) (s T : State) (g : JFrame) (Q : Option Value → Heap → List Loc → Prop) (kc ks : Nat) : Prop :=
  ∃ s₂ o, Steps p.tables e below (T.setTop g) s₂ ∧ s₂.status = .running ∧ Ended s₂ below o ∧ ∃ v L, o = .returned v ∧ Q v s₂.heap L ∧ FrameEnd s o s₂ L kc ks
theorem Go.step (st : ∀ target, Steps p.tables e below (T'.setTop g') target → Steps p.tables e below (T.setTop g) target) (k : Go p e below s T' g' Q kc ks) : Go p e below s T g Q kc ks := by
  obtain ⟨s₂, o, h1, r⟩ := k
  exact ⟨s₂, o, st _ h1, r⟩
theorem Go.trans (st : Steps p.tables e below (T.setTop g) (T'.setTop g')) (k : Go p e below s T' g' Q kc ks) : Go p e below s T g Q kc ks := by
  obtain ⟨s₂, o, h1, r⟩ := k
  exact ⟨s₂, o, st.trans h1, r⟩
theorem Go.cast (q : g = g') (k : Go p e below s T g' Q kc ks) : Go p e below s T g Q kc ks := q ▸ k
theorem Go.out (X : Stand p l e R s m args below meth c T locs cells slots) (hlk : meth.locks = false) {v : Option Value} (hv : meth.sig.returnType = none → v = none) (hQ : Q v T.heap locs) (hc : cells ≤ kc) (hs : slots ≤ ks)
    (st : ∀ fs : List Frame, (∀ (f : JFrame) (acts : List Action), f.method = m → f.locked = none → f.entered = [] → (doReturn e (T.setTop f) acts v).1 = T.setFrames fs) → Steps p.tables e below (T.setTop g) (T.setFrames fs)) : Go p e below s T g Q kc ks := by
  obtain ⟨fs, hr, hrun, hended, hW, hsame⟩ := X.leave hv hlk
  exact ⟨_, _, st fs hr, hrun, hended, _, _, rfl, hQ, ⟨_, rfl⟩, hW, hsame.mono hc hs⟩
theorem Go.ret0 (X : Stand p l e R s m args below meth c T locs cells slots) (hx : p.tables.exec = Jvm.exec) (hlk : meth.locks = false) {pc : Nat} {Ls : Array Slot} (hret : meth.sig.returnType = none) (hd : decode c.code pc = .ok (.return_, 1)) (hc : cells ≤ kc) (hs : slots ≤ ks) (hQ : Q none T.heap locs) : Go p e below s T (mkF m pc Ls []) Q kc ks :=
  Go.out X hlk (fun _ => rfl) hQ hc hs fun fs hr => X.returnOut hx hret hd hr
theorem Go.retV (X : Stand p l e R s m args below meth c T locs cells slots) (hx : p.tables.exec = Jvm.exec) (hlk : meth.locks = false) {pc : Nat} {Ls : Array Slot} {w : Value} {t : FieldType} {i : Instr} {rest : List Value} (hret : meth.sig.returnType = some t) (hn : narrow t w = w)
    (hi : (i = .ireturn ∧ (t = .int ∨ t = .boolean ∨ t = .byte ∨ t = .char ∨ t = .short) ∧ ∃ z, w = .int z) ∨ (i = .lreturn ∧ t = .long ∧ ∃ z, w = .long z) ∨ (i = .dreturn ∧ t = .double ∧ ∃ z, w = .double z) ∨ (i = .freturn ∧ t = .float ∧ ∃ z, w = .float z) ∨ (i = .areturn ∧ t.isReference = true ∧ w.isRef = true))
    (hd : decode c.code pc = .ok (i, 1)) (hc : cells ≤ kc) (hs : slots ≤ ks) (hQ : Q (some w) T.heap locs) : Go p e below s T (mkF m pc Ls (w :: rest)) Q kc ks :=
  Go.out X hlk (fun q => by rw [hret] at q; cases q) hQ hc hs fun fs hr => retOut X hx hret hn hi hd hr
theorem Go.retI (X : Stand p l e R s m args below meth c T locs cells slots) (hx : p.tables.exec = Jvm.exec) (hlk : meth.locks = false) {pc : Nat} {Ls : Array Slot} {z : Int32} {rest : List Value} (hret : meth.sig.returnType = some .int)
    (hd : decode c.code pc = .ok (.ireturn, 1)) (hc : cells ≤ kc) (hs : slots ≤ ks) (hQ : Q (some (.int z)) T.heap locs) : Go p e below s T (mkF m pc Ls (.int z :: rest)) Q kc ks :=
  Go.retV X hx hlk hret rfl (Or.inl ⟨rfl, Or.inl rfl, z, rfl⟩) hd hc hs hQ
theorem nar_bool {z : Int32} (h : z = 0 ∨ z = 1) : narrow .boolean (.int z) = .int z := by rcases h with rfl | rfl <;> rfl
theorem Go.retZ (X : Stand p l e R s m args below meth c T locs cells slots) (hx : p.tables.exec = Jvm.exec) (hlk : meth.locks = false) {pc : Nat} {Ls : Array Slot} {z : Int32} {rest : List Value} (hret : meth.sig.returnType = some .boolean) (hz : z = 0 ∨ z = 1)
    (hd : decode c.code pc = .ok (.ireturn, 1)) (hc : cells ≤ kc) (hs : slots ≤ ks) (hQ : Q (some (.int z)) T.heap locs) : Go p e below s T (mkF m pc Ls (.int z :: rest)) Q kc ks :=
  Go.retV X hx hlk hret (nar_bool hz) (Or.inl ⟨rfl, Or.inr (Or.inl rfl), z, rfl⟩) hd hc hs hQ
theorem Go.retJ (X : Stand p l e R s m args below meth c T locs cells slots) (hx : p.tables.exec = Jvm.exec) (hlk : meth.locks = false) {pc : Nat} {Ls : Array Slot} {z : Int64} {rest : List Value} (hret : meth.sig.returnType = some .long)
    (hd : decode c.code pc = .ok (.lreturn, 1)) (hc : cells ≤ kc) (hs : slots ≤ ks) (hQ : Q (some (.long z)) T.heap locs) : Go p e below s T (mkF m pc Ls (.long z :: rest)) Q kc ks :=
  Go.retV X hx hlk hret rfl (Or.inr (Or.inl ⟨rfl, rfl, z, rfl⟩)) hd hc hs hQ
theorem Go.retR (X : Stand p l e R s m args below meth c T locs cells slots) (hx : p.tables.exec = Jvm.exec) (hlk : meth.locks = false) {pc : Nat} {Ls : Array Slot} {w : Value} {t : FieldType} {rest : List Value} (hret : meth.sig.returnType = some t) (ht : t.isReference = true) (hw : w.isRef = true)
    (hd : decode c.code pc = .ok (.areturn, 1)) (hc : cells ≤ kc) (hs : slots ≤ ks) (hQ : Q (some w) T.heap locs) : Go p e below s T (mkF m pc Ls (w :: rest)) Q kc ks :=
  Go.retV X hx hlk hret (by cases t <;> simp [narrow, FieldType.isReference] at ht ⊢) (Or.inr (Or.inr (Or.inr (Or.inr ⟨rfl, ht, hw⟩)))) hd hc hs hQ
/-- a method's contract in this text: from the heap h0, with these arguments, it returns, with Q -/
def Met (l : Launch) (Z : State) (y : MethodName) (bytes : ByteArray) (maxL : Nat) (ret : Option FieldType) (ws : List Jvm.Cond) (rm : Room) (as' : Array Value) (h0 : Heap) (Q : Option Value → Heap → List Loc → Prop) : Prop :=
  MetFree l y (head1 (Jvm.Cond.code y bytes maxL ret :: ws) rm) (fun a U => a = as' ∧ Z.Warmed39 U.vm ∧ U.heap = h0) (fun _ _ _ _ _ => True) (fun _ U o U' => ∃ v L, o = .returned v ∧ Q v U'.heap L ∧ FrameEnd U o U' L rm.cells rm.slots)
theorem Met.of {y : MethodName} {bytes : ByteArray} {maxL : Nat} {ret : Option FieldType} {ws : List Jvm.Cond} {rm : Room} {as' : Array Value} {h0 : Heap} (hpn : plainFor y = true)
    (body : ∀ (p : Program) (e : Env) (s : State) (m : MethodId) (below : List Frame) (meth : Method) (c : Code) (s₁ : State), Stand p l e rm s m as' below meth c s₁ [] 0 0 → p.tables.exec = Jvm.exec → c.code = bytes → c.maxLocals = maxL → Z.Warmed39 s.vm →
      s.vm.findClass y.cls = some m.cls → meth.name = y.name → s₁.heap = h0 → meth.sig.returnType = ret → meth.locks = false → Go p e below s s₁ (entryFrame m as' maxL) Q rm.cells rm.slots) : Met l Z y bytes maxL ret ws rm as' h0 Q := by
  refine MetFree.of_bodySF hpn hisR ?_
  intro p e s m args below meth c s₁ Bd hml0 hP hK
  obtain ⟨rfl, hZ, hh⟩ := hP
  exact body p e s m below meth c s₁ (Stand.of_body Bd) Bd.exec Bd.bytes hml0 hZ (findClass_of_methodNamed Bd.named) (name_of_methodNamed Bd.named Bd.method).1 (by rw [← hh, Bd.state]; rfl) Bd.returns Bd.notSynchronized
theorem Met.mono {y : MethodName} {bytes : ByteArray} {maxL : Nat} {ret : Option FieldType} {ws : List Jvm.Cond} {rm : Room} {as' : Array Value} {h0 : Heap} {Q' : Option Value → Heap → List Loc → Prop} (hM : Met l Z y bytes maxL ret ws rm as' h0 Q) (q : ∀ v h L, Q v h L → Q' v h L) : Met l Z y bytes maxL ret ws rm as' h0 Q' := by
  intro p e ha hc hk s m args below hf happ hP hK
  obtain ⟨n, o, h1, h2, h3, v, L, h4, h5, h6⟩ := hM p e ha hc hk s m args below hf happ hP hK
  exact ⟨n, o, h1, h2, h3, v, L, h4, q _ _ _ h5, h6⟩
/-- the call of a static method, by its contract -/
theorem Go.callS {own : String} {index : Nat} {y : MethodName} {bytes : ByteArray} {maxL : Nat} {ret : Option FieldType} {rm : Room} {argsL rest : List Value} {Q' : Option Value → Heap → List Loc → Prop} {W pc : Nat} {Ls : Array Slot} {st : List Value}
    (X : Stand p l e R s m args below meth c T locs cells slots) (hx : p.tables.exec = Jvm.exec) (hZ : Z.Warmed39 s.vm) (hown : s.vm.findClass own = some m.cls)
    (w1 : (Jvm.Cond.methodLink own index y).before a0 Z = true) (w2 : (Jvm.Cond.static y).before a0 Z = true) (w3 : (Jvm.Cond.initialized y.cls).before a0 Z = true) (w4 : (Jvm.Cond.code y bytes maxL ret).before a0 Z = true)
    (hy : y.cls ≠ "java/lang/invoke/MethodHandle" ∧ y.cls ≠ "java/lang/invoke/VarHandle") (hM : Met l Z y bytes maxL ret [] rm argsL.toArray h Q') (eT : T.heap = h)
    (hlen : ∀ sig, parseMethodDescriptor y.desc = some sig → argsL.length = sig.parameters.length) (hd : decode c.code pc = .ok (.invokestatic index, 3)) (hsize : Ls.size = c.maxLocals) (hst : st = argsL.reverse ++ rest) (hW : (rest.map fun v => v.category).sum ≤ W)
    (hf : rm.frames + 1 ≤ R.frames) (hl : W + (maxL + 11) + rm.locals ≤ R.locals) (hc : cells + rm.cells ≤ R.cells) (hs : slots + rm.slots ≤ R.slots)
    (k : ∀ v T' L, Stand p l e R s m args below meth c T' (locs ++ L) (cells + rm.cells) (slots + rm.slots) → Q' v T'.heap L → Go p e below s T' (mkF m (pc + 3) Ls (v.toList ++ rest)) Q kc ks) : Go p e below s T (mkF m pc Ls st) Q kc ks := by
  obtain ⟨v, vm₁, ⟨T1, L1, k1, n1⟩, -, X1, ⟨Lc, hQ1, l1, y1, z1⟩, st1⟩ := Jvm.LawKit.callS X hx (y := y) hown (mvT hZ w1) (mvT hZ w2) (mvT hZ w3) (mvT hZ w4) hy (backOf (W := W) hM hZ w4 w3 hf hl) (g := mkF m pc Ls st) rfl hsize (argsL := argsL) (rest := rest) hlen hst (by show 2 * 0 + _ ≤ _; omega) hd (fun _ _ => ⟨rfl, eT, hc, hs⟩)
  dsimp only [Pt.U, Pt.locs, Pt.cells, Pt.slots] at X1 l1 y1 z1 st1 hQ1
  subst l1 y1 z1
  exact Go.step st1 (k v T1 Lc X1 hQ1)
/-- the call of a constructor, by its contract -/
theorem Go.callI {own : String} {index : Nat} {y : MethodName} {bytes : ByteArray} {maxL : Nat} {rm : Room} {a : Addr} {argsL rest : List Value} {Q' : Option Value → Heap → List Loc → Prop} {W pc : Nat} {Ls : Array Slot} {st : List Value}
    (X : Stand p l e R s m args below meth c T locs cells slots) (hx : p.tables.exec = Jvm.exec) (hZ : Z.Warmed39 s.vm) (hown : s.vm.findClass own = some m.cls) (hy1 : y.name = "<init>")
    (w1 : (Jvm.Cond.methodLink own index y).before a0 Z = true) (w2 : (Jvm.Cond.instanceMethod y).before a0 Z = true) (w3 : (Jvm.Cond.initialized y.cls).before a0 Z = true) (w4 : (Jvm.Cond.code y bytes maxL none).before a0 Z = true)
    (hy : y.cls ≠ "java/lang/invoke/MethodHandle" ∧ y.cls ≠ "java/lang/invoke/VarHandle") (hM : Met l Z y bytes maxL none [] rm (.ref a :: argsL).toArray h Q') (eT : T.heap = h)
    (hlen : ∀ sig, parseMethodDescriptor y.desc = some sig → argsL.length = sig.parameters.length) (hd : decode c.code pc = .ok (.invokespecial index, 3)) (hsize : Ls.size = c.maxLocals) (hst : st = argsL.reverse ++ .ref a :: rest) (hW : (rest.map fun v => v.category).sum ≤ W)
    (hf : rm.frames + 1 ≤ R.frames) (hl : W + (maxL + 11) + rm.locals ≤ R.locals) (hc : cells + rm.cells ≤ R.cells) (hs : slots + rm.slots ≤ R.slots)
    (k : ∀ v T' L, Stand p l e R s m args below meth c T' (locs ++ L) (cells + rm.cells) (slots + rm.slots) → Q' v T'.heap L → Go p e below s T' (mkF m (pc + 3) Ls (v.toList ++ rest)) Q kc ks) : Go p e below s T (mkF m pc Ls st) Q kc ks := by
  obtain ⟨v, vm₁, ⟨T1, L1, k1, n1⟩, -, X1, ⟨Lc, hQ1, l1, y1, z1⟩, st1⟩ := X.specialBack hx (y := y) hy1 hown (mvT hZ w1) (mvT hZ w2) (mvT hZ w4) hy (backOf (W := W) hM hZ w4 w3 hf hl) (g := mkF m pc Ls st) rfl hsize (Steps.refl _) (a := a) (argsL := argsL) (rest := rest) hlen hst (by show 2 * 0 + _ ≤ _; omega) hd (fun _ _ => ⟨rfl, eT, hc, hs⟩)
  dsimp only [Pt.U, Pt.locs, Pt.cells, Pt.slots] at X1 l1 y1 z1 st1 hQ1
  subst l1 y1 z1
  exact Go.trans st1 (k v T1 Lc X1 hQ1)
/-- the call of an instance method, by its contract -/
theorem Go.callV {own C : String} {index : Nat} {y z : MethodName} {bytes : ByteArray} {maxL : Nat} {ret : Option FieldType} {rm : Room} {a : Addr} {argsL rest : List Value} {Q' : Option Value → Heap → List Loc → Prop} {W pc : Nat} {Ls : Array Slot} {st : List Value}
    (X : Stand p l e R s m args below meth c T locs cells slots) (hx : p.tables.exec = Jvm.exec) (hZ : Z.Warmed39 s.vm) (hown : s.vm.findClass own = some m.cls)
    (w1 : (Jvm.Cond.methodLink own index y).before a0 Z = true) (w2 : (Jvm.Cond.declares y).before a0 Z = true) (w5 : (Jvm.Cond.selects C y z).before a0 Z = true) (w6 : (Jvm.Cond.instanceMethod z).before a0 Z = true) (w3 : (Jvm.Cond.initialized z.cls).before a0 Z = true) (w4 : (Jvm.Cond.code z bytes maxL ret).before a0 Z = true)
    (nf : NotFace s y) (hy : y.cls ≠ "java/lang/invoke/MethodHandle" ∧ y.cls ≠ "java/lang/invoke/VarHandle") (E : Exa Z h a C) (hM : Met l Z z bytes maxL ret [] rm (.ref a :: argsL).toArray h Q') (eT : T.heap = h)
    (hlen : ∀ sig, parseMethodDescriptor y.desc = some sig → argsL.length = sig.parameters.length) (hd : decode c.code pc = .ok (.invokevirtual index, 3)) (hsize : Ls.size = c.maxLocals) (hst : st = argsL.reverse ++ .ref a :: rest) (hW : (rest.map fun v => v.category).sum ≤ W)
    (hf : rm.frames + 1 ≤ R.frames) (hl : W + (maxL + 11) + rm.locals ≤ R.locals) (hc : cells + rm.cells ≤ R.cells) (hs : slots + rm.slots ≤ R.slots)
    (k : ∀ v T' L, Stand p l e R s m args below meth c T' (locs ++ L) (cells + rm.cells) (slots + rm.slots) → Q' v T'.heap L → Go p e below s T' (mkF m (pc + 3) Ls (v.toList ++ rest)) Q kc ks) : Go p e below s T (mkF m pc Ls st) Q kc ks := by
  obtain ⟨cB, kB, q1, q2, q3⟩ := isOf hZ eT E
  obtain ⟨v, vm₁, ⟨T1, L1, k1, n1⟩, -, X1, ⟨Lc, hQ1, l1, y1, z1⟩, st1⟩ := X.virtualBack hx (y := y) (z := z) hown (mvT hZ w1) (mvT hZ w2) nf (mvT hZ w5) (mvT hZ w6) hy (backOf (W := W) hM hZ w4 w3 hf hl) q1 q3 (g := mkF m pc Ls st) rfl hsize (Steps.refl _) (argsL := argsL) (rest := rest) hlen hst (by show 2 * 0 + _ ≤ _; omega) hd (fun _ _ => ⟨rfl, eT, hc, hs⟩)
  dsimp only [Pt.U, Pt.locs, Pt.cells, Pt.slots] at X1 l1 y1 z1 st1 hQ1
  subst l1 y1 z1
  exact Go.trans st1 (k v T1 Lc X1 hQ1)
theorem Go.ldc {own : String} {index pc : Nat} {v : Int32} {Ls : Array Slot} {st : List Value} (X : Stand p l e R s m args below meth c T locs cells slots) (hx : p.tables.exec = Jvm.exec) (hZ : Z.Warmed39 s.vm) (hown : s.vm.findClass own = some m.cls) (w : (Jvm.Cond.constant own index v).before a0 Z = true) (hd : decode c.code pc = .ok (.ldc index, 2))
    (k : Go p e below s T (mkF m (pc + 2) Ls (.int v :: st)) Q kc ks) : Go p e below s T (mkF m pc Ls st) Q kc ks :=
  Go.step (fun _ => X.ldcI hx hown (mvT hZ w) (g := mkF m pc Ls st) rfl hd) k
theorem Go.ldc2 {own : String} {index pc : Nat} {v : Int64} {Ls : Array Slot} {st : List Value} (X : Stand p l e R s m args below meth c T locs cells slots) (hx : p.tables.exec = Jvm.exec) (hZ : Z.Warmed39 s.vm) (hown : s.vm.findClass own = some m.cls) (w : (Jvm.Cond.constantLong own index v).before a0 Z = true) (hd : decode c.code pc = .ok (.ldc2_w index, 3))
    (k : Go p e below s T (mkF m (pc + 3) Ls (.long v :: st)) Q kc ks) : Go p e below s T (mkF m pc Ls st) Q kc ks :=
  Go.step (fun _ => X.ldc2J hx hown (mvT hZ w) (g := mkF m pc Ls st) rfl hd) k
end Base
end Jvm.OwnK
namespace Jvm.OwnK
open Sem ClassFile Op Lib Jvm.Free Jvm.Stand Jvm.LawKit Jvm.RoadKit
section Steps
variable {p : Program} {l : Launch} {e : Env} {R : Room} {s : State} {m : MethodId} {args : Array Value} {below : List Frame} {meth : Method} {c : Code} {T T' : State} {locs : List Loc} {cells slots : Nat} {Q : Option Value → Heap → List Loc → Prop} {kc ks : Nat} {Z : State} {a0 : Array Value} {h : Heap} {pc : Nat} {Ls : Array Slot} {rest : List Value}
theorem Go.iadd {x y : Int32} (X : Stand p l e R s m args below meth c T locs cells slots) (hx : p.tables.exec = Jvm.exec) (hd : decode c.code pc = .ok (.iadd, 1)) (k : Go p e below s T (mkF m (pc + 1) Ls (.int (x + y) :: rest)) Q kc ks) : Go p e below s T (mkF m pc Ls (.int y :: .int x :: rest)) Q kc ks :=
  Go.step (fun _ => XS.iadd X.here hx (g := mkF m pc Ls (.int y :: .int x :: rest)) rfl hd rfl) k
theorem Go.isub {x y : Int32} (X : Stand p l e R s m args below meth c T locs cells slots) (hx : p.tables.exec = Jvm.exec) (hd : decode c.code pc = .ok (.isub, 1)) (k : Go p e below s T (mkF m (pc + 1) Ls (.int (x - y) :: rest)) Q kc ks) : Go p e below s T (mkF m pc Ls (.int y :: .int x :: rest)) Q kc ks :=
  Go.step (fun _ => XS.isub X.here hx (g := mkF m pc Ls (.int y :: .int x :: rest)) rfl hd rfl) k
theorem Go.iand {x y : Int32} (X : Stand p l e R s m args below meth c T locs cells slots) (hx : p.tables.exec = Jvm.exec) (hd : decode c.code pc = .ok (.iand, 1)) (k : Go p e below s T (mkF m (pc + 1) Ls (.int (x &&& y) :: rest)) Q kc ks) : Go p e below s T (mkF m pc Ls (.int y :: .int x :: rest)) Q kc ks :=
  Go.step (fun _ => XS.iand X.here hx (g := mkF m pc Ls (.int y :: .int x :: rest)) rfl hd rfl) k
theorem Go.imul {x y : Int32} (X : Stand p l e R s m args below meth c T locs cells slots) (hx : p.tables.exec = Jvm.exec) (hd : decode c.code pc = .ok (.imul, 1)) (k : Go p e below s T (mkF m (pc + 1) Ls (.int (x * y) :: rest)) Q kc ks) : Go p e below s T (mkF m pc Ls (.int y :: .int x :: rest)) Q kc ks :=
  Go.step (fun _ => XS.imul X.here hx (g := mkF m pc Ls (.int y :: .int x :: rest)) rfl hd rfl) k
theorem Go.ixor {x y : Int32} (X : Stand p l e R s m args below meth c T locs cells slots) (hx : p.tables.exec = Jvm.exec) (hd : decode c.code pc = .ok (.ixor, 1)) (k : Go p e below s T (mkF m (pc + 1) Ls (.int (x ^^^ y) :: rest)) Q kc ks) : Go p e below s T (mkF m pc Ls (.int y :: .int x :: rest)) Q kc ks :=
  Go.step (fun _ => XT.ixor X.here hx (g := mkF m pc Ls (.int y :: .int x :: rest)) rfl hd rfl) k
theorem Go.ior {x y : Int32} (X : Stand p l e R s m args below meth c T locs cells slots) (hx : p.tables.exec = Jvm.exec) (hd : decode c.code pc = .ok (.ior, 1)) (k : Go p e below s T (mkF m (pc + 1) Ls (.int (x ||| y) :: rest)) Q kc ks) : Go p e below s T (mkF m pc Ls (.int y :: .int x :: rest)) Q kc ks :=
  Go.step (fun _ => XT.ior X.here hx (g := mkF m pc Ls (.int y :: .int x :: rest)) rfl hd rfl) k
theorem Go.ishl {x y : Int32} (X : Stand p l e R s m args below meth c T locs cells slots) (hx : p.tables.exec = Jvm.exec) (hd : decode c.code pc = .ok (.ishl, 1)) (k : Go p e below s T (mkF m (pc + 1) Ls (.int (x <<< (y &&& 31)) :: rest)) Q kc ks) : Go p e below s T (mkF m pc Ls (.int y :: .int x :: rest)) Q kc ks :=
  Go.step (fun _ => XT.ishl X.here hx (g := mkF m pc Ls (.int y :: .int x :: rest)) rfl hd rfl) k
theorem Go.ishr {x y : Int32} (X : Stand p l e R s m args below meth c T locs cells slots) (hx : p.tables.exec = Jvm.exec) (hd : decode c.code pc = .ok (.ishr, 1)) (k : Go p e below s T (mkF m (pc + 1) Ls (.int (x >>> (y &&& 31)) :: rest)) Q kc ks) : Go p e below s T (mkF m pc Ls (.int y :: .int x :: rest)) Q kc ks :=
  Go.step (fun _ => XT.ishr X.here hx (g := mkF m pc Ls (.int y :: .int x :: rest)) rfl hd rfl) k
theorem Go.iushr {x y : Int32} (X : Stand p l e R s m args below meth c T locs cells slots) (hx : p.tables.exec = Jvm.exec) (hd : decode c.code pc = .ok (.iushr, 1)) (k : Go p e below s T (mkF m (pc + 1) Ls (.int (XT.ushr x y) :: rest)) Q kc ks) : Go p e below s T (mkF m pc Ls (.int y :: .int x :: rest)) Q kc ks :=
  Go.step (fun _ => XT.iushr X.here hx (g := mkF m pc Ls (.int y :: .int x :: rest)) rfl hd rfl) k
theorem Go.idiv {x y : Int32} (X : Stand p l e R s m args below meth c T locs cells slots) (hx : p.tables.exec = Jvm.exec) (hd : decode c.code pc = .ok (.idiv, 1)) (hy : y ≠ 0) (k : Go p e below s T (mkF m (pc + 1) Ls (.int (x / y) :: rest)) Q kc ks) : Go p e below s T (mkF m pc Ls (.int y :: .int x :: rest)) Q kc ks :=
  Go.step (fun _ => XS.idiv X.here hx (g := mkF m pc Ls (.int y :: .int x :: rest)) rfl hd rfl hy) k
theorem Go.irem {x y : Int32} (X : Stand p l e R s m args below meth c T locs cells slots) (hx : p.tables.exec = Jvm.exec) (hd : decode c.code pc = .ok (.irem, 1)) (hy : y ≠ 0) (k : Go p e below s T (mkF m (pc + 1) Ls (.int (x % y) :: rest)) Q kc ks) : Go p e below s T (mkF m pc Ls (.int y :: .int x :: rest)) Q kc ks :=
  Go.step (fun _ => iremM X hx (g := mkF m pc Ls (.int y :: .int x :: rest)) rfl hd rfl hy) k
theorem Go.ladd {x y : Int64} (X : Stand p l e R s m args below meth c T locs cells slots) (hx : p.tables.exec = Jvm.exec) (hd : decode c.code pc = .ok (.ladd, 1)) (k : Go p e below s T (mkF m (pc + 1) Ls (.long (x + y) :: rest)) Q kc ks) : Go p e below s T (mkF m pc Ls (.long y :: .long x :: rest)) Q kc ks :=
  Go.step (fun _ => XT.ladd X.here hx (g := mkF m pc Ls (.long y :: .long x :: rest)) rfl hd rfl) k
theorem Go.lsub {x y : Int64} (X : Stand p l e R s m args below meth c T locs cells slots) (hx : p.tables.exec = Jvm.exec) (hd : decode c.code pc = .ok (.lsub, 1)) (k : Go p e below s T (mkF m (pc + 1) Ls (.long (x - y) :: rest)) Q kc ks) : Go p e below s T (mkF m pc Ls (.long y :: .long x :: rest)) Q kc ks :=
  Go.step (fun _ => XT.lsub X.here hx (g := mkF m pc Ls (.long y :: .long x :: rest)) rfl hd rfl) k
theorem Go.lmul {x y : Int64} (X : Stand p l e R s m args below meth c T locs cells slots) (hx : p.tables.exec = Jvm.exec) (hd : decode c.code pc = .ok (.lmul, 1)) (k : Go p e below s T (mkF m (pc + 1) Ls (.long (x * y) :: rest)) Q kc ks) : Go p e below s T (mkF m pc Ls (.long y :: .long x :: rest)) Q kc ks :=
  Go.step (fun _ => XT.lmul X.here hx (g := mkF m pc Ls (.long y :: .long x :: rest)) rfl hd rfl) k
theorem Go.land {x y : Int64} (X : Stand p l e R s m args below meth c T locs cells slots) (hx : p.tables.exec = Jvm.exec) (hd : decode c.code pc = .ok (.land, 1)) (k : Go p e below s T (mkF m (pc + 1) Ls (.long (x &&& y) :: rest)) Q kc ks) : Go p e below s T (mkF m pc Ls (.long y :: .long x :: rest)) Q kc ks :=
  Go.step (fun _ => XT.land X.here hx (g := mkF m pc Ls (.long y :: .long x :: rest)) rfl hd rfl) k
theorem Go.lor {x y : Int64} (X : Stand p l e R s m args below meth c T locs cells slots) (hx : p.tables.exec = Jvm.exec) (hd : decode c.code pc = .ok (.lor, 1)) (k : Go p e below s T (mkF m (pc + 1) Ls (.long (x ||| y) :: rest)) Q kc ks) : Go p e below s T (mkF m pc Ls (.long y :: .long x :: rest)) Q kc ks :=
  Go.step (fun _ => XT.lor X.here hx (g := mkF m pc Ls (.long y :: .long x :: rest)) rfl hd rfl) k
theorem Go.lxor {x y : Int64} (X : Stand p l e R s m args below meth c T locs cells slots) (hx : p.tables.exec = Jvm.exec) (hd : decode c.code pc = .ok (.lxor, 1)) (k : Go p e below s T (mkF m (pc + 1) Ls (.long (x ^^^ y) :: rest)) Q kc ks) : Go p e below s T (mkF m pc Ls (.long y :: .long x :: rest)) Q kc ks :=
  Go.step (fun _ => XT.lxor X.here hx (g := mkF m pc Ls (.long y :: .long x :: rest)) rfl hd rfl) k
theorem Go.lcmp {x y : Int64} (X : Stand p l e R s m args below meth c T locs cells slots) (hx : p.tables.exec = Jvm.exec) (hd : decode c.code pc = .ok (.lcmp, 1)) (k : Go p e below s T (mkF m (pc + 1) Ls (.int (XT.cmpL x y) :: rest)) Q kc ks) : Go p e below s T (mkF m pc Ls (.long y :: .long x :: rest)) Q kc ks :=
  Go.step (fun _ => XT.lcmp X.here hx (g := mkF m pc Ls (.long y :: .long x :: rest)) rfl hd rfl) k
theorem Go.lshl {x : Int64} {y : Int32} (X : Stand p l e R s m args below meth c T locs cells slots) (hx : p.tables.exec = Jvm.exec) (hd : decode c.code pc = .ok (.lshl, 1)) (k : Go p e below s T (mkF m (pc + 1) Ls (.long (x <<< (y.toInt64 &&& 63)) :: rest)) Q kc ks) : Go p e below s T (mkF m pc Ls (.int y :: .long x :: rest)) Q kc ks :=
  Go.step (fun _ => XT.lshl X.here hx (g := mkF m pc Ls (.int y :: .long x :: rest)) rfl hd rfl) k
theorem Go.lshr {x : Int64} {y : Int32} (X : Stand p l e R s m args below meth c T locs cells slots) (hx : p.tables.exec = Jvm.exec) (hd : decode c.code pc = .ok (.lshr, 1)) (k : Go p e below s T (mkF m (pc + 1) Ls (.long (x >>> (y.toInt64 &&& 63)) :: rest)) Q kc ks) : Go p e below s T (mkF m pc Ls (.int y :: .long x :: rest)) Q kc ks :=
  Go.step (fun _ => XT.lshr X.here hx (g := mkF m pc Ls (.int y :: .long x :: rest)) rfl hd rfl) k
theorem Go.lushr {x : Int64} {y : Int32} (X : Stand p l e R s m args below meth c T locs cells slots) (hx : p.tables.exec = Jvm.exec) (hd : decode c.code pc = .ok (.lushr, 1)) (k : Go p e below s T (mkF m (pc + 1) Ls (.long (XT.ushrL x y) :: rest)) Q kc ks) : Go p e below s T (mkF m pc Ls (.int y :: .long x :: rest)) Q kc ks :=
  Go.step (fun _ => XT.lushr X.here hx (g := mkF m pc Ls (.int y :: .long x :: rest)) rfl hd rfl) k
theorem Go.i2b {x : Int32} (X : Stand p l e R s m args below meth c T locs cells slots) (hx : p.tables.exec = Jvm.exec) (hd : decode c.code pc = .ok (.i2b, 1)) (k : Go p e below s T (mkF m (pc + 1) Ls (.int (x.toInt8.toInt32) :: rest)) Q kc ks) : Go p e below s T (mkF m pc Ls (.int x :: rest)) Q kc ks :=
  Go.step (fun _ => XT.i2b X.here hx (g := mkF m pc Ls (.int x :: rest)) rfl hd rfl) k
theorem Go.i2c {x : Int32} (X : Stand p l e R s m args below meth c T locs cells slots) (hx : p.tables.exec = Jvm.exec) (hd : decode c.code pc = .ok (.i2c, 1)) (k : Go p e below s T (mkF m (pc + 1) Ls (.int (x.toUInt32.toUInt16.toUInt32.toInt32) :: rest)) Q kc ks) : Go p e below s T (mkF m pc Ls (.int x :: rest)) Q kc ks :=
  Go.step (fun _ => XT.i2c X.here hx (g := mkF m pc Ls (.int x :: rest)) rfl hd rfl) k
theorem Go.i2s {x : Int32} (X : Stand p l e R s m args below meth c T locs cells slots) (hx : p.tables.exec = Jvm.exec) (hd : decode c.code pc = .ok (.i2s, 1)) (k : Go p e below s T (mkF m (pc + 1) Ls (.int (x.toInt16.toInt32) :: rest)) Q kc ks) : Go p e below s T (mkF m pc Ls (.int x :: rest)) Q kc ks :=
  Go.step (fun _ => XT.i2s X.here hx (g := mkF m pc Ls (.int x :: rest)) rfl hd rfl) k
theorem Go.i2l {x : Int32} (X : Stand p l e R s m args below meth c T locs cells slots) (hx : p.tables.exec = Jvm.exec) (hd : decode c.code pc = .ok (.i2l, 1)) (k : Go p e below s T (mkF m (pc + 1) Ls (.long (x.toInt64) :: rest)) Q kc ks) : Go p e below s T (mkF m pc Ls (.int x :: rest)) Q kc ks :=
  Go.step (fun _ => XT.i2l X.here hx (g := mkF m pc Ls (.int x :: rest)) rfl hd rfl) k
theorem Go.ineg {x : Int32} (X : Stand p l e R s m args below meth c T locs cells slots) (hx : p.tables.exec = Jvm.exec) (hd : decode c.code pc = .ok (.ineg, 1)) (k : Go p e below s T (mkF m (pc + 1) Ls (.int (-x) :: rest)) Q kc ks) : Go p e below s T (mkF m pc Ls (.int x :: rest)) Q kc ks :=
  Go.step (fun _ => XS.ineg X.here hx (g := mkF m pc Ls (.int x :: rest)) rfl hd rfl) k
theorem Go.l2i {x : Int64} (X : Stand p l e R s m args below meth c T locs cells slots) (hx : p.tables.exec = Jvm.exec) (hd : decode c.code pc = .ok (.l2i, 1)) (k : Go p e below s T (mkF m (pc + 1) Ls (.int (x.toInt32) :: rest)) Q kc ks) : Go p e below s T (mkF m pc Ls (.long x :: rest)) Q kc ks :=
  Go.step (fun _ => XT.l2i X.here hx (g := mkF m pc Ls (.long x :: rest)) rfl hd rfl) k
theorem Go.iconst {i : Int} (X : Stand p l e R s m args below meth c T locs cells slots) (hx : p.tables.exec = Jvm.exec) (hd : decode c.code pc = .ok (.iconst i, 1)) (k : Go p e below s T (mkF m (pc + 1) Ls (.int (Int32.ofInt i) :: rest)) Q kc ks) : Go p e below s T (mkF m pc Ls rest) Q kc ks :=
  Go.step (fun _ => XS.iconst X.here hx (g := mkF m pc Ls rest) rfl hd) k
theorem Go.bipush {i : Int} (X : Stand p l e R s m args below meth c T locs cells slots) (hx : p.tables.exec = Jvm.exec) (hd : decode c.code pc = .ok (.bipush i, 2)) (k : Go p e below s T (mkF m (pc + 2) Ls (.int (Int8.ofInt i).toInt32 :: rest)) Q kc ks) : Go p e below s T (mkF m pc Ls rest) Q kc ks :=
  Go.step (fun _ => XS.bipush X.here hx (g := mkF m pc Ls rest) rfl hd) k
theorem Go.sipush {i : Int} (X : Stand p l e R s m args below meth c T locs cells slots) (hx : p.tables.exec = Jvm.exec) (hd : decode c.code pc = .ok (.sipush i, 3)) (k : Go p e below s T (mkF m (pc + 3) Ls (.int (Int16.ofInt i).toInt32 :: rest)) Q kc ks) : Go p e below s T (mkF m pc Ls rest) Q kc ks :=
  Go.step (fun _ => XS.sipush X.here hx (g := mkF m pc Ls rest) rfl hd) k
theorem Go.lconst {k0 : Fin 2} (X : Stand p l e R s m args below meth c T locs cells slots) (hx : p.tables.exec = Jvm.exec) (hd : decode c.code pc = .ok (.lconst k0, 1)) (k : Go p e below s T (mkF m (pc + 1) Ls (.long (Int64.ofNat k0) :: rest)) Q kc ks) : Go p e below s T (mkF m pc Ls rest) Q kc ks :=
  Go.step (fun _ => XT.lconst X.here hx (g := mkF m pc Ls rest) rfl hd) k
theorem Go.aconst_null (X : Stand p l e R s m args below meth c T locs cells slots) (hx : p.tables.exec = Jvm.exec) (hd : decode c.code pc = .ok (.aconst_null, 1)) (k : Go p e below s T (mkF m (pc + 1) Ls (.null :: rest)) Q kc ks) : Go p e below s T (mkF m pc Ls rest) Q kc ks :=
  Go.step (fun _ => XS.aconstNull X.here hx (g := mkF m pc Ls rest) rfl hd) k
theorem Go.iload {k0 : Nat} {v : Int32} (X : Stand p l e R s m args below meth c T locs cells slots) (hx : p.tables.exec = Jvm.exec) (hd : decode c.code pc = .ok (.iload k0, 2)) (hl : Ls[k0]? = some (.val (.int v))) (k : Go p e below s T (mkF m (pc + 2) Ls (.int v :: rest)) Q kc ks) : Go p e below s T (mkF m pc Ls rest) Q kc ks :=
  Go.step (fun _ => XS.iload X.here hx (g := mkF m pc Ls rest) rfl hd hl) k
theorem Go.iloadN {k0 : Fin 4} {v : Int32} (X : Stand p l e R s m args below meth c T locs cells slots) (hx : p.tables.exec = Jvm.exec) (hd : decode c.code pc = .ok (.iload_n k0, 1)) (hl : Ls[k0.val]? = some (.val (.int v))) (k : Go p e below s T (mkF m (pc + 1) Ls (.int v :: rest)) Q kc ks) : Go p e below s T (mkF m pc Ls rest) Q kc ks :=
  Go.step (fun _ => XS.iloadN X.here hx (g := mkF m pc Ls rest) rfl hd hl) k
theorem Go.istore {k0 : Nat} {v : Int32} {l' : Array Slot} (X : Stand p l e R s m args below meth c T locs cells slots) (hx : p.tables.exec = Jvm.exec) (hd : decode c.code pc = .ok (.istore k0, 2)) (hl : storeLocals Ls k0 (.int v) = some l') (k : Go p e below s T (mkF m (pc + 2) l' rest) Q kc ks) : Go p e below s T (mkF m pc Ls (.int v :: rest)) Q kc ks :=
  Go.step (fun _ => XS.istore X.here hx (g := mkF m pc Ls (.int v :: rest)) rfl hd rfl hl) k
theorem Go.istoreN {k0 : Fin 4} {v : Int32} {l' : Array Slot} (X : Stand p l e R s m args below meth c T locs cells slots) (hx : p.tables.exec = Jvm.exec) (hd : decode c.code pc = .ok (.istore_n k0, 1)) (hl : storeLocals Ls k0.val (.int v) = some l') (k : Go p e below s T (mkF m (pc + 1) l' rest) Q kc ks) : Go p e below s T (mkF m pc Ls (.int v :: rest)) Q kc ks :=
  Go.step (fun _ => XS.istoreN X.here hx (g := mkF m pc Ls (.int v :: rest)) rfl hd rfl hl) k
theorem Go.lload {k0 : Nat} {v : Int64} (X : Stand p l e R s m args below meth c T locs cells slots) (hx : p.tables.exec = Jvm.exec) (hd : decode c.code pc = .ok (.lload k0, 2)) (hl : Ls[k0]? = some (.val (.long v))) (k : Go p e below s T (mkF m (pc + 2) Ls (.long v :: rest)) Q kc ks) : Go p e below s T (mkF m pc Ls rest) Q kc ks :=
  Go.step (fun _ => XT.lload X.here hx (g := mkF m pc Ls rest) rfl hd hl) k
theorem Go.lloadN {k0 : Fin 4} {v : Int64} (X : Stand p l e R s m args below meth c T locs cells slots) (hx : p.tables.exec = Jvm.exec) (hd : decode c.code pc = .ok (.lload_n k0, 1)) (hl : Ls[k0.val]? = some (.val (.long v))) (k : Go p e below s T (mkF m (pc + 1) Ls (.long v :: rest)) Q kc ks) : Go p e below s T (mkF m pc Ls rest) Q kc ks :=
  Go.step (fun _ => XT.lloadN X.here hx (g := mkF m pc Ls rest) rfl hd hl) k
theorem Go.lstore {k0 : Nat} {v : Int64} {l' : Array Slot} (X : Stand p l e R s m args below meth c T locs cells slots) (hx : p.tables.exec = Jvm.exec) (hd : decode c.code pc = .ok (.lstore k0, 2)) (hl : storeLocals Ls k0 (.long v) = some l') (k : Go p e below s T (mkF m (pc + 2) l' rest) Q kc ks) : Go p e below s T (mkF m pc Ls (.long v :: rest)) Q kc ks :=
  Go.step (fun _ => XT.lstore X.here hx (g := mkF m pc Ls (.long v :: rest)) rfl hd rfl hl) k
theorem Go.lstoreN {k0 : Fin 4} {v : Int64} {l' : Array Slot} (X : Stand p l e R s m args below meth c T locs cells slots) (hx : p.tables.exec = Jvm.exec) (hd : decode c.code pc = .ok (.lstore_n k0, 1)) (hl : storeLocals Ls k0.val (.long v) = some l') (k : Go p e below s T (mkF m (pc + 1) l' rest) Q kc ks) : Go p e below s T (mkF m pc Ls (.long v :: rest)) Q kc ks :=
  Go.step (fun _ => XT.lstoreN X.here hx (g := mkF m pc Ls (.long v :: rest)) rfl hd rfl hl) k
theorem Go.aload {k0 : Nat} {v : Value} (X : Stand p l e R s m args below meth c T locs cells slots) (hx : p.tables.exec = Jvm.exec) (hd : decode c.code pc = .ok (.aload k0, 2)) (hl : Ls[k0]? = some (.val v)) (hv : v.isRef = true) (k : Go p e below s T (mkF m (pc + 2) Ls (v :: rest)) Q kc ks) : Go p e below s T (mkF m pc Ls rest) Q kc ks :=
  Go.step (fun _ => XS.aload X.here hx (g := mkF m pc Ls rest) rfl hd hl hv) k
theorem Go.aloadN {k0 : Fin 4} {v : Value} (X : Stand p l e R s m args below meth c T locs cells slots) (hx : p.tables.exec = Jvm.exec) (hd : decode c.code pc = .ok (.aload_n k0, 1)) (hl : Ls[k0.val]? = some (.val v)) (hv : v.isRef = true) (k : Go p e below s T (mkF m (pc + 1) Ls (v :: rest)) Q kc ks) : Go p e below s T (mkF m pc Ls rest) Q kc ks :=
  Go.step (fun _ => XS.aloadN X.here hx (g := mkF m pc Ls rest) rfl hd hl hv) k
theorem Go.astore {k0 : Nat} {v : Value} {l' : Array Slot} (X : Stand p l e R s m args below meth c T locs cells slots) (hx : p.tables.exec = Jvm.exec) (hd : decode c.code pc = .ok (.astore k0, 2)) (hv : v.isRef = true) (hl : storeLocals Ls k0 v = some l') (k : Go p e below s T (mkF m (pc + 2) l' rest) Q kc ks) : Go p e below s T (mkF m pc Ls (v :: rest)) Q kc ks :=
  Go.step (fun _ => XS.astore X.here hx (g := mkF m pc Ls (v :: rest)) rfl hd rfl hv hl) k
theorem Go.astoreN {k0 : Fin 4} {v : Value} {l' : Array Slot} (X : Stand p l e R s m args below meth c T locs cells slots) (hx : p.tables.exec = Jvm.exec) (hd : decode c.code pc = .ok (.astore_n k0, 1)) (hv : v.isRef = true) (hl : storeLocals Ls k0.val v = some l') (k : Go p e below s T (mkF m (pc + 1) l' rest) Q kc ks) : Go p e below s T (mkF m pc Ls (v :: rest)) Q kc ks :=
  Go.step (fun _ => XS.astoreN X.here hx (g := mkF m pc Ls (v :: rest)) rfl hd rfl hv hl) k
theorem Go.iinc {k0 : Nat} {cst : Int} {x : Int32} {l' : Array Slot} (X : Stand p l e R s m args below meth c T locs cells slots) (hx : p.tables.exec = Jvm.exec) (hd : decode c.code pc = .ok (.iinc k0 cst, 3)) (hl : Ls[k0]? = some (.val (.int x))) (hs : storeLocals Ls k0 (.int (x + Int32.ofInt cst)) = some l') (k : Go p e below s T (mkF m (pc + 3) l' rest) Q kc ks) : Go p e below s T (mkF m pc Ls rest) Q kc ks :=
  Go.step (fun _ => XS.iinc X.here hx (g := mkF m pc Ls rest) rfl hd hl hs) k
theorem Go.dup {v : Value} (X : Stand p l e R s m args below meth c T locs cells slots) (hx : p.tables.exec = Jvm.exec) (hd : decode c.code pc = .ok (.dup, 1)) (hv : v.category = 1) (k : Go p e below s T (mkF m (pc + 1) Ls (v :: v :: rest)) Q kc ks) : Go p e below s T (mkF m pc Ls (v :: rest)) Q kc ks :=
  Go.step (fun _ => XS.dup X.here hx (g := mkF m pc Ls (v :: rest)) rfl hd rfl hv) k
theorem Go.pop {v : Value} (X : Stand p l e R s m args below meth c T locs cells slots) (hx : p.tables.exec = Jvm.exec) (hd : decode c.code pc = .ok (.pop, 1)) (hv : v.category = 1) (k : Go p e below s T (mkF m (pc + 1) Ls rest) Q kc ks) : Go p e below s T (mkF m pc Ls (v :: rest)) Q kc ks :=
  Go.step (fun _ => XT.pop X.here hx (g := mkF m pc Ls (v :: rest)) rfl hd rfl hv) k
theorem Go.dup_x1 {v w : Value} (X : Stand p l e R s m args below meth c T locs cells slots) (hx : p.tables.exec = Jvm.exec) (hd : decode c.code pc = .ok (.dup_x1, 1)) (hv : v.category = 1) (hw' : w.category = 1) (k : Go p e below s T (mkF m (pc + 1) Ls (v :: w :: v :: rest)) Q kc ks) : Go p e below s T (mkF m pc Ls (v :: w :: rest)) Q kc ks :=
  Go.step (fun _ => XT.dupX1 X.here hx (g := mkF m pc Ls (v :: w :: rest)) rfl hd rfl hv hw') k
theorem Go.dup2 {v w : Value} (X : Stand p l e R s m args below meth c T locs cells slots) (hx : p.tables.exec = Jvm.exec) (hd : decode c.code pc = .ok (.dup2, 1)) (hv : v.category = 1) (hw' : w.category = 1) (k : Go p e below s T (mkF m (pc + 1) Ls (v :: w :: v :: w :: rest)) Q kc ks) : Go p e below s T (mkF m pc Ls (v :: w :: rest)) Q kc ks :=
  Go.step (fun _ => XT.dup2 X.here hx (g := mkF m pc Ls (v :: w :: rest)) rfl hd rfl hv hw') k
theorem Go.goto {o : Int} {pc' : Nat} (X : Stand p l e R s m args below meth c T locs cells slots) (hx : p.tables.exec = Jvm.exec) (hd : decode c.code pc = .ok (.goto o, 3)) (ho : 0 ≤ (pc : Int) + o) (hp : ((pc : Int) + o).toNat = pc') (k : Go p e below s T (mkF m pc' Ls rest) Q kc ks) : Go p e below s T (mkF m pc Ls rest) Q kc ks :=
  Go.step (fun _ => XS.goto X.here hx (g := mkF m pc Ls rest) rfl rfl hd ho hp) k
theorem Go.ifYes {cd : ClassFile.Cond} {x : Int32} {o : Int} {pc' : Nat} (X : Stand p l e R s m args below meth c T locs cells slots) (hx : p.tables.exec = Jvm.exec) (hd : decode c.code pc = .ok (.ifCond cd o, 3)) (hc : ifCond.holds cd x = true) (ho : 0 ≤ (pc : Int) + o) (hp : ((pc : Int) + o).toNat = pc') (k : Go p e below s T (mkF m pc' Ls rest) Q kc ks) : Go p e below s T (mkF m pc Ls (.int x :: rest)) Q kc ks :=
  Go.step (fun _ => XS.ifYes X.here hx (g := mkF m pc Ls (.int x :: rest)) rfl rfl hd rfl hc ho hp) k
theorem Go.ifNo {cd : ClassFile.Cond} {x : Int32} {o : Int} (X : Stand p l e R s m args below meth c T locs cells slots) (hx : p.tables.exec = Jvm.exec) (hd : decode c.code pc = .ok (.ifCond cd o, 3)) (hc : ifCond.holds cd x = false) (k : Go p e below s T (mkF m (pc + 3) Ls rest) Q kc ks) : Go p e below s T (mkF m pc Ls (.int x :: rest)) Q kc ks :=
  Go.step (fun _ => XS.ifNo X.here hx (g := mkF m pc Ls (.int x :: rest)) rfl hd rfl hc) k
theorem Go.icmpYes {cd : ClassFile.Cond} {x y : Int32} {o : Int} {pc' : Nat} (X : Stand p l e R s m args below meth c T locs cells slots) (hx : p.tables.exec = Jvm.exec) (hd : decode c.code pc = .ok (.if_icmp cd o, 3)) (hc : if_icmp.holds cd x y = true) (ho : 0 ≤ (pc : Int) + o) (hp : ((pc : Int) + o).toNat = pc') (k : Go p e below s T (mkF m pc' Ls rest) Q kc ks) : Go p e below s T (mkF m pc Ls (.int y :: .int x :: rest)) Q kc ks :=
  Go.step (fun _ => XS.icmpYes X.here hx (g := mkF m pc Ls (.int y :: .int x :: rest)) rfl rfl hd rfl hc ho hp) k
theorem Go.icmpNo {cd : ClassFile.Cond} {x y : Int32} {o : Int} (X : Stand p l e R s m args below meth c T locs cells slots) (hx : p.tables.exec = Jvm.exec) (hd : decode c.code pc = .ok (.if_icmp cd o, 3)) (hc : if_icmp.holds cd x y = false) (k : Go p e below s T (mkF m (pc + 3) Ls rest) Q kc ks) : Go p e below s T (mkF m pc Ls (.int y :: .int x :: rest)) Q kc ks :=
  Go.step (fun _ => XS.icmpNo X.here hx (g := mkF m pc Ls (.int y :: .int x :: rest)) rfl hd rfl hc) k
theorem Go.acmpYes {cd : ClassFile.ACond} {x y : Value} {o : Int} {pc' : Nat} (X : Stand p l e R s m args below meth c T locs cells slots) (hx : p.tables.exec = Jvm.exec) (hd : decode c.code pc = .ok (.if_acmp cd o, 3)) (h1 : x.isRef = true) (h2 : y.isRef = true) (hc : XT.acmp cd x y = true) (ho : 0 ≤ (pc : Int) + o) (hp : ((pc : Int) + o).toNat = pc') (k : Go p e below s T (mkF m pc' Ls rest) Q kc ks) : Go p e below s T (mkF m pc Ls (y :: x :: rest)) Q kc ks :=
  Go.step (fun _ => XT.acmpYes X.here hx (g := mkF m pc Ls (y :: x :: rest)) rfl rfl hd rfl h1 h2 hc ho hp) k
theorem Go.acmpNo {cd : ClassFile.ACond} {x y : Value} {o : Int} (X : Stand p l e R s m args below meth c T locs cells slots) (hx : p.tables.exec = Jvm.exec) (hd : decode c.code pc = .ok (.if_acmp cd o, 3)) (h1 : x.isRef = true) (h2 : y.isRef = true) (hc : XT.acmp cd x y = false) (k : Go p e below s T (mkF m (pc + 3) Ls rest) Q kc ks) : Go p e below s T (mkF m pc Ls (y :: x :: rest)) Q kc ks :=
  Go.step (fun _ => XT.acmpNo X.here hx (g := mkF m pc Ls (y :: x :: rest)) rfl hd rfl h1 h2 hc) k
theorem Go.ifnullYes {a : Addr} {o : Int} {pc' : Nat} (X : Stand p l e R s m args below meth c T locs cells slots) (hx : p.tables.exec = Jvm.exec) (hd : decode c.code pc = .ok (.ifnull o, 3)) (ho : 0 ≤ (pc : Int) + o) (hp : ((pc : Int) + o).toNat = pc') (k : Go p e below s T (mkF m pc' Ls rest) Q kc ks) : Go p e below s T (mkF m pc Ls (.null :: rest)) Q kc ks :=
  Go.step (fun _ => XS.ifnullYes X.here hx (g := mkF m pc Ls (.null :: rest)) rfl rfl hd rfl ho hp) k
theorem Go.ifnullNo {a : Addr} {o : Int} (X : Stand p l e R s m args below meth c T locs cells slots) (hx : p.tables.exec = Jvm.exec) (hd : decode c.code pc = .ok (.ifnull o, 3)) (k : Go p e below s T (mkF m (pc + 3) Ls rest) Q kc ks) : Go p e below s T (mkF m pc Ls (.ref a :: rest)) Q kc ks :=
  Go.step (fun _ => XS.ifnullNo X.here hx (g := mkF m pc Ls (.ref a :: rest)) rfl hd rfl) k
theorem Go.ifnonnullYes {a : Addr} {o : Int} {pc' : Nat} (X : Stand p l e R s m args below meth c T locs cells slots) (hx : p.tables.exec = Jvm.exec) (hd : decode c.code pc = .ok (.ifnonnull o, 3)) (ho : 0 ≤ (pc : Int) + o) (hp : ((pc : Int) + o).toNat = pc') (k : Go p e below s T (mkF m pc' Ls rest) Q kc ks) : Go p e below s T (mkF m pc Ls (.ref a :: rest)) Q kc ks :=
  Go.step (fun _ => XT.ifnonnullYes X.here hx (g := mkF m pc Ls (.ref a :: rest)) rfl rfl hd rfl ho hp) k
theorem Go.ifnonnullNo {a : Addr} {o : Int} (X : Stand p l e R s m args below meth c T locs cells slots) (hx : p.tables.exec = Jvm.exec) (hd : decode c.code pc = .ok (.ifnonnull o, 3)) (k : Go p e below s T (mkF m (pc + 3) Ls rest) Q kc ks) : Go p e below s T (mkF m pc Ls (.null :: rest)) Q kc ks :=
  Go.step (fun _ => XT.ifnonnullNo X.here hx (g := mkF m pc Ls (.null :: rest)) rfl hd rfl) k
end Steps
section Conds
variable {x y : Int32} {u v : Int64} {a b : Addr}
theorem ac_eq_p (h : a = b) : XT.acmp .eq (.ref a) (.ref b) = true := by simp [XT.acmp, h]
theorem ac_eq_n (h : ¬ a = b) : XT.acmp .eq (.ref a) (.ref b) = false := by simp [XT.acmp, h]
theorem ac_ne_p (h : a = b) : XT.acmp .ne (.ref a) (.ref b) = false := by simp [XT.acmp, h]
theorem ac_ne_n (h : ¬ a = b) : XT.acmp .ne (.ref a) (.ref b) = true := by simp [XT.acmp, h]
end Conds
end Jvm.OwnK
namespace Jvm.OwnK
open Sem ClassFile Op Lib Jvm.Free Jvm.Stand Jvm.LawKit Jvm.RoadKit
section Heap
variable {p : Program} {l : Launch} {e : Env} {R : Room} {s : State} {m : MethodId} {args : Array Value} {below : List Frame} {meth : Method} {c : Code} {T T' : State} {locs : List Loc} {cells slots : Nat} {Q : Option Value → Heap → List Loc → Prop} {kc ks : Nat} {Z : State} {a0 : Array Value} {h h' : Heap} {pc : Nat} {Ls : Array Slot} {rest : List Value}
theorem Go.getF {own R0 O n d : String} {index : Nat} {a : Addr} {v : Value} (X : Stand p l e R s m args below meth c T locs cells slots) (hx : p.tables.exec = Jvm.exec) (hZ : Z.Warmed39 s.vm) (hown : s.vm.findClass own = some m.cls) (w : (Jvm.Cond.fieldLink own index R0 n d).before a0 Z = true) (via : Via Z R0 O n d) (eT : T.heap = h) (F : Fld Z h a O n d v) (hd : decode c.code pc = .ok (.getfield index, 3))
    (k : ∀ T', Stand p l e R s m args below meth c T' locs cells slots → T'.heap = h → Go p e below s T' (mkF m (pc + 3) Ls (v :: rest)) Q kc ks) : Go p e below s T (mkF m pc Ls (.ref a :: rest)) Q kc ks := by
  obtain ⟨T', X', e', st⟩ := RoadKit.getF X hx hZ hown (host := "") (Or.inl w) via eT F (g := mkF m pc Ls (.ref a :: rest)) rfl rfl hd
  exact Go.step st (k T' X' e')
theorem Go.getS {own R0 O n d : String} {index : Nat} {v : Value} (X : Stand p l e R s m args below meth c T locs cells slots) (hx : p.tables.exec = Jvm.exec) (hZ : Z.Warmed39 s.vm) (hown : s.vm.findClass own = some m.cls) (w : (Jvm.Cond.fieldLink own index R0 n d).before a0 Z = true) (via : Via Z R0 O n d) (eT : T.heap = h) (F : Sta Z h O n d v) (hd : decode c.code pc = .ok (.getstatic index, 3))
    (k : ∀ T', Stand p l e R s m args below meth c T' locs cells slots → T'.heap = h → Go p e below s T' (mkF m (pc + 3) Ls (v :: rest)) Q kc ks) : Go p e below s T (mkF m pc Ls rest) Q kc ks := by
  obtain ⟨T', X', e', st⟩ := RoadKit.getS X hx hZ hown (host := "") w via eT F (g := mkF m pc Ls rest) rfl hd
  exact Go.step st (k T' X' e')
theorem Go.putF {own R0 O n d C : String} {index kk : Nat} {ty : FieldType} {a : Addr} {v old : Value} (X : Stand p l e R s m args below meth c T locs cells slots) (hx : p.tables.exec = Jvm.exec) (hZ : Z.Warmed39 s.vm) (hown : s.vm.findClass own = some m.cls) (w : (Jvm.Cond.fieldLink own index R0 n d).before a0 Z = true) (via : Via Z R0 O n d) (eT : T.heap = h) (F : Fld Z h a O n d old) (E : Exa Z h a C)
    (L : (Jvm.Cond.lays C O n d).before a0 Z = true ∨ ((Jvm.Cond.laysFinal C O n d).before a0 Z = true ∧ own = O ∧ meth.name = "<init>")) (wi : (Jvm.Cond.instantiable C kk).before a0 Z = true) (hty : parseFieldDescriptor d = some ty) (hn : narrow ty v = v) (hf : fits ty v = true) (hd : decode c.code pc = .ok (.putfield index, 3))
    (k : ∀ T' h', Stand p l e R s m args below meth c T' (locs ++ [⟨a, Jvm.RoadKit.slotOf Z O n d⟩]) cells slots → T'.heap = h' → Wr h h' a (Jvm.RoadKit.slotOf Z O n d) v → Go p e below s T' (mkF m (pc + 3) Ls rest) Q kc ks) : Go p e below s T (mkF m pc Ls (v :: .ref a :: rest)) Q kc ks := by
  obtain ⟨T', h', X', e', W, st⟩ := RoadKit.putF X hx hZ hown (host := "") (Or.inl w) via eT F E L wi hty hn hf (g := mkF m pc Ls (v :: .ref a :: rest)) rfl rfl hd
  exact Go.step st (k T' h' X' e' W)
theorem Go.initO {own : String} {idx : Nat} {W : Nat} {a : Addr} (X : Stand p l e R s m args below meth c T locs cells slots) (hx : p.tables.exec = Jvm.exec) (hZ : Z.Warmed39 s.vm) (hown : s.vm.findClass own = some m.cls) (w1 : (Jvm.Cond.methodLink own idx Lib.objectInit).before a0 Z = true) (w2 : (Jvm.Cond.instanceMethod Lib.objectInit).before a0 Z = true)
    (w3 : (Jvm.Cond.code Lib.objectInit ⟨#[0xb1]⟩ 1 none).before a0 Z = true) (eT : T.heap = h) (hd : decode c.code pc = .ok (.invokespecial idx, 3)) (hsize : Ls.size = c.maxLocals) (hW : (rest.map fun v => v.category).sum ≤ W) (hf : 1 ≤ R.frames) (hl : W + 12 ≤ R.locals)
    (k : ∀ T', Stand p l e R s m args below meth c T' locs cells slots → T'.heap = h → Go p e below s T' (mkF m (pc + 3) Ls rest) Q kc ks) : Go p e below s T (mkF m pc Ls (.ref a :: rest)) Q kc ks := by
  obtain ⟨T', X', e', st⟩ := RoadKit.initO X hx hZ hown w1 w2 w3 eT (g := mkF m pc Ls (.ref a :: rest)) rfl hsize rfl hd hf (W := W) (by show 2 * 0 + _ ≤ _; omega) hl
  exact Go.step st (k T' X' e')
theorem Go.newO {own C : String} {index n : Nat} (X : Stand p l e R s m args below meth c T locs cells slots) (hx : p.tables.exec = Jvm.exec) (hZ : Z.Warmed39 s.vm) (hown : s.vm.findClass own = some m.cls) (w : (Jvm.Cond.classLink own index C).before a0 Z = true) (wi : (Jvm.Cond.instantiable C n).before a0 Z = true) (wz : (Jvm.Cond.initialized C).before a0 Z = true) (eT : T.heap = h)
    (hd : decode c.code pc = .ok (.new index, 3)) (hc : cells + 1 ≤ R.cells) (hl : slots + n ≤ R.slots)
    (k : ∀ T' h' a, a = h.size → Stand p l e R s m args below meth c T' locs (cells + 1) (slots + n) → T'.heap = h' → Ext h h' → Exa Z h' a C → (∀ {O nm d : String} {ty : FieldType}, Laid Z a0 C O nm d → parseFieldDescriptor d = some ty → Fld Z h' a O nm d (defaultValue ty)) →
      Go p e below s T' (mkF m (pc + 3) Ls (.ref a :: rest)) Q kc ks) : Go p e below s T (mkF m pc Ls rest) Q kc ks := by
  obtain ⟨T', h', X', e', E, A, D, -, st⟩ := RoadKit.newO X hx hZ hown w wi wz eT (g := mkF m pc Ls rest) rfl hd hc hl
  exact Go.step st (k T' h' _ rfl X' e' E A D)
theorem Go.ccast {own K : String} {index : Nat} {a : Addr} (X : Stand p l e R s m args below meth c T locs cells slots) (hx : p.tables.exec = Jvm.exec) (hZ : Z.Warmed39 s.vm) (hown : s.vm.findClass own = some m.cls) (w : (Jvm.Cond.classLink own index K).before a0 Z = true) (eT : T.heap = h) (F : Ins Z h a K true) (hd : decode c.code pc = .ok (.checkcast index, 3))
    (k : ∀ T', Stand p l e R s m args below meth c T' locs cells slots → T'.heap = h → Go p e below s T' (mkF m (pc + 3) Ls (.ref a :: rest)) Q kc ks) : Go p e below s T (mkF m pc Ls (.ref a :: rest)) Q kc ks := by
  obtain ⟨T', X', e', st⟩ := castY X hx hZ hown w eT F (g := mkF m pc Ls (.ref a :: rest)) rfl rfl hd
  exact Go.step st (k T' X' e')
theorem Go.instY {own K : String} {index : Nat} {a : Addr} (X : Stand p l e R s m args below meth c T locs cells slots) (hx : p.tables.exec = Jvm.exec) (hZ : Z.Warmed39 s.vm) (hown : s.vm.findClass own = some m.cls) (w : (Jvm.Cond.classLink own index K).before a0 Z = true) (eT : T.heap = h) (F : Ins Z h a K true) (hd : decode c.code pc = .ok (.instanceof index, 3))
    (k : ∀ T', Stand p l e R s m args below meth c T' locs cells slots → T'.heap = h → Go p e below s T' (mkF m (pc + 3) Ls (.int 1 :: rest)) Q kc ks) : Go p e below s T (mkF m pc Ls (.ref a :: rest)) Q kc ks := by
  obtain ⟨T', X', e', st⟩ := RoadKit.instY X hx hZ hown w eT F (g := mkF m pc Ls (.ref a :: rest)) rfl rfl hd
  exact Go.step st (k T' X' e')
theorem Go.instNull {index : Nat} (X : Stand p l e R s m args below meth c T locs cells slots) (hx : p.tables.exec = Jvm.exec) (hd : decode c.code pc = .ok (.instanceof index, 3))
    (k : Go p e below s T (mkF m (pc + 3) Ls (.int 0 :: rest)) Q kc ks) : Go p e below s T (mkF m pc Ls (.null :: rest)) Q kc ks :=
  Go.step (X.instanceofNull hx (g := mkF m pc Ls (.null :: rest)) rfl rfl hd) k
theorem Go.instNo {own K C : String} {index : Nat} {a : Addr} (X : Stand p l e R s m args below meth c T locs cells slots) (hx : p.tables.exec = Jvm.exec) (hZ : Z.Warmed39 s.vm) (hown : s.vm.findClass own = some m.cls) (w : (Jvm.Cond.classLink own index K).before a0 Z = true) (eT : T.heap = h) (E : Exa Z h a C) (F : ∃ c t, Z.vm.findClass C = some c ∧ Z.vm.findClass K = some t ∧ Z.vm.assignable c t = false) (hd : decode c.code pc = .ok (.instanceof index, 3))
    (k : ∀ T', Stand p l e R s m args below meth c T' locs cells slots → T'.heap = h → Go p e below s T' (mkF m (pc + 3) Ls (.int 0 :: rest)) Q kc ks) : Go p e below s T (mkF m pc Ls (.ref a :: rest)) Q kc ks := by
  obtain ⟨T', X', e', st⟩ := RoadKit.instNo X hx hZ hown w eT E F (g := mkF m pc Ls (.ref a :: rest)) rfl rfl hd
  exact Go.step st (k T' X' e')
/-- an array: its class, length n, its component i is f i -/
def Af (Z : State) (h : Heap) (a : Addr) (k : ClassId) (ty : FieldType) (n : Nat) (f : Nat → Value) : Prop := ∃ c : Cell, Arr Z h a c ty ∧ c.cls = k ∧ c.slots.size = n ∧ n < 2 ^ 31 ∧ ∀ i, i < n → c.slots[i]? = some (f i)
def updV (f : Nat → Value) (j : Nat) (v : Value) : Nat → Value := fun i => if i = j then v else f i
variable {a b : Addr} {cid : ClassId} {ty : FieldType} {n : Nat} {f f' : Nat → Value} {ws : List Addr} {sl : Nat} {v : Value}
theorem Af.lt (F : Af Z h a cid ty n f) : a < h.size := by obtain ⟨_, A, -⟩ := F; exact A.lt
theorem Af.ext (E : Ext h h') (F : Af Z h a cid ty n f) : Af Z h' a cid ty n f := by obtain ⟨cl, A, r⟩ := F; exact ⟨cl, A.ext E, r⟩
theorem Af.other (W : Wr h h' b sl v) (F : Af Z h a cid ty n f) (q : a ≠ b) : Af Z h' a cid ty n f := by obtain ⟨cl, A, r⟩ := F; exact ⟨cl, A.other W q, r⟩
theorem Af.keep (F : Af Z h a cid ty n f) (K : Keep h h' ws) (q : a ∉ ws) : Af Z h' a cid ty n f := by obtain ⟨cl, A, r⟩ := F; exact ⟨cl, ⟨K.2.1 a cl A.1 q, A.2⟩, r⟩
theorem Af.congr (F : Af Z h a cid ty n f) (q : ∀ i, i < n → f' i = f i) : Af Z h a cid ty n f' := by obtain ⟨cl, A, r1, r2, r3, r4⟩ := F; exact ⟨cl, A, r1, r2, r3, fun i hi => by rw [q i hi]; exact r4 i hi⟩
theorem Af.set (F : Af Z h a cid ty n f) (W : Wr h h' a sl v) : Af Z h' a cid ty n (updV f sl v) := by
  obtain ⟨cl, A, r1, r2, r3, r4⟩ := F
  refine ⟨_, A.same W, r1, by rw [sz_set]; exact r2, r3, fun i hi => ?_⟩
  by_cases q : i = sl
  · subst q; simp [updV, Cell.setSlot, r2, hi]
  · simp only [updV, if_neg q]; rw [← r4 i hi]; simp [Cell.setSlot, Array.getElem?_setIfInBounds, Ne.symm q]
theorem Af.arv (A : Arr Z h a (newA cid ty z) ty) (q : ¬ z < 0) : Af Z h a cid ty z.toNatClampNeg (fun _ => defaultValue ty) :=
  ⟨_, A, rfl, sz_new _ _ _, by have := (back32 q).2; exact this, fun i hi => by simp [newA, hi]⟩
def updI (g : Nat → Int32) (j : Nat) (v : Int32) : Nat → Int32 := fun i => if i = j then v else g i
def updJ (g : Nat → Int64) (j : Nat) (v : Int64) : Nat → Int64 := fun i => if i = j then v else g i
theorem Af.updI {g : Nat → Int32} {j : Nat} {x : Int32} (A : Af Z h a cid ty n (updV (fun i => Value.int (g i)) j (.int x))) : Af Z h a cid ty n (fun i => Value.int (Jvm.OwnK.updI g j x i)) :=
  A.congr fun i _ => by simp only [Jvm.OwnK.updI, updV]; split <;> rfl
theorem Af.updJ {g : Nat → Int64} {j : Nat} {x : Int64} (A : Af Z h a cid ty n (updV (fun i => Value.long (g i)) j (.long x))) : Af Z h a cid ty n (fun i => Value.long (Jvm.OwnK.updJ g j x i)) :=
  A.congr fun i _ => by simp only [Jvm.OwnK.updJ, updV]; split <;> rfl
theorem in_of {cl : Cell} {j : Int32} (r2 : cl.slots.size = n) (h1 : ¬ j < 0) (h2 : j.toNatClampNeg < n) : ¬ (j < 0 ∨ cl.slots.size ≤ j.toNatClampNeg) := fun q => q.elim h1 fun z => by omega
theorem Go.alen (X : Stand p l e R s m args below meth c T locs cells slots) (hx : p.tables.exec = Jvm.exec) (hZ : Z.Warmed39 s.vm) (eT : T.heap = h) (A : Af Z h a cid ty n f) (hd : decode c.code pc = .ok (.arraylength, 1)) (k : Go p e below s T (mkF m (pc + 1) Ls (.int n.toInt32 :: rest)) Q kc ks) : Go p e below s T (mkF m pc Ls (.ref a :: rest)) Q kc ks := by
  obtain ⟨cl, A1, -, r2, -⟩ := A
  subst r2
  exact Go.step (fun target => X.arraylength hx (by rw [eT]; exact A1.1) (State.isArrayOf_alike hZ.alike A1.2.1) (g := mkF m pc Ls (.ref a :: rest)) rfl rfl hd target) k
theorem Go.iaload {j : Int32} (X : Stand p l e R s m args below meth c T locs cells slots) (hx : p.tables.exec = Jvm.exec) (hZ : Z.Warmed39 s.vm) (eT : T.heap = h) (A : Af Z h a cid .int n f) (h1 : ¬ j < 0) (h2 : j.toNatClampNeg < n) (hd : decode c.code pc = .ok (.iaload, 1)) (k : Go p e below s T (mkF m (pc + 1) Ls (f j.toNatClampNeg :: rest)) Q kc ks) : Go p e below s T (mkF m pc Ls (.int j :: .ref a :: rest)) Q kc ks := by
  obtain ⟨cl, A1, -, r2, -, r4⟩ := A
  exact Go.step (fun target => X.iaload hx (by rw [eT]; exact A1.1) (State.isArrayOf_alike hZ.alike A1.2.1) A1.2.2 (in_of r2 h1 h2) (r4 _ h2) (g := mkF m pc Ls (.int j :: .ref a :: rest)) rfl rfl hd target) k
theorem Go.laload {j : Int32} (X : Stand p l e R s m args below meth c T locs cells slots) (hx : p.tables.exec = Jvm.exec) (hZ : Z.Warmed39 s.vm) (eT : T.heap = h) (A : Af Z h a cid .long n f) (h1 : ¬ j < 0) (h2 : j.toNatClampNeg < n) (hd : decode c.code pc = .ok (.laload, 1)) (k : Go p e below s T (mkF m (pc + 1) Ls (f j.toNatClampNeg :: rest)) Q kc ks) : Go p e below s T (mkF m pc Ls (.int j :: .ref a :: rest)) Q kc ks := by
  obtain ⟨cl, A1, -, r2, -, r4⟩ := A
  exact Go.step (fun target => X.laload hx (by rw [eT]; exact A1.1) (State.isArrayOf_alike hZ.alike A1.2.1) A1.2.2 (in_of r2 h1 h2) (r4 _ h2) (g := mkF m pc Ls (.int j :: .ref a :: rest)) rfl rfl hd target) k
theorem Go.caload {j : Int32} (X : Stand p l e R s m args below meth c T locs cells slots) (hx : p.tables.exec = Jvm.exec) (hZ : Z.Warmed39 s.vm) (eT : T.heap = h) (A : Af Z h a cid .char n f) (h1 : ¬ j < 0) (h2 : j.toNatClampNeg < n) (hd : decode c.code pc = .ok (.caload, 1)) (k : Go p e below s T (mkF m (pc + 1) Ls (f j.toNatClampNeg :: rest)) Q kc ks) : Go p e below s T (mkF m pc Ls (.int j :: .ref a :: rest)) Q kc ks := by
  obtain ⟨cl, A1, -, r2, -, r4⟩ := A
  exact Go.step (fun target => X.caload hx (by rw [eT]; exact A1.1) (State.isArrayOf_alike hZ.alike A1.2.1) A1.2.2 (in_of r2 h1 h2) (r4 _ h2) (g := mkF m pc Ls (.int j :: .ref a :: rest)) rfl rfl hd target) k
theorem Go.aaload {j : Int32} (X : Stand p l e R s m args below meth c T locs cells slots) (hx : p.tables.exec = Jvm.exec) (hZ : Z.Warmed39 s.vm) (eT : T.heap = h) (A : Af Z h a cid ty n f) (hty : ty.isReference = true) (h1 : ¬ j < 0) (h2 : j.toNatClampNeg < n) (hd : decode c.code pc = .ok (.aaload, 1)) (k : Go p e below s T (mkF m (pc + 1) Ls (f j.toNatClampNeg :: rest)) Q kc ks) : Go p e below s T (mkF m pc Ls (.int j :: .ref a :: rest)) Q kc ks := by
  obtain ⟨cl, A1, -, r2, -, r4⟩ := A
  exact Go.step (fun target => X.aaload hx (by rw [eT]; exact A1.1) (State.isArrayOf_alike hZ.alike A1.2.1) hty A1.2.2 (in_of r2 h1 h2) (r4 _ h2) (g := mkF m pc Ls (.int j :: .ref a :: rest)) rfl rfl hd target) k
theorem Go.baloadB {j : Int32} (X : Stand p l e R s m args below meth c T locs cells slots) (hx : p.tables.exec = Jvm.exec) (hZ : Z.Warmed39 s.vm) (eT : T.heap = h) (A : Af Z h a cid .byte n f) (h1 : ¬ j < 0) (h2 : j.toNatClampNeg < n) (hd : decode c.code pc = .ok (.baload, 1)) (k : Go p e below s T (mkF m (pc + 1) Ls (f j.toNatClampNeg :: rest)) Q kc ks) : Go p e below s T (mkF m pc Ls (.int j :: .ref a :: rest)) Q kc ks := by
  obtain ⟨cl, A1, -, r2, -, r4⟩ := A
  exact Go.step (fun target => X.baloadBytes hx (by rw [eT]; exact A1.1) (State.isArrayOf_alike hZ.alike A1.2.1) A1.2.2 (in_of r2 h1 h2) (r4 _ h2) (g := mkF m pc Ls (.int j :: .ref a :: rest)) rfl rfl hd target) k
theorem Go.baloadZ {j : Int32} (X : Stand p l e R s m args below meth c T locs cells slots) (hx : p.tables.exec = Jvm.exec) (hZ : Z.Warmed39 s.vm) (eT : T.heap = h) (A : Af Z h a cid .boolean n f) (h1 : ¬ j < 0) (h2 : j.toNatClampNeg < n) (hd : decode c.code pc = .ok (.baload, 1)) (k : Go p e below s T (mkF m (pc + 1) Ls (f j.toNatClampNeg :: rest)) Q kc ks) : Go p e below s T (mkF m pc Ls (.int j :: .ref a :: rest)) Q kc ks := by
  obtain ⟨cl, A1, -, r2, -, r4⟩ := A
  exact Go.step (fun target => X.baloadBooleans hx (by rw [eT]; exact A1.1) (State.isArrayOf_alike hZ.alike A1.2.1) A1.2.2 (in_of r2 h1 h2) (r4 _ h2) (g := mkF m pc Ls (.int j :: .ref a :: rest)) rfl rfl hd target) k
theorem Go.iastore {j x : Int32} (X : Stand p l e R s m args below meth c T locs cells slots) (hx : p.tables.exec = Jvm.exec) (hZ : Z.Warmed39 s.vm) (eT : T.heap = h) (A : Af Z h a cid .int n f) (h1 : ¬ j < 0) (h2 : j.toNatClampNeg < n) (hd : decode c.code pc = .ok (.iastore, 1))
    (k : ∀ T' h', Stand p l e R s m args below meth c T' (locs ++ [⟨a, j.toNatClampNeg⟩]) cells slots → T'.heap = h' → Wr h h' a j.toNatClampNeg (.int x) → Af Z h' a cid .int n (updV f j.toNatClampNeg (.int x)) → Go p e below s T' (mkF m (pc + 1) Ls rest) Q kc ks) : Go p e below s T (mkF m pc Ls (.int x :: .int j :: .ref a :: rest)) Q kc ks := by
  have A' := A
  obtain ⟨cl, A1, -, r2, -, r4⟩ := A
  obtain ⟨T', h', X', e', W, st⟩ := stI X hx hZ eT A1 (in_of r2 h1 h2) (g := mkF m pc Ls (.int x :: .int j :: .ref a :: rest)) rfl rfl hd
  exact Go.step st (k T' h' X' e' W (A'.set W))
theorem Go.lastore {j : Int32} {x : Int64} (X : Stand p l e R s m args below meth c T locs cells slots) (hx : p.tables.exec = Jvm.exec) (hZ : Z.Warmed39 s.vm) (eT : T.heap = h) (A : Af Z h a cid .long n f) (h1 : ¬ j < 0) (h2 : j.toNatClampNeg < n) (hd : decode c.code pc = .ok (.lastore, 1))
    (k : ∀ T' h', Stand p l e R s m args below meth c T' (locs ++ [⟨a, j.toNatClampNeg⟩]) cells slots → T'.heap = h' → Wr h h' a j.toNatClampNeg (.long x) → Af Z h' a cid .long n (updV f j.toNatClampNeg (.long x)) → Go p e below s T' (mkF m (pc + 1) Ls rest) Q kc ks) : Go p e below s T (mkF m pc Ls (.long x :: .int j :: .ref a :: rest)) Q kc ks := by
  have A' := A
  obtain ⟨cl, A1, -, r2, -, r4⟩ := A
  obtain ⟨T', h', X', e', W, st⟩ := stJ X hx hZ eT A1 (in_of r2 h1 h2) (g := mkF m pc Ls (.long x :: .int j :: .ref a :: rest)) rfl rfl hd
  exact Go.step st (k T' h' X' e' W (A'.set W))
theorem Go.bastoreB {j x : Int32} (X : Stand p l e R s m args below meth c T locs cells slots) (hx : p.tables.exec = Jvm.exec) (hZ : Z.Warmed39 s.vm) (eT : T.heap = h) (A : Af Z h a cid .byte n f) (h1 : ¬ j < 0) (h2 : j.toNatClampNeg < n) (hd : decode c.code pc = .ok (.bastore, 1))
    (k : ∀ T' h', Stand p l e R s m args below meth c T' (locs ++ [⟨a, j.toNatClampNeg⟩]) cells slots → T'.heap = h' → Wr h h' a j.toNatClampNeg (.int x.toInt8.toInt32) → Af Z h' a cid .byte n (updV f j.toNatClampNeg (.int x.toInt8.toInt32)) → Go p e below s T' (mkF m (pc + 1) Ls rest) Q kc ks) : Go p e below s T (mkF m pc Ls (.int x :: .int j :: .ref a :: rest)) Q kc ks := by
  have A' := A
  obtain ⟨cl, A1, -, r2, -, r4⟩ := A
  obtain ⟨T', h', X', e', W, st⟩ := stB X hx hZ eT A1 (in_of r2 h1 h2) (g := mkF m pc Ls (.int x :: .int j :: .ref a :: rest)) rfl rfl hd
  exact Go.step st (k T' h' X' e' W (A'.set W))
theorem Go.bastoreZ {j x : Int32} (X : Stand p l e R s m args below meth c T locs cells slots) (hx : p.tables.exec = Jvm.exec) (hZ : Z.Warmed39 s.vm) (eT : T.heap = h) (A : Af Z h a cid .boolean n f) (h1 : ¬ j < 0) (h2 : j.toNatClampNeg < n) (hd : decode c.code pc = .ok (.bastore, 1))
    (k : ∀ T' h', Stand p l e R s m args below meth c T' (locs ++ [⟨a, j.toNatClampNeg⟩]) cells slots → T'.heap = h' → Wr h h' a j.toNatClampNeg (.int (nar .boolean x)) → Af Z h' a cid .boolean n (updV f j.toNatClampNeg (.int (nar .boolean x))) → Go p e below s T' (mkF m (pc + 1) Ls rest) Q kc ks) : Go p e below s T (mkF m pc Ls (.int x :: .int j :: .ref a :: rest)) Q kc ks := by
  have A' := A
  obtain ⟨cl, A1, -, r2, -, r4⟩ := A
  obtain ⟨T', h', X', e', W, st⟩ := stZ X hx hZ eT A1 (in_of r2 h1 h2) (g := mkF m pc Ls (.int x :: .int j :: .ref a :: rest)) rfl rfl hd
  exact Go.step st (k T' h' X' e' W (A'.set W))
theorem Go.castore {j x : Int32} (X : Stand p l e R s m args below meth c T locs cells slots) (hx : p.tables.exec = Jvm.exec) (hZ : Z.Warmed39 s.vm) (eT : T.heap = h) (A : Af Z h a cid .char n f) (h1 : ¬ j < 0) (h2 : j.toNatClampNeg < n) (hd : decode c.code pc = .ok (.castore, 1))
    (k : ∀ T' h', Stand p l e R s m args below meth c T' (locs ++ [⟨a, j.toNatClampNeg⟩]) cells slots → T'.heap = h' → Wr h h' a j.toNatClampNeg (.int (nar .char x)) → Af Z h' a cid .char n (updV f j.toNatClampNeg (.int (nar .char x))) → Go p e below s T' (mkF m (pc + 1) Ls rest) Q kc ks) : Go p e below s T (mkF m pc Ls (.int x :: .int j :: .ref a :: rest)) Q kc ks := by
  have A' := A
  obtain ⟨cl, A1, -, r2, -, r4⟩ := A
  obtain ⟨T', h', X', e', W, st⟩ := stC X hx hZ eT A1 (in_of r2 h1 h2) (g := mkF m pc Ls (.int x :: .int j :: .ref a :: rest)) rfl rfl hd
  exact Go.step st (k T' h' X' e' W (A'.set W))
theorem Go.aastore {j : Int32} {C : String} {y : Addr} (X : Stand p l e R s m args below meth c T locs cells slots) (hx : p.tables.exec = Jvm.exec) (hZ : Z.Warmed39 s.vm) (eT : T.heap = h) (A : Af Z h a cid ty n f) (hty : ty.isReference = true) (O : Ovr Z cid C) (I : Ins Z h y C true) (h1 : ¬ j < 0) (h2 : j.toNatClampNeg < n) (hd : decode c.code pc = .ok (.aastore, 1))
    (k : ∀ T' h', Stand p l e R s m args below meth c T' (locs ++ [⟨a, j.toNatClampNeg⟩]) cells slots → T'.heap = h' → Wr h h' a j.toNatClampNeg (.ref y) → Af Z h' a cid ty n (updV f j.toNatClampNeg (.ref y)) → Go p e below s T' (mkF m (pc + 1) Ls rest) Q kc ks) : Go p e below s T (mkF m pc Ls (.ref y :: .int j :: .ref a :: rest)) Q kc ks := by
  have A' := A
  obtain ⟨cl, A1, r1, r2, -, r4⟩ := A
  obtain ⟨T', h', X', e', W, st⟩ := stR X hx hZ eT A1 (in_of r2 h1 h2) hty (Sto.ofV A1 r1 O I) (g := mkF m pc Ls (.ref y :: .int j :: .ref a :: rest)) rfl rfl hd
  exact Go.step st (k T' h' X' e' W (A'.set W))
theorem Go.newarray {aty : ArrayType} {z : Int32} {cap : Nat} (X : Stand p l e R s m args below meth c T locs cells slots) (hx : p.tables.exec = Jvm.exec) (hZ : Z.Warmed39 s.vm) (w : (Jvm.Cond.arrayClass (newarray.typeOf aty)).before a0 Z = true) (eT : T.heap = h) (hd : decode c.code pc = .ok (.newarray aty, 2)) (hn : ¬ z < 0) (hcap : z.toNatClampNeg ≤ cap) (hb : cap * 8 ≤ 536870912) (hc : cells + 1 ≤ R.cells) (hl : slots + cap ≤ R.slots)
    (k : ∀ T' h' a cA, a = h.size → Stand p l e R s m args below meth c T' locs (cells + 1) (slots + cap) → T'.heap = h' → Ext h h' → Af Z h' a cA (newarray.typeOf aty) z.toNatClampNeg (fun _ => defaultValue (newarray.typeOf aty)) → Go p e below s T' (mkF m (pc + 2) Ls (.ref a :: rest)) Q kc ks) : Go p e below s T (mkF m pc Ls (.int z :: rest)) Q kc ks := by
  obtain ⟨T', h', cA, X', e', E, A, st⟩ := newP X hx hZ w eT (g := mkF m pc Ls (.int z :: rest)) rfl hd rfl hn hcap hb hc hl
  exact Go.step st (k T' h' _ cA rfl X' e' E (Af.arv A hn))
theorem Go.anewarray {own C : String} {index : Nat} {z : Int32} {cap : Nat} (X : Stand p l e R s m args below meth c T locs cells slots) (hx : p.tables.exec = Jvm.exec) (hZ : Z.Warmed39 s.vm) (hown : s.vm.findClass own = some m.cls) (w1 : (Jvm.Cond.classLink own index C).before a0 Z = true) (w2 : (Jvm.Cond.arrayOver (.object C)).before a0 Z = true) (eT : T.heap = h) (hd : decode c.code pc = .ok (.anewarray index, 3)) (hn : ¬ z < 0) (hcap : z.toNatClampNeg ≤ cap) (hb : cap * 8 ≤ 536870912) (hc : cells + 1 ≤ R.cells) (hl : slots + cap ≤ R.slots)
    (k : ∀ T' h' a cA, a = h.size → Stand p l e R s m args below meth c T' locs (cells + 1) (slots + cap) → T'.heap = h' → Ext h h' → Af Z h' a cA (.object C) z.toNatClampNeg (fun _ => .null) → Ovr Z cA C → Go p e below s T' (mkF m (pc + 3) Ls (.ref a :: rest)) Q kc ks) : Go p e below s T (mkF m pc Ls (.int z :: rest)) Q kc ks := by
  obtain ⟨T', h', cA, X', e', E, A, O, st⟩ := newR X hx hZ hown w1 w2 eT (g := mkF m pc Ls (.int z :: rest)) rfl hd rfl hn hcap hb hc hl
  exact Go.step st (k T' h' _ cA rfl X' e' E (Af.arv A hn) O)
theorem Go.clone {own ad : String} {index W cap : Nat} (X : Stand p l e R s m args below meth c T locs cells slots) (hx : p.tables.exec = Jvm.exec) (hZ : Z.Warmed39 s.vm) (hown : s.vm.findClass own = some m.cls)
    (w1 : (Jvm.Cond.methodLink own index ⟨ad, "clone", "()Ljava/lang/Object;"⟩).before a0 Z = true) (w2 : (Jvm.Cond.sameMethod ad "java/lang/Object" "clone" "()Ljava/lang/Object;").before a0 Z = true) (w3 : (Jvm.Cond.native ⟨"java/lang/Object", "clone", "()Ljava/lang/Object;"⟩).before a0 Z = true)
    (w4 : (Jvm.Cond.instanceMethod ⟨"java/lang/Object", "clone", "()Ljava/lang/Object;"⟩).before a0 Z = true) (w5 : (Jvm.Cond.selects ad ⟨ad, "clone", "()Ljava/lang/Object;"⟩ ⟨"java/lang/Object", "clone", "()Ljava/lang/Object;"⟩).before a0 Z = true) (w6 : (Jvm.Cond.castable ad "java/lang/Cloneable").before a0 Z = true)
    (eT : T.heap = h) (A : Af Z h a cid ty n f) (E : Exa Z h a ad) (F : ∀ cl : Cell, h[a]? = some cl → FitC Z cl) (hd : decode c.code pc = .ok (.invokevirtual index, 3)) (hsize : Ls.size = c.maxLocals) (hW : (rest.map fun v => v.category).sum ≤ W) (hf : 1 ≤ R.frames) (hl : W + 14 ≤ R.locals) (hcap : n ≤ cap) (hc : cells + 1 ≤ R.cells) (hsl : slots + cap ≤ R.slots)
    (k : ∀ T' h' b, b = h.size → Stand p l e R s m args below meth c T' locs (cells + 1) (slots + cap) → T'.heap = h' → Ext h h' → Af Z h' b cid ty n f → Exa Z h' b ad → Go p e below s T' (mkF m (pc + 3) Ls (.ref b :: rest)) Q kc ks) : Go p e below s T (mkF m pc Ls (.ref a :: rest)) Q kc ks := by
  obtain ⟨cl, A1, r1, r2, r3, r4⟩ := A
  obtain ⟨T', h', X', e', Ex, A2, E2, st⟩ := cloneA X hx hZ hown w1 w2 w3 w4 w5 w6 eT A1 E (F cl A1.1) (g := mkF m pc Ls (.ref a :: rest)) rfl hsize rfl hd hf (W := W) (cap := cap) (by show 2 * 0 + _ ≤ _; omega) hl (by rw [r2]; exact hcap) hc hsl
  exact Go.step st (k T' h' _ rfl X' e' Ex ⟨_, A2, r1, r2, r3, r4⟩ E2)
/-- the call of a private method by invokevirtual, by its contract -/
theorem Go.callP {own C : String} {index kk : Nat} {y : MethodName} {bytes : ByteArray} {maxL : Nat} {ret : Option FieldType} {rm : Room} {argsL : List Value} {Q' : Option Value → Heap → List Loc → Prop} {W : Nat} {st : List Value}
    (X : Stand p l e R s m args below meth c T locs cells slots) (hx : p.tables.exec = Jvm.exec) (hZ : Z.Warmed39 s.vm) (hown : s.vm.findClass own = some m.cls)
    (w1 : (Jvm.Cond.methodLink own index y).before a0 Z = true) (w2 : (Jvm.Cond.instanceMethod y).before a0 Z = true) (wp : (Jvm.Cond.privateMethod y).before a0 Z = true) (wi : (Jvm.Cond.instantiable y.cls kk).before a0 Z = true) (w3 : (Jvm.Cond.initialized y.cls).before a0 Z = true) (w4 : (Jvm.Cond.code y bytes maxL ret).before a0 Z = true)
    (hy : y.cls ≠ "java/lang/invoke/MethodHandle" ∧ y.cls ≠ "java/lang/invoke/VarHandle") (E : Exa Z h a C) (hM : Met l Z y bytes maxL ret [] rm (.ref a :: argsL).toArray h Q') (eT : T.heap = h)
    (hlen : ∀ sig, parseMethodDescriptor y.desc = some sig → argsL.length = sig.parameters.length) (hd : decode c.code pc = .ok (.invokevirtual index, 3)) (hsize : Ls.size = c.maxLocals) (hst : st = argsL.reverse ++ .ref a :: rest) (hW : (rest.map fun v => v.category).sum ≤ W)
    (hf : rm.frames + 1 ≤ R.frames) (hl : W + (maxL + 11) + rm.locals ≤ R.locals) (hc : cells + rm.cells ≤ R.cells) (hs : slots + rm.slots ≤ R.slots)
    (k : ∀ v T' L, Stand p l e R s m args below meth c T' (locs ++ L) (cells + rm.cells) (slots + rm.slots) → Q' v T'.heap L → Go p e below s T' (mkF m (pc + 3) Ls (v.toList ++ rest)) Q kc ks) : Go p e below s T (mkF m pc Ls st) Q kc ks := by
  have wi' : (Jvm.Cond.instantiable y.cls kk).before args s = true := mvT hZ wi
  obtain ⟨cc, kc', i1, i2, i3, i4, -⟩ := Cond.instantiable_spec wi'
  have ni : kc'.isInterface = false := by revert i4; cases kc'.isInterface <;> simp
  have hp := Cond.privateMethod_at (mvP hZ wp (args := args))
  have hsel := Jvm.Stand.selects_self_of_private i1 i2 ni hp (mvT hZ w2 (args := args)) hy
  obtain ⟨cl, q1, q2⟩ := E.cell
  obtain ⟨v, vm₁, ⟨T1, L1, k1, n1⟩, -, X1, ⟨Lc, hQ1, l1, y1, z1⟩, st1⟩ := X.privateBack hx (y := y) hown (mvT hZ w1) (mvT hZ w2) hsel hp (mvT hZ w4) hy (backOf (W := W) hM hZ w4 w3 hf hl) (g := mkF m pc Ls st) rfl hsize (Steps.refl _) (a := a) (by rw [eT]; exact q1) q2 (argsL := argsL) (rest := rest) hlen hst (by show 2 * 0 + _ ≤ _; omega) hd (fun _ _ => ⟨rfl, eT, hc, hs⟩)
  dsimp only [Pt.U, Pt.locs, Pt.cells, Pt.slots] at X1 l1 y1 z1 st1 hQ1
  subst l1 y1 z1
  exact Go.trans st1 (k v T1 Lc X1 hQ1)
/-- the call of an interface's method, by the contract of the body that the receiver's class selects -/
theorem Go.callN {own C : String} {index count : Nat} {xi y : MethodName} {bytes : ByteArray} {maxL : Nat} {ret : Option FieldType} {rm : Room} {argsL : List Value} {Q' : Option Value → Heap → List Loc → Prop} {W : Nat} {st : List Value}
    (X : Stand p l e R s m args below meth c T locs cells slots) (hx : p.tables.exec = Jvm.exec) (hZ : Z.Warmed39 s.vm) (hown : s.vm.findClass own = some m.cls)
    (w1 : (Jvm.Cond.methodLink own index xi).before a0 Z = true) (w2 : (Jvm.Cond.declares xi).before a0 Z = true) (w5 : (Jvm.Cond.interfaceMethod xi.cls xi.cls xi.name xi.desc).before a0 Z = true) (w6 : (Jvm.Cond.selects C xi y).before a0 Z = true) (w7 : (Jvm.Cond.instanceMethod y).before a0 Z = true) (w8 : (Jvm.Cond.publicMethod y).before a0 Z = true) (w9 : (Jvm.Cond.unhidden C xi.name xi.desc).before a0 Z = true) (w10 : (Jvm.Cond.castable C xi.cls).before a0 Z = true)
    (w3 : (Jvm.Cond.initialized y.cls).before a0 Z = true) (w4 : (Jvm.Cond.code y bytes maxL ret).before a0 Z = true) (hy : xi.cls ≠ "java/lang/invoke/MethodHandle" ∧ xi.cls ≠ "java/lang/invoke/VarHandle") (k5 : ((Jvm.Cond.interfaceMethod xi.cls xi.cls xi.name xi.desc).onTables && (Jvm.Cond.interfaceMethod xi.cls xi.cls xi.name xi.desc).keepsFace) = true) (E : Exa Z h a C) (hM : Met l Z y bytes maxL ret [] rm (.ref a :: argsL).toArray h Q') (eT : T.heap = h)
    (hlen : ∀ sig, parseMethodDescriptor xi.desc = some sig → argsL.length = sig.parameters.length) (hd : decode c.code pc = .ok (.invokeinterface index count, 5)) (hsize : Ls.size = c.maxLocals) (hst : st = argsL.reverse ++ .ref a :: rest) (hW : (rest.map fun v => v.category).sum ≤ W)
    (hf : rm.frames + 1 ≤ R.frames) (hl : W + (maxL + 11) + rm.locals ≤ R.locals) (hc : cells + rm.cells ≤ R.cells) (hs : slots + rm.slots ≤ R.slots)
    (k : ∀ v T' L, Stand p l e R s m args below meth c T' (locs ++ L) (cells + rm.cells) (slots + rm.slots) → Q' v T'.heap L → Go p e below s T' (mkF m (pc + 5) Ls (v.toList ++ rest)) Q kc ks) : Go p e below s T (mkF m pc Ls st) Q kc ks := by
  obtain ⟨cB, kB, q1, q2, q3⟩ := isOf hZ eT E
  obtain ⟨v, vm₁, ⟨T1, L1, k1, n1⟩, -, X1, ⟨Lc, hQ1, l1, y1, z1⟩, st1⟩ := X.interfaceBack hx (xi := xi) (y := y) hown (mvT hZ w1) (mvT hZ w2) (mvT hZ w5 k5) (mvT hZ w6) (mvT hZ w7) (mvT hZ w8) (mvT hZ w9) (mvT hZ w10) hy (backOf (W := W) hM hZ w4 w3 hf hl) q1 q2 q3 (g := mkF m pc Ls st) rfl hsize (Steps.refl _) (argsL := argsL) (rest := rest) hlen hst (by show 2 * 0 + _ ≤ _; omega) hd (fun _ _ => ⟨rfl, eT, hc, hs⟩)
  dsimp only [Pt.U, Pt.locs, Pt.cells, Pt.slots] at X1 l1 y1 z1 st1 hQ1
  subst l1 y1 z1
  exact Go.trans st1 (k v T1 Lc X1 hQ1)
def cpf (f f' : Nat → Value) (sp dp nn : Nat) : Nat → Value := fun i => if dp ≤ i ∧ i < dp + nn then f (sp + (i - dp)) else f' i
theorem getD_range {i : Nat} (hi : i < n) (d : Value) : ((List.range n).map f).getD i d = f i := by simp [List.getD_eq_getElem?_getD, hi]
theorem Af.toArv (F : Af Z h a cid ty n f) (hf : ∀ i, i < n → fits ty (f i) = true) : Arv Z h a cid ty n.toInt32 ((List.range n).map f) .null := by
  obtain ⟨cl, A, r1, r2, r3, r4⟩ := F
  have z : (n.toInt32).toNatClampNeg = n := by simp only [Int32.toNatClampNeg, len_toInt r3]; rfl
  refine ⟨cl, A, r1, by rw [r2, z], ?_, fun i hi => ?_, fun i hi => ?_⟩
  · rw [Int32.lt_iff_toInt_lt, len_toInt r3]; show ¬ (n : Int) < 0; omega
  · rw [getD_range (by omega)]; exact r4 i (by omega)
  · rw [getD_range (by omega)]; exact hf i (by omega)
theorem Af.ofArv {z : Int32} {vs : List Value} {d : Value} (F : Arv Z h a cid ty z vs d) : Af Z h a cid ty z.toNatClampNeg (fun i => vs.getD i d) := by
  obtain ⟨cl, A, r1, r2, r3, H, G⟩ := F
  exact ⟨cl, A, r1, r2, (back32 r3).2, fun i hi => H i (by omega)⟩
theorem cp_at {n' sp dp nn i : Nat} (hi : i < n') (h4 : sp + nn ≤ n) (h5 : dp + nn ≤ n') :
    ((((List.range n').map f').take dp) ++ ((List.range nn).map fun i => ((List.range n).map f).getD (sp + i) .null) ++ (((List.range n').map f').drop (dp + nn))).getD i .null = cpf f f' sp dp nn i := by
  have lt : (((List.range n').map f').take dp).length = dp := by simp; omega
  have lu : ((List.range nn).map fun i => ((List.range n).map f).getD (sp + i) .null).length = nn := by simp
  rw [List.getD_eq_getElem?_getD]
  unfold cpf
  by_cases h1 : i < dp
  · rw [List.append_assoc, List.getElem?_append_left (by omega), if_neg (by omega)]
    simp [List.getElem?_take, h1, hi]
  · by_cases h2 : i < dp + nn
    · rw [List.getElem?_append_left (by rw [List.length_append]; omega), List.getElem?_append_right (by omega), if_pos ⟨by omega, h2⟩, lt]
      have h3 : i - dp < nn := by omega
      have h6 : sp + (i - dp) < n := by omega
      simp [h3, List.getD_eq_getElem?_getD, h6]
    · rw [List.getElem?_append_right (by rw [List.length_append]; omega), if_neg (by omega), List.length_append, lt, lu]
      have h3 : dp + nn + (i - (dp + nn)) = i := by omega
      simp [List.getElem?_drop, h3, hi]
theorem Go.acopy {own : String} {index W n0 n' : Nat} {b : Addr} {cid' : ClassId} {sp dp nn : Int32} (X : Stand p l e R s m args below meth c T locs cells slots) (hx : p.tables.exec = Jvm.exec) (hZ : Z.Warmed39 s.vm) (hown : s.vm.findClass own = some m.cls)
    (w1 : (Jvm.Cond.methodLink own index ⟨"java/lang/System", "arraycopy", "(Ljava/lang/Object;ILjava/lang/Object;II)V"⟩).before a0 Z = true) (w2 : (Jvm.Cond.native ⟨"java/lang/System", "arraycopy", "(Ljava/lang/Object;ILjava/lang/Object;II)V"⟩).before a0 Z = true) (w3 : (Jvm.Cond.static ⟨"java/lang/System", "arraycopy", "(Ljava/lang/Object;ILjava/lang/Object;II)V"⟩).before a0 Z = true) (w4 : (Jvm.Cond.initialized "java/lang/System").before a0 Z = true)
    (eT : T.heap = h) (A : Af Z h a cid ty n f) (B : Af Z h b cid' ty n' f') (hty : refKind ty = false) (hfa : ∀ i, i < n → fits ty (f i) = true) (hfb : ∀ i, i < n' → fits ty (f' i) = true) (h1 : ¬ sp < 0) (h2 : ¬ dp < 0) (h3 : ¬ nn < 0) (h4 : sp.toNatClampNeg + nn.toNatClampNeg ≤ n) (h5 : dp.toNatClampNeg + nn.toNatClampNeg ≤ n')
    (N : Fr n0 locs) (ge : n0 ≤ b) (hd : decode c.code pc = .ok (.invokestatic index, 3)) (hsize : Ls.size = c.maxLocals) (hW : (rest.map fun v => v.category).sum ≤ W) (hf : 1 ≤ R.frames) (hl : W + 18 ≤ R.locals)
    (k : ∀ T' h' L, Stand p l e R s m args below meth c T' L cells slots → T'.heap = h' → Fr n0 L → Keep h h' [b] → Af Z h' b cid' ty n' (cpf f f' sp.toNatClampNeg dp.toNatClampNeg nn.toNatClampNeg) → Go p e below s T' (mkF m (pc + 3) Ls rest) Q kc ks) : Go p e below s T (mkF m pc Ls (.int nn :: .int dp :: .ref b :: .int sp :: .ref a :: rest)) Q kc ks := by
  have za : (n.toInt32).toNatClampNeg = n := by obtain ⟨_, _, _, _, r3, _⟩ := A; simp only [Int32.toNatClampNeg, len_toInt r3]; rfl
  have zb : (n'.toInt32).toNatClampNeg = n' := by obtain ⟨_, _, _, _, r3, _⟩ := B; simp only [Int32.toNatClampNeg, len_toInt r3]; rfl
  obtain ⟨T', h', L, X', e', NL, K, V, st⟩ := cpA X hx hZ hown w1 w2 w3 w4 eT (A.toArv hfa) (B.toArv hfb) (Or.inl ⟨rfl, hty⟩) h1 h2 h3 (by rw [za]; exact h4) (by rw [zb]; exact h5) rfl (by simp; exact h5) N ge (g := mkF m pc Ls (.int nn :: .int dp :: .ref b :: .int sp :: .ref a :: rest)) rfl hsize rfl hd hf (W := W) (by show 2 * 0 + _ ≤ _; omega) (by show W + (7 + 11) ≤ _; omega)
  have V' := Af.ofArv V
  rw [zb] at V'
  exact Go.step st (k T' h' L X' e' NL K (V'.congr fun i hi => (cp_at hi h4 h5).symm))
theorem Keep.wr1 {ha hb hc : Heap} {ws : List Addr} {a : Addr} {sl : Nat} {v : Value} (K : Keep ha hb ws) (W : Wr hb hc a sl v) (q : a ∈ ws ∨ ha.size ≤ a) : Keep ha hc ws := Jvm.RoadKit.Keep.wr K W q
end Heap
end Jvm.OwnK
namespace Jvm.OwnK
open Sem ClassFile Op Lib Jvm.Free Jvm.Stand Jvm.LawKit Jvm.RoadKit
section Start
variable {s : State} {args : Array Value}
theorem st_static {C f d K : String} (h : (Jvm.Cond.exactly (Jvm.Term.static C f d) K).value args s none s [] = some true) (hi : (Jvm.Cond.initializedFor C f d).before args s = true ∨ ((Jvm.Cond.initialized C).before args s = true ∧ (Jvm.Cond.laysStatic C f d).before args s = true)) :
    ∃ g, (Jvm.Term.static C f d).eval args s none [] s = some (.ref g) ∧ Sta s s.heap C f d (.ref g) ∧ Exa s s.heap g K := by
  obtain ⟨g, eg⟩ := exa_v h
  exact ⟨g, eg, Sta.start eg hi, Exa.start eg h⟩
theorem st_int {t : Jvm.Term} {k : Int32} (h : (Jvm.Cond.eq t (.int k)).value args s none s [] = some true) : t.eval args s none [] s = some (.int k) := by
  obtain ⟨x, y, ha, hb, k1, k2⟩ := cmp_v (Or.inl h)
  have hb' : (Jvm.Term.int k).eval args s none [] s = some (.int k) := Term.int_eval k
  cases hb.symm.trans hb'
  obtain ⟨z, rfl⟩ := k2
  have q := gotT (Cond.eq_ints ha hb') h
  rw [ha, q]
theorem st_ref {t u : Jvm.Term} {g : Addr} (h : (Jvm.Cond.eq t u).value args s none s [] = some true) (hu : u.eval args s none [] s = some (.ref g)) : t.eval args s none [] s = some (.ref g) := by
  obtain ⟨x, y, ha, hb, k1, k2⟩ := cmp_v (Or.inl h)
  cases hb.symm.trans hu
  have hx : x.isRef = true := k2.2
  have q := gotT (eq_R ha hu hx rfl) h
  rw [ha, q]
theorem st_fieldI {t : Jvm.Term} {a : Addr} {C n d : String} {k : Int32} (ev : t.eval args s none [] s = some (.ref a)) (h : (Jvm.Cond.eq (.field t C n d) (.int k)).value args s none s [] = some true) : Fld s s.heap a C n d (.int k) :=
  Fld.start (by rw [← fld_at ev]; exact st_int h)
theorem st_fieldR {t : Jvm.Term} {a : Addr} {C n d K : String} (ev : t.eval args s none [] s = some (.ref a)) (h : (Jvm.Cond.exactly (.field t C n d) K).value args s none s [] = some true) :
    ∃ g, (Jvm.Term.field t C n d).eval args s none [] s = some (.ref g) ∧ Fld s s.heap a C n d (.ref g) ∧ Exa s s.heap g K := by
  obtain ⟨g, eg⟩ := exa_v h
  exact ⟨g, eg, Fld.start (by rw [← fld_at ev]; exact eg), Exa.start eg h⟩
/-- an array that stood before the law, with its length -/
theorem st_arr {t : Jvm.Term} {a : Addr} {ty : FieldType} {k : Int32} {n : Nat} (ev : t.eval args s none [] s = some (.ref a)) (h : (Jvm.Cond.arrayOf t ty).value args s none s [] = some true) (hl : (Jvm.Cond.eq (.length t) (.int k)).value args s none s [] = some true) (hk : k = n.toInt32) (hn : n < 2 ^ 31) :
    ∃ c : Cell, s.heap[a]? = some c ∧ Af s s.heap a c.cls ty n (fun i => (c.slots[i]?).getD .null) := by
  obtain ⟨c, A⟩ := Arr.start ev h
  have e1 := st_int hl
  obtain ⟨a', cell, g1, g2, g5, g3⟩ := Jvm.Lib.length_spec e1
  cases ev.symm.trans g1
  have g4 : s.arrayAt? a = some c := A.fin (Vm.Alike.refl _)
  cases g4.symm.trans g2
  injection g3 with g3
  have g6 : c.slots.size = n := by
    have q : (c.slots.size.toInt32).toInt = (n.toInt32).toInt := by rw [← g3, hk]
    rw [len_toInt g5, len_toInt hn] at q
    omega
  refine ⟨c, A.1, c, A, rfl, g6, hn, fun i hi => ?_⟩
  have q : i < c.slots.size := by omega
  simp [Array.getElem?_eq_getElem q]
theorem st_elem {t : Jvm.Term} {a : Addr} {j : Int32} {c : Cell} {v : Value} (ev : t.eval args s none [] s = some (.ref a)) (hc : s.heap[a]? = some c) (h : (Jvm.Term.elem t (.int j)).eval args s none [] s = some v) : (c.slots[j.toNatClampNeg]?).getD .null = v := by
  have q := (elem_in h ev (Term.int_eval j) hc).2
  rw [q]; rfl
theorem Af.known {Z : State} {h : Heap} {a : Addr} {cid : ClassId} {ty : FieldType} {n j : Nat} {f : Nat → Value} {v : Value} (F : Af Z h a cid ty n f) (q : f j = v) : Af Z h a cid ty n (updV f j v) := F.congr fun i _ => by
  by_cases e : i = j
  · subst e; simp [updV, q]
  · simp [updV, e]
end Start
end Jvm.OwnK
namespace Jvm.Pilot.@@N@@
open Jvm Jvm.ClassFile Sem Op Lib Jvm.Free Jvm.Stand Jvm.LawKit Jvm.RoadKit Jvm.OwnK Bundle Jvm.Pilot.@@N@@.Jvm.D
theorem w0 {Z : State} {a0 : Array Value} (hw : ∀ d ∈ tables_1, d.before a0 Z = true) : (Jvm.Cond.methodLink "com/example/branchwise/branchwise/propagation/RevisionListAddPinLaw" (8 : Nat) ({ cls := "com/example/branchwise/branchwise/propagation/RevisionListAddPinLaw", name := "pick", desc := "(II)I" } : Jvm.MethodName)).before a0 Z = true := hw _ (List.mem_of_getElem? (i := 0) rfl)
theorem w1 {Z : State} {a0 : Array Value} (hw : ∀ d ∈ tables_1, d.before a0 Z = true) : (Jvm.Cond.static ({ cls := "com/example/branchwise/branchwise/propagation/RevisionListAddPinLaw", name := "pick", desc := "(II)I" } : Jvm.MethodName)).before a0 Z = true := hw _ (List.mem_of_getElem? (i := 1) rfl)
theorem w2 {Z : State} {a0 : Array Value} (hw : ∀ d ∈ tables_1, d.before a0 Z = true) : (Jvm.Cond.initialized "com/example/branchwise/branchwise/propagation/RevisionListAddPinLaw").before a0 Z = true := hw _ (List.mem_of_getElem? (i := 2) rfl)
theorem w3 {Z : State} {a0 : Array Value} (hw : ∀ d ∈ tables_1, d.before a0 Z = true) : (Jvm.Cond.code ({ cls := "com/example/branchwise/branchwise/propagation/RevisionListAddPinLaw", name := "pick", desc := "(II)I" } : Jvm.MethodName) method_2_code (2 : Nat) (Option.some Jvm.ClassFile.FieldType.int)).before a0 Z = true := hw _ (List.mem_of_getElem? (i := 3) rfl)
theorem w4 {Z : State} {a0 : Array Value} (hw : ∀ d ∈ tables_1, d.before a0 Z = true) : (Jvm.Cond.constant "com/example/branchwise/branchwise/propagation/RevisionListAddPinLaw" (7 : Nat) (2147483647 : Int32)).before a0 Z = true := hw _ (List.mem_of_getElem? (i := 4) rfl)
theorem w5 {Z : State} {a0 : Array Value} (hw : ∀ d ∈ tables_1, d.before a0 Z = true) : (Jvm.Cond.arrayClass Jvm.ClassFile.FieldType.int).before a0 Z = true := hw _ (List.mem_of_getElem? (i := 5) rfl)
theorem w6 {Z : State} {a0 : Array Value} (hw : ∀ d ∈ tables_1, d.before a0 Z = true) : (Jvm.Cond.classLink "com/example/branchwise/branchwise/propagation/RevisionListAddPinLaw" (14 : Nat) "com/example/branchwise/branchwise/propagation/RevisionList").before a0 Z = true := hw _ (List.mem_of_getElem? (i := 6) rfl)
theorem w7 {Z : State} {a0 : Array Value} (hw : ∀ d ∈ tables_1, d.before a0 Z = true) : (Jvm.Cond.instantiable "com/example/branchwise/branchwise/propagation/RevisionList" (4 : Nat)).before a0 Z = true := hw _ (List.mem_of_getElem? (i := 7) rfl)
theorem w8 {Z : State} {a0 : Array Value} (hw : ∀ d ∈ tables_1, d.before a0 Z = true) : (Jvm.Cond.initialized "com/example/branchwise/branchwise/propagation/RevisionList").before a0 Z = true := hw _ (List.mem_of_getElem? (i := 8) rfl)
theorem w9 {Z : State} {a0 : Array Value} (hw : ∀ d ∈ tables_1, d.before a0 Z = true) : (Jvm.Cond.methodLink "com/example/branchwise/branchwise/propagation/RevisionListAddPinLaw" (16 : Nat) ({ cls := "com/example/branchwise/branchwise/propagation/RevisionList", name := "<init>", desc := "(I)V" } : Jvm.MethodName)).before a0 Z = true := hw _ (List.mem_of_getElem? (i := 9) rfl)
theorem w10 {Z : State} {a0 : Array Value} (hw : ∀ d ∈ tables_1, d.before a0 Z = true) : (Jvm.Cond.instanceMethod ({ cls := "com/example/branchwise/branchwise/propagation/RevisionList", name := "<init>", desc := "(I)V" } : Jvm.MethodName)).before a0 Z = true := hw _ (List.mem_of_getElem? (i := 10) rfl)
theorem w11 {Z : State} {a0 : Array Value} (hw : ∀ d ∈ tables_1, d.before a0 Z = true) : (Jvm.Cond.code ({ cls := "com/example/branchwise/branchwise/propagation/RevisionList", name := "<init>", desc := "(I)V" } : Jvm.MethodName) prog_32_method_1_code (2 : Nat) (Option.none : Option Jvm.ClassFile.FieldType)).before a0 Z = true := hw _ (List.mem_of_getElem? (i := 11) rfl)
theorem w12 {Z : State} {a0 : Array Value} (hw : ∀ d ∈ tables_1, d.before a0 Z = true) : (Jvm.Cond.methodLink "com/example/branchwise/branchwise/propagation/RevisionList" (1 : Nat) ({ cls := "java/lang/Object", name := "<init>", desc := "()V" } : Jvm.MethodName)).before a0 Z = true := hw _ (List.mem_of_getElem? (i := 12) rfl)
theorem w13 {Z : State} {a0 : Array Value} (hw : ∀ d ∈ tables_1, d.before a0 Z = true) : (Jvm.Cond.instanceMethod ({ cls := "java/lang/Object", name := "<init>", desc := "()V" } : Jvm.MethodName)).before a0 Z = true := hw _ (List.mem_of_getElem? (i := 13) rfl)
theorem w14 {Z : State} {a0 : Array Value} (hw : ∀ d ∈ tables_1, d.before a0 Z = true) : (Jvm.Cond.code ({ cls := "java/lang/Object", name := "<init>", desc := "()V" } : Jvm.MethodName) object_method_1_code (1 : Nat) (Option.none : Option Jvm.ClassFile.FieldType)).before a0 Z = true := hw _ (List.mem_of_getElem? (i := 14) rfl)
theorem w15 {Z : State} {a0 : Array Value} (hw : ∀ d ∈ tables_1, d.before a0 Z = true) : (Jvm.Cond.fieldLink "com/example/branchwise/branchwise/propagation/RevisionList" (7 : Nat) "com/example/branchwise/branchwise/propagation/RevisionList" "entries" "[I").before a0 Z = true := hw _ (List.mem_of_getElem? (i := 15) rfl)
theorem w16 {Z : State} {a0 : Array Value} (hw : ∀ d ∈ tables_1, d.before a0 Z = true) : (Jvm.Cond.laysFinal "com/example/branchwise/branchwise/propagation/RevisionList" "com/example/branchwise/branchwise/propagation/RevisionList" "entries" "[I").before a0 Z = true := hw _ (List.mem_of_getElem? (i := 16) rfl)
theorem w17 {Z : State} {a0 : Array Value} (hw : ∀ d ∈ tables_1, d.before a0 Z = true) : (Jvm.Cond.arrayClass Jvm.ClassFile.FieldType.boolean).before a0 Z = true := hw _ (List.mem_of_getElem? (i := 17) rfl)
theorem w18 {Z : State} {a0 : Array Value} (hw : ∀ d ∈ tables_1, d.before a0 Z = true) : (Jvm.Cond.fieldLink "com/example/branchwise/branchwise/propagation/RevisionList" (13 : Nat) "com/example/branchwise/branchwise/propagation/RevisionList" "listed" "[Z").before a0 Z = true := hw _ (List.mem_of_getElem? (i := 18) rfl)
theorem w19 {Z : State} {a0 : Array Value} (hw : ∀ d ∈ tables_1, d.before a0 Z = true) : (Jvm.Cond.laysFinal "com/example/branchwise/branchwise/propagation/RevisionList" "com/example/branchwise/branchwise/propagation/RevisionList" "listed" "[Z").before a0 Z = true := hw _ (List.mem_of_getElem? (i := 19) rfl)
theorem w20 {Z : State} {a0 : Array Value} (hw : ∀ d ∈ tables_1, d.before a0 Z = true) : (Jvm.Cond.methodLink "com/example/branchwise/branchwise/propagation/RevisionListAddPinLaw" (19 : Nat) ({ cls := "com/example/branchwise/branchwise/propagation/RevisionList", name := "add", desc := "(I)V" } : Jvm.MethodName)).before a0 Z = true := hw _ (List.mem_of_getElem? (i := 20) rfl)
theorem w21 {Z : State} {a0 : Array Value} (hw : ∀ d ∈ tables_1, d.before a0 Z = true) : (Jvm.Cond.declares ({ cls := "com/example/branchwise/branchwise/propagation/RevisionList", name := "add", desc := "(I)V" } : Jvm.MethodName)).before a0 Z = true := hw _ (List.mem_of_getElem? (i := 21) rfl)
theorem w22 {Z : State} {a0 : Array Value} (hw : ∀ d ∈ tables_1, d.before a0 Z = true) : (Jvm.Cond.instanceMethod ({ cls := "com/example/branchwise/branchwise/propagation/RevisionList", name := "add", desc := "(I)V" } : Jvm.MethodName)).before a0 Z = true := hw _ (List.mem_of_getElem? (i := 22) rfl)
theorem w23 {Z : State} {a0 : Array Value} (hw : ∀ d ∈ tables_1, d.before a0 Z = true) : (Jvm.Cond.selects "com/example/branchwise/branchwise/propagation/RevisionList" ({ cls := "com/example/branchwise/branchwise/propagation/RevisionList", name := "add", desc := "(I)V" } : Jvm.MethodName) ({ cls := "com/example/branchwise/branchwise/propagation/RevisionList", name := "add", desc := "(I)V" } : Jvm.MethodName)).before a0 Z = true := hw _ (List.mem_of_getElem? (i := 23) rfl)
theorem w24 {Z : State} {a0 : Array Value} (hw : ∀ d ∈ tables_1, d.before a0 Z = true) : (Jvm.Cond.code ({ cls := "com/example/branchwise/branchwise/propagation/RevisionList", name := "add", desc := "(I)V" } : Jvm.MethodName) prog_32_method_2_code (2 : Nat) (Option.none : Option Jvm.ClassFile.FieldType)).before a0 Z = true := hw _ (List.mem_of_getElem? (i := 24) rfl)
theorem w25 {Z : State} {a0 : Array Value} (hw : ∀ d ∈ tables_1, d.before a0 Z = true) : (Jvm.Cond.fieldLink "com/example/branchwise/branchwise/propagation/RevisionList" (17 : Nat) "com/example/branchwise/branchwise/propagation/RevisionList" "head" "I").before a0 Z = true := hw _ (List.mem_of_getElem? (i := 25) rfl)
theorem w26 {Z : State} {a0 : Array Value} (hw : ∀ d ∈ tables_1, d.before a0 Z = true) : (Jvm.Cond.lays "com/example/branchwise/branchwise/propagation/RevisionList" "com/example/branchwise/branchwise/propagation/RevisionList" "head" "I").before a0 Z = true := hw _ (List.mem_of_getElem? (i := 26) rfl)
theorem w27 {Z : State} {a0 : Array Value} (hw : ∀ d ∈ tables_1, d.before a0 Z = true) : (Jvm.Cond.fieldLink "com/example/branchwise/branchwise/propagation/RevisionList" (21 : Nat) "com/example/branchwise/branchwise/propagation/RevisionList" "length" "I").before a0 Z = true := hw _ (List.mem_of_getElem? (i := 27) rfl)
theorem w28 {Z : State} {a0 : Array Value} (hw : ∀ d ∈ tables_1, d.before a0 Z = true) : (Jvm.Cond.lays "com/example/branchwise/branchwise/propagation/RevisionList" "com/example/branchwise/branchwise/propagation/RevisionList" "length" "I").before a0 Z = true := hw _ (List.mem_of_getElem? (i := 28) rfl)
theorem w29 {Z : State} {a0 : Array Value} (hw : ∀ d ∈ tables_1, d.before a0 Z = true) : (Jvm.Cond.methodLink "com/example/branchwise/branchwise/propagation/RevisionListAddPinLaw" (22 : Nat) ({ cls := "com/example/branchwise/branchwise/propagation/RevisionListAddPinLaw", name := "refAdd", desc := "([II)V" } : Jvm.MethodName)).before a0 Z = true := hw _ (List.mem_of_getElem? (i := 29) rfl)
theorem w30 {Z : State} {a0 : Array Value} (hw : ∀ d ∈ tables_1, d.before a0 Z = true) : (Jvm.Cond.static ({ cls := "com/example/branchwise/branchwise/propagation/RevisionListAddPinLaw", name := "refAdd", desc := "([II)V" } : Jvm.MethodName)).before a0 Z = true := hw _ (List.mem_of_getElem? (i := 30) rfl)
theorem w31 {Z : State} {a0 : Array Value} (hw : ∀ d ∈ tables_1, d.before a0 Z = true) : (Jvm.Cond.code ({ cls := "com/example/branchwise/branchwise/propagation/RevisionListAddPinLaw", name := "refAdd", desc := "([II)V" } : Jvm.MethodName) method_3_code (4 : Nat) (Option.none : Option Jvm.ClassFile.FieldType)).before a0 Z = true := hw _ (List.mem_of_getElem? (i := 31) rfl)
theorem w32 {Z : State} {a0 : Array Value} (hw : ∀ d ∈ tables_1, d.before a0 Z = true) : (Jvm.Cond.methodLink "com/example/branchwise/branchwise/propagation/RevisionListAddPinLaw" (26 : Nat) ({ cls := "com/example/branchwise/branchwise/propagation/RevisionList", name := "remove", desc := "(I)I" } : Jvm.MethodName)).before a0 Z = true := hw _ (List.mem_of_getElem? (i := 32) rfl)
theorem w33 {Z : State} {a0 : Array Value} (hw : ∀ d ∈ tables_1, d.before a0 Z = true) : (Jvm.Cond.declares ({ cls := "com/example/branchwise/branchwise/propagation/RevisionList", name := "remove", desc := "(I)I" } : Jvm.MethodName)).before a0 Z = true := hw _ (List.mem_of_getElem? (i := 33) rfl)
theorem w34 {Z : State} {a0 : Array Value} (hw : ∀ d ∈ tables_1, d.before a0 Z = true) : (Jvm.Cond.instanceMethod ({ cls := "com/example/branchwise/branchwise/propagation/RevisionList", name := "remove", desc := "(I)I" } : Jvm.MethodName)).before a0 Z = true := hw _ (List.mem_of_getElem? (i := 34) rfl)
theorem w35 {Z : State} {a0 : Array Value} (hw : ∀ d ∈ tables_1, d.before a0 Z = true) : (Jvm.Cond.selects "com/example/branchwise/branchwise/propagation/RevisionList" ({ cls := "com/example/branchwise/branchwise/propagation/RevisionList", name := "remove", desc := "(I)I" } : Jvm.MethodName) ({ cls := "com/example/branchwise/branchwise/propagation/RevisionList", name := "remove", desc := "(I)I" } : Jvm.MethodName)).before a0 Z = true := hw _ (List.mem_of_getElem? (i := 35) rfl)
theorem w36 {Z : State} {a0 : Array Value} (hw : ∀ d ∈ tables_1, d.before a0 Z = true) : (Jvm.Cond.code ({ cls := "com/example/branchwise/branchwise/propagation/RevisionList", name := "remove", desc := "(I)I" } : Jvm.MethodName) prog_32_method_5_code (4 : Nat) (Option.some Jvm.ClassFile.FieldType.int)).before a0 Z = true := hw _ (List.mem_of_getElem? (i := 36) rfl)
theorem w37 {Z : State} {a0 : Array Value} (hw : ∀ d ∈ tables_1, d.before a0 Z = true) : (Jvm.Cond.methodLink "com/example/branchwise/branchwise/propagation/RevisionList" (24 : Nat) ({ cls := "com/example/branchwise/branchwise/propagation/RevisionList", name := "get", desc := "(I)I" } : Jvm.MethodName)).before a0 Z = true := hw _ (List.mem_of_getElem? (i := 37) rfl)
theorem w38 {Z : State} {a0 : Array Value} (hw : ∀ d ∈ tables_1, d.before a0 Z = true) : (Jvm.Cond.declares ({ cls := "com/example/branchwise/branchwise/propagation/RevisionList", name := "get", desc := "(I)I" } : Jvm.MethodName)).before a0 Z = true := hw _ (List.mem_of_getElem? (i := 38) rfl)
theorem w39 {Z : State} {a0 : Array Value} (hw : ∀ d ∈ tables_1, d.before a0 Z = true) : (Jvm.Cond.instanceMethod ({ cls := "com/example/branchwise/branchwise/propagation/RevisionList", name := "get", desc := "(I)I" } : Jvm.MethodName)).before a0 Z = true := hw _ (List.mem_of_getElem? (i := 39) rfl)
theorem w40 {Z : State} {a0 : Array Value} (hw : ∀ d ∈ tables_1, d.before a0 Z = true) : (Jvm.Cond.selects "com/example/branchwise/branchwise/propagation/RevisionList" ({ cls := "com/example/branchwise/branchwise/propagation/RevisionList", name := "get", desc := "(I)I" } : Jvm.MethodName) ({ cls := "com/example/branchwise/branchwise/propagation/RevisionList", name := "get", desc := "(I)I" } : Jvm.MethodName)).before a0 Z = true := hw _ (List.mem_of_getElem? (i := 40) rfl)
theorem w41 {Z : State} {a0 : Array Value} (hw : ∀ d ∈ tables_1, d.before a0 Z = true) : (Jvm.Cond.code ({ cls := "com/example/branchwise/branchwise/propagation/RevisionList", name := "get", desc := "(I)I" } : Jvm.MethodName) prog_32_method_4_code (2 : Nat) (Option.some Jvm.ClassFile.FieldType.int)).before a0 Z = true := hw _ (List.mem_of_getElem? (i := 41) rfl)
theorem w42 {Z : State} {a0 : Array Value} (hw : ∀ d ∈ tables_1, d.before a0 Z = true) : (Jvm.Cond.methodLink "com/example/branchwise/branchwise/propagation/RevisionListAddPinLaw" (30 : Nat) ({ cls := "com/example/branchwise/branchwise/propagation/RevisionListAddPinLaw", name := "refRemoveFirst", desc := "([I)V" } : Jvm.MethodName)).before a0 Z = true := hw _ (List.mem_of_getElem? (i := 42) rfl)
theorem w43 {Z : State} {a0 : Array Value} (hw : ∀ d ∈ tables_1, d.before a0 Z = true) : (Jvm.Cond.static ({ cls := "com/example/branchwise/branchwise/propagation/RevisionListAddPinLaw", name := "refRemoveFirst", desc := "([I)V" } : Jvm.MethodName)).before a0 Z = true := hw _ (List.mem_of_getElem? (i := 43) rfl)
theorem w44 {Z : State} {a0 : Array Value} (hw : ∀ d ∈ tables_1, d.before a0 Z = true) : (Jvm.Cond.code ({ cls := "com/example/branchwise/branchwise/propagation/RevisionListAddPinLaw", name := "refRemoveFirst", desc := "([I)V" } : Jvm.MethodName) method_4_code (1 : Nat) (Option.none : Option Jvm.ClassFile.FieldType)).before a0 Z = true := hw _ (List.mem_of_getElem? (i := 44) rfl)
theorem w45 {Z : State} {a0 : Array Value} (hw : ∀ d ∈ tables_1, d.before a0 Z = true) : (Jvm.Cond.methodLink "com/example/branchwise/branchwise/propagation/RevisionListAddPinLaw" (34 : Nat) ({ cls := "com/example/branchwise/branchwise/propagation/RevisionList", name := "size", desc := "()I" } : Jvm.MethodName)).before a0 Z = true := hw _ (List.mem_of_getElem? (i := 45) rfl)
theorem w46 {Z : State} {a0 : Array Value} (hw : ∀ d ∈ tables_1, d.before a0 Z = true) : (Jvm.Cond.declares ({ cls := "com/example/branchwise/branchwise/propagation/RevisionList", name := "size", desc := "()I" } : Jvm.MethodName)).before a0 Z = true := hw _ (List.mem_of_getElem? (i := 46) rfl)
theorem w47 {Z : State} {a0 : Array Value} (hw : ∀ d ∈ tables_1, d.before a0 Z = true) : (Jvm.Cond.instanceMethod ({ cls := "com/example/branchwise/branchwise/propagation/RevisionList", name := "size", desc := "()I" } : Jvm.MethodName)).before a0 Z = true := hw _ (List.mem_of_getElem? (i := 47) rfl)
theorem w48 {Z : State} {a0 : Array Value} (hw : ∀ d ∈ tables_1, d.before a0 Z = true) : (Jvm.Cond.selects "com/example/branchwise/branchwise/propagation/RevisionList" ({ cls := "com/example/branchwise/branchwise/propagation/RevisionList", name := "size", desc := "()I" } : Jvm.MethodName) ({ cls := "com/example/branchwise/branchwise/propagation/RevisionList", name := "size", desc := "()I" } : Jvm.MethodName)).before a0 Z = true := hw _ (List.mem_of_getElem? (i := 48) rfl)
theorem w49 {Z : State} {a0 : Array Value} (hw : ∀ d ∈ tables_1, d.before a0 Z = true) : (Jvm.Cond.code ({ cls := "com/example/branchwise/branchwise/propagation/RevisionList", name := "size", desc := "()I" } : Jvm.MethodName) prog_32_method_3_code (1 : Nat) (Option.some Jvm.ClassFile.FieldType.int)).before a0 Z = true := hw _ (List.mem_of_getElem? (i := 49) rfl)
theorem w50 {Z : State} {a0 : Array Value} (hw : ∀ d ∈ tables_1, d.before a0 Z = true) : (Jvm.Cond.methodLink "com/example/branchwise/branchwise/propagation/RevisionListAddPinLaw" (38 : Nat) ({ cls := "com/example/branchwise/branchwise/propagation/RevisionList", name := "get", desc := "(I)I" } : Jvm.MethodName)).before a0 Z = true := hw _ (List.mem_of_getElem? (i := 50) rfl)
theorem d_pick_0 : decode method_2_code 0 = .ok (.iload_n 0, 1) := by decide +kernel
theorem d_pick_1 : decode method_2_code 1 = .ok (.ldc 7, 2) := by decide +kernel
theorem d_pick_3 : decode method_2_code 3 = .ok (.iand, 1) := by decide +kernel
theorem d_pick_4 : decode method_2_code 4 = .ok (.iload_n 1, 1) := by decide +kernel
theorem d_pick_5 : decode method_2_code 5 = .ok (.irem, 1) := by decide +kernel
theorem d_pick_6 : decode method_2_code 6 = .ok (.ireturn, 1) := by decide +kernel
theorem pn_pick : plainName "com/example/branchwise/branchwise/propagation/RevisionListAddPinLaw" = true := by first | (simp [plainName, overriddenIn]; done) | decide +kernel
theorem d_init_0 : decode prog_32_method_1_code 0 = .ok (.aload_n 0, 1) := by decide +kernel
theorem d_init_1 : decode prog_32_method_1_code 1 = .ok (.invokespecial 1, 3) := by decide +kernel
theorem d_init_4 : decode prog_32_method_1_code 4 = .ok (.aload_n 0, 1) := by decide +kernel
theorem d_init_5 : decode prog_32_method_1_code 5 = .ok (.iload_n 1, 1) := by decide +kernel
theorem d_init_6 : decode prog_32_method_1_code 6 = .ok (.newarray .int, 2) := by decide +kernel
theorem d_init_8 : decode prog_32_method_1_code 8 = .ok (.putfield 7, 3) := by decide +kernel
theorem d_init_11 : decode prog_32_method_1_code 11 = .ok (.aload_n 0, 1) := by decide +kernel
theorem d_init_12 : decode prog_32_method_1_code 12 = .ok (.iload_n 1, 1) := by decide +kernel
theorem d_init_13 : decode prog_32_method_1_code 13 = .ok (.newarray .boolean, 2) := by decide +kernel
theorem d_init_15 : decode prog_32_method_1_code 15 = .ok (.putfield 13, 3) := by decide +kernel
theorem d_init_18 : decode prog_32_method_1_code 18 = .ok (.return_, 1) := by decide +kernel
theorem pn_init : plainName "com/example/branchwise/branchwise/propagation/RevisionList" = true := by first | (simp [plainName, overriddenIn]; done) | decide +kernel
theorem d_add_0 : decode prog_32_method_2_code 0 = .ok (.aload_n 0, 1) := by decide +kernel
theorem d_add_1 : decode prog_32_method_2_code 1 = .ok (.getfield 13, 3) := by decide +kernel
theorem d_add_4 : decode prog_32_method_2_code 4 = .ok (.iload_n 1, 1) := by decide +kernel
theorem d_add_5 : decode prog_32_method_2_code 5 = .ok (.baload, 1) := by decide +kernel
theorem d_add_6 : decode prog_32_method_2_code 6 = .ok (.ifCond .eq 4, 3) := by decide +kernel
theorem d_add_10 : decode prog_32_method_2_code 10 = .ok (.aload_n 0, 1) := by decide +kernel
theorem d_add_11 : decode prog_32_method_2_code 11 = .ok (.getfield 7, 3) := by decide +kernel
theorem d_add_14 : decode prog_32_method_2_code 14 = .ok (.aload_n 0, 1) := by decide +kernel
theorem d_add_15 : decode prog_32_method_2_code 15 = .ok (.getfield 17, 3) := by decide +kernel
theorem d_add_18 : decode prog_32_method_2_code 18 = .ok (.aload_n 0, 1) := by decide +kernel
theorem d_add_19 : decode prog_32_method_2_code 19 = .ok (.getfield 21, 3) := by decide +kernel
theorem d_add_22 : decode prog_32_method_2_code 22 = .ok (.iadd, 1) := by decide +kernel
theorem d_add_23 : decode prog_32_method_2_code 23 = .ok (.aload_n 0, 1) := by decide +kernel
theorem d_add_24 : decode prog_32_method_2_code 24 = .ok (.getfield 7, 3) := by decide +kernel
theorem d_add_27 : decode prog_32_method_2_code 27 = .ok (.arraylength, 1) := by decide +kernel
theorem d_add_28 : decode prog_32_method_2_code 28 = .ok (.irem, 1) := by decide +kernel
theorem d_add_29 : decode prog_32_method_2_code 29 = .ok (.iload_n 1, 1) := by decide +kernel
theorem d_add_30 : decode prog_32_method_2_code 30 = .ok (.iastore, 1) := by decide +kernel
theorem d_add_31 : decode prog_32_method_2_code 31 = .ok (.aload_n 0, 1) := by decide +kernel
theorem d_add_32 : decode prog_32_method_2_code 32 = .ok (.dup, 1) := by decide +kernel
theorem d_add_33 : decode prog_32_method_2_code 33 = .ok (.getfield 21, 3) := by decide +kernel
theorem d_add_36 : decode prog_32_method_2_code 36 = .ok (.iconst 1, 1) := by decide +kernel
theorem d_add_37 : decode prog_32_method_2_code 37 = .ok (.iadd, 1) := by decide +kernel
theorem d_add_38 : decode prog_32_method_2_code 38 = .ok (.putfield 21, 3) := by decide +kernel
theorem d_add_41 : decode prog_32_method_2_code 41 = .ok (.aload_n 0, 1) := by decide +kernel
theorem d_add_42 : decode prog_32_method_2_code 42 = .ok (.getfield 13, 3) := by decide +kernel
theorem d_add_45 : decode prog_32_method_2_code 45 = .ok (.iload_n 1, 1) := by decide +kernel
theorem d_add_46 : decode prog_32_method_2_code 46 = .ok (.iconst 1, 1) := by decide +kernel
theorem d_add_47 : decode prog_32_method_2_code 47 = .ok (.bastore, 1) := by decide +kernel
theorem d_add_48 : decode prog_32_method_2_code 48 = .ok (.return_, 1) := by decide +kernel
theorem d_add_9 : decode prog_32_method_2_code 9 = .ok (.return_, 1) := by decide +kernel
theorem pn_add : plainName "com/example/branchwise/branchwise/propagation/RevisionList" = true := by first | (simp [plainName, overriddenIn]; done) | decide +kernel
theorem d_get_0 : decode prog_32_method_4_code 0 = .ok (.aload_n 0, 1) := by decide +kernel
theorem d_get_1 : decode prog_32_method_4_code 1 = .ok (.getfield 7, 3) := by decide +kernel
theorem d_get_4 : decode prog_32_method_4_code 4 = .ok (.aload_n 0, 1) := by decide +kernel
theorem d_get_5 : decode prog_32_method_4_code 5 = .ok (.getfield 17, 3) := by decide +kernel
theorem d_get_8 : decode prog_32_method_4_code 8 = .ok (.iload_n 1, 1) := by decide +kernel
theorem d_get_9 : decode prog_32_method_4_code 9 = .ok (.iadd, 1) := by decide +kernel
theorem d_get_10 : decode prog_32_method_4_code 10 = .ok (.aload_n 0, 1) := by decide +kernel
theorem d_get_11 : decode prog_32_method_4_code 11 = .ok (.getfield 7, 3) := by decide +kernel
theorem d_get_14 : decode prog_32_method_4_code 14 = .ok (.arraylength, 1) := by decide +kernel
theorem d_get_15 : decode prog_32_method_4_code 15 = .ok (.irem, 1) := by decide +kernel
theorem d_get_16 : decode prog_32_method_4_code 16 = .ok (.iaload, 1) := by decide +kernel
theorem d_get_17 : decode prog_32_method_4_code 17 = .ok (.ireturn, 1) := by decide +kernel
theorem pn_get : plainName "com/example/branchwise/branchwise/propagation/RevisionList" = true := by first | (simp [plainName, overriddenIn]; done) | decide +kernel
theorem d_size_0 : decode prog_32_method_3_code 0 = .ok (.aload_n 0, 1) := by decide +kernel
theorem d_size_1 : decode prog_32_method_3_code 1 = .ok (.getfield 21, 3) := by decide +kernel
theorem d_size_4 : decode prog_32_method_3_code 4 = .ok (.ireturn, 1) := by decide +kernel
theorem pn_size : plainName "com/example/branchwise/branchwise/propagation/RevisionList" = true := by first | (simp [plainName, overriddenIn]; done) | decide +kernel
theorem d_rem_0 : decode prog_32_method_5_code 0 = .ok (.aload_n 0, 1) := by decide +kernel
theorem d_rem_1 : decode prog_32_method_5_code 1 = .ok (.iload_n 1, 1) := by decide +kernel
theorem d_rem_2 : decode prog_32_method_5_code 2 = .ok (.invokevirtual 24, 3) := by decide +kernel
theorem pd_0 : parseMethodDescriptor "(I)I" = some ⟨[.int], some .int⟩ := by decide +kernel
theorem d_rem_5 : decode prog_32_method_5_code 5 = .ok (.istore_n 2, 1) := by decide +kernel
theorem d_rem_6 : decode prog_32_method_5_code 6 = .ok (.iload_n 1, 1) := by decide +kernel
theorem d_rem_7 : decode prog_32_method_5_code 7 = .ok (.istore_n 3, 1) := by decide +kernel
theorem d_rem_8 : decode prog_32_method_5_code 8 = .ok (.iload_n 3, 1) := by decide +kernel
theorem d_rem_9 : decode prog_32_method_5_code 9 = .ok (.ifCond .le 45, 3) := by decide +kernel
theorem d_rem_54 : decode prog_32_method_5_code 54 = .ok (.aload_n 0, 1) := by decide +kernel
theorem d_rem_55 : decode prog_32_method_5_code 55 = .ok (.aload_n 0, 1) := by decide +kernel
theorem d_rem_56 : decode prog_32_method_5_code 56 = .ok (.getfield 17, 3) := by decide +kernel
theorem d_rem_59 : decode prog_32_method_5_code 59 = .ok (.iconst 1, 1) := by decide +kernel
theorem d_rem_60 : decode prog_32_method_5_code 60 = .ok (.iadd, 1) := by decide +kernel
theorem d_rem_61 : decode prog_32_method_5_code 61 = .ok (.aload_n 0, 1) := by decide +kernel
theorem d_rem_62 : decode prog_32_method_5_code 62 = .ok (.getfield 7, 3) := by decide +kernel
theorem d_rem_65 : decode prog_32_method_5_code 65 = .ok (.arraylength, 1) := by decide +kernel
theorem d_rem_66 : decode prog_32_method_5_code 66 = .ok (.irem, 1) := by decide +kernel
theorem d_rem_67 : decode prog_32_method_5_code 67 = .ok (.putfield 17, 3) := by decide +kernel
theorem d_rem_70 : decode prog_32_method_5_code 70 = .ok (.aload_n 0, 1) := by decide +kernel
theorem d_rem_71 : decode prog_32_method_5_code 71 = .ok (.dup, 1) := by decide +kernel
theorem d_rem_72 : decode prog_32_method_5_code 72 = .ok (.getfield 21, 3) := by decide +kernel
theorem d_rem_75 : decode prog_32_method_5_code 75 = .ok (.iconst 1, 1) := by decide +kernel
theorem d_rem_76 : decode prog_32_method_5_code 76 = .ok (.isub, 1) := by decide +kernel
theorem d_rem_77 : decode prog_32_method_5_code 77 = .ok (.putfield 21, 3) := by decide +kernel
theorem d_rem_80 : decode prog_32_method_5_code 80 = .ok (.aload_n 0, 1) := by decide +kernel
theorem d_rem_81 : decode prog_32_method_5_code 81 = .ok (.getfield 13, 3) := by decide +kernel
theorem d_rem_84 : decode prog_32_method_5_code 84 = .ok (.iload_n 2, 1) := by decide +kernel
theorem d_rem_85 : decode prog_32_method_5_code 85 = .ok (.iconst 0, 1) := by decide +kernel
theorem d_rem_86 : decode prog_32_method_5_code 86 = .ok (.bastore, 1) := by decide +kernel
theorem d_rem_87 : decode prog_32_method_5_code 87 = .ok (.iload_n 2, 1) := by decide +kernel
theorem d_rem_88 : decode prog_32_method_5_code 88 = .ok (.ireturn, 1) := by decide +kernel
theorem pn_rem : plainName "com/example/branchwise/branchwise/propagation/RevisionList" = true := by first | (simp [plainName, overriddenIn]; done) | decide +kernel
theorem d_refadd_0 : decode method_3_code 0 = .ok (.aload_n 0, 1) := by decide +kernel
theorem d_refadd_1 : decode method_3_code 1 = .ok (.iconst 4, 1) := by decide +kernel
theorem d_refadd_2 : decode method_3_code 2 = .ok (.iaload, 1) := by decide +kernel
theorem d_refadd_3 : decode method_3_code 3 = .ok (.istore_n 2, 1) := by decide +kernel
theorem d_refadd_4 : decode method_3_code 4 = .ok (.iload_n 2, 1) := by decide +kernel
theorem d_refadd_5 : decode method_3_code 5 = .ok (.ifCond .le 10, 3) := by decide +kernel
theorem d_refadd_8 : decode method_3_code 8 = .ok (.aload_n 0, 1) := by decide +kernel
theorem d_refadd_9 : decode method_3_code 9 = .ok (.iconst 0, 1) := by decide +kernel
theorem d_refadd_10 : decode method_3_code 10 = .ok (.iaload, 1) := by decide +kernel
theorem d_refadd_11 : decode method_3_code 11 = .ok (.iload_n 1, 1) := by decide +kernel
theorem d_refadd_12 : decode method_3_code 12 = .ok (.if_icmp .eq 39, 3) := by decide +kernel
theorem d_refadd_51 : decode method_3_code 51 = .ok (.iconst 1, 1) := by decide +kernel
theorem d_refadd_52 : decode method_3_code 52 = .ok (.goto 4, 3) := by decide +kernel
theorem d_refadd_56 : decode method_3_code 56 = .ok (.istore_n 3, 1) := by decide +kernel
theorem d_refadd_57 : decode method_3_code 57 = .ok (.iload_n 3, 1) := by decide +kernel
theorem d_refadd_58 : decode method_3_code 58 = .ok (.ifCond .ne 13, 3) := by decide +kernel
theorem d_refadd_71 : decode method_3_code 71 = .ok (.return_, 1) := by decide +kernel
theorem d_refadd_15 : decode method_3_code 15 = .ok (.iload_n 2, 1) := by decide +kernel
theorem d_refadd_16 : decode method_3_code 16 = .ok (.iconst 1, 1) := by decide +kernel
theorem d_refadd_17 : decode method_3_code 17 = .ok (.if_icmp .le 10, 3) := by decide +kernel
theorem d_refadd_20 : decode method_3_code 20 = .ok (.aload_n 0, 1) := by decide +kernel
theorem d_refadd_21 : decode method_3_code 21 = .ok (.iconst 1, 1) := by decide +kernel
theorem d_refadd_22 : decode method_3_code 22 = .ok (.iaload, 1) := by decide +kernel
theorem d_refadd_23 : decode method_3_code 23 = .ok (.iload_n 1, 1) := by decide +kernel
theorem d_refadd_24 : decode method_3_code 24 = .ok (.if_icmp .eq 27, 3) := by decide +kernel
theorem d_refadd_27 : decode method_3_code 27 = .ok (.iload_n 2, 1) := by decide +kernel
theorem d_refadd_28 : decode method_3_code 28 = .ok (.iconst 2, 1) := by decide +kernel
theorem d_refadd_29 : decode method_3_code 29 = .ok (.if_icmp .le 10, 3) := by decide +kernel
theorem d_refadd_32 : decode method_3_code 32 = .ok (.aload_n 0, 1) := by decide +kernel
theorem d_refadd_33 : decode method_3_code 33 = .ok (.iconst 2, 1) := by decide +kernel
theorem d_refadd_34 : decode method_3_code 34 = .ok (.iaload, 1) := by decide +kernel
theorem d_refadd_35 : decode method_3_code 35 = .ok (.iload_n 1, 1) := by decide +kernel
theorem d_refadd_36 : decode method_3_code 36 = .ok (.if_icmp .eq 15, 3) := by decide +kernel
theorem d_refadd_39 : decode method_3_code 39 = .ok (.iload_n 2, 1) := by decide +kernel
theorem d_refadd_40 : decode method_3_code 40 = .ok (.iconst 3, 1) := by decide +kernel
theorem d_refadd_41 : decode method_3_code 41 = .ok (.if_icmp .le 14, 3) := by decide +kernel
theorem d_refadd_44 : decode method_3_code 44 = .ok (.aload_n 0, 1) := by decide +kernel
theorem d_refadd_45 : decode method_3_code 45 = .ok (.iconst 3, 1) := by decide +kernel
theorem d_refadd_46 : decode method_3_code 46 = .ok (.iaload, 1) := by decide +kernel
theorem d_refadd_47 : decode method_3_code 47 = .ok (.iload_n 1, 1) := by decide +kernel
theorem d_refadd_48 : decode method_3_code 48 = .ok (.if_icmp .ne 7, 3) := by decide +kernel
theorem d_refadd_55 : decode method_3_code 55 = .ok (.iconst 0, 1) := by decide +kernel
theorem d_refadd_61 : decode method_3_code 61 = .ok (.aload_n 0, 1) := by decide +kernel
theorem d_refadd_62 : decode method_3_code 62 = .ok (.iload_n 2, 1) := by decide +kernel
theorem d_refadd_63 : decode method_3_code 63 = .ok (.iload_n 1, 1) := by decide +kernel
theorem d_refadd_64 : decode method_3_code 64 = .ok (.iastore, 1) := by decide +kernel
theorem d_refadd_65 : decode method_3_code 65 = .ok (.aload_n 0, 1) := by decide +kernel
theorem d_refadd_66 : decode method_3_code 66 = .ok (.iconst 4, 1) := by decide +kernel
theorem d_refadd_67 : decode method_3_code 67 = .ok (.iload_n 2, 1) := by decide +kernel
theorem d_refadd_68 : decode method_3_code 68 = .ok (.iconst 1, 1) := by decide +kernel
theorem d_refadd_69 : decode method_3_code 69 = .ok (.iadd, 1) := by decide +kernel
theorem d_refadd_70 : decode method_3_code 70 = .ok (.iastore, 1) := by decide +kernel
theorem pn_refadd : plainName "com/example/branchwise/branchwise/propagation/RevisionListAddPinLaw" = true := by first | (simp [plainName, overriddenIn]; done) | decide +kernel
theorem d_refrem_0 : decode method_4_code 0 = .ok (.aload_n 0, 1) := by decide +kernel
theorem d_refrem_1 : decode method_4_code 1 = .ok (.iconst 0, 1) := by decide +kernel
theorem d_refrem_2 : decode method_4_code 2 = .ok (.aload_n 0, 1) := by decide +kernel
theorem d_refrem_3 : decode method_4_code 3 = .ok (.iconst 1, 1) := by decide +kernel
theorem d_refrem_4 : decode method_4_code 4 = .ok (.iaload, 1) := by decide +kernel
theorem d_refrem_5 : decode method_4_code 5 = .ok (.iastore, 1) := by decide +kernel
theorem d_refrem_6 : decode method_4_code 6 = .ok (.aload_n 0, 1) := by decide +kernel
theorem d_refrem_7 : decode method_4_code 7 = .ok (.iconst 1, 1) := by decide +kernel
theorem d_refrem_8 : decode method_4_code 8 = .ok (.aload_n 0, 1) := by decide +kernel
theorem d_refrem_9 : decode method_4_code 9 = .ok (.iconst 2, 1) := by decide +kernel
theorem d_refrem_10 : decode method_4_code 10 = .ok (.iaload, 1) := by decide +kernel
theorem d_refrem_11 : decode method_4_code 11 = .ok (.iastore, 1) := by decide +kernel
theorem d_refrem_12 : decode method_4_code 12 = .ok (.aload_n 0, 1) := by decide +kernel
theorem d_refrem_13 : decode method_4_code 13 = .ok (.iconst 2, 1) := by decide +kernel
theorem d_refrem_14 : decode method_4_code 14 = .ok (.aload_n 0, 1) := by decide +kernel
theorem d_refrem_15 : decode method_4_code 15 = .ok (.iconst 3, 1) := by decide +kernel
theorem d_refrem_16 : decode method_4_code 16 = .ok (.iaload, 1) := by decide +kernel
theorem d_refrem_17 : decode method_4_code 17 = .ok (.iastore, 1) := by decide +kernel
theorem d_refrem_18 : decode method_4_code 18 = .ok (.aload_n 0, 1) := by decide +kernel
theorem d_refrem_19 : decode method_4_code 19 = .ok (.iconst 4, 1) := by decide +kernel
theorem d_refrem_20 : decode method_4_code 20 = .ok (.aload_n 0, 1) := by decide +kernel
theorem d_refrem_21 : decode method_4_code 21 = .ok (.iconst 4, 1) := by decide +kernel
theorem d_refrem_22 : decode method_4_code 22 = .ok (.iaload, 1) := by decide +kernel
theorem d_refrem_23 : decode method_4_code 23 = .ok (.iconst 1, 1) := by decide +kernel
theorem d_refrem_24 : decode method_4_code 24 = .ok (.isub, 1) := by decide +kernel
theorem d_refrem_25 : decode method_4_code 25 = .ok (.iastore, 1) := by decide +kernel
theorem d_refrem_26 : decode method_4_code 26 = .ok (.return_, 1) := by decide +kernel
theorem pn_refrem : plainName "com/example/branchwise/branchwise/propagation/RevisionListAddPinLaw" = true := by first | (simp [plainName, overriddenIn]; done) | decide +kernel
theorem pd_1 : parseMethodDescriptor "(II)I" = some ⟨[.int, .int], some .int⟩ := by decide +kernel
theorem pd_2 : parseMethodDescriptor "(I)V" = some ⟨[.int], none⟩ := by decide +kernel
theorem pd_3 : parseMethodDescriptor "([II)V" = some ⟨[(.array .int), .int], none⟩ := by decide +kernel
theorem pd_4 : parseMethodDescriptor "()I" = some ⟨[], some .int⟩ := by decide +kernel
theorem pd_5 : parseMethodDescriptor "([I)V" = some ⟨[(.array .int)], none⟩ := by decide +kernel
theorem pn_law : plainName "com/example/branchwise/branchwise/propagation/RevisionListAddPinLaw" = true := by first | (simp [plainName, overriddenIn]; done) | decide +kernel
theorem own_mod (x k : Int32) (n : Int) (hk : k.toInt = n) (hn : 0 < n) : 0 ≤ ((x &&& (2147483647 : Int32)) % k).toInt ∧ ((x &&& (2147483647 : Int32)) % k).toInt < n := by
  have m1 : (x &&& (2147483647 : Int32)).toInt = x.toInt % 2 ^ 31 := Jvm.Kit.i32_mask x _ (k := 31) (by decide) (by decide)
  rw [Jvm.Kit.i32_rem_nonneg (by omega), m1, hk]
  exact ⟨Int.emod_nonneg _ (by omega), Int.emod_lt_of_pos _ hn⟩
def cnt (f : Nat → Int32) : Nat → Nat
  | 0 => 0
  | n + 1 => cnt f n + (if f n = 0 then 0 else 1)
theorem cnt_le (f : Nat → Int32) : ∀ n, cnt f n ≤ n
  | 0 => Nat.le_refl _
  | n + 1 => by have := cnt_le f n; simp only [cnt]; split <;> omega
theorem cnt_lt {f : Nat → Int32} {v : Nat} (h : f v = 0) : ∀ n, v < n → cnt f n < n
  | 0, q => absurd q (Nat.not_lt_zero _)
  | n + 1, q => by
    simp only [cnt]
    by_cases e : v = n
    · subst e; rw [if_pos h]; have := cnt_le f v; omega
    · have := cnt_lt h n (by omega); split <;> omega
theorem cnt_far {f : Nat → Int32} {v : Nat} {x : Int32} : ∀ n, n ≤ v → cnt (updI f v x) n = cnt f n
  | 0, _ => rfl
  | n + 1, q => by
    have e : updI f v x n = f n := if_neg (by omega)
    have q' : n ≤ v := by omega
    simp only [cnt, e, cnt_far n q']
theorem cnt_up {f : Nat → Int32} {v : Nat} (h : f v = 0) : ∀ n, v < n → cnt (updI f v 1) n = cnt f n + 1
  | 0, q => absurd q (Nat.not_lt_zero _)
  | n + 1, q => by
    simp only [cnt]
    by_cases e : v = n
    · subst e
      have e1 : updI f v 1 v = 1 := if_pos rfl
      rw [e1, cnt_far v (Nat.le_refl _), h]; simp
    · have e1 : updI f v 1 n = f n := if_neg (by omega)
      rw [e1, cnt_up h n (by omega)]; omega
theorem cnt_down {f : Nat → Int32} {v : Nat} (h : f v ≠ 0) : ∀ n, v < n → cnt (updI f v 0) n + 1 = cnt f n
  | 0, q => absurd q (Nat.not_lt_zero _)
  | n + 1, q => by
    simp only [cnt]
    by_cases e : v = n
    · subst e
      have e1 : updI f v 0 v = 0 := if_pos rfl
      rw [e1, cnt_far v (Nat.le_refl _), if_neg h]; simp
    · have e1 : updI f v 0 n = f n := if_neg (by omega)
      have := cnt_down h n (by omega)
      rw [e1]; omega
def ins (es : List Int32) (v : Int32) : List Int32 := if v ∈ es then es else es ++ [v]
def Inv (n : Nat) (ef lf : Nat → Int32) (hd ln : Int32) (es : List Int32) : Prop :=
  (0 < n ∧ n ≤ 4) ∧ (0 ≤ hd.toInt ∧ hd.toInt < n) ∧ ln.toInt = es.length ∧ (∀ i, i < es.length → ef ((hd.toNatClampNeg + i) % n) = es.getD i 0) ∧ (∀ v ∈ es, 0 ≤ v.toInt ∧ v.toInt < n) ∧ (∀ v : Int32, 0 ≤ v.toInt → v.toInt < n → (lf v.toNatClampNeg = 0 ↔ v ∉ es)) ∧ cnt lf n = es.length ∧ es.Nodup
def MInv (f : Nat → Int32) (es : List Int32) : Prop := (f 4).toInt = es.length ∧ es.length ≤ 4 ∧ ∀ i, i < es.length → f i = es.getD i 0
def RL (Z : State) (h : Heap) (a aE aB : Addr) (n : Nat) (es : List Int32) : Prop := ∃ (kE kB : ClassId) (ef lf : Nat → Int32) (hd ln : Int32), Fld Z h a "com/example/branchwise/branchwise/propagation/RevisionList" "entries" "[I" (.ref aE) ∧ Fld Z h a "com/example/branchwise/branchwise/propagation/RevisionList" "listed" "[Z" (.ref aB) ∧ Fld Z h a "com/example/branchwise/branchwise/propagation/RevisionList" "head" "I" (.int hd) ∧ Fld Z h a "com/example/branchwise/branchwise/propagation/RevisionList" "length" "I" (.int ln) ∧ Af Z h aE kE .int n (fun i => Value.int (ef i)) ∧ Af Z h aB kB .boolean n (fun i => Value.int (lf i)) ∧ Inv n ef lf hd ln es
def ML (Z : State) (h : Heap) (m : Addr) (es : List Int32) : Prop := ∃ (k : ClassId) (f : Nat → Int32), Af Z h m k .int 5 (fun i => Value.int (f i)) ∧ MInv f es
theorem RL.keep {Z : State} {h h' : Heap} {a aE aB : Addr} {n : Nat} {es : List Int32} {ws : List Addr} (F : RL Z h a aE aB n es) (K : Keep h h' ws) (q1 : a ∉ ws) (q2 : aE ∉ ws) (q3 : aB ∉ ws) : RL Z h' a aE aB n es := by
  obtain ⟨kE, kB, ef, lf, hd, ln, g1, g2, g3, g4, g5, g6, g7⟩ := F
  exact ⟨kE, kB, ef, lf, hd, ln, g1.keep K q1, g2.keep K q1, g3.keep K q1, g4.keep K q1, g5.keep K q2, g6.keep K q3, g7⟩
theorem ML.keep {Z : State} {h h' : Heap} {m : Addr} {es : List Int32} {ws : List Addr} (F : ML Z h m es) (K : Keep h h' ws) (q1 : m ∉ ws) : ML Z h' m es := by
  obtain ⟨k, f, g1, g2⟩ := F
  exact ⟨k, f, g1.keep K q1, g2⟩
theorem ML.ext {Z : State} {h h' : Heap} {m : Addr} {es : List Int32} (E : Ext h h') (F : ML Z h m es) : ML Z h' m es := by
  obtain ⟨k, f, g1, g2⟩ := F
  exact ⟨k, f, Af.ext E g1, g2⟩
theorem nat_clamp {v : Int32} (h : 0 ≤ v.toInt) : (v.toNatClampNeg : Int) = v.toInt := by simp only [Int32.toNatClampNeg]; omega
theorem neg_of {v : Int32} (h : 0 ≤ v.toInt) : ¬ v < 0 := by rw [Int32.lt_iff_toInt_lt]; show ¬ _ < (0 : Int); omega
theorem n_int {n : Nat} (h : n ≤ 4) : (Nat.toInt32 n).toInt = n := len_toInt (by omega)
theorem n_nz {n : Nat} (h0 : 0 < n) (h : n ≤ 4) : (Nat.toInt32 n) ≠ 0 := fun q => by have := n_int h; rw [q] at this; have : (0 : Int32).toInt = 0 := rfl; omega
theorem ix_int {n : Nat} {hd ln : Int32} (h0 : 0 < n) (h : n ≤ 4) (a1 : 0 ≤ hd.toInt) (a2 : hd.toInt < n) (b1 : 0 ≤ ln.toInt) (b2 : ln.toInt ≤ n) : ((hd + ln) % (Nat.toInt32 n)).toInt = (hd.toInt + ln.toInt) % n := by
  have e : (hd + ln).toInt = hd.toInt + ln.toInt := Jvm.Kit.i32_add (by omega) (by omega)
  rw [Jvm.Kit.i32_rem_nonneg (by rw [e]; omega), e, n_int h]
theorem ix_ok {n : Nat} {hd ln : Int32} (h0 : 0 < n) (h : n ≤ 4) (a1 : 0 ≤ hd.toInt) (a2 : hd.toInt < n) (b1 : 0 ≤ ln.toInt) (b2 : ln.toInt ≤ n) : ¬ (hd + ln) % (Nat.toInt32 n) < 0 ∧ ((hd + ln) % (Nat.toInt32 n)).toNatClampNeg = (hd.toNatClampNeg + ln.toNatClampNeg) % n := by
  have e := ix_int h0 h a1 a2 b1 b2
  have e1 : 0 ≤ (hd.toInt + ln.toInt) % n := Int.emod_nonneg _ (by omega)
  refine ⟨neg_of (by omega), ?_⟩
  have e2 := nat_clamp (v := (hd + ln) % (Nat.toInt32 n)) (by omega)
  have e3 := nat_clamp a1
  have e4 := nat_clamp b1
  have e5 : (((hd.toNatClampNeg + ln.toNatClampNeg) % n : Nat) : Int) = (hd.toInt + ln.toInt) % n := by rw [Int.natCast_emod, Int.natCast_add, e3, e4]
  omega
theorem mod_ne {n hd i l : Nat} (h0 : 0 < n) (h : n ≤ 4) (a : hd < n) (b : i < l) (c : l < n) : (hd + i) % n ≠ (hd + l) % n := by
  have : n = 1 ∨ n = 2 ∨ n = 3 ∨ n = 4 := by omega
  rcases this with rfl | rfl | rfl | rfl <;> omega
theorem mod_step {n hd i : Nat} (h0 : 0 < n) (h : n ≤ 4) (a : hd < n) : ((hd + 1) % n + i) % n = (hd + (i + 1)) % n := by
  have : n = 1 ∨ n = 2 ∨ n = 3 ∨ n = 4 := by omega
  rcases this with rfl | rfl | rfl | rfl <;> omega
theorem inv0 {n : Nat} (h0 : 0 < n) (h : n ≤ 4) : Inv n (fun _ => 0) (fun _ => 0) 0 0 [] := by
  refine ⟨⟨h0, h⟩, ⟨by decide, by show (0 : Int) < n; omega⟩, rfl, fun i hi => absurd hi (Nat.not_lt_zero _), fun v hv => (nomatch hv), fun v _ _ => ⟨fun _ => List.not_mem_nil, fun _ => rfl⟩, ?_, List.nodup_nil⟩
  have : ∀ k, cnt (fun _ => (0 : Int32)) k = 0 := fun k => by induction k with | zero => rfl | succ k ih => simp [cnt, ih]
  exact this n
theorem inv_len {n : Nat} {ef lf : Nat → Int32} {hd ln : Int32} {es : List Int32} (I : Inv n ef lf hd ln es) : es.length ≤ n := by
  obtain ⟨-, -, -, -, -, -, h, -⟩ := I
  rw [← h]; exact cnt_le _ _
theorem inv_room {n : Nat} {ef lf : Nat → Int32} {hd ln : Int32} {es : List Int32} {v : Int32} (I : Inv n ef lf hd ln es) (v0 : 0 ≤ v.toInt) (v1 : v.toInt < n) (q : lf v.toNatClampNeg = 0) : es.length < n := by
  obtain ⟨-, -, -, -, -, -, h, -⟩ := I
  rw [← h]; exact cnt_lt q n (by have := nat_clamp v0; omega)
theorem inv_add {n : Nat} {ef lf : Nat → Int32} {hd ln : Int32} {es : List Int32} {v : Int32} (I : Inv n ef lf hd ln es) (v0 : 0 ≤ v.toInt) (v1 : v.toInt < n) (q : lf v.toNatClampNeg = 0) :
    Inv n (updI ef ((hd + ln) % (Nat.toInt32 n)).toNatClampNeg v) (updI lf v.toNatClampNeg 1) hd (ln + 1) (ins es v) := by
  have hr := inv_room I v0 v1 q
  obtain ⟨⟨h0, h4⟩, ⟨a1, a2⟩, hl, he, hm, hb, hc, hnd⟩ := I
  have hv : v ∉ es := (hb v v0 v1).mp q
  have ix := (ix_ok h0 h4 a1 a2 (by omega) (by omega : ln.toInt ≤ n)).2
  have cl := nat_clamp (v := ln) (by omega)
  have ch := nat_clamp a1
  have lnn : ln.toNatClampNeg = es.length := by omega
  have ei : ins es v = es ++ [v] := if_neg hv
  rw [ei]
  refine ⟨⟨h0, h4⟩, ⟨a1, a2⟩, ?_, ?_, ?_, ?_, ?_, ?_⟩
  · have e : (ln + 1).toInt = ln.toInt + 1 := Jvm.Kit.i32_add (by show _ ≤ _ + 1; omega) (by show _ + 1 < _; omega)
    rw [e, hl]; simp
  · intro i hi
    rw [List.length_append] at hi
    have hi' : i < es.length + 1 := hi
    rw [ix, lnn]
    by_cases e : i = es.length
    · subst e
      simp [updI, List.getD_eq_getElem?_getD]
    · have hlt : i < es.length := by omega
      have ne := mod_ne h0 h4 (by omega : hd.toNatClampNeg < n) hlt hr
      simp only [updI, if_neg ne]
      rw [he i hlt]
      simp [List.getD_eq_getElem?_getD, List.getElem?_append_left hlt]
  · intro u hu
    rcases List.mem_append.mp hu with h | h
    · exact hm u h
    · cases List.mem_singleton.mp h; exact ⟨v0, v1⟩
  · intro u u0 u1
    by_cases e : u = v
    · subst e
      simp [updI]
    · have ne : u.toNatClampNeg ≠ v.toNatClampNeg := fun z => e (Int32.toInt_inj.mp (by have := nat_clamp u0; have := nat_clamp v0; omega))
      simp only [updI, if_neg ne]
      rw [hb u u0 u1]
      simp [e]
  · rw [cnt_up q n (by have := nat_clamp v0; omega), hc]; simp
  · rw [List.nodup_append]
    refine ⟨hnd, by simp, fun x hx y hy => ?_⟩
    cases List.mem_singleton.mp hy
    intro z; subst z; exact hv hx
theorem inv_same {n : Nat} {ef lf : Nat → Int32} {hd ln : Int32} {es : List Int32} {v : Int32} (I : Inv n ef lf hd ln es) (v0 : 0 ≤ v.toInt) (v1 : v.toInt < n) (q : ¬ lf v.toNatClampNeg = 0) : Inv n ef lf hd ln (ins es v) := by
  have hb := I.2.2.2.2.2.1
  have : v ∈ es := by
    by_cases h : v ∈ es
    · exact h
    · exact absurd ((hb v v0 v1).mpr h) q
  have e : ins es v = es := if_pos this
  rw [e]; exact I
theorem inv_get {n : Nat} {ef lf : Nat → Int32} {hd ln p : Int32} {es : List Int32} (I : Inv n ef lf hd ln es) (p0 : 0 ≤ p.toInt) (p1 : p.toInt < es.length) : ¬ (hd + p) % (Nat.toInt32 n) < 0 ∧ ((hd + p) % (Nat.toInt32 n)).toNatClampNeg < n ∧ ef ((hd + p) % (Nat.toInt32 n)).toNatClampNeg = es.getD p.toNatClampNeg 0 := by
  have hl := inv_len I
  obtain ⟨⟨h0, h4⟩, ⟨a1, a2⟩, -, he, -⟩ := I
  have ix := ix_ok h0 h4 a1 a2 p0 (by omega)
  have cp := nat_clamp p0
  refine ⟨ix.1, by rw [ix.2]; exact Nat.mod_lt _ h0, ?_⟩
  rw [ix.2]; exact he _ (by omega)
theorem inv_rem {n : Nat} {ef lf : Nat → Int32} {hd ln x : Int32} {es : List Int32} (I : Inv n ef lf hd ln (x :: es)) : Inv n ef (updI lf x.toNatClampNeg 0) ((hd + 1) % (Nat.toInt32 n)) (ln - 1) es := by
  have hl := inv_len I
  obtain ⟨⟨h0, h4⟩, ⟨a1, a2⟩, hln, he, hm, hb, hc, hnd⟩ := I
  have hx := hm x (List.mem_cons_self ..)
  have cx := nat_clamp hx.1
  have ch := nat_clamp a1
  have ix := ix_ok (ln := 1) h0 h4 a1 a2 (by decide) (by show (1 : Int) ≤ n; omega)
  have ii := ix_int (ln := 1) h0 h4 a1 a2 (by decide) (by show (1 : Int) ≤ n; omega)
  have hx0 : lf x.toNatClampNeg ≠ 0 := fun z => (hb x hx.1 hx.2).mp z (List.mem_cons_self ..)
  rw [List.nodup_cons] at hnd
  simp only [List.length_cons] at hln hl
  refine ⟨⟨h0, h4⟩, ⟨by rw [ii]; exact Int.emod_nonneg _ (by omega), by rw [ii]; exact Int.emod_lt_of_pos _ (by omega)⟩, ?_, ?_, fun v hv => hm v (List.mem_cons_of_mem _ hv), ?_, ?_, hnd.2⟩
  · have e : (ln - 1).toInt = ln.toInt - 1 := Jvm.Kit.i32_sub (by show _ ≤ _ - 1; omega) (by show _ - 1 < _; omega)
    rw [e]; omega
  · intro i hi
    have e1 : (1 : Int32).toNatClampNeg = 1 := by decide
    rw [ix.2, e1, mod_step h0 h4 (by omega), he (i + 1) (by simp only [List.length_cons]; omega)]
    simp [List.getD_eq_getElem?_getD]
  · intro u u0 u1
    by_cases e : u = x
    · subst e; simp [updI, hnd.1]
    · have ne : u.toNatClampNeg ≠ x.toNatClampNeg := fun z => e (Int32.toInt_inj.mp (by have := nat_clamp u0; omega))
      simp only [updI, if_neg ne]
      rw [hb u u0 u1]; simp [e]
  · have := cnt_down hx0 n (by omega)
    simp only [List.length_cons] at hc
    omega
theorem minv0 : MInv (fun _ => 0) [] := ⟨rfl, by decide, fun i hi => absurd hi (Nat.not_lt_zero _)⟩
def present (f : Nat → Int32) (v : Int32) : Prop := ((0 : Int32) < f 4 ∧ f 0 = v) ∨ ((1 : Int32) < f 4 ∧ f 1 = v) ∨ ((2 : Int32) < f 4 ∧ f 2 = v) ∨ ((3 : Int32) < f 4 ∧ f 3 = v)
theorem lt_len {f : Nat → Int32} {es : List Int32} (M : MInv f es) {k : Int32} (k0 : 0 ≤ k.toInt) : k < f 4 ↔ k.toNatClampNeg < es.length := by
  have := nat_clamp k0
  rw [Int32.lt_iff_toInt_lt, M.1]; omega
theorem mem_get {es : List Int32} {v : Int32} (h : v ∈ es) : ∃ i, i < es.length ∧ es.getD i 0 = v := by
  obtain ⟨i, hi, e⟩ := List.mem_iff_getElem.mp h
  exact ⟨i, hi, by rw [List.getD_eq_getElem?_getD, List.getElem?_eq_getElem hi]; exact e⟩
theorem get_mem {es : List Int32} {v : Int32} {i : Nat} (hi : i < es.length) (e : es.getD i 0 = v) : v ∈ es := by
  rw [List.getD_eq_getElem?_getD, List.getElem?_eq_getElem hi] at e
  exact e ▸ List.getElem_mem hi
theorem present_iff {f : Nat → Int32} {es : List Int32} {v : Int32} (M : MInv f es) : present f v ↔ v ∈ es := by
  have l0 := lt_len M (k := 0) (by decide)
  have l1 := lt_len M (k := 1) (by decide)
  have l2 := lt_len M (k := 2) (by decide)
  have l3 := lt_len M (k := 3) (by decide)
  unfold present
  rw [l0, l1, l2, l3]
  constructor
  · rintro (⟨h, e⟩ | ⟨h, e⟩ | ⟨h, e⟩ | ⟨h, e⟩)
    · exact get_mem (i := 0) h ((M.2.2 0 h).symm.trans e)
    · exact get_mem (i := 1) h ((M.2.2 1 h).symm.trans e)
    · exact get_mem (i := 2) h ((M.2.2 2 h).symm.trans e)
    · exact get_mem (i := 3) h ((M.2.2 3 h).symm.trans e)
  · intro h
    obtain ⟨i, hi, e⟩ := mem_get h
    have e' := (M.2.2 i hi).trans e
    have := M.2.1
    have : i = 0 ∨ i = 1 ∨ i = 2 ∨ i = 3 := by omega
    rcases this with rfl | rfl | rfl | rfl
    · exact Or.inl ⟨hi, e'⟩
    · exact Or.inr (Or.inl ⟨hi, e'⟩)
    · exact Or.inr (Or.inr (Or.inl ⟨hi, e'⟩))
    · exact Or.inr (Or.inr (Or.inr ⟨hi, e'⟩))
theorem m_same {f : Nat → Int32} {es : List Int32} {v : Int32} (M : MInv f es) (h : present f v) : MInv f (ins es v) := by
  have e : ins es v = es := if_pos ((present_iff M).mp h)
  rw [e]; exact M
theorem m_add {f : Nat → Int32} {es : List Int32} {v : Int32} (M : MInv f es) (h : ¬ present f v) (r : v ∈ es ∨ es.length < 4) : MInv (updI (updI f (f 4).toNatClampNeg v) 4 (f 4 + 1)) (ins es v) := by
  have hv : v ∉ es := fun z => h ((present_iff M).mpr z)
  have e : ins es v = es ++ [v] := if_neg hv
  have hl := r.resolve_left hv
  have c4 := nat_clamp (v := f 4) (by have := M.1; omega)
  have n4 : (f 4).toNatClampNeg = es.length := by have := M.1; omega
  rw [e, n4]
  refine ⟨?_, by simp; omega, fun i hi => ?_⟩
  · have e1 : updI (updI f es.length v) 4 (f 4 + 1) 4 = f 4 + 1 := if_pos rfl
    have e2 : (f 4 + 1).toInt = (f 4).toInt + 1 := Jvm.Kit.i32_add (by have := M.1; show _ ≤ _ + 1; omega) (by have := M.1; show _ + 1 < _; omega)
    rw [e1, e2, M.1]; simp
  · rw [List.length_append] at hi
    have hi' : i < es.length + 1 := hi
    have i4 : i ≠ 4 := by omega
    simp only [updI, if_neg i4]
    by_cases q : i = es.length
    · subst q; simp [List.getD_eq_getElem?_getD]
    · have hlt : i < es.length := by omega
      rw [if_neg q, M.2.2 i hlt]
      simp [List.getD_eq_getElem?_getD, List.getElem?_append_left hlt]
theorem m_ok {f : Nat → Int32} {es : List Int32} (M : MInv f es) {v : Int32} (h : ¬ present f v) (r : v ∈ es ∨ es.length < 4) : ¬ f 4 < 0 ∧ (f 4).toNatClampNeg < 5 := by
  have hv : v ∉ es := fun z => h ((present_iff M).mpr z)
  have hl := r.resolve_left hv
  have := M.1
  have c4 := nat_clamp (v := f 4) (by omega)
  exact ⟨neg_of (by omega), by omega⟩
theorem m_rem {f : Nat → Int32} {x : Int32} {es : List Int32} (M : MInv f (x :: es)) : MInv (updI (updI (updI (updI f 0 (f 1)) 1 (f 2)) 2 (f 3)) 4 (f 4 - 1)) es := by
  have h1 := M.1
  have h2 := M.2.1
  simp only [List.length_cons] at h1 h2
  refine ⟨?_, by omega, fun i hi => ?_⟩
  · have e1 : updI (updI (updI (updI f 0 (f 1)) 1 (f 2)) 2 (f 3)) 4 (f 4 - 1) 4 = f 4 - 1 := if_pos rfl
    have e2 : (f 4 - 1).toInt = (f 4).toInt - 1 := Jvm.Kit.i32_sub (by show _ ≤ _ - 1; omega) (by show _ - 1 < _; omega)
    rw [e1, e2, h1]; simp
  · have e := M.2.2 (i + 1) (by simp only [List.length_cons]; omega)
    have e3 : (x :: es).getD (i + 1) 0 = es.getD i 0 := by simp [List.getD_eq_getElem?_getD]
    rw [e3] at e
    rw [← e]
    have : i = 0 ∨ i = 1 ∨ i = 2 := by omega
    rcases this with rfl | rfl | rfl <;> rfl
theorem size_eq {n : Nat} {ef lf f : Nat → Int32} {hd ln : Int32} {es : List Int32} (I : Inv n ef lf hd ln es) (M : MInv f es) : ln = f 4 := Int32.toInt_inj.mp (by rw [I.2.2.1, M.1])
def F_pick (p0 : Int32) (p1 : Int32) : Int32 := ((p0 &&& (2147483647 : Int32)) % p1)
def Q_pick (p0 : Int32) (p1 : Int32) (h0 : Heap) (v : Option Value) (h : Heap) (L : List Loc) : Prop := v = some (.int (F_pick p0 p1)) ∧ L = [] ∧ h = h0
theorem ef_pick (m : MethodId) (x0 : Int32) (x1 : Int32) : entryFrame m #[(.int x0), (.int x1)] 2 = mkF m 0 #[.val (.int x0), .val (.int x1)] [] := by first | (simp [entryFrame, mkF, argsToLocals, Value.category]; done) | rfl
set_option maxRecDepth 65536 in
set_option maxHeartbeats 40000000 in
theorem rm_pick (l : Launch) (Z : State) (a0 : Array Value) (hw : ∀ d ∈ tables_1, d.before a0 Z = true) (p0 : Int32) (p1 : Int32) (h0 : Heap) (f0 : p1 ≠ 0) :
    Met l Z (⟨"com/example/branchwise/branchwise/propagation/RevisionListAddPinLaw", "pick", "(II)I"⟩ : MethodName) method_2_code 2 (Option.some Jvm.ClassFile.FieldType.int) [] ({ frames := 0, cells := 0, slots := 0, locals := 0 } : Room) #[(.int p0), (.int p1)] h0 (Q_pick p0 p1 h0) := by
  refine Met.of (plainFor_of_name pn_pick) ?_
  intro p e s m below meth c s₁ X0 hx hby hml hZ hown hnm e0 hret hlk
  refine Go.cast (ef_pick m p0 p1) ?_
  show Go _ _ _ _ s₁ (mkF m 0 #[.val (.int p0), .val (.int p1)] []) _ _ _
  refine Go.iloadN X0 hx (hb hby d_pick_0) rfl ?_
  show Go _ _ _ _ s₁ (mkF m 1 #[.val (.int p0), .val (.int p1)] [(.int p0)]) _ _ _
  refine Go.ldc X0 hx hZ hown (w4 hw) (hb hby d_pick_1) ?_
  show Go _ _ _ _ s₁ (mkF m 3 #[.val (.int p0), .val (.int p1)] [(.int (2147483647 : Int32)), (.int p0)]) _ _ _
  refine Go.iand X0 hx (hb hby d_pick_3) ?_
  show Go _ _ _ _ s₁ (mkF m 4 #[.val (.int p0), .val (.int p1)] [(.int (p0 &&& (2147483647 : Int32)))]) _ _ _
  refine Go.iloadN X0 hx (hb hby d_pick_4) rfl ?_
  show Go _ _ _ _ s₁ (mkF m 5 #[.val (.int p0), .val (.int p1)] [(.int p1), (.int (p0 &&& (2147483647 : Int32)))]) _ _ _
  refine Go.irem X0 hx (hb hby d_pick_5) f0 ?_
  show Go _ _ _ _ s₁ (mkF m 6 #[.val (.int p0), .val (.int p1)] [(.int ((p0 &&& (2147483647 : Int32)) % p1))]) _ _ _
  refine Go.retI X0 hx hlk hret (hb hby d_pick_6) (by decide) (by decide) ?_
  rw [e0]
  exact ⟨rfl, rfl, rfl⟩
def Q_init (Z : State) (a : Addr) (p0 : Int32) (h0 : Heap) (n0 : Nat) (v : Option Value) (h : Heap) (L : List Loc) : Prop := ∃ (aE : Addr) (aB : Addr), v = none ∧ Fr n0 L ∧ Keep h0 h [a] ∧ Exa Z h a "com/example/branchwise/branchwise/propagation/RevisionList" ∧ n0 ≤ aE ∧ n0 ≤ aB ∧ h0.size ≤ aE ∧ h0.size ≤ aB ∧ a ≠ aE ∧ a ≠ aB ∧ aE ≠ aB ∧ RL Z h a aE aB p0.toNatClampNeg []
theorem ef_init (m : MethodId) (x0 : Addr) (x1 : Int32) : entryFrame m #[(.ref x0), (.int x1)] 2 = mkF m 0 #[.val (.ref x0), .val (.int x1)] [] := by first | (simp [entryFrame, mkF, argsToLocals, Value.category]; done) | rfl
set_option maxRecDepth 65536 in
set_option maxHeartbeats 40000000 in
theorem rm_init (l : Launch) (Z : State) (a0 : Array Value) (hw : ∀ d ∈ tables_1, d.before a0 Z = true) (a : Addr) (p0 : Int32) (h0 : Heap) (n0 : Nat) (Z0 : n0 ≤ h0.size) (f0 : Exa Z h0 a "com/example/branchwise/branchwise/propagation/RevisionList") (f1 : n0 ≤ a) (f2 : Fld Z h0 a "com/example/branchwise/branchwise/propagation/RevisionList" "entries" "[I" .null) (f3 : Fld Z h0 a "com/example/branchwise/branchwise/propagation/RevisionList" "listed" "[Z" .null) (f4 : Fld Z h0 a "com/example/branchwise/branchwise/propagation/RevisionList" "head" "I" (.int (0 : Int32))) (f5 : Fld Z h0 a "com/example/branchwise/branchwise/propagation/RevisionList" "length" "I" (.int (0 : Int32))) (f6 : ¬ p0 < 0) (f7 : p0.toNatClampNeg ≤ 4) (f8 : 0 < p0.toNatClampNeg) :
    Met l Z (⟨"com/example/branchwise/branchwise/propagation/RevisionList", "<init>", "(I)V"⟩ : MethodName) prog_32_method_1_code 2 none [] ({ frames := 1, cells := 2, slots := 8, locals := 12 } : Room) #[(.ref a), (.int p0)] h0 (Q_init Z a p0 h0 n0) := by
  refine Met.of (plainFor_of_name pn_init) ?_
  intro p e s m below meth c s₁ X0 hx hby hml hZ hown hnm e0 hret hlk
  refine Go.cast (ef_init m a p0) ?_
  show Go _ _ _ _ s₁ (mkF m 0 #[.val (.ref a), .val (.int p0)] []) _ _ _
  have N0 := Fr.nil n0
  refine Go.aloadN X0 hx (hb hby d_init_0) rfl rfl ?_
  show Go _ _ _ _ s₁ (mkF m 1 #[.val (.ref a), .val (.int p0)] [(.ref a)]) _ _ _
  refine Go.initO (W := 0) X0 hx hZ hown (w12 hw) (w13 hw) (w14 hw) e0 (hb hby d_init_1) (by rw [hml]; rfl) (Nat.le_of_eq rfl) (by decide) (by decide) ?_
  intro T1 X1 e1
  show Go _ _ _ _ T1 (mkF m 4 #[.val (.ref a), .val (.int p0)] []) _ _ _
  refine Go.aloadN X1 hx (hb hby d_init_4) rfl rfl ?_
  show Go _ _ _ _ T1 (mkF m 5 #[.val (.ref a), .val (.int p0)] [(.ref a)]) _ _ _
  refine Go.iloadN X1 hx (hb hby d_init_5) rfl ?_
  show Go _ _ _ _ T1 (mkF m 6 #[.val (.ref a), .val (.int p0)] [(.int p0), (.ref a)]) _ _ _
  refine Go.newarray (aty := .int) (cap := 4) X1 hx hZ (w5 hw) e1 (hb hby d_init_6) f6 f7 (by decide) (by decide) (by decide) ?_
  intro T2 h2 a2 k2 b2 X2 e2 E2 A2
  have g_a2 : n0 ≤ a2 := by rw [b2]; exact Z0
  have y_a2 : h0.size ≤ a2 := by rw [b2]; exact (Nat.le_refl _)
  have ne_a_a2 : a ≠ a2 := by rw [b2]; exact Nat.ne_of_lt f0.lt
  have Z2 : n0 ≤ h2.size := Nat.le_trans Z0 E2.1
  have B2 : h0.size ≤ h2.size := Nat.le_trans (Nat.le_refl _) E2.1
  show Go _ _ _ _ T2 (mkF m 8 #[.val (.ref a), .val (.int p0)] [(.ref a2), (.ref a)]) _ _ _
  refine Go.putF X2 hx hZ hown (w15 hw) Via.refl e2 (Fld.ext E2 f2) (Exa.ext E2 f0) (Or.inr ⟨(w16 hw), rfl, hnm⟩) (w7 hw) (ty := (.array .int)) (by decide) rfl rfl (hb hby d_init_8) ?_
  intro T3 h3 X3 e3 W3
  have N3 := Fr.snoc X3 N0 f1
  have Z3 : n0 ≤ h3.size := by rw [Wr.size W3]; exact Z2
  have B3 : h0.size ≤ h3.size := by rw [Wr.size W3]; exact B2
  show Go _ _ _ _ T3 (mkF m 11 #[.val (.ref a), .val (.int p0)] []) _ _ _
  refine Go.aloadN X3 hx (hb hby d_init_11) rfl rfl ?_
  show Go _ _ _ _ T3 (mkF m 12 #[.val (.ref a), .val (.int p0)] [(.ref a)]) _ _ _
  refine Go.iloadN X3 hx (hb hby d_init_12) rfl ?_
  show Go _ _ _ _ T3 (mkF m 13 #[.val (.ref a), .val (.int p0)] [(.int p0), (.ref a)]) _ _ _
  refine Go.newarray (aty := .boolean) (cap := 4) X3 hx hZ (w17 hw) e3 (hb hby d_init_13) f6 f7 (by decide) (by decide) (by decide) ?_
  intro T4 h4 a4 k4 b4 X4 e4 E4 A4
  have g_a4 : n0 ≤ a4 := by rw [b4]; exact Z3
  have y_a4 : h0.size ≤ a4 := by rw [b4]; exact B3
  have ne_a_a4 : a ≠ a4 := by rw [b4]; exact Nat.ne_of_lt (Exa.wr W3 (Exa.ext E2 f0)).lt
  have ne_a2_a4 : a2 ≠ a4 := by rw [b4]; exact Nat.ne_of_lt (Af.other W3 A2 (Ne.symm ne_a_a2)).lt
  have Z4 : n0 ≤ h4.size := Nat.le_trans Z3 E4.1
  have B4 : h0.size ≤ h4.size := Nat.le_trans B3 E4.1
  show Go _ _ _ _ T4 (mkF m 15 #[.val (.ref a), .val (.int p0)] [(.ref a4), (.ref a)]) _ _ _
  have F5 := (Fld.ext E4 (Fld.other W3 (Fld.ext E2 f3) (Or.inr (slot_ne (a0 := a0) (Or.inr (w19 hw)) (Or.inr (w16 hw)) (t := (.array .boolean)) (t' := (.array .int)) (by decide) (by decide) (by decide)))))
  refine Go.putF X4 hx hZ hown (w18 hw) Via.refl e4 F5 (Exa.ext E4 (Exa.wr W3 (Exa.ext E2 f0))) (Or.inr ⟨(w19 hw), rfl, hnm⟩) (w7 hw) (ty := (.array .boolean)) (by decide) rfl rfl (hb hby d_init_15) ?_
  intro T6 h6 X6 e6 W6
  have N6 := Fr.snoc X6 N3 f1
  have Z6 : n0 ≤ h6.size := by rw [Wr.size W6]; exact Z4
  have B6 : h0.size ≤ h6.size := by rw [Wr.size W6]; exact B4
  show Go _ _ _ _ T6 (mkF m 18 #[.val (.ref a), .val (.int p0)] []) _ _ _
  refine Go.ret0 X6 hx hlk hret (hb hby d_init_18) (by decide) (by decide) ?_
  rw [e6]
  have F7 := (Exa.wr W6 (Exa.ext E4 (Exa.wr W3 (Exa.ext E2 f0))))
  have F8 := (Fld.other W6 (Fld.ext E4 (Fld.same W3 (Fld.ext E2 f2))) (Or.inr (slot_ne (a0 := a0) (Or.inr (w16 hw)) (Or.inr (w19 hw)) (t := (.array .int)) (t' := (.array .boolean)) (by decide) (by decide) (by decide))))
  have F9 := (Fld.other W6 (Fld.ext E4 (Fld.other W3 (Fld.ext E2 f4) (Or.inr (slot_ne (a0 := a0) (Or.inl (w26 hw)) (Or.inr (w16 hw)) (t := .int) (t' := (.array .int)) (by decide) (by decide) (by decide))))) (Or.inr (slot_ne (a0 := a0) (Or.inl (w26 hw)) (Or.inr (w19 hw)) (t := .int) (t' := (.array .boolean)) (by decide) (by decide) (by decide))))
  have F10 := (Fld.other W6 (Fld.ext E4 (Fld.other W3 (Fld.ext E2 f5) (Or.inr (slot_ne (a0 := a0) (Or.inl (w28 hw)) (Or.inr (w16 hw)) (t := .int) (t' := (.array .int)) (by decide) (by decide) (by decide))))) (Or.inr (slot_ne (a0 := a0) (Or.inl (w28 hw)) (Or.inr (w19 hw)) (t := .int) (t' := (.array .boolean)) (by decide) (by decide) (by decide))))
  have F11 := (Af.other W6 (Af.ext E4 (Af.other W3 A2 (Ne.symm ne_a_a2))) (Ne.symm ne_a_a2))
  exact ⟨a2, a4, rfl, N6, (Keep.wr (Keep.ext (Keep.wr (Keep.ext (Keep.refl _ _) E2) W3 (Or.inl (List.mem_of_getElem? (i := 0) rfl))) E4) W6 (Or.inl (List.mem_of_getElem? (i := 0) rfl))), F7, g_a2, g_a4, y_a2, y_a4, ne_a_a2, ne_a_a4, ne_a2_a4, ⟨_, _, (fun _ => (0 : Int32)), (fun _ => (0 : Int32)), 0, 0, F8, (Fld.same W6 F5), F9, F10, F11, (Af.other W6 A4 (Ne.symm ne_a_a4)), inv0 f8 f7⟩⟩
def Q_add (Z : State) (a : Addr) (p0 : Int32) (aE : Addr) (aB : Addr) (n : Nat) (es : List Int32) (h0 : Heap) (n0 : Nat) (v : Option Value) (h : Heap) (L : List Loc) : Prop := v = none ∧ Fr n0 L ∧ Keep h0 h [a, aE, aB] ∧ Exa Z h a "com/example/branchwise/branchwise/propagation/RevisionList" ∧ RL Z h a aE aB n (ins (es) p0)
theorem ef_add (m : MethodId) (x0 : Addr) (x1 : Int32) : entryFrame m #[(.ref x0), (.int x1)] 2 = mkF m 0 #[.val (.ref x0), .val (.int x1)] [] := by first | (simp [entryFrame, mkF, argsToLocals, Value.category]; done) | rfl
set_option maxRecDepth 65536 in
set_option maxHeartbeats 40000000 in
theorem rm_add (l : Launch) (Z : State) (a0 : Array Value) (hw : ∀ d ∈ tables_1, d.before a0 Z = true) (a : Addr) (p0 : Int32) (aE : Addr) (aB : Addr) (n : Nat) (es : List Int32) (h0 : Heap) (n0 : Nat) (Z0 : n0 ≤ h0.size) (f0 : Exa Z h0 a "com/example/branchwise/branchwise/propagation/RevisionList") (f1 : n0 ≤ a) (f2 : n0 ≤ aE) (f3 : n0 ≤ aB) (f4 : a ≠ aE) (f5 : a ≠ aB) (f6 : aE ≠ aB) (f7 : RL Z h0 a aE aB n es) (f8 : 0 ≤ p0.toInt) (f9 : p0.toInt < n) :
    Met l Z (⟨"com/example/branchwise/branchwise/propagation/RevisionList", "add", "(I)V"⟩ : MethodName) prog_32_method_2_code 2 none [] ({ frames := 0, cells := 0, slots := 0, locals := 0 } : Room) #[(.ref a), (.int p0)] h0 (Q_add Z a p0 aE aB n es h0 n0) := by
  refine Met.of (plainFor_of_name pn_add) ?_
  intro p e s m below meth c s₁ X0 hx hby hml hZ hown hnm e0 hret hlk
  refine Go.cast (ef_add m a p0) ?_
  show Go _ _ _ _ s₁ (mkF m 0 #[.val (.ref a), .val (.int p0)] []) _ _ _
  have N0 := Fr.nil n0
  obtain ⟨kE, kB, ef, lf, hd, ln, r1, r2, r3, r4, r5, r6, I⟩ := f7
  obtain ⟨h0n, hn4⟩ := I.1
  have pnn : 0 ≤ p0.toInt := f8
  have pln : p0.toInt < n := f9
  refine Go.aloadN X0 hx (hb hby d_add_0) rfl rfl ?_
  show Go _ _ _ _ s₁ (mkF m 1 #[.val (.ref a), .val (.int p0)] [(.ref a)]) _ _ _
  refine Go.getF X0 hx hZ hown (w18 hw) Via.refl e0 r2 (hb hby d_add_1) ?_
  intro T12 X12 e12
  show Go _ _ _ _ T12 (mkF m 4 #[.val (.ref a), .val (.int p0)] [(.ref aB)]) _ _ _
  refine Go.iloadN X12 hx (hb hby d_add_4) rfl ?_
  show Go _ _ _ _ T12 (mkF m 5 #[.val (.ref a), .val (.int p0)] [(.int p0), (.ref aB)]) _ _ _
  refine Go.baloadZ X12 hx hZ e12 r6 (neg_of f8) (by have := nat_clamp f8; omega) (hb hby d_add_5) ?_
  show Go _ _ _ _ T12 (mkF m 6 #[.val (.ref a), .val (.int p0)] [(.int (lf (p0).toNatClampNeg))]) _ _ _
  rcases Decidable.em ((lf (p0).toNatClampNeg) = (0 : Int32)) with c13 | c13
  · refine Go.ifYes X12 hx (hb hby d_add_6) (XT.i0_eq_t c13) (pc' := 10) (by decide) (by decide) ?_
    show Go _ _ _ _ T12 (mkF m 10 #[.val (.ref a), .val (.int p0)] []) _ _ _
    refine Go.aloadN X12 hx (hb hby d_add_10) rfl rfl ?_
    show Go _ _ _ _ T12 (mkF m 11 #[.val (.ref a), .val (.int p0)] [(.ref a)]) _ _ _
    refine Go.getF X12 hx hZ hown (w15 hw) Via.refl e12 r1 (hb hby d_add_11) ?_
    intro T14 X14 e14
    show Go _ _ _ _ T14 (mkF m 14 #[.val (.ref a), .val (.int p0)] [(.ref aE)]) _ _ _
    refine Go.aloadN X14 hx (hb hby d_add_14) rfl rfl ?_
    show Go _ _ _ _ T14 (mkF m 15 #[.val (.ref a), .val (.int p0)] [(.ref a), (.ref aE)]) _ _ _
    refine Go.getF X14 hx hZ hown (w25 hw) Via.refl e14 r3 (hb hby d_add_15) ?_
    intro T15 X15 e15
    show Go _ _ _ _ T15 (mkF m 18 #[.val (.ref a), .val (.int p0)] [(.int hd), (.ref aE)]) _ _ _
    refine Go.aloadN X15 hx (hb hby d_add_18) rfl rfl ?_
    show Go _ _ _ _ T15 (mkF m 19 #[.val (.ref a), .val (.int p0)] [(.ref a), (.int hd), (.ref aE)]) _ _ _
    refine Go.getF X15 hx hZ hown (w27 hw) Via.refl e15 r4 (hb hby d_add_19) ?_
    intro T16 X16 e16
    show Go _ _ _ _ T16 (mkF m 22 #[.val (.ref a), .val (.int p0)] [(.int ln), (.int hd), (.ref aE)]) _ _ _
    refine Go.iadd X16 hx (hb hby d_add_22) ?_
    show Go _ _ _ _ T16 (mkF m 23 #[.val (.ref a), .val (.int p0)] [(.int (hd + ln)), (.ref aE)]) _ _ _
    refine Go.aloadN X16 hx (hb hby d_add_23) rfl rfl ?_
    show Go _ _ _ _ T16 (mkF m 24 #[.val (.ref a), .val (.int p0)] [(.ref a), (.int (hd + ln)), (.ref aE)]) _ _ _
    refine Go.getF X16 hx hZ hown (w15 hw) Via.refl e16 r1 (hb hby d_add_24) ?_
    intro T17 X17 e17
    show Go _ _ _ _ T17 (mkF m 27 #[.val (.ref a), .val (.int p0)] [(.ref aE), (.int (hd + ln)), (.ref aE)]) _ _ _
    refine Go.alen X17 hx hZ e17 r5 (hb hby d_add_27) ?_
    show Go _ _ _ _ T17 (mkF m 28 #[.val (.ref a), .val (.int p0)] [(.int (Nat.toInt32 n)), (.int (hd + ln)), (.ref aE)]) _ _ _
    refine Go.irem X17 hx (hb hby d_add_28) (n_nz h0n hn4) ?_
    show Go _ _ _ _ T17 (mkF m 29 #[.val (.ref a), .val (.int p0)] [(.int ((hd + ln) % (Nat.toInt32 n))), (.ref aE)]) _ _ _
    refine Go.iloadN X17 hx (hb hby d_add_29) rfl ?_
    show Go _ _ _ _ T17 (mkF m 30 #[.val (.ref a), .val (.int p0)] [(.int p0), (.int ((hd + ln) % (Nat.toInt32 n))), (.ref aE)]) _ _ _
    refine Go.iastore X17 hx hZ e17 r5 (ix_ok h0n hn4 I.2.1.1 I.2.1.2 (by have := I.2.2.1; omega) (by have := I.2.2.1; have := inv_len I; omega)).1 (by rw [(ix_ok h0n hn4 I.2.1.1 I.2.1.2 (by have := I.2.2.1; omega) (by have := I.2.2.1; have := inv_len I; omega)).2]; exact Nat.mod_lt _ h0n) (hb hby d_add_30) ?_
    intro T18 h18 X18 e18 W18 A18
    have N18 := Fr.snoc X18 N0 f2
    have Z18 : n0 ≤ h18.size := by rw [Wr.size W18]; exact Z0
    have B18 : h0.size ≤ h18.size := by rw [Wr.size W18]; exact (Nat.le_refl _)
    have A19 : Af Z h18 aE kE .int n (fun i => Value.int ((updI ef (((hd + ln) % (Nat.toInt32 n))).toNatClampNeg p0) i)) := Af.updI A18
    show Go _ _ _ _ T18 (mkF m 31 #[.val (.ref a), .val (.int p0)] []) _ _ _
    refine Go.aloadN X18 hx (hb hby d_add_31) rfl rfl ?_
    show Go _ _ _ _ T18 (mkF m 32 #[.val (.ref a), .val (.int p0)] [(.ref a)]) _ _ _
    refine Go.dup X18 hx (hb hby d_add_32) rfl ?_
    show Go _ _ _ _ T18 (mkF m 33 #[.val (.ref a), .val (.int p0)] [(.ref a), (.ref a)]) _ _ _
    refine Go.getF X18 hx hZ hown (w27 hw) Via.refl e18 (Fld.other W18 r4 (Or.inl f4)) (hb hby d_add_33) ?_
    intro T20 X20 e20
    show Go _ _ _ _ T20 (mkF m 36 #[.val (.ref a), .val (.int p0)] [(.int ln), (.ref a)]) _ _ _
    refine Go.iconst X20 hx (hb hby d_add_36) ?_
    show Go _ _ _ _ T20 (mkF m 37 #[.val (.ref a), .val (.int p0)] [(.int (1 : Int32)), (.int ln), (.ref a)]) _ _ _
    refine Go.iadd X20 hx (hb hby d_add_37) ?_
    show Go _ _ _ _ T20 (mkF m 38 #[.val (.ref a), .val (.int p0)] [(.int (ln + (1 : Int32))), (.ref a)]) _ _ _
    refine Go.putF X20 hx hZ hown (w27 hw) Via.refl e20 (Fld.other W18 r4 (Or.inl f4)) (Exa.wr W18 f0) (Or.inl (w28 hw)) (w7 hw) (ty := .int) (by decide) rfl rfl (hb hby d_add_38) ?_
    intro T21 h21 X21 e21 W21
    have N21 := Fr.snoc X21 N18 f1
    have Z21 : n0 ≤ h21.size := by rw [Wr.size W21]; exact Z18
    have B21 : h0.size ≤ h21.size := by rw [Wr.size W21]; exact B18
    show Go _ _ _ _ T21 (mkF m 41 #[.val (.ref a), .val (.int p0)] []) _ _ _
    refine Go.aloadN X21 hx (hb hby d_add_41) rfl rfl ?_
    show Go _ _ _ _ T21 (mkF m 42 #[.val (.ref a), .val (.int p0)] [(.ref a)]) _ _ _
    have F22 := (Fld.other W21 (Fld.other W18 r2 (Or.inl f4)) (Or.inr (slot_ne (a0 := a0) (Or.inr (w19 hw)) (Or.inl (w28 hw)) (t := (.array .boolean)) (t' := .int) (by decide) (by decide) (by decide))))
    refine Go.getF X21 hx hZ hown (w18 hw) Via.refl e21 F22 (hb hby d_add_42) ?_
    intro T23 X23 e23
    show Go _ _ _ _ T23 (mkF m 45 #[.val (.ref a), .val (.int p0)] [(.ref aB)]) _ _ _
    refine Go.iloadN X23 hx (hb hby d_add_45) rfl ?_
    show Go _ _ _ _ T23 (mkF m 46 #[.val (.ref a), .val (.int p0)] [(.int p0), (.ref aB)]) _ _ _
    refine Go.iconst X23 hx (hb hby d_add_46) ?_
    show Go _ _ _ _ T23 (mkF m 47 #[.val (.ref a), .val (.int p0)] [(.int (1 : Int32)), (.int p0), (.ref aB)]) _ _ _
    have F24 := (Af.other W21 (Af.other W18 r6 (Ne.symm f6)) (Ne.symm f5))
    refine Go.bastoreZ X23 hx hZ e23 F24 (neg_of f8) (by have := nat_clamp f8; omega) (hb hby d_add_47) ?_
    intro T25 h25 X25 e25 W25 A25
    have N25 := Fr.snoc X25 N21 f3
    have Z25 : n0 ≤ h25.size := by rw [Wr.size W25]; exact Z21
    have B25 : h0.size ≤ h25.size := by rw [Wr.size W25]; exact B21
    have A26 : Af Z h25 aB kB .boolean n (fun i => Value.int ((updI lf (p0).toNatClampNeg (1 : Int32)) i)) := Af.updI A25
    show Go _ _ _ _ T25 (mkF m 48 #[.val (.ref a), .val (.int p0)] []) _ _ _
    refine Go.ret0 X25 hx hlk hret (hb hby d_add_48) (by decide) (by decide) ?_
    rw [e25]
    have F27 := (Exa.wr W25 (Exa.wr W21 (Exa.wr W18 f0)))
    have F28 := (Fld.other W25 (Fld.other W21 (Fld.other W18 r1 (Or.inl f4)) (Or.inr (slot_ne (a0 := a0) (Or.inr (w16 hw)) (Or.inl (w28 hw)) (t := (.array .int)) (t' := .int) (by decide) (by decide) (by decide)))) (Or.inl f5))
    have F29 := (Fld.other W25 (Fld.other W21 (Fld.other W18 r3 (Or.inl f4)) (Or.inr (slot_ne (a0 := a0) (Or.inl (w26 hw)) (Or.inl (w28 hw)) (t := .int) (t' := .int) (by decide) (by decide) (by decide)))) (Or.inl f5))
    have F30 := (Fld.other W25 (Fld.same W21 (Fld.other W18 r4 (Or.inl f4))) (Or.inl f5))
    have F31 := (Af.other W25 (Af.other W21 A19 (Ne.symm f4)) f6)
    exact ⟨rfl, N25, (Keep.wr (Keep.wr (Keep.wr (Keep.refl _ _) W18 (Or.inl (List.mem_of_getElem? (i := 1) rfl))) W21 (Or.inl (List.mem_of_getElem? (i := 0) rfl))) W25 (Or.inl (List.mem_of_getElem? (i := 2) rfl))), F27, ⟨_, _, _, _, _, _, F28, (Fld.other W25 F22 (Or.inl f5)), F29, F30, F31, A26, inv_add I f8 f9 c13⟩⟩
  · refine Go.ifNo X12 hx (hb hby d_add_6) (XT.i0_eq_f c13) ?_
    show Go _ _ _ _ T12 (mkF m 9 #[.val (.ref a), .val (.int p0)] []) _ _ _
    refine Go.ret0 X12 hx hlk hret (hb hby d_add_9) (by decide) (by decide) ?_
    rw [e12]
    exact ⟨rfl, N0, (Keep.refl _ _), f0, ⟨_, _, _, _, _, _, r1, r2, r3, r4, r5, r6, inv_same I f8 f9 c13⟩⟩
def Q_get (Z : State) (a : Addr) (p0 : Int32) (aE : Addr) (aB : Addr) (n : Nat) (es : List Int32) (h0 : Heap) (n0 : Nat) (v : Option Value) (h : Heap) (L : List Loc) : Prop := v = some (.int ((es).getD p0.toNatClampNeg 0)) ∧ Fr n0 L ∧ h = h0
theorem ef_get (m : MethodId) (x0 : Addr) (x1 : Int32) : entryFrame m #[(.ref x0), (.int x1)] 2 = mkF m 0 #[.val (.ref x0), .val (.int x1)] [] := by first | (simp [entryFrame, mkF, argsToLocals, Value.category]; done) | rfl
set_option maxRecDepth 65536 in
set_option maxHeartbeats 40000000 in
theorem rm_get (l : Launch) (Z : State) (a0 : Array Value) (hw : ∀ d ∈ tables_1, d.before a0 Z = true) (a : Addr) (p0 : Int32) (aE : Addr) (aB : Addr) (n : Nat) (es : List Int32) (h0 : Heap) (n0 : Nat) (Z0 : n0 ≤ h0.size) (f0 : Exa Z h0 a "com/example/branchwise/branchwise/propagation/RevisionList") (f1 : n0 ≤ a) (f2 : n0 ≤ aE) (f3 : n0 ≤ aB) (f4 : a ≠ aE) (f5 : a ≠ aB) (f6 : aE ≠ aB) (f7 : RL Z h0 a aE aB n es) (f8 : 0 ≤ p0.toInt) (f9 : p0.toInt < es.length) :
    Met l Z (⟨"com/example/branchwise/branchwise/propagation/RevisionList", "get", "(I)I"⟩ : MethodName) prog_32_method_4_code 2 (Option.some Jvm.ClassFile.FieldType.int) [] ({ frames := 0, cells := 0, slots := 0, locals := 0 } : Room) #[(.ref a), (.int p0)] h0 (Q_get Z a p0 aE aB n es h0 n0) := by
  refine Met.of (plainFor_of_name pn_get) ?_
  intro p e s m below meth c s₁ X0 hx hby hml hZ hown hnm e0 hret hlk
  refine Go.cast (ef_get m a p0) ?_
  show Go _ _ _ _ s₁ (mkF m 0 #[.val (.ref a), .val (.int p0)] []) _ _ _
  have N0 := Fr.nil n0
  obtain ⟨kE, kB, ef, lf, hd, ln, r1, r2, r3, r4, r5, r6, I⟩ := f7
  obtain ⟨h0n, hn4⟩ := I.1
  refine Go.aloadN X0 hx (hb hby d_get_0) rfl rfl ?_
  show Go _ _ _ _ s₁ (mkF m 1 #[.val (.ref a), .val (.int p0)] [(.ref a)]) _ _ _
  refine Go.getF X0 hx hZ hown (w15 hw) Via.refl e0 r1 (hb hby d_get_1) ?_
  intro T32 X32 e32
  show Go _ _ _ _ T32 (mkF m 4 #[.val (.ref a), .val (.int p0)] [(.ref aE)]) _ _ _
  refine Go.aloadN X32 hx (hb hby d_get_4) rfl rfl ?_
  show Go _ _ _ _ T32 (mkF m 5 #[.val (.ref a), .val (.int p0)] [(.ref a), (.ref aE)]) _ _ _
  refine Go.getF X32 hx hZ hown (w25 hw) Via.refl e32 r3 (hb hby d_get_5) ?_
  intro T33 X33 e33
  show Go _ _ _ _ T33 (mkF m 8 #[.val (.ref a), .val (.int p0)] [(.int hd), (.ref aE)]) _ _ _
  refine Go.iloadN X33 hx (hb hby d_get_8) rfl ?_
  show Go _ _ _ _ T33 (mkF m 9 #[.val (.ref a), .val (.int p0)] [(.int p0), (.int hd), (.ref aE)]) _ _ _
  refine Go.iadd X33 hx (hb hby d_get_9) ?_
  show Go _ _ _ _ T33 (mkF m 10 #[.val (.ref a), .val (.int p0)] [(.int (hd + p0)), (.ref aE)]) _ _ _
  refine Go.aloadN X33 hx (hb hby d_get_10) rfl rfl ?_
  show Go _ _ _ _ T33 (mkF m 11 #[.val (.ref a), .val (.int p0)] [(.ref a), (.int (hd + p0)), (.ref aE)]) _ _ _
  refine Go.getF X33 hx hZ hown (w15 hw) Via.refl e33 r1 (hb hby d_get_11) ?_
  intro T34 X34 e34
  show Go _ _ _ _ T34 (mkF m 14 #[.val (.ref a), .val (.int p0)] [(.ref aE), (.int (hd + p0)), (.ref aE)]) _ _ _
  refine Go.alen X34 hx hZ e34 r5 (hb hby d_get_14) ?_
  show Go _ _ _ _ T34 (mkF m 15 #[.val (.ref a), .val (.int p0)] [(.int (Nat.toInt32 n)), (.int (hd + p0)), (.ref aE)]) _ _ _
  refine Go.irem X34 hx (hb hby d_get_15) (n_nz h0n hn4) ?_
  show Go _ _ _ _ T34 (mkF m 16 #[.val (.ref a), .val (.int p0)] [(.int ((hd + p0) % (Nat.toInt32 n))), (.ref aE)]) _ _ _
  refine Go.iaload X34 hx hZ e34 r5 (inv_get I f8 f9).1 (inv_get I f8 f9).2.1 (hb hby d_get_16) ?_
  show Go _ _ _ _ T34 (mkF m 17 #[.val (.ref a), .val (.int p0)] [(.int (ef (((hd + p0) % (Nat.toInt32 n))).toNatClampNeg))]) _ _ _
  refine Go.retI X34 hx hlk hret (hb hby d_get_17) (by decide) (by decide) ?_
  rw [e34]
  exact ⟨by rw [← (inv_get I f8 f9).2.2], N0, rfl⟩
def Q_size (Z : State) (a : Addr) (aE : Addr) (aB : Addr) (n : Nat) (es : List Int32) (h0 : Heap) (n0 : Nat) (v : Option Value) (h : Heap) (L : List Loc) : Prop := ∃ (ef lf : Nat → Int32) (hd ln : Int32), v = some (.int ln) ∧ Inv n ef lf hd ln es ∧ Fr n0 L ∧ h = h0
theorem ef_size (m : MethodId) (x0 : Addr) : entryFrame m #[(.ref x0)] 1 = mkF m 0 #[.val (.ref x0)] [] := by first | (simp [entryFrame, mkF, argsToLocals, Value.category]; done) | rfl
set_option maxRecDepth 65536 in
set_option maxHeartbeats 40000000 in
theorem rm_size (l : Launch) (Z : State) (a0 : Array Value) (hw : ∀ d ∈ tables_1, d.before a0 Z = true) (a : Addr) (aE : Addr) (aB : Addr) (n : Nat) (es : List Int32) (h0 : Heap) (n0 : Nat) (Z0 : n0 ≤ h0.size) (f0 : Exa Z h0 a "com/example/branchwise/branchwise/propagation/RevisionList") (f1 : n0 ≤ a) (f2 : n0 ≤ aE) (f3 : n0 ≤ aB) (f4 : a ≠ aE) (f5 : a ≠ aB) (f6 : aE ≠ aB) (f7 : RL Z h0 a aE aB n es) :
    Met l Z (⟨"com/example/branchwise/branchwise/propagation/RevisionList", "size", "()I"⟩ : MethodName) prog_32_method_3_code 1 (Option.some Jvm.ClassFile.FieldType.int) [] ({ frames := 0, cells := 0, slots := 0, locals := 0 } : Room) #[(.ref a)] h0 (Q_size Z a aE aB n es h0 n0) := by
  refine Met.of (plainFor_of_name pn_size) ?_
  intro p e s m below meth c s₁ X0 hx hby hml hZ hown hnm e0 hret hlk
  refine Go.cast (ef_size m a) ?_
  show Go _ _ _ _ s₁ (mkF m 0 #[.val (.ref a)] []) _ _ _
  have N0 := Fr.nil n0
  obtain ⟨kE, kB, ef, lf, hd, ln, r1, r2, r3, r4, r5, r6, I⟩ := f7
  obtain ⟨h0n, hn4⟩ := I.1
  refine Go.aloadN X0 hx (hb hby d_size_0) rfl rfl ?_
  show Go _ _ _ _ s₁ (mkF m 1 #[.val (.ref a)] [(.ref a)]) _ _ _
  refine Go.getF X0 hx hZ hown (w27 hw) Via.refl e0 r4 (hb hby d_size_1) ?_
  intro T35 X35 e35
  show Go _ _ _ _ T35 (mkF m 4 #[.val (.ref a)] [(.int ln)]) _ _ _
  refine Go.retI X35 hx hlk hret (hb hby d_size_4) (by decide) (by decide) ?_
  rw [e35]
  exact ⟨_, _, _, _, rfl, I, N0, rfl⟩
def Q_rem (Z : State) (a : Addr) (aE : Addr) (aB : Addr) (n : Nat) (es : List Int32) (h0 : Heap) (n0 : Nat) (v : Option Value) (h : Heap) (L : List Loc) : Prop := v = some (.int ((es).getD 0 0)) ∧ Fr n0 L ∧ Keep h0 h [a, aE, aB] ∧ Exa Z h a "com/example/branchwise/branchwise/propagation/RevisionList" ∧ RL Z h a aE aB n ((es).tail)
theorem ef_rem (m : MethodId) (x0 : Addr) (x1 : Int32) : entryFrame m #[(.ref x0), (.int x1)] 4 = mkF m 0 #[.val (.ref x0), .val (.int x1), .unset, .unset] [] := by first | (simp [entryFrame, mkF, argsToLocals, Value.category]; done) | rfl
set_option maxRecDepth 65536 in
set_option maxHeartbeats 40000000 in
theorem rm_rem (l : Launch) (Z : State) (a0 : Array Value) (hw : ∀ d ∈ tables_1, d.before a0 Z = true) (a : Addr) (aE : Addr) (aB : Addr) (n : Nat) (es : List Int32) (h0 : Heap) (n0 : Nat) (Z0 : n0 ≤ h0.size) (f0 : Exa Z h0 a "com/example/branchwise/branchwise/propagation/RevisionList") (f1 : n0 ≤ a) (f2 : n0 ≤ aE) (f3 : n0 ≤ aB) (f4 : a ≠ aE) (f5 : a ≠ aB) (f6 : aE ≠ aB) (f7 : RL Z h0 a aE aB n es) (f8 : 0 < es.length) :
    Met l Z (⟨"com/example/branchwise/branchwise/propagation/RevisionList", "remove", "(I)I"⟩ : MethodName) prog_32_method_5_code 4 (Option.some Jvm.ClassFile.FieldType.int) [] ({ frames := 1, cells := 0, slots := 0, locals := 13 } : Room) #[(.ref a), (.int (0 : Int32))] h0 (Q_rem Z a aE aB n es h0 n0) := by
  refine Met.of (plainFor_of_name pn_rem) ?_
  intro p e s m below meth c s₁ X0 hx hby hml hZ hown hnm e0 hret hlk
  refine Go.cast (ef_rem m a ((0 : Int32))) ?_
  show Go _ _ _ _ s₁ (mkF m 0 #[.val (.ref a), .val (.int (0 : Int32)), .unset, .unset] []) _ _ _
  have N0 := Fr.nil n0
  have g7 := f7
  obtain ⟨kE, kB, ef, lf, hd, ln, r1, r2, r3, r4, r5, r6, I⟩ := f7
  obtain ⟨h0n, hn4⟩ := I.1
  refine Go.aloadN X0 hx (hb hby d_rem_0) rfl rfl ?_
  show Go _ _ _ _ s₁ (mkF m 1 #[.val (.ref a), .val (.int (0 : Int32)), .unset, .unset] [(.ref a)]) _ _ _
  refine Go.iloadN X0 hx (hb hby d_rem_1) rfl ?_
  show Go _ _ _ _ s₁ (mkF m 2 #[.val (.ref a), .val (.int (0 : Int32)), .unset, .unset] [(.int (0 : Int32)), (.ref a)]) _ _ _
  refine Go.callV (W := 0) (argsL := [(.int (0 : Int32))]) (rest := []) X0 hx hZ hown (w37 hw) (w38 hw) (w40 hw) (w39 hw) (w8 hw) (w41 hw) (notFace_of_selects (args := #[]) (mvT hZ (w40 hw))) (by decide) f0 (rm_get l Z a0 hw a (0 : Int32) aE aB n es h0 n0 Z0 f0 f1 f2 f3 f4 f5 f6 g7 (by decide) (by show (0 : Int) < _; have := f8; omega)) e0 (lenOf pd_0 rfl) (hb hby d_rem_2) (by rw [hml]; rfl) rfl (Nat.le_of_eq rfl) (by decide) (by decide) (by decide) (by decide) ?_
  intro v36 T36 L36 X36 q36
  obtain ⟨rfl, M36, e36⟩ := q36
  have N36 := Fr.app N0 M36
  show Go _ _ _ _ T36 (mkF m 5 #[.val (.ref a), .val (.int (0 : Int32)), .unset, .unset] [(.int ((es).getD (0 : Int32).toNatClampNeg 0))]) _ _ _
  refine Go.istoreN X36 hx (hb hby d_rem_5) (l' := #[.val (.ref a), .val (.int (0 : Int32)), .val (.int ((es).getD (0 : Int32).toNatClampNeg 0)), .unset]) rfl ?_
  show Go _ _ _ _ T36 (mkF m 6 #[.val (.ref a), .val (.int (0 : Int32)), .val (.int ((es).getD (0 : Int32).toNatClampNeg 0)), .unset] []) _ _ _
  refine Go.iloadN X36 hx (hb hby d_rem_6) rfl ?_
  show Go _ _ _ _ T36 (mkF m 7 #[.val (.ref a), .val (.int (0 : Int32)), .val (.int ((es).getD (0 : Int32).toNatClampNeg 0)), .unset] [(.int (0 : Int32))]) _ _ _
  refine Go.istoreN X36 hx (hb hby d_rem_7) (l' := #[.val (.ref a), .val (.int (0 : Int32)), .val (.int ((es).getD (0 : Int32).toNatClampNeg 0)), .val (.int (0 : Int32))]) rfl ?_
  show Go _ _ _ _ T36 (mkF m 8 #[.val (.ref a), .val (.int (0 : Int32)), .val (.int ((es).getD (0 : Int32).toNatClampNeg 0)), .val (.int (0 : Int32))] []) _ _ _
  refine Go.iloadN X36 hx (hb hby d_rem_8) rfl ?_
  show Go _ _ _ _ T36 (mkF m 9 #[.val (.ref a), .val (.int (0 : Int32)), .val (.int ((es).getD (0 : Int32).toNatClampNeg 0)), .val (.int (0 : Int32))] [(.int (0 : Int32))]) _ _ _
  refine Go.ifYes X36 hx (hb hby d_rem_9) (XT.i0_le_t (by decide)) (pc' := 54) (by decide) (by decide) ?_
  show Go _ _ _ _ T36 (mkF m 54 #[.val (.ref a), .val (.int (0 : Int32)), .val (.int ((es).getD (0 : Int32).toNatClampNeg 0)), .val (.int (0 : Int32))] []) _ _ _
  refine Go.aloadN X36 hx (hb hby d_rem_54) rfl rfl ?_
  show Go _ _ _ _ T36 (mkF m 55 #[.val (.ref a), .val (.int (0 : Int32)), .val (.int ((es).getD (0 : Int32).toNatClampNeg 0)), .val (.int (0 : Int32))] [(.ref a)]) _ _ _
  refine Go.aloadN X36 hx (hb hby d_rem_55) rfl rfl ?_
  show Go _ _ _ _ T36 (mkF m 56 #[.val (.ref a), .val (.int (0 : Int32)), .val (.int ((es).getD (0 : Int32).toNatClampNeg 0)), .val (.int (0 : Int32))] [(.ref a), (.ref a)]) _ _ _
  refine Go.getF X36 hx hZ hown (w25 hw) Via.refl e36 r3 (hb hby d_rem_56) ?_
  intro T37 X37 e37
  show Go _ _ _ _ T37 (mkF m 59 #[.val (.ref a), .val (.int (0 : Int32)), .val (.int ((es).getD (0 : Int32).toNatClampNeg 0)), .val (.int (0 : Int32))] [(.int hd), (.ref a)]) _ _ _
  refine Go.iconst X37 hx (hb hby d_rem_59) ?_
  show Go _ _ _ _ T37 (mkF m 60 #[.val (.ref a), .val (.int (0 : Int32)), .val (.int ((es).getD (0 : Int32).toNatClampNeg 0)), .val (.int (0 : Int32))] [(.int (1 : Int32)), (.int hd), (.ref a)]) _ _ _
  refine Go.iadd X37 hx (hb hby d_rem_60) ?_
  show Go _ _ _ _ T37 (mkF m 61 #[.val (.ref a), .val (.int (0 : Int32)), .val (.int ((es).getD (0 : Int32).toNatClampNeg 0)), .val (.int (0 : Int32))] [(.int (hd + (1 : Int32))), (.ref a)]) _ _ _
  refine Go.aloadN X37 hx (hb hby d_rem_61) rfl rfl ?_
  show Go _ _ _ _ T37 (mkF m 62 #[.val (.ref a), .val (.int (0 : Int32)), .val (.int ((es).getD (0 : Int32).toNatClampNeg 0)), .val (.int (0 : Int32))] [(.ref a), (.int (hd + (1 : Int32))), (.ref a)]) _ _ _
  refine Go.getF X37 hx hZ hown (w15 hw) Via.refl e37 r1 (hb hby d_rem_62) ?_
  intro T38 X38 e38
  show Go _ _ _ _ T38 (mkF m 65 #[.val (.ref a), .val (.int (0 : Int32)), .val (.int ((es).getD (0 : Int32).toNatClampNeg 0)), .val (.int (0 : Int32))] [(.ref aE), (.int (hd + (1 : Int32))), (.ref a)]) _ _ _
  refine Go.alen X38 hx hZ e38 r5 (hb hby d_rem_65) ?_
  show Go _ _ _ _ T38 (mkF m 66 #[.val (.ref a), .val (.int (0 : Int32)), .val (.int ((es).getD (0 : Int32).toNatClampNeg 0)), .val (.int (0 : Int32))] [(.int (Nat.toInt32 n)), (.int (hd + (1 : Int32))), (.ref a)]) _ _ _
  refine Go.irem X38 hx (hb hby d_rem_66) (n_nz h0n hn4) ?_
  show Go _ _ _ _ T38 (mkF m 67 #[.val (.ref a), .val (.int (0 : Int32)), .val (.int ((es).getD (0 : Int32).toNatClampNeg 0)), .val (.int (0 : Int32))] [(.int ((hd + (1 : Int32)) % (Nat.toInt32 n))), (.ref a)]) _ _ _
  refine Go.putF X38 hx hZ hown (w25 hw) Via.refl e38 r3 f0 (Or.inl (w26 hw)) (w7 hw) (ty := .int) (by decide) rfl rfl (hb hby d_rem_67) ?_
  intro T39 h39 X39 e39 W39
  have N39 := Fr.snoc X39 N36 f1
  have Z39 : n0 ≤ h39.size := by rw [Wr.size W39]; exact Z0
  have B39 : h0.size ≤ h39.size := by rw [Wr.size W39]; exact (Nat.le_refl _)
  show Go _ _ _ _ T39 (mkF m 70 #[.val (.ref a), .val (.int (0 : Int32)), .val (.int ((es).getD (0 : Int32).toNatClampNeg 0)), .val (.int (0 : Int32))] []) _ _ _
  refine Go.aloadN X39 hx (hb hby d_rem_70) rfl rfl ?_
  show Go _ _ _ _ T39 (mkF m 71 #[.val (.ref a), .val (.int (0 : Int32)), .val (.int ((es).getD (0 : Int32).toNatClampNeg 0)), .val (.int (0 : Int32))] [(.ref a)]) _ _ _
  refine Go.dup X39 hx (hb hby d_rem_71) rfl ?_
  show Go _ _ _ _ T39 (mkF m 72 #[.val (.ref a), .val (.int (0 : Int32)), .val (.int ((es).getD (0 : Int32).toNatClampNeg 0)), .val (.int (0 : Int32))] [(.ref a), (.ref a)]) _ _ _
  have F40 := (Fld.other W39 r4 (Or.inr (slot_ne (a0 := a0) (Or.inl (w28 hw)) (Or.inl (w26 hw)) (t := .int) (t' := .int) (by decide) (by decide) (by decide))))
  refine Go.getF X39 hx hZ hown (w27 hw) Via.refl e39 F40 (hb hby d_rem_72) ?_
  intro T41 X41 e41
  show Go _ _ _ _ T41 (mkF m 75 #[.val (.ref a), .val (.int (0 : Int32)), .val (.int ((es).getD (0 : Int32).toNatClampNeg 0)), .val (.int (0 : Int32))] [(.int ln), (.ref a)]) _ _ _
  refine Go.iconst X41 hx (hb hby d_rem_75) ?_
  show Go _ _ _ _ T41 (mkF m 76 #[.val (.ref a), .val (.int (0 : Int32)), .val (.int ((es).getD (0 : Int32).toNatClampNeg 0)), .val (.int (0 : Int32))] [(.int (1 : Int32)), (.int ln), (.ref a)]) _ _ _
  refine Go.isub X41 hx (hb hby d_rem_76) ?_
  show Go _ _ _ _ T41 (mkF m 77 #[.val (.ref a), .val (.int (0 : Int32)), .val (.int ((es).getD (0 : Int32).toNatClampNeg 0)), .val (.int (0 : Int32))] [(.int (ln - (1 : Int32))), (.ref a)]) _ _ _
  refine Go.putF X41 hx hZ hown (w27 hw) Via.refl e41 F40 (Exa.wr W39 f0) (Or.inl (w28 hw)) (w7 hw) (ty := .int) (by decide) rfl rfl (hb hby d_rem_77) ?_
  intro T42 h42 X42 e42 W42
  have N42 := Fr.snoc X42 N39 f1
  have Z42 : n0 ≤ h42.size := by rw [Wr.size W42]; exact Z39
  have B42 : h0.size ≤ h42.size := by rw [Wr.size W42]; exact B39
  show Go _ _ _ _ T42 (mkF m 80 #[.val (.ref a), .val (.int (0 : Int32)), .val (.int ((es).getD (0 : Int32).toNatClampNeg 0)), .val (.int (0 : Int32))] []) _ _ _
  refine Go.aloadN X42 hx (hb hby d_rem_80) rfl rfl ?_
  show Go _ _ _ _ T42 (mkF m 81 #[.val (.ref a), .val (.int (0 : Int32)), .val (.int ((es).getD (0 : Int32).toNatClampNeg 0)), .val (.int (0 : Int32))] [(.ref a)]) _ _ _
  have F43 := (Fld.other W42 (Fld.other W39 r2 (Or.inr (slot_ne (a0 := a0) (Or.inr (w19 hw)) (Or.inl (w26 hw)) (t := (.array .boolean)) (t' := .int) (by decide) (by decide) (by decide)))) (Or.inr (slot_ne (a0 := a0) (Or.inr (w19 hw)) (Or.inl (w28 hw)) (t := (.array .boolean)) (t' := .int) (by decide) (by decide) (by decide))))
  refine Go.getF X42 hx hZ hown (w18 hw) Via.refl e42 F43 (hb hby d_rem_81) ?_
  intro T44 X44 e44
  show Go _ _ _ _ T44 (mkF m 84 #[.val (.ref a), .val (.int (0 : Int32)), .val (.int ((es).getD (0 : Int32).toNatClampNeg 0)), .val (.int (0 : Int32))] [(.ref aB)]) _ _ _
  refine Go.iloadN X44 hx (hb hby d_rem_84) rfl ?_
  show Go _ _ _ _ T44 (mkF m 85 #[.val (.ref a), .val (.int (0 : Int32)), .val (.int ((es).getD (0 : Int32).toNatClampNeg 0)), .val (.int (0 : Int32))] [(.int ((es).getD (0 : Int32).toNatClampNeg 0)), (.ref aB)]) _ _ _
  refine Go.iconst X44 hx (hb hby d_rem_85) ?_
  show Go _ _ _ _ T44 (mkF m 86 #[.val (.ref a), .val (.int (0 : Int32)), .val (.int ((es).getD (0 : Int32).toNatClampNeg 0)), .val (.int (0 : Int32))] [(.int (0 : Int32)), (.int ((es).getD (0 : Int32).toNatClampNeg 0)), (.ref aB)]) _ _ _
  have F45 := (Af.other W42 (Af.other W39 r6 (Ne.symm f5)) (Ne.symm f5))
  refine Go.bastoreZ X44 hx hZ e44 F45 (neg_of (I.2.2.2.2.1 _ (get_mem (es := es) (i := 0) f8 rfl)).1) (by have q := I.2.2.2.2.1 _ (get_mem (es := es) (i := 0) f8 rfl); have z0 : Int32.toNatClampNeg 0 = 0 := rfl; have := nat_clamp q.1; rw [z0]; omega) (hb hby d_rem_86) ?_
  intro T46 h46 X46 e46 W46 A46
  have N46 := Fr.snoc X46 N42 f3
  have Z46 : n0 ≤ h46.size := by rw [Wr.size W46]; exact Z42
  have B46 : h0.size ≤ h46.size := by rw [Wr.size W46]; exact B42
  have A47 : Af Z h46 aB kB .boolean n (fun i => Value.int ((updI lf (((es).getD (0 : Int32).toNatClampNeg 0)).toNatClampNeg (0 : Int32)) i)) := Af.updI A46
  show Go _ _ _ _ T46 (mkF m 87 #[.val (.ref a), .val (.int (0 : Int32)), .val (.int ((es).getD (0 : Int32).toNatClampNeg 0)), .val (.int (0 : Int32))] []) _ _ _
  refine Go.iloadN X46 hx (hb hby d_rem_87) rfl ?_
  show Go _ _ _ _ T46 (mkF m 88 #[.val (.ref a), .val (.int (0 : Int32)), .val (.int ((es).getD (0 : Int32).toNatClampNeg 0)), .val (.int (0 : Int32))] [(.int ((es).getD (0 : Int32).toNatClampNeg 0))]) _ _ _
  refine Go.retI X46 hx hlk hret (hb hby d_rem_88) (by decide) (by decide) ?_
  rw [e46]
  have F48 := (Exa.wr W46 (Exa.wr W42 (Exa.wr W39 f0)))
  have F49 := (Fld.other W46 (Fld.other W42 (Fld.other W39 r1 (Or.inr (slot_ne (a0 := a0) (Or.inr (w16 hw)) (Or.inl (w26 hw)) (t := (.array .int)) (t' := .int) (by decide) (by decide) (by decide)))) (Or.inr (slot_ne (a0 := a0) (Or.inr (w16 hw)) (Or.inl (w28 hw)) (t := (.array .int)) (t' := .int) (by decide) (by decide) (by decide)))) (Or.inl f5))
  have F50 := (Fld.other W46 (Fld.other W42 (Fld.same W39 r3) (Or.inr (slot_ne (a0 := a0) (Or.inl (w26 hw)) (Or.inl (w28 hw)) (t := .int) (t' := .int) (by decide) (by decide) (by decide)))) (Or.inl f5))
  have F51 := (Fld.other W46 (Fld.same W42 F40) (Or.inl f5))
  have F52 := (Af.other W46 (Af.other W42 (Af.other W39 r5 (Ne.symm f4)) (Ne.symm f4)) f6)
  exact ⟨rfl, N46, (Keep.wr (Keep.wr (Keep.wr (Keep.refl _ _) W39 (Or.inl (List.mem_of_getElem? (i := 0) rfl))) W42 (Or.inl (List.mem_of_getElem? (i := 0) rfl))) W46 (Or.inl (List.mem_of_getElem? (i := 2) rfl))), F48, ⟨_, _, _, _, _, _, F49, (Fld.other W46 F43 (Or.inl f5)), F50, F51, F52, A47, (by obtain ⟨x, xs, rfl⟩ : ∃ x xs, es = x :: xs := List.exists_cons_of_length_pos f8; exact inv_rem I)⟩⟩
def Q_refadd (Z : State) (am : Addr) (p0 : Int32) (es : List Int32) (h0 : Heap) (n0 : Nat) (v : Option Value) (h : Heap) (L : List Loc) : Prop := v = none ∧ Fr n0 L ∧ Keep h0 h [am] ∧ ML Z h am (ins (es) p0)
theorem ef_refadd (m : MethodId) (x0 : Addr) (x1 : Int32) : entryFrame m #[(.ref x0), (.int x1)] 4 = mkF m 0 #[.val (.ref x0), .val (.int x1), .unset, .unset] [] := by first | (simp [entryFrame, mkF, argsToLocals, Value.category]; done) | rfl
set_option maxRecDepth 65536 in
set_option maxHeartbeats 40000000 in
theorem rm_refadd (l : Launch) (Z : State) (a0 : Array Value) (hw : ∀ d ∈ tables_1, d.before a0 Z = true) (am : Addr) (p0 : Int32) (es : List Int32) (h0 : Heap) (n0 : Nat) (Z0 : n0 ≤ h0.size) (f0 : n0 ≤ am) (f1 : ML Z h0 am es) (f2 : True) (f3 : p0 ∈ es ∨ es.length < 4) :
    Met l Z (⟨"com/example/branchwise/branchwise/propagation/RevisionListAddPinLaw", "refAdd", "([II)V"⟩ : MethodName) method_3_code 4 none [] ({ frames := 0, cells := 0, slots := 0, locals := 0 } : Room) #[(.ref am), (.int p0)] h0 (Q_refadd Z am p0 es h0 n0) := by
  refine Met.of (plainFor_of_name pn_refadd) ?_
  intro p e s m below meth c s₁ X0 hx hby hml hZ hown hnm e0 hret hlk
  refine Go.cast (ef_refadd m am p0) ?_
  show Go _ _ _ _ s₁ (mkF m 0 #[.val (.ref am), .val (.int p0), .unset, .unset] []) _ _ _
  have N0 := Fr.nil n0
  obtain ⟨k, f, r1, M⟩ := f1
  refine Go.aloadN X0 hx (hb hby d_refadd_0) rfl rfl ?_
  show Go _ _ _ _ s₁ (mkF m 1 #[.val (.ref am), .val (.int p0), .unset, .unset] [(.ref am)]) _ _ _
  refine Go.iconst X0 hx (hb hby d_refadd_1) ?_
  show Go _ _ _ _ s₁ (mkF m 2 #[.val (.ref am), .val (.int p0), .unset, .unset] [(.int (4 : Int32)), (.ref am)]) _ _ _
  refine Go.iaload X0 hx hZ e0 r1 (by decide) (by decide) (hb hby d_refadd_2) ?_
  show Go _ _ _ _ s₁ (mkF m 3 #[.val (.ref am), .val (.int p0), .unset, .unset] [(.int (f 4))]) _ _ _
  refine Go.istoreN X0 hx (hb hby d_refadd_3) (l' := #[.val (.ref am), .val (.int p0), .val (.int (f 4)), .unset]) rfl ?_
  show Go _ _ _ _ s₁ (mkF m 4 #[.val (.ref am), .val (.int p0), .val (.int (f 4)), .unset] []) _ _ _
  refine Go.iloadN X0 hx (hb hby d_refadd_4) rfl ?_
  show Go _ _ _ _ s₁ (mkF m 5 #[.val (.ref am), .val (.int p0), .val (.int (f 4)), .unset] [(.int (f 4))]) _ _ _
  rcases Decidable.em ((0 : Int32) < (f 4)) with c53 | c53
  · refine Go.ifNo X0 hx (hb hby d_refadd_5) (XT.i0_le_f c53) ?_
    show Go _ _ _ _ s₁ (mkF m 8 #[.val (.ref am), .val (.int p0), .val (.int (f 4)), .unset] []) _ _ _
    refine Go.aloadN X0 hx (hb hby d_refadd_8) rfl rfl ?_
    show Go _ _ _ _ s₁ (mkF m 9 #[.val (.ref am), .val (.int p0), .val (.int (f 4)), .unset] [(.ref am)]) _ _ _
    refine Go.iconst X0 hx (hb hby d_refadd_9) ?_
    show Go _ _ _ _ s₁ (mkF m 10 #[.val (.ref am), .val (.int p0), .val (.int (f 4)), .unset] [(.int (0 : Int32)), (.ref am)]) _ _ _
    refine Go.iaload X0 hx hZ e0 r1 (by decide) (by decide) (hb hby d_refadd_10) ?_
    show Go _ _ _ _ s₁ (mkF m 11 #[.val (.ref am), .val (.int p0), .val (.int (f 4)), .unset] [(.int (f 0))]) _ _ _
    refine Go.iloadN X0 hx (hb hby d_refadd_11) rfl ?_
    show Go _ _ _ _ s₁ (mkF m 12 #[.val (.ref am), .val (.int p0), .val (.int (f 4)), .unset] [(.int p0), (.int (f 0))]) _ _ _
    rcases Decidable.em ((f 0) = p0) with c54 | c54
    · refine Go.icmpYes X0 hx (hb hby d_refadd_12) (XT.ii_eq_t c54) (pc' := 51) (by decide) (by decide) ?_
      show Go _ _ _ _ s₁ (mkF m 51 #[.val (.ref am), .val (.int p0), .val (.int (f 4)), .unset] []) _ _ _
      refine Go.iconst X0 hx (hb hby d_refadd_51) ?_
      show Go _ _ _ _ s₁ (mkF m 52 #[.val (.ref am), .val (.int p0), .val (.int (f 4)), .unset] [(.int (1 : Int32))]) _ _ _
      refine Go.goto X0 hx (hb hby d_refadd_52) (pc' := 56) (by decide) (by decide) ?_
      show Go _ _ _ _ s₁ (mkF m 56 #[.val (.ref am), .val (.int p0), .val (.int (f 4)), .unset] [(.int (1 : Int32))]) _ _ _
      refine Go.istoreN X0 hx (hb hby d_refadd_56) (l' := #[.val (.ref am), .val (.int p0), .val (.int (f 4)), .val (.int (1 : Int32))]) rfl ?_
      show Go _ _ _ _ s₁ (mkF m 57 #[.val (.ref am), .val (.int p0), .val (.int (f 4)), .val (.int (1 : Int32))] []) _ _ _
      refine Go.iloadN X0 hx (hb hby d_refadd_57) rfl ?_
      show Go _ _ _ _ s₁ (mkF m 58 #[.val (.ref am), .val (.int p0), .val (.int (f 4)), .val (.int (1 : Int32))] [(.int (1 : Int32))]) _ _ _
      refine Go.ifYes X0 hx (hb hby d_refadd_58) (XT.i0_ne_t (by decide)) (pc' := 71) (by decide) (by decide) ?_
      show Go _ _ _ _ s₁ (mkF m 71 #[.val (.ref am), .val (.int p0), .val (.int (f 4)), .val (.int (1 : Int32))] []) _ _ _
      refine Go.ret0 X0 hx hlk hret (hb hby d_refadd_71) (by decide) (by decide) ?_
      rw [e0]
      exact ⟨rfl, N0, (Keep.refl _ _), ⟨_, _, r1, m_same M (by unfold present; simp only [c53, c54, true_and, and_true, or_true, true_or])⟩⟩
    · refine Go.icmpNo X0 hx (hb hby d_refadd_12) (XT.ii_eq_f c54) ?_
      show Go _ _ _ _ s₁ (mkF m 15 #[.val (.ref am), .val (.int p0), .val (.int (f 4)), .unset] []) _ _ _
      refine Go.iloadN X0 hx (hb hby d_refadd_15) rfl ?_
      show Go _ _ _ _ s₁ (mkF m 16 #[.val (.ref am), .val (.int p0), .val (.int (f 4)), .unset] [(.int (f 4))]) _ _ _
      refine Go.iconst X0 hx (hb hby d_refadd_16) ?_
      show Go _ _ _ _ s₁ (mkF m 17 #[.val (.ref am), .val (.int p0), .val (.int (f 4)), .unset] [(.int (1 : Int32)), (.int (f 4))]) _ _ _
      rcases Decidable.em ((1 : Int32) < (f 4)) with c55 | c55
      · refine Go.icmpNo X0 hx (hb hby d_refadd_17) (XT.ii_le_f c55) ?_
        show Go _ _ _ _ s₁ (mkF m 20 #[.val (.ref am), .val (.int p0), .val (.int (f 4)), .unset] []) _ _ _
        refine Go.aloadN X0 hx (hb hby d_refadd_20) rfl rfl ?_
        show Go _ _ _ _ s₁ (mkF m 21 #[.val (.ref am), .val (.int p0), .val (.int (f 4)), .unset] [(.ref am)]) _ _ _
        refine Go.iconst X0 hx (hb hby d_refadd_21) ?_
        show Go _ _ _ _ s₁ (mkF m 22 #[.val (.ref am), .val (.int p0), .val (.int (f 4)), .unset] [(.int (1 : Int32)), (.ref am)]) _ _ _
        refine Go.iaload X0 hx hZ e0 r1 (by decide) (by decide) (hb hby d_refadd_22) ?_
        show Go _ _ _ _ s₁ (mkF m 23 #[.val (.ref am), .val (.int p0), .val (.int (f 4)), .unset] [(.int (f 1))]) _ _ _
        refine Go.iloadN X0 hx (hb hby d_refadd_23) rfl ?_
        show Go _ _ _ _ s₁ (mkF m 24 #[.val (.ref am), .val (.int p0), .val (.int (f 4)), .unset] [(.int p0), (.int (f 1))]) _ _ _
        rcases Decidable.em ((f 1) = p0) with c56 | c56
        · refine Go.icmpYes X0 hx (hb hby d_refadd_24) (XT.ii_eq_t c56) (pc' := 51) (by decide) (by decide) ?_
          show Go _ _ _ _ s₁ (mkF m 51 #[.val (.ref am), .val (.int p0), .val (.int (f 4)), .unset] []) _ _ _
          refine Go.iconst X0 hx (hb hby d_refadd_51) ?_
          show Go _ _ _ _ s₁ (mkF m 52 #[.val (.ref am), .val (.int p0), .val (.int (f 4)), .unset] [(.int (1 : Int32))]) _ _ _
          refine Go.goto X0 hx (hb hby d_refadd_52) (pc' := 56) (by decide) (by decide) ?_
          show Go _ _ _ _ s₁ (mkF m 56 #[.val (.ref am), .val (.int p0), .val (.int (f 4)), .unset] [(.int (1 : Int32))]) _ _ _
          refine Go.istoreN X0 hx (hb hby d_refadd_56) (l' := #[.val (.ref am), .val (.int p0), .val (.int (f 4)), .val (.int (1 : Int32))]) rfl ?_
          show Go _ _ _ _ s₁ (mkF m 57 #[.val (.ref am), .val (.int p0), .val (.int (f 4)), .val (.int (1 : Int32))] []) _ _ _
          refine Go.iloadN X0 hx (hb hby d_refadd_57) rfl ?_
          show Go _ _ _ _ s₁ (mkF m 58 #[.val (.ref am), .val (.int p0), .val (.int (f 4)), .val (.int (1 : Int32))] [(.int (1 : Int32))]) _ _ _
          refine Go.ifYes X0 hx (hb hby d_refadd_58) (XT.i0_ne_t (by decide)) (pc' := 71) (by decide) (by decide) ?_
          show Go _ _ _ _ s₁ (mkF m 71 #[.val (.ref am), .val (.int p0), .val (.int (f 4)), .val (.int (1 : Int32))] []) _ _ _
          refine Go.ret0 X0 hx hlk hret (hb hby d_refadd_71) (by decide) (by decide) ?_
          rw [e0]
          exact ⟨rfl, N0, (Keep.refl _ _), ⟨_, _, r1, m_same M (by unfold present; simp only [c53, c54, c55, c56, true_and, and_true, or_true, true_or])⟩⟩
        · refine Go.icmpNo X0 hx (hb hby d_refadd_24) (XT.ii_eq_f c56) ?_
          show Go _ _ _ _ s₁ (mkF m 27 #[.val (.ref am), .val (.int p0), .val (.int (f 4)), .unset] []) _ _ _
          refine Go.iloadN X0 hx (hb hby d_refadd_27) rfl ?_
          show Go _ _ _ _ s₁ (mkF m 28 #[.val (.ref am), .val (.int p0), .val (.int (f 4)), .unset] [(.int (f 4))]) _ _ _
          refine Go.iconst X0 hx (hb hby d_refadd_28) ?_
          show Go _ _ _ _ s₁ (mkF m 29 #[.val (.ref am), .val (.int p0), .val (.int (f 4)), .unset] [(.int (2 : Int32)), (.int (f 4))]) _ _ _
          rcases Decidable.em ((2 : Int32) < (f 4)) with c57 | c57
          · refine Go.icmpNo X0 hx (hb hby d_refadd_29) (XT.ii_le_f c57) ?_
            show Go _ _ _ _ s₁ (mkF m 32 #[.val (.ref am), .val (.int p0), .val (.int (f 4)), .unset] []) _ _ _
            refine Go.aloadN X0 hx (hb hby d_refadd_32) rfl rfl ?_
            show Go _ _ _ _ s₁ (mkF m 33 #[.val (.ref am), .val (.int p0), .val (.int (f 4)), .unset] [(.ref am)]) _ _ _
            refine Go.iconst X0 hx (hb hby d_refadd_33) ?_
            show Go _ _ _ _ s₁ (mkF m 34 #[.val (.ref am), .val (.int p0), .val (.int (f 4)), .unset] [(.int (2 : Int32)), (.ref am)]) _ _ _
            refine Go.iaload X0 hx hZ e0 r1 (by decide) (by decide) (hb hby d_refadd_34) ?_
            show Go _ _ _ _ s₁ (mkF m 35 #[.val (.ref am), .val (.int p0), .val (.int (f 4)), .unset] [(.int (f 2))]) _ _ _
            refine Go.iloadN X0 hx (hb hby d_refadd_35) rfl ?_
            show Go _ _ _ _ s₁ (mkF m 36 #[.val (.ref am), .val (.int p0), .val (.int (f 4)), .unset] [(.int p0), (.int (f 2))]) _ _ _
            rcases Decidable.em ((f 2) = p0) with c58 | c58
            · refine Go.icmpYes X0 hx (hb hby d_refadd_36) (XT.ii_eq_t c58) (pc' := 51) (by decide) (by decide) ?_
              show Go _ _ _ _ s₁ (mkF m 51 #[.val (.ref am), .val (.int p0), .val (.int (f 4)), .unset] []) _ _ _
              refine Go.iconst X0 hx (hb hby d_refadd_51) ?_
              show Go _ _ _ _ s₁ (mkF m 52 #[.val (.ref am), .val (.int p0), .val (.int (f 4)), .unset] [(.int (1 : Int32))]) _ _ _
              refine Go.goto X0 hx (hb hby d_refadd_52) (pc' := 56) (by decide) (by decide) ?_
              show Go _ _ _ _ s₁ (mkF m 56 #[.val (.ref am), .val (.int p0), .val (.int (f 4)), .unset] [(.int (1 : Int32))]) _ _ _
              refine Go.istoreN X0 hx (hb hby d_refadd_56) (l' := #[.val (.ref am), .val (.int p0), .val (.int (f 4)), .val (.int (1 : Int32))]) rfl ?_
              show Go _ _ _ _ s₁ (mkF m 57 #[.val (.ref am), .val (.int p0), .val (.int (f 4)), .val (.int (1 : Int32))] []) _ _ _
              refine Go.iloadN X0 hx (hb hby d_refadd_57) rfl ?_
              show Go _ _ _ _ s₁ (mkF m 58 #[.val (.ref am), .val (.int p0), .val (.int (f 4)), .val (.int (1 : Int32))] [(.int (1 : Int32))]) _ _ _
              refine Go.ifYes X0 hx (hb hby d_refadd_58) (XT.i0_ne_t (by decide)) (pc' := 71) (by decide) (by decide) ?_
              show Go _ _ _ _ s₁ (mkF m 71 #[.val (.ref am), .val (.int p0), .val (.int (f 4)), .val (.int (1 : Int32))] []) _ _ _
              refine Go.ret0 X0 hx hlk hret (hb hby d_refadd_71) (by decide) (by decide) ?_
              rw [e0]
              exact ⟨rfl, N0, (Keep.refl _ _), ⟨_, _, r1, m_same M (by unfold present; simp only [c53, c54, c55, c56, c57, c58, true_and, and_true, or_true, true_or])⟩⟩
            · refine Go.icmpNo X0 hx (hb hby d_refadd_36) (XT.ii_eq_f c58) ?_
              show Go _ _ _ _ s₁ (mkF m 39 #[.val (.ref am), .val (.int p0), .val (.int (f 4)), .unset] []) _ _ _
              refine Go.iloadN X0 hx (hb hby d_refadd_39) rfl ?_
              show Go _ _ _ _ s₁ (mkF m 40 #[.val (.ref am), .val (.int p0), .val (.int (f 4)), .unset] [(.int (f 4))]) _ _ _
              refine Go.iconst X0 hx (hb hby d_refadd_40) ?_
              show Go _ _ _ _ s₁ (mkF m 41 #[.val (.ref am), .val (.int p0), .val (.int (f 4)), .unset] [(.int (3 : Int32)), (.int (f 4))]) _ _ _
              rcases Decidable.em ((3 : Int32) < (f 4)) with c59 | c59
              · refine Go.icmpNo X0 hx (hb hby d_refadd_41) (XT.ii_le_f c59) ?_
                show Go _ _ _ _ s₁ (mkF m 44 #[.val (.ref am), .val (.int p0), .val (.int (f 4)), .unset] []) _ _ _
                refine Go.aloadN X0 hx (hb hby d_refadd_44) rfl rfl ?_
                show Go _ _ _ _ s₁ (mkF m 45 #[.val (.ref am), .val (.int p0), .val (.int (f 4)), .unset] [(.ref am)]) _ _ _
                refine Go.iconst X0 hx (hb hby d_refadd_45) ?_
                show Go _ _ _ _ s₁ (mkF m 46 #[.val (.ref am), .val (.int p0), .val (.int (f 4)), .unset] [(.int (3 : Int32)), (.ref am)]) _ _ _
                refine Go.iaload X0 hx hZ e0 r1 (by decide) (by decide) (hb hby d_refadd_46) ?_
                show Go _ _ _ _ s₁ (mkF m 47 #[.val (.ref am), .val (.int p0), .val (.int (f 4)), .unset] [(.int (f 3))]) _ _ _
                refine Go.iloadN X0 hx (hb hby d_refadd_47) rfl ?_
                show Go _ _ _ _ s₁ (mkF m 48 #[.val (.ref am), .val (.int p0), .val (.int (f 4)), .unset] [(.int p0), (.int (f 3))]) _ _ _
                rcases Decidable.em ((f 3) = p0) with c60 | c60
                · refine Go.icmpNo X0 hx (hb hby d_refadd_48) (XT.ii_ne_f c60) ?_
                  show Go _ _ _ _ s₁ (mkF m 51 #[.val (.ref am), .val (.int p0), .val (.int (f 4)), .unset] []) _ _ _
                  refine Go.iconst X0 hx (hb hby d_refadd_51) ?_
                  show Go _ _ _ _ s₁ (mkF m 52 #[.val (.ref am), .val (.int p0), .val (.int (f 4)), .unset] [(.int (1 : Int32))]) _ _ _
                  refine Go.goto X0 hx (hb hby d_refadd_52) (pc' := 56) (by decide) (by decide) ?_
                  show Go _ _ _ _ s₁ (mkF m 56 #[.val (.ref am), .val (.int p0), .val (.int (f 4)), .unset] [(.int (1 : Int32))]) _ _ _
                  refine Go.istoreN X0 hx (hb hby d_refadd_56) (l' := #[.val (.ref am), .val (.int p0), .val (.int (f 4)), .val (.int (1 : Int32))]) rfl ?_
                  show Go _ _ _ _ s₁ (mkF m 57 #[.val (.ref am), .val (.int p0), .val (.int (f 4)), .val (.int (1 : Int32))] []) _ _ _
                  refine Go.iloadN X0 hx (hb hby d_refadd_57) rfl ?_
                  show Go _ _ _ _ s₁ (mkF m 58 #[.val (.ref am), .val (.int p0), .val (.int (f 4)), .val (.int (1 : Int32))] [(.int (1 : Int32))]) _ _ _
                  refine Go.ifYes X0 hx (hb hby d_refadd_58) (XT.i0_ne_t (by decide)) (pc' := 71) (by decide) (by decide) ?_
                  show Go _ _ _ _ s₁ (mkF m 71 #[.val (.ref am), .val (.int p0), .val (.int (f 4)), .val (.int (1 : Int32))] []) _ _ _
                  refine Go.ret0 X0 hx hlk hret (hb hby d_refadd_71) (by decide) (by decide) ?_
                  rw [e0]
                  exact ⟨rfl, N0, (Keep.refl _ _), ⟨_, _, r1, m_same M (by unfold present; simp only [c53, c54, c55, c56, c57, c58, c59, c60, true_and, and_true, or_true, true_or])⟩⟩
                · refine Go.icmpYes X0 hx (hb hby d_refadd_48) (XT.ii_ne_t c60) (pc' := 55) (by decide) (by decide) ?_
                  show Go _ _ _ _ s₁ (mkF m 55 #[.val (.ref am), .val (.int p0), .val (.int (f 4)), .unset] []) _ _ _
                  refine Go.iconst X0 hx (hb hby d_refadd_55) ?_
                  show Go _ _ _ _ s₁ (mkF m 56 #[.val (.ref am), .val (.int p0), .val (.int (f 4)), .unset] [(.int (0 : Int32))]) _ _ _
                  refine Go.istoreN X0 hx (hb hby d_refadd_56) (l' := #[.val (.ref am), .val (.int p0), .val (.int (f 4)), .val (.int (0 : Int32))]) rfl ?_
                  show Go _ _ _ _ s₁ (mkF m 57 #[.val (.ref am), .val (.int p0), .val (.int (f 4)), .val (.int (0 : Int32))] []) _ _ _
                  refine Go.iloadN X0 hx (hb hby d_refadd_57) rfl ?_
                  show Go _ _ _ _ s₁ (mkF m 58 #[.val (.ref am), .val (.int p0), .val (.int (f 4)), .val (.int (0 : Int32))] [(.int (0 : Int32))]) _ _ _
                  refine Go.ifNo X0 hx (hb hby d_refadd_58) (XT.i0_ne_f (by decide)) ?_
                  show Go _ _ _ _ s₁ (mkF m 61 #[.val (.ref am), .val (.int p0), .val (.int (f 4)), .val (.int (0 : Int32))] []) _ _ _
                  refine Go.aloadN X0 hx (hb hby d_refadd_61) rfl rfl ?_
                  show Go _ _ _ _ s₁ (mkF m 62 #[.val (.ref am), .val (.int p0), .val (.int (f 4)), .val (.int (0 : Int32))] [(.ref am)]) _ _ _
                  refine Go.iloadN X0 hx (hb hby d_refadd_62) rfl ?_
                  show Go _ _ _ _ s₁ (mkF m 63 #[.val (.ref am), .val (.int p0), .val (.int (f 4)), .val (.int (0 : Int32))] [(.int (f 4)), (.ref am)]) _ _ _
                  refine Go.iloadN X0 hx (hb hby d_refadd_63) rfl ?_
                  show Go _ _ _ _ s₁ (mkF m 64 #[.val (.ref am), .val (.int p0), .val (.int (f 4)), .val (.int (0 : Int32))] [(.int p0), (.int (f 4)), (.ref am)]) _ _ _
                  refine Go.iastore X0 hx hZ e0 r1 (m_ok M (by intro hp; unfold present at hp; rcases hp with ⟨u, w⟩ | ⟨u, w⟩ | ⟨u, w⟩ | ⟨u, w⟩ <;> first | exact c54 w | exact c54 u | exact c54 (Int32.lt_trans (by decide) u) | exact c56 w | exact c56 u | exact c56 (Int32.lt_trans (by decide) u) | exact c58 w | exact c58 u | exact c58 (Int32.lt_trans (by decide) u) | exact c60 w | exact c60 u | exact c60 (Int32.lt_trans (by decide) u)) f3).1 (m_ok M (by intro hp; unfold present at hp; rcases hp with ⟨u, w⟩ | ⟨u, w⟩ | ⟨u, w⟩ | ⟨u, w⟩ <;> first | exact c54 w | exact c54 u | exact c54 (Int32.lt_trans (by decide) u) | exact c56 w | exact c56 u | exact c56 (Int32.lt_trans (by decide) u) | exact c58 w | exact c58 u | exact c58 (Int32.lt_trans (by decide) u) | exact c60 w | exact c60 u | exact c60 (Int32.lt_trans (by decide) u)) f3).2 (hb hby d_refadd_64) ?_
                  intro T61 h61 X61 e61 W61 A61
                  have N61 := Fr.snoc X61 N0 f0
                  have Z61 : n0 ≤ h61.size := by rw [Wr.size W61]; exact Z0
                  have B61 : h0.size ≤ h61.size := by rw [Wr.size W61]; exact (Nat.le_refl _)
                  have A62 : Af Z h61 am k .int 5 (fun i => Value.int ((updI f ((f 4)).toNatClampNeg p0) i)) := Af.updI A61
                  show Go _ _ _ _ T61 (mkF m 65 #[.val (.ref am), .val (.int p0), .val (.int (f 4)), .val (.int (0 : Int32))] []) _ _ _
                  refine Go.aloadN X61 hx (hb hby d_refadd_65) rfl rfl ?_
                  show Go _ _ _ _ T61 (mkF m 66 #[.val (.ref am), .val (.int p0), .val (.int (f 4)), .val (.int (0 : Int32))] [(.ref am)]) _ _ _
                  refine Go.iconst X61 hx (hb hby d_refadd_66) ?_
                  show Go _ _ _ _ T61 (mkF m 67 #[.val (.ref am), .val (.int p0), .val (.int (f 4)), .val (.int (0 : Int32))] [(.int (4 : Int32)), (.ref am)]) _ _ _
                  refine Go.iloadN X61 hx (hb hby d_refadd_67) rfl ?_
                  show Go _ _ _ _ T61 (mkF m 68 #[.val (.ref am), .val (.int p0), .val (.int (f 4)), .val (.int (0 : Int32))] [(.int (f 4)), (.int (4 : Int32)), (.ref am)]) _ _ _
                  refine Go.iconst X61 hx (hb hby d_refadd_68) ?_
                  show Go _ _ _ _ T61 (mkF m 69 #[.val (.ref am), .val (.int p0), .val (.int (f 4)), .val (.int (0 : Int32))] [(.int (1 : Int32)), (.int (f 4)), (.int (4 : Int32)), (.ref am)]) _ _ _
                  refine Go.iadd X61 hx (hb hby d_refadd_69) ?_
                  show Go _ _ _ _ T61 (mkF m 70 #[.val (.ref am), .val (.int p0), .val (.int (f 4)), .val (.int (0 : Int32))] [(.int ((f 4) + (1 : Int32))), (.int (4 : Int32)), (.ref am)]) _ _ _
                  refine Go.iastore X61 hx hZ e61 A62 (by decide) (by decide) (hb hby d_refadd_70) ?_
                  intro T63 h63 X63 e63 W63 A63
                  have N63 := Fr.snoc X63 N61 f0
                  have Z63 : n0 ≤ h63.size := by rw [Wr.size W63]; exact Z61
                  have B63 : h0.size ≤ h63.size := by rw [Wr.size W63]; exact B61
                  have A64 : Af Z h63 am k .int 5 (fun i => Value.int ((updI (updI f ((f 4)).toNatClampNeg p0) 4 ((f 4) + (1 : Int32))) i)) := Af.updI A63
                  show Go _ _ _ _ T63 (mkF m 71 #[.val (.ref am), .val (.int p0), .val (.int (f 4)), .val (.int (0 : Int32))] []) _ _ _
                  refine Go.ret0 X63 hx hlk hret (hb hby d_refadd_71) (by decide) (by decide) ?_
                  rw [e63]
                  exact ⟨rfl, N63, (Keep.wr (Keep.wr (Keep.refl _ _) W61 (Or.inl (List.mem_of_getElem? (i := 0) rfl))) W63 (Or.inl (List.mem_of_getElem? (i := 0) rfl))), ⟨_, _, A64, m_add M (by intro hp; unfold present at hp; rcases hp with ⟨u, w⟩ | ⟨u, w⟩ | ⟨u, w⟩ | ⟨u, w⟩ <;> first | exact c54 w | exact c54 u | exact c54 (Int32.lt_trans (by decide) u) | exact c56 w | exact c56 u | exact c56 (Int32.lt_trans (by decide) u) | exact c58 w | exact c58 u | exact c58 (Int32.lt_trans (by decide) u) | exact c60 w | exact c60 u | exact c60 (Int32.lt_trans (by decide) u)) f3⟩⟩
              · refine Go.icmpYes X0 hx (hb hby d_refadd_41) (XT.ii_le_t c59) (pc' := 55) (by decide) (by decide) ?_
                show Go _ _ _ _ s₁ (mkF m 55 #[.val (.ref am), .val (.int p0), .val (.int (f 4)), .unset] []) _ _ _
                refine Go.iconst X0 hx (hb hby d_refadd_55) ?_
                show Go _ _ _ _ s₁ (mkF m 56 #[.val (.ref am), .val (.int p0), .val (.int (f 4)), .unset] [(.int (0 : Int32))]) _ _ _
                refine Go.istoreN X0 hx (hb hby d_refadd_56) (l' := #[.val (.ref am), .val (.int p0), .val (.int (f 4)), .val (.int (0 : Int32))]) rfl ?_
                show Go _ _ _ _ s₁ (mkF m 57 #[.val (.ref am), .val (.int p0), .val (.int (f 4)), .val (.int (0 : Int32))] []) _ _ _
                refine Go.iloadN X0 hx (hb hby d_refadd_57) rfl ?_
                show Go _ _ _ _ s₁ (mkF m 58 #[.val (.ref am), .val (.int p0), .val (.int (f 4)), .val (.int (0 : Int32))] [(.int (0 : Int32))]) _ _ _
                refine Go.ifNo X0 hx (hb hby d_refadd_58) (XT.i0_ne_f (by decide)) ?_
                show Go _ _ _ _ s₁ (mkF m 61 #[.val (.ref am), .val (.int p0), .val (.int (f 4)), .val (.int (0 : Int32))] []) _ _ _
                refine Go.aloadN X0 hx (hb hby d_refadd_61) rfl rfl ?_
                show Go _ _ _ _ s₁ (mkF m 62 #[.val (.ref am), .val (.int p0), .val (.int (f 4)), .val (.int (0 : Int32))] [(.ref am)]) _ _ _
                refine Go.iloadN X0 hx (hb hby d_refadd_62) rfl ?_
                show Go _ _ _ _ s₁ (mkF m 63 #[.val (.ref am), .val (.int p0), .val (.int (f 4)), .val (.int (0 : Int32))] [(.int (f 4)), (.ref am)]) _ _ _
                refine Go.iloadN X0 hx (hb hby d_refadd_63) rfl ?_
                show Go _ _ _ _ s₁ (mkF m 64 #[.val (.ref am), .val (.int p0), .val (.int (f 4)), .val (.int (0 : Int32))] [(.int p0), (.int (f 4)), (.ref am)]) _ _ _
                refine Go.iastore X0 hx hZ e0 r1 (m_ok M (by intro hp; unfold present at hp; rcases hp with ⟨u, w⟩ | ⟨u, w⟩ | ⟨u, w⟩ | ⟨u, w⟩ <;> first | exact c54 w | exact c54 u | exact c54 (Int32.lt_trans (by decide) u) | exact c56 w | exact c56 u | exact c56 (Int32.lt_trans (by decide) u) | exact c58 w | exact c58 u | exact c58 (Int32.lt_trans (by decide) u) | exact c59 w | exact c59 u | exact c59 (Int32.lt_trans (by decide) u)) f3).1 (m_ok M (by intro hp; unfold present at hp; rcases hp with ⟨u, w⟩ | ⟨u, w⟩ | ⟨u, w⟩ | ⟨u, w⟩ <;> first | exact c54 w | exact c54 u | exact c54 (Int32.lt_trans (by decide) u) | exact c56 w | exact c56 u | exact c56 (Int32.lt_trans (by decide) u) | exact c58 w | exact c58 u | exact c58 (Int32.lt_trans (by decide) u) | exact c59 w | exact c59 u | exact c59 (Int32.lt_trans (by decide) u)) f3).2 (hb hby d_refadd_64) ?_
                intro T65 h65 X65 e65 W65 A65
                have N65 := Fr.snoc X65 N0 f0
                have Z65 : n0 ≤ h65.size := by rw [Wr.size W65]; exact Z0
                have B65 : h0.size ≤ h65.size := by rw [Wr.size W65]; exact (Nat.le_refl _)
                have A66 : Af Z h65 am k .int 5 (fun i => Value.int ((updI f ((f 4)).toNatClampNeg p0) i)) := Af.updI A65
                show Go _ _ _ _ T65 (mkF m 65 #[.val (.ref am), .val (.int p0), .val (.int (f 4)), .val (.int (0 : Int32))] []) _ _ _
                refine Go.aloadN X65 hx (hb hby d_refadd_65) rfl rfl ?_
                show Go _ _ _ _ T65 (mkF m 66 #[.val (.ref am), .val (.int p0), .val (.int (f 4)), .val (.int (0 : Int32))] [(.ref am)]) _ _ _
                refine Go.iconst X65 hx (hb hby d_refadd_66) ?_
                show Go _ _ _ _ T65 (mkF m 67 #[.val (.ref am), .val (.int p0), .val (.int (f 4)), .val (.int (0 : Int32))] [(.int (4 : Int32)), (.ref am)]) _ _ _
                refine Go.iloadN X65 hx (hb hby d_refadd_67) rfl ?_
                show Go _ _ _ _ T65 (mkF m 68 #[.val (.ref am), .val (.int p0), .val (.int (f 4)), .val (.int (0 : Int32))] [(.int (f 4)), (.int (4 : Int32)), (.ref am)]) _ _ _
                refine Go.iconst X65 hx (hb hby d_refadd_68) ?_
                show Go _ _ _ _ T65 (mkF m 69 #[.val (.ref am), .val (.int p0), .val (.int (f 4)), .val (.int (0 : Int32))] [(.int (1 : Int32)), (.int (f 4)), (.int (4 : Int32)), (.ref am)]) _ _ _
                refine Go.iadd X65 hx (hb hby d_refadd_69) ?_
                show Go _ _ _ _ T65 (mkF m 70 #[.val (.ref am), .val (.int p0), .val (.int (f 4)), .val (.int (0 : Int32))] [(.int ((f 4) + (1 : Int32))), (.int (4 : Int32)), (.ref am)]) _ _ _
                refine Go.iastore X65 hx hZ e65 A66 (by decide) (by decide) (hb hby d_refadd_70) ?_
                intro T67 h67 X67 e67 W67 A67
                have N67 := Fr.snoc X67 N65 f0
                have Z67 : n0 ≤ h67.size := by rw [Wr.size W67]; exact Z65
                have B67 : h0.size ≤ h67.size := by rw [Wr.size W67]; exact B65
                have A68 : Af Z h67 am k .int 5 (fun i => Value.int ((updI (updI f ((f 4)).toNatClampNeg p0) 4 ((f 4) + (1 : Int32))) i)) := Af.updI A67
                show Go _ _ _ _ T67 (mkF m 71 #[.val (.ref am), .val (.int p0), .val (.int (f 4)), .val (.int (0 : Int32))] []) _ _ _
                refine Go.ret0 X67 hx hlk hret (hb hby d_refadd_71) (by decide) (by decide) ?_
                rw [e67]
                exact ⟨rfl, N67, (Keep.wr (Keep.wr (Keep.refl _ _) W65 (Or.inl (List.mem_of_getElem? (i := 0) rfl))) W67 (Or.inl (List.mem_of_getElem? (i := 0) rfl))), ⟨_, _, A68, m_add M (by intro hp; unfold present at hp; rcases hp with ⟨u, w⟩ | ⟨u, w⟩ | ⟨u, w⟩ | ⟨u, w⟩ <;> first | exact c54 w | exact c54 u | exact c54 (Int32.lt_trans (by decide) u) | exact c56 w | exact c56 u | exact c56 (Int32.lt_trans (by decide) u) | exact c58 w | exact c58 u | exact c58 (Int32.lt_trans (by decide) u) | exact c59 w | exact c59 u | exact c59 (Int32.lt_trans (by decide) u)) f3⟩⟩
          · refine Go.icmpYes X0 hx (hb hby d_refadd_29) (XT.ii_le_t c57) (pc' := 39) (by decide) (by decide) ?_
            show Go _ _ _ _ s₁ (mkF m 39 #[.val (.ref am), .val (.int p0), .val (.int (f 4)), .unset] []) _ _ _
            refine Go.iloadN X0 hx (hb hby d_refadd_39) rfl ?_
            show Go _ _ _ _ s₁ (mkF m 40 #[.val (.ref am), .val (.int p0), .val (.int (f 4)), .unset] [(.int (f 4))]) _ _ _
            refine Go.iconst X0 hx (hb hby d_refadd_40) ?_
            show Go _ _ _ _ s₁ (mkF m 41 #[.val (.ref am), .val (.int p0), .val (.int (f 4)), .unset] [(.int (3 : Int32)), (.int (f 4))]) _ _ _
            refine Go.icmpYes X0 hx (hb hby d_refadd_41) (XT.ii_le_t (fun z => c57 (Int32.lt_trans (by decide) z))) (pc' := 55) (by decide) (by decide) ?_
            show Go _ _ _ _ s₁ (mkF m 55 #[.val (.ref am), .val (.int p0), .val (.int (f 4)), .unset] []) _ _ _
            refine Go.iconst X0 hx (hb hby d_refadd_55) ?_
            show Go _ _ _ _ s₁ (mkF m 56 #[.val (.ref am), .val (.int p0), .val (.int (f 4)), .unset] [(.int (0 : Int32))]) _ _ _
            refine Go.istoreN X0 hx (hb hby d_refadd_56) (l' := #[.val (.ref am), .val (.int p0), .val (.int (f 4)), .val (.int (0 : Int32))]) rfl ?_
            show Go _ _ _ _ s₁ (mkF m 57 #[.val (.ref am), .val (.int p0), .val (.int (f 4)), .val (.int (0 : Int32))] []) _ _ _
            refine Go.iloadN X0 hx (hb hby d_refadd_57) rfl ?_
            show Go _ _ _ _ s₁ (mkF m 58 #[.val (.ref am), .val (.int p0), .val (.int (f 4)), .val (.int (0 : Int32))] [(.int (0 : Int32))]) _ _ _
            refine Go.ifNo X0 hx (hb hby d_refadd_58) (XT.i0_ne_f (by decide)) ?_
            show Go _ _ _ _ s₁ (mkF m 61 #[.val (.ref am), .val (.int p0), .val (.int (f 4)), .val (.int (0 : Int32))] []) _ _ _
            refine Go.aloadN X0 hx (hb hby d_refadd_61) rfl rfl ?_
            show Go _ _ _ _ s₁ (mkF m 62 #[.val (.ref am), .val (.int p0), .val (.int (f 4)), .val (.int (0 : Int32))] [(.ref am)]) _ _ _
            refine Go.iloadN X0 hx (hb hby d_refadd_62) rfl ?_
            show Go _ _ _ _ s₁ (mkF m 63 #[.val (.ref am), .val (.int p0), .val (.int (f 4)), .val (.int (0 : Int32))] [(.int (f 4)), (.ref am)]) _ _ _
            refine Go.iloadN X0 hx (hb hby d_refadd_63) rfl ?_
            show Go _ _ _ _ s₁ (mkF m 64 #[.val (.ref am), .val (.int p0), .val (.int (f 4)), .val (.int (0 : Int32))] [(.int p0), (.int (f 4)), (.ref am)]) _ _ _
            refine Go.iastore X0 hx hZ e0 r1 (m_ok M (by intro hp; unfold present at hp; rcases hp with ⟨u, w⟩ | ⟨u, w⟩ | ⟨u, w⟩ | ⟨u, w⟩ <;> first | exact c54 w | exact c54 u | exact c54 (Int32.lt_trans (by decide) u) | exact c56 w | exact c56 u | exact c56 (Int32.lt_trans (by decide) u) | exact c57 w | exact c57 u | exact c57 (Int32.lt_trans (by decide) u)) f3).1 (m_ok M (by intro hp; unfold present at hp; rcases hp with ⟨u, w⟩ | ⟨u, w⟩ | ⟨u, w⟩ | ⟨u, w⟩ <;> first | exact c54 w | exact c54 u | exact c54 (Int32.lt_trans (by decide) u) | exact c56 w | exact c56 u | exact c56 (Int32.lt_trans (by decide) u) | exact c57 w | exact c57 u | exact c57 (Int32.lt_trans (by decide) u)) f3).2 (hb hby d_refadd_64) ?_
            intro T69 h69 X69 e69 W69 A69
            have N69 := Fr.snoc X69 N0 f0
            have Z69 : n0 ≤ h69.size := by rw [Wr.size W69]; exact Z0
            have B69 : h0.size ≤ h69.size := by rw [Wr.size W69]; exact (Nat.le_refl _)
            have A70 : Af Z h69 am k .int 5 (fun i => Value.int ((updI f ((f 4)).toNatClampNeg p0) i)) := Af.updI A69
            show Go _ _ _ _ T69 (mkF m 65 #[.val (.ref am), .val (.int p0), .val (.int (f 4)), .val (.int (0 : Int32))] []) _ _ _
            refine Go.aloadN X69 hx (hb hby d_refadd_65) rfl rfl ?_
            show Go _ _ _ _ T69 (mkF m 66 #[.val (.ref am), .val (.int p0), .val (.int (f 4)), .val (.int (0 : Int32))] [(.ref am)]) _ _ _
            refine Go.iconst X69 hx (hb hby d_refadd_66) ?_
            show Go _ _ _ _ T69 (mkF m 67 #[.val (.ref am), .val (.int p0), .val (.int (f 4)), .val (.int (0 : Int32))] [(.int (4 : Int32)), (.ref am)]) _ _ _
            refine Go.iloadN X69 hx (hb hby d_refadd_67) rfl ?_
            show Go _ _ _ _ T69 (mkF m 68 #[.val (.ref am), .val (.int p0), .val (.int (f 4)), .val (.int (0 : Int32))] [(.int (f 4)), (.int (4 : Int32)), (.ref am)]) _ _ _
            refine Go.iconst X69 hx (hb hby d_refadd_68) ?_
            show Go _ _ _ _ T69 (mkF m 69 #[.val (.ref am), .val (.int p0), .val (.int (f 4)), .val (.int (0 : Int32))] [(.int (1 : Int32)), (.int (f 4)), (.int (4 : Int32)), (.ref am)]) _ _ _
            refine Go.iadd X69 hx (hb hby d_refadd_69) ?_
            show Go _ _ _ _ T69 (mkF m 70 #[.val (.ref am), .val (.int p0), .val (.int (f 4)), .val (.int (0 : Int32))] [(.int ((f 4) + (1 : Int32))), (.int (4 : Int32)), (.ref am)]) _ _ _
            refine Go.iastore X69 hx hZ e69 A70 (by decide) (by decide) (hb hby d_refadd_70) ?_
            intro T71 h71 X71 e71 W71 A71
            have N71 := Fr.snoc X71 N69 f0
            have Z71 : n0 ≤ h71.size := by rw [Wr.size W71]; exact Z69
            have B71 : h0.size ≤ h71.size := by rw [Wr.size W71]; exact B69
            have A72 : Af Z h71 am k .int 5 (fun i => Value.int ((updI (updI f ((f 4)).toNatClampNeg p0) 4 ((f 4) + (1 : Int32))) i)) := Af.updI A71
            show Go _ _ _ _ T71 (mkF m 71 #[.val (.ref am), .val (.int p0), .val (.int (f 4)), .val (.int (0 : Int32))] []) _ _ _
            refine Go.ret0 X71 hx hlk hret (hb hby d_refadd_71) (by decide) (by decide) ?_
            rw [e71]
            exact ⟨rfl, N71, (Keep.wr (Keep.wr (Keep.refl _ _) W69 (Or.inl (List.mem_of_getElem? (i := 0) rfl))) W71 (Or.inl (List.mem_of_getElem? (i := 0) rfl))), ⟨_, _, A72, m_add M (by intro hp; unfold present at hp; rcases hp with ⟨u, w⟩ | ⟨u, w⟩ | ⟨u, w⟩ | ⟨u, w⟩ <;> first | exact c54 w | exact c54 u | exact c54 (Int32.lt_trans (by decide) u) | exact c56 w | exact c56 u | exact c56 (Int32.lt_trans (by decide) u) | exact c57 w | exact c57 u | exact c57 (Int32.lt_trans (by decide) u)) f3⟩⟩
      · refine Go.icmpYes X0 hx (hb hby d_refadd_17) (XT.ii_le_t c55) (pc' := 27) (by decide) (by decide) ?_
        show Go _ _ _ _ s₁ (mkF m 27 #[.val (.ref am), .val (.int p0), .val (.int (f 4)), .unset] []) _ _ _
        refine Go.iloadN X0 hx (hb hby d_refadd_27) rfl ?_
        show Go _ _ _ _ s₁ (mkF m 28 #[.val (.ref am), .val (.int p0), .val (.int (f 4)), .unset] [(.int (f 4))]) _ _ _
        refine Go.iconst X0 hx (hb hby d_refadd_28) ?_
        show Go _ _ _ _ s₁ (mkF m 29 #[.val (.ref am), .val (.int p0), .val (.int (f 4)), .unset] [(.int (2 : Int32)), (.int (f 4))]) _ _ _
        refine Go.icmpYes X0 hx (hb hby d_refadd_29) (XT.ii_le_t (fun z => c55 (Int32.lt_trans (by decide) z))) (pc' := 39) (by decide) (by decide) ?_
        show Go _ _ _ _ s₁ (mkF m 39 #[.val (.ref am), .val (.int p0), .val (.int (f 4)), .unset] []) _ _ _
        refine Go.iloadN X0 hx (hb hby d_refadd_39) rfl ?_
        show Go _ _ _ _ s₁ (mkF m 40 #[.val (.ref am), .val (.int p0), .val (.int (f 4)), .unset] [(.int (f 4))]) _ _ _
        refine Go.iconst X0 hx (hb hby d_refadd_40) ?_
        show Go _ _ _ _ s₁ (mkF m 41 #[.val (.ref am), .val (.int p0), .val (.int (f 4)), .unset] [(.int (3 : Int32)), (.int (f 4))]) _ _ _
        refine Go.icmpYes X0 hx (hb hby d_refadd_41) (XT.ii_le_t (fun z => c55 (Int32.lt_trans (by decide) z))) (pc' := 55) (by decide) (by decide) ?_
        show Go _ _ _ _ s₁ (mkF m 55 #[.val (.ref am), .val (.int p0), .val (.int (f 4)), .unset] []) _ _ _
        refine Go.iconst X0 hx (hb hby d_refadd_55) ?_
        show Go _ _ _ _ s₁ (mkF m 56 #[.val (.ref am), .val (.int p0), .val (.int (f 4)), .unset] [(.int (0 : Int32))]) _ _ _
        refine Go.istoreN X0 hx (hb hby d_refadd_56) (l' := #[.val (.ref am), .val (.int p0), .val (.int (f 4)), .val (.int (0 : Int32))]) rfl ?_
        show Go _ _ _ _ s₁ (mkF m 57 #[.val (.ref am), .val (.int p0), .val (.int (f 4)), .val (.int (0 : Int32))] []) _ _ _
        refine Go.iloadN X0 hx (hb hby d_refadd_57) rfl ?_
        show Go _ _ _ _ s₁ (mkF m 58 #[.val (.ref am), .val (.int p0), .val (.int (f 4)), .val (.int (0 : Int32))] [(.int (0 : Int32))]) _ _ _
        refine Go.ifNo X0 hx (hb hby d_refadd_58) (XT.i0_ne_f (by decide)) ?_
        show Go _ _ _ _ s₁ (mkF m 61 #[.val (.ref am), .val (.int p0), .val (.int (f 4)), .val (.int (0 : Int32))] []) _ _ _
        refine Go.aloadN X0 hx (hb hby d_refadd_61) rfl rfl ?_
        show Go _ _ _ _ s₁ (mkF m 62 #[.val (.ref am), .val (.int p0), .val (.int (f 4)), .val (.int (0 : Int32))] [(.ref am)]) _ _ _
        refine Go.iloadN X0 hx (hb hby d_refadd_62) rfl ?_
        show Go _ _ _ _ s₁ (mkF m 63 #[.val (.ref am), .val (.int p0), .val (.int (f 4)), .val (.int (0 : Int32))] [(.int (f 4)), (.ref am)]) _ _ _
        refine Go.iloadN X0 hx (hb hby d_refadd_63) rfl ?_
        show Go _ _ _ _ s₁ (mkF m 64 #[.val (.ref am), .val (.int p0), .val (.int (f 4)), .val (.int (0 : Int32))] [(.int p0), (.int (f 4)), (.ref am)]) _ _ _
        refine Go.iastore X0 hx hZ e0 r1 (m_ok M (by intro hp; unfold present at hp; rcases hp with ⟨u, w⟩ | ⟨u, w⟩ | ⟨u, w⟩ | ⟨u, w⟩ <;> first | exact c54 w | exact c54 u | exact c54 (Int32.lt_trans (by decide) u) | exact c55 w | exact c55 u | exact c55 (Int32.lt_trans (by decide) u)) f3).1 (m_ok M (by intro hp; unfold present at hp; rcases hp with ⟨u, w⟩ | ⟨u, w⟩ | ⟨u, w⟩ | ⟨u, w⟩ <;> first | exact c54 w | exact c54 u | exact c54 (Int32.lt_trans (by decide) u) | exact c55 w | exact c55 u | exact c55 (Int32.lt_trans (by decide) u)) f3).2 (hb hby d_refadd_64) ?_
        intro T73 h73 X73 e73 W73 A73
        have N73 := Fr.snoc X73 N0 f0
        have Z73 : n0 ≤ h73.size := by rw [Wr.size W73]; exact Z0
        have B73 : h0.size ≤ h73.size := by rw [Wr.size W73]; exact (Nat.le_refl _)
        have A74 : Af Z h73 am k .int 5 (fun i => Value.int ((updI f ((f 4)).toNatClampNeg p0) i)) := Af.updI A73
        show Go _ _ _ _ T73 (mkF m 65 #[.val (.ref am), .val (.int p0), .val (.int (f 4)), .val (.int (0 : Int32))] []) _ _ _
        refine Go.aloadN X73 hx (hb hby d_refadd_65) rfl rfl ?_
        show Go _ _ _ _ T73 (mkF m 66 #[.val (.ref am), .val (.int p0), .val (.int (f 4)), .val (.int (0 : Int32))] [(.ref am)]) _ _ _
        refine Go.iconst X73 hx (hb hby d_refadd_66) ?_
        show Go _ _ _ _ T73 (mkF m 67 #[.val (.ref am), .val (.int p0), .val (.int (f 4)), .val (.int (0 : Int32))] [(.int (4 : Int32)), (.ref am)]) _ _ _
        refine Go.iloadN X73 hx (hb hby d_refadd_67) rfl ?_
        show Go _ _ _ _ T73 (mkF m 68 #[.val (.ref am), .val (.int p0), .val (.int (f 4)), .val (.int (0 : Int32))] [(.int (f 4)), (.int (4 : Int32)), (.ref am)]) _ _ _
        refine Go.iconst X73 hx (hb hby d_refadd_68) ?_
        show Go _ _ _ _ T73 (mkF m 69 #[.val (.ref am), .val (.int p0), .val (.int (f 4)), .val (.int (0 : Int32))] [(.int (1 : Int32)), (.int (f 4)), (.int (4 : Int32)), (.ref am)]) _ _ _
        refine Go.iadd X73 hx (hb hby d_refadd_69) ?_
        show Go _ _ _ _ T73 (mkF m 70 #[.val (.ref am), .val (.int p0), .val (.int (f 4)), .val (.int (0 : Int32))] [(.int ((f 4) + (1 : Int32))), (.int (4 : Int32)), (.ref am)]) _ _ _
        refine Go.iastore X73 hx hZ e73 A74 (by decide) (by decide) (hb hby d_refadd_70) ?_
        intro T75 h75 X75 e75 W75 A75
        have N75 := Fr.snoc X75 N73 f0
        have Z75 : n0 ≤ h75.size := by rw [Wr.size W75]; exact Z73
        have B75 : h0.size ≤ h75.size := by rw [Wr.size W75]; exact B73
        have A76 : Af Z h75 am k .int 5 (fun i => Value.int ((updI (updI f ((f 4)).toNatClampNeg p0) 4 ((f 4) + (1 : Int32))) i)) := Af.updI A75
        show Go _ _ _ _ T75 (mkF m 71 #[.val (.ref am), .val (.int p0), .val (.int (f 4)), .val (.int (0 : Int32))] []) _ _ _
        refine Go.ret0 X75 hx hlk hret (hb hby d_refadd_71) (by decide) (by decide) ?_
        rw [e75]
        exact ⟨rfl, N75, (Keep.wr (Keep.wr (Keep.refl _ _) W73 (Or.inl (List.mem_of_getElem? (i := 0) rfl))) W75 (Or.inl (List.mem_of_getElem? (i := 0) rfl))), ⟨_, _, A76, m_add M (by intro hp; unfold present at hp; rcases hp with ⟨u, w⟩ | ⟨u, w⟩ | ⟨u, w⟩ | ⟨u, w⟩ <;> first | exact c54 w | exact c54 u | exact c54 (Int32.lt_trans (by decide) u) | exact c55 w | exact c55 u | exact c55 (Int32.lt_trans (by decide) u)) f3⟩⟩
  · refine Go.ifYes X0 hx (hb hby d_refadd_5) (XT.i0_le_t c53) (pc' := 15) (by decide) (by decide) ?_
    show Go _ _ _ _ s₁ (mkF m 15 #[.val (.ref am), .val (.int p0), .val (.int (f 4)), .unset] []) _ _ _
    refine Go.iloadN X0 hx (hb hby d_refadd_15) rfl ?_
    show Go _ _ _ _ s₁ (mkF m 16 #[.val (.ref am), .val (.int p0), .val (.int (f 4)), .unset] [(.int (f 4))]) _ _ _
    refine Go.iconst X0 hx (hb hby d_refadd_16) ?_
    show Go _ _ _ _ s₁ (mkF m 17 #[.val (.ref am), .val (.int p0), .val (.int (f 4)), .unset] [(.int (1 : Int32)), (.int (f 4))]) _ _ _
    refine Go.icmpYes X0 hx (hb hby d_refadd_17) (XT.ii_le_t (fun z => c53 (Int32.lt_trans (by decide) z))) (pc' := 27) (by decide) (by decide) ?_
    show Go _ _ _ _ s₁ (mkF m 27 #[.val (.ref am), .val (.int p0), .val (.int (f 4)), .unset] []) _ _ _
    refine Go.iloadN X0 hx (hb hby d_refadd_27) rfl ?_
    show Go _ _ _ _ s₁ (mkF m 28 #[.val (.ref am), .val (.int p0), .val (.int (f 4)), .unset] [(.int (f 4))]) _ _ _
    refine Go.iconst X0 hx (hb hby d_refadd_28) ?_
    show Go _ _ _ _ s₁ (mkF m 29 #[.val (.ref am), .val (.int p0), .val (.int (f 4)), .unset] [(.int (2 : Int32)), (.int (f 4))]) _ _ _
    refine Go.icmpYes X0 hx (hb hby d_refadd_29) (XT.ii_le_t (fun z => c53 (Int32.lt_trans (by decide) z))) (pc' := 39) (by decide) (by decide) ?_
    show Go _ _ _ _ s₁ (mkF m 39 #[.val (.ref am), .val (.int p0), .val (.int (f 4)), .unset] []) _ _ _
    refine Go.iloadN X0 hx (hb hby d_refadd_39) rfl ?_
    show Go _ _ _ _ s₁ (mkF m 40 #[.val (.ref am), .val (.int p0), .val (.int (f 4)), .unset] [(.int (f 4))]) _ _ _
    refine Go.iconst X0 hx (hb hby d_refadd_40) ?_
    show Go _ _ _ _ s₁ (mkF m 41 #[.val (.ref am), .val (.int p0), .val (.int (f 4)), .unset] [(.int (3 : Int32)), (.int (f 4))]) _ _ _
    refine Go.icmpYes X0 hx (hb hby d_refadd_41) (XT.ii_le_t (fun z => c53 (Int32.lt_trans (by decide) z))) (pc' := 55) (by decide) (by decide) ?_
    show Go _ _ _ _ s₁ (mkF m 55 #[.val (.ref am), .val (.int p0), .val (.int (f 4)), .unset] []) _ _ _
    refine Go.iconst X0 hx (hb hby d_refadd_55) ?_
    show Go _ _ _ _ s₁ (mkF m 56 #[.val (.ref am), .val (.int p0), .val (.int (f 4)), .unset] [(.int (0 : Int32))]) _ _ _
    refine Go.istoreN X0 hx (hb hby d_refadd_56) (l' := #[.val (.ref am), .val (.int p0), .val (.int (f 4)), .val (.int (0 : Int32))]) rfl ?_
    show Go _ _ _ _ s₁ (mkF m 57 #[.val (.ref am), .val (.int p0), .val (.int (f 4)), .val (.int (0 : Int32))] []) _ _ _
    refine Go.iloadN X0 hx (hb hby d_refadd_57) rfl ?_
    show Go _ _ _ _ s₁ (mkF m 58 #[.val (.ref am), .val (.int p0), .val (.int (f 4)), .val (.int (0 : Int32))] [(.int (0 : Int32))]) _ _ _
    refine Go.ifNo X0 hx (hb hby d_refadd_58) (XT.i0_ne_f (by decide)) ?_
    show Go _ _ _ _ s₁ (mkF m 61 #[.val (.ref am), .val (.int p0), .val (.int (f 4)), .val (.int (0 : Int32))] []) _ _ _
    refine Go.aloadN X0 hx (hb hby d_refadd_61) rfl rfl ?_
    show Go _ _ _ _ s₁ (mkF m 62 #[.val (.ref am), .val (.int p0), .val (.int (f 4)), .val (.int (0 : Int32))] [(.ref am)]) _ _ _
    refine Go.iloadN X0 hx (hb hby d_refadd_62) rfl ?_
    show Go _ _ _ _ s₁ (mkF m 63 #[.val (.ref am), .val (.int p0), .val (.int (f 4)), .val (.int (0 : Int32))] [(.int (f 4)), (.ref am)]) _ _ _
    refine Go.iloadN X0 hx (hb hby d_refadd_63) rfl ?_
    show Go _ _ _ _ s₁ (mkF m 64 #[.val (.ref am), .val (.int p0), .val (.int (f 4)), .val (.int (0 : Int32))] [(.int p0), (.int (f 4)), (.ref am)]) _ _ _
    refine Go.iastore X0 hx hZ e0 r1 (m_ok M (by intro hp; unfold present at hp; rcases hp with ⟨u, w⟩ | ⟨u, w⟩ | ⟨u, w⟩ | ⟨u, w⟩ <;> first | exact c53 w | exact c53 u | exact c53 (Int32.lt_trans (by decide) u)) f3).1 (m_ok M (by intro hp; unfold present at hp; rcases hp with ⟨u, w⟩ | ⟨u, w⟩ | ⟨u, w⟩ | ⟨u, w⟩ <;> first | exact c53 w | exact c53 u | exact c53 (Int32.lt_trans (by decide) u)) f3).2 (hb hby d_refadd_64) ?_
    intro T77 h77 X77 e77 W77 A77
    have N77 := Fr.snoc X77 N0 f0
    have Z77 : n0 ≤ h77.size := by rw [Wr.size W77]; exact Z0
    have B77 : h0.size ≤ h77.size := by rw [Wr.size W77]; exact (Nat.le_refl _)
    have A78 : Af Z h77 am k .int 5 (fun i => Value.int ((updI f ((f 4)).toNatClampNeg p0) i)) := Af.updI A77
    show Go _ _ _ _ T77 (mkF m 65 #[.val (.ref am), .val (.int p0), .val (.int (f 4)), .val (.int (0 : Int32))] []) _ _ _
    refine Go.aloadN X77 hx (hb hby d_refadd_65) rfl rfl ?_
    show Go _ _ _ _ T77 (mkF m 66 #[.val (.ref am), .val (.int p0), .val (.int (f 4)), .val (.int (0 : Int32))] [(.ref am)]) _ _ _
    refine Go.iconst X77 hx (hb hby d_refadd_66) ?_
    show Go _ _ _ _ T77 (mkF m 67 #[.val (.ref am), .val (.int p0), .val (.int (f 4)), .val (.int (0 : Int32))] [(.int (4 : Int32)), (.ref am)]) _ _ _
    refine Go.iloadN X77 hx (hb hby d_refadd_67) rfl ?_
    show Go _ _ _ _ T77 (mkF m 68 #[.val (.ref am), .val (.int p0), .val (.int (f 4)), .val (.int (0 : Int32))] [(.int (f 4)), (.int (4 : Int32)), (.ref am)]) _ _ _
    refine Go.iconst X77 hx (hb hby d_refadd_68) ?_
    show Go _ _ _ _ T77 (mkF m 69 #[.val (.ref am), .val (.int p0), .val (.int (f 4)), .val (.int (0 : Int32))] [(.int (1 : Int32)), (.int (f 4)), (.int (4 : Int32)), (.ref am)]) _ _ _
    refine Go.iadd X77 hx (hb hby d_refadd_69) ?_
    show Go _ _ _ _ T77 (mkF m 70 #[.val (.ref am), .val (.int p0), .val (.int (f 4)), .val (.int (0 : Int32))] [(.int ((f 4) + (1 : Int32))), (.int (4 : Int32)), (.ref am)]) _ _ _
    refine Go.iastore X77 hx hZ e77 A78 (by decide) (by decide) (hb hby d_refadd_70) ?_
    intro T79 h79 X79 e79 W79 A79
    have N79 := Fr.snoc X79 N77 f0
    have Z79 : n0 ≤ h79.size := by rw [Wr.size W79]; exact Z77
    have B79 : h0.size ≤ h79.size := by rw [Wr.size W79]; exact B77
    have A80 : Af Z h79 am k .int 5 (fun i => Value.int ((updI (updI f ((f 4)).toNatClampNeg p0) 4 ((f 4) + (1 : Int32))) i)) := Af.updI A79
    show Go _ _ _ _ T79 (mkF m 71 #[.val (.ref am), .val (.int p0), .val (.int (f 4)), .val (.int (0 : Int32))] []) _ _ _
    refine Go.ret0 X79 hx hlk hret (hb hby d_refadd_71) (by decide) (by decide) ?_
    rw [e79]
    exact ⟨rfl, N79, (Keep.wr (Keep.wr (Keep.refl _ _) W77 (Or.inl (List.mem_of_getElem? (i := 0) rfl))) W79 (Or.inl (List.mem_of_getElem? (i := 0) rfl))), ⟨_, _, A80, m_add M (by intro hp; unfold present at hp; rcases hp with ⟨u, w⟩ | ⟨u, w⟩ | ⟨u, w⟩ | ⟨u, w⟩ <;> first | exact c53 w | exact c53 u | exact c53 (Int32.lt_trans (by decide) u)) f3⟩⟩
def Q_refrem (Z : State) (am : Addr) (es : List Int32) (h0 : Heap) (n0 : Nat) (v : Option Value) (h : Heap) (L : List Loc) : Prop := v = none ∧ Fr n0 L ∧ Keep h0 h [am] ∧ ML Z h am ((es).tail)
theorem ef_refrem (m : MethodId) (x0 : Addr) : entryFrame m #[(.ref x0)] 1 = mkF m 0 #[.val (.ref x0)] [] := by first | (simp [entryFrame, mkF, argsToLocals, Value.category]; done) | rfl
set_option maxRecDepth 65536 in
set_option maxHeartbeats 40000000 in
theorem rm_refrem (l : Launch) (Z : State) (a0 : Array Value) (hw : ∀ d ∈ tables_1, d.before a0 Z = true) (am : Addr) (es : List Int32) (h0 : Heap) (n0 : Nat) (Z0 : n0 ≤ h0.size) (f0 : n0 ≤ am) (f1 : ML Z h0 am es) (f2 : 0 < es.length) :
    Met l Z (⟨"com/example/branchwise/branchwise/propagation/RevisionListAddPinLaw", "refRemoveFirst", "([I)V"⟩ : MethodName) method_4_code 1 none [] ({ frames := 0, cells := 0, slots := 0, locals := 0 } : Room) #[(.ref am)] h0 (Q_refrem Z am es h0 n0) := by
  refine Met.of (plainFor_of_name pn_refrem) ?_
  intro p e s m below meth c s₁ X0 hx hby hml hZ hown hnm e0 hret hlk
  refine Go.cast (ef_refrem m am) ?_
  show Go _ _ _ _ s₁ (mkF m 0 #[.val (.ref am)] []) _ _ _
  have N0 := Fr.nil n0
  obtain ⟨k, f, r1, M⟩ := f1
  refine Go.aloadN X0 hx (hb hby d_refrem_0) rfl rfl ?_
  show Go _ _ _ _ s₁ (mkF m 1 #[.val (.ref am)] [(.ref am)]) _ _ _
  refine Go.iconst X0 hx (hb hby d_refrem_1) ?_
  show Go _ _ _ _ s₁ (mkF m 2 #[.val (.ref am)] [(.int (0 : Int32)), (.ref am)]) _ _ _
  refine Go.aloadN X0 hx (hb hby d_refrem_2) rfl rfl ?_
  show Go _ _ _ _ s₁ (mkF m 3 #[.val (.ref am)] [(.ref am), (.int (0 : Int32)), (.ref am)]) _ _ _
  refine Go.iconst X0 hx (hb hby d_refrem_3) ?_
  show Go _ _ _ _ s₁ (mkF m 4 #[.val (.ref am)] [(.int (1 : Int32)), (.ref am), (.int (0 : Int32)), (.ref am)]) _ _ _
  refine Go.iaload X0 hx hZ e0 r1 (by decide) (by decide) (hb hby d_refrem_4) ?_
  show Go _ _ _ _ s₁ (mkF m 5 #[.val (.ref am)] [(.int (f 1)), (.int (0 : Int32)), (.ref am)]) _ _ _
  refine Go.iastore X0 hx hZ e0 r1 (by decide) (by decide) (hb hby d_refrem_5) ?_
  intro T81 h81 X81 e81 W81 A81
  have N81 := Fr.snoc X81 N0 f0
  have Z81 : n0 ≤ h81.size := by rw [Wr.size W81]; exact Z0
  have B81 : h0.size ≤ h81.size := by rw [Wr.size W81]; exact (Nat.le_refl _)
  have A82 : Af Z h81 am k .int 5 (fun i => Value.int ((updI f 0 (f 1)) i)) := Af.updI A81
  show Go _ _ _ _ T81 (mkF m 6 #[.val (.ref am)] []) _ _ _
  refine Go.aloadN X81 hx (hb hby d_refrem_6) rfl rfl ?_
  show Go _ _ _ _ T81 (mkF m 7 #[.val (.ref am)] [(.ref am)]) _ _ _
  refine Go.iconst X81 hx (hb hby d_refrem_7) ?_
  show Go _ _ _ _ T81 (mkF m 8 #[.val (.ref am)] [(.int (1 : Int32)), (.ref am)]) _ _ _
  refine Go.aloadN X81 hx (hb hby d_refrem_8) rfl rfl ?_
  show Go _ _ _ _ T81 (mkF m 9 #[.val (.ref am)] [(.ref am), (.int (1 : Int32)), (.ref am)]) _ _ _
  refine Go.iconst X81 hx (hb hby d_refrem_9) ?_
  show Go _ _ _ _ T81 (mkF m 10 #[.val (.ref am)] [(.int (2 : Int32)), (.ref am), (.int (1 : Int32)), (.ref am)]) _ _ _
  refine Go.iaload X81 hx hZ e81 A82 (by decide) (by decide) (hb hby d_refrem_10) ?_
  show Go _ _ _ _ T81 (mkF m 11 #[.val (.ref am)] [(.int ((updI f 0 (f 1)) 2)), (.int (1 : Int32)), (.ref am)]) _ _ _
  refine Go.iastore X81 hx hZ e81 A82 (by decide) (by decide) (hb hby d_refrem_11) ?_
  intro T83 h83 X83 e83 W83 A83
  have N83 := Fr.snoc X83 N81 f0
  have Z83 : n0 ≤ h83.size := by rw [Wr.size W83]; exact Z81
  have B83 : h0.size ≤ h83.size := by rw [Wr.size W83]; exact B81
  have A84 : Af Z h83 am k .int 5 (fun i => Value.int ((updI (updI f 0 (f 1)) 1 ((updI f 0 (f 1)) 2)) i)) := Af.updI A83
  show Go _ _ _ _ T83 (mkF m 12 #[.val (.ref am)] []) _ _ _
  refine Go.aloadN X83 hx (hb hby d_refrem_12) rfl rfl ?_
  show Go _ _ _ _ T83 (mkF m 13 #[.val (.ref am)] [(.ref am)]) _ _ _
  refine Go.iconst X83 hx (hb hby d_refrem_13) ?_
  show Go _ _ _ _ T83 (mkF m 14 #[.val (.ref am)] [(.int (2 : Int32)), (.ref am)]) _ _ _
  refine Go.aloadN X83 hx (hb hby d_refrem_14) rfl rfl ?_
  show Go _ _ _ _ T83 (mkF m 15 #[.val (.ref am)] [(.ref am), (.int (2 : Int32)), (.ref am)]) _ _ _
  refine Go.iconst X83 hx (hb hby d_refrem_15) ?_
  show Go _ _ _ _ T83 (mkF m 16 #[.val (.ref am)] [(.int (3 : Int32)), (.ref am), (.int (2 : Int32)), (.ref am)]) _ _ _
  refine Go.iaload X83 hx hZ e83 A84 (by decide) (by decide) (hb hby d_refrem_16) ?_
  show Go _ _ _ _ T83 (mkF m 17 #[.val (.ref am)] [(.int ((updI (updI f 0 (f 1)) 1 ((updI f 0 (f 1)) 2)) 3)), (.int (2 : Int32)), (.ref am)]) _ _ _
  refine Go.iastore X83 hx hZ e83 A84 (by decide) (by decide) (hb hby d_refrem_17) ?_
  intro T85 h85 X85 e85 W85 A85
  have N85 := Fr.snoc X85 N83 f0
  have Z85 : n0 ≤ h85.size := by rw [Wr.size W85]; exact Z83
  have B85 : h0.size ≤ h85.size := by rw [Wr.size W85]; exact B83
  have A86 : Af Z h85 am k .int 5 (fun i => Value.int ((updI (updI (updI f 0 (f 1)) 1 ((updI f 0 (f 1)) 2)) 2 ((updI (updI f 0 (f 1)) 1 ((updI f 0 (f 1)) 2)) 3)) i)) := Af.updI A85
  show Go _ _ _ _ T85 (mkF m 18 #[.val (.ref am)] []) _ _ _
  refine Go.aloadN X85 hx (hb hby d_refrem_18) rfl rfl ?_
  show Go _ _ _ _ T85 (mkF m 19 #[.val (.ref am)] [(.ref am)]) _ _ _
  refine Go.iconst X85 hx (hb hby d_refrem_19) ?_
  show Go _ _ _ _ T85 (mkF m 20 #[.val (.ref am)] [(.int (4 : Int32)), (.ref am)]) _ _ _
  refine Go.aloadN X85 hx (hb hby d_refrem_20) rfl rfl ?_
  show Go _ _ _ _ T85 (mkF m 21 #[.val (.ref am)] [(.ref am), (.int (4 : Int32)), (.ref am)]) _ _ _
  refine Go.iconst X85 hx (hb hby d_refrem_21) ?_
  show Go _ _ _ _ T85 (mkF m 22 #[.val (.ref am)] [(.int (4 : Int32)), (.ref am), (.int (4 : Int32)), (.ref am)]) _ _ _
  refine Go.iaload X85 hx hZ e85 A86 (by decide) (by decide) (hb hby d_refrem_22) ?_
  show Go _ _ _ _ T85 (mkF m 23 #[.val (.ref am)] [(.int ((updI (updI (updI f 0 (f 1)) 1 ((updI f 0 (f 1)) 2)) 2 ((updI (updI f 0 (f 1)) 1 ((updI f 0 (f 1)) 2)) 3)) 4)), (.int (4 : Int32)), (.ref am)]) _ _ _
  refine Go.iconst X85 hx (hb hby d_refrem_23) ?_
  show Go _ _ _ _ T85 (mkF m 24 #[.val (.ref am)] [(.int (1 : Int32)), (.int ((updI (updI (updI f 0 (f 1)) 1 ((updI f 0 (f 1)) 2)) 2 ((updI (updI f 0 (f 1)) 1 ((updI f 0 (f 1)) 2)) 3)) 4)), (.int (4 : Int32)), (.ref am)]) _ _ _
  refine Go.isub X85 hx (hb hby d_refrem_24) ?_
  show Go _ _ _ _ T85 (mkF m 25 #[.val (.ref am)] [(.int (((updI (updI (updI f 0 (f 1)) 1 ((updI f 0 (f 1)) 2)) 2 ((updI (updI f 0 (f 1)) 1 ((updI f 0 (f 1)) 2)) 3)) 4) - (1 : Int32))), (.int (4 : Int32)), (.ref am)]) _ _ _
  refine Go.iastore X85 hx hZ e85 A86 (by decide) (by decide) (hb hby d_refrem_25) ?_
  intro T87 h87 X87 e87 W87 A87
  have N87 := Fr.snoc X87 N85 f0
  have Z87 : n0 ≤ h87.size := by rw [Wr.size W87]; exact Z85
  have B87 : h0.size ≤ h87.size := by rw [Wr.size W87]; exact B85
  have A88 : Af Z h87 am k .int 5 (fun i => Value.int ((updI (updI (updI (updI f 0 (f 1)) 1 ((updI f 0 (f 1)) 2)) 2 ((updI (updI f 0 (f 1)) 1 ((updI f 0 (f 1)) 2)) 3)) 4 (((updI (updI (updI f 0 (f 1)) 1 ((updI f 0 (f 1)) 2)) 2 ((updI (updI f 0 (f 1)) 1 ((updI f 0 (f 1)) 2)) 3)) 4) - (1 : Int32))) i)) := Af.updI A87
  show Go _ _ _ _ T87 (mkF m 26 #[.val (.ref am)] []) _ _ _
  refine Go.ret0 X87 hx hlk hret (hb hby d_refrem_26) (by decide) (by decide) ?_
  rw [e87]
  exact ⟨rfl, N87, (Keep.wr (Keep.wr (Keep.wr (Keep.wr (Keep.refl _ _) W81 (Or.inl (List.mem_of_getElem? (i := 0) rfl))) W83 (Or.inl (List.mem_of_getElem? (i := 0) rfl))) W85 (Or.inl (List.mem_of_getElem? (i := 0) rfl))) W87 (Or.inl (List.mem_of_getElem? (i := 0) rfl))), ⟨_, _, A88, (by obtain ⟨x, xs, rfl⟩ : ∃ x xs, es = x :: xs := List.exists_cons_of_length_pos f2; exact m_rem M)⟩⟩
theorem nn_b (p0 nn : Int32) (g : nn = (1 : Int32) + (p0 &&& (3 : Int32))) : 1 ≤ nn.toInt ∧ nn.toInt ≤ 4 := by
  have m1 : (p0 &&& (3 : Int32)).toInt = p0.toInt % 2 ^ 2 := Jvm.Kit.i32_mask p0 _ (k := 2) (by decide) (by decide)
  rw [g, Jvm.Kit.i32_add (by show _ ≤ 1 + _; omega) (by show 1 + _ < _; omega), m1]
  show 1 ≤ 1 + _ ∧ 1 + _ ≤ 4
  omega
theorem pick_b {p nn : Int32} (h : 1 ≤ nn.toInt) : 0 ≤ (F_pick p nn).toInt ∧ (F_pick p nn).toInt < nn.toInt := own_mod p nn nn.toInt rfl (by omega)
theorem ins_pos (es : List Int32) (v : Int32) : 0 < (ins es v).length := by
  unfold ins; split
  · rename_i h; exact List.length_pos_of_mem h
  · simp
theorem rl_room {Z : State} {h : Heap} {a aE aB : Addr} {n : Nat} {es : List Int32} {v : Int32} (F : RL Z h a aE aB n es) (v0 : 0 ≤ v.toInt) (v1 : v.toInt < n) : v ∈ es ∨ es.length < 4 := by
  obtain ⟨kE, kB, ef, lf, hd, ln, g1, g2, g3, g4, g5, g6, I⟩ := F
  by_cases h : v ∈ es
  · exact Or.inl h
  · have q := (I.2.2.2.2.2.1 v v0 v1).mpr h
    have := inv_room I v0 v1 q
    have := I.1.2
    exact Or.inr (by omega)
def Q_law (Z : State) (p0 : Int32) (p1 : Int32) (p2 : Int32) (p3 : Int32) (p4 : Int32) (p5 : Int32) (h0 : Heap) (n0 : Nat) (v : Option Value) (h : Heap) (L : List Loc) : Prop := v = some (.int (1 : Int32)) ∧ Fr n0 L
theorem ef_law (m : MethodId) (x0 : Int32) (x1 : Int32) (x2 : Int32) (x3 : Int32) (x4 : Int32) (x5 : Int32) : entryFrame m #[(.int x0), (.int x1), (.int x2), (.int x3), (.int x4), (.int x5)] maxLocals = mkF m 0 #[.val (.int x0), .val (.int x1), .val (.int x2), .val (.int x3), .val (.int x4), .val (.int x5), .unset, .unset, .unset, .unset, .unset, .unset, .unset, .unset, .unset] [] := by first | (simp [entryFrame, mkF, argsToLocals, Value.category, maxLocals]; done) | rfl
set_option maxRecDepth 65536 in
set_option maxHeartbeats 40000000 in
theorem rm_law (l : Launch) (Z : State) (a0 : Array Value) (hw : ∀ d ∈ tables_1, d.before a0 Z = true) (ws : List Jvm.Cond) (p0 : Int32) (p1 : Int32) (p2 : Int32) (p3 : Int32) (p4 : Int32) (p5 : Int32) (h0 : Heap) (n0 : Nat) (Z0 : n0 ≤ h0.size)  :
    Met l Z x code maxLocals ret ws room_1 #[(.int p0), (.int p1), (.int p2), (.int p3), (.int p4), (.int p5)] h0 (Q_law Z p0 p1 p2 p3 p4 p5 h0 n0) := by
  refine Met.of (plainFor_of_name pn_law) ?_
  intro p e s m below meth c s₁ X0 hx hby hml hZ hown hnm e0 hret hlk
  refine Go.cast (ef_law m p0 p1 p2 p3 p4 p5) ?_
  show Go _ _ _ _ s₁ (mkF m 0 #[.val (.int p0), .val (.int p1), .val (.int p2), .val (.int p3), .val (.int p4), .val (.int p5), .unset, .unset, .unset, .unset, .unset, .unset, .unset, .unset, .unset] []) _ _ _
  have N0 := Fr.nil n0
  refine Go.iconst X0 hx (hb hby at_0) ?_
  show Go _ _ _ _ s₁ (mkF m 1 #[.val (.int p0), .val (.int p1), .val (.int p2), .val (.int p3), .val (.int p4), .val (.int p5), .unset, .unset, .unset, .unset, .unset, .unset, .unset, .unset, .unset] [(.int (1 : Int32))]) _ _ _
  refine Go.iloadN X0 hx (hb hby at_1) rfl ?_
  show Go _ _ _ _ s₁ (mkF m 2 #[.val (.int p0), .val (.int p1), .val (.int p2), .val (.int p3), .val (.int p4), .val (.int p5), .unset, .unset, .unset, .unset, .unset, .unset, .unset, .unset, .unset] [(.int p0), (.int (1 : Int32))]) _ _ _
  refine Go.iconst X0 hx (hb hby at_2) ?_
  show Go _ _ _ _ s₁ (mkF m 3 #[.val (.int p0), .val (.int p1), .val (.int p2), .val (.int p3), .val (.int p4), .val (.int p5), .unset, .unset, .unset, .unset, .unset, .unset, .unset, .unset, .unset] [(.int (3 : Int32)), (.int p0), (.int (1 : Int32))]) _ _ _
  refine Go.iand X0 hx (hb hby at_3) ?_
  show Go _ _ _ _ s₁ (mkF m 4 #[.val (.int p0), .val (.int p1), .val (.int p2), .val (.int p3), .val (.int p4), .val (.int p5), .unset, .unset, .unset, .unset, .unset, .unset, .unset, .unset, .unset] [(.int (p0 &&& (3 : Int32))), (.int (1 : Int32))]) _ _ _
  refine Go.iadd X0 hx (hb hby at_4) ?_
  show Go _ _ _ _ s₁ (mkF m 5 #[.val (.int p0), .val (.int p1), .val (.int p2), .val (.int p3), .val (.int p4), .val (.int p5), .unset, .unset, .unset, .unset, .unset, .unset, .unset, .unset, .unset] [(.int ((1 : Int32) + (p0 &&& (3 : Int32))))]) _ _ _
  refine Go.istore X0 hx (hb hby at_5) (l' := #[.val (.int p0), .val (.int p1), .val (.int p2), .val (.int p3), .val (.int p4), .val (.int p5), .val (.int ((1 : Int32) + (p0 &&& (3 : Int32)))), .unset, .unset, .unset, .unset, .unset, .unset, .unset, .unset]) rfl ?_
  show Go _ _ _ _ s₁ (mkF m 7 #[.val (.int p0), .val (.int p1), .val (.int p2), .val (.int p3), .val (.int p4), .val (.int p5), .val (.int ((1 : Int32) + (p0 &&& (3 : Int32)))), .unset, .unset, .unset, .unset, .unset, .unset, .unset, .unset] []) _ _ _
  refine (show ∀ nn : Int32, nn = ((1 : Int32) + (p0 &&& (3 : Int32))) → Go _ _ _ _ s₁ (mkF m 7 #[.val (.int p0), .val (.int p1), .val (.int p2), .val (.int p3), .val (.int p4), .val (.int p5), .val (.int nn), .unset, .unset, .unset, .unset, .unset, .unset, .unset, .unset] []) _ _ _ from ?_) _ rfl
  intro nn g_nn
  have bn := nn_b p0 nn g_nn
  have hnz : nn ≠ 0 := fun q => by rw [q] at bn; have : (0 : Int32).toInt = 0 := rfl; omega
  have cn := nat_clamp (v := nn) (by omega)
  refine Go.iloadN X0 hx (hb hby at_7) rfl ?_
  show Go _ _ _ _ s₁ (mkF m 8 #[.val (.int p0), .val (.int p1), .val (.int p2), .val (.int p3), .val (.int p4), .val (.int p5), .val (.int nn), .unset, .unset, .unset, .unset, .unset, .unset, .unset, .unset] [(.int p1)]) _ _ _
  refine Go.iload X0 hx (hb hby at_8) rfl ?_
  show Go _ _ _ _ s₁ (mkF m 10 #[.val (.int p0), .val (.int p1), .val (.int p2), .val (.int p3), .val (.int p4), .val (.int p5), .val (.int nn), .unset, .unset, .unset, .unset, .unset, .unset, .unset, .unset] [(.int nn), (.int p1)]) _ _ _
  refine Go.callS (W := 0) (argsL := [(.int p1), (.int nn)]) (rest := []) X0 hx hZ hown (w0 hw) (w1 hw) (w2 hw) (w3 hw) (by decide) (rm_pick l Z a0 hw p1 nn h0 hnz) e0 (lenOf pd_1 rfl) (hb hby at_10) (by rw [hml]; rfl) rfl (Nat.le_of_eq rfl) (by decide) (by decide) (by decide) (by decide) ?_
  intro v89 T89 L89 X89 q89
  obtain ⟨rfl, rfl, e89⟩ := q89
  have N89 := Fr.app N0 (Fr.nil n0)
  show Go _ _ _ _ T89 (mkF m 13 #[.val (.int p0), .val (.int p1), .val (.int p2), .val (.int p3), .val (.int p4), .val (.int p5), .val (.int nn), .unset, .unset, .unset, .unset, .unset, .unset, .unset, .unset] [(.int (F_pick p1 nn))]) _ _ _
  refine Go.istore X89 hx (hb hby at_13) (l' := #[.val (.int p0), .val (.int p1), .val (.int p2), .val (.int p3), .val (.int p4), .val (.int p5), .val (.int nn), .val (.int (F_pick p1 nn)), .unset, .unset, .unset, .unset, .unset, .unset, .unset]) rfl ?_
  show Go _ _ _ _ T89 (mkF m 15 #[.val (.int p0), .val (.int p1), .val (.int p2), .val (.int p3), .val (.int p4), .val (.int p5), .val (.int nn), .val (.int (F_pick p1 nn)), .unset, .unset, .unset, .unset, .unset, .unset, .unset] []) _ _ _
  refine (show ∀ vx : Int32, vx = (F_pick p1 nn) → Go _ _ _ _ T89 (mkF m 15 #[.val (.int p0), .val (.int p1), .val (.int p2), .val (.int p3), .val (.int p4), .val (.int p5), .val (.int nn), .val (.int vx), .unset, .unset, .unset, .unset, .unset, .unset, .unset] []) _ _ _ from ?_) _ rfl
  intro vx g_vx
  have b_vx : 0 ≤ vx.toInt ∧ vx.toInt < (nn.toNatClampNeg : Int) := by rw [cn, g_vx]; exact pick_b bn.1
  refine Go.iloadN X89 hx (hb hby at_15) rfl ?_
  show Go _ _ _ _ T89 (mkF m 16 #[.val (.int p0), .val (.int p1), .val (.int p2), .val (.int p3), .val (.int p4), .val (.int p5), .val (.int nn), .val (.int vx), .unset, .unset, .unset, .unset, .unset, .unset, .unset] [(.int p2)]) _ _ _
  refine Go.iload X89 hx (hb hby at_16) rfl ?_
  show Go _ _ _ _ T89 (mkF m 18 #[.val (.int p0), .val (.int p1), .val (.int p2), .val (.int p3), .val (.int p4), .val (.int p5), .val (.int nn), .val (.int vx), .unset, .unset, .unset, .unset, .unset, .unset, .unset] [(.int nn), (.int p2)]) _ _ _
  refine Go.callS (W := 0) (argsL := [(.int p2), (.int nn)]) (rest := []) X89 hx hZ hown (w0 hw) (w1 hw) (w2 hw) (w3 hw) (by decide) (rm_pick l Z a0 hw p2 nn h0 hnz) e89 (lenOf pd_1 rfl) (hb hby at_18) (by rw [hml]; rfl) rfl (Nat.le_of_eq rfl) (by decide) (by decide) (by decide) (by decide) ?_
  intro v90 T90 L90 X90 q90
  obtain ⟨rfl, rfl, e90⟩ := q90
  have N90 := Fr.app N89 (Fr.nil n0)
  show Go _ _ _ _ T90 (mkF m 21 #[.val (.int p0), .val (.int p1), .val (.int p2), .val (.int p3), .val (.int p4), .val (.int p5), .val (.int nn), .val (.int vx), .unset, .unset, .unset, .unset, .unset, .unset, .unset] [(.int (F_pick p2 nn))]) _ _ _
  refine Go.istore X90 hx (hb hby at_21) (l' := #[.val (.int p0), .val (.int p1), .val (.int p2), .val (.int p3), .val (.int p4), .val (.int p5), .val (.int nn), .val (.int vx), .val (.int (F_pick p2 nn)), .unset, .unset, .unset, .unset, .unset, .unset]) rfl ?_
  show Go _ _ _ _ T90 (mkF m 23 #[.val (.int p0), .val (.int p1), .val (.int p2), .val (.int p3), .val (.int p4), .val (.int p5), .val (.int nn), .val (.int vx), .val (.int (F_pick p2 nn)), .unset, .unset, .unset, .unset, .unset, .unset] []) _ _ _
  refine (show ∀ vy : Int32, vy = (F_pick p2 nn) → Go _ _ _ _ T90 (mkF m 23 #[.val (.int p0), .val (.int p1), .val (.int p2), .val (.int p3), .val (.int p4), .val (.int p5), .val (.int nn), .val (.int vx), .val (.int vy), .unset, .unset, .unset, .unset, .unset, .unset] []) _ _ _ from ?_) _ rfl
  intro vy g_vy
  have b_vy : 0 ≤ vy.toInt ∧ vy.toInt < (nn.toNatClampNeg : Int) := by rw [cn, g_vy]; exact pick_b bn.1
  refine Go.iloadN X90 hx (hb hby at_23) rfl ?_
  show Go _ _ _ _ T90 (mkF m 24 #[.val (.int p0), .val (.int p1), .val (.int p2), .val (.int p3), .val (.int p4), .val (.int p5), .val (.int nn), .val (.int vx), .val (.int vy), .unset, .unset, .unset, .unset, .unset, .unset] [(.int p3)]) _ _ _
  refine Go.iconst X90 hx (hb hby at_24) ?_
  show Go _ _ _ _ T90 (mkF m 25 #[.val (.int p0), .val (.int p1), .val (.int p2), .val (.int p3), .val (.int p4), .val (.int p5), .val (.int nn), .val (.int vx), .val (.int vy), .unset, .unset, .unset, .unset, .unset, .unset] [(.int (1 : Int32)), (.int p3)]) _ _ _
  refine Go.iand X90 hx (hb hby at_25) ?_
  show Go _ _ _ _ T90 (mkF m 26 #[.val (.int p0), .val (.int p1), .val (.int p2), .val (.int p3), .val (.int p4), .val (.int p5), .val (.int nn), .val (.int vx), .val (.int vy), .unset, .unset, .unset, .unset, .unset, .unset] [(.int (p3 &&& (1 : Int32)))]) _ _ _
  have J93 : ∀ j92 : Int32, j92 = (if (p3 &&& (1 : Int32)) = (0 : Int32) then (0 : Int32) else (1 : Int32)) → Go p e below s T90 (mkF m 34 #[.val (.int p0), .val (.int p1), .val (.int p2), .val (.int p3), .val (.int p4), .val (.int p5), .val (.int nn), .val (.int vx), .val (.int vy), .unset, .unset, .unset, .unset, .unset, .unset] [(.int j92)]) (Q_law Z p0 p1 p2 p3 p4 p5 h0 n0) (room_1).cells (room_1).slots := by
    intro j92 g_j92
    refine Go.istore X90 hx (hb hby at_34) (l' := #[.val (.int p0), .val (.int p1), .val (.int p2), .val (.int p3), .val (.int p4), .val (.int p5), .val (.int nn), .val (.int vx), .val (.int vy), .val (.int j92), .unset, .unset, .unset, .unset, .unset]) rfl ?_
    show Go _ _ _ _ T90 (mkF m 36 #[.val (.int p0), .val (.int p1), .val (.int p2), .val (.int p3), .val (.int p4), .val (.int p5), .val (.int nn), .val (.int vx), .val (.int vy), .val (.int j92), .unset, .unset, .unset, .unset, .unset] []) _ _ _
    refine Go.iload X90 hx (hb hby at_36) rfl ?_
    show Go _ _ _ _ T90 (mkF m 38 #[.val (.int p0), .val (.int p1), .val (.int p2), .val (.int p3), .val (.int p4), .val (.int p5), .val (.int nn), .val (.int vx), .val (.int vy), .val (.int j92), .unset, .unset, .unset, .unset, .unset] [(.int p4)]) _ _ _
    refine Go.iload X90 hx (hb hby at_38) rfl ?_
    show Go _ _ _ _ T90 (mkF m 40 #[.val (.int p0), .val (.int p1), .val (.int p2), .val (.int p3), .val (.int p4), .val (.int p5), .val (.int nn), .val (.int vx), .val (.int vy), .val (.int j92), .unset, .unset, .unset, .unset, .unset] [(.int nn), (.int p4)]) _ _ _
    refine Go.callS (W := 0) (argsL := [(.int p4), (.int nn)]) (rest := []) X90 hx hZ hown (w0 hw) (w1 hw) (w2 hw) (w3 hw) (by decide) (rm_pick l Z a0 hw p4 nn h0 hnz) e90 (lenOf pd_1 rfl) (hb hby at_40) (by rw [hml]; rfl) rfl (Nat.le_of_eq rfl) (by decide) (by decide) (by decide) (by decide) ?_
    intro v94 T94 L94 X94 q94
    obtain ⟨rfl, rfl, e94⟩ := q94
    have N94 := Fr.app N90 (Fr.nil n0)
    show Go _ _ _ _ T94 (mkF m 43 #[.val (.int p0), .val (.int p1), .val (.int p2), .val (.int p3), .val (.int p4), .val (.int p5), .val (.int nn), .val (.int vx), .val (.int vy), .val (.int j92), .unset, .unset, .unset, .unset, .unset] [(.int (F_pick p4 nn))]) _ _ _
    refine Go.istore X94 hx (hb hby at_43) (l' := #[.val (.int p0), .val (.int p1), .val (.int p2), .val (.int p3), .val (.int p4), .val (.int p5), .val (.int nn), .val (.int vx), .val (.int vy), .val (.int j92), .val (.int (F_pick p4 nn)), .unset, .unset, .unset, .unset]) rfl ?_
    show Go _ _ _ _ T94 (mkF m 45 #[.val (.int p0), .val (.int p1), .val (.int p2), .val (.int p3), .val (.int p4), .val (.int p5), .val (.int nn), .val (.int vx), .val (.int vy), .val (.int j92), .val (.int (F_pick p4 nn)), .unset, .unset, .unset, .unset] []) _ _ _
    refine (show ∀ vv : Int32, vv = (F_pick p4 nn) → Go _ _ _ _ T94 (mkF m 45 #[.val (.int p0), .val (.int p1), .val (.int p2), .val (.int p3), .val (.int p4), .val (.int p5), .val (.int nn), .val (.int vx), .val (.int vy), .val (.int j92), .val (.int vv), .unset, .unset, .unset, .unset] []) _ _ _ from ?_) _ rfl
    intro vv g_vv
    have b_vv : 0 ≤ vv.toInt ∧ vv.toInt < (nn.toNatClampNeg : Int) := by rw [cn, g_vv]; exact pick_b bn.1
    refine Go.iload X94 hx (hb hby at_45) rfl ?_
    show Go _ _ _ _ T94 (mkF m 47 #[.val (.int p0), .val (.int p1), .val (.int p2), .val (.int p3), .val (.int p4), .val (.int p5), .val (.int nn), .val (.int vx), .val (.int vy), .val (.int j92), .val (.int vv), .unset, .unset, .unset, .unset] [(.int p5)]) _ _ _
    refine Go.iload X94 hx (hb hby at_47) rfl ?_
    show Go _ _ _ _ T94 (mkF m 49 #[.val (.int p0), .val (.int p1), .val (.int p2), .val (.int p3), .val (.int p4), .val (.int p5), .val (.int nn), .val (.int vx), .val (.int vy), .val (.int j92), .val (.int vv), .unset, .unset, .unset, .unset] [(.int nn), (.int p5)]) _ _ _
    refine Go.callS (W := 0) (argsL := [(.int p5), (.int nn)]) (rest := []) X94 hx hZ hown (w0 hw) (w1 hw) (w2 hw) (w3 hw) (by decide) (rm_pick l Z a0 hw p5 nn h0 hnz) e94 (lenOf pd_1 rfl) (hb hby at_49) (by rw [hml]; rfl) rfl (Nat.le_of_eq rfl) (by decide) (by decide) (by decide) (by decide) ?_
    intro v95 T95 L95 X95 q95
    obtain ⟨rfl, rfl, e95⟩ := q95
    have N95 := Fr.app N94 (Fr.nil n0)
    show Go _ _ _ _ T95 (mkF m 52 #[.val (.int p0), .val (.int p1), .val (.int p2), .val (.int p3), .val (.int p4), .val (.int p5), .val (.int nn), .val (.int vx), .val (.int vy), .val (.int j92), .val (.int vv), .unset, .unset, .unset, .unset] [(.int (F_pick p5 nn))]) _ _ _
    refine Go.istore X95 hx (hb hby at_52) (l' := #[.val (.int p0), .val (.int p1), .val (.int p2), .val (.int p3), .val (.int p4), .val (.int p5), .val (.int nn), .val (.int vx), .val (.int vy), .val (.int j92), .val (.int vv), .val (.int (F_pick p5 nn)), .unset, .unset, .unset]) rfl ?_
    show Go _ _ _ _ T95 (mkF m 54 #[.val (.int p0), .val (.int p1), .val (.int p2), .val (.int p3), .val (.int p4), .val (.int p5), .val (.int nn), .val (.int vx), .val (.int vy), .val (.int j92), .val (.int vv), .val (.int (F_pick p5 nn)), .unset, .unset, .unset] []) _ _ _
    refine (show ∀ vw : Int32, vw = (F_pick p5 nn) → Go _ _ _ _ T95 (mkF m 54 #[.val (.int p0), .val (.int p1), .val (.int p2), .val (.int p3), .val (.int p4), .val (.int p5), .val (.int nn), .val (.int vx), .val (.int vy), .val (.int j92), .val (.int vv), .val (.int vw), .unset, .unset, .unset] []) _ _ _ from ?_) _ rfl
    intro vw g_vw
    have b_vw : 0 ≤ vw.toInt ∧ vw.toInt < (nn.toNatClampNeg : Int) := by rw [cn, g_vw]; exact pick_b bn.1
    refine Go.iconst X95 hx (hb hby at_54) ?_
    show Go _ _ _ _ T95 (mkF m 55 #[.val (.int p0), .val (.int p1), .val (.int p2), .val (.int p3), .val (.int p4), .val (.int p5), .val (.int nn), .val (.int vx), .val (.int vy), .val (.int j92), .val (.int vv), .val (.int vw), .unset, .unset, .unset] [(.int (5 : Int32))]) _ _ _
    refine Go.newarray (aty := .int) (cap := 5) X95 hx hZ (w5 hw) e95 (hb hby at_55) (by decide) (by decide) (by decide) (by decide) (by decide) ?_
    intro T96 h96 a96 k96 b96 X96 e96 E96 A96
    have g_a96 : n0 ≤ a96 := by rw [b96]; exact Z0
    have y_a96 : h0.size ≤ a96 := by rw [b96]; exact (Nat.le_refl _)
    have Z96 : n0 ≤ h96.size := Nat.le_trans Z0 E96.1
    have B96 : h0.size ≤ h96.size := Nat.le_trans (Nat.le_refl _) E96.1
    show Go _ _ _ _ T96 (mkF m 57 #[.val (.int p0), .val (.int p1), .val (.int p2), .val (.int p3), .val (.int p4), .val (.int p5), .val (.int nn), .val (.int vx), .val (.int vy), .val (.int j92), .val (.int vv), .val (.int vw), .unset, .unset, .unset] [(.ref a96)]) _ _ _
    refine Go.astore X96 hx (hb hby at_57) rfl (l' := #[.val (.int p0), .val (.int p1), .val (.int p2), .val (.int p3), .val (.int p4), .val (.int p5), .val (.int nn), .val (.int vx), .val (.int vy), .val (.int j92), .val (.int vv), .val (.int vw), .val (.ref a96), .unset, .unset]) rfl ?_
    show Go _ _ _ _ T96 (mkF m 59 #[.val (.int p0), .val (.int p1), .val (.int p2), .val (.int p3), .val (.int p4), .val (.int p5), .val (.int nn), .val (.int vx), .val (.int vy), .val (.int j92), .val (.int vv), .val (.int vw), .val (.ref a96), .unset, .unset] []) _ _ _
    have ML97 : ML Z h96 a96 [] := ⟨_, (fun _ => (0 : Int32)), A96, minv0⟩
    refine Go.newO X96 hx hZ hown (w6 hw) (w7 hw) (w8 hw) e96 (hb hby at_59) (by decide) (by decide) ?_
    intro T98 h98 a98 b98 X98 e98 E98 A98 D98
    have g_a98 : n0 ≤ a98 := by rw [b98]; exact Z96
    have y_a98 : h0.size ≤ a98 := by rw [b98]; exact B96
    have ne_a96_a98 : a96 ≠ a98 := by rw [b98]; exact Nat.ne_of_lt A96.lt
    have Z98 : n0 ≤ h98.size := Nat.le_trans Z96 E98.1
    have B98 : h0.size ≤ h98.size := Nat.le_trans B96 E98.1
    show Go _ _ _ _ T98 (mkF m 62 #[.val (.int p0), .val (.int p1), .val (.int p2), .val (.int p3), .val (.int p4), .val (.int p5), .val (.int nn), .val (.int vx), .val (.int vy), .val (.int j92), .val (.int vv), .val (.int vw), .val (.ref a96), .unset, .unset] [(.ref a98)]) _ _ _
    refine Go.dup X98 hx (hb hby at_62) rfl ?_
    show Go _ _ _ _ T98 (mkF m 63 #[.val (.int p0), .val (.int p1), .val (.int p2), .val (.int p3), .val (.int p4), .val (.int p5), .val (.int nn), .val (.int vx), .val (.int vy), .val (.int j92), .val (.int vv), .val (.int vw), .val (.ref a96), .unset, .unset] [(.ref a98), (.ref a98)]) _ _ _
    refine Go.iload X98 hx (hb hby at_63) rfl ?_
    show Go _ _ _ _ T98 (mkF m 65 #[.val (.int p0), .val (.int p1), .val (.int p2), .val (.int p3), .val (.int p4), .val (.int p5), .val (.int nn), .val (.int vx), .val (.int vy), .val (.int j92), .val (.int vv), .val (.int vw), .val (.ref a96), .unset, .unset] [(.int nn), (.ref a98), (.ref a98)]) _ _ _
    have F99 := (D98 (Or.inr (w16 hw)) (ty := (.array .int)) (by decide))
    have F100 := (D98 (Or.inr (w19 hw)) (ty := (.array .boolean)) (by decide))
    have F101 := (D98 (Or.inl (w26 hw)) (ty := .int) (by decide))
    have F102 := (D98 (Or.inl (w28 hw)) (ty := .int) (by decide))
    refine Go.callI (W := 1) (a := a98) (argsL := [(.int nn)]) (rest := [(.ref a98)]) X98 hx hZ hown rfl (w9 hw) (w10 hw) (w8 hw) (w11 hw) (by decide) (rm_init l Z a0 hw a98 nn h98 n0 Z98 A98 g_a98 F99 F100 F101 F102 (neg_of (by omega)) (by have := nat_clamp (v := nn) (by omega); omega) (by have := nat_clamp (v := nn) (by omega); omega)) e98 (lenOf pd_2 rfl) (hb hby at_65) (by rw [hml]; rfl) rfl (Nat.le_of_eq rfl) (by decide) (by decide) (by decide) (by decide) ?_
    intro v103 T103 L103 X103 q103
    obtain ⟨aE103, aB103, rfl, M103, K103, P103_0, P103_1, P103_2, P103_3, P103_4, P103_5, P103_6, P103_7, P103_8⟩ := q103
    have N103 := Fr.app N95 M103
    have Z103 : n0 ≤ T103.heap.size := Nat.le_trans Z98 K103.1
    have B103 : h0.size ≤ T103.heap.size := Nat.le_trans B98 K103.1
    have ne_a96_aE103 : a96 ≠ aE103 := Nat.ne_of_lt (Nat.lt_of_lt_of_le ((Af.ext E98 A96)).lt P103_3)
    have ne_a98_aE103 : a98 ≠ aE103 := Nat.ne_of_lt (Nat.lt_of_lt_of_le (A98).lt P103_3)
    have ne_a96_aB103 : a96 ≠ aB103 := Nat.ne_of_lt (Nat.lt_of_lt_of_le ((Af.ext E98 A96)).lt P103_4)
    have ne_a98_aB103 : a98 ≠ aB103 := Nat.ne_of_lt (Nat.lt_of_lt_of_le (A98).lt P103_4)
    show Go _ _ _ _ T103 (mkF m 68 #[.val (.int p0), .val (.int p1), .val (.int p2), .val (.int p3), .val (.int p4), .val (.int p5), .val (.int nn), .val (.int vx), .val (.int vy), .val (.int j92), .val (.int vv), .val (.int vw), .val (.ref a96), .unset, .unset] [(.ref a98)]) _ _ _
    refine Go.astore X103 hx (hb hby at_68) rfl (l' := #[.val (.int p0), .val (.int p1), .val (.int p2), .val (.int p3), .val (.int p4), .val (.int p5), .val (.int nn), .val (.int vx), .val (.int vy), .val (.int j92), .val (.int vv), .val (.int vw), .val (.ref a96), .val (.ref a98), .unset]) rfl ?_
    show Go _ _ _ _ T103 (mkF m 70 #[.val (.int p0), .val (.int p1), .val (.int p2), .val (.int p3), .val (.int p4), .val (.int p5), .val (.int nn), .val (.int vx), .val (.int vy), .val (.int j92), .val (.int vv), .val (.int vw), .val (.ref a96), .val (.ref a98), .unset] []) _ _ _
    refine Go.aload X103 hx (hb hby at_70) rfl rfl ?_
    show Go _ _ _ _ T103 (mkF m 72 #[.val (.int p0), .val (.int p1), .val (.int p2), .val (.int p3), .val (.int p4), .val (.int p5), .val (.int nn), .val (.int vx), .val (.int vy), .val (.int j92), .val (.int vv), .val (.int vw), .val (.ref a96), .val (.ref a98), .unset] [(.ref a98)]) _ _ _
    refine Go.iload X103 hx (hb hby at_72) rfl ?_
    show Go _ _ _ _ T103 (mkF m 74 #[.val (.int p0), .val (.int p1), .val (.int p2), .val (.int p3), .val (.int p4), .val (.int p5), .val (.int nn), .val (.int vx), .val (.int vy), .val (.int j92), .val (.int vv), .val (.int vw), .val (.ref a96), .val (.ref a98), .unset] [(.int vx), (.ref a98)]) _ _ _
    have room_104 : vx ∈ ([]) ∨ ([]).length < 4 := rl_room P103_8 b_vx.1 b_vx.2
    refine Go.callV (W := 0) (argsL := [(.int vx)]) (rest := []) X103 hx hZ hown (w20 hw) (w21 hw) (w23 hw) (w22 hw) (w8 hw) (w24 hw) (notFace_of_selects (args := #[]) (mvT hZ (w23 hw))) (by decide) P103_0 (rm_add l Z a0 hw a98 vx aE103 aB103 (nn.toNatClampNeg) ([]) T103.heap n0 Z103 P103_0 g_a98 P103_1 P103_2 P103_5 P103_6 P103_7 P103_8 b_vx.1 b_vx.2) rfl (lenOf pd_2 rfl) (hb hby at_74) (by rw [hml]; rfl) rfl (Nat.le_of_eq rfl) (by decide) (by decide) (by decide) (by decide) ?_
    intro v105 T105 L105 X105 q105
    obtain ⟨rfl, M105, K105, P105_0, P105_1⟩ := q105
    have N105 := Fr.app N103 M105
    have Z105 : n0 ≤ T105.heap.size := Nat.le_trans Z103 K105.1
    have B105 : h0.size ≤ T105.heap.size := Nat.le_trans B103 K105.1
    show Go _ _ _ _ T105 (mkF m 77 #[.val (.int p0), .val (.int p1), .val (.int p2), .val (.int p3), .val (.int p4), .val (.int p5), .val (.int nn), .val (.int vx), .val (.int vy), .val (.int j92), .val (.int vv), .val (.int vw), .val (.ref a96), .val (.ref a98), .unset] []) _ _ _
    refine Go.aload X105 hx (hb hby at_77) rfl rfl ?_
    show Go _ _ _ _ T105 (mkF m 79 #[.val (.int p0), .val (.int p1), .val (.int p2), .val (.int p3), .val (.int p4), .val (.int p5), .val (.int nn), .val (.int vx), .val (.int vy), .val (.int j92), .val (.int vv), .val (.int vw), .val (.ref a96), .val (.ref a98), .unset] [(.ref a96)]) _ _ _
    refine Go.iload X105 hx (hb hby at_79) rfl ?_
    show Go _ _ _ _ T105 (mkF m 81 #[.val (.int p0), .val (.int p1), .val (.int p2), .val (.int p3), .val (.int p4), .val (.int p5), .val (.int nn), .val (.int vx), .val (.int vy), .val (.int j92), .val (.int vv), .val (.int vw), .val (.ref a96), .val (.ref a98), .unset] [(.int vx), (.ref a96)]) _ _ _
    have F106 := (ML.keep (ML.keep (ML.ext E98 ML97) K103 (ninS ne_a96_a98 nin0)) K105 (ninS ne_a96_a98 (ninS ne_a96_aE103 (ninS ne_a96_aB103 nin0))))
    refine Go.callS (W := 0) (argsL := [(.ref a96), (.int vx)]) (rest := []) X105 hx hZ hown (w29 hw) (w30 hw) (w2 hw) (w31 hw) (by decide) (rm_refadd l Z a0 hw a96 vx ([]) T105.heap n0 Z105 g_a96 F106 trivial room_104) rfl (lenOf pd_3 rfl) (hb hby at_81) (by rw [hml]; rfl) rfl (Nat.le_of_eq rfl) (by decide) (by decide) (by decide) (by decide) ?_
    intro v107 T107 L107 X107 q107
    obtain ⟨rfl, M107, K107, P107_0⟩ := q107
    have N107 := Fr.app N105 M107
    have Z107 : n0 ≤ T107.heap.size := Nat.le_trans Z105 K107.1
    have B107 : h0.size ≤ T107.heap.size := Nat.le_trans B105 K107.1
    show Go _ _ _ _ T107 (mkF m 84 #[.val (.int p0), .val (.int p1), .val (.int p2), .val (.int p3), .val (.int p4), .val (.int p5), .val (.int nn), .val (.int vx), .val (.int vy), .val (.int j92), .val (.int vv), .val (.int vw), .val (.ref a96), .val (.ref a98), .unset] []) _ _ _
    refine Go.aload X107 hx (hb hby at_84) rfl rfl ?_
    show Go _ _ _ _ T107 (mkF m 86 #[.val (.int p0), .val (.int p1), .val (.int p2), .val (.int p3), .val (.int p4), .val (.int p5), .val (.int nn), .val (.int vx), .val (.int vy), .val (.int j92), .val (.int vv), .val (.int vw), .val (.ref a96), .val (.ref a98), .unset] [(.ref a98)]) _ _ _
    refine Go.iload X107 hx (hb hby at_86) rfl ?_
    show Go _ _ _ _ T107 (mkF m 88 #[.val (.int p0), .val (.int p1), .val (.int p2), .val (.int p3), .val (.int p4), .val (.int p5), .val (.int nn), .val (.int vx), .val (.int vy), .val (.int j92), .val (.int vv), .val (.int vw), .val (.ref a96), .val (.ref a98), .unset] [(.int vy), (.ref a98)]) _ _ _
    have F108 := (RL.keep P105_1 K107 (ninS (Ne.symm ne_a96_a98) nin0) (ninS (Ne.symm ne_a96_aE103) nin0) (ninS (Ne.symm ne_a96_aB103) nin0))
    have room_109 : vy ∈ (ins ([]) vx) ∨ (ins ([]) vx).length < 4 := rl_room F108 b_vy.1 b_vy.2
    refine Go.callV (W := 0) (argsL := [(.int vy)]) (rest := []) X107 hx hZ hown (w20 hw) (w21 hw) (w23 hw) (w22 hw) (w8 hw) (w24 hw) (notFace_of_selects (args := #[]) (mvT hZ (w23 hw))) (by decide) (Exa.keep P105_0 K107) (rm_add l Z a0 hw a98 vy aE103 aB103 (nn.toNatClampNeg) (ins ([]) vx) T107.heap n0 Z107 (Exa.keep P105_0 K107) g_a98 P103_1 P103_2 P103_5 P103_6 P103_7 F108 b_vy.1 b_vy.2) rfl (lenOf pd_2 rfl) (hb hby at_88) (by rw [hml]; rfl) rfl (Nat.le_of_eq rfl) (by decide) (by decide) (by decide) (by decide) ?_
    intro v110 T110 L110 X110 q110
    obtain ⟨rfl, M110, K110, P110_0, P110_1⟩ := q110
    have N110 := Fr.app N107 M110
    have Z110 : n0 ≤ T110.heap.size := Nat.le_trans Z107 K110.1
    have B110 : h0.size ≤ T110.heap.size := Nat.le_trans B107 K110.1
    show Go _ _ _ _ T110 (mkF m 91 #[.val (.int p0), .val (.int p1), .val (.int p2), .val (.int p3), .val (.int p4), .val (.int p5), .val (.int nn), .val (.int vx), .val (.int vy), .val (.int j92), .val (.int vv), .val (.int vw), .val (.ref a96), .val (.ref a98), .unset] []) _ _ _
    refine Go.aload X110 hx (hb hby at_91) rfl rfl ?_
    show Go _ _ _ _ T110 (mkF m 93 #[.val (.int p0), .val (.int p1), .val (.int p2), .val (.int p3), .val (.int p4), .val (.int p5), .val (.int nn), .val (.int vx), .val (.int vy), .val (.int j92), .val (.int vv), .val (.int vw), .val (.ref a96), .val (.ref a98), .unset] [(.ref a96)]) _ _ _
    refine Go.iload X110 hx (hb hby at_93) rfl ?_
    show Go _ _ _ _ T110 (mkF m 95 #[.val (.int p0), .val (.int p1), .val (.int p2), .val (.int p3), .val (.int p4), .val (.int p5), .val (.int nn), .val (.int vx), .val (.int vy), .val (.int j92), .val (.int vv), .val (.int vw), .val (.ref a96), .val (.ref a98), .unset] [(.int vy), (.ref a96)]) _ _ _
    have F111 := (ML.keep P107_0 K110 (ninS ne_a96_a98 (ninS ne_a96_aE103 (ninS ne_a96_aB103 nin0))))
    refine Go.callS (W := 0) (argsL := [(.ref a96), (.int vy)]) (rest := []) X110 hx hZ hown (w29 hw) (w30 hw) (w2 hw) (w31 hw) (by decide) (rm_refadd l Z a0 hw a96 vy (ins ([]) vx) T110.heap n0 Z110 g_a96 F111 trivial room_109) rfl (lenOf pd_3 rfl) (hb hby at_95) (by rw [hml]; rfl) rfl (Nat.le_of_eq rfl) (by decide) (by decide) (by decide) (by decide) ?_
    intro v112 T112 L112 X112 q112
    obtain ⟨rfl, M112, K112, P112_0⟩ := q112
    have N112 := Fr.app N110 M112
    have Z112 : n0 ≤ T112.heap.size := Nat.le_trans Z110 K112.1
    have B112 : h0.size ≤ T112.heap.size := Nat.le_trans B110 K112.1
    show Go _ _ _ _ T112 (mkF m 98 #[.val (.int p0), .val (.int p1), .val (.int p2), .val (.int p3), .val (.int p4), .val (.int p5), .val (.int nn), .val (.int vx), .val (.int vy), .val (.int j92), .val (.int vv), .val (.int vw), .val (.ref a96), .val (.ref a98), .unset] []) _ _ _
    refine Go.iload X112 hx (hb hby at_98) rfl ?_
    show Go _ _ _ _ T112 (mkF m 100 #[.val (.int p0), .val (.int p1), .val (.int p2), .val (.int p3), .val (.int p4), .val (.int p5), .val (.int nn), .val (.int vx), .val (.int vy), .val (.int j92), .val (.int vv), .val (.int vw), .val (.ref a96), .val (.ref a98), .unset] [(.int j92)]) _ _ _
    rcases Decidable.em (j92 = (0 : Int32)) with c113 | c113
    · refine Go.ifYes X112 hx (hb hby at_100) (XT.i0_eq_t c113) (pc' := 115) (by decide) (by decide) ?_
      show Go _ _ _ _ T112 (mkF m 115 #[.val (.int p0), .val (.int p1), .val (.int p2), .val (.int p3), .val (.int p4), .val (.int p5), .val (.int nn), .val (.int vx), .val (.int vy), .val (.int j92), .val (.int vv), .val (.int vw), .val (.ref a96), .val (.ref a98), .unset] []) _ _ _
      refine Go.aload X112 hx (hb hby at_115) rfl rfl ?_
      show Go _ _ _ _ T112 (mkF m 117 #[.val (.int p0), .val (.int p1), .val (.int p2), .val (.int p3), .val (.int p4), .val (.int p5), .val (.int nn), .val (.int vx), .val (.int vy), .val (.int j92), .val (.int vv), .val (.int vw), .val (.ref a96), .val (.ref a98), .unset] [(.ref a98)]) _ _ _
      refine Go.iload X112 hx (hb hby at_117) rfl ?_
      show Go _ _ _ _ T112 (mkF m 119 #[.val (.int p0), .val (.int p1), .val (.int p2), .val (.int p3), .val (.int p4), .val (.int p5), .val (.int nn), .val (.int vx), .val (.int vy), .val (.int j92), .val (.int vv), .val (.int vw), .val (.ref a96), .val (.ref a98), .unset] [(.int vv), (.ref a98)]) _ _ _
      have F114 := (RL.keep P110_1 K112 (ninS (Ne.symm ne_a96_a98) nin0) (ninS (Ne.symm ne_a96_aE103) nin0) (ninS (Ne.symm ne_a96_aB103) nin0))
      have room_115 : vv ∈ (ins (ins ([]) vx) vy) ∨ (ins (ins ([]) vx) vy).length < 4 := rl_room F114 b_vv.1 b_vv.2
      refine Go.callV (W := 0) (argsL := [(.int vv)]) (rest := []) X112 hx hZ hown (w20 hw) (w21 hw) (w23 hw) (w22 hw) (w8 hw) (w24 hw) (notFace_of_selects (args := #[]) (mvT hZ (w23 hw))) (by decide) (Exa.keep P110_0 K112) (rm_add l Z a0 hw a98 vv aE103 aB103 (nn.toNatClampNeg) (ins (ins ([]) vx) vy) T112.heap n0 Z112 (Exa.keep P110_0 K112) g_a98 P103_1 P103_2 P103_5 P103_6 P103_7 F114 b_vv.1 b_vv.2) rfl (lenOf pd_2 rfl) (hb hby at_119) (by rw [hml]; rfl) rfl (Nat.le_of_eq rfl) (by decide) (by decide) (by decide) (by decide) ?_
      intro v116 T116 L116 X116 q116
      obtain ⟨rfl, M116, K116, P116_0, P116_1⟩ := q116
      have N116 := Fr.app N112 M116
      have Z116 : n0 ≤ T116.heap.size := Nat.le_trans Z112 K116.1
      have B116 : h0.size ≤ T116.heap.size := Nat.le_trans B112 K116.1
      show Go _ _ _ _ T116 (mkF m 122 #[.val (.int p0), .val (.int p1), .val (.int p2), .val (.int p3), .val (.int p4), .val (.int p5), .val (.int nn), .val (.int vx), .val (.int vy), .val (.int j92), .val (.int vv), .val (.int vw), .val (.ref a96), .val (.ref a98), .unset] []) _ _ _
      refine Go.aload X116 hx (hb hby at_122) rfl rfl ?_
      show Go _ _ _ _ T116 (mkF m 124 #[.val (.int p0), .val (.int p1), .val (.int p2), .val (.int p3), .val (.int p4), .val (.int p5), .val (.int nn), .val (.int vx), .val (.int vy), .val (.int j92), .val (.int vv), .val (.int vw), .val (.ref a96), .val (.ref a98), .unset] [(.ref a96)]) _ _ _
      refine Go.iload X116 hx (hb hby at_124) rfl ?_
      show Go _ _ _ _ T116 (mkF m 126 #[.val (.int p0), .val (.int p1), .val (.int p2), .val (.int p3), .val (.int p4), .val (.int p5), .val (.int nn), .val (.int vx), .val (.int vy), .val (.int j92), .val (.int vv), .val (.int vw), .val (.ref a96), .val (.ref a98), .unset] [(.int vv), (.ref a96)]) _ _ _
      have F117 := (ML.keep P112_0 K116 (ninS ne_a96_a98 (ninS ne_a96_aE103 (ninS ne_a96_aB103 nin0))))
      refine Go.callS (W := 0) (argsL := [(.ref a96), (.int vv)]) (rest := []) X116 hx hZ hown (w29 hw) (w30 hw) (w2 hw) (w31 hw) (by decide) (rm_refadd l Z a0 hw a96 vv (ins (ins ([]) vx) vy) T116.heap n0 Z116 g_a96 F117 trivial room_115) rfl (lenOf pd_3 rfl) (hb hby at_126) (by rw [hml]; rfl) rfl (Nat.le_of_eq rfl) (by decide) (by decide) (by decide) (by decide) ?_
      intro v118 T118 L118 X118 q118
      obtain ⟨rfl, M118, K118, P118_0⟩ := q118
      have N118 := Fr.app N116 M118
      have Z118 : n0 ≤ T118.heap.size := Nat.le_trans Z116 K118.1
      have B118 : h0.size ≤ T118.heap.size := Nat.le_trans B116 K118.1
      show Go _ _ _ _ T118 (mkF m 129 #[.val (.int p0), .val (.int p1), .val (.int p2), .val (.int p3), .val (.int p4), .val (.int p5), .val (.int nn), .val (.int vx), .val (.int vy), .val (.int j92), .val (.int vv), .val (.int vw), .val (.ref a96), .val (.ref a98), .unset] []) _ _ _
      refine Go.aload X118 hx (hb hby at_129) rfl rfl ?_
      show Go _ _ _ _ T118 (mkF m 131 #[.val (.int p0), .val (.int p1), .val (.int p2), .val (.int p3), .val (.int p4), .val (.int p5), .val (.int nn), .val (.int vx), .val (.int vy), .val (.int j92), .val (.int vv), .val (.int vw), .val (.ref a96), .val (.ref a98), .unset] [(.ref a98)]) _ _ _
      refine Go.iload X118 hx (hb hby at_131) rfl ?_
      show Go _ _ _ _ T118 (mkF m 133 #[.val (.int p0), .val (.int p1), .val (.int p2), .val (.int p3), .val (.int p4), .val (.int p5), .val (.int nn), .val (.int vx), .val (.int vy), .val (.int j92), .val (.int vv), .val (.int vw), .val (.ref a96), .val (.ref a98), .unset] [(.int vw), (.ref a98)]) _ _ _
      have F119 := (RL.keep P116_1 K118 (ninS (Ne.symm ne_a96_a98) nin0) (ninS (Ne.symm ne_a96_aE103) nin0) (ninS (Ne.symm ne_a96_aB103) nin0))
      have room_120 : vw ∈ (ins (ins (ins ([]) vx) vy) vv) ∨ (ins (ins (ins ([]) vx) vy) vv).length < 4 := rl_room F119 b_vw.1 b_vw.2
      refine Go.callV (W := 0) (argsL := [(.int vw)]) (rest := []) X118 hx hZ hown (w20 hw) (w21 hw) (w23 hw) (w22 hw) (w8 hw) (w24 hw) (notFace_of_selects (args := #[]) (mvT hZ (w23 hw))) (by decide) (Exa.keep P116_0 K118) (rm_add l Z a0 hw a98 vw aE103 aB103 (nn.toNatClampNeg) (ins (ins (ins ([]) vx) vy) vv) T118.heap n0 Z118 (Exa.keep P116_0 K118) g_a98 P103_1 P103_2 P103_5 P103_6 P103_7 F119 b_vw.1 b_vw.2) rfl (lenOf pd_2 rfl) (hb hby at_133) (by rw [hml]; rfl) rfl (Nat.le_of_eq rfl) (by decide) (by decide) (by decide) (by decide) ?_
      intro v121 T121 L121 X121 q121
      obtain ⟨rfl, M121, K121, P121_0, P121_1⟩ := q121
      have N121 := Fr.app N118 M121
      have Z121 : n0 ≤ T121.heap.size := Nat.le_trans Z118 K121.1
      have B121 : h0.size ≤ T121.heap.size := Nat.le_trans B118 K121.1
      show Go _ _ _ _ T121 (mkF m 136 #[.val (.int p0), .val (.int p1), .val (.int p2), .val (.int p3), .val (.int p4), .val (.int p5), .val (.int nn), .val (.int vx), .val (.int vy), .val (.int j92), .val (.int vv), .val (.int vw), .val (.ref a96), .val (.ref a98), .unset] []) _ _ _
      refine Go.aload X121 hx (hb hby at_136) rfl rfl ?_
      show Go _ _ _ _ T121 (mkF m 138 #[.val (.int p0), .val (.int p1), .val (.int p2), .val (.int p3), .val (.int p4), .val (.int p5), .val (.int nn), .val (.int vx), .val (.int vy), .val (.int j92), .val (.int vv), .val (.int vw), .val (.ref a96), .val (.ref a98), .unset] [(.ref a96)]) _ _ _
      refine Go.iload X121 hx (hb hby at_138) rfl ?_
      show Go _ _ _ _ T121 (mkF m 140 #[.val (.int p0), .val (.int p1), .val (.int p2), .val (.int p3), .val (.int p4), .val (.int p5), .val (.int nn), .val (.int vx), .val (.int vy), .val (.int j92), .val (.int vv), .val (.int vw), .val (.ref a96), .val (.ref a98), .unset] [(.int vw), (.ref a96)]) _ _ _
      have F122 := (ML.keep P118_0 K121 (ninS ne_a96_a98 (ninS ne_a96_aE103 (ninS ne_a96_aB103 nin0))))
      refine Go.callS (W := 0) (argsL := [(.ref a96), (.int vw)]) (rest := []) X121 hx hZ hown (w29 hw) (w30 hw) (w2 hw) (w31 hw) (by decide) (rm_refadd l Z a0 hw a96 vw (ins (ins (ins ([]) vx) vy) vv) T121.heap n0 Z121 g_a96 F122 trivial room_120) rfl (lenOf pd_3 rfl) (hb hby at_140) (by rw [hml]; rfl) rfl (Nat.le_of_eq rfl) (by decide) (by decide) (by decide) (by decide) ?_
      intro v123 T123 L123 X123 q123
      obtain ⟨rfl, M123, K123, P123_0⟩ := q123
      have N123 := Fr.app N121 M123
      have Z123 : n0 ≤ T123.heap.size := Nat.le_trans Z121 K123.1
      have B123 : h0.size ≤ T123.heap.size := Nat.le_trans B121 K123.1
      show Go _ _ _ _ T123 (mkF m 143 #[.val (.int p0), .val (.int p1), .val (.int p2), .val (.int p3), .val (.int p4), .val (.int p5), .val (.int nn), .val (.int vx), .val (.int vy), .val (.int j92), .val (.int vv), .val (.int vw), .val (.ref a96), .val (.ref a98), .unset] []) _ _ _
      obtain ⟨kM, fM, AM, MM⟩ := P123_0
      refine Go.aload X123 hx (hb hby at_143) rfl rfl ?_
      show Go _ _ _ _ T123 (mkF m 145 #[.val (.int p0), .val (.int p1), .val (.int p2), .val (.int p3), .val (.int p4), .val (.int p5), .val (.int nn), .val (.int vx), .val (.int vy), .val (.int j92), .val (.int vv), .val (.int vw), .val (.ref a96), .val (.ref a98), .unset] [(.ref a96)]) _ _ _
      refine Go.iconst X123 hx (hb hby at_145) ?_
      show Go _ _ _ _ T123 (mkF m 146 #[.val (.int p0), .val (.int p1), .val (.int p2), .val (.int p3), .val (.int p4), .val (.int p5), .val (.int nn), .val (.int vx), .val (.int vy), .val (.int j92), .val (.int vv), .val (.int vw), .val (.ref a96), .val (.ref a98), .unset] [(.int (4 : Int32)), (.ref a96)]) _ _ _
      refine Go.iaload X123 hx hZ rfl AM (by decide) (by decide) (hb hby at_146) ?_
      show Go _ _ _ _ T123 (mkF m 147 #[.val (.int p0), .val (.int p1), .val (.int p2), .val (.int p3), .val (.int p4), .val (.int p5), .val (.int nn), .val (.int vx), .val (.int vy), .val (.int j92), .val (.int vv), .val (.int vw), .val (.ref a96), .val (.ref a98), .unset] [(.int (fM 4))]) _ _ _
      refine Go.istore X123 hx (hb hby at_147) (l' := #[.val (.int p0), .val (.int p1), .val (.int p2), .val (.int p3), .val (.int p4), .val (.int p5), .val (.int nn), .val (.int vx), .val (.int vy), .val (.int j92), .val (.int vv), .val (.int vw), .val (.ref a96), .val (.ref a98), .val (.int (fM 4))]) rfl ?_
      show Go _ _ _ _ T123 (mkF m 149 #[.val (.int p0), .val (.int p1), .val (.int p2), .val (.int p3), .val (.int p4), .val (.int p5), .val (.int nn), .val (.int vx), .val (.int vy), .val (.int j92), .val (.int vv), .val (.int vw), .val (.ref a96), .val (.ref a98), .val (.int (fM 4))] []) _ _ _
      refine Go.aload X123 hx (hb hby at_149) rfl rfl ?_
      show Go _ _ _ _ T123 (mkF m 151 #[.val (.int p0), .val (.int p1), .val (.int p2), .val (.int p3), .val (.int p4), .val (.int p5), .val (.int nn), .val (.int vx), .val (.int vy), .val (.int j92), .val (.int vv), .val (.int vw), .val (.ref a96), .val (.ref a98), .val (.int (fM 4))] [(.ref a98)]) _ _ _
      have F124 := (RL.keep P121_1 K123 (ninS (Ne.symm ne_a96_a98) nin0) (ninS (Ne.symm ne_a96_aE103) nin0) (ninS (Ne.symm ne_a96_aB103) nin0))
      refine Go.callV (W := 0) (argsL := []) (rest := []) X123 hx hZ hown (w45 hw) (w46 hw) (w48 hw) (w47 hw) (w8 hw) (w49 hw) (notFace_of_selects (args := #[]) (mvT hZ (w48 hw))) (by decide) (Exa.keep P121_0 K123) (rm_size l Z a0 hw a98 aE103 aB103 (nn.toNatClampNeg) (ins (ins (ins (ins ([]) vx) vy) vv) vw) T123.heap n0 Z123 (Exa.keep P121_0 K123) g_a98 P103_1 P103_2 P103_5 P103_6 P103_7 F124) rfl (lenOf pd_4 rfl) (hb hby at_151) (by rw [hml]; rfl) rfl (Nat.le_of_eq rfl) (by decide) (by decide) (by decide) (by decide) ?_
      intro v125 T125 L125 X125 q125
      obtain ⟨ef125, lf125, hd125, ln125, rfl, I125, M125, e125⟩ := q125
      have N125 := Fr.app N123 M125
      show Go _ _ _ _ T125 (mkF m 154 #[.val (.int p0), .val (.int p1), .val (.int p2), .val (.int p3), .val (.int p4), .val (.int p5), .val (.int nn), .val (.int vx), .val (.int vy), .val (.int j92), .val (.int vv), .val (.int vw), .val (.ref a96), .val (.ref a98), .val (.int (fM 4))] [(.int ln125)]) _ _ _
      refine Go.iload X125 hx (hb hby at_154) rfl ?_
      show Go _ _ _ _ T125 (mkF m 156 #[.val (.int p0), .val (.int p1), .val (.int p2), .val (.int p3), .val (.int p4), .val (.int p5), .val (.int nn), .val (.int vx), .val (.int vy), .val (.int j92), .val (.int vv), .val (.int vw), .val (.ref a96), .val (.ref a98), .val (.int (fM 4))] [(.int (fM 4)), (.int ln125)]) _ _ _
      refine Go.icmpYes X125 hx (hb hby at_156) (XT.ii_eq_t (size_eq I125 MM)) (pc' := 161) (by decide) (by decide) ?_
      show Go _ _ _ _ T125 (mkF m 161 #[.val (.int p0), .val (.int p1), .val (.int p2), .val (.int p3), .val (.int p4), .val (.int p5), .val (.int nn), .val (.int vx), .val (.int vy), .val (.int j92), .val (.int vv), .val (.int vw), .val (.ref a96), .val (.ref a98), .val (.int (fM 4))] []) _ _ _
      refine Go.iload X125 hx (hb hby at_161) rfl ?_
      show Go _ _ _ _ T125 (mkF m 163 #[.val (.int p0), .val (.int p1), .val (.int p2), .val (.int p3), .val (.int p4), .val (.int p5), .val (.int nn), .val (.int vx), .val (.int vy), .val (.int j92), .val (.int vv), .val (.int vw), .val (.ref a96), .val (.ref a98), .val (.int (fM 4))] [(.int (fM 4))]) _ _ _
      rcases Decidable.em ((0 : Int32) < (fM 4)) with c126 | c126
      · refine Go.ifNo X125 hx (hb hby at_163) (XT.i0_le_f c126) ?_
        show Go _ _ _ _ T125 (mkF m 166 #[.val (.int p0), .val (.int p1), .val (.int p2), .val (.int p3), .val (.int p4), .val (.int p5), .val (.int nn), .val (.int vx), .val (.int vy), .val (.int j92), .val (.int vv), .val (.int vw), .val (.ref a96), .val (.ref a98), .val (.int (fM 4))] []) _ _ _
        refine Go.aload X125 hx (hb hby at_166) rfl rfl ?_
        show Go _ _ _ _ T125 (mkF m 168 #[.val (.int p0), .val (.int p1), .val (.int p2), .val (.int p3), .val (.int p4), .val (.int p5), .val (.int nn), .val (.int vx), .val (.int vy), .val (.int j92), .val (.int vv), .val (.int vw), .val (.ref a96), .val (.ref a98), .val (.int (fM 4))] [(.ref a98)]) _ _ _
        refine Go.iconst X125 hx (hb hby at_168) ?_
        show Go _ _ _ _ T125 (mkF m 169 #[.val (.int p0), .val (.int p1), .val (.int p2), .val (.int p3), .val (.int p4), .val (.int p5), .val (.int nn), .val (.int vx), .val (.int vy), .val (.int j92), .val (.int vv), .val (.int vw), .val (.ref a96), .val (.ref a98), .val (.int (fM 4))] [(.int (0 : Int32)), (.ref a98)]) _ _ _
        refine Go.callV (W := 0) (argsL := [(.int (0 : Int32))]) (rest := []) X125 hx hZ hown (w50 hw) (w38 hw) (w40 hw) (w39 hw) (w8 hw) (w41 hw) (notFace_of_selects (args := #[]) (mvT hZ (w40 hw))) (by decide) (Exa.keep P121_0 K123) (rm_get l Z a0 hw a98 (0 : Int32) aE103 aB103 (nn.toNatClampNeg) (ins (ins (ins (ins ([]) vx) vy) vv) vw) T123.heap n0 Z123 (Exa.keep P121_0 K123) g_a98 P103_1 P103_2 P103_5 P103_6 P103_7 F124 (by decide) (by have := (lt_len MM (k := (0 : Int32)) (by decide)).mp c126; have e : ((0 : Int32)).toNatClampNeg = 0 := (by decide); have e2 : ((0 : Int32)).toInt = 0 := (by decide); omega)) e125 (lenOf pd_0 rfl) (hb hby at_169) (by rw [hml]; rfl) rfl (Nat.le_of_eq rfl) (by decide) (by decide) (by decide) (by decide) ?_
        intro v127 T127 L127 X127 q127
        obtain ⟨rfl, M127, e127⟩ := q127
        have N127 := Fr.app N125 M127
        show Go _ _ _ _ T127 (mkF m 172 #[.val (.int p0), .val (.int p1), .val (.int p2), .val (.int p3), .val (.int p4), .val (.int p5), .val (.int nn), .val (.int vx), .val (.int vy), .val (.int j92), .val (.int vv), .val (.int vw), .val (.ref a96), .val (.ref a98), .val (.int (fM 4))] [(.int ((ins (ins (ins (ins ([]) vx) vy) vv) vw).getD (0 : Int32).toNatClampNeg 0))]) _ _ _
        refine Go.aload X127 hx (hb hby at_172) rfl rfl ?_
        show Go _ _ _ _ T127 (mkF m 174 #[.val (.int p0), .val (.int p1), .val (.int p2), .val (.int p3), .val (.int p4), .val (.int p5), .val (.int nn), .val (.int vx), .val (.int vy), .val (.int j92), .val (.int vv), .val (.int vw), .val (.ref a96), .val (.ref a98), .val (.int (fM 4))] [(.ref a96), (.int ((ins (ins (ins (ins ([]) vx) vy) vv) vw).getD (0 : Int32).toNatClampNeg 0))]) _ _ _
        refine Go.iconst X127 hx (hb hby at_174) ?_
        show Go _ _ _ _ T127 (mkF m 175 #[.val (.int p0), .val (.int p1), .val (.int p2), .val (.int p3), .val (.int p4), .val (.int p5), .val (.int nn), .val (.int vx), .val (.int vy), .val (.int j92), .val (.int vv), .val (.int vw), .val (.ref a96), .val (.ref a98), .val (.int (fM 4))] [(.int (0 : Int32)), (.ref a96), (.int ((ins (ins (ins (ins ([]) vx) vy) vv) vw).getD (0 : Int32).toNatClampNeg 0))]) _ _ _
        refine Go.iaload X127 hx hZ e127 AM (by decide) (by decide) (hb hby at_175) ?_
        show Go _ _ _ _ T127 (mkF m 176 #[.val (.int p0), .val (.int p1), .val (.int p2), .val (.int p3), .val (.int p4), .val (.int p5), .val (.int nn), .val (.int vx), .val (.int vy), .val (.int j92), .val (.int vv), .val (.int vw), .val (.ref a96), .val (.ref a98), .val (.int (fM 4))] [(.int (fM 0)), (.int ((ins (ins (ins (ins ([]) vx) vy) vv) vw).getD (0 : Int32).toNatClampNeg 0))]) _ _ _
        refine Go.icmpYes X127 hx (hb hby at_176) (XT.ii_eq_t (by have q := (lt_len MM (k := (0 : Int32)) (by decide)).mp c126; exact (MM.2.2 0 q).symm)) (pc' := 181) (by decide) (by decide) ?_
        show Go _ _ _ _ T127 (mkF m 181 #[.val (.int p0), .val (.int p1), .val (.int p2), .val (.int p3), .val (.int p4), .val (.int p5), .val (.int nn), .val (.int vx), .val (.int vy), .val (.int j92), .val (.int vv), .val (.int vw), .val (.ref a96), .val (.ref a98), .val (.int (fM 4))] []) _ _ _
        refine Go.iload X127 hx (hb hby at_181) rfl ?_
        show Go _ _ _ _ T127 (mkF m 183 #[.val (.int p0), .val (.int p1), .val (.int p2), .val (.int p3), .val (.int p4), .val (.int p5), .val (.int nn), .val (.int vx), .val (.int vy), .val (.int j92), .val (.int vv), .val (.int vw), .val (.ref a96), .val (.ref a98), .val (.int (fM 4))] [(.int (fM 4))]) _ _ _
        refine Go.iconst X127 hx (hb hby at_183) ?_
        show Go _ _ _ _ T127 (mkF m 184 #[.val (.int p0), .val (.int p1), .val (.int p2), .val (.int p3), .val (.int p4), .val (.int p5), .val (.int nn), .val (.int vx), .val (.int vy), .val (.int j92), .val (.int vv), .val (.int vw), .val (.ref a96), .val (.ref a98), .val (.int (fM 4))] [(.int (1 : Int32)), (.int (fM 4))]) _ _ _
        rcases Decidable.em ((1 : Int32) < (fM 4)) with c128 | c128
        · refine Go.icmpNo X127 hx (hb hby at_184) (XT.ii_le_f c128) ?_
          show Go _ _ _ _ T127 (mkF m 187 #[.val (.int p0), .val (.int p1), .val (.int p2), .val (.int p3), .val (.int p4), .val (.int p5), .val (.int nn), .val (.int vx), .val (.int vy), .val (.int j92), .val (.int vv), .val (.int vw), .val (.ref a96), .val (.ref a98), .val (.int (fM 4))] []) _ _ _
          refine Go.aload X127 hx (hb hby at_187) rfl rfl ?_
          show Go _ _ _ _ T127 (mkF m 189 #[.val (.int p0), .val (.int p1), .val (.int p2), .val (.int p3), .val (.int p4), .val (.int p5), .val (.int nn), .val (.int vx), .val (.int vy), .val (.int j92), .val (.int vv), .val (.int vw), .val (.ref a96), .val (.ref a98), .val (.int (fM 4))] [(.ref a98)]) _ _ _
          refine Go.iconst X127 hx (hb hby at_189) ?_
          show Go _ _ _ _ T127 (mkF m 190 #[.val (.int p0), .val (.int p1), .val (.int p2), .val (.int p3), .val (.int p4), .val (.int p5), .val (.int nn), .val (.int vx), .val (.int vy), .val (.int j92), .val (.int vv), .val (.int vw), .val (.ref a96), .val (.ref a98), .val (.int (fM 4))] [(.int (1 : Int32)), (.ref a98)]) _ _ _
          refine Go.callV (W := 0) (argsL := [(.int (1 : Int32))]) (rest := []) X127 hx hZ hown (w50 hw) (w38 hw) (w40 hw) (w39 hw) (w8 hw) (w41 hw) (notFace_of_selects (args := #[]) (mvT hZ (w40 hw))) (by decide) (Exa.keep P121_0 K123) (rm_get l Z a0 hw a98 (1 : Int32) aE103 aB103 (nn.toNatClampNeg) (ins (ins (ins (ins ([]) vx) vy) vv) vw) T123.heap n0 Z123 (Exa.keep P121_0 K123) g_a98 P103_1 P103_2 P103_5 P103_6 P103_7 F124 (by decide) (by have := (lt_len MM (k := (1 : Int32)) (by decide)).mp c128; have e : ((1 : Int32)).toNatClampNeg = 1 := (by decide); have e2 : ((1 : Int32)).toInt = 1 := (by decide); omega)) e127 (lenOf pd_0 rfl) (hb hby at_190) (by rw [hml]; rfl) rfl (Nat.le_of_eq rfl) (by decide) (by decide) (by decide) (by decide) ?_
          intro v129 T129 L129 X129 q129
          obtain ⟨rfl, M129, e129⟩ := q129
          have N129 := Fr.app N127 M129
          show Go _ _ _ _ T129 (mkF m 193 #[.val (.int p0), .val (.int p1), .val (.int p2), .val (.int p3), .val (.int p4), .val (.int p5), .val (.int nn), .val (.int vx), .val (.int vy), .val (.int j92), .val (.int vv), .val (.int vw), .val (.ref a96), .val (.ref a98), .val (.int (fM 4))] [(.int ((ins (ins (ins (ins ([]) vx) vy) vv) vw).getD (1 : Int32).toNatClampNeg 0))]) _ _ _
          refine Go.aload X129 hx (hb hby at_193) rfl rfl ?_
          show Go _ _ _ _ T129 (mkF m 195 #[.val (.int p0), .val (.int p1), .val (.int p2), .val (.int p3), .val (.int p4), .val (.int p5), .val (.int nn), .val (.int vx), .val (.int vy), .val (.int j92), .val (.int vv), .val (.int vw), .val (.ref a96), .val (.ref a98), .val (.int (fM 4))] [(.ref a96), (.int ((ins (ins (ins (ins ([]) vx) vy) vv) vw).getD (1 : Int32).toNatClampNeg 0))]) _ _ _
          refine Go.iconst X129 hx (hb hby at_195) ?_
          show Go _ _ _ _ T129 (mkF m 196 #[.val (.int p0), .val (.int p1), .val (.int p2), .val (.int p3), .val (.int p4), .val (.int p5), .val (.int nn), .val (.int vx), .val (.int vy), .val (.int j92), .val (.int vv), .val (.int vw), .val (.ref a96), .val (.ref a98), .val (.int (fM 4))] [(.int (1 : Int32)), (.ref a96), (.int ((ins (ins (ins (ins ([]) vx) vy) vv) vw).getD (1 : Int32).toNatClampNeg 0))]) _ _ _
          refine Go.iaload X129 hx hZ e129 AM (by decide) (by decide) (hb hby at_196) ?_
          show Go _ _ _ _ T129 (mkF m 197 #[.val (.int p0), .val (.int p1), .val (.int p2), .val (.int p3), .val (.int p4), .val (.int p5), .val (.int nn), .val (.int vx), .val (.int vy), .val (.int j92), .val (.int vv), .val (.int vw), .val (.ref a96), .val (.ref a98), .val (.int (fM 4))] [(.int (fM 1)), (.int ((ins (ins (ins (ins ([]) vx) vy) vv) vw).getD (1 : Int32).toNatClampNeg 0))]) _ _ _
          refine Go.icmpYes X129 hx (hb hby at_197) (XT.ii_eq_t (by have q := (lt_len MM (k := (1 : Int32)) (by decide)).mp c128; exact (MM.2.2 1 q).symm)) (pc' := 202) (by decide) (by decide) ?_
          show Go _ _ _ _ T129 (mkF m 202 #[.val (.int p0), .val (.int p1), .val (.int p2), .val (.int p3), .val (.int p4), .val (.int p5), .val (.int nn), .val (.int vx), .val (.int vy), .val (.int j92), .val (.int vv), .val (.int vw), .val (.ref a96), .val (.ref a98), .val (.int (fM 4))] []) _ _ _
          refine Go.iload X129 hx (hb hby at_202) rfl ?_
          show Go _ _ _ _ T129 (mkF m 204 #[.val (.int p0), .val (.int p1), .val (.int p2), .val (.int p3), .val (.int p4), .val (.int p5), .val (.int nn), .val (.int vx), .val (.int vy), .val (.int j92), .val (.int vv), .val (.int vw), .val (.ref a96), .val (.ref a98), .val (.int (fM 4))] [(.int (fM 4))]) _ _ _
          refine Go.iconst X129 hx (hb hby at_204) ?_
          show Go _ _ _ _ T129 (mkF m 205 #[.val (.int p0), .val (.int p1), .val (.int p2), .val (.int p3), .val (.int p4), .val (.int p5), .val (.int nn), .val (.int vx), .val (.int vy), .val (.int j92), .val (.int vv), .val (.int vw), .val (.ref a96), .val (.ref a98), .val (.int (fM 4))] [(.int (2 : Int32)), (.int (fM 4))]) _ _ _
          rcases Decidable.em ((2 : Int32) < (fM 4)) with c130 | c130
          · refine Go.icmpNo X129 hx (hb hby at_205) (XT.ii_le_f c130) ?_
            show Go _ _ _ _ T129 (mkF m 208 #[.val (.int p0), .val (.int p1), .val (.int p2), .val (.int p3), .val (.int p4), .val (.int p5), .val (.int nn), .val (.int vx), .val (.int vy), .val (.int j92), .val (.int vv), .val (.int vw), .val (.ref a96), .val (.ref a98), .val (.int (fM 4))] []) _ _ _
            refine Go.aload X129 hx (hb hby at_208) rfl rfl ?_
            show Go _ _ _ _ T129 (mkF m 210 #[.val (.int p0), .val (.int p1), .val (.int p2), .val (.int p3), .val (.int p4), .val (.int p5), .val (.int nn), .val (.int vx), .val (.int vy), .val (.int j92), .val (.int vv), .val (.int vw), .val (.ref a96), .val (.ref a98), .val (.int (fM 4))] [(.ref a98)]) _ _ _
            refine Go.iconst X129 hx (hb hby at_210) ?_
            show Go _ _ _ _ T129 (mkF m 211 #[.val (.int p0), .val (.int p1), .val (.int p2), .val (.int p3), .val (.int p4), .val (.int p5), .val (.int nn), .val (.int vx), .val (.int vy), .val (.int j92), .val (.int vv), .val (.int vw), .val (.ref a96), .val (.ref a98), .val (.int (fM 4))] [(.int (2 : Int32)), (.ref a98)]) _ _ _
            refine Go.callV (W := 0) (argsL := [(.int (2 : Int32))]) (rest := []) X129 hx hZ hown (w50 hw) (w38 hw) (w40 hw) (w39 hw) (w8 hw) (w41 hw) (notFace_of_selects (args := #[]) (mvT hZ (w40 hw))) (by decide) (Exa.keep P121_0 K123) (rm_get l Z a0 hw a98 (2 : Int32) aE103 aB103 (nn.toNatClampNeg) (ins (ins (ins (ins ([]) vx) vy) vv) vw) T123.heap n0 Z123 (Exa.keep P121_0 K123) g_a98 P103_1 P103_2 P103_5 P103_6 P103_7 F124 (by decide) (by have := (lt_len MM (k := (2 : Int32)) (by decide)).mp c130; have e : ((2 : Int32)).toNatClampNeg = 2 := (by decide); have e2 : ((2 : Int32)).toInt = 2 := (by decide); omega)) e129 (lenOf pd_0 rfl) (hb hby at_211) (by rw [hml]; rfl) rfl (Nat.le_of_eq rfl) (by decide) (by decide) (by decide) (by decide) ?_
            intro v131 T131 L131 X131 q131
            obtain ⟨rfl, M131, e131⟩ := q131
            have N131 := Fr.app N129 M131
            show Go _ _ _ _ T131 (mkF m 214 #[.val (.int p0), .val (.int p1), .val (.int p2), .val (.int p3), .val (.int p4), .val (.int p5), .val (.int nn), .val (.int vx), .val (.int vy), .val (.int j92), .val (.int vv), .val (.int vw), .val (.ref a96), .val (.ref a98), .val (.int (fM 4))] [(.int ((ins (ins (ins (ins ([]) vx) vy) vv) vw).getD (2 : Int32).toNatClampNeg 0))]) _ _ _
            refine Go.aload X131 hx (hb hby at_214) rfl rfl ?_
            show Go _ _ _ _ T131 (mkF m 216 #[.val (.int p0), .val (.int p1), .val (.int p2), .val (.int p3), .val (.int p4), .val (.int p5), .val (.int nn), .val (.int vx), .val (.int vy), .val (.int j92), .val (.int vv), .val (.int vw), .val (.ref a96), .val (.ref a98), .val (.int (fM 4))] [(.ref a96), (.int ((ins (ins (ins (ins ([]) vx) vy) vv) vw).getD (2 : Int32).toNatClampNeg 0))]) _ _ _
            refine Go.iconst X131 hx (hb hby at_216) ?_
            show Go _ _ _ _ T131 (mkF m 217 #[.val (.int p0), .val (.int p1), .val (.int p2), .val (.int p3), .val (.int p4), .val (.int p5), .val (.int nn), .val (.int vx), .val (.int vy), .val (.int j92), .val (.int vv), .val (.int vw), .val (.ref a96), .val (.ref a98), .val (.int (fM 4))] [(.int (2 : Int32)), (.ref a96), (.int ((ins (ins (ins (ins ([]) vx) vy) vv) vw).getD (2 : Int32).toNatClampNeg 0))]) _ _ _
            refine Go.iaload X131 hx hZ e131 AM (by decide) (by decide) (hb hby at_217) ?_
            show Go _ _ _ _ T131 (mkF m 218 #[.val (.int p0), .val (.int p1), .val (.int p2), .val (.int p3), .val (.int p4), .val (.int p5), .val (.int nn), .val (.int vx), .val (.int vy), .val (.int j92), .val (.int vv), .val (.int vw), .val (.ref a96), .val (.ref a98), .val (.int (fM 4))] [(.int (fM 2)), (.int ((ins (ins (ins (ins ([]) vx) vy) vv) vw).getD (2 : Int32).toNatClampNeg 0))]) _ _ _
            refine Go.icmpYes X131 hx (hb hby at_218) (XT.ii_eq_t (by have q := (lt_len MM (k := (2 : Int32)) (by decide)).mp c130; exact (MM.2.2 2 q).symm)) (pc' := 223) (by decide) (by decide) ?_
            show Go _ _ _ _ T131 (mkF m 223 #[.val (.int p0), .val (.int p1), .val (.int p2), .val (.int p3), .val (.int p4), .val (.int p5), .val (.int nn), .val (.int vx), .val (.int vy), .val (.int j92), .val (.int vv), .val (.int vw), .val (.ref a96), .val (.ref a98), .val (.int (fM 4))] []) _ _ _
            refine Go.iload X131 hx (hb hby at_223) rfl ?_
            show Go _ _ _ _ T131 (mkF m 225 #[.val (.int p0), .val (.int p1), .val (.int p2), .val (.int p3), .val (.int p4), .val (.int p5), .val (.int nn), .val (.int vx), .val (.int vy), .val (.int j92), .val (.int vv), .val (.int vw), .val (.ref a96), .val (.ref a98), .val (.int (fM 4))] [(.int (fM 4))]) _ _ _
            refine Go.iconst X131 hx (hb hby at_225) ?_
            show Go _ _ _ _ T131 (mkF m 226 #[.val (.int p0), .val (.int p1), .val (.int p2), .val (.int p3), .val (.int p4), .val (.int p5), .val (.int nn), .val (.int vx), .val (.int vy), .val (.int j92), .val (.int vv), .val (.int vw), .val (.ref a96), .val (.ref a98), .val (.int (fM 4))] [(.int (3 : Int32)), (.int (fM 4))]) _ _ _
            rcases Decidable.em ((3 : Int32) < (fM 4)) with c132 | c132
            · refine Go.icmpNo X131 hx (hb hby at_226) (XT.ii_le_f c132) ?_
              show Go _ _ _ _ T131 (mkF m 229 #[.val (.int p0), .val (.int p1), .val (.int p2), .val (.int p3), .val (.int p4), .val (.int p5), .val (.int nn), .val (.int vx), .val (.int vy), .val (.int j92), .val (.int vv), .val (.int vw), .val (.ref a96), .val (.ref a98), .val (.int (fM 4))] []) _ _ _
              refine Go.aload X131 hx (hb hby at_229) rfl rfl ?_
              show Go _ _ _ _ T131 (mkF m 231 #[.val (.int p0), .val (.int p1), .val (.int p2), .val (.int p3), .val (.int p4), .val (.int p5), .val (.int nn), .val (.int vx), .val (.int vy), .val (.int j92), .val (.int vv), .val (.int vw), .val (.ref a96), .val (.ref a98), .val (.int (fM 4))] [(.ref a98)]) _ _ _
              refine Go.iconst X131 hx (hb hby at_231) ?_
              show Go _ _ _ _ T131 (mkF m 232 #[.val (.int p0), .val (.int p1), .val (.int p2), .val (.int p3), .val (.int p4), .val (.int p5), .val (.int nn), .val (.int vx), .val (.int vy), .val (.int j92), .val (.int vv), .val (.int vw), .val (.ref a96), .val (.ref a98), .val (.int (fM 4))] [(.int (3 : Int32)), (.ref a98)]) _ _ _
              refine Go.callV (W := 0) (argsL := [(.int (3 : Int32))]) (rest := []) X131 hx hZ hown (w50 hw) (w38 hw) (w40 hw) (w39 hw) (w8 hw) (w41 hw) (notFace_of_selects (args := #[]) (mvT hZ (w40 hw))) (by decide) (Exa.keep P121_0 K123) (rm_get l Z a0 hw a98 (3 : Int32) aE103 aB103 (nn.toNatClampNeg) (ins (ins (ins (ins ([]) vx) vy) vv) vw) T123.heap n0 Z123 (Exa.keep P121_0 K123) g_a98 P103_1 P103_2 P103_5 P103_6 P103_7 F124 (by decide) (by have := (lt_len MM (k := (3 : Int32)) (by decide)).mp c132; have e : ((3 : Int32)).toNatClampNeg = 3 := (by decide); have e2 : ((3 : Int32)).toInt = 3 := (by decide); omega)) e131 (lenOf pd_0 rfl) (hb hby at_232) (by rw [hml]; rfl) rfl (Nat.le_of_eq rfl) (by decide) (by decide) (by decide) (by decide) ?_
              intro v133 T133 L133 X133 q133
              obtain ⟨rfl, M133, e133⟩ := q133
              have N133 := Fr.app N131 M133
              show Go _ _ _ _ T133 (mkF m 235 #[.val (.int p0), .val (.int p1), .val (.int p2), .val (.int p3), .val (.int p4), .val (.int p5), .val (.int nn), .val (.int vx), .val (.int vy), .val (.int j92), .val (.int vv), .val (.int vw), .val (.ref a96), .val (.ref a98), .val (.int (fM 4))] [(.int ((ins (ins (ins (ins ([]) vx) vy) vv) vw).getD (3 : Int32).toNatClampNeg 0))]) _ _ _
              refine Go.aload X133 hx (hb hby at_235) rfl rfl ?_
              show Go _ _ _ _ T133 (mkF m 237 #[.val (.int p0), .val (.int p1), .val (.int p2), .val (.int p3), .val (.int p4), .val (.int p5), .val (.int nn), .val (.int vx), .val (.int vy), .val (.int j92), .val (.int vv), .val (.int vw), .val (.ref a96), .val (.ref a98), .val (.int (fM 4))] [(.ref a96), (.int ((ins (ins (ins (ins ([]) vx) vy) vv) vw).getD (3 : Int32).toNatClampNeg 0))]) _ _ _
              refine Go.iconst X133 hx (hb hby at_237) ?_
              show Go _ _ _ _ T133 (mkF m 238 #[.val (.int p0), .val (.int p1), .val (.int p2), .val (.int p3), .val (.int p4), .val (.int p5), .val (.int nn), .val (.int vx), .val (.int vy), .val (.int j92), .val (.int vv), .val (.int vw), .val (.ref a96), .val (.ref a98), .val (.int (fM 4))] [(.int (3 : Int32)), (.ref a96), (.int ((ins (ins (ins (ins ([]) vx) vy) vv) vw).getD (3 : Int32).toNatClampNeg 0))]) _ _ _
              refine Go.iaload X133 hx hZ e133 AM (by decide) (by decide) (hb hby at_238) ?_
              show Go _ _ _ _ T133 (mkF m 239 #[.val (.int p0), .val (.int p1), .val (.int p2), .val (.int p3), .val (.int p4), .val (.int p5), .val (.int nn), .val (.int vx), .val (.int vy), .val (.int j92), .val (.int vv), .val (.int vw), .val (.ref a96), .val (.ref a98), .val (.int (fM 4))] [(.int (fM 3)), (.int ((ins (ins (ins (ins ([]) vx) vy) vv) vw).getD (3 : Int32).toNatClampNeg 0))]) _ _ _
              refine Go.icmpYes X133 hx (hb hby at_239) (XT.ii_eq_t (by have q := (lt_len MM (k := (3 : Int32)) (by decide)).mp c132; exact (MM.2.2 3 q).symm)) (pc' := 244) (by decide) (by decide) ?_
              show Go _ _ _ _ T133 (mkF m 244 #[.val (.int p0), .val (.int p1), .val (.int p2), .val (.int p3), .val (.int p4), .val (.int p5), .val (.int nn), .val (.int vx), .val (.int vy), .val (.int j92), .val (.int vv), .val (.int vw), .val (.ref a96), .val (.ref a98), .val (.int (fM 4))] []) _ _ _
              refine Go.iconst X133 hx (hb hby at_244) ?_
              show Go _ _ _ _ T133 (mkF m 245 #[.val (.int p0), .val (.int p1), .val (.int p2), .val (.int p3), .val (.int p4), .val (.int p5), .val (.int nn), .val (.int vx), .val (.int vy), .val (.int j92), .val (.int vv), .val (.int vw), .val (.ref a96), .val (.ref a98), .val (.int (fM 4))] [(.int (1 : Int32))]) _ _ _
              refine Go.retZ X133 hx hlk hret (by decide) (hb hby at_245) (by decide) (by decide) ?_
              rw [e133]
              exact ⟨rfl, N133⟩
            · refine Go.icmpYes X131 hx (hb hby at_226) (XT.ii_le_t c132) (pc' := 244) (by decide) (by decide) ?_
              show Go _ _ _ _ T131 (mkF m 244 #[.val (.int p0), .val (.int p1), .val (.int p2), .val (.int p3), .val (.int p4), .val (.int p5), .val (.int nn), .val (.int vx), .val (.int vy), .val (.int j92), .val (.int vv), .val (.int vw), .val (.ref a96), .val (.ref a98), .val (.int (fM 4))] []) _ _ _
              refine Go.iconst X131 hx (hb hby at_244) ?_
              show Go _ _ _ _ T131 (mkF m 245 #[.val (.int p0), .val (.int p1), .val (.int p2), .val (.int p3), .val (.int p4), .val (.int p5), .val (.int nn), .val (.int vx), .val (.int vy), .val (.int j92), .val (.int vv), .val (.int vw), .val (.ref a96), .val (.ref a98), .val (.int (fM 4))] [(.int (1 : Int32))]) _ _ _
              refine Go.retZ X131 hx hlk hret (by decide) (hb hby at_245) (by decide) (by decide) ?_
              rw [e131]
              exact ⟨rfl, N131⟩
          · refine Go.icmpYes X129 hx (hb hby at_205) (XT.ii_le_t c130) (pc' := 223) (by decide) (by decide) ?_
            show Go _ _ _ _ T129 (mkF m 223 #[.val (.int p0), .val (.int p1), .val (.int p2), .val (.int p3), .val (.int p4), .val (.int p5), .val (.int nn), .val (.int vx), .val (.int vy), .val (.int j92), .val (.int vv), .val (.int vw), .val (.ref a96), .val (.ref a98), .val (.int (fM 4))] []) _ _ _
            refine Go.iload X129 hx (hb hby at_223) rfl ?_
            show Go _ _ _ _ T129 (mkF m 225 #[.val (.int p0), .val (.int p1), .val (.int p2), .val (.int p3), .val (.int p4), .val (.int p5), .val (.int nn), .val (.int vx), .val (.int vy), .val (.int j92), .val (.int vv), .val (.int vw), .val (.ref a96), .val (.ref a98), .val (.int (fM 4))] [(.int (fM 4))]) _ _ _
            refine Go.iconst X129 hx (hb hby at_225) ?_
            show Go _ _ _ _ T129 (mkF m 226 #[.val (.int p0), .val (.int p1), .val (.int p2), .val (.int p3), .val (.int p4), .val (.int p5), .val (.int nn), .val (.int vx), .val (.int vy), .val (.int j92), .val (.int vv), .val (.int vw), .val (.ref a96), .val (.ref a98), .val (.int (fM 4))] [(.int (3 : Int32)), (.int (fM 4))]) _ _ _
            refine Go.icmpYes X129 hx (hb hby at_226) (XT.ii_le_t (fun z => c130 (Int32.lt_trans (by decide) z))) (pc' := 244) (by decide) (by decide) ?_
            show Go _ _ _ _ T129 (mkF m 244 #[.val (.int p0), .val (.int p1), .val (.int p2), .val (.int p3), .val (.int p4), .val (.int p5), .val (.int nn), .val (.int vx), .val (.int vy), .val (.int j92), .val (.int vv), .val (.int vw), .val (.ref a96), .val (.ref a98), .val (.int (fM 4))] []) _ _ _
            refine Go.iconst X129 hx (hb hby at_244) ?_
            show Go _ _ _ _ T129 (mkF m 245 #[.val (.int p0), .val (.int p1), .val (.int p2), .val (.int p3), .val (.int p4), .val (.int p5), .val (.int nn), .val (.int vx), .val (.int vy), .val (.int j92), .val (.int vv), .val (.int vw), .val (.ref a96), .val (.ref a98), .val (.int (fM 4))] [(.int (1 : Int32))]) _ _ _
            refine Go.retZ X129 hx hlk hret (by decide) (hb hby at_245) (by decide) (by decide) ?_
            rw [e129]
            exact ⟨rfl, N129⟩
        · refine Go.icmpYes X127 hx (hb hby at_184) (XT.ii_le_t c128) (pc' := 202) (by decide) (by decide) ?_
          show Go _ _ _ _ T127 (mkF m 202 #[.val (.int p0), .val (.int p1), .val (.int p2), .val (.int p3), .val (.int p4), .val (.int p5), .val (.int nn), .val (.int vx), .val (.int vy), .val (.int j92), .val (.int vv), .val (.int vw), .val (.ref a96), .val (.ref a98), .val (.int (fM 4))] []) _ _ _
          refine Go.iload X127 hx (hb hby at_202) rfl ?_
          show Go _ _ _ _ T127 (mkF m 204 #[.val (.int p0), .val (.int p1), .val (.int p2), .val (.int p3), .val (.int p4), .val (.int p5), .val (.int nn), .val (.int vx), .val (.int vy), .val (.int j92), .val (.int vv), .val (.int vw), .val (.ref a96), .val (.ref a98), .val (.int (fM 4))] [(.int (fM 4))]) _ _ _
          refine Go.iconst X127 hx (hb hby at_204) ?_
          show Go _ _ _ _ T127 (mkF m 205 #[.val (.int p0), .val (.int p1), .val (.int p2), .val (.int p3), .val (.int p4), .val (.int p5), .val (.int nn), .val (.int vx), .val (.int vy), .val (.int j92), .val (.int vv), .val (.int vw), .val (.ref a96), .val (.ref a98), .val (.int (fM 4))] [(.int (2 : Int32)), (.int (fM 4))]) _ _ _
          refine Go.icmpYes X127 hx (hb hby at_205) (XT.ii_le_t (fun z => c128 (Int32.lt_trans (by decide) z))) (pc' := 223) (by decide) (by decide) ?_
          show Go _ _ _ _ T127 (mkF m 223 #[.val (.int p0), .val (.int p1), .val (.int p2), .val (.int p3), .val (.int p4), .val (.int p5), .val (.int nn), .val (.int vx), .val (.int vy), .val (.int j92), .val (.int vv), .val (.int vw), .val (.ref a96), .val (.ref a98), .val (.int (fM 4))] []) _ _ _
          refine Go.iload X127 hx (hb hby at_223) rfl ?_
          show Go _ _ _ _ T127 (mkF m 225 #[.val (.int p0), .val (.int p1), .val (.int p2), .val (.int p3), .val (.int p4), .val (.int p5), .val (.int nn), .val (.int vx), .val (.int vy), .val (.int j92), .val (.int vv), .val (.int vw), .val (.ref a96), .val (.ref a98), .val (.int (fM 4))] [(.int (fM 4))]) _ _ _
          refine Go.iconst X127 hx (hb hby at_225) ?_
          show Go _ _ _ _ T127 (mkF m 226 #[.val (.int p0), .val (.int p1), .val (.int p2), .val (.int p3), .val (.int p4), .val (.int p5), .val (.int nn), .val (.int vx), .val (.int vy), .val (.int j92), .val (.int vv), .val (.int vw), .val (.ref a96), .val (.ref a98), .val (.int (fM 4))] [(.int (3 : Int32)), (.int (fM 4))]) _ _ _
          refine Go.icmpYes X127 hx (hb hby at_226) (XT.ii_le_t (fun z => c128 (Int32.lt_trans (by decide) z))) (pc' := 244) (by decide) (by decide) ?_
          show Go _ _ _ _ T127 (mkF m 244 #[.val (.int p0), .val (.int p1), .val (.int p2), .val (.int p3), .val (.int p4), .val (.int p5), .val (.int nn), .val (.int vx), .val (.int vy), .val (.int j92), .val (.int vv), .val (.int vw), .val (.ref a96), .val (.ref a98), .val (.int (fM 4))] []) _ _ _
          refine Go.iconst X127 hx (hb hby at_244) ?_
          show Go _ _ _ _ T127 (mkF m 245 #[.val (.int p0), .val (.int p1), .val (.int p2), .val (.int p3), .val (.int p4), .val (.int p5), .val (.int nn), .val (.int vx), .val (.int vy), .val (.int j92), .val (.int vv), .val (.int vw), .val (.ref a96), .val (.ref a98), .val (.int (fM 4))] [(.int (1 : Int32))]) _ _ _
          refine Go.retZ X127 hx hlk hret (by decide) (hb hby at_245) (by decide) (by decide) ?_
          rw [e127]
          exact ⟨rfl, N127⟩
      · refine Go.ifYes X125 hx (hb hby at_163) (XT.i0_le_t c126) (pc' := 181) (by decide) (by decide) ?_
        show Go _ _ _ _ T125 (mkF m 181 #[.val (.int p0), .val (.int p1), .val (.int p2), .val (.int p3), .val (.int p4), .val (.int p5), .val (.int nn), .val (.int vx), .val (.int vy), .val (.int j92), .val (.int vv), .val (.int vw), .val (.ref a96), .val (.ref a98), .val (.int (fM 4))] []) _ _ _
        refine Go.iload X125 hx (hb hby at_181) rfl ?_
        show Go _ _ _ _ T125 (mkF m 183 #[.val (.int p0), .val (.int p1), .val (.int p2), .val (.int p3), .val (.int p4), .val (.int p5), .val (.int nn), .val (.int vx), .val (.int vy), .val (.int j92), .val (.int vv), .val (.int vw), .val (.ref a96), .val (.ref a98), .val (.int (fM 4))] [(.int (fM 4))]) _ _ _
        refine Go.iconst X125 hx (hb hby at_183) ?_
        show Go _ _ _ _ T125 (mkF m 184 #[.val (.int p0), .val (.int p1), .val (.int p2), .val (.int p3), .val (.int p4), .val (.int p5), .val (.int nn), .val (.int vx), .val (.int vy), .val (.int j92), .val (.int vv), .val (.int vw), .val (.ref a96), .val (.ref a98), .val (.int (fM 4))] [(.int (1 : Int32)), (.int (fM 4))]) _ _ _
        refine Go.icmpYes X125 hx (hb hby at_184) (XT.ii_le_t (fun z => c126 (Int32.lt_trans (by decide) z))) (pc' := 202) (by decide) (by decide) ?_
        show Go _ _ _ _ T125 (mkF m 202 #[.val (.int p0), .val (.int p1), .val (.int p2), .val (.int p3), .val (.int p4), .val (.int p5), .val (.int nn), .val (.int vx), .val (.int vy), .val (.int j92), .val (.int vv), .val (.int vw), .val (.ref a96), .val (.ref a98), .val (.int (fM 4))] []) _ _ _
        refine Go.iload X125 hx (hb hby at_202) rfl ?_
        show Go _ _ _ _ T125 (mkF m 204 #[.val (.int p0), .val (.int p1), .val (.int p2), .val (.int p3), .val (.int p4), .val (.int p5), .val (.int nn), .val (.int vx), .val (.int vy), .val (.int j92), .val (.int vv), .val (.int vw), .val (.ref a96), .val (.ref a98), .val (.int (fM 4))] [(.int (fM 4))]) _ _ _
        refine Go.iconst X125 hx (hb hby at_204) ?_
        show Go _ _ _ _ T125 (mkF m 205 #[.val (.int p0), .val (.int p1), .val (.int p2), .val (.int p3), .val (.int p4), .val (.int p5), .val (.int nn), .val (.int vx), .val (.int vy), .val (.int j92), .val (.int vv), .val (.int vw), .val (.ref a96), .val (.ref a98), .val (.int (fM 4))] [(.int (2 : Int32)), (.int (fM 4))]) _ _ _
        refine Go.icmpYes X125 hx (hb hby at_205) (XT.ii_le_t (fun z => c126 (Int32.lt_trans (by decide) z))) (pc' := 223) (by decide) (by decide) ?_
        show Go _ _ _ _ T125 (mkF m 223 #[.val (.int p0), .val (.int p1), .val (.int p2), .val (.int p3), .val (.int p4), .val (.int p5), .val (.int nn), .val (.int vx), .val (.int vy), .val (.int j92), .val (.int vv), .val (.int vw), .val (.ref a96), .val (.ref a98), .val (.int (fM 4))] []) _ _ _
        refine Go.iload X125 hx (hb hby at_223) rfl ?_
        show Go _ _ _ _ T125 (mkF m 225 #[.val (.int p0), .val (.int p1), .val (.int p2), .val (.int p3), .val (.int p4), .val (.int p5), .val (.int nn), .val (.int vx), .val (.int vy), .val (.int j92), .val (.int vv), .val (.int vw), .val (.ref a96), .val (.ref a98), .val (.int (fM 4))] [(.int (fM 4))]) _ _ _
        refine Go.iconst X125 hx (hb hby at_225) ?_
        show Go _ _ _ _ T125 (mkF m 226 #[.val (.int p0), .val (.int p1), .val (.int p2), .val (.int p3), .val (.int p4), .val (.int p5), .val (.int nn), .val (.int vx), .val (.int vy), .val (.int j92), .val (.int vv), .val (.int vw), .val (.ref a96), .val (.ref a98), .val (.int (fM 4))] [(.int (3 : Int32)), (.int (fM 4))]) _ _ _
        refine Go.icmpYes X125 hx (hb hby at_226) (XT.ii_le_t (fun z => c126 (Int32.lt_trans (by decide) z))) (pc' := 244) (by decide) (by decide) ?_
        show Go _ _ _ _ T125 (mkF m 244 #[.val (.int p0), .val (.int p1), .val (.int p2), .val (.int p3), .val (.int p4), .val (.int p5), .val (.int nn), .val (.int vx), .val (.int vy), .val (.int j92), .val (.int vv), .val (.int vw), .val (.ref a96), .val (.ref a98), .val (.int (fM 4))] []) _ _ _
        refine Go.iconst X125 hx (hb hby at_244) ?_
        show Go _ _ _ _ T125 (mkF m 245 #[.val (.int p0), .val (.int p1), .val (.int p2), .val (.int p3), .val (.int p4), .val (.int p5), .val (.int nn), .val (.int vx), .val (.int vy), .val (.int j92), .val (.int vv), .val (.int vw), .val (.ref a96), .val (.ref a98), .val (.int (fM 4))] [(.int (1 : Int32))]) _ _ _
        refine Go.retZ X125 hx hlk hret (by decide) (hb hby at_245) (by decide) (by decide) ?_
        rw [e125]
        exact ⟨rfl, N125⟩
    · refine Go.ifNo X112 hx (hb hby at_100) (XT.i0_eq_f c113) ?_
      show Go _ _ _ _ T112 (mkF m 103 #[.val (.int p0), .val (.int p1), .val (.int p2), .val (.int p3), .val (.int p4), .val (.int p5), .val (.int nn), .val (.int vx), .val (.int vy), .val (.int j92), .val (.int vv), .val (.int vw), .val (.ref a96), .val (.ref a98), .unset] []) _ _ _
      refine Go.aload X112 hx (hb hby at_103) rfl rfl ?_
      show Go _ _ _ _ T112 (mkF m 105 #[.val (.int p0), .val (.int p1), .val (.int p2), .val (.int p3), .val (.int p4), .val (.int p5), .val (.int nn), .val (.int vx), .val (.int vy), .val (.int j92), .val (.int vv), .val (.int vw), .val (.ref a96), .val (.ref a98), .unset] [(.ref a98)]) _ _ _
      refine Go.iconst X112 hx (hb hby at_105) ?_
      show Go _ _ _ _ T112 (mkF m 106 #[.val (.int p0), .val (.int p1), .val (.int p2), .val (.int p3), .val (.int p4), .val (.int p5), .val (.int nn), .val (.int vx), .val (.int vy), .val (.int j92), .val (.int vv), .val (.int vw), .val (.ref a96), .val (.ref a98), .unset] [(.int (0 : Int32)), (.ref a98)]) _ _ _
      have ne0 : 0 < (ins (ins ([]) vx) vy).length := ins_pos _ _
      have F134 := (RL.keep P110_1 K112 (ninS (Ne.symm ne_a96_a98) nin0) (ninS (Ne.symm ne_a96_aE103) nin0) (ninS (Ne.symm ne_a96_aB103) nin0))
      refine Go.callV (W := 0) (argsL := [(.int (0 : Int32))]) (rest := []) X112 hx hZ hown (w32 hw) (w33 hw) (w35 hw) (w34 hw) (w8 hw) (w36 hw) (notFace_of_selects (args := #[]) (mvT hZ (w35 hw))) (by decide) (Exa.keep P110_0 K112) (rm_rem l Z a0 hw a98 aE103 aB103 (nn.toNatClampNeg) (ins (ins ([]) vx) vy) T112.heap n0 Z112 (Exa.keep P110_0 K112) g_a98 P103_1 P103_2 P103_5 P103_6 P103_7 F134 ne0) rfl (lenOf pd_0 rfl) (hb hby at_106) (by rw [hml]; rfl) rfl (Nat.le_of_eq rfl) (by decide) (by decide) (by decide) (by decide) ?_
      intro v135 T135 L135 X135 q135
      obtain ⟨rfl, M135, K135, P135_0, P135_1⟩ := q135
      have N135 := Fr.app N112 M135
      have Z135 : n0 ≤ T135.heap.size := Nat.le_trans Z112 K135.1
      have B135 : h0.size ≤ T135.heap.size := Nat.le_trans B112 K135.1
      show Go _ _ _ _ T135 (mkF m 109 #[.val (.int p0), .val (.int p1), .val (.int p2), .val (.int p3), .val (.int p4), .val (.int p5), .val (.int nn), .val (.int vx), .val (.int vy), .val (.int j92), .val (.int vv), .val (.int vw), .val (.ref a96), .val (.ref a98), .unset] [(.int ((ins (ins ([]) vx) vy).getD 0 0))]) _ _ _
      refine Go.pop X135 hx (hb hby at_109) rfl ?_
      show Go _ _ _ _ T135 (mkF m 110 #[.val (.int p0), .val (.int p1), .val (.int p2), .val (.int p3), .val (.int p4), .val (.int p5), .val (.int nn), .val (.int vx), .val (.int vy), .val (.int j92), .val (.int vv), .val (.int vw), .val (.ref a96), .val (.ref a98), .unset] []) _ _ _
      refine Go.aload X135 hx (hb hby at_110) rfl rfl ?_
      show Go _ _ _ _ T135 (mkF m 112 #[.val (.int p0), .val (.int p1), .val (.int p2), .val (.int p3), .val (.int p4), .val (.int p5), .val (.int nn), .val (.int vx), .val (.int vy), .val (.int j92), .val (.int vv), .val (.int vw), .val (.ref a96), .val (.ref a98), .unset] [(.ref a96)]) _ _ _
      have F136 := (ML.keep P112_0 K135 (ninS ne_a96_a98 (ninS ne_a96_aE103 (ninS ne_a96_aB103 nin0))))
      refine Go.callS (W := 0) (argsL := [(.ref a96)]) (rest := []) X135 hx hZ hown (w42 hw) (w43 hw) (w2 hw) (w44 hw) (by decide) (rm_refrem l Z a0 hw a96 (ins (ins ([]) vx) vy) T135.heap n0 Z135 g_a96 F136 ne0) rfl (lenOf pd_5 rfl) (hb hby at_112) (by rw [hml]; rfl) rfl (Nat.le_of_eq rfl) (by decide) (by decide) (by decide) (by decide) ?_
      intro v137 T137 L137 X137 q137
      obtain ⟨rfl, M137, K137, P137_0⟩ := q137
      have N137 := Fr.app N135 M137
      have Z137 : n0 ≤ T137.heap.size := Nat.le_trans Z135 K137.1
      have B137 : h0.size ≤ T137.heap.size := Nat.le_trans B135 K137.1
      show Go _ _ _ _ T137 (mkF m 115 #[.val (.int p0), .val (.int p1), .val (.int p2), .val (.int p3), .val (.int p4), .val (.int p5), .val (.int nn), .val (.int vx), .val (.int vy), .val (.int j92), .val (.int vv), .val (.int vw), .val (.ref a96), .val (.ref a98), .unset] []) _ _ _
      refine Go.aload X137 hx (hb hby at_115) rfl rfl ?_
      show Go _ _ _ _ T137 (mkF m 117 #[.val (.int p0), .val (.int p1), .val (.int p2), .val (.int p3), .val (.int p4), .val (.int p5), .val (.int nn), .val (.int vx), .val (.int vy), .val (.int j92), .val (.int vv), .val (.int vw), .val (.ref a96), .val (.ref a98), .unset] [(.ref a98)]) _ _ _
      refine Go.iload X137 hx (hb hby at_117) rfl ?_
      show Go _ _ _ _ T137 (mkF m 119 #[.val (.int p0), .val (.int p1), .val (.int p2), .val (.int p3), .val (.int p4), .val (.int p5), .val (.int nn), .val (.int vx), .val (.int vy), .val (.int j92), .val (.int vv), .val (.int vw), .val (.ref a96), .val (.ref a98), .unset] [(.int vv), (.ref a98)]) _ _ _
      have F138 := (RL.keep P135_1 K137 (ninS (Ne.symm ne_a96_a98) nin0) (ninS (Ne.symm ne_a96_aE103) nin0) (ninS (Ne.symm ne_a96_aB103) nin0))
      have room_139 : vv ∈ ((ins (ins ([]) vx) vy).tail) ∨ ((ins (ins ([]) vx) vy).tail).length < 4 := rl_room F138 b_vv.1 b_vv.2
      refine Go.callV (W := 0) (argsL := [(.int vv)]) (rest := []) X137 hx hZ hown (w20 hw) (w21 hw) (w23 hw) (w22 hw) (w8 hw) (w24 hw) (notFace_of_selects (args := #[]) (mvT hZ (w23 hw))) (by decide) (Exa.keep P135_0 K137) (rm_add l Z a0 hw a98 vv aE103 aB103 (nn.toNatClampNeg) ((ins (ins ([]) vx) vy).tail) T137.heap n0 Z137 (Exa.keep P135_0 K137) g_a98 P103_1 P103_2 P103_5 P103_6 P103_7 F138 b_vv.1 b_vv.2) rfl (lenOf pd_2 rfl) (hb hby at_119) (by rw [hml]; rfl) rfl (Nat.le_of_eq rfl) (by decide) (by decide) (by decide) (by decide) ?_
      intro v140 T140 L140 X140 q140
      obtain ⟨rfl, M140, K140, P140_0, P140_1⟩ := q140
      have N140 := Fr.app N137 M140
      have Z140 : n0 ≤ T140.heap.size := Nat.le_trans Z137 K140.1
      have B140 : h0.size ≤ T140.heap.size := Nat.le_trans B137 K140.1
      show Go _ _ _ _ T140 (mkF m 122 #[.val (.int p0), .val (.int p1), .val (.int p2), .val (.int p3), .val (.int p4), .val (.int p5), .val (.int nn), .val (.int vx), .val (.int vy), .val (.int j92), .val (.int vv), .val (.int vw), .val (.ref a96), .val (.ref a98), .unset] []) _ _ _
      refine Go.aload X140 hx (hb hby at_122) rfl rfl ?_
      show Go _ _ _ _ T140 (mkF m 124 #[.val (.int p0), .val (.int p1), .val (.int p2), .val (.int p3), .val (.int p4), .val (.int p5), .val (.int nn), .val (.int vx), .val (.int vy), .val (.int j92), .val (.int vv), .val (.int vw), .val (.ref a96), .val (.ref a98), .unset] [(.ref a96)]) _ _ _
      refine Go.iload X140 hx (hb hby at_124) rfl ?_
      show Go _ _ _ _ T140 (mkF m 126 #[.val (.int p0), .val (.int p1), .val (.int p2), .val (.int p3), .val (.int p4), .val (.int p5), .val (.int nn), .val (.int vx), .val (.int vy), .val (.int j92), .val (.int vv), .val (.int vw), .val (.ref a96), .val (.ref a98), .unset] [(.int vv), (.ref a96)]) _ _ _
      have F141 := (ML.keep P137_0 K140 (ninS ne_a96_a98 (ninS ne_a96_aE103 (ninS ne_a96_aB103 nin0))))
      refine Go.callS (W := 0) (argsL := [(.ref a96), (.int vv)]) (rest := []) X140 hx hZ hown (w29 hw) (w30 hw) (w2 hw) (w31 hw) (by decide) (rm_refadd l Z a0 hw a96 vv ((ins (ins ([]) vx) vy).tail) T140.heap n0 Z140 g_a96 F141 trivial room_139) rfl (lenOf pd_3 rfl) (hb hby at_126) (by rw [hml]; rfl) rfl (Nat.le_of_eq rfl) (by decide) (by decide) (by decide) (by decide) ?_
      intro v142 T142 L142 X142 q142
      obtain ⟨rfl, M142, K142, P142_0⟩ := q142
      have N142 := Fr.app N140 M142
      have Z142 : n0 ≤ T142.heap.size := Nat.le_trans Z140 K142.1
      have B142 : h0.size ≤ T142.heap.size := Nat.le_trans B140 K142.1
      show Go _ _ _ _ T142 (mkF m 129 #[.val (.int p0), .val (.int p1), .val (.int p2), .val (.int p3), .val (.int p4), .val (.int p5), .val (.int nn), .val (.int vx), .val (.int vy), .val (.int j92), .val (.int vv), .val (.int vw), .val (.ref a96), .val (.ref a98), .unset] []) _ _ _
      refine Go.aload X142 hx (hb hby at_129) rfl rfl ?_
      show Go _ _ _ _ T142 (mkF m 131 #[.val (.int p0), .val (.int p1), .val (.int p2), .val (.int p3), .val (.int p4), .val (.int p5), .val (.int nn), .val (.int vx), .val (.int vy), .val (.int j92), .val (.int vv), .val (.int vw), .val (.ref a96), .val (.ref a98), .unset] [(.ref a98)]) _ _ _
      refine Go.iload X142 hx (hb hby at_131) rfl ?_
      show Go _ _ _ _ T142 (mkF m 133 #[.val (.int p0), .val (.int p1), .val (.int p2), .val (.int p3), .val (.int p4), .val (.int p5), .val (.int nn), .val (.int vx), .val (.int vy), .val (.int j92), .val (.int vv), .val (.int vw), .val (.ref a96), .val (.ref a98), .unset] [(.int vw), (.ref a98)]) _ _ _
      have F143 := (RL.keep P140_1 K142 (ninS (Ne.symm ne_a96_a98) nin0) (ninS (Ne.symm ne_a96_aE103) nin0) (ninS (Ne.symm ne_a96_aB103) nin0))
      have room_144 : vw ∈ (ins ((ins (ins ([]) vx) vy).tail) vv) ∨ (ins ((ins (ins ([]) vx) vy).tail) vv).length < 4 := rl_room F143 b_vw.1 b_vw.2
      refine Go.callV (W := 0) (argsL := [(.int vw)]) (rest := []) X142 hx hZ hown (w20 hw) (w21 hw) (w23 hw) (w22 hw) (w8 hw) (w24 hw) (notFace_of_selects (args := #[]) (mvT hZ (w23 hw))) (by decide) (Exa.keep P140_0 K142) (rm_add l Z a0 hw a98 vw aE103 aB103 (nn.toNatClampNeg) (ins ((ins (ins ([]) vx) vy).tail) vv) T142.heap n0 Z142 (Exa.keep P140_0 K142) g_a98 P103_1 P103_2 P103_5 P103_6 P103_7 F143 b_vw.1 b_vw.2) rfl (lenOf pd_2 rfl) (hb hby at_133) (by rw [hml]; rfl) rfl (Nat.le_of_eq rfl) (by decide) (by decide) (by decide) (by decide) ?_
      intro v145 T145 L145 X145 q145
      obtain ⟨rfl, M145, K145, P145_0, P145_1⟩ := q145
      have N145 := Fr.app N142 M145
      have Z145 : n0 ≤ T145.heap.size := Nat.le_trans Z142 K145.1
      have B145 : h0.size ≤ T145.heap.size := Nat.le_trans B142 K145.1
      show Go _ _ _ _ T145 (mkF m 136 #[.val (.int p0), .val (.int p1), .val (.int p2), .val (.int p3), .val (.int p4), .val (.int p5), .val (.int nn), .val (.int vx), .val (.int vy), .val (.int j92), .val (.int vv), .val (.int vw), .val (.ref a96), .val (.ref a98), .unset] []) _ _ _
      refine Go.aload X145 hx (hb hby at_136) rfl rfl ?_
      show Go _ _ _ _ T145 (mkF m 138 #[.val (.int p0), .val (.int p1), .val (.int p2), .val (.int p3), .val (.int p4), .val (.int p5), .val (.int nn), .val (.int vx), .val (.int vy), .val (.int j92), .val (.int vv), .val (.int vw), .val (.ref a96), .val (.ref a98), .unset] [(.ref a96)]) _ _ _
      refine Go.iload X145 hx (hb hby at_138) rfl ?_
      show Go _ _ _ _ T145 (mkF m 140 #[.val (.int p0), .val (.int p1), .val (.int p2), .val (.int p3), .val (.int p4), .val (.int p5), .val (.int nn), .val (.int vx), .val (.int vy), .val (.int j92), .val (.int vv), .val (.int vw), .val (.ref a96), .val (.ref a98), .unset] [(.int vw), (.ref a96)]) _ _ _
      have F146 := (ML.keep P142_0 K145 (ninS ne_a96_a98 (ninS ne_a96_aE103 (ninS ne_a96_aB103 nin0))))
      refine Go.callS (W := 0) (argsL := [(.ref a96), (.int vw)]) (rest := []) X145 hx hZ hown (w29 hw) (w30 hw) (w2 hw) (w31 hw) (by decide) (rm_refadd l Z a0 hw a96 vw (ins ((ins (ins ([]) vx) vy).tail) vv) T145.heap n0 Z145 g_a96 F146 trivial room_144) rfl (lenOf pd_3 rfl) (hb hby at_140) (by rw [hml]; rfl) rfl (Nat.le_of_eq rfl) (by decide) (by decide) (by decide) (by decide) ?_
      intro v147 T147 L147 X147 q147
      obtain ⟨rfl, M147, K147, P147_0⟩ := q147
      have N147 := Fr.app N145 M147
      have Z147 : n0 ≤ T147.heap.size := Nat.le_trans Z145 K147.1
      have B147 : h0.size ≤ T147.heap.size := Nat.le_trans B145 K147.1
      show Go _ _ _ _ T147 (mkF m 143 #[.val (.int p0), .val (.int p1), .val (.int p2), .val (.int p3), .val (.int p4), .val (.int p5), .val (.int nn), .val (.int vx), .val (.int vy), .val (.int j92), .val (.int vv), .val (.int vw), .val (.ref a96), .val (.ref a98), .unset] []) _ _ _
      obtain ⟨kM, fM, AM, MM⟩ := P147_0
      refine Go.aload X147 hx (hb hby at_143) rfl rfl ?_
      show Go _ _ _ _ T147 (mkF m 145 #[.val (.int p0), .val (.int p1), .val (.int p2), .val (.int p3), .val (.int p4), .val (.int p5), .val (.int nn), .val (.int vx), .val (.int vy), .val (.int j92), .val (.int vv), .val (.int vw), .val (.ref a96), .val (.ref a98), .unset] [(.ref a96)]) _ _ _
      refine Go.iconst X147 hx (hb hby at_145) ?_
      show Go _ _ _ _ T147 (mkF m 146 #[.val (.int p0), .val (.int p1), .val (.int p2), .val (.int p3), .val (.int p4), .val (.int p5), .val (.int nn), .val (.int vx), .val (.int vy), .val (.int j92), .val (.int vv), .val (.int vw), .val (.ref a96), .val (.ref a98), .unset] [(.int (4 : Int32)), (.ref a96)]) _ _ _
      refine Go.iaload X147 hx hZ rfl AM (by decide) (by decide) (hb hby at_146) ?_
      show Go _ _ _ _ T147 (mkF m 147 #[.val (.int p0), .val (.int p1), .val (.int p2), .val (.int p3), .val (.int p4), .val (.int p5), .val (.int nn), .val (.int vx), .val (.int vy), .val (.int j92), .val (.int vv), .val (.int vw), .val (.ref a96), .val (.ref a98), .unset] [(.int (fM 4))]) _ _ _
      refine Go.istore X147 hx (hb hby at_147) (l' := #[.val (.int p0), .val (.int p1), .val (.int p2), .val (.int p3), .val (.int p4), .val (.int p5), .val (.int nn), .val (.int vx), .val (.int vy), .val (.int j92), .val (.int vv), .val (.int vw), .val (.ref a96), .val (.ref a98), .val (.int (fM 4))]) rfl ?_
      show Go _ _ _ _ T147 (mkF m 149 #[.val (.int p0), .val (.int p1), .val (.int p2), .val (.int p3), .val (.int p4), .val (.int p5), .val (.int nn), .val (.int vx), .val (.int vy), .val (.int j92), .val (.int vv), .val (.int vw), .val (.ref a96), .val (.ref a98), .val (.int (fM 4))] []) _ _ _
      refine Go.aload X147 hx (hb hby at_149) rfl rfl ?_
      show Go _ _ _ _ T147 (mkF m 151 #[.val (.int p0), .val (.int p1), .val (.int p2), .val (.int p3), .val (.int p4), .val (.int p5), .val (.int nn), .val (.int vx), .val (.int vy), .val (.int j92), .val (.int vv), .val (.int vw), .val (.ref a96), .val (.ref a98), .val (.int (fM 4))] [(.ref a98)]) _ _ _
      have F148 := (RL.keep P145_1 K147 (ninS (Ne.symm ne_a96_a98) nin0) (ninS (Ne.symm ne_a96_aE103) nin0) (ninS (Ne.symm ne_a96_aB103) nin0))
      refine Go.callV (W := 0) (argsL := []) (rest := []) X147 hx hZ hown (w45 hw) (w46 hw) (w48 hw) (w47 hw) (w8 hw) (w49 hw) (notFace_of_selects (args := #[]) (mvT hZ (w48 hw))) (by decide) (Exa.keep P145_0 K147) (rm_size l Z a0 hw a98 aE103 aB103 (nn.toNatClampNeg) (ins (ins ((ins (ins ([]) vx) vy).tail) vv) vw) T147.heap n0 Z147 (Exa.keep P145_0 K147) g_a98 P103_1 P103_2 P103_5 P103_6 P103_7 F148) rfl (lenOf pd_4 rfl) (hb hby at_151) (by rw [hml]; rfl) rfl (Nat.le_of_eq rfl) (by decide) (by decide) (by decide) (by decide) ?_
      intro v149 T149 L149 X149 q149
      obtain ⟨ef149, lf149, hd149, ln149, rfl, I149, M149, e149⟩ := q149
      have N149 := Fr.app N147 M149
      show Go _ _ _ _ T149 (mkF m 154 #[.val (.int p0), .val (.int p1), .val (.int p2), .val (.int p3), .val (.int p4), .val (.int p5), .val (.int nn), .val (.int vx), .val (.int vy), .val (.int j92), .val (.int vv), .val (.int vw), .val (.ref a96), .val (.ref a98), .val (.int (fM 4))] [(.int ln149)]) _ _ _
      refine Go.iload X149 hx (hb hby at_154) rfl ?_
      show Go _ _ _ _ T149 (mkF m 156 #[.val (.int p0), .val (.int p1), .val (.int p2), .val (.int p3), .val (.int p4), .val (.int p5), .val (.int nn), .val (.int vx), .val (.int vy), .val (.int j92), .val (.int vv), .val (.int vw), .val (.ref a96), .val (.ref a98), .val (.int (fM 4))] [(.int (fM 4)), (.int ln149)]) _ _ _
      refine Go.icmpYes X149 hx (hb hby at_156) (XT.ii_eq_t (size_eq I149 MM)) (pc' := 161) (by decide) (by decide) ?_
      show Go _ _ _ _ T149 (mkF m 161 #[.val (.int p0), .val (.int p1), .val (.int p2), .val (.int p3), .val (.int p4), .val (.int p5), .val (.int nn), .val (.int vx), .val (.int vy), .val (.int j92), .val (.int vv), .val (.int vw), .val (.ref a96), .val (.ref a98), .val (.int (fM 4))] []) _ _ _
      refine Go.iload X149 hx (hb hby at_161) rfl ?_
      show Go _ _ _ _ T149 (mkF m 163 #[.val (.int p0), .val (.int p1), .val (.int p2), .val (.int p3), .val (.int p4), .val (.int p5), .val (.int nn), .val (.int vx), .val (.int vy), .val (.int j92), .val (.int vv), .val (.int vw), .val (.ref a96), .val (.ref a98), .val (.int (fM 4))] [(.int (fM 4))]) _ _ _
      rcases Decidable.em ((0 : Int32) < (fM 4)) with c150 | c150
      · refine Go.ifNo X149 hx (hb hby at_163) (XT.i0_le_f c150) ?_
        show Go _ _ _ _ T149 (mkF m 166 #[.val (.int p0), .val (.int p1), .val (.int p2), .val (.int p3), .val (.int p4), .val (.int p5), .val (.int nn), .val (.int vx), .val (.int vy), .val (.int j92), .val (.int vv), .val (.int vw), .val (.ref a96), .val (.ref a98), .val (.int (fM 4))] []) _ _ _
        refine Go.aload X149 hx (hb hby at_166) rfl rfl ?_
        show Go _ _ _ _ T149 (mkF m 168 #[.val (.int p0), .val (.int p1), .val (.int p2), .val (.int p3), .val (.int p4), .val (.int p5), .val (.int nn), .val (.int vx), .val (.int vy), .val (.int j92), .val (.int vv), .val (.int vw), .val (.ref a96), .val (.ref a98), .val (.int (fM 4))] [(.ref a98)]) _ _ _
        refine Go.iconst X149 hx (hb hby at_168) ?_
        show Go _ _ _ _ T149 (mkF m 169 #[.val (.int p0), .val (.int p1), .val (.int p2), .val (.int p3), .val (.int p4), .val (.int p5), .val (.int nn), .val (.int vx), .val (.int vy), .val (.int j92), .val (.int vv), .val (.int vw), .val (.ref a96), .val (.ref a98), .val (.int (fM 4))] [(.int (0 : Int32)), (.ref a98)]) _ _ _
        refine Go.callV (W := 0) (argsL := [(.int (0 : Int32))]) (rest := []) X149 hx hZ hown (w50 hw) (w38 hw) (w40 hw) (w39 hw) (w8 hw) (w41 hw) (notFace_of_selects (args := #[]) (mvT hZ (w40 hw))) (by decide) (Exa.keep P145_0 K147) (rm_get l Z a0 hw a98 (0 : Int32) aE103 aB103 (nn.toNatClampNeg) (ins (ins ((ins (ins ([]) vx) vy).tail) vv) vw) T147.heap n0 Z147 (Exa.keep P145_0 K147) g_a98 P103_1 P103_2 P103_5 P103_6 P103_7 F148 (by decide) (by have := (lt_len MM (k := (0 : Int32)) (by decide)).mp c150; have e : ((0 : Int32)).toNatClampNeg = 0 := (by decide); have e2 : ((0 : Int32)).toInt = 0 := (by decide); omega)) e149 (lenOf pd_0 rfl) (hb hby at_169) (by rw [hml]; rfl) rfl (Nat.le_of_eq rfl) (by decide) (by decide) (by decide) (by decide) ?_
        intro v151 T151 L151 X151 q151
        obtain ⟨rfl, M151, e151⟩ := q151
        have N151 := Fr.app N149 M151
        show Go _ _ _ _ T151 (mkF m 172 #[.val (.int p0), .val (.int p1), .val (.int p2), .val (.int p3), .val (.int p4), .val (.int p5), .val (.int nn), .val (.int vx), .val (.int vy), .val (.int j92), .val (.int vv), .val (.int vw), .val (.ref a96), .val (.ref a98), .val (.int (fM 4))] [(.int ((ins (ins ((ins (ins ([]) vx) vy).tail) vv) vw).getD (0 : Int32).toNatClampNeg 0))]) _ _ _
        refine Go.aload X151 hx (hb hby at_172) rfl rfl ?_
        show Go _ _ _ _ T151 (mkF m 174 #[.val (.int p0), .val (.int p1), .val (.int p2), .val (.int p3), .val (.int p4), .val (.int p5), .val (.int nn), .val (.int vx), .val (.int vy), .val (.int j92), .val (.int vv), .val (.int vw), .val (.ref a96), .val (.ref a98), .val (.int (fM 4))] [(.ref a96), (.int ((ins (ins ((ins (ins ([]) vx) vy).tail) vv) vw).getD (0 : Int32).toNatClampNeg 0))]) _ _ _
        refine Go.iconst X151 hx (hb hby at_174) ?_
        show Go _ _ _ _ T151 (mkF m 175 #[.val (.int p0), .val (.int p1), .val (.int p2), .val (.int p3), .val (.int p4), .val (.int p5), .val (.int nn), .val (.int vx), .val (.int vy), .val (.int j92), .val (.int vv), .val (.int vw), .val (.ref a96), .val (.ref a98), .val (.int (fM 4))] [(.int (0 : Int32)), (.ref a96), (.int ((ins (ins ((ins (ins ([]) vx) vy).tail) vv) vw).getD (0 : Int32).toNatClampNeg 0))]) _ _ _
        refine Go.iaload X151 hx hZ e151 AM (by decide) (by decide) (hb hby at_175) ?_
        show Go _ _ _ _ T151 (mkF m 176 #[.val (.int p0), .val (.int p1), .val (.int p2), .val (.int p3), .val (.int p4), .val (.int p5), .val (.int nn), .val (.int vx), .val (.int vy), .val (.int j92), .val (.int vv), .val (.int vw), .val (.ref a96), .val (.ref a98), .val (.int (fM 4))] [(.int (fM 0)), (.int ((ins (ins ((ins (ins ([]) vx) vy).tail) vv) vw).getD (0 : Int32).toNatClampNeg 0))]) _ _ _
        refine Go.icmpYes X151 hx (hb hby at_176) (XT.ii_eq_t (by have q := (lt_len MM (k := (0 : Int32)) (by decide)).mp c150; exact (MM.2.2 0 q).symm)) (pc' := 181) (by decide) (by decide) ?_
        show Go _ _ _ _ T151 (mkF m 181 #[.val (.int p0), .val (.int p1), .val (.int p2), .val (.int p3), .val (.int p4), .val (.int p5), .val (.int nn), .val (.int vx), .val (.int vy), .val (.int j92), .val (.int vv), .val (.int vw), .val (.ref a96), .val (.ref a98), .val (.int (fM 4))] []) _ _ _
        refine Go.iload X151 hx (hb hby at_181) rfl ?_
        show Go _ _ _ _ T151 (mkF m 183 #[.val (.int p0), .val (.int p1), .val (.int p2), .val (.int p3), .val (.int p4), .val (.int p5), .val (.int nn), .val (.int vx), .val (.int vy), .val (.int j92), .val (.int vv), .val (.int vw), .val (.ref a96), .val (.ref a98), .val (.int (fM 4))] [(.int (fM 4))]) _ _ _
        refine Go.iconst X151 hx (hb hby at_183) ?_
        show Go _ _ _ _ T151 (mkF m 184 #[.val (.int p0), .val (.int p1), .val (.int p2), .val (.int p3), .val (.int p4), .val (.int p5), .val (.int nn), .val (.int vx), .val (.int vy), .val (.int j92), .val (.int vv), .val (.int vw), .val (.ref a96), .val (.ref a98), .val (.int (fM 4))] [(.int (1 : Int32)), (.int (fM 4))]) _ _ _
        rcases Decidable.em ((1 : Int32) < (fM 4)) with c152 | c152
        · refine Go.icmpNo X151 hx (hb hby at_184) (XT.ii_le_f c152) ?_
          show Go _ _ _ _ T151 (mkF m 187 #[.val (.int p0), .val (.int p1), .val (.int p2), .val (.int p3), .val (.int p4), .val (.int p5), .val (.int nn), .val (.int vx), .val (.int vy), .val (.int j92), .val (.int vv), .val (.int vw), .val (.ref a96), .val (.ref a98), .val (.int (fM 4))] []) _ _ _
          refine Go.aload X151 hx (hb hby at_187) rfl rfl ?_
          show Go _ _ _ _ T151 (mkF m 189 #[.val (.int p0), .val (.int p1), .val (.int p2), .val (.int p3), .val (.int p4), .val (.int p5), .val (.int nn), .val (.int vx), .val (.int vy), .val (.int j92), .val (.int vv), .val (.int vw), .val (.ref a96), .val (.ref a98), .val (.int (fM 4))] [(.ref a98)]) _ _ _
          refine Go.iconst X151 hx (hb hby at_189) ?_
          show Go _ _ _ _ T151 (mkF m 190 #[.val (.int p0), .val (.int p1), .val (.int p2), .val (.int p3), .val (.int p4), .val (.int p5), .val (.int nn), .val (.int vx), .val (.int vy), .val (.int j92), .val (.int vv), .val (.int vw), .val (.ref a96), .val (.ref a98), .val (.int (fM 4))] [(.int (1 : Int32)), (.ref a98)]) _ _ _
          refine Go.callV (W := 0) (argsL := [(.int (1 : Int32))]) (rest := []) X151 hx hZ hown (w50 hw) (w38 hw) (w40 hw) (w39 hw) (w8 hw) (w41 hw) (notFace_of_selects (args := #[]) (mvT hZ (w40 hw))) (by decide) (Exa.keep P145_0 K147) (rm_get l Z a0 hw a98 (1 : Int32) aE103 aB103 (nn.toNatClampNeg) (ins (ins ((ins (ins ([]) vx) vy).tail) vv) vw) T147.heap n0 Z147 (Exa.keep P145_0 K147) g_a98 P103_1 P103_2 P103_5 P103_6 P103_7 F148 (by decide) (by have := (lt_len MM (k := (1 : Int32)) (by decide)).mp c152; have e : ((1 : Int32)).toNatClampNeg = 1 := (by decide); have e2 : ((1 : Int32)).toInt = 1 := (by decide); omega)) e151 (lenOf pd_0 rfl) (hb hby at_190) (by rw [hml]; rfl) rfl (Nat.le_of_eq rfl) (by decide) (by decide) (by decide) (by decide) ?_
          intro v153 T153 L153 X153 q153
          obtain ⟨rfl, M153, e153⟩ := q153
          have N153 := Fr.app N151 M153
          show Go _ _ _ _ T153 (mkF m 193 #[.val (.int p0), .val (.int p1), .val (.int p2), .val (.int p3), .val (.int p4), .val (.int p5), .val (.int nn), .val (.int vx), .val (.int vy), .val (.int j92), .val (.int vv), .val (.int vw), .val (.ref a96), .val (.ref a98), .val (.int (fM 4))] [(.int ((ins (ins ((ins (ins ([]) vx) vy).tail) vv) vw).getD (1 : Int32).toNatClampNeg 0))]) _ _ _
          refine Go.aload X153 hx (hb hby at_193) rfl rfl ?_
          show Go _ _ _ _ T153 (mkF m 195 #[.val (.int p0), .val (.int p1), .val (.int p2), .val (.int p3), .val (.int p4), .val (.int p5), .val (.int nn), .val (.int vx), .val (.int vy), .val (.int j92), .val (.int vv), .val (.int vw), .val (.ref a96), .val (.ref a98), .val (.int (fM 4))] [(.ref a96), (.int ((ins (ins ((ins (ins ([]) vx) vy).tail) vv) vw).getD (1 : Int32).toNatClampNeg 0))]) _ _ _
          refine Go.iconst X153 hx (hb hby at_195) ?_
          show Go _ _ _ _ T153 (mkF m 196 #[.val (.int p0), .val (.int p1), .val (.int p2), .val (.int p3), .val (.int p4), .val (.int p5), .val (.int nn), .val (.int vx), .val (.int vy), .val (.int j92), .val (.int vv), .val (.int vw), .val (.ref a96), .val (.ref a98), .val (.int (fM 4))] [(.int (1 : Int32)), (.ref a96), (.int ((ins (ins ((ins (ins ([]) vx) vy).tail) vv) vw).getD (1 : Int32).toNatClampNeg 0))]) _ _ _
          refine Go.iaload X153 hx hZ e153 AM (by decide) (by decide) (hb hby at_196) ?_
          show Go _ _ _ _ T153 (mkF m 197 #[.val (.int p0), .val (.int p1), .val (.int p2), .val (.int p3), .val (.int p4), .val (.int p5), .val (.int nn), .val (.int vx), .val (.int vy), .val (.int j92), .val (.int vv), .val (.int vw), .val (.ref a96), .val (.ref a98), .val (.int (fM 4))] [(.int (fM 1)), (.int ((ins (ins ((ins (ins ([]) vx) vy).tail) vv) vw).getD (1 : Int32).toNatClampNeg 0))]) _ _ _
          refine Go.icmpYes X153 hx (hb hby at_197) (XT.ii_eq_t (by have q := (lt_len MM (k := (1 : Int32)) (by decide)).mp c152; exact (MM.2.2 1 q).symm)) (pc' := 202) (by decide) (by decide) ?_
          show Go _ _ _ _ T153 (mkF m 202 #[.val (.int p0), .val (.int p1), .val (.int p2), .val (.int p3), .val (.int p4), .val (.int p5), .val (.int nn), .val (.int vx), .val (.int vy), .val (.int j92), .val (.int vv), .val (.int vw), .val (.ref a96), .val (.ref a98), .val (.int (fM 4))] []) _ _ _
          refine Go.iload X153 hx (hb hby at_202) rfl ?_
          show Go _ _ _ _ T153 (mkF m 204 #[.val (.int p0), .val (.int p1), .val (.int p2), .val (.int p3), .val (.int p4), .val (.int p5), .val (.int nn), .val (.int vx), .val (.int vy), .val (.int j92), .val (.int vv), .val (.int vw), .val (.ref a96), .val (.ref a98), .val (.int (fM 4))] [(.int (fM 4))]) _ _ _
          refine Go.iconst X153 hx (hb hby at_204) ?_
          show Go _ _ _ _ T153 (mkF m 205 #[.val (.int p0), .val (.int p1), .val (.int p2), .val (.int p3), .val (.int p4), .val (.int p5), .val (.int nn), .val (.int vx), .val (.int vy), .val (.int j92), .val (.int vv), .val (.int vw), .val (.ref a96), .val (.ref a98), .val (.int (fM 4))] [(.int (2 : Int32)), (.int (fM 4))]) _ _ _
          rcases Decidable.em ((2 : Int32) < (fM 4)) with c154 | c154
          · refine Go.icmpNo X153 hx (hb hby at_205) (XT.ii_le_f c154) ?_
            show Go _ _ _ _ T153 (mkF m 208 #[.val (.int p0), .val (.int p1), .val (.int p2), .val (.int p3), .val (.int p4), .val (.int p5), .val (.int nn), .val (.int vx), .val (.int vy), .val (.int j92), .val (.int vv), .val (.int vw), .val (.ref a96), .val (.ref a98), .val (.int (fM 4))] []) _ _ _
            refine Go.aload X153 hx (hb hby at_208) rfl rfl ?_
            show Go _ _ _ _ T153 (mkF m 210 #[.val (.int p0), .val (.int p1), .val (.int p2), .val (.int p3), .val (.int p4), .val (.int p5), .val (.int nn), .val (.int vx), .val (.int vy), .val (.int j92), .val (.int vv), .val (.int vw), .val (.ref a96), .val (.ref a98), .val (.int (fM 4))] [(.ref a98)]) _ _ _
            refine Go.iconst X153 hx (hb hby at_210) ?_
            show Go _ _ _ _ T153 (mkF m 211 #[.val (.int p0), .val (.int p1), .val (.int p2), .val (.int p3), .val (.int p4), .val (.int p5), .val (.int nn), .val (.int vx), .val (.int vy), .val (.int j92), .val (.int vv), .val (.int vw), .val (.ref a96), .val (.ref a98), .val (.int (fM 4))] [(.int (2 : Int32)), (.ref a98)]) _ _ _
            refine Go.callV (W := 0) (argsL := [(.int (2 : Int32))]) (rest := []) X153 hx hZ hown (w50 hw) (w38 hw) (w40 hw) (w39 hw) (w8 hw) (w41 hw) (notFace_of_selects (args := #[]) (mvT hZ (w40 hw))) (by decide) (Exa.keep P145_0 K147) (rm_get l Z a0 hw a98 (2 : Int32) aE103 aB103 (nn.toNatClampNeg) (ins (ins ((ins (ins ([]) vx) vy).tail) vv) vw) T147.heap n0 Z147 (Exa.keep P145_0 K147) g_a98 P103_1 P103_2 P103_5 P103_6 P103_7 F148 (by decide) (by have := (lt_len MM (k := (2 : Int32)) (by decide)).mp c154; have e : ((2 : Int32)).toNatClampNeg = 2 := (by decide); have e2 : ((2 : Int32)).toInt = 2 := (by decide); omega)) e153 (lenOf pd_0 rfl) (hb hby at_211) (by rw [hml]; rfl) rfl (Nat.le_of_eq rfl) (by decide) (by decide) (by decide) (by decide) ?_
            intro v155 T155 L155 X155 q155
            obtain ⟨rfl, M155, e155⟩ := q155
            have N155 := Fr.app N153 M155
            show Go _ _ _ _ T155 (mkF m 214 #[.val (.int p0), .val (.int p1), .val (.int p2), .val (.int p3), .val (.int p4), .val (.int p5), .val (.int nn), .val (.int vx), .val (.int vy), .val (.int j92), .val (.int vv), .val (.int vw), .val (.ref a96), .val (.ref a98), .val (.int (fM 4))] [(.int ((ins (ins ((ins (ins ([]) vx) vy).tail) vv) vw).getD (2 : Int32).toNatClampNeg 0))]) _ _ _
            refine Go.aload X155 hx (hb hby at_214) rfl rfl ?_
            show Go _ _ _ _ T155 (mkF m 216 #[.val (.int p0), .val (.int p1), .val (.int p2), .val (.int p3), .val (.int p4), .val (.int p5), .val (.int nn), .val (.int vx), .val (.int vy), .val (.int j92), .val (.int vv), .val (.int vw), .val (.ref a96), .val (.ref a98), .val (.int (fM 4))] [(.ref a96), (.int ((ins (ins ((ins (ins ([]) vx) vy).tail) vv) vw).getD (2 : Int32).toNatClampNeg 0))]) _ _ _
            refine Go.iconst X155 hx (hb hby at_216) ?_
            show Go _ _ _ _ T155 (mkF m 217 #[.val (.int p0), .val (.int p1), .val (.int p2), .val (.int p3), .val (.int p4), .val (.int p5), .val (.int nn), .val (.int vx), .val (.int vy), .val (.int j92), .val (.int vv), .val (.int vw), .val (.ref a96), .val (.ref a98), .val (.int (fM 4))] [(.int (2 : Int32)), (.ref a96), (.int ((ins (ins ((ins (ins ([]) vx) vy).tail) vv) vw).getD (2 : Int32).toNatClampNeg 0))]) _ _ _
            refine Go.iaload X155 hx hZ e155 AM (by decide) (by decide) (hb hby at_217) ?_
            show Go _ _ _ _ T155 (mkF m 218 #[.val (.int p0), .val (.int p1), .val (.int p2), .val (.int p3), .val (.int p4), .val (.int p5), .val (.int nn), .val (.int vx), .val (.int vy), .val (.int j92), .val (.int vv), .val (.int vw), .val (.ref a96), .val (.ref a98), .val (.int (fM 4))] [(.int (fM 2)), (.int ((ins (ins ((ins (ins ([]) vx) vy).tail) vv) vw).getD (2 : Int32).toNatClampNeg 0))]) _ _ _
            refine Go.icmpYes X155 hx (hb hby at_218) (XT.ii_eq_t (by have q := (lt_len MM (k := (2 : Int32)) (by decide)).mp c154; exact (MM.2.2 2 q).symm)) (pc' := 223) (by decide) (by decide) ?_
            show Go _ _ _ _ T155 (mkF m 223 #[.val (.int p0), .val (.int p1), .val (.int p2), .val (.int p3), .val (.int p4), .val (.int p5), .val (.int nn), .val (.int vx), .val (.int vy), .val (.int j92), .val (.int vv), .val (.int vw), .val (.ref a96), .val (.ref a98), .val (.int (fM 4))] []) _ _ _
            refine Go.iload X155 hx (hb hby at_223) rfl ?_
            show Go _ _ _ _ T155 (mkF m 225 #[.val (.int p0), .val (.int p1), .val (.int p2), .val (.int p3), .val (.int p4), .val (.int p5), .val (.int nn), .val (.int vx), .val (.int vy), .val (.int j92), .val (.int vv), .val (.int vw), .val (.ref a96), .val (.ref a98), .val (.int (fM 4))] [(.int (fM 4))]) _ _ _
            refine Go.iconst X155 hx (hb hby at_225) ?_
            show Go _ _ _ _ T155 (mkF m 226 #[.val (.int p0), .val (.int p1), .val (.int p2), .val (.int p3), .val (.int p4), .val (.int p5), .val (.int nn), .val (.int vx), .val (.int vy), .val (.int j92), .val (.int vv), .val (.int vw), .val (.ref a96), .val (.ref a98), .val (.int (fM 4))] [(.int (3 : Int32)), (.int (fM 4))]) _ _ _
            rcases Decidable.em ((3 : Int32) < (fM 4)) with c156 | c156
            · refine Go.icmpNo X155 hx (hb hby at_226) (XT.ii_le_f c156) ?_
              show Go _ _ _ _ T155 (mkF m 229 #[.val (.int p0), .val (.int p1), .val (.int p2), .val (.int p3), .val (.int p4), .val (.int p5), .val (.int nn), .val (.int vx), .val (.int vy), .val (.int j92), .val (.int vv), .val (.int vw), .val (.ref a96), .val (.ref a98), .val (.int (fM 4))] []) _ _ _
              refine Go.aload X155 hx (hb hby at_229) rfl rfl ?_
              show Go _ _ _ _ T155 (mkF m 231 #[.val (.int p0), .val (.int p1), .val (.int p2), .val (.int p3), .val (.int p4), .val (.int p5), .val (.int nn), .val (.int vx), .val (.int vy), .val (.int j92), .val (.int vv), .val (.int vw), .val (.ref a96), .val (.ref a98), .val (.int (fM 4))] [(.ref a98)]) _ _ _
              refine Go.iconst X155 hx (hb hby at_231) ?_
              show Go _ _ _ _ T155 (mkF m 232 #[.val (.int p0), .val (.int p1), .val (.int p2), .val (.int p3), .val (.int p4), .val (.int p5), .val (.int nn), .val (.int vx), .val (.int vy), .val (.int j92), .val (.int vv), .val (.int vw), .val (.ref a96), .val (.ref a98), .val (.int (fM 4))] [(.int (3 : Int32)), (.ref a98)]) _ _ _
              refine Go.callV (W := 0) (argsL := [(.int (3 : Int32))]) (rest := []) X155 hx hZ hown (w50 hw) (w38 hw) (w40 hw) (w39 hw) (w8 hw) (w41 hw) (notFace_of_selects (args := #[]) (mvT hZ (w40 hw))) (by decide) (Exa.keep P145_0 K147) (rm_get l Z a0 hw a98 (3 : Int32) aE103 aB103 (nn.toNatClampNeg) (ins (ins ((ins (ins ([]) vx) vy).tail) vv) vw) T147.heap n0 Z147 (Exa.keep P145_0 K147) g_a98 P103_1 P103_2 P103_5 P103_6 P103_7 F148 (by decide) (by have := (lt_len MM (k := (3 : Int32)) (by decide)).mp c156; have e : ((3 : Int32)).toNatClampNeg = 3 := (by decide); have e2 : ((3 : Int32)).toInt = 3 := (by decide); omega)) e155 (lenOf pd_0 rfl) (hb hby at_232) (by rw [hml]; rfl) rfl (Nat.le_of_eq rfl) (by decide) (by decide) (by decide) (by decide) ?_
              intro v157 T157 L157 X157 q157
              obtain ⟨rfl, M157, e157⟩ := q157
              have N157 := Fr.app N155 M157
              show Go _ _ _ _ T157 (mkF m 235 #[.val (.int p0), .val (.int p1), .val (.int p2), .val (.int p3), .val (.int p4), .val (.int p5), .val (.int nn), .val (.int vx), .val (.int vy), .val (.int j92), .val (.int vv), .val (.int vw), .val (.ref a96), .val (.ref a98), .val (.int (fM 4))] [(.int ((ins (ins ((ins (ins ([]) vx) vy).tail) vv) vw).getD (3 : Int32).toNatClampNeg 0))]) _ _ _
              refine Go.aload X157 hx (hb hby at_235) rfl rfl ?_
              show Go _ _ _ _ T157 (mkF m 237 #[.val (.int p0), .val (.int p1), .val (.int p2), .val (.int p3), .val (.int p4), .val (.int p5), .val (.int nn), .val (.int vx), .val (.int vy), .val (.int j92), .val (.int vv), .val (.int vw), .val (.ref a96), .val (.ref a98), .val (.int (fM 4))] [(.ref a96), (.int ((ins (ins ((ins (ins ([]) vx) vy).tail) vv) vw).getD (3 : Int32).toNatClampNeg 0))]) _ _ _
              refine Go.iconst X157 hx (hb hby at_237) ?_
              show Go _ _ _ _ T157 (mkF m 238 #[.val (.int p0), .val (.int p1), .val (.int p2), .val (.int p3), .val (.int p4), .val (.int p5), .val (.int nn), .val (.int vx), .val (.int vy), .val (.int j92), .val (.int vv), .val (.int vw), .val (.ref a96), .val (.ref a98), .val (.int (fM 4))] [(.int (3 : Int32)), (.ref a96), (.int ((ins (ins ((ins (ins ([]) vx) vy).tail) vv) vw).getD (3 : Int32).toNatClampNeg 0))]) _ _ _
              refine Go.iaload X157 hx hZ e157 AM (by decide) (by decide) (hb hby at_238) ?_
              show Go _ _ _ _ T157 (mkF m 239 #[.val (.int p0), .val (.int p1), .val (.int p2), .val (.int p3), .val (.int p4), .val (.int p5), .val (.int nn), .val (.int vx), .val (.int vy), .val (.int j92), .val (.int vv), .val (.int vw), .val (.ref a96), .val (.ref a98), .val (.int (fM 4))] [(.int (fM 3)), (.int ((ins (ins ((ins (ins ([]) vx) vy).tail) vv) vw).getD (3 : Int32).toNatClampNeg 0))]) _ _ _
              refine Go.icmpYes X157 hx (hb hby at_239) (XT.ii_eq_t (by have q := (lt_len MM (k := (3 : Int32)) (by decide)).mp c156; exact (MM.2.2 3 q).symm)) (pc' := 244) (by decide) (by decide) ?_
              show Go _ _ _ _ T157 (mkF m 244 #[.val (.int p0), .val (.int p1), .val (.int p2), .val (.int p3), .val (.int p4), .val (.int p5), .val (.int nn), .val (.int vx), .val (.int vy), .val (.int j92), .val (.int vv), .val (.int vw), .val (.ref a96), .val (.ref a98), .val (.int (fM 4))] []) _ _ _
              refine Go.iconst X157 hx (hb hby at_244) ?_
              show Go _ _ _ _ T157 (mkF m 245 #[.val (.int p0), .val (.int p1), .val (.int p2), .val (.int p3), .val (.int p4), .val (.int p5), .val (.int nn), .val (.int vx), .val (.int vy), .val (.int j92), .val (.int vv), .val (.int vw), .val (.ref a96), .val (.ref a98), .val (.int (fM 4))] [(.int (1 : Int32))]) _ _ _
              refine Go.retZ X157 hx hlk hret (by decide) (hb hby at_245) (by decide) (by decide) ?_
              rw [e157]
              exact ⟨rfl, N157⟩
            · refine Go.icmpYes X155 hx (hb hby at_226) (XT.ii_le_t c156) (pc' := 244) (by decide) (by decide) ?_
              show Go _ _ _ _ T155 (mkF m 244 #[.val (.int p0), .val (.int p1), .val (.int p2), .val (.int p3), .val (.int p4), .val (.int p5), .val (.int nn), .val (.int vx), .val (.int vy), .val (.int j92), .val (.int vv), .val (.int vw), .val (.ref a96), .val (.ref a98), .val (.int (fM 4))] []) _ _ _
              refine Go.iconst X155 hx (hb hby at_244) ?_
              show Go _ _ _ _ T155 (mkF m 245 #[.val (.int p0), .val (.int p1), .val (.int p2), .val (.int p3), .val (.int p4), .val (.int p5), .val (.int nn), .val (.int vx), .val (.int vy), .val (.int j92), .val (.int vv), .val (.int vw), .val (.ref a96), .val (.ref a98), .val (.int (fM 4))] [(.int (1 : Int32))]) _ _ _
              refine Go.retZ X155 hx hlk hret (by decide) (hb hby at_245) (by decide) (by decide) ?_
              rw [e155]
              exact ⟨rfl, N155⟩
          · refine Go.icmpYes X153 hx (hb hby at_205) (XT.ii_le_t c154) (pc' := 223) (by decide) (by decide) ?_
            show Go _ _ _ _ T153 (mkF m 223 #[.val (.int p0), .val (.int p1), .val (.int p2), .val (.int p3), .val (.int p4), .val (.int p5), .val (.int nn), .val (.int vx), .val (.int vy), .val (.int j92), .val (.int vv), .val (.int vw), .val (.ref a96), .val (.ref a98), .val (.int (fM 4))] []) _ _ _
            refine Go.iload X153 hx (hb hby at_223) rfl ?_
            show Go _ _ _ _ T153 (mkF m 225 #[.val (.int p0), .val (.int p1), .val (.int p2), .val (.int p3), .val (.int p4), .val (.int p5), .val (.int nn), .val (.int vx), .val (.int vy), .val (.int j92), .val (.int vv), .val (.int vw), .val (.ref a96), .val (.ref a98), .val (.int (fM 4))] [(.int (fM 4))]) _ _ _
            refine Go.iconst X153 hx (hb hby at_225) ?_
            show Go _ _ _ _ T153 (mkF m 226 #[.val (.int p0), .val (.int p1), .val (.int p2), .val (.int p3), .val (.int p4), .val (.int p5), .val (.int nn), .val (.int vx), .val (.int vy), .val (.int j92), .val (.int vv), .val (.int vw), .val (.ref a96), .val (.ref a98), .val (.int (fM 4))] [(.int (3 : Int32)), (.int (fM 4))]) _ _ _
            refine Go.icmpYes X153 hx (hb hby at_226) (XT.ii_le_t (fun z => c154 (Int32.lt_trans (by decide) z))) (pc' := 244) (by decide) (by decide) ?_
            show Go _ _ _ _ T153 (mkF m 244 #[.val (.int p0), .val (.int p1), .val (.int p2), .val (.int p3), .val (.int p4), .val (.int p5), .val (.int nn), .val (.int vx), .val (.int vy), .val (.int j92), .val (.int vv), .val (.int vw), .val (.ref a96), .val (.ref a98), .val (.int (fM 4))] []) _ _ _
            refine Go.iconst X153 hx (hb hby at_244) ?_
            show Go _ _ _ _ T153 (mkF m 245 #[.val (.int p0), .val (.int p1), .val (.int p2), .val (.int p3), .val (.int p4), .val (.int p5), .val (.int nn), .val (.int vx), .val (.int vy), .val (.int j92), .val (.int vv), .val (.int vw), .val (.ref a96), .val (.ref a98), .val (.int (fM 4))] [(.int (1 : Int32))]) _ _ _
            refine Go.retZ X153 hx hlk hret (by decide) (hb hby at_245) (by decide) (by decide) ?_
            rw [e153]
            exact ⟨rfl, N153⟩
        · refine Go.icmpYes X151 hx (hb hby at_184) (XT.ii_le_t c152) (pc' := 202) (by decide) (by decide) ?_
          show Go _ _ _ _ T151 (mkF m 202 #[.val (.int p0), .val (.int p1), .val (.int p2), .val (.int p3), .val (.int p4), .val (.int p5), .val (.int nn), .val (.int vx), .val (.int vy), .val (.int j92), .val (.int vv), .val (.int vw), .val (.ref a96), .val (.ref a98), .val (.int (fM 4))] []) _ _ _
          refine Go.iload X151 hx (hb hby at_202) rfl ?_
          show Go _ _ _ _ T151 (mkF m 204 #[.val (.int p0), .val (.int p1), .val (.int p2), .val (.int p3), .val (.int p4), .val (.int p5), .val (.int nn), .val (.int vx), .val (.int vy), .val (.int j92), .val (.int vv), .val (.int vw), .val (.ref a96), .val (.ref a98), .val (.int (fM 4))] [(.int (fM 4))]) _ _ _
          refine Go.iconst X151 hx (hb hby at_204) ?_
          show Go _ _ _ _ T151 (mkF m 205 #[.val (.int p0), .val (.int p1), .val (.int p2), .val (.int p3), .val (.int p4), .val (.int p5), .val (.int nn), .val (.int vx), .val (.int vy), .val (.int j92), .val (.int vv), .val (.int vw), .val (.ref a96), .val (.ref a98), .val (.int (fM 4))] [(.int (2 : Int32)), (.int (fM 4))]) _ _ _
          refine Go.icmpYes X151 hx (hb hby at_205) (XT.ii_le_t (fun z => c152 (Int32.lt_trans (by decide) z))) (pc' := 223) (by decide) (by decide) ?_
          show Go _ _ _ _ T151 (mkF m 223 #[.val (.int p0), .val (.int p1), .val (.int p2), .val (.int p3), .val (.int p4), .val (.int p5), .val (.int nn), .val (.int vx), .val (.int vy), .val (.int j92), .val (.int vv), .val (.int vw), .val (.ref a96), .val (.ref a98), .val (.int (fM 4))] []) _ _ _
          refine Go.iload X151 hx (hb hby at_223) rfl ?_
          show Go _ _ _ _ T151 (mkF m 225 #[.val (.int p0), .val (.int p1), .val (.int p2), .val (.int p3), .val (.int p4), .val (.int p5), .val (.int nn), .val (.int vx), .val (.int vy), .val (.int j92), .val (.int vv), .val (.int vw), .val (.ref a96), .val (.ref a98), .val (.int (fM 4))] [(.int (fM 4))]) _ _ _
          refine Go.iconst X151 hx (hb hby at_225) ?_
          show Go _ _ _ _ T151 (mkF m 226 #[.val (.int p0), .val (.int p1), .val (.int p2), .val (.int p3), .val (.int p4), .val (.int p5), .val (.int nn), .val (.int vx), .val (.int vy), .val (.int j92), .val (.int vv), .val (.int vw), .val (.ref a96), .val (.ref a98), .val (.int (fM 4))] [(.int (3 : Int32)), (.int (fM 4))]) _ _ _
          refine Go.icmpYes X151 hx (hb hby at_226) (XT.ii_le_t (fun z => c152 (Int32.lt_trans (by decide) z))) (pc' := 244) (by decide) (by decide) ?_
          show Go _ _ _ _ T151 (mkF m 244 #[.val (.int p0), .val (.int p1), .val (.int p2), .val (.int p3), .val (.int p4), .val (.int p5), .val (.int nn), .val (.int vx), .val (.int vy), .val (.int j92), .val (.int vv), .val (.int vw), .val (.ref a96), .val (.ref a98), .val (.int (fM 4))] []) _ _ _
          refine Go.iconst X151 hx (hb hby at_244) ?_
          show Go _ _ _ _ T151 (mkF m 245 #[.val (.int p0), .val (.int p1), .val (.int p2), .val (.int p3), .val (.int p4), .val (.int p5), .val (.int nn), .val (.int vx), .val (.int vy), .val (.int j92), .val (.int vv), .val (.int vw), .val (.ref a96), .val (.ref a98), .val (.int (fM 4))] [(.int (1 : Int32))]) _ _ _
          refine Go.retZ X151 hx hlk hret (by decide) (hb hby at_245) (by decide) (by decide) ?_
          rw [e151]
          exact ⟨rfl, N151⟩
      · refine Go.ifYes X149 hx (hb hby at_163) (XT.i0_le_t c150) (pc' := 181) (by decide) (by decide) ?_
        show Go _ _ _ _ T149 (mkF m 181 #[.val (.int p0), .val (.int p1), .val (.int p2), .val (.int p3), .val (.int p4), .val (.int p5), .val (.int nn), .val (.int vx), .val (.int vy), .val (.int j92), .val (.int vv), .val (.int vw), .val (.ref a96), .val (.ref a98), .val (.int (fM 4))] []) _ _ _
        refine Go.iload X149 hx (hb hby at_181) rfl ?_
        show Go _ _ _ _ T149 (mkF m 183 #[.val (.int p0), .val (.int p1), .val (.int p2), .val (.int p3), .val (.int p4), .val (.int p5), .val (.int nn), .val (.int vx), .val (.int vy), .val (.int j92), .val (.int vv), .val (.int vw), .val (.ref a96), .val (.ref a98), .val (.int (fM 4))] [(.int (fM 4))]) _ _ _
        refine Go.iconst X149 hx (hb hby at_183) ?_
        show Go _ _ _ _ T149 (mkF m 184 #[.val (.int p0), .val (.int p1), .val (.int p2), .val (.int p3), .val (.int p4), .val (.int p5), .val (.int nn), .val (.int vx), .val (.int vy), .val (.int j92), .val (.int vv), .val (.int vw), .val (.ref a96), .val (.ref a98), .val (.int (fM 4))] [(.int (1 : Int32)), (.int (fM 4))]) _ _ _
        refine Go.icmpYes X149 hx (hb hby at_184) (XT.ii_le_t (fun z => c150 (Int32.lt_trans (by decide) z))) (pc' := 202) (by decide) (by decide) ?_
        show Go _ _ _ _ T149 (mkF m 202 #[.val (.int p0), .val (.int p1), .val (.int p2), .val (.int p3), .val (.int p4), .val (.int p5), .val (.int nn), .val (.int vx), .val (.int vy), .val (.int j92), .val (.int vv), .val (.int vw), .val (.ref a96), .val (.ref a98), .val (.int (fM 4))] []) _ _ _
        refine Go.iload X149 hx (hb hby at_202) rfl ?_
        show Go _ _ _ _ T149 (mkF m 204 #[.val (.int p0), .val (.int p1), .val (.int p2), .val (.int p3), .val (.int p4), .val (.int p5), .val (.int nn), .val (.int vx), .val (.int vy), .val (.int j92), .val (.int vv), .val (.int vw), .val (.ref a96), .val (.ref a98), .val (.int (fM 4))] [(.int (fM 4))]) _ _ _
        refine Go.iconst X149 hx (hb hby at_204) ?_
        show Go _ _ _ _ T149 (mkF m 205 #[.val (.int p0), .val (.int p1), .val (.int p2), .val (.int p3), .val (.int p4), .val (.int p5), .val (.int nn), .val (.int vx), .val (.int vy), .val (.int j92), .val (.int vv), .val (.int vw), .val (.ref a96), .val (.ref a98), .val (.int (fM 4))] [(.int (2 : Int32)), (.int (fM 4))]) _ _ _
        refine Go.icmpYes X149 hx (hb hby at_205) (XT.ii_le_t (fun z => c150 (Int32.lt_trans (by decide) z))) (pc' := 223) (by decide) (by decide) ?_
        show Go _ _ _ _ T149 (mkF m 223 #[.val (.int p0), .val (.int p1), .val (.int p2), .val (.int p3), .val (.int p4), .val (.int p5), .val (.int nn), .val (.int vx), .val (.int vy), .val (.int j92), .val (.int vv), .val (.int vw), .val (.ref a96), .val (.ref a98), .val (.int (fM 4))] []) _ _ _
        refine Go.iload X149 hx (hb hby at_223) rfl ?_
        show Go _ _ _ _ T149 (mkF m 225 #[.val (.int p0), .val (.int p1), .val (.int p2), .val (.int p3), .val (.int p4), .val (.int p5), .val (.int nn), .val (.int vx), .val (.int vy), .val (.int j92), .val (.int vv), .val (.int vw), .val (.ref a96), .val (.ref a98), .val (.int (fM 4))] [(.int (fM 4))]) _ _ _
        refine Go.iconst X149 hx (hb hby at_225) ?_
        show Go _ _ _ _ T149 (mkF m 226 #[.val (.int p0), .val (.int p1), .val (.int p2), .val (.int p3), .val (.int p4), .val (.int p5), .val (.int nn), .val (.int vx), .val (.int vy), .val (.int j92), .val (.int vv), .val (.int vw), .val (.ref a96), .val (.ref a98), .val (.int (fM 4))] [(.int (3 : Int32)), (.int (fM 4))]) _ _ _
        refine Go.icmpYes X149 hx (hb hby at_226) (XT.ii_le_t (fun z => c150 (Int32.lt_trans (by decide) z))) (pc' := 244) (by decide) (by decide) ?_
        show Go _ _ _ _ T149 (mkF m 244 #[.val (.int p0), .val (.int p1), .val (.int p2), .val (.int p3), .val (.int p4), .val (.int p5), .val (.int nn), .val (.int vx), .val (.int vy), .val (.int j92), .val (.int vv), .val (.int vw), .val (.ref a96), .val (.ref a98), .val (.int (fM 4))] []) _ _ _
        refine Go.iconst X149 hx (hb hby at_244) ?_
        show Go _ _ _ _ T149 (mkF m 245 #[.val (.int p0), .val (.int p1), .val (.int p2), .val (.int p3), .val (.int p4), .val (.int p5), .val (.int nn), .val (.int vx), .val (.int vy), .val (.int j92), .val (.int vv), .val (.int vw), .val (.ref a96), .val (.ref a98), .val (.int (fM 4))] [(.int (1 : Int32))]) _ _ _
        refine Go.retZ X149 hx hlk hret (by decide) (hb hby at_245) (by decide) (by decide) ?_
        rw [e149]
        exact ⟨rfl, N149⟩
  rcases Decidable.em ((p3 &&& (1 : Int32)) = (0 : Int32)) with c158 | c158
  · refine Go.ifYes X90 hx (hb hby at_26) (XT.i0_eq_t c158) (pc' := 33) (by decide) (by decide) ?_
    show Go _ _ _ _ T90 (mkF m 33 #[.val (.int p0), .val (.int p1), .val (.int p2), .val (.int p3), .val (.int p4), .val (.int p5), .val (.int nn), .val (.int vx), .val (.int vy), .unset, .unset, .unset, .unset, .unset, .unset] []) _ _ _
    refine Go.iconst X90 hx (hb hby at_33) ?_
    show Go _ _ _ _ T90 (mkF m 34 #[.val (.int p0), .val (.int p1), .val (.int p2), .val (.int p3), .val (.int p4), .val (.int p5), .val (.int nn), .val (.int vx), .val (.int vy), .unset, .unset, .unset, .unset, .unset, .unset] [(.int (0 : Int32))]) _ _ _
    exact J93 _ (by rw [if_pos c158])
  · refine Go.ifNo X90 hx (hb hby at_26) (XT.i0_eq_f c158) ?_
    show Go _ _ _ _ T90 (mkF m 29 #[.val (.int p0), .val (.int p1), .val (.int p2), .val (.int p3), .val (.int p4), .val (.int p5), .val (.int nn), .val (.int vx), .val (.int vy), .unset, .unset, .unset, .unset, .unset, .unset] []) _ _ _
    refine Go.iconst X90 hx (hb hby at_29) ?_
    show Go _ _ _ _ T90 (mkF m 30 #[.val (.int p0), .val (.int p1), .val (.int p2), .val (.int p3), .val (.int p4), .val (.int p5), .val (.int nn), .val (.int vx), .val (.int vy), .unset, .unset, .unset, .unset, .unset, .unset] [(.int (1 : Int32))]) _ _ _
    refine Go.goto X90 hx (hb hby at_30) (pc' := 34) (by decide) (by decide) ?_
    show Go _ _ _ _ T90 (mkF m 34 #[.val (.int p0), .val (.int p1), .val (.int p2), .val (.int p3), .val (.int p4), .val (.int p5), .val (.int nn), .val (.int vx), .val (.int vy), .unset, .unset, .unset, .unset, .unset, .unset] [(.int (1 : Int32))]) _ _ _
    exact J93 _ (by rw [if_neg c158])
set_option maxRecDepth 65536 in
set_option maxHeartbeats 40000000 in
theorem comes_1 {Post : Tables → Env → Array Value → State → Outcome → State → Prop} (hpost : ∀ tb e args s v u, (limb_1_1.after args s (.returned v) u = true ∧ limb_1_2.after args s (.returned v) u = true ∧ True) → FrameEnd s (.returned v) u (Jvm.fieldLocs frame_1_writes args s ++ Jvm.arrayLocs frame_1_arrays args s ++ Jvm.staticLocs frame_1_statics s) 16 128 → Post tb e args s (.returned v) u) :
    ArmFor flags0 classFile x code maxLocals ret World_1 tables_1 room_1 Calls_1 rest_1 Pre_1 Post := by
  intro l hfl _ _ p e ha hc hk s m args below hf hA hF happ hP
  obtain ⟨hcalls, hrest, hpre⟩ := hP
  obtain ⟨-, -, -, hnamed, -, -, -, hat⟩ := (Spec.applies_iff hf).mp happ
  obtain ⟨hg, hn⟩ := and_e (Cond.before_iff.mp (show (Jvm.Cond.and given_1 narrow_1).before args s = true from hpre))
  obtain ⟨hcount, hgs⟩ := and_e hg
  obtain ⟨hg0, hgr0⟩ := and_e hgs
  obtain ⟨hg1, hgr1⟩ := and_e hgr0
  obtain ⟨hg2, hgr2⟩ := and_e hgr1
  obtain ⟨hg3, hgr3⟩ := and_e hgr2
  obtain ⟨hg4, hgr4⟩ := and_e hgr3
  obtain ⟨w0', w1', w2', w3', w4', w5', rfl⟩ : ∃ w0' w1' w2' w3' w4' w5' : Value, args = #[w0', w1', w2', w3', w4', w5'] := by
    have hs : args.size = 6 := by simpa [Cond.value, given_1] using hcount
    obtain ⟨L⟩ := args
    match L, hs with
    | [w0', w1', w2', w3', w4', w5'], _ => exact ⟨w0', w1', w2', w3', w4', w5', rfl⟩
  have hw := fun d (hd : d ∈ tables_1) => atoms_spec (ws := Jvm.Cond.code x code maxLocals ret :: tables_1) hat d (List.mem_cons_of_mem _ hd)
  have hfit : Fit s := fun {y c} hc i hi => by
    obtain ⟨ha, rfl⟩ := Array.getElem?_eq_some_iff.mp hc
    have q := List.all_eq_true.mp ((Array.all_eq_true_iff_forall_mem.mp hF) _ (Array.getElem_mem ha)) i (List.mem_range.mpr hi)
    simpa [Array.getElem?_eq_getElem hi] using q
  obtain ⟨i0, ei0⟩ := is_v hg0
  obtain rfl : w0' = (.int i0) := Option.some.inj ei0
  obtain ⟨i1, ei1⟩ := is_v hg1
  obtain rfl : w1' = (.int i1) := Option.some.inj ei1
  obtain ⟨i2, ei2⟩ := is_v hg2
  obtain rfl : w2' = (.int i2) := Option.some.inj ei2
  obtain ⟨i3, ei3⟩ := is_v hg3
  obtain rfl : w3' = (.int i3) := Option.some.inj ei3
  obtain ⟨i4, ei4⟩ := is_v hg4
  obtain rfl : w4' = (.int i4) := Option.some.inj ei4
  obtain ⟨i5, ei5⟩ := is_v hgr4
  obtain rfl : w5' = (.int i5) := Option.some.inj ei5
  obtain ⟨n, o, h1, h2, h3, _, L, rfl, ⟨rfl, N⟩, hq⟩ := rm_law l s _ hw tables_1 i0 i1 i2 i3 i4 i5 s.heap s.heap.size (Nat.le_refl _) p e ha hc hk s m _ below hf ((Spec.applies_iff_loose hf).mp happ).1 ⟨rfl, State.Warmed39.refl s, rfl⟩ trivial
  refine ⟨n, _, h1, h2, h3, hpost _ _ _ _ _ _ ⟨Cond.after_iff.mpr rfl, Cond.after_iff.mpr (eq_i res_at (Term.int_eval (1)) rfl), trivial⟩ ⟨hq.1, hq.2.1, (hq.2.2.sift fun y hy => Or.inr (N y hy)).mono (by decide) (by decide)⟩⟩
theorem main_1_1 : Claimed_1_1 := comes_1 fun _ _ _ _ _ _ h hF => ⟨h.1, hF⟩
theorem main_1_2 : Claimed_1_2 := comes_1 fun _ _ _ _ _ _ h hF => ⟨h.2.1, hF⟩
end Jvm.Pilot.@@N@@
namespace Jvm.Pilot.@@N@@
open Jvm Jvm.ClassFile Sem Op Lib Jvm.Free Jvm.Stand Jvm.Pilot.@@N@@.Jvm.D
/-! MADE BY PROGRAM (witnessworld.py) out of the Statement's table words and the real class files: 11 classes; the members and pool entries that the words name. The judged class is class 1, her method 4. -/
namespace start1
open Jvm.ClassFile
def u (s : String) : CpInfo := .utf8 (stringToUtf16 s)
/-- a pool by its gaps: so many unusable entries, then the entry; so many at the end -/
def gap : Nat → List CpInfo → List CpInfo
  | 0, r => r
  | n + 1, r => .unusable :: gap n r
def poolList (es : List (Nat × CpInfo)) (last : Nat) : List CpInfo := es.foldr (fun e r => gap e.1 (e.2 :: r)) (gap last [])
def pool (es : List (Nat × CpInfo)) (last : Nat) : Array CpInfo := ⟨poolList es last⟩
def fileOf (pool : Array CpInfo) (this : Nat) (attrs : Array Attribute := #[]) (ms : Array MethodInfo := #[]) (fl : Nat := 33) (sup : Nat := 0) (ifs : Array Nat := #[]) (fds : Array FieldInfo := #[]) : ClassFile where
  minorVersion := 0
  majorVersion := 65
  constantPool := pool
  accessFlags := fl
  thisClass := this
  superClass := sup
  interfaces := ifs
  fields := fds
  methods := ms
  attributes := attrs
def plain (name : String) (sup : Option ClassId) : Class where
  name := name
  kind := .ordinary
  loader := none
  accessFlags := 33
  super := sup
  interfaces := #[]
  cf := none
  fields := #[]
  methods := #[]
  instanceTypes := #[]
  staticTypes := #[]
  resolved := #[]
  callSites := []
  init := .initialized
  statics := none
  mirror := none

def pool0 : Array CpInfo := pool [(5, u "<init>"), (0, u "()V"), (1, .class_ 10), (1, u "java/lang/Object")] 113

def k0c0 : Code := { maxStack := 0, maxLocals := 1, code := object_method_1_code, exceptionTable := #[], attributes := #[] }
def k0m0 : Method := { name := "<init>", desc := "()V", sig := { parameters := [], returnType := none }, accessFlags := 1, code := some k0c0 }
/-- java/lang/Object -/
def k0 : Class := { plain "java/lang/Object" none with
  accessFlags := 33
  interfaces := #[]
  cf := some (fileOf pool0 8 #[] #[{ accessFlags := 1, nameIndex := 5, descriptorIndex := 6, attributes := #[] }] 33 0 #[] #[])
  fields := #[]
  methods := #[k0m0]
  instanceTypes := #[]
  staticTypes := #[]
  resolved := Array.replicate 124 none
  statics := none }

def pool1 : Array CpInfo := pool [(2, .class_ 4), (1, u "java/lang/Object"), (0, u "<init>"), (0, u "()V"), (0, .integer 2147483647), (0, .methodref 9 10), (0, .class_ 11), (0, .nameAndType 12 13), (0, u "com/example/branchwise/branchwise/propagation/RevisionListAddPinLaw"), (0, u "pick"), (0, u "(II)I"), (0, .class_ 15), (0, u "com/example/branchwise/branchwise/propagation/RevisionList"), (0, .methodref 14 17), (0, .nameAndType 5 18), (0, u "(I)V"), (0, .methodref 14 20), (0, .nameAndType 21 18), (0, u "add"), (0, .methodref 9 23), (0, .nameAndType 24 25), (0, u "refAdd"), (0, u "([II)V"), (0, .methodref 14 27), (0, .nameAndType 28 29), (0, u "remove"), (0, u "(I)I"), (0, .methodref 9 31), (0, .nameAndType 32 33), (0, u "refRemoveFirst"), (0, u "([I)V"), (0, .methodref 14 35), (0, .nameAndType 36 37), (0, u "size"), (0, u "()I"), (0, .methodref 14 39), (0, .nameAndType 40 29), (0, u "get"), (3, u "law"), (0, u "(IIIIII)Z")] 4

def k1m0 : Method := { name := "<init>", desc := "()V", sig := { parameters := [], returnType := none }, accessFlags := 1, code := none }
def k1c1 : Code := { maxStack := 2, maxLocals := 2, code := method_2_code, exceptionTable := #[], attributes := #[] }
def k1m1 : Method := { name := "pick", desc := "(II)I", sig := { parameters := [.int, .int], returnType := some .int }, accessFlags := 10, code := some k1c1 }
def k1c2 : Code := { maxStack := 4, maxLocals := 4, code := method_3_code, exceptionTable := #[], attributes := #[] }
def k1m2 : Method := { name := "refAdd", desc := "([II)V", sig := { parameters := [(.array .int), .int], returnType := none }, accessFlags := 10, code := some k1c2 }
def k1c3 : Code := { maxStack := 4, maxLocals := 1, code := method_4_code, exceptionTable := #[], attributes := #[] }
def k1m3 : Method := { name := "refRemoveFirst", desc := "([I)V", sig := { parameters := [(.array .int)], returnType := none }, accessFlags := 10, code := some k1c3 }
def k1c4 : Code := { maxStack := 3, maxLocals := 15, code := code, exceptionTable := #[], attributes := #[] }
def k1m4 : Method := { name := "law", desc := "(IIIIII)Z", sig := { parameters := [.int, .int, .int, .int, .int, .int], returnType := some .boolean }, accessFlags := 9, code := some k1c4 }
/-- com/example/branchwise/branchwise/propagation/RevisionListAddPinLaw -/
def k1 : Class := { plain "com/example/branchwise/branchwise/propagation/RevisionListAddPinLaw" (some 0) with
  accessFlags := 49
  interfaces := #[]
  cf := some (fileOf pool1 9 #[] #[{ accessFlags := 1, nameIndex := 5, descriptorIndex := 6, attributes := #[] }, { accessFlags := 10, nameIndex := 12, descriptorIndex := 13, attributes := #[] }, { accessFlags := 10, nameIndex := 24, descriptorIndex := 25, attributes := #[] }, { accessFlags := 10, nameIndex := 32, descriptorIndex := 33, attributes := #[] }, { accessFlags := 9, nameIndex := 44, descriptorIndex := 45, attributes := #[] }] 49 2 #[] #[])
  fields := #[]
  methods := #[k1m0, k1m1, k1m2, k1m3, k1m4]
  instanceTypes := #[]
  staticTypes := #[]
  resolved := Array.replicate 50 none
  statics := none }

def pool2 : Array CpInfo := pool [(1, .methodref 2 3), (0, .class_ 4), (0, .nameAndType 5 6), (0, u "java/lang/Object"), (0, u "<init>"), (0, u "()V"), (0, .fieldref 8 9), (0, .class_ 10), (0, .nameAndType 11 12), (0, u "com/example/branchwise/branchwise/propagation/RevisionList"), (0, u "entries"), (0, u "[I"), (0, .fieldref 8 14), (0, .nameAndType 15 16), (0, u "listed"), (0, u "[Z"), (0, .fieldref 8 18), (0, .nameAndType 19 20), (0, u "head"), (0, u "I"), (0, .fieldref 8 22), (0, .nameAndType 23 20), (0, u "length"), (0, .methodref 8 25), (0, .nameAndType 26 27), (0, u "get"), (0, u "(I)I"), (2, u "remove"), (0, u "(I)V"), (2, u "add"), (1, u "size"), (0, u "()I")] 3

def k2c0 : Code := { maxStack := 2, maxLocals := 2, code := prog_32_method_1_code, exceptionTable := #[], attributes := #[] }
def k2m0 : Method := { name := "<init>", desc := "(I)V", sig := { parameters := [.int], returnType := none }, accessFlags := 1, code := some k2c0 }
def k2c1 : Code := { maxStack := 3, maxLocals := 2, code := prog_32_method_2_code, exceptionTable := #[], attributes := #[] }
def k2m1 : Method := { name := "add", desc := "(I)V", sig := { parameters := [.int], returnType := none }, accessFlags := 1, code := some k2c1 }
def k2c2 : Code := { maxStack := 1, maxLocals := 1, code := prog_32_method_3_code, exceptionTable := #[], attributes := #[] }
def k2m2 : Method := { name := "size", desc := "()I", sig := { parameters := [], returnType := some .int }, accessFlags := 1, code := some k2c2 }
def k2c3 : Code := { maxStack := 3, maxLocals := 2, code := prog_32_method_4_code, exceptionTable := #[], attributes := #[] }
def k2m3 : Method := { name := "get", desc := "(I)I", sig := { parameters := [.int], returnType := some .int }, accessFlags := 1, code := some k2c3 }
def k2c4 : Code := { maxStack := 5, maxLocals := 4, code := prog_32_method_5_code, exceptionTable := #[], attributes := #[] }
def k2m4 : Method := { name := "remove", desc := "(I)I", sig := { parameters := [.int], returnType := some .int }, accessFlags := 1, code := some k2c4 }
/-- com/example/branchwise/branchwise/propagation/RevisionList -/
def k2 : Class := { plain "com/example/branchwise/branchwise/propagation/RevisionList" (some 0) with
  accessFlags := 49
  interfaces := #[]
  cf := some (fileOf pool2 8 #[] #[{ accessFlags := 1, nameIndex := 5, descriptorIndex := 31, attributes := #[] }, { accessFlags := 1, nameIndex := 34, descriptorIndex := 31, attributes := #[] }, { accessFlags := 1, nameIndex := 36, descriptorIndex := 37, attributes := #[] }, { accessFlags := 1, nameIndex := 26, descriptorIndex := 27, attributes := #[] }, { accessFlags := 1, nameIndex := 30, descriptorIndex := 27, attributes := #[] }] 49 2 #[] #[{ accessFlags := 18, nameIndex := 11, descriptorIndex := 12, attributes := #[] }, { accessFlags := 2, nameIndex := 19, descriptorIndex := 20, attributes := #[] }, { accessFlags := 2, nameIndex := 23, descriptorIndex := 20, attributes := #[] }, { accessFlags := 18, nameIndex := 15, descriptorIndex := 16, attributes := #[] }])
  fields := #[{ name := "entries", type := (.array .int), accessFlags := 18, slot := 0, constantValue := 0 }, { name := "head", type := .int, accessFlags := 2, slot := 1, constantValue := 0 }, { name := "length", type := .int, accessFlags := 2, slot := 2, constantValue := 0 }, { name := "listed", type := (.array .boolean), accessFlags := 18, slot := 3, constantValue := 0 }]
  methods := #[k2m0, k2m1, k2m2, k2m3, k2m4]
  instanceTypes := #[(.array .int), .int, .int, (.array .boolean)]
  staticTypes := #[]
  resolved := Array.replicate 41 none
  statics := none }

def pool3 : Array CpInfo := pool [(1, u "java/lang/Cloneable"), (0, .class_ 1), (0, u "java/lang/Object"), (0, .class_ 3)] 3

/-- java/lang/Cloneable -/
def k3 : Class := { plain "java/lang/Cloneable" (some 0) with
  accessFlags := 1537
  interfaces := #[]
  cf := some (fileOf pool3 2 #[] #[] 1537 4 #[] #[])
  fields := #[]
  methods := #[]
  instanceTypes := #[]
  staticTypes := #[]
  resolved := Array.replicate 8 none
  statics := none }

def pool4 : Array CpInfo := pool [(1, u "java/io/Serializable"), (0, .class_ 1), (0, u "java/lang/Object"), (0, .class_ 3)] 3

/-- java/io/Serializable -/
def k4 : Class := { plain "java/io/Serializable" (some 0) with
  accessFlags := 1537
  interfaces := #[]
  cf := some (fileOf pool4 2 #[] #[] 1537 4 #[] #[])
  fields := #[]
  methods := #[]
  instanceTypes := #[]
  staticTypes := #[]
  resolved := Array.replicate 8 none
  statics := none }

/-- the primitive boolean -/
def k5 : Class := { plain "boolean" none with kind := .primitive 'Z', accessFlags := 0x411 }
/-- [Z -/
def k6 : Class := { plain "[Z" (some 0) with kind := .array 5 .boolean, interfaces := #[3, 4], accessFlags := 1041 }

/-- the primitive byte -/
def k7 : Class := { plain "byte" none with kind := .primitive 'B', accessFlags := 0x411 }
/-- [B -/
def k8 : Class := { plain "[B" (some 0) with kind := .array 7 .byte, interfaces := #[3, 4], accessFlags := 1041 }

/-- the primitive int -/
def k9 : Class := { plain "int" none with kind := .primitive 'I', accessFlags := 0x411 }
/-- [I -/
def k10 : Class := { plain "[I" (some 0) with kind := .array 9 .int, interfaces := #[3, 4], accessFlags := 1041 }

def heap : Heap := #[]
def classes : Array Class := #[k0, k1, k2, k3, k4, k5, k6, k7, k8, k9, k10]
def interned : List (Array UInt16 × Addr) := []
def slotsUsed : Nat := 0
def theMethod : MethodId := ⟨1, 4⟩
def args0 : Array Value := #[.int 1, .int 2, .int 3, .int 4, .int 5, .int 6]
def aboutOver (below : List Frame) : State where
  vm := { classes := classes, interned := interned.toArray }
  heap := heap
  slotsUsed := slotsUsed
  threads := #[{ frames := .invoking theMethod args0 :: below }]
def below0 : List Frame := [.native { method := ⟨0, 0⟩, args := #[] }]
def about1 : State := aboutOver below0
def p0 : Program := .bare "" "" ""
def e0 : Env := launch0.env 0 0 0
theorem w_frames : about1.frames = Frame.invoking theMethod args0 :: below0 := rfl
set_option maxRecDepth 65536 in
theorem w_args : argsFit about1.vm theMethod args0 = true := by decide +kernel
set_option maxRecDepth 65536 in
theorem w_heap : heapFits about1 = true := by decide +kernel
set_option maxRecDepth 65536 in
theorem w_runnable : about1.curStatus? = some .runnable := by decide +kernel
set_option maxRecDepth 65536 in
theorem w_alone : about1.alone = true := by decide +kernel
set_option maxRecDepth 65536 in
theorem w_named : about1.methodNamed? x = some theMethod := by decide +kernel
set_option maxRecDepth 65536 in
theorem w_hears : about1.hears theMethod below0 = true := by decide +kernel
set_option maxRecDepth 65536 in
theorem w_ripe : about1.ripe theMethod args0 below0 = true := by decide +kernel
theorem w_running : about1.status = .running := rfl
set_option maxRecDepth 65536 in
theorem w_room : about1.hasRoom e0.platform room_1 = true :=
  launch0.hasRoom_least _ room_1 (by decide +kernel) (by decide +kernel) (by decide +kernel) (by decide +kernel) (by decide +kernel) (by decide +kernel)
theorem allAtoms_all (ts : List Jvm.Cond) (a : Array Jvm.Value) (st : Jvm.State) : (allAtoms ts).before a st = ts.all (fun c => c.before a st) := by
  induction ts with
  | nil => rfl
  | cons c t ih =>
    show (Jvm.Cond.and c (allAtoms t)).before a st = _
    rw [Jvm.Cond.before_and, ih, List.all_cons]
def words1 : List Jvm.Cond := Jvm.Cond.code x code maxLocals ret :: tables_1
/-- a 'code' word, met by the world's own term for the bytes: nothing is compared byte by byte -/
theorem code_word {y : MethodName} {bytes : ByteArray} {mx : Nat} {rt : Option FieldType} {a : Array Value} {s : State} {m : MethodId} {meth : Method} {c : Code} (h1 : s.methodNamed? y = some m) (h2 : s.vm.method? m = some meth) (h3 : meth.code = some c) (h4 : c.code = bytes)
    (h5 : (c.maxLocals == mx && c.exceptionTable.isEmpty && decide (c.maxStack ≤ mostOperands) && decide (meth.sig.returnType = rt) && !meth.locks && decide (parseMethodDescriptor y.desc = some meth.sig)) = true) : (Jvm.Cond.code y bytes mx rt).before a s = true := by
  simp only [Bool.and_eq_true, beq_iff_eq, Bool.not_eq_true', decide_eq_true_eq] at h5
  obtain ⟨⟨⟨⟨⟨g1, g2⟩, g3⟩, g4⟩, g5⟩, g6⟩ := h5
  simp [Cond.before, Cond.holds, Cond.value, h1, h2, h3, h4, g1, g2, g3, g4, g5, g6]
def isCode : Jvm.Cond → Bool
  | .code _ _ _ _ => true
  | _ => false
theorem all_split {L : List Jvm.Cond} {P : Jvm.Cond → Bool} (h1 : L.all (fun c => isCode c || P c) = true) (h2 : ∀ c ∈ L.filter isCode, P c = true) : L.all P = true := by
  refine List.all_eq_true.mpr fun c hc => ?_
  have h := List.all_eq_true.mp h1 c hc
  rcases Bool.eq_false_or_eq_true (isCode c) with hi | hi
  · exact h2 c (List.mem_filter.mpr ⟨hc, hi⟩)
  · simpa [hi] using h
set_option maxRecDepth 65536 in
theorem w_c0 : (Jvm.Cond.code x code maxLocals ret).before args0 about1 = true := code_word (m := ⟨1, 4⟩) (meth := k1m4) (c := k1c4) (by decide +kernel) rfl rfl rfl (by decide +kernel)
set_option maxRecDepth 65536 in
theorem w_c1 : (Jvm.Cond.code ({ cls := "com/example/branchwise/branchwise/propagation/RevisionListAddPinLaw", name := "pick", desc := "(II)I" } : Jvm.MethodName) method_2_code (2 : Nat) (Option.some Jvm.ClassFile.FieldType.int)).before args0 about1 = true := code_word (m := ⟨1, 1⟩) (meth := k1m1) (c := k1c1) (by decide +kernel) rfl rfl rfl (by decide +kernel)
set_option maxRecDepth 65536 in
theorem w_c2 : (Jvm.Cond.code ({ cls := "com/example/branchwise/branchwise/propagation/RevisionList", name := "<init>", desc := "(I)V" } : Jvm.MethodName) prog_32_method_1_code (2 : Nat) (Option.none : Option Jvm.ClassFile.FieldType)).before args0 about1 = true := code_word (m := ⟨2, 0⟩) (meth := k2m0) (c := k2c0) (by decide +kernel) rfl rfl rfl (by decide +kernel)
set_option maxRecDepth 65536 in
theorem w_c3 : (Jvm.Cond.code ({ cls := "java/lang/Object", name := "<init>", desc := "()V" } : Jvm.MethodName) object_method_1_code (1 : Nat) (Option.none : Option Jvm.ClassFile.FieldType)).before args0 about1 = true := code_word (m := ⟨0, 0⟩) (meth := k0m0) (c := k0c0) (by decide +kernel) rfl rfl rfl (by decide +kernel)
set_option maxRecDepth 65536 in
theorem w_c4 : (Jvm.Cond.code ({ cls := "com/example/branchwise/branchwise/propagation/RevisionList", name := "add", desc := "(I)V" } : Jvm.MethodName) prog_32_method_2_code (2 : Nat) (Option.none : Option Jvm.ClassFile.FieldType)).before args0 about1 = true := code_word (m := ⟨2, 1⟩) (meth := k2m1) (c := k2c1) (by decide +kernel) rfl rfl rfl (by decide +kernel)
set_option maxRecDepth 65536 in
theorem w_c5 : (Jvm.Cond.code ({ cls := "com/example/branchwise/branchwise/propagation/RevisionListAddPinLaw", name := "refAdd", desc := "([II)V" } : Jvm.MethodName) method_3_code (4 : Nat) (Option.none : Option Jvm.ClassFile.FieldType)).before args0 about1 = true := code_word (m := ⟨1, 2⟩) (meth := k1m2) (c := k1c2) (by decide +kernel) rfl rfl rfl (by decide +kernel)
set_option maxRecDepth 65536 in
theorem w_c6 : (Jvm.Cond.code ({ cls := "com/example/branchwise/branchwise/propagation/RevisionList", name := "remove", desc := "(I)I" } : Jvm.MethodName) prog_32_method_5_code (4 : Nat) (Option.some Jvm.ClassFile.FieldType.int)).before args0 about1 = true := code_word (m := ⟨2, 4⟩) (meth := k2m4) (c := k2c4) (by decide +kernel) rfl rfl rfl (by decide +kernel)
set_option maxRecDepth 65536 in
theorem w_c7 : (Jvm.Cond.code ({ cls := "com/example/branchwise/branchwise/propagation/RevisionList", name := "get", desc := "(I)I" } : Jvm.MethodName) prog_32_method_4_code (2 : Nat) (Option.some Jvm.ClassFile.FieldType.int)).before args0 about1 = true := code_word (m := ⟨2, 3⟩) (meth := k2m3) (c := k2c3) (by decide +kernel) rfl rfl rfl (by decide +kernel)
set_option maxRecDepth 65536 in
theorem w_c8 : (Jvm.Cond.code ({ cls := "com/example/branchwise/branchwise/propagation/RevisionListAddPinLaw", name := "refRemoveFirst", desc := "([I)V" } : Jvm.MethodName) method_4_code (1 : Nat) (Option.none : Option Jvm.ClassFile.FieldType)).before args0 about1 = true := code_word (m := ⟨1, 3⟩) (meth := k1m3) (c := k1c3) (by decide +kernel) rfl rfl rfl (by decide +kernel)
set_option maxRecDepth 65536 in
theorem w_c9 : (Jvm.Cond.code ({ cls := "com/example/branchwise/branchwise/propagation/RevisionList", name := "size", desc := "()I" } : Jvm.MethodName) prog_32_method_3_code (1 : Nat) (Option.some Jvm.ClassFile.FieldType.int)).before args0 about1 = true := code_word (m := ⟨2, 2⟩) (meth := k2m2) (c := k2c2) (by decide +kernel) rfl rfl rfl (by decide +kernel)
def codes1 : List Jvm.Cond := [Jvm.Cond.code x code maxLocals ret, Jvm.Cond.code ({ cls := "com/example/branchwise/branchwise/propagation/RevisionListAddPinLaw", name := "pick", desc := "(II)I" } : Jvm.MethodName) method_2_code (2 : Nat) (Option.some Jvm.ClassFile.FieldType.int), Jvm.Cond.code ({ cls := "com/example/branchwise/branchwise/propagation/RevisionList", name := "<init>", desc := "(I)V" } : Jvm.MethodName) prog_32_method_1_code (2 : Nat) (Option.none : Option Jvm.ClassFile.FieldType), Jvm.Cond.code ({ cls := "java/lang/Object", name := "<init>", desc := "()V" } : Jvm.MethodName) object_method_1_code (1 : Nat) (Option.none : Option Jvm.ClassFile.FieldType), Jvm.Cond.code ({ cls := "com/example/branchwise/branchwise/propagation/RevisionList", name := "add", desc := "(I)V" } : Jvm.MethodName) prog_32_method_2_code (2 : Nat) (Option.none : Option Jvm.ClassFile.FieldType), Jvm.Cond.code ({ cls := "com/example/branchwise/branchwise/propagation/RevisionListAddPinLaw", name := "refAdd", desc := "([II)V" } : Jvm.MethodName) method_3_code (4 : Nat) (Option.none : Option Jvm.ClassFile.FieldType), Jvm.Cond.code ({ cls := "com/example/branchwise/branchwise/propagation/RevisionList", name := "remove", desc := "(I)I" } : Jvm.MethodName) prog_32_method_5_code (4 : Nat) (Option.some Jvm.ClassFile.FieldType.int), Jvm.Cond.code ({ cls := "com/example/branchwise/branchwise/propagation/RevisionList", name := "get", desc := "(I)I" } : Jvm.MethodName) prog_32_method_4_code (2 : Nat) (Option.some Jvm.ClassFile.FieldType.int), Jvm.Cond.code ({ cls := "com/example/branchwise/branchwise/propagation/RevisionListAddPinLaw", name := "refRemoveFirst", desc := "([I)V" } : Jvm.MethodName) method_4_code (1 : Nat) (Option.none : Option Jvm.ClassFile.FieldType), Jvm.Cond.code ({ cls := "com/example/branchwise/branchwise/propagation/RevisionList", name := "size", desc := "()I" } : Jvm.MethodName) prog_32_method_3_code (1 : Nat) (Option.some Jvm.ClassFile.FieldType.int)]
set_option maxRecDepth 65536 in
theorem codes_eq : words1.filter isCode = codes1 := rfl
theorem w_codes : ∀ c ∈ words1.filter isCode, c.before args0 about1 = true := by
  rw [codes_eq]
  intro c hc
  simp only [codes1, List.mem_cons, List.not_mem_nil, or_false] at hc
  rcases hc with rfl | rfl | rfl | rfl | rfl | rfl | rfl | rfl | rfl | rfl
  · exact w_c0
  · exact w_c1
  · exact w_c2
  · exact w_c3
  · exact w_c4
  · exact w_c5
  · exact w_c6
  · exact w_c7
  · exact w_c8
  · exact w_c9
set_option maxRecDepth 65536 in
theorem w_t1 : (words1.take 24).all (fun c => isCode c || c.before args0 about1) = true := by decide +kernel
set_option maxRecDepth 65536 in
theorem w_t2 : ((words1.drop 24).take 24).all (fun c => isCode c || c.before args0 about1) = true := by decide +kernel
set_option maxRecDepth 65536 in
theorem w_t3 : ((words1.drop 24).drop 24).all (fun c => isCode c || c.before args0 about1) = true := by decide +kernel
theorem w_tables : (allAtoms (Jvm.Cond.code x code maxLocals ret :: tables_1)).before args0 about1 = true := by
  rw [allAtoms_all]
  show words1.all (fun c => c.before args0 about1) = true
  refine all_split ?_ w_codes
  rw [← List.take_append_drop 24 words1, List.all_append, w_t1, ← List.take_append_drop 24 (words1.drop 24), List.all_append, w_t2, w_t3]
  rfl
set_option maxRecDepth 65536 in
theorem w_case : (Jvm.Cond.and given_1 narrow_1).before args0 about1 = true := by decide +kernel
theorem w_applies : (headSpec (Jvm.Cond.code x code maxLocals ret :: tables_1) room_1).applies x e0.platform about1 = true :=
  (Spec.applies_iff w_frames).mpr ⟨w_running, w_runnable, w_alone, w_named, w_hears, w_ripe, w_room, w_tables⟩
theorem atStart : AtStart classFile x code maxLocals ret World_1 tables_1 room_1 Calls_1 rest_1 Pre_1 launch0 p0 e0 about1 theMethod args0 below0 :=
  ⟨lists_1, trivial, launch0.admits_env _ _ _, launch0.least_env, fairChoices_fair.cas, fairChoices_fair.clock, w_frames, w_args, w_heap, w_applies, trivial, trivial, w_case⟩
end start1
theorem witness_1 : WitnessClaimed_1 := ⟨start1.p0, start1.e0, start1.about1, start1.theMethod, start1.args0, start1.below0, start1.atStart⟩
end Jvm.Pilot.@@N@@
