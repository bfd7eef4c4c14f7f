import JvmDerived
import JvmDerived.Pilot.@@N@@Statement
import JvmDerived.Pilot.@@N@@Code
set_option linter.unusedVariables false
set_option linter.unusedSimpArgs false
@@BLOCK:NumsL.lean.txt@@
namespace Jvm.OwnK
open Sem ClassFile Op Lib Jvm.Free Jvm.Stand Jvm.LawKit Jvm.RoadKit
section Base
variable {p : Program} {l : Launch} {e : Env} {R : Room} {s : State} {m : MethodId} {args : Array Value} {below : List Frame} {meth : Method} {c : Code} {T T' : State} {locs : List Loc} {cells slots : Nat} {Q : Option Value → Heap → List Loc → Prop} {kc ks : Nat} {g g' : JFrame} {Z : State} {a0 : Array Value} {h : Heap}
/-- the walk's goal: from T with g on top the invocation comes to its end, with Q -/
def Go (p : Program) (e : Env) (below : List Frame) (s T : State) (g : JFrame) (Q : Option Value → Heap → List Loc → Prop) (kc ks : Nat) : Prop :=
  ∃ s₂ o, Steps p.tables e below (T.setTop g) s₂ ∧ s₂.status = .running ∧ Ended s₂ below o ∧ ∃ v L, o = .returned v ∧ Q v s₂.heap L ∧ FrameEnd s o s₂ L kc ks
theorem Go.step (st : ∀ target, Steps p.tables e below (T'.setTop g') target → Steps p.tables e below (T.setTop g) target) (k : Go p e below s T' g' Q kc ks) : Go p e below s T g Q kc ks := by
  obtain ⟨s₂, o, h1, r⟩ := k
  exact ⟨s₂, o, st _ h1, r⟩
theorem Go.trans (st : Steps p.tables e below (T.setTop g) (T'.setTop g')) (k : Go p e below s T' g' Q kc ks) : Go p e below s T g Q kc ks := by
  obtain ⟨s₂, o, h1, r⟩ := k
  exact ⟨s₂, o, st.trans h1, r⟩
theorem Go.cast (q : g = g') (k : Go p e below s T g' Q kc ks) : Go p e below s T g Q kc ks := q ▸ k
theorem Go.out (X : Stand p l e R s m args below meth c T locs cells slots) (hlk : meth.locks = false) {v : Option Value} (hv : meth.sig.returnType = none → v = none) (hQ : Q v T.heap locs) (hc : cells ≤ kc) (hs : slots ≤ ks)
    (st : ∀ fs : List Frame, (∀ (f : JFrame) (acts : List Action), f.method = m → f.locked = none → f.entered = [] → (doReturn e (T.setTop f) acts v).1 = T.setFrames fs) → Steps p.tables e below (T.setTop g) (T.setFrames fs)) : Go p e below s T g Q kc ks := by
  obtain ⟨fs, hr, hrun, hended, hW, hsame⟩ := X.leave hv hlk
  exact ⟨_, _, st fs hr, hrun, hended, _, _, rfl, hQ, ⟨_, rfl⟩, hW, hsame.mono hc hs⟩
theorem Go.ret0 (X : Stand p l e R s m args below meth c T locs cells slots) (hx : p.tables.exec = Jvm.exec) (hlk : meth.locks = false) {pc : Nat} {Ls : Array Slot} (hret : meth.sig.returnType = none) (hd : decode c.code pc = .ok (.return_, 1)) (hc : cells ≤ kc) (hs : slots ≤ ks) (hQ : Q none T.heap locs) : Go p e below s T (mkF m pc Ls []) Q kc ks :=
  Go.out X hlk (fun _ => rfl) hQ hc hs fun fs hr => X.returnOut hx hret hd hr
theorem Go.retV (X : Stand p l e R s m args below meth c T locs cells slots) (hx : p.tables.exec = Jvm.exec) (hlk : meth.locks = false) {pc : Nat} {Ls : Array Slot} {w : Value} {t : FieldType} {i : Instr} {rest : List Value} (hret : meth.sig.returnType = some t) (hn : narrow t w = w)
    (hi : (i = .ireturn ∧ (t = .int ∨ t = .boolean ∨ t = .byte ∨ t = .char ∨ t = .short) ∧ ∃ z, w = .int z) ∨ (i = .lreturn ∧ t = .long ∧ ∃ z, w = .long z) ∨ (i = .dreturn ∧ t = .double ∧ ∃ z, w = .double z) ∨ (i = .freturn ∧ t = .float ∧ ∃ z, w = .float z) ∨ (i = .areturn ∧ t.isReference = true ∧ w.isRef = true))
    (hd : decode c.code pc = .ok (i, 1)) (hc : cells ≤ kc) (hs : slots ≤ ks) (hQ : Q (some w) T.heap locs) : Go p e below s T (mkF m pc Ls (w :: rest)) Q kc ks :=
  Go.out X hlk (fun q => by rw [hret] at q; cases q) hQ hc hs fun fs hr => retOut X hx hret hn hi hd hr
theorem Go.retI (X : Stand p l e R s m args below meth c T locs cells slots) (hx : p.tables.exec = Jvm.exec) (hlk : meth.locks = false) {pc : Nat} {Ls : Array Slot} {z : Int32} {rest : List Value} (hret : meth.sig.returnType = some .int)
    (hd : decode c.code pc = .ok (.ireturn, 1)) (hc : cells ≤ kc) (hs : slots ≤ ks) (hQ : Q (some (.int z)) T.heap locs) : Go p e below s T (mkF m pc Ls (.int z :: rest)) Q kc ks :=
  Go.retV X hx hlk hret rfl (Or.inl ⟨rfl, Or.inl rfl, z, rfl⟩) hd hc hs hQ
theorem nar_bool {z : Int32} (h : z = 0 ∨ z = 1) : narrow .boolean (.int z) = .int z := by rcases h with rfl | rfl <;> rfl
theorem Go.retZ (X : Stand p l e R s m args below meth c T locs cells slots) (hx : p.tables.exec = Jvm.exec) (hlk : meth.locks = false) {pc : Nat} {Ls : Array Slot} {z : Int32} {rest : List Value} (hret : meth.sig.returnType = some .boolean) (hz : z = 0 ∨ z = 1)
    (hd : decode c.code pc = .ok (.ireturn, 1)) (hc : cells ≤ kc) (hs : slots ≤ ks) (hQ : Q (some (.int z)) T.heap locs) : Go p e below s T (mkF m pc Ls (.int z :: rest)) Q kc ks :=
  Go.retV X hx hlk hret (nar_bool hz) (Or.inl ⟨rfl, Or.inr (Or.inl rfl), z, rfl⟩) hd hc hs hQ
theorem Go.retJ (X : Stand p l e R s m args below meth c T locs cells slots) (hx : p.tables.exec = Jvm.exec) (hlk : meth.locks = false) {pc : Nat} {Ls : Array Slot} {z : Int64} {rest : List Value} (hret : meth.sig.returnType = some .long)
    (hd : decode c.code pc = .ok (.lreturn, 1)) (hc : cells ≤ kc) (hs : slots ≤ ks) (hQ : Q (some (.long z)) T.heap locs) : Go p e below s T (mkF m pc Ls (.long z :: rest)) Q kc ks :=
  Go.retV X hx hlk hret rfl (Or.inr (Or.inl ⟨rfl, rfl, z, rfl⟩)) hd hc hs hQ
theorem Go.retR (X : Stand p l e R s m args below meth c T locs cells slots) (hx : p.tables.exec = Jvm.exec) (hlk : meth.locks = false) {pc : Nat} {Ls : Array Slot} {w : Value} {t : FieldType} {rest : List Value} (hret : meth.sig.returnType = some t) (ht : t.isReference = true) (hw : w.isRef = true)
    (hd : decode c.code pc = .ok (.areturn, 1)) (hc : cells ≤ kc) (hs : slots ≤ ks) (hQ : Q (some w) T.heap locs) : Go p e below s T (mkF m pc Ls (w :: rest)) Q kc ks :=
  Go.retV X hx hlk hret (by cases t <;> simp [narrow, FieldType.isReference] at ht ⊢) (Or.inr (Or.inr (Or.inr (Or.inr ⟨rfl, ht, hw⟩)))) hd hc hs hQ
/-- a method's contract in this text: from the heap h0, with these arguments, it returns, with Q -/
def Met (l : Launch) (Z : State) (y : MethodName) (bytes : ByteArray) (maxL : Nat) (ret : Option FieldType) (ws : List Jvm.Cond) (rm : Room) (as' : Array Value) (h0 : Heap) (Q : Option Value → Heap → List Loc → Prop) : Prop :=
  MetFree l y (head1 (Jvm.Cond.code y bytes maxL ret :: ws) rm) (fun a U => a = as' ∧ Z.Warmed39 U.vm ∧ U.heap = h0) (fun _ _ _ _ _ => True) (fun _ U o U' => ∃ v L, o = .returned v ∧ Q v U'.heap L ∧ FrameEnd U o U' L rm.cells rm.slots)
theorem Met.of {y : MethodName} {bytes : ByteArray} {maxL : Nat} {ret : Option FieldType} {ws : List Jvm.Cond} {rm : Room} {as' : Array Value} {h0 : Heap} (hpn : plainFor y = true)
    (body : ∀ (p : Program) (e : Env) (s : State) (m : MethodId) (below : List Frame) (meth : Method) (c : Code) (s₁ : State), Stand p l e rm s m as' below meth c s₁ [] 0 0 → p.tables.exec = Jvm.exec → c.code = bytes → c.maxLocals = maxL → Z.Warmed39 s.vm →
      s.vm.findClass y.cls = some m.cls → meth.name = y.name → s₁.heap = h0 → meth.sig.returnType = ret → meth.locks = false → Go p e below s s₁ (entryFrame m as' maxL) Q rm.cells rm.slots) : Met l Z y bytes maxL ret ws rm as' h0 Q := by
  refine MetFree.of_bodySF hpn hisR ?_
  intro p e s m args below meth c s₁ Bd hml0 hP hK
  obtain ⟨rfl, hZ, hh⟩ := hP
  exact body p e s m below meth c s₁ (Stand.of_body Bd) Bd.exec Bd.bytes hml0 hZ (findClass_of_methodNamed Bd.named) (name_of_methodNamed Bd.named Bd.method).1 (by rw [← hh, Bd.state]; rfl) Bd.returns Bd.notSynchronized
theorem Met.mono {y : MethodName} {bytes : ByteArray} {maxL : Nat} {ret : Option FieldType} {ws : List Jvm.Cond} {rm : Room} {as' : Array Value} {h0 : Heap} {Q' : Option Value → Heap → List Loc → Prop} (hM : Met l Z y bytes maxL ret ws rm as' h0 Q) (q : ∀ v h L, Q v h L → Q' v h L) : Met l Z y bytes maxL ret ws rm as' h0 Q' := by
  intro p e ha hc hk s m args below hf happ hP hK
  obtain ⟨n, o, h1, h2, h3, v, L, h4, h5, h6⟩ := hM p e ha hc hk s m args below hf happ hP hK
  exact ⟨n, o, h1, h2, h3, v, L, h4, q _ _ _ h5, h6⟩
/-- the call of a static method, by its contract -/
theorem Go.callS {own : String} {index : Nat} {y : MethodName} {bytes : ByteArray} {maxL : Nat} {ret : Option FieldType} {rm : Room} {argsL rest : List Value} {Q' : Option Value → Heap → List Loc → Prop} {W pc : Nat} {Ls : Array Slot} {st : List Value}
    (X : Stand p l e R s m args below meth c T locs cells slots) (hx : p.tables.exec = Jvm.exec) (hZ : Z.Warmed39 s.vm) (hown : s.vm.findClass own = some m.cls)
    (w1 : (Jvm.Cond.methodLink own index y).before a0 Z = true) (w2 : (Jvm.Cond.static y).before a0 Z = true) (w3 : (Jvm.Cond.initialized y.cls).before a0 Z = true) (w4 : (Jvm.Cond.code y bytes maxL ret).before a0 Z = true)
    (hy : y.cls ≠ "java/lang/invoke/MethodHandle" ∧ y.cls ≠ "java/lang/invoke/VarHandle") (hM : Met l Z y bytes maxL ret [] rm argsL.toArray h Q') (eT : T.heap = h)
    (hlen : ∀ sig, parseMethodDescriptor y.desc = some sig → argsL.length = sig.parameters.length) (hd : decode c.code pc = .ok (.invokestatic index, 3)) (hsize : Ls.size = c.maxLocals) (hst : st = argsL.reverse ++ rest) (hW : (rest.map fun v => v.category).sum ≤ W)
    (hf : rm.frames + 1 ≤ R.frames) (hl : W + (maxL + 11) + rm.locals ≤ R.locals) (hc : cells + rm.cells ≤ R.cells) (hs : slots + rm.slots ≤ R.slots)
    (k : ∀ v T' L, Stand p l e R s m args below meth c T' (locs ++ L) (cells + rm.cells) (slots + rm.slots) → Q' v T'.heap L → Go p e below s T' (mkF m (pc + 3) Ls (v.toList ++ rest)) Q kc ks) : Go p e below s T (mkF m pc Ls st) Q kc ks := by
  obtain ⟨v, vm₁, ⟨T1, L1, k1, n1⟩, -, X1, ⟨Lc, hQ1, l1, y1, z1⟩, st1⟩ := Jvm.LawKit.callS X hx (y := y) hown (mvT hZ w1) (mvT hZ w2) (mvT hZ w3) (mvT hZ w4) hy (backOf (W := W) hM hZ w4 w3 hf hl) (g := mkF m pc Ls st) rfl hsize (argsL := argsL) (rest := rest) hlen hst (by show 2 * 0 + _ ≤ _; omega) hd (fun _ _ => ⟨rfl, eT, hc, hs⟩)
  dsimp only [Pt.U, Pt.locs, Pt.cells, Pt.slots] at X1 l1 y1 z1 st1 hQ1
  subst l1 y1 z1
  exact Go.step st1 (k v T1 Lc X1 hQ1)
/-- the call of a constructor, by its contract -/
theorem Go.callI {own : String} {index : Nat} {y : MethodName} {bytes : ByteArray} {maxL : Nat} {rm : Room} {a : Addr} {argsL rest : List Value} {Q' : Option Value → Heap → List Loc → Prop} {W pc : Nat} {Ls : Array Slot} {st : List Value}
    (X : Stand p l e R s m args below meth c T locs cells slots) (hx : p.tables.exec = Jvm.exec) (hZ : Z.Warmed39 s.vm) (hown : s.vm.findClass own = some m.cls) (hy1 : y.name = "<init>")
    (w1 : (Jvm.Cond.methodLink own index y).before a0 Z = true) (w2 : (Jvm.Cond.instanceMethod y).before a0 Z = true) (w3 : (Jvm.Cond.initialized y.cls).before a0 Z = true) (w4 : (Jvm.Cond.code y bytes maxL none).before a0 Z = true)
    (hy : y.cls ≠ "java/lang/invoke/MethodHandle" ∧ y.cls ≠ "java/lang/invoke/VarHandle") (hM : Met l Z y bytes maxL none [] rm (.ref a :: argsL).toArray h Q') (eT : T.heap = h)
    (hlen : ∀ sig, parseMethodDescriptor y.desc = some sig → argsL.length = sig.parameters.length) (hd : decode c.code pc = .ok (.invokespecial index, 3)) (hsize : Ls.size = c.maxLocals) (hst : st = argsL.reverse ++ .ref a :: rest) (hW : (rest.map fun v => v.category).sum ≤ W)
    (hf : rm.frames + 1 ≤ R.frames) (hl : W + (maxL + 11) + rm.locals ≤ R.locals) (hc : cells + rm.cells ≤ R.cells) (hs : slots + rm.slots ≤ R.slots)
    (k : ∀ v T' L, Stand p l e R s m args below meth c T' (locs ++ L) (cells + rm.cells) (slots + rm.slots) → Q' v T'.heap L → Go p e below s T' (mkF m (pc + 3) Ls (v.toList ++ rest)) Q kc ks) : Go p e below s T (mkF m pc Ls st) Q kc ks := by
  obtain ⟨v, vm₁, ⟨T1, L1, k1, n1⟩, -, X1, ⟨Lc, hQ1, l1, y1, z1⟩, st1⟩ := X.specialBack hx (y := y) hy1 hown (mvT hZ w1) (mvT hZ w2) (mvT hZ w4) hy (backOf (W := W) hM hZ w4 w3 hf hl) (g := mkF m pc Ls st) rfl hsize (Steps.refl _) (a := a) (argsL := argsL) (rest := rest) hlen hst (by show 2 * 0 + _ ≤ _; omega) hd (fun _ _ => ⟨rfl, eT, hc, hs⟩)
  dsimp only [Pt.U, Pt.locs, Pt.cells, Pt.slots] at X1 l1 y1 z1 st1 hQ1
  subst l1 y1 z1
  exact Go.trans st1 (k v T1 Lc X1 hQ1)
/-- the call of an instance method, by its contract -/
theorem Go.callV {own C : String} {index : Nat} {y z : MethodName} {bytes : ByteArray} {maxL : Nat} {ret : Option FieldType} {rm : Room} {a : Addr} {argsL rest : List Value} {Q' : Option Value → Heap → List Loc → Prop} {W pc : Nat} {Ls : Array Slot} {st : List Value}
    (X : Stand p l e R s m args below meth c T locs cells slots) (hx : p.tables.exec = Jvm.exec) (hZ : Z.Warmed39 s.vm) (hown : s.vm.findClass own = some m.cls)
    (w1 : (Jvm.Cond.methodLink own index y).before a0 Z = true) (w2 : (Jvm.Cond.declares y).before a0 Z = true) (w5 : (Jvm.Cond.selects C y z).before a0 Z = true) (w6 : (Jvm.Cond.instanceMethod z).before a0 Z = true) (w3 : (Jvm.Cond.initialized z.cls).before a0 Z = true) (w4 : (Jvm.Cond.code z bytes maxL ret).before a0 Z = true)
    (nf : NotFace s y) (hy : y.cls ≠ "java/lang/invoke/MethodHandle" ∧ y.cls ≠ "java/lang/invoke/VarHandle") (E : Exa Z h a C) (hM : Met l Z z bytes maxL ret [] rm (.ref a :: argsL).toArray h Q') (eT : T.heap = h)
    (hlen : ∀ sig, parseMethodDescriptor y.desc = some sig → argsL.length = sig.parameters.length) (hd : decode c.code pc = .ok (.invokevirtual index, 3)) (hsize : Ls.size = c.maxLocals) (hst : st = argsL.reverse ++ .ref a :: rest) (hW : (rest.map fun v => v.category).sum ≤ W)
    (hf : rm.frames + 1 ≤ R.frames) (hl : W + (maxL + 11) + rm.locals ≤ R.locals) (hc : cells + rm.cells ≤ R.cells) (hs : slots + rm.slots ≤ R.slots)
    (k : ∀ v T' L, Stand p l e R s m args below meth c T' (locs ++ L) (cells + rm.cells) (slots + rm.slots) → Q' v T'.heap L → Go p e below s T' (mkF m (pc + 3) Ls (v.toList ++ rest)) Q kc ks) : Go p e below s T (mkF m pc Ls st) Q kc ks := by
  obtain ⟨cB, kB, q1, q2, q3⟩ := isOf hZ eT E
  obtain ⟨v, vm₁, ⟨T1, L1, k1, n1⟩, -, X1, ⟨Lc, hQ1, l1, y1, z1⟩, st1⟩ := X.virtualBack hx (y := y) (z := z) hown (mvT hZ w1) (mvT hZ w2) nf (mvT hZ w5) (mvT hZ w6) hy (backOf (W := W) hM hZ w4 w3 hf hl) q1 q3 (g := mkF m pc Ls st) rfl hsize (Steps.refl _) (argsL := argsL) (rest := rest) hlen hst (by show 2 * 0 + _ ≤ _; omega) hd (fun _ _ => ⟨rfl, eT, hc, hs⟩)
  dsimp only [Pt.U, Pt.locs, Pt.cells, Pt.slots] at X1 l1 y1 z1 st1 hQ1
  subst l1 y1 z1
  exact Go.trans st1 (k v T1 Lc X1 hQ1)
theorem Go.ldc {own : String} {index pc : Nat} {v : Int32} {Ls : Array Slot} {st : List Value} (X : Stand p l e R s m args below meth c T locs cells slots) (hx : p.tables.exec = Jvm.exec) (hZ : Z.Warmed39 s.vm) (hown : s.vm.findClass own = some m.cls) (w : (Jvm.Cond.constant own index v).before a0 Z = true) (hd : decode c.code pc = .ok (.ldc index, 2))
    (k : Go p e below s T (mkF m (pc + 2) Ls (.int v :: st)) Q kc ks) : Go p e below s T (mkF m pc Ls st) Q kc ks :=
  Go.step (fun _ => X.ldcI hx hown (mvT hZ w) (g := mkF m pc Ls st) rfl hd) k
theorem Go.ldc2 {own : String} {index pc : Nat} {v : Int64} {Ls : Array Slot} {st : List Value} (X : Stand p l e R s m args below meth c T locs cells slots) (hx : p.tables.exec = Jvm.exec) (hZ : Z.Warmed39 s.vm) (hown : s.vm.findClass own = some m.cls) (w : (Jvm.Cond.constantLong own index v).before a0 Z = true) (hd : decode c.code pc = .ok (.ldc2_w index, 3))
    (k : Go p e below s T (mkF m (pc + 3) Ls (.long v :: st)) Q kc ks) : Go p e below s T (mkF m pc Ls st) Q kc ks :=
  Go.step (fun _ => X.ldc2J hx hown (mvT hZ w) (g := mkF m pc Ls st) rfl hd) k
end Base
end Jvm.OwnK
namespace Jvm.OwnK
open Sem ClassFile Op Lib Jvm.Free Jvm.Stand Jvm.LawKit Jvm.RoadKit
section Steps
variable {p : Program} {l : Launch} {e : Env} {R : Room} {s : State} {m : MethodId} {args : Array Value} {below : List Frame} {meth : Method} {c : Code} {T T' : State} {locs : List Loc} {cells slots : Nat} {Q : Option Value → Heap → List Loc → Prop} {kc ks : Nat} {Z : State} {a0 : Array Value} {h : Heap} {pc : Nat} {Ls : Array Slot} {rest : List Value}
theorem Go.iadd {x y : Int32} (X : Stand p l e R s m args below meth c T locs cells slots) (hx : p.tables.exec = Jvm.exec) (hd : decode c.code pc = .ok (.iadd, 1)) (k : Go p e below s T (mkF m (pc + 1) Ls (.int (x + y) :: rest)) Q kc ks) : Go p e below s T (mkF m pc Ls (.int y :: .int x :: rest)) Q kc ks :=
  Go.step (fun _ => XS.iadd X.here hx (g := mkF m pc Ls (.int y :: .int x :: rest)) rfl hd rfl) k
theorem Go.isub {x y : Int32} (X : Stand p l e R s m args below meth c T locs cells slots) (hx : p.tables.exec = Jvm.exec) (hd : decode c.code pc = .ok (.isub, 1)) (k : Go p e below s T (mkF m (pc + 1) Ls (.int (x - y) :: rest)) Q kc ks) : Go p e below s T (mkF m pc Ls (.int y :: .int x :: rest)) Q kc ks :=
  Go.step (fun _ => XS.isub X.here hx (g := mkF m pc Ls (.int y :: .int x :: rest)) rfl hd rfl) k
theorem Go.iand {x y : Int32} (X : Stand p l e R s m args below meth c T locs cells slots) (hx : p.tables.exec = Jvm.exec) (hd : decode c.code pc = .ok (.iand, 1)) (k : Go p e below s T (mkF m (pc + 1) Ls (.int (x &&& y) :: rest)) Q kc ks) : Go p e below s T (mkF m pc Ls (.int y :: .int x :: rest)) Q kc ks :=
  Go.step (fun _ => XS.iand X.here hx (g := mkF m pc Ls (.int y :: .int x :: rest)) rfl hd rfl) k
theorem Go.imul {x y : Int32} (X : Stand p l e R s m args below meth c T locs cells slots) (hx : p.tables.exec = Jvm.exec) (hd : decode c.code pc = .ok (.imul, 1)) (k : Go p e below s T (mkF m (pc + 1) Ls (.int (x * y) :: rest)) Q kc ks) : Go p e below s T (mkF m pc Ls (.int y :: .int x :: rest)) Q kc ks :=
  Go.step (fun _ => XS.imul X.here hx (g := mkF m pc Ls (.int y :: .int x :: rest)) rfl hd rfl) k
theorem Go.ixor {x y : Int32} (X : Stand p l e R s m args below meth c T locs cells slots) (hx : p.tables.exec = Jvm.exec) (hd : decode c.code pc = .ok (.ixor, 1)) (k : Go p e below s T (mkF m (pc + 1) Ls (.int (x ^^^ y) :: rest)) Q kc ks) : Go p e below s T (mkF m pc Ls (.int y :: .int x :: rest)) Q kc ks :=
  Go.step (fun _ => XT.ixor X.here hx (g := mkF m pc Ls (.int y :: .int x :: rest)) rfl hd rfl) k
theorem Go.ior {x y : Int32} (X : Stand p l e R s m args below meth c T locs cells slots) (hx : p.tables.exec = Jvm.exec) (hd : decode c.code pc = .ok (.ior, 1)) (k : Go p e below s T (mkF m (pc + 1) Ls (.int (x ||| y) :: rest)) Q kc ks) : Go p e below s T (mkF m pc Ls (.int y :: .int x :: rest)) Q kc ks :=
  Go.step (fun _ => XT.ior X.here hx (g := mkF m pc Ls (.int y :: .int x :: rest)) rfl hd rfl) k
theorem Go.ishl {x y : Int32} (X : Stand p l e R s m args below meth c T locs cells slots) (hx : p.tables.exec = Jvm.exec) (hd : decode c.code pc = .ok (.ishl, 1)) (k : Go p e below s T (mkF m (pc + 1) Ls (.int (x <<< (y &&& 31)) :: rest)) Q kc ks) : Go p e below s T (mkF m pc Ls (.int y :: .int x :: rest)) Q kc ks :=
  Go.step (fun _ => XT.ishl X.here hx (g := mkF m pc Ls (.int y :: .int x :: rest)) rfl hd rfl) k
theorem Go.ishr {x y : Int32} (X : Stand p l e R s m args below meth c T locs cells slots) (hx : p.tables.exec = Jvm.exec) (hd : decode c.code pc = .ok (.ishr, 1)) (k : Go p e below s T (mkF m (pc + 1) Ls (.int (x >>> (y &&& 31)) :: rest)) Q kc ks) : Go p e below s T (mkF m pc Ls (.int y :: .int x :: rest)) Q kc ks :=
  Go.step (fun _ => XT.ishr X.here hx (g := mkF m pc Ls (.int y :: .int x :: rest)) rfl hd rfl) k
theorem Go.iushr {x y : Int32} (X : Stand p l e R s m args below meth c T locs cells slots) (hx : p.tables.exec = Jvm.exec) (hd : decode c.code pc = .ok (.iushr, 1)) (k : Go p e below s T (mkF m (pc + 1) Ls (.int (XT.ushr x y) :: rest)) Q kc ks) : Go p e below s T (mkF m pc Ls (.int y :: .int x :: rest)) Q kc ks :=
  Go.step (fun _ => XT.iushr X.here hx (g := mkF m pc Ls (.int y :: .int x :: rest)) rfl hd rfl) k
theorem Go.idiv {x y : Int32} (X : Stand p l e R s m args below meth c T locs cells slots) (hx : p.tables.exec = Jvm.exec) (hd : decode c.code pc = .ok (.idiv, 1)) (hy : y ≠ 0) (k : Go p e below s T (mkF m (pc + 1) Ls (.int (x / y) :: rest)) Q kc ks) : Go p e below s T (mkF m pc Ls (.int y :: .int x :: rest)) Q kc ks :=
  Go.step (fun _ => XS.idiv X.here hx (g := mkF m pc Ls (.int y :: .int x :: rest)) rfl hd rfl hy) k
theorem Go.irem {x y : Int32} (X : Stand p l e R s m args below meth c T locs cells slots) (hx : p.tables.exec = Jvm.exec) (hd : decode c.code pc = .ok (.irem, 1)) (hy : y ≠ 0) (k : Go p e below s T (mkF m (pc + 1) Ls (.int (x % y) :: rest)) Q kc ks) : Go p e below s T (mkF m pc Ls (.int y :: .int x :: rest)) Q kc ks :=
  Go.step (fun _ => iremM X hx (g := mkF m pc Ls (.int y :: .int x :: rest)) rfl hd rfl hy) k
theorem Go.ladd {x y : Int64} (X : Stand p l e R s m args below meth c T locs cells slots) (hx : p.tables.exec = Jvm.exec) (hd : decode c.code pc = .ok (.ladd, 1)) (k : Go p e below s T (mkF m (pc + 1) Ls (.long (x + y) :: rest)) Q kc ks) : Go p e below s T (mkF m pc Ls (.long y :: .long x :: rest)) Q kc ks :=
  Go.step (fun _ => XT.ladd X.here hx (g := mkF m pc Ls (.long y :: .long x :: rest)) rfl hd rfl) k
theorem Go.lsub {x y : Int64} (X : Stand p l e R s m args below meth c T locs cells slots) (hx : p.tables.exec = Jvm.exec) (hd : decode c.code pc = .ok (.lsub, 1)) (k : Go p e below s T (mkF m (pc + 1) Ls (.long (x - y) :: rest)) Q kc ks) : Go p e below s T (mkF m pc Ls (.long y :: .long x :: rest)) Q kc ks :=
  Go.step (fun _ => XT.lsub X.here hx (g := mkF m pc Ls (.long y :: .long x :: rest)) rfl hd rfl) k
theorem Go.lmul {x y : Int64} (X : Stand p l e R s m args below meth c T locs cells slots) (hx : p.tables.exec = Jvm.exec) (hd : decode c.code pc = .ok (.lmul, 1)) (k : Go p e below s T (mkF m (pc + 1) Ls (.long (x * y) :: rest)) Q kc ks) : Go p e below s T (mkF m pc Ls (.long y :: .long x :: rest)) Q kc ks :=
  Go.step (fun _ => XT.lmul X.here hx (g := mkF m pc Ls (.long y :: .long x :: rest)) rfl hd rfl) k
theorem Go.land {x y : Int64} (X : Stand p l e R s m args below meth c T locs cells slots) (hx : p.tables.exec = Jvm.exec) (hd : decode c.code pc = .ok (.land, 1)) (k : Go p e below s T (mkF m (pc + 1) Ls (.long (x &&& y) :: rest)) Q kc ks) : Go p e below s T (mkF m pc Ls (.long y :: .long x :: rest)) Q kc ks :=
  Go.step (fun _ => XT.land X.here hx (g := mkF m pc Ls (.long y :: .long x :: rest)) rfl hd rfl) k
theorem Go.lor {x y : Int64} (X : Stand p l e R s m args below meth c T locs cells slots) (hx : p.tables.exec = Jvm.exec) (hd : decode c.code pc = .ok (.lor, 1)) (k : Go p e below s T (mkF m (pc + 1) Ls (.long (x ||| y) :: rest)) Q kc ks) : Go p e below s T (mkF m pc Ls (.long y :: .long x :: rest)) Q kc ks :=
  Go.step (fun _ => XT.lor X.here hx (g := mkF m pc Ls (.long y :: .long x :: rest)) rfl hd rfl) k
theorem Go.lxor {x y : Int64} (X : Stand p l e R s m args below meth c T locs cells slots) (hx : p.tables.exec = Jvm.exec) (hd : decode c.code pc = .ok (.lxor, 1)) (k : Go p e below s T (mkF m (pc + 1) Ls (.long (x ^^^ y) :: rest)) Q kc ks) : Go p e below s T (mkF m pc Ls (.long y :: .long x :: rest)) Q kc ks :=
  Go.step (fun _ => XT.lxor X.here hx (g := mkF m pc Ls (.long y :: .long x :: rest)) rfl hd rfl) k
theorem Go.lcmp {x y : Int64} (X : Stand p l e R s m args below meth c T locs cells slots) (hx : p.tables.exec = Jvm.exec) (hd : decode c.code pc = .ok (.lcmp, 1)) (k : Go p e below s T (mkF m (pc + 1) Ls (.int (XT.cmpL x y) :: rest)) Q kc ks) : Go p e below s T (mkF m pc Ls (.long y :: .long x :: rest)) Q kc ks :=
  Go.step (fun _ => XT.lcmp X.here hx (g := mkF m pc Ls (.long y :: .long x :: rest)) rfl hd rfl) k
theorem Go.lshl {x : Int64} {y : Int32} (X : Stand p l e R s m args below meth c T locs cells slots) (hx : p.tables.exec = Jvm.exec) (hd : decode c.code pc = .ok (.lshl, 1)) (k : Go p e below s T (mkF m (pc + 1) Ls (.long (x <<< (y.toInt64 &&& 63)) :: rest)) Q kc ks) : Go p e below s T (mkF m pc Ls (.int y :: .long x :: rest)) Q kc ks :=
  Go.step (fun _ => XT.lshl X.here hx (g := mkF m pc Ls (.int y :: .long x :: rest)) rfl hd rfl) k
theorem Go.lshr {x : Int64} {y : Int32} (X : Stand p l e R s m args below meth c T locs cells slots) (hx : p.tables.exec = Jvm.exec) (hd : decode c.code pc = .ok (.lshr, 1)) (k : Go p e below s T (mkF m (pc + 1) Ls (.long (x >>> (y.toInt64 &&& 63)) :: rest)) Q kc ks) : Go p e below s T (mkF m pc Ls (.int y :: .long x :: rest)) Q kc ks :=
  Go.step (fun _ => XT.lshr X.here hx (g := mkF m pc Ls (.int y :: .long x :: rest)) rfl hd rfl) k
theorem Go.lushr {x : Int64} {y : Int32} (X : Stand p l e R s m args below meth c T locs cells slots) (hx : p.tables.exec = Jvm.exec) (hd : decode c.code pc = .ok (.lushr, 1)) (k : Go p e below s T (mkF m (pc + 1) Ls (.long (XT.ushrL x y) :: rest)) Q kc ks) : Go p e below s T (mkF m pc Ls (.int y :: .long x :: rest)) Q kc ks :=
  Go.step (fun _ => XT.lushr X.here hx (g := mkF m pc Ls (.int y :: .long x :: rest)) rfl hd rfl) k
theorem Go.i2b {x : Int32} (X : Stand p l e R s m args below meth c T locs cells slots) (hx : p.tables.exec = Jvm.exec) (hd : decode c.code pc = .ok (.i2b, 1)) (k : Go p e below s T (mkF m (pc + 1) Ls (.int (x.toInt8.toInt32) :: rest)) Q kc ks) : Go p e below s T (mkF m pc Ls (.int x :: rest)) Q kc ks :=
  Go.step (fun _ => XT.i2b X.here hx (g := mkF m pc Ls (.int x :: rest)) rfl hd rfl) k
theorem Go.i2c {x : Int32} (X : Stand p l e R s m args below meth c T locs cells slots) (hx : p.tables.exec = Jvm.exec) (hd : decode c.code pc = .ok (.i2c, 1)) (k : Go p e below s T (mkF m (pc + 1) Ls (.int (x.toUInt32.toUInt16.toUInt32.toInt32) :: rest)) Q kc ks) : Go p e below s T (mkF m pc Ls (.int x :: rest)) Q kc ks :=
  Go.step (fun _ => XT.i2c X.here hx (g := mkF m pc Ls (.int x :: rest)) rfl hd rfl) k
theorem Go.i2s {x : Int32} (X : Stand p l e R s m args below meth c T locs cells slots) (hx : p.tables.exec = Jvm.exec) (hd : decode c.code pc = .ok (.i2s, 1)) (k : Go p e below s T (mkF m (pc + 1) Ls (.int (x.toInt16.toInt32) :: rest)) Q kc ks) : Go p e below s T (mkF m pc Ls (.int x :: rest)) Q kc ks :=
  Go.step (fun _ => XT.i2s X.here hx (g := mkF m pc Ls (.int x :: rest)) rfl hd rfl) k
theorem Go.i2l {x : Int32} (X : Stand p l e R s m args below meth c T locs cells slots) (hx : p.tables.exec = Jvm.exec) (hd : decode c.code pc = .ok (.i2l, 1)) (k : Go p e below s T (mkF m (pc + 1) Ls (.long (x.toInt64) :: rest)) Q kc ks) : Go p e below s T (mkF m pc Ls (.int x :: rest)) Q kc ks :=
  Go.step (fun _ => XT.i2l X.here hx (g := mkF m pc Ls (.int x :: rest)) rfl hd rfl) k
theorem Go.ineg {x : Int32} (X : Stand p l e R s m args below meth c T locs cells slots) (hx : p.tables.exec = Jvm.exec) (hd : decode c.code pc = .ok (.ineg, 1)) (k : Go p e below s T (mkF m (pc + 1) Ls (.int (-x) :: rest)) Q kc ks) : Go p e below s T (mkF m pc Ls (.int x :: rest)) Q kc ks :=
  Go.step (fun _ => XS.ineg X.here hx (g := mkF m pc Ls (.int x :: rest)) rfl hd rfl) k
theorem Go.l2i {x : Int64} (X : Stand p l e R s m args below meth c T locs cells slots) (hx : p.tables.exec = Jvm.exec) (hd : decode c.code pc = .ok (.l2i, 1)) (k : Go p e below s T (mkF m (pc + 1) Ls (.int (x.toInt32) :: rest)) Q kc ks) : Go p e below s T (mkF m pc Ls (.long x :: rest)) Q kc ks :=
  Go.step (fun _ => XT.l2i X.here hx (g := mkF m pc Ls (.long x :: rest)) rfl hd rfl) k
theorem Go.iconst {i : Int} (X : Stand p l e R s m args below meth c T locs cells slots) (hx : p.tables.exec = Jvm.exec) (hd : decode c.code pc = .ok (.iconst i, 1)) (k : Go p e below s T (mkF m (pc + 1) Ls (.int (Int32.ofInt i) :: rest)) Q kc ks) : Go p e below s T (mkF m pc Ls rest) Q kc ks :=
  Go.step (fun _ => XS.iconst X.here hx (g := mkF m pc Ls rest) rfl hd) k
theorem Go.bipush {i : Int} (X : Stand p l e R s m args below meth c T locs cells slots) (hx : p.tables.exec = Jvm.exec) (hd : decode c.code pc = .ok (.bipush i, 2)) (k : Go p e below s T (mkF m (pc + 2) Ls (.int (Int8.ofInt i).toInt32 :: rest)) Q kc ks) : Go p e below s T (mkF m pc Ls rest) Q kc ks :=
  Go.step (fun _ => XS.bipush X.here hx (g := mkF m pc Ls rest) rfl hd) k
theorem Go.sipush {i : Int} (X : Stand p l e R s m args below meth c T locs cells slots) (hx : p.tables.exec = Jvm.exec) (hd : decode c.code pc = .ok (.sipush i, 3)) (k : Go p e below s T (mkF m (pc + 3) Ls (.int (Int16.ofInt i).toInt32 :: rest)) Q kc ks) : Go p e below s T (mkF m pc Ls rest) Q kc ks :=
  Go.step (fun _ => XS.sipush X.here hx (g := mkF m pc Ls rest) rfl hd) k
theorem Go.lconst {k0 : Fin 2} (X : Stand p l e R s m args below meth c T locs cells slots) (hx : p.tables.exec = Jvm.exec) (hd : decode c.code pc = .ok (.lconst k0, 1)) (k : Go p e below s T (mkF m (pc + 1) Ls (.long (Int64.ofNat k0) :: rest)) Q kc ks) : Go p e below s T (mkF m pc Ls rest) Q kc ks :=
  Go.step (fun _ => XT.lconst X.here hx (g := mkF m pc Ls rest) rfl hd) k
theorem Go.aconst_null (X : Stand p l e R s m args below meth c T locs cells slots) (hx : p.tables.exec = Jvm.exec) (hd : decode c.code pc = .ok (.aconst_null, 1)) (k : Go p e below s T (mkF m (pc + 1) Ls (.null :: rest)) Q kc ks) : Go p e below s T (mkF m pc Ls rest) Q kc ks :=
  Go.step (fun _ => XS.aconstNull X.here hx (g := mkF m pc Ls rest) rfl hd) k
theorem Go.iload {k0 : Nat} {v : Int32} (X : Stand p l e R s m args below meth c T locs cells slots) (hx : p.tables.exec = Jvm.exec) (hd : decode c.code pc = .ok (.iload k0, 2)) (hl : Ls[k0]? = some (.val (.int v))) (k : Go p e below s T (mkF m (pc + 2) Ls (.int v :: rest)) Q kc ks) : Go p e below s T (mkF m pc Ls rest) Q kc ks :=
  Go.step (fun _ => XS.iload X.here hx (g := mkF m pc Ls rest) rfl hd hl) k
theorem Go.iloadN {k0 : Fin 4} {v : Int32} (X : Stand p l e R s m args below meth c T locs cells slots) (hx : p.tables.exec = Jvm.exec) (hd : decode c.code pc = .ok (.iload_n k0, 1)) (hl : Ls[k0.val]? = some (.val (.int v))) (k : Go p e below s T (mkF m (pc + 1) Ls (.int v :: rest)) Q kc ks) : Go p e below s T (mkF m pc Ls rest) Q kc ks :=
  Go.step (fun _ => XS.iloadN X.here hx (g := mkF m pc Ls rest) rfl hd hl) k
theorem Go.istore {k0 : Nat} {v : Int32} {l' : Array Slot} (X : Stand p l e R s m args below meth c T locs cells slots) (hx : p.tables.exec = Jvm.exec) (hd : decode c.code pc = .ok (.istore k0, 2)) (hl : storeLocals Ls k0 (.int v) = some l') (k : Go p e below s T (mkF m (pc + 2) l' rest) Q kc ks) : Go p e below s T (mkF m pc Ls (.int v :: rest)) Q kc ks :=
  Go.step (fun _ => XS.istore X.here hx (g := mkF m pc Ls (.int v :: rest)) rfl hd rfl hl) k
theorem Go.istoreN {k0 : Fin 4} {v : Int32} {l' : Array Slot} (X : Stand p l e R s m args below meth c T locs cells slots) (hx : p.tables.exec = Jvm.exec) (hd : decode c.code pc = .ok (.istore_n k0, 1)) (hl : storeLocals Ls k0.val (.int v) = some l') (k : Go p e below s T (mkF m (pc + 1) l' rest) Q kc ks) : Go p e below s T (mkF m pc Ls (.int v :: rest)) Q kc ks :=
  Go.step (fun _ => XS.istoreN X.here hx (g := mkF m pc Ls (.int v :: rest)) rfl hd rfl hl) k
theorem Go.lload {k0 : Nat} {v : Int64} (X : Stand p l e R s m args below meth c T locs cells slots) (hx : p.tables.exec = Jvm.exec) (hd : decode c.code pc = .ok (.lload k0, 2)) (hl : Ls[k0]? = some (.val (.long v))) (k : Go p e below s T (mkF m (pc + 2) Ls (.long v :: rest)) Q kc ks) : Go p e below s T (mkF m pc Ls rest) Q kc ks :=
  Go.step (fun _ => XT.lload X.here hx (g := mkF m pc Ls rest) rfl hd hl) k
theorem Go.lloadN {k0 : Fin 4} {v : Int64} (X : Stand p l e R s m args below meth c T locs cells slots) (hx : p.tables.exec = Jvm.exec) (hd : decode c.code pc = .ok (.lload_n k0, 1)) (hl : Ls[k0.val]? = some (.val (.long v))) (k : Go p e below s T (mkF m (pc + 1) Ls (.long v :: rest)) Q kc ks) : Go p e below s T (mkF m pc Ls rest) Q kc ks :=
  Go.step (fun _ => XT.lloadN X.here hx (g := mkF m pc Ls rest) rfl hd hl) k
theorem Go.lstore {k0 : Nat} {v : Int64} {l' : Array Slot} (X : Stand p l e R s m args below meth c T locs cells slots) (hx : p.tables.exec = Jvm.exec) (hd : decode c.code pc = .ok (.lstore k0, 2)) (hl : storeLocals Ls k0 (.long v) = some l') (k : Go p e below s T (mkF m (pc + 2) l' rest) Q kc ks) : Go p e below s T (mkF m pc Ls (.long v :: rest)) Q kc ks :=
  Go.step (fun _ => XT.lstore X.here hx (g := mkF m pc Ls (.long v :: rest)) rfl hd rfl hl) k
theorem Go.lstoreN {k0 : Fin 4} {v : Int64} {l' : Array Slot} (X : Stand p l e R s m args below meth c T locs cells slots) (hx : p.tables.exec = Jvm.exec) (hd : decode c.code pc = .ok (.lstore_n k0, 1)) (hl : storeLocals Ls k0.val (.long v) = some l') (k : Go p e below s T (mkF m (pc + 1) l' rest) Q kc ks) : Go p e below s T (mkF m pc Ls (.long v :: rest)) Q kc ks :=
  Go.step (fun _ => XT.lstoreN X.here hx (g := mkF m pc Ls (.long v :: rest)) rfl hd rfl hl) k
theorem Go.aload {k0 : Nat} {v : Value} (X : Stand p l e R s m args below meth c T locs cells slots) (hx : p.tables.exec = Jvm.exec) (hd : decode c.code pc = .ok (.aload k0, 2)) (hl : Ls[k0]? = some (.val v)) (hv : v.isRef = true) (k : Go p e below s T (mkF m (pc + 2) Ls (v :: rest)) Q kc ks) : Go p e below s T (mkF m pc Ls rest) Q kc ks :=
  Go.step (fun _ => XS.aload X.here hx (g := mkF m pc Ls rest) rfl hd hl hv) k
theorem Go.aloadN {k0 : Fin 4} {v : Value} (X : Stand p l e R s m args below meth c T locs cells slots) (hx : p.tables.exec = Jvm.exec) (hd : decode c.code pc = .ok (.aload_n k0, 1)) (hl : Ls[k0.val]? = some (.val v)) (hv : v.isRef = true) (k : Go p e below s T (mkF m (pc + 1) Ls (v :: rest)) Q kc ks) : Go p e below s T (mkF m pc Ls rest) Q kc ks :=
  Go.step (fun _ => XS.aloadN X.here hx (g := mkF m pc Ls rest) rfl hd hl hv) k
theorem Go.astore {k0 : Nat} {v : Value} {l' : Array Slot} (X : Stand p l e R s m args below meth c T locs cells slots) (hx : p.tables.exec = Jvm.exec) (hd : decode c.code pc = .ok (.astore k0, 2)) (hv : v.isRef = true) (hl : storeLocals Ls k0 v = some l') (k : Go p e below s T (mkF m (pc + 2) l' rest) Q kc ks) : Go p e below s T (mkF m pc Ls (v :: rest)) Q kc ks :=
  Go.step (fun _ => XS.astore X.here hx (g := mkF m pc Ls (v :: rest)) rfl hd rfl hv hl) k
theorem Go.astoreN {k0 : Fin 4} {v : Value} {l' : Array Slot} (X : Stand p l e R s m args below meth c T locs cells slots) (hx : p.tables.exec = Jvm.exec) (hd : decode c.code pc = .ok (.astore_n k0, 1)) (hv : v.isRef = true) (hl : storeLocals Ls k0.val v = some l') (k : Go p e below s T (mkF m (pc + 1) l' rest) Q kc ks) : Go p e below s T (mkF m pc Ls (v :: rest)) Q kc ks :=
  Go.step (fun _ => XS.astoreN X.here hx (g := mkF m pc Ls (v :: rest)) rfl hd rfl hv hl) k
theorem Go.iinc {k0 : Nat} {cst : Int} {x : Int32} {l' : Array Slot} (X : Stand p l e R s m args below meth c T locs cells slots) (hx : p.tables.exec = Jvm.exec) (hd : decode c.code pc = .ok (.iinc k0 cst, 3)) (hl : Ls[k0]? = some (.val (.int x))) (hs : storeLocals Ls k0 (.int (x + Int32.ofInt cst)) = some l') (k : Go p e below s T (mkF m (pc + 3) l' rest) Q kc ks) : Go p e below s T (mkF m pc Ls rest) Q kc ks :=
  Go.step (fun _ => XS.iinc X.here hx (g := mkF m pc Ls rest) rfl hd hl hs) k
theorem Go.dup {v : Value} (X : Stand p l e R s m args below meth c T locs cells slots) (hx : p.tables.exec = Jvm.exec) (hd : decode c.code pc = .ok (.dup, 1)) (hv : v.category = 1) (k : Go p e below s T (mkF m (pc + 1) Ls (v :: v :: rest)) Q kc ks) : Go p e below s T (mkF m pc Ls (v :: rest)) Q kc ks :=
  Go.step (fun _ => XS.dup X.here hx (g := mkF m pc Ls (v :: rest)) rfl hd rfl hv) k
theorem Go.pop {v : Value} (X : Stand p l e R s m args below meth c T locs cells slots) (hx : p.tables.exec = Jvm.exec) (hd : decode c.code pc = .ok (.pop, 1)) (hv : v.category = 1) (k : Go p e below s T (mkF m (pc + 1) Ls rest) Q kc ks) : Go p e below s T (mkF m pc Ls (v :: rest)) Q kc ks :=
  Go.step (fun _ => XT.pop X.here hx (g := mkF m pc Ls (v :: rest)) rfl hd rfl hv) k
theorem Go.dup_x1 {v w : Value} (X : Stand p l e R s m args below meth c T locs cells slots) (hx : p.tables.exec = Jvm.exec) (hd : decode c.code pc = .ok (.dup_x1, 1)) (hv : v.category = 1) (hw' : w.category = 1) (k : Go p e below s T (mkF m (pc + 1) Ls (v :: w :: v :: rest)) Q kc ks) : Go p e below s T (mkF m pc Ls (v :: w :: rest)) Q kc ks :=
  Go.step (fun _ => XT.dupX1 X.here hx (g := mkF m pc Ls (v :: w :: rest)) rfl hd rfl hv hw') k
theorem Go.dup2 {v w : Value} (X : Stand p l e R s m args below meth c T locs cells slots) (hx : p.tables.exec = Jvm.exec) (hd : decode c.code pc = .ok (.dup2, 1)) (hv : v.category = 1) (hw' : w.category = 1) (k : Go p e below s T (mkF m (pc + 1) Ls (v :: w :: v :: w :: rest)) Q kc ks) : Go p e below s T (mkF m pc Ls (v :: w :: rest)) Q kc ks :=
  Go.step (fun _ => XT.dup2 X.here hx (g := mkF m pc Ls (v :: w :: rest)) rfl hd rfl hv hw') k
theorem Go.goto {o : Int} {pc' : Nat} (X : Stand p l e R s m args below meth c T locs cells slots) (hx : p.tables.exec = Jvm.exec) (hd : decode c.code pc = .ok (.goto o, 3)) (ho : 0 ≤ (pc : Int) + o) (hp : ((pc : Int) + o).toNat = pc') (k : Go p e below s T (mkF m pc' Ls rest) Q kc ks) : Go p e below s T (mkF m pc Ls rest) Q kc ks :=
  Go.step (fun _ => XS.goto X.here hx (g := mkF m pc Ls rest) rfl rfl hd ho hp) k
theorem Go.ifYes {cd : ClassFile.Cond} {x : Int32} {o : Int} {pc' : Nat} (X : Stand p l e R s m args below meth c T locs cells slots) (hx : p.tables.exec = Jvm.exec) (hd : decode c.code pc = .ok (.ifCond cd o, 3)) (hc : ifCond.holds cd x = true) (ho : 0 ≤ (pc : Int) + o) (hp : ((pc : Int) + o).toNat = pc') (k : Go p e below s T (mkF m pc' Ls rest) Q kc ks) : Go p e below s T (mkF m pc Ls (.int x :: rest)) Q kc ks :=
  Go.step (fun _ => XS.ifYes X.here hx (g := mkF m pc Ls (.int x :: rest)) rfl rfl hd rfl hc ho hp) k
theorem Go.ifNo {cd : ClassFile.Cond} {x : Int32} {o : Int} (X : Stand p l e R s m args below meth c T locs cells slots) (hx : p.tables.exec = Jvm.exec) (hd : decode c.code pc = .ok (.ifCond cd o, 3)) (hc : ifCond.holds cd x = false) (k : Go p e below s T (mkF m (pc + 3) Ls rest) Q kc ks) : Go p e below s T (mkF m pc Ls (.int x :: rest)) Q kc ks :=
  Go.step (fun _ => XS.ifNo X.here hx (g := mkF m pc Ls (.int x :: rest)) rfl hd rfl hc) k
theorem Go.icmpYes {cd : ClassFile.Cond} {x y : Int32} {o : Int} {pc' : Nat} (X : Stand p l e R s m args below meth c T locs cells slots) (hx : p.tables.exec = Jvm.exec) (hd : decode c.code pc = .ok (.if_icmp cd o, 3)) (hc : if_icmp.holds cd x y = true) (ho : 0 ≤ (pc : Int) + o) (hp : ((pc : Int) + o).toNat = pc') (k : Go p e below s T (mkF m pc' Ls rest) Q kc ks) : Go p e below s T (mkF m pc Ls (.int y :: .int x :: rest)) Q kc ks :=
  Go.step (fun _ => XS.icmpYes X.here hx (g := mkF m pc Ls (.int y :: .int x :: rest)) rfl rfl hd rfl hc ho hp) k
theorem Go.icmpNo {cd : ClassFile.Cond} {x y : Int32} {o : Int} (X : Stand p l e R s m args below meth c T locs cells slots) (hx : p.tables.exec = Jvm.exec) (hd : decode c.code pc = .ok (.if_icmp cd o, 3)) (hc : if_icmp.holds cd x y = false) (k : Go p e below s T (mkF m (pc + 3) Ls rest) Q kc ks) : Go p e below s T (mkF m pc Ls (.int y :: .int x :: rest)) Q kc ks :=
  Go.step (fun _ => XS.icmpNo X.here hx (g := mkF m pc Ls (.int y :: .int x :: rest)) rfl hd rfl hc) k
theorem Go.acmpYes {cd : ClassFile.ACond} {x y : Value} {o : Int} {pc' : Nat} (X : Stand p l e R s m args below meth c T locs cells slots) (hx : p.tables.exec = Jvm.exec) (hd : decode c.code pc = .ok (.if_acmp cd o, 3)) (h1 : x.isRef = true) (h2 : y.isRef = true) (hc : XT.acmp cd x y = true) (ho : 0 ≤ (pc : Int) + o) (hp : ((pc : Int) + o).toNat = pc') (k : Go p e below s T (mkF m pc' Ls rest) Q kc ks) : Go p e below s T (mkF m pc Ls (y :: x :: rest)) Q kc ks :=
  Go.step (fun _ => XT.acmpYes X.here hx (g := mkF m pc Ls (y :: x :: rest)) rfl rfl hd rfl h1 h2 hc ho hp) k
theorem Go.acmpNo {cd : ClassFile.ACond} {x y : Value} {o : Int} (X : Stand p l e R s m args below meth c T locs cells slots) (hx : p.tables.exec = Jvm.exec) (hd : decode c.code pc = .ok (.if_acmp cd o, 3)) (h1 : x.isRef = true) (h2 : y.isRef = true) (hc : XT.acmp cd x y = false) (k : Go p e below s T (mkF m (pc + 3) Ls rest) Q kc ks) : Go p e below s T (mkF m pc Ls (y :: x :: rest)) Q kc ks :=
  Go.step (fun _ => XT.acmpNo X.here hx (g := mkF m pc Ls (y :: x :: rest)) rfl hd rfl h1 h2 hc) k
theorem Go.ifnullYes {a : Addr} {o : Int} {pc' : Nat} (X : Stand p l e R s m args below meth c T locs cells slots) (hx : p.tables.exec = Jvm.exec) (hd : decode c.code pc = .ok (.ifnull o, 3)) (ho : 0 ≤ (pc : Int) + o) (hp : ((pc : Int) + o).toNat = pc') (k : Go p e below s T (mkF m pc' Ls rest) Q kc ks) : Go p e below s T (mkF m pc Ls (.null :: rest)) Q kc ks :=
  Go.step (fun _ => XS.ifnullYes X.here hx (g := mkF m pc Ls (.null :: rest)) rfl rfl hd rfl ho hp) k
theorem Go.ifnullNo {a : Addr} {o : Int} (X : Stand p l e R s m args below meth c T locs cells slots) (hx : p.tables.exec = Jvm.exec) (hd : decode c.code pc = .ok (.ifnull o, 3)) (k : Go p e below s T (mkF m (pc + 3) Ls rest) Q kc ks) : Go p e below s T (mkF m pc Ls (.ref a :: rest)) Q kc ks :=
  Go.step (fun _ => XS.ifnullNo X.here hx (g := mkF m pc Ls (.ref a :: rest)) rfl hd rfl) k
theorem Go.ifnonnullYes {a : Addr} {o : Int} {pc' : Nat} (X : Stand p l e R s m args below meth c T locs cells slots) (hx : p.tables.exec = Jvm.exec) (hd : decode c.code pc = .ok (.ifnonnull o, 3)) (ho : 0 ≤ (pc : Int) + o) (hp : ((pc : Int) + o).toNat = pc') (k : Go p e below s T (mkF m pc' Ls rest) Q kc ks) : Go p e below s T (mkF m pc Ls (.ref a :: rest)) Q kc ks :=
  Go.step (fun _ => XT.ifnonnullYes X.here hx (g := mkF m pc Ls (.ref a :: rest)) rfl rfl hd rfl ho hp) k
theorem Go.ifnonnullNo {a : Addr} {o : Int} (X : Stand p l e R s m args below meth c T locs cells slots) (hx : p.tables.exec = Jvm.exec) (hd : decode c.code pc = .ok (.ifnonnull o, 3)) (k : Go p e below s T (mkF m (pc + 3) Ls rest) Q kc ks) : Go p e below s T (mkF m pc Ls (.null :: rest)) Q kc ks :=
  Go.step (fun _ => XT.ifnonnullNo X.here hx (g := mkF m pc Ls (.null :: rest)) rfl hd rfl) k
end Steps
section Conds
variable {x y : Int32} {u v : Int64} {a b : Addr}
theorem ac_eq_p (h : a = b) : XT.acmp .eq (.ref a) (.ref b) = true := by simp [XT.acmp, h]
theorem ac_eq_n (h : ¬ a = b) : XT.acmp .eq (.ref a) (.ref b) = false := by simp [XT.acmp, h]
theorem ac_ne_p (h : a = b) : XT.acmp .ne (.ref a) (.ref b) = false := by simp [XT.acmp, h]
theorem ac_ne_n (h : ¬ a = b) : XT.acmp .ne (.ref a) (.ref b) = true := by simp [XT.acmp, h]
end Conds
end Jvm.OwnK
namespace Jvm.OwnK
open Sem ClassFile Op Lib Jvm.Free Jvm.Stand Jvm.LawKit Jvm.RoadKit
section Heap
variable {p : Program} {l : Launch} {e : Env} {R : Room} {s : State} {m : MethodId} {args : Array Value} {below : List Frame} {meth : Method} {c : Code} {T T' : State} {locs : List Loc} {cells slots : Nat} {Q : Option Value → Heap → List Loc → Prop} {kc ks : Nat} {Z : State} {a0 : Array Value} {h h' : Heap} {pc : Nat} {Ls : Array Slot} {rest : List Value}
theorem Go.getF {own R0 O n d : String} {index : Nat} {a : Addr} {v : Value} (X : Stand p l e R s m args below meth c T locs cells slots) (hx : p.tables.exec = Jvm.exec) (hZ : Z.Warmed39 s.vm) (hown : s.vm.findClass own = some m.cls) (w : (Jvm.Cond.fieldLink own index R0 n d).before a0 Z = true) (via : Via Z R0 O n d) (eT : T.heap = h) (F : Fld Z h a O n d v) (hd : decode c.code pc = .ok (.getfield index, 3))
    (k : ∀ T', Stand p l e R s m args below meth c T' locs cells slots → T'.heap = h → Go p e below s T' (mkF m (pc + 3) Ls (v :: rest)) Q kc ks) : Go p e below s T (mkF m pc Ls (.ref a :: rest)) Q kc ks := by
  obtain ⟨T', X', e', st⟩ := RoadKit.getF X hx hZ hown (host := "") (Or.inl w) via eT F (g := mkF m pc Ls (.ref a :: rest)) rfl rfl hd
  exact Go.step st (k T' X' e')
theorem Go.getS {own R0 O n d : String} {index : Nat} {v : Value} (X : Stand p l e R s m args below meth c T locs cells slots) (hx : p.tables.exec = Jvm.exec) (hZ : Z.Warmed39 s.vm) (hown : s.vm.findClass own = some m.cls) (w : (Jvm.Cond.fieldLink own index R0 n d).before a0 Z = true) (via : Via Z R0 O n d) (eT : T.heap = h) (F : Sta Z h O n d v) (hd : decode c.code pc = .ok (.getstatic index, 3))
    (k : ∀ T', Stand p l e R s m args below meth c T' locs cells slots → T'.heap = h → Go p e below s T' (mkF m (pc + 3) Ls (v :: rest)) Q kc ks) : Go p e below s T (mkF m pc Ls rest) Q kc ks := by
  obtain ⟨T', X', e', st⟩ := RoadKit.getS X hx hZ hown (host := "") w via eT F (g := mkF m pc Ls rest) rfl hd
  exact Go.step st (k T' X' e')
theorem Go.putF {own R0 O n d C : String} {index kk : Nat} {ty : FieldType} {a : Addr} {v old : Value} (X : Stand p l e R s m args below meth c T locs cells slots) (hx : p.tables.exec = Jvm.exec) (hZ : Z.Warmed39 s.vm) (hown : s.vm.findClass own = some m.cls) (w : (Jvm.Cond.fieldLink own index R0 n d).before a0 Z = true) (via : Via Z R0 O n d) (eT : T.heap = h) (F : Fld Z h a O n d old) (E : Exa Z h a C)
    (L : (Jvm.Cond.lays C O n d).before a0 Z = true ∨ ((Jvm.Cond.laysFinal C O n d).before a0 Z = true ∧ own = O ∧ meth.name = "<init>")) (wi : (Jvm.Cond.instantiable C kk).before a0 Z = true) (hty : parseFieldDescriptor d = some ty) (hn : narrow ty v = v) (hf : fits ty v = true) (hd : decode c.code pc = .ok (.putfield index, 3))
    (k : ∀ T' h', Stand p l e R s m args below meth c T' (locs ++ [⟨a, Jvm.RoadKit.slotOf Z O n d⟩]) cells slots → T'.heap = h' → Wr h h' a (Jvm.RoadKit.slotOf Z O n d) v → Go p e below s T' (mkF m (pc + 3) Ls rest) Q kc ks) : Go p e below s T (mkF m pc Ls (v :: .ref a :: rest)) Q kc ks := by
  obtain ⟨T', h', X', e', W, st⟩ := RoadKit.putF X hx hZ hown (host := "") (Or.inl w) via eT F E L wi hty hn hf (g := mkF m pc Ls (v :: .ref a :: rest)) rfl rfl hd
  exact Go.step st (k T' h' X' e' W)
theorem Go.initO {own : String} {idx : Nat} {W : Nat} {a : Addr} (X : Stand p l e R s m args below meth c T locs cells slots) (hx : p.tables.exec = Jvm.exec) (hZ : Z.Warmed39 s.vm) (hown : s.vm.findClass own = some m.cls) (w1 : (Jvm.Cond.methodLink own idx Lib.objectInit).before a0 Z = true) (w2 : (Jvm.Cond.instanceMethod Lib.objectInit).before a0 Z = true)
    (w3 : (Jvm.Cond.code Lib.objectInit ⟨#[0xb1]⟩ 1 none).before a0 Z = true) (eT : T.heap = h) (hd : decode c.code pc = .ok (.invokespecial idx, 3)) (hsize : Ls.size = c.maxLocals) (hW : (rest.map fun v => v.category).sum ≤ W) (hf : 1 ≤ R.frames) (hl : W + 12 ≤ R.locals)
    (k : ∀ T', Stand p l e R s m args below meth c T' locs cells slots → T'.heap = h → Go p e below s T' (mkF m (pc + 3) Ls rest) Q kc ks) : Go p e below s T (mkF m pc Ls (.ref a :: rest)) Q kc ks := by
  obtain ⟨T', X', e', st⟩ := RoadKit.initO X hx hZ hown w1 w2 w3 eT (g := mkF m pc Ls (.ref a :: rest)) rfl hsize rfl hd hf (W := W) (by show 2 * 0 + _ ≤ _; omega) hl
  exact Go.step st (k T' X' e')
theorem Go.newO {own C : String} {index n : Nat} (X : Stand p l e R s m args below meth c T locs cells slots) (hx : p.tables.exec = Jvm.exec) (hZ : Z.Warmed39 s.vm) (hown : s.vm.findClass own = some m.cls) (w : (Jvm.Cond.classLink own index C).before a0 Z = true) (wi : (Jvm.Cond.instantiable C n).before a0 Z = true) (wz : (Jvm.Cond.initialized C).before a0 Z = true) (eT : T.heap = h)
    (hd : decode c.code pc = .ok (.new index, 3)) (hc : cells + 1 ≤ R.cells) (hl : slots + n ≤ R.slots)
    (k : ∀ T' h' a, a = h.size → Stand p l e R s m args below meth c T' locs (cells + 1) (slots + n) → T'.heap = h' → Ext h h' → Exa Z h' a C → (∀ {O nm d : String} {ty : FieldType}, Laid Z a0 C O nm d → parseFieldDescriptor d = some ty → Fld Z h' a O nm d (defaultValue ty)) →
      Go p e below s T' (mkF m (pc + 3) Ls (.ref a :: rest)) Q kc ks) : Go p e below s T (mkF m pc Ls rest) Q kc ks := by
  obtain ⟨T', h', X', e', E, A, D, -, st⟩ := RoadKit.newO X hx hZ hown w wi wz eT (g := mkF m pc Ls rest) rfl hd hc hl
  exact Go.step st (k T' h' _ rfl X' e' E A D)
theorem Go.ccast {own K : String} {index : Nat} {a : Addr} (X : Stand p l e R s m args below meth c T locs cells slots) (hx : p.tables.exec = Jvm.exec) (hZ : Z.Warmed39 s.vm) (hown : s.vm.findClass own = some m.cls) (w : (Jvm.Cond.classLink own index K).before a0 Z = true) (eT : T.heap = h) (F : Ins Z h a K true) (hd : decode c.code pc = .ok (.checkcast index, 3))
    (k : ∀ T', Stand p l e R s m args below meth c T' locs cells slots → T'.heap = h → Go p e below s T' (mkF m (pc + 3) Ls (.ref a :: rest)) Q kc ks) : Go p e below s T (mkF m pc Ls (.ref a :: rest)) Q kc ks := by
  obtain ⟨T', X', e', st⟩ := castY X hx hZ hown w eT F (g := mkF m pc Ls (.ref a :: rest)) rfl rfl hd
  exact Go.step st (k T' X' e')
theorem Go.instY {own K : String} {index : Nat} {a : Addr} (X : Stand p l e R s m args below meth c T locs cells slots) (hx : p.tables.exec = Jvm.exec) (hZ : Z.Warmed39 s.vm) (hown : s.vm.findClass own = some m.cls) (w : (Jvm.Cond.classLink own index K).before a0 Z = true) (eT : T.heap = h) (F : Ins Z h a K true) (hd : decode c.code pc = .ok (.instanceof index, 3))
    (k : ∀ T', Stand p l e R s m args below meth c T' locs cells slots → T'.heap = h → Go p e below s T' (mkF m (pc + 3) Ls (.int 1 :: rest)) Q kc ks) : Go p e below s T (mkF m pc Ls (.ref a :: rest)) Q kc ks := by
  obtain ⟨T', X', e', st⟩ := RoadKit.instY X hx hZ hown w eT F (g := mkF m pc Ls (.ref a :: rest)) rfl rfl hd
  exact Go.step st (k T' X' e')
theorem Go.instNull {index : Nat} (X : Stand p l e R s m args below meth c T locs cells slots) (hx : p.tables.exec = Jvm.exec) (hd : decode c.code pc = .ok (.instanceof index, 3))
    (k : Go p e below s T (mkF m (pc + 3) Ls (.int 0 :: rest)) Q kc ks) : Go p e below s T (mkF m pc Ls (.null :: rest)) Q kc ks :=
  Go.step (X.instanceofNull hx (g := mkF m pc Ls (.null :: rest)) rfl rfl hd) k
theorem Go.instNo {own K C : String} {index : Nat} {a : Addr} (X : Stand p l e R s m args below meth c T locs cells slots) (hx : p.tables.exec = Jvm.exec) (hZ : Z.Warmed39 s.vm) (hown : s.vm.findClass own = some m.cls) (w : (Jvm.Cond.classLink own index K).before a0 Z = true) (eT : T.heap = h) (E : Exa Z h a C) (F : ∃ c t, Z.vm.findClass C = some c ∧ Z.vm.findClass K = some t ∧ Z.vm.assignable c t = false) (hd : decode c.code pc = .ok (.instanceof index, 3))
    (k : ∀ T', Stand p l e R s m args below meth c T' locs cells slots → T'.heap = h → Go p e below s T' (mkF m (pc + 3) Ls (.int 0 :: rest)) Q kc ks) : Go p e below s T (mkF m pc Ls (.ref a :: rest)) Q kc ks := by
  obtain ⟨T', X', e', st⟩ := RoadKit.instNo X hx hZ hown w eT E F (g := mkF m pc Ls (.ref a :: rest)) rfl rfl hd
  exact Go.step st (k T' X' e')
/-- an array: its class, length n, its component i is f i -/
def Af (Z : State) (h : Heap) (a : Addr) (k : ClassId) (ty : FieldType) (n : Nat) (f : Nat → Value) : Prop := ∃ c : Cell, Arr Z h a c ty ∧ c.cls = k ∧ c.slots.size = n ∧ n < 2 ^ 31 ∧ ∀ i, i < n → c.slots[i]? = some (f i)
def updV (f : Nat → Value) (j : Nat) (v : Value) : Nat → Value := fun i => if i = j then v else f i
variable {a b : Addr} {cid : ClassId} {ty : FieldType} {n : Nat} {f f' : Nat → Value} {ws : List Addr} {sl : Nat} {v : Value}
theorem Af.lt (F : Af Z h a cid ty n f) : a < h.size := by obtain ⟨_, A, -⟩ := F; exact A.lt
theorem Af.ext (E : Ext h h') (F : Af Z h a cid ty n f) : Af Z h' a cid ty n f := by obtain ⟨cl, A, r⟩ := F; exact ⟨cl, A.ext E, r⟩
theorem Af.other (W : Wr h h' b sl v) (F : Af Z h a cid ty n f) (q : a ≠ b) : Af Z h' a cid ty n f := by obtain ⟨cl, A, r⟩ := F; exact ⟨cl, A.other W q, r⟩
theorem Af.keep (F : Af Z h a cid ty n f) (K : Keep h h' ws) (q : a ∉ ws) : Af Z h' a cid ty n f := by obtain ⟨cl, A, r⟩ := F; exact ⟨cl, ⟨K.2.1 a cl A.1 q, A.2⟩, r⟩
theorem Af.congr (F : Af Z h a cid ty n f) (q : ∀ i, i < n → f' i = f i) : Af Z h a cid ty n f' := by obtain ⟨cl, A, r1, r2, r3, r4⟩ := F; exact ⟨cl, A, r1, r2, r3, fun i hi => by rw [q i hi]; exact r4 i hi⟩
theorem Af.set (F : Af Z h a cid ty n f) (W : Wr h h' a sl v) : Af Z h' a cid ty n (updV f sl v) := by
  obtain ⟨cl, A, r1, r2, r3, r4⟩ := F
  refine ⟨_, A.same W, r1, by rw [sz_set]; exact r2, r3, fun i hi => ?_⟩
  by_cases q : i = sl
  · subst q; simp [updV, Cell.setSlot, r2, hi]
  · simp only [updV, if_neg q]; rw [← r4 i hi]; simp [Cell.setSlot, Array.getElem?_setIfInBounds, Ne.symm q]
theorem Af.arv (A : Arr Z h a (newA cid ty z) ty) (q : ¬ z < 0) : Af Z h a cid ty z.toNatClampNeg (fun _ => defaultValue ty) :=
  ⟨_, A, rfl, sz_new _ _ _, by have := (back32 q).2; exact this, fun i hi => by simp [newA, hi]⟩
def updI (g : Nat → Int32) (j : Nat) (v : Int32) : Nat → Int32 := fun i => if i = j then v else g i
def updJ (g : Nat → Int64) (j : Nat) (v : Int64) : Nat → Int64 := fun i => if i = j then v else g i
theorem Af.updI {g : Nat → Int32} {j : Nat} {x : Int32} (A : Af Z h a cid ty n (updV (fun i => Value.int (g i)) j (.int x))) : Af Z h a cid ty n (fun i => Value.int (Jvm.OwnK.updI g j x i)) :=
  A.congr fun i _ => by simp only [Jvm.OwnK.updI, updV]; split <;> rfl
theorem Af.updJ {g : Nat → Int64} {j : Nat} {x : Int64} (A : Af Z h a cid ty n (updV (fun i => Value.long (g i)) j (.long x))) : Af Z h a cid ty n (fun i => Value.long (Jvm.OwnK.updJ g j x i)) :=
  A.congr fun i _ => by simp only [Jvm.OwnK.updJ, updV]; split <;> rfl
theorem in_of {cl : Cell} {j : Int32} (r2 : cl.slots.size = n) (h1 : ¬ j < 0) (h2 : j.toNatClampNeg < n) : ¬ (j < 0 ∨ cl.slots.size ≤ j.toNatClampNeg) := fun q => q.elim h1 fun z => by omega
theorem Go.alen (X : Stand p l e R s m args below meth c T locs cells slots) (hx : p.tables.exec = Jvm.exec) (hZ : Z.Warmed39 s.vm) (eT : T.heap = h) (A : Af Z h a cid ty n f) (hd : decode c.code pc = .ok (.arraylength, 1)) (k : Go p e below s T (mkF m (pc + 1) Ls (.int n.toInt32 :: rest)) Q kc ks) : Go p e below s T (mkF m pc Ls (.ref a :: rest)) Q kc ks := by
  obtain ⟨cl, A1, -, r2, -⟩ := A
  subst r2
  exact Go.step (fun target => X.arraylength hx (by rw [eT]; exact A1.1) (State.isArrayOf_alike hZ.alike A1.2.1) (g := mkF m pc Ls (.ref a :: rest)) rfl rfl hd target) k
theorem Go.iaload {j : Int32} (X : Stand p l e R s m args below meth c T locs cells slots) (hx : p.tables.exec = Jvm.exec) (hZ : Z.Warmed39 s.vm) (eT : T.heap = h) (A : Af Z h a cid .int n f) (h1 : ¬ j < 0) (h2 : j.toNatClampNeg < n) (hd : decode c.code pc = .ok (.iaload, 1)) (k : Go p e below s T (mkF m (pc + 1) Ls (f j.toNatClampNeg :: rest)) Q kc ks) : Go p e below s T (mkF m pc Ls (.int j :: .ref a :: rest)) Q kc ks := by
  obtain ⟨cl, A1, -, r2, -, r4⟩ := A
  exact Go.step (fun target => X.iaload hx (by rw [eT]; exact A1.1) (State.isArrayOf_alike hZ.alike A1.2.1) A1.2.2 (in_of r2 h1 h2) (r4 _ h2) (g := mkF m pc Ls (.int j :: .ref a :: rest)) rfl rfl hd target) k
theorem Go.laload {j : Int32} (X : Stand p l e R s m args below meth c T locs cells slots) (hx : p.tables.exec = Jvm.exec) (hZ : Z.Warmed39 s.vm) (eT : T.heap = h) (A : Af Z h a cid .long n f) (h1 : ¬ j < 0) (h2 : j.toNatClampNeg < n) (hd : decode c.code pc = .ok (.laload, 1)) (k : Go p e below s T (mkF m (pc + 1) Ls (f j.toNatClampNeg :: rest)) Q kc ks) : Go p e below s T (mkF m pc Ls (.int j :: .ref a :: rest)) Q kc ks := by
  obtain ⟨cl, A1, -, r2, -, r4⟩ := A
  exact Go.step (fun target => X.laload hx (by rw [eT]; exact A1.1) (State.isArrayOf_alike hZ.alike A1.2.1) A1.2.2 (in_of r2 h1 h2) (r4 _ h2) (g := mkF m pc Ls (.int j :: .ref a :: rest)) rfl rfl hd target) k
theorem Go.caload {j : Int32} (X : Stand p l e R s m args below meth c T locs cells slots) (hx : p.tables.exec = Jvm.exec) (hZ : Z.Warmed39 s.vm) (eT : T.heap = h) (A : Af Z h a cid .char n f) (h1 : ¬ j < 0) (h2 : j.toNatClampNeg < n) (hd : decode c.code pc = .ok (.caload, 1)) (k : Go p e below s T (mkF m (pc + 1) Ls (f j.toNatClampNeg :: rest)) Q kc ks) : Go p e below s T (mkF m pc Ls (.int j :: .ref a :: rest)) Q kc ks := by
  obtain ⟨cl, A1, -, r2, -, r4⟩ := A
  exact Go.step (fun target => X.caload hx (by rw [eT]; exact A1.1) (State.isArrayOf_alike hZ.alike A1.2.1) A1.2.2 (in_of r2 h1 h2) (r4 _ h2) (g := mkF m pc Ls (.int j :: .ref a :: rest)) rfl rfl hd target) k
theorem Go.aaload {j : Int32} (X : Stand p l e R s m args below meth c T locs cells slots) (hx : p.tables.exec = Jvm.exec) (hZ : Z.Warmed39 s.vm) (eT : T.heap = h) (A : Af Z h a cid ty n f) (hty : ty.isReference = true) (h1 : ¬ j < 0) (h2 : j.toNatClampNeg < n) (hd : decode c.code pc = .ok (.aaload, 1)) (k : Go p e below s T (mkF m (pc + 1) Ls (f j.toNatClampNeg :: rest)) Q kc ks) : Go p e below s T (mkF m pc Ls (.int j :: .ref a :: rest)) Q kc ks := by
  obtain ⟨cl, A1, -, r2, -, r4⟩ := A
  exact Go.step (fun target => X.aaload hx (by rw [eT]; exact A1.1) (State.isArrayOf_alike hZ.alike A1.2.1) hty A1.2.2 (in_of r2 h1 h2) (r4 _ h2) (g := mkF m pc Ls (.int j :: .ref a :: rest)) rfl rfl hd target) k
theorem Go.baloadB {j : Int32} (X : Stand p l e R s m args below meth c T locs cells slots) (hx : p.tables.exec = Jvm.exec) (hZ : Z.Warmed39 s.vm) (eT : T.heap = h) (A : Af Z h a cid .byte n f) (h1 : ¬ j < 0) (h2 : j.toNatClampNeg < n) (hd : decode c.code pc = .ok (.baload, 1)) (k : Go p e below s T (mkF m (pc + 1) Ls (f j.toNatClampNeg :: rest)) Q kc ks) : Go p e below s T (mkF m pc Ls (.int j :: .ref a :: rest)) Q kc ks := by
  obtain ⟨cl, A1, -, r2, -, r4⟩ := A
  exact Go.step (fun target => X.baloadBytes hx (by rw [eT]; exact A1.1) (State.isArrayOf_alike hZ.alike A1.2.1) A1.2.2 (in_of r2 h1 h2) (r4 _ h2) (g := mkF m pc Ls (.int j :: .ref a :: rest)) rfl rfl hd target) k
theorem Go.baloadZ {j : Int32} (X : Stand p l e R s m args below meth c T locs cells slots) (hx : p.tables.exec = Jvm.exec) (hZ : Z.Warmed39 s.vm) (eT : T.heap = h) (A : Af Z h a cid .boolean n f) (h1 : ¬ j < 0) (h2 : j.toNatClampNeg < n) (hd : decode c.code pc = .ok (.baload, 1)) (k : Go p e below s T (mkF m (pc + 1) Ls (f j.toNatClampNeg :: rest)) Q kc ks) : Go p e below s T (mkF m pc Ls (.int j :: .ref a :: rest)) Q kc ks := by
  obtain ⟨cl, A1, -, r2, -, r4⟩ := A
  exact Go.step (fun target => X.baloadBooleans hx (by rw [eT]; exact A1.1) (State.isArrayOf_alike hZ.alike A1.2.1) A1.2.2 (in_of r2 h1 h2) (r4 _ h2) (g := mkF m pc Ls (.int j :: .ref a :: rest)) rfl rfl hd target) k
theorem Go.iastore {j x : Int32} (X : Stand p l e R s m args below meth c T locs cells slots) (hx : p.tables.exec = Jvm.exec) (hZ : Z.Warmed39 s.vm) (eT : T.heap = h) (A : Af Z h a cid .int n f) (h1 : ¬ j < 0) (h2 : j.toNatClampNeg < n) (hd : decode c.code pc = .ok (.iastore, 1))
    (k : ∀ T' h', Stand p l e R s m args below meth c T' (locs ++ [⟨a, j.toNatClampNeg⟩]) cells slots → T'.heap = h' → Wr h h' a j.toNatClampNeg (.int x) → Af Z h' a cid .int n (updV f j.toNatClampNeg (.int x)) → Go p e below s T' (mkF m (pc + 1) Ls rest) Q kc ks) : Go p e below s T (mkF m pc Ls (.int x :: .int j :: .ref a :: rest)) Q kc ks := by
  have A' := A
  obtain ⟨cl, A1, -, r2, -, r4⟩ := A
  obtain ⟨T', h', X', e', W, st⟩ := stI X hx hZ eT A1 (in_of r2 h1 h2) (g := mkF m pc Ls (.int x :: .int j :: .ref a :: rest)) rfl rfl hd
  exact Go.step st (k T' h' X' e' W (A'.set W))
theorem Go.lastore {j : Int32} {x : Int64} (X : Stand p l e R s m args below meth c T locs cells slots) (hx : p.tables.exec = Jvm.exec) (hZ : Z.Warmed39 s.vm) (eT : T.heap = h) (A : Af Z h a cid .long n f) (h1 : ¬ j < 0) (h2 : j.toNatClampNeg < n) (hd : decode c.code pc = .ok (.lastore, 1))
    (k : ∀ T' h', Stand p l e R s m args below meth c T' (locs ++ [⟨a, j.toNatClampNeg⟩]) cells slots → T'.heap = h' → Wr h h' a j.toNatClampNeg (.long x) → Af Z h' a cid .long n (updV f j.toNatClampNeg (.long x)) → Go p e below s T' (mkF m (pc + 1) Ls rest) Q kc ks) : Go p e below s T (mkF m pc Ls (.long x :: .int j :: .ref a :: rest)) Q kc ks := by
  have A' := A
  obtain ⟨cl, A1, -, r2, -, r4⟩ := A
  obtain ⟨T', h', X', e', W, st⟩ := stJ X hx hZ eT A1 (in_of r2 h1 h2) (g := mkF m pc Ls (.long x :: .int j :: .ref a :: rest)) rfl rfl hd
  exact Go.step st (k T' h' X' e' W (A'.set W))
theorem Go.bastoreB {j x : Int32} (X : Stand p l e R s m args below meth c T locs cells slots) (hx : p.tables.exec = Jvm.exec) (hZ : Z.Warmed39 s.vm) (eT : T.heap = h) (A : Af Z h a cid .byte n f) (h1 : ¬ j < 0) (h2 : j.toNatClampNeg < n) (hd : decode c.code pc = .ok (.bastore, 1))
    (k : ∀ T' h', Stand p l e R s m args below meth c T' (locs ++ [⟨a, j.toNatClampNeg⟩]) cells slots → T'.heap = h' → Wr h h' a j.toNatClampNeg (.int x.toInt8.toInt32) → Af Z h' a cid .byte n (updV f j.toNatClampNeg (.int x.toInt8.toInt32)) → Go p e below s T' (mkF m (pc + 1) Ls rest) Q kc ks) : Go p e below s T (mkF m pc Ls (.int x :: .int j :: .ref a :: rest)) Q kc ks := by
  have A' := A
  obtain ⟨cl, A1, -, r2, -, r4⟩ := A
  obtain ⟨T', h', X', e', W, st⟩ := stB X hx hZ eT A1 (in_of r2 h1 h2) (g := mkF m pc Ls (.int x :: .int j :: .ref a :: rest)) rfl rfl hd
  exact Go.step st (k T' h' X' e' W (A'.set W))
theorem Go.bastoreZ {j x : Int32} (X : Stand p l e R s m args below meth c T locs cells slots) (hx : p.tables.exec = Jvm.exec) (hZ : Z.Warmed39 s.vm) (eT : T.heap = h) (A : Af Z h a cid .boolean n f) (h1 : ¬ j < 0) (h2 : j.toNatClampNeg < n) (hd : decode c.code pc = .ok (.bastore, 1))
    (k : ∀ T' h', Stand p l e R s m args below meth c T' (locs ++ [⟨a, j.toNatClampNeg⟩]) cells slots → T'.heap = h' → Wr h h' a j.toNatClampNeg (.int (nar .boolean x)) → Af Z h' a cid .boolean n (updV f j.toNatClampNeg (.int (nar .boolean x))) → Go p e below s T' (mkF m (pc + 1) Ls rest) Q kc ks) : Go p e below s T (mkF m pc Ls (.int x :: .int j :: .ref a :: rest)) Q kc ks := by
  have A' := A
  obtain ⟨cl, A1, -, r2, -, r4⟩ := A
  obtain ⟨T', h', X', e', W, st⟩ := stZ X hx hZ eT A1 (in_of r2 h1 h2) (g := mkF m pc Ls (.int x :: .int j :: .ref a :: rest)) rfl rfl hd
  exact Go.step st (k T' h' X' e' W (A'.set W))
theorem Go.castore {j x : Int32} (X : Stand p l e R s m args below meth c T locs cells slots) (hx : p.tables.exec = Jvm.exec) (hZ : Z.Warmed39 s.vm) (eT : T.heap = h) (A : Af Z h a cid .char n f) (h1 : ¬ j < 0) (h2 : j.toNatClampNeg < n) (hd : decode c.code pc = .ok (.castore, 1))
    (k : ∀ T' h', Stand p l e R s m args below meth c T' (locs ++ [⟨a, j.toNatClampNeg⟩]) cells slots → T'.heap = h' → Wr h h' a j.toNatClampNeg (.int (nar .char x)) → Af Z h' a cid .char n (updV f j.toNatClampNeg (.int (nar .char x))) → Go p e below s T' (mkF m (pc + 1) Ls rest) Q kc ks) : Go p e below s T (mkF m pc Ls (.int x :: .int j :: .ref a :: rest)) Q kc ks := by
  have A' := A
  obtain ⟨cl, A1, -, r2, -, r4⟩ := A
  obtain ⟨T', h', X', e', W, st⟩ := stC X hx hZ eT A1 (in_of r2 h1 h2) (g := mkF m pc Ls (.int x :: .int j :: .ref a :: rest)) rfl rfl hd
  exact Go.step st (k T' h' X' e' W (A'.set W))
theorem Go.aastore {j : Int32} {C : String} {y : Addr} (X : Stand p l e R s m args below meth c T locs cells slots) (hx : p.tables.exec = Jvm.exec) (hZ : Z.Warmed39 s.vm) (eT : T.heap = h) (A : Af Z h a cid ty n f) (hty : ty.isReference = true) (O : Ovr Z cid C) (I : Ins Z h y C true) (h1 : ¬ j < 0) (h2 : j.toNatClampNeg < n) (hd : decode c.code pc = .ok (.aastore, 1))
    (k : ∀ T' h', Stand p l e R s m args below meth c T' (locs ++ [⟨a, j.toNatClampNeg⟩]) cells slots → T'.heap = h' → Wr h h' a j.toNatClampNeg (.ref y) → Af Z h' a cid ty n (updV f j.toNatClampNeg (.ref y)) → Go p e below s T' (mkF m (pc + 1) Ls rest) Q kc ks) : Go p e below s T (mkF m pc Ls (.ref y :: .int j :: .ref a :: rest)) Q kc ks := by
  have A' := A
  obtain ⟨cl, A1, r1, r2, -, r4⟩ := A
  obtain ⟨T', h', X', e', W, st⟩ := stR X hx hZ eT A1 (in_of r2 h1 h2) hty (Sto.ofV A1 r1 O I) (g := mkF m pc Ls (.ref y :: .int j :: .ref a :: rest)) rfl rfl hd
  exact Go.step st (k T' h' X' e' W (A'.set W))
theorem Go.newarray {aty : ArrayType} {z : Int32} {cap : Nat} (X : Stand p l e R s m args below meth c T locs cells slots) (hx : p.tables.exec = Jvm.exec) (hZ : Z.Warmed39 s.vm) (w : (Jvm.Cond.arrayClass (newarray.typeOf aty)).before a0 Z = true) (eT : T.heap = h) (hd : decode c.code pc = .ok (.newarray aty, 2)) (hn : ¬ z < 0) (hcap : z.toNatClampNeg ≤ cap) (hb : cap * 8 ≤ 536870912) (hc : cells + 1 ≤ R.cells) (hl : slots + cap ≤ R.slots)
    (k : ∀ T' h' a cA, a = h.size → Stand p l e R s m args below meth c T' locs (cells + 1) (slots + cap) → T'.heap = h' → Ext h h' → Af Z h' a cA (newarray.typeOf aty) z.toNatClampNeg (fun _ => defaultValue (newarray.typeOf aty)) → Go p e below s T' (mkF m (pc + 2) Ls (.ref a :: rest)) Q kc ks) : Go p e below s T (mkF m pc Ls (.int z :: rest)) Q kc ks := by
  obtain ⟨T', h', cA, X', e', E, A, st⟩ := newP X hx hZ w eT (g := mkF m pc Ls (.int z :: rest)) rfl hd rfl hn hcap hb hc hl
  exact Go.step st (k T' h' _ cA rfl X' e' E (Af.arv A hn))
theorem Go.anewarray {own C : String} {index : Nat} {z : Int32} {cap : Nat} (X : Stand p l e R s m args below meth c T locs cells slots) (hx : p.tables.exec = Jvm.exec) (hZ : Z.Warmed39 s.vm) (hown : s.vm.findClass own = some m.cls) (w1 : (Jvm.Cond.classLink own index C).before a0 Z = true) (w2 : (Jvm.Cond.arrayOver (.object C)).before a0 Z = true) (eT : T.heap = h) (hd : decode c.code pc = .ok (.anewarray index, 3)) (hn : ¬ z < 0) (hcap : z.toNatClampNeg ≤ cap) (hb : cap * 8 ≤ 536870912) (hc : cells + 1 ≤ R.cells) (hl : slots + cap ≤ R.slots)
    (k : ∀ T' h' a cA, a = h.size → Stand p l e R s m args below meth c T' locs (cells + 1) (slots + cap) → T'.heap = h' → Ext h h' → Af Z h' a cA (.object C) z.toNatClampNeg (fun _ => .null) → Ovr Z cA C → Go p e below s T' (mkF m (pc + 3) Ls (.ref a :: rest)) Q kc ks) : Go p e below s T (mkF m pc Ls (.int z :: rest)) Q kc ks := by
  obtain ⟨T', h', cA, X', e', E, A, O, st⟩ := newR X hx hZ hown w1 w2 eT (g := mkF m pc Ls (.int z :: rest)) rfl hd rfl hn hcap hb hc hl
  exact Go.step st (k T' h' _ cA rfl X' e' E (Af.arv A hn) O)
theorem Go.clone {own ad : String} {index W cap : Nat} (X : Stand p l e R s m args below meth c T locs cells slots) (hx : p.tables.exec = Jvm.exec) (hZ : Z.Warmed39 s.vm) (hown : s.vm.findClass own = some m.cls)
    (w1 : (Jvm.Cond.methodLink own index ⟨ad, "clone", "()Ljava/lang/Object;"⟩).before a0 Z = true) (w2 : (Jvm.Cond.sameMethod ad "java/lang/Object" "clone" "()Ljava/lang/Object;").before a0 Z = true) (w3 : (Jvm.Cond.native ⟨"java/lang/Object", "clone", "()Ljava/lang/Object;"⟩).before a0 Z = true)
    (w4 : (Jvm.Cond.instanceMethod ⟨"java/lang/Object", "clone", "()Ljava/lang/Object;"⟩).before a0 Z = true) (w5 : (Jvm.Cond.selects ad ⟨ad, "clone", "()Ljava/lang/Object;"⟩ ⟨"java/lang/Object", "clone", "()Ljava/lang/Object;"⟩).before a0 Z = true) (w6 : (Jvm.Cond.castable ad "java/lang/Cloneable").before a0 Z = true)
    (eT : T.heap = h) (A : Af Z h a cid ty n f) (E : Exa Z h a ad) (F : ∀ cl : Cell, h[a]? = some cl → FitC Z cl) (hd : decode c.code pc = .ok (.invokevirtual index, 3)) (hsize : Ls.size = c.maxLocals) (hW : (rest.map fun v => v.category).sum ≤ W) (hf : 1 ≤ R.frames) (hl : W + 14 ≤ R.locals) (hcap : n ≤ cap) (hc : cells + 1 ≤ R.cells) (hsl : slots + cap ≤ R.slots)
    (k : ∀ T' h' b, b = h.size → Stand p l e R s m args below meth c T' locs (cells + 1) (slots + cap) → T'.heap = h' → Ext h h' → Af Z h' b cid ty n f → Exa Z h' b ad → Go p e below s T' (mkF m (pc + 3) Ls (.ref b :: rest)) Q kc ks) : Go p e below s T (mkF m pc Ls (.ref a :: rest)) Q kc ks := by
  obtain ⟨cl, A1, r1, r2, r3, r4⟩ := A
  obtain ⟨T', h', X', e', Ex, A2, E2, st⟩ := cloneA X hx hZ hown w1 w2 w3 w4 w5 w6 eT A1 E (F cl A1.1) (g := mkF m pc Ls (.ref a :: rest)) rfl hsize rfl hd hf (W := W) (cap := cap) (by show 2 * 0 + _ ≤ _; omega) hl (by rw [r2]; exact hcap) hc hsl
  exact Go.step st (k T' h' _ rfl X' e' Ex ⟨_, A2, r1, r2, r3, r4⟩ E2)
/-- the call of a private method by invokevirtual, by its contract -/
theorem Go.callP {own C : String} {index kk : Nat} {y : MethodName} {bytes : ByteArray} {maxL : Nat} {ret : Option FieldType} {rm : Room} {argsL : List Value} {Q' : Option Value → Heap → List Loc → Prop} {W : Nat} {st : List Value}
    (X : Stand p l e R s m args below meth c T locs cells slots) (hx : p.tables.exec = Jvm.exec) (hZ : Z.Warmed39 s.vm) (hown : s.vm.findClass own = some m.cls)
    (w1 : (Jvm.Cond.methodLink own index y).before a0 Z = true) (w2 : (Jvm.Cond.instanceMethod y).before a0 Z = true) (wp : (Jvm.Cond.privateMethod y).before a0 Z = true) (wi : (Jvm.Cond.instantiable y.cls kk).before a0 Z = true) (w3 : (Jvm.Cond.initialized y.cls).before a0 Z = true) (w4 : (Jvm.Cond.code y bytes maxL ret).before a0 Z = true)
    (hy : y.cls ≠ "java/lang/invoke/MethodHandle" ∧ y.cls ≠ "java/lang/invoke/VarHandle") (E : Exa Z h a C) (hM : Met l Z y bytes maxL ret [] rm (.ref a :: argsL).toArray h Q') (eT : T.heap = h)
    (hlen : ∀ sig, parseMethodDescriptor y.desc = some sig → argsL.length = sig.parameters.length) (hd : decode c.code pc = .ok (.invokevirtual index, 3)) (hsize : Ls.size = c.maxLocals) (hst : st = argsL.reverse ++ .ref a :: rest) (hW : (rest.map fun v => v.category).sum ≤ W)
    (hf : rm.frames + 1 ≤ R.frames) (hl : W + (maxL + 11) + rm.locals ≤ R.locals) (hc : cells + rm.cells ≤ R.cells) (hs : slots + rm.slots ≤ R.slots)
    (k : ∀ v T' L, Stand p l e R s m args below meth c T' (locs ++ L) (cells + rm.cells) (slots + rm.slots) → Q' v T'.heap L → Go p e below s T' (mkF m (pc + 3) Ls (v.toList ++ rest)) Q kc ks) : Go p e below s T (mkF m pc Ls st) Q kc ks := by
  have wi' : (Jvm.Cond.instantiable y.cls kk).before args s = true := mvT hZ wi
  obtain ⟨cc, kc', i1, i2, i3, i4, -⟩ := Cond.instantiable_spec wi'
  have ni : kc'.isInterface = false := by revert i4; cases kc'.isInterface <;> simp
  have hp := Cond.privateMethod_at (mvP hZ wp (args := args))
  have hsel := Jvm.Stand.selects_self_of_private i1 i2 ni hp (mvT hZ w2 (args := args)) hy
  obtain ⟨cl, q1, q2⟩ := E.cell
  obtain ⟨v, vm₁, ⟨T1, L1, k1, n1⟩, -, X1, ⟨Lc, hQ1, l1, y1, z1⟩, st1⟩ := X.privateBack hx (y := y) hown (mvT hZ w1) (mvT hZ w2) hsel hp (mvT hZ w4) hy (backOf (W := W) hM hZ w4 w3 hf hl) (g := mkF m pc Ls st) rfl hsize (Steps.refl _) (a := a) (by rw [eT]; exact q1) q2 (argsL := argsL) (rest := rest) hlen hst (by show 2 * 0 + _ ≤ _; omega) hd (fun _ _ => ⟨rfl, eT, hc, hs⟩)
  dsimp only [Pt.U, Pt.locs, Pt.cells, Pt.slots] at X1 l1 y1 z1 st1 hQ1
  subst l1 y1 z1
  exact Go.trans st1 (k v T1 Lc X1 hQ1)
/-- the call of an interface's method, by the contract of the body that the receiver's class selects -/
theorem Go.callN {own C : String} {index count : Nat} {xi y : MethodName} {bytes : ByteArray} {maxL : Nat} {ret : Option FieldType} {rm : Room} {argsL : List Value} {Q' : Option Value → Heap → List Loc → Prop} {W : Nat} {st : List Value}
    (X : Stand p l e R s m args below meth c T locs cells slots) (hx : p.tables.exec = Jvm.exec) (hZ : Z.Warmed39 s.vm) (hown : s.vm.findClass own = some m.cls)
    (w1 : (Jvm.Cond.methodLink own index xi).before a0 Z = true) (w2 : (Jvm.Cond.declares xi).before a0 Z = true) (w5 : (Jvm.Cond.interfaceMethod xi.cls xi.cls xi.name xi.desc).before a0 Z = true) (w6 : (Jvm.Cond.selects C xi y).before a0 Z = true) (w7 : (Jvm.Cond.instanceMethod y).before a0 Z = true) (w8 : (Jvm.Cond.publicMethod y).before a0 Z = true) (w9 : (Jvm.Cond.unhidden C xi.name xi.desc).before a0 Z = true) (w10 : (Jvm.Cond.castable C xi.cls).before a0 Z = true)
    (w3 : (Jvm.Cond.initialized y.cls).before a0 Z = true) (w4 : (Jvm.Cond.code y bytes maxL ret).before a0 Z = true) (hy : xi.cls ≠ "java/lang/invoke/MethodHandle" ∧ xi.cls ≠ "java/lang/invoke/VarHandle") (k5 : ((Jvm.Cond.interfaceMethod xi.cls xi.cls xi.name xi.desc).onTables && (Jvm.Cond.interfaceMethod xi.cls xi.cls xi.name xi.desc).keepsFace) = true) (E : Exa Z h a C) (hM : Met l Z y bytes maxL ret [] rm (.ref a :: argsL).toArray h Q') (eT : T.heap = h)
    (hlen : ∀ sig, parseMethodDescriptor xi.desc = some sig → argsL.length = sig.parameters.length) (hd : decode c.code pc = .ok (.invokeinterface index count, 5)) (hsize : Ls.size = c.maxLocals) (hst : st = argsL.reverse ++ .ref a :: rest) (hW : (rest.map fun v => v.category).sum ≤ W)
    (hf : rm.frames + 1 ≤ R.frames) (hl : W + (maxL + 11) + rm.locals ≤ R.locals) (hc : cells + rm.cells ≤ R.cells) (hs : slots + rm.slots ≤ R.slots)
    (k : ∀ v T' L, Stand p l e R s m args below meth c T' (locs ++ L) (cells + rm.cells) (slots + rm.slots) → Q' v T'.heap L → Go p e below s T' (mkF m (pc + 5) Ls (v.toList ++ rest)) Q kc ks) : Go p e below s T (mkF m pc Ls st) Q kc ks := by
  obtain ⟨cB, kB, q1, q2, q3⟩ := isOf hZ eT E
  obtain ⟨v, vm₁, ⟨T1, L1, k1, n1⟩, -, X1, ⟨Lc, hQ1, l1, y1, z1⟩, st1⟩ := X.interfaceBack hx (xi := xi) (y := y) hown (mvT hZ w1) (mvT hZ w2) (mvT hZ w5 k5) (mvT hZ w6) (mvT hZ w7) (mvT hZ w8) (mvT hZ w9) (mvT hZ w10) hy (backOf (W := W) hM hZ w4 w3 hf hl) q1 q2 q3 (g := mkF m pc Ls st) rfl hsize (Steps.refl _) (argsL := argsL) (rest := rest) hlen hst (by show 2 * 0 + _ ≤ _; omega) hd (fun _ _ => ⟨rfl, eT, hc, hs⟩)
  dsimp only [Pt.U, Pt.locs, Pt.cells, Pt.slots] at X1 l1 y1 z1 st1 hQ1
  subst l1 y1 z1
  exact Go.trans st1 (k v T1 Lc X1 hQ1)
def cpf (f f' : Nat → Value) (sp dp nn : Nat) : Nat → Value := fun i => if dp ≤ i ∧ i < dp + nn then f (sp + (i - dp)) else f' i
theorem getD_range {i : Nat} (hi : i < n) (d : Value) : ((List.range n).map f).getD i d = f i := by simp [List.getD_eq_getElem?_getD, hi]
theorem Af.toArv (F : Af Z h a cid ty n f) (hf : ∀ i, i < n → fits ty (f i) = true) : Arv Z h a cid ty n.toInt32 ((List.range n).map f) .null := by
  obtain ⟨cl, A, r1, r2, r3, r4⟩ := F
  have z : (n.toInt32).toNatClampNeg = n := by simp only [Int32.toNatClampNeg, len_toInt r3]; rfl
  refine ⟨cl, A, r1, by rw [r2, z], ?_, fun i hi => ?_, fun i hi => ?_⟩
  · rw [Int32.lt_iff_toInt_lt, len_toInt r3]; show ¬ (n : Int) < 0; omega
  · rw [getD_range (by omega)]; exact r4 i (by omega)
  · rw [getD_range (by omega)]; exact hf i (by omega)
theorem Af.ofArv {z : Int32} {vs : List Value} {d : Value} (F : Arv Z h a cid ty z vs d) : Af Z h a cid ty z.toNatClampNeg (fun i => vs.getD i d) := by
  obtain ⟨cl, A, r1, r2, r3, H, G⟩ := F
  exact ⟨cl, A, r1, r2, (back32 r3).2, fun i hi => H i (by omega)⟩
theorem cp_at {n' sp dp nn i : Nat} (hi : i < n') (h4 : sp + nn ≤ n) (h5 : dp + nn ≤ n') :
    ((((List.range n').map f').take dp) ++ ((List.range nn).map fun i => ((List.range n).map f).getD (sp + i) .null) ++ (((List.range n').map f').drop (dp + nn))).getD i .null = cpf f f' sp dp nn i := by
  have lt : (((List.range n').map f').take dp).length = dp := by simp; omega
  have lu : ((List.range nn).map fun i => ((List.range n).map f).getD (sp + i) .null).length = nn := by simp
  rw [List.getD_eq_getElem?_getD]
  unfold cpf
  by_cases h1 : i < dp
  · rw [List.append_assoc, List.getElem?_append_left (by omega), if_neg (by omega)]
    simp [List.getElem?_take, h1, hi]
  · by_cases h2 : i < dp + nn
    · rw [List.getElem?_append_left (by rw [List.length_append]; omega), List.getElem?_append_right (by omega), if_pos ⟨by omega, h2⟩, lt]
      have h3 : i - dp < nn := by omega
      have h6 : sp + (i - dp) < n := by omega
      simp [h3, List.getD_eq_getElem?_getD, h6]
    · rw [List.getElem?_append_right (by rw [List.length_append]; omega), if_neg (by omega), List.length_append, lt, lu]
      have h3 : dp + nn + (i - (dp + nn)) = i := by omega
      simp [List.getElem?_drop, h3, hi]
theorem Go.acopy {own : String} {index W n0 n' : Nat} {b : Addr} {cid' : ClassId} {sp dp nn : Int32} (X : Stand p l e R s m args below meth c T locs cells slots) (hx : p.tables.exec = Jvm.exec) (hZ : Z.Warmed39 s.vm) (hown : s.vm.findClass own = some m.cls)
    (w1 : (Jvm.Cond.methodLink own index ⟨"java/lang/System", "arraycopy", "(Ljava/lang/Object;ILjava/lang/Object;II)V"⟩).before a0 Z = true) (w2 : (Jvm.Cond.native ⟨"java/lang/System", "arraycopy", "(Ljava/lang/Object;ILjava/lang/Object;II)V"⟩).before a0 Z = true) (w3 : (Jvm.Cond.static ⟨"java/lang/System", "arraycopy", "(Ljava/lang/Object;ILjava/lang/Object;II)V"⟩).before a0 Z = true) (w4 : (Jvm.Cond.initialized "java/lang/System").before a0 Z = true)
    (eT : T.heap = h) (A : Af Z h a cid ty n f) (B : Af Z h b cid' ty n' f') (hty : refKind ty = false) (hfa : ∀ i, i < n → fits ty (f i) = true) (hfb : ∀ i, i < n' → fits ty (f' i) = true) (h1 : ¬ sp < 0) (h2 : ¬ dp < 0) (h3 : ¬ nn < 0) (h4 : sp.toNatClampNeg + nn.toNatClampNeg ≤ n) (h5 : dp.toNatClampNeg + nn.toNatClampNeg ≤ n')
    (N : Fr n0 locs) (ge : n0 ≤ b) (hd : decode c.code pc = .ok (.invokestatic index, 3)) (hsize : Ls.size = c.maxLocals) (hW : (rest.map fun v => v.category).sum ≤ W) (hf : 1 ≤ R.frames) (hl : W + 18 ≤ R.locals)
    (k : ∀ T' h' L, Stand p l e R s m args below meth c T' L cells slots → T'.heap = h' → Fr n0 L → Keep h h' [b] → Af Z h' b cid' ty n' (cpf f f' sp.toNatClampNeg dp.toNatClampNeg nn.toNatClampNeg) → Go p e below s T' (mkF m (pc + 3) Ls rest) Q kc ks) : Go p e below s T (mkF m pc Ls (.int nn :: .int dp :: .ref b :: .int sp :: .ref a :: rest)) Q kc ks := by
  have za : (n.toInt32).toNatClampNeg = n := by obtain ⟨_, _, _, _, r3, _⟩ := A; simp only [Int32.toNatClampNeg, len_toInt r3]; rfl
  have zb : (n'.toInt32).toNatClampNeg = n' := by obtain ⟨_, _, _, _, r3, _⟩ := B; simp only [Int32.toNatClampNeg, len_toInt r3]; rfl
  obtain ⟨T', h', L, X', e', NL, K, V, st⟩ := cpA X hx hZ hown w1 w2 w3 w4 eT (A.toArv hfa) (B.toArv hfb) (Or.inl ⟨rfl, hty⟩) h1 h2 h3 (by rw [za]; exact h4) (by rw [zb]; exact h5) rfl (by simp; exact h5) N ge (g := mkF m pc Ls (.int nn :: .int dp :: .ref b :: .int sp :: .ref a :: rest)) rfl hsize rfl hd hf (W := W) (by show 2 * 0 + _ ≤ _; omega) (by show W + (7 + 11) ≤ _; omega)
  have V' := Af.ofArv V
  rw [zb] at V'
  exact Go.step st (k T' h' L X' e' NL K (V'.congr fun i hi => (cp_at hi h4 h5).symm))
theorem Keep.wr1 {ha hb hc : Heap} {ws : List Addr} {a : Addr} {sl : Nat} {v : Value} (K : Keep ha hb ws) (W : Wr hb hc a sl v) (q : a ∈ ws ∨ ha.size ≤ a) : Keep ha hc ws := Jvm.RoadKit.Keep.wr K W q
end Heap
end Jvm.OwnK
namespace Jvm.OwnK
open Sem ClassFile Op Lib Jvm.Free Jvm.Stand Jvm.LawKit Jvm.RoadKit
section Start
variable {s : State} {args : Array Value}
theorem st_static {C f d K : String} (h : (Jvm.Cond.exactly (Jvm.Term.static C f d) K).value args s none s [] = some true) (hi : (Jvm.Cond.initializedFor C f d).before args s = true ∨ ((Jvm.Cond.initialized C).before args s = true ∧ (Jvm.Cond.laysStatic C f d).before args s = true)) :
    ∃ g, (Jvm.Term.static C f d).eval args s none [] s = some (.ref g) ∧ Sta s s.heap C f d (.ref g) ∧ Exa s s.heap g K := by
  obtain ⟨g, eg⟩ := exa_v h
  exact ⟨g, eg, Sta.start eg hi, Exa.start eg h⟩
theorem st_int {t : Jvm.Term} {k : Int32} (h : (Jvm.Cond.eq t (.int k)).value args s none s [] = some true) : t.eval args s none [] s = some (.int k) := by
  obtain ⟨x, y, ha, hb, k1, k2⟩ := cmp_v (Or.inl h)
  have hb' : (Jvm.Term.int k).eval args s none [] s = some (.int k) := Term.int_eval k
  cases hb.symm.trans hb'
  obtain ⟨z, rfl⟩ := k2
  have q := gotT (Cond.eq_ints ha hb') h
  rw [ha, q]
theorem st_ref {t u : Jvm.Term} {g : Addr} (h : (Jvm.Cond.eq t u).value args s none s [] = some true) (hu : u.eval args s none [] s = some (.ref g)) : t.eval args s none [] s = some (.ref g) := by
  obtain ⟨x, y, ha, hb, k1, k2⟩ := cmp_v (Or.inl h)
  cases hb.symm.trans hu
  have hx : x.isRef = true := k2.2
  have q := gotT (eq_R ha hu hx rfl) h
  rw [ha, q]
theorem st_fieldI {t : Jvm.Term} {a : Addr} {C n d : String} {k : Int32} (ev : t.eval args s none [] s = some (.ref a)) (h : (Jvm.Cond.eq (.field t C n d) (.int k)).value args s none s [] = some true) : Fld s s.heap a C n d (.int k) :=
  Fld.start (by rw [← fld_at ev]; exact st_int h)
theorem st_fieldR {t : Jvm.Term} {a : Addr} {C n d K : String} (ev : t.eval args s none [] s = some (.ref a)) (h : (Jvm.Cond.exactly (.field t C n d) K).value args s none s [] = some true) :
    ∃ g, (Jvm.Term.field t C n d).eval args s none [] s = some (.ref g) ∧ Fld s s.heap a C n d (.ref g) ∧ Exa s s.heap g K := by
  obtain ⟨g, eg⟩ := exa_v h
  exact ⟨g, eg, Fld.start (by rw [← fld_at ev]; exact eg), Exa.start eg h⟩
/-- an array that stood before the law, with its length -/
theorem st_arr {t : Jvm.Term} {a : Addr} {ty : FieldType} {k : Int32} {n : Nat} (ev : t.eval args s none [] s = some (.ref a)) (h : (Jvm.Cond.arrayOf t ty).value args s none s [] = some true) (hl : (Jvm.Cond.eq (.length t) (.int k)).value args s none s [] = some true) (hk : k = n.toInt32) (hn : n < 2 ^ 31) :
    ∃ c : Cell, s.heap[a]? = some c ∧ Af s s.heap a c.cls ty n (fun i => (c.slots[i]?).getD .null) := by
  obtain ⟨c, A⟩ := Arr.start ev h
  have e1 := st_int hl
  obtain ⟨a', cell, g1, g2, g5, g3⟩ := Jvm.Lib.length_spec e1
  cases ev.symm.trans g1
  have g4 : s.arrayAt? a = some c := A.fin (Vm.Alike.refl _)
  cases g4.symm.trans g2
  injection g3 with g3
  have g6 : c.slots.size = n := by
    have q : (c.slots.size.toInt32).toInt = (n.toInt32).toInt := by rw [← g3, hk]
    rw [len_toInt g5, len_toInt hn] at q
    omega
  refine ⟨c, A.1, c, A, rfl, g6, hn, fun i hi => ?_⟩
  have q : i < c.slots.size := by omega
  simp [Array.getElem?_eq_getElem q]
theorem st_elem {t : Jvm.Term} {a : Addr} {j : Int32} {c : Cell} {v : Value} (ev : t.eval args s none [] s = some (.ref a)) (hc : s.heap[a]? = some c) (h : (Jvm.Term.elem t (.int j)).eval args s none [] s = some v) : (c.slots[j.toNatClampNeg]?).getD .null = v := by
  have q := (elem_in h ev (Term.int_eval j) hc).2
  rw [q]; rfl
theorem Af.known {Z : State} {h : Heap} {a : Addr} {cid : ClassId} {ty : FieldType} {n j : Nat} {f : Nat → Value} {v : Value} (F : Af Z h a cid ty n f) (q : f j = v) : Af Z h a cid ty n (updV f j v) := F.congr fun i _ => by
  by_cases e : i = j
  · subst e; simp [updV, q]
  · simp [updV, e]
end Start
end Jvm.OwnK
namespace Jvm.Pilot.@@N@@
open Jvm Jvm.ClassFile Sem Op Lib Jvm.Free Jvm.Stand Jvm.LawKit Jvm.RoadKit Jvm.OwnK Bundle Jvm.Pilot.@@N@@.Jvm.D
theorem w0 {Z : State} {a0 : Array Value} (hw : ∀ d ∈ tables_1, d.before a0 Z = true) : (Jvm.Cond.classLink "com/example/branchwise/branchwise/model/OperatorIsLogicalPinLaw" (7 : Nat) "com/example/branchwise/branchwise/model/Operator").before a0 Z = true := hw _ (List.mem_of_getElem? (i := 0) rfl)
theorem w1 {Z : State} {a0 : Array Value} (hw : ∀ d ∈ tables_1, d.before a0 Z = true) : (Jvm.Cond.arrayOver (Jvm.ClassFile.FieldType.object "com/example/branchwise/branchwise/model/Operator")).before a0 Z = true := hw _ (List.mem_of_getElem? (i := 1) rfl)
theorem w2 {Z : State} {a0 : Array Value} (hw : ∀ d ∈ tables_1, d.before a0 Z = true) : (Jvm.Cond.fieldLink "com/example/branchwise/branchwise/model/OperatorIsLogicalPinLaw" (9 : Nat) "com/example/branchwise/branchwise/model/Operator" "NEG" "Lcom/example/branchwise/branchwise/model/Operator;").before a0 Z = true := hw _ (List.mem_of_getElem? (i := 2) rfl)
theorem w3 {Z : State} {a0 : Array Value} (hw : ∀ d ∈ tables_1, d.before a0 Z = true) : (Jvm.Cond.initialized "com/example/branchwise/branchwise/model/Operator").before a0 Z = true := hw _ (List.mem_of_getElem? (i := 3) rfl)
theorem w4 {Z : State} {a0 : Array Value} (hw : ∀ d ∈ tables_1, d.before a0 Z = true) : (Jvm.Cond.laysStatic "com/example/branchwise/branchwise/model/Operator" "NEG" "Lcom/example/branchwise/branchwise/model/Operator;").before a0 Z = true := hw _ (List.mem_of_getElem? (i := 4) rfl)
theorem w6 {Z : State} {a0 : Array Value} (hw : ∀ d ∈ tables_1, d.before a0 Z = true) : (Jvm.Cond.fieldLink "com/example/branchwise/branchwise/model/OperatorIsLogicalPinLaw" (13 : Nat) "com/example/branchwise/branchwise/model/Operator" "ABS" "Lcom/example/branchwise/branchwise/model/Operator;").before a0 Z = true := hw _ (List.mem_of_getElem? (i := 6) rfl)
theorem w7 {Z : State} {a0 : Array Value} (hw : ∀ d ∈ tables_1, d.before a0 Z = true) : (Jvm.Cond.laysStatic "com/example/branchwise/branchwise/model/Operator" "ABS" "Lcom/example/branchwise/branchwise/model/Operator;").before a0 Z = true := hw _ (List.mem_of_getElem? (i := 7) rfl)
theorem w8 {Z : State} {a0 : Array Value} (hw : ∀ d ∈ tables_1, d.before a0 Z = true) : (Jvm.Cond.fieldLink "com/example/branchwise/branchwise/model/OperatorIsLogicalPinLaw" (16 : Nat) "com/example/branchwise/branchwise/model/Operator" "SQR" "Lcom/example/branchwise/branchwise/model/Operator;").before a0 Z = true := hw _ (List.mem_of_getElem? (i := 8) rfl)
theorem w9 {Z : State} {a0 : Array Value} (hw : ∀ d ∈ tables_1, d.before a0 Z = true) : (Jvm.Cond.laysStatic "com/example/branchwise/branchwise/model/Operator" "SQR" "Lcom/example/branchwise/branchwise/model/Operator;").before a0 Z = true := hw _ (List.mem_of_getElem? (i := 9) rfl)
theorem w10 {Z : State} {a0 : Array Value} (hw : ∀ d ∈ tables_1, d.before a0 Z = true) : (Jvm.Cond.fieldLink "com/example/branchwise/branchwise/model/OperatorIsLogicalPinLaw" (19 : Nat) "com/example/branchwise/branchwise/model/Operator" "ADD" "Lcom/example/branchwise/branchwise/model/Operator;").before a0 Z = true := hw _ (List.mem_of_getElem? (i := 10) rfl)
theorem w11 {Z : State} {a0 : Array Value} (hw : ∀ d ∈ tables_1, d.before a0 Z = true) : (Jvm.Cond.laysStatic "com/example/branchwise/branchwise/model/Operator" "ADD" "Lcom/example/branchwise/branchwise/model/Operator;").before a0 Z = true := hw _ (List.mem_of_getElem? (i := 11) rfl)
theorem w12 {Z : State} {a0 : Array Value} (hw : ∀ d ∈ tables_1, d.before a0 Z = true) : (Jvm.Cond.fieldLink "com/example/branchwise/branchwise/model/OperatorIsLogicalPinLaw" (22 : Nat) "com/example/branchwise/branchwise/model/Operator" "SUB" "Lcom/example/branchwise/branchwise/model/Operator;").before a0 Z = true := hw _ (List.mem_of_getElem? (i := 12) rfl)
theorem w13 {Z : State} {a0 : Array Value} (hw : ∀ d ∈ tables_1, d.before a0 Z = true) : (Jvm.Cond.laysStatic "com/example/branchwise/branchwise/model/Operator" "SUB" "Lcom/example/branchwise/branchwise/model/Operator;").before a0 Z = true := hw _ (List.mem_of_getElem? (i := 13) rfl)
theorem w14 {Z : State} {a0 : Array Value} (hw : ∀ d ∈ tables_1, d.before a0 Z = true) : (Jvm.Cond.fieldLink "com/example/branchwise/branchwise/model/OperatorIsLogicalPinLaw" (25 : Nat) "com/example/branchwise/branchwise/model/Operator" "MUL" "Lcom/example/branchwise/branchwise/model/Operator;").before a0 Z = true := hw _ (List.mem_of_getElem? (i := 14) rfl)
theorem w15 {Z : State} {a0 : Array Value} (hw : ∀ d ∈ tables_1, d.before a0 Z = true) : (Jvm.Cond.laysStatic "com/example/branchwise/branchwise/model/Operator" "MUL" "Lcom/example/branchwise/branchwise/model/Operator;").before a0 Z = true := hw _ (List.mem_of_getElem? (i := 15) rfl)
theorem w16 {Z : State} {a0 : Array Value} (hw : ∀ d ∈ tables_1, d.before a0 Z = true) : (Jvm.Cond.fieldLink "com/example/branchwise/branchwise/model/OperatorIsLogicalPinLaw" (28 : Nat) "com/example/branchwise/branchwise/model/Operator" "DIV" "Lcom/example/branchwise/branchwise/model/Operator;").before a0 Z = true := hw _ (List.mem_of_getElem? (i := 16) rfl)
theorem w17 {Z : State} {a0 : Array Value} (hw : ∀ d ∈ tables_1, d.before a0 Z = true) : (Jvm.Cond.laysStatic "com/example/branchwise/branchwise/model/Operator" "DIV" "Lcom/example/branchwise/branchwise/model/Operator;").before a0 Z = true := hw _ (List.mem_of_getElem? (i := 17) rfl)
theorem w18 {Z : State} {a0 : Array Value} (hw : ∀ d ∈ tables_1, d.before a0 Z = true) : (Jvm.Cond.fieldLink "com/example/branchwise/branchwise/model/OperatorIsLogicalPinLaw" (31 : Nat) "com/example/branchwise/branchwise/model/Operator" "MOD" "Lcom/example/branchwise/branchwise/model/Operator;").before a0 Z = true := hw _ (List.mem_of_getElem? (i := 18) rfl)
theorem w19 {Z : State} {a0 : Array Value} (hw : ∀ d ∈ tables_1, d.before a0 Z = true) : (Jvm.Cond.laysStatic "com/example/branchwise/branchwise/model/Operator" "MOD" "Lcom/example/branchwise/branchwise/model/Operator;").before a0 Z = true := hw _ (List.mem_of_getElem? (i := 19) rfl)
theorem w20 {Z : State} {a0 : Array Value} (hw : ∀ d ∈ tables_1, d.before a0 Z = true) : (Jvm.Cond.fieldLink "com/example/branchwise/branchwise/model/OperatorIsLogicalPinLaw" (34 : Nat) "com/example/branchwise/branchwise/model/Operator" "POW" "Lcom/example/branchwise/branchwise/model/Operator;").before a0 Z = true := hw _ (List.mem_of_getElem? (i := 20) rfl)
theorem w21 {Z : State} {a0 : Array Value} (hw : ∀ d ∈ tables_1, d.before a0 Z = true) : (Jvm.Cond.laysStatic "com/example/branchwise/branchwise/model/Operator" "POW" "Lcom/example/branchwise/branchwise/model/Operator;").before a0 Z = true := hw _ (List.mem_of_getElem? (i := 21) rfl)
theorem w22 {Z : State} {a0 : Array Value} (hw : ∀ d ∈ tables_1, d.before a0 Z = true) : (Jvm.Cond.fieldLink "com/example/branchwise/branchwise/model/OperatorIsLogicalPinLaw" (37 : Nat) "com/example/branchwise/branchwise/model/Operator" "MIN" "Lcom/example/branchwise/branchwise/model/Operator;").before a0 Z = true := hw _ (List.mem_of_getElem? (i := 22) rfl)
theorem w23 {Z : State} {a0 : Array Value} (hw : ∀ d ∈ tables_1, d.before a0 Z = true) : (Jvm.Cond.laysStatic "com/example/branchwise/branchwise/model/Operator" "MIN" "Lcom/example/branchwise/branchwise/model/Operator;").before a0 Z = true := hw _ (List.mem_of_getElem? (i := 23) rfl)
theorem w24 {Z : State} {a0 : Array Value} (hw : ∀ d ∈ tables_1, d.before a0 Z = true) : (Jvm.Cond.fieldLink "com/example/branchwise/branchwise/model/OperatorIsLogicalPinLaw" (40 : Nat) "com/example/branchwise/branchwise/model/Operator" "MAX" "Lcom/example/branchwise/branchwise/model/Operator;").before a0 Z = true := hw _ (List.mem_of_getElem? (i := 24) rfl)
theorem w25 {Z : State} {a0 : Array Value} (hw : ∀ d ∈ tables_1, d.before a0 Z = true) : (Jvm.Cond.laysStatic "com/example/branchwise/branchwise/model/Operator" "MAX" "Lcom/example/branchwise/branchwise/model/Operator;").before a0 Z = true := hw _ (List.mem_of_getElem? (i := 25) rfl)
theorem w26 {Z : State} {a0 : Array Value} (hw : ∀ d ∈ tables_1, d.before a0 Z = true) : (Jvm.Cond.fieldLink "com/example/branchwise/branchwise/model/OperatorIsLogicalPinLaw" (43 : Nat) "com/example/branchwise/branchwise/model/Operator" "DIST" "Lcom/example/branchwise/branchwise/model/Operator;").before a0 Z = true := hw _ (List.mem_of_getElem? (i := 26) rfl)
theorem w27 {Z : State} {a0 : Array Value} (hw : ∀ d ∈ tables_1, d.before a0 Z = true) : (Jvm.Cond.laysStatic "com/example/branchwise/branchwise/model/Operator" "DIST" "Lcom/example/branchwise/branchwise/model/Operator;").before a0 Z = true := hw _ (List.mem_of_getElem? (i := 27) rfl)
theorem w28 {Z : State} {a0 : Array Value} (hw : ∀ d ∈ tables_1, d.before a0 Z = true) : (Jvm.Cond.fieldLink "com/example/branchwise/branchwise/model/OperatorIsLogicalPinLaw" (46 : Nat) "com/example/branchwise/branchwise/model/Operator" "LT" "Lcom/example/branchwise/branchwise/model/Operator;").before a0 Z = true := hw _ (List.mem_of_getElem? (i := 28) rfl)
theorem w29 {Z : State} {a0 : Array Value} (hw : ∀ d ∈ tables_1, d.before a0 Z = true) : (Jvm.Cond.laysStatic "com/example/branchwise/branchwise/model/Operator" "LT" "Lcom/example/branchwise/branchwise/model/Operator;").before a0 Z = true := hw _ (List.mem_of_getElem? (i := 29) rfl)
theorem w30 {Z : State} {a0 : Array Value} (hw : ∀ d ∈ tables_1, d.before a0 Z = true) : (Jvm.Cond.fieldLink "com/example/branchwise/branchwise/model/OperatorIsLogicalPinLaw" (49 : Nat) "com/example/branchwise/branchwise/model/Operator" "LE" "Lcom/example/branchwise/branchwise/model/Operator;").before a0 Z = true := hw _ (List.mem_of_getElem? (i := 30) rfl)
theorem w31 {Z : State} {a0 : Array Value} (hw : ∀ d ∈ tables_1, d.before a0 Z = true) : (Jvm.Cond.laysStatic "com/example/branchwise/branchwise/model/Operator" "LE" "Lcom/example/branchwise/branchwise/model/Operator;").before a0 Z = true := hw _ (List.mem_of_getElem? (i := 31) rfl)
theorem w32 {Z : State} {a0 : Array Value} (hw : ∀ d ∈ tables_1, d.before a0 Z = true) : (Jvm.Cond.fieldLink "com/example/branchwise/branchwise/model/OperatorIsLogicalPinLaw" (52 : Nat) "com/example/branchwise/branchwise/model/Operator" "GE" "Lcom/example/branchwise/branchwise/model/Operator;").before a0 Z = true := hw _ (List.mem_of_getElem? (i := 32) rfl)
theorem w33 {Z : State} {a0 : Array Value} (hw : ∀ d ∈ tables_1, d.before a0 Z = true) : (Jvm.Cond.laysStatic "com/example/branchwise/branchwise/model/Operator" "GE" "Lcom/example/branchwise/branchwise/model/Operator;").before a0 Z = true := hw _ (List.mem_of_getElem? (i := 33) rfl)
theorem w34 {Z : State} {a0 : Array Value} (hw : ∀ d ∈ tables_1, d.before a0 Z = true) : (Jvm.Cond.fieldLink "com/example/branchwise/branchwise/model/OperatorIsLogicalPinLaw" (55 : Nat) "com/example/branchwise/branchwise/model/Operator" "GT" "Lcom/example/branchwise/branchwise/model/Operator;").before a0 Z = true := hw _ (List.mem_of_getElem? (i := 34) rfl)
theorem w35 {Z : State} {a0 : Array Value} (hw : ∀ d ∈ tables_1, d.before a0 Z = true) : (Jvm.Cond.laysStatic "com/example/branchwise/branchwise/model/Operator" "GT" "Lcom/example/branchwise/branchwise/model/Operator;").before a0 Z = true := hw _ (List.mem_of_getElem? (i := 35) rfl)
theorem w36 {Z : State} {a0 : Array Value} (hw : ∀ d ∈ tables_1, d.before a0 Z = true) : (Jvm.Cond.fieldLink "com/example/branchwise/branchwise/model/OperatorIsLogicalPinLaw" (58 : Nat) "com/example/branchwise/branchwise/model/Operator" "NE" "Lcom/example/branchwise/branchwise/model/Operator;").before a0 Z = true := hw _ (List.mem_of_getElem? (i := 36) rfl)
theorem w37 {Z : State} {a0 : Array Value} (hw : ∀ d ∈ tables_1, d.before a0 Z = true) : (Jvm.Cond.laysStatic "com/example/branchwise/branchwise/model/Operator" "NE" "Lcom/example/branchwise/branchwise/model/Operator;").before a0 Z = true := hw _ (List.mem_of_getElem? (i := 37) rfl)
theorem w38 {Z : State} {a0 : Array Value} (hw : ∀ d ∈ tables_1, d.before a0 Z = true) : (Jvm.Cond.fieldLink "com/example/branchwise/branchwise/model/OperatorIsLogicalPinLaw" (61 : Nat) "com/example/branchwise/branchwise/model/Operator" "EQ" "Lcom/example/branchwise/branchwise/model/Operator;").before a0 Z = true := hw _ (List.mem_of_getElem? (i := 38) rfl)
theorem w39 {Z : State} {a0 : Array Value} (hw : ∀ d ∈ tables_1, d.before a0 Z = true) : (Jvm.Cond.laysStatic "com/example/branchwise/branchwise/model/Operator" "EQ" "Lcom/example/branchwise/branchwise/model/Operator;").before a0 Z = true := hw _ (List.mem_of_getElem? (i := 39) rfl)
theorem w40 {Z : State} {a0 : Array Value} (hw : ∀ d ∈ tables_1, d.before a0 Z = true) : (Jvm.Cond.fieldLink "com/example/branchwise/branchwise/model/OperatorIsLogicalPinLaw" (64 : Nat) "com/example/branchwise/branchwise/model/Operator" "IN" "Lcom/example/branchwise/branchwise/model/Operator;").before a0 Z = true := hw _ (List.mem_of_getElem? (i := 40) rfl)
theorem w41 {Z : State} {a0 : Array Value} (hw : ∀ d ∈ tables_1, d.before a0 Z = true) : (Jvm.Cond.laysStatic "com/example/branchwise/branchwise/model/Operator" "IN" "Lcom/example/branchwise/branchwise/model/Operator;").before a0 Z = true := hw _ (List.mem_of_getElem? (i := 41) rfl)
theorem w42 {Z : State} {a0 : Array Value} (hw : ∀ d ∈ tables_1, d.before a0 Z = true) : (Jvm.Cond.fieldLink "com/example/branchwise/branchwise/model/OperatorIsLogicalPinLaw" (67 : Nat) "com/example/branchwise/branchwise/model/Operator" "NOTIN" "Lcom/example/branchwise/branchwise/model/Operator;").before a0 Z = true := hw _ (List.mem_of_getElem? (i := 42) rfl)
theorem w43 {Z : State} {a0 : Array Value} (hw : ∀ d ∈ tables_1, d.before a0 Z = true) : (Jvm.Cond.laysStatic "com/example/branchwise/branchwise/model/Operator" "NOTIN" "Lcom/example/branchwise/branchwise/model/Operator;").before a0 Z = true := hw _ (List.mem_of_getElem? (i := 43) rfl)
theorem w44 {Z : State} {a0 : Array Value} (hw : ∀ d ∈ tables_1, d.before a0 Z = true) : (Jvm.Cond.fieldLink "com/example/branchwise/branchwise/model/OperatorIsLogicalPinLaw" (70 : Nat) "com/example/branchwise/branchwise/model/Operator" "NOT" "Lcom/example/branchwise/branchwise/model/Operator;").before a0 Z = true := hw _ (List.mem_of_getElem? (i := 44) rfl)
theorem w45 {Z : State} {a0 : Array Value} (hw : ∀ d ∈ tables_1, d.before a0 Z = true) : (Jvm.Cond.laysStatic "com/example/branchwise/branchwise/model/Operator" "NOT" "Lcom/example/branchwise/branchwise/model/Operator;").before a0 Z = true := hw _ (List.mem_of_getElem? (i := 45) rfl)
theorem w46 {Z : State} {a0 : Array Value} (hw : ∀ d ∈ tables_1, d.before a0 Z = true) : (Jvm.Cond.fieldLink "com/example/branchwise/branchwise/model/OperatorIsLogicalPinLaw" (73 : Nat) "com/example/branchwise/branchwise/model/Operator" "AND" "Lcom/example/branchwise/branchwise/model/Operator;").before a0 Z = true := hw _ (List.mem_of_getElem? (i := 46) rfl)
theorem w47 {Z : State} {a0 : Array Value} (hw : ∀ d ∈ tables_1, d.before a0 Z = true) : (Jvm.Cond.laysStatic "com/example/branchwise/branchwise/model/Operator" "AND" "Lcom/example/branchwise/branchwise/model/Operator;").before a0 Z = true := hw _ (List.mem_of_getElem? (i := 47) rfl)
theorem w48 {Z : State} {a0 : Array Value} (hw : ∀ d ∈ tables_1, d.before a0 Z = true) : (Jvm.Cond.fieldLink "com/example/branchwise/branchwise/model/OperatorIsLogicalPinLaw" (76 : Nat) "com/example/branchwise/branchwise/model/Operator" "OR" "Lcom/example/branchwise/branchwise/model/Operator;").before a0 Z = true := hw _ (List.mem_of_getElem? (i := 48) rfl)
theorem w49 {Z : State} {a0 : Array Value} (hw : ∀ d ∈ tables_1, d.before a0 Z = true) : (Jvm.Cond.laysStatic "com/example/branchwise/branchwise/model/Operator" "OR" "Lcom/example/branchwise/branchwise/model/Operator;").before a0 Z = true := hw _ (List.mem_of_getElem? (i := 49) rfl)
theorem w50 {Z : State} {a0 : Array Value} (hw : ∀ d ∈ tables_1, d.before a0 Z = true) : (Jvm.Cond.fieldLink "com/example/branchwise/branchwise/model/OperatorIsLogicalPinLaw" (79 : Nat) "com/example/branchwise/branchwise/model/Operator" "XOR" "Lcom/example/branchwise/branchwise/model/Operator;").before a0 Z = true := hw _ (List.mem_of_getElem? (i := 50) rfl)
theorem w51 {Z : State} {a0 : Array Value} (hw : ∀ d ∈ tables_1, d.before a0 Z = true) : (Jvm.Cond.laysStatic "com/example/branchwise/branchwise/model/Operator" "XOR" "Lcom/example/branchwise/branchwise/model/Operator;").before a0 Z = true := hw _ (List.mem_of_getElem? (i := 51) rfl)
theorem w52 {Z : State} {a0 : Array Value} (hw : ∀ d ∈ tables_1, d.before a0 Z = true) : (Jvm.Cond.fieldLink "com/example/branchwise/branchwise/model/OperatorIsLogicalPinLaw" (82 : Nat) "com/example/branchwise/branchwise/model/Operator" "IFF" "Lcom/example/branchwise/branchwise/model/Operator;").before a0 Z = true := hw _ (List.mem_of_getElem? (i := 52) rfl)
theorem w53 {Z : State} {a0 : Array Value} (hw : ∀ d ∈ tables_1, d.before a0 Z = true) : (Jvm.Cond.laysStatic "com/example/branchwise/branchwise/model/Operator" "IFF" "Lcom/example/branchwise/branchwise/model/Operator;").before a0 Z = true := hw _ (List.mem_of_getElem? (i := 53) rfl)
theorem w54 {Z : State} {a0 : Array Value} (hw : ∀ d ∈ tables_1, d.before a0 Z = true) : (Jvm.Cond.fieldLink "com/example/branchwise/branchwise/model/OperatorIsLogicalPinLaw" (85 : Nat) "com/example/branchwise/branchwise/model/Operator" "IMP" "Lcom/example/branchwise/branchwise/model/Operator;").before a0 Z = true := hw _ (List.mem_of_getElem? (i := 54) rfl)
theorem w55 {Z : State} {a0 : Array Value} (hw : ∀ d ∈ tables_1, d.before a0 Z = true) : (Jvm.Cond.laysStatic "com/example/branchwise/branchwise/model/Operator" "IMP" "Lcom/example/branchwise/branchwise/model/Operator;").before a0 Z = true := hw _ (List.mem_of_getElem? (i := 55) rfl)
theorem w56 {Z : State} {a0 : Array Value} (hw : ∀ d ∈ tables_1, d.before a0 Z = true) : (Jvm.Cond.fieldLink "com/example/branchwise/branchwise/model/OperatorIsLogicalPinLaw" (88 : Nat) "com/example/branchwise/branchwise/model/Operator" "IF" "Lcom/example/branchwise/branchwise/model/Operator;").before a0 Z = true := hw _ (List.mem_of_getElem? (i := 56) rfl)
theorem w57 {Z : State} {a0 : Array Value} (hw : ∀ d ∈ tables_1, d.before a0 Z = true) : (Jvm.Cond.laysStatic "com/example/branchwise/branchwise/model/Operator" "IF" "Lcom/example/branchwise/branchwise/model/Operator;").before a0 Z = true := hw _ (List.mem_of_getElem? (i := 57) rfl)
theorem w58 {Z : State} {a0 : Array Value} (hw : ∀ d ∈ tables_1, d.before a0 Z = true) : (Jvm.Cond.arrayClass Jvm.ClassFile.FieldType.boolean).before a0 Z = true := hw _ (List.mem_of_getElem? (i := 58) rfl)
theorem w59 {Z : State} {a0 : Array Value} (hw : ∀ d ∈ tables_1, d.before a0 Z = true) : (Jvm.Cond.constant "com/example/branchwise/branchwise/model/OperatorIsLogicalPinLaw" (91 : Nat) (2147483647 : Int32)).before a0 Z = true := hw _ (List.mem_of_getElem? (i := 59) rfl)
theorem w60 {Z : State} {a0 : Array Value} (hw : ∀ d ∈ tables_1, d.before a0 Z = true) : (Jvm.Cond.methodLink "com/example/branchwise/branchwise/model/OperatorIsLogicalPinLaw" (92 : Nat) ({ cls := "com/example/branchwise/branchwise/model/Operator", name := "isLogical", desc := "()Z" } : Jvm.MethodName)).before a0 Z = true := hw _ (List.mem_of_getElem? (i := 60) rfl)
theorem w61 {Z : State} {a0 : Array Value} (hw : ∀ d ∈ tables_1, d.before a0 Z = true) : (Jvm.Cond.declares ({ cls := "com/example/branchwise/branchwise/model/Operator", name := "isLogical", desc := "()Z" } : Jvm.MethodName)).before a0 Z = true := hw _ (List.mem_of_getElem? (i := 61) rfl)
theorem w62 {Z : State} {a0 : Array Value} (hw : ∀ d ∈ tables_1, d.before a0 Z = true) : (Jvm.Cond.instanceMethod ({ cls := "com/example/branchwise/branchwise/model/Operator", name := "isLogical", desc := "()Z" } : Jvm.MethodName)).before a0 Z = true := hw _ (List.mem_of_getElem? (i := 62) rfl)
theorem w63 {Z : State} {a0 : Array Value} (hw : ∀ d ∈ tables_1, d.before a0 Z = true) : (Jvm.Cond.selects "com/example/branchwise/branchwise/model/Operator" ({ cls := "com/example/branchwise/branchwise/model/Operator", name := "isLogical", desc := "()Z" } : Jvm.MethodName) ({ cls := "com/example/branchwise/branchwise/model/Operator", name := "isLogical", desc := "()Z" } : Jvm.MethodName)).before a0 Z = true := hw _ (List.mem_of_getElem? (i := 63) rfl)
theorem w64 {Z : State} {a0 : Array Value} (hw : ∀ d ∈ tables_1, d.before a0 Z = true) : (Jvm.Cond.code ({ cls := "com/example/branchwise/branchwise/model/Operator", name := "isLogical", desc := "()Z" } : Jvm.MethodName) prog_17_method_6_code (1 : Nat) (Option.some Jvm.ClassFile.FieldType.boolean)).before a0 Z = true := hw _ (List.mem_of_getElem? (i := 64) rfl)
theorem w65 {Z : State} {a0 : Array Value} (hw : ∀ d ∈ tables_1, d.before a0 Z = true) : (Jvm.Cond.fieldLink "com/example/branchwise/branchwise/model/Operator" (66 : Nat) "com/example/branchwise/branchwise/model/Operator" "NOT" "Lcom/example/branchwise/branchwise/model/Operator;").before a0 Z = true := hw _ (List.mem_of_getElem? (i := 65) rfl)
theorem w66 {Z : State} {a0 : Array Value} (hw : ∀ d ∈ tables_1, d.before a0 Z = true) : (Jvm.Cond.fieldLink "com/example/branchwise/branchwise/model/Operator" (69 : Nat) "com/example/branchwise/branchwise/model/Operator" "AND" "Lcom/example/branchwise/branchwise/model/Operator;").before a0 Z = true := hw _ (List.mem_of_getElem? (i := 66) rfl)
theorem w67 {Z : State} {a0 : Array Value} (hw : ∀ d ∈ tables_1, d.before a0 Z = true) : (Jvm.Cond.fieldLink "com/example/branchwise/branchwise/model/Operator" (72 : Nat) "com/example/branchwise/branchwise/model/Operator" "OR" "Lcom/example/branchwise/branchwise/model/Operator;").before a0 Z = true := hw _ (List.mem_of_getElem? (i := 67) rfl)
theorem w68 {Z : State} {a0 : Array Value} (hw : ∀ d ∈ tables_1, d.before a0 Z = true) : (Jvm.Cond.fieldLink "com/example/branchwise/branchwise/model/Operator" (75 : Nat) "com/example/branchwise/branchwise/model/Operator" "XOR" "Lcom/example/branchwise/branchwise/model/Operator;").before a0 Z = true := hw _ (List.mem_of_getElem? (i := 68) rfl)
theorem w69 {Z : State} {a0 : Array Value} (hw : ∀ d ∈ tables_1, d.before a0 Z = true) : (Jvm.Cond.fieldLink "com/example/branchwise/branchwise/model/Operator" (78 : Nat) "com/example/branchwise/branchwise/model/Operator" "IFF" "Lcom/example/branchwise/branchwise/model/Operator;").before a0 Z = true := hw _ (List.mem_of_getElem? (i := 69) rfl)
theorem w70 {Z : State} {a0 : Array Value} (hw : ∀ d ∈ tables_1, d.before a0 Z = true) : (Jvm.Cond.fieldLink "com/example/branchwise/branchwise/model/Operator" (81 : Nat) "com/example/branchwise/branchwise/model/Operator" "IMP" "Lcom/example/branchwise/branchwise/model/Operator;").before a0 Z = true := hw _ (List.mem_of_getElem? (i := 70) rfl)
theorem d_il0_0 : decode prog_17_method_6_code 0 = .ok (.aload_n 0, 1) := by decide +kernel
theorem d_il0_1 : decode prog_17_method_6_code 1 = .ok (.getstatic 66, 3) := by decide +kernel
theorem d_il0_4 : decode prog_17_method_6_code 4 = .ok (.if_acmp .eq 38, 3) := by decide +kernel
theorem d_il0_42 : decode prog_17_method_6_code 42 = .ok (.iconst 1, 1) := by decide +kernel
theorem d_il0_43 : decode prog_17_method_6_code 43 = .ok (.goto 4, 3) := by decide +kernel
theorem d_il0_47 : decode prog_17_method_6_code 47 = .ok (.ireturn, 1) := by decide +kernel
theorem pn_il0 : plainName "com/example/branchwise/branchwise/model/Operator" = true := by first | (simp [plainName, overriddenIn]; done) | decide +kernel
theorem d_il1_0 : decode prog_17_method_6_code 0 = .ok (.aload_n 0, 1) := by decide +kernel
theorem d_il1_1 : decode prog_17_method_6_code 1 = .ok (.getstatic 66, 3) := by decide +kernel
theorem d_il1_4 : decode prog_17_method_6_code 4 = .ok (.if_acmp .eq 38, 3) := by decide +kernel
theorem d_il1_7 : decode prog_17_method_6_code 7 = .ok (.aload_n 0, 1) := by decide +kernel
theorem d_il1_8 : decode prog_17_method_6_code 8 = .ok (.getstatic 69, 3) := by decide +kernel
theorem d_il1_11 : decode prog_17_method_6_code 11 = .ok (.if_acmp .eq 31, 3) := by decide +kernel
theorem d_il1_42 : decode prog_17_method_6_code 42 = .ok (.iconst 1, 1) := by decide +kernel
theorem d_il1_43 : decode prog_17_method_6_code 43 = .ok (.goto 4, 3) := by decide +kernel
theorem d_il1_47 : decode prog_17_method_6_code 47 = .ok (.ireturn, 1) := by decide +kernel
theorem pn_il1 : plainName "com/example/branchwise/branchwise/model/Operator" = true := by first | (simp [plainName, overriddenIn]; done) | decide +kernel
theorem d_il2_0 : decode prog_17_method_6_code 0 = .ok (.aload_n 0, 1) := by decide +kernel
theorem d_il2_1 : decode prog_17_method_6_code 1 = .ok (.getstatic 66, 3) := by decide +kernel
theorem d_il2_4 : decode prog_17_method_6_code 4 = .ok (.if_acmp .eq 38, 3) := by decide +kernel
theorem d_il2_7 : decode prog_17_method_6_code 7 = .ok (.aload_n 0, 1) := by decide +kernel
theorem d_il2_8 : decode prog_17_method_6_code 8 = .ok (.getstatic 69, 3) := by decide +kernel
theorem d_il2_11 : decode prog_17_method_6_code 11 = .ok (.if_acmp .eq 31, 3) := by decide +kernel
theorem d_il2_14 : decode prog_17_method_6_code 14 = .ok (.aload_n 0, 1) := by decide +kernel
theorem d_il2_15 : decode prog_17_method_6_code 15 = .ok (.getstatic 72, 3) := by decide +kernel
theorem d_il2_18 : decode prog_17_method_6_code 18 = .ok (.if_acmp .eq 24, 3) := by decide +kernel
theorem d_il2_42 : decode prog_17_method_6_code 42 = .ok (.iconst 1, 1) := by decide +kernel
theorem d_il2_43 : decode prog_17_method_6_code 43 = .ok (.goto 4, 3) := by decide +kernel
theorem d_il2_47 : decode prog_17_method_6_code 47 = .ok (.ireturn, 1) := by decide +kernel
theorem pn_il2 : plainName "com/example/branchwise/branchwise/model/Operator" = true := by first | (simp [plainName, overriddenIn]; done) | decide +kernel
theorem d_il3_0 : decode prog_17_method_6_code 0 = .ok (.aload_n 0, 1) := by decide +kernel
theorem d_il3_1 : decode prog_17_method_6_code 1 = .ok (.getstatic 66, 3) := by decide +kernel
theorem d_il3_4 : decode prog_17_method_6_code 4 = .ok (.if_acmp .eq 38, 3) := by decide +kernel
theorem d_il3_7 : decode prog_17_method_6_code 7 = .ok (.aload_n 0, 1) := by decide +kernel
theorem d_il3_8 : decode prog_17_method_6_code 8 = .ok (.getstatic 69, 3) := by decide +kernel
theorem d_il3_11 : decode prog_17_method_6_code 11 = .ok (.if_acmp .eq 31, 3) := by decide +kernel
theorem d_il3_14 : decode prog_17_method_6_code 14 = .ok (.aload_n 0, 1) := by decide +kernel
theorem d_il3_15 : decode prog_17_method_6_code 15 = .ok (.getstatic 72, 3) := by decide +kernel
theorem d_il3_18 : decode prog_17_method_6_code 18 = .ok (.if_acmp .eq 24, 3) := by decide +kernel
theorem d_il3_21 : decode prog_17_method_6_code 21 = .ok (.aload_n 0, 1) := by decide +kernel
theorem d_il3_22 : decode prog_17_method_6_code 22 = .ok (.getstatic 75, 3) := by decide +kernel
theorem d_il3_25 : decode prog_17_method_6_code 25 = .ok (.if_acmp .eq 17, 3) := by decide +kernel
theorem d_il3_42 : decode prog_17_method_6_code 42 = .ok (.iconst 1, 1) := by decide +kernel
theorem d_il3_43 : decode prog_17_method_6_code 43 = .ok (.goto 4, 3) := by decide +kernel
theorem d_il3_47 : decode prog_17_method_6_code 47 = .ok (.ireturn, 1) := by decide +kernel
theorem pn_il3 : plainName "com/example/branchwise/branchwise/model/Operator" = true := by first | (simp [plainName, overriddenIn]; done) | decide +kernel
theorem d_il4_0 : decode prog_17_method_6_code 0 = .ok (.aload_n 0, 1) := by decide +kernel
theorem d_il4_1 : decode prog_17_method_6_code 1 = .ok (.getstatic 66, 3) := by decide +kernel
theorem d_il4_4 : decode prog_17_method_6_code 4 = .ok (.if_acmp .eq 38, 3) := by decide +kernel
theorem d_il4_7 : decode prog_17_method_6_code 7 = .ok (.aload_n 0, 1) := by decide +kernel
theorem d_il4_8 : decode prog_17_method_6_code 8 = .ok (.getstatic 69, 3) := by decide +kernel
theorem d_il4_11 : decode prog_17_method_6_code 11 = .ok (.if_acmp .eq 31, 3) := by decide +kernel
theorem d_il4_14 : decode prog_17_method_6_code 14 = .ok (.aload_n 0, 1) := by decide +kernel
theorem d_il4_15 : decode prog_17_method_6_code 15 = .ok (.getstatic 72, 3) := by decide +kernel
theorem d_il4_18 : decode prog_17_method_6_code 18 = .ok (.if_acmp .eq 24, 3) := by decide +kernel
theorem d_il4_21 : decode prog_17_method_6_code 21 = .ok (.aload_n 0, 1) := by decide +kernel
theorem d_il4_22 : decode prog_17_method_6_code 22 = .ok (.getstatic 75, 3) := by decide +kernel
theorem d_il4_25 : decode prog_17_method_6_code 25 = .ok (.if_acmp .eq 17, 3) := by decide +kernel
theorem d_il4_28 : decode prog_17_method_6_code 28 = .ok (.aload_n 0, 1) := by decide +kernel
theorem d_il4_29 : decode prog_17_method_6_code 29 = .ok (.getstatic 78, 3) := by decide +kernel
theorem d_il4_32 : decode prog_17_method_6_code 32 = .ok (.if_acmp .eq 10, 3) := by decide +kernel
theorem d_il4_42 : decode prog_17_method_6_code 42 = .ok (.iconst 1, 1) := by decide +kernel
theorem d_il4_43 : decode prog_17_method_6_code 43 = .ok (.goto 4, 3) := by decide +kernel
theorem d_il4_47 : decode prog_17_method_6_code 47 = .ok (.ireturn, 1) := by decide +kernel
theorem pn_il4 : plainName "com/example/branchwise/branchwise/model/Operator" = true := by first | (simp [plainName, overriddenIn]; done) | decide +kernel
theorem d_il5_0 : decode prog_17_method_6_code 0 = .ok (.aload_n 0, 1) := by decide +kernel
theorem d_il5_1 : decode prog_17_method_6_code 1 = .ok (.getstatic 66, 3) := by decide +kernel
theorem d_il5_4 : decode prog_17_method_6_code 4 = .ok (.if_acmp .eq 38, 3) := by decide +kernel
theorem d_il5_7 : decode prog_17_method_6_code 7 = .ok (.aload_n 0, 1) := by decide +kernel
theorem d_il5_8 : decode prog_17_method_6_code 8 = .ok (.getstatic 69, 3) := by decide +kernel
theorem d_il5_11 : decode prog_17_method_6_code 11 = .ok (.if_acmp .eq 31, 3) := by decide +kernel
theorem d_il5_14 : decode prog_17_method_6_code 14 = .ok (.aload_n 0, 1) := by decide +kernel
theorem d_il5_15 : decode prog_17_method_6_code 15 = .ok (.getstatic 72, 3) := by decide +kernel
theorem d_il5_18 : decode prog_17_method_6_code 18 = .ok (.if_acmp .eq 24, 3) := by decide +kernel
theorem d_il5_21 : decode prog_17_method_6_code 21 = .ok (.aload_n 0, 1) := by decide +kernel
theorem d_il5_22 : decode prog_17_method_6_code 22 = .ok (.getstatic 75, 3) := by decide +kernel
theorem d_il5_25 : decode prog_17_method_6_code 25 = .ok (.if_acmp .eq 17, 3) := by decide +kernel
theorem d_il5_28 : decode prog_17_method_6_code 28 = .ok (.aload_n 0, 1) := by decide +kernel
theorem d_il5_29 : decode prog_17_method_6_code 29 = .ok (.getstatic 78, 3) := by decide +kernel
theorem d_il5_32 : decode prog_17_method_6_code 32 = .ok (.if_acmp .eq 10, 3) := by decide +kernel
theorem d_il5_35 : decode prog_17_method_6_code 35 = .ok (.aload_n 0, 1) := by decide +kernel
theorem d_il5_36 : decode prog_17_method_6_code 36 = .ok (.getstatic 81, 3) := by decide +kernel
theorem d_il5_39 : decode prog_17_method_6_code 39 = .ok (.if_acmp .ne 7, 3) := by decide +kernel
theorem d_il5_42 : decode prog_17_method_6_code 42 = .ok (.iconst 1, 1) := by decide +kernel
theorem d_il5_43 : decode prog_17_method_6_code 43 = .ok (.goto 4, 3) := by decide +kernel
theorem d_il5_47 : decode prog_17_method_6_code 47 = .ok (.ireturn, 1) := by decide +kernel
theorem pn_il5 : plainName "com/example/branchwise/branchwise/model/Operator" = true := by first | (simp [plainName, overriddenIn]; done) | decide +kernel
theorem d_il6_0 : decode prog_17_method_6_code 0 = .ok (.aload_n 0, 1) := by decide +kernel
theorem d_il6_1 : decode prog_17_method_6_code 1 = .ok (.getstatic 66, 3) := by decide +kernel
theorem d_il6_4 : decode prog_17_method_6_code 4 = .ok (.if_acmp .eq 38, 3) := by decide +kernel
theorem d_il6_7 : decode prog_17_method_6_code 7 = .ok (.aload_n 0, 1) := by decide +kernel
theorem d_il6_8 : decode prog_17_method_6_code 8 = .ok (.getstatic 69, 3) := by decide +kernel
theorem d_il6_11 : decode prog_17_method_6_code 11 = .ok (.if_acmp .eq 31, 3) := by decide +kernel
theorem d_il6_14 : decode prog_17_method_6_code 14 = .ok (.aload_n 0, 1) := by decide +kernel
theorem d_il6_15 : decode prog_17_method_6_code 15 = .ok (.getstatic 72, 3) := by decide +kernel
theorem d_il6_18 : decode prog_17_method_6_code 18 = .ok (.if_acmp .eq 24, 3) := by decide +kernel
theorem d_il6_21 : decode prog_17_method_6_code 21 = .ok (.aload_n 0, 1) := by decide +kernel
theorem d_il6_22 : decode prog_17_method_6_code 22 = .ok (.getstatic 75, 3) := by decide +kernel
theorem d_il6_25 : decode prog_17_method_6_code 25 = .ok (.if_acmp .eq 17, 3) := by decide +kernel
theorem d_il6_28 : decode prog_17_method_6_code 28 = .ok (.aload_n 0, 1) := by decide +kernel
theorem d_il6_29 : decode prog_17_method_6_code 29 = .ok (.getstatic 78, 3) := by decide +kernel
theorem d_il6_32 : decode prog_17_method_6_code 32 = .ok (.if_acmp .eq 10, 3) := by decide +kernel
theorem d_il6_35 : decode prog_17_method_6_code 35 = .ok (.aload_n 0, 1) := by decide +kernel
theorem d_il6_36 : decode prog_17_method_6_code 36 = .ok (.getstatic 81, 3) := by decide +kernel
theorem d_il6_39 : decode prog_17_method_6_code 39 = .ok (.if_acmp .ne 7, 3) := by decide +kernel
theorem d_il6_46 : decode prog_17_method_6_code 46 = .ok (.iconst 0, 1) := by decide +kernel
theorem d_il6_47 : decode prog_17_method_6_code 47 = .ok (.ireturn, 1) := by decide +kernel
theorem pn_il6 : plainName "com/example/branchwise/branchwise/model/Operator" = true := by first | (simp [plainName, overriddenIn]; done) | decide +kernel
theorem pd_0 : parseMethodDescriptor "()Z" = some ⟨[], some .boolean⟩ := by decide +kernel
theorem pn_law : plainName "com/example/branchwise/branchwise/model/OperatorIsLogicalPinLaw" = true := by first | (simp [plainName, overriddenIn]; done) | decide +kernel
theorem own_mod (x k : Int32) (n : Int) (hk : k.toInt = n) (hn : 0 < n) : 0 ≤ ((x &&& (2147483647 : Int32)) % k).toInt ∧ ((x &&& (2147483647 : Int32)) % k).toInt < n := by
  have m1 : (x &&& (2147483647 : Int32)).toInt = x.toInt % 2 ^ 31 := Jvm.Kit.i32_mask x _ (k := 31) (by decide) (by decide)
  rw [Jvm.Kit.i32_rem_nonneg (by omega), m1, hk]
  exact ⟨Int.emod_nonneg _ (by omega), Int.emod_lt_of_pos _ hn⟩
theorem own_cases27 {i : Int32} (h0 : 0 ≤ i.toInt) (h1 : i.toInt < 27) : i = (0 : Int32) ∨ i = (1 : Int32) ∨ i = (2 : Int32) ∨ i = (3 : Int32) ∨ i = (4 : Int32) ∨ i = (5 : Int32) ∨ i = (6 : Int32) ∨ i = (7 : Int32) ∨ i = (8 : Int32) ∨ i = (9 : Int32) ∨ i = (10 : Int32) ∨ i = (11 : Int32) ∨ i = (12 : Int32) ∨ i = (13 : Int32) ∨ i = (14 : Int32) ∨ i = (15 : Int32) ∨ i = (16 : Int32) ∨ i = (17 : Int32) ∨ i = (18 : Int32) ∨ i = (19 : Int32) ∨ i = (20 : Int32) ∨ i = (21 : Int32) ∨ i = (22 : Int32) ∨ i = (23 : Int32) ∨ i = (24 : Int32) ∨ i = (25 : Int32) ∨ i = (26 : Int32) := by
  have h : i.toInt = 0 ∨ i.toInt = 1 ∨ i.toInt = 2 ∨ i.toInt = 3 ∨ i.toInt = 4 ∨ i.toInt = 5 ∨ i.toInt = 6 ∨ i.toInt = 7 ∨ i.toInt = 8 ∨ i.toInt = 9 ∨ i.toInt = 10 ∨ i.toInt = 11 ∨ i.toInt = 12 ∨ i.toInt = 13 ∨ i.toInt = 14 ∨ i.toInt = 15 ∨ i.toInt = 16 ∨ i.toInt = 17 ∨ i.toInt = 18 ∨ i.toInt = 19 ∨ i.toInt = 20 ∨ i.toInt = 21 ∨ i.toInt = 22 ∨ i.toInt = 23 ∨ i.toInt = 24 ∨ i.toInt = 25 ∨ i.toInt = 26 := by omega
  rcases h with h | h | h | h | h | h | h | h | h | h | h | h | h | h | h | h | h | h | h | h | h | h | h | h | h | h | h
  · exact Or.inl (Int32.toInt_inj.mp (h.trans (by decide)))
  · exact Or.inr (Or.inl (Int32.toInt_inj.mp (h.trans (by decide))))
  · exact Or.inr (Or.inr (Or.inl (Int32.toInt_inj.mp (h.trans (by decide)))))
  · exact Or.inr (Or.inr (Or.inr (Or.inl (Int32.toInt_inj.mp (h.trans (by decide))))))
  · exact Or.inr (Or.inr (Or.inr (Or.inr (Or.inl (Int32.toInt_inj.mp (h.trans (by decide)))))))
  · exact Or.inr (Or.inr (Or.inr (Or.inr (Or.inr (Or.inl (Int32.toInt_inj.mp (h.trans (by decide))))))))
  · exact Or.inr (Or.inr (Or.inr (Or.inr (Or.inr (Or.inr (Or.inl (Int32.toInt_inj.mp (h.trans (by decide)))))))))
  · exact Or.inr (Or.inr (Or.inr (Or.inr (Or.inr (Or.inr (Or.inr (Or.inl (Int32.toInt_inj.mp (h.trans (by decide))))))))))
  · exact Or.inr (Or.inr (Or.inr (Or.inr (Or.inr (Or.inr (Or.inr (Or.inr (Or.inl (Int32.toInt_inj.mp (h.trans (by decide)))))))))))
  · exact Or.inr (Or.inr (Or.inr (Or.inr (Or.inr (Or.inr (Or.inr (Or.inr (Or.inr (Or.inl (Int32.toInt_inj.mp (h.trans (by decide))))))))))))
  · exact Or.inr (Or.inr (Or.inr (Or.inr (Or.inr (Or.inr (Or.inr (Or.inr (Or.inr (Or.inr (Or.inl (Int32.toInt_inj.mp (h.trans (by decide)))))))))))))
  · exact Or.inr (Or.inr (Or.inr (Or.inr (Or.inr (Or.inr (Or.inr (Or.inr (Or.inr (Or.inr (Or.inr (Or.inl (Int32.toInt_inj.mp (h.trans (by decide))))))))))))))
  · exact Or.inr (Or.inr (Or.inr (Or.inr (Or.inr (Or.inr (Or.inr (Or.inr (Or.inr (Or.inr (Or.inr (Or.inr (Or.inl (Int32.toInt_inj.mp (h.trans (by decide)))))))))))))))
  · exact Or.inr (Or.inr (Or.inr (Or.inr (Or.inr (Or.inr (Or.inr (Or.inr (Or.inr (Or.inr (Or.inr (Or.inr (Or.inr (Or.inl (Int32.toInt_inj.mp (h.trans (by decide))))))))))))))))
  · exact Or.inr (Or.inr (Or.inr (Or.inr (Or.inr (Or.inr (Or.inr (Or.inr (Or.inr (Or.inr (Or.inr (Or.inr (Or.inr (Or.inr (Or.inl (Int32.toInt_inj.mp (h.trans (by decide)))))))))))))))))
  · exact Or.inr (Or.inr (Or.inr (Or.inr (Or.inr (Or.inr (Or.inr (Or.inr (Or.inr (Or.inr (Or.inr (Or.inr (Or.inr (Or.inr (Or.inr (Or.inl (Int32.toInt_inj.mp (h.trans (by decide))))))))))))))))))
  · exact Or.inr (Or.inr (Or.inr (Or.inr (Or.inr (Or.inr (Or.inr (Or.inr (Or.inr (Or.inr (Or.inr (Or.inr (Or.inr (Or.inr (Or.inr (Or.inr (Or.inl (Int32.toInt_inj.mp (h.trans (by decide)))))))))))))))))))
  · exact Or.inr (Or.inr (Or.inr (Or.inr (Or.inr (Or.inr (Or.inr (Or.inr (Or.inr (Or.inr (Or.inr (Or.inr (Or.inr (Or.inr (Or.inr (Or.inr (Or.inr (Or.inl (Int32.toInt_inj.mp (h.trans (by decide))))))))))))))))))))
  · exact Or.inr (Or.inr (Or.inr (Or.inr (Or.inr (Or.inr (Or.inr (Or.inr (Or.inr (Or.inr (Or.inr (Or.inr (Or.inr (Or.inr (Or.inr (Or.inr (Or.inr (Or.inr (Or.inl (Int32.toInt_inj.mp (h.trans (by decide)))))))))))))))))))))
  · exact Or.inr (Or.inr (Or.inr (Or.inr (Or.inr (Or.inr (Or.inr (Or.inr (Or.inr (Or.inr (Or.inr (Or.inr (Or.inr (Or.inr (Or.inr (Or.inr (Or.inr (Or.inr (Or.inr (Or.inl (Int32.toInt_inj.mp (h.trans (by decide))))))))))))))))))))))
  · exact Or.inr (Or.inr (Or.inr (Or.inr (Or.inr (Or.inr (Or.inr (Or.inr (Or.inr (Or.inr (Or.inr (Or.inr (Or.inr (Or.inr (Or.inr (Or.inr (Or.inr (Or.inr (Or.inr (Or.inr (Or.inl (Int32.toInt_inj.mp (h.trans (by decide)))))))))))))))))))))))
  · exact Or.inr (Or.inr (Or.inr (Or.inr (Or.inr (Or.inr (Or.inr (Or.inr (Or.inr (Or.inr (Or.inr (Or.inr (Or.inr (Or.inr (Or.inr (Or.inr (Or.inr (Or.inr (Or.inr (Or.inr (Or.inr (Or.inl (Int32.toInt_inj.mp (h.trans (by decide))))))))))))))))))))))))
  · exact Or.inr (Or.inr (Or.inr (Or.inr (Or.inr (Or.inr (Or.inr (Or.inr (Or.inr (Or.inr (Or.inr (Or.inr (Or.inr (Or.inr (Or.inr (Or.inr (Or.inr (Or.inr (Or.inr (Or.inr (Or.inr (Or.inr (Or.inl (Int32.toInt_inj.mp (h.trans (by decide)))))))))))))))))))))))))
  · exact Or.inr (Or.inr (Or.inr (Or.inr (Or.inr (Or.inr (Or.inr (Or.inr (Or.inr (Or.inr (Or.inr (Or.inr (Or.inr (Or.inr (Or.inr (Or.inr (Or.inr (Or.inr (Or.inr (Or.inr (Or.inr (Or.inr (Or.inr (Or.inl (Int32.toInt_inj.mp (h.trans (by decide))))))))))))))))))))))))))
  · exact Or.inr (Or.inr (Or.inr (Or.inr (Or.inr (Or.inr (Or.inr (Or.inr (Or.inr (Or.inr (Or.inr (Or.inr (Or.inr (Or.inr (Or.inr (Or.inr (Or.inr (Or.inr (Or.inr (Or.inr (Or.inr (Or.inr (Or.inr (Or.inr (Or.inl (Int32.toInt_inj.mp (h.trans (by decide)))))))))))))))))))))))))))
  · exact Or.inr (Or.inr (Or.inr (Or.inr (Or.inr (Or.inr (Or.inr (Or.inr (Or.inr (Or.inr (Or.inr (Or.inr (Or.inr (Or.inr (Or.inr (Or.inr (Or.inr (Or.inr (Or.inr (Or.inr (Or.inr (Or.inr (Or.inr (Or.inr (Or.inr (Or.inl (Int32.toInt_inj.mp (h.trans (by decide))))))))))))))))))))))))))))
  · exact Or.inr (Or.inr (Or.inr (Or.inr (Or.inr (Or.inr (Or.inr (Or.inr (Or.inr (Or.inr (Or.inr (Or.inr (Or.inr (Or.inr (Or.inr (Or.inr (Or.inr (Or.inr (Or.inr (Or.inr (Or.inr (Or.inr (Or.inr (Or.inr (Or.inr (Or.inr ((Int32.toInt_inj.mp (h.trans (by decide)))))))))))))))))))))))))))))
def Q_il0 (Z : State) (a : Addr) (h0 : Heap) (n0 : Nat) (v : Option Value) (h : Heap) (L : List Loc) : Prop := v = some (.int (1 : Int32)) ∧ Fr n0 L ∧ h = h0
theorem ef_il0 (m : MethodId) (x0 : Addr) : entryFrame m #[(.ref x0)] 1 = mkF m 0 #[.val (.ref x0)] [] := by first | (simp [entryFrame, mkF, argsToLocals, Value.category]; done) | rfl
set_option maxRecDepth 65536 in
set_option maxHeartbeats 40000000 in
theorem rm_il0 (l : Launch) (Z : State) (a0 : Array Value) (hw : ∀ d ∈ tables_1, d.before a0 Z = true) (a : Addr) (h0 : Heap) (n0 : Nat) (Z0 : n0 ≤ h0.size) (f0 : Sta Z h0 "com/example/branchwise/branchwise/model/Operator" "NOT" "Lcom/example/branchwise/branchwise/model/Operator;" (.ref a)) :
    Met l Z (⟨"com/example/branchwise/branchwise/model/Operator", "isLogical", "()Z"⟩ : MethodName) prog_17_method_6_code 1 (Option.some Jvm.ClassFile.FieldType.boolean) [] ({ frames := 0, cells := 0, slots := 0, locals := 0 } : Room) #[(.ref a)] h0 (Q_il0 Z a h0 n0) := by
  refine Met.of (plainFor_of_name pn_il0) ?_
  intro p e s m below meth c s₁ X0 hx hby hml hZ hown hnm e0 hret hlk
  refine Go.cast (ef_il0 m a) ?_
  show Go _ _ _ _ s₁ (mkF m 0 #[.val (.ref a)] []) _ _ _
  have N0 := Fr.nil n0
  refine Go.aloadN X0 hx (hb hby d_il0_0) rfl rfl ?_
  show Go _ _ _ _ s₁ (mkF m 1 #[.val (.ref a)] [(.ref a)]) _ _ _
  refine Go.getS X0 hx hZ hown (w65 hw) Via.refl e0 f0 (hb hby d_il0_1) ?_
  intro T1 X1 e1
  show Go _ _ _ _ T1 (mkF m 4 #[.val (.ref a)] [(.ref a), (.ref a)]) _ _ _
  refine Go.acmpYes X1 hx (hb hby d_il0_4) rfl rfl (ac_eq_p rfl) (pc' := 42) (by decide) (by decide) ?_
  show Go _ _ _ _ T1 (mkF m 42 #[.val (.ref a)] []) _ _ _
  refine Go.iconst X1 hx (hb hby d_il0_42) ?_
  show Go _ _ _ _ T1 (mkF m 43 #[.val (.ref a)] [(.int (1 : Int32))]) _ _ _
  refine Go.goto X1 hx (hb hby d_il0_43) (pc' := 47) (by decide) (by decide) ?_
  show Go _ _ _ _ T1 (mkF m 47 #[.val (.ref a)] [(.int (1 : Int32))]) _ _ _
  refine Go.retZ X1 hx hlk hret (by decide) (hb hby d_il0_47) (by decide) (by decide) ?_
  rw [e1]
  exact ⟨rfl, N0, rfl⟩
def Q_il1 (Z : State) (a : Addr) (m0 : Addr) (h0 : Heap) (n0 : Nat) (v : Option Value) (h : Heap) (L : List Loc) : Prop := v = some (.int (1 : Int32)) ∧ Fr n0 L ∧ h = h0
theorem ef_il1 (m : MethodId) (x0 : Addr) : entryFrame m #[(.ref x0)] 1 = mkF m 0 #[.val (.ref x0)] [] := by first | (simp [entryFrame, mkF, argsToLocals, Value.category]; done) | rfl
set_option maxRecDepth 65536 in
set_option maxHeartbeats 40000000 in
theorem rm_il1 (l : Launch) (Z : State) (a0 : Array Value) (hw : ∀ d ∈ tables_1, d.before a0 Z = true) (a : Addr) (m0 : Addr) (h0 : Heap) (n0 : Nat) (Z0 : n0 ≤ h0.size) (f0 : Sta Z h0 "com/example/branchwise/branchwise/model/Operator" "NOT" "Lcom/example/branchwise/branchwise/model/Operator;" (.ref m0)) (f1 : Sta Z h0 "com/example/branchwise/branchwise/model/Operator" "AND" "Lcom/example/branchwise/branchwise/model/Operator;" (.ref a)) (f2 : a ≠ m0) :
    Met l Z (⟨"com/example/branchwise/branchwise/model/Operator", "isLogical", "()Z"⟩ : MethodName) prog_17_method_6_code 1 (Option.some Jvm.ClassFile.FieldType.boolean) [] ({ frames := 0, cells := 0, slots := 0, locals := 0 } : Room) #[(.ref a)] h0 (Q_il1 Z a m0 h0 n0) := by
  refine Met.of (plainFor_of_name pn_il1) ?_
  intro p e s m below meth c s₁ X0 hx hby hml hZ hown hnm e0 hret hlk
  refine Go.cast (ef_il1 m a) ?_
  show Go _ _ _ _ s₁ (mkF m 0 #[.val (.ref a)] []) _ _ _
  have N0 := Fr.nil n0
  refine Go.aloadN X0 hx (hb hby d_il1_0) rfl rfl ?_
  show Go _ _ _ _ s₁ (mkF m 1 #[.val (.ref a)] [(.ref a)]) _ _ _
  refine Go.getS X0 hx hZ hown (w65 hw) Via.refl e0 f0 (hb hby d_il1_1) ?_
  intro T2 X2 e2
  show Go _ _ _ _ T2 (mkF m 4 #[.val (.ref a)] [(.ref m0), (.ref a)]) _ _ _
  refine Go.acmpNo X2 hx (hb hby d_il1_4) rfl rfl (ac_eq_n f2) ?_
  show Go _ _ _ _ T2 (mkF m 7 #[.val (.ref a)] []) _ _ _
  refine Go.aloadN X2 hx (hb hby d_il1_7) rfl rfl ?_
  show Go _ _ _ _ T2 (mkF m 8 #[.val (.ref a)] [(.ref a)]) _ _ _
  refine Go.getS X2 hx hZ hown (w66 hw) Via.refl e2 f1 (hb hby d_il1_8) ?_
  intro T3 X3 e3
  show Go _ _ _ _ T3 (mkF m 11 #[.val (.ref a)] [(.ref a), (.ref a)]) _ _ _
  refine Go.acmpYes X3 hx (hb hby d_il1_11) rfl rfl (ac_eq_p rfl) (pc' := 42) (by decide) (by decide) ?_
  show Go _ _ _ _ T3 (mkF m 42 #[.val (.ref a)] []) _ _ _
  refine Go.iconst X3 hx (hb hby d_il1_42) ?_
  show Go _ _ _ _ T3 (mkF m 43 #[.val (.ref a)] [(.int (1 : Int32))]) _ _ _
  refine Go.goto X3 hx (hb hby d_il1_43) (pc' := 47) (by decide) (by decide) ?_
  show Go _ _ _ _ T3 (mkF m 47 #[.val (.ref a)] [(.int (1 : Int32))]) _ _ _
  refine Go.retZ X3 hx hlk hret (by decide) (hb hby d_il1_47) (by decide) (by decide) ?_
  rw [e3]
  exact ⟨rfl, N0, rfl⟩
def Q_il2 (Z : State) (a : Addr) (m0 : Addr) (m1 : Addr) (h0 : Heap) (n0 : Nat) (v : Option Value) (h : Heap) (L : List Loc) : Prop := v = some (.int (1 : Int32)) ∧ Fr n0 L ∧ h = h0
theorem ef_il2 (m : MethodId) (x0 : Addr) : entryFrame m #[(.ref x0)] 1 = mkF m 0 #[.val (.ref x0)] [] := by first | (simp [entryFrame, mkF, argsToLocals, Value.category]; done) | rfl
set_option maxRecDepth 65536 in
set_option maxHeartbeats 40000000 in
theorem rm_il2 (l : Launch) (Z : State) (a0 : Array Value) (hw : ∀ d ∈ tables_1, d.before a0 Z = true) (a : Addr) (m0 : Addr) (m1 : Addr) (h0 : Heap) (n0 : Nat) (Z0 : n0 ≤ h0.size) (f0 : Sta Z h0 "com/example/branchwise/branchwise/model/Operator" "NOT" "Lcom/example/branchwise/branchwise/model/Operator;" (.ref m0)) (f1 : Sta Z h0 "com/example/branchwise/branchwise/model/Operator" "AND" "Lcom/example/branchwise/branchwise/model/Operator;" (.ref m1)) (f2 : Sta Z h0 "com/example/branchwise/branchwise/model/Operator" "OR" "Lcom/example/branchwise/branchwise/model/Operator;" (.ref a)) (f3 : a ≠ m0) (f4 : a ≠ m1) :
    Met l Z (⟨"com/example/branchwise/branchwise/model/Operator", "isLogical", "()Z"⟩ : MethodName) prog_17_method_6_code 1 (Option.some Jvm.ClassFile.FieldType.boolean) [] ({ frames := 0, cells := 0, slots := 0, locals := 0 } : Room) #[(.ref a)] h0 (Q_il2 Z a m0 m1 h0 n0) := by
  refine Met.of (plainFor_of_name pn_il2) ?_
  intro p e s m below meth c s₁ X0 hx hby hml hZ hown hnm e0 hret hlk
  refine Go.cast (ef_il2 m a) ?_
  show Go _ _ _ _ s₁ (mkF m 0 #[.val (.ref a)] []) _ _ _
  have N0 := Fr.nil n0
  refine Go.aloadN X0 hx (hb hby d_il2_0) rfl rfl ?_
  show Go _ _ _ _ s₁ (mkF m 1 #[.val (.ref a)] [(.ref a)]) _ _ _
  refine Go.getS X0 hx hZ hown (w65 hw) Via.refl e0 f0 (hb hby d_il2_1) ?_
  intro T4 X4 e4
  show Go _ _ _ _ T4 (mkF m 4 #[.val (.ref a)] [(.ref m0), (.ref a)]) _ _ _
  refine Go.acmpNo X4 hx (hb hby d_il2_4) rfl rfl (ac_eq_n f3) ?_
  show Go _ _ _ _ T4 (mkF m 7 #[.val (.ref a)] []) _ _ _
  refine Go.aloadN X4 hx (hb hby d_il2_7) rfl rfl ?_
  show Go _ _ _ _ T4 (mkF m 8 #[.val (.ref a)] [(.ref a)]) _ _ _
  refine Go.getS X4 hx hZ hown (w66 hw) Via.refl e4 f1 (hb hby d_il2_8) ?_
  intro T5 X5 e5
  show Go _ _ _ _ T5 (mkF m 11 #[.val (.ref a)] [(.ref m1), (.ref a)]) _ _ _
  refine Go.acmpNo X5 hx (hb hby d_il2_11) rfl rfl (ac_eq_n f4) ?_
  show Go _ _ _ _ T5 (mkF m 14 #[.val (.ref a)] []) _ _ _
  refine Go.aloadN X5 hx (hb hby d_il2_14) rfl rfl ?_
  show Go _ _ _ _ T5 (mkF m 15 #[.val (.ref a)] [(.ref a)]) _ _ _
  refine Go.getS X5 hx hZ hown (w67 hw) Via.refl e5 f2 (hb hby d_il2_15) ?_
  intro T6 X6 e6
  show Go _ _ _ _ T6 (mkF m 18 #[.val (.ref a)] [(.ref a), (.ref a)]) _ _ _
  refine Go.acmpYes X6 hx (hb hby d_il2_18) rfl rfl (ac_eq_p rfl) (pc' := 42) (by decide) (by decide) ?_
  show Go _ _ _ _ T6 (mkF m 42 #[.val (.ref a)] []) _ _ _
  refine Go.iconst X6 hx (hb hby d_il2_42) ?_
  show Go _ _ _ _ T6 (mkF m 43 #[.val (.ref a)] [(.int (1 : Int32))]) _ _ _
  refine Go.goto X6 hx (hb hby d_il2_43) (pc' := 47) (by decide) (by decide) ?_
  show Go _ _ _ _ T6 (mkF m 47 #[.val (.ref a)] [(.int (1 : Int32))]) _ _ _
  refine Go.retZ X6 hx hlk hret (by decide) (hb hby d_il2_47) (by decide) (by decide) ?_
  rw [e6]
  exact ⟨rfl, N0, rfl⟩
def Q_il3 (Z : State) (a : Addr) (m0 : Addr) (m1 : Addr) (m2 : Addr) (h0 : Heap) (n0 : Nat) (v : Option Value) (h : Heap) (L : List Loc) : Prop := v = some (.int (1 : Int32)) ∧ Fr n0 L ∧ h = h0
theorem ef_il3 (m : MethodId) (x0 : Addr) : entryFrame m #[(.ref x0)] 1 = mkF m 0 #[.val (.ref x0)] [] := by first | (simp [entryFrame, mkF, argsToLocals, Value.category]; done) | rfl
set_option maxRecDepth 65536 in
set_option maxHeartbeats 40000000 in
theorem rm_il3 (l : Launch) (Z : State) (a0 : Array Value) (hw : ∀ d ∈ tables_1, d.before a0 Z = true) (a : Addr) (m0 : Addr) (m1 : Addr) (m2 : Addr) (h0 : Heap) (n0 : Nat) (Z0 : n0 ≤ h0.size) (f0 : Sta Z h0 "com/example/branchwise/branchwise/model/Operator" "NOT" "Lcom/example/branchwise/branchwise/model/Operator;" (.ref m0)) (f1 : Sta Z h0 "com/example/branchwise/branchwise/model/Operator" "AND" "Lcom/example/branchwise/branchwise/model/Operator;" (.ref m1)) (f2 : Sta Z h0 "com/example/branchwise/branchwise/model/Operator" "OR" "Lcom/example/branchwise/branchwise/model/Operator;" (.ref m2)) (f3 : Sta Z h0 "com/example/branchwise/branchwise/model/Operator" "XOR" "Lcom/example/branchwise/branchwise/model/Operator;" (.ref a)) (f4 : a ≠ m0) (f5 : a ≠ m1) (f6 : a ≠ m2) :
    Met l Z (⟨"com/example/branchwise/branchwise/model/Operator", "isLogical", "()Z"⟩ : MethodName) prog_17_method_6_code 1 (Option.some Jvm.ClassFile.FieldType.boolean) [] ({ frames := 0, cells := 0, slots := 0, locals := 0 } : Room) #[(.ref a)] h0 (Q_il3 Z a m0 m1 m2 h0 n0) := by
  refine Met.of (plainFor_of_name pn_il3) ?_
  intro p e s m below meth c s₁ X0 hx hby hml hZ hown hnm e0 hret hlk
  refine Go.cast (ef_il3 m a) ?_
  show Go _ _ _ _ s₁ (mkF m 0 #[.val (.ref a)] []) _ _ _
  have N0 := Fr.nil n0
  refine Go.aloadN X0 hx (hb hby d_il3_0) rfl rfl ?_
  show Go _ _ _ _ s₁ (mkF m 1 #[.val (.ref a)] [(.ref a)]) _ _ _
  refine Go.getS X0 hx hZ hown (w65 hw) Via.refl e0 f0 (hb hby d_il3_1) ?_
  intro T7 X7 e7
  show Go _ _ _ _ T7 (mkF m 4 #[.val (.ref a)] [(.ref m0), (.ref a)]) _ _ _
  refine Go.acmpNo X7 hx (hb hby d_il3_4) rfl rfl (ac_eq_n f4) ?_
  show Go _ _ _ _ T7 (mkF m 7 #[.val (.ref a)] []) _ _ _
  refine Go.aloadN X7 hx (hb hby d_il3_7) rfl rfl ?_
  show Go _ _ _ _ T7 (mkF m 8 #[.val (.ref a)] [(.ref a)]) _ _ _
  refine Go.getS X7 hx hZ hown (w66 hw) Via.refl e7 f1 (hb hby d_il3_8) ?_
  intro T8 X8 e8
  show Go _ _ _ _ T8 (mkF m 11 #[.val (.ref a)] [(.ref m1), (.ref a)]) _ _ _
  refine Go.acmpNo X8 hx (hb hby d_il3_11) rfl rfl (ac_eq_n f5) ?_
  show Go _ _ _ _ T8 (mkF m 14 #[.val (.ref a)] []) _ _ _
  refine Go.aloadN X8 hx (hb hby d_il3_14) rfl rfl ?_
  show Go _ _ _ _ T8 (mkF m 15 #[.val (.ref a)] [(.ref a)]) _ _ _
  refine Go.getS X8 hx hZ hown (w67 hw) Via.refl e8 f2 (hb hby d_il3_15) ?_
  intro T9 X9 e9
  show Go _ _ _ _ T9 (mkF m 18 #[.val (.ref a)] [(.ref m2), (.ref a)]) _ _ _
  refine Go.acmpNo X9 hx (hb hby d_il3_18) rfl rfl (ac_eq_n f6) ?_
  show Go _ _ _ _ T9 (mkF m 21 #[.val (.ref a)] []) _ _ _
  refine Go.aloadN X9 hx (hb hby d_il3_21) rfl rfl ?_
  show Go _ _ _ _ T9 (mkF m 22 #[.val (.ref a)] [(.ref a)]) _ _ _
  refine Go.getS X9 hx hZ hown (w68 hw) Via.refl e9 f3 (hb hby d_il3_22) ?_
  intro T10 X10 e10
  show Go _ _ _ _ T10 (mkF m 25 #[.val (.ref a)] [(.ref a), (.ref a)]) _ _ _
  refine Go.acmpYes X10 hx (hb hby d_il3_25) rfl rfl (ac_eq_p rfl) (pc' := 42) (by decide) (by decide) ?_
  show Go _ _ _ _ T10 (mkF m 42 #[.val (.ref a)] []) _ _ _
  refine Go.iconst X10 hx (hb hby d_il3_42) ?_
  show Go _ _ _ _ T10 (mkF m 43 #[.val (.ref a)] [(.int (1 : Int32))]) _ _ _
  refine Go.goto X10 hx (hb hby d_il3_43) (pc' := 47) (by decide) (by decide) ?_
  show Go _ _ _ _ T10 (mkF m 47 #[.val (.ref a)] [(.int (1 : Int32))]) _ _ _
  refine Go.retZ X10 hx hlk hret (by decide) (hb hby d_il3_47) (by decide) (by decide) ?_
  rw [e10]
  exact ⟨rfl, N0, rfl⟩
def Q_il4 (Z : State) (a : Addr) (m0 : Addr) (m1 : Addr) (m2 : Addr) (m3 : Addr) (h0 : Heap) (n0 : Nat) (v : Option Value) (h : Heap) (L : List Loc) : Prop := v = some (.int (1 : Int32)) ∧ Fr n0 L ∧ h = h0
theorem ef_il4 (m : MethodId) (x0 : Addr) : entryFrame m #[(.ref x0)] 1 = mkF m 0 #[.val (.ref x0)] [] := by first | (simp [entryFrame, mkF, argsToLocals, Value.category]; done) | rfl
set_option maxRecDepth 65536 in
set_option maxHeartbeats 40000000 in
theorem rm_il4 (l : Launch) (Z : State) (a0 : Array Value) (hw : ∀ d ∈ tables_1, d.before a0 Z = true) (a : Addr) (m0 : Addr) (m1 : Addr) (m2 : Addr) (m3 : Addr) (h0 : Heap) (n0 : Nat) (Z0 : n0 ≤ h0.size) (f0 : Sta Z h0 "com/example/branchwise/branchwise/model/Operator" "NOT" "Lcom/example/branchwise/branchwise/model/Operator;" (.ref m0)) (f1 : Sta Z h0 "com/example/branchwise/branchwise/model/Operator" "AND" "Lcom/example/branchwise/branchwise/model/Operator;" (.ref m1)) (f2 : Sta Z h0 "com/example/branchwise/branchwise/model/Operator" "OR" "Lcom/example/branchwise/branchwise/model/Operator;" (.ref m2)) (f3 : Sta Z h0 "com/example/branchwise/branchwise/model/Operator" "XOR" "Lcom/example/branchwise/branchwise/model/Operator;" (.ref m3)) (f4 : Sta Z h0 "com/example/branchwise/branchwise/model/Operator" "IFF" "Lcom/example/branchwise/branchwise/model/Operator;" (.ref a)) (f5 : a ≠ m0) (f6 : a ≠ m1) (f7 : a ≠ m2) (f8 : a ≠ m3) :
    Met l Z (⟨"com/example/branchwise/branchwise/model/Operator", "isLogical", "()Z"⟩ : MethodName) prog_17_method_6_code 1 (Option.some Jvm.ClassFile.FieldType.boolean) [] ({ frames := 0, cells := 0, slots := 0, locals := 0 } : Room) #[(.ref a)] h0 (Q_il4 Z a m0 m1 m2 m3 h0 n0) := by
  refine Met.of (plainFor_of_name pn_il4) ?_
  intro p e s m below meth c s₁ X0 hx hby hml hZ hown hnm e0 hret hlk
  refine Go.cast (ef_il4 m a) ?_
  show Go _ _ _ _ s₁ (mkF m 0 #[.val (.ref a)] []) _ _ _
  have N0 := Fr.nil n0
  refine Go.aloadN X0 hx (hb hby d_il4_0) rfl rfl ?_
  show Go _ _ _ _ s₁ (mkF m 1 #[.val (.ref a)] [(.ref a)]) _ _ _
  refine Go.getS X0 hx hZ hown (w65 hw) Via.refl e0 f0 (hb hby d_il4_1) ?_
  intro T11 X11 e11
  show Go _ _ _ _ T11 (mkF m 4 #[.val (.ref a)] [(.ref m0), (.ref a)]) _ _ _
  refine Go.acmpNo X11 hx (hb hby d_il4_4) rfl rfl (ac_eq_n f5) ?_
  show Go _ _ _ _ T11 (mkF m 7 #[.val (.ref a)] []) _ _ _
  refine Go.aloadN X11 hx (hb hby d_il4_7) rfl rfl ?_
  show Go _ _ _ _ T11 (mkF m 8 #[.val (.ref a)] [(.ref a)]) _ _ _
  refine Go.getS X11 hx hZ hown (w66 hw) Via.refl e11 f1 (hb hby d_il4_8) ?_
  intro T12 X12 e12
  show Go _ _ _ _ T12 (mkF m 11 #[.val (.ref a)] [(.ref m1), (.ref a)]) _ _ _
  refine Go.acmpNo X12 hx (hb hby d_il4_11) rfl rfl (ac_eq_n f6) ?_
  show Go _ _ _ _ T12 (mkF m 14 #[.val (.ref a)] []) _ _ _
  refine Go.aloadN X12 hx (hb hby d_il4_14) rfl rfl ?_
  show Go _ _ _ _ T12 (mkF m 15 #[.val (.ref a)] [(.ref a)]) _ _ _
  refine Go.getS X12 hx hZ hown (w67 hw) Via.refl e12 f2 (hb hby d_il4_15) ?_
  intro T13 X13 e13
  show Go _ _ _ _ T13 (mkF m 18 #[.val (.ref a)] [(.ref m2), (.ref a)]) _ _ _
  refine Go.acmpNo X13 hx (hb hby d_il4_18) rfl rfl (ac_eq_n f7) ?_
  show Go _ _ _ _ T13 (mkF m 21 #[.val (.ref a)] []) _ _ _
  refine Go.aloadN X13 hx (hb hby d_il4_21) rfl rfl ?_
  show Go _ _ _ _ T13 (mkF m 22 #[.val (.ref a)] [(.ref a)]) _ _ _
  refine Go.getS X13 hx hZ hown (w68 hw) Via.refl e13 f3 (hb hby d_il4_22) ?_
  intro T14 X14 e14
  show Go _ _ _ _ T14 (mkF m 25 #[.val (.ref a)] [(.ref m3), (.ref a)]) _ _ _
  refine Go.acmpNo X14 hx (hb hby d_il4_25) rfl rfl (ac_eq_n f8) ?_
  show Go _ _ _ _ T14 (mkF m 28 #[.val (.ref a)] []) _ _ _
  refine Go.aloadN X14 hx (hb hby d_il4_28) rfl rfl ?_
  show Go _ _ _ _ T14 (mkF m 29 #[.val (.ref a)] [(.ref a)]) _ _ _
  refine Go.getS X14 hx hZ hown (w69 hw) Via.refl e14 f4 (hb hby d_il4_29) ?_
  intro T15 X15 e15
  show Go _ _ _ _ T15 (mkF m 32 #[.val (.ref a)] [(.ref a), (.ref a)]) _ _ _
  refine Go.acmpYes X15 hx (hb hby d_il4_32) rfl rfl (ac_eq_p rfl) (pc' := 42) (by decide) (by decide) ?_
  show Go _ _ _ _ T15 (mkF m 42 #[.val (.ref a)] []) _ _ _
  refine Go.iconst X15 hx (hb hby d_il4_42) ?_
  show Go _ _ _ _ T15 (mkF m 43 #[.val (.ref a)] [(.int (1 : Int32))]) _ _ _
  refine Go.goto X15 hx (hb hby d_il4_43) (pc' := 47) (by decide) (by decide) ?_
  show Go _ _ _ _ T15 (mkF m 47 #[.val (.ref a)] [(.int (1 : Int32))]) _ _ _
  refine Go.retZ X15 hx hlk hret (by decide) (hb hby d_il4_47) (by decide) (by decide) ?_
  rw [e15]
  exact ⟨rfl, N0, rfl⟩
def Q_il5 (Z : State) (a : Addr) (m0 : Addr) (m1 : Addr) (m2 : Addr) (m3 : Addr) (m4 : Addr) (h0 : Heap) (n0 : Nat) (v : Option Value) (h : Heap) (L : List Loc) : Prop := v = some (.int (1 : Int32)) ∧ Fr n0 L ∧ h = h0
theorem ef_il5 (m : MethodId) (x0 : Addr) : entryFrame m #[(.ref x0)] 1 = mkF m 0 #[.val (.ref x0)] [] := by first | (simp [entryFrame, mkF, argsToLocals, Value.category]; done) | rfl
set_option maxRecDepth 65536 in
set_option maxHeartbeats 40000000 in
theorem rm_il5 (l : Launch) (Z : State) (a0 : Array Value) (hw : ∀ d ∈ tables_1, d.before a0 Z = true) (a : Addr) (m0 : Addr) (m1 : Addr) (m2 : Addr) (m3 : Addr) (m4 : Addr) (h0 : Heap) (n0 : Nat) (Z0 : n0 ≤ h0.size) (f0 : Sta Z h0 "com/example/branchwise/branchwise/model/Operator" "NOT" "Lcom/example/branchwise/branchwise/model/Operator;" (.ref m0)) (f1 : Sta Z h0 "com/example/branchwise/branchwise/model/Operator" "AND" "Lcom/example/branchwise/branchwise/model/Operator;" (.ref m1)) (f2 : Sta Z h0 "com/example/branchwise/branchwise/model/Operator" "OR" "Lcom/example/branchwise/branchwise/model/Operator;" (.ref m2)) (f3 : Sta Z h0 "com/example/branchwise/branchwise/model/Operator" "XOR" "Lcom/example/branchwise/branchwise/model/Operator;" (.ref m3)) (f4 : Sta Z h0 "com/example/branchwise/branchwise/model/Operator" "IFF" "Lcom/example/branchwise/branchwise/model/Operator;" (.ref m4)) (f5 : Sta Z h0 "com/example/branchwise/branchwise/model/Operator" "IMP" "Lcom/example/branchwise/branchwise/model/Operator;" (.ref a)) (f6 : a ≠ m0) (f7 : a ≠ m1) (f8 : a ≠ m2) (f9 : a ≠ m3) (f10 : a ≠ m4) :
    Met l Z (⟨"com/example/branchwise/branchwise/model/Operator", "isLogical", "()Z"⟩ : MethodName) prog_17_method_6_code 1 (Option.some Jvm.ClassFile.FieldType.boolean) [] ({ frames := 0, cells := 0, slots := 0, locals := 0 } : Room) #[(.ref a)] h0 (Q_il5 Z a m0 m1 m2 m3 m4 h0 n0) := by
  refine Met.of (plainFor_of_name pn_il5) ?_
  intro p e s m below meth c s₁ X0 hx hby hml hZ hown hnm e0 hret hlk
  refine Go.cast (ef_il5 m a) ?_
  show Go _ _ _ _ s₁ (mkF m 0 #[.val (.ref a)] []) _ _ _
  have N0 := Fr.nil n0
  refine Go.aloadN X0 hx (hb hby d_il5_0) rfl rfl ?_
  show Go _ _ _ _ s₁ (mkF m 1 #[.val (.ref a)] [(.ref a)]) _ _ _
  refine Go.getS X0 hx hZ hown (w65 hw) Via.refl e0 f0 (hb hby d_il5_1) ?_
  intro T16 X16 e16
  show Go _ _ _ _ T16 (mkF m 4 #[.val (.ref a)] [(.ref m0), (.ref a)]) _ _ _
  refine Go.acmpNo X16 hx (hb hby d_il5_4) rfl rfl (ac_eq_n f6) ?_
  show Go _ _ _ _ T16 (mkF m 7 #[.val (.ref a)] []) _ _ _
  refine Go.aloadN X16 hx (hb hby d_il5_7) rfl rfl ?_
  show Go _ _ _ _ T16 (mkF m 8 #[.val (.ref a)] [(.ref a)]) _ _ _
  refine Go.getS X16 hx hZ hown (w66 hw) Via.refl e16 f1 (hb hby d_il5_8) ?_
  intro T17 X17 e17
  show Go _ _ _ _ T17 (mkF m 11 #[.val (.ref a)] [(.ref m1), (.ref a)]) _ _ _
  refine Go.acmpNo X17 hx (hb hby d_il5_11) rfl rfl (ac_eq_n f7) ?_
  show Go _ _ _ _ T17 (mkF m 14 #[.val (.ref a)] []) _ _ _
  refine Go.aloadN X17 hx (hb hby d_il5_14) rfl rfl ?_
  show Go _ _ _ _ T17 (mkF m 15 #[.val (.ref a)] [(.ref a)]) _ _ _
  refine Go.getS X17 hx hZ hown (w67 hw) Via.refl e17 f2 (hb hby d_il5_15) ?_
  intro T18 X18 e18
  show Go _ _ _ _ T18 (mkF m 18 #[.val (.ref a)] [(.ref m2), (.ref a)]) _ _ _
  refine Go.acmpNo X18 hx (hb hby d_il5_18) rfl rfl (ac_eq_n f8) ?_
  show Go _ _ _ _ T18 (mkF m 21 #[.val (.ref a)] []) _ _ _
  refine Go.aloadN X18 hx (hb hby d_il5_21) rfl rfl ?_
  show Go _ _ _ _ T18 (mkF m 22 #[.val (.ref a)] [(.ref a)]) _ _ _
  refine Go.getS X18 hx hZ hown (w68 hw) Via.refl e18 f3 (hb hby d_il5_22) ?_
  intro T19 X19 e19
  show Go _ _ _ _ T19 (mkF m 25 #[.val (.ref a)] [(.ref m3), (.ref a)]) _ _ _
  refine Go.acmpNo X19 hx (hb hby d_il5_25) rfl rfl (ac_eq_n f9) ?_
  show Go _ _ _ _ T19 (mkF m 28 #[.val (.ref a)] []) _ _ _
  refine Go.aloadN X19 hx (hb hby d_il5_28) rfl rfl ?_
  show Go _ _ _ _ T19 (mkF m 29 #[.val (.ref a)] [(.ref a)]) _ _ _
  refine Go.getS X19 hx hZ hown (w69 hw) Via.refl e19 f4 (hb hby d_il5_29) ?_
  intro T20 X20 e20
  show Go _ _ _ _ T20 (mkF m 32 #[.val (.ref a)] [(.ref m4), (.ref a)]) _ _ _
  refine Go.acmpNo X20 hx (hb hby d_il5_32) rfl rfl (ac_eq_n f10) ?_
  show Go _ _ _ _ T20 (mkF m 35 #[.val (.ref a)] []) _ _ _
  refine Go.aloadN X20 hx (hb hby d_il5_35) rfl rfl ?_
  show Go _ _ _ _ T20 (mkF m 36 #[.val (.ref a)] [(.ref a)]) _ _ _
  refine Go.getS X20 hx hZ hown (w70 hw) Via.refl e20 f5 (hb hby d_il5_36) ?_
  intro T21 X21 e21
  show Go _ _ _ _ T21 (mkF m 39 #[.val (.ref a)] [(.ref a), (.ref a)]) _ _ _
  refine Go.acmpNo X21 hx (hb hby d_il5_39) rfl rfl (ac_ne_p rfl) ?_
  show Go _ _ _ _ T21 (mkF m 42 #[.val (.ref a)] []) _ _ _
  refine Go.iconst X21 hx (hb hby d_il5_42) ?_
  show Go _ _ _ _ T21 (mkF m 43 #[.val (.ref a)] [(.int (1 : Int32))]) _ _ _
  refine Go.goto X21 hx (hb hby d_il5_43) (pc' := 47) (by decide) (by decide) ?_
  show Go _ _ _ _ T21 (mkF m 47 #[.val (.ref a)] [(.int (1 : Int32))]) _ _ _
  refine Go.retZ X21 hx hlk hret (by decide) (hb hby d_il5_47) (by decide) (by decide) ?_
  rw [e21]
  exact ⟨rfl, N0, rfl⟩
def Q_il6 (Z : State) (a : Addr) (m0 : Addr) (m1 : Addr) (m2 : Addr) (m3 : Addr) (m4 : Addr) (m5 : Addr) (h0 : Heap) (n0 : Nat) (v : Option Value) (h : Heap) (L : List Loc) : Prop := v = some (.int (0 : Int32)) ∧ Fr n0 L ∧ h = h0
theorem ef_il6 (m : MethodId) (x0 : Addr) : entryFrame m #[(.ref x0)] 1 = mkF m 0 #[.val (.ref x0)] [] := by first | (simp [entryFrame, mkF, argsToLocals, Value.category]; done) | rfl
set_option maxRecDepth 65536 in
set_option maxHeartbeats 40000000 in
theorem rm_il6 (l : Launch) (Z : State) (a0 : Array Value) (hw : ∀ d ∈ tables_1, d.before a0 Z = true) (a : Addr) (m0 : Addr) (m1 : Addr) (m2 : Addr) (m3 : Addr) (m4 : Addr) (m5 : Addr) (h0 : Heap) (n0 : Nat) (Z0 : n0 ≤ h0.size) (f0 : Sta Z h0 "com/example/branchwise/branchwise/model/Operator" "NOT" "Lcom/example/branchwise/branchwise/model/Operator;" (.ref m0)) (f1 : Sta Z h0 "com/example/branchwise/branchwise/model/Operator" "AND" "Lcom/example/branchwise/branchwise/model/Operator;" (.ref m1)) (f2 : Sta Z h0 "com/example/branchwise/branchwise/model/Operator" "OR" "Lcom/example/branchwise/branchwise/model/Operator;" (.ref m2)) (f3 : Sta Z h0 "com/example/branchwise/branchwise/model/Operator" "XOR" "Lcom/example/branchwise/branchwise/model/Operator;" (.ref m3)) (f4 : Sta Z h0 "com/example/branchwise/branchwise/model/Operator" "IFF" "Lcom/example/branchwise/branchwise/model/Operator;" (.ref m4)) (f5 : Sta Z h0 "com/example/branchwise/branchwise/model/Operator" "IMP" "Lcom/example/branchwise/branchwise/model/Operator;" (.ref m5)) (f6 : a ≠ m0) (f7 : a ≠ m1) (f8 : a ≠ m2) (f9 : a ≠ m3) (f10 : a ≠ m4) (f11 : a ≠ m5) :
    Met l Z (⟨"com/example/branchwise/branchwise/model/Operator", "isLogical", "()Z"⟩ : MethodName) prog_17_method_6_code 1 (Option.some Jvm.ClassFile.FieldType.boolean) [] ({ frames := 0, cells := 0, slots := 0, locals := 0 } : Room) #[(.ref a)] h0 (Q_il6 Z a m0 m1 m2 m3 m4 m5 h0 n0) := by
  refine Met.of (plainFor_of_name pn_il6) ?_
  intro p e s m below meth c s₁ X0 hx hby hml hZ hown hnm e0 hret hlk
  refine Go.cast (ef_il6 m a) ?_
  show Go _ _ _ _ s₁ (mkF m 0 #[.val (.ref a)] []) _ _ _
  have N0 := Fr.nil n0
  refine Go.aloadN X0 hx (hb hby d_il6_0) rfl rfl ?_
  show Go _ _ _ _ s₁ (mkF m 1 #[.val (.ref a)] [(.ref a)]) _ _ _
  refine Go.getS X0 hx hZ hown (w65 hw) Via.refl e0 f0 (hb hby d_il6_1) ?_
  intro T22 X22 e22
  show Go _ _ _ _ T22 (mkF m 4 #[.val (.ref a)] [(.ref m0), (.ref a)]) _ _ _
  refine Go.acmpNo X22 hx (hb hby d_il6_4) rfl rfl (ac_eq_n f6) ?_
  show Go _ _ _ _ T22 (mkF m 7 #[.val (.ref a)] []) _ _ _
  refine Go.aloadN X22 hx (hb hby d_il6_7) rfl rfl ?_
  show Go _ _ _ _ T22 (mkF m 8 #[.val (.ref a)] [(.ref a)]) _ _ _
  refine Go.getS X22 hx hZ hown (w66 hw) Via.refl e22 f1 (hb hby d_il6_8) ?_
  intro T23 X23 e23
  show Go _ _ _ _ T23 (mkF m 11 #[.val (.ref a)] [(.ref m1), (.ref a)]) _ _ _
  refine Go.acmpNo X23 hx (hb hby d_il6_11) rfl rfl (ac_eq_n f7) ?_
  show Go _ _ _ _ T23 (mkF m 14 #[.val (.ref a)] []) _ _ _
  refine Go.aloadN X23 hx (hb hby d_il6_14) rfl rfl ?_
  show Go _ _ _ _ T23 (mkF m 15 #[.val (.ref a)] [(.ref a)]) _ _ _
  refine Go.getS X23 hx hZ hown (w67 hw) Via.refl e23 f2 (hb hby d_il6_15) ?_
  intro T24 X24 e24
  show Go _ _ _ _ T24 (mkF m 18 #[.val (.ref a)] [(.ref m2), (.ref a)]) _ _ _
  refine Go.acmpNo X24 hx (hb hby d_il6_18) rfl rfl (ac_eq_n f8) ?_
  show Go _ _ _ _ T24 (mkF m 21 #[.val (.ref a)] []) _ _ _
  refine Go.aloadN X24 hx (hb hby d_il6_21) rfl rfl ?_
  show Go _ _ _ _ T24 (mkF m 22 #[.val (.ref a)] [(.ref a)]) _ _ _
  refine Go.getS X24 hx hZ hown (w68 hw) Via.refl e24 f3 (hb hby d_il6_22) ?_
  intro T25 X25 e25
  show Go _ _ _ _ T25 (mkF m 25 #[.val (.ref a)] [(.ref m3), (.ref a)]) _ _ _
  refine Go.acmpNo X25 hx (hb hby d_il6_25) rfl rfl (ac_eq_n f9) ?_
  show Go _ _ _ _ T25 (mkF m 28 #[.val (.ref a)] []) _ _ _
  refine Go.aloadN X25 hx (hb hby d_il6_28) rfl rfl ?_
  show Go _ _ _ _ T25 (mkF m 29 #[.val (.ref a)] [(.ref a)]) _ _ _
  refine Go.getS X25 hx hZ hown (w69 hw) Via.refl e25 f4 (hb hby d_il6_29) ?_
  intro T26 X26 e26
  show Go _ _ _ _ T26 (mkF m 32 #[.val (.ref a)] [(.ref m4), (.ref a)]) _ _ _
  refine Go.acmpNo X26 hx (hb hby d_il6_32) rfl rfl (ac_eq_n f10) ?_
  show Go _ _ _ _ T26 (mkF m 35 #[.val (.ref a)] []) _ _ _
  refine Go.aloadN X26 hx (hb hby d_il6_35) rfl rfl ?_
  show Go _ _ _ _ T26 (mkF m 36 #[.val (.ref a)] [(.ref a)]) _ _ _
  refine Go.getS X26 hx hZ hown (w70 hw) Via.refl e26 f5 (hb hby d_il6_36) ?_
  intro T27 X27 e27
  show Go _ _ _ _ T27 (mkF m 39 #[.val (.ref a)] [(.ref m5), (.ref a)]) _ _ _
  refine Go.acmpYes X27 hx (hb hby d_il6_39) rfl rfl (ac_ne_n f11) (pc' := 46) (by decide) (by decide) ?_
  show Go _ _ _ _ T27 (mkF m 46 #[.val (.ref a)] []) _ _ _
  refine Go.iconst X27 hx (hb hby d_il6_46) ?_
  show Go _ _ _ _ T27 (mkF m 47 #[.val (.ref a)] [(.int (0 : Int32))]) _ _ _
  refine Go.retZ X27 hx hlk hret (by decide) (hb hby d_il6_47) (by decide) (by decide) ?_
  rw [e27]
  exact ⟨rfl, N0, rfl⟩
def Q_law (Z : State) (p0 : Int32) (g0 : Addr) (g1 : Addr) (g2 : Addr) (g3 : Addr) (g4 : Addr) (g5 : Addr) (g6 : Addr) (g7 : Addr) (g8 : Addr) (g9 : Addr) (g10 : Addr) (g11 : Addr) (g12 : Addr) (g13 : Addr) (g14 : Addr) (g15 : Addr) (g16 : Addr) (g17 : Addr) (g18 : Addr) (g19 : Addr) (g20 : Addr) (g21 : Addr) (g22 : Addr) (g23 : Addr) (g24 : Addr) (g25 : Addr) (g26 : Addr) (h0 : Heap) (n0 : Nat) (v : Option Value) (h : Heap) (L : List Loc) : Prop := v = some (.int (1 : Int32)) ∧ Fr n0 L
theorem ef_law (m : MethodId) (x0 : Int32) : entryFrame m #[(.int x0)] maxLocals = mkF m 0 #[.val (.int x0), .unset, .unset, .unset] [] := by first | (simp [entryFrame, mkF, argsToLocals, Value.category, maxLocals]; done) | rfl
set_option maxRecDepth 65536 in
set_option maxHeartbeats 40000000 in
theorem rm_law (l : Launch) (Z : State) (a0 : Array Value) (hw : ∀ d ∈ tables_1, d.before a0 Z = true) (ws : List Jvm.Cond) (p0 : Int32) (g0 : Addr) (g1 : Addr) (g2 : Addr) (g3 : Addr) (g4 : Addr) (g5 : Addr) (g6 : Addr) (g7 : Addr) (g8 : Addr) (g9 : Addr) (g10 : Addr) (g11 : Addr) (g12 : Addr) (g13 : Addr) (g14 : Addr) (g15 : Addr) (g16 : Addr) (g17 : Addr) (g18 : Addr) (g19 : Addr) (g20 : Addr) (g21 : Addr) (g22 : Addr) (g23 : Addr) (g24 : Addr) (g25 : Addr) (g26 : Addr) (h0 : Heap) (n0 : Nat) (Z0 : n0 ≤ h0.size) (f0 : Old Z n0 h0) (f1 : Sta Z Z.heap "com/example/branchwise/branchwise/model/Operator" "NEG" "Lcom/example/branchwise/branchwise/model/Operator;" (.ref g0)) (f2 : Sta Z Z.heap "com/example/branchwise/branchwise/model/Operator" "ABS" "Lcom/example/branchwise/branchwise/model/Operator;" (.ref g1)) (f3 : Sta Z Z.heap "com/example/branchwise/branchwise/model/Operator" "SQR" "Lcom/example/branchwise/branchwise/model/Operator;" (.ref g2)) (f4 : Sta Z Z.heap "com/example/branchwise/branchwise/model/Operator" "ADD" "Lcom/example/branchwise/branchwise/model/Operator;" (.ref g3)) (f5 : Sta Z Z.heap "com/example/branchwise/branchwise/model/Operator" "SUB" "Lcom/example/branchwise/branchwise/model/Operator;" (.ref g4)) (f6 : Sta Z Z.heap "com/example/branchwise/branchwise/model/Operator" "MUL" "Lcom/example/branchwise/branchwise/model/Operator;" (.ref g5)) (f7 : Sta Z Z.heap "com/example/branchwise/branchwise/model/Operator" "DIV" "Lcom/example/branchwise/branchwise/model/Operator;" (.ref g6)) (f8 : Sta Z Z.heap "com/example/branchwise/branchwise/model/Operator" "MOD" "Lcom/example/branchwise/branchwise/model/Operator;" (.ref g7)) (f9 : Sta Z Z.heap "com/example/branchwise/branchwise/model/Operator" "POW" "Lcom/example/branchwise/branchwise/model/Operator;" (.ref g8)) (f10 : Sta Z Z.heap "com/example/branchwise/branchwise/model/Operator" "MIN" "Lcom/example/branchwise/branchwise/model/Operator;" (.ref g9)) (f11 : Sta Z Z.heap "com/example/branchwise/branchwise/model/Operator" "MAX" "Lcom/example/branchwise/branchwise/model/Operator;" (.ref g10)) (f12 : Sta Z Z.heap "com/example/branchwise/branchwise/model/Operator" "DIST" "Lcom/example/branchwise/branchwise/model/Operator;" (.ref g11)) (f13 : Sta Z Z.heap "com/example/branchwise/branchwise/model/Operator" "LT" "Lcom/example/branchwise/branchwise/model/Operator;" (.ref g12)) (f14 : Sta Z Z.heap "com/example/branchwise/branchwise/model/Operator" "LE" "Lcom/example/branchwise/branchwise/model/Operator;" (.ref g13)) (f15 : Sta Z Z.heap "com/example/branchwise/branchwise/model/Operator" "GE" "Lcom/example/branchwise/branchwise/model/Operator;" (.ref g14)) (f16 : Sta Z Z.heap "com/example/branchwise/branchwise/model/Operator" "GT" "Lcom/example/branchwise/branchwise/model/Operator;" (.ref g15)) (f17 : Sta Z Z.heap "com/example/branchwise/branchwise/model/Operator" "NE" "Lcom/example/branchwise/branchwise/model/Operator;" (.ref g16)) (f18 : Sta Z Z.heap "com/example/branchwise/branchwise/model/Operator" "EQ" "Lcom/example/branchwise/branchwise/model/Operator;" (.ref g17)) (f19 : Sta Z Z.heap "com/example/branchwise/branchwise/model/Operator" "IN" "Lcom/example/branchwise/branchwise/model/Operator;" (.ref g18)) (f20 : Sta Z Z.heap "com/example/branchwise/branchwise/model/Operator" "NOTIN" "Lcom/example/branchwise/branchwise/model/Operator;" (.ref g19)) (f21 : Sta Z Z.heap "com/example/branchwise/branchwise/model/Operator" "NOT" "Lcom/example/branchwise/branchwise/model/Operator;" (.ref g20)) (f22 : Sta Z Z.heap "com/example/branchwise/branchwise/model/Operator" "AND" "Lcom/example/branchwise/branchwise/model/Operator;" (.ref g21)) (f23 : Sta Z Z.heap "com/example/branchwise/branchwise/model/Operator" "OR" "Lcom/example/branchwise/branchwise/model/Operator;" (.ref g22)) (f24 : Sta Z Z.heap "com/example/branchwise/branchwise/model/Operator" "XOR" "Lcom/example/branchwise/branchwise/model/Operator;" (.ref g23)) (f25 : Sta Z Z.heap "com/example/branchwise/branchwise/model/Operator" "IFF" "Lcom/example/branchwise/branchwise/model/Operator;" (.ref g24)) (f26 : Sta Z Z.heap "com/example/branchwise/branchwise/model/Operator" "IMP" "Lcom/example/branchwise/branchwise/model/Operator;" (.ref g25)) (f27 : Sta Z Z.heap "com/example/branchwise/branchwise/model/Operator" "IF" "Lcom/example/branchwise/branchwise/model/Operator;" (.ref g26)) (f28 : Exa Z Z.heap g0 "com/example/branchwise/branchwise/model/Operator") (f29 : Exa Z Z.heap g1 "com/example/branchwise/branchwise/model/Operator") (f30 : Exa Z Z.heap g2 "com/example/branchwise/branchwise/model/Operator") (f31 : Exa Z Z.heap g3 "com/example/branchwise/branchwise/model/Operator") (f32 : Exa Z Z.heap g4 "com/example/branchwise/branchwise/model/Operator") (f33 : Exa Z Z.heap g5 "com/example/branchwise/branchwise/model/Operator") (f34 : Exa Z Z.heap g6 "com/example/branchwise/branchwise/model/Operator") (f35 : Exa Z Z.heap g7 "com/example/branchwise/branchwise/model/Operator") (f36 : Exa Z Z.heap g8 "com/example/branchwise/branchwise/model/Operator") (f37 : Exa Z Z.heap g9 "com/example/branchwise/branchwise/model/Operator") (f38 : Exa Z Z.heap g10 "com/example/branchwise/branchwise/model/Operator") (f39 : Exa Z Z.heap g11 "com/example/branchwise/branchwise/model/Operator") (f40 : Exa Z Z.heap g12 "com/example/branchwise/branchwise/model/Operator") (f41 : Exa Z Z.heap g13 "com/example/branchwise/branchwise/model/Operator") (f42 : Exa Z Z.heap g14 "com/example/branchwise/branchwise/model/Operator") (f43 : Exa Z Z.heap g15 "com/example/branchwise/branchwise/model/Operator") (f44 : Exa Z Z.heap g16 "com/example/branchwise/branchwise/model/Operator") (f45 : Exa Z Z.heap g17 "com/example/branchwise/branchwise/model/Operator") (f46 : Exa Z Z.heap g18 "com/example/branchwise/branchwise/model/Operator") (f47 : Exa Z Z.heap g19 "com/example/branchwise/branchwise/model/Operator") (f48 : Exa Z Z.heap g20 "com/example/branchwise/branchwise/model/Operator") (f49 : Exa Z Z.heap g21 "com/example/branchwise/branchwise/model/Operator") (f50 : Exa Z Z.heap g22 "com/example/branchwise/branchwise/model/Operator") (f51 : Exa Z Z.heap g23 "com/example/branchwise/branchwise/model/Operator") (f52 : Exa Z Z.heap g24 "com/example/branchwise/branchwise/model/Operator") (f53 : Exa Z Z.heap g25 "com/example/branchwise/branchwise/model/Operator") (f54 : Exa Z Z.heap g26 "com/example/branchwise/branchwise/model/Operator") (f55 : Fld Z Z.heap g0 "java/lang/Enum" "ordinal" "I" (.int (0 : Int32))) (f56 : Fld Z Z.heap g1 "java/lang/Enum" "ordinal" "I" (.int (1 : Int32))) (f57 : Fld Z Z.heap g2 "java/lang/Enum" "ordinal" "I" (.int (2 : Int32))) (f58 : Fld Z Z.heap g3 "java/lang/Enum" "ordinal" "I" (.int (3 : Int32))) (f59 : Fld Z Z.heap g4 "java/lang/Enum" "ordinal" "I" (.int (4 : Int32))) (f60 : Fld Z Z.heap g5 "java/lang/Enum" "ordinal" "I" (.int (5 : Int32))) (f61 : Fld Z Z.heap g6 "java/lang/Enum" "ordinal" "I" (.int (6 : Int32))) (f62 : Fld Z Z.heap g7 "java/lang/Enum" "ordinal" "I" (.int (7 : Int32))) (f63 : Fld Z Z.heap g8 "java/lang/Enum" "ordinal" "I" (.int (8 : Int32))) (f64 : Fld Z Z.heap g9 "java/lang/Enum" "ordinal" "I" (.int (9 : Int32))) (f65 : Fld Z Z.heap g10 "java/lang/Enum" "ordinal" "I" (.int (10 : Int32))) (f66 : Fld Z Z.heap g11 "java/lang/Enum" "ordinal" "I" (.int (11 : Int32))) (f67 : Fld Z Z.heap g12 "java/lang/Enum" "ordinal" "I" (.int (12 : Int32))) (f68 : Fld Z Z.heap g13 "java/lang/Enum" "ordinal" "I" (.int (13 : Int32))) (f69 : Fld Z Z.heap g14 "java/lang/Enum" "ordinal" "I" (.int (14 : Int32))) (f70 : Fld Z Z.heap g15 "java/lang/Enum" "ordinal" "I" (.int (15 : Int32))) (f71 : Fld Z Z.heap g16 "java/lang/Enum" "ordinal" "I" (.int (16 : Int32))) (f72 : Fld Z Z.heap g17 "java/lang/Enum" "ordinal" "I" (.int (17 : Int32))) (f73 : Fld Z Z.heap g18 "java/lang/Enum" "ordinal" "I" (.int (18 : Int32))) (f74 : Fld Z Z.heap g19 "java/lang/Enum" "ordinal" "I" (.int (19 : Int32))) (f75 : Fld Z Z.heap g20 "java/lang/Enum" "ordinal" "I" (.int (20 : Int32))) (f76 : Fld Z Z.heap g21 "java/lang/Enum" "ordinal" "I" (.int (21 : Int32))) (f77 : Fld Z Z.heap g22 "java/lang/Enum" "ordinal" "I" (.int (22 : Int32))) (f78 : Fld Z Z.heap g23 "java/lang/Enum" "ordinal" "I" (.int (23 : Int32))) (f79 : Fld Z Z.heap g24 "java/lang/Enum" "ordinal" "I" (.int (24 : Int32))) (f80 : Fld Z Z.heap g25 "java/lang/Enum" "ordinal" "I" (.int (25 : Int32))) (f81 : Fld Z Z.heap g26 "java/lang/Enum" "ordinal" "I" (.int (26 : Int32))) :
    Met l Z x code maxLocals ret ws room_1 #[(.int p0)] h0 (Q_law Z p0 g0 g1 g2 g3 g4 g5 g6 g7 g8 g9 g10 g11 g12 g13 g14 g15 g16 g17 g18 g19 g20 g21 g22 g23 g24 g25 g26 h0 n0) := by
  refine Met.of (plainFor_of_name pn_law) ?_
  intro p e s m below meth c s₁ X0 hx hby hml hZ hown hnm e0 hret hlk
  refine Go.cast (ef_law m p0) ?_
  show Go _ _ _ _ s₁ (mkF m 0 #[.val (.int p0), .unset, .unset, .unset] []) _ _ _
  have N0 := Fr.nil n0
  refine Go.bipush X0 hx (hb hby at_0) ?_
  show Go _ _ _ _ s₁ (mkF m 2 #[.val (.int p0), .unset, .unset, .unset] [(.int (27 : Int32))]) _ _ _
  refine Go.anewarray (cap := 27) X0 hx hZ hown (w0 hw) (w1 hw) e0 (hb hby at_2) (by decide) (by decide) (by decide) (by decide) (by decide) ?_
  intro T28 h28 a28 k28 b28 X28 e28 E28 A28 R28
  have g_a28 : n0 ≤ a28 := by rw [b28]; exact Z0
  have y_a28 : h0.size ≤ a28 := by rw [b28]; exact (Nat.le_refl _)
  have Z28 : n0 ≤ h28.size := Nat.le_trans Z0 E28.1
  have B28 : h0.size ≤ h28.size := Nat.le_trans (Nat.le_refl _) E28.1
  show Go _ _ _ _ T28 (mkF m 5 #[.val (.int p0), .unset, .unset, .unset] [(.ref a28)]) _ _ _
  refine Go.dup X28 hx (hb hby at_5) rfl ?_
  show Go _ _ _ _ T28 (mkF m 6 #[.val (.int p0), .unset, .unset, .unset] [(.ref a28), (.ref a28)]) _ _ _
  refine Go.iconst X28 hx (hb hby at_6) ?_
  show Go _ _ _ _ T28 (mkF m 7 #[.val (.int p0), .unset, .unset, .unset] [(.int (0 : Int32)), (.ref a28), (.ref a28)]) _ _ _
  have O29 := (Old.ext f0 E28)
  have F30 := Sta.ext O29.2 f1
  refine Go.getS X28 hx hZ hown (w2 hw) Via.refl e28 F30 (hb hby at_7) ?_
  intro T31 X31 e31
  show Go _ _ _ _ T31 (mkF m 10 #[.val (.int p0), .unset, .unset, .unset] [(.ref g0), (.int (0 : Int32)), (.ref a28), (.ref a28)]) _ _ _
  have F32 := Exa.ext O29.2 f28
  refine Go.aastore X31 hx hZ e31 A28 rfl R28 (Ins.self F32) (by decide) (by decide) (hb hby at_10) ?_
  intro T33 h33 X33 e33 W33 A33
  have N33 := Fr.snoc X33 N0 g_a28
  have Z33 : n0 ≤ h33.size := by rw [Wr.size W33]; exact Z28
  have B33 : h0.size ≤ h33.size := by rw [Wr.size W33]; exact B28
  show Go _ _ _ _ T33 (mkF m 11 #[.val (.int p0), .unset, .unset, .unset] [(.ref a28)]) _ _ _
  refine Go.dup X33 hx (hb hby at_11) rfl ?_
  show Go _ _ _ _ T33 (mkF m 12 #[.val (.int p0), .unset, .unset, .unset] [(.ref a28), (.ref a28)]) _ _ _
  refine Go.iconst X33 hx (hb hby at_12) ?_
  show Go _ _ _ _ T33 (mkF m 13 #[.val (.int p0), .unset, .unset, .unset] [(.int (1 : Int32)), (.ref a28), (.ref a28)]) _ _ _
  have O34 := (Old.wr O29 W33 g_a28)
  have F35 := Sta.ext O34.2 f2
  refine Go.getS X33 hx hZ hown (w6 hw) Via.refl e33 F35 (hb hby at_13) ?_
  intro T36 X36 e36
  show Go _ _ _ _ T36 (mkF m 16 #[.val (.int p0), .unset, .unset, .unset] [(.ref g1), (.int (1 : Int32)), (.ref a28), (.ref a28)]) _ _ _
  have F37 := Exa.ext O34.2 f29
  refine Go.aastore X36 hx hZ e36 A33 rfl R28 (Ins.self F37) (by decide) (by decide) (hb hby at_16) ?_
  intro T38 h38 X38 e38 W38 A38
  have N38 := Fr.snoc X38 N33 g_a28
  have Z38 : n0 ≤ h38.size := by rw [Wr.size W38]; exact Z33
  have B38 : h0.size ≤ h38.size := by rw [Wr.size W38]; exact B33
  show Go _ _ _ _ T38 (mkF m 17 #[.val (.int p0), .unset, .unset, .unset] [(.ref a28)]) _ _ _
  refine Go.dup X38 hx (hb hby at_17) rfl ?_
  show Go _ _ _ _ T38 (mkF m 18 #[.val (.int p0), .unset, .unset, .unset] [(.ref a28), (.ref a28)]) _ _ _
  refine Go.iconst X38 hx (hb hby at_18) ?_
  show Go _ _ _ _ T38 (mkF m 19 #[.val (.int p0), .unset, .unset, .unset] [(.int (2 : Int32)), (.ref a28), (.ref a28)]) _ _ _
  have O39 := (Old.wr O34 W38 g_a28)
  have F40 := Sta.ext O39.2 f3
  refine Go.getS X38 hx hZ hown (w8 hw) Via.refl e38 F40 (hb hby at_19) ?_
  intro T41 X41 e41
  show Go _ _ _ _ T41 (mkF m 22 #[.val (.int p0), .unset, .unset, .unset] [(.ref g2), (.int (2 : Int32)), (.ref a28), (.ref a28)]) _ _ _
  have F42 := Exa.ext O39.2 f30
  refine Go.aastore X41 hx hZ e41 A38 rfl R28 (Ins.self F42) (by decide) (by decide) (hb hby at_22) ?_
  intro T43 h43 X43 e43 W43 A43
  have N43 := Fr.snoc X43 N38 g_a28
  have Z43 : n0 ≤ h43.size := by rw [Wr.size W43]; exact Z38
  have B43 : h0.size ≤ h43.size := by rw [Wr.size W43]; exact B38
  show Go _ _ _ _ T43 (mkF m 23 #[.val (.int p0), .unset, .unset, .unset] [(.ref a28)]) _ _ _
  refine Go.dup X43 hx (hb hby at_23) rfl ?_
  show Go _ _ _ _ T43 (mkF m 24 #[.val (.int p0), .unset, .unset, .unset] [(.ref a28), (.ref a28)]) _ _ _
  refine Go.iconst X43 hx (hb hby at_24) ?_
  show Go _ _ _ _ T43 (mkF m 25 #[.val (.int p0), .unset, .unset, .unset] [(.int (3 : Int32)), (.ref a28), (.ref a28)]) _ _ _
  have O44 := (Old.wr O39 W43 g_a28)
  have F45 := Sta.ext O44.2 f4
  refine Go.getS X43 hx hZ hown (w10 hw) Via.refl e43 F45 (hb hby at_25) ?_
  intro T46 X46 e46
  show Go _ _ _ _ T46 (mkF m 28 #[.val (.int p0), .unset, .unset, .unset] [(.ref g3), (.int (3 : Int32)), (.ref a28), (.ref a28)]) _ _ _
  have F47 := Exa.ext O44.2 f31
  refine Go.aastore X46 hx hZ e46 A43 rfl R28 (Ins.self F47) (by decide) (by decide) (hb hby at_28) ?_
  intro T48 h48 X48 e48 W48 A48
  have N48 := Fr.snoc X48 N43 g_a28
  have Z48 : n0 ≤ h48.size := by rw [Wr.size W48]; exact Z43
  have B48 : h0.size ≤ h48.size := by rw [Wr.size W48]; exact B43
  show Go _ _ _ _ T48 (mkF m 29 #[.val (.int p0), .unset, .unset, .unset] [(.ref a28)]) _ _ _
  refine Go.dup X48 hx (hb hby at_29) rfl ?_
  show Go _ _ _ _ T48 (mkF m 30 #[.val (.int p0), .unset, .unset, .unset] [(.ref a28), (.ref a28)]) _ _ _
  refine Go.iconst X48 hx (hb hby at_30) ?_
  show Go _ _ _ _ T48 (mkF m 31 #[.val (.int p0), .unset, .unset, .unset] [(.int (4 : Int32)), (.ref a28), (.ref a28)]) _ _ _
  have O49 := (Old.wr O44 W48 g_a28)
  have F50 := Sta.ext O49.2 f5
  refine Go.getS X48 hx hZ hown (w12 hw) Via.refl e48 F50 (hb hby at_31) ?_
  intro T51 X51 e51
  show Go _ _ _ _ T51 (mkF m 34 #[.val (.int p0), .unset, .unset, .unset] [(.ref g4), (.int (4 : Int32)), (.ref a28), (.ref a28)]) _ _ _
  have F52 := Exa.ext O49.2 f32
  refine Go.aastore X51 hx hZ e51 A48 rfl R28 (Ins.self F52) (by decide) (by decide) (hb hby at_34) ?_
  intro T53 h53 X53 e53 W53 A53
  have N53 := Fr.snoc X53 N48 g_a28
  have Z53 : n0 ≤ h53.size := by rw [Wr.size W53]; exact Z48
  have B53 : h0.size ≤ h53.size := by rw [Wr.size W53]; exact B48
  show Go _ _ _ _ T53 (mkF m 35 #[.val (.int p0), .unset, .unset, .unset] [(.ref a28)]) _ _ _
  refine Go.dup X53 hx (hb hby at_35) rfl ?_
  show Go _ _ _ _ T53 (mkF m 36 #[.val (.int p0), .unset, .unset, .unset] [(.ref a28), (.ref a28)]) _ _ _
  refine Go.iconst X53 hx (hb hby at_36) ?_
  show Go _ _ _ _ T53 (mkF m 37 #[.val (.int p0), .unset, .unset, .unset] [(.int (5 : Int32)), (.ref a28), (.ref a28)]) _ _ _
  have O54 := (Old.wr O49 W53 g_a28)
  have F55 := Sta.ext O54.2 f6
  refine Go.getS X53 hx hZ hown (w14 hw) Via.refl e53 F55 (hb hby at_37) ?_
  intro T56 X56 e56
  show Go _ _ _ _ T56 (mkF m 40 #[.val (.int p0), .unset, .unset, .unset] [(.ref g5), (.int (5 : Int32)), (.ref a28), (.ref a28)]) _ _ _
  have F57 := Exa.ext O54.2 f33
  refine Go.aastore X56 hx hZ e56 A53 rfl R28 (Ins.self F57) (by decide) (by decide) (hb hby at_40) ?_
  intro T58 h58 X58 e58 W58 A58
  have N58 := Fr.snoc X58 N53 g_a28
  have Z58 : n0 ≤ h58.size := by rw [Wr.size W58]; exact Z53
  have B58 : h0.size ≤ h58.size := by rw [Wr.size W58]; exact B53
  show Go _ _ _ _ T58 (mkF m 41 #[.val (.int p0), .unset, .unset, .unset] [(.ref a28)]) _ _ _
  refine Go.dup X58 hx (hb hby at_41) rfl ?_
  show Go _ _ _ _ T58 (mkF m 42 #[.val (.int p0), .unset, .unset, .unset] [(.ref a28), (.ref a28)]) _ _ _
  refine Go.bipush X58 hx (hb hby at_42) ?_
  show Go _ _ _ _ T58 (mkF m 44 #[.val (.int p0), .unset, .unset, .unset] [(.int (6 : Int32)), (.ref a28), (.ref a28)]) _ _ _
  have O59 := (Old.wr O54 W58 g_a28)
  have F60 := Sta.ext O59.2 f7
  refine Go.getS X58 hx hZ hown (w16 hw) Via.refl e58 F60 (hb hby at_44) ?_
  intro T61 X61 e61
  show Go _ _ _ _ T61 (mkF m 47 #[.val (.int p0), .unset, .unset, .unset] [(.ref g6), (.int (6 : Int32)), (.ref a28), (.ref a28)]) _ _ _
  have F62 := Exa.ext O59.2 f34
  refine Go.aastore X61 hx hZ e61 A58 rfl R28 (Ins.self F62) (by decide) (by decide) (hb hby at_47) ?_
  intro T63 h63 X63 e63 W63 A63
  have N63 := Fr.snoc X63 N58 g_a28
  have Z63 : n0 ≤ h63.size := by rw [Wr.size W63]; exact Z58
  have B63 : h0.size ≤ h63.size := by rw [Wr.size W63]; exact B58
  show Go _ _ _ _ T63 (mkF m 48 #[.val (.int p0), .unset, .unset, .unset] [(.ref a28)]) _ _ _
  refine Go.dup X63 hx (hb hby at_48) rfl ?_
  show Go _ _ _ _ T63 (mkF m 49 #[.val (.int p0), .unset, .unset, .unset] [(.ref a28), (.ref a28)]) _ _ _
  refine Go.bipush X63 hx (hb hby at_49) ?_
  show Go _ _ _ _ T63 (mkF m 51 #[.val (.int p0), .unset, .unset, .unset] [(.int (7 : Int32)), (.ref a28), (.ref a28)]) _ _ _
  have O64 := (Old.wr O59 W63 g_a28)
  have F65 := Sta.ext O64.2 f8
  refine Go.getS X63 hx hZ hown (w18 hw) Via.refl e63 F65 (hb hby at_51) ?_
  intro T66 X66 e66
  show Go _ _ _ _ T66 (mkF m 54 #[.val (.int p0), .unset, .unset, .unset] [(.ref g7), (.int (7 : Int32)), (.ref a28), (.ref a28)]) _ _ _
  have F67 := Exa.ext O64.2 f35
  refine Go.aastore X66 hx hZ e66 A63 rfl R28 (Ins.self F67) (by decide) (by decide) (hb hby at_54) ?_
  intro T68 h68 X68 e68 W68 A68
  have N68 := Fr.snoc X68 N63 g_a28
  have Z68 : n0 ≤ h68.size := by rw [Wr.size W68]; exact Z63
  have B68 : h0.size ≤ h68.size := by rw [Wr.size W68]; exact B63
  show Go _ _ _ _ T68 (mkF m 55 #[.val (.int p0), .unset, .unset, .unset] [(.ref a28)]) _ _ _
  refine Go.dup X68 hx (hb hby at_55) rfl ?_
  show Go _ _ _ _ T68 (mkF m 56 #[.val (.int p0), .unset, .unset, .unset] [(.ref a28), (.ref a28)]) _ _ _
  refine Go.bipush X68 hx (hb hby at_56) ?_
  show Go _ _ _ _ T68 (mkF m 58 #[.val (.int p0), .unset, .unset, .unset] [(.int (8 : Int32)), (.ref a28), (.ref a28)]) _ _ _
  have O69 := (Old.wr O64 W68 g_a28)
  have F70 := Sta.ext O69.2 f9
  refine Go.getS X68 hx hZ hown (w20 hw) Via.refl e68 F70 (hb hby at_58) ?_
  intro T71 X71 e71
  show Go _ _ _ _ T71 (mkF m 61 #[.val (.int p0), .unset, .unset, .unset] [(.ref g8), (.int (8 : Int32)), (.ref a28), (.ref a28)]) _ _ _
  have F72 := Exa.ext O69.2 f36
  refine Go.aastore X71 hx hZ e71 A68 rfl R28 (Ins.self F72) (by decide) (by decide) (hb hby at_61) ?_
  intro T73 h73 X73 e73 W73 A73
  have N73 := Fr.snoc X73 N68 g_a28
  have Z73 : n0 ≤ h73.size := by rw [Wr.size W73]; exact Z68
  have B73 : h0.size ≤ h73.size := by rw [Wr.size W73]; exact B68
  show Go _ _ _ _ T73 (mkF m 62 #[.val (.int p0), .unset, .unset, .unset] [(.ref a28)]) _ _ _
  refine Go.dup X73 hx (hb hby at_62) rfl ?_
  show Go _ _ _ _ T73 (mkF m 63 #[.val (.int p0), .unset, .unset, .unset] [(.ref a28), (.ref a28)]) _ _ _
  refine Go.bipush X73 hx (hb hby at_63) ?_
  show Go _ _ _ _ T73 (mkF m 65 #[.val (.int p0), .unset, .unset, .unset] [(.int (9 : Int32)), (.ref a28), (.ref a28)]) _ _ _
  have O74 := (Old.wr O69 W73 g_a28)
  have F75 := Sta.ext O74.2 f10
  refine Go.getS X73 hx hZ hown (w22 hw) Via.refl e73 F75 (hb hby at_65) ?_
  intro T76 X76 e76
  show Go _ _ _ _ T76 (mkF m 68 #[.val (.int p0), .unset, .unset, .unset] [(.ref g9), (.int (9 : Int32)), (.ref a28), (.ref a28)]) _ _ _
  have F77 := Exa.ext O74.2 f37
  refine Go.aastore X76 hx hZ e76 A73 rfl R28 (Ins.self F77) (by decide) (by decide) (hb hby at_68) ?_
  intro T78 h78 X78 e78 W78 A78
  have N78 := Fr.snoc X78 N73 g_a28
  have Z78 : n0 ≤ h78.size := by rw [Wr.size W78]; exact Z73
  have B78 : h0.size ≤ h78.size := by rw [Wr.size W78]; exact B73
  show Go _ _ _ _ T78 (mkF m 69 #[.val (.int p0), .unset, .unset, .unset] [(.ref a28)]) _ _ _
  refine Go.dup X78 hx (hb hby at_69) rfl ?_
  show Go _ _ _ _ T78 (mkF m 70 #[.val (.int p0), .unset, .unset, .unset] [(.ref a28), (.ref a28)]) _ _ _
  refine Go.bipush X78 hx (hb hby at_70) ?_
  show Go _ _ _ _ T78 (mkF m 72 #[.val (.int p0), .unset, .unset, .unset] [(.int (10 : Int32)), (.ref a28), (.ref a28)]) _ _ _
  have O79 := (Old.wr O74 W78 g_a28)
  have F80 := Sta.ext O79.2 f11
  refine Go.getS X78 hx hZ hown (w24 hw) Via.refl e78 F80 (hb hby at_72) ?_
  intro T81 X81 e81
  show Go _ _ _ _ T81 (mkF m 75 #[.val (.int p0), .unset, .unset, .unset] [(.ref g10), (.int (10 : Int32)), (.ref a28), (.ref a28)]) _ _ _
  have F82 := Exa.ext O79.2 f38
  refine Go.aastore X81 hx hZ e81 A78 rfl R28 (Ins.self F82) (by decide) (by decide) (hb hby at_75) ?_
  intro T83 h83 X83 e83 W83 A83
  have N83 := Fr.snoc X83 N78 g_a28
  have Z83 : n0 ≤ h83.size := by rw [Wr.size W83]; exact Z78
  have B83 : h0.size ≤ h83.size := by rw [Wr.size W83]; exact B78
  show Go _ _ _ _ T83 (mkF m 76 #[.val (.int p0), .unset, .unset, .unset] [(.ref a28)]) _ _ _
  refine Go.dup X83 hx (hb hby at_76) rfl ?_
  show Go _ _ _ _ T83 (mkF m 77 #[.val (.int p0), .unset, .unset, .unset] [(.ref a28), (.ref a28)]) _ _ _
  refine Go.bipush X83 hx (hb hby at_77) ?_
  show Go _ _ _ _ T83 (mkF m 79 #[.val (.int p0), .unset, .unset, .unset] [(.int (11 : Int32)), (.ref a28), (.ref a28)]) _ _ _
  have O84 := (Old.wr O79 W83 g_a28)
  have F85 := Sta.ext O84.2 f12
  refine Go.getS X83 hx hZ hown (w26 hw) Via.refl e83 F85 (hb hby at_79) ?_
  intro T86 X86 e86
  show Go _ _ _ _ T86 (mkF m 82 #[.val (.int p0), .unset, .unset, .unset] [(.ref g11), (.int (11 : Int32)), (.ref a28), (.ref a28)]) _ _ _
  have F87 := Exa.ext O84.2 f39
  refine Go.aastore X86 hx hZ e86 A83 rfl R28 (Ins.self F87) (by decide) (by decide) (hb hby at_82) ?_
  intro T88 h88 X88 e88 W88 A88
  have N88 := Fr.snoc X88 N83 g_a28
  have Z88 : n0 ≤ h88.size := by rw [Wr.size W88]; exact Z83
  have B88 : h0.size ≤ h88.size := by rw [Wr.size W88]; exact B83
  show Go _ _ _ _ T88 (mkF m 83 #[.val (.int p0), .unset, .unset, .unset] [(.ref a28)]) _ _ _
  refine Go.dup X88 hx (hb hby at_83) rfl ?_
  show Go _ _ _ _ T88 (mkF m 84 #[.val (.int p0), .unset, .unset, .unset] [(.ref a28), (.ref a28)]) _ _ _
  refine Go.bipush X88 hx (hb hby at_84) ?_
  show Go _ _ _ _ T88 (mkF m 86 #[.val (.int p0), .unset, .unset, .unset] [(.int (12 : Int32)), (.ref a28), (.ref a28)]) _ _ _
  have O89 := (Old.wr O84 W88 g_a28)
  have F90 := Sta.ext O89.2 f13
  refine Go.getS X88 hx hZ hown (w28 hw) Via.refl e88 F90 (hb hby at_86) ?_
  intro T91 X91 e91
  show Go _ _ _ _ T91 (mkF m 89 #[.val (.int p0), .unset, .unset, .unset] [(.ref g12), (.int (12 : Int32)), (.ref a28), (.ref a28)]) _ _ _
  have F92 := Exa.ext O89.2 f40
  refine Go.aastore X91 hx hZ e91 A88 rfl R28 (Ins.self F92) (by decide) (by decide) (hb hby at_89) ?_
  intro T93 h93 X93 e93 W93 A93
  have N93 := Fr.snoc X93 N88 g_a28
  have Z93 : n0 ≤ h93.size := by rw [Wr.size W93]; exact Z88
  have B93 : h0.size ≤ h93.size := by rw [Wr.size W93]; exact B88
  show Go _ _ _ _ T93 (mkF m 90 #[.val (.int p0), .unset, .unset, .unset] [(.ref a28)]) _ _ _
  refine Go.dup X93 hx (hb hby at_90) rfl ?_
  show Go _ _ _ _ T93 (mkF m 91 #[.val (.int p0), .unset, .unset, .unset] [(.ref a28), (.ref a28)]) _ _ _
  refine Go.bipush X93 hx (hb hby at_91) ?_
  show Go _ _ _ _ T93 (mkF m 93 #[.val (.int p0), .unset, .unset, .unset] [(.int (13 : Int32)), (.ref a28), (.ref a28)]) _ _ _
  have O94 := (Old.wr O89 W93 g_a28)
  have F95 := Sta.ext O94.2 f14
  refine Go.getS X93 hx hZ hown (w30 hw) Via.refl e93 F95 (hb hby at_93) ?_
  intro T96 X96 e96
  show Go _ _ _ _ T96 (mkF m 96 #[.val (.int p0), .unset, .unset, .unset] [(.ref g13), (.int (13 : Int32)), (.ref a28), (.ref a28)]) _ _ _
  have F97 := Exa.ext O94.2 f41
  refine Go.aastore X96 hx hZ e96 A93 rfl R28 (Ins.self F97) (by decide) (by decide) (hb hby at_96) ?_
  intro T98 h98 X98 e98 W98 A98
  have N98 := Fr.snoc X98 N93 g_a28
  have Z98 : n0 ≤ h98.size := by rw [Wr.size W98]; exact Z93
  have B98 : h0.size ≤ h98.size := by rw [Wr.size W98]; exact B93
  show Go _ _ _ _ T98 (mkF m 97 #[.val (.int p0), .unset, .unset, .unset] [(.ref a28)]) _ _ _
  refine Go.dup X98 hx (hb hby at_97) rfl ?_
  show Go _ _ _ _ T98 (mkF m 98 #[.val (.int p0), .unset, .unset, .unset] [(.ref a28), (.ref a28)]) _ _ _
  refine Go.bipush X98 hx (hb hby at_98) ?_
  show Go _ _ _ _ T98 (mkF m 100 #[.val (.int p0), .unset, .unset, .unset] [(.int (14 : Int32)), (.ref a28), (.ref a28)]) _ _ _
  have O99 := (Old.wr O94 W98 g_a28)
  have F100 := Sta.ext O99.2 f15
  refine Go.getS X98 hx hZ hown (w32 hw) Via.refl e98 F100 (hb hby at_100) ?_
  intro T101 X101 e101
  show Go _ _ _ _ T101 (mkF m 103 #[.val (.int p0), .unset, .unset, .unset] [(.ref g14), (.int (14 : Int32)), (.ref a28), (.ref a28)]) _ _ _
  have F102 := Exa.ext O99.2 f42
  refine Go.aastore X101 hx hZ e101 A98 rfl R28 (Ins.self F102) (by decide) (by decide) (hb hby at_103) ?_
  intro T103 h103 X103 e103 W103 A103
  have N103 := Fr.snoc X103 N98 g_a28
  have Z103 : n0 ≤ h103.size := by rw [Wr.size W103]; exact Z98
  have B103 : h0.size ≤ h103.size := by rw [Wr.size W103]; exact B98
  show Go _ _ _ _ T103 (mkF m 104 #[.val (.int p0), .unset, .unset, .unset] [(.ref a28)]) _ _ _
  refine Go.dup X103 hx (hb hby at_104) rfl ?_
  show Go _ _ _ _ T103 (mkF m 105 #[.val (.int p0), .unset, .unset, .unset] [(.ref a28), (.ref a28)]) _ _ _
  refine Go.bipush X103 hx (hb hby at_105) ?_
  show Go _ _ _ _ T103 (mkF m 107 #[.val (.int p0), .unset, .unset, .unset] [(.int (15 : Int32)), (.ref a28), (.ref a28)]) _ _ _
  have O104 := (Old.wr O99 W103 g_a28)
  have F105 := Sta.ext O104.2 f16
  refine Go.getS X103 hx hZ hown (w34 hw) Via.refl e103 F105 (hb hby at_107) ?_
  intro T106 X106 e106
  show Go _ _ _ _ T106 (mkF m 110 #[.val (.int p0), .unset, .unset, .unset] [(.ref g15), (.int (15 : Int32)), (.ref a28), (.ref a28)]) _ _ _
  have F107 := Exa.ext O104.2 f43
  refine Go.aastore X106 hx hZ e106 A103 rfl R28 (Ins.self F107) (by decide) (by decide) (hb hby at_110) ?_
  intro T108 h108 X108 e108 W108 A108
  have N108 := Fr.snoc X108 N103 g_a28
  have Z108 : n0 ≤ h108.size := by rw [Wr.size W108]; exact Z103
  have B108 : h0.size ≤ h108.size := by rw [Wr.size W108]; exact B103
  show Go _ _ _ _ T108 (mkF m 111 #[.val (.int p0), .unset, .unset, .unset] [(.ref a28)]) _ _ _
  refine Go.dup X108 hx (hb hby at_111) rfl ?_
  show Go _ _ _ _ T108 (mkF m 112 #[.val (.int p0), .unset, .unset, .unset] [(.ref a28), (.ref a28)]) _ _ _
  refine Go.bipush X108 hx (hb hby at_112) ?_
  show Go _ _ _ _ T108 (mkF m 114 #[.val (.int p0), .unset, .unset, .unset] [(.int (16 : Int32)), (.ref a28), (.ref a28)]) _ _ _
  have O109 := (Old.wr O104 W108 g_a28)
  have F110 := Sta.ext O109.2 f17
  refine Go.getS X108 hx hZ hown (w36 hw) Via.refl e108 F110 (hb hby at_114) ?_
  intro T111 X111 e111
  show Go _ _ _ _ T111 (mkF m 117 #[.val (.int p0), .unset, .unset, .unset] [(.ref g16), (.int (16 : Int32)), (.ref a28), (.ref a28)]) _ _ _
  have F112 := Exa.ext O109.2 f44
  refine Go.aastore X111 hx hZ e111 A108 rfl R28 (Ins.self F112) (by decide) (by decide) (hb hby at_117) ?_
  intro T113 h113 X113 e113 W113 A113
  have N113 := Fr.snoc X113 N108 g_a28
  have Z113 : n0 ≤ h113.size := by rw [Wr.size W113]; exact Z108
  have B113 : h0.size ≤ h113.size := by rw [Wr.size W113]; exact B108
  show Go _ _ _ _ T113 (mkF m 118 #[.val (.int p0), .unset, .unset, .unset] [(.ref a28)]) _ _ _
  refine Go.dup X113 hx (hb hby at_118) rfl ?_
  show Go _ _ _ _ T113 (mkF m 119 #[.val (.int p0), .unset, .unset, .unset] [(.ref a28), (.ref a28)]) _ _ _
  refine Go.bipush X113 hx (hb hby at_119) ?_
  show Go _ _ _ _ T113 (mkF m 121 #[.val (.int p0), .unset, .unset, .unset] [(.int (17 : Int32)), (.ref a28), (.ref a28)]) _ _ _
  have O114 := (Old.wr O109 W113 g_a28)
  have F115 := Sta.ext O114.2 f18
  refine Go.getS X113 hx hZ hown (w38 hw) Via.refl e113 F115 (hb hby at_121) ?_
  intro T116 X116 e116
  show Go _ _ _ _ T116 (mkF m 124 #[.val (.int p0), .unset, .unset, .unset] [(.ref g17), (.int (17 : Int32)), (.ref a28), (.ref a28)]) _ _ _
  have F117 := Exa.ext O114.2 f45
  refine Go.aastore X116 hx hZ e116 A113 rfl R28 (Ins.self F117) (by decide) (by decide) (hb hby at_124) ?_
  intro T118 h118 X118 e118 W118 A118
  have N118 := Fr.snoc X118 N113 g_a28
  have Z118 : n0 ≤ h118.size := by rw [Wr.size W118]; exact Z113
  have B118 : h0.size ≤ h118.size := by rw [Wr.size W118]; exact B113
  show Go _ _ _ _ T118 (mkF m 125 #[.val (.int p0), .unset, .unset, .unset] [(.ref a28)]) _ _ _
  refine Go.dup X118 hx (hb hby at_125) rfl ?_
  show Go _ _ _ _ T118 (mkF m 126 #[.val (.int p0), .unset, .unset, .unset] [(.ref a28), (.ref a28)]) _ _ _
  refine Go.bipush X118 hx (hb hby at_126) ?_
  show Go _ _ _ _ T118 (mkF m 128 #[.val (.int p0), .unset, .unset, .unset] [(.int (18 : Int32)), (.ref a28), (.ref a28)]) _ _ _
  have O119 := (Old.wr O114 W118 g_a28)
  have F120 := Sta.ext O119.2 f19
  refine Go.getS X118 hx hZ hown (w40 hw) Via.refl e118 F120 (hb hby at_128) ?_
  intro T121 X121 e121
  show Go _ _ _ _ T121 (mkF m 131 #[.val (.int p0), .unset, .unset, .unset] [(.ref g18), (.int (18 : Int32)), (.ref a28), (.ref a28)]) _ _ _
  have F122 := Exa.ext O119.2 f46
  refine Go.aastore X121 hx hZ e121 A118 rfl R28 (Ins.self F122) (by decide) (by decide) (hb hby at_131) ?_
  intro T123 h123 X123 e123 W123 A123
  have N123 := Fr.snoc X123 N118 g_a28
  have Z123 : n0 ≤ h123.size := by rw [Wr.size W123]; exact Z118
  have B123 : h0.size ≤ h123.size := by rw [Wr.size W123]; exact B118
  show Go _ _ _ _ T123 (mkF m 132 #[.val (.int p0), .unset, .unset, .unset] [(.ref a28)]) _ _ _
  refine Go.dup X123 hx (hb hby at_132) rfl ?_
  show Go _ _ _ _ T123 (mkF m 133 #[.val (.int p0), .unset, .unset, .unset] [(.ref a28), (.ref a28)]) _ _ _
  refine Go.bipush X123 hx (hb hby at_133) ?_
  show Go _ _ _ _ T123 (mkF m 135 #[.val (.int p0), .unset, .unset, .unset] [(.int (19 : Int32)), (.ref a28), (.ref a28)]) _ _ _
  have O124 := (Old.wr O119 W123 g_a28)
  have F125 := Sta.ext O124.2 f20
  refine Go.getS X123 hx hZ hown (w42 hw) Via.refl e123 F125 (hb hby at_135) ?_
  intro T126 X126 e126
  show Go _ _ _ _ T126 (mkF m 138 #[.val (.int p0), .unset, .unset, .unset] [(.ref g19), (.int (19 : Int32)), (.ref a28), (.ref a28)]) _ _ _
  have F127 := Exa.ext O124.2 f47
  refine Go.aastore X126 hx hZ e126 A123 rfl R28 (Ins.self F127) (by decide) (by decide) (hb hby at_138) ?_
  intro T128 h128 X128 e128 W128 A128
  have N128 := Fr.snoc X128 N123 g_a28
  have Z128 : n0 ≤ h128.size := by rw [Wr.size W128]; exact Z123
  have B128 : h0.size ≤ h128.size := by rw [Wr.size W128]; exact B123
  show Go _ _ _ _ T128 (mkF m 139 #[.val (.int p0), .unset, .unset, .unset] [(.ref a28)]) _ _ _
  refine Go.dup X128 hx (hb hby at_139) rfl ?_
  show Go _ _ _ _ T128 (mkF m 140 #[.val (.int p0), .unset, .unset, .unset] [(.ref a28), (.ref a28)]) _ _ _
  refine Go.bipush X128 hx (hb hby at_140) ?_
  show Go _ _ _ _ T128 (mkF m 142 #[.val (.int p0), .unset, .unset, .unset] [(.int (20 : Int32)), (.ref a28), (.ref a28)]) _ _ _
  have O129 := (Old.wr O124 W128 g_a28)
  have F130 := Sta.ext O129.2 f21
  refine Go.getS X128 hx hZ hown (w44 hw) Via.refl e128 F130 (hb hby at_142) ?_
  intro T131 X131 e131
  show Go _ _ _ _ T131 (mkF m 145 #[.val (.int p0), .unset, .unset, .unset] [(.ref g20), (.int (20 : Int32)), (.ref a28), (.ref a28)]) _ _ _
  have F132 := Exa.ext O129.2 f48
  refine Go.aastore X131 hx hZ e131 A128 rfl R28 (Ins.self F132) (by decide) (by decide) (hb hby at_145) ?_
  intro T133 h133 X133 e133 W133 A133
  have N133 := Fr.snoc X133 N128 g_a28
  have Z133 : n0 ≤ h133.size := by rw [Wr.size W133]; exact Z128
  have B133 : h0.size ≤ h133.size := by rw [Wr.size W133]; exact B128
  show Go _ _ _ _ T133 (mkF m 146 #[.val (.int p0), .unset, .unset, .unset] [(.ref a28)]) _ _ _
  refine Go.dup X133 hx (hb hby at_146) rfl ?_
  show Go _ _ _ _ T133 (mkF m 147 #[.val (.int p0), .unset, .unset, .unset] [(.ref a28), (.ref a28)]) _ _ _
  refine Go.bipush X133 hx (hb hby at_147) ?_
  show Go _ _ _ _ T133 (mkF m 149 #[.val (.int p0), .unset, .unset, .unset] [(.int (21 : Int32)), (.ref a28), (.ref a28)]) _ _ _
  have O134 := (Old.wr O129 W133 g_a28)
  have F135 := Sta.ext O134.2 f22
  refine Go.getS X133 hx hZ hown (w46 hw) Via.refl e133 F135 (hb hby at_149) ?_
  intro T136 X136 e136
  show Go _ _ _ _ T136 (mkF m 152 #[.val (.int p0), .unset, .unset, .unset] [(.ref g21), (.int (21 : Int32)), (.ref a28), (.ref a28)]) _ _ _
  have F137 := Exa.ext O134.2 f49
  refine Go.aastore X136 hx hZ e136 A133 rfl R28 (Ins.self F137) (by decide) (by decide) (hb hby at_152) ?_
  intro T138 h138 X138 e138 W138 A138
  have N138 := Fr.snoc X138 N133 g_a28
  have Z138 : n0 ≤ h138.size := by rw [Wr.size W138]; exact Z133
  have B138 : h0.size ≤ h138.size := by rw [Wr.size W138]; exact B133
  show Go _ _ _ _ T138 (mkF m 153 #[.val (.int p0), .unset, .unset, .unset] [(.ref a28)]) _ _ _
  refine Go.dup X138 hx (hb hby at_153) rfl ?_
  show Go _ _ _ _ T138 (mkF m 154 #[.val (.int p0), .unset, .unset, .unset] [(.ref a28), (.ref a28)]) _ _ _
  refine Go.bipush X138 hx (hb hby at_154) ?_
  show Go _ _ _ _ T138 (mkF m 156 #[.val (.int p0), .unset, .unset, .unset] [(.int (22 : Int32)), (.ref a28), (.ref a28)]) _ _ _
  have O139 := (Old.wr O134 W138 g_a28)
  have F140 := Sta.ext O139.2 f23
  refine Go.getS X138 hx hZ hown (w48 hw) Via.refl e138 F140 (hb hby at_156) ?_
  intro T141 X141 e141
  show Go _ _ _ _ T141 (mkF m 159 #[.val (.int p0), .unset, .unset, .unset] [(.ref g22), (.int (22 : Int32)), (.ref a28), (.ref a28)]) _ _ _
  have F142 := Exa.ext O139.2 f50
  refine Go.aastore X141 hx hZ e141 A138 rfl R28 (Ins.self F142) (by decide) (by decide) (hb hby at_159) ?_
  intro T143 h143 X143 e143 W143 A143
  have N143 := Fr.snoc X143 N138 g_a28
  have Z143 : n0 ≤ h143.size := by rw [Wr.size W143]; exact Z138
  have B143 : h0.size ≤ h143.size := by rw [Wr.size W143]; exact B138
  show Go _ _ _ _ T143 (mkF m 160 #[.val (.int p0), .unset, .unset, .unset] [(.ref a28)]) _ _ _
  refine Go.dup X143 hx (hb hby at_160) rfl ?_
  show Go _ _ _ _ T143 (mkF m 161 #[.val (.int p0), .unset, .unset, .unset] [(.ref a28), (.ref a28)]) _ _ _
  refine Go.bipush X143 hx (hb hby at_161) ?_
  show Go _ _ _ _ T143 (mkF m 163 #[.val (.int p0), .unset, .unset, .unset] [(.int (23 : Int32)), (.ref a28), (.ref a28)]) _ _ _
  have O144 := (Old.wr O139 W143 g_a28)
  have F145 := Sta.ext O144.2 f24
  refine Go.getS X143 hx hZ hown (w50 hw) Via.refl e143 F145 (hb hby at_163) ?_
  intro T146 X146 e146
  show Go _ _ _ _ T146 (mkF m 166 #[.val (.int p0), .unset, .unset, .unset] [(.ref g23), (.int (23 : Int32)), (.ref a28), (.ref a28)]) _ _ _
  have F147 := Exa.ext O144.2 f51
  refine Go.aastore X146 hx hZ e146 A143 rfl R28 (Ins.self F147) (by decide) (by decide) (hb hby at_166) ?_
  intro T148 h148 X148 e148 W148 A148
  have N148 := Fr.snoc X148 N143 g_a28
  have Z148 : n0 ≤ h148.size := by rw [Wr.size W148]; exact Z143
  have B148 : h0.size ≤ h148.size := by rw [Wr.size W148]; exact B143
  show Go _ _ _ _ T148 (mkF m 167 #[.val (.int p0), .unset, .unset, .unset] [(.ref a28)]) _ _ _
  refine Go.dup X148 hx (hb hby at_167) rfl ?_
  show Go _ _ _ _ T148 (mkF m 168 #[.val (.int p0), .unset, .unset, .unset] [(.ref a28), (.ref a28)]) _ _ _
  refine Go.bipush X148 hx (hb hby at_168) ?_
  show Go _ _ _ _ T148 (mkF m 170 #[.val (.int p0), .unset, .unset, .unset] [(.int (24 : Int32)), (.ref a28), (.ref a28)]) _ _ _
  have O149 := (Old.wr O144 W148 g_a28)
  have F150 := Sta.ext O149.2 f25
  refine Go.getS X148 hx hZ hown (w52 hw) Via.refl e148 F150 (hb hby at_170) ?_
  intro T151 X151 e151
  show Go _ _ _ _ T151 (mkF m 173 #[.val (.int p0), .unset, .unset, .unset] [(.ref g24), (.int (24 : Int32)), (.ref a28), (.ref a28)]) _ _ _
  have F152 := Exa.ext O149.2 f52
  refine Go.aastore X151 hx hZ e151 A148 rfl R28 (Ins.self F152) (by decide) (by decide) (hb hby at_173) ?_
  intro T153 h153 X153 e153 W153 A153
  have N153 := Fr.snoc X153 N148 g_a28
  have Z153 : n0 ≤ h153.size := by rw [Wr.size W153]; exact Z148
  have B153 : h0.size ≤ h153.size := by rw [Wr.size W153]; exact B148
  show Go _ _ _ _ T153 (mkF m 174 #[.val (.int p0), .unset, .unset, .unset] [(.ref a28)]) _ _ _
  refine Go.dup X153 hx (hb hby at_174) rfl ?_
  show Go _ _ _ _ T153 (mkF m 175 #[.val (.int p0), .unset, .unset, .unset] [(.ref a28), (.ref a28)]) _ _ _
  refine Go.bipush X153 hx (hb hby at_175) ?_
  show Go _ _ _ _ T153 (mkF m 177 #[.val (.int p0), .unset, .unset, .unset] [(.int (25 : Int32)), (.ref a28), (.ref a28)]) _ _ _
  have O154 := (Old.wr O149 W153 g_a28)
  have F155 := Sta.ext O154.2 f26
  refine Go.getS X153 hx hZ hown (w54 hw) Via.refl e153 F155 (hb hby at_177) ?_
  intro T156 X156 e156
  show Go _ _ _ _ T156 (mkF m 180 #[.val (.int p0), .unset, .unset, .unset] [(.ref g25), (.int (25 : Int32)), (.ref a28), (.ref a28)]) _ _ _
  have F157 := Exa.ext O154.2 f53
  refine Go.aastore X156 hx hZ e156 A153 rfl R28 (Ins.self F157) (by decide) (by decide) (hb hby at_180) ?_
  intro T158 h158 X158 e158 W158 A158
  have N158 := Fr.snoc X158 N153 g_a28
  have Z158 : n0 ≤ h158.size := by rw [Wr.size W158]; exact Z153
  have B158 : h0.size ≤ h158.size := by rw [Wr.size W158]; exact B153
  show Go _ _ _ _ T158 (mkF m 181 #[.val (.int p0), .unset, .unset, .unset] [(.ref a28)]) _ _ _
  refine Go.dup X158 hx (hb hby at_181) rfl ?_
  show Go _ _ _ _ T158 (mkF m 182 #[.val (.int p0), .unset, .unset, .unset] [(.ref a28), (.ref a28)]) _ _ _
  refine Go.bipush X158 hx (hb hby at_182) ?_
  show Go _ _ _ _ T158 (mkF m 184 #[.val (.int p0), .unset, .unset, .unset] [(.int (26 : Int32)), (.ref a28), (.ref a28)]) _ _ _
  have O159 := (Old.wr O154 W158 g_a28)
  have F160 := Sta.ext O159.2 f27
  refine Go.getS X158 hx hZ hown (w56 hw) Via.refl e158 F160 (hb hby at_184) ?_
  intro T161 X161 e161
  show Go _ _ _ _ T161 (mkF m 187 #[.val (.int p0), .unset, .unset, .unset] [(.ref g26), (.int (26 : Int32)), (.ref a28), (.ref a28)]) _ _ _
  have F162 := Exa.ext O159.2 f54
  refine Go.aastore X161 hx hZ e161 A158 rfl R28 (Ins.self F162) (by decide) (by decide) (hb hby at_187) ?_
  intro T163 h163 X163 e163 W163 A163
  have N163 := Fr.snoc X163 N158 g_a28
  have Z163 : n0 ≤ h163.size := by rw [Wr.size W163]; exact Z158
  have B163 : h0.size ≤ h163.size := by rw [Wr.size W163]; exact B158
  show Go _ _ _ _ T163 (mkF m 188 #[.val (.int p0), .unset, .unset, .unset] [(.ref a28)]) _ _ _
  refine Go.astoreN X163 hx (hb hby at_188) rfl (l' := #[.val (.int p0), .val (.ref a28), .unset, .unset]) rfl ?_
  show Go _ _ _ _ T163 (mkF m 189 #[.val (.int p0), .val (.ref a28), .unset, .unset] []) _ _ _
  refine Go.bipush X163 hx (hb hby at_189) ?_
  show Go _ _ _ _ T163 (mkF m 191 #[.val (.int p0), .val (.ref a28), .unset, .unset] [(.int (27 : Int32))]) _ _ _
  have O165 := (Old.wr O159 W163 g_a28)
  have F166 := Exa.ext O165.2 f28
  have F167 := Exa.ext O165.2 f29
  have F168 := Exa.ext O165.2 f30
  have F169 := Exa.ext O165.2 f31
  have F170 := Exa.ext O165.2 f32
  have F171 := Exa.ext O165.2 f33
  have F172 := Exa.ext O165.2 f34
  have F173 := Exa.ext O165.2 f35
  have F174 := Exa.ext O165.2 f36
  have F175 := Exa.ext O165.2 f37
  have F176 := Exa.ext O165.2 f38
  have F177 := Exa.ext O165.2 f39
  have F178 := Exa.ext O165.2 f40
  have F179 := Exa.ext O165.2 f41
  have F180 := Exa.ext O165.2 f42
  have F181 := Exa.ext O165.2 f43
  have F182 := Exa.ext O165.2 f44
  have F183 := Exa.ext O165.2 f45
  have F184 := Exa.ext O165.2 f46
  have F185 := Exa.ext O165.2 f47
  have F186 := Exa.ext O165.2 f48
  have F187 := Exa.ext O165.2 f49
  have F188 := Exa.ext O165.2 f50
  have F189 := Exa.ext O165.2 f51
  have F190 := Exa.ext O165.2 f52
  have F191 := Exa.ext O165.2 f53
  have F192 := Exa.ext O165.2 f54
  refine Go.newarray (aty := .boolean) (cap := 27) X163 hx hZ (w58 hw) e163 (hb hby at_191) (by decide) (by decide) (by decide) (by decide) (by decide) ?_
  intro T164 h164 a164 k164 b164 X164 e164 E164 A164
  have g_a164 : n0 ≤ a164 := by rw [b164]; exact Z163
  have y_a164 : h0.size ≤ a164 := by rw [b164]; exact B163
  have ne_a28_a164 : a28 ≠ a164 := by rw [b164]; exact Nat.ne_of_lt A163.lt
  have ne_g0_a164 : g0 ≠ a164 := by rw [b164]; exact Nat.ne_of_lt F166.lt
  have ne_g1_a164 : g1 ≠ a164 := by rw [b164]; exact Nat.ne_of_lt F167.lt
  have ne_g2_a164 : g2 ≠ a164 := by rw [b164]; exact Nat.ne_of_lt F168.lt
  have ne_g3_a164 : g3 ≠ a164 := by rw [b164]; exact Nat.ne_of_lt F169.lt
  have ne_g4_a164 : g4 ≠ a164 := by rw [b164]; exact Nat.ne_of_lt F170.lt
  have ne_g5_a164 : g5 ≠ a164 := by rw [b164]; exact Nat.ne_of_lt F171.lt
  have ne_g6_a164 : g6 ≠ a164 := by rw [b164]; exact Nat.ne_of_lt F172.lt
  have ne_g7_a164 : g7 ≠ a164 := by rw [b164]; exact Nat.ne_of_lt F173.lt
  have ne_g8_a164 : g8 ≠ a164 := by rw [b164]; exact Nat.ne_of_lt F174.lt
  have ne_g9_a164 : g9 ≠ a164 := by rw [b164]; exact Nat.ne_of_lt F175.lt
  have ne_g10_a164 : g10 ≠ a164 := by rw [b164]; exact Nat.ne_of_lt F176.lt
  have ne_g11_a164 : g11 ≠ a164 := by rw [b164]; exact Nat.ne_of_lt F177.lt
  have ne_g12_a164 : g12 ≠ a164 := by rw [b164]; exact Nat.ne_of_lt F178.lt
  have ne_g13_a164 : g13 ≠ a164 := by rw [b164]; exact Nat.ne_of_lt F179.lt
  have ne_g14_a164 : g14 ≠ a164 := by rw [b164]; exact Nat.ne_of_lt F180.lt
  have ne_g15_a164 : g15 ≠ a164 := by rw [b164]; exact Nat.ne_of_lt F181.lt
  have ne_g16_a164 : g16 ≠ a164 := by rw [b164]; exact Nat.ne_of_lt F182.lt
  have ne_g17_a164 : g17 ≠ a164 := by rw [b164]; exact Nat.ne_of_lt F183.lt
  have ne_g18_a164 : g18 ≠ a164 := by rw [b164]; exact Nat.ne_of_lt F184.lt
  have ne_g19_a164 : g19 ≠ a164 := by rw [b164]; exact Nat.ne_of_lt F185.lt
  have ne_g20_a164 : g20 ≠ a164 := by rw [b164]; exact Nat.ne_of_lt F186.lt
  have ne_g21_a164 : g21 ≠ a164 := by rw [b164]; exact Nat.ne_of_lt F187.lt
  have ne_g22_a164 : g22 ≠ a164 := by rw [b164]; exact Nat.ne_of_lt F188.lt
  have ne_g23_a164 : g23 ≠ a164 := by rw [b164]; exact Nat.ne_of_lt F189.lt
  have ne_g24_a164 : g24 ≠ a164 := by rw [b164]; exact Nat.ne_of_lt F190.lt
  have ne_g25_a164 : g25 ≠ a164 := by rw [b164]; exact Nat.ne_of_lt F191.lt
  have ne_g26_a164 : g26 ≠ a164 := by rw [b164]; exact Nat.ne_of_lt F192.lt
  have Z164 : n0 ≤ h164.size := Nat.le_trans Z163 E164.1
  have B164 : h0.size ≤ h164.size := Nat.le_trans B163 E164.1
  show Go _ _ _ _ T164 (mkF m 193 #[.val (.int p0), .val (.ref a28), .unset, .unset] [(.ref a164)]) _ _ _
  refine Go.dup X164 hx (hb hby at_193) rfl ?_
  show Go _ _ _ _ T164 (mkF m 194 #[.val (.int p0), .val (.ref a28), .unset, .unset] [(.ref a164), (.ref a164)]) _ _ _
  refine Go.iconst X164 hx (hb hby at_194) ?_
  show Go _ _ _ _ T164 (mkF m 195 #[.val (.int p0), .val (.ref a28), .unset, .unset] [(.int (0 : Int32)), (.ref a164), (.ref a164)]) _ _ _
  refine Go.iconst X164 hx (hb hby at_195) ?_
  show Go _ _ _ _ T164 (mkF m 196 #[.val (.int p0), .val (.ref a28), .unset, .unset] [(.int (0 : Int32)), (.int (0 : Int32)), (.ref a164), (.ref a164)]) _ _ _
  refine Go.bastoreZ X164 hx hZ e164 A164 (by decide) (by decide) (hb hby at_196) ?_
  intro T193 h193 X193 e193 W193 A193
  have N193 := Fr.snoc X193 N163 g_a164
  have Z193 : n0 ≤ h193.size := by rw [Wr.size W193]; exact Z164
  have B193 : h0.size ≤ h193.size := by rw [Wr.size W193]; exact B164
  show Go _ _ _ _ T193 (mkF m 197 #[.val (.int p0), .val (.ref a28), .unset, .unset] [(.ref a164)]) _ _ _
  refine Go.dup X193 hx (hb hby at_197) rfl ?_
  show Go _ _ _ _ T193 (mkF m 198 #[.val (.int p0), .val (.ref a28), .unset, .unset] [(.ref a164), (.ref a164)]) _ _ _
  refine Go.iconst X193 hx (hb hby at_198) ?_
  show Go _ _ _ _ T193 (mkF m 199 #[.val (.int p0), .val (.ref a28), .unset, .unset] [(.int (1 : Int32)), (.ref a164), (.ref a164)]) _ _ _
  refine Go.iconst X193 hx (hb hby at_199) ?_
  show Go _ _ _ _ T193 (mkF m 200 #[.val (.int p0), .val (.ref a28), .unset, .unset] [(.int (0 : Int32)), (.int (1 : Int32)), (.ref a164), (.ref a164)]) _ _ _
  refine Go.bastoreZ X193 hx hZ e193 A193 (by decide) (by decide) (hb hby at_200) ?_
  intro T194 h194 X194 e194 W194 A194
  have N194 := Fr.snoc X194 N193 g_a164
  have Z194 : n0 ≤ h194.size := by rw [Wr.size W194]; exact Z193
  have B194 : h0.size ≤ h194.size := by rw [Wr.size W194]; exact B193
  show Go _ _ _ _ T194 (mkF m 201 #[.val (.int p0), .val (.ref a28), .unset, .unset] [(.ref a164)]) _ _ _
  refine Go.dup X194 hx (hb hby at_201) rfl ?_
  show Go _ _ _ _ T194 (mkF m 202 #[.val (.int p0), .val (.ref a28), .unset, .unset] [(.ref a164), (.ref a164)]) _ _ _
  refine Go.iconst X194 hx (hb hby at_202) ?_
  show Go _ _ _ _ T194 (mkF m 203 #[.val (.int p0), .val (.ref a28), .unset, .unset] [(.int (2 : Int32)), (.ref a164), (.ref a164)]) _ _ _
  refine Go.iconst X194 hx (hb hby at_203) ?_
  show Go _ _ _ _ T194 (mkF m 204 #[.val (.int p0), .val (.ref a28), .unset, .unset] [(.int (0 : Int32)), (.int (2 : Int32)), (.ref a164), (.ref a164)]) _ _ _
  refine Go.bastoreZ X194 hx hZ e194 A194 (by decide) (by decide) (hb hby at_204) ?_
  intro T195 h195 X195 e195 W195 A195
  have N195 := Fr.snoc X195 N194 g_a164
  have Z195 : n0 ≤ h195.size := by rw [Wr.size W195]; exact Z194
  have B195 : h0.size ≤ h195.size := by rw [Wr.size W195]; exact B194
  show Go _ _ _ _ T195 (mkF m 205 #[.val (.int p0), .val (.ref a28), .unset, .unset] [(.ref a164)]) _ _ _
  refine Go.dup X195 hx (hb hby at_205) rfl ?_
  show Go _ _ _ _ T195 (mkF m 206 #[.val (.int p0), .val (.ref a28), .unset, .unset] [(.ref a164), (.ref a164)]) _ _ _
  refine Go.iconst X195 hx (hb hby at_206) ?_
  show Go _ _ _ _ T195 (mkF m 207 #[.val (.int p0), .val (.ref a28), .unset, .unset] [(.int (3 : Int32)), (.ref a164), (.ref a164)]) _ _ _
  refine Go.iconst X195 hx (hb hby at_207) ?_
  show Go _ _ _ _ T195 (mkF m 208 #[.val (.int p0), .val (.ref a28), .unset, .unset] [(.int (0 : Int32)), (.int (3 : Int32)), (.ref a164), (.ref a164)]) _ _ _
  refine Go.bastoreZ X195 hx hZ e195 A195 (by decide) (by decide) (hb hby at_208) ?_
  intro T196 h196 X196 e196 W196 A196
  have N196 := Fr.snoc X196 N195 g_a164
  have Z196 : n0 ≤ h196.size := by rw [Wr.size W196]; exact Z195
  have B196 : h0.size ≤ h196.size := by rw [Wr.size W196]; exact B195
  show Go _ _ _ _ T196 (mkF m 209 #[.val (.int p0), .val (.ref a28), .unset, .unset] [(.ref a164)]) _ _ _
  refine Go.dup X196 hx (hb hby at_209) rfl ?_
  show Go _ _ _ _ T196 (mkF m 210 #[.val (.int p0), .val (.ref a28), .unset, .unset] [(.ref a164), (.ref a164)]) _ _ _
  refine Go.iconst X196 hx (hb hby at_210) ?_
  show Go _ _ _ _ T196 (mkF m 211 #[.val (.int p0), .val (.ref a28), .unset, .unset] [(.int (4 : Int32)), (.ref a164), (.ref a164)]) _ _ _
  refine Go.iconst X196 hx (hb hby at_211) ?_
  show Go _ _ _ _ T196 (mkF m 212 #[.val (.int p0), .val (.ref a28), .unset, .unset] [(.int (0 : Int32)), (.int (4 : Int32)), (.ref a164), (.ref a164)]) _ _ _
  refine Go.bastoreZ X196 hx hZ e196 A196 (by decide) (by decide) (hb hby at_212) ?_
  intro T197 h197 X197 e197 W197 A197
  have N197 := Fr.snoc X197 N196 g_a164
  have Z197 : n0 ≤ h197.size := by rw [Wr.size W197]; exact Z196
  have B197 : h0.size ≤ h197.size := by rw [Wr.size W197]; exact B196
  show Go _ _ _ _ T197 (mkF m 213 #[.val (.int p0), .val (.ref a28), .unset, .unset] [(.ref a164)]) _ _ _
  refine Go.dup X197 hx (hb hby at_213) rfl ?_
  show Go _ _ _ _ T197 (mkF m 214 #[.val (.int p0), .val (.ref a28), .unset, .unset] [(.ref a164), (.ref a164)]) _ _ _
  refine Go.iconst X197 hx (hb hby at_214) ?_
  show Go _ _ _ _ T197 (mkF m 215 #[.val (.int p0), .val (.ref a28), .unset, .unset] [(.int (5 : Int32)), (.ref a164), (.ref a164)]) _ _ _
  refine Go.iconst X197 hx (hb hby at_215) ?_
  show Go _ _ _ _ T197 (mkF m 216 #[.val (.int p0), .val (.ref a28), .unset, .unset] [(.int (0 : Int32)), (.int (5 : Int32)), (.ref a164), (.ref a164)]) _ _ _
  refine Go.bastoreZ X197 hx hZ e197 A197 (by decide) (by decide) (hb hby at_216) ?_
  intro T198 h198 X198 e198 W198 A198
  have N198 := Fr.snoc X198 N197 g_a164
  have Z198 : n0 ≤ h198.size := by rw [Wr.size W198]; exact Z197
  have B198 : h0.size ≤ h198.size := by rw [Wr.size W198]; exact B197
  show Go _ _ _ _ T198 (mkF m 217 #[.val (.int p0), .val (.ref a28), .unset, .unset] [(.ref a164)]) _ _ _
  refine Go.dup X198 hx (hb hby at_217) rfl ?_
  show Go _ _ _ _ T198 (mkF m 218 #[.val (.int p0), .val (.ref a28), .unset, .unset] [(.ref a164), (.ref a164)]) _ _ _
  refine Go.bipush X198 hx (hb hby at_218) ?_
  show Go _ _ _ _ T198 (mkF m 220 #[.val (.int p0), .val (.ref a28), .unset, .unset] [(.int (6 : Int32)), (.ref a164), (.ref a164)]) _ _ _
  refine Go.iconst X198 hx (hb hby at_220) ?_
  show Go _ _ _ _ T198 (mkF m 221 #[.val (.int p0), .val (.ref a28), .unset, .unset] [(.int (0 : Int32)), (.int (6 : Int32)), (.ref a164), (.ref a164)]) _ _ _
  refine Go.bastoreZ X198 hx hZ e198 A198 (by decide) (by decide) (hb hby at_221) ?_
  intro T199 h199 X199 e199 W199 A199
  have N199 := Fr.snoc X199 N198 g_a164
  have Z199 : n0 ≤ h199.size := by rw [Wr.size W199]; exact Z198
  have B199 : h0.size ≤ h199.size := by rw [Wr.size W199]; exact B198
  show Go _ _ _ _ T199 (mkF m 222 #[.val (.int p0), .val (.ref a28), .unset, .unset] [(.ref a164)]) _ _ _
  refine Go.dup X199 hx (hb hby at_222) rfl ?_
  show Go _ _ _ _ T199 (mkF m 223 #[.val (.int p0), .val (.ref a28), .unset, .unset] [(.ref a164), (.ref a164)]) _ _ _
  refine Go.bipush X199 hx (hb hby at_223) ?_
  show Go _ _ _ _ T199 (mkF m 225 #[.val (.int p0), .val (.ref a28), .unset, .unset] [(.int (7 : Int32)), (.ref a164), (.ref a164)]) _ _ _
  refine Go.iconst X199 hx (hb hby at_225) ?_
  show Go _ _ _ _ T199 (mkF m 226 #[.val (.int p0), .val (.ref a28), .unset, .unset] [(.int (0 : Int32)), (.int (7 : Int32)), (.ref a164), (.ref a164)]) _ _ _
  refine Go.bastoreZ X199 hx hZ e199 A199 (by decide) (by decide) (hb hby at_226) ?_
  intro T200 h200 X200 e200 W200 A200
  have N200 := Fr.snoc X200 N199 g_a164
  have Z200 : n0 ≤ h200.size := by rw [Wr.size W200]; exact Z199
  have B200 : h0.size ≤ h200.size := by rw [Wr.size W200]; exact B199
  show Go _ _ _ _ T200 (mkF m 227 #[.val (.int p0), .val (.ref a28), .unset, .unset] [(.ref a164)]) _ _ _
  refine Go.dup X200 hx (hb hby at_227) rfl ?_
  show Go _ _ _ _ T200 (mkF m 228 #[.val (.int p0), .val (.ref a28), .unset, .unset] [(.ref a164), (.ref a164)]) _ _ _
  refine Go.bipush X200 hx (hb hby at_228) ?_
  show Go _ _ _ _ T200 (mkF m 230 #[.val (.int p0), .val (.ref a28), .unset, .unset] [(.int (8 : Int32)), (.ref a164), (.ref a164)]) _ _ _
  refine Go.iconst X200 hx (hb hby at_230) ?_
  show Go _ _ _ _ T200 (mkF m 231 #[.val (.int p0), .val (.ref a28), .unset, .unset] [(.int (0 : Int32)), (.int (8 : Int32)), (.ref a164), (.ref a164)]) _ _ _
  refine Go.bastoreZ X200 hx hZ e200 A200 (by decide) (by decide) (hb hby at_231) ?_
  intro T201 h201 X201 e201 W201 A201
  have N201 := Fr.snoc X201 N200 g_a164
  have Z201 : n0 ≤ h201.size := by rw [Wr.size W201]; exact Z200
  have B201 : h0.size ≤ h201.size := by rw [Wr.size W201]; exact B200
  show Go _ _ _ _ T201 (mkF m 232 #[.val (.int p0), .val (.ref a28), .unset, .unset] [(.ref a164)]) _ _ _
  refine Go.dup X201 hx (hb hby at_232) rfl ?_
  show Go _ _ _ _ T201 (mkF m 233 #[.val (.int p0), .val (.ref a28), .unset, .unset] [(.ref a164), (.ref a164)]) _ _ _
  refine Go.bipush X201 hx (hb hby at_233) ?_
  show Go _ _ _ _ T201 (mkF m 235 #[.val (.int p0), .val (.ref a28), .unset, .unset] [(.int (9 : Int32)), (.ref a164), (.ref a164)]) _ _ _
  refine Go.iconst X201 hx (hb hby at_235) ?_
  show Go _ _ _ _ T201 (mkF m 236 #[.val (.int p0), .val (.ref a28), .unset, .unset] [(.int (0 : Int32)), (.int (9 : Int32)), (.ref a164), (.ref a164)]) _ _ _
  refine Go.bastoreZ X201 hx hZ e201 A201 (by decide) (by decide) (hb hby at_236) ?_
  intro T202 h202 X202 e202 W202 A202
  have N202 := Fr.snoc X202 N201 g_a164
  have Z202 : n0 ≤ h202.size := by rw [Wr.size W202]; exact Z201
  have B202 : h0.size ≤ h202.size := by rw [Wr.size W202]; exact B201
  show Go _ _ _ _ T202 (mkF m 237 #[.val (.int p0), .val (.ref a28), .unset, .unset] [(.ref a164)]) _ _ _
  refine Go.dup X202 hx (hb hby at_237) rfl ?_
  show Go _ _ _ _ T202 (mkF m 238 #[.val (.int p0), .val (.ref a28), .unset, .unset] [(.ref a164), (.ref a164)]) _ _ _
  refine Go.bipush X202 hx (hb hby at_238) ?_
  show Go _ _ _ _ T202 (mkF m 240 #[.val (.int p0), .val (.ref a28), .unset, .unset] [(.int (10 : Int32)), (.ref a164), (.ref a164)]) _ _ _
  refine Go.iconst X202 hx (hb hby at_240) ?_
  show Go _ _ _ _ T202 (mkF m 241 #[.val (.int p0), .val (.ref a28), .unset, .unset] [(.int (0 : Int32)), (.int (10 : Int32)), (.ref a164), (.ref a164)]) _ _ _
  refine Go.bastoreZ X202 hx hZ e202 A202 (by decide) (by decide) (hb hby at_241) ?_
  intro T203 h203 X203 e203 W203 A203
  have N203 := Fr.snoc X203 N202 g_a164
  have Z203 : n0 ≤ h203.size := by rw [Wr.size W203]; exact Z202
  have B203 : h0.size ≤ h203.size := by rw [Wr.size W203]; exact B202
  show Go _ _ _ _ T203 (mkF m 242 #[.val (.int p0), .val (.ref a28), .unset, .unset] [(.ref a164)]) _ _ _
  refine Go.dup X203 hx (hb hby at_242) rfl ?_
  show Go _ _ _ _ T203 (mkF m 243 #[.val (.int p0), .val (.ref a28), .unset, .unset] [(.ref a164), (.ref a164)]) _ _ _
  refine Go.bipush X203 hx (hb hby at_243) ?_
  show Go _ _ _ _ T203 (mkF m 245 #[.val (.int p0), .val (.ref a28), .unset, .unset] [(.int (11 : Int32)), (.ref a164), (.ref a164)]) _ _ _
  refine Go.iconst X203 hx (hb hby at_245) ?_
  show Go _ _ _ _ T203 (mkF m 246 #[.val (.int p0), .val (.ref a28), .unset, .unset] [(.int (0 : Int32)), (.int (11 : Int32)), (.ref a164), (.ref a164)]) _ _ _
  refine Go.bastoreZ X203 hx hZ e203 A203 (by decide) (by decide) (hb hby at_246) ?_
  intro T204 h204 X204 e204 W204 A204
  have N204 := Fr.snoc X204 N203 g_a164
  have Z204 : n0 ≤ h204.size := by rw [Wr.size W204]; exact Z203
  have B204 : h0.size ≤ h204.size := by rw [Wr.size W204]; exact B203
  show Go _ _ _ _ T204 (mkF m 247 #[.val (.int p0), .val (.ref a28), .unset, .unset] [(.ref a164)]) _ _ _
  refine Go.dup X204 hx (hb hby at_247) rfl ?_
  show Go _ _ _ _ T204 (mkF m 248 #[.val (.int p0), .val (.ref a28), .unset, .unset] [(.ref a164), (.ref a164)]) _ _ _
  refine Go.bipush X204 hx (hb hby at_248) ?_
  show Go _ _ _ _ T204 (mkF m 250 #[.val (.int p0), .val (.ref a28), .unset, .unset] [(.int (12 : Int32)), (.ref a164), (.ref a164)]) _ _ _
  refine Go.iconst X204 hx (hb hby at_250) ?_
  show Go _ _ _ _ T204 (mkF m 251 #[.val (.int p0), .val (.ref a28), .unset, .unset] [(.int (0 : Int32)), (.int (12 : Int32)), (.ref a164), (.ref a164)]) _ _ _
  refine Go.bastoreZ X204 hx hZ e204 A204 (by decide) (by decide) (hb hby at_251) ?_
  intro T205 h205 X205 e205 W205 A205
  have N205 := Fr.snoc X205 N204 g_a164
  have Z205 : n0 ≤ h205.size := by rw [Wr.size W205]; exact Z204
  have B205 : h0.size ≤ h205.size := by rw [Wr.size W205]; exact B204
  show Go _ _ _ _ T205 (mkF m 252 #[.val (.int p0), .val (.ref a28), .unset, .unset] [(.ref a164)]) _ _ _
  refine Go.dup X205 hx (hb hby at_252) rfl ?_
  show Go _ _ _ _ T205 (mkF m 253 #[.val (.int p0), .val (.ref a28), .unset, .unset] [(.ref a164), (.ref a164)]) _ _ _
  refine Go.bipush X205 hx (hb hby at_253) ?_
  show Go _ _ _ _ T205 (mkF m 255 #[.val (.int p0), .val (.ref a28), .unset, .unset] [(.int (13 : Int32)), (.ref a164), (.ref a164)]) _ _ _
  refine Go.iconst X205 hx (hb hby at_255) ?_
  show Go _ _ _ _ T205 (mkF m 256 #[.val (.int p0), .val (.ref a28), .unset, .unset] [(.int (0 : Int32)), (.int (13 : Int32)), (.ref a164), (.ref a164)]) _ _ _
  refine Go.bastoreZ X205 hx hZ e205 A205 (by decide) (by decide) (hb hby at_256) ?_
  intro T206 h206 X206 e206 W206 A206
  have N206 := Fr.snoc X206 N205 g_a164
  have Z206 : n0 ≤ h206.size := by rw [Wr.size W206]; exact Z205
  have B206 : h0.size ≤ h206.size := by rw [Wr.size W206]; exact B205
  show Go _ _ _ _ T206 (mkF m 257 #[.val (.int p0), .val (.ref a28), .unset, .unset] [(.ref a164)]) _ _ _
  refine Go.dup X206 hx (hb hby at_257) rfl ?_
  show Go _ _ _ _ T206 (mkF m 258 #[.val (.int p0), .val (.ref a28), .unset, .unset] [(.ref a164), (.ref a164)]) _ _ _
  refine Go.bipush X206 hx (hb hby at_258) ?_
  show Go _ _ _ _ T206 (mkF m 260 #[.val (.int p0), .val (.ref a28), .unset, .unset] [(.int (14 : Int32)), (.ref a164), (.ref a164)]) _ _ _
  refine Go.iconst X206 hx (hb hby at_260) ?_
  show Go _ _ _ _ T206 (mkF m 261 #[.val (.int p0), .val (.ref a28), .unset, .unset] [(.int (0 : Int32)), (.int (14 : Int32)), (.ref a164), (.ref a164)]) _ _ _
  refine Go.bastoreZ X206 hx hZ e206 A206 (by decide) (by decide) (hb hby at_261) ?_
  intro T207 h207 X207 e207 W207 A207
  have N207 := Fr.snoc X207 N206 g_a164
  have Z207 : n0 ≤ h207.size := by rw [Wr.size W207]; exact Z206
  have B207 : h0.size ≤ h207.size := by rw [Wr.size W207]; exact B206
  show Go _ _ _ _ T207 (mkF m 262 #[.val (.int p0), .val (.ref a28), .unset, .unset] [(.ref a164)]) _ _ _
  refine Go.dup X207 hx (hb hby at_262) rfl ?_
  show Go _ _ _ _ T207 (mkF m 263 #[.val (.int p0), .val (.ref a28), .unset, .unset] [(.ref a164), (.ref a164)]) _ _ _
  refine Go.bipush X207 hx (hb hby at_263) ?_
  show Go _ _ _ _ T207 (mkF m 265 #[.val (.int p0), .val (.ref a28), .unset, .unset] [(.int (15 : Int32)), (.ref a164), (.ref a164)]) _ _ _
  refine Go.iconst X207 hx (hb hby at_265) ?_
  show Go _ _ _ _ T207 (mkF m 266 #[.val (.int p0), .val (.ref a28), .unset, .unset] [(.int (0 : Int32)), (.int (15 : Int32)), (.ref a164), (.ref a164)]) _ _ _
  refine Go.bastoreZ X207 hx hZ e207 A207 (by decide) (by decide) (hb hby at_266) ?_
  intro T208 h208 X208 e208 W208 A208
  have N208 := Fr.snoc X208 N207 g_a164
  have Z208 : n0 ≤ h208.size := by rw [Wr.size W208]; exact Z207
  have B208 : h0.size ≤ h208.size := by rw [Wr.size W208]; exact B207
  show Go _ _ _ _ T208 (mkF m 267 #[.val (.int p0), .val (.ref a28), .unset, .unset] [(.ref a164)]) _ _ _
  refine Go.dup X208 hx (hb hby at_267) rfl ?_
  show Go _ _ _ _ T208 (mkF m 268 #[.val (.int p0), .val (.ref a28), .unset, .unset] [(.ref a164), (.ref a164)]) _ _ _
  refine Go.bipush X208 hx (hb hby at_268) ?_
  show Go _ _ _ _ T208 (mkF m 270 #[.val (.int p0), .val (.ref a28), .unset, .unset] [(.int (16 : Int32)), (.ref a164), (.ref a164)]) _ _ _
  refine Go.iconst X208 hx (hb hby at_270) ?_
  show Go _ _ _ _ T208 (mkF m 271 #[.val (.int p0), .val (.ref a28), .unset, .unset] [(.int (0 : Int32)), (.int (16 : Int32)), (.ref a164), (.ref a164)]) _ _ _
  refine Go.bastoreZ X208 hx hZ e208 A208 (by decide) (by decide) (hb hby at_271) ?_
  intro T209 h209 X209 e209 W209 A209
  have N209 := Fr.snoc X209 N208 g_a164
  have Z209 : n0 ≤ h209.size := by rw [Wr.size W209]; exact Z208
  have B209 : h0.size ≤ h209.size := by rw [Wr.size W209]; exact B208
  show Go _ _ _ _ T209 (mkF m 272 #[.val (.int p0), .val (.ref a28), .unset, .unset] [(.ref a164)]) _ _ _
  refine Go.dup X209 hx (hb hby at_272) rfl ?_
  show Go _ _ _ _ T209 (mkF m 273 #[.val (.int p0), .val (.ref a28), .unset, .unset] [(.ref a164), (.ref a164)]) _ _ _
  refine Go.bipush X209 hx (hb hby at_273) ?_
  show Go _ _ _ _ T209 (mkF m 275 #[.val (.int p0), .val (.ref a28), .unset, .unset] [(.int (17 : Int32)), (.ref a164), (.ref a164)]) _ _ _
  refine Go.iconst X209 hx (hb hby at_275) ?_
  show Go _ _ _ _ T209 (mkF m 276 #[.val (.int p0), .val (.ref a28), .unset, .unset] [(.int (0 : Int32)), (.int (17 : Int32)), (.ref a164), (.ref a164)]) _ _ _
  refine Go.bastoreZ X209 hx hZ e209 A209 (by decide) (by decide) (hb hby at_276) ?_
  intro T210 h210 X210 e210 W210 A210
  have N210 := Fr.snoc X210 N209 g_a164
  have Z210 : n0 ≤ h210.size := by rw [Wr.size W210]; exact Z209
  have B210 : h0.size ≤ h210.size := by rw [Wr.size W210]; exact B209
  show Go _ _ _ _ T210 (mkF m 277 #[.val (.int p0), .val (.ref a28), .unset, .unset] [(.ref a164)]) _ _ _
  refine Go.dup X210 hx (hb hby at_277) rfl ?_
  show Go _ _ _ _ T210 (mkF m 278 #[.val (.int p0), .val (.ref a28), .unset, .unset] [(.ref a164), (.ref a164)]) _ _ _
  refine Go.bipush X210 hx (hb hby at_278) ?_
  show Go _ _ _ _ T210 (mkF m 280 #[.val (.int p0), .val (.ref a28), .unset, .unset] [(.int (18 : Int32)), (.ref a164), (.ref a164)]) _ _ _
  refine Go.iconst X210 hx (hb hby at_280) ?_
  show Go _ _ _ _ T210 (mkF m 281 #[.val (.int p0), .val (.ref a28), .unset, .unset] [(.int (0 : Int32)), (.int (18 : Int32)), (.ref a164), (.ref a164)]) _ _ _
  refine Go.bastoreZ X210 hx hZ e210 A210 (by decide) (by decide) (hb hby at_281) ?_
  intro T211 h211 X211 e211 W211 A211
  have N211 := Fr.snoc X211 N210 g_a164
  have Z211 : n0 ≤ h211.size := by rw [Wr.size W211]; exact Z210
  have B211 : h0.size ≤ h211.size := by rw [Wr.size W211]; exact B210
  show Go _ _ _ _ T211 (mkF m 282 #[.val (.int p0), .val (.ref a28), .unset, .unset] [(.ref a164)]) _ _ _
  refine Go.dup X211 hx (hb hby at_282) rfl ?_
  show Go _ _ _ _ T211 (mkF m 283 #[.val (.int p0), .val (.ref a28), .unset, .unset] [(.ref a164), (.ref a164)]) _ _ _
  refine Go.bipush X211 hx (hb hby at_283) ?_
  show Go _ _ _ _ T211 (mkF m 285 #[.val (.int p0), .val (.ref a28), .unset, .unset] [(.int (19 : Int32)), (.ref a164), (.ref a164)]) _ _ _
  refine Go.iconst X211 hx (hb hby at_285) ?_
  show Go _ _ _ _ T211 (mkF m 286 #[.val (.int p0), .val (.ref a28), .unset, .unset] [(.int (0 : Int32)), (.int (19 : Int32)), (.ref a164), (.ref a164)]) _ _ _
  refine Go.bastoreZ X211 hx hZ e211 A211 (by decide) (by decide) (hb hby at_286) ?_
  intro T212 h212 X212 e212 W212 A212
  have N212 := Fr.snoc X212 N211 g_a164
  have Z212 : n0 ≤ h212.size := by rw [Wr.size W212]; exact Z211
  have B212 : h0.size ≤ h212.size := by rw [Wr.size W212]; exact B211
  show Go _ _ _ _ T212 (mkF m 287 #[.val (.int p0), .val (.ref a28), .unset, .unset] [(.ref a164)]) _ _ _
  refine Go.dup X212 hx (hb hby at_287) rfl ?_
  show Go _ _ _ _ T212 (mkF m 288 #[.val (.int p0), .val (.ref a28), .unset, .unset] [(.ref a164), (.ref a164)]) _ _ _
  refine Go.bipush X212 hx (hb hby at_288) ?_
  show Go _ _ _ _ T212 (mkF m 290 #[.val (.int p0), .val (.ref a28), .unset, .unset] [(.int (20 : Int32)), (.ref a164), (.ref a164)]) _ _ _
  refine Go.iconst X212 hx (hb hby at_290) ?_
  show Go _ _ _ _ T212 (mkF m 291 #[.val (.int p0), .val (.ref a28), .unset, .unset] [(.int (1 : Int32)), (.int (20 : Int32)), (.ref a164), (.ref a164)]) _ _ _
  refine Go.bastoreZ X212 hx hZ e212 A212 (by decide) (by decide) (hb hby at_291) ?_
  intro T213 h213 X213 e213 W213 A213
  have N213 := Fr.snoc X213 N212 g_a164
  have Z213 : n0 ≤ h213.size := by rw [Wr.size W213]; exact Z212
  have B213 : h0.size ≤ h213.size := by rw [Wr.size W213]; exact B212
  show Go _ _ _ _ T213 (mkF m 292 #[.val (.int p0), .val (.ref a28), .unset, .unset] [(.ref a164)]) _ _ _
  refine Go.dup X213 hx (hb hby at_292) rfl ?_
  show Go _ _ _ _ T213 (mkF m 293 #[.val (.int p0), .val (.ref a28), .unset, .unset] [(.ref a164), (.ref a164)]) _ _ _
  refine Go.bipush X213 hx (hb hby at_293) ?_
  show Go _ _ _ _ T213 (mkF m 295 #[.val (.int p0), .val (.ref a28), .unset, .unset] [(.int (21 : Int32)), (.ref a164), (.ref a164)]) _ _ _
  refine Go.iconst X213 hx (hb hby at_295) ?_
  show Go _ _ _ _ T213 (mkF m 296 #[.val (.int p0), .val (.ref a28), .unset, .unset] [(.int (1 : Int32)), (.int (21 : Int32)), (.ref a164), (.ref a164)]) _ _ _
  refine Go.bastoreZ X213 hx hZ e213 A213 (by decide) (by decide) (hb hby at_296) ?_
  intro T214 h214 X214 e214 W214 A214
  have N214 := Fr.snoc X214 N213 g_a164
  have Z214 : n0 ≤ h214.size := by rw [Wr.size W214]; exact Z213
  have B214 : h0.size ≤ h214.size := by rw [Wr.size W214]; exact B213
  show Go _ _ _ _ T214 (mkF m 297 #[.val (.int p0), .val (.ref a28), .unset, .unset] [(.ref a164)]) _ _ _
  refine Go.dup X214 hx (hb hby at_297) rfl ?_
  show Go _ _ _ _ T214 (mkF m 298 #[.val (.int p0), .val (.ref a28), .unset, .unset] [(.ref a164), (.ref a164)]) _ _ _
  refine Go.bipush X214 hx (hb hby at_298) ?_
  show Go _ _ _ _ T214 (mkF m 300 #[.val (.int p0), .val (.ref a28), .unset, .unset] [(.int (22 : Int32)), (.ref a164), (.ref a164)]) _ _ _
  refine Go.iconst X214 hx (hb hby at_300) ?_
  show Go _ _ _ _ T214 (mkF m 301 #[.val (.int p0), .val (.ref a28), .unset, .unset] [(.int (1 : Int32)), (.int (22 : Int32)), (.ref a164), (.ref a164)]) _ _ _
  refine Go.bastoreZ X214 hx hZ e214 A214 (by decide) (by decide) (hb hby at_301) ?_
  intro T215 h215 X215 e215 W215 A215
  have N215 := Fr.snoc X215 N214 g_a164
  have Z215 : n0 ≤ h215.size := by rw [Wr.size W215]; exact Z214
  have B215 : h0.size ≤ h215.size := by rw [Wr.size W215]; exact B214
  show Go _ _ _ _ T215 (mkF m 302 #[.val (.int p0), .val (.ref a28), .unset, .unset] [(.ref a164)]) _ _ _
  refine Go.dup X215 hx (hb hby at_302) rfl ?_
  show Go _ _ _ _ T215 (mkF m 303 #[.val (.int p0), .val (.ref a28), .unset, .unset] [(.ref a164), (.ref a164)]) _ _ _
  refine Go.bipush X215 hx (hb hby at_303) ?_
  show Go _ _ _ _ T215 (mkF m 305 #[.val (.int p0), .val (.ref a28), .unset, .unset] [(.int (23 : Int32)), (.ref a164), (.ref a164)]) _ _ _
  refine Go.iconst X215 hx (hb hby at_305) ?_
  show Go _ _ _ _ T215 (mkF m 306 #[.val (.int p0), .val (.ref a28), .unset, .unset] [(.int (1 : Int32)), (.int (23 : Int32)), (.ref a164), (.ref a164)]) _ _ _
  refine Go.bastoreZ X215 hx hZ e215 A215 (by decide) (by decide) (hb hby at_306) ?_
  intro T216 h216 X216 e216 W216 A216
  have N216 := Fr.snoc X216 N215 g_a164
  have Z216 : n0 ≤ h216.size := by rw [Wr.size W216]; exact Z215
  have B216 : h0.size ≤ h216.size := by rw [Wr.size W216]; exact B215
  show Go _ _ _ _ T216 (mkF m 307 #[.val (.int p0), .val (.ref a28), .unset, .unset] [(.ref a164)]) _ _ _
  refine Go.dup X216 hx (hb hby at_307) rfl ?_
  show Go _ _ _ _ T216 (mkF m 308 #[.val (.int p0), .val (.ref a28), .unset, .unset] [(.ref a164), (.ref a164)]) _ _ _
  refine Go.bipush X216 hx (hb hby at_308) ?_
  show Go _ _ _ _ T216 (mkF m 310 #[.val (.int p0), .val (.ref a28), .unset, .unset] [(.int (24 : Int32)), (.ref a164), (.ref a164)]) _ _ _
  refine Go.iconst X216 hx (hb hby at_310) ?_
  show Go _ _ _ _ T216 (mkF m 311 #[.val (.int p0), .val (.ref a28), .unset, .unset] [(.int (1 : Int32)), (.int (24 : Int32)), (.ref a164), (.ref a164)]) _ _ _
  refine Go.bastoreZ X216 hx hZ e216 A216 (by decide) (by decide) (hb hby at_311) ?_
  intro T217 h217 X217 e217 W217 A217
  have N217 := Fr.snoc X217 N216 g_a164
  have Z217 : n0 ≤ h217.size := by rw [Wr.size W217]; exact Z216
  have B217 : h0.size ≤ h217.size := by rw [Wr.size W217]; exact B216
  show Go _ _ _ _ T217 (mkF m 312 #[.val (.int p0), .val (.ref a28), .unset, .unset] [(.ref a164)]) _ _ _
  refine Go.dup X217 hx (hb hby at_312) rfl ?_
  show Go _ _ _ _ T217 (mkF m 313 #[.val (.int p0), .val (.ref a28), .unset, .unset] [(.ref a164), (.ref a164)]) _ _ _
  refine Go.bipush X217 hx (hb hby at_313) ?_
  show Go _ _ _ _ T217 (mkF m 315 #[.val (.int p0), .val (.ref a28), .unset, .unset] [(.int (25 : Int32)), (.ref a164), (.ref a164)]) _ _ _
  refine Go.iconst X217 hx (hb hby at_315) ?_
  show Go _ _ _ _ T217 (mkF m 316 #[.val (.int p0), .val (.ref a28), .unset, .unset] [(.int (1 : Int32)), (.int (25 : Int32)), (.ref a164), (.ref a164)]) _ _ _
  refine Go.bastoreZ X217 hx hZ e217 A217 (by decide) (by decide) (hb hby at_316) ?_
  intro T218 h218 X218 e218 W218 A218
  have N218 := Fr.snoc X218 N217 g_a164
  have Z218 : n0 ≤ h218.size := by rw [Wr.size W218]; exact Z217
  have B218 : h0.size ≤ h218.size := by rw [Wr.size W218]; exact B217
  show Go _ _ _ _ T218 (mkF m 317 #[.val (.int p0), .val (.ref a28), .unset, .unset] [(.ref a164)]) _ _ _
  refine Go.dup X218 hx (hb hby at_317) rfl ?_
  show Go _ _ _ _ T218 (mkF m 318 #[.val (.int p0), .val (.ref a28), .unset, .unset] [(.ref a164), (.ref a164)]) _ _ _
  refine Go.bipush X218 hx (hb hby at_318) ?_
  show Go _ _ _ _ T218 (mkF m 320 #[.val (.int p0), .val (.ref a28), .unset, .unset] [(.int (26 : Int32)), (.ref a164), (.ref a164)]) _ _ _
  refine Go.iconst X218 hx (hb hby at_320) ?_
  show Go _ _ _ _ T218 (mkF m 321 #[.val (.int p0), .val (.ref a28), .unset, .unset] [(.int (0 : Int32)), (.int (26 : Int32)), (.ref a164), (.ref a164)]) _ _ _
  refine Go.bastoreZ X218 hx hZ e218 A218 (by decide) (by decide) (hb hby at_321) ?_
  intro T219 h219 X219 e219 W219 A219
  have N219 := Fr.snoc X219 N218 g_a164
  have Z219 : n0 ≤ h219.size := by rw [Wr.size W219]; exact Z218
  have B219 : h0.size ≤ h219.size := by rw [Wr.size W219]; exact B218
  show Go _ _ _ _ T219 (mkF m 322 #[.val (.int p0), .val (.ref a28), .unset, .unset] [(.ref a164)]) _ _ _
  refine Go.astoreN X219 hx (hb hby at_322) rfl (l' := #[.val (.int p0), .val (.ref a28), .val (.ref a164), .unset]) rfl ?_
  show Go _ _ _ _ T219 (mkF m 323 #[.val (.int p0), .val (.ref a28), .val (.ref a164), .unset] []) _ _ _
  refine Go.iloadN X219 hx (hb hby at_323) rfl ?_
  show Go _ _ _ _ T219 (mkF m 324 #[.val (.int p0), .val (.ref a28), .val (.ref a164), .unset] [(.int p0)]) _ _ _
  refine Go.ldc X219 hx hZ hown (w59 hw) (hb hby at_324) ?_
  show Go _ _ _ _ T219 (mkF m 326 #[.val (.int p0), .val (.ref a28), .val (.ref a164), .unset] [(.int (2147483647 : Int32)), (.int p0)]) _ _ _
  refine Go.iand X219 hx (hb hby at_326) ?_
  show Go _ _ _ _ T219 (mkF m 327 #[.val (.int p0), .val (.ref a28), .val (.ref a164), .unset] [(.int (p0 &&& (2147483647 : Int32)))]) _ _ _
  refine Go.bipush X219 hx (hb hby at_327) ?_
  show Go _ _ _ _ T219 (mkF m 329 #[.val (.int p0), .val (.ref a28), .val (.ref a164), .unset] [(.int (27 : Int32)), (.int (p0 &&& (2147483647 : Int32)))]) _ _ _
  refine Go.irem X219 hx (hb hby at_329) (by decide) ?_
  show Go _ _ _ _ T219 (mkF m 330 #[.val (.int p0), .val (.ref a28), .val (.ref a164), .unset] [(.int ((p0 &&& (2147483647 : Int32)) % (27 : Int32)))]) _ _ _
  refine Go.istoreN X219 hx (hb hby at_330) (l' := #[.val (.int p0), .val (.ref a28), .val (.ref a164), .val (.int ((p0 &&& (2147483647 : Int32)) % (27 : Int32)))]) rfl ?_
  show Go _ _ _ _ T219 (mkF m 331 #[.val (.int p0), .val (.ref a28), .val (.ref a164), .val (.int ((p0 &&& (2147483647 : Int32)) % (27 : Int32)))] []) _ _ _
  refine (show ∀ i3 : Int32, i3 = ((p0 &&& (2147483647 : Int32)) % (27 : Int32)) → Go _ _ _ _ T219 (mkF m 331 #[.val (.int p0), .val (.ref a28), .val (.ref a164), .val (.int i3)] []) _ _ _ from ?_) _ rfl
  intro i3 g_i3
  have O220 := (Old.wr (Old.wr (Old.wr (Old.wr (Old.wr (Old.wr (Old.wr (Old.ext O165 E164) W193 g_a164) W194 g_a164) W195 g_a164) W196 g_a164) W197 g_a164) W198 g_a164) W199 g_a164)
  have O221 := (Old.wr (Old.wr (Old.wr (Old.wr (Old.wr (Old.wr (Old.wr O220 W200 g_a164) W201 g_a164) W202 g_a164) W203 g_a164) W204 g_a164) W205 g_a164) W206 g_a164)
  have O222 := (Old.wr (Old.wr (Old.wr (Old.wr (Old.wr (Old.wr (Old.wr O221 W207 g_a164) W208 g_a164) W209 g_a164) W210 g_a164) W211 g_a164) W212 g_a164) W213 g_a164)
  have O223 := (Old.wr (Old.wr (Old.wr (Old.wr (Old.wr (Old.wr O222 W214 g_a164) W215 g_a164) W216 g_a164) W217 g_a164) W218 g_a164) W219 g_a164)
  have F224 := Exa.ext O223.2 f28
  have F225 := Exa.ext O223.2 f29
  have F226 := Exa.ext O223.2 f30
  have F227 := Exa.ext O223.2 f31
  have F228 := Exa.ext O223.2 f32
  have F229 := Exa.ext O223.2 f33
  have F230 := Exa.ext O223.2 f34
  have F231 := Exa.ext O223.2 f35
  have F232 := Exa.ext O223.2 f36
  have F233 := Exa.ext O223.2 f37
  have F234 := Exa.ext O223.2 f38
  have F235 := Exa.ext O223.2 f39
  have F236 := Exa.ext O223.2 f40
  have F237 := Exa.ext O223.2 f41
  have F238 := Exa.ext O223.2 f42
  have F239 := Exa.ext O223.2 f43
  have F240 := Exa.ext O223.2 f44
  have F241 := Exa.ext O223.2 f45
  have F242 := Exa.ext O223.2 f46
  have F243 := Exa.ext O223.2 f47
  have F244 := Exa.ext O223.2 f48
  have F245 := Exa.ext O223.2 f49
  have F246 := Exa.ext O223.2 f50
  have F247 := Exa.ext O223.2 f51
  have F248 := Exa.ext O223.2 f52
  have F249 := Exa.ext O223.2 f53
  have F250 := Exa.ext O223.2 f54
  have F251 := Sta.ext O223.2 f21
  have F252 := Sta.ext O223.2 f22
  have F253 := Sta.ext O223.2 f23
  have F254 := Sta.ext O223.2 f24
  have F255 := Sta.ext O223.2 f25
  have F256 := Sta.ext O223.2 f26
  have ci := own_cases27 (i := i3) (by rw [g_i3]; exact (own_mod p0 27 27 rfl (by decide)).1) (by rw [g_i3]; exact (own_mod p0 27 27 rfl (by decide)).2)
  rcases ci with rfl | rfl | rfl | rfl | rfl | rfl | rfl | rfl | rfl | rfl | rfl | rfl | rfl | rfl | rfl | rfl | rfl | rfl | rfl | rfl | rfl | rfl | rfl | rfl | rfl | rfl | rfl
  · show Go _ _ _ _ T219 (mkF m 331 #[.val (.int p0), .val (.ref a28), .val (.ref a164), .val (.int (0 : Int32))] []) _ _ _
    refine Go.aloadN X219 hx (hb hby at_331) rfl rfl ?_
    show Go _ _ _ _ T219 (mkF m 332 #[.val (.int p0), .val (.ref a28), .val (.ref a164), .val (.int (0 : Int32))] [(.ref a28)]) _ _ _
    refine Go.iloadN X219 hx (hb hby at_332) rfl ?_
    show Go _ _ _ _ T219 (mkF m 333 #[.val (.int p0), .val (.ref a28), .val (.ref a164), .val (.int (0 : Int32))] [(.int (0 : Int32)), (.ref a28)]) _ _ _
    have F257 := (Af.other W219 (Af.other W218 (Af.other W217 (Af.other W216 (Af.other W215 (Af.other W214 (Af.other W213 (Af.other W212 (Af.other W211 (Af.other W210 (Af.other W209 (Af.other W208 (Af.other W207 (Af.other W206 (Af.other W205 (Af.other W204 (Af.other W203 (Af.other W202 (Af.other W201 (Af.other W200 (Af.other W199 (Af.other W198 (Af.other W197 (Af.other W196 (Af.other W195 (Af.other W194 (Af.other W193 (Af.ext E164 A163) ne_a28_a164) ne_a28_a164) ne_a28_a164) ne_a28_a164) ne_a28_a164) ne_a28_a164) ne_a28_a164) ne_a28_a164) ne_a28_a164) ne_a28_a164) ne_a28_a164) ne_a28_a164) ne_a28_a164) ne_a28_a164) ne_a28_a164) ne_a28_a164) ne_a28_a164) ne_a28_a164) ne_a28_a164) ne_a28_a164) ne_a28_a164) ne_a28_a164) ne_a28_a164) ne_a28_a164) ne_a28_a164) ne_a28_a164) ne_a28_a164)
    refine Go.aaload X219 hx hZ e219 F257 rfl (by decide) (by decide) (hb hby at_333) ?_
    show Go _ _ _ _ T219 (mkF m 334 #[.val (.int p0), .val (.ref a28), .val (.ref a164), .val (.int (0 : Int32))] [(.ref g0)]) _ _ _
    refine Go.callV (W := 0) (argsL := []) (rest := []) X219 hx hZ hown (w60 hw) (w61 hw) (w63 hw) (w62 hw) (w3 hw) (w64 hw) (notFace_of_selects (args := #[]) (mvT hZ (w63 hw))) (by decide) F224 (rm_il6 l Z a0 hw g0 g20 g21 g22 g23 g24 g25 h219 n0 Z219 F251 F252 F253 F254 F255 F256 (Fld.ne f55 f75 (by decide)) (Fld.ne f55 f76 (by decide)) (Fld.ne f55 f77 (by decide)) (Fld.ne f55 f78 (by decide)) (Fld.ne f55 f79 (by decide)) (Fld.ne f55 f80 (by decide))) e219 (lenOf pd_0 rfl) (hb hby at_334) (by rw [hml]; rfl) rfl (Nat.le_of_eq rfl) (by decide) (by decide) (by decide) (by decide) ?_
    intro v258 T258 L258 X258 q258
    obtain ⟨rfl, M258, e258⟩ := q258
    have N258 := Fr.app N219 M258
    show Go _ _ _ _ T258 (mkF m 337 #[.val (.int p0), .val (.ref a28), .val (.ref a164), .val (.int (0 : Int32))] [(.int (0 : Int32))]) _ _ _
    refine Go.aloadN X258 hx (hb hby at_337) rfl rfl ?_
    show Go _ _ _ _ T258 (mkF m 338 #[.val (.int p0), .val (.ref a28), .val (.ref a164), .val (.int (0 : Int32))] [(.ref a164), (.int (0 : Int32))]) _ _ _
    refine Go.iloadN X258 hx (hb hby at_338) rfl ?_
    show Go _ _ _ _ T258 (mkF m 339 #[.val (.int p0), .val (.ref a28), .val (.ref a164), .val (.int (0 : Int32))] [(.int (0 : Int32)), (.ref a164), (.int (0 : Int32))]) _ _ _
    refine Go.baloadZ X258 hx hZ e258 A219 (by decide) (by decide) (hb hby at_339) ?_
    show Go _ _ _ _ T258 (mkF m 340 #[.val (.int p0), .val (.ref a28), .val (.ref a164), .val (.int (0 : Int32))] [(.int (0 : Int32)), (.int (0 : Int32))]) _ _ _
    refine Go.icmpNo X258 hx (hb hby at_340) (XT.ii_ne_f (by decide)) ?_
    show Go _ _ _ _ T258 (mkF m 343 #[.val (.int p0), .val (.ref a28), .val (.ref a164), .val (.int (0 : Int32))] []) _ _ _
    refine Go.iconst X258 hx (hb hby at_343) ?_
    show Go _ _ _ _ T258 (mkF m 344 #[.val (.int p0), .val (.ref a28), .val (.ref a164), .val (.int (0 : Int32))] [(.int (1 : Int32))]) _ _ _
    refine Go.goto X258 hx (hb hby at_344) (pc' := 348) (by decide) (by decide) ?_
    show Go _ _ _ _ T258 (mkF m 348 #[.val (.int p0), .val (.ref a28), .val (.ref a164), .val (.int (0 : Int32))] [(.int (1 : Int32))]) _ _ _
    refine Go.retZ X258 hx hlk hret (by decide) (hb hby at_348) (by decide) (by decide) ?_
    rw [e258]
    exact ⟨rfl, N258⟩
  · show Go _ _ _ _ T219 (mkF m 331 #[.val (.int p0), .val (.ref a28), .val (.ref a164), .val (.int (1 : Int32))] []) _ _ _
    refine Go.aloadN X219 hx (hb hby at_331) rfl rfl ?_
    show Go _ _ _ _ T219 (mkF m 332 #[.val (.int p0), .val (.ref a28), .val (.ref a164), .val (.int (1 : Int32))] [(.ref a28)]) _ _ _
    refine Go.iloadN X219 hx (hb hby at_332) rfl ?_
    show Go _ _ _ _ T219 (mkF m 333 #[.val (.int p0), .val (.ref a28), .val (.ref a164), .val (.int (1 : Int32))] [(.int (1 : Int32)), (.ref a28)]) _ _ _
    have F259 := (Af.other W219 (Af.other W218 (Af.other W217 (Af.other W216 (Af.other W215 (Af.other W214 (Af.other W213 (Af.other W212 (Af.other W211 (Af.other W210 (Af.other W209 (Af.other W208 (Af.other W207 (Af.other W206 (Af.other W205 (Af.other W204 (Af.other W203 (Af.other W202 (Af.other W201 (Af.other W200 (Af.other W199 (Af.other W198 (Af.other W197 (Af.other W196 (Af.other W195 (Af.other W194 (Af.other W193 (Af.ext E164 A163) ne_a28_a164) ne_a28_a164) ne_a28_a164) ne_a28_a164) ne_a28_a164) ne_a28_a164) ne_a28_a164) ne_a28_a164) ne_a28_a164) ne_a28_a164) ne_a28_a164) ne_a28_a164) ne_a28_a164) ne_a28_a164) ne_a28_a164) ne_a28_a164) ne_a28_a164) ne_a28_a164) ne_a28_a164) ne_a28_a164) ne_a28_a164) ne_a28_a164) ne_a28_a164) ne_a28_a164) ne_a28_a164) ne_a28_a164) ne_a28_a164)
    refine Go.aaload X219 hx hZ e219 F259 rfl (by decide) (by decide) (hb hby at_333) ?_
    show Go _ _ _ _ T219 (mkF m 334 #[.val (.int p0), .val (.ref a28), .val (.ref a164), .val (.int (1 : Int32))] [(.ref g1)]) _ _ _
    refine Go.callV (W := 0) (argsL := []) (rest := []) X219 hx hZ hown (w60 hw) (w61 hw) (w63 hw) (w62 hw) (w3 hw) (w64 hw) (notFace_of_selects (args := #[]) (mvT hZ (w63 hw))) (by decide) F225 (rm_il6 l Z a0 hw g1 g20 g21 g22 g23 g24 g25 h219 n0 Z219 F251 F252 F253 F254 F255 F256 (Fld.ne f56 f75 (by decide)) (Fld.ne f56 f76 (by decide)) (Fld.ne f56 f77 (by decide)) (Fld.ne f56 f78 (by decide)) (Fld.ne f56 f79 (by decide)) (Fld.ne f56 f80 (by decide))) e219 (lenOf pd_0 rfl) (hb hby at_334) (by rw [hml]; rfl) rfl (Nat.le_of_eq rfl) (by decide) (by decide) (by decide) (by decide) ?_
    intro v260 T260 L260 X260 q260
    obtain ⟨rfl, M260, e260⟩ := q260
    have N260 := Fr.app N219 M260
    show Go _ _ _ _ T260 (mkF m 337 #[.val (.int p0), .val (.ref a28), .val (.ref a164), .val (.int (1 : Int32))] [(.int (0 : Int32))]) _ _ _
    refine Go.aloadN X260 hx (hb hby at_337) rfl rfl ?_
    show Go _ _ _ _ T260 (mkF m 338 #[.val (.int p0), .val (.ref a28), .val (.ref a164), .val (.int (1 : Int32))] [(.ref a164), (.int (0 : Int32))]) _ _ _
    refine Go.iloadN X260 hx (hb hby at_338) rfl ?_
    show Go _ _ _ _ T260 (mkF m 339 #[.val (.int p0), .val (.ref a28), .val (.ref a164), .val (.int (1 : Int32))] [(.int (1 : Int32)), (.ref a164), (.int (0 : Int32))]) _ _ _
    refine Go.baloadZ X260 hx hZ e260 A219 (by decide) (by decide) (hb hby at_339) ?_
    show Go _ _ _ _ T260 (mkF m 340 #[.val (.int p0), .val (.ref a28), .val (.ref a164), .val (.int (1 : Int32))] [(.int (0 : Int32)), (.int (0 : Int32))]) _ _ _
    refine Go.icmpNo X260 hx (hb hby at_340) (XT.ii_ne_f (by decide)) ?_
    show Go _ _ _ _ T260 (mkF m 343 #[.val (.int p0), .val (.ref a28), .val (.ref a164), .val (.int (1 : Int32))] []) _ _ _
    refine Go.iconst X260 hx (hb hby at_343) ?_
    show Go _ _ _ _ T260 (mkF m 344 #[.val (.int p0), .val (.ref a28), .val (.ref a164), .val (.int (1 : Int32))] [(.int (1 : Int32))]) _ _ _
    refine Go.goto X260 hx (hb hby at_344) (pc' := 348) (by decide) (by decide) ?_
    show Go _ _ _ _ T260 (mkF m 348 #[.val (.int p0), .val (.ref a28), .val (.ref a164), .val (.int (1 : Int32))] [(.int (1 : Int32))]) _ _ _
    refine Go.retZ X260 hx hlk hret (by decide) (hb hby at_348) (by decide) (by decide) ?_
    rw [e260]
    exact ⟨rfl, N260⟩
  · show Go _ _ _ _ T219 (mkF m 331 #[.val (.int p0), .val (.ref a28), .val (.ref a164), .val (.int (2 : Int32))] []) _ _ _
    refine Go.aloadN X219 hx (hb hby at_331) rfl rfl ?_
    show Go _ _ _ _ T219 (mkF m 332 #[.val (.int p0), .val (.ref a28), .val (.ref a164), .val (.int (2 : Int32))] [(.ref a28)]) _ _ _
    refine Go.iloadN X219 hx (hb hby at_332) rfl ?_
    show Go _ _ _ _ T219 (mkF m 333 #[.val (.int p0), .val (.ref a28), .val (.ref a164), .val (.int (2 : Int32))] [(.int (2 : Int32)), (.ref a28)]) _ _ _
    have F261 := (Af.other W219 (Af.other W218 (Af.other W217 (Af.other W216 (Af.other W215 (Af.other W214 (Af.other W213 (Af.other W212 (Af.other W211 (Af.other W210 (Af.other W209 (Af.other W208 (Af.other W207 (Af.other W206 (Af.other W205 (Af.other W204 (Af.other W203 (Af.other W202 (Af.other W201 (Af.other W200 (Af.other W199 (Af.other W198 (Af.other W197 (Af.other W196 (Af.other W195 (Af.other W194 (Af.other W193 (Af.ext E164 A163) ne_a28_a164) ne_a28_a164) ne_a28_a164) ne_a28_a164) ne_a28_a164) ne_a28_a164) ne_a28_a164) ne_a28_a164) ne_a28_a164) ne_a28_a164) ne_a28_a164) ne_a28_a164) ne_a28_a164) ne_a28_a164) ne_a28_a164) ne_a28_a164) ne_a28_a164) ne_a28_a164) ne_a28_a164) ne_a28_a164) ne_a28_a164) ne_a28_a164) ne_a28_a164) ne_a28_a164) ne_a28_a164) ne_a28_a164) ne_a28_a164)
    refine Go.aaload X219 hx hZ e219 F261 rfl (by decide) (by decide) (hb hby at_333) ?_
    show Go _ _ _ _ T219 (mkF m 334 #[.val (.int p0), .val (.ref a28), .val (.ref a164), .val (.int (2 : Int32))] [(.ref g2)]) _ _ _
    refine Go.callV (W := 0) (argsL := []) (rest := []) X219 hx hZ hown (w60 hw) (w61 hw) (w63 hw) (w62 hw) (w3 hw) (w64 hw) (notFace_of_selects (args := #[]) (mvT hZ (w63 hw))) (by decide) F226 (rm_il6 l Z a0 hw g2 g20 g21 g22 g23 g24 g25 h219 n0 Z219 F251 F252 F253 F254 F255 F256 (Fld.ne f57 f75 (by decide)) (Fld.ne f57 f76 (by decide)) (Fld.ne f57 f77 (by decide)) (Fld.ne f57 f78 (by decide)) (Fld.ne f57 f79 (by decide)) (Fld.ne f57 f80 (by decide))) e219 (lenOf pd_0 rfl) (hb hby at_334) (by rw [hml]; rfl) rfl (Nat.le_of_eq rfl) (by decide) (by decide) (by decide) (by decide) ?_
    intro v262 T262 L262 X262 q262
    obtain ⟨rfl, M262, e262⟩ := q262
    have N262 := Fr.app N219 M262
    show Go _ _ _ _ T262 (mkF m 337 #[.val (.int p0), .val (.ref a28), .val (.ref a164), .val (.int (2 : Int32))] [(.int (0 : Int32))]) _ _ _
    refine Go.aloadN X262 hx (hb hby at_337) rfl rfl ?_
    show Go _ _ _ _ T262 (mkF m 338 #[.val (.int p0), .val (.ref a28), .val (.ref a164), .val (.int (2 : Int32))] [(.ref a164), (.int (0 : Int32))]) _ _ _
    refine Go.iloadN X262 hx (hb hby at_338) rfl ?_
    show Go _ _ _ _ T262 (mkF m 339 #[.val (.int p0), .val (.ref a28), .val (.ref a164), .val (.int (2 : Int32))] [(.int (2 : Int32)), (.ref a164), (.int (0 : Int32))]) _ _ _
    refine Go.baloadZ X262 hx hZ e262 A219 (by decide) (by decide) (hb hby at_339) ?_
    show Go _ _ _ _ T262 (mkF m 340 #[.val (.int p0), .val (.ref a28), .val (.ref a164), .val (.int (2 : Int32))] [(.int (0 : Int32)), (.int (0 : Int32))]) _ _ _
    refine Go.icmpNo X262 hx (hb hby at_340) (XT.ii_ne_f (by decide)) ?_
    show Go _ _ _ _ T262 (mkF m 343 #[.val (.int p0), .val (.ref a28), .val (.ref a164), .val (.int (2 : Int32))] []) _ _ _
    refine Go.iconst X262 hx (hb hby at_343) ?_
    show Go _ _ _ _ T262 (mkF m 344 #[.val (.int p0), .val (.ref a28), .val (.ref a164), .val (.int (2 : Int32))] [(.int (1 : Int32))]) _ _ _
    refine Go.goto X262 hx (hb hby at_344) (pc' := 348) (by decide) (by decide) ?_
    show Go _ _ _ _ T262 (mkF m 348 #[.val (.int p0), .val (.ref a28), .val (.ref a164), .val (.int (2 : Int32))] [(.int (1 : Int32))]) _ _ _
    refine Go.retZ X262 hx hlk hret (by decide) (hb hby at_348) (by decide) (by decide) ?_
    rw [e262]
    exact ⟨rfl, N262⟩
  · show Go _ _ _ _ T219 (mkF m 331 #[.val (.int p0), .val (.ref a28), .val (.ref a164), .val (.int (3 : Int32))] []) _ _ _
    refine Go.aloadN X219 hx (hb hby at_331) rfl rfl ?_
    show Go _ _ _ _ T219 (mkF m 332 #[.val (.int p0), .val (.ref a28), .val (.ref a164), .val (.int (3 : Int32))] [(.ref a28)]) _ _ _
    refine Go.iloadN X219 hx (hb hby at_332) rfl ?_
    show Go _ _ _ _ T219 (mkF m 333 #[.val (.int p0), .val (.ref a28), .val (.ref a164), .val (.int (3 : Int32))] [(.int (3 : Int32)), (.ref a28)]) _ _ _
    have F263 := (Af.other W219 (Af.other W218 (Af.other W217 (Af.other W216 (Af.other W215 (Af.other W214 (Af.other W213 (Af.other W212 (Af.other W211 (Af.other W210 (Af.other W209 (Af.other W208 (Af.other W207 (Af.other W206 (Af.other W205 (Af.other W204 (Af.other W203 (Af.other W202 (Af.other W201 (Af.other W200 (Af.other W199 (Af.other W198 (Af.other W197 (Af.other W196 (Af.other W195 (Af.other W194 (Af.other W193 (Af.ext E164 A163) ne_a28_a164) ne_a28_a164) ne_a28_a164) ne_a28_a164) ne_a28_a164) ne_a28_a164) ne_a28_a164) ne_a28_a164) ne_a28_a164) ne_a28_a164) ne_a28_a164) ne_a28_a164) ne_a28_a164) ne_a28_a164) ne_a28_a164) ne_a28_a164) ne_a28_a164) ne_a28_a164) ne_a28_a164) ne_a28_a164) ne_a28_a164) ne_a28_a164) ne_a28_a164) ne_a28_a164) ne_a28_a164) ne_a28_a164) ne_a28_a164)
    refine Go.aaload X219 hx hZ e219 F263 rfl (by decide) (by decide) (hb hby at_333) ?_
    show Go _ _ _ _ T219 (mkF m 334 #[.val (.int p0), .val (.ref a28), .val (.ref a164), .val (.int (3 : Int32))] [(.ref g3)]) _ _ _
    refine Go.callV (W := 0) (argsL := []) (rest := []) X219 hx hZ hown (w60 hw) (w61 hw) (w63 hw) (w62 hw) (w3 hw) (w64 hw) (notFace_of_selects (args := #[]) (mvT hZ (w63 hw))) (by decide) F227 (rm_il6 l Z a0 hw g3 g20 g21 g22 g23 g24 g25 h219 n0 Z219 F251 F252 F253 F254 F255 F256 (Fld.ne f58 f75 (by decide)) (Fld.ne f58 f76 (by decide)) (Fld.ne f58 f77 (by decide)) (Fld.ne f58 f78 (by decide)) (Fld.ne f58 f79 (by decide)) (Fld.ne f58 f80 (by decide))) e219 (lenOf pd_0 rfl) (hb hby at_334) (by rw [hml]; rfl) rfl (Nat.le_of_eq rfl) (by decide) (by decide) (by decide) (by decide) ?_
    intro v264 T264 L264 X264 q264
    obtain ⟨rfl, M264, e264⟩ := q264
    have N264 := Fr.app N219 M264
    show Go _ _ _ _ T264 (mkF m 337 #[.val (.int p0), .val (.ref a28), .val (.ref a164), .val (.int (3 : Int32))] [(.int (0 : Int32))]) _ _ _
    refine Go.aloadN X264 hx (hb hby at_337) rfl rfl ?_
    show Go _ _ _ _ T264 (mkF m 338 #[.val (.int p0), .val (.ref a28), .val (.ref a164), .val (.int (3 : Int32))] [(.ref a164), (.int (0 : Int32))]) _ _ _
    refine Go.iloadN X264 hx (hb hby at_338) rfl ?_
    show Go _ _ _ _ T264 (mkF m 339 #[.val (.int p0), .val (.ref a28), .val (.ref a164), .val (.int (3 : Int32))] [(.int (3 : Int32)), (.ref a164), (.int (0 : Int32))]) _ _ _
    refine Go.baloadZ X264 hx hZ e264 A219 (by decide) (by decide) (hb hby at_339) ?_
    show Go _ _ _ _ T264 (mkF m 340 #[.val (.int p0), .val (.ref a28), .val (.ref a164), .val (.int (3 : Int32))] [(.int (0 : Int32)), (.int (0 : Int32))]) _ _ _
    refine Go.icmpNo X264 hx (hb hby at_340) (XT.ii_ne_f (by decide)) ?_
    show Go _ _ _ _ T264 (mkF m 343 #[.val (.int p0), .val (.ref a28), .val (.ref a164), .val (.int (3 : Int32))] []) _ _ _
    refine Go.iconst X264 hx (hb hby at_343) ?_
    show Go _ _ _ _ T264 (mkF m 344 #[.val (.int p0), .val (.ref a28), .val (.ref a164), .val (.int (3 : Int32))] [(.int (1 : Int32))]) _ _ _
    refine Go.goto X264 hx (hb hby at_344) (pc' := 348) (by decide) (by decide) ?_
    show Go _ _ _ _ T264 (mkF m 348 #[.val (.int p0), .val (.ref a28), .val (.ref a164), .val (.int (3 : Int32))] [(.int (1 : Int32))]) _ _ _
    refine Go.retZ X264 hx hlk hret (by decide) (hb hby at_348) (by decide) (by decide) ?_
    rw [e264]
    exact ⟨rfl, N264⟩
  · show Go _ _ _ _ T219 (mkF m 331 #[.val (.int p0), .val (.ref a28), .val (.ref a164), .val (.int (4 : Int32))] []) _ _ _
    refine Go.aloadN X219 hx (hb hby at_331) rfl rfl ?_
    show Go _ _ _ _ T219 (mkF m 332 #[.val (.int p0), .val (.ref a28), .val (.ref a164), .val (.int (4 : Int32))] [(.ref a28)]) _ _ _
    refine Go.iloadN X219 hx (hb hby at_332) rfl ?_
    show Go _ _ _ _ T219 (mkF m 333 #[.val (.int p0), .val (.ref a28), .val (.ref a164), .val (.int (4 : Int32))] [(.int (4 : Int32)), (.ref a28)]) _ _ _
    have F265 := (Af.other W219 (Af.other W218 (Af.other W217 (Af.other W216 (Af.other W215 (Af.other W214 (Af.other W213 (Af.other W212 (Af.other W211 (Af.other W210 (Af.other W209 (Af.other W208 (Af.other W207 (Af.other W206 (Af.other W205 (Af.other W204 (Af.other W203 (Af.other W202 (Af.other W201 (Af.other W200 (Af.other W199 (Af.other W198 (Af.other W197 (Af.other W196 (Af.other W195 (Af.other W194 (Af.other W193 (Af.ext E164 A163) ne_a28_a164) ne_a28_a164) ne_a28_a164) ne_a28_a164) ne_a28_a164) ne_a28_a164) ne_a28_a164) ne_a28_a164) ne_a28_a164) ne_a28_a164) ne_a28_a164) ne_a28_a164) ne_a28_a164) ne_a28_a164) ne_a28_a164) ne_a28_a164) ne_a28_a164) ne_a28_a164) ne_a28_a164) ne_a28_a164) ne_a28_a164) ne_a28_a164) ne_a28_a164) ne_a28_a164) ne_a28_a164) ne_a28_a164) ne_a28_a164)
    refine Go.aaload X219 hx hZ e219 F265 rfl (by decide) (by decide) (hb hby at_333) ?_
    show Go _ _ _ _ T219 (mkF m 334 #[.val (.int p0), .val (.ref a28), .val (.ref a164), .val (.int (4 : Int32))] [(.ref g4)]) _ _ _
    refine Go.callV (W := 0) (argsL := []) (rest := []) X219 hx hZ hown (w60 hw) (w61 hw) (w63 hw) (w62 hw) (w3 hw) (w64 hw) (notFace_of_selects (args := #[]) (mvT hZ (w63 hw))) (by decide) F228 (rm_il6 l Z a0 hw g4 g20 g21 g22 g23 g24 g25 h219 n0 Z219 F251 F252 F253 F254 F255 F256 (Fld.ne f59 f75 (by decide)) (Fld.ne f59 f76 (by decide)) (Fld.ne f59 f77 (by decide)) (Fld.ne f59 f78 (by decide)) (Fld.ne f59 f79 (by decide)) (Fld.ne f59 f80 (by decide))) e219 (lenOf pd_0 rfl) (hb hby at_334) (by rw [hml]; rfl) rfl (Nat.le_of_eq rfl) (by decide) (by decide) (by decide) (by decide) ?_
    intro v266 T266 L266 X266 q266
    obtain ⟨rfl, M266, e266⟩ := q266
    have N266 := Fr.app N219 M266
    show Go _ _ _ _ T266 (mkF m 337 #[.val (.int p0), .val (.ref a28), .val (.ref a164), .val (.int (4 : Int32))] [(.int (0 : Int32))]) _ _ _
    refine Go.aloadN X266 hx (hb hby at_337) rfl rfl ?_
    show Go _ _ _ _ T266 (mkF m 338 #[.val (.int p0), .val (.ref a28), .val (.ref a164), .val (.int (4 : Int32))] [(.ref a164), (.int (0 : Int32))]) _ _ _
    refine Go.iloadN X266 hx (hb hby at_338) rfl ?_
    show Go _ _ _ _ T266 (mkF m 339 #[.val (.int p0), .val (.ref a28), .val (.ref a164), .val (.int (4 : Int32))] [(.int (4 : Int32)), (.ref a164), (.int (0 : Int32))]) _ _ _
    refine Go.baloadZ X266 hx hZ e266 A219 (by decide) (by decide) (hb hby at_339) ?_
    show Go _ _ _ _ T266 (mkF m 340 #[.val (.int p0), .val (.ref a28), .val (.ref a164), .val (.int (4 : Int32))] [(.int (0 : Int32)), (.int (0 : Int32))]) _ _ _
    refine Go.icmpNo X266 hx (hb hby at_340) (XT.ii_ne_f (by decide)) ?_
    show Go _ _ _ _ T266 (mkF m 343 #[.val (.int p0), .val (.ref a28), .val (.ref a164), .val (.int (4 : Int32))] []) _ _ _
    refine Go.iconst X266 hx (hb hby at_343) ?_
    show Go _ _ _ _ T266 (mkF m 344 #[.val (.int p0), .val (.ref a28), .val (.ref a164), .val (.int (4 : Int32))] [(.int (1 : Int32))]) _ _ _
    refine Go.goto X266 hx (hb hby at_344) (pc' := 348) (by decide) (by decide) ?_
    show Go _ _ _ _ T266 (mkF m 348 #[.val (.int p0), .val (.ref a28), .val (.ref a164), .val (.int (4 : Int32))] [(.int (1 : Int32))]) _ _ _
    refine Go.retZ X266 hx hlk hret (by decide) (hb hby at_348) (by decide) (by decide) ?_
    rw [e266]
    exact ⟨rfl, N266⟩
  · show Go _ _ _ _ T219 (mkF m 331 #[.val (.int p0), .val (.ref a28), .val (.ref a164), .val (.int (5 : Int32))] []) _ _ _
    refine Go.aloadN X219 hx (hb hby at_331) rfl rfl ?_
    show Go _ _ _ _ T219 (mkF m 332 #[.val (.int p0), .val (.ref a28), .val (.ref a164), .val (.int (5 : Int32))] [(.ref a28)]) _ _ _
    refine Go.iloadN X219 hx (hb hby at_332) rfl ?_
    show Go _ _ _ _ T219 (mkF m 333 #[.val (.int p0), .val (.ref a28), .val (.ref a164), .val (.int (5 : Int32))] [(.int (5 : Int32)), (.ref a28)]) _ _ _
    have F267 := (Af.other W219 (Af.other W218 (Af.other W217 (Af.other W216 (Af.other W215 (Af.other W214 (Af.other W213 (Af.other W212 (Af.other W211 (Af.other W210 (Af.other W209 (Af.other W208 (Af.other W207 (Af.other W206 (Af.other W205 (Af.other W204 (Af.other W203 (Af.other W202 (Af.other W201 (Af.other W200 (Af.other W199 (Af.other W198 (Af.other W197 (Af.other W196 (Af.other W195 (Af.other W194 (Af.other W193 (Af.ext E164 A163) ne_a28_a164) ne_a28_a164) ne_a28_a164) ne_a28_a164) ne_a28_a164) ne_a28_a164) ne_a28_a164) ne_a28_a164) ne_a28_a164) ne_a28_a164) ne_a28_a164) ne_a28_a164) ne_a28_a164) ne_a28_a164) ne_a28_a164) ne_a28_a164) ne_a28_a164) ne_a28_a164) ne_a28_a164) ne_a28_a164) ne_a28_a164) ne_a28_a164) ne_a28_a164) ne_a28_a164) ne_a28_a164) ne_a28_a164) ne_a28_a164)
    refine Go.aaload X219 hx hZ e219 F267 rfl (by decide) (by decide) (hb hby at_333) ?_
    show Go _ _ _ _ T219 (mkF m 334 #[.val (.int p0), .val (.ref a28), .val (.ref a164), .val (.int (5 : Int32))] [(.ref g5)]) _ _ _
    refine Go.callV (W := 0) (argsL := []) (rest := []) X219 hx hZ hown (w60 hw) (w61 hw) (w63 hw) (w62 hw) (w3 hw) (w64 hw) (notFace_of_selects (args := #[]) (mvT hZ (w63 hw))) (by decide) F229 (rm_il6 l Z a0 hw g5 g20 g21 g22 g23 g24 g25 h219 n0 Z219 F251 F252 F253 F254 F255 F256 (Fld.ne f60 f75 (by decide)) (Fld.ne f60 f76 (by decide)) (Fld.ne f60 f77 (by decide)) (Fld.ne f60 f78 (by decide)) (Fld.ne f60 f79 (by decide)) (Fld.ne f60 f80 (by decide))) e219 (lenOf pd_0 rfl) (hb hby at_334) (by rw [hml]; rfl) rfl (Nat.le_of_eq rfl) (by decide) (by decide) (by decide) (by decide) ?_
    intro v268 T268 L268 X268 q268
    obtain ⟨rfl, M268, e268⟩ := q268
    have N268 := Fr.app N219 M268
    show Go _ _ _ _ T268 (mkF m 337 #[.val (.int p0), .val (.ref a28), .val (.ref a164), .val (.int (5 : Int32))] [(.int (0 : Int32))]) _ _ _
    refine Go.aloadN X268 hx (hb hby at_337) rfl rfl ?_
    show Go _ _ _ _ T268 (mkF m 338 #[.val (.int p0), .val (.ref a28), .val (.ref a164), .val (.int (5 : Int32))] [(.ref a164), (.int (0 : Int32))]) _ _ _
    refine Go.iloadN X268 hx (hb hby at_338) rfl ?_
    show Go _ _ _ _ T268 (mkF m 339 #[.val (.int p0), .val (.ref a28), .val (.ref a164), .val (.int (5 : Int32))] [(.int (5 : Int32)), (.ref a164), (.int (0 : Int32))]) _ _ _
    refine Go.baloadZ X268 hx hZ e268 A219 (by decide) (by decide) (hb hby at_339) ?_
    show Go _ _ _ _ T268 (mkF m 340 #[.val (.int p0), .val (.ref a28), .val (.ref a164), .val (.int (5 : Int32))] [(.int (0 : Int32)), (.int (0 : Int32))]) _ _ _
    refine Go.icmpNo X268 hx (hb hby at_340) (XT.ii_ne_f (by decide)) ?_
    show Go _ _ _ _ T268 (mkF m 343 #[.val (.int p0), .val (.ref a28), .val (.ref a164), .val (.int (5 : Int32))] []) _ _ _
    refine Go.iconst X268 hx (hb hby at_343) ?_
    show Go _ _ _ _ T268 (mkF m 344 #[.val (.int p0), .val (.ref a28), .val (.ref a164), .val (.int (5 : Int32))] [(.int (1 : Int32))]) _ _ _
    refine Go.goto X268 hx (hb hby at_344) (pc' := 348) (by decide) (by decide) ?_
    show Go _ _ _ _ T268 (mkF m 348 #[.val (.int p0), .val (.ref a28), .val (.ref a164), .val (.int (5 : Int32))] [(.int (1 : Int32))]) _ _ _
    refine Go.retZ X268 hx hlk hret (by decide) (hb hby at_348) (by decide) (by decide) ?_
    rw [e268]
    exact ⟨rfl, N268⟩
  · show Go _ _ _ _ T219 (mkF m 331 #[.val (.int p0), .val (.ref a28), .val (.ref a164), .val (.int (6 : Int32))] []) _ _ _
    refine Go.aloadN X219 hx (hb hby at_331) rfl rfl ?_
    show Go _ _ _ _ T219 (mkF m 332 #[.val (.int p0), .val (.ref a28), .val (.ref a164), .val (.int (6 : Int32))] [(.ref a28)]) _ _ _
    refine Go.iloadN X219 hx (hb hby at_332) rfl ?_
    show Go _ _ _ _ T219 (mkF m 333 #[.val (.int p0), .val (.ref a28), .val (.ref a164), .val (.int (6 : Int32))] [(.int (6 : Int32)), (.ref a28)]) _ _ _
    have F269 := (Af.other W219 (Af.other W218 (Af.other W217 (Af.other W216 (Af.other W215 (Af.other W214 (Af.other W213 (Af.other W212 (Af.other W211 (Af.other W210 (Af.other W209 (Af.other W208 (Af.other W207 (Af.other W206 (Af.other W205 (Af.other W204 (Af.other W203 (Af.other W202 (Af.other W201 (Af.other W200 (Af.other W199 (Af.other W198 (Af.other W197 (Af.other W196 (Af.other W195 (Af.other W194 (Af.other W193 (Af.ext E164 A163) ne_a28_a164) ne_a28_a164) ne_a28_a164) ne_a28_a164) ne_a28_a164) ne_a28_a164) ne_a28_a164) ne_a28_a164) ne_a28_a164) ne_a28_a164) ne_a28_a164) ne_a28_a164) ne_a28_a164) ne_a28_a164) ne_a28_a164) ne_a28_a164) ne_a28_a164) ne_a28_a164) ne_a28_a164) ne_a28_a164) ne_a28_a164) ne_a28_a164) ne_a28_a164) ne_a28_a164) ne_a28_a164) ne_a28_a164) ne_a28_a164)
    refine Go.aaload X219 hx hZ e219 F269 rfl (by decide) (by decide) (hb hby at_333) ?_
    show Go _ _ _ _ T219 (mkF m 334 #[.val (.int p0), .val (.ref a28), .val (.ref a164), .val (.int (6 : Int32))] [(.ref g6)]) _ _ _
    refine Go.callV (W := 0) (argsL := []) (rest := []) X219 hx hZ hown (w60 hw) (w61 hw) (w63 hw) (w62 hw) (w3 hw) (w64 hw) (notFace_of_selects (args := #[]) (mvT hZ (w63 hw))) (by decide) F230 (rm_il6 l Z a0 hw g6 g20 g21 g22 g23 g24 g25 h219 n0 Z219 F251 F252 F253 F254 F255 F256 (Fld.ne f61 f75 (by decide)) (Fld.ne f61 f76 (by decide)) (Fld.ne f61 f77 (by decide)) (Fld.ne f61 f78 (by decide)) (Fld.ne f61 f79 (by decide)) (Fld.ne f61 f80 (by decide))) e219 (lenOf pd_0 rfl) (hb hby at_334) (by rw [hml]; rfl) rfl (Nat.le_of_eq rfl) (by decide) (by decide) (by decide) (by decide) ?_
    intro v270 T270 L270 X270 q270
    obtain ⟨rfl, M270, e270⟩ := q270
    have N270 := Fr.app N219 M270
    show Go _ _ _ _ T270 (mkF m 337 #[.val (.int p0), .val (.ref a28), .val (.ref a164), .val (.int (6 : Int32))] [(.int (0 : Int32))]) _ _ _
    refine Go.aloadN X270 hx (hb hby at_337) rfl rfl ?_
    show Go _ _ _ _ T270 (mkF m 338 #[.val (.int p0), .val (.ref a28), .val (.ref a164), .val (.int (6 : Int32))] [(.ref a164), (.int (0 : Int32))]) _ _ _
    refine Go.iloadN X270 hx (hb hby at_338) rfl ?_
    show Go _ _ _ _ T270 (mkF m 339 #[.val (.int p0), .val (.ref a28), .val (.ref a164), .val (.int (6 : Int32))] [(.int (6 : Int32)), (.ref a164), (.int (0 : Int32))]) _ _ _
    refine Go.baloadZ X270 hx hZ e270 A219 (by decide) (by decide) (hb hby at_339) ?_
    show Go _ _ _ _ T270 (mkF m 340 #[.val (.int p0), .val (.ref a28), .val (.ref a164), .val (.int (6 : Int32))] [(.int (0 : Int32)), (.int (0 : Int32))]) _ _ _
    refine Go.icmpNo X270 hx (hb hby at_340) (XT.ii_ne_f (by decide)) ?_
    show Go _ _ _ _ T270 (mkF m 343 #[.val (.int p0), .val (.ref a28), .val (.ref a164), .val (.int (6 : Int32))] []) _ _ _
    refine Go.iconst X270 hx (hb hby at_343) ?_
    show Go _ _ _ _ T270 (mkF m 344 #[.val (.int p0), .val (.ref a28), .val (.ref a164), .val (.int (6 : Int32))] [(.int (1 : Int32))]) _ _ _
    refine Go.goto X270 hx (hb hby at_344) (pc' := 348) (by decide) (by decide) ?_
    show Go _ _ _ _ T270 (mkF m 348 #[.val (.int p0), .val (.ref a28), .val (.ref a164), .val (.int (6 : Int32))] [(.int (1 : Int32))]) _ _ _
    refine Go.retZ X270 hx hlk hret (by decide) (hb hby at_348) (by decide) (by decide) ?_
    rw [e270]
    exact ⟨rfl, N270⟩
  · show Go _ _ _ _ T219 (mkF m 331 #[.val (.int p0), .val (.ref a28), .val (.ref a164), .val (.int (7 : Int32))] []) _ _ _
    refine Go.aloadN X219 hx (hb hby at_331) rfl rfl ?_
    show Go _ _ _ _ T219 (mkF m 332 #[.val (.int p0), .val (.ref a28), .val (.ref a164), .val (.int (7 : Int32))] [(.ref a28)]) _ _ _
    refine Go.iloadN X219 hx (hb hby at_332) rfl ?_
    show Go _ _ _ _ T219 (mkF m 333 #[.val (.int p0), .val (.ref a28), .val (.ref a164), .val (.int (7 : Int32))] [(.int (7 : Int32)), (.ref a28)]) _ _ _
    have F271 := (Af.other W219 (Af.other W218 (Af.other W217 (Af.other W216 (Af.other W215 (Af.other W214 (Af.other W213 (Af.other W212 (Af.other W211 (Af.other W210 (Af.other W209 (Af.other W208 (Af.other W207 (Af.other W206 (Af.other W205 (Af.other W204 (Af.other W203 (Af.other W202 (Af.other W201 (Af.other W200 (Af.other W199 (Af.other W198 (Af.other W197 (Af.other W196 (Af.other W195 (Af.other W194 (Af.other W193 (Af.ext E164 A163) ne_a28_a164) ne_a28_a164) ne_a28_a164) ne_a28_a164) ne_a28_a164) ne_a28_a164) ne_a28_a164) ne_a28_a164) ne_a28_a164) ne_a28_a164) ne_a28_a164) ne_a28_a164) ne_a28_a164) ne_a28_a164) ne_a28_a164) ne_a28_a164) ne_a28_a164) ne_a28_a164) ne_a28_a164) ne_a28_a164) ne_a28_a164) ne_a28_a164) ne_a28_a164) ne_a28_a164) ne_a28_a164) ne_a28_a164) ne_a28_a164)
    refine Go.aaload X219 hx hZ e219 F271 rfl (by decide) (by decide) (hb hby at_333) ?_
    show Go _ _ _ _ T219 (mkF m 334 #[.val (.int p0), .val (.ref a28), .val (.ref a164), .val (.int (7 : Int32))] [(.ref g7)]) _ _ _
    refine Go.callV (W := 0) (argsL := []) (rest := []) X219 hx hZ hown (w60 hw) (w61 hw) (w63 hw) (w62 hw) (w3 hw) (w64 hw) (notFace_of_selects (args := #[]) (mvT hZ (w63 hw))) (by decide) F231 (rm_il6 l Z a0 hw g7 g20 g21 g22 g23 g24 g25 h219 n0 Z219 F251 F252 F253 F254 F255 F256 (Fld.ne f62 f75 (by decide)) (Fld.ne f62 f76 (by decide)) (Fld.ne f62 f77 (by decide)) (Fld.ne f62 f78 (by decide)) (Fld.ne f62 f79 (by decide)) (Fld.ne f62 f80 (by decide))) e219 (lenOf pd_0 rfl) (hb hby at_334) (by rw [hml]; rfl) rfl (Nat.le_of_eq rfl) (by decide) (by decide) (by decide) (by decide) ?_
    intro v272 T272 L272 X272 q272
    obtain ⟨rfl, M272, e272⟩ := q272
    have N272 := Fr.app N219 M272
    show Go _ _ _ _ T272 (mkF m 337 #[.val (.int p0), .val (.ref a28), .val (.ref a164), .val (.int (7 : Int32))] [(.int (0 : Int32))]) _ _ _
    refine Go.aloadN X272 hx (hb hby at_337) rfl rfl ?_
    show Go _ _ _ _ T272 (mkF m 338 #[.val (.int p0), .val (.ref a28), .val (.ref a164), .val (.int (7 : Int32))] [(.ref a164), (.int (0 : Int32))]) _ _ _
    refine Go.iloadN X272 hx (hb hby at_338) rfl ?_
    show Go _ _ _ _ T272 (mkF m 339 #[.val (.int p0), .val (.ref a28), .val (.ref a164), .val (.int (7 : Int32))] [(.int (7 : Int32)), (.ref a164), (.int (0 : Int32))]) _ _ _
    refine Go.baloadZ X272 hx hZ e272 A219 (by decide) (by decide) (hb hby at_339) ?_
    show Go _ _ _ _ T272 (mkF m 340 #[.val (.int p0), .val (.ref a28), .val (.ref a164), .val (.int (7 : Int32))] [(.int (0 : Int32)), (.int (0 : Int32))]) _ _ _
    refine Go.icmpNo X272 hx (hb hby at_340) (XT.ii_ne_f (by decide)) ?_
    show Go _ _ _ _ T272 (mkF m 343 #[.val (.int p0), .val (.ref a28), .val (.ref a164), .val (.int (7 : Int32))] []) _ _ _
    refine Go.iconst X272 hx (hb hby at_343) ?_
    show Go _ _ _ _ T272 (mkF m 344 #[.val (.int p0), .val (.ref a28), .val (.ref a164), .val (.int (7 : Int32))] [(.int (1 : Int32))]) _ _ _
    refine Go.goto X272 hx (hb hby at_344) (pc' := 348) (by decide) (by decide) ?_
    show Go _ _ _ _ T272 (mkF m 348 #[.val (.int p0), .val (.ref a28), .val (.ref a164), .val (.int (7 : Int32))] [(.int (1 : Int32))]) _ _ _
    refine Go.retZ X272 hx hlk hret (by decide) (hb hby at_348) (by decide) (by decide) ?_
    rw [e272]
    exact ⟨rfl, N272⟩
  · show Go _ _ _ _ T219 (mkF m 331 #[.val (.int p0), .val (.ref a28), .val (.ref a164), .val (.int (8 : Int32))] []) _ _ _
    refine Go.aloadN X219 hx (hb hby at_331) rfl rfl ?_
    show Go _ _ _ _ T219 (mkF m 332 #[.val (.int p0), .val (.ref a28), .val (.ref a164), .val (.int (8 : Int32))] [(.ref a28)]) _ _ _
    refine Go.iloadN X219 hx (hb hby at_332) rfl ?_
    show Go _ _ _ _ T219 (mkF m 333 #[.val (.int p0), .val (.ref a28), .val (.ref a164), .val (.int (8 : Int32))] [(.int (8 : Int32)), (.ref a28)]) _ _ _
    have F273 := (Af.other W219 (Af.other W218 (Af.other W217 (Af.other W216 (Af.other W215 (Af.other W214 (Af.other W213 (Af.other W212 (Af.other W211 (Af.other W210 (Af.other W209 (Af.other W208 (Af.other W207 (Af.other W206 (Af.other W205 (Af.other W204 (Af.other W203 (Af.other W202 (Af.other W201 (Af.other W200 (Af.other W199 (Af.other W198 (Af.other W197 (Af.other W196 (Af.other W195 (Af.other W194 (Af.other W193 (Af.ext E164 A163) ne_a28_a164) ne_a28_a164) ne_a28_a164) ne_a28_a164) ne_a28_a164) ne_a28_a164) ne_a28_a164) ne_a28_a164) ne_a28_a164) ne_a28_a164) ne_a28_a164) ne_a28_a164) ne_a28_a164) ne_a28_a164) ne_a28_a164) ne_a28_a164) ne_a28_a164) ne_a28_a164) ne_a28_a164) ne_a28_a164) ne_a28_a164) ne_a28_a164) ne_a28_a164) ne_a28_a164) ne_a28_a164) ne_a28_a164) ne_a28_a164)
    refine Go.aaload X219 hx hZ e219 F273 rfl (by decide) (by decide) (hb hby at_333) ?_
    show Go _ _ _ _ T219 (mkF m 334 #[.val (.int p0), .val (.ref a28), .val (.ref a164), .val (.int (8 : Int32))] [(.ref g8)]) _ _ _
    refine Go.callV (W := 0) (argsL := []) (rest := []) X219 hx hZ hown (w60 hw) (w61 hw) (w63 hw) (w62 hw) (w3 hw) (w64 hw) (notFace_of_selects (args := #[]) (mvT hZ (w63 hw))) (by decide) F232 (rm_il6 l Z a0 hw g8 g20 g21 g22 g23 g24 g25 h219 n0 Z219 F251 F252 F253 F254 F255 F256 (Fld.ne f63 f75 (by decide)) (Fld.ne f63 f76 (by decide)) (Fld.ne f63 f77 (by decide)) (Fld.ne f63 f78 (by decide)) (Fld.ne f63 f79 (by decide)) (Fld.ne f63 f80 (by decide))) e219 (lenOf pd_0 rfl) (hb hby at_334) (by rw [hml]; rfl) rfl (Nat.le_of_eq rfl) (by decide) (by decide) (by decide) (by decide) ?_
    intro v274 T274 L274 X274 q274
    obtain ⟨rfl, M274, e274⟩ := q274
    have N274 := Fr.app N219 M274
    show Go _ _ _ _ T274 (mkF m 337 #[.val (.int p0), .val (.ref a28), .val (.ref a164), .val (.int (8 : Int32))] [(.int (0 : Int32))]) _ _ _
    refine Go.aloadN X274 hx (hb hby at_337) rfl rfl ?_
    show Go _ _ _ _ T274 (mkF m 338 #[.val (.int p0), .val (.ref a28), .val (.ref a164), .val (.int (8 : Int32))] [(.ref a164), (.int (0 : Int32))]) _ _ _
    refine Go.iloadN X274 hx (hb hby at_338) rfl ?_
    show Go _ _ _ _ T274 (mkF m 339 #[.val (.int p0), .val (.ref a28), .val (.ref a164), .val (.int (8 : Int32))] [(.int (8 : Int32)), (.ref a164), (.int (0 : Int32))]) _ _ _
    refine Go.baloadZ X274 hx hZ e274 A219 (by decide) (by decide) (hb hby at_339) ?_
    show Go _ _ _ _ T274 (mkF m 340 #[.val (.int p0), .val (.ref a28), .val (.ref a164), .val (.int (8 : Int32))] [(.int (0 : Int32)), (.int (0 : Int32))]) _ _ _
    refine Go.icmpNo X274 hx (hb hby at_340) (XT.ii_ne_f (by decide)) ?_
    show Go _ _ _ _ T274 (mkF m 343 #[.val (.int p0), .val (.ref a28), .val (.ref a164), .val (.int (8 : Int32))] []) _ _ _
    refine Go.iconst X274 hx (hb hby at_343) ?_
    show Go _ _ _ _ T274 (mkF m 344 #[.val (.int p0), .val (.ref a28), .val (.ref a164), .val (.int (8 : Int32))] [(.int (1 : Int32))]) _ _ _
    refine Go.goto X274 hx (hb hby at_344) (pc' := 348) (by decide) (by decide) ?_
    show Go _ _ _ _ T274 (mkF m 348 #[.val (.int p0), .val (.ref a28), .val (.ref a164), .val (.int (8 : Int32))] [(.int (1 : Int32))]) _ _ _
    refine Go.retZ X274 hx hlk hret (by decide) (hb hby at_348) (by decide) (by decide) ?_
    rw [e274]
    exact ⟨rfl, N274⟩
  · show Go _ _ _ _ T219 (mkF m 331 #[.val (.int p0), .val (.ref a28), .val (.ref a164), .val (.int (9 : Int32))] []) _ _ _
    refine Go.aloadN X219 hx (hb hby at_331) rfl rfl ?_
    show Go _ _ _ _ T219 (mkF m 332 #[.val (.int p0), .val (.ref a28), .val (.ref a164), .val (.int (9 : Int32))] [(.ref a28)]) _ _ _
    refine Go.iloadN X219 hx (hb hby at_332) rfl ?_
    show Go _ _ _ _ T219 (mkF m 333 #[.val (.int p0), .val (.ref a28), .val (.ref a164), .val (.int (9 : Int32))] [(.int (9 : Int32)), (.ref a28)]) _ _ _
    have F275 := (Af.other W219 (Af.other W218 (Af.other W217 (Af.other W216 (Af.other W215 (Af.other W214 (Af.other W213 (Af.other W212 (Af.other W211 (Af.other W210 (Af.other W209 (Af.other W208 (Af.other W207 (Af.other W206 (Af.other W205 (Af.other W204 (Af.other W203 (Af.other W202 (Af.other W201 (Af.other W200 (Af.other W199 (Af.other W198 (Af.other W197 (Af.other W196 (Af.other W195 (Af.other W194 (Af.other W193 (Af.ext E164 A163) ne_a28_a164) ne_a28_a164) ne_a28_a164) ne_a28_a164) ne_a28_a164) ne_a28_a164) ne_a28_a164) ne_a28_a164) ne_a28_a164) ne_a28_a164) ne_a28_a164) ne_a28_a164) ne_a28_a164) ne_a28_a164) ne_a28_a164) ne_a28_a164) ne_a28_a164) ne_a28_a164) ne_a28_a164) ne_a28_a164) ne_a28_a164) ne_a28_a164) ne_a28_a164) ne_a28_a164) ne_a28_a164) ne_a28_a164) ne_a28_a164)
    refine Go.aaload X219 hx hZ e219 F275 rfl (by decide) (by decide) (hb hby at_333) ?_
    show Go _ _ _ _ T219 (mkF m 334 #[.val (.int p0), .val (.ref a28), .val (.ref a164), .val (.int (9 : Int32))] [(.ref g9)]) _ _ _
    refine Go.callV (W := 0) (argsL := []) (rest := []) X219 hx hZ hown (w60 hw) (w61 hw) (w63 hw) (w62 hw) (w3 hw) (w64 hw) (notFace_of_selects (args := #[]) (mvT hZ (w63 hw))) (by decide) F233 (rm_il6 l Z a0 hw g9 g20 g21 g22 g23 g24 g25 h219 n0 Z219 F251 F252 F253 F254 F255 F256 (Fld.ne f64 f75 (by decide)) (Fld.ne f64 f76 (by decide)) (Fld.ne f64 f77 (by decide)) (Fld.ne f64 f78 (by decide)) (Fld.ne f64 f79 (by decide)) (Fld.ne f64 f80 (by decide))) e219 (lenOf pd_0 rfl) (hb hby at_334) (by rw [hml]; rfl) rfl (Nat.le_of_eq rfl) (by decide) (by decide) (by decide) (by decide) ?_
    intro v276 T276 L276 X276 q276
    obtain ⟨rfl, M276, e276⟩ := q276
    have N276 := Fr.app N219 M276
    show Go _ _ _ _ T276 (mkF m 337 #[.val (.int p0), .val (.ref a28), .val (.ref a164), .val (.int (9 : Int32))] [(.int (0 : Int32))]) _ _ _
    refine Go.aloadN X276 hx (hb hby at_337) rfl rfl ?_
    show Go _ _ _ _ T276 (mkF m 338 #[.val (.int p0), .val (.ref a28), .val (.ref a164), .val (.int (9 : Int32))] [(.ref a164), (.int (0 : Int32))]) _ _ _
    refine Go.iloadN X276 hx (hb hby at_338) rfl ?_
    show Go _ _ _ _ T276 (mkF m 339 #[.val (.int p0), .val (.ref a28), .val (.ref a164), .val (.int (9 : Int32))] [(.int (9 : Int32)), (.ref a164), (.int (0 : Int32))]) _ _ _
    refine Go.baloadZ X276 hx hZ e276 A219 (by decide) (by decide) (hb hby at_339) ?_
    show Go _ _ _ _ T276 (mkF m 340 #[.val (.int p0), .val (.ref a28), .val (.ref a164), .val (.int (9 : Int32))] [(.int (0 : Int32)), (.int (0 : Int32))]) _ _ _
    refine Go.icmpNo X276 hx (hb hby at_340) (XT.ii_ne_f (by decide)) ?_
    show Go _ _ _ _ T276 (mkF m 343 #[.val (.int p0), .val (.ref a28), .val (.ref a164), .val (.int (9 : Int32))] []) _ _ _
    refine Go.iconst X276 hx (hb hby at_343) ?_
    show Go _ _ _ _ T276 (mkF m 344 #[.val (.int p0), .val (.ref a28), .val (.ref a164), .val (.int (9 : Int32))] [(.int (1 : Int32))]) _ _ _
    refine Go.goto X276 hx (hb hby at_344) (pc' := 348) (by decide) (by decide) ?_
    show Go _ _ _ _ T276 (mkF m 348 #[.val (.int p0), .val (.ref a28), .val (.ref a164), .val (.int (9 : Int32))] [(.int (1 : Int32))]) _ _ _
    refine Go.retZ X276 hx hlk hret (by decide) (hb hby at_348) (by decide) (by decide) ?_
    rw [e276]
    exact ⟨rfl, N276⟩
  · show Go _ _ _ _ T219 (mkF m 331 #[.val (.int p0), .val (.ref a28), .val (.ref a164), .val (.int (10 : Int32))] []) _ _ _
    refine Go.aloadN X219 hx (hb hby at_331) rfl rfl ?_
    show Go _ _ _ _ T219 (mkF m 332 #[.val (.int p0), .val (.ref a28), .val (.ref a164), .val (.int (10 : Int32))] [(.ref a28)]) _ _ _
    refine Go.iloadN X219 hx (hb hby at_332) rfl ?_
    show Go _ _ _ _ T219 (mkF m 333 #[.val (.int p0), .val (.ref a28), .val (.ref a164), .val (.int (10 : Int32))] [(.int (10 : Int32)), (.ref a28)]) _ _ _
    have F277 := (Af.other W219 (Af.other W218 (Af.other W217 (Af.other W216 (Af.other W215 (Af.other W214 (Af.other W213 (Af.other W212 (Af.other W211 (Af.other W210 (Af.other W209 (Af.other W208 (Af.other W207 (Af.other W206 (Af.other W205 (Af.other W204 (Af.other W203 (Af.other W202 (Af.other W201 (Af.other W200 (Af.other W199 (Af.other W198 (Af.other W197 (Af.other W196 (Af.other W195 (Af.other W194 (Af.other W193 (Af.ext E164 A163) ne_a28_a164) ne_a28_a164) ne_a28_a164) ne_a28_a164) ne_a28_a164) ne_a28_a164) ne_a28_a164) ne_a28_a164) ne_a28_a164) ne_a28_a164) ne_a28_a164) ne_a28_a164) ne_a28_a164) ne_a28_a164) ne_a28_a164) ne_a28_a164) ne_a28_a164) ne_a28_a164) ne_a28_a164) ne_a28_a164) ne_a28_a164) ne_a28_a164) ne_a28_a164) ne_a28_a164) ne_a28_a164) ne_a28_a164) ne_a28_a164)
    refine Go.aaload X219 hx hZ e219 F277 rfl (by decide) (by decide) (hb hby at_333) ?_
    show Go _ _ _ _ T219 (mkF m 334 #[.val (.int p0), .val (.ref a28), .val (.ref a164), .val (.int (10 : Int32))] [(.ref g10)]) _ _ _
    refine Go.callV (W := 0) (argsL := []) (rest := []) X219 hx hZ hown (w60 hw) (w61 hw) (w63 hw) (w62 hw) (w3 hw) (w64 hw) (notFace_of_selects (args := #[]) (mvT hZ (w63 hw))) (by decide) F234 (rm_il6 l Z a0 hw g10 g20 g21 g22 g23 g24 g25 h219 n0 Z219 F251 F252 F253 F254 F255 F256 (Fld.ne f65 f75 (by decide)) (Fld.ne f65 f76 (by decide)) (Fld.ne f65 f77 (by decide)) (Fld.ne f65 f78 (by decide)) (Fld.ne f65 f79 (by decide)) (Fld.ne f65 f80 (by decide))) e219 (lenOf pd_0 rfl) (hb hby at_334) (by rw [hml]; rfl) rfl (Nat.le_of_eq rfl) (by decide) (by decide) (by decide) (by decide) ?_
    intro v278 T278 L278 X278 q278
    obtain ⟨rfl, M278, e278⟩ := q278
    have N278 := Fr.app N219 M278
    show Go _ _ _ _ T278 (mkF m 337 #[.val (.int p0), .val (.ref a28), .val (.ref a164), .val (.int (10 : Int32))] [(.int (0 : Int32))]) _ _ _
    refine Go.aloadN X278 hx (hb hby at_337) rfl rfl ?_
    show Go _ _ _ _ T278 (mkF m 338 #[.val (.int p0), .val (.ref a28), .val (.ref a164), .val (.int (10 : Int32))] [(.ref a164), (.int (0 : Int32))]) _ _ _
    refine Go.iloadN X278 hx (hb hby at_338) rfl ?_
    show Go _ _ _ _ T278 (mkF m 339 #[.val (.int p0), .val (.ref a28), .val (.ref a164), .val (.int (10 : Int32))] [(.int (10 : Int32)), (.ref a164), (.int (0 : Int32))]) _ _ _
    refine Go.baloadZ X278 hx hZ e278 A219 (by decide) (by decide) (hb hby at_339) ?_
    show Go _ _ _ _ T278 (mkF m 340 #[.val (.int p0), .val (.ref a28), .val (.ref a164), .val (.int (10 : Int32))] [(.int (0 : Int32)), (.int (0 : Int32))]) _ _ _
    refine Go.icmpNo X278 hx (hb hby at_340) (XT.ii_ne_f (by decide)) ?_
    show Go _ _ _ _ T278 (mkF m 343 #[.val (.int p0), .val (.ref a28), .val (.ref a164), .val (.int (10 : Int32))] []) _ _ _
    refine Go.iconst X278 hx (hb hby at_343) ?_
    show Go _ _ _ _ T278 (mkF m 344 #[.val (.int p0), .val (.ref a28), .val (.ref a164), .val (.int (10 : Int32))] [(.int (1 : Int32))]) _ _ _
    refine Go.goto X278 hx (hb hby at_344) (pc' := 348) (by decide) (by decide) ?_
    show Go _ _ _ _ T278 (mkF m 348 #[.val (.int p0), .val (.ref a28), .val (.ref a164), .val (.int (10 : Int32))] [(.int (1 : Int32))]) _ _ _
    refine Go.retZ X278 hx hlk hret (by decide) (hb hby at_348) (by decide) (by decide) ?_
    rw [e278]
    exact ⟨rfl, N278⟩
  · show Go _ _ _ _ T219 (mkF m 331 #[.val (.int p0), .val (.ref a28), .val (.ref a164), .val (.int (11 : Int32))] []) _ _ _
    refine Go.aloadN X219 hx (hb hby at_331) rfl rfl ?_
    show Go _ _ _ _ T219 (mkF m 332 #[.val (.int p0), .val (.ref a28), .val (.ref a164), .val (.int (11 : Int32))] [(.ref a28)]) _ _ _
    refine Go.iloadN X219 hx (hb hby at_332) rfl ?_
    show Go _ _ _ _ T219 (mkF m 333 #[.val (.int p0), .val (.ref a28), .val (.ref a164), .val (.int (11 : Int32))] [(.int (11 : Int32)), (.ref a28)]) _ _ _
    have F279 := (Af.other W219 (Af.other W218 (Af.other W217 (Af.other W216 (Af.other W215 (Af.other W214 (Af.other W213 (Af.other W212 (Af.other W211 (Af.other W210 (Af.other W209 (Af.other W208 (Af.other W207 (Af.other W206 (Af.other W205 (Af.other W204 (Af.other W203 (Af.other W202 (Af.other W201 (Af.other W200 (Af.other W199 (Af.other W198 (Af.other W197 (Af.other W196 (Af.other W195 (Af.other W194 (Af.other W193 (Af.ext E164 A163) ne_a28_a164) ne_a28_a164) ne_a28_a164) ne_a28_a164) ne_a28_a164) ne_a28_a164) ne_a28_a164) ne_a28_a164) ne_a28_a164) ne_a28_a164) ne_a28_a164) ne_a28_a164) ne_a28_a164) ne_a28_a164) ne_a28_a164) ne_a28_a164) ne_a28_a164) ne_a28_a164) ne_a28_a164) ne_a28_a164) ne_a28_a164) ne_a28_a164) ne_a28_a164) ne_a28_a164) ne_a28_a164) ne_a28_a164) ne_a28_a164)
    refine Go.aaload X219 hx hZ e219 F279 rfl (by decide) (by decide) (hb hby at_333) ?_
    show Go _ _ _ _ T219 (mkF m 334 #[.val (.int p0), .val (.ref a28), .val (.ref a164), .val (.int (11 : Int32))] [(.ref g11)]) _ _ _
    refine Go.callV (W := 0) (argsL := []) (rest := []) X219 hx hZ hown (w60 hw) (w61 hw) (w63 hw) (w62 hw) (w3 hw) (w64 hw) (notFace_of_selects (args := #[]) (mvT hZ (w63 hw))) (by decide) F235 (rm_il6 l Z a0 hw g11 g20 g21 g22 g23 g24 g25 h219 n0 Z219 F251 F252 F253 F254 F255 F256 (Fld.ne f66 f75 (by decide)) (Fld.ne f66 f76 (by decide)) (Fld.ne f66 f77 (by decide)) (Fld.ne f66 f78 (by decide)) (Fld.ne f66 f79 (by decide)) (Fld.ne f66 f80 (by decide))) e219 (lenOf pd_0 rfl) (hb hby at_334) (by rw [hml]; rfl) rfl (Nat.le_of_eq rfl) (by decide) (by decide) (by decide) (by decide) ?_
    intro v280 T280 L280 X280 q280
    obtain ⟨rfl, M280, e280⟩ := q280
    have N280 := Fr.app N219 M280
    show Go _ _ _ _ T280 (mkF m 337 #[.val (.int p0), .val (.ref a28), .val (.ref a164), .val (.int (11 : Int32))] [(.int (0 : Int32))]) _ _ _
    refine Go.aloadN X280 hx (hb hby at_337) rfl rfl ?_
    show Go _ _ _ _ T280 (mkF m 338 #[.val (.int p0), .val (.ref a28), .val (.ref a164), .val (.int (11 : Int32))] [(.ref a164), (.int (0 : Int32))]) _ _ _
    refine Go.iloadN X280 hx (hb hby at_338) rfl ?_
    show Go _ _ _ _ T280 (mkF m 339 #[.val (.int p0), .val (.ref a28), .val (.ref a164), .val (.int (11 : Int32))] [(.int (11 : Int32)), (.ref a164), (.int (0 : Int32))]) _ _ _
    refine Go.baloadZ X280 hx hZ e280 A219 (by decide) (by decide) (hb hby at_339) ?_
    show Go _ _ _ _ T280 (mkF m 340 #[.val (.int p0), .val (.ref a28), .val (.ref a164), .val (.int (11 : Int32))] [(.int (0 : Int32)), (.int (0 : Int32))]) _ _ _
    refine Go.icmpNo X280 hx (hb hby at_340) (XT.ii_ne_f (by decide)) ?_
    show Go _ _ _ _ T280 (mkF m 343 #[.val (.int p0), .val (.ref a28), .val (.ref a164), .val (.int (11 : Int32))] []) _ _ _
    refine Go.iconst X280 hx (hb hby at_343) ?_
    show Go _ _ _ _ T280 (mkF m 344 #[.val (.int p0), .val (.ref a28), .val (.ref a164), .val (.int (11 : Int32))] [(.int (1 : Int32))]) _ _ _
    refine Go.goto X280 hx (hb hby at_344) (pc' := 348) (by decide) (by decide) ?_
    show Go _ _ _ _ T280 (mkF m 348 #[.val (.int p0), .val (.ref a28), .val (.ref a164), .val (.int (11 : Int32))] [(.int (1 : Int32))]) _ _ _
    refine Go.retZ X280 hx hlk hret (by decide) (hb hby at_348) (by decide) (by decide) ?_
    rw [e280]
    exact ⟨rfl, N280⟩
  · show Go _ _ _ _ T219 (mkF m 331 #[.val (.int p0), .val (.ref a28), .val (.ref a164), .val (.int (12 : Int32))] []) _ _ _
    refine Go.aloadN X219 hx (hb hby at_331) rfl rfl ?_
    show Go _ _ _ _ T219 (mkF m 332 #[.val (.int p0), .val (.ref a28), .val (.ref a164), .val (.int (12 : Int32))] [(.ref a28)]) _ _ _
    refine Go.iloadN X219 hx (hb hby at_332) rfl ?_
    show Go _ _ _ _ T219 (mkF m 333 #[.val (.int p0), .val (.ref a28), .val (.ref a164), .val (.int (12 : Int32))] [(.int (12 : Int32)), (.ref a28)]) _ _ _
    have F281 := (Af.other W219 (Af.other W218 (Af.other W217 (Af.other W216 (Af.other W215 (Af.other W214 (Af.other W213 (Af.other W212 (Af.other W211 (Af.other W210 (Af.other W209 (Af.other W208 (Af.other W207 (Af.other W206 (Af.other W205 (Af.other W204 (Af.other W203 (Af.other W202 (Af.other W201 (Af.other W200 (Af.other W199 (Af.other W198 (Af.other W197 (Af.other W196 (Af.other W195 (Af.other W194 (Af.other W193 (Af.ext E164 A163) ne_a28_a164) ne_a28_a164) ne_a28_a164) ne_a28_a164) ne_a28_a164) ne_a28_a164) ne_a28_a164) ne_a28_a164) ne_a28_a164) ne_a28_a164) ne_a28_a164) ne_a28_a164) ne_a28_a164) ne_a28_a164) ne_a28_a164) ne_a28_a164) ne_a28_a164) ne_a28_a164) ne_a28_a164) ne_a28_a164) ne_a28_a164) ne_a28_a164) ne_a28_a164) ne_a28_a164) ne_a28_a164) ne_a28_a164) ne_a28_a164)
    refine Go.aaload X219 hx hZ e219 F281 rfl (by decide) (by decide) (hb hby at_333) ?_
    show Go _ _ _ _ T219 (mkF m 334 #[.val (.int p0), .val (.ref a28), .val (.ref a164), .val (.int (12 : Int32))] [(.ref g12)]) _ _ _
    refine Go.callV (W := 0) (argsL := []) (rest := []) X219 hx hZ hown (w60 hw) (w61 hw) (w63 hw) (w62 hw) (w3 hw) (w64 hw) (notFace_of_selects (args := #[]) (mvT hZ (w63 hw))) (by decide) F236 (rm_il6 l Z a0 hw g12 g20 g21 g22 g23 g24 g25 h219 n0 Z219 F251 F252 F253 F254 F255 F256 (Fld.ne f67 f75 (by decide)) (Fld.ne f67 f76 (by decide)) (Fld.ne f67 f77 (by decide)) (Fld.ne f67 f78 (by decide)) (Fld.ne f67 f79 (by decide)) (Fld.ne f67 f80 (by decide))) e219 (lenOf pd_0 rfl) (hb hby at_334) (by rw [hml]; rfl) rfl (Nat.le_of_eq rfl) (by decide) (by decide) (by decide) (by decide) ?_
    intro v282 T282 L282 X282 q282
    obtain ⟨rfl, M282, e282⟩ := q282
    have N282 := Fr.app N219 M282
    show Go _ _ _ _ T282 (mkF m 337 #[.val (.int p0), .val (.ref a28), .val (.ref a164), .val (.int (12 : Int32))] [(.int (0 : Int32))]) _ _ _
    refine Go.aloadN X282 hx (hb hby at_337) rfl rfl ?_
    show Go _ _ _ _ T282 (mkF m 338 #[.val (.int p0), .val (.ref a28), .val (.ref a164), .val (.int (12 : Int32))] [(.ref a164), (.int (0 : Int32))]) _ _ _
    refine Go.iloadN X282 hx (hb hby at_338) rfl ?_
    show Go _ _ _ _ T282 (mkF m 339 #[.val (.int p0), .val (.ref a28), .val (.ref a164), .val (.int (12 : Int32))] [(.int (12 : Int32)), (.ref a164), (.int (0 : Int32))]) _ _ _
    refine Go.baloadZ X282 hx hZ e282 A219 (by decide) (by decide) (hb hby at_339) ?_
    show Go _ _ _ _ T282 (mkF m 340 #[.val (.int p0), .val (.ref a28), .val (.ref a164), .val (.int (12 : Int32))] [(.int (0 : Int32)), (.int (0 : Int32))]) _ _ _
    refine Go.icmpNo X282 hx (hb hby at_340) (XT.ii_ne_f (by decide)) ?_
    show Go _ _ _ _ T282 (mkF m 343 #[.val (.int p0), .val (.ref a28), .val (.ref a164), .val (.int (12 : Int32))] []) _ _ _
    refine Go.iconst X282 hx (hb hby at_343) ?_
    show Go _ _ _ _ T282 (mkF m 344 #[.val (.int p0), .val (.ref a28), .val (.ref a164), .val (.int (12 : Int32))] [(.int (1 : Int32))]) _ _ _
    refine Go.goto X282 hx (hb hby at_344) (pc' := 348) (by decide) (by decide) ?_
    show Go _ _ _ _ T282 (mkF m 348 #[.val (.int p0), .val (.ref a28), .val (.ref a164), .val (.int (12 : Int32))] [(.int (1 : Int32))]) _ _ _
    refine Go.retZ X282 hx hlk hret (by decide) (hb hby at_348) (by decide) (by decide) ?_
    rw [e282]
    exact ⟨rfl, N282⟩
  · show Go _ _ _ _ T219 (mkF m 331 #[.val (.int p0), .val (.ref a28), .val (.ref a164), .val (.int (13 : Int32))] []) _ _ _
    refine Go.aloadN X219 hx (hb hby at_331) rfl rfl ?_
    show Go _ _ _ _ T219 (mkF m 332 #[.val (.int p0), .val (.ref a28), .val (.ref a164), .val (.int (13 : Int32))] [(.ref a28)]) _ _ _
    refine Go.iloadN X219 hx (hb hby at_332) rfl ?_
    show Go _ _ _ _ T219 (mkF m 333 #[.val (.int p0), .val (.ref a28), .val (.ref a164), .val (.int (13 : Int32))] [(.int (13 : Int32)), (.ref a28)]) _ _ _
    have F283 := (Af.other W219 (Af.other W218 (Af.other W217 (Af.other W216 (Af.other W215 (Af.other W214 (Af.other W213 (Af.other W212 (Af.other W211 (Af.other W210 (Af.other W209 (Af.other W208 (Af.other W207 (Af.other W206 (Af.other W205 (Af.other W204 (Af.other W203 (Af.other W202 (Af.other W201 (Af.other W200 (Af.other W199 (Af.other W198 (Af.other W197 (Af.other W196 (Af.other W195 (Af.other W194 (Af.other W193 (Af.ext E164 A163) ne_a28_a164) ne_a28_a164) ne_a28_a164) ne_a28_a164) ne_a28_a164) ne_a28_a164) ne_a28_a164) ne_a28_a164) ne_a28_a164) ne_a28_a164) ne_a28_a164) ne_a28_a164) ne_a28_a164) ne_a28_a164) ne_a28_a164) ne_a28_a164) ne_a28_a164) ne_a28_a164) ne_a28_a164) ne_a28_a164) ne_a28_a164) ne_a28_a164) ne_a28_a164) ne_a28_a164) ne_a28_a164) ne_a28_a164) ne_a28_a164)
    refine Go.aaload X219 hx hZ e219 F283 rfl (by decide) (by decide) (hb hby at_333) ?_
    show Go _ _ _ _ T219 (mkF m 334 #[.val (.int p0), .val (.ref a28), .val (.ref a164), .val (.int (13 : Int32))] [(.ref g13)]) _ _ _
    refine Go.callV (W := 0) (argsL := []) (rest := []) X219 hx hZ hown (w60 hw) (w61 hw) (w63 hw) (w62 hw) (w3 hw) (w64 hw) (notFace_of_selects (args := #[]) (mvT hZ (w63 hw))) (by decide) F237 (rm_il6 l Z a0 hw g13 g20 g21 g22 g23 g24 g25 h219 n0 Z219 F251 F252 F253 F254 F255 F256 (Fld.ne f68 f75 (by decide)) (Fld.ne f68 f76 (by decide)) (Fld.ne f68 f77 (by decide)) (Fld.ne f68 f78 (by decide)) (Fld.ne f68 f79 (by decide)) (Fld.ne f68 f80 (by decide))) e219 (lenOf pd_0 rfl) (hb hby at_334) (by rw [hml]; rfl) rfl (Nat.le_of_eq rfl) (by decide) (by decide) (by decide) (by decide) ?_
    intro v284 T284 L284 X284 q284
    obtain ⟨rfl, M284, e284⟩ := q284
    have N284 := Fr.app N219 M284
    show Go _ _ _ _ T284 (mkF m 337 #[.val (.int p0), .val (.ref a28), .val (.ref a164), .val (.int (13 : Int32))] [(.int (0 : Int32))]) _ _ _
    refine Go.aloadN X284 hx (hb hby at_337) rfl rfl ?_
    show Go _ _ _ _ T284 (mkF m 338 #[.val (.int p0), .val (.ref a28), .val (.ref a164), .val (.int (13 : Int32))] [(.ref a164), (.int (0 : Int32))]) _ _ _
    refine Go.iloadN X284 hx (hb hby at_338) rfl ?_
    show Go _ _ _ _ T284 (mkF m 339 #[.val (.int p0), .val (.ref a28), .val (.ref a164), .val (.int (13 : Int32))] [(.int (13 : Int32)), (.ref a164), (.int (0 : Int32))]) _ _ _
    refine Go.baloadZ X284 hx hZ e284 A219 (by decide) (by decide) (hb hby at_339) ?_
    show Go _ _ _ _ T284 (mkF m 340 #[.val (.int p0), .val (.ref a28), .val (.ref a164), .val (.int (13 : Int32))] [(.int (0 : Int32)), (.int (0 : Int32))]) _ _ _
    refine Go.icmpNo X284 hx (hb hby at_340) (XT.ii_ne_f (by decide)) ?_
    show Go _ _ _ _ T284 (mkF m 343 #[.val (.int p0), .val (.ref a28), .val (.ref a164), .val (.int (13 : Int32))] []) _ _ _
    refine Go.iconst X284 hx (hb hby at_343) ?_
    show Go _ _ _ _ T284 (mkF m 344 #[.val (.int p0), .val (.ref a28), .val (.ref a164), .val (.int (13 : Int32))] [(.int (1 : Int32))]) _ _ _
    refine Go.goto X284 hx (hb hby at_344) (pc' := 348) (by decide) (by decide) ?_
    show Go _ _ _ _ T284 (mkF m 348 #[.val (.int p0), .val (.ref a28), .val (.ref a164), .val (.int (13 : Int32))] [(.int (1 : Int32))]) _ _ _
    refine Go.retZ X284 hx hlk hret (by decide) (hb hby at_348) (by decide) (by decide) ?_
    rw [e284]
    exact ⟨rfl, N284⟩
  · show Go _ _ _ _ T219 (mkF m 331 #[.val (.int p0), .val (.ref a28), .val (.ref a164), .val (.int (14 : Int32))] []) _ _ _
    refine Go.aloadN X219 hx (hb hby at_331) rfl rfl ?_
    show Go _ _ _ _ T219 (mkF m 332 #[.val (.int p0), .val (.ref a28), .val (.ref a164), .val (.int (14 : Int32))] [(.ref a28)]) _ _ _
    refine Go.iloadN X219 hx (hb hby at_332) rfl ?_
    show Go _ _ _ _ T219 (mkF m 333 #[.val (.int p0), .val (.ref a28), .val (.ref a164), .val (.int (14 : Int32))] [(.int (14 : Int32)), (.ref a28)]) _ _ _
    have F285 := (Af.other W219 (Af.other W218 (Af.other W217 (Af.other W216 (Af.other W215 (Af.other W214 (Af.other W213 (Af.other W212 (Af.other W211 (Af.other W210 (Af.other W209 (Af.other W208 (Af.other W207 (Af.other W206 (Af.other W205 (Af.other W204 (Af.other W203 (Af.other W202 (Af.other W201 (Af.other W200 (Af.other W199 (Af.other W198 (Af.other W197 (Af.other W196 (Af.other W195 (Af.other W194 (Af.other W193 (Af.ext E164 A163) ne_a28_a164) ne_a28_a164) ne_a28_a164) ne_a28_a164) ne_a28_a164) ne_a28_a164) ne_a28_a164) ne_a28_a164) ne_a28_a164) ne_a28_a164) ne_a28_a164) ne_a28_a164) ne_a28_a164) ne_a28_a164) ne_a28_a164) ne_a28_a164) ne_a28_a164) ne_a28_a164) ne_a28_a164) ne_a28_a164) ne_a28_a164) ne_a28_a164) ne_a28_a164) ne_a28_a164) ne_a28_a164) ne_a28_a164) ne_a28_a164)
    refine Go.aaload X219 hx hZ e219 F285 rfl (by decide) (by decide) (hb hby at_333) ?_
    show Go _ _ _ _ T219 (mkF m 334 #[.val (.int p0), .val (.ref a28), .val (.ref a164), .val (.int (14 : Int32))] [(.ref g14)]) _ _ _
    refine Go.callV (W := 0) (argsL := []) (rest := []) X219 hx hZ hown (w60 hw) (w61 hw) (w63 hw) (w62 hw) (w3 hw) (w64 hw) (notFace_of_selects (args := #[]) (mvT hZ (w63 hw))) (by decide) F238 (rm_il6 l Z a0 hw g14 g20 g21 g22 g23 g24 g25 h219 n0 Z219 F251 F252 F253 F254 F255 F256 (Fld.ne f69 f75 (by decide)) (Fld.ne f69 f76 (by decide)) (Fld.ne f69 f77 (by decide)) (Fld.ne f69 f78 (by decide)) (Fld.ne f69 f79 (by decide)) (Fld.ne f69 f80 (by decide))) e219 (lenOf pd_0 rfl) (hb hby at_334) (by rw [hml]; rfl) rfl (Nat.le_of_eq rfl) (by decide) (by decide) (by decide) (by decide) ?_
    intro v286 T286 L286 X286 q286
    obtain ⟨rfl, M286, e286⟩ := q286
    have N286 := Fr.app N219 M286
    show Go _ _ _ _ T286 (mkF m 337 #[.val (.int p0), .val (.ref a28), .val (.ref a164), .val (.int (14 : Int32))] [(.int (0 : Int32))]) _ _ _
    refine Go.aloadN X286 hx (hb hby at_337) rfl rfl ?_
    show Go _ _ _ _ T286 (mkF m 338 #[.val (.int p0), .val (.ref a28), .val (.ref a164), .val (.int (14 : Int32))] [(.ref a164), (.int (0 : Int32))]) _ _ _
    refine Go.iloadN X286 hx (hb hby at_338) rfl ?_
    show Go _ _ _ _ T286 (mkF m 339 #[.val (.int p0), .val (.ref a28), .val (.ref a164), .val (.int (14 : Int32))] [(.int (14 : Int32)), (.ref a164), (.int (0 : Int32))]) _ _ _
    refine Go.baloadZ X286 hx hZ e286 A219 (by decide) (by decide) (hb hby at_339) ?_
    show Go _ _ _ _ T286 (mkF m 340 #[.val (.int p0), .val (.ref a28), .val (.ref a164), .val (.int (14 : Int32))] [(.int (0 : Int32)), (.int (0 : Int32))]) _ _ _
    refine Go.icmpNo X286 hx (hb hby at_340) (XT.ii_ne_f (by decide)) ?_
    show Go _ _ _ _ T286 (mkF m 343 #[.val (.int p0), .val (.ref a28), .val (.ref a164), .val (.int (14 : Int32))] []) _ _ _
    refine Go.iconst X286 hx (hb hby at_343) ?_
    show Go _ _ _ _ T286 (mkF m 344 #[.val (.int p0), .val (.ref a28), .val (.ref a164), .val (.int (14 : Int32))] [(.int (1 : Int32))]) _ _ _
    refine Go.goto X286 hx (hb hby at_344) (pc' := 348) (by decide) (by decide) ?_
    show Go _ _ _ _ T286 (mkF m 348 #[.val (.int p0), .val (.ref a28), .val (.ref a164), .val (.int (14 : Int32))] [(.int (1 : Int32))]) _ _ _
    refine Go.retZ X286 hx hlk hret (by decide) (hb hby at_348) (by decide) (by decide) ?_
    rw [e286]
    exact ⟨rfl, N286⟩
  · show Go _ _ _ _ T219 (mkF m 331 #[.val (.int p0), .val (.ref a28), .val (.ref a164), .val (.int (15 : Int32))] []) _ _ _
    refine Go.aloadN X219 hx (hb hby at_331) rfl rfl ?_
    show Go _ _ _ _ T219 (mkF m 332 #[.val (.int p0), .val (.ref a28), .val (.ref a164), .val (.int (15 : Int32))] [(.ref a28)]) _ _ _
    refine Go.iloadN X219 hx (hb hby at_332) rfl ?_
    show Go _ _ _ _ T219 (mkF m 333 #[.val (.int p0), .val (.ref a28), .val (.ref a164), .val (.int (15 : Int32))] [(.int (15 : Int32)), (.ref a28)]) _ _ _
    have F287 := (Af.other W219 (Af.other W218 (Af.other W217 (Af.other W216 (Af.other W215 (Af.other W214 (Af.other W213 (Af.other W212 (Af.other W211 (Af.other W210 (Af.other W209 (Af.other W208 (Af.other W207 (Af.other W206 (Af.other W205 (Af.other W204 (Af.other W203 (Af.other W202 (Af.other W201 (Af.other W200 (Af.other W199 (Af.other W198 (Af.other W197 (Af.other W196 (Af.other W195 (Af.other W194 (Af.other W193 (Af.ext E164 A163) ne_a28_a164) ne_a28_a164) ne_a28_a164) ne_a28_a164) ne_a28_a164) ne_a28_a164) ne_a28_a164) ne_a28_a164) ne_a28_a164) ne_a28_a164) ne_a28_a164) ne_a28_a164) ne_a28_a164) ne_a28_a164) ne_a28_a164) ne_a28_a164) ne_a28_a164) ne_a28_a164) ne_a28_a164) ne_a28_a164) ne_a28_a164) ne_a28_a164) ne_a28_a164) ne_a28_a164) ne_a28_a164) ne_a28_a164) ne_a28_a164)
    refine Go.aaload X219 hx hZ e219 F287 rfl (by decide) (by decide) (hb hby at_333) ?_
    show Go _ _ _ _ T219 (mkF m 334 #[.val (.int p0), .val (.ref a28), .val (.ref a164), .val (.int (15 : Int32))] [(.ref g15)]) _ _ _
    refine Go.callV (W := 0) (argsL := []) (rest := []) X219 hx hZ hown (w60 hw) (w61 hw) (w63 hw) (w62 hw) (w3 hw) (w64 hw) (notFace_of_selects (args := #[]) (mvT hZ (w63 hw))) (by decide) F239 (rm_il6 l Z a0 hw g15 g20 g21 g22 g23 g24 g25 h219 n0 Z219 F251 F252 F253 F254 F255 F256 (Fld.ne f70 f75 (by decide)) (Fld.ne f70 f76 (by decide)) (Fld.ne f70 f77 (by decide)) (Fld.ne f70 f78 (by decide)) (Fld.ne f70 f79 (by decide)) (Fld.ne f70 f80 (by decide))) e219 (lenOf pd_0 rfl) (hb hby at_334) (by rw [hml]; rfl) rfl (Nat.le_of_eq rfl) (by decide) (by decide) (by decide) (by decide) ?_
    intro v288 T288 L288 X288 q288
    obtain ⟨rfl, M288, e288⟩ := q288
    have N288 := Fr.app N219 M288
    show Go _ _ _ _ T288 (mkF m 337 #[.val (.int p0), .val (.ref a28), .val (.ref a164), .val (.int (15 : Int32))] [(.int (0 : Int32))]) _ _ _
    refine Go.aloadN X288 hx (hb hby at_337) rfl rfl ?_
    show Go _ _ _ _ T288 (mkF m 338 #[.val (.int p0), .val (.ref a28), .val (.ref a164), .val (.int (15 : Int32))] [(.ref a164), (.int (0 : Int32))]) _ _ _
    refine Go.iloadN X288 hx (hb hby at_338) rfl ?_
    show Go _ _ _ _ T288 (mkF m 339 #[.val (.int p0), .val (.ref a28), .val (.ref a164), .val (.int (15 : Int32))] [(.int (15 : Int32)), (.ref a164), (.int (0 : Int32))]) _ _ _
    refine Go.baloadZ X288 hx hZ e288 A219 (by decide) (by decide) (hb hby at_339) ?_
    show Go _ _ _ _ T288 (mkF m 340 #[.val (.int p0), .val (.ref a28), .val (.ref a164), .val (.int (15 : Int32))] [(.int (0 : Int32)), (.int (0 : Int32))]) _ _ _
    refine Go.icmpNo X288 hx (hb hby at_340) (XT.ii_ne_f (by decide)) ?_
    show Go _ _ _ _ T288 (mkF m 343 #[.val (.int p0), .val (.ref a28), .val (.ref a164), .val (.int (15 : Int32))] []) _ _ _
    refine Go.iconst X288 hx (hb hby at_343) ?_
    show Go _ _ _ _ T288 (mkF m 344 #[.val (.int p0), .val (.ref a28), .val (.ref a164), .val (.int (15 : Int32))] [(.int (1 : Int32))]) _ _ _
    refine Go.goto X288 hx (hb hby at_344) (pc' := 348) (by decide) (by decide) ?_
    show Go _ _ _ _ T288 (mkF m 348 #[.val (.int p0), .val (.ref a28), .val (.ref a164), .val (.int (15 : Int32))] [(.int (1 : Int32))]) _ _ _
    refine Go.retZ X288 hx hlk hret (by decide) (hb hby at_348) (by decide) (by decide) ?_
    rw [e288]
    exact ⟨rfl, N288⟩
  · show Go _ _ _ _ T219 (mkF m 331 #[.val (.int p0), .val (.ref a28), .val (.ref a164), .val (.int (16 : Int32))] []) _ _ _
    refine Go.aloadN X219 hx (hb hby at_331) rfl rfl ?_
    show Go _ _ _ _ T219 (mkF m 332 #[.val (.int p0), .val (.ref a28), .val (.ref a164), .val (.int (16 : Int32))] [(.ref a28)]) _ _ _
    refine Go.iloadN X219 hx (hb hby at_332) rfl ?_
    show Go _ _ _ _ T219 (mkF m 333 #[.val (.int p0), .val (.ref a28), .val (.ref a164), .val (.int (16 : Int32))] [(.int (16 : Int32)), (.ref a28)]) _ _ _
    have F289 := (Af.other W219 (Af.other W218 (Af.other W217 (Af.other W216 (Af.other W215 (Af.other W214 (Af.other W213 (Af.other W212 (Af.other W211 (Af.other W210 (Af.other W209 (Af.other W208 (Af.other W207 (Af.other W206 (Af.other W205 (Af.other W204 (Af.other W203 (Af.other W202 (Af.other W201 (Af.other W200 (Af.other W199 (Af.other W198 (Af.other W197 (Af.other W196 (Af.other W195 (Af.other W194 (Af.other W193 (Af.ext E164 A163) ne_a28_a164) ne_a28_a164) ne_a28_a164) ne_a28_a164) ne_a28_a164) ne_a28_a164) ne_a28_a164) ne_a28_a164) ne_a28_a164) ne_a28_a164) ne_a28_a164) ne_a28_a164) ne_a28_a164) ne_a28_a164) ne_a28_a164) ne_a28_a164) ne_a28_a164) ne_a28_a164) ne_a28_a164) ne_a28_a164) ne_a28_a164) ne_a28_a164) ne_a28_a164) ne_a28_a164) ne_a28_a164) ne_a28_a164) ne_a28_a164)
    refine Go.aaload X219 hx hZ e219 F289 rfl (by decide) (by decide) (hb hby at_333) ?_
    show Go _ _ _ _ T219 (mkF m 334 #[.val (.int p0), .val (.ref a28), .val (.ref a164), .val (.int (16 : Int32))] [(.ref g16)]) _ _ _
    refine Go.callV (W := 0) (argsL := []) (rest := []) X219 hx hZ hown (w60 hw) (w61 hw) (w63 hw) (w62 hw) (w3 hw) (w64 hw) (notFace_of_selects (args := #[]) (mvT hZ (w63 hw))) (by decide) F240 (rm_il6 l Z a0 hw g16 g20 g21 g22 g23 g24 g25 h219 n0 Z219 F251 F252 F253 F254 F255 F256 (Fld.ne f71 f75 (by decide)) (Fld.ne f71 f76 (by decide)) (Fld.ne f71 f77 (by decide)) (Fld.ne f71 f78 (by decide)) (Fld.ne f71 f79 (by decide)) (Fld.ne f71 f80 (by decide))) e219 (lenOf pd_0 rfl) (hb hby at_334) (by rw [hml]; rfl) rfl (Nat.le_of_eq rfl) (by decide) (by decide) (by decide) (by decide) ?_
    intro v290 T290 L290 X290 q290
    obtain ⟨rfl, M290, e290⟩ := q290
    have N290 := Fr.app N219 M290
    show Go _ _ _ _ T290 (mkF m 337 #[.val (.int p0), .val (.ref a28), .val (.ref a164), .val (.int (16 : Int32))] [(.int (0 : Int32))]) _ _ _
    refine Go.aloadN X290 hx (hb hby at_337) rfl rfl ?_
    show Go _ _ _ _ T290 (mkF m 338 #[.val (.int p0), .val (.ref a28), .val (.ref a164), .val (.int (16 : Int32))] [(.ref a164), (.int (0 : Int32))]) _ _ _
    refine Go.iloadN X290 hx (hb hby at_338) rfl ?_
    show Go _ _ _ _ T290 (mkF m 339 #[.val (.int p0), .val (.ref a28), .val (.ref a164), .val (.int (16 : Int32))] [(.int (16 : Int32)), (.ref a164), (.int (0 : Int32))]) _ _ _
    refine Go.baloadZ X290 hx hZ e290 A219 (by decide) (by decide) (hb hby at_339) ?_
    show Go _ _ _ _ T290 (mkF m 340 #[.val (.int p0), .val (.ref a28), .val (.ref a164), .val (.int (16 : Int32))] [(.int (0 : Int32)), (.int (0 : Int32))]) _ _ _
    refine Go.icmpNo X290 hx (hb hby at_340) (XT.ii_ne_f (by decide)) ?_
    show Go _ _ _ _ T290 (mkF m 343 #[.val (.int p0), .val (.ref a28), .val (.ref a164), .val (.int (16 : Int32))] []) _ _ _
    refine Go.iconst X290 hx (hb hby at_343) ?_
    show Go _ _ _ _ T290 (mkF m 344 #[.val (.int p0), .val (.ref a28), .val (.ref a164), .val (.int (16 : Int32))] [(.int (1 : Int32))]) _ _ _
    refine Go.goto X290 hx (hb hby at_344) (pc' := 348) (by decide) (by decide) ?_
    show Go _ _ _ _ T290 (mkF m 348 #[.val (.int p0), .val (.ref a28), .val (.ref a164), .val (.int (16 : Int32))] [(.int (1 : Int32))]) _ _ _
    refine Go.retZ X290 hx hlk hret (by decide) (hb hby at_348) (by decide) (by decide) ?_
    rw [e290]
    exact ⟨rfl, N290⟩
  · show Go _ _ _ _ T219 (mkF m 331 #[.val (.int p0), .val (.ref a28), .val (.ref a164), .val (.int (17 : Int32))] []) _ _ _
    refine Go.aloadN X219 hx (hb hby at_331) rfl rfl ?_
    show Go _ _ _ _ T219 (mkF m 332 #[.val (.int p0), .val (.ref a28), .val (.ref a164), .val (.int (17 : Int32))] [(.ref a28)]) _ _ _
    refine Go.iloadN X219 hx (hb hby at_332) rfl ?_
    show Go _ _ _ _ T219 (mkF m 333 #[.val (.int p0), .val (.ref a28), .val (.ref a164), .val (.int (17 : Int32))] [(.int (17 : Int32)), (.ref a28)]) _ _ _
    have F291 := (Af.other W219 (Af.other W218 (Af.other W217 (Af.other W216 (Af.other W215 (Af.other W214 (Af.other W213 (Af.other W212 (Af.other W211 (Af.other W210 (Af.other W209 (Af.other W208 (Af.other W207 (Af.other W206 (Af.other W205 (Af.other W204 (Af.other W203 (Af.other W202 (Af.other W201 (Af.other W200 (Af.other W199 (Af.other W198 (Af.other W197 (Af.other W196 (Af.other W195 (Af.other W194 (Af.other W193 (Af.ext E164 A163) ne_a28_a164) ne_a28_a164) ne_a28_a164) ne_a28_a164) ne_a28_a164) ne_a28_a164) ne_a28_a164) ne_a28_a164) ne_a28_a164) ne_a28_a164) ne_a28_a164) ne_a28_a164) ne_a28_a164) ne_a28_a164) ne_a28_a164) ne_a28_a164) ne_a28_a164) ne_a28_a164) ne_a28_a164) ne_a28_a164) ne_a28_a164) ne_a28_a164) ne_a28_a164) ne_a28_a164) ne_a28_a164) ne_a28_a164) ne_a28_a164)
    refine Go.aaload X219 hx hZ e219 F291 rfl (by decide) (by decide) (hb hby at_333) ?_
    show Go _ _ _ _ T219 (mkF m 334 #[.val (.int p0), .val (.ref a28), .val (.ref a164), .val (.int (17 : Int32))] [(.ref g17)]) _ _ _
    refine Go.callV (W := 0) (argsL := []) (rest := []) X219 hx hZ hown (w60 hw) (w61 hw) (w63 hw) (w62 hw) (w3 hw) (w64 hw) (notFace_of_selects (args := #[]) (mvT hZ (w63 hw))) (by decide) F241 (rm_il6 l Z a0 hw g17 g20 g21 g22 g23 g24 g25 h219 n0 Z219 F251 F252 F253 F254 F255 F256 (Fld.ne f72 f75 (by decide)) (Fld.ne f72 f76 (by decide)) (Fld.ne f72 f77 (by decide)) (Fld.ne f72 f78 (by decide)) (Fld.ne f72 f79 (by decide)) (Fld.ne f72 f80 (by decide))) e219 (lenOf pd_0 rfl) (hb hby at_334) (by rw [hml]; rfl) rfl (Nat.le_of_eq rfl) (by decide) (by decide) (by decide) (by decide) ?_
    intro v292 T292 L292 X292 q292
    obtain ⟨rfl, M292, e292⟩ := q292
    have N292 := Fr.app N219 M292
    show Go _ _ _ _ T292 (mkF m 337 #[.val (.int p0), .val (.ref a28), .val (.ref a164), .val (.int (17 : Int32))] [(.int (0 : Int32))]) _ _ _
    refine Go.aloadN X292 hx (hb hby at_337) rfl rfl ?_
    show Go _ _ _ _ T292 (mkF m 338 #[.val (.int p0), .val (.ref a28), .val (.ref a164), .val (.int (17 : Int32))] [(.ref a164), (.int (0 : Int32))]) _ _ _
    refine Go.iloadN X292 hx (hb hby at_338) rfl ?_
    show Go _ _ _ _ T292 (mkF m 339 #[.val (.int p0), .val (.ref a28), .val (.ref a164), .val (.int (17 : Int32))] [(.int (17 : Int32)), (.ref a164), (.int (0 : Int32))]) _ _ _
    refine Go.baloadZ X292 hx hZ e292 A219 (by decide) (by decide) (hb hby at_339) ?_
    show Go _ _ _ _ T292 (mkF m 340 #[.val (.int p0), .val (.ref a28), .val (.ref a164), .val (.int (17 : Int32))] [(.int (0 : Int32)), (.int (0 : Int32))]) _ _ _
    refine Go.icmpNo X292 hx (hb hby at_340) (XT.ii_ne_f (by decide)) ?_
    show Go _ _ _ _ T292 (mkF m 343 #[.val (.int p0), .val (.ref a28), .val (.ref a164), .val (.int (17 : Int32))] []) _ _ _
    refine Go.iconst X292 hx (hb hby at_343) ?_
    show Go _ _ _ _ T292 (mkF m 344 #[.val (.int p0), .val (.ref a28), .val (.ref a164), .val (.int (17 : Int32))] [(.int (1 : Int32))]) _ _ _
    refine Go.goto X292 hx (hb hby at_344) (pc' := 348) (by decide) (by decide) ?_
    show Go _ _ _ _ T292 (mkF m 348 #[.val (.int p0), .val (.ref a28), .val (.ref a164), .val (.int (17 : Int32))] [(.int (1 : Int32))]) _ _ _
    refine Go.retZ X292 hx hlk hret (by decide) (hb hby at_348) (by decide) (by decide) ?_
    rw [e292]
    exact ⟨rfl, N292⟩
  · show Go _ _ _ _ T219 (mkF m 331 #[.val (.int p0), .val (.ref a28), .val (.ref a164), .val (.int (18 : Int32))] []) _ _ _
    refine Go.aloadN X219 hx (hb hby at_331) rfl rfl ?_
    show Go _ _ _ _ T219 (mkF m 332 #[.val (.int p0), .val (.ref a28), .val (.ref a164), .val (.int (18 : Int32))] [(.ref a28)]) _ _ _
    refine Go.iloadN X219 hx (hb hby at_332) rfl ?_
    show Go _ _ _ _ T219 (mkF m 333 #[.val (.int p0), .val (.ref a28), .val (.ref a164), .val (.int (18 : Int32))] [(.int (18 : Int32)), (.ref a28)]) _ _ _
    have F293 := (Af.other W219 (Af.other W218 (Af.other W217 (Af.other W216 (Af.other W215 (Af.other W214 (Af.other W213 (Af.other W212 (Af.other W211 (Af.other W210 (Af.other W209 (Af.other W208 (Af.other W207 (Af.other W206 (Af.other W205 (Af.other W204 (Af.other W203 (Af.other W202 (Af.other W201 (Af.other W200 (Af.other W199 (Af.other W198 (Af.other W197 (Af.other W196 (Af.other W195 (Af.other W194 (Af.other W193 (Af.ext E164 A163) ne_a28_a164) ne_a28_a164) ne_a28_a164) ne_a28_a164) ne_a28_a164) ne_a28_a164) ne_a28_a164) ne_a28_a164) ne_a28_a164) ne_a28_a164) ne_a28_a164) ne_a28_a164) ne_a28_a164) ne_a28_a164) ne_a28_a164) ne_a28_a164) ne_a28_a164) ne_a28_a164) ne_a28_a164) ne_a28_a164) ne_a28_a164) ne_a28_a164) ne_a28_a164) ne_a28_a164) ne_a28_a164) ne_a28_a164) ne_a28_a164)
    refine Go.aaload X219 hx hZ e219 F293 rfl (by decide) (by decide) (hb hby at_333) ?_
    show Go _ _ _ _ T219 (mkF m 334 #[.val (.int p0), .val (.ref a28), .val (.ref a164), .val (.int (18 : Int32))] [(.ref g18)]) _ _ _
    refine Go.callV (W := 0) (argsL := []) (rest := []) X219 hx hZ hown (w60 hw) (w61 hw) (w63 hw) (w62 hw) (w3 hw) (w64 hw) (notFace_of_selects (args := #[]) (mvT hZ (w63 hw))) (by decide) F242 (rm_il6 l Z a0 hw g18 g20 g21 g22 g23 g24 g25 h219 n0 Z219 F251 F252 F253 F254 F255 F256 (Fld.ne f73 f75 (by decide)) (Fld.ne f73 f76 (by decide)) (Fld.ne f73 f77 (by decide)) (Fld.ne f73 f78 (by decide)) (Fld.ne f73 f79 (by decide)) (Fld.ne f73 f80 (by decide))) e219 (lenOf pd_0 rfl) (hb hby at_334) (by rw [hml]; rfl) rfl (Nat.le_of_eq rfl) (by decide) (by decide) (by decide) (by decide) ?_
    intro v294 T294 L294 X294 q294
    obtain ⟨rfl, M294, e294⟩ := q294
    have N294 := Fr.app N219 M294
    show Go _ _ _ _ T294 (mkF m 337 #[.val (.int p0), .val (.ref a28), .val (.ref a164), .val (.int (18 : Int32))] [(.int (0 : Int32))]) _ _ _
    refine Go.aloadN X294 hx (hb hby at_337) rfl rfl ?_
    show Go _ _ _ _ T294 (mkF m 338 #[.val (.int p0), .val (.ref a28), .val (.ref a164), .val (.int (18 : Int32))] [(.ref a164), (.int (0 : Int32))]) _ _ _
    refine Go.iloadN X294 hx (hb hby at_338) rfl ?_
    show Go _ _ _ _ T294 (mkF m 339 #[.val (.int p0), .val (.ref a28), .val (.ref a164), .val (.int (18 : Int32))] [(.int (18 : Int32)), (.ref a164), (.int (0 : Int32))]) _ _ _
    refine Go.baloadZ X294 hx hZ e294 A219 (by decide) (by decide) (hb hby at_339) ?_
    show Go _ _ _ _ T294 (mkF m 340 #[.val (.int p0), .val (.ref a28), .val (.ref a164), .val (.int (18 : Int32))] [(.int (0 : Int32)), (.int (0 : Int32))]) _ _ _
    refine Go.icmpNo X294 hx (hb hby at_340) (XT.ii_ne_f (by decide)) ?_
    show Go _ _ _ _ T294 (mkF m 343 #[.val (.int p0), .val (.ref a28), .val (.ref a164), .val (.int (18 : Int32))] []) _ _ _
    refine Go.iconst X294 hx (hb hby at_343) ?_
    show Go _ _ _ _ T294 (mkF m 344 #[.val (.int p0), .val (.ref a28), .val (.ref a164), .val (.int (18 : Int32))] [(.int (1 : Int32))]) _ _ _
    refine Go.goto X294 hx (hb hby at_344) (pc' := 348) (by decide) (by decide) ?_
    show Go _ _ _ _ T294 (mkF m 348 #[.val (.int p0), .val (.ref a28), .val (.ref a164), .val (.int (18 : Int32))] [(.int (1 : Int32))]) _ _ _
    refine Go.retZ X294 hx hlk hret (by decide) (hb hby at_348) (by decide) (by decide) ?_
    rw [e294]
    exact ⟨rfl, N294⟩
  · show Go _ _ _ _ T219 (mkF m 331 #[.val (.int p0), .val (.ref a28), .val (.ref a164), .val (.int (19 : Int32))] []) _ _ _
    refine Go.aloadN X219 hx (hb hby at_331) rfl rfl ?_
    show Go _ _ _ _ T219 (mkF m 332 #[.val (.int p0), .val (.ref a28), .val (.ref a164), .val (.int (19 : Int32))] [(.ref a28)]) _ _ _
    refine Go.iloadN X219 hx (hb hby at_332) rfl ?_
    show Go _ _ _ _ T219 (mkF m 333 #[.val (.int p0), .val (.ref a28), .val (.ref a164), .val (.int (19 : Int32))] [(.int (19 : Int32)), (.ref a28)]) _ _ _
    have F295 := (Af.other W219 (Af.other W218 (Af.other W217 (Af.other W216 (Af.other W215 (Af.other W214 (Af.other W213 (Af.other W212 (Af.other W211 (Af.other W210 (Af.other W209 (Af.other W208 (Af.other W207 (Af.other W206 (Af.other W205 (Af.other W204 (Af.other W203 (Af.other W202 (Af.other W201 (Af.other W200 (Af.other W199 (Af.other W198 (Af.other W197 (Af.other W196 (Af.other W195 (Af.other W194 (Af.other W193 (Af.ext E164 A163) ne_a28_a164) ne_a28_a164) ne_a28_a164) ne_a28_a164) ne_a28_a164) ne_a28_a164) ne_a28_a164) ne_a28_a164) ne_a28_a164) ne_a28_a164) ne_a28_a164) ne_a28_a164) ne_a28_a164) ne_a28_a164) ne_a28_a164) ne_a28_a164) ne_a28_a164) ne_a28_a164) ne_a28_a164) ne_a28_a164) ne_a28_a164) ne_a28_a164) ne_a28_a164) ne_a28_a164) ne_a28_a164) ne_a28_a164) ne_a28_a164)
    refine Go.aaload X219 hx hZ e219 F295 rfl (by decide) (by decide) (hb hby at_333) ?_
    show Go _ _ _ _ T219 (mkF m 334 #[.val (.int p0), .val (.ref a28), .val (.ref a164), .val (.int (19 : Int32))] [(.ref g19)]) _ _ _
    refine Go.callV (W := 0) (argsL := []) (rest := []) X219 hx hZ hown (w60 hw) (w61 hw) (w63 hw) (w62 hw) (w3 hw) (w64 hw) (notFace_of_selects (args := #[]) (mvT hZ (w63 hw))) (by decide) F243 (rm_il6 l Z a0 hw g19 g20 g21 g22 g23 g24 g25 h219 n0 Z219 F251 F252 F253 F254 F255 F256 (Fld.ne f74 f75 (by decide)) (Fld.ne f74 f76 (by decide)) (Fld.ne f74 f77 (by decide)) (Fld.ne f74 f78 (by decide)) (Fld.ne f74 f79 (by decide)) (Fld.ne f74 f80 (by decide))) e219 (lenOf pd_0 rfl) (hb hby at_334) (by rw [hml]; rfl) rfl (Nat.le_of_eq rfl) (by decide) (by decide) (by decide) (by decide) ?_
    intro v296 T296 L296 X296 q296
    obtain ⟨rfl, M296, e296⟩ := q296
    have N296 := Fr.app N219 M296
    show Go _ _ _ _ T296 (mkF m 337 #[.val (.int p0), .val (.ref a28), .val (.ref a164), .val (.int (19 : Int32))] [(.int (0 : Int32))]) _ _ _
    refine Go.aloadN X296 hx (hb hby at_337) rfl rfl ?_
    show Go _ _ _ _ T296 (mkF m 338 #[.val (.int p0), .val (.ref a28), .val (.ref a164), .val (.int (19 : Int32))] [(.ref a164), (.int (0 : Int32))]) _ _ _
    refine Go.iloadN X296 hx (hb hby at_338) rfl ?_
    show Go _ _ _ _ T296 (mkF m 339 #[.val (.int p0), .val (.ref a28), .val (.ref a164), .val (.int (19 : Int32))] [(.int (19 : Int32)), (.ref a164), (.int (0 : Int32))]) _ _ _
    refine Go.baloadZ X296 hx hZ e296 A219 (by decide) (by decide) (hb hby at_339) ?_
    show Go _ _ _ _ T296 (mkF m 340 #[.val (.int p0), .val (.ref a28), .val (.ref a164), .val (.int (19 : Int32))] [(.int (0 : Int32)), (.int (0 : Int32))]) _ _ _
    refine Go.icmpNo X296 hx (hb hby at_340) (XT.ii_ne_f (by decide)) ?_
    show Go _ _ _ _ T296 (mkF m 343 #[.val (.int p0), .val (.ref a28), .val (.ref a164), .val (.int (19 : Int32))] []) _ _ _
    refine Go.iconst X296 hx (hb hby at_343) ?_
    show Go _ _ _ _ T296 (mkF m 344 #[.val (.int p0), .val (.ref a28), .val (.ref a164), .val (.int (19 : Int32))] [(.int (1 : Int32))]) _ _ _
    refine Go.goto X296 hx (hb hby at_344) (pc' := 348) (by decide) (by decide) ?_
    show Go _ _ _ _ T296 (mkF m 348 #[.val (.int p0), .val (.ref a28), .val (.ref a164), .val (.int (19 : Int32))] [(.int (1 : Int32))]) _ _ _
    refine Go.retZ X296 hx hlk hret (by decide) (hb hby at_348) (by decide) (by decide) ?_
    rw [e296]
    exact ⟨rfl, N296⟩
  · show Go _ _ _ _ T219 (mkF m 331 #[.val (.int p0), .val (.ref a28), .val (.ref a164), .val (.int (20 : Int32))] []) _ _ _
    refine Go.aloadN X219 hx (hb hby at_331) rfl rfl ?_
    show Go _ _ _ _ T219 (mkF m 332 #[.val (.int p0), .val (.ref a28), .val (.ref a164), .val (.int (20 : Int32))] [(.ref a28)]) _ _ _
    refine Go.iloadN X219 hx (hb hby at_332) rfl ?_
    show Go _ _ _ _ T219 (mkF m 333 #[.val (.int p0), .val (.ref a28), .val (.ref a164), .val (.int (20 : Int32))] [(.int (20 : Int32)), (.ref a28)]) _ _ _
    have F297 := (Af.other W219 (Af.other W218 (Af.other W217 (Af.other W216 (Af.other W215 (Af.other W214 (Af.other W213 (Af.other W212 (Af.other W211 (Af.other W210 (Af.other W209 (Af.other W208 (Af.other W207 (Af.other W206 (Af.other W205 (Af.other W204 (Af.other W203 (Af.other W202 (Af.other W201 (Af.other W200 (Af.other W199 (Af.other W198 (Af.other W197 (Af.other W196 (Af.other W195 (Af.other W194 (Af.other W193 (Af.ext E164 A163) ne_a28_a164) ne_a28_a164) ne_a28_a164) ne_a28_a164) ne_a28_a164) ne_a28_a164) ne_a28_a164) ne_a28_a164) ne_a28_a164) ne_a28_a164) ne_a28_a164) ne_a28_a164) ne_a28_a164) ne_a28_a164) ne_a28_a164) ne_a28_a164) ne_a28_a164) ne_a28_a164) ne_a28_a164) ne_a28_a164) ne_a28_a164) ne_a28_a164) ne_a28_a164) ne_a28_a164) ne_a28_a164) ne_a28_a164) ne_a28_a164)
    refine Go.aaload X219 hx hZ e219 F297 rfl (by decide) (by decide) (hb hby at_333) ?_
    show Go _ _ _ _ T219 (mkF m 334 #[.val (.int p0), .val (.ref a28), .val (.ref a164), .val (.int (20 : Int32))] [(.ref g20)]) _ _ _
    refine Go.callV (W := 0) (argsL := []) (rest := []) X219 hx hZ hown (w60 hw) (w61 hw) (w63 hw) (w62 hw) (w3 hw) (w64 hw) (notFace_of_selects (args := #[]) (mvT hZ (w63 hw))) (by decide) F244 (rm_il0 l Z a0 hw g20 h219 n0 Z219 F251) e219 (lenOf pd_0 rfl) (hb hby at_334) (by rw [hml]; rfl) rfl (Nat.le_of_eq rfl) (by decide) (by decide) (by decide) (by decide) ?_
    intro v298 T298 L298 X298 q298
    obtain ⟨rfl, M298, e298⟩ := q298
    have N298 := Fr.app N219 M298
    show Go _ _ _ _ T298 (mkF m 337 #[.val (.int p0), .val (.ref a28), .val (.ref a164), .val (.int (20 : Int32))] [(.int (1 : Int32))]) _ _ _
    refine Go.aloadN X298 hx (hb hby at_337) rfl rfl ?_
    show Go _ _ _ _ T298 (mkF m 338 #[.val (.int p0), .val (.ref a28), .val (.ref a164), .val (.int (20 : Int32))] [(.ref a164), (.int (1 : Int32))]) _ _ _
    refine Go.iloadN X298 hx (hb hby at_338) rfl ?_
    show Go _ _ _ _ T298 (mkF m 339 #[.val (.int p0), .val (.ref a28), .val (.ref a164), .val (.int (20 : Int32))] [(.int (20 : Int32)), (.ref a164), (.int (1 : Int32))]) _ _ _
    refine Go.baloadZ X298 hx hZ e298 A219 (by decide) (by decide) (hb hby at_339) ?_
    show Go _ _ _ _ T298 (mkF m 340 #[.val (.int p0), .val (.ref a28), .val (.ref a164), .val (.int (20 : Int32))] [(.int (1 : Int32)), (.int (1 : Int32))]) _ _ _
    refine Go.icmpNo X298 hx (hb hby at_340) (XT.ii_ne_f (by decide)) ?_
    show Go _ _ _ _ T298 (mkF m 343 #[.val (.int p0), .val (.ref a28), .val (.ref a164), .val (.int (20 : Int32))] []) _ _ _
    refine Go.iconst X298 hx (hb hby at_343) ?_
    show Go _ _ _ _ T298 (mkF m 344 #[.val (.int p0), .val (.ref a28), .val (.ref a164), .val (.int (20 : Int32))] [(.int (1 : Int32))]) _ _ _
    refine Go.goto X298 hx (hb hby at_344) (pc' := 348) (by decide) (by decide) ?_
    show Go _ _ _ _ T298 (mkF m 348 #[.val (.int p0), .val (.ref a28), .val (.ref a164), .val (.int (20 : Int32))] [(.int (1 : Int32))]) _ _ _
    refine Go.retZ X298 hx hlk hret (by decide) (hb hby at_348) (by decide) (by decide) ?_
    rw [e298]
    exact ⟨rfl, N298⟩
  · show Go _ _ _ _ T219 (mkF m 331 #[.val (.int p0), .val (.ref a28), .val (.ref a164), .val (.int (21 : Int32))] []) _ _ _
    refine Go.aloadN X219 hx (hb hby at_331) rfl rfl ?_
    show Go _ _ _ _ T219 (mkF m 332 #[.val (.int p0), .val (.ref a28), .val (.ref a164), .val (.int (21 : Int32))] [(.ref a28)]) _ _ _
    refine Go.iloadN X219 hx (hb hby at_332) rfl ?_
    show Go _ _ _ _ T219 (mkF m 333 #[.val (.int p0), .val (.ref a28), .val (.ref a164), .val (.int (21 : Int32))] [(.int (21 : Int32)), (.ref a28)]) _ _ _
    have F299 := (Af.other W219 (Af.other W218 (Af.other W217 (Af.other W216 (Af.other W215 (Af.other W214 (Af.other W213 (Af.other W212 (Af.other W211 (Af.other W210 (Af.other W209 (Af.other W208 (Af.other W207 (Af.other W206 (Af.other W205 (Af.other W204 (Af.other W203 (Af.other W202 (Af.other W201 (Af.other W200 (Af.other W199 (Af.other W198 (Af.other W197 (Af.other W196 (Af.other W195 (Af.other W194 (Af.other W193 (Af.ext E164 A163) ne_a28_a164) ne_a28_a164) ne_a28_a164) ne_a28_a164) ne_a28_a164) ne_a28_a164) ne_a28_a164) ne_a28_a164) ne_a28_a164) ne_a28_a164) ne_a28_a164) ne_a28_a164) ne_a28_a164) ne_a28_a164) ne_a28_a164) ne_a28_a164) ne_a28_a164) ne_a28_a164) ne_a28_a164) ne_a28_a164) ne_a28_a164) ne_a28_a164) ne_a28_a164) ne_a28_a164) ne_a28_a164) ne_a28_a164) ne_a28_a164)
    refine Go.aaload X219 hx hZ e219 F299 rfl (by decide) (by decide) (hb hby at_333) ?_
    show Go _ _ _ _ T219 (mkF m 334 #[.val (.int p0), .val (.ref a28), .val (.ref a164), .val (.int (21 : Int32))] [(.ref g21)]) _ _ _
    refine Go.callV (W := 0) (argsL := []) (rest := []) X219 hx hZ hown (w60 hw) (w61 hw) (w63 hw) (w62 hw) (w3 hw) (w64 hw) (notFace_of_selects (args := #[]) (mvT hZ (w63 hw))) (by decide) F245 (rm_il1 l Z a0 hw g21 g20 h219 n0 Z219 F251 F252 (Fld.ne f76 f75 (by decide))) e219 (lenOf pd_0 rfl) (hb hby at_334) (by rw [hml]; rfl) rfl (Nat.le_of_eq rfl) (by decide) (by decide) (by decide) (by decide) ?_
    intro v300 T300 L300 X300 q300
    obtain ⟨rfl, M300, e300⟩ := q300
    have N300 := Fr.app N219 M300
    show Go _ _ _ _ T300 (mkF m 337 #[.val (.int p0), .val (.ref a28), .val (.ref a164), .val (.int (21 : Int32))] [(.int (1 : Int32))]) _ _ _
    refine Go.aloadN X300 hx (hb hby at_337) rfl rfl ?_
    show Go _ _ _ _ T300 (mkF m 338 #[.val (.int p0), .val (.ref a28), .val (.ref a164), .val (.int (21 : Int32))] [(.ref a164), (.int (1 : Int32))]) _ _ _
    refine Go.iloadN X300 hx (hb hby at_338) rfl ?_
    show Go _ _ _ _ T300 (mkF m 339 #[.val (.int p0), .val (.ref a28), .val (.ref a164), .val (.int (21 : Int32))] [(.int (21 : Int32)), (.ref a164), (.int (1 : Int32))]) _ _ _
    refine Go.baloadZ X300 hx hZ e300 A219 (by decide) (by decide) (hb hby at_339) ?_
    show Go _ _ _ _ T300 (mkF m 340 #[.val (.int p0), .val (.ref a28), .val (.ref a164), .val (.int (21 : Int32))] [(.int (1 : Int32)), (.int (1 : Int32))]) _ _ _
    refine Go.icmpNo X300 hx (hb hby at_340) (XT.ii_ne_f (by decide)) ?_
    show Go _ _ _ _ T300 (mkF m 343 #[.val (.int p0), .val (.ref a28), .val (.ref a164), .val (.int (21 : Int32))] []) _ _ _
    refine Go.iconst X300 hx (hb hby at_343) ?_
    show Go _ _ _ _ T300 (mkF m 344 #[.val (.int p0), .val (.ref a28), .val (.ref a164), .val (.int (21 : Int32))] [(.int (1 : Int32))]) _ _ _
    refine Go.goto X300 hx (hb hby at_344) (pc' := 348) (by decide) (by decide) ?_
    show Go _ _ _ _ T300 (mkF m 348 #[.val (.int p0), .val (.ref a28), .val (.ref a164), .val (.int (21 : Int32))] [(.int (1 : Int32))]) _ _ _
    refine Go.retZ X300 hx hlk hret (by decide) (hb hby at_348) (by decide) (by decide) ?_
    rw [e300]
    exact ⟨rfl, N300⟩
  · show Go _ _ _ _ T219 (mkF m 331 #[.val (.int p0), .val (.ref a28), .val (.ref a164), .val (.int (22 : Int32))] []) _ _ _
    refine Go.aloadN X219 hx (hb hby at_331) rfl rfl ?_
    show Go _ _ _ _ T219 (mkF m 332 #[.val (.int p0), .val (.ref a28), .val (.ref a164), .val (.int (22 : Int32))] [(.ref a28)]) _ _ _
    refine Go.iloadN X219 hx (hb hby at_332) rfl ?_
    show Go _ _ _ _ T219 (mkF m 333 #[.val (.int p0), .val (.ref a28), .val (.ref a164), .val (.int (22 : Int32))] [(.int (22 : Int32)), (.ref a28)]) _ _ _
    have F301 := (Af.other W219 (Af.other W218 (Af.other W217 (Af.other W216 (Af.other W215 (Af.other W214 (Af.other W213 (Af.other W212 (Af.other W211 (Af.other W210 (Af.other W209 (Af.other W208 (Af.other W207 (Af.other W206 (Af.other W205 (Af.other W204 (Af.other W203 (Af.other W202 (Af.other W201 (Af.other W200 (Af.other W199 (Af.other W198 (Af.other W197 (Af.other W196 (Af.other W195 (Af.other W194 (Af.other W193 (Af.ext E164 A163) ne_a28_a164) ne_a28_a164) ne_a28_a164) ne_a28_a164) ne_a28_a164) ne_a28_a164) ne_a28_a164) ne_a28_a164) ne_a28_a164) ne_a28_a164) ne_a28_a164) ne_a28_a164) ne_a28_a164) ne_a28_a164) ne_a28_a164) ne_a28_a164) ne_a28_a164) ne_a28_a164) ne_a28_a164) ne_a28_a164) ne_a28_a164) ne_a28_a164) ne_a28_a164) ne_a28_a164) ne_a28_a164) ne_a28_a164) ne_a28_a164)
    refine Go.aaload X219 hx hZ e219 F301 rfl (by decide) (by decide) (hb hby at_333) ?_
    show Go _ _ _ _ T219 (mkF m 334 #[.val (.int p0), .val (.ref a28), .val (.ref a164), .val (.int (22 : Int32))] [(.ref g22)]) _ _ _
    refine Go.callV (W := 0) (argsL := []) (rest := []) X219 hx hZ hown (w60 hw) (w61 hw) (w63 hw) (w62 hw) (w3 hw) (w64 hw) (notFace_of_selects (args := #[]) (mvT hZ (w63 hw))) (by decide) F246 (rm_il2 l Z a0 hw g22 g20 g21 h219 n0 Z219 F251 F252 F253 (Fld.ne f77 f75 (by decide)) (Fld.ne f77 f76 (by decide))) e219 (lenOf pd_0 rfl) (hb hby at_334) (by rw [hml]; rfl) rfl (Nat.le_of_eq rfl) (by decide) (by decide) (by decide) (by decide) ?_
    intro v302 T302 L302 X302 q302
    obtain ⟨rfl, M302, e302⟩ := q302
    have N302 := Fr.app N219 M302
    show Go _ _ _ _ T302 (mkF m 337 #[.val (.int p0), .val (.ref a28), .val (.ref a164), .val (.int (22 : Int32))] [(.int (1 : Int32))]) _ _ _
    refine Go.aloadN X302 hx (hb hby at_337) rfl rfl ?_
    show Go _ _ _ _ T302 (mkF m 338 #[.val (.int p0), .val (.ref a28), .val (.ref a164), .val (.int (22 : Int32))] [(.ref a164), (.int (1 : Int32))]) _ _ _
    refine Go.iloadN X302 hx (hb hby at_338) rfl ?_
    show Go _ _ _ _ T302 (mkF m 339 #[.val (.int p0), .val (.ref a28), .val (.ref a164), .val (.int (22 : Int32))] [(.int (22 : Int32)), (.ref a164), (.int (1 : Int32))]) _ _ _
    refine Go.baloadZ X302 hx hZ e302 A219 (by decide) (by decide) (hb hby at_339) ?_
    show Go _ _ _ _ T302 (mkF m 340 #[.val (.int p0), .val (.ref a28), .val (.ref a164), .val (.int (22 : Int32))] [(.int (1 : Int32)), (.int (1 : Int32))]) _ _ _
    refine Go.icmpNo X302 hx (hb hby at_340) (XT.ii_ne_f (by decide)) ?_
    show Go _ _ _ _ T302 (mkF m 343 #[.val (.int p0), .val (.ref a28), .val (.ref a164), .val (.int (22 : Int32))] []) _ _ _
    refine Go.iconst X302 hx (hb hby at_343) ?_
    show Go _ _ _ _ T302 (mkF m 344 #[.val (.int p0), .val (.ref a28), .val (.ref a164), .val (.int (22 : Int32))] [(.int (1 : Int32))]) _ _ _
    refine Go.goto X302 hx (hb hby at_344) (pc' := 348) (by decide) (by decide) ?_
    show Go _ _ _ _ T302 (mkF m 348 #[.val (.int p0), .val (.ref a28), .val (.ref a164), .val (.int (22 : Int32))] [(.int (1 : Int32))]) _ _ _
    refine Go.retZ X302 hx hlk hret (by decide) (hb hby at_348) (by decide) (by decide) ?_
    rw [e302]
    exact ⟨rfl, N302⟩
  · show Go _ _ _ _ T219 (mkF m 331 #[.val (.int p0), .val (.ref a28), .val (.ref a164), .val (.int (23 : Int32))] []) _ _ _
    refine Go.aloadN X219 hx (hb hby at_331) rfl rfl ?_
    show Go _ _ _ _ T219 (mkF m 332 #[.val (.int p0), .val (.ref a28), .val (.ref a164), .val (.int (23 : Int32))] [(.ref a28)]) _ _ _
    refine Go.iloadN X219 hx (hb hby at_332) rfl ?_
    show Go _ _ _ _ T219 (mkF m 333 #[.val (.int p0), .val (.ref a28), .val (.ref a164), .val (.int (23 : Int32))] [(.int (23 : Int32)), (.ref a28)]) _ _ _
    have F303 := (Af.other W219 (Af.other W218 (Af.other W217 (Af.other W216 (Af.other W215 (Af.other W214 (Af.other W213 (Af.other W212 (Af.other W211 (Af.other W210 (Af.other W209 (Af.other W208 (Af.other W207 (Af.other W206 (Af.other W205 (Af.other W204 (Af.other W203 (Af.other W202 (Af.other W201 (Af.other W200 (Af.other W199 (Af.other W198 (Af.other W197 (Af.other W196 (Af.other W195 (Af.other W194 (Af.other W193 (Af.ext E164 A163) ne_a28_a164) ne_a28_a164) ne_a28_a164) ne_a28_a164) ne_a28_a164) ne_a28_a164) ne_a28_a164) ne_a28_a164) ne_a28_a164) ne_a28_a164) ne_a28_a164) ne_a28_a164) ne_a28_a164) ne_a28_a164) ne_a28_a164) ne_a28_a164) ne_a28_a164) ne_a28_a164) ne_a28_a164) ne_a28_a164) ne_a28_a164) ne_a28_a164) ne_a28_a164) ne_a28_a164) ne_a28_a164) ne_a28_a164) ne_a28_a164)
    refine Go.aaload X219 hx hZ e219 F303 rfl (by decide) (by decide) (hb hby at_333) ?_
    show Go _ _ _ _ T219 (mkF m 334 #[.val (.int p0), .val (.ref a28), .val (.ref a164), .val (.int (23 : Int32))] [(.ref g23)]) _ _ _
    refine Go.callV (W := 0) (argsL := []) (rest := []) X219 hx hZ hown (w60 hw) (w61 hw) (w63 hw) (w62 hw) (w3 hw) (w64 hw) (notFace_of_selects (args := #[]) (mvT hZ (w63 hw))) (by decide) F247 (rm_il3 l Z a0 hw g23 g20 g21 g22 h219 n0 Z219 F251 F252 F253 F254 (Fld.ne f78 f75 (by decide)) (Fld.ne f78 f76 (by decide)) (Fld.ne f78 f77 (by decide))) e219 (lenOf pd_0 rfl) (hb hby at_334) (by rw [hml]; rfl) rfl (Nat.le_of_eq rfl) (by decide) (by decide) (by decide) (by decide) ?_
    intro v304 T304 L304 X304 q304
    obtain ⟨rfl, M304, e304⟩ := q304
    have N304 := Fr.app N219 M304
    show Go _ _ _ _ T304 (mkF m 337 #[.val (.int p0), .val (.ref a28), .val (.ref a164), .val (.int (23 : Int32))] [(.int (1 : Int32))]) _ _ _
    refine Go.aloadN X304 hx (hb hby at_337) rfl rfl ?_
    show Go _ _ _ _ T304 (mkF m 338 #[.val (.int p0), .val (.ref a28), .val (.ref a164), .val (.int (23 : Int32))] [(.ref a164), (.int (1 : Int32))]) _ _ _
    refine Go.iloadN X304 hx (hb hby at_338) rfl ?_
    show Go _ _ _ _ T304 (mkF m 339 #[.val (.int p0), .val (.ref a28), .val (.ref a164), .val (.int (23 : Int32))] [(.int (23 : Int32)), (.ref a164), (.int (1 : Int32))]) _ _ _
    refine Go.baloadZ X304 hx hZ e304 A219 (by decide) (by decide) (hb hby at_339) ?_
    show Go _ _ _ _ T304 (mkF m 340 #[.val (.int p0), .val (.ref a28), .val (.ref a164), .val (.int (23 : Int32))] [(.int (1 : Int32)), (.int (1 : Int32))]) _ _ _
    refine Go.icmpNo X304 hx (hb hby at_340) (XT.ii_ne_f (by decide)) ?_
    show Go _ _ _ _ T304 (mkF m 343 #[.val (.int p0), .val (.ref a28), .val (.ref a164), .val (.int (23 : Int32))] []) _ _ _
    refine Go.iconst X304 hx (hb hby at_343) ?_
    show Go _ _ _ _ T304 (mkF m 344 #[.val (.int p0), .val (.ref a28), .val (.ref a164), .val (.int (23 : Int32))] [(.int (1 : Int32))]) _ _ _
    refine Go.goto X304 hx (hb hby at_344) (pc' := 348) (by decide) (by decide) ?_
    show Go _ _ _ _ T304 (mkF m 348 #[.val (.int p0), .val (.ref a28), .val (.ref a164), .val (.int (23 : Int32))] [(.int (1 : Int32))]) _ _ _
    refine Go.retZ X304 hx hlk hret (by decide) (hb hby at_348) (by decide) (by decide) ?_
    rw [e304]
    exact ⟨rfl, N304⟩
  · show Go _ _ _ _ T219 (mkF m 331 #[.val (.int p0), .val (.ref a28), .val (.ref a164), .val (.int (24 : Int32))] []) _ _ _
    refine Go.aloadN X219 hx (hb hby at_331) rfl rfl ?_
    show Go _ _ _ _ T219 (mkF m 332 #[.val (.int p0), .val (.ref a28), .val (.ref a164), .val (.int (24 : Int32))] [(.ref a28)]) _ _ _
    refine Go.iloadN X219 hx (hb hby at_332) rfl ?_
    show Go _ _ _ _ T219 (mkF m 333 #[.val (.int p0), .val (.ref a28), .val (.ref a164), .val (.int (24 : Int32))] [(.int (24 : Int32)), (.ref a28)]) _ _ _
    have F305 := (Af.other W219 (Af.other W218 (Af.other W217 (Af.other W216 (Af.other W215 (Af.other W214 (Af.other W213 (Af.other W212 (Af.other W211 (Af.other W210 (Af.other W209 (Af.other W208 (Af.other W207 (Af.other W206 (Af.other W205 (Af.other W204 (Af.other W203 (Af.other W202 (Af.other W201 (Af.other W200 (Af.other W199 (Af.other W198 (Af.other W197 (Af.other W196 (Af.other W195 (Af.other W194 (Af.other W193 (Af.ext E164 A163) ne_a28_a164) ne_a28_a164) ne_a28_a164) ne_a28_a164) ne_a28_a164) ne_a28_a164) ne_a28_a164) ne_a28_a164) ne_a28_a164) ne_a28_a164) ne_a28_a164) ne_a28_a164) ne_a28_a164) ne_a28_a164) ne_a28_a164) ne_a28_a164) ne_a28_a164) ne_a28_a164) ne_a28_a164) ne_a28_a164) ne_a28_a164) ne_a28_a164) ne_a28_a164) ne_a28_a164) ne_a28_a164) ne_a28_a164) ne_a28_a164)
    refine Go.aaload X219 hx hZ e219 F305 rfl (by decide) (by decide) (hb hby at_333) ?_
    show Go _ _ _ _ T219 (mkF m 334 #[.val (.int p0), .val (.ref a28), .val (.ref a164), .val (.int (24 : Int32))] [(.ref g24)]) _ _ _
    refine Go.callV (W := 0) (argsL := []) (rest := []) X219 hx hZ hown (w60 hw) (w61 hw) (w63 hw) (w62 hw) (w3 hw) (w64 hw) (notFace_of_selects (args := #[]) (mvT hZ (w63 hw))) (by decide) F248 (rm_il4 l Z a0 hw g24 g20 g21 g22 g23 h219 n0 Z219 F251 F252 F253 F254 F255 (Fld.ne f79 f75 (by decide)) (Fld.ne f79 f76 (by decide)) (Fld.ne f79 f77 (by decide)) (Fld.ne f79 f78 (by decide))) e219 (lenOf pd_0 rfl) (hb hby at_334) (by rw [hml]; rfl) rfl (Nat.le_of_eq rfl) (by decide) (by decide) (by decide) (by decide) ?_
    intro v306 T306 L306 X306 q306
    obtain ⟨rfl, M306, e306⟩ := q306
    have N306 := Fr.app N219 M306
    show Go _ _ _ _ T306 (mkF m 337 #[.val (.int p0), .val (.ref a28), .val (.ref a164), .val (.int (24 : Int32))] [(.int (1 : Int32))]) _ _ _
    refine Go.aloadN X306 hx (hb hby at_337) rfl rfl ?_
    show Go _ _ _ _ T306 (mkF m 338 #[.val (.int p0), .val (.ref a28), .val (.ref a164), .val (.int (24 : Int32))] [(.ref a164), (.int (1 : Int32))]) _ _ _
    refine Go.iloadN X306 hx (hb hby at_338) rfl ?_
    show Go _ _ _ _ T306 (mkF m 339 #[.val (.int p0), .val (.ref a28), .val (.ref a164), .val (.int (24 : Int32))] [(.int (24 : Int32)), (.ref a164), (.int (1 : Int32))]) _ _ _
    refine Go.baloadZ X306 hx hZ e306 A219 (by decide) (by decide) (hb hby at_339) ?_
    show Go _ _ _ _ T306 (mkF m 340 #[.val (.int p0), .val (.ref a28), .val (.ref a164), .val (.int (24 : Int32))] [(.int (1 : Int32)), (.int (1 : Int32))]) _ _ _
    refine Go.icmpNo X306 hx (hb hby at_340) (XT.ii_ne_f (by decide)) ?_
    show Go _ _ _ _ T306 (mkF m 343 #[.val (.int p0), .val (.ref a28), .val (.ref a164), .val (.int (24 : Int32))] []) _ _ _
    refine Go.iconst X306 hx (hb hby at_343) ?_
    show Go _ _ _ _ T306 (mkF m 344 #[.val (.int p0), .val (.ref a28), .val (.ref a164), .val (.int (24 : Int32))] [(.int (1 : Int32))]) _ _ _
    refine Go.goto X306 hx (hb hby at_344) (pc' := 348) (by decide) (by decide) ?_
    show Go _ _ _ _ T306 (mkF m 348 #[.val (.int p0), .val (.ref a28), .val (.ref a164), .val (.int (24 : Int32))] [(.int (1 : Int32))]) _ _ _
    refine Go.retZ X306 hx hlk hret (by decide) (hb hby at_348) (by decide) (by decide) ?_
    rw [e306]
    exact ⟨rfl, N306⟩
  · show Go _ _ _ _ T219 (mkF m 331 #[.val (.int p0), .val (.ref a28), .val (.ref a164), .val (.int (25 : Int32))] []) _ _ _
    refine Go.aloadN X219 hx (hb hby at_331) rfl rfl ?_
    show Go _ _ _ _ T219 (mkF m 332 #[.val (.int p0), .val (.ref a28), .val (.ref a164), .val (.int (25 : Int32))] [(.ref a28)]) _ _ _
    refine Go.iloadN X219 hx (hb hby at_332) rfl ?_
    show Go _ _ _ _ T219 (mkF m 333 #[.val (.int p0), .val (.ref a28), .val (.ref a164), .val (.int (25 : Int32))] [(.int (25 : Int32)), (.ref a28)]) _ _ _
    have F307 := (Af.other W219 (Af.other W218 (Af.other W217 (Af.other W216 (Af.other W215 (Af.other W214 (Af.other W213 (Af.other W212 (Af.other W211 (Af.other W210 (Af.other W209 (Af.other W208 (Af.other W207 (Af.other W206 (Af.other W205 (Af.other W204 (Af.other W203 (Af.other W202 (Af.other W201 (Af.other W200 (Af.other W199 (Af.other W198 (Af.other W197 (Af.other W196 (Af.other W195 (Af.other W194 (Af.other W193 (Af.ext E164 A163) ne_a28_a164) ne_a28_a164) ne_a28_a164) ne_a28_a164) ne_a28_a164) ne_a28_a164) ne_a28_a164) ne_a28_a164) ne_a28_a164) ne_a28_a164) ne_a28_a164) ne_a28_a164) ne_a28_a164) ne_a28_a164) ne_a28_a164) ne_a28_a164) ne_a28_a164) ne_a28_a164) ne_a28_a164) ne_a28_a164) ne_a28_a164) ne_a28_a164) ne_a28_a164) ne_a28_a164) ne_a28_a164) ne_a28_a164) ne_a28_a164)
    refine Go.aaload X219 hx hZ e219 F307 rfl (by decide) (by decide) (hb hby at_333) ?_
    show Go _ _ _ _ T219 (mkF m 334 #[.val (.int p0), .val (.ref a28), .val (.ref a164), .val (.int (25 : Int32))] [(.ref g25)]) _ _ _
    refine Go.callV (W := 0) (argsL := []) (rest := []) X219 hx hZ hown (w60 hw) (w61 hw) (w63 hw) (w62 hw) (w3 hw) (w64 hw) (notFace_of_selects (args := #[]) (mvT hZ (w63 hw))) (by decide) F249 (rm_il5 l Z a0 hw g25 g20 g21 g22 g23 g24 h219 n0 Z219 F251 F252 F253 F254 F255 F256 (Fld.ne f80 f75 (by decide)) (Fld.ne f80 f76 (by decide)) (Fld.ne f80 f77 (by decide)) (Fld.ne f80 f78 (by decide)) (Fld.ne f80 f79 (by decide))) e219 (lenOf pd_0 rfl) (hb hby at_334) (by rw [hml]; rfl) rfl (Nat.le_of_eq rfl) (by decide) (by decide) (by decide) (by decide) ?_
    intro v308 T308 L308 X308 q308
    obtain ⟨rfl, M308, e308⟩ := q308
    have N308 := Fr.app N219 M308
    show Go _ _ _ _ T308 (mkF m 337 #[.val (.int p0), .val (.ref a28), .val (.ref a164), .val (.int (25 : Int32))] [(.int (1 : Int32))]) _ _ _
    refine Go.aloadN X308 hx (hb hby at_337) rfl rfl ?_
    show Go _ _ _ _ T308 (mkF m 338 #[.val (.int p0), .val (.ref a28), .val (.ref a164), .val (.int (25 : Int32))] [(.ref a164), (.int (1 : Int32))]) _ _ _
    refine Go.iloadN X308 hx (hb hby at_338) rfl ?_
    show Go _ _ _ _ T308 (mkF m 339 #[.val (.int p0), .val (.ref a28), .val (.ref a164), .val (.int (25 : Int32))] [(.int (25 : Int32)), (.ref a164), (.int (1 : Int32))]) _ _ _
    refine Go.baloadZ X308 hx hZ e308 A219 (by decide) (by decide) (hb hby at_339) ?_
    show Go _ _ _ _ T308 (mkF m 340 #[.val (.int p0), .val (.ref a28), .val (.ref a164), .val (.int (25 : Int32))] [(.int (1 : Int32)), (.int (1 : Int32))]) _ _ _
    refine Go.icmpNo X308 hx (hb hby at_340) (XT.ii_ne_f (by decide)) ?_
    show Go _ _ _ _ T308 (mkF m 343 #[.val (.int p0), .val (.ref a28), .val (.ref a164), .val (.int (25 : Int32))] []) _ _ _
    refine Go.iconst X308 hx (hb hby at_343) ?_
    show Go _ _ _ _ T308 (mkF m 344 #[.val (.int p0), .val (.ref a28), .val (.ref a164), .val (.int (25 : Int32))] [(.int (1 : Int32))]) _ _ _
    refine Go.goto X308 hx (hb hby at_344) (pc' := 348) (by decide) (by decide) ?_
    show Go _ _ _ _ T308 (mkF m 348 #[.val (.int p0), .val (.ref a28), .val (.ref a164), .val (.int (25 : Int32))] [(.int (1 : Int32))]) _ _ _
    refine Go.retZ X308 hx hlk hret (by decide) (hb hby at_348) (by decide) (by decide) ?_
    rw [e308]
    exact ⟨rfl, N308⟩
  · show Go _ _ _ _ T219 (mkF m 331 #[.val (.int p0), .val (.ref a28), .val (.ref a164), .val (.int (26 : Int32))] []) _ _ _
    refine Go.aloadN X219 hx (hb hby at_331) rfl rfl ?_
    show Go _ _ _ _ T219 (mkF m 332 #[.val (.int p0), .val (.ref a28), .val (.ref a164), .val (.int (26 : Int32))] [(.ref a28)]) _ _ _
    refine Go.iloadN X219 hx (hb hby at_332) rfl ?_
    show Go _ _ _ _ T219 (mkF m 333 #[.val (.int p0), .val (.ref a28), .val (.ref a164), .val (.int (26 : Int32))] [(.int (26 : Int32)), (.ref a28)]) _ _ _
    have F309 := (Af.other W219 (Af.other W218 (Af.other W217 (Af.other W216 (Af.other W215 (Af.other W214 (Af.other W213 (Af.other W212 (Af.other W211 (Af.other W210 (Af.other W209 (Af.other W208 (Af.other W207 (Af.other W206 (Af.other W205 (Af.other W204 (Af.other W203 (Af.other W202 (Af.other W201 (Af.other W200 (Af.other W199 (Af.other W198 (Af.other W197 (Af.other W196 (Af.other W195 (Af.other W194 (Af.other W193 (Af.ext E164 A163) ne_a28_a164) ne_a28_a164) ne_a28_a164) ne_a28_a164) ne_a28_a164) ne_a28_a164) ne_a28_a164) ne_a28_a164) ne_a28_a164) ne_a28_a164) ne_a28_a164) ne_a28_a164) ne_a28_a164) ne_a28_a164) ne_a28_a164) ne_a28_a164) ne_a28_a164) ne_a28_a164) ne_a28_a164) ne_a28_a164) ne_a28_a164) ne_a28_a164) ne_a28_a164) ne_a28_a164) ne_a28_a164) ne_a28_a164) ne_a28_a164)
    refine Go.aaload X219 hx hZ e219 F309 rfl (by decide) (by decide) (hb hby at_333) ?_
    show Go _ _ _ _ T219 (mkF m 334 #[.val (.int p0), .val (.ref a28), .val (.ref a164), .val (.int (26 : Int32))] [(.ref g26)]) _ _ _
    refine Go.callV (W := 0) (argsL := []) (rest := []) X219 hx hZ hown (w60 hw) (w61 hw) (w63 hw) (w62 hw) (w3 hw) (w64 hw) (notFace_of_selects (args := #[]) (mvT hZ (w63 hw))) (by decide) F250 (rm_il6 l Z a0 hw g26 g20 g21 g22 g23 g24 g25 h219 n0 Z219 F251 F252 F253 F254 F255 F256 (Fld.ne f81 f75 (by decide)) (Fld.ne f81 f76 (by decide)) (Fld.ne f81 f77 (by decide)) (Fld.ne f81 f78 (by decide)) (Fld.ne f81 f79 (by decide)) (Fld.ne f81 f80 (by decide))) e219 (lenOf pd_0 rfl) (hb hby at_334) (by rw [hml]; rfl) rfl (Nat.le_of_eq rfl) (by decide) (by decide) (by decide) (by decide) ?_
    intro v310 T310 L310 X310 q310
    obtain ⟨rfl, M310, e310⟩ := q310
    have N310 := Fr.app N219 M310
    show Go _ _ _ _ T310 (mkF m 337 #[.val (.int p0), .val (.ref a28), .val (.ref a164), .val (.int (26 : Int32))] [(.int (0 : Int32))]) _ _ _
    refine Go.aloadN X310 hx (hb hby at_337) rfl rfl ?_
    show Go _ _ _ _ T310 (mkF m 338 #[.val (.int p0), .val (.ref a28), .val (.ref a164), .val (.int (26 : Int32))] [(.ref a164), (.int (0 : Int32))]) _ _ _
    refine Go.iloadN X310 hx (hb hby at_338) rfl ?_
    show Go _ _ _ _ T310 (mkF m 339 #[.val (.int p0), .val (.ref a28), .val (.ref a164), .val (.int (26 : Int32))] [(.int (26 : Int32)), (.ref a164), (.int (0 : Int32))]) _ _ _
    refine Go.baloadZ X310 hx hZ e310 A219 (by decide) (by decide) (hb hby at_339) ?_
    show Go _ _ _ _ T310 (mkF m 340 #[.val (.int p0), .val (.ref a28), .val (.ref a164), .val (.int (26 : Int32))] [(.int (0 : Int32)), (.int (0 : Int32))]) _ _ _
    refine Go.icmpNo X310 hx (hb hby at_340) (XT.ii_ne_f (by decide)) ?_
    show Go _ _ _ _ T310 (mkF m 343 #[.val (.int p0), .val (.ref a28), .val (.ref a164), .val (.int (26 : Int32))] []) _ _ _
    refine Go.iconst X310 hx (hb hby at_343) ?_
    show Go _ _ _ _ T310 (mkF m 344 #[.val (.int p0), .val (.ref a28), .val (.ref a164), .val (.int (26 : Int32))] [(.int (1 : Int32))]) _ _ _
    refine Go.goto X310 hx (hb hby at_344) (pc' := 348) (by decide) (by decide) ?_
    show Go _ _ _ _ T310 (mkF m 348 #[.val (.int p0), .val (.ref a28), .val (.ref a164), .val (.int (26 : Int32))] [(.int (1 : Int32))]) _ _ _
    refine Go.retZ X310 hx hlk hret (by decide) (hb hby at_348) (by decide) (by decide) ?_
    rw [e310]
    exact ⟨rfl, N310⟩
set_option maxRecDepth 65536 in
set_option maxHeartbeats 40000000 in
theorem comes_1 {Post : Tables → Env → Array Value → State → Outcome → State → Prop} (hpost : ∀ tb e args s v u, (limb_1_1.after args s (.returned v) u = true ∧ limb_1_2.after args s (.returned v) u = true ∧ True) → FrameEnd s (.returned v) u (Jvm.fieldLocs frame_1_writes args s ++ Jvm.arrayLocs frame_1_arrays args s ++ Jvm.staticLocs frame_1_statics s) 16 192 → Post tb e args s (.returned v) u) :
    ArmFor flags0 classFile x code maxLocals ret World_1 tables_1 room_1 Calls_1 rest_1 Pre_1 Post := by
  intro l hfl _ _ p e ha hc hk s m args below hf hA hF happ hP
  obtain ⟨hcalls, hrest, hpre⟩ := hP
  obtain ⟨-, -, -, hnamed, -, -, -, hat⟩ := (Spec.applies_iff hf).mp happ
  obtain ⟨hg, hn⟩ := and_e (Cond.before_iff.mp (show (Jvm.Cond.and given_1 narrow_1).before args s = true from hpre))
  obtain ⟨hcount, hgs⟩ := and_e hg
  obtain ⟨w0', rfl⟩ : ∃ w0' : Value, args = #[w0'] := by
    have hs : args.size = 1 := by simpa [Cond.value, given_1] using hcount
    obtain ⟨L⟩ := args
    match L, hs with
    | [w0'], _ => exact ⟨w0', rfl⟩
  have hw := fun d (hd : d ∈ tables_1) => atoms_spec (ws := Jvm.Cond.code x code maxLocals ret :: tables_1) hat d (List.mem_cons_of_mem _ hd)
  have hfit : Fit s := fun {y c} hc i hi => by
    obtain ⟨ha, rfl⟩ := Array.getElem?_eq_some_iff.mp hc
    have q := List.all_eq_true.mp ((Array.all_eq_true_iff_forall_mem.mp hF) _ (Array.getElem_mem ha)) i (List.mem_range.mpr hi)
    simpa [Array.getElem?_eq_getElem hi] using q
  obtain ⟨i0, ei0⟩ := is_v hgs
  obtain rfl : w0' = (.int i0) := Option.some.inj ei0
  obtain ⟨nn0, nnr0⟩ := and_e hn
  obtain ⟨nn1, nnr1⟩ := and_e nnr0
  obtain ⟨nn2, nnr2⟩ := and_e nnr1
  obtain ⟨nn3, nnr3⟩ := and_e nnr2
  obtain ⟨nn4, nnr4⟩ := and_e nnr3
  obtain ⟨nn5, nnr5⟩ := and_e nnr4
  obtain ⟨nn6, nnr6⟩ := and_e nnr5
  obtain ⟨nn7, nnr7⟩ := and_e nnr6
  obtain ⟨nn8, nnr8⟩ := and_e nnr7
  obtain ⟨nn9, nnr9⟩ := and_e nnr8
  obtain ⟨nn10, nnr10⟩ := and_e nnr9
  obtain ⟨nn11, nnr11⟩ := and_e nnr10
  obtain ⟨nn12, nnr12⟩ := and_e nnr11
  obtain ⟨nn13, nnr13⟩ := and_e nnr12
  obtain ⟨nn14, nnr14⟩ := and_e nnr13
  obtain ⟨nn15, nnr15⟩ := and_e nnr14
  obtain ⟨nn16, nnr16⟩ := and_e nnr15
  obtain ⟨nn17, nnr17⟩ := and_e nnr16
  obtain ⟨nn18, nnr18⟩ := and_e nnr17
  obtain ⟨nn19, nnr19⟩ := and_e nnr18
  obtain ⟨nn20, nnr20⟩ := and_e nnr19
  obtain ⟨nn21, nnr21⟩ := and_e nnr20
  obtain ⟨nn22, nnr22⟩ := and_e nnr21
  obtain ⟨nn23, nnr23⟩ := and_e nnr22
  obtain ⟨nn24, nnr24⟩ := and_e nnr23
  obtain ⟨nn25, nnr25⟩ := and_e nnr24
  obtain ⟨nn26, nnr26⟩ := and_e nnr25
  obtain ⟨nn27, nnr27⟩ := and_e nnr26
  obtain ⟨nn28, nnr28⟩ := and_e nnr27
  obtain ⟨nn29, nnr29⟩ := and_e nnr28
  obtain ⟨nn30, nnr30⟩ := and_e nnr29
  obtain ⟨nn31, nnr31⟩ := and_e nnr30
  obtain ⟨nn32, nnr32⟩ := and_e nnr31
  obtain ⟨nn33, nnr33⟩ := and_e nnr32
  obtain ⟨nn34, nnr34⟩ := and_e nnr33
  obtain ⟨nn35, nnr35⟩ := and_e nnr34
  obtain ⟨nn36, nnr36⟩ := and_e nnr35
  obtain ⟨nn37, nnr37⟩ := and_e nnr36
  obtain ⟨nn38, nnr38⟩ := and_e nnr37
  obtain ⟨nn39, nnr39⟩ := and_e nnr38
  obtain ⟨nn40, nnr40⟩ := and_e nnr39
  obtain ⟨nn41, nnr41⟩ := and_e nnr40
  obtain ⟨nn42, nnr42⟩ := and_e nnr41
  obtain ⟨nn43, nnr43⟩ := and_e nnr42
  obtain ⟨nn44, nnr44⟩ := and_e nnr43
  obtain ⟨nn45, nnr45⟩ := and_e nnr44
  obtain ⟨nn46, nnr46⟩ := and_e nnr45
  obtain ⟨nn47, nnr47⟩ := and_e nnr46
  obtain ⟨nn48, nnr48⟩ := and_e nnr47
  obtain ⟨nn49, nnr49⟩ := and_e nnr48
  obtain ⟨nn50, nnr50⟩ := and_e nnr49
  obtain ⟨nn51, nnr51⟩ := and_e nnr50
  obtain ⟨nn52, nnr52⟩ := and_e nnr51
  have nn53 := nnr52
  obtain ⟨g0, eg0, S0, E0⟩ := st_static nn0 (Or.inr ⟨(w3 hw), (w4 hw)⟩)
  have D0 := st_fieldI eg0 nn27
  obtain ⟨g1, eg1, S1, E1⟩ := st_static nn1 (Or.inr ⟨(w3 hw), (w7 hw)⟩)
  have D1 := st_fieldI eg1 nn40
  obtain ⟨g2, eg2, S2, E2⟩ := st_static nn2 (Or.inr ⟨(w3 hw), (w9 hw)⟩)
  have D2 := st_fieldI eg2 nn35
  obtain ⟨g3, eg3, S3, E3⟩ := st_static nn3 (Or.inr ⟨(w3 hw), (w11 hw)⟩)
  have D3 := st_fieldI eg3 nn34
  obtain ⟨g4, eg4, S4, E4⟩ := st_static nn4 (Or.inr ⟨(w3 hw), (w13 hw)⟩)
  have D4 := st_fieldI eg4 nn42
  obtain ⟨g5, eg5, S5, E5⟩ := st_static nn5 (Or.inr ⟨(w3 hw), (w15 hw)⟩)
  have D5 := st_fieldI eg5 nn51
  obtain ⟨g6, eg6, S6, E6⟩ := st_static nn6 (Or.inr ⟨(w3 hw), (w17 hw)⟩)
  have D6 := st_fieldI eg6 nn44
  obtain ⟨g7, eg7, S7, E7⟩ := st_static nn7 (Or.inr ⟨(w3 hw), (w19 hw)⟩)
  have D7 := st_fieldI eg7 nn37
  obtain ⟨g8, eg8, S8, E8⟩ := st_static nn8 (Or.inr ⟨(w3 hw), (w21 hw)⟩)
  have D8 := st_fieldI eg8 nn39
  obtain ⟨g9, eg9, S9, E9⟩ := st_static nn9 (Or.inr ⟨(w3 hw), (w23 hw)⟩)
  have D9 := st_fieldI eg9 nn53
  obtain ⟨g10, eg10, S10, E10⟩ := st_static nn10 (Or.inr ⟨(w3 hw), (w25 hw)⟩)
  have D10 := st_fieldI eg10 nn36
  obtain ⟨g11, eg11, S11, E11⟩ := st_static nn11 (Or.inr ⟨(w3 hw), (w27 hw)⟩)
  have D11 := st_fieldI eg11 nn38
  obtain ⟨g12, eg12, S12, E12⟩ := st_static nn12 (Or.inr ⟨(w3 hw), (w29 hw)⟩)
  have D12 := st_fieldI eg12 nn50
  obtain ⟨g13, eg13, S13, E13⟩ := st_static nn13 (Or.inr ⟨(w3 hw), (w31 hw)⟩)
  have D13 := st_fieldI eg13 nn46
  obtain ⟨g14, eg14, S14, E14⟩ := st_static nn14 (Or.inr ⟨(w3 hw), (w33 hw)⟩)
  have D14 := st_fieldI eg14 nn47
  obtain ⟨g15, eg15, S15, E15⟩ := st_static nn15 (Or.inr ⟨(w3 hw), (w35 hw)⟩)
  have D15 := st_fieldI eg15 nn41
  obtain ⟨g16, eg16, S16, E16⟩ := st_static nn16 (Or.inr ⟨(w3 hw), (w37 hw)⟩)
  have D16 := st_fieldI eg16 nn43
  obtain ⟨g17, eg17, S17, E17⟩ := st_static nn17 (Or.inr ⟨(w3 hw), (w39 hw)⟩)
  have D17 := st_fieldI eg17 nn48
  obtain ⟨g18, eg18, S18, E18⟩ := st_static nn18 (Or.inr ⟨(w3 hw), (w41 hw)⟩)
  have D18 := st_fieldI eg18 nn52
  obtain ⟨g19, eg19, S19, E19⟩ := st_static nn19 (Or.inr ⟨(w3 hw), (w43 hw)⟩)
  have D19 := st_fieldI eg19 nn45
  obtain ⟨g20, eg20, S20, E20⟩ := st_static nn20 (Or.inr ⟨(w3 hw), (w45 hw)⟩)
  have D20 := st_fieldI eg20 nn28
  obtain ⟨g21, eg21, S21, E21⟩ := st_static nn21 (Or.inr ⟨(w3 hw), (w47 hw)⟩)
  have D21 := st_fieldI eg21 nn29
  obtain ⟨g22, eg22, S22, E22⟩ := st_static nn22 (Or.inr ⟨(w3 hw), (w49 hw)⟩)
  have D22 := st_fieldI eg22 nn30
  obtain ⟨g23, eg23, S23, E23⟩ := st_static nn23 (Or.inr ⟨(w3 hw), (w51 hw)⟩)
  have D23 := st_fieldI eg23 nn31
  obtain ⟨g24, eg24, S24, E24⟩ := st_static nn24 (Or.inr ⟨(w3 hw), (w53 hw)⟩)
  have D24 := st_fieldI eg24 nn32
  obtain ⟨g25, eg25, S25, E25⟩ := st_static nn25 (Or.inr ⟨(w3 hw), (w55 hw)⟩)
  have D25 := st_fieldI eg25 nn33
  obtain ⟨g26, eg26, S26, E26⟩ := st_static nn26 (Or.inr ⟨(w3 hw), (w57 hw)⟩)
  have D26 := st_fieldI eg26 nn49
  obtain ⟨n, o, h1, h2, h3, _, L, rfl, ⟨rfl, N⟩, hq⟩ := rm_law l s _ hw tables_1 i0 g0 g1 g2 g3 g4 g5 g6 g7 g8 g9 g10 g11 g12 g13 g14 g15 g16 g17 g18 g19 g20 g21 g22 g23 g24 g25 g26 s.heap s.heap.size (Nat.le_refl _) (Old.start s) S0 S1 S2 S3 S4 S5 S6 S7 S8 S9 S10 S11 S12 S13 S14 S15 S16 S17 S18 S19 S20 S21 S22 S23 S24 S25 S26 E0 E1 E2 E3 E4 E5 E6 E7 E8 E9 E10 E11 E12 E13 E14 E15 E16 E17 E18 E19 E20 E21 E22 E23 E24 E25 E26 D0 D1 D2 D3 D4 D5 D6 D7 D8 D9 D10 D11 D12 D13 D14 D15 D16 D17 D18 D19 D20 D21 D22 D23 D24 D25 D26 p e ha hc hk s m _ below hf ((Spec.applies_iff_loose hf).mp happ).1 ⟨rfl, State.Warmed39.refl s, rfl⟩ trivial
  refine ⟨n, _, h1, h2, h3, hpost _ _ _ _ _ _ ⟨Cond.after_iff.mpr rfl, Cond.after_iff.mpr (eq_i res_at (Term.int_eval (1)) rfl), trivial⟩ ⟨hq.1, hq.2.1, (hq.2.2.sift fun y hy => Or.inr (N y hy)).mono (by decide) (by decide)⟩⟩
theorem main_1_1 : Claimed_1_1 := comes_1 fun _ _ _ _ _ _ h hF => ⟨h.1, hF⟩
theorem main_1_2 : Claimed_1_2 := comes_1 fun _ _ _ _ _ _ h hF => ⟨h.2.1, hF⟩
end Jvm.Pilot.@@N@@
namespace Jvm.Pilot.@@N@@
open Jvm Jvm.ClassFile Sem Op Lib Jvm.Free Jvm.Stand Jvm.Pilot.@@N@@.Jvm.D
/-! MADE BY PROGRAM (witnessworld.py) out of the Statement's table words and the real class files: 15 classes; the members and pool entries that the words name. The judged class is class 1, her method 1. -/
namespace start1
open Jvm.ClassFile
def u (s : String) : CpInfo := .utf8 (stringToUtf16 s)
/-- a pool by its gaps: so many unusable entries, then the entry; so many at the end -/
def gap : Nat → List CpInfo → List CpInfo
  | 0, r => r
  | n + 1, r => .unusable :: gap n r
def poolList (es : List (Nat × CpInfo)) (last : Nat) : List CpInfo := es.foldr (fun e r => gap e.1 (e.2 :: r)) (gap last [])
def pool (es : List (Nat × CpInfo)) (last : Nat) : Array CpInfo := ⟨poolList es last⟩
def fileOf (pool : Array CpInfo) (this : Nat) (attrs : Array Attribute := #[]) (ms : Array MethodInfo := #[]) (fl : Nat := 33) (sup : Nat := 0) (ifs : Array Nat := #[]) (fds : Array FieldInfo := #[]) : ClassFile where
  minorVersion := 0
  majorVersion := 65
  constantPool := pool
  accessFlags := fl
  thisClass := this
  superClass := sup
  interfaces := ifs
  fields := fds
  methods := ms
  attributes := attrs
def plain (name : String) (sup : Option ClassId) : Class where
  name := name
  kind := .ordinary
  loader := none
  accessFlags := 33
  super := sup
  interfaces := #[]
  cf := none
  fields := #[]
  methods := #[]
  instanceTypes := #[]
  staticTypes := #[]
  resolved := #[]
  callSites := []
  init := .initialized
  statics := none
  mirror := none

def pool0 : Array CpInfo := pool [(5, u "<init>"), (0, u "()V"), (1, .class_ 10), (1, u "java/lang/Object")] 113

def k0m0 : Method := { name := "<init>", desc := "()V", sig := { parameters := [], returnType := none }, accessFlags := 1, code := none }
/-- java/lang/Object -/
def k0 : Class := { plain "java/lang/Object" none with
  accessFlags := 33
  interfaces := #[]
  cf := some (fileOf pool0 8 #[] #[{ accessFlags := 1, nameIndex := 5, descriptorIndex := 6, attributes := #[] }] 33 0 #[] #[])
  fields := #[]
  methods := #[k0m0]
  instanceTypes := #[]
  staticTypes := #[]
  resolved := Array.replicate 124 none
  statics := none }

def pool1 : Array CpInfo := pool [(2, .class_ 4), (1, u "java/lang/Object"), (0, u "<init>"), (0, u "()V"), (0, .class_ 8), (0, u "com/example/branchwise/branchwise/model/Operator"), (0, .fieldref 7 10), (0, .nameAndType 11 12), (0, u "NEG"), (0, u "Lcom/example/branchwise/branchwise/model/Operator;"), (0, .fieldref 7 14), (0, .nameAndType 15 12), (0, u "ABS"), (0, .fieldref 7 17), (0, .nameAndType 18 12), (0, u "SQR"), (0, .fieldref 7 20), (0, .nameAndType 21 12), (0, u "ADD"), (0, .fieldref 7 23), (0, .nameAndType 24 12), (0, u "SUB"), (0, .fieldref 7 26), (0, .nameAndType 27 12), (0, u "MUL"), (0, .fieldref 7 29), (0, .nameAndType 30 12), (0, u "DIV"), (0, .fieldref 7 32), (0, .nameAndType 33 12), (0, u "MOD"), (0, .fieldref 7 35), (0, .nameAndType 36 12), (0, u "POW"), (0, .fieldref 7 38), (0, .nameAndType 39 12), (0, u "MIN"), (0, .fieldref 7 41), (0, .nameAndType 42 12), (0, u "MAX"), (0, .fieldref 7 44), (0, .nameAndType 45 12), (0, u "DIST"), (0, .fieldref 7 47), (0, .nameAndType 48 12), (0, u "LT"), (0, .fieldref 7 50), (0, .nameAndType 51 12), (0, u "LE"), (0, .fieldref 7 53), (0, .nameAndType 54 12), (0, u "GE"), (0, .fieldref 7 56), (0, .nameAndType 57 12), (0, u "GT"), (0, .fieldref 7 59), (0, .nameAndType 60 12), (0, u "NE"), (0, .fieldref 7 62), (0, .nameAndType 63 12), (0, u "EQ"), (0, .fieldref 7 65), (0, .nameAndType 66 12), (0, u "IN"), (0, .fieldref 7 68), (0, .nameAndType 69 12), (0, u "NOTIN"), (0, .fieldref 7 71), (0, .nameAndType 72 12), (0, u "NOT"), (0, .fieldref 7 74), (0, .nameAndType 75 12), (0, u "AND"), (0, .fieldref 7 77), (0, .nameAndType 78 12), (0, u "OR"), (0, .fieldref 7 80), (0, .nameAndType 81 12), (0, u "XOR"), (0, .fieldref 7 83), (0, .nameAndType 84 12), (0, u "IFF"), (0, .fieldref 7 86), (0, .nameAndType 87 12), (0, u "IMP"), (0, .fieldref 7 89), (0, .nameAndType 90 12), (0, u "IF"), (0, .integer 2147483647), (0, .methodref 7 93), (0, .nameAndType 94 95), (0, u "isLogical"), (0, u "()Z"), (0, .class_ 97), (0, u "com/example/branchwise/branchwise/model/OperatorIsLogicalPinLaw"), (2, u "law"), (0, u "(I)Z")] 7

def k1m0 : Method := { name := "<init>", desc := "()V", sig := { parameters := [], returnType := none }, accessFlags := 1, code := none }
def k1c1 : Code := { maxStack := 4, maxLocals := 4, code := code, exceptionTable := #[], attributes := #[] }
def k1m1 : Method := { name := "law", desc := "(I)Z", sig := { parameters := [.int], returnType := some .boolean }, accessFlags := 9, code := some k1c1 }
/-- com/example/branchwise/branchwise/model/OperatorIsLogicalPinLaw -/
def k1 : Class := { plain "com/example/branchwise/branchwise/model/OperatorIsLogicalPinLaw" (some 0) with
  accessFlags := 49
  interfaces := #[]
  cf := some (fileOf pool1 96 #[] #[{ accessFlags := 1, nameIndex := 5, descriptorIndex := 6, attributes := #[] }, { accessFlags := 9, nameIndex := 100, descriptorIndex := 101, attributes := #[] }] 49 2 #[] #[])
  fields := #[]
  methods := #[k1m0, k1m1]
  instanceTypes := #[]
  staticTypes := #[]
  resolved := Array.replicate 109 none
  statics := none }

def pool2 : Array CpInfo := pool [(1, .class_ 2), (0, u "java/lang/constant/Constable"), (0, .class_ 4), (0, u "java/lang/Object")] 6

/-- java/lang/constant/Constable -/
def k2 : Class := { plain "java/lang/constant/Constable" (some 0) with
  accessFlags := 1537
  interfaces := #[]
  cf := some (fileOf pool2 1 #[] #[] 1537 3 #[] #[])
  fields := #[]
  methods := #[]
  instanceTypes := #[]
  staticTypes := #[]
  resolved := Array.replicate 11 none
  statics := none }

def pool3 : Array CpInfo := pool [(1, .class_ 2), (0, u "java/lang/Comparable"), (0, .class_ 4), (0, u "java/lang/Object")] 7

/-- java/lang/Comparable -/
def k3 : Class := { plain "java/lang/Comparable" (some 0) with
  accessFlags := 1537
  interfaces := #[]
  cf := some (fileOf pool3 1 #[] #[] 1537 3 #[] #[])
  fields := #[]
  methods := #[]
  instanceTypes := #[]
  staticTypes := #[]
  resolved := Array.replicate 12 none
  statics := none }

def pool4 : Array CpInfo := pool [(1, .class_ 2), (0, u "java/io/Serializable"), (0, .class_ 4), (0, u "java/lang/Object")] 2

/-- java/io/Serializable -/
def k4 : Class := { plain "java/io/Serializable" (some 0) with
  accessFlags := 1537
  interfaces := #[]
  cf := some (fileOf pool4 1 #[] #[] 1537 3 #[] #[])
  fields := #[]
  methods := #[]
  instanceTypes := #[]
  staticTypes := #[]
  resolved := Array.replicate 7 none
  statics := none }

def pool5 : Array CpInfo := pool [(2, .class_ 4), (1, u "java/lang/Enum"), (0, u "name"), (0, u "Ljava/lang/String;"), (2, u "ordinal"), (0, u "I"), (1, .class_ 14), (1, u "java/lang/Object"), (4, u "hash"), (86, .class_ 108), (1, u "java/lang/Enum$EnumDesc"), (2, .class_ 112), (0, u "java/lang/constant/Constable"), (0, .class_ 114), (0, u "java/lang/Comparable"), (0, .class_ 116), (0, u "java/io/Serializable")] 87

/-- java/lang/Enum -/
def k5 : Class := { plain "java/lang/Enum" (some 0) with
  accessFlags := 1057
  interfaces := #[2, 3, 4]
  cf := some (fileOf pool5 2 #[.nestMembers #[106]] #[] 1057 12 #[111, 113, 115] #[{ accessFlags := 18, nameIndex := 5, descriptorIndex := 6, attributes := #[] }, { accessFlags := 18, nameIndex := 9, descriptorIndex := 10, attributes := #[] }, { accessFlags := 2, nameIndex := 19, descriptorIndex := 10, attributes := #[] }])
  fields := #[{ name := "name", type := (.object "java/lang/String"), accessFlags := 18, slot := 0, constantValue := 0 }, { name := "ordinal", type := .int, accessFlags := 18, slot := 1, constantValue := 0 }, { name := "hash", type := .int, accessFlags := 2, slot := 2, constantValue := 0 }]
  methods := #[]
  instanceTypes := #[(.object "java/lang/String"), .int, .int]
  staticTypes := #[]
  resolved := Array.replicate 204 none
  statics := none }

def pool6 : Array CpInfo := pool [(3, .class_ 4), (0, u "com/example/branchwise/branchwise/model/Operator"), (2, u "NEG"), (0, u "Lcom/example/branchwise/branchwise/model/Operator;"), (2, u "ABS"), (2, u "SQR"), (2, u "ADD"), (2, u "SUB"), (2, u "MUL"), (2, u "DIV"), (2, u "MOD"), (2, u "POW"), (2, u "MIN"), (2, u "MAX"), (2, u "DIST"), (2, u "LT"), (2, u "LE"), (2, u "GE"), (2, u "GT"), (2, u "NE"), (2, u "EQ"), (2, u "IN"), (2, u "NOTIN"), (0, .fieldref 3 67), (0, .nameAndType 68 8), (0, u "NOT"), (0, .fieldref 3 70), (0, .nameAndType 71 8), (0, u "AND"), (0, .fieldref 3 73), (0, .nameAndType 74 8), (0, u "OR"), (0, .fieldref 3 76), (0, .nameAndType 77 8), (0, u "XOR"), (0, .fieldref 3 79), (0, .nameAndType 80 8), (0, u "IFF"), (0, .fieldref 3 82), (0, .nameAndType 83 8), (0, u "IMP"), (2, u "IF"), (2, u "$VALUES"), (0, u "[Lcom/example/branchwise/branchwise/model/Operator;"), (6, .class_ 99), (1, u "java/lang/Enum"), (8, u "minOperands"), (0, u "I"), (2, u "maxOperands"), (51, u "ANY"), (9, u "isLogical"), (0, u "()Z")] 7

def k6c0 : Code := { maxStack := 2, maxLocals := 1, code := prog_17_method_6_code, exceptionTable := #[], attributes := #[] }
def k6m0 : Method := { name := "isLogical", desc := "()Z", sig := { parameters := [], returnType := some .boolean }, accessFlags := 1, code := some k6c0 }
/-- com/example/branchwise/branchwise/model/Operator -/
def k6 : Class := { plain "com/example/branchwise/branchwise/model/Operator" (some 5) with
  accessFlags := 16433
  interfaces := #[]
  cf := some (fileOf pool6 3 #[] #[{ accessFlags := 1, nameIndex := 174, descriptorIndex := 175, attributes := #[] }] 16433 97 #[] #[{ accessFlags := 16409, nameIndex := 7, descriptorIndex := 8, attributes := #[] }, { accessFlags := 16409, nameIndex := 11, descriptorIndex := 8, attributes := #[] }, { accessFlags := 16409, nameIndex := 14, descriptorIndex := 8, attributes := #[] }, { accessFlags := 16409, nameIndex := 17, descriptorIndex := 8, attributes := #[] }, { accessFlags := 16409, nameIndex := 20, descriptorIndex := 8, attributes := #[] }, { accessFlags := 16409, nameIndex := 23, descriptorIndex := 8, attributes := #[] }, { accessFlags := 16409, nameIndex := 26, descriptorIndex := 8, attributes := #[] }, { accessFlags := 16409, nameIndex := 29, descriptorIndex := 8, attributes := #[] }, { accessFlags := 16409, nameIndex := 32, descriptorIndex := 8, attributes := #[] }, { accessFlags := 16409, nameIndex := 35, descriptorIndex := 8, attributes := #[] }, { accessFlags := 16409, nameIndex := 38, descriptorIndex := 8, attributes := #[] }, { accessFlags := 16409, nameIndex := 41, descriptorIndex := 8, attributes := #[] }, { accessFlags := 16409, nameIndex := 44, descriptorIndex := 8, attributes := #[] }, { accessFlags := 16409, nameIndex := 47, descriptorIndex := 8, attributes := #[] }, { accessFlags := 16409, nameIndex := 50, descriptorIndex := 8, attributes := #[] }, { accessFlags := 16409, nameIndex := 53, descriptorIndex := 8, attributes := #[] }, { accessFlags := 16409, nameIndex := 56, descriptorIndex := 8, attributes := #[] }, { accessFlags := 16409, nameIndex := 59, descriptorIndex := 8, attributes := #[] }, { accessFlags := 16409, nameIndex := 62, descriptorIndex := 8, attributes := #[] }, { accessFlags := 16409, nameIndex := 65, descriptorIndex := 8, attributes := #[] }, { accessFlags := 16409, nameIndex := 68, descriptorIndex := 8, attributes := #[] }, { accessFlags := 16409, nameIndex := 71, descriptorIndex := 8, attributes := #[] }, { accessFlags := 16409, nameIndex := 74, descriptorIndex := 8, attributes := #[] }, { accessFlags := 16409, nameIndex := 77, descriptorIndex := 8, attributes := #[] }, { accessFlags := 16409, nameIndex := 80, descriptorIndex := 8, attributes := #[] }, { accessFlags := 16409, nameIndex := 83, descriptorIndex := 8, attributes := #[] }, { accessFlags := 16409, nameIndex := 86, descriptorIndex := 8, attributes := #[] }, { accessFlags := 26, nameIndex := 164, descriptorIndex := 109, attributes := #[] }, { accessFlags := 18, nameIndex := 108, descriptorIndex := 109, attributes := #[] }, { accessFlags := 18, nameIndex := 112, descriptorIndex := 109, attributes := #[] }, { accessFlags := 4122, nameIndex := 89, descriptorIndex := 90, attributes := #[] }])
  fields := #[{ name := "NEG", type := (.object "com/example/branchwise/branchwise/model/Operator"), accessFlags := 16409, slot := 0, constantValue := 0 }, { name := "ABS", type := (.object "com/example/branchwise/branchwise/model/Operator"), accessFlags := 16409, slot := 1, constantValue := 0 }, { name := "SQR", type := (.object "com/example/branchwise/branchwise/model/Operator"), accessFlags := 16409, slot := 2, constantValue := 0 }, { name := "ADD", type := (.object "com/example/branchwise/branchwise/model/Operator"), accessFlags := 16409, slot := 3, constantValue := 0 }, { name := "SUB", type := (.object "com/example/branchwise/branchwise/model/Operator"), accessFlags := 16409, slot := 4, constantValue := 0 }, { name := "MUL", type := (.object "com/example/branchwise/branchwise/model/Operator"), accessFlags := 16409, slot := 5, constantValue := 0 }, { name := "DIV", type := (.object "com/example/branchwise/branchwise/model/Operator"), accessFlags := 16409, slot := 6, constantValue := 0 }, { name := "MOD", type := (.object "com/example/branchwise/branchwise/model/Operator"), accessFlags := 16409, slot := 7, constantValue := 0 }, { name := "POW", type := (.object "com/example/branchwise/branchwise/model/Operator"), accessFlags := 16409, slot := 8, constantValue := 0 }, { name := "MIN", type := (.object "com/example/branchwise/branchwise/model/Operator"), accessFlags := 16409, slot := 9, constantValue := 0 }, { name := "MAX", type := (.object "com/example/branchwise/branchwise/model/Operator"), accessFlags := 16409, slot := 10, constantValue := 0 }, { name := "DIST", type := (.object "com/example/branchwise/branchwise/model/Operator"), accessFlags := 16409, slot := 11, constantValue := 0 }, { name := "LT", type := (.object "com/example/branchwise/branchwise/model/Operator"), accessFlags := 16409, slot := 12, constantValue := 0 }, { name := "LE", type := (.object "com/example/branchwise/branchwise/model/Operator"), accessFlags := 16409, slot := 13, constantValue := 0 }, { name := "GE", type := (.object "com/example/branchwise/branchwise/model/Operator"), accessFlags := 16409, slot := 14, constantValue := 0 }, { name := "GT", type := (.object "com/example/branchwise/branchwise/model/Operator"), accessFlags := 16409, slot := 15, constantValue := 0 }, { name := "NE", type := (.object "com/example/branchwise/branchwise/model/Operator"), accessFlags := 16409, slot := 16, constantValue := 0 }, { name := "EQ", type := (.object "com/example/branchwise/branchwise/model/Operator"), accessFlags := 16409, slot := 17, constantValue := 0 }, { name := "IN", type := (.object "com/example/branchwise/branchwise/model/Operator"), accessFlags := 16409, slot := 18, constantValue := 0 }, { name := "NOTIN", type := (.object "com/example/branchwise/branchwise/model/Operator"), accessFlags := 16409, slot := 19, constantValue := 0 }, { name := "NOT", type := (.object "com/example/branchwise/branchwise/model/Operator"), accessFlags := 16409, slot := 20, constantValue := 0 }, { name := "AND", type := (.object "com/example/branchwise/branchwise/model/Operator"), accessFlags := 16409, slot := 21, constantValue := 0 }, { name := "OR", type := (.object "com/example/branchwise/branchwise/model/Operator"), accessFlags := 16409, slot := 22, constantValue := 0 }, { name := "XOR", type := (.object "com/example/branchwise/branchwise/model/Operator"), accessFlags := 16409, slot := 23, constantValue := 0 }, { name := "IFF", type := (.object "com/example/branchwise/branchwise/model/Operator"), accessFlags := 16409, slot := 24, constantValue := 0 }, { name := "IMP", type := (.object "com/example/branchwise/branchwise/model/Operator"), accessFlags := 16409, slot := 25, constantValue := 0 }, { name := "IF", type := (.object "com/example/branchwise/branchwise/model/Operator"), accessFlags := 16409, slot := 26, constantValue := 0 }, { name := "ANY", type := .int, accessFlags := 26, slot := 27, constantValue := 0 }, { name := "minOperands", type := .int, accessFlags := 18, slot := 3, constantValue := 0 }, { name := "maxOperands", type := .int, accessFlags := 18, slot := 4, constantValue := 0 }, { name := "$VALUES", type := (.array (.object "com/example/branchwise/branchwise/model/Operator")), accessFlags := 4122, slot := 28, constantValue := 0 }]
  methods := #[k6m0]
  instanceTypes := #[(.object "java/lang/String"), .int, .int, .int, .int]
  staticTypes := #[(.object "com/example/branchwise/branchwise/model/Operator"), (.object "com/example/branchwise/branchwise/model/Operator"), (.object "com/example/branchwise/branchwise/model/Operator"), (.object "com/example/branchwise/branchwise/model/Operator"), (.object "com/example/branchwise/branchwise/model/Operator"), (.object "com/example/branchwise/branchwise/model/Operator"), (.object "com/example/branchwise/branchwise/model/Operator"), (.object "com/example/branchwise/branchwise/model/Operator"), (.object "com/example/branchwise/branchwise/model/Operator"), (.object "com/example/branchwise/branchwise/model/Operator"), (.object "com/example/branchwise/branchwise/model/Operator"), (.object "com/example/branchwise/branchwise/model/Operator"), (.object "com/example/branchwise/branchwise/model/Operator"), (.object "com/example/branchwise/branchwise/model/Operator"), (.object "com/example/branchwise/branchwise/model/Operator"), (.object "com/example/branchwise/branchwise/model/Operator"), (.object "com/example/branchwise/branchwise/model/Operator"), (.object "com/example/branchwise/branchwise/model/Operator"), (.object "com/example/branchwise/branchwise/model/Operator"), (.object "com/example/branchwise/branchwise/model/Operator"), (.object "com/example/branchwise/branchwise/model/Operator"), (.object "com/example/branchwise/branchwise/model/Operator"), (.object "com/example/branchwise/branchwise/model/Operator"), (.object "com/example/branchwise/branchwise/model/Operator"), (.object "com/example/branchwise/branchwise/model/Operator"), (.object "com/example/branchwise/branchwise/model/Operator"), (.object "com/example/branchwise/branchwise/model/Operator"), .int, (.array (.object "com/example/branchwise/branchwise/model/Operator"))]
  resolved := Array.replicate 183 none
  statics := some 0 }

def pool7 : Array CpInfo := pool [(1, u "java/lang/Cloneable"), (0, .class_ 1), (0, u "java/lang/Object"), (0, .class_ 3)] 3

/-- java/lang/Cloneable -/
def k7 : Class := { plain "java/lang/Cloneable" (some 0) with
  accessFlags := 1537
  interfaces := #[]
  cf := some (fileOf pool7 2 #[] #[] 1537 4 #[] #[])
  fields := #[]
  methods := #[]
  instanceTypes := #[]
  staticTypes := #[]
  resolved := Array.replicate 8 none
  statics := none }

/-- the primitive boolean -/
def k8 : Class := { plain "boolean" none with kind := .primitive 'Z', accessFlags := 0x411 }
/-- [Z -/
def k9 : Class := { plain "[Z" (some 0) with kind := .array 8 .boolean, interfaces := #[7, 4], accessFlags := 1041 }

/-- the primitive byte -/
def k10 : Class := { plain "byte" none with kind := .primitive 'B', accessFlags := 0x411 }
/-- [B -/
def k11 : Class := { plain "[B" (some 0) with kind := .array 10 .byte, interfaces := #[7, 4], accessFlags := 1041 }

/-- the primitive int -/
def k12 : Class := { plain "int" none with kind := .primitive 'I', accessFlags := 0x411 }
/-- [I -/
def k13 : Class := { plain "[I" (some 0) with kind := .array 12 .int, interfaces := #[7, 4], accessFlags := 1041 }

/-- [Lcom/example/branchwise/branchwise/model/Operator; -/
def k14 : Class := { plain "[Lcom/example/branchwise/branchwise/model/Operator;" (some 0) with kind := .array 6 (.object "com/example/branchwise/branchwise/model/Operator"), interfaces := #[7, 4], accessFlags := 1041 }

def heap : Heap := #[{ cls := 6, slots := #[.ref 1, .ref 2, .ref 3, .ref 4, .ref 5, .ref 6, .ref 7, .ref 8, .ref 9, .ref 10, .ref 11, .ref 12, .ref 13, .ref 14, .ref 15, .ref 16, .ref 17, .ref 18, .ref 19, .ref 20, .ref 21, .ref 22, .ref 23, .ref 24, .ref 25, .ref 26, .ref 27, .int 0, .null], vm := .statics 6 },
  { cls := 6, slots := #[.null, .int 0, .int 0, .int 0, .int 0], vm := .none },
  { cls := 6, slots := #[.null, .int 1, .int 0, .int 0, .int 0], vm := .none },
  { cls := 6, slots := #[.null, .int 2, .int 0, .int 0, .int 0], vm := .none },
  { cls := 6, slots := #[.null, .int 3, .int 0, .int 0, .int 0], vm := .none },
  { cls := 6, slots := #[.null, .int 4, .int 0, .int 0, .int 0], vm := .none },
  { cls := 6, slots := #[.null, .int 5, .int 0, .int 0, .int 0], vm := .none },
  { cls := 6, slots := #[.null, .int 6, .int 0, .int 0, .int 0], vm := .none },
  { cls := 6, slots := #[.null, .int 7, .int 0, .int 0, .int 0], vm := .none },
  { cls := 6, slots := #[.null, .int 8, .int 0, .int 0, .int 0], vm := .none },
  { cls := 6, slots := #[.null, .int 9, .int 0, .int 0, .int 0], vm := .none },
  { cls := 6, slots := #[.null, .int 10, .int 0, .int 0, .int 0], vm := .none },
  { cls := 6, slots := #[.null, .int 11, .int 0, .int 0, .int 0], vm := .none },
  { cls := 6, slots := #[.null, .int 12, .int 0, .int 0, .int 0], vm := .none },
  { cls := 6, slots := #[.null, .int 13, .int 0, .int 0, .int 0], vm := .none },
  { cls := 6, slots := #[.null, .int 14, .int 0, .int 0, .int 0], vm := .none },
  { cls := 6, slots := #[.null, .int 15, .int 0, .int 0, .int 0], vm := .none },
  { cls := 6, slots := #[.null, .int 16, .int 0, .int 0, .int 0], vm := .none },
  { cls := 6, slots := #[.null, .int 17, .int 0, .int 0, .int 0], vm := .none },
  { cls := 6, slots := #[.null, .int 18, .int 0, .int 0, .int 0], vm := .none },
  { cls := 6, slots := #[.null, .int 19, .int 0, .int 0, .int 0], vm := .none },
  { cls := 6, slots := #[.null, .int 20, .int 0, .int 0, .int 0], vm := .none },
  { cls := 6, slots := #[.null, .int 21, .int 0, .int 0, .int 0], vm := .none },
  { cls := 6, slots := #[.null, .int 22, .int 0, .int 0, .int 0], vm := .none },
  { cls := 6, slots := #[.null, .int 23, .int 0, .int 0, .int 0], vm := .none },
  { cls := 6, slots := #[.null, .int 24, .int 0, .int 0, .int 0], vm := .none },
  { cls := 6, slots := #[.null, .int 25, .int 0, .int 0, .int 0], vm := .none },
  { cls := 6, slots := #[.null, .int 26, .int 0, .int 0, .int 0], vm := .none }]
def classes : Array Class := #[k0, k1, k2, k3, k4, k5, k6, k7, k8, k9, k10, k11, k12, k13, k14]
def interned : List (Array UInt16 × Addr) := []
def slotsUsed : Nat := 164
def theMethod : MethodId := ⟨1, 1⟩
def args0 : Array Value := #[.int 5]
def aboutOver (below : List Frame) : State where
  vm := { classes := classes, interned := interned.toArray }
  heap := heap
  slotsUsed := slotsUsed
  threads := #[{ frames := .invoking theMethod args0 :: below }]
def below0 : List Frame := [.native { method := ⟨0, 0⟩, args := #[] }]
def about1 : State := aboutOver below0
def p0 : Program := .bare "" "" ""
def e0 : Env := launch0.env 0 0 0
theorem w_frames : about1.frames = Frame.invoking theMethod args0 :: below0 := rfl
set_option maxRecDepth 65536 in
theorem w_args : argsFit about1.vm theMethod args0 = true := by decide +kernel
set_option maxRecDepth 65536 in
theorem w_heap : heapFits about1 = true := by decide +kernel
set_option maxRecDepth 65536 in
theorem w_runnable : about1.curStatus? = some .runnable := by decide +kernel
set_option maxRecDepth 65536 in
theorem w_alone : about1.alone = true := by decide +kernel
set_option maxRecDepth 65536 in
theorem w_named : about1.methodNamed? x = some theMethod := by decide +kernel
set_option maxRecDepth 65536 in
theorem w_hears : about1.hears theMethod below0 = true := by decide +kernel
set_option maxRecDepth 65536 in
theorem w_ripe : about1.ripe theMethod args0 below0 = true := by decide +kernel
theorem w_running : about1.status = .running := rfl
set_option maxRecDepth 65536 in
theorem w_room : about1.hasRoom e0.platform room_1 = true :=
  launch0.hasRoom_least _ room_1 (by decide +kernel) (by decide +kernel) (by decide +kernel) (by decide +kernel) (by decide +kernel) (by decide +kernel)
theorem allAtoms_all (ts : List Jvm.Cond) (a : Array Jvm.Value) (st : Jvm.State) : (allAtoms ts).before a st = ts.all (fun c => c.before a st) := by
  induction ts with
  | nil => rfl
  | cons c t ih =>
    show (Jvm.Cond.and c (allAtoms t)).before a st = _
    rw [Jvm.Cond.before_and, ih, List.all_cons]
def words1 : List Jvm.Cond := Jvm.Cond.code x code maxLocals ret :: tables_1
/-- a 'code' word, met by the world's own term for the bytes: nothing is compared byte by byte -/
theorem code_word {y : MethodName} {bytes : ByteArray} {mx : Nat} {rt : Option FieldType} {a : Array Value} {s : State} {m : MethodId} {meth : Method} {c : Code} (h1 : s.methodNamed? y = some m) (h2 : s.vm.method? m = some meth) (h3 : meth.code = some c) (h4 : c.code = bytes)
    (h5 : (c.maxLocals == mx && c.exceptionTable.isEmpty && decide (c.maxStack ≤ mostOperands) && decide (meth.sig.returnType = rt) && !meth.locks && decide (parseMethodDescriptor y.desc = some meth.sig)) = true) : (Jvm.Cond.code y bytes mx rt).before a s = true := by
  simp only [Bool.and_eq_true, beq_iff_eq, Bool.not_eq_true', decide_eq_true_eq] at h5
  obtain ⟨⟨⟨⟨⟨g1, g2⟩, g3⟩, g4⟩, g5⟩, g6⟩ := h5
  simp [Cond.before, Cond.holds, Cond.value, h1, h2, h3, h4, g1, g2, g3, g4, g5, g6]
def isCode : Jvm.Cond → Bool
  | .code _ _ _ _ => true
  | _ => false
theorem all_split {L : List Jvm.Cond} {P : Jvm.Cond → Bool} (h1 : L.all (fun c => isCode c || P c) = true) (h2 : ∀ c ∈ L.filter isCode, P c = true) : L.all P = true := by
  refine List.all_eq_true.mpr fun c hc => ?_
  have h := List.all_eq_true.mp h1 c hc
  rcases Bool.eq_false_or_eq_true (isCode c) with hi | hi
  · exact h2 c (List.mem_filter.mpr ⟨hc, hi⟩)
  · simpa [hi] using h
set_option maxRecDepth 65536 in
theorem w_c0 : (Jvm.Cond.code x code maxLocals ret).before args0 about1 = true := code_word (m := ⟨1, 1⟩) (meth := k1m1) (c := k1c1) (by decide +kernel) rfl rfl rfl (by decide +kernel)
set_option maxRecDepth 65536 in
theorem w_c1 : (Jvm.Cond.code ({ cls := "com/example/branchwise/branchwise/model/Operator", name := "isLogical", desc := "()Z" } : Jvm.MethodName) prog_17_method_6_code (1 : Nat) (Option.some Jvm.ClassFile.FieldType.boolean)).before args0 about1 = true := code_word (m := ⟨6, 0⟩) (meth := k6m0) (c := k6c0) (by decide +kernel) rfl rfl rfl (by decide +kernel)
def codes1 : List Jvm.Cond := [Jvm.Cond.code x code maxLocals ret, Jvm.Cond.code ({ cls := "com/example/branchwise/branchwise/model/Operator", name := "isLogical", desc := "()Z" } : Jvm.MethodName) prog_17_method_6_code (1 : Nat) (Option.some Jvm.ClassFile.FieldType.boolean)]
set_option maxRecDepth 65536 in
theorem codes_eq : words1.filter isCode = codes1 := rfl
theorem w_codes : ∀ c ∈ words1.filter isCode, c.before args0 about1 = true := by
  rw [codes_eq]
  intro c hc
  simp only [codes1, List.mem_cons, List.not_mem_nil, or_false] at hc
  rcases hc with rfl | rfl
  · exact w_c0
  · exact w_c1
set_option maxRecDepth 65536 in
theorem w_t1 : (words1.take 24).all (fun c => isCode c || c.before args0 about1) = true := by decide +kernel
set_option maxRecDepth 65536 in
theorem w_t2 : ((words1.drop 24).take 24).all (fun c => isCode c || c.before args0 about1) = true := by decide +kernel
set_option maxRecDepth 65536 in
theorem w_t3 : ((words1.drop 24).drop 24).all (fun c => isCode c || c.before args0 about1) = true := by decide +kernel
theorem w_tables : (allAtoms (Jvm.Cond.code x code maxLocals ret :: tables_1)).before args0 about1 = true := by
  rw [allAtoms_all]
  show words1.all (fun c => c.before args0 about1) = true
  refine all_split ?_ w_codes
  rw [← List.take_append_drop 24 words1, List.all_append, w_t1, ← List.take_append_drop 24 (words1.drop 24), List.all_append, w_t2, w_t3]
  rfl
set_option maxRecDepth 65536 in
theorem w_case : (Jvm.Cond.and given_1 narrow_1).before args0 about1 = true := by decide +kernel
theorem w_applies : (headSpec (Jvm.Cond.code x code maxLocals ret :: tables_1) room_1).applies x e0.platform about1 = true :=
  (Spec.applies_iff w_frames).mpr ⟨w_running, w_runnable, w_alone, w_named, w_hears, w_ripe, w_room, w_tables⟩
theorem atStart : AtStart classFile x code maxLocals ret World_1 tables_1 room_1 Calls_1 rest_1 Pre_1 launch0 p0 e0 about1 theMethod args0 below0 :=
  ⟨lists_1, trivial, launch0.admits_env _ _ _, launch0.least_env, fairChoices_fair.cas, fairChoices_fair.clock, w_frames, w_args, w_heap, w_applies, trivial, trivial, w_case⟩
end start1
theorem witness_1 : WitnessClaimed_1 := ⟨start1.p0, start1.e0, start1.about1, start1.theMethod, start1.args0, start1.below0, start1.atStart⟩
end Jvm.Pilot.@@N@@
