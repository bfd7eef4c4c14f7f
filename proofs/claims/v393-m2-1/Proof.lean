import JvmDerived
import JvmDerived.Pilot.@@N@@Statement
import JvmDerived.Pilot.@@N@@Code
set_option linter.unusedVariables false
set_option linter.unusedSimpArgs false
@@BLOCK:NumsL.lean.txt@@
namespace Jvm.OwnK
open Sem ClassFile Op Lib Jvm.Free Jvm.Stand Jvm.LawKit Jvm.RoadKit
section Base
variable {p : Program} {l : Launch} {e : Env} {R : Room} {s : State} {m : MethodId} {args : Array Value} {below : List Frame} {meth : Method} {c : Code} {T T' : State} {locs : List Loc} {cells slots : Nat} {Q : Option Value → Heap → List Loc → Prop} {kc ks : Nat} {g g' : JFrame} {Z : State} {a0 : Array Value} {h : Heap}
/-- the walk's goal: from T with g on top the invocation comes to its end, with Q -/
def Go (p : Program) (e : Env) (below : List Frame) (s T : State) (g : JFrame) (Q : Option Value → Heap → List Loc → Prop) (kc ks : Nat) : Prop :=
  ∃ s₂ o, Steps p.tables e below (T.setTop g) s₂ ∧ s₂.status = .running ∧ Ended s₂ below o ∧ ∃ v L, o = .returned v ∧ Q v s₂.heap L ∧ FrameEnd s o s₂ L kc ks
theorem Go.step (st : ∀ target, Steps p.tables e below (T'.setTop g') target → Steps p.tables e below (T.setTop g) target) (k : Go p e below s T' g' Q kc ks) : Go p e below s T g Q kc ks := by
  obtain ⟨s₂, o, h1, r⟩ := k
  exact ⟨s₂, o, st _ h1, r⟩
theorem Go.trans (st : Steps p.tables e below (T.setTop g) (T'.setTop g')) (k : Go p e below s T' g' Q kc ks) : Go p e below s T g Q kc ks := by
  obtain ⟨s₂, o, h1, r⟩ := k
  exact ⟨s₂, o, st.trans h1, r⟩
theorem Go.cast (q : g = g') (k : Go p e below s T g' Q kc ks) : Go p e below s T g Q kc ks := q ▸ k
theorem Go.out (X : Stand p l e R s m args below meth c T locs cells slots) (hlk : meth.locks = false) {v : Option Value} (hv : meth.sig.returnType = none → v = none) (hQ : Q v T.heap locs) (hc : cells ≤ kc) (hs : slots ≤ ks)
    (st : ∀ fs : List Frame, (∀ (f : JFrame) (acts : List Action), f.method = m → f.locked = none → f.entered = [] → (doReturn e (T.setTop f) acts v).1 = T.setFrames fs) → Steps p.tables e below (T.setTop g) (T.setFrames fs)) : Go p e below s T g Q kc ks := by
  obtain ⟨fs, hr, hrun, hended, hW, hsame⟩ := X.leave hv hlk
  exact ⟨_, _, st fs hr, hrun, hended, _, _, rfl, hQ, ⟨_, rfl⟩, hW, hsame.mono hc hs⟩
theorem Go.ret0 (X : Stand p l e R s m args below meth c T locs cells slots) (hx : p.tables.exec = Jvm.exec) (hlk : meth.locks = false) {pc : Nat} {Ls : Array Slot} (hret : meth.sig.returnType = none) (hd : decode c.code pc = .ok (.return_, 1)) (hc : cells ≤ kc) (hs : slots ≤ ks) (hQ : Q none T.heap locs) : Go p e below s T (mkF m pc Ls []) Q kc ks :=
  Go.out X hlk (fun _ => rfl) hQ hc hs fun fs hr => X.returnOut hx hret hd hr
theorem Go.retV (X : Stand p l e R s m args below meth c T locs cells slots) (hx : p.tables.exec = Jvm.exec) (hlk : meth.locks = false) {pc : Nat} {Ls : Array Slot} {w : Value} {t : FieldType} {i : Instr} {rest : List Value} (hret : meth.sig.returnType = some t) (hn : narrow t w = w)
    (hi : (i = .ireturn ∧ (t = .int ∨ t = .boolean ∨ t = .byte ∨ t = .char ∨ t = .short) ∧ ∃ z, w = .int z) ∨ (i = .lreturn ∧ t = .long ∧ ∃ z, w = .long z) ∨ (i = .dreturn ∧ t = .double ∧ ∃ z, w = .double z) ∨ (i = .freturn ∧ t = .float ∧ ∃ z, w = .float z) ∨ (i = .areturn ∧ t.isReference = true ∧ w.isRef = true))
    (hd : decode c.code pc = .ok (i, 1)) (hc : cells ≤ kc) (hs : slots ≤ ks) (hQ : Q (some w) T.heap locs) : Go p e below s T (mkF m pc Ls (w :: rest)) Q kc ks :=
  Go.out X hlk (fun q => by rw [hret] at q; cases q) hQ hc hs fun fs hr => retOut X hx hret hn hi hd hr
theorem Go.retI (X : Stand p l e R s m args below meth c T locs cells slots) (hx : p.tables.exec = Jvm.exec) (hlk : meth.locks = false) {pc : Nat} {Ls : Array Slot} {z : Int32} {rest : List Value} (hret : meth.sig.returnType = some .int)
    (hd : decode c.code pc = .ok (.ireturn, 1)) (hc : cells ≤ kc) (hs : slots ≤ ks) (hQ : Q (some (.int z)) T.heap locs) : Go p e below s T (mkF m pc Ls (.int z :: rest)) Q kc ks :=
  Go.retV X hx hlk hret rfl (Or.inl ⟨rfl, Or.inl rfl, z, rfl⟩) hd hc hs hQ
theorem nar_bool {z : Int32} (h : z = 0 ∨ z = 1) : narrow .boolean (.int z) = .int z := by rcases h with rfl | rfl <;> rfl
theorem Go.retZ (X : Stand p l e R s m args below meth c T locs cells slots) (hx : p.tables.exec = Jvm.exec) (hlk : meth.locks = false) {pc : Nat} {Ls : Array Slot} {z : Int32} {rest : List Value} (hret : meth.sig.returnType = some .boolean) (hz : z = 0 ∨ z = 1)
    (hd : decode c.code pc = .ok (.ireturn, 1)) (hc : cells ≤ kc) (hs : slots ≤ ks) (hQ : Q (some (.int z)) T.heap locs) : Go p e below s T (mkF m pc Ls (.int z :: rest)) Q kc ks :=
  Go.retV X hx hlk hret (nar_bool hz) (Or.inl ⟨rfl, Or.inr (Or.inl rfl), z, rfl⟩) hd hc hs hQ
theorem Go.retJ (X : Stand p l e R s m args below meth c T locs cells slots) (hx : p.tables.exec = Jvm.exec) (hlk : meth.locks = false) {pc : Nat} {Ls : Array Slot} {z : Int64} {rest : List Value} (hret : meth.sig.returnType = some .long)
    (hd : decode c.code pc = .ok (.lreturn, 1)) (hc : cells ≤ kc) (hs : slots ≤ ks) (hQ : Q (some (.long z)) T.heap locs) : Go p e below s T (mkF m pc Ls (.long z :: rest)) Q kc ks :=
  Go.retV X hx hlk hret rfl (Or.inr (Or.inl ⟨rfl, rfl, z, rfl⟩)) hd hc hs hQ
theorem Go.retR (X : Stand p l e R s m args below meth c T locs cells slots) (hx : p.tables.exec = Jvm.exec) (hlk : meth.locks = false) {pc : Nat} {Ls : Array Slot} {w : Value} {t : FieldType} {rest : List Value} (hret : meth.sig.returnType = some t) (ht : t.isReference = true) (hw : w.isRef = true)
    (hd : decode c.code pc = .ok (.areturn, 1)) (hc : cells ≤ kc) (hs : slots ≤ ks) (hQ : Q (some w) T.heap locs) : Go p e below s T (mkF m pc Ls (w :: rest)) Q kc ks :=
  Go.retV X hx hlk hret (by cases t <;> simp [narrow, FieldType.isReference] at ht ⊢) (Or.inr (Or.inr (Or.inr (Or.inr ⟨rfl, ht, hw⟩)))) hd hc hs hQ
/-- a method's contract in this text: from the heap h0, with these arguments, it returns, with Q -/
def Met (l : Launch) (Z : State) (y : MethodName) (bytes : ByteArray) (maxL : Nat) (ret : Option FieldType) (ws : List Jvm.Cond) (rm : Room) (as' : Array Value) (h0 : Heap) (Q : Option Value → Heap → List Loc → Prop) : Prop :=
  MetFree l y (head1 (Jvm.Cond.code y bytes maxL ret :: ws) rm) (fun a U => a = as' ∧ Z.Warmed39 U.vm ∧ U.heap = h0) (fun _ _ _ _ _ => True) (fun _ U o U' => ∃ v L, o = .returned v ∧ Q v U'.heap L ∧ FrameEnd U o U' L rm.cells rm.slots)
theorem Met.of {y : MethodName} {bytes : ByteArray} {maxL : Nat} {ret : Option FieldType} {ws : List Jvm.Cond} {rm : Room} {as' : Array Value} {h0 : Heap} (hpn : plainFor y = true)
    (body : ∀ (p : Program) (e : Env) (s : State) (m : MethodId) (below : List Frame) (meth : Method) (c : Code) (s₁ : State), Stand p l e rm s m as' below meth c s₁ [] 0 0 → p.tables.exec = Jvm.exec → c.code = bytes → c.maxLocals = maxL → Z.Warmed39 s.vm →
      s.vm.findClass y.cls = some m.cls → meth.name = y.name → s₁.heap = h0 → meth.sig.returnType = ret → meth.locks = false → Go p e below s s₁ (entryFrame m as' maxL) Q rm.cells rm.slots) : Met l Z y bytes maxL ret ws rm as' h0 Q := by
  refine MetFree.of_bodySF hpn hisR ?_
  intro p e s m args below meth c s₁ Bd hml0 hP hK
  obtain ⟨rfl, hZ, hh⟩ := hP
  exact body p e s m below meth c s₁ (Stand.of_body Bd) Bd.exec Bd.bytes hml0 hZ (findClass_of_methodNamed Bd.named) (name_of_methodNamed Bd.named Bd.method).1 (by rw [← hh, Bd.state]; rfl) Bd.returns Bd.notSynchronized
theorem Met.mono {y : MethodName} {bytes : ByteArray} {maxL : Nat} {ret : Option FieldType} {ws : List Jvm.Cond} {rm : Room} {as' : Array Value} {h0 : Heap} {Q' : Option Value → Heap → List Loc → Prop} (hM : Met l Z y bytes maxL ret ws rm as' h0 Q) (q : ∀ v h L, Q v h L → Q' v h L) : Met l Z y bytes maxL ret ws rm as' h0 Q' := by
  intro p e ha hc hk s m args below hf happ hP hK
  obtain ⟨n, o, h1, h2, h3, v, L, h4, h5, h6⟩ := hM p e ha hc hk s m args below hf happ hP hK
  exact ⟨n, o, h1, h2, h3, v, L, h4, q _ _ _ h5, h6⟩
/-- the call of a static method, by its contract -/
theorem Go.callS {own : String} {index : Nat} {y : MethodName} {bytes : ByteArray} {maxL : Nat} {ret : Option FieldType} {rm : Room} {argsL rest : List Value} {Q' : Option Value → Heap → List Loc → Prop} {W pc : Nat} {Ls : Array Slot} {st : List Value}
    (X : Stand p l e R s m args below meth c T locs cells slots) (hx : p.tables.exec = Jvm.exec) (hZ : Z.Warmed39 s.vm) (hown : s.vm.findClass own = some m.cls)
    (w1 : (Jvm.Cond.methodLink own index y).before a0 Z = true) (w2 : (Jvm.Cond.static y).before a0 Z = true) (w3 : (Jvm.Cond.initialized y.cls).before a0 Z = true) (w4 : (Jvm.Cond.code y bytes maxL ret).before a0 Z = true)
    (hy : y.cls ≠ "java/lang/invoke/MethodHandle" ∧ y.cls ≠ "java/lang/invoke/VarHandle") (hM : Met l Z y bytes maxL ret [] rm argsL.toArray h Q') (eT : T.heap = h)
    (hlen : ∀ sig, parseMethodDescriptor y.desc = some sig → argsL.length = sig.parameters.length) (hd : decode c.code pc = .ok (.invokestatic index, 3)) (hsize : Ls.size = c.maxLocals) (hst : st = argsL.reverse ++ rest) (hW : (rest.map fun v => v.category).sum ≤ W)
    (hf : rm.frames + 1 ≤ R.frames) (hl : W + (maxL + 11) + rm.locals ≤ R.locals) (hc : cells + rm.cells ≤ R.cells) (hs : slots + rm.slots ≤ R.slots)
    (k : ∀ v T' L, Stand p l e R s m args below meth c T' (locs ++ L) (cells + rm.cells) (slots + rm.slots) → Q' v T'.heap L → Go p e below s T' (mkF m (pc + 3) Ls (v.toList ++ rest)) Q kc ks) : Go p e below s T (mkF m pc Ls st) Q kc ks := by
  obtain ⟨v, vm₁, ⟨T1, L1, k1, n1⟩, -, X1, ⟨Lc, hQ1, l1, y1, z1⟩, st1⟩ := Jvm.LawKit.callS X hx (y := y) hown (mvT hZ w1) (mvT hZ w2) (mvT hZ w3) (mvT hZ w4) hy (backOf (W := W) hM hZ w4 w3 hf hl) (g := mkF m pc Ls st) rfl hsize (argsL := argsL) (rest := rest) hlen hst (by show 2 * 0 + _ ≤ _; omega) hd (fun _ _ => ⟨rfl, eT, hc, hs⟩)
  dsimp only [Pt.U, Pt.locs, Pt.cells, Pt.slots] at X1 l1 y1 z1 st1 hQ1
  subst l1 y1 z1
  exact Go.step st1 (k v T1 Lc X1 hQ1)
/-- the call of a constructor, by its contract -/
theorem Go.callI {own : String} {index : Nat} {y : MethodName} {bytes : ByteArray} {maxL : Nat} {rm : Room} {a : Addr} {argsL rest : List Value} {Q' : Option Value → Heap → List Loc → Prop} {W pc : Nat} {Ls : Array Slot} {st : List Value}
    (X : Stand p l e R s m args below meth c T locs cells slots) (hx : p.tables.exec = Jvm.exec) (hZ : Z.Warmed39 s.vm) (hown : s.vm.findClass own = some m.cls) (hy1 : y.name = "<init>")
    (w1 : (Jvm.Cond.methodLink own index y).before a0 Z = true) (w2 : (Jvm.Cond.instanceMethod y).before a0 Z = true) (w3 : (Jvm.Cond.initialized y.cls).before a0 Z = true) (w4 : (Jvm.Cond.code y bytes maxL none).before a0 Z = true)
    (hy : y.cls ≠ "java/lang/invoke/MethodHandle" ∧ y.cls ≠ "java/lang/invoke/VarHandle") (hM : Met l Z y bytes maxL none [] rm (.ref a :: argsL).toArray h Q') (eT : T.heap = h)
    (hlen : ∀ sig, parseMethodDescriptor y.desc = some sig → argsL.length = sig.parameters.length) (hd : decode c.code pc = .ok (.invokespecial index, 3)) (hsize : Ls.size = c.maxLocals) (hst : st = argsL.reverse ++ .ref a :: rest) (hW : (rest.map fun v => v.category).sum ≤ W)
    (hf : rm.frames + 1 ≤ R.frames) (hl : W + (maxL + 11) + rm.locals ≤ R.locals) (hc : cells + rm.cells ≤ R.cells) (hs : slots + rm.slots ≤ R.slots)
    (k : ∀ v T' L, Stand p l e R s m args below meth c T' (locs ++ L) (cells + rm.cells) (slots + rm.slots) → Q' v T'.heap L → Go p e below s T' (mkF m (pc + 3) Ls (v.toList ++ rest)) Q kc ks) : Go p e below s T (mkF m pc Ls st) Q kc ks := by
  obtain ⟨v, vm₁, ⟨T1, L1, k1, n1⟩, -, X1, ⟨Lc, hQ1, l1, y1, z1⟩, st1⟩ := X.specialBack hx (y := y) hy1 hown (mvT hZ w1) (mvT hZ w2) (mvT hZ w4) hy (backOf (W := W) hM hZ w4 w3 hf hl) (g := mkF m pc Ls st) rfl hsize (Steps.refl _) (a := a) (argsL := argsL) (rest := rest) hlen hst (by show 2 * 0 + _ ≤ _; omega) hd (fun _ _ => ⟨rfl, eT, hc, hs⟩)
  dsimp only [Pt.U, Pt.locs, Pt.cells, Pt.slots] at X1 l1 y1 z1 st1 hQ1
  subst l1 y1 z1
  exact Go.trans st1 (k v T1 Lc X1 hQ1)
/-- the call of an instance method, by its contract -/
theorem Go.callV {own C : String} {index : Nat} {y z : MethodName} {bytes : ByteArray} {maxL : Nat} {ret : Option FieldType} {rm : Room} {a : Addr} {argsL rest : List Value} {Q' : Option Value → Heap → List Loc → Prop} {W pc : Nat} {Ls : Array Slot} {st : List Value}
    (X : Stand p l e R s m args below meth c T locs cells slots) (hx : p.tables.exec = Jvm.exec) (hZ : Z.Warmed39 s.vm) (hown : s.vm.findClass own = some m.cls)
    (w1 : (Jvm.Cond.methodLink own index y).before a0 Z = true) (w2 : (Jvm.Cond.declares y).before a0 Z = true) (w5 : (Jvm.Cond.selects C y z).before a0 Z = true) (w6 : (Jvm.Cond.instanceMethod z).before a0 Z = true) (w3 : (Jvm.Cond.initialized z.cls).before a0 Z = true) (w4 : (Jvm.Cond.code z bytes maxL ret).before a0 Z = true)
    (nf : NotFace s y) (hy : y.cls ≠ "java/lang/invoke/MethodHandle" ∧ y.cls ≠ "java/lang/invoke/VarHandle") (E : Exa Z h a C) (hM : Met l Z z bytes maxL ret [] rm (.ref a :: argsL).toArray h Q') (eT : T.heap = h)
    (hlen : ∀ sig, parseMethodDescriptor y.desc = some sig → argsL.length = sig.parameters.length) (hd : decode c.code pc = .ok (.invokevirtual index, 3)) (hsize : Ls.size = c.maxLocals) (hst : st = argsL.reverse ++ .ref a :: rest) (hW : (rest.map fun v => v.category).sum ≤ W)
    (hf : rm.frames + 1 ≤ R.frames) (hl : W + (maxL + 11) + rm.locals ≤ R.locals) (hc : cells + rm.cells ≤ R.cells) (hs : slots + rm.slots ≤ R.slots)
    (k : ∀ v T' L, Stand p l e R s m args below meth c T' (locs ++ L) (cells + rm.cells) (slots + rm.slots) → Q' v T'.heap L → Go p e below s T' (mkF m (pc + 3) Ls (v.toList ++ rest)) Q kc ks) : Go p e below s T (mkF m pc Ls st) Q kc ks := by
  obtain ⟨cB, kB, q1, q2, q3⟩ := isOf hZ eT E
  obtain ⟨v, vm₁, ⟨T1, L1, k1, n1⟩, -, X1, ⟨Lc, hQ1, l1, y1, z1⟩, st1⟩ := X.virtualBack hx (y := y) (z := z) hown (mvT hZ w1) (mvT hZ w2) nf (mvT hZ w5) (mvT hZ w6) hy (backOf (W := W) hM hZ w4 w3 hf hl) q1 q3 (g := mkF m pc Ls st) rfl hsize (Steps.refl _) (argsL := argsL) (rest := rest) hlen hst (by show 2 * 0 + _ ≤ _; omega) hd (fun _ _ => ⟨rfl, eT, hc, hs⟩)
  dsimp only [Pt.U, Pt.locs, Pt.cells, Pt.slots] at X1 l1 y1 z1 st1 hQ1
  subst l1 y1 z1
  exact Go.trans st1 (k v T1 Lc X1 hQ1)
theorem Go.ldc {own : String} {index pc : Nat} {v : Int32} {Ls : Array Slot} {st : List Value} (X : Stand p l e R s m args below meth c T locs cells slots) (hx : p.tables.exec = Jvm.exec) (hZ : Z.Warmed39 s.vm) (hown : s.vm.findClass own = some m.cls) (w : (Jvm.Cond.constant own index v).before a0 Z = true) (hd : decode c.code pc = .ok (.ldc index, 2))
    (k : Go p e below s T (mkF m (pc + 2) Ls (.int v :: st)) Q kc ks) : Go p e below s T (mkF m pc Ls st) Q kc ks :=
  Go.step (fun _ => X.ldcI hx hown (mvT hZ w) (g := mkF m pc Ls st) rfl hd) k
theorem Go.ldcw {own : String} {index pc : Nat} {v : Int32} {Ls : Array Slot} {st : List Value} (X : Stand p l e R s m args below meth c T locs cells slots) (hx : p.tables.exec = Jvm.exec) (hZ : Z.Warmed39 s.vm) (hown : s.vm.findClass own = some m.cls) (w : (Jvm.Cond.constant own index v).before a0 Z = true) (hd : decode c.code pc = .ok (.ldc_w index, 3))
    (k : Go p e below s T (mkF m (pc + 3) Ls (.int v :: st)) Q kc ks) : Go p e below s T (mkF m pc Ls st) Q kc ks :=
  Go.step (fun _ => X.ldcWI hx hown (mvT hZ w) (g := mkF m pc Ls st) rfl hd) k
theorem Go.ldc2 {own : String} {index pc : Nat} {v : Int64} {Ls : Array Slot} {st : List Value} (X : Stand p l e R s m args below meth c T locs cells slots) (hx : p.tables.exec = Jvm.exec) (hZ : Z.Warmed39 s.vm) (hown : s.vm.findClass own = some m.cls) (w : (Jvm.Cond.constantLong own index v).before a0 Z = true) (hd : decode c.code pc = .ok (.ldc2_w index, 3))
    (k : Go p e below s T (mkF m (pc + 3) Ls (.long v :: st)) Q kc ks) : Go p e below s T (mkF m pc Ls st) Q kc ks :=
  Go.step (fun _ => X.ldc2J hx hown (mvT hZ w) (g := mkF m pc Ls st) rfl hd) k
end Base
end Jvm.OwnK
namespace Jvm.OwnK
open Sem ClassFile Op Lib Jvm.Free Jvm.Stand Jvm.LawKit Jvm.RoadKit
section Steps
variable {p : Program} {l : Launch} {e : Env} {R : Room} {s : State} {m : MethodId} {args : Array Value} {below : List Frame} {meth : Method} {c : Code} {T T' : State} {locs : List Loc} {cells slots : Nat} {Q : Option Value → Heap → List Loc → Prop} {kc ks : Nat} {Z : State} {a0 : Array Value} {h : Heap} {pc : Nat} {Ls : Array Slot} {rest : List Value}
theorem Go.iadd {x y : Int32} (X : Stand p l e R s m args below meth c T locs cells slots) (hx : p.tables.exec = Jvm.exec) (hd : decode c.code pc = .ok (.iadd, 1)) (k : Go p e below s T (mkF m (pc + 1) Ls (.int (x + y) :: rest)) Q kc ks) : Go p e below s T (mkF m pc Ls (.int y :: .int x :: rest)) Q kc ks :=
  Go.step (fun _ => XS.iadd X.here hx (g := mkF m pc Ls (.int y :: .int x :: rest)) rfl hd rfl) k
theorem Go.isub {x y : Int32} (X : Stand p l e R s m args below meth c T locs cells slots) (hx : p.tables.exec = Jvm.exec) (hd : decode c.code pc = .ok (.isub, 1)) (k : Go p e below s T (mkF m (pc + 1) Ls (.int (x - y) :: rest)) Q kc ks) : Go p e below s T (mkF m pc Ls (.int y :: .int x :: rest)) Q kc ks :=
  Go.step (fun _ => XS.isub X.here hx (g := mkF m pc Ls (.int y :: .int x :: rest)) rfl hd rfl) k
theorem Go.iand {x y : Int32} (X : Stand p l e R s m args below meth c T locs cells slots) (hx : p.tables.exec = Jvm.exec) (hd : decode c.code pc = .ok (.iand, 1)) (k : Go p e below s T (mkF m (pc + 1) Ls (.int (x &&& y) :: rest)) Q kc ks) : Go p e below s T (mkF m pc Ls (.int y :: .int x :: rest)) Q kc ks :=
  Go.step (fun _ => XS.iand X.here hx (g := mkF m pc Ls (.int y :: .int x :: rest)) rfl hd rfl) k
theorem Go.imul {x y : Int32} (X : Stand p l e R s m args below meth c T locs cells slots) (hx : p.tables.exec = Jvm.exec) (hd : decode c.code pc = .ok (.imul, 1)) (k : Go p e below s T (mkF m (pc + 1) Ls (.int (x * y) :: rest)) Q kc ks) : Go p e below s T (mkF m pc Ls (.int y :: .int x :: rest)) Q kc ks :=
  Go.step (fun _ => XS.imul X.here hx (g := mkF m pc Ls (.int y :: .int x :: rest)) rfl hd rfl) k
theorem Go.ixor {x y : Int32} (X : Stand p l e R s m args below meth c T locs cells slots) (hx : p.tables.exec = Jvm.exec) (hd : decode c.code pc = .ok (.ixor, 1)) (k : Go p e below s T (mkF m (pc + 1) Ls (.int (x ^^^ y) :: rest)) Q kc ks) : Go p e below s T (mkF m pc Ls (.int y :: .int x :: rest)) Q kc ks :=
  Go.step (fun _ => XT.ixor X.here hx (g := mkF m pc Ls (.int y :: .int x :: rest)) rfl hd rfl) k
theorem Go.ior {x y : Int32} (X : Stand p l e R s m args below meth c T locs cells slots) (hx : p.tables.exec = Jvm.exec) (hd : decode c.code pc = .ok (.ior, 1)) (k : Go p e below s T (mkF m (pc + 1) Ls (.int (x ||| y) :: rest)) Q kc ks) : Go p e below s T (mkF m pc Ls (.int y :: .int x :: rest)) Q kc ks :=
  Go.step (fun _ => XT.ior X.here hx (g := mkF m pc Ls (.int y :: .int x :: rest)) rfl hd rfl) k
theorem Go.ishl {x y : Int32} (X : Stand p l e R s m args below meth c T locs cells slots) (hx : p.tables.exec = Jvm.exec) (hd : decode c.code pc = .ok (.ishl, 1)) (k : Go p e below s T (mkF m (pc + 1) Ls (.int (x <<< (y &&& 31)) :: rest)) Q kc ks) : Go p e below s T (mkF m pc Ls (.int y :: .int x :: rest)) Q kc ks :=
  Go.step (fun _ => XT.ishl X.here hx (g := mkF m pc Ls (.int y :: .int x :: rest)) rfl hd rfl) k
theorem Go.ishr {x y : Int32} (X : Stand p l e R s m args below meth c T locs cells slots) (hx : p.tables.exec = Jvm.exec) (hd : decode c.code pc = .ok (.ishr, 1)) (k : Go p e below s T (mkF m (pc + 1) Ls (.int (x >>> (y &&& 31)) :: rest)) Q kc ks) : Go p e below s T (mkF m pc Ls (.int y :: .int x :: rest)) Q kc ks :=
  Go.step (fun _ => XT.ishr X.here hx (g := mkF m pc Ls (.int y :: .int x :: rest)) rfl hd rfl) k
theorem Go.iushr {x y : Int32} (X : Stand p l e R s m args below meth c T locs cells slots) (hx : p.tables.exec = Jvm.exec) (hd : decode c.code pc = .ok (.iushr, 1)) (k : Go p e below s T (mkF m (pc + 1) Ls (.int (XT.ushr x y) :: rest)) Q kc ks) : Go p e below s T (mkF m pc Ls (.int y :: .int x :: rest)) Q kc ks :=
  Go.step (fun _ => XT.iushr X.here hx (g := mkF m pc Ls (.int y :: .int x :: rest)) rfl hd rfl) k
theorem Go.idiv {x y : Int32} (X : Stand p l e R s m args below meth c T locs cells slots) (hx : p.tables.exec = Jvm.exec) (hd : decode c.code pc = .ok (.idiv, 1)) (hy : y ≠ 0) (k : Go p e below s T (mkF m (pc + 1) Ls (.int (x / y) :: rest)) Q kc ks) : Go p e below s T (mkF m pc Ls (.int y :: .int x :: rest)) Q kc ks :=
  Go.step (fun _ => XS.idiv X.here hx (g := mkF m pc Ls (.int y :: .int x :: rest)) rfl hd rfl hy) k
theorem Go.irem {x y : Int32} (X : Stand p l e R s m args below meth c T locs cells slots) (hx : p.tables.exec = Jvm.exec) (hd : decode c.code pc = .ok (.irem, 1)) (hy : y ≠ 0) (k : Go p e below s T (mkF m (pc + 1) Ls (.int (x % y) :: rest)) Q kc ks) : Go p e below s T (mkF m pc Ls (.int y :: .int x :: rest)) Q kc ks :=
  Go.step (fun _ => iremM X hx (g := mkF m pc Ls (.int y :: .int x :: rest)) rfl hd rfl hy) k
theorem Go.ladd {x y : Int64} (X : Stand p l e R s m args below meth c T locs cells slots) (hx : p.tables.exec = Jvm.exec) (hd : decode c.code pc = .ok (.ladd, 1)) (k : Go p e below s T (mkF m (pc + 1) Ls (.long (x + y) :: rest)) Q kc ks) : Go p e below s T (mkF m pc Ls (.long y :: .long x :: rest)) Q kc ks :=
  Go.step (fun _ => XT.ladd X.here hx (g := mkF m pc Ls (.long y :: .long x :: rest)) rfl hd rfl) k
theorem Go.lsub {x y : Int64} (X : Stand p l e R s m args below meth c T locs cells slots) (hx : p.tables.exec = Jvm.exec) (hd : decode c.code pc = .ok (.lsub, 1)) (k : Go p e below s T (mkF m (pc + 1) Ls (.long (x - y) :: rest)) Q kc ks) : Go p e below s T (mkF m pc Ls (.long y :: .long x :: rest)) Q kc ks :=
  Go.step (fun _ => XT.lsub X.here hx (g := mkF m pc Ls (.long y :: .long x :: rest)) rfl hd rfl) k
theorem Go.lmul {x y : Int64} (X : Stand p l e R s m args below meth c T locs cells slots) (hx : p.tables.exec = Jvm.exec) (hd : decode c.code pc = .ok (.lmul, 1)) (k : Go p e below s T (mkF m (pc + 1) Ls (.long (x * y) :: rest)) Q kc ks) : Go p e below s T (mkF m pc Ls (.long y :: .long x :: rest)) Q kc ks :=
  Go.step (fun _ => XT.lmul X.here hx (g := mkF m pc Ls (.long y :: .long x :: rest)) rfl hd rfl) k
theorem Go.land {x y : Int64} (X : Stand p l e R s m args below meth c T locs cells slots) (hx : p.tables.exec = Jvm.exec) (hd : decode c.code pc = .ok (.land, 1)) (k : Go p e below s T (mkF m (pc + 1) Ls (.long (x &&& y) :: rest)) Q kc ks) : Go p e below s T (mkF m pc Ls (.long y :: .long x :: rest)) Q kc ks :=
  Go.step (fun _ => XT.land X.here hx (g := mkF m pc Ls (.long y :: .long x :: rest)) rfl hd rfl) k
theorem Go.lor {x y : Int64} (X : Stand p l e R s m args below meth c T locs cells slots) (hx : p.tables.exec = Jvm.exec) (hd : decode c.code pc = .ok (.lor, 1)) (k : Go p e below s T (mkF m (pc + 1) Ls (.long (x ||| y) :: rest)) Q kc ks) : Go p e below s T (mkF m pc Ls (.long y :: .long x :: rest)) Q kc ks :=
  Go.step (fun _ => XT.lor X.here hx (g := mkF m pc Ls (.long y :: .long x :: rest)) rfl hd rfl) k
theorem Go.lxor {x y : Int64} (X : Stand p l e R s m args below meth c T locs cells slots) (hx : p.tables.exec = Jvm.exec) (hd : decode c.code pc = .ok (.lxor, 1)) (k : Go p e below s T (mkF m (pc + 1) Ls (.long (x ^^^ y) :: rest)) Q kc ks) : Go p e below s T (mkF m pc Ls (.long y :: .long x :: rest)) Q kc ks :=
  Go.step (fun _ => XT.lxor X.here hx (g := mkF m pc Ls (.long y :: .long x :: rest)) rfl hd rfl) k
theorem Go.lcmp {x y : Int64} (X : Stand p l e R s m args below meth c T locs cells slots) (hx : p.tables.exec = Jvm.exec) (hd : decode c.code pc = .ok (.lcmp, 1)) (k : Go p e below s T (mkF m (pc + 1) Ls (.int (XT.cmpL x y) :: rest)) Q kc ks) : Go p e below s T (mkF m pc Ls (.long y :: .long x :: rest)) Q kc ks :=
  Go.step (fun _ => XT.lcmp X.here hx (g := mkF m pc Ls (.long y :: .long x :: rest)) rfl hd rfl) k
theorem Go.lshl {x : Int64} {y : Int32} (X : Stand p l e R s m args below meth c T locs cells slots) (hx : p.tables.exec = Jvm.exec) (hd : decode c.code pc = .ok (.lshl, 1)) (k : Go p e below s T (mkF m (pc + 1) Ls (.long (x <<< (y.toInt64 &&& 63)) :: rest)) Q kc ks) : Go p e below s T (mkF m pc Ls (.int y :: .long x :: rest)) Q kc ks :=
  Go.step (fun _ => XT.lshl X.here hx (g := mkF m pc Ls (.int y :: .long x :: rest)) rfl hd rfl) k
theorem Go.lshr {x : Int64} {y : Int32} (X : Stand p l e R s m args below meth c T locs cells slots) (hx : p.tables.exec = Jvm.exec) (hd : decode c.code pc = .ok (.lshr, 1)) (k : Go p e below s T (mkF m (pc + 1) Ls (.long (x >>> (y.toInt64 &&& 63)) :: rest)) Q kc ks) : Go p e below s T (mkF m pc Ls (.int y :: .long x :: rest)) Q kc ks :=
  Go.step (fun _ => XT.lshr X.here hx (g := mkF m pc Ls (.int y :: .long x :: rest)) rfl hd rfl) k
theorem Go.lushr {x : Int64} {y : Int32} (X : Stand p l e R s m args below meth c T locs cells slots) (hx : p.tables.exec = Jvm.exec) (hd : decode c.code pc = .ok (.lushr, 1)) (k : Go p e below s T (mkF m (pc + 1) Ls (.long (XT.ushrL x y) :: rest)) Q kc ks) : Go p e below s T (mkF m pc Ls (.int y :: .long x :: rest)) Q kc ks :=
  Go.step (fun _ => XT.lushr X.here hx (g := mkF m pc Ls (.int y :: .long x :: rest)) rfl hd rfl) k
theorem Go.i2b {x : Int32} (X : Stand p l e R s m args below meth c T locs cells slots) (hx : p.tables.exec = Jvm.exec) (hd : decode c.code pc = .ok (.i2b, 1)) (k : Go p e below s T (mkF m (pc + 1) Ls (.int (x.toInt8.toInt32) :: rest)) Q kc ks) : Go p e below s T (mkF m pc Ls (.int x :: rest)) Q kc ks :=
  Go.step (fun _ => XT.i2b X.here hx (g := mkF m pc Ls (.int x :: rest)) rfl hd rfl) k
theorem Go.i2c {x : Int32} (X : Stand p l e R s m args below meth c T locs cells slots) (hx : p.tables.exec = Jvm.exec) (hd : decode c.code pc = .ok (.i2c, 1)) (k : Go p e below s T (mkF m (pc + 1) Ls (.int (x.toUInt32.toUInt16.toUInt32.toInt32) :: rest)) Q kc ks) : Go p e below s T (mkF m pc Ls (.int x :: rest)) Q kc ks :=
  Go.step (fun _ => XT.i2c X.here hx (g := mkF m pc Ls (.int x :: rest)) rfl hd rfl) k
theorem Go.i2s {x : Int32} (X : Stand p l e R s m args below meth c T locs cells slots) (hx : p.tables.exec = Jvm.exec) (hd : decode c.code pc = .ok (.i2s, 1)) (k : Go p e below s T (mkF m (pc + 1) Ls (.int (x.toInt16.toInt32) :: rest)) Q kc ks) : Go p e below s T (mkF m pc Ls (.int x :: rest)) Q kc ks :=
  Go.step (fun _ => XT.i2s X.here hx (g := mkF m pc Ls (.int x :: rest)) rfl hd rfl) k
theorem Go.i2l {x : Int32} (X : Stand p l e R s m args below meth c T locs cells slots) (hx : p.tables.exec = Jvm.exec) (hd : decode c.code pc = .ok (.i2l, 1)) (k : Go p e below s T (mkF m (pc + 1) Ls (.long (x.toInt64) :: rest)) Q kc ks) : Go p e below s T (mkF m pc Ls (.int x :: rest)) Q kc ks :=
  Go.step (fun _ => XT.i2l X.here hx (g := mkF m pc Ls (.int x :: rest)) rfl hd rfl) k
theorem Go.ineg {x : Int32} (X : Stand p l e R s m args below meth c T locs cells slots) (hx : p.tables.exec = Jvm.exec) (hd : decode c.code pc = .ok (.ineg, 1)) (k : Go p e below s T (mkF m (pc + 1) Ls (.int (-x) :: rest)) Q kc ks) : Go p e below s T (mkF m pc Ls (.int x :: rest)) Q kc ks :=
  Go.step (fun _ => XS.ineg X.here hx (g := mkF m pc Ls (.int x :: rest)) rfl hd rfl) k
theorem Go.l2i {x : Int64} (X : Stand p l e R s m args below meth c T locs cells slots) (hx : p.tables.exec = Jvm.exec) (hd : decode c.code pc = .ok (.l2i, 1)) (k : Go p e below s T (mkF m (pc + 1) Ls (.int (x.toInt32) :: rest)) Q kc ks) : Go p e below s T (mkF m pc Ls (.long x :: rest)) Q kc ks :=
  Go.step (fun _ => XT.l2i X.here hx (g := mkF m pc Ls (.long x :: rest)) rfl hd rfl) k
theorem Go.iconst {i : Int} (X : Stand p l e R s m args below meth c T locs cells slots) (hx : p.tables.exec = Jvm.exec) (hd : decode c.code pc = .ok (.iconst i, 1)) (k : Go p e below s T (mkF m (pc + 1) Ls (.int (Int32.ofInt i) :: rest)) Q kc ks) : Go p e below s T (mkF m pc Ls rest) Q kc ks :=
  Go.step (fun _ => XS.iconst X.here hx (g := mkF m pc Ls rest) rfl hd) k
theorem Go.bipush {i : Int} (X : Stand p l e R s m args below meth c T locs cells slots) (hx : p.tables.exec = Jvm.exec) (hd : decode c.code pc = .ok (.bipush i, 2)) (k : Go p e below s T (mkF m (pc + 2) Ls (.int (Int8.ofInt i).toInt32 :: rest)) Q kc ks) : Go p e below s T (mkF m pc Ls rest) Q kc ks :=
  Go.step (fun _ => XS.bipush X.here hx (g := mkF m pc Ls rest) rfl hd) k
theorem Go.sipush {i : Int} (X : Stand p l e R s m args below meth c T locs cells slots) (hx : p.tables.exec = Jvm.exec) (hd : decode c.code pc = .ok (.sipush i, 3)) (k : Go p e below s T (mkF m (pc + 3) Ls (.int (Int16.ofInt i).toInt32 :: rest)) Q kc ks) : Go p e below s T (mkF m pc Ls rest) Q kc ks :=
  Go.step (fun _ => XS.sipush X.here hx (g := mkF m pc Ls rest) rfl hd) k
theorem Go.lconst {k0 : Fin 2} (X : Stand p l e R s m args below meth c T locs cells slots) (hx : p.tables.exec = Jvm.exec) (hd : decode c.code pc = .ok (.lconst k0, 1)) (k : Go p e below s T (mkF m (pc + 1) Ls (.long (Int64.ofNat k0) :: rest)) Q kc ks) : Go p e below s T (mkF m pc Ls rest) Q kc ks :=
  Go.step (fun _ => XT.lconst X.here hx (g := mkF m pc Ls rest) rfl hd) k
theorem Go.aconst_null (X : Stand p l e R s m args below meth c T locs cells slots) (hx : p.tables.exec = Jvm.exec) (hd : decode c.code pc = .ok (.aconst_null, 1)) (k : Go p e below s T (mkF m (pc + 1) Ls (.null :: rest)) Q kc ks) : Go p e below s T (mkF m pc Ls rest) Q kc ks :=
  Go.step (fun _ => XS.aconstNull X.here hx (g := mkF m pc Ls rest) rfl hd) k
theorem Go.iload {k0 : Nat} {v : Int32} (X : Stand p l e R s m args below meth c T locs cells slots) (hx : p.tables.exec = Jvm.exec) (hd : decode c.code pc = .ok (.iload k0, 2)) (hl : Ls[k0]? = some (.val (.int v))) (k : Go p e below s T (mkF m (pc + 2) Ls (.int v :: rest)) Q kc ks) : Go p e below s T (mkF m pc Ls rest) Q kc ks :=
  Go.step (fun _ => XS.iload X.here hx (g := mkF m pc Ls rest) rfl hd hl) k
theorem Go.iloadN {k0 : Fin 4} {v : Int32} (X : Stand p l e R s m args below meth c T locs cells slots) (hx : p.tables.exec = Jvm.exec) (hd : decode c.code pc = .ok (.iload_n k0, 1)) (hl : Ls[k0.val]? = some (.val (.int v))) (k : Go p e below s T (mkF m (pc + 1) Ls (.int v :: rest)) Q kc ks) : Go p e below s T (mkF m pc Ls rest) Q kc ks :=
  Go.step (fun _ => XS.iloadN X.here hx (g := mkF m pc Ls rest) rfl hd hl) k
theorem Go.istore {k0 : Nat} {v : Int32} {l' : Array Slot} (X : Stand p l e R s m args below meth c T locs cells slots) (hx : p.tables.exec = Jvm.exec) (hd : decode c.code pc = .ok (.istore k0, 2)) (hl : storeLocals Ls k0 (.int v) = some l') (k : Go p e below s T (mkF m (pc + 2) l' rest) Q kc ks) : Go p e below s T (mkF m pc Ls (.int v :: rest)) Q kc ks :=
  Go.step (fun _ => XS.istore X.here hx (g := mkF m pc Ls (.int v :: rest)) rfl hd rfl hl) k
theorem Go.istoreN {k0 : Fin 4} {v : Int32} {l' : Array Slot} (X : Stand p l e R s m args below meth c T locs cells slots) (hx : p.tables.exec = Jvm.exec) (hd : decode c.code pc = .ok (.istore_n k0, 1)) (hl : storeLocals Ls k0.val (.int v) = some l') (k : Go p e below s T (mkF m (pc + 1) l' rest) Q kc ks) : Go p e below s T (mkF m pc Ls (.int v :: rest)) Q kc ks :=
  Go.step (fun _ => XS.istoreN X.here hx (g := mkF m pc Ls (.int v :: rest)) rfl hd rfl hl) k
theorem Go.lload {k0 : Nat} {v : Int64} (X : Stand p l e R s m args below meth c T locs cells slots) (hx : p.tables.exec = Jvm.exec) (hd : decode c.code pc = .ok (.lload k0, 2)) (hl : Ls[k0]? = some (.val (.long v))) (k : Go p e below s T (mkF m (pc + 2) Ls (.long v :: rest)) Q kc ks) : Go p e below s T (mkF m pc Ls rest) Q kc ks :=
  Go.step (fun _ => XT.lload X.here hx (g := mkF m pc Ls rest) rfl hd hl) k
theorem Go.lloadN {k0 : Fin 4} {v : Int64} (X : Stand p l e R s m args below meth c T locs cells slots) (hx : p.tables.exec = Jvm.exec) (hd : decode c.code pc = .ok (.lload_n k0, 1)) (hl : Ls[k0.val]? = some (.val (.long v))) (k : Go p e below s T (mkF m (pc + 1) Ls (.long v :: rest)) Q kc ks) : Go p e below s T (mkF m pc Ls rest) Q kc ks :=
  Go.step (fun _ => XT.lloadN X.here hx (g := mkF m pc Ls rest) rfl hd hl) k
theorem Go.lstore {k0 : Nat} {v : Int64} {l' : Array Slot} (X : Stand p l e R s m args below meth c T locs cells slots) (hx : p.tables.exec = Jvm.exec) (hd : decode c.code pc = .ok (.lstore k0, 2)) (hl : storeLocals Ls k0 (.long v) = some l') (k : Go p e below s T (mkF m (pc + 2) l' rest) Q kc ks) : Go p e below s T (mkF m pc Ls (.long v :: rest)) Q kc ks :=
  Go.step (fun _ => XT.lstore X.here hx (g := mkF m pc Ls (.long v :: rest)) rfl hd rfl hl) k
theorem Go.lstoreN {k0 : Fin 4} {v : Int64} {l' : Array Slot} (X : Stand p l e R s m args below meth c T locs cells slots) (hx : p.tables.exec = Jvm.exec) (hd : decode c.code pc = .ok (.lstore_n k0, 1)) (hl : storeLocals Ls k0.val (.long v) = some l') (k : Go p e below s T (mkF m (pc + 1) l' rest) Q kc ks) : Go p e below s T (mkF m pc Ls (.long v :: rest)) Q kc ks :=
  Go.step (fun _ => XT.lstoreN X.here hx (g := mkF m pc Ls (.long v :: rest)) rfl hd rfl hl) k
theorem Go.aload {k0 : Nat} {v : Value} (X : Stand p l e R s m args below meth c T locs cells slots) (hx : p.tables.exec = Jvm.exec) (hd : decode c.code pc = .ok (.aload k0, 2)) (hl : Ls[k0]? = some (.val v)) (hv : v.isRef = true) (k : Go p e below s T (mkF m (pc + 2) Ls (v :: rest)) Q kc ks) : Go p e below s T (mkF m pc Ls rest) Q kc ks :=
  Go.step (fun _ => XS.aload X.here hx (g := mkF m pc Ls rest) rfl hd hl hv) k
theorem Go.aloadN {k0 : Fin 4} {v : Value} (X : Stand p l e R s m args below meth c T locs cells slots) (hx : p.tables.exec = Jvm.exec) (hd : decode c.code pc = .ok (.aload_n k0, 1)) (hl : Ls[k0.val]? = some (.val v)) (hv : v.isRef = true) (k : Go p e below s T (mkF m (pc + 1) Ls (v :: rest)) Q kc ks) : Go p e below s T (mkF m pc Ls rest) Q kc ks :=
  Go.step (fun _ => XS.aloadN X.here hx (g := mkF m pc Ls rest) rfl hd hl hv) k
theorem Go.astore {k0 : Nat} {v : Value} {l' : Array Slot} (X : Stand p l e R s m args below meth c T locs cells slots) (hx : p.tables.exec = Jvm.exec) (hd : decode c.code pc = .ok (.astore k0, 2)) (hv : v.isRef = true) (hl : storeLocals Ls k0 v = some l') (k : Go p e below s T (mkF m (pc + 2) l' rest) Q kc ks) : Go p e below s T (mkF m pc Ls (v :: rest)) Q kc ks :=
  Go.step (fun _ => XS.astore X.here hx (g := mkF m pc Ls (v :: rest)) rfl hd rfl hv hl) k
theorem Go.astoreN {k0 : Fin 4} {v : Value} {l' : Array Slot} (X : Stand p l e R s m args below meth c T locs cells slots) (hx : p.tables.exec = Jvm.exec) (hd : decode c.code pc = .ok (.astore_n k0, 1)) (hv : v.isRef = true) (hl : storeLocals Ls k0.val v = some l') (k : Go p e below s T (mkF m (pc + 1) l' rest) Q kc ks) : Go p e below s T (mkF m pc Ls (v :: rest)) Q kc ks :=
  Go.step (fun _ => XS.astoreN X.here hx (g := mkF m pc Ls (v :: rest)) rfl hd rfl hv hl) k
theorem Go.iinc {k0 : Nat} {cst : Int} {x : Int32} {l' : Array Slot} (X : Stand p l e R s m args below meth c T locs cells slots) (hx : p.tables.exec = Jvm.exec) (hd : decode c.code pc = .ok (.iinc k0 cst, 3)) (hl : Ls[k0]? = some (.val (.int x))) (hs : storeLocals Ls k0 (.int (x + Int32.ofInt cst)) = some l') (k : Go p e below s T (mkF m (pc + 3) l' rest) Q kc ks) : Go p e below s T (mkF m pc Ls rest) Q kc ks :=
  Go.step (fun _ => XS.iinc X.here hx (g := mkF m pc Ls rest) rfl hd hl hs) k
theorem Go.dup {v : Value} (X : Stand p l e R s m args below meth c T locs cells slots) (hx : p.tables.exec = Jvm.exec) (hd : decode c.code pc = .ok (.dup, 1)) (hv : v.category = 1) (k : Go p e below s T (mkF m (pc + 1) Ls (v :: v :: rest)) Q kc ks) : Go p e below s T (mkF m pc Ls (v :: rest)) Q kc ks :=
  Go.step (fun _ => XS.dup X.here hx (g := mkF m pc Ls (v :: rest)) rfl hd rfl hv) k
theorem Go.pop {v : Value} (X : Stand p l e R s m args below meth c T locs cells slots) (hx : p.tables.exec = Jvm.exec) (hd : decode c.code pc = .ok (.pop, 1)) (hv : v.category = 1) (k : Go p e below s T (mkF m (pc + 1) Ls rest) Q kc ks) : Go p e below s T (mkF m pc Ls (v :: rest)) Q kc ks :=
  Go.step (fun _ => XT.pop X.here hx (g := mkF m pc Ls (v :: rest)) rfl hd rfl hv) k
theorem Go.dup_x1 {v w : Value} (X : Stand p l e R s m args below meth c T locs cells slots) (hx : p.tables.exec = Jvm.exec) (hd : decode c.code pc = .ok (.dup_x1, 1)) (hv : v.category = 1) (hw' : w.category = 1) (k : Go p e below s T (mkF m (pc + 1) Ls (v :: w :: v :: rest)) Q kc ks) : Go p e below s T (mkF m pc Ls (v :: w :: rest)) Q kc ks :=
  Go.step (fun _ => XT.dupX1 X.here hx (g := mkF m pc Ls (v :: w :: rest)) rfl hd rfl hv hw') k
theorem Go.dup2 {v w : Value} (X : Stand p l e R s m args below meth c T locs cells slots) (hx : p.tables.exec = Jvm.exec) (hd : decode c.code pc = .ok (.dup2, 1)) (hv : v.category = 1) (hw' : w.category = 1) (k : Go p e below s T (mkF m (pc + 1) Ls (v :: w :: v :: w :: rest)) Q kc ks) : Go p e below s T (mkF m pc Ls (v :: w :: rest)) Q kc ks :=
  Go.step (fun _ => XT.dup2 X.here hx (g := mkF m pc Ls (v :: w :: rest)) rfl hd rfl hv hw') k
theorem Go.goto {o : Int} {pc' : Nat} (X : Stand p l e R s m args below meth c T locs cells slots) (hx : p.tables.exec = Jvm.exec) (hd : decode c.code pc = .ok (.goto o, 3)) (ho : 0 ≤ (pc : Int) + o) (hp : ((pc : Int) + o).toNat = pc') (k : Go p e below s T (mkF m pc' Ls rest) Q kc ks) : Go p e below s T (mkF m pc Ls rest) Q kc ks :=
  Go.step (fun _ => XS.goto X.here hx (g := mkF m pc Ls rest) rfl rfl hd ho hp) k
theorem Go.ifYes {cd : ClassFile.Cond} {x : Int32} {o : Int} {pc' : Nat} (X : Stand p l e R s m args below meth c T locs cells slots) (hx : p.tables.exec = Jvm.exec) (hd : decode c.code pc = .ok (.ifCond cd o, 3)) (hc : ifCond.holds cd x = true) (ho : 0 ≤ (pc : Int) + o) (hp : ((pc : Int) + o).toNat = pc') (k : Go p e below s T (mkF m pc' Ls rest) Q kc ks) : Go p e below s T (mkF m pc Ls (.int x :: rest)) Q kc ks :=
  Go.step (fun _ => XS.ifYes X.here hx (g := mkF m pc Ls (.int x :: rest)) rfl rfl hd rfl hc ho hp) k
theorem Go.ifNo {cd : ClassFile.Cond} {x : Int32} {o : Int} (X : Stand p l e R s m args below meth c T locs cells slots) (hx : p.tables.exec = Jvm.exec) (hd : decode c.code pc = .ok (.ifCond cd o, 3)) (hc : ifCond.holds cd x = false) (k : Go p e below s T (mkF m (pc + 3) Ls rest) Q kc ks) : Go p e below s T (mkF m pc Ls (.int x :: rest)) Q kc ks :=
  Go.step (fun _ => XS.ifNo X.here hx (g := mkF m pc Ls (.int x :: rest)) rfl hd rfl hc) k
theorem Go.icmpYes {cd : ClassFile.Cond} {x y : Int32} {o : Int} {pc' : Nat} (X : Stand p l e R s m args below meth c T locs cells slots) (hx : p.tables.exec = Jvm.exec) (hd : decode c.code pc = .ok (.if_icmp cd o, 3)) (hc : if_icmp.holds cd x y = true) (ho : 0 ≤ (pc : Int) + o) (hp : ((pc : Int) + o).toNat = pc') (k : Go p e below s T (mkF m pc' Ls rest) Q kc ks) : Go p e below s T (mkF m pc Ls (.int y :: .int x :: rest)) Q kc ks :=
  Go.step (fun _ => XS.icmpYes X.here hx (g := mkF m pc Ls (.int y :: .int x :: rest)) rfl rfl hd rfl hc ho hp) k
theorem Go.icmpNo {cd : ClassFile.Cond} {x y : Int32} {o : Int} (X : Stand p l e R s m args below meth c T locs cells slots) (hx : p.tables.exec = Jvm.exec) (hd : decode c.code pc = .ok (.if_icmp cd o, 3)) (hc : if_icmp.holds cd x y = false) (k : Go p e below s T (mkF m (pc + 3) Ls rest) Q kc ks) : Go p e below s T (mkF m pc Ls (.int y :: .int x :: rest)) Q kc ks :=
  Go.step (fun _ => XS.icmpNo X.here hx (g := mkF m pc Ls (.int y :: .int x :: rest)) rfl hd rfl hc) k
theorem Go.acmpYes {cd : ClassFile.ACond} {x y : Value} {o : Int} {pc' : Nat} (X : Stand p l e R s m args below meth c T locs cells slots) (hx : p.tables.exec = Jvm.exec) (hd : decode c.code pc = .ok (.if_acmp cd o, 3)) (h1 : x.isRef = true) (h2 : y.isRef = true) (hc : XT.acmp cd x y = true) (ho : 0 ≤ (pc : Int) + o) (hp : ((pc : Int) + o).toNat = pc') (k : Go p e below s T (mkF m pc' Ls rest) Q kc ks) : Go p e below s T (mkF m pc Ls (y :: x :: rest)) Q kc ks :=
  Go.step (fun _ => XT.acmpYes X.here hx (g := mkF m pc Ls (y :: x :: rest)) rfl rfl hd rfl h1 h2 hc ho hp) k
theorem Go.acmpNo {cd : ClassFile.ACond} {x y : Value} {o : Int} (X : Stand p l e R s m args below meth c T locs cells slots) (hx : p.tables.exec = Jvm.exec) (hd : decode c.code pc = .ok (.if_acmp cd o, 3)) (h1 : x.isRef = true) (h2 : y.isRef = true) (hc : XT.acmp cd x y = false) (k : Go p e below s T (mkF m (pc + 3) Ls rest) Q kc ks) : Go p e below s T (mkF m pc Ls (y :: x :: rest)) Q kc ks :=
  Go.step (fun _ => XT.acmpNo X.here hx (g := mkF m pc Ls (y :: x :: rest)) rfl hd rfl h1 h2 hc) k
theorem Go.ifnullYes {a : Addr} {o : Int} {pc' : Nat} (X : Stand p l e R s m args below meth c T locs cells slots) (hx : p.tables.exec = Jvm.exec) (hd : decode c.code pc = .ok (.ifnull o, 3)) (ho : 0 ≤ (pc : Int) + o) (hp : ((pc : Int) + o).toNat = pc') (k : Go p e below s T (mkF m pc' Ls rest) Q kc ks) : Go p e below s T (mkF m pc Ls (.null :: rest)) Q kc ks :=
  Go.step (fun _ => XS.ifnullYes X.here hx (g := mkF m pc Ls (.null :: rest)) rfl rfl hd rfl ho hp) k
theorem Go.ifnullNo {a : Addr} {o : Int} (X : Stand p l e R s m args below meth c T locs cells slots) (hx : p.tables.exec = Jvm.exec) (hd : decode c.code pc = .ok (.ifnull o, 3)) (k : Go p e below s T (mkF m (pc + 3) Ls rest) Q kc ks) : Go p e below s T (mkF m pc Ls (.ref a :: rest)) Q kc ks :=
  Go.step (fun _ => XS.ifnullNo X.here hx (g := mkF m pc Ls (.ref a :: rest)) rfl hd rfl) k
theorem Go.ifnonnullYes {a : Addr} {o : Int} {pc' : Nat} (X : Stand p l e R s m args below meth c T locs cells slots) (hx : p.tables.exec = Jvm.exec) (hd : decode c.code pc = .ok (.ifnonnull o, 3)) (ho : 0 ≤ (pc : Int) + o) (hp : ((pc : Int) + o).toNat = pc') (k : Go p e below s T (mkF m pc' Ls rest) Q kc ks) : Go p e below s T (mkF m pc Ls (.ref a :: rest)) Q kc ks :=
  Go.step (fun _ => XT.ifnonnullYes X.here hx (g := mkF m pc Ls (.ref a :: rest)) rfl rfl hd rfl ho hp) k
theorem Go.ifnonnullNo {a : Addr} {o : Int} (X : Stand p l e R s m args below meth c T locs cells slots) (hx : p.tables.exec = Jvm.exec) (hd : decode c.code pc = .ok (.ifnonnull o, 3)) (k : Go p e below s T (mkF m (pc + 3) Ls rest) Q kc ks) : Go p e below s T (mkF m pc Ls (.null :: rest)) Q kc ks :=
  Go.step (fun _ => XT.ifnonnullNo X.here hx (g := mkF m pc Ls (.null :: rest)) rfl hd rfl) k
end Steps
section Conds
variable {x y : Int32} {u v : Int64} {a b : Addr}
theorem ac_eq_p (h : a = b) : XT.acmp .eq (.ref a) (.ref b) = true := by simp [XT.acmp, h]
theorem ac_eq_n (h : ¬ a = b) : XT.acmp .eq (.ref a) (.ref b) = false := by simp [XT.acmp, h]
theorem ac_ne_p (h : a = b) : XT.acmp .ne (.ref a) (.ref b) = false := by simp [XT.acmp, h]
theorem ac_ne_n (h : ¬ a = b) : XT.acmp .ne (.ref a) (.ref b) = true := by simp [XT.acmp, h]
end Conds
end Jvm.OwnK
namespace Jvm.OwnK
open Sem ClassFile Op Lib Jvm.Free Jvm.Stand Jvm.LawKit Jvm.RoadKit
section Heap
variable {p : Program} {l : Launch} {e : Env} {R : Room} {s : State} {m : MethodId} {args : Array Value} {below : List Frame} {meth : Method} {c : Code} {T T' : State} {locs : List Loc} {cells slots : Nat} {Q : Option Value → Heap → List Loc → Prop} {kc ks : Nat} {Z : State} {a0 : Array Value} {h h' : Heap} {pc : Nat} {Ls : Array Slot} {rest : List Value}
theorem Go.getF {own R0 O n d : String} {index : Nat} {a : Addr} {v : Value} (X : Stand p l e R s m args below meth c T locs cells slots) (hx : p.tables.exec = Jvm.exec) (hZ : Z.Warmed39 s.vm) (hown : s.vm.findClass own = some m.cls) (w : (Jvm.Cond.fieldLink own index R0 n d).before a0 Z = true) (via : Via Z R0 O n d) (eT : T.heap = h) (F : Fld Z h a O n d v) (hd : decode c.code pc = .ok (.getfield index, 3))
    (k : ∀ T', Stand p l e R s m args below meth c T' locs cells slots → T'.heap = h → Go p e below s T' (mkF m (pc + 3) Ls (v :: rest)) Q kc ks) : Go p e below s T (mkF m pc Ls (.ref a :: rest)) Q kc ks := by
  obtain ⟨T', X', e', st⟩ := RoadKit.getF X hx hZ hown (host := "") (Or.inl w) via eT F (g := mkF m pc Ls (.ref a :: rest)) rfl rfl hd
  exact Go.step st (k T' X' e')
theorem Go.getS {own R0 O n d : String} {index : Nat} {v : Value} (X : Stand p l e R s m args below meth c T locs cells slots) (hx : p.tables.exec = Jvm.exec) (hZ : Z.Warmed39 s.vm) (hown : s.vm.findClass own = some m.cls) (w : (Jvm.Cond.fieldLink own index R0 n d).before a0 Z = true) (via : Via Z R0 O n d) (eT : T.heap = h) (F : Sta Z h O n d v) (hd : decode c.code pc = .ok (.getstatic index, 3))
    (k : ∀ T', Stand p l e R s m args below meth c T' locs cells slots → T'.heap = h → Go p e below s T' (mkF m (pc + 3) Ls (v :: rest)) Q kc ks) : Go p e below s T (mkF m pc Ls rest) Q kc ks := by
  obtain ⟨T', X', e', st⟩ := RoadKit.getS X hx hZ hown (host := "") w via eT F (g := mkF m pc Ls rest) rfl hd
  exact Go.step st (k T' X' e')
theorem Go.putF {own R0 O n d C : String} {index kk : Nat} {ty : FieldType} {a : Addr} {v old : Value} (X : Stand p l e R s m args below meth c T locs cells slots) (hx : p.tables.exec = Jvm.exec) (hZ : Z.Warmed39 s.vm) (hown : s.vm.findClass own = some m.cls) (w : (Jvm.Cond.fieldLink own index R0 n d).before a0 Z = true) (via : Via Z R0 O n d) (eT : T.heap = h) (F : Fld Z h a O n d old) (E : Exa Z h a C)
    (L : (Jvm.Cond.lays C O n d).before a0 Z = true ∨ ((Jvm.Cond.laysFinal C O n d).before a0 Z = true ∧ own = O ∧ meth.name = "<init>")) (wi : (Jvm.Cond.instantiable C kk).before a0 Z = true) (hty : parseFieldDescriptor d = some ty) (hn : narrow ty v = v) (hf : fits ty v = true) (hd : decode c.code pc = .ok (.putfield index, 3))
    (k : ∀ T' h', Stand p l e R s m args below meth c T' (locs ++ [⟨a, Jvm.RoadKit.slotOf Z O n d⟩]) cells slots → T'.heap = h' → Wr h h' a (Jvm.RoadKit.slotOf Z O n d) v → Go p e below s T' (mkF m (pc + 3) Ls rest) Q kc ks) : Go p e below s T (mkF m pc Ls (v :: .ref a :: rest)) Q kc ks := by
  obtain ⟨T', h', X', e', W, st⟩ := RoadKit.putF X hx hZ hown (host := "") (Or.inl w) via eT F E L wi hty hn hf (g := mkF m pc Ls (v :: .ref a :: rest)) rfl rfl hd
  exact Go.step st (k T' h' X' e' W)
theorem Go.initO {own : String} {idx : Nat} {W : Nat} {a : Addr} (X : Stand p l e R s m args below meth c T locs cells slots) (hx : p.tables.exec = Jvm.exec) (hZ : Z.Warmed39 s.vm) (hown : s.vm.findClass own = some m.cls) (w1 : (Jvm.Cond.methodLink own idx Lib.objectInit).before a0 Z = true) (w2 : (Jvm.Cond.instanceMethod Lib.objectInit).before a0 Z = true)
    (w3 : (Jvm.Cond.code Lib.objectInit ⟨#[0xb1]⟩ 1 none).before a0 Z = true) (eT : T.heap = h) (hd : decode c.code pc = .ok (.invokespecial idx, 3)) (hsize : Ls.size = c.maxLocals) (hW : (rest.map fun v => v.category).sum ≤ W) (hf : 1 ≤ R.frames) (hl : W + 12 ≤ R.locals)
    (k : ∀ T', Stand p l e R s m args below meth c T' locs cells slots → T'.heap = h → Go p e below s T' (mkF m (pc + 3) Ls rest) Q kc ks) : Go p e below s T (mkF m pc Ls (.ref a :: rest)) Q kc ks := by
  obtain ⟨T', X', e', st⟩ := RoadKit.initO X hx hZ hown w1 w2 w3 eT (g := mkF m pc Ls (.ref a :: rest)) rfl hsize rfl hd hf (W := W) (by show 2 * 0 + _ ≤ _; omega) hl
  exact Go.step st (k T' X' e')
theorem Go.newO {own C : String} {index n : Nat} (X : Stand p l e R s m args below meth c T locs cells slots) (hx : p.tables.exec = Jvm.exec) (hZ : Z.Warmed39 s.vm) (hown : s.vm.findClass own = some m.cls) (w : (Jvm.Cond.classLink own index C).before a0 Z = true) (wi : (Jvm.Cond.instantiable C n).before a0 Z = true) (wz : (Jvm.Cond.initialized C).before a0 Z = true) (eT : T.heap = h)
    (hd : decode c.code pc = .ok (.new index, 3)) (hc : cells + 1 ≤ R.cells) (hl : slots + n ≤ R.slots)
    (k : ∀ T' h' a, a = h.size → Stand p l e R s m args below meth c T' locs (cells + 1) (slots + n) → T'.heap = h' → Ext h h' → Exa Z h' a C → (∀ {O nm d : String} {ty : FieldType}, Laid Z a0 C O nm d → parseFieldDescriptor d = some ty → Fld Z h' a O nm d (defaultValue ty)) →
      Go p e below s T' (mkF m (pc + 3) Ls (.ref a :: rest)) Q kc ks) : Go p e below s T (mkF m pc Ls rest) Q kc ks := by
  obtain ⟨T', h', X', e', E, A, D, -, st⟩ := RoadKit.newO X hx hZ hown w wi wz eT (g := mkF m pc Ls rest) rfl hd hc hl
  exact Go.step st (k T' h' _ rfl X' e' E A D)
theorem Go.ccast {own K : String} {index : Nat} {a : Addr} (X : Stand p l e R s m args below meth c T locs cells slots) (hx : p.tables.exec = Jvm.exec) (hZ : Z.Warmed39 s.vm) (hown : s.vm.findClass own = some m.cls) (w : (Jvm.Cond.classLink own index K).before a0 Z = true) (eT : T.heap = h) (F : Ins Z h a K true) (hd : decode c.code pc = .ok (.checkcast index, 3))
    (k : ∀ T', Stand p l e R s m args below meth c T' locs cells slots → T'.heap = h → Go p e below s T' (mkF m (pc + 3) Ls (.ref a :: rest)) Q kc ks) : Go p e below s T (mkF m pc Ls (.ref a :: rest)) Q kc ks := by
  obtain ⟨T', X', e', st⟩ := castY X hx hZ hown w eT F (g := mkF m pc Ls (.ref a :: rest)) rfl rfl hd
  exact Go.step st (k T' X' e')
theorem Go.instY {own K : String} {index : Nat} {a : Addr} (X : Stand p l e R s m args below meth c T locs cells slots) (hx : p.tables.exec = Jvm.exec) (hZ : Z.Warmed39 s.vm) (hown : s.vm.findClass own = some m.cls) (w : (Jvm.Cond.classLink own index K).before a0 Z = true) (eT : T.heap = h) (F : Ins Z h a K true) (hd : decode c.code pc = .ok (.instanceof index, 3))
    (k : ∀ T', Stand p l e R s m args below meth c T' locs cells slots → T'.heap = h → Go p e below s T' (mkF m (pc + 3) Ls (.int 1 :: rest)) Q kc ks) : Go p e below s T (mkF m pc Ls (.ref a :: rest)) Q kc ks := by
  obtain ⟨T', X', e', st⟩ := RoadKit.instY X hx hZ hown w eT F (g := mkF m pc Ls (.ref a :: rest)) rfl rfl hd
  exact Go.step st (k T' X' e')
theorem Go.instNull {index : Nat} (X : Stand p l e R s m args below meth c T locs cells slots) (hx : p.tables.exec = Jvm.exec) (hd : decode c.code pc = .ok (.instanceof index, 3))
    (k : Go p e below s T (mkF m (pc + 3) Ls (.int 0 :: rest)) Q kc ks) : Go p e below s T (mkF m pc Ls (.null :: rest)) Q kc ks :=
  Go.step (X.instanceofNull hx (g := mkF m pc Ls (.null :: rest)) rfl rfl hd) k
theorem Go.instNo {own K C : String} {index : Nat} {a : Addr} (X : Stand p l e R s m args below meth c T locs cells slots) (hx : p.tables.exec = Jvm.exec) (hZ : Z.Warmed39 s.vm) (hown : s.vm.findClass own = some m.cls) (w : (Jvm.Cond.classLink own index K).before a0 Z = true) (eT : T.heap = h) (E : Exa Z h a C) (F : ∃ c t, Z.vm.findClass C = some c ∧ Z.vm.findClass K = some t ∧ Z.vm.assignable c t = false) (hd : decode c.code pc = .ok (.instanceof index, 3))
    (k : ∀ T', Stand p l e R s m args below meth c T' locs cells slots → T'.heap = h → Go p e below s T' (mkF m (pc + 3) Ls (.int 0 :: rest)) Q kc ks) : Go p e below s T (mkF m pc Ls (.ref a :: rest)) Q kc ks := by
  obtain ⟨T', X', e', st⟩ := RoadKit.instNo X hx hZ hown w eT E F (g := mkF m pc Ls (.ref a :: rest)) rfl rfl hd
  exact Go.step st (k T' X' e')
/-- an array: its class, length n, its component i is f i -/
def Af (Z : State) (h : Heap) (a : Addr) (k : ClassId) (ty : FieldType) (n : Nat) (f : Nat → Value) : Prop := ∃ c : Cell, Arr Z h a c ty ∧ c.cls = k ∧ c.slots.size = n ∧ n < 2 ^ 31 ∧ ∀ i, i < n → c.slots[i]? = some (f i)
def updV (f : Nat → Value) (j : Nat) (v : Value) : Nat → Value := fun i => if i = j then v else f i
variable {a b : Addr} {cid : ClassId} {ty : FieldType} {n : Nat} {f f' : Nat → Value} {ws : List Addr} {sl : Nat} {v : Value}
theorem Af.lt (F : Af Z h a cid ty n f) : a < h.size := by obtain ⟨_, A, -⟩ := F; exact A.lt
theorem Af.ext (E : Ext h h') (F : Af Z h a cid ty n f) : Af Z h' a cid ty n f := by obtain ⟨cl, A, r⟩ := F; exact ⟨cl, A.ext E, r⟩
theorem Af.other (W : Wr h h' b sl v) (F : Af Z h a cid ty n f) (q : a ≠ b) : Af Z h' a cid ty n f := by obtain ⟨cl, A, r⟩ := F; exact ⟨cl, A.other W q, r⟩
theorem Af.keep (F : Af Z h a cid ty n f) (K : Keep h h' ws) (q : a ∉ ws) : Af Z h' a cid ty n f := by obtain ⟨cl, A, r⟩ := F; exact ⟨cl, ⟨K.2.1 a cl A.1 q, A.2⟩, r⟩
theorem Af.congr (F : Af Z h a cid ty n f) (q : ∀ i, i < n → f' i = f i) : Af Z h a cid ty n f' := by obtain ⟨cl, A, r1, r2, r3, r4⟩ := F; exact ⟨cl, A, r1, r2, r3, fun i hi => by rw [q i hi]; exact r4 i hi⟩
theorem Af.set (F : Af Z h a cid ty n f) (W : Wr h h' a sl v) : Af Z h' a cid ty n (updV f sl v) := by
  obtain ⟨cl, A, r1, r2, r3, r4⟩ := F
  refine ⟨_, A.same W, r1, by rw [sz_set]; exact r2, r3, fun i hi => ?_⟩
  by_cases q : i = sl
  · subst q; simp [updV, Cell.setSlot, r2, hi]
  · simp only [updV, if_neg q]; rw [← r4 i hi]; simp [Cell.setSlot, Array.getElem?_setIfInBounds, Ne.symm q]
theorem Af.arv (A : Arr Z h a (newA cid ty z) ty) (q : ¬ z < 0) : Af Z h a cid ty z.toNatClampNeg (fun _ => defaultValue ty) :=
  ⟨_, A, rfl, sz_new _ _ _, by have := (back32 q).2; exact this, fun i hi => by simp [newA, hi]⟩
def updI (g : Nat → Int32) (j : Nat) (v : Int32) : Nat → Int32 := fun i => if i = j then v else g i
def updJ (g : Nat → Int64) (j : Nat) (v : Int64) : Nat → Int64 := fun i => if i = j then v else g i
theorem Af.updI {g : Nat → Int32} {j : Nat} {x : Int32} (A : Af Z h a cid ty n (updV (fun i => Value.int (g i)) j (.int x))) : Af Z h a cid ty n (fun i => Value.int (Jvm.OwnK.updI g j x i)) :=
  A.congr fun i _ => by simp only [Jvm.OwnK.updI, updV]; split <;> rfl
theorem Af.updJ {g : Nat → Int64} {j : Nat} {x : Int64} (A : Af Z h a cid ty n (updV (fun i => Value.long (g i)) j (.long x))) : Af Z h a cid ty n (fun i => Value.long (Jvm.OwnK.updJ g j x i)) :=
  A.congr fun i _ => by simp only [Jvm.OwnK.updJ, updV]; split <;> rfl
theorem in_of {cl : Cell} {j : Int32} (r2 : cl.slots.size = n) (h1 : ¬ j < 0) (h2 : j.toNatClampNeg < n) : ¬ (j < 0 ∨ cl.slots.size ≤ j.toNatClampNeg) := fun q => q.elim h1 fun z => by omega
theorem Go.alen (X : Stand p l e R s m args below meth c T locs cells slots) (hx : p.tables.exec = Jvm.exec) (hZ : Z.Warmed39 s.vm) (eT : T.heap = h) (A : Af Z h a cid ty n f) (hd : decode c.code pc = .ok (.arraylength, 1)) (k : Go p e below s T (mkF m (pc + 1) Ls (.int n.toInt32 :: rest)) Q kc ks) : Go p e below s T (mkF m pc Ls (.ref a :: rest)) Q kc ks := by
  obtain ⟨cl, A1, -, r2, -⟩ := A
  subst r2
  exact Go.step (fun target => X.arraylength hx (by rw [eT]; exact A1.1) (State.isArrayOf_alike hZ.alike A1.2.1) (g := mkF m pc Ls (.ref a :: rest)) rfl rfl hd target) k
theorem Go.iaload {j : Int32} (X : Stand p l e R s m args below meth c T locs cells slots) (hx : p.tables.exec = Jvm.exec) (hZ : Z.Warmed39 s.vm) (eT : T.heap = h) (A : Af Z h a cid .int n f) (h1 : ¬ j < 0) (h2 : j.toNatClampNeg < n) (hd : decode c.code pc = .ok (.iaload, 1)) (k : Go p e below s T (mkF m (pc + 1) Ls (f j.toNatClampNeg :: rest)) Q kc ks) : Go p e below s T (mkF m pc Ls (.int j :: .ref a :: rest)) Q kc ks := by
  obtain ⟨cl, A1, -, r2, -, r4⟩ := A
  exact Go.step (fun target => X.iaload hx (by rw [eT]; exact A1.1) (State.isArrayOf_alike hZ.alike A1.2.1) A1.2.2 (in_of r2 h1 h2) (r4 _ h2) (g := mkF m pc Ls (.int j :: .ref a :: rest)) rfl rfl hd target) k
theorem Go.laload {j : Int32} (X : Stand p l e R s m args below meth c T locs cells slots) (hx : p.tables.exec = Jvm.exec) (hZ : Z.Warmed39 s.vm) (eT : T.heap = h) (A : Af Z h a cid .long n f) (h1 : ¬ j < 0) (h2 : j.toNatClampNeg < n) (hd : decode c.code pc = .ok (.laload, 1)) (k : Go p e below s T (mkF m (pc + 1) Ls (f j.toNatClampNeg :: rest)) Q kc ks) : Go p e below s T (mkF m pc Ls (.int j :: .ref a :: rest)) Q kc ks := by
  obtain ⟨cl, A1, -, r2, -, r4⟩ := A
  exact Go.step (fun target => X.laload hx (by rw [eT]; exact A1.1) (State.isArrayOf_alike hZ.alike A1.2.1) A1.2.2 (in_of r2 h1 h2) (r4 _ h2) (g := mkF m pc Ls (.int j :: .ref a :: rest)) rfl rfl hd target) k
theorem Go.caload {j : Int32} (X : Stand p l e R s m args below meth c T locs cells slots) (hx : p.tables.exec = Jvm.exec) (hZ : Z.Warmed39 s.vm) (eT : T.heap = h) (A : Af Z h a cid .char n f) (h1 : ¬ j < 0) (h2 : j.toNatClampNeg < n) (hd : decode c.code pc = .ok (.caload, 1)) (k : Go p e below s T (mkF m (pc + 1) Ls (f j.toNatClampNeg :: rest)) Q kc ks) : Go p e below s T (mkF m pc Ls (.int j :: .ref a :: rest)) Q kc ks := by
  obtain ⟨cl, A1, -, r2, -, r4⟩ := A
  exact Go.step (fun target => X.caload hx (by rw [eT]; exact A1.1) (State.isArrayOf_alike hZ.alike A1.2.1) A1.2.2 (in_of r2 h1 h2) (r4 _ h2) (g := mkF m pc Ls (.int j :: .ref a :: rest)) rfl rfl hd target) k
theorem Go.aaload {j : Int32} (X : Stand p l e R s m args below meth c T locs cells slots) (hx : p.tables.exec = Jvm.exec) (hZ : Z.Warmed39 s.vm) (eT : T.heap = h) (A : Af Z h a cid ty n f) (hty : ty.isReference = true) (h1 : ¬ j < 0) (h2 : j.toNatClampNeg < n) (hd : decode c.code pc = .ok (.aaload, 1)) (k : Go p e below s T (mkF m (pc + 1) Ls (f j.toNatClampNeg :: rest)) Q kc ks) : Go p e below s T (mkF m pc Ls (.int j :: .ref a :: rest)) Q kc ks := by
  obtain ⟨cl, A1, -, r2, -, r4⟩ := A
  exact Go.step (fun target => X.aaload hx (by rw [eT]; exact A1.1) (State.isArrayOf_alike hZ.alike A1.2.1) hty A1.2.2 (in_of r2 h1 h2) (r4 _ h2) (g := mkF m pc Ls (.int j :: .ref a :: rest)) rfl rfl hd target) k
theorem Go.baloadB {j : Int32} (X : Stand p l e R s m args below meth c T locs cells slots) (hx : p.tables.exec = Jvm.exec) (hZ : Z.Warmed39 s.vm) (eT : T.heap = h) (A : Af Z h a cid .byte n f) (h1 : ¬ j < 0) (h2 : j.toNatClampNeg < n) (hd : decode c.code pc = .ok (.baload, 1)) (k : Go p e below s T (mkF m (pc + 1) Ls (f j.toNatClampNeg :: rest)) Q kc ks) : Go p e below s T (mkF m pc Ls (.int j :: .ref a :: rest)) Q kc ks := by
  obtain ⟨cl, A1, -, r2, -, r4⟩ := A
  exact Go.step (fun target => X.baloadBytes hx (by rw [eT]; exact A1.1) (State.isArrayOf_alike hZ.alike A1.2.1) A1.2.2 (in_of r2 h1 h2) (r4 _ h2) (g := mkF m pc Ls (.int j :: .ref a :: rest)) rfl rfl hd target) k
theorem Go.baloadZ {j : Int32} (X : Stand p l e R s m args below meth c T locs cells slots) (hx : p.tables.exec = Jvm.exec) (hZ : Z.Warmed39 s.vm) (eT : T.heap = h) (A : Af Z h a cid .boolean n f) (h1 : ¬ j < 0) (h2 : j.toNatClampNeg < n) (hd : decode c.code pc = .ok (.baload, 1)) (k : Go p e below s T (mkF m (pc + 1) Ls (f j.toNatClampNeg :: rest)) Q kc ks) : Go p e below s T (mkF m pc Ls (.int j :: .ref a :: rest)) Q kc ks := by
  obtain ⟨cl, A1, -, r2, -, r4⟩ := A
  exact Go.step (fun target => X.baloadBooleans hx (by rw [eT]; exact A1.1) (State.isArrayOf_alike hZ.alike A1.2.1) A1.2.2 (in_of r2 h1 h2) (r4 _ h2) (g := mkF m pc Ls (.int j :: .ref a :: rest)) rfl rfl hd target) k
theorem Go.iastore {j x : Int32} (X : Stand p l e R s m args below meth c T locs cells slots) (hx : p.tables.exec = Jvm.exec) (hZ : Z.Warmed39 s.vm) (eT : T.heap = h) (A : Af Z h a cid .int n f) (h1 : ¬ j < 0) (h2 : j.toNatClampNeg < n) (hd : decode c.code pc = .ok (.iastore, 1))
    (k : ∀ T' h', Stand p l e R s m args below meth c T' (locs ++ [⟨a, j.toNatClampNeg⟩]) cells slots → T'.heap = h' → Wr h h' a j.toNatClampNeg (.int x) → Af Z h' a cid .int n (updV f j.toNatClampNeg (.int x)) → Go p e below s T' (mkF m (pc + 1) Ls rest) Q kc ks) : Go p e below s T (mkF m pc Ls (.int x :: .int j :: .ref a :: rest)) Q kc ks := by
  have A' := A
  obtain ⟨cl, A1, -, r2, -, r4⟩ := A
  obtain ⟨T', h', X', e', W, st⟩ := stI X hx hZ eT A1 (in_of r2 h1 h2) (g := mkF m pc Ls (.int x :: .int j :: .ref a :: rest)) rfl rfl hd
  exact Go.step st (k T' h' X' e' W (A'.set W))
theorem Go.lastore {j : Int32} {x : Int64} (X : Stand p l e R s m args below meth c T locs cells slots) (hx : p.tables.exec = Jvm.exec) (hZ : Z.Warmed39 s.vm) (eT : T.heap = h) (A : Af Z h a cid .long n f) (h1 : ¬ j < 0) (h2 : j.toNatClampNeg < n) (hd : decode c.code pc = .ok (.lastore, 1))
    (k : ∀ T' h', Stand p l e R s m args below meth c T' (locs ++ [⟨a, j.toNatClampNeg⟩]) cells slots → T'.heap = h' → Wr h h' a j.toNatClampNeg (.long x) → Af Z h' a cid .long n (updV f j.toNatClampNeg (.long x)) → Go p e below s T' (mkF m (pc + 1) Ls rest) Q kc ks) : Go p e below s T (mkF m pc Ls (.long x :: .int j :: .ref a :: rest)) Q kc ks := by
  have A' := A
  obtain ⟨cl, A1, -, r2, -, r4⟩ := A
  obtain ⟨T', h', X', e', W, st⟩ := stJ X hx hZ eT A1 (in_of r2 h1 h2) (g := mkF m pc Ls (.long x :: .int j :: .ref a :: rest)) rfl rfl hd
  exact Go.step st (k T' h' X' e' W (A'.set W))
theorem Go.bastoreB {j x : Int32} (X : Stand p l e R s m args below meth c T locs cells slots) (hx : p.tables.exec = Jvm.exec) (hZ : Z.Warmed39 s.vm) (eT : T.heap = h) (A : Af Z h a cid .byte n f) (h1 : ¬ j < 0) (h2 : j.toNatClampNeg < n) (hd : decode c.code pc = .ok (.bastore, 1))
    (k : ∀ T' h', Stand p l e R s m args below meth c T' (locs ++ [⟨a, j.toNatClampNeg⟩]) cells slots → T'.heap = h' → Wr h h' a j.toNatClampNeg (.int x.toInt8.toInt32) → Af Z h' a cid .byte n (updV f j.toNatClampNeg (.int x.toInt8.toInt32)) → Go p e below s T' (mkF m (pc + 1) Ls rest) Q kc ks) : Go p e below s T (mkF m pc Ls (.int x :: .int j :: .ref a :: rest)) Q kc ks := by
  have A' := A
  obtain ⟨cl, A1, -, r2, -, r4⟩ := A
  obtain ⟨T', h', X', e', W, st⟩ := stB X hx hZ eT A1 (in_of r2 h1 h2) (g := mkF m pc Ls (.int x :: .int j :: .ref a :: rest)) rfl rfl hd
  exact Go.step st (k T' h' X' e' W (A'.set W))
theorem Go.bastoreZ {j x : Int32} (X : Stand p l e R s m args below meth c T locs cells slots) (hx : p.tables.exec = Jvm.exec) (hZ : Z.Warmed39 s.vm) (eT : T.heap = h) (A : Af Z h a cid .boolean n f) (h1 : ¬ j < 0) (h2 : j.toNatClampNeg < n) (hd : decode c.code pc = .ok (.bastore, 1))
    (k : ∀ T' h', Stand p l e R s m args below meth c T' (locs ++ [⟨a, j.toNatClampNeg⟩]) cells slots → T'.heap = h' → Wr h h' a j.toNatClampNeg (.int (nar .boolean x)) → Af Z h' a cid .boolean n (updV f j.toNatClampNeg (.int (nar .boolean x))) → Go p e below s T' (mkF m (pc + 1) Ls rest) Q kc ks) : Go p e below s T (mkF m pc Ls (.int x :: .int j :: .ref a :: rest)) Q kc ks := by
  have A' := A
  obtain ⟨cl, A1, -, r2, -, r4⟩ := A
  obtain ⟨T', h', X', e', W, st⟩ := stZ X hx hZ eT A1 (in_of r2 h1 h2) (g := mkF m pc Ls (.int x :: .int j :: .ref a :: rest)) rfl rfl hd
  exact Go.step st (k T' h' X' e' W (A'.set W))
theorem Go.castore {j x : Int32} (X : Stand p l e R s m args below meth c T locs cells slots) (hx : p.tables.exec = Jvm.exec) (hZ : Z.Warmed39 s.vm) (eT : T.heap = h) (A : Af Z h a cid .char n f) (h1 : ¬ j < 0) (h2 : j.toNatClampNeg < n) (hd : decode c.code pc = .ok (.castore, 1))
    (k : ∀ T' h', Stand p l e R s m args below meth c T' (locs ++ [⟨a, j.toNatClampNeg⟩]) cells slots → T'.heap = h' → Wr h h' a j.toNatClampNeg (.int (nar .char x)) → Af Z h' a cid .char n (updV f j.toNatClampNeg (.int (nar .char x))) → Go p e below s T' (mkF m (pc + 1) Ls rest) Q kc ks) : Go p e below s T (mkF m pc Ls (.int x :: .int j :: .ref a :: rest)) Q kc ks := by
  have A' := A
  obtain ⟨cl, A1, -, r2, -, r4⟩ := A
  obtain ⟨T', h', X', e', W, st⟩ := stC X hx hZ eT A1 (in_of r2 h1 h2) (g := mkF m pc Ls (.int x :: .int j :: .ref a :: rest)) rfl rfl hd
  exact Go.step st (k T' h' X' e' W (A'.set W))
theorem Go.aastore {j : Int32} {C : String} {y : Addr} (X : Stand p l e R s m args below meth c T locs cells slots) (hx : p.tables.exec = Jvm.exec) (hZ : Z.Warmed39 s.vm) (eT : T.heap = h) (A : Af Z h a cid ty n f) (hty : ty.isReference = true) (O : Ovr Z cid C) (I : Ins Z h y C true) (h1 : ¬ j < 0) (h2 : j.toNatClampNeg < n) (hd : decode c.code pc = .ok (.aastore, 1))
    (k : ∀ T' h', Stand p l e R s m args below meth c T' (locs ++ [⟨a, j.toNatClampNeg⟩]) cells slots → T'.heap = h' → Wr h h' a j.toNatClampNeg (.ref y) → Af Z h' a cid ty n (updV f j.toNatClampNeg (.ref y)) → Go p e below s T' (mkF m (pc + 1) Ls rest) Q kc ks) : Go p e below s T (mkF m pc Ls (.ref y :: .int j :: .ref a :: rest)) Q kc ks := by
  have A' := A
  obtain ⟨cl, A1, r1, r2, -, r4⟩ := A
  obtain ⟨T', h', X', e', W, st⟩ := stR X hx hZ eT A1 (in_of r2 h1 h2) hty (Sto.ofV A1 r1 O I) (g := mkF m pc Ls (.ref y :: .int j :: .ref a :: rest)) rfl rfl hd
  exact Go.step st (k T' h' X' e' W (A'.set W))
theorem Go.newarray {aty : ArrayType} {z : Int32} {cap : Nat} (X : Stand p l e R s m args below meth c T locs cells slots) (hx : p.tables.exec = Jvm.exec) (hZ : Z.Warmed39 s.vm) (w : (Jvm.Cond.arrayClass (newarray.typeOf aty)).before a0 Z = true) (eT : T.heap = h) (hd : decode c.code pc = .ok (.newarray aty, 2)) (hn : ¬ z < 0) (hcap : z.toNatClampNeg ≤ cap) (hb : cap * 8 ≤ 536870912) (hc : cells + 1 ≤ R.cells) (hl : slots + cap ≤ R.slots)
    (k : ∀ T' h' a cA, a = h.size → Stand p l e R s m args below meth c T' locs (cells + 1) (slots + cap) → T'.heap = h' → Ext h h' → Af Z h' a cA (newarray.typeOf aty) z.toNatClampNeg (fun _ => defaultValue (newarray.typeOf aty)) → Go p e below s T' (mkF m (pc + 2) Ls (.ref a :: rest)) Q kc ks) : Go p e below s T (mkF m pc Ls (.int z :: rest)) Q kc ks := by
  obtain ⟨T', h', cA, X', e', E, A, st⟩ := newP X hx hZ w eT (g := mkF m pc Ls (.int z :: rest)) rfl hd rfl hn hcap hb hc hl
  exact Go.step st (k T' h' _ cA rfl X' e' E (Af.arv A hn))
theorem Go.anewarray {own C : String} {index : Nat} {z : Int32} {cap : Nat} (X : Stand p l e R s m args below meth c T locs cells slots) (hx : p.tables.exec = Jvm.exec) (hZ : Z.Warmed39 s.vm) (hown : s.vm.findClass own = some m.cls) (w1 : (Jvm.Cond.classLink own index C).before a0 Z = true) (w2 : (Jvm.Cond.arrayOver (.object C)).before a0 Z = true) (eT : T.heap = h) (hd : decode c.code pc = .ok (.anewarray index, 3)) (hn : ¬ z < 0) (hcap : z.toNatClampNeg ≤ cap) (hb : cap * 8 ≤ 536870912) (hc : cells + 1 ≤ R.cells) (hl : slots + cap ≤ R.slots)
    (k : ∀ T' h' a cA, a = h.size → Stand p l e R s m args below meth c T' locs (cells + 1) (slots + cap) → T'.heap = h' → Ext h h' → Af Z h' a cA (.object C) z.toNatClampNeg (fun _ => .null) → Ovr Z cA C → Go p e below s T' (mkF m (pc + 3) Ls (.ref a :: rest)) Q kc ks) : Go p e below s T (mkF m pc Ls (.int z :: rest)) Q kc ks := by
  obtain ⟨T', h', cA, X', e', E, A, O, st⟩ := newR X hx hZ hown w1 w2 eT (g := mkF m pc Ls (.int z :: rest)) rfl hd rfl hn hcap hb hc hl
  exact Go.step st (k T' h' _ cA rfl X' e' E (Af.arv A hn) O)
theorem Go.clone {own ad : String} {index W cap : Nat} (X : Stand p l e R s m args below meth c T locs cells slots) (hx : p.tables.exec = Jvm.exec) (hZ : Z.Warmed39 s.vm) (hown : s.vm.findClass own = some m.cls)
    (w1 : (Jvm.Cond.methodLink own index ⟨ad, "clone", "()Ljava/lang/Object;"⟩).before a0 Z = true) (w2 : (Jvm.Cond.sameMethod ad "java/lang/Object" "clone" "()Ljava/lang/Object;").before a0 Z = true) (w3 : (Jvm.Cond.native ⟨"java/lang/Object", "clone", "()Ljava/lang/Object;"⟩).before a0 Z = true)
    (w4 : (Jvm.Cond.instanceMethod ⟨"java/lang/Object", "clone", "()Ljava/lang/Object;"⟩).before a0 Z = true) (w5 : (Jvm.Cond.selects ad ⟨ad, "clone", "()Ljava/lang/Object;"⟩ ⟨"java/lang/Object", "clone", "()Ljava/lang/Object;"⟩).before a0 Z = true) (w6 : (Jvm.Cond.castable ad "java/lang/Cloneable").before a0 Z = true)
    (eT : T.heap = h) (A : Af Z h a cid ty n f) (E : Exa Z h a ad) (F : ∀ cl : Cell, h[a]? = some cl → FitC Z cl) (hd : decode c.code pc = .ok (.invokevirtual index, 3)) (hsize : Ls.size = c.maxLocals) (hW : (rest.map fun v => v.category).sum ≤ W) (hf : 1 ≤ R.frames) (hl : W + 14 ≤ R.locals) (hcap : n ≤ cap) (hc : cells + 1 ≤ R.cells) (hsl : slots + cap ≤ R.slots)
    (k : ∀ T' h' b, b = h.size → Stand p l e R s m args below meth c T' locs (cells + 1) (slots + cap) → T'.heap = h' → Ext h h' → Af Z h' b cid ty n f → Exa Z h' b ad → Go p e below s T' (mkF m (pc + 3) Ls (.ref b :: rest)) Q kc ks) : Go p e below s T (mkF m pc Ls (.ref a :: rest)) Q kc ks := by
  obtain ⟨cl, A1, r1, r2, r3, r4⟩ := A
  obtain ⟨T', h', X', e', Ex, A2, E2, st⟩ := cloneA X hx hZ hown w1 w2 w3 w4 w5 w6 eT A1 E (F cl A1.1) (g := mkF m pc Ls (.ref a :: rest)) rfl hsize rfl hd hf (W := W) (cap := cap) (by show 2 * 0 + _ ≤ _; omega) hl (by rw [r2]; exact hcap) hc hsl
  exact Go.step st (k T' h' _ rfl X' e' Ex ⟨_, A2, r1, r2, r3, r4⟩ E2)
/-- the call of a private method by invokevirtual, by its contract -/
theorem Go.callP {own C : String} {index kk : Nat} {y : MethodName} {bytes : ByteArray} {maxL : Nat} {ret : Option FieldType} {rm : Room} {argsL : List Value} {Q' : Option Value → Heap → List Loc → Prop} {W : Nat} {st : List Value}
    (X : Stand p l e R s m args below meth c T locs cells slots) (hx : p.tables.exec = Jvm.exec) (hZ : Z.Warmed39 s.vm) (hown : s.vm.findClass own = some m.cls)
    (w1 : (Jvm.Cond.methodLink own index y).before a0 Z = true) (w2 : (Jvm.Cond.instanceMethod y).before a0 Z = true) (wp : (Jvm.Cond.privateMethod y).before a0 Z = true) (wi : (Jvm.Cond.instantiable y.cls kk).before a0 Z = true) (w3 : (Jvm.Cond.initialized y.cls).before a0 Z = true) (w4 : (Jvm.Cond.code y bytes maxL ret).before a0 Z = true)
    (hy : y.cls ≠ "java/lang/invoke/MethodHandle" ∧ y.cls ≠ "java/lang/invoke/VarHandle") (E : Exa Z h a C) (hM : Met l Z y bytes maxL ret [] rm (.ref a :: argsL).toArray h Q') (eT : T.heap = h)
    (hlen : ∀ sig, parseMethodDescriptor y.desc = some sig → argsL.length = sig.parameters.length) (hd : decode c.code pc = .ok (.invokevirtual index, 3)) (hsize : Ls.size = c.maxLocals) (hst : st = argsL.reverse ++ .ref a :: rest) (hW : (rest.map fun v => v.category).sum ≤ W)
    (hf : rm.frames + 1 ≤ R.frames) (hl : W + (maxL + 11) + rm.locals ≤ R.locals) (hc : cells + rm.cells ≤ R.cells) (hs : slots + rm.slots ≤ R.slots)
    (k : ∀ v T' L, Stand p l e R s m args below meth c T' (locs ++ L) (cells + rm.cells) (slots + rm.slots) → Q' v T'.heap L → Go p e below s T' (mkF m (pc + 3) Ls (v.toList ++ rest)) Q kc ks) : Go p e below s T (mkF m pc Ls st) Q kc ks := by
  have wi' : (Jvm.Cond.instantiable y.cls kk).before args s = true := mvT hZ wi
  obtain ⟨cc, kc', i1, i2, i3, i4, -⟩ := Cond.instantiable_spec wi'
  have ni : kc'.isInterface = false := by revert i4; cases kc'.isInterface <;> simp
  have hp := Cond.privateMethod_at (mvP hZ wp (args := args))
  have hsel := Jvm.Stand.selects_self_of_private i1 i2 ni hp (mvT hZ w2 (args := args)) hy
  obtain ⟨cl, q1, q2⟩ := E.cell
  obtain ⟨v, vm₁, ⟨T1, L1, k1, n1⟩, -, X1, ⟨Lc, hQ1, l1, y1, z1⟩, st1⟩ := X.privateBack hx (y := y) hown (mvT hZ w1) (mvT hZ w2) hsel hp (mvT hZ w4) hy (backOf (W := W) hM hZ w4 w3 hf hl) (g := mkF m pc Ls st) rfl hsize (Steps.refl _) (a := a) (by rw [eT]; exact q1) q2 (argsL := argsL) (rest := rest) hlen hst (by show 2 * 0 + _ ≤ _; omega) hd (fun _ _ => ⟨rfl, eT, hc, hs⟩)
  dsimp only [Pt.U, Pt.locs, Pt.cells, Pt.slots] at X1 l1 y1 z1 st1 hQ1
  subst l1 y1 z1
  exact Go.trans st1 (k v T1 Lc X1 hQ1)
/-- the call of an interface's method, by the contract of the body that the receiver's class selects -/
theorem Go.callN {own C : String} {index count : Nat} {xi y : MethodName} {bytes : ByteArray} {maxL : Nat} {ret : Option FieldType} {rm : Room} {argsL : List Value} {Q' : Option Value → Heap → List Loc → Prop} {W : Nat} {st : List Value}
    (X : Stand p l e R s m args below meth c T locs cells slots) (hx : p.tables.exec = Jvm.exec) (hZ : Z.Warmed39 s.vm) (hown : s.vm.findClass own = some m.cls)
    (w1 : (Jvm.Cond.methodLink own index xi).before a0 Z = true) (w2 : (Jvm.Cond.declares xi).before a0 Z = true) (w5 : (Jvm.Cond.interfaceMethod xi.cls xi.cls xi.name xi.desc).before a0 Z = true) (w6 : (Jvm.Cond.selects C xi y).before a0 Z = true) (w7 : (Jvm.Cond.instanceMethod y).before a0 Z = true) (w8 : (Jvm.Cond.publicMethod y).before a0 Z = true) (w9 : (Jvm.Cond.unhidden C xi.name xi.desc).before a0 Z = true) (w10 : (Jvm.Cond.castable C xi.cls).before a0 Z = true)
    (w3 : (Jvm.Cond.initialized y.cls).before a0 Z = true) (w4 : (Jvm.Cond.code y bytes maxL ret).before a0 Z = true) (hy : xi.cls ≠ "java/lang/invoke/MethodHandle" ∧ xi.cls ≠ "java/lang/invoke/VarHandle") (k5 : ((Jvm.Cond.interfaceMethod xi.cls xi.cls xi.name xi.desc).onTables && (Jvm.Cond.interfaceMethod xi.cls xi.cls xi.name xi.desc).keepsFace) = true) (E : Exa Z h a C) (hM : Met l Z y bytes maxL ret [] rm (.ref a :: argsL).toArray h Q') (eT : T.heap = h)
    (hlen : ∀ sig, parseMethodDescriptor xi.desc = some sig → argsL.length = sig.parameters.length) (hd : decode c.code pc = .ok (.invokeinterface index count, 5)) (hsize : Ls.size = c.maxLocals) (hst : st = argsL.reverse ++ .ref a :: rest) (hW : (rest.map fun v => v.category).sum ≤ W)
    (hf : rm.frames + 1 ≤ R.frames) (hl : W + (maxL + 11) + rm.locals ≤ R.locals) (hc : cells + rm.cells ≤ R.cells) (hs : slots + rm.slots ≤ R.slots)
    (k : ∀ v T' L, Stand p l e R s m args below meth c T' (locs ++ L) (cells + rm.cells) (slots + rm.slots) → Q' v T'.heap L → Go p e below s T' (mkF m (pc + 5) Ls (v.toList ++ rest)) Q kc ks) : Go p e below s T (mkF m pc Ls st) Q kc ks := by
  obtain ⟨cB, kB, q1, q2, q3⟩ := isOf hZ eT E
  obtain ⟨v, vm₁, ⟨T1, L1, k1, n1⟩, -, X1, ⟨Lc, hQ1, l1, y1, z1⟩, st1⟩ := X.interfaceBack hx (xi := xi) (y := y) hown (mvT hZ w1) (mvT hZ w2) (mvT hZ w5 k5) (mvT hZ w6) (mvT hZ w7) (mvT hZ w8) (mvT hZ w9) (mvT hZ w10) hy (backOf (W := W) hM hZ w4 w3 hf hl) q1 q2 q3 (g := mkF m pc Ls st) rfl hsize (Steps.refl _) (argsL := argsL) (rest := rest) hlen hst (by show 2 * 0 + _ ≤ _; omega) hd (fun _ _ => ⟨rfl, eT, hc, hs⟩)
  dsimp only [Pt.U, Pt.locs, Pt.cells, Pt.slots] at X1 l1 y1 z1 st1 hQ1
  subst l1 y1 z1
  exact Go.trans st1 (k v T1 Lc X1 hQ1)
def cpf (f f' : Nat → Value) (sp dp nn : Nat) : Nat → Value := fun i => if dp ≤ i ∧ i < dp + nn then f (sp + (i - dp)) else f' i
theorem getD_range {i : Nat} (hi : i < n) (d : Value) : ((List.range n).map f).getD i d = f i := by simp [List.getD_eq_getElem?_getD, hi]
theorem Af.toArv (F : Af Z h a cid ty n f) (hf : ∀ i, i < n → fits ty (f i) = true) : Arv Z h a cid ty n.toInt32 ((List.range n).map f) .null := by
  obtain ⟨cl, A, r1, r2, r3, r4⟩ := F
  have z : (n.toInt32).toNatClampNeg = n := by simp only [Int32.toNatClampNeg, len_toInt r3]; rfl
  refine ⟨cl, A, r1, by rw [r2, z], ?_, fun i hi => ?_, fun i hi => ?_⟩
  · rw [Int32.lt_iff_toInt_lt, len_toInt r3]; show ¬ (n : Int) < 0; omega
  · rw [getD_range (by omega)]; exact r4 i (by omega)
  · rw [getD_range (by omega)]; exact hf i (by omega)
theorem Af.ofArv {z : Int32} {vs : List Value} {d : Value} (F : Arv Z h a cid ty z vs d) : Af Z h a cid ty z.toNatClampNeg (fun i => vs.getD i d) := by
  obtain ⟨cl, A, r1, r2, r3, H, G⟩ := F
  exact ⟨cl, A, r1, r2, (back32 r3).2, fun i hi => H i (by omega)⟩
theorem cp_at {n' sp dp nn i : Nat} (hi : i < n') (h4 : sp + nn ≤ n) (h5 : dp + nn ≤ n') :
    ((((List.range n').map f').take dp) ++ ((List.range nn).map fun i => ((List.range n).map f).getD (sp + i) .null) ++ (((List.range n').map f').drop (dp + nn))).getD i .null = cpf f f' sp dp nn i := by
  have lt : (((List.range n').map f').take dp).length = dp := by simp; omega
  have lu : ((List.range nn).map fun i => ((List.range n).map f).getD (sp + i) .null).length = nn := by simp
  rw [List.getD_eq_getElem?_getD]
  unfold cpf
  by_cases h1 : i < dp
  · rw [List.append_assoc, List.getElem?_append_left (by omega), if_neg (by omega)]
    simp [List.getElem?_take, h1, hi]
  · by_cases h2 : i < dp + nn
    · rw [List.getElem?_append_left (by rw [List.length_append]; omega), List.getElem?_append_right (by omega), if_pos ⟨by omega, h2⟩, lt]
      have h3 : i - dp < nn := by omega
      have h6 : sp + (i - dp) < n := by omega
      simp [h3, List.getD_eq_getElem?_getD, h6]
    · rw [List.getElem?_append_right (by rw [List.length_append]; omega), if_neg (by omega), List.length_append, lt, lu]
      have h3 : dp + nn + (i - (dp + nn)) = i := by omega
      simp [List.getElem?_drop, h3, hi]
theorem Go.acopy {own : String} {index W n0 n' : Nat} {b : Addr} {cid' : ClassId} {sp dp nn : Int32} (X : Stand p l e R s m args below meth c T locs cells slots) (hx : p.tables.exec = Jvm.exec) (hZ : Z.Warmed39 s.vm) (hown : s.vm.findClass own = some m.cls)
    (w1 : (Jvm.Cond.methodLink own index ⟨"java/lang/System", "arraycopy", "(Ljava/lang/Object;ILjava/lang/Object;II)V"⟩).before a0 Z = true) (w2 : (Jvm.Cond.native ⟨"java/lang/System", "arraycopy", "(Ljava/lang/Object;ILjava/lang/Object;II)V"⟩).before a0 Z = true) (w3 : (Jvm.Cond.static ⟨"java/lang/System", "arraycopy", "(Ljava/lang/Object;ILjava/lang/Object;II)V"⟩).before a0 Z = true) (w4 : (Jvm.Cond.initialized "java/lang/System").before a0 Z = true)
    (eT : T.heap = h) (A : Af Z h a cid ty n f) (B : Af Z h b cid' ty n' f') (hty : refKind ty = false) (hfa : ∀ i, i < n → fits ty (f i) = true) (hfb : ∀ i, i < n' → fits ty (f' i) = true) (h1 : ¬ sp < 0) (h2 : ¬ dp < 0) (h3 : ¬ nn < 0) (h4 : sp.toNatClampNeg + nn.toNatClampNeg ≤ n) (h5 : dp.toNatClampNeg + nn.toNatClampNeg ≤ n')
    (N : Fr n0 locs) (ge : n0 ≤ b) (hd : decode c.code pc = .ok (.invokestatic index, 3)) (hsize : Ls.size = c.maxLocals) (hW : (rest.map fun v => v.category).sum ≤ W) (hf : 1 ≤ R.frames) (hl : W + 18 ≤ R.locals)
    (k : ∀ T' h' L, Stand p l e R s m args below meth c T' L cells slots → T'.heap = h' → Fr n0 L → Keep h h' [b] → Af Z h' b cid' ty n' (cpf f f' sp.toNatClampNeg dp.toNatClampNeg nn.toNatClampNeg) → Go p e below s T' (mkF m (pc + 3) Ls rest) Q kc ks) : Go p e below s T (mkF m pc Ls (.int nn :: .int dp :: .ref b :: .int sp :: .ref a :: rest)) Q kc ks := by
  have za : (n.toInt32).toNatClampNeg = n := by obtain ⟨_, _, _, _, r3, _⟩ := A; simp only [Int32.toNatClampNeg, len_toInt r3]; rfl
  have zb : (n'.toInt32).toNatClampNeg = n' := by obtain ⟨_, _, _, _, r3, _⟩ := B; simp only [Int32.toNatClampNeg, len_toInt r3]; rfl
  obtain ⟨T', h', L, X', e', NL, K, V, st⟩ := cpA X hx hZ hown w1 w2 w3 w4 eT (A.toArv hfa) (B.toArv hfb) (Or.inl ⟨rfl, hty⟩) h1 h2 h3 (by rw [za]; exact h4) (by rw [zb]; exact h5) rfl (by simp; exact h5) N ge (g := mkF m pc Ls (.int nn :: .int dp :: .ref b :: .int sp :: .ref a :: rest)) rfl hsize rfl hd hf (W := W) (by show 2 * 0 + _ ≤ _; omega) (by show W + (7 + 11) ≤ _; omega)
  have V' := Af.ofArv V
  rw [zb] at V'
  exact Go.step st (k T' h' L X' e' NL K (V'.congr fun i hi => (cp_at hi h4 h5).symm))
theorem Keep.wr1 {ha hb hc : Heap} {ws : List Addr} {a : Addr} {sl : Nat} {v : Value} (K : Keep ha hb ws) (W : Wr hb hc a sl v) (q : a ∈ ws ∨ ha.size ≤ a) : Keep ha hc ws := Jvm.RoadKit.Keep.wr K W q
end Heap
end Jvm.OwnK
namespace Jvm.OwnK
open Sem ClassFile Op Lib Jvm.Free Jvm.Stand Jvm.LawKit Jvm.RoadKit
section Start
variable {s : State} {args : Array Value}
theorem st_static {C f d K : String} (h : (Jvm.Cond.exactly (Jvm.Term.static C f d) K).value args s none s [] = some true) (hi : (Jvm.Cond.initializedFor C f d).before args s = true ∨ ((Jvm.Cond.initialized C).before args s = true ∧ (Jvm.Cond.laysStatic C f d).before args s = true)) :
    ∃ g, (Jvm.Term.static C f d).eval args s none [] s = some (.ref g) ∧ Sta s s.heap C f d (.ref g) ∧ Exa s s.heap g K := by
  obtain ⟨g, eg⟩ := exa_v h
  exact ⟨g, eg, Sta.start eg hi, Exa.start eg h⟩
theorem st_int {t : Jvm.Term} {k : Int32} (h : (Jvm.Cond.eq t (.int k)).value args s none s [] = some true) : t.eval args s none [] s = some (.int k) := by
  obtain ⟨x, y, ha, hb, k1, k2⟩ := cmp_v (Or.inl h)
  have hb' : (Jvm.Term.int k).eval args s none [] s = some (.int k) := Term.int_eval k
  cases hb.symm.trans hb'
  obtain ⟨z, rfl⟩ := k2
  have q := gotT (Cond.eq_ints ha hb') h
  rw [ha, q]
theorem st_ref {t u : Jvm.Term} {g : Addr} (h : (Jvm.Cond.eq t u).value args s none s [] = some true) (hu : u.eval args s none [] s = some (.ref g)) : t.eval args s none [] s = some (.ref g) := by
  obtain ⟨x, y, ha, hb, k1, k2⟩ := cmp_v (Or.inl h)
  cases hb.symm.trans hu
  have hx : x.isRef = true := k2.2
  have q := gotT (eq_R ha hu hx rfl) h
  rw [ha, q]
theorem st_fieldI {t : Jvm.Term} {a : Addr} {C n d : String} {k : Int32} (ev : t.eval args s none [] s = some (.ref a)) (h : (Jvm.Cond.eq (.field t C n d) (.int k)).value args s none s [] = some true) : Fld s s.heap a C n d (.int k) :=
  Fld.start (by rw [← fld_at ev]; exact st_int h)
theorem st_fieldR {t : Jvm.Term} {a : Addr} {C n d K : String} (ev : t.eval args s none [] s = some (.ref a)) (h : (Jvm.Cond.exactly (.field t C n d) K).value args s none s [] = some true) :
    ∃ g, (Jvm.Term.field t C n d).eval args s none [] s = some (.ref g) ∧ Fld s s.heap a C n d (.ref g) ∧ Exa s s.heap g K := by
  obtain ⟨g, eg⟩ := exa_v h
  exact ⟨g, eg, Fld.start (by rw [← fld_at ev]; exact eg), Exa.start eg h⟩
/-- an array that stood before the law, with its length -/
theorem st_arr {t : Jvm.Term} {a : Addr} {ty : FieldType} {k : Int32} {n : Nat} (ev : t.eval args s none [] s = some (.ref a)) (h : (Jvm.Cond.arrayOf t ty).value args s none s [] = some true) (hl : (Jvm.Cond.eq (.length t) (.int k)).value args s none s [] = some true) (hk : k = n.toInt32) (hn : n < 2 ^ 31) :
    ∃ c : Cell, s.heap[a]? = some c ∧ Af s s.heap a c.cls ty n (fun i => (c.slots[i]?).getD .null) := by
  obtain ⟨c, A⟩ := Arr.start ev h
  have e1 := st_int hl
  obtain ⟨a', cell, g1, g2, g5, g3⟩ := Jvm.Lib.length_spec e1
  cases ev.symm.trans g1
  have g4 : s.arrayAt? a = some c := A.fin (Vm.Alike.refl _)
  cases g4.symm.trans g2
  injection g3 with g3
  have g6 : c.slots.size = n := by
    have q : (c.slots.size.toInt32).toInt = (n.toInt32).toInt := by rw [← g3, hk]
    rw [len_toInt g5, len_toInt hn] at q
    omega
  refine ⟨c, A.1, c, A, rfl, g6, hn, fun i hi => ?_⟩
  have q : i < c.slots.size := by omega
  simp [Array.getElem?_eq_getElem q]
theorem st_elem {t : Jvm.Term} {a : Addr} {j : Int32} {c : Cell} {v : Value} (ev : t.eval args s none [] s = some (.ref a)) (hc : s.heap[a]? = some c) (h : (Jvm.Term.elem t (.int j)).eval args s none [] s = some v) : (c.slots[j.toNatClampNeg]?).getD .null = v := by
  have q := (elem_in h ev (Term.int_eval j) hc).2
  rw [q]; rfl
theorem Af.known {Z : State} {h : Heap} {a : Addr} {cid : ClassId} {ty : FieldType} {n j : Nat} {f : Nat → Value} {v : Value} (F : Af Z h a cid ty n f) (q : f j = v) : Af Z h a cid ty n (updV f j v) := F.congr fun i _ => by
  by_cases e : i = j
  · subst e; simp [updV, q]
  · simp [updV, e]
end Start
end Jvm.OwnK
namespace Jvm.OwnK
open Sem ClassFile Op Lib Jvm.Free Jvm.Stand Jvm.LawKit Jvm.RoadKit
section Wide
variable {p : Program} {l : Launch} {e : Env} {R : Room} {s : State} {m : MethodId} {args : Array Value} {below : List Frame} {meth : Method} {c : Code} {T T' : State} {locs : List Loc} {cells slots : Nat} {Q : State → Outcome → Prop} {kc ks : Nat} {g g' : JFrame} {Z : State} {a0 : Array Value} {h h' : Heap} {pc : Nat} {Ls : Array Slot} {rest : List Value}
/-- the walk's goal where a constant may come to be interned: no start stands in it -/
def GoW (p : Program) (e : Env) (below : List Frame) (T : State) (g : JFrame) (Q : State → Outcome → Prop) (kc ks : Nat) : Prop :=
  ∃ s₂ o, Steps p.tables e below (T.setTop g) s₂ ∧ s₂.status = .running ∧ Ended s₂ below o ∧ Q s₂ o
theorem GoW.step (st : ∀ target, Steps p.tables e below (T'.setTop g') target → Steps p.tables e below (T.setTop g) target) (k : GoW p e below T' g' Q kc ks) : GoW p e below T g Q kc ks := by
  obtain ⟨s₂, o, h1, r⟩ := k
  exact ⟨s₂, o, st _ h1, r⟩
theorem GoW.trans (st : Steps p.tables e below (T.setTop g) (T'.setTop g')) (k : GoW p e below T' g' Q kc ks) : GoW p e below T g Q kc ks := by
  obtain ⟨s₂, o, h1, r⟩ := k
  exact ⟨s₂, o, st.trans h1, r⟩
theorem GoW.cast (q : g = g') (k : GoW p e below T g' Q kc ks) : GoW p e below T g Q kc ks := q ▸ k
theorem IB.same {Ts : List String} {vm vm1 : Vm} (I : IB Z vm Ts) (q : vm1.interned = vm.interned) : IB Z vm1 Ts := by
  obtain ⟨more, e, hm⟩ := I
  exact ⟨more, q.trans e, hm⟩
theorem IB.sub {Ts Ts' : List String} {vm : Vm} (I : IB Z vm Ts) (q : ∀ t ∈ Ts, t ∈ Ts') : IB Z vm Ts' := by
  obtain ⟨more, e, hm⟩ := I
  refine ⟨more, e, fun x hx => ?_⟩
  obtain ⟨t, h1, h2⟩ := hm x hx
  exact ⟨t, q t h1, h2⟩
/-- the end of a body that may intern: of the true start s, with the texts Ts loaded since Z -/
def WEnd (Z s : State) (Ts : List String) (Q : Option Value → Heap → List Loc → Prop) (kc ks : Nat) (s₂ : State) (o : Outcome) : Prop :=
  ∃ v L, o = .returned v ∧ Q v s₂.heap L ∧ IB Z s₂.vm Ts ∧ ReturnedEndW s o s₂ L kc ks
section Out
variable {vm0 : Vm} {k0 : Nat} {Ts : List String} {Qv : Option Value → Heap → List Loc → Prop} {a b : Nat}
theorem GoW.out (X : Stand p l e R (s.setVm vm0) m args below meth c T locs cells slots) (hlk : meth.locks = false) (hS : s.Since vm0 k0) (hn : k0 ≤ T.heap.size) (I : IB Z vm0 Ts) {v : Option Value} (hv : meth.sig.returnType = none → v = none) (hQ : Qv v T.heap locs) (hc : cells ≤ a) (hs : slots ≤ b)
    (st : ∀ fs : List Frame, (∀ (f : JFrame) (acts : List Action), f.method = m → f.locked = none → f.entered = [] → (doReturn e (T.setTop f) acts v).1 = T.setFrames fs) → Steps p.tables e below (T.setTop g) (T.setFrames fs)) : GoW p e below T g (WEnd Z s Ts Qv a b) kc ks := by
  obtain ⟨fs, hr, hrun, hended, hE⟩ := X.leaveW hS hn hv hlk
  exact ⟨_, _, st fs hr, hrun, hended, _, _, rfl, hQ, IB.same I X.warmed.interned_eq, hE.1, hE.2.1, hE.2.2.1, hE.2.2.2.mono hc hs⟩
theorem GoW.ret0 (X : Stand p l e R (s.setVm vm0) m args below meth c T locs cells slots) (hx : p.tables.exec = Jvm.exec) (hlk : meth.locks = false) (hS : s.Since vm0 k0) (hn : k0 ≤ T.heap.size) (I : IB Z vm0 Ts) (hret : meth.sig.returnType = none) (hd : decode c.code pc = .ok (.return_, 1)) (hc : cells ≤ a) (hs : slots ≤ b) (hQ : Qv none T.heap locs) : GoW p e below T (mkF m pc Ls []) (WEnd Z s Ts Qv a b) kc ks :=
  GoW.out X hlk hS hn I (fun _ => rfl) hQ hc hs fun fs hr => X.returnOut hx hret hd hr
theorem GoW.retV (X : Stand p l e R (s.setVm vm0) m args below meth c T locs cells slots) (hx : p.tables.exec = Jvm.exec) (hlk : meth.locks = false) (hS : s.Since vm0 k0) (hn : k0 ≤ T.heap.size) (I : IB Z vm0 Ts) {w : Value} {t : FieldType} {i : Instr} (hret : meth.sig.returnType = some t) (hnw : narrow t w = w)
    (hi : (i = .ireturn ∧ (t = .int ∨ t = .boolean ∨ t = .byte ∨ t = .char ∨ t = .short) ∧ ∃ z, w = .int z) ∨ (i = .lreturn ∧ t = .long ∧ ∃ z, w = .long z) ∨ (i = .dreturn ∧ t = .double ∧ ∃ z, w = .double z) ∨ (i = .freturn ∧ t = .float ∧ ∃ z, w = .float z) ∨ (i = .areturn ∧ t.isReference = true ∧ w.isRef = true))
    (hd : decode c.code pc = .ok (i, 1)) (hc : cells ≤ a) (hs : slots ≤ b) (hQ : Qv (some w) T.heap locs) : GoW p e below T (mkF m pc Ls (w :: rest)) (WEnd Z s Ts Qv a b) kc ks :=
  GoW.out X hlk hS hn I (fun q => by rw [hret] at q; cases q) hQ hc hs fun fs hr => retOut X hx hret hnw hi hd hr
theorem GoW.retZ (X : Stand p l e R (s.setVm vm0) m args below meth c T locs cells slots) (hx : p.tables.exec = Jvm.exec) (hlk : meth.locks = false) (hS : s.Since vm0 k0) (hn : k0 ≤ T.heap.size) (I : IB Z vm0 Ts) {z : Int32} (hret : meth.sig.returnType = some .boolean) (hz : z = 0 ∨ z = 1) (hd : decode c.code pc = .ok (.ireturn, 1)) (hc : cells ≤ a) (hs : slots ≤ b) (hQ : Qv (some (.int z)) T.heap locs) : GoW p e below T (mkF m pc Ls (.int z :: rest)) (WEnd Z s Ts Qv a b) kc ks :=
  GoW.retV X hx hlk hS hn I hret (nar_bool hz) (Or.inl ⟨rfl, Or.inr (Or.inl rfl), z, rfl⟩) hd hc hs hQ
theorem GoW.retR (X : Stand p l e R (s.setVm vm0) m args below meth c T locs cells slots) (hx : p.tables.exec = Jvm.exec) (hlk : meth.locks = false) (hS : s.Since vm0 k0) (hn : k0 ≤ T.heap.size) (I : IB Z vm0 Ts) {w : Value} {t : FieldType} (hret : meth.sig.returnType = some t) (ht : t.isReference = true) (hw : w.isRef = true) (hd : decode c.code pc = .ok (.areturn, 1)) (hc : cells ≤ a) (hs : slots ≤ b) (hQ : Qv (some w) T.heap locs) : GoW p e below T (mkF m pc Ls (w :: rest)) (WEnd Z s Ts Qv a b) kc ks :=
  GoW.retV X hx hlk hS hn I hret (by cases t <;> simp [narrow, FieldType.isReference] at ht ⊢) (Or.inr (Or.inr (Or.inr (Or.inr ⟨rfl, ht, hw⟩)))) hd hc hs hQ
end Out
/-- a contract of a body that may intern -/
def MetW (l : Launch) (Z : State) (y : MethodName) (bytes : ByteArray) (maxL : Nat) (ret : Option FieldType) (ws : List Jvm.Cond) (rm : Room) (as' : Array Value) (h0 : Heap) (Ts Ts' : List String) (Q : Option Value → Heap → List Loc → Prop) : Prop :=
  MetFree l y (head1 (Jvm.Cond.code y bytes maxL ret :: ws) rm) (fun a U => a = as' ∧ Z.Warmed39 U.vm ∧ U.heap = h0 ∧ IB Z U.vm Ts) (fun _ _ _ _ _ => True) (fun _ U o U' => WEnd Z U Ts' Q rm.cells rm.slots U' o)
theorem MetW.of {y : MethodName} {bytes : ByteArray} {maxL : Nat} {ret : Option FieldType} {ws : List Jvm.Cond} {rm : Room} {as' : Array Value} {h0 : Heap} {Ts Ts' : List String} {Q : Option Value → Heap → List Loc → Prop} (hpn : plainFor y = true)
    (body : ∀ (p : Program) (e : Env) (s : State) (m : MethodId) (below : List Frame) (meth : Method) (c : Code) (s₁ : State), Stand p l e rm (s.setVm s.vm) m as' below meth c s₁ [] 0 0 → p.tables.exec = Jvm.exec → c.code = bytes → c.maxLocals = maxL → Z.Warmed39 (s.setVm s.vm).vm →
      (s.setVm s.vm).vm.findClass y.cls = some m.cls → meth.name = y.name → s₁.heap = h0 → meth.sig.returnType = ret → meth.locks = false → IB Z s.vm Ts → s.heap = h0 → s.Since s.vm h0.size → GoW p e below s₁ (entryFrame m as' maxL) (WEnd Z s Ts' Q rm.cells rm.slots) rm.cells rm.slots) : MetW l Z y bytes maxL ret ws rm as' h0 Ts Ts' Q := by
  refine MetFree.of_bodySF hpn hisR ?_
  intro p e s m args below meth c s₁ Bd hml0 hP hK
  obtain ⟨rfl, hZ, hh, hI⟩ := hP
  exact body p e s m below meth c s₁ (show Stand p l e rm (s.setVm s.vm) m args below meth c s₁ [] 0 0 from Stand.of_body Bd) Bd.exec Bd.bytes hml0 hZ (findClass_of_methodNamed Bd.named) (name_of_methodNamed Bd.named Bd.method).1 (by rw [← hh, Bd.state]; rfl) Bd.returns Bd.notSynchronized hI hh ((State.WarmedH.refl s).since _)
/-- a callee's wide contract, as the library's calls want it -/
theorem backW {y : MethodName} {bytes : ByteArray} {maxL : Nat} {ret : Option FieldType} {rm : Room} {len W : Nat} {as' : Array Value} {Ts Ts' : List String} {vm0 : Vm} {Qc : Option Value → Heap → List Loc → Prop} (hM : MetW l Z y bytes maxL ret [] rm as' h Ts Ts' Qc) (hZ : Z.Warmed39 vm0) (I : IB Z vm0 Ts)
    (wc : (Jvm.Cond.code y bytes maxL ret).before a0 Z = true) (wz : (Jvm.Cond.initialized y.cls).before a0 Z = true) (hf : rm.frames + 1 ≤ R.frames) (hl : W + (maxL + 11) + rm.locals ≤ R.locals) :
    BackS l R p e below (s.setVm vm0) args y len W (fun A a => a = as' ∧ A.U.heap = h ∧ A.cells + rm.cells ≤ R.cells ∧ A.slots + rm.slots ≤ R.slots)
      (fun A _ v B => ∃ L, Qc v B.U.heap L ∧ B.locs = A.locs ++ L ∧ B.cells = A.cells + rm.cells ∧ B.slots = A.slots + rm.slots ∧ IB Z B.U.vm Ts') := by
  refine BackS.of_freeW (bytes := bytes) (maxL := maxL) (ret := ret) (E := fun _ _ o t L k n => (k = rm.cells ∧ n = rm.slots) ∧ IB Z t.vm Ts' ∧ ∃ v, o = .returned v ∧ Qc v t.heap L) hM hf hl ?_ ?_ (fun _ _ _ _ _ _ _ _ _ => trivial) ?_ ?_
  · intro m meth c A a Y hp
    have hU : Z.Warmed39 A.U.vm := wtrans (s := s.setVm vm0) hZ Y.warmed
    refine ⟨?_, mv hU wc, mv hU wz, hp.2.2.1, hp.2.2.2⟩
    show (Cond.and _ .tt).before a A.U = true
    rw [Cond.before_and, mv hU wc]; rfl
  · intro m meth c A a g mk Y hp
    exact ⟨hp.1, wtrans (s := s.setVm vm0) hZ Y.warmed, hp.2.1, IB.same I Y.warmed.interned_eq⟩
  · rintro _ _ _ _ ⟨v, L, h1, h2, h3, h4⟩
    exact ⟨L, _, _, h4, ⟨rfl, rfl⟩, h3, v, h1, h2⟩
  · rintro m meth c A a g mk v t L k n Y hp - - ⟨⟨rfl, rfl⟩, hI, v', e3, e4⟩
    cases e3
    exact ⟨L, e4, rfl, rfl, rfl, hI⟩
theorem GoW.callSW {own : String} {index : Nat} {y : MethodName} {bytes : ByteArray} {maxL : Nat} {ret : Option FieldType} {rm : Room} {argsL rest : List Value} {Qc : Option Value → Heap → List Loc → Prop} {W pc : Nat} {Ls : Array Slot} {st : List Value} {vm0 : Vm} {k0 : Nat} {Ts Ts' : List String}
    (X : Stand p l e R (s.setVm vm0) m args below meth c T locs cells slots) (hx : p.tables.exec = Jvm.exec) (hZ : Z.Warmed39 (s.setVm vm0).vm) (hown : (s.setVm vm0).vm.findClass own = some m.cls)
    (w1 : (Jvm.Cond.methodLink own index y).before a0 Z = true) (w2 : (Jvm.Cond.static y).before a0 Z = true) (w3 : (Jvm.Cond.initialized y.cls).before a0 Z = true) (w4 : (Jvm.Cond.code y bytes maxL ret).before a0 Z = true)
    (hy : y.cls ≠ "java/lang/invoke/MethodHandle" ∧ y.cls ≠ "java/lang/invoke/VarHandle") (I : IB Z vm0 Ts) (hS : s.Since vm0 k0) (hk : k0 ≤ h.size) (hM : MetW l Z y bytes maxL ret [] rm argsL.toArray h Ts Ts' Qc) (eT : T.heap = h)
    (hlen : ∀ sig, parseMethodDescriptor y.desc = some sig → argsL.length = sig.parameters.length) (hd : decode c.code pc = .ok (.invokestatic index, 3)) (hsize : Ls.size = c.maxLocals) (hst : st = argsL.reverse ++ rest) (hW : (rest.map fun v => v.category).sum ≤ W)
    (hf : rm.frames + 1 ≤ R.frames) (hl : W + (maxL + 11) + rm.locals ≤ R.locals) (hc : cells + rm.cells ≤ R.cells) (hs : slots + rm.slots ≤ R.slots)
    (k : ∀ v T' L, Stand p l e R (s.setVm T'.vm) m args below meth c T' (locs ++ L) (cells + rm.cells) (slots + rm.slots) → Z.Warmed39 (s.setVm T'.vm).vm → (s.setVm T'.vm).vm.findClass own = some m.cls → s.Since T'.vm T'.heap.size → IB Z T'.vm Ts' → Qc v T'.heap L → GoW p e below T' (mkF m (pc + 3) Ls (v.toList ++ rest)) Q kc ks) : GoW p e below T (mkF m pc Ls st) Q kc ks := by
  obtain ⟨v, vm₁, ⟨T1, L1, k1, n1⟩, -, X1, hS1, hg1, ⟨Lc, hQ1, l1, y1, z1, I1⟩, st1⟩ := Jvm.RoadKit.callSS X hx (y := y) hown (mvT hZ w1) (mvT hZ w2) (mvT hZ w3) (mvT hZ w4) hy (backW (W := W) hM hZ I w4 w3 hf hl) (g := mkF m pc Ls st) rfl hsize (argsL := argsL) (rest := rest) hlen hst (by show 2 * 0 + _ ≤ _; omega) hd (fun _ _ => ⟨rfl, eT, hc, hs⟩)
  dsimp only [Pt.U, Pt.locs, Pt.cells, Pt.slots] at X1 l1 y1 z1 st1 hQ1 hS1 hg1 I1
  subst l1 y1 z1
  obtain ⟨r1, r2, r3, r4⟩ := rebS hS (by rw [eT]; exact hk) X1 hS1 hg1 hZ hown
  exact GoW.trans st1 (k v T1 Lc r1 r3 r4 r2 I1 hQ1)
theorem GoW.callIW {own : String} {index : Nat} {y : MethodName} {bytes : ByteArray} {maxL : Nat} {rm : Room} {a : Addr} {argsL rest : List Value} {Qc : Option Value → Heap → List Loc → Prop} {W pc : Nat} {Ls : Array Slot} {st : List Value} {vm0 : Vm} {k0 : Nat} {Ts Ts' : List String}
    (X : Stand p l e R (s.setVm vm0) m args below meth c T locs cells slots) (hx : p.tables.exec = Jvm.exec) (hZ : Z.Warmed39 (s.setVm vm0).vm) (hown : (s.setVm vm0).vm.findClass own = some m.cls) (hy1 : y.name = "<init>")
    (w1 : (Jvm.Cond.methodLink own index y).before a0 Z = true) (w2 : (Jvm.Cond.instanceMethod y).before a0 Z = true) (w3 : (Jvm.Cond.initialized y.cls).before a0 Z = true) (w4 : (Jvm.Cond.code y bytes maxL none).before a0 Z = true)
    (hy : y.cls ≠ "java/lang/invoke/MethodHandle" ∧ y.cls ≠ "java/lang/invoke/VarHandle") (I : IB Z vm0 Ts) (hS : s.Since vm0 k0) (hk : k0 ≤ h.size) (hM : MetW l Z y bytes maxL none [] rm (.ref a :: argsL).toArray h Ts Ts' Qc) (eT : T.heap = h)
    (hlen : ∀ sig, parseMethodDescriptor y.desc = some sig → argsL.length = sig.parameters.length) (hd : decode c.code pc = .ok (.invokespecial index, 3)) (hsize : Ls.size = c.maxLocals) (hst : st = argsL.reverse ++ .ref a :: rest) (hW : (rest.map fun v => v.category).sum ≤ W)
    (hf : rm.frames + 1 ≤ R.frames) (hl : W + (maxL + 11) + rm.locals ≤ R.locals) (hc : cells + rm.cells ≤ R.cells) (hs : slots + rm.slots ≤ R.slots)
    (k : ∀ v T' L, Stand p l e R (s.setVm T'.vm) m args below meth c T' (locs ++ L) (cells + rm.cells) (slots + rm.slots) → Z.Warmed39 (s.setVm T'.vm).vm → (s.setVm T'.vm).vm.findClass own = some m.cls → s.Since T'.vm T'.heap.size → IB Z T'.vm Ts' → Qc v T'.heap L → GoW p e below T' (mkF m (pc + 3) Ls (v.toList ++ rest)) Q kc ks) : GoW p e below T (mkF m pc Ls st) Q kc ks := by
  obtain ⟨v, vm₁, ⟨T1, L1, k1, n1⟩, -, X1, hS1, hg1, ⟨Lc, hQ1, l1, y1, z1, I1⟩, st1⟩ := X.specialBackS hx (y := y) hy1 hown (mvT hZ w1) (mvT hZ w2) (mvT hZ w4) hy (backW (W := W) hM hZ I w4 w3 hf hl) (g := mkF m pc Ls st) rfl hsize (Steps.refl _) (a := a) (argsL := argsL) (rest := rest) hlen hst (by show 2 * 0 + _ ≤ _; omega) hd (fun _ _ => ⟨rfl, eT, hc, hs⟩)
  dsimp only [Pt.U, Pt.locs, Pt.cells, Pt.slots] at X1 l1 y1 z1 st1 hQ1 hS1 hg1 I1
  subst l1 y1 z1
  obtain ⟨r1, r2, r3, r4⟩ := rebS hS (by rw [eT]; exact hk) X1 hS1 hg1 hZ hown
  exact GoW.trans st1 (k v T1 Lc r1 r3 r4 r2 I1 hQ1)
/-- ldc of a String constant not loaded yet -/
theorem GoW.ldcS {own text : String} {index : Nat} {vm0 : Vm} {k0 n : Nat} {Ts : List String} {vs : List Value} {z : Int32} (X : Stand p l e R (s.setVm vm0) m args below meth c T locs cells slots) (hx : p.tables.exec = Jvm.exec) (hZ : Z.Warmed39 (s.setVm vm0).vm) (hown : (s.setVm vm0).vm.findClass own = some m.cls)
    (w : (Jvm.Cond.stringLink own index text).before a0 Z = true) (wS : ∀ a ∈ Bundle.stringAtoms, a.before a0 Z = true) (eT : T.heap = h) (hS : s.Since vm0 k0) (hk : k0 ≤ h.size) (N : Fr s.heap.size locs) (hkeep : ∀ (b : Addr) (cl : Cell), Z.heap[b]? = some cl → s.heap[b]? = some cl) (I : IB Z vm0 Ts) (hnot : text ∉ Ts) (hh : Jvm.Lit.constHeld Z own index) (hcw : Jvm.Lit.compactW.before a0 Z = true)
    (ht : (∀ c ∈ text.toList, c.toNat < 256) ∧ text.toList.map (fun c => Value.int (Jvm.Lit.byteI c.toNat.toUInt16)) = vs) (hz : ¬ z < 0) (hl : z.toNatClampNeg = vs.length) (hd : decode c.code pc = .ok (.ldc index, 2)) (hn : 4 * text.toList.length ≤ n) (hbig : n ≤ 536870912) (hc : cells + 2 ≤ R.cells) (hl' : slots + (n + 4) ≤ R.slots)
    (k : ∀ a T' h' k1 b kk, Stand p l e R (s.setVm T'.vm) m args below meth c T' locs (cells + 2) (slots + (n + 4)) → T'.heap = h' → Ext h h' → s.Since T'.vm k1 → k1 ≤ h'.size → Z.Warmed39 (s.setVm T'.vm).vm → (s.setVm T'.vm).vm.findClass own = some m.cls → Exa Z h' a "java/lang/String" → Fld Z h' a "java/lang/String" "coder" "B" (.int 0) → Fld Z h' a "java/lang/String" "value" "[B" (.ref b) → Arv Z h' b kk .byte z vs (.int 0) → IB Z T'.vm (text :: Ts) → Lit (s.setVm T'.vm) own index a →
      GoW p e below T' (mkF m (pc + 2) Ls (.ref a :: rest)) Q kc ks) : GoW p e below T (mkF m pc Ls rest) Q kc ks := by
  obtain ⟨a, T', h', k1, b, kk, r1, r2, r3, r4, r5, r6, r7, r8, r9, r10, r11, -, -, r14, r15, -, st⟩ := ldcSVd X hx hZ hown w wS eT hS hk N hkeep I hnot hh hcw ht hz hl (g := mkF m pc Ls rest) rfl hd hn hbig hc hl'
  exact GoW.step st (k a T' h' k1 b kk r1 r2 r3 r4 r5 r6 r7 r8 r9 r10 r11 r14 r15)
/-- ldc of one that this walk has loaded -/
theorem GoW.ldcA {own text : String} {index : Nat} {vm0 : Vm} {a : Addr} (X : Stand p l e R (s.setVm vm0) m args below meth c T locs cells slots) (hx : p.tables.exec = Jvm.exec) (hZ : Z.Warmed39 (s.setVm vm0).vm) (hown : (s.setVm vm0).vm.findClass own = some m.cls) (w : (Jvm.Cond.stringLink own index text).before a0 Z = true) (L : Lit (s.setVm vm0) own index a)
    (hd : decode c.code pc = .ok (.ldc index, 2)) (k : GoW p e below T (mkF m (pc + 2) Ls (.ref a :: rest)) Q kc ks) : GoW p e below T (mkF m pc Ls rest) Q kc ks :=
  GoW.step (ldcAgain X hx hZ hown w L (g := mkF m pc Ls rest) rfl hd) k
variable {a b : Addr} {cid : ClassId} {ty : FieldType} {n : Nat} {f f' : Nat → Value} {ws : List Addr} {sl : Nat} {v : Value}
theorem GoW.callS {own : String} {index : Nat} {y : MethodName} {bytes : ByteArray} {maxL : Nat} {ret : Option FieldType} {rm : Room} {argsL rest : List Value} {Q' : Option Value → Heap → List Loc → Prop} {W pc : Nat} {Ls : Array Slot} {st : List Value}
    (X : Stand p l e R s m args below meth c T locs cells slots) (hx : p.tables.exec = Jvm.exec) (hZ : Z.Warmed39 s.vm) (hown : s.vm.findClass own = some m.cls)
    (w1 : (Jvm.Cond.methodLink own index y).before a0 Z = true) (w2 : (Jvm.Cond.static y).before a0 Z = true) (w3 : (Jvm.Cond.initialized y.cls).before a0 Z = true) (w4 : (Jvm.Cond.code y bytes maxL ret).before a0 Z = true)
    (hy : y.cls ≠ "java/lang/invoke/MethodHandle" ∧ y.cls ≠ "java/lang/invoke/VarHandle") (hM : Met l Z y bytes maxL ret [] rm argsL.toArray h Q') (eT : T.heap = h)
    (hlen : ∀ sig, parseMethodDescriptor y.desc = some sig → argsL.length = sig.parameters.length) (hd : decode c.code pc = .ok (.invokestatic index, 3)) (hsize : Ls.size = c.maxLocals) (hst : st = argsL.reverse ++ rest) (hW : (rest.map fun v => v.category).sum ≤ W)
    (hf : rm.frames + 1 ≤ R.frames) (hl : W + (maxL + 11) + rm.locals ≤ R.locals) (hc : cells + rm.cells ≤ R.cells) (hs : slots + rm.slots ≤ R.slots)
    (k : ∀ v T' L, Stand p l e R s m args below meth c T' (locs ++ L) (cells + rm.cells) (slots + rm.slots) → Q' v T'.heap L → GoW p e below T' (mkF m (pc + 3) Ls (v.toList ++ rest)) Q kc ks) : GoW p e below T (mkF m pc Ls st) Q kc ks := by
  obtain ⟨v, vm₁, ⟨T1, L1, k1, n1⟩, -, X1, ⟨Lc, hQ1, l1, y1, z1⟩, st1⟩ := Jvm.LawKit.callS X hx (y := y) hown (mvT hZ w1) (mvT hZ w2) (mvT hZ w3) (mvT hZ w4) hy (backOf (W := W) hM hZ w4 w3 hf hl) (g := mkF m pc Ls st) rfl hsize (argsL := argsL) (rest := rest) hlen hst (by show 2 * 0 + _ ≤ _; omega) hd (fun _ _ => ⟨rfl, eT, hc, hs⟩)
  dsimp only [Pt.U, Pt.locs, Pt.cells, Pt.slots] at X1 l1 y1 z1 st1 hQ1
  subst l1 y1 z1
  exact GoW.step st1 (k v T1 Lc X1 hQ1)
theorem GoW.callI {own : String} {index : Nat} {y : MethodName} {bytes : ByteArray} {maxL : Nat} {rm : Room} {a : Addr} {argsL rest : List Value} {Q' : Option Value → Heap → List Loc → Prop} {W pc : Nat} {Ls : Array Slot} {st : List Value}
    (X : Stand p l e R s m args below meth c T locs cells slots) (hx : p.tables.exec = Jvm.exec) (hZ : Z.Warmed39 s.vm) (hown : s.vm.findClass own = some m.cls) (hy1 : y.name = "<init>")
    (w1 : (Jvm.Cond.methodLink own index y).before a0 Z = true) (w2 : (Jvm.Cond.instanceMethod y).before a0 Z = true) (w3 : (Jvm.Cond.initialized y.cls).before a0 Z = true) (w4 : (Jvm.Cond.code y bytes maxL none).before a0 Z = true)
    (hy : y.cls ≠ "java/lang/invoke/MethodHandle" ∧ y.cls ≠ "java/lang/invoke/VarHandle") (hM : Met l Z y bytes maxL none [] rm (.ref a :: argsL).toArray h Q') (eT : T.heap = h)
    (hlen : ∀ sig, parseMethodDescriptor y.desc = some sig → argsL.length = sig.parameters.length) (hd : decode c.code pc = .ok (.invokespecial index, 3)) (hsize : Ls.size = c.maxLocals) (hst : st = argsL.reverse ++ .ref a :: rest) (hW : (rest.map fun v => v.category).sum ≤ W)
    (hf : rm.frames + 1 ≤ R.frames) (hl : W + (maxL + 11) + rm.locals ≤ R.locals) (hc : cells + rm.cells ≤ R.cells) (hs : slots + rm.slots ≤ R.slots)
    (k : ∀ v T' L, Stand p l e R s m args below meth c T' (locs ++ L) (cells + rm.cells) (slots + rm.slots) → Q' v T'.heap L → GoW p e below T' (mkF m (pc + 3) Ls (v.toList ++ rest)) Q kc ks) : GoW p e below T (mkF m pc Ls st) Q kc ks := by
  obtain ⟨v, vm₁, ⟨T1, L1, k1, n1⟩, -, X1, ⟨Lc, hQ1, l1, y1, z1⟩, st1⟩ := X.specialBack hx (y := y) hy1 hown (mvT hZ w1) (mvT hZ w2) (mvT hZ w4) hy (backOf (W := W) hM hZ w4 w3 hf hl) (g := mkF m pc Ls st) rfl hsize (Steps.refl _) (a := a) (argsL := argsL) (rest := rest) hlen hst (by show 2 * 0 + _ ≤ _; omega) hd (fun _ _ => ⟨rfl, eT, hc, hs⟩)
  dsimp only [Pt.U, Pt.locs, Pt.cells, Pt.slots] at X1 l1 y1 z1 st1 hQ1
  subst l1 y1 z1
  exact GoW.trans st1 (k v T1 Lc X1 hQ1)
theorem GoW.callV {own C : String} {index : Nat} {y z : MethodName} {bytes : ByteArray} {maxL : Nat} {ret : Option FieldType} {rm : Room} {a : Addr} {argsL rest : List Value} {Q' : Option Value → Heap → List Loc → Prop} {W pc : Nat} {Ls : Array Slot} {st : List Value}
    (X : Stand p l e R s m args below meth c T locs cells slots) (hx : p.tables.exec = Jvm.exec) (hZ : Z.Warmed39 s.vm) (hown : s.vm.findClass own = some m.cls)
    (w1 : (Jvm.Cond.methodLink own index y).before a0 Z = true) (w2 : (Jvm.Cond.declares y).before a0 Z = true) (w5 : (Jvm.Cond.selects C y z).before a0 Z = true) (w6 : (Jvm.Cond.instanceMethod z).before a0 Z = true) (w3 : (Jvm.Cond.initialized z.cls).before a0 Z = true) (w4 : (Jvm.Cond.code z bytes maxL ret).before a0 Z = true)
    (nf : NotFace s y) (hy : y.cls ≠ "java/lang/invoke/MethodHandle" ∧ y.cls ≠ "java/lang/invoke/VarHandle") (E : Exa Z h a C) (hM : Met l Z z bytes maxL ret [] rm (.ref a :: argsL).toArray h Q') (eT : T.heap = h)
    (hlen : ∀ sig, parseMethodDescriptor y.desc = some sig → argsL.length = sig.parameters.length) (hd : decode c.code pc = .ok (.invokevirtual index, 3)) (hsize : Ls.size = c.maxLocals) (hst : st = argsL.reverse ++ .ref a :: rest) (hW : (rest.map fun v => v.category).sum ≤ W)
    (hf : rm.frames + 1 ≤ R.frames) (hl : W + (maxL + 11) + rm.locals ≤ R.locals) (hc : cells + rm.cells ≤ R.cells) (hs : slots + rm.slots ≤ R.slots)
    (k : ∀ v T' L, Stand p l e R s m args below meth c T' (locs ++ L) (cells + rm.cells) (slots + rm.slots) → Q' v T'.heap L → GoW p e below T' (mkF m (pc + 3) Ls (v.toList ++ rest)) Q kc ks) : GoW p e below T (mkF m pc Ls st) Q kc ks := by
  obtain ⟨cB, kB, q1, q2, q3⟩ := isOf hZ eT E
  obtain ⟨v, vm₁, ⟨T1, L1, k1, n1⟩, -, X1, ⟨Lc, hQ1, l1, y1, z1⟩, st1⟩ := X.virtualBack hx (y := y) (z := z) hown (mvT hZ w1) (mvT hZ w2) nf (mvT hZ w5) (mvT hZ w6) hy (backOf (W := W) hM hZ w4 w3 hf hl) q1 q3 (g := mkF m pc Ls st) rfl hsize (Steps.refl _) (argsL := argsL) (rest := rest) hlen hst (by show 2 * 0 + _ ≤ _; omega) hd (fun _ _ => ⟨rfl, eT, hc, hs⟩)
  dsimp only [Pt.U, Pt.locs, Pt.cells, Pt.slots] at X1 l1 y1 z1 st1 hQ1
  subst l1 y1 z1
  exact GoW.trans st1 (k v T1 Lc X1 hQ1)
theorem GoW.ldc {own : String} {index pc : Nat} {v : Int32} {Ls : Array Slot} {st : List Value} (X : Stand p l e R s m args below meth c T locs cells slots) (hx : p.tables.exec = Jvm.exec) (hZ : Z.Warmed39 s.vm) (hown : s.vm.findClass own = some m.cls) (w : (Jvm.Cond.constant own index v).before a0 Z = true) (hd : decode c.code pc = .ok (.ldc index, 2))
    (k : GoW p e below T (mkF m (pc + 2) Ls (.int v :: st)) Q kc ks) : GoW p e below T (mkF m pc Ls st) Q kc ks :=
  GoW.step (fun _ => X.ldcI hx hown (mvT hZ w) (g := mkF m pc Ls st) rfl hd) k
theorem GoW.ldcw {own : String} {index pc : Nat} {v : Int32} {Ls : Array Slot} {st : List Value} (X : Stand p l e R s m args below meth c T locs cells slots) (hx : p.tables.exec = Jvm.exec) (hZ : Z.Warmed39 s.vm) (hown : s.vm.findClass own = some m.cls) (w : (Jvm.Cond.constant own index v).before a0 Z = true) (hd : decode c.code pc = .ok (.ldc_w index, 3))
    (k : GoW p e below T (mkF m (pc + 3) Ls (.int v :: st)) Q kc ks) : GoW p e below T (mkF m pc Ls st) Q kc ks :=
  GoW.step (fun _ => X.ldcWI hx hown (mvT hZ w) (g := mkF m pc Ls st) rfl hd) k
theorem GoW.ldc2 {own : String} {index pc : Nat} {v : Int64} {Ls : Array Slot} {st : List Value} (X : Stand p l e R s m args below meth c T locs cells slots) (hx : p.tables.exec = Jvm.exec) (hZ : Z.Warmed39 s.vm) (hown : s.vm.findClass own = some m.cls) (w : (Jvm.Cond.constantLong own index v).before a0 Z = true) (hd : decode c.code pc = .ok (.ldc2_w index, 3))
    (k : GoW p e below T (mkF m (pc + 3) Ls (.long v :: st)) Q kc ks) : GoW p e below T (mkF m pc Ls st) Q kc ks :=
  GoW.step (fun _ => X.ldc2J hx hown (mvT hZ w) (g := mkF m pc Ls st) rfl hd) k
theorem GoW.iadd {x y : Int32} (X : Stand p l e R s m args below meth c T locs cells slots) (hx : p.tables.exec = Jvm.exec) (hd : decode c.code pc = .ok (.iadd, 1)) (k : GoW p e below T (mkF m (pc + 1) Ls (.int (x + y) :: rest)) Q kc ks) : GoW p e below T (mkF m pc Ls (.int y :: .int x :: rest)) Q kc ks :=
  GoW.step (fun _ => XS.iadd X.here hx (g := mkF m pc Ls (.int y :: .int x :: rest)) rfl hd rfl) k
theorem GoW.isub {x y : Int32} (X : Stand p l e R s m args below meth c T locs cells slots) (hx : p.tables.exec = Jvm.exec) (hd : decode c.code pc = .ok (.isub, 1)) (k : GoW p e below T (mkF m (pc + 1) Ls (.int (x - y) :: rest)) Q kc ks) : GoW p e below T (mkF m pc Ls (.int y :: .int x :: rest)) Q kc ks :=
  GoW.step (fun _ => XS.isub X.here hx (g := mkF m pc Ls (.int y :: .int x :: rest)) rfl hd rfl) k
theorem GoW.iand {x y : Int32} (X : Stand p l e R s m args below meth c T locs cells slots) (hx : p.tables.exec = Jvm.exec) (hd : decode c.code pc = .ok (.iand, 1)) (k : GoW p e below T (mkF m (pc + 1) Ls (.int (x &&& y) :: rest)) Q kc ks) : GoW p e below T (mkF m pc Ls (.int y :: .int x :: rest)) Q kc ks :=
  GoW.step (fun _ => XS.iand X.here hx (g := mkF m pc Ls (.int y :: .int x :: rest)) rfl hd rfl) k
theorem GoW.imul {x y : Int32} (X : Stand p l e R s m args below meth c T locs cells slots) (hx : p.tables.exec = Jvm.exec) (hd : decode c.code pc = .ok (.imul, 1)) (k : GoW p e below T (mkF m (pc + 1) Ls (.int (x * y) :: rest)) Q kc ks) : GoW p e below T (mkF m pc Ls (.int y :: .int x :: rest)) Q kc ks :=
  GoW.step (fun _ => XS.imul X.here hx (g := mkF m pc Ls (.int y :: .int x :: rest)) rfl hd rfl) k
theorem GoW.ixor {x y : Int32} (X : Stand p l e R s m args below meth c T locs cells slots) (hx : p.tables.exec = Jvm.exec) (hd : decode c.code pc = .ok (.ixor, 1)) (k : GoW p e below T (mkF m (pc + 1) Ls (.int (x ^^^ y) :: rest)) Q kc ks) : GoW p e below T (mkF m pc Ls (.int y :: .int x :: rest)) Q kc ks :=
  GoW.step (fun _ => XT.ixor X.here hx (g := mkF m pc Ls (.int y :: .int x :: rest)) rfl hd rfl) k
theorem GoW.ior {x y : Int32} (X : Stand p l e R s m args below meth c T locs cells slots) (hx : p.tables.exec = Jvm.exec) (hd : decode c.code pc = .ok (.ior, 1)) (k : GoW p e below T (mkF m (pc + 1) Ls (.int (x ||| y) :: rest)) Q kc ks) : GoW p e below T (mkF m pc Ls (.int y :: .int x :: rest)) Q kc ks :=
  GoW.step (fun _ => XT.ior X.here hx (g := mkF m pc Ls (.int y :: .int x :: rest)) rfl hd rfl) k
theorem GoW.ishl {x y : Int32} (X : Stand p l e R s m args below meth c T locs cells slots) (hx : p.tables.exec = Jvm.exec) (hd : decode c.code pc = .ok (.ishl, 1)) (k : GoW p e below T (mkF m (pc + 1) Ls (.int (x <<< (y &&& 31)) :: rest)) Q kc ks) : GoW p e below T (mkF m pc Ls (.int y :: .int x :: rest)) Q kc ks :=
  GoW.step (fun _ => XT.ishl X.here hx (g := mkF m pc Ls (.int y :: .int x :: rest)) rfl hd rfl) k
theorem GoW.ishr {x y : Int32} (X : Stand p l e R s m args below meth c T locs cells slots) (hx : p.tables.exec = Jvm.exec) (hd : decode c.code pc = .ok (.ishr, 1)) (k : GoW p e below T (mkF m (pc + 1) Ls (.int (x >>> (y &&& 31)) :: rest)) Q kc ks) : GoW p e below T (mkF m pc Ls (.int y :: .int x :: rest)) Q kc ks :=
  GoW.step (fun _ => XT.ishr X.here hx (g := mkF m pc Ls (.int y :: .int x :: rest)) rfl hd rfl) k
theorem GoW.iushr {x y : Int32} (X : Stand p l e R s m args below meth c T locs cells slots) (hx : p.tables.exec = Jvm.exec) (hd : decode c.code pc = .ok (.iushr, 1)) (k : GoW p e below T (mkF m (pc + 1) Ls (.int (XT.ushr x y) :: rest)) Q kc ks) : GoW p e below T (mkF m pc Ls (.int y :: .int x :: rest)) Q kc ks :=
  GoW.step (fun _ => XT.iushr X.here hx (g := mkF m pc Ls (.int y :: .int x :: rest)) rfl hd rfl) k
theorem GoW.idiv {x y : Int32} (X : Stand p l e R s m args below meth c T locs cells slots) (hx : p.tables.exec = Jvm.exec) (hd : decode c.code pc = .ok (.idiv, 1)) (hy : y ≠ 0) (k : GoW p e below T (mkF m (pc + 1) Ls (.int (x / y) :: rest)) Q kc ks) : GoW p e below T (mkF m pc Ls (.int y :: .int x :: rest)) Q kc ks :=
  GoW.step (fun _ => XS.idiv X.here hx (g := mkF m pc Ls (.int y :: .int x :: rest)) rfl hd rfl hy) k
theorem GoW.irem {x y : Int32} (X : Stand p l e R s m args below meth c T locs cells slots) (hx : p.tables.exec = Jvm.exec) (hd : decode c.code pc = .ok (.irem, 1)) (hy : y ≠ 0) (k : GoW p e below T (mkF m (pc + 1) Ls (.int (x % y) :: rest)) Q kc ks) : GoW p e below T (mkF m pc Ls (.int y :: .int x :: rest)) Q kc ks :=
  GoW.step (fun _ => iremM X hx (g := mkF m pc Ls (.int y :: .int x :: rest)) rfl hd rfl hy) k
theorem GoW.ladd {x y : Int64} (X : Stand p l e R s m args below meth c T locs cells slots) (hx : p.tables.exec = Jvm.exec) (hd : decode c.code pc = .ok (.ladd, 1)) (k : GoW p e below T (mkF m (pc + 1) Ls (.long (x + y) :: rest)) Q kc ks) : GoW p e below T (mkF m pc Ls (.long y :: .long x :: rest)) Q kc ks :=
  GoW.step (fun _ => XT.ladd X.here hx (g := mkF m pc Ls (.long y :: .long x :: rest)) rfl hd rfl) k
theorem GoW.lsub {x y : Int64} (X : Stand p l e R s m args below meth c T locs cells slots) (hx : p.tables.exec = Jvm.exec) (hd : decode c.code pc = .ok (.lsub, 1)) (k : GoW p e below T (mkF m (pc + 1) Ls (.long (x - y) :: rest)) Q kc ks) : GoW p e below T (mkF m pc Ls (.long y :: .long x :: rest)) Q kc ks :=
  GoW.step (fun _ => XT.lsub X.here hx (g := mkF m pc Ls (.long y :: .long x :: rest)) rfl hd rfl) k
theorem GoW.lmul {x y : Int64} (X : Stand p l e R s m args below meth c T locs cells slots) (hx : p.tables.exec = Jvm.exec) (hd : decode c.code pc = .ok (.lmul, 1)) (k : GoW p e below T (mkF m (pc + 1) Ls (.long (x * y) :: rest)) Q kc ks) : GoW p e below T (mkF m pc Ls (.long y :: .long x :: rest)) Q kc ks :=
  GoW.step (fun _ => XT.lmul X.here hx (g := mkF m pc Ls (.long y :: .long x :: rest)) rfl hd rfl) k
theorem GoW.land {x y : Int64} (X : Stand p l e R s m args below meth c T locs cells slots) (hx : p.tables.exec = Jvm.exec) (hd : decode c.code pc = .ok (.land, 1)) (k : GoW p e below T (mkF m (pc + 1) Ls (.long (x &&& y) :: rest)) Q kc ks) : GoW p e below T (mkF m pc Ls (.long y :: .long x :: rest)) Q kc ks :=
  GoW.step (fun _ => XT.land X.here hx (g := mkF m pc Ls (.long y :: .long x :: rest)) rfl hd rfl) k
theorem GoW.lor {x y : Int64} (X : Stand p l e R s m args below meth c T locs cells slots) (hx : p.tables.exec = Jvm.exec) (hd : decode c.code pc = .ok (.lor, 1)) (k : GoW p e below T (mkF m (pc + 1) Ls (.long (x ||| y) :: rest)) Q kc ks) : GoW p e below T (mkF m pc Ls (.long y :: .long x :: rest)) Q kc ks :=
  GoW.step (fun _ => XT.lor X.here hx (g := mkF m pc Ls (.long y :: .long x :: rest)) rfl hd rfl) k
theorem GoW.lxor {x y : Int64} (X : Stand p l e R s m args below meth c T locs cells slots) (hx : p.tables.exec = Jvm.exec) (hd : decode c.code pc = .ok (.lxor, 1)) (k : GoW p e below T (mkF m (pc + 1) Ls (.long (x ^^^ y) :: rest)) Q kc ks) : GoW p e below T (mkF m pc Ls (.long y :: .long x :: rest)) Q kc ks :=
  GoW.step (fun _ => XT.lxor X.here hx (g := mkF m pc Ls (.long y :: .long x :: rest)) rfl hd rfl) k
theorem GoW.lcmp {x y : Int64} (X : Stand p l e R s m args below meth c T locs cells slots) (hx : p.tables.exec = Jvm.exec) (hd : decode c.code pc = .ok (.lcmp, 1)) (k : GoW p e below T (mkF m (pc + 1) Ls (.int (XT.cmpL x y) :: rest)) Q kc ks) : GoW p e below T (mkF m pc Ls (.long y :: .long x :: rest)) Q kc ks :=
  GoW.step (fun _ => XT.lcmp X.here hx (g := mkF m pc Ls (.long y :: .long x :: rest)) rfl hd rfl) k
theorem GoW.lshl {x : Int64} {y : Int32} (X : Stand p l e R s m args below meth c T locs cells slots) (hx : p.tables.exec = Jvm.exec) (hd : decode c.code pc = .ok (.lshl, 1)) (k : GoW p e below T (mkF m (pc + 1) Ls (.long (x <<< (y.toInt64 &&& 63)) :: rest)) Q kc ks) : GoW p e below T (mkF m pc Ls (.int y :: .long x :: rest)) Q kc ks :=
  GoW.step (fun _ => XT.lshl X.here hx (g := mkF m pc Ls (.int y :: .long x :: rest)) rfl hd rfl) k
theorem GoW.lshr {x : Int64} {y : Int32} (X : Stand p l e R s m args below meth c T locs cells slots) (hx : p.tables.exec = Jvm.exec) (hd : decode c.code pc = .ok (.lshr, 1)) (k : GoW p e below T (mkF m (pc + 1) Ls (.long (x >>> (y.toInt64 &&& 63)) :: rest)) Q kc ks) : GoW p e below T (mkF m pc Ls (.int y :: .long x :: rest)) Q kc ks :=
  GoW.step (fun _ => XT.lshr X.here hx (g := mkF m pc Ls (.int y :: .long x :: rest)) rfl hd rfl) k
theorem GoW.lushr {x : Int64} {y : Int32} (X : Stand p l e R s m args below meth c T locs cells slots) (hx : p.tables.exec = Jvm.exec) (hd : decode c.code pc = .ok (.lushr, 1)) (k : GoW p e below T (mkF m (pc + 1) Ls (.long (XT.ushrL x y) :: rest)) Q kc ks) : GoW p e below T (mkF m pc Ls (.int y :: .long x :: rest)) Q kc ks :=
  GoW.step (fun _ => XT.lushr X.here hx (g := mkF m pc Ls (.int y :: .long x :: rest)) rfl hd rfl) k
theorem GoW.i2b {x : Int32} (X : Stand p l e R s m args below meth c T locs cells slots) (hx : p.tables.exec = Jvm.exec) (hd : decode c.code pc = .ok (.i2b, 1)) (k : GoW p e below T (mkF m (pc + 1) Ls (.int (x.toInt8.toInt32) :: rest)) Q kc ks) : GoW p e below T (mkF m pc Ls (.int x :: rest)) Q kc ks :=
  GoW.step (fun _ => XT.i2b X.here hx (g := mkF m pc Ls (.int x :: rest)) rfl hd rfl) k
theorem GoW.i2c {x : Int32} (X : Stand p l e R s m args below meth c T locs cells slots) (hx : p.tables.exec = Jvm.exec) (hd : decode c.code pc = .ok (.i2c, 1)) (k : GoW p e below T (mkF m (pc + 1) Ls (.int (x.toUInt32.toUInt16.toUInt32.toInt32) :: rest)) Q kc ks) : GoW p e below T (mkF m pc Ls (.int x :: rest)) Q kc ks :=
  GoW.step (fun _ => XT.i2c X.here hx (g := mkF m pc Ls (.int x :: rest)) rfl hd rfl) k
theorem GoW.i2s {x : Int32} (X : Stand p l e R s m args below meth c T locs cells slots) (hx : p.tables.exec = Jvm.exec) (hd : decode c.code pc = .ok (.i2s, 1)) (k : GoW p e below T (mkF m (pc + 1) Ls (.int (x.toInt16.toInt32) :: rest)) Q kc ks) : GoW p e below T (mkF m pc Ls (.int x :: rest)) Q kc ks :=
  GoW.step (fun _ => XT.i2s X.here hx (g := mkF m pc Ls (.int x :: rest)) rfl hd rfl) k
theorem GoW.i2l {x : Int32} (X : Stand p l e R s m args below meth c T locs cells slots) (hx : p.tables.exec = Jvm.exec) (hd : decode c.code pc = .ok (.i2l, 1)) (k : GoW p e below T (mkF m (pc + 1) Ls (.long (x.toInt64) :: rest)) Q kc ks) : GoW p e below T (mkF m pc Ls (.int x :: rest)) Q kc ks :=
  GoW.step (fun _ => XT.i2l X.here hx (g := mkF m pc Ls (.int x :: rest)) rfl hd rfl) k
theorem GoW.ineg {x : Int32} (X : Stand p l e R s m args below meth c T locs cells slots) (hx : p.tables.exec = Jvm.exec) (hd : decode c.code pc = .ok (.ineg, 1)) (k : GoW p e below T (mkF m (pc + 1) Ls (.int (-x) :: rest)) Q kc ks) : GoW p e below T (mkF m pc Ls (.int x :: rest)) Q kc ks :=
  GoW.step (fun _ => XS.ineg X.here hx (g := mkF m pc Ls (.int x :: rest)) rfl hd rfl) k
theorem GoW.l2i {x : Int64} (X : Stand p l e R s m args below meth c T locs cells slots) (hx : p.tables.exec = Jvm.exec) (hd : decode c.code pc = .ok (.l2i, 1)) (k : GoW p e below T (mkF m (pc + 1) Ls (.int (x.toInt32) :: rest)) Q kc ks) : GoW p e below T (mkF m pc Ls (.long x :: rest)) Q kc ks :=
  GoW.step (fun _ => XT.l2i X.here hx (g := mkF m pc Ls (.long x :: rest)) rfl hd rfl) k
theorem GoW.iconst {i : Int} (X : Stand p l e R s m args below meth c T locs cells slots) (hx : p.tables.exec = Jvm.exec) (hd : decode c.code pc = .ok (.iconst i, 1)) (k : GoW p e below T (mkF m (pc + 1) Ls (.int (Int32.ofInt i) :: rest)) Q kc ks) : GoW p e below T (mkF m pc Ls rest) Q kc ks :=
  GoW.step (fun _ => XS.iconst X.here hx (g := mkF m pc Ls rest) rfl hd) k
theorem GoW.bipush {i : Int} (X : Stand p l e R s m args below meth c T locs cells slots) (hx : p.tables.exec = Jvm.exec) (hd : decode c.code pc = .ok (.bipush i, 2)) (k : GoW p e below T (mkF m (pc + 2) Ls (.int (Int8.ofInt i).toInt32 :: rest)) Q kc ks) : GoW p e below T (mkF m pc Ls rest) Q kc ks :=
  GoW.step (fun _ => XS.bipush X.here hx (g := mkF m pc Ls rest) rfl hd) k
theorem GoW.sipush {i : Int} (X : Stand p l e R s m args below meth c T locs cells slots) (hx : p.tables.exec = Jvm.exec) (hd : decode c.code pc = .ok (.sipush i, 3)) (k : GoW p e below T (mkF m (pc + 3) Ls (.int (Int16.ofInt i).toInt32 :: rest)) Q kc ks) : GoW p e below T (mkF m pc Ls rest) Q kc ks :=
  GoW.step (fun _ => XS.sipush X.here hx (g := mkF m pc Ls rest) rfl hd) k
theorem GoW.lconst {k0 : Fin 2} (X : Stand p l e R s m args below meth c T locs cells slots) (hx : p.tables.exec = Jvm.exec) (hd : decode c.code pc = .ok (.lconst k0, 1)) (k : GoW p e below T (mkF m (pc + 1) Ls (.long (Int64.ofNat k0) :: rest)) Q kc ks) : GoW p e below T (mkF m pc Ls rest) Q kc ks :=
  GoW.step (fun _ => XT.lconst X.here hx (g := mkF m pc Ls rest) rfl hd) k
theorem GoW.aconst_null (X : Stand p l e R s m args below meth c T locs cells slots) (hx : p.tables.exec = Jvm.exec) (hd : decode c.code pc = .ok (.aconst_null, 1)) (k : GoW p e below T (mkF m (pc + 1) Ls (.null :: rest)) Q kc ks) : GoW p e below T (mkF m pc Ls rest) Q kc ks :=
  GoW.step (fun _ => XS.aconstNull X.here hx (g := mkF m pc Ls rest) rfl hd) k
theorem GoW.iload {k0 : Nat} {v : Int32} (X : Stand p l e R s m args below meth c T locs cells slots) (hx : p.tables.exec = Jvm.exec) (hd : decode c.code pc = .ok (.iload k0, 2)) (hl : Ls[k0]? = some (.val (.int v))) (k : GoW p e below T (mkF m (pc + 2) Ls (.int v :: rest)) Q kc ks) : GoW p e below T (mkF m pc Ls rest) Q kc ks :=
  GoW.step (fun _ => XS.iload X.here hx (g := mkF m pc Ls rest) rfl hd hl) k
theorem GoW.iloadN {k0 : Fin 4} {v : Int32} (X : Stand p l e R s m args below meth c T locs cells slots) (hx : p.tables.exec = Jvm.exec) (hd : decode c.code pc = .ok (.iload_n k0, 1)) (hl : Ls[k0.val]? = some (.val (.int v))) (k : GoW p e below T (mkF m (pc + 1) Ls (.int v :: rest)) Q kc ks) : GoW p e below T (mkF m pc Ls rest) Q kc ks :=
  GoW.step (fun _ => XS.iloadN X.here hx (g := mkF m pc Ls rest) rfl hd hl) k
theorem GoW.istore {k0 : Nat} {v : Int32} {l' : Array Slot} (X : Stand p l e R s m args below meth c T locs cells slots) (hx : p.tables.exec = Jvm.exec) (hd : decode c.code pc = .ok (.istore k0, 2)) (hl : storeLocals Ls k0 (.int v) = some l') (k : GoW p e below T (mkF m (pc + 2) l' rest) Q kc ks) : GoW p e below T (mkF m pc Ls (.int v :: rest)) Q kc ks :=
  GoW.step (fun _ => XS.istore X.here hx (g := mkF m pc Ls (.int v :: rest)) rfl hd rfl hl) k
theorem GoW.istoreN {k0 : Fin 4} {v : Int32} {l' : Array Slot} (X : Stand p l e R s m args below meth c T locs cells slots) (hx : p.tables.exec = Jvm.exec) (hd : decode c.code pc = .ok (.istore_n k0, 1)) (hl : storeLocals Ls k0.val (.int v) = some l') (k : GoW p e below T (mkF m (pc + 1) l' rest) Q kc ks) : GoW p e below T (mkF m pc Ls (.int v :: rest)) Q kc ks :=
  GoW.step (fun _ => XS.istoreN X.here hx (g := mkF m pc Ls (.int v :: rest)) rfl hd rfl hl) k
theorem GoW.lload {k0 : Nat} {v : Int64} (X : Stand p l e R s m args below meth c T locs cells slots) (hx : p.tables.exec = Jvm.exec) (hd : decode c.code pc = .ok (.lload k0, 2)) (hl : Ls[k0]? = some (.val (.long v))) (k : GoW p e below T (mkF m (pc + 2) Ls (.long v :: rest)) Q kc ks) : GoW p e below T (mkF m pc Ls rest) Q kc ks :=
  GoW.step (fun _ => XT.lload X.here hx (g := mkF m pc Ls rest) rfl hd hl) k
theorem GoW.lloadN {k0 : Fin 4} {v : Int64} (X : Stand p l e R s m args below meth c T locs cells slots) (hx : p.tables.exec = Jvm.exec) (hd : decode c.code pc = .ok (.lload_n k0, 1)) (hl : Ls[k0.val]? = some (.val (.long v))) (k : GoW p e below T (mkF m (pc + 1) Ls (.long v :: rest)) Q kc ks) : GoW p e below T (mkF m pc Ls rest) Q kc ks :=
  GoW.step (fun _ => XT.lloadN X.here hx (g := mkF m pc Ls rest) rfl hd hl) k
theorem GoW.lstore {k0 : Nat} {v : Int64} {l' : Array Slot} (X : Stand p l e R s m args below meth c T locs cells slots) (hx : p.tables.exec = Jvm.exec) (hd : decode c.code pc = .ok (.lstore k0, 2)) (hl : storeLocals Ls k0 (.long v) = some l') (k : GoW p e below T (mkF m (pc + 2) l' rest) Q kc ks) : GoW p e below T (mkF m pc Ls (.long v :: rest)) Q kc ks :=
  GoW.step (fun _ => XT.lstore X.here hx (g := mkF m pc Ls (.long v :: rest)) rfl hd rfl hl) k
theorem GoW.lstoreN {k0 : Fin 4} {v : Int64} {l' : Array Slot} (X : Stand p l e R s m args below meth c T locs cells slots) (hx : p.tables.exec = Jvm.exec) (hd : decode c.code pc = .ok (.lstore_n k0, 1)) (hl : storeLocals Ls k0.val (.long v) = some l') (k : GoW p e below T (mkF m (pc + 1) l' rest) Q kc ks) : GoW p e below T (mkF m pc Ls (.long v :: rest)) Q kc ks :=
  GoW.step (fun _ => XT.lstoreN X.here hx (g := mkF m pc Ls (.long v :: rest)) rfl hd rfl hl) k
theorem GoW.aload {k0 : Nat} {v : Value} (X : Stand p l e R s m args below meth c T locs cells slots) (hx : p.tables.exec = Jvm.exec) (hd : decode c.code pc = .ok (.aload k0, 2)) (hl : Ls[k0]? = some (.val v)) (hv : v.isRef = true) (k : GoW p e below T (mkF m (pc + 2) Ls (v :: rest)) Q kc ks) : GoW p e below T (mkF m pc Ls rest) Q kc ks :=
  GoW.step (fun _ => XS.aload X.here hx (g := mkF m pc Ls rest) rfl hd hl hv) k
theorem GoW.aloadN {k0 : Fin 4} {v : Value} (X : Stand p l e R s m args below meth c T locs cells slots) (hx : p.tables.exec = Jvm.exec) (hd : decode c.code pc = .ok (.aload_n k0, 1)) (hl : Ls[k0.val]? = some (.val v)) (hv : v.isRef = true) (k : GoW p e below T (mkF m (pc + 1) Ls (v :: rest)) Q kc ks) : GoW p e below T (mkF m pc Ls rest) Q kc ks :=
  GoW.step (fun _ => XS.aloadN X.here hx (g := mkF m pc Ls rest) rfl hd hl hv) k
theorem GoW.astore {k0 : Nat} {v : Value} {l' : Array Slot} (X : Stand p l e R s m args below meth c T locs cells slots) (hx : p.tables.exec = Jvm.exec) (hd : decode c.code pc = .ok (.astore k0, 2)) (hv : v.isRef = true) (hl : storeLocals Ls k0 v = some l') (k : GoW p e below T (mkF m (pc + 2) l' rest) Q kc ks) : GoW p e below T (mkF m pc Ls (v :: rest)) Q kc ks :=
  GoW.step (fun _ => XS.astore X.here hx (g := mkF m pc Ls (v :: rest)) rfl hd rfl hv hl) k
theorem GoW.astoreN {k0 : Fin 4} {v : Value} {l' : Array Slot} (X : Stand p l e R s m args below meth c T locs cells slots) (hx : p.tables.exec = Jvm.exec) (hd : decode c.code pc = .ok (.astore_n k0, 1)) (hv : v.isRef = true) (hl : storeLocals Ls k0.val v = some l') (k : GoW p e below T (mkF m (pc + 1) l' rest) Q kc ks) : GoW p e below T (mkF m pc Ls (v :: rest)) Q kc ks :=
  GoW.step (fun _ => XS.astoreN X.here hx (g := mkF m pc Ls (v :: rest)) rfl hd rfl hv hl) k
theorem GoW.iinc {k0 : Nat} {cst : Int} {x : Int32} {l' : Array Slot} (X : Stand p l e R s m args below meth c T locs cells slots) (hx : p.tables.exec = Jvm.exec) (hd : decode c.code pc = .ok (.iinc k0 cst, 3)) (hl : Ls[k0]? = some (.val (.int x))) (hs : storeLocals Ls k0 (.int (x + Int32.ofInt cst)) = some l') (k : GoW p e below T (mkF m (pc + 3) l' rest) Q kc ks) : GoW p e below T (mkF m pc Ls rest) Q kc ks :=
  GoW.step (fun _ => XS.iinc X.here hx (g := mkF m pc Ls rest) rfl hd hl hs) k
theorem GoW.dup {v : Value} (X : Stand p l e R s m args below meth c T locs cells slots) (hx : p.tables.exec = Jvm.exec) (hd : decode c.code pc = .ok (.dup, 1)) (hv : v.category = 1) (k : GoW p e below T (mkF m (pc + 1) Ls (v :: v :: rest)) Q kc ks) : GoW p e below T (mkF m pc Ls (v :: rest)) Q kc ks :=
  GoW.step (fun _ => XS.dup X.here hx (g := mkF m pc Ls (v :: rest)) rfl hd rfl hv) k
theorem GoW.pop {v : Value} (X : Stand p l e R s m args below meth c T locs cells slots) (hx : p.tables.exec = Jvm.exec) (hd : decode c.code pc = .ok (.pop, 1)) (hv : v.category = 1) (k : GoW p e below T (mkF m (pc + 1) Ls rest) Q kc ks) : GoW p e below T (mkF m pc Ls (v :: rest)) Q kc ks :=
  GoW.step (fun _ => XT.pop X.here hx (g := mkF m pc Ls (v :: rest)) rfl hd rfl hv) k
theorem GoW.dup_x1 {v w : Value} (X : Stand p l e R s m args below meth c T locs cells slots) (hx : p.tables.exec = Jvm.exec) (hd : decode c.code pc = .ok (.dup_x1, 1)) (hv : v.category = 1) (hw' : w.category = 1) (k : GoW p e below T (mkF m (pc + 1) Ls (v :: w :: v :: rest)) Q kc ks) : GoW p e below T (mkF m pc Ls (v :: w :: rest)) Q kc ks :=
  GoW.step (fun _ => XT.dupX1 X.here hx (g := mkF m pc Ls (v :: w :: rest)) rfl hd rfl hv hw') k
theorem GoW.dup2 {v w : Value} (X : Stand p l e R s m args below meth c T locs cells slots) (hx : p.tables.exec = Jvm.exec) (hd : decode c.code pc = .ok (.dup2, 1)) (hv : v.category = 1) (hw' : w.category = 1) (k : GoW p e below T (mkF m (pc + 1) Ls (v :: w :: v :: w :: rest)) Q kc ks) : GoW p e below T (mkF m pc Ls (v :: w :: rest)) Q kc ks :=
  GoW.step (fun _ => XT.dup2 X.here hx (g := mkF m pc Ls (v :: w :: rest)) rfl hd rfl hv hw') k
theorem GoW.goto {o : Int} {pc' : Nat} (X : Stand p l e R s m args below meth c T locs cells slots) (hx : p.tables.exec = Jvm.exec) (hd : decode c.code pc = .ok (.goto o, 3)) (ho : 0 ≤ (pc : Int) + o) (hp : ((pc : Int) + o).toNat = pc') (k : GoW p e below T (mkF m pc' Ls rest) Q kc ks) : GoW p e below T (mkF m pc Ls rest) Q kc ks :=
  GoW.step (fun _ => XS.goto X.here hx (g := mkF m pc Ls rest) rfl rfl hd ho hp) k
theorem GoW.ifYes {cd : ClassFile.Cond} {x : Int32} {o : Int} {pc' : Nat} (X : Stand p l e R s m args below meth c T locs cells slots) (hx : p.tables.exec = Jvm.exec) (hd : decode c.code pc = .ok (.ifCond cd o, 3)) (hc : ifCond.holds cd x = true) (ho : 0 ≤ (pc : Int) + o) (hp : ((pc : Int) + o).toNat = pc') (k : GoW p e below T (mkF m pc' Ls rest) Q kc ks) : GoW p e below T (mkF m pc Ls (.int x :: rest)) Q kc ks :=
  GoW.step (fun _ => XS.ifYes X.here hx (g := mkF m pc Ls (.int x :: rest)) rfl rfl hd rfl hc ho hp) k
theorem GoW.ifNo {cd : ClassFile.Cond} {x : Int32} {o : Int} (X : Stand p l e R s m args below meth c T locs cells slots) (hx : p.tables.exec = Jvm.exec) (hd : decode c.code pc = .ok (.ifCond cd o, 3)) (hc : ifCond.holds cd x = false) (k : GoW p e below T (mkF m (pc + 3) Ls rest) Q kc ks) : GoW p e below T (mkF m pc Ls (.int x :: rest)) Q kc ks :=
  GoW.step (fun _ => XS.ifNo X.here hx (g := mkF m pc Ls (.int x :: rest)) rfl hd rfl hc) k
theorem GoW.icmpYes {cd : ClassFile.Cond} {x y : Int32} {o : Int} {pc' : Nat} (X : Stand p l e R s m args below meth c T locs cells slots) (hx : p.tables.exec = Jvm.exec) (hd : decode c.code pc = .ok (.if_icmp cd o, 3)) (hc : if_icmp.holds cd x y = true) (ho : 0 ≤ (pc : Int) + o) (hp : ((pc : Int) + o).toNat = pc') (k : GoW p e below T (mkF m pc' Ls rest) Q kc ks) : GoW p e below T (mkF m pc Ls (.int y :: .int x :: rest)) Q kc ks :=
  GoW.step (fun _ => XS.icmpYes X.here hx (g := mkF m pc Ls (.int y :: .int x :: rest)) rfl rfl hd rfl hc ho hp) k
theorem GoW.icmpNo {cd : ClassFile.Cond} {x y : Int32} {o : Int} (X : Stand p l e R s m args below meth c T locs cells slots) (hx : p.tables.exec = Jvm.exec) (hd : decode c.code pc = .ok (.if_icmp cd o, 3)) (hc : if_icmp.holds cd x y = false) (k : GoW p e below T (mkF m (pc + 3) Ls rest) Q kc ks) : GoW p e below T (mkF m pc Ls (.int y :: .int x :: rest)) Q kc ks :=
  GoW.step (fun _ => XS.icmpNo X.here hx (g := mkF m pc Ls (.int y :: .int x :: rest)) rfl hd rfl hc) k
theorem GoW.acmpYes {cd : ClassFile.ACond} {x y : Value} {o : Int} {pc' : Nat} (X : Stand p l e R s m args below meth c T locs cells slots) (hx : p.tables.exec = Jvm.exec) (hd : decode c.code pc = .ok (.if_acmp cd o, 3)) (h1 : x.isRef = true) (h2 : y.isRef = true) (hc : XT.acmp cd x y = true) (ho : 0 ≤ (pc : Int) + o) (hp : ((pc : Int) + o).toNat = pc') (k : GoW p e below T (mkF m pc' Ls rest) Q kc ks) : GoW p e below T (mkF m pc Ls (y :: x :: rest)) Q kc ks :=
  GoW.step (fun _ => XT.acmpYes X.here hx (g := mkF m pc Ls (y :: x :: rest)) rfl rfl hd rfl h1 h2 hc ho hp) k
theorem GoW.acmpNo {cd : ClassFile.ACond} {x y : Value} {o : Int} (X : Stand p l e R s m args below meth c T locs cells slots) (hx : p.tables.exec = Jvm.exec) (hd : decode c.code pc = .ok (.if_acmp cd o, 3)) (h1 : x.isRef = true) (h2 : y.isRef = true) (hc : XT.acmp cd x y = false) (k : GoW p e below T (mkF m (pc + 3) Ls rest) Q kc ks) : GoW p e below T (mkF m pc Ls (y :: x :: rest)) Q kc ks :=
  GoW.step (fun _ => XT.acmpNo X.here hx (g := mkF m pc Ls (y :: x :: rest)) rfl hd rfl h1 h2 hc) k
theorem GoW.ifnullYes {a : Addr} {o : Int} {pc' : Nat} (X : Stand p l e R s m args below meth c T locs cells slots) (hx : p.tables.exec = Jvm.exec) (hd : decode c.code pc = .ok (.ifnull o, 3)) (ho : 0 ≤ (pc : Int) + o) (hp : ((pc : Int) + o).toNat = pc') (k : GoW p e below T (mkF m pc' Ls rest) Q kc ks) : GoW p e below T (mkF m pc Ls (.null :: rest)) Q kc ks :=
  GoW.step (fun _ => XS.ifnullYes X.here hx (g := mkF m pc Ls (.null :: rest)) rfl rfl hd rfl ho hp) k
theorem GoW.ifnullNo {a : Addr} {o : Int} (X : Stand p l e R s m args below meth c T locs cells slots) (hx : p.tables.exec = Jvm.exec) (hd : decode c.code pc = .ok (.ifnull o, 3)) (k : GoW p e below T (mkF m (pc + 3) Ls rest) Q kc ks) : GoW p e below T (mkF m pc Ls (.ref a :: rest)) Q kc ks :=
  GoW.step (fun _ => XS.ifnullNo X.here hx (g := mkF m pc Ls (.ref a :: rest)) rfl hd rfl) k
theorem GoW.ifnonnullYes {a : Addr} {o : Int} {pc' : Nat} (X : Stand p l e R s m args below meth c T locs cells slots) (hx : p.tables.exec = Jvm.exec) (hd : decode c.code pc = .ok (.ifnonnull o, 3)) (ho : 0 ≤ (pc : Int) + o) (hp : ((pc : Int) + o).toNat = pc') (k : GoW p e below T (mkF m pc' Ls rest) Q kc ks) : GoW p e below T (mkF m pc Ls (.ref a :: rest)) Q kc ks :=
  GoW.step (fun _ => XT.ifnonnullYes X.here hx (g := mkF m pc Ls (.ref a :: rest)) rfl rfl hd rfl ho hp) k
theorem GoW.ifnonnullNo {a : Addr} {o : Int} (X : Stand p l e R s m args below meth c T locs cells slots) (hx : p.tables.exec = Jvm.exec) (hd : decode c.code pc = .ok (.ifnonnull o, 3)) (k : GoW p e below T (mkF m (pc + 3) Ls rest) Q kc ks) : GoW p e below T (mkF m pc Ls (.null :: rest)) Q kc ks :=
  GoW.step (fun _ => XT.ifnonnullNo X.here hx (g := mkF m pc Ls (.null :: rest)) rfl hd rfl) k
theorem GoW.getF {own R0 O n d : String} {index : Nat} {a : Addr} {v : Value} (X : Stand p l e R s m args below meth c T locs cells slots) (hx : p.tables.exec = Jvm.exec) (hZ : Z.Warmed39 s.vm) (hown : s.vm.findClass own = some m.cls) (w : (Jvm.Cond.fieldLink own index R0 n d).before a0 Z = true) (via : Via Z R0 O n d) (eT : T.heap = h) (F : Fld Z h a O n d v) (hd : decode c.code pc = .ok (.getfield index, 3))
    (k : ∀ T', Stand p l e R s m args below meth c T' locs cells slots → T'.heap = h → GoW p e below T' (mkF m (pc + 3) Ls (v :: rest)) Q kc ks) : GoW p e below T (mkF m pc Ls (.ref a :: rest)) Q kc ks := by
  obtain ⟨T', X', e', st⟩ := RoadKit.getF X hx hZ hown (host := "") (Or.inl w) via eT F (g := mkF m pc Ls (.ref a :: rest)) rfl rfl hd
  exact GoW.step st (k T' X' e')
theorem GoW.getS {own R0 O n d : String} {index : Nat} {v : Value} (X : Stand p l e R s m args below meth c T locs cells slots) (hx : p.tables.exec = Jvm.exec) (hZ : Z.Warmed39 s.vm) (hown : s.vm.findClass own = some m.cls) (w : (Jvm.Cond.fieldLink own index R0 n d).before a0 Z = true) (via : Via Z R0 O n d) (eT : T.heap = h) (F : Sta Z h O n d v) (hd : decode c.code pc = .ok (.getstatic index, 3))
    (k : ∀ T', Stand p l e R s m args below meth c T' locs cells slots → T'.heap = h → GoW p e below T' (mkF m (pc + 3) Ls (v :: rest)) Q kc ks) : GoW p e below T (mkF m pc Ls rest) Q kc ks := by
  obtain ⟨T', X', e', st⟩ := RoadKit.getS X hx hZ hown (host := "") w via eT F (g := mkF m pc Ls rest) rfl hd
  exact GoW.step st (k T' X' e')
theorem GoW.putF {own R0 O n d C : String} {index kk : Nat} {ty : FieldType} {a : Addr} {v old : Value} (X : Stand p l e R s m args below meth c T locs cells slots) (hx : p.tables.exec = Jvm.exec) (hZ : Z.Warmed39 s.vm) (hown : s.vm.findClass own = some m.cls) (w : (Jvm.Cond.fieldLink own index R0 n d).before a0 Z = true) (via : Via Z R0 O n d) (eT : T.heap = h) (F : Fld Z h a O n d old) (E : Exa Z h a C)
    (L : (Jvm.Cond.lays C O n d).before a0 Z = true ∨ ((Jvm.Cond.laysFinal C O n d).before a0 Z = true ∧ own = O ∧ meth.name = "<init>")) (wi : (Jvm.Cond.instantiable C kk).before a0 Z = true) (hty : parseFieldDescriptor d = some ty) (hn : narrow ty v = v) (hf : fits ty v = true) (hd : decode c.code pc = .ok (.putfield index, 3))
    (k : ∀ T' h', Stand p l e R s m args below meth c T' (locs ++ [⟨a, Jvm.RoadKit.slotOf Z O n d⟩]) cells slots → T'.heap = h' → Wr h h' a (Jvm.RoadKit.slotOf Z O n d) v → GoW p e below T' (mkF m (pc + 3) Ls rest) Q kc ks) : GoW p e below T (mkF m pc Ls (v :: .ref a :: rest)) Q kc ks := by
  obtain ⟨T', h', X', e', W, st⟩ := RoadKit.putF X hx hZ hown (host := "") (Or.inl w) via eT F E L wi hty hn hf (g := mkF m pc Ls (v :: .ref a :: rest)) rfl rfl hd
  exact GoW.step st (k T' h' X' e' W)
theorem GoW.initO {own : String} {idx : Nat} {W : Nat} {a : Addr} (X : Stand p l e R s m args below meth c T locs cells slots) (hx : p.tables.exec = Jvm.exec) (hZ : Z.Warmed39 s.vm) (hown : s.vm.findClass own = some m.cls) (w1 : (Jvm.Cond.methodLink own idx Lib.objectInit).before a0 Z = true) (w2 : (Jvm.Cond.instanceMethod Lib.objectInit).before a0 Z = true)
    (w3 : (Jvm.Cond.code Lib.objectInit ⟨#[0xb1]⟩ 1 none).before a0 Z = true) (eT : T.heap = h) (hd : decode c.code pc = .ok (.invokespecial idx, 3)) (hsize : Ls.size = c.maxLocals) (hW : (rest.map fun v => v.category).sum ≤ W) (hf : 1 ≤ R.frames) (hl : W + 12 ≤ R.locals)
    (k : ∀ T', Stand p l e R s m args below meth c T' locs cells slots → T'.heap = h → GoW p e below T' (mkF m (pc + 3) Ls rest) Q kc ks) : GoW p e below T (mkF m pc Ls (.ref a :: rest)) Q kc ks := by
  obtain ⟨T', X', e', st⟩ := RoadKit.initO X hx hZ hown w1 w2 w3 eT (g := mkF m pc Ls (.ref a :: rest)) rfl hsize rfl hd hf (W := W) (by show 2 * 0 + _ ≤ _; omega) hl
  exact GoW.step st (k T' X' e')
theorem GoW.newO {own C : String} {index n : Nat} (X : Stand p l e R s m args below meth c T locs cells slots) (hx : p.tables.exec = Jvm.exec) (hZ : Z.Warmed39 s.vm) (hown : s.vm.findClass own = some m.cls) (w : (Jvm.Cond.classLink own index C).before a0 Z = true) (wi : (Jvm.Cond.instantiable C n).before a0 Z = true) (wz : (Jvm.Cond.initialized C).before a0 Z = true) (eT : T.heap = h)
    (hd : decode c.code pc = .ok (.new index, 3)) (hc : cells + 1 ≤ R.cells) (hl : slots + n ≤ R.slots)
    (k : ∀ T' h' a, a = h.size → Stand p l e R s m args below meth c T' locs (cells + 1) (slots + n) → T'.heap = h' → Ext h h' → Exa Z h' a C → (∀ {O nm d : String} {ty : FieldType}, Laid Z a0 C O nm d → parseFieldDescriptor d = some ty → Fld Z h' a O nm d (defaultValue ty)) →
      GoW p e below T' (mkF m (pc + 3) Ls (.ref a :: rest)) Q kc ks) : GoW p e below T (mkF m pc Ls rest) Q kc ks := by
  obtain ⟨T', h', X', e', E, A, D, -, st⟩ := RoadKit.newO X hx hZ hown w wi wz eT (g := mkF m pc Ls rest) rfl hd hc hl
  exact GoW.step st (k T' h' _ rfl X' e' E A D)
theorem GoW.ccast {own K : String} {index : Nat} {a : Addr} (X : Stand p l e R s m args below meth c T locs cells slots) (hx : p.tables.exec = Jvm.exec) (hZ : Z.Warmed39 s.vm) (hown : s.vm.findClass own = some m.cls) (w : (Jvm.Cond.classLink own index K).before a0 Z = true) (eT : T.heap = h) (F : Ins Z h a K true) (hd : decode c.code pc = .ok (.checkcast index, 3))
    (k : ∀ T', Stand p l e R s m args below meth c T' locs cells slots → T'.heap = h → GoW p e below T' (mkF m (pc + 3) Ls (.ref a :: rest)) Q kc ks) : GoW p e below T (mkF m pc Ls (.ref a :: rest)) Q kc ks := by
  obtain ⟨T', X', e', st⟩ := castY X hx hZ hown w eT F (g := mkF m pc Ls (.ref a :: rest)) rfl rfl hd
  exact GoW.step st (k T' X' e')
theorem GoW.instY {own K : String} {index : Nat} {a : Addr} (X : Stand p l e R s m args below meth c T locs cells slots) (hx : p.tables.exec = Jvm.exec) (hZ : Z.Warmed39 s.vm) (hown : s.vm.findClass own = some m.cls) (w : (Jvm.Cond.classLink own index K).before a0 Z = true) (eT : T.heap = h) (F : Ins Z h a K true) (hd : decode c.code pc = .ok (.instanceof index, 3))
    (k : ∀ T', Stand p l e R s m args below meth c T' locs cells slots → T'.heap = h → GoW p e below T' (mkF m (pc + 3) Ls (.int 1 :: rest)) Q kc ks) : GoW p e below T (mkF m pc Ls (.ref a :: rest)) Q kc ks := by
  obtain ⟨T', X', e', st⟩ := RoadKit.instY X hx hZ hown w eT F (g := mkF m pc Ls (.ref a :: rest)) rfl rfl hd
  exact GoW.step st (k T' X' e')
theorem GoW.instNull {index : Nat} (X : Stand p l e R s m args below meth c T locs cells slots) (hx : p.tables.exec = Jvm.exec) (hd : decode c.code pc = .ok (.instanceof index, 3))
    (k : GoW p e below T (mkF m (pc + 3) Ls (.int 0 :: rest)) Q kc ks) : GoW p e below T (mkF m pc Ls (.null :: rest)) Q kc ks :=
  GoW.step (X.instanceofNull hx (g := mkF m pc Ls (.null :: rest)) rfl rfl hd) k
theorem GoW.instNo {own K C : String} {index : Nat} {a : Addr} (X : Stand p l e R s m args below meth c T locs cells slots) (hx : p.tables.exec = Jvm.exec) (hZ : Z.Warmed39 s.vm) (hown : s.vm.findClass own = some m.cls) (w : (Jvm.Cond.classLink own index K).before a0 Z = true) (eT : T.heap = h) (E : Exa Z h a C) (F : ∃ c t, Z.vm.findClass C = some c ∧ Z.vm.findClass K = some t ∧ Z.vm.assignable c t = false) (hd : decode c.code pc = .ok (.instanceof index, 3))
    (k : ∀ T', Stand p l e R s m args below meth c T' locs cells slots → T'.heap = h → GoW p e below T' (mkF m (pc + 3) Ls (.int 0 :: rest)) Q kc ks) : GoW p e below T (mkF m pc Ls (.ref a :: rest)) Q kc ks := by
  obtain ⟨T', X', e', st⟩ := RoadKit.instNo X hx hZ hown w eT E F (g := mkF m pc Ls (.ref a :: rest)) rfl rfl hd
  exact GoW.step st (k T' X' e')
theorem GoW.alen (X : Stand p l e R s m args below meth c T locs cells slots) (hx : p.tables.exec = Jvm.exec) (hZ : Z.Warmed39 s.vm) (eT : T.heap = h) (A : Af Z h a cid ty n f) (hd : decode c.code pc = .ok (.arraylength, 1)) (k : GoW p e below T (mkF m (pc + 1) Ls (.int n.toInt32 :: rest)) Q kc ks) : GoW p e below T (mkF m pc Ls (.ref a :: rest)) Q kc ks := by
  obtain ⟨cl, A1, -, r2, -⟩ := A
  subst r2
  exact GoW.step (fun target => X.arraylength hx (by rw [eT]; exact A1.1) (State.isArrayOf_alike hZ.alike A1.2.1) (g := mkF m pc Ls (.ref a :: rest)) rfl rfl hd target) k
theorem GoW.iaload {j : Int32} (X : Stand p l e R s m args below meth c T locs cells slots) (hx : p.tables.exec = Jvm.exec) (hZ : Z.Warmed39 s.vm) (eT : T.heap = h) (A : Af Z h a cid .int n f) (h1 : ¬ j < 0) (h2 : j.toNatClampNeg < n) (hd : decode c.code pc = .ok (.iaload, 1)) (k : GoW p e below T (mkF m (pc + 1) Ls (f j.toNatClampNeg :: rest)) Q kc ks) : GoW p e below T (mkF m pc Ls (.int j :: .ref a :: rest)) Q kc ks := by
  obtain ⟨cl, A1, -, r2, -, r4⟩ := A
  exact GoW.step (fun target => X.iaload hx (by rw [eT]; exact A1.1) (State.isArrayOf_alike hZ.alike A1.2.1) A1.2.2 (in_of r2 h1 h2) (r4 _ h2) (g := mkF m pc Ls (.int j :: .ref a :: rest)) rfl rfl hd target) k
theorem GoW.laload {j : Int32} (X : Stand p l e R s m args below meth c T locs cells slots) (hx : p.tables.exec = Jvm.exec) (hZ : Z.Warmed39 s.vm) (eT : T.heap = h) (A : Af Z h a cid .long n f) (h1 : ¬ j < 0) (h2 : j.toNatClampNeg < n) (hd : decode c.code pc = .ok (.laload, 1)) (k : GoW p e below T (mkF m (pc + 1) Ls (f j.toNatClampNeg :: rest)) Q kc ks) : GoW p e below T (mkF m pc Ls (.int j :: .ref a :: rest)) Q kc ks := by
  obtain ⟨cl, A1, -, r2, -, r4⟩ := A
  exact GoW.step (fun target => X.laload hx (by rw [eT]; exact A1.1) (State.isArrayOf_alike hZ.alike A1.2.1) A1.2.2 (in_of r2 h1 h2) (r4 _ h2) (g := mkF m pc Ls (.int j :: .ref a :: rest)) rfl rfl hd target) k
theorem GoW.caload {j : Int32} (X : Stand p l e R s m args below meth c T locs cells slots) (hx : p.tables.exec = Jvm.exec) (hZ : Z.Warmed39 s.vm) (eT : T.heap = h) (A : Af Z h a cid .char n f) (h1 : ¬ j < 0) (h2 : j.toNatClampNeg < n) (hd : decode c.code pc = .ok (.caload, 1)) (k : GoW p e below T (mkF m (pc + 1) Ls (f j.toNatClampNeg :: rest)) Q kc ks) : GoW p e below T (mkF m pc Ls (.int j :: .ref a :: rest)) Q kc ks := by
  obtain ⟨cl, A1, -, r2, -, r4⟩ := A
  exact GoW.step (fun target => X.caload hx (by rw [eT]; exact A1.1) (State.isArrayOf_alike hZ.alike A1.2.1) A1.2.2 (in_of r2 h1 h2) (r4 _ h2) (g := mkF m pc Ls (.int j :: .ref a :: rest)) rfl rfl hd target) k
theorem GoW.aaload {j : Int32} (X : Stand p l e R s m args below meth c T locs cells slots) (hx : p.tables.exec = Jvm.exec) (hZ : Z.Warmed39 s.vm) (eT : T.heap = h) (A : Af Z h a cid ty n f) (hty : ty.isReference = true) (h1 : ¬ j < 0) (h2 : j.toNatClampNeg < n) (hd : decode c.code pc = .ok (.aaload, 1)) (k : GoW p e below T (mkF m (pc + 1) Ls (f j.toNatClampNeg :: rest)) Q kc ks) : GoW p e below T (mkF m pc Ls (.int j :: .ref a :: rest)) Q kc ks := by
  obtain ⟨cl, A1, -, r2, -, r4⟩ := A
  exact GoW.step (fun target => X.aaload hx (by rw [eT]; exact A1.1) (State.isArrayOf_alike hZ.alike A1.2.1) hty A1.2.2 (in_of r2 h1 h2) (r4 _ h2) (g := mkF m pc Ls (.int j :: .ref a :: rest)) rfl rfl hd target) k
theorem GoW.baloadB {j : Int32} (X : Stand p l e R s m args below meth c T locs cells slots) (hx : p.tables.exec = Jvm.exec) (hZ : Z.Warmed39 s.vm) (eT : T.heap = h) (A : Af Z h a cid .byte n f) (h1 : ¬ j < 0) (h2 : j.toNatClampNeg < n) (hd : decode c.code pc = .ok (.baload, 1)) (k : GoW p e below T (mkF m (pc + 1) Ls (f j.toNatClampNeg :: rest)) Q kc ks) : GoW p e below T (mkF m pc Ls (.int j :: .ref a :: rest)) Q kc ks := by
  obtain ⟨cl, A1, -, r2, -, r4⟩ := A
  exact GoW.step (fun target => X.baloadBytes hx (by rw [eT]; exact A1.1) (State.isArrayOf_alike hZ.alike A1.2.1) A1.2.2 (in_of r2 h1 h2) (r4 _ h2) (g := mkF m pc Ls (.int j :: .ref a :: rest)) rfl rfl hd target) k
theorem GoW.baloadZ {j : Int32} (X : Stand p l e R s m args below meth c T locs cells slots) (hx : p.tables.exec = Jvm.exec) (hZ : Z.Warmed39 s.vm) (eT : T.heap = h) (A : Af Z h a cid .boolean n f) (h1 : ¬ j < 0) (h2 : j.toNatClampNeg < n) (hd : decode c.code pc = .ok (.baload, 1)) (k : GoW p e below T (mkF m (pc + 1) Ls (f j.toNatClampNeg :: rest)) Q kc ks) : GoW p e below T (mkF m pc Ls (.int j :: .ref a :: rest)) Q kc ks := by
  obtain ⟨cl, A1, -, r2, -, r4⟩ := A
  exact GoW.step (fun target => X.baloadBooleans hx (by rw [eT]; exact A1.1) (State.isArrayOf_alike hZ.alike A1.2.1) A1.2.2 (in_of r2 h1 h2) (r4 _ h2) (g := mkF m pc Ls (.int j :: .ref a :: rest)) rfl rfl hd target) k
theorem GoW.iastore {j x : Int32} (X : Stand p l e R s m args below meth c T locs cells slots) (hx : p.tables.exec = Jvm.exec) (hZ : Z.Warmed39 s.vm) (eT : T.heap = h) (A : Af Z h a cid .int n f) (h1 : ¬ j < 0) (h2 : j.toNatClampNeg < n) (hd : decode c.code pc = .ok (.iastore, 1))
    (k : ∀ T' h', Stand p l e R s m args below meth c T' (locs ++ [⟨a, j.toNatClampNeg⟩]) cells slots → T'.heap = h' → Wr h h' a j.toNatClampNeg (.int x) → Af Z h' a cid .int n (updV f j.toNatClampNeg (.int x)) → GoW p e below T' (mkF m (pc + 1) Ls rest) Q kc ks) : GoW p e below T (mkF m pc Ls (.int x :: .int j :: .ref a :: rest)) Q kc ks := by
  have A' := A
  obtain ⟨cl, A1, -, r2, -, r4⟩ := A
  obtain ⟨T', h', X', e', W, st⟩ := stI X hx hZ eT A1 (in_of r2 h1 h2) (g := mkF m pc Ls (.int x :: .int j :: .ref a :: rest)) rfl rfl hd
  exact GoW.step st (k T' h' X' e' W (A'.set W))
theorem GoW.lastore {j : Int32} {x : Int64} (X : Stand p l e R s m args below meth c T locs cells slots) (hx : p.tables.exec = Jvm.exec) (hZ : Z.Warmed39 s.vm) (eT : T.heap = h) (A : Af Z h a cid .long n f) (h1 : ¬ j < 0) (h2 : j.toNatClampNeg < n) (hd : decode c.code pc = .ok (.lastore, 1))
    (k : ∀ T' h', Stand p l e R s m args below meth c T' (locs ++ [⟨a, j.toNatClampNeg⟩]) cells slots → T'.heap = h' → Wr h h' a j.toNatClampNeg (.long x) → Af Z h' a cid .long n (updV f j.toNatClampNeg (.long x)) → GoW p e below T' (mkF m (pc + 1) Ls rest) Q kc ks) : GoW p e below T (mkF m pc Ls (.long x :: .int j :: .ref a :: rest)) Q kc ks := by
  have A' := A
  obtain ⟨cl, A1, -, r2, -, r4⟩ := A
  obtain ⟨T', h', X', e', W, st⟩ := stJ X hx hZ eT A1 (in_of r2 h1 h2) (g := mkF m pc Ls (.long x :: .int j :: .ref a :: rest)) rfl rfl hd
  exact GoW.step st (k T' h' X' e' W (A'.set W))
theorem GoW.bastoreB {j x : Int32} (X : Stand p l e R s m args below meth c T locs cells slots) (hx : p.tables.exec = Jvm.exec) (hZ : Z.Warmed39 s.vm) (eT : T.heap = h) (A : Af Z h a cid .byte n f) (h1 : ¬ j < 0) (h2 : j.toNatClampNeg < n) (hd : decode c.code pc = .ok (.bastore, 1))
    (k : ∀ T' h', Stand p l e R s m args below meth c T' (locs ++ [⟨a, j.toNatClampNeg⟩]) cells slots → T'.heap = h' → Wr h h' a j.toNatClampNeg (.int x.toInt8.toInt32) → Af Z h' a cid .byte n (updV f j.toNatClampNeg (.int x.toInt8.toInt32)) → GoW p e below T' (mkF m (pc + 1) Ls rest) Q kc ks) : GoW p e below T (mkF m pc Ls (.int x :: .int j :: .ref a :: rest)) Q kc ks := by
  have A' := A
  obtain ⟨cl, A1, -, r2, -, r4⟩ := A
  obtain ⟨T', h', X', e', W, st⟩ := stB X hx hZ eT A1 (in_of r2 h1 h2) (g := mkF m pc Ls (.int x :: .int j :: .ref a :: rest)) rfl rfl hd
  exact GoW.step st (k T' h' X' e' W (A'.set W))
theorem GoW.bastoreZ {j x : Int32} (X : Stand p l e R s m args below meth c T locs cells slots) (hx : p.tables.exec = Jvm.exec) (hZ : Z.Warmed39 s.vm) (eT : T.heap = h) (A : Af Z h a cid .boolean n f) (h1 : ¬ j < 0) (h2 : j.toNatClampNeg < n) (hd : decode c.code pc = .ok (.bastore, 1))
    (k : ∀ T' h', Stand p l e R s m args below meth c T' (locs ++ [⟨a, j.toNatClampNeg⟩]) cells slots → T'.heap = h' → Wr h h' a j.toNatClampNeg (.int (nar .boolean x)) → Af Z h' a cid .boolean n (updV f j.toNatClampNeg (.int (nar .boolean x))) → GoW p e below T' (mkF m (pc + 1) Ls rest) Q kc ks) : GoW p e below T (mkF m pc Ls (.int x :: .int j :: .ref a :: rest)) Q kc ks := by
  have A' := A
  obtain ⟨cl, A1, -, r2, -, r4⟩ := A
  obtain ⟨T', h', X', e', W, st⟩ := stZ X hx hZ eT A1 (in_of r2 h1 h2) (g := mkF m pc Ls (.int x :: .int j :: .ref a :: rest)) rfl rfl hd
  exact GoW.step st (k T' h' X' e' W (A'.set W))
theorem GoW.castore {j x : Int32} (X : Stand p l e R s m args below meth c T locs cells slots) (hx : p.tables.exec = Jvm.exec) (hZ : Z.Warmed39 s.vm) (eT : T.heap = h) (A : Af Z h a cid .char n f) (h1 : ¬ j < 0) (h2 : j.toNatClampNeg < n) (hd : decode c.code pc = .ok (.castore, 1))
    (k : ∀ T' h', Stand p l e R s m args below meth c T' (locs ++ [⟨a, j.toNatClampNeg⟩]) cells slots → T'.heap = h' → Wr h h' a j.toNatClampNeg (.int (nar .char x)) → Af Z h' a cid .char n (updV f j.toNatClampNeg (.int (nar .char x))) → GoW p e below T' (mkF m (pc + 1) Ls rest) Q kc ks) : GoW p e below T (mkF m pc Ls (.int x :: .int j :: .ref a :: rest)) Q kc ks := by
  have A' := A
  obtain ⟨cl, A1, -, r2, -, r4⟩ := A
  obtain ⟨T', h', X', e', W, st⟩ := stC X hx hZ eT A1 (in_of r2 h1 h2) (g := mkF m pc Ls (.int x :: .int j :: .ref a :: rest)) rfl rfl hd
  exact GoW.step st (k T' h' X' e' W (A'.set W))
theorem GoW.aastore {j : Int32} {C : String} {y : Addr} (X : Stand p l e R s m args below meth c T locs cells slots) (hx : p.tables.exec = Jvm.exec) (hZ : Z.Warmed39 s.vm) (eT : T.heap = h) (A : Af Z h a cid ty n f) (hty : ty.isReference = true) (O : Ovr Z cid C) (I : Ins Z h y C true) (h1 : ¬ j < 0) (h2 : j.toNatClampNeg < n) (hd : decode c.code pc = .ok (.aastore, 1))
    (k : ∀ T' h', Stand p l e R s m args below meth c T' (locs ++ [⟨a, j.toNatClampNeg⟩]) cells slots → T'.heap = h' → Wr h h' a j.toNatClampNeg (.ref y) → Af Z h' a cid ty n (updV f j.toNatClampNeg (.ref y)) → GoW p e below T' (mkF m (pc + 1) Ls rest) Q kc ks) : GoW p e below T (mkF m pc Ls (.ref y :: .int j :: .ref a :: rest)) Q kc ks := by
  have A' := A
  obtain ⟨cl, A1, r1, r2, -, r4⟩ := A
  obtain ⟨T', h', X', e', W, st⟩ := stR X hx hZ eT A1 (in_of r2 h1 h2) hty (Sto.ofV A1 r1 O I) (g := mkF m pc Ls (.ref y :: .int j :: .ref a :: rest)) rfl rfl hd
  exact GoW.step st (k T' h' X' e' W (A'.set W))
theorem GoW.newarray {aty : ArrayType} {z : Int32} {cap : Nat} (X : Stand p l e R s m args below meth c T locs cells slots) (hx : p.tables.exec = Jvm.exec) (hZ : Z.Warmed39 s.vm) (w : (Jvm.Cond.arrayClass (newarray.typeOf aty)).before a0 Z = true) (eT : T.heap = h) (hd : decode c.code pc = .ok (.newarray aty, 2)) (hn : ¬ z < 0) (hcap : z.toNatClampNeg ≤ cap) (hb : cap * 8 ≤ 536870912) (hc : cells + 1 ≤ R.cells) (hl : slots + cap ≤ R.slots)
    (k : ∀ T' h' a cA, a = h.size → Stand p l e R s m args below meth c T' locs (cells + 1) (slots + cap) → T'.heap = h' → Ext h h' → Af Z h' a cA (newarray.typeOf aty) z.toNatClampNeg (fun _ => defaultValue (newarray.typeOf aty)) → GoW p e below T' (mkF m (pc + 2) Ls (.ref a :: rest)) Q kc ks) : GoW p e below T (mkF m pc Ls (.int z :: rest)) Q kc ks := by
  obtain ⟨T', h', cA, X', e', E, A, st⟩ := newP X hx hZ w eT (g := mkF m pc Ls (.int z :: rest)) rfl hd rfl hn hcap hb hc hl
  exact GoW.step st (k T' h' _ cA rfl X' e' E (Af.arv A hn))
theorem GoW.anewarray {own C : String} {index : Nat} {z : Int32} {cap : Nat} (X : Stand p l e R s m args below meth c T locs cells slots) (hx : p.tables.exec = Jvm.exec) (hZ : Z.Warmed39 s.vm) (hown : s.vm.findClass own = some m.cls) (w1 : (Jvm.Cond.classLink own index C).before a0 Z = true) (w2 : (Jvm.Cond.arrayOver (.object C)).before a0 Z = true) (eT : T.heap = h) (hd : decode c.code pc = .ok (.anewarray index, 3)) (hn : ¬ z < 0) (hcap : z.toNatClampNeg ≤ cap) (hb : cap * 8 ≤ 536870912) (hc : cells + 1 ≤ R.cells) (hl : slots + cap ≤ R.slots)
    (k : ∀ T' h' a cA, a = h.size → Stand p l e R s m args below meth c T' locs (cells + 1) (slots + cap) → T'.heap = h' → Ext h h' → Af Z h' a cA (.object C) z.toNatClampNeg (fun _ => .null) → Ovr Z cA C → GoW p e below T' (mkF m (pc + 3) Ls (.ref a :: rest)) Q kc ks) : GoW p e below T (mkF m pc Ls (.int z :: rest)) Q kc ks := by
  obtain ⟨T', h', cA, X', e', E, A, O, st⟩ := newR X hx hZ hown w1 w2 eT (g := mkF m pc Ls (.int z :: rest)) rfl hd rfl hn hcap hb hc hl
  exact GoW.step st (k T' h' _ cA rfl X' e' E (Af.arv A hn) O)
theorem GoW.clone {own ad : String} {index W cap : Nat} (X : Stand p l e R s m args below meth c T locs cells slots) (hx : p.tables.exec = Jvm.exec) (hZ : Z.Warmed39 s.vm) (hown : s.vm.findClass own = some m.cls)
    (w1 : (Jvm.Cond.methodLink own index ⟨ad, "clone", "()Ljava/lang/Object;"⟩).before a0 Z = true) (w2 : (Jvm.Cond.sameMethod ad "java/lang/Object" "clone" "()Ljava/lang/Object;").before a0 Z = true) (w3 : (Jvm.Cond.native ⟨"java/lang/Object", "clone", "()Ljava/lang/Object;"⟩).before a0 Z = true)
    (w4 : (Jvm.Cond.instanceMethod ⟨"java/lang/Object", "clone", "()Ljava/lang/Object;"⟩).before a0 Z = true) (w5 : (Jvm.Cond.selects ad ⟨ad, "clone", "()Ljava/lang/Object;"⟩ ⟨"java/lang/Object", "clone", "()Ljava/lang/Object;"⟩).before a0 Z = true) (w6 : (Jvm.Cond.castable ad "java/lang/Cloneable").before a0 Z = true)
    (eT : T.heap = h) (A : Af Z h a cid ty n f) (E : Exa Z h a ad) (F : ∀ cl : Cell, h[a]? = some cl → FitC Z cl) (hd : decode c.code pc = .ok (.invokevirtual index, 3)) (hsize : Ls.size = c.maxLocals) (hW : (rest.map fun v => v.category).sum ≤ W) (hf : 1 ≤ R.frames) (hl : W + 14 ≤ R.locals) (hcap : n ≤ cap) (hc : cells + 1 ≤ R.cells) (hsl : slots + cap ≤ R.slots)
    (k : ∀ T' h' b, b = h.size → Stand p l e R s m args below meth c T' locs (cells + 1) (slots + cap) → T'.heap = h' → Ext h h' → Af Z h' b cid ty n f → Exa Z h' b ad → GoW p e below T' (mkF m (pc + 3) Ls (.ref b :: rest)) Q kc ks) : GoW p e below T (mkF m pc Ls (.ref a :: rest)) Q kc ks := by
  obtain ⟨cl, A1, r1, r2, r3, r4⟩ := A
  obtain ⟨T', h', X', e', Ex, A2, E2, st⟩ := cloneA X hx hZ hown w1 w2 w3 w4 w5 w6 eT A1 E (F cl A1.1) (g := mkF m pc Ls (.ref a :: rest)) rfl hsize rfl hd hf (W := W) (cap := cap) (by show 2 * 0 + _ ≤ _; omega) hl (by rw [r2]; exact hcap) hc hsl
  exact GoW.step st (k T' h' _ rfl X' e' Ex ⟨_, A2, r1, r2, r3, r4⟩ E2)
theorem GoW.callP {own C : String} {index kk : Nat} {y : MethodName} {bytes : ByteArray} {maxL : Nat} {ret : Option FieldType} {rm : Room} {argsL : List Value} {Q' : Option Value → Heap → List Loc → Prop} {W : Nat} {st : List Value}
    (X : Stand p l e R s m args below meth c T locs cells slots) (hx : p.tables.exec = Jvm.exec) (hZ : Z.Warmed39 s.vm) (hown : s.vm.findClass own = some m.cls)
    (w1 : (Jvm.Cond.methodLink own index y).before a0 Z = true) (w2 : (Jvm.Cond.instanceMethod y).before a0 Z = true) (wp : (Jvm.Cond.privateMethod y).before a0 Z = true) (wi : (Jvm.Cond.instantiable y.cls kk).before a0 Z = true) (w3 : (Jvm.Cond.initialized y.cls).before a0 Z = true) (w4 : (Jvm.Cond.code y bytes maxL ret).before a0 Z = true)
    (hy : y.cls ≠ "java/lang/invoke/MethodHandle" ∧ y.cls ≠ "java/lang/invoke/VarHandle") (E : Exa Z h a C) (hM : Met l Z y bytes maxL ret [] rm (.ref a :: argsL).toArray h Q') (eT : T.heap = h)
    (hlen : ∀ sig, parseMethodDescriptor y.desc = some sig → argsL.length = sig.parameters.length) (hd : decode c.code pc = .ok (.invokevirtual index, 3)) (hsize : Ls.size = c.maxLocals) (hst : st = argsL.reverse ++ .ref a :: rest) (hW : (rest.map fun v => v.category).sum ≤ W)
    (hf : rm.frames + 1 ≤ R.frames) (hl : W + (maxL + 11) + rm.locals ≤ R.locals) (hc : cells + rm.cells ≤ R.cells) (hs : slots + rm.slots ≤ R.slots)
    (k : ∀ v T' L, Stand p l e R s m args below meth c T' (locs ++ L) (cells + rm.cells) (slots + rm.slots) → Q' v T'.heap L → GoW p e below T' (mkF m (pc + 3) Ls (v.toList ++ rest)) Q kc ks) : GoW p e below T (mkF m pc Ls st) Q kc ks := by
  have wi' : (Jvm.Cond.instantiable y.cls kk).before args s = true := mvT hZ wi
  obtain ⟨cc, kc', i1, i2, i3, i4, -⟩ := Cond.instantiable_spec wi'
  have ni : kc'.isInterface = false := by revert i4; cases kc'.isInterface <;> simp
  have hp := Cond.privateMethod_at (mvP hZ wp (args := args))
  have hsel := Jvm.Stand.selects_self_of_private i1 i2 ni hp (mvT hZ w2 (args := args)) hy
  obtain ⟨cl, q1, q2⟩ := E.cell
  obtain ⟨v, vm₁, ⟨T1, L1, k1, n1⟩, -, X1, ⟨Lc, hQ1, l1, y1, z1⟩, st1⟩ := X.privateBack hx (y := y) hown (mvT hZ w1) (mvT hZ w2) hsel hp (mvT hZ w4) hy (backOf (W := W) hM hZ w4 w3 hf hl) (g := mkF m pc Ls st) rfl hsize (Steps.refl _) (a := a) (by rw [eT]; exact q1) q2 (argsL := argsL) (rest := rest) hlen hst (by show 2 * 0 + _ ≤ _; omega) hd (fun _ _ => ⟨rfl, eT, hc, hs⟩)
  dsimp only [Pt.U, Pt.locs, Pt.cells, Pt.slots] at X1 l1 y1 z1 st1 hQ1
  subst l1 y1 z1
  exact GoW.trans st1 (k v T1 Lc X1 hQ1)
theorem GoW.callN {own C : String} {index count : Nat} {xi y : MethodName} {bytes : ByteArray} {maxL : Nat} {ret : Option FieldType} {rm : Room} {argsL : List Value} {Q' : Option Value → Heap → List Loc → Prop} {W : Nat} {st : List Value}
    (X : Stand p l e R s m args below meth c T locs cells slots) (hx : p.tables.exec = Jvm.exec) (hZ : Z.Warmed39 s.vm) (hown : s.vm.findClass own = some m.cls)
    (w1 : (Jvm.Cond.methodLink own index xi).before a0 Z = true) (w2 : (Jvm.Cond.declares xi).before a0 Z = true) (w5 : (Jvm.Cond.interfaceMethod xi.cls xi.cls xi.name xi.desc).before a0 Z = true) (w6 : (Jvm.Cond.selects C xi y).before a0 Z = true) (w7 : (Jvm.Cond.instanceMethod y).before a0 Z = true) (w8 : (Jvm.Cond.publicMethod y).before a0 Z = true) (w9 : (Jvm.Cond.unhidden C xi.name xi.desc).before a0 Z = true) (w10 : (Jvm.Cond.castable C xi.cls).before a0 Z = true)
    (w3 : (Jvm.Cond.initialized y.cls).before a0 Z = true) (w4 : (Jvm.Cond.code y bytes maxL ret).before a0 Z = true) (hy : xi.cls ≠ "java/lang/invoke/MethodHandle" ∧ xi.cls ≠ "java/lang/invoke/VarHandle") (k5 : ((Jvm.Cond.interfaceMethod xi.cls xi.cls xi.name xi.desc).onTables && (Jvm.Cond.interfaceMethod xi.cls xi.cls xi.name xi.desc).keepsFace) = true) (E : Exa Z h a C) (hM : Met l Z y bytes maxL ret [] rm (.ref a :: argsL).toArray h Q') (eT : T.heap = h)
    (hlen : ∀ sig, parseMethodDescriptor xi.desc = some sig → argsL.length = sig.parameters.length) (hd : decode c.code pc = .ok (.invokeinterface index count, 5)) (hsize : Ls.size = c.maxLocals) (hst : st = argsL.reverse ++ .ref a :: rest) (hW : (rest.map fun v => v.category).sum ≤ W)
    (hf : rm.frames + 1 ≤ R.frames) (hl : W + (maxL + 11) + rm.locals ≤ R.locals) (hc : cells + rm.cells ≤ R.cells) (hs : slots + rm.slots ≤ R.slots)
    (k : ∀ v T' L, Stand p l e R s m args below meth c T' (locs ++ L) (cells + rm.cells) (slots + rm.slots) → Q' v T'.heap L → GoW p e below T' (mkF m (pc + 5) Ls (v.toList ++ rest)) Q kc ks) : GoW p e below T (mkF m pc Ls st) Q kc ks := by
  obtain ⟨cB, kB, q1, q2, q3⟩ := isOf hZ eT E
  obtain ⟨v, vm₁, ⟨T1, L1, k1, n1⟩, -, X1, ⟨Lc, hQ1, l1, y1, z1⟩, st1⟩ := X.interfaceBack hx (xi := xi) (y := y) hown (mvT hZ w1) (mvT hZ w2) (mvT hZ w5 k5) (mvT hZ w6) (mvT hZ w7) (mvT hZ w8) (mvT hZ w9) (mvT hZ w10) hy (backOf (W := W) hM hZ w4 w3 hf hl) q1 q2 q3 (g := mkF m pc Ls st) rfl hsize (Steps.refl _) (argsL := argsL) (rest := rest) hlen hst (by show 2 * 0 + _ ≤ _; omega) hd (fun _ _ => ⟨rfl, eT, hc, hs⟩)
  dsimp only [Pt.U, Pt.locs, Pt.cells, Pt.slots] at X1 l1 y1 z1 st1 hQ1
  subst l1 y1 z1
  exact GoW.trans st1 (k v T1 Lc X1 hQ1)
theorem GoW.acopy {own : String} {index W n0 n' : Nat} {b : Addr} {cid' : ClassId} {sp dp nn : Int32} (X : Stand p l e R s m args below meth c T locs cells slots) (hx : p.tables.exec = Jvm.exec) (hZ : Z.Warmed39 s.vm) (hown : s.vm.findClass own = some m.cls)
    (w1 : (Jvm.Cond.methodLink own index ⟨"java/lang/System", "arraycopy", "(Ljava/lang/Object;ILjava/lang/Object;II)V"⟩).before a0 Z = true) (w2 : (Jvm.Cond.native ⟨"java/lang/System", "arraycopy", "(Ljava/lang/Object;ILjava/lang/Object;II)V"⟩).before a0 Z = true) (w3 : (Jvm.Cond.static ⟨"java/lang/System", "arraycopy", "(Ljava/lang/Object;ILjava/lang/Object;II)V"⟩).before a0 Z = true) (w4 : (Jvm.Cond.initialized "java/lang/System").before a0 Z = true)
    (eT : T.heap = h) (A : Af Z h a cid ty n f) (B : Af Z h b cid' ty n' f') (hty : refKind ty = false) (hfa : ∀ i, i < n → fits ty (f i) = true) (hfb : ∀ i, i < n' → fits ty (f' i) = true) (h1 : ¬ sp < 0) (h2 : ¬ dp < 0) (h3 : ¬ nn < 0) (h4 : sp.toNatClampNeg + nn.toNatClampNeg ≤ n) (h5 : dp.toNatClampNeg + nn.toNatClampNeg ≤ n')
    (N : Fr n0 locs) (ge : n0 ≤ b) (hd : decode c.code pc = .ok (.invokestatic index, 3)) (hsize : Ls.size = c.maxLocals) (hW : (rest.map fun v => v.category).sum ≤ W) (hf : 1 ≤ R.frames) (hl : W + 18 ≤ R.locals)
    (k : ∀ T' h' L, Stand p l e R s m args below meth c T' L cells slots → T'.heap = h' → Fr n0 L → Keep h h' [b] → Af Z h' b cid' ty n' (cpf f f' sp.toNatClampNeg dp.toNatClampNeg nn.toNatClampNeg) → GoW p e below T' (mkF m (pc + 3) Ls rest) Q kc ks) : GoW p e below T (mkF m pc Ls (.int nn :: .int dp :: .ref b :: .int sp :: .ref a :: rest)) Q kc ks := by
  have za : (n.toInt32).toNatClampNeg = n := by obtain ⟨_, _, _, _, r3, _⟩ := A; simp only [Int32.toNatClampNeg, len_toInt r3]; rfl
  have zb : (n'.toInt32).toNatClampNeg = n' := by obtain ⟨_, _, _, _, r3, _⟩ := B; simp only [Int32.toNatClampNeg, len_toInt r3]; rfl
  obtain ⟨T', h', L, X', e', NL, K, V, st⟩ := cpA X hx hZ hown w1 w2 w3 w4 eT (A.toArv hfa) (B.toArv hfb) (Or.inl ⟨rfl, hty⟩) h1 h2 h3 (by rw [za]; exact h4) (by rw [zb]; exact h5) rfl (by simp; exact h5) N ge (g := mkF m pc Ls (.int nn :: .int dp :: .ref b :: .int sp :: .ref a :: rest)) rfl hsize rfl hd hf (W := W) (by show 2 * 0 + _ ≤ _; omega) (by show W + (7 + 11) ≤ _; omega)
  have V' := Af.ofArv V
  rw [zb] at V'
  exact GoW.step st (k T' h' L X' e' NL K (V'.congr fun i hi => (cp_at hi h4 h5).symm))
end Wide
theorem Fld.uniq {Z : State} {h : Heap} {a : Addr} {C n d : String} {v w : Value} (F : Fld Z h a C n d v) (G : Fld Z h a C n d w) : v = w := by
  obtain ⟨cl, c, k, i, f, q1, q2, q3, q4, q5, q6, q7⟩ := F
  obtain ⟨cl', c', k', i', f', r1, r2, r3, r4, r5, r6, r7⟩ := G
  cases q1.symm.trans r1
  cases q2.symm.trans r2
  exact Option.some.inj (q7.symm.trans r7)
theorem Af.uniq {Z : State} {h : Heap} {a : Addr} {k k' : ClassId} {ty ty' : FieldType} {n n' : Nat} {f f' : Nat → Value} (F : Af Z h a k ty n f) (G : Af Z h a k' ty' n' f') : n = n' ∧ ∀ i, i < n → f i = f' i := by
  obtain ⟨cl, A, r1, r2, r3, r4⟩ := F
  obtain ⟨cl', A', s1, s2, s3, s4⟩ := G
  cases A.1.symm.trans A'.1
  exact ⟨r2.symm.trans s2, fun i hi => Option.some.inj ((r4 i hi).symm.trans (s4 i (by omega)))⟩
end Jvm.OwnK
namespace Jvm.Pilot.@@N@@
open Jvm Jvm.ClassFile Sem Op Lib Jvm.Free Jvm.Stand Jvm.LawKit Jvm.RoadKit Jvm.OwnK Bundle Jvm.Pilot.@@N@@.Jvm.D
theorem w0 {Z : State} {a0 : Array Value} (hw : ∀ d ∈ tables_1, d.before a0 Z = true) : (Jvm.Cond.constant "com/example/trilatch/trilatch/http/TlsPolicyHandshakesWithPinLaw" (7 : Nat) (2147483647 : Int32)).before a0 Z = true := hw _ (List.mem_of_getElem? (i := 0) rfl)
theorem w1 {Z : State} {a0 : Array Value} (hw : ∀ d ∈ tables_1, d.before a0 Z = true) : (Jvm.Cond.methodLink "com/example/trilatch/trilatch/http/TlsPolicyHandshakesWithPinLaw" (8 : Nat) ({ cls := "com/example/trilatch/trilatch/http/TlsPolicyHandshakesWithPinLaw", name := "pick", desc := "(I)C" } : Jvm.MethodName)).before a0 Z = true := hw _ (List.mem_of_getElem? (i := 1) rfl)
theorem w2 {Z : State} {a0 : Array Value} (hw : ∀ d ∈ tables_1, d.before a0 Z = true) : (Jvm.Cond.static ({ cls := "com/example/trilatch/trilatch/http/TlsPolicyHandshakesWithPinLaw", name := "pick", desc := "(I)C" } : Jvm.MethodName)).before a0 Z = true := hw _ (List.mem_of_getElem? (i := 2) rfl)
theorem w3 {Z : State} {a0 : Array Value} (hw : ∀ d ∈ tables_1, d.before a0 Z = true) : (Jvm.Cond.initialized "com/example/trilatch/trilatch/http/TlsPolicyHandshakesWithPinLaw").before a0 Z = true := hw _ (List.mem_of_getElem? (i := 3) rfl)
theorem w4 {Z : State} {a0 : Array Value} (hw : ∀ d ∈ tables_1, d.before a0 Z = true) : (Jvm.Cond.code ({ cls := "com/example/trilatch/trilatch/http/TlsPolicyHandshakesWithPinLaw", name := "pick", desc := "(I)C" } : Jvm.MethodName) method_3_code (2 : Nat) (Option.some Jvm.ClassFile.FieldType.char)).before a0 Z = true := hw _ (List.mem_of_getElem? (i := 4) rfl)
theorem w5 {Z : State} {a0 : Array Value} (hw : ∀ d ∈ tables_1, d.before a0 Z = true) : (Jvm.Cond.methodLink "com/example/trilatch/trilatch/http/TlsPolicyHandshakesWithPinLaw" (14 : Nat) ({ cls := "com/example/trilatch/trilatch/http/TlsPolicyHandshakesWithPinLaw", name := "make", desc := "(ICCCC)Ljava/lang/String;" } : Jvm.MethodName)).before a0 Z = true := hw _ (List.mem_of_getElem? (i := 5) rfl)
theorem w6 {Z : State} {a0 : Array Value} (hw : ∀ d ∈ tables_1, d.before a0 Z = true) : (Jvm.Cond.static ({ cls := "com/example/trilatch/trilatch/http/TlsPolicyHandshakesWithPinLaw", name := "make", desc := "(ICCCC)Ljava/lang/String;" } : Jvm.MethodName)).before a0 Z = true := hw _ (List.mem_of_getElem? (i := 6) rfl)
theorem w7 {Z : State} {a0 : Array Value} (hw : ∀ d ∈ tables_1, d.before a0 Z = true) : (Jvm.Cond.code ({ cls := "com/example/trilatch/trilatch/http/TlsPolicyHandshakesWithPinLaw", name := "make", desc := "(ICCCC)Ljava/lang/String;" } : Jvm.MethodName) method_4_code (5 : Nat) (Option.some (Jvm.ClassFile.FieldType.object "java/lang/String"))).before a0 Z = true := hw _ (List.mem_of_getElem? (i := 7) rfl)
theorem w8 {Z : State} {a0 : Array Value} (hw : ∀ d ∈ tables_1, d.before a0 Z = true) : (Jvm.Cond.classLink "com/example/trilatch/trilatch/http/TlsPolicyHandshakesWithPinLaw" (24 : Nat) "java/lang/String").before a0 Z = true := hw _ (List.mem_of_getElem? (i := 8) rfl)
theorem w9 {Z : State} {a0 : Array Value} (hw : ∀ d ∈ tables_1, d.before a0 Z = true) : (Jvm.Cond.instantiable "java/lang/String" (4 : Nat)).before a0 Z = true := hw _ (List.mem_of_getElem? (i := 9) rfl)
theorem w10 {Z : State} {a0 : Array Value} (hw : ∀ d ∈ tables_1, d.before a0 Z = true) : (Jvm.Cond.initialized "java/lang/String").before a0 Z = true := hw _ (List.mem_of_getElem? (i := 10) rfl)
theorem w11 {Z : State} {a0 : Array Value} (hw : ∀ d ∈ tables_1, d.before a0 Z = true) : (Jvm.Cond.arrayClass Jvm.ClassFile.FieldType.char).before a0 Z = true := hw _ (List.mem_of_getElem? (i := 11) rfl)
theorem w12 {Z : State} {a0 : Array Value} (hw : ∀ d ∈ tables_1, d.before a0 Z = true) : (Jvm.Cond.methodLink "com/example/trilatch/trilatch/http/TlsPolicyHandshakesWithPinLaw" (26 : Nat) ({ cls := "java/lang/String", name := "<init>", desc := "([C)V" } : Jvm.MethodName)).before a0 Z = true := hw _ (List.mem_of_getElem? (i := 12) rfl)
theorem w13 {Z : State} {a0 : Array Value} (hw : ∀ d ∈ tables_1, d.before a0 Z = true) : (Jvm.Cond.instanceMethod ({ cls := "java/lang/String", name := "<init>", desc := "([C)V" } : Jvm.MethodName)).before a0 Z = true := hw _ (List.mem_of_getElem? (i := 13) rfl)
theorem w14 {Z : State} {a0 : Array Value} (hw : ∀ d ∈ tables_1, d.before a0 Z = true) : (Jvm.Cond.code ({ cls := "java/lang/String", name := "<init>", desc := "([C)V" } : Jvm.MethodName) jdk_42_method_3_code (2 : Nat) (Option.none : Option Jvm.ClassFile.FieldType)).before a0 Z = true := hw _ (List.mem_of_getElem? (i := 14) rfl)
theorem w15 {Z : State} {a0 : Array Value} (hw : ∀ d ∈ tables_1, d.before a0 Z = true) : (Jvm.Cond.methodLink "java/lang/String" (27 : Nat) ({ cls := "java/lang/String", name := "<init>", desc := "([CIILjava/lang/Void;)V" } : Jvm.MethodName)).before a0 Z = true := hw _ (List.mem_of_getElem? (i := 15) rfl)
theorem w16 {Z : State} {a0 : Array Value} (hw : ∀ d ∈ tables_1, d.before a0 Z = true) : (Jvm.Cond.instanceMethod ({ cls := "java/lang/String", name := "<init>", desc := "([CIILjava/lang/Void;)V" } : Jvm.MethodName)).before a0 Z = true := hw _ (List.mem_of_getElem? (i := 16) rfl)
theorem w18 {Z : State} {a0 : Array Value} (hw : ∀ d ∈ tables_1, d.before a0 Z = true) : (Jvm.Cond.code ({ cls := "java/lang/String", name := "<init>", desc := "([CIILjava/lang/Void;)V" } : Jvm.MethodName) jdk_42_method_149_code (6 : Nat) (Option.none : Option Jvm.ClassFile.FieldType)).before a0 Z = true := hw _ (List.mem_of_getElem? (i := 18) rfl)
theorem w19 {Z : State} {a0 : Array Value} (hw : ∀ d ∈ tables_1, d.before a0 Z = true) : (Jvm.Cond.methodLink "java/lang/String" (1 : Nat) ({ cls := "java/lang/Object", name := "<init>", desc := "()V" } : Jvm.MethodName)).before a0 Z = true := hw _ (List.mem_of_getElem? (i := 19) rfl)
theorem w20 {Z : State} {a0 : Array Value} (hw : ∀ d ∈ tables_1, d.before a0 Z = true) : (Jvm.Cond.instanceMethod ({ cls := "java/lang/Object", name := "<init>", desc := "()V" } : Jvm.MethodName)).before a0 Z = true := hw _ (List.mem_of_getElem? (i := 20) rfl)
theorem w21 {Z : State} {a0 : Array Value} (hw : ∀ d ∈ tables_1, d.before a0 Z = true) : (Jvm.Cond.code ({ cls := "java/lang/Object", name := "<init>", desc := "()V" } : Jvm.MethodName) object_method_1_code (1 : Nat) (Option.none : Option Jvm.ClassFile.FieldType)).before a0 Z = true := hw _ (List.mem_of_getElem? (i := 21) rfl)
theorem w22 {Z : State} {a0 : Array Value} (hw : ∀ d ∈ tables_1, d.before a0 Z = true) : (Jvm.Cond.stringLink "java/lang/String" (7 : Nat) "").before a0 Z = true := hw _ (List.mem_of_getElem? (i := 22) rfl)
theorem w23 {Z : State} {a0 : Array Value} (hw : ∀ d ∈ tables_1, d.before a0 Z = true) : (Jvm.Cond.arrayClass Jvm.ClassFile.FieldType.byte).before a0 Z = true := hw _ (List.mem_of_getElem? (i := 23) rfl)
theorem w24 {Z : State} {a0 : Array Value} (hw : ∀ d ∈ tables_1, d.before a0 Z = true) : (Jvm.Cond.laysFinal "java/lang/String" "java/lang/String" "value" "[B").before a0 Z = true := hw _ (List.mem_of_getElem? (i := 24) rfl)
theorem w25 {Z : State} {a0 : Array Value} (hw : ∀ d ∈ tables_1, d.before a0 Z = true) : (Jvm.Cond.laysFinal "java/lang/String" "java/lang/String" "coder" "B").before a0 Z = true := hw _ (List.mem_of_getElem? (i := 25) rfl)
theorem w26 {Z : State} {a0 : Array Value} (hw : ∀ d ∈ tables_1, d.before a0 Z = true) : (Jvm.Cond.soleField "java/lang/String" "value").before a0 Z = true := hw _ (List.mem_of_getElem? (i := 26) rfl)
theorem w27 {Z : State} {a0 : Array Value} (hw : ∀ d ∈ tables_1, d.before a0 Z = true) : (Jvm.Cond.soleField "java/lang/String" "coder").before a0 Z = true := hw _ (List.mem_of_getElem? (i := 27) rfl)
theorem w28 {Z : State} {a0 : Array Value} (hw : ∀ d ∈ tables_1, d.before a0 Z = true) : (Jvm.Cond.fieldLink "java/lang/String" (9 : Nat) "java/lang/String" "value" "[B").before a0 Z = true := hw _ (List.mem_of_getElem? (i := 28) rfl)
theorem w29 {Z : State} {a0 : Array Value} (hw : ∀ d ∈ tables_1, d.before a0 Z = true) : (Jvm.Cond.fieldLink "java/lang/String" (15 : Nat) "java/lang/String" "coder" "B").before a0 Z = true := hw _ (List.mem_of_getElem? (i := 29) rfl)
theorem w30 {Z : State} {a0 : Array Value} (hw : ∀ d ∈ tables_1, d.before a0 Z = true) : (Jvm.Cond.methodLink "com/example/trilatch/trilatch/http/TlsPolicyHandshakesWithPinLaw" (18 : Nat) ({ cls := "com/example/trilatch/trilatch/http/TlsPolicy", name := "handshakesWith", desc := "(Ljava/lang/String;)Z" } : Jvm.MethodName)).before a0 Z = true := hw _ (List.mem_of_getElem? (i := 30) rfl)
theorem w31 {Z : State} {a0 : Array Value} (hw : ∀ d ∈ tables_1, d.before a0 Z = true) : (Jvm.Cond.static ({ cls := "com/example/trilatch/trilatch/http/TlsPolicy", name := "handshakesWith", desc := "(Ljava/lang/String;)Z" } : Jvm.MethodName)).before a0 Z = true := hw _ (List.mem_of_getElem? (i := 31) rfl)
theorem w32 {Z : State} {a0 : Array Value} (hw : ∀ d ∈ tables_1, d.before a0 Z = true) : (Jvm.Cond.initialized "com/example/trilatch/trilatch/http/TlsPolicy").before a0 Z = true := hw _ (List.mem_of_getElem? (i := 32) rfl)
theorem w33 {Z : State} {a0 : Array Value} (hw : ∀ d ∈ tables_1, d.before a0 Z = true) : (Jvm.Cond.code ({ cls := "com/example/trilatch/trilatch/http/TlsPolicy", name := "handshakesWith", desc := "(Ljava/lang/String;)Z" } : Jvm.MethodName) prog_56_method_3_code (1 : Nat) (Option.some Jvm.ClassFile.FieldType.boolean)).before a0 Z = true := hw _ (List.mem_of_getElem? (i := 33) rfl)
theorem w34 {Z : State} {a0 : Array Value} (hw : ∀ d ∈ tables_1, d.before a0 Z = true) : (Jvm.Cond.stringLink "com/example/trilatch/trilatch/http/TlsPolicy" (25 : Nat) "DSA").before a0 Z = true := hw _ (List.mem_of_getElem? (i := 34) rfl)
theorem w35 {Z : State} {a0 : Array Value} (hw : ∀ d ∈ tables_1, d.before a0 Z = true) : (Jvm.Cond.methodLink "com/example/trilatch/trilatch/http/TlsPolicy" (27 : Nat) ({ cls := "java/lang/String", name := "equals", desc := "(Ljava/lang/Object;)Z" } : Jvm.MethodName)).before a0 Z = true := hw _ (List.mem_of_getElem? (i := 35) rfl)
theorem w36 {Z : State} {a0 : Array Value} (hw : ∀ d ∈ tables_1, d.before a0 Z = true) : (Jvm.Cond.declares ({ cls := "java/lang/String", name := "equals", desc := "(Ljava/lang/Object;)Z" } : Jvm.MethodName)).before a0 Z = true := hw _ (List.mem_of_getElem? (i := 36) rfl)
theorem w37 {Z : State} {a0 : Array Value} (hw : ∀ d ∈ tables_1, d.before a0 Z = true) : (Jvm.Cond.instanceMethod ({ cls := "java/lang/String", name := "equals", desc := "(Ljava/lang/Object;)Z" } : Jvm.MethodName)).before a0 Z = true := hw _ (List.mem_of_getElem? (i := 37) rfl)
theorem w38 {Z : State} {a0 : Array Value} (hw : ∀ d ∈ tables_1, d.before a0 Z = true) : (Jvm.Cond.selects "java/lang/String" ({ cls := "java/lang/String", name := "equals", desc := "(Ljava/lang/Object;)Z" } : Jvm.MethodName) ({ cls := "java/lang/String", name := "equals", desc := "(Ljava/lang/Object;)Z" } : Jvm.MethodName)).before a0 Z = true := hw _ (List.mem_of_getElem? (i := 38) rfl)
theorem w39 {Z : State} {a0 : Array Value} (hw : ∀ d ∈ tables_1, d.before a0 Z = true) : (Jvm.Cond.code ({ cls := "java/lang/String", name := "equals", desc := "(Ljava/lang/Object;)Z" } : Jvm.MethodName) jdk_42_method_66_code (3 : Nat) (Option.some Jvm.ClassFile.FieldType.boolean)).before a0 Z = true := hw _ (List.mem_of_getElem? (i := 39) rfl)
theorem w40 {Z : State} {a0 : Array Value} (hw : ∀ d ∈ tables_1, d.before a0 Z = true) : (Jvm.Cond.classLink "java/lang/String" (10 : Nat) "java/lang/String").before a0 Z = true := hw _ (List.mem_of_getElem? (i := 40) rfl)
theorem w41 {Z : State} {a0 : Array Value} (hw : ∀ d ∈ tables_1, d.before a0 Z = true) : (Jvm.Cond.fieldLink "java/lang/String" (38 : Nat) "java/lang/String" "COMPACT_STRINGS" "Z").before a0 Z = true := hw _ (List.mem_of_getElem? (i := 41) rfl)
theorem w42 {Z : State} {a0 : Array Value} (hw : ∀ d ∈ tables_1, d.before a0 Z = true) : (Jvm.Cond.methodLink "java/lang/String" (541 : Nat) ({ cls := "java/lang/StringLatin1", name := "equals", desc := "([B[B)Z" } : Jvm.MethodName)).before a0 Z = true := hw _ (List.mem_of_getElem? (i := 42) rfl)
theorem w43 {Z : State} {a0 : Array Value} (hw : ∀ d ∈ tables_1, d.before a0 Z = true) : (Jvm.Cond.static ({ cls := "java/lang/StringLatin1", name := "equals", desc := "([B[B)Z" } : Jvm.MethodName)).before a0 Z = true := hw _ (List.mem_of_getElem? (i := 43) rfl)
theorem w44 {Z : State} {a0 : Array Value} (hw : ∀ d ∈ tables_1, d.before a0 Z = true) : (Jvm.Cond.initialized "java/lang/StringLatin1").before a0 Z = true := hw _ (List.mem_of_getElem? (i := 44) rfl)
theorem w45 {Z : State} {a0 : Array Value} (hw : ∀ d ∈ tables_1, d.before a0 Z = true) : (Jvm.Cond.code ({ cls := "java/lang/StringLatin1", name := "equals", desc := "([B[B)Z" } : Jvm.MethodName) jdk_43_method_13_code (3 : Nat) (Option.some Jvm.ClassFile.FieldType.boolean)).before a0 Z = true := hw _ (List.mem_of_getElem? (i := 45) rfl)
theorem w46 {Z : State} {a0 : Array Value} (hw : ∀ d ∈ tables_1, d.before a0 Z = true) : (Jvm.Cond.methodLink "java/lang/String" (177 : Nat) ({ cls := "java/lang/StringUTF16", name := "compress", desc := "([CII)[B" } : Jvm.MethodName)).before a0 Z = true := hw _ (List.mem_of_getElem? (i := 46) rfl)
theorem w47 {Z : State} {a0 : Array Value} (hw : ∀ d ∈ tables_1, d.before a0 Z = true) : (Jvm.Cond.static ({ cls := "java/lang/StringUTF16", name := "compress", desc := "([CII)[B" } : Jvm.MethodName)).before a0 Z = true := hw _ (List.mem_of_getElem? (i := 47) rfl)
theorem w48 {Z : State} {a0 : Array Value} (hw : ∀ d ∈ tables_1, d.before a0 Z = true) : (Jvm.Cond.initialized "java/lang/StringUTF16").before a0 Z = true := hw _ (List.mem_of_getElem? (i := 48) rfl)
theorem w49 {Z : State} {a0 : Array Value} (hw : ∀ d ∈ tables_1, d.before a0 Z = true) : (Jvm.Cond.code ({ cls := "java/lang/StringUTF16", name := "compress", desc := "([CII)[B" } : Jvm.MethodName) jdk_52_method_16_code (6 : Nat) (Option.some (Jvm.ClassFile.FieldType.array Jvm.ClassFile.FieldType.byte))).before a0 Z = true := hw _ (List.mem_of_getElem? (i := 49) rfl)
theorem w50 {Z : State} {a0 : Array Value} (hw : ∀ d ∈ tables_1, d.before a0 Z = true) : (Jvm.Cond.methodLink "java/lang/StringUTF16" (115 : Nat) ({ cls := "java/lang/StringUTF16", name := "compress", desc := "([CI[BII)I" } : Jvm.MethodName)).before a0 Z = true := hw _ (List.mem_of_getElem? (i := 50) rfl)
theorem w51 {Z : State} {a0 : Array Value} (hw : ∀ d ∈ tables_1, d.before a0 Z = true) : (Jvm.Cond.static ({ cls := "java/lang/StringUTF16", name := "compress", desc := "([CI[BII)I" } : Jvm.MethodName)).before a0 Z = true := hw _ (List.mem_of_getElem? (i := 51) rfl)
theorem w52 {Z : State} {a0 : Array Value} (hw : ∀ d ∈ tables_1, d.before a0 Z = true) : (Jvm.Cond.code ({ cls := "java/lang/StringUTF16", name := "compress", desc := "([CI[BII)I" } : Jvm.MethodName) jdk_52_method_21_code (7 : Nat) (Option.some Jvm.ClassFile.FieldType.int)).before a0 Z = true := hw _ (List.mem_of_getElem? (i := 52) rfl)
theorem w53 {Z : State} {a0 : Array Value} (hw : ∀ d ∈ tables_1, d.before a0 Z = true) : (Jvm.Cond.methodLink "java/lang/String" (47 : Nat) ({ cls := "java/lang/StringUTF16", name := "coderFromArrayLen", desc := "([BI)B" } : Jvm.MethodName)).before a0 Z = true := hw _ (List.mem_of_getElem? (i := 53) rfl)
theorem w54 {Z : State} {a0 : Array Value} (hw : ∀ d ∈ tables_1, d.before a0 Z = true) : (Jvm.Cond.static ({ cls := "java/lang/StringUTF16", name := "coderFromArrayLen", desc := "([BI)B" } : Jvm.MethodName)).before a0 Z = true := hw _ (List.mem_of_getElem? (i := 54) rfl)
theorem w55 {Z : State} {a0 : Array Value} (hw : ∀ d ∈ tables_1, d.before a0 Z = true) : (Jvm.Cond.code ({ cls := "java/lang/StringUTF16", name := "coderFromArrayLen", desc := "([BI)B" } : Jvm.MethodName) jdk_52_method_15_code (2 : Nat) (Option.some Jvm.ClassFile.FieldType.byte)).before a0 Z = true := hw _ (List.mem_of_getElem? (i := 55) rfl)
theorem d_pick_0 : decode method_3_code 0 = .ok (.iload_n 0, 1) := by decide +kernel
theorem d_pick_1 : decode method_3_code 1 = .ok (.sipush 256, 3) := by decide +kernel
theorem d_pick_4 : decode method_3_code 4 = .ok (.iand, 1) := by decide +kernel
theorem d_pick_5 : decode method_3_code 5 = .ok (.ifCond .eq 60, 3) := by decide +kernel
theorem d_pick_65 : decode method_3_code 65 = .ok (.iload_n 0, 1) := by decide +kernel
theorem d_pick_66 : decode method_3_code 66 = .ok (.sipush 255, 3) := by decide +kernel
theorem d_pick_69 : decode method_3_code 69 = .ok (.iand, 1) := by decide +kernel
theorem d_pick_70 : decode method_3_code 70 = .ok (.i2c, 1) := by decide +kernel
theorem d_pick_71 : decode method_3_code 71 = .ok (.ireturn, 1) := by decide +kernel
theorem d_pick_8 : decode method_3_code 8 = .ok (.bipush 8, 2) := by decide +kernel
theorem d_pick_10 : decode method_3_code 10 = .ok (.newarray .char, 2) := by decide +kernel
theorem d_pick_12 : decode method_3_code 12 = .ok (.dup, 1) := by decide +kernel
theorem d_pick_13 : decode method_3_code 13 = .ok (.iconst 0, 1) := by decide +kernel
theorem d_pick_14 : decode method_3_code 14 = .ok (.bipush 68, 2) := by decide +kernel
theorem d_pick_16 : decode method_3_code 16 = .ok (.castore, 1) := by decide +kernel
theorem d_pick_17 : decode method_3_code 17 = .ok (.dup, 1) := by decide +kernel
theorem d_pick_18 : decode method_3_code 18 = .ok (.iconst 1, 1) := by decide +kernel
theorem d_pick_19 : decode method_3_code 19 = .ok (.bipush 83, 2) := by decide +kernel
theorem d_pick_21 : decode method_3_code 21 = .ok (.castore, 1) := by decide +kernel
theorem d_pick_22 : decode method_3_code 22 = .ok (.dup, 1) := by decide +kernel
theorem d_pick_23 : decode method_3_code 23 = .ok (.iconst 2, 1) := by decide +kernel
theorem d_pick_24 : decode method_3_code 24 = .ok (.bipush 65, 2) := by decide +kernel
theorem d_pick_26 : decode method_3_code 26 = .ok (.castore, 1) := by decide +kernel
theorem d_pick_27 : decode method_3_code 27 = .ok (.dup, 1) := by decide +kernel
theorem d_pick_28 : decode method_3_code 28 = .ok (.iconst 3, 1) := by decide +kernel
theorem d_pick_29 : decode method_3_code 29 = .ok (.bipush 100, 2) := by decide +kernel
theorem d_pick_31 : decode method_3_code 31 = .ok (.castore, 1) := by decide +kernel
theorem d_pick_32 : decode method_3_code 32 = .ok (.dup, 1) := by decide +kernel
theorem d_pick_33 : decode method_3_code 33 = .ok (.iconst 4, 1) := by decide +kernel
theorem d_pick_34 : decode method_3_code 34 = .ok (.bipush 115, 2) := by decide +kernel
theorem d_pick_36 : decode method_3_code 36 = .ok (.castore, 1) := by decide +kernel
theorem d_pick_37 : decode method_3_code 37 = .ok (.dup, 1) := by decide +kernel
theorem d_pick_38 : decode method_3_code 38 = .ok (.iconst 5, 1) := by decide +kernel
theorem d_pick_39 : decode method_3_code 39 = .ok (.bipush 97, 2) := by decide +kernel
theorem d_pick_41 : decode method_3_code 41 = .ok (.castore, 1) := by decide +kernel
theorem d_pick_42 : decode method_3_code 42 = .ok (.dup, 1) := by decide +kernel
theorem d_pick_43 : decode method_3_code 43 = .ok (.bipush 6, 2) := by decide +kernel
theorem d_pick_45 : decode method_3_code 45 = .ok (.bipush 69, 2) := by decide +kernel
theorem d_pick_47 : decode method_3_code 47 = .ok (.castore, 1) := by decide +kernel
theorem d_pick_48 : decode method_3_code 48 = .ok (.dup, 1) := by decide +kernel
theorem d_pick_49 : decode method_3_code 49 = .ok (.bipush 7, 2) := by decide +kernel
theorem d_pick_51 : decode method_3_code 51 = .ok (.bipush 67, 2) := by decide +kernel
theorem d_pick_53 : decode method_3_code 53 = .ok (.castore, 1) := by decide +kernel
theorem d_pick_54 : decode method_3_code 54 = .ok (.astore_n 1, 1) := by decide +kernel
theorem d_pick_55 : decode method_3_code 55 = .ok (.aload_n 1, 1) := by decide +kernel
theorem d_pick_56 : decode method_3_code 56 = .ok (.iload_n 0, 1) := by decide +kernel
theorem d_pick_57 : decode method_3_code 57 = .ok (.bipush 9, 2) := by decide +kernel
theorem d_pick_59 : decode method_3_code 59 = .ok (.iushr, 1) := by decide +kernel
theorem d_pick_60 : decode method_3_code 60 = .ok (.bipush 7, 2) := by decide +kernel
theorem d_pick_62 : decode method_3_code 62 = .ok (.iand, 1) := by decide +kernel
theorem d_pick_63 : decode method_3_code 63 = .ok (.caload, 1) := by decide +kernel
theorem d_pick_64 : decode method_3_code 64 = .ok (.ireturn, 1) := by decide +kernel
theorem pn_pick : plainName "com/example/trilatch/trilatch/http/TlsPolicyHandshakesWithPinLaw" = true := by first | (simp [plainName, overriddenIn]; done) | decide +kernel
theorem d_ci1_0 : decode jdk_52_method_21_code 0 = .ok (.iconst 0, 1) := by decide +kernel
theorem d_ci1_1 : decode jdk_52_method_21_code 1 = .ok (.istore 5, 2) := by decide +kernel
theorem d_ci1_3 : decode jdk_52_method_21_code 3 = .ok (.iload 5, 2) := by decide +kernel
theorem d_ci1_5 : decode jdk_52_method_21_code 5 = .ok (.iload 4, 2) := by decide +kernel
theorem d_ci1_7 : decode jdk_52_method_21_code 7 = .ok (.if_icmp .ge 37, 3) := by decide +kernel
theorem d_ci1_10 : decode jdk_52_method_21_code 10 = .ok (.aload_n 0, 1) := by decide +kernel
theorem d_ci1_11 : decode jdk_52_method_21_code 11 = .ok (.iload_n 1, 1) := by decide +kernel
theorem d_ci1_12 : decode jdk_52_method_21_code 12 = .ok (.caload, 1) := by decide +kernel
theorem d_ci1_13 : decode jdk_52_method_21_code 13 = .ok (.istore 6, 2) := by decide +kernel
theorem d_ci1_15 : decode jdk_52_method_21_code 15 = .ok (.iload 6, 2) := by decide +kernel
theorem d_ci1_17 : decode jdk_52_method_21_code 17 = .ok (.sipush 255, 3) := by decide +kernel
theorem d_ci1_20 : decode jdk_52_method_21_code 20 = .ok (.if_icmp .le 6, 3) := by decide +kernel
theorem d_ci1_26 : decode jdk_52_method_21_code 26 = .ok (.aload_n 2, 1) := by decide +kernel
theorem d_ci1_27 : decode jdk_52_method_21_code 27 = .ok (.iload_n 3, 1) := by decide +kernel
theorem d_ci1_28 : decode jdk_52_method_21_code 28 = .ok (.iload 6, 2) := by decide +kernel
theorem d_ci1_30 : decode jdk_52_method_21_code 30 = .ok (.i2b, 1) := by decide +kernel
theorem d_ci1_31 : decode jdk_52_method_21_code 31 = .ok (.bastore, 1) := by decide +kernel
theorem d_ci1_32 : decode jdk_52_method_21_code 32 = .ok (.iinc 1 1, 3) := by decide +kernel
theorem d_ci1_35 : decode jdk_52_method_21_code 35 = .ok (.iinc 3 1, 3) := by decide +kernel
theorem d_ci1_38 : decode jdk_52_method_21_code 38 = .ok (.iinc 5 1, 3) := by decide +kernel
theorem d_ci1_41 : decode jdk_52_method_21_code 41 = .ok (.goto (-38), 3) := by decide +kernel
theorem d_ci1_44 : decode jdk_52_method_21_code 44 = .ok (.iload 4, 2) := by decide +kernel
theorem d_ci1_46 : decode jdk_52_method_21_code 46 = .ok (.ireturn, 1) := by decide +kernel
theorem pn_ci1 : plainName "java/lang/StringUTF16" = true := by first | (simp [plainName, overriddenIn]; done) | decide +kernel
theorem d_co1_0 : decode jdk_52_method_16_code 0 = .ok (.iload_n 2, 1) := by decide +kernel
theorem d_co1_1 : decode jdk_52_method_16_code 1 = .ok (.newarray .byte, 2) := by decide +kernel
theorem d_co1_3 : decode jdk_52_method_16_code 3 = .ok (.astore_n 3, 1) := by decide +kernel
theorem d_co1_4 : decode jdk_52_method_16_code 4 = .ok (.aload_n 0, 1) := by decide +kernel
theorem d_co1_5 : decode jdk_52_method_16_code 5 = .ok (.iload_n 1, 1) := by decide +kernel
theorem d_co1_6 : decode jdk_52_method_16_code 6 = .ok (.aload_n 3, 1) := by decide +kernel
theorem d_co1_7 : decode jdk_52_method_16_code 7 = .ok (.iconst 0, 1) := by decide +kernel
theorem d_co1_8 : decode jdk_52_method_16_code 8 = .ok (.iload_n 2, 1) := by decide +kernel
theorem d_co1_9 : decode jdk_52_method_16_code 9 = .ok (.invokestatic 115, 3) := by decide +kernel
theorem pd_0 : parseMethodDescriptor "([CI[BII)I" = some ⟨[(.array .char), .int, (.array .byte), .int, .int], some .int⟩ := by decide +kernel
theorem d_co1_12 : decode jdk_52_method_16_code 12 = .ok (.istore 4, 2) := by decide +kernel
theorem d_co1_14 : decode jdk_52_method_16_code 14 = .ok (.iload 4, 2) := by decide +kernel
theorem d_co1_16 : decode jdk_52_method_16_code 16 = .ok (.iload_n 2, 1) := by decide +kernel
theorem d_co1_17 : decode jdk_52_method_16_code 17 = .ok (.if_icmp .eq 40, 3) := by decide +kernel
theorem d_co1_57 : decode jdk_52_method_16_code 57 = .ok (.aload_n 3, 1) := by decide +kernel
theorem d_co1_58 : decode jdk_52_method_16_code 58 = .ok (.areturn, 1) := by decide +kernel
theorem pn_co1 : plainName "java/lang/StringUTF16" = true := by first | (simp [plainName, overriddenIn]; done) | decide +kernel
theorem d_cf1_0 : decode jdk_52_method_15_code 0 = .ok (.iload_n 1, 1) := by decide +kernel
theorem d_cf1_1 : decode jdk_52_method_15_code 1 = .ok (.aload_n 0, 1) := by decide +kernel
theorem d_cf1_2 : decode jdk_52_method_15_code 2 = .ok (.arraylength, 1) := by decide +kernel
theorem d_cf1_3 : decode jdk_52_method_15_code 3 = .ok (.isub, 1) := by decide +kernel
theorem d_cf1_4 : decode jdk_52_method_15_code 4 = .ok (.bipush 31, 2) := by decide +kernel
theorem d_cf1_6 : decode jdk_52_method_15_code 6 = .ok (.iushr, 1) := by decide +kernel
theorem d_cf1_7 : decode jdk_52_method_15_code 7 = .ok (.i2b, 1) := by decide +kernel
theorem d_cf1_8 : decode jdk_52_method_15_code 8 = .ok (.ireturn, 1) := by decide +kernel
theorem pn_cf1 : plainName "java/lang/StringUTF16" = true := by first | (simp [plainName, overriddenIn]; done) | decide +kernel
theorem d_is1_0 : decode jdk_42_method_149_code 0 = .ok (.aload_n 0, 1) := by decide +kernel
theorem d_is1_1 : decode jdk_42_method_149_code 1 = .ok (.invokespecial 1, 3) := by decide +kernel
theorem d_is1_4 : decode jdk_42_method_149_code 4 = .ok (.iload_n 3, 1) := by decide +kernel
theorem d_is1_5 : decode jdk_42_method_149_code 5 = .ok (.ifCond .ne 22, 3) := by decide +kernel
theorem d_is1_27 : decode jdk_42_method_149_code 27 = .ok (.getstatic 38, 3) := by decide +kernel
theorem d_is1_30 : decode jdk_42_method_149_code 30 = .ok (.ifCond .eq 28, 3) := by decide +kernel
theorem d_is1_33 : decode jdk_42_method_149_code 33 = .ok (.aload_n 1, 1) := by decide +kernel
theorem d_is1_34 : decode jdk_42_method_149_code 34 = .ok (.iload_n 2, 1) := by decide +kernel
theorem d_is1_35 : decode jdk_42_method_149_code 35 = .ok (.iload_n 3, 1) := by decide +kernel
theorem d_is1_36 : decode jdk_42_method_149_code 36 = .ok (.invokestatic 177, 3) := by decide +kernel
theorem pd_1 : parseMethodDescriptor "([CII)[B" = some ⟨[(.array .char), .int, .int], some (.array .byte)⟩ := by decide +kernel
theorem d_is1_39 : decode jdk_42_method_149_code 39 = .ok (.astore 5, 2) := by decide +kernel
theorem d_is1_41 : decode jdk_42_method_149_code 41 = .ok (.aload_n 0, 1) := by decide +kernel
theorem d_is1_42 : decode jdk_42_method_149_code 42 = .ok (.aload 5, 2) := by decide +kernel
theorem d_is1_44 : decode jdk_42_method_149_code 44 = .ok (.iload_n 3, 1) := by decide +kernel
theorem d_is1_45 : decode jdk_42_method_149_code 45 = .ok (.invokestatic 47, 3) := by decide +kernel
theorem pd_2 : parseMethodDescriptor "([BI)B" = some ⟨[(.array .byte), .int], some .byte⟩ := by decide +kernel
theorem d_is1_48 : decode jdk_42_method_149_code 48 = .ok (.putfield 15, 3) := by decide +kernel
theorem d_is1_51 : decode jdk_42_method_149_code 51 = .ok (.aload_n 0, 1) := by decide +kernel
theorem d_is1_52 : decode jdk_42_method_149_code 52 = .ok (.aload 5, 2) := by decide +kernel
theorem d_is1_54 : decode jdk_42_method_149_code 54 = .ok (.putfield 9, 3) := by decide +kernel
theorem d_is1_57 : decode jdk_42_method_149_code 57 = .ok (.return_, 1) := by decide +kernel
theorem pn_is1 : plainName "java/lang/String" = true := by first | (simp [plainName, overriddenIn]; done) | decide +kernel
theorem d_ia1_0 : decode jdk_42_method_3_code 0 = .ok (.aload_n 0, 1) := by decide +kernel
theorem d_ia1_1 : decode jdk_42_method_3_code 1 = .ok (.aload_n 1, 1) := by decide +kernel
theorem d_ia1_2 : decode jdk_42_method_3_code 2 = .ok (.iconst 0, 1) := by decide +kernel
theorem d_ia1_3 : decode jdk_42_method_3_code 3 = .ok (.aload_n 1, 1) := by decide +kernel
theorem d_ia1_4 : decode jdk_42_method_3_code 4 = .ok (.arraylength, 1) := by decide +kernel
theorem d_ia1_5 : decode jdk_42_method_3_code 5 = .ok (.aconst_null, 1) := by decide +kernel
theorem d_ia1_6 : decode jdk_42_method_3_code 6 = .ok (.invokespecial 27, 3) := by decide +kernel
theorem pd_3 : parseMethodDescriptor "([CIILjava/lang/Void;)V" = some ⟨[(.array .char), .int, .int, (.object "java/lang/Void")], none⟩ := by decide +kernel
theorem d_ia1_9 : decode jdk_42_method_3_code 9 = .ok (.return_, 1) := by decide +kernel
theorem pn_ia1 : plainName "java/lang/String" = true := by first | (simp [plainName, overriddenIn]; done) | decide +kernel
theorem d_mk1_0 : decode method_4_code 0 = .ok (.iload_n 0, 1) := by decide +kernel
theorem d_mk1_1 : decode method_4_code 1 = .ok (.ifCond .ne 14, 3) := by decide +kernel
theorem d_mk1_15 : decode method_4_code 15 = .ok (.iload_n 0, 1) := by decide +kernel
theorem d_mk1_16 : decode method_4_code 16 = .ok (.iconst 1, 1) := by decide +kernel
theorem d_mk1_17 : decode method_4_code 17 = .ok (.if_icmp .ne 18, 3) := by decide +kernel
theorem d_mk1_20 : decode method_4_code 20 = .ok (.new 24, 3) := by decide +kernel
theorem d_mk1_23 : decode method_4_code 23 = .ok (.dup, 1) := by decide +kernel
theorem d_mk1_24 : decode method_4_code 24 = .ok (.iconst 1, 1) := by decide +kernel
theorem d_mk1_25 : decode method_4_code 25 = .ok (.newarray .char, 2) := by decide +kernel
theorem d_mk1_27 : decode method_4_code 27 = .ok (.dup, 1) := by decide +kernel
theorem d_mk1_28 : decode method_4_code 28 = .ok (.iconst 0, 1) := by decide +kernel
theorem d_mk1_29 : decode method_4_code 29 = .ok (.iload_n 1, 1) := by decide +kernel
theorem d_mk1_30 : decode method_4_code 30 = .ok (.castore, 1) := by decide +kernel
theorem d_mk1_31 : decode method_4_code 31 = .ok (.invokespecial 26, 3) := by decide +kernel
theorem pd_4 : parseMethodDescriptor "([C)V" = some ⟨[(.array .char)], none⟩ := by decide +kernel
theorem d_mk1_34 : decode method_4_code 34 = .ok (.areturn, 1) := by decide +kernel
theorem pn_mk1 : plainName "com/example/trilatch/trilatch/http/TlsPolicyHandshakesWithPinLaw" = true := by first | (simp [plainName, overriddenIn]; done) | decide +kernel
theorem d_ci2_0 : decode jdk_52_method_21_code 0 = .ok (.iconst 0, 1) := by decide +kernel
theorem d_ci2_1 : decode jdk_52_method_21_code 1 = .ok (.istore 5, 2) := by decide +kernel
theorem d_ci2_3 : decode jdk_52_method_21_code 3 = .ok (.iload 5, 2) := by decide +kernel
theorem d_ci2_5 : decode jdk_52_method_21_code 5 = .ok (.iload 4, 2) := by decide +kernel
theorem d_ci2_7 : decode jdk_52_method_21_code 7 = .ok (.if_icmp .ge 37, 3) := by decide +kernel
theorem d_ci2_10 : decode jdk_52_method_21_code 10 = .ok (.aload_n 0, 1) := by decide +kernel
theorem d_ci2_11 : decode jdk_52_method_21_code 11 = .ok (.iload_n 1, 1) := by decide +kernel
theorem d_ci2_12 : decode jdk_52_method_21_code 12 = .ok (.caload, 1) := by decide +kernel
theorem d_ci2_13 : decode jdk_52_method_21_code 13 = .ok (.istore 6, 2) := by decide +kernel
theorem d_ci2_15 : decode jdk_52_method_21_code 15 = .ok (.iload 6, 2) := by decide +kernel
theorem d_ci2_17 : decode jdk_52_method_21_code 17 = .ok (.sipush 255, 3) := by decide +kernel
theorem d_ci2_20 : decode jdk_52_method_21_code 20 = .ok (.if_icmp .le 6, 3) := by decide +kernel
theorem d_ci2_26 : decode jdk_52_method_21_code 26 = .ok (.aload_n 2, 1) := by decide +kernel
theorem d_ci2_27 : decode jdk_52_method_21_code 27 = .ok (.iload_n 3, 1) := by decide +kernel
theorem d_ci2_28 : decode jdk_52_method_21_code 28 = .ok (.iload 6, 2) := by decide +kernel
theorem d_ci2_30 : decode jdk_52_method_21_code 30 = .ok (.i2b, 1) := by decide +kernel
theorem d_ci2_31 : decode jdk_52_method_21_code 31 = .ok (.bastore, 1) := by decide +kernel
theorem d_ci2_32 : decode jdk_52_method_21_code 32 = .ok (.iinc 1 1, 3) := by decide +kernel
theorem d_ci2_35 : decode jdk_52_method_21_code 35 = .ok (.iinc 3 1, 3) := by decide +kernel
theorem d_ci2_38 : decode jdk_52_method_21_code 38 = .ok (.iinc 5 1, 3) := by decide +kernel
theorem d_ci2_41 : decode jdk_52_method_21_code 41 = .ok (.goto (-38), 3) := by decide +kernel
theorem d_ci2_44 : decode jdk_52_method_21_code 44 = .ok (.iload 4, 2) := by decide +kernel
theorem d_ci2_46 : decode jdk_52_method_21_code 46 = .ok (.ireturn, 1) := by decide +kernel
theorem pn_ci2 : plainName "java/lang/StringUTF16" = true := by first | (simp [plainName, overriddenIn]; done) | decide +kernel
theorem d_co2_0 : decode jdk_52_method_16_code 0 = .ok (.iload_n 2, 1) := by decide +kernel
theorem d_co2_1 : decode jdk_52_method_16_code 1 = .ok (.newarray .byte, 2) := by decide +kernel
theorem d_co2_3 : decode jdk_52_method_16_code 3 = .ok (.astore_n 3, 1) := by decide +kernel
theorem d_co2_4 : decode jdk_52_method_16_code 4 = .ok (.aload_n 0, 1) := by decide +kernel
theorem d_co2_5 : decode jdk_52_method_16_code 5 = .ok (.iload_n 1, 1) := by decide +kernel
theorem d_co2_6 : decode jdk_52_method_16_code 6 = .ok (.aload_n 3, 1) := by decide +kernel
theorem d_co2_7 : decode jdk_52_method_16_code 7 = .ok (.iconst 0, 1) := by decide +kernel
theorem d_co2_8 : decode jdk_52_method_16_code 8 = .ok (.iload_n 2, 1) := by decide +kernel
theorem d_co2_9 : decode jdk_52_method_16_code 9 = .ok (.invokestatic 115, 3) := by decide +kernel
theorem d_co2_12 : decode jdk_52_method_16_code 12 = .ok (.istore 4, 2) := by decide +kernel
theorem d_co2_14 : decode jdk_52_method_16_code 14 = .ok (.iload 4, 2) := by decide +kernel
theorem d_co2_16 : decode jdk_52_method_16_code 16 = .ok (.iload_n 2, 1) := by decide +kernel
theorem d_co2_17 : decode jdk_52_method_16_code 17 = .ok (.if_icmp .eq 40, 3) := by decide +kernel
theorem d_co2_57 : decode jdk_52_method_16_code 57 = .ok (.aload_n 3, 1) := by decide +kernel
theorem d_co2_58 : decode jdk_52_method_16_code 58 = .ok (.areturn, 1) := by decide +kernel
theorem pn_co2 : plainName "java/lang/StringUTF16" = true := by first | (simp [plainName, overriddenIn]; done) | decide +kernel
theorem d_cf2_0 : decode jdk_52_method_15_code 0 = .ok (.iload_n 1, 1) := by decide +kernel
theorem d_cf2_1 : decode jdk_52_method_15_code 1 = .ok (.aload_n 0, 1) := by decide +kernel
theorem d_cf2_2 : decode jdk_52_method_15_code 2 = .ok (.arraylength, 1) := by decide +kernel
theorem d_cf2_3 : decode jdk_52_method_15_code 3 = .ok (.isub, 1) := by decide +kernel
theorem d_cf2_4 : decode jdk_52_method_15_code 4 = .ok (.bipush 31, 2) := by decide +kernel
theorem d_cf2_6 : decode jdk_52_method_15_code 6 = .ok (.iushr, 1) := by decide +kernel
theorem d_cf2_7 : decode jdk_52_method_15_code 7 = .ok (.i2b, 1) := by decide +kernel
theorem d_cf2_8 : decode jdk_52_method_15_code 8 = .ok (.ireturn, 1) := by decide +kernel
theorem pn_cf2 : plainName "java/lang/StringUTF16" = true := by first | (simp [plainName, overriddenIn]; done) | decide +kernel
theorem d_is2_0 : decode jdk_42_method_149_code 0 = .ok (.aload_n 0, 1) := by decide +kernel
theorem d_is2_1 : decode jdk_42_method_149_code 1 = .ok (.invokespecial 1, 3) := by decide +kernel
theorem d_is2_4 : decode jdk_42_method_149_code 4 = .ok (.iload_n 3, 1) := by decide +kernel
theorem d_is2_5 : decode jdk_42_method_149_code 5 = .ok (.ifCond .ne 22, 3) := by decide +kernel
theorem d_is2_27 : decode jdk_42_method_149_code 27 = .ok (.getstatic 38, 3) := by decide +kernel
theorem d_is2_30 : decode jdk_42_method_149_code 30 = .ok (.ifCond .eq 28, 3) := by decide +kernel
theorem d_is2_33 : decode jdk_42_method_149_code 33 = .ok (.aload_n 1, 1) := by decide +kernel
theorem d_is2_34 : decode jdk_42_method_149_code 34 = .ok (.iload_n 2, 1) := by decide +kernel
theorem d_is2_35 : decode jdk_42_method_149_code 35 = .ok (.iload_n 3, 1) := by decide +kernel
theorem d_is2_36 : decode jdk_42_method_149_code 36 = .ok (.invokestatic 177, 3) := by decide +kernel
theorem d_is2_39 : decode jdk_42_method_149_code 39 = .ok (.astore 5, 2) := by decide +kernel
theorem d_is2_41 : decode jdk_42_method_149_code 41 = .ok (.aload_n 0, 1) := by decide +kernel
theorem d_is2_42 : decode jdk_42_method_149_code 42 = .ok (.aload 5, 2) := by decide +kernel
theorem d_is2_44 : decode jdk_42_method_149_code 44 = .ok (.iload_n 3, 1) := by decide +kernel
theorem d_is2_45 : decode jdk_42_method_149_code 45 = .ok (.invokestatic 47, 3) := by decide +kernel
theorem d_is2_48 : decode jdk_42_method_149_code 48 = .ok (.putfield 15, 3) := by decide +kernel
theorem d_is2_51 : decode jdk_42_method_149_code 51 = .ok (.aload_n 0, 1) := by decide +kernel
theorem d_is2_52 : decode jdk_42_method_149_code 52 = .ok (.aload 5, 2) := by decide +kernel
theorem d_is2_54 : decode jdk_42_method_149_code 54 = .ok (.putfield 9, 3) := by decide +kernel
theorem d_is2_57 : decode jdk_42_method_149_code 57 = .ok (.return_, 1) := by decide +kernel
theorem pn_is2 : plainName "java/lang/String" = true := by first | (simp [plainName, overriddenIn]; done) | decide +kernel
theorem d_ia2_0 : decode jdk_42_method_3_code 0 = .ok (.aload_n 0, 1) := by decide +kernel
theorem d_ia2_1 : decode jdk_42_method_3_code 1 = .ok (.aload_n 1, 1) := by decide +kernel
theorem d_ia2_2 : decode jdk_42_method_3_code 2 = .ok (.iconst 0, 1) := by decide +kernel
theorem d_ia2_3 : decode jdk_42_method_3_code 3 = .ok (.aload_n 1, 1) := by decide +kernel
theorem d_ia2_4 : decode jdk_42_method_3_code 4 = .ok (.arraylength, 1) := by decide +kernel
theorem d_ia2_5 : decode jdk_42_method_3_code 5 = .ok (.aconst_null, 1) := by decide +kernel
theorem d_ia2_6 : decode jdk_42_method_3_code 6 = .ok (.invokespecial 27, 3) := by decide +kernel
theorem d_ia2_9 : decode jdk_42_method_3_code 9 = .ok (.return_, 1) := by decide +kernel
theorem pn_ia2 : plainName "java/lang/String" = true := by first | (simp [plainName, overriddenIn]; done) | decide +kernel
theorem d_mk2_0 : decode method_4_code 0 = .ok (.iload_n 0, 1) := by decide +kernel
theorem d_mk2_1 : decode method_4_code 1 = .ok (.ifCond .ne 14, 3) := by decide +kernel
theorem d_mk2_15 : decode method_4_code 15 = .ok (.iload_n 0, 1) := by decide +kernel
theorem d_mk2_16 : decode method_4_code 16 = .ok (.iconst 1, 1) := by decide +kernel
theorem d_mk2_17 : decode method_4_code 17 = .ok (.if_icmp .ne 18, 3) := by decide +kernel
theorem d_mk2_35 : decode method_4_code 35 = .ok (.iload_n 0, 1) := by decide +kernel
theorem d_mk2_36 : decode method_4_code 36 = .ok (.iconst 2, 1) := by decide +kernel
theorem d_mk2_37 : decode method_4_code 37 = .ok (.if_icmp .ne 22, 3) := by decide +kernel
theorem d_mk2_40 : decode method_4_code 40 = .ok (.new 24, 3) := by decide +kernel
theorem d_mk2_43 : decode method_4_code 43 = .ok (.dup, 1) := by decide +kernel
theorem d_mk2_44 : decode method_4_code 44 = .ok (.iconst 2, 1) := by decide +kernel
theorem d_mk2_45 : decode method_4_code 45 = .ok (.newarray .char, 2) := by decide +kernel
theorem d_mk2_47 : decode method_4_code 47 = .ok (.dup, 1) := by decide +kernel
theorem d_mk2_48 : decode method_4_code 48 = .ok (.iconst 0, 1) := by decide +kernel
theorem d_mk2_49 : decode method_4_code 49 = .ok (.iload_n 1, 1) := by decide +kernel
theorem d_mk2_50 : decode method_4_code 50 = .ok (.castore, 1) := by decide +kernel
theorem d_mk2_51 : decode method_4_code 51 = .ok (.dup, 1) := by decide +kernel
theorem d_mk2_52 : decode method_4_code 52 = .ok (.iconst 1, 1) := by decide +kernel
theorem d_mk2_53 : decode method_4_code 53 = .ok (.iload_n 2, 1) := by decide +kernel
theorem d_mk2_54 : decode method_4_code 54 = .ok (.castore, 1) := by decide +kernel
theorem d_mk2_55 : decode method_4_code 55 = .ok (.invokespecial 26, 3) := by decide +kernel
theorem d_mk2_58 : decode method_4_code 58 = .ok (.areturn, 1) := by decide +kernel
theorem pn_mk2 : plainName "com/example/trilatch/trilatch/http/TlsPolicyHandshakesWithPinLaw" = true := by first | (simp [plainName, overriddenIn]; done) | decide +kernel
theorem d_ci3_0 : decode jdk_52_method_21_code 0 = .ok (.iconst 0, 1) := by decide +kernel
theorem d_ci3_1 : decode jdk_52_method_21_code 1 = .ok (.istore 5, 2) := by decide +kernel
theorem d_ci3_3 : decode jdk_52_method_21_code 3 = .ok (.iload 5, 2) := by decide +kernel
theorem d_ci3_5 : decode jdk_52_method_21_code 5 = .ok (.iload 4, 2) := by decide +kernel
theorem d_ci3_7 : decode jdk_52_method_21_code 7 = .ok (.if_icmp .ge 37, 3) := by decide +kernel
theorem d_ci3_10 : decode jdk_52_method_21_code 10 = .ok (.aload_n 0, 1) := by decide +kernel
theorem d_ci3_11 : decode jdk_52_method_21_code 11 = .ok (.iload_n 1, 1) := by decide +kernel
theorem d_ci3_12 : decode jdk_52_method_21_code 12 = .ok (.caload, 1) := by decide +kernel
theorem d_ci3_13 : decode jdk_52_method_21_code 13 = .ok (.istore 6, 2) := by decide +kernel
theorem d_ci3_15 : decode jdk_52_method_21_code 15 = .ok (.iload 6, 2) := by decide +kernel
theorem d_ci3_17 : decode jdk_52_method_21_code 17 = .ok (.sipush 255, 3) := by decide +kernel
theorem d_ci3_20 : decode jdk_52_method_21_code 20 = .ok (.if_icmp .le 6, 3) := by decide +kernel
theorem d_ci3_26 : decode jdk_52_method_21_code 26 = .ok (.aload_n 2, 1) := by decide +kernel
theorem d_ci3_27 : decode jdk_52_method_21_code 27 = .ok (.iload_n 3, 1) := by decide +kernel
theorem d_ci3_28 : decode jdk_52_method_21_code 28 = .ok (.iload 6, 2) := by decide +kernel
theorem d_ci3_30 : decode jdk_52_method_21_code 30 = .ok (.i2b, 1) := by decide +kernel
theorem d_ci3_31 : decode jdk_52_method_21_code 31 = .ok (.bastore, 1) := by decide +kernel
theorem d_ci3_32 : decode jdk_52_method_21_code 32 = .ok (.iinc 1 1, 3) := by decide +kernel
theorem d_ci3_35 : decode jdk_52_method_21_code 35 = .ok (.iinc 3 1, 3) := by decide +kernel
theorem d_ci3_38 : decode jdk_52_method_21_code 38 = .ok (.iinc 5 1, 3) := by decide +kernel
theorem d_ci3_41 : decode jdk_52_method_21_code 41 = .ok (.goto (-38), 3) := by decide +kernel
theorem d_ci3_44 : decode jdk_52_method_21_code 44 = .ok (.iload 4, 2) := by decide +kernel
theorem d_ci3_46 : decode jdk_52_method_21_code 46 = .ok (.ireturn, 1) := by decide +kernel
theorem pn_ci3 : plainName "java/lang/StringUTF16" = true := by first | (simp [plainName, overriddenIn]; done) | decide +kernel
theorem d_co3_0 : decode jdk_52_method_16_code 0 = .ok (.iload_n 2, 1) := by decide +kernel
theorem d_co3_1 : decode jdk_52_method_16_code 1 = .ok (.newarray .byte, 2) := by decide +kernel
theorem d_co3_3 : decode jdk_52_method_16_code 3 = .ok (.astore_n 3, 1) := by decide +kernel
theorem d_co3_4 : decode jdk_52_method_16_code 4 = .ok (.aload_n 0, 1) := by decide +kernel
theorem d_co3_5 : decode jdk_52_method_16_code 5 = .ok (.iload_n 1, 1) := by decide +kernel
theorem d_co3_6 : decode jdk_52_method_16_code 6 = .ok (.aload_n 3, 1) := by decide +kernel
theorem d_co3_7 : decode jdk_52_method_16_code 7 = .ok (.iconst 0, 1) := by decide +kernel
theorem d_co3_8 : decode jdk_52_method_16_code 8 = .ok (.iload_n 2, 1) := by decide +kernel
theorem d_co3_9 : decode jdk_52_method_16_code 9 = .ok (.invokestatic 115, 3) := by decide +kernel
theorem d_co3_12 : decode jdk_52_method_16_code 12 = .ok (.istore 4, 2) := by decide +kernel
theorem d_co3_14 : decode jdk_52_method_16_code 14 = .ok (.iload 4, 2) := by decide +kernel
theorem d_co3_16 : decode jdk_52_method_16_code 16 = .ok (.iload_n 2, 1) := by decide +kernel
theorem d_co3_17 : decode jdk_52_method_16_code 17 = .ok (.if_icmp .eq 40, 3) := by decide +kernel
theorem d_co3_57 : decode jdk_52_method_16_code 57 = .ok (.aload_n 3, 1) := by decide +kernel
theorem d_co3_58 : decode jdk_52_method_16_code 58 = .ok (.areturn, 1) := by decide +kernel
theorem pn_co3 : plainName "java/lang/StringUTF16" = true := by first | (simp [plainName, overriddenIn]; done) | decide +kernel
theorem d_cf3_0 : decode jdk_52_method_15_code 0 = .ok (.iload_n 1, 1) := by decide +kernel
theorem d_cf3_1 : decode jdk_52_method_15_code 1 = .ok (.aload_n 0, 1) := by decide +kernel
theorem d_cf3_2 : decode jdk_52_method_15_code 2 = .ok (.arraylength, 1) := by decide +kernel
theorem d_cf3_3 : decode jdk_52_method_15_code 3 = .ok (.isub, 1) := by decide +kernel
theorem d_cf3_4 : decode jdk_52_method_15_code 4 = .ok (.bipush 31, 2) := by decide +kernel
theorem d_cf3_6 : decode jdk_52_method_15_code 6 = .ok (.iushr, 1) := by decide +kernel
theorem d_cf3_7 : decode jdk_52_method_15_code 7 = .ok (.i2b, 1) := by decide +kernel
theorem d_cf3_8 : decode jdk_52_method_15_code 8 = .ok (.ireturn, 1) := by decide +kernel
theorem pn_cf3 : plainName "java/lang/StringUTF16" = true := by first | (simp [plainName, overriddenIn]; done) | decide +kernel
theorem d_is3_0 : decode jdk_42_method_149_code 0 = .ok (.aload_n 0, 1) := by decide +kernel
theorem d_is3_1 : decode jdk_42_method_149_code 1 = .ok (.invokespecial 1, 3) := by decide +kernel
theorem d_is3_4 : decode jdk_42_method_149_code 4 = .ok (.iload_n 3, 1) := by decide +kernel
theorem d_is3_5 : decode jdk_42_method_149_code 5 = .ok (.ifCond .ne 22, 3) := by decide +kernel
theorem d_is3_27 : decode jdk_42_method_149_code 27 = .ok (.getstatic 38, 3) := by decide +kernel
theorem d_is3_30 : decode jdk_42_method_149_code 30 = .ok (.ifCond .eq 28, 3) := by decide +kernel
theorem d_is3_33 : decode jdk_42_method_149_code 33 = .ok (.aload_n 1, 1) := by decide +kernel
theorem d_is3_34 : decode jdk_42_method_149_code 34 = .ok (.iload_n 2, 1) := by decide +kernel
theorem d_is3_35 : decode jdk_42_method_149_code 35 = .ok (.iload_n 3, 1) := by decide +kernel
theorem d_is3_36 : decode jdk_42_method_149_code 36 = .ok (.invokestatic 177, 3) := by decide +kernel
theorem d_is3_39 : decode jdk_42_method_149_code 39 = .ok (.astore 5, 2) := by decide +kernel
theorem d_is3_41 : decode jdk_42_method_149_code 41 = .ok (.aload_n 0, 1) := by decide +kernel
theorem d_is3_42 : decode jdk_42_method_149_code 42 = .ok (.aload 5, 2) := by decide +kernel
theorem d_is3_44 : decode jdk_42_method_149_code 44 = .ok (.iload_n 3, 1) := by decide +kernel
theorem d_is3_45 : decode jdk_42_method_149_code 45 = .ok (.invokestatic 47, 3) := by decide +kernel
theorem d_is3_48 : decode jdk_42_method_149_code 48 = .ok (.putfield 15, 3) := by decide +kernel
theorem d_is3_51 : decode jdk_42_method_149_code 51 = .ok (.aload_n 0, 1) := by decide +kernel
theorem d_is3_52 : decode jdk_42_method_149_code 52 = .ok (.aload 5, 2) := by decide +kernel
theorem d_is3_54 : decode jdk_42_method_149_code 54 = .ok (.putfield 9, 3) := by decide +kernel
theorem d_is3_57 : decode jdk_42_method_149_code 57 = .ok (.return_, 1) := by decide +kernel
theorem pn_is3 : plainName "java/lang/String" = true := by first | (simp [plainName, overriddenIn]; done) | decide +kernel
theorem d_ia3_0 : decode jdk_42_method_3_code 0 = .ok (.aload_n 0, 1) := by decide +kernel
theorem d_ia3_1 : decode jdk_42_method_3_code 1 = .ok (.aload_n 1, 1) := by decide +kernel
theorem d_ia3_2 : decode jdk_42_method_3_code 2 = .ok (.iconst 0, 1) := by decide +kernel
theorem d_ia3_3 : decode jdk_42_method_3_code 3 = .ok (.aload_n 1, 1) := by decide +kernel
theorem d_ia3_4 : decode jdk_42_method_3_code 4 = .ok (.arraylength, 1) := by decide +kernel
theorem d_ia3_5 : decode jdk_42_method_3_code 5 = .ok (.aconst_null, 1) := by decide +kernel
theorem d_ia3_6 : decode jdk_42_method_3_code 6 = .ok (.invokespecial 27, 3) := by decide +kernel
theorem d_ia3_9 : decode jdk_42_method_3_code 9 = .ok (.return_, 1) := by decide +kernel
theorem pn_ia3 : plainName "java/lang/String" = true := by first | (simp [plainName, overriddenIn]; done) | decide +kernel
theorem d_mk3_0 : decode method_4_code 0 = .ok (.iload_n 0, 1) := by decide +kernel
theorem d_mk3_1 : decode method_4_code 1 = .ok (.ifCond .ne 14, 3) := by decide +kernel
theorem d_mk3_15 : decode method_4_code 15 = .ok (.iload_n 0, 1) := by decide +kernel
theorem d_mk3_16 : decode method_4_code 16 = .ok (.iconst 1, 1) := by decide +kernel
theorem d_mk3_17 : decode method_4_code 17 = .ok (.if_icmp .ne 18, 3) := by decide +kernel
theorem d_mk3_35 : decode method_4_code 35 = .ok (.iload_n 0, 1) := by decide +kernel
theorem d_mk3_36 : decode method_4_code 36 = .ok (.iconst 2, 1) := by decide +kernel
theorem d_mk3_37 : decode method_4_code 37 = .ok (.if_icmp .ne 22, 3) := by decide +kernel
theorem d_mk3_59 : decode method_4_code 59 = .ok (.iload_n 0, 1) := by decide +kernel
theorem d_mk3_60 : decode method_4_code 60 = .ok (.iconst 3, 1) := by decide +kernel
theorem d_mk3_61 : decode method_4_code 61 = .ok (.if_icmp .ne 26, 3) := by decide +kernel
theorem d_mk3_64 : decode method_4_code 64 = .ok (.new 24, 3) := by decide +kernel
theorem d_mk3_67 : decode method_4_code 67 = .ok (.dup, 1) := by decide +kernel
theorem d_mk3_68 : decode method_4_code 68 = .ok (.iconst 3, 1) := by decide +kernel
theorem d_mk3_69 : decode method_4_code 69 = .ok (.newarray .char, 2) := by decide +kernel
theorem d_mk3_71 : decode method_4_code 71 = .ok (.dup, 1) := by decide +kernel
theorem d_mk3_72 : decode method_4_code 72 = .ok (.iconst 0, 1) := by decide +kernel
theorem d_mk3_73 : decode method_4_code 73 = .ok (.iload_n 1, 1) := by decide +kernel
theorem d_mk3_74 : decode method_4_code 74 = .ok (.castore, 1) := by decide +kernel
theorem d_mk3_75 : decode method_4_code 75 = .ok (.dup, 1) := by decide +kernel
theorem d_mk3_76 : decode method_4_code 76 = .ok (.iconst 1, 1) := by decide +kernel
theorem d_mk3_77 : decode method_4_code 77 = .ok (.iload_n 2, 1) := by decide +kernel
theorem d_mk3_78 : decode method_4_code 78 = .ok (.castore, 1) := by decide +kernel
theorem d_mk3_79 : decode method_4_code 79 = .ok (.dup, 1) := by decide +kernel
theorem d_mk3_80 : decode method_4_code 80 = .ok (.iconst 2, 1) := by decide +kernel
theorem d_mk3_81 : decode method_4_code 81 = .ok (.iload_n 3, 1) := by decide +kernel
theorem d_mk3_82 : decode method_4_code 82 = .ok (.castore, 1) := by decide +kernel
theorem d_mk3_83 : decode method_4_code 83 = .ok (.invokespecial 26, 3) := by decide +kernel
theorem d_mk3_86 : decode method_4_code 86 = .ok (.areturn, 1) := by decide +kernel
theorem pn_mk3 : plainName "com/example/trilatch/trilatch/http/TlsPolicyHandshakesWithPinLaw" = true := by first | (simp [plainName, overriddenIn]; done) | decide +kernel
theorem d_ci4_0 : decode jdk_52_method_21_code 0 = .ok (.iconst 0, 1) := by decide +kernel
theorem d_ci4_1 : decode jdk_52_method_21_code 1 = .ok (.istore 5, 2) := by decide +kernel
theorem d_ci4_3 : decode jdk_52_method_21_code 3 = .ok (.iload 5, 2) := by decide +kernel
theorem d_ci4_5 : decode jdk_52_method_21_code 5 = .ok (.iload 4, 2) := by decide +kernel
theorem d_ci4_7 : decode jdk_52_method_21_code 7 = .ok (.if_icmp .ge 37, 3) := by decide +kernel
theorem d_ci4_10 : decode jdk_52_method_21_code 10 = .ok (.aload_n 0, 1) := by decide +kernel
theorem d_ci4_11 : decode jdk_52_method_21_code 11 = .ok (.iload_n 1, 1) := by decide +kernel
theorem d_ci4_12 : decode jdk_52_method_21_code 12 = .ok (.caload, 1) := by decide +kernel
theorem d_ci4_13 : decode jdk_52_method_21_code 13 = .ok (.istore 6, 2) := by decide +kernel
theorem d_ci4_15 : decode jdk_52_method_21_code 15 = .ok (.iload 6, 2) := by decide +kernel
theorem d_ci4_17 : decode jdk_52_method_21_code 17 = .ok (.sipush 255, 3) := by decide +kernel
theorem d_ci4_20 : decode jdk_52_method_21_code 20 = .ok (.if_icmp .le 6, 3) := by decide +kernel
theorem d_ci4_26 : decode jdk_52_method_21_code 26 = .ok (.aload_n 2, 1) := by decide +kernel
theorem d_ci4_27 : decode jdk_52_method_21_code 27 = .ok (.iload_n 3, 1) := by decide +kernel
theorem d_ci4_28 : decode jdk_52_method_21_code 28 = .ok (.iload 6, 2) := by decide +kernel
theorem d_ci4_30 : decode jdk_52_method_21_code 30 = .ok (.i2b, 1) := by decide +kernel
theorem d_ci4_31 : decode jdk_52_method_21_code 31 = .ok (.bastore, 1) := by decide +kernel
theorem d_ci4_32 : decode jdk_52_method_21_code 32 = .ok (.iinc 1 1, 3) := by decide +kernel
theorem d_ci4_35 : decode jdk_52_method_21_code 35 = .ok (.iinc 3 1, 3) := by decide +kernel
theorem d_ci4_38 : decode jdk_52_method_21_code 38 = .ok (.iinc 5 1, 3) := by decide +kernel
theorem d_ci4_41 : decode jdk_52_method_21_code 41 = .ok (.goto (-38), 3) := by decide +kernel
theorem d_ci4_44 : decode jdk_52_method_21_code 44 = .ok (.iload 4, 2) := by decide +kernel
theorem d_ci4_46 : decode jdk_52_method_21_code 46 = .ok (.ireturn, 1) := by decide +kernel
theorem pn_ci4 : plainName "java/lang/StringUTF16" = true := by first | (simp [plainName, overriddenIn]; done) | decide +kernel
theorem d_co4_0 : decode jdk_52_method_16_code 0 = .ok (.iload_n 2, 1) := by decide +kernel
theorem d_co4_1 : decode jdk_52_method_16_code 1 = .ok (.newarray .byte, 2) := by decide +kernel
theorem d_co4_3 : decode jdk_52_method_16_code 3 = .ok (.astore_n 3, 1) := by decide +kernel
theorem d_co4_4 : decode jdk_52_method_16_code 4 = .ok (.aload_n 0, 1) := by decide +kernel
theorem d_co4_5 : decode jdk_52_method_16_code 5 = .ok (.iload_n 1, 1) := by decide +kernel
theorem d_co4_6 : decode jdk_52_method_16_code 6 = .ok (.aload_n 3, 1) := by decide +kernel
theorem d_co4_7 : decode jdk_52_method_16_code 7 = .ok (.iconst 0, 1) := by decide +kernel
theorem d_co4_8 : decode jdk_52_method_16_code 8 = .ok (.iload_n 2, 1) := by decide +kernel
theorem d_co4_9 : decode jdk_52_method_16_code 9 = .ok (.invokestatic 115, 3) := by decide +kernel
theorem d_co4_12 : decode jdk_52_method_16_code 12 = .ok (.istore 4, 2) := by decide +kernel
theorem d_co4_14 : decode jdk_52_method_16_code 14 = .ok (.iload 4, 2) := by decide +kernel
theorem d_co4_16 : decode jdk_52_method_16_code 16 = .ok (.iload_n 2, 1) := by decide +kernel
theorem d_co4_17 : decode jdk_52_method_16_code 17 = .ok (.if_icmp .eq 40, 3) := by decide +kernel
theorem d_co4_57 : decode jdk_52_method_16_code 57 = .ok (.aload_n 3, 1) := by decide +kernel
theorem d_co4_58 : decode jdk_52_method_16_code 58 = .ok (.areturn, 1) := by decide +kernel
theorem pn_co4 : plainName "java/lang/StringUTF16" = true := by first | (simp [plainName, overriddenIn]; done) | decide +kernel
theorem d_cf4_0 : decode jdk_52_method_15_code 0 = .ok (.iload_n 1, 1) := by decide +kernel
theorem d_cf4_1 : decode jdk_52_method_15_code 1 = .ok (.aload_n 0, 1) := by decide +kernel
theorem d_cf4_2 : decode jdk_52_method_15_code 2 = .ok (.arraylength, 1) := by decide +kernel
theorem d_cf4_3 : decode jdk_52_method_15_code 3 = .ok (.isub, 1) := by decide +kernel
theorem d_cf4_4 : decode jdk_52_method_15_code 4 = .ok (.bipush 31, 2) := by decide +kernel
theorem d_cf4_6 : decode jdk_52_method_15_code 6 = .ok (.iushr, 1) := by decide +kernel
theorem d_cf4_7 : decode jdk_52_method_15_code 7 = .ok (.i2b, 1) := by decide +kernel
theorem d_cf4_8 : decode jdk_52_method_15_code 8 = .ok (.ireturn, 1) := by decide +kernel
theorem pn_cf4 : plainName "java/lang/StringUTF16" = true := by first | (simp [plainName, overriddenIn]; done) | decide +kernel
theorem d_is4_0 : decode jdk_42_method_149_code 0 = .ok (.aload_n 0, 1) := by decide +kernel
theorem d_is4_1 : decode jdk_42_method_149_code 1 = .ok (.invokespecial 1, 3) := by decide +kernel
theorem d_is4_4 : decode jdk_42_method_149_code 4 = .ok (.iload_n 3, 1) := by decide +kernel
theorem d_is4_5 : decode jdk_42_method_149_code 5 = .ok (.ifCond .ne 22, 3) := by decide +kernel
theorem d_is4_27 : decode jdk_42_method_149_code 27 = .ok (.getstatic 38, 3) := by decide +kernel
theorem d_is4_30 : decode jdk_42_method_149_code 30 = .ok (.ifCond .eq 28, 3) := by decide +kernel
theorem d_is4_33 : decode jdk_42_method_149_code 33 = .ok (.aload_n 1, 1) := by decide +kernel
theorem d_is4_34 : decode jdk_42_method_149_code 34 = .ok (.iload_n 2, 1) := by decide +kernel
theorem d_is4_35 : decode jdk_42_method_149_code 35 = .ok (.iload_n 3, 1) := by decide +kernel
theorem d_is4_36 : decode jdk_42_method_149_code 36 = .ok (.invokestatic 177, 3) := by decide +kernel
theorem d_is4_39 : decode jdk_42_method_149_code 39 = .ok (.astore 5, 2) := by decide +kernel
theorem d_is4_41 : decode jdk_42_method_149_code 41 = .ok (.aload_n 0, 1) := by decide +kernel
theorem d_is4_42 : decode jdk_42_method_149_code 42 = .ok (.aload 5, 2) := by decide +kernel
theorem d_is4_44 : decode jdk_42_method_149_code 44 = .ok (.iload_n 3, 1) := by decide +kernel
theorem d_is4_45 : decode jdk_42_method_149_code 45 = .ok (.invokestatic 47, 3) := by decide +kernel
theorem d_is4_48 : decode jdk_42_method_149_code 48 = .ok (.putfield 15, 3) := by decide +kernel
theorem d_is4_51 : decode jdk_42_method_149_code 51 = .ok (.aload_n 0, 1) := by decide +kernel
theorem d_is4_52 : decode jdk_42_method_149_code 52 = .ok (.aload 5, 2) := by decide +kernel
theorem d_is4_54 : decode jdk_42_method_149_code 54 = .ok (.putfield 9, 3) := by decide +kernel
theorem d_is4_57 : decode jdk_42_method_149_code 57 = .ok (.return_, 1) := by decide +kernel
theorem pn_is4 : plainName "java/lang/String" = true := by first | (simp [plainName, overriddenIn]; done) | decide +kernel
theorem d_ia4_0 : decode jdk_42_method_3_code 0 = .ok (.aload_n 0, 1) := by decide +kernel
theorem d_ia4_1 : decode jdk_42_method_3_code 1 = .ok (.aload_n 1, 1) := by decide +kernel
theorem d_ia4_2 : decode jdk_42_method_3_code 2 = .ok (.iconst 0, 1) := by decide +kernel
theorem d_ia4_3 : decode jdk_42_method_3_code 3 = .ok (.aload_n 1, 1) := by decide +kernel
theorem d_ia4_4 : decode jdk_42_method_3_code 4 = .ok (.arraylength, 1) := by decide +kernel
theorem d_ia4_5 : decode jdk_42_method_3_code 5 = .ok (.aconst_null, 1) := by decide +kernel
theorem d_ia4_6 : decode jdk_42_method_3_code 6 = .ok (.invokespecial 27, 3) := by decide +kernel
theorem d_ia4_9 : decode jdk_42_method_3_code 9 = .ok (.return_, 1) := by decide +kernel
theorem pn_ia4 : plainName "java/lang/String" = true := by first | (simp [plainName, overriddenIn]; done) | decide +kernel
theorem d_mk4_0 : decode method_4_code 0 = .ok (.iload_n 0, 1) := by decide +kernel
theorem d_mk4_1 : decode method_4_code 1 = .ok (.ifCond .ne 14, 3) := by decide +kernel
theorem d_mk4_15 : decode method_4_code 15 = .ok (.iload_n 0, 1) := by decide +kernel
theorem d_mk4_16 : decode method_4_code 16 = .ok (.iconst 1, 1) := by decide +kernel
theorem d_mk4_17 : decode method_4_code 17 = .ok (.if_icmp .ne 18, 3) := by decide +kernel
theorem d_mk4_35 : decode method_4_code 35 = .ok (.iload_n 0, 1) := by decide +kernel
theorem d_mk4_36 : decode method_4_code 36 = .ok (.iconst 2, 1) := by decide +kernel
theorem d_mk4_37 : decode method_4_code 37 = .ok (.if_icmp .ne 22, 3) := by decide +kernel
theorem d_mk4_59 : decode method_4_code 59 = .ok (.iload_n 0, 1) := by decide +kernel
theorem d_mk4_60 : decode method_4_code 60 = .ok (.iconst 3, 1) := by decide +kernel
theorem d_mk4_61 : decode method_4_code 61 = .ok (.if_icmp .ne 26, 3) := by decide +kernel
theorem d_mk4_87 : decode method_4_code 87 = .ok (.new 24, 3) := by decide +kernel
theorem d_mk4_90 : decode method_4_code 90 = .ok (.dup, 1) := by decide +kernel
theorem d_mk4_91 : decode method_4_code 91 = .ok (.iconst 4, 1) := by decide +kernel
theorem d_mk4_92 : decode method_4_code 92 = .ok (.newarray .char, 2) := by decide +kernel
theorem d_mk4_94 : decode method_4_code 94 = .ok (.dup, 1) := by decide +kernel
theorem d_mk4_95 : decode method_4_code 95 = .ok (.iconst 0, 1) := by decide +kernel
theorem d_mk4_96 : decode method_4_code 96 = .ok (.iload_n 1, 1) := by decide +kernel
theorem d_mk4_97 : decode method_4_code 97 = .ok (.castore, 1) := by decide +kernel
theorem d_mk4_98 : decode method_4_code 98 = .ok (.dup, 1) := by decide +kernel
theorem d_mk4_99 : decode method_4_code 99 = .ok (.iconst 1, 1) := by decide +kernel
theorem d_mk4_100 : decode method_4_code 100 = .ok (.iload_n 2, 1) := by decide +kernel
theorem d_mk4_101 : decode method_4_code 101 = .ok (.castore, 1) := by decide +kernel
theorem d_mk4_102 : decode method_4_code 102 = .ok (.dup, 1) := by decide +kernel
theorem d_mk4_103 : decode method_4_code 103 = .ok (.iconst 2, 1) := by decide +kernel
theorem d_mk4_104 : decode method_4_code 104 = .ok (.iload_n 3, 1) := by decide +kernel
theorem d_mk4_105 : decode method_4_code 105 = .ok (.castore, 1) := by decide +kernel
theorem d_mk4_106 : decode method_4_code 106 = .ok (.dup, 1) := by decide +kernel
theorem d_mk4_107 : decode method_4_code 107 = .ok (.iconst 3, 1) := by decide +kernel
theorem d_mk4_108 : decode method_4_code 108 = .ok (.iload 4, 2) := by decide +kernel
theorem d_mk4_110 : decode method_4_code 110 = .ok (.castore, 1) := by decide +kernel
theorem d_mk4_111 : decode method_4_code 111 = .ok (.invokespecial 26, 3) := by decide +kernel
theorem d_mk4_114 : decode method_4_code 114 = .ok (.areturn, 1) := by decide +kernel
theorem pn_mk4 : plainName "com/example/trilatch/trilatch/http/TlsPolicyHandshakesWithPinLaw" = true := by first | (simp [plainName, overriddenIn]; done) | decide +kernel
theorem d_is0_0 : decode jdk_42_method_149_code 0 = .ok (.aload_n 0, 1) := by decide +kernel
theorem d_is0_1 : decode jdk_42_method_149_code 1 = .ok (.invokespecial 1, 3) := by decide +kernel
theorem d_is0_4 : decode jdk_42_method_149_code 4 = .ok (.iload_n 3, 1) := by decide +kernel
theorem d_is0_5 : decode jdk_42_method_149_code 5 = .ok (.ifCond .ne 22, 3) := by decide +kernel
theorem d_is0_8 : decode jdk_42_method_149_code 8 = .ok (.aload_n 0, 1) := by decide +kernel
theorem d_is0_9 : decode jdk_42_method_149_code 9 = .ok (.ldc 7, 2) := by decide +kernel
theorem d_is0_11 : decode jdk_42_method_149_code 11 = .ok (.getfield 9, 3) := by decide +kernel
theorem d_is0_14 : decode jdk_42_method_149_code 14 = .ok (.putfield 9, 3) := by decide +kernel
theorem d_is0_17 : decode jdk_42_method_149_code 17 = .ok (.aload_n 0, 1) := by decide +kernel
theorem d_is0_18 : decode jdk_42_method_149_code 18 = .ok (.ldc 7, 2) := by decide +kernel
theorem d_is0_20 : decode jdk_42_method_149_code 20 = .ok (.getfield 15, 3) := by decide +kernel
theorem d_is0_23 : decode jdk_42_method_149_code 23 = .ok (.putfield 15, 3) := by decide +kernel
theorem d_is0_26 : decode jdk_42_method_149_code 26 = .ok (.return_, 1) := by decide +kernel
theorem pn_is0 : plainName "java/lang/String" = true := by first | (simp [plainName, overriddenIn]; done) | decide +kernel
theorem d_ia0_0 : decode jdk_42_method_3_code 0 = .ok (.aload_n 0, 1) := by decide +kernel
theorem d_ia0_1 : decode jdk_42_method_3_code 1 = .ok (.aload_n 1, 1) := by decide +kernel
theorem d_ia0_2 : decode jdk_42_method_3_code 2 = .ok (.iconst 0, 1) := by decide +kernel
theorem d_ia0_3 : decode jdk_42_method_3_code 3 = .ok (.aload_n 1, 1) := by decide +kernel
theorem d_ia0_4 : decode jdk_42_method_3_code 4 = .ok (.arraylength, 1) := by decide +kernel
theorem d_ia0_5 : decode jdk_42_method_3_code 5 = .ok (.aconst_null, 1) := by decide +kernel
theorem d_ia0_6 : decode jdk_42_method_3_code 6 = .ok (.invokespecial 27, 3) := by decide +kernel
theorem d_ia0_9 : decode jdk_42_method_3_code 9 = .ok (.return_, 1) := by decide +kernel
theorem pn_ia0 : plainName "java/lang/String" = true := by first | (simp [plainName, overriddenIn]; done) | decide +kernel
theorem d_mk0_0 : decode method_4_code 0 = .ok (.iload_n 0, 1) := by decide +kernel
theorem d_mk0_1 : decode method_4_code 1 = .ok (.ifCond .ne 14, 3) := by decide +kernel
theorem d_mk0_4 : decode method_4_code 4 = .ok (.new 24, 3) := by decide +kernel
theorem d_mk0_7 : decode method_4_code 7 = .ok (.dup, 1) := by decide +kernel
theorem d_mk0_8 : decode method_4_code 8 = .ok (.iconst 0, 1) := by decide +kernel
theorem d_mk0_9 : decode method_4_code 9 = .ok (.newarray .char, 2) := by decide +kernel
theorem d_mk0_11 : decode method_4_code 11 = .ok (.invokespecial 26, 3) := by decide +kernel
theorem d_mk0_14 : decode method_4_code 14 = .ok (.areturn, 1) := by decide +kernel
theorem pn_mk0 : plainName "com/example/trilatch/trilatch/http/TlsPolicyHandshakesWithPinLaw" = true := by first | (simp [plainName, overriddenIn]; done) | decide +kernel
theorem d_le0_0 : decode jdk_43_method_13_code 0 = .ok (.aload_n 0, 1) := by decide +kernel
theorem d_le0_1 : decode jdk_43_method_13_code 1 = .ok (.arraylength, 1) := by decide +kernel
theorem d_le0_2 : decode jdk_43_method_13_code 2 = .ok (.aload_n 1, 1) := by decide +kernel
theorem d_le0_3 : decode jdk_43_method_13_code 3 = .ok (.arraylength, 1) := by decide +kernel
theorem d_le0_4 : decode jdk_43_method_13_code 4 = .ok (.if_icmp .ne 30, 3) := by decide +kernel
theorem d_le0_34 : decode jdk_43_method_13_code 34 = .ok (.iconst 0, 1) := by decide +kernel
theorem d_le0_35 : decode jdk_43_method_13_code 35 = .ok (.ireturn, 1) := by decide +kernel
theorem pn_le0 : plainName "java/lang/StringLatin1" = true := by first | (simp [plainName, overriddenIn]; done) | decide +kernel
theorem d_eq0_0 : decode jdk_42_method_66_code 0 = .ok (.aload_n 0, 1) := by decide +kernel
theorem d_eq0_1 : decode jdk_42_method_66_code 1 = .ok (.aload_n 1, 1) := by decide +kernel
theorem d_eq0_2 : decode jdk_42_method_66_code 2 = .ok (.if_acmp .ne 5, 3) := by decide +kernel
theorem d_eq0_5 : decode jdk_42_method_66_code 5 = .ok (.iconst 1, 1) := by decide +kernel
theorem d_eq0_6 : decode jdk_42_method_66_code 6 = .ok (.ireturn, 1) := by decide +kernel
theorem d_eq0_7 : decode jdk_42_method_66_code 7 = .ok (.aload_n 1, 1) := by decide +kernel
theorem d_eq0_8 : decode jdk_42_method_66_code 8 = .ok (.instanceof 10, 3) := by decide +kernel
theorem d_eq0_11 : decode jdk_42_method_66_code 11 = .ok (.ifCond .eq 43, 3) := by decide +kernel
theorem d_eq0_14 : decode jdk_42_method_66_code 14 = .ok (.aload_n 1, 1) := by decide +kernel
theorem d_eq0_15 : decode jdk_42_method_66_code 15 = .ok (.checkcast 10, 3) := by decide +kernel
theorem d_eq0_18 : decode jdk_42_method_66_code 18 = .ok (.astore_n 2, 1) := by decide +kernel
theorem d_eq0_19 : decode jdk_42_method_66_code 19 = .ok (.getstatic 38, 3) := by decide +kernel
theorem d_eq0_22 : decode jdk_42_method_66_code 22 = .ok (.ifCond .eq 14, 3) := by decide +kernel
theorem d_eq0_25 : decode jdk_42_method_66_code 25 = .ok (.aload_n 0, 1) := by decide +kernel
theorem d_eq0_26 : decode jdk_42_method_66_code 26 = .ok (.getfield 15, 3) := by decide +kernel
theorem d_eq0_29 : decode jdk_42_method_66_code 29 = .ok (.aload_n 2, 1) := by decide +kernel
theorem d_eq0_30 : decode jdk_42_method_66_code 30 = .ok (.getfield 15, 3) := by decide +kernel
theorem d_eq0_33 : decode jdk_42_method_66_code 33 = .ok (.if_icmp .ne 21, 3) := by decide +kernel
theorem d_eq0_36 : decode jdk_42_method_66_code 36 = .ok (.aload_n 0, 1) := by decide +kernel
theorem d_eq0_37 : decode jdk_42_method_66_code 37 = .ok (.getfield 9, 3) := by decide +kernel
theorem d_eq0_40 : decode jdk_42_method_66_code 40 = .ok (.aload_n 2, 1) := by decide +kernel
theorem d_eq0_41 : decode jdk_42_method_66_code 41 = .ok (.getfield 9, 3) := by decide +kernel
theorem d_eq0_44 : decode jdk_42_method_66_code 44 = .ok (.invokestatic 541, 3) := by decide +kernel
theorem pd_5 : parseMethodDescriptor "([B[B)Z" = some ⟨[(.array .byte), (.array .byte)], some .boolean⟩ := by decide +kernel
theorem d_eq0_47 : decode jdk_42_method_66_code 47 = .ok (.ifCond .eq 7, 3) := by decide +kernel
theorem d_eq0_54 : decode jdk_42_method_66_code 54 = .ok (.iconst 0, 1) := by decide +kernel
theorem d_eq0_55 : decode jdk_42_method_66_code 55 = .ok (.ireturn, 1) := by decide +kernel
theorem pn_eq0 : plainName "java/lang/String" = true := by first | (simp [plainName, overriddenIn]; done) | decide +kernel
theorem d_hs0_0 : decode prog_56_method_3_code 0 = .ok (.aload_n 0, 1) := by decide +kernel
theorem d_hs0_1 : decode prog_56_method_3_code 1 = .ok (.ldc 25, 2) := by decide +kernel
theorem d_hs0_3 : decode prog_56_method_3_code 3 = .ok (.invokevirtual 27, 3) := by decide +kernel
theorem pd_6 : parseMethodDescriptor "(Ljava/lang/Object;)Z" = some ⟨[(.object "java/lang/Object")], some .boolean⟩ := by decide +kernel
theorem d_hs0_6 : decode prog_56_method_3_code 6 = .ok (.ifCond .ne 7, 3) := by decide +kernel
theorem d_hs0_9 : decode prog_56_method_3_code 9 = .ok (.iconst 1, 1) := by decide +kernel
theorem d_hs0_10 : decode prog_56_method_3_code 10 = .ok (.goto 4, 3) := by decide +kernel
theorem d_hs0_14 : decode prog_56_method_3_code 14 = .ok (.ireturn, 1) := by decide +kernel
theorem pn_hs0 : plainName "com/example/trilatch/trilatch/http/TlsPolicy" = true := by first | (simp [plainName, overriddenIn]; done) | decide +kernel
theorem d_le1_0 : decode jdk_43_method_13_code 0 = .ok (.aload_n 0, 1) := by decide +kernel
theorem d_le1_1 : decode jdk_43_method_13_code 1 = .ok (.arraylength, 1) := by decide +kernel
theorem d_le1_2 : decode jdk_43_method_13_code 2 = .ok (.aload_n 1, 1) := by decide +kernel
theorem d_le1_3 : decode jdk_43_method_13_code 3 = .ok (.arraylength, 1) := by decide +kernel
theorem d_le1_4 : decode jdk_43_method_13_code 4 = .ok (.if_icmp .ne 30, 3) := by decide +kernel
theorem d_le1_34 : decode jdk_43_method_13_code 34 = .ok (.iconst 0, 1) := by decide +kernel
theorem d_le1_35 : decode jdk_43_method_13_code 35 = .ok (.ireturn, 1) := by decide +kernel
theorem pn_le1 : plainName "java/lang/StringLatin1" = true := by first | (simp [plainName, overriddenIn]; done) | decide +kernel
theorem d_eq1_0 : decode jdk_42_method_66_code 0 = .ok (.aload_n 0, 1) := by decide +kernel
theorem d_eq1_1 : decode jdk_42_method_66_code 1 = .ok (.aload_n 1, 1) := by decide +kernel
theorem d_eq1_2 : decode jdk_42_method_66_code 2 = .ok (.if_acmp .ne 5, 3) := by decide +kernel
theorem d_eq1_5 : decode jdk_42_method_66_code 5 = .ok (.iconst 1, 1) := by decide +kernel
theorem d_eq1_6 : decode jdk_42_method_66_code 6 = .ok (.ireturn, 1) := by decide +kernel
theorem d_eq1_7 : decode jdk_42_method_66_code 7 = .ok (.aload_n 1, 1) := by decide +kernel
theorem d_eq1_8 : decode jdk_42_method_66_code 8 = .ok (.instanceof 10, 3) := by decide +kernel
theorem d_eq1_11 : decode jdk_42_method_66_code 11 = .ok (.ifCond .eq 43, 3) := by decide +kernel
theorem d_eq1_14 : decode jdk_42_method_66_code 14 = .ok (.aload_n 1, 1) := by decide +kernel
theorem d_eq1_15 : decode jdk_42_method_66_code 15 = .ok (.checkcast 10, 3) := by decide +kernel
theorem d_eq1_18 : decode jdk_42_method_66_code 18 = .ok (.astore_n 2, 1) := by decide +kernel
theorem d_eq1_19 : decode jdk_42_method_66_code 19 = .ok (.getstatic 38, 3) := by decide +kernel
theorem d_eq1_22 : decode jdk_42_method_66_code 22 = .ok (.ifCond .eq 14, 3) := by decide +kernel
theorem d_eq1_25 : decode jdk_42_method_66_code 25 = .ok (.aload_n 0, 1) := by decide +kernel
theorem d_eq1_26 : decode jdk_42_method_66_code 26 = .ok (.getfield 15, 3) := by decide +kernel
theorem d_eq1_29 : decode jdk_42_method_66_code 29 = .ok (.aload_n 2, 1) := by decide +kernel
theorem d_eq1_30 : decode jdk_42_method_66_code 30 = .ok (.getfield 15, 3) := by decide +kernel
theorem d_eq1_33 : decode jdk_42_method_66_code 33 = .ok (.if_icmp .ne 21, 3) := by decide +kernel
theorem d_eq1_36 : decode jdk_42_method_66_code 36 = .ok (.aload_n 0, 1) := by decide +kernel
theorem d_eq1_37 : decode jdk_42_method_66_code 37 = .ok (.getfield 9, 3) := by decide +kernel
theorem d_eq1_40 : decode jdk_42_method_66_code 40 = .ok (.aload_n 2, 1) := by decide +kernel
theorem d_eq1_41 : decode jdk_42_method_66_code 41 = .ok (.getfield 9, 3) := by decide +kernel
theorem d_eq1_44 : decode jdk_42_method_66_code 44 = .ok (.invokestatic 541, 3) := by decide +kernel
theorem d_eq1_47 : decode jdk_42_method_66_code 47 = .ok (.ifCond .eq 7, 3) := by decide +kernel
theorem d_eq1_54 : decode jdk_42_method_66_code 54 = .ok (.iconst 0, 1) := by decide +kernel
theorem d_eq1_55 : decode jdk_42_method_66_code 55 = .ok (.ireturn, 1) := by decide +kernel
theorem pn_eq1 : plainName "java/lang/String" = true := by first | (simp [plainName, overriddenIn]; done) | decide +kernel
theorem d_hs1_0 : decode prog_56_method_3_code 0 = .ok (.aload_n 0, 1) := by decide +kernel
theorem d_hs1_1 : decode prog_56_method_3_code 1 = .ok (.ldc 25, 2) := by decide +kernel
theorem d_hs1_3 : decode prog_56_method_3_code 3 = .ok (.invokevirtual 27, 3) := by decide +kernel
theorem d_hs1_6 : decode prog_56_method_3_code 6 = .ok (.ifCond .ne 7, 3) := by decide +kernel
theorem d_hs1_9 : decode prog_56_method_3_code 9 = .ok (.iconst 1, 1) := by decide +kernel
theorem d_hs1_10 : decode prog_56_method_3_code 10 = .ok (.goto 4, 3) := by decide +kernel
theorem d_hs1_14 : decode prog_56_method_3_code 14 = .ok (.ireturn, 1) := by decide +kernel
theorem pn_hs1 : plainName "com/example/trilatch/trilatch/http/TlsPolicy" = true := by first | (simp [plainName, overriddenIn]; done) | decide +kernel
theorem d_le2_0 : decode jdk_43_method_13_code 0 = .ok (.aload_n 0, 1) := by decide +kernel
theorem d_le2_1 : decode jdk_43_method_13_code 1 = .ok (.arraylength, 1) := by decide +kernel
theorem d_le2_2 : decode jdk_43_method_13_code 2 = .ok (.aload_n 1, 1) := by decide +kernel
theorem d_le2_3 : decode jdk_43_method_13_code 3 = .ok (.arraylength, 1) := by decide +kernel
theorem d_le2_4 : decode jdk_43_method_13_code 4 = .ok (.if_icmp .ne 30, 3) := by decide +kernel
theorem d_le2_34 : decode jdk_43_method_13_code 34 = .ok (.iconst 0, 1) := by decide +kernel
theorem d_le2_35 : decode jdk_43_method_13_code 35 = .ok (.ireturn, 1) := by decide +kernel
theorem pn_le2 : plainName "java/lang/StringLatin1" = true := by first | (simp [plainName, overriddenIn]; done) | decide +kernel
theorem d_eq2_0 : decode jdk_42_method_66_code 0 = .ok (.aload_n 0, 1) := by decide +kernel
theorem d_eq2_1 : decode jdk_42_method_66_code 1 = .ok (.aload_n 1, 1) := by decide +kernel
theorem d_eq2_2 : decode jdk_42_method_66_code 2 = .ok (.if_acmp .ne 5, 3) := by decide +kernel
theorem d_eq2_5 : decode jdk_42_method_66_code 5 = .ok (.iconst 1, 1) := by decide +kernel
theorem d_eq2_6 : decode jdk_42_method_66_code 6 = .ok (.ireturn, 1) := by decide +kernel
theorem d_eq2_7 : decode jdk_42_method_66_code 7 = .ok (.aload_n 1, 1) := by decide +kernel
theorem d_eq2_8 : decode jdk_42_method_66_code 8 = .ok (.instanceof 10, 3) := by decide +kernel
theorem d_eq2_11 : decode jdk_42_method_66_code 11 = .ok (.ifCond .eq 43, 3) := by decide +kernel
theorem d_eq2_14 : decode jdk_42_method_66_code 14 = .ok (.aload_n 1, 1) := by decide +kernel
theorem d_eq2_15 : decode jdk_42_method_66_code 15 = .ok (.checkcast 10, 3) := by decide +kernel
theorem d_eq2_18 : decode jdk_42_method_66_code 18 = .ok (.astore_n 2, 1) := by decide +kernel
theorem d_eq2_19 : decode jdk_42_method_66_code 19 = .ok (.getstatic 38, 3) := by decide +kernel
theorem d_eq2_22 : decode jdk_42_method_66_code 22 = .ok (.ifCond .eq 14, 3) := by decide +kernel
theorem d_eq2_25 : decode jdk_42_method_66_code 25 = .ok (.aload_n 0, 1) := by decide +kernel
theorem d_eq2_26 : decode jdk_42_method_66_code 26 = .ok (.getfield 15, 3) := by decide +kernel
theorem d_eq2_29 : decode jdk_42_method_66_code 29 = .ok (.aload_n 2, 1) := by decide +kernel
theorem d_eq2_30 : decode jdk_42_method_66_code 30 = .ok (.getfield 15, 3) := by decide +kernel
theorem d_eq2_33 : decode jdk_42_method_66_code 33 = .ok (.if_icmp .ne 21, 3) := by decide +kernel
theorem d_eq2_36 : decode jdk_42_method_66_code 36 = .ok (.aload_n 0, 1) := by decide +kernel
theorem d_eq2_37 : decode jdk_42_method_66_code 37 = .ok (.getfield 9, 3) := by decide +kernel
theorem d_eq2_40 : decode jdk_42_method_66_code 40 = .ok (.aload_n 2, 1) := by decide +kernel
theorem d_eq2_41 : decode jdk_42_method_66_code 41 = .ok (.getfield 9, 3) := by decide +kernel
theorem d_eq2_44 : decode jdk_42_method_66_code 44 = .ok (.invokestatic 541, 3) := by decide +kernel
theorem d_eq2_47 : decode jdk_42_method_66_code 47 = .ok (.ifCond .eq 7, 3) := by decide +kernel
theorem d_eq2_54 : decode jdk_42_method_66_code 54 = .ok (.iconst 0, 1) := by decide +kernel
theorem d_eq2_55 : decode jdk_42_method_66_code 55 = .ok (.ireturn, 1) := by decide +kernel
theorem pn_eq2 : plainName "java/lang/String" = true := by first | (simp [plainName, overriddenIn]; done) | decide +kernel
theorem d_hs2_0 : decode prog_56_method_3_code 0 = .ok (.aload_n 0, 1) := by decide +kernel
theorem d_hs2_1 : decode prog_56_method_3_code 1 = .ok (.ldc 25, 2) := by decide +kernel
theorem d_hs2_3 : decode prog_56_method_3_code 3 = .ok (.invokevirtual 27, 3) := by decide +kernel
theorem d_hs2_6 : decode prog_56_method_3_code 6 = .ok (.ifCond .ne 7, 3) := by decide +kernel
theorem d_hs2_9 : decode prog_56_method_3_code 9 = .ok (.iconst 1, 1) := by decide +kernel
theorem d_hs2_10 : decode prog_56_method_3_code 10 = .ok (.goto 4, 3) := by decide +kernel
theorem d_hs2_14 : decode prog_56_method_3_code 14 = .ok (.ireturn, 1) := by decide +kernel
theorem pn_hs2 : plainName "com/example/trilatch/trilatch/http/TlsPolicy" = true := by first | (simp [plainName, overriddenIn]; done) | decide +kernel
theorem d_le3_0 : decode jdk_43_method_13_code 0 = .ok (.aload_n 0, 1) := by decide +kernel
theorem d_le3_1 : decode jdk_43_method_13_code 1 = .ok (.arraylength, 1) := by decide +kernel
theorem d_le3_2 : decode jdk_43_method_13_code 2 = .ok (.aload_n 1, 1) := by decide +kernel
theorem d_le3_3 : decode jdk_43_method_13_code 3 = .ok (.arraylength, 1) := by decide +kernel
theorem d_le3_4 : decode jdk_43_method_13_code 4 = .ok (.if_icmp .ne 30, 3) := by decide +kernel
theorem d_le3_7 : decode jdk_43_method_13_code 7 = .ok (.iconst 0, 1) := by decide +kernel
theorem d_le3_8 : decode jdk_43_method_13_code 8 = .ok (.istore_n 2, 1) := by decide +kernel
theorem d_le3_9 : decode jdk_43_method_13_code 9 = .ok (.iload_n 2, 1) := by decide +kernel
theorem d_le3_10 : decode jdk_43_method_13_code 10 = .ok (.aload_n 0, 1) := by decide +kernel
theorem d_le3_11 : decode jdk_43_method_13_code 11 = .ok (.arraylength, 1) := by decide +kernel
theorem d_le3_12 : decode jdk_43_method_13_code 12 = .ok (.if_icmp .ge 20, 3) := by decide +kernel
theorem d_le3_15 : decode jdk_43_method_13_code 15 = .ok (.aload_n 0, 1) := by decide +kernel
theorem d_le3_16 : decode jdk_43_method_13_code 16 = .ok (.iload_n 2, 1) := by decide +kernel
theorem d_le3_17 : decode jdk_43_method_13_code 17 = .ok (.baload, 1) := by decide +kernel
theorem d_le3_18 : decode jdk_43_method_13_code 18 = .ok (.aload_n 1, 1) := by decide +kernel
theorem d_le3_19 : decode jdk_43_method_13_code 19 = .ok (.iload_n 2, 1) := by decide +kernel
theorem d_le3_20 : decode jdk_43_method_13_code 20 = .ok (.baload, 1) := by decide +kernel
theorem d_le3_21 : decode jdk_43_method_13_code 21 = .ok (.if_icmp .eq 5, 3) := by decide +kernel
theorem d_le3_26 : decode jdk_43_method_13_code 26 = .ok (.iinc 2 1, 3) := by decide +kernel
theorem d_le3_29 : decode jdk_43_method_13_code 29 = .ok (.goto (-20), 3) := by decide +kernel
theorem d_le3_32 : decode jdk_43_method_13_code 32 = .ok (.iconst 1, 1) := by decide +kernel
theorem d_le3_33 : decode jdk_43_method_13_code 33 = .ok (.ireturn, 1) := by decide +kernel
theorem d_le3_24 : decode jdk_43_method_13_code 24 = .ok (.iconst 0, 1) := by decide +kernel
theorem d_le3_25 : decode jdk_43_method_13_code 25 = .ok (.ireturn, 1) := by decide +kernel
theorem pn_le3 : plainName "java/lang/StringLatin1" = true := by first | (simp [plainName, overriddenIn]; done) | decide +kernel
theorem d_eq3_0 : decode jdk_42_method_66_code 0 = .ok (.aload_n 0, 1) := by decide +kernel
theorem d_eq3_1 : decode jdk_42_method_66_code 1 = .ok (.aload_n 1, 1) := by decide +kernel
theorem d_eq3_2 : decode jdk_42_method_66_code 2 = .ok (.if_acmp .ne 5, 3) := by decide +kernel
theorem d_eq3_5 : decode jdk_42_method_66_code 5 = .ok (.iconst 1, 1) := by decide +kernel
theorem d_eq3_6 : decode jdk_42_method_66_code 6 = .ok (.ireturn, 1) := by decide +kernel
theorem d_eq3_7 : decode jdk_42_method_66_code 7 = .ok (.aload_n 1, 1) := by decide +kernel
theorem d_eq3_8 : decode jdk_42_method_66_code 8 = .ok (.instanceof 10, 3) := by decide +kernel
theorem d_eq3_11 : decode jdk_42_method_66_code 11 = .ok (.ifCond .eq 43, 3) := by decide +kernel
theorem d_eq3_14 : decode jdk_42_method_66_code 14 = .ok (.aload_n 1, 1) := by decide +kernel
theorem d_eq3_15 : decode jdk_42_method_66_code 15 = .ok (.checkcast 10, 3) := by decide +kernel
theorem d_eq3_18 : decode jdk_42_method_66_code 18 = .ok (.astore_n 2, 1) := by decide +kernel
theorem d_eq3_19 : decode jdk_42_method_66_code 19 = .ok (.getstatic 38, 3) := by decide +kernel
theorem d_eq3_22 : decode jdk_42_method_66_code 22 = .ok (.ifCond .eq 14, 3) := by decide +kernel
theorem d_eq3_25 : decode jdk_42_method_66_code 25 = .ok (.aload_n 0, 1) := by decide +kernel
theorem d_eq3_26 : decode jdk_42_method_66_code 26 = .ok (.getfield 15, 3) := by decide +kernel
theorem d_eq3_29 : decode jdk_42_method_66_code 29 = .ok (.aload_n 2, 1) := by decide +kernel
theorem d_eq3_30 : decode jdk_42_method_66_code 30 = .ok (.getfield 15, 3) := by decide +kernel
theorem d_eq3_33 : decode jdk_42_method_66_code 33 = .ok (.if_icmp .ne 21, 3) := by decide +kernel
theorem d_eq3_36 : decode jdk_42_method_66_code 36 = .ok (.aload_n 0, 1) := by decide +kernel
theorem d_eq3_37 : decode jdk_42_method_66_code 37 = .ok (.getfield 9, 3) := by decide +kernel
theorem d_eq3_40 : decode jdk_42_method_66_code 40 = .ok (.aload_n 2, 1) := by decide +kernel
theorem d_eq3_41 : decode jdk_42_method_66_code 41 = .ok (.getfield 9, 3) := by decide +kernel
theorem d_eq3_44 : decode jdk_42_method_66_code 44 = .ok (.invokestatic 541, 3) := by decide +kernel
theorem d_eq3_47 : decode jdk_42_method_66_code 47 = .ok (.ifCond .eq 7, 3) := by decide +kernel
theorem d_eq3_50 : decode jdk_42_method_66_code 50 = .ok (.iconst 1, 1) := by decide +kernel
theorem d_eq3_51 : decode jdk_42_method_66_code 51 = .ok (.goto 4, 3) := by decide +kernel
theorem d_eq3_55 : decode jdk_42_method_66_code 55 = .ok (.ireturn, 1) := by decide +kernel
theorem d_eq3_54 : decode jdk_42_method_66_code 54 = .ok (.iconst 0, 1) := by decide +kernel
theorem pn_eq3 : plainName "java/lang/String" = true := by first | (simp [plainName, overriddenIn]; done) | decide +kernel
theorem d_hs3_0 : decode prog_56_method_3_code 0 = .ok (.aload_n 0, 1) := by decide +kernel
theorem d_hs3_1 : decode prog_56_method_3_code 1 = .ok (.ldc 25, 2) := by decide +kernel
theorem d_hs3_3 : decode prog_56_method_3_code 3 = .ok (.invokevirtual 27, 3) := by decide +kernel
theorem d_hs3_6 : decode prog_56_method_3_code 6 = .ok (.ifCond .ne 7, 3) := by decide +kernel
theorem d_hs3_13 : decode prog_56_method_3_code 13 = .ok (.iconst 0, 1) := by decide +kernel
theorem d_hs3_14 : decode prog_56_method_3_code 14 = .ok (.ireturn, 1) := by decide +kernel
theorem d_hs3_9 : decode prog_56_method_3_code 9 = .ok (.iconst 1, 1) := by decide +kernel
theorem d_hs3_10 : decode prog_56_method_3_code 10 = .ok (.goto 4, 3) := by decide +kernel
theorem pn_hs3 : plainName "com/example/trilatch/trilatch/http/TlsPolicy" = true := by first | (simp [plainName, overriddenIn]; done) | decide +kernel
theorem d_le4_0 : decode jdk_43_method_13_code 0 = .ok (.aload_n 0, 1) := by decide +kernel
theorem d_le4_1 : decode jdk_43_method_13_code 1 = .ok (.arraylength, 1) := by decide +kernel
theorem d_le4_2 : decode jdk_43_method_13_code 2 = .ok (.aload_n 1, 1) := by decide +kernel
theorem d_le4_3 : decode jdk_43_method_13_code 3 = .ok (.arraylength, 1) := by decide +kernel
theorem d_le4_4 : decode jdk_43_method_13_code 4 = .ok (.if_icmp .ne 30, 3) := by decide +kernel
theorem d_le4_34 : decode jdk_43_method_13_code 34 = .ok (.iconst 0, 1) := by decide +kernel
theorem d_le4_35 : decode jdk_43_method_13_code 35 = .ok (.ireturn, 1) := by decide +kernel
theorem pn_le4 : plainName "java/lang/StringLatin1" = true := by first | (simp [plainName, overriddenIn]; done) | decide +kernel
theorem d_eq4_0 : decode jdk_42_method_66_code 0 = .ok (.aload_n 0, 1) := by decide +kernel
theorem d_eq4_1 : decode jdk_42_method_66_code 1 = .ok (.aload_n 1, 1) := by decide +kernel
theorem d_eq4_2 : decode jdk_42_method_66_code 2 = .ok (.if_acmp .ne 5, 3) := by decide +kernel
theorem d_eq4_5 : decode jdk_42_method_66_code 5 = .ok (.iconst 1, 1) := by decide +kernel
theorem d_eq4_6 : decode jdk_42_method_66_code 6 = .ok (.ireturn, 1) := by decide +kernel
theorem d_eq4_7 : decode jdk_42_method_66_code 7 = .ok (.aload_n 1, 1) := by decide +kernel
theorem d_eq4_8 : decode jdk_42_method_66_code 8 = .ok (.instanceof 10, 3) := by decide +kernel
theorem d_eq4_11 : decode jdk_42_method_66_code 11 = .ok (.ifCond .eq 43, 3) := by decide +kernel
theorem d_eq4_14 : decode jdk_42_method_66_code 14 = .ok (.aload_n 1, 1) := by decide +kernel
theorem d_eq4_15 : decode jdk_42_method_66_code 15 = .ok (.checkcast 10, 3) := by decide +kernel
theorem d_eq4_18 : decode jdk_42_method_66_code 18 = .ok (.astore_n 2, 1) := by decide +kernel
theorem d_eq4_19 : decode jdk_42_method_66_code 19 = .ok (.getstatic 38, 3) := by decide +kernel
theorem d_eq4_22 : decode jdk_42_method_66_code 22 = .ok (.ifCond .eq 14, 3) := by decide +kernel
theorem d_eq4_25 : decode jdk_42_method_66_code 25 = .ok (.aload_n 0, 1) := by decide +kernel
theorem d_eq4_26 : decode jdk_42_method_66_code 26 = .ok (.getfield 15, 3) := by decide +kernel
theorem d_eq4_29 : decode jdk_42_method_66_code 29 = .ok (.aload_n 2, 1) := by decide +kernel
theorem d_eq4_30 : decode jdk_42_method_66_code 30 = .ok (.getfield 15, 3) := by decide +kernel
theorem d_eq4_33 : decode jdk_42_method_66_code 33 = .ok (.if_icmp .ne 21, 3) := by decide +kernel
theorem d_eq4_36 : decode jdk_42_method_66_code 36 = .ok (.aload_n 0, 1) := by decide +kernel
theorem d_eq4_37 : decode jdk_42_method_66_code 37 = .ok (.getfield 9, 3) := by decide +kernel
theorem d_eq4_40 : decode jdk_42_method_66_code 40 = .ok (.aload_n 2, 1) := by decide +kernel
theorem d_eq4_41 : decode jdk_42_method_66_code 41 = .ok (.getfield 9, 3) := by decide +kernel
theorem d_eq4_44 : decode jdk_42_method_66_code 44 = .ok (.invokestatic 541, 3) := by decide +kernel
theorem d_eq4_47 : decode jdk_42_method_66_code 47 = .ok (.ifCond .eq 7, 3) := by decide +kernel
theorem d_eq4_54 : decode jdk_42_method_66_code 54 = .ok (.iconst 0, 1) := by decide +kernel
theorem d_eq4_55 : decode jdk_42_method_66_code 55 = .ok (.ireturn, 1) := by decide +kernel
theorem pn_eq4 : plainName "java/lang/String" = true := by first | (simp [plainName, overriddenIn]; done) | decide +kernel
theorem d_hs4_0 : decode prog_56_method_3_code 0 = .ok (.aload_n 0, 1) := by decide +kernel
theorem d_hs4_1 : decode prog_56_method_3_code 1 = .ok (.ldc 25, 2) := by decide +kernel
theorem d_hs4_3 : decode prog_56_method_3_code 3 = .ok (.invokevirtual 27, 3) := by decide +kernel
theorem d_hs4_6 : decode prog_56_method_3_code 6 = .ok (.ifCond .ne 7, 3) := by decide +kernel
theorem d_hs4_9 : decode prog_56_method_3_code 9 = .ok (.iconst 1, 1) := by decide +kernel
theorem d_hs4_10 : decode prog_56_method_3_code 10 = .ok (.goto 4, 3) := by decide +kernel
theorem d_hs4_14 : decode prog_56_method_3_code 14 = .ok (.ireturn, 1) := by decide +kernel
theorem pn_hs4 : plainName "com/example/trilatch/trilatch/http/TlsPolicy" = true := by first | (simp [plainName, overriddenIn]; done) | decide +kernel
theorem pd_7 : parseMethodDescriptor "(I)C" = some ⟨[.int], some .char⟩ := by decide +kernel
theorem pd_8 : parseMethodDescriptor "(ICCCC)Ljava/lang/String;" = some ⟨[.int, .char, .char, .char, .char], some (.object "java/lang/String")⟩ := by decide +kernel
theorem pd_9 : parseMethodDescriptor "(Ljava/lang/String;)Z" = some ⟨[(.object "java/lang/String")], some .boolean⟩ := by decide +kernel
theorem pn_law : plainName "com/example/trilatch/trilatch/http/TlsPolicyHandshakesWithPinLaw" = true := by first | (simp [plainName, overriddenIn]; done) | decide +kernel
theorem lt_1 {i : Nat} (h : i < 1) : i = 0 := by omega
theorem lt_2 {i : Nat} (h : i < 2) : i = 0 ∨ i = 1 := by omega
theorem lt_3 {i : Nat} (h : i < 3) : i = 0 ∨ i = 1 ∨ i = 2 := by omega
theorem lt_4 {i : Nat} (h : i < 4) : i = 0 ∨ i = 1 ∨ i = 2 ∨ i = 3 := by omega
theorem lt_8 {i : Nat} (h : i < 8) : i = 0 ∨ i = 1 ∨ i = 2 ∨ i = 3 ∨ i = 4 ∨ i = 5 ∨ i = 6 ∨ i = 7 := by omega
def bz (c : Int32) : Int32 := c.toInt8.toInt32.toInt8.toInt32
theorem bz_eq {c k : Int32} (h : 0 ≤ c.toInt ∧ c.toInt ≤ 255) (k0 : 0 ≤ k.toInt) (k1 : k.toInt ≤ 127) (q : bz c = k) : c = k := by
  have q : (bz c).toInt = k.toInt := by rw [q]
  simp only [bz, Int8.toInt_toInt32, Int32.toInt_toInt8] at q
  apply Int32.toInt_inj.mp
  simp only [Int.bmod_def] at q
  omega
theorem n255 {c : Int32} (h : c.toInt ≤ 255) : ¬ (255 : Int32) < c := by rw [Int32.lt_iff_toInt_lt]; show ¬ (255 : Int) < _; omega
theorem of256 {P : Int32 → Prop} (h : ∀ k : Fin 256, P (Int32.ofNat k.val)) {c : Int32} (h0 : 0 ≤ c.toInt ∧ c.toInt ≤ 255) : P c := by
  have q := h ⟨c.toInt.toNat, by omega⟩
  have e : Int32.ofNat c.toInt.toNat = c := by
    apply Int32.toInt_inj.mp
    rw [Int32.toInt_ofNat_small (by omega)]; omega
  rw [e] at q; exact q
theorem nar_c {c : Int32} (h : 0 ≤ c.toInt ∧ c.toInt ≤ 255) : nar .char c = c := of256 (P := fun c => nar .char c = c) (by decide +kernel) h
theorem low_c (x : Int32) : 0 ≤ ((x &&& (255 : Int32)).toUInt32.toUInt16.toUInt32.toInt32).toInt ∧ ((x &&& (255 : Int32)).toUInt32.toUInt16.toUInt32.toInt32).toInt ≤ 255 := by
  have m1 : (x &&& (255 : Int32)).toInt = x.toInt % 2 ^ 8 := Jvm.Kit.i32_mask x _ (k := 8) (by decide) (by decide)
  exact of256 (P := fun c => 0 ≤ (c.toUInt32.toUInt16.toUInt32.toInt32).toInt ∧ (c.toUInt32.toUInt16.toUInt32.toInt32).toInt ≤ 255) (by decide +kernel) (c := x &&& 255) ⟨by omega, by omega⟩
theorem and7 (x : Int32) : 0 ≤ (x &&& (7 : Int32)).toInt ∧ (x &&& (7 : Int32)).toInt < 8 := by
  have m1 : (x &&& (7 : Int32)).toInt = x.toInt % 2 ^ 3 := Jvm.Kit.i32_mask x _ (k := 3) (by decide) (by decide)
  omega
theorem sta_keep {Z : State} {h h' : Heap} {C n d : String} {v : Value} (F : Sta Z h C n d v) (K : Keep h h' []) : Sta Z h' C n d v := Sta.ext ⟨K.1, fun a cl q => K.2.1 a cl q (fun z => nomatch z)⟩ F
theorem same_str {Z : State} {h : Heap} {x y bx bl : Addr} {kx kl : ClassId} {n n' : Nat} {f g : Nat → Value} (q : x = y) (F : Fld Z h x "java/lang/String" "value" "[B" (.ref bx)) (G : Fld Z h y "java/lang/String" "value" "[B" (.ref bl)) (A : Af Z h bx kx .byte n f) (B : Af Z h bl kl .byte n' g) : n = n' ∧ ∀ i, i < n → f i = g i := by
  subst q
  cases Fld.uniq F G
  exact Af.uniq A B
theorem same3 {b0 b1 b2 k0 k1 k2 : Int32} (q : ∀ i, i < 3 → Value.int ((updI (updI (updI (fun _ => (0 : Int32)) 0 b0) 1 b1) 2 b2) i) = Value.int ((updI (updI (updI (fun _ => (0 : Int32)) 0 k0) 1 k1) 2 k2) i)) : b0 = k0 ∧ b1 = k1 ∧ b2 = k2 :=
  ⟨by simpa [updI] using q 0 (by decide), by simpa [updI] using q 1 (by decide), by simpa [updI] using q 2 (by decide)⟩
def Held (Z : State) (a0 : Array Value) : Prop := Jvm.Lit.constHeld Z "java/lang/String" 7 ∧ Jvm.Lit.constHeld Z "com/example/trilatch/trilatch/http/TlsPolicy" 25 ∧ Jvm.Lit.compactW.before a0 Z = true
theorem wS {Z : State} {a0 : Array Value} (hw : ∀ d ∈ tables_1, d.before a0 Z = true) : ∀ a ∈ Bundle.stringAtoms, a.before a0 Z = true := by
  intro a ha
  simp only [Bundle.stringAtoms, List.mem_cons, List.not_mem_nil, or_false] at ha
  rcases ha with rfl | rfl | rfl | rfl | rfl | rfl | rfl
  · exact (w10 hw)
  · exact (w9 hw)
  · exact (w23 hw)
  · exact (w24 hw)
  · exact (w25 hw)
  · exact (w26 hw)
  · exact (w27 hw)
theorem own_case8 {i : Int32} (h0 : 0 ≤ i.toInt) (h1 : i.toInt < 8) : i = (0 : Int32) ∨ i = (1 : Int32) ∨ i = (2 : Int32) ∨ i = (3 : Int32) ∨ i = (4 : Int32) ∨ i = (5 : Int32) ∨ i = (6 : Int32) ∨ i = (7 : Int32) := by
  have h : i.toInt = 0 ∨ i.toInt = 1 ∨ i.toInt = 2 ∨ i.toInt = 3 ∨ i.toInt = 4 ∨ i.toInt = 5 ∨ i.toInt = 6 ∨ i.toInt = 7 := by omega
  rcases h with h | h | h | h | h | h | h | h
  · exact Or.inl (Int32.toInt_inj.mp (h.trans (by decide)))
  · exact Or.inr (Or.inl (Int32.toInt_inj.mp (h.trans (by decide))))
  · exact Or.inr (Or.inr (Or.inl (Int32.toInt_inj.mp (h.trans (by decide)))))
  · exact Or.inr (Or.inr (Or.inr (Or.inl (Int32.toInt_inj.mp (h.trans (by decide))))))
  · exact Or.inr (Or.inr (Or.inr (Or.inr (Or.inl (Int32.toInt_inj.mp (h.trans (by decide)))))))
  · exact Or.inr (Or.inr (Or.inr (Or.inr (Or.inr (Or.inl (Int32.toInt_inj.mp (h.trans (by decide))))))))
  · exact Or.inr (Or.inr (Or.inr (Or.inr (Or.inr (Or.inr (Or.inl (Int32.toInt_inj.mp (h.trans (by decide)))))))))
  · exact Or.inr (Or.inr (Or.inr (Or.inr (Or.inr (Or.inr (Or.inr ((Int32.toInt_inj.mp (h.trans (by decide))))))))))
def Q_pick (Z : State) (x0 : Int32) (h0 : Heap) (n0 : Nat) (v : Option Value) (h : Heap) (L : List Loc) : Prop := ∃ (r : Int32), v = some (.int r) ∧ Fr n0 L ∧ Keep h0 h [] ∧ 0 ≤ r.toInt ∧ r.toInt ≤ 255
theorem ef_pick (m : MethodId) (x0 : Int32) : entryFrame m #[(.int x0)] 2 = mkF m 0 #[.val (.int x0), .unset] [] := by first | (simp [entryFrame, mkF, argsToLocals, Value.category]; done) | rfl
set_option maxRecDepth 65536 in
set_option maxHeartbeats 40000000 in
theorem rm_pick (l : Launch) (Z : State) (a0 : Array Value) (hw : ∀ d ∈ tables_1, d.before a0 Z = true) (x0 : Int32) (h0 : Heap) (n0 : Nat) (Z0 : n0 ≤ h0.size)  :
    Met l Z (⟨"com/example/trilatch/trilatch/http/TlsPolicyHandshakesWithPinLaw", "pick", "(I)C"⟩ : MethodName) method_3_code 2 (Option.some Jvm.ClassFile.FieldType.char) [] ({ frames := 0, cells := 1, slots := 8, locals := 0 } : Room) #[(.int x0)] h0 (Q_pick Z x0 h0 n0) := by
  refine Met.of (plainFor_of_name pn_pick) ?_
  intro p e s m below meth c s₁ X0 hx hby hml hZ hown hnm e0 hret hlk
  refine Go.cast (ef_pick m x0) ?_
  show Go _ _ _ _ s₁ (mkF m 0 #[.val (.int x0), .unset] []) _ _ _
  have N0 := Fr.nil n0
  refine Go.iloadN X0 hx (hb hby d_pick_0) rfl ?_
  show Go _ _ _ _ s₁ (mkF m 1 #[.val (.int x0), .unset] [(.int x0)]) _ _ _
  refine Go.sipush X0 hx (hb hby d_pick_1) ?_
  show Go _ _ _ _ s₁ (mkF m 4 #[.val (.int x0), .unset] [(.int (256 : Int32)), (.int x0)]) _ _ _
  refine Go.iand X0 hx (hb hby d_pick_4) ?_
  show Go _ _ _ _ s₁ (mkF m 5 #[.val (.int x0), .unset] [(.int (x0 &&& (256 : Int32)))]) _ _ _
  rcases Decidable.em ((x0 &&& (256 : Int32)) = (0 : Int32)) with c1 | c1
  · refine Go.ifYes X0 hx (hb hby d_pick_5) (XT.i0_eq_t c1) (pc' := 65) (by decide) (by decide) ?_
    show Go _ _ _ _ s₁ (mkF m 65 #[.val (.int x0), .unset] []) _ _ _
    refine Go.iloadN X0 hx (hb hby d_pick_65) rfl ?_
    show Go _ _ _ _ s₁ (mkF m 66 #[.val (.int x0), .unset] [(.int x0)]) _ _ _
    refine Go.sipush X0 hx (hb hby d_pick_66) ?_
    show Go _ _ _ _ s₁ (mkF m 69 #[.val (.int x0), .unset] [(.int (255 : Int32)), (.int x0)]) _ _ _
    refine Go.iand X0 hx (hb hby d_pick_69) ?_
    show Go _ _ _ _ s₁ (mkF m 70 #[.val (.int x0), .unset] [(.int (x0 &&& (255 : Int32)))]) _ _ _
    refine Go.i2c X0 hx (hb hby d_pick_70) ?_
    show Go _ _ _ _ s₁ (mkF m 71 #[.val (.int x0), .unset] [(.int (((x0 &&& (255 : Int32))).toUInt32.toUInt16.toUInt32.toInt32))]) _ _ _
    refine Go.retV X0 hx hlk hret (XT.narrow_c _) (Or.inl ⟨rfl, Or.inr (Or.inr (Or.inr (Or.inl rfl))), _, rfl⟩) (hb hby d_pick_71) (by decide) (by decide) ?_
    rw [e0]
    exact ⟨(((x0 &&& (255 : Int32))).toUInt32.toUInt16.toUInt32.toInt32), rfl, N0, (Keep.refl _ _), (low_c _)⟩
  · refine Go.ifNo X0 hx (hb hby d_pick_5) (XT.i0_eq_f c1) ?_
    show Go _ _ _ _ s₁ (mkF m 8 #[.val (.int x0), .unset] []) _ _ _
    refine Go.bipush X0 hx (hb hby d_pick_8) ?_
    show Go _ _ _ _ s₁ (mkF m 10 #[.val (.int x0), .unset] [(.int (8 : Int32))]) _ _ _
    refine Go.newarray (aty := .char) (cap := 8) X0 hx hZ (w11 hw) e0 (hb hby d_pick_10) (by decide) (by decide) (by decide) (by decide) (by decide) ?_
    intro T2 h2 a2 k2 b2 X2 e2 E2 A2
    have g_a2 : n0 ≤ a2 := by rw [b2]; exact Z0
    have y_a2 : h0.size ≤ a2 := by rw [b2]; exact (Nat.le_refl _)
    have Z2 : n0 ≤ h2.size := Nat.le_trans Z0 E2.1
    have B2 : h0.size ≤ h2.size := Nat.le_trans (Nat.le_refl _) E2.1
    show Go _ _ _ _ T2 (mkF m 12 #[.val (.int x0), .unset] [(.ref a2)]) _ _ _
    refine Go.dup X2 hx (hb hby d_pick_12) rfl ?_
    show Go _ _ _ _ T2 (mkF m 13 #[.val (.int x0), .unset] [(.ref a2), (.ref a2)]) _ _ _
    refine Go.iconst X2 hx (hb hby d_pick_13) ?_
    show Go _ _ _ _ T2 (mkF m 14 #[.val (.int x0), .unset] [(.int (0 : Int32)), (.ref a2), (.ref a2)]) _ _ _
    refine Go.bipush X2 hx (hb hby d_pick_14) ?_
    show Go _ _ _ _ T2 (mkF m 16 #[.val (.int x0), .unset] [(.int (68 : Int32)), (.int (0 : Int32)), (.ref a2), (.ref a2)]) _ _ _
    refine Go.castore X2 hx hZ e2 A2 (by decide) (by decide) (hb hby d_pick_16) ?_
    intro T3 h3 X3 e3 W3 A3
    have N3 := Fr.snoc X3 N0 g_a2
    have Z3 : n0 ≤ h3.size := by rw [Wr.size W3]; exact Z2
    have B3 : h0.size ≤ h3.size := by rw [Wr.size W3]; exact B2
    show Go _ _ _ _ T3 (mkF m 17 #[.val (.int x0), .unset] [(.ref a2)]) _ _ _
    refine Go.dup X3 hx (hb hby d_pick_17) rfl ?_
    show Go _ _ _ _ T3 (mkF m 18 #[.val (.int x0), .unset] [(.ref a2), (.ref a2)]) _ _ _
    refine Go.iconst X3 hx (hb hby d_pick_18) ?_
    show Go _ _ _ _ T3 (mkF m 19 #[.val (.int x0), .unset] [(.int (1 : Int32)), (.ref a2), (.ref a2)]) _ _ _
    refine Go.bipush X3 hx (hb hby d_pick_19) ?_
    show Go _ _ _ _ T3 (mkF m 21 #[.val (.int x0), .unset] [(.int (83 : Int32)), (.int (1 : Int32)), (.ref a2), (.ref a2)]) _ _ _
    refine Go.castore X3 hx hZ e3 A3 (by decide) (by decide) (hb hby d_pick_21) ?_
    intro T4 h4 X4 e4 W4 A4
    have N4 := Fr.snoc X4 N3 g_a2
    have Z4 : n0 ≤ h4.size := by rw [Wr.size W4]; exact Z3
    have B4 : h0.size ≤ h4.size := by rw [Wr.size W4]; exact B3
    show Go _ _ _ _ T4 (mkF m 22 #[.val (.int x0), .unset] [(.ref a2)]) _ _ _
    refine Go.dup X4 hx (hb hby d_pick_22) rfl ?_
    show Go _ _ _ _ T4 (mkF m 23 #[.val (.int x0), .unset] [(.ref a2), (.ref a2)]) _ _ _
    refine Go.iconst X4 hx (hb hby d_pick_23) ?_
    show Go _ _ _ _ T4 (mkF m 24 #[.val (.int x0), .unset] [(.int (2 : Int32)), (.ref a2), (.ref a2)]) _ _ _
    refine Go.bipush X4 hx (hb hby d_pick_24) ?_
    show Go _ _ _ _ T4 (mkF m 26 #[.val (.int x0), .unset] [(.int (65 : Int32)), (.int (2 : Int32)), (.ref a2), (.ref a2)]) _ _ _
    refine Go.castore X4 hx hZ e4 A4 (by decide) (by decide) (hb hby d_pick_26) ?_
    intro T5 h5 X5 e5 W5 A5
    have N5 := Fr.snoc X5 N4 g_a2
    have Z5 : n0 ≤ h5.size := by rw [Wr.size W5]; exact Z4
    have B5 : h0.size ≤ h5.size := by rw [Wr.size W5]; exact B4
    show Go _ _ _ _ T5 (mkF m 27 #[.val (.int x0), .unset] [(.ref a2)]) _ _ _
    refine Go.dup X5 hx (hb hby d_pick_27) rfl ?_
    show Go _ _ _ _ T5 (mkF m 28 #[.val (.int x0), .unset] [(.ref a2), (.ref a2)]) _ _ _
    refine Go.iconst X5 hx (hb hby d_pick_28) ?_
    show Go _ _ _ _ T5 (mkF m 29 #[.val (.int x0), .unset] [(.int (3 : Int32)), (.ref a2), (.ref a2)]) _ _ _
    refine Go.bipush X5 hx (hb hby d_pick_29) ?_
    show Go _ _ _ _ T5 (mkF m 31 #[.val (.int x0), .unset] [(.int (100 : Int32)), (.int (3 : Int32)), (.ref a2), (.ref a2)]) _ _ _
    refine Go.castore X5 hx hZ e5 A5 (by decide) (by decide) (hb hby d_pick_31) ?_
    intro T6 h6 X6 e6 W6 A6
    have N6 := Fr.snoc X6 N5 g_a2
    have Z6 : n0 ≤ h6.size := by rw [Wr.size W6]; exact Z5
    have B6 : h0.size ≤ h6.size := by rw [Wr.size W6]; exact B5
    show Go _ _ _ _ T6 (mkF m 32 #[.val (.int x0), .unset] [(.ref a2)]) _ _ _
    refine Go.dup X6 hx (hb hby d_pick_32) rfl ?_
    show Go _ _ _ _ T6 (mkF m 33 #[.val (.int x0), .unset] [(.ref a2), (.ref a2)]) _ _ _
    refine Go.iconst X6 hx (hb hby d_pick_33) ?_
    show Go _ _ _ _ T6 (mkF m 34 #[.val (.int x0), .unset] [(.int (4 : Int32)), (.ref a2), (.ref a2)]) _ _ _
    refine Go.bipush X6 hx (hb hby d_pick_34) ?_
    show Go _ _ _ _ T6 (mkF m 36 #[.val (.int x0), .unset] [(.int (115 : Int32)), (.int (4 : Int32)), (.ref a2), (.ref a2)]) _ _ _
    refine Go.castore X6 hx hZ e6 A6 (by decide) (by decide) (hb hby d_pick_36) ?_
    intro T7 h7 X7 e7 W7 A7
    have N7 := Fr.snoc X7 N6 g_a2
    have Z7 : n0 ≤ h7.size := by rw [Wr.size W7]; exact Z6
    have B7 : h0.size ≤ h7.size := by rw [Wr.size W7]; exact B6
    show Go _ _ _ _ T7 (mkF m 37 #[.val (.int x0), .unset] [(.ref a2)]) _ _ _
    refine Go.dup X7 hx (hb hby d_pick_37) rfl ?_
    show Go _ _ _ _ T7 (mkF m 38 #[.val (.int x0), .unset] [(.ref a2), (.ref a2)]) _ _ _
    refine Go.iconst X7 hx (hb hby d_pick_38) ?_
    show Go _ _ _ _ T7 (mkF m 39 #[.val (.int x0), .unset] [(.int (5 : Int32)), (.ref a2), (.ref a2)]) _ _ _
    refine Go.bipush X7 hx (hb hby d_pick_39) ?_
    show Go _ _ _ _ T7 (mkF m 41 #[.val (.int x0), .unset] [(.int (97 : Int32)), (.int (5 : Int32)), (.ref a2), (.ref a2)]) _ _ _
    refine Go.castore X7 hx hZ e7 A7 (by decide) (by decide) (hb hby d_pick_41) ?_
    intro T8 h8 X8 e8 W8 A8
    have N8 := Fr.snoc X8 N7 g_a2
    have Z8 : n0 ≤ h8.size := by rw [Wr.size W8]; exact Z7
    have B8 : h0.size ≤ h8.size := by rw [Wr.size W8]; exact B7
    show Go _ _ _ _ T8 (mkF m 42 #[.val (.int x0), .unset] [(.ref a2)]) _ _ _
    refine Go.dup X8 hx (hb hby d_pick_42) rfl ?_
    show Go _ _ _ _ T8 (mkF m 43 #[.val (.int x0), .unset] [(.ref a2), (.ref a2)]) _ _ _
    refine Go.bipush X8 hx (hb hby d_pick_43) ?_
    show Go _ _ _ _ T8 (mkF m 45 #[.val (.int x0), .unset] [(.int (6 : Int32)), (.ref a2), (.ref a2)]) _ _ _
    refine Go.bipush X8 hx (hb hby d_pick_45) ?_
    show Go _ _ _ _ T8 (mkF m 47 #[.val (.int x0), .unset] [(.int (69 : Int32)), (.int (6 : Int32)), (.ref a2), (.ref a2)]) _ _ _
    refine Go.castore X8 hx hZ e8 A8 (by decide) (by decide) (hb hby d_pick_47) ?_
    intro T9 h9 X9 e9 W9 A9
    have N9 := Fr.snoc X9 N8 g_a2
    have Z9 : n0 ≤ h9.size := by rw [Wr.size W9]; exact Z8
    have B9 : h0.size ≤ h9.size := by rw [Wr.size W9]; exact B8
    show Go _ _ _ _ T9 (mkF m 48 #[.val (.int x0), .unset] [(.ref a2)]) _ _ _
    refine Go.dup X9 hx (hb hby d_pick_48) rfl ?_
    show Go _ _ _ _ T9 (mkF m 49 #[.val (.int x0), .unset] [(.ref a2), (.ref a2)]) _ _ _
    refine Go.bipush X9 hx (hb hby d_pick_49) ?_
    show Go _ _ _ _ T9 (mkF m 51 #[.val (.int x0), .unset] [(.int (7 : Int32)), (.ref a2), (.ref a2)]) _ _ _
    refine Go.bipush X9 hx (hb hby d_pick_51) ?_
    show Go _ _ _ _ T9 (mkF m 53 #[.val (.int x0), .unset] [(.int (67 : Int32)), (.int (7 : Int32)), (.ref a2), (.ref a2)]) _ _ _
    refine Go.castore X9 hx hZ e9 A9 (by decide) (by decide) (hb hby d_pick_53) ?_
    intro T10 h10 X10 e10 W10 A10
    have N10 := Fr.snoc X10 N9 g_a2
    have Z10 : n0 ≤ h10.size := by rw [Wr.size W10]; exact Z9
    have B10 : h0.size ≤ h10.size := by rw [Wr.size W10]; exact B9
    show Go _ _ _ _ T10 (mkF m 54 #[.val (.int x0), .unset] [(.ref a2)]) _ _ _
    have AC11 : Af Z h10 a2 k2 .char 8 (fun i => Value.int ((updI (updI (updI (updI (updI (updI (updI (updI (fun _ => (0 : Int32)) 0 (68 : Int32)) 1 (83 : Int32)) 2 (65 : Int32)) 3 (100 : Int32)) 4 (115 : Int32)) 5 (97 : Int32)) 6 (69 : Int32)) 7 (67 : Int32)) i)) := Af.congr A10 (fun i hi => by have hi' : i < 8 := hi; rcases lt_8 hi' with rfl | rfl | rfl | rfl | rfl | rfl | rfl | rfl <;> first | (simp [updI, updV]; done) | rfl)
    refine Go.astoreN X10 hx (hb hby d_pick_54) rfl (l' := #[.val (.int x0), .val (.ref a2)]) rfl ?_
    show Go _ _ _ _ T10 (mkF m 55 #[.val (.int x0), .val (.ref a2)] []) _ _ _
    refine Go.aloadN X10 hx (hb hby d_pick_55) rfl rfl ?_
    show Go _ _ _ _ T10 (mkF m 56 #[.val (.int x0), .val (.ref a2)] [(.ref a2)]) _ _ _
    refine Go.iloadN X10 hx (hb hby d_pick_56) rfl ?_
    show Go _ _ _ _ T10 (mkF m 57 #[.val (.int x0), .val (.ref a2)] [(.int x0), (.ref a2)]) _ _ _
    refine Go.bipush X10 hx (hb hby d_pick_57) ?_
    show Go _ _ _ _ T10 (mkF m 59 #[.val (.int x0), .val (.ref a2)] [(.int (9 : Int32)), (.int x0), (.ref a2)]) _ _ _
    refine Go.iushr X10 hx (hb hby d_pick_59) ?_
    show Go _ _ _ _ T10 (mkF m 60 #[.val (.int x0), .val (.ref a2)] [(.int (XT.ushr x0 (9 : Int32))), (.ref a2)]) _ _ _
    refine Go.bipush X10 hx (hb hby d_pick_60) ?_
    show Go _ _ _ _ T10 (mkF m 62 #[.val (.int x0), .val (.ref a2)] [(.int (7 : Int32)), (.int (XT.ushr x0 (9 : Int32))), (.ref a2)]) _ _ _
    refine Go.iand X10 hx (hb hby d_pick_62) ?_
    show Go _ _ _ _ T10 (mkF m 63 #[.val (.int x0), .val (.ref a2)] [(.int ((XT.ushr x0 (9 : Int32)) &&& (7 : Int32))), (.ref a2)]) _ _ _
    have b12 := and7 (XT.ushr x0 (9 : Int32))
    refine (show ∀ jj : Int32, 0 ≤ jj.toInt ∧ jj.toInt < 8 → Go _ _ _ _ T10 (mkF m 63 #[.val (.int x0), .val (.ref a2)] [(.int jj), (.ref a2)]) _ _ _ from ?_) _ b12
    intro jj hj
    rcases own_case8 hj.1 hj.2 with rfl | rfl | rfl | rfl | rfl | rfl | rfl | rfl
    · show Go _ _ _ _ T10 (mkF m 63 #[.val (.int x0), .val (.ref a2)] [(.int (0 : Int32)), (.ref a2)]) _ _ _
      refine Go.caload X10 hx hZ e10 AC11 (by decide) (by decide) (hb hby d_pick_63) ?_
      show Go _ _ _ _ T10 (mkF m 64 #[.val (.int x0), .val (.ref a2)] [(.int (68 : Int32))]) _ _ _
      refine Go.retV X10 hx hlk hret rfl (Or.inl ⟨rfl, Or.inr (Or.inr (Or.inr (Or.inl rfl))), _, rfl⟩) (hb hby d_pick_64) (by decide) (by decide) ?_
      rw [e10]
      exact ⟨(68 : Int32), rfl, N10, (Keep.wr (Keep.wr (Keep.wr (Keep.wr (Keep.wr (Keep.wr (Keep.wr (Keep.wr (Keep.ext (Keep.refl _ _) E2) W3 (Or.inr y_a2)) W4 (Or.inr y_a2)) W5 (Or.inr y_a2)) W6 (Or.inr y_a2)) W7 (Or.inr y_a2)) W8 (Or.inr y_a2)) W9 (Or.inr y_a2)) W10 (Or.inr y_a2)), (by decide)⟩
    · show Go _ _ _ _ T10 (mkF m 63 #[.val (.int x0), .val (.ref a2)] [(.int (1 : Int32)), (.ref a2)]) _ _ _
      refine Go.caload X10 hx hZ e10 AC11 (by decide) (by decide) (hb hby d_pick_63) ?_
      show Go _ _ _ _ T10 (mkF m 64 #[.val (.int x0), .val (.ref a2)] [(.int (83 : Int32))]) _ _ _
      refine Go.retV X10 hx hlk hret rfl (Or.inl ⟨rfl, Or.inr (Or.inr (Or.inr (Or.inl rfl))), _, rfl⟩) (hb hby d_pick_64) (by decide) (by decide) ?_
      rw [e10]
      exact ⟨(83 : Int32), rfl, N10, (Keep.wr (Keep.wr (Keep.wr (Keep.wr (Keep.wr (Keep.wr (Keep.wr (Keep.wr (Keep.ext (Keep.refl _ _) E2) W3 (Or.inr y_a2)) W4 (Or.inr y_a2)) W5 (Or.inr y_a2)) W6 (Or.inr y_a2)) W7 (Or.inr y_a2)) W8 (Or.inr y_a2)) W9 (Or.inr y_a2)) W10 (Or.inr y_a2)), (by decide)⟩
    · show Go _ _ _ _ T10 (mkF m 63 #[.val (.int x0), .val (.ref a2)] [(.int (2 : Int32)), (.ref a2)]) _ _ _
      refine Go.caload X10 hx hZ e10 AC11 (by decide) (by decide) (hb hby d_pick_63) ?_
      show Go _ _ _ _ T10 (mkF m 64 #[.val (.int x0), .val (.ref a2)] [(.int (65 : Int32))]) _ _ _
      refine Go.retV X10 hx hlk hret rfl (Or.inl ⟨rfl, Or.inr (Or.inr (Or.inr (Or.inl rfl))), _, rfl⟩) (hb hby d_pick_64) (by decide) (by decide) ?_
      rw [e10]
      exact ⟨(65 : Int32), rfl, N10, (Keep.wr (Keep.wr (Keep.wr (Keep.wr (Keep.wr (Keep.wr (Keep.wr (Keep.wr (Keep.ext (Keep.refl _ _) E2) W3 (Or.inr y_a2)) W4 (Or.inr y_a2)) W5 (Or.inr y_a2)) W6 (Or.inr y_a2)) W7 (Or.inr y_a2)) W8 (Or.inr y_a2)) W9 (Or.inr y_a2)) W10 (Or.inr y_a2)), (by decide)⟩
    · show Go _ _ _ _ T10 (mkF m 63 #[.val (.int x0), .val (.ref a2)] [(.int (3 : Int32)), (.ref a2)]) _ _ _
      refine Go.caload X10 hx hZ e10 AC11 (by decide) (by decide) (hb hby d_pick_63) ?_
      show Go _ _ _ _ T10 (mkF m 64 #[.val (.int x0), .val (.ref a2)] [(.int (100 : Int32))]) _ _ _
      refine Go.retV X10 hx hlk hret rfl (Or.inl ⟨rfl, Or.inr (Or.inr (Or.inr (Or.inl rfl))), _, rfl⟩) (hb hby d_pick_64) (by decide) (by decide) ?_
      rw [e10]
      exact ⟨(100 : Int32), rfl, N10, (Keep.wr (Keep.wr (Keep.wr (Keep.wr (Keep.wr (Keep.wr (Keep.wr (Keep.wr (Keep.ext (Keep.refl _ _) E2) W3 (Or.inr y_a2)) W4 (Or.inr y_a2)) W5 (Or.inr y_a2)) W6 (Or.inr y_a2)) W7 (Or.inr y_a2)) W8 (Or.inr y_a2)) W9 (Or.inr y_a2)) W10 (Or.inr y_a2)), (by decide)⟩
    · show Go _ _ _ _ T10 (mkF m 63 #[.val (.int x0), .val (.ref a2)] [(.int (4 : Int32)), (.ref a2)]) _ _ _
      refine Go.caload X10 hx hZ e10 AC11 (by decide) (by decide) (hb hby d_pick_63) ?_
      show Go _ _ _ _ T10 (mkF m 64 #[.val (.int x0), .val (.ref a2)] [(.int (115 : Int32))]) _ _ _
      refine Go.retV X10 hx hlk hret rfl (Or.inl ⟨rfl, Or.inr (Or.inr (Or.inr (Or.inl rfl))), _, rfl⟩) (hb hby d_pick_64) (by decide) (by decide) ?_
      rw [e10]
      exact ⟨(115 : Int32), rfl, N10, (Keep.wr (Keep.wr (Keep.wr (Keep.wr (Keep.wr (Keep.wr (Keep.wr (Keep.wr (Keep.ext (Keep.refl _ _) E2) W3 (Or.inr y_a2)) W4 (Or.inr y_a2)) W5 (Or.inr y_a2)) W6 (Or.inr y_a2)) W7 (Or.inr y_a2)) W8 (Or.inr y_a2)) W9 (Or.inr y_a2)) W10 (Or.inr y_a2)), (by decide)⟩
    · show Go _ _ _ _ T10 (mkF m 63 #[.val (.int x0), .val (.ref a2)] [(.int (5 : Int32)), (.ref a2)]) _ _ _
      refine Go.caload X10 hx hZ e10 AC11 (by decide) (by decide) (hb hby d_pick_63) ?_
      show Go _ _ _ _ T10 (mkF m 64 #[.val (.int x0), .val (.ref a2)] [(.int (97 : Int32))]) _ _ _
      refine Go.retV X10 hx hlk hret rfl (Or.inl ⟨rfl, Or.inr (Or.inr (Or.inr (Or.inl rfl))), _, rfl⟩) (hb hby d_pick_64) (by decide) (by decide) ?_
      rw [e10]
      exact ⟨(97 : Int32), rfl, N10, (Keep.wr (Keep.wr (Keep.wr (Keep.wr (Keep.wr (Keep.wr (Keep.wr (Keep.wr (Keep.ext (Keep.refl _ _) E2) W3 (Or.inr y_a2)) W4 (Or.inr y_a2)) W5 (Or.inr y_a2)) W6 (Or.inr y_a2)) W7 (Or.inr y_a2)) W8 (Or.inr y_a2)) W9 (Or.inr y_a2)) W10 (Or.inr y_a2)), (by decide)⟩
    · show Go _ _ _ _ T10 (mkF m 63 #[.val (.int x0), .val (.ref a2)] [(.int (6 : Int32)), (.ref a2)]) _ _ _
      refine Go.caload X10 hx hZ e10 AC11 (by decide) (by decide) (hb hby d_pick_63) ?_
      show Go _ _ _ _ T10 (mkF m 64 #[.val (.int x0), .val (.ref a2)] [(.int (69 : Int32))]) _ _ _
      refine Go.retV X10 hx hlk hret rfl (Or.inl ⟨rfl, Or.inr (Or.inr (Or.inr (Or.inl rfl))), _, rfl⟩) (hb hby d_pick_64) (by decide) (by decide) ?_
      rw [e10]
      exact ⟨(69 : Int32), rfl, N10, (Keep.wr (Keep.wr (Keep.wr (Keep.wr (Keep.wr (Keep.wr (Keep.wr (Keep.wr (Keep.ext (Keep.refl _ _) E2) W3 (Or.inr y_a2)) W4 (Or.inr y_a2)) W5 (Or.inr y_a2)) W6 (Or.inr y_a2)) W7 (Or.inr y_a2)) W8 (Or.inr y_a2)) W9 (Or.inr y_a2)) W10 (Or.inr y_a2)), (by decide)⟩
    · show Go _ _ _ _ T10 (mkF m 63 #[.val (.int x0), .val (.ref a2)] [(.int (7 : Int32)), (.ref a2)]) _ _ _
      refine Go.caload X10 hx hZ e10 AC11 (by decide) (by decide) (hb hby d_pick_63) ?_
      show Go _ _ _ _ T10 (mkF m 64 #[.val (.int x0), .val (.ref a2)] [(.int (67 : Int32))]) _ _ _
      refine Go.retV X10 hx hlk hret rfl (Or.inl ⟨rfl, Or.inr (Or.inr (Or.inr (Or.inl rfl))), _, rfl⟩) (hb hby d_pick_64) (by decide) (by decide) ?_
      rw [e10]
      exact ⟨(67 : Int32), rfl, N10, (Keep.wr (Keep.wr (Keep.wr (Keep.wr (Keep.wr (Keep.wr (Keep.wr (Keep.wr (Keep.ext (Keep.refl _ _) E2) W3 (Or.inr y_a2)) W4 (Or.inr y_a2)) W5 (Or.inr y_a2)) W6 (Or.inr y_a2)) W7 (Or.inr y_a2)) W8 (Or.inr y_a2)) W9 (Or.inr y_a2)) W10 (Or.inr y_a2)), (by decide)⟩
def Q_ci1 (Z : State) (ac : Addr) (ab : Addr) (kq : ClassId) (kb : ClassId) (fb : Nat → Value) (q0 : Int32) (h0 : Heap) (n0 : Nat) (v : Option Value) (h : Heap) (L : List Loc) : Prop := v = some (.int (1 : Int32)) ∧ Fr n0 L ∧ Keep h0 h [ab] ∧ Af Z h ab kb .byte 1 (fun i => Value.int ((updI (fun _ => (0 : Int32)) 0 (bz q0)) i))
theorem ef_ci1 (m : MethodId) (x0 : Addr) (x1 : Int32) (x2 : Addr) (x3 : Int32) (x4 : Int32) : entryFrame m #[(.ref x0), (.int x1), (.ref x2), (.int x3), (.int x4)] 7 = mkF m 0 #[.val (.ref x0), .val (.int x1), .val (.ref x2), .val (.int x3), .val (.int x4), .unset, .unset] [] := by first | (simp [entryFrame, mkF, argsToLocals, Value.category]; done) | rfl
set_option maxRecDepth 65536 in
set_option maxHeartbeats 40000000 in
theorem rm_ci1 (l : Launch) (Z : State) (a0 : Array Value) (hw : ∀ d ∈ tables_1, d.before a0 Z = true) (ac : Addr) (ab : Addr) (kq : ClassId) (kb : ClassId) (fb : Nat → Value) (q0 : Int32) (h0 : Heap) (n0 : Nat) (Z0 : n0 ≤ h0.size) (f0 : Af Z h0 ac kq .char 1 (fun i => Value.int ((updI (fun _ => (0 : Int32)) 0 q0) i))) (f1 : Af Z h0 ab kb .byte 1 (fb)) (f2 : ac ≠ ab) (f3 : n0 ≤ ab) (f4 : 0 ≤ q0.toInt ∧ q0.toInt ≤ 255) :
    Met l Z (⟨"java/lang/StringUTF16", "compress", "([CI[BII)I"⟩ : MethodName) jdk_52_method_21_code 7 (Option.some Jvm.ClassFile.FieldType.int) [] ({ frames := 0, cells := 0, slots := 0, locals := 0 } : Room) #[(.ref ac), (.int (0 : Int32)), (.ref ab), (.int (0 : Int32)), (.int (1 : Int32))] h0 (Q_ci1 Z ac ab kq kb fb q0 h0 n0) := by
  refine Met.of (plainFor_of_name pn_ci1) ?_
  intro p e s m below meth c s₁ X0 hx hby hml hZ hown hnm e0 hret hlk
  refine Go.cast (ef_ci1 m ac ((0 : Int32)) ab ((0 : Int32)) ((1 : Int32))) ?_
  show Go _ _ _ _ s₁ (mkF m 0 #[.val (.ref ac), .val (.int (0 : Int32)), .val (.ref ab), .val (.int (0 : Int32)), .val (.int (1 : Int32)), .unset, .unset] []) _ _ _
  have N0 := Fr.nil n0
  refine Go.iconst X0 hx (hb hby d_ci1_0) ?_
  show Go _ _ _ _ s₁ (mkF m 1 #[.val (.ref ac), .val (.int (0 : Int32)), .val (.ref ab), .val (.int (0 : Int32)), .val (.int (1 : Int32)), .unset, .unset] [(.int (0 : Int32))]) _ _ _
  refine Go.istore X0 hx (hb hby d_ci1_1) (l' := #[.val (.ref ac), .val (.int (0 : Int32)), .val (.ref ab), .val (.int (0 : Int32)), .val (.int (1 : Int32)), .val (.int (0 : Int32)), .unset]) rfl ?_
  show Go _ _ _ _ s₁ (mkF m 3 #[.val (.ref ac), .val (.int (0 : Int32)), .val (.ref ab), .val (.int (0 : Int32)), .val (.int (1 : Int32)), .val (.int (0 : Int32)), .unset] []) _ _ _
  refine Go.iload X0 hx (hb hby d_ci1_3) rfl ?_
  show Go _ _ _ _ s₁ (mkF m 5 #[.val (.ref ac), .val (.int (0 : Int32)), .val (.ref ab), .val (.int (0 : Int32)), .val (.int (1 : Int32)), .val (.int (0 : Int32)), .unset] [(.int (0 : Int32))]) _ _ _
  refine Go.iload X0 hx (hb hby d_ci1_5) rfl ?_
  show Go _ _ _ _ s₁ (mkF m 7 #[.val (.ref ac), .val (.int (0 : Int32)), .val (.ref ab), .val (.int (0 : Int32)), .val (.int (1 : Int32)), .val (.int (0 : Int32)), .unset] [(.int (1 : Int32)), (.int (0 : Int32))]) _ _ _
  refine Go.icmpNo X0 hx (hb hby d_ci1_7) (XT.ii_ge_f (by decide)) ?_
  show Go _ _ _ _ s₁ (mkF m 10 #[.val (.ref ac), .val (.int (0 : Int32)), .val (.ref ab), .val (.int (0 : Int32)), .val (.int (1 : Int32)), .val (.int (0 : Int32)), .unset] []) _ _ _
  refine Go.aloadN X0 hx (hb hby d_ci1_10) rfl rfl ?_
  show Go _ _ _ _ s₁ (mkF m 11 #[.val (.ref ac), .val (.int (0 : Int32)), .val (.ref ab), .val (.int (0 : Int32)), .val (.int (1 : Int32)), .val (.int (0 : Int32)), .unset] [(.ref ac)]) _ _ _
  refine Go.iloadN X0 hx (hb hby d_ci1_11) rfl ?_
  show Go _ _ _ _ s₁ (mkF m 12 #[.val (.ref ac), .val (.int (0 : Int32)), .val (.ref ab), .val (.int (0 : Int32)), .val (.int (1 : Int32)), .val (.int (0 : Int32)), .unset] [(.int (0 : Int32)), (.ref ac)]) _ _ _
  refine Go.caload X0 hx hZ e0 f0 (by decide) (by decide) (hb hby d_ci1_12) ?_
  show Go _ _ _ _ s₁ (mkF m 13 #[.val (.ref ac), .val (.int (0 : Int32)), .val (.ref ab), .val (.int (0 : Int32)), .val (.int (1 : Int32)), .val (.int (0 : Int32)), .unset] [(.int q0)]) _ _ _
  refine Go.istore X0 hx (hb hby d_ci1_13) (l' := #[.val (.ref ac), .val (.int (0 : Int32)), .val (.ref ab), .val (.int (0 : Int32)), .val (.int (1 : Int32)), .val (.int (0 : Int32)), .val (.int q0)]) rfl ?_
  show Go _ _ _ _ s₁ (mkF m 15 #[.val (.ref ac), .val (.int (0 : Int32)), .val (.ref ab), .val (.int (0 : Int32)), .val (.int (1 : Int32)), .val (.int (0 : Int32)), .val (.int q0)] []) _ _ _
  refine Go.iload X0 hx (hb hby d_ci1_15) rfl ?_
  show Go _ _ _ _ s₁ (mkF m 17 #[.val (.ref ac), .val (.int (0 : Int32)), .val (.ref ab), .val (.int (0 : Int32)), .val (.int (1 : Int32)), .val (.int (0 : Int32)), .val (.int q0)] [(.int q0)]) _ _ _
  refine Go.sipush X0 hx (hb hby d_ci1_17) ?_
  show Go _ _ _ _ s₁ (mkF m 20 #[.val (.ref ac), .val (.int (0 : Int32)), .val (.ref ab), .val (.int (0 : Int32)), .val (.int (1 : Int32)), .val (.int (0 : Int32)), .val (.int q0)] [(.int (255 : Int32)), (.int q0)]) _ _ _
  refine Go.icmpYes X0 hx (hb hby d_ci1_20) (XT.ii_le_t (n255 f4.2)) (pc' := 26) (by decide) (by decide) ?_
  show Go _ _ _ _ s₁ (mkF m 26 #[.val (.ref ac), .val (.int (0 : Int32)), .val (.ref ab), .val (.int (0 : Int32)), .val (.int (1 : Int32)), .val (.int (0 : Int32)), .val (.int q0)] []) _ _ _
  refine Go.aloadN X0 hx (hb hby d_ci1_26) rfl rfl ?_
  show Go _ _ _ _ s₁ (mkF m 27 #[.val (.ref ac), .val (.int (0 : Int32)), .val (.ref ab), .val (.int (0 : Int32)), .val (.int (1 : Int32)), .val (.int (0 : Int32)), .val (.int q0)] [(.ref ab)]) _ _ _
  refine Go.iloadN X0 hx (hb hby d_ci1_27) rfl ?_
  show Go _ _ _ _ s₁ (mkF m 28 #[.val (.ref ac), .val (.int (0 : Int32)), .val (.ref ab), .val (.int (0 : Int32)), .val (.int (1 : Int32)), .val (.int (0 : Int32)), .val (.int q0)] [(.int (0 : Int32)), (.ref ab)]) _ _ _
  refine Go.iload X0 hx (hb hby d_ci1_28) rfl ?_
  show Go _ _ _ _ s₁ (mkF m 30 #[.val (.ref ac), .val (.int (0 : Int32)), .val (.ref ab), .val (.int (0 : Int32)), .val (.int (1 : Int32)), .val (.int (0 : Int32)), .val (.int q0)] [(.int q0), (.int (0 : Int32)), (.ref ab)]) _ _ _
  refine Go.i2b X0 hx (hb hby d_ci1_30) ?_
  show Go _ _ _ _ s₁ (mkF m 31 #[.val (.ref ac), .val (.int (0 : Int32)), .val (.ref ab), .val (.int (0 : Int32)), .val (.int (1 : Int32)), .val (.int (0 : Int32)), .val (.int q0)] [(.int ((q0).toInt8.toInt32)), (.int (0 : Int32)), (.ref ab)]) _ _ _
  refine Go.bastoreB X0 hx hZ e0 f1 (by decide) (by decide) (hb hby d_ci1_31) ?_
  intro T13 h13 X13 e13 W13 A13
  have N13 := Fr.snoc X13 N0 f3
  have Z13 : n0 ≤ h13.size := by rw [Wr.size W13]; exact Z0
  have B13 : h0.size ≤ h13.size := by rw [Wr.size W13]; exact (Nat.le_refl _)
  show Go _ _ _ _ T13 (mkF m 32 #[.val (.ref ac), .val (.int (0 : Int32)), .val (.ref ab), .val (.int (0 : Int32)), .val (.int (1 : Int32)), .val (.int (0 : Int32)), .val (.int q0)] []) _ _ _
  refine Go.iinc X13 hx (hb hby d_ci1_32) rfl (l' := #[.val (.ref ac), .val (.int (1 : Int32)), .val (.ref ab), .val (.int (0 : Int32)), .val (.int (1 : Int32)), .val (.int (0 : Int32)), .val (.int q0)]) rfl ?_
  show Go _ _ _ _ T13 (mkF m 35 #[.val (.ref ac), .val (.int (1 : Int32)), .val (.ref ab), .val (.int (0 : Int32)), .val (.int (1 : Int32)), .val (.int (0 : Int32)), .val (.int q0)] []) _ _ _
  refine Go.iinc X13 hx (hb hby d_ci1_35) rfl (l' := #[.val (.ref ac), .val (.int (1 : Int32)), .val (.ref ab), .val (.int (1 : Int32)), .val (.int (1 : Int32)), .val (.int (0 : Int32)), .val (.int q0)]) rfl ?_
  show Go _ _ _ _ T13 (mkF m 38 #[.val (.ref ac), .val (.int (1 : Int32)), .val (.ref ab), .val (.int (1 : Int32)), .val (.int (1 : Int32)), .val (.int (0 : Int32)), .val (.int q0)] []) _ _ _
  refine Go.iinc X13 hx (hb hby d_ci1_38) rfl (l' := #[.val (.ref ac), .val (.int (1 : Int32)), .val (.ref ab), .val (.int (1 : Int32)), .val (.int (1 : Int32)), .val (.int (1 : Int32)), .val (.int q0)]) rfl ?_
  show Go _ _ _ _ T13 (mkF m 41 #[.val (.ref ac), .val (.int (1 : Int32)), .val (.ref ab), .val (.int (1 : Int32)), .val (.int (1 : Int32)), .val (.int (1 : Int32)), .val (.int q0)] []) _ _ _
  refine Go.goto X13 hx (hb hby d_ci1_41) (pc' := 3) (by decide) (by decide) ?_
  show Go _ _ _ _ T13 (mkF m 3 #[.val (.ref ac), .val (.int (1 : Int32)), .val (.ref ab), .val (.int (1 : Int32)), .val (.int (1 : Int32)), .val (.int (1 : Int32)), .val (.int q0)] []) _ _ _
  refine Go.iload X13 hx (hb hby d_ci1_3) rfl ?_
  show Go _ _ _ _ T13 (mkF m 5 #[.val (.ref ac), .val (.int (1 : Int32)), .val (.ref ab), .val (.int (1 : Int32)), .val (.int (1 : Int32)), .val (.int (1 : Int32)), .val (.int q0)] [(.int (1 : Int32))]) _ _ _
  refine Go.iload X13 hx (hb hby d_ci1_5) rfl ?_
  show Go _ _ _ _ T13 (mkF m 7 #[.val (.ref ac), .val (.int (1 : Int32)), .val (.ref ab), .val (.int (1 : Int32)), .val (.int (1 : Int32)), .val (.int (1 : Int32)), .val (.int q0)] [(.int (1 : Int32)), (.int (1 : Int32))]) _ _ _
  refine Go.icmpYes X13 hx (hb hby d_ci1_7) (XT.ii_ge_t (by decide)) (pc' := 44) (by decide) (by decide) ?_
  show Go _ _ _ _ T13 (mkF m 44 #[.val (.ref ac), .val (.int (1 : Int32)), .val (.ref ab), .val (.int (1 : Int32)), .val (.int (1 : Int32)), .val (.int (1 : Int32)), .val (.int q0)] []) _ _ _
  have AC14 : Af Z h13 ab kb .byte 1 (fun i => Value.int ((updI (fun _ => (0 : Int32)) 0 (bz q0)) i)) := Af.congr A13 (fun i hi => by have hi' : i < 1 := hi; rcases lt_1 hi' with rfl <;> first | (simp [updI, updV, bz]; done) | rfl)
  refine Go.iload X13 hx (hb hby d_ci1_44) rfl ?_
  show Go _ _ _ _ T13 (mkF m 46 #[.val (.ref ac), .val (.int (1 : Int32)), .val (.ref ab), .val (.int (1 : Int32)), .val (.int (1 : Int32)), .val (.int (1 : Int32)), .val (.int q0)] [(.int (1 : Int32))]) _ _ _
  refine Go.retI X13 hx hlk hret (hb hby d_ci1_46) (by decide) (by decide) ?_
  rw [e13]
  exact ⟨rfl, N13, (Keep.wr (Keep.refl _ _) W13 (Or.inl (List.mem_of_getElem? (i := 0) rfl))), AC14⟩
def Q_co1 (Z : State) (ac : Addr) (kq : ClassId) (q0 : Int32) (h0 : Heap) (n0 : Nat) (v : Option Value) (h : Heap) (L : List Loc) : Prop := ∃ (r : Addr) (kr : ClassId), v = some (.ref r) ∧ Fr n0 L ∧ Keep h0 h [] ∧ n0 ≤ r ∧ h0.size ≤ r ∧ Af Z h r kr .byte 1 (fun i => Value.int ((updI (fun _ => (0 : Int32)) 0 (bz q0)) i))
theorem ef_co1 (m : MethodId) (x0 : Addr) (x1 : Int32) (x2 : Int32) : entryFrame m #[(.ref x0), (.int x1), (.int x2)] 6 = mkF m 0 #[.val (.ref x0), .val (.int x1), .val (.int x2), .unset, .unset, .unset] [] := by first | (simp [entryFrame, mkF, argsToLocals, Value.category]; done) | rfl
set_option maxRecDepth 65536 in
set_option maxHeartbeats 40000000 in
theorem rm_co1 (l : Launch) (Z : State) (a0 : Array Value) (hw : ∀ d ∈ tables_1, d.before a0 Z = true) (ac : Addr) (kq : ClassId) (q0 : Int32) (h0 : Heap) (n0 : Nat) (Z0 : n0 ≤ h0.size) (f0 : Af Z h0 ac kq .char 1 (fun i => Value.int ((updI (fun _ => (0 : Int32)) 0 q0) i))) (f1 : 0 ≤ q0.toInt ∧ q0.toInt ≤ 255) :
    Met l Z (⟨"java/lang/StringUTF16", "compress", "([CII)[B"⟩ : MethodName) jdk_52_method_16_code 6 (Option.some (Jvm.ClassFile.FieldType.array Jvm.ClassFile.FieldType.byte)) [] ({ frames := 1, cells := 1, slots := 1, locals := 18 } : Room) #[(.ref ac), (.int (0 : Int32)), (.int (1 : Int32))] h0 (Q_co1 Z ac kq q0 h0 n0) := by
  refine Met.of (plainFor_of_name pn_co1) ?_
  intro p e s m below meth c s₁ X0 hx hby hml hZ hown hnm e0 hret hlk
  refine Go.cast (ef_co1 m ac ((0 : Int32)) ((1 : Int32))) ?_
  show Go _ _ _ _ s₁ (mkF m 0 #[.val (.ref ac), .val (.int (0 : Int32)), .val (.int (1 : Int32)), .unset, .unset, .unset] []) _ _ _
  have N0 := Fr.nil n0
  refine Go.iloadN X0 hx (hb hby d_co1_0) rfl ?_
  show Go _ _ _ _ s₁ (mkF m 1 #[.val (.ref ac), .val (.int (0 : Int32)), .val (.int (1 : Int32)), .unset, .unset, .unset] [(.int (1 : Int32))]) _ _ _
  refine Go.newarray (aty := .byte) (cap := 1) X0 hx hZ (w23 hw) e0 (hb hby d_co1_1) (by decide) (by decide) (by decide) (by decide) (by decide) ?_
  intro T15 h15 a15 k15 b15 X15 e15 E15 A15
  have g_a15 : n0 ≤ a15 := by rw [b15]; exact Z0
  have y_a15 : h0.size ≤ a15 := by rw [b15]; exact (Nat.le_refl _)
  have ne_ac_a15 : ac ≠ a15 := by rw [b15]; exact Nat.ne_of_lt f0.lt
  have Z15 : n0 ≤ h15.size := Nat.le_trans Z0 E15.1
  have B15 : h0.size ≤ h15.size := Nat.le_trans (Nat.le_refl _) E15.1
  show Go _ _ _ _ T15 (mkF m 3 #[.val (.ref ac), .val (.int (0 : Int32)), .val (.int (1 : Int32)), .unset, .unset, .unset] [(.ref a15)]) _ _ _
  refine Go.astoreN X15 hx (hb hby d_co1_3) rfl (l' := #[.val (.ref ac), .val (.int (0 : Int32)), .val (.int (1 : Int32)), .val (.ref a15), .unset, .unset]) rfl ?_
  show Go _ _ _ _ T15 (mkF m 4 #[.val (.ref ac), .val (.int (0 : Int32)), .val (.int (1 : Int32)), .val (.ref a15), .unset, .unset] []) _ _ _
  refine Go.aloadN X15 hx (hb hby d_co1_4) rfl rfl ?_
  show Go _ _ _ _ T15 (mkF m 5 #[.val (.ref ac), .val (.int (0 : Int32)), .val (.int (1 : Int32)), .val (.ref a15), .unset, .unset] [(.ref ac)]) _ _ _
  refine Go.iloadN X15 hx (hb hby d_co1_5) rfl ?_
  show Go _ _ _ _ T15 (mkF m 6 #[.val (.ref ac), .val (.int (0 : Int32)), .val (.int (1 : Int32)), .val (.ref a15), .unset, .unset] [(.int (0 : Int32)), (.ref ac)]) _ _ _
  refine Go.aloadN X15 hx (hb hby d_co1_6) rfl rfl ?_
  show Go _ _ _ _ T15 (mkF m 7 #[.val (.ref ac), .val (.int (0 : Int32)), .val (.int (1 : Int32)), .val (.ref a15), .unset, .unset] [(.ref a15), (.int (0 : Int32)), (.ref ac)]) _ _ _
  refine Go.iconst X15 hx (hb hby d_co1_7) ?_
  show Go _ _ _ _ T15 (mkF m 8 #[.val (.ref ac), .val (.int (0 : Int32)), .val (.int (1 : Int32)), .val (.ref a15), .unset, .unset] [(.int (0 : Int32)), (.ref a15), (.int (0 : Int32)), (.ref ac)]) _ _ _
  refine Go.iloadN X15 hx (hb hby d_co1_8) rfl ?_
  show Go _ _ _ _ T15 (mkF m 9 #[.val (.ref ac), .val (.int (0 : Int32)), .val (.int (1 : Int32)), .val (.ref a15), .unset, .unset] [(.int (1 : Int32)), (.int (0 : Int32)), (.ref a15), (.int (0 : Int32)), (.ref ac)]) _ _ _
  refine Go.callS (W := 0) (argsL := [(.ref ac), (.int (0 : Int32)), (.ref a15), (.int (0 : Int32)), (.int (1 : Int32))]) (rest := []) X15 hx hZ hown (w50 hw) (w51 hw) (w48 hw) (w52 hw) (by decide) (rm_ci1 l Z a0 hw ac a15 kq k15 ((fun _ => defaultValue (newarray.typeOf .byte))) q0 h15 n0 Z15 (Af.ext E15 f0) A15 ne_ac_a15 g_a15 f1) e15 (lenOf pd_0 rfl) (hb hby d_co1_9) (by rw [hml]; rfl) rfl (Nat.le_of_eq rfl) (by decide) (by decide) (by decide) (by decide) ?_
  intro v16 T16 L16 X16 q16
  obtain ⟨rfl, M16, K16, P16_0⟩ := q16
  have N16 := Fr.app N0 M16
  have Z16 : n0 ≤ T16.heap.size := Nat.le_trans Z15 K16.1
  have B16 : h0.size ≤ T16.heap.size := Nat.le_trans B15 K16.1
  show Go _ _ _ _ T16 (mkF m 12 #[.val (.ref ac), .val (.int (0 : Int32)), .val (.int (1 : Int32)), .val (.ref a15), .unset, .unset] [(.int (1 : Int32))]) _ _ _
  refine Go.istore X16 hx (hb hby d_co1_12) (l' := #[.val (.ref ac), .val (.int (0 : Int32)), .val (.int (1 : Int32)), .val (.ref a15), .val (.int (1 : Int32)), .unset]) rfl ?_
  show Go _ _ _ _ T16 (mkF m 14 #[.val (.ref ac), .val (.int (0 : Int32)), .val (.int (1 : Int32)), .val (.ref a15), .val (.int (1 : Int32)), .unset] []) _ _ _
  refine Go.iload X16 hx (hb hby d_co1_14) rfl ?_
  show Go _ _ _ _ T16 (mkF m 16 #[.val (.ref ac), .val (.int (0 : Int32)), .val (.int (1 : Int32)), .val (.ref a15), .val (.int (1 : Int32)), .unset] [(.int (1 : Int32))]) _ _ _
  refine Go.iloadN X16 hx (hb hby d_co1_16) rfl ?_
  show Go _ _ _ _ T16 (mkF m 17 #[.val (.ref ac), .val (.int (0 : Int32)), .val (.int (1 : Int32)), .val (.ref a15), .val (.int (1 : Int32)), .unset] [(.int (1 : Int32)), (.int (1 : Int32))]) _ _ _
  refine Go.icmpYes X16 hx (hb hby d_co1_17) (XT.ii_eq_t (by decide)) (pc' := 57) (by decide) (by decide) ?_
  show Go _ _ _ _ T16 (mkF m 57 #[.val (.ref ac), .val (.int (0 : Int32)), .val (.int (1 : Int32)), .val (.ref a15), .val (.int (1 : Int32)), .unset] []) _ _ _
  refine Go.aloadN X16 hx (hb hby d_co1_57) rfl rfl ?_
  show Go _ _ _ _ T16 (mkF m 58 #[.val (.ref ac), .val (.int (0 : Int32)), .val (.int (1 : Int32)), .val (.ref a15), .val (.int (1 : Int32)), .unset] [(.ref a15)]) _ _ _
  refine Go.retR X16 hx hlk hret rfl rfl (hb hby d_co1_58) (by decide) (by decide) ?_
  exact ⟨a15, k15, rfl, N16, (Keep.trans (Keep.ext (Keep.refl _ _) E15) K16 (allS (Or.inr y_a15) all0)), g_a15, y_a15, P16_0⟩
def Q_cf1 (Z : State) (ab : Addr) (kb : ClassId) (fb : Nat → Value) (h0 : Heap) (n0 : Nat) (v : Option Value) (h : Heap) (L : List Loc) : Prop := v = some (.int (0 : Int32)) ∧ Fr n0 L ∧ h = h0
theorem ef_cf1 (m : MethodId) (x0 : Addr) (x1 : Int32) : entryFrame m #[(.ref x0), (.int x1)] 2 = mkF m 0 #[.val (.ref x0), .val (.int x1)] [] := by first | (simp [entryFrame, mkF, argsToLocals, Value.category]; done) | rfl
set_option maxRecDepth 65536 in
set_option maxHeartbeats 40000000 in
theorem rm_cf1 (l : Launch) (Z : State) (a0 : Array Value) (hw : ∀ d ∈ tables_1, d.before a0 Z = true) (ab : Addr) (kb : ClassId) (fb : Nat → Value) (h0 : Heap) (n0 : Nat) (Z0 : n0 ≤ h0.size) (f0 : Af Z h0 ab kb .byte 1 (fb)) :
    Met l Z (⟨"java/lang/StringUTF16", "coderFromArrayLen", "([BI)B"⟩ : MethodName) jdk_52_method_15_code 2 (Option.some Jvm.ClassFile.FieldType.byte) [] ({ frames := 0, cells := 0, slots := 0, locals := 0 } : Room) #[(.ref ab), (.int (1 : Int32))] h0 (Q_cf1 Z ab kb fb h0 n0) := by
  refine Met.of (plainFor_of_name pn_cf1) ?_
  intro p e s m below meth c s₁ X0 hx hby hml hZ hown hnm e0 hret hlk
  refine Go.cast (ef_cf1 m ab ((1 : Int32))) ?_
  show Go _ _ _ _ s₁ (mkF m 0 #[.val (.ref ab), .val (.int (1 : Int32))] []) _ _ _
  have N0 := Fr.nil n0
  refine Go.iloadN X0 hx (hb hby d_cf1_0) rfl ?_
  show Go _ _ _ _ s₁ (mkF m 1 #[.val (.ref ab), .val (.int (1 : Int32))] [(.int (1 : Int32))]) _ _ _
  refine Go.aloadN X0 hx (hb hby d_cf1_1) rfl rfl ?_
  show Go _ _ _ _ s₁ (mkF m 2 #[.val (.ref ab), .val (.int (1 : Int32))] [(.ref ab), (.int (1 : Int32))]) _ _ _
  refine Go.alen X0 hx hZ e0 f0 (hb hby d_cf1_2) ?_
  show Go _ _ _ _ s₁ (mkF m 3 #[.val (.ref ab), .val (.int (1 : Int32))] [(.int (1 : Int32)), (.int (1 : Int32))]) _ _ _
  refine Go.isub X0 hx (hb hby d_cf1_3) ?_
  show Go _ _ _ _ s₁ (mkF m 4 #[.val (.ref ab), .val (.int (1 : Int32))] [(.int (0 : Int32))]) _ _ _
  refine Go.bipush X0 hx (hb hby d_cf1_4) ?_
  show Go _ _ _ _ s₁ (mkF m 6 #[.val (.ref ab), .val (.int (1 : Int32))] [(.int (31 : Int32)), (.int (0 : Int32))]) _ _ _
  refine Go.iushr X0 hx (hb hby d_cf1_6) ?_
  show Go _ _ _ _ s₁ (mkF m 7 #[.val (.ref ab), .val (.int (1 : Int32))] [(.int (0 : Int32))]) _ _ _
  refine Go.i2b X0 hx (hb hby d_cf1_7) ?_
  show Go _ _ _ _ s₁ (mkF m 8 #[.val (.ref ab), .val (.int (1 : Int32))] [(.int (0 : Int32))]) _ _ _
  refine Go.retV X0 hx hlk hret rfl (Or.inl ⟨rfl, Or.inr (Or.inr (Or.inl rfl)), _, rfl⟩) (hb hby d_cf1_8) (by decide) (by decide) ?_
  rw [e0]
  exact ⟨rfl, N0, rfl⟩
def Q_is1 (Z : State) (a : Addr) (ac : Addr) (kq : ClassId) (cs : Int32) (q0 : Int32) (h0 : Heap) (n0 : Nat) (v : Option Value) (h : Heap) (L : List Loc) : Prop := ∃ (bx : Addr) (kx : ClassId), v = none ∧ Fr n0 L ∧ Keep h0 h [a] ∧ Exa Z h a "java/lang/String" ∧ Fld Z h a "java/lang/String" "value" "[B" (.ref bx) ∧ Fld Z h a "java/lang/String" "coder" "B" (.int (0 : Int32)) ∧ Af Z h bx kx .byte 1 (fun i => Value.int ((updI (fun _ => (0 : Int32)) 0 (bz q0)) i))
theorem ef_is1 (m : MethodId) (x0 : Addr) (x1 : Addr) (x2 : Int32) (x3 : Int32) : entryFrame m #[(.ref x0), (.ref x1), (.int x2), (.int x3), .null] 6 = mkF m 0 #[.val (.ref x0), .val (.ref x1), .val (.int x2), .val (.int x3), .val .null, .unset] [] := by first | (simp [entryFrame, mkF, argsToLocals, Value.category]; done) | rfl
set_option maxRecDepth 65536 in
set_option maxHeartbeats 40000000 in
theorem rm_is1 (l : Launch) (Z : State) (a0 : Array Value) (hw : ∀ d ∈ tables_1, d.before a0 Z = true) (a : Addr) (ac : Addr) (kq : ClassId) (cs : Int32) (q0 : Int32) (h0 : Heap) (n0 : Nat) (Z0 : n0 ≤ h0.size) (f0 : Exa Z h0 a "java/lang/String") (f1 : n0 ≤ a) (f2 : Fld Z h0 a "java/lang/String" "value" "[B" .null) (f3 : Fld Z h0 a "java/lang/String" "coder" "B" (.int (0 : Int32))) (f4 : a ≠ ac) (f5 : Af Z h0 ac kq .char 1 (fun i => Value.int ((updI (fun _ => (0 : Int32)) 0 q0) i))) (f6 : Sta Z h0 "java/lang/String" "COMPACT_STRINGS" "Z" (.int cs)) (f7 : ¬ cs = (0 : Int32)) (f8 : 0 ≤ q0.toInt ∧ q0.toInt ≤ 255) :
    Met l Z (⟨"java/lang/String", "<init>", "([CIILjava/lang/Void;)V"⟩ : MethodName) jdk_42_method_149_code 6 none [] ({ frames := 2, cells := 1, slots := 1, locals := 35 } : Room) #[(.ref a), (.ref ac), (.int (0 : Int32)), (.int (1 : Int32)), .null] h0 (Q_is1 Z a ac kq cs q0 h0 n0) := by
  refine Met.of (plainFor_of_name pn_is1) ?_
  intro p e s m below meth c s₁ X0 hx hby hml hZ hown hnm e0 hret hlk
  refine Go.cast (ef_is1 m a ac ((0 : Int32)) ((1 : Int32))) ?_
  show Go _ _ _ _ s₁ (mkF m 0 #[.val (.ref a), .val (.ref ac), .val (.int (0 : Int32)), .val (.int (1 : Int32)), .val .null, .unset] []) _ _ _
  have N0 := Fr.nil n0
  refine Go.aloadN X0 hx (hb hby d_is1_0) rfl rfl ?_
  show Go _ _ _ _ s₁ (mkF m 1 #[.val (.ref a), .val (.ref ac), .val (.int (0 : Int32)), .val (.int (1 : Int32)), .val .null, .unset] [(.ref a)]) _ _ _
  refine Go.initO (W := 0) X0 hx hZ hown (w19 hw) (w20 hw) (w21 hw) e0 (hb hby d_is1_1) (by rw [hml]; rfl) (Nat.le_of_eq rfl) (by decide) (by decide) ?_
  intro T17 X17 e17
  show Go _ _ _ _ T17 (mkF m 4 #[.val (.ref a), .val (.ref ac), .val (.int (0 : Int32)), .val (.int (1 : Int32)), .val .null, .unset] []) _ _ _
  refine Go.iloadN X17 hx (hb hby d_is1_4) rfl ?_
  show Go _ _ _ _ T17 (mkF m 5 #[.val (.ref a), .val (.ref ac), .val (.int (0 : Int32)), .val (.int (1 : Int32)), .val .null, .unset] [(.int (1 : Int32))]) _ _ _
  refine Go.ifYes X17 hx (hb hby d_is1_5) (XT.i0_ne_t (by decide)) (pc' := 27) (by decide) (by decide) ?_
  show Go _ _ _ _ T17 (mkF m 27 #[.val (.ref a), .val (.ref ac), .val (.int (0 : Int32)), .val (.int (1 : Int32)), .val .null, .unset] []) _ _ _
  refine Go.getS X17 hx hZ hown (w41 hw) Via.refl e17 f6 (hb hby d_is1_27) ?_
  intro T18 X18 e18
  show Go _ _ _ _ T18 (mkF m 30 #[.val (.ref a), .val (.ref ac), .val (.int (0 : Int32)), .val (.int (1 : Int32)), .val .null, .unset] [(.int cs)]) _ _ _
  refine Go.ifNo X18 hx (hb hby d_is1_30) (XT.i0_eq_f f7) ?_
  show Go _ _ _ _ T18 (mkF m 33 #[.val (.ref a), .val (.ref ac), .val (.int (0 : Int32)), .val (.int (1 : Int32)), .val .null, .unset] []) _ _ _
  refine Go.aloadN X18 hx (hb hby d_is1_33) rfl rfl ?_
  show Go _ _ _ _ T18 (mkF m 34 #[.val (.ref a), .val (.ref ac), .val (.int (0 : Int32)), .val (.int (1 : Int32)), .val .null, .unset] [(.ref ac)]) _ _ _
  refine Go.iloadN X18 hx (hb hby d_is1_34) rfl ?_
  show Go _ _ _ _ T18 (mkF m 35 #[.val (.ref a), .val (.ref ac), .val (.int (0 : Int32)), .val (.int (1 : Int32)), .val .null, .unset] [(.int (0 : Int32)), (.ref ac)]) _ _ _
  refine Go.iloadN X18 hx (hb hby d_is1_35) rfl ?_
  show Go _ _ _ _ T18 (mkF m 36 #[.val (.ref a), .val (.ref ac), .val (.int (0 : Int32)), .val (.int (1 : Int32)), .val .null, .unset] [(.int (1 : Int32)), (.int (0 : Int32)), (.ref ac)]) _ _ _
  refine Go.callS (W := 0) (argsL := [(.ref ac), (.int (0 : Int32)), (.int (1 : Int32))]) (rest := []) X18 hx hZ hown (w46 hw) (w47 hw) (w48 hw) (w49 hw) (by decide) (rm_co1 l Z a0 hw ac kq q0 h0 n0 Z0 f5 f8) e18 (lenOf pd_1 rfl) (hb hby d_is1_36) (by rw [hml]; rfl) rfl (Nat.le_of_eq rfl) (by decide) (by decide) (by decide) (by decide) ?_
  intro v19 T19 L19 X19 q19
  obtain ⟨r19, kr19, rfl, M19, K19, P19_0, P19_1, P19_2⟩ := q19
  have N19 := Fr.app N0 M19
  have Z19 : n0 ≤ T19.heap.size := Nat.le_trans Z0 K19.1
  have B19 : h0.size ≤ T19.heap.size := Nat.le_trans (Nat.le_refl _) K19.1
  have ne_a_r19 : a ≠ r19 := Nat.ne_of_lt (Nat.lt_of_lt_of_le (f0).lt P19_1)
  have ne_ac_r19 : ac ≠ r19 := Nat.ne_of_lt (Nat.lt_of_lt_of_le (f5).lt P19_1)
  show Go _ _ _ _ T19 (mkF m 39 #[.val (.ref a), .val (.ref ac), .val (.int (0 : Int32)), .val (.int (1 : Int32)), .val .null, .unset] [(.ref r19)]) _ _ _
  refine Go.astore X19 hx (hb hby d_is1_39) rfl (l' := #[.val (.ref a), .val (.ref ac), .val (.int (0 : Int32)), .val (.int (1 : Int32)), .val .null, .val (.ref r19)]) rfl ?_
  show Go _ _ _ _ T19 (mkF m 41 #[.val (.ref a), .val (.ref ac), .val (.int (0 : Int32)), .val (.int (1 : Int32)), .val .null, .val (.ref r19)] []) _ _ _
  refine Go.aloadN X19 hx (hb hby d_is1_41) rfl rfl ?_
  show Go _ _ _ _ T19 (mkF m 42 #[.val (.ref a), .val (.ref ac), .val (.int (0 : Int32)), .val (.int (1 : Int32)), .val .null, .val (.ref r19)] [(.ref a)]) _ _ _
  refine Go.aload X19 hx (hb hby d_is1_42) rfl rfl ?_
  show Go _ _ _ _ T19 (mkF m 44 #[.val (.ref a), .val (.ref ac), .val (.int (0 : Int32)), .val (.int (1 : Int32)), .val .null, .val (.ref r19)] [(.ref r19), (.ref a)]) _ _ _
  refine Go.iloadN X19 hx (hb hby d_is1_44) rfl ?_
  show Go _ _ _ _ T19 (mkF m 45 #[.val (.ref a), .val (.ref ac), .val (.int (0 : Int32)), .val (.int (1 : Int32)), .val .null, .val (.ref r19)] [(.int (1 : Int32)), (.ref r19), (.ref a)]) _ _ _
  refine Go.callS (W := 1) (argsL := [(.ref r19), (.int (1 : Int32))]) (rest := [(.ref a)]) X19 hx hZ hown (w53 hw) (w54 hw) (w48 hw) (w55 hw) (by decide) (rm_cf1 l Z a0 hw r19 kr19 ((fun i => Value.int ((updI (fun _ => (0 : Int32)) 0 (bz q0)) i))) T19.heap n0 Z19 P19_2) rfl (lenOf pd_2 rfl) (hb hby d_is1_45) (by rw [hml]; rfl) rfl (Nat.le_of_eq rfl) (by decide) (by decide) (by decide) (by decide) ?_
  intro v20 T20 L20 X20 q20
  obtain ⟨rfl, M20, e20⟩ := q20
  have N20 := Fr.app N19 M20
  show Go _ _ _ _ T20 (mkF m 48 #[.val (.ref a), .val (.ref ac), .val (.int (0 : Int32)), .val (.int (1 : Int32)), .val .null, .val (.ref r19)] [(.int (0 : Int32)), (.ref a)]) _ _ _
  refine Go.putF X20 hx hZ hown (w29 hw) Via.refl e20 (Fld.keep f3 K19 nin0) (Exa.keep f0 K19) (Or.inr ⟨(w25 hw), rfl, hnm⟩) (w9 hw) (ty := .byte) (by decide) rfl rfl (hb hby d_is1_48) ?_
  intro T21 h21 X21 e21 W21
  have N21 := Fr.snoc X21 N20 f1
  have Z21 : n0 ≤ h21.size := by rw [Wr.size W21]; exact Z19
  have B21 : h0.size ≤ h21.size := by rw [Wr.size W21]; exact B19
  show Go _ _ _ _ T21 (mkF m 51 #[.val (.ref a), .val (.ref ac), .val (.int (0 : Int32)), .val (.int (1 : Int32)), .val .null, .val (.ref r19)] []) _ _ _
  refine Go.aloadN X21 hx (hb hby d_is1_51) rfl rfl ?_
  show Go _ _ _ _ T21 (mkF m 52 #[.val (.ref a), .val (.ref ac), .val (.int (0 : Int32)), .val (.int (1 : Int32)), .val .null, .val (.ref r19)] [(.ref a)]) _ _ _
  refine Go.aload X21 hx (hb hby d_is1_52) rfl rfl ?_
  show Go _ _ _ _ T21 (mkF m 54 #[.val (.ref a), .val (.ref ac), .val (.int (0 : Int32)), .val (.int (1 : Int32)), .val .null, .val (.ref r19)] [(.ref r19), (.ref a)]) _ _ _
  have F22 := (Fld.other W21 (Fld.keep f2 K19 nin0) (Or.inr (slot_ne (a0 := a0) (Or.inr (w24 hw)) (Or.inr (w25 hw)) (t := (.array .byte)) (t' := .byte) (by decide) (by decide) (by decide))))
  refine Go.putF X21 hx hZ hown (w28 hw) Via.refl e21 F22 (Exa.wr W21 (Exa.keep f0 K19)) (Or.inr ⟨(w24 hw), rfl, hnm⟩) (w9 hw) (ty := (.array .byte)) (by decide) rfl rfl (hb hby d_is1_54) ?_
  intro T23 h23 X23 e23 W23
  have N23 := Fr.snoc X23 N21 f1
  have Z23 : n0 ≤ h23.size := by rw [Wr.size W23]; exact Z21
  have B23 : h0.size ≤ h23.size := by rw [Wr.size W23]; exact B21
  show Go _ _ _ _ T23 (mkF m 57 #[.val (.ref a), .val (.ref ac), .val (.int (0 : Int32)), .val (.int (1 : Int32)), .val .null, .val (.ref r19)] []) _ _ _
  refine Go.ret0 X23 hx hlk hret (hb hby d_is1_57) (by decide) (by decide) ?_
  rw [e23]
  have F24 := (Exa.wr W23 (Exa.wr W21 (Exa.keep f0 K19)))
  have F25 := (Fld.other W23 (Fld.same W21 (Fld.keep f3 K19 nin0)) (Or.inr (slot_ne (a0 := a0) (Or.inr (w25 hw)) (Or.inr (w24 hw)) (t := .byte) (t' := (.array .byte)) (by decide) (by decide) (by decide))))
  have F26 := (Af.other W23 (Af.other W21 P19_2 (Ne.symm ne_a_r19)) (Ne.symm ne_a_r19))
  exact ⟨r19, kr19, rfl, N23, (Keep.wr (Keep.wr (Keep.trans (Keep.refl _ _) K19 all0) W21 (Or.inl (List.mem_of_getElem? (i := 0) rfl))) W23 (Or.inl (List.mem_of_getElem? (i := 0) rfl))), F24, (Fld.same W23 F22), F25, F26⟩
def Q_ia1 (Z : State) (a : Addr) (ac : Addr) (kq : ClassId) (cs : Int32) (q0 : Int32) (h0 : Heap) (n0 : Nat) (v : Option Value) (h : Heap) (L : List Loc) : Prop := ∃ (bx : Addr) (kx : ClassId), v = none ∧ Fr n0 L ∧ Keep h0 h [a] ∧ Exa Z h a "java/lang/String" ∧ Fld Z h a "java/lang/String" "value" "[B" (.ref bx) ∧ Fld Z h a "java/lang/String" "coder" "B" (.int (0 : Int32)) ∧ Af Z h bx kx .byte 1 (fun i => Value.int ((updI (fun _ => (0 : Int32)) 0 (bz q0)) i))
theorem ef_ia1 (m : MethodId) (x0 : Addr) (x1 : Addr) : entryFrame m #[(.ref x0), (.ref x1)] 2 = mkF m 0 #[.val (.ref x0), .val (.ref x1)] [] := by first | (simp [entryFrame, mkF, argsToLocals, Value.category]; done) | rfl
set_option maxRecDepth 65536 in
set_option maxHeartbeats 40000000 in
theorem rm_ia1 (l : Launch) (Z : State) (a0 : Array Value) (hw : ∀ d ∈ tables_1, d.before a0 Z = true) (a : Addr) (ac : Addr) (kq : ClassId) (cs : Int32) (q0 : Int32) (h0 : Heap) (n0 : Nat) (Z0 : n0 ≤ h0.size) (f0 : Exa Z h0 a "java/lang/String") (f1 : n0 ≤ a) (f2 : Fld Z h0 a "java/lang/String" "value" "[B" .null) (f3 : Fld Z h0 a "java/lang/String" "coder" "B" (.int (0 : Int32))) (f4 : a ≠ ac) (f5 : Af Z h0 ac kq .char 1 (fun i => Value.int ((updI (fun _ => (0 : Int32)) 0 q0) i))) (f6 : Sta Z h0 "java/lang/String" "COMPACT_STRINGS" "Z" (.int cs)) (f7 : ¬ cs = (0 : Int32)) (f8 : 0 ≤ q0.toInt ∧ q0.toInt ≤ 255) :
    Met l Z (⟨"java/lang/String", "<init>", "([C)V"⟩ : MethodName) jdk_42_method_3_code 2 none [] ({ frames := 3, cells := 1, slots := 1, locals := 52 } : Room) #[(.ref a), (.ref ac)] h0 (Q_ia1 Z a ac kq cs q0 h0 n0) := by
  refine Met.of (plainFor_of_name pn_ia1) ?_
  intro p e s m below meth c s₁ X0 hx hby hml hZ hown hnm e0 hret hlk
  refine Go.cast (ef_ia1 m a ac) ?_
  show Go _ _ _ _ s₁ (mkF m 0 #[.val (.ref a), .val (.ref ac)] []) _ _ _
  have N0 := Fr.nil n0
  refine Go.aloadN X0 hx (hb hby d_ia1_0) rfl rfl ?_
  show Go _ _ _ _ s₁ (mkF m 1 #[.val (.ref a), .val (.ref ac)] [(.ref a)]) _ _ _
  refine Go.aloadN X0 hx (hb hby d_ia1_1) rfl rfl ?_
  show Go _ _ _ _ s₁ (mkF m 2 #[.val (.ref a), .val (.ref ac)] [(.ref ac), (.ref a)]) _ _ _
  refine Go.iconst X0 hx (hb hby d_ia1_2) ?_
  show Go _ _ _ _ s₁ (mkF m 3 #[.val (.ref a), .val (.ref ac)] [(.int (0 : Int32)), (.ref ac), (.ref a)]) _ _ _
  refine Go.aloadN X0 hx (hb hby d_ia1_3) rfl rfl ?_
  show Go _ _ _ _ s₁ (mkF m 4 #[.val (.ref a), .val (.ref ac)] [(.ref ac), (.int (0 : Int32)), (.ref ac), (.ref a)]) _ _ _
  refine Go.alen X0 hx hZ e0 f5 (hb hby d_ia1_4) ?_
  show Go _ _ _ _ s₁ (mkF m 5 #[.val (.ref a), .val (.ref ac)] [(.int (1 : Int32)), (.int (0 : Int32)), (.ref ac), (.ref a)]) _ _ _
  refine Go.aconst_null X0 hx (hb hby d_ia1_5) ?_
  show Go _ _ _ _ s₁ (mkF m 6 #[.val (.ref a), .val (.ref ac)] [.null, (.int (1 : Int32)), (.int (0 : Int32)), (.ref ac), (.ref a)]) _ _ _
  refine Go.callI (W := 0) (a := a) (argsL := [(.ref ac), (.int (0 : Int32)), (.int (1 : Int32)), .null]) (rest := []) X0 hx hZ hown rfl (w15 hw) (w16 hw) (w10 hw) (w18 hw) (by decide) (rm_is1 l Z a0 hw a ac kq cs q0 h0 n0 Z0 f0 f1 f2 f3 f4 f5 f6 f7 f8) e0 (lenOf pd_3 rfl) (hb hby d_ia1_6) (by rw [hml]; rfl) rfl (Nat.le_of_eq rfl) (by decide) (by decide) (by decide) (by decide) ?_
  intro v27 T27 L27 X27 q27
  obtain ⟨bx27, kx27, rfl, M27, K27, P27_0, P27_1, P27_2, P27_3⟩ := q27
  have N27 := Fr.app N0 M27
  have Z27 : n0 ≤ T27.heap.size := Nat.le_trans Z0 K27.1
  have B27 : h0.size ≤ T27.heap.size := Nat.le_trans (Nat.le_refl _) K27.1
  show Go _ _ _ _ T27 (mkF m 9 #[.val (.ref a), .val (.ref ac)] []) _ _ _
  refine Go.ret0 X27 hx hlk hret (hb hby d_ia1_9) (by decide) (by decide) ?_
  exact ⟨bx27, kx27, rfl, N27, (Keep.trans (Keep.refl _ _) K27 (allS (Or.inl (List.mem_of_getElem? (i := 0) rfl)) all0)), P27_0, P27_1, P27_2, P27_3⟩
def Q_mk1 (Z : State) (c0 : Int32) (c1 : Int32) (c2 : Int32) (c3 : Int32) (cs : Int32) (h0 : Heap) (n0 : Nat) (v : Option Value) (h : Heap) (L : List Loc) : Prop := ∃ (xa : Addr) (bx : Addr) (kx : ClassId), v = some (.ref xa) ∧ Fr n0 L ∧ Keep h0 h [] ∧ n0 ≤ xa ∧ Exa Z h xa "java/lang/String" ∧ Fld Z h xa "java/lang/String" "value" "[B" (.ref bx) ∧ Fld Z h xa "java/lang/String" "coder" "B" (.int (0 : Int32)) ∧ Af Z h bx kx .byte 1 (fun i => Value.int ((updI (fun _ => (0 : Int32)) 0 (bz c0)) i))
theorem ef_mk1 (m : MethodId) (x0 : Int32) (x1 : Int32) (x2 : Int32) (x3 : Int32) (x4 : Int32) : entryFrame m #[(.int x0), (.int x1), (.int x2), (.int x3), (.int x4)] 5 = mkF m 0 #[.val (.int x0), .val (.int x1), .val (.int x2), .val (.int x3), .val (.int x4)] [] := by first | (simp [entryFrame, mkF, argsToLocals, Value.category]; done) | rfl
set_option maxRecDepth 65536 in
set_option maxHeartbeats 40000000 in
theorem rm_mk1 (l : Launch) (Z : State) (a0 : Array Value) (hw : ∀ d ∈ tables_1, d.before a0 Z = true) (c0 : Int32) (c1 : Int32) (c2 : Int32) (c3 : Int32) (cs : Int32) (h0 : Heap) (n0 : Nat) (Z0 : n0 ≤ h0.size) (f0 : Sta Z h0 "java/lang/String" "COMPACT_STRINGS" "Z" (.int cs)) (f1 : ¬ cs = (0 : Int32)) (f2 : 0 ≤ c0.toInt ∧ c0.toInt ≤ 255) (f3 : 0 ≤ c1.toInt ∧ c1.toInt ≤ 255) (f4 : 0 ≤ c2.toInt ∧ c2.toInt ≤ 255) (f5 : 0 ≤ c3.toInt ∧ c3.toInt ≤ 255) :
    Met l Z (⟨"com/example/trilatch/trilatch/http/TlsPolicyHandshakesWithPinLaw", "make", "(ICCCC)Ljava/lang/String;"⟩ : MethodName) method_4_code 5 (Option.some (Jvm.ClassFile.FieldType.object "java/lang/String")) [] ({ frames := 4, cells := 3, slots := 6, locals := 66 } : Room) #[(.int (1 : Int32)), (.int c0), (.int c1), (.int c2), (.int c3)] h0 (Q_mk1 Z c0 c1 c2 c3 cs h0 n0) := by
  refine Met.of (plainFor_of_name pn_mk1) ?_
  intro p e s m below meth c s₁ X0 hx hby hml hZ hown hnm e0 hret hlk
  refine Go.cast (ef_mk1 m ((1 : Int32)) c0 c1 c2 c3) ?_
  show Go _ _ _ _ s₁ (mkF m 0 #[.val (.int (1 : Int32)), .val (.int c0), .val (.int c1), .val (.int c2), .val (.int c3)] []) _ _ _
  have N0 := Fr.nil n0
  refine Go.iloadN X0 hx (hb hby d_mk1_0) rfl ?_
  show Go _ _ _ _ s₁ (mkF m 1 #[.val (.int (1 : Int32)), .val (.int c0), .val (.int c1), .val (.int c2), .val (.int c3)] [(.int (1 : Int32))]) _ _ _
  refine Go.ifYes X0 hx (hb hby d_mk1_1) (XT.i0_ne_t (by decide)) (pc' := 15) (by decide) (by decide) ?_
  show Go _ _ _ _ s₁ (mkF m 15 #[.val (.int (1 : Int32)), .val (.int c0), .val (.int c1), .val (.int c2), .val (.int c3)] []) _ _ _
  refine Go.iloadN X0 hx (hb hby d_mk1_15) rfl ?_
  show Go _ _ _ _ s₁ (mkF m 16 #[.val (.int (1 : Int32)), .val (.int c0), .val (.int c1), .val (.int c2), .val (.int c3)] [(.int (1 : Int32))]) _ _ _
  refine Go.iconst X0 hx (hb hby d_mk1_16) ?_
  show Go _ _ _ _ s₁ (mkF m 17 #[.val (.int (1 : Int32)), .val (.int c0), .val (.int c1), .val (.int c2), .val (.int c3)] [(.int (1 : Int32)), (.int (1 : Int32))]) _ _ _
  refine Go.icmpNo X0 hx (hb hby d_mk1_17) (XT.ii_ne_f (by decide)) ?_
  show Go _ _ _ _ s₁ (mkF m 20 #[.val (.int (1 : Int32)), .val (.int c0), .val (.int c1), .val (.int c2), .val (.int c3)] []) _ _ _
  refine Go.newO X0 hx hZ hown (w8 hw) (w9 hw) (w10 hw) e0 (hb hby d_mk1_20) (by decide) (by decide) ?_
  intro T28 h28 a28 b28 X28 e28 E28 A28 D28
  have g_a28 : n0 ≤ a28 := by rw [b28]; exact Z0
  have y_a28 : h0.size ≤ a28 := by rw [b28]; exact (Nat.le_refl _)
  have Z28 : n0 ≤ h28.size := Nat.le_trans Z0 E28.1
  have B28 : h0.size ≤ h28.size := Nat.le_trans (Nat.le_refl _) E28.1
  show Go _ _ _ _ T28 (mkF m 23 #[.val (.int (1 : Int32)), .val (.int c0), .val (.int c1), .val (.int c2), .val (.int c3)] [(.ref a28)]) _ _ _
  refine Go.dup X28 hx (hb hby d_mk1_23) rfl ?_
  show Go _ _ _ _ T28 (mkF m 24 #[.val (.int (1 : Int32)), .val (.int c0), .val (.int c1), .val (.int c2), .val (.int c3)] [(.ref a28), (.ref a28)]) _ _ _
  refine Go.iconst X28 hx (hb hby d_mk1_24) ?_
  show Go _ _ _ _ T28 (mkF m 25 #[.val (.int (1 : Int32)), .val (.int c0), .val (.int c1), .val (.int c2), .val (.int c3)] [(.int (1 : Int32)), (.ref a28), (.ref a28)]) _ _ _
  refine Go.newarray (aty := .char) (cap := 1) X28 hx hZ (w11 hw) e28 (hb hby d_mk1_25) (by decide) (by decide) (by decide) (by decide) (by decide) ?_
  intro T29 h29 a29 k29 b29 X29 e29 E29 A29
  have g_a29 : n0 ≤ a29 := by rw [b29]; exact Z28
  have y_a29 : h0.size ≤ a29 := by rw [b29]; exact B28
  have ne_a28_a29 : a28 ≠ a29 := by rw [b29]; exact Nat.ne_of_lt A28.lt
  have Z29 : n0 ≤ h29.size := Nat.le_trans Z28 E29.1
  have B29 : h0.size ≤ h29.size := Nat.le_trans B28 E29.1
  show Go _ _ _ _ T29 (mkF m 27 #[.val (.int (1 : Int32)), .val (.int c0), .val (.int c1), .val (.int c2), .val (.int c3)] [(.ref a29), (.ref a28), (.ref a28)]) _ _ _
  refine Go.dup X29 hx (hb hby d_mk1_27) rfl ?_
  show Go _ _ _ _ T29 (mkF m 28 #[.val (.int (1 : Int32)), .val (.int c0), .val (.int c1), .val (.int c2), .val (.int c3)] [(.ref a29), (.ref a29), (.ref a28), (.ref a28)]) _ _ _
  refine Go.iconst X29 hx (hb hby d_mk1_28) ?_
  show Go _ _ _ _ T29 (mkF m 29 #[.val (.int (1 : Int32)), .val (.int c0), .val (.int c1), .val (.int c2), .val (.int c3)] [(.int (0 : Int32)), (.ref a29), (.ref a29), (.ref a28), (.ref a28)]) _ _ _
  refine Go.iloadN X29 hx (hb hby d_mk1_29) rfl ?_
  show Go _ _ _ _ T29 (mkF m 30 #[.val (.int (1 : Int32)), .val (.int c0), .val (.int c1), .val (.int c2), .val (.int c3)] [(.int c0), (.int (0 : Int32)), (.ref a29), (.ref a29), (.ref a28), (.ref a28)]) _ _ _
  refine Go.castore X29 hx hZ e29 A29 (by decide) (by decide) (hb hby d_mk1_30) ?_
  intro T30 h30 X30 e30 W30 A30
  have N30 := Fr.snoc X30 N0 g_a29
  have Z30 : n0 ≤ h30.size := by rw [Wr.size W30]; exact Z29
  have B30 : h0.size ≤ h30.size := by rw [Wr.size W30]; exact B29
  show Go _ _ _ _ T30 (mkF m 31 #[.val (.int (1 : Int32)), .val (.int c0), .val (.int c1), .val (.int c2), .val (.int c3)] [(.ref a29), (.ref a28), (.ref a28)]) _ _ _
  have AC31 : Af Z h30 a29 k29 .char 1 (fun i => Value.int ((updI (fun _ => (0 : Int32)) 0 c0) i)) := Af.congr A30 (fun i hi => by have hi' : i < 1 := hi; rcases lt_1 hi' with rfl <;> first | (simp [updI, updV, nar_c f2]; done) | rfl)
  have F32 := (Fld.other W30 (Fld.ext E29 (D28 (Or.inr (w24 hw)) (ty := (.array .byte)) (by decide))) (Or.inl ne_a28_a29))
  have F33 := (Fld.other W30 (Fld.ext E29 (D28 (Or.inr (w25 hw)) (ty := .byte) (by decide))) (Or.inl ne_a28_a29))
  have F34 := (Sta.wr W30 (Sta.ext E29 (Sta.ext E28 f0)))
  refine Go.callI (W := 1) (a := a28) (argsL := [(.ref a29)]) (rest := [(.ref a28)]) X30 hx hZ hown rfl (w12 hw) (w13 hw) (w10 hw) (w14 hw) (by decide) (rm_ia1 l Z a0 hw a28 a29 k29 cs c0 h30 n0 Z30 (Exa.wr W30 (Exa.ext E29 A28)) g_a28 F32 F33 ne_a28_a29 AC31 F34 f1 f2) e30 (lenOf pd_4 rfl) (hb hby d_mk1_31) (by rw [hml]; rfl) rfl (Nat.le_of_eq rfl) (by decide) (by decide) (by decide) (by decide) ?_
  intro v35 T35 L35 X35 q35
  obtain ⟨bx35, kx35, rfl, M35, K35, P35_0, P35_1, P35_2, P35_3⟩ := q35
  have N35 := Fr.app N30 M35
  have Z35 : n0 ≤ T35.heap.size := Nat.le_trans Z30 K35.1
  have B35 : h0.size ≤ T35.heap.size := Nat.le_trans B30 K35.1
  show Go _ _ _ _ T35 (mkF m 34 #[.val (.int (1 : Int32)), .val (.int c0), .val (.int c1), .val (.int c2), .val (.int c3)] [(.ref a28)]) _ _ _
  refine Go.retR X35 hx hlk hret rfl rfl (hb hby d_mk1_34) (by decide) (by decide) ?_
  exact ⟨a28, bx35, kx35, rfl, N35, (Keep.trans (Keep.wr (Keep.ext (Keep.ext (Keep.refl _ _) E28) E29) W30 (Or.inr y_a29)) K35 (allS (Or.inr y_a28) all0)), g_a28, P35_0, P35_1, P35_2, P35_3⟩
def Q_ci2 (Z : State) (ac : Addr) (ab : Addr) (kq : ClassId) (kb : ClassId) (fb : Nat → Value) (q0 : Int32) (q1 : Int32) (h0 : Heap) (n0 : Nat) (v : Option Value) (h : Heap) (L : List Loc) : Prop := v = some (.int (2 : Int32)) ∧ Fr n0 L ∧ Keep h0 h [ab] ∧ Af Z h ab kb .byte 2 (fun i => Value.int ((updI (updI (fun _ => (0 : Int32)) 0 (bz q0)) 1 (bz q1)) i))
theorem ef_ci2 (m : MethodId) (x0 : Addr) (x1 : Int32) (x2 : Addr) (x3 : Int32) (x4 : Int32) : entryFrame m #[(.ref x0), (.int x1), (.ref x2), (.int x3), (.int x4)] 7 = mkF m 0 #[.val (.ref x0), .val (.int x1), .val (.ref x2), .val (.int x3), .val (.int x4), .unset, .unset] [] := by first | (simp [entryFrame, mkF, argsToLocals, Value.category]; done) | rfl
set_option maxRecDepth 65536 in
set_option maxHeartbeats 40000000 in
theorem rm_ci2 (l : Launch) (Z : State) (a0 : Array Value) (hw : ∀ d ∈ tables_1, d.before a0 Z = true) (ac : Addr) (ab : Addr) (kq : ClassId) (kb : ClassId) (fb : Nat → Value) (q0 : Int32) (q1 : Int32) (h0 : Heap) (n0 : Nat) (Z0 : n0 ≤ h0.size) (f0 : Af Z h0 ac kq .char 2 (fun i => Value.int ((updI (updI (fun _ => (0 : Int32)) 0 q0) 1 q1) i))) (f1 : Af Z h0 ab kb .byte 2 (fb)) (f2 : ac ≠ ab) (f3 : n0 ≤ ab) (f4 : 0 ≤ q0.toInt ∧ q0.toInt ≤ 255) (f5 : 0 ≤ q1.toInt ∧ q1.toInt ≤ 255) :
    Met l Z (⟨"java/lang/StringUTF16", "compress", "([CI[BII)I"⟩ : MethodName) jdk_52_method_21_code 7 (Option.some Jvm.ClassFile.FieldType.int) [] ({ frames := 0, cells := 0, slots := 0, locals := 0 } : Room) #[(.ref ac), (.int (0 : Int32)), (.ref ab), (.int (0 : Int32)), (.int (2 : Int32))] h0 (Q_ci2 Z ac ab kq kb fb q0 q1 h0 n0) := by
  refine Met.of (plainFor_of_name pn_ci2) ?_
  intro p e s m below meth c s₁ X0 hx hby hml hZ hown hnm e0 hret hlk
  refine Go.cast (ef_ci2 m ac ((0 : Int32)) ab ((0 : Int32)) ((2 : Int32))) ?_
  show Go _ _ _ _ s₁ (mkF m 0 #[.val (.ref ac), .val (.int (0 : Int32)), .val (.ref ab), .val (.int (0 : Int32)), .val (.int (2 : Int32)), .unset, .unset] []) _ _ _
  have N0 := Fr.nil n0
  refine Go.iconst X0 hx (hb hby d_ci2_0) ?_
  show Go _ _ _ _ s₁ (mkF m 1 #[.val (.ref ac), .val (.int (0 : Int32)), .val (.ref ab), .val (.int (0 : Int32)), .val (.int (2 : Int32)), .unset, .unset] [(.int (0 : Int32))]) _ _ _
  refine Go.istore X0 hx (hb hby d_ci2_1) (l' := #[.val (.ref ac), .val (.int (0 : Int32)), .val (.ref ab), .val (.int (0 : Int32)), .val (.int (2 : Int32)), .val (.int (0 : Int32)), .unset]) rfl ?_
  show Go _ _ _ _ s₁ (mkF m 3 #[.val (.ref ac), .val (.int (0 : Int32)), .val (.ref ab), .val (.int (0 : Int32)), .val (.int (2 : Int32)), .val (.int (0 : Int32)), .unset] []) _ _ _
  refine Go.iload X0 hx (hb hby d_ci2_3) rfl ?_
  show Go _ _ _ _ s₁ (mkF m 5 #[.val (.ref ac), .val (.int (0 : Int32)), .val (.ref ab), .val (.int (0 : Int32)), .val (.int (2 : Int32)), .val (.int (0 : Int32)), .unset] [(.int (0 : Int32))]) _ _ _
  refine Go.iload X0 hx (hb hby d_ci2_5) rfl ?_
  show Go _ _ _ _ s₁ (mkF m 7 #[.val (.ref ac), .val (.int (0 : Int32)), .val (.ref ab), .val (.int (0 : Int32)), .val (.int (2 : Int32)), .val (.int (0 : Int32)), .unset] [(.int (2 : Int32)), (.int (0 : Int32))]) _ _ _
  refine Go.icmpNo X0 hx (hb hby d_ci2_7) (XT.ii_ge_f (by decide)) ?_
  show Go _ _ _ _ s₁ (mkF m 10 #[.val (.ref ac), .val (.int (0 : Int32)), .val (.ref ab), .val (.int (0 : Int32)), .val (.int (2 : Int32)), .val (.int (0 : Int32)), .unset] []) _ _ _
  refine Go.aloadN X0 hx (hb hby d_ci2_10) rfl rfl ?_
  show Go _ _ _ _ s₁ (mkF m 11 #[.val (.ref ac), .val (.int (0 : Int32)), .val (.ref ab), .val (.int (0 : Int32)), .val (.int (2 : Int32)), .val (.int (0 : Int32)), .unset] [(.ref ac)]) _ _ _
  refine Go.iloadN X0 hx (hb hby d_ci2_11) rfl ?_
  show Go _ _ _ _ s₁ (mkF m 12 #[.val (.ref ac), .val (.int (0 : Int32)), .val (.ref ab), .val (.int (0 : Int32)), .val (.int (2 : Int32)), .val (.int (0 : Int32)), .unset] [(.int (0 : Int32)), (.ref ac)]) _ _ _
  refine Go.caload X0 hx hZ e0 f0 (by decide) (by decide) (hb hby d_ci2_12) ?_
  show Go _ _ _ _ s₁ (mkF m 13 #[.val (.ref ac), .val (.int (0 : Int32)), .val (.ref ab), .val (.int (0 : Int32)), .val (.int (2 : Int32)), .val (.int (0 : Int32)), .unset] [(.int q0)]) _ _ _
  refine Go.istore X0 hx (hb hby d_ci2_13) (l' := #[.val (.ref ac), .val (.int (0 : Int32)), .val (.ref ab), .val (.int (0 : Int32)), .val (.int (2 : Int32)), .val (.int (0 : Int32)), .val (.int q0)]) rfl ?_
  show Go _ _ _ _ s₁ (mkF m 15 #[.val (.ref ac), .val (.int (0 : Int32)), .val (.ref ab), .val (.int (0 : Int32)), .val (.int (2 : Int32)), .val (.int (0 : Int32)), .val (.int q0)] []) _ _ _
  refine Go.iload X0 hx (hb hby d_ci2_15) rfl ?_
  show Go _ _ _ _ s₁ (mkF m 17 #[.val (.ref ac), .val (.int (0 : Int32)), .val (.ref ab), .val (.int (0 : Int32)), .val (.int (2 : Int32)), .val (.int (0 : Int32)), .val (.int q0)] [(.int q0)]) _ _ _
  refine Go.sipush X0 hx (hb hby d_ci2_17) ?_
  show Go _ _ _ _ s₁ (mkF m 20 #[.val (.ref ac), .val (.int (0 : Int32)), .val (.ref ab), .val (.int (0 : Int32)), .val (.int (2 : Int32)), .val (.int (0 : Int32)), .val (.int q0)] [(.int (255 : Int32)), (.int q0)]) _ _ _
  refine Go.icmpYes X0 hx (hb hby d_ci2_20) (XT.ii_le_t (n255 f4.2)) (pc' := 26) (by decide) (by decide) ?_
  show Go _ _ _ _ s₁ (mkF m 26 #[.val (.ref ac), .val (.int (0 : Int32)), .val (.ref ab), .val (.int (0 : Int32)), .val (.int (2 : Int32)), .val (.int (0 : Int32)), .val (.int q0)] []) _ _ _
  refine Go.aloadN X0 hx (hb hby d_ci2_26) rfl rfl ?_
  show Go _ _ _ _ s₁ (mkF m 27 #[.val (.ref ac), .val (.int (0 : Int32)), .val (.ref ab), .val (.int (0 : Int32)), .val (.int (2 : Int32)), .val (.int (0 : Int32)), .val (.int q0)] [(.ref ab)]) _ _ _
  refine Go.iloadN X0 hx (hb hby d_ci2_27) rfl ?_
  show Go _ _ _ _ s₁ (mkF m 28 #[.val (.ref ac), .val (.int (0 : Int32)), .val (.ref ab), .val (.int (0 : Int32)), .val (.int (2 : Int32)), .val (.int (0 : Int32)), .val (.int q0)] [(.int (0 : Int32)), (.ref ab)]) _ _ _
  refine Go.iload X0 hx (hb hby d_ci2_28) rfl ?_
  show Go _ _ _ _ s₁ (mkF m 30 #[.val (.ref ac), .val (.int (0 : Int32)), .val (.ref ab), .val (.int (0 : Int32)), .val (.int (2 : Int32)), .val (.int (0 : Int32)), .val (.int q0)] [(.int q0), (.int (0 : Int32)), (.ref ab)]) _ _ _
  refine Go.i2b X0 hx (hb hby d_ci2_30) ?_
  show Go _ _ _ _ s₁ (mkF m 31 #[.val (.ref ac), .val (.int (0 : Int32)), .val (.ref ab), .val (.int (0 : Int32)), .val (.int (2 : Int32)), .val (.int (0 : Int32)), .val (.int q0)] [(.int ((q0).toInt8.toInt32)), (.int (0 : Int32)), (.ref ab)]) _ _ _
  refine Go.bastoreB X0 hx hZ e0 f1 (by decide) (by decide) (hb hby d_ci2_31) ?_
  intro T36 h36 X36 e36 W36 A36
  have N36 := Fr.snoc X36 N0 f3
  have Z36 : n0 ≤ h36.size := by rw [Wr.size W36]; exact Z0
  have B36 : h0.size ≤ h36.size := by rw [Wr.size W36]; exact (Nat.le_refl _)
  show Go _ _ _ _ T36 (mkF m 32 #[.val (.ref ac), .val (.int (0 : Int32)), .val (.ref ab), .val (.int (0 : Int32)), .val (.int (2 : Int32)), .val (.int (0 : Int32)), .val (.int q0)] []) _ _ _
  refine Go.iinc X36 hx (hb hby d_ci2_32) rfl (l' := #[.val (.ref ac), .val (.int (1 : Int32)), .val (.ref ab), .val (.int (0 : Int32)), .val (.int (2 : Int32)), .val (.int (0 : Int32)), .val (.int q0)]) rfl ?_
  show Go _ _ _ _ T36 (mkF m 35 #[.val (.ref ac), .val (.int (1 : Int32)), .val (.ref ab), .val (.int (0 : Int32)), .val (.int (2 : Int32)), .val (.int (0 : Int32)), .val (.int q0)] []) _ _ _
  refine Go.iinc X36 hx (hb hby d_ci2_35) rfl (l' := #[.val (.ref ac), .val (.int (1 : Int32)), .val (.ref ab), .val (.int (1 : Int32)), .val (.int (2 : Int32)), .val (.int (0 : Int32)), .val (.int q0)]) rfl ?_
  show Go _ _ _ _ T36 (mkF m 38 #[.val (.ref ac), .val (.int (1 : Int32)), .val (.ref ab), .val (.int (1 : Int32)), .val (.int (2 : Int32)), .val (.int (0 : Int32)), .val (.int q0)] []) _ _ _
  refine Go.iinc X36 hx (hb hby d_ci2_38) rfl (l' := #[.val (.ref ac), .val (.int (1 : Int32)), .val (.ref ab), .val (.int (1 : Int32)), .val (.int (2 : Int32)), .val (.int (1 : Int32)), .val (.int q0)]) rfl ?_
  show Go _ _ _ _ T36 (mkF m 41 #[.val (.ref ac), .val (.int (1 : Int32)), .val (.ref ab), .val (.int (1 : Int32)), .val (.int (2 : Int32)), .val (.int (1 : Int32)), .val (.int q0)] []) _ _ _
  refine Go.goto X36 hx (hb hby d_ci2_41) (pc' := 3) (by decide) (by decide) ?_
  show Go _ _ _ _ T36 (mkF m 3 #[.val (.ref ac), .val (.int (1 : Int32)), .val (.ref ab), .val (.int (1 : Int32)), .val (.int (2 : Int32)), .val (.int (1 : Int32)), .val (.int q0)] []) _ _ _
  refine Go.iload X36 hx (hb hby d_ci2_3) rfl ?_
  show Go _ _ _ _ T36 (mkF m 5 #[.val (.ref ac), .val (.int (1 : Int32)), .val (.ref ab), .val (.int (1 : Int32)), .val (.int (2 : Int32)), .val (.int (1 : Int32)), .val (.int q0)] [(.int (1 : Int32))]) _ _ _
  refine Go.iload X36 hx (hb hby d_ci2_5) rfl ?_
  show Go _ _ _ _ T36 (mkF m 7 #[.val (.ref ac), .val (.int (1 : Int32)), .val (.ref ab), .val (.int (1 : Int32)), .val (.int (2 : Int32)), .val (.int (1 : Int32)), .val (.int q0)] [(.int (2 : Int32)), (.int (1 : Int32))]) _ _ _
  refine Go.icmpNo X36 hx (hb hby d_ci2_7) (XT.ii_ge_f (by decide)) ?_
  show Go _ _ _ _ T36 (mkF m 10 #[.val (.ref ac), .val (.int (1 : Int32)), .val (.ref ab), .val (.int (1 : Int32)), .val (.int (2 : Int32)), .val (.int (1 : Int32)), .val (.int q0)] []) _ _ _
  refine Go.aloadN X36 hx (hb hby d_ci2_10) rfl rfl ?_
  show Go _ _ _ _ T36 (mkF m 11 #[.val (.ref ac), .val (.int (1 : Int32)), .val (.ref ab), .val (.int (1 : Int32)), .val (.int (2 : Int32)), .val (.int (1 : Int32)), .val (.int q0)] [(.ref ac)]) _ _ _
  refine Go.iloadN X36 hx (hb hby d_ci2_11) rfl ?_
  show Go _ _ _ _ T36 (mkF m 12 #[.val (.ref ac), .val (.int (1 : Int32)), .val (.ref ab), .val (.int (1 : Int32)), .val (.int (2 : Int32)), .val (.int (1 : Int32)), .val (.int q0)] [(.int (1 : Int32)), (.ref ac)]) _ _ _
  refine Go.caload X36 hx hZ e36 (Af.other W36 f0 f2) (by decide) (by decide) (hb hby d_ci2_12) ?_
  show Go _ _ _ _ T36 (mkF m 13 #[.val (.ref ac), .val (.int (1 : Int32)), .val (.ref ab), .val (.int (1 : Int32)), .val (.int (2 : Int32)), .val (.int (1 : Int32)), .val (.int q0)] [(.int q1)]) _ _ _
  refine Go.istore X36 hx (hb hby d_ci2_13) (l' := #[.val (.ref ac), .val (.int (1 : Int32)), .val (.ref ab), .val (.int (1 : Int32)), .val (.int (2 : Int32)), .val (.int (1 : Int32)), .val (.int q1)]) rfl ?_
  show Go _ _ _ _ T36 (mkF m 15 #[.val (.ref ac), .val (.int (1 : Int32)), .val (.ref ab), .val (.int (1 : Int32)), .val (.int (2 : Int32)), .val (.int (1 : Int32)), .val (.int q1)] []) _ _ _
  refine Go.iload X36 hx (hb hby d_ci2_15) rfl ?_
  show Go _ _ _ _ T36 (mkF m 17 #[.val (.ref ac), .val (.int (1 : Int32)), .val (.ref ab), .val (.int (1 : Int32)), .val (.int (2 : Int32)), .val (.int (1 : Int32)), .val (.int q1)] [(.int q1)]) _ _ _
  refine Go.sipush X36 hx (hb hby d_ci2_17) ?_
  show Go _ _ _ _ T36 (mkF m 20 #[.val (.ref ac), .val (.int (1 : Int32)), .val (.ref ab), .val (.int (1 : Int32)), .val (.int (2 : Int32)), .val (.int (1 : Int32)), .val (.int q1)] [(.int (255 : Int32)), (.int q1)]) _ _ _
  refine Go.icmpYes X36 hx (hb hby d_ci2_20) (XT.ii_le_t (n255 f5.2)) (pc' := 26) (by decide) (by decide) ?_
  show Go _ _ _ _ T36 (mkF m 26 #[.val (.ref ac), .val (.int (1 : Int32)), .val (.ref ab), .val (.int (1 : Int32)), .val (.int (2 : Int32)), .val (.int (1 : Int32)), .val (.int q1)] []) _ _ _
  refine Go.aloadN X36 hx (hb hby d_ci2_26) rfl rfl ?_
  show Go _ _ _ _ T36 (mkF m 27 #[.val (.ref ac), .val (.int (1 : Int32)), .val (.ref ab), .val (.int (1 : Int32)), .val (.int (2 : Int32)), .val (.int (1 : Int32)), .val (.int q1)] [(.ref ab)]) _ _ _
  refine Go.iloadN X36 hx (hb hby d_ci2_27) rfl ?_
  show Go _ _ _ _ T36 (mkF m 28 #[.val (.ref ac), .val (.int (1 : Int32)), .val (.ref ab), .val (.int (1 : Int32)), .val (.int (2 : Int32)), .val (.int (1 : Int32)), .val (.int q1)] [(.int (1 : Int32)), (.ref ab)]) _ _ _
  refine Go.iload X36 hx (hb hby d_ci2_28) rfl ?_
  show Go _ _ _ _ T36 (mkF m 30 #[.val (.ref ac), .val (.int (1 : Int32)), .val (.ref ab), .val (.int (1 : Int32)), .val (.int (2 : Int32)), .val (.int (1 : Int32)), .val (.int q1)] [(.int q1), (.int (1 : Int32)), (.ref ab)]) _ _ _
  refine Go.i2b X36 hx (hb hby d_ci2_30) ?_
  show Go _ _ _ _ T36 (mkF m 31 #[.val (.ref ac), .val (.int (1 : Int32)), .val (.ref ab), .val (.int (1 : Int32)), .val (.int (2 : Int32)), .val (.int (1 : Int32)), .val (.int q1)] [(.int ((q1).toInt8.toInt32)), (.int (1 : Int32)), (.ref ab)]) _ _ _
  refine Go.bastoreB X36 hx hZ e36 A36 (by decide) (by decide) (hb hby d_ci2_31) ?_
  intro T37 h37 X37 e37 W37 A37
  have N37 := Fr.snoc X37 N36 f3
  have Z37 : n0 ≤ h37.size := by rw [Wr.size W37]; exact Z36
  have B37 : h0.size ≤ h37.size := by rw [Wr.size W37]; exact B36
  show Go _ _ _ _ T37 (mkF m 32 #[.val (.ref ac), .val (.int (1 : Int32)), .val (.ref ab), .val (.int (1 : Int32)), .val (.int (2 : Int32)), .val (.int (1 : Int32)), .val (.int q1)] []) _ _ _
  refine Go.iinc X37 hx (hb hby d_ci2_32) rfl (l' := #[.val (.ref ac), .val (.int (2 : Int32)), .val (.ref ab), .val (.int (1 : Int32)), .val (.int (2 : Int32)), .val (.int (1 : Int32)), .val (.int q1)]) rfl ?_
  show Go _ _ _ _ T37 (mkF m 35 #[.val (.ref ac), .val (.int (2 : Int32)), .val (.ref ab), .val (.int (1 : Int32)), .val (.int (2 : Int32)), .val (.int (1 : Int32)), .val (.int q1)] []) _ _ _
  refine Go.iinc X37 hx (hb hby d_ci2_35) rfl (l' := #[.val (.ref ac), .val (.int (2 : Int32)), .val (.ref ab), .val (.int (2 : Int32)), .val (.int (2 : Int32)), .val (.int (1 : Int32)), .val (.int q1)]) rfl ?_
  show Go _ _ _ _ T37 (mkF m 38 #[.val (.ref ac), .val (.int (2 : Int32)), .val (.ref ab), .val (.int (2 : Int32)), .val (.int (2 : Int32)), .val (.int (1 : Int32)), .val (.int q1)] []) _ _ _
  refine Go.iinc X37 hx (hb hby d_ci2_38) rfl (l' := #[.val (.ref ac), .val (.int (2 : Int32)), .val (.ref ab), .val (.int (2 : Int32)), .val (.int (2 : Int32)), .val (.int (2 : Int32)), .val (.int q1)]) rfl ?_
  show Go _ _ _ _ T37 (mkF m 41 #[.val (.ref ac), .val (.int (2 : Int32)), .val (.ref ab), .val (.int (2 : Int32)), .val (.int (2 : Int32)), .val (.int (2 : Int32)), .val (.int q1)] []) _ _ _
  refine Go.goto X37 hx (hb hby d_ci2_41) (pc' := 3) (by decide) (by decide) ?_
  show Go _ _ _ _ T37 (mkF m 3 #[.val (.ref ac), .val (.int (2 : Int32)), .val (.ref ab), .val (.int (2 : Int32)), .val (.int (2 : Int32)), .val (.int (2 : Int32)), .val (.int q1)] []) _ _ _
  refine Go.iload X37 hx (hb hby d_ci2_3) rfl ?_
  show Go _ _ _ _ T37 (mkF m 5 #[.val (.ref ac), .val (.int (2 : Int32)), .val (.ref ab), .val (.int (2 : Int32)), .val (.int (2 : Int32)), .val (.int (2 : Int32)), .val (.int q1)] [(.int (2 : Int32))]) _ _ _
  refine Go.iload X37 hx (hb hby d_ci2_5) rfl ?_
  show Go _ _ _ _ T37 (mkF m 7 #[.val (.ref ac), .val (.int (2 : Int32)), .val (.ref ab), .val (.int (2 : Int32)), .val (.int (2 : Int32)), .val (.int (2 : Int32)), .val (.int q1)] [(.int (2 : Int32)), (.int (2 : Int32))]) _ _ _
  refine Go.icmpYes X37 hx (hb hby d_ci2_7) (XT.ii_ge_t (by decide)) (pc' := 44) (by decide) (by decide) ?_
  show Go _ _ _ _ T37 (mkF m 44 #[.val (.ref ac), .val (.int (2 : Int32)), .val (.ref ab), .val (.int (2 : Int32)), .val (.int (2 : Int32)), .val (.int (2 : Int32)), .val (.int q1)] []) _ _ _
  have AC38 : Af Z h37 ab kb .byte 2 (fun i => Value.int ((updI (updI (fun _ => (0 : Int32)) 0 (bz q0)) 1 (bz q1)) i)) := Af.congr A37 (fun i hi => by have hi' : i < 2 := hi; rcases lt_2 hi' with rfl | rfl <;> first | (simp [updI, updV, bz]; done) | rfl)
  refine Go.iload X37 hx (hb hby d_ci2_44) rfl ?_
  show Go _ _ _ _ T37 (mkF m 46 #[.val (.ref ac), .val (.int (2 : Int32)), .val (.ref ab), .val (.int (2 : Int32)), .val (.int (2 : Int32)), .val (.int (2 : Int32)), .val (.int q1)] [(.int (2 : Int32))]) _ _ _
  refine Go.retI X37 hx hlk hret (hb hby d_ci2_46) (by decide) (by decide) ?_
  rw [e37]
  exact ⟨rfl, N37, (Keep.wr (Keep.wr (Keep.refl _ _) W36 (Or.inl (List.mem_of_getElem? (i := 0) rfl))) W37 (Or.inl (List.mem_of_getElem? (i := 0) rfl))), AC38⟩
def Q_co2 (Z : State) (ac : Addr) (kq : ClassId) (q0 : Int32) (q1 : Int32) (h0 : Heap) (n0 : Nat) (v : Option Value) (h : Heap) (L : List Loc) : Prop := ∃ (r : Addr) (kr : ClassId), v = some (.ref r) ∧ Fr n0 L ∧ Keep h0 h [] ∧ n0 ≤ r ∧ h0.size ≤ r ∧ Af Z h r kr .byte 2 (fun i => Value.int ((updI (updI (fun _ => (0 : Int32)) 0 (bz q0)) 1 (bz q1)) i))
theorem ef_co2 (m : MethodId) (x0 : Addr) (x1 : Int32) (x2 : Int32) : entryFrame m #[(.ref x0), (.int x1), (.int x2)] 6 = mkF m 0 #[.val (.ref x0), .val (.int x1), .val (.int x2), .unset, .unset, .unset] [] := by first | (simp [entryFrame, mkF, argsToLocals, Value.category]; done) | rfl
set_option maxRecDepth 65536 in
set_option maxHeartbeats 40000000 in
theorem rm_co2 (l : Launch) (Z : State) (a0 : Array Value) (hw : ∀ d ∈ tables_1, d.before a0 Z = true) (ac : Addr) (kq : ClassId) (q0 : Int32) (q1 : Int32) (h0 : Heap) (n0 : Nat) (Z0 : n0 ≤ h0.size) (f0 : Af Z h0 ac kq .char 2 (fun i => Value.int ((updI (updI (fun _ => (0 : Int32)) 0 q0) 1 q1) i))) (f1 : 0 ≤ q0.toInt ∧ q0.toInt ≤ 255) (f2 : 0 ≤ q1.toInt ∧ q1.toInt ≤ 255) :
    Met l Z (⟨"java/lang/StringUTF16", "compress", "([CII)[B"⟩ : MethodName) jdk_52_method_16_code 6 (Option.some (Jvm.ClassFile.FieldType.array Jvm.ClassFile.FieldType.byte)) [] ({ frames := 1, cells := 1, slots := 2, locals := 18 } : Room) #[(.ref ac), (.int (0 : Int32)), (.int (2 : Int32))] h0 (Q_co2 Z ac kq q0 q1 h0 n0) := by
  refine Met.of (plainFor_of_name pn_co2) ?_
  intro p e s m below meth c s₁ X0 hx hby hml hZ hown hnm e0 hret hlk
  refine Go.cast (ef_co2 m ac ((0 : Int32)) ((2 : Int32))) ?_
  show Go _ _ _ _ s₁ (mkF m 0 #[.val (.ref ac), .val (.int (0 : Int32)), .val (.int (2 : Int32)), .unset, .unset, .unset] []) _ _ _
  have N0 := Fr.nil n0
  refine Go.iloadN X0 hx (hb hby d_co2_0) rfl ?_
  show Go _ _ _ _ s₁ (mkF m 1 #[.val (.ref ac), .val (.int (0 : Int32)), .val (.int (2 : Int32)), .unset, .unset, .unset] [(.int (2 : Int32))]) _ _ _
  refine Go.newarray (aty := .byte) (cap := 2) X0 hx hZ (w23 hw) e0 (hb hby d_co2_1) (by decide) (by decide) (by decide) (by decide) (by decide) ?_
  intro T39 h39 a39 k39 b39 X39 e39 E39 A39
  have g_a39 : n0 ≤ a39 := by rw [b39]; exact Z0
  have y_a39 : h0.size ≤ a39 := by rw [b39]; exact (Nat.le_refl _)
  have ne_ac_a39 : ac ≠ a39 := by rw [b39]; exact Nat.ne_of_lt f0.lt
  have Z39 : n0 ≤ h39.size := Nat.le_trans Z0 E39.1
  have B39 : h0.size ≤ h39.size := Nat.le_trans (Nat.le_refl _) E39.1
  show Go _ _ _ _ T39 (mkF m 3 #[.val (.ref ac), .val (.int (0 : Int32)), .val (.int (2 : Int32)), .unset, .unset, .unset] [(.ref a39)]) _ _ _
  refine Go.astoreN X39 hx (hb hby d_co2_3) rfl (l' := #[.val (.ref ac), .val (.int (0 : Int32)), .val (.int (2 : Int32)), .val (.ref a39), .unset, .unset]) rfl ?_
  show Go _ _ _ _ T39 (mkF m 4 #[.val (.ref ac), .val (.int (0 : Int32)), .val (.int (2 : Int32)), .val (.ref a39), .unset, .unset] []) _ _ _
  refine Go.aloadN X39 hx (hb hby d_co2_4) rfl rfl ?_
  show Go _ _ _ _ T39 (mkF m 5 #[.val (.ref ac), .val (.int (0 : Int32)), .val (.int (2 : Int32)), .val (.ref a39), .unset, .unset] [(.ref ac)]) _ _ _
  refine Go.iloadN X39 hx (hb hby d_co2_5) rfl ?_
  show Go _ _ _ _ T39 (mkF m 6 #[.val (.ref ac), .val (.int (0 : Int32)), .val (.int (2 : Int32)), .val (.ref a39), .unset, .unset] [(.int (0 : Int32)), (.ref ac)]) _ _ _
  refine Go.aloadN X39 hx (hb hby d_co2_6) rfl rfl ?_
  show Go _ _ _ _ T39 (mkF m 7 #[.val (.ref ac), .val (.int (0 : Int32)), .val (.int (2 : Int32)), .val (.ref a39), .unset, .unset] [(.ref a39), (.int (0 : Int32)), (.ref ac)]) _ _ _
  refine Go.iconst X39 hx (hb hby d_co2_7) ?_
  show Go _ _ _ _ T39 (mkF m 8 #[.val (.ref ac), .val (.int (0 : Int32)), .val (.int (2 : Int32)), .val (.ref a39), .unset, .unset] [(.int (0 : Int32)), (.ref a39), (.int (0 : Int32)), (.ref ac)]) _ _ _
  refine Go.iloadN X39 hx (hb hby d_co2_8) rfl ?_
  show Go _ _ _ _ T39 (mkF m 9 #[.val (.ref ac), .val (.int (0 : Int32)), .val (.int (2 : Int32)), .val (.ref a39), .unset, .unset] [(.int (2 : Int32)), (.int (0 : Int32)), (.ref a39), (.int (0 : Int32)), (.ref ac)]) _ _ _
  refine Go.callS (W := 0) (argsL := [(.ref ac), (.int (0 : Int32)), (.ref a39), (.int (0 : Int32)), (.int (2 : Int32))]) (rest := []) X39 hx hZ hown (w50 hw) (w51 hw) (w48 hw) (w52 hw) (by decide) (rm_ci2 l Z a0 hw ac a39 kq k39 ((fun _ => defaultValue (newarray.typeOf .byte))) q0 q1 h39 n0 Z39 (Af.ext E39 f0) A39 ne_ac_a39 g_a39 f1 f2) e39 (lenOf pd_0 rfl) (hb hby d_co2_9) (by rw [hml]; rfl) rfl (Nat.le_of_eq rfl) (by decide) (by decide) (by decide) (by decide) ?_
  intro v40 T40 L40 X40 q40
  obtain ⟨rfl, M40, K40, P40_0⟩ := q40
  have N40 := Fr.app N0 M40
  have Z40 : n0 ≤ T40.heap.size := Nat.le_trans Z39 K40.1
  have B40 : h0.size ≤ T40.heap.size := Nat.le_trans B39 K40.1
  show Go _ _ _ _ T40 (mkF m 12 #[.val (.ref ac), .val (.int (0 : Int32)), .val (.int (2 : Int32)), .val (.ref a39), .unset, .unset] [(.int (2 : Int32))]) _ _ _
  refine Go.istore X40 hx (hb hby d_co2_12) (l' := #[.val (.ref ac), .val (.int (0 : Int32)), .val (.int (2 : Int32)), .val (.ref a39), .val (.int (2 : Int32)), .unset]) rfl ?_
  show Go _ _ _ _ T40 (mkF m 14 #[.val (.ref ac), .val (.int (0 : Int32)), .val (.int (2 : Int32)), .val (.ref a39), .val (.int (2 : Int32)), .unset] []) _ _ _
  refine Go.iload X40 hx (hb hby d_co2_14) rfl ?_
  show Go _ _ _ _ T40 (mkF m 16 #[.val (.ref ac), .val (.int (0 : Int32)), .val (.int (2 : Int32)), .val (.ref a39), .val (.int (2 : Int32)), .unset] [(.int (2 : Int32))]) _ _ _
  refine Go.iloadN X40 hx (hb hby d_co2_16) rfl ?_
  show Go _ _ _ _ T40 (mkF m 17 #[.val (.ref ac), .val (.int (0 : Int32)), .val (.int (2 : Int32)), .val (.ref a39), .val (.int (2 : Int32)), .unset] [(.int (2 : Int32)), (.int (2 : Int32))]) _ _ _
  refine Go.icmpYes X40 hx (hb hby d_co2_17) (XT.ii_eq_t (by decide)) (pc' := 57) (by decide) (by decide) ?_
  show Go _ _ _ _ T40 (mkF m 57 #[.val (.ref ac), .val (.int (0 : Int32)), .val (.int (2 : Int32)), .val (.ref a39), .val (.int (2 : Int32)), .unset] []) _ _ _
  refine Go.aloadN X40 hx (hb hby d_co2_57) rfl rfl ?_
  show Go _ _ _ _ T40 (mkF m 58 #[.val (.ref ac), .val (.int (0 : Int32)), .val (.int (2 : Int32)), .val (.ref a39), .val (.int (2 : Int32)), .unset] [(.ref a39)]) _ _ _
  refine Go.retR X40 hx hlk hret rfl rfl (hb hby d_co2_58) (by decide) (by decide) ?_
  exact ⟨a39, k39, rfl, N40, (Keep.trans (Keep.ext (Keep.refl _ _) E39) K40 (allS (Or.inr y_a39) all0)), g_a39, y_a39, P40_0⟩
def Q_cf2 (Z : State) (ab : Addr) (kb : ClassId) (fb : Nat → Value) (h0 : Heap) (n0 : Nat) (v : Option Value) (h : Heap) (L : List Loc) : Prop := v = some (.int (0 : Int32)) ∧ Fr n0 L ∧ h = h0
theorem ef_cf2 (m : MethodId) (x0 : Addr) (x1 : Int32) : entryFrame m #[(.ref x0), (.int x1)] 2 = mkF m 0 #[.val (.ref x0), .val (.int x1)] [] := by first | (simp [entryFrame, mkF, argsToLocals, Value.category]; done) | rfl
set_option maxRecDepth 65536 in
set_option maxHeartbeats 40000000 in
theorem rm_cf2 (l : Launch) (Z : State) (a0 : Array Value) (hw : ∀ d ∈ tables_1, d.before a0 Z = true) (ab : Addr) (kb : ClassId) (fb : Nat → Value) (h0 : Heap) (n0 : Nat) (Z0 : n0 ≤ h0.size) (f0 : Af Z h0 ab kb .byte 2 (fb)) :
    Met l Z (⟨"java/lang/StringUTF16", "coderFromArrayLen", "([BI)B"⟩ : MethodName) jdk_52_method_15_code 2 (Option.some Jvm.ClassFile.FieldType.byte) [] ({ frames := 0, cells := 0, slots := 0, locals := 0 } : Room) #[(.ref ab), (.int (2 : Int32))] h0 (Q_cf2 Z ab kb fb h0 n0) := by
  refine Met.of (plainFor_of_name pn_cf2) ?_
  intro p e s m below meth c s₁ X0 hx hby hml hZ hown hnm e0 hret hlk
  refine Go.cast (ef_cf2 m ab ((2 : Int32))) ?_
  show Go _ _ _ _ s₁ (mkF m 0 #[.val (.ref ab), .val (.int (2 : Int32))] []) _ _ _
  have N0 := Fr.nil n0
  refine Go.iloadN X0 hx (hb hby d_cf2_0) rfl ?_
  show Go _ _ _ _ s₁ (mkF m 1 #[.val (.ref ab), .val (.int (2 : Int32))] [(.int (2 : Int32))]) _ _ _
  refine Go.aloadN X0 hx (hb hby d_cf2_1) rfl rfl ?_
  show Go _ _ _ _ s₁ (mkF m 2 #[.val (.ref ab), .val (.int (2 : Int32))] [(.ref ab), (.int (2 : Int32))]) _ _ _
  refine Go.alen X0 hx hZ e0 f0 (hb hby d_cf2_2) ?_
  show Go _ _ _ _ s₁ (mkF m 3 #[.val (.ref ab), .val (.int (2 : Int32))] [(.int (2 : Int32)), (.int (2 : Int32))]) _ _ _
  refine Go.isub X0 hx (hb hby d_cf2_3) ?_
  show Go _ _ _ _ s₁ (mkF m 4 #[.val (.ref ab), .val (.int (2 : Int32))] [(.int (0 : Int32))]) _ _ _
  refine Go.bipush X0 hx (hb hby d_cf2_4) ?_
  show Go _ _ _ _ s₁ (mkF m 6 #[.val (.ref ab), .val (.int (2 : Int32))] [(.int (31 : Int32)), (.int (0 : Int32))]) _ _ _
  refine Go.iushr X0 hx (hb hby d_cf2_6) ?_
  show Go _ _ _ _ s₁ (mkF m 7 #[.val (.ref ab), .val (.int (2 : Int32))] [(.int (0 : Int32))]) _ _ _
  refine Go.i2b X0 hx (hb hby d_cf2_7) ?_
  show Go _ _ _ _ s₁ (mkF m 8 #[.val (.ref ab), .val (.int (2 : Int32))] [(.int (0 : Int32))]) _ _ _
  refine Go.retV X0 hx hlk hret rfl (Or.inl ⟨rfl, Or.inr (Or.inr (Or.inl rfl)), _, rfl⟩) (hb hby d_cf2_8) (by decide) (by decide) ?_
  rw [e0]
  exact ⟨rfl, N0, rfl⟩
def Q_is2 (Z : State) (a : Addr) (ac : Addr) (kq : ClassId) (cs : Int32) (q0 : Int32) (q1 : Int32) (h0 : Heap) (n0 : Nat) (v : Option Value) (h : Heap) (L : List Loc) : Prop := ∃ (bx : Addr) (kx : ClassId), v = none ∧ Fr n0 L ∧ Keep h0 h [a] ∧ Exa Z h a "java/lang/String" ∧ Fld Z h a "java/lang/String" "value" "[B" (.ref bx) ∧ Fld Z h a "java/lang/String" "coder" "B" (.int (0 : Int32)) ∧ Af Z h bx kx .byte 2 (fun i => Value.int ((updI (updI (fun _ => (0 : Int32)) 0 (bz q0)) 1 (bz q1)) i))
theorem ef_is2 (m : MethodId) (x0 : Addr) (x1 : Addr) (x2 : Int32) (x3 : Int32) : entryFrame m #[(.ref x0), (.ref x1), (.int x2), (.int x3), .null] 6 = mkF m 0 #[.val (.ref x0), .val (.ref x1), .val (.int x2), .val (.int x3), .val .null, .unset] [] := by first | (simp [entryFrame, mkF, argsToLocals, Value.category]; done) | rfl
set_option maxRecDepth 65536 in
set_option maxHeartbeats 40000000 in
theorem rm_is2 (l : Launch) (Z : State) (a0 : Array Value) (hw : ∀ d ∈ tables_1, d.before a0 Z = true) (a : Addr) (ac : Addr) (kq : ClassId) (cs : Int32) (q0 : Int32) (q1 : Int32) (h0 : Heap) (n0 : Nat) (Z0 : n0 ≤ h0.size) (f0 : Exa Z h0 a "java/lang/String") (f1 : n0 ≤ a) (f2 : Fld Z h0 a "java/lang/String" "value" "[B" .null) (f3 : Fld Z h0 a "java/lang/String" "coder" "B" (.int (0 : Int32))) (f4 : a ≠ ac) (f5 : Af Z h0 ac kq .char 2 (fun i => Value.int ((updI (updI (fun _ => (0 : Int32)) 0 q0) 1 q1) i))) (f6 : Sta Z h0 "java/lang/String" "COMPACT_STRINGS" "Z" (.int cs)) (f7 : ¬ cs = (0 : Int32)) (f8 : 0 ≤ q0.toInt ∧ q0.toInt ≤ 255) (f9 : 0 ≤ q1.toInt ∧ q1.toInt ≤ 255) :
    Met l Z (⟨"java/lang/String", "<init>", "([CIILjava/lang/Void;)V"⟩ : MethodName) jdk_42_method_149_code 6 none [] ({ frames := 2, cells := 1, slots := 2, locals := 35 } : Room) #[(.ref a), (.ref ac), (.int (0 : Int32)), (.int (2 : Int32)), .null] h0 (Q_is2 Z a ac kq cs q0 q1 h0 n0) := by
  refine Met.of (plainFor_of_name pn_is2) ?_
  intro p e s m below meth c s₁ X0 hx hby hml hZ hown hnm e0 hret hlk
  refine Go.cast (ef_is2 m a ac ((0 : Int32)) ((2 : Int32))) ?_
  show Go _ _ _ _ s₁ (mkF m 0 #[.val (.ref a), .val (.ref ac), .val (.int (0 : Int32)), .val (.int (2 : Int32)), .val .null, .unset] []) _ _ _
  have N0 := Fr.nil n0
  refine Go.aloadN X0 hx (hb hby d_is2_0) rfl rfl ?_
  show Go _ _ _ _ s₁ (mkF m 1 #[.val (.ref a), .val (.ref ac), .val (.int (0 : Int32)), .val (.int (2 : Int32)), .val .null, .unset] [(.ref a)]) _ _ _
  refine Go.initO (W := 0) X0 hx hZ hown (w19 hw) (w20 hw) (w21 hw) e0 (hb hby d_is2_1) (by rw [hml]; rfl) (Nat.le_of_eq rfl) (by decide) (by decide) ?_
  intro T41 X41 e41
  show Go _ _ _ _ T41 (mkF m 4 #[.val (.ref a), .val (.ref ac), .val (.int (0 : Int32)), .val (.int (2 : Int32)), .val .null, .unset] []) _ _ _
  refine Go.iloadN X41 hx (hb hby d_is2_4) rfl ?_
  show Go _ _ _ _ T41 (mkF m 5 #[.val (.ref a), .val (.ref ac), .val (.int (0 : Int32)), .val (.int (2 : Int32)), .val .null, .unset] [(.int (2 : Int32))]) _ _ _
  refine Go.ifYes X41 hx (hb hby d_is2_5) (XT.i0_ne_t (by decide)) (pc' := 27) (by decide) (by decide) ?_
  show Go _ _ _ _ T41 (mkF m 27 #[.val (.ref a), .val (.ref ac), .val (.int (0 : Int32)), .val (.int (2 : Int32)), .val .null, .unset] []) _ _ _
  refine Go.getS X41 hx hZ hown (w41 hw) Via.refl e41 f6 (hb hby d_is2_27) ?_
  intro T42 X42 e42
  show Go _ _ _ _ T42 (mkF m 30 #[.val (.ref a), .val (.ref ac), .val (.int (0 : Int32)), .val (.int (2 : Int32)), .val .null, .unset] [(.int cs)]) _ _ _
  refine Go.ifNo X42 hx (hb hby d_is2_30) (XT.i0_eq_f f7) ?_
  show Go _ _ _ _ T42 (mkF m 33 #[.val (.ref a), .val (.ref ac), .val (.int (0 : Int32)), .val (.int (2 : Int32)), .val .null, .unset] []) _ _ _
  refine Go.aloadN X42 hx (hb hby d_is2_33) rfl rfl ?_
  show Go _ _ _ _ T42 (mkF m 34 #[.val (.ref a), .val (.ref ac), .val (.int (0 : Int32)), .val (.int (2 : Int32)), .val .null, .unset] [(.ref ac)]) _ _ _
  refine Go.iloadN X42 hx (hb hby d_is2_34) rfl ?_
  show Go _ _ _ _ T42 (mkF m 35 #[.val (.ref a), .val (.ref ac), .val (.int (0 : Int32)), .val (.int (2 : Int32)), .val .null, .unset] [(.int (0 : Int32)), (.ref ac)]) _ _ _
  refine Go.iloadN X42 hx (hb hby d_is2_35) rfl ?_
  show Go _ _ _ _ T42 (mkF m 36 #[.val (.ref a), .val (.ref ac), .val (.int (0 : Int32)), .val (.int (2 : Int32)), .val .null, .unset] [(.int (2 : Int32)), (.int (0 : Int32)), (.ref ac)]) _ _ _
  refine Go.callS (W := 0) (argsL := [(.ref ac), (.int (0 : Int32)), (.int (2 : Int32))]) (rest := []) X42 hx hZ hown (w46 hw) (w47 hw) (w48 hw) (w49 hw) (by decide) (rm_co2 l Z a0 hw ac kq q0 q1 h0 n0 Z0 f5 f8 f9) e42 (lenOf pd_1 rfl) (hb hby d_is2_36) (by rw [hml]; rfl) rfl (Nat.le_of_eq rfl) (by decide) (by decide) (by decide) (by decide) ?_
  intro v43 T43 L43 X43 q43
  obtain ⟨r43, kr43, rfl, M43, K43, P43_0, P43_1, P43_2⟩ := q43
  have N43 := Fr.app N0 M43
  have Z43 : n0 ≤ T43.heap.size := Nat.le_trans Z0 K43.1
  have B43 : h0.size ≤ T43.heap.size := Nat.le_trans (Nat.le_refl _) K43.1
  have ne_a_r43 : a ≠ r43 := Nat.ne_of_lt (Nat.lt_of_lt_of_le (f0).lt P43_1)
  have ne_ac_r43 : ac ≠ r43 := Nat.ne_of_lt (Nat.lt_of_lt_of_le (f5).lt P43_1)
  show Go _ _ _ _ T43 (mkF m 39 #[.val (.ref a), .val (.ref ac), .val (.int (0 : Int32)), .val (.int (2 : Int32)), .val .null, .unset] [(.ref r43)]) _ _ _
  refine Go.astore X43 hx (hb hby d_is2_39) rfl (l' := #[.val (.ref a), .val (.ref ac), .val (.int (0 : Int32)), .val (.int (2 : Int32)), .val .null, .val (.ref r43)]) rfl ?_
  show Go _ _ _ _ T43 (mkF m 41 #[.val (.ref a), .val (.ref ac), .val (.int (0 : Int32)), .val (.int (2 : Int32)), .val .null, .val (.ref r43)] []) _ _ _
  refine Go.aloadN X43 hx (hb hby d_is2_41) rfl rfl ?_
  show Go _ _ _ _ T43 (mkF m 42 #[.val (.ref a), .val (.ref ac), .val (.int (0 : Int32)), .val (.int (2 : Int32)), .val .null, .val (.ref r43)] [(.ref a)]) _ _ _
  refine Go.aload X43 hx (hb hby d_is2_42) rfl rfl ?_
  show Go _ _ _ _ T43 (mkF m 44 #[.val (.ref a), .val (.ref ac), .val (.int (0 : Int32)), .val (.int (2 : Int32)), .val .null, .val (.ref r43)] [(.ref r43), (.ref a)]) _ _ _
  refine Go.iloadN X43 hx (hb hby d_is2_44) rfl ?_
  show Go _ _ _ _ T43 (mkF m 45 #[.val (.ref a), .val (.ref ac), .val (.int (0 : Int32)), .val (.int (2 : Int32)), .val .null, .val (.ref r43)] [(.int (2 : Int32)), (.ref r43), (.ref a)]) _ _ _
  refine Go.callS (W := 1) (argsL := [(.ref r43), (.int (2 : Int32))]) (rest := [(.ref a)]) X43 hx hZ hown (w53 hw) (w54 hw) (w48 hw) (w55 hw) (by decide) (rm_cf2 l Z a0 hw r43 kr43 ((fun i => Value.int ((updI (updI (fun _ => (0 : Int32)) 0 (bz q0)) 1 (bz q1)) i))) T43.heap n0 Z43 P43_2) rfl (lenOf pd_2 rfl) (hb hby d_is2_45) (by rw [hml]; rfl) rfl (Nat.le_of_eq rfl) (by decide) (by decide) (by decide) (by decide) ?_
  intro v44 T44 L44 X44 q44
  obtain ⟨rfl, M44, e44⟩ := q44
  have N44 := Fr.app N43 M44
  show Go _ _ _ _ T44 (mkF m 48 #[.val (.ref a), .val (.ref ac), .val (.int (0 : Int32)), .val (.int (2 : Int32)), .val .null, .val (.ref r43)] [(.int (0 : Int32)), (.ref a)]) _ _ _
  refine Go.putF X44 hx hZ hown (w29 hw) Via.refl e44 (Fld.keep f3 K43 nin0) (Exa.keep f0 K43) (Or.inr ⟨(w25 hw), rfl, hnm⟩) (w9 hw) (ty := .byte) (by decide) rfl rfl (hb hby d_is2_48) ?_
  intro T45 h45 X45 e45 W45
  have N45 := Fr.snoc X45 N44 f1
  have Z45 : n0 ≤ h45.size := by rw [Wr.size W45]; exact Z43
  have B45 : h0.size ≤ h45.size := by rw [Wr.size W45]; exact B43
  show Go _ _ _ _ T45 (mkF m 51 #[.val (.ref a), .val (.ref ac), .val (.int (0 : Int32)), .val (.int (2 : Int32)), .val .null, .val (.ref r43)] []) _ _ _
  refine Go.aloadN X45 hx (hb hby d_is2_51) rfl rfl ?_
  show Go _ _ _ _ T45 (mkF m 52 #[.val (.ref a), .val (.ref ac), .val (.int (0 : Int32)), .val (.int (2 : Int32)), .val .null, .val (.ref r43)] [(.ref a)]) _ _ _
  refine Go.aload X45 hx (hb hby d_is2_52) rfl rfl ?_
  show Go _ _ _ _ T45 (mkF m 54 #[.val (.ref a), .val (.ref ac), .val (.int (0 : Int32)), .val (.int (2 : Int32)), .val .null, .val (.ref r43)] [(.ref r43), (.ref a)]) _ _ _
  have F46 := (Fld.other W45 (Fld.keep f2 K43 nin0) (Or.inr (slot_ne (a0 := a0) (Or.inr (w24 hw)) (Or.inr (w25 hw)) (t := (.array .byte)) (t' := .byte) (by decide) (by decide) (by decide))))
  refine Go.putF X45 hx hZ hown (w28 hw) Via.refl e45 F46 (Exa.wr W45 (Exa.keep f0 K43)) (Or.inr ⟨(w24 hw), rfl, hnm⟩) (w9 hw) (ty := (.array .byte)) (by decide) rfl rfl (hb hby d_is2_54) ?_
  intro T47 h47 X47 e47 W47
  have N47 := Fr.snoc X47 N45 f1
  have Z47 : n0 ≤ h47.size := by rw [Wr.size W47]; exact Z45
  have B47 : h0.size ≤ h47.size := by rw [Wr.size W47]; exact B45
  show Go _ _ _ _ T47 (mkF m 57 #[.val (.ref a), .val (.ref ac), .val (.int (0 : Int32)), .val (.int (2 : Int32)), .val .null, .val (.ref r43)] []) _ _ _
  refine Go.ret0 X47 hx hlk hret (hb hby d_is2_57) (by decide) (by decide) ?_
  rw [e47]
  have F48 := (Exa.wr W47 (Exa.wr W45 (Exa.keep f0 K43)))
  have F49 := (Fld.other W47 (Fld.same W45 (Fld.keep f3 K43 nin0)) (Or.inr (slot_ne (a0 := a0) (Or.inr (w25 hw)) (Or.inr (w24 hw)) (t := .byte) (t' := (.array .byte)) (by decide) (by decide) (by decide))))
  have F50 := (Af.other W47 (Af.other W45 P43_2 (Ne.symm ne_a_r43)) (Ne.symm ne_a_r43))
  exact ⟨r43, kr43, rfl, N47, (Keep.wr (Keep.wr (Keep.trans (Keep.refl _ _) K43 all0) W45 (Or.inl (List.mem_of_getElem? (i := 0) rfl))) W47 (Or.inl (List.mem_of_getElem? (i := 0) rfl))), F48, (Fld.same W47 F46), F49, F50⟩
def Q_ia2 (Z : State) (a : Addr) (ac : Addr) (kq : ClassId) (cs : Int32) (q0 : Int32) (q1 : Int32) (h0 : Heap) (n0 : Nat) (v : Option Value) (h : Heap) (L : List Loc) : Prop := ∃ (bx : Addr) (kx : ClassId), v = none ∧ Fr n0 L ∧ Keep h0 h [a] ∧ Exa Z h a "java/lang/String" ∧ Fld Z h a "java/lang/String" "value" "[B" (.ref bx) ∧ Fld Z h a "java/lang/String" "coder" "B" (.int (0 : Int32)) ∧ Af Z h bx kx .byte 2 (fun i => Value.int ((updI (updI (fun _ => (0 : Int32)) 0 (bz q0)) 1 (bz q1)) i))
theorem ef_ia2 (m : MethodId) (x0 : Addr) (x1 : Addr) : entryFrame m #[(.ref x0), (.ref x1)] 2 = mkF m 0 #[.val (.ref x0), .val (.ref x1)] [] := by first | (simp [entryFrame, mkF, argsToLocals, Value.category]; done) | rfl
set_option maxRecDepth 65536 in
set_option maxHeartbeats 40000000 in
theorem rm_ia2 (l : Launch) (Z : State) (a0 : Array Value) (hw : ∀ d ∈ tables_1, d.before a0 Z = true) (a : Addr) (ac : Addr) (kq : ClassId) (cs : Int32) (q0 : Int32) (q1 : Int32) (h0 : Heap) (n0 : Nat) (Z0 : n0 ≤ h0.size) (f0 : Exa Z h0 a "java/lang/String") (f1 : n0 ≤ a) (f2 : Fld Z h0 a "java/lang/String" "value" "[B" .null) (f3 : Fld Z h0 a "java/lang/String" "coder" "B" (.int (0 : Int32))) (f4 : a ≠ ac) (f5 : Af Z h0 ac kq .char 2 (fun i => Value.int ((updI (updI (fun _ => (0 : Int32)) 0 q0) 1 q1) i))) (f6 : Sta Z h0 "java/lang/String" "COMPACT_STRINGS" "Z" (.int cs)) (f7 : ¬ cs = (0 : Int32)) (f8 : 0 ≤ q0.toInt ∧ q0.toInt ≤ 255) (f9 : 0 ≤ q1.toInt ∧ q1.toInt ≤ 255) :
    Met l Z (⟨"java/lang/String", "<init>", "([C)V"⟩ : MethodName) jdk_42_method_3_code 2 none [] ({ frames := 3, cells := 1, slots := 2, locals := 52 } : Room) #[(.ref a), (.ref ac)] h0 (Q_ia2 Z a ac kq cs q0 q1 h0 n0) := by
  refine Met.of (plainFor_of_name pn_ia2) ?_
  intro p e s m below meth c s₁ X0 hx hby hml hZ hown hnm e0 hret hlk
  refine Go.cast (ef_ia2 m a ac) ?_
  show Go _ _ _ _ s₁ (mkF m 0 #[.val (.ref a), .val (.ref ac)] []) _ _ _
  have N0 := Fr.nil n0
  refine Go.aloadN X0 hx (hb hby d_ia2_0) rfl rfl ?_
  show Go _ _ _ _ s₁ (mkF m 1 #[.val (.ref a), .val (.ref ac)] [(.ref a)]) _ _ _
  refine Go.aloadN X0 hx (hb hby d_ia2_1) rfl rfl ?_
  show Go _ _ _ _ s₁ (mkF m 2 #[.val (.ref a), .val (.ref ac)] [(.ref ac), (.ref a)]) _ _ _
  refine Go.iconst X0 hx (hb hby d_ia2_2) ?_
  show Go _ _ _ _ s₁ (mkF m 3 #[.val (.ref a), .val (.ref ac)] [(.int (0 : Int32)), (.ref ac), (.ref a)]) _ _ _
  refine Go.aloadN X0 hx (hb hby d_ia2_3) rfl rfl ?_
  show Go _ _ _ _ s₁ (mkF m 4 #[.val (.ref a), .val (.ref ac)] [(.ref ac), (.int (0 : Int32)), (.ref ac), (.ref a)]) _ _ _
  refine Go.alen X0 hx hZ e0 f5 (hb hby d_ia2_4) ?_
  show Go _ _ _ _ s₁ (mkF m 5 #[.val (.ref a), .val (.ref ac)] [(.int (2 : Int32)), (.int (0 : Int32)), (.ref ac), (.ref a)]) _ _ _
  refine Go.aconst_null X0 hx (hb hby d_ia2_5) ?_
  show Go _ _ _ _ s₁ (mkF m 6 #[.val (.ref a), .val (.ref ac)] [.null, (.int (2 : Int32)), (.int (0 : Int32)), (.ref ac), (.ref a)]) _ _ _
  refine Go.callI (W := 0) (a := a) (argsL := [(.ref ac), (.int (0 : Int32)), (.int (2 : Int32)), .null]) (rest := []) X0 hx hZ hown rfl (w15 hw) (w16 hw) (w10 hw) (w18 hw) (by decide) (rm_is2 l Z a0 hw a ac kq cs q0 q1 h0 n0 Z0 f0 f1 f2 f3 f4 f5 f6 f7 f8 f9) e0 (lenOf pd_3 rfl) (hb hby d_ia2_6) (by rw [hml]; rfl) rfl (Nat.le_of_eq rfl) (by decide) (by decide) (by decide) (by decide) ?_
  intro v51 T51 L51 X51 q51
  obtain ⟨bx51, kx51, rfl, M51, K51, P51_0, P51_1, P51_2, P51_3⟩ := q51
  have N51 := Fr.app N0 M51
  have Z51 : n0 ≤ T51.heap.size := Nat.le_trans Z0 K51.1
  have B51 : h0.size ≤ T51.heap.size := Nat.le_trans (Nat.le_refl _) K51.1
  show Go _ _ _ _ T51 (mkF m 9 #[.val (.ref a), .val (.ref ac)] []) _ _ _
  refine Go.ret0 X51 hx hlk hret (hb hby d_ia2_9) (by decide) (by decide) ?_
  exact ⟨bx51, kx51, rfl, N51, (Keep.trans (Keep.refl _ _) K51 (allS (Or.inl (List.mem_of_getElem? (i := 0) rfl)) all0)), P51_0, P51_1, P51_2, P51_3⟩
def Q_mk2 (Z : State) (c0 : Int32) (c1 : Int32) (c2 : Int32) (c3 : Int32) (cs : Int32) (h0 : Heap) (n0 : Nat) (v : Option Value) (h : Heap) (L : List Loc) : Prop := ∃ (xa : Addr) (bx : Addr) (kx : ClassId), v = some (.ref xa) ∧ Fr n0 L ∧ Keep h0 h [] ∧ n0 ≤ xa ∧ Exa Z h xa "java/lang/String" ∧ Fld Z h xa "java/lang/String" "value" "[B" (.ref bx) ∧ Fld Z h xa "java/lang/String" "coder" "B" (.int (0 : Int32)) ∧ Af Z h bx kx .byte 2 (fun i => Value.int ((updI (updI (fun _ => (0 : Int32)) 0 (bz c0)) 1 (bz c1)) i))
theorem ef_mk2 (m : MethodId) (x0 : Int32) (x1 : Int32) (x2 : Int32) (x3 : Int32) (x4 : Int32) : entryFrame m #[(.int x0), (.int x1), (.int x2), (.int x3), (.int x4)] 5 = mkF m 0 #[.val (.int x0), .val (.int x1), .val (.int x2), .val (.int x3), .val (.int x4)] [] := by first | (simp [entryFrame, mkF, argsToLocals, Value.category]; done) | rfl
set_option maxRecDepth 65536 in
set_option maxHeartbeats 40000000 in
theorem rm_mk2 (l : Launch) (Z : State) (a0 : Array Value) (hw : ∀ d ∈ tables_1, d.before a0 Z = true) (c0 : Int32) (c1 : Int32) (c2 : Int32) (c3 : Int32) (cs : Int32) (h0 : Heap) (n0 : Nat) (Z0 : n0 ≤ h0.size) (f0 : Sta Z h0 "java/lang/String" "COMPACT_STRINGS" "Z" (.int cs)) (f1 : ¬ cs = (0 : Int32)) (f2 : 0 ≤ c0.toInt ∧ c0.toInt ≤ 255) (f3 : 0 ≤ c1.toInt ∧ c1.toInt ≤ 255) (f4 : 0 ≤ c2.toInt ∧ c2.toInt ≤ 255) (f5 : 0 ≤ c3.toInt ∧ c3.toInt ≤ 255) :
    Met l Z (⟨"com/example/trilatch/trilatch/http/TlsPolicyHandshakesWithPinLaw", "make", "(ICCCC)Ljava/lang/String;"⟩ : MethodName) method_4_code 5 (Option.some (Jvm.ClassFile.FieldType.object "java/lang/String")) [] ({ frames := 4, cells := 3, slots := 8, locals := 66 } : Room) #[(.int (2 : Int32)), (.int c0), (.int c1), (.int c2), (.int c3)] h0 (Q_mk2 Z c0 c1 c2 c3 cs h0 n0) := by
  refine Met.of (plainFor_of_name pn_mk2) ?_
  intro p e s m below meth c s₁ X0 hx hby hml hZ hown hnm e0 hret hlk
  refine Go.cast (ef_mk2 m ((2 : Int32)) c0 c1 c2 c3) ?_
  show Go _ _ _ _ s₁ (mkF m 0 #[.val (.int (2 : Int32)), .val (.int c0), .val (.int c1), .val (.int c2), .val (.int c3)] []) _ _ _
  have N0 := Fr.nil n0
  refine Go.iloadN X0 hx (hb hby d_mk2_0) rfl ?_
  show Go _ _ _ _ s₁ (mkF m 1 #[.val (.int (2 : Int32)), .val (.int c0), .val (.int c1), .val (.int c2), .val (.int c3)] [(.int (2 : Int32))]) _ _ _
  refine Go.ifYes X0 hx (hb hby d_mk2_1) (XT.i0_ne_t (by decide)) (pc' := 15) (by decide) (by decide) ?_
  show Go _ _ _ _ s₁ (mkF m 15 #[.val (.int (2 : Int32)), .val (.int c0), .val (.int c1), .val (.int c2), .val (.int c3)] []) _ _ _
  refine Go.iloadN X0 hx (hb hby d_mk2_15) rfl ?_
  show Go _ _ _ _ s₁ (mkF m 16 #[.val (.int (2 : Int32)), .val (.int c0), .val (.int c1), .val (.int c2), .val (.int c3)] [(.int (2 : Int32))]) _ _ _
  refine Go.iconst X0 hx (hb hby d_mk2_16) ?_
  show Go _ _ _ _ s₁ (mkF m 17 #[.val (.int (2 : Int32)), .val (.int c0), .val (.int c1), .val (.int c2), .val (.int c3)] [(.int (1 : Int32)), (.int (2 : Int32))]) _ _ _
  refine Go.icmpYes X0 hx (hb hby d_mk2_17) (XT.ii_ne_t (by decide)) (pc' := 35) (by decide) (by decide) ?_
  show Go _ _ _ _ s₁ (mkF m 35 #[.val (.int (2 : Int32)), .val (.int c0), .val (.int c1), .val (.int c2), .val (.int c3)] []) _ _ _
  refine Go.iloadN X0 hx (hb hby d_mk2_35) rfl ?_
  show Go _ _ _ _ s₁ (mkF m 36 #[.val (.int (2 : Int32)), .val (.int c0), .val (.int c1), .val (.int c2), .val (.int c3)] [(.int (2 : Int32))]) _ _ _
  refine Go.iconst X0 hx (hb hby d_mk2_36) ?_
  show Go _ _ _ _ s₁ (mkF m 37 #[.val (.int (2 : Int32)), .val (.int c0), .val (.int c1), .val (.int c2), .val (.int c3)] [(.int (2 : Int32)), (.int (2 : Int32))]) _ _ _
  refine Go.icmpNo X0 hx (hb hby d_mk2_37) (XT.ii_ne_f (by decide)) ?_
  show Go _ _ _ _ s₁ (mkF m 40 #[.val (.int (2 : Int32)), .val (.int c0), .val (.int c1), .val (.int c2), .val (.int c3)] []) _ _ _
  refine Go.newO X0 hx hZ hown (w8 hw) (w9 hw) (w10 hw) e0 (hb hby d_mk2_40) (by decide) (by decide) ?_
  intro T52 h52 a52 b52 X52 e52 E52 A52 D52
  have g_a52 : n0 ≤ a52 := by rw [b52]; exact Z0
  have y_a52 : h0.size ≤ a52 := by rw [b52]; exact (Nat.le_refl _)
  have Z52 : n0 ≤ h52.size := Nat.le_trans Z0 E52.1
  have B52 : h0.size ≤ h52.size := Nat.le_trans (Nat.le_refl _) E52.1
  show Go _ _ _ _ T52 (mkF m 43 #[.val (.int (2 : Int32)), .val (.int c0), .val (.int c1), .val (.int c2), .val (.int c3)] [(.ref a52)]) _ _ _
  refine Go.dup X52 hx (hb hby d_mk2_43) rfl ?_
  show Go _ _ _ _ T52 (mkF m 44 #[.val (.int (2 : Int32)), .val (.int c0), .val (.int c1), .val (.int c2), .val (.int c3)] [(.ref a52), (.ref a52)]) _ _ _
  refine Go.iconst X52 hx (hb hby d_mk2_44) ?_
  show Go _ _ _ _ T52 (mkF m 45 #[.val (.int (2 : Int32)), .val (.int c0), .val (.int c1), .val (.int c2), .val (.int c3)] [(.int (2 : Int32)), (.ref a52), (.ref a52)]) _ _ _
  refine Go.newarray (aty := .char) (cap := 2) X52 hx hZ (w11 hw) e52 (hb hby d_mk2_45) (by decide) (by decide) (by decide) (by decide) (by decide) ?_
  intro T53 h53 a53 k53 b53 X53 e53 E53 A53
  have g_a53 : n0 ≤ a53 := by rw [b53]; exact Z52
  have y_a53 : h0.size ≤ a53 := by rw [b53]; exact B52
  have ne_a52_a53 : a52 ≠ a53 := by rw [b53]; exact Nat.ne_of_lt A52.lt
  have Z53 : n0 ≤ h53.size := Nat.le_trans Z52 E53.1
  have B53 : h0.size ≤ h53.size := Nat.le_trans B52 E53.1
  show Go _ _ _ _ T53 (mkF m 47 #[.val (.int (2 : Int32)), .val (.int c0), .val (.int c1), .val (.int c2), .val (.int c3)] [(.ref a53), (.ref a52), (.ref a52)]) _ _ _
  refine Go.dup X53 hx (hb hby d_mk2_47) rfl ?_
  show Go _ _ _ _ T53 (mkF m 48 #[.val (.int (2 : Int32)), .val (.int c0), .val (.int c1), .val (.int c2), .val (.int c3)] [(.ref a53), (.ref a53), (.ref a52), (.ref a52)]) _ _ _
  refine Go.iconst X53 hx (hb hby d_mk2_48) ?_
  show Go _ _ _ _ T53 (mkF m 49 #[.val (.int (2 : Int32)), .val (.int c0), .val (.int c1), .val (.int c2), .val (.int c3)] [(.int (0 : Int32)), (.ref a53), (.ref a53), (.ref a52), (.ref a52)]) _ _ _
  refine Go.iloadN X53 hx (hb hby d_mk2_49) rfl ?_
  show Go _ _ _ _ T53 (mkF m 50 #[.val (.int (2 : Int32)), .val (.int c0), .val (.int c1), .val (.int c2), .val (.int c3)] [(.int c0), (.int (0 : Int32)), (.ref a53), (.ref a53), (.ref a52), (.ref a52)]) _ _ _
  refine Go.castore X53 hx hZ e53 A53 (by decide) (by decide) (hb hby d_mk2_50) ?_
  intro T54 h54 X54 e54 W54 A54
  have N54 := Fr.snoc X54 N0 g_a53
  have Z54 : n0 ≤ h54.size := by rw [Wr.size W54]; exact Z53
  have B54 : h0.size ≤ h54.size := by rw [Wr.size W54]; exact B53
  show Go _ _ _ _ T54 (mkF m 51 #[.val (.int (2 : Int32)), .val (.int c0), .val (.int c1), .val (.int c2), .val (.int c3)] [(.ref a53), (.ref a52), (.ref a52)]) _ _ _
  refine Go.dup X54 hx (hb hby d_mk2_51) rfl ?_
  show Go _ _ _ _ T54 (mkF m 52 #[.val (.int (2 : Int32)), .val (.int c0), .val (.int c1), .val (.int c2), .val (.int c3)] [(.ref a53), (.ref a53), (.ref a52), (.ref a52)]) _ _ _
  refine Go.iconst X54 hx (hb hby d_mk2_52) ?_
  show Go _ _ _ _ T54 (mkF m 53 #[.val (.int (2 : Int32)), .val (.int c0), .val (.int c1), .val (.int c2), .val (.int c3)] [(.int (1 : Int32)), (.ref a53), (.ref a53), (.ref a52), (.ref a52)]) _ _ _
  refine Go.iloadN X54 hx (hb hby d_mk2_53) rfl ?_
  show Go _ _ _ _ T54 (mkF m 54 #[.val (.int (2 : Int32)), .val (.int c0), .val (.int c1), .val (.int c2), .val (.int c3)] [(.int c1), (.int (1 : Int32)), (.ref a53), (.ref a53), (.ref a52), (.ref a52)]) _ _ _
  refine Go.castore X54 hx hZ e54 A54 (by decide) (by decide) (hb hby d_mk2_54) ?_
  intro T55 h55 X55 e55 W55 A55
  have N55 := Fr.snoc X55 N54 g_a53
  have Z55 : n0 ≤ h55.size := by rw [Wr.size W55]; exact Z54
  have B55 : h0.size ≤ h55.size := by rw [Wr.size W55]; exact B54
  show Go _ _ _ _ T55 (mkF m 55 #[.val (.int (2 : Int32)), .val (.int c0), .val (.int c1), .val (.int c2), .val (.int c3)] [(.ref a53), (.ref a52), (.ref a52)]) _ _ _
  have AC56 : Af Z h55 a53 k53 .char 2 (fun i => Value.int ((updI (updI (fun _ => (0 : Int32)) 0 c0) 1 c1) i)) := Af.congr A55 (fun i hi => by have hi' : i < 2 := hi; rcases lt_2 hi' with rfl | rfl <;> first | (simp [updI, updV, nar_c f2, nar_c f3]; done) | rfl)
  have F57 := (Exa.wr W55 (Exa.wr W54 (Exa.ext E53 A52)))
  have F58 := (Fld.other W55 (Fld.other W54 (Fld.ext E53 (D52 (Or.inr (w24 hw)) (ty := (.array .byte)) (by decide))) (Or.inl ne_a52_a53)) (Or.inl ne_a52_a53))
  have F59 := (Fld.other W55 (Fld.other W54 (Fld.ext E53 (D52 (Or.inr (w25 hw)) (ty := .byte) (by decide))) (Or.inl ne_a52_a53)) (Or.inl ne_a52_a53))
  have F60 := (Sta.wr W55 (Sta.wr W54 (Sta.ext E53 (Sta.ext E52 f0))))
  refine Go.callI (W := 1) (a := a52) (argsL := [(.ref a53)]) (rest := [(.ref a52)]) X55 hx hZ hown rfl (w12 hw) (w13 hw) (w10 hw) (w14 hw) (by decide) (rm_ia2 l Z a0 hw a52 a53 k53 cs c0 c1 h55 n0 Z55 F57 g_a52 F58 F59 ne_a52_a53 AC56 F60 f1 f2 f3) e55 (lenOf pd_4 rfl) (hb hby d_mk2_55) (by rw [hml]; rfl) rfl (Nat.le_of_eq rfl) (by decide) (by decide) (by decide) (by decide) ?_
  intro v61 T61 L61 X61 q61
  obtain ⟨bx61, kx61, rfl, M61, K61, P61_0, P61_1, P61_2, P61_3⟩ := q61
  have N61 := Fr.app N55 M61
  have Z61 : n0 ≤ T61.heap.size := Nat.le_trans Z55 K61.1
  have B61 : h0.size ≤ T61.heap.size := Nat.le_trans B55 K61.1
  show Go _ _ _ _ T61 (mkF m 58 #[.val (.int (2 : Int32)), .val (.int c0), .val (.int c1), .val (.int c2), .val (.int c3)] [(.ref a52)]) _ _ _
  refine Go.retR X61 hx hlk hret rfl rfl (hb hby d_mk2_58) (by decide) (by decide) ?_
  exact ⟨a52, bx61, kx61, rfl, N61, (Keep.trans (Keep.wr (Keep.wr (Keep.ext (Keep.ext (Keep.refl _ _) E52) E53) W54 (Or.inr y_a53)) W55 (Or.inr y_a53)) K61 (allS (Or.inr y_a52) all0)), g_a52, P61_0, P61_1, P61_2, P61_3⟩
def Q_ci3 (Z : State) (ac : Addr) (ab : Addr) (kq : ClassId) (kb : ClassId) (fb : Nat → Value) (q0 : Int32) (q1 : Int32) (q2 : Int32) (h0 : Heap) (n0 : Nat) (v : Option Value) (h : Heap) (L : List Loc) : Prop := v = some (.int (3 : Int32)) ∧ Fr n0 L ∧ Keep h0 h [ab] ∧ Af Z h ab kb .byte 3 (fun i => Value.int ((updI (updI (updI (fun _ => (0 : Int32)) 0 (bz q0)) 1 (bz q1)) 2 (bz q2)) i))
theorem ef_ci3 (m : MethodId) (x0 : Addr) (x1 : Int32) (x2 : Addr) (x3 : Int32) (x4 : Int32) : entryFrame m #[(.ref x0), (.int x1), (.ref x2), (.int x3), (.int x4)] 7 = mkF m 0 #[.val (.ref x0), .val (.int x1), .val (.ref x2), .val (.int x3), .val (.int x4), .unset, .unset] [] := by first | (simp [entryFrame, mkF, argsToLocals, Value.category]; done) | rfl
set_option maxRecDepth 65536 in
set_option maxHeartbeats 40000000 in
theorem rm_ci3 (l : Launch) (Z : State) (a0 : Array Value) (hw : ∀ d ∈ tables_1, d.before a0 Z = true) (ac : Addr) (ab : Addr) (kq : ClassId) (kb : ClassId) (fb : Nat → Value) (q0 : Int32) (q1 : Int32) (q2 : Int32) (h0 : Heap) (n0 : Nat) (Z0 : n0 ≤ h0.size) (f0 : Af Z h0 ac kq .char 3 (fun i => Value.int ((updI (updI (updI (fun _ => (0 : Int32)) 0 q0) 1 q1) 2 q2) i))) (f1 : Af Z h0 ab kb .byte 3 (fb)) (f2 : ac ≠ ab) (f3 : n0 ≤ ab) (f4 : 0 ≤ q0.toInt ∧ q0.toInt ≤ 255) (f5 : 0 ≤ q1.toInt ∧ q1.toInt ≤ 255) (f6 : 0 ≤ q2.toInt ∧ q2.toInt ≤ 255) :
    Met l Z (⟨"java/lang/StringUTF16", "compress", "([CI[BII)I"⟩ : MethodName) jdk_52_method_21_code 7 (Option.some Jvm.ClassFile.FieldType.int) [] ({ frames := 0, cells := 0, slots := 0, locals := 0 } : Room) #[(.ref ac), (.int (0 : Int32)), (.ref ab), (.int (0 : Int32)), (.int (3 : Int32))] h0 (Q_ci3 Z ac ab kq kb fb q0 q1 q2 h0 n0) := by
  refine Met.of (plainFor_of_name pn_ci3) ?_
  intro p e s m below meth c s₁ X0 hx hby hml hZ hown hnm e0 hret hlk
  refine Go.cast (ef_ci3 m ac ((0 : Int32)) ab ((0 : Int32)) ((3 : Int32))) ?_
  show Go _ _ _ _ s₁ (mkF m 0 #[.val (.ref ac), .val (.int (0 : Int32)), .val (.ref ab), .val (.int (0 : Int32)), .val (.int (3 : Int32)), .unset, .unset] []) _ _ _
  have N0 := Fr.nil n0
  refine Go.iconst X0 hx (hb hby d_ci3_0) ?_
  show Go _ _ _ _ s₁ (mkF m 1 #[.val (.ref ac), .val (.int (0 : Int32)), .val (.ref ab), .val (.int (0 : Int32)), .val (.int (3 : Int32)), .unset, .unset] [(.int (0 : Int32))]) _ _ _
  refine Go.istore X0 hx (hb hby d_ci3_1) (l' := #[.val (.ref ac), .val (.int (0 : Int32)), .val (.ref ab), .val (.int (0 : Int32)), .val (.int (3 : Int32)), .val (.int (0 : Int32)), .unset]) rfl ?_
  show Go _ _ _ _ s₁ (mkF m 3 #[.val (.ref ac), .val (.int (0 : Int32)), .val (.ref ab), .val (.int (0 : Int32)), .val (.int (3 : Int32)), .val (.int (0 : Int32)), .unset] []) _ _ _
  refine Go.iload X0 hx (hb hby d_ci3_3) rfl ?_
  show Go _ _ _ _ s₁ (mkF m 5 #[.val (.ref ac), .val (.int (0 : Int32)), .val (.ref ab), .val (.int (0 : Int32)), .val (.int (3 : Int32)), .val (.int (0 : Int32)), .unset] [(.int (0 : Int32))]) _ _ _
  refine Go.iload X0 hx (hb hby d_ci3_5) rfl ?_
  show Go _ _ _ _ s₁ (mkF m 7 #[.val (.ref ac), .val (.int (0 : Int32)), .val (.ref ab), .val (.int (0 : Int32)), .val (.int (3 : Int32)), .val (.int (0 : Int32)), .unset] [(.int (3 : Int32)), (.int (0 : Int32))]) _ _ _
  refine Go.icmpNo X0 hx (hb hby d_ci3_7) (XT.ii_ge_f (by decide)) ?_
  show Go _ _ _ _ s₁ (mkF m 10 #[.val (.ref ac), .val (.int (0 : Int32)), .val (.ref ab), .val (.int (0 : Int32)), .val (.int (3 : Int32)), .val (.int (0 : Int32)), .unset] []) _ _ _
  refine Go.aloadN X0 hx (hb hby d_ci3_10) rfl rfl ?_
  show Go _ _ _ _ s₁ (mkF m 11 #[.val (.ref ac), .val (.int (0 : Int32)), .val (.ref ab), .val (.int (0 : Int32)), .val (.int (3 : Int32)), .val (.int (0 : Int32)), .unset] [(.ref ac)]) _ _ _
  refine Go.iloadN X0 hx (hb hby d_ci3_11) rfl ?_
  show Go _ _ _ _ s₁ (mkF m 12 #[.val (.ref ac), .val (.int (0 : Int32)), .val (.ref ab), .val (.int (0 : Int32)), .val (.int (3 : Int32)), .val (.int (0 : Int32)), .unset] [(.int (0 : Int32)), (.ref ac)]) _ _ _
  refine Go.caload X0 hx hZ e0 f0 (by decide) (by decide) (hb hby d_ci3_12) ?_
  show Go _ _ _ _ s₁ (mkF m 13 #[.val (.ref ac), .val (.int (0 : Int32)), .val (.ref ab), .val (.int (0 : Int32)), .val (.int (3 : Int32)), .val (.int (0 : Int32)), .unset] [(.int q0)]) _ _ _
  refine Go.istore X0 hx (hb hby d_ci3_13) (l' := #[.val (.ref ac), .val (.int (0 : Int32)), .val (.ref ab), .val (.int (0 : Int32)), .val (.int (3 : Int32)), .val (.int (0 : Int32)), .val (.int q0)]) rfl ?_
  show Go _ _ _ _ s₁ (mkF m 15 #[.val (.ref ac), .val (.int (0 : Int32)), .val (.ref ab), .val (.int (0 : Int32)), .val (.int (3 : Int32)), .val (.int (0 : Int32)), .val (.int q0)] []) _ _ _
  refine Go.iload X0 hx (hb hby d_ci3_15) rfl ?_
  show Go _ _ _ _ s₁ (mkF m 17 #[.val (.ref ac), .val (.int (0 : Int32)), .val (.ref ab), .val (.int (0 : Int32)), .val (.int (3 : Int32)), .val (.int (0 : Int32)), .val (.int q0)] [(.int q0)]) _ _ _
  refine Go.sipush X0 hx (hb hby d_ci3_17) ?_
  show Go _ _ _ _ s₁ (mkF m 20 #[.val (.ref ac), .val (.int (0 : Int32)), .val (.ref ab), .val (.int (0 : Int32)), .val (.int (3 : Int32)), .val (.int (0 : Int32)), .val (.int q0)] [(.int (255 : Int32)), (.int q0)]) _ _ _
  refine Go.icmpYes X0 hx (hb hby d_ci3_20) (XT.ii_le_t (n255 f4.2)) (pc' := 26) (by decide) (by decide) ?_
  show Go _ _ _ _ s₁ (mkF m 26 #[.val (.ref ac), .val (.int (0 : Int32)), .val (.ref ab), .val (.int (0 : Int32)), .val (.int (3 : Int32)), .val (.int (0 : Int32)), .val (.int q0)] []) _ _ _
  refine Go.aloadN X0 hx (hb hby d_ci3_26) rfl rfl ?_
  show Go _ _ _ _ s₁ (mkF m 27 #[.val (.ref ac), .val (.int (0 : Int32)), .val (.ref ab), .val (.int (0 : Int32)), .val (.int (3 : Int32)), .val (.int (0 : Int32)), .val (.int q0)] [(.ref ab)]) _ _ _
  refine Go.iloadN X0 hx (hb hby d_ci3_27) rfl ?_
  show Go _ _ _ _ s₁ (mkF m 28 #[.val (.ref ac), .val (.int (0 : Int32)), .val (.ref ab), .val (.int (0 : Int32)), .val (.int (3 : Int32)), .val (.int (0 : Int32)), .val (.int q0)] [(.int (0 : Int32)), (.ref ab)]) _ _ _
  refine Go.iload X0 hx (hb hby d_ci3_28) rfl ?_
  show Go _ _ _ _ s₁ (mkF m 30 #[.val (.ref ac), .val (.int (0 : Int32)), .val (.ref ab), .val (.int (0 : Int32)), .val (.int (3 : Int32)), .val (.int (0 : Int32)), .val (.int q0)] [(.int q0), (.int (0 : Int32)), (.ref ab)]) _ _ _
  refine Go.i2b X0 hx (hb hby d_ci3_30) ?_
  show Go _ _ _ _ s₁ (mkF m 31 #[.val (.ref ac), .val (.int (0 : Int32)), .val (.ref ab), .val (.int (0 : Int32)), .val (.int (3 : Int32)), .val (.int (0 : Int32)), .val (.int q0)] [(.int ((q0).toInt8.toInt32)), (.int (0 : Int32)), (.ref ab)]) _ _ _
  refine Go.bastoreB X0 hx hZ e0 f1 (by decide) (by decide) (hb hby d_ci3_31) ?_
  intro T62 h62 X62 e62 W62 A62
  have N62 := Fr.snoc X62 N0 f3
  have Z62 : n0 ≤ h62.size := by rw [Wr.size W62]; exact Z0
  have B62 : h0.size ≤ h62.size := by rw [Wr.size W62]; exact (Nat.le_refl _)
  show Go _ _ _ _ T62 (mkF m 32 #[.val (.ref ac), .val (.int (0 : Int32)), .val (.ref ab), .val (.int (0 : Int32)), .val (.int (3 : Int32)), .val (.int (0 : Int32)), .val (.int q0)] []) _ _ _
  refine Go.iinc X62 hx (hb hby d_ci3_32) rfl (l' := #[.val (.ref ac), .val (.int (1 : Int32)), .val (.ref ab), .val (.int (0 : Int32)), .val (.int (3 : Int32)), .val (.int (0 : Int32)), .val (.int q0)]) rfl ?_
  show Go _ _ _ _ T62 (mkF m 35 #[.val (.ref ac), .val (.int (1 : Int32)), .val (.ref ab), .val (.int (0 : Int32)), .val (.int (3 : Int32)), .val (.int (0 : Int32)), .val (.int q0)] []) _ _ _
  refine Go.iinc X62 hx (hb hby d_ci3_35) rfl (l' := #[.val (.ref ac), .val (.int (1 : Int32)), .val (.ref ab), .val (.int (1 : Int32)), .val (.int (3 : Int32)), .val (.int (0 : Int32)), .val (.int q0)]) rfl ?_
  show Go _ _ _ _ T62 (mkF m 38 #[.val (.ref ac), .val (.int (1 : Int32)), .val (.ref ab), .val (.int (1 : Int32)), .val (.int (3 : Int32)), .val (.int (0 : Int32)), .val (.int q0)] []) _ _ _
  refine Go.iinc X62 hx (hb hby d_ci3_38) rfl (l' := #[.val (.ref ac), .val (.int (1 : Int32)), .val (.ref ab), .val (.int (1 : Int32)), .val (.int (3 : Int32)), .val (.int (1 : Int32)), .val (.int q0)]) rfl ?_
  show Go _ _ _ _ T62 (mkF m 41 #[.val (.ref ac), .val (.int (1 : Int32)), .val (.ref ab), .val (.int (1 : Int32)), .val (.int (3 : Int32)), .val (.int (1 : Int32)), .val (.int q0)] []) _ _ _
  refine Go.goto X62 hx (hb hby d_ci3_41) (pc' := 3) (by decide) (by decide) ?_
  show Go _ _ _ _ T62 (mkF m 3 #[.val (.ref ac), .val (.int (1 : Int32)), .val (.ref ab), .val (.int (1 : Int32)), .val (.int (3 : Int32)), .val (.int (1 : Int32)), .val (.int q0)] []) _ _ _
  refine Go.iload X62 hx (hb hby d_ci3_3) rfl ?_
  show Go _ _ _ _ T62 (mkF m 5 #[.val (.ref ac), .val (.int (1 : Int32)), .val (.ref ab), .val (.int (1 : Int32)), .val (.int (3 : Int32)), .val (.int (1 : Int32)), .val (.int q0)] [(.int (1 : Int32))]) _ _ _
  refine Go.iload X62 hx (hb hby d_ci3_5) rfl ?_
  show Go _ _ _ _ T62 (mkF m 7 #[.val (.ref ac), .val (.int (1 : Int32)), .val (.ref ab), .val (.int (1 : Int32)), .val (.int (3 : Int32)), .val (.int (1 : Int32)), .val (.int q0)] [(.int (3 : Int32)), (.int (1 : Int32))]) _ _ _
  refine Go.icmpNo X62 hx (hb hby d_ci3_7) (XT.ii_ge_f (by decide)) ?_
  show Go _ _ _ _ T62 (mkF m 10 #[.val (.ref ac), .val (.int (1 : Int32)), .val (.ref ab), .val (.int (1 : Int32)), .val (.int (3 : Int32)), .val (.int (1 : Int32)), .val (.int q0)] []) _ _ _
  refine Go.aloadN X62 hx (hb hby d_ci3_10) rfl rfl ?_
  show Go _ _ _ _ T62 (mkF m 11 #[.val (.ref ac), .val (.int (1 : Int32)), .val (.ref ab), .val (.int (1 : Int32)), .val (.int (3 : Int32)), .val (.int (1 : Int32)), .val (.int q0)] [(.ref ac)]) _ _ _
  refine Go.iloadN X62 hx (hb hby d_ci3_11) rfl ?_
  show Go _ _ _ _ T62 (mkF m 12 #[.val (.ref ac), .val (.int (1 : Int32)), .val (.ref ab), .val (.int (1 : Int32)), .val (.int (3 : Int32)), .val (.int (1 : Int32)), .val (.int q0)] [(.int (1 : Int32)), (.ref ac)]) _ _ _
  refine Go.caload X62 hx hZ e62 (Af.other W62 f0 f2) (by decide) (by decide) (hb hby d_ci3_12) ?_
  show Go _ _ _ _ T62 (mkF m 13 #[.val (.ref ac), .val (.int (1 : Int32)), .val (.ref ab), .val (.int (1 : Int32)), .val (.int (3 : Int32)), .val (.int (1 : Int32)), .val (.int q0)] [(.int q1)]) _ _ _
  refine Go.istore X62 hx (hb hby d_ci3_13) (l' := #[.val (.ref ac), .val (.int (1 : Int32)), .val (.ref ab), .val (.int (1 : Int32)), .val (.int (3 : Int32)), .val (.int (1 : Int32)), .val (.int q1)]) rfl ?_
  show Go _ _ _ _ T62 (mkF m 15 #[.val (.ref ac), .val (.int (1 : Int32)), .val (.ref ab), .val (.int (1 : Int32)), .val (.int (3 : Int32)), .val (.int (1 : Int32)), .val (.int q1)] []) _ _ _
  refine Go.iload X62 hx (hb hby d_ci3_15) rfl ?_
  show Go _ _ _ _ T62 (mkF m 17 #[.val (.ref ac), .val (.int (1 : Int32)), .val (.ref ab), .val (.int (1 : Int32)), .val (.int (3 : Int32)), .val (.int (1 : Int32)), .val (.int q1)] [(.int q1)]) _ _ _
  refine Go.sipush X62 hx (hb hby d_ci3_17) ?_
  show Go _ _ _ _ T62 (mkF m 20 #[.val (.ref ac), .val (.int (1 : Int32)), .val (.ref ab), .val (.int (1 : Int32)), .val (.int (3 : Int32)), .val (.int (1 : Int32)), .val (.int q1)] [(.int (255 : Int32)), (.int q1)]) _ _ _
  refine Go.icmpYes X62 hx (hb hby d_ci3_20) (XT.ii_le_t (n255 f5.2)) (pc' := 26) (by decide) (by decide) ?_
  show Go _ _ _ _ T62 (mkF m 26 #[.val (.ref ac), .val (.int (1 : Int32)), .val (.ref ab), .val (.int (1 : Int32)), .val (.int (3 : Int32)), .val (.int (1 : Int32)), .val (.int q1)] []) _ _ _
  refine Go.aloadN X62 hx (hb hby d_ci3_26) rfl rfl ?_
  show Go _ _ _ _ T62 (mkF m 27 #[.val (.ref ac), .val (.int (1 : Int32)), .val (.ref ab), .val (.int (1 : Int32)), .val (.int (3 : Int32)), .val (.int (1 : Int32)), .val (.int q1)] [(.ref ab)]) _ _ _
  refine Go.iloadN X62 hx (hb hby d_ci3_27) rfl ?_
  show Go _ _ _ _ T62 (mkF m 28 #[.val (.ref ac), .val (.int (1 : Int32)), .val (.ref ab), .val (.int (1 : Int32)), .val (.int (3 : Int32)), .val (.int (1 : Int32)), .val (.int q1)] [(.int (1 : Int32)), (.ref ab)]) _ _ _
  refine Go.iload X62 hx (hb hby d_ci3_28) rfl ?_
  show Go _ _ _ _ T62 (mkF m 30 #[.val (.ref ac), .val (.int (1 : Int32)), .val (.ref ab), .val (.int (1 : Int32)), .val (.int (3 : Int32)), .val (.int (1 : Int32)), .val (.int q1)] [(.int q1), (.int (1 : Int32)), (.ref ab)]) _ _ _
  refine Go.i2b X62 hx (hb hby d_ci3_30) ?_
  show Go _ _ _ _ T62 (mkF m 31 #[.val (.ref ac), .val (.int (1 : Int32)), .val (.ref ab), .val (.int (1 : Int32)), .val (.int (3 : Int32)), .val (.int (1 : Int32)), .val (.int q1)] [(.int ((q1).toInt8.toInt32)), (.int (1 : Int32)), (.ref ab)]) _ _ _
  refine Go.bastoreB X62 hx hZ e62 A62 (by decide) (by decide) (hb hby d_ci3_31) ?_
  intro T63 h63 X63 e63 W63 A63
  have N63 := Fr.snoc X63 N62 f3
  have Z63 : n0 ≤ h63.size := by rw [Wr.size W63]; exact Z62
  have B63 : h0.size ≤ h63.size := by rw [Wr.size W63]; exact B62
  show Go _ _ _ _ T63 (mkF m 32 #[.val (.ref ac), .val (.int (1 : Int32)), .val (.ref ab), .val (.int (1 : Int32)), .val (.int (3 : Int32)), .val (.int (1 : Int32)), .val (.int q1)] []) _ _ _
  refine Go.iinc X63 hx (hb hby d_ci3_32) rfl (l' := #[.val (.ref ac), .val (.int (2 : Int32)), .val (.ref ab), .val (.int (1 : Int32)), .val (.int (3 : Int32)), .val (.int (1 : Int32)), .val (.int q1)]) rfl ?_
  show Go _ _ _ _ T63 (mkF m 35 #[.val (.ref ac), .val (.int (2 : Int32)), .val (.ref ab), .val (.int (1 : Int32)), .val (.int (3 : Int32)), .val (.int (1 : Int32)), .val (.int q1)] []) _ _ _
  refine Go.iinc X63 hx (hb hby d_ci3_35) rfl (l' := #[.val (.ref ac), .val (.int (2 : Int32)), .val (.ref ab), .val (.int (2 : Int32)), .val (.int (3 : Int32)), .val (.int (1 : Int32)), .val (.int q1)]) rfl ?_
  show Go _ _ _ _ T63 (mkF m 38 #[.val (.ref ac), .val (.int (2 : Int32)), .val (.ref ab), .val (.int (2 : Int32)), .val (.int (3 : Int32)), .val (.int (1 : Int32)), .val (.int q1)] []) _ _ _
  refine Go.iinc X63 hx (hb hby d_ci3_38) rfl (l' := #[.val (.ref ac), .val (.int (2 : Int32)), .val (.ref ab), .val (.int (2 : Int32)), .val (.int (3 : Int32)), .val (.int (2 : Int32)), .val (.int q1)]) rfl ?_
  show Go _ _ _ _ T63 (mkF m 41 #[.val (.ref ac), .val (.int (2 : Int32)), .val (.ref ab), .val (.int (2 : Int32)), .val (.int (3 : Int32)), .val (.int (2 : Int32)), .val (.int q1)] []) _ _ _
  refine Go.goto X63 hx (hb hby d_ci3_41) (pc' := 3) (by decide) (by decide) ?_
  show Go _ _ _ _ T63 (mkF m 3 #[.val (.ref ac), .val (.int (2 : Int32)), .val (.ref ab), .val (.int (2 : Int32)), .val (.int (3 : Int32)), .val (.int (2 : Int32)), .val (.int q1)] []) _ _ _
  refine Go.iload X63 hx (hb hby d_ci3_3) rfl ?_
  show Go _ _ _ _ T63 (mkF m 5 #[.val (.ref ac), .val (.int (2 : Int32)), .val (.ref ab), .val (.int (2 : Int32)), .val (.int (3 : Int32)), .val (.int (2 : Int32)), .val (.int q1)] [(.int (2 : Int32))]) _ _ _
  refine Go.iload X63 hx (hb hby d_ci3_5) rfl ?_
  show Go _ _ _ _ T63 (mkF m 7 #[.val (.ref ac), .val (.int (2 : Int32)), .val (.ref ab), .val (.int (2 : Int32)), .val (.int (3 : Int32)), .val (.int (2 : Int32)), .val (.int q1)] [(.int (3 : Int32)), (.int (2 : Int32))]) _ _ _
  refine Go.icmpNo X63 hx (hb hby d_ci3_7) (XT.ii_ge_f (by decide)) ?_
  show Go _ _ _ _ T63 (mkF m 10 #[.val (.ref ac), .val (.int (2 : Int32)), .val (.ref ab), .val (.int (2 : Int32)), .val (.int (3 : Int32)), .val (.int (2 : Int32)), .val (.int q1)] []) _ _ _
  refine Go.aloadN X63 hx (hb hby d_ci3_10) rfl rfl ?_
  show Go _ _ _ _ T63 (mkF m 11 #[.val (.ref ac), .val (.int (2 : Int32)), .val (.ref ab), .val (.int (2 : Int32)), .val (.int (3 : Int32)), .val (.int (2 : Int32)), .val (.int q1)] [(.ref ac)]) _ _ _
  refine Go.iloadN X63 hx (hb hby d_ci3_11) rfl ?_
  show Go _ _ _ _ T63 (mkF m 12 #[.val (.ref ac), .val (.int (2 : Int32)), .val (.ref ab), .val (.int (2 : Int32)), .val (.int (3 : Int32)), .val (.int (2 : Int32)), .val (.int q1)] [(.int (2 : Int32)), (.ref ac)]) _ _ _
  refine Go.caload X63 hx hZ e63 (Af.other W63 (Af.other W62 f0 f2) f2) (by decide) (by decide) (hb hby d_ci3_12) ?_
  show Go _ _ _ _ T63 (mkF m 13 #[.val (.ref ac), .val (.int (2 : Int32)), .val (.ref ab), .val (.int (2 : Int32)), .val (.int (3 : Int32)), .val (.int (2 : Int32)), .val (.int q1)] [(.int q2)]) _ _ _
  refine Go.istore X63 hx (hb hby d_ci3_13) (l' := #[.val (.ref ac), .val (.int (2 : Int32)), .val (.ref ab), .val (.int (2 : Int32)), .val (.int (3 : Int32)), .val (.int (2 : Int32)), .val (.int q2)]) rfl ?_
  show Go _ _ _ _ T63 (mkF m 15 #[.val (.ref ac), .val (.int (2 : Int32)), .val (.ref ab), .val (.int (2 : Int32)), .val (.int (3 : Int32)), .val (.int (2 : Int32)), .val (.int q2)] []) _ _ _
  refine Go.iload X63 hx (hb hby d_ci3_15) rfl ?_
  show Go _ _ _ _ T63 (mkF m 17 #[.val (.ref ac), .val (.int (2 : Int32)), .val (.ref ab), .val (.int (2 : Int32)), .val (.int (3 : Int32)), .val (.int (2 : Int32)), .val (.int q2)] [(.int q2)]) _ _ _
  refine Go.sipush X63 hx (hb hby d_ci3_17) ?_
  show Go _ _ _ _ T63 (mkF m 20 #[.val (.ref ac), .val (.int (2 : Int32)), .val (.ref ab), .val (.int (2 : Int32)), .val (.int (3 : Int32)), .val (.int (2 : Int32)), .val (.int q2)] [(.int (255 : Int32)), (.int q2)]) _ _ _
  refine Go.icmpYes X63 hx (hb hby d_ci3_20) (XT.ii_le_t (n255 f6.2)) (pc' := 26) (by decide) (by decide) ?_
  show Go _ _ _ _ T63 (mkF m 26 #[.val (.ref ac), .val (.int (2 : Int32)), .val (.ref ab), .val (.int (2 : Int32)), .val (.int (3 : Int32)), .val (.int (2 : Int32)), .val (.int q2)] []) _ _ _
  refine Go.aloadN X63 hx (hb hby d_ci3_26) rfl rfl ?_
  show Go _ _ _ _ T63 (mkF m 27 #[.val (.ref ac), .val (.int (2 : Int32)), .val (.ref ab), .val (.int (2 : Int32)), .val (.int (3 : Int32)), .val (.int (2 : Int32)), .val (.int q2)] [(.ref ab)]) _ _ _
  refine Go.iloadN X63 hx (hb hby d_ci3_27) rfl ?_
  show Go _ _ _ _ T63 (mkF m 28 #[.val (.ref ac), .val (.int (2 : Int32)), .val (.ref ab), .val (.int (2 : Int32)), .val (.int (3 : Int32)), .val (.int (2 : Int32)), .val (.int q2)] [(.int (2 : Int32)), (.ref ab)]) _ _ _
  refine Go.iload X63 hx (hb hby d_ci3_28) rfl ?_
  show Go _ _ _ _ T63 (mkF m 30 #[.val (.ref ac), .val (.int (2 : Int32)), .val (.ref ab), .val (.int (2 : Int32)), .val (.int (3 : Int32)), .val (.int (2 : Int32)), .val (.int q2)] [(.int q2), (.int (2 : Int32)), (.ref ab)]) _ _ _
  refine Go.i2b X63 hx (hb hby d_ci3_30) ?_
  show Go _ _ _ _ T63 (mkF m 31 #[.val (.ref ac), .val (.int (2 : Int32)), .val (.ref ab), .val (.int (2 : Int32)), .val (.int (3 : Int32)), .val (.int (2 : Int32)), .val (.int q2)] [(.int ((q2).toInt8.toInt32)), (.int (2 : Int32)), (.ref ab)]) _ _ _
  refine Go.bastoreB X63 hx hZ e63 A63 (by decide) (by decide) (hb hby d_ci3_31) ?_
  intro T64 h64 X64 e64 W64 A64
  have N64 := Fr.snoc X64 N63 f3
  have Z64 : n0 ≤ h64.size := by rw [Wr.size W64]; exact Z63
  have B64 : h0.size ≤ h64.size := by rw [Wr.size W64]; exact B63
  show Go _ _ _ _ T64 (mkF m 32 #[.val (.ref ac), .val (.int (2 : Int32)), .val (.ref ab), .val (.int (2 : Int32)), .val (.int (3 : Int32)), .val (.int (2 : Int32)), .val (.int q2)] []) _ _ _
  refine Go.iinc X64 hx (hb hby d_ci3_32) rfl (l' := #[.val (.ref ac), .val (.int (3 : Int32)), .val (.ref ab), .val (.int (2 : Int32)), .val (.int (3 : Int32)), .val (.int (2 : Int32)), .val (.int q2)]) rfl ?_
  show Go _ _ _ _ T64 (mkF m 35 #[.val (.ref ac), .val (.int (3 : Int32)), .val (.ref ab), .val (.int (2 : Int32)), .val (.int (3 : Int32)), .val (.int (2 : Int32)), .val (.int q2)] []) _ _ _
  refine Go.iinc X64 hx (hb hby d_ci3_35) rfl (l' := #[.val (.ref ac), .val (.int (3 : Int32)), .val (.ref ab), .val (.int (3 : Int32)), .val (.int (3 : Int32)), .val (.int (2 : Int32)), .val (.int q2)]) rfl ?_
  show Go _ _ _ _ T64 (mkF m 38 #[.val (.ref ac), .val (.int (3 : Int32)), .val (.ref ab), .val (.int (3 : Int32)), .val (.int (3 : Int32)), .val (.int (2 : Int32)), .val (.int q2)] []) _ _ _
  refine Go.iinc X64 hx (hb hby d_ci3_38) rfl (l' := #[.val (.ref ac), .val (.int (3 : Int32)), .val (.ref ab), .val (.int (3 : Int32)), .val (.int (3 : Int32)), .val (.int (3 : Int32)), .val (.int q2)]) rfl ?_
  show Go _ _ _ _ T64 (mkF m 41 #[.val (.ref ac), .val (.int (3 : Int32)), .val (.ref ab), .val (.int (3 : Int32)), .val (.int (3 : Int32)), .val (.int (3 : Int32)), .val (.int q2)] []) _ _ _
  refine Go.goto X64 hx (hb hby d_ci3_41) (pc' := 3) (by decide) (by decide) ?_
  show Go _ _ _ _ T64 (mkF m 3 #[.val (.ref ac), .val (.int (3 : Int32)), .val (.ref ab), .val (.int (3 : Int32)), .val (.int (3 : Int32)), .val (.int (3 : Int32)), .val (.int q2)] []) _ _ _
  refine Go.iload X64 hx (hb hby d_ci3_3) rfl ?_
  show Go _ _ _ _ T64 (mkF m 5 #[.val (.ref ac), .val (.int (3 : Int32)), .val (.ref ab), .val (.int (3 : Int32)), .val (.int (3 : Int32)), .val (.int (3 : Int32)), .val (.int q2)] [(.int (3 : Int32))]) _ _ _
  refine Go.iload X64 hx (hb hby d_ci3_5) rfl ?_
  show Go _ _ _ _ T64 (mkF m 7 #[.val (.ref ac), .val (.int (3 : Int32)), .val (.ref ab), .val (.int (3 : Int32)), .val (.int (3 : Int32)), .val (.int (3 : Int32)), .val (.int q2)] [(.int (3 : Int32)), (.int (3 : Int32))]) _ _ _
  refine Go.icmpYes X64 hx (hb hby d_ci3_7) (XT.ii_ge_t (by decide)) (pc' := 44) (by decide) (by decide) ?_
  show Go _ _ _ _ T64 (mkF m 44 #[.val (.ref ac), .val (.int (3 : Int32)), .val (.ref ab), .val (.int (3 : Int32)), .val (.int (3 : Int32)), .val (.int (3 : Int32)), .val (.int q2)] []) _ _ _
  have AC65 : Af Z h64 ab kb .byte 3 (fun i => Value.int ((updI (updI (updI (fun _ => (0 : Int32)) 0 (bz q0)) 1 (bz q1)) 2 (bz q2)) i)) := Af.congr A64 (fun i hi => by have hi' : i < 3 := hi; rcases lt_3 hi' with rfl | rfl | rfl <;> first | (simp [updI, updV, bz]; done) | rfl)
  refine Go.iload X64 hx (hb hby d_ci3_44) rfl ?_
  show Go _ _ _ _ T64 (mkF m 46 #[.val (.ref ac), .val (.int (3 : Int32)), .val (.ref ab), .val (.int (3 : Int32)), .val (.int (3 : Int32)), .val (.int (3 : Int32)), .val (.int q2)] [(.int (3 : Int32))]) _ _ _
  refine Go.retI X64 hx hlk hret (hb hby d_ci3_46) (by decide) (by decide) ?_
  rw [e64]
  exact ⟨rfl, N64, (Keep.wr (Keep.wr (Keep.wr (Keep.refl _ _) W62 (Or.inl (List.mem_of_getElem? (i := 0) rfl))) W63 (Or.inl (List.mem_of_getElem? (i := 0) rfl))) W64 (Or.inl (List.mem_of_getElem? (i := 0) rfl))), AC65⟩
def Q_co3 (Z : State) (ac : Addr) (kq : ClassId) (q0 : Int32) (q1 : Int32) (q2 : Int32) (h0 : Heap) (n0 : Nat) (v : Option Value) (h : Heap) (L : List Loc) : Prop := ∃ (r : Addr) (kr : ClassId), v = some (.ref r) ∧ Fr n0 L ∧ Keep h0 h [] ∧ n0 ≤ r ∧ h0.size ≤ r ∧ Af Z h r kr .byte 3 (fun i => Value.int ((updI (updI (updI (fun _ => (0 : Int32)) 0 (bz q0)) 1 (bz q1)) 2 (bz q2)) i))
theorem ef_co3 (m : MethodId) (x0 : Addr) (x1 : Int32) (x2 : Int32) : entryFrame m #[(.ref x0), (.int x1), (.int x2)] 6 = mkF m 0 #[.val (.ref x0), .val (.int x1), .val (.int x2), .unset, .unset, .unset] [] := by first | (simp [entryFrame, mkF, argsToLocals, Value.category]; done) | rfl
set_option maxRecDepth 65536 in
set_option maxHeartbeats 40000000 in
theorem rm_co3 (l : Launch) (Z : State) (a0 : Array Value) (hw : ∀ d ∈ tables_1, d.before a0 Z = true) (ac : Addr) (kq : ClassId) (q0 : Int32) (q1 : Int32) (q2 : Int32) (h0 : Heap) (n0 : Nat) (Z0 : n0 ≤ h0.size) (f0 : Af Z h0 ac kq .char 3 (fun i => Value.int ((updI (updI (updI (fun _ => (0 : Int32)) 0 q0) 1 q1) 2 q2) i))) (f1 : 0 ≤ q0.toInt ∧ q0.toInt ≤ 255) (f2 : 0 ≤ q1.toInt ∧ q1.toInt ≤ 255) (f3 : 0 ≤ q2.toInt ∧ q2.toInt ≤ 255) :
    Met l Z (⟨"java/lang/StringUTF16", "compress", "([CII)[B"⟩ : MethodName) jdk_52_method_16_code 6 (Option.some (Jvm.ClassFile.FieldType.array Jvm.ClassFile.FieldType.byte)) [] ({ frames := 1, cells := 1, slots := 3, locals := 18 } : Room) #[(.ref ac), (.int (0 : Int32)), (.int (3 : Int32))] h0 (Q_co3 Z ac kq q0 q1 q2 h0 n0) := by
  refine Met.of (plainFor_of_name pn_co3) ?_
  intro p e s m below meth c s₁ X0 hx hby hml hZ hown hnm e0 hret hlk
  refine Go.cast (ef_co3 m ac ((0 : Int32)) ((3 : Int32))) ?_
  show Go _ _ _ _ s₁ (mkF m 0 #[.val (.ref ac), .val (.int (0 : Int32)), .val (.int (3 : Int32)), .unset, .unset, .unset] []) _ _ _
  have N0 := Fr.nil n0
  refine Go.iloadN X0 hx (hb hby d_co3_0) rfl ?_
  show Go _ _ _ _ s₁ (mkF m 1 #[.val (.ref ac), .val (.int (0 : Int32)), .val (.int (3 : Int32)), .unset, .unset, .unset] [(.int (3 : Int32))]) _ _ _
  refine Go.newarray (aty := .byte) (cap := 3) X0 hx hZ (w23 hw) e0 (hb hby d_co3_1) (by decide) (by decide) (by decide) (by decide) (by decide) ?_
  intro T66 h66 a66 k66 b66 X66 e66 E66 A66
  have g_a66 : n0 ≤ a66 := by rw [b66]; exact Z0
  have y_a66 : h0.size ≤ a66 := by rw [b66]; exact (Nat.le_refl _)
  have ne_ac_a66 : ac ≠ a66 := by rw [b66]; exact Nat.ne_of_lt f0.lt
  have Z66 : n0 ≤ h66.size := Nat.le_trans Z0 E66.1
  have B66 : h0.size ≤ h66.size := Nat.le_trans (Nat.le_refl _) E66.1
  show Go _ _ _ _ T66 (mkF m 3 #[.val (.ref ac), .val (.int (0 : Int32)), .val (.int (3 : Int32)), .unset, .unset, .unset] [(.ref a66)]) _ _ _
  refine Go.astoreN X66 hx (hb hby d_co3_3) rfl (l' := #[.val (.ref ac), .val (.int (0 : Int32)), .val (.int (3 : Int32)), .val (.ref a66), .unset, .unset]) rfl ?_
  show Go _ _ _ _ T66 (mkF m 4 #[.val (.ref ac), .val (.int (0 : Int32)), .val (.int (3 : Int32)), .val (.ref a66), .unset, .unset] []) _ _ _
  refine Go.aloadN X66 hx (hb hby d_co3_4) rfl rfl ?_
  show Go _ _ _ _ T66 (mkF m 5 #[.val (.ref ac), .val (.int (0 : Int32)), .val (.int (3 : Int32)), .val (.ref a66), .unset, .unset] [(.ref ac)]) _ _ _
  refine Go.iloadN X66 hx (hb hby d_co3_5) rfl ?_
  show Go _ _ _ _ T66 (mkF m 6 #[.val (.ref ac), .val (.int (0 : Int32)), .val (.int (3 : Int32)), .val (.ref a66), .unset, .unset] [(.int (0 : Int32)), (.ref ac)]) _ _ _
  refine Go.aloadN X66 hx (hb hby d_co3_6) rfl rfl ?_
  show Go _ _ _ _ T66 (mkF m 7 #[.val (.ref ac), .val (.int (0 : Int32)), .val (.int (3 : Int32)), .val (.ref a66), .unset, .unset] [(.ref a66), (.int (0 : Int32)), (.ref ac)]) _ _ _
  refine Go.iconst X66 hx (hb hby d_co3_7) ?_
  show Go _ _ _ _ T66 (mkF m 8 #[.val (.ref ac), .val (.int (0 : Int32)), .val (.int (3 : Int32)), .val (.ref a66), .unset, .unset] [(.int (0 : Int32)), (.ref a66), (.int (0 : Int32)), (.ref ac)]) _ _ _
  refine Go.iloadN X66 hx (hb hby d_co3_8) rfl ?_
  show Go _ _ _ _ T66 (mkF m 9 #[.val (.ref ac), .val (.int (0 : Int32)), .val (.int (3 : Int32)), .val (.ref a66), .unset, .unset] [(.int (3 : Int32)), (.int (0 : Int32)), (.ref a66), (.int (0 : Int32)), (.ref ac)]) _ _ _
  refine Go.callS (W := 0) (argsL := [(.ref ac), (.int (0 : Int32)), (.ref a66), (.int (0 : Int32)), (.int (3 : Int32))]) (rest := []) X66 hx hZ hown (w50 hw) (w51 hw) (w48 hw) (w52 hw) (by decide) (rm_ci3 l Z a0 hw ac a66 kq k66 ((fun _ => defaultValue (newarray.typeOf .byte))) q0 q1 q2 h66 n0 Z66 (Af.ext E66 f0) A66 ne_ac_a66 g_a66 f1 f2 f3) e66 (lenOf pd_0 rfl) (hb hby d_co3_9) (by rw [hml]; rfl) rfl (Nat.le_of_eq rfl) (by decide) (by decide) (by decide) (by decide) ?_
  intro v67 T67 L67 X67 q67
  obtain ⟨rfl, M67, K67, P67_0⟩ := q67
  have N67 := Fr.app N0 M67
  have Z67 : n0 ≤ T67.heap.size := Nat.le_trans Z66 K67.1
  have B67 : h0.size ≤ T67.heap.size := Nat.le_trans B66 K67.1
  show Go _ _ _ _ T67 (mkF m 12 #[.val (.ref ac), .val (.int (0 : Int32)), .val (.int (3 : Int32)), .val (.ref a66), .unset, .unset] [(.int (3 : Int32))]) _ _ _
  refine Go.istore X67 hx (hb hby d_co3_12) (l' := #[.val (.ref ac), .val (.int (0 : Int32)), .val (.int (3 : Int32)), .val (.ref a66), .val (.int (3 : Int32)), .unset]) rfl ?_
  show Go _ _ _ _ T67 (mkF m 14 #[.val (.ref ac), .val (.int (0 : Int32)), .val (.int (3 : Int32)), .val (.ref a66), .val (.int (3 : Int32)), .unset] []) _ _ _
  refine Go.iload X67 hx (hb hby d_co3_14) rfl ?_
  show Go _ _ _ _ T67 (mkF m 16 #[.val (.ref ac), .val (.int (0 : Int32)), .val (.int (3 : Int32)), .val (.ref a66), .val (.int (3 : Int32)), .unset] [(.int (3 : Int32))]) _ _ _
  refine Go.iloadN X67 hx (hb hby d_co3_16) rfl ?_
  show Go _ _ _ _ T67 (mkF m 17 #[.val (.ref ac), .val (.int (0 : Int32)), .val (.int (3 : Int32)), .val (.ref a66), .val (.int (3 : Int32)), .unset] [(.int (3 : Int32)), (.int (3 : Int32))]) _ _ _
  refine Go.icmpYes X67 hx (hb hby d_co3_17) (XT.ii_eq_t (by decide)) (pc' := 57) (by decide) (by decide) ?_
  show Go _ _ _ _ T67 (mkF m 57 #[.val (.ref ac), .val (.int (0 : Int32)), .val (.int (3 : Int32)), .val (.ref a66), .val (.int (3 : Int32)), .unset] []) _ _ _
  refine Go.aloadN X67 hx (hb hby d_co3_57) rfl rfl ?_
  show Go _ _ _ _ T67 (mkF m 58 #[.val (.ref ac), .val (.int (0 : Int32)), .val (.int (3 : Int32)), .val (.ref a66), .val (.int (3 : Int32)), .unset] [(.ref a66)]) _ _ _
  refine Go.retR X67 hx hlk hret rfl rfl (hb hby d_co3_58) (by decide) (by decide) ?_
  exact ⟨a66, k66, rfl, N67, (Keep.trans (Keep.ext (Keep.refl _ _) E66) K67 (allS (Or.inr y_a66) all0)), g_a66, y_a66, P67_0⟩
def Q_cf3 (Z : State) (ab : Addr) (kb : ClassId) (fb : Nat → Value) (h0 : Heap) (n0 : Nat) (v : Option Value) (h : Heap) (L : List Loc) : Prop := v = some (.int (0 : Int32)) ∧ Fr n0 L ∧ h = h0
theorem ef_cf3 (m : MethodId) (x0 : Addr) (x1 : Int32) : entryFrame m #[(.ref x0), (.int x1)] 2 = mkF m 0 #[.val (.ref x0), .val (.int x1)] [] := by first | (simp [entryFrame, mkF, argsToLocals, Value.category]; done) | rfl
set_option maxRecDepth 65536 in
set_option maxHeartbeats 40000000 in
theorem rm_cf3 (l : Launch) (Z : State) (a0 : Array Value) (hw : ∀ d ∈ tables_1, d.before a0 Z = true) (ab : Addr) (kb : ClassId) (fb : Nat → Value) (h0 : Heap) (n0 : Nat) (Z0 : n0 ≤ h0.size) (f0 : Af Z h0 ab kb .byte 3 (fb)) :
    Met l Z (⟨"java/lang/StringUTF16", "coderFromArrayLen", "([BI)B"⟩ : MethodName) jdk_52_method_15_code 2 (Option.some Jvm.ClassFile.FieldType.byte) [] ({ frames := 0, cells := 0, slots := 0, locals := 0 } : Room) #[(.ref ab), (.int (3 : Int32))] h0 (Q_cf3 Z ab kb fb h0 n0) := by
  refine Met.of (plainFor_of_name pn_cf3) ?_
  intro p e s m below meth c s₁ X0 hx hby hml hZ hown hnm e0 hret hlk
  refine Go.cast (ef_cf3 m ab ((3 : Int32))) ?_
  show Go _ _ _ _ s₁ (mkF m 0 #[.val (.ref ab), .val (.int (3 : Int32))] []) _ _ _
  have N0 := Fr.nil n0
  refine Go.iloadN X0 hx (hb hby d_cf3_0) rfl ?_
  show Go _ _ _ _ s₁ (mkF m 1 #[.val (.ref ab), .val (.int (3 : Int32))] [(.int (3 : Int32))]) _ _ _
  refine Go.aloadN X0 hx (hb hby d_cf3_1) rfl rfl ?_
  show Go _ _ _ _ s₁ (mkF m 2 #[.val (.ref ab), .val (.int (3 : Int32))] [(.ref ab), (.int (3 : Int32))]) _ _ _
  refine Go.alen X0 hx hZ e0 f0 (hb hby d_cf3_2) ?_
  show Go _ _ _ _ s₁ (mkF m 3 #[.val (.ref ab), .val (.int (3 : Int32))] [(.int (3 : Int32)), (.int (3 : Int32))]) _ _ _
  refine Go.isub X0 hx (hb hby d_cf3_3) ?_
  show Go _ _ _ _ s₁ (mkF m 4 #[.val (.ref ab), .val (.int (3 : Int32))] [(.int (0 : Int32))]) _ _ _
  refine Go.bipush X0 hx (hb hby d_cf3_4) ?_
  show Go _ _ _ _ s₁ (mkF m 6 #[.val (.ref ab), .val (.int (3 : Int32))] [(.int (31 : Int32)), (.int (0 : Int32))]) _ _ _
  refine Go.iushr X0 hx (hb hby d_cf3_6) ?_
  show Go _ _ _ _ s₁ (mkF m 7 #[.val (.ref ab), .val (.int (3 : Int32))] [(.int (0 : Int32))]) _ _ _
  refine Go.i2b X0 hx (hb hby d_cf3_7) ?_
  show Go _ _ _ _ s₁ (mkF m 8 #[.val (.ref ab), .val (.int (3 : Int32))] [(.int (0 : Int32))]) _ _ _
  refine Go.retV X0 hx hlk hret rfl (Or.inl ⟨rfl, Or.inr (Or.inr (Or.inl rfl)), _, rfl⟩) (hb hby d_cf3_8) (by decide) (by decide) ?_
  rw [e0]
  exact ⟨rfl, N0, rfl⟩
def Q_is3 (Z : State) (a : Addr) (ac : Addr) (kq : ClassId) (cs : Int32) (q0 : Int32) (q1 : Int32) (q2 : Int32) (h0 : Heap) (n0 : Nat) (v : Option Value) (h : Heap) (L : List Loc) : Prop := ∃ (bx : Addr) (kx : ClassId), v = none ∧ Fr n0 L ∧ Keep h0 h [a] ∧ Exa Z h a "java/lang/String" ∧ Fld Z h a "java/lang/String" "value" "[B" (.ref bx) ∧ Fld Z h a "java/lang/String" "coder" "B" (.int (0 : Int32)) ∧ Af Z h bx kx .byte 3 (fun i => Value.int ((updI (updI (updI (fun _ => (0 : Int32)) 0 (bz q0)) 1 (bz q1)) 2 (bz q2)) i))
theorem ef_is3 (m : MethodId) (x0 : Addr) (x1 : Addr) (x2 : Int32) (x3 : Int32) : entryFrame m #[(.ref x0), (.ref x1), (.int x2), (.int x3), .null] 6 = mkF m 0 #[.val (.ref x0), .val (.ref x1), .val (.int x2), .val (.int x3), .val .null, .unset] [] := by first | (simp [entryFrame, mkF, argsToLocals, Value.category]; done) | rfl
set_option maxRecDepth 65536 in
set_option maxHeartbeats 40000000 in
theorem rm_is3 (l : Launch) (Z : State) (a0 : Array Value) (hw : ∀ d ∈ tables_1, d.before a0 Z = true) (a : Addr) (ac : Addr) (kq : ClassId) (cs : Int32) (q0 : Int32) (q1 : Int32) (q2 : Int32) (h0 : Heap) (n0 : Nat) (Z0 : n0 ≤ h0.size) (f0 : Exa Z h0 a "java/lang/String") (f1 : n0 ≤ a) (f2 : Fld Z h0 a "java/lang/String" "value" "[B" .null) (f3 : Fld Z h0 a "java/lang/String" "coder" "B" (.int (0 : Int32))) (f4 : a ≠ ac) (f5 : Af Z h0 ac kq .char 3 (fun i => Value.int ((updI (updI (updI (fun _ => (0 : Int32)) 0 q0) 1 q1) 2 q2) i))) (f6 : Sta Z h0 "java/lang/String" "COMPACT_STRINGS" "Z" (.int cs)) (f7 : ¬ cs = (0 : Int32)) (f8 : 0 ≤ q0.toInt ∧ q0.toInt ≤ 255) (f9 : 0 ≤ q1.toInt ∧ q1.toInt ≤ 255) (f10 : 0 ≤ q2.toInt ∧ q2.toInt ≤ 255) :
    Met l Z (⟨"java/lang/String", "<init>", "([CIILjava/lang/Void;)V"⟩ : MethodName) jdk_42_method_149_code 6 none [] ({ frames := 2, cells := 1, slots := 3, locals := 35 } : Room) #[(.ref a), (.ref ac), (.int (0 : Int32)), (.int (3 : Int32)), .null] h0 (Q_is3 Z a ac kq cs q0 q1 q2 h0 n0) := by
  refine Met.of (plainFor_of_name pn_is3) ?_
  intro p e s m below meth c s₁ X0 hx hby hml hZ hown hnm e0 hret hlk
  refine Go.cast (ef_is3 m a ac ((0 : Int32)) ((3 : Int32))) ?_
  show Go _ _ _ _ s₁ (mkF m 0 #[.val (.ref a), .val (.ref ac), .val (.int (0 : Int32)), .val (.int (3 : Int32)), .val .null, .unset] []) _ _ _
  have N0 := Fr.nil n0
  refine Go.aloadN X0 hx (hb hby d_is3_0) rfl rfl ?_
  show Go _ _ _ _ s₁ (mkF m 1 #[.val (.ref a), .val (.ref ac), .val (.int (0 : Int32)), .val (.int (3 : Int32)), .val .null, .unset] [(.ref a)]) _ _ _
  refine Go.initO (W := 0) X0 hx hZ hown (w19 hw) (w20 hw) (w21 hw) e0 (hb hby d_is3_1) (by rw [hml]; rfl) (Nat.le_of_eq rfl) (by decide) (by decide) ?_
  intro T68 X68 e68
  show Go _ _ _ _ T68 (mkF m 4 #[.val (.ref a), .val (.ref ac), .val (.int (0 : Int32)), .val (.int (3 : Int32)), .val .null, .unset] []) _ _ _
  refine Go.iloadN X68 hx (hb hby d_is3_4) rfl ?_
  show Go _ _ _ _ T68 (mkF m 5 #[.val (.ref a), .val (.ref ac), .val (.int (0 : Int32)), .val (.int (3 : Int32)), .val .null, .unset] [(.int (3 : Int32))]) _ _ _
  refine Go.ifYes X68 hx (hb hby d_is3_5) (XT.i0_ne_t (by decide)) (pc' := 27) (by decide) (by decide) ?_
  show Go _ _ _ _ T68 (mkF m 27 #[.val (.ref a), .val (.ref ac), .val (.int (0 : Int32)), .val (.int (3 : Int32)), .val .null, .unset] []) _ _ _
  refine Go.getS X68 hx hZ hown (w41 hw) Via.refl e68 f6 (hb hby d_is3_27) ?_
  intro T69 X69 e69
  show Go _ _ _ _ T69 (mkF m 30 #[.val (.ref a), .val (.ref ac), .val (.int (0 : Int32)), .val (.int (3 : Int32)), .val .null, .unset] [(.int cs)]) _ _ _
  refine Go.ifNo X69 hx (hb hby d_is3_30) (XT.i0_eq_f f7) ?_
  show Go _ _ _ _ T69 (mkF m 33 #[.val (.ref a), .val (.ref ac), .val (.int (0 : Int32)), .val (.int (3 : Int32)), .val .null, .unset] []) _ _ _
  refine Go.aloadN X69 hx (hb hby d_is3_33) rfl rfl ?_
  show Go _ _ _ _ T69 (mkF m 34 #[.val (.ref a), .val (.ref ac), .val (.int (0 : Int32)), .val (.int (3 : Int32)), .val .null, .unset] [(.ref ac)]) _ _ _
  refine Go.iloadN X69 hx (hb hby d_is3_34) rfl ?_
  show Go _ _ _ _ T69 (mkF m 35 #[.val (.ref a), .val (.ref ac), .val (.int (0 : Int32)), .val (.int (3 : Int32)), .val .null, .unset] [(.int (0 : Int32)), (.ref ac)]) _ _ _
  refine Go.iloadN X69 hx (hb hby d_is3_35) rfl ?_
  show Go _ _ _ _ T69 (mkF m 36 #[.val (.ref a), .val (.ref ac), .val (.int (0 : Int32)), .val (.int (3 : Int32)), .val .null, .unset] [(.int (3 : Int32)), (.int (0 : Int32)), (.ref ac)]) _ _ _
  refine Go.callS (W := 0) (argsL := [(.ref ac), (.int (0 : Int32)), (.int (3 : Int32))]) (rest := []) X69 hx hZ hown (w46 hw) (w47 hw) (w48 hw) (w49 hw) (by decide) (rm_co3 l Z a0 hw ac kq q0 q1 q2 h0 n0 Z0 f5 f8 f9 f10) e69 (lenOf pd_1 rfl) (hb hby d_is3_36) (by rw [hml]; rfl) rfl (Nat.le_of_eq rfl) (by decide) (by decide) (by decide) (by decide) ?_
  intro v70 T70 L70 X70 q70
  obtain ⟨r70, kr70, rfl, M70, K70, P70_0, P70_1, P70_2⟩ := q70
  have N70 := Fr.app N0 M70
  have Z70 : n0 ≤ T70.heap.size := Nat.le_trans Z0 K70.1
  have B70 : h0.size ≤ T70.heap.size := Nat.le_trans (Nat.le_refl _) K70.1
  have ne_a_r70 : a ≠ r70 := Nat.ne_of_lt (Nat.lt_of_lt_of_le (f0).lt P70_1)
  have ne_ac_r70 : ac ≠ r70 := Nat.ne_of_lt (Nat.lt_of_lt_of_le (f5).lt P70_1)
  show Go _ _ _ _ T70 (mkF m 39 #[.val (.ref a), .val (.ref ac), .val (.int (0 : Int32)), .val (.int (3 : Int32)), .val .null, .unset] [(.ref r70)]) _ _ _
  refine Go.astore X70 hx (hb hby d_is3_39) rfl (l' := #[.val (.ref a), .val (.ref ac), .val (.int (0 : Int32)), .val (.int (3 : Int32)), .val .null, .val (.ref r70)]) rfl ?_
  show Go _ _ _ _ T70 (mkF m 41 #[.val (.ref a), .val (.ref ac), .val (.int (0 : Int32)), .val (.int (3 : Int32)), .val .null, .val (.ref r70)] []) _ _ _
  refine Go.aloadN X70 hx (hb hby d_is3_41) rfl rfl ?_
  show Go _ _ _ _ T70 (mkF m 42 #[.val (.ref a), .val (.ref ac), .val (.int (0 : Int32)), .val (.int (3 : Int32)), .val .null, .val (.ref r70)] [(.ref a)]) _ _ _
  refine Go.aload X70 hx (hb hby d_is3_42) rfl rfl ?_
  show Go _ _ _ _ T70 (mkF m 44 #[.val (.ref a), .val (.ref ac), .val (.int (0 : Int32)), .val (.int (3 : Int32)), .val .null, .val (.ref r70)] [(.ref r70), (.ref a)]) _ _ _
  refine Go.iloadN X70 hx (hb hby d_is3_44) rfl ?_
  show Go _ _ _ _ T70 (mkF m 45 #[.val (.ref a), .val (.ref ac), .val (.int (0 : Int32)), .val (.int (3 : Int32)), .val .null, .val (.ref r70)] [(.int (3 : Int32)), (.ref r70), (.ref a)]) _ _ _
  refine Go.callS (W := 1) (argsL := [(.ref r70), (.int (3 : Int32))]) (rest := [(.ref a)]) X70 hx hZ hown (w53 hw) (w54 hw) (w48 hw) (w55 hw) (by decide) (rm_cf3 l Z a0 hw r70 kr70 ((fun i => Value.int ((updI (updI (updI (fun _ => (0 : Int32)) 0 (bz q0)) 1 (bz q1)) 2 (bz q2)) i))) T70.heap n0 Z70 P70_2) rfl (lenOf pd_2 rfl) (hb hby d_is3_45) (by rw [hml]; rfl) rfl (Nat.le_of_eq rfl) (by decide) (by decide) (by decide) (by decide) ?_
  intro v71 T71 L71 X71 q71
  obtain ⟨rfl, M71, e71⟩ := q71
  have N71 := Fr.app N70 M71
  show Go _ _ _ _ T71 (mkF m 48 #[.val (.ref a), .val (.ref ac), .val (.int (0 : Int32)), .val (.int (3 : Int32)), .val .null, .val (.ref r70)] [(.int (0 : Int32)), (.ref a)]) _ _ _
  refine Go.putF X71 hx hZ hown (w29 hw) Via.refl e71 (Fld.keep f3 K70 nin0) (Exa.keep f0 K70) (Or.inr ⟨(w25 hw), rfl, hnm⟩) (w9 hw) (ty := .byte) (by decide) rfl rfl (hb hby d_is3_48) ?_
  intro T72 h72 X72 e72 W72
  have N72 := Fr.snoc X72 N71 f1
  have Z72 : n0 ≤ h72.size := by rw [Wr.size W72]; exact Z70
  have B72 : h0.size ≤ h72.size := by rw [Wr.size W72]; exact B70
  show Go _ _ _ _ T72 (mkF m 51 #[.val (.ref a), .val (.ref ac), .val (.int (0 : Int32)), .val (.int (3 : Int32)), .val .null, .val (.ref r70)] []) _ _ _
  refine Go.aloadN X72 hx (hb hby d_is3_51) rfl rfl ?_
  show Go _ _ _ _ T72 (mkF m 52 #[.val (.ref a), .val (.ref ac), .val (.int (0 : Int32)), .val (.int (3 : Int32)), .val .null, .val (.ref r70)] [(.ref a)]) _ _ _
  refine Go.aload X72 hx (hb hby d_is3_52) rfl rfl ?_
  show Go _ _ _ _ T72 (mkF m 54 #[.val (.ref a), .val (.ref ac), .val (.int (0 : Int32)), .val (.int (3 : Int32)), .val .null, .val (.ref r70)] [(.ref r70), (.ref a)]) _ _ _
  have F73 := (Fld.other W72 (Fld.keep f2 K70 nin0) (Or.inr (slot_ne (a0 := a0) (Or.inr (w24 hw)) (Or.inr (w25 hw)) (t := (.array .byte)) (t' := .byte) (by decide) (by decide) (by decide))))
  refine Go.putF X72 hx hZ hown (w28 hw) Via.refl e72 F73 (Exa.wr W72 (Exa.keep f0 K70)) (Or.inr ⟨(w24 hw), rfl, hnm⟩) (w9 hw) (ty := (.array .byte)) (by decide) rfl rfl (hb hby d_is3_54) ?_
  intro T74 h74 X74 e74 W74
  have N74 := Fr.snoc X74 N72 f1
  have Z74 : n0 ≤ h74.size := by rw [Wr.size W74]; exact Z72
  have B74 : h0.size ≤ h74.size := by rw [Wr.size W74]; exact B72
  show Go _ _ _ _ T74 (mkF m 57 #[.val (.ref a), .val (.ref ac), .val (.int (0 : Int32)), .val (.int (3 : Int32)), .val .null, .val (.ref r70)] []) _ _ _
  refine Go.ret0 X74 hx hlk hret (hb hby d_is3_57) (by decide) (by decide) ?_
  rw [e74]
  have F75 := (Exa.wr W74 (Exa.wr W72 (Exa.keep f0 K70)))
  have F76 := (Fld.other W74 (Fld.same W72 (Fld.keep f3 K70 nin0)) (Or.inr (slot_ne (a0 := a0) (Or.inr (w25 hw)) (Or.inr (w24 hw)) (t := .byte) (t' := (.array .byte)) (by decide) (by decide) (by decide))))
  have F77 := (Af.other W74 (Af.other W72 P70_2 (Ne.symm ne_a_r70)) (Ne.symm ne_a_r70))
  exact ⟨r70, kr70, rfl, N74, (Keep.wr (Keep.wr (Keep.trans (Keep.refl _ _) K70 all0) W72 (Or.inl (List.mem_of_getElem? (i := 0) rfl))) W74 (Or.inl (List.mem_of_getElem? (i := 0) rfl))), F75, (Fld.same W74 F73), F76, F77⟩
def Q_ia3 (Z : State) (a : Addr) (ac : Addr) (kq : ClassId) (cs : Int32) (q0 : Int32) (q1 : Int32) (q2 : Int32) (h0 : Heap) (n0 : Nat) (v : Option Value) (h : Heap) (L : List Loc) : Prop := ∃ (bx : Addr) (kx : ClassId), v = none ∧ Fr n0 L ∧ Keep h0 h [a] ∧ Exa Z h a "java/lang/String" ∧ Fld Z h a "java/lang/String" "value" "[B" (.ref bx) ∧ Fld Z h a "java/lang/String" "coder" "B" (.int (0 : Int32)) ∧ Af Z h bx kx .byte 3 (fun i => Value.int ((updI (updI (updI (fun _ => (0 : Int32)) 0 (bz q0)) 1 (bz q1)) 2 (bz q2)) i))
theorem ef_ia3 (m : MethodId) (x0 : Addr) (x1 : Addr) : entryFrame m #[(.ref x0), (.ref x1)] 2 = mkF m 0 #[.val (.ref x0), .val (.ref x1)] [] := by first | (simp [entryFrame, mkF, argsToLocals, Value.category]; done) | rfl
set_option maxRecDepth 65536 in
set_option maxHeartbeats 40000000 in
theorem rm_ia3 (l : Launch) (Z : State) (a0 : Array Value) (hw : ∀ d ∈ tables_1, d.before a0 Z = true) (a : Addr) (ac : Addr) (kq : ClassId) (cs : Int32) (q0 : Int32) (q1 : Int32) (q2 : Int32) (h0 : Heap) (n0 : Nat) (Z0 : n0 ≤ h0.size) (f0 : Exa Z h0 a "java/lang/String") (f1 : n0 ≤ a) (f2 : Fld Z h0 a "java/lang/String" "value" "[B" .null) (f3 : Fld Z h0 a "java/lang/String" "coder" "B" (.int (0 : Int32))) (f4 : a ≠ ac) (f5 : Af Z h0 ac kq .char 3 (fun i => Value.int ((updI (updI (updI (fun _ => (0 : Int32)) 0 q0) 1 q1) 2 q2) i))) (f6 : Sta Z h0 "java/lang/String" "COMPACT_STRINGS" "Z" (.int cs)) (f7 : ¬ cs = (0 : Int32)) (f8 : 0 ≤ q0.toInt ∧ q0.toInt ≤ 255) (f9 : 0 ≤ q1.toInt ∧ q1.toInt ≤ 255) (f10 : 0 ≤ q2.toInt ∧ q2.toInt ≤ 255) :
    Met l Z (⟨"java/lang/String", "<init>", "([C)V"⟩ : MethodName) jdk_42_method_3_code 2 none [] ({ frames := 3, cells := 1, slots := 3, locals := 52 } : Room) #[(.ref a), (.ref ac)] h0 (Q_ia3 Z a ac kq cs q0 q1 q2 h0 n0) := by
  refine Met.of (plainFor_of_name pn_ia3) ?_
  intro p e s m below meth c s₁ X0 hx hby hml hZ hown hnm e0 hret hlk
  refine Go.cast (ef_ia3 m a ac) ?_
  show Go _ _ _ _ s₁ (mkF m 0 #[.val (.ref a), .val (.ref ac)] []) _ _ _
  have N0 := Fr.nil n0
  refine Go.aloadN X0 hx (hb hby d_ia3_0) rfl rfl ?_
  show Go _ _ _ _ s₁ (mkF m 1 #[.val (.ref a), .val (.ref ac)] [(.ref a)]) _ _ _
  refine Go.aloadN X0 hx (hb hby d_ia3_1) rfl rfl ?_
  show Go _ _ _ _ s₁ (mkF m 2 #[.val (.ref a), .val (.ref ac)] [(.ref ac), (.ref a)]) _ _ _
  refine Go.iconst X0 hx (hb hby d_ia3_2) ?_
  show Go _ _ _ _ s₁ (mkF m 3 #[.val (.ref a), .val (.ref ac)] [(.int (0 : Int32)), (.ref ac), (.ref a)]) _ _ _
  refine Go.aloadN X0 hx (hb hby d_ia3_3) rfl rfl ?_
  show Go _ _ _ _ s₁ (mkF m 4 #[.val (.ref a), .val (.ref ac)] [(.ref ac), (.int (0 : Int32)), (.ref ac), (.ref a)]) _ _ _
  refine Go.alen X0 hx hZ e0 f5 (hb hby d_ia3_4) ?_
  show Go _ _ _ _ s₁ (mkF m 5 #[.val (.ref a), .val (.ref ac)] [(.int (3 : Int32)), (.int (0 : Int32)), (.ref ac), (.ref a)]) _ _ _
  refine Go.aconst_null X0 hx (hb hby d_ia3_5) ?_
  show Go _ _ _ _ s₁ (mkF m 6 #[.val (.ref a), .val (.ref ac)] [.null, (.int (3 : Int32)), (.int (0 : Int32)), (.ref ac), (.ref a)]) _ _ _
  refine Go.callI (W := 0) (a := a) (argsL := [(.ref ac), (.int (0 : Int32)), (.int (3 : Int32)), .null]) (rest := []) X0 hx hZ hown rfl (w15 hw) (w16 hw) (w10 hw) (w18 hw) (by decide) (rm_is3 l Z a0 hw a ac kq cs q0 q1 q2 h0 n0 Z0 f0 f1 f2 f3 f4 f5 f6 f7 f8 f9 f10) e0 (lenOf pd_3 rfl) (hb hby d_ia3_6) (by rw [hml]; rfl) rfl (Nat.le_of_eq rfl) (by decide) (by decide) (by decide) (by decide) ?_
  intro v78 T78 L78 X78 q78
  obtain ⟨bx78, kx78, rfl, M78, K78, P78_0, P78_1, P78_2, P78_3⟩ := q78
  have N78 := Fr.app N0 M78
  have Z78 : n0 ≤ T78.heap.size := Nat.le_trans Z0 K78.1
  have B78 : h0.size ≤ T78.heap.size := Nat.le_trans (Nat.le_refl _) K78.1
  show Go _ _ _ _ T78 (mkF m 9 #[.val (.ref a), .val (.ref ac)] []) _ _ _
  refine Go.ret0 X78 hx hlk hret (hb hby d_ia3_9) (by decide) (by decide) ?_
  exact ⟨bx78, kx78, rfl, N78, (Keep.trans (Keep.refl _ _) K78 (allS (Or.inl (List.mem_of_getElem? (i := 0) rfl)) all0)), P78_0, P78_1, P78_2, P78_3⟩
def Q_mk3 (Z : State) (c0 : Int32) (c1 : Int32) (c2 : Int32) (c3 : Int32) (cs : Int32) (h0 : Heap) (n0 : Nat) (v : Option Value) (h : Heap) (L : List Loc) : Prop := ∃ (xa : Addr) (bx : Addr) (kx : ClassId), v = some (.ref xa) ∧ Fr n0 L ∧ Keep h0 h [] ∧ n0 ≤ xa ∧ Exa Z h xa "java/lang/String" ∧ Fld Z h xa "java/lang/String" "value" "[B" (.ref bx) ∧ Fld Z h xa "java/lang/String" "coder" "B" (.int (0 : Int32)) ∧ Af Z h bx kx .byte 3 (fun i => Value.int ((updI (updI (updI (fun _ => (0 : Int32)) 0 (bz c0)) 1 (bz c1)) 2 (bz c2)) i))
theorem ef_mk3 (m : MethodId) (x0 : Int32) (x1 : Int32) (x2 : Int32) (x3 : Int32) (x4 : Int32) : entryFrame m #[(.int x0), (.int x1), (.int x2), (.int x3), (.int x4)] 5 = mkF m 0 #[.val (.int x0), .val (.int x1), .val (.int x2), .val (.int x3), .val (.int x4)] [] := by first | (simp [entryFrame, mkF, argsToLocals, Value.category]; done) | rfl
set_option maxRecDepth 65536 in
set_option maxHeartbeats 40000000 in
theorem rm_mk3 (l : Launch) (Z : State) (a0 : Array Value) (hw : ∀ d ∈ tables_1, d.before a0 Z = true) (c0 : Int32) (c1 : Int32) (c2 : Int32) (c3 : Int32) (cs : Int32) (h0 : Heap) (n0 : Nat) (Z0 : n0 ≤ h0.size) (f0 : Sta Z h0 "java/lang/String" "COMPACT_STRINGS" "Z" (.int cs)) (f1 : ¬ cs = (0 : Int32)) (f2 : 0 ≤ c0.toInt ∧ c0.toInt ≤ 255) (f3 : 0 ≤ c1.toInt ∧ c1.toInt ≤ 255) (f4 : 0 ≤ c2.toInt ∧ c2.toInt ≤ 255) (f5 : 0 ≤ c3.toInt ∧ c3.toInt ≤ 255) :
    Met l Z (⟨"com/example/trilatch/trilatch/http/TlsPolicyHandshakesWithPinLaw", "make", "(ICCCC)Ljava/lang/String;"⟩ : MethodName) method_4_code 5 (Option.some (Jvm.ClassFile.FieldType.object "java/lang/String")) [] ({ frames := 4, cells := 3, slots := 10, locals := 66 } : Room) #[(.int (3 : Int32)), (.int c0), (.int c1), (.int c2), (.int c3)] h0 (Q_mk3 Z c0 c1 c2 c3 cs h0 n0) := by
  refine Met.of (plainFor_of_name pn_mk3) ?_
  intro p e s m below meth c s₁ X0 hx hby hml hZ hown hnm e0 hret hlk
  refine Go.cast (ef_mk3 m ((3 : Int32)) c0 c1 c2 c3) ?_
  show Go _ _ _ _ s₁ (mkF m 0 #[.val (.int (3 : Int32)), .val (.int c0), .val (.int c1), .val (.int c2), .val (.int c3)] []) _ _ _
  have N0 := Fr.nil n0
  refine Go.iloadN X0 hx (hb hby d_mk3_0) rfl ?_
  show Go _ _ _ _ s₁ (mkF m 1 #[.val (.int (3 : Int32)), .val (.int c0), .val (.int c1), .val (.int c2), .val (.int c3)] [(.int (3 : Int32))]) _ _ _
  refine Go.ifYes X0 hx (hb hby d_mk3_1) (XT.i0_ne_t (by decide)) (pc' := 15) (by decide) (by decide) ?_
  show Go _ _ _ _ s₁ (mkF m 15 #[.val (.int (3 : Int32)), .val (.int c0), .val (.int c1), .val (.int c2), .val (.int c3)] []) _ _ _
  refine Go.iloadN X0 hx (hb hby d_mk3_15) rfl ?_
  show Go _ _ _ _ s₁ (mkF m 16 #[.val (.int (3 : Int32)), .val (.int c0), .val (.int c1), .val (.int c2), .val (.int c3)] [(.int (3 : Int32))]) _ _ _
  refine Go.iconst X0 hx (hb hby d_mk3_16) ?_
  show Go _ _ _ _ s₁ (mkF m 17 #[.val (.int (3 : Int32)), .val (.int c0), .val (.int c1), .val (.int c2), .val (.int c3)] [(.int (1 : Int32)), (.int (3 : Int32))]) _ _ _
  refine Go.icmpYes X0 hx (hb hby d_mk3_17) (XT.ii_ne_t (by decide)) (pc' := 35) (by decide) (by decide) ?_
  show Go _ _ _ _ s₁ (mkF m 35 #[.val (.int (3 : Int32)), .val (.int c0), .val (.int c1), .val (.int c2), .val (.int c3)] []) _ _ _
  refine Go.iloadN X0 hx (hb hby d_mk3_35) rfl ?_
  show Go _ _ _ _ s₁ (mkF m 36 #[.val (.int (3 : Int32)), .val (.int c0), .val (.int c1), .val (.int c2), .val (.int c3)] [(.int (3 : Int32))]) _ _ _
  refine Go.iconst X0 hx (hb hby d_mk3_36) ?_
  show Go _ _ _ _ s₁ (mkF m 37 #[.val (.int (3 : Int32)), .val (.int c0), .val (.int c1), .val (.int c2), .val (.int c3)] [(.int (2 : Int32)), (.int (3 : Int32))]) _ _ _
  refine Go.icmpYes X0 hx (hb hby d_mk3_37) (XT.ii_ne_t (by decide)) (pc' := 59) (by decide) (by decide) ?_
  show Go _ _ _ _ s₁ (mkF m 59 #[.val (.int (3 : Int32)), .val (.int c0), .val (.int c1), .val (.int c2), .val (.int c3)] []) _ _ _
  refine Go.iloadN X0 hx (hb hby d_mk3_59) rfl ?_
  show Go _ _ _ _ s₁ (mkF m 60 #[.val (.int (3 : Int32)), .val (.int c0), .val (.int c1), .val (.int c2), .val (.int c3)] [(.int (3 : Int32))]) _ _ _
  refine Go.iconst X0 hx (hb hby d_mk3_60) ?_
  show Go _ _ _ _ s₁ (mkF m 61 #[.val (.int (3 : Int32)), .val (.int c0), .val (.int c1), .val (.int c2), .val (.int c3)] [(.int (3 : Int32)), (.int (3 : Int32))]) _ _ _
  refine Go.icmpNo X0 hx (hb hby d_mk3_61) (XT.ii_ne_f (by decide)) ?_
  show Go _ _ _ _ s₁ (mkF m 64 #[.val (.int (3 : Int32)), .val (.int c0), .val (.int c1), .val (.int c2), .val (.int c3)] []) _ _ _
  refine Go.newO X0 hx hZ hown (w8 hw) (w9 hw) (w10 hw) e0 (hb hby d_mk3_64) (by decide) (by decide) ?_
  intro T79 h79 a79 b79 X79 e79 E79 A79 D79
  have g_a79 : n0 ≤ a79 := by rw [b79]; exact Z0
  have y_a79 : h0.size ≤ a79 := by rw [b79]; exact (Nat.le_refl _)
  have Z79 : n0 ≤ h79.size := Nat.le_trans Z0 E79.1
  have B79 : h0.size ≤ h79.size := Nat.le_trans (Nat.le_refl _) E79.1
  show Go _ _ _ _ T79 (mkF m 67 #[.val (.int (3 : Int32)), .val (.int c0), .val (.int c1), .val (.int c2), .val (.int c3)] [(.ref a79)]) _ _ _
  refine Go.dup X79 hx (hb hby d_mk3_67) rfl ?_
  show Go _ _ _ _ T79 (mkF m 68 #[.val (.int (3 : Int32)), .val (.int c0), .val (.int c1), .val (.int c2), .val (.int c3)] [(.ref a79), (.ref a79)]) _ _ _
  refine Go.iconst X79 hx (hb hby d_mk3_68) ?_
  show Go _ _ _ _ T79 (mkF m 69 #[.val (.int (3 : Int32)), .val (.int c0), .val (.int c1), .val (.int c2), .val (.int c3)] [(.int (3 : Int32)), (.ref a79), (.ref a79)]) _ _ _
  refine Go.newarray (aty := .char) (cap := 3) X79 hx hZ (w11 hw) e79 (hb hby d_mk3_69) (by decide) (by decide) (by decide) (by decide) (by decide) ?_
  intro T80 h80 a80 k80 b80 X80 e80 E80 A80
  have g_a80 : n0 ≤ a80 := by rw [b80]; exact Z79
  have y_a80 : h0.size ≤ a80 := by rw [b80]; exact B79
  have ne_a79_a80 : a79 ≠ a80 := by rw [b80]; exact Nat.ne_of_lt A79.lt
  have Z80 : n0 ≤ h80.size := Nat.le_trans Z79 E80.1
  have B80 : h0.size ≤ h80.size := Nat.le_trans B79 E80.1
  show Go _ _ _ _ T80 (mkF m 71 #[.val (.int (3 : Int32)), .val (.int c0), .val (.int c1), .val (.int c2), .val (.int c3)] [(.ref a80), (.ref a79), (.ref a79)]) _ _ _
  refine Go.dup X80 hx (hb hby d_mk3_71) rfl ?_
  show Go _ _ _ _ T80 (mkF m 72 #[.val (.int (3 : Int32)), .val (.int c0), .val (.int c1), .val (.int c2), .val (.int c3)] [(.ref a80), (.ref a80), (.ref a79), (.ref a79)]) _ _ _
  refine Go.iconst X80 hx (hb hby d_mk3_72) ?_
  show Go _ _ _ _ T80 (mkF m 73 #[.val (.int (3 : Int32)), .val (.int c0), .val (.int c1), .val (.int c2), .val (.int c3)] [(.int (0 : Int32)), (.ref a80), (.ref a80), (.ref a79), (.ref a79)]) _ _ _
  refine Go.iloadN X80 hx (hb hby d_mk3_73) rfl ?_
  show Go _ _ _ _ T80 (mkF m 74 #[.val (.int (3 : Int32)), .val (.int c0), .val (.int c1), .val (.int c2), .val (.int c3)] [(.int c0), (.int (0 : Int32)), (.ref a80), (.ref a80), (.ref a79), (.ref a79)]) _ _ _
  refine Go.castore X80 hx hZ e80 A80 (by decide) (by decide) (hb hby d_mk3_74) ?_
  intro T81 h81 X81 e81 W81 A81
  have N81 := Fr.snoc X81 N0 g_a80
  have Z81 : n0 ≤ h81.size := by rw [Wr.size W81]; exact Z80
  have B81 : h0.size ≤ h81.size := by rw [Wr.size W81]; exact B80
  show Go _ _ _ _ T81 (mkF m 75 #[.val (.int (3 : Int32)), .val (.int c0), .val (.int c1), .val (.int c2), .val (.int c3)] [(.ref a80), (.ref a79), (.ref a79)]) _ _ _
  refine Go.dup X81 hx (hb hby d_mk3_75) rfl ?_
  show Go _ _ _ _ T81 (mkF m 76 #[.val (.int (3 : Int32)), .val (.int c0), .val (.int c1), .val (.int c2), .val (.int c3)] [(.ref a80), (.ref a80), (.ref a79), (.ref a79)]) _ _ _
  refine Go.iconst X81 hx (hb hby d_mk3_76) ?_
  show Go _ _ _ _ T81 (mkF m 77 #[.val (.int (3 : Int32)), .val (.int c0), .val (.int c1), .val (.int c2), .val (.int c3)] [(.int (1 : Int32)), (.ref a80), (.ref a80), (.ref a79), (.ref a79)]) _ _ _
  refine Go.iloadN X81 hx (hb hby d_mk3_77) rfl ?_
  show Go _ _ _ _ T81 (mkF m 78 #[.val (.int (3 : Int32)), .val (.int c0), .val (.int c1), .val (.int c2), .val (.int c3)] [(.int c1), (.int (1 : Int32)), (.ref a80), (.ref a80), (.ref a79), (.ref a79)]) _ _ _
  refine Go.castore X81 hx hZ e81 A81 (by decide) (by decide) (hb hby d_mk3_78) ?_
  intro T82 h82 X82 e82 W82 A82
  have N82 := Fr.snoc X82 N81 g_a80
  have Z82 : n0 ≤ h82.size := by rw [Wr.size W82]; exact Z81
  have B82 : h0.size ≤ h82.size := by rw [Wr.size W82]; exact B81
  show Go _ _ _ _ T82 (mkF m 79 #[.val (.int (3 : Int32)), .val (.int c0), .val (.int c1), .val (.int c2), .val (.int c3)] [(.ref a80), (.ref a79), (.ref a79)]) _ _ _
  refine Go.dup X82 hx (hb hby d_mk3_79) rfl ?_
  show Go _ _ _ _ T82 (mkF m 80 #[.val (.int (3 : Int32)), .val (.int c0), .val (.int c1), .val (.int c2), .val (.int c3)] [(.ref a80), (.ref a80), (.ref a79), (.ref a79)]) _ _ _
  refine Go.iconst X82 hx (hb hby d_mk3_80) ?_
  show Go _ _ _ _ T82 (mkF m 81 #[.val (.int (3 : Int32)), .val (.int c0), .val (.int c1), .val (.int c2), .val (.int c3)] [(.int (2 : Int32)), (.ref a80), (.ref a80), (.ref a79), (.ref a79)]) _ _ _
  refine Go.iloadN X82 hx (hb hby d_mk3_81) rfl ?_
  show Go _ _ _ _ T82 (mkF m 82 #[.val (.int (3 : Int32)), .val (.int c0), .val (.int c1), .val (.int c2), .val (.int c3)] [(.int c2), (.int (2 : Int32)), (.ref a80), (.ref a80), (.ref a79), (.ref a79)]) _ _ _
  refine Go.castore X82 hx hZ e82 A82 (by decide) (by decide) (hb hby d_mk3_82) ?_
  intro T83 h83 X83 e83 W83 A83
  have N83 := Fr.snoc X83 N82 g_a80
  have Z83 : n0 ≤ h83.size := by rw [Wr.size W83]; exact Z82
  have B83 : h0.size ≤ h83.size := by rw [Wr.size W83]; exact B82
  show Go _ _ _ _ T83 (mkF m 83 #[.val (.int (3 : Int32)), .val (.int c0), .val (.int c1), .val (.int c2), .val (.int c3)] [(.ref a80), (.ref a79), (.ref a79)]) _ _ _
  have AC84 : Af Z h83 a80 k80 .char 3 (fun i => Value.int ((updI (updI (updI (fun _ => (0 : Int32)) 0 c0) 1 c1) 2 c2) i)) := Af.congr A83 (fun i hi => by have hi' : i < 3 := hi; rcases lt_3 hi' with rfl | rfl | rfl <;> first | (simp [updI, updV, nar_c f2, nar_c f3, nar_c f4]; done) | rfl)
  have F85 := (Exa.wr W83 (Exa.wr W82 (Exa.wr W81 (Exa.ext E80 A79))))
  have F86 := (Fld.other W83 (Fld.other W82 (Fld.other W81 (Fld.ext E80 (D79 (Or.inr (w24 hw)) (ty := (.array .byte)) (by decide))) (Or.inl ne_a79_a80)) (Or.inl ne_a79_a80)) (Or.inl ne_a79_a80))
  have F87 := (Fld.other W83 (Fld.other W82 (Fld.other W81 (Fld.ext E80 (D79 (Or.inr (w25 hw)) (ty := .byte) (by decide))) (Or.inl ne_a79_a80)) (Or.inl ne_a79_a80)) (Or.inl ne_a79_a80))
  have F88 := (Sta.wr W83 (Sta.wr W82 (Sta.wr W81 (Sta.ext E80 (Sta.ext E79 f0)))))
  refine Go.callI (W := 1) (a := a79) (argsL := [(.ref a80)]) (rest := [(.ref a79)]) X83 hx hZ hown rfl (w12 hw) (w13 hw) (w10 hw) (w14 hw) (by decide) (rm_ia3 l Z a0 hw a79 a80 k80 cs c0 c1 c2 h83 n0 Z83 F85 g_a79 F86 F87 ne_a79_a80 AC84 F88 f1 f2 f3 f4) e83 (lenOf pd_4 rfl) (hb hby d_mk3_83) (by rw [hml]; rfl) rfl (Nat.le_of_eq rfl) (by decide) (by decide) (by decide) (by decide) ?_
  intro v89 T89 L89 X89 q89
  obtain ⟨bx89, kx89, rfl, M89, K89, P89_0, P89_1, P89_2, P89_3⟩ := q89
  have N89 := Fr.app N83 M89
  have Z89 : n0 ≤ T89.heap.size := Nat.le_trans Z83 K89.1
  have B89 : h0.size ≤ T89.heap.size := Nat.le_trans B83 K89.1
  show Go _ _ _ _ T89 (mkF m 86 #[.val (.int (3 : Int32)), .val (.int c0), .val (.int c1), .val (.int c2), .val (.int c3)] [(.ref a79)]) _ _ _
  refine Go.retR X89 hx hlk hret rfl rfl (hb hby d_mk3_86) (by decide) (by decide) ?_
  exact ⟨a79, bx89, kx89, rfl, N89, (Keep.trans (Keep.wr (Keep.wr (Keep.wr (Keep.ext (Keep.ext (Keep.refl _ _) E79) E80) W81 (Or.inr y_a80)) W82 (Or.inr y_a80)) W83 (Or.inr y_a80)) K89 (allS (Or.inr y_a79) all0)), g_a79, P89_0, P89_1, P89_2, P89_3⟩
def Q_ci4 (Z : State) (ac : Addr) (ab : Addr) (kq : ClassId) (kb : ClassId) (fb : Nat → Value) (q0 : Int32) (q1 : Int32) (q2 : Int32) (q3 : Int32) (h0 : Heap) (n0 : Nat) (v : Option Value) (h : Heap) (L : List Loc) : Prop := v = some (.int (4 : Int32)) ∧ Fr n0 L ∧ Keep h0 h [ab] ∧ Af Z h ab kb .byte 4 (fun i => Value.int ((updI (updI (updI (updI (fun _ => (0 : Int32)) 0 (bz q0)) 1 (bz q1)) 2 (bz q2)) 3 (bz q3)) i))
theorem ef_ci4 (m : MethodId) (x0 : Addr) (x1 : Int32) (x2 : Addr) (x3 : Int32) (x4 : Int32) : entryFrame m #[(.ref x0), (.int x1), (.ref x2), (.int x3), (.int x4)] 7 = mkF m 0 #[.val (.ref x0), .val (.int x1), .val (.ref x2), .val (.int x3), .val (.int x4), .unset, .unset] [] := by first | (simp [entryFrame, mkF, argsToLocals, Value.category]; done) | rfl
set_option maxRecDepth 65536 in
set_option maxHeartbeats 40000000 in
theorem rm_ci4 (l : Launch) (Z : State) (a0 : Array Value) (hw : ∀ d ∈ tables_1, d.before a0 Z = true) (ac : Addr) (ab : Addr) (kq : ClassId) (kb : ClassId) (fb : Nat → Value) (q0 : Int32) (q1 : Int32) (q2 : Int32) (q3 : Int32) (h0 : Heap) (n0 : Nat) (Z0 : n0 ≤ h0.size) (f0 : Af Z h0 ac kq .char 4 (fun i => Value.int ((updI (updI (updI (updI (fun _ => (0 : Int32)) 0 q0) 1 q1) 2 q2) 3 q3) i))) (f1 : Af Z h0 ab kb .byte 4 (fb)) (f2 : ac ≠ ab) (f3 : n0 ≤ ab) (f4 : 0 ≤ q0.toInt ∧ q0.toInt ≤ 255) (f5 : 0 ≤ q1.toInt ∧ q1.toInt ≤ 255) (f6 : 0 ≤ q2.toInt ∧ q2.toInt ≤ 255) (f7 : 0 ≤ q3.toInt ∧ q3.toInt ≤ 255) :
    Met l Z (⟨"java/lang/StringUTF16", "compress", "([CI[BII)I"⟩ : MethodName) jdk_52_method_21_code 7 (Option.some Jvm.ClassFile.FieldType.int) [] ({ frames := 0, cells := 0, slots := 0, locals := 0 } : Room) #[(.ref ac), (.int (0 : Int32)), (.ref ab), (.int (0 : Int32)), (.int (4 : Int32))] h0 (Q_ci4 Z ac ab kq kb fb q0 q1 q2 q3 h0 n0) := by
  refine Met.of (plainFor_of_name pn_ci4) ?_
  intro p e s m below meth c s₁ X0 hx hby hml hZ hown hnm e0 hret hlk
  refine Go.cast (ef_ci4 m ac ((0 : Int32)) ab ((0 : Int32)) ((4 : Int32))) ?_
  show Go _ _ _ _ s₁ (mkF m 0 #[.val (.ref ac), .val (.int (0 : Int32)), .val (.ref ab), .val (.int (0 : Int32)), .val (.int (4 : Int32)), .unset, .unset] []) _ _ _
  have N0 := Fr.nil n0
  refine Go.iconst X0 hx (hb hby d_ci4_0) ?_
  show Go _ _ _ _ s₁ (mkF m 1 #[.val (.ref ac), .val (.int (0 : Int32)), .val (.ref ab), .val (.int (0 : Int32)), .val (.int (4 : Int32)), .unset, .unset] [(.int (0 : Int32))]) _ _ _
  refine Go.istore X0 hx (hb hby d_ci4_1) (l' := #[.val (.ref ac), .val (.int (0 : Int32)), .val (.ref ab), .val (.int (0 : Int32)), .val (.int (4 : Int32)), .val (.int (0 : Int32)), .unset]) rfl ?_
  show Go _ _ _ _ s₁ (mkF m 3 #[.val (.ref ac), .val (.int (0 : Int32)), .val (.ref ab), .val (.int (0 : Int32)), .val (.int (4 : Int32)), .val (.int (0 : Int32)), .unset] []) _ _ _
  refine Go.iload X0 hx (hb hby d_ci4_3) rfl ?_
  show Go _ _ _ _ s₁ (mkF m 5 #[.val (.ref ac), .val (.int (0 : Int32)), .val (.ref ab), .val (.int (0 : Int32)), .val (.int (4 : Int32)), .val (.int (0 : Int32)), .unset] [(.int (0 : Int32))]) _ _ _
  refine Go.iload X0 hx (hb hby d_ci4_5) rfl ?_
  show Go _ _ _ _ s₁ (mkF m 7 #[.val (.ref ac), .val (.int (0 : Int32)), .val (.ref ab), .val (.int (0 : Int32)), .val (.int (4 : Int32)), .val (.int (0 : Int32)), .unset] [(.int (4 : Int32)), (.int (0 : Int32))]) _ _ _
  refine Go.icmpNo X0 hx (hb hby d_ci4_7) (XT.ii_ge_f (by decide)) ?_
  show Go _ _ _ _ s₁ (mkF m 10 #[.val (.ref ac), .val (.int (0 : Int32)), .val (.ref ab), .val (.int (0 : Int32)), .val (.int (4 : Int32)), .val (.int (0 : Int32)), .unset] []) _ _ _
  refine Go.aloadN X0 hx (hb hby d_ci4_10) rfl rfl ?_
  show Go _ _ _ _ s₁ (mkF m 11 #[.val (.ref ac), .val (.int (0 : Int32)), .val (.ref ab), .val (.int (0 : Int32)), .val (.int (4 : Int32)), .val (.int (0 : Int32)), .unset] [(.ref ac)]) _ _ _
  refine Go.iloadN X0 hx (hb hby d_ci4_11) rfl ?_
  show Go _ _ _ _ s₁ (mkF m 12 #[.val (.ref ac), .val (.int (0 : Int32)), .val (.ref ab), .val (.int (0 : Int32)), .val (.int (4 : Int32)), .val (.int (0 : Int32)), .unset] [(.int (0 : Int32)), (.ref ac)]) _ _ _
  refine Go.caload X0 hx hZ e0 f0 (by decide) (by decide) (hb hby d_ci4_12) ?_
  show Go _ _ _ _ s₁ (mkF m 13 #[.val (.ref ac), .val (.int (0 : Int32)), .val (.ref ab), .val (.int (0 : Int32)), .val (.int (4 : Int32)), .val (.int (0 : Int32)), .unset] [(.int q0)]) _ _ _
  refine Go.istore X0 hx (hb hby d_ci4_13) (l' := #[.val (.ref ac), .val (.int (0 : Int32)), .val (.ref ab), .val (.int (0 : Int32)), .val (.int (4 : Int32)), .val (.int (0 : Int32)), .val (.int q0)]) rfl ?_
  show Go _ _ _ _ s₁ (mkF m 15 #[.val (.ref ac), .val (.int (0 : Int32)), .val (.ref ab), .val (.int (0 : Int32)), .val (.int (4 : Int32)), .val (.int (0 : Int32)), .val (.int q0)] []) _ _ _
  refine Go.iload X0 hx (hb hby d_ci4_15) rfl ?_
  show Go _ _ _ _ s₁ (mkF m 17 #[.val (.ref ac), .val (.int (0 : Int32)), .val (.ref ab), .val (.int (0 : Int32)), .val (.int (4 : Int32)), .val (.int (0 : Int32)), .val (.int q0)] [(.int q0)]) _ _ _
  refine Go.sipush X0 hx (hb hby d_ci4_17) ?_
  show Go _ _ _ _ s₁ (mkF m 20 #[.val (.ref ac), .val (.int (0 : Int32)), .val (.ref ab), .val (.int (0 : Int32)), .val (.int (4 : Int32)), .val (.int (0 : Int32)), .val (.int q0)] [(.int (255 : Int32)), (.int q0)]) _ _ _
  refine Go.icmpYes X0 hx (hb hby d_ci4_20) (XT.ii_le_t (n255 f4.2)) (pc' := 26) (by decide) (by decide) ?_
  show Go _ _ _ _ s₁ (mkF m 26 #[.val (.ref ac), .val (.int (0 : Int32)), .val (.ref ab), .val (.int (0 : Int32)), .val (.int (4 : Int32)), .val (.int (0 : Int32)), .val (.int q0)] []) _ _ _
  refine Go.aloadN X0 hx (hb hby d_ci4_26) rfl rfl ?_
  show Go _ _ _ _ s₁ (mkF m 27 #[.val (.ref ac), .val (.int (0 : Int32)), .val (.ref ab), .val (.int (0 : Int32)), .val (.int (4 : Int32)), .val (.int (0 : Int32)), .val (.int q0)] [(.ref ab)]) _ _ _
  refine Go.iloadN X0 hx (hb hby d_ci4_27) rfl ?_
  show Go _ _ _ _ s₁ (mkF m 28 #[.val (.ref ac), .val (.int (0 : Int32)), .val (.ref ab), .val (.int (0 : Int32)), .val (.int (4 : Int32)), .val (.int (0 : Int32)), .val (.int q0)] [(.int (0 : Int32)), (.ref ab)]) _ _ _
  refine Go.iload X0 hx (hb hby d_ci4_28) rfl ?_
  show Go _ _ _ _ s₁ (mkF m 30 #[.val (.ref ac), .val (.int (0 : Int32)), .val (.ref ab), .val (.int (0 : Int32)), .val (.int (4 : Int32)), .val (.int (0 : Int32)), .val (.int q0)] [(.int q0), (.int (0 : Int32)), (.ref ab)]) _ _ _
  refine Go.i2b X0 hx (hb hby d_ci4_30) ?_
  show Go _ _ _ _ s₁ (mkF m 31 #[.val (.ref ac), .val (.int (0 : Int32)), .val (.ref ab), .val (.int (0 : Int32)), .val (.int (4 : Int32)), .val (.int (0 : Int32)), .val (.int q0)] [(.int ((q0).toInt8.toInt32)), (.int (0 : Int32)), (.ref ab)]) _ _ _
  refine Go.bastoreB X0 hx hZ e0 f1 (by decide) (by decide) (hb hby d_ci4_31) ?_
  intro T90 h90 X90 e90 W90 A90
  have N90 := Fr.snoc X90 N0 f3
  have Z90 : n0 ≤ h90.size := by rw [Wr.size W90]; exact Z0
  have B90 : h0.size ≤ h90.size := by rw [Wr.size W90]; exact (Nat.le_refl _)
  show Go _ _ _ _ T90 (mkF m 32 #[.val (.ref ac), .val (.int (0 : Int32)), .val (.ref ab), .val (.int (0 : Int32)), .val (.int (4 : Int32)), .val (.int (0 : Int32)), .val (.int q0)] []) _ _ _
  refine Go.iinc X90 hx (hb hby d_ci4_32) rfl (l' := #[.val (.ref ac), .val (.int (1 : Int32)), .val (.ref ab), .val (.int (0 : Int32)), .val (.int (4 : Int32)), .val (.int (0 : Int32)), .val (.int q0)]) rfl ?_
  show Go _ _ _ _ T90 (mkF m 35 #[.val (.ref ac), .val (.int (1 : Int32)), .val (.ref ab), .val (.int (0 : Int32)), .val (.int (4 : Int32)), .val (.int (0 : Int32)), .val (.int q0)] []) _ _ _
  refine Go.iinc X90 hx (hb hby d_ci4_35) rfl (l' := #[.val (.ref ac), .val (.int (1 : Int32)), .val (.ref ab), .val (.int (1 : Int32)), .val (.int (4 : Int32)), .val (.int (0 : Int32)), .val (.int q0)]) rfl ?_
  show Go _ _ _ _ T90 (mkF m 38 #[.val (.ref ac), .val (.int (1 : Int32)), .val (.ref ab), .val (.int (1 : Int32)), .val (.int (4 : Int32)), .val (.int (0 : Int32)), .val (.int q0)] []) _ _ _
  refine Go.iinc X90 hx (hb hby d_ci4_38) rfl (l' := #[.val (.ref ac), .val (.int (1 : Int32)), .val (.ref ab), .val (.int (1 : Int32)), .val (.int (4 : Int32)), .val (.int (1 : Int32)), .val (.int q0)]) rfl ?_
  show Go _ _ _ _ T90 (mkF m 41 #[.val (.ref ac), .val (.int (1 : Int32)), .val (.ref ab), .val (.int (1 : Int32)), .val (.int (4 : Int32)), .val (.int (1 : Int32)), .val (.int q0)] []) _ _ _
  refine Go.goto X90 hx (hb hby d_ci4_41) (pc' := 3) (by decide) (by decide) ?_
  show Go _ _ _ _ T90 (mkF m 3 #[.val (.ref ac), .val (.int (1 : Int32)), .val (.ref ab), .val (.int (1 : Int32)), .val (.int (4 : Int32)), .val (.int (1 : Int32)), .val (.int q0)] []) _ _ _
  refine Go.iload X90 hx (hb hby d_ci4_3) rfl ?_
  show Go _ _ _ _ T90 (mkF m 5 #[.val (.ref ac), .val (.int (1 : Int32)), .val (.ref ab), .val (.int (1 : Int32)), .val (.int (4 : Int32)), .val (.int (1 : Int32)), .val (.int q0)] [(.int (1 : Int32))]) _ _ _
  refine Go.iload X90 hx (hb hby d_ci4_5) rfl ?_
  show Go _ _ _ _ T90 (mkF m 7 #[.val (.ref ac), .val (.int (1 : Int32)), .val (.ref ab), .val (.int (1 : Int32)), .val (.int (4 : Int32)), .val (.int (1 : Int32)), .val (.int q0)] [(.int (4 : Int32)), (.int (1 : Int32))]) _ _ _
  refine Go.icmpNo X90 hx (hb hby d_ci4_7) (XT.ii_ge_f (by decide)) ?_
  show Go _ _ _ _ T90 (mkF m 10 #[.val (.ref ac), .val (.int (1 : Int32)), .val (.ref ab), .val (.int (1 : Int32)), .val (.int (4 : Int32)), .val (.int (1 : Int32)), .val (.int q0)] []) _ _ _
  refine Go.aloadN X90 hx (hb hby d_ci4_10) rfl rfl ?_
  show Go _ _ _ _ T90 (mkF m 11 #[.val (.ref ac), .val (.int (1 : Int32)), .val (.ref ab), .val (.int (1 : Int32)), .val (.int (4 : Int32)), .val (.int (1 : Int32)), .val (.int q0)] [(.ref ac)]) _ _ _
  refine Go.iloadN X90 hx (hb hby d_ci4_11) rfl ?_
  show Go _ _ _ _ T90 (mkF m 12 #[.val (.ref ac), .val (.int (1 : Int32)), .val (.ref ab), .val (.int (1 : Int32)), .val (.int (4 : Int32)), .val (.int (1 : Int32)), .val (.int q0)] [(.int (1 : Int32)), (.ref ac)]) _ _ _
  refine Go.caload X90 hx hZ e90 (Af.other W90 f0 f2) (by decide) (by decide) (hb hby d_ci4_12) ?_
  show Go _ _ _ _ T90 (mkF m 13 #[.val (.ref ac), .val (.int (1 : Int32)), .val (.ref ab), .val (.int (1 : Int32)), .val (.int (4 : Int32)), .val (.int (1 : Int32)), .val (.int q0)] [(.int q1)]) _ _ _
  refine Go.istore X90 hx (hb hby d_ci4_13) (l' := #[.val (.ref ac), .val (.int (1 : Int32)), .val (.ref ab), .val (.int (1 : Int32)), .val (.int (4 : Int32)), .val (.int (1 : Int32)), .val (.int q1)]) rfl ?_
  show Go _ _ _ _ T90 (mkF m 15 #[.val (.ref ac), .val (.int (1 : Int32)), .val (.ref ab), .val (.int (1 : Int32)), .val (.int (4 : Int32)), .val (.int (1 : Int32)), .val (.int q1)] []) _ _ _
  refine Go.iload X90 hx (hb hby d_ci4_15) rfl ?_
  show Go _ _ _ _ T90 (mkF m 17 #[.val (.ref ac), .val (.int (1 : Int32)), .val (.ref ab), .val (.int (1 : Int32)), .val (.int (4 : Int32)), .val (.int (1 : Int32)), .val (.int q1)] [(.int q1)]) _ _ _
  refine Go.sipush X90 hx (hb hby d_ci4_17) ?_
  show Go _ _ _ _ T90 (mkF m 20 #[.val (.ref ac), .val (.int (1 : Int32)), .val (.ref ab), .val (.int (1 : Int32)), .val (.int (4 : Int32)), .val (.int (1 : Int32)), .val (.int q1)] [(.int (255 : Int32)), (.int q1)]) _ _ _
  refine Go.icmpYes X90 hx (hb hby d_ci4_20) (XT.ii_le_t (n255 f5.2)) (pc' := 26) (by decide) (by decide) ?_
  show Go _ _ _ _ T90 (mkF m 26 #[.val (.ref ac), .val (.int (1 : Int32)), .val (.ref ab), .val (.int (1 : Int32)), .val (.int (4 : Int32)), .val (.int (1 : Int32)), .val (.int q1)] []) _ _ _
  refine Go.aloadN X90 hx (hb hby d_ci4_26) rfl rfl ?_
  show Go _ _ _ _ T90 (mkF m 27 #[.val (.ref ac), .val (.int (1 : Int32)), .val (.ref ab), .val (.int (1 : Int32)), .val (.int (4 : Int32)), .val (.int (1 : Int32)), .val (.int q1)] [(.ref ab)]) _ _ _
  refine Go.iloadN X90 hx (hb hby d_ci4_27) rfl ?_
  show Go _ _ _ _ T90 (mkF m 28 #[.val (.ref ac), .val (.int (1 : Int32)), .val (.ref ab), .val (.int (1 : Int32)), .val (.int (4 : Int32)), .val (.int (1 : Int32)), .val (.int q1)] [(.int (1 : Int32)), (.ref ab)]) _ _ _
  refine Go.iload X90 hx (hb hby d_ci4_28) rfl ?_
  show Go _ _ _ _ T90 (mkF m 30 #[.val (.ref ac), .val (.int (1 : Int32)), .val (.ref ab), .val (.int (1 : Int32)), .val (.int (4 : Int32)), .val (.int (1 : Int32)), .val (.int q1)] [(.int q1), (.int (1 : Int32)), (.ref ab)]) _ _ _
  refine Go.i2b X90 hx (hb hby d_ci4_30) ?_
  show Go _ _ _ _ T90 (mkF m 31 #[.val (.ref ac), .val (.int (1 : Int32)), .val (.ref ab), .val (.int (1 : Int32)), .val (.int (4 : Int32)), .val (.int (1 : Int32)), .val (.int q1)] [(.int ((q1).toInt8.toInt32)), (.int (1 : Int32)), (.ref ab)]) _ _ _
  refine Go.bastoreB X90 hx hZ e90 A90 (by decide) (by decide) (hb hby d_ci4_31) ?_
  intro T91 h91 X91 e91 W91 A91
  have N91 := Fr.snoc X91 N90 f3
  have Z91 : n0 ≤ h91.size := by rw [Wr.size W91]; exact Z90
  have B91 : h0.size ≤ h91.size := by rw [Wr.size W91]; exact B90
  show Go _ _ _ _ T91 (mkF m 32 #[.val (.ref ac), .val (.int (1 : Int32)), .val (.ref ab), .val (.int (1 : Int32)), .val (.int (4 : Int32)), .val (.int (1 : Int32)), .val (.int q1)] []) _ _ _
  refine Go.iinc X91 hx (hb hby d_ci4_32) rfl (l' := #[.val (.ref ac), .val (.int (2 : Int32)), .val (.ref ab), .val (.int (1 : Int32)), .val (.int (4 : Int32)), .val (.int (1 : Int32)), .val (.int q1)]) rfl ?_
  show Go _ _ _ _ T91 (mkF m 35 #[.val (.ref ac), .val (.int (2 : Int32)), .val (.ref ab), .val (.int (1 : Int32)), .val (.int (4 : Int32)), .val (.int (1 : Int32)), .val (.int q1)] []) _ _ _
  refine Go.iinc X91 hx (hb hby d_ci4_35) rfl (l' := #[.val (.ref ac), .val (.int (2 : Int32)), .val (.ref ab), .val (.int (2 : Int32)), .val (.int (4 : Int32)), .val (.int (1 : Int32)), .val (.int q1)]) rfl ?_
  show Go _ _ _ _ T91 (mkF m 38 #[.val (.ref ac), .val (.int (2 : Int32)), .val (.ref ab), .val (.int (2 : Int32)), .val (.int (4 : Int32)), .val (.int (1 : Int32)), .val (.int q1)] []) _ _ _
  refine Go.iinc X91 hx (hb hby d_ci4_38) rfl (l' := #[.val (.ref ac), .val (.int (2 : Int32)), .val (.ref ab), .val (.int (2 : Int32)), .val (.int (4 : Int32)), .val (.int (2 : Int32)), .val (.int q1)]) rfl ?_
  show Go _ _ _ _ T91 (mkF m 41 #[.val (.ref ac), .val (.int (2 : Int32)), .val (.ref ab), .val (.int (2 : Int32)), .val (.int (4 : Int32)), .val (.int (2 : Int32)), .val (.int q1)] []) _ _ _
  refine Go.goto X91 hx (hb hby d_ci4_41) (pc' := 3) (by decide) (by decide) ?_
  show Go _ _ _ _ T91 (mkF m 3 #[.val (.ref ac), .val (.int (2 : Int32)), .val (.ref ab), .val (.int (2 : Int32)), .val (.int (4 : Int32)), .val (.int (2 : Int32)), .val (.int q1)] []) _ _ _
  refine Go.iload X91 hx (hb hby d_ci4_3) rfl ?_
  show Go _ _ _ _ T91 (mkF m 5 #[.val (.ref ac), .val (.int (2 : Int32)), .val (.ref ab), .val (.int (2 : Int32)), .val (.int (4 : Int32)), .val (.int (2 : Int32)), .val (.int q1)] [(.int (2 : Int32))]) _ _ _
  refine Go.iload X91 hx (hb hby d_ci4_5) rfl ?_
  show Go _ _ _ _ T91 (mkF m 7 #[.val (.ref ac), .val (.int (2 : Int32)), .val (.ref ab), .val (.int (2 : Int32)), .val (.int (4 : Int32)), .val (.int (2 : Int32)), .val (.int q1)] [(.int (4 : Int32)), (.int (2 : Int32))]) _ _ _
  refine Go.icmpNo X91 hx (hb hby d_ci4_7) (XT.ii_ge_f (by decide)) ?_
  show Go _ _ _ _ T91 (mkF m 10 #[.val (.ref ac), .val (.int (2 : Int32)), .val (.ref ab), .val (.int (2 : Int32)), .val (.int (4 : Int32)), .val (.int (2 : Int32)), .val (.int q1)] []) _ _ _
  refine Go.aloadN X91 hx (hb hby d_ci4_10) rfl rfl ?_
  show Go _ _ _ _ T91 (mkF m 11 #[.val (.ref ac), .val (.int (2 : Int32)), .val (.ref ab), .val (.int (2 : Int32)), .val (.int (4 : Int32)), .val (.int (2 : Int32)), .val (.int q1)] [(.ref ac)]) _ _ _
  refine Go.iloadN X91 hx (hb hby d_ci4_11) rfl ?_
  show Go _ _ _ _ T91 (mkF m 12 #[.val (.ref ac), .val (.int (2 : Int32)), .val (.ref ab), .val (.int (2 : Int32)), .val (.int (4 : Int32)), .val (.int (2 : Int32)), .val (.int q1)] [(.int (2 : Int32)), (.ref ac)]) _ _ _
  refine Go.caload X91 hx hZ e91 (Af.other W91 (Af.other W90 f0 f2) f2) (by decide) (by decide) (hb hby d_ci4_12) ?_
  show Go _ _ _ _ T91 (mkF m 13 #[.val (.ref ac), .val (.int (2 : Int32)), .val (.ref ab), .val (.int (2 : Int32)), .val (.int (4 : Int32)), .val (.int (2 : Int32)), .val (.int q1)] [(.int q2)]) _ _ _
  refine Go.istore X91 hx (hb hby d_ci4_13) (l' := #[.val (.ref ac), .val (.int (2 : Int32)), .val (.ref ab), .val (.int (2 : Int32)), .val (.int (4 : Int32)), .val (.int (2 : Int32)), .val (.int q2)]) rfl ?_
  show Go _ _ _ _ T91 (mkF m 15 #[.val (.ref ac), .val (.int (2 : Int32)), .val (.ref ab), .val (.int (2 : Int32)), .val (.int (4 : Int32)), .val (.int (2 : Int32)), .val (.int q2)] []) _ _ _
  refine Go.iload X91 hx (hb hby d_ci4_15) rfl ?_
  show Go _ _ _ _ T91 (mkF m 17 #[.val (.ref ac), .val (.int (2 : Int32)), .val (.ref ab), .val (.int (2 : Int32)), .val (.int (4 : Int32)), .val (.int (2 : Int32)), .val (.int q2)] [(.int q2)]) _ _ _
  refine Go.sipush X91 hx (hb hby d_ci4_17) ?_
  show Go _ _ _ _ T91 (mkF m 20 #[.val (.ref ac), .val (.int (2 : Int32)), .val (.ref ab), .val (.int (2 : Int32)), .val (.int (4 : Int32)), .val (.int (2 : Int32)), .val (.int q2)] [(.int (255 : Int32)), (.int q2)]) _ _ _
  refine Go.icmpYes X91 hx (hb hby d_ci4_20) (XT.ii_le_t (n255 f6.2)) (pc' := 26) (by decide) (by decide) ?_
  show Go _ _ _ _ T91 (mkF m 26 #[.val (.ref ac), .val (.int (2 : Int32)), .val (.ref ab), .val (.int (2 : Int32)), .val (.int (4 : Int32)), .val (.int (2 : Int32)), .val (.int q2)] []) _ _ _
  refine Go.aloadN X91 hx (hb hby d_ci4_26) rfl rfl ?_
  show Go _ _ _ _ T91 (mkF m 27 #[.val (.ref ac), .val (.int (2 : Int32)), .val (.ref ab), .val (.int (2 : Int32)), .val (.int (4 : Int32)), .val (.int (2 : Int32)), .val (.int q2)] [(.ref ab)]) _ _ _
  refine Go.iloadN X91 hx (hb hby d_ci4_27) rfl ?_
  show Go _ _ _ _ T91 (mkF m 28 #[.val (.ref ac), .val (.int (2 : Int32)), .val (.ref ab), .val (.int (2 : Int32)), .val (.int (4 : Int32)), .val (.int (2 : Int32)), .val (.int q2)] [(.int (2 : Int32)), (.ref ab)]) _ _ _
  refine Go.iload X91 hx (hb hby d_ci4_28) rfl ?_
  show Go _ _ _ _ T91 (mkF m 30 #[.val (.ref ac), .val (.int (2 : Int32)), .val (.ref ab), .val (.int (2 : Int32)), .val (.int (4 : Int32)), .val (.int (2 : Int32)), .val (.int q2)] [(.int q2), (.int (2 : Int32)), (.ref ab)]) _ _ _
  refine Go.i2b X91 hx (hb hby d_ci4_30) ?_
  show Go _ _ _ _ T91 (mkF m 31 #[.val (.ref ac), .val (.int (2 : Int32)), .val (.ref ab), .val (.int (2 : Int32)), .val (.int (4 : Int32)), .val (.int (2 : Int32)), .val (.int q2)] [(.int ((q2).toInt8.toInt32)), (.int (2 : Int32)), (.ref ab)]) _ _ _
  refine Go.bastoreB X91 hx hZ e91 A91 (by decide) (by decide) (hb hby d_ci4_31) ?_
  intro T92 h92 X92 e92 W92 A92
  have N92 := Fr.snoc X92 N91 f3
  have Z92 : n0 ≤ h92.size := by rw [Wr.size W92]; exact Z91
  have B92 : h0.size ≤ h92.size := by rw [Wr.size W92]; exact B91
  show Go _ _ _ _ T92 (mkF m 32 #[.val (.ref ac), .val (.int (2 : Int32)), .val (.ref ab), .val (.int (2 : Int32)), .val (.int (4 : Int32)), .val (.int (2 : Int32)), .val (.int q2)] []) _ _ _
  refine Go.iinc X92 hx (hb hby d_ci4_32) rfl (l' := #[.val (.ref ac), .val (.int (3 : Int32)), .val (.ref ab), .val (.int (2 : Int32)), .val (.int (4 : Int32)), .val (.int (2 : Int32)), .val (.int q2)]) rfl ?_
  show Go _ _ _ _ T92 (mkF m 35 #[.val (.ref ac), .val (.int (3 : Int32)), .val (.ref ab), .val (.int (2 : Int32)), .val (.int (4 : Int32)), .val (.int (2 : Int32)), .val (.int q2)] []) _ _ _
  refine Go.iinc X92 hx (hb hby d_ci4_35) rfl (l' := #[.val (.ref ac), .val (.int (3 : Int32)), .val (.ref ab), .val (.int (3 : Int32)), .val (.int (4 : Int32)), .val (.int (2 : Int32)), .val (.int q2)]) rfl ?_
  show Go _ _ _ _ T92 (mkF m 38 #[.val (.ref ac), .val (.int (3 : Int32)), .val (.ref ab), .val (.int (3 : Int32)), .val (.int (4 : Int32)), .val (.int (2 : Int32)), .val (.int q2)] []) _ _ _
  refine Go.iinc X92 hx (hb hby d_ci4_38) rfl (l' := #[.val (.ref ac), .val (.int (3 : Int32)), .val (.ref ab), .val (.int (3 : Int32)), .val (.int (4 : Int32)), .val (.int (3 : Int32)), .val (.int q2)]) rfl ?_
  show Go _ _ _ _ T92 (mkF m 41 #[.val (.ref ac), .val (.int (3 : Int32)), .val (.ref ab), .val (.int (3 : Int32)), .val (.int (4 : Int32)), .val (.int (3 : Int32)), .val (.int q2)] []) _ _ _
  refine Go.goto X92 hx (hb hby d_ci4_41) (pc' := 3) (by decide) (by decide) ?_
  show Go _ _ _ _ T92 (mkF m 3 #[.val (.ref ac), .val (.int (3 : Int32)), .val (.ref ab), .val (.int (3 : Int32)), .val (.int (4 : Int32)), .val (.int (3 : Int32)), .val (.int q2)] []) _ _ _
  refine Go.iload X92 hx (hb hby d_ci4_3) rfl ?_
  show Go _ _ _ _ T92 (mkF m 5 #[.val (.ref ac), .val (.int (3 : Int32)), .val (.ref ab), .val (.int (3 : Int32)), .val (.int (4 : Int32)), .val (.int (3 : Int32)), .val (.int q2)] [(.int (3 : Int32))]) _ _ _
  refine Go.iload X92 hx (hb hby d_ci4_5) rfl ?_
  show Go _ _ _ _ T92 (mkF m 7 #[.val (.ref ac), .val (.int (3 : Int32)), .val (.ref ab), .val (.int (3 : Int32)), .val (.int (4 : Int32)), .val (.int (3 : Int32)), .val (.int q2)] [(.int (4 : Int32)), (.int (3 : Int32))]) _ _ _
  refine Go.icmpNo X92 hx (hb hby d_ci4_7) (XT.ii_ge_f (by decide)) ?_
  show Go _ _ _ _ T92 (mkF m 10 #[.val (.ref ac), .val (.int (3 : Int32)), .val (.ref ab), .val (.int (3 : Int32)), .val (.int (4 : Int32)), .val (.int (3 : Int32)), .val (.int q2)] []) _ _ _
  refine Go.aloadN X92 hx (hb hby d_ci4_10) rfl rfl ?_
  show Go _ _ _ _ T92 (mkF m 11 #[.val (.ref ac), .val (.int (3 : Int32)), .val (.ref ab), .val (.int (3 : Int32)), .val (.int (4 : Int32)), .val (.int (3 : Int32)), .val (.int q2)] [(.ref ac)]) _ _ _
  refine Go.iloadN X92 hx (hb hby d_ci4_11) rfl ?_
  show Go _ _ _ _ T92 (mkF m 12 #[.val (.ref ac), .val (.int (3 : Int32)), .val (.ref ab), .val (.int (3 : Int32)), .val (.int (4 : Int32)), .val (.int (3 : Int32)), .val (.int q2)] [(.int (3 : Int32)), (.ref ac)]) _ _ _
  have F93 := (Af.other W92 (Af.other W91 (Af.other W90 f0 f2) f2) f2)
  refine Go.caload X92 hx hZ e92 F93 (by decide) (by decide) (hb hby d_ci4_12) ?_
  show Go _ _ _ _ T92 (mkF m 13 #[.val (.ref ac), .val (.int (3 : Int32)), .val (.ref ab), .val (.int (3 : Int32)), .val (.int (4 : Int32)), .val (.int (3 : Int32)), .val (.int q2)] [(.int q3)]) _ _ _
  refine Go.istore X92 hx (hb hby d_ci4_13) (l' := #[.val (.ref ac), .val (.int (3 : Int32)), .val (.ref ab), .val (.int (3 : Int32)), .val (.int (4 : Int32)), .val (.int (3 : Int32)), .val (.int q3)]) rfl ?_
  show Go _ _ _ _ T92 (mkF m 15 #[.val (.ref ac), .val (.int (3 : Int32)), .val (.ref ab), .val (.int (3 : Int32)), .val (.int (4 : Int32)), .val (.int (3 : Int32)), .val (.int q3)] []) _ _ _
  refine Go.iload X92 hx (hb hby d_ci4_15) rfl ?_
  show Go _ _ _ _ T92 (mkF m 17 #[.val (.ref ac), .val (.int (3 : Int32)), .val (.ref ab), .val (.int (3 : Int32)), .val (.int (4 : Int32)), .val (.int (3 : Int32)), .val (.int q3)] [(.int q3)]) _ _ _
  refine Go.sipush X92 hx (hb hby d_ci4_17) ?_
  show Go _ _ _ _ T92 (mkF m 20 #[.val (.ref ac), .val (.int (3 : Int32)), .val (.ref ab), .val (.int (3 : Int32)), .val (.int (4 : Int32)), .val (.int (3 : Int32)), .val (.int q3)] [(.int (255 : Int32)), (.int q3)]) _ _ _
  refine Go.icmpYes X92 hx (hb hby d_ci4_20) (XT.ii_le_t (n255 f7.2)) (pc' := 26) (by decide) (by decide) ?_
  show Go _ _ _ _ T92 (mkF m 26 #[.val (.ref ac), .val (.int (3 : Int32)), .val (.ref ab), .val (.int (3 : Int32)), .val (.int (4 : Int32)), .val (.int (3 : Int32)), .val (.int q3)] []) _ _ _
  refine Go.aloadN X92 hx (hb hby d_ci4_26) rfl rfl ?_
  show Go _ _ _ _ T92 (mkF m 27 #[.val (.ref ac), .val (.int (3 : Int32)), .val (.ref ab), .val (.int (3 : Int32)), .val (.int (4 : Int32)), .val (.int (3 : Int32)), .val (.int q3)] [(.ref ab)]) _ _ _
  refine Go.iloadN X92 hx (hb hby d_ci4_27) rfl ?_
  show Go _ _ _ _ T92 (mkF m 28 #[.val (.ref ac), .val (.int (3 : Int32)), .val (.ref ab), .val (.int (3 : Int32)), .val (.int (4 : Int32)), .val (.int (3 : Int32)), .val (.int q3)] [(.int (3 : Int32)), (.ref ab)]) _ _ _
  refine Go.iload X92 hx (hb hby d_ci4_28) rfl ?_
  show Go _ _ _ _ T92 (mkF m 30 #[.val (.ref ac), .val (.int (3 : Int32)), .val (.ref ab), .val (.int (3 : Int32)), .val (.int (4 : Int32)), .val (.int (3 : Int32)), .val (.int q3)] [(.int q3), (.int (3 : Int32)), (.ref ab)]) _ _ _
  refine Go.i2b X92 hx (hb hby d_ci4_30) ?_
  show Go _ _ _ _ T92 (mkF m 31 #[.val (.ref ac), .val (.int (3 : Int32)), .val (.ref ab), .val (.int (3 : Int32)), .val (.int (4 : Int32)), .val (.int (3 : Int32)), .val (.int q3)] [(.int ((q3).toInt8.toInt32)), (.int (3 : Int32)), (.ref ab)]) _ _ _
  refine Go.bastoreB X92 hx hZ e92 A92 (by decide) (by decide) (hb hby d_ci4_31) ?_
  intro T94 h94 X94 e94 W94 A94
  have N94 := Fr.snoc X94 N92 f3
  have Z94 : n0 ≤ h94.size := by rw [Wr.size W94]; exact Z92
  have B94 : h0.size ≤ h94.size := by rw [Wr.size W94]; exact B92
  show Go _ _ _ _ T94 (mkF m 32 #[.val (.ref ac), .val (.int (3 : Int32)), .val (.ref ab), .val (.int (3 : Int32)), .val (.int (4 : Int32)), .val (.int (3 : Int32)), .val (.int q3)] []) _ _ _
  refine Go.iinc X94 hx (hb hby d_ci4_32) rfl (l' := #[.val (.ref ac), .val (.int (4 : Int32)), .val (.ref ab), .val (.int (3 : Int32)), .val (.int (4 : Int32)), .val (.int (3 : Int32)), .val (.int q3)]) rfl ?_
  show Go _ _ _ _ T94 (mkF m 35 #[.val (.ref ac), .val (.int (4 : Int32)), .val (.ref ab), .val (.int (3 : Int32)), .val (.int (4 : Int32)), .val (.int (3 : Int32)), .val (.int q3)] []) _ _ _
  refine Go.iinc X94 hx (hb hby d_ci4_35) rfl (l' := #[.val (.ref ac), .val (.int (4 : Int32)), .val (.ref ab), .val (.int (4 : Int32)), .val (.int (4 : Int32)), .val (.int (3 : Int32)), .val (.int q3)]) rfl ?_
  show Go _ _ _ _ T94 (mkF m 38 #[.val (.ref ac), .val (.int (4 : Int32)), .val (.ref ab), .val (.int (4 : Int32)), .val (.int (4 : Int32)), .val (.int (3 : Int32)), .val (.int q3)] []) _ _ _
  refine Go.iinc X94 hx (hb hby d_ci4_38) rfl (l' := #[.val (.ref ac), .val (.int (4 : Int32)), .val (.ref ab), .val (.int (4 : Int32)), .val (.int (4 : Int32)), .val (.int (4 : Int32)), .val (.int q3)]) rfl ?_
  show Go _ _ _ _ T94 (mkF m 41 #[.val (.ref ac), .val (.int (4 : Int32)), .val (.ref ab), .val (.int (4 : Int32)), .val (.int (4 : Int32)), .val (.int (4 : Int32)), .val (.int q3)] []) _ _ _
  refine Go.goto X94 hx (hb hby d_ci4_41) (pc' := 3) (by decide) (by decide) ?_
  show Go _ _ _ _ T94 (mkF m 3 #[.val (.ref ac), .val (.int (4 : Int32)), .val (.ref ab), .val (.int (4 : Int32)), .val (.int (4 : Int32)), .val (.int (4 : Int32)), .val (.int q3)] []) _ _ _
  refine Go.iload X94 hx (hb hby d_ci4_3) rfl ?_
  show Go _ _ _ _ T94 (mkF m 5 #[.val (.ref ac), .val (.int (4 : Int32)), .val (.ref ab), .val (.int (4 : Int32)), .val (.int (4 : Int32)), .val (.int (4 : Int32)), .val (.int q3)] [(.int (4 : Int32))]) _ _ _
  refine Go.iload X94 hx (hb hby d_ci4_5) rfl ?_
  show Go _ _ _ _ T94 (mkF m 7 #[.val (.ref ac), .val (.int (4 : Int32)), .val (.ref ab), .val (.int (4 : Int32)), .val (.int (4 : Int32)), .val (.int (4 : Int32)), .val (.int q3)] [(.int (4 : Int32)), (.int (4 : Int32))]) _ _ _
  refine Go.icmpYes X94 hx (hb hby d_ci4_7) (XT.ii_ge_t (by decide)) (pc' := 44) (by decide) (by decide) ?_
  show Go _ _ _ _ T94 (mkF m 44 #[.val (.ref ac), .val (.int (4 : Int32)), .val (.ref ab), .val (.int (4 : Int32)), .val (.int (4 : Int32)), .val (.int (4 : Int32)), .val (.int q3)] []) _ _ _
  have AC95 : Af Z h94 ab kb .byte 4 (fun i => Value.int ((updI (updI (updI (updI (fun _ => (0 : Int32)) 0 (bz q0)) 1 (bz q1)) 2 (bz q2)) 3 (bz q3)) i)) := Af.congr A94 (fun i hi => by have hi' : i < 4 := hi; rcases lt_4 hi' with rfl | rfl | rfl | rfl <;> first | (simp [updI, updV, bz]; done) | rfl)
  refine Go.iload X94 hx (hb hby d_ci4_44) rfl ?_
  show Go _ _ _ _ T94 (mkF m 46 #[.val (.ref ac), .val (.int (4 : Int32)), .val (.ref ab), .val (.int (4 : Int32)), .val (.int (4 : Int32)), .val (.int (4 : Int32)), .val (.int q3)] [(.int (4 : Int32))]) _ _ _
  refine Go.retI X94 hx hlk hret (hb hby d_ci4_46) (by decide) (by decide) ?_
  rw [e94]
  exact ⟨rfl, N94, (Keep.wr (Keep.wr (Keep.wr (Keep.wr (Keep.refl _ _) W90 (Or.inl (List.mem_of_getElem? (i := 0) rfl))) W91 (Or.inl (List.mem_of_getElem? (i := 0) rfl))) W92 (Or.inl (List.mem_of_getElem? (i := 0) rfl))) W94 (Or.inl (List.mem_of_getElem? (i := 0) rfl))), AC95⟩
def Q_co4 (Z : State) (ac : Addr) (kq : ClassId) (q0 : Int32) (q1 : Int32) (q2 : Int32) (q3 : Int32) (h0 : Heap) (n0 : Nat) (v : Option Value) (h : Heap) (L : List Loc) : Prop := ∃ (r : Addr) (kr : ClassId), v = some (.ref r) ∧ Fr n0 L ∧ Keep h0 h [] ∧ n0 ≤ r ∧ h0.size ≤ r ∧ Af Z h r kr .byte 4 (fun i => Value.int ((updI (updI (updI (updI (fun _ => (0 : Int32)) 0 (bz q0)) 1 (bz q1)) 2 (bz q2)) 3 (bz q3)) i))
theorem ef_co4 (m : MethodId) (x0 : Addr) (x1 : Int32) (x2 : Int32) : entryFrame m #[(.ref x0), (.int x1), (.int x2)] 6 = mkF m 0 #[.val (.ref x0), .val (.int x1), .val (.int x2), .unset, .unset, .unset] [] := by first | (simp [entryFrame, mkF, argsToLocals, Value.category]; done) | rfl
set_option maxRecDepth 65536 in
set_option maxHeartbeats 40000000 in
theorem rm_co4 (l : Launch) (Z : State) (a0 : Array Value) (hw : ∀ d ∈ tables_1, d.before a0 Z = true) (ac : Addr) (kq : ClassId) (q0 : Int32) (q1 : Int32) (q2 : Int32) (q3 : Int32) (h0 : Heap) (n0 : Nat) (Z0 : n0 ≤ h0.size) (f0 : Af Z h0 ac kq .char 4 (fun i => Value.int ((updI (updI (updI (updI (fun _ => (0 : Int32)) 0 q0) 1 q1) 2 q2) 3 q3) i))) (f1 : 0 ≤ q0.toInt ∧ q0.toInt ≤ 255) (f2 : 0 ≤ q1.toInt ∧ q1.toInt ≤ 255) (f3 : 0 ≤ q2.toInt ∧ q2.toInt ≤ 255) (f4 : 0 ≤ q3.toInt ∧ q3.toInt ≤ 255) :
    Met l Z (⟨"java/lang/StringUTF16", "compress", "([CII)[B"⟩ : MethodName) jdk_52_method_16_code 6 (Option.some (Jvm.ClassFile.FieldType.array Jvm.ClassFile.FieldType.byte)) [] ({ frames := 1, cells := 1, slots := 4, locals := 18 } : Room) #[(.ref ac), (.int (0 : Int32)), (.int (4 : Int32))] h0 (Q_co4 Z ac kq q0 q1 q2 q3 h0 n0) := by
  refine Met.of (plainFor_of_name pn_co4) ?_
  intro p e s m below meth c s₁ X0 hx hby hml hZ hown hnm e0 hret hlk
  refine Go.cast (ef_co4 m ac ((0 : Int32)) ((4 : Int32))) ?_
  show Go _ _ _ _ s₁ (mkF m 0 #[.val (.ref ac), .val (.int (0 : Int32)), .val (.int (4 : Int32)), .unset, .unset, .unset] []) _ _ _
  have N0 := Fr.nil n0
  refine Go.iloadN X0 hx (hb hby d_co4_0) rfl ?_
  show Go _ _ _ _ s₁ (mkF m 1 #[.val (.ref ac), .val (.int (0 : Int32)), .val (.int (4 : Int32)), .unset, .unset, .unset] [(.int (4 : Int32))]) _ _ _
  refine Go.newarray (aty := .byte) (cap := 4) X0 hx hZ (w23 hw) e0 (hb hby d_co4_1) (by decide) (by decide) (by decide) (by decide) (by decide) ?_
  intro T96 h96 a96 k96 b96 X96 e96 E96 A96
  have g_a96 : n0 ≤ a96 := by rw [b96]; exact Z0
  have y_a96 : h0.size ≤ a96 := by rw [b96]; exact (Nat.le_refl _)
  have ne_ac_a96 : ac ≠ a96 := by rw [b96]; exact Nat.ne_of_lt f0.lt
  have Z96 : n0 ≤ h96.size := Nat.le_trans Z0 E96.1
  have B96 : h0.size ≤ h96.size := Nat.le_trans (Nat.le_refl _) E96.1
  show Go _ _ _ _ T96 (mkF m 3 #[.val (.ref ac), .val (.int (0 : Int32)), .val (.int (4 : Int32)), .unset, .unset, .unset] [(.ref a96)]) _ _ _
  refine Go.astoreN X96 hx (hb hby d_co4_3) rfl (l' := #[.val (.ref ac), .val (.int (0 : Int32)), .val (.int (4 : Int32)), .val (.ref a96), .unset, .unset]) rfl ?_
  show Go _ _ _ _ T96 (mkF m 4 #[.val (.ref ac), .val (.int (0 : Int32)), .val (.int (4 : Int32)), .val (.ref a96), .unset, .unset] []) _ _ _
  refine Go.aloadN X96 hx (hb hby d_co4_4) rfl rfl ?_
  show Go _ _ _ _ T96 (mkF m 5 #[.val (.ref ac), .val (.int (0 : Int32)), .val (.int (4 : Int32)), .val (.ref a96), .unset, .unset] [(.ref ac)]) _ _ _
  refine Go.iloadN X96 hx (hb hby d_co4_5) rfl ?_
  show Go _ _ _ _ T96 (mkF m 6 #[.val (.ref ac), .val (.int (0 : Int32)), .val (.int (4 : Int32)), .val (.ref a96), .unset, .unset] [(.int (0 : Int32)), (.ref ac)]) _ _ _
  refine Go.aloadN X96 hx (hb hby d_co4_6) rfl rfl ?_
  show Go _ _ _ _ T96 (mkF m 7 #[.val (.ref ac), .val (.int (0 : Int32)), .val (.int (4 : Int32)), .val (.ref a96), .unset, .unset] [(.ref a96), (.int (0 : Int32)), (.ref ac)]) _ _ _
  refine Go.iconst X96 hx (hb hby d_co4_7) ?_
  show Go _ _ _ _ T96 (mkF m 8 #[.val (.ref ac), .val (.int (0 : Int32)), .val (.int (4 : Int32)), .val (.ref a96), .unset, .unset] [(.int (0 : Int32)), (.ref a96), (.int (0 : Int32)), (.ref ac)]) _ _ _
  refine Go.iloadN X96 hx (hb hby d_co4_8) rfl ?_
  show Go _ _ _ _ T96 (mkF m 9 #[.val (.ref ac), .val (.int (0 : Int32)), .val (.int (4 : Int32)), .val (.ref a96), .unset, .unset] [(.int (4 : Int32)), (.int (0 : Int32)), (.ref a96), (.int (0 : Int32)), (.ref ac)]) _ _ _
  refine Go.callS (W := 0) (argsL := [(.ref ac), (.int (0 : Int32)), (.ref a96), (.int (0 : Int32)), (.int (4 : Int32))]) (rest := []) X96 hx hZ hown (w50 hw) (w51 hw) (w48 hw) (w52 hw) (by decide) (rm_ci4 l Z a0 hw ac a96 kq k96 ((fun _ => defaultValue (newarray.typeOf .byte))) q0 q1 q2 q3 h96 n0 Z96 (Af.ext E96 f0) A96 ne_ac_a96 g_a96 f1 f2 f3 f4) e96 (lenOf pd_0 rfl) (hb hby d_co4_9) (by rw [hml]; rfl) rfl (Nat.le_of_eq rfl) (by decide) (by decide) (by decide) (by decide) ?_
  intro v97 T97 L97 X97 q97
  obtain ⟨rfl, M97, K97, P97_0⟩ := q97
  have N97 := Fr.app N0 M97
  have Z97 : n0 ≤ T97.heap.size := Nat.le_trans Z96 K97.1
  have B97 : h0.size ≤ T97.heap.size := Nat.le_trans B96 K97.1
  show Go _ _ _ _ T97 (mkF m 12 #[.val (.ref ac), .val (.int (0 : Int32)), .val (.int (4 : Int32)), .val (.ref a96), .unset, .unset] [(.int (4 : Int32))]) _ _ _
  refine Go.istore X97 hx (hb hby d_co4_12) (l' := #[.val (.ref ac), .val (.int (0 : Int32)), .val (.int (4 : Int32)), .val (.ref a96), .val (.int (4 : Int32)), .unset]) rfl ?_
  show Go _ _ _ _ T97 (mkF m 14 #[.val (.ref ac), .val (.int (0 : Int32)), .val (.int (4 : Int32)), .val (.ref a96), .val (.int (4 : Int32)), .unset] []) _ _ _
  refine Go.iload X97 hx (hb hby d_co4_14) rfl ?_
  show Go _ _ _ _ T97 (mkF m 16 #[.val (.ref ac), .val (.int (0 : Int32)), .val (.int (4 : Int32)), .val (.ref a96), .val (.int (4 : Int32)), .unset] [(.int (4 : Int32))]) _ _ _
  refine Go.iloadN X97 hx (hb hby d_co4_16) rfl ?_
  show Go _ _ _ _ T97 (mkF m 17 #[.val (.ref ac), .val (.int (0 : Int32)), .val (.int (4 : Int32)), .val (.ref a96), .val (.int (4 : Int32)), .unset] [(.int (4 : Int32)), (.int (4 : Int32))]) _ _ _
  refine Go.icmpYes X97 hx (hb hby d_co4_17) (XT.ii_eq_t (by decide)) (pc' := 57) (by decide) (by decide) ?_
  show Go _ _ _ _ T97 (mkF m 57 #[.val (.ref ac), .val (.int (0 : Int32)), .val (.int (4 : Int32)), .val (.ref a96), .val (.int (4 : Int32)), .unset] []) _ _ _
  refine Go.aloadN X97 hx (hb hby d_co4_57) rfl rfl ?_
  show Go _ _ _ _ T97 (mkF m 58 #[.val (.ref ac), .val (.int (0 : Int32)), .val (.int (4 : Int32)), .val (.ref a96), .val (.int (4 : Int32)), .unset] [(.ref a96)]) _ _ _
  refine Go.retR X97 hx hlk hret rfl rfl (hb hby d_co4_58) (by decide) (by decide) ?_
  exact ⟨a96, k96, rfl, N97, (Keep.trans (Keep.ext (Keep.refl _ _) E96) K97 (allS (Or.inr y_a96) all0)), g_a96, y_a96, P97_0⟩
def Q_cf4 (Z : State) (ab : Addr) (kb : ClassId) (fb : Nat → Value) (h0 : Heap) (n0 : Nat) (v : Option Value) (h : Heap) (L : List Loc) : Prop := v = some (.int (0 : Int32)) ∧ Fr n0 L ∧ h = h0
theorem ef_cf4 (m : MethodId) (x0 : Addr) (x1 : Int32) : entryFrame m #[(.ref x0), (.int x1)] 2 = mkF m 0 #[.val (.ref x0), .val (.int x1)] [] := by first | (simp [entryFrame, mkF, argsToLocals, Value.category]; done) | rfl
set_option maxRecDepth 65536 in
set_option maxHeartbeats 40000000 in
theorem rm_cf4 (l : Launch) (Z : State) (a0 : Array Value) (hw : ∀ d ∈ tables_1, d.before a0 Z = true) (ab : Addr) (kb : ClassId) (fb : Nat → Value) (h0 : Heap) (n0 : Nat) (Z0 : n0 ≤ h0.size) (f0 : Af Z h0 ab kb .byte 4 (fb)) :
    Met l Z (⟨"java/lang/StringUTF16", "coderFromArrayLen", "([BI)B"⟩ : MethodName) jdk_52_method_15_code 2 (Option.some Jvm.ClassFile.FieldType.byte) [] ({ frames := 0, cells := 0, slots := 0, locals := 0 } : Room) #[(.ref ab), (.int (4 : Int32))] h0 (Q_cf4 Z ab kb fb h0 n0) := by
  refine Met.of (plainFor_of_name pn_cf4) ?_
  intro p e s m below meth c s₁ X0 hx hby hml hZ hown hnm e0 hret hlk
  refine Go.cast (ef_cf4 m ab ((4 : Int32))) ?_
  show Go _ _ _ _ s₁ (mkF m 0 #[.val (.ref ab), .val (.int (4 : Int32))] []) _ _ _
  have N0 := Fr.nil n0
  refine Go.iloadN X0 hx (hb hby d_cf4_0) rfl ?_
  show Go _ _ _ _ s₁ (mkF m 1 #[.val (.ref ab), .val (.int (4 : Int32))] [(.int (4 : Int32))]) _ _ _
  refine Go.aloadN X0 hx (hb hby d_cf4_1) rfl rfl ?_
  show Go _ _ _ _ s₁ (mkF m 2 #[.val (.ref ab), .val (.int (4 : Int32))] [(.ref ab), (.int (4 : Int32))]) _ _ _
  refine Go.alen X0 hx hZ e0 f0 (hb hby d_cf4_2) ?_
  show Go _ _ _ _ s₁ (mkF m 3 #[.val (.ref ab), .val (.int (4 : Int32))] [(.int (4 : Int32)), (.int (4 : Int32))]) _ _ _
  refine Go.isub X0 hx (hb hby d_cf4_3) ?_
  show Go _ _ _ _ s₁ (mkF m 4 #[.val (.ref ab), .val (.int (4 : Int32))] [(.int (0 : Int32))]) _ _ _
  refine Go.bipush X0 hx (hb hby d_cf4_4) ?_
  show Go _ _ _ _ s₁ (mkF m 6 #[.val (.ref ab), .val (.int (4 : Int32))] [(.int (31 : Int32)), (.int (0 : Int32))]) _ _ _
  refine Go.iushr X0 hx (hb hby d_cf4_6) ?_
  show Go _ _ _ _ s₁ (mkF m 7 #[.val (.ref ab), .val (.int (4 : Int32))] [(.int (0 : Int32))]) _ _ _
  refine Go.i2b X0 hx (hb hby d_cf4_7) ?_
  show Go _ _ _ _ s₁ (mkF m 8 #[.val (.ref ab), .val (.int (4 : Int32))] [(.int (0 : Int32))]) _ _ _
  refine Go.retV X0 hx hlk hret rfl (Or.inl ⟨rfl, Or.inr (Or.inr (Or.inl rfl)), _, rfl⟩) (hb hby d_cf4_8) (by decide) (by decide) ?_
  rw [e0]
  exact ⟨rfl, N0, rfl⟩
def Q_is4 (Z : State) (a : Addr) (ac : Addr) (kq : ClassId) (cs : Int32) (q0 : Int32) (q1 : Int32) (q2 : Int32) (q3 : Int32) (h0 : Heap) (n0 : Nat) (v : Option Value) (h : Heap) (L : List Loc) : Prop := ∃ (bx : Addr) (kx : ClassId), v = none ∧ Fr n0 L ∧ Keep h0 h [a] ∧ Exa Z h a "java/lang/String" ∧ Fld Z h a "java/lang/String" "value" "[B" (.ref bx) ∧ Fld Z h a "java/lang/String" "coder" "B" (.int (0 : Int32)) ∧ Af Z h bx kx .byte 4 (fun i => Value.int ((updI (updI (updI (updI (fun _ => (0 : Int32)) 0 (bz q0)) 1 (bz q1)) 2 (bz q2)) 3 (bz q3)) i))
theorem ef_is4 (m : MethodId) (x0 : Addr) (x1 : Addr) (x2 : Int32) (x3 : Int32) : entryFrame m #[(.ref x0), (.ref x1), (.int x2), (.int x3), .null] 6 = mkF m 0 #[.val (.ref x0), .val (.ref x1), .val (.int x2), .val (.int x3), .val .null, .unset] [] := by first | (simp [entryFrame, mkF, argsToLocals, Value.category]; done) | rfl
set_option maxRecDepth 65536 in
set_option maxHeartbeats 40000000 in
theorem rm_is4 (l : Launch) (Z : State) (a0 : Array Value) (hw : ∀ d ∈ tables_1, d.before a0 Z = true) (a : Addr) (ac : Addr) (kq : ClassId) (cs : Int32) (q0 : Int32) (q1 : Int32) (q2 : Int32) (q3 : Int32) (h0 : Heap) (n0 : Nat) (Z0 : n0 ≤ h0.size) (f0 : Exa Z h0 a "java/lang/String") (f1 : n0 ≤ a) (f2 : Fld Z h0 a "java/lang/String" "value" "[B" .null) (f3 : Fld Z h0 a "java/lang/String" "coder" "B" (.int (0 : Int32))) (f4 : a ≠ ac) (f5 : Af Z h0 ac kq .char 4 (fun i => Value.int ((updI (updI (updI (updI (fun _ => (0 : Int32)) 0 q0) 1 q1) 2 q2) 3 q3) i))) (f6 : Sta Z h0 "java/lang/String" "COMPACT_STRINGS" "Z" (.int cs)) (f7 : ¬ cs = (0 : Int32)) (f8 : 0 ≤ q0.toInt ∧ q0.toInt ≤ 255) (f9 : 0 ≤ q1.toInt ∧ q1.toInt ≤ 255) (f10 : 0 ≤ q2.toInt ∧ q2.toInt ≤ 255) (f11 : 0 ≤ q3.toInt ∧ q3.toInt ≤ 255) :
    Met l Z (⟨"java/lang/String", "<init>", "([CIILjava/lang/Void;)V"⟩ : MethodName) jdk_42_method_149_code 6 none [] ({ frames := 2, cells := 1, slots := 4, locals := 35 } : Room) #[(.ref a), (.ref ac), (.int (0 : Int32)), (.int (4 : Int32)), .null] h0 (Q_is4 Z a ac kq cs q0 q1 q2 q3 h0 n0) := by
  refine Met.of (plainFor_of_name pn_is4) ?_
  intro p e s m below meth c s₁ X0 hx hby hml hZ hown hnm e0 hret hlk
  refine Go.cast (ef_is4 m a ac ((0 : Int32)) ((4 : Int32))) ?_
  show Go _ _ _ _ s₁ (mkF m 0 #[.val (.ref a), .val (.ref ac), .val (.int (0 : Int32)), .val (.int (4 : Int32)), .val .null, .unset] []) _ _ _
  have N0 := Fr.nil n0
  refine Go.aloadN X0 hx (hb hby d_is4_0) rfl rfl ?_
  show Go _ _ _ _ s₁ (mkF m 1 #[.val (.ref a), .val (.ref ac), .val (.int (0 : Int32)), .val (.int (4 : Int32)), .val .null, .unset] [(.ref a)]) _ _ _
  refine Go.initO (W := 0) X0 hx hZ hown (w19 hw) (w20 hw) (w21 hw) e0 (hb hby d_is4_1) (by rw [hml]; rfl) (Nat.le_of_eq rfl) (by decide) (by decide) ?_
  intro T98 X98 e98
  show Go _ _ _ _ T98 (mkF m 4 #[.val (.ref a), .val (.ref ac), .val (.int (0 : Int32)), .val (.int (4 : Int32)), .val .null, .unset] []) _ _ _
  refine Go.iloadN X98 hx (hb hby d_is4_4) rfl ?_
  show Go _ _ _ _ T98 (mkF m 5 #[.val (.ref a), .val (.ref ac), .val (.int (0 : Int32)), .val (.int (4 : Int32)), .val .null, .unset] [(.int (4 : Int32))]) _ _ _
  refine Go.ifYes X98 hx (hb hby d_is4_5) (XT.i0_ne_t (by decide)) (pc' := 27) (by decide) (by decide) ?_
  show Go _ _ _ _ T98 (mkF m 27 #[.val (.ref a), .val (.ref ac), .val (.int (0 : Int32)), .val (.int (4 : Int32)), .val .null, .unset] []) _ _ _
  refine Go.getS X98 hx hZ hown (w41 hw) Via.refl e98 f6 (hb hby d_is4_27) ?_
  intro T99 X99 e99
  show Go _ _ _ _ T99 (mkF m 30 #[.val (.ref a), .val (.ref ac), .val (.int (0 : Int32)), .val (.int (4 : Int32)), .val .null, .unset] [(.int cs)]) _ _ _
  refine Go.ifNo X99 hx (hb hby d_is4_30) (XT.i0_eq_f f7) ?_
  show Go _ _ _ _ T99 (mkF m 33 #[.val (.ref a), .val (.ref ac), .val (.int (0 : Int32)), .val (.int (4 : Int32)), .val .null, .unset] []) _ _ _
  refine Go.aloadN X99 hx (hb hby d_is4_33) rfl rfl ?_
  show Go _ _ _ _ T99 (mkF m 34 #[.val (.ref a), .val (.ref ac), .val (.int (0 : Int32)), .val (.int (4 : Int32)), .val .null, .unset] [(.ref ac)]) _ _ _
  refine Go.iloadN X99 hx (hb hby d_is4_34) rfl ?_
  show Go _ _ _ _ T99 (mkF m 35 #[.val (.ref a), .val (.ref ac), .val (.int (0 : Int32)), .val (.int (4 : Int32)), .val .null, .unset] [(.int (0 : Int32)), (.ref ac)]) _ _ _
  refine Go.iloadN X99 hx (hb hby d_is4_35) rfl ?_
  show Go _ _ _ _ T99 (mkF m 36 #[.val (.ref a), .val (.ref ac), .val (.int (0 : Int32)), .val (.int (4 : Int32)), .val .null, .unset] [(.int (4 : Int32)), (.int (0 : Int32)), (.ref ac)]) _ _ _
  refine Go.callS (W := 0) (argsL := [(.ref ac), (.int (0 : Int32)), (.int (4 : Int32))]) (rest := []) X99 hx hZ hown (w46 hw) (w47 hw) (w48 hw) (w49 hw) (by decide) (rm_co4 l Z a0 hw ac kq q0 q1 q2 q3 h0 n0 Z0 f5 f8 f9 f10 f11) e99 (lenOf pd_1 rfl) (hb hby d_is4_36) (by rw [hml]; rfl) rfl (Nat.le_of_eq rfl) (by decide) (by decide) (by decide) (by decide) ?_
  intro v100 T100 L100 X100 q100
  obtain ⟨r100, kr100, rfl, M100, K100, P100_0, P100_1, P100_2⟩ := q100
  have N100 := Fr.app N0 M100
  have Z100 : n0 ≤ T100.heap.size := Nat.le_trans Z0 K100.1
  have B100 : h0.size ≤ T100.heap.size := Nat.le_trans (Nat.le_refl _) K100.1
  have ne_a_r100 : a ≠ r100 := Nat.ne_of_lt (Nat.lt_of_lt_of_le (f0).lt P100_1)
  have ne_ac_r100 : ac ≠ r100 := Nat.ne_of_lt (Nat.lt_of_lt_of_le (f5).lt P100_1)
  show Go _ _ _ _ T100 (mkF m 39 #[.val (.ref a), .val (.ref ac), .val (.int (0 : Int32)), .val (.int (4 : Int32)), .val .null, .unset] [(.ref r100)]) _ _ _
  refine Go.astore X100 hx (hb hby d_is4_39) rfl (l' := #[.val (.ref a), .val (.ref ac), .val (.int (0 : Int32)), .val (.int (4 : Int32)), .val .null, .val (.ref r100)]) rfl ?_
  show Go _ _ _ _ T100 (mkF m 41 #[.val (.ref a), .val (.ref ac), .val (.int (0 : Int32)), .val (.int (4 : Int32)), .val .null, .val (.ref r100)] []) _ _ _
  refine Go.aloadN X100 hx (hb hby d_is4_41) rfl rfl ?_
  show Go _ _ _ _ T100 (mkF m 42 #[.val (.ref a), .val (.ref ac), .val (.int (0 : Int32)), .val (.int (4 : Int32)), .val .null, .val (.ref r100)] [(.ref a)]) _ _ _
  refine Go.aload X100 hx (hb hby d_is4_42) rfl rfl ?_
  show Go _ _ _ _ T100 (mkF m 44 #[.val (.ref a), .val (.ref ac), .val (.int (0 : Int32)), .val (.int (4 : Int32)), .val .null, .val (.ref r100)] [(.ref r100), (.ref a)]) _ _ _
  refine Go.iloadN X100 hx (hb hby d_is4_44) rfl ?_
  show Go _ _ _ _ T100 (mkF m 45 #[.val (.ref a), .val (.ref ac), .val (.int (0 : Int32)), .val (.int (4 : Int32)), .val .null, .val (.ref r100)] [(.int (4 : Int32)), (.ref r100), (.ref a)]) _ _ _
  refine Go.callS (W := 1) (argsL := [(.ref r100), (.int (4 : Int32))]) (rest := [(.ref a)]) X100 hx hZ hown (w53 hw) (w54 hw) (w48 hw) (w55 hw) (by decide) (rm_cf4 l Z a0 hw r100 kr100 ((fun i => Value.int ((updI (updI (updI (updI (fun _ => (0 : Int32)) 0 (bz q0)) 1 (bz q1)) 2 (bz q2)) 3 (bz q3)) i))) T100.heap n0 Z100 P100_2) rfl (lenOf pd_2 rfl) (hb hby d_is4_45) (by rw [hml]; rfl) rfl (Nat.le_of_eq rfl) (by decide) (by decide) (by decide) (by decide) ?_
  intro v101 T101 L101 X101 q101
  obtain ⟨rfl, M101, e101⟩ := q101
  have N101 := Fr.app N100 M101
  show Go _ _ _ _ T101 (mkF m 48 #[.val (.ref a), .val (.ref ac), .val (.int (0 : Int32)), .val (.int (4 : Int32)), .val .null, .val (.ref r100)] [(.int (0 : Int32)), (.ref a)]) _ _ _
  refine Go.putF X101 hx hZ hown (w29 hw) Via.refl e101 (Fld.keep f3 K100 nin0) (Exa.keep f0 K100) (Or.inr ⟨(w25 hw), rfl, hnm⟩) (w9 hw) (ty := .byte) (by decide) rfl rfl (hb hby d_is4_48) ?_
  intro T102 h102 X102 e102 W102
  have N102 := Fr.snoc X102 N101 f1
  have Z102 : n0 ≤ h102.size := by rw [Wr.size W102]; exact Z100
  have B102 : h0.size ≤ h102.size := by rw [Wr.size W102]; exact B100
  show Go _ _ _ _ T102 (mkF m 51 #[.val (.ref a), .val (.ref ac), .val (.int (0 : Int32)), .val (.int (4 : Int32)), .val .null, .val (.ref r100)] []) _ _ _
  refine Go.aloadN X102 hx (hb hby d_is4_51) rfl rfl ?_
  show Go _ _ _ _ T102 (mkF m 52 #[.val (.ref a), .val (.ref ac), .val (.int (0 : Int32)), .val (.int (4 : Int32)), .val .null, .val (.ref r100)] [(.ref a)]) _ _ _
  refine Go.aload X102 hx (hb hby d_is4_52) rfl rfl ?_
  show Go _ _ _ _ T102 (mkF m 54 #[.val (.ref a), .val (.ref ac), .val (.int (0 : Int32)), .val (.int (4 : Int32)), .val .null, .val (.ref r100)] [(.ref r100), (.ref a)]) _ _ _
  have F103 := (Fld.other W102 (Fld.keep f2 K100 nin0) (Or.inr (slot_ne (a0 := a0) (Or.inr (w24 hw)) (Or.inr (w25 hw)) (t := (.array .byte)) (t' := .byte) (by decide) (by decide) (by decide))))
  refine Go.putF X102 hx hZ hown (w28 hw) Via.refl e102 F103 (Exa.wr W102 (Exa.keep f0 K100)) (Or.inr ⟨(w24 hw), rfl, hnm⟩) (w9 hw) (ty := (.array .byte)) (by decide) rfl rfl (hb hby d_is4_54) ?_
  intro T104 h104 X104 e104 W104
  have N104 := Fr.snoc X104 N102 f1
  have Z104 : n0 ≤ h104.size := by rw [Wr.size W104]; exact Z102
  have B104 : h0.size ≤ h104.size := by rw [Wr.size W104]; exact B102
  show Go _ _ _ _ T104 (mkF m 57 #[.val (.ref a), .val (.ref ac), .val (.int (0 : Int32)), .val (.int (4 : Int32)), .val .null, .val (.ref r100)] []) _ _ _
  refine Go.ret0 X104 hx hlk hret (hb hby d_is4_57) (by decide) (by decide) ?_
  rw [e104]
  have F105 := (Exa.wr W104 (Exa.wr W102 (Exa.keep f0 K100)))
  have F106 := (Fld.other W104 (Fld.same W102 (Fld.keep f3 K100 nin0)) (Or.inr (slot_ne (a0 := a0) (Or.inr (w25 hw)) (Or.inr (w24 hw)) (t := .byte) (t' := (.array .byte)) (by decide) (by decide) (by decide))))
  have F107 := (Af.other W104 (Af.other W102 P100_2 (Ne.symm ne_a_r100)) (Ne.symm ne_a_r100))
  exact ⟨r100, kr100, rfl, N104, (Keep.wr (Keep.wr (Keep.trans (Keep.refl _ _) K100 all0) W102 (Or.inl (List.mem_of_getElem? (i := 0) rfl))) W104 (Or.inl (List.mem_of_getElem? (i := 0) rfl))), F105, (Fld.same W104 F103), F106, F107⟩
def Q_ia4 (Z : State) (a : Addr) (ac : Addr) (kq : ClassId) (cs : Int32) (q0 : Int32) (q1 : Int32) (q2 : Int32) (q3 : Int32) (h0 : Heap) (n0 : Nat) (v : Option Value) (h : Heap) (L : List Loc) : Prop := ∃ (bx : Addr) (kx : ClassId), v = none ∧ Fr n0 L ∧ Keep h0 h [a] ∧ Exa Z h a "java/lang/String" ∧ Fld Z h a "java/lang/String" "value" "[B" (.ref bx) ∧ Fld Z h a "java/lang/String" "coder" "B" (.int (0 : Int32)) ∧ Af Z h bx kx .byte 4 (fun i => Value.int ((updI (updI (updI (updI (fun _ => (0 : Int32)) 0 (bz q0)) 1 (bz q1)) 2 (bz q2)) 3 (bz q3)) i))
theorem ef_ia4 (m : MethodId) (x0 : Addr) (x1 : Addr) : entryFrame m #[(.ref x0), (.ref x1)] 2 = mkF m 0 #[.val (.ref x0), .val (.ref x1)] [] := by first | (simp [entryFrame, mkF, argsToLocals, Value.category]; done) | rfl
set_option maxRecDepth 65536 in
set_option maxHeartbeats 40000000 in
theorem rm_ia4 (l : Launch) (Z : State) (a0 : Array Value) (hw : ∀ d ∈ tables_1, d.before a0 Z = true) (a : Addr) (ac : Addr) (kq : ClassId) (cs : Int32) (q0 : Int32) (q1 : Int32) (q2 : Int32) (q3 : Int32) (h0 : Heap) (n0 : Nat) (Z0 : n0 ≤ h0.size) (f0 : Exa Z h0 a "java/lang/String") (f1 : n0 ≤ a) (f2 : Fld Z h0 a "java/lang/String" "value" "[B" .null) (f3 : Fld Z h0 a "java/lang/String" "coder" "B" (.int (0 : Int32))) (f4 : a ≠ ac) (f5 : Af Z h0 ac kq .char 4 (fun i => Value.int ((updI (updI (updI (updI (fun _ => (0 : Int32)) 0 q0) 1 q1) 2 q2) 3 q3) i))) (f6 : Sta Z h0 "java/lang/String" "COMPACT_STRINGS" "Z" (.int cs)) (f7 : ¬ cs = (0 : Int32)) (f8 : 0 ≤ q0.toInt ∧ q0.toInt ≤ 255) (f9 : 0 ≤ q1.toInt ∧ q1.toInt ≤ 255) (f10 : 0 ≤ q2.toInt ∧ q2.toInt ≤ 255) (f11 : 0 ≤ q3.toInt ∧ q3.toInt ≤ 255) :
    Met l Z (⟨"java/lang/String", "<init>", "([C)V"⟩ : MethodName) jdk_42_method_3_code 2 none [] ({ frames := 3, cells := 1, slots := 4, locals := 52 } : Room) #[(.ref a), (.ref ac)] h0 (Q_ia4 Z a ac kq cs q0 q1 q2 q3 h0 n0) := by
  refine Met.of (plainFor_of_name pn_ia4) ?_
  intro p e s m below meth c s₁ X0 hx hby hml hZ hown hnm e0 hret hlk
  refine Go.cast (ef_ia4 m a ac) ?_
  show Go _ _ _ _ s₁ (mkF m 0 #[.val (.ref a), .val (.ref ac)] []) _ _ _
  have N0 := Fr.nil n0
  refine Go.aloadN X0 hx (hb hby d_ia4_0) rfl rfl ?_
  show Go _ _ _ _ s₁ (mkF m 1 #[.val (.ref a), .val (.ref ac)] [(.ref a)]) _ _ _
  refine Go.aloadN X0 hx (hb hby d_ia4_1) rfl rfl ?_
  show Go _ _ _ _ s₁ (mkF m 2 #[.val (.ref a), .val (.ref ac)] [(.ref ac), (.ref a)]) _ _ _
  refine Go.iconst X0 hx (hb hby d_ia4_2) ?_
  show Go _ _ _ _ s₁ (mkF m 3 #[.val (.ref a), .val (.ref ac)] [(.int (0 : Int32)), (.ref ac), (.ref a)]) _ _ _
  refine Go.aloadN X0 hx (hb hby d_ia4_3) rfl rfl ?_
  show Go _ _ _ _ s₁ (mkF m 4 #[.val (.ref a), .val (.ref ac)] [(.ref ac), (.int (0 : Int32)), (.ref ac), (.ref a)]) _ _ _
  refine Go.alen X0 hx hZ e0 f5 (hb hby d_ia4_4) ?_
  show Go _ _ _ _ s₁ (mkF m 5 #[.val (.ref a), .val (.ref ac)] [(.int (4 : Int32)), (.int (0 : Int32)), (.ref ac), (.ref a)]) _ _ _
  refine Go.aconst_null X0 hx (hb hby d_ia4_5) ?_
  show Go _ _ _ _ s₁ (mkF m 6 #[.val (.ref a), .val (.ref ac)] [.null, (.int (4 : Int32)), (.int (0 : Int32)), (.ref ac), (.ref a)]) _ _ _
  refine Go.callI (W := 0) (a := a) (argsL := [(.ref ac), (.int (0 : Int32)), (.int (4 : Int32)), .null]) (rest := []) X0 hx hZ hown rfl (w15 hw) (w16 hw) (w10 hw) (w18 hw) (by decide) (rm_is4 l Z a0 hw a ac kq cs q0 q1 q2 q3 h0 n0 Z0 f0 f1 f2 f3 f4 f5 f6 f7 f8 f9 f10 f11) e0 (lenOf pd_3 rfl) (hb hby d_ia4_6) (by rw [hml]; rfl) rfl (Nat.le_of_eq rfl) (by decide) (by decide) (by decide) (by decide) ?_
  intro v108 T108 L108 X108 q108
  obtain ⟨bx108, kx108, rfl, M108, K108, P108_0, P108_1, P108_2, P108_3⟩ := q108
  have N108 := Fr.app N0 M108
  have Z108 : n0 ≤ T108.heap.size := Nat.le_trans Z0 K108.1
  have B108 : h0.size ≤ T108.heap.size := Nat.le_trans (Nat.le_refl _) K108.1
  show Go _ _ _ _ T108 (mkF m 9 #[.val (.ref a), .val (.ref ac)] []) _ _ _
  refine Go.ret0 X108 hx hlk hret (hb hby d_ia4_9) (by decide) (by decide) ?_
  exact ⟨bx108, kx108, rfl, N108, (Keep.trans (Keep.refl _ _) K108 (allS (Or.inl (List.mem_of_getElem? (i := 0) rfl)) all0)), P108_0, P108_1, P108_2, P108_3⟩
def Q_mk4 (Z : State) (c0 : Int32) (c1 : Int32) (c2 : Int32) (c3 : Int32) (cs : Int32) (h0 : Heap) (n0 : Nat) (v : Option Value) (h : Heap) (L : List Loc) : Prop := ∃ (xa : Addr) (bx : Addr) (kx : ClassId), v = some (.ref xa) ∧ Fr n0 L ∧ Keep h0 h [] ∧ n0 ≤ xa ∧ Exa Z h xa "java/lang/String" ∧ Fld Z h xa "java/lang/String" "value" "[B" (.ref bx) ∧ Fld Z h xa "java/lang/String" "coder" "B" (.int (0 : Int32)) ∧ Af Z h bx kx .byte 4 (fun i => Value.int ((updI (updI (updI (updI (fun _ => (0 : Int32)) 0 (bz c0)) 1 (bz c1)) 2 (bz c2)) 3 (bz c3)) i))
theorem ef_mk4 (m : MethodId) (x0 : Int32) (x1 : Int32) (x2 : Int32) (x3 : Int32) (x4 : Int32) : entryFrame m #[(.int x0), (.int x1), (.int x2), (.int x3), (.int x4)] 5 = mkF m 0 #[.val (.int x0), .val (.int x1), .val (.int x2), .val (.int x3), .val (.int x4)] [] := by first | (simp [entryFrame, mkF, argsToLocals, Value.category]; done) | rfl
set_option maxRecDepth 65536 in
set_option maxHeartbeats 40000000 in
theorem rm_mk4 (l : Launch) (Z : State) (a0 : Array Value) (hw : ∀ d ∈ tables_1, d.before a0 Z = true) (c0 : Int32) (c1 : Int32) (c2 : Int32) (c3 : Int32) (cs : Int32) (h0 : Heap) (n0 : Nat) (Z0 : n0 ≤ h0.size) (f0 : Sta Z h0 "java/lang/String" "COMPACT_STRINGS" "Z" (.int cs)) (f1 : ¬ cs = (0 : Int32)) (f2 : 0 ≤ c0.toInt ∧ c0.toInt ≤ 255) (f3 : 0 ≤ c1.toInt ∧ c1.toInt ≤ 255) (f4 : 0 ≤ c2.toInt ∧ c2.toInt ≤ 255) (f5 : 0 ≤ c3.toInt ∧ c3.toInt ≤ 255) :
    Met l Z (⟨"com/example/trilatch/trilatch/http/TlsPolicyHandshakesWithPinLaw", "make", "(ICCCC)Ljava/lang/String;"⟩ : MethodName) method_4_code 5 (Option.some (Jvm.ClassFile.FieldType.object "java/lang/String")) [] ({ frames := 4, cells := 3, slots := 12, locals := 66 } : Room) #[(.int (4 : Int32)), (.int c0), (.int c1), (.int c2), (.int c3)] h0 (Q_mk4 Z c0 c1 c2 c3 cs h0 n0) := by
  refine Met.of (plainFor_of_name pn_mk4) ?_
  intro p e s m below meth c s₁ X0 hx hby hml hZ hown hnm e0 hret hlk
  refine Go.cast (ef_mk4 m ((4 : Int32)) c0 c1 c2 c3) ?_
  show Go _ _ _ _ s₁ (mkF m 0 #[.val (.int (4 : Int32)), .val (.int c0), .val (.int c1), .val (.int c2), .val (.int c3)] []) _ _ _
  have N0 := Fr.nil n0
  refine Go.iloadN X0 hx (hb hby d_mk4_0) rfl ?_
  show Go _ _ _ _ s₁ (mkF m 1 #[.val (.int (4 : Int32)), .val (.int c0), .val (.int c1), .val (.int c2), .val (.int c3)] [(.int (4 : Int32))]) _ _ _
  refine Go.ifYes X0 hx (hb hby d_mk4_1) (XT.i0_ne_t (by decide)) (pc' := 15) (by decide) (by decide) ?_
  show Go _ _ _ _ s₁ (mkF m 15 #[.val (.int (4 : Int32)), .val (.int c0), .val (.int c1), .val (.int c2), .val (.int c3)] []) _ _ _
  refine Go.iloadN X0 hx (hb hby d_mk4_15) rfl ?_
  show Go _ _ _ _ s₁ (mkF m 16 #[.val (.int (4 : Int32)), .val (.int c0), .val (.int c1), .val (.int c2), .val (.int c3)] [(.int (4 : Int32))]) _ _ _
  refine Go.iconst X0 hx (hb hby d_mk4_16) ?_
  show Go _ _ _ _ s₁ (mkF m 17 #[.val (.int (4 : Int32)), .val (.int c0), .val (.int c1), .val (.int c2), .val (.int c3)] [(.int (1 : Int32)), (.int (4 : Int32))]) _ _ _
  refine Go.icmpYes X0 hx (hb hby d_mk4_17) (XT.ii_ne_t (by decide)) (pc' := 35) (by decide) (by decide) ?_
  show Go _ _ _ _ s₁ (mkF m 35 #[.val (.int (4 : Int32)), .val (.int c0), .val (.int c1), .val (.int c2), .val (.int c3)] []) _ _ _
  refine Go.iloadN X0 hx (hb hby d_mk4_35) rfl ?_
  show Go _ _ _ _ s₁ (mkF m 36 #[.val (.int (4 : Int32)), .val (.int c0), .val (.int c1), .val (.int c2), .val (.int c3)] [(.int (4 : Int32))]) _ _ _
  refine Go.iconst X0 hx (hb hby d_mk4_36) ?_
  show Go _ _ _ _ s₁ (mkF m 37 #[.val (.int (4 : Int32)), .val (.int c0), .val (.int c1), .val (.int c2), .val (.int c3)] [(.int (2 : Int32)), (.int (4 : Int32))]) _ _ _
  refine Go.icmpYes X0 hx (hb hby d_mk4_37) (XT.ii_ne_t (by decide)) (pc' := 59) (by decide) (by decide) ?_
  show Go _ _ _ _ s₁ (mkF m 59 #[.val (.int (4 : Int32)), .val (.int c0), .val (.int c1), .val (.int c2), .val (.int c3)] []) _ _ _
  refine Go.iloadN X0 hx (hb hby d_mk4_59) rfl ?_
  show Go _ _ _ _ s₁ (mkF m 60 #[.val (.int (4 : Int32)), .val (.int c0), .val (.int c1), .val (.int c2), .val (.int c3)] [(.int (4 : Int32))]) _ _ _
  refine Go.iconst X0 hx (hb hby d_mk4_60) ?_
  show Go _ _ _ _ s₁ (mkF m 61 #[.val (.int (4 : Int32)), .val (.int c0), .val (.int c1), .val (.int c2), .val (.int c3)] [(.int (3 : Int32)), (.int (4 : Int32))]) _ _ _
  refine Go.icmpYes X0 hx (hb hby d_mk4_61) (XT.ii_ne_t (by decide)) (pc' := 87) (by decide) (by decide) ?_
  show Go _ _ _ _ s₁ (mkF m 87 #[.val (.int (4 : Int32)), .val (.int c0), .val (.int c1), .val (.int c2), .val (.int c3)] []) _ _ _
  refine Go.newO X0 hx hZ hown (w8 hw) (w9 hw) (w10 hw) e0 (hb hby d_mk4_87) (by decide) (by decide) ?_
  intro T109 h109 a109 b109 X109 e109 E109 A109 D109
  have g_a109 : n0 ≤ a109 := by rw [b109]; exact Z0
  have y_a109 : h0.size ≤ a109 := by rw [b109]; exact (Nat.le_refl _)
  have Z109 : n0 ≤ h109.size := Nat.le_trans Z0 E109.1
  have B109 : h0.size ≤ h109.size := Nat.le_trans (Nat.le_refl _) E109.1
  show Go _ _ _ _ T109 (mkF m 90 #[.val (.int (4 : Int32)), .val (.int c0), .val (.int c1), .val (.int c2), .val (.int c3)] [(.ref a109)]) _ _ _
  refine Go.dup X109 hx (hb hby d_mk4_90) rfl ?_
  show Go _ _ _ _ T109 (mkF m 91 #[.val (.int (4 : Int32)), .val (.int c0), .val (.int c1), .val (.int c2), .val (.int c3)] [(.ref a109), (.ref a109)]) _ _ _
  refine Go.iconst X109 hx (hb hby d_mk4_91) ?_
  show Go _ _ _ _ T109 (mkF m 92 #[.val (.int (4 : Int32)), .val (.int c0), .val (.int c1), .val (.int c2), .val (.int c3)] [(.int (4 : Int32)), (.ref a109), (.ref a109)]) _ _ _
  refine Go.newarray (aty := .char) (cap := 4) X109 hx hZ (w11 hw) e109 (hb hby d_mk4_92) (by decide) (by decide) (by decide) (by decide) (by decide) ?_
  intro T110 h110 a110 k110 b110 X110 e110 E110 A110
  have g_a110 : n0 ≤ a110 := by rw [b110]; exact Z109
  have y_a110 : h0.size ≤ a110 := by rw [b110]; exact B109
  have ne_a109_a110 : a109 ≠ a110 := by rw [b110]; exact Nat.ne_of_lt A109.lt
  have Z110 : n0 ≤ h110.size := Nat.le_trans Z109 E110.1
  have B110 : h0.size ≤ h110.size := Nat.le_trans B109 E110.1
  show Go _ _ _ _ T110 (mkF m 94 #[.val (.int (4 : Int32)), .val (.int c0), .val (.int c1), .val (.int c2), .val (.int c3)] [(.ref a110), (.ref a109), (.ref a109)]) _ _ _
  refine Go.dup X110 hx (hb hby d_mk4_94) rfl ?_
  show Go _ _ _ _ T110 (mkF m 95 #[.val (.int (4 : Int32)), .val (.int c0), .val (.int c1), .val (.int c2), .val (.int c3)] [(.ref a110), (.ref a110), (.ref a109), (.ref a109)]) _ _ _
  refine Go.iconst X110 hx (hb hby d_mk4_95) ?_
  show Go _ _ _ _ T110 (mkF m 96 #[.val (.int (4 : Int32)), .val (.int c0), .val (.int c1), .val (.int c2), .val (.int c3)] [(.int (0 : Int32)), (.ref a110), (.ref a110), (.ref a109), (.ref a109)]) _ _ _
  refine Go.iloadN X110 hx (hb hby d_mk4_96) rfl ?_
  show Go _ _ _ _ T110 (mkF m 97 #[.val (.int (4 : Int32)), .val (.int c0), .val (.int c1), .val (.int c2), .val (.int c3)] [(.int c0), (.int (0 : Int32)), (.ref a110), (.ref a110), (.ref a109), (.ref a109)]) _ _ _
  refine Go.castore X110 hx hZ e110 A110 (by decide) (by decide) (hb hby d_mk4_97) ?_
  intro T111 h111 X111 e111 W111 A111
  have N111 := Fr.snoc X111 N0 g_a110
  have Z111 : n0 ≤ h111.size := by rw [Wr.size W111]; exact Z110
  have B111 : h0.size ≤ h111.size := by rw [Wr.size W111]; exact B110
  show Go _ _ _ _ T111 (mkF m 98 #[.val (.int (4 : Int32)), .val (.int c0), .val (.int c1), .val (.int c2), .val (.int c3)] [(.ref a110), (.ref a109), (.ref a109)]) _ _ _
  refine Go.dup X111 hx (hb hby d_mk4_98) rfl ?_
  show Go _ _ _ _ T111 (mkF m 99 #[.val (.int (4 : Int32)), .val (.int c0), .val (.int c1), .val (.int c2), .val (.int c3)] [(.ref a110), (.ref a110), (.ref a109), (.ref a109)]) _ _ _
  refine Go.iconst X111 hx (hb hby d_mk4_99) ?_
  show Go _ _ _ _ T111 (mkF m 100 #[.val (.int (4 : Int32)), .val (.int c0), .val (.int c1), .val (.int c2), .val (.int c3)] [(.int (1 : Int32)), (.ref a110), (.ref a110), (.ref a109), (.ref a109)]) _ _ _
  refine Go.iloadN X111 hx (hb hby d_mk4_100) rfl ?_
  show Go _ _ _ _ T111 (mkF m 101 #[.val (.int (4 : Int32)), .val (.int c0), .val (.int c1), .val (.int c2), .val (.int c3)] [(.int c1), (.int (1 : Int32)), (.ref a110), (.ref a110), (.ref a109), (.ref a109)]) _ _ _
  refine Go.castore X111 hx hZ e111 A111 (by decide) (by decide) (hb hby d_mk4_101) ?_
  intro T112 h112 X112 e112 W112 A112
  have N112 := Fr.snoc X112 N111 g_a110
  have Z112 : n0 ≤ h112.size := by rw [Wr.size W112]; exact Z111
  have B112 : h0.size ≤ h112.size := by rw [Wr.size W112]; exact B111
  show Go _ _ _ _ T112 (mkF m 102 #[.val (.int (4 : Int32)), .val (.int c0), .val (.int c1), .val (.int c2), .val (.int c3)] [(.ref a110), (.ref a109), (.ref a109)]) _ _ _
  refine Go.dup X112 hx (hb hby d_mk4_102) rfl ?_
  show Go _ _ _ _ T112 (mkF m 103 #[.val (.int (4 : Int32)), .val (.int c0), .val (.int c1), .val (.int c2), .val (.int c3)] [(.ref a110), (.ref a110), (.ref a109), (.ref a109)]) _ _ _
  refine Go.iconst X112 hx (hb hby d_mk4_103) ?_
  show Go _ _ _ _ T112 (mkF m 104 #[.val (.int (4 : Int32)), .val (.int c0), .val (.int c1), .val (.int c2), .val (.int c3)] [(.int (2 : Int32)), (.ref a110), (.ref a110), (.ref a109), (.ref a109)]) _ _ _
  refine Go.iloadN X112 hx (hb hby d_mk4_104) rfl ?_
  show Go _ _ _ _ T112 (mkF m 105 #[.val (.int (4 : Int32)), .val (.int c0), .val (.int c1), .val (.int c2), .val (.int c3)] [(.int c2), (.int (2 : Int32)), (.ref a110), (.ref a110), (.ref a109), (.ref a109)]) _ _ _
  refine Go.castore X112 hx hZ e112 A112 (by decide) (by decide) (hb hby d_mk4_105) ?_
  intro T113 h113 X113 e113 W113 A113
  have N113 := Fr.snoc X113 N112 g_a110
  have Z113 : n0 ≤ h113.size := by rw [Wr.size W113]; exact Z112
  have B113 : h0.size ≤ h113.size := by rw [Wr.size W113]; exact B112
  show Go _ _ _ _ T113 (mkF m 106 #[.val (.int (4 : Int32)), .val (.int c0), .val (.int c1), .val (.int c2), .val (.int c3)] [(.ref a110), (.ref a109), (.ref a109)]) _ _ _
  refine Go.dup X113 hx (hb hby d_mk4_106) rfl ?_
  show Go _ _ _ _ T113 (mkF m 107 #[.val (.int (4 : Int32)), .val (.int c0), .val (.int c1), .val (.int c2), .val (.int c3)] [(.ref a110), (.ref a110), (.ref a109), (.ref a109)]) _ _ _
  refine Go.iconst X113 hx (hb hby d_mk4_107) ?_
  show Go _ _ _ _ T113 (mkF m 108 #[.val (.int (4 : Int32)), .val (.int c0), .val (.int c1), .val (.int c2), .val (.int c3)] [(.int (3 : Int32)), (.ref a110), (.ref a110), (.ref a109), (.ref a109)]) _ _ _
  refine Go.iload X113 hx (hb hby d_mk4_108) rfl ?_
  show Go _ _ _ _ T113 (mkF m 110 #[.val (.int (4 : Int32)), .val (.int c0), .val (.int c1), .val (.int c2), .val (.int c3)] [(.int c3), (.int (3 : Int32)), (.ref a110), (.ref a110), (.ref a109), (.ref a109)]) _ _ _
  refine Go.castore X113 hx hZ e113 A113 (by decide) (by decide) (hb hby d_mk4_110) ?_
  intro T114 h114 X114 e114 W114 A114
  have N114 := Fr.snoc X114 N113 g_a110
  have Z114 : n0 ≤ h114.size := by rw [Wr.size W114]; exact Z113
  have B114 : h0.size ≤ h114.size := by rw [Wr.size W114]; exact B113
  show Go _ _ _ _ T114 (mkF m 111 #[.val (.int (4 : Int32)), .val (.int c0), .val (.int c1), .val (.int c2), .val (.int c3)] [(.ref a110), (.ref a109), (.ref a109)]) _ _ _
  have AC115 : Af Z h114 a110 k110 .char 4 (fun i => Value.int ((updI (updI (updI (updI (fun _ => (0 : Int32)) 0 c0) 1 c1) 2 c2) 3 c3) i)) := Af.congr A114 (fun i hi => by have hi' : i < 4 := hi; rcases lt_4 hi' with rfl | rfl | rfl | rfl <;> first | (simp [updI, updV, nar_c f2, nar_c f3, nar_c f4, nar_c f5]; done) | rfl)
  have F116 := (Exa.wr W114 (Exa.wr W113 (Exa.wr W112 (Exa.wr W111 (Exa.ext E110 A109)))))
  have F117 := (Fld.other W114 (Fld.other W113 (Fld.other W112 (Fld.other W111 (Fld.ext E110 (D109 (Or.inr (w24 hw)) (ty := (.array .byte)) (by decide))) (Or.inl ne_a109_a110)) (Or.inl ne_a109_a110)) (Or.inl ne_a109_a110)) (Or.inl ne_a109_a110))
  have F118 := (Fld.other W114 (Fld.other W113 (Fld.other W112 (Fld.other W111 (Fld.ext E110 (D109 (Or.inr (w25 hw)) (ty := .byte) (by decide))) (Or.inl ne_a109_a110)) (Or.inl ne_a109_a110)) (Or.inl ne_a109_a110)) (Or.inl ne_a109_a110))
  have F119 := (Sta.wr W114 (Sta.wr W113 (Sta.wr W112 (Sta.wr W111 (Sta.ext E110 (Sta.ext E109 f0))))))
  refine Go.callI (W := 1) (a := a109) (argsL := [(.ref a110)]) (rest := [(.ref a109)]) X114 hx hZ hown rfl (w12 hw) (w13 hw) (w10 hw) (w14 hw) (by decide) (rm_ia4 l Z a0 hw a109 a110 k110 cs c0 c1 c2 c3 h114 n0 Z114 F116 g_a109 F117 F118 ne_a109_a110 AC115 F119 f1 f2 f3 f4 f5) e114 (lenOf pd_4 rfl) (hb hby d_mk4_111) (by rw [hml]; rfl) rfl (Nat.le_of_eq rfl) (by decide) (by decide) (by decide) (by decide) ?_
  intro v120 T120 L120 X120 q120
  obtain ⟨bx120, kx120, rfl, M120, K120, P120_0, P120_1, P120_2, P120_3⟩ := q120
  have N120 := Fr.app N114 M120
  have Z120 : n0 ≤ T120.heap.size := Nat.le_trans Z114 K120.1
  have B120 : h0.size ≤ T120.heap.size := Nat.le_trans B114 K120.1
  show Go _ _ _ _ T120 (mkF m 114 #[.val (.int (4 : Int32)), .val (.int c0), .val (.int c1), .val (.int c2), .val (.int c3)] [(.ref a109)]) _ _ _
  refine Go.retR X120 hx hlk hret rfl rfl (hb hby d_mk4_114) (by decide) (by decide) ?_
  exact ⟨a109, bx120, kx120, rfl, N120, (Keep.trans (Keep.wr (Keep.wr (Keep.wr (Keep.wr (Keep.ext (Keep.ext (Keep.refl _ _) E109) E110) W111 (Or.inr y_a110)) W112 (Or.inr y_a110)) W113 (Or.inr y_a110)) W114 (Or.inr y_a110)) K120 (allS (Or.inr y_a109) all0)), g_a109, P120_0, P120_1, P120_2, P120_3⟩
def Q_is0 (Z : State) (a : Addr) (ac : Addr) (h0 : Heap) (n0 : Nat) (v : Option Value) (h : Heap) (L : List Loc) : Prop := ∃ (bx : Addr) (kx : ClassId), v = none ∧ Fr n0 L ∧ Keep h0 h [a] ∧ Exa Z h a "java/lang/String" ∧ Fld Z h a "java/lang/String" "value" "[B" (.ref bx) ∧ Fld Z h a "java/lang/String" "coder" "B" (.int (0 : Int32)) ∧ Af Z h bx kx .byte 0 (fun i => Value.int ((fun _ => (0 : Int32)) i))
theorem ef_is0 (m : MethodId) (x0 : Addr) (x1 : Addr) (x2 : Int32) (x3 : Int32) : entryFrame m #[(.ref x0), (.ref x1), (.int x2), (.int x3), .null] 6 = mkF m 0 #[.val (.ref x0), .val (.ref x1), .val (.int x2), .val (.int x3), .val .null, .unset] [] := by first | (simp [entryFrame, mkF, argsToLocals, Value.category]; done) | rfl
set_option maxRecDepth 65536 in
set_option maxHeartbeats 40000000 in
theorem rm_is0 (l : Launch) (Z : State) (a0 : Array Value) (hw : ∀ d ∈ tables_1, d.before a0 Z = true) (HC : Held Z a0) (a : Addr) (ac : Addr) (h0 : Heap) (n0 : Nat) (Z0 : n0 ≤ h0.size) (f0 : Exa Z h0 a "java/lang/String") (f1 : n0 ≤ a) (f2 : Fld Z h0 a "java/lang/String" "value" "[B" .null) (f3 : Fld Z h0 a "java/lang/String" "coder" "B" (.int (0 : Int32))) (f4 : Old Z n0 h0) :
    MetW l Z (⟨"java/lang/String", "<init>", "([CIILjava/lang/Void;)V"⟩ : MethodName) jdk_42_method_149_code 6 none [] ({ frames := 1, cells := 2, slots := 4, locals := 12 } : Room) #[(.ref a), (.ref ac), (.int (0 : Int32)), (.int (0 : Int32)), .null] h0 [] [""] (Q_is0 Z a ac h0 n0) := by
  refine MetW.of (plainFor_of_name pn_is0) ?_
  intro p e s m below meth c s₁ X0 hx hby hml hZ hown hnm e0 hret hlk I0 es0 hS
  refine GoW.cast (ef_is0 m a ac ((0 : Int32)) ((0 : Int32))) ?_
  show GoW _ _ _ s₁ (mkF m 0 #[.val (.ref a), .val (.ref ac), .val (.int (0 : Int32)), .val (.int (0 : Int32)), .val .null, .unset] []) _ _ _
  have N0 := Fr.nil n0
  refine GoW.aloadN X0 hx (hb hby d_is0_0) rfl rfl ?_
  show GoW _ _ _ s₁ (mkF m 1 #[.val (.ref a), .val (.ref ac), .val (.int (0 : Int32)), .val (.int (0 : Int32)), .val .null, .unset] [(.ref a)]) _ _ _
  refine GoW.initO (W := 0) X0 hx hZ hown (w19 hw) (w20 hw) (w21 hw) e0 (hb hby d_is0_1) (by rw [hml]; rfl) (Nat.le_of_eq rfl) (by decide) (by decide) ?_
  intro T121 X121 e121
  show GoW _ _ _ T121 (mkF m 4 #[.val (.ref a), .val (.ref ac), .val (.int (0 : Int32)), .val (.int (0 : Int32)), .val .null, .unset] []) _ _ _
  refine GoW.iloadN X121 hx (hb hby d_is0_4) rfl ?_
  show GoW _ _ _ T121 (mkF m 5 #[.val (.ref a), .val (.ref ac), .val (.int (0 : Int32)), .val (.int (0 : Int32)), .val .null, .unset] [(.int (0 : Int32))]) _ _ _
  refine GoW.ifNo X121 hx (hb hby d_is0_5) (XT.i0_ne_f (by decide)) ?_
  show GoW _ _ _ T121 (mkF m 8 #[.val (.ref a), .val (.ref ac), .val (.int (0 : Int32)), .val (.int (0 : Int32)), .val .null, .unset] []) _ _ _
  refine GoW.aloadN X121 hx (hb hby d_is0_8) rfl rfl ?_
  show GoW _ _ _ T121 (mkF m 9 #[.val (.ref a), .val (.ref ac), .val (.int (0 : Int32)), .val (.int (0 : Int32)), .val .null, .unset] [(.ref a)]) _ _ _
  refine GoW.ldcS (n := 0) (vs := []) (z := 0) X121 hx hZ hown (w22 hw) (wS hw) e121 hS (Nat.le_refl _) (Fr.nil _) (fun b cl q => by rw [es0]; exact f4.2.2 b cl q) I0 (by decide) HC.1 HC.2.2 ⟨by decide, by first | rfl | decide⟩ (by decide) rfl (hb hby d_is0_9) (by decide) (by decide) (by decide) (by decide) ?_
  intro a122 T122 h122 k122 lb122 kk122 X122 e122 E122 hS KK122 hZ hown A122 FC122 FV122 AV122 I0 LT122
  have Z122 : n0 ≤ h122.size := Nat.le_trans Z0 E122.1
  have B122 : h0.size ≤ h122.size := Nat.le_trans (Nat.le_refl _) E122.1
  have AL122 : Af Z h122 lb122 kk122 .byte 0 (fun i => Value.int ((fun _ => (0 : Int32)) i)) := (Af.ofArv AV122).congr (fun i hi => absurd hi (Nat.not_lt_zero _))
  have ne_a_lb122 : a ≠ lb122 := Exa.neArv (Exa.ext E122 f0) AV122 (w9 hw)
  show GoW _ _ _ T122 (mkF m 11 #[.val (.ref a), .val (.ref ac), .val (.int (0 : Int32)), .val (.int (0 : Int32)), .val .null, .unset] [(.ref a122), (.ref a)]) _ _ _
  refine GoW.getF X122 hx hZ hown (w28 hw) Via.refl e122 FV122 (hb hby d_is0_11) ?_
  intro T123 X123 e123
  show GoW _ _ _ T123 (mkF m 14 #[.val (.ref a), .val (.ref ac), .val (.int (0 : Int32)), .val (.int (0 : Int32)), .val .null, .unset] [(.ref lb122), (.ref a)]) _ _ _
  refine GoW.putF X123 hx hZ hown (w28 hw) Via.refl e123 (Fld.ext E122 f2) (Exa.ext E122 f0) (Or.inr ⟨(w24 hw), rfl, hnm⟩) (w9 hw) (ty := (.array .byte)) (by decide) rfl rfl (hb hby d_is0_14) ?_
  intro T124 h124 X124 e124 W124
  have N124 := Fr.snoc X124 N0 f1
  have Z124 : n0 ≤ h124.size := by rw [Wr.size W124]; exact Z122
  have B124 : h0.size ≤ h124.size := by rw [Wr.size W124]; exact B122
  have KK124 : k122 ≤ h124.size := by rw [Wr.size W124]; exact KK122
  show GoW _ _ _ T124 (mkF m 17 #[.val (.ref a), .val (.ref ac), .val (.int (0 : Int32)), .val (.int (0 : Int32)), .val .null, .unset] []) _ _ _
  refine GoW.aloadN X124 hx (hb hby d_is0_17) rfl rfl ?_
  show GoW _ _ _ T124 (mkF m 18 #[.val (.ref a), .val (.ref ac), .val (.int (0 : Int32)), .val (.int (0 : Int32)), .val .null, .unset] [(.ref a)]) _ _ _
  refine GoW.ldcA X124 hx hZ hown (w22 hw) LT122 (hb hby d_is0_18) ?_
  show GoW _ _ _ T124 (mkF m 20 #[.val (.ref a), .val (.ref ac), .val (.int (0 : Int32)), .val (.int (0 : Int32)), .val .null, .unset] [(.ref a122), (.ref a)]) _ _ _
  have F126 := (Fld.other W124 FC122 (Or.inr (slot_ne (a0 := a0) (Or.inr (w25 hw)) (Or.inr (w24 hw)) (t := .byte) (t' := (.array .byte)) (by decide) (by decide) (by decide))))
  refine GoW.getF X124 hx hZ hown (w29 hw) Via.refl e124 F126 (hb hby d_is0_20) ?_
  intro T127 X127 e127
  show GoW _ _ _ T127 (mkF m 23 #[.val (.ref a), .val (.ref ac), .val (.int (0 : Int32)), .val (.int (0 : Int32)), .val .null, .unset] [(.int (0 : Int32)), (.ref a)]) _ _ _
  have F128 := (Fld.other W124 (Fld.ext E122 f3) (Or.inr (slot_ne (a0 := a0) (Or.inr (w25 hw)) (Or.inr (w24 hw)) (t := .byte) (t' := (.array .byte)) (by decide) (by decide) (by decide))))
  refine GoW.putF X127 hx hZ hown (w29 hw) Via.refl e127 F128 (Exa.wr W124 (Exa.ext E122 f0)) (Or.inr ⟨(w25 hw), rfl, hnm⟩) (w9 hw) (ty := .byte) (by decide) rfl rfl (hb hby d_is0_23) ?_
  intro T129 h129 X129 e129 W129
  have N129 := Fr.snoc X129 N124 f1
  have Z129 : n0 ≤ h129.size := by rw [Wr.size W129]; exact Z124
  have B129 : h0.size ≤ h129.size := by rw [Wr.size W129]; exact B124
  have KK129 : k122 ≤ h129.size := by rw [Wr.size W129]; exact KK124
  show GoW _ _ _ T129 (mkF m 26 #[.val (.ref a), .val (.ref ac), .val (.int (0 : Int32)), .val (.int (0 : Int32)), .val .null, .unset] []) _ _ _
  refine GoW.ret0 X129 hx hlk hS (by rw [e129]; exact KK129) I0 hret (hb hby d_is0_26) (by decide) (by decide) ?_
  rw [e129]
  have F130 := (Exa.wr W129 (Exa.wr W124 (Exa.ext E122 f0)))
  have F131 := (Fld.other W129 (Fld.same W124 (Fld.ext E122 f2)) (Or.inr (slot_ne (a0 := a0) (Or.inr (w24 hw)) (Or.inr (w25 hw)) (t := (.array .byte)) (t' := .byte) (by decide) (by decide) (by decide))))
  have F132 := (Af.other W129 (Af.other W124 AL122 (Ne.symm ne_a_lb122)) (Ne.symm ne_a_lb122))
  exact ⟨lb122, kk122, rfl, N129, (Keep.wr (Keep.wr (Keep.ext (Keep.refl _ _) E122) W124 (Or.inl (List.mem_of_getElem? (i := 0) rfl))) W129 (Or.inl (List.mem_of_getElem? (i := 0) rfl))), F130, F131, (Fld.same W129 F128), F132⟩
def Q_ia0 (Z : State) (a : Addr) (ac : Addr) (kq : ClassId) (fq : Nat → Value) (h0 : Heap) (n0 : Nat) (v : Option Value) (h : Heap) (L : List Loc) : Prop := ∃ (bx : Addr) (kx : ClassId), v = none ∧ Fr n0 L ∧ Keep h0 h [a] ∧ Exa Z h a "java/lang/String" ∧ Fld Z h a "java/lang/String" "value" "[B" (.ref bx) ∧ Fld Z h a "java/lang/String" "coder" "B" (.int (0 : Int32)) ∧ Af Z h bx kx .byte 0 (fun i => Value.int ((fun _ => (0 : Int32)) i))
theorem ef_ia0 (m : MethodId) (x0 : Addr) (x1 : Addr) : entryFrame m #[(.ref x0), (.ref x1)] 2 = mkF m 0 #[.val (.ref x0), .val (.ref x1)] [] := by first | (simp [entryFrame, mkF, argsToLocals, Value.category]; done) | rfl
set_option maxRecDepth 65536 in
set_option maxHeartbeats 40000000 in
theorem rm_ia0 (l : Launch) (Z : State) (a0 : Array Value) (hw : ∀ d ∈ tables_1, d.before a0 Z = true) (HC : Held Z a0) (a : Addr) (ac : Addr) (kq : ClassId) (fq : Nat → Value) (h0 : Heap) (n0 : Nat) (Z0 : n0 ≤ h0.size) (f0 : Exa Z h0 a "java/lang/String") (f1 : n0 ≤ a) (f2 : Fld Z h0 a "java/lang/String" "value" "[B" .null) (f3 : Fld Z h0 a "java/lang/String" "coder" "B" (.int (0 : Int32))) (f4 : Old Z n0 h0) (f5 : Af Z h0 ac kq .char 0 (fq)) :
    MetW l Z (⟨"java/lang/String", "<init>", "([C)V"⟩ : MethodName) jdk_42_method_3_code 2 none [] ({ frames := 2, cells := 2, slots := 4, locals := 29 } : Room) #[(.ref a), (.ref ac)] h0 [] [""] (Q_ia0 Z a ac kq fq h0 n0) := by
  refine MetW.of (plainFor_of_name pn_ia0) ?_
  intro p e s m below meth c s₁ X0 hx hby hml hZ hown hnm e0 hret hlk I0 es0 hS
  refine GoW.cast (ef_ia0 m a ac) ?_
  show GoW _ _ _ s₁ (mkF m 0 #[.val (.ref a), .val (.ref ac)] []) _ _ _
  have N0 := Fr.nil n0
  refine GoW.aloadN X0 hx (hb hby d_ia0_0) rfl rfl ?_
  show GoW _ _ _ s₁ (mkF m 1 #[.val (.ref a), .val (.ref ac)] [(.ref a)]) _ _ _
  refine GoW.aloadN X0 hx (hb hby d_ia0_1) rfl rfl ?_
  show GoW _ _ _ s₁ (mkF m 2 #[.val (.ref a), .val (.ref ac)] [(.ref ac), (.ref a)]) _ _ _
  refine GoW.iconst X0 hx (hb hby d_ia0_2) ?_
  show GoW _ _ _ s₁ (mkF m 3 #[.val (.ref a), .val (.ref ac)] [(.int (0 : Int32)), (.ref ac), (.ref a)]) _ _ _
  refine GoW.aloadN X0 hx (hb hby d_ia0_3) rfl rfl ?_
  show GoW _ _ _ s₁ (mkF m 4 #[.val (.ref a), .val (.ref ac)] [(.ref ac), (.int (0 : Int32)), (.ref ac), (.ref a)]) _ _ _
  refine GoW.alen X0 hx hZ e0 f5 (hb hby d_ia0_4) ?_
  show GoW _ _ _ s₁ (mkF m 5 #[.val (.ref a), .val (.ref ac)] [(.int (0 : Int32)), (.int (0 : Int32)), (.ref ac), (.ref a)]) _ _ _
  refine GoW.aconst_null X0 hx (hb hby d_ia0_5) ?_
  show GoW _ _ _ s₁ (mkF m 6 #[.val (.ref a), .val (.ref ac)] [.null, (.int (0 : Int32)), (.int (0 : Int32)), (.ref ac), (.ref a)]) _ _ _
  refine GoW.callIW (W := 0) (a := a) (argsL := [(.ref ac), (.int (0 : Int32)), (.int (0 : Int32)), .null]) (rest := []) X0 hx hZ hown rfl (w15 hw) (w16 hw) (w10 hw) (w18 hw) (by decide) I0 hS (Nat.le_refl _) (rm_is0 l Z a0 hw HC a ac h0 n0 Z0 f0 f1 f2 f3 f4) e0 (lenOf pd_3 rfl) (hb hby d_ia0_6) (by rw [hml]; rfl) rfl (Nat.le_of_eq rfl) (by decide) (by decide) (by decide) (by decide) ?_
  intro v133 T133 L133 X133 hZ hown hS I0 q133
  obtain ⟨bx133, kx133, rfl, M133, K133, P133_0, P133_1, P133_2, P133_3⟩ := q133
  have N133 := Fr.app N0 M133
  have Z133 : n0 ≤ T133.heap.size := Nat.le_trans Z0 K133.1
  have B133 : h0.size ≤ T133.heap.size := Nat.le_trans (Nat.le_refl _) K133.1
  have KK133 : h0.size ≤ T133.heap.size := Nat.le_trans (Nat.le_refl _) K133.1
  show GoW _ _ _ T133 (mkF m 9 #[.val (.ref a), .val (.ref ac)] []) _ _ _
  refine GoW.ret0 X133 hx hlk hS (Nat.le_refl _) I0 hret (hb hby d_ia0_9) (by decide) (by decide) ?_
  exact ⟨bx133, kx133, rfl, N133, (Keep.trans (Keep.refl _ _) K133 (allS (Or.inl (List.mem_of_getElem? (i := 0) rfl)) all0)), P133_0, P133_1, P133_2, P133_3⟩
def Q_mk0 (Z : State) (c0 : Int32) (c1 : Int32) (c2 : Int32) (c3 : Int32) (h0 : Heap) (n0 : Nat) (v : Option Value) (h : Heap) (L : List Loc) : Prop := ∃ (xa : Addr) (bx : Addr) (kx : ClassId), v = some (.ref xa) ∧ Fr n0 L ∧ Keep h0 h [] ∧ n0 ≤ xa ∧ Exa Z h xa "java/lang/String" ∧ Fld Z h xa "java/lang/String" "value" "[B" (.ref bx) ∧ Fld Z h xa "java/lang/String" "coder" "B" (.int (0 : Int32)) ∧ Af Z h bx kx .byte 0 (fun i => Value.int ((fun _ => (0 : Int32)) i))
theorem ef_mk0 (m : MethodId) (x0 : Int32) (x1 : Int32) (x2 : Int32) (x3 : Int32) (x4 : Int32) : entryFrame m #[(.int x0), (.int x1), (.int x2), (.int x3), (.int x4)] 5 = mkF m 0 #[.val (.int x0), .val (.int x1), .val (.int x2), .val (.int x3), .val (.int x4)] [] := by first | (simp [entryFrame, mkF, argsToLocals, Value.category]; done) | rfl
set_option maxRecDepth 65536 in
set_option maxHeartbeats 40000000 in
theorem rm_mk0 (l : Launch) (Z : State) (a0 : Array Value) (hw : ∀ d ∈ tables_1, d.before a0 Z = true) (HC : Held Z a0) (c0 : Int32) (c1 : Int32) (c2 : Int32) (c3 : Int32) (h0 : Heap) (n0 : Nat) (Z0 : n0 ≤ h0.size) (f0 : Old Z n0 h0) :
    MetW l Z (⟨"com/example/trilatch/trilatch/http/TlsPolicyHandshakesWithPinLaw", "make", "(ICCCC)Ljava/lang/String;"⟩ : MethodName) method_4_code 5 (Option.some (Jvm.ClassFile.FieldType.object "java/lang/String")) [] ({ frames := 3, cells := 4, slots := 8, locals := 43 } : Room) #[(.int (0 : Int32)), (.int c0), (.int c1), (.int c2), (.int c3)] h0 [] [""] (Q_mk0 Z c0 c1 c2 c3 h0 n0) := by
  refine MetW.of (plainFor_of_name pn_mk0) ?_
  intro p e s m below meth c s₁ X0 hx hby hml hZ hown hnm e0 hret hlk I0 es0 hS
  refine GoW.cast (ef_mk0 m ((0 : Int32)) c0 c1 c2 c3) ?_
  show GoW _ _ _ s₁ (mkF m 0 #[.val (.int (0 : Int32)), .val (.int c0), .val (.int c1), .val (.int c2), .val (.int c3)] []) _ _ _
  have N0 := Fr.nil n0
  refine GoW.iloadN X0 hx (hb hby d_mk0_0) rfl ?_
  show GoW _ _ _ s₁ (mkF m 1 #[.val (.int (0 : Int32)), .val (.int c0), .val (.int c1), .val (.int c2), .val (.int c3)] [(.int (0 : Int32))]) _ _ _
  refine GoW.ifNo X0 hx (hb hby d_mk0_1) (XT.i0_ne_f (by decide)) ?_
  show GoW _ _ _ s₁ (mkF m 4 #[.val (.int (0 : Int32)), .val (.int c0), .val (.int c1), .val (.int c2), .val (.int c3)] []) _ _ _
  refine GoW.newO X0 hx hZ hown (w8 hw) (w9 hw) (w10 hw) e0 (hb hby d_mk0_4) (by decide) (by decide) ?_
  intro T134 h134 a134 b134 X134 e134 E134 A134 D134
  have g_a134 : n0 ≤ a134 := by rw [b134]; exact Z0
  have y_a134 : h0.size ≤ a134 := by rw [b134]; exact (Nat.le_refl _)
  have Z134 : n0 ≤ h134.size := Nat.le_trans Z0 E134.1
  have B134 : h0.size ≤ h134.size := Nat.le_trans (Nat.le_refl _) E134.1
  have KK134 : h0.size ≤ h134.size := Nat.le_trans (Nat.le_refl _) E134.1
  show GoW _ _ _ T134 (mkF m 7 #[.val (.int (0 : Int32)), .val (.int c0), .val (.int c1), .val (.int c2), .val (.int c3)] [(.ref a134)]) _ _ _
  refine GoW.dup X134 hx (hb hby d_mk0_7) rfl ?_
  show GoW _ _ _ T134 (mkF m 8 #[.val (.int (0 : Int32)), .val (.int c0), .val (.int c1), .val (.int c2), .val (.int c3)] [(.ref a134), (.ref a134)]) _ _ _
  refine GoW.iconst X134 hx (hb hby d_mk0_8) ?_
  show GoW _ _ _ T134 (mkF m 9 #[.val (.int (0 : Int32)), .val (.int c0), .val (.int c1), .val (.int c2), .val (.int c3)] [(.int (0 : Int32)), (.ref a134), (.ref a134)]) _ _ _
  refine GoW.newarray (aty := .char) (cap := 0) X134 hx hZ (w11 hw) e134 (hb hby d_mk0_9) (by decide) (by decide) (by decide) (by decide) (by decide) ?_
  intro T135 h135 a135 k135 b135 X135 e135 E135 A135
  have g_a135 : n0 ≤ a135 := by rw [b135]; exact Z134
  have y_a135 : h0.size ≤ a135 := by rw [b135]; exact B134
  have ne_a134_a135 : a134 ≠ a135 := by rw [b135]; exact Nat.ne_of_lt A134.lt
  have Z135 : n0 ≤ h135.size := Nat.le_trans Z134 E135.1
  have B135 : h0.size ≤ h135.size := Nat.le_trans B134 E135.1
  have KK135 : h0.size ≤ h135.size := Nat.le_trans KK134 E135.1
  show GoW _ _ _ T135 (mkF m 11 #[.val (.int (0 : Int32)), .val (.int c0), .val (.int c1), .val (.int c2), .val (.int c3)] [(.ref a135), (.ref a134), (.ref a134)]) _ _ _
  have F136 := (Fld.ext E135 (D134 (Or.inr (w24 hw)) (ty := (.array .byte)) (by decide)))
  have F137 := (Fld.ext E135 (D134 (Or.inr (w25 hw)) (ty := .byte) (by decide)))
  have O138 := (Old.ext (Old.ext f0 E134) E135)
  refine GoW.callIW (W := 1) (a := a134) (argsL := [(.ref a135)]) (rest := [(.ref a134)]) X135 hx hZ hown rfl (w12 hw) (w13 hw) (w10 hw) (w14 hw) (by decide) I0 hS KK135 (rm_ia0 l Z a0 hw HC a134 a135 k135 ((fun _ => defaultValue (newarray.typeOf .char))) h135 n0 Z135 (Exa.ext E135 A134) g_a134 F136 F137 O138 A135) e135 (lenOf pd_4 rfl) (hb hby d_mk0_11) (by rw [hml]; rfl) rfl (Nat.le_of_eq rfl) (by decide) (by decide) (by decide) (by decide) ?_
  intro v139 T139 L139 X139 hZ hown hS I0 q139
  obtain ⟨bx139, kx139, rfl, M139, K139, P139_0, P139_1, P139_2, P139_3⟩ := q139
  have N139 := Fr.app N0 M139
  have Z139 : n0 ≤ T139.heap.size := Nat.le_trans Z135 K139.1
  have B139 : h0.size ≤ T139.heap.size := Nat.le_trans B135 K139.1
  have KK139 : h0.size ≤ T139.heap.size := Nat.le_trans KK135 K139.1
  show GoW _ _ _ T139 (mkF m 14 #[.val (.int (0 : Int32)), .val (.int c0), .val (.int c1), .val (.int c2), .val (.int c3)] [(.ref a134)]) _ _ _
  refine GoW.retR X139 hx hlk hS (Nat.le_refl _) I0 hret rfl rfl (hb hby d_mk0_14) (by decide) (by decide) ?_
  exact ⟨a134, bx139, kx139, rfl, N139, (Keep.trans (Keep.ext (Keep.ext (Keep.refl _ _) E134) E135) K139 (allS (Or.inr y_a134) all0)), g_a134, P139_0, P139_1, P139_2, P139_3⟩
def Q_le0 (Z : State) (bx : Addr) (bl : Addr) (kx : ClassId) (kl : ClassId) (h0 : Heap) (n0 : Nat) (v : Option Value) (h : Heap) (L : List Loc) : Prop := v = some (.int (0 : Int32)) ∧ Fr n0 L ∧ h = h0
theorem ef_le0 (m : MethodId) (x0 : Addr) (x1 : Addr) : entryFrame m #[(.ref x0), (.ref x1)] 3 = mkF m 0 #[.val (.ref x0), .val (.ref x1), .unset] [] := by first | (simp [entryFrame, mkF, argsToLocals, Value.category]; done) | rfl
set_option maxRecDepth 65536 in
set_option maxHeartbeats 40000000 in
theorem rm_le0 (l : Launch) (Z : State) (a0 : Array Value) (hw : ∀ d ∈ tables_1, d.before a0 Z = true) (bx : Addr) (bl : Addr) (kx : ClassId) (kl : ClassId) (h0 : Heap) (n0 : Nat) (Z0 : n0 ≤ h0.size) (f0 : Af Z h0 bx kx .byte 0 (fun i => Value.int ((fun _ => (0 : Int32)) i))) (f1 : Af Z h0 bl kl .byte 3 (fun i => Value.int ((updI (updI (updI (fun _ => (0 : Int32)) 0 (68 : Int32)) 1 (83 : Int32)) 2 (65 : Int32)) i))) :
    Met l Z (⟨"java/lang/StringLatin1", "equals", "([B[B)Z"⟩ : MethodName) jdk_43_method_13_code 3 (Option.some Jvm.ClassFile.FieldType.boolean) [] ({ frames := 0, cells := 0, slots := 0, locals := 0 } : Room) #[(.ref bx), (.ref bl)] h0 (Q_le0 Z bx bl kx kl h0 n0) := by
  refine Met.of (plainFor_of_name pn_le0) ?_
  intro p e s m below meth c s₁ X0 hx hby hml hZ hown hnm e0 hret hlk
  refine Go.cast (ef_le0 m bx bl) ?_
  show Go _ _ _ _ s₁ (mkF m 0 #[.val (.ref bx), .val (.ref bl), .unset] []) _ _ _
  have N0 := Fr.nil n0
  refine Go.aloadN X0 hx (hb hby d_le0_0) rfl rfl ?_
  show Go _ _ _ _ s₁ (mkF m 1 #[.val (.ref bx), .val (.ref bl), .unset] [(.ref bx)]) _ _ _
  refine Go.alen X0 hx hZ e0 f0 (hb hby d_le0_1) ?_
  show Go _ _ _ _ s₁ (mkF m 2 #[.val (.ref bx), .val (.ref bl), .unset] [(.int (0 : Int32))]) _ _ _
  refine Go.aloadN X0 hx (hb hby d_le0_2) rfl rfl ?_
  show Go _ _ _ _ s₁ (mkF m 3 #[.val (.ref bx), .val (.ref bl), .unset] [(.ref bl), (.int (0 : Int32))]) _ _ _
  refine Go.alen X0 hx hZ e0 f1 (hb hby d_le0_3) ?_
  show Go _ _ _ _ s₁ (mkF m 4 #[.val (.ref bx), .val (.ref bl), .unset] [(.int (3 : Int32)), (.int (0 : Int32))]) _ _ _
  refine Go.icmpYes X0 hx (hb hby d_le0_4) (XT.ii_ne_t (by decide)) (pc' := 34) (by decide) (by decide) ?_
  show Go _ _ _ _ s₁ (mkF m 34 #[.val (.ref bx), .val (.ref bl), .unset] []) _ _ _
  refine Go.iconst X0 hx (hb hby d_le0_34) ?_
  show Go _ _ _ _ s₁ (mkF m 35 #[.val (.ref bx), .val (.ref bl), .unset] [(.int (0 : Int32))]) _ _ _
  refine Go.retZ X0 hx hlk hret (by decide) (hb hby d_le0_35) (by decide) (by decide) ?_
  rw [e0]
  exact ⟨rfl, N0, rfl⟩
def Q_eq0 (Z : State) (xa : Addr) (ya : Addr) (bx : Addr) (bl : Addr) (kx : ClassId) (kl : ClassId) (cs : Int32) (h0 : Heap) (n0 : Nat) (v : Option Value) (h : Heap) (L : List Loc) : Prop := v = some (.int (0 : Int32)) ∧ Fr n0 L ∧ h = h0
theorem ef_eq0 (m : MethodId) (x0 : Addr) (x1 : Addr) : entryFrame m #[(.ref x0), (.ref x1)] 3 = mkF m 0 #[.val (.ref x0), .val (.ref x1), .unset] [] := by first | (simp [entryFrame, mkF, argsToLocals, Value.category]; done) | rfl
set_option maxRecDepth 65536 in
set_option maxHeartbeats 40000000 in
theorem rm_eq0 (l : Launch) (Z : State) (a0 : Array Value) (hw : ∀ d ∈ tables_1, d.before a0 Z = true) (xa : Addr) (ya : Addr) (bx : Addr) (bl : Addr) (kx : ClassId) (kl : ClassId) (cs : Int32) (h0 : Heap) (n0 : Nat) (Z0 : n0 ≤ h0.size) (f0 : Exa Z h0 xa "java/lang/String") (f1 : Fld Z h0 xa "java/lang/String" "value" "[B" (.ref bx)) (f2 : Fld Z h0 xa "java/lang/String" "coder" "B" (.int (0 : Int32))) (f3 : Exa Z h0 ya "java/lang/String") (f4 : Fld Z h0 ya "java/lang/String" "value" "[B" (.ref bl)) (f5 : Fld Z h0 ya "java/lang/String" "coder" "B" (.int (0 : Int32))) (f6 : Af Z h0 bx kx .byte 0 (fun i => Value.int ((fun _ => (0 : Int32)) i))) (f7 : Af Z h0 bl kl .byte 3 (fun i => Value.int ((updI (updI (updI (fun _ => (0 : Int32)) 0 (68 : Int32)) 1 (83 : Int32)) 2 (65 : Int32)) i))) (f8 : Sta Z h0 "java/lang/String" "COMPACT_STRINGS" "Z" (.int cs)) (f9 : ¬ cs = (0 : Int32)) :
    Met l Z (⟨"java/lang/String", "equals", "(Ljava/lang/Object;)Z"⟩ : MethodName) jdk_42_method_66_code 3 (Option.some Jvm.ClassFile.FieldType.boolean) [] ({ frames := 1, cells := 0, slots := 0, locals := 14 } : Room) #[(.ref xa), (.ref ya)] h0 (Q_eq0 Z xa ya bx bl kx kl cs h0 n0) := by
  refine Met.of (plainFor_of_name pn_eq0) ?_
  intro p e s m below meth c s₁ X0 hx hby hml hZ hown hnm e0 hret hlk
  refine Go.cast (ef_eq0 m xa ya) ?_
  show Go _ _ _ _ s₁ (mkF m 0 #[.val (.ref xa), .val (.ref ya), .unset] []) _ _ _
  have N0 := Fr.nil n0
  refine Go.aloadN X0 hx (hb hby d_eq0_0) rfl rfl ?_
  show Go _ _ _ _ s₁ (mkF m 1 #[.val (.ref xa), .val (.ref ya), .unset] [(.ref xa)]) _ _ _
  refine Go.aloadN X0 hx (hb hby d_eq0_1) rfl rfl ?_
  show Go _ _ _ _ s₁ (mkF m 2 #[.val (.ref xa), .val (.ref ya), .unset] [(.ref ya), (.ref xa)]) _ _ _
  rcases Decidable.em (xa = ya) with c140 | c140
  · refine Go.acmpNo X0 hx (hb hby d_eq0_2) rfl rfl (ac_ne_p c140) ?_
    show Go _ _ _ _ s₁ (mkF m 5 #[.val (.ref xa), .val (.ref ya), .unset] []) _ _ _
    refine Go.iconst X0 hx (hb hby d_eq0_5) ?_
    show Go _ _ _ _ s₁ (mkF m 6 #[.val (.ref xa), .val (.ref ya), .unset] [(.int (1 : Int32))]) _ _ _
    refine Go.retZ X0 hx hlk hret (by decide) (hb hby d_eq0_6) (by decide) (by decide) ?_
    rw [e0]
    exact absurd (same_str c140 f1 f4 f6 f7).1 (by decide)
  · refine Go.acmpYes X0 hx (hb hby d_eq0_2) rfl rfl (ac_ne_n c140) (pc' := 7) (by decide) (by decide) ?_
    show Go _ _ _ _ s₁ (mkF m 7 #[.val (.ref xa), .val (.ref ya), .unset] []) _ _ _
    refine Go.aloadN X0 hx (hb hby d_eq0_7) rfl rfl ?_
    show Go _ _ _ _ s₁ (mkF m 8 #[.val (.ref xa), .val (.ref ya), .unset] [(.ref ya)]) _ _ _
    refine Go.instY X0 hx hZ hown (w40 hw) e0 (Ins.self f3) (hb hby d_eq0_8) ?_
    intro T141 X141 e141
    show Go _ _ _ _ T141 (mkF m 11 #[.val (.ref xa), .val (.ref ya), .unset] [(.int (1 : Int32))]) _ _ _
    refine Go.ifNo X141 hx (hb hby d_eq0_11) (XT.i0_eq_f (by decide)) ?_
    show Go _ _ _ _ T141 (mkF m 14 #[.val (.ref xa), .val (.ref ya), .unset] []) _ _ _
    refine Go.aloadN X141 hx (hb hby d_eq0_14) rfl rfl ?_
    show Go _ _ _ _ T141 (mkF m 15 #[.val (.ref xa), .val (.ref ya), .unset] [(.ref ya)]) _ _ _
    refine Go.ccast X141 hx hZ hown (w40 hw) e141 (Ins.self f3) (hb hby d_eq0_15) ?_
    intro T142 X142 e142
    show Go _ _ _ _ T142 (mkF m 18 #[.val (.ref xa), .val (.ref ya), .unset] [(.ref ya)]) _ _ _
    refine Go.astoreN X142 hx (hb hby d_eq0_18) rfl (l' := #[.val (.ref xa), .val (.ref ya), .val (.ref ya)]) rfl ?_
    show Go _ _ _ _ T142 (mkF m 19 #[.val (.ref xa), .val (.ref ya), .val (.ref ya)] []) _ _ _
    refine Go.getS X142 hx hZ hown (w41 hw) Via.refl e142 f8 (hb hby d_eq0_19) ?_
    intro T143 X143 e143
    show Go _ _ _ _ T143 (mkF m 22 #[.val (.ref xa), .val (.ref ya), .val (.ref ya)] [(.int cs)]) _ _ _
    refine Go.ifNo X143 hx (hb hby d_eq0_22) (XT.i0_eq_f f9) ?_
    show Go _ _ _ _ T143 (mkF m 25 #[.val (.ref xa), .val (.ref ya), .val (.ref ya)] []) _ _ _
    refine Go.aloadN X143 hx (hb hby d_eq0_25) rfl rfl ?_
    show Go _ _ _ _ T143 (mkF m 26 #[.val (.ref xa), .val (.ref ya), .val (.ref ya)] [(.ref xa)]) _ _ _
    refine Go.getF X143 hx hZ hown (w29 hw) Via.refl e143 f2 (hb hby d_eq0_26) ?_
    intro T144 X144 e144
    show Go _ _ _ _ T144 (mkF m 29 #[.val (.ref xa), .val (.ref ya), .val (.ref ya)] [(.int (0 : Int32))]) _ _ _
    refine Go.aloadN X144 hx (hb hby d_eq0_29) rfl rfl ?_
    show Go _ _ _ _ T144 (mkF m 30 #[.val (.ref xa), .val (.ref ya), .val (.ref ya)] [(.ref ya), (.int (0 : Int32))]) _ _ _
    refine Go.getF X144 hx hZ hown (w29 hw) Via.refl e144 f5 (hb hby d_eq0_30) ?_
    intro T145 X145 e145
    show Go _ _ _ _ T145 (mkF m 33 #[.val (.ref xa), .val (.ref ya), .val (.ref ya)] [(.int (0 : Int32)), (.int (0 : Int32))]) _ _ _
    refine Go.icmpNo X145 hx (hb hby d_eq0_33) (XT.ii_ne_f (by decide)) ?_
    show Go _ _ _ _ T145 (mkF m 36 #[.val (.ref xa), .val (.ref ya), .val (.ref ya)] []) _ _ _
    refine Go.aloadN X145 hx (hb hby d_eq0_36) rfl rfl ?_
    show Go _ _ _ _ T145 (mkF m 37 #[.val (.ref xa), .val (.ref ya), .val (.ref ya)] [(.ref xa)]) _ _ _
    refine Go.getF X145 hx hZ hown (w28 hw) Via.refl e145 f1 (hb hby d_eq0_37) ?_
    intro T146 X146 e146
    show Go _ _ _ _ T146 (mkF m 40 #[.val (.ref xa), .val (.ref ya), .val (.ref ya)] [(.ref bx)]) _ _ _
    refine Go.aloadN X146 hx (hb hby d_eq0_40) rfl rfl ?_
    show Go _ _ _ _ T146 (mkF m 41 #[.val (.ref xa), .val (.ref ya), .val (.ref ya)] [(.ref ya), (.ref bx)]) _ _ _
    refine Go.getF X146 hx hZ hown (w28 hw) Via.refl e146 f4 (hb hby d_eq0_41) ?_
    intro T147 X147 e147
    show Go _ _ _ _ T147 (mkF m 44 #[.val (.ref xa), .val (.ref ya), .val (.ref ya)] [(.ref bl), (.ref bx)]) _ _ _
    refine Go.callS (W := 0) (argsL := [(.ref bx), (.ref bl)]) (rest := []) X147 hx hZ hown (w42 hw) (w43 hw) (w44 hw) (w45 hw) (by decide) (rm_le0 l Z a0 hw bx bl kx kl h0 n0 Z0 f6 f7) e147 (lenOf pd_5 rfl) (hb hby d_eq0_44) (by rw [hml]; rfl) rfl (Nat.le_of_eq rfl) (by decide) (by decide) (by decide) (by decide) ?_
    intro v148 T148 L148 X148 q148
    obtain ⟨rfl, M148, e148⟩ := q148
    have N148 := Fr.app N0 M148
    show Go _ _ _ _ T148 (mkF m 47 #[.val (.ref xa), .val (.ref ya), .val (.ref ya)] [(.int (0 : Int32))]) _ _ _
    refine Go.ifYes X148 hx (hb hby d_eq0_47) (XT.i0_eq_t (by decide)) (pc' := 54) (by decide) (by decide) ?_
    show Go _ _ _ _ T148 (mkF m 54 #[.val (.ref xa), .val (.ref ya), .val (.ref ya)] []) _ _ _
    refine Go.iconst X148 hx (hb hby d_eq0_54) ?_
    show Go _ _ _ _ T148 (mkF m 55 #[.val (.ref xa), .val (.ref ya), .val (.ref ya)] [(.int (0 : Int32))]) _ _ _
    refine Go.retZ X148 hx hlk hret (by decide) (hb hby d_eq0_55) (by decide) (by decide) ?_
    rw [e148]
    exact ⟨rfl, N148, rfl⟩
def Q_hs0 (Z : State) (xa : Addr) (bx : Addr) (kx : ClassId) (cs : Int32) (h0 : Heap) (n0 : Nat) (v : Option Value) (h : Heap) (L : List Loc) : Prop := v = some (.int (1 : Int32)) ∧ Fr n0 L ∧ Keep h0 h []
theorem ef_hs0 (m : MethodId) (x0 : Addr) : entryFrame m #[(.ref x0)] 1 = mkF m 0 #[.val (.ref x0)] [] := by first | (simp [entryFrame, mkF, argsToLocals, Value.category]; done) | rfl
set_option maxRecDepth 65536 in
set_option maxHeartbeats 40000000 in
theorem rm_hs0 (l : Launch) (Z : State) (a0 : Array Value) (hw : ∀ d ∈ tables_1, d.before a0 Z = true) (HC : Held Z a0) (xa : Addr) (bx : Addr) (kx : ClassId) (cs : Int32) (h0 : Heap) (n0 : Nat) (Z0 : n0 ≤ h0.size) (f0 : Exa Z h0 xa "java/lang/String") (f1 : Fld Z h0 xa "java/lang/String" "value" "[B" (.ref bx)) (f2 : Fld Z h0 xa "java/lang/String" "coder" "B" (.int (0 : Int32))) (f3 : Af Z h0 bx kx .byte 0 (fun i => Value.int ((fun _ => (0 : Int32)) i))) (f4 : Sta Z h0 "java/lang/String" "COMPACT_STRINGS" "Z" (.int cs)) (f5 : ¬ cs = (0 : Int32)) (f6 : Old Z n0 h0) :
    MetW l Z (⟨"com/example/trilatch/trilatch/http/TlsPolicy", "handshakesWith", "(Ljava/lang/String;)Z"⟩ : MethodName) prog_56_method_3_code 1 (Option.some Jvm.ClassFile.FieldType.boolean) [] ({ frames := 2, cells := 2, slots := 16, locals := 28 } : Room) #[(.ref xa)] h0 [""] ["DSA", ""] (Q_hs0 Z xa bx kx cs h0 n0) := by
  refine MetW.of (plainFor_of_name pn_hs0) ?_
  intro p e s m below meth c s₁ X0 hx hby hml hZ hown hnm e0 hret hlk I0 es0 hS
  refine GoW.cast (ef_hs0 m xa) ?_
  show GoW _ _ _ s₁ (mkF m 0 #[.val (.ref xa)] []) _ _ _
  have N0 := Fr.nil n0
  refine GoW.aloadN X0 hx (hb hby d_hs0_0) rfl rfl ?_
  show GoW _ _ _ s₁ (mkF m 1 #[.val (.ref xa)] [(.ref xa)]) _ _ _
  refine GoW.ldcS (n := 12) (vs := [.int 68, .int 83, .int 65]) (z := 3) X0 hx hZ hown (w34 hw) (wS hw) e0 hS (Nat.le_refl _) (Fr.nil _) (fun b cl q => by rw [es0]; exact f6.2.2 b cl q) I0 (by decide) HC.2.1 HC.2.2 ⟨by decide, by first | rfl | decide⟩ (by decide) rfl (hb hby d_hs0_1) (by decide) (by decide) (by decide) (by decide) ?_
  intro a149 T149 h149 k149 lb149 kk149 X149 e149 E149 hS KK149 hZ hown A149 FC149 FV149 AV149 I0 LT149
  have Z149 : n0 ≤ h149.size := Nat.le_trans Z0 E149.1
  have B149 : h0.size ≤ h149.size := Nat.le_trans (Nat.le_refl _) E149.1
  have AL149 : Af Z h149 lb149 kk149 .byte 3 (fun i => Value.int ((updI (updI (updI (fun _ => (0 : Int32)) 0 (68 : Int32)) 1 (83 : Int32)) 2 (65 : Int32)) i)) := (Af.ofArv AV149).congr (fun i hi => by have hi' : i < 3 := hi; rcases lt_3 hi' with rfl | rfl | rfl <;> first | (simp [updI, updV]; done) | rfl)
  have ne_xa_lb149 : xa ≠ lb149 := Exa.neArv (Exa.ext E149 f0) AV149 (w9 hw)
  show GoW _ _ _ T149 (mkF m 3 #[.val (.ref xa)] [(.ref a149), (.ref xa)]) _ _ _
  refine GoW.callV (W := 0) (argsL := [(.ref a149)]) (rest := []) X149 hx hZ hown (w35 hw) (w36 hw) (w38 hw) (w37 hw) (w10 hw) (w39 hw) (notFace_of_selects (args := #[]) (mvT hZ (w38 hw))) (by decide) (Exa.ext E149 f0) (rm_eq0 l Z a0 hw xa a149 bx lb149 kx kk149 cs h149 n0 Z149 (Exa.ext E149 f0) (Fld.ext E149 f1) (Fld.ext E149 f2) A149 FV149 FC149 (Af.ext E149 f3) AL149 (Sta.ext E149 f4) f5) e149 (lenOf pd_6 rfl) (hb hby d_hs0_3) (by rw [hml]; rfl) rfl (Nat.le_of_eq rfl) (by decide) (by decide) (by decide) (by decide) ?_
  intro v150 T150 L150 X150 q150
  obtain ⟨rfl, M150, e150⟩ := q150
  have N150 := Fr.app N0 M150
  show GoW _ _ _ T150 (mkF m 6 #[.val (.ref xa)] [(.int (0 : Int32))]) _ _ _
  refine GoW.ifNo X150 hx (hb hby d_hs0_6) (XT.i0_ne_f (by decide)) ?_
  show GoW _ _ _ T150 (mkF m 9 #[.val (.ref xa)] []) _ _ _
  refine GoW.iconst X150 hx (hb hby d_hs0_9) ?_
  show GoW _ _ _ T150 (mkF m 10 #[.val (.ref xa)] [(.int (1 : Int32))]) _ _ _
  refine GoW.goto X150 hx (hb hby d_hs0_10) (pc' := 14) (by decide) (by decide) ?_
  show GoW _ _ _ T150 (mkF m 14 #[.val (.ref xa)] [(.int (1 : Int32))]) _ _ _
  refine GoW.retZ X150 hx hlk hS (by rw [e150]; exact KK149) I0 hret (by decide) (hb hby d_hs0_14) (by decide) (by decide) ?_
  rw [e150]
  exact ⟨rfl, N150, (Keep.ext (Keep.refl _ _) E149)⟩
def Q_le1 (Z : State) (bx : Addr) (bl : Addr) (kx : ClassId) (kl : ClassId) (b0 : Int32) (h0 : Heap) (n0 : Nat) (v : Option Value) (h : Heap) (L : List Loc) : Prop := v = some (.int (0 : Int32)) ∧ Fr n0 L ∧ h = h0
theorem ef_le1 (m : MethodId) (x0 : Addr) (x1 : Addr) : entryFrame m #[(.ref x0), (.ref x1)] 3 = mkF m 0 #[.val (.ref x0), .val (.ref x1), .unset] [] := by first | (simp [entryFrame, mkF, argsToLocals, Value.category]; done) | rfl
set_option maxRecDepth 65536 in
set_option maxHeartbeats 40000000 in
theorem rm_le1 (l : Launch) (Z : State) (a0 : Array Value) (hw : ∀ d ∈ tables_1, d.before a0 Z = true) (bx : Addr) (bl : Addr) (kx : ClassId) (kl : ClassId) (b0 : Int32) (h0 : Heap) (n0 : Nat) (Z0 : n0 ≤ h0.size) (f0 : Af Z h0 bx kx .byte 1 (fun i => Value.int ((updI (fun _ => (0 : Int32)) 0 b0) i))) (f1 : Af Z h0 bl kl .byte 3 (fun i => Value.int ((updI (updI (updI (fun _ => (0 : Int32)) 0 (68 : Int32)) 1 (83 : Int32)) 2 (65 : Int32)) i))) :
    Met l Z (⟨"java/lang/StringLatin1", "equals", "([B[B)Z"⟩ : MethodName) jdk_43_method_13_code 3 (Option.some Jvm.ClassFile.FieldType.boolean) [] ({ frames := 0, cells := 0, slots := 0, locals := 0 } : Room) #[(.ref bx), (.ref bl)] h0 (Q_le1 Z bx bl kx kl b0 h0 n0) := by
  refine Met.of (plainFor_of_name pn_le1) ?_
  intro p e s m below meth c s₁ X0 hx hby hml hZ hown hnm e0 hret hlk
  refine Go.cast (ef_le1 m bx bl) ?_
  show Go _ _ _ _ s₁ (mkF m 0 #[.val (.ref bx), .val (.ref bl), .unset] []) _ _ _
  have N0 := Fr.nil n0
  refine Go.aloadN X0 hx (hb hby d_le1_0) rfl rfl ?_
  show Go _ _ _ _ s₁ (mkF m 1 #[.val (.ref bx), .val (.ref bl), .unset] [(.ref bx)]) _ _ _
  refine Go.alen X0 hx hZ e0 f0 (hb hby d_le1_1) ?_
  show Go _ _ _ _ s₁ (mkF m 2 #[.val (.ref bx), .val (.ref bl), .unset] [(.int (1 : Int32))]) _ _ _
  refine Go.aloadN X0 hx (hb hby d_le1_2) rfl rfl ?_
  show Go _ _ _ _ s₁ (mkF m 3 #[.val (.ref bx), .val (.ref bl), .unset] [(.ref bl), (.int (1 : Int32))]) _ _ _
  refine Go.alen X0 hx hZ e0 f1 (hb hby d_le1_3) ?_
  show Go _ _ _ _ s₁ (mkF m 4 #[.val (.ref bx), .val (.ref bl), .unset] [(.int (3 : Int32)), (.int (1 : Int32))]) _ _ _
  refine Go.icmpYes X0 hx (hb hby d_le1_4) (XT.ii_ne_t (by decide)) (pc' := 34) (by decide) (by decide) ?_
  show Go _ _ _ _ s₁ (mkF m 34 #[.val (.ref bx), .val (.ref bl), .unset] []) _ _ _
  refine Go.iconst X0 hx (hb hby d_le1_34) ?_
  show Go _ _ _ _ s₁ (mkF m 35 #[.val (.ref bx), .val (.ref bl), .unset] [(.int (0 : Int32))]) _ _ _
  refine Go.retZ X0 hx hlk hret (by decide) (hb hby d_le1_35) (by decide) (by decide) ?_
  rw [e0]
  exact ⟨rfl, N0, rfl⟩
def Q_eq1 (Z : State) (xa : Addr) (ya : Addr) (bx : Addr) (bl : Addr) (kx : ClassId) (kl : ClassId) (cs : Int32) (b0 : Int32) (h0 : Heap) (n0 : Nat) (v : Option Value) (h : Heap) (L : List Loc) : Prop := v = some (.int (0 : Int32)) ∧ Fr n0 L ∧ h = h0
theorem ef_eq1 (m : MethodId) (x0 : Addr) (x1 : Addr) : entryFrame m #[(.ref x0), (.ref x1)] 3 = mkF m 0 #[.val (.ref x0), .val (.ref x1), .unset] [] := by first | (simp [entryFrame, mkF, argsToLocals, Value.category]; done) | rfl
set_option maxRecDepth 65536 in
set_option maxHeartbeats 40000000 in
theorem rm_eq1 (l : Launch) (Z : State) (a0 : Array Value) (hw : ∀ d ∈ tables_1, d.before a0 Z = true) (xa : Addr) (ya : Addr) (bx : Addr) (bl : Addr) (kx : ClassId) (kl : ClassId) (cs : Int32) (b0 : Int32) (h0 : Heap) (n0 : Nat) (Z0 : n0 ≤ h0.size) (f0 : Exa Z h0 xa "java/lang/String") (f1 : Fld Z h0 xa "java/lang/String" "value" "[B" (.ref bx)) (f2 : Fld Z h0 xa "java/lang/String" "coder" "B" (.int (0 : Int32))) (f3 : Exa Z h0 ya "java/lang/String") (f4 : Fld Z h0 ya "java/lang/String" "value" "[B" (.ref bl)) (f5 : Fld Z h0 ya "java/lang/String" "coder" "B" (.int (0 : Int32))) (f6 : Af Z h0 bx kx .byte 1 (fun i => Value.int ((updI (fun _ => (0 : Int32)) 0 b0) i))) (f7 : Af Z h0 bl kl .byte 3 (fun i => Value.int ((updI (updI (updI (fun _ => (0 : Int32)) 0 (68 : Int32)) 1 (83 : Int32)) 2 (65 : Int32)) i))) (f8 : Sta Z h0 "java/lang/String" "COMPACT_STRINGS" "Z" (.int cs)) (f9 : ¬ cs = (0 : Int32)) :
    Met l Z (⟨"java/lang/String", "equals", "(Ljava/lang/Object;)Z"⟩ : MethodName) jdk_42_method_66_code 3 (Option.some Jvm.ClassFile.FieldType.boolean) [] ({ frames := 1, cells := 0, slots := 0, locals := 14 } : Room) #[(.ref xa), (.ref ya)] h0 (Q_eq1 Z xa ya bx bl kx kl cs b0 h0 n0) := by
  refine Met.of (plainFor_of_name pn_eq1) ?_
  intro p e s m below meth c s₁ X0 hx hby hml hZ hown hnm e0 hret hlk
  refine Go.cast (ef_eq1 m xa ya) ?_
  show Go _ _ _ _ s₁ (mkF m 0 #[.val (.ref xa), .val (.ref ya), .unset] []) _ _ _
  have N0 := Fr.nil n0
  refine Go.aloadN X0 hx (hb hby d_eq1_0) rfl rfl ?_
  show Go _ _ _ _ s₁ (mkF m 1 #[.val (.ref xa), .val (.ref ya), .unset] [(.ref xa)]) _ _ _
  refine Go.aloadN X0 hx (hb hby d_eq1_1) rfl rfl ?_
  show Go _ _ _ _ s₁ (mkF m 2 #[.val (.ref xa), .val (.ref ya), .unset] [(.ref ya), (.ref xa)]) _ _ _
  rcases Decidable.em (xa = ya) with c151 | c151
  · refine Go.acmpNo X0 hx (hb hby d_eq1_2) rfl rfl (ac_ne_p c151) ?_
    show Go _ _ _ _ s₁ (mkF m 5 #[.val (.ref xa), .val (.ref ya), .unset] []) _ _ _
    refine Go.iconst X0 hx (hb hby d_eq1_5) ?_
    show Go _ _ _ _ s₁ (mkF m 6 #[.val (.ref xa), .val (.ref ya), .unset] [(.int (1 : Int32))]) _ _ _
    refine Go.retZ X0 hx hlk hret (by decide) (hb hby d_eq1_6) (by decide) (by decide) ?_
    rw [e0]
    exact absurd (same_str c151 f1 f4 f6 f7).1 (by decide)
  · refine Go.acmpYes X0 hx (hb hby d_eq1_2) rfl rfl (ac_ne_n c151) (pc' := 7) (by decide) (by decide) ?_
    show Go _ _ _ _ s₁ (mkF m 7 #[.val (.ref xa), .val (.ref ya), .unset] []) _ _ _
    refine Go.aloadN X0 hx (hb hby d_eq1_7) rfl rfl ?_
    show Go _ _ _ _ s₁ (mkF m 8 #[.val (.ref xa), .val (.ref ya), .unset] [(.ref ya)]) _ _ _
    refine Go.instY X0 hx hZ hown (w40 hw) e0 (Ins.self f3) (hb hby d_eq1_8) ?_
    intro T152 X152 e152
    show Go _ _ _ _ T152 (mkF m 11 #[.val (.ref xa), .val (.ref ya), .unset] [(.int (1 : Int32))]) _ _ _
    refine Go.ifNo X152 hx (hb hby d_eq1_11) (XT.i0_eq_f (by decide)) ?_
    show Go _ _ _ _ T152 (mkF m 14 #[.val (.ref xa), .val (.ref ya), .unset] []) _ _ _
    refine Go.aloadN X152 hx (hb hby d_eq1_14) rfl rfl ?_
    show Go _ _ _ _ T152 (mkF m 15 #[.val (.ref xa), .val (.ref ya), .unset] [(.ref ya)]) _ _ _
    refine Go.ccast X152 hx hZ hown (w40 hw) e152 (Ins.self f3) (hb hby d_eq1_15) ?_
    intro T153 X153 e153
    show Go _ _ _ _ T153 (mkF m 18 #[.val (.ref xa), .val (.ref ya), .unset] [(.ref ya)]) _ _ _
    refine Go.astoreN X153 hx (hb hby d_eq1_18) rfl (l' := #[.val (.ref xa), .val (.ref ya), .val (.ref ya)]) rfl ?_
    show Go _ _ _ _ T153 (mkF m 19 #[.val (.ref xa), .val (.ref ya), .val (.ref ya)] []) _ _ _
    refine Go.getS X153 hx hZ hown (w41 hw) Via.refl e153 f8 (hb hby d_eq1_19) ?_
    intro T154 X154 e154
    show Go _ _ _ _ T154 (mkF m 22 #[.val (.ref xa), .val (.ref ya), .val (.ref ya)] [(.int cs)]) _ _ _
    refine Go.ifNo X154 hx (hb hby d_eq1_22) (XT.i0_eq_f f9) ?_
    show Go _ _ _ _ T154 (mkF m 25 #[.val (.ref xa), .val (.ref ya), .val (.ref ya)] []) _ _ _
    refine Go.aloadN X154 hx (hb hby d_eq1_25) rfl rfl ?_
    show Go _ _ _ _ T154 (mkF m 26 #[.val (.ref xa), .val (.ref ya), .val (.ref ya)] [(.ref xa)]) _ _ _
    refine Go.getF X154 hx hZ hown (w29 hw) Via.refl e154 f2 (hb hby d_eq1_26) ?_
    intro T155 X155 e155
    show Go _ _ _ _ T155 (mkF m 29 #[.val (.ref xa), .val (.ref ya), .val (.ref ya)] [(.int (0 : Int32))]) _ _ _
    refine Go.aloadN X155 hx (hb hby d_eq1_29) rfl rfl ?_
    show Go _ _ _ _ T155 (mkF m 30 #[.val (.ref xa), .val (.ref ya), .val (.ref ya)] [(.ref ya), (.int (0 : Int32))]) _ _ _
    refine Go.getF X155 hx hZ hown (w29 hw) Via.refl e155 f5 (hb hby d_eq1_30) ?_
    intro T156 X156 e156
    show Go _ _ _ _ T156 (mkF m 33 #[.val (.ref xa), .val (.ref ya), .val (.ref ya)] [(.int (0 : Int32)), (.int (0 : Int32))]) _ _ _
    refine Go.icmpNo X156 hx (hb hby d_eq1_33) (XT.ii_ne_f (by decide)) ?_
    show Go _ _ _ _ T156 (mkF m 36 #[.val (.ref xa), .val (.ref ya), .val (.ref ya)] []) _ _ _
    refine Go.aloadN X156 hx (hb hby d_eq1_36) rfl rfl ?_
    show Go _ _ _ _ T156 (mkF m 37 #[.val (.ref xa), .val (.ref ya), .val (.ref ya)] [(.ref xa)]) _ _ _
    refine Go.getF X156 hx hZ hown (w28 hw) Via.refl e156 f1 (hb hby d_eq1_37) ?_
    intro T157 X157 e157
    show Go _ _ _ _ T157 (mkF m 40 #[.val (.ref xa), .val (.ref ya), .val (.ref ya)] [(.ref bx)]) _ _ _
    refine Go.aloadN X157 hx (hb hby d_eq1_40) rfl rfl ?_
    show Go _ _ _ _ T157 (mkF m 41 #[.val (.ref xa), .val (.ref ya), .val (.ref ya)] [(.ref ya), (.ref bx)]) _ _ _
    refine Go.getF X157 hx hZ hown (w28 hw) Via.refl e157 f4 (hb hby d_eq1_41) ?_
    intro T158 X158 e158
    show Go _ _ _ _ T158 (mkF m 44 #[.val (.ref xa), .val (.ref ya), .val (.ref ya)] [(.ref bl), (.ref bx)]) _ _ _
    refine Go.callS (W := 0) (argsL := [(.ref bx), (.ref bl)]) (rest := []) X158 hx hZ hown (w42 hw) (w43 hw) (w44 hw) (w45 hw) (by decide) (rm_le1 l Z a0 hw bx bl kx kl b0 h0 n0 Z0 f6 f7) e158 (lenOf pd_5 rfl) (hb hby d_eq1_44) (by rw [hml]; rfl) rfl (Nat.le_of_eq rfl) (by decide) (by decide) (by decide) (by decide) ?_
    intro v159 T159 L159 X159 q159
    obtain ⟨rfl, M159, e159⟩ := q159
    have N159 := Fr.app N0 M159
    show Go _ _ _ _ T159 (mkF m 47 #[.val (.ref xa), .val (.ref ya), .val (.ref ya)] [(.int (0 : Int32))]) _ _ _
    refine Go.ifYes X159 hx (hb hby d_eq1_47) (XT.i0_eq_t (by decide)) (pc' := 54) (by decide) (by decide) ?_
    show Go _ _ _ _ T159 (mkF m 54 #[.val (.ref xa), .val (.ref ya), .val (.ref ya)] []) _ _ _
    refine Go.iconst X159 hx (hb hby d_eq1_54) ?_
    show Go _ _ _ _ T159 (mkF m 55 #[.val (.ref xa), .val (.ref ya), .val (.ref ya)] [(.int (0 : Int32))]) _ _ _
    refine Go.retZ X159 hx hlk hret (by decide) (hb hby d_eq1_55) (by decide) (by decide) ?_
    rw [e159]
    exact ⟨rfl, N159, rfl⟩
def Q_hs1 (Z : State) (xa : Addr) (bx : Addr) (kx : ClassId) (cs : Int32) (b0 : Int32) (h0 : Heap) (n0 : Nat) (v : Option Value) (h : Heap) (L : List Loc) : Prop := v = some (.int (1 : Int32)) ∧ Fr n0 L ∧ Keep h0 h []
theorem ef_hs1 (m : MethodId) (x0 : Addr) : entryFrame m #[(.ref x0)] 1 = mkF m 0 #[.val (.ref x0)] [] := by first | (simp [entryFrame, mkF, argsToLocals, Value.category]; done) | rfl
set_option maxRecDepth 65536 in
set_option maxHeartbeats 40000000 in
theorem rm_hs1 (l : Launch) (Z : State) (a0 : Array Value) (hw : ∀ d ∈ tables_1, d.before a0 Z = true) (HC : Held Z a0) (xa : Addr) (bx : Addr) (kx : ClassId) (cs : Int32) (b0 : Int32) (h0 : Heap) (n0 : Nat) (Z0 : n0 ≤ h0.size) (f0 : Exa Z h0 xa "java/lang/String") (f1 : Fld Z h0 xa "java/lang/String" "value" "[B" (.ref bx)) (f2 : Fld Z h0 xa "java/lang/String" "coder" "B" (.int (0 : Int32))) (f3 : Af Z h0 bx kx .byte 1 (fun i => Value.int ((updI (fun _ => (0 : Int32)) 0 b0) i))) (f4 : Sta Z h0 "java/lang/String" "COMPACT_STRINGS" "Z" (.int cs)) (f5 : ¬ cs = (0 : Int32)) (f6 : Old Z n0 h0) :
    MetW l Z (⟨"com/example/trilatch/trilatch/http/TlsPolicy", "handshakesWith", "(Ljava/lang/String;)Z"⟩ : MethodName) prog_56_method_3_code 1 (Option.some Jvm.ClassFile.FieldType.boolean) [] ({ frames := 2, cells := 2, slots := 16, locals := 28 } : Room) #[(.ref xa)] h0 [] ["DSA"] (Q_hs1 Z xa bx kx cs b0 h0 n0) := by
  refine MetW.of (plainFor_of_name pn_hs1) ?_
  intro p e s m below meth c s₁ X0 hx hby hml hZ hown hnm e0 hret hlk I0 es0 hS
  refine GoW.cast (ef_hs1 m xa) ?_
  show GoW _ _ _ s₁ (mkF m 0 #[.val (.ref xa)] []) _ _ _
  have N0 := Fr.nil n0
  refine GoW.aloadN X0 hx (hb hby d_hs1_0) rfl rfl ?_
  show GoW _ _ _ s₁ (mkF m 1 #[.val (.ref xa)] [(.ref xa)]) _ _ _
  refine GoW.ldcS (n := 12) (vs := [.int 68, .int 83, .int 65]) (z := 3) X0 hx hZ hown (w34 hw) (wS hw) e0 hS (Nat.le_refl _) (Fr.nil _) (fun b cl q => by rw [es0]; exact f6.2.2 b cl q) I0 (by decide) HC.2.1 HC.2.2 ⟨by decide, by first | rfl | decide⟩ (by decide) rfl (hb hby d_hs1_1) (by decide) (by decide) (by decide) (by decide) ?_
  intro a160 T160 h160 k160 lb160 kk160 X160 e160 E160 hS KK160 hZ hown A160 FC160 FV160 AV160 I0 LT160
  have Z160 : n0 ≤ h160.size := Nat.le_trans Z0 E160.1
  have B160 : h0.size ≤ h160.size := Nat.le_trans (Nat.le_refl _) E160.1
  have AL160 : Af Z h160 lb160 kk160 .byte 3 (fun i => Value.int ((updI (updI (updI (fun _ => (0 : Int32)) 0 (68 : Int32)) 1 (83 : Int32)) 2 (65 : Int32)) i)) := (Af.ofArv AV160).congr (fun i hi => by have hi' : i < 3 := hi; rcases lt_3 hi' with rfl | rfl | rfl <;> first | (simp [updI, updV]; done) | rfl)
  have ne_xa_lb160 : xa ≠ lb160 := Exa.neArv (Exa.ext E160 f0) AV160 (w9 hw)
  show GoW _ _ _ T160 (mkF m 3 #[.val (.ref xa)] [(.ref a160), (.ref xa)]) _ _ _
  refine GoW.callV (W := 0) (argsL := [(.ref a160)]) (rest := []) X160 hx hZ hown (w35 hw) (w36 hw) (w38 hw) (w37 hw) (w10 hw) (w39 hw) (notFace_of_selects (args := #[]) (mvT hZ (w38 hw))) (by decide) (Exa.ext E160 f0) (rm_eq1 l Z a0 hw xa a160 bx lb160 kx kk160 cs b0 h160 n0 Z160 (Exa.ext E160 f0) (Fld.ext E160 f1) (Fld.ext E160 f2) A160 FV160 FC160 (Af.ext E160 f3) AL160 (Sta.ext E160 f4) f5) e160 (lenOf pd_6 rfl) (hb hby d_hs1_3) (by rw [hml]; rfl) rfl (Nat.le_of_eq rfl) (by decide) (by decide) (by decide) (by decide) ?_
  intro v161 T161 L161 X161 q161
  obtain ⟨rfl, M161, e161⟩ := q161
  have N161 := Fr.app N0 M161
  show GoW _ _ _ T161 (mkF m 6 #[.val (.ref xa)] [(.int (0 : Int32))]) _ _ _
  refine GoW.ifNo X161 hx (hb hby d_hs1_6) (XT.i0_ne_f (by decide)) ?_
  show GoW _ _ _ T161 (mkF m 9 #[.val (.ref xa)] []) _ _ _
  refine GoW.iconst X161 hx (hb hby d_hs1_9) ?_
  show GoW _ _ _ T161 (mkF m 10 #[.val (.ref xa)] [(.int (1 : Int32))]) _ _ _
  refine GoW.goto X161 hx (hb hby d_hs1_10) (pc' := 14) (by decide) (by decide) ?_
  show GoW _ _ _ T161 (mkF m 14 #[.val (.ref xa)] [(.int (1 : Int32))]) _ _ _
  refine GoW.retZ X161 hx hlk hS (by rw [e161]; exact KK160) I0 hret (by decide) (hb hby d_hs1_14) (by decide) (by decide) ?_
  rw [e161]
  exact ⟨rfl, N161, (Keep.ext (Keep.refl _ _) E160)⟩
def Q_le2 (Z : State) (bx : Addr) (bl : Addr) (kx : ClassId) (kl : ClassId) (b0 : Int32) (b1 : Int32) (h0 : Heap) (n0 : Nat) (v : Option Value) (h : Heap) (L : List Loc) : Prop := v = some (.int (0 : Int32)) ∧ Fr n0 L ∧ h = h0
theorem ef_le2 (m : MethodId) (x0 : Addr) (x1 : Addr) : entryFrame m #[(.ref x0), (.ref x1)] 3 = mkF m 0 #[.val (.ref x0), .val (.ref x1), .unset] [] := by first | (simp [entryFrame, mkF, argsToLocals, Value.category]; done) | rfl
set_option maxRecDepth 65536 in
set_option maxHeartbeats 40000000 in
theorem rm_le2 (l : Launch) (Z : State) (a0 : Array Value) (hw : ∀ d ∈ tables_1, d.before a0 Z = true) (bx : Addr) (bl : Addr) (kx : ClassId) (kl : ClassId) (b0 : Int32) (b1 : Int32) (h0 : Heap) (n0 : Nat) (Z0 : n0 ≤ h0.size) (f0 : Af Z h0 bx kx .byte 2 (fun i => Value.int ((updI (updI (fun _ => (0 : Int32)) 0 b0) 1 b1) i))) (f1 : Af Z h0 bl kl .byte 3 (fun i => Value.int ((updI (updI (updI (fun _ => (0 : Int32)) 0 (68 : Int32)) 1 (83 : Int32)) 2 (65 : Int32)) i))) :
    Met l Z (⟨"java/lang/StringLatin1", "equals", "([B[B)Z"⟩ : MethodName) jdk_43_method_13_code 3 (Option.some Jvm.ClassFile.FieldType.boolean) [] ({ frames := 0, cells := 0, slots := 0, locals := 0 } : Room) #[(.ref bx), (.ref bl)] h0 (Q_le2 Z bx bl kx kl b0 b1 h0 n0) := by
  refine Met.of (plainFor_of_name pn_le2) ?_
  intro p e s m below meth c s₁ X0 hx hby hml hZ hown hnm e0 hret hlk
  refine Go.cast (ef_le2 m bx bl) ?_
  show Go _ _ _ _ s₁ (mkF m 0 #[.val (.ref bx), .val (.ref bl), .unset] []) _ _ _
  have N0 := Fr.nil n0
  refine Go.aloadN X0 hx (hb hby d_le2_0) rfl rfl ?_
  show Go _ _ _ _ s₁ (mkF m 1 #[.val (.ref bx), .val (.ref bl), .unset] [(.ref bx)]) _ _ _
  refine Go.alen X0 hx hZ e0 f0 (hb hby d_le2_1) ?_
  show Go _ _ _ _ s₁ (mkF m 2 #[.val (.ref bx), .val (.ref bl), .unset] [(.int (2 : Int32))]) _ _ _
  refine Go.aloadN X0 hx (hb hby d_le2_2) rfl rfl ?_
  show Go _ _ _ _ s₁ (mkF m 3 #[.val (.ref bx), .val (.ref bl), .unset] [(.ref bl), (.int (2 : Int32))]) _ _ _
  refine Go.alen X0 hx hZ e0 f1 (hb hby d_le2_3) ?_
  show Go _ _ _ _ s₁ (mkF m 4 #[.val (.ref bx), .val (.ref bl), .unset] [(.int (3 : Int32)), (.int (2 : Int32))]) _ _ _
  refine Go.icmpYes X0 hx (hb hby d_le2_4) (XT.ii_ne_t (by decide)) (pc' := 34) (by decide) (by decide) ?_
  show Go _ _ _ _ s₁ (mkF m 34 #[.val (.ref bx), .val (.ref bl), .unset] []) _ _ _
  refine Go.iconst X0 hx (hb hby d_le2_34) ?_
  show Go _ _ _ _ s₁ (mkF m 35 #[.val (.ref bx), .val (.ref bl), .unset] [(.int (0 : Int32))]) _ _ _
  refine Go.retZ X0 hx hlk hret (by decide) (hb hby d_le2_35) (by decide) (by decide) ?_
  rw [e0]
  exact ⟨rfl, N0, rfl⟩
def Q_eq2 (Z : State) (xa : Addr) (ya : Addr) (bx : Addr) (bl : Addr) (kx : ClassId) (kl : ClassId) (cs : Int32) (b0 : Int32) (b1 : Int32) (h0 : Heap) (n0 : Nat) (v : Option Value) (h : Heap) (L : List Loc) : Prop := v = some (.int (0 : Int32)) ∧ Fr n0 L ∧ h = h0
theorem ef_eq2 (m : MethodId) (x0 : Addr) (x1 : Addr) : entryFrame m #[(.ref x0), (.ref x1)] 3 = mkF m 0 #[.val (.ref x0), .val (.ref x1), .unset] [] := by first | (simp [entryFrame, mkF, argsToLocals, Value.category]; done) | rfl
set_option maxRecDepth 65536 in
set_option maxHeartbeats 40000000 in
theorem rm_eq2 (l : Launch) (Z : State) (a0 : Array Value) (hw : ∀ d ∈ tables_1, d.before a0 Z = true) (xa : Addr) (ya : Addr) (bx : Addr) (bl : Addr) (kx : ClassId) (kl : ClassId) (cs : Int32) (b0 : Int32) (b1 : Int32) (h0 : Heap) (n0 : Nat) (Z0 : n0 ≤ h0.size) (f0 : Exa Z h0 xa "java/lang/String") (f1 : Fld Z h0 xa "java/lang/String" "value" "[B" (.ref bx)) (f2 : Fld Z h0 xa "java/lang/String" "coder" "B" (.int (0 : Int32))) (f3 : Exa Z h0 ya "java/lang/String") (f4 : Fld Z h0 ya "java/lang/String" "value" "[B" (.ref bl)) (f5 : Fld Z h0 ya "java/lang/String" "coder" "B" (.int (0 : Int32))) (f6 : Af Z h0 bx kx .byte 2 (fun i => Value.int ((updI (updI (fun _ => (0 : Int32)) 0 b0) 1 b1) i))) (f7 : Af Z h0 bl kl .byte 3 (fun i => Value.int ((updI (updI (updI (fun _ => (0 : Int32)) 0 (68 : Int32)) 1 (83 : Int32)) 2 (65 : Int32)) i))) (f8 : Sta Z h0 "java/lang/String" "COMPACT_STRINGS" "Z" (.int cs)) (f9 : ¬ cs = (0 : Int32)) :
    Met l Z (⟨"java/lang/String", "equals", "(Ljava/lang/Object;)Z"⟩ : MethodName) jdk_42_method_66_code 3 (Option.some Jvm.ClassFile.FieldType.boolean) [] ({ frames := 1, cells := 0, slots := 0, locals := 14 } : Room) #[(.ref xa), (.ref ya)] h0 (Q_eq2 Z xa ya bx bl kx kl cs b0 b1 h0 n0) := by
  refine Met.of (plainFor_of_name pn_eq2) ?_
  intro p e s m below meth c s₁ X0 hx hby hml hZ hown hnm e0 hret hlk
  refine Go.cast (ef_eq2 m xa ya) ?_
  show Go _ _ _ _ s₁ (mkF m 0 #[.val (.ref xa), .val (.ref ya), .unset] []) _ _ _
  have N0 := Fr.nil n0
  refine Go.aloadN X0 hx (hb hby d_eq2_0) rfl rfl ?_
  show Go _ _ _ _ s₁ (mkF m 1 #[.val (.ref xa), .val (.ref ya), .unset] [(.ref xa)]) _ _ _
  refine Go.aloadN X0 hx (hb hby d_eq2_1) rfl rfl ?_
  show Go _ _ _ _ s₁ (mkF m 2 #[.val (.ref xa), .val (.ref ya), .unset] [(.ref ya), (.ref xa)]) _ _ _
  rcases Decidable.em (xa = ya) with c162 | c162
  · refine Go.acmpNo X0 hx (hb hby d_eq2_2) rfl rfl (ac_ne_p c162) ?_
    show Go _ _ _ _ s₁ (mkF m 5 #[.val (.ref xa), .val (.ref ya), .unset] []) _ _ _
    refine Go.iconst X0 hx (hb hby d_eq2_5) ?_
    show Go _ _ _ _ s₁ (mkF m 6 #[.val (.ref xa), .val (.ref ya), .unset] [(.int (1 : Int32))]) _ _ _
    refine Go.retZ X0 hx hlk hret (by decide) (hb hby d_eq2_6) (by decide) (by decide) ?_
    rw [e0]
    exact absurd (same_str c162 f1 f4 f6 f7).1 (by decide)
  · refine Go.acmpYes X0 hx (hb hby d_eq2_2) rfl rfl (ac_ne_n c162) (pc' := 7) (by decide) (by decide) ?_
    show Go _ _ _ _ s₁ (mkF m 7 #[.val (.ref xa), .val (.ref ya), .unset] []) _ _ _
    refine Go.aloadN X0 hx (hb hby d_eq2_7) rfl rfl ?_
    show Go _ _ _ _ s₁ (mkF m 8 #[.val (.ref xa), .val (.ref ya), .unset] [(.ref ya)]) _ _ _
    refine Go.instY X0 hx hZ hown (w40 hw) e0 (Ins.self f3) (hb hby d_eq2_8) ?_
    intro T163 X163 e163
    show Go _ _ _ _ T163 (mkF m 11 #[.val (.ref xa), .val (.ref ya), .unset] [(.int (1 : Int32))]) _ _ _
    refine Go.ifNo X163 hx (hb hby d_eq2_11) (XT.i0_eq_f (by decide)) ?_
    show Go _ _ _ _ T163 (mkF m 14 #[.val (.ref xa), .val (.ref ya), .unset] []) _ _ _
    refine Go.aloadN X163 hx (hb hby d_eq2_14) rfl rfl ?_
    show Go _ _ _ _ T163 (mkF m 15 #[.val (.ref xa), .val (.ref ya), .unset] [(.ref ya)]) _ _ _
    refine Go.ccast X163 hx hZ hown (w40 hw) e163 (Ins.self f3) (hb hby d_eq2_15) ?_
    intro T164 X164 e164
    show Go _ _ _ _ T164 (mkF m 18 #[.val (.ref xa), .val (.ref ya), .unset] [(.ref ya)]) _ _ _
    refine Go.astoreN X164 hx (hb hby d_eq2_18) rfl (l' := #[.val (.ref xa), .val (.ref ya), .val (.ref ya)]) rfl ?_
    show Go _ _ _ _ T164 (mkF m 19 #[.val (.ref xa), .val (.ref ya), .val (.ref ya)] []) _ _ _
    refine Go.getS X164 hx hZ hown (w41 hw) Via.refl e164 f8 (hb hby d_eq2_19) ?_
    intro T165 X165 e165
    show Go _ _ _ _ T165 (mkF m 22 #[.val (.ref xa), .val (.ref ya), .val (.ref ya)] [(.int cs)]) _ _ _
    refine Go.ifNo X165 hx (hb hby d_eq2_22) (XT.i0_eq_f f9) ?_
    show Go _ _ _ _ T165 (mkF m 25 #[.val (.ref xa), .val (.ref ya), .val (.ref ya)] []) _ _ _
    refine Go.aloadN X165 hx (hb hby d_eq2_25) rfl rfl ?_
    show Go _ _ _ _ T165 (mkF m 26 #[.val (.ref xa), .val (.ref ya), .val (.ref ya)] [(.ref xa)]) _ _ _
    refine Go.getF X165 hx hZ hown (w29 hw) Via.refl e165 f2 (hb hby d_eq2_26) ?_
    intro T166 X166 e166
    show Go _ _ _ _ T166 (mkF m 29 #[.val (.ref xa), .val (.ref ya), .val (.ref ya)] [(.int (0 : Int32))]) _ _ _
    refine Go.aloadN X166 hx (hb hby d_eq2_29) rfl rfl ?_
    show Go _ _ _ _ T166 (mkF m 30 #[.val (.ref xa), .val (.ref ya), .val (.ref ya)] [(.ref ya), (.int (0 : Int32))]) _ _ _
    refine Go.getF X166 hx hZ hown (w29 hw) Via.refl e166 f5 (hb hby d_eq2_30) ?_
    intro T167 X167 e167
    show Go _ _ _ _ T167 (mkF m 33 #[.val (.ref xa), .val (.ref ya), .val (.ref ya)] [(.int (0 : Int32)), (.int (0 : Int32))]) _ _ _
    refine Go.icmpNo X167 hx (hb hby d_eq2_33) (XT.ii_ne_f (by decide)) ?_
    show Go _ _ _ _ T167 (mkF m 36 #[.val (.ref xa), .val (.ref ya), .val (.ref ya)] []) _ _ _
    refine Go.aloadN X167 hx (hb hby d_eq2_36) rfl rfl ?_
    show Go _ _ _ _ T167 (mkF m 37 #[.val (.ref xa), .val (.ref ya), .val (.ref ya)] [(.ref xa)]) _ _ _
    refine Go.getF X167 hx hZ hown (w28 hw) Via.refl e167 f1 (hb hby d_eq2_37) ?_
    intro T168 X168 e168
    show Go _ _ _ _ T168 (mkF m 40 #[.val (.ref xa), .val (.ref ya), .val (.ref ya)] [(.ref bx)]) _ _ _
    refine Go.aloadN X168 hx (hb hby d_eq2_40) rfl rfl ?_
    show Go _ _ _ _ T168 (mkF m 41 #[.val (.ref xa), .val (.ref ya), .val (.ref ya)] [(.ref ya), (.ref bx)]) _ _ _
    refine Go.getF X168 hx hZ hown (w28 hw) Via.refl e168 f4 (hb hby d_eq2_41) ?_
    intro T169 X169 e169
    show Go _ _ _ _ T169 (mkF m 44 #[.val (.ref xa), .val (.ref ya), .val (.ref ya)] [(.ref bl), (.ref bx)]) _ _ _
    refine Go.callS (W := 0) (argsL := [(.ref bx), (.ref bl)]) (rest := []) X169 hx hZ hown (w42 hw) (w43 hw) (w44 hw) (w45 hw) (by decide) (rm_le2 l Z a0 hw bx bl kx kl b0 b1 h0 n0 Z0 f6 f7) e169 (lenOf pd_5 rfl) (hb hby d_eq2_44) (by rw [hml]; rfl) rfl (Nat.le_of_eq rfl) (by decide) (by decide) (by decide) (by decide) ?_
    intro v170 T170 L170 X170 q170
    obtain ⟨rfl, M170, e170⟩ := q170
    have N170 := Fr.app N0 M170
    show Go _ _ _ _ T170 (mkF m 47 #[.val (.ref xa), .val (.ref ya), .val (.ref ya)] [(.int (0 : Int32))]) _ _ _
    refine Go.ifYes X170 hx (hb hby d_eq2_47) (XT.i0_eq_t (by decide)) (pc' := 54) (by decide) (by decide) ?_
    show Go _ _ _ _ T170 (mkF m 54 #[.val (.ref xa), .val (.ref ya), .val (.ref ya)] []) _ _ _
    refine Go.iconst X170 hx (hb hby d_eq2_54) ?_
    show Go _ _ _ _ T170 (mkF m 55 #[.val (.ref xa), .val (.ref ya), .val (.ref ya)] [(.int (0 : Int32))]) _ _ _
    refine Go.retZ X170 hx hlk hret (by decide) (hb hby d_eq2_55) (by decide) (by decide) ?_
    rw [e170]
    exact ⟨rfl, N170, rfl⟩
def Q_hs2 (Z : State) (xa : Addr) (bx : Addr) (kx : ClassId) (cs : Int32) (b0 : Int32) (b1 : Int32) (h0 : Heap) (n0 : Nat) (v : Option Value) (h : Heap) (L : List Loc) : Prop := v = some (.int (1 : Int32)) ∧ Fr n0 L ∧ Keep h0 h []
theorem ef_hs2 (m : MethodId) (x0 : Addr) : entryFrame m #[(.ref x0)] 1 = mkF m 0 #[.val (.ref x0)] [] := by first | (simp [entryFrame, mkF, argsToLocals, Value.category]; done) | rfl
set_option maxRecDepth 65536 in
set_option maxHeartbeats 40000000 in
theorem rm_hs2 (l : Launch) (Z : State) (a0 : Array Value) (hw : ∀ d ∈ tables_1, d.before a0 Z = true) (HC : Held Z a0) (xa : Addr) (bx : Addr) (kx : ClassId) (cs : Int32) (b0 : Int32) (b1 : Int32) (h0 : Heap) (n0 : Nat) (Z0 : n0 ≤ h0.size) (f0 : Exa Z h0 xa "java/lang/String") (f1 : Fld Z h0 xa "java/lang/String" "value" "[B" (.ref bx)) (f2 : Fld Z h0 xa "java/lang/String" "coder" "B" (.int (0 : Int32))) (f3 : Af Z h0 bx kx .byte 2 (fun i => Value.int ((updI (updI (fun _ => (0 : Int32)) 0 b0) 1 b1) i))) (f4 : Sta Z h0 "java/lang/String" "COMPACT_STRINGS" "Z" (.int cs)) (f5 : ¬ cs = (0 : Int32)) (f6 : Old Z n0 h0) :
    MetW l Z (⟨"com/example/trilatch/trilatch/http/TlsPolicy", "handshakesWith", "(Ljava/lang/String;)Z"⟩ : MethodName) prog_56_method_3_code 1 (Option.some Jvm.ClassFile.FieldType.boolean) [] ({ frames := 2, cells := 2, slots := 16, locals := 28 } : Room) #[(.ref xa)] h0 [] ["DSA"] (Q_hs2 Z xa bx kx cs b0 b1 h0 n0) := by
  refine MetW.of (plainFor_of_name pn_hs2) ?_
  intro p e s m below meth c s₁ X0 hx hby hml hZ hown hnm e0 hret hlk I0 es0 hS
  refine GoW.cast (ef_hs2 m xa) ?_
  show GoW _ _ _ s₁ (mkF m 0 #[.val (.ref xa)] []) _ _ _
  have N0 := Fr.nil n0
  refine GoW.aloadN X0 hx (hb hby d_hs2_0) rfl rfl ?_
  show GoW _ _ _ s₁ (mkF m 1 #[.val (.ref xa)] [(.ref xa)]) _ _ _
  refine GoW.ldcS (n := 12) (vs := [.int 68, .int 83, .int 65]) (z := 3) X0 hx hZ hown (w34 hw) (wS hw) e0 hS (Nat.le_refl _) (Fr.nil _) (fun b cl q => by rw [es0]; exact f6.2.2 b cl q) I0 (by decide) HC.2.1 HC.2.2 ⟨by decide, by first | rfl | decide⟩ (by decide) rfl (hb hby d_hs2_1) (by decide) (by decide) (by decide) (by decide) ?_
  intro a171 T171 h171 k171 lb171 kk171 X171 e171 E171 hS KK171 hZ hown A171 FC171 FV171 AV171 I0 LT171
  have Z171 : n0 ≤ h171.size := Nat.le_trans Z0 E171.1
  have B171 : h0.size ≤ h171.size := Nat.le_trans (Nat.le_refl _) E171.1
  have AL171 : Af Z h171 lb171 kk171 .byte 3 (fun i => Value.int ((updI (updI (updI (fun _ => (0 : Int32)) 0 (68 : Int32)) 1 (83 : Int32)) 2 (65 : Int32)) i)) := (Af.ofArv AV171).congr (fun i hi => by have hi' : i < 3 := hi; rcases lt_3 hi' with rfl | rfl | rfl <;> first | (simp [updI, updV]; done) | rfl)
  have ne_xa_lb171 : xa ≠ lb171 := Exa.neArv (Exa.ext E171 f0) AV171 (w9 hw)
  show GoW _ _ _ T171 (mkF m 3 #[.val (.ref xa)] [(.ref a171), (.ref xa)]) _ _ _
  refine GoW.callV (W := 0) (argsL := [(.ref a171)]) (rest := []) X171 hx hZ hown (w35 hw) (w36 hw) (w38 hw) (w37 hw) (w10 hw) (w39 hw) (notFace_of_selects (args := #[]) (mvT hZ (w38 hw))) (by decide) (Exa.ext E171 f0) (rm_eq2 l Z a0 hw xa a171 bx lb171 kx kk171 cs b0 b1 h171 n0 Z171 (Exa.ext E171 f0) (Fld.ext E171 f1) (Fld.ext E171 f2) A171 FV171 FC171 (Af.ext E171 f3) AL171 (Sta.ext E171 f4) f5) e171 (lenOf pd_6 rfl) (hb hby d_hs2_3) (by rw [hml]; rfl) rfl (Nat.le_of_eq rfl) (by decide) (by decide) (by decide) (by decide) ?_
  intro v172 T172 L172 X172 q172
  obtain ⟨rfl, M172, e172⟩ := q172
  have N172 := Fr.app N0 M172
  show GoW _ _ _ T172 (mkF m 6 #[.val (.ref xa)] [(.int (0 : Int32))]) _ _ _
  refine GoW.ifNo X172 hx (hb hby d_hs2_6) (XT.i0_ne_f (by decide)) ?_
  show GoW _ _ _ T172 (mkF m 9 #[.val (.ref xa)] []) _ _ _
  refine GoW.iconst X172 hx (hb hby d_hs2_9) ?_
  show GoW _ _ _ T172 (mkF m 10 #[.val (.ref xa)] [(.int (1 : Int32))]) _ _ _
  refine GoW.goto X172 hx (hb hby d_hs2_10) (pc' := 14) (by decide) (by decide) ?_
  show GoW _ _ _ T172 (mkF m 14 #[.val (.ref xa)] [(.int (1 : Int32))]) _ _ _
  refine GoW.retZ X172 hx hlk hS (by rw [e172]; exact KK171) I0 hret (by decide) (hb hby d_hs2_14) (by decide) (by decide) ?_
  rw [e172]
  exact ⟨rfl, N172, (Keep.ext (Keep.refl _ _) E171)⟩
def Q_le3 (Z : State) (bx : Addr) (bl : Addr) (kx : ClassId) (kl : ClassId) (b0 : Int32) (b1 : Int32) (b2 : Int32) (h0 : Heap) (n0 : Nat) (v : Option Value) (h : Heap) (L : List Loc) : Prop := ∃ (r : Int32), v = some (.int r) ∧ Fr n0 L ∧ h = h0 ∧ ((r = (1 : Int32) ∧ b0 = (68 : Int32) ∧ b1 = (83 : Int32) ∧ b2 = (65 : Int32)) ∨ (r = (0 : Int32) ∧ ¬ (b0 = (68 : Int32) ∧ b1 = (83 : Int32) ∧ b2 = (65 : Int32))))
theorem ef_le3 (m : MethodId) (x0 : Addr) (x1 : Addr) : entryFrame m #[(.ref x0), (.ref x1)] 3 = mkF m 0 #[.val (.ref x0), .val (.ref x1), .unset] [] := by first | (simp [entryFrame, mkF, argsToLocals, Value.category]; done) | rfl
set_option maxRecDepth 65536 in
set_option maxHeartbeats 40000000 in
theorem rm_le3 (l : Launch) (Z : State) (a0 : Array Value) (hw : ∀ d ∈ tables_1, d.before a0 Z = true) (bx : Addr) (bl : Addr) (kx : ClassId) (kl : ClassId) (b0 : Int32) (b1 : Int32) (b2 : Int32) (h0 : Heap) (n0 : Nat) (Z0 : n0 ≤ h0.size) (f0 : Af Z h0 bx kx .byte 3 (fun i => Value.int ((updI (updI (updI (fun _ => (0 : Int32)) 0 b0) 1 b1) 2 b2) i))) (f1 : Af Z h0 bl kl .byte 3 (fun i => Value.int ((updI (updI (updI (fun _ => (0 : Int32)) 0 (68 : Int32)) 1 (83 : Int32)) 2 (65 : Int32)) i))) :
    Met l Z (⟨"java/lang/StringLatin1", "equals", "([B[B)Z"⟩ : MethodName) jdk_43_method_13_code 3 (Option.some Jvm.ClassFile.FieldType.boolean) [] ({ frames := 0, cells := 0, slots := 0, locals := 0 } : Room) #[(.ref bx), (.ref bl)] h0 (Q_le3 Z bx bl kx kl b0 b1 b2 h0 n0) := by
  refine Met.of (plainFor_of_name pn_le3) ?_
  intro p e s m below meth c s₁ X0 hx hby hml hZ hown hnm e0 hret hlk
  refine Go.cast (ef_le3 m bx bl) ?_
  show Go _ _ _ _ s₁ (mkF m 0 #[.val (.ref bx), .val (.ref bl), .unset] []) _ _ _
  have N0 := Fr.nil n0
  refine Go.aloadN X0 hx (hb hby d_le3_0) rfl rfl ?_
  show Go _ _ _ _ s₁ (mkF m 1 #[.val (.ref bx), .val (.ref bl), .unset] [(.ref bx)]) _ _ _
  refine Go.alen X0 hx hZ e0 f0 (hb hby d_le3_1) ?_
  show Go _ _ _ _ s₁ (mkF m 2 #[.val (.ref bx), .val (.ref bl), .unset] [(.int (3 : Int32))]) _ _ _
  refine Go.aloadN X0 hx (hb hby d_le3_2) rfl rfl ?_
  show Go _ _ _ _ s₁ (mkF m 3 #[.val (.ref bx), .val (.ref bl), .unset] [(.ref bl), (.int (3 : Int32))]) _ _ _
  refine Go.alen X0 hx hZ e0 f1 (hb hby d_le3_3) ?_
  show Go _ _ _ _ s₁ (mkF m 4 #[.val (.ref bx), .val (.ref bl), .unset] [(.int (3 : Int32)), (.int (3 : Int32))]) _ _ _
  refine Go.icmpNo X0 hx (hb hby d_le3_4) (XT.ii_ne_f (by decide)) ?_
  show Go _ _ _ _ s₁ (mkF m 7 #[.val (.ref bx), .val (.ref bl), .unset] []) _ _ _
  refine Go.iconst X0 hx (hb hby d_le3_7) ?_
  show Go _ _ _ _ s₁ (mkF m 8 #[.val (.ref bx), .val (.ref bl), .unset] [(.int (0 : Int32))]) _ _ _
  refine Go.istoreN X0 hx (hb hby d_le3_8) (l' := #[.val (.ref bx), .val (.ref bl), .val (.int (0 : Int32))]) rfl ?_
  show Go _ _ _ _ s₁ (mkF m 9 #[.val (.ref bx), .val (.ref bl), .val (.int (0 : Int32))] []) _ _ _
  refine Go.iloadN X0 hx (hb hby d_le3_9) rfl ?_
  show Go _ _ _ _ s₁ (mkF m 10 #[.val (.ref bx), .val (.ref bl), .val (.int (0 : Int32))] [(.int (0 : Int32))]) _ _ _
  refine Go.aloadN X0 hx (hb hby d_le3_10) rfl rfl ?_
  show Go _ _ _ _ s₁ (mkF m 11 #[.val (.ref bx), .val (.ref bl), .val (.int (0 : Int32))] [(.ref bx), (.int (0 : Int32))]) _ _ _
  refine Go.alen X0 hx hZ e0 f0 (hb hby d_le3_11) ?_
  show Go _ _ _ _ s₁ (mkF m 12 #[.val (.ref bx), .val (.ref bl), .val (.int (0 : Int32))] [(.int (3 : Int32)), (.int (0 : Int32))]) _ _ _
  refine Go.icmpNo X0 hx (hb hby d_le3_12) (XT.ii_ge_f (by decide)) ?_
  show Go _ _ _ _ s₁ (mkF m 15 #[.val (.ref bx), .val (.ref bl), .val (.int (0 : Int32))] []) _ _ _
  refine Go.aloadN X0 hx (hb hby d_le3_15) rfl rfl ?_
  show Go _ _ _ _ s₁ (mkF m 16 #[.val (.ref bx), .val (.ref bl), .val (.int (0 : Int32))] [(.ref bx)]) _ _ _
  refine Go.iloadN X0 hx (hb hby d_le3_16) rfl ?_
  show Go _ _ _ _ s₁ (mkF m 17 #[.val (.ref bx), .val (.ref bl), .val (.int (0 : Int32))] [(.int (0 : Int32)), (.ref bx)]) _ _ _
  refine Go.baloadB X0 hx hZ e0 f0 (by decide) (by decide) (hb hby d_le3_17) ?_
  show Go _ _ _ _ s₁ (mkF m 18 #[.val (.ref bx), .val (.ref bl), .val (.int (0 : Int32))] [(.int b0)]) _ _ _
  refine Go.aloadN X0 hx (hb hby d_le3_18) rfl rfl ?_
  show Go _ _ _ _ s₁ (mkF m 19 #[.val (.ref bx), .val (.ref bl), .val (.int (0 : Int32))] [(.ref bl), (.int b0)]) _ _ _
  refine Go.iloadN X0 hx (hb hby d_le3_19) rfl ?_
  show Go _ _ _ _ s₁ (mkF m 20 #[.val (.ref bx), .val (.ref bl), .val (.int (0 : Int32))] [(.int (0 : Int32)), (.ref bl), (.int b0)]) _ _ _
  refine Go.baloadB X0 hx hZ e0 f1 (by decide) (by decide) (hb hby d_le3_20) ?_
  show Go _ _ _ _ s₁ (mkF m 21 #[.val (.ref bx), .val (.ref bl), .val (.int (0 : Int32))] [(.int (68 : Int32)), (.int b0)]) _ _ _
  rcases Decidable.em (b0 = (68 : Int32)) with c173 | c173
  · refine Go.icmpYes X0 hx (hb hby d_le3_21) (XT.ii_eq_t c173) (pc' := 26) (by decide) (by decide) ?_
    show Go _ _ _ _ s₁ (mkF m 26 #[.val (.ref bx), .val (.ref bl), .val (.int (0 : Int32))] []) _ _ _
    refine Go.iinc X0 hx (hb hby d_le3_26) rfl (l' := #[.val (.ref bx), .val (.ref bl), .val (.int (1 : Int32))]) rfl ?_
    show Go _ _ _ _ s₁ (mkF m 29 #[.val (.ref bx), .val (.ref bl), .val (.int (1 : Int32))] []) _ _ _
    refine Go.goto X0 hx (hb hby d_le3_29) (pc' := 9) (by decide) (by decide) ?_
    show Go _ _ _ _ s₁ (mkF m 9 #[.val (.ref bx), .val (.ref bl), .val (.int (1 : Int32))] []) _ _ _
    refine Go.iloadN X0 hx (hb hby d_le3_9) rfl ?_
    show Go _ _ _ _ s₁ (mkF m 10 #[.val (.ref bx), .val (.ref bl), .val (.int (1 : Int32))] [(.int (1 : Int32))]) _ _ _
    refine Go.aloadN X0 hx (hb hby d_le3_10) rfl rfl ?_
    show Go _ _ _ _ s₁ (mkF m 11 #[.val (.ref bx), .val (.ref bl), .val (.int (1 : Int32))] [(.ref bx), (.int (1 : Int32))]) _ _ _
    refine Go.alen X0 hx hZ e0 f0 (hb hby d_le3_11) ?_
    show Go _ _ _ _ s₁ (mkF m 12 #[.val (.ref bx), .val (.ref bl), .val (.int (1 : Int32))] [(.int (3 : Int32)), (.int (1 : Int32))]) _ _ _
    refine Go.icmpNo X0 hx (hb hby d_le3_12) (XT.ii_ge_f (by decide)) ?_
    show Go _ _ _ _ s₁ (mkF m 15 #[.val (.ref bx), .val (.ref bl), .val (.int (1 : Int32))] []) _ _ _
    refine Go.aloadN X0 hx (hb hby d_le3_15) rfl rfl ?_
    show Go _ _ _ _ s₁ (mkF m 16 #[.val (.ref bx), .val (.ref bl), .val (.int (1 : Int32))] [(.ref bx)]) _ _ _
    refine Go.iloadN X0 hx (hb hby d_le3_16) rfl ?_
    show Go _ _ _ _ s₁ (mkF m 17 #[.val (.ref bx), .val (.ref bl), .val (.int (1 : Int32))] [(.int (1 : Int32)), (.ref bx)]) _ _ _
    refine Go.baloadB X0 hx hZ e0 f0 (by decide) (by decide) (hb hby d_le3_17) ?_
    show Go _ _ _ _ s₁ (mkF m 18 #[.val (.ref bx), .val (.ref bl), .val (.int (1 : Int32))] [(.int b1)]) _ _ _
    refine Go.aloadN X0 hx (hb hby d_le3_18) rfl rfl ?_
    show Go _ _ _ _ s₁ (mkF m 19 #[.val (.ref bx), .val (.ref bl), .val (.int (1 : Int32))] [(.ref bl), (.int b1)]) _ _ _
    refine Go.iloadN X0 hx (hb hby d_le3_19) rfl ?_
    show Go _ _ _ _ s₁ (mkF m 20 #[.val (.ref bx), .val (.ref bl), .val (.int (1 : Int32))] [(.int (1 : Int32)), (.ref bl), (.int b1)]) _ _ _
    refine Go.baloadB X0 hx hZ e0 f1 (by decide) (by decide) (hb hby d_le3_20) ?_
    show Go _ _ _ _ s₁ (mkF m 21 #[.val (.ref bx), .val (.ref bl), .val (.int (1 : Int32))] [(.int (83 : Int32)), (.int b1)]) _ _ _
    rcases Decidable.em (b1 = (83 : Int32)) with c174 | c174
    · refine Go.icmpYes X0 hx (hb hby d_le3_21) (XT.ii_eq_t c174) (pc' := 26) (by decide) (by decide) ?_
      show Go _ _ _ _ s₁ (mkF m 26 #[.val (.ref bx), .val (.ref bl), .val (.int (1 : Int32))] []) _ _ _
      refine Go.iinc X0 hx (hb hby d_le3_26) rfl (l' := #[.val (.ref bx), .val (.ref bl), .val (.int (2 : Int32))]) rfl ?_
      show Go _ _ _ _ s₁ (mkF m 29 #[.val (.ref bx), .val (.ref bl), .val (.int (2 : Int32))] []) _ _ _
      refine Go.goto X0 hx (hb hby d_le3_29) (pc' := 9) (by decide) (by decide) ?_
      show Go _ _ _ _ s₁ (mkF m 9 #[.val (.ref bx), .val (.ref bl), .val (.int (2 : Int32))] []) _ _ _
      refine Go.iloadN X0 hx (hb hby d_le3_9) rfl ?_
      show Go _ _ _ _ s₁ (mkF m 10 #[.val (.ref bx), .val (.ref bl), .val (.int (2 : Int32))] [(.int (2 : Int32))]) _ _ _
      refine Go.aloadN X0 hx (hb hby d_le3_10) rfl rfl ?_
      show Go _ _ _ _ s₁ (mkF m 11 #[.val (.ref bx), .val (.ref bl), .val (.int (2 : Int32))] [(.ref bx), (.int (2 : Int32))]) _ _ _
      refine Go.alen X0 hx hZ e0 f0 (hb hby d_le3_11) ?_
      show Go _ _ _ _ s₁ (mkF m 12 #[.val (.ref bx), .val (.ref bl), .val (.int (2 : Int32))] [(.int (3 : Int32)), (.int (2 : Int32))]) _ _ _
      refine Go.icmpNo X0 hx (hb hby d_le3_12) (XT.ii_ge_f (by decide)) ?_
      show Go _ _ _ _ s₁ (mkF m 15 #[.val (.ref bx), .val (.ref bl), .val (.int (2 : Int32))] []) _ _ _
      refine Go.aloadN X0 hx (hb hby d_le3_15) rfl rfl ?_
      show Go _ _ _ _ s₁ (mkF m 16 #[.val (.ref bx), .val (.ref bl), .val (.int (2 : Int32))] [(.ref bx)]) _ _ _
      refine Go.iloadN X0 hx (hb hby d_le3_16) rfl ?_
      show Go _ _ _ _ s₁ (mkF m 17 #[.val (.ref bx), .val (.ref bl), .val (.int (2 : Int32))] [(.int (2 : Int32)), (.ref bx)]) _ _ _
      refine Go.baloadB X0 hx hZ e0 f0 (by decide) (by decide) (hb hby d_le3_17) ?_
      show Go _ _ _ _ s₁ (mkF m 18 #[.val (.ref bx), .val (.ref bl), .val (.int (2 : Int32))] [(.int b2)]) _ _ _
      refine Go.aloadN X0 hx (hb hby d_le3_18) rfl rfl ?_
      show Go _ _ _ _ s₁ (mkF m 19 #[.val (.ref bx), .val (.ref bl), .val (.int (2 : Int32))] [(.ref bl), (.int b2)]) _ _ _
      refine Go.iloadN X0 hx (hb hby d_le3_19) rfl ?_
      show Go _ _ _ _ s₁ (mkF m 20 #[.val (.ref bx), .val (.ref bl), .val (.int (2 : Int32))] [(.int (2 : Int32)), (.ref bl), (.int b2)]) _ _ _
      refine Go.baloadB X0 hx hZ e0 f1 (by decide) (by decide) (hb hby d_le3_20) ?_
      show Go _ _ _ _ s₁ (mkF m 21 #[.val (.ref bx), .val (.ref bl), .val (.int (2 : Int32))] [(.int (65 : Int32)), (.int b2)]) _ _ _
      rcases Decidable.em (b2 = (65 : Int32)) with c175 | c175
      · refine Go.icmpYes X0 hx (hb hby d_le3_21) (XT.ii_eq_t c175) (pc' := 26) (by decide) (by decide) ?_
        show Go _ _ _ _ s₁ (mkF m 26 #[.val (.ref bx), .val (.ref bl), .val (.int (2 : Int32))] []) _ _ _
        refine Go.iinc X0 hx (hb hby d_le3_26) rfl (l' := #[.val (.ref bx), .val (.ref bl), .val (.int (3 : Int32))]) rfl ?_
        show Go _ _ _ _ s₁ (mkF m 29 #[.val (.ref bx), .val (.ref bl), .val (.int (3 : Int32))] []) _ _ _
        refine Go.goto X0 hx (hb hby d_le3_29) (pc' := 9) (by decide) (by decide) ?_
        show Go _ _ _ _ s₁ (mkF m 9 #[.val (.ref bx), .val (.ref bl), .val (.int (3 : Int32))] []) _ _ _
        refine Go.iloadN X0 hx (hb hby d_le3_9) rfl ?_
        show Go _ _ _ _ s₁ (mkF m 10 #[.val (.ref bx), .val (.ref bl), .val (.int (3 : Int32))] [(.int (3 : Int32))]) _ _ _
        refine Go.aloadN X0 hx (hb hby d_le3_10) rfl rfl ?_
        show Go _ _ _ _ s₁ (mkF m 11 #[.val (.ref bx), .val (.ref bl), .val (.int (3 : Int32))] [(.ref bx), (.int (3 : Int32))]) _ _ _
        refine Go.alen X0 hx hZ e0 f0 (hb hby d_le3_11) ?_
        show Go _ _ _ _ s₁ (mkF m 12 #[.val (.ref bx), .val (.ref bl), .val (.int (3 : Int32))] [(.int (3 : Int32)), (.int (3 : Int32))]) _ _ _
        refine Go.icmpYes X0 hx (hb hby d_le3_12) (XT.ii_ge_t (by decide)) (pc' := 32) (by decide) (by decide) ?_
        show Go _ _ _ _ s₁ (mkF m 32 #[.val (.ref bx), .val (.ref bl), .val (.int (3 : Int32))] []) _ _ _
        refine Go.iconst X0 hx (hb hby d_le3_32) ?_
        show Go _ _ _ _ s₁ (mkF m 33 #[.val (.ref bx), .val (.ref bl), .val (.int (3 : Int32))] [(.int (1 : Int32))]) _ _ _
        refine Go.retZ X0 hx hlk hret (by decide) (hb hby d_le3_33) (by decide) (by decide) ?_
        rw [e0]
        exact ⟨(1 : Int32), rfl, N0, rfl, (Or.inl ⟨rfl, c173, c174, c175⟩)⟩
      · refine Go.icmpNo X0 hx (hb hby d_le3_21) (XT.ii_eq_f c175) ?_
        show Go _ _ _ _ s₁ (mkF m 24 #[.val (.ref bx), .val (.ref bl), .val (.int (2 : Int32))] []) _ _ _
        refine Go.iconst X0 hx (hb hby d_le3_24) ?_
        show Go _ _ _ _ s₁ (mkF m 25 #[.val (.ref bx), .val (.ref bl), .val (.int (2 : Int32))] [(.int (0 : Int32))]) _ _ _
        refine Go.retZ X0 hx hlk hret (by decide) (hb hby d_le3_25) (by decide) (by decide) ?_
        rw [e0]
        exact ⟨(0 : Int32), rfl, N0, rfl, (Or.inr ⟨rfl, fun q => c175 q.2.2⟩)⟩
    · refine Go.icmpNo X0 hx (hb hby d_le3_21) (XT.ii_eq_f c174) ?_
      show Go _ _ _ _ s₁ (mkF m 24 #[.val (.ref bx), .val (.ref bl), .val (.int (1 : Int32))] []) _ _ _
      refine Go.iconst X0 hx (hb hby d_le3_24) ?_
      show Go _ _ _ _ s₁ (mkF m 25 #[.val (.ref bx), .val (.ref bl), .val (.int (1 : Int32))] [(.int (0 : Int32))]) _ _ _
      refine Go.retZ X0 hx hlk hret (by decide) (hb hby d_le3_25) (by decide) (by decide) ?_
      rw [e0]
      exact ⟨(0 : Int32), rfl, N0, rfl, (Or.inr ⟨rfl, fun q => c174 q.2.1⟩)⟩
  · refine Go.icmpNo X0 hx (hb hby d_le3_21) (XT.ii_eq_f c173) ?_
    show Go _ _ _ _ s₁ (mkF m 24 #[.val (.ref bx), .val (.ref bl), .val (.int (0 : Int32))] []) _ _ _
    refine Go.iconst X0 hx (hb hby d_le3_24) ?_
    show Go _ _ _ _ s₁ (mkF m 25 #[.val (.ref bx), .val (.ref bl), .val (.int (0 : Int32))] [(.int (0 : Int32))]) _ _ _
    refine Go.retZ X0 hx hlk hret (by decide) (hb hby d_le3_25) (by decide) (by decide) ?_
    rw [e0]
    exact ⟨(0 : Int32), rfl, N0, rfl, (Or.inr ⟨rfl, fun q => c173 q.1⟩)⟩
def Q_eq3 (Z : State) (xa : Addr) (ya : Addr) (bx : Addr) (bl : Addr) (kx : ClassId) (kl : ClassId) (cs : Int32) (b0 : Int32) (b1 : Int32) (b2 : Int32) (h0 : Heap) (n0 : Nat) (v : Option Value) (h : Heap) (L : List Loc) : Prop := ∃ (r : Int32), v = some (.int r) ∧ Fr n0 L ∧ h = h0 ∧ ((r = (1 : Int32) ∧ b0 = (68 : Int32) ∧ b1 = (83 : Int32) ∧ b2 = (65 : Int32)) ∨ (r = (0 : Int32) ∧ ¬ (b0 = (68 : Int32) ∧ b1 = (83 : Int32) ∧ b2 = (65 : Int32))))
theorem ef_eq3 (m : MethodId) (x0 : Addr) (x1 : Addr) : entryFrame m #[(.ref x0), (.ref x1)] 3 = mkF m 0 #[.val (.ref x0), .val (.ref x1), .unset] [] := by first | (simp [entryFrame, mkF, argsToLocals, Value.category]; done) | rfl
set_option maxRecDepth 65536 in
set_option maxHeartbeats 40000000 in
theorem rm_eq3 (l : Launch) (Z : State) (a0 : Array Value) (hw : ∀ d ∈ tables_1, d.before a0 Z = true) (xa : Addr) (ya : Addr) (bx : Addr) (bl : Addr) (kx : ClassId) (kl : ClassId) (cs : Int32) (b0 : Int32) (b1 : Int32) (b2 : Int32) (h0 : Heap) (n0 : Nat) (Z0 : n0 ≤ h0.size) (f0 : Exa Z h0 xa "java/lang/String") (f1 : Fld Z h0 xa "java/lang/String" "value" "[B" (.ref bx)) (f2 : Fld Z h0 xa "java/lang/String" "coder" "B" (.int (0 : Int32))) (f3 : Exa Z h0 ya "java/lang/String") (f4 : Fld Z h0 ya "java/lang/String" "value" "[B" (.ref bl)) (f5 : Fld Z h0 ya "java/lang/String" "coder" "B" (.int (0 : Int32))) (f6 : Af Z h0 bx kx .byte 3 (fun i => Value.int ((updI (updI (updI (fun _ => (0 : Int32)) 0 b0) 1 b1) 2 b2) i))) (f7 : Af Z h0 bl kl .byte 3 (fun i => Value.int ((updI (updI (updI (fun _ => (0 : Int32)) 0 (68 : Int32)) 1 (83 : Int32)) 2 (65 : Int32)) i))) (f8 : Sta Z h0 "java/lang/String" "COMPACT_STRINGS" "Z" (.int cs)) (f9 : ¬ cs = (0 : Int32)) :
    Met l Z (⟨"java/lang/String", "equals", "(Ljava/lang/Object;)Z"⟩ : MethodName) jdk_42_method_66_code 3 (Option.some Jvm.ClassFile.FieldType.boolean) [] ({ frames := 1, cells := 0, slots := 0, locals := 14 } : Room) #[(.ref xa), (.ref ya)] h0 (Q_eq3 Z xa ya bx bl kx kl cs b0 b1 b2 h0 n0) := by
  refine Met.of (plainFor_of_name pn_eq3) ?_
  intro p e s m below meth c s₁ X0 hx hby hml hZ hown hnm e0 hret hlk
  refine Go.cast (ef_eq3 m xa ya) ?_
  show Go _ _ _ _ s₁ (mkF m 0 #[.val (.ref xa), .val (.ref ya), .unset] []) _ _ _
  have N0 := Fr.nil n0
  refine Go.aloadN X0 hx (hb hby d_eq3_0) rfl rfl ?_
  show Go _ _ _ _ s₁ (mkF m 1 #[.val (.ref xa), .val (.ref ya), .unset] [(.ref xa)]) _ _ _
  refine Go.aloadN X0 hx (hb hby d_eq3_1) rfl rfl ?_
  show Go _ _ _ _ s₁ (mkF m 2 #[.val (.ref xa), .val (.ref ya), .unset] [(.ref ya), (.ref xa)]) _ _ _
  rcases Decidable.em (xa = ya) with c176 | c176
  · refine Go.acmpNo X0 hx (hb hby d_eq3_2) rfl rfl (ac_ne_p c176) ?_
    show Go _ _ _ _ s₁ (mkF m 5 #[.val (.ref xa), .val (.ref ya), .unset] []) _ _ _
    refine Go.iconst X0 hx (hb hby d_eq3_5) ?_
    show Go _ _ _ _ s₁ (mkF m 6 #[.val (.ref xa), .val (.ref ya), .unset] [(.int (1 : Int32))]) _ _ _
    refine Go.retZ X0 hx hlk hret (by decide) (hb hby d_eq3_6) (by decide) (by decide) ?_
    rw [e0]
    exact ⟨(1 : Int32), rfl, N0, rfl, (Or.inl ⟨rfl, same3 (same_str c176 f1 f4 f6 f7).2⟩)⟩
  · refine Go.acmpYes X0 hx (hb hby d_eq3_2) rfl rfl (ac_ne_n c176) (pc' := 7) (by decide) (by decide) ?_
    show Go _ _ _ _ s₁ (mkF m 7 #[.val (.ref xa), .val (.ref ya), .unset] []) _ _ _
    refine Go.aloadN X0 hx (hb hby d_eq3_7) rfl rfl ?_
    show Go _ _ _ _ s₁ (mkF m 8 #[.val (.ref xa), .val (.ref ya), .unset] [(.ref ya)]) _ _ _
    refine Go.instY X0 hx hZ hown (w40 hw) e0 (Ins.self f3) (hb hby d_eq3_8) ?_
    intro T177 X177 e177
    show Go _ _ _ _ T177 (mkF m 11 #[.val (.ref xa), .val (.ref ya), .unset] [(.int (1 : Int32))]) _ _ _
    refine Go.ifNo X177 hx (hb hby d_eq3_11) (XT.i0_eq_f (by decide)) ?_
    show Go _ _ _ _ T177 (mkF m 14 #[.val (.ref xa), .val (.ref ya), .unset] []) _ _ _
    refine Go.aloadN X177 hx (hb hby d_eq3_14) rfl rfl ?_
    show Go _ _ _ _ T177 (mkF m 15 #[.val (.ref xa), .val (.ref ya), .unset] [(.ref ya)]) _ _ _
    refine Go.ccast X177 hx hZ hown (w40 hw) e177 (Ins.self f3) (hb hby d_eq3_15) ?_
    intro T178 X178 e178
    show Go _ _ _ _ T178 (mkF m 18 #[.val (.ref xa), .val (.ref ya), .unset] [(.ref ya)]) _ _ _
    refine Go.astoreN X178 hx (hb hby d_eq3_18) rfl (l' := #[.val (.ref xa), .val (.ref ya), .val (.ref ya)]) rfl ?_
    show Go _ _ _ _ T178 (mkF m 19 #[.val (.ref xa), .val (.ref ya), .val (.ref ya)] []) _ _ _
    refine Go.getS X178 hx hZ hown (w41 hw) Via.refl e178 f8 (hb hby d_eq3_19) ?_
    intro T179 X179 e179
    show Go _ _ _ _ T179 (mkF m 22 #[.val (.ref xa), .val (.ref ya), .val (.ref ya)] [(.int cs)]) _ _ _
    refine Go.ifNo X179 hx (hb hby d_eq3_22) (XT.i0_eq_f f9) ?_
    show Go _ _ _ _ T179 (mkF m 25 #[.val (.ref xa), .val (.ref ya), .val (.ref ya)] []) _ _ _
    refine Go.aloadN X179 hx (hb hby d_eq3_25) rfl rfl ?_
    show Go _ _ _ _ T179 (mkF m 26 #[.val (.ref xa), .val (.ref ya), .val (.ref ya)] [(.ref xa)]) _ _ _
    refine Go.getF X179 hx hZ hown (w29 hw) Via.refl e179 f2 (hb hby d_eq3_26) ?_
    intro T180 X180 e180
    show Go _ _ _ _ T180 (mkF m 29 #[.val (.ref xa), .val (.ref ya), .val (.ref ya)] [(.int (0 : Int32))]) _ _ _
    refine Go.aloadN X180 hx (hb hby d_eq3_29) rfl rfl ?_
    show Go _ _ _ _ T180 (mkF m 30 #[.val (.ref xa), .val (.ref ya), .val (.ref ya)] [(.ref ya), (.int (0 : Int32))]) _ _ _
    refine Go.getF X180 hx hZ hown (w29 hw) Via.refl e180 f5 (hb hby d_eq3_30) ?_
    intro T181 X181 e181
    show Go _ _ _ _ T181 (mkF m 33 #[.val (.ref xa), .val (.ref ya), .val (.ref ya)] [(.int (0 : Int32)), (.int (0 : Int32))]) _ _ _
    refine Go.icmpNo X181 hx (hb hby d_eq3_33) (XT.ii_ne_f (by decide)) ?_
    show Go _ _ _ _ T181 (mkF m 36 #[.val (.ref xa), .val (.ref ya), .val (.ref ya)] []) _ _ _
    refine Go.aloadN X181 hx (hb hby d_eq3_36) rfl rfl ?_
    show Go _ _ _ _ T181 (mkF m 37 #[.val (.ref xa), .val (.ref ya), .val (.ref ya)] [(.ref xa)]) _ _ _
    refine Go.getF X181 hx hZ hown (w28 hw) Via.refl e181 f1 (hb hby d_eq3_37) ?_
    intro T182 X182 e182
    show Go _ _ _ _ T182 (mkF m 40 #[.val (.ref xa), .val (.ref ya), .val (.ref ya)] [(.ref bx)]) _ _ _
    refine Go.aloadN X182 hx (hb hby d_eq3_40) rfl rfl ?_
    show Go _ _ _ _ T182 (mkF m 41 #[.val (.ref xa), .val (.ref ya), .val (.ref ya)] [(.ref ya), (.ref bx)]) _ _ _
    refine Go.getF X182 hx hZ hown (w28 hw) Via.refl e182 f4 (hb hby d_eq3_41) ?_
    intro T183 X183 e183
    show Go _ _ _ _ T183 (mkF m 44 #[.val (.ref xa), .val (.ref ya), .val (.ref ya)] [(.ref bl), (.ref bx)]) _ _ _
    refine Go.callS (W := 0) (argsL := [(.ref bx), (.ref bl)]) (rest := []) X183 hx hZ hown (w42 hw) (w43 hw) (w44 hw) (w45 hw) (by decide) (rm_le3 l Z a0 hw bx bl kx kl b0 b1 b2 h0 n0 Z0 f6 f7) e183 (lenOf pd_5 rfl) (hb hby d_eq3_44) (by rw [hml]; rfl) rfl (Nat.le_of_eq rfl) (by decide) (by decide) (by decide) (by decide) ?_
    intro v184 T184 L184 X184 q184
    obtain ⟨r184, rfl, M184, e184, P184_0⟩ := q184
    have N184 := Fr.app N0 M184
    show Go _ _ _ _ T184 (mkF m 47 #[.val (.ref xa), .val (.ref ya), .val (.ref ya)] [(.int r184)]) _ _ _
    rcases P184_0 with ⟨rfl, hP⟩ | ⟨rfl, hP⟩
    · show Go _ _ _ _ T184 (mkF m 47 #[.val (.ref xa), .val (.ref ya), .val (.ref ya)] [(.int (1 : Int32))]) _ _ _
      refine Go.ifNo X184 hx (hb hby d_eq3_47) (XT.i0_eq_f (by decide)) ?_
      show Go _ _ _ _ T184 (mkF m 50 #[.val (.ref xa), .val (.ref ya), .val (.ref ya)] []) _ _ _
      refine Go.iconst X184 hx (hb hby d_eq3_50) ?_
      show Go _ _ _ _ T184 (mkF m 51 #[.val (.ref xa), .val (.ref ya), .val (.ref ya)] [(.int (1 : Int32))]) _ _ _
      refine Go.goto X184 hx (hb hby d_eq3_51) (pc' := 55) (by decide) (by decide) ?_
      show Go _ _ _ _ T184 (mkF m 55 #[.val (.ref xa), .val (.ref ya), .val (.ref ya)] [(.int (1 : Int32))]) _ _ _
      refine Go.retZ X184 hx hlk hret (by decide) (hb hby d_eq3_55) (by decide) (by decide) ?_
      rw [e184]
      exact ⟨(1 : Int32), rfl, N184, rfl, (Or.inl ⟨rfl, hP⟩)⟩
    · show Go _ _ _ _ T184 (mkF m 47 #[.val (.ref xa), .val (.ref ya), .val (.ref ya)] [(.int (0 : Int32))]) _ _ _
      refine Go.ifYes X184 hx (hb hby d_eq3_47) (XT.i0_eq_t (by decide)) (pc' := 54) (by decide) (by decide) ?_
      show Go _ _ _ _ T184 (mkF m 54 #[.val (.ref xa), .val (.ref ya), .val (.ref ya)] []) _ _ _
      refine Go.iconst X184 hx (hb hby d_eq3_54) ?_
      show Go _ _ _ _ T184 (mkF m 55 #[.val (.ref xa), .val (.ref ya), .val (.ref ya)] [(.int (0 : Int32))]) _ _ _
      refine Go.retZ X184 hx hlk hret (by decide) (hb hby d_eq3_55) (by decide) (by decide) ?_
      rw [e184]
      exact ⟨(0 : Int32), rfl, N184, rfl, (Or.inr ⟨rfl, hP⟩)⟩
def Q_hs3 (Z : State) (xa : Addr) (bx : Addr) (kx : ClassId) (cs : Int32) (b0 : Int32) (b1 : Int32) (b2 : Int32) (h0 : Heap) (n0 : Nat) (v : Option Value) (h : Heap) (L : List Loc) : Prop := ∃ (r : Int32), v = some (.int r) ∧ Fr n0 L ∧ Keep h0 h [] ∧ ((r = (0 : Int32) ∧ b0 = (68 : Int32) ∧ b1 = (83 : Int32) ∧ b2 = (65 : Int32)) ∨ (r = (1 : Int32) ∧ ¬ (b0 = (68 : Int32) ∧ b1 = (83 : Int32) ∧ b2 = (65 : Int32))))
theorem ef_hs3 (m : MethodId) (x0 : Addr) : entryFrame m #[(.ref x0)] 1 = mkF m 0 #[.val (.ref x0)] [] := by first | (simp [entryFrame, mkF, argsToLocals, Value.category]; done) | rfl
set_option maxRecDepth 65536 in
set_option maxHeartbeats 40000000 in
theorem rm_hs3 (l : Launch) (Z : State) (a0 : Array Value) (hw : ∀ d ∈ tables_1, d.before a0 Z = true) (HC : Held Z a0) (xa : Addr) (bx : Addr) (kx : ClassId) (cs : Int32) (b0 : Int32) (b1 : Int32) (b2 : Int32) (h0 : Heap) (n0 : Nat) (Z0 : n0 ≤ h0.size) (f0 : Exa Z h0 xa "java/lang/String") (f1 : Fld Z h0 xa "java/lang/String" "value" "[B" (.ref bx)) (f2 : Fld Z h0 xa "java/lang/String" "coder" "B" (.int (0 : Int32))) (f3 : Af Z h0 bx kx .byte 3 (fun i => Value.int ((updI (updI (updI (fun _ => (0 : Int32)) 0 b0) 1 b1) 2 b2) i))) (f4 : Sta Z h0 "java/lang/String" "COMPACT_STRINGS" "Z" (.int cs)) (f5 : ¬ cs = (0 : Int32)) (f6 : Old Z n0 h0) :
    MetW l Z (⟨"com/example/trilatch/trilatch/http/TlsPolicy", "handshakesWith", "(Ljava/lang/String;)Z"⟩ : MethodName) prog_56_method_3_code 1 (Option.some Jvm.ClassFile.FieldType.boolean) [] ({ frames := 2, cells := 2, slots := 16, locals := 28 } : Room) #[(.ref xa)] h0 [] ["DSA"] (Q_hs3 Z xa bx kx cs b0 b1 b2 h0 n0) := by
  refine MetW.of (plainFor_of_name pn_hs3) ?_
  intro p e s m below meth c s₁ X0 hx hby hml hZ hown hnm e0 hret hlk I0 es0 hS
  refine GoW.cast (ef_hs3 m xa) ?_
  show GoW _ _ _ s₁ (mkF m 0 #[.val (.ref xa)] []) _ _ _
  have N0 := Fr.nil n0
  refine GoW.aloadN X0 hx (hb hby d_hs3_0) rfl rfl ?_
  show GoW _ _ _ s₁ (mkF m 1 #[.val (.ref xa)] [(.ref xa)]) _ _ _
  refine GoW.ldcS (n := 12) (vs := [.int 68, .int 83, .int 65]) (z := 3) X0 hx hZ hown (w34 hw) (wS hw) e0 hS (Nat.le_refl _) (Fr.nil _) (fun b cl q => by rw [es0]; exact f6.2.2 b cl q) I0 (by decide) HC.2.1 HC.2.2 ⟨by decide, by first | rfl | decide⟩ (by decide) rfl (hb hby d_hs3_1) (by decide) (by decide) (by decide) (by decide) ?_
  intro a185 T185 h185 k185 lb185 kk185 X185 e185 E185 hS KK185 hZ hown A185 FC185 FV185 AV185 I0 LT185
  have Z185 : n0 ≤ h185.size := Nat.le_trans Z0 E185.1
  have B185 : h0.size ≤ h185.size := Nat.le_trans (Nat.le_refl _) E185.1
  have AL185 : Af Z h185 lb185 kk185 .byte 3 (fun i => Value.int ((updI (updI (updI (fun _ => (0 : Int32)) 0 (68 : Int32)) 1 (83 : Int32)) 2 (65 : Int32)) i)) := (Af.ofArv AV185).congr (fun i hi => by have hi' : i < 3 := hi; rcases lt_3 hi' with rfl | rfl | rfl <;> first | (simp [updI, updV]; done) | rfl)
  have ne_xa_lb185 : xa ≠ lb185 := Exa.neArv (Exa.ext E185 f0) AV185 (w9 hw)
  show GoW _ _ _ T185 (mkF m 3 #[.val (.ref xa)] [(.ref a185), (.ref xa)]) _ _ _
  refine GoW.callV (W := 0) (argsL := [(.ref a185)]) (rest := []) X185 hx hZ hown (w35 hw) (w36 hw) (w38 hw) (w37 hw) (w10 hw) (w39 hw) (notFace_of_selects (args := #[]) (mvT hZ (w38 hw))) (by decide) (Exa.ext E185 f0) (rm_eq3 l Z a0 hw xa a185 bx lb185 kx kk185 cs b0 b1 b2 h185 n0 Z185 (Exa.ext E185 f0) (Fld.ext E185 f1) (Fld.ext E185 f2) A185 FV185 FC185 (Af.ext E185 f3) AL185 (Sta.ext E185 f4) f5) e185 (lenOf pd_6 rfl) (hb hby d_hs3_3) (by rw [hml]; rfl) rfl (Nat.le_of_eq rfl) (by decide) (by decide) (by decide) (by decide) ?_
  intro v186 T186 L186 X186 q186
  obtain ⟨r186, rfl, M186, e186, P186_0⟩ := q186
  have N186 := Fr.app N0 M186
  show GoW _ _ _ T186 (mkF m 6 #[.val (.ref xa)] [(.int r186)]) _ _ _
  rcases P186_0 with ⟨rfl, hP⟩ | ⟨rfl, hP⟩
  · show GoW _ _ _ T186 (mkF m 6 #[.val (.ref xa)] [(.int (1 : Int32))]) _ _ _
    refine GoW.ifYes X186 hx (hb hby d_hs3_6) (XT.i0_ne_t (by decide)) (pc' := 13) (by decide) (by decide) ?_
    show GoW _ _ _ T186 (mkF m 13 #[.val (.ref xa)] []) _ _ _
    refine GoW.iconst X186 hx (hb hby d_hs3_13) ?_
    show GoW _ _ _ T186 (mkF m 14 #[.val (.ref xa)] [(.int (0 : Int32))]) _ _ _
    refine GoW.retZ X186 hx hlk hS (by rw [e186]; exact KK185) I0 hret (by decide) (hb hby d_hs3_14) (by decide) (by decide) ?_
    rw [e186]
    exact ⟨(0 : Int32), rfl, N186, (Keep.ext (Keep.refl _ _) E185), (Or.inl ⟨rfl, hP⟩)⟩
  · show GoW _ _ _ T186 (mkF m 6 #[.val (.ref xa)] [(.int (0 : Int32))]) _ _ _
    refine GoW.ifNo X186 hx (hb hby d_hs3_6) (XT.i0_ne_f (by decide)) ?_
    show GoW _ _ _ T186 (mkF m 9 #[.val (.ref xa)] []) _ _ _
    refine GoW.iconst X186 hx (hb hby d_hs3_9) ?_
    show GoW _ _ _ T186 (mkF m 10 #[.val (.ref xa)] [(.int (1 : Int32))]) _ _ _
    refine GoW.goto X186 hx (hb hby d_hs3_10) (pc' := 14) (by decide) (by decide) ?_
    show GoW _ _ _ T186 (mkF m 14 #[.val (.ref xa)] [(.int (1 : Int32))]) _ _ _
    refine GoW.retZ X186 hx hlk hS (by rw [e186]; exact KK185) I0 hret (by decide) (hb hby d_hs3_14) (by decide) (by decide) ?_
    rw [e186]
    exact ⟨(1 : Int32), rfl, N186, (Keep.ext (Keep.refl _ _) E185), (Or.inr ⟨rfl, hP⟩)⟩
def Q_le4 (Z : State) (bx : Addr) (bl : Addr) (kx : ClassId) (kl : ClassId) (b0 : Int32) (b1 : Int32) (b2 : Int32) (b3 : Int32) (h0 : Heap) (n0 : Nat) (v : Option Value) (h : Heap) (L : List Loc) : Prop := v = some (.int (0 : Int32)) ∧ Fr n0 L ∧ h = h0
theorem ef_le4 (m : MethodId) (x0 : Addr) (x1 : Addr) : entryFrame m #[(.ref x0), (.ref x1)] 3 = mkF m 0 #[.val (.ref x0), .val (.ref x1), .unset] [] := by first | (simp [entryFrame, mkF, argsToLocals, Value.category]; done) | rfl
set_option maxRecDepth 65536 in
set_option maxHeartbeats 40000000 in
theorem rm_le4 (l : Launch) (Z : State) (a0 : Array Value) (hw : ∀ d ∈ tables_1, d.before a0 Z = true) (bx : Addr) (bl : Addr) (kx : ClassId) (kl : ClassId) (b0 : Int32) (b1 : Int32) (b2 : Int32) (b3 : Int32) (h0 : Heap) (n0 : Nat) (Z0 : n0 ≤ h0.size) (f0 : Af Z h0 bx kx .byte 4 (fun i => Value.int ((updI (updI (updI (updI (fun _ => (0 : Int32)) 0 b0) 1 b1) 2 b2) 3 b3) i))) (f1 : Af Z h0 bl kl .byte 3 (fun i => Value.int ((updI (updI (updI (fun _ => (0 : Int32)) 0 (68 : Int32)) 1 (83 : Int32)) 2 (65 : Int32)) i))) :
    Met l Z (⟨"java/lang/StringLatin1", "equals", "([B[B)Z"⟩ : MethodName) jdk_43_method_13_code 3 (Option.some Jvm.ClassFile.FieldType.boolean) [] ({ frames := 0, cells := 0, slots := 0, locals := 0 } : Room) #[(.ref bx), (.ref bl)] h0 (Q_le4 Z bx bl kx kl b0 b1 b2 b3 h0 n0) := by
  refine Met.of (plainFor_of_name pn_le4) ?_
  intro p e s m below meth c s₁ X0 hx hby hml hZ hown hnm e0 hret hlk
  refine Go.cast (ef_le4 m bx bl) ?_
  show Go _ _ _ _ s₁ (mkF m 0 #[.val (.ref bx), .val (.ref bl), .unset] []) _ _ _
  have N0 := Fr.nil n0
  refine Go.aloadN X0 hx (hb hby d_le4_0) rfl rfl ?_
  show Go _ _ _ _ s₁ (mkF m 1 #[.val (.ref bx), .val (.ref bl), .unset] [(.ref bx)]) _ _ _
  refine Go.alen X0 hx hZ e0 f0 (hb hby d_le4_1) ?_
  show Go _ _ _ _ s₁ (mkF m 2 #[.val (.ref bx), .val (.ref bl), .unset] [(.int (4 : Int32))]) _ _ _
  refine Go.aloadN X0 hx (hb hby d_le4_2) rfl rfl ?_
  show Go _ _ _ _ s₁ (mkF m 3 #[.val (.ref bx), .val (.ref bl), .unset] [(.ref bl), (.int (4 : Int32))]) _ _ _
  refine Go.alen X0 hx hZ e0 f1 (hb hby d_le4_3) ?_
  show Go _ _ _ _ s₁ (mkF m 4 #[.val (.ref bx), .val (.ref bl), .unset] [(.int (3 : Int32)), (.int (4 : Int32))]) _ _ _
  refine Go.icmpYes X0 hx (hb hby d_le4_4) (XT.ii_ne_t (by decide)) (pc' := 34) (by decide) (by decide) ?_
  show Go _ _ _ _ s₁ (mkF m 34 #[.val (.ref bx), .val (.ref bl), .unset] []) _ _ _
  refine Go.iconst X0 hx (hb hby d_le4_34) ?_
  show Go _ _ _ _ s₁ (mkF m 35 #[.val (.ref bx), .val (.ref bl), .unset] [(.int (0 : Int32))]) _ _ _
  refine Go.retZ X0 hx hlk hret (by decide) (hb hby d_le4_35) (by decide) (by decide) ?_
  rw [e0]
  exact ⟨rfl, N0, rfl⟩
def Q_eq4 (Z : State) (xa : Addr) (ya : Addr) (bx : Addr) (bl : Addr) (kx : ClassId) (kl : ClassId) (cs : Int32) (b0 : Int32) (b1 : Int32) (b2 : Int32) (b3 : Int32) (h0 : Heap) (n0 : Nat) (v : Option Value) (h : Heap) (L : List Loc) : Prop := v = some (.int (0 : Int32)) ∧ Fr n0 L ∧ h = h0
theorem ef_eq4 (m : MethodId) (x0 : Addr) (x1 : Addr) : entryFrame m #[(.ref x0), (.ref x1)] 3 = mkF m 0 #[.val (.ref x0), .val (.ref x1), .unset] [] := by first | (simp [entryFrame, mkF, argsToLocals, Value.category]; done) | rfl
set_option maxRecDepth 65536 in
set_option maxHeartbeats 40000000 in
theorem rm_eq4 (l : Launch) (Z : State) (a0 : Array Value) (hw : ∀ d ∈ tables_1, d.before a0 Z = true) (xa : Addr) (ya : Addr) (bx : Addr) (bl : Addr) (kx : ClassId) (kl : ClassId) (cs : Int32) (b0 : Int32) (b1 : Int32) (b2 : Int32) (b3 : Int32) (h0 : Heap) (n0 : Nat) (Z0 : n0 ≤ h0.size) (f0 : Exa Z h0 xa "java/lang/String") (f1 : Fld Z h0 xa "java/lang/String" "value" "[B" (.ref bx)) (f2 : Fld Z h0 xa "java/lang/String" "coder" "B" (.int (0 : Int32))) (f3 : Exa Z h0 ya "java/lang/String") (f4 : Fld Z h0 ya "java/lang/String" "value" "[B" (.ref bl)) (f5 : Fld Z h0 ya "java/lang/String" "coder" "B" (.int (0 : Int32))) (f6 : Af Z h0 bx kx .byte 4 (fun i => Value.int ((updI (updI (updI (updI (fun _ => (0 : Int32)) 0 b0) 1 b1) 2 b2) 3 b3) i))) (f7 : Af Z h0 bl kl .byte 3 (fun i => Value.int ((updI (updI (updI (fun _ => (0 : Int32)) 0 (68 : Int32)) 1 (83 : Int32)) 2 (65 : Int32)) i))) (f8 : Sta Z h0 "java/lang/String" "COMPACT_STRINGS" "Z" (.int cs)) (f9 : ¬ cs = (0 : Int32)) :
    Met l Z (⟨"java/lang/String", "equals", "(Ljava/lang/Object;)Z"⟩ : MethodName) jdk_42_method_66_code 3 (Option.some Jvm.ClassFile.FieldType.boolean) [] ({ frames := 1, cells := 0, slots := 0, locals := 14 } : Room) #[(.ref xa), (.ref ya)] h0 (Q_eq4 Z xa ya bx bl kx kl cs b0 b1 b2 b3 h0 n0) := by
  refine Met.of (plainFor_of_name pn_eq4) ?_
  intro p e s m below meth c s₁ X0 hx hby hml hZ hown hnm e0 hret hlk
  refine Go.cast (ef_eq4 m xa ya) ?_
  show Go _ _ _ _ s₁ (mkF m 0 #[.val (.ref xa), .val (.ref ya), .unset] []) _ _ _
  have N0 := Fr.nil n0
  refine Go.aloadN X0 hx (hb hby d_eq4_0) rfl rfl ?_
  show Go _ _ _ _ s₁ (mkF m 1 #[.val (.ref xa), .val (.ref ya), .unset] [(.ref xa)]) _ _ _
  refine Go.aloadN X0 hx (hb hby d_eq4_1) rfl rfl ?_
  show Go _ _ _ _ s₁ (mkF m 2 #[.val (.ref xa), .val (.ref ya), .unset] [(.ref ya), (.ref xa)]) _ _ _
  rcases Decidable.em (xa = ya) with c187 | c187
  · refine Go.acmpNo X0 hx (hb hby d_eq4_2) rfl rfl (ac_ne_p c187) ?_
    show Go _ _ _ _ s₁ (mkF m 5 #[.val (.ref xa), .val (.ref ya), .unset] []) _ _ _
    refine Go.iconst X0 hx (hb hby d_eq4_5) ?_
    show Go _ _ _ _ s₁ (mkF m 6 #[.val (.ref xa), .val (.ref ya), .unset] [(.int (1 : Int32))]) _ _ _
    refine Go.retZ X0 hx hlk hret (by decide) (hb hby d_eq4_6) (by decide) (by decide) ?_
    rw [e0]
    exact absurd (same_str c187 f1 f4 f6 f7).1 (by decide)
  · refine Go.acmpYes X0 hx (hb hby d_eq4_2) rfl rfl (ac_ne_n c187) (pc' := 7) (by decide) (by decide) ?_
    show Go _ _ _ _ s₁ (mkF m 7 #[.val (.ref xa), .val (.ref ya), .unset] []) _ _ _
    refine Go.aloadN X0 hx (hb hby d_eq4_7) rfl rfl ?_
    show Go _ _ _ _ s₁ (mkF m 8 #[.val (.ref xa), .val (.ref ya), .unset] [(.ref ya)]) _ _ _
    refine Go.instY X0 hx hZ hown (w40 hw) e0 (Ins.self f3) (hb hby d_eq4_8) ?_
    intro T188 X188 e188
    show Go _ _ _ _ T188 (mkF m 11 #[.val (.ref xa), .val (.ref ya), .unset] [(.int (1 : Int32))]) _ _ _
    refine Go.ifNo X188 hx (hb hby d_eq4_11) (XT.i0_eq_f (by decide)) ?_
    show Go _ _ _ _ T188 (mkF m 14 #[.val (.ref xa), .val (.ref ya), .unset] []) _ _ _
    refine Go.aloadN X188 hx (hb hby d_eq4_14) rfl rfl ?_
    show Go _ _ _ _ T188 (mkF m 15 #[.val (.ref xa), .val (.ref ya), .unset] [(.ref ya)]) _ _ _
    refine Go.ccast X188 hx hZ hown (w40 hw) e188 (Ins.self f3) (hb hby d_eq4_15) ?_
    intro T189 X189 e189
    show Go _ _ _ _ T189 (mkF m 18 #[.val (.ref xa), .val (.ref ya), .unset] [(.ref ya)]) _ _ _
    refine Go.astoreN X189 hx (hb hby d_eq4_18) rfl (l' := #[.val (.ref xa), .val (.ref ya), .val (.ref ya)]) rfl ?_
    show Go _ _ _ _ T189 (mkF m 19 #[.val (.ref xa), .val (.ref ya), .val (.ref ya)] []) _ _ _
    refine Go.getS X189 hx hZ hown (w41 hw) Via.refl e189 f8 (hb hby d_eq4_19) ?_
    intro T190 X190 e190
    show Go _ _ _ _ T190 (mkF m 22 #[.val (.ref xa), .val (.ref ya), .val (.ref ya)] [(.int cs)]) _ _ _
    refine Go.ifNo X190 hx (hb hby d_eq4_22) (XT.i0_eq_f f9) ?_
    show Go _ _ _ _ T190 (mkF m 25 #[.val (.ref xa), .val (.ref ya), .val (.ref ya)] []) _ _ _
    refine Go.aloadN X190 hx (hb hby d_eq4_25) rfl rfl ?_
    show Go _ _ _ _ T190 (mkF m 26 #[.val (.ref xa), .val (.ref ya), .val (.ref ya)] [(.ref xa)]) _ _ _
    refine Go.getF X190 hx hZ hown (w29 hw) Via.refl e190 f2 (hb hby d_eq4_26) ?_
    intro T191 X191 e191
    show Go _ _ _ _ T191 (mkF m 29 #[.val (.ref xa), .val (.ref ya), .val (.ref ya)] [(.int (0 : Int32))]) _ _ _
    refine Go.aloadN X191 hx (hb hby d_eq4_29) rfl rfl ?_
    show Go _ _ _ _ T191 (mkF m 30 #[.val (.ref xa), .val (.ref ya), .val (.ref ya)] [(.ref ya), (.int (0 : Int32))]) _ _ _
    refine Go.getF X191 hx hZ hown (w29 hw) Via.refl e191 f5 (hb hby d_eq4_30) ?_
    intro T192 X192 e192
    show Go _ _ _ _ T192 (mkF m 33 #[.val (.ref xa), .val (.ref ya), .val (.ref ya)] [(.int (0 : Int32)), (.int (0 : Int32))]) _ _ _
    refine Go.icmpNo X192 hx (hb hby d_eq4_33) (XT.ii_ne_f (by decide)) ?_
    show Go _ _ _ _ T192 (mkF m 36 #[.val (.ref xa), .val (.ref ya), .val (.ref ya)] []) _ _ _
    refine Go.aloadN X192 hx (hb hby d_eq4_36) rfl rfl ?_
    show Go _ _ _ _ T192 (mkF m 37 #[.val (.ref xa), .val (.ref ya), .val (.ref ya)] [(.ref xa)]) _ _ _
    refine Go.getF X192 hx hZ hown (w28 hw) Via.refl e192 f1 (hb hby d_eq4_37) ?_
    intro T193 X193 e193
    show Go _ _ _ _ T193 (mkF m 40 #[.val (.ref xa), .val (.ref ya), .val (.ref ya)] [(.ref bx)]) _ _ _
    refine Go.aloadN X193 hx (hb hby d_eq4_40) rfl rfl ?_
    show Go _ _ _ _ T193 (mkF m 41 #[.val (.ref xa), .val (.ref ya), .val (.ref ya)] [(.ref ya), (.ref bx)]) _ _ _
    refine Go.getF X193 hx hZ hown (w28 hw) Via.refl e193 f4 (hb hby d_eq4_41) ?_
    intro T194 X194 e194
    show Go _ _ _ _ T194 (mkF m 44 #[.val (.ref xa), .val (.ref ya), .val (.ref ya)] [(.ref bl), (.ref bx)]) _ _ _
    refine Go.callS (W := 0) (argsL := [(.ref bx), (.ref bl)]) (rest := []) X194 hx hZ hown (w42 hw) (w43 hw) (w44 hw) (w45 hw) (by decide) (rm_le4 l Z a0 hw bx bl kx kl b0 b1 b2 b3 h0 n0 Z0 f6 f7) e194 (lenOf pd_5 rfl) (hb hby d_eq4_44) (by rw [hml]; rfl) rfl (Nat.le_of_eq rfl) (by decide) (by decide) (by decide) (by decide) ?_
    intro v195 T195 L195 X195 q195
    obtain ⟨rfl, M195, e195⟩ := q195
    have N195 := Fr.app N0 M195
    show Go _ _ _ _ T195 (mkF m 47 #[.val (.ref xa), .val (.ref ya), .val (.ref ya)] [(.int (0 : Int32))]) _ _ _
    refine Go.ifYes X195 hx (hb hby d_eq4_47) (XT.i0_eq_t (by decide)) (pc' := 54) (by decide) (by decide) ?_
    show Go _ _ _ _ T195 (mkF m 54 #[.val (.ref xa), .val (.ref ya), .val (.ref ya)] []) _ _ _
    refine Go.iconst X195 hx (hb hby d_eq4_54) ?_
    show Go _ _ _ _ T195 (mkF m 55 #[.val (.ref xa), .val (.ref ya), .val (.ref ya)] [(.int (0 : Int32))]) _ _ _
    refine Go.retZ X195 hx hlk hret (by decide) (hb hby d_eq4_55) (by decide) (by decide) ?_
    rw [e195]
    exact ⟨rfl, N195, rfl⟩
def Q_hs4 (Z : State) (xa : Addr) (bx : Addr) (kx : ClassId) (cs : Int32) (b0 : Int32) (b1 : Int32) (b2 : Int32) (b3 : Int32) (h0 : Heap) (n0 : Nat) (v : Option Value) (h : Heap) (L : List Loc) : Prop := v = some (.int (1 : Int32)) ∧ Fr n0 L ∧ Keep h0 h []
theorem ef_hs4 (m : MethodId) (x0 : Addr) : entryFrame m #[(.ref x0)] 1 = mkF m 0 #[.val (.ref x0)] [] := by first | (simp [entryFrame, mkF, argsToLocals, Value.category]; done) | rfl
set_option maxRecDepth 65536 in
set_option maxHeartbeats 40000000 in
theorem rm_hs4 (l : Launch) (Z : State) (a0 : Array Value) (hw : ∀ d ∈ tables_1, d.before a0 Z = true) (HC : Held Z a0) (xa : Addr) (bx : Addr) (kx : ClassId) (cs : Int32) (b0 : Int32) (b1 : Int32) (b2 : Int32) (b3 : Int32) (h0 : Heap) (n0 : Nat) (Z0 : n0 ≤ h0.size) (f0 : Exa Z h0 xa "java/lang/String") (f1 : Fld Z h0 xa "java/lang/String" "value" "[B" (.ref bx)) (f2 : Fld Z h0 xa "java/lang/String" "coder" "B" (.int (0 : Int32))) (f3 : Af Z h0 bx kx .byte 4 (fun i => Value.int ((updI (updI (updI (updI (fun _ => (0 : Int32)) 0 b0) 1 b1) 2 b2) 3 b3) i))) (f4 : Sta Z h0 "java/lang/String" "COMPACT_STRINGS" "Z" (.int cs)) (f5 : ¬ cs = (0 : Int32)) (f6 : Old Z n0 h0) :
    MetW l Z (⟨"com/example/trilatch/trilatch/http/TlsPolicy", "handshakesWith", "(Ljava/lang/String;)Z"⟩ : MethodName) prog_56_method_3_code 1 (Option.some Jvm.ClassFile.FieldType.boolean) [] ({ frames := 2, cells := 2, slots := 16, locals := 28 } : Room) #[(.ref xa)] h0 [] ["DSA"] (Q_hs4 Z xa bx kx cs b0 b1 b2 b3 h0 n0) := by
  refine MetW.of (plainFor_of_name pn_hs4) ?_
  intro p e s m below meth c s₁ X0 hx hby hml hZ hown hnm e0 hret hlk I0 es0 hS
  refine GoW.cast (ef_hs4 m xa) ?_
  show GoW _ _ _ s₁ (mkF m 0 #[.val (.ref xa)] []) _ _ _
  have N0 := Fr.nil n0
  refine GoW.aloadN X0 hx (hb hby d_hs4_0) rfl rfl ?_
  show GoW _ _ _ s₁ (mkF m 1 #[.val (.ref xa)] [(.ref xa)]) _ _ _
  refine GoW.ldcS (n := 12) (vs := [.int 68, .int 83, .int 65]) (z := 3) X0 hx hZ hown (w34 hw) (wS hw) e0 hS (Nat.le_refl _) (Fr.nil _) (fun b cl q => by rw [es0]; exact f6.2.2 b cl q) I0 (by decide) HC.2.1 HC.2.2 ⟨by decide, by first | rfl | decide⟩ (by decide) rfl (hb hby d_hs4_1) (by decide) (by decide) (by decide) (by decide) ?_
  intro a196 T196 h196 k196 lb196 kk196 X196 e196 E196 hS KK196 hZ hown A196 FC196 FV196 AV196 I0 LT196
  have Z196 : n0 ≤ h196.size := Nat.le_trans Z0 E196.1
  have B196 : h0.size ≤ h196.size := Nat.le_trans (Nat.le_refl _) E196.1
  have AL196 : Af Z h196 lb196 kk196 .byte 3 (fun i => Value.int ((updI (updI (updI (fun _ => (0 : Int32)) 0 (68 : Int32)) 1 (83 : Int32)) 2 (65 : Int32)) i)) := (Af.ofArv AV196).congr (fun i hi => by have hi' : i < 3 := hi; rcases lt_3 hi' with rfl | rfl | rfl <;> first | (simp [updI, updV]; done) | rfl)
  have ne_xa_lb196 : xa ≠ lb196 := Exa.neArv (Exa.ext E196 f0) AV196 (w9 hw)
  show GoW _ _ _ T196 (mkF m 3 #[.val (.ref xa)] [(.ref a196), (.ref xa)]) _ _ _
  refine GoW.callV (W := 0) (argsL := [(.ref a196)]) (rest := []) X196 hx hZ hown (w35 hw) (w36 hw) (w38 hw) (w37 hw) (w10 hw) (w39 hw) (notFace_of_selects (args := #[]) (mvT hZ (w38 hw))) (by decide) (Exa.ext E196 f0) (rm_eq4 l Z a0 hw xa a196 bx lb196 kx kk196 cs b0 b1 b2 b3 h196 n0 Z196 (Exa.ext E196 f0) (Fld.ext E196 f1) (Fld.ext E196 f2) A196 FV196 FC196 (Af.ext E196 f3) AL196 (Sta.ext E196 f4) f5) e196 (lenOf pd_6 rfl) (hb hby d_hs4_3) (by rw [hml]; rfl) rfl (Nat.le_of_eq rfl) (by decide) (by decide) (by decide) (by decide) ?_
  intro v197 T197 L197 X197 q197
  obtain ⟨rfl, M197, e197⟩ := q197
  have N197 := Fr.app N0 M197
  show GoW _ _ _ T197 (mkF m 6 #[.val (.ref xa)] [(.int (0 : Int32))]) _ _ _
  refine GoW.ifNo X197 hx (hb hby d_hs4_6) (XT.i0_ne_f (by decide)) ?_
  show GoW _ _ _ T197 (mkF m 9 #[.val (.ref xa)] []) _ _ _
  refine GoW.iconst X197 hx (hb hby d_hs4_9) ?_
  show GoW _ _ _ T197 (mkF m 10 #[.val (.ref xa)] [(.int (1 : Int32))]) _ _ _
  refine GoW.goto X197 hx (hb hby d_hs4_10) (pc' := 14) (by decide) (by decide) ?_
  show GoW _ _ _ T197 (mkF m 14 #[.val (.ref xa)] [(.int (1 : Int32))]) _ _ _
  refine GoW.retZ X197 hx hlk hS (by rw [e197]; exact KK196) I0 hret (by decide) (hb hby d_hs4_14) (by decide) (by decide) ?_
  rw [e197]
  exact ⟨rfl, N197, (Keep.ext (Keep.refl _ _) E196)⟩
theorem own_case5 {i : Int32} (h0 : 0 ≤ i.toInt) (h1 : i.toInt < 5) : i = (0 : Int32) ∨ i = (1 : Int32) ∨ i = (2 : Int32) ∨ i = (3 : Int32) ∨ i = (4 : Int32) := by
  have h : i.toInt = 0 ∨ i.toInt = 1 ∨ i.toInt = 2 ∨ i.toInt = 3 ∨ i.toInt = 4 := by omega
  rcases h with h | h | h | h | h
  · exact Or.inl (Int32.toInt_inj.mp (h.trans (by decide)))
  · exact Or.inr (Or.inl (Int32.toInt_inj.mp (h.trans (by decide))))
  · exact Or.inr (Or.inr (Or.inl (Int32.toInt_inj.mp (h.trans (by decide)))))
  · exact Or.inr (Or.inr (Or.inr (Or.inl (Int32.toInt_inj.mp (h.trans (by decide))))))
  · exact Or.inr (Or.inr (Or.inr (Or.inr ((Int32.toInt_inj.mp (h.trans (by decide)))))))
theorem own_mod (x k : Int32) (n : Int) (hk : k.toInt = n) (hn : 0 < n) : 0 ≤ ((x &&& (2147483647 : Int32)) % k).toInt ∧ ((x &&& (2147483647 : Int32)) % k).toInt < n := by
  have m1 : (x &&& (2147483647 : Int32)).toInt = x.toInt % 2 ^ 31 := Jvm.Kit.i32_mask x _ (k := 31) (by decide) (by decide)
  rw [Jvm.Kit.i32_rem_nonneg (by omega), m1, hk]
  exact ⟨Int.emod_nonneg _ (by omega), Int.emod_lt_of_pos _ hn⟩
def Q_law (Z : State) (p0 : Int32) (p1 : Int32) (p2 : Int32) (p3 : Int32) (p4 : Int32) (cs : Int32) (h0 : Heap) (n0 : Nat) (v : Option Value) (h : Heap) (L : List Loc) : Prop := v = some (.int (1 : Int32)) ∧ Fr n0 L
theorem ef_law (m : MethodId) (x0 : Int32) (x1 : Int32) (x2 : Int32) (x3 : Int32) (x4 : Int32) : entryFrame m #[(.int x0), (.int x1), (.int x2), (.int x3), (.int x4)] maxLocals = mkF m 0 #[.val (.int x0), .val (.int x1), .val (.int x2), .val (.int x3), .val (.int x4), .unset, .unset, .unset, .unset, .unset, .unset, .unset] [] := by first | (simp [entryFrame, mkF, argsToLocals, Value.category, maxLocals]; done) | rfl
set_option maxRecDepth 65536 in
set_option maxHeartbeats 40000000 in
theorem rm_law (l : Launch) (Z : State) (a0 : Array Value) (hw : ∀ d ∈ tables_1, d.before a0 Z = true) (HC : Held Z a0) (ws : List Jvm.Cond) (p0 : Int32) (p1 : Int32) (p2 : Int32) (p3 : Int32) (p4 : Int32) (cs : Int32) (h0 : Heap) (n0 : Nat) (Z0 : n0 ≤ h0.size) (f0 : Sta Z h0 "java/lang/String" "COMPACT_STRINGS" "Z" (.int cs)) (f1 : ¬ cs = (0 : Int32)) (f2 : Old Z n0 h0) :
    MetW l Z x code maxLocals ret ws room_1 #[(.int p0), (.int p1), (.int p2), (.int p3), (.int p4)] h0 [] ["DSA", ""] (Q_law Z p0 p1 p2 p3 p4 cs h0 n0) := by
  refine MetW.of (plainFor_of_name pn_law) ?_
  intro p e s m below meth c s₁ X0 hx hby hml hZ hown hnm e0 hret hlk I0 es0 hS
  refine GoW.cast (ef_law m p0 p1 p2 p3 p4) ?_
  show GoW _ _ _ s₁ (mkF m 0 #[.val (.int p0), .val (.int p1), .val (.int p2), .val (.int p3), .val (.int p4), .unset, .unset, .unset, .unset, .unset, .unset, .unset] []) _ _ _
  have N0 := Fr.nil n0
  refine GoW.iloadN X0 hx (hb hby at_0) rfl ?_
  show GoW _ _ _ s₁ (mkF m 1 #[.val (.int p0), .val (.int p1), .val (.int p2), .val (.int p3), .val (.int p4), .unset, .unset, .unset, .unset, .unset, .unset, .unset] [(.int p0)]) _ _ _
  refine GoW.ldc X0 hx hZ hown (w0 hw) (hb hby at_1) ?_
  show GoW _ _ _ s₁ (mkF m 3 #[.val (.int p0), .val (.int p1), .val (.int p2), .val (.int p3), .val (.int p4), .unset, .unset, .unset, .unset, .unset, .unset, .unset] [(.int (2147483647 : Int32)), (.int p0)]) _ _ _
  refine GoW.iand X0 hx (hb hby at_3) ?_
  show GoW _ _ _ s₁ (mkF m 4 #[.val (.int p0), .val (.int p1), .val (.int p2), .val (.int p3), .val (.int p4), .unset, .unset, .unset, .unset, .unset, .unset, .unset] [(.int (p0 &&& (2147483647 : Int32)))]) _ _ _
  refine GoW.iconst X0 hx (hb hby at_4) ?_
  show GoW _ _ _ s₁ (mkF m 5 #[.val (.int p0), .val (.int p1), .val (.int p2), .val (.int p3), .val (.int p4), .unset, .unset, .unset, .unset, .unset, .unset, .unset] [(.int (5 : Int32)), (.int (p0 &&& (2147483647 : Int32)))]) _ _ _
  refine GoW.irem X0 hx (hb hby at_5) (by decide) ?_
  show GoW _ _ _ s₁ (mkF m 6 #[.val (.int p0), .val (.int p1), .val (.int p2), .val (.int p3), .val (.int p4), .unset, .unset, .unset, .unset, .unset, .unset, .unset] [(.int ((p0 &&& (2147483647 : Int32)) % (5 : Int32)))]) _ _ _
  refine GoW.istore X0 hx (hb hby at_6) (l' := #[.val (.int p0), .val (.int p1), .val (.int p2), .val (.int p3), .val (.int p4), .val (.int ((p0 &&& (2147483647 : Int32)) % (5 : Int32))), .unset, .unset, .unset, .unset, .unset, .unset]) rfl ?_
  show GoW _ _ _ s₁ (mkF m 8 #[.val (.int p0), .val (.int p1), .val (.int p2), .val (.int p3), .val (.int p4), .val (.int ((p0 &&& (2147483647 : Int32)) % (5 : Int32))), .unset, .unset, .unset, .unset, .unset, .unset] []) _ _ _
  refine (show ∀ nn : Int32, nn = ((p0 &&& (2147483647 : Int32)) % (5 : Int32)) → GoW _ _ _ s₁ (mkF m 8 #[.val (.int p0), .val (.int p1), .val (.int p2), .val (.int p3), .val (.int p4), .val (.int nn), .unset, .unset, .unset, .unset, .unset, .unset] []) _ _ _ from ?_) _ rfl
  intro nn g_nn
  have b_nn : 0 ≤ nn.toInt ∧ nn.toInt < 5 := by rw [g_nn]; exact own_mod p0 (5 : Int32) 5 (by decide) (by decide)
  refine GoW.iloadN X0 hx (hb hby at_8) rfl ?_
  show GoW _ _ _ s₁ (mkF m 9 #[.val (.int p0), .val (.int p1), .val (.int p2), .val (.int p3), .val (.int p4), .val (.int nn), .unset, .unset, .unset, .unset, .unset, .unset] [(.int p1)]) _ _ _
  refine GoW.callS (W := 0) (argsL := [(.int p1)]) (rest := []) X0 hx hZ hown (w1 hw) (w2 hw) (w3 hw) (w4 hw) (by decide) (rm_pick l Z a0 hw p1 h0 n0 Z0 ) e0 (lenOf pd_7 rfl) (hb hby at_9) (by rw [hml]; rfl) rfl (Nat.le_of_eq rfl) (by decide) (by decide) (by decide) (by decide) ?_
  intro v198 T198 L198 X198 q198
  obtain ⟨r198, rfl, M198, K198, P198_0⟩ := q198
  have N198 := Fr.app N0 M198
  have Z198 : n0 ≤ T198.heap.size := Nat.le_trans Z0 K198.1
  have B198 : h0.size ≤ T198.heap.size := Nat.le_trans (Nat.le_refl _) K198.1
  have KK198 : h0.size ≤ T198.heap.size := Nat.le_trans (Nat.le_refl _) K198.1
  show GoW _ _ _ T198 (mkF m 12 #[.val (.int p0), .val (.int p1), .val (.int p2), .val (.int p3), .val (.int p4), .val (.int nn), .unset, .unset, .unset, .unset, .unset, .unset] [(.int r198)]) _ _ _
  refine GoW.istore X198 hx (hb hby at_12) (l' := #[.val (.int p0), .val (.int p1), .val (.int p2), .val (.int p3), .val (.int p4), .val (.int nn), .val (.int r198), .unset, .unset, .unset, .unset, .unset]) rfl ?_
  show GoW _ _ _ T198 (mkF m 14 #[.val (.int p0), .val (.int p1), .val (.int p2), .val (.int p3), .val (.int p4), .val (.int nn), .val (.int r198), .unset, .unset, .unset, .unset, .unset] []) _ _ _
  refine GoW.iloadN X198 hx (hb hby at_14) rfl ?_
  show GoW _ _ _ T198 (mkF m 15 #[.val (.int p0), .val (.int p1), .val (.int p2), .val (.int p3), .val (.int p4), .val (.int nn), .val (.int r198), .unset, .unset, .unset, .unset, .unset] [(.int p2)]) _ _ _
  refine GoW.callS (W := 0) (argsL := [(.int p2)]) (rest := []) X198 hx hZ hown (w1 hw) (w2 hw) (w3 hw) (w4 hw) (by decide) (rm_pick l Z a0 hw p2 T198.heap n0 Z198 ) rfl (lenOf pd_7 rfl) (hb hby at_15) (by rw [hml]; rfl) rfl (Nat.le_of_eq rfl) (by decide) (by decide) (by decide) (by decide) ?_
  intro v199 T199 L199 X199 q199
  obtain ⟨r199, rfl, M199, K199, P199_0⟩ := q199
  have N199 := Fr.app N198 M199
  have Z199 : n0 ≤ T199.heap.size := Nat.le_trans Z198 K199.1
  have B199 : h0.size ≤ T199.heap.size := Nat.le_trans B198 K199.1
  have KK199 : h0.size ≤ T199.heap.size := Nat.le_trans KK198 K199.1
  show GoW _ _ _ T199 (mkF m 18 #[.val (.int p0), .val (.int p1), .val (.int p2), .val (.int p3), .val (.int p4), .val (.int nn), .val (.int r198), .unset, .unset, .unset, .unset, .unset] [(.int r199)]) _ _ _
  refine GoW.istore X199 hx (hb hby at_18) (l' := #[.val (.int p0), .val (.int p1), .val (.int p2), .val (.int p3), .val (.int p4), .val (.int nn), .val (.int r198), .val (.int r199), .unset, .unset, .unset, .unset]) rfl ?_
  show GoW _ _ _ T199 (mkF m 20 #[.val (.int p0), .val (.int p1), .val (.int p2), .val (.int p3), .val (.int p4), .val (.int nn), .val (.int r198), .val (.int r199), .unset, .unset, .unset, .unset] []) _ _ _
  refine GoW.iloadN X199 hx (hb hby at_20) rfl ?_
  show GoW _ _ _ T199 (mkF m 21 #[.val (.int p0), .val (.int p1), .val (.int p2), .val (.int p3), .val (.int p4), .val (.int nn), .val (.int r198), .val (.int r199), .unset, .unset, .unset, .unset] [(.int p3)]) _ _ _
  refine GoW.callS (W := 0) (argsL := [(.int p3)]) (rest := []) X199 hx hZ hown (w1 hw) (w2 hw) (w3 hw) (w4 hw) (by decide) (rm_pick l Z a0 hw p3 T199.heap n0 Z199 ) rfl (lenOf pd_7 rfl) (hb hby at_21) (by rw [hml]; rfl) rfl (Nat.le_of_eq rfl) (by decide) (by decide) (by decide) (by decide) ?_
  intro v200 T200 L200 X200 q200
  obtain ⟨r200, rfl, M200, K200, P200_0⟩ := q200
  have N200 := Fr.app N199 M200
  have Z200 : n0 ≤ T200.heap.size := Nat.le_trans Z199 K200.1
  have B200 : h0.size ≤ T200.heap.size := Nat.le_trans B199 K200.1
  have KK200 : h0.size ≤ T200.heap.size := Nat.le_trans KK199 K200.1
  show GoW _ _ _ T200 (mkF m 24 #[.val (.int p0), .val (.int p1), .val (.int p2), .val (.int p3), .val (.int p4), .val (.int nn), .val (.int r198), .val (.int r199), .unset, .unset, .unset, .unset] [(.int r200)]) _ _ _
  refine GoW.istore X200 hx (hb hby at_24) (l' := #[.val (.int p0), .val (.int p1), .val (.int p2), .val (.int p3), .val (.int p4), .val (.int nn), .val (.int r198), .val (.int r199), .val (.int r200), .unset, .unset, .unset]) rfl ?_
  show GoW _ _ _ T200 (mkF m 26 #[.val (.int p0), .val (.int p1), .val (.int p2), .val (.int p3), .val (.int p4), .val (.int nn), .val (.int r198), .val (.int r199), .val (.int r200), .unset, .unset, .unset] []) _ _ _
  refine GoW.iload X200 hx (hb hby at_26) rfl ?_
  show GoW _ _ _ T200 (mkF m 28 #[.val (.int p0), .val (.int p1), .val (.int p2), .val (.int p3), .val (.int p4), .val (.int nn), .val (.int r198), .val (.int r199), .val (.int r200), .unset, .unset, .unset] [(.int p4)]) _ _ _
  refine GoW.callS (W := 0) (argsL := [(.int p4)]) (rest := []) X200 hx hZ hown (w1 hw) (w2 hw) (w3 hw) (w4 hw) (by decide) (rm_pick l Z a0 hw p4 T200.heap n0 Z200 ) rfl (lenOf pd_7 rfl) (hb hby at_28) (by rw [hml]; rfl) rfl (Nat.le_of_eq rfl) (by decide) (by decide) (by decide) (by decide) ?_
  intro v201 T201 L201 X201 q201
  obtain ⟨r201, rfl, M201, K201, P201_0⟩ := q201
  have N201 := Fr.app N200 M201
  have Z201 : n0 ≤ T201.heap.size := Nat.le_trans Z200 K201.1
  have B201 : h0.size ≤ T201.heap.size := Nat.le_trans B200 K201.1
  have KK201 : h0.size ≤ T201.heap.size := Nat.le_trans KK200 K201.1
  show GoW _ _ _ T201 (mkF m 31 #[.val (.int p0), .val (.int p1), .val (.int p2), .val (.int p3), .val (.int p4), .val (.int nn), .val (.int r198), .val (.int r199), .val (.int r200), .unset, .unset, .unset] [(.int r201)]) _ _ _
  refine GoW.istore X201 hx (hb hby at_31) (l' := #[.val (.int p0), .val (.int p1), .val (.int p2), .val (.int p3), .val (.int p4), .val (.int nn), .val (.int r198), .val (.int r199), .val (.int r200), .val (.int r201), .unset, .unset]) rfl ?_
  show GoW _ _ _ T201 (mkF m 33 #[.val (.int p0), .val (.int p1), .val (.int p2), .val (.int p3), .val (.int p4), .val (.int nn), .val (.int r198), .val (.int r199), .val (.int r200), .val (.int r201), .unset, .unset] []) _ _ _
  rcases own_case5 b_nn.1 b_nn.2 with rfl | rfl | rfl | rfl | rfl
  · show GoW _ _ _ T201 (mkF m 33 #[.val (.int p0), .val (.int p1), .val (.int p2), .val (.int p3), .val (.int p4), .val (.int (0 : Int32)), .val (.int r198), .val (.int r199), .val (.int r200), .val (.int r201), .unset, .unset] []) _ _ _
    refine GoW.iload X201 hx (hb hby at_33) rfl ?_
    show GoW _ _ _ T201 (mkF m 35 #[.val (.int p0), .val (.int p1), .val (.int p2), .val (.int p3), .val (.int p4), .val (.int (0 : Int32)), .val (.int r198), .val (.int r199), .val (.int r200), .val (.int r201), .unset, .unset] [(.int (0 : Int32))]) _ _ _
    refine GoW.iload X201 hx (hb hby at_35) rfl ?_
    show GoW _ _ _ T201 (mkF m 37 #[.val (.int p0), .val (.int p1), .val (.int p2), .val (.int p3), .val (.int p4), .val (.int (0 : Int32)), .val (.int r198), .val (.int r199), .val (.int r200), .val (.int r201), .unset, .unset] [(.int r198), (.int (0 : Int32))]) _ _ _
    refine GoW.iload X201 hx (hb hby at_37) rfl ?_
    show GoW _ _ _ T201 (mkF m 39 #[.val (.int p0), .val (.int p1), .val (.int p2), .val (.int p3), .val (.int p4), .val (.int (0 : Int32)), .val (.int r198), .val (.int r199), .val (.int r200), .val (.int r201), .unset, .unset] [(.int r199), (.int r198), (.int (0 : Int32))]) _ _ _
    refine GoW.iload X201 hx (hb hby at_39) rfl ?_
    show GoW _ _ _ T201 (mkF m 41 #[.val (.int p0), .val (.int p1), .val (.int p2), .val (.int p3), .val (.int p4), .val (.int (0 : Int32)), .val (.int r198), .val (.int r199), .val (.int r200), .val (.int r201), .unset, .unset] [(.int r200), (.int r199), (.int r198), (.int (0 : Int32))]) _ _ _
    refine GoW.iload X201 hx (hb hby at_41) rfl ?_
    show GoW _ _ _ T201 (mkF m 43 #[.val (.int p0), .val (.int p1), .val (.int p2), .val (.int p3), .val (.int p4), .val (.int (0 : Int32)), .val (.int r198), .val (.int r199), .val (.int r200), .val (.int r201), .unset, .unset] [(.int r201), (.int r200), (.int r199), (.int r198), (.int (0 : Int32))]) _ _ _
    have O202 := (Old.keep (Old.keep (Old.keep (Old.keep f2 K198 all0) K199 all0) K200 all0) K201 all0)
    refine GoW.callSW (W := 0) (argsL := [(.int (0 : Int32)), (.int r198), (.int r199), (.int r200), (.int r201)]) (rest := []) X201 hx hZ hown (w5 hw) (w6 hw) (w3 hw) (w7 hw) (by decide) I0 hS KK201 (rm_mk0 l Z a0 hw HC r198 r199 r200 r201 T201.heap n0 Z201 O202) rfl (lenOf pd_8 rfl) (hb hby at_43) (by rw [hml]; rfl) rfl (Nat.le_of_eq rfl) (by decide) (by decide) (by decide) (by decide) ?_
    intro v203 T203 L203 X203 hZ hown hS I0 q203
    obtain ⟨xa203, bx203, kx203, rfl, M203, K203, P203_0, P203_1, P203_2, P203_3, P203_4⟩ := q203
    have N203 := Fr.app N201 M203
    have Z203 : n0 ≤ T203.heap.size := Nat.le_trans Z201 K203.1
    have B203 : h0.size ≤ T203.heap.size := Nat.le_trans B201 K203.1
    have KK203 : h0.size ≤ T203.heap.size := Nat.le_trans KK201 K203.1
    show GoW _ _ _ T203 (mkF m 46 #[.val (.int p0), .val (.int p1), .val (.int p2), .val (.int p3), .val (.int p4), .val (.int (0 : Int32)), .val (.int r198), .val (.int r199), .val (.int r200), .val (.int r201), .unset, .unset] [(.ref xa203)]) _ _ _
    refine GoW.astore X203 hx (hb hby at_46) rfl (l' := #[.val (.int p0), .val (.int p1), .val (.int p2), .val (.int p3), .val (.int p4), .val (.int (0 : Int32)), .val (.int r198), .val (.int r199), .val (.int r200), .val (.int r201), .val (.ref xa203), .unset]) rfl ?_
    show GoW _ _ _ T203 (mkF m 48 #[.val (.int p0), .val (.int p1), .val (.int p2), .val (.int p3), .val (.int p4), .val (.int (0 : Int32)), .val (.int r198), .val (.int r199), .val (.int r200), .val (.int r201), .val (.ref xa203), .unset] []) _ _ _
    refine GoW.iload X203 hx (hb hby at_48) rfl ?_
    show GoW _ _ _ T203 (mkF m 50 #[.val (.int p0), .val (.int p1), .val (.int p2), .val (.int p3), .val (.int p4), .val (.int (0 : Int32)), .val (.int r198), .val (.int r199), .val (.int r200), .val (.int r201), .val (.ref xa203), .unset] [(.int (0 : Int32))]) _ _ _
    refine GoW.iconst X203 hx (hb hby at_50) ?_
    show GoW _ _ _ T203 (mkF m 51 #[.val (.int p0), .val (.int p1), .val (.int p2), .val (.int p3), .val (.int p4), .val (.int (0 : Int32)), .val (.int r198), .val (.int r199), .val (.int r200), .val (.int r201), .val (.ref xa203), .unset] [(.int (3 : Int32)), (.int (0 : Int32))]) _ _ _
    refine GoW.icmpYes X203 hx (hb hby at_51) (XT.ii_ne_t (by decide)) (pc' := 79) (by decide) (by decide) ?_
    show GoW _ _ _ T203 (mkF m 79 #[.val (.int p0), .val (.int p1), .val (.int p2), .val (.int p3), .val (.int p4), .val (.int (0 : Int32)), .val (.int r198), .val (.int r199), .val (.int r200), .val (.int r201), .val (.ref xa203), .unset] []) _ _ _
    refine GoW.iconst X203 hx (hb hby at_79) ?_
    show GoW _ _ _ T203 (mkF m 80 #[.val (.int p0), .val (.int p1), .val (.int p2), .val (.int p3), .val (.int p4), .val (.int (0 : Int32)), .val (.int r198), .val (.int r199), .val (.int r200), .val (.int r201), .val (.ref xa203), .unset] [(.int (0 : Int32))]) _ _ _
    refine GoW.istore X203 hx (hb hby at_80) (l' := #[.val (.int p0), .val (.int p1), .val (.int p2), .val (.int p3), .val (.int p4), .val (.int (0 : Int32)), .val (.int r198), .val (.int r199), .val (.int r200), .val (.int r201), .val (.ref xa203), .val (.int (0 : Int32))]) rfl ?_
    show GoW _ _ _ T203 (mkF m 82 #[.val (.int p0), .val (.int p1), .val (.int p2), .val (.int p3), .val (.int p4), .val (.int (0 : Int32)), .val (.int r198), .val (.int r199), .val (.int r200), .val (.int r201), .val (.ref xa203), .val (.int (0 : Int32))] []) _ _ _
    refine GoW.aload X203 hx (hb hby at_82) rfl rfl ?_
    show GoW _ _ _ T203 (mkF m 84 #[.val (.int p0), .val (.int p1), .val (.int p2), .val (.int p3), .val (.int p4), .val (.int (0 : Int32)), .val (.int r198), .val (.int r199), .val (.int r200), .val (.int r201), .val (.ref xa203), .val (.int (0 : Int32))] [(.ref xa203)]) _ _ _
    have F204 := (sta_keep (sta_keep (sta_keep (sta_keep (sta_keep f0 K198) K199) K200) K201) K203)
    have O205 := (Old.keep O202 K203 all0)
    refine GoW.callSW (W := 0) (argsL := [(.ref xa203)]) (rest := []) X203 hx hZ hown (w30 hw) (w31 hw) (w32 hw) (w33 hw) (by decide) I0 hS (Nat.le_refl _) (rm_hs0 l Z a0 hw HC xa203 bx203 kx203 cs T203.heap n0 Z203 P203_1 P203_2 P203_3 P203_4 F204 f1 O205) rfl (lenOf pd_9 rfl) (hb hby at_84) (by rw [hml]; rfl) rfl (Nat.le_of_eq rfl) (by decide) (by decide) (by decide) (by decide) ?_
    intro v206 T206 L206 X206 hZ hown hS I0 q206
    obtain ⟨rfl, M206, K206⟩ := q206
    have N206 := Fr.app N203 M206
    have Z206 : n0 ≤ T206.heap.size := Nat.le_trans Z203 K206.1
    have B206 : h0.size ≤ T206.heap.size := Nat.le_trans B203 K206.1
    have KK206 : T203.heap.size ≤ T206.heap.size := Nat.le_trans (Nat.le_refl _) K206.1
    show GoW _ _ _ T206 (mkF m 87 #[.val (.int p0), .val (.int p1), .val (.int p2), .val (.int p3), .val (.int p4), .val (.int (0 : Int32)), .val (.int r198), .val (.int r199), .val (.int r200), .val (.int r201), .val (.ref xa203), .val (.int (0 : Int32))] [(.int (1 : Int32))]) _ _ _
    refine GoW.iload X206 hx (hb hby at_87) rfl ?_
    show GoW _ _ _ T206 (mkF m 89 #[.val (.int p0), .val (.int p1), .val (.int p2), .val (.int p3), .val (.int p4), .val (.int (0 : Int32)), .val (.int r198), .val (.int r199), .val (.int r200), .val (.int r201), .val (.ref xa203), .val (.int (0 : Int32))] [(.int (0 : Int32)), (.int (1 : Int32))]) _ _ _
    refine GoW.ifNo X206 hx (hb hby at_89) (XT.i0_ne_f (by decide)) ?_
    show GoW _ _ _ T206 (mkF m 92 #[.val (.int p0), .val (.int p1), .val (.int p2), .val (.int p3), .val (.int p4), .val (.int (0 : Int32)), .val (.int r198), .val (.int r199), .val (.int r200), .val (.int r201), .val (.ref xa203), .val (.int (0 : Int32))] [(.int (1 : Int32))]) _ _ _
    refine GoW.iconst X206 hx (hb hby at_92) ?_
    show GoW _ _ _ T206 (mkF m 93 #[.val (.int p0), .val (.int p1), .val (.int p2), .val (.int p3), .val (.int p4), .val (.int (0 : Int32)), .val (.int r198), .val (.int r199), .val (.int r200), .val (.int r201), .val (.ref xa203), .val (.int (0 : Int32))] [(.int (1 : Int32)), (.int (1 : Int32))]) _ _ _
    refine GoW.goto X206 hx (hb hby at_93) (pc' := 97) (by decide) (by decide) ?_
    show GoW _ _ _ T206 (mkF m 97 #[.val (.int p0), .val (.int p1), .val (.int p2), .val (.int p3), .val (.int p4), .val (.int (0 : Int32)), .val (.int r198), .val (.int r199), .val (.int r200), .val (.int r201), .val (.ref xa203), .val (.int (0 : Int32))] [(.int (1 : Int32)), (.int (1 : Int32))]) _ _ _
    refine GoW.icmpNo X206 hx (hb hby at_97) (XT.ii_ne_f (by decide)) ?_
    show GoW _ _ _ T206 (mkF m 100 #[.val (.int p0), .val (.int p1), .val (.int p2), .val (.int p3), .val (.int p4), .val (.int (0 : Int32)), .val (.int r198), .val (.int r199), .val (.int r200), .val (.int r201), .val (.ref xa203), .val (.int (0 : Int32))] []) _ _ _
    refine GoW.iconst X206 hx (hb hby at_100) ?_
    show GoW _ _ _ T206 (mkF m 101 #[.val (.int p0), .val (.int p1), .val (.int p2), .val (.int p3), .val (.int p4), .val (.int (0 : Int32)), .val (.int r198), .val (.int r199), .val (.int r200), .val (.int r201), .val (.ref xa203), .val (.int (0 : Int32))] [(.int (1 : Int32))]) _ _ _
    refine GoW.goto X206 hx (hb hby at_101) (pc' := 105) (by decide) (by decide) ?_
    show GoW _ _ _ T206 (mkF m 105 #[.val (.int p0), .val (.int p1), .val (.int p2), .val (.int p3), .val (.int p4), .val (.int (0 : Int32)), .val (.int r198), .val (.int r199), .val (.int r200), .val (.int r201), .val (.ref xa203), .val (.int (0 : Int32))] [(.int (1 : Int32))]) _ _ _
    refine GoW.retZ X206 hx hlk hS (Nat.le_refl _) I0 hret (by decide) (hb hby at_105) (by decide) (by decide) ?_
    exact ⟨rfl, N206⟩
  · show GoW _ _ _ T201 (mkF m 33 #[.val (.int p0), .val (.int p1), .val (.int p2), .val (.int p3), .val (.int p4), .val (.int (1 : Int32)), .val (.int r198), .val (.int r199), .val (.int r200), .val (.int r201), .unset, .unset] []) _ _ _
    refine GoW.iload X201 hx (hb hby at_33) rfl ?_
    show GoW _ _ _ T201 (mkF m 35 #[.val (.int p0), .val (.int p1), .val (.int p2), .val (.int p3), .val (.int p4), .val (.int (1 : Int32)), .val (.int r198), .val (.int r199), .val (.int r200), .val (.int r201), .unset, .unset] [(.int (1 : Int32))]) _ _ _
    refine GoW.iload X201 hx (hb hby at_35) rfl ?_
    show GoW _ _ _ T201 (mkF m 37 #[.val (.int p0), .val (.int p1), .val (.int p2), .val (.int p3), .val (.int p4), .val (.int (1 : Int32)), .val (.int r198), .val (.int r199), .val (.int r200), .val (.int r201), .unset, .unset] [(.int r198), (.int (1 : Int32))]) _ _ _
    refine GoW.iload X201 hx (hb hby at_37) rfl ?_
    show GoW _ _ _ T201 (mkF m 39 #[.val (.int p0), .val (.int p1), .val (.int p2), .val (.int p3), .val (.int p4), .val (.int (1 : Int32)), .val (.int r198), .val (.int r199), .val (.int r200), .val (.int r201), .unset, .unset] [(.int r199), (.int r198), (.int (1 : Int32))]) _ _ _
    refine GoW.iload X201 hx (hb hby at_39) rfl ?_
    show GoW _ _ _ T201 (mkF m 41 #[.val (.int p0), .val (.int p1), .val (.int p2), .val (.int p3), .val (.int p4), .val (.int (1 : Int32)), .val (.int r198), .val (.int r199), .val (.int r200), .val (.int r201), .unset, .unset] [(.int r200), (.int r199), (.int r198), (.int (1 : Int32))]) _ _ _
    refine GoW.iload X201 hx (hb hby at_41) rfl ?_
    show GoW _ _ _ T201 (mkF m 43 #[.val (.int p0), .val (.int p1), .val (.int p2), .val (.int p3), .val (.int p4), .val (.int (1 : Int32)), .val (.int r198), .val (.int r199), .val (.int r200), .val (.int r201), .unset, .unset] [(.int r201), (.int r200), (.int r199), (.int r198), (.int (1 : Int32))]) _ _ _
    have F207 := (sta_keep (sta_keep (sta_keep (sta_keep f0 K198) K199) K200) K201)
    refine GoW.callS (W := 0) (argsL := [(.int (1 : Int32)), (.int r198), (.int r199), (.int r200), (.int r201)]) (rest := []) X201 hx hZ hown (w5 hw) (w6 hw) (w3 hw) (w7 hw) (by decide) (rm_mk1 l Z a0 hw r198 r199 r200 r201 cs T201.heap n0 Z201 F207 f1 P198_0 P199_0 P200_0 P201_0) rfl (lenOf pd_8 rfl) (hb hby at_43) (by rw [hml]; rfl) rfl (Nat.le_of_eq rfl) (by decide) (by decide) (by decide) (by decide) ?_
    intro v208 T208 L208 X208 q208
    obtain ⟨xa208, bx208, kx208, rfl, M208, K208, P208_0, P208_1, P208_2, P208_3, P208_4⟩ := q208
    have N208 := Fr.app N201 M208
    have Z208 : n0 ≤ T208.heap.size := Nat.le_trans Z201 K208.1
    have B208 : h0.size ≤ T208.heap.size := Nat.le_trans B201 K208.1
    have KK208 : h0.size ≤ T208.heap.size := Nat.le_trans KK201 K208.1
    show GoW _ _ _ T208 (mkF m 46 #[.val (.int p0), .val (.int p1), .val (.int p2), .val (.int p3), .val (.int p4), .val (.int (1 : Int32)), .val (.int r198), .val (.int r199), .val (.int r200), .val (.int r201), .unset, .unset] [(.ref xa208)]) _ _ _
    refine GoW.astore X208 hx (hb hby at_46) rfl (l' := #[.val (.int p0), .val (.int p1), .val (.int p2), .val (.int p3), .val (.int p4), .val (.int (1 : Int32)), .val (.int r198), .val (.int r199), .val (.int r200), .val (.int r201), .val (.ref xa208), .unset]) rfl ?_
    show GoW _ _ _ T208 (mkF m 48 #[.val (.int p0), .val (.int p1), .val (.int p2), .val (.int p3), .val (.int p4), .val (.int (1 : Int32)), .val (.int r198), .val (.int r199), .val (.int r200), .val (.int r201), .val (.ref xa208), .unset] []) _ _ _
    refine GoW.iload X208 hx (hb hby at_48) rfl ?_
    show GoW _ _ _ T208 (mkF m 50 #[.val (.int p0), .val (.int p1), .val (.int p2), .val (.int p3), .val (.int p4), .val (.int (1 : Int32)), .val (.int r198), .val (.int r199), .val (.int r200), .val (.int r201), .val (.ref xa208), .unset] [(.int (1 : Int32))]) _ _ _
    refine GoW.iconst X208 hx (hb hby at_50) ?_
    show GoW _ _ _ T208 (mkF m 51 #[.val (.int p0), .val (.int p1), .val (.int p2), .val (.int p3), .val (.int p4), .val (.int (1 : Int32)), .val (.int r198), .val (.int r199), .val (.int r200), .val (.int r201), .val (.ref xa208), .unset] [(.int (3 : Int32)), (.int (1 : Int32))]) _ _ _
    refine GoW.icmpYes X208 hx (hb hby at_51) (XT.ii_ne_t (by decide)) (pc' := 79) (by decide) (by decide) ?_
    show GoW _ _ _ T208 (mkF m 79 #[.val (.int p0), .val (.int p1), .val (.int p2), .val (.int p3), .val (.int p4), .val (.int (1 : Int32)), .val (.int r198), .val (.int r199), .val (.int r200), .val (.int r201), .val (.ref xa208), .unset] []) _ _ _
    refine GoW.iconst X208 hx (hb hby at_79) ?_
    show GoW _ _ _ T208 (mkF m 80 #[.val (.int p0), .val (.int p1), .val (.int p2), .val (.int p3), .val (.int p4), .val (.int (1 : Int32)), .val (.int r198), .val (.int r199), .val (.int r200), .val (.int r201), .val (.ref xa208), .unset] [(.int (0 : Int32))]) _ _ _
    refine GoW.istore X208 hx (hb hby at_80) (l' := #[.val (.int p0), .val (.int p1), .val (.int p2), .val (.int p3), .val (.int p4), .val (.int (1 : Int32)), .val (.int r198), .val (.int r199), .val (.int r200), .val (.int r201), .val (.ref xa208), .val (.int (0 : Int32))]) rfl ?_
    show GoW _ _ _ T208 (mkF m 82 #[.val (.int p0), .val (.int p1), .val (.int p2), .val (.int p3), .val (.int p4), .val (.int (1 : Int32)), .val (.int r198), .val (.int r199), .val (.int r200), .val (.int r201), .val (.ref xa208), .val (.int (0 : Int32))] []) _ _ _
    refine GoW.aload X208 hx (hb hby at_82) rfl rfl ?_
    show GoW _ _ _ T208 (mkF m 84 #[.val (.int p0), .val (.int p1), .val (.int p2), .val (.int p3), .val (.int p4), .val (.int (1 : Int32)), .val (.int r198), .val (.int r199), .val (.int r200), .val (.int r201), .val (.ref xa208), .val (.int (0 : Int32))] [(.ref xa208)]) _ _ _
    have O209 := (Old.keep (Old.keep (Old.keep (Old.keep (Old.keep f2 K198 all0) K199 all0) K200 all0) K201 all0) K208 all0)
    refine GoW.callSW (W := 0) (argsL := [(.ref xa208)]) (rest := []) X208 hx hZ hown (w30 hw) (w31 hw) (w32 hw) (w33 hw) (by decide) I0 hS KK208 (rm_hs1 l Z a0 hw HC xa208 bx208 kx208 cs (bz r198) T208.heap n0 Z208 P208_1 P208_2 P208_3 P208_4 (sta_keep F207 K208) f1 O209) rfl (lenOf pd_9 rfl) (hb hby at_84) (by rw [hml]; rfl) rfl (Nat.le_of_eq rfl) (by decide) (by decide) (by decide) (by decide) ?_
    intro v210 T210 L210 X210 hZ hown hS I0 q210
    obtain ⟨rfl, M210, K210⟩ := q210
    have N210 := Fr.app N208 M210
    have Z210 : n0 ≤ T210.heap.size := Nat.le_trans Z208 K210.1
    have B210 : h0.size ≤ T210.heap.size := Nat.le_trans B208 K210.1
    have KK210 : h0.size ≤ T210.heap.size := Nat.le_trans KK208 K210.1
    show GoW _ _ _ T210 (mkF m 87 #[.val (.int p0), .val (.int p1), .val (.int p2), .val (.int p3), .val (.int p4), .val (.int (1 : Int32)), .val (.int r198), .val (.int r199), .val (.int r200), .val (.int r201), .val (.ref xa208), .val (.int (0 : Int32))] [(.int (1 : Int32))]) _ _ _
    refine GoW.iload X210 hx (hb hby at_87) rfl ?_
    show GoW _ _ _ T210 (mkF m 89 #[.val (.int p0), .val (.int p1), .val (.int p2), .val (.int p3), .val (.int p4), .val (.int (1 : Int32)), .val (.int r198), .val (.int r199), .val (.int r200), .val (.int r201), .val (.ref xa208), .val (.int (0 : Int32))] [(.int (0 : Int32)), (.int (1 : Int32))]) _ _ _
    refine GoW.ifNo X210 hx (hb hby at_89) (XT.i0_ne_f (by decide)) ?_
    show GoW _ _ _ T210 (mkF m 92 #[.val (.int p0), .val (.int p1), .val (.int p2), .val (.int p3), .val (.int p4), .val (.int (1 : Int32)), .val (.int r198), .val (.int r199), .val (.int r200), .val (.int r201), .val (.ref xa208), .val (.int (0 : Int32))] [(.int (1 : Int32))]) _ _ _
    refine GoW.iconst X210 hx (hb hby at_92) ?_
    show GoW _ _ _ T210 (mkF m 93 #[.val (.int p0), .val (.int p1), .val (.int p2), .val (.int p3), .val (.int p4), .val (.int (1 : Int32)), .val (.int r198), .val (.int r199), .val (.int r200), .val (.int r201), .val (.ref xa208), .val (.int (0 : Int32))] [(.int (1 : Int32)), (.int (1 : Int32))]) _ _ _
    refine GoW.goto X210 hx (hb hby at_93) (pc' := 97) (by decide) (by decide) ?_
    show GoW _ _ _ T210 (mkF m 97 #[.val (.int p0), .val (.int p1), .val (.int p2), .val (.int p3), .val (.int p4), .val (.int (1 : Int32)), .val (.int r198), .val (.int r199), .val (.int r200), .val (.int r201), .val (.ref xa208), .val (.int (0 : Int32))] [(.int (1 : Int32)), (.int (1 : Int32))]) _ _ _
    refine GoW.icmpNo X210 hx (hb hby at_97) (XT.ii_ne_f (by decide)) ?_
    show GoW _ _ _ T210 (mkF m 100 #[.val (.int p0), .val (.int p1), .val (.int p2), .val (.int p3), .val (.int p4), .val (.int (1 : Int32)), .val (.int r198), .val (.int r199), .val (.int r200), .val (.int r201), .val (.ref xa208), .val (.int (0 : Int32))] []) _ _ _
    refine GoW.iconst X210 hx (hb hby at_100) ?_
    show GoW _ _ _ T210 (mkF m 101 #[.val (.int p0), .val (.int p1), .val (.int p2), .val (.int p3), .val (.int p4), .val (.int (1 : Int32)), .val (.int r198), .val (.int r199), .val (.int r200), .val (.int r201), .val (.ref xa208), .val (.int (0 : Int32))] [(.int (1 : Int32))]) _ _ _
    refine GoW.goto X210 hx (hb hby at_101) (pc' := 105) (by decide) (by decide) ?_
    show GoW _ _ _ T210 (mkF m 105 #[.val (.int p0), .val (.int p1), .val (.int p2), .val (.int p3), .val (.int p4), .val (.int (1 : Int32)), .val (.int r198), .val (.int r199), .val (.int r200), .val (.int r201), .val (.ref xa208), .val (.int (0 : Int32))] [(.int (1 : Int32))]) _ _ _
    refine GoW.retZ X210 hx hlk hS (Nat.le_refl _) (IB.sub I0 (by decide)) hret (by decide) (hb hby at_105) (by decide) (by decide) ?_
    exact ⟨rfl, N210⟩
  · show GoW _ _ _ T201 (mkF m 33 #[.val (.int p0), .val (.int p1), .val (.int p2), .val (.int p3), .val (.int p4), .val (.int (2 : Int32)), .val (.int r198), .val (.int r199), .val (.int r200), .val (.int r201), .unset, .unset] []) _ _ _
    refine GoW.iload X201 hx (hb hby at_33) rfl ?_
    show GoW _ _ _ T201 (mkF m 35 #[.val (.int p0), .val (.int p1), .val (.int p2), .val (.int p3), .val (.int p4), .val (.int (2 : Int32)), .val (.int r198), .val (.int r199), .val (.int r200), .val (.int r201), .unset, .unset] [(.int (2 : Int32))]) _ _ _
    refine GoW.iload X201 hx (hb hby at_35) rfl ?_
    show GoW _ _ _ T201 (mkF m 37 #[.val (.int p0), .val (.int p1), .val (.int p2), .val (.int p3), .val (.int p4), .val (.int (2 : Int32)), .val (.int r198), .val (.int r199), .val (.int r200), .val (.int r201), .unset, .unset] [(.int r198), (.int (2 : Int32))]) _ _ _
    refine GoW.iload X201 hx (hb hby at_37) rfl ?_
    show GoW _ _ _ T201 (mkF m 39 #[.val (.int p0), .val (.int p1), .val (.int p2), .val (.int p3), .val (.int p4), .val (.int (2 : Int32)), .val (.int r198), .val (.int r199), .val (.int r200), .val (.int r201), .unset, .unset] [(.int r199), (.int r198), (.int (2 : Int32))]) _ _ _
    refine GoW.iload X201 hx (hb hby at_39) rfl ?_
    show GoW _ _ _ T201 (mkF m 41 #[.val (.int p0), .val (.int p1), .val (.int p2), .val (.int p3), .val (.int p4), .val (.int (2 : Int32)), .val (.int r198), .val (.int r199), .val (.int r200), .val (.int r201), .unset, .unset] [(.int r200), (.int r199), (.int r198), (.int (2 : Int32))]) _ _ _
    refine GoW.iload X201 hx (hb hby at_41) rfl ?_
    show GoW _ _ _ T201 (mkF m 43 #[.val (.int p0), .val (.int p1), .val (.int p2), .val (.int p3), .val (.int p4), .val (.int (2 : Int32)), .val (.int r198), .val (.int r199), .val (.int r200), .val (.int r201), .unset, .unset] [(.int r201), (.int r200), (.int r199), (.int r198), (.int (2 : Int32))]) _ _ _
    have F211 := (sta_keep (sta_keep (sta_keep (sta_keep f0 K198) K199) K200) K201)
    refine GoW.callS (W := 0) (argsL := [(.int (2 : Int32)), (.int r198), (.int r199), (.int r200), (.int r201)]) (rest := []) X201 hx hZ hown (w5 hw) (w6 hw) (w3 hw) (w7 hw) (by decide) (rm_mk2 l Z a0 hw r198 r199 r200 r201 cs T201.heap n0 Z201 F211 f1 P198_0 P199_0 P200_0 P201_0) rfl (lenOf pd_8 rfl) (hb hby at_43) (by rw [hml]; rfl) rfl (Nat.le_of_eq rfl) (by decide) (by decide) (by decide) (by decide) ?_
    intro v212 T212 L212 X212 q212
    obtain ⟨xa212, bx212, kx212, rfl, M212, K212, P212_0, P212_1, P212_2, P212_3, P212_4⟩ := q212
    have N212 := Fr.app N201 M212
    have Z212 : n0 ≤ T212.heap.size := Nat.le_trans Z201 K212.1
    have B212 : h0.size ≤ T212.heap.size := Nat.le_trans B201 K212.1
    have KK212 : h0.size ≤ T212.heap.size := Nat.le_trans KK201 K212.1
    show GoW _ _ _ T212 (mkF m 46 #[.val (.int p0), .val (.int p1), .val (.int p2), .val (.int p3), .val (.int p4), .val (.int (2 : Int32)), .val (.int r198), .val (.int r199), .val (.int r200), .val (.int r201), .unset, .unset] [(.ref xa212)]) _ _ _
    refine GoW.astore X212 hx (hb hby at_46) rfl (l' := #[.val (.int p0), .val (.int p1), .val (.int p2), .val (.int p3), .val (.int p4), .val (.int (2 : Int32)), .val (.int r198), .val (.int r199), .val (.int r200), .val (.int r201), .val (.ref xa212), .unset]) rfl ?_
    show GoW _ _ _ T212 (mkF m 48 #[.val (.int p0), .val (.int p1), .val (.int p2), .val (.int p3), .val (.int p4), .val (.int (2 : Int32)), .val (.int r198), .val (.int r199), .val (.int r200), .val (.int r201), .val (.ref xa212), .unset] []) _ _ _
    refine GoW.iload X212 hx (hb hby at_48) rfl ?_
    show GoW _ _ _ T212 (mkF m 50 #[.val (.int p0), .val (.int p1), .val (.int p2), .val (.int p3), .val (.int p4), .val (.int (2 : Int32)), .val (.int r198), .val (.int r199), .val (.int r200), .val (.int r201), .val (.ref xa212), .unset] [(.int (2 : Int32))]) _ _ _
    refine GoW.iconst X212 hx (hb hby at_50) ?_
    show GoW _ _ _ T212 (mkF m 51 #[.val (.int p0), .val (.int p1), .val (.int p2), .val (.int p3), .val (.int p4), .val (.int (2 : Int32)), .val (.int r198), .val (.int r199), .val (.int r200), .val (.int r201), .val (.ref xa212), .unset] [(.int (3 : Int32)), (.int (2 : Int32))]) _ _ _
    refine GoW.icmpYes X212 hx (hb hby at_51) (XT.ii_ne_t (by decide)) (pc' := 79) (by decide) (by decide) ?_
    show GoW _ _ _ T212 (mkF m 79 #[.val (.int p0), .val (.int p1), .val (.int p2), .val (.int p3), .val (.int p4), .val (.int (2 : Int32)), .val (.int r198), .val (.int r199), .val (.int r200), .val (.int r201), .val (.ref xa212), .unset] []) _ _ _
    refine GoW.iconst X212 hx (hb hby at_79) ?_
    show GoW _ _ _ T212 (mkF m 80 #[.val (.int p0), .val (.int p1), .val (.int p2), .val (.int p3), .val (.int p4), .val (.int (2 : Int32)), .val (.int r198), .val (.int r199), .val (.int r200), .val (.int r201), .val (.ref xa212), .unset] [(.int (0 : Int32))]) _ _ _
    refine GoW.istore X212 hx (hb hby at_80) (l' := #[.val (.int p0), .val (.int p1), .val (.int p2), .val (.int p3), .val (.int p4), .val (.int (2 : Int32)), .val (.int r198), .val (.int r199), .val (.int r200), .val (.int r201), .val (.ref xa212), .val (.int (0 : Int32))]) rfl ?_
    show GoW _ _ _ T212 (mkF m 82 #[.val (.int p0), .val (.int p1), .val (.int p2), .val (.int p3), .val (.int p4), .val (.int (2 : Int32)), .val (.int r198), .val (.int r199), .val (.int r200), .val (.int r201), .val (.ref xa212), .val (.int (0 : Int32))] []) _ _ _
    refine GoW.aload X212 hx (hb hby at_82) rfl rfl ?_
    show GoW _ _ _ T212 (mkF m 84 #[.val (.int p0), .val (.int p1), .val (.int p2), .val (.int p3), .val (.int p4), .val (.int (2 : Int32)), .val (.int r198), .val (.int r199), .val (.int r200), .val (.int r201), .val (.ref xa212), .val (.int (0 : Int32))] [(.ref xa212)]) _ _ _
    have O213 := (Old.keep (Old.keep (Old.keep (Old.keep (Old.keep f2 K198 all0) K199 all0) K200 all0) K201 all0) K212 all0)
    refine GoW.callSW (W := 0) (argsL := [(.ref xa212)]) (rest := []) X212 hx hZ hown (w30 hw) (w31 hw) (w32 hw) (w33 hw) (by decide) I0 hS KK212 (rm_hs2 l Z a0 hw HC xa212 bx212 kx212 cs (bz r198) (bz r199) T212.heap n0 Z212 P212_1 P212_2 P212_3 P212_4 (sta_keep F211 K212) f1 O213) rfl (lenOf pd_9 rfl) (hb hby at_84) (by rw [hml]; rfl) rfl (Nat.le_of_eq rfl) (by decide) (by decide) (by decide) (by decide) ?_
    intro v214 T214 L214 X214 hZ hown hS I0 q214
    obtain ⟨rfl, M214, K214⟩ := q214
    have N214 := Fr.app N212 M214
    have Z214 : n0 ≤ T214.heap.size := Nat.le_trans Z212 K214.1
    have B214 : h0.size ≤ T214.heap.size := Nat.le_trans B212 K214.1
    have KK214 : h0.size ≤ T214.heap.size := Nat.le_trans KK212 K214.1
    show GoW _ _ _ T214 (mkF m 87 #[.val (.int p0), .val (.int p1), .val (.int p2), .val (.int p3), .val (.int p4), .val (.int (2 : Int32)), .val (.int r198), .val (.int r199), .val (.int r200), .val (.int r201), .val (.ref xa212), .val (.int (0 : Int32))] [(.int (1 : Int32))]) _ _ _
    refine GoW.iload X214 hx (hb hby at_87) rfl ?_
    show GoW _ _ _ T214 (mkF m 89 #[.val (.int p0), .val (.int p1), .val (.int p2), .val (.int p3), .val (.int p4), .val (.int (2 : Int32)), .val (.int r198), .val (.int r199), .val (.int r200), .val (.int r201), .val (.ref xa212), .val (.int (0 : Int32))] [(.int (0 : Int32)), (.int (1 : Int32))]) _ _ _
    refine GoW.ifNo X214 hx (hb hby at_89) (XT.i0_ne_f (by decide)) ?_
    show GoW _ _ _ T214 (mkF m 92 #[.val (.int p0), .val (.int p1), .val (.int p2), .val (.int p3), .val (.int p4), .val (.int (2 : Int32)), .val (.int r198), .val (.int r199), .val (.int r200), .val (.int r201), .val (.ref xa212), .val (.int (0 : Int32))] [(.int (1 : Int32))]) _ _ _
    refine GoW.iconst X214 hx (hb hby at_92) ?_
    show GoW _ _ _ T214 (mkF m 93 #[.val (.int p0), .val (.int p1), .val (.int p2), .val (.int p3), .val (.int p4), .val (.int (2 : Int32)), .val (.int r198), .val (.int r199), .val (.int r200), .val (.int r201), .val (.ref xa212), .val (.int (0 : Int32))] [(.int (1 : Int32)), (.int (1 : Int32))]) _ _ _
    refine GoW.goto X214 hx (hb hby at_93) (pc' := 97) (by decide) (by decide) ?_
    show GoW _ _ _ T214 (mkF m 97 #[.val (.int p0), .val (.int p1), .val (.int p2), .val (.int p3), .val (.int p4), .val (.int (2 : Int32)), .val (.int r198), .val (.int r199), .val (.int r200), .val (.int r201), .val (.ref xa212), .val (.int (0 : Int32))] [(.int (1 : Int32)), (.int (1 : Int32))]) _ _ _
    refine GoW.icmpNo X214 hx (hb hby at_97) (XT.ii_ne_f (by decide)) ?_
    show GoW _ _ _ T214 (mkF m 100 #[.val (.int p0), .val (.int p1), .val (.int p2), .val (.int p3), .val (.int p4), .val (.int (2 : Int32)), .val (.int r198), .val (.int r199), .val (.int r200), .val (.int r201), .val (.ref xa212), .val (.int (0 : Int32))] []) _ _ _
    refine GoW.iconst X214 hx (hb hby at_100) ?_
    show GoW _ _ _ T214 (mkF m 101 #[.val (.int p0), .val (.int p1), .val (.int p2), .val (.int p3), .val (.int p4), .val (.int (2 : Int32)), .val (.int r198), .val (.int r199), .val (.int r200), .val (.int r201), .val (.ref xa212), .val (.int (0 : Int32))] [(.int (1 : Int32))]) _ _ _
    refine GoW.goto X214 hx (hb hby at_101) (pc' := 105) (by decide) (by decide) ?_
    show GoW _ _ _ T214 (mkF m 105 #[.val (.int p0), .val (.int p1), .val (.int p2), .val (.int p3), .val (.int p4), .val (.int (2 : Int32)), .val (.int r198), .val (.int r199), .val (.int r200), .val (.int r201), .val (.ref xa212), .val (.int (0 : Int32))] [(.int (1 : Int32))]) _ _ _
    refine GoW.retZ X214 hx hlk hS (Nat.le_refl _) (IB.sub I0 (by decide)) hret (by decide) (hb hby at_105) (by decide) (by decide) ?_
    exact ⟨rfl, N214⟩
  · show GoW _ _ _ T201 (mkF m 33 #[.val (.int p0), .val (.int p1), .val (.int p2), .val (.int p3), .val (.int p4), .val (.int (3 : Int32)), .val (.int r198), .val (.int r199), .val (.int r200), .val (.int r201), .unset, .unset] []) _ _ _
    refine GoW.iload X201 hx (hb hby at_33) rfl ?_
    show GoW _ _ _ T201 (mkF m 35 #[.val (.int p0), .val (.int p1), .val (.int p2), .val (.int p3), .val (.int p4), .val (.int (3 : Int32)), .val (.int r198), .val (.int r199), .val (.int r200), .val (.int r201), .unset, .unset] [(.int (3 : Int32))]) _ _ _
    refine GoW.iload X201 hx (hb hby at_35) rfl ?_
    show GoW _ _ _ T201 (mkF m 37 #[.val (.int p0), .val (.int p1), .val (.int p2), .val (.int p3), .val (.int p4), .val (.int (3 : Int32)), .val (.int r198), .val (.int r199), .val (.int r200), .val (.int r201), .unset, .unset] [(.int r198), (.int (3 : Int32))]) _ _ _
    refine GoW.iload X201 hx (hb hby at_37) rfl ?_
    show GoW _ _ _ T201 (mkF m 39 #[.val (.int p0), .val (.int p1), .val (.int p2), .val (.int p3), .val (.int p4), .val (.int (3 : Int32)), .val (.int r198), .val (.int r199), .val (.int r200), .val (.int r201), .unset, .unset] [(.int r199), (.int r198), (.int (3 : Int32))]) _ _ _
    refine GoW.iload X201 hx (hb hby at_39) rfl ?_
    show GoW _ _ _ T201 (mkF m 41 #[.val (.int p0), .val (.int p1), .val (.int p2), .val (.int p3), .val (.int p4), .val (.int (3 : Int32)), .val (.int r198), .val (.int r199), .val (.int r200), .val (.int r201), .unset, .unset] [(.int r200), (.int r199), (.int r198), (.int (3 : Int32))]) _ _ _
    refine GoW.iload X201 hx (hb hby at_41) rfl ?_
    show GoW _ _ _ T201 (mkF m 43 #[.val (.int p0), .val (.int p1), .val (.int p2), .val (.int p3), .val (.int p4), .val (.int (3 : Int32)), .val (.int r198), .val (.int r199), .val (.int r200), .val (.int r201), .unset, .unset] [(.int r201), (.int r200), (.int r199), (.int r198), (.int (3 : Int32))]) _ _ _
    have F215 := (sta_keep (sta_keep (sta_keep (sta_keep f0 K198) K199) K200) K201)
    refine GoW.callS (W := 0) (argsL := [(.int (3 : Int32)), (.int r198), (.int r199), (.int r200), (.int r201)]) (rest := []) X201 hx hZ hown (w5 hw) (w6 hw) (w3 hw) (w7 hw) (by decide) (rm_mk3 l Z a0 hw r198 r199 r200 r201 cs T201.heap n0 Z201 F215 f1 P198_0 P199_0 P200_0 P201_0) rfl (lenOf pd_8 rfl) (hb hby at_43) (by rw [hml]; rfl) rfl (Nat.le_of_eq rfl) (by decide) (by decide) (by decide) (by decide) ?_
    intro v216 T216 L216 X216 q216
    obtain ⟨xa216, bx216, kx216, rfl, M216, K216, P216_0, P216_1, P216_2, P216_3, P216_4⟩ := q216
    have N216 := Fr.app N201 M216
    have Z216 : n0 ≤ T216.heap.size := Nat.le_trans Z201 K216.1
    have B216 : h0.size ≤ T216.heap.size := Nat.le_trans B201 K216.1
    have KK216 : h0.size ≤ T216.heap.size := Nat.le_trans KK201 K216.1
    show GoW _ _ _ T216 (mkF m 46 #[.val (.int p0), .val (.int p1), .val (.int p2), .val (.int p3), .val (.int p4), .val (.int (3 : Int32)), .val (.int r198), .val (.int r199), .val (.int r200), .val (.int r201), .unset, .unset] [(.ref xa216)]) _ _ _
    refine GoW.astore X216 hx (hb hby at_46) rfl (l' := #[.val (.int p0), .val (.int p1), .val (.int p2), .val (.int p3), .val (.int p4), .val (.int (3 : Int32)), .val (.int r198), .val (.int r199), .val (.int r200), .val (.int r201), .val (.ref xa216), .unset]) rfl ?_
    show GoW _ _ _ T216 (mkF m 48 #[.val (.int p0), .val (.int p1), .val (.int p2), .val (.int p3), .val (.int p4), .val (.int (3 : Int32)), .val (.int r198), .val (.int r199), .val (.int r200), .val (.int r201), .val (.ref xa216), .unset] []) _ _ _
    refine GoW.iload X216 hx (hb hby at_48) rfl ?_
    show GoW _ _ _ T216 (mkF m 50 #[.val (.int p0), .val (.int p1), .val (.int p2), .val (.int p3), .val (.int p4), .val (.int (3 : Int32)), .val (.int r198), .val (.int r199), .val (.int r200), .val (.int r201), .val (.ref xa216), .unset] [(.int (3 : Int32))]) _ _ _
    refine GoW.iconst X216 hx (hb hby at_50) ?_
    show GoW _ _ _ T216 (mkF m 51 #[.val (.int p0), .val (.int p1), .val (.int p2), .val (.int p3), .val (.int p4), .val (.int (3 : Int32)), .val (.int r198), .val (.int r199), .val (.int r200), .val (.int r201), .val (.ref xa216), .unset] [(.int (3 : Int32)), (.int (3 : Int32))]) _ _ _
    refine GoW.icmpNo X216 hx (hb hby at_51) (XT.ii_ne_f (by decide)) ?_
    show GoW _ _ _ T216 (mkF m 54 #[.val (.int p0), .val (.int p1), .val (.int p2), .val (.int p3), .val (.int p4), .val (.int (3 : Int32)), .val (.int r198), .val (.int r199), .val (.int r200), .val (.int r201), .val (.ref xa216), .unset] []) _ _ _
    refine GoW.iload X216 hx (hb hby at_54) rfl ?_
    show GoW _ _ _ T216 (mkF m 56 #[.val (.int p0), .val (.int p1), .val (.int p2), .val (.int p3), .val (.int p4), .val (.int (3 : Int32)), .val (.int r198), .val (.int r199), .val (.int r200), .val (.int r201), .val (.ref xa216), .unset] [(.int r198)]) _ _ _
    refine GoW.bipush X216 hx (hb hby at_56) ?_
    show GoW _ _ _ T216 (mkF m 58 #[.val (.int p0), .val (.int p1), .val (.int p2), .val (.int p3), .val (.int p4), .val (.int (3 : Int32)), .val (.int r198), .val (.int r199), .val (.int r200), .val (.int r201), .val (.ref xa216), .unset] [(.int (68 : Int32)), (.int r198)]) _ _ _
    rcases Decidable.em (r198 = (68 : Int32)) with c217 | c217
    · refine GoW.icmpNo X216 hx (hb hby at_58) (XT.ii_ne_f c217) ?_
      show GoW _ _ _ T216 (mkF m 61 #[.val (.int p0), .val (.int p1), .val (.int p2), .val (.int p3), .val (.int p4), .val (.int (3 : Int32)), .val (.int r198), .val (.int r199), .val (.int r200), .val (.int r201), .val (.ref xa216), .unset] []) _ _ _
      refine GoW.iload X216 hx (hb hby at_61) rfl ?_
      show GoW _ _ _ T216 (mkF m 63 #[.val (.int p0), .val (.int p1), .val (.int p2), .val (.int p3), .val (.int p4), .val (.int (3 : Int32)), .val (.int r198), .val (.int r199), .val (.int r200), .val (.int r201), .val (.ref xa216), .unset] [(.int r199)]) _ _ _
      refine GoW.bipush X216 hx (hb hby at_63) ?_
      show GoW _ _ _ T216 (mkF m 65 #[.val (.int p0), .val (.int p1), .val (.int p2), .val (.int p3), .val (.int p4), .val (.int (3 : Int32)), .val (.int r198), .val (.int r199), .val (.int r200), .val (.int r201), .val (.ref xa216), .unset] [(.int (83 : Int32)), (.int r199)]) _ _ _
      rcases Decidable.em (r199 = (83 : Int32)) with c218 | c218
      · refine GoW.icmpNo X216 hx (hb hby at_65) (XT.ii_ne_f c218) ?_
        show GoW _ _ _ T216 (mkF m 68 #[.val (.int p0), .val (.int p1), .val (.int p2), .val (.int p3), .val (.int p4), .val (.int (3 : Int32)), .val (.int r198), .val (.int r199), .val (.int r200), .val (.int r201), .val (.ref xa216), .unset] []) _ _ _
        refine GoW.iload X216 hx (hb hby at_68) rfl ?_
        show GoW _ _ _ T216 (mkF m 70 #[.val (.int p0), .val (.int p1), .val (.int p2), .val (.int p3), .val (.int p4), .val (.int (3 : Int32)), .val (.int r198), .val (.int r199), .val (.int r200), .val (.int r201), .val (.ref xa216), .unset] [(.int r200)]) _ _ _
        refine GoW.bipush X216 hx (hb hby at_70) ?_
        show GoW _ _ _ T216 (mkF m 72 #[.val (.int p0), .val (.int p1), .val (.int p2), .val (.int p3), .val (.int p4), .val (.int (3 : Int32)), .val (.int r198), .val (.int r199), .val (.int r200), .val (.int r201), .val (.ref xa216), .unset] [(.int (65 : Int32)), (.int r200)]) _ _ _
        rcases Decidable.em (r200 = (65 : Int32)) with c219 | c219
        · refine GoW.icmpNo X216 hx (hb hby at_72) (XT.ii_ne_f c219) ?_
          show GoW _ _ _ T216 (mkF m 75 #[.val (.int p0), .val (.int p1), .val (.int p2), .val (.int p3), .val (.int p4), .val (.int (3 : Int32)), .val (.int r198), .val (.int r199), .val (.int r200), .val (.int r201), .val (.ref xa216), .unset] []) _ _ _
          refine GoW.iconst X216 hx (hb hby at_75) ?_
          show GoW _ _ _ T216 (mkF m 76 #[.val (.int p0), .val (.int p1), .val (.int p2), .val (.int p3), .val (.int p4), .val (.int (3 : Int32)), .val (.int r198), .val (.int r199), .val (.int r200), .val (.int r201), .val (.ref xa216), .unset] [(.int (1 : Int32))]) _ _ _
          refine GoW.goto X216 hx (hb hby at_76) (pc' := 80) (by decide) (by decide) ?_
          show GoW _ _ _ T216 (mkF m 80 #[.val (.int p0), .val (.int p1), .val (.int p2), .val (.int p3), .val (.int p4), .val (.int (3 : Int32)), .val (.int r198), .val (.int r199), .val (.int r200), .val (.int r201), .val (.ref xa216), .unset] [(.int (1 : Int32))]) _ _ _
          refine GoW.istore X216 hx (hb hby at_80) (l' := #[.val (.int p0), .val (.int p1), .val (.int p2), .val (.int p3), .val (.int p4), .val (.int (3 : Int32)), .val (.int r198), .val (.int r199), .val (.int r200), .val (.int r201), .val (.ref xa216), .val (.int (1 : Int32))]) rfl ?_
          show GoW _ _ _ T216 (mkF m 82 #[.val (.int p0), .val (.int p1), .val (.int p2), .val (.int p3), .val (.int p4), .val (.int (3 : Int32)), .val (.int r198), .val (.int r199), .val (.int r200), .val (.int r201), .val (.ref xa216), .val (.int (1 : Int32))] []) _ _ _
          refine GoW.aload X216 hx (hb hby at_82) rfl rfl ?_
          show GoW _ _ _ T216 (mkF m 84 #[.val (.int p0), .val (.int p1), .val (.int p2), .val (.int p3), .val (.int p4), .val (.int (3 : Int32)), .val (.int r198), .val (.int r199), .val (.int r200), .val (.int r201), .val (.ref xa216), .val (.int (1 : Int32))] [(.ref xa216)]) _ _ _
          have O220 := (Old.keep (Old.keep (Old.keep (Old.keep (Old.keep f2 K198 all0) K199 all0) K200 all0) K201 all0) K216 all0)
          refine GoW.callSW (W := 0) (argsL := [(.ref xa216)]) (rest := []) X216 hx hZ hown (w30 hw) (w31 hw) (w32 hw) (w33 hw) (by decide) I0 hS KK216 (rm_hs3 l Z a0 hw HC xa216 bx216 kx216 cs (bz r198) (bz r199) (bz r200) T216.heap n0 Z216 P216_1 P216_2 P216_3 P216_4 (sta_keep F215 K216) f1 O220) rfl (lenOf pd_9 rfl) (hb hby at_84) (by rw [hml]; rfl) rfl (Nat.le_of_eq rfl) (by decide) (by decide) (by decide) (by decide) ?_
          intro v221 T221 L221 X221 hZ hown hS I0 q221
          obtain ⟨r221, rfl, M221, K221, P221_0⟩ := q221
          have N221 := Fr.app N216 M221
          have Z221 : n0 ≤ T221.heap.size := Nat.le_trans Z216 K221.1
          have B221 : h0.size ≤ T221.heap.size := Nat.le_trans B216 K221.1
          have KK221 : h0.size ≤ T221.heap.size := Nat.le_trans KK216 K221.1
          show GoW _ _ _ T221 (mkF m 87 #[.val (.int p0), .val (.int p1), .val (.int p2), .val (.int p3), .val (.int p4), .val (.int (3 : Int32)), .val (.int r198), .val (.int r199), .val (.int r200), .val (.int r201), .val (.ref xa216), .val (.int (1 : Int32))] [(.int r221)]) _ _ _
          rcases P221_0 with ⟨rfl, hP⟩ | ⟨rfl, hP⟩
          · show GoW _ _ _ T221 (mkF m 87 #[.val (.int p0), .val (.int p1), .val (.int p2), .val (.int p3), .val (.int p4), .val (.int (3 : Int32)), .val (.int r198), .val (.int r199), .val (.int r200), .val (.int r201), .val (.ref xa216), .val (.int (1 : Int32))] [(.int (0 : Int32))]) _ _ _
            refine GoW.iload X221 hx (hb hby at_87) rfl ?_
            show GoW _ _ _ T221 (mkF m 89 #[.val (.int p0), .val (.int p1), .val (.int p2), .val (.int p3), .val (.int p4), .val (.int (3 : Int32)), .val (.int r198), .val (.int r199), .val (.int r200), .val (.int r201), .val (.ref xa216), .val (.int (1 : Int32))] [(.int (1 : Int32)), (.int (0 : Int32))]) _ _ _
            refine GoW.ifYes X221 hx (hb hby at_89) (XT.i0_ne_t (by decide)) (pc' := 96) (by decide) (by decide) ?_
            show GoW _ _ _ T221 (mkF m 96 #[.val (.int p0), .val (.int p1), .val (.int p2), .val (.int p3), .val (.int p4), .val (.int (3 : Int32)), .val (.int r198), .val (.int r199), .val (.int r200), .val (.int r201), .val (.ref xa216), .val (.int (1 : Int32))] [(.int (0 : Int32))]) _ _ _
            refine GoW.iconst X221 hx (hb hby at_96) ?_
            show GoW _ _ _ T221 (mkF m 97 #[.val (.int p0), .val (.int p1), .val (.int p2), .val (.int p3), .val (.int p4), .val (.int (3 : Int32)), .val (.int r198), .val (.int r199), .val (.int r200), .val (.int r201), .val (.ref xa216), .val (.int (1 : Int32))] [(.int (0 : Int32)), (.int (0 : Int32))]) _ _ _
            refine GoW.icmpNo X221 hx (hb hby at_97) (XT.ii_ne_f (by decide)) ?_
            show GoW _ _ _ T221 (mkF m 100 #[.val (.int p0), .val (.int p1), .val (.int p2), .val (.int p3), .val (.int p4), .val (.int (3 : Int32)), .val (.int r198), .val (.int r199), .val (.int r200), .val (.int r201), .val (.ref xa216), .val (.int (1 : Int32))] []) _ _ _
            refine GoW.iconst X221 hx (hb hby at_100) ?_
            show GoW _ _ _ T221 (mkF m 101 #[.val (.int p0), .val (.int p1), .val (.int p2), .val (.int p3), .val (.int p4), .val (.int (3 : Int32)), .val (.int r198), .val (.int r199), .val (.int r200), .val (.int r201), .val (.ref xa216), .val (.int (1 : Int32))] [(.int (1 : Int32))]) _ _ _
            refine GoW.goto X221 hx (hb hby at_101) (pc' := 105) (by decide) (by decide) ?_
            show GoW _ _ _ T221 (mkF m 105 #[.val (.int p0), .val (.int p1), .val (.int p2), .val (.int p3), .val (.int p4), .val (.int (3 : Int32)), .val (.int r198), .val (.int r199), .val (.int r200), .val (.int r201), .val (.ref xa216), .val (.int (1 : Int32))] [(.int (1 : Int32))]) _ _ _
            refine GoW.retZ X221 hx hlk hS (Nat.le_refl _) (IB.sub I0 (by decide)) hret (by decide) (hb hby at_105) (by decide) (by decide) ?_
            exact ⟨rfl, N221⟩
          · exact absurd ⟨(by rw [c217]; decide), (by rw [c218]; decide), (by rw [c219]; decide)⟩ hP
        · refine GoW.icmpYes X216 hx (hb hby at_72) (XT.ii_ne_t c219) (pc' := 79) (by decide) (by decide) ?_
          show GoW _ _ _ T216 (mkF m 79 #[.val (.int p0), .val (.int p1), .val (.int p2), .val (.int p3), .val (.int p4), .val (.int (3 : Int32)), .val (.int r198), .val (.int r199), .val (.int r200), .val (.int r201), .val (.ref xa216), .unset] []) _ _ _
          refine GoW.iconst X216 hx (hb hby at_79) ?_
          show GoW _ _ _ T216 (mkF m 80 #[.val (.int p0), .val (.int p1), .val (.int p2), .val (.int p3), .val (.int p4), .val (.int (3 : Int32)), .val (.int r198), .val (.int r199), .val (.int r200), .val (.int r201), .val (.ref xa216), .unset] [(.int (0 : Int32))]) _ _ _
          refine GoW.istore X216 hx (hb hby at_80) (l' := #[.val (.int p0), .val (.int p1), .val (.int p2), .val (.int p3), .val (.int p4), .val (.int (3 : Int32)), .val (.int r198), .val (.int r199), .val (.int r200), .val (.int r201), .val (.ref xa216), .val (.int (0 : Int32))]) rfl ?_
          show GoW _ _ _ T216 (mkF m 82 #[.val (.int p0), .val (.int p1), .val (.int p2), .val (.int p3), .val (.int p4), .val (.int (3 : Int32)), .val (.int r198), .val (.int r199), .val (.int r200), .val (.int r201), .val (.ref xa216), .val (.int (0 : Int32))] []) _ _ _
          refine GoW.aload X216 hx (hb hby at_82) rfl rfl ?_
          show GoW _ _ _ T216 (mkF m 84 #[.val (.int p0), .val (.int p1), .val (.int p2), .val (.int p3), .val (.int p4), .val (.int (3 : Int32)), .val (.int r198), .val (.int r199), .val (.int r200), .val (.int r201), .val (.ref xa216), .val (.int (0 : Int32))] [(.ref xa216)]) _ _ _
          have O222 := (Old.keep (Old.keep (Old.keep (Old.keep (Old.keep f2 K198 all0) K199 all0) K200 all0) K201 all0) K216 all0)
          refine GoW.callSW (W := 0) (argsL := [(.ref xa216)]) (rest := []) X216 hx hZ hown (w30 hw) (w31 hw) (w32 hw) (w33 hw) (by decide) I0 hS KK216 (rm_hs3 l Z a0 hw HC xa216 bx216 kx216 cs (bz r198) (bz r199) (bz r200) T216.heap n0 Z216 P216_1 P216_2 P216_3 P216_4 (sta_keep F215 K216) f1 O222) rfl (lenOf pd_9 rfl) (hb hby at_84) (by rw [hml]; rfl) rfl (Nat.le_of_eq rfl) (by decide) (by decide) (by decide) (by decide) ?_
          intro v223 T223 L223 X223 hZ hown hS I0 q223
          obtain ⟨r223, rfl, M223, K223, P223_0⟩ := q223
          have N223 := Fr.app N216 M223
          have Z223 : n0 ≤ T223.heap.size := Nat.le_trans Z216 K223.1
          have B223 : h0.size ≤ T223.heap.size := Nat.le_trans B216 K223.1
          have KK223 : h0.size ≤ T223.heap.size := Nat.le_trans KK216 K223.1
          show GoW _ _ _ T223 (mkF m 87 #[.val (.int p0), .val (.int p1), .val (.int p2), .val (.int p3), .val (.int p4), .val (.int (3 : Int32)), .val (.int r198), .val (.int r199), .val (.int r200), .val (.int r201), .val (.ref xa216), .val (.int (0 : Int32))] [(.int r223)]) _ _ _
          rcases P223_0 with ⟨rfl, hP⟩ | ⟨rfl, hP⟩
          · exact absurd (bz_eq P200_0 (by decide) (by decide) hP.2.2) c219
          · show GoW _ _ _ T223 (mkF m 87 #[.val (.int p0), .val (.int p1), .val (.int p2), .val (.int p3), .val (.int p4), .val (.int (3 : Int32)), .val (.int r198), .val (.int r199), .val (.int r200), .val (.int r201), .val (.ref xa216), .val (.int (0 : Int32))] [(.int (1 : Int32))]) _ _ _
            refine GoW.iload X223 hx (hb hby at_87) rfl ?_
            show GoW _ _ _ T223 (mkF m 89 #[.val (.int p0), .val (.int p1), .val (.int p2), .val (.int p3), .val (.int p4), .val (.int (3 : Int32)), .val (.int r198), .val (.int r199), .val (.int r200), .val (.int r201), .val (.ref xa216), .val (.int (0 : Int32))] [(.int (0 : Int32)), (.int (1 : Int32))]) _ _ _
            refine GoW.ifNo X223 hx (hb hby at_89) (XT.i0_ne_f (by decide)) ?_
            show GoW _ _ _ T223 (mkF m 92 #[.val (.int p0), .val (.int p1), .val (.int p2), .val (.int p3), .val (.int p4), .val (.int (3 : Int32)), .val (.int r198), .val (.int r199), .val (.int r200), .val (.int r201), .val (.ref xa216), .val (.int (0 : Int32))] [(.int (1 : Int32))]) _ _ _
            refine GoW.iconst X223 hx (hb hby at_92) ?_
            show GoW _ _ _ T223 (mkF m 93 #[.val (.int p0), .val (.int p1), .val (.int p2), .val (.int p3), .val (.int p4), .val (.int (3 : Int32)), .val (.int r198), .val (.int r199), .val (.int r200), .val (.int r201), .val (.ref xa216), .val (.int (0 : Int32))] [(.int (1 : Int32)), (.int (1 : Int32))]) _ _ _
            refine GoW.goto X223 hx (hb hby at_93) (pc' := 97) (by decide) (by decide) ?_
            show GoW _ _ _ T223 (mkF m 97 #[.val (.int p0), .val (.int p1), .val (.int p2), .val (.int p3), .val (.int p4), .val (.int (3 : Int32)), .val (.int r198), .val (.int r199), .val (.int r200), .val (.int r201), .val (.ref xa216), .val (.int (0 : Int32))] [(.int (1 : Int32)), (.int (1 : Int32))]) _ _ _
            refine GoW.icmpNo X223 hx (hb hby at_97) (XT.ii_ne_f (by decide)) ?_
            show GoW _ _ _ T223 (mkF m 100 #[.val (.int p0), .val (.int p1), .val (.int p2), .val (.int p3), .val (.int p4), .val (.int (3 : Int32)), .val (.int r198), .val (.int r199), .val (.int r200), .val (.int r201), .val (.ref xa216), .val (.int (0 : Int32))] []) _ _ _
            refine GoW.iconst X223 hx (hb hby at_100) ?_
            show GoW _ _ _ T223 (mkF m 101 #[.val (.int p0), .val (.int p1), .val (.int p2), .val (.int p3), .val (.int p4), .val (.int (3 : Int32)), .val (.int r198), .val (.int r199), .val (.int r200), .val (.int r201), .val (.ref xa216), .val (.int (0 : Int32))] [(.int (1 : Int32))]) _ _ _
            refine GoW.goto X223 hx (hb hby at_101) (pc' := 105) (by decide) (by decide) ?_
            show GoW _ _ _ T223 (mkF m 105 #[.val (.int p0), .val (.int p1), .val (.int p2), .val (.int p3), .val (.int p4), .val (.int (3 : Int32)), .val (.int r198), .val (.int r199), .val (.int r200), .val (.int r201), .val (.ref xa216), .val (.int (0 : Int32))] [(.int (1 : Int32))]) _ _ _
            refine GoW.retZ X223 hx hlk hS (Nat.le_refl _) (IB.sub I0 (by decide)) hret (by decide) (hb hby at_105) (by decide) (by decide) ?_
            exact ⟨rfl, N223⟩
      · refine GoW.icmpYes X216 hx (hb hby at_65) (XT.ii_ne_t c218) (pc' := 79) (by decide) (by decide) ?_
        show GoW _ _ _ T216 (mkF m 79 #[.val (.int p0), .val (.int p1), .val (.int p2), .val (.int p3), .val (.int p4), .val (.int (3 : Int32)), .val (.int r198), .val (.int r199), .val (.int r200), .val (.int r201), .val (.ref xa216), .unset] []) _ _ _
        refine GoW.iconst X216 hx (hb hby at_79) ?_
        show GoW _ _ _ T216 (mkF m 80 #[.val (.int p0), .val (.int p1), .val (.int p2), .val (.int p3), .val (.int p4), .val (.int (3 : Int32)), .val (.int r198), .val (.int r199), .val (.int r200), .val (.int r201), .val (.ref xa216), .unset] [(.int (0 : Int32))]) _ _ _
        refine GoW.istore X216 hx (hb hby at_80) (l' := #[.val (.int p0), .val (.int p1), .val (.int p2), .val (.int p3), .val (.int p4), .val (.int (3 : Int32)), .val (.int r198), .val (.int r199), .val (.int r200), .val (.int r201), .val (.ref xa216), .val (.int (0 : Int32))]) rfl ?_
        show GoW _ _ _ T216 (mkF m 82 #[.val (.int p0), .val (.int p1), .val (.int p2), .val (.int p3), .val (.int p4), .val (.int (3 : Int32)), .val (.int r198), .val (.int r199), .val (.int r200), .val (.int r201), .val (.ref xa216), .val (.int (0 : Int32))] []) _ _ _
        refine GoW.aload X216 hx (hb hby at_82) rfl rfl ?_
        show GoW _ _ _ T216 (mkF m 84 #[.val (.int p0), .val (.int p1), .val (.int p2), .val (.int p3), .val (.int p4), .val (.int (3 : Int32)), .val (.int r198), .val (.int r199), .val (.int r200), .val (.int r201), .val (.ref xa216), .val (.int (0 : Int32))] [(.ref xa216)]) _ _ _
        have O224 := (Old.keep (Old.keep (Old.keep (Old.keep (Old.keep f2 K198 all0) K199 all0) K200 all0) K201 all0) K216 all0)
        refine GoW.callSW (W := 0) (argsL := [(.ref xa216)]) (rest := []) X216 hx hZ hown (w30 hw) (w31 hw) (w32 hw) (w33 hw) (by decide) I0 hS KK216 (rm_hs3 l Z a0 hw HC xa216 bx216 kx216 cs (bz r198) (bz r199) (bz r200) T216.heap n0 Z216 P216_1 P216_2 P216_3 P216_4 (sta_keep F215 K216) f1 O224) rfl (lenOf pd_9 rfl) (hb hby at_84) (by rw [hml]; rfl) rfl (Nat.le_of_eq rfl) (by decide) (by decide) (by decide) (by decide) ?_
        intro v225 T225 L225 X225 hZ hown hS I0 q225
        obtain ⟨r225, rfl, M225, K225, P225_0⟩ := q225
        have N225 := Fr.app N216 M225
        have Z225 : n0 ≤ T225.heap.size := Nat.le_trans Z216 K225.1
        have B225 : h0.size ≤ T225.heap.size := Nat.le_trans B216 K225.1
        have KK225 : h0.size ≤ T225.heap.size := Nat.le_trans KK216 K225.1
        show GoW _ _ _ T225 (mkF m 87 #[.val (.int p0), .val (.int p1), .val (.int p2), .val (.int p3), .val (.int p4), .val (.int (3 : Int32)), .val (.int r198), .val (.int r199), .val (.int r200), .val (.int r201), .val (.ref xa216), .val (.int (0 : Int32))] [(.int r225)]) _ _ _
        rcases P225_0 with ⟨rfl, hP⟩ | ⟨rfl, hP⟩
        · exact absurd (bz_eq P199_0 (by decide) (by decide) hP.2.1) c218
        · show GoW _ _ _ T225 (mkF m 87 #[.val (.int p0), .val (.int p1), .val (.int p2), .val (.int p3), .val (.int p4), .val (.int (3 : Int32)), .val (.int r198), .val (.int r199), .val (.int r200), .val (.int r201), .val (.ref xa216), .val (.int (0 : Int32))] [(.int (1 : Int32))]) _ _ _
          refine GoW.iload X225 hx (hb hby at_87) rfl ?_
          show GoW _ _ _ T225 (mkF m 89 #[.val (.int p0), .val (.int p1), .val (.int p2), .val (.int p3), .val (.int p4), .val (.int (3 : Int32)), .val (.int r198), .val (.int r199), .val (.int r200), .val (.int r201), .val (.ref xa216), .val (.int (0 : Int32))] [(.int (0 : Int32)), (.int (1 : Int32))]) _ _ _
          refine GoW.ifNo X225 hx (hb hby at_89) (XT.i0_ne_f (by decide)) ?_
          show GoW _ _ _ T225 (mkF m 92 #[.val (.int p0), .val (.int p1), .val (.int p2), .val (.int p3), .val (.int p4), .val (.int (3 : Int32)), .val (.int r198), .val (.int r199), .val (.int r200), .val (.int r201), .val (.ref xa216), .val (.int (0 : Int32))] [(.int (1 : Int32))]) _ _ _
          refine GoW.iconst X225 hx (hb hby at_92) ?_
          show GoW _ _ _ T225 (mkF m 93 #[.val (.int p0), .val (.int p1), .val (.int p2), .val (.int p3), .val (.int p4), .val (.int (3 : Int32)), .val (.int r198), .val (.int r199), .val (.int r200), .val (.int r201), .val (.ref xa216), .val (.int (0 : Int32))] [(.int (1 : Int32)), (.int (1 : Int32))]) _ _ _
          refine GoW.goto X225 hx (hb hby at_93) (pc' := 97) (by decide) (by decide) ?_
          show GoW _ _ _ T225 (mkF m 97 #[.val (.int p0), .val (.int p1), .val (.int p2), .val (.int p3), .val (.int p4), .val (.int (3 : Int32)), .val (.int r198), .val (.int r199), .val (.int r200), .val (.int r201), .val (.ref xa216), .val (.int (0 : Int32))] [(.int (1 : Int32)), (.int (1 : Int32))]) _ _ _
          refine GoW.icmpNo X225 hx (hb hby at_97) (XT.ii_ne_f (by decide)) ?_
          show GoW _ _ _ T225 (mkF m 100 #[.val (.int p0), .val (.int p1), .val (.int p2), .val (.int p3), .val (.int p4), .val (.int (3 : Int32)), .val (.int r198), .val (.int r199), .val (.int r200), .val (.int r201), .val (.ref xa216), .val (.int (0 : Int32))] []) _ _ _
          refine GoW.iconst X225 hx (hb hby at_100) ?_
          show GoW _ _ _ T225 (mkF m 101 #[.val (.int p0), .val (.int p1), .val (.int p2), .val (.int p3), .val (.int p4), .val (.int (3 : Int32)), .val (.int r198), .val (.int r199), .val (.int r200), .val (.int r201), .val (.ref xa216), .val (.int (0 : Int32))] [(.int (1 : Int32))]) _ _ _
          refine GoW.goto X225 hx (hb hby at_101) (pc' := 105) (by decide) (by decide) ?_
          show GoW _ _ _ T225 (mkF m 105 #[.val (.int p0), .val (.int p1), .val (.int p2), .val (.int p3), .val (.int p4), .val (.int (3 : Int32)), .val (.int r198), .val (.int r199), .val (.int r200), .val (.int r201), .val (.ref xa216), .val (.int (0 : Int32))] [(.int (1 : Int32))]) _ _ _
          refine GoW.retZ X225 hx hlk hS (Nat.le_refl _) (IB.sub I0 (by decide)) hret (by decide) (hb hby at_105) (by decide) (by decide) ?_
          exact ⟨rfl, N225⟩
    · refine GoW.icmpYes X216 hx (hb hby at_58) (XT.ii_ne_t c217) (pc' := 79) (by decide) (by decide) ?_
      show GoW _ _ _ T216 (mkF m 79 #[.val (.int p0), .val (.int p1), .val (.int p2), .val (.int p3), .val (.int p4), .val (.int (3 : Int32)), .val (.int r198), .val (.int r199), .val (.int r200), .val (.int r201), .val (.ref xa216), .unset] []) _ _ _
      refine GoW.iconst X216 hx (hb hby at_79) ?_
      show GoW _ _ _ T216 (mkF m 80 #[.val (.int p0), .val (.int p1), .val (.int p2), .val (.int p3), .val (.int p4), .val (.int (3 : Int32)), .val (.int r198), .val (.int r199), .val (.int r200), .val (.int r201), .val (.ref xa216), .unset] [(.int (0 : Int32))]) _ _ _
      refine GoW.istore X216 hx (hb hby at_80) (l' := #[.val (.int p0), .val (.int p1), .val (.int p2), .val (.int p3), .val (.int p4), .val (.int (3 : Int32)), .val (.int r198), .val (.int r199), .val (.int r200), .val (.int r201), .val (.ref xa216), .val (.int (0 : Int32))]) rfl ?_
      show GoW _ _ _ T216 (mkF m 82 #[.val (.int p0), .val (.int p1), .val (.int p2), .val (.int p3), .val (.int p4), .val (.int (3 : Int32)), .val (.int r198), .val (.int r199), .val (.int r200), .val (.int r201), .val (.ref xa216), .val (.int (0 : Int32))] []) _ _ _
      refine GoW.aload X216 hx (hb hby at_82) rfl rfl ?_
      show GoW _ _ _ T216 (mkF m 84 #[.val (.int p0), .val (.int p1), .val (.int p2), .val (.int p3), .val (.int p4), .val (.int (3 : Int32)), .val (.int r198), .val (.int r199), .val (.int r200), .val (.int r201), .val (.ref xa216), .val (.int (0 : Int32))] [(.ref xa216)]) _ _ _
      have O226 := (Old.keep (Old.keep (Old.keep (Old.keep (Old.keep f2 K198 all0) K199 all0) K200 all0) K201 all0) K216 all0)
      refine GoW.callSW (W := 0) (argsL := [(.ref xa216)]) (rest := []) X216 hx hZ hown (w30 hw) (w31 hw) (w32 hw) (w33 hw) (by decide) I0 hS KK216 (rm_hs3 l Z a0 hw HC xa216 bx216 kx216 cs (bz r198) (bz r199) (bz r200) T216.heap n0 Z216 P216_1 P216_2 P216_3 P216_4 (sta_keep F215 K216) f1 O226) rfl (lenOf pd_9 rfl) (hb hby at_84) (by rw [hml]; rfl) rfl (Nat.le_of_eq rfl) (by decide) (by decide) (by decide) (by decide) ?_
      intro v227 T227 L227 X227 hZ hown hS I0 q227
      obtain ⟨r227, rfl, M227, K227, P227_0⟩ := q227
      have N227 := Fr.app N216 M227
      have Z227 : n0 ≤ T227.heap.size := Nat.le_trans Z216 K227.1
      have B227 : h0.size ≤ T227.heap.size := Nat.le_trans B216 K227.1
      have KK227 : h0.size ≤ T227.heap.size := Nat.le_trans KK216 K227.1
      show GoW _ _ _ T227 (mkF m 87 #[.val (.int p0), .val (.int p1), .val (.int p2), .val (.int p3), .val (.int p4), .val (.int (3 : Int32)), .val (.int r198), .val (.int r199), .val (.int r200), .val (.int r201), .val (.ref xa216), .val (.int (0 : Int32))] [(.int r227)]) _ _ _
      rcases P227_0 with ⟨rfl, hP⟩ | ⟨rfl, hP⟩
      · exact absurd (bz_eq P198_0 (by decide) (by decide) hP.1) c217
      · show GoW _ _ _ T227 (mkF m 87 #[.val (.int p0), .val (.int p1), .val (.int p2), .val (.int p3), .val (.int p4), .val (.int (3 : Int32)), .val (.int r198), .val (.int r199), .val (.int r200), .val (.int r201), .val (.ref xa216), .val (.int (0 : Int32))] [(.int (1 : Int32))]) _ _ _
        refine GoW.iload X227 hx (hb hby at_87) rfl ?_
        show GoW _ _ _ T227 (mkF m 89 #[.val (.int p0), .val (.int p1), .val (.int p2), .val (.int p3), .val (.int p4), .val (.int (3 : Int32)), .val (.int r198), .val (.int r199), .val (.int r200), .val (.int r201), .val (.ref xa216), .val (.int (0 : Int32))] [(.int (0 : Int32)), (.int (1 : Int32))]) _ _ _
        refine GoW.ifNo X227 hx (hb hby at_89) (XT.i0_ne_f (by decide)) ?_
        show GoW _ _ _ T227 (mkF m 92 #[.val (.int p0), .val (.int p1), .val (.int p2), .val (.int p3), .val (.int p4), .val (.int (3 : Int32)), .val (.int r198), .val (.int r199), .val (.int r200), .val (.int r201), .val (.ref xa216), .val (.int (0 : Int32))] [(.int (1 : Int32))]) _ _ _
        refine GoW.iconst X227 hx (hb hby at_92) ?_
        show GoW _ _ _ T227 (mkF m 93 #[.val (.int p0), .val (.int p1), .val (.int p2), .val (.int p3), .val (.int p4), .val (.int (3 : Int32)), .val (.int r198), .val (.int r199), .val (.int r200), .val (.int r201), .val (.ref xa216), .val (.int (0 : Int32))] [(.int (1 : Int32)), (.int (1 : Int32))]) _ _ _
        refine GoW.goto X227 hx (hb hby at_93) (pc' := 97) (by decide) (by decide) ?_
        show GoW _ _ _ T227 (mkF m 97 #[.val (.int p0), .val (.int p1), .val (.int p2), .val (.int p3), .val (.int p4), .val (.int (3 : Int32)), .val (.int r198), .val (.int r199), .val (.int r200), .val (.int r201), .val (.ref xa216), .val (.int (0 : Int32))] [(.int (1 : Int32)), (.int (1 : Int32))]) _ _ _
        refine GoW.icmpNo X227 hx (hb hby at_97) (XT.ii_ne_f (by decide)) ?_
        show GoW _ _ _ T227 (mkF m 100 #[.val (.int p0), .val (.int p1), .val (.int p2), .val (.int p3), .val (.int p4), .val (.int (3 : Int32)), .val (.int r198), .val (.int r199), .val (.int r200), .val (.int r201), .val (.ref xa216), .val (.int (0 : Int32))] []) _ _ _
        refine GoW.iconst X227 hx (hb hby at_100) ?_
        show GoW _ _ _ T227 (mkF m 101 #[.val (.int p0), .val (.int p1), .val (.int p2), .val (.int p3), .val (.int p4), .val (.int (3 : Int32)), .val (.int r198), .val (.int r199), .val (.int r200), .val (.int r201), .val (.ref xa216), .val (.int (0 : Int32))] [(.int (1 : Int32))]) _ _ _
        refine GoW.goto X227 hx (hb hby at_101) (pc' := 105) (by decide) (by decide) ?_
        show GoW _ _ _ T227 (mkF m 105 #[.val (.int p0), .val (.int p1), .val (.int p2), .val (.int p3), .val (.int p4), .val (.int (3 : Int32)), .val (.int r198), .val (.int r199), .val (.int r200), .val (.int r201), .val (.ref xa216), .val (.int (0 : Int32))] [(.int (1 : Int32))]) _ _ _
        refine GoW.retZ X227 hx hlk hS (Nat.le_refl _) (IB.sub I0 (by decide)) hret (by decide) (hb hby at_105) (by decide) (by decide) ?_
        exact ⟨rfl, N227⟩
  · show GoW _ _ _ T201 (mkF m 33 #[.val (.int p0), .val (.int p1), .val (.int p2), .val (.int p3), .val (.int p4), .val (.int (4 : Int32)), .val (.int r198), .val (.int r199), .val (.int r200), .val (.int r201), .unset, .unset] []) _ _ _
    refine GoW.iload X201 hx (hb hby at_33) rfl ?_
    show GoW _ _ _ T201 (mkF m 35 #[.val (.int p0), .val (.int p1), .val (.int p2), .val (.int p3), .val (.int p4), .val (.int (4 : Int32)), .val (.int r198), .val (.int r199), .val (.int r200), .val (.int r201), .unset, .unset] [(.int (4 : Int32))]) _ _ _
    refine GoW.iload X201 hx (hb hby at_35) rfl ?_
    show GoW _ _ _ T201 (mkF m 37 #[.val (.int p0), .val (.int p1), .val (.int p2), .val (.int p3), .val (.int p4), .val (.int (4 : Int32)), .val (.int r198), .val (.int r199), .val (.int r200), .val (.int r201), .unset, .unset] [(.int r198), (.int (4 : Int32))]) _ _ _
    refine GoW.iload X201 hx (hb hby at_37) rfl ?_
    show GoW _ _ _ T201 (mkF m 39 #[.val (.int p0), .val (.int p1), .val (.int p2), .val (.int p3), .val (.int p4), .val (.int (4 : Int32)), .val (.int r198), .val (.int r199), .val (.int r200), .val (.int r201), .unset, .unset] [(.int r199), (.int r198), (.int (4 : Int32))]) _ _ _
    refine GoW.iload X201 hx (hb hby at_39) rfl ?_
    show GoW _ _ _ T201 (mkF m 41 #[.val (.int p0), .val (.int p1), .val (.int p2), .val (.int p3), .val (.int p4), .val (.int (4 : Int32)), .val (.int r198), .val (.int r199), .val (.int r200), .val (.int r201), .unset, .unset] [(.int r200), (.int r199), (.int r198), (.int (4 : Int32))]) _ _ _
    refine GoW.iload X201 hx (hb hby at_41) rfl ?_
    show GoW _ _ _ T201 (mkF m 43 #[.val (.int p0), .val (.int p1), .val (.int p2), .val (.int p3), .val (.int p4), .val (.int (4 : Int32)), .val (.int r198), .val (.int r199), .val (.int r200), .val (.int r201), .unset, .unset] [(.int r201), (.int r200), (.int r199), (.int r198), (.int (4 : Int32))]) _ _ _
    have F228 := (sta_keep (sta_keep (sta_keep (sta_keep f0 K198) K199) K200) K201)
    refine GoW.callS (W := 0) (argsL := [(.int (4 : Int32)), (.int r198), (.int r199), (.int r200), (.int r201)]) (rest := []) X201 hx hZ hown (w5 hw) (w6 hw) (w3 hw) (w7 hw) (by decide) (rm_mk4 l Z a0 hw r198 r199 r200 r201 cs T201.heap n0 Z201 F228 f1 P198_0 P199_0 P200_0 P201_0) rfl (lenOf pd_8 rfl) (hb hby at_43) (by rw [hml]; rfl) rfl (Nat.le_of_eq rfl) (by decide) (by decide) (by decide) (by decide) ?_
    intro v229 T229 L229 X229 q229
    obtain ⟨xa229, bx229, kx229, rfl, M229, K229, P229_0, P229_1, P229_2, P229_3, P229_4⟩ := q229
    have N229 := Fr.app N201 M229
    have Z229 : n0 ≤ T229.heap.size := Nat.le_trans Z201 K229.1
    have B229 : h0.size ≤ T229.heap.size := Nat.le_trans B201 K229.1
    have KK229 : h0.size ≤ T229.heap.size := Nat.le_trans KK201 K229.1
    show GoW _ _ _ T229 (mkF m 46 #[.val (.int p0), .val (.int p1), .val (.int p2), .val (.int p3), .val (.int p4), .val (.int (4 : Int32)), .val (.int r198), .val (.int r199), .val (.int r200), .val (.int r201), .unset, .unset] [(.ref xa229)]) _ _ _
    refine GoW.astore X229 hx (hb hby at_46) rfl (l' := #[.val (.int p0), .val (.int p1), .val (.int p2), .val (.int p3), .val (.int p4), .val (.int (4 : Int32)), .val (.int r198), .val (.int r199), .val (.int r200), .val (.int r201), .val (.ref xa229), .unset]) rfl ?_
    show GoW _ _ _ T229 (mkF m 48 #[.val (.int p0), .val (.int p1), .val (.int p2), .val (.int p3), .val (.int p4), .val (.int (4 : Int32)), .val (.int r198), .val (.int r199), .val (.int r200), .val (.int r201), .val (.ref xa229), .unset] []) _ _ _
    refine GoW.iload X229 hx (hb hby at_48) rfl ?_
    show GoW _ _ _ T229 (mkF m 50 #[.val (.int p0), .val (.int p1), .val (.int p2), .val (.int p3), .val (.int p4), .val (.int (4 : Int32)), .val (.int r198), .val (.int r199), .val (.int r200), .val (.int r201), .val (.ref xa229), .unset] [(.int (4 : Int32))]) _ _ _
    refine GoW.iconst X229 hx (hb hby at_50) ?_
    show GoW _ _ _ T229 (mkF m 51 #[.val (.int p0), .val (.int p1), .val (.int p2), .val (.int p3), .val (.int p4), .val (.int (4 : Int32)), .val (.int r198), .val (.int r199), .val (.int r200), .val (.int r201), .val (.ref xa229), .unset] [(.int (3 : Int32)), (.int (4 : Int32))]) _ _ _
    refine GoW.icmpYes X229 hx (hb hby at_51) (XT.ii_ne_t (by decide)) (pc' := 79) (by decide) (by decide) ?_
    show GoW _ _ _ T229 (mkF m 79 #[.val (.int p0), .val (.int p1), .val (.int p2), .val (.int p3), .val (.int p4), .val (.int (4 : Int32)), .val (.int r198), .val (.int r199), .val (.int r200), .val (.int r201), .val (.ref xa229), .unset] []) _ _ _
    refine GoW.iconst X229 hx (hb hby at_79) ?_
    show GoW _ _ _ T229 (mkF m 80 #[.val (.int p0), .val (.int p1), .val (.int p2), .val (.int p3), .val (.int p4), .val (.int (4 : Int32)), .val (.int r198), .val (.int r199), .val (.int r200), .val (.int r201), .val (.ref xa229), .unset] [(.int (0 : Int32))]) _ _ _
    refine GoW.istore X229 hx (hb hby at_80) (l' := #[.val (.int p0), .val (.int p1), .val (.int p2), .val (.int p3), .val (.int p4), .val (.int (4 : Int32)), .val (.int r198), .val (.int r199), .val (.int r200), .val (.int r201), .val (.ref xa229), .val (.int (0 : Int32))]) rfl ?_
    show GoW _ _ _ T229 (mkF m 82 #[.val (.int p0), .val (.int p1), .val (.int p2), .val (.int p3), .val (.int p4), .val (.int (4 : Int32)), .val (.int r198), .val (.int r199), .val (.int r200), .val (.int r201), .val (.ref xa229), .val (.int (0 : Int32))] []) _ _ _
    refine GoW.aload X229 hx (hb hby at_82) rfl rfl ?_
    show GoW _ _ _ T229 (mkF m 84 #[.val (.int p0), .val (.int p1), .val (.int p2), .val (.int p3), .val (.int p4), .val (.int (4 : Int32)), .val (.int r198), .val (.int r199), .val (.int r200), .val (.int r201), .val (.ref xa229), .val (.int (0 : Int32))] [(.ref xa229)]) _ _ _
    have O230 := (Old.keep (Old.keep (Old.keep (Old.keep (Old.keep f2 K198 all0) K199 all0) K200 all0) K201 all0) K229 all0)
    refine GoW.callSW (W := 0) (argsL := [(.ref xa229)]) (rest := []) X229 hx hZ hown (w30 hw) (w31 hw) (w32 hw) (w33 hw) (by decide) I0 hS KK229 (rm_hs4 l Z a0 hw HC xa229 bx229 kx229 cs (bz r198) (bz r199) (bz r200) (bz r201) T229.heap n0 Z229 P229_1 P229_2 P229_3 P229_4 (sta_keep F228 K229) f1 O230) rfl (lenOf pd_9 rfl) (hb hby at_84) (by rw [hml]; rfl) rfl (Nat.le_of_eq rfl) (by decide) (by decide) (by decide) (by decide) ?_
    intro v231 T231 L231 X231 hZ hown hS I0 q231
    obtain ⟨rfl, M231, K231⟩ := q231
    have N231 := Fr.app N229 M231
    have Z231 : n0 ≤ T231.heap.size := Nat.le_trans Z229 K231.1
    have B231 : h0.size ≤ T231.heap.size := Nat.le_trans B229 K231.1
    have KK231 : h0.size ≤ T231.heap.size := Nat.le_trans KK229 K231.1
    show GoW _ _ _ T231 (mkF m 87 #[.val (.int p0), .val (.int p1), .val (.int p2), .val (.int p3), .val (.int p4), .val (.int (4 : Int32)), .val (.int r198), .val (.int r199), .val (.int r200), .val (.int r201), .val (.ref xa229), .val (.int (0 : Int32))] [(.int (1 : Int32))]) _ _ _
    refine GoW.iload X231 hx (hb hby at_87) rfl ?_
    show GoW _ _ _ T231 (mkF m 89 #[.val (.int p0), .val (.int p1), .val (.int p2), .val (.int p3), .val (.int p4), .val (.int (4 : Int32)), .val (.int r198), .val (.int r199), .val (.int r200), .val (.int r201), .val (.ref xa229), .val (.int (0 : Int32))] [(.int (0 : Int32)), (.int (1 : Int32))]) _ _ _
    refine GoW.ifNo X231 hx (hb hby at_89) (XT.i0_ne_f (by decide)) ?_
    show GoW _ _ _ T231 (mkF m 92 #[.val (.int p0), .val (.int p1), .val (.int p2), .val (.int p3), .val (.int p4), .val (.int (4 : Int32)), .val (.int r198), .val (.int r199), .val (.int r200), .val (.int r201), .val (.ref xa229), .val (.int (0 : Int32))] [(.int (1 : Int32))]) _ _ _
    refine GoW.iconst X231 hx (hb hby at_92) ?_
    show GoW _ _ _ T231 (mkF m 93 #[.val (.int p0), .val (.int p1), .val (.int p2), .val (.int p3), .val (.int p4), .val (.int (4 : Int32)), .val (.int r198), .val (.int r199), .val (.int r200), .val (.int r201), .val (.ref xa229), .val (.int (0 : Int32))] [(.int (1 : Int32)), (.int (1 : Int32))]) _ _ _
    refine GoW.goto X231 hx (hb hby at_93) (pc' := 97) (by decide) (by decide) ?_
    show GoW _ _ _ T231 (mkF m 97 #[.val (.int p0), .val (.int p1), .val (.int p2), .val (.int p3), .val (.int p4), .val (.int (4 : Int32)), .val (.int r198), .val (.int r199), .val (.int r200), .val (.int r201), .val (.ref xa229), .val (.int (0 : Int32))] [(.int (1 : Int32)), (.int (1 : Int32))]) _ _ _
    refine GoW.icmpNo X231 hx (hb hby at_97) (XT.ii_ne_f (by decide)) ?_
    show GoW _ _ _ T231 (mkF m 100 #[.val (.int p0), .val (.int p1), .val (.int p2), .val (.int p3), .val (.int p4), .val (.int (4 : Int32)), .val (.int r198), .val (.int r199), .val (.int r200), .val (.int r201), .val (.ref xa229), .val (.int (0 : Int32))] []) _ _ _
    refine GoW.iconst X231 hx (hb hby at_100) ?_
    show GoW _ _ _ T231 (mkF m 101 #[.val (.int p0), .val (.int p1), .val (.int p2), .val (.int p3), .val (.int p4), .val (.int (4 : Int32)), .val (.int r198), .val (.int r199), .val (.int r200), .val (.int r201), .val (.ref xa229), .val (.int (0 : Int32))] [(.int (1 : Int32))]) _ _ _
    refine GoW.goto X231 hx (hb hby at_101) (pc' := 105) (by decide) (by decide) ?_
    show GoW _ _ _ T231 (mkF m 105 #[.val (.int p0), .val (.int p1), .val (.int p2), .val (.int p3), .val (.int p4), .val (.int (4 : Int32)), .val (.int r198), .val (.int r199), .val (.int r200), .val (.int r201), .val (.ref xa229), .val (.int (0 : Int32))] [(.int (1 : Int32))]) _ _ _
    refine GoW.retZ X231 hx hlk hS (Nat.le_refl _) (IB.sub I0 (by decide)) hret (by decide) (hb hby at_105) (by decide) (by decide) ?_
    exact ⟨rfl, N231⟩
set_option maxRecDepth 65536 in
set_option maxHeartbeats 40000000 in
theorem comes_1 {Post : Tables → Env → Array Value → State → Outcome → State → Prop} (hpost : ∀ tb e args s v u, (limb_1_1.after args s (.returned v) u = true ∧ limb_1_2.after args s (.returned v) u = true ∧ True) → ReturnedEndW s (.returned v) u (Jvm.fieldLocs frame_1_writes args s ++ Jvm.arrayLocs frame_1_arrays args s ++ Jvm.staticLocs frame_1_statics s) 32 2240 → Post tb e args s (.returned v) u) :
    ArmFor flags0 classFile x code maxLocals ret World_1 tables_1 room_1 Calls_1 rest_1 Pre_1 Post := by
  intro l hfl _ _ p e ha hc hk s m args below hf hA hF happ hP
  obtain ⟨hcalls, hrest, hpre⟩ := hP
  obtain ⟨-, -, -, hnamed, -, -, -, hat⟩ := (Spec.applies_iff hf).mp happ
  obtain ⟨hg, hn⟩ := and_e (Cond.before_iff.mp (show (Jvm.Cond.and given_1 narrow_1).before args s = true from hpre))
  obtain ⟨hcount, hgs⟩ := and_e hg
  obtain ⟨hg0, hgr0⟩ := and_e hgs
  obtain ⟨hg1, hgr1⟩ := and_e hgr0
  obtain ⟨hg2, hgr2⟩ := and_e hgr1
  obtain ⟨hg3, hgr3⟩ := and_e hgr2
  obtain ⟨w0', w1', w2', w3', w4', rfl⟩ : ∃ w0' w1' w2' w3' w4' : Value, args = #[w0', w1', w2', w3', w4'] := by
    have hs : args.size = 5 := by simpa [Cond.value, given_1] using hcount
    obtain ⟨L⟩ := args
    match L, hs with
    | [w0', w1', w2', w3', w4'], _ => exact ⟨w0', w1', w2', w3', w4', rfl⟩
  have hw := fun d (hd : d ∈ tables_1) => atoms_spec (ws := Jvm.Cond.code x code maxLocals ret :: tables_1) hat d (List.mem_cons_of_mem _ hd)
  obtain ⟨hsets, hown0⟩ := atoms_of _ (rest_1_c_eq ▸ (show rest_1_c.before _ s = true from hrest))
  have hfit : Fit s := fun {y c} hc i hi => by
    obtain ⟨ha, rfl⟩ := Array.getElem?_eq_some_iff.mp hc
    have q := List.all_eq_true.mp ((Array.all_eq_true_iff_forall_mem.mp hF) _ (Array.getElem_mem ha)) i (List.mem_range.mpr hi)
    simpa [Array.getElem?_eq_getElem hi] using q
  obtain ⟨i0, ei0⟩ := is_v hg0
  obtain rfl : w0' = (.int i0) := Option.some.inj ei0
  obtain ⟨i1, ei1⟩ := is_v hg1
  obtain rfl : w1' = (.int i1) := Option.some.inj ei1
  obtain ⟨i2, ei2⟩ := is_v hg2
  obtain rfl : w2' = (.int i2) := Option.some.inj ei2
  obtain ⟨i3, ei3⟩ := is_v hg3
  obtain rfl : w3' = (.int i3) := Option.some.inj ei3
  obtain ⟨i4, ei4⟩ := is_v hgr3
  obtain rfl : w4' = (.int i4) := Option.some.inj ei4
  obtain ⟨cs, ecs⟩ := is_v (Cond.before_iff.mp (hsets _ (List.mem_of_getElem? (i := 1) rfl)))
  have Scs : Sta s s.heap "java/lang/String" "COMPACT_STRINGS" "Z" (.int cs) := Sta.start ecs (Or.inl (hsets _ (List.mem_of_getElem? (i := 0) rfl)))
  have ncs : ¬ (cs = (0 : Int32)) := gotF (Cond.eq_ints ecs (Term.int_eval (0))) (not_v (Cond.before_iff.mp (hsets _ (List.mem_of_getElem? (i := 2) rfl))))
  have hcon : constsHeld consts_1 s := hcalls.1
  have hc0 : Jvm.Lit.constHeld s "com/example/trilatch/trilatch/http/TlsPolicy" 25 := fun c k cf i units a h1 h2 h3 h4 h5 h6 h7 h8 => hcon ("com/example/trilatch/trilatch/http/TlsPolicy", 25) (List.mem_of_getElem? (i := 0) rfl) c k cf i units a h1 h2 h3 h4 h5 h6 h7 h8
  have hc1 : Jvm.Lit.constHeld s "java/lang/String" 7 := fun c k cf i units a h1 h2 h3 h4 h5 h6 h7 h8 => hcon ("java/lang/String", 7) (List.mem_of_getElem? (i := 1) rfl) c k cf i units a h1 h2 h3 h4 h5 h6 h7 h8
  have HC : Held s _ := ⟨hc1, hc0, (hsets _ (List.mem_of_getElem? (i := 2) rfl))⟩
  obtain ⟨n, o, h1, h2, h3, _, L, rfl, ⟨rfl, N⟩, -, hq⟩ := rm_law l s _ hw HC tables_1 i0 i1 i2 i3 i4 cs s.heap s.heap.size (Nat.le_refl _) Scs ncs ⟨rfl, Nat.le_refl _, fun _ _ q => q⟩ p e ha hc hk s m _ below hf ((Spec.applies_iff_loose hf).mp happ).1 ⟨rfl, State.Warmed39.refl s, rfl, IB.start⟩ trivial
  refine ⟨n, _, h1, h2, h3, hpost _ _ _ _ _ _ ⟨Cond.after_iff.mpr rfl, Cond.after_iff.mpr (eq_i res_at (Term.int_eval (1)) rfl), trivial⟩ ⟨hq.1, hq.2.1, hq.2.2.1, (hq.2.2.2.sift fun y hy => Or.inr (N y hy)).mono (by decide) (by decide)⟩⟩
theorem main_1_1 : Claimed_1_1 := comes_1 fun _ _ _ _ _ _ h hF => ⟨h.1, hF⟩
theorem main_1_2 : Claimed_1_2 := comes_1 fun _ _ _ _ _ _ h hF => ⟨h.2.1, hF⟩
end Jvm.Pilot.@@N@@
namespace Jvm.Pilot.@@N@@
open Jvm Jvm.ClassFile Sem Op Lib Jvm.Free Jvm.Stand Jvm.Pilot.@@N@@.Jvm.D
/-! MADE BY PROGRAM (witnessworld.py) out of the Statement's table words and the real class files: 20 classes; the members and pool entries that the words name. The judged class is class 1, her method 1. -/
namespace start1
open Jvm.ClassFile
def u (s : String) : CpInfo := .utf8 (stringToUtf16 s)
/-- a pool by its gaps: so many unusable entries, then the entry; so many at the end -/
def gap : Nat → List CpInfo → List CpInfo
  | 0, r => r
  | n + 1, r => .unusable :: gap n r
def poolList (es : List (Nat × CpInfo)) (last : Nat) : List CpInfo := es.foldr (fun e r => gap e.1 (e.2 :: r)) (gap last [])
def pool (es : List (Nat × CpInfo)) (last : Nat) : Array CpInfo := ⟨poolList es last⟩
def fileOf (pool : Array CpInfo) (this : Nat) (attrs : Array Attribute := #[]) (ms : Array MethodInfo := #[]) (fl : Nat := 33) (sup : Nat := 0) (ifs : Array Nat := #[]) (fds : Array FieldInfo := #[]) : ClassFile where
  minorVersion := 0
  majorVersion := 65
  constantPool := pool
  accessFlags := fl
  thisClass := this
  superClass := sup
  interfaces := ifs
  fields := fds
  methods := ms
  attributes := attrs
def plain (name : String) (sup : Option ClassId) : Class where
  name := name
  kind := .ordinary
  loader := none
  accessFlags := 33
  super := sup
  interfaces := #[]
  cf := none
  fields := #[]
  methods := #[]
  instanceTypes := #[]
  staticTypes := #[]
  resolved := #[]
  callSites := []
  init := .initialized
  statics := none
  mirror := none

def pool0 : Array CpInfo := pool [(5, u "<init>"), (0, u "()V"), (1, .class_ 10), (1, u "java/lang/Object")] 113

def k0c0 : Code := { maxStack := 0, maxLocals := 1, code := object_method_1_code, exceptionTable := #[], attributes := #[] }
def k0m0 : Method := { name := "<init>", desc := "()V", sig := { parameters := [], returnType := none }, accessFlags := 1, code := some k0c0 }
/-- java/lang/Object -/
def k0 : Class := { plain "java/lang/Object" none with
  accessFlags := 33
  interfaces := #[]
  cf := some (fileOf pool0 8 #[] #[{ accessFlags := 1, nameIndex := 5, descriptorIndex := 6, attributes := #[] }] 33 0 #[] #[])
  fields := #[]
  methods := #[k0m0]
  instanceTypes := #[]
  staticTypes := #[]
  resolved := Array.replicate 124 none
  statics := none }

def pool1 : Array CpInfo := pool [(2, .class_ 4), (1, u "java/lang/Object"), (0, u "<init>"), (0, u "()V"), (0, .integer 2147483647), (0, .methodref 9 10), (0, .class_ 11), (0, .nameAndType 12 13), (0, u "com/example/trilatch/trilatch/http/TlsPolicyHandshakesWithPinLaw"), (0, u "pick"), (0, u "(I)C"), (0, .methodref 9 15), (0, .nameAndType 16 17), (0, u "make"), (0, u "(ICCCC)Ljava/lang/String;"), (0, .methodref 19 20), (0, .class_ 21), (0, .nameAndType 22 23), (0, u "com/example/trilatch/trilatch/http/TlsPolicy"), (0, u "handshakesWith"), (0, u "(Ljava/lang/String;)Z"), (0, .class_ 25), (0, u "java/lang/String"), (0, .methodref 24 27), (0, .nameAndType 5 28), (0, u "([C)V"), (2, u "law"), (0, u "(IIIII)Z")] 3

def k1m0 : Method := { name := "<init>", desc := "()V", sig := { parameters := [], returnType := none }, accessFlags := 1, code := none }
def k1c1 : Code := { maxStack := 5, maxLocals := 12, code := code, exceptionTable := #[], attributes := #[] }
def k1m1 : Method := { name := "law", desc := "(IIIII)Z", sig := { parameters := [.int, .int, .int, .int, .int], returnType := some .boolean }, accessFlags := 9, code := some k1c1 }
def k1c2 : Code := { maxStack := 4, maxLocals := 2, code := method_3_code, exceptionTable := #[], attributes := #[] }
def k1m2 : Method := { name := "pick", desc := "(I)C", sig := { parameters := [.int], returnType := some .char }, accessFlags := 10, code := some k1c2 }
def k1c3 : Code := { maxStack := 6, maxLocals := 5, code := method_4_code, exceptionTable := #[], attributes := #[] }
def k1m3 : Method := { name := "make", desc := "(ICCCC)Ljava/lang/String;", sig := { parameters := [.int, .char, .char, .char, .char], returnType := some (.object "java/lang/String") }, accessFlags := 10, code := some k1c3 }
/-- com/example/trilatch/trilatch/http/TlsPolicyHandshakesWithPinLaw -/
def k1 : Class := { plain "com/example/trilatch/trilatch/http/TlsPolicyHandshakesWithPinLaw" (some 0) with
  accessFlags := 49
  interfaces := #[]
  cf := some (fileOf pool1 9 #[] #[{ accessFlags := 1, nameIndex := 5, descriptorIndex := 6, attributes := #[] }, { accessFlags := 9, nameIndex := 31, descriptorIndex := 32, attributes := #[] }, { accessFlags := 10, nameIndex := 12, descriptorIndex := 13, attributes := #[] }, { accessFlags := 10, nameIndex := 16, descriptorIndex := 17, attributes := #[] }] 49 2 #[] #[])
  fields := #[]
  methods := #[k1m0, k1m1, k1m2, k1m3]
  instanceTypes := #[]
  staticTypes := #[]
  resolved := Array.replicate 36 none
  statics := none }

def pool2 : Array CpInfo := pool [(1, .class_ 2), (0, u "java/io/Serializable"), (0, .class_ 4), (0, u "java/lang/Object")] 2

/-- java/io/Serializable -/
def k2 : Class := { plain "java/io/Serializable" (some 0) with
  accessFlags := 1537
  interfaces := #[]
  cf := some (fileOf pool2 1 #[] #[] 1537 3 #[] #[])
  fields := #[]
  methods := #[]
  instanceTypes := #[]
  staticTypes := #[]
  resolved := Array.replicate 7 none
  statics := none }

def pool3 : Array CpInfo := pool [(1, .class_ 2), (0, u "java/lang/Comparable"), (0, .class_ 4), (0, u "java/lang/Object")] 7

/-- java/lang/Comparable -/
def k3 : Class := { plain "java/lang/Comparable" (some 0) with
  accessFlags := 1537
  interfaces := #[]
  cf := some (fileOf pool3 1 #[] #[] 1537 3 #[] #[])
  fields := #[]
  methods := #[]
  instanceTypes := #[]
  staticTypes := #[]
  resolved := Array.replicate 12 none
  statics := none }

def pool4 : Array CpInfo := pool [(2, .class_ 4), (1, u "java/lang/CharSequence"), (42, .class_ 48), (0, u "java/lang/CharSequence$1CodePointIterator"), (10, .class_ 60), (0, u "java/lang/CharSequence$1CharIterator"), (5, .class_ 67), (0, u "java/lang/Object")] 63

/-- java/lang/CharSequence -/
def k4 : Class := { plain "java/lang/CharSequence" (some 0) with
  accessFlags := 1537
  interfaces := #[]
  cf := some (fileOf pool4 2 #[.nestMembers #[47, 59]] #[] 1537 66 #[] #[])
  fields := #[]
  methods := #[]
  instanceTypes := #[]
  staticTypes := #[]
  resolved := Array.replicate 131 none
  statics := none }

def pool5 : Array CpInfo := pool [(1, .class_ 2), (0, u "java/lang/constant/Constable"), (0, .class_ 4), (0, u "java/lang/Object")] 6

/-- java/lang/constant/Constable -/
def k5 : Class := { plain "java/lang/constant/Constable" (some 0) with
  accessFlags := 1537
  interfaces := #[]
  cf := some (fileOf pool5 1 #[] #[] 1537 3 #[] #[])
  fields := #[]
  methods := #[]
  instanceTypes := #[]
  staticTypes := #[]
  resolved := Array.replicate 11 none
  statics := none }

def pool6 : Array CpInfo := pool [(1, .class_ 2), (0, u "java/lang/constant/ConstantDesc"), (0, .class_ 4), (0, u "java/lang/Object")] 32

/-- java/lang/constant/ConstantDesc -/
def k6 : Class := { plain "java/lang/constant/ConstantDesc" (some 0) with
  accessFlags := 1537
  interfaces := #[]
  cf := some (fileOf pool6 1 #[] #[] 1537 3 #[] #[])
  fields := #[]
  methods := #[]
  instanceTypes := #[]
  staticTypes := #[]
  resolved := Array.replicate 37 none
  statics := none }

def pool7 : Array CpInfo := pool [(1, .methodref 2 3), (0, .class_ 4), (0, .nameAndType 5 6), (0, u "java/lang/Object"), (0, u "<init>"), (0, u "()V"), (0, .string 8), (0, u ""), (0, .fieldref 10 11), (0, .class_ 12), (0, .nameAndType 13 14), (0, u "java/lang/String"), (0, u "value"), (0, u "[B"), (0, .fieldref 10 16), (0, .nameAndType 17 18), (0, u "coder"), (0, u "B"), (2, u "hash"), (0, u "I"), (2, u "hashIsZero"), (0, u "Z"), (0, .methodref 10 28), (0, .nameAndType 5 29), (0, u "([CIILjava/lang/Void;)V"), (8, .fieldref 10 39), (0, .nameAndType 40 26), (0, u "COMPACT_STRINGS"), (1, .class_ 44), (1, u "java/lang/StringUTF16"), (0, u "compress"), (1, .methodref 42 48), (0, .nameAndType 49 50), (0, u "coderFromArrayLen"), (0, u "([BI)B"), (56, .class_ 109), (1, u "java/lang/StringLatin1"), (67, .methodref 42 178), (0, .nameAndType 45 179), (0, u "([CII)[B"), (361, .methodref 107 542), (0, .nameAndType 543 544), (0, u "equals"), (0, u "([B[B)Z"), (28, u "(Ljava/lang/Object;)Z"), (1, .class_ 576), (0, u "java/lang/CharSequence"), (22, u "CASE_INSENSITIVE_ORDER"), (0, u "Ljava/util/Comparator;"), (409, u "([C)V"), (90, u "serialPersistentFields"), (0, u "[Ljava/io/ObjectStreamField;"), (0, .class_ 1104), (0, u "java/lang/String$CaseInsensitiveComparator"), (1, .class_ 1107), (0, u "java/io/Serializable"), (0, .class_ 1109), (0, u "java/lang/Comparable"), (0, .class_ 1111), (0, u "java/lang/constant/Constable"), (0, .class_ 1113), (0, u "java/lang/constant/ConstantDesc"), (2, u "serialVersionUID"), (0, u "J"), (3, u "REPL"), (0, u "C"), (2, u "LATIN1"), (1, u "UTF16")] 323

def k7m0 : Method := { name := "<init>", desc := "()V", sig := { parameters := [], returnType := none }, accessFlags := 1, code := none }
def k7c1 : Code := { maxStack := 5, maxLocals := 2, code := jdk_42_method_3_code, exceptionTable := #[], attributes := #[] }
def k7m1 : Method := { name := "<init>", desc := "([C)V", sig := { parameters := [(.array .char)], returnType := none }, accessFlags := 1, code := some k7c1 }
def k7c2 : Code := { maxStack := 2, maxLocals := 3, code := jdk_42_method_66_code, exceptionTable := #[], attributes := #[] }
def k7m2 : Method := { name := "equals", desc := "(Ljava/lang/Object;)Z", sig := { parameters := [(.object "java/lang/Object")], returnType := some .boolean }, accessFlags := 1, code := some k7c2 }
def k7c3 : Code := { maxStack := 4, maxLocals := 6, code := jdk_42_method_149_code, exceptionTable := #[], attributes := #[] }
def k7m3 : Method := { name := "<init>", desc := "([CIILjava/lang/Void;)V", sig := { parameters := [(.array .char), .int, .int, (.object "java/lang/Void")], returnType := none }, accessFlags := 2, code := some k7c3 }
/-- java/lang/String -/
def k7 : Class := { plain "java/lang/String" (some 0) with
  accessFlags := 49
  interfaces := #[2, 3, 4, 5, 6]
  cf := some (fileOf pool7 10 #[.nestMembers #[1103]] #[{ accessFlags := 1, nameIndex := 5, descriptorIndex := 6, attributes := #[] }, { accessFlags := 1, nameIndex := 5, descriptorIndex := 1010, attributes := #[] }, { accessFlags := 1, nameIndex := 543, descriptorIndex := 573, attributes := #[] }, { accessFlags := 2, nameIndex := 5, descriptorIndex := 29, attributes := #[] }] 49 2 #[1106, 1108, 575, 1110, 1112] #[{ accessFlags := 18, nameIndex := 13, descriptorIndex := 14, attributes := #[] }, { accessFlags := 18, nameIndex := 17, descriptorIndex := 18, attributes := #[] }, { accessFlags := 2, nameIndex := 21, descriptorIndex := 22, attributes := #[] }, { accessFlags := 2, nameIndex := 25, descriptorIndex := 26, attributes := #[] }, { accessFlags := 26, nameIndex := 1116, descriptorIndex := 1117, attributes := #[] }, { accessFlags := 24, nameIndex := 40, descriptorIndex := 26, attributes := #[] }, { accessFlags := 26, nameIndex := 1101, descriptorIndex := 1102, attributes := #[] }, { accessFlags := 26, nameIndex := 1121, descriptorIndex := 1122, attributes := #[] }, { accessFlags := 25, nameIndex := 599, descriptorIndex := 600, attributes := #[] }, { accessFlags := 24, nameIndex := 1125, descriptorIndex := 18, attributes := #[] }, { accessFlags := 24, nameIndex := 1127, descriptorIndex := 18, attributes := #[] }])
  fields := #[{ name := "value", type := (.array .byte), accessFlags := 18, slot := 0, constantValue := 0 }, { name := "coder", type := .byte, accessFlags := 18, slot := 1, constantValue := 0 }, { name := "hash", type := .int, accessFlags := 2, slot := 2, constantValue := 0 }, { name := "hashIsZero", type := .boolean, accessFlags := 2, slot := 3, constantValue := 0 }, { name := "serialVersionUID", type := .long, accessFlags := 26, slot := 0, constantValue := 0 }, { name := "COMPACT_STRINGS", type := .boolean, accessFlags := 24, slot := 1, constantValue := 0 }, { name := "serialPersistentFields", type := (.array (.object "java/io/ObjectStreamField")), accessFlags := 26, slot := 2, constantValue := 0 }, { name := "REPL", type := .char, accessFlags := 26, slot := 3, constantValue := 0 }, { name := "CASE_INSENSITIVE_ORDER", type := (.object "java/util/Comparator"), accessFlags := 25, slot := 4, constantValue := 0 }, { name := "LATIN1", type := .byte, accessFlags := 24, slot := 5, constantValue := 0 }, { name := "UTF16", type := .byte, accessFlags := 24, slot := 6, constantValue := 0 }]
  methods := #[k7m0, k7m1, k7m2, k7m3]
  instanceTypes := #[(.array .byte), .byte, .int, .boolean]
  staticTypes := #[.long, .boolean, (.array (.object "java/io/ObjectStreamField")), .char, (.object "java/util/Comparator"), .byte, .byte]
  resolved := Array.replicate 1451 none
  statics := some 0 }

def pool8 : Array CpInfo := pool [(2, .class_ 4), (1, u "java/lang/Object"), (0, u "<init>"), (0, u "()V"), (1, .class_ 10), (1, u "com/example/trilatch/trilatch/http/TlsPolicy"), (0, u "PROTOCOLS"), (0, u "[Ljava/lang/String;"), (8, u "CIPHER_SUITES"), (3, .string 26), (0, u "DSA"), (0, .methodref 28 29), (0, .class_ 30), (0, .nameAndType 31 32), (0, u "java/lang/String"), (0, u "equals"), (0, u "(Ljava/lang/Object;)Z"), (22, u "handshakesWith"), (0, u "(Ljava/lang/String;)Z")] 4

def k8m0 : Method := { name := "<init>", desc := "()V", sig := { parameters := [], returnType := none }, accessFlags := 2, code := none }
def k8c1 : Code := { maxStack := 2, maxLocals := 1, code := prog_56_method_3_code, exceptionTable := #[], attributes := #[] }
def k8m1 : Method := { name := "handshakesWith", desc := "(Ljava/lang/String;)Z", sig := { parameters := [(.object "java/lang/String")], returnType := some .boolean }, accessFlags := 9, code := some k8c1 }
/-- com/example/trilatch/trilatch/http/TlsPolicy -/
def k8 : Class := { plain "com/example/trilatch/trilatch/http/TlsPolicy" (some 0) with
  accessFlags := 49
  interfaces := #[]
  cf := some (fileOf pool8 8 #[] #[{ accessFlags := 2, nameIndex := 5, descriptorIndex := 6, attributes := #[] }, { accessFlags := 9, nameIndex := 55, descriptorIndex := 56, attributes := #[] }] 49 2 #[] #[{ accessFlags := 26, nameIndex := 11, descriptorIndex := 12, attributes := #[] }, { accessFlags := 26, nameIndex := 21, descriptorIndex := 12, attributes := #[] }])
  fields := #[{ name := "PROTOCOLS", type := (.array (.object "java/lang/String")), accessFlags := 26, slot := 0, constantValue := 0 }, { name := "CIPHER_SUITES", type := (.array (.object "java/lang/String")), accessFlags := 26, slot := 1, constantValue := 0 }]
  methods := #[k8m0, k8m1]
  instanceTypes := #[]
  staticTypes := #[(.array (.object "java/lang/String")), (.array (.object "java/lang/String"))]
  resolved := Array.replicate 61 none
  statics := none }

def pool9 : Array CpInfo := pool [(4, .class_ 6), (1, u "java/lang/Object"), (0, u "<init>"), (0, u "()V"), (5, .class_ 16), (1, u "java/lang/StringLatin1"), (104, u "$assertionsDisabled"), (0, u "Z"), (98, .class_ 223), (1, u "java/lang/StringLatin1$LinesSpliterator"), (57, u "equals"), (0, u "([B[B)Z"), (107, .class_ 391), (0, u "java/lang/StringLatin1$CharsSpliterator")] 3

def k9m0 : Method := { name := "<init>", desc := "()V", sig := { parameters := [], returnType := none }, accessFlags := 0, code := none }
def k9c1 : Code := { maxStack := 3, maxLocals := 3, code := jdk_43_method_13_code, exceptionTable := #[], attributes := #[] }
def k9m1 : Method := { name := "equals", desc := "([B[B)Z", sig := { parameters := [(.array .byte), (.array .byte)], returnType := some .boolean }, accessFlags := 9, code := some k9c1 }
/-- java/lang/StringLatin1 -/
def k9 : Class := { plain "java/lang/StringLatin1" (some 0) with
  accessFlags := 48
  interfaces := #[]
  cf := some (fileOf pool9 14 #[.nestMembers #[390, 221]] #[{ accessFlags := 0, nameIndex := 7, descriptorIndex := 8, attributes := #[] }, { accessFlags := 9, nameIndex := 281, descriptorIndex := 282, attributes := #[] }] 48 4 #[] #[{ accessFlags := 4120, nameIndex := 121, descriptorIndex := 122, attributes := #[] }])
  fields := #[{ name := "$assertionsDisabled", type := .boolean, accessFlags := 4120, slot := 0, constantValue := 0 }]
  methods := #[k9m0, k9m1]
  instanceTypes := #[]
  staticTypes := #[.boolean]
  resolved := Array.replicate 395 none
  statics := none }

def pool10 : Array CpInfo := pool [(6, .class_ 8), (1, u "java/lang/Object"), (0, u "<init>"), (0, u "()V"), (1, .class_ 14), (1, u "java/lang/StringUTF16"), (31, u "$assertionsDisabled"), (0, u "Z"), (13, u "HI_BYTE_SHIFT"), (0, u "I"), (2, u "LO_BYTE_SHIFT"), (49, .methodref 12 116), (0, .nameAndType 117 118), (0, u "compress"), (0, u "([CI[BII)I"), (3, u "([CII)[B"), (138, u "coderFromArrayLen"), (0, u "([BI)B"), (106, .class_ 371), (1, u "java/lang/StringUTF16$LinesSpliterator"), (58, u "MAX_LENGTH"), (196, .class_ 628), (0, u "java/lang/StringUTF16$CodePointsSpliterator"), (0, .class_ 630), (0, u "java/lang/StringUTF16$CharsSpliterator")] 4

def k10m0 : Method := { name := "<init>", desc := "()V", sig := { parameters := [], returnType := none }, accessFlags := 0, code := none }
def k10c1 : Code := { maxStack := 2, maxLocals := 2, code := jdk_52_method_15_code, exceptionTable := #[], attributes := #[] }
def k10m1 : Method := { name := "coderFromArrayLen", desc := "([BI)B", sig := { parameters := [(.array .byte), .int], returnType := some .byte }, accessFlags := 8, code := some k10c1 }
def k10c2 : Code := { maxStack := 5, maxLocals := 6, code := jdk_52_method_16_code, exceptionTable := #[], attributes := #[] }
def k10m2 : Method := { name := "compress", desc := "([CII)[B", sig := { parameters := [(.array .char), .int, .int], returnType := some (.array .byte) }, accessFlags := 9, code := some k10c2 }
def k10c3 : Code := { maxStack := 3, maxLocals := 7, code := jdk_52_method_21_code, exceptionTable := #[], attributes := #[] }
def k10m3 : Method := { name := "compress", desc := "([CI[BII)I", sig := { parameters := [(.array .char), .int, (.array .byte), .int, .int], returnType := some .int }, accessFlags := 9, code := some k10c3 }
/-- java/lang/StringUTF16 -/
def k10 : Class := { plain "java/lang/StringUTF16" (some 0) with
  accessFlags := 48
  interfaces := #[]
  cf := some (fileOf pool10 12 #[.nestMembers #[627, 629, 369]] #[{ accessFlags := 0, nameIndex := 9, descriptorIndex := 10, attributes := #[] }, { accessFlags := 8, nameIndex := 261, descriptorIndex := 262, attributes := #[] }, { accessFlags := 9, nameIndex := 117, descriptorIndex := 122, attributes := #[] }, { accessFlags := 9, nameIndex := 117, descriptorIndex := 118, attributes := #[] }] 48 6 #[] #[{ accessFlags := 26, nameIndex := 61, descriptorIndex := 62, attributes := #[] }, { accessFlags := 26, nameIndex := 65, descriptorIndex := 62, attributes := #[] }, { accessFlags := 24, nameIndex := 430, descriptorIndex := 62, attributes := #[] }, { accessFlags := 4120, nameIndex := 46, descriptorIndex := 47, attributes := #[] }])
  fields := #[{ name := "HI_BYTE_SHIFT", type := .int, accessFlags := 26, slot := 0, constantValue := 0 }, { name := "LO_BYTE_SHIFT", type := .int, accessFlags := 26, slot := 1, constantValue := 0 }, { name := "MAX_LENGTH", type := .int, accessFlags := 24, slot := 2, constantValue := 0 }, { name := "$assertionsDisabled", type := .boolean, accessFlags := 4120, slot := 3, constantValue := 0 }]
  methods := #[k10m0, k10m1, k10m2, k10m3]
  instanceTypes := #[]
  staticTypes := #[.int, .int, .int, .boolean]
  resolved := Array.replicate 635 none
  statics := none }

def pool11 : Array CpInfo := pool [(2, .class_ 4), (1, u "java/lang/Object"), (0, u "<init>"), (0, u "()V"), (17, .class_ 26), (1, u "jdk/internal/util/Preconditions"), (28, .class_ 56), (0, u "jdk/internal/util/Preconditions$4"), (57, .class_ 115), (0, u "jdk/internal/util/Preconditions$1"), (7, u "SIOOBE_FORMATTER"), (0, u "Ljava/util/function/BiFunction;"), (0, .class_ 126), (0, u "jdk/internal/util/Preconditions$2"), (3, u "AIOOBE_FORMATTER"), (0, .class_ 132), (0, u "jdk/internal/util/Preconditions$3"), (3, u "IOOBE_FORMATTER")] 57

def k11m0 : Method := { name := "<init>", desc := "()V", sig := { parameters := [], returnType := none }, accessFlags := 1, code := none }
/-- jdk/internal/util/Preconditions -/
def k11 : Class := { plain "jdk/internal/util/Preconditions" (some 0) with
  accessFlags := 33
  interfaces := #[]
  cf := some (fileOf pool11 24 #[.nestMembers #[55, 131, 125, 114]] #[{ accessFlags := 1, nameIndex := 5, descriptorIndex := 6, attributes := #[] }] 33 2 #[] #[{ accessFlags := 25, nameIndex := 123, descriptorIndex := 124, attributes := #[] }, { accessFlags := 25, nameIndex := 130, descriptorIndex := 124, attributes := #[] }, { accessFlags := 25, nameIndex := 136, descriptorIndex := 124, attributes := #[] }])
  fields := #[{ name := "SIOOBE_FORMATTER", type := (.object "java/util/function/BiFunction"), accessFlags := 25, slot := 0, constantValue := 0 }, { name := "AIOOBE_FORMATTER", type := (.object "java/util/function/BiFunction"), accessFlags := 25, slot := 1, constantValue := 0 }, { name := "IOOBE_FORMATTER", type := (.object "java/util/function/BiFunction"), accessFlags := 25, slot := 2, constantValue := 0 }]
  methods := #[k11m0]
  instanceTypes := #[]
  staticTypes := #[(.object "java/util/function/BiFunction"), (.object "java/util/function/BiFunction"), (.object "java/util/function/BiFunction")]
  resolved := Array.replicate 194 none
  statics := some 1 }

def pool12 : Array CpInfo := pool [(9, u "<init>"), (6, .class_ 18), (1, u "java/lang/Object"), (0, u "()V"), (1, .class_ 23), (1, u "jdk/internal/util/ArraysSupport"), (0, u "LOG2_ARRAY_LONG_INDEX_SCALE"), (0, u "I"), (2, u "U"), (0, u "Ljdk/internal/misc/Unsafe;"), (8, u "BIG_ENDIAN"), (0, u "Z"), (8, u "LOG2_BYTE_BIT_SIZE"), (4, u "LOG2_ARRAY_INT_INDEX_SCALE"), (54, u "JLA"), (0, u "Ljdk/internal/access/JavaLangAccess;"), (11, u "LOG2_ARRAY_BOOLEAN_INDEX_SCALE"), (9, u "LOG2_ARRAY_BYTE_INDEX_SCALE"), (5, u "LOG2_ARRAY_CHAR_INDEX_SCALE"), (5, u "LOG2_ARRAY_SHORT_INDEX_SCALE"), (18, u "LOG2_ARRAY_FLOAT_INDEX_SCALE"), (24, u "LOG2_ARRAY_DOUBLE_INDEX_SCALE"), (89, u "T_BOOLEAN"), (2, u "T_CHAR"), (1, u "T_FLOAT"), (1, u "T_DOUBLE"), (1, u "T_BYTE"), (1, u "T_SHORT"), (1, u "T_INT"), (1, u "T_LONG"), (1, u "SOFT_MAX_ARRAY_LENGTH")] 83

def k12m0 : Method := { name := "<init>", desc := "()V", sig := { parameters := [], returnType := none }, accessFlags := 2, code := none }
/-- jdk/internal/util/ArraysSupport -/
def k12 : Class := { plain "jdk/internal/util/ArraysSupport" (some 0) with
  accessFlags := 33
  interfaces := #[]
  cf := some (fileOf pool12 21 #[] #[{ accessFlags := 2, nameIndex := 9, descriptorIndex := 19, attributes := #[] }] 33 16 #[] #[{ accessFlags := 24, nameIndex := 28, descriptorIndex := 29, attributes := #[] }, { accessFlags := 26, nameIndex := 38, descriptorIndex := 39, attributes := #[] }, { accessFlags := 25, nameIndex := 121, descriptorIndex := 25, attributes := #[] }, { accessFlags := 25, nameIndex := 131, descriptorIndex := 25, attributes := #[] }, { accessFlags := 25, nameIndex := 137, descriptorIndex := 25, attributes := #[] }, { accessFlags := 25, nameIndex := 143, descriptorIndex := 25, attributes := #[] }, { accessFlags := 25, nameIndex := 53, descriptorIndex := 25, attributes := #[] }, { accessFlags := 25, nameIndex := 24, descriptorIndex := 25, attributes := #[] }, { accessFlags := 25, nameIndex := 162, descriptorIndex := 25, attributes := #[] }, { accessFlags := 25, nameIndex := 187, descriptorIndex := 25, attributes := #[] }, { accessFlags := 26, nameIndex := 48, descriptorIndex := 25, attributes := #[] }, { accessFlags := 25, nameIndex := 277, descriptorIndex := 25, attributes := #[] }, { accessFlags := 25, nameIndex := 280, descriptorIndex := 25, attributes := #[] }, { accessFlags := 25, nameIndex := 282, descriptorIndex := 25, attributes := #[] }, { accessFlags := 25, nameIndex := 284, descriptorIndex := 25, attributes := #[] }, { accessFlags := 25, nameIndex := 286, descriptorIndex := 25, attributes := #[] }, { accessFlags := 25, nameIndex := 288, descriptorIndex := 25, attributes := #[] }, { accessFlags := 25, nameIndex := 290, descriptorIndex := 25, attributes := #[] }, { accessFlags := 25, nameIndex := 292, descriptorIndex := 25, attributes := #[] }, { accessFlags := 26, nameIndex := 108, descriptorIndex := 109, attributes := #[] }, { accessFlags := 25, nameIndex := 294, descriptorIndex := 25, attributes := #[] }])
  fields := #[{ name := "U", type := (.object "jdk/internal/misc/Unsafe"), accessFlags := 24, slot := 0, constantValue := 0 }, { name := "BIG_ENDIAN", type := .boolean, accessFlags := 26, slot := 1, constantValue := 0 }, { name := "LOG2_ARRAY_BOOLEAN_INDEX_SCALE", type := .int, accessFlags := 25, slot := 2, constantValue := 0 }, { name := "LOG2_ARRAY_BYTE_INDEX_SCALE", type := .int, accessFlags := 25, slot := 3, constantValue := 0 }, { name := "LOG2_ARRAY_CHAR_INDEX_SCALE", type := .int, accessFlags := 25, slot := 4, constantValue := 0 }, { name := "LOG2_ARRAY_SHORT_INDEX_SCALE", type := .int, accessFlags := 25, slot := 5, constantValue := 0 }, { name := "LOG2_ARRAY_INT_INDEX_SCALE", type := .int, accessFlags := 25, slot := 6, constantValue := 0 }, { name := "LOG2_ARRAY_LONG_INDEX_SCALE", type := .int, accessFlags := 25, slot := 7, constantValue := 0 }, { name := "LOG2_ARRAY_FLOAT_INDEX_SCALE", type := .int, accessFlags := 25, slot := 8, constantValue := 0 }, { name := "LOG2_ARRAY_DOUBLE_INDEX_SCALE", type := .int, accessFlags := 25, slot := 9, constantValue := 0 }, { name := "LOG2_BYTE_BIT_SIZE", type := .int, accessFlags := 26, slot := 10, constantValue := 0 }, { name := "T_BOOLEAN", type := .int, accessFlags := 25, slot := 11, constantValue := 0 }, { name := "T_CHAR", type := .int, accessFlags := 25, slot := 12, constantValue := 0 }, { name := "T_FLOAT", type := .int, accessFlags := 25, slot := 13, constantValue := 0 }, { name := "T_DOUBLE", type := .int, accessFlags := 25, slot := 14, constantValue := 0 }, { name := "T_BYTE", type := .int, accessFlags := 25, slot := 15, constantValue := 0 }, { name := "T_SHORT", type := .int, accessFlags := 25, slot := 16, constantValue := 0 }, { name := "T_INT", type := .int, accessFlags := 25, slot := 17, constantValue := 0 }, { name := "T_LONG", type := .int, accessFlags := 25, slot := 18, constantValue := 0 }, { name := "JLA", type := (.object "jdk/internal/access/JavaLangAccess"), accessFlags := 26, slot := 19, constantValue := 0 }, { name := "SOFT_MAX_ARRAY_LENGTH", type := .int, accessFlags := 25, slot := 20, constantValue := 0 }]
  methods := #[k12m0]
  instanceTypes := #[]
  staticTypes := #[(.object "jdk/internal/misc/Unsafe"), .boolean, .int, .int, .int, .int, .int, .int, .int, .int, .int, .int, .int, .int, .int, .int, .int, .int, .int, (.object "jdk/internal/access/JavaLangAccess"), .int]
  resolved := Array.replicate 378 none
  statics := none }

def pool13 : Array CpInfo := pool [(1, u "java/lang/Cloneable"), (0, .class_ 1), (0, u "java/lang/Object"), (0, .class_ 3)] 3

/-- java/lang/Cloneable -/
def k13 : Class := { plain "java/lang/Cloneable" (some 0) with
  accessFlags := 1537
  interfaces := #[]
  cf := some (fileOf pool13 2 #[] #[] 1537 4 #[] #[])
  fields := #[]
  methods := #[]
  instanceTypes := #[]
  staticTypes := #[]
  resolved := Array.replicate 8 none
  statics := none }

/-- the primitive byte -/
def k14 : Class := { plain "byte" none with kind := .primitive 'B', accessFlags := 0x411 }
/-- [B -/
def k15 : Class := { plain "[B" (some 0) with kind := .array 14 .byte, interfaces := #[13, 2], accessFlags := 1041 }

/-- the primitive char -/
def k16 : Class := { plain "char" none with kind := .primitive 'C', accessFlags := 0x411 }
/-- [C -/
def k17 : Class := { plain "[C" (some 0) with kind := .array 16 .char, interfaces := #[13, 2], accessFlags := 1041 }

/-- the primitive int -/
def k18 : Class := { plain "int" none with kind := .primitive 'I', accessFlags := 0x411 }
/-- [I -/
def k19 : Class := { plain "[I" (some 0) with kind := .array 18 .int, interfaces := #[13, 2], accessFlags := 1041 }

def heap : Heap := #[{ cls := 7, slots := #[.long 0, .int 1, .null, .int 0, .null, .int 0, .int 0], vm := .statics 7 },
  { cls := 11, slots := #[.null, .null, .null], vm := .statics 11 }]
def classes : Array Class := #[k0, k1, k2, k3, k4, k5, k6, k7, k8, k9, k10, k11, k12, k13, k14, k15, k16, k17, k18, k19]
def interned : List (Array UInt16 × Addr) := []
def slotsUsed : Nat := 10
def theMethod : MethodId := ⟨1, 1⟩
def args0 : Array Value := #[.int 3, .int 256, .int 768, .int 1280, .int 5]
def aboutOver (below : List Frame) : State where
  vm := { classes := classes, interned := interned.toArray }
  heap := heap
  slotsUsed := slotsUsed
  threads := #[{ frames := .invoking theMethod args0 :: below }]
def below0 : List Frame := [.native { method := ⟨0, 0⟩, args := #[] }]
def about1 : State := aboutOver below0
def p0 : Program := .bare "" "" ""
def e0 : Env := launch0.env 0 0 0
theorem w_frames : about1.frames = Frame.invoking theMethod args0 :: below0 := rfl
set_option maxRecDepth 65536 in
theorem w_args : argsFit about1.vm theMethod args0 = true := by decide +kernel
set_option maxRecDepth 65536 in
theorem w_heap : heapFits about1 = true := by decide +kernel
set_option maxRecDepth 65536 in
theorem w_runnable : about1.curStatus? = some .runnable := by decide +kernel
set_option maxRecDepth 65536 in
theorem w_alone : about1.alone = true := by decide +kernel
set_option maxRecDepth 65536 in
theorem w_named : about1.methodNamed? x = some theMethod := by decide +kernel
set_option maxRecDepth 65536 in
theorem w_hears : about1.hears theMethod below0 = true := by decide +kernel
set_option maxRecDepth 65536 in
theorem w_ripe : about1.ripe theMethod args0 below0 = true := by decide +kernel
theorem w_running : about1.status = .running := rfl
set_option maxRecDepth 65536 in
theorem w_room : about1.hasRoom e0.platform room_1 = true :=
  launch0.hasRoom_least _ room_1 (by decide +kernel) (by decide +kernel) (by decide +kernel) (by decide +kernel) (by decide +kernel) (by decide +kernel)
theorem allAtoms_all (ts : List Jvm.Cond) (a : Array Jvm.Value) (st : Jvm.State) : (allAtoms ts).before a st = ts.all (fun c => c.before a st) := by
  induction ts with
  | nil => rfl
  | cons c t ih =>
    show (Jvm.Cond.and c (allAtoms t)).before a st = _
    rw [Jvm.Cond.before_and, ih, List.all_cons]
def words1 : List Jvm.Cond := Jvm.Cond.code x code maxLocals ret :: tables_1
/-- a 'code' word, met by the world's own term for the bytes: nothing is compared byte by byte -/
theorem code_word {y : MethodName} {bytes : ByteArray} {mx : Nat} {rt : Option FieldType} {a : Array Value} {s : State} {m : MethodId} {meth : Method} {c : Code} (h1 : s.methodNamed? y = some m) (h2 : s.vm.method? m = some meth) (h3 : meth.code = some c) (h4 : c.code = bytes)
    (h5 : (c.maxLocals == mx && c.exceptionTable.isEmpty && decide (c.maxStack ≤ mostOperands) && decide (meth.sig.returnType = rt) && !meth.locks && decide (parseMethodDescriptor y.desc = some meth.sig)) = true) : (Jvm.Cond.code y bytes mx rt).before a s = true := by
  simp only [Bool.and_eq_true, beq_iff_eq, Bool.not_eq_true', decide_eq_true_eq] at h5
  obtain ⟨⟨⟨⟨⟨g1, g2⟩, g3⟩, g4⟩, g5⟩, g6⟩ := h5
  simp [Cond.before, Cond.holds, Cond.value, h1, h2, h3, h4, g1, g2, g3, g4, g5, g6]
def isCode : Jvm.Cond → Bool
  | .code _ _ _ _ => true
  | _ => false
theorem all_split {L : List Jvm.Cond} {P : Jvm.Cond → Bool} (h1 : L.all (fun c => isCode c || P c) = true) (h2 : ∀ c ∈ L.filter isCode, P c = true) : L.all P = true := by
  refine List.all_eq_true.mpr fun c hc => ?_
  have h := List.all_eq_true.mp h1 c hc
  rcases Bool.eq_false_or_eq_true (isCode c) with hi | hi
  · exact h2 c (List.mem_filter.mpr ⟨hc, hi⟩)
  · simpa [hi] using h
set_option maxRecDepth 65536 in
theorem w_c0 : (Jvm.Cond.code x code maxLocals ret).before args0 about1 = true := code_word (m := ⟨1, 1⟩) (meth := k1m1) (c := k1c1) (by decide +kernel) rfl rfl rfl (by decide +kernel)
set_option maxRecDepth 65536 in
theorem w_c1 : (Jvm.Cond.code ({ cls := "com/example/trilatch/trilatch/http/TlsPolicyHandshakesWithPinLaw", name := "pick", desc := "(I)C" } : Jvm.MethodName) method_3_code (2 : Nat) (Option.some Jvm.ClassFile.FieldType.char)).before args0 about1 = true := code_word (m := ⟨1, 2⟩) (meth := k1m2) (c := k1c2) (by decide +kernel) rfl rfl rfl (by decide +kernel)
set_option maxRecDepth 65536 in
theorem w_c2 : (Jvm.Cond.code ({ cls := "com/example/trilatch/trilatch/http/TlsPolicyHandshakesWithPinLaw", name := "make", desc := "(ICCCC)Ljava/lang/String;" } : Jvm.MethodName) method_4_code (5 : Nat) (Option.some (Jvm.ClassFile.FieldType.object "java/lang/String"))).before args0 about1 = true := code_word (m := ⟨1, 3⟩) (meth := k1m3) (c := k1c3) (by decide +kernel) rfl rfl rfl (by decide +kernel)
set_option maxRecDepth 65536 in
theorem w_c3 : (Jvm.Cond.code ({ cls := "java/lang/String", name := "<init>", desc := "([C)V" } : Jvm.MethodName) jdk_42_method_3_code (2 : Nat) (Option.none : Option Jvm.ClassFile.FieldType)).before args0 about1 = true := code_word (m := ⟨7, 1⟩) (meth := k7m1) (c := k7c1) (by decide +kernel) rfl rfl rfl (by decide +kernel)
set_option maxRecDepth 65536 in
theorem w_c4 : (Jvm.Cond.code ({ cls := "java/lang/String", name := "<init>", desc := "([CIILjava/lang/Void;)V" } : Jvm.MethodName) jdk_42_method_149_code (6 : Nat) (Option.none : Option Jvm.ClassFile.FieldType)).before args0 about1 = true := code_word (m := ⟨7, 3⟩) (meth := k7m3) (c := k7c3) (by decide +kernel) rfl rfl rfl (by decide +kernel)
set_option maxRecDepth 65536 in
theorem w_c5 : (Jvm.Cond.code ({ cls := "java/lang/Object", name := "<init>", desc := "()V" } : Jvm.MethodName) object_method_1_code (1 : Nat) (Option.none : Option Jvm.ClassFile.FieldType)).before args0 about1 = true := code_word (m := ⟨0, 0⟩) (meth := k0m0) (c := k0c0) (by decide +kernel) rfl rfl rfl (by decide +kernel)
set_option maxRecDepth 65536 in
theorem w_c6 : (Jvm.Cond.code ({ cls := "com/example/trilatch/trilatch/http/TlsPolicy", name := "handshakesWith", desc := "(Ljava/lang/String;)Z" } : Jvm.MethodName) prog_56_method_3_code (1 : Nat) (Option.some Jvm.ClassFile.FieldType.boolean)).before args0 about1 = true := code_word (m := ⟨8, 1⟩) (meth := k8m1) (c := k8c1) (by decide +kernel) rfl rfl rfl (by decide +kernel)
set_option maxRecDepth 65536 in
theorem w_c7 : (Jvm.Cond.code ({ cls := "java/lang/String", name := "equals", desc := "(Ljava/lang/Object;)Z" } : Jvm.MethodName) jdk_42_method_66_code (3 : Nat) (Option.some Jvm.ClassFile.FieldType.boolean)).before args0 about1 = true := code_word (m := ⟨7, 2⟩) (meth := k7m2) (c := k7c2) (by decide +kernel) rfl rfl rfl (by decide +kernel)
set_option maxRecDepth 65536 in
theorem w_c8 : (Jvm.Cond.code ({ cls := "java/lang/StringLatin1", name := "equals", desc := "([B[B)Z" } : Jvm.MethodName) jdk_43_method_13_code (3 : Nat) (Option.some Jvm.ClassFile.FieldType.boolean)).before args0 about1 = true := code_word (m := ⟨9, 1⟩) (meth := k9m1) (c := k9c1) (by decide +kernel) rfl rfl rfl (by decide +kernel)
set_option maxRecDepth 65536 in
theorem w_c9 : (Jvm.Cond.code ({ cls := "java/lang/StringUTF16", name := "compress", desc := "([CII)[B" } : Jvm.MethodName) jdk_52_method_16_code (6 : Nat) (Option.some (Jvm.ClassFile.FieldType.array Jvm.ClassFile.FieldType.byte))).before args0 about1 = true := code_word (m := ⟨10, 2⟩) (meth := k10m2) (c := k10c2) (by decide +kernel) rfl rfl rfl (by decide +kernel)
set_option maxRecDepth 65536 in
theorem w_c10 : (Jvm.Cond.code ({ cls := "java/lang/StringUTF16", name := "compress", desc := "([CI[BII)I" } : Jvm.MethodName) jdk_52_method_21_code (7 : Nat) (Option.some Jvm.ClassFile.FieldType.int)).before args0 about1 = true := code_word (m := ⟨10, 3⟩) (meth := k10m3) (c := k10c3) (by decide +kernel) rfl rfl rfl (by decide +kernel)
set_option maxRecDepth 65536 in
theorem w_c11 : (Jvm.Cond.code ({ cls := "java/lang/StringUTF16", name := "coderFromArrayLen", desc := "([BI)B" } : Jvm.MethodName) jdk_52_method_15_code (2 : Nat) (Option.some Jvm.ClassFile.FieldType.byte)).before args0 about1 = true := code_word (m := ⟨10, 1⟩) (meth := k10m1) (c := k10c1) (by decide +kernel) rfl rfl rfl (by decide +kernel)
def codes1 : List Jvm.Cond := [Jvm.Cond.code x code maxLocals ret, Jvm.Cond.code ({ cls := "com/example/trilatch/trilatch/http/TlsPolicyHandshakesWithPinLaw", name := "pick", desc := "(I)C" } : Jvm.MethodName) method_3_code (2 : Nat) (Option.some Jvm.ClassFile.FieldType.char), Jvm.Cond.code ({ cls := "com/example/trilatch/trilatch/http/TlsPolicyHandshakesWithPinLaw", name := "make", desc := "(ICCCC)Ljava/lang/String;" } : Jvm.MethodName) method_4_code (5 : Nat) (Option.some (Jvm.ClassFile.FieldType.object "java/lang/String")), Jvm.Cond.code ({ cls := "java/lang/String", name := "<init>", desc := "([C)V" } : Jvm.MethodName) jdk_42_method_3_code (2 : Nat) (Option.none : Option Jvm.ClassFile.FieldType), Jvm.Cond.code ({ cls := "java/lang/String", name := "<init>", desc := "([CIILjava/lang/Void;)V" } : Jvm.MethodName) jdk_42_method_149_code (6 : Nat) (Option.none : Option Jvm.ClassFile.FieldType), Jvm.Cond.code ({ cls := "java/lang/Object", name := "<init>", desc := "()V" } : Jvm.MethodName) object_method_1_code (1 : Nat) (Option.none : Option Jvm.ClassFile.FieldType), Jvm.Cond.code ({ cls := "com/example/trilatch/trilatch/http/TlsPolicy", name := "handshakesWith", desc := "(Ljava/lang/String;)Z" } : Jvm.MethodName) prog_56_method_3_code (1 : Nat) (Option.some Jvm.ClassFile.FieldType.boolean), Jvm.Cond.code ({ cls := "java/lang/String", name := "equals", desc := "(Ljava/lang/Object;)Z" } : Jvm.MethodName) jdk_42_method_66_code (3 : Nat) (Option.some Jvm.ClassFile.FieldType.boolean), Jvm.Cond.code ({ cls := "java/lang/StringLatin1", name := "equals", desc := "([B[B)Z" } : Jvm.MethodName) jdk_43_method_13_code (3 : Nat) (Option.some Jvm.ClassFile.FieldType.boolean), Jvm.Cond.code ({ cls := "java/lang/StringUTF16", name := "compress", desc := "([CII)[B" } : Jvm.MethodName) jdk_52_method_16_code (6 : Nat) (Option.some (Jvm.ClassFile.FieldType.array Jvm.ClassFile.FieldType.byte)), Jvm.Cond.code ({ cls := "java/lang/StringUTF16", name := "compress", desc := "([CI[BII)I" } : Jvm.MethodName) jdk_52_method_21_code (7 : Nat) (Option.some Jvm.ClassFile.FieldType.int), Jvm.Cond.code ({ cls := "java/lang/StringUTF16", name := "coderFromArrayLen", desc := "([BI)B" } : Jvm.MethodName) jdk_52_method_15_code (2 : Nat) (Option.some Jvm.ClassFile.FieldType.byte)]
set_option maxRecDepth 65536 in
theorem codes_eq : words1.filter isCode = codes1 := rfl
theorem w_codes : ∀ c ∈ words1.filter isCode, c.before args0 about1 = true := by
  rw [codes_eq]
  intro c hc
  simp only [codes1, List.mem_cons, List.not_mem_nil, or_false] at hc
  rcases hc with rfl | rfl | rfl | rfl | rfl | rfl | rfl | rfl | rfl | rfl | rfl | rfl
  · exact w_c0
  · exact w_c1
  · exact w_c2
  · exact w_c3
  · exact w_c4
  · exact w_c5
  · exact w_c6
  · exact w_c7
  · exact w_c8
  · exact w_c9
  · exact w_c10
  · exact w_c11
set_option maxRecDepth 65536 in
theorem w_t1 : (words1.take 24).all (fun c => isCode c || c.before args0 about1) = true := by decide +kernel
set_option maxRecDepth 65536 in
theorem w_t2 : ((words1.drop 24).take 24).all (fun c => isCode c || c.before args0 about1) = true := by decide +kernel
set_option maxRecDepth 65536 in
theorem w_t3 : ((words1.drop 24).drop 24).all (fun c => isCode c || c.before args0 about1) = true := by decide +kernel
theorem w_tables : (allAtoms (Jvm.Cond.code x code maxLocals ret :: tables_1)).before args0 about1 = true := by
  rw [allAtoms_all]
  show words1.all (fun c => c.before args0 about1) = true
  refine all_split ?_ w_codes
  rw [← List.take_append_drop 24 words1, List.all_append, w_t1, ← List.take_append_drop 24 (words1.drop 24), List.all_append, w_t2, w_t3]
  rfl
set_option maxRecDepth 65536 in
theorem w_rest : rest_1_c.before args0 about1 = true := by decide +kernel
set_option maxRecDepth 65536 in
theorem w_case : (Jvm.Cond.and given_1 narrow_1).before args0 about1 = true := by decide +kernel
set_option maxRecDepth 65536 in
theorem w_consts : constsHeld consts_1 about1 := Jvm.Lit.constsHeldB_iff.mp (by decide +kernel)
theorem w_applies : (headSpec (Jvm.Cond.code x code maxLocals ret :: tables_1) room_1).applies x e0.platform about1 = true :=
  (Spec.applies_iff w_frames).mpr ⟨w_running, w_runnable, w_alone, w_named, w_hears, w_ripe, w_room, w_tables⟩
theorem atStart : AtStart classFile x code maxLocals ret World_1 tables_1 room_1 Calls_1 rest_1 Pre_1 launch0 p0 e0 about1 theMethod args0 below0 :=
  ⟨lists_1, trivial, launch0.admits_env _ _ _, launch0.least_env, fairChoices_fair.cas, fairChoices_fair.clock, w_frames, w_args, w_heap, w_applies, ⟨w_consts, trivial⟩, w_rest, w_case⟩
end start1
theorem witness_1 : WitnessClaimed_1 := ⟨start1.p0, start1.e0, start1.about1, start1.theMethod, start1.args0, start1.below0, start1.atStart⟩
end Jvm.Pilot.@@N@@
