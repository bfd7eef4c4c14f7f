import JvmDerived
import JvmDerived.Pilot.@@N@@Statement
import JvmDerived.Pilot.@@N@@Code
set_option linter.unusedVariables false
set_option linter.unusedSimpArgs false
@@BLOCK:NumsL.lean.txt@@
namespace Jvm.OwnK
open Sem ClassFile Op Lib Jvm.Free Jvm.Stand Jvm.LawKit Jvm.RoadKit
section Base
variable {p : Program} {l : Launch} {e : Env} {R : Room} {s : State} {m : MethodId} {args : Array Value} {below : List Frame} {meth : Method} {c : Code} {T T' : State} {locs : List Loc} {cells slots : Nat} {Q : Option Value → Heap → List Loc → Prop} {kc ks : Nat} {g g' : JFrame} {Z : State} {a0 : Array Value} {h : Heap}
/-- the walk's goal: from T with g on top the invocation comes to its end, with Q -/
def Go (p : Program) (e : Env) (below : List Frame) (s T : State) (g : JFrame) (Q : Option Value → Heap → List Loc → Prop) (kc ks : Nat) : Prop :=
  ∃ s₂ o, Steps p.tables e below (T.setTop g) s₂ ∧ s₂.status = .running ∧ Ended s₂ below o ∧ ∃ v L, o = .returned v ∧ Q v s₂.heap L ∧ FrameEnd s o s₂ L kc ks
theorem Go.step (st : ∀ target, Steps p.tables e below (T'.setTop g') target → Steps p.tables e below (T.setTop g) target) (k : Go p e below s T' g' Q kc ks) : Go p e below s T g Q kc ks := by
  obtain ⟨s₂, o, h1, r⟩ := k
  exact ⟨s₂, o, st _ h1, r⟩
theorem Go.trans (st : Steps p.tables e below (T.setTop g) (T'.setTop g')) (k : Go p e below s T' g' Q kc ks) : Go p e below s T g Q kc ks := by
  obtain ⟨s₂, o, h1, r⟩ := k
  exact ⟨s₂, o, st.trans h1, r⟩
theorem Go.cast (q : g = g') (k : Go p e below s T g' Q kc ks) : Go p e below s T g Q kc ks := q ▸ k
theorem Go.out (X : Stand p l e R s m args below meth c T locs cells slots) (hlk : meth.locks = false) {v : Option Value} (hv : meth.sig.returnType = none → v = none) (hQ : Q v T.heap locs) (hc : cells ≤ kc) (hs : slots ≤ ks)
    (st : ∀ fs : List Frame, (∀ (f : JFrame) (acts : List Action), f.method = m → f.locked = none → f.entered = [] → (doReturn e (T.setTop f) acts v).1 = T.setFrames fs) → Steps p.tables e below (T.setTop g) (T.setFrames fs)) : Go p e below s T g Q kc ks := by
  obtain ⟨fs, hr, hrun, hended, hW, hsame⟩ := X.leave hv hlk
  exact ⟨_, _, st fs hr, hrun, hended, _, _, rfl, hQ, ⟨_, rfl⟩, hW, hsame.mono hc hs⟩
theorem Go.ret0 (X : Stand p l e R s m args below meth c T locs cells slots) (hx : p.tables.exec = Jvm.exec) (hlk : meth.locks = false) {pc : Nat} {Ls : Array Slot} (hret : meth.sig.returnType = none) (hd : decode c.code pc = .ok (.return_, 1)) (hc : cells ≤ kc) (hs : slots ≤ ks) (hQ : Q none T.heap locs) : Go p e below s T (mkF m pc Ls []) Q kc ks :=
  Go.out X hlk (fun _ => rfl) hQ hc hs fun fs hr => X.returnOut hx hret hd hr
theorem Go.retV (X : Stand p l e R s m args below meth c T locs cells slots) (hx : p.tables.exec = Jvm.exec) (hlk : meth.locks = false) {pc : Nat} {Ls : Array Slot} {w : Value} {t : FieldType} {i : Instr} {rest : List Value} (hret : meth.sig.returnType = some t) (hn : narrow t w = w)
    (hi : (i = .ireturn ∧ (t = .int ∨ t = .boolean ∨ t = .byte ∨ t = .char ∨ t = .short) ∧ ∃ z, w = .int z) ∨ (i = .lreturn ∧ t = .long ∧ ∃ z, w = .long z) ∨ (i = .dreturn ∧ t = .double ∧ ∃ z, w = .double z) ∨ (i = .freturn ∧ t = .float ∧ ∃ z, w = .float z) ∨ (i = .areturn ∧ t.isReference = true ∧ w.isRef = true))
    (hd : decode c.code pc = .ok (i, 1)) (hc : cells ≤ kc) (hs : slots ≤ ks) (hQ : Q (some w) T.heap locs) : Go p e below s T (mkF m pc Ls (w :: rest)) Q kc ks :=
  Go.out X hlk (fun q => by rw [hret] at q; cases q) hQ hc hs fun fs hr => retOut X hx hret hn hi hd hr
theorem Go.retI (X : Stand p l e R s m args below meth c T locs cells slots) (hx : p.tables.exec = Jvm.exec) (hlk : meth.locks = false) {pc : Nat} {Ls : Array Slot} {z : Int32} {rest : List Value} (hret : meth.sig.returnType = some .int)
    (hd : decode c.code pc = .ok (.ireturn, 1)) (hc : cells ≤ kc) (hs : slots ≤ ks) (hQ : Q (some (.int z)) T.heap locs) : Go p e below s T (mkF m pc Ls (.int z :: rest)) Q kc ks :=
  Go.retV X hx hlk hret rfl (Or.inl ⟨rfl, Or.inl rfl, z, rfl⟩) hd hc hs hQ
theorem nar_bool {z : Int32} (h : z = 0 ∨ z = 1) : narrow .boolean (.int z) = .int z := by rcases h with rfl | rfl <;> rfl
theorem Go.retZ (X : Stand p l e R s m args below meth c T locs cells slots) (hx : p.tables.exec = Jvm.exec) (hlk : meth.locks = false) {pc : Nat} {Ls : Array Slot} {z : Int32} {rest : List Value} (hret : meth.sig.returnType = some .boolean) (hz : z = 0 ∨ z = 1)
    (hd : decode c.code pc = .ok (.ireturn, 1)) (hc : cells ≤ kc) (hs : slots ≤ ks) (hQ : Q (some (.int z)) T.heap locs) : Go p e below s T (mkF m pc Ls (.int z :: rest)) Q kc ks :=
  Go.retV X hx hlk hret (nar_bool hz) (Or.inl ⟨rfl, Or.inr (Or.inl rfl), z, rfl⟩) hd hc hs hQ
theorem Go.retJ (X : Stand p l e R s m args below meth c T locs cells slots) (hx : p.tables.exec = Jvm.exec) (hlk : meth.locks = false) {pc : Nat} {Ls : Array Slot} {z : Int64} {rest : List Value} (hret : meth.sig.returnType = some .long)
    (hd : decode c.code pc = .ok (.lreturn, 1)) (hc : cells ≤ kc) (hs : slots ≤ ks) (hQ : Q (some (.long z)) T.heap locs) : Go p e below s T (mkF m pc Ls (.long z :: rest)) Q kc ks :=
  Go.retV X hx hlk hret rfl (Or.inr (Or.inl ⟨rfl, rfl, z, rfl⟩)) hd hc hs hQ
theorem Go.retR (X : Stand p l e R s m args below meth c T locs cells slots) (hx : p.tables.exec = Jvm.exec) (hlk : meth.locks = false) {pc : Nat} {Ls : Array Slot} {w : Value} {t : FieldType} {rest : List Value} (hret : meth.sig.returnType = some t) (ht : t.isReference = true) (hw : w.isRef = true)
    (hd : decode c.code pc = .ok (.areturn, 1)) (hc : cells ≤ kc) (hs : slots ≤ ks) (hQ : Q (some w) T.heap locs) : Go p e below s T (mkF m pc Ls (w :: rest)) Q kc ks :=
  Go.retV X hx hlk hret (by cases t <;> simp [narrow, FieldType.isReference] at ht ⊢) (Or.inr (Or.inr (Or.inr (Or.inr ⟨rfl, ht, hw⟩)))) hd hc hs hQ
/-- a method's contract in this text: from the heap h0, with these arguments, it returns, with Q -/
def Met (l : Launch) (Z : State) (y : MethodName) (bytes : ByteArray) (maxL : Nat) (ret : Option FieldType) (ws : List Jvm.Cond) (rm : Room) (as' : Array Value) (h0 : Heap) (Q : Option Value → Heap → List Loc → Prop) : Prop :=
  MetFree l y (head1 (Jvm.Cond.code y bytes maxL ret :: ws) rm) (fun a U => a = as' ∧ Z.Warmed39 U.vm ∧ U.heap = h0) (fun _ _ _ _ _ => True) (fun _ U o U' => ∃ v L, o = .returned v ∧ Q v U'.heap L ∧ FrameEnd U o U' L rm.cells rm.slots)
theorem Met.of {y : MethodName} {bytes : ByteArray} {maxL : Nat} {ret : Option FieldType} {ws : List Jvm.Cond} {rm : Room} {as' : Array Value} {h0 : Heap} (hpn : plainFor y = true)
    (body : ∀ (p : Program) (e : Env) (s : State) (m : MethodId) (below : List Frame) (meth : Method) (c : Code) (s₁ : State), Stand p l e rm s m as' below meth c s₁ [] 0 0 → p.tables.exec = Jvm.exec → c.code = bytes → c.maxLocals = maxL → Z.Warmed39 s.vm →
      s.vm.findClass y.cls = some m.cls → meth.name = y.name → s₁.heap = h0 → meth.sig.returnType = ret → meth.locks = false → Go p e below s s₁ (entryFrame m as' maxL) Q rm.cells rm.slots) : Met l Z y bytes maxL ret ws rm as' h0 Q := by
  refine MetFree.of_bodySF hpn hisR ?_
  intro p e s m args below meth c s₁ Bd hml0 hP hK
  obtain ⟨rfl, hZ, hh⟩ := hP
  exact body p e s m below meth c s₁ (Stand.of_body Bd) Bd.exec Bd.bytes hml0 hZ (findClass_of_methodNamed Bd.named) (name_of_methodNamed Bd.named Bd.method).1 (by rw [← hh, Bd.state]; rfl) Bd.returns Bd.notSynchronized
theorem Met.mono {y : MethodName} {bytes : ByteArray} {maxL : Nat} {ret : Option FieldType} {ws : List Jvm.Cond} {rm : Room} {as' : Array Value} {h0 : Heap} {Q' : Option Value → Heap → List Loc → Prop} (hM : Met l Z y bytes maxL ret ws rm as' h0 Q) (q : ∀ v h L, Q v h L → Q' v h L) : Met l Z y bytes maxL ret ws rm as' h0 Q' := by
  intro p e ha hc hk s m args below hf happ hP hK
  obtain ⟨n, o, h1, h2, h3, v, L, h4, h5, h6⟩ := hM p e ha hc hk s m args below hf happ hP hK
  exact ⟨n, o, h1, h2, h3, v, L, h4, q _ _ _ h5, h6⟩
/-- the call of a static method, by its contract -/
theorem Go.callS {own : String} {index : Nat} {y : MethodName} {bytes : ByteArray} {maxL : Nat} {ret : Option FieldType} {rm : Room} {argsL rest : List Value} {Q' : Option Value → Heap → List Loc → Prop} {W pc : Nat} {Ls : Array Slot} {st : List Value}
    (X : Stand p l e R s m args below meth c T locs cells slots) (hx : p.tables.exec = Jvm.exec) (hZ : Z.Warmed39 s.vm) (hown : s.vm.findClass own = some m.cls)
    (w1 : (Jvm.Cond.methodLink own index y).before a0 Z = true) (w2 : (Jvm.Cond.static y).before a0 Z = true) (w3 : (Jvm.Cond.initialized y.cls).before a0 Z = true) (w4 : (Jvm.Cond.code y bytes maxL ret).before a0 Z = true)
    (hy : y.cls ≠ "java/lang/invoke/MethodHandle" ∧ y.cls ≠ "java/lang/invoke/VarHandle") (hM : Met l Z y bytes maxL ret [] rm argsL.toArray h Q') (eT : T.heap = h)
    (hlen : ∀ sig, parseMethodDescriptor y.desc = some sig → argsL.length = sig.parameters.length) (hd : decode c.code pc = .ok (.invokestatic index, 3)) (hsize : Ls.size = c.maxLocals) (hst : st = argsL.reverse ++ rest) (hW : (rest.map fun v => v.category).sum ≤ W)
    (hf : rm.frames + 1 ≤ R.frames) (hl : W + (maxL + 11) + rm.locals ≤ R.locals) (hc : cells + rm.cells ≤ R.cells) (hs : slots + rm.slots ≤ R.slots)
    (k : ∀ v T' L, Stand p l e R s m args below meth c T' (locs ++ L) (cells + rm.cells) (slots + rm.slots) → Q' v T'.heap L → Go p e below s T' (mkF m (pc + 3) Ls (v.toList ++ rest)) Q kc ks) : Go p e below s T (mkF m pc Ls st) Q kc ks := by
  obtain ⟨v, vm₁, ⟨T1, L1, k1, n1⟩, -, X1, ⟨Lc, hQ1, l1, y1, z1⟩, st1⟩ := Jvm.LawKit.callS X hx (y := y) hown (mvT hZ w1) (mvT hZ w2) (mvT hZ w3) (mvT hZ w4) hy (backOf (W := W) hM hZ w4 w3 hf hl) (g := mkF m pc Ls st) rfl hsize (argsL := argsL) (rest := rest) hlen hst (by show 2 * 0 + _ ≤ _; omega) hd (fun _ _ => ⟨rfl, eT, hc, hs⟩)
  dsimp only [Pt.U, Pt.locs, Pt.cells, Pt.slots] at X1 l1 y1 z1 st1 hQ1
  subst l1 y1 z1
  exact Go.step st1 (k v T1 Lc X1 hQ1)
/-- the call of a constructor, by its contract -/
theorem Go.callI {own : String} {index : Nat} {y : MethodName} {bytes : ByteArray} {maxL : Nat} {rm : Room} {a : Addr} {argsL rest : List Value} {Q' : Option Value → Heap → List Loc → Prop} {W pc : Nat} {Ls : Array Slot} {st : List Value}
    (X : Stand p l e R s m args below meth c T locs cells slots) (hx : p.tables.exec = Jvm.exec) (hZ : Z.Warmed39 s.vm) (hown : s.vm.findClass own = some m.cls) (hy1 : y.name = "<init>")
    (w1 : (Jvm.Cond.methodLink own index y).before a0 Z = true) (w2 : (Jvm.Cond.instanceMethod y).before a0 Z = true) (w3 : (Jvm.Cond.initialized y.cls).before a0 Z = true) (w4 : (Jvm.Cond.code y bytes maxL none).before a0 Z = true)
    (hy : y.cls ≠ "java/lang/invoke/MethodHandle" ∧ y.cls ≠ "java/lang/invoke/VarHandle") (hM : Met l Z y bytes maxL none [] rm (.ref a :: argsL).toArray h Q') (eT : T.heap = h)
    (hlen : ∀ sig, parseMethodDescriptor y.desc = some sig → argsL.length = sig.parameters.length) (hd : decode c.code pc = .ok (.invokespecial index, 3)) (hsize : Ls.size = c.maxLocals) (hst : st = argsL.reverse ++ .ref a :: rest) (hW : (rest.map fun v => v.category).sum ≤ W)
    (hf : rm.frames + 1 ≤ R.frames) (hl : W + (maxL + 11) + rm.locals ≤ R.locals) (hc : cells + rm.cells ≤ R.cells) (hs : slots + rm.slots ≤ R.slots)
    (k : ∀ v T' L, Stand p l e R s m args below meth c T' (locs ++ L) (cells + rm.cells) (slots + rm.slots) → Q' v T'.heap L → Go p e below s T' (mkF m (pc + 3) Ls (v.toList ++ rest)) Q kc ks) : Go p e below s T (mkF m pc Ls st) Q kc ks := by
  obtain ⟨v, vm₁, ⟨T1, L1, k1, n1⟩, -, X1, ⟨Lc, hQ1, l1, y1, z1⟩, st1⟩ := X.specialBack hx (y := y) hy1 hown (mvT hZ w1) (mvT hZ w2) (mvT hZ w4) hy (backOf (W := W) hM hZ w4 w3 hf hl) (g := mkF m pc Ls st) rfl hsize (Steps.refl _) (a := a) (argsL := argsL) (rest := rest) hlen hst (by show 2 * 0 + _ ≤ _; omega) hd (fun _ _ => ⟨rfl, eT, hc, hs⟩)
  dsimp only [Pt.U, Pt.locs, Pt.cells, Pt.slots] at X1 l1 y1 z1 st1 hQ1
  subst l1 y1 z1
  exact Go.trans st1 (k v T1 Lc X1 hQ1)
/-- the call of an instance method, by its contract -/
theorem Go.callV {own C : String} {index : Nat} {y z : MethodName} {bytes : ByteArray} {maxL : Nat} {ret : Option FieldType} {rm : Room} {a : Addr} {argsL rest : List Value} {Q' : Option Value → Heap → List Loc → Prop} {W pc : Nat} {Ls : Array Slot} {st : List Value}
    (X : Stand p l e R s m args below meth c T locs cells slots) (hx : p.tables.exec = Jvm.exec) (hZ : Z.Warmed39 s.vm) (hown : s.vm.findClass own = some m.cls)
    (w1 : (Jvm.Cond.methodLink own index y).before a0 Z = true) (w2 : (Jvm.Cond.declares y).before a0 Z = true) (w5 : (Jvm.Cond.selects C y z).before a0 Z = true) (w6 : (Jvm.Cond.instanceMethod z).before a0 Z = true) (w3 : (Jvm.Cond.initialized z.cls).before a0 Z = true) (w4 : (Jvm.Cond.code z bytes maxL ret).before a0 Z = true)
    (nf : NotFace s y) (hy : y.cls ≠ "java/lang/invoke/MethodHandle" ∧ y.cls ≠ "java/lang/invoke/VarHandle") (E : Exa Z h a C) (hM : Met l Z z bytes maxL ret [] rm (.ref a :: argsL).toArray h Q') (eT : T.heap = h)
    (hlen : ∀ sig, parseMethodDescriptor y.desc = some sig → argsL.length = sig.parameters.length) (hd : decode c.code pc = .ok (.invokevirtual index, 3)) (hsize : Ls.size = c.maxLocals) (hst : st = argsL.reverse ++ .ref a :: rest) (hW : (rest.map fun v => v.category).sum ≤ W)
    (hf : rm.frames + 1 ≤ R.frames) (hl : W + (maxL + 11) + rm.locals ≤ R.locals) (hc : cells + rm.cells ≤ R.cells) (hs : slots + rm.slots ≤ R.slots)
    (k : ∀ v T' L, Stand p l e R s m args below meth c T' (locs ++ L) (cells + rm.cells) (slots + rm.slots) → Q' v T'.heap L → Go p e below s T' (mkF m (pc + 3) Ls (v.toList ++ rest)) Q kc ks) : Go p e below s T (mkF m pc Ls st) Q kc ks := by
  obtain ⟨cB, kB, q1, q2, q3⟩ := isOf hZ eT E
  obtain ⟨v, vm₁, ⟨T1, L1, k1, n1⟩, -, X1, ⟨Lc, hQ1, l1, y1, z1⟩, st1⟩ := X.virtualBack hx (y := y) (z := z) hown (mvT hZ w1) (mvT hZ w2) nf (mvT hZ w5) (mvT hZ w6) hy (backOf (W := W) hM hZ w4 w3 hf hl) q1 q3 (g := mkF m pc Ls st) rfl hsize (Steps.refl _) (argsL := argsL) (rest := rest) hlen hst (by show 2 * 0 + _ ≤ _; omega) hd (fun _ _ => ⟨rfl, eT, hc, hs⟩)
  dsimp only [Pt.U, Pt.locs, Pt.cells, Pt.slots] at X1 l1 y1 z1 st1 hQ1
  subst l1 y1 z1
  exact Go.trans st1 (k v T1 Lc X1 hQ1)
theorem Go.ldc {own : String} {index pc : Nat} {v : Int32} {Ls : Array Slot} {st : List Value} (X : Stand p l e R s m args below meth c T locs cells slots) (hx : p.tables.exec = Jvm.exec) (hZ : Z.Warmed39 s.vm) (hown : s.vm.findClass own = some m.cls) (w : (Jvm.Cond.constant own index v).before a0 Z = true) (hd : decode c.code pc = .ok (.ldc index, 2))
    (k : Go p e below s T (mkF m (pc + 2) Ls (.int v :: st)) Q kc ks) : Go p e below s T (mkF m pc Ls st) Q kc ks :=
  Go.step (fun _ => X.ldcI hx hown (mvT hZ w) (g := mkF m pc Ls st) rfl hd) k
theorem Go.ldcw {own : String} {index pc : Nat} {v : Int32} {Ls : Array Slot} {st : List Value} (X : Stand p l e R s m args below meth c T locs cells slots) (hx : p.tables.exec = Jvm.exec) (hZ : Z.Warmed39 s.vm) (hown : s.vm.findClass own = some m.cls) (w : (Jvm.Cond.constant own index v).before a0 Z = true) (hd : decode c.code pc = .ok (.ldc_w index, 3))
    (k : Go p e below s T (mkF m (pc + 3) Ls (.int v :: st)) Q kc ks) : Go p e below s T (mkF m pc Ls st) Q kc ks :=
  Go.step (fun _ => X.ldcWI hx hown (mvT hZ w) (g := mkF m pc Ls st) rfl hd) k
theorem Go.ldc2 {own : String} {index pc : Nat} {v : Int64} {Ls : Array Slot} {st : List Value} (X : Stand p l e R s m args below meth c T locs cells slots) (hx : p.tables.exec = Jvm.exec) (hZ : Z.Warmed39 s.vm) (hown : s.vm.findClass own = some m.cls) (w : (Jvm.Cond.constantLong own index v).before a0 Z = true) (hd : decode c.code pc = .ok (.ldc2_w index, 3))
    (k : Go p e below s T (mkF m (pc + 3) Ls (.long v :: st)) Q kc ks) : Go p e below s T (mkF m pc Ls st) Q kc ks :=
  Go.step (fun _ => X.ldc2J hx hown (mvT hZ w) (g := mkF m pc Ls st) rfl hd) k
end Base
end Jvm.OwnK
namespace Jvm.OwnK
open Sem ClassFile Op Lib Jvm.Free Jvm.Stand Jvm.LawKit Jvm.RoadKit
section Steps
variable {p : Program} {l : Launch} {e : Env} {R : Room} {s : State} {m : MethodId} {args : Array Value} {below : List Frame} {meth : Method} {c : Code} {T T' : State} {locs : List Loc} {cells slots : Nat} {Q : Option Value → Heap → List Loc → Prop} {kc ks : Nat} {Z : State} {a0 : Array Value} {h : Heap} {pc : Nat} {Ls : Array Slot} {rest : List Value}
theorem Go.iadd {x y : Int32} (X : Stand p l e R s m args below meth c T locs cells slots) (hx : p.tables.exec = Jvm.exec) (hd : decode c.code pc = .ok (.iadd, 1)) (k : Go p e below s T (mkF m (pc + 1) Ls (.int (x + y) :: rest)) Q kc ks) : Go p e below s T (mkF m pc Ls (.int y :: .int x :: rest)) Q kc ks :=
  Go.step (fun _ => XS.iadd X.here hx (g := mkF m pc Ls (.int y :: .int x :: rest)) rfl hd rfl) k
theorem Go.isub {x y : Int32} (X : Stand p l e R s m args below meth c T locs cells slots) (hx : p.tables.exec = Jvm.exec) (hd : decode c.code pc = .ok (.isub, 1)) (k : Go p e below s T (mkF m (pc + 1) Ls (.int (x - y) :: rest)) Q kc ks) : Go p e below s T (mkF m pc Ls (.int y :: .int x :: rest)) Q kc ks :=
  Go.step (fun _ => XS.isub X.here hx (g := mkF m pc Ls (.int y :: .int x :: rest)) rfl hd rfl) k
theorem Go.iand {x y : Int32} (X : Stand p l e R s m args below meth c T locs cells slots) (hx : p.tables.exec = Jvm.exec) (hd : decode c.code pc = .ok (.iand, 1)) (k : Go p e below s T (mkF m (pc + 1) Ls (.int (x &&& y) :: rest)) Q kc ks) : Go p e below s T (mkF m pc Ls (.int y :: .int x :: rest)) Q kc ks :=
  Go.step (fun _ => XS.iand X.here hx (g := mkF m pc Ls (.int y :: .int x :: rest)) rfl hd rfl) k
theorem Go.imul {x y : Int32} (X : Stand p l e R s m args below meth c T locs cells slots) (hx : p.tables.exec = Jvm.exec) (hd : decode c.code pc = .ok (.imul, 1)) (k : Go p e below s T (mkF m (pc + 1) Ls (.int (x * y) :: rest)) Q kc ks) : Go p e below s T (mkF m pc Ls (.int y :: .int x :: rest)) Q kc ks :=
  Go.step (fun _ => XS.imul X.here hx (g := mkF m pc Ls (.int y :: .int x :: rest)) rfl hd rfl) k
theorem Go.ixor {x y : Int32} (X : Stand p l e R s m args below meth c T locs cells slots) (hx : p.tables.exec = Jvm.exec) (hd : decode c.code pc = .ok (.ixor, 1)) (k : Go p e below s T (mkF m (pc + 1) Ls (.int (x ^^^ y) :: rest)) Q kc ks) : Go p e below s T (mkF m pc Ls (.int y :: .int x :: rest)) Q kc ks :=
  Go.step (fun _ => XT.ixor X.here hx (g := mkF m pc Ls (.int y :: .int x :: rest)) rfl hd rfl) k
theorem Go.ior {x y : Int32} (X : Stand p l e R s m args below meth c T locs cells slots) (hx : p.tables.exec = Jvm.exec) (hd : decode c.code pc = .ok (.ior, 1)) (k : Go p e below s T (mkF m (pc + 1) Ls (.int (x ||| y) :: rest)) Q kc ks) : Go p e below s T (mkF m pc Ls (.int y :: .int x :: rest)) Q kc ks :=
  Go.step (fun _ => XT.ior X.here hx (g := mkF m pc Ls (.int y :: .int x :: rest)) rfl hd rfl) k
theorem Go.ishl {x y : Int32} (X : Stand p l e R s m args below meth c T locs cells slots) (hx : p.tables.exec = Jvm.exec) (hd : decode c.code pc = .ok (.ishl, 1)) (k : Go p e below s T (mkF m (pc + 1) Ls (.int (x <<< (y &&& 31)) :: rest)) Q kc ks) : Go p e below s T (mkF m pc Ls (.int y :: .int x :: rest)) Q kc ks :=
  Go.step (fun _ => XT.ishl X.here hx (g := mkF m pc Ls (.int y :: .int x :: rest)) rfl hd rfl) k
theorem Go.ishr {x y : Int32} (X : Stand p l e R s m args below meth c T locs cells slots) (hx : p.tables.exec = Jvm.exec) (hd : decode c.code pc = .ok (.ishr, 1)) (k : Go p e below s T (mkF m (pc + 1) Ls (.int (x >>> (y &&& 31)) :: rest)) Q kc ks) : Go p e below s T (mkF m pc Ls (.int y :: .int x :: rest)) Q kc ks :=
  Go.step (fun _ => XT.ishr X.here hx (g := mkF m pc Ls (.int y :: .int x :: rest)) rfl hd rfl) k
theorem Go.iushr {x y : Int32} (X : Stand p l e R s m args below meth c T locs cells slots) (hx : p.tables.exec = Jvm.exec) (hd : decode c.code pc = .ok (.iushr, 1)) (k : Go p e below s T (mkF m (pc + 1) Ls (.int (XT.ushr x y) :: rest)) Q kc ks) : Go p e below s T (mkF m pc Ls (.int y :: .int x :: rest)) Q kc ks :=
  Go.step (fun _ => XT.iushr X.here hx (g := mkF m pc Ls (.int y :: .int x :: rest)) rfl hd rfl) k
theorem Go.idiv {x y : Int32} (X : Stand p l e R s m args below meth c T locs cells slots) (hx : p.tables.exec = Jvm.exec) (hd : decode c.code pc = .ok (.idiv, 1)) (hy : y ≠ 0) (k : Go p e below s T (mkF m (pc + 1) Ls (.int (x / y) :: rest)) Q kc ks) : Go p e below s T (mkF m pc Ls (.int y :: .int x :: rest)) Q kc ks :=
  Go.step (fun _ => XS.idiv X.here hx (g := mkF m pc Ls (.int y :: .int x :: rest)) rfl hd rfl hy) k
theorem Go.irem {x y : Int32} (X : Stand p l e R s m args below meth c T locs cells slots) (hx : p.tables.exec = Jvm.exec) (hd : decode c.code pc = .ok (.irem, 1)) (hy : y ≠ 0) (k : Go p e below s T (mkF m (pc + 1) Ls (.int (x % y) :: rest)) Q kc ks) : Go p e below s T (mkF m pc Ls (.int y :: .int x :: rest)) Q kc ks :=
  Go.step (fun _ => iremM X hx (g := mkF m pc Ls (.int y :: .int x :: rest)) rfl hd rfl hy) k
theorem Go.ladd {x y : Int64} (X : Stand p l e R s m args below meth c T locs cells slots) (hx : p.tables.exec = Jvm.exec) (hd : decode c.code pc = .ok (.ladd, 1)) (k : Go p e below s T (mkF m (pc + 1) Ls (.long (x + y) :: rest)) Q kc ks) : Go p e below s T (mkF m pc Ls (.long y :: .long x :: rest)) Q kc ks :=
  Go.step (fun _ => XT.ladd X.here hx (g := mkF m pc Ls (.long y :: .long x :: rest)) rfl hd rfl) k
theorem Go.lsub {x y : Int64} (X : Stand p l e R s m args below meth c T locs cells slots) (hx : p.tables.exec = Jvm.exec) (hd : decode c.code pc = .ok (.lsub, 1)) (k : Go p e below s T (mkF m (pc + 1) Ls (.long (x - y) :: rest)) Q kc ks) : Go p e below s T (mkF m pc Ls (.long y :: .long x :: rest)) Q kc ks :=
  Go.step (fun _ => XT.lsub X.here hx (g := mkF m pc Ls (.long y :: .long x :: rest)) rfl hd rfl) k
theorem Go.lmul {x y : Int64} (X : Stand p l e R s m args below meth c T locs cells slots) (hx : p.tables.exec = Jvm.exec) (hd : decode c.code pc = .ok (.lmul, 1)) (k : Go p e below s T (mkF m (pc + 1) Ls (.long (x * y) :: rest)) Q kc ks) : Go p e below s T (mkF m pc Ls (.long y :: .long x :: rest)) Q kc ks :=
  Go.step (fun _ => XT.lmul X.here hx (g := mkF m pc Ls (.long y :: .long x :: rest)) rfl hd rfl) k
theorem Go.land {x y : Int64} (X : Stand p l e R s m args below meth c T locs cells slots) (hx : p.tables.exec = Jvm.exec) (hd : decode c.code pc = .ok (.land, 1)) (k : Go p e below s T (mkF m (pc + 1) Ls (.long (x &&& y) :: rest)) Q kc ks) : Go p e below s T (mkF m pc Ls (.long y :: .long x :: rest)) Q kc ks :=
  Go.step (fun _ => XT.land X.here hx (g := mkF m pc Ls (.long y :: .long x :: rest)) rfl hd rfl) k
theorem Go.lor {x y : Int64} (X : Stand p l e R s m args below meth c T locs cells slots) (hx : p.tables.exec = Jvm.exec) (hd : decode c.code pc = .ok (.lor, 1)) (k : Go p e below s T (mkF m (pc + 1) Ls (.long (x ||| y) :: rest)) Q kc ks) : Go p e below s T (mkF m pc Ls (.long y :: .long x :: rest)) Q kc ks :=
  Go.step (fun _ => XT.lor X.here hx (g := mkF m pc Ls (.long y :: .long x :: rest)) rfl hd rfl) k
theorem Go.lxor {x y : Int64} (X : Stand p l e R s m args below meth c T locs cells slots) (hx : p.tables.exec = Jvm.exec) (hd : decode c.code pc = .ok (.lxor, 1)) (k : Go p e below s T (mkF m (pc + 1) Ls (.long (x ^^^ y) :: rest)) Q kc ks) : Go p e below s T (mkF m pc Ls (.long y :: .long x :: rest)) Q kc ks :=
  Go.step (fun _ => XT.lxor X.here hx (g := mkF m pc Ls (.long y :: .long x :: rest)) rfl hd rfl) k
theorem Go.lcmp {x y : Int64} (X : Stand p l e R s m args below meth c T locs cells slots) (hx : p.tables.exec = Jvm.exec) (hd : decode c.code pc = .ok (.lcmp, 1)) (k : Go p e below s T (mkF m (pc + 1) Ls (.int (XT.cmpL x y) :: rest)) Q kc ks) : Go p e below s T (mkF m pc Ls (.long y :: .long x :: rest)) Q kc ks :=
  Go.step (fun _ => XT.lcmp X.here hx (g := mkF m pc Ls (.long y :: .long x :: rest)) rfl hd rfl) k
theorem Go.lshl {x : Int64} {y : Int32} (X : Stand p l e R s m args below meth c T locs cells slots) (hx : p.tables.exec = Jvm.exec) (hd : decode c.code pc = .ok (.lshl, 1)) (k : Go p e below s T (mkF m (pc + 1) Ls (.long (x <<< (y.toInt64 &&& 63)) :: rest)) Q kc ks) : Go p e below s T (mkF m pc Ls (.int y :: .long x :: rest)) Q kc ks :=
  Go.step (fun _ => XT.lshl X.here hx (g := mkF m pc Ls (.int y :: .long x :: rest)) rfl hd rfl) k
theorem Go.lshr {x : Int64} {y : Int32} (X : Stand p l e R s m args below meth c T locs cells slots) (hx : p.tables.exec = Jvm.exec) (hd : decode c.code pc = .ok (.lshr, 1)) (k : Go p e below s T (mkF m (pc + 1) Ls (.long (x >>> (y.toInt64 &&& 63)) :: rest)) Q kc ks) : Go p e below s T (mkF m pc Ls (.int y :: .long x :: rest)) Q kc ks :=
  Go.step (fun _ => XT.lshr X.here hx (g := mkF m pc Ls (.int y :: .long x :: rest)) rfl hd rfl) k
theorem Go.lushr {x : Int64} {y : Int32} (X : Stand p l e R s m args below meth c T locs cells slots) (hx : p.tables.exec = Jvm.exec) (hd : decode c.code pc = .ok (.lushr, 1)) (k : Go p e below s T (mkF m (pc + 1) Ls (.long (XT.ushrL x y) :: rest)) Q kc ks) : Go p e below s T (mkF m pc Ls (.int y :: .long x :: rest)) Q kc ks :=
  Go.step (fun _ => XT.lushr X.here hx (g := mkF m pc Ls (.int y :: .long x :: rest)) rfl hd rfl) k
theorem Go.i2b {x : Int32} (X : Stand p l e R s m args below meth c T locs cells slots) (hx : p.tables.exec = Jvm.exec) (hd : decode c.code pc = .ok (.i2b, 1)) (k : Go p e below s T (mkF m (pc + 1) Ls (.int (x.toInt8.toInt32) :: rest)) Q kc ks) : Go p e below s T (mkF m pc Ls (.int x :: rest)) Q kc ks :=
  Go.step (fun _ => XT.i2b X.here hx (g := mkF m pc Ls (.int x :: rest)) rfl hd rfl) k
theorem Go.i2c {x : Int32} (X : Stand p l e R s m args below meth c T locs cells slots) (hx : p.tables.exec = Jvm.exec) (hd : decode c.code pc = .ok (.i2c, 1)) (k : Go p e below s T (mkF m (pc + 1) Ls (.int (x.toUInt32.toUInt16.toUInt32.toInt32) :: rest)) Q kc ks) : Go p e below s T (mkF m pc Ls (.int x :: rest)) Q kc ks :=
  Go.step (fun _ => XT.i2c X.here hx (g := mkF m pc Ls (.int x :: rest)) rfl hd rfl) k
theorem Go.i2s {x : Int32} (X : Stand p l e R s m args below meth c T locs cells slots) (hx : p.tables.exec = Jvm.exec) (hd : decode c.code pc = .ok (.i2s, 1)) (k : Go p e below s T (mkF m (pc + 1) Ls (.int (x.toInt16.toInt32) :: rest)) Q kc ks) : Go p e below s T (mkF m pc Ls (.int x :: rest)) Q kc ks :=
  Go.step (fun _ => XT.i2s X.here hx (g := mkF m pc Ls (.int x :: rest)) rfl hd rfl) k
theorem Go.i2l {x : Int32} (X : Stand p l e R s m args below meth c T locs cells slots) (hx : p.tables.exec = Jvm.exec) (hd : decode c.code pc = .ok (.i2l, 1)) (k : Go p e below s T (mkF m (pc + 1) Ls (.long (x.toInt64) :: rest)) Q kc ks) : Go p e below s T (mkF m pc Ls (.int x :: rest)) Q kc ks :=
  Go.step (fun _ => XT.i2l X.here hx (g := mkF m pc Ls (.int x :: rest)) rfl hd rfl) k
theorem Go.ineg {x : Int32} (X : Stand p l e R s m args below meth c T locs cells slots) (hx : p.tables.exec = Jvm.exec) (hd : decode c.code pc = .ok (.ineg, 1)) (k : Go p e below s T (mkF m (pc + 1) Ls (.int (-x) :: rest)) Q kc ks) : Go p e below s T (mkF m pc Ls (.int x :: rest)) Q kc ks :=
  Go.step (fun _ => XS.ineg X.here hx (g := mkF m pc Ls (.int x :: rest)) rfl hd rfl) k
theorem Go.l2i {x : Int64} (X : Stand p l e R s m args below meth c T locs cells slots) (hx : p.tables.exec = Jvm.exec) (hd : decode c.code pc = .ok (.l2i, 1)) (k : Go p e below s T (mkF m (pc + 1) Ls (.int (x.toInt32) :: rest)) Q kc ks) : Go p e below s T (mkF m pc Ls (.long x :: rest)) Q kc ks :=
  Go.step (fun _ => XT.l2i X.here hx (g := mkF m pc Ls (.long x :: rest)) rfl hd rfl) k
theorem Go.iconst {i : Int} (X : Stand p l e R s m args below meth c T locs cells slots) (hx : p.tables.exec = Jvm.exec) (hd : decode c.code pc = .ok (.iconst i, 1)) (k : Go p e below s T (mkF m (pc + 1) Ls (.int (Int32.ofInt i) :: rest)) Q kc ks) : Go p e below s T (mkF m pc Ls rest) Q kc ks :=
  Go.step (fun _ => XS.iconst X.here hx (g := mkF m pc Ls rest) rfl hd) k
theorem Go.bipush {i : Int} (X : Stand p l e R s m args below meth c T locs cells slots) (hx : p.tables.exec = Jvm.exec) (hd : decode c.code pc = .ok (.bipush i, 2)) (k : Go p e below s T (mkF m (pc + 2) Ls (.int (Int8.ofInt i).toInt32 :: rest)) Q kc ks) : Go p e below s T (mkF m pc Ls rest) Q kc ks :=
  Go.step (fun _ => XS.bipush X.here hx (g := mkF m pc Ls rest) rfl hd) k
theorem Go.sipush {i : Int} (X : Stand p l e R s m args below meth c T locs cells slots) (hx : p.tables.exec = Jvm.exec) (hd : decode c.code pc = .ok (.sipush i, 3)) (k : Go p e below s T (mkF m (pc + 3) Ls (.int (Int16.ofInt i).toInt32 :: rest)) Q kc ks) : Go p e below s T (mkF m pc Ls rest) Q kc ks :=
  Go.step (fun _ => XS.sipush X.here hx (g := mkF m pc Ls rest) rfl hd) k
theorem Go.lconst {k0 : Fin 2} (X : Stand p l e R s m args below meth c T locs cells slots) (hx : p.tables.exec = Jvm.exec) (hd : decode c.code pc = .ok (.lconst k0, 1)) (k : Go p e below s T (mkF m (pc + 1) Ls (.long (Int64.ofNat k0) :: rest)) Q kc ks) : Go p e below s T (mkF m pc Ls rest) Q kc ks :=
  Go.step (fun _ => XT.lconst X.here hx (g := mkF m pc Ls rest) rfl hd) k
theorem Go.aconst_null (X : Stand p l e R s m args below meth c T locs cells slots) (hx : p.tables.exec = Jvm.exec) (hd : decode c.code pc = .ok (.aconst_null, 1)) (k : Go p e below s T (mkF m (pc + 1) Ls (.null :: rest)) Q kc ks) : Go p e below s T (mkF m pc Ls rest) Q kc ks :=
  Go.step (fun _ => XS.aconstNull X.here hx (g := mkF m pc Ls rest) rfl hd) k
theorem Go.iload {k0 : Nat} {v : Int32} (X : Stand p l e R s m args below meth c T locs cells slots) (hx : p.tables.exec = Jvm.exec) (hd : decode c.code pc = .ok (.iload k0, 2)) (hl : Ls[k0]? = some (.val (.int v))) (k : Go p e below s T (mkF m (pc + 2) Ls (.int v :: rest)) Q kc ks) : Go p e below s T (mkF m pc Ls rest) Q kc ks :=
  Go.step (fun _ => XS.iload X.here hx (g := mkF m pc Ls rest) rfl hd hl) k
theorem Go.iloadN {k0 : Fin 4} {v : Int32} (X : Stand p l e R s m args below meth c T locs cells slots) (hx : p.tables.exec = Jvm.exec) (hd : decode c.code pc = .ok (.iload_n k0, 1)) (hl : Ls[k0.val]? = some (.val (.int v))) (k : Go p e below s T (mkF m (pc + 1) Ls (.int v :: rest)) Q kc ks) : Go p e below s T (mkF m pc Ls rest) Q kc ks :=
  Go.step (fun _ => XS.iloadN X.here hx (g := mkF m pc Ls rest) rfl hd hl) k
theorem Go.istore {k0 : Nat} {v : Int32} {l' : Array Slot} (X : Stand p l e R s m args below meth c T locs cells slots) (hx : p.tables.exec = Jvm.exec) (hd : decode c.code pc = .ok (.istore k0, 2)) (hl : storeLocals Ls k0 (.int v) = some l') (k : Go p e below s T (mkF m (pc + 2) l' rest) Q kc ks) : Go p e below s T (mkF m pc Ls (.int v :: rest)) Q kc ks :=
  Go.step (fun _ => XS.istore X.here hx (g := mkF m pc Ls (.int v :: rest)) rfl hd rfl hl) k
theorem Go.istoreN {k0 : Fin 4} {v : Int32} {l' : Array Slot} (X : Stand p l e R s m args below meth c T locs cells slots) (hx : p.tables.exec = Jvm.exec) (hd : decode c.code pc = .ok (.istore_n k0, 1)) (hl : storeLocals Ls k0.val (.int v) = some l') (k : Go p e below s T (mkF m (pc + 1) l' rest) Q kc ks) : Go p e below s T (mkF m pc Ls (.int v :: rest)) Q kc ks :=
  Go.step (fun _ => XS.istoreN X.here hx (g := mkF m pc Ls (.int v :: rest)) rfl hd rfl hl) k
theorem Go.lload {k0 : Nat} {v : Int64} (X : Stand p l e R s m args below meth c T locs cells slots) (hx : p.tables.exec = Jvm.exec) (hd : decode c.code pc = .ok (.lload k0, 2)) (hl : Ls[k0]? = some (.val (.long v))) (k : Go p e below s T (mkF m (pc + 2) Ls (.long v :: rest)) Q kc ks) : Go p e below s T (mkF m pc Ls rest) Q kc ks :=
  Go.step (fun _ => XT.lload X.here hx (g := mkF m pc Ls rest) rfl hd hl) k
theorem Go.lloadN {k0 : Fin 4} {v : Int64} (X : Stand p l e R s m args below meth c T locs cells slots) (hx : p.tables.exec = Jvm.exec) (hd : decode c.code pc = .ok (.lload_n k0, 1)) (hl : Ls[k0.val]? = some (.val (.long v))) (k : Go p e below s T (mkF m (pc + 1) Ls (.long v :: rest)) Q kc ks) : Go p e below s T (mkF m pc Ls rest) Q kc ks :=
  Go.step (fun _ => XT.lloadN X.here hx (g := mkF m pc Ls rest) rfl hd hl) k
theorem Go.lstore {k0 : Nat} {v : Int64} {l' : Array Slot} (X : Stand p l e R s m args below meth c T locs cells slots) (hx : p.tables.exec = Jvm.exec) (hd : decode c.code pc = .ok (.lstore k0, 2)) (hl : storeLocals Ls k0 (.long v) = some l') (k : Go p e below s T (mkF m (pc + 2) l' rest) Q kc ks) : Go p e below s T (mkF m pc Ls (.long v :: rest)) Q kc ks :=
  Go.step (fun _ => XT.lstore X.here hx (g := mkF m pc Ls (.long v :: rest)) rfl hd rfl hl) k
theorem Go.lstoreN {k0 : Fin 4} {v : Int64} {l' : Array Slot} (X : Stand p l e R s m args below meth c T locs cells slots) (hx : p.tables.exec = Jvm.exec) (hd : decode c.code pc = .ok (.lstore_n k0, 1)) (hl : storeLocals Ls k0.val (.long v) = some l') (k : Go p e below s T (mkF m (pc + 1) l' rest) Q kc ks) : Go p e below s T (mkF m pc Ls (.long v :: rest)) Q kc ks :=
  Go.step (fun _ => XT.lstoreN X.here hx (g := mkF m pc Ls (.long v :: rest)) rfl hd rfl hl) k
theorem Go.aload {k0 : Nat} {v : Value} (X : Stand p l e R s m args below meth c T locs cells slots) (hx : p.tables.exec = Jvm.exec) (hd : decode c.code pc = .ok (.aload k0, 2)) (hl : Ls[k0]? = some (.val v)) (hv : v.isRef = true) (k : Go p e below s T (mkF m (pc + 2) Ls (v :: rest)) Q kc ks) : Go p e below s T (mkF m pc Ls rest) Q kc ks :=
  Go.step (fun _ => XS.aload X.here hx (g := mkF m pc Ls rest) rfl hd hl hv) k
theorem Go.aloadN {k0 : Fin 4} {v : Value} (X : Stand p l e R s m args below meth c T locs cells slots) (hx : p.tables.exec = Jvm.exec) (hd : decode c.code pc = .ok (.aload_n k0, 1)) (hl : Ls[k0.val]? = some (.val v)) (hv : v.isRef = true) (k : Go p e below s T (mkF m (pc + 1) Ls (v :: rest)) Q kc ks) : Go p e below s T (mkF m pc Ls rest) Q kc ks :=
  Go.step (fun _ => XS.aloadN X.here hx (g := mkF m pc Ls rest) rfl hd hl hv) k
theorem Go.astore {k0 : Nat} {v : Value} {l' : Array Slot} (X : Stand p l e R s m args below meth c T locs cells slots) (hx : p.tables.exec = Jvm.exec) (hd : decode c.code pc = .ok (.astore k0, 2)) (hv : v.isRef = true) (hl : storeLocals Ls k0 v = some l') (k : Go p e below s T (mkF m (pc + 2) l' rest) Q kc ks) : Go p e below s T (mkF m pc Ls (v :: rest)) Q kc ks :=
  Go.step (fun _ => XS.astore X.here hx (g := mkF m pc Ls (v :: rest)) rfl hd rfl hv hl) k
theorem Go.astoreN {k0 : Fin 4} {v : Value} {l' : Array Slot} (X : Stand p l e R s m args below meth c T locs cells slots) (hx : p.tables.exec = Jvm.exec) (hd : decode c.code pc = .ok (.astore_n k0, 1)) (hv : v.isRef = true) (hl : storeLocals Ls k0.val v = some l') (k : Go p e below s T (mkF m (pc + 1) l' rest) Q kc ks) : Go p e below s T (mkF m pc Ls (v :: rest)) Q kc ks :=
  Go.step (fun _ => XS.astoreN X.here hx (g := mkF m pc Ls (v :: rest)) rfl hd rfl hv hl) k
theorem Go.iinc {k0 : Nat} {cst : Int} {x : Int32} {l' : Array Slot} (X : Stand p l e R s m args below meth c T locs cells slots) (hx : p.tables.exec = Jvm.exec) (hd : decode c.code pc = .ok (.iinc k0 cst, 3)) (hl : Ls[k0]? = some (.val (.int x))) (hs : storeLocals Ls k0 (.int (x + Int32.ofInt cst)) = some l') (k : Go p e below s T (mkF m (pc + 3) l' rest) Q kc ks) : Go p e below s T (mkF m pc Ls rest) Q kc ks :=
  Go.step (fun _ => XS.iinc X.here hx (g := mkF m pc Ls rest) rfl hd hl hs) k
theorem Go.dup {v : Value} (X : Stand p l e R s m args below meth c T locs cells slots) (hx : p.tables.exec = Jvm.exec) (hd : decode c.code pc = .ok (.dup, 1)) (hv : v.category = 1) (k : Go p e below s T (mkF m (pc + 1) Ls (v :: v :: rest)) Q kc ks) : Go p e below s T (mkF m pc Ls (v :: rest)) Q kc ks :=
  Go.step (fun _ => XS.dup X.here hx (g := mkF m pc Ls (v :: rest)) rfl hd rfl hv) k
theorem Go.pop {v : Value} (X : Stand p l e R s m args below meth c T locs cells slots) (hx : p.tables.exec = Jvm.exec) (hd : decode c.code pc = .ok (.pop, 1)) (hv : v.category = 1) (k : Go p e below s T (mkF m (pc + 1) Ls rest) Q kc ks) : Go p e below s T (mkF m pc Ls (v :: rest)) Q kc ks :=
  Go.step (fun _ => XT.pop X.here hx (g := mkF m pc Ls (v :: rest)) rfl hd rfl hv) k
theorem Go.dup_x1 {v w : Value} (X : Stand p l e R s m args below meth c T locs cells slots) (hx : p.tables.exec = Jvm.exec) (hd : decode c.code pc = .ok (.dup_x1, 1)) (hv : v.category = 1) (hw' : w.category = 1) (k : Go p e below s T (mkF m (pc + 1) Ls (v :: w :: v :: rest)) Q kc ks) : Go p e below s T (mkF m pc Ls (v :: w :: rest)) Q kc ks :=
  Go.step (fun _ => XT.dupX1 X.here hx (g := mkF m pc Ls (v :: w :: rest)) rfl hd rfl hv hw') k
theorem Go.dup2 {v w : Value} (X : Stand p l e R s m args below meth c T locs cells slots) (hx : p.tables.exec = Jvm.exec) (hd : decode c.code pc = .ok (.dup2, 1)) (hv : v.category = 1) (hw' : w.category = 1) (k : Go p e below s T (mkF m (pc + 1) Ls (v :: w :: v :: w :: rest)) Q kc ks) : Go p e below s T (mkF m pc Ls (v :: w :: rest)) Q kc ks :=
  Go.step (fun _ => XT.dup2 X.here hx (g := mkF m pc Ls (v :: w :: rest)) rfl hd rfl hv hw') k
theorem Go.goto {o : Int} {pc' : Nat} (X : Stand p l e R s m args below meth c T locs cells slots) (hx : p.tables.exec = Jvm.exec) (hd : decode c.code pc = .ok (.goto o, 3)) (ho : 0 ≤ (pc : Int) + o) (hp : ((pc : Int) + o).toNat = pc') (k : Go p e below s T (mkF m pc' Ls rest) Q kc ks) : Go p e below s T (mkF m pc Ls rest) Q kc ks :=
  Go.step (fun _ => XS.goto X.here hx (g := mkF m pc Ls rest) rfl rfl hd ho hp) k
theorem Go.ifYes {cd : ClassFile.Cond} {x : Int32} {o : Int} {pc' : Nat} (X : Stand p l e R s m args below meth c T locs cells slots) (hx : p.tables.exec = Jvm.exec) (hd : decode c.code pc = .ok (.ifCond cd o, 3)) (hc : ifCond.holds cd x = true) (ho : 0 ≤ (pc : Int) + o) (hp : ((pc : Int) + o).toNat = pc') (k : Go p e below s T (mkF m pc' Ls rest) Q kc ks) : Go p e below s T (mkF m pc Ls (.int x :: rest)) Q kc ks :=
  Go.step (fun _ => XS.ifYes X.here hx (g := mkF m pc Ls (.int x :: rest)) rfl rfl hd rfl hc ho hp) k
theorem Go.ifNo {cd : ClassFile.Cond} {x : Int32} {o : Int} (X : Stand p l e R s m args below meth c T locs cells slots) (hx : p.tables.exec = Jvm.exec) (hd : decode c.code pc = .ok (.ifCond cd o, 3)) (hc : ifCond.holds cd x = false) (k : Go p e below s T (mkF m (pc + 3) Ls rest) Q kc ks) : Go p e below s T (mkF m pc Ls (.int x :: rest)) Q kc ks :=
  Go.step (fun _ => XS.ifNo X.here hx (g := mkF m pc Ls (.int x :: rest)) rfl hd rfl hc) k
theorem Go.icmpYes {cd : ClassFile.Cond} {x y : Int32} {o : Int} {pc' : Nat} (X : Stand p l e R s m args below meth c T locs cells slots) (hx : p.tables.exec = Jvm.exec) (hd : decode c.code pc = .ok (.if_icmp cd o, 3)) (hc : if_icmp.holds cd x y = true) (ho : 0 ≤ (pc : Int) + o) (hp : ((pc : Int) + o).toNat = pc') (k : Go p e below s T (mkF m pc' Ls rest) Q kc ks) : Go p e below s T (mkF m pc Ls (.int y :: .int x :: rest)) Q kc ks :=
  Go.step (fun _ => XS.icmpYes X.here hx (g := mkF m pc Ls (.int y :: .int x :: rest)) rfl rfl hd rfl hc ho hp) k
theorem Go.icmpNo {cd : ClassFile.Cond} {x y : Int32} {o : Int} (X : Stand p l e R s m args below meth c T locs cells slots) (hx : p.tables.exec = Jvm.exec) (hd : decode c.code pc = .ok (.if_icmp cd o, 3)) (hc : if_icmp.holds cd x y = false) (k : Go p e below s T (mkF m (pc + 3) Ls rest) Q kc ks) : Go p e below s T (mkF m pc Ls (.int y :: .int x :: rest)) Q kc ks :=
  Go.step (fun _ => XS.icmpNo X.here hx (g := mkF m pc Ls (.int y :: .int x :: rest)) rfl hd rfl hc) k
theorem Go.acmpYes {cd : ClassFile.ACond} {x y : Value} {o : Int} {pc' : Nat} (X : Stand p l e R s m args below meth c T locs cells slots) (hx : p.tables.exec = Jvm.exec) (hd : decode c.code pc = .ok (.if_acmp cd o, 3)) (h1 : x.isRef = true) (h2 : y.isRef = true) (hc : XT.acmp cd x y = true) (ho : 0 ≤ (pc : Int) + o) (hp : ((pc : Int) + o).toNat = pc') (k : Go p e below s T (mkF m pc' Ls rest) Q kc ks) : Go p e below s T (mkF m pc Ls (y :: x :: rest)) Q kc ks :=
  Go.step (fun _ => XT.acmpYes X.here hx (g := mkF m pc Ls (y :: x :: rest)) rfl rfl hd rfl h1 h2 hc ho hp) k
theorem Go.acmpNo {cd : ClassFile.ACond} {x y : Value} {o : Int} (X : Stand p l e R s m args below meth c T locs cells slots) (hx : p.tables.exec = Jvm.exec) (hd : decode c.code pc = .ok (.if_acmp cd o, 3)) (h1 : x.isRef = true) (h2 : y.isRef = true) (hc : XT.acmp cd x y = false) (k : Go p e below s T (mkF m (pc + 3) Ls rest) Q kc ks) : Go p e below s T (mkF m pc Ls (y :: x :: rest)) Q kc ks :=
  Go.step (fun _ => XT.acmpNo X.here hx (g := mkF m pc Ls (y :: x :: rest)) rfl hd rfl h1 h2 hc) k
theorem Go.ifnullYes {a : Addr} {o : Int} {pc' : Nat} (X : Stand p l e R s m args below meth c T locs cells slots) (hx : p.tables.exec = Jvm.exec) (hd : decode c.code pc = .ok (.ifnull o, 3)) (ho : 0 ≤ (pc : Int) + o) (hp : ((pc : Int) + o).toNat = pc') (k : Go p e below s T (mkF m pc' Ls rest) Q kc ks) : Go p e below s T (mkF m pc Ls (.null :: rest)) Q kc ks :=
  Go.step (fun _ => XS.ifnullYes X.here hx (g := mkF m pc Ls (.null :: rest)) rfl rfl hd rfl ho hp) k
theorem Go.ifnullNo {a : Addr} {o : Int} (X : Stand p l e R s m args below meth c T locs cells slots) (hx : p.tables.exec = Jvm.exec) (hd : decode c.code pc = .ok (.ifnull o, 3)) (k : Go p e below s T (mkF m (pc + 3) Ls rest) Q kc ks) : Go p e below s T (mkF m pc Ls (.ref a :: rest)) Q kc ks :=
  Go.step (fun _ => XS.ifnullNo X.here hx (g := mkF m pc Ls (.ref a :: rest)) rfl hd rfl) k
theorem Go.ifnonnullYes {a : Addr} {o : Int} {pc' : Nat} (X : Stand p l e R s m args below meth c T locs cells slots) (hx : p.tables.exec = Jvm.exec) (hd : decode c.code pc = .ok (.ifnonnull o, 3)) (ho : 0 ≤ (pc : Int) + o) (hp : ((pc : Int) + o).toNat = pc') (k : Go p e below s T (mkF m pc' Ls rest) Q kc ks) : Go p e below s T (mkF m pc Ls (.ref a :: rest)) Q kc ks :=
  Go.step (fun _ => XT.ifnonnullYes X.here hx (g := mkF m pc Ls (.ref a :: rest)) rfl rfl hd rfl ho hp) k
theorem Go.ifnonnullNo {a : Addr} {o : Int} (X : Stand p l e R s m args below meth c T locs cells slots) (hx : p.tables.exec = Jvm.exec) (hd : decode c.code pc = .ok (.ifnonnull o, 3)) (k : Go p e below s T (mkF m (pc + 3) Ls rest) Q kc ks) : Go p e below s T (mkF m pc Ls (.null :: rest)) Q kc ks :=
  Go.step (fun _ => XT.ifnonnullNo X.here hx (g := mkF m pc Ls (.null :: rest)) rfl hd rfl) k
end Steps
section Conds
variable {x y : Int32} {u v : Int64} {a b : Addr}
theorem ac_eq_p (h : a = b) : XT.acmp .eq (.ref a) (.ref b) = true := by simp [XT.acmp, h]
theorem ac_eq_n (h : ¬ a = b) : XT.acmp .eq (.ref a) (.ref b) = false := by simp [XT.acmp, h]
theorem ac_ne_p (h : a = b) : XT.acmp .ne (.ref a) (.ref b) = false := by simp [XT.acmp, h]
theorem ac_ne_n (h : ¬ a = b) : XT.acmp .ne (.ref a) (.ref b) = true := by simp [XT.acmp, h]
end Conds
end Jvm.OwnK
namespace Jvm.OwnK
open Sem ClassFile Op Lib Jvm.Free Jvm.Stand Jvm.LawKit Jvm.RoadKit
section Heap
variable {p : Program} {l : Launch} {e : Env} {R : Room} {s : State} {m : MethodId} {args : Array Value} {below : List Frame} {meth : Method} {c : Code} {T T' : State} {locs : List Loc} {cells slots : Nat} {Q : Option Value → Heap → List Loc → Prop} {kc ks : Nat} {Z : State} {a0 : Array Value} {h h' : Heap} {pc : Nat} {Ls : Array Slot} {rest : List Value}
theorem Go.getF {own R0 O n d : String} {index : Nat} {a : Addr} {v : Value} (X : Stand p l e R s m args below meth c T locs cells slots) (hx : p.tables.exec = Jvm.exec) (hZ : Z.Warmed39 s.vm) (hown : s.vm.findClass own = some m.cls) (w : (Jvm.Cond.fieldLink own index R0 n d).before a0 Z = true) (via : Via Z R0 O n d) (eT : T.heap = h) (F : Fld Z h a O n d v) (hd : decode c.code pc = .ok (.getfield index, 3))
    (k : ∀ T', Stand p l e R s m args below meth c T' locs cells slots → T'.heap = h → Go p e below s T' (mkF m (pc + 3) Ls (v :: rest)) Q kc ks) : Go p e below s T (mkF m pc Ls (.ref a :: rest)) Q kc ks := by
  obtain ⟨T', X', e', st⟩ := RoadKit.getF X hx hZ hown (host := "") (Or.inl w) via eT F (g := mkF m pc Ls (.ref a :: rest)) rfl rfl hd
  exact Go.step st (k T' X' e')
theorem Go.getS {own R0 O n d : String} {index : Nat} {v : Value} (X : Stand p l e R s m args below meth c T locs cells slots) (hx : p.tables.exec = Jvm.exec) (hZ : Z.Warmed39 s.vm) (hown : s.vm.findClass own = some m.cls) (w : (Jvm.Cond.fieldLink own index R0 n d).before a0 Z = true) (via : Via Z R0 O n d) (eT : T.heap = h) (F : Sta Z h O n d v) (hd : decode c.code pc = .ok (.getstatic index, 3))
    (k : ∀ T', Stand p l e R s m args below meth c T' locs cells slots → T'.heap = h → Go p e below s T' (mkF m (pc + 3) Ls (v :: rest)) Q kc ks) : Go p e below s T (mkF m pc Ls rest) Q kc ks := by
  obtain ⟨T', X', e', st⟩ := RoadKit.getS X hx hZ hown (host := "") w via eT F (g := mkF m pc Ls rest) rfl hd
  exact Go.step st (k T' X' e')
theorem Go.putF {own R0 O n d C : String} {index kk : Nat} {ty : FieldType} {a : Addr} {v old : Value} (X : Stand p l e R s m args below meth c T locs cells slots) (hx : p.tables.exec = Jvm.exec) (hZ : Z.Warmed39 s.vm) (hown : s.vm.findClass own = some m.cls) (w : (Jvm.Cond.fieldLink own index R0 n d).before a0 Z = true) (via : Via Z R0 O n d) (eT : T.heap = h) (F : Fld Z h a O n d old) (E : Exa Z h a C)
    (L : (Jvm.Cond.lays C O n d).before a0 Z = true ∨ ((Jvm.Cond.laysFinal C O n d).before a0 Z = true ∧ own = O ∧ meth.name = "<init>")) (wi : (Jvm.Cond.instantiable C kk).before a0 Z = true) (hty : parseFieldDescriptor d = some ty) (hn : narrow ty v = v) (hf : fits ty v = true) (hd : decode c.code pc = .ok (.putfield index, 3))
    (k : ∀ T' h', Stand p l e R s m args below meth c T' (locs ++ [⟨a, Jvm.RoadKit.slotOf Z O n d⟩]) cells slots → T'.heap = h' → Wr h h' a (Jvm.RoadKit.slotOf Z O n d) v → Go p e below s T' (mkF m (pc + 3) Ls rest) Q kc ks) : Go p e below s T (mkF m pc Ls (v :: .ref a :: rest)) Q kc ks := by
  obtain ⟨T', h', X', e', W, st⟩ := RoadKit.putF X hx hZ hown (host := "") (Or.inl w) via eT F E L wi hty hn hf (g := mkF m pc Ls (v :: .ref a :: rest)) rfl rfl hd
  exact Go.step st (k T' h' X' e' W)
theorem Go.initO {own : String} {idx : Nat} {W : Nat} {a : Addr} (X : Stand p l e R s m args below meth c T locs cells slots) (hx : p.tables.exec = Jvm.exec) (hZ : Z.Warmed39 s.vm) (hown : s.vm.findClass own = some m.cls) (w1 : (Jvm.Cond.methodLink own idx Lib.objectInit).before a0 Z = true) (w2 : (Jvm.Cond.instanceMethod Lib.objectInit).before a0 Z = true)
    (w3 : (Jvm.Cond.code Lib.objectInit ⟨#[0xb1]⟩ 1 none).before a0 Z = true) (eT : T.heap = h) (hd : decode c.code pc = .ok (.invokespecial idx, 3)) (hsize : Ls.size = c.maxLocals) (hW : (rest.map fun v => v.category).sum ≤ W) (hf : 1 ≤ R.frames) (hl : W + 12 ≤ R.locals)
    (k : ∀ T', Stand p l e R s m args below meth c T' locs cells slots → T'.heap = h → Go p e below s T' (mkF m (pc + 3) Ls rest) Q kc ks) : Go p e below s T (mkF m pc Ls (.ref a :: rest)) Q kc ks := by
  obtain ⟨T', X', e', st⟩ := RoadKit.initO X hx hZ hown w1 w2 w3 eT (g := mkF m pc Ls (.ref a :: rest)) rfl hsize rfl hd hf (W := W) (by show 2 * 0 + _ ≤ _; omega) hl
  exact Go.step st (k T' X' e')
theorem Go.newO {own C : String} {index n : Nat} (X : Stand p l e R s m args below meth c T locs cells slots) (hx : p.tables.exec = Jvm.exec) (hZ : Z.Warmed39 s.vm) (hown : s.vm.findClass own = some m.cls) (w : (Jvm.Cond.classLink own index C).before a0 Z = true) (wi : (Jvm.Cond.instantiable C n).before a0 Z = true) (wz : (Jvm.Cond.initialized C).before a0 Z = true) (eT : T.heap = h)
    (hd : decode c.code pc = .ok (.new index, 3)) (hc : cells + 1 ≤ R.cells) (hl : slots + n ≤ R.slots)
    (k : ∀ T' h' a, a = h.size → Stand p l e R s m args below meth c T' locs (cells + 1) (slots + n) → T'.heap = h' → Ext h h' → Exa Z h' a C → (∀ {O nm d : String} {ty : FieldType}, Laid Z a0 C O nm d → parseFieldDescriptor d = some ty → Fld Z h' a O nm d (defaultValue ty)) →
      Go p e below s T' (mkF m (pc + 3) Ls (.ref a :: rest)) Q kc ks) : Go p e below s T (mkF m pc Ls rest) Q kc ks := by
  obtain ⟨T', h', X', e', E, A, D, -, st⟩ := RoadKit.newO X hx hZ hown w wi wz eT (g := mkF m pc Ls rest) rfl hd hc hl
  exact Go.step st (k T' h' _ rfl X' e' E A D)
theorem Go.ccast {own K : String} {index : Nat} {a : Addr} (X : Stand p l e R s m args below meth c T locs cells slots) (hx : p.tables.exec = Jvm.exec) (hZ : Z.Warmed39 s.vm) (hown : s.vm.findClass own = some m.cls) (w : (Jvm.Cond.classLink own index K).before a0 Z = true) (eT : T.heap = h) (F : Ins Z h a K true) (hd : decode c.code pc = .ok (.checkcast index, 3))
    (k : ∀ T', Stand p l e R s m args below meth c T' locs cells slots → T'.heap = h → Go p e below s T' (mkF m (pc + 3) Ls (.ref a :: rest)) Q kc ks) : Go p e below s T (mkF m pc Ls (.ref a :: rest)) Q kc ks := by
  obtain ⟨T', X', e', st⟩ := castY X hx hZ hown w eT F (g := mkF m pc Ls (.ref a :: rest)) rfl rfl hd
  exact Go.step st (k T' X' e')
theorem Go.instY {own K : String} {index : Nat} {a : Addr} (X : Stand p l e R s m args below meth c T locs cells slots) (hx : p.tables.exec = Jvm.exec) (hZ : Z.Warmed39 s.vm) (hown : s.vm.findClass own = some m.cls) (w : (Jvm.Cond.classLink own index K).before a0 Z = true) (eT : T.heap = h) (F : Ins Z h a K true) (hd : decode c.code pc = .ok (.instanceof index, 3))
    (k : ∀ T', Stand p l e R s m args below meth c T' locs cells slots → T'.heap = h → Go p e below s T' (mkF m (pc + 3) Ls (.int 1 :: rest)) Q kc ks) : Go p e below s T (mkF m pc Ls (.ref a :: rest)) Q kc ks := by
  obtain ⟨T', X', e', st⟩ := RoadKit.instY X hx hZ hown w eT F (g := mkF m pc Ls (.ref a :: rest)) rfl rfl hd
  exact Go.step st (k T' X' e')
theorem Go.instNull {index : Nat} (X : Stand p l e R s m args below meth c T locs cells slots) (hx : p.tables.exec = Jvm.exec) (hd : decode c.code pc = .ok (.instanceof index, 3))
    (k : Go p e below s T (mkF m (pc + 3) Ls (.int 0 :: rest)) Q kc ks) : Go p e below s T (mkF m pc Ls (.null :: rest)) Q kc ks :=
  Go.step (X.instanceofNull hx (g := mkF m pc Ls (.null :: rest)) rfl rfl hd) k
theorem Go.instNo {own K C : String} {index : Nat} {a : Addr} (X : Stand p l e R s m args below meth c T locs cells slots) (hx : p.tables.exec = Jvm.exec) (hZ : Z.Warmed39 s.vm) (hown : s.vm.findClass own = some m.cls) (w : (Jvm.Cond.classLink own index K).before a0 Z = true) (eT : T.heap = h) (E : Exa Z h a C) (F : ∃ c t, Z.vm.findClass C = some c ∧ Z.vm.findClass K = some t ∧ Z.vm.assignable c t = false) (hd : decode c.code pc = .ok (.instanceof index, 3))
    (k : ∀ T', Stand p l e R s m args below meth c T' locs cells slots → T'.heap = h → Go p e below s T' (mkF m (pc + 3) Ls (.int 0 :: rest)) Q kc ks) : Go p e below s T (mkF m pc Ls (.ref a :: rest)) Q kc ks := by
  obtain ⟨T', X', e', st⟩ := RoadKit.instNo X hx hZ hown w eT E F (g := mkF m pc Ls (.ref a :: rest)) rfl rfl hd
  exact Go.step st (k T' X' e')
/-- an array: its class, length n, its component i is f i -/
def Af (Z : State) (h : Heap) (a : Addr) (k : ClassId) (ty : FieldType) (n : Nat) (f : Nat → Value) : Prop := ∃ c : Cell, Arr Z h a c ty ∧ c.cls = k ∧ c.slots.size = n ∧ n < 2 ^ 31 ∧ ∀ i, i < n → c.slots[i]? = some (f i)
def updV (f : Nat → Value) (j : Nat) (v : Value) : Nat → Value := fun i => if i = j then v else f i
variable {a b : Addr} {cid : ClassId} {ty : FieldType} {n : Nat} {f f' : Nat → Value} {ws : List Addr} {sl : Nat} {v : Value}
theorem Af.lt (F : Af Z h a cid ty n f) : a < h.size := by obtain ⟨_, A, -⟩ := F; exact A.lt
theorem Af.ext (E : Ext h h') (F : Af Z h a cid ty n f) : Af Z h' a cid ty n f := by obtain ⟨cl, A, r⟩ := F; exact ⟨cl, A.ext E, r⟩
theorem Af.other (W : Wr h h' b sl v) (F : Af Z h a cid ty n f) (q : a ≠ b) : Af Z h' a cid ty n f := by obtain ⟨cl, A, r⟩ := F; exact ⟨cl, A.other W q, r⟩
theorem Af.keep (F : Af Z h a cid ty n f) (K : Keep h h' ws) (q : a ∉ ws) : Af Z h' a cid ty n f := by obtain ⟨cl, A, r⟩ := F; exact ⟨cl, ⟨K.2.1 a cl A.1 q, A.2⟩, r⟩
theorem Af.congr (F : Af Z h a cid ty n f) (q : ∀ i, i < n → f' i = f i) : Af Z h a cid ty n f' := by obtain ⟨cl, A, r1, r2, r3, r4⟩ := F; exact ⟨cl, A, r1, r2, r3, fun i hi => by rw [q i hi]; exact r4 i hi⟩
theorem Af.set (F : Af Z h a cid ty n f) (W : Wr h h' a sl v) : Af Z h' a cid ty n (updV f sl v) := by
  obtain ⟨cl, A, r1, r2, r3, r4⟩ := F
  refine ⟨_, A.same W, r1, by rw [sz_set]; exact r2, r3, fun i hi => ?_⟩
  by_cases q : i = sl
  · subst q; simp [updV, Cell.setSlot, r2, hi]
  · simp only [updV, if_neg q]; rw [← r4 i hi]; simp [Cell.setSlot, Array.getElem?_setIfInBounds, Ne.symm q]
theorem Af.arv (A : Arr Z h a (newA cid ty z) ty) (q : ¬ z < 0) : Af Z h a cid ty z.toNatClampNeg (fun _ => defaultValue ty) :=
  ⟨_, A, rfl, sz_new _ _ _, by have := (back32 q).2; exact this, fun i hi => by simp [newA, hi]⟩
def updI (g : Nat → Int32) (j : Nat) (v : Int32) : Nat → Int32 := fun i => if i = j then v else g i
def updJ (g : Nat → Int64) (j : Nat) (v : Int64) : Nat → Int64 := fun i => if i = j then v else g i
theorem Af.updI {g : Nat → Int32} {j : Nat} {x : Int32} (A : Af Z h a cid ty n (updV (fun i => Value.int (g i)) j (.int x))) : Af Z h a cid ty n (fun i => Value.int (Jvm.OwnK.updI g j x i)) :=
  A.congr fun i _ => by simp only [Jvm.OwnK.updI, updV]; split <;> rfl
theorem Af.updJ {g : Nat → Int64} {j : Nat} {x : Int64} (A : Af Z h a cid ty n (updV (fun i => Value.long (g i)) j (.long x))) : Af Z h a cid ty n (fun i => Value.long (Jvm.OwnK.updJ g j x i)) :=
  A.congr fun i _ => by simp only [Jvm.OwnK.updJ, updV]; split <;> rfl
theorem in_of {cl : Cell} {j : Int32} (r2 : cl.slots.size = n) (h1 : ¬ j < 0) (h2 : j.toNatClampNeg < n) : ¬ (j < 0 ∨ cl.slots.size ≤ j.toNatClampNeg) := fun q => q.elim h1 fun z => by omega
theorem Go.alen (X : Stand p l e R s m args below meth c T locs cells slots) (hx : p.tables.exec = Jvm.exec) (hZ : Z.Warmed39 s.vm) (eT : T.heap = h) (A : Af Z h a cid ty n f) (hd : decode c.code pc = .ok (.arraylength, 1)) (k : Go p e below s T (mkF m (pc + 1) Ls (.int n.toInt32 :: rest)) Q kc ks) : Go p e below s T (mkF m pc Ls (.ref a :: rest)) Q kc ks := by
  obtain ⟨cl, A1, -, r2, -⟩ := A
  subst r2
  exact Go.step (fun target => X.arraylength hx (by rw [eT]; exact A1.1) (State.isArrayOf_alike hZ.alike A1.2.1) (g := mkF m pc Ls (.ref a :: rest)) rfl rfl hd target) k
theorem Go.iaload {j : Int32} (X : Stand p l e R s m args below meth c T locs cells slots) (hx : p.tables.exec = Jvm.exec) (hZ : Z.Warmed39 s.vm) (eT : T.heap = h) (A : Af Z h a cid .int n f) (h1 : ¬ j < 0) (h2 : j.toNatClampNeg < n) (hd : decode c.code pc = .ok (.iaload, 1)) (k : Go p e below s T (mkF m (pc + 1) Ls (f j.toNatClampNeg :: rest)) Q kc ks) : Go p e below s T (mkF m pc Ls (.int j :: .ref a :: rest)) Q kc ks := by
  obtain ⟨cl, A1, -, r2, -, r4⟩ := A
  exact Go.step (fun target => X.iaload hx (by rw [eT]; exact A1.1) (State.isArrayOf_alike hZ.alike A1.2.1) A1.2.2 (in_of r2 h1 h2) (r4 _ h2) (g := mkF m pc Ls (.int j :: .ref a :: rest)) rfl rfl hd target) k
theorem Go.laload {j : Int32} (X : Stand p l e R s m args below meth c T locs cells slots) (hx : p.tables.exec = Jvm.exec) (hZ : Z.Warmed39 s.vm) (eT : T.heap = h) (A : Af Z h a cid .long n f) (h1 : ¬ j < 0) (h2 : j.toNatClampNeg < n) (hd : decode c.code pc = .ok (.laload, 1)) (k : Go p e below s T (mkF m (pc + 1) Ls (f j.toNatClampNeg :: rest)) Q kc ks) : Go p e below s T (mkF m pc Ls (.int j :: .ref a :: rest)) Q kc ks := by
  obtain ⟨cl, A1, -, r2, -, r4⟩ := A
  exact Go.step (fun target => X.laload hx (by rw [eT]; exact A1.1) (State.isArrayOf_alike hZ.alike A1.2.1) A1.2.2 (in_of r2 h1 h2) (r4 _ h2) (g := mkF m pc Ls (.int j :: .ref a :: rest)) rfl rfl hd target) k
theorem Go.caload {j : Int32} (X : Stand p l e R s m args below meth c T locs cells slots) (hx : p.tables.exec = Jvm.exec) (hZ : Z.Warmed39 s.vm) (eT : T.heap = h) (A : Af Z h a cid .char n f) (h1 : ¬ j < 0) (h2 : j.toNatClampNeg < n) (hd : decode c.code pc = .ok (.caload, 1)) (k : Go p e below s T (mkF m (pc + 1) Ls (f j.toNatClampNeg :: rest)) Q kc ks) : Go p e below s T (mkF m pc Ls (.int j :: .ref a :: rest)) Q kc ks := by
  obtain ⟨cl, A1, -, r2, -, r4⟩ := A
  exact Go.step (fun target => X.caload hx (by rw [eT]; exact A1.1) (State.isArrayOf_alike hZ.alike A1.2.1) A1.2.2 (in_of r2 h1 h2) (r4 _ h2) (g := mkF m pc Ls (.int j :: .ref a :: rest)) rfl rfl hd target) k
theorem Go.aaload {j : Int32} (X : Stand p l e R s m args below meth c T locs cells slots) (hx : p.tables.exec = Jvm.exec) (hZ : Z.Warmed39 s.vm) (eT : T.heap = h) (A : Af Z h a cid ty n f) (hty : ty.isReference = true) (h1 : ¬ j < 0) (h2 : j.toNatClampNeg < n) (hd : decode c.code pc = .ok (.aaload, 1)) (k : Go p e below s T (mkF m (pc + 1) Ls (f j.toNatClampNeg :: rest)) Q kc ks) : Go p e below s T (mkF m pc Ls (.int j :: .ref a :: rest)) Q kc ks := by
  obtain ⟨cl, A1, -, r2, -, r4⟩ := A
  exact Go.step (fun target => X.aaload hx (by rw [eT]; exact A1.1) (State.isArrayOf_alike hZ.alike A1.2.1) hty A1.2.2 (in_of r2 h1 h2) (r4 _ h2) (g := mkF m pc Ls (.int j :: .ref a :: rest)) rfl rfl hd target) k
theorem Go.baloadB {j : Int32} (X : Stand p l e R s m args below meth c T locs cells slots) (hx : p.tables.exec = Jvm.exec) (hZ : Z.Warmed39 s.vm) (eT : T.heap = h) (A : Af Z h a cid .byte n f) (h1 : ¬ j < 0) (h2 : j.toNatClampNeg < n) (hd : decode c.code pc = .ok (.baload, 1)) (k : Go p e below s T (mkF m (pc + 1) Ls (f j.toNatClampNeg :: rest)) Q kc ks) : Go p e below s T (mkF m pc Ls (.int j :: .ref a :: rest)) Q kc ks := by
  obtain ⟨cl, A1, -, r2, -, r4⟩ := A
  exact Go.step (fun target => X.baloadBytes hx (by rw [eT]; exact A1.1) (State.isArrayOf_alike hZ.alike A1.2.1) A1.2.2 (in_of r2 h1 h2) (r4 _ h2) (g := mkF m pc Ls (.int j :: .ref a :: rest)) rfl rfl hd target) k
theorem Go.baloadZ {j : Int32} (X : Stand p l e R s m args below meth c T locs cells slots) (hx : p.tables.exec = Jvm.exec) (hZ : Z.Warmed39 s.vm) (eT : T.heap = h) (A : Af Z h a cid .boolean n f) (h1 : ¬ j < 0) (h2 : j.toNatClampNeg < n) (hd : decode c.code pc = .ok (.baload, 1)) (k : Go p e below s T (mkF m (pc + 1) Ls (f j.toNatClampNeg :: rest)) Q kc ks) : Go p e below s T (mkF m pc Ls (.int j :: .ref a :: rest)) Q kc ks := by
  obtain ⟨cl, A1, -, r2, -, r4⟩ := A
  exact Go.step (fun target => X.baloadBooleans hx (by rw [eT]; exact A1.1) (State.isArrayOf_alike hZ.alike A1.2.1) A1.2.2 (in_of r2 h1 h2) (r4 _ h2) (g := mkF m pc Ls (.int j :: .ref a :: rest)) rfl rfl hd target) k
theorem Go.iastore {j x : Int32} (X : Stand p l e R s m args below meth c T locs cells slots) (hx : p.tables.exec = Jvm.exec) (hZ : Z.Warmed39 s.vm) (eT : T.heap = h) (A : Af Z h a cid .int n f) (h1 : ¬ j < 0) (h2 : j.toNatClampNeg < n) (hd : decode c.code pc = .ok (.iastore, 1))
    (k : ∀ T' h', Stand p l e R s m args below meth c T' (locs ++ [⟨a, j.toNatClampNeg⟩]) cells slots → T'.heap = h' → Wr h h' a j.toNatClampNeg (.int x) → Af Z h' a cid .int n (updV f j.toNatClampNeg (.int x)) → Go p e below s T' (mkF m (pc + 1) Ls rest) Q kc ks) : Go p e below s T (mkF m pc Ls (.int x :: .int j :: .ref a :: rest)) Q kc ks := by
  have A' := A
  obtain ⟨cl, A1, -, r2, -, r4⟩ := A
  obtain ⟨T', h', X', e', W, st⟩ := stI X hx hZ eT A1 (in_of r2 h1 h2) (g := mkF m pc Ls (.int x :: .int j :: .ref a :: rest)) rfl rfl hd
  exact Go.step st (k T' h' X' e' W (A'.set W))
theorem Go.lastore {j : Int32} {x : Int64} (X : Stand p l e R s m args below meth c T locs cells slots) (hx : p.tables.exec = Jvm.exec) (hZ : Z.Warmed39 s.vm) (eT : T.heap = h) (A : Af Z h a cid .long n f) (h1 : ¬ j < 0) (h2 : j.toNatClampNeg < n) (hd : decode c.code pc = .ok (.lastore, 1))
    (k : ∀ T' h', Stand p l e R s m args below meth c T' (locs ++ [⟨a, j.toNatClampNeg⟩]) cells slots → T'.heap = h' → Wr h h' a j.toNatClampNeg (.long x) → Af Z h' a cid .long n (updV f j.toNatClampNeg (.long x)) → Go p e below s T' (mkF m (pc + 1) Ls rest) Q kc ks) : Go p e below s T (mkF m pc Ls (.long x :: .int j :: .ref a :: rest)) Q kc ks := by
  have A' := A
  obtain ⟨cl, A1, -, r2, -, r4⟩ := A
  obtain ⟨T', h', X', e', W, st⟩ := stJ X hx hZ eT A1 (in_of r2 h1 h2) (g := mkF m pc Ls (.long x :: .int j :: .ref a :: rest)) rfl rfl hd
  exact Go.step st (k T' h' X' e' W (A'.set W))
theorem Go.bastoreB {j x : Int32} (X : Stand p l e R s m args below meth c T locs cells slots) (hx : p.tables.exec = Jvm.exec) (hZ : Z.Warmed39 s.vm) (eT : T.heap = h) (A : Af Z h a cid .byte n f) (h1 : ¬ j < 0) (h2 : j.toNatClampNeg < n) (hd : decode c.code pc = .ok (.bastore, 1))
    (k : ∀ T' h', Stand p l e R s m args below meth c T' (locs ++ [⟨a, j.toNatClampNeg⟩]) cells slots → T'.heap = h' → Wr h h' a j.toNatClampNeg (.int x.toInt8.toInt32) → Af Z h' a cid .byte n (updV f j.toNatClampNeg (.int x.toInt8.toInt32)) → Go p e below s T' (mkF m (pc + 1) Ls rest) Q kc ks) : Go p e below s T (mkF m pc Ls (.int x :: .int j :: .ref a :: rest)) Q kc ks := by
  have A' := A
  obtain ⟨cl, A1, -, r2, -, r4⟩ := A
  obtain ⟨T', h', X', e', W, st⟩ := stB X hx hZ eT A1 (in_of r2 h1 h2) (g := mkF m pc Ls (.int x :: .int j :: .ref a :: rest)) rfl rfl hd
  exact Go.step st (k T' h' X' e' W (A'.set W))
theorem Go.bastoreZ {j x : Int32} (X : Stand p l e R s m args below meth c T locs cells slots) (hx : p.tables.exec = Jvm.exec) (hZ : Z.Warmed39 s.vm) (eT : T.heap = h) (A : Af Z h a cid .boolean n f) (h1 : ¬ j < 0) (h2 : j.toNatClampNeg < n) (hd : decode c.code pc = .ok (.bastore, 1))
    (k : ∀ T' h', Stand p l e R s m args below meth c T' (locs ++ [⟨a, j.toNatClampNeg⟩]) cells slots → T'.heap = h' → Wr h h' a j.toNatClampNeg (.int (nar .boolean x)) → Af Z h' a cid .boolean n (updV f j.toNatClampNeg (.int (nar .boolean x))) → Go p e below s T' (mkF m (pc + 1) Ls rest) Q kc ks) : Go p e below s T (mkF m pc Ls (.int x :: .int j :: .ref a :: rest)) Q kc ks := by
  have A' := A
  obtain ⟨cl, A1, -, r2, -, r4⟩ := A
  obtain ⟨T', h', X', e', W, st⟩ := stZ X hx hZ eT A1 (in_of r2 h1 h2) (g := mkF m pc Ls (.int x :: .int j :: .ref a :: rest)) rfl rfl hd
  exact Go.step st (k T' h' X' e' W (A'.set W))
theorem Go.castore {j x : Int32} (X : Stand p l e R s m args below meth c T locs cells slots) (hx : p.tables.exec = Jvm.exec) (hZ : Z.Warmed39 s.vm) (eT : T.heap = h) (A : Af Z h a cid .char n f) (h1 : ¬ j < 0) (h2 : j.toNatClampNeg < n) (hd : decode c.code pc = .ok (.castore, 1))
    (k : ∀ T' h', Stand p l e R s m args below meth c T' (locs ++ [⟨a, j.toNatClampNeg⟩]) cells slots → T'.heap = h' → Wr h h' a j.toNatClampNeg (.int (nar .char x)) → Af Z h' a cid .char n (updV f j.toNatClampNeg (.int (nar .char x))) → Go p e below s T' (mkF m (pc + 1) Ls rest) Q kc ks) : Go p e below s T (mkF m pc Ls (.int x :: .int j :: .ref a :: rest)) Q kc ks := by
  have A' := A
  obtain ⟨cl, A1, -, r2, -, r4⟩ := A
  obtain ⟨T', h', X', e', W, st⟩ := stC X hx hZ eT A1 (in_of r2 h1 h2) (g := mkF m pc Ls (.int x :: .int j :: .ref a :: rest)) rfl rfl hd
  exact Go.step st (k T' h' X' e' W (A'.set W))
theorem Go.aastore {j : Int32} {C : String} {y : Addr} (X : Stand p l e R s m args below meth c T locs cells slots) (hx : p.tables.exec = Jvm.exec) (hZ : Z.Warmed39 s.vm) (eT : T.heap = h) (A : Af Z h a cid ty n f) (hty : ty.isReference = true) (O : Ovr Z cid C) (I : Ins Z h y C true) (h1 : ¬ j < 0) (h2 : j.toNatClampNeg < n) (hd : decode c.code pc = .ok (.aastore, 1))
    (k : ∀ T' h', Stand p l e R s m args below meth c T' (locs ++ [⟨a, j.toNatClampNeg⟩]) cells slots → T'.heap = h' → Wr h h' a j.toNatClampNeg (.ref y) → Af Z h' a cid ty n (updV f j.toNatClampNeg (.ref y)) → Go p e below s T' (mkF m (pc + 1) Ls rest) Q kc ks) : Go p e below s T (mkF m pc Ls (.ref y :: .int j :: .ref a :: rest)) Q kc ks := by
  have A' := A
  obtain ⟨cl, A1, r1, r2, -, r4⟩ := A
  obtain ⟨T', h', X', e', W, st⟩ := stR X hx hZ eT A1 (in_of r2 h1 h2) hty (Sto.ofV A1 r1 O I) (g := mkF m pc Ls (.ref y :: .int j :: .ref a :: rest)) rfl rfl hd
  exact Go.step st (k T' h' X' e' W (A'.set W))
theorem Go.newarray {aty : ArrayType} {z : Int32} {cap : Nat} (X : Stand p l e R s m args below meth c T locs cells slots) (hx : p.tables.exec = Jvm.exec) (hZ : Z.Warmed39 s.vm) (w : (Jvm.Cond.arrayClass (newarray.typeOf aty)).before a0 Z = true) (eT : T.heap = h) (hd : decode c.code pc = .ok (.newarray aty, 2)) (hn : ¬ z < 0) (hcap : z.toNatClampNeg ≤ cap) (hb : cap * 8 ≤ 536870912) (hc : cells + 1 ≤ R.cells) (hl : slots + cap ≤ R.slots)
    (k : ∀ T' h' a cA, a = h.size → Stand p l e R s m args below meth c T' locs (cells + 1) (slots + cap) → T'.heap = h' → Ext h h' → Af Z h' a cA (newarray.typeOf aty) z.toNatClampNeg (fun _ => defaultValue (newarray.typeOf aty)) → Go p e below s T' (mkF m (pc + 2) Ls (.ref a :: rest)) Q kc ks) : Go p e below s T (mkF m pc Ls (.int z :: rest)) Q kc ks := by
  obtain ⟨T', h', cA, X', e', E, A, st⟩ := newP X hx hZ w eT (g := mkF m pc Ls (.int z :: rest)) rfl hd rfl hn hcap hb hc hl
  exact Go.step st (k T' h' _ cA rfl X' e' E (Af.arv A hn))
theorem Go.anewarray {own C : String} {index : Nat} {z : Int32} {cap : Nat} (X : Stand p l e R s m args below meth c T locs cells slots) (hx : p.tables.exec = Jvm.exec) (hZ : Z.Warmed39 s.vm) (hown : s.vm.findClass own = some m.cls) (w1 : (Jvm.Cond.classLink own index C).before a0 Z = true) (w2 : (Jvm.Cond.arrayOver (.object C)).before a0 Z = true) (eT : T.heap = h) (hd : decode c.code pc = .ok (.anewarray index, 3)) (hn : ¬ z < 0) (hcap : z.toNatClampNeg ≤ cap) (hb : cap * 8 ≤ 536870912) (hc : cells + 1 ≤ R.cells) (hl : slots + cap ≤ R.slots)
    (k : ∀ T' h' a cA, a = h.size → Stand p l e R s m args below meth c T' locs (cells + 1) (slots + cap) → T'.heap = h' → Ext h h' → Af Z h' a cA (.object C) z.toNatClampNeg (fun _ => .null) → Ovr Z cA C → Go p e below s T' (mkF m (pc + 3) Ls (.ref a :: rest)) Q kc ks) : Go p e below s T (mkF m pc Ls (.int z :: rest)) Q kc ks := by
  obtain ⟨T', h', cA, X', e', E, A, O, st⟩ := newR X hx hZ hown w1 w2 eT (g := mkF m pc Ls (.int z :: rest)) rfl hd rfl hn hcap hb hc hl
  exact Go.step st (k T' h' _ cA rfl X' e' E (Af.arv A hn) O)
theorem Go.clone {own ad : String} {index W cap : Nat} (X : Stand p l e R s m args below meth c T locs cells slots) (hx : p.tables.exec = Jvm.exec) (hZ : Z.Warmed39 s.vm) (hown : s.vm.findClass own = some m.cls)
    (w1 : (Jvm.Cond.methodLink own index ⟨ad, "clone", "()Ljava/lang/Object;"⟩).before a0 Z = true) (w2 : (Jvm.Cond.sameMethod ad "java/lang/Object" "clone" "()Ljava/lang/Object;").before a0 Z = true) (w3 : (Jvm.Cond.native ⟨"java/lang/Object", "clone", "()Ljava/lang/Object;"⟩).before a0 Z = true)
    (w4 : (Jvm.Cond.instanceMethod ⟨"java/lang/Object", "clone", "()Ljava/lang/Object;"⟩).before a0 Z = true) (w5 : (Jvm.Cond.selects ad ⟨ad, "clone", "()Ljava/lang/Object;"⟩ ⟨"java/lang/Object", "clone", "()Ljava/lang/Object;"⟩).before a0 Z = true) (w6 : (Jvm.Cond.castable ad "java/lang/Cloneable").before a0 Z = true)
    (eT : T.heap = h) (A : Af Z h a cid ty n f) (E : Exa Z h a ad) (F : ∀ cl : Cell, h[a]? = some cl → FitC Z cl) (hd : decode c.code pc = .ok (.invokevirtual index, 3)) (hsize : Ls.size = c.maxLocals) (hW : (rest.map fun v => v.category).sum ≤ W) (hf : 1 ≤ R.frames) (hl : W + 14 ≤ R.locals) (hcap : n ≤ cap) (hc : cells + 1 ≤ R.cells) (hsl : slots + cap ≤ R.slots)
    (k : ∀ T' h' b, b = h.size → Stand p l e R s m args below meth c T' locs (cells + 1) (slots + cap) → T'.heap = h' → Ext h h' → Af Z h' b cid ty n f → Exa Z h' b ad → Go p e below s T' (mkF m (pc + 3) Ls (.ref b :: rest)) Q kc ks) : Go p e below s T (mkF m pc Ls (.ref a :: rest)) Q kc ks := by
  obtain ⟨cl, A1, r1, r2, r3, r4⟩ := A
  obtain ⟨T', h', X', e', Ex, A2, E2, st⟩ := cloneA X hx hZ hown w1 w2 w3 w4 w5 w6 eT A1 E (F cl A1.1) (g := mkF m pc Ls (.ref a :: rest)) rfl hsize rfl hd hf (W := W) (cap := cap) (by show 2 * 0 + _ ≤ _; omega) hl (by rw [r2]; exact hcap) hc hsl
  exact Go.step st (k T' h' _ rfl X' e' Ex ⟨_, A2, r1, r2, r3, r4⟩ E2)
/-- the call of a private method by invokevirtual, by its contract -/
theorem Go.callP {own C : String} {index kk : Nat} {y : MethodName} {bytes : ByteArray} {maxL : Nat} {ret : Option FieldType} {rm : Room} {argsL : List Value} {Q' : Option Value → Heap → List Loc → Prop} {W : Nat} {st : List Value}
    (X : Stand p l e R s m args below meth c T locs cells slots) (hx : p.tables.exec = Jvm.exec) (hZ : Z.Warmed39 s.vm) (hown : s.vm.findClass own = some m.cls)
    (w1 : (Jvm.Cond.methodLink own index y).before a0 Z = true) (w2 : (Jvm.Cond.instanceMethod y).before a0 Z = true) (wp : (Jvm.Cond.privateMethod y).before a0 Z = true) (wi : (Jvm.Cond.instantiable y.cls kk).before a0 Z = true) (w3 : (Jvm.Cond.initialized y.cls).before a0 Z = true) (w4 : (Jvm.Cond.code y bytes maxL ret).before a0 Z = true)
    (hy : y.cls ≠ "java/lang/invoke/MethodHandle" ∧ y.cls ≠ "java/lang/invoke/VarHandle") (E : Exa Z h a C) (hM : Met l Z y bytes maxL ret [] rm (.ref a :: argsL).toArray h Q') (eT : T.heap = h)
    (hlen : ∀ sig, parseMethodDescriptor y.desc = some sig → argsL.length = sig.parameters.length) (hd : decode c.code pc = .ok (.invokevirtual index, 3)) (hsize : Ls.size = c.maxLocals) (hst : st = argsL.reverse ++ .ref a :: rest) (hW : (rest.map fun v => v.category).sum ≤ W)
    (hf : rm.frames + 1 ≤ R.frames) (hl : W + (maxL + 11) + rm.locals ≤ R.locals) (hc : cells + rm.cells ≤ R.cells) (hs : slots + rm.slots ≤ R.slots)
    (k : ∀ v T' L, Stand p l e R s m args below meth c T' (locs ++ L) (cells + rm.cells) (slots + rm.slots) → Q' v T'.heap L → Go p e below s T' (mkF m (pc + 3) Ls (v.toList ++ rest)) Q kc ks) : Go p e below s T (mkF m pc Ls st) Q kc ks := by
  have wi' : (Jvm.Cond.instantiable y.cls kk).before args s = true := mvT hZ wi
  obtain ⟨cc, kc', i1, i2, i3, i4, -⟩ := Cond.instantiable_spec wi'
  have ni : kc'.isInterface = false := by revert i4; cases kc'.isInterface <;> simp
  have hp := Cond.privateMethod_at (mvP hZ wp (args := args))
  have hsel := Jvm.Stand.selects_self_of_private i1 i2 ni hp (mvT hZ w2 (args := args)) hy
  obtain ⟨cl, q1, q2⟩ := E.cell
  obtain ⟨v, vm₁, ⟨T1, L1, k1, n1⟩, -, X1, ⟨Lc, hQ1, l1, y1, z1⟩, st1⟩ := X.privateBack hx (y := y) hown (mvT hZ w1) (mvT hZ w2) hsel hp (mvT hZ w4) hy (backOf (W := W) hM hZ w4 w3 hf hl) (g := mkF m pc Ls st) rfl hsize (Steps.refl _) (a := a) (by rw [eT]; exact q1) q2 (argsL := argsL) (rest := rest) hlen hst (by show 2 * 0 + _ ≤ _; omega) hd (fun _ _ => ⟨rfl, eT, hc, hs⟩)
  dsimp only [Pt.U, Pt.locs, Pt.cells, Pt.slots] at X1 l1 y1 z1 st1 hQ1
  subst l1 y1 z1
  exact Go.trans st1 (k v T1 Lc X1 hQ1)
/-- the call of an interface's method, by the contract of the body that the receiver's class selects -/
theorem Go.callN {own C : String} {index count : Nat} {xi y : MethodName} {bytes : ByteArray} {maxL : Nat} {ret : Option FieldType} {rm : Room} {argsL : List Value} {Q' : Option Value → Heap → List Loc → Prop} {W : Nat} {st : List Value}
    (X : Stand p l e R s m args below meth c T locs cells slots) (hx : p.tables.exec = Jvm.exec) (hZ : Z.Warmed39 s.vm) (hown : s.vm.findClass own = some m.cls)
    (w1 : (Jvm.Cond.methodLink own index xi).before a0 Z = true) (w2 : (Jvm.Cond.declares xi).before a0 Z = true) (w5 : (Jvm.Cond.interfaceMethod xi.cls xi.cls xi.name xi.desc).before a0 Z = true) (w6 : (Jvm.Cond.selects C xi y).before a0 Z = true) (w7 : (Jvm.Cond.instanceMethod y).before a0 Z = true) (w8 : (Jvm.Cond.publicMethod y).before a0 Z = true) (w9 : (Jvm.Cond.unhidden C xi.name xi.desc).before a0 Z = true) (w10 : (Jvm.Cond.castable C xi.cls).before a0 Z = true)
    (w3 : (Jvm.Cond.initialized y.cls).before a0 Z = true) (w4 : (Jvm.Cond.code y bytes maxL ret).before a0 Z = true) (hy : xi.cls ≠ "java/lang/invoke/MethodHandle" ∧ xi.cls ≠ "java/lang/invoke/VarHandle") (k5 : ((Jvm.Cond.interfaceMethod xi.cls xi.cls xi.name xi.desc).onTables && (Jvm.Cond.interfaceMethod xi.cls xi.cls xi.name xi.desc).keepsFace) = true) (E : Exa Z h a C) (hM : Met l Z y bytes maxL ret [] rm (.ref a :: argsL).toArray h Q') (eT : T.heap = h)
    (hlen : ∀ sig, parseMethodDescriptor xi.desc = some sig → argsL.length = sig.parameters.length) (hd : decode c.code pc = .ok (.invokeinterface index count, 5)) (hsize : Ls.size = c.maxLocals) (hst : st = argsL.reverse ++ .ref a :: rest) (hW : (rest.map fun v => v.category).sum ≤ W)
    (hf : rm.frames + 1 ≤ R.frames) (hl : W + (maxL + 11) + rm.locals ≤ R.locals) (hc : cells + rm.cells ≤ R.cells) (hs : slots + rm.slots ≤ R.slots)
    (k : ∀ v T' L, Stand p l e R s m args below meth c T' (locs ++ L) (cells + rm.cells) (slots + rm.slots) → Q' v T'.heap L → Go p e below s T' (mkF m (pc + 5) Ls (v.toList ++ rest)) Q kc ks) : Go p e below s T (mkF m pc Ls st) Q kc ks := by
  obtain ⟨cB, kB, q1, q2, q3⟩ := isOf hZ eT E
  obtain ⟨v, vm₁, ⟨T1, L1, k1, n1⟩, -, X1, ⟨Lc, hQ1, l1, y1, z1⟩, st1⟩ := X.interfaceBack hx (xi := xi) (y := y) hown (mvT hZ w1) (mvT hZ w2) (mvT hZ w5 k5) (mvT hZ w6) (mvT hZ w7) (mvT hZ w8) (mvT hZ w9) (mvT hZ w10) hy (backOf (W := W) hM hZ w4 w3 hf hl) q1 q2 q3 (g := mkF m pc Ls st) rfl hsize (Steps.refl _) (argsL := argsL) (rest := rest) hlen hst (by show 2 * 0 + _ ≤ _; omega) hd (fun _ _ => ⟨rfl, eT, hc, hs⟩)
  dsimp only [Pt.U, Pt.locs, Pt.cells, Pt.slots] at X1 l1 y1 z1 st1 hQ1
  subst l1 y1 z1
  exact Go.trans st1 (k v T1 Lc X1 hQ1)
def cpf (f f' : Nat → Value) (sp dp nn : Nat) : Nat → Value := fun i => if dp ≤ i ∧ i < dp + nn then f (sp + (i - dp)) else f' i
theorem getD_range {i : Nat} (hi : i < n) (d : Value) : ((List.range n).map f).getD i d = f i := by simp [List.getD_eq_getElem?_getD, hi]
theorem Af.toArv (F : Af Z h a cid ty n f) (hf : ∀ i, i < n → fits ty (f i) = true) : Arv Z h a cid ty n.toInt32 ((List.range n).map f) .null := by
  obtain ⟨cl, A, r1, r2, r3, r4⟩ := F
  have z : (n.toInt32).toNatClampNeg = n := by simp only [Int32.toNatClampNeg, len_toInt r3]; rfl
  refine ⟨cl, A, r1, by rw [r2, z], ?_, fun i hi => ?_, fun i hi => ?_⟩
  · rw [Int32.lt_iff_toInt_lt, len_toInt r3]; show ¬ (n : Int) < 0; omega
  · rw [getD_range (by omega)]; exact r4 i (by omega)
  · rw [getD_range (by omega)]; exact hf i (by omega)
theorem Af.ofArv {z : Int32} {vs : List Value} {d : Value} (F : Arv Z h a cid ty z vs d) : Af Z h a cid ty z.toNatClampNeg (fun i => vs.getD i d) := by
  obtain ⟨cl, A, r1, r2, r3, H, G⟩ := F
  exact ⟨cl, A, r1, r2, (back32 r3).2, fun i hi => H i (by omega)⟩
theorem cp_at {n' sp dp nn i : Nat} (hi : i < n') (h4 : sp + nn ≤ n) (h5 : dp + nn ≤ n') :
    ((((List.range n').map f').take dp) ++ ((List.range nn).map fun i => ((List.range n).map f).getD (sp + i) .null) ++ (((List.range n').map f').drop (dp + nn))).getD i .null = cpf f f' sp dp nn i := by
  have lt : (((List.range n').map f').take dp).length = dp := by simp; omega
  have lu : ((List.range nn).map fun i => ((List.range n).map f).getD (sp + i) .null).length = nn := by simp
  rw [List.getD_eq_getElem?_getD]
  unfold cpf
  by_cases h1 : i < dp
  · rw [List.append_assoc, List.getElem?_append_left (by omega), if_neg (by omega)]
    simp [List.getElem?_take, h1, hi]
  · by_cases h2 : i < dp + nn
    · rw [List.getElem?_append_left (by rw [List.length_append]; omega), List.getElem?_append_right (by omega), if_pos ⟨by omega, h2⟩, lt]
      have h3 : i - dp < nn := by omega
      have h6 : sp + (i - dp) < n := by omega
      simp [h3, List.getD_eq_getElem?_getD, h6]
    · rw [List.getElem?_append_right (by rw [List.length_append]; omega), if_neg (by omega), List.length_append, lt, lu]
      have h3 : dp + nn + (i - (dp + nn)) = i := by omega
      simp [List.getElem?_drop, h3, hi]
theorem Go.acopy {own : String} {index W n0 n' : Nat} {b : Addr} {cid' : ClassId} {sp dp nn : Int32} (X : Stand p l e R s m args below meth c T locs cells slots) (hx : p.tables.exec = Jvm.exec) (hZ : Z.Warmed39 s.vm) (hown : s.vm.findClass own = some m.cls)
    (w1 : (Jvm.Cond.methodLink own index ⟨"java/lang/System", "arraycopy", "(Ljava/lang/Object;ILjava/lang/Object;II)V"⟩).before a0 Z = true) (w2 : (Jvm.Cond.native ⟨"java/lang/System", "arraycopy", "(Ljava/lang/Object;ILjava/lang/Object;II)V"⟩).before a0 Z = true) (w3 : (Jvm.Cond.static ⟨"java/lang/System", "arraycopy", "(Ljava/lang/Object;ILjava/lang/Object;II)V"⟩).before a0 Z = true) (w4 : (Jvm.Cond.initialized "java/lang/System").before a0 Z = true)
    (eT : T.heap = h) (A : Af Z h a cid ty n f) (B : Af Z h b cid' ty n' f') (hty : refKind ty = false) (hfa : ∀ i, i < n → fits ty (f i) = true) (hfb : ∀ i, i < n' → fits ty (f' i) = true) (h1 : ¬ sp < 0) (h2 : ¬ dp < 0) (h3 : ¬ nn < 0) (h4 : sp.toNatClampNeg + nn.toNatClampNeg ≤ n) (h5 : dp.toNatClampNeg + nn.toNatClampNeg ≤ n')
    (N : Fr n0 locs) (ge : n0 ≤ b) (hd : decode c.code pc = .ok (.invokestatic index, 3)) (hsize : Ls.size = c.maxLocals) (hW : (rest.map fun v => v.category).sum ≤ W) (hf : 1 ≤ R.frames) (hl : W + 18 ≤ R.locals)
    (k : ∀ T' h' L, Stand p l e R s m args below meth c T' L cells slots → T'.heap = h' → Fr n0 L → Keep h h' [b] → Af Z h' b cid' ty n' (cpf f f' sp.toNatClampNeg dp.toNatClampNeg nn.toNatClampNeg) → Go p e below s T' (mkF m (pc + 3) Ls rest) Q kc ks) : Go p e below s T (mkF m pc Ls (.int nn :: .int dp :: .ref b :: .int sp :: .ref a :: rest)) Q kc ks := by
  have za : (n.toInt32).toNatClampNeg = n := by obtain ⟨_, _, _, _, r3, _⟩ := A; simp only [Int32.toNatClampNeg, len_toInt r3]; rfl
  have zb : (n'.toInt32).toNatClampNeg = n' := by obtain ⟨_, _, _, _, r3, _⟩ := B; simp only [Int32.toNatClampNeg, len_toInt r3]; rfl
  obtain ⟨T', h', L, X', e', NL, K, V, st⟩ := cpA X hx hZ hown w1 w2 w3 w4 eT (A.toArv hfa) (B.toArv hfb) (Or.inl ⟨rfl, hty⟩) h1 h2 h3 (by rw [za]; exact h4) (by rw [zb]; exact h5) rfl (by simp; exact h5) N ge (g := mkF m pc Ls (.int nn :: .int dp :: .ref b :: .int sp :: .ref a :: rest)) rfl hsize rfl hd hf (W := W) (by show 2 * 0 + _ ≤ _; omega) (by show W + (7 + 11) ≤ _; omega)
  have V' := Af.ofArv V
  rw [zb] at V'
  exact Go.step st (k T' h' L X' e' NL K (V'.congr fun i hi => (cp_at hi h4 h5).symm))
theorem Keep.wr1 {ha hb hc : Heap} {ws : List Addr} {a : Addr} {sl : Nat} {v : Value} (K : Keep ha hb ws) (W : Wr hb hc a sl v) (q : a ∈ ws ∨ ha.size ≤ a) : Keep ha hc ws := Jvm.RoadKit.Keep.wr K W q
end Heap
end Jvm.OwnK
namespace Jvm.OwnK
open Sem ClassFile Op Lib Jvm.Free Jvm.Stand Jvm.LawKit Jvm.RoadKit
section Start
variable {s : State} {args : Array Value}
theorem st_static {C f d K : String} (h : (Jvm.Cond.exactly (Jvm.Term.static C f d) K).value args s none s [] = some true) (hi : (Jvm.Cond.initializedFor C f d).before args s = true ∨ ((Jvm.Cond.initialized C).before args s = true ∧ (Jvm.Cond.laysStatic C f d).before args s = true)) :
    ∃ g, (Jvm.Term.static C f d).eval args s none [] s = some (.ref g) ∧ Sta s s.heap C f d (.ref g) ∧ Exa s s.heap g K := by
  obtain ⟨g, eg⟩ := exa_v h
  exact ⟨g, eg, Sta.start eg hi, Exa.start eg h⟩
theorem st_int {t : Jvm.Term} {k : Int32} (h : (Jvm.Cond.eq t (.int k)).value args s none s [] = some true) : t.eval args s none [] s = some (.int k) := by
  obtain ⟨x, y, ha, hb, k1, k2⟩ := cmp_v (Or.inl h)
  have hb' : (Jvm.Term.int k).eval args s none [] s = some (.int k) := Term.int_eval k
  cases hb.symm.trans hb'
  obtain ⟨z, rfl⟩ := k2
  have q := gotT (Cond.eq_ints ha hb') h
  rw [ha, q]
theorem st_ref {t u : Jvm.Term} {g : Addr} (h : (Jvm.Cond.eq t u).value args s none s [] = some true) (hu : u.eval args s none [] s = some (.ref g)) : t.eval args s none [] s = some (.ref g) := by
  obtain ⟨x, y, ha, hb, k1, k2⟩ := cmp_v (Or.inl h)
  cases hb.symm.trans hu
  have hx : x.isRef = true := k2.2
  have q := gotT (eq_R ha hu hx rfl) h
  rw [ha, q]
theorem st_fieldI {t : Jvm.Term} {a : Addr} {C n d : String} {k : Int32} (ev : t.eval args s none [] s = some (.ref a)) (h : (Jvm.Cond.eq (.field t C n d) (.int k)).value args s none s [] = some true) : Fld s s.heap a C n d (.int k) :=
  Fld.start (by rw [← fld_at ev]; exact st_int h)
theorem st_fieldR {t : Jvm.Term} {a : Addr} {C n d K : String} (ev : t.eval args s none [] s = some (.ref a)) (h : (Jvm.Cond.exactly (.field t C n d) K).value args s none s [] = some true) :
    ∃ g, (Jvm.Term.field t C n d).eval args s none [] s = some (.ref g) ∧ Fld s s.heap a C n d (.ref g) ∧ Exa s s.heap g K := by
  obtain ⟨g, eg⟩ := exa_v h
  exact ⟨g, eg, Fld.start (by rw [← fld_at ev]; exact eg), Exa.start eg h⟩
/-- an array that stood before the law, with its length -/
theorem st_arr {t : Jvm.Term} {a : Addr} {ty : FieldType} {k : Int32} {n : Nat} (ev : t.eval args s none [] s = some (.ref a)) (h : (Jvm.Cond.arrayOf t ty).value args s none s [] = some true) (hl : (Jvm.Cond.eq (.length t) (.int k)).value args s none s [] = some true) (hk : k = n.toInt32) (hn : n < 2 ^ 31) :
    ∃ c : Cell, s.heap[a]? = some c ∧ Af s s.heap a c.cls ty n (fun i => (c.slots[i]?).getD .null) := by
  obtain ⟨c, A⟩ := Arr.start ev h
  have e1 := st_int hl
  obtain ⟨a', cell, g1, g2, g5, g3⟩ := Jvm.Lib.length_spec e1
  cases ev.symm.trans g1
  have g4 : s.arrayAt? a = some c := A.fin (Vm.Alike.refl _)
  cases g4.symm.trans g2
  injection g3 with g3
  have g6 : c.slots.size = n := by
    have q : (c.slots.size.toInt32).toInt = (n.toInt32).toInt := by rw [← g3, hk]
    rw [len_toInt g5, len_toInt hn] at q
    omega
  refine ⟨c, A.1, c, A, rfl, g6, hn, fun i hi => ?_⟩
  have q : i < c.slots.size := by omega
  simp [Array.getElem?_eq_getElem q]
theorem st_elem {t : Jvm.Term} {a : Addr} {j : Int32} {c : Cell} {v : Value} (ev : t.eval args s none [] s = some (.ref a)) (hc : s.heap[a]? = some c) (h : (Jvm.Term.elem t (.int j)).eval args s none [] s = some v) : (c.slots[j.toNatClampNeg]?).getD .null = v := by
  have q := (elem_in h ev (Term.int_eval j) hc).2
  rw [q]; rfl
theorem Af.known {Z : State} {h : Heap} {a : Addr} {cid : ClassId} {ty : FieldType} {n j : Nat} {f : Nat → Value} {v : Value} (F : Af Z h a cid ty n f) (q : f j = v) : Af Z h a cid ty n (updV f j v) := F.congr fun i _ => by
  by_cases e : i = j
  · subst e; simp [updV, q]
  · simp [updV, e]
end Start
end Jvm.OwnK
namespace Jvm.Pilot.@@N@@
open Jvm Jvm.ClassFile Sem Op Lib Jvm.Free Jvm.Stand Jvm.LawKit Jvm.RoadKit Jvm.OwnK Bundle Jvm.Pilot.@@N@@.Jvm.D
theorem w0 {Z : State} {a0 : Array Value} (hw : ∀ d ∈ tables_1, d.before a0 Z = true) : (Jvm.Cond.constant "com/example/collate/collate/analysis/BitsSetPinLaw" (7 : Nat) (2147483647 : Int32)).before a0 Z = true := hw _ (List.mem_of_getElem? (i := 0) rfl)
theorem w1 {Z : State} {a0 : Array Value} (hw : ∀ d ∈ tables_1, d.before a0 Z = true) : (Jvm.Cond.classLink "com/example/collate/collate/analysis/BitsSetPinLaw" (8 : Nat) "com/example/collate/collate/analysis/Bits").before a0 Z = true := hw _ (List.mem_of_getElem? (i := 1) rfl)
theorem w2 {Z : State} {a0 : Array Value} (hw : ∀ d ∈ tables_1, d.before a0 Z = true) : (Jvm.Cond.instantiable "com/example/collate/collate/analysis/Bits" (2 : Nat)).before a0 Z = true := hw _ (List.mem_of_getElem? (i := 2) rfl)
theorem w3 {Z : State} {a0 : Array Value} (hw : ∀ d ∈ tables_1, d.before a0 Z = true) : (Jvm.Cond.initialized "com/example/collate/collate/analysis/Bits").before a0 Z = true := hw _ (List.mem_of_getElem? (i := 3) rfl)
theorem w4 {Z : State} {a0 : Array Value} (hw : ∀ d ∈ tables_1, d.before a0 Z = true) : (Jvm.Cond.methodLink "com/example/collate/collate/analysis/BitsSetPinLaw" (10 : Nat) ({ cls := "com/example/collate/collate/analysis/Bits", name := "<init>", desc := "(I)V" } : Jvm.MethodName)).before a0 Z = true := hw _ (List.mem_of_getElem? (i := 4) rfl)
theorem w5 {Z : State} {a0 : Array Value} (hw : ∀ d ∈ tables_1, d.before a0 Z = true) : (Jvm.Cond.instanceMethod ({ cls := "com/example/collate/collate/analysis/Bits", name := "<init>", desc := "(I)V" } : Jvm.MethodName)).before a0 Z = true := hw _ (List.mem_of_getElem? (i := 5) rfl)
theorem w6 {Z : State} {a0 : Array Value} (hw : ∀ d ∈ tables_1, d.before a0 Z = true) : (Jvm.Cond.code ({ cls := "com/example/collate/collate/analysis/Bits", name := "<init>", desc := "(I)V" } : Jvm.MethodName) prog_9_method_1_code (2 : Nat) (Option.none : Option Jvm.ClassFile.FieldType)).before a0 Z = true := hw _ (List.mem_of_getElem? (i := 6) rfl)
theorem w7 {Z : State} {a0 : Array Value} (hw : ∀ d ∈ tables_1, d.before a0 Z = true) : (Jvm.Cond.methodLink "com/example/collate/collate/analysis/Bits" (1 : Nat) ({ cls := "java/lang/Object", name := "<init>", desc := "()V" } : Jvm.MethodName)).before a0 Z = true := hw _ (List.mem_of_getElem? (i := 7) rfl)
theorem w8 {Z : State} {a0 : Array Value} (hw : ∀ d ∈ tables_1, d.before a0 Z = true) : (Jvm.Cond.instanceMethod ({ cls := "java/lang/Object", name := "<init>", desc := "()V" } : Jvm.MethodName)).before a0 Z = true := hw _ (List.mem_of_getElem? (i := 8) rfl)
theorem w9 {Z : State} {a0 : Array Value} (hw : ∀ d ∈ tables_1, d.before a0 Z = true) : (Jvm.Cond.code ({ cls := "java/lang/Object", name := "<init>", desc := "()V" } : Jvm.MethodName) object_method_1_code (1 : Nat) (Option.none : Option Jvm.ClassFile.FieldType)).before a0 Z = true := hw _ (List.mem_of_getElem? (i := 9) rfl)
theorem w10 {Z : State} {a0 : Array Value} (hw : ∀ d ∈ tables_1, d.before a0 Z = true) : (Jvm.Cond.arrayClass Jvm.ClassFile.FieldType.long).before a0 Z = true := hw _ (List.mem_of_getElem? (i := 10) rfl)
theorem w11 {Z : State} {a0 : Array Value} (hw : ∀ d ∈ tables_1, d.before a0 Z = true) : (Jvm.Cond.fieldLink "com/example/collate/collate/analysis/Bits" (7 : Nat) "com/example/collate/collate/analysis/Bits" "words" "[J").before a0 Z = true := hw _ (List.mem_of_getElem? (i := 11) rfl)
theorem w12 {Z : State} {a0 : Array Value} (hw : ∀ d ∈ tables_1, d.before a0 Z = true) : (Jvm.Cond.laysFinal "com/example/collate/collate/analysis/Bits" "com/example/collate/collate/analysis/Bits" "words" "[J").before a0 Z = true := hw _ (List.mem_of_getElem? (i := 12) rfl)
theorem w13 {Z : State} {a0 : Array Value} (hw : ∀ d ∈ tables_1, d.before a0 Z = true) : (Jvm.Cond.fieldLink "com/example/collate/collate/analysis/Bits" (13 : Nat) "com/example/collate/collate/analysis/Bits" "summary" "[J").before a0 Z = true := hw _ (List.mem_of_getElem? (i := 13) rfl)
theorem w14 {Z : State} {a0 : Array Value} (hw : ∀ d ∈ tables_1, d.before a0 Z = true) : (Jvm.Cond.laysFinal "com/example/collate/collate/analysis/Bits" "com/example/collate/collate/analysis/Bits" "summary" "[J").before a0 Z = true := hw _ (List.mem_of_getElem? (i := 14) rfl)
theorem w15 {Z : State} {a0 : Array Value} (hw : ∀ d ∈ tables_1, d.before a0 Z = true) : (Jvm.Cond.methodLink "com/example/collate/collate/analysis/BitsSetPinLaw" (13 : Nat) ({ cls := "com/example/collate/collate/analysis/Bits", name := "set", desc := "(IZ)V" } : Jvm.MethodName)).before a0 Z = true := hw _ (List.mem_of_getElem? (i := 15) rfl)
theorem w16 {Z : State} {a0 : Array Value} (hw : ∀ d ∈ tables_1, d.before a0 Z = true) : (Jvm.Cond.declares ({ cls := "com/example/collate/collate/analysis/Bits", name := "set", desc := "(IZ)V" } : Jvm.MethodName)).before a0 Z = true := hw _ (List.mem_of_getElem? (i := 16) rfl)
theorem w17 {Z : State} {a0 : Array Value} (hw : ∀ d ∈ tables_1, d.before a0 Z = true) : (Jvm.Cond.instanceMethod ({ cls := "com/example/collate/collate/analysis/Bits", name := "set", desc := "(IZ)V" } : Jvm.MethodName)).before a0 Z = true := hw _ (List.mem_of_getElem? (i := 17) rfl)
theorem w18 {Z : State} {a0 : Array Value} (hw : ∀ d ∈ tables_1, d.before a0 Z = true) : (Jvm.Cond.selects "com/example/collate/collate/analysis/Bits" ({ cls := "com/example/collate/collate/analysis/Bits", name := "set", desc := "(IZ)V" } : Jvm.MethodName) ({ cls := "com/example/collate/collate/analysis/Bits", name := "set", desc := "(IZ)V" } : Jvm.MethodName)).before a0 Z = true := hw _ (List.mem_of_getElem? (i := 18) rfl)
theorem w19 {Z : State} {a0 : Array Value} (hw : ∀ d ∈ tables_1, d.before a0 Z = true) : (Jvm.Cond.code ({ cls := "com/example/collate/collate/analysis/Bits", name := "set", desc := "(IZ)V" } : Jvm.MethodName) prog_9_method_3_code (4 : Nat) (Option.none : Option Jvm.ClassFile.FieldType)).before a0 Z = true := hw _ (List.mem_of_getElem? (i := 19) rfl)
theorem w20 {Z : State} {a0 : Array Value} (hw : ∀ d ∈ tables_1, d.before a0 Z = true) : (Jvm.Cond.constantLong "com/example/collate/collate/analysis/Bits" (16 : Nat) (-1 : Int64)).before a0 Z = true := hw _ (List.mem_of_getElem? (i := 20) rfl)
theorem w21 {Z : State} {a0 : Array Value} (hw : ∀ d ∈ tables_1, d.before a0 Z = true) : (Jvm.Cond.methodLink "com/example/collate/collate/analysis/BitsSetPinLaw" (17 : Nat) ({ cls := "com/example/collate/collate/analysis/Bits", name := "get", desc := "(I)Z" } : Jvm.MethodName)).before a0 Z = true := hw _ (List.mem_of_getElem? (i := 21) rfl)
theorem w22 {Z : State} {a0 : Array Value} (hw : ∀ d ∈ tables_1, d.before a0 Z = true) : (Jvm.Cond.declares ({ cls := "com/example/collate/collate/analysis/Bits", name := "get", desc := "(I)Z" } : Jvm.MethodName)).before a0 Z = true := hw _ (List.mem_of_getElem? (i := 22) rfl)
theorem w23 {Z : State} {a0 : Array Value} (hw : ∀ d ∈ tables_1, d.before a0 Z = true) : (Jvm.Cond.instanceMethod ({ cls := "com/example/collate/collate/analysis/Bits", name := "get", desc := "(I)Z" } : Jvm.MethodName)).before a0 Z = true := hw _ (List.mem_of_getElem? (i := 23) rfl)
theorem w24 {Z : State} {a0 : Array Value} (hw : ∀ d ∈ tables_1, d.before a0 Z = true) : (Jvm.Cond.selects "com/example/collate/collate/analysis/Bits" ({ cls := "com/example/collate/collate/analysis/Bits", name := "get", desc := "(I)Z" } : Jvm.MethodName) ({ cls := "com/example/collate/collate/analysis/Bits", name := "get", desc := "(I)Z" } : Jvm.MethodName)).before a0 Z = true := hw _ (List.mem_of_getElem? (i := 24) rfl)
theorem w25 {Z : State} {a0 : Array Value} (hw : ∀ d ∈ tables_1, d.before a0 Z = true) : (Jvm.Cond.code ({ cls := "com/example/collate/collate/analysis/Bits", name := "get", desc := "(I)Z" } : Jvm.MethodName) prog_9_method_2_code (2 : Nat) (Option.some Jvm.ClassFile.FieldType.boolean)).before a0 Z = true := hw _ (List.mem_of_getElem? (i := 25) rfl)
theorem w26 {Z : State} {a0 : Array Value} (hw : ∀ d ∈ tables_1, d.before a0 Z = true) : (Jvm.Cond.methodLink "com/example/collate/collate/analysis/BitsSetPinLaw" (21 : Nat) ({ cls := "com/example/collate/collate/analysis/BitsSetPinLaw", name := "nxt", desc := "(IZII)I" } : Jvm.MethodName)).before a0 Z = true := hw _ (List.mem_of_getElem? (i := 26) rfl)
theorem w27 {Z : State} {a0 : Array Value} (hw : ∀ d ∈ tables_1, d.before a0 Z = true) : (Jvm.Cond.static ({ cls := "com/example/collate/collate/analysis/BitsSetPinLaw", name := "nxt", desc := "(IZII)I" } : Jvm.MethodName)).before a0 Z = true := hw _ (List.mem_of_getElem? (i := 27) rfl)
theorem w28 {Z : State} {a0 : Array Value} (hw : ∀ d ∈ tables_1, d.before a0 Z = true) : (Jvm.Cond.initialized "com/example/collate/collate/analysis/BitsSetPinLaw").before a0 Z = true := hw _ (List.mem_of_getElem? (i := 28) rfl)
theorem w29 {Z : State} {a0 : Array Value} (hw : ∀ d ∈ tables_1, d.before a0 Z = true) : (Jvm.Cond.code ({ cls := "com/example/collate/collate/analysis/BitsSetPinLaw", name := "nxt", desc := "(IZII)I" } : Jvm.MethodName) method_3_code (4 : Nat) (Option.some Jvm.ClassFile.FieldType.int)).before a0 Z = true := hw _ (List.mem_of_getElem? (i := 29) rfl)
theorem w30 {Z : State} {a0 : Array Value} (hw : ∀ d ∈ tables_1, d.before a0 Z = true) : (Jvm.Cond.methodLink "com/example/collate/collate/analysis/BitsSetPinLaw" (27 : Nat) ({ cls := "com/example/collate/collate/analysis/BitsSetPinLaw", name := "prv", desc := "(IZII)I" } : Jvm.MethodName)).before a0 Z = true := hw _ (List.mem_of_getElem? (i := 30) rfl)
theorem w31 {Z : State} {a0 : Array Value} (hw : ∀ d ∈ tables_1, d.before a0 Z = true) : (Jvm.Cond.static ({ cls := "com/example/collate/collate/analysis/BitsSetPinLaw", name := "prv", desc := "(IZII)I" } : Jvm.MethodName)).before a0 Z = true := hw _ (List.mem_of_getElem? (i := 31) rfl)
theorem w32 {Z : State} {a0 : Array Value} (hw : ∀ d ∈ tables_1, d.before a0 Z = true) : (Jvm.Cond.code ({ cls := "com/example/collate/collate/analysis/BitsSetPinLaw", name := "prv", desc := "(IZII)I" } : Jvm.MethodName) method_4_code (4 : Nat) (Option.some Jvm.ClassFile.FieldType.int)).before a0 Z = true := hw _ (List.mem_of_getElem? (i := 32) rfl)
theorem w33 {Z : State} {a0 : Array Value} (hw : ∀ d ∈ tables_1, d.before a0 Z = true) : (Jvm.Cond.methodLink "com/example/collate/collate/analysis/BitsSetPinLaw" (30 : Nat) ({ cls := "com/example/collate/collate/analysis/Bits", name := "nextSetBit", desc := "(I)I" } : Jvm.MethodName)).before a0 Z = true := hw _ (List.mem_of_getElem? (i := 33) rfl)
theorem w34 {Z : State} {a0 : Array Value} (hw : ∀ d ∈ tables_1, d.before a0 Z = true) : (Jvm.Cond.declares ({ cls := "com/example/collate/collate/analysis/Bits", name := "nextSetBit", desc := "(I)I" } : Jvm.MethodName)).before a0 Z = true := hw _ (List.mem_of_getElem? (i := 34) rfl)
theorem w35 {Z : State} {a0 : Array Value} (hw : ∀ d ∈ tables_1, d.before a0 Z = true) : (Jvm.Cond.instanceMethod ({ cls := "com/example/collate/collate/analysis/Bits", name := "nextSetBit", desc := "(I)I" } : Jvm.MethodName)).before a0 Z = true := hw _ (List.mem_of_getElem? (i := 35) rfl)
theorem w36 {Z : State} {a0 : Array Value} (hw : ∀ d ∈ tables_1, d.before a0 Z = true) : (Jvm.Cond.selects "com/example/collate/collate/analysis/Bits" ({ cls := "com/example/collate/collate/analysis/Bits", name := "nextSetBit", desc := "(I)I" } : Jvm.MethodName) ({ cls := "com/example/collate/collate/analysis/Bits", name := "nextSetBit", desc := "(I)I" } : Jvm.MethodName)).before a0 Z = true := hw _ (List.mem_of_getElem? (i := 36) rfl)
theorem w37 {Z : State} {a0 : Array Value} (hw : ∀ d ∈ tables_1, d.before a0 Z = true) : (Jvm.Cond.code ({ cls := "com/example/collate/collate/analysis/Bits", name := "nextSetBit", desc := "(I)I" } : Jvm.MethodName) prog_9_method_5_code (5 : Nat) (Option.some Jvm.ClassFile.FieldType.int)).before a0 Z = true := hw _ (List.mem_of_getElem? (i := 37) rfl)
theorem w38 {Z : State} {a0 : Array Value} (hw : ∀ d ∈ tables_1, d.before a0 Z = true) : (Jvm.Cond.methodLink "com/example/collate/collate/analysis/Bits" (24 : Nat) ({ cls := "com/example/collate/collate/analysis/Bits", name := "nextWord", desc := "(I)I" } : Jvm.MethodName)).before a0 Z = true := hw _ (List.mem_of_getElem? (i := 38) rfl)
theorem w39 {Z : State} {a0 : Array Value} (hw : ∀ d ∈ tables_1, d.before a0 Z = true) : (Jvm.Cond.instanceMethod ({ cls := "com/example/collate/collate/analysis/Bits", name := "nextWord", desc := "(I)I" } : Jvm.MethodName)).before a0 Z = true := hw _ (List.mem_of_getElem? (i := 39) rfl)
theorem w40 {Z : State} {a0 : Array Value} (hw : ∀ d ∈ tables_1, d.before a0 Z = true) : (Jvm.Cond.privateMethod ({ cls := "com/example/collate/collate/analysis/Bits", name := "nextWord", desc := "(I)I" } : Jvm.MethodName)).before a0 Z = true := hw _ (List.mem_of_getElem? (i := 40) rfl)
theorem w41 {Z : State} {a0 : Array Value} (hw : ∀ d ∈ tables_1, d.before a0 Z = true) : (Jvm.Cond.code ({ cls := "com/example/collate/collate/analysis/Bits", name := "nextWord", desc := "(I)I" } : Jvm.MethodName) prog_9_method_6_code (5 : Nat) (Option.some Jvm.ClassFile.FieldType.int)).before a0 Z = true := hw _ (List.mem_of_getElem? (i := 41) rfl)
theorem w42 {Z : State} {a0 : Array Value} (hw : ∀ d ∈ tables_1, d.before a0 Z = true) : (Jvm.Cond.methodLink "com/example/collate/collate/analysis/BitsSetPinLaw" (34 : Nat) ({ cls := "com/example/collate/collate/analysis/Bits", name := "previousSetBit", desc := "(I)I" } : Jvm.MethodName)).before a0 Z = true := hw _ (List.mem_of_getElem? (i := 42) rfl)
theorem w43 {Z : State} {a0 : Array Value} (hw : ∀ d ∈ tables_1, d.before a0 Z = true) : (Jvm.Cond.declares ({ cls := "com/example/collate/collate/analysis/Bits", name := "previousSetBit", desc := "(I)I" } : Jvm.MethodName)).before a0 Z = true := hw _ (List.mem_of_getElem? (i := 43) rfl)
theorem w44 {Z : State} {a0 : Array Value} (hw : ∀ d ∈ tables_1, d.before a0 Z = true) : (Jvm.Cond.instanceMethod ({ cls := "com/example/collate/collate/analysis/Bits", name := "previousSetBit", desc := "(I)I" } : Jvm.MethodName)).before a0 Z = true := hw _ (List.mem_of_getElem? (i := 44) rfl)
theorem w45 {Z : State} {a0 : Array Value} (hw : ∀ d ∈ tables_1, d.before a0 Z = true) : (Jvm.Cond.selects "com/example/collate/collate/analysis/Bits" ({ cls := "com/example/collate/collate/analysis/Bits", name := "previousSetBit", desc := "(I)I" } : Jvm.MethodName) ({ cls := "com/example/collate/collate/analysis/Bits", name := "previousSetBit", desc := "(I)I" } : Jvm.MethodName)).before a0 Z = true := hw _ (List.mem_of_getElem? (i := 45) rfl)
theorem w46 {Z : State} {a0 : Array Value} (hw : ∀ d ∈ tables_1, d.before a0 Z = true) : (Jvm.Cond.code ({ cls := "com/example/collate/collate/analysis/Bits", name := "previousSetBit", desc := "(I)I" } : Jvm.MethodName) prog_9_method_7_code (5 : Nat) (Option.some Jvm.ClassFile.FieldType.int)).before a0 Z = true := hw _ (List.mem_of_getElem? (i := 46) rfl)
theorem w47 {Z : State} {a0 : Array Value} (hw : ∀ d ∈ tables_1, d.before a0 Z = true) : (Jvm.Cond.methodLink "com/example/collate/collate/analysis/Bits" (34 : Nat) ({ cls := "java/lang/Math", name := "min", desc := "(II)I" } : Jvm.MethodName)).before a0 Z = true := hw _ (List.mem_of_getElem? (i := 47) rfl)
theorem w48 {Z : State} {a0 : Array Value} (hw : ∀ d ∈ tables_1, d.before a0 Z = true) : (Jvm.Cond.static ({ cls := "java/lang/Math", name := "min", desc := "(II)I" } : Jvm.MethodName)).before a0 Z = true := hw _ (List.mem_of_getElem? (i := 48) rfl)
theorem w49 {Z : State} {a0 : Array Value} (hw : ∀ d ∈ tables_1, d.before a0 Z = true) : (Jvm.Cond.initialized "java/lang/Math").before a0 Z = true := hw _ (List.mem_of_getElem? (i := 49) rfl)
theorem w50 {Z : State} {a0 : Array Value} (hw : ∀ d ∈ tables_1, d.before a0 Z = true) : (Jvm.Cond.code ({ cls := "java/lang/Math", name := "min", desc := "(II)I" } : Jvm.MethodName) jdk_29_method_69_code (2 : Nat) (Option.some Jvm.ClassFile.FieldType.int)).before a0 Z = true := hw _ (List.mem_of_getElem? (i := 50) rfl)
theorem w51 {Z : State} {a0 : Array Value} (hw : ∀ d ∈ tables_1, d.before a0 Z = true) : (Jvm.Cond.methodLink "com/example/collate/collate/analysis/Bits" (40 : Nat) ({ cls := "com/example/collate/collate/analysis/Bits", name := "previousWord", desc := "(I)I" } : Jvm.MethodName)).before a0 Z = true := hw _ (List.mem_of_getElem? (i := 51) rfl)
theorem w52 {Z : State} {a0 : Array Value} (hw : ∀ d ∈ tables_1, d.before a0 Z = true) : (Jvm.Cond.instanceMethod ({ cls := "com/example/collate/collate/analysis/Bits", name := "previousWord", desc := "(I)I" } : Jvm.MethodName)).before a0 Z = true := hw _ (List.mem_of_getElem? (i := 52) rfl)
theorem w53 {Z : State} {a0 : Array Value} (hw : ∀ d ∈ tables_1, d.before a0 Z = true) : (Jvm.Cond.privateMethod ({ cls := "com/example/collate/collate/analysis/Bits", name := "previousWord", desc := "(I)I" } : Jvm.MethodName)).before a0 Z = true := hw _ (List.mem_of_getElem? (i := 53) rfl)
theorem w54 {Z : State} {a0 : Array Value} (hw : ∀ d ∈ tables_1, d.before a0 Z = true) : (Jvm.Cond.code ({ cls := "com/example/collate/collate/analysis/Bits", name := "previousWord", desc := "(I)I" } : Jvm.MethodName) prog_9_method_8_code (5 : Nat) (Option.some Jvm.ClassFile.FieldType.int)).before a0 Z = true := hw _ (List.mem_of_getElem? (i := 54) rfl)
theorem w55 {Z : State} {a0 : Array Value} (hw : ∀ d ∈ tables_1, d.before a0 Z = true) : (Jvm.Cond.methodLink "com/example/collate/collate/analysis/Bits" (43 : Nat) ({ cls := "java/lang/Long", name := "numberOfLeadingZeros", desc := "(J)I" } : Jvm.MethodName)).before a0 Z = true := hw _ (List.mem_of_getElem? (i := 55) rfl)
theorem w56 {Z : State} {a0 : Array Value} (hw : ∀ d ∈ tables_1, d.before a0 Z = true) : (Jvm.Cond.static ({ cls := "java/lang/Long", name := "numberOfLeadingZeros", desc := "(J)I" } : Jvm.MethodName)).before a0 Z = true := hw _ (List.mem_of_getElem? (i := 56) rfl)
theorem w57 {Z : State} {a0 : Array Value} (hw : ∀ d ∈ tables_1, d.before a0 Z = true) : (Jvm.Cond.initialized "java/lang/Long").before a0 Z = true := hw _ (List.mem_of_getElem? (i := 57) rfl)
theorem w58 {Z : State} {a0 : Array Value} (hw : ∀ d ∈ tables_1, d.before a0 Z = true) : (Jvm.Cond.code ({ cls := "java/lang/Long", name := "numberOfLeadingZeros", desc := "(J)I" } : Jvm.MethodName) jdk_35_method_48_code (3 : Nat) (Option.some Jvm.ClassFile.FieldType.int)).before a0 Z = true := hw _ (List.mem_of_getElem? (i := 58) rfl)
theorem w59 {Z : State} {a0 : Array Value} (hw : ∀ d ∈ tables_1, d.before a0 Z = true) : (Jvm.Cond.methodLink "java/lang/Long" (308 : Nat) ({ cls := "java/lang/Integer", name := "numberOfLeadingZeros", desc := "(I)I" } : Jvm.MethodName)).before a0 Z = true := hw _ (List.mem_of_getElem? (i := 59) rfl)
theorem w60 {Z : State} {a0 : Array Value} (hw : ∀ d ∈ tables_1, d.before a0 Z = true) : (Jvm.Cond.static ({ cls := "java/lang/Integer", name := "numberOfLeadingZeros", desc := "(I)I" } : Jvm.MethodName)).before a0 Z = true := hw _ (List.mem_of_getElem? (i := 60) rfl)
theorem w61 {Z : State} {a0 : Array Value} (hw : ∀ d ∈ tables_1, d.before a0 Z = true) : (Jvm.Cond.initialized "java/lang/Integer").before a0 Z = true := hw _ (List.mem_of_getElem? (i := 61) rfl)
theorem w62 {Z : State} {a0 : Array Value} (hw : ∀ d ∈ tables_1, d.before a0 Z = true) : (Jvm.Cond.code ({ cls := "java/lang/Integer", name := "numberOfLeadingZeros", desc := "(I)I" } : Jvm.MethodName) jdk_33_method_47_code (2 : Nat) (Option.some Jvm.ClassFile.FieldType.int)).before a0 Z = true := hw _ (List.mem_of_getElem? (i := 62) rfl)
theorem w63 {Z : State} {a0 : Array Value} (hw : ∀ d ∈ tables_1, d.before a0 Z = true) : (Jvm.Cond.constant "java/lang/Integer" (264 : Nat) (65536 : Int32)).before a0 Z = true := hw _ (List.mem_of_getElem? (i := 63) rfl)
theorem w64 {Z : State} {a0 : Array Value} (hw : ∀ d ∈ tables_1, d.before a0 Z = true) : (Jvm.Cond.methodLink "com/example/collate/collate/analysis/Bits" (28 : Nat) ({ cls := "java/lang/Long", name := "numberOfTrailingZeros", desc := "(J)I" } : Jvm.MethodName)).before a0 Z = true := hw _ (List.mem_of_getElem? (i := 64) rfl)
theorem w65 {Z : State} {a0 : Array Value} (hw : ∀ d ∈ tables_1, d.before a0 Z = true) : (Jvm.Cond.static ({ cls := "java/lang/Long", name := "numberOfTrailingZeros", desc := "(J)I" } : Jvm.MethodName)).before a0 Z = true := hw _ (List.mem_of_getElem? (i := 65) rfl)
theorem w66 {Z : State} {a0 : Array Value} (hw : ∀ d ∈ tables_1, d.before a0 Z = true) : (Jvm.Cond.code ({ cls := "java/lang/Long", name := "numberOfTrailingZeros", desc := "(J)I" } : Jvm.MethodName) jdk_35_method_49_code (3 : Nat) (Option.some Jvm.ClassFile.FieldType.int)).before a0 Z = true := hw _ (List.mem_of_getElem? (i := 66) rfl)
theorem w67 {Z : State} {a0 : Array Value} (hw : ∀ d ∈ tables_1, d.before a0 Z = true) : (Jvm.Cond.methodLink "java/lang/Long" (311 : Nat) ({ cls := "java/lang/Integer", name := "numberOfTrailingZeros", desc := "(I)I" } : Jvm.MethodName)).before a0 Z = true := hw _ (List.mem_of_getElem? (i := 67) rfl)
theorem w68 {Z : State} {a0 : Array Value} (hw : ∀ d ∈ tables_1, d.before a0 Z = true) : (Jvm.Cond.static ({ cls := "java/lang/Integer", name := "numberOfTrailingZeros", desc := "(I)I" } : Jvm.MethodName)).before a0 Z = true := hw _ (List.mem_of_getElem? (i := 68) rfl)
theorem w69 {Z : State} {a0 : Array Value} (hw : ∀ d ∈ tables_1, d.before a0 Z = true) : (Jvm.Cond.code ({ cls := "java/lang/Integer", name := "numberOfTrailingZeros", desc := "(I)I" } : Jvm.MethodName) jdk_33_method_48_code (2 : Nat) (Option.some Jvm.ClassFile.FieldType.int)).before a0 Z = true := hw _ (List.mem_of_getElem? (i := 69) rfl)
theorem d_ntz_0 : decode jdk_33_method_48_code 0 = .ok (.iload_n 0, 1) := by decide +kernel
theorem d_ntz_1 : decode jdk_33_method_48_code 1 = .ok (.iconst (-1), 1) := by decide +kernel
theorem d_ntz_2 : decode jdk_33_method_48_code 2 = .ok (.ixor, 1) := by decide +kernel
theorem d_ntz_3 : decode jdk_33_method_48_code 3 = .ok (.iload_n 0, 1) := by decide +kernel
theorem d_ntz_4 : decode jdk_33_method_48_code 4 = .ok (.iconst 1, 1) := by decide +kernel
theorem d_ntz_5 : decode jdk_33_method_48_code 5 = .ok (.isub, 1) := by decide +kernel
theorem d_ntz_6 : decode jdk_33_method_48_code 6 = .ok (.iand, 1) := by decide +kernel
theorem d_ntz_7 : decode jdk_33_method_48_code 7 = .ok (.istore_n 0, 1) := by decide +kernel
theorem d_ntz_8 : decode jdk_33_method_48_code 8 = .ok (.iload_n 0, 1) := by decide +kernel
theorem d_ntz_9 : decode jdk_33_method_48_code 9 = .ok (.ifCond .gt 8, 3) := by decide +kernel
theorem d_ntz_17 : decode jdk_33_method_48_code 17 = .ok (.iconst 1, 1) := by decide +kernel
theorem d_ntz_18 : decode jdk_33_method_48_code 18 = .ok (.istore_n 1, 1) := by decide +kernel
theorem d_ntz_19 : decode jdk_33_method_48_code 19 = .ok (.iload_n 0, 1) := by decide +kernel
theorem d_ntz_20 : decode jdk_33_method_48_code 20 = .ok (.ldc_w 264, 3) := by decide +kernel
theorem d_ntz_23 : decode jdk_33_method_48_code 23 = .ok (.if_icmp .le 11, 3) := by decide +kernel
theorem d_ntz_26 : decode jdk_33_method_48_code 26 = .ok (.iinc 1 16, 3) := by decide +kernel
theorem d_ntz_29 : decode jdk_33_method_48_code 29 = .ok (.iload_n 0, 1) := by decide +kernel
theorem d_ntz_30 : decode jdk_33_method_48_code 30 = .ok (.bipush 16, 2) := by decide +kernel
theorem d_ntz_32 : decode jdk_33_method_48_code 32 = .ok (.iushr, 1) := by decide +kernel
theorem d_ntz_33 : decode jdk_33_method_48_code 33 = .ok (.istore_n 0, 1) := by decide +kernel
theorem d_ntz_34 : decode jdk_33_method_48_code 34 = .ok (.iload_n 0, 1) := by decide +kernel
theorem d_ntz_35 : decode jdk_33_method_48_code 35 = .ok (.sipush 256, 3) := by decide +kernel
theorem d_ntz_38 : decode jdk_33_method_48_code 38 = .ok (.if_icmp .le 11, 3) := by decide +kernel
theorem d_ntz_41 : decode jdk_33_method_48_code 41 = .ok (.iinc 1 8, 3) := by decide +kernel
theorem d_ntz_44 : decode jdk_33_method_48_code 44 = .ok (.iload_n 0, 1) := by decide +kernel
theorem d_ntz_45 : decode jdk_33_method_48_code 45 = .ok (.bipush 8, 2) := by decide +kernel
theorem d_ntz_47 : decode jdk_33_method_48_code 47 = .ok (.iushr, 1) := by decide +kernel
theorem d_ntz_48 : decode jdk_33_method_48_code 48 = .ok (.istore_n 0, 1) := by decide +kernel
theorem d_ntz_49 : decode jdk_33_method_48_code 49 = .ok (.iload_n 0, 1) := by decide +kernel
theorem d_ntz_50 : decode jdk_33_method_48_code 50 = .ok (.bipush 16, 2) := by decide +kernel
theorem d_ntz_52 : decode jdk_33_method_48_code 52 = .ok (.if_icmp .le 10, 3) := by decide +kernel
theorem d_ntz_55 : decode jdk_33_method_48_code 55 = .ok (.iinc 1 4, 3) := by decide +kernel
theorem d_ntz_58 : decode jdk_33_method_48_code 58 = .ok (.iload_n 0, 1) := by decide +kernel
theorem d_ntz_59 : decode jdk_33_method_48_code 59 = .ok (.iconst 4, 1) := by decide +kernel
theorem d_ntz_60 : decode jdk_33_method_48_code 60 = .ok (.iushr, 1) := by decide +kernel
theorem d_ntz_61 : decode jdk_33_method_48_code 61 = .ok (.istore_n 0, 1) := by decide +kernel
theorem d_ntz_62 : decode jdk_33_method_48_code 62 = .ok (.iload_n 0, 1) := by decide +kernel
theorem d_ntz_63 : decode jdk_33_method_48_code 63 = .ok (.iconst 4, 1) := by decide +kernel
theorem d_ntz_64 : decode jdk_33_method_48_code 64 = .ok (.if_icmp .le 10, 3) := by decide +kernel
theorem d_ntz_67 : decode jdk_33_method_48_code 67 = .ok (.iinc 1 2, 3) := by decide +kernel
theorem d_ntz_70 : decode jdk_33_method_48_code 70 = .ok (.iload_n 0, 1) := by decide +kernel
theorem d_ntz_71 : decode jdk_33_method_48_code 71 = .ok (.iconst 2, 1) := by decide +kernel
theorem d_ntz_72 : decode jdk_33_method_48_code 72 = .ok (.iushr, 1) := by decide +kernel
theorem d_ntz_73 : decode jdk_33_method_48_code 73 = .ok (.istore_n 0, 1) := by decide +kernel
theorem d_ntz_74 : decode jdk_33_method_48_code 74 = .ok (.iload_n 1, 1) := by decide +kernel
theorem d_ntz_75 : decode jdk_33_method_48_code 75 = .ok (.iload_n 0, 1) := by decide +kernel
theorem d_ntz_76 : decode jdk_33_method_48_code 76 = .ok (.iconst 1, 1) := by decide +kernel
theorem d_ntz_77 : decode jdk_33_method_48_code 77 = .ok (.iushr, 1) := by decide +kernel
theorem d_ntz_78 : decode jdk_33_method_48_code 78 = .ok (.iadd, 1) := by decide +kernel
theorem d_ntz_79 : decode jdk_33_method_48_code 79 = .ok (.ireturn, 1) := by decide +kernel
theorem d_ntz_12 : decode jdk_33_method_48_code 12 = .ok (.iload_n 0, 1) := by decide +kernel
theorem d_ntz_13 : decode jdk_33_method_48_code 13 = .ok (.bipush 32, 2) := by decide +kernel
theorem d_ntz_15 : decode jdk_33_method_48_code 15 = .ok (.iand, 1) := by decide +kernel
theorem d_ntz_16 : decode jdk_33_method_48_code 16 = .ok (.ireturn, 1) := by decide +kernel
theorem pn_ntz : plainName "java/lang/Integer" = true := by first | (simp [plainName, overriddenIn]; done) | decide +kernel
theorem d_nlz_0 : decode jdk_33_method_47_code 0 = .ok (.iload_n 0, 1) := by decide +kernel
theorem d_nlz_1 : decode jdk_33_method_47_code 1 = .ok (.ifCond .gt 14, 3) := by decide +kernel
theorem d_nlz_15 : decode jdk_33_method_47_code 15 = .ok (.bipush 31, 2) := by decide +kernel
theorem d_nlz_17 : decode jdk_33_method_47_code 17 = .ok (.istore_n 1, 1) := by decide +kernel
theorem d_nlz_18 : decode jdk_33_method_47_code 18 = .ok (.iload_n 0, 1) := by decide +kernel
theorem d_nlz_19 : decode jdk_33_method_47_code 19 = .ok (.ldc_w 264, 3) := by decide +kernel
theorem d_nlz_22 : decode jdk_33_method_47_code 22 = .ok (.if_icmp .lt 11, 3) := by decide +kernel
theorem d_nlz_33 : decode jdk_33_method_47_code 33 = .ok (.iload_n 0, 1) := by decide +kernel
theorem d_nlz_34 : decode jdk_33_method_47_code 34 = .ok (.sipush 256, 3) := by decide +kernel
theorem d_nlz_37 : decode jdk_33_method_47_code 37 = .ok (.if_icmp .lt 11, 3) := by decide +kernel
theorem d_nlz_48 : decode jdk_33_method_47_code 48 = .ok (.iload_n 0, 1) := by decide +kernel
theorem d_nlz_49 : decode jdk_33_method_47_code 49 = .ok (.bipush 16, 2) := by decide +kernel
theorem d_nlz_51 : decode jdk_33_method_47_code 51 = .ok (.if_icmp .lt 10, 3) := by decide +kernel
theorem d_nlz_61 : decode jdk_33_method_47_code 61 = .ok (.iload_n 0, 1) := by decide +kernel
theorem d_nlz_62 : decode jdk_33_method_47_code 62 = .ok (.iconst 4, 1) := by decide +kernel
theorem d_nlz_63 : decode jdk_33_method_47_code 63 = .ok (.if_icmp .lt 10, 3) := by decide +kernel
theorem d_nlz_73 : decode jdk_33_method_47_code 73 = .ok (.iload_n 1, 1) := by decide +kernel
theorem d_nlz_74 : decode jdk_33_method_47_code 74 = .ok (.iload_n 0, 1) := by decide +kernel
theorem d_nlz_75 : decode jdk_33_method_47_code 75 = .ok (.iconst 1, 1) := by decide +kernel
theorem d_nlz_76 : decode jdk_33_method_47_code 76 = .ok (.iushr, 1) := by decide +kernel
theorem d_nlz_77 : decode jdk_33_method_47_code 77 = .ok (.isub, 1) := by decide +kernel
theorem d_nlz_78 : decode jdk_33_method_47_code 78 = .ok (.ireturn, 1) := by decide +kernel
theorem d_nlz_66 : decode jdk_33_method_47_code 66 = .ok (.iinc 1 (-2), 3) := by decide +kernel
theorem d_nlz_69 : decode jdk_33_method_47_code 69 = .ok (.iload_n 0, 1) := by decide +kernel
theorem d_nlz_70 : decode jdk_33_method_47_code 70 = .ok (.iconst 2, 1) := by decide +kernel
theorem d_nlz_71 : decode jdk_33_method_47_code 71 = .ok (.iushr, 1) := by decide +kernel
theorem d_nlz_72 : decode jdk_33_method_47_code 72 = .ok (.istore_n 0, 1) := by decide +kernel
theorem d_nlz_54 : decode jdk_33_method_47_code 54 = .ok (.iinc 1 (-4), 3) := by decide +kernel
theorem d_nlz_57 : decode jdk_33_method_47_code 57 = .ok (.iload_n 0, 1) := by decide +kernel
theorem d_nlz_58 : decode jdk_33_method_47_code 58 = .ok (.iconst 4, 1) := by decide +kernel
theorem d_nlz_59 : decode jdk_33_method_47_code 59 = .ok (.iushr, 1) := by decide +kernel
theorem d_nlz_60 : decode jdk_33_method_47_code 60 = .ok (.istore_n 0, 1) := by decide +kernel
theorem d_nlz_40 : decode jdk_33_method_47_code 40 = .ok (.iinc 1 (-8), 3) := by decide +kernel
theorem d_nlz_43 : decode jdk_33_method_47_code 43 = .ok (.iload_n 0, 1) := by decide +kernel
theorem d_nlz_44 : decode jdk_33_method_47_code 44 = .ok (.bipush 8, 2) := by decide +kernel
theorem d_nlz_46 : decode jdk_33_method_47_code 46 = .ok (.iushr, 1) := by decide +kernel
theorem d_nlz_47 : decode jdk_33_method_47_code 47 = .ok (.istore_n 0, 1) := by decide +kernel
theorem d_nlz_25 : decode jdk_33_method_47_code 25 = .ok (.iinc 1 (-16), 3) := by decide +kernel
theorem d_nlz_28 : decode jdk_33_method_47_code 28 = .ok (.iload_n 0, 1) := by decide +kernel
theorem d_nlz_29 : decode jdk_33_method_47_code 29 = .ok (.bipush 16, 2) := by decide +kernel
theorem d_nlz_31 : decode jdk_33_method_47_code 31 = .ok (.iushr, 1) := by decide +kernel
theorem d_nlz_32 : decode jdk_33_method_47_code 32 = .ok (.istore_n 0, 1) := by decide +kernel
theorem d_nlz_4 : decode jdk_33_method_47_code 4 = .ok (.iload_n 0, 1) := by decide +kernel
theorem d_nlz_5 : decode jdk_33_method_47_code 5 = .ok (.ifCond .ne 8, 3) := by decide +kernel
theorem d_nlz_8 : decode jdk_33_method_47_code 8 = .ok (.bipush 32, 2) := by decide +kernel
theorem d_nlz_10 : decode jdk_33_method_47_code 10 = .ok (.goto 4, 3) := by decide +kernel
theorem d_nlz_14 : decode jdk_33_method_47_code 14 = .ok (.ireturn, 1) := by decide +kernel
theorem d_nlz_13 : decode jdk_33_method_47_code 13 = .ok (.iconst 0, 1) := by decide +kernel
theorem pn_nlz : plainName "java/lang/Integer" = true := by first | (simp [plainName, overriddenIn]; done) | decide +kernel
theorem d_ntzL_0 : decode jdk_35_method_49_code 0 = .ok (.lload_n 0, 1) := by decide +kernel
theorem d_ntzL_1 : decode jdk_35_method_49_code 1 = .ok (.l2i, 1) := by decide +kernel
theorem d_ntzL_2 : decode jdk_35_method_49_code 2 = .ok (.istore_n 2, 1) := by decide +kernel
theorem d_ntzL_3 : decode jdk_35_method_49_code 3 = .ok (.iload_n 2, 1) := by decide +kernel
theorem d_ntzL_4 : decode jdk_35_method_49_code 4 = .ok (.ifCond .ne 17, 3) := by decide +kernel
theorem d_ntzL_7 : decode jdk_35_method_49_code 7 = .ok (.bipush 32, 2) := by decide +kernel
theorem d_ntzL_9 : decode jdk_35_method_49_code 9 = .ok (.lload_n 0, 1) := by decide +kernel
theorem d_ntzL_10 : decode jdk_35_method_49_code 10 = .ok (.bipush 32, 2) := by decide +kernel
theorem d_ntzL_12 : decode jdk_35_method_49_code 12 = .ok (.lushr, 1) := by decide +kernel
theorem d_ntzL_13 : decode jdk_35_method_49_code 13 = .ok (.l2i, 1) := by decide +kernel
theorem d_ntzL_14 : decode jdk_35_method_49_code 14 = .ok (.invokestatic 311, 3) := by decide +kernel
theorem pd_0 : parseMethodDescriptor "(I)I" = some ⟨[.int], some .int⟩ := by decide +kernel
theorem d_ntzL_17 : decode jdk_35_method_49_code 17 = .ok (.iadd, 1) := by decide +kernel
theorem d_ntzL_18 : decode jdk_35_method_49_code 18 = .ok (.goto 7, 3) := by decide +kernel
theorem d_ntzL_25 : decode jdk_35_method_49_code 25 = .ok (.ireturn, 1) := by decide +kernel
theorem d_ntzL_21 : decode jdk_35_method_49_code 21 = .ok (.iload_n 2, 1) := by decide +kernel
theorem d_ntzL_22 : decode jdk_35_method_49_code 22 = .ok (.invokestatic 311, 3) := by decide +kernel
theorem pn_ntzL : plainName "java/lang/Long" = true := by first | (simp [plainName, overriddenIn]; done) | decide +kernel
theorem d_nlzL_0 : decode jdk_35_method_48_code 0 = .ok (.lload_n 0, 1) := by decide +kernel
theorem d_nlzL_1 : decode jdk_35_method_48_code 1 = .ok (.bipush 32, 2) := by decide +kernel
theorem d_nlzL_3 : decode jdk_35_method_48_code 3 = .ok (.lushr, 1) := by decide +kernel
theorem d_nlzL_4 : decode jdk_35_method_48_code 4 = .ok (.l2i, 1) := by decide +kernel
theorem d_nlzL_5 : decode jdk_35_method_48_code 5 = .ok (.istore_n 2, 1) := by decide +kernel
theorem d_nlzL_6 : decode jdk_35_method_48_code 6 = .ok (.iload_n 2, 1) := by decide +kernel
theorem d_nlzL_7 : decode jdk_35_method_48_code 7 = .ok (.ifCond .ne 14, 3) := by decide +kernel
theorem d_nlzL_10 : decode jdk_35_method_48_code 10 = .ok (.bipush 32, 2) := by decide +kernel
theorem d_nlzL_12 : decode jdk_35_method_48_code 12 = .ok (.lload_n 0, 1) := by decide +kernel
theorem d_nlzL_13 : decode jdk_35_method_48_code 13 = .ok (.l2i, 1) := by decide +kernel
theorem d_nlzL_14 : decode jdk_35_method_48_code 14 = .ok (.invokestatic 308, 3) := by decide +kernel
theorem d_nlzL_17 : decode jdk_35_method_48_code 17 = .ok (.iadd, 1) := by decide +kernel
theorem d_nlzL_18 : decode jdk_35_method_48_code 18 = .ok (.goto 7, 3) := by decide +kernel
theorem d_nlzL_25 : decode jdk_35_method_48_code 25 = .ok (.ireturn, 1) := by decide +kernel
theorem d_nlzL_21 : decode jdk_35_method_48_code 21 = .ok (.iload_n 2, 1) := by decide +kernel
theorem d_nlzL_22 : decode jdk_35_method_48_code 22 = .ok (.invokestatic 308, 3) := by decide +kernel
theorem pn_nlzL : plainName "java/lang/Long" = true := by first | (simp [plainName, overriddenIn]; done) | decide +kernel
theorem d_min_0 : decode jdk_29_method_69_code 0 = .ok (.iload_n 0, 1) := by decide +kernel
theorem d_min_1 : decode jdk_29_method_69_code 1 = .ok (.iload_n 1, 1) := by decide +kernel
theorem d_min_2 : decode jdk_29_method_69_code 2 = .ok (.if_icmp .gt 7, 3) := by decide +kernel
theorem d_min_9 : decode jdk_29_method_69_code 9 = .ok (.iload_n 1, 1) := by decide +kernel
theorem d_min_10 : decode jdk_29_method_69_code 10 = .ok (.ireturn, 1) := by decide +kernel
theorem d_min_5 : decode jdk_29_method_69_code 5 = .ok (.iload_n 0, 1) := by decide +kernel
theorem d_min_6 : decode jdk_29_method_69_code 6 = .ok (.goto 4, 3) := by decide +kernel
theorem d_nxt_0 : decode method_3_code 0 = .ok (.iload_n 1, 1) := by decide +kernel
theorem d_nxt_1 : decode method_3_code 1 = .ok (.ifCond .eq 19, 3) := by decide +kernel
theorem d_nxt_20 : decode method_3_code 20 = .ok (.iload_n 0, 1) := by decide +kernel
theorem d_nxt_21 : decode method_3_code 21 = .ok (.ireturn, 1) := by decide +kernel
theorem d_nxt_4 : decode method_3_code 4 = .ok (.iload_n 2, 1) := by decide +kernel
theorem d_nxt_5 : decode method_3_code 5 = .ok (.iload_n 3, 1) := by decide +kernel
theorem d_nxt_6 : decode method_3_code 6 = .ok (.if_icmp .lt 14, 3) := by decide +kernel
theorem d_nxt_9 : decode method_3_code 9 = .ok (.iload_n 0, 1) := by decide +kernel
theorem d_nxt_10 : decode method_3_code 10 = .ok (.ifCond .lt 8, 3) := by decide +kernel
theorem d_nxt_18 : decode method_3_code 18 = .ok (.iload_n 2, 1) := by decide +kernel
theorem d_nxt_19 : decode method_3_code 19 = .ok (.ireturn, 1) := by decide +kernel
theorem d_nxt_13 : decode method_3_code 13 = .ok (.iload_n 2, 1) := by decide +kernel
theorem d_nxt_14 : decode method_3_code 14 = .ok (.iload_n 0, 1) := by decide +kernel
theorem d_nxt_15 : decode method_3_code 15 = .ok (.if_icmp .ge 5, 3) := by decide +kernel
theorem pn_nxt : plainName "com/example/collate/collate/analysis/BitsSetPinLaw" = true := by first | (simp [plainName, overriddenIn]; done) | decide +kernel
theorem d_prv_0 : decode method_4_code 0 = .ok (.iload_n 1, 1) := by decide +kernel
theorem d_prv_1 : decode method_4_code 1 = .ok (.ifCond .eq 15, 3) := by decide +kernel
theorem d_prv_16 : decode method_4_code 16 = .ok (.iload_n 0, 1) := by decide +kernel
theorem d_prv_17 : decode method_4_code 17 = .ok (.ireturn, 1) := by decide +kernel
theorem d_prv_4 : decode method_4_code 4 = .ok (.iload_n 2, 1) := by decide +kernel
theorem d_prv_5 : decode method_4_code 5 = .ok (.iload_n 3, 1) := by decide +kernel
theorem d_prv_6 : decode method_4_code 6 = .ok (.if_icmp .gt 10, 3) := by decide +kernel
theorem d_prv_9 : decode method_4_code 9 = .ok (.iload_n 2, 1) := by decide +kernel
theorem d_prv_10 : decode method_4_code 10 = .ok (.iload_n 0, 1) := by decide +kernel
theorem d_prv_11 : decode method_4_code 11 = .ok (.if_icmp .le 5, 3) := by decide +kernel
theorem d_prv_14 : decode method_4_code 14 = .ok (.iload_n 2, 1) := by decide +kernel
theorem d_prv_15 : decode method_4_code 15 = .ok (.ireturn, 1) := by decide +kernel
theorem pn_prv : plainName "com/example/collate/collate/analysis/BitsSetPinLaw" = true := by first | (simp [plainName, overriddenIn]; done) | decide +kernel
theorem d_init_0 : decode prog_9_method_1_code 0 = .ok (.aload_n 0, 1) := by decide +kernel
theorem d_init_1 : decode prog_9_method_1_code 1 = .ok (.invokespecial 1, 3) := by decide +kernel
theorem d_init_4 : decode prog_9_method_1_code 4 = .ok (.aload_n 0, 1) := by decide +kernel
theorem d_init_5 : decode prog_9_method_1_code 5 = .ok (.iload_n 1, 1) := by decide +kernel
theorem d_init_6 : decode prog_9_method_1_code 6 = .ok (.bipush 63, 2) := by decide +kernel
theorem d_init_8 : decode prog_9_method_1_code 8 = .ok (.iadd, 1) := by decide +kernel
theorem d_init_9 : decode prog_9_method_1_code 9 = .ok (.bipush 6, 2) := by decide +kernel
theorem d_init_11 : decode prog_9_method_1_code 11 = .ok (.iushr, 1) := by decide +kernel
theorem d_init_12 : decode prog_9_method_1_code 12 = .ok (.newarray .long, 2) := by decide +kernel
theorem d_init_14 : decode prog_9_method_1_code 14 = .ok (.putfield 7, 3) := by decide +kernel
theorem d_init_17 : decode prog_9_method_1_code 17 = .ok (.aload_n 0, 1) := by decide +kernel
theorem d_init_18 : decode prog_9_method_1_code 18 = .ok (.aload_n 0, 1) := by decide +kernel
theorem d_init_19 : decode prog_9_method_1_code 19 = .ok (.getfield 7, 3) := by decide +kernel
theorem d_init_22 : decode prog_9_method_1_code 22 = .ok (.arraylength, 1) := by decide +kernel
theorem d_init_23 : decode prog_9_method_1_code 23 = .ok (.bipush 63, 2) := by decide +kernel
theorem d_init_25 : decode prog_9_method_1_code 25 = .ok (.iadd, 1) := by decide +kernel
theorem d_init_26 : decode prog_9_method_1_code 26 = .ok (.bipush 6, 2) := by decide +kernel
theorem d_init_28 : decode prog_9_method_1_code 28 = .ok (.iushr, 1) := by decide +kernel
theorem d_init_29 : decode prog_9_method_1_code 29 = .ok (.newarray .long, 2) := by decide +kernel
theorem d_init_31 : decode prog_9_method_1_code 31 = .ok (.putfield 13, 3) := by decide +kernel
theorem d_init_34 : decode prog_9_method_1_code 34 = .ok (.return_, 1) := by decide +kernel
theorem pn_init : plainName "com/example/collate/collate/analysis/Bits" = true := by first | (simp [plainName, overriddenIn]; done) | decide +kernel
theorem d_set_0 : decode prog_9_method_3_code 0 = .ok (.iload_n 1, 1) := by decide +kernel
theorem d_set_1 : decode prog_9_method_3_code 1 = .ok (.bipush 6, 2) := by decide +kernel
theorem d_set_3 : decode prog_9_method_3_code 3 = .ok (.iushr, 1) := by decide +kernel
theorem d_set_4 : decode prog_9_method_3_code 4 = .ok (.istore_n 3, 1) := by decide +kernel
theorem d_set_5 : decode prog_9_method_3_code 5 = .ok (.iload_n 2, 1) := by decide +kernel
theorem d_set_6 : decode prog_9_method_3_code 6 = .ok (.ifCond .eq 33, 3) := by decide +kernel
theorem d_set_39 : decode prog_9_method_3_code 39 = .ok (.aload_n 0, 1) := by decide +kernel
theorem d_set_40 : decode prog_9_method_3_code 40 = .ok (.getfield 7, 3) := by decide +kernel
theorem d_set_43 : decode prog_9_method_3_code 43 = .ok (.iload_n 3, 1) := by decide +kernel
theorem d_set_44 : decode prog_9_method_3_code 44 = .ok (.dup2, 1) := by decide +kernel
theorem d_set_45 : decode prog_9_method_3_code 45 = .ok (.laload, 1) := by decide +kernel
theorem d_set_46 : decode prog_9_method_3_code 46 = .ok (.lconst 1, 1) := by decide +kernel
theorem d_set_47 : decode prog_9_method_3_code 47 = .ok (.iload_n 1, 1) := by decide +kernel
theorem d_set_48 : decode prog_9_method_3_code 48 = .ok (.lshl, 1) := by decide +kernel
theorem d_set_49 : decode prog_9_method_3_code 49 = .ok (.ldc2_w 16, 3) := by decide +kernel
theorem d_set_52 : decode prog_9_method_3_code 52 = .ok (.lxor, 1) := by decide +kernel
theorem d_set_53 : decode prog_9_method_3_code 53 = .ok (.land, 1) := by decide +kernel
theorem d_set_54 : decode prog_9_method_3_code 54 = .ok (.lastore, 1) := by decide +kernel
theorem d_set_55 : decode prog_9_method_3_code 55 = .ok (.aload_n 0, 1) := by decide +kernel
theorem d_set_56 : decode prog_9_method_3_code 56 = .ok (.getfield 7, 3) := by decide +kernel
theorem d_set_59 : decode prog_9_method_3_code 59 = .ok (.iload_n 3, 1) := by decide +kernel
theorem d_set_60 : decode prog_9_method_3_code 60 = .ok (.laload, 1) := by decide +kernel
theorem d_set_61 : decode prog_9_method_3_code 61 = .ok (.lconst 0, 1) := by decide +kernel
theorem d_set_62 : decode prog_9_method_3_code 62 = .ok (.lcmp, 1) := by decide +kernel
theorem d_set_63 : decode prog_9_method_3_code 63 = .ok (.ifCond .ne 22, 3) := by decide +kernel
theorem d_set_66 : decode prog_9_method_3_code 66 = .ok (.aload_n 0, 1) := by decide +kernel
theorem d_set_67 : decode prog_9_method_3_code 67 = .ok (.getfield 13, 3) := by decide +kernel
theorem d_set_70 : decode prog_9_method_3_code 70 = .ok (.iload_n 3, 1) := by decide +kernel
theorem d_set_71 : decode prog_9_method_3_code 71 = .ok (.bipush 6, 2) := by decide +kernel
theorem d_set_73 : decode prog_9_method_3_code 73 = .ok (.iushr, 1) := by decide +kernel
theorem d_set_74 : decode prog_9_method_3_code 74 = .ok (.dup2, 1) := by decide +kernel
theorem d_set_75 : decode prog_9_method_3_code 75 = .ok (.laload, 1) := by decide +kernel
theorem d_set_76 : decode prog_9_method_3_code 76 = .ok (.lconst 1, 1) := by decide +kernel
theorem d_set_77 : decode prog_9_method_3_code 77 = .ok (.iload_n 3, 1) := by decide +kernel
theorem d_set_78 : decode prog_9_method_3_code 78 = .ok (.lshl, 1) := by decide +kernel
theorem d_set_79 : decode prog_9_method_3_code 79 = .ok (.ldc2_w 16, 3) := by decide +kernel
theorem d_set_82 : decode prog_9_method_3_code 82 = .ok (.lxor, 1) := by decide +kernel
theorem d_set_83 : decode prog_9_method_3_code 83 = .ok (.land, 1) := by decide +kernel
theorem d_set_84 : decode prog_9_method_3_code 84 = .ok (.lastore, 1) := by decide +kernel
theorem d_set_85 : decode prog_9_method_3_code 85 = .ok (.return_, 1) := by decide +kernel
theorem d_set_9 : decode prog_9_method_3_code 9 = .ok (.aload_n 0, 1) := by decide +kernel
theorem d_set_10 : decode prog_9_method_3_code 10 = .ok (.getfield 7, 3) := by decide +kernel
theorem d_set_13 : decode prog_9_method_3_code 13 = .ok (.iload_n 3, 1) := by decide +kernel
theorem d_set_14 : decode prog_9_method_3_code 14 = .ok (.dup2, 1) := by decide +kernel
theorem d_set_15 : decode prog_9_method_3_code 15 = .ok (.laload, 1) := by decide +kernel
theorem d_set_16 : decode prog_9_method_3_code 16 = .ok (.lconst 1, 1) := by decide +kernel
theorem d_set_17 : decode prog_9_method_3_code 17 = .ok (.iload_n 1, 1) := by decide +kernel
theorem d_set_18 : decode prog_9_method_3_code 18 = .ok (.lshl, 1) := by decide +kernel
theorem d_set_19 : decode prog_9_method_3_code 19 = .ok (.lor, 1) := by decide +kernel
theorem d_set_20 : decode prog_9_method_3_code 20 = .ok (.lastore, 1) := by decide +kernel
theorem d_set_21 : decode prog_9_method_3_code 21 = .ok (.aload_n 0, 1) := by decide +kernel
theorem d_set_22 : decode prog_9_method_3_code 22 = .ok (.getfield 13, 3) := by decide +kernel
theorem d_set_25 : decode prog_9_method_3_code 25 = .ok (.iload_n 3, 1) := by decide +kernel
theorem d_set_26 : decode prog_9_method_3_code 26 = .ok (.bipush 6, 2) := by decide +kernel
theorem d_set_28 : decode prog_9_method_3_code 28 = .ok (.iushr, 1) := by decide +kernel
theorem d_set_29 : decode prog_9_method_3_code 29 = .ok (.dup2, 1) := by decide +kernel
theorem d_set_30 : decode prog_9_method_3_code 30 = .ok (.laload, 1) := by decide +kernel
theorem d_set_31 : decode prog_9_method_3_code 31 = .ok (.lconst 1, 1) := by decide +kernel
theorem d_set_32 : decode prog_9_method_3_code 32 = .ok (.iload_n 3, 1) := by decide +kernel
theorem d_set_33 : decode prog_9_method_3_code 33 = .ok (.lshl, 1) := by decide +kernel
theorem d_set_34 : decode prog_9_method_3_code 34 = .ok (.lor, 1) := by decide +kernel
theorem d_set_35 : decode prog_9_method_3_code 35 = .ok (.lastore, 1) := by decide +kernel
theorem d_set_36 : decode prog_9_method_3_code 36 = .ok (.goto 49, 3) := by decide +kernel
theorem pn_set : plainName "com/example/collate/collate/analysis/Bits" = true := by first | (simp [plainName, overriddenIn]; done) | decide +kernel
theorem d_get_0 : decode prog_9_method_2_code 0 = .ok (.aload_n 0, 1) := by decide +kernel
theorem d_get_1 : decode prog_9_method_2_code 1 = .ok (.getfield 7, 3) := by decide +kernel
theorem d_get_4 : decode prog_9_method_2_code 4 = .ok (.iload_n 1, 1) := by decide +kernel
theorem d_get_5 : decode prog_9_method_2_code 5 = .ok (.bipush 6, 2) := by decide +kernel
theorem d_get_7 : decode prog_9_method_2_code 7 = .ok (.iushr, 1) := by decide +kernel
theorem d_get_8 : decode prog_9_method_2_code 8 = .ok (.laload, 1) := by decide +kernel
theorem d_get_9 : decode prog_9_method_2_code 9 = .ok (.lconst 1, 1) := by decide +kernel
theorem d_get_10 : decode prog_9_method_2_code 10 = .ok (.iload_n 1, 1) := by decide +kernel
theorem d_get_11 : decode prog_9_method_2_code 11 = .ok (.lshl, 1) := by decide +kernel
theorem d_get_12 : decode prog_9_method_2_code 12 = .ok (.land, 1) := by decide +kernel
theorem d_get_13 : decode prog_9_method_2_code 13 = .ok (.lconst 0, 1) := by decide +kernel
theorem d_get_14 : decode prog_9_method_2_code 14 = .ok (.lcmp, 1) := by decide +kernel
theorem d_get_15 : decode prog_9_method_2_code 15 = .ok (.ifCond .eq 7, 3) := by decide +kernel
theorem d_get_22 : decode prog_9_method_2_code 22 = .ok (.iconst 0, 1) := by decide +kernel
theorem d_get_23 : decode prog_9_method_2_code 23 = .ok (.ireturn, 1) := by decide +kernel
theorem d_get_18 : decode prog_9_method_2_code 18 = .ok (.iconst 1, 1) := by decide +kernel
theorem d_get_19 : decode prog_9_method_2_code 19 = .ok (.goto 4, 3) := by decide +kernel
theorem pn_get : plainName "com/example/collate/collate/analysis/Bits" = true := by first | (simp [plainName, overriddenIn]; done) | decide +kernel
theorem d_nw_0 : decode prog_9_method_6_code 0 = .ok (.iload_n 1, 1) := by decide +kernel
theorem d_nw_1 : decode prog_9_method_6_code 1 = .ok (.bipush 6, 2) := by decide +kernel
theorem d_nw_3 : decode prog_9_method_6_code 3 = .ok (.iushr, 1) := by decide +kernel
theorem d_nw_4 : decode prog_9_method_6_code 4 = .ok (.istore_n 2, 1) := by decide +kernel
theorem d_nw_5 : decode prog_9_method_6_code 5 = .ok (.iload_n 2, 1) := by decide +kernel
theorem d_nw_6 : decode prog_9_method_6_code 6 = .ok (.aload_n 0, 1) := by decide +kernel
theorem d_nw_7 : decode prog_9_method_6_code 7 = .ok (.getfield 13, 3) := by decide +kernel
theorem d_nw_10 : decode prog_9_method_6_code 10 = .ok (.arraylength, 1) := by decide +kernel
theorem d_nw_11 : decode prog_9_method_6_code 11 = .ok (.if_icmp .lt 5, 3) := by decide +kernel
theorem d_nw_16 : decode prog_9_method_6_code 16 = .ok (.aload_n 0, 1) := by decide +kernel
theorem d_nw_17 : decode prog_9_method_6_code 17 = .ok (.getfield 13, 3) := by decide +kernel
theorem d_nw_20 : decode prog_9_method_6_code 20 = .ok (.iload_n 2, 1) := by decide +kernel
theorem d_nw_21 : decode prog_9_method_6_code 21 = .ok (.laload, 1) := by decide +kernel
theorem d_nw_22 : decode prog_9_method_6_code 22 = .ok (.ldc2_w 16, 3) := by decide +kernel
theorem d_nw_25 : decode prog_9_method_6_code 25 = .ok (.iload_n 1, 1) := by decide +kernel
theorem d_nw_26 : decode prog_9_method_6_code 26 = .ok (.lshl, 1) := by decide +kernel
theorem d_nw_27 : decode prog_9_method_6_code 27 = .ok (.land, 1) := by decide +kernel
theorem d_nw_28 : decode prog_9_method_6_code 28 = .ok (.lstore_n 3, 1) := by decide +kernel
theorem d_nw_29 : decode prog_9_method_6_code 29 = .ok (.lload_n 3, 1) := by decide +kernel
theorem d_nw_30 : decode prog_9_method_6_code 30 = .ok (.lconst 0, 1) := by decide +kernel
theorem d_nw_31 : decode prog_9_method_6_code 31 = .ok (.lcmp, 1) := by decide +kernel
theorem d_nw_32 : decode prog_9_method_6_code 32 = .ok (.ifCond .ne 25, 3) := by decide +kernel
theorem d_nw_35 : decode prog_9_method_6_code 35 = .ok (.iinc 2 1, 3) := by decide +kernel
theorem d_nw_38 : decode prog_9_method_6_code 38 = .ok (.iload_n 2, 1) := by decide +kernel
theorem d_nw_39 : decode prog_9_method_6_code 39 = .ok (.aload_n 0, 1) := by decide +kernel
theorem d_nw_40 : decode prog_9_method_6_code 40 = .ok (.getfield 13, 3) := by decide +kernel
theorem d_nw_43 : decode prog_9_method_6_code 43 = .ok (.arraylength, 1) := by decide +kernel
theorem d_nw_44 : decode prog_9_method_6_code 44 = .ok (.if_icmp .ge 13, 3) := by decide +kernel
theorem d_nw_47 : decode prog_9_method_6_code 47 = .ok (.aload_n 0, 1) := by decide +kernel
theorem d_nw_48 : decode prog_9_method_6_code 48 = .ok (.getfield 13, 3) := by decide +kernel
theorem d_nw_51 : decode prog_9_method_6_code 51 = .ok (.iload_n 2, 1) := by decide +kernel
theorem d_nw_52 : decode prog_9_method_6_code 52 = .ok (.laload, 1) := by decide +kernel
theorem d_nw_53 : decode prog_9_method_6_code 53 = .ok (.lstore_n 3, 1) := by decide +kernel
theorem d_nw_54 : decode prog_9_method_6_code 54 = .ok (.goto (-25), 3) := by decide +kernel
theorem d_nw_57 : decode prog_9_method_6_code 57 = .ok (.lload_n 3, 1) := by decide +kernel
theorem d_nw_58 : decode prog_9_method_6_code 58 = .ok (.lconst 0, 1) := by decide +kernel
theorem d_nw_59 : decode prog_9_method_6_code 59 = .ok (.lcmp, 1) := by decide +kernel
theorem d_nw_60 : decode prog_9_method_6_code 60 = .ok (.ifCond .ne 7, 3) := by decide +kernel
theorem d_nw_63 : decode prog_9_method_6_code 63 = .ok (.iconst (-1), 1) := by decide +kernel
theorem d_nw_64 : decode prog_9_method_6_code 64 = .ok (.goto 12, 3) := by decide +kernel
theorem d_nw_76 : decode prog_9_method_6_code 76 = .ok (.ireturn, 1) := by decide +kernel
theorem d_nw_67 : decode prog_9_method_6_code 67 = .ok (.iload_n 2, 1) := by decide +kernel
theorem d_nw_68 : decode prog_9_method_6_code 68 = .ok (.bipush 6, 2) := by decide +kernel
theorem d_nw_70 : decode prog_9_method_6_code 70 = .ok (.ishl, 1) := by decide +kernel
theorem d_nw_71 : decode prog_9_method_6_code 71 = .ok (.lload_n 3, 1) := by decide +kernel
theorem d_nw_72 : decode prog_9_method_6_code 72 = .ok (.invokestatic 28, 3) := by decide +kernel
theorem pd_1 : parseMethodDescriptor "(J)I" = some ⟨[.long], some .int⟩ := by decide +kernel
theorem d_nw_75 : decode prog_9_method_6_code 75 = .ok (.iadd, 1) := by decide +kernel
theorem d_nw_14 : decode prog_9_method_6_code 14 = .ok (.iconst (-1), 1) := by decide +kernel
theorem d_nw_15 : decode prog_9_method_6_code 15 = .ok (.ireturn, 1) := by decide +kernel
theorem pn_nw : plainName "com/example/collate/collate/analysis/Bits" = true := by first | (simp [plainName, overriddenIn]; done) | decide +kernel
theorem d_pw_0 : decode prog_9_method_8_code 0 = .ok (.iload_n 1, 1) := by decide +kernel
theorem d_pw_1 : decode prog_9_method_8_code 1 = .ok (.ifCond .ge 5, 3) := by decide +kernel
theorem d_pw_4 : decode prog_9_method_8_code 4 = .ok (.iconst (-1), 1) := by decide +kernel
theorem d_pw_5 : decode prog_9_method_8_code 5 = .ok (.ireturn, 1) := by decide +kernel
theorem d_pw_6 : decode prog_9_method_8_code 6 = .ok (.iload_n 1, 1) := by decide +kernel
theorem d_pw_7 : decode prog_9_method_8_code 7 = .ok (.bipush 6, 2) := by decide +kernel
theorem d_pw_9 : decode prog_9_method_8_code 9 = .ok (.iushr, 1) := by decide +kernel
theorem d_pw_10 : decode prog_9_method_8_code 10 = .ok (.istore_n 2, 1) := by decide +kernel
theorem d_pw_11 : decode prog_9_method_8_code 11 = .ok (.aload_n 0, 1) := by decide +kernel
theorem d_pw_12 : decode prog_9_method_8_code 12 = .ok (.getfield 13, 3) := by decide +kernel
theorem d_pw_15 : decode prog_9_method_8_code 15 = .ok (.iload_n 2, 1) := by decide +kernel
theorem d_pw_16 : decode prog_9_method_8_code 16 = .ok (.laload, 1) := by decide +kernel
theorem d_pw_17 : decode prog_9_method_8_code 17 = .ok (.ldc2_w 16, 3) := by decide +kernel
theorem d_pw_20 : decode prog_9_method_8_code 20 = .ok (.bipush 63, 2) := by decide +kernel
theorem d_pw_22 : decode prog_9_method_8_code 22 = .ok (.iload_n 1, 1) := by decide +kernel
theorem d_pw_23 : decode prog_9_method_8_code 23 = .ok (.bipush 63, 2) := by decide +kernel
theorem d_pw_25 : decode prog_9_method_8_code 25 = .ok (.iand, 1) := by decide +kernel
theorem d_pw_26 : decode prog_9_method_8_code 26 = .ok (.isub, 1) := by decide +kernel
theorem d_pw_27 : decode prog_9_method_8_code 27 = .ok (.lushr, 1) := by decide +kernel
theorem d_pw_28 : decode prog_9_method_8_code 28 = .ok (.land, 1) := by decide +kernel
theorem d_pw_29 : decode prog_9_method_8_code 29 = .ok (.lstore_n 3, 1) := by decide +kernel
theorem d_pw_30 : decode prog_9_method_8_code 30 = .ok (.lload_n 3, 1) := by decide +kernel
theorem d_pw_31 : decode prog_9_method_8_code 31 = .ok (.lconst 0, 1) := by decide +kernel
theorem d_pw_32 : decode prog_9_method_8_code 32 = .ok (.lcmp, 1) := by decide +kernel
theorem d_pw_33 : decode prog_9_method_8_code 33 = .ok (.ifCond .ne 20, 3) := by decide +kernel
theorem d_pw_36 : decode prog_9_method_8_code 36 = .ok (.iinc 2 (-1), 3) := by decide +kernel
theorem d_pw_39 : decode prog_9_method_8_code 39 = .ok (.iload_n 2, 1) := by decide +kernel
theorem d_pw_40 : decode prog_9_method_8_code 40 = .ok (.ifCond .lt 13, 3) := by decide +kernel
theorem d_pw_53 : decode prog_9_method_8_code 53 = .ok (.lload_n 3, 1) := by decide +kernel
theorem d_pw_54 : decode prog_9_method_8_code 54 = .ok (.lconst 0, 1) := by decide +kernel
theorem d_pw_55 : decode prog_9_method_8_code 55 = .ok (.lcmp, 1) := by decide +kernel
theorem d_pw_56 : decode prog_9_method_8_code 56 = .ok (.ifCond .ne 7, 3) := by decide +kernel
theorem d_pw_59 : decode prog_9_method_8_code 59 = .ok (.iconst (-1), 1) := by decide +kernel
theorem d_pw_60 : decode prog_9_method_8_code 60 = .ok (.goto 15, 3) := by decide +kernel
theorem d_pw_75 : decode prog_9_method_8_code 75 = .ok (.ireturn, 1) := by decide +kernel
theorem d_pw_63 : decode prog_9_method_8_code 63 = .ok (.iload_n 2, 1) := by decide +kernel
theorem d_pw_64 : decode prog_9_method_8_code 64 = .ok (.bipush 6, 2) := by decide +kernel
theorem d_pw_66 : decode prog_9_method_8_code 66 = .ok (.ishl, 1) := by decide +kernel
theorem d_pw_67 : decode prog_9_method_8_code 67 = .ok (.bipush 63, 2) := by decide +kernel
theorem d_pw_69 : decode prog_9_method_8_code 69 = .ok (.iadd, 1) := by decide +kernel
theorem d_pw_70 : decode prog_9_method_8_code 70 = .ok (.lload_n 3, 1) := by decide +kernel
theorem d_pw_71 : decode prog_9_method_8_code 71 = .ok (.invokestatic 43, 3) := by decide +kernel
theorem d_pw_74 : decode prog_9_method_8_code 74 = .ok (.isub, 1) := by decide +kernel
theorem d_pw_43 : decode prog_9_method_8_code 43 = .ok (.aload_n 0, 1) := by decide +kernel
theorem d_pw_44 : decode prog_9_method_8_code 44 = .ok (.getfield 13, 3) := by decide +kernel
theorem d_pw_47 : decode prog_9_method_8_code 47 = .ok (.iload_n 2, 1) := by decide +kernel
theorem d_pw_48 : decode prog_9_method_8_code 48 = .ok (.laload, 1) := by decide +kernel
theorem d_pw_49 : decode prog_9_method_8_code 49 = .ok (.lstore_n 3, 1) := by decide +kernel
theorem d_pw_50 : decode prog_9_method_8_code 50 = .ok (.goto (-20), 3) := by decide +kernel
theorem pn_pw : plainName "com/example/collate/collate/analysis/Bits" = true := by first | (simp [plainName, overriddenIn]; done) | decide +kernel
theorem d_nsb_0 : decode prog_9_method_5_code 0 = .ok (.iload_n 1, 1) := by decide +kernel
theorem d_nsb_1 : decode prog_9_method_5_code 1 = .ok (.bipush 6, 2) := by decide +kernel
theorem d_nsb_3 : decode prog_9_method_5_code 3 = .ok (.iushr, 1) := by decide +kernel
theorem d_nsb_4 : decode prog_9_method_5_code 4 = .ok (.istore_n 2, 1) := by decide +kernel
theorem d_nsb_5 : decode prog_9_method_5_code 5 = .ok (.iload_n 2, 1) := by decide +kernel
theorem d_nsb_6 : decode prog_9_method_5_code 6 = .ok (.aload_n 0, 1) := by decide +kernel
theorem d_nsb_7 : decode prog_9_method_5_code 7 = .ok (.getfield 7, 3) := by decide +kernel
theorem d_nsb_10 : decode prog_9_method_5_code 10 = .ok (.arraylength, 1) := by decide +kernel
theorem d_nsb_11 : decode prog_9_method_5_code 11 = .ok (.if_icmp .lt 5, 3) := by decide +kernel
theorem d_nsb_16 : decode prog_9_method_5_code 16 = .ok (.aload_n 0, 1) := by decide +kernel
theorem d_nsb_17 : decode prog_9_method_5_code 17 = .ok (.getfield 7, 3) := by decide +kernel
theorem d_nsb_20 : decode prog_9_method_5_code 20 = .ok (.iload_n 2, 1) := by decide +kernel
theorem d_nsb_21 : decode prog_9_method_5_code 21 = .ok (.laload, 1) := by decide +kernel
theorem d_nsb_22 : decode prog_9_method_5_code 22 = .ok (.ldc2_w 16, 3) := by decide +kernel
theorem d_nsb_25 : decode prog_9_method_5_code 25 = .ok (.iload_n 1, 1) := by decide +kernel
theorem d_nsb_26 : decode prog_9_method_5_code 26 = .ok (.lshl, 1) := by decide +kernel
theorem d_nsb_27 : decode prog_9_method_5_code 27 = .ok (.land, 1) := by decide +kernel
theorem d_nsb_28 : decode prog_9_method_5_code 28 = .ok (.lstore_n 3, 1) := by decide +kernel
theorem d_nsb_29 : decode prog_9_method_5_code 29 = .ok (.lload_n 3, 1) := by decide +kernel
theorem d_nsb_30 : decode prog_9_method_5_code 30 = .ok (.lconst 0, 1) := by decide +kernel
theorem d_nsb_31 : decode prog_9_method_5_code 31 = .ok (.lcmp, 1) := by decide +kernel
theorem d_nsb_32 : decode prog_9_method_5_code 32 = .ok (.ifCond .ne 26, 3) := by decide +kernel
theorem d_nsb_35 : decode prog_9_method_5_code 35 = .ok (.aload_n 0, 1) := by decide +kernel
theorem d_nsb_36 : decode prog_9_method_5_code 36 = .ok (.iload_n 2, 1) := by decide +kernel
theorem d_nsb_37 : decode prog_9_method_5_code 37 = .ok (.iconst 1, 1) := by decide +kernel
theorem d_nsb_38 : decode prog_9_method_5_code 38 = .ok (.iadd, 1) := by decide +kernel
theorem d_nsb_39 : decode prog_9_method_5_code 39 = .ok (.invokevirtual 24, 3) := by decide +kernel
theorem d_nsb_42 : decode prog_9_method_5_code 42 = .ok (.istore_n 2, 1) := by decide +kernel
theorem d_nsb_43 : decode prog_9_method_5_code 43 = .ok (.iload_n 2, 1) := by decide +kernel
theorem d_nsb_44 : decode prog_9_method_5_code 44 = .ok (.ifCond .ge 7, 3) := by decide +kernel
theorem d_nsb_47 : decode prog_9_method_5_code 47 = .ok (.lconst 0, 1) := by decide +kernel
theorem d_nsb_48 : decode prog_9_method_5_code 48 = .ok (.goto 9, 3) := by decide +kernel
theorem d_nsb_57 : decode prog_9_method_5_code 57 = .ok (.lstore_n 3, 1) := by decide +kernel
theorem d_nsb_58 : decode prog_9_method_5_code 58 = .ok (.lload_n 3, 1) := by decide +kernel
theorem d_nsb_59 : decode prog_9_method_5_code 59 = .ok (.lconst 0, 1) := by decide +kernel
theorem d_nsb_60 : decode prog_9_method_5_code 60 = .ok (.lcmp, 1) := by decide +kernel
theorem d_nsb_61 : decode prog_9_method_5_code 61 = .ok (.ifCond .ne 7, 3) := by decide +kernel
theorem d_nsb_64 : decode prog_9_method_5_code 64 = .ok (.iconst (-1), 1) := by decide +kernel
theorem d_nsb_65 : decode prog_9_method_5_code 65 = .ok (.goto 12, 3) := by decide +kernel
theorem d_nsb_77 : decode prog_9_method_5_code 77 = .ok (.ireturn, 1) := by decide +kernel
theorem d_nsb_51 : decode prog_9_method_5_code 51 = .ok (.aload_n 0, 1) := by decide +kernel
theorem d_nsb_52 : decode prog_9_method_5_code 52 = .ok (.getfield 7, 3) := by decide +kernel
theorem d_nsb_55 : decode prog_9_method_5_code 55 = .ok (.iload_n 2, 1) := by decide +kernel
theorem d_nsb_56 : decode prog_9_method_5_code 56 = .ok (.laload, 1) := by decide +kernel
theorem d_nsb_68 : decode prog_9_method_5_code 68 = .ok (.iload_n 2, 1) := by decide +kernel
theorem d_nsb_69 : decode prog_9_method_5_code 69 = .ok (.bipush 6, 2) := by decide +kernel
theorem d_nsb_71 : decode prog_9_method_5_code 71 = .ok (.ishl, 1) := by decide +kernel
theorem d_nsb_72 : decode prog_9_method_5_code 72 = .ok (.lload_n 3, 1) := by decide +kernel
theorem d_nsb_73 : decode prog_9_method_5_code 73 = .ok (.invokestatic 28, 3) := by decide +kernel
theorem d_nsb_76 : decode prog_9_method_5_code 76 = .ok (.iadd, 1) := by decide +kernel
theorem pn_nsb : plainName "com/example/collate/collate/analysis/Bits" = true := by first | (simp [plainName, overriddenIn]; done) | decide +kernel
theorem d_psb_0 : decode prog_9_method_7_code 0 = .ok (.iload_n 1, 1) := by decide +kernel
theorem d_psb_1 : decode prog_9_method_7_code 1 = .ok (.ifCond .lt 11, 3) := by decide +kernel
theorem d_psb_4 : decode prog_9_method_7_code 4 = .ok (.aload_n 0, 1) := by decide +kernel
theorem d_psb_5 : decode prog_9_method_7_code 5 = .ok (.getfield 7, 3) := by decide +kernel
theorem d_psb_8 : decode prog_9_method_7_code 8 = .ok (.arraylength, 1) := by decide +kernel
theorem d_psb_9 : decode prog_9_method_7_code 9 = .ok (.ifCond .ne 5, 3) := by decide +kernel
theorem d_psb_14 : decode prog_9_method_7_code 14 = .ok (.iload_n 1, 1) := by decide +kernel
theorem d_psb_15 : decode prog_9_method_7_code 15 = .ok (.bipush 6, 2) := by decide +kernel
theorem d_psb_17 : decode prog_9_method_7_code 17 = .ok (.iushr, 1) := by decide +kernel
theorem d_psb_18 : decode prog_9_method_7_code 18 = .ok (.aload_n 0, 1) := by decide +kernel
theorem d_psb_19 : decode prog_9_method_7_code 19 = .ok (.getfield 7, 3) := by decide +kernel
theorem d_psb_22 : decode prog_9_method_7_code 22 = .ok (.arraylength, 1) := by decide +kernel
theorem d_psb_23 : decode prog_9_method_7_code 23 = .ok (.iconst 1, 1) := by decide +kernel
theorem d_psb_24 : decode prog_9_method_7_code 24 = .ok (.isub, 1) := by decide +kernel
theorem d_psb_25 : decode prog_9_method_7_code 25 = .ok (.invokestatic 34, 3) := by decide +kernel
theorem pd_2 : parseMethodDescriptor "(II)I" = some ⟨[.int, .int], some .int⟩ := by decide +kernel
theorem d_psb_28 : decode prog_9_method_7_code 28 = .ok (.istore_n 2, 1) := by decide +kernel
theorem d_psb_29 : decode prog_9_method_7_code 29 = .ok (.iload_n 2, 1) := by decide +kernel
theorem d_psb_30 : decode prog_9_method_7_code 30 = .ok (.iload_n 1, 1) := by decide +kernel
theorem d_psb_31 : decode prog_9_method_7_code 31 = .ok (.bipush 6, 2) := by decide +kernel
theorem d_psb_33 : decode prog_9_method_7_code 33 = .ok (.iushr, 1) := by decide +kernel
theorem d_psb_34 : decode prog_9_method_7_code 34 = .ok (.if_icmp .ne 24, 3) := by decide +kernel
theorem d_psb_37 : decode prog_9_method_7_code 37 = .ok (.aload_n 0, 1) := by decide +kernel
theorem d_psb_38 : decode prog_9_method_7_code 38 = .ok (.getfield 7, 3) := by decide +kernel
theorem d_psb_41 : decode prog_9_method_7_code 41 = .ok (.iload_n 2, 1) := by decide +kernel
theorem d_psb_42 : decode prog_9_method_7_code 42 = .ok (.laload, 1) := by decide +kernel
theorem d_psb_43 : decode prog_9_method_7_code 43 = .ok (.ldc2_w 16, 3) := by decide +kernel
theorem d_psb_46 : decode prog_9_method_7_code 46 = .ok (.bipush 63, 2) := by decide +kernel
theorem d_psb_48 : decode prog_9_method_7_code 48 = .ok (.iload_n 1, 1) := by decide +kernel
theorem d_psb_49 : decode prog_9_method_7_code 49 = .ok (.bipush 63, 2) := by decide +kernel
theorem d_psb_51 : decode prog_9_method_7_code 51 = .ok (.iand, 1) := by decide +kernel
theorem d_psb_52 : decode prog_9_method_7_code 52 = .ok (.isub, 1) := by decide +kernel
theorem d_psb_53 : decode prog_9_method_7_code 53 = .ok (.lushr, 1) := by decide +kernel
theorem d_psb_54 : decode prog_9_method_7_code 54 = .ok (.land, 1) := by decide +kernel
theorem d_psb_55 : decode prog_9_method_7_code 55 = .ok (.goto 9, 3) := by decide +kernel
theorem d_psb_64 : decode prog_9_method_7_code 64 = .ok (.lstore_n 3, 1) := by decide +kernel
theorem d_psb_65 : decode prog_9_method_7_code 65 = .ok (.lload_n 3, 1) := by decide +kernel
theorem d_psb_66 : decode prog_9_method_7_code 66 = .ok (.lconst 0, 1) := by decide +kernel
theorem d_psb_67 : decode prog_9_method_7_code 67 = .ok (.lcmp, 1) := by decide +kernel
theorem d_psb_68 : decode prog_9_method_7_code 68 = .ok (.ifCond .ne 26, 3) := by decide +kernel
theorem d_psb_71 : decode prog_9_method_7_code 71 = .ok (.aload_n 0, 1) := by decide +kernel
theorem d_psb_72 : decode prog_9_method_7_code 72 = .ok (.iload_n 2, 1) := by decide +kernel
theorem d_psb_73 : decode prog_9_method_7_code 73 = .ok (.iconst 1, 1) := by decide +kernel
theorem d_psb_74 : decode prog_9_method_7_code 74 = .ok (.isub, 1) := by decide +kernel
theorem d_psb_75 : decode prog_9_method_7_code 75 = .ok (.invokevirtual 40, 3) := by decide +kernel
theorem d_psb_78 : decode prog_9_method_7_code 78 = .ok (.istore_n 2, 1) := by decide +kernel
theorem d_psb_79 : decode prog_9_method_7_code 79 = .ok (.iload_n 2, 1) := by decide +kernel
theorem d_psb_80 : decode prog_9_method_7_code 80 = .ok (.ifCond .ge 7, 3) := by decide +kernel
theorem d_psb_83 : decode prog_9_method_7_code 83 = .ok (.lconst 0, 1) := by decide +kernel
theorem d_psb_84 : decode prog_9_method_7_code 84 = .ok (.goto 9, 3) := by decide +kernel
theorem d_psb_93 : decode prog_9_method_7_code 93 = .ok (.lstore_n 3, 1) := by decide +kernel
theorem d_psb_94 : decode prog_9_method_7_code 94 = .ok (.lload_n 3, 1) := by decide +kernel
theorem d_psb_95 : decode prog_9_method_7_code 95 = .ok (.lconst 0, 1) := by decide +kernel
theorem d_psb_96 : decode prog_9_method_7_code 96 = .ok (.lcmp, 1) := by decide +kernel
theorem d_psb_97 : decode prog_9_method_7_code 97 = .ok (.ifCond .ne 7, 3) := by decide +kernel
theorem d_psb_100 : decode prog_9_method_7_code 100 = .ok (.iconst (-1), 1) := by decide +kernel
theorem d_psb_101 : decode prog_9_method_7_code 101 = .ok (.goto 15, 3) := by decide +kernel
theorem d_psb_116 : decode prog_9_method_7_code 116 = .ok (.ireturn, 1) := by decide +kernel
theorem d_psb_87 : decode prog_9_method_7_code 87 = .ok (.aload_n 0, 1) := by decide +kernel
theorem d_psb_88 : decode prog_9_method_7_code 88 = .ok (.getfield 7, 3) := by decide +kernel
theorem d_psb_91 : decode prog_9_method_7_code 91 = .ok (.iload_n 2, 1) := by decide +kernel
theorem d_psb_92 : decode prog_9_method_7_code 92 = .ok (.laload, 1) := by decide +kernel
theorem d_psb_104 : decode prog_9_method_7_code 104 = .ok (.iload_n 2, 1) := by decide +kernel
theorem d_psb_105 : decode prog_9_method_7_code 105 = .ok (.bipush 6, 2) := by decide +kernel
theorem d_psb_107 : decode prog_9_method_7_code 107 = .ok (.ishl, 1) := by decide +kernel
theorem d_psb_108 : decode prog_9_method_7_code 108 = .ok (.bipush 63, 2) := by decide +kernel
theorem d_psb_110 : decode prog_9_method_7_code 110 = .ok (.iadd, 1) := by decide +kernel
theorem d_psb_111 : decode prog_9_method_7_code 111 = .ok (.lload_n 3, 1) := by decide +kernel
theorem d_psb_112 : decode prog_9_method_7_code 112 = .ok (.invokestatic 43, 3) := by decide +kernel
theorem d_psb_115 : decode prog_9_method_7_code 115 = .ok (.isub, 1) := by decide +kernel
theorem pn_psb : plainName "com/example/collate/collate/analysis/Bits" = true := by first | (simp [plainName, overriddenIn]; done) | decide +kernel
theorem pd_3 : parseMethodDescriptor "(I)V" = some ⟨[.int], none⟩ := by decide +kernel
theorem pd_4 : parseMethodDescriptor "(IZ)V" = some ⟨[.int, .boolean], none⟩ := by decide +kernel
theorem pd_5 : parseMethodDescriptor "(I)Z" = some ⟨[.int], some .boolean⟩ := by decide +kernel
theorem pd_6 : parseMethodDescriptor "(IZII)I" = some ⟨[.int, .boolean, .int, .int], some .int⟩ := by decide +kernel
theorem pn_law : plainName "com/example/collate/collate/analysis/BitsSetPinLaw" = true := by first | (simp [plainName, overriddenIn]; done) | decide +kernel
theorem own_mod (x k : Int32) (n : Int) (hk : k.toInt = n) (hn : 0 < n) : 0 ≤ ((x &&& (2147483647 : Int32)) % k).toInt ∧ ((x &&& (2147483647 : Int32)) % k).toInt < n := by
  have m1 : (x &&& (2147483647 : Int32)).toInt = x.toInt % 2 ^ 31 := Jvm.Kit.i32_mask x _ (k := 31) (by decide) (by decide)
  rw [Jvm.Kit.i32_rem_nonneg (by omega), m1, hk]
  exact ⟨Int.emod_nonneg _ (by omega), Int.emod_lt_of_pos _ hn⟩
theorem own_cases2 {i : Int32} (h0 : 0 ≤ i.toInt) (h1 : i.toInt < 2) : i = (0 : Int32) ∨ i = (1 : Int32) := by
  have h : i.toInt = 0 ∨ i.toInt = 1 := by omega
  rcases h with h | h
  · exact Or.inl (Int32.toInt_inj.mp (h.trans (by decide)))
  · exact Or.inr ((Int32.toInt_inj.mp (h.trans (by decide))))
def F_ntz (p0 : Int32) : Int32 := (if (0 : Int32) < ((p0 ^^^ (-1 : Int32)) &&& (p0 - (1 : Int32))) then (if (65536 : Int32) < ((p0 ^^^ (-1 : Int32)) &&& (p0 - (1 : Int32))) then (if (256 : Int32) < (XT.ushr ((p0 ^^^ (-1 : Int32)) &&& (p0 - (1 : Int32))) (16 : Int32)) then (if (16 : Int32) < (XT.ushr (XT.ushr ((p0 ^^^ (-1 : Int32)) &&& (p0 - (1 : Int32))) (16 : Int32)) (8 : Int32)) then (if (4 : Int32) < (XT.ushr (XT.ushr (XT.ushr ((p0 ^^^ (-1 : Int32)) &&& (p0 - (1 : Int32))) (16 : Int32)) (8 : Int32)) (4 : Int32)) then ((31 : Int32) + (XT.ushr (XT.ushr (XT.ushr (XT.ushr (XT.ushr ((p0 ^^^ (-1 : Int32)) &&& (p0 - (1 : Int32))) (16 : Int32)) (8 : Int32)) (4 : Int32)) (2 : Int32)) (1 : Int32))) else ((29 : Int32) + (XT.ushr (XT.ushr (XT.ushr (XT.ushr ((p0 ^^^ (-1 : Int32)) &&& (p0 - (1 : Int32))) (16 : Int32)) (8 : Int32)) (4 : Int32)) (1 : Int32)))) else (if (4 : Int32) < (XT.ushr (XT.ushr ((p0 ^^^ (-1 : Int32)) &&& (p0 - (1 : Int32))) (16 : Int32)) (8 : Int32)) then ((27 : Int32) + (XT.ushr (XT.ushr (XT.ushr (XT.ushr ((p0 ^^^ (-1 : Int32)) &&& (p0 - (1 : Int32))) (16 : Int32)) (8 : Int32)) (2 : Int32)) (1 : Int32))) else ((25 : Int32) + (XT.ushr (XT.ushr (XT.ushr ((p0 ^^^ (-1 : Int32)) &&& (p0 - (1 : Int32))) (16 : Int32)) (8 : Int32)) (1 : Int32))))) else (if (16 : Int32) < (XT.ushr ((p0 ^^^ (-1 : Int32)) &&& (p0 - (1 : Int32))) (16 : Int32)) then (if (4 : Int32) < (XT.ushr (XT.ushr ((p0 ^^^ (-1 : Int32)) &&& (p0 - (1 : Int32))) (16 : Int32)) (4 : Int32)) then ((23 : Int32) + (XT.ushr (XT.ushr (XT.ushr (XT.ushr ((p0 ^^^ (-1 : Int32)) &&& (p0 - (1 : Int32))) (16 : Int32)) (4 : Int32)) (2 : Int32)) (1 : Int32))) else ((21 : Int32) + (XT.ushr (XT.ushr (XT.ushr ((p0 ^^^ (-1 : Int32)) &&& (p0 - (1 : Int32))) (16 : Int32)) (4 : Int32)) (1 : Int32)))) else (if (4 : Int32) < (XT.ushr ((p0 ^^^ (-1 : Int32)) &&& (p0 - (1 : Int32))) (16 : Int32)) then ((19 : Int32) + (XT.ushr (XT.ushr (XT.ushr ((p0 ^^^ (-1 : Int32)) &&& (p0 - (1 : Int32))) (16 : Int32)) (2 : Int32)) (1 : Int32))) else ((17 : Int32) + (XT.ushr (XT.ushr ((p0 ^^^ (-1 : Int32)) &&& (p0 - (1 : Int32))) (16 : Int32)) (1 : Int32)))))) else (if (256 : Int32) < ((p0 ^^^ (-1 : Int32)) &&& (p0 - (1 : Int32))) then (if (16 : Int32) < (XT.ushr ((p0 ^^^ (-1 : Int32)) &&& (p0 - (1 : Int32))) (8 : Int32)) then (if (4 : Int32) < (XT.ushr (XT.ushr ((p0 ^^^ (-1 : Int32)) &&& (p0 - (1 : Int32))) (8 : Int32)) (4 : Int32)) then ((15 : Int32) + (XT.ushr (XT.ushr (XT.ushr (XT.ushr ((p0 ^^^ (-1 : Int32)) &&& (p0 - (1 : Int32))) (8 : Int32)) (4 : Int32)) (2 : Int32)) (1 : Int32))) else ((13 : Int32) + (XT.ushr (XT.ushr (XT.ushr ((p0 ^^^ (-1 : Int32)) &&& (p0 - (1 : Int32))) (8 : Int32)) (4 : Int32)) (1 : Int32)))) else (if (4 : Int32) < (XT.ushr ((p0 ^^^ (-1 : Int32)) &&& (p0 - (1 : Int32))) (8 : Int32)) then ((11 : Int32) + (XT.ushr (XT.ushr (XT.ushr ((p0 ^^^ (-1 : Int32)) &&& (p0 - (1 : Int32))) (8 : Int32)) (2 : Int32)) (1 : Int32))) else ((9 : Int32) + (XT.ushr (XT.ushr ((p0 ^^^ (-1 : Int32)) &&& (p0 - (1 : Int32))) (8 : Int32)) (1 : Int32))))) else (if (16 : Int32) < ((p0 ^^^ (-1 : Int32)) &&& (p0 - (1 : Int32))) then (if (4 : Int32) < (XT.ushr ((p0 ^^^ (-1 : Int32)) &&& (p0 - (1 : Int32))) (4 : Int32)) then ((7 : Int32) + (XT.ushr (XT.ushr (XT.ushr ((p0 ^^^ (-1 : Int32)) &&& (p0 - (1 : Int32))) (4 : Int32)) (2 : Int32)) (1 : Int32))) else ((5 : Int32) + (XT.ushr (XT.ushr ((p0 ^^^ (-1 : Int32)) &&& (p0 - (1 : Int32))) (4 : Int32)) (1 : Int32)))) else (if (4 : Int32) < ((p0 ^^^ (-1 : Int32)) &&& (p0 - (1 : Int32))) then ((3 : Int32) + (XT.ushr (XT.ushr ((p0 ^^^ (-1 : Int32)) &&& (p0 - (1 : Int32))) (2 : Int32)) (1 : Int32))) else ((1 : Int32) + (XT.ushr ((p0 ^^^ (-1 : Int32)) &&& (p0 - (1 : Int32))) (1 : Int32))))))) else (((p0 ^^^ (-1 : Int32)) &&& (p0 - (1 : Int32))) &&& (32 : Int32)))
def Q_ntz (p0 : Int32) (h0 : Heap) (v : Option Value) (h : Heap) (L : List Loc) : Prop := v = some (.int (F_ntz p0)) ∧ L = [] ∧ h = h0
theorem ef_ntz (m : MethodId) (x0 : Int32) : entryFrame m #[(.int x0)] 2 = mkF m 0 #[.val (.int x0), .unset] [] := by first | (simp [entryFrame, mkF, argsToLocals, Value.category]; done) | rfl
set_option maxRecDepth 65536 in
set_option maxHeartbeats 40000000 in
theorem rm_ntz (l : Launch) (Z : State) (a0 : Array Value) (hw : ∀ d ∈ tables_1, d.before a0 Z = true) (p0 : Int32) (h0 : Heap)  :
    Met l Z (⟨"java/lang/Integer", "numberOfTrailingZeros", "(I)I"⟩ : MethodName) jdk_33_method_48_code 2 (Option.some Jvm.ClassFile.FieldType.int) [] ({ frames := 0, cells := 0, slots := 0, locals := 0 } : Room) #[(.int p0)] h0 (Q_ntz p0 h0) := by
  refine Met.of (plainFor_of_name pn_ntz) ?_
  intro p e s m below meth c s₁ X0 hx hby hml hZ hown hnm e0 hret hlk
  refine Go.cast (ef_ntz m p0) ?_
  show Go _ _ _ _ s₁ (mkF m 0 #[.val (.int p0), .unset] []) _ _ _
  refine Go.iloadN X0 hx (hb hby d_ntz_0) rfl ?_
  show Go _ _ _ _ s₁ (mkF m 1 #[.val (.int p0), .unset] [(.int p0)]) _ _ _
  refine Go.iconst X0 hx (hb hby d_ntz_1) ?_
  show Go _ _ _ _ s₁ (mkF m 2 #[.val (.int p0), .unset] [(.int (-1 : Int32)), (.int p0)]) _ _ _
  refine Go.ixor X0 hx (hb hby d_ntz_2) ?_
  show Go _ _ _ _ s₁ (mkF m 3 #[.val (.int p0), .unset] [(.int (p0 ^^^ (-1 : Int32)))]) _ _ _
  refine Go.iloadN X0 hx (hb hby d_ntz_3) rfl ?_
  show Go _ _ _ _ s₁ (mkF m 4 #[.val (.int p0), .unset] [(.int p0), (.int (p0 ^^^ (-1 : Int32)))]) _ _ _
  refine Go.iconst X0 hx (hb hby d_ntz_4) ?_
  show Go _ _ _ _ s₁ (mkF m 5 #[.val (.int p0), .unset] [(.int (1 : Int32)), (.int p0), (.int (p0 ^^^ (-1 : Int32)))]) _ _ _
  refine Go.isub X0 hx (hb hby d_ntz_5) ?_
  show Go _ _ _ _ s₁ (mkF m 6 #[.val (.int p0), .unset] [(.int (p0 - (1 : Int32))), (.int (p0 ^^^ (-1 : Int32)))]) _ _ _
  refine Go.iand X0 hx (hb hby d_ntz_6) ?_
  show Go _ _ _ _ s₁ (mkF m 7 #[.val (.int p0), .unset] [(.int ((p0 ^^^ (-1 : Int32)) &&& (p0 - (1 : Int32))))]) _ _ _
  refine Go.istoreN X0 hx (hb hby d_ntz_7) (l' := #[.val (.int ((p0 ^^^ (-1 : Int32)) &&& (p0 - (1 : Int32)))), .unset]) rfl ?_
  show Go _ _ _ _ s₁ (mkF m 8 #[.val (.int ((p0 ^^^ (-1 : Int32)) &&& (p0 - (1 : Int32)))), .unset] []) _ _ _
  refine Go.iloadN X0 hx (hb hby d_ntz_8) rfl ?_
  show Go _ _ _ _ s₁ (mkF m 9 #[.val (.int ((p0 ^^^ (-1 : Int32)) &&& (p0 - (1 : Int32)))), .unset] [(.int ((p0 ^^^ (-1 : Int32)) &&& (p0 - (1 : Int32))))]) _ _ _
  rcases Decidable.em ((0 : Int32) < ((p0 ^^^ (-1 : Int32)) &&& (p0 - (1 : Int32)))) with c1 | c1
  · refine Go.ifYes X0 hx (hb hby d_ntz_9) (XT.i0_gt_t c1) (pc' := 17) (by decide) (by decide) ?_
    show Go _ _ _ _ s₁ (mkF m 17 #[.val (.int ((p0 ^^^ (-1 : Int32)) &&& (p0 - (1 : Int32)))), .unset] []) _ _ _
    refine Go.iconst X0 hx (hb hby d_ntz_17) ?_
    show Go _ _ _ _ s₁ (mkF m 18 #[.val (.int ((p0 ^^^ (-1 : Int32)) &&& (p0 - (1 : Int32)))), .unset] [(.int (1 : Int32))]) _ _ _
    refine Go.istoreN X0 hx (hb hby d_ntz_18) (l' := #[.val (.int ((p0 ^^^ (-1 : Int32)) &&& (p0 - (1 : Int32)))), .val (.int (1 : Int32))]) rfl ?_
    show Go _ _ _ _ s₁ (mkF m 19 #[.val (.int ((p0 ^^^ (-1 : Int32)) &&& (p0 - (1 : Int32)))), .val (.int (1 : Int32))] []) _ _ _
    refine Go.iloadN X0 hx (hb hby d_ntz_19) rfl ?_
    show Go _ _ _ _ s₁ (mkF m 20 #[.val (.int ((p0 ^^^ (-1 : Int32)) &&& (p0 - (1 : Int32)))), .val (.int (1 : Int32))] [(.int ((p0 ^^^ (-1 : Int32)) &&& (p0 - (1 : Int32))))]) _ _ _
    refine Go.ldcw X0 hx hZ hown (w63 hw) (hb hby d_ntz_20) ?_
    show Go _ _ _ _ s₁ (mkF m 23 #[.val (.int ((p0 ^^^ (-1 : Int32)) &&& (p0 - (1 : Int32)))), .val (.int (1 : Int32))] [(.int (65536 : Int32)), (.int ((p0 ^^^ (-1 : Int32)) &&& (p0 - (1 : Int32))))]) _ _ _
    rcases Decidable.em ((65536 : Int32) < ((p0 ^^^ (-1 : Int32)) &&& (p0 - (1 : Int32)))) with c2 | c2
    · refine Go.icmpNo X0 hx (hb hby d_ntz_23) (XT.ii_le_f c2) ?_
      show Go _ _ _ _ s₁ (mkF m 26 #[.val (.int ((p0 ^^^ (-1 : Int32)) &&& (p0 - (1 : Int32)))), .val (.int (1 : Int32))] []) _ _ _
      refine Go.iinc X0 hx (hb hby d_ntz_26) rfl (l' := #[.val (.int ((p0 ^^^ (-1 : Int32)) &&& (p0 - (1 : Int32)))), .val (.int (17 : Int32))]) rfl ?_
      show Go _ _ _ _ s₁ (mkF m 29 #[.val (.int ((p0 ^^^ (-1 : Int32)) &&& (p0 - (1 : Int32)))), .val (.int (17 : Int32))] []) _ _ _
      refine Go.iloadN X0 hx (hb hby d_ntz_29) rfl ?_
      show Go _ _ _ _ s₁ (mkF m 30 #[.val (.int ((p0 ^^^ (-1 : Int32)) &&& (p0 - (1 : Int32)))), .val (.int (17 : Int32))] [(.int ((p0 ^^^ (-1 : Int32)) &&& (p0 - (1 : Int32))))]) _ _ _
      refine Go.bipush X0 hx (hb hby d_ntz_30) ?_
      show Go _ _ _ _ s₁ (mkF m 32 #[.val (.int ((p0 ^^^ (-1 : Int32)) &&& (p0 - (1 : Int32)))), .val (.int (17 : Int32))] [(.int (16 : Int32)), (.int ((p0 ^^^ (-1 : Int32)) &&& (p0 - (1 : Int32))))]) _ _ _
      refine Go.iushr X0 hx (hb hby d_ntz_32) ?_
      show Go _ _ _ _ s₁ (mkF m 33 #[.val (.int ((p0 ^^^ (-1 : Int32)) &&& (p0 - (1 : Int32)))), .val (.int (17 : Int32))] [(.int (XT.ushr ((p0 ^^^ (-1 : Int32)) &&& (p0 - (1 : Int32))) (16 : Int32)))]) _ _ _
      refine Go.istoreN X0 hx (hb hby d_ntz_33) (l' := #[.val (.int (XT.ushr ((p0 ^^^ (-1 : Int32)) &&& (p0 - (1 : Int32))) (16 : Int32))), .val (.int (17 : Int32))]) rfl ?_
      show Go _ _ _ _ s₁ (mkF m 34 #[.val (.int (XT.ushr ((p0 ^^^ (-1 : Int32)) &&& (p0 - (1 : Int32))) (16 : Int32))), .val (.int (17 : Int32))] []) _ _ _
      refine Go.iloadN X0 hx (hb hby d_ntz_34) rfl ?_
      show Go _ _ _ _ s₁ (mkF m 35 #[.val (.int (XT.ushr ((p0 ^^^ (-1 : Int32)) &&& (p0 - (1 : Int32))) (16 : Int32))), .val (.int (17 : Int32))] [(.int (XT.ushr ((p0 ^^^ (-1 : Int32)) &&& (p0 - (1 : Int32))) (16 : Int32)))]) _ _ _
      refine Go.sipush X0 hx (hb hby d_ntz_35) ?_
      show Go _ _ _ _ s₁ (mkF m 38 #[.val (.int (XT.ushr ((p0 ^^^ (-1 : Int32)) &&& (p0 - (1 : Int32))) (16 : Int32))), .val (.int (17 : Int32))] [(.int (256 : Int32)), (.int (XT.ushr ((p0 ^^^ (-1 : Int32)) &&& (p0 - (1 : Int32))) (16 : Int32)))]) _ _ _
      rcases Decidable.em ((256 : Int32) < (XT.ushr ((p0 ^^^ (-1 : Int32)) &&& (p0 - (1 : Int32))) (16 : Int32))) with c3 | c3
      · refine Go.icmpNo X0 hx (hb hby d_ntz_38) (XT.ii_le_f c3) ?_
        show Go _ _ _ _ s₁ (mkF m 41 #[.val (.int (XT.ushr ((p0 ^^^ (-1 : Int32)) &&& (p0 - (1 : Int32))) (16 : Int32))), .val (.int (17 : Int32))] []) _ _ _
        refine Go.iinc X0 hx (hb hby d_ntz_41) rfl (l' := #[.val (.int (XT.ushr ((p0 ^^^ (-1 : Int32)) &&& (p0 - (1 : Int32))) (16 : Int32))), .val (.int (25 : Int32))]) rfl ?_
        show Go _ _ _ _ s₁ (mkF m 44 #[.val (.int (XT.ushr ((p0 ^^^ (-1 : Int32)) &&& (p0 - (1 : Int32))) (16 : Int32))), .val (.int (25 : Int32))] []) _ _ _
        refine Go.iloadN X0 hx (hb hby d_ntz_44) rfl ?_
        show Go _ _ _ _ s₁ (mkF m 45 #[.val (.int (XT.ushr ((p0 ^^^ (-1 : Int32)) &&& (p0 - (1 : Int32))) (16 : Int32))), .val (.int (25 : Int32))] [(.int (XT.ushr ((p0 ^^^ (-1 : Int32)) &&& (p0 - (1 : Int32))) (16 : Int32)))]) _ _ _
        refine Go.bipush X0 hx (hb hby d_ntz_45) ?_
        show Go _ _ _ _ s₁ (mkF m 47 #[.val (.int (XT.ushr ((p0 ^^^ (-1 : Int32)) &&& (p0 - (1 : Int32))) (16 : Int32))), .val (.int (25 : Int32))] [(.int (8 : Int32)), (.int (XT.ushr ((p0 ^^^ (-1 : Int32)) &&& (p0 - (1 : Int32))) (16 : Int32)))]) _ _ _
        refine Go.iushr X0 hx (hb hby d_ntz_47) ?_
        show Go _ _ _ _ s₁ (mkF m 48 #[.val (.int (XT.ushr ((p0 ^^^ (-1 : Int32)) &&& (p0 - (1 : Int32))) (16 : Int32))), .val (.int (25 : Int32))] [(.int (XT.ushr (XT.ushr ((p0 ^^^ (-1 : Int32)) &&& (p0 - (1 : Int32))) (16 : Int32)) (8 : Int32)))]) _ _ _
        refine Go.istoreN X0 hx (hb hby d_ntz_48) (l' := #[.val (.int (XT.ushr (XT.ushr ((p0 ^^^ (-1 : Int32)) &&& (p0 - (1 : Int32))) (16 : Int32)) (8 : Int32))), .val (.int (25 : Int32))]) rfl ?_
        show Go _ _ _ _ s₁ (mkF m 49 #[.val (.int (XT.ushr (XT.ushr ((p0 ^^^ (-1 : Int32)) &&& (p0 - (1 : Int32))) (16 : Int32)) (8 : Int32))), .val (.int (25 : Int32))] []) _ _ _
        refine Go.iloadN X0 hx (hb hby d_ntz_49) rfl ?_
        show Go _ _ _ _ s₁ (mkF m 50 #[.val (.int (XT.ushr (XT.ushr ((p0 ^^^ (-1 : Int32)) &&& (p0 - (1 : Int32))) (16 : Int32)) (8 : Int32))), .val (.int (25 : Int32))] [(.int (XT.ushr (XT.ushr ((p0 ^^^ (-1 : Int32)) &&& (p0 - (1 : Int32))) (16 : Int32)) (8 : Int32)))]) _ _ _
        refine Go.bipush X0 hx (hb hby d_ntz_50) ?_
        show Go _ _ _ _ s₁ (mkF m 52 #[.val (.int (XT.ushr (XT.ushr ((p0 ^^^ (-1 : Int32)) &&& (p0 - (1 : Int32))) (16 : Int32)) (8 : Int32))), .val (.int (25 : Int32))] [(.int (16 : Int32)), (.int (XT.ushr (XT.ushr ((p0 ^^^ (-1 : Int32)) &&& (p0 - (1 : Int32))) (16 : Int32)) (8 : Int32)))]) _ _ _
        rcases Decidable.em ((16 : Int32) < (XT.ushr (XT.ushr ((p0 ^^^ (-1 : Int32)) &&& (p0 - (1 : Int32))) (16 : Int32)) (8 : Int32))) with c4 | c4
        · refine Go.icmpNo X0 hx (hb hby d_ntz_52) (XT.ii_le_f c4) ?_
          show Go _ _ _ _ s₁ (mkF m 55 #[.val (.int (XT.ushr (XT.ushr ((p0 ^^^ (-1 : Int32)) &&& (p0 - (1 : Int32))) (16 : Int32)) (8 : Int32))), .val (.int (25 : Int32))] []) _ _ _
          refine Go.iinc X0 hx (hb hby d_ntz_55) rfl (l' := #[.val (.int (XT.ushr (XT.ushr ((p0 ^^^ (-1 : Int32)) &&& (p0 - (1 : Int32))) (16 : Int32)) (8 : Int32))), .val (.int (29 : Int32))]) rfl ?_
          show Go _ _ _ _ s₁ (mkF m 58 #[.val (.int (XT.ushr (XT.ushr ((p0 ^^^ (-1 : Int32)) &&& (p0 - (1 : Int32))) (16 : Int32)) (8 : Int32))), .val (.int (29 : Int32))] []) _ _ _
          refine Go.iloadN X0 hx (hb hby d_ntz_58) rfl ?_
          show Go _ _ _ _ s₁ (mkF m 59 #[.val (.int (XT.ushr (XT.ushr ((p0 ^^^ (-1 : Int32)) &&& (p0 - (1 : Int32))) (16 : Int32)) (8 : Int32))), .val (.int (29 : Int32))] [(.int (XT.ushr (XT.ushr ((p0 ^^^ (-1 : Int32)) &&& (p0 - (1 : Int32))) (16 : Int32)) (8 : Int32)))]) _ _ _
          refine Go.iconst X0 hx (hb hby d_ntz_59) ?_
          show Go _ _ _ _ s₁ (mkF m 60 #[.val (.int (XT.ushr (XT.ushr ((p0 ^^^ (-1 : Int32)) &&& (p0 - (1 : Int32))) (16 : Int32)) (8 : Int32))), .val (.int (29 : Int32))] [(.int (4 : Int32)), (.int (XT.ushr (XT.ushr ((p0 ^^^ (-1 : Int32)) &&& (p0 - (1 : Int32))) (16 : Int32)) (8 : Int32)))]) _ _ _
          refine Go.iushr X0 hx (hb hby d_ntz_60) ?_
          show Go _ _ _ _ s₁ (mkF m 61 #[.val (.int (XT.ushr (XT.ushr ((p0 ^^^ (-1 : Int32)) &&& (p0 - (1 : Int32))) (16 : Int32)) (8 : Int32))), .val (.int (29 : Int32))] [(.int (XT.ushr (XT.ushr (XT.ushr ((p0 ^^^ (-1 : Int32)) &&& (p0 - (1 : Int32))) (16 : Int32)) (8 : Int32)) (4 : Int32)))]) _ _ _
          refine Go.istoreN X0 hx (hb hby d_ntz_61) (l' := #[.val (.int (XT.ushr (XT.ushr (XT.ushr ((p0 ^^^ (-1 : Int32)) &&& (p0 - (1 : Int32))) (16 : Int32)) (8 : Int32)) (4 : Int32))), .val (.int (29 : Int32))]) rfl ?_
          show Go _ _ _ _ s₁ (mkF m 62 #[.val (.int (XT.ushr (XT.ushr (XT.ushr ((p0 ^^^ (-1 : Int32)) &&& (p0 - (1 : Int32))) (16 : Int32)) (8 : Int32)) (4 : Int32))), .val (.int (29 : Int32))] []) _ _ _
          refine Go.iloadN X0 hx (hb hby d_ntz_62) rfl ?_
          show Go _ _ _ _ s₁ (mkF m 63 #[.val (.int (XT.ushr (XT.ushr (XT.ushr ((p0 ^^^ (-1 : Int32)) &&& (p0 - (1 : Int32))) (16 : Int32)) (8 : Int32)) (4 : Int32))), .val (.int (29 : Int32))] [(.int (XT.ushr (XT.ushr (XT.ushr ((p0 ^^^ (-1 : Int32)) &&& (p0 - (1 : Int32))) (16 : Int32)) (8 : Int32)) (4 : Int32)))]) _ _ _
          refine Go.iconst X0 hx (hb hby d_ntz_63) ?_
          show Go _ _ _ _ s₁ (mkF m 64 #[.val (.int (XT.ushr (XT.ushr (XT.ushr ((p0 ^^^ (-1 : Int32)) &&& (p0 - (1 : Int32))) (16 : Int32)) (8 : Int32)) (4 : Int32))), .val (.int (29 : Int32))] [(.int (4 : Int32)), (.int (XT.ushr (XT.ushr (XT.ushr ((p0 ^^^ (-1 : Int32)) &&& (p0 - (1 : Int32))) (16 : Int32)) (8 : Int32)) (4 : Int32)))]) _ _ _
          rcases Decidable.em ((4 : Int32) < (XT.ushr (XT.ushr (XT.ushr ((p0 ^^^ (-1 : Int32)) &&& (p0 - (1 : Int32))) (16 : Int32)) (8 : Int32)) (4 : Int32))) with c5 | c5
          · refine Go.icmpNo X0 hx (hb hby d_ntz_64) (XT.ii_le_f c5) ?_
            show Go _ _ _ _ s₁ (mkF m 67 #[.val (.int (XT.ushr (XT.ushr (XT.ushr ((p0 ^^^ (-1 : Int32)) &&& (p0 - (1 : Int32))) (16 : Int32)) (8 : Int32)) (4 : Int32))), .val (.int (29 : Int32))] []) _ _ _
            refine Go.iinc X0 hx (hb hby d_ntz_67) rfl (l' := #[.val (.int (XT.ushr (XT.ushr (XT.ushr ((p0 ^^^ (-1 : Int32)) &&& (p0 - (1 : Int32))) (16 : Int32)) (8 : Int32)) (4 : Int32))), .val (.int (31 : Int32))]) rfl ?_
            show Go _ _ _ _ s₁ (mkF m 70 #[.val (.int (XT.ushr (XT.ushr (XT.ushr ((p0 ^^^ (-1 : Int32)) &&& (p0 - (1 : Int32))) (16 : Int32)) (8 : Int32)) (4 : Int32))), .val (.int (31 : Int32))] []) _ _ _
            refine Go.iloadN X0 hx (hb hby d_ntz_70) rfl ?_
            show Go _ _ _ _ s₁ (mkF m 71 #[.val (.int (XT.ushr (XT.ushr (XT.ushr ((p0 ^^^ (-1 : Int32)) &&& (p0 - (1 : Int32))) (16 : Int32)) (8 : Int32)) (4 : Int32))), .val (.int (31 : Int32))] [(.int (XT.ushr (XT.ushr (XT.ushr ((p0 ^^^ (-1 : Int32)) &&& (p0 - (1 : Int32))) (16 : Int32)) (8 : Int32)) (4 : Int32)))]) _ _ _
            refine Go.iconst X0 hx (hb hby d_ntz_71) ?_
            show Go _ _ _ _ s₁ (mkF m 72 #[.val (.int (XT.ushr (XT.ushr (XT.ushr ((p0 ^^^ (-1 : Int32)) &&& (p0 - (1 : Int32))) (16 : Int32)) (8 : Int32)) (4 : Int32))), .val (.int (31 : Int32))] [(.int (2 : Int32)), (.int (XT.ushr (XT.ushr (XT.ushr ((p0 ^^^ (-1 : Int32)) &&& (p0 - (1 : Int32))) (16 : Int32)) (8 : Int32)) (4 : Int32)))]) _ _ _
            refine Go.iushr X0 hx (hb hby d_ntz_72) ?_
            show Go _ _ _ _ s₁ (mkF m 73 #[.val (.int (XT.ushr (XT.ushr (XT.ushr ((p0 ^^^ (-1 : Int32)) &&& (p0 - (1 : Int32))) (16 : Int32)) (8 : Int32)) (4 : Int32))), .val (.int (31 : Int32))] [(.int (XT.ushr (XT.ushr (XT.ushr (XT.ushr ((p0 ^^^ (-1 : Int32)) &&& (p0 - (1 : Int32))) (16 : Int32)) (8 : Int32)) (4 : Int32)) (2 : Int32)))]) _ _ _
            refine Go.istoreN X0 hx (hb hby d_ntz_73) (l' := #[.val (.int (XT.ushr (XT.ushr (XT.ushr (XT.ushr ((p0 ^^^ (-1 : Int32)) &&& (p0 - (1 : Int32))) (16 : Int32)) (8 : Int32)) (4 : Int32)) (2 : Int32))), .val (.int (31 : Int32))]) rfl ?_
            show Go _ _ _ _ s₁ (mkF m 74 #[.val (.int (XT.ushr (XT.ushr (XT.ushr (XT.ushr ((p0 ^^^ (-1 : Int32)) &&& (p0 - (1 : Int32))) (16 : Int32)) (8 : Int32)) (4 : Int32)) (2 : Int32))), .val (.int (31 : Int32))] []) _ _ _
            refine Go.iloadN X0 hx (hb hby d_ntz_74) rfl ?_
            show Go _ _ _ _ s₁ (mkF m 75 #[.val (.int (XT.ushr (XT.ushr (XT.ushr (XT.ushr ((p0 ^^^ (-1 : Int32)) &&& (p0 - (1 : Int32))) (16 : Int32)) (8 : Int32)) (4 : Int32)) (2 : Int32))), .val (.int (31 : Int32))] [(.int (31 : Int32))]) _ _ _
            refine Go.iloadN X0 hx (hb hby d_ntz_75) rfl ?_
            show Go _ _ _ _ s₁ (mkF m 76 #[.val (.int (XT.ushr (XT.ushr (XT.ushr (XT.ushr ((p0 ^^^ (-1 : Int32)) &&& (p0 - (1 : Int32))) (16 : Int32)) (8 : Int32)) (4 : Int32)) (2 : Int32))), .val (.int (31 : Int32))] [(.int (XT.ushr (XT.ushr (XT.ushr (XT.ushr ((p0 ^^^ (-1 : Int32)) &&& (p0 - (1 : Int32))) (16 : Int32)) (8 : Int32)) (4 : Int32)) (2 : Int32))), (.int (31 : Int32))]) _ _ _
            refine Go.iconst X0 hx (hb hby d_ntz_76) ?_
            show Go _ _ _ _ s₁ (mkF m 77 #[.val (.int (XT.ushr (XT.ushr (XT.ushr (XT.ushr ((p0 ^^^ (-1 : Int32)) &&& (p0 - (1 : Int32))) (16 : Int32)) (8 : Int32)) (4 : Int32)) (2 : Int32))), .val (.int (31 : Int32))] [(.int (1 : Int32)), (.int (XT.ushr (XT.ushr (XT.ushr (XT.ushr ((p0 ^^^ (-1 : Int32)) &&& (p0 - (1 : Int32))) (16 : Int32)) (8 : Int32)) (4 : Int32)) (2 : Int32))), (.int (31 : Int32))]) _ _ _
            refine Go.iushr X0 hx (hb hby d_ntz_77) ?_
            show Go _ _ _ _ s₁ (mkF m 78 #[.val (.int (XT.ushr (XT.ushr (XT.ushr (XT.ushr ((p0 ^^^ (-1 : Int32)) &&& (p0 - (1 : Int32))) (16 : Int32)) (8 : Int32)) (4 : Int32)) (2 : Int32))), .val (.int (31 : Int32))] [(.int (XT.ushr (XT.ushr (XT.ushr (XT.ushr (XT.ushr ((p0 ^^^ (-1 : Int32)) &&& (p0 - (1 : Int32))) (16 : Int32)) (8 : Int32)) (4 : Int32)) (2 : Int32)) (1 : Int32))), (.int (31 : Int32))]) _ _ _
            refine Go.iadd X0 hx (hb hby d_ntz_78) ?_
            show Go _ _ _ _ s₁ (mkF m 79 #[.val (.int (XT.ushr (XT.ushr (XT.ushr (XT.ushr ((p0 ^^^ (-1 : Int32)) &&& (p0 - (1 : Int32))) (16 : Int32)) (8 : Int32)) (4 : Int32)) (2 : Int32))), .val (.int (31 : Int32))] [(.int ((31 : Int32) + (XT.ushr (XT.ushr (XT.ushr (XT.ushr (XT.ushr ((p0 ^^^ (-1 : Int32)) &&& (p0 - (1 : Int32))) (16 : Int32)) (8 : Int32)) (4 : Int32)) (2 : Int32)) (1 : Int32))))]) _ _ _
            refine Go.retI X0 hx hlk hret (hb hby d_ntz_79) (by decide) (by decide) ?_
            rw [e0]
            exact ⟨by unfold F_ntz; rw [if_pos c1]; rw [if_pos c2]; rw [if_pos c3]; rw [if_pos c4]; rw [if_pos c5], rfl, rfl⟩
          · refine Go.icmpYes X0 hx (hb hby d_ntz_64) (XT.ii_le_t c5) (pc' := 74) (by decide) (by decide) ?_
            show Go _ _ _ _ s₁ (mkF m 74 #[.val (.int (XT.ushr (XT.ushr (XT.ushr ((p0 ^^^ (-1 : Int32)) &&& (p0 - (1 : Int32))) (16 : Int32)) (8 : Int32)) (4 : Int32))), .val (.int (29 : Int32))] []) _ _ _
            refine Go.iloadN X0 hx (hb hby d_ntz_74) rfl ?_
            show Go _ _ _ _ s₁ (mkF m 75 #[.val (.int (XT.ushr (XT.ushr (XT.ushr ((p0 ^^^ (-1 : Int32)) &&& (p0 - (1 : Int32))) (16 : Int32)) (8 : Int32)) (4 : Int32))), .val (.int (29 : Int32))] [(.int (29 : Int32))]) _ _ _
            refine Go.iloadN X0 hx (hb hby d_ntz_75) rfl ?_
            show Go _ _ _ _ s₁ (mkF m 76 #[.val (.int (XT.ushr (XT.ushr (XT.ushr ((p0 ^^^ (-1 : Int32)) &&& (p0 - (1 : Int32))) (16 : Int32)) (8 : Int32)) (4 : Int32))), .val (.int (29 : Int32))] [(.int (XT.ushr (XT.ushr (XT.ushr ((p0 ^^^ (-1 : Int32)) &&& (p0 - (1 : Int32))) (16 : Int32)) (8 : Int32)) (4 : Int32))), (.int (29 : Int32))]) _ _ _
            refine Go.iconst X0 hx (hb hby d_ntz_76) ?_
            show Go _ _ _ _ s₁ (mkF m 77 #[.val (.int (XT.ushr (XT.ushr (XT.ushr ((p0 ^^^ (-1 : Int32)) &&& (p0 - (1 : Int32))) (16 : Int32)) (8 : Int32)) (4 : Int32))), .val (.int (29 : Int32))] [(.int (1 : Int32)), (.int (XT.ushr (XT.ushr (XT.ushr ((p0 ^^^ (-1 : Int32)) &&& (p0 - (1 : Int32))) (16 : Int32)) (8 : Int32)) (4 : Int32))), (.int (29 : Int32))]) _ _ _
            refine Go.iushr X0 hx (hb hby d_ntz_77) ?_
            show Go _ _ _ _ s₁ (mkF m 78 #[.val (.int (XT.ushr (XT.ushr (XT.ushr ((p0 ^^^ (-1 : Int32)) &&& (p0 - (1 : Int32))) (16 : Int32)) (8 : Int32)) (4 : Int32))), .val (.int (29 : Int32))] [(.int (XT.ushr (XT.ushr (XT.ushr (XT.ushr ((p0 ^^^ (-1 : Int32)) &&& (p0 - (1 : Int32))) (16 : Int32)) (8 : Int32)) (4 : Int32)) (1 : Int32))), (.int (29 : Int32))]) _ _ _
            refine Go.iadd X0 hx (hb hby d_ntz_78) ?_
            show Go _ _ _ _ s₁ (mkF m 79 #[.val (.int (XT.ushr (XT.ushr (XT.ushr ((p0 ^^^ (-1 : Int32)) &&& (p0 - (1 : Int32))) (16 : Int32)) (8 : Int32)) (4 : Int32))), .val (.int (29 : Int32))] [(.int ((29 : Int32) + (XT.ushr (XT.ushr (XT.ushr (XT.ushr ((p0 ^^^ (-1 : Int32)) &&& (p0 - (1 : Int32))) (16 : Int32)) (8 : Int32)) (4 : Int32)) (1 : Int32))))]) _ _ _
            refine Go.retI X0 hx hlk hret (hb hby d_ntz_79) (by decide) (by decide) ?_
            rw [e0]
            exact ⟨by unfold F_ntz; rw [if_pos c1]; rw [if_pos c2]; rw [if_pos c3]; rw [if_pos c4]; rw [if_neg c5], rfl, rfl⟩
        · refine Go.icmpYes X0 hx (hb hby d_ntz_52) (XT.ii_le_t c4) (pc' := 62) (by decide) (by decide) ?_
          show Go _ _ _ _ s₁ (mkF m 62 #[.val (.int (XT.ushr (XT.ushr ((p0 ^^^ (-1 : Int32)) &&& (p0 - (1 : Int32))) (16 : Int32)) (8 : Int32))), .val (.int (25 : Int32))] []) _ _ _
          refine Go.iloadN X0 hx (hb hby d_ntz_62) rfl ?_
          show Go _ _ _ _ s₁ (mkF m 63 #[.val (.int (XT.ushr (XT.ushr ((p0 ^^^ (-1 : Int32)) &&& (p0 - (1 : Int32))) (16 : Int32)) (8 : Int32))), .val (.int (25 : Int32))] [(.int (XT.ushr (XT.ushr ((p0 ^^^ (-1 : Int32)) &&& (p0 - (1 : Int32))) (16 : Int32)) (8 : Int32)))]) _ _ _
          refine Go.iconst X0 hx (hb hby d_ntz_63) ?_
          show Go _ _ _ _ s₁ (mkF m 64 #[.val (.int (XT.ushr (XT.ushr ((p0 ^^^ (-1 : Int32)) &&& (p0 - (1 : Int32))) (16 : Int32)) (8 : Int32))), .val (.int (25 : Int32))] [(.int (4 : Int32)), (.int (XT.ushr (XT.ushr ((p0 ^^^ (-1 : Int32)) &&& (p0 - (1 : Int32))) (16 : Int32)) (8 : Int32)))]) _ _ _
          rcases Decidable.em ((4 : Int32) < (XT.ushr (XT.ushr ((p0 ^^^ (-1 : Int32)) &&& (p0 - (1 : Int32))) (16 : Int32)) (8 : Int32))) with c6 | c6
          · refine Go.icmpNo X0 hx (hb hby d_ntz_64) (XT.ii_le_f c6) ?_
            show Go _ _ _ _ s₁ (mkF m 67 #[.val (.int (XT.ushr (XT.ushr ((p0 ^^^ (-1 : Int32)) &&& (p0 - (1 : Int32))) (16 : Int32)) (8 : Int32))), .val (.int (25 : Int32))] []) _ _ _
            refine Go.iinc X0 hx (hb hby d_ntz_67) rfl (l' := #[.val (.int (XT.ushr (XT.ushr ((p0 ^^^ (-1 : Int32)) &&& (p0 - (1 : Int32))) (16 : Int32)) (8 : Int32))), .val (.int (27 : Int32))]) rfl ?_
            show Go _ _ _ _ s₁ (mkF m 70 #[.val (.int (XT.ushr (XT.ushr ((p0 ^^^ (-1 : Int32)) &&& (p0 - (1 : Int32))) (16 : Int32)) (8 : Int32))), .val (.int (27 : Int32))] []) _ _ _
            refine Go.iloadN X0 hx (hb hby d_ntz_70) rfl ?_
            show Go _ _ _ _ s₁ (mkF m 71 #[.val (.int (XT.ushr (XT.ushr ((p0 ^^^ (-1 : Int32)) &&& (p0 - (1 : Int32))) (16 : Int32)) (8 : Int32))), .val (.int (27 : Int32))] [(.int (XT.ushr (XT.ushr ((p0 ^^^ (-1 : Int32)) &&& (p0 - (1 : Int32))) (16 : Int32)) (8 : Int32)))]) _ _ _
            refine Go.iconst X0 hx (hb hby d_ntz_71) ?_
            show Go _ _ _ _ s₁ (mkF m 72 #[.val (.int (XT.ushr (XT.ushr ((p0 ^^^ (-1 : Int32)) &&& (p0 - (1 : Int32))) (16 : Int32)) (8 : Int32))), .val (.int (27 : Int32))] [(.int (2 : Int32)), (.int (XT.ushr (XT.ushr ((p0 ^^^ (-1 : Int32)) &&& (p0 - (1 : Int32))) (16 : Int32)) (8 : Int32)))]) _ _ _
            refine Go.iushr X0 hx (hb hby d_ntz_72) ?_
            show Go _ _ _ _ s₁ (mkF m 73 #[.val (.int (XT.ushr (XT.ushr ((p0 ^^^ (-1 : Int32)) &&& (p0 - (1 : Int32))) (16 : Int32)) (8 : Int32))), .val (.int (27 : Int32))] [(.int (XT.ushr (XT.ushr (XT.ushr ((p0 ^^^ (-1 : Int32)) &&& (p0 - (1 : Int32))) (16 : Int32)) (8 : Int32)) (2 : Int32)))]) _ _ _
            refine Go.istoreN X0 hx (hb hby d_ntz_73) (l' := #[.val (.int (XT.ushr (XT.ushr (XT.ushr ((p0 ^^^ (-1 : Int32)) &&& (p0 - (1 : Int32))) (16 : Int32)) (8 : Int32)) (2 : Int32))), .val (.int (27 : Int32))]) rfl ?_
            show Go _ _ _ _ s₁ (mkF m 74 #[.val (.int (XT.ushr (XT.ushr (XT.ushr ((p0 ^^^ (-1 : Int32)) &&& (p0 - (1 : Int32))) (16 : Int32)) (8 : Int32)) (2 : Int32))), .val (.int (27 : Int32))] []) _ _ _
            refine Go.iloadN X0 hx (hb hby d_ntz_74) rfl ?_
            show Go _ _ _ _ s₁ (mkF m 75 #[.val (.int (XT.ushr (XT.ushr (XT.ushr ((p0 ^^^ (-1 : Int32)) &&& (p0 - (1 : Int32))) (16 : Int32)) (8 : Int32)) (2 : Int32))), .val (.int (27 : Int32))] [(.int (27 : Int32))]) _ _ _
            refine Go.iloadN X0 hx (hb hby d_ntz_75) rfl ?_
            show Go _ _ _ _ s₁ (mkF m 76 #[.val (.int (XT.ushr (XT.ushr (XT.ushr ((p0 ^^^ (-1 : Int32)) &&& (p0 - (1 : Int32))) (16 : Int32)) (8 : Int32)) (2 : Int32))), .val (.int (27 : Int32))] [(.int (XT.ushr (XT.ushr (XT.ushr ((p0 ^^^ (-1 : Int32)) &&& (p0 - (1 : Int32))) (16 : Int32)) (8 : Int32)) (2 : Int32))), (.int (27 : Int32))]) _ _ _
            refine Go.iconst X0 hx (hb hby d_ntz_76) ?_
            show Go _ _ _ _ s₁ (mkF m 77 #[.val (.int (XT.ushr (XT.ushr (XT.ushr ((p0 ^^^ (-1 : Int32)) &&& (p0 - (1 : Int32))) (16 : Int32)) (8 : Int32)) (2 : Int32))), .val (.int (27 : Int32))] [(.int (1 : Int32)), (.int (XT.ushr (XT.ushr (XT.ushr ((p0 ^^^ (-1 : Int32)) &&& (p0 - (1 : Int32))) (16 : Int32)) (8 : Int32)) (2 : Int32))), (.int (27 : Int32))]) _ _ _
            refine Go.iushr X0 hx (hb hby d_ntz_77) ?_
            show Go _ _ _ _ s₁ (mkF m 78 #[.val (.int (XT.ushr (XT.ushr (XT.ushr ((p0 ^^^ (-1 : Int32)) &&& (p0 - (1 : Int32))) (16 : Int32)) (8 : Int32)) (2 : Int32))), .val (.int (27 : Int32))] [(.int (XT.ushr (XT.ushr (XT.ushr (XT.ushr ((p0 ^^^ (-1 : Int32)) &&& (p0 - (1 : Int32))) (16 : Int32)) (8 : Int32)) (2 : Int32)) (1 : Int32))), (.int (27 : Int32))]) _ _ _
            refine Go.iadd X0 hx (hb hby d_ntz_78) ?_
            show Go _ _ _ _ s₁ (mkF m 79 #[.val (.int (XT.ushr (XT.ushr (XT.ushr ((p0 ^^^ (-1 : Int32)) &&& (p0 - (1 : Int32))) (16 : Int32)) (8 : Int32)) (2 : Int32))), .val (.int (27 : Int32))] [(.int ((27 : Int32) + (XT.ushr (XT.ushr (XT.ushr (XT.ushr ((p0 ^^^ (-1 : Int32)) &&& (p0 - (1 : Int32))) (16 : Int32)) (8 : Int32)) (2 : Int32)) (1 : Int32))))]) _ _ _
            refine Go.retI X0 hx hlk hret (hb hby d_ntz_79) (by decide) (by decide) ?_
            rw [e0]
            exact ⟨by unfold F_ntz; rw [if_pos c1]; rw [if_pos c2]; rw [if_pos c3]; rw [if_neg c4]; rw [if_pos c6], rfl, rfl⟩
          · refine Go.icmpYes X0 hx (hb hby d_ntz_64) (XT.ii_le_t c6) (pc' := 74) (by decide) (by decide) ?_
            show Go _ _ _ _ s₁ (mkF m 74 #[.val (.int (XT.ushr (XT.ushr ((p0 ^^^ (-1 : Int32)) &&& (p0 - (1 : Int32))) (16 : Int32)) (8 : Int32))), .val (.int (25 : Int32))] []) _ _ _
            refine Go.iloadN X0 hx (hb hby d_ntz_74) rfl ?_
            show Go _ _ _ _ s₁ (mkF m 75 #[.val (.int (XT.ushr (XT.ushr ((p0 ^^^ (-1 : Int32)) &&& (p0 - (1 : Int32))) (16 : Int32)) (8 : Int32))), .val (.int (25 : Int32))] [(.int (25 : Int32))]) _ _ _
            refine Go.iloadN X0 hx (hb hby d_ntz_75) rfl ?_
            show Go _ _ _ _ s₁ (mkF m 76 #[.val (.int (XT.ushr (XT.ushr ((p0 ^^^ (-1 : Int32)) &&& (p0 - (1 : Int32))) (16 : Int32)) (8 : Int32))), .val (.int (25 : Int32))] [(.int (XT.ushr (XT.ushr ((p0 ^^^ (-1 : Int32)) &&& (p0 - (1 : Int32))) (16 : Int32)) (8 : Int32))), (.int (25 : Int32))]) _ _ _
            refine Go.iconst X0 hx (hb hby d_ntz_76) ?_
            show Go _ _ _ _ s₁ (mkF m 77 #[.val (.int (XT.ushr (XT.ushr ((p0 ^^^ (-1 : Int32)) &&& (p0 - (1 : Int32))) (16 : Int32)) (8 : Int32))), .val (.int (25 : Int32))] [(.int (1 : Int32)), (.int (XT.ushr (XT.ushr ((p0 ^^^ (-1 : Int32)) &&& (p0 - (1 : Int32))) (16 : Int32)) (8 : Int32))), (.int (25 : Int32))]) _ _ _
            refine Go.iushr X0 hx (hb hby d_ntz_77) ?_
            show Go _ _ _ _ s₁ (mkF m 78 #[.val (.int (XT.ushr (XT.ushr ((p0 ^^^ (-1 : Int32)) &&& (p0 - (1 : Int32))) (16 : Int32)) (8 : Int32))), .val (.int (25 : Int32))] [(.int (XT.ushr (XT.ushr (XT.ushr ((p0 ^^^ (-1 : Int32)) &&& (p0 - (1 : Int32))) (16 : Int32)) (8 : Int32)) (1 : Int32))), (.int (25 : Int32))]) _ _ _
            refine Go.iadd X0 hx (hb hby d_ntz_78) ?_
            show Go _ _ _ _ s₁ (mkF m 79 #[.val (.int (XT.ushr (XT.ushr ((p0 ^^^ (-1 : Int32)) &&& (p0 - (1 : Int32))) (16 : Int32)) (8 : Int32))), .val (.int (25 : Int32))] [(.int ((25 : Int32) + (XT.ushr (XT.ushr (XT.ushr ((p0 ^^^ (-1 : Int32)) &&& (p0 - (1 : Int32))) (16 : Int32)) (8 : Int32)) (1 : Int32))))]) _ _ _
            refine Go.retI X0 hx hlk hret (hb hby d_ntz_79) (by decide) (by decide) ?_
            rw [e0]
            exact ⟨by unfold F_ntz; rw [if_pos c1]; rw [if_pos c2]; rw [if_pos c3]; rw [if_neg c4]; rw [if_neg c6], rfl, rfl⟩
      · refine Go.icmpYes X0 hx (hb hby d_ntz_38) (XT.ii_le_t c3) (pc' := 49) (by decide) (by decide) ?_
        show Go _ _ _ _ s₁ (mkF m 49 #[.val (.int (XT.ushr ((p0 ^^^ (-1 : Int32)) &&& (p0 - (1 : Int32))) (16 : Int32))), .val (.int (17 : Int32))] []) _ _ _
        refine Go.iloadN X0 hx (hb hby d_ntz_49) rfl ?_
        show Go _ _ _ _ s₁ (mkF m 50 #[.val (.int (XT.ushr ((p0 ^^^ (-1 : Int32)) &&& (p0 - (1 : Int32))) (16 : Int32))), .val (.int (17 : Int32))] [(.int (XT.ushr ((p0 ^^^ (-1 : Int32)) &&& (p0 - (1 : Int32))) (16 : Int32)))]) _ _ _
        refine Go.bipush X0 hx (hb hby d_ntz_50) ?_
        show Go _ _ _ _ s₁ (mkF m 52 #[.val (.int (XT.ushr ((p0 ^^^ (-1 : Int32)) &&& (p0 - (1 : Int32))) (16 : Int32))), .val (.int (17 : Int32))] [(.int (16 : Int32)), (.int (XT.ushr ((p0 ^^^ (-1 : Int32)) &&& (p0 - (1 : Int32))) (16 : Int32)))]) _ _ _
        rcases Decidable.em ((16 : Int32) < (XT.ushr ((p0 ^^^ (-1 : Int32)) &&& (p0 - (1 : Int32))) (16 : Int32))) with c7 | c7
        · refine Go.icmpNo X0 hx (hb hby d_ntz_52) (XT.ii_le_f c7) ?_
          show Go _ _ _ _ s₁ (mkF m 55 #[.val (.int (XT.ushr ((p0 ^^^ (-1 : Int32)) &&& (p0 - (1 : Int32))) (16 : Int32))), .val (.int (17 : Int32))] []) _ _ _
          refine Go.iinc X0 hx (hb hby d_ntz_55) rfl (l' := #[.val (.int (XT.ushr ((p0 ^^^ (-1 : Int32)) &&& (p0 - (1 : Int32))) (16 : Int32))), .val (.int (21 : Int32))]) rfl ?_
          show Go _ _ _ _ s₁ (mkF m 58 #[.val (.int (XT.ushr ((p0 ^^^ (-1 : Int32)) &&& (p0 - (1 : Int32))) (16 : Int32))), .val (.int (21 : Int32))] []) _ _ _
          refine Go.iloadN X0 hx (hb hby d_ntz_58) rfl ?_
          show Go _ _ _ _ s₁ (mkF m 59 #[.val (.int (XT.ushr ((p0 ^^^ (-1 : Int32)) &&& (p0 - (1 : Int32))) (16 : Int32))), .val (.int (21 : Int32))] [(.int (XT.ushr ((p0 ^^^ (-1 : Int32)) &&& (p0 - (1 : Int32))) (16 : Int32)))]) _ _ _
          refine Go.iconst X0 hx (hb hby d_ntz_59) ?_
          show Go _ _ _ _ s₁ (mkF m 60 #[.val (.int (XT.ushr ((p0 ^^^ (-1 : Int32)) &&& (p0 - (1 : Int32))) (16 : Int32))), .val (.int (21 : Int32))] [(.int (4 : Int32)), (.int (XT.ushr ((p0 ^^^ (-1 : Int32)) &&& (p0 - (1 : Int32))) (16 : Int32)))]) _ _ _
          refine Go.iushr X0 hx (hb hby d_ntz_60) ?_
          show Go _ _ _ _ s₁ (mkF m 61 #[.val (.int (XT.ushr ((p0 ^^^ (-1 : Int32)) &&& (p0 - (1 : Int32))) (16 : Int32))), .val (.int (21 : Int32))] [(.int (XT.ushr (XT.ushr ((p0 ^^^ (-1 : Int32)) &&& (p0 - (1 : Int32))) (16 : Int32)) (4 : Int32)))]) _ _ _
          refine Go.istoreN X0 hx (hb hby d_ntz_61) (l' := #[.val (.int (XT.ushr (XT.ushr ((p0 ^^^ (-1 : Int32)) &&& (p0 - (1 : Int32))) (16 : Int32)) (4 : Int32))), .val (.int (21 : Int32))]) rfl ?_
          show Go _ _ _ _ s₁ (mkF m 62 #[.val (.int (XT.ushr (XT.ushr ((p0 ^^^ (-1 : Int32)) &&& (p0 - (1 : Int32))) (16 : Int32)) (4 : Int32))), .val (.int (21 : Int32))] []) _ _ _
          refine Go.iloadN X0 hx (hb hby d_ntz_62) rfl ?_
          show Go _ _ _ _ s₁ (mkF m 63 #[.val (.int (XT.ushr (XT.ushr ((p0 ^^^ (-1 : Int32)) &&& (p0 - (1 : Int32))) (16 : Int32)) (4 : Int32))), .val (.int (21 : Int32))] [(.int (XT.ushr (XT.ushr ((p0 ^^^ (-1 : Int32)) &&& (p0 - (1 : Int32))) (16 : Int32)) (4 : Int32)))]) _ _ _
          refine Go.iconst X0 hx (hb hby d_ntz_63) ?_
          show Go _ _ _ _ s₁ (mkF m 64 #[.val (.int (XT.ushr (XT.ushr ((p0 ^^^ (-1 : Int32)) &&& (p0 - (1 : Int32))) (16 : Int32)) (4 : Int32))), .val (.int (21 : Int32))] [(.int (4 : Int32)), (.int (XT.ushr (XT.ushr ((p0 ^^^ (-1 : Int32)) &&& (p0 - (1 : Int32))) (16 : Int32)) (4 : Int32)))]) _ _ _
          rcases Decidable.em ((4 : Int32) < (XT.ushr (XT.ushr ((p0 ^^^ (-1 : Int32)) &&& (p0 - (1 : Int32))) (16 : Int32)) (4 : Int32))) with c8 | c8
          · refine Go.icmpNo X0 hx (hb hby d_ntz_64) (XT.ii_le_f c8) ?_
            show Go _ _ _ _ s₁ (mkF m 67 #[.val (.int (XT.ushr (XT.ushr ((p0 ^^^ (-1 : Int32)) &&& (p0 - (1 : Int32))) (16 : Int32)) (4 : Int32))), .val (.int (21 : Int32))] []) _ _ _
            refine Go.iinc X0 hx (hb hby d_ntz_67) rfl (l' := #[.val (.int (XT.ushr (XT.ushr ((p0 ^^^ (-1 : Int32)) &&& (p0 - (1 : Int32))) (16 : Int32)) (4 : Int32))), .val (.int (23 : Int32))]) rfl ?_
            show Go _ _ _ _ s₁ (mkF m 70 #[.val (.int (XT.ushr (XT.ushr ((p0 ^^^ (-1 : Int32)) &&& (p0 - (1 : Int32))) (16 : Int32)) (4 : Int32))), .val (.int (23 : Int32))] []) _ _ _
            refine Go.iloadN X0 hx (hb hby d_ntz_70) rfl ?_
            show Go _ _ _ _ s₁ (mkF m 71 #[.val (.int (XT.ushr (XT.ushr ((p0 ^^^ (-1 : Int32)) &&& (p0 - (1 : Int32))) (16 : Int32)) (4 : Int32))), .val (.int (23 : Int32))] [(.int (XT.ushr (XT.ushr ((p0 ^^^ (-1 : Int32)) &&& (p0 - (1 : Int32))) (16 : Int32)) (4 : Int32)))]) _ _ _
            refine Go.iconst X0 hx (hb hby d_ntz_71) ?_
            show Go _ _ _ _ s₁ (mkF m 72 #[.val (.int (XT.ushr (XT.ushr ((p0 ^^^ (-1 : Int32)) &&& (p0 - (1 : Int32))) (16 : Int32)) (4 : Int32))), .val (.int (23 : Int32))] [(.int (2 : Int32)), (.int (XT.ushr (XT.ushr ((p0 ^^^ (-1 : Int32)) &&& (p0 - (1 : Int32))) (16 : Int32)) (4 : Int32)))]) _ _ _
            refine Go.iushr X0 hx (hb hby d_ntz_72) ?_
            show Go _ _ _ _ s₁ (mkF m 73 #[.val (.int (XT.ushr (XT.ushr ((p0 ^^^ (-1 : Int32)) &&& (p0 - (1 : Int32))) (16 : Int32)) (4 : Int32))), .val (.int (23 : Int32))] [(.int (XT.ushr (XT.ushr (XT.ushr ((p0 ^^^ (-1 : Int32)) &&& (p0 - (1 : Int32))) (16 : Int32)) (4 : Int32)) (2 : Int32)))]) _ _ _
            refine Go.istoreN X0 hx (hb hby d_ntz_73) (l' := #[.val (.int (XT.ushr (XT.ushr (XT.ushr ((p0 ^^^ (-1 : Int32)) &&& (p0 - (1 : Int32))) (16 : Int32)) (4 : Int32)) (2 : Int32))), .val (.int (23 : Int32))]) rfl ?_
            show Go _ _ _ _ s₁ (mkF m 74 #[.val (.int (XT.ushr (XT.ushr (XT.ushr ((p0 ^^^ (-1 : Int32)) &&& (p0 - (1 : Int32))) (16 : Int32)) (4 : Int32)) (2 : Int32))), .val (.int (23 : Int32))] []) _ _ _
            refine Go.iloadN X0 hx (hb hby d_ntz_74) rfl ?_
            show Go _ _ _ _ s₁ (mkF m 75 #[.val (.int (XT.ushr (XT.ushr (XT.ushr ((p0 ^^^ (-1 : Int32)) &&& (p0 - (1 : Int32))) (16 : Int32)) (4 : Int32)) (2 : Int32))), .val (.int (23 : Int32))] [(.int (23 : Int32))]) _ _ _
            refine Go.iloadN X0 hx (hb hby d_ntz_75) rfl ?_
            show Go _ _ _ _ s₁ (mkF m 76 #[.val (.int (XT.ushr (XT.ushr (XT.ushr ((p0 ^^^ (-1 : Int32)) &&& (p0 - (1 : Int32))) (16 : Int32)) (4 : Int32)) (2 : Int32))), .val (.int (23 : Int32))] [(.int (XT.ushr (XT.ushr (XT.ushr ((p0 ^^^ (-1 : Int32)) &&& (p0 - (1 : Int32))) (16 : Int32)) (4 : Int32)) (2 : Int32))), (.int (23 : Int32))]) _ _ _
            refine Go.iconst X0 hx (hb hby d_ntz_76) ?_
            show Go _ _ _ _ s₁ (mkF m 77 #[.val (.int (XT.ushr (XT.ushr (XT.ushr ((p0 ^^^ (-1 : Int32)) &&& (p0 - (1 : Int32))) (16 : Int32)) (4 : Int32)) (2 : Int32))), .val (.int (23 : Int32))] [(.int (1 : Int32)), (.int (XT.ushr (XT.ushr (XT.ushr ((p0 ^^^ (-1 : Int32)) &&& (p0 - (1 : Int32))) (16 : Int32)) (4 : Int32)) (2 : Int32))), (.int (23 : Int32))]) _ _ _
            refine Go.iushr X0 hx (hb hby d_ntz_77) ?_
            show Go _ _ _ _ s₁ (mkF m 78 #[.val (.int (XT.ushr (XT.ushr (XT.ushr ((p0 ^^^ (-1 : Int32)) &&& (p0 - (1 : Int32))) (16 : Int32)) (4 : Int32)) (2 : Int32))), .val (.int (23 : Int32))] [(.int (XT.ushr (XT.ushr (XT.ushr (XT.ushr ((p0 ^^^ (-1 : Int32)) &&& (p0 - (1 : Int32))) (16 : Int32)) (4 : Int32)) (2 : Int32)) (1 : Int32))), (.int (23 : Int32))]) _ _ _
            refine Go.iadd X0 hx (hb hby d_ntz_78) ?_
            show Go _ _ _ _ s₁ (mkF m 79 #[.val (.int (XT.ushr (XT.ushr (XT.ushr ((p0 ^^^ (-1 : Int32)) &&& (p0 - (1 : Int32))) (16 : Int32)) (4 : Int32)) (2 : Int32))), .val (.int (23 : Int32))] [(.int ((23 : Int32) + (XT.ushr (XT.ushr (XT.ushr (XT.ushr ((p0 ^^^ (-1 : Int32)) &&& (p0 - (1 : Int32))) (16 : Int32)) (4 : Int32)) (2 : Int32)) (1 : Int32))))]) _ _ _
            refine Go.retI X0 hx hlk hret (hb hby d_ntz_79) (by decide) (by decide) ?_
            rw [e0]
            exact ⟨by unfold F_ntz; rw [if_pos c1]; rw [if_pos c2]; rw [if_neg c3]; rw [if_pos c7]; rw [if_pos c8], rfl, rfl⟩
          · refine Go.icmpYes X0 hx (hb hby d_ntz_64) (XT.ii_le_t c8) (pc' := 74) (by decide) (by decide) ?_
            show Go _ _ _ _ s₁ (mkF m 74 #[.val (.int (XT.ushr (XT.ushr ((p0 ^^^ (-1 : Int32)) &&& (p0 - (1 : Int32))) (16 : Int32)) (4 : Int32))), .val (.int (21 : Int32))] []) _ _ _
            refine Go.iloadN X0 hx (hb hby d_ntz_74) rfl ?_
            show Go _ _ _ _ s₁ (mkF m 75 #[.val (.int (XT.ushr (XT.ushr ((p0 ^^^ (-1 : Int32)) &&& (p0 - (1 : Int32))) (16 : Int32)) (4 : Int32))), .val (.int (21 : Int32))] [(.int (21 : Int32))]) _ _ _
            refine Go.iloadN X0 hx (hb hby d_ntz_75) rfl ?_
            show Go _ _ _ _ s₁ (mkF m 76 #[.val (.int (XT.ushr (XT.ushr ((p0 ^^^ (-1 : Int32)) &&& (p0 - (1 : Int32))) (16 : Int32)) (4 : Int32))), .val (.int (21 : Int32))] [(.int (XT.ushr (XT.ushr ((p0 ^^^ (-1 : Int32)) &&& (p0 - (1 : Int32))) (16 : Int32)) (4 : Int32))), (.int (21 : Int32))]) _ _ _
            refine Go.iconst X0 hx (hb hby d_ntz_76) ?_
            show Go _ _ _ _ s₁ (mkF m 77 #[.val (.int (XT.ushr (XT.ushr ((p0 ^^^ (-1 : Int32)) &&& (p0 - (1 : Int32))) (16 : Int32)) (4 : Int32))), .val (.int (21 : Int32))] [(.int (1 : Int32)), (.int (XT.ushr (XT.ushr ((p0 ^^^ (-1 : Int32)) &&& (p0 - (1 : Int32))) (16 : Int32)) (4 : Int32))), (.int (21 : Int32))]) _ _ _
            refine Go.iushr X0 hx (hb hby d_ntz_77) ?_
            show Go _ _ _ _ s₁ (mkF m 78 #[.val (.int (XT.ushr (XT.ushr ((p0 ^^^ (-1 : Int32)) &&& (p0 - (1 : Int32))) (16 : Int32)) (4 : Int32))), .val (.int (21 : Int32))] [(.int (XT.ushr (XT.ushr (XT.ushr ((p0 ^^^ (-1 : Int32)) &&& (p0 - (1 : Int32))) (16 : Int32)) (4 : Int32)) (1 : Int32))), (.int (21 : Int32))]) _ _ _
            refine Go.iadd X0 hx (hb hby d_ntz_78) ?_
            show Go _ _ _ _ s₁ (mkF m 79 #[.val (.int (XT.ushr (XT.ushr ((p0 ^^^ (-1 : Int32)) &&& (p0 - (1 : Int32))) (16 : Int32)) (4 : Int32))), .val (.int (21 : Int32))] [(.int ((21 : Int32) + (XT.ushr (XT.ushr (XT.ushr ((p0 ^^^ (-1 : Int32)) &&& (p0 - (1 : Int32))) (16 : Int32)) (4 : Int32)) (1 : Int32))))]) _ _ _
            refine Go.retI X0 hx hlk hret (hb hby d_ntz_79) (by decide) (by decide) ?_
            rw [e0]
            exact ⟨by unfold F_ntz; rw [if_pos c1]; rw [if_pos c2]; rw [if_neg c3]; rw [if_pos c7]; rw [if_neg c8], rfl, rfl⟩
        · refine Go.icmpYes X0 hx (hb hby d_ntz_52) (XT.ii_le_t c7) (pc' := 62) (by decide) (by decide) ?_
          show Go _ _ _ _ s₁ (mkF m 62 #[.val (.int (XT.ushr ((p0 ^^^ (-1 : Int32)) &&& (p0 - (1 : Int32))) (16 : Int32))), .val (.int (17 : Int32))] []) _ _ _
          refine Go.iloadN X0 hx (hb hby d_ntz_62) rfl ?_
          show Go _ _ _ _ s₁ (mkF m 63 #[.val (.int (XT.ushr ((p0 ^^^ (-1 : Int32)) &&& (p0 - (1 : Int32))) (16 : Int32))), .val (.int (17 : Int32))] [(.int (XT.ushr ((p0 ^^^ (-1 : Int32)) &&& (p0 - (1 : Int32))) (16 : Int32)))]) _ _ _
          refine Go.iconst X0 hx (hb hby d_ntz_63) ?_
          show Go _ _ _ _ s₁ (mkF m 64 #[.val (.int (XT.ushr ((p0 ^^^ (-1 : Int32)) &&& (p0 - (1 : Int32))) (16 : Int32))), .val (.int (17 : Int32))] [(.int (4 : Int32)), (.int (XT.ushr ((p0 ^^^ (-1 : Int32)) &&& (p0 - (1 : Int32))) (16 : Int32)))]) _ _ _
          rcases Decidable.em ((4 : Int32) < (XT.ushr ((p0 ^^^ (-1 : Int32)) &&& (p0 - (1 : Int32))) (16 : Int32))) with c9 | c9
          · refine Go.icmpNo X0 hx (hb hby d_ntz_64) (XT.ii_le_f c9) ?_
            show Go _ _ _ _ s₁ (mkF m 67 #[.val (.int (XT.ushr ((p0 ^^^ (-1 : Int32)) &&& (p0 - (1 : Int32))) (16 : Int32))), .val (.int (17 : Int32))] []) _ _ _
            refine Go.iinc X0 hx (hb hby d_ntz_67) rfl (l' := #[.val (.int (XT.ushr ((p0 ^^^ (-1 : Int32)) &&& (p0 - (1 : Int32))) (16 : Int32))), .val (.int (19 : Int32))]) rfl ?_
            show Go _ _ _ _ s₁ (mkF m 70 #[.val (.int (XT.ushr ((p0 ^^^ (-1 : Int32)) &&& (p0 - (1 : Int32))) (16 : Int32))), .val (.int (19 : Int32))] []) _ _ _
            refine Go.iloadN X0 hx (hb hby d_ntz_70) rfl ?_
            show Go _ _ _ _ s₁ (mkF m 71 #[.val (.int (XT.ushr ((p0 ^^^ (-1 : Int32)) &&& (p0 - (1 : Int32))) (16 : Int32))), .val (.int (19 : Int32))] [(.int (XT.ushr ((p0 ^^^ (-1 : Int32)) &&& (p0 - (1 : Int32))) (16 : Int32)))]) _ _ _
            refine Go.iconst X0 hx (hb hby d_ntz_71) ?_
            show Go _ _ _ _ s₁ (mkF m 72 #[.val (.int (XT.ushr ((p0 ^^^ (-1 : Int32)) &&& (p0 - (1 : Int32))) (16 : Int32))), .val (.int (19 : Int32))] [(.int (2 : Int32)), (.int (XT.ushr ((p0 ^^^ (-1 : Int32)) &&& (p0 - (1 : Int32))) (16 : Int32)))]) _ _ _
            refine Go.iushr X0 hx (hb hby d_ntz_72) ?_
            show Go _ _ _ _ s₁ (mkF m 73 #[.val (.int (XT.ushr ((p0 ^^^ (-1 : Int32)) &&& (p0 - (1 : Int32))) (16 : Int32))), .val (.int (19 : Int32))] [(.int (XT.ushr (XT.ushr ((p0 ^^^ (-1 : Int32)) &&& (p0 - (1 : Int32))) (16 : Int32)) (2 : Int32)))]) _ _ _
            refine Go.istoreN X0 hx (hb hby d_ntz_73) (l' := #[.val (.int (XT.ushr (XT.ushr ((p0 ^^^ (-1 : Int32)) &&& (p0 - (1 : Int32))) (16 : Int32)) (2 : Int32))), .val (.int (19 : Int32))]) rfl ?_
            show Go _ _ _ _ s₁ (mkF m 74 #[.val (.int (XT.ushr (XT.ushr ((p0 ^^^ (-1 : Int32)) &&& (p0 - (1 : Int32))) (16 : Int32)) (2 : Int32))), .val (.int (19 : Int32))] []) _ _ _
            refine Go.iloadN X0 hx (hb hby d_ntz_74) rfl ?_
            show Go _ _ _ _ s₁ (mkF m 75 #[.val (.int (XT.ushr (XT.ushr ((p0 ^^^ (-1 : Int32)) &&& (p0 - (1 : Int32))) (16 : Int32)) (2 : Int32))), .val (.int (19 : Int32))] [(.int (19 : Int32))]) _ _ _
            refine Go.iloadN X0 hx (hb hby d_ntz_75) rfl ?_
            show Go _ _ _ _ s₁ (mkF m 76 #[.val (.int (XT.ushr (XT.ushr ((p0 ^^^ (-1 : Int32)) &&& (p0 - (1 : Int32))) (16 : Int32)) (2 : Int32))), .val (.int (19 : Int32))] [(.int (XT.ushr (XT.ushr ((p0 ^^^ (-1 : Int32)) &&& (p0 - (1 : Int32))) (16 : Int32)) (2 : Int32))), (.int (19 : Int32))]) _ _ _
            refine Go.iconst X0 hx (hb hby d_ntz_76) ?_
            show Go _ _ _ _ s₁ (mkF m 77 #[.val (.int (XT.ushr (XT.ushr ((p0 ^^^ (-1 : Int32)) &&& (p0 - (1 : Int32))) (16 : Int32)) (2 : Int32))), .val (.int (19 : Int32))] [(.int (1 : Int32)), (.int (XT.ushr (XT.ushr ((p0 ^^^ (-1 : Int32)) &&& (p0 - (1 : Int32))) (16 : Int32)) (2 : Int32))), (.int (19 : Int32))]) _ _ _
            refine Go.iushr X0 hx (hb hby d_ntz_77) ?_
            show Go _ _ _ _ s₁ (mkF m 78 #[.val (.int (XT.ushr (XT.ushr ((p0 ^^^ (-1 : Int32)) &&& (p0 - (1 : Int32))) (16 : Int32)) (2 : Int32))), .val (.int (19 : Int32))] [(.int (XT.ushr (XT.ushr (XT.ushr ((p0 ^^^ (-1 : Int32)) &&& (p0 - (1 : Int32))) (16 : Int32)) (2 : Int32)) (1 : Int32))), (.int (19 : Int32))]) _ _ _
            refine Go.iadd X0 hx (hb hby d_ntz_78) ?_
            show Go _ _ _ _ s₁ (mkF m 79 #[.val (.int (XT.ushr (XT.ushr ((p0 ^^^ (-1 : Int32)) &&& (p0 - (1 : Int32))) (16 : Int32)) (2 : Int32))), .val (.int (19 : Int32))] [(.int ((19 : Int32) + (XT.ushr (XT.ushr (XT.ushr ((p0 ^^^ (-1 : Int32)) &&& (p0 - (1 : Int32))) (16 : Int32)) (2 : Int32)) (1 : Int32))))]) _ _ _
            refine Go.retI X0 hx hlk hret (hb hby d_ntz_79) (by decide) (by decide) ?_
            rw [e0]
            exact ⟨by unfold F_ntz; rw [if_pos c1]; rw [if_pos c2]; rw [if_neg c3]; rw [if_neg c7]; rw [if_pos c9], rfl, rfl⟩
          · refine Go.icmpYes X0 hx (hb hby d_ntz_64) (XT.ii_le_t c9) (pc' := 74) (by decide) (by decide) ?_
            show Go _ _ _ _ s₁ (mkF m 74 #[.val (.int (XT.ushr ((p0 ^^^ (-1 : Int32)) &&& (p0 - (1 : Int32))) (16 : Int32))), .val (.int (17 : Int32))] []) _ _ _
            refine Go.iloadN X0 hx (hb hby d_ntz_74) rfl ?_
            show Go _ _ _ _ s₁ (mkF m 75 #[.val (.int (XT.ushr ((p0 ^^^ (-1 : Int32)) &&& (p0 - (1 : Int32))) (16 : Int32))), .val (.int (17 : Int32))] [(.int (17 : Int32))]) _ _ _
            refine Go.iloadN X0 hx (hb hby d_ntz_75) rfl ?_
            show Go _ _ _ _ s₁ (mkF m 76 #[.val (.int (XT.ushr ((p0 ^^^ (-1 : Int32)) &&& (p0 - (1 : Int32))) (16 : Int32))), .val (.int (17 : Int32))] [(.int (XT.ushr ((p0 ^^^ (-1 : Int32)) &&& (p0 - (1 : Int32))) (16 : Int32))), (.int (17 : Int32))]) _ _ _
            refine Go.iconst X0 hx (hb hby d_ntz_76) ?_
            show Go _ _ _ _ s₁ (mkF m 77 #[.val (.int (XT.ushr ((p0 ^^^ (-1 : Int32)) &&& (p0 - (1 : Int32))) (16 : Int32))), .val (.int (17 : Int32))] [(.int (1 : Int32)), (.int (XT.ushr ((p0 ^^^ (-1 : Int32)) &&& (p0 - (1 : Int32))) (16 : Int32))), (.int (17 : Int32))]) _ _ _
            refine Go.iushr X0 hx (hb hby d_ntz_77) ?_
            show Go _ _ _ _ s₁ (mkF m 78 #[.val (.int (XT.ushr ((p0 ^^^ (-1 : Int32)) &&& (p0 - (1 : Int32))) (16 : Int32))), .val (.int (17 : Int32))] [(.int (XT.ushr (XT.ushr ((p0 ^^^ (-1 : Int32)) &&& (p0 - (1 : Int32))) (16 : Int32)) (1 : Int32))), (.int (17 : Int32))]) _ _ _
            refine Go.iadd X0 hx (hb hby d_ntz_78) ?_
            show Go _ _ _ _ s₁ (mkF m 79 #[.val (.int (XT.ushr ((p0 ^^^ (-1 : Int32)) &&& (p0 - (1 : Int32))) (16 : Int32))), .val (.int (17 : Int32))] [(.int ((17 : Int32) + (XT.ushr (XT.ushr ((p0 ^^^ (-1 : Int32)) &&& (p0 - (1 : Int32))) (16 : Int32)) (1 : Int32))))]) _ _ _
            refine Go.retI X0 hx hlk hret (hb hby d_ntz_79) (by decide) (by decide) ?_
            rw [e0]
            exact ⟨by unfold F_ntz; rw [if_pos c1]; rw [if_pos c2]; rw [if_neg c3]; rw [if_neg c7]; rw [if_neg c9], rfl, rfl⟩
    · refine Go.icmpYes X0 hx (hb hby d_ntz_23) (XT.ii_le_t c2) (pc' := 34) (by decide) (by decide) ?_
      show Go _ _ _ _ s₁ (mkF m 34 #[.val (.int ((p0 ^^^ (-1 : Int32)) &&& (p0 - (1 : Int32)))), .val (.int (1 : Int32))] []) _ _ _
      refine Go.iloadN X0 hx (hb hby d_ntz_34) rfl ?_
      show Go _ _ _ _ s₁ (mkF m 35 #[.val (.int ((p0 ^^^ (-1 : Int32)) &&& (p0 - (1 : Int32)))), .val (.int (1 : Int32))] [(.int ((p0 ^^^ (-1 : Int32)) &&& (p0 - (1 : Int32))))]) _ _ _
      refine Go.sipush X0 hx (hb hby d_ntz_35) ?_
      show Go _ _ _ _ s₁ (mkF m 38 #[.val (.int ((p0 ^^^ (-1 : Int32)) &&& (p0 - (1 : Int32)))), .val (.int (1 : Int32))] [(.int (256 : Int32)), (.int ((p0 ^^^ (-1 : Int32)) &&& (p0 - (1 : Int32))))]) _ _ _
      rcases Decidable.em ((256 : Int32) < ((p0 ^^^ (-1 : Int32)) &&& (p0 - (1 : Int32)))) with c10 | c10
      · refine Go.icmpNo X0 hx (hb hby d_ntz_38) (XT.ii_le_f c10) ?_
        show Go _ _ _ _ s₁ (mkF m 41 #[.val (.int ((p0 ^^^ (-1 : Int32)) &&& (p0 - (1 : Int32)))), .val (.int (1 : Int32))] []) _ _ _
        refine Go.iinc X0 hx (hb hby d_ntz_41) rfl (l' := #[.val (.int ((p0 ^^^ (-1 : Int32)) &&& (p0 - (1 : Int32)))), .val (.int (9 : Int32))]) rfl ?_
        show Go _ _ _ _ s₁ (mkF m 44 #[.val (.int ((p0 ^^^ (-1 : Int32)) &&& (p0 - (1 : Int32)))), .val (.int (9 : Int32))] []) _ _ _
        refine Go.iloadN X0 hx (hb hby d_ntz_44) rfl ?_
        show Go _ _ _ _ s₁ (mkF m 45 #[.val (.int ((p0 ^^^ (-1 : Int32)) &&& (p0 - (1 : Int32)))), .val (.int (9 : Int32))] [(.int ((p0 ^^^ (-1 : Int32)) &&& (p0 - (1 : Int32))))]) _ _ _
        refine Go.bipush X0 hx (hb hby d_ntz_45) ?_
        show Go _ _ _ _ s₁ (mkF m 47 #[.val (.int ((p0 ^^^ (-1 : Int32)) &&& (p0 - (1 : Int32)))), .val (.int (9 : Int32))] [(.int (8 : Int32)), (.int ((p0 ^^^ (-1 : Int32)) &&& (p0 - (1 : Int32))))]) _ _ _
        refine Go.iushr X0 hx (hb hby d_ntz_47) ?_
        show Go _ _ _ _ s₁ (mkF m 48 #[.val (.int ((p0 ^^^ (-1 : Int32)) &&& (p0 - (1 : Int32)))), .val (.int (9 : Int32))] [(.int (XT.ushr ((p0 ^^^ (-1 : Int32)) &&& (p0 - (1 : Int32))) (8 : Int32)))]) _ _ _
        refine Go.istoreN X0 hx (hb hby d_ntz_48) (l' := #[.val (.int (XT.ushr ((p0 ^^^ (-1 : Int32)) &&& (p0 - (1 : Int32))) (8 : Int32))), .val (.int (9 : Int32))]) rfl ?_
        show Go _ _ _ _ s₁ (mkF m 49 #[.val (.int (XT.ushr ((p0 ^^^ (-1 : Int32)) &&& (p0 - (1 : Int32))) (8 : Int32))), .val (.int (9 : Int32))] []) _ _ _
        refine Go.iloadN X0 hx (hb hby d_ntz_49) rfl ?_
        show Go _ _ _ _ s₁ (mkF m 50 #[.val (.int (XT.ushr ((p0 ^^^ (-1 : Int32)) &&& (p0 - (1 : Int32))) (8 : Int32))), .val (.int (9 : Int32))] [(.int (XT.ushr ((p0 ^^^ (-1 : Int32)) &&& (p0 - (1 : Int32))) (8 : Int32)))]) _ _ _
        refine Go.bipush X0 hx (hb hby d_ntz_50) ?_
        show Go _ _ _ _ s₁ (mkF m 52 #[.val (.int (XT.ushr ((p0 ^^^ (-1 : Int32)) &&& (p0 - (1 : Int32))) (8 : Int32))), .val (.int (9 : Int32))] [(.int (16 : Int32)), (.int (XT.ushr ((p0 ^^^ (-1 : Int32)) &&& (p0 - (1 : Int32))) (8 : Int32)))]) _ _ _
        rcases Decidable.em ((16 : Int32) < (XT.ushr ((p0 ^^^ (-1 : Int32)) &&& (p0 - (1 : Int32))) (8 : Int32))) with c11 | c11
        · refine Go.icmpNo X0 hx (hb hby d_ntz_52) (XT.ii_le_f c11) ?_
          show Go _ _ _ _ s₁ (mkF m 55 #[.val (.int (XT.ushr ((p0 ^^^ (-1 : Int32)) &&& (p0 - (1 : Int32))) (8 : Int32))), .val (.int (9 : Int32))] []) _ _ _
          refine Go.iinc X0 hx (hb hby d_ntz_55) rfl (l' := #[.val (.int (XT.ushr ((p0 ^^^ (-1 : Int32)) &&& (p0 - (1 : Int32))) (8 : Int32))), .val (.int (13 : Int32))]) rfl ?_
          show Go _ _ _ _ s₁ (mkF m 58 #[.val (.int (XT.ushr ((p0 ^^^ (-1 : Int32)) &&& (p0 - (1 : Int32))) (8 : Int32))), .val (.int (13 : Int32))] []) _ _ _
          refine Go.iloadN X0 hx (hb hby d_ntz_58) rfl ?_
          show Go _ _ _ _ s₁ (mkF m 59 #[.val (.int (XT.ushr ((p0 ^^^ (-1 : Int32)) &&& (p0 - (1 : Int32))) (8 : Int32))), .val (.int (13 : Int32))] [(.int (XT.ushr ((p0 ^^^ (-1 : Int32)) &&& (p0 - (1 : Int32))) (8 : Int32)))]) _ _ _
          refine Go.iconst X0 hx (hb hby d_ntz_59) ?_
          show Go _ _ _ _ s₁ (mkF m 60 #[.val (.int (XT.ushr ((p0 ^^^ (-1 : Int32)) &&& (p0 - (1 : Int32))) (8 : Int32))), .val (.int (13 : Int32))] [(.int (4 : Int32)), (.int (XT.ushr ((p0 ^^^ (-1 : Int32)) &&& (p0 - (1 : Int32))) (8 : Int32)))]) _ _ _
          refine Go.iushr X0 hx (hb hby d_ntz_60) ?_
          show Go _ _ _ _ s₁ (mkF m 61 #[.val (.int (XT.ushr ((p0 ^^^ (-1 : Int32)) &&& (p0 - (1 : Int32))) (8 : Int32))), .val (.int (13 : Int32))] [(.int (XT.ushr (XT.ushr ((p0 ^^^ (-1 : Int32)) &&& (p0 - (1 : Int32))) (8 : Int32)) (4 : Int32)))]) _ _ _
          refine Go.istoreN X0 hx (hb hby d_ntz_61) (l' := #[.val (.int (XT.ushr (XT.ushr ((p0 ^^^ (-1 : Int32)) &&& (p0 - (1 : Int32))) (8 : Int32)) (4 : Int32))), .val (.int (13 : Int32))]) rfl ?_
          show Go _ _ _ _ s₁ (mkF m 62 #[.val (.int (XT.ushr (XT.ushr ((p0 ^^^ (-1 : Int32)) &&& (p0 - (1 : Int32))) (8 : Int32)) (4 : Int32))), .val (.int (13 : Int32))] []) _ _ _
          refine Go.iloadN X0 hx (hb hby d_ntz_62) rfl ?_
          show Go _ _ _ _ s₁ (mkF m 63 #[.val (.int (XT.ushr (XT.ushr ((p0 ^^^ (-1 : Int32)) &&& (p0 - (1 : Int32))) (8 : Int32)) (4 : Int32))), .val (.int (13 : Int32))] [(.int (XT.ushr (XT.ushr ((p0 ^^^ (-1 : Int32)) &&& (p0 - (1 : Int32))) (8 : Int32)) (4 : Int32)))]) _ _ _
          refine Go.iconst X0 hx (hb hby d_ntz_63) ?_
          show Go _ _ _ _ s₁ (mkF m 64 #[.val (.int (XT.ushr (XT.ushr ((p0 ^^^ (-1 : Int32)) &&& (p0 - (1 : Int32))) (8 : Int32)) (4 : Int32))), .val (.int (13 : Int32))] [(.int (4 : Int32)), (.int (XT.ushr (XT.ushr ((p0 ^^^ (-1 : Int32)) &&& (p0 - (1 : Int32))) (8 : Int32)) (4 : Int32)))]) _ _ _
          rcases Decidable.em ((4 : Int32) < (XT.ushr (XT.ushr ((p0 ^^^ (-1 : Int32)) &&& (p0 - (1 : Int32))) (8 : Int32)) (4 : Int32))) with c12 | c12
          · refine Go.icmpNo X0 hx (hb hby d_ntz_64) (XT.ii_le_f c12) ?_
            show Go _ _ _ _ s₁ (mkF m 67 #[.val (.int (XT.ushr (XT.ushr ((p0 ^^^ (-1 : Int32)) &&& (p0 - (1 : Int32))) (8 : Int32)) (4 : Int32))), .val (.int (13 : Int32))] []) _ _ _
            refine Go.iinc X0 hx (hb hby d_ntz_67) rfl (l' := #[.val (.int (XT.ushr (XT.ushr ((p0 ^^^ (-1 : Int32)) &&& (p0 - (1 : Int32))) (8 : Int32)) (4 : Int32))), .val (.int (15 : Int32))]) rfl ?_
            show Go _ _ _ _ s₁ (mkF m 70 #[.val (.int (XT.ushr (XT.ushr ((p0 ^^^ (-1 : Int32)) &&& (p0 - (1 : Int32))) (8 : Int32)) (4 : Int32))), .val (.int (15 : Int32))] []) _ _ _
            refine Go.iloadN X0 hx (hb hby d_ntz_70) rfl ?_
            show Go _ _ _ _ s₁ (mkF m 71 #[.val (.int (XT.ushr (XT.ushr ((p0 ^^^ (-1 : Int32)) &&& (p0 - (1 : Int32))) (8 : Int32)) (4 : Int32))), .val (.int (15 : Int32))] [(.int (XT.ushr (XT.ushr ((p0 ^^^ (-1 : Int32)) &&& (p0 - (1 : Int32))) (8 : Int32)) (4 : Int32)))]) _ _ _
            refine Go.iconst X0 hx (hb hby d_ntz_71) ?_
            show Go _ _ _ _ s₁ (mkF m 72 #[.val (.int (XT.ushr (XT.ushr ((p0 ^^^ (-1 : Int32)) &&& (p0 - (1 : Int32))) (8 : Int32)) (4 : Int32))), .val (.int (15 : Int32))] [(.int (2 : Int32)), (.int (XT.ushr (XT.ushr ((p0 ^^^ (-1 : Int32)) &&& (p0 - (1 : Int32))) (8 : Int32)) (4 : Int32)))]) _ _ _
            refine Go.iushr X0 hx (hb hby d_ntz_72) ?_
            show Go _ _ _ _ s₁ (mkF m 73 #[.val (.int (XT.ushr (XT.ushr ((p0 ^^^ (-1 : Int32)) &&& (p0 - (1 : Int32))) (8 : Int32)) (4 : Int32))), .val (.int (15 : Int32))] [(.int (XT.ushr (XT.ushr (XT.ushr ((p0 ^^^ (-1 : Int32)) &&& (p0 - (1 : Int32))) (8 : Int32)) (4 : Int32)) (2 : Int32)))]) _ _ _
            refine Go.istoreN X0 hx (hb hby d_ntz_73) (l' := #[.val (.int (XT.ushr (XT.ushr (XT.ushr ((p0 ^^^ (-1 : Int32)) &&& (p0 - (1 : Int32))) (8 : Int32)) (4 : Int32)) (2 : Int32))), .val (.int (15 : Int32))]) rfl ?_
            show Go _ _ _ _ s₁ (mkF m 74 #[.val (.int (XT.ushr (XT.ushr (XT.ushr ((p0 ^^^ (-1 : Int32)) &&& (p0 - (1 : Int32))) (8 : Int32)) (4 : Int32)) (2 : Int32))), .val (.int (15 : Int32))] []) _ _ _
            refine Go.iloadN X0 hx (hb hby d_ntz_74) rfl ?_
            show Go _ _ _ _ s₁ (mkF m 75 #[.val (.int (XT.ushr (XT.ushr (XT.ushr ((p0 ^^^ (-1 : Int32)) &&& (p0 - (1 : Int32))) (8 : Int32)) (4 : Int32)) (2 : Int32))), .val (.int (15 : Int32))] [(.int (15 : Int32))]) _ _ _
            refine Go.iloadN X0 hx (hb hby d_ntz_75) rfl ?_
            show Go _ _ _ _ s₁ (mkF m 76 #[.val (.int (XT.ushr (XT.ushr (XT.ushr ((p0 ^^^ (-1 : Int32)) &&& (p0 - (1 : Int32))) (8 : Int32)) (4 : Int32)) (2 : Int32))), .val (.int (15 : Int32))] [(.int (XT.ushr (XT.ushr (XT.ushr ((p0 ^^^ (-1 : Int32)) &&& (p0 - (1 : Int32))) (8 : Int32)) (4 : Int32)) (2 : Int32))), (.int (15 : Int32))]) _ _ _
            refine Go.iconst X0 hx (hb hby d_ntz_76) ?_
            show Go _ _ _ _ s₁ (mkF m 77 #[.val (.int (XT.ushr (XT.ushr (XT.ushr ((p0 ^^^ (-1 : Int32)) &&& (p0 - (1 : Int32))) (8 : Int32)) (4 : Int32)) (2 : Int32))), .val (.int (15 : Int32))] [(.int (1 : Int32)), (.int (XT.ushr (XT.ushr (XT.ushr ((p0 ^^^ (-1 : Int32)) &&& (p0 - (1 : Int32))) (8 : Int32)) (4 : Int32)) (2 : Int32))), (.int (15 : Int32))]) _ _ _
            refine Go.iushr X0 hx (hb hby d_ntz_77) ?_
            show Go _ _ _ _ s₁ (mkF m 78 #[.val (.int (XT.ushr (XT.ushr (XT.ushr ((p0 ^^^ (-1 : Int32)) &&& (p0 - (1 : Int32))) (8 : Int32)) (4 : Int32)) (2 : Int32))), .val (.int (15 : Int32))] [(.int (XT.ushr (XT.ushr (XT.ushr (XT.ushr ((p0 ^^^ (-1 : Int32)) &&& (p0 - (1 : Int32))) (8 : Int32)) (4 : Int32)) (2 : Int32)) (1 : Int32))), (.int (15 : Int32))]) _ _ _
            refine Go.iadd X0 hx (hb hby d_ntz_78) ?_
            show Go _ _ _ _ s₁ (mkF m 79 #[.val (.int (XT.ushr (XT.ushr (XT.ushr ((p0 ^^^ (-1 : Int32)) &&& (p0 - (1 : Int32))) (8 : Int32)) (4 : Int32)) (2 : Int32))), .val (.int (15 : Int32))] [(.int ((15 : Int32) + (XT.ushr (XT.ushr (XT.ushr (XT.ushr ((p0 ^^^ (-1 : Int32)) &&& (p0 - (1 : Int32))) (8 : Int32)) (4 : Int32)) (2 : Int32)) (1 : Int32))))]) _ _ _
            refine Go.retI X0 hx hlk hret (hb hby d_ntz_79) (by decide) (by decide) ?_
            rw [e0]
            exact ⟨by unfold F_ntz; rw [if_pos c1]; rw [if_neg c2]; rw [if_pos c10]; rw [if_pos c11]; rw [if_pos c12], rfl, rfl⟩
          · refine Go.icmpYes X0 hx (hb hby d_ntz_64) (XT.ii_le_t c12) (pc' := 74) (by decide) (by decide) ?_
            show Go _ _ _ _ s₁ (mkF m 74 #[.val (.int (XT.ushr (XT.ushr ((p0 ^^^ (-1 : Int32)) &&& (p0 - (1 : Int32))) (8 : Int32)) (4 : Int32))), .val (.int (13 : Int32))] []) _ _ _
            refine Go.iloadN X0 hx (hb hby d_ntz_74) rfl ?_
            show Go _ _ _ _ s₁ (mkF m 75 #[.val (.int (XT.ushr (XT.ushr ((p0 ^^^ (-1 : Int32)) &&& (p0 - (1 : Int32))) (8 : Int32)) (4 : Int32))), .val (.int (13 : Int32))] [(.int (13 : Int32))]) _ _ _
            refine Go.iloadN X0 hx (hb hby d_ntz_75) rfl ?_
            show Go _ _ _ _ s₁ (mkF m 76 #[.val (.int (XT.ushr (XT.ushr ((p0 ^^^ (-1 : Int32)) &&& (p0 - (1 : Int32))) (8 : Int32)) (4 : Int32))), .val (.int (13 : Int32))] [(.int (XT.ushr (XT.ushr ((p0 ^^^ (-1 : Int32)) &&& (p0 - (1 : Int32))) (8 : Int32)) (4 : Int32))), (.int (13 : Int32))]) _ _ _
            refine Go.iconst X0 hx (hb hby d_ntz_76) ?_
            show Go _ _ _ _ s₁ (mkF m 77 #[.val (.int (XT.ushr (XT.ushr ((p0 ^^^ (-1 : Int32)) &&& (p0 - (1 : Int32))) (8 : Int32)) (4 : Int32))), .val (.int (13 : Int32))] [(.int (1 : Int32)), (.int (XT.ushr (XT.ushr ((p0 ^^^ (-1 : Int32)) &&& (p0 - (1 : Int32))) (8 : Int32)) (4 : Int32))), (.int (13 : Int32))]) _ _ _
            refine Go.iushr X0 hx (hb hby d_ntz_77) ?_
            show Go _ _ _ _ s₁ (mkF m 78 #[.val (.int (XT.ushr (XT.ushr ((p0 ^^^ (-1 : Int32)) &&& (p0 - (1 : Int32))) (8 : Int32)) (4 : Int32))), .val (.int (13 : Int32))] [(.int (XT.ushr (XT.ushr (XT.ushr ((p0 ^^^ (-1 : Int32)) &&& (p0 - (1 : Int32))) (8 : Int32)) (4 : Int32)) (1 : Int32))), (.int (13 : Int32))]) _ _ _
            refine Go.iadd X0 hx (hb hby d_ntz_78) ?_
            show Go _ _ _ _ s₁ (mkF m 79 #[.val (.int (XT.ushr (XT.ushr ((p0 ^^^ (-1 : Int32)) &&& (p0 - (1 : Int32))) (8 : Int32)) (4 : Int32))), .val (.int (13 : Int32))] [(.int ((13 : Int32) + (XT.ushr (XT.ushr (XT.ushr ((p0 ^^^ (-1 : Int32)) &&& (p0 - (1 : Int32))) (8 : Int32)) (4 : Int32)) (1 : Int32))))]) _ _ _
            refine Go.retI X0 hx hlk hret (hb hby d_ntz_79) (by decide) (by decide) ?_
            rw [e0]
            exact ⟨by unfold F_ntz; rw [if_pos c1]; rw [if_neg c2]; rw [if_pos c10]; rw [if_pos c11]; rw [if_neg c12], rfl, rfl⟩
        · refine Go.icmpYes X0 hx (hb hby d_ntz_52) (XT.ii_le_t c11) (pc' := 62) (by decide) (by decide) ?_
          show Go _ _ _ _ s₁ (mkF m 62 #[.val (.int (XT.ushr ((p0 ^^^ (-1 : Int32)) &&& (p0 - (1 : Int32))) (8 : Int32))), .val (.int (9 : Int32))] []) _ _ _
          refine Go.iloadN X0 hx (hb hby d_ntz_62) rfl ?_
          show Go _ _ _ _ s₁ (mkF m 63 #[.val (.int (XT.ushr ((p0 ^^^ (-1 : Int32)) &&& (p0 - (1 : Int32))) (8 : Int32))), .val (.int (9 : Int32))] [(.int (XT.ushr ((p0 ^^^ (-1 : Int32)) &&& (p0 - (1 : Int32))) (8 : Int32)))]) _ _ _
          refine Go.iconst X0 hx (hb hby d_ntz_63) ?_
          show Go _ _ _ _ s₁ (mkF m 64 #[.val (.int (XT.ushr ((p0 ^^^ (-1 : Int32)) &&& (p0 - (1 : Int32))) (8 : Int32))), .val (.int (9 : Int32))] [(.int (4 : Int32)), (.int (XT.ushr ((p0 ^^^ (-1 : Int32)) &&& (p0 - (1 : Int32))) (8 : Int32)))]) _ _ _
          rcases Decidable.em ((4 : Int32) < (XT.ushr ((p0 ^^^ (-1 : Int32)) &&& (p0 - (1 : Int32))) (8 : Int32))) with c13 | c13
          · refine Go.icmpNo X0 hx (hb hby d_ntz_64) (XT.ii_le_f c13) ?_
            show Go _ _ _ _ s₁ (mkF m 67 #[.val (.int (XT.ushr ((p0 ^^^ (-1 : Int32)) &&& (p0 - (1 : Int32))) (8 : Int32))), .val (.int (9 : Int32))] []) _ _ _
            refine Go.iinc X0 hx (hb hby d_ntz_67) rfl (l' := #[.val (.int (XT.ushr ((p0 ^^^ (-1 : Int32)) &&& (p0 - (1 : Int32))) (8 : Int32))), .val (.int (11 : Int32))]) rfl ?_
            show Go _ _ _ _ s₁ (mkF m 70 #[.val (.int (XT.ushr ((p0 ^^^ (-1 : Int32)) &&& (p0 - (1 : Int32))) (8 : Int32))), .val (.int (11 : Int32))] []) _ _ _
            refine Go.iloadN X0 hx (hb hby d_ntz_70) rfl ?_
            show Go _ _ _ _ s₁ (mkF m 71 #[.val (.int (XT.ushr ((p0 ^^^ (-1 : Int32)) &&& (p0 - (1 : Int32))) (8 : Int32))), .val (.int (11 : Int32))] [(.int (XT.ushr ((p0 ^^^ (-1 : Int32)) &&& (p0 - (1 : Int32))) (8 : Int32)))]) _ _ _
            refine Go.iconst X0 hx (hb hby d_ntz_71) ?_
            show Go _ _ _ _ s₁ (mkF m 72 #[.val (.int (XT.ushr ((p0 ^^^ (-1 : Int32)) &&& (p0 - (1 : Int32))) (8 : Int32))), .val (.int (11 : Int32))] [(.int (2 : Int32)), (.int (XT.ushr ((p0 ^^^ (-1 : Int32)) &&& (p0 - (1 : Int32))) (8 : Int32)))]) _ _ _
            refine Go.iushr X0 hx (hb hby d_ntz_72) ?_
            show Go _ _ _ _ s₁ (mkF m 73 #[.val (.int (XT.ushr ((p0 ^^^ (-1 : Int32)) &&& (p0 - (1 : Int32))) (8 : Int32))), .val (.int (11 : Int32))] [(.int (XT.ushr (XT.ushr ((p0 ^^^ (-1 : Int32)) &&& (p0 - (1 : Int32))) (8 : Int32)) (2 : Int32)))]) _ _ _
            refine Go.istoreN X0 hx (hb hby d_ntz_73) (l' := #[.val (.int (XT.ushr (XT.ushr ((p0 ^^^ (-1 : Int32)) &&& (p0 - (1 : Int32))) (8 : Int32)) (2 : Int32))), .val (.int (11 : Int32))]) rfl ?_
            show Go _ _ _ _ s₁ (mkF m 74 #[.val (.int (XT.ushr (XT.ushr ((p0 ^^^ (-1 : Int32)) &&& (p0 - (1 : Int32))) (8 : Int32)) (2 : Int32))), .val (.int (11 : Int32))] []) _ _ _
            refine Go.iloadN X0 hx (hb hby d_ntz_74) rfl ?_
            show Go _ _ _ _ s₁ (mkF m 75 #[.val (.int (XT.ushr (XT.ushr ((p0 ^^^ (-1 : Int32)) &&& (p0 - (1 : Int32))) (8 : Int32)) (2 : Int32))), .val (.int (11 : Int32))] [(.int (11 : Int32))]) _ _ _
            refine Go.iloadN X0 hx (hb hby d_ntz_75) rfl ?_
            show Go _ _ _ _ s₁ (mkF m 76 #[.val (.int (XT.ushr (XT.ushr ((p0 ^^^ (-1 : Int32)) &&& (p0 - (1 : Int32))) (8 : Int32)) (2 : Int32))), .val (.int (11 : Int32))] [(.int (XT.ushr (XT.ushr ((p0 ^^^ (-1 : Int32)) &&& (p0 - (1 : Int32))) (8 : Int32)) (2 : Int32))), (.int (11 : Int32))]) _ _ _
            refine Go.iconst X0 hx (hb hby d_ntz_76) ?_
            show Go _ _ _ _ s₁ (mkF m 77 #[.val (.int (XT.ushr (XT.ushr ((p0 ^^^ (-1 : Int32)) &&& (p0 - (1 : Int32))) (8 : Int32)) (2 : Int32))), .val (.int (11 : Int32))] [(.int (1 : Int32)), (.int (XT.ushr (XT.ushr ((p0 ^^^ (-1 : Int32)) &&& (p0 - (1 : Int32))) (8 : Int32)) (2 : Int32))), (.int (11 : Int32))]) _ _ _
            refine Go.iushr X0 hx (hb hby d_ntz_77) ?_
            show Go _ _ _ _ s₁ (mkF m 78 #[.val (.int (XT.ushr (XT.ushr ((p0 ^^^ (-1 : Int32)) &&& (p0 - (1 : Int32))) (8 : Int32)) (2 : Int32))), .val (.int (11 : Int32))] [(.int (XT.ushr (XT.ushr (XT.ushr ((p0 ^^^ (-1 : Int32)) &&& (p0 - (1 : Int32))) (8 : Int32)) (2 : Int32)) (1 : Int32))), (.int (11 : Int32))]) _ _ _
            refine Go.iadd X0 hx (hb hby d_ntz_78) ?_
            show Go _ _ _ _ s₁ (mkF m 79 #[.val (.int (XT.ushr (XT.ushr ((p0 ^^^ (-1 : Int32)) &&& (p0 - (1 : Int32))) (8 : Int32)) (2 : Int32))), .val (.int (11 : Int32))] [(.int ((11 : Int32) + (XT.ushr (XT.ushr (XT.ushr ((p0 ^^^ (-1 : Int32)) &&& (p0 - (1 : Int32))) (8 : Int32)) (2 : Int32)) (1 : Int32))))]) _ _ _
            refine Go.retI X0 hx hlk hret (hb hby d_ntz_79) (by decide) (by decide) ?_
            rw [e0]
            exact ⟨by unfold F_ntz; rw [if_pos c1]; rw [if_neg c2]; rw [if_pos c10]; rw [if_neg c11]; rw [if_pos c13], rfl, rfl⟩
          · refine Go.icmpYes X0 hx (hb hby d_ntz_64) (XT.ii_le_t c13) (pc' := 74) (by decide) (by decide) ?_
            show Go _ _ _ _ s₁ (mkF m 74 #[.val (.int (XT.ushr ((p0 ^^^ (-1 : Int32)) &&& (p0 - (1 : Int32))) (8 : Int32))), .val (.int (9 : Int32))] []) _ _ _
            refine Go.iloadN X0 hx (hb hby d_ntz_74) rfl ?_
            show Go _ _ _ _ s₁ (mkF m 75 #[.val (.int (XT.ushr ((p0 ^^^ (-1 : Int32)) &&& (p0 - (1 : Int32))) (8 : Int32))), .val (.int (9 : Int32))] [(.int (9 : Int32))]) _ _ _
            refine Go.iloadN X0 hx (hb hby d_ntz_75) rfl ?_
            show Go _ _ _ _ s₁ (mkF m 76 #[.val (.int (XT.ushr ((p0 ^^^ (-1 : Int32)) &&& (p0 - (1 : Int32))) (8 : Int32))), .val (.int (9 : Int32))] [(.int (XT.ushr ((p0 ^^^ (-1 : Int32)) &&& (p0 - (1 : Int32))) (8 : Int32))), (.int (9 : Int32))]) _ _ _
            refine Go.iconst X0 hx (hb hby d_ntz_76) ?_
            show Go _ _ _ _ s₁ (mkF m 77 #[.val (.int (XT.ushr ((p0 ^^^ (-1 : Int32)) &&& (p0 - (1 : Int32))) (8 : Int32))), .val (.int (9 : Int32))] [(.int (1 : Int32)), (.int (XT.ushr ((p0 ^^^ (-1 : Int32)) &&& (p0 - (1 : Int32))) (8 : Int32))), (.int (9 : Int32))]) _ _ _
            refine Go.iushr X0 hx (hb hby d_ntz_77) ?_
            show Go _ _ _ _ s₁ (mkF m 78 #[.val (.int (XT.ushr ((p0 ^^^ (-1 : Int32)) &&& (p0 - (1 : Int32))) (8 : Int32))), .val (.int (9 : Int32))] [(.int (XT.ushr (XT.ushr ((p0 ^^^ (-1 : Int32)) &&& (p0 - (1 : Int32))) (8 : Int32)) (1 : Int32))), (.int (9 : Int32))]) _ _ _
            refine Go.iadd X0 hx (hb hby d_ntz_78) ?_
            show Go _ _ _ _ s₁ (mkF m 79 #[.val (.int (XT.ushr ((p0 ^^^ (-1 : Int32)) &&& (p0 - (1 : Int32))) (8 : Int32))), .val (.int (9 : Int32))] [(.int ((9 : Int32) + (XT.ushr (XT.ushr ((p0 ^^^ (-1 : Int32)) &&& (p0 - (1 : Int32))) (8 : Int32)) (1 : Int32))))]) _ _ _
            refine Go.retI X0 hx hlk hret (hb hby d_ntz_79) (by decide) (by decide) ?_
            rw [e0]
            exact ⟨by unfold F_ntz; rw [if_pos c1]; rw [if_neg c2]; rw [if_pos c10]; rw [if_neg c11]; rw [if_neg c13], rfl, rfl⟩
      · refine Go.icmpYes X0 hx (hb hby d_ntz_38) (XT.ii_le_t c10) (pc' := 49) (by decide) (by decide) ?_
        show Go _ _ _ _ s₁ (mkF m 49 #[.val (.int ((p0 ^^^ (-1 : Int32)) &&& (p0 - (1 : Int32)))), .val (.int (1 : Int32))] []) _ _ _
        refine Go.iloadN X0 hx (hb hby d_ntz_49) rfl ?_
        show Go _ _ _ _ s₁ (mkF m 50 #[.val (.int ((p0 ^^^ (-1 : Int32)) &&& (p0 - (1 : Int32)))), .val (.int (1 : Int32))] [(.int ((p0 ^^^ (-1 : Int32)) &&& (p0 - (1 : Int32))))]) _ _ _
        refine Go.bipush X0 hx (hb hby d_ntz_50) ?_
        show Go _ _ _ _ s₁ (mkF m 52 #[.val (.int ((p0 ^^^ (-1 : Int32)) &&& (p0 - (1 : Int32)))), .val (.int (1 : Int32))] [(.int (16 : Int32)), (.int ((p0 ^^^ (-1 : Int32)) &&& (p0 - (1 : Int32))))]) _ _ _
        rcases Decidable.em ((16 : Int32) < ((p0 ^^^ (-1 : Int32)) &&& (p0 - (1 : Int32)))) with c14 | c14
        · refine Go.icmpNo X0 hx (hb hby d_ntz_52) (XT.ii_le_f c14) ?_
          show Go _ _ _ _ s₁ (mkF m 55 #[.val (.int ((p0 ^^^ (-1 : Int32)) &&& (p0 - (1 : Int32)))), .val (.int (1 : Int32))] []) _ _ _
          refine Go.iinc X0 hx (hb hby d_ntz_55) rfl (l' := #[.val (.int ((p0 ^^^ (-1 : Int32)) &&& (p0 - (1 : Int32)))), .val (.int (5 : Int32))]) rfl ?_
          show Go _ _ _ _ s₁ (mkF m 58 #[.val (.int ((p0 ^^^ (-1 : Int32)) &&& (p0 - (1 : Int32)))), .val (.int (5 : Int32))] []) _ _ _
          refine Go.iloadN X0 hx (hb hby d_ntz_58) rfl ?_
          show Go _ _ _ _ s₁ (mkF m 59 #[.val (.int ((p0 ^^^ (-1 : Int32)) &&& (p0 - (1 : Int32)))), .val (.int (5 : Int32))] [(.int ((p0 ^^^ (-1 : Int32)) &&& (p0 - (1 : Int32))))]) _ _ _
          refine Go.iconst X0 hx (hb hby d_ntz_59) ?_
          show Go _ _ _ _ s₁ (mkF m 60 #[.val (.int ((p0 ^^^ (-1 : Int32)) &&& (p0 - (1 : Int32)))), .val (.int (5 : Int32))] [(.int (4 : Int32)), (.int ((p0 ^^^ (-1 : Int32)) &&& (p0 - (1 : Int32))))]) _ _ _
          refine Go.iushr X0 hx (hb hby d_ntz_60) ?_
          show Go _ _ _ _ s₁ (mkF m 61 #[.val (.int ((p0 ^^^ (-1 : Int32)) &&& (p0 - (1 : Int32)))), .val (.int (5 : Int32))] [(.int (XT.ushr ((p0 ^^^ (-1 : Int32)) &&& (p0 - (1 : Int32))) (4 : Int32)))]) _ _ _
          refine Go.istoreN X0 hx (hb hby d_ntz_61) (l' := #[.val (.int (XT.ushr ((p0 ^^^ (-1 : Int32)) &&& (p0 - (1 : Int32))) (4 : Int32))), .val (.int (5 : Int32))]) rfl ?_
          show Go _ _ _ _ s₁ (mkF m 62 #[.val (.int (XT.ushr ((p0 ^^^ (-1 : Int32)) &&& (p0 - (1 : Int32))) (4 : Int32))), .val (.int (5 : Int32))] []) _ _ _
          refine Go.iloadN X0 hx (hb hby d_ntz_62) rfl ?_
          show Go _ _ _ _ s₁ (mkF m 63 #[.val (.int (XT.ushr ((p0 ^^^ (-1 : Int32)) &&& (p0 - (1 : Int32))) (4 : Int32))), .val (.int (5 : Int32))] [(.int (XT.ushr ((p0 ^^^ (-1 : Int32)) &&& (p0 - (1 : Int32))) (4 : Int32)))]) _ _ _
          refine Go.iconst X0 hx (hb hby d_ntz_63) ?_
          show Go _ _ _ _ s₁ (mkF m 64 #[.val (.int (XT.ushr ((p0 ^^^ (-1 : Int32)) &&& (p0 - (1 : Int32))) (4 : Int32))), .val (.int (5 : Int32))] [(.int (4 : Int32)), (.int (XT.ushr ((p0 ^^^ (-1 : Int32)) &&& (p0 - (1 : Int32))) (4 : Int32)))]) _ _ _
          rcases Decidable.em ((4 : Int32) < (XT.ushr ((p0 ^^^ (-1 : Int32)) &&& (p0 - (1 : Int32))) (4 : Int32))) with c15 | c15
          · refine Go.icmpNo X0 hx (hb hby d_ntz_64) (XT.ii_le_f c15) ?_
            show Go _ _ _ _ s₁ (mkF m 67 #[.val (.int (XT.ushr ((p0 ^^^ (-1 : Int32)) &&& (p0 - (1 : Int32))) (4 : Int32))), .val (.int (5 : Int32))] []) _ _ _
            refine Go.iinc X0 hx (hb hby d_ntz_67) rfl (l' := #[.val (.int (XT.ushr ((p0 ^^^ (-1 : Int32)) &&& (p0 - (1 : Int32))) (4 : Int32))), .val (.int (7 : Int32))]) rfl ?_
            show Go _ _ _ _ s₁ (mkF m 70 #[.val (.int (XT.ushr ((p0 ^^^ (-1 : Int32)) &&& (p0 - (1 : Int32))) (4 : Int32))), .val (.int (7 : Int32))] []) _ _ _
            refine Go.iloadN X0 hx (hb hby d_ntz_70) rfl ?_
            show Go _ _ _ _ s₁ (mkF m 71 #[.val (.int (XT.ushr ((p0 ^^^ (-1 : Int32)) &&& (p0 - (1 : Int32))) (4 : Int32))), .val (.int (7 : Int32))] [(.int (XT.ushr ((p0 ^^^ (-1 : Int32)) &&& (p0 - (1 : Int32))) (4 : Int32)))]) _ _ _
            refine Go.iconst X0 hx (hb hby d_ntz_71) ?_
            show Go _ _ _ _ s₁ (mkF m 72 #[.val (.int (XT.ushr ((p0 ^^^ (-1 : Int32)) &&& (p0 - (1 : Int32))) (4 : Int32))), .val (.int (7 : Int32))] [(.int (2 : Int32)), (.int (XT.ushr ((p0 ^^^ (-1 : Int32)) &&& (p0 - (1 : Int32))) (4 : Int32)))]) _ _ _
            refine Go.iushr X0 hx (hb hby d_ntz_72) ?_
            show Go _ _ _ _ s₁ (mkF m 73 #[.val (.int (XT.ushr ((p0 ^^^ (-1 : Int32)) &&& (p0 - (1 : Int32))) (4 : Int32))), .val (.int (7 : Int32))] [(.int (XT.ushr (XT.ushr ((p0 ^^^ (-1 : Int32)) &&& (p0 - (1 : Int32))) (4 : Int32)) (2 : Int32)))]) _ _ _
            refine Go.istoreN X0 hx (hb hby d_ntz_73) (l' := #[.val (.int (XT.ushr (XT.ushr ((p0 ^^^ (-1 : Int32)) &&& (p0 - (1 : Int32))) (4 : Int32)) (2 : Int32))), .val (.int (7 : Int32))]) rfl ?_
            show Go _ _ _ _ s₁ (mkF m 74 #[.val (.int (XT.ushr (XT.ushr ((p0 ^^^ (-1 : Int32)) &&& (p0 - (1 : Int32))) (4 : Int32)) (2 : Int32))), .val (.int (7 : Int32))] []) _ _ _
            refine Go.iloadN X0 hx (hb hby d_ntz_74) rfl ?_
            show Go _ _ _ _ s₁ (mkF m 75 #[.val (.int (XT.ushr (XT.ushr ((p0 ^^^ (-1 : Int32)) &&& (p0 - (1 : Int32))) (4 : Int32)) (2 : Int32))), .val (.int (7 : Int32))] [(.int (7 : Int32))]) _ _ _
            refine Go.iloadN X0 hx (hb hby d_ntz_75) rfl ?_
            show Go _ _ _ _ s₁ (mkF m 76 #[.val (.int (XT.ushr (XT.ushr ((p0 ^^^ (-1 : Int32)) &&& (p0 - (1 : Int32))) (4 : Int32)) (2 : Int32))), .val (.int (7 : Int32))] [(.int (XT.ushr (XT.ushr ((p0 ^^^ (-1 : Int32)) &&& (p0 - (1 : Int32))) (4 : Int32)) (2 : Int32))), (.int (7 : Int32))]) _ _ _
            refine Go.iconst X0 hx (hb hby d_ntz_76) ?_
            show Go _ _ _ _ s₁ (mkF m 77 #[.val (.int (XT.ushr (XT.ushr ((p0 ^^^ (-1 : Int32)) &&& (p0 - (1 : Int32))) (4 : Int32)) (2 : Int32))), .val (.int (7 : Int32))] [(.int (1 : Int32)), (.int (XT.ushr (XT.ushr ((p0 ^^^ (-1 : Int32)) &&& (p0 - (1 : Int32))) (4 : Int32)) (2 : Int32))), (.int (7 : Int32))]) _ _ _
            refine Go.iushr X0 hx (hb hby d_ntz_77) ?_
            show Go _ _ _ _ s₁ (mkF m 78 #[.val (.int (XT.ushr (XT.ushr ((p0 ^^^ (-1 : Int32)) &&& (p0 - (1 : Int32))) (4 : Int32)) (2 : Int32))), .val (.int (7 : Int32))] [(.int (XT.ushr (XT.ushr (XT.ushr ((p0 ^^^ (-1 : Int32)) &&& (p0 - (1 : Int32))) (4 : Int32)) (2 : Int32)) (1 : Int32))), (.int (7 : Int32))]) _ _ _
            refine Go.iadd X0 hx (hb hby d_ntz_78) ?_
            show Go _ _ _ _ s₁ (mkF m 79 #[.val (.int (XT.ushr (XT.ushr ((p0 ^^^ (-1 : Int32)) &&& (p0 - (1 : Int32))) (4 : Int32)) (2 : Int32))), .val (.int (7 : Int32))] [(.int ((7 : Int32) + (XT.ushr (XT.ushr (XT.ushr ((p0 ^^^ (-1 : Int32)) &&& (p0 - (1 : Int32))) (4 : Int32)) (2 : Int32)) (1 : Int32))))]) _ _ _
            refine Go.retI X0 hx hlk hret (hb hby d_ntz_79) (by decide) (by decide) ?_
            rw [e0]
            exact ⟨by unfold F_ntz; rw [if_pos c1]; rw [if_neg c2]; rw [if_neg c10]; rw [if_pos c14]; rw [if_pos c15], rfl, rfl⟩
          · refine Go.icmpYes X0 hx (hb hby d_ntz_64) (XT.ii_le_t c15) (pc' := 74) (by decide) (by decide) ?_
            show Go _ _ _ _ s₁ (mkF m 74 #[.val (.int (XT.ushr ((p0 ^^^ (-1 : Int32)) &&& (p0 - (1 : Int32))) (4 : Int32))), .val (.int (5 : Int32))] []) _ _ _
            refine Go.iloadN X0 hx (hb hby d_ntz_74) rfl ?_
            show Go _ _ _ _ s₁ (mkF m 75 #[.val (.int (XT.ushr ((p0 ^^^ (-1 : Int32)) &&& (p0 - (1 : Int32))) (4 : Int32))), .val (.int (5 : Int32))] [(.int (5 : Int32))]) _ _ _
            refine Go.iloadN X0 hx (hb hby d_ntz_75) rfl ?_
            show Go _ _ _ _ s₁ (mkF m 76 #[.val (.int (XT.ushr ((p0 ^^^ (-1 : Int32)) &&& (p0 - (1 : Int32))) (4 : Int32))), .val (.int (5 : Int32))] [(.int (XT.ushr ((p0 ^^^ (-1 : Int32)) &&& (p0 - (1 : Int32))) (4 : Int32))), (.int (5 : Int32))]) _ _ _
            refine Go.iconst X0 hx (hb hby d_ntz_76) ?_
            show Go _ _ _ _ s₁ (mkF m 77 #[.val (.int (XT.ushr ((p0 ^^^ (-1 : Int32)) &&& (p0 - (1 : Int32))) (4 : Int32))), .val (.int (5 : Int32))] [(.int (1 : Int32)), (.int (XT.ushr ((p0 ^^^ (-1 : Int32)) &&& (p0 - (1 : Int32))) (4 : Int32))), (.int (5 : Int32))]) _ _ _
            refine Go.iushr X0 hx (hb hby d_ntz_77) ?_
            show Go _ _ _ _ s₁ (mkF m 78 #[.val (.int (XT.ushr ((p0 ^^^ (-1 : Int32)) &&& (p0 - (1 : Int32))) (4 : Int32))), .val (.int (5 : Int32))] [(.int (XT.ushr (XT.ushr ((p0 ^^^ (-1 : Int32)) &&& (p0 - (1 : Int32))) (4 : Int32)) (1 : Int32))), (.int (5 : Int32))]) _ _ _
            refine Go.iadd X0 hx (hb hby d_ntz_78) ?_
            show Go _ _ _ _ s₁ (mkF m 79 #[.val (.int (XT.ushr ((p0 ^^^ (-1 : Int32)) &&& (p0 - (1 : Int32))) (4 : Int32))), .val (.int (5 : Int32))] [(.int ((5 : Int32) + (XT.ushr (XT.ushr ((p0 ^^^ (-1 : Int32)) &&& (p0 - (1 : Int32))) (4 : Int32)) (1 : Int32))))]) _ _ _
            refine Go.retI X0 hx hlk hret (hb hby d_ntz_79) (by decide) (by decide) ?_
            rw [e0]
            exact ⟨by unfold F_ntz; rw [if_pos c1]; rw [if_neg c2]; rw [if_neg c10]; rw [if_pos c14]; rw [if_neg c15], rfl, rfl⟩
        · refine Go.icmpYes X0 hx (hb hby d_ntz_52) (XT.ii_le_t c14) (pc' := 62) (by decide) (by decide) ?_
          show Go _ _ _ _ s₁ (mkF m 62 #[.val (.int ((p0 ^^^ (-1 : Int32)) &&& (p0 - (1 : Int32)))), .val (.int (1 : Int32))] []) _ _ _
          refine Go.iloadN X0 hx (hb hby d_ntz_62) rfl ?_
          show Go _ _ _ _ s₁ (mkF m 63 #[.val (.int ((p0 ^^^ (-1 : Int32)) &&& (p0 - (1 : Int32)))), .val (.int (1 : Int32))] [(.int ((p0 ^^^ (-1 : Int32)) &&& (p0 - (1 : Int32))))]) _ _ _
          refine Go.iconst X0 hx (hb hby d_ntz_63) ?_
          show Go _ _ _ _ s₁ (mkF m 64 #[.val (.int ((p0 ^^^ (-1 : Int32)) &&& (p0 - (1 : Int32)))), .val (.int (1 : Int32))] [(.int (4 : Int32)), (.int ((p0 ^^^ (-1 : Int32)) &&& (p0 - (1 : Int32))))]) _ _ _
          rcases Decidable.em ((4 : Int32) < ((p0 ^^^ (-1 : Int32)) &&& (p0 - (1 : Int32)))) with c16 | c16
          · refine Go.icmpNo X0 hx (hb hby d_ntz_64) (XT.ii_le_f c16) ?_
            show Go _ _ _ _ s₁ (mkF m 67 #[.val (.int ((p0 ^^^ (-1 : Int32)) &&& (p0 - (1 : Int32)))), .val (.int (1 : Int32))] []) _ _ _
            refine Go.iinc X0 hx (hb hby d_ntz_67) rfl (l' := #[.val (.int ((p0 ^^^ (-1 : Int32)) &&& (p0 - (1 : Int32)))), .val (.int (3 : Int32))]) rfl ?_
            show Go _ _ _ _ s₁ (mkF m 70 #[.val (.int ((p0 ^^^ (-1 : Int32)) &&& (p0 - (1 : Int32)))), .val (.int (3 : Int32))] []) _ _ _
            refine Go.iloadN X0 hx (hb hby d_ntz_70) rfl ?_
            show Go _ _ _ _ s₁ (mkF m 71 #[.val (.int ((p0 ^^^ (-1 : Int32)) &&& (p0 - (1 : Int32)))), .val (.int (3 : Int32))] [(.int ((p0 ^^^ (-1 : Int32)) &&& (p0 - (1 : Int32))))]) _ _ _
            refine Go.iconst X0 hx (hb hby d_ntz_71) ?_
            show Go _ _ _ _ s₁ (mkF m 72 #[.val (.int ((p0 ^^^ (-1 : Int32)) &&& (p0 - (1 : Int32)))), .val (.int (3 : Int32))] [(.int (2 : Int32)), (.int ((p0 ^^^ (-1 : Int32)) &&& (p0 - (1 : Int32))))]) _ _ _
            refine Go.iushr X0 hx (hb hby d_ntz_72) ?_
            show Go _ _ _ _ s₁ (mkF m 73 #[.val (.int ((p0 ^^^ (-1 : Int32)) &&& (p0 - (1 : Int32)))), .val (.int (3 : Int32))] [(.int (XT.ushr ((p0 ^^^ (-1 : Int32)) &&& (p0 - (1 : Int32))) (2 : Int32)))]) _ _ _
            refine Go.istoreN X0 hx (hb hby d_ntz_73) (l' := #[.val (.int (XT.ushr ((p0 ^^^ (-1 : Int32)) &&& (p0 - (1 : Int32))) (2 : Int32))), .val (.int (3 : Int32))]) rfl ?_
            show Go _ _ _ _ s₁ (mkF m 74 #[.val (.int (XT.ushr ((p0 ^^^ (-1 : Int32)) &&& (p0 - (1 : Int32))) (2 : Int32))), .val (.int (3 : Int32))] []) _ _ _
            refine Go.iloadN X0 hx (hb hby d_ntz_74) rfl ?_
            show Go _ _ _ _ s₁ (mkF m 75 #[.val (.int (XT.ushr ((p0 ^^^ (-1 : Int32)) &&& (p0 - (1 : Int32))) (2 : Int32))), .val (.int (3 : Int32))] [(.int (3 : Int32))]) _ _ _
            refine Go.iloadN X0 hx (hb hby d_ntz_75) rfl ?_
            show Go _ _ _ _ s₁ (mkF m 76 #[.val (.int (XT.ushr ((p0 ^^^ (-1 : Int32)) &&& (p0 - (1 : Int32))) (2 : Int32))), .val (.int (3 : Int32))] [(.int (XT.ushr ((p0 ^^^ (-1 : Int32)) &&& (p0 - (1 : Int32))) (2 : Int32))), (.int (3 : Int32))]) _ _ _
            refine Go.iconst X0 hx (hb hby d_ntz_76) ?_
            show Go _ _ _ _ s₁ (mkF m 77 #[.val (.int (XT.ushr ((p0 ^^^ (-1 : Int32)) &&& (p0 - (1 : Int32))) (2 : Int32))), .val (.int (3 : Int32))] [(.int (1 : Int32)), (.int (XT.ushr ((p0 ^^^ (-1 : Int32)) &&& (p0 - (1 : Int32))) (2 : Int32))), (.int (3 : Int32))]) _ _ _
            refine Go.iushr X0 hx (hb hby d_ntz_77) ?_
            show Go _ _ _ _ s₁ (mkF m 78 #[.val (.int (XT.ushr ((p0 ^^^ (-1 : Int32)) &&& (p0 - (1 : Int32))) (2 : Int32))), .val (.int (3 : Int32))] [(.int (XT.ushr (XT.ushr ((p0 ^^^ (-1 : Int32)) &&& (p0 - (1 : Int32))) (2 : Int32)) (1 : Int32))), (.int (3 : Int32))]) _ _ _
            refine Go.iadd X0 hx (hb hby d_ntz_78) ?_
            show Go _ _ _ _ s₁ (mkF m 79 #[.val (.int (XT.ushr ((p0 ^^^ (-1 : Int32)) &&& (p0 - (1 : Int32))) (2 : Int32))), .val (.int (3 : Int32))] [(.int ((3 : Int32) + (XT.ushr (XT.ushr ((p0 ^^^ (-1 : Int32)) &&& (p0 - (1 : Int32))) (2 : Int32)) (1 : Int32))))]) _ _ _
            refine Go.retI X0 hx hlk hret (hb hby d_ntz_79) (by decide) (by decide) ?_
            rw [e0]
            exact ⟨by unfold F_ntz; rw [if_pos c1]; rw [if_neg c2]; rw [if_neg c10]; rw [if_neg c14]; rw [if_pos c16], rfl, rfl⟩
          · refine Go.icmpYes X0 hx (hb hby d_ntz_64) (XT.ii_le_t c16) (pc' := 74) (by decide) (by decide) ?_
            show Go _ _ _ _ s₁ (mkF m 74 #[.val (.int ((p0 ^^^ (-1 : Int32)) &&& (p0 - (1 : Int32)))), .val (.int (1 : Int32))] []) _ _ _
            refine Go.iloadN X0 hx (hb hby d_ntz_74) rfl ?_
            show Go _ _ _ _ s₁ (mkF m 75 #[.val (.int ((p0 ^^^ (-1 : Int32)) &&& (p0 - (1 : Int32)))), .val (.int (1 : Int32))] [(.int (1 : Int32))]) _ _ _
            refine Go.iloadN X0 hx (hb hby d_ntz_75) rfl ?_
            show Go _ _ _ _ s₁ (mkF m 76 #[.val (.int ((p0 ^^^ (-1 : Int32)) &&& (p0 - (1 : Int32)))), .val (.int (1 : Int32))] [(.int ((p0 ^^^ (-1 : Int32)) &&& (p0 - (1 : Int32)))), (.int (1 : Int32))]) _ _ _
            refine Go.iconst X0 hx (hb hby d_ntz_76) ?_
            show Go _ _ _ _ s₁ (mkF m 77 #[.val (.int ((p0 ^^^ (-1 : Int32)) &&& (p0 - (1 : Int32)))), .val (.int (1 : Int32))] [(.int (1 : Int32)), (.int ((p0 ^^^ (-1 : Int32)) &&& (p0 - (1 : Int32)))), (.int (1 : Int32))]) _ _ _
            refine Go.iushr X0 hx (hb hby d_ntz_77) ?_
            show Go _ _ _ _ s₁ (mkF m 78 #[.val (.int ((p0 ^^^ (-1 : Int32)) &&& (p0 - (1 : Int32)))), .val (.int (1 : Int32))] [(.int (XT.ushr ((p0 ^^^ (-1 : Int32)) &&& (p0 - (1 : Int32))) (1 : Int32))), (.int (1 : Int32))]) _ _ _
            refine Go.iadd X0 hx (hb hby d_ntz_78) ?_
            show Go _ _ _ _ s₁ (mkF m 79 #[.val (.int ((p0 ^^^ (-1 : Int32)) &&& (p0 - (1 : Int32)))), .val (.int (1 : Int32))] [(.int ((1 : Int32) + (XT.ushr ((p0 ^^^ (-1 : Int32)) &&& (p0 - (1 : Int32))) (1 : Int32))))]) _ _ _
            refine Go.retI X0 hx hlk hret (hb hby d_ntz_79) (by decide) (by decide) ?_
            rw [e0]
            exact ⟨by unfold F_ntz; rw [if_pos c1]; rw [if_neg c2]; rw [if_neg c10]; rw [if_neg c14]; rw [if_neg c16], rfl, rfl⟩
  · refine Go.ifNo X0 hx (hb hby d_ntz_9) (XT.i0_gt_f c1) ?_
    show Go _ _ _ _ s₁ (mkF m 12 #[.val (.int ((p0 ^^^ (-1 : Int32)) &&& (p0 - (1 : Int32)))), .unset] []) _ _ _
    refine Go.iloadN X0 hx (hb hby d_ntz_12) rfl ?_
    show Go _ _ _ _ s₁ (mkF m 13 #[.val (.int ((p0 ^^^ (-1 : Int32)) &&& (p0 - (1 : Int32)))), .unset] [(.int ((p0 ^^^ (-1 : Int32)) &&& (p0 - (1 : Int32))))]) _ _ _
    refine Go.bipush X0 hx (hb hby d_ntz_13) ?_
    show Go _ _ _ _ s₁ (mkF m 15 #[.val (.int ((p0 ^^^ (-1 : Int32)) &&& (p0 - (1 : Int32)))), .unset] [(.int (32 : Int32)), (.int ((p0 ^^^ (-1 : Int32)) &&& (p0 - (1 : Int32))))]) _ _ _
    refine Go.iand X0 hx (hb hby d_ntz_15) ?_
    show Go _ _ _ _ s₁ (mkF m 16 #[.val (.int ((p0 ^^^ (-1 : Int32)) &&& (p0 - (1 : Int32)))), .unset] [(.int (((p0 ^^^ (-1 : Int32)) &&& (p0 - (1 : Int32))) &&& (32 : Int32)))]) _ _ _
    refine Go.retI X0 hx hlk hret (hb hby d_ntz_16) (by decide) (by decide) ?_
    rw [e0]
    exact ⟨by unfold F_ntz; rw [if_neg c1], rfl, rfl⟩
def F_nlz (p0 : Int32) : Int32 := (if (0 : Int32) < p0 then (if p0 < (65536 : Int32) then (if p0 < (256 : Int32) then (if p0 < (16 : Int32) then (if p0 < (4 : Int32) then ((31 : Int32) - (XT.ushr p0 (1 : Int32))) else ((29 : Int32) - (XT.ushr (XT.ushr p0 (2 : Int32)) (1 : Int32)))) else (if (XT.ushr p0 (4 : Int32)) < (4 : Int32) then ((27 : Int32) - (XT.ushr (XT.ushr p0 (4 : Int32)) (1 : Int32))) else ((25 : Int32) - (XT.ushr (XT.ushr (XT.ushr p0 (4 : Int32)) (2 : Int32)) (1 : Int32))))) else (if (XT.ushr p0 (8 : Int32)) < (16 : Int32) then (if (XT.ushr p0 (8 : Int32)) < (4 : Int32) then ((23 : Int32) - (XT.ushr (XT.ushr p0 (8 : Int32)) (1 : Int32))) else ((21 : Int32) - (XT.ushr (XT.ushr (XT.ushr p0 (8 : Int32)) (2 : Int32)) (1 : Int32)))) else (if (XT.ushr (XT.ushr p0 (8 : Int32)) (4 : Int32)) < (4 : Int32) then ((19 : Int32) - (XT.ushr (XT.ushr (XT.ushr p0 (8 : Int32)) (4 : Int32)) (1 : Int32))) else ((17 : Int32) - (XT.ushr (XT.ushr (XT.ushr (XT.ushr p0 (8 : Int32)) (4 : Int32)) (2 : Int32)) (1 : Int32)))))) else (if (XT.ushr p0 (16 : Int32)) < (256 : Int32) then (if (XT.ushr p0 (16 : Int32)) < (16 : Int32) then (if (XT.ushr p0 (16 : Int32)) < (4 : Int32) then ((15 : Int32) - (XT.ushr (XT.ushr p0 (16 : Int32)) (1 : Int32))) else ((13 : Int32) - (XT.ushr (XT.ushr (XT.ushr p0 (16 : Int32)) (2 : Int32)) (1 : Int32)))) else (if (XT.ushr (XT.ushr p0 (16 : Int32)) (4 : Int32)) < (4 : Int32) then ((11 : Int32) - (XT.ushr (XT.ushr (XT.ushr p0 (16 : Int32)) (4 : Int32)) (1 : Int32))) else ((9 : Int32) - (XT.ushr (XT.ushr (XT.ushr (XT.ushr p0 (16 : Int32)) (4 : Int32)) (2 : Int32)) (1 : Int32))))) else (if (XT.ushr (XT.ushr p0 (16 : Int32)) (8 : Int32)) < (16 : Int32) then (if (XT.ushr (XT.ushr p0 (16 : Int32)) (8 : Int32)) < (4 : Int32) then ((7 : Int32) - (XT.ushr (XT.ushr (XT.ushr p0 (16 : Int32)) (8 : Int32)) (1 : Int32))) else ((5 : Int32) - (XT.ushr (XT.ushr (XT.ushr (XT.ushr p0 (16 : Int32)) (8 : Int32)) (2 : Int32)) (1 : Int32)))) else (if (XT.ushr (XT.ushr (XT.ushr p0 (16 : Int32)) (8 : Int32)) (4 : Int32)) < (4 : Int32) then ((3 : Int32) - (XT.ushr (XT.ushr (XT.ushr (XT.ushr p0 (16 : Int32)) (8 : Int32)) (4 : Int32)) (1 : Int32))) else ((1 : Int32) - (XT.ushr (XT.ushr (XT.ushr (XT.ushr (XT.ushr p0 (16 : Int32)) (8 : Int32)) (4 : Int32)) (2 : Int32)) (1 : Int32))))))) else (if p0 = (0 : Int32) then (32 : Int32) else (0 : Int32)))
def Q_nlz (p0 : Int32) (h0 : Heap) (v : Option Value) (h : Heap) (L : List Loc) : Prop := v = some (.int (F_nlz p0)) ∧ L = [] ∧ h = h0
theorem ef_nlz (m : MethodId) (x0 : Int32) : entryFrame m #[(.int x0)] 2 = mkF m 0 #[.val (.int x0), .unset] [] := by first | (simp [entryFrame, mkF, argsToLocals, Value.category]; done) | rfl
set_option maxRecDepth 65536 in
set_option maxHeartbeats 40000000 in
theorem rm_nlz (l : Launch) (Z : State) (a0 : Array Value) (hw : ∀ d ∈ tables_1, d.before a0 Z = true) (p0 : Int32) (h0 : Heap)  :
    Met l Z (⟨"java/lang/Integer", "numberOfLeadingZeros", "(I)I"⟩ : MethodName) jdk_33_method_47_code 2 (Option.some Jvm.ClassFile.FieldType.int) [] ({ frames := 0, cells := 0, slots := 0, locals := 0 } : Room) #[(.int p0)] h0 (Q_nlz p0 h0) := by
  refine Met.of (plainFor_of_name pn_nlz) ?_
  intro p e s m below meth c s₁ X0 hx hby hml hZ hown hnm e0 hret hlk
  refine Go.cast (ef_nlz m p0) ?_
  show Go _ _ _ _ s₁ (mkF m 0 #[.val (.int p0), .unset] []) _ _ _
  refine Go.iloadN X0 hx (hb hby d_nlz_0) rfl ?_
  show Go _ _ _ _ s₁ (mkF m 1 #[.val (.int p0), .unset] [(.int p0)]) _ _ _
  rcases Decidable.em ((0 : Int32) < p0) with c17 | c17
  · refine Go.ifYes X0 hx (hb hby d_nlz_1) (XT.i0_gt_t c17) (pc' := 15) (by decide) (by decide) ?_
    show Go _ _ _ _ s₁ (mkF m 15 #[.val (.int p0), .unset] []) _ _ _
    refine Go.bipush X0 hx (hb hby d_nlz_15) ?_
    show Go _ _ _ _ s₁ (mkF m 17 #[.val (.int p0), .unset] [(.int (31 : Int32))]) _ _ _
    refine Go.istoreN X0 hx (hb hby d_nlz_17) (l' := #[.val (.int p0), .val (.int (31 : Int32))]) rfl ?_
    show Go _ _ _ _ s₁ (mkF m 18 #[.val (.int p0), .val (.int (31 : Int32))] []) _ _ _
    refine Go.iloadN X0 hx (hb hby d_nlz_18) rfl ?_
    show Go _ _ _ _ s₁ (mkF m 19 #[.val (.int p0), .val (.int (31 : Int32))] [(.int p0)]) _ _ _
    refine Go.ldcw X0 hx hZ hown (w63 hw) (hb hby d_nlz_19) ?_
    show Go _ _ _ _ s₁ (mkF m 22 #[.val (.int p0), .val (.int (31 : Int32))] [(.int (65536 : Int32)), (.int p0)]) _ _ _
    rcases Decidable.em (p0 < (65536 : Int32)) with c18 | c18
    · refine Go.icmpYes X0 hx (hb hby d_nlz_22) (XT.ii_lt_t c18) (pc' := 33) (by decide) (by decide) ?_
      show Go _ _ _ _ s₁ (mkF m 33 #[.val (.int p0), .val (.int (31 : Int32))] []) _ _ _
      refine Go.iloadN X0 hx (hb hby d_nlz_33) rfl ?_
      show Go _ _ _ _ s₁ (mkF m 34 #[.val (.int p0), .val (.int (31 : Int32))] [(.int p0)]) _ _ _
      refine Go.sipush X0 hx (hb hby d_nlz_34) ?_
      show Go _ _ _ _ s₁ (mkF m 37 #[.val (.int p0), .val (.int (31 : Int32))] [(.int (256 : Int32)), (.int p0)]) _ _ _
      rcases Decidable.em (p0 < (256 : Int32)) with c19 | c19
      · refine Go.icmpYes X0 hx (hb hby d_nlz_37) (XT.ii_lt_t c19) (pc' := 48) (by decide) (by decide) ?_
        show Go _ _ _ _ s₁ (mkF m 48 #[.val (.int p0), .val (.int (31 : Int32))] []) _ _ _
        refine Go.iloadN X0 hx (hb hby d_nlz_48) rfl ?_
        show Go _ _ _ _ s₁ (mkF m 49 #[.val (.int p0), .val (.int (31 : Int32))] [(.int p0)]) _ _ _
        refine Go.bipush X0 hx (hb hby d_nlz_49) ?_
        show Go _ _ _ _ s₁ (mkF m 51 #[.val (.int p0), .val (.int (31 : Int32))] [(.int (16 : Int32)), (.int p0)]) _ _ _
        rcases Decidable.em (p0 < (16 : Int32)) with c20 | c20
        · refine Go.icmpYes X0 hx (hb hby d_nlz_51) (XT.ii_lt_t c20) (pc' := 61) (by decide) (by decide) ?_
          show Go _ _ _ _ s₁ (mkF m 61 #[.val (.int p0), .val (.int (31 : Int32))] []) _ _ _
          refine Go.iloadN X0 hx (hb hby d_nlz_61) rfl ?_
          show Go _ _ _ _ s₁ (mkF m 62 #[.val (.int p0), .val (.int (31 : Int32))] [(.int p0)]) _ _ _
          refine Go.iconst X0 hx (hb hby d_nlz_62) ?_
          show Go _ _ _ _ s₁ (mkF m 63 #[.val (.int p0), .val (.int (31 : Int32))] [(.int (4 : Int32)), (.int p0)]) _ _ _
          rcases Decidable.em (p0 < (4 : Int32)) with c21 | c21
          · refine Go.icmpYes X0 hx (hb hby d_nlz_63) (XT.ii_lt_t c21) (pc' := 73) (by decide) (by decide) ?_
            show Go _ _ _ _ s₁ (mkF m 73 #[.val (.int p0), .val (.int (31 : Int32))] []) _ _ _
            refine Go.iloadN X0 hx (hb hby d_nlz_73) rfl ?_
            show Go _ _ _ _ s₁ (mkF m 74 #[.val (.int p0), .val (.int (31 : Int32))] [(.int (31 : Int32))]) _ _ _
            refine Go.iloadN X0 hx (hb hby d_nlz_74) rfl ?_
            show Go _ _ _ _ s₁ (mkF m 75 #[.val (.int p0), .val (.int (31 : Int32))] [(.int p0), (.int (31 : Int32))]) _ _ _
            refine Go.iconst X0 hx (hb hby d_nlz_75) ?_
            show Go _ _ _ _ s₁ (mkF m 76 #[.val (.int p0), .val (.int (31 : Int32))] [(.int (1 : Int32)), (.int p0), (.int (31 : Int32))]) _ _ _
            refine Go.iushr X0 hx (hb hby d_nlz_76) ?_
            show Go _ _ _ _ s₁ (mkF m 77 #[.val (.int p0), .val (.int (31 : Int32))] [(.int (XT.ushr p0 (1 : Int32))), (.int (31 : Int32))]) _ _ _
            refine Go.isub X0 hx (hb hby d_nlz_77) ?_
            show Go _ _ _ _ s₁ (mkF m 78 #[.val (.int p0), .val (.int (31 : Int32))] [(.int ((31 : Int32) - (XT.ushr p0 (1 : Int32))))]) _ _ _
            refine Go.retI X0 hx hlk hret (hb hby d_nlz_78) (by decide) (by decide) ?_
            rw [e0]
            exact ⟨by unfold F_nlz; rw [if_pos c17]; rw [if_pos c18]; rw [if_pos c19]; rw [if_pos c20]; rw [if_pos c21], rfl, rfl⟩
          · refine Go.icmpNo X0 hx (hb hby d_nlz_63) (XT.ii_lt_f c21) ?_
            show Go _ _ _ _ s₁ (mkF m 66 #[.val (.int p0), .val (.int (31 : Int32))] []) _ _ _
            refine Go.iinc X0 hx (hb hby d_nlz_66) rfl (l' := #[.val (.int p0), .val (.int (29 : Int32))]) rfl ?_
            show Go _ _ _ _ s₁ (mkF m 69 #[.val (.int p0), .val (.int (29 : Int32))] []) _ _ _
            refine Go.iloadN X0 hx (hb hby d_nlz_69) rfl ?_
            show Go _ _ _ _ s₁ (mkF m 70 #[.val (.int p0), .val (.int (29 : Int32))] [(.int p0)]) _ _ _
            refine Go.iconst X0 hx (hb hby d_nlz_70) ?_
            show Go _ _ _ _ s₁ (mkF m 71 #[.val (.int p0), .val (.int (29 : Int32))] [(.int (2 : Int32)), (.int p0)]) _ _ _
            refine Go.iushr X0 hx (hb hby d_nlz_71) ?_
            show Go _ _ _ _ s₁ (mkF m 72 #[.val (.int p0), .val (.int (29 : Int32))] [(.int (XT.ushr p0 (2 : Int32)))]) _ _ _
            refine Go.istoreN X0 hx (hb hby d_nlz_72) (l' := #[.val (.int (XT.ushr p0 (2 : Int32))), .val (.int (29 : Int32))]) rfl ?_
            show Go _ _ _ _ s₁ (mkF m 73 #[.val (.int (XT.ushr p0 (2 : Int32))), .val (.int (29 : Int32))] []) _ _ _
            refine Go.iloadN X0 hx (hb hby d_nlz_73) rfl ?_
            show Go _ _ _ _ s₁ (mkF m 74 #[.val (.int (XT.ushr p0 (2 : Int32))), .val (.int (29 : Int32))] [(.int (29 : Int32))]) _ _ _
            refine Go.iloadN X0 hx (hb hby d_nlz_74) rfl ?_
            show Go _ _ _ _ s₁ (mkF m 75 #[.val (.int (XT.ushr p0 (2 : Int32))), .val (.int (29 : Int32))] [(.int (XT.ushr p0 (2 : Int32))), (.int (29 : Int32))]) _ _ _
            refine Go.iconst X0 hx (hb hby d_nlz_75) ?_
            show Go _ _ _ _ s₁ (mkF m 76 #[.val (.int (XT.ushr p0 (2 : Int32))), .val (.int (29 : Int32))] [(.int (1 : Int32)), (.int (XT.ushr p0 (2 : Int32))), (.int (29 : Int32))]) _ _ _
            refine Go.iushr X0 hx (hb hby d_nlz_76) ?_
            show Go _ _ _ _ s₁ (mkF m 77 #[.val (.int (XT.ushr p0 (2 : Int32))), .val (.int (29 : Int32))] [(.int (XT.ushr (XT.ushr p0 (2 : Int32)) (1 : Int32))), (.int (29 : Int32))]) _ _ _
            refine Go.isub X0 hx (hb hby d_nlz_77) ?_
            show Go _ _ _ _ s₁ (mkF m 78 #[.val (.int (XT.ushr p0 (2 : Int32))), .val (.int (29 : Int32))] [(.int ((29 : Int32) - (XT.ushr (XT.ushr p0 (2 : Int32)) (1 : Int32))))]) _ _ _
            refine Go.retI X0 hx hlk hret (hb hby d_nlz_78) (by decide) (by decide) ?_
            rw [e0]
            exact ⟨by unfold F_nlz; rw [if_pos c17]; rw [if_pos c18]; rw [if_pos c19]; rw [if_pos c20]; rw [if_neg c21], rfl, rfl⟩
        · refine Go.icmpNo X0 hx (hb hby d_nlz_51) (XT.ii_lt_f c20) ?_
          show Go _ _ _ _ s₁ (mkF m 54 #[.val (.int p0), .val (.int (31 : Int32))] []) _ _ _
          refine Go.iinc X0 hx (hb hby d_nlz_54) rfl (l' := #[.val (.int p0), .val (.int (27 : Int32))]) rfl ?_
          show Go _ _ _ _ s₁ (mkF m 57 #[.val (.int p0), .val (.int (27 : Int32))] []) _ _ _
          refine Go.iloadN X0 hx (hb hby d_nlz_57) rfl ?_
          show Go _ _ _ _ s₁ (mkF m 58 #[.val (.int p0), .val (.int (27 : Int32))] [(.int p0)]) _ _ _
          refine Go.iconst X0 hx (hb hby d_nlz_58) ?_
          show Go _ _ _ _ s₁ (mkF m 59 #[.val (.int p0), .val (.int (27 : Int32))] [(.int (4 : Int32)), (.int p0)]) _ _ _
          refine Go.iushr X0 hx (hb hby d_nlz_59) ?_
          show Go _ _ _ _ s₁ (mkF m 60 #[.val (.int p0), .val (.int (27 : Int32))] [(.int (XT.ushr p0 (4 : Int32)))]) _ _ _
          refine Go.istoreN X0 hx (hb hby d_nlz_60) (l' := #[.val (.int (XT.ushr p0 (4 : Int32))), .val (.int (27 : Int32))]) rfl ?_
          show Go _ _ _ _ s₁ (mkF m 61 #[.val (.int (XT.ushr p0 (4 : Int32))), .val (.int (27 : Int32))] []) _ _ _
          refine Go.iloadN X0 hx (hb hby d_nlz_61) rfl ?_
          show Go _ _ _ _ s₁ (mkF m 62 #[.val (.int (XT.ushr p0 (4 : Int32))), .val (.int (27 : Int32))] [(.int (XT.ushr p0 (4 : Int32)))]) _ _ _
          refine Go.iconst X0 hx (hb hby d_nlz_62) ?_
          show Go _ _ _ _ s₁ (mkF m 63 #[.val (.int (XT.ushr p0 (4 : Int32))), .val (.int (27 : Int32))] [(.int (4 : Int32)), (.int (XT.ushr p0 (4 : Int32)))]) _ _ _
          rcases Decidable.em ((XT.ushr p0 (4 : Int32)) < (4 : Int32)) with c22 | c22
          · refine Go.icmpYes X0 hx (hb hby d_nlz_63) (XT.ii_lt_t c22) (pc' := 73) (by decide) (by decide) ?_
            show Go _ _ _ _ s₁ (mkF m 73 #[.val (.int (XT.ushr p0 (4 : Int32))), .val (.int (27 : Int32))] []) _ _ _
            refine Go.iloadN X0 hx (hb hby d_nlz_73) rfl ?_
            show Go _ _ _ _ s₁ (mkF m 74 #[.val (.int (XT.ushr p0 (4 : Int32))), .val (.int (27 : Int32))] [(.int (27 : Int32))]) _ _ _
            refine Go.iloadN X0 hx (hb hby d_nlz_74) rfl ?_
            show Go _ _ _ _ s₁ (mkF m 75 #[.val (.int (XT.ushr p0 (4 : Int32))), .val (.int (27 : Int32))] [(.int (XT.ushr p0 (4 : Int32))), (.int (27 : Int32))]) _ _ _
            refine Go.iconst X0 hx (hb hby d_nlz_75) ?_
            show Go _ _ _ _ s₁ (mkF m 76 #[.val (.int (XT.ushr p0 (4 : Int32))), .val (.int (27 : Int32))] [(.int (1 : Int32)), (.int (XT.ushr p0 (4 : Int32))), (.int (27 : Int32))]) _ _ _
            refine Go.iushr X0 hx (hb hby d_nlz_76) ?_
            show Go _ _ _ _ s₁ (mkF m 77 #[.val (.int (XT.ushr p0 (4 : Int32))), .val (.int (27 : Int32))] [(.int (XT.ushr (XT.ushr p0 (4 : Int32)) (1 : Int32))), (.int (27 : Int32))]) _ _ _
            refine Go.isub X0 hx (hb hby d_nlz_77) ?_
            show Go _ _ _ _ s₁ (mkF m 78 #[.val (.int (XT.ushr p0 (4 : Int32))), .val (.int (27 : Int32))] [(.int ((27 : Int32) - (XT.ushr (XT.ushr p0 (4 : Int32)) (1 : Int32))))]) _ _ _
            refine Go.retI X0 hx hlk hret (hb hby d_nlz_78) (by decide) (by decide) ?_
            rw [e0]
            exact ⟨by unfold F_nlz; rw [if_pos c17]; rw [if_pos c18]; rw [if_pos c19]; rw [if_neg c20]; rw [if_pos c22], rfl, rfl⟩
          · refine Go.icmpNo X0 hx (hb hby d_nlz_63) (XT.ii_lt_f c22) ?_
            show Go _ _ _ _ s₁ (mkF m 66 #[.val (.int (XT.ushr p0 (4 : Int32))), .val (.int (27 : Int32))] []) _ _ _
            refine Go.iinc X0 hx (hb hby d_nlz_66) rfl (l' := #[.val (.int (XT.ushr p0 (4 : Int32))), .val (.int (25 : Int32))]) rfl ?_
            show Go _ _ _ _ s₁ (mkF m 69 #[.val (.int (XT.ushr p0 (4 : Int32))), .val (.int (25 : Int32))] []) _ _ _
            refine Go.iloadN X0 hx (hb hby d_nlz_69) rfl ?_
            show Go _ _ _ _ s₁ (mkF m 70 #[.val (.int (XT.ushr p0 (4 : Int32))), .val (.int (25 : Int32))] [(.int (XT.ushr p0 (4 : Int32)))]) _ _ _
            refine Go.iconst X0 hx (hb hby d_nlz_70) ?_
            show Go _ _ _ _ s₁ (mkF m 71 #[.val (.int (XT.ushr p0 (4 : Int32))), .val (.int (25 : Int32))] [(.int (2 : Int32)), (.int (XT.ushr p0 (4 : Int32)))]) _ _ _
            refine Go.iushr X0 hx (hb hby d_nlz_71) ?_
            show Go _ _ _ _ s₁ (mkF m 72 #[.val (.int (XT.ushr p0 (4 : Int32))), .val (.int (25 : Int32))] [(.int (XT.ushr (XT.ushr p0 (4 : Int32)) (2 : Int32)))]) _ _ _
            refine Go.istoreN X0 hx (hb hby d_nlz_72) (l' := #[.val (.int (XT.ushr (XT.ushr p0 (4 : Int32)) (2 : Int32))), .val (.int (25 : Int32))]) rfl ?_
            show Go _ _ _ _ s₁ (mkF m 73 #[.val (.int (XT.ushr (XT.ushr p0 (4 : Int32)) (2 : Int32))), .val (.int (25 : Int32))] []) _ _ _
            refine Go.iloadN X0 hx (hb hby d_nlz_73) rfl ?_
            show Go _ _ _ _ s₁ (mkF m 74 #[.val (.int (XT.ushr (XT.ushr p0 (4 : Int32)) (2 : Int32))), .val (.int (25 : Int32))] [(.int (25 : Int32))]) _ _ _
            refine Go.iloadN X0 hx (hb hby d_nlz_74) rfl ?_
            show Go _ _ _ _ s₁ (mkF m 75 #[.val (.int (XT.ushr (XT.ushr p0 (4 : Int32)) (2 : Int32))), .val (.int (25 : Int32))] [(.int (XT.ushr (XT.ushr p0 (4 : Int32)) (2 : Int32))), (.int (25 : Int32))]) _ _ _
            refine Go.iconst X0 hx (hb hby d_nlz_75) ?_
            show Go _ _ _ _ s₁ (mkF m 76 #[.val (.int (XT.ushr (XT.ushr p0 (4 : Int32)) (2 : Int32))), .val (.int (25 : Int32))] [(.int (1 : Int32)), (.int (XT.ushr (XT.ushr p0 (4 : Int32)) (2 : Int32))), (.int (25 : Int32))]) _ _ _
            refine Go.iushr X0 hx (hb hby d_nlz_76) ?_
            show Go _ _ _ _ s₁ (mkF m 77 #[.val (.int (XT.ushr (XT.ushr p0 (4 : Int32)) (2 : Int32))), .val (.int (25 : Int32))] [(.int (XT.ushr (XT.ushr (XT.ushr p0 (4 : Int32)) (2 : Int32)) (1 : Int32))), (.int (25 : Int32))]) _ _ _
            refine Go.isub X0 hx (hb hby d_nlz_77) ?_
            show Go _ _ _ _ s₁ (mkF m 78 #[.val (.int (XT.ushr (XT.ushr p0 (4 : Int32)) (2 : Int32))), .val (.int (25 : Int32))] [(.int ((25 : Int32) - (XT.ushr (XT.ushr (XT.ushr p0 (4 : Int32)) (2 : Int32)) (1 : Int32))))]) _ _ _
            refine Go.retI X0 hx hlk hret (hb hby d_nlz_78) (by decide) (by decide) ?_
            rw [e0]
            exact ⟨by unfold F_nlz; rw [if_pos c17]; rw [if_pos c18]; rw [if_pos c19]; rw [if_neg c20]; rw [if_neg c22], rfl, rfl⟩
      · refine Go.icmpNo X0 hx (hb hby d_nlz_37) (XT.ii_lt_f c19) ?_
        show Go _ _ _ _ s₁ (mkF m 40 #[.val (.int p0), .val (.int (31 : Int32))] []) _ _ _
        refine Go.iinc X0 hx (hb hby d_nlz_40) rfl (l' := #[.val (.int p0), .val (.int (23 : Int32))]) rfl ?_
        show Go _ _ _ _ s₁ (mkF m 43 #[.val (.int p0), .val (.int (23 : Int32))] []) _ _ _
        refine Go.iloadN X0 hx (hb hby d_nlz_43) rfl ?_
        show Go _ _ _ _ s₁ (mkF m 44 #[.val (.int p0), .val (.int (23 : Int32))] [(.int p0)]) _ _ _
        refine Go.bipush X0 hx (hb hby d_nlz_44) ?_
        show Go _ _ _ _ s₁ (mkF m 46 #[.val (.int p0), .val (.int (23 : Int32))] [(.int (8 : Int32)), (.int p0)]) _ _ _
        refine Go.iushr X0 hx (hb hby d_nlz_46) ?_
        show Go _ _ _ _ s₁ (mkF m 47 #[.val (.int p0), .val (.int (23 : Int32))] [(.int (XT.ushr p0 (8 : Int32)))]) _ _ _
        refine Go.istoreN X0 hx (hb hby d_nlz_47) (l' := #[.val (.int (XT.ushr p0 (8 : Int32))), .val (.int (23 : Int32))]) rfl ?_
        show Go _ _ _ _ s₁ (mkF m 48 #[.val (.int (XT.ushr p0 (8 : Int32))), .val (.int (23 : Int32))] []) _ _ _
        refine Go.iloadN X0 hx (hb hby d_nlz_48) rfl ?_
        show Go _ _ _ _ s₁ (mkF m 49 #[.val (.int (XT.ushr p0 (8 : Int32))), .val (.int (23 : Int32))] [(.int (XT.ushr p0 (8 : Int32)))]) _ _ _
        refine Go.bipush X0 hx (hb hby d_nlz_49) ?_
        show Go _ _ _ _ s₁ (mkF m 51 #[.val (.int (XT.ushr p0 (8 : Int32))), .val (.int (23 : Int32))] [(.int (16 : Int32)), (.int (XT.ushr p0 (8 : Int32)))]) _ _ _
        rcases Decidable.em ((XT.ushr p0 (8 : Int32)) < (16 : Int32)) with c23 | c23
        · refine Go.icmpYes X0 hx (hb hby d_nlz_51) (XT.ii_lt_t c23) (pc' := 61) (by decide) (by decide) ?_
          show Go _ _ _ _ s₁ (mkF m 61 #[.val (.int (XT.ushr p0 (8 : Int32))), .val (.int (23 : Int32))] []) _ _ _
          refine Go.iloadN X0 hx (hb hby d_nlz_61) rfl ?_
          show Go _ _ _ _ s₁ (mkF m 62 #[.val (.int (XT.ushr p0 (8 : Int32))), .val (.int (23 : Int32))] [(.int (XT.ushr p0 (8 : Int32)))]) _ _ _
          refine Go.iconst X0 hx (hb hby d_nlz_62) ?_
          show Go _ _ _ _ s₁ (mkF m 63 #[.val (.int (XT.ushr p0 (8 : Int32))), .val (.int (23 : Int32))] [(.int (4 : Int32)), (.int (XT.ushr p0 (8 : Int32)))]) _ _ _
          rcases Decidable.em ((XT.ushr p0 (8 : Int32)) < (4 : Int32)) with c24 | c24
          · refine Go.icmpYes X0 hx (hb hby d_nlz_63) (XT.ii_lt_t c24) (pc' := 73) (by decide) (by decide) ?_
            show Go _ _ _ _ s₁ (mkF m 73 #[.val (.int (XT.ushr p0 (8 : Int32))), .val (.int (23 : Int32))] []) _ _ _
            refine Go.iloadN X0 hx (hb hby d_nlz_73) rfl ?_
            show Go _ _ _ _ s₁ (mkF m 74 #[.val (.int (XT.ushr p0 (8 : Int32))), .val (.int (23 : Int32))] [(.int (23 : Int32))]) _ _ _
            refine Go.iloadN X0 hx (hb hby d_nlz_74) rfl ?_
            show Go _ _ _ _ s₁ (mkF m 75 #[.val (.int (XT.ushr p0 (8 : Int32))), .val (.int (23 : Int32))] [(.int (XT.ushr p0 (8 : Int32))), (.int (23 : Int32))]) _ _ _
            refine Go.iconst X0 hx (hb hby d_nlz_75) ?_
            show Go _ _ _ _ s₁ (mkF m 76 #[.val (.int (XT.ushr p0 (8 : Int32))), .val (.int (23 : Int32))] [(.int (1 : Int32)), (.int (XT.ushr p0 (8 : Int32))), (.int (23 : Int32))]) _ _ _
            refine Go.iushr X0 hx (hb hby d_nlz_76) ?_
            show Go _ _ _ _ s₁ (mkF m 77 #[.val (.int (XT.ushr p0 (8 : Int32))), .val (.int (23 : Int32))] [(.int (XT.ushr (XT.ushr p0 (8 : Int32)) (1 : Int32))), (.int (23 : Int32))]) _ _ _
            refine Go.isub X0 hx (hb hby d_nlz_77) ?_
            show Go _ _ _ _ s₁ (mkF m 78 #[.val (.int (XT.ushr p0 (8 : Int32))), .val (.int (23 : Int32))] [(.int ((23 : Int32) - (XT.ushr (XT.ushr p0 (8 : Int32)) (1 : Int32))))]) _ _ _
            refine Go.retI X0 hx hlk hret (hb hby d_nlz_78) (by decide) (by decide) ?_
            rw [e0]
            exact ⟨by unfold F_nlz; rw [if_pos c17]; rw [if_pos c18]; rw [if_neg c19]; rw [if_pos c23]; rw [if_pos c24], rfl, rfl⟩
          · refine Go.icmpNo X0 hx (hb hby d_nlz_63) (XT.ii_lt_f c24) ?_
            show Go _ _ _ _ s₁ (mkF m 66 #[.val (.int (XT.ushr p0 (8 : Int32))), .val (.int (23 : Int32))] []) _ _ _
            refine Go.iinc X0 hx (hb hby d_nlz_66) rfl (l' := #[.val (.int (XT.ushr p0 (8 : Int32))), .val (.int (21 : Int32))]) rfl ?_
            show Go _ _ _ _ s₁ (mkF m 69 #[.val (.int (XT.ushr p0 (8 : Int32))), .val (.int (21 : Int32))] []) _ _ _
            refine Go.iloadN X0 hx (hb hby d_nlz_69) rfl ?_
            show Go _ _ _ _ s₁ (mkF m 70 #[.val (.int (XT.ushr p0 (8 : Int32))), .val (.int (21 : Int32))] [(.int (XT.ushr p0 (8 : Int32)))]) _ _ _
            refine Go.iconst X0 hx (hb hby d_nlz_70) ?_
            show Go _ _ _ _ s₁ (mkF m 71 #[.val (.int (XT.ushr p0 (8 : Int32))), .val (.int (21 : Int32))] [(.int (2 : Int32)), (.int (XT.ushr p0 (8 : Int32)))]) _ _ _
            refine Go.iushr X0 hx (hb hby d_nlz_71) ?_
            show Go _ _ _ _ s₁ (mkF m 72 #[.val (.int (XT.ushr p0 (8 : Int32))), .val (.int (21 : Int32))] [(.int (XT.ushr (XT.ushr p0 (8 : Int32)) (2 : Int32)))]) _ _ _
            refine Go.istoreN X0 hx (hb hby d_nlz_72) (l' := #[.val (.int (XT.ushr (XT.ushr p0 (8 : Int32)) (2 : Int32))), .val (.int (21 : Int32))]) rfl ?_
            show Go _ _ _ _ s₁ (mkF m 73 #[.val (.int (XT.ushr (XT.ushr p0 (8 : Int32)) (2 : Int32))), .val (.int (21 : Int32))] []) _ _ _
            refine Go.iloadN X0 hx (hb hby d_nlz_73) rfl ?_
            show Go _ _ _ _ s₁ (mkF m 74 #[.val (.int (XT.ushr (XT.ushr p0 (8 : Int32)) (2 : Int32))), .val (.int (21 : Int32))] [(.int (21 : Int32))]) _ _ _
            refine Go.iloadN X0 hx (hb hby d_nlz_74) rfl ?_
            show Go _ _ _ _ s₁ (mkF m 75 #[.val (.int (XT.ushr (XT.ushr p0 (8 : Int32)) (2 : Int32))), .val (.int (21 : Int32))] [(.int (XT.ushr (XT.ushr p0 (8 : Int32)) (2 : Int32))), (.int (21 : Int32))]) _ _ _
            refine Go.iconst X0 hx (hb hby d_nlz_75) ?_
            show Go _ _ _ _ s₁ (mkF m 76 #[.val (.int (XT.ushr (XT.ushr p0 (8 : Int32)) (2 : Int32))), .val (.int (21 : Int32))] [(.int (1 : Int32)), (.int (XT.ushr (XT.ushr p0 (8 : Int32)) (2 : Int32))), (.int (21 : Int32))]) _ _ _
            refine Go.iushr X0 hx (hb hby d_nlz_76) ?_
            show Go _ _ _ _ s₁ (mkF m 77 #[.val (.int (XT.ushr (XT.ushr p0 (8 : Int32)) (2 : Int32))), .val (.int (21 : Int32))] [(.int (XT.ushr (XT.ushr (XT.ushr p0 (8 : Int32)) (2 : Int32)) (1 : Int32))), (.int (21 : Int32))]) _ _ _
            refine Go.isub X0 hx (hb hby d_nlz_77) ?_
            show Go _ _ _ _ s₁ (mkF m 78 #[.val (.int (XT.ushr (XT.ushr p0 (8 : Int32)) (2 : Int32))), .val (.int (21 : Int32))] [(.int ((21 : Int32) - (XT.ushr (XT.ushr (XT.ushr p0 (8 : Int32)) (2 : Int32)) (1 : Int32))))]) _ _ _
            refine Go.retI X0 hx hlk hret (hb hby d_nlz_78) (by decide) (by decide) ?_
            rw [e0]
            exact ⟨by unfold F_nlz; rw [if_pos c17]; rw [if_pos c18]; rw [if_neg c19]; rw [if_pos c23]; rw [if_neg c24], rfl, rfl⟩
        · refine Go.icmpNo X0 hx (hb hby d_nlz_51) (XT.ii_lt_f c23) ?_
          show Go _ _ _ _ s₁ (mkF m 54 #[.val (.int (XT.ushr p0 (8 : Int32))), .val (.int (23 : Int32))] []) _ _ _
          refine Go.iinc X0 hx (hb hby d_nlz_54) rfl (l' := #[.val (.int (XT.ushr p0 (8 : Int32))), .val (.int (19 : Int32))]) rfl ?_
          show Go _ _ _ _ s₁ (mkF m 57 #[.val (.int (XT.ushr p0 (8 : Int32))), .val (.int (19 : Int32))] []) _ _ _
          refine Go.iloadN X0 hx (hb hby d_nlz_57) rfl ?_
          show Go _ _ _ _ s₁ (mkF m 58 #[.val (.int (XT.ushr p0 (8 : Int32))), .val (.int (19 : Int32))] [(.int (XT.ushr p0 (8 : Int32)))]) _ _ _
          refine Go.iconst X0 hx (hb hby d_nlz_58) ?_
          show Go _ _ _ _ s₁ (mkF m 59 #[.val (.int (XT.ushr p0 (8 : Int32))), .val (.int (19 : Int32))] [(.int (4 : Int32)), (.int (XT.ushr p0 (8 : Int32)))]) _ _ _
          refine Go.iushr X0 hx (hb hby d_nlz_59) ?_
          show Go _ _ _ _ s₁ (mkF m 60 #[.val (.int (XT.ushr p0 (8 : Int32))), .val (.int (19 : Int32))] [(.int (XT.ushr (XT.ushr p0 (8 : Int32)) (4 : Int32)))]) _ _ _
          refine Go.istoreN X0 hx (hb hby d_nlz_60) (l' := #[.val (.int (XT.ushr (XT.ushr p0 (8 : Int32)) (4 : Int32))), .val (.int (19 : Int32))]) rfl ?_
          show Go _ _ _ _ s₁ (mkF m 61 #[.val (.int (XT.ushr (XT.ushr p0 (8 : Int32)) (4 : Int32))), .val (.int (19 : Int32))] []) _ _ _
          refine Go.iloadN X0 hx (hb hby d_nlz_61) rfl ?_
          show Go _ _ _ _ s₁ (mkF m 62 #[.val (.int (XT.ushr (XT.ushr p0 (8 : Int32)) (4 : Int32))), .val (.int (19 : Int32))] [(.int (XT.ushr (XT.ushr p0 (8 : Int32)) (4 : Int32)))]) _ _ _
          refine Go.iconst X0 hx (hb hby d_nlz_62) ?_
          show Go _ _ _ _ s₁ (mkF m 63 #[.val (.int (XT.ushr (XT.ushr p0 (8 : Int32)) (4 : Int32))), .val (.int (19 : Int32))] [(.int (4 : Int32)), (.int (XT.ushr (XT.ushr p0 (8 : Int32)) (4 : Int32)))]) _ _ _
          rcases Decidable.em ((XT.ushr (XT.ushr p0 (8 : Int32)) (4 : Int32)) < (4 : Int32)) with c25 | c25
          · refine Go.icmpYes X0 hx (hb hby d_nlz_63) (XT.ii_lt_t c25) (pc' := 73) (by decide) (by decide) ?_
            show Go _ _ _ _ s₁ (mkF m 73 #[.val (.int (XT.ushr (XT.ushr p0 (8 : Int32)) (4 : Int32))), .val (.int (19 : Int32))] []) _ _ _
            refine Go.iloadN X0 hx (hb hby d_nlz_73) rfl ?_
            show Go _ _ _ _ s₁ (mkF m 74 #[.val (.int (XT.ushr (XT.ushr p0 (8 : Int32)) (4 : Int32))), .val (.int (19 : Int32))] [(.int (19 : Int32))]) _ _ _
            refine Go.iloadN X0 hx (hb hby d_nlz_74) rfl ?_
            show Go _ _ _ _ s₁ (mkF m 75 #[.val (.int (XT.ushr (XT.ushr p0 (8 : Int32)) (4 : Int32))), .val (.int (19 : Int32))] [(.int (XT.ushr (XT.ushr p0 (8 : Int32)) (4 : Int32))), (.int (19 : Int32))]) _ _ _
            refine Go.iconst X0 hx (hb hby d_nlz_75) ?_
            show Go _ _ _ _ s₁ (mkF m 76 #[.val (.int (XT.ushr (XT.ushr p0 (8 : Int32)) (4 : Int32))), .val (.int (19 : Int32))] [(.int (1 : Int32)), (.int (XT.ushr (XT.ushr p0 (8 : Int32)) (4 : Int32))), (.int (19 : Int32))]) _ _ _
            refine Go.iushr X0 hx (hb hby d_nlz_76) ?_
            show Go _ _ _ _ s₁ (mkF m 77 #[.val (.int (XT.ushr (XT.ushr p0 (8 : Int32)) (4 : Int32))), .val (.int (19 : Int32))] [(.int (XT.ushr (XT.ushr (XT.ushr p0 (8 : Int32)) (4 : Int32)) (1 : Int32))), (.int (19 : Int32))]) _ _ _
            refine Go.isub X0 hx (hb hby d_nlz_77) ?_
            show Go _ _ _ _ s₁ (mkF m 78 #[.val (.int (XT.ushr (XT.ushr p0 (8 : Int32)) (4 : Int32))), .val (.int (19 : Int32))] [(.int ((19 : Int32) - (XT.ushr (XT.ushr (XT.ushr p0 (8 : Int32)) (4 : Int32)) (1 : Int32))))]) _ _ _
            refine Go.retI X0 hx hlk hret (hb hby d_nlz_78) (by decide) (by decide) ?_
            rw [e0]
            exact ⟨by unfold F_nlz; rw [if_pos c17]; rw [if_pos c18]; rw [if_neg c19]; rw [if_neg c23]; rw [if_pos c25], rfl, rfl⟩
          · refine Go.icmpNo X0 hx (hb hby d_nlz_63) (XT.ii_lt_f c25) ?_
            show Go _ _ _ _ s₁ (mkF m 66 #[.val (.int (XT.ushr (XT.ushr p0 (8 : Int32)) (4 : Int32))), .val (.int (19 : Int32))] []) _ _ _
            refine Go.iinc X0 hx (hb hby d_nlz_66) rfl (l' := #[.val (.int (XT.ushr (XT.ushr p0 (8 : Int32)) (4 : Int32))), .val (.int (17 : Int32))]) rfl ?_
            show Go _ _ _ _ s₁ (mkF m 69 #[.val (.int (XT.ushr (XT.ushr p0 (8 : Int32)) (4 : Int32))), .val (.int (17 : Int32))] []) _ _ _
            refine Go.iloadN X0 hx (hb hby d_nlz_69) rfl ?_
            show Go _ _ _ _ s₁ (mkF m 70 #[.val (.int (XT.ushr (XT.ushr p0 (8 : Int32)) (4 : Int32))), .val (.int (17 : Int32))] [(.int (XT.ushr (XT.ushr p0 (8 : Int32)) (4 : Int32)))]) _ _ _
            refine Go.iconst X0 hx (hb hby d_nlz_70) ?_
            show Go _ _ _ _ s₁ (mkF m 71 #[.val (.int (XT.ushr (XT.ushr p0 (8 : Int32)) (4 : Int32))), .val (.int (17 : Int32))] [(.int (2 : Int32)), (.int (XT.ushr (XT.ushr p0 (8 : Int32)) (4 : Int32)))]) _ _ _
            refine Go.iushr X0 hx (hb hby d_nlz_71) ?_
            show Go _ _ _ _ s₁ (mkF m 72 #[.val (.int (XT.ushr (XT.ushr p0 (8 : Int32)) (4 : Int32))), .val (.int (17 : Int32))] [(.int (XT.ushr (XT.ushr (XT.ushr p0 (8 : Int32)) (4 : Int32)) (2 : Int32)))]) _ _ _
            refine Go.istoreN X0 hx (hb hby d_nlz_72) (l' := #[.val (.int (XT.ushr (XT.ushr (XT.ushr p0 (8 : Int32)) (4 : Int32)) (2 : Int32))), .val (.int (17 : Int32))]) rfl ?_
            show Go _ _ _ _ s₁ (mkF m 73 #[.val (.int (XT.ushr (XT.ushr (XT.ushr p0 (8 : Int32)) (4 : Int32)) (2 : Int32))), .val (.int (17 : Int32))] []) _ _ _
            refine Go.iloadN X0 hx (hb hby d_nlz_73) rfl ?_
            show Go _ _ _ _ s₁ (mkF m 74 #[.val (.int (XT.ushr (XT.ushr (XT.ushr p0 (8 : Int32)) (4 : Int32)) (2 : Int32))), .val (.int (17 : Int32))] [(.int (17 : Int32))]) _ _ _
            refine Go.iloadN X0 hx (hb hby d_nlz_74) rfl ?_
            show Go _ _ _ _ s₁ (mkF m 75 #[.val (.int (XT.ushr (XT.ushr (XT.ushr p0 (8 : Int32)) (4 : Int32)) (2 : Int32))), .val (.int (17 : Int32))] [(.int (XT.ushr (XT.ushr (XT.ushr p0 (8 : Int32)) (4 : Int32)) (2 : Int32))), (.int (17 : Int32))]) _ _ _
            refine Go.iconst X0 hx (hb hby d_nlz_75) ?_
            show Go _ _ _ _ s₁ (mkF m 76 #[.val (.int (XT.ushr (XT.ushr (XT.ushr p0 (8 : Int32)) (4 : Int32)) (2 : Int32))), .val (.int (17 : Int32))] [(.int (1 : Int32)), (.int (XT.ushr (XT.ushr (XT.ushr p0 (8 : Int32)) (4 : Int32)) (2 : Int32))), (.int (17 : Int32))]) _ _ _
            refine Go.iushr X0 hx (hb hby d_nlz_76) ?_
            show Go _ _ _ _ s₁ (mkF m 77 #[.val (.int (XT.ushr (XT.ushr (XT.ushr p0 (8 : Int32)) (4 : Int32)) (2 : Int32))), .val (.int (17 : Int32))] [(.int (XT.ushr (XT.ushr (XT.ushr (XT.ushr p0 (8 : Int32)) (4 : Int32)) (2 : Int32)) (1 : Int32))), (.int (17 : Int32))]) _ _ _
            refine Go.isub X0 hx (hb hby d_nlz_77) ?_
            show Go _ _ _ _ s₁ (mkF m 78 #[.val (.int (XT.ushr (XT.ushr (XT.ushr p0 (8 : Int32)) (4 : Int32)) (2 : Int32))), .val (.int (17 : Int32))] [(.int ((17 : Int32) - (XT.ushr (XT.ushr (XT.ushr (XT.ushr p0 (8 : Int32)) (4 : Int32)) (2 : Int32)) (1 : Int32))))]) _ _ _
            refine Go.retI X0 hx hlk hret (hb hby d_nlz_78) (by decide) (by decide) ?_
            rw [e0]
            exact ⟨by unfold F_nlz; rw [if_pos c17]; rw [if_pos c18]; rw [if_neg c19]; rw [if_neg c23]; rw [if_neg c25], rfl, rfl⟩
    · refine Go.icmpNo X0 hx (hb hby d_nlz_22) (XT.ii_lt_f c18) ?_
      show Go _ _ _ _ s₁ (mkF m 25 #[.val (.int p0), .val (.int (31 : Int32))] []) _ _ _
      refine Go.iinc X0 hx (hb hby d_nlz_25) rfl (l' := #[.val (.int p0), .val (.int (15 : Int32))]) rfl ?_
      show Go _ _ _ _ s₁ (mkF m 28 #[.val (.int p0), .val (.int (15 : Int32))] []) _ _ _
      refine Go.iloadN X0 hx (hb hby d_nlz_28) rfl ?_
      show Go _ _ _ _ s₁ (mkF m 29 #[.val (.int p0), .val (.int (15 : Int32))] [(.int p0)]) _ _ _
      refine Go.bipush X0 hx (hb hby d_nlz_29) ?_
      show Go _ _ _ _ s₁ (mkF m 31 #[.val (.int p0), .val (.int (15 : Int32))] [(.int (16 : Int32)), (.int p0)]) _ _ _
      refine Go.iushr X0 hx (hb hby d_nlz_31) ?_
      show Go _ _ _ _ s₁ (mkF m 32 #[.val (.int p0), .val (.int (15 : Int32))] [(.int (XT.ushr p0 (16 : Int32)))]) _ _ _
      refine Go.istoreN X0 hx (hb hby d_nlz_32) (l' := #[.val (.int (XT.ushr p0 (16 : Int32))), .val (.int (15 : Int32))]) rfl ?_
      show Go _ _ _ _ s₁ (mkF m 33 #[.val (.int (XT.ushr p0 (16 : Int32))), .val (.int (15 : Int32))] []) _ _ _
      refine Go.iloadN X0 hx (hb hby d_nlz_33) rfl ?_
      show Go _ _ _ _ s₁ (mkF m 34 #[.val (.int (XT.ushr p0 (16 : Int32))), .val (.int (15 : Int32))] [(.int (XT.ushr p0 (16 : Int32)))]) _ _ _
      refine Go.sipush X0 hx (hb hby d_nlz_34) ?_
      show Go _ _ _ _ s₁ (mkF m 37 #[.val (.int (XT.ushr p0 (16 : Int32))), .val (.int (15 : Int32))] [(.int (256 : Int32)), (.int (XT.ushr p0 (16 : Int32)))]) _ _ _
      rcases Decidable.em ((XT.ushr p0 (16 : Int32)) < (256 : Int32)) with c26 | c26
      · refine Go.icmpYes X0 hx (hb hby d_nlz_37) (XT.ii_lt_t c26) (pc' := 48) (by decide) (by decide) ?_
        show Go _ _ _ _ s₁ (mkF m 48 #[.val (.int (XT.ushr p0 (16 : Int32))), .val (.int (15 : Int32))] []) _ _ _
        refine Go.iloadN X0 hx (hb hby d_nlz_48) rfl ?_
        show Go _ _ _ _ s₁ (mkF m 49 #[.val (.int (XT.ushr p0 (16 : Int32))), .val (.int (15 : Int32))] [(.int (XT.ushr p0 (16 : Int32)))]) _ _ _
        refine Go.bipush X0 hx (hb hby d_nlz_49) ?_
        show Go _ _ _ _ s₁ (mkF m 51 #[.val (.int (XT.ushr p0 (16 : Int32))), .val (.int (15 : Int32))] [(.int (16 : Int32)), (.int (XT.ushr p0 (16 : Int32)))]) _ _ _
        rcases Decidable.em ((XT.ushr p0 (16 : Int32)) < (16 : Int32)) with c27 | c27
        · refine Go.icmpYes X0 hx (hb hby d_nlz_51) (XT.ii_lt_t c27) (pc' := 61) (by decide) (by decide) ?_
          show Go _ _ _ _ s₁ (mkF m 61 #[.val (.int (XT.ushr p0 (16 : Int32))), .val (.int (15 : Int32))] []) _ _ _
          refine Go.iloadN X0 hx (hb hby d_nlz_61) rfl ?_
          show Go _ _ _ _ s₁ (mkF m 62 #[.val (.int (XT.ushr p0 (16 : Int32))), .val (.int (15 : Int32))] [(.int (XT.ushr p0 (16 : Int32)))]) _ _ _
          refine Go.iconst X0 hx (hb hby d_nlz_62) ?_
          show Go _ _ _ _ s₁ (mkF m 63 #[.val (.int (XT.ushr p0 (16 : Int32))), .val (.int (15 : Int32))] [(.int (4 : Int32)), (.int (XT.ushr p0 (16 : Int32)))]) _ _ _
          rcases Decidable.em ((XT.ushr p0 (16 : Int32)) < (4 : Int32)) with c28 | c28
          · refine Go.icmpYes X0 hx (hb hby d_nlz_63) (XT.ii_lt_t c28) (pc' := 73) (by decide) (by decide) ?_
            show Go _ _ _ _ s₁ (mkF m 73 #[.val (.int (XT.ushr p0 (16 : Int32))), .val (.int (15 : Int32))] []) _ _ _
            refine Go.iloadN X0 hx (hb hby d_nlz_73) rfl ?_
            show Go _ _ _ _ s₁ (mkF m 74 #[.val (.int (XT.ushr p0 (16 : Int32))), .val (.int (15 : Int32))] [(.int (15 : Int32))]) _ _ _
            refine Go.iloadN X0 hx (hb hby d_nlz_74) rfl ?_
            show Go _ _ _ _ s₁ (mkF m 75 #[.val (.int (XT.ushr p0 (16 : Int32))), .val (.int (15 : Int32))] [(.int (XT.ushr p0 (16 : Int32))), (.int (15 : Int32))]) _ _ _
            refine Go.iconst X0 hx (hb hby d_nlz_75) ?_
            show Go _ _ _ _ s₁ (mkF m 76 #[.val (.int (XT.ushr p0 (16 : Int32))), .val (.int (15 : Int32))] [(.int (1 : Int32)), (.int (XT.ushr p0 (16 : Int32))), (.int (15 : Int32))]) _ _ _
            refine Go.iushr X0 hx (hb hby d_nlz_76) ?_
            show Go _ _ _ _ s₁ (mkF m 77 #[.val (.int (XT.ushr p0 (16 : Int32))), .val (.int (15 : Int32))] [(.int (XT.ushr (XT.ushr p0 (16 : Int32)) (1 : Int32))), (.int (15 : Int32))]) _ _ _
            refine Go.isub X0 hx (hb hby d_nlz_77) ?_
            show Go _ _ _ _ s₁ (mkF m 78 #[.val (.int (XT.ushr p0 (16 : Int32))), .val (.int (15 : Int32))] [(.int ((15 : Int32) - (XT.ushr (XT.ushr p0 (16 : Int32)) (1 : Int32))))]) _ _ _
            refine Go.retI X0 hx hlk hret (hb hby d_nlz_78) (by decide) (by decide) ?_
            rw [e0]
            exact ⟨by unfold F_nlz; rw [if_pos c17]; rw [if_neg c18]; rw [if_pos c26]; rw [if_pos c27]; rw [if_pos c28], rfl, rfl⟩
          · refine Go.icmpNo X0 hx (hb hby d_nlz_63) (XT.ii_lt_f c28) ?_
            show Go _ _ _ _ s₁ (mkF m 66 #[.val (.int (XT.ushr p0 (16 : Int32))), .val (.int (15 : Int32))] []) _ _ _
            refine Go.iinc X0 hx (hb hby d_nlz_66) rfl (l' := #[.val (.int (XT.ushr p0 (16 : Int32))), .val (.int (13 : Int32))]) rfl ?_
            show Go _ _ _ _ s₁ (mkF m 69 #[.val (.int (XT.ushr p0 (16 : Int32))), .val (.int (13 : Int32))] []) _ _ _
            refine Go.iloadN X0 hx (hb hby d_nlz_69) rfl ?_
            show Go _ _ _ _ s₁ (mkF m 70 #[.val (.int (XT.ushr p0 (16 : Int32))), .val (.int (13 : Int32))] [(.int (XT.ushr p0 (16 : Int32)))]) _ _ _
            refine Go.iconst X0 hx (hb hby d_nlz_70) ?_
            show Go _ _ _ _ s₁ (mkF m 71 #[.val (.int (XT.ushr p0 (16 : Int32))), .val (.int (13 : Int32))] [(.int (2 : Int32)), (.int (XT.ushr p0 (16 : Int32)))]) _ _ _
            refine Go.iushr X0 hx (hb hby d_nlz_71) ?_
            show Go _ _ _ _ s₁ (mkF m 72 #[.val (.int (XT.ushr p0 (16 : Int32))), .val (.int (13 : Int32))] [(.int (XT.ushr (XT.ushr p0 (16 : Int32)) (2 : Int32)))]) _ _ _
            refine Go.istoreN X0 hx (hb hby d_nlz_72) (l' := #[.val (.int (XT.ushr (XT.ushr p0 (16 : Int32)) (2 : Int32))), .val (.int (13 : Int32))]) rfl ?_
            show Go _ _ _ _ s₁ (mkF m 73 #[.val (.int (XT.ushr (XT.ushr p0 (16 : Int32)) (2 : Int32))), .val (.int (13 : Int32))] []) _ _ _
            refine Go.iloadN X0 hx (hb hby d_nlz_73) rfl ?_
            show Go _ _ _ _ s₁ (mkF m 74 #[.val (.int (XT.ushr (XT.ushr p0 (16 : Int32)) (2 : Int32))), .val (.int (13 : Int32))] [(.int (13 : Int32))]) _ _ _
            refine Go.iloadN X0 hx (hb hby d_nlz_74) rfl ?_
            show Go _ _ _ _ s₁ (mkF m 75 #[.val (.int (XT.ushr (XT.ushr p0 (16 : Int32)) (2 : Int32))), .val (.int (13 : Int32))] [(.int (XT.ushr (XT.ushr p0 (16 : Int32)) (2 : Int32))), (.int (13 : Int32))]) _ _ _
            refine Go.iconst X0 hx (hb hby d_nlz_75) ?_
            show Go _ _ _ _ s₁ (mkF m 76 #[.val (.int (XT.ushr (XT.ushr p0 (16 : Int32)) (2 : Int32))), .val (.int (13 : Int32))] [(.int (1 : Int32)), (.int (XT.ushr (XT.ushr p0 (16 : Int32)) (2 : Int32))), (.int (13 : Int32))]) _ _ _
            refine Go.iushr X0 hx (hb hby d_nlz_76) ?_
            show Go _ _ _ _ s₁ (mkF m 77 #[.val (.int (XT.ushr (XT.ushr p0 (16 : Int32)) (2 : Int32))), .val (.int (13 : Int32))] [(.int (XT.ushr (XT.ushr (XT.ushr p0 (16 : Int32)) (2 : Int32)) (1 : Int32))), (.int (13 : Int32))]) _ _ _
            refine Go.isub X0 hx (hb hby d_nlz_77) ?_
            show Go _ _ _ _ s₁ (mkF m 78 #[.val (.int (XT.ushr (XT.ushr p0 (16 : Int32)) (2 : Int32))), .val (.int (13 : Int32))] [(.int ((13 : Int32) - (XT.ushr (XT.ushr (XT.ushr p0 (16 : Int32)) (2 : Int32)) (1 : Int32))))]) _ _ _
            refine Go.retI X0 hx hlk hret (hb hby d_nlz_78) (by decide) (by decide) ?_
            rw [e0]
            exact ⟨by unfold F_nlz; rw [if_pos c17]; rw [if_neg c18]; rw [if_pos c26]; rw [if_pos c27]; rw [if_neg c28], rfl, rfl⟩
        · refine Go.icmpNo X0 hx (hb hby d_nlz_51) (XT.ii_lt_f c27) ?_
          show Go _ _ _ _ s₁ (mkF m 54 #[.val (.int (XT.ushr p0 (16 : Int32))), .val (.int (15 : Int32))] []) _ _ _
          refine Go.iinc X0 hx (hb hby d_nlz_54) rfl (l' := #[.val (.int (XT.ushr p0 (16 : Int32))), .val (.int (11 : Int32))]) rfl ?_
          show Go _ _ _ _ s₁ (mkF m 57 #[.val (.int (XT.ushr p0 (16 : Int32))), .val (.int (11 : Int32))] []) _ _ _
          refine Go.iloadN X0 hx (hb hby d_nlz_57) rfl ?_
          show Go _ _ _ _ s₁ (mkF m 58 #[.val (.int (XT.ushr p0 (16 : Int32))), .val (.int (11 : Int32))] [(.int (XT.ushr p0 (16 : Int32)))]) _ _ _
          refine Go.iconst X0 hx (hb hby d_nlz_58) ?_
          show Go _ _ _ _ s₁ (mkF m 59 #[.val (.int (XT.ushr p0 (16 : Int32))), .val (.int (11 : Int32))] [(.int (4 : Int32)), (.int (XT.ushr p0 (16 : Int32)))]) _ _ _
          refine Go.iushr X0 hx (hb hby d_nlz_59) ?_
          show Go _ _ _ _ s₁ (mkF m 60 #[.val (.int (XT.ushr p0 (16 : Int32))), .val (.int (11 : Int32))] [(.int (XT.ushr (XT.ushr p0 (16 : Int32)) (4 : Int32)))]) _ _ _
          refine Go.istoreN X0 hx (hb hby d_nlz_60) (l' := #[.val (.int (XT.ushr (XT.ushr p0 (16 : Int32)) (4 : Int32))), .val (.int (11 : Int32))]) rfl ?_
          show Go _ _ _ _ s₁ (mkF m 61 #[.val (.int (XT.ushr (XT.ushr p0 (16 : Int32)) (4 : Int32))), .val (.int (11 : Int32))] []) _ _ _
          refine Go.iloadN X0 hx (hb hby d_nlz_61) rfl ?_
          show Go _ _ _ _ s₁ (mkF m 62 #[.val (.int (XT.ushr (XT.ushr p0 (16 : Int32)) (4 : Int32))), .val (.int (11 : Int32))] [(.int (XT.ushr (XT.ushr p0 (16 : Int32)) (4 : Int32)))]) _ _ _
          refine Go.iconst X0 hx (hb hby d_nlz_62) ?_
          show Go _ _ _ _ s₁ (mkF m 63 #[.val (.int (XT.ushr (XT.ushr p0 (16 : Int32)) (4 : Int32))), .val (.int (11 : Int32))] [(.int (4 : Int32)), (.int (XT.ushr (XT.ushr p0 (16 : Int32)) (4 : Int32)))]) _ _ _
          rcases Decidable.em ((XT.ushr (XT.ushr p0 (16 : Int32)) (4 : Int32)) < (4 : Int32)) with c29 | c29
          · refine Go.icmpYes X0 hx (hb hby d_nlz_63) (XT.ii_lt_t c29) (pc' := 73) (by decide) (by decide) ?_
            show Go _ _ _ _ s₁ (mkF m 73 #[.val (.int (XT.ushr (XT.ushr p0 (16 : Int32)) (4 : Int32))), .val (.int (11 : Int32))] []) _ _ _
            refine Go.iloadN X0 hx (hb hby d_nlz_73) rfl ?_
            show Go _ _ _ _ s₁ (mkF m 74 #[.val (.int (XT.ushr (XT.ushr p0 (16 : Int32)) (4 : Int32))), .val (.int (11 : Int32))] [(.int (11 : Int32))]) _ _ _
            refine Go.iloadN X0 hx (hb hby d_nlz_74) rfl ?_
            show Go _ _ _ _ s₁ (mkF m 75 #[.val (.int (XT.ushr (XT.ushr p0 (16 : Int32)) (4 : Int32))), .val (.int (11 : Int32))] [(.int (XT.ushr (XT.ushr p0 (16 : Int32)) (4 : Int32))), (.int (11 : Int32))]) _ _ _
            refine Go.iconst X0 hx (hb hby d_nlz_75) ?_
            show Go _ _ _ _ s₁ (mkF m 76 #[.val (.int (XT.ushr (XT.ushr p0 (16 : Int32)) (4 : Int32))), .val (.int (11 : Int32))] [(.int (1 : Int32)), (.int (XT.ushr (XT.ushr p0 (16 : Int32)) (4 : Int32))), (.int (11 : Int32))]) _ _ _
            refine Go.iushr X0 hx (hb hby d_nlz_76) ?_
            show Go _ _ _ _ s₁ (mkF m 77 #[.val (.int (XT.ushr (XT.ushr p0 (16 : Int32)) (4 : Int32))), .val (.int (11 : Int32))] [(.int (XT.ushr (XT.ushr (XT.ushr p0 (16 : Int32)) (4 : Int32)) (1 : Int32))), (.int (11 : Int32))]) _ _ _
            refine Go.isub X0 hx (hb hby d_nlz_77) ?_
            show Go _ _ _ _ s₁ (mkF m 78 #[.val (.int (XT.ushr (XT.ushr p0 (16 : Int32)) (4 : Int32))), .val (.int (11 : Int32))] [(.int ((11 : Int32) - (XT.ushr (XT.ushr (XT.ushr p0 (16 : Int32)) (4 : Int32)) (1 : Int32))))]) _ _ _
            refine Go.retI X0 hx hlk hret (hb hby d_nlz_78) (by decide) (by decide) ?_
            rw [e0]
            exact ⟨by unfold F_nlz; rw [if_pos c17]; rw [if_neg c18]; rw [if_pos c26]; rw [if_neg c27]; rw [if_pos c29], rfl, rfl⟩
          · refine Go.icmpNo X0 hx (hb hby d_nlz_63) (XT.ii_lt_f c29) ?_
            show Go _ _ _ _ s₁ (mkF m 66 #[.val (.int (XT.ushr (XT.ushr p0 (16 : Int32)) (4 : Int32))), .val (.int (11 : Int32))] []) _ _ _
            refine Go.iinc X0 hx (hb hby d_nlz_66) rfl (l' := #[.val (.int (XT.ushr (XT.ushr p0 (16 : Int32)) (4 : Int32))), .val (.int (9 : Int32))]) rfl ?_
            show Go _ _ _ _ s₁ (mkF m 69 #[.val (.int (XT.ushr (XT.ushr p0 (16 : Int32)) (4 : Int32))), .val (.int (9 : Int32))] []) _ _ _
            refine Go.iloadN X0 hx (hb hby d_nlz_69) rfl ?_
            show Go _ _ _ _ s₁ (mkF m 70 #[.val (.int (XT.ushr (XT.ushr p0 (16 : Int32)) (4 : Int32))), .val (.int (9 : Int32))] [(.int (XT.ushr (XT.ushr p0 (16 : Int32)) (4 : Int32)))]) _ _ _
            refine Go.iconst X0 hx (hb hby d_nlz_70) ?_
            show Go _ _ _ _ s₁ (mkF m 71 #[.val (.int (XT.ushr (XT.ushr p0 (16 : Int32)) (4 : Int32))), .val (.int (9 : Int32))] [(.int (2 : Int32)), (.int (XT.ushr (XT.ushr p0 (16 : Int32)) (4 : Int32)))]) _ _ _
            refine Go.iushr X0 hx (hb hby d_nlz_71) ?_
            show Go _ _ _ _ s₁ (mkF m 72 #[.val (.int (XT.ushr (XT.ushr p0 (16 : Int32)) (4 : Int32))), .val (.int (9 : Int32))] [(.int (XT.ushr (XT.ushr (XT.ushr p0 (16 : Int32)) (4 : Int32)) (2 : Int32)))]) _ _ _
            refine Go.istoreN X0 hx (hb hby d_nlz_72) (l' := #[.val (.int (XT.ushr (XT.ushr (XT.ushr p0 (16 : Int32)) (4 : Int32)) (2 : Int32))), .val (.int (9 : Int32))]) rfl ?_
            show Go _ _ _ _ s₁ (mkF m 73 #[.val (.int (XT.ushr (XT.ushr (XT.ushr p0 (16 : Int32)) (4 : Int32)) (2 : Int32))), .val (.int (9 : Int32))] []) _ _ _
            refine Go.iloadN X0 hx (hb hby d_nlz_73) rfl ?_
            show Go _ _ _ _ s₁ (mkF m 74 #[.val (.int (XT.ushr (XT.ushr (XT.ushr p0 (16 : Int32)) (4 : Int32)) (2 : Int32))), .val (.int (9 : Int32))] [(.int (9 : Int32))]) _ _ _
            refine Go.iloadN X0 hx (hb hby d_nlz_74) rfl ?_
            show Go _ _ _ _ s₁ (mkF m 75 #[.val (.int (XT.ushr (XT.ushr (XT.ushr p0 (16 : Int32)) (4 : Int32)) (2 : Int32))), .val (.int (9 : Int32))] [(.int (XT.ushr (XT.ushr (XT.ushr p0 (16 : Int32)) (4 : Int32)) (2 : Int32))), (.int (9 : Int32))]) _ _ _
            refine Go.iconst X0 hx (hb hby d_nlz_75) ?_
            show Go _ _ _ _ s₁ (mkF m 76 #[.val (.int (XT.ushr (XT.ushr (XT.ushr p0 (16 : Int32)) (4 : Int32)) (2 : Int32))), .val (.int (9 : Int32))] [(.int (1 : Int32)), (.int (XT.ushr (XT.ushr (XT.ushr p0 (16 : Int32)) (4 : Int32)) (2 : Int32))), (.int (9 : Int32))]) _ _ _
            refine Go.iushr X0 hx (hb hby d_nlz_76) ?_
            show Go _ _ _ _ s₁ (mkF m 77 #[.val (.int (XT.ushr (XT.ushr (XT.ushr p0 (16 : Int32)) (4 : Int32)) (2 : Int32))), .val (.int (9 : Int32))] [(.int (XT.ushr (XT.ushr (XT.ushr (XT.ushr p0 (16 : Int32)) (4 : Int32)) (2 : Int32)) (1 : Int32))), (.int (9 : Int32))]) _ _ _
            refine Go.isub X0 hx (hb hby d_nlz_77) ?_
            show Go _ _ _ _ s₁ (mkF m 78 #[.val (.int (XT.ushr (XT.ushr (XT.ushr p0 (16 : Int32)) (4 : Int32)) (2 : Int32))), .val (.int (9 : Int32))] [(.int ((9 : Int32) - (XT.ushr (XT.ushr (XT.ushr (XT.ushr p0 (16 : Int32)) (4 : Int32)) (2 : Int32)) (1 : Int32))))]) _ _ _
            refine Go.retI X0 hx hlk hret (hb hby d_nlz_78) (by decide) (by decide) ?_
            rw [e0]
            exact ⟨by unfold F_nlz; rw [if_pos c17]; rw [if_neg c18]; rw [if_pos c26]; rw [if_neg c27]; rw [if_neg c29], rfl, rfl⟩
      · refine Go.icmpNo X0 hx (hb hby d_nlz_37) (XT.ii_lt_f c26) ?_
        show Go _ _ _ _ s₁ (mkF m 40 #[.val (.int (XT.ushr p0 (16 : Int32))), .val (.int (15 : Int32))] []) _ _ _
        refine Go.iinc X0 hx (hb hby d_nlz_40) rfl (l' := #[.val (.int (XT.ushr p0 (16 : Int32))), .val (.int (7 : Int32))]) rfl ?_
        show Go _ _ _ _ s₁ (mkF m 43 #[.val (.int (XT.ushr p0 (16 : Int32))), .val (.int (7 : Int32))] []) _ _ _
        refine Go.iloadN X0 hx (hb hby d_nlz_43) rfl ?_
        show Go _ _ _ _ s₁ (mkF m 44 #[.val (.int (XT.ushr p0 (16 : Int32))), .val (.int (7 : Int32))] [(.int (XT.ushr p0 (16 : Int32)))]) _ _ _
        refine Go.bipush X0 hx (hb hby d_nlz_44) ?_
        show Go _ _ _ _ s₁ (mkF m 46 #[.val (.int (XT.ushr p0 (16 : Int32))), .val (.int (7 : Int32))] [(.int (8 : Int32)), (.int (XT.ushr p0 (16 : Int32)))]) _ _ _
        refine Go.iushr X0 hx (hb hby d_nlz_46) ?_
        show Go _ _ _ _ s₁ (mkF m 47 #[.val (.int (XT.ushr p0 (16 : Int32))), .val (.int (7 : Int32))] [(.int (XT.ushr (XT.ushr p0 (16 : Int32)) (8 : Int32)))]) _ _ _
        refine Go.istoreN X0 hx (hb hby d_nlz_47) (l' := #[.val (.int (XT.ushr (XT.ushr p0 (16 : Int32)) (8 : Int32))), .val (.int (7 : Int32))]) rfl ?_
        show Go _ _ _ _ s₁ (mkF m 48 #[.val (.int (XT.ushr (XT.ushr p0 (16 : Int32)) (8 : Int32))), .val (.int (7 : Int32))] []) _ _ _
        refine Go.iloadN X0 hx (hb hby d_nlz_48) rfl ?_
        show Go _ _ _ _ s₁ (mkF m 49 #[.val (.int (XT.ushr (XT.ushr p0 (16 : Int32)) (8 : Int32))), .val (.int (7 : Int32))] [(.int (XT.ushr (XT.ushr p0 (16 : Int32)) (8 : Int32)))]) _ _ _
        refine Go.bipush X0 hx (hb hby d_nlz_49) ?_
        show Go _ _ _ _ s₁ (mkF m 51 #[.val (.int (XT.ushr (XT.ushr p0 (16 : Int32)) (8 : Int32))), .val (.int (7 : Int32))] [(.int (16 : Int32)), (.int (XT.ushr (XT.ushr p0 (16 : Int32)) (8 : Int32)))]) _ _ _
        rcases Decidable.em ((XT.ushr (XT.ushr p0 (16 : Int32)) (8 : Int32)) < (16 : Int32)) with c30 | c30
        · refine Go.icmpYes X0 hx (hb hby d_nlz_51) (XT.ii_lt_t c30) (pc' := 61) (by decide) (by decide) ?_
          show Go _ _ _ _ s₁ (mkF m 61 #[.val (.int (XT.ushr (XT.ushr p0 (16 : Int32)) (8 : Int32))), .val (.int (7 : Int32))] []) _ _ _
          refine Go.iloadN X0 hx (hb hby d_nlz_61) rfl ?_
          show Go _ _ _ _ s₁ (mkF m 62 #[.val (.int (XT.ushr (XT.ushr p0 (16 : Int32)) (8 : Int32))), .val (.int (7 : Int32))] [(.int (XT.ushr (XT.ushr p0 (16 : Int32)) (8 : Int32)))]) _ _ _
          refine Go.iconst X0 hx (hb hby d_nlz_62) ?_
          show Go _ _ _ _ s₁ (mkF m 63 #[.val (.int (XT.ushr (XT.ushr p0 (16 : Int32)) (8 : Int32))), .val (.int (7 : Int32))] [(.int (4 : Int32)), (.int (XT.ushr (XT.ushr p0 (16 : Int32)) (8 : Int32)))]) _ _ _
          rcases Decidable.em ((XT.ushr (XT.ushr p0 (16 : Int32)) (8 : Int32)) < (4 : Int32)) with c31 | c31
          · refine Go.icmpYes X0 hx (hb hby d_nlz_63) (XT.ii_lt_t c31) (pc' := 73) (by decide) (by decide) ?_
            show Go _ _ _ _ s₁ (mkF m 73 #[.val (.int (XT.ushr (XT.ushr p0 (16 : Int32)) (8 : Int32))), .val (.int (7 : Int32))] []) _ _ _
            refine Go.iloadN X0 hx (hb hby d_nlz_73) rfl ?_
            show Go _ _ _ _ s₁ (mkF m 74 #[.val (.int (XT.ushr (XT.ushr p0 (16 : Int32)) (8 : Int32))), .val (.int (7 : Int32))] [(.int (7 : Int32))]) _ _ _
            refine Go.iloadN X0 hx (hb hby d_nlz_74) rfl ?_
            show Go _ _ _ _ s₁ (mkF m 75 #[.val (.int (XT.ushr (XT.ushr p0 (16 : Int32)) (8 : Int32))), .val (.int (7 : Int32))] [(.int (XT.ushr (XT.ushr p0 (16 : Int32)) (8 : Int32))), (.int (7 : Int32))]) _ _ _
            refine Go.iconst X0 hx (hb hby d_nlz_75) ?_
            show Go _ _ _ _ s₁ (mkF m 76 #[.val (.int (XT.ushr (XT.ushr p0 (16 : Int32)) (8 : Int32))), .val (.int (7 : Int32))] [(.int (1 : Int32)), (.int (XT.ushr (XT.ushr p0 (16 : Int32)) (8 : Int32))), (.int (7 : Int32))]) _ _ _
            refine Go.iushr X0 hx (hb hby d_nlz_76) ?_
            show Go _ _ _ _ s₁ (mkF m 77 #[.val (.int (XT.ushr (XT.ushr p0 (16 : Int32)) (8 : Int32))), .val (.int (7 : Int32))] [(.int (XT.ushr (XT.ushr (XT.ushr p0 (16 : Int32)) (8 : Int32)) (1 : Int32))), (.int (7 : Int32))]) _ _ _
            refine Go.isub X0 hx (hb hby d_nlz_77) ?_
            show Go _ _ _ _ s₁ (mkF m 78 #[.val (.int (XT.ushr (XT.ushr p0 (16 : Int32)) (8 : Int32))), .val (.int (7 : Int32))] [(.int ((7 : Int32) - (XT.ushr (XT.ushr (XT.ushr p0 (16 : Int32)) (8 : Int32)) (1 : Int32))))]) _ _ _
            refine Go.retI X0 hx hlk hret (hb hby d_nlz_78) (by decide) (by decide) ?_
            rw [e0]
            exact ⟨by unfold F_nlz; rw [if_pos c17]; rw [if_neg c18]; rw [if_neg c26]; rw [if_pos c30]; rw [if_pos c31], rfl, rfl⟩
          · refine Go.icmpNo X0 hx (hb hby d_nlz_63) (XT.ii_lt_f c31) ?_
            show Go _ _ _ _ s₁ (mkF m 66 #[.val (.int (XT.ushr (XT.ushr p0 (16 : Int32)) (8 : Int32))), .val (.int (7 : Int32))] []) _ _ _
            refine Go.iinc X0 hx (hb hby d_nlz_66) rfl (l' := #[.val (.int (XT.ushr (XT.ushr p0 (16 : Int32)) (8 : Int32))), .val (.int (5 : Int32))]) rfl ?_
            show Go _ _ _ _ s₁ (mkF m 69 #[.val (.int (XT.ushr (XT.ushr p0 (16 : Int32)) (8 : Int32))), .val (.int (5 : Int32))] []) _ _ _
            refine Go.iloadN X0 hx (hb hby d_nlz_69) rfl ?_
            show Go _ _ _ _ s₁ (mkF m 70 #[.val (.int (XT.ushr (XT.ushr p0 (16 : Int32)) (8 : Int32))), .val (.int (5 : Int32))] [(.int (XT.ushr (XT.ushr p0 (16 : Int32)) (8 : Int32)))]) _ _ _
            refine Go.iconst X0 hx (hb hby d_nlz_70) ?_
            show Go _ _ _ _ s₁ (mkF m 71 #[.val (.int (XT.ushr (XT.ushr p0 (16 : Int32)) (8 : Int32))), .val (.int (5 : Int32))] [(.int (2 : Int32)), (.int (XT.ushr (XT.ushr p0 (16 : Int32)) (8 : Int32)))]) _ _ _
            refine Go.iushr X0 hx (hb hby d_nlz_71) ?_
            show Go _ _ _ _ s₁ (mkF m 72 #[.val (.int (XT.ushr (XT.ushr p0 (16 : Int32)) (8 : Int32))), .val (.int (5 : Int32))] [(.int (XT.ushr (XT.ushr (XT.ushr p0 (16 : Int32)) (8 : Int32)) (2 : Int32)))]) _ _ _
            refine Go.istoreN X0 hx (hb hby d_nlz_72) (l' := #[.val (.int (XT.ushr (XT.ushr (XT.ushr p0 (16 : Int32)) (8 : Int32)) (2 : Int32))), .val (.int (5 : Int32))]) rfl ?_
            show Go _ _ _ _ s₁ (mkF m 73 #[.val (.int (XT.ushr (XT.ushr (XT.ushr p0 (16 : Int32)) (8 : Int32)) (2 : Int32))), .val (.int (5 : Int32))] []) _ _ _
            refine Go.iloadN X0 hx (hb hby d_nlz_73) rfl ?_
            show Go _ _ _ _ s₁ (mkF m 74 #[.val (.int (XT.ushr (XT.ushr (XT.ushr p0 (16 : Int32)) (8 : Int32)) (2 : Int32))), .val (.int (5 : Int32))] [(.int (5 : Int32))]) _ _ _
            refine Go.iloadN X0 hx (hb hby d_nlz_74) rfl ?_
            show Go _ _ _ _ s₁ (mkF m 75 #[.val (.int (XT.ushr (XT.ushr (XT.ushr p0 (16 : Int32)) (8 : Int32)) (2 : Int32))), .val (.int (5 : Int32))] [(.int (XT.ushr (XT.ushr (XT.ushr p0 (16 : Int32)) (8 : Int32)) (2 : Int32))), (.int (5 : Int32))]) _ _ _
            refine Go.iconst X0 hx (hb hby d_nlz_75) ?_
            show Go _ _ _ _ s₁ (mkF m 76 #[.val (.int (XT.ushr (XT.ushr (XT.ushr p0 (16 : Int32)) (8 : Int32)) (2 : Int32))), .val (.int (5 : Int32))] [(.int (1 : Int32)), (.int (XT.ushr (XT.ushr (XT.ushr p0 (16 : Int32)) (8 : Int32)) (2 : Int32))), (.int (5 : Int32))]) _ _ _
            refine Go.iushr X0 hx (hb hby d_nlz_76) ?_
            show Go _ _ _ _ s₁ (mkF m 77 #[.val (.int (XT.ushr (XT.ushr (XT.ushr p0 (16 : Int32)) (8 : Int32)) (2 : Int32))), .val (.int (5 : Int32))] [(.int (XT.ushr (XT.ushr (XT.ushr (XT.ushr p0 (16 : Int32)) (8 : Int32)) (2 : Int32)) (1 : Int32))), (.int (5 : Int32))]) _ _ _
            refine Go.isub X0 hx (hb hby d_nlz_77) ?_
            show Go _ _ _ _ s₁ (mkF m 78 #[.val (.int (XT.ushr (XT.ushr (XT.ushr p0 (16 : Int32)) (8 : Int32)) (2 : Int32))), .val (.int (5 : Int32))] [(.int ((5 : Int32) - (XT.ushr (XT.ushr (XT.ushr (XT.ushr p0 (16 : Int32)) (8 : Int32)) (2 : Int32)) (1 : Int32))))]) _ _ _
            refine Go.retI X0 hx hlk hret (hb hby d_nlz_78) (by decide) (by decide) ?_
            rw [e0]
            exact ⟨by unfold F_nlz; rw [if_pos c17]; rw [if_neg c18]; rw [if_neg c26]; rw [if_pos c30]; rw [if_neg c31], rfl, rfl⟩
        · refine Go.icmpNo X0 hx (hb hby d_nlz_51) (XT.ii_lt_f c30) ?_
          show Go _ _ _ _ s₁ (mkF m 54 #[.val (.int (XT.ushr (XT.ushr p0 (16 : Int32)) (8 : Int32))), .val (.int (7 : Int32))] []) _ _ _
          refine Go.iinc X0 hx (hb hby d_nlz_54) rfl (l' := #[.val (.int (XT.ushr (XT.ushr p0 (16 : Int32)) (8 : Int32))), .val (.int (3 : Int32))]) rfl ?_
          show Go _ _ _ _ s₁ (mkF m 57 #[.val (.int (XT.ushr (XT.ushr p0 (16 : Int32)) (8 : Int32))), .val (.int (3 : Int32))] []) _ _ _
          refine Go.iloadN X0 hx (hb hby d_nlz_57) rfl ?_
          show Go _ _ _ _ s₁ (mkF m 58 #[.val (.int (XT.ushr (XT.ushr p0 (16 : Int32)) (8 : Int32))), .val (.int (3 : Int32))] [(.int (XT.ushr (XT.ushr p0 (16 : Int32)) (8 : Int32)))]) _ _ _
          refine Go.iconst X0 hx (hb hby d_nlz_58) ?_
          show Go _ _ _ _ s₁ (mkF m 59 #[.val (.int (XT.ushr (XT.ushr p0 (16 : Int32)) (8 : Int32))), .val (.int (3 : Int32))] [(.int (4 : Int32)), (.int (XT.ushr (XT.ushr p0 (16 : Int32)) (8 : Int32)))]) _ _ _
          refine Go.iushr X0 hx (hb hby d_nlz_59) ?_
          show Go _ _ _ _ s₁ (mkF m 60 #[.val (.int (XT.ushr (XT.ushr p0 (16 : Int32)) (8 : Int32))), .val (.int (3 : Int32))] [(.int (XT.ushr (XT.ushr (XT.ushr p0 (16 : Int32)) (8 : Int32)) (4 : Int32)))]) _ _ _
          refine Go.istoreN X0 hx (hb hby d_nlz_60) (l' := #[.val (.int (XT.ushr (XT.ushr (XT.ushr p0 (16 : Int32)) (8 : Int32)) (4 : Int32))), .val (.int (3 : Int32))]) rfl ?_
          show Go _ _ _ _ s₁ (mkF m 61 #[.val (.int (XT.ushr (XT.ushr (XT.ushr p0 (16 : Int32)) (8 : Int32)) (4 : Int32))), .val (.int (3 : Int32))] []) _ _ _
          refine Go.iloadN X0 hx (hb hby d_nlz_61) rfl ?_
          show Go _ _ _ _ s₁ (mkF m 62 #[.val (.int (XT.ushr (XT.ushr (XT.ushr p0 (16 : Int32)) (8 : Int32)) (4 : Int32))), .val (.int (3 : Int32))] [(.int (XT.ushr (XT.ushr (XT.ushr p0 (16 : Int32)) (8 : Int32)) (4 : Int32)))]) _ _ _
          refine Go.iconst X0 hx (hb hby d_nlz_62) ?_
          show Go _ _ _ _ s₁ (mkF m 63 #[.val (.int (XT.ushr (XT.ushr (XT.ushr p0 (16 : Int32)) (8 : Int32)) (4 : Int32))), .val (.int (3 : Int32))] [(.int (4 : Int32)), (.int (XT.ushr (XT.ushr (XT.ushr p0 (16 : Int32)) (8 : Int32)) (4 : Int32)))]) _ _ _
          rcases Decidable.em ((XT.ushr (XT.ushr (XT.ushr p0 (16 : Int32)) (8 : Int32)) (4 : Int32)) < (4 : Int32)) with c32 | c32
          · refine Go.icmpYes X0 hx (hb hby d_nlz_63) (XT.ii_lt_t c32) (pc' := 73) (by decide) (by decide) ?_
            show Go _ _ _ _ s₁ (mkF m 73 #[.val (.int (XT.ushr (XT.ushr (XT.ushr p0 (16 : Int32)) (8 : Int32)) (4 : Int32))), .val (.int (3 : Int32))] []) _ _ _
            refine Go.iloadN X0 hx (hb hby d_nlz_73) rfl ?_
            show Go _ _ _ _ s₁ (mkF m 74 #[.val (.int (XT.ushr (XT.ushr (XT.ushr p0 (16 : Int32)) (8 : Int32)) (4 : Int32))), .val (.int (3 : Int32))] [(.int (3 : Int32))]) _ _ _
            refine Go.iloadN X0 hx (hb hby d_nlz_74) rfl ?_
            show Go _ _ _ _ s₁ (mkF m 75 #[.val (.int (XT.ushr (XT.ushr (XT.ushr p0 (16 : Int32)) (8 : Int32)) (4 : Int32))), .val (.int (3 : Int32))] [(.int (XT.ushr (XT.ushr (XT.ushr p0 (16 : Int32)) (8 : Int32)) (4 : Int32))), (.int (3 : Int32))]) _ _ _
            refine Go.iconst X0 hx (hb hby d_nlz_75) ?_
            show Go _ _ _ _ s₁ (mkF m 76 #[.val (.int (XT.ushr (XT.ushr (XT.ushr p0 (16 : Int32)) (8 : Int32)) (4 : Int32))), .val (.int (3 : Int32))] [(.int (1 : Int32)), (.int (XT.ushr (XT.ushr (XT.ushr p0 (16 : Int32)) (8 : Int32)) (4 : Int32))), (.int (3 : Int32))]) _ _ _
            refine Go.iushr X0 hx (hb hby d_nlz_76) ?_
            show Go _ _ _ _ s₁ (mkF m 77 #[.val (.int (XT.ushr (XT.ushr (XT.ushr p0 (16 : Int32)) (8 : Int32)) (4 : Int32))), .val (.int (3 : Int32))] [(.int (XT.ushr (XT.ushr (XT.ushr (XT.ushr p0 (16 : Int32)) (8 : Int32)) (4 : Int32)) (1 : Int32))), (.int (3 : Int32))]) _ _ _
            refine Go.isub X0 hx (hb hby d_nlz_77) ?_
            show Go _ _ _ _ s₁ (mkF m 78 #[.val (.int (XT.ushr (XT.ushr (XT.ushr p0 (16 : Int32)) (8 : Int32)) (4 : Int32))), .val (.int (3 : Int32))] [(.int ((3 : Int32) - (XT.ushr (XT.ushr (XT.ushr (XT.ushr p0 (16 : Int32)) (8 : Int32)) (4 : Int32)) (1 : Int32))))]) _ _ _
            refine Go.retI X0 hx hlk hret (hb hby d_nlz_78) (by decide) (by decide) ?_
            rw [e0]
            exact ⟨by unfold F_nlz; rw [if_pos c17]; rw [if_neg c18]; rw [if_neg c26]; rw [if_neg c30]; rw [if_pos c32], rfl, rfl⟩
          · refine Go.icmpNo X0 hx (hb hby d_nlz_63) (XT.ii_lt_f c32) ?_
            show Go _ _ _ _ s₁ (mkF m 66 #[.val (.int (XT.ushr (XT.ushr (XT.ushr p0 (16 : Int32)) (8 : Int32)) (4 : Int32))), .val (.int (3 : Int32))] []) _ _ _
            refine Go.iinc X0 hx (hb hby d_nlz_66) rfl (l' := #[.val (.int (XT.ushr (XT.ushr (XT.ushr p0 (16 : Int32)) (8 : Int32)) (4 : Int32))), .val (.int (1 : Int32))]) rfl ?_
            show Go _ _ _ _ s₁ (mkF m 69 #[.val (.int (XT.ushr (XT.ushr (XT.ushr p0 (16 : Int32)) (8 : Int32)) (4 : Int32))), .val (.int (1 : Int32))] []) _ _ _
            refine Go.iloadN X0 hx (hb hby d_nlz_69) rfl ?_
            show Go _ _ _ _ s₁ (mkF m 70 #[.val (.int (XT.ushr (XT.ushr (XT.ushr p0 (16 : Int32)) (8 : Int32)) (4 : Int32))), .val (.int (1 : Int32))] [(.int (XT.ushr (XT.ushr (XT.ushr p0 (16 : Int32)) (8 : Int32)) (4 : Int32)))]) _ _ _
            refine Go.iconst X0 hx (hb hby d_nlz_70) ?_
            show Go _ _ _ _ s₁ (mkF m 71 #[.val (.int (XT.ushr (XT.ushr (XT.ushr p0 (16 : Int32)) (8 : Int32)) (4 : Int32))), .val (.int (1 : Int32))] [(.int (2 : Int32)), (.int (XT.ushr (XT.ushr (XT.ushr p0 (16 : Int32)) (8 : Int32)) (4 : Int32)))]) _ _ _
            refine Go.iushr X0 hx (hb hby d_nlz_71) ?_
            show Go _ _ _ _ s₁ (mkF m 72 #[.val (.int (XT.ushr (XT.ushr (XT.ushr p0 (16 : Int32)) (8 : Int32)) (4 : Int32))), .val (.int (1 : Int32))] [(.int (XT.ushr (XT.ushr (XT.ushr (XT.ushr p0 (16 : Int32)) (8 : Int32)) (4 : Int32)) (2 : Int32)))]) _ _ _
            refine Go.istoreN X0 hx (hb hby d_nlz_72) (l' := #[.val (.int (XT.ushr (XT.ushr (XT.ushr (XT.ushr p0 (16 : Int32)) (8 : Int32)) (4 : Int32)) (2 : Int32))), .val (.int (1 : Int32))]) rfl ?_
            show Go _ _ _ _ s₁ (mkF m 73 #[.val (.int (XT.ushr (XT.ushr (XT.ushr (XT.ushr p0 (16 : Int32)) (8 : Int32)) (4 : Int32)) (2 : Int32))), .val (.int (1 : Int32))] []) _ _ _
            refine Go.iloadN X0 hx (hb hby d_nlz_73) rfl ?_
            show Go _ _ _ _ s₁ (mkF m 74 #[.val (.int (XT.ushr (XT.ushr (XT.ushr (XT.ushr p0 (16 : Int32)) (8 : Int32)) (4 : Int32)) (2 : Int32))), .val (.int (1 : Int32))] [(.int (1 : Int32))]) _ _ _
            refine Go.iloadN X0 hx (hb hby d_nlz_74) rfl ?_
            show Go _ _ _ _ s₁ (mkF m 75 #[.val (.int (XT.ushr (XT.ushr (XT.ushr (XT.ushr p0 (16 : Int32)) (8 : Int32)) (4 : Int32)) (2 : Int32))), .val (.int (1 : Int32))] [(.int (XT.ushr (XT.ushr (XT.ushr (XT.ushr p0 (16 : Int32)) (8 : Int32)) (4 : Int32)) (2 : Int32))), (.int (1 : Int32))]) _ _ _
            refine Go.iconst X0 hx (hb hby d_nlz_75) ?_
            show Go _ _ _ _ s₁ (mkF m 76 #[.val (.int (XT.ushr (XT.ushr (XT.ushr (XT.ushr p0 (16 : Int32)) (8 : Int32)) (4 : Int32)) (2 : Int32))), .val (.int (1 : Int32))] [(.int (1 : Int32)), (.int (XT.ushr (XT.ushr (XT.ushr (XT.ushr p0 (16 : Int32)) (8 : Int32)) (4 : Int32)) (2 : Int32))), (.int (1 : Int32))]) _ _ _
            refine Go.iushr X0 hx (hb hby d_nlz_76) ?_
            show Go _ _ _ _ s₁ (mkF m 77 #[.val (.int (XT.ushr (XT.ushr (XT.ushr (XT.ushr p0 (16 : Int32)) (8 : Int32)) (4 : Int32)) (2 : Int32))), .val (.int (1 : Int32))] [(.int (XT.ushr (XT.ushr (XT.ushr (XT.ushr (XT.ushr p0 (16 : Int32)) (8 : Int32)) (4 : Int32)) (2 : Int32)) (1 : Int32))), (.int (1 : Int32))]) _ _ _
            refine Go.isub X0 hx (hb hby d_nlz_77) ?_
            show Go _ _ _ _ s₁ (mkF m 78 #[.val (.int (XT.ushr (XT.ushr (XT.ushr (XT.ushr p0 (16 : Int32)) (8 : Int32)) (4 : Int32)) (2 : Int32))), .val (.int (1 : Int32))] [(.int ((1 : Int32) - (XT.ushr (XT.ushr (XT.ushr (XT.ushr (XT.ushr p0 (16 : Int32)) (8 : Int32)) (4 : Int32)) (2 : Int32)) (1 : Int32))))]) _ _ _
            refine Go.retI X0 hx hlk hret (hb hby d_nlz_78) (by decide) (by decide) ?_
            rw [e0]
            exact ⟨by unfold F_nlz; rw [if_pos c17]; rw [if_neg c18]; rw [if_neg c26]; rw [if_neg c30]; rw [if_neg c32], rfl, rfl⟩
  · refine Go.ifNo X0 hx (hb hby d_nlz_1) (XT.i0_gt_f c17) ?_
    show Go _ _ _ _ s₁ (mkF m 4 #[.val (.int p0), .unset] []) _ _ _
    refine Go.iloadN X0 hx (hb hby d_nlz_4) rfl ?_
    show Go _ _ _ _ s₁ (mkF m 5 #[.val (.int p0), .unset] [(.int p0)]) _ _ _
    rcases Decidable.em (p0 = (0 : Int32)) with c33 | c33
    · refine Go.ifNo X0 hx (hb hby d_nlz_5) (XT.i0_ne_f c33) ?_
      show Go _ _ _ _ s₁ (mkF m 8 #[.val (.int p0), .unset] []) _ _ _
      refine Go.bipush X0 hx (hb hby d_nlz_8) ?_
      show Go _ _ _ _ s₁ (mkF m 10 #[.val (.int p0), .unset] [(.int (32 : Int32))]) _ _ _
      refine Go.goto X0 hx (hb hby d_nlz_10) (pc' := 14) (by decide) (by decide) ?_
      show Go _ _ _ _ s₁ (mkF m 14 #[.val (.int p0), .unset] [(.int (32 : Int32))]) _ _ _
      refine Go.retI X0 hx hlk hret (hb hby d_nlz_14) (by decide) (by decide) ?_
      rw [e0]
      exact ⟨by unfold F_nlz; rw [if_neg c17]; rw [if_pos c33], rfl, rfl⟩
    · refine Go.ifYes X0 hx (hb hby d_nlz_5) (XT.i0_ne_t c33) (pc' := 13) (by decide) (by decide) ?_
      show Go _ _ _ _ s₁ (mkF m 13 #[.val (.int p0), .unset] []) _ _ _
      refine Go.iconst X0 hx (hb hby d_nlz_13) ?_
      show Go _ _ _ _ s₁ (mkF m 14 #[.val (.int p0), .unset] [(.int (0 : Int32))]) _ _ _
      refine Go.retI X0 hx hlk hret (hb hby d_nlz_14) (by decide) (by decide) ?_
      rw [e0]
      exact ⟨by unfold F_nlz; rw [if_neg c17]; rw [if_neg c33], rfl, rfl⟩
def F_ntzL (q0 : Int64) : Int32 := (if ((q0).toInt32) = (0 : Int32) then ((32 : Int32) + (F_ntz (((XT.ushrL q0 (32 : Int32))).toInt32))) else (F_ntz ((q0).toInt32)))
def Q_ntzL (q0 : Int64) (h0 : Heap) (v : Option Value) (h : Heap) (L : List Loc) : Prop := v = some (.int (F_ntzL q0)) ∧ L = [] ∧ h = h0
theorem ef_ntzL (m : MethodId) (x0 : Int64) : entryFrame m #[(.long x0)] 3 = mkF m 0 #[.val (.long x0), .second, .unset] [] := by first | (simp [entryFrame, mkF, argsToLocals, Value.category]; done) | rfl
set_option maxRecDepth 65536 in
set_option maxHeartbeats 40000000 in
theorem rm_ntzL (l : Launch) (Z : State) (a0 : Array Value) (hw : ∀ d ∈ tables_1, d.before a0 Z = true) (q0 : Int64) (h0 : Heap)  :
    Met l Z (⟨"java/lang/Long", "numberOfTrailingZeros", "(J)I"⟩ : MethodName) jdk_35_method_49_code 3 (Option.some Jvm.ClassFile.FieldType.int) [] ({ frames := 1, cells := 0, slots := 0, locals := 14 } : Room) #[(.long q0)] h0 (Q_ntzL q0 h0) := by
  refine Met.of (plainFor_of_name pn_ntzL) ?_
  intro p e s m below meth c s₁ X0 hx hby hml hZ hown hnm e0 hret hlk
  refine Go.cast (ef_ntzL m q0) ?_
  show Go _ _ _ _ s₁ (mkF m 0 #[.val (.long q0), .second, .unset] []) _ _ _
  refine Go.lloadN X0 hx (hb hby d_ntzL_0) rfl ?_
  show Go _ _ _ _ s₁ (mkF m 1 #[.val (.long q0), .second, .unset] [(.long q0)]) _ _ _
  refine Go.l2i X0 hx (hb hby d_ntzL_1) ?_
  show Go _ _ _ _ s₁ (mkF m 2 #[.val (.long q0), .second, .unset] [(.int ((q0).toInt32))]) _ _ _
  refine Go.istoreN X0 hx (hb hby d_ntzL_2) (l' := #[.val (.long q0), .second, .val (.int ((q0).toInt32))]) rfl ?_
  show Go _ _ _ _ s₁ (mkF m 3 #[.val (.long q0), .second, .val (.int ((q0).toInt32))] []) _ _ _
  refine Go.iloadN X0 hx (hb hby d_ntzL_3) rfl ?_
  show Go _ _ _ _ s₁ (mkF m 4 #[.val (.long q0), .second, .val (.int ((q0).toInt32))] [(.int ((q0).toInt32))]) _ _ _
  rcases Decidable.em (((q0).toInt32) = (0 : Int32)) with c34 | c34
  · refine Go.ifNo X0 hx (hb hby d_ntzL_4) (XT.i0_ne_f c34) ?_
    show Go _ _ _ _ s₁ (mkF m 7 #[.val (.long q0), .second, .val (.int ((q0).toInt32))] []) _ _ _
    refine Go.bipush X0 hx (hb hby d_ntzL_7) ?_
    show Go _ _ _ _ s₁ (mkF m 9 #[.val (.long q0), .second, .val (.int ((q0).toInt32))] [(.int (32 : Int32))]) _ _ _
    refine Go.lloadN X0 hx (hb hby d_ntzL_9) rfl ?_
    show Go _ _ _ _ s₁ (mkF m 10 #[.val (.long q0), .second, .val (.int ((q0).toInt32))] [(.long q0), (.int (32 : Int32))]) _ _ _
    refine Go.bipush X0 hx (hb hby d_ntzL_10) ?_
    show Go _ _ _ _ s₁ (mkF m 12 #[.val (.long q0), .second, .val (.int ((q0).toInt32))] [(.int (32 : Int32)), (.long q0), (.int (32 : Int32))]) _ _ _
    refine Go.lushr X0 hx (hb hby d_ntzL_12) ?_
    show Go _ _ _ _ s₁ (mkF m 13 #[.val (.long q0), .second, .val (.int ((q0).toInt32))] [(.long (XT.ushrL q0 (32 : Int32))), (.int (32 : Int32))]) _ _ _
    refine Go.l2i X0 hx (hb hby d_ntzL_13) ?_
    show Go _ _ _ _ s₁ (mkF m 14 #[.val (.long q0), .second, .val (.int ((q0).toInt32))] [(.int (((XT.ushrL q0 (32 : Int32))).toInt32)), (.int (32 : Int32))]) _ _ _
    refine Go.callS (W := 1) (argsL := [(.int (((XT.ushrL q0 (32 : Int32))).toInt32))]) (rest := [(.int (32 : Int32))]) X0 hx hZ hown (w67 hw) (w68 hw) (w61 hw) (w69 hw) (by decide) (rm_ntz l Z a0 hw ((((XT.ushrL q0 (32 : Int32))).toInt32)) h0) e0 (lenOf pd_0 rfl) (hb hby d_ntzL_14) (by rw [hml]; rfl) rfl (Nat.le_of_eq rfl) (by decide) (by decide) (by decide) (by decide) ?_
    intro v35 T35 L35 X35 q35
    obtain ⟨rfl, rfl, e35⟩ := q35
    show Go _ _ _ _ T35 (mkF m 17 #[.val (.long q0), .second, .val (.int ((q0).toInt32))] [(.int (F_ntz (((XT.ushrL q0 (32 : Int32))).toInt32))), (.int (32 : Int32))]) _ _ _
    refine Go.iadd X35 hx (hb hby d_ntzL_17) ?_
    show Go _ _ _ _ T35 (mkF m 18 #[.val (.long q0), .second, .val (.int ((q0).toInt32))] [(.int ((32 : Int32) + (F_ntz (((XT.ushrL q0 (32 : Int32))).toInt32))))]) _ _ _
    refine Go.goto X35 hx (hb hby d_ntzL_18) (pc' := 25) (by decide) (by decide) ?_
    show Go _ _ _ _ T35 (mkF m 25 #[.val (.long q0), .second, .val (.int ((q0).toInt32))] [(.int ((32 : Int32) + (F_ntz (((XT.ushrL q0 (32 : Int32))).toInt32))))]) _ _ _
    refine Go.retI X35 hx hlk hret (hb hby d_ntzL_25) (by decide) (by decide) ?_
    rw [e35]
    exact ⟨by unfold F_ntzL; rw [if_pos c34], rfl, rfl⟩
  · refine Go.ifYes X0 hx (hb hby d_ntzL_4) (XT.i0_ne_t c34) (pc' := 21) (by decide) (by decide) ?_
    show Go _ _ _ _ s₁ (mkF m 21 #[.val (.long q0), .second, .val (.int ((q0).toInt32))] []) _ _ _
    refine Go.iloadN X0 hx (hb hby d_ntzL_21) rfl ?_
    show Go _ _ _ _ s₁ (mkF m 22 #[.val (.long q0), .second, .val (.int ((q0).toInt32))] [(.int ((q0).toInt32))]) _ _ _
    refine Go.callS (W := 0) (argsL := [(.int ((q0).toInt32))]) (rest := []) X0 hx hZ hown (w67 hw) (w68 hw) (w61 hw) (w69 hw) (by decide) (rm_ntz l Z a0 hw (((q0).toInt32)) h0) e0 (lenOf pd_0 rfl) (hb hby d_ntzL_22) (by rw [hml]; rfl) rfl (Nat.le_of_eq rfl) (by decide) (by decide) (by decide) (by decide) ?_
    intro v36 T36 L36 X36 q36
    obtain ⟨rfl, rfl, e36⟩ := q36
    show Go _ _ _ _ T36 (mkF m 25 #[.val (.long q0), .second, .val (.int ((q0).toInt32))] [(.int (F_ntz ((q0).toInt32)))]) _ _ _
    refine Go.retI X36 hx hlk hret (hb hby d_ntzL_25) (by decide) (by decide) ?_
    rw [e36]
    exact ⟨by unfold F_ntzL; rw [if_neg c34], rfl, rfl⟩
def F_nlzL (q0 : Int64) : Int32 := (if (((XT.ushrL q0 (32 : Int32))).toInt32) = (0 : Int32) then ((32 : Int32) + (F_nlz ((q0).toInt32))) else (F_nlz (((XT.ushrL q0 (32 : Int32))).toInt32)))
def Q_nlzL (q0 : Int64) (h0 : Heap) (v : Option Value) (h : Heap) (L : List Loc) : Prop := v = some (.int (F_nlzL q0)) ∧ L = [] ∧ h = h0
theorem ef_nlzL (m : MethodId) (x0 : Int64) : entryFrame m #[(.long x0)] 3 = mkF m 0 #[.val (.long x0), .second, .unset] [] := by first | (simp [entryFrame, mkF, argsToLocals, Value.category]; done) | rfl
set_option maxRecDepth 65536 in
set_option maxHeartbeats 40000000 in
theorem rm_nlzL (l : Launch) (Z : State) (a0 : Array Value) (hw : ∀ d ∈ tables_1, d.before a0 Z = true) (q0 : Int64) (h0 : Heap)  :
    Met l Z (⟨"java/lang/Long", "numberOfLeadingZeros", "(J)I"⟩ : MethodName) jdk_35_method_48_code 3 (Option.some Jvm.ClassFile.FieldType.int) [] ({ frames := 1, cells := 0, slots := 0, locals := 14 } : Room) #[(.long q0)] h0 (Q_nlzL q0 h0) := by
  refine Met.of (plainFor_of_name pn_nlzL) ?_
  intro p e s m below meth c s₁ X0 hx hby hml hZ hown hnm e0 hret hlk
  refine Go.cast (ef_nlzL m q0) ?_
  show Go _ _ _ _ s₁ (mkF m 0 #[.val (.long q0), .second, .unset] []) _ _ _
  refine Go.lloadN X0 hx (hb hby d_nlzL_0) rfl ?_
  show Go _ _ _ _ s₁ (mkF m 1 #[.val (.long q0), .second, .unset] [(.long q0)]) _ _ _
  refine Go.bipush X0 hx (hb hby d_nlzL_1) ?_
  show Go _ _ _ _ s₁ (mkF m 3 #[.val (.long q0), .second, .unset] [(.int (32 : Int32)), (.long q0)]) _ _ _
  refine Go.lushr X0 hx (hb hby d_nlzL_3) ?_
  show Go _ _ _ _ s₁ (mkF m 4 #[.val (.long q0), .second, .unset] [(.long (XT.ushrL q0 (32 : Int32)))]) _ _ _
  refine Go.l2i X0 hx (hb hby d_nlzL_4) ?_
  show Go _ _ _ _ s₁ (mkF m 5 #[.val (.long q0), .second, .unset] [(.int (((XT.ushrL q0 (32 : Int32))).toInt32))]) _ _ _
  refine Go.istoreN X0 hx (hb hby d_nlzL_5) (l' := #[.val (.long q0), .second, .val (.int (((XT.ushrL q0 (32 : Int32))).toInt32))]) rfl ?_
  show Go _ _ _ _ s₁ (mkF m 6 #[.val (.long q0), .second, .val (.int (((XT.ushrL q0 (32 : Int32))).toInt32))] []) _ _ _
  refine Go.iloadN X0 hx (hb hby d_nlzL_6) rfl ?_
  show Go _ _ _ _ s₁ (mkF m 7 #[.val (.long q0), .second, .val (.int (((XT.ushrL q0 (32 : Int32))).toInt32))] [(.int (((XT.ushrL q0 (32 : Int32))).toInt32))]) _ _ _
  rcases Decidable.em ((((XT.ushrL q0 (32 : Int32))).toInt32) = (0 : Int32)) with c37 | c37
  · refine Go.ifNo X0 hx (hb hby d_nlzL_7) (XT.i0_ne_f c37) ?_
    show Go _ _ _ _ s₁ (mkF m 10 #[.val (.long q0), .second, .val (.int (((XT.ushrL q0 (32 : Int32))).toInt32))] []) _ _ _
    refine Go.bipush X0 hx (hb hby d_nlzL_10) ?_
    show Go _ _ _ _ s₁ (mkF m 12 #[.val (.long q0), .second, .val (.int (((XT.ushrL q0 (32 : Int32))).toInt32))] [(.int (32 : Int32))]) _ _ _
    refine Go.lloadN X0 hx (hb hby d_nlzL_12) rfl ?_
    show Go _ _ _ _ s₁ (mkF m 13 #[.val (.long q0), .second, .val (.int (((XT.ushrL q0 (32 : Int32))).toInt32))] [(.long q0), (.int (32 : Int32))]) _ _ _
    refine Go.l2i X0 hx (hb hby d_nlzL_13) ?_
    show Go _ _ _ _ s₁ (mkF m 14 #[.val (.long q0), .second, .val (.int (((XT.ushrL q0 (32 : Int32))).toInt32))] [(.int ((q0).toInt32)), (.int (32 : Int32))]) _ _ _
    refine Go.callS (W := 1) (argsL := [(.int ((q0).toInt32))]) (rest := [(.int (32 : Int32))]) X0 hx hZ hown (w59 hw) (w60 hw) (w61 hw) (w62 hw) (by decide) (rm_nlz l Z a0 hw (((q0).toInt32)) h0) e0 (lenOf pd_0 rfl) (hb hby d_nlzL_14) (by rw [hml]; rfl) rfl (Nat.le_of_eq rfl) (by decide) (by decide) (by decide) (by decide) ?_
    intro v38 T38 L38 X38 q38
    obtain ⟨rfl, rfl, e38⟩ := q38
    show Go _ _ _ _ T38 (mkF m 17 #[.val (.long q0), .second, .val (.int (((XT.ushrL q0 (32 : Int32))).toInt32))] [(.int (F_nlz ((q0).toInt32))), (.int (32 : Int32))]) _ _ _
    refine Go.iadd X38 hx (hb hby d_nlzL_17) ?_
    show Go _ _ _ _ T38 (mkF m 18 #[.val (.long q0), .second, .val (.int (((XT.ushrL q0 (32 : Int32))).toInt32))] [(.int ((32 : Int32) + (F_nlz ((q0).toInt32))))]) _ _ _
    refine Go.goto X38 hx (hb hby d_nlzL_18) (pc' := 25) (by decide) (by decide) ?_
    show Go _ _ _ _ T38 (mkF m 25 #[.val (.long q0), .second, .val (.int (((XT.ushrL q0 (32 : Int32))).toInt32))] [(.int ((32 : Int32) + (F_nlz ((q0).toInt32))))]) _ _ _
    refine Go.retI X38 hx hlk hret (hb hby d_nlzL_25) (by decide) (by decide) ?_
    rw [e38]
    exact ⟨by unfold F_nlzL; rw [if_pos c37], rfl, rfl⟩
  · refine Go.ifYes X0 hx (hb hby d_nlzL_7) (XT.i0_ne_t c37) (pc' := 21) (by decide) (by decide) ?_
    show Go _ _ _ _ s₁ (mkF m 21 #[.val (.long q0), .second, .val (.int (((XT.ushrL q0 (32 : Int32))).toInt32))] []) _ _ _
    refine Go.iloadN X0 hx (hb hby d_nlzL_21) rfl ?_
    show Go _ _ _ _ s₁ (mkF m 22 #[.val (.long q0), .second, .val (.int (((XT.ushrL q0 (32 : Int32))).toInt32))] [(.int (((XT.ushrL q0 (32 : Int32))).toInt32))]) _ _ _
    refine Go.callS (W := 0) (argsL := [(.int (((XT.ushrL q0 (32 : Int32))).toInt32))]) (rest := []) X0 hx hZ hown (w59 hw) (w60 hw) (w61 hw) (w62 hw) (by decide) (rm_nlz l Z a0 hw ((((XT.ushrL q0 (32 : Int32))).toInt32)) h0) e0 (lenOf pd_0 rfl) (hb hby d_nlzL_22) (by rw [hml]; rfl) rfl (Nat.le_of_eq rfl) (by decide) (by decide) (by decide) (by decide) ?_
    intro v39 T39 L39 X39 q39
    obtain ⟨rfl, rfl, e39⟩ := q39
    show Go _ _ _ _ T39 (mkF m 25 #[.val (.long q0), .second, .val (.int (((XT.ushrL q0 (32 : Int32))).toInt32))] [(.int (F_nlz (((XT.ushrL q0 (32 : Int32))).toInt32)))]) _ _ _
    refine Go.retI X39 hx hlk hret (hb hby d_nlzL_25) (by decide) (by decide) ?_
    rw [e39]
    exact ⟨by unfold F_nlzL; rw [if_neg c37], rfl, rfl⟩
def F_min (p0 : Int32) (p1 : Int32) : Int32 := (if p1 < p0 then p1 else p0)
def Q_min (p0 : Int32) (p1 : Int32) (h0 : Heap) (v : Option Value) (h : Heap) (L : List Loc) : Prop := v = some (.int (F_min p0 p1)) ∧ L = [] ∧ h = h0
theorem ef_min (m : MethodId) (x0 : Int32) (x1 : Int32) : entryFrame m #[(.int x0), (.int x1)] 2 = mkF m 0 #[.val (.int x0), .val (.int x1)] [] := by first | (simp [entryFrame, mkF, argsToLocals, Value.category]; done) | rfl
set_option maxRecDepth 65536 in
set_option maxHeartbeats 40000000 in
theorem rm_min (l : Launch) (Z : State) (a0 : Array Value) (hw : ∀ d ∈ tables_1, d.before a0 Z = true) (p0 : Int32) (p1 : Int32) (h0 : Heap)  :
    Met l Z (⟨"java/lang/Math", "min", "(II)I"⟩ : MethodName) jdk_29_method_69_code 2 (Option.some Jvm.ClassFile.FieldType.int) [] ({ frames := 0, cells := 0, slots := 0, locals := 0 } : Room) #[(.int p0), (.int p1)] h0 (Q_min p0 p1 h0) := by
  refine Met.of ((by decide +kernel)) ?_
  intro p e s m below meth c s₁ X0 hx hby hml hZ hown hnm e0 hret hlk
  refine Go.cast (ef_min m p0 p1) ?_
  show Go _ _ _ _ s₁ (mkF m 0 #[.val (.int p0), .val (.int p1)] []) _ _ _
  refine Go.iloadN X0 hx (hb hby d_min_0) rfl ?_
  show Go _ _ _ _ s₁ (mkF m 1 #[.val (.int p0), .val (.int p1)] [(.int p0)]) _ _ _
  refine Go.iloadN X0 hx (hb hby d_min_1) rfl ?_
  show Go _ _ _ _ s₁ (mkF m 2 #[.val (.int p0), .val (.int p1)] [(.int p1), (.int p0)]) _ _ _
  rcases Decidable.em (p1 < p0) with c40 | c40
  · refine Go.icmpYes X0 hx (hb hby d_min_2) (XT.ii_gt_t c40) (pc' := 9) (by decide) (by decide) ?_
    show Go _ _ _ _ s₁ (mkF m 9 #[.val (.int p0), .val (.int p1)] []) _ _ _
    refine Go.iloadN X0 hx (hb hby d_min_9) rfl ?_
    show Go _ _ _ _ s₁ (mkF m 10 #[.val (.int p0), .val (.int p1)] [(.int p1)]) _ _ _
    refine Go.retI X0 hx hlk hret (hb hby d_min_10) (by decide) (by decide) ?_
    rw [e0]
    exact ⟨by unfold F_min; rw [if_pos c40], rfl, rfl⟩
  · refine Go.icmpNo X0 hx (hb hby d_min_2) (XT.ii_gt_f c40) ?_
    show Go _ _ _ _ s₁ (mkF m 5 #[.val (.int p0), .val (.int p1)] []) _ _ _
    refine Go.iloadN X0 hx (hb hby d_min_5) rfl ?_
    show Go _ _ _ _ s₁ (mkF m 6 #[.val (.int p0), .val (.int p1)] [(.int p0)]) _ _ _
    refine Go.goto X0 hx (hb hby d_min_6) (pc' := 10) (by decide) (by decide) ?_
    show Go _ _ _ _ s₁ (mkF m 10 #[.val (.int p0), .val (.int p1)] [(.int p0)]) _ _ _
    refine Go.retI X0 hx hlk hret (hb hby d_min_10) (by decide) (by decide) ?_
    rw [e0]
    exact ⟨by unfold F_min; rw [if_neg c40], rfl, rfl⟩
def F_nxt (p0 : Int32) (p1 : Int32) (p2 : Int32) (p3 : Int32) : Int32 := (if p1 = (0 : Int32) then p0 else (if p2 < p3 then p0 else (if p0 < (0 : Int32) then p2 else (if p2 < p0 then p2 else p0))))
def Q_nxt (p0 : Int32) (p1 : Int32) (p2 : Int32) (p3 : Int32) (h0 : Heap) (v : Option Value) (h : Heap) (L : List Loc) : Prop := v = some (.int (F_nxt p0 p1 p2 p3)) ∧ L = [] ∧ h = h0
theorem ef_nxt (m : MethodId) (x0 : Int32) (x1 : Int32) (x2 : Int32) (x3 : Int32) : entryFrame m #[(.int x0), (.int x1), (.int x2), (.int x3)] 4 = mkF m 0 #[.val (.int x0), .val (.int x1), .val (.int x2), .val (.int x3)] [] := by first | (simp [entryFrame, mkF, argsToLocals, Value.category]; done) | rfl
set_option maxRecDepth 65536 in
set_option maxHeartbeats 40000000 in
theorem rm_nxt (l : Launch) (Z : State) (a0 : Array Value) (hw : ∀ d ∈ tables_1, d.before a0 Z = true) (p0 : Int32) (p1 : Int32) (p2 : Int32) (p3 : Int32) (h0 : Heap)  :
    Met l Z (⟨"com/example/collate/collate/analysis/BitsSetPinLaw", "nxt", "(IZII)I"⟩ : MethodName) method_3_code 4 (Option.some Jvm.ClassFile.FieldType.int) [] ({ frames := 0, cells := 0, slots := 0, locals := 0 } : Room) #[(.int p0), (.int p1), (.int p2), (.int p3)] h0 (Q_nxt p0 p1 p2 p3 h0) := by
  refine Met.of (plainFor_of_name pn_nxt) ?_
  intro p e s m below meth c s₁ X0 hx hby hml hZ hown hnm e0 hret hlk
  refine Go.cast (ef_nxt m p0 p1 p2 p3) ?_
  show Go _ _ _ _ s₁ (mkF m 0 #[.val (.int p0), .val (.int p1), .val (.int p2), .val (.int p3)] []) _ _ _
  refine Go.iloadN X0 hx (hb hby d_nxt_0) rfl ?_
  show Go _ _ _ _ s₁ (mkF m 1 #[.val (.int p0), .val (.int p1), .val (.int p2), .val (.int p3)] [(.int p1)]) _ _ _
  rcases Decidable.em (p1 = (0 : Int32)) with c41 | c41
  · refine Go.ifYes X0 hx (hb hby d_nxt_1) (XT.i0_eq_t c41) (pc' := 20) (by decide) (by decide) ?_
    show Go _ _ _ _ s₁ (mkF m 20 #[.val (.int p0), .val (.int p1), .val (.int p2), .val (.int p3)] []) _ _ _
    refine Go.iloadN X0 hx (hb hby d_nxt_20) rfl ?_
    show Go _ _ _ _ s₁ (mkF m 21 #[.val (.int p0), .val (.int p1), .val (.int p2), .val (.int p3)] [(.int p0)]) _ _ _
    refine Go.retI X0 hx hlk hret (hb hby d_nxt_21) (by decide) (by decide) ?_
    rw [e0]
    exact ⟨by unfold F_nxt; rw [if_pos c41], rfl, rfl⟩
  · refine Go.ifNo X0 hx (hb hby d_nxt_1) (XT.i0_eq_f c41) ?_
    show Go _ _ _ _ s₁ (mkF m 4 #[.val (.int p0), .val (.int p1), .val (.int p2), .val (.int p3)] []) _ _ _
    refine Go.iloadN X0 hx (hb hby d_nxt_4) rfl ?_
    show Go _ _ _ _ s₁ (mkF m 5 #[.val (.int p0), .val (.int p1), .val (.int p2), .val (.int p3)] [(.int p2)]) _ _ _
    refine Go.iloadN X0 hx (hb hby d_nxt_5) rfl ?_
    show Go _ _ _ _ s₁ (mkF m 6 #[.val (.int p0), .val (.int p1), .val (.int p2), .val (.int p3)] [(.int p3), (.int p2)]) _ _ _
    rcases Decidable.em (p2 < p3) with c42 | c42
    · refine Go.icmpYes X0 hx (hb hby d_nxt_6) (XT.ii_lt_t c42) (pc' := 20) (by decide) (by decide) ?_
      show Go _ _ _ _ s₁ (mkF m 20 #[.val (.int p0), .val (.int p1), .val (.int p2), .val (.int p3)] []) _ _ _
      refine Go.iloadN X0 hx (hb hby d_nxt_20) rfl ?_
      show Go _ _ _ _ s₁ (mkF m 21 #[.val (.int p0), .val (.int p1), .val (.int p2), .val (.int p3)] [(.int p0)]) _ _ _
      refine Go.retI X0 hx hlk hret (hb hby d_nxt_21) (by decide) (by decide) ?_
      rw [e0]
      exact ⟨by unfold F_nxt; rw [if_neg c41]; rw [if_pos c42], rfl, rfl⟩
    · refine Go.icmpNo X0 hx (hb hby d_nxt_6) (XT.ii_lt_f c42) ?_
      show Go _ _ _ _ s₁ (mkF m 9 #[.val (.int p0), .val (.int p1), .val (.int p2), .val (.int p3)] []) _ _ _
      refine Go.iloadN X0 hx (hb hby d_nxt_9) rfl ?_
      show Go _ _ _ _ s₁ (mkF m 10 #[.val (.int p0), .val (.int p1), .val (.int p2), .val (.int p3)] [(.int p0)]) _ _ _
      rcases Decidable.em (p0 < (0 : Int32)) with c43 | c43
      · refine Go.ifYes X0 hx (hb hby d_nxt_10) (XT.i0_lt_t c43) (pc' := 18) (by decide) (by decide) ?_
        show Go _ _ _ _ s₁ (mkF m 18 #[.val (.int p0), .val (.int p1), .val (.int p2), .val (.int p3)] []) _ _ _
        refine Go.iloadN X0 hx (hb hby d_nxt_18) rfl ?_
        show Go _ _ _ _ s₁ (mkF m 19 #[.val (.int p0), .val (.int p1), .val (.int p2), .val (.int p3)] [(.int p2)]) _ _ _
        refine Go.retI X0 hx hlk hret (hb hby d_nxt_19) (by decide) (by decide) ?_
        rw [e0]
        exact ⟨by unfold F_nxt; rw [if_neg c41]; rw [if_neg c42]; rw [if_pos c43], rfl, rfl⟩
      · refine Go.ifNo X0 hx (hb hby d_nxt_10) (XT.i0_lt_f c43) ?_
        show Go _ _ _ _ s₁ (mkF m 13 #[.val (.int p0), .val (.int p1), .val (.int p2), .val (.int p3)] []) _ _ _
        refine Go.iloadN X0 hx (hb hby d_nxt_13) rfl ?_
        show Go _ _ _ _ s₁ (mkF m 14 #[.val (.int p0), .val (.int p1), .val (.int p2), .val (.int p3)] [(.int p2)]) _ _ _
        refine Go.iloadN X0 hx (hb hby d_nxt_14) rfl ?_
        show Go _ _ _ _ s₁ (mkF m 15 #[.val (.int p0), .val (.int p1), .val (.int p2), .val (.int p3)] [(.int p0), (.int p2)]) _ _ _
        rcases Decidable.em (p2 < p0) with c44 | c44
        · refine Go.icmpNo X0 hx (hb hby d_nxt_15) (XT.ii_ge_f c44) ?_
          show Go _ _ _ _ s₁ (mkF m 18 #[.val (.int p0), .val (.int p1), .val (.int p2), .val (.int p3)] []) _ _ _
          refine Go.iloadN X0 hx (hb hby d_nxt_18) rfl ?_
          show Go _ _ _ _ s₁ (mkF m 19 #[.val (.int p0), .val (.int p1), .val (.int p2), .val (.int p3)] [(.int p2)]) _ _ _
          refine Go.retI X0 hx hlk hret (hb hby d_nxt_19) (by decide) (by decide) ?_
          rw [e0]
          exact ⟨by unfold F_nxt; rw [if_neg c41]; rw [if_neg c42]; rw [if_neg c43]; rw [if_pos c44], rfl, rfl⟩
        · refine Go.icmpYes X0 hx (hb hby d_nxt_15) (XT.ii_ge_t c44) (pc' := 20) (by decide) (by decide) ?_
          show Go _ _ _ _ s₁ (mkF m 20 #[.val (.int p0), .val (.int p1), .val (.int p2), .val (.int p3)] []) _ _ _
          refine Go.iloadN X0 hx (hb hby d_nxt_20) rfl ?_
          show Go _ _ _ _ s₁ (mkF m 21 #[.val (.int p0), .val (.int p1), .val (.int p2), .val (.int p3)] [(.int p0)]) _ _ _
          refine Go.retI X0 hx hlk hret (hb hby d_nxt_21) (by decide) (by decide) ?_
          rw [e0]
          exact ⟨by unfold F_nxt; rw [if_neg c41]; rw [if_neg c42]; rw [if_neg c43]; rw [if_neg c44], rfl, rfl⟩
def F_prv (p0 : Int32) (p1 : Int32) (p2 : Int32) (p3 : Int32) : Int32 := (if p1 = (0 : Int32) then p0 else (if p3 < p2 then p0 else (if p0 < p2 then p2 else p0)))
def Q_prv (p0 : Int32) (p1 : Int32) (p2 : Int32) (p3 : Int32) (h0 : Heap) (v : Option Value) (h : Heap) (L : List Loc) : Prop := v = some (.int (F_prv p0 p1 p2 p3)) ∧ L = [] ∧ h = h0
theorem ef_prv (m : MethodId) (x0 : Int32) (x1 : Int32) (x2 : Int32) (x3 : Int32) : entryFrame m #[(.int x0), (.int x1), (.int x2), (.int x3)] 4 = mkF m 0 #[.val (.int x0), .val (.int x1), .val (.int x2), .val (.int x3)] [] := by first | (simp [entryFrame, mkF, argsToLocals, Value.category]; done) | rfl
set_option maxRecDepth 65536 in
set_option maxHeartbeats 40000000 in
theorem rm_prv (l : Launch) (Z : State) (a0 : Array Value) (hw : ∀ d ∈ tables_1, d.before a0 Z = true) (p0 : Int32) (p1 : Int32) (p2 : Int32) (p3 : Int32) (h0 : Heap)  :
    Met l Z (⟨"com/example/collate/collate/analysis/BitsSetPinLaw", "prv", "(IZII)I"⟩ : MethodName) method_4_code 4 (Option.some Jvm.ClassFile.FieldType.int) [] ({ frames := 0, cells := 0, slots := 0, locals := 0 } : Room) #[(.int p0), (.int p1), (.int p2), (.int p3)] h0 (Q_prv p0 p1 p2 p3 h0) := by
  refine Met.of (plainFor_of_name pn_prv) ?_
  intro p e s m below meth c s₁ X0 hx hby hml hZ hown hnm e0 hret hlk
  refine Go.cast (ef_prv m p0 p1 p2 p3) ?_
  show Go _ _ _ _ s₁ (mkF m 0 #[.val (.int p0), .val (.int p1), .val (.int p2), .val (.int p3)] []) _ _ _
  refine Go.iloadN X0 hx (hb hby d_prv_0) rfl ?_
  show Go _ _ _ _ s₁ (mkF m 1 #[.val (.int p0), .val (.int p1), .val (.int p2), .val (.int p3)] [(.int p1)]) _ _ _
  rcases Decidable.em (p1 = (0 : Int32)) with c45 | c45
  · refine Go.ifYes X0 hx (hb hby d_prv_1) (XT.i0_eq_t c45) (pc' := 16) (by decide) (by decide) ?_
    show Go _ _ _ _ s₁ (mkF m 16 #[.val (.int p0), .val (.int p1), .val (.int p2), .val (.int p3)] []) _ _ _
    refine Go.iloadN X0 hx (hb hby d_prv_16) rfl ?_
    show Go _ _ _ _ s₁ (mkF m 17 #[.val (.int p0), .val (.int p1), .val (.int p2), .val (.int p3)] [(.int p0)]) _ _ _
    refine Go.retI X0 hx hlk hret (hb hby d_prv_17) (by decide) (by decide) ?_
    rw [e0]
    exact ⟨by unfold F_prv; rw [if_pos c45], rfl, rfl⟩
  · refine Go.ifNo X0 hx (hb hby d_prv_1) (XT.i0_eq_f c45) ?_
    show Go _ _ _ _ s₁ (mkF m 4 #[.val (.int p0), .val (.int p1), .val (.int p2), .val (.int p3)] []) _ _ _
    refine Go.iloadN X0 hx (hb hby d_prv_4) rfl ?_
    show Go _ _ _ _ s₁ (mkF m 5 #[.val (.int p0), .val (.int p1), .val (.int p2), .val (.int p3)] [(.int p2)]) _ _ _
    refine Go.iloadN X0 hx (hb hby d_prv_5) rfl ?_
    show Go _ _ _ _ s₁ (mkF m 6 #[.val (.int p0), .val (.int p1), .val (.int p2), .val (.int p3)] [(.int p3), (.int p2)]) _ _ _
    rcases Decidable.em (p3 < p2) with c46 | c46
    · refine Go.icmpYes X0 hx (hb hby d_prv_6) (XT.ii_gt_t c46) (pc' := 16) (by decide) (by decide) ?_
      show Go _ _ _ _ s₁ (mkF m 16 #[.val (.int p0), .val (.int p1), .val (.int p2), .val (.int p3)] []) _ _ _
      refine Go.iloadN X0 hx (hb hby d_prv_16) rfl ?_
      show Go _ _ _ _ s₁ (mkF m 17 #[.val (.int p0), .val (.int p1), .val (.int p2), .val (.int p3)] [(.int p0)]) _ _ _
      refine Go.retI X0 hx hlk hret (hb hby d_prv_17) (by decide) (by decide) ?_
      rw [e0]
      exact ⟨by unfold F_prv; rw [if_neg c45]; rw [if_pos c46], rfl, rfl⟩
    · refine Go.icmpNo X0 hx (hb hby d_prv_6) (XT.ii_gt_f c46) ?_
      show Go _ _ _ _ s₁ (mkF m 9 #[.val (.int p0), .val (.int p1), .val (.int p2), .val (.int p3)] []) _ _ _
      refine Go.iloadN X0 hx (hb hby d_prv_9) rfl ?_
      show Go _ _ _ _ s₁ (mkF m 10 #[.val (.int p0), .val (.int p1), .val (.int p2), .val (.int p3)] [(.int p2)]) _ _ _
      refine Go.iloadN X0 hx (hb hby d_prv_10) rfl ?_
      show Go _ _ _ _ s₁ (mkF m 11 #[.val (.int p0), .val (.int p1), .val (.int p2), .val (.int p3)] [(.int p0), (.int p2)]) _ _ _
      rcases Decidable.em (p0 < p2) with c47 | c47
      · refine Go.icmpNo X0 hx (hb hby d_prv_11) (XT.ii_le_f c47) ?_
        show Go _ _ _ _ s₁ (mkF m 14 #[.val (.int p0), .val (.int p1), .val (.int p2), .val (.int p3)] []) _ _ _
        refine Go.iloadN X0 hx (hb hby d_prv_14) rfl ?_
        show Go _ _ _ _ s₁ (mkF m 15 #[.val (.int p0), .val (.int p1), .val (.int p2), .val (.int p3)] [(.int p2)]) _ _ _
        refine Go.retI X0 hx hlk hret (hb hby d_prv_15) (by decide) (by decide) ?_
        rw [e0]
        exact ⟨by unfold F_prv; rw [if_neg c45]; rw [if_neg c46]; rw [if_pos c47], rfl, rfl⟩
      · refine Go.icmpYes X0 hx (hb hby d_prv_11) (XT.ii_le_t c47) (pc' := 16) (by decide) (by decide) ?_
        show Go _ _ _ _ s₁ (mkF m 16 #[.val (.int p0), .val (.int p1), .val (.int p2), .val (.int p3)] []) _ _ _
        refine Go.iloadN X0 hx (hb hby d_prv_16) rfl ?_
        show Go _ _ _ _ s₁ (mkF m 17 #[.val (.int p0), .val (.int p1), .val (.int p2), .val (.int p3)] [(.int p0)]) _ _ _
        refine Go.retI X0 hx hlk hret (hb hby d_prv_17) (by decide) (by decide) ?_
        rw [e0]
        exact ⟨by unfold F_prv; rw [if_neg c45]; rw [if_neg c46]; rw [if_neg c47], rfl, rfl⟩
theorem nat_clamp {v : Int32} (h : 0 ≤ v.toInt) : (v.toNatClampNeg : Int) = v.toInt := by simp only [Int32.toNatClampNeg]; omega
theorem neg_of {v : Int32} (h : 0 ≤ v.toInt) : ¬ v < 0 := by rw [Int32.lt_iff_toInt_lt]; show ¬ _ < (0 : Int); omega
def bit (w : Int64) (i : Nat) : Bool := w.toBitVec.getLsbD i
theorem bit_or (a b : Int64) (i : Nat) : bit (a ||| b) i = (bit a i || bit b i) := by simp [bit]
theorem bit_and (a b : Int64) (i : Nat) : bit (a &&& b) i = (bit a i && bit b i) := by simp [bit]
theorem bit_not (a : Int64) {i : Nat} (h : i < 64) : bit (a ^^^ (-1 : Int64)) i = !bit a i := by
  have e : ∀ i, i < 64 → ((-1 : Int64).toBitVec).getLsbD i = true := by decide
  simp [bit, e i h, h]
theorem bit_zero {w : Int64} : w = 0 ↔ ∀ i, i < 64 → bit w i = false := by
  constructor
  · rintro rfl i _; simp [bit]
  · intro h
    apply Int64.toBitVec_inj.mp
    apply BitVec.eq_of_getLsbD_eq
    intro i hi
    have := h i hi
    simp only [bit] at this
    rw [this]; simp
theorem smod64 : ∀ n, n < 64 → ((BitVec.ofNat 64 n).smod 64#64).toNat = n := by decide
theorem sh_nat {x : Int32} (h : 0 ≤ x.toInt) : (x.toInt64 &&& (63 : Int64)).toBitVec = BitVec.ofNat 64 (x.toNatClampNeg % 64) := by
  have e1 : (x.toInt64 &&& (63 : Int64)).toInt = x.toInt64.toInt % 2 ^ 6 := Jvm.Kit.i64_mask _ _ (k := 6) (by decide) (by decide)
  rw [Jvm.Kit.i64_of_i32] at e1
  have c := nat_clamp h
  apply BitVec.eq_of_toInt_eq
  have e2 : (x.toInt64 &&& (63 : Int64)).toBitVec.toInt = (x.toInt64 &&& (63 : Int64)).toInt := rfl
  rw [e2, e1, BitVec.toInt_eq_toNat_cond, BitVec.toNat_ofNat]
  have z : x.toNatClampNeg % 64 % 2 ^ 64 = x.toNatClampNeg % 64 := Nat.mod_eq_of_lt (by omega)
  rw [z, if_pos (by omega)]
  omega
theorem shl_bv (a : Int64) {x : Int32} (h : 0 ≤ x.toInt) : (a <<< (x.toInt64 &&& 63)).toBitVec = a.toBitVec <<< (x.toNatClampNeg % 64) := by
  show a.toBitVec <<< ((x.toInt64 &&& (63 : Int64)).toBitVec.smod 64#64) = _
  rw [sh_nat h]
  have := smod64 (x.toNatClampNeg % 64) (by omega)
  rw [BitVec.shiftLeft_eq', this]
theorem bit_shl1 {x : Int32} (h : 0 ≤ x.toInt) {i : Nat} (hi : i < 64) : bit ((1 : Int64) <<< (x.toInt64 &&& 63)) i = decide (i = x.toNatClampNeg % 64) := by
  unfold bit
  rw [shl_bv _ h]
  have e : ∀ j, j < 64 → ((1 : Int64).toBitVec).getLsbD j = decide (j = 0) := by decide
  rw [BitVec.getLsbD_shiftLeft]
  by_cases q : i < x.toNatClampNeg % 64
  · simp [hi, q]; omega
  · rw [e _ (by omega)]
    simp only [hi, q, decide_true, decide_false, Bool.not_false, Bool.true_and]
    congr 1
    apply propext
    omega
theorem bit_shlm {x : Int32} (h : 0 ≤ x.toInt) {i : Nat} (hi : i < 64) : bit ((-1 : Int64) <<< (x.toInt64 &&& 63)) i = decide (x.toNatClampNeg % 64 ≤ i) := by
  unfold bit
  rw [shl_bv _ h]
  have e : ∀ j, j < 64 → ((-1 : Int64).toBitVec).getLsbD j = true := by decide
  rw [BitVec.getLsbD_shiftLeft, e _ (by omega)]
  by_cases q : i < x.toNatClampNeg % 64
  · simp [hi, q]
  · simp [hi, q]; omega
theorem bit_ushrm {x : Int32} (h : 0 ≤ x.toInt) {i : Nat} (hi : i < 64) : bit (XT.ushrL (-1 : Int64) ((63 : Int32) - (x &&& (63 : Int32)))) i = decide (i ≤ x.toNatClampNeg % 64) := by
  have c := nat_clamp h
  have m1 : (x &&& (63 : Int32)).toInt = x.toInt % 2 ^ 6 := Jvm.Kit.i32_mask x _ (k := 6) (by decide) (by decide)
  have m2 : ((63 : Int32) - (x &&& (63 : Int32))).toInt = 63 - x.toInt % 64 := (Jvm.Kit.i32_sub (by rw [m1]; show _ ≤ 63 - _; omega) (by rw [m1]; show 63 - _ < _; omega)).trans (by rw [m1]; rfl)
  generalize hy : ((63 : Int32) - (x &&& (63 : Int32))) = y at *
  have y0 : 0 ≤ y.toInt := by omega
  have cy := nat_clamp y0
  have e : ∀ j, j < 64 → ((-1 : Int64).toBitVec).getLsbD j = true := by decide
  have hs : (y.toInt64.toUInt64 &&& Int64.toUInt64 63).toBitVec = BitVec.ofNat 64 (y.toNatClampNeg % 64) := sh_nat y0
  show ((-1 : Int64).toBitVec >>> ((y.toInt64.toUInt64 &&& Int64.toUInt64 63).toBitVec % 64#64)).getLsbD i = _
  rw [hs]
  have e2 : (BitVec.ofNat 64 (y.toNatClampNeg % 64) % 64#64).toNat = y.toNatClampNeg := by
    have z1 : y.toNatClampNeg % 64 % 2 ^ 64 = y.toNatClampNeg % 64 := Nat.mod_eq_of_lt (by omega)
    rw [BitVec.toNat_umod, BitVec.toNat_ofNat, BitVec.toNat_ofNat, z1]
    show y.toNatClampNeg % 64 % 64 = _
    omega
  rw [BitVec.ushiftRight_eq', e2, BitVec.getLsbD_ushiftRight]
  by_cases q : i ≤ x.toNatClampNeg % 64
  · rw [e _ (by omega)]; simp [q]
  · rw [BitVec.getLsbD_of_ge _ _ (by omega)]; simp [q]
theorem least (p : Nat → Bool) : ∀ n, p n = true → ∃ t, t ≤ n ∧ p t = true ∧ ∀ i, i < t → p i = false := by
  intro n
  induction n using Nat.strongRecOn with
  | _ n ih =>
    intro hn
    by_cases h : ∃ m, m < n ∧ p m = true
    · obtain ⟨m, h1, h2⟩ := h
      obtain ⟨t, t1, t2, t3⟩ := ih m h1 h2
      exact ⟨t, by omega, t2, t3⟩
    · refine ⟨n, Nat.le_refl _, hn, fun i hi => ?_⟩
      cases q : p i with
      | false => rfl
      | true => exact absurd ⟨i, hi, q⟩ h
def bit32 (x : Int32) (i : Nat) : Bool := x.toBitVec.getLsbD i
theorem bit32_zero {x : Int32} (h : x ≠ 0) : ∃ i, i < 32 ∧ bit32 x i = true := by
  by_cases q : ∃ i, i < 32 ∧ bit32 x i = true
  · exact q
  · exfalso
    apply h
    apply Int32.toBitVec_inj.mp
    apply BitVec.eq_of_getLsbD_eq
    intro i hi
    cases r : x.toBitVec.getLsbD i with
    | false => simp
    | true => exact absurd ⟨i, hi, r⟩ q
theorem low_form {X t : Nat} (h1 : X.testBit t = true) (h2 : ∀ i, i < t → X.testBit i = false) : X = 2 ^ (t + 1) * (X / 2 ^ (t + 1)) + 2 ^ t := by
  have e : X % 2 ^ (t + 1) = 2 ^ t := by
    apply Nat.eq_of_testBit_eq
    intro j
    rw [Nat.testBit_mod_two_pow, Nat.testBit_two_pow]
    by_cases q : j < t
    · rw [h2 j q]
      have : ¬ t = j := by omega
      simp [this]
    · by_cases r : j = t
      · subst r; simp [h1]
      · have a : ¬ j < t + 1 := by omega
        have b : ¬ t = j := by omega
        simp [a, b]
  have := Nat.div_add_mod X (2 ^ (t + 1))
  rw [e] at this
  exact this.symm
theorem low_mask (x : Int32) {t : Nat} (ht : t < 32) (h1 : bit32 x t = true) (h2 : ∀ i, i < t → bit32 x i = false) : ((x ^^^ (-1 : Int32)) &&& (x - (1 : Int32))) = Int32.ofNat (2 ^ t - 1) := by
  apply Int32.toBitVec_inj.mp
  apply BitVec.eq_of_getLsbD_eq
  intro j hj
  have f1 : x.toBitVec.toNat = 2 ^ (t + 1) * (x.toBitVec.toNat / 2 ^ (t + 1)) + 2 ^ t := low_form h1 h2
  generalize hm : x.toBitVec.toNat / 2 ^ (t + 1) = m at f1
  have pt : 0 < 2 ^ t := Nat.pow_pos (by decide)
  have pt2 : 2 ^ (t + 1) = 2 * 2 ^ t := by rw [Nat.pow_succ]; omega
  have pl : 2 ^ t ≤ 2 ^ 31 := Nat.pow_le_pow_right (by decide) (by omega)
  have hlt := x.toBitVec.isLt
  have f2 : (x - (1 : Int32)).toBitVec.toNat = 2 ^ (t + 1) * m + (2 ^ t - 1) := by
    show (x.toBitVec - 1#32).toNat = _
    rw [BitVec.toNat_sub]
    simp only [BitVec.toNat_ofNat]
    rw [f1]
    rw [f1] at hlt
    generalize 2 ^ (t + 1) * m = K at *
    omega
  have eone : ∀ i, i < 32 → ((-1 : Int32).toBitVec).getLsbD i = true := by decide
  have g1 : x.toBitVec.getLsbD j = if j < t + 1 then (2 ^ t).testBit j else m.testBit (j - (t + 1)) := by
    rw [BitVec.getLsbD, f1, Nat.testBit_two_pow_mul_add _ (by omega)]
  have g2 : (x - (1 : Int32)).toBitVec.getLsbD j = if j < t + 1 then (2 ^ t - 1).testBit j else m.testBit (j - (t + 1)) := by
    rw [BitVec.getLsbD, f2, Nat.testBit_two_pow_mul_add _ (by omega)]
  have g3 : (Int32.ofNat (2 ^ t - 1)).toBitVec.getLsbD j = decide (j < t) := by
    show (BitVec.ofNat 32 (2 ^ t - 1)).getLsbD j = _
    rw [BitVec.getLsbD_ofNat, Nat.testBit_two_pow_sub_one]
    simp [hj]
  show ((x.toBitVec ^^^ (-1 : Int32).toBitVec) &&& (x - (1 : Int32)).toBitVec).getLsbD j = _
  rw [BitVec.getLsbD_and, BitVec.getLsbD_xor, eone j hj, g1, g2, g3, Nat.testBit_two_pow, Nat.testBit_two_pow_sub_one]
  by_cases q : j < t
  · have a : j < t + 1 := by omega
    have b : ¬ t = j := by omega
    simp [q, a, b]
  · by_cases r : j = t
    · subst r; simp
    · have a : ¬ j < t + 1 := by omega
      simp [q, a]
def G_ntz (i : Int32) : Int32 := (if (0 : Int32) < i then (if (65536 : Int32) < i then (if (256 : Int32) < (XT.ushr i (16 : Int32)) then (if (16 : Int32) < (XT.ushr (XT.ushr i (16 : Int32)) (8 : Int32)) then (if (4 : Int32) < (XT.ushr (XT.ushr (XT.ushr i (16 : Int32)) (8 : Int32)) (4 : Int32)) then ((31 : Int32) + (XT.ushr (XT.ushr (XT.ushr (XT.ushr (XT.ushr i (16 : Int32)) (8 : Int32)) (4 : Int32)) (2 : Int32)) (1 : Int32))) else ((29 : Int32) + (XT.ushr (XT.ushr (XT.ushr (XT.ushr i (16 : Int32)) (8 : Int32)) (4 : Int32)) (1 : Int32)))) else (if (4 : Int32) < (XT.ushr (XT.ushr i (16 : Int32)) (8 : Int32)) then ((27 : Int32) + (XT.ushr (XT.ushr (XT.ushr (XT.ushr i (16 : Int32)) (8 : Int32)) (2 : Int32)) (1 : Int32))) else ((25 : Int32) + (XT.ushr (XT.ushr (XT.ushr i (16 : Int32)) (8 : Int32)) (1 : Int32))))) else (if (16 : Int32) < (XT.ushr i (16 : Int32)) then (if (4 : Int32) < (XT.ushr (XT.ushr i (16 : Int32)) (4 : Int32)) then ((23 : Int32) + (XT.ushr (XT.ushr (XT.ushr (XT.ushr i (16 : Int32)) (4 : Int32)) (2 : Int32)) (1 : Int32))) else ((21 : Int32) + (XT.ushr (XT.ushr (XT.ushr i (16 : Int32)) (4 : Int32)) (1 : Int32)))) else (if (4 : Int32) < (XT.ushr i (16 : Int32)) then ((19 : Int32) + (XT.ushr (XT.ushr (XT.ushr i (16 : Int32)) (2 : Int32)) (1 : Int32))) else ((17 : Int32) + (XT.ushr (XT.ushr i (16 : Int32)) (1 : Int32)))))) else (if (256 : Int32) < i then (if (16 : Int32) < (XT.ushr i (8 : Int32)) then (if (4 : Int32) < (XT.ushr (XT.ushr i (8 : Int32)) (4 : Int32)) then ((15 : Int32) + (XT.ushr (XT.ushr (XT.ushr (XT.ushr i (8 : Int32)) (4 : Int32)) (2 : Int32)) (1 : Int32))) else ((13 : Int32) + (XT.ushr (XT.ushr (XT.ushr i (8 : Int32)) (4 : Int32)) (1 : Int32)))) else (if (4 : Int32) < (XT.ushr i (8 : Int32)) then ((11 : Int32) + (XT.ushr (XT.ushr (XT.ushr i (8 : Int32)) (2 : Int32)) (1 : Int32))) else ((9 : Int32) + (XT.ushr (XT.ushr i (8 : Int32)) (1 : Int32))))) else (if (16 : Int32) < i then (if (4 : Int32) < (XT.ushr i (4 : Int32)) then ((7 : Int32) + (XT.ushr (XT.ushr (XT.ushr i (4 : Int32)) (2 : Int32)) (1 : Int32))) else ((5 : Int32) + (XT.ushr (XT.ushr i (4 : Int32)) (1 : Int32)))) else (if (4 : Int32) < i then ((3 : Int32) + (XT.ushr (XT.ushr i (2 : Int32)) (1 : Int32))) else ((1 : Int32) + (XT.ushr i (1 : Int32))))))) else (i &&& (32 : Int32)))
theorem G_ntz_at : ∀ t, t < 32 → G_ntz (Int32.ofNat (2 ^ t - 1)) = Int32.ofNat t := by decide +kernel
theorem ntz_spec {x : Int32} (h : x ≠ 0) : ∃ t, t < 32 ∧ F_ntz x = Int32.ofNat t ∧ bit32 x t = true ∧ ∀ i, i < t → bit32 x i = false := by
  obtain ⟨i, hi, q⟩ := bit32_zero h
  obtain ⟨t, t1, t2, t3⟩ := least (bit32 x) i q
  have ht : t < 32 := by omega
  refine ⟨t, ht, ?_, t2, t3⟩
  have e : F_ntz x = G_ntz ((x ^^^ (-1 : Int32)) &&& (x - (1 : Int32))) := rfl
  rw [e, low_mask x ht t2 t3]
  exact G_ntz_at t ht
theorem ushr_int {x : Int32} (h : 0 ≤ x.toInt) (k : Nat) (kk : Int32) (hk : ((kk &&& 31).toUInt32).toNat = k) (h32 : k < 32) : (XT.ushr x kk).toInt = x.toInt / 2 ^ k := Jvm.Kit.i32_iushr (Jvm.Kit.i32_nonneg.mpr h) (by rw [← hk]) h32
theorem nlz_pos {p0 : Int32} (hp : (0 : Int32) < p0) : ∃ t, t < 31 ∧ F_nlz p0 = Int32.ofNat (31 - t) ∧ 2 ^ t ≤ p0.toInt ∧ p0.toInt < 2 ^ (t + 1) := by
  have X0 : 0 < p0.toInt := by rw [Int32.lt_iff_toInt_lt] at hp; exact hp
  have XL := p0.toInt_lt
  unfold F_nlz
  rw [if_pos hp]
  have l65536 : (65536 : Int32).toInt = 65536 := by decide
  have l256 : (256 : Int32).toInt = 256 := by decide
  have l16 : (16 : Int32).toInt = 16 := by decide
  have l4 : (4 : Int32).toInt = 4 := by decide
  rcases Decidable.em (p0 < (65536 : Int32)) with c1 | c1
  · rw [if_pos c1]
    rw [Int32.lt_iff_toInt_lt, l65536] at c1
    rcases Decidable.em (p0 < (256 : Int32)) with c2 | c2
    · rw [if_pos c2]
      rw [Int32.lt_iff_toInt_lt, l256] at c2
      rcases Decidable.em (p0 < (16 : Int32)) with c3 | c3
      · rw [if_pos c3]
        rw [Int32.lt_iff_toInt_lt, l16] at c3
        rcases Decidable.em (p0 < (4 : Int32)) with c4 | c4
        · rw [if_pos c4]
          rw [Int32.lt_iff_toInt_lt, l4] at c4
          have e5 : (XT.ushr p0 (1 : Int32)).toInt = p0.toInt / 2 := by rw [ushr_int (by omega) 1 (1 : Int32) (by decide) (by decide)]; omega
          have hy : p0.toInt / 1 = 1 ∨ p0.toInt / 1 = 2 ∨ p0.toInt / 1 = 3 := by omega
          rcases hy with hy | hy | hy
          · refine ⟨0, by decide, ?_, by show ((2 : Int) ^ 0) ≤ _; omega, by show _ < ((2 : Int) ^ (0 + 1)); omega⟩
            have hz : (XT.ushr p0 (1 : Int32)) = (0 : Int32) := Int32.toInt_inj.mp (by rw [e5]; show _ = (0 : Int); omega)
            rw [hz]; decide
          · refine ⟨1, by decide, ?_, by show ((2 : Int) ^ 1) ≤ _; omega, by show _ < ((2 : Int) ^ (1 + 1)); omega⟩
            have hz : (XT.ushr p0 (1 : Int32)) = (1 : Int32) := Int32.toInt_inj.mp (by rw [e5]; show _ = (1 : Int); omega)
            rw [hz]; decide
          · refine ⟨1, by decide, ?_, by show ((2 : Int) ^ 1) ≤ _; omega, by show _ < ((2 : Int) ^ (1 + 1)); omega⟩
            have hz : (XT.ushr p0 (1 : Int32)) = (1 : Int32) := Int32.toInt_inj.mp (by rw [e5]; show _ = (1 : Int); omega)
            rw [hz]; decide
        · rw [if_neg c4]
          rw [Int32.lt_iff_toInt_lt, l4] at c4
          have e6 : (XT.ushr p0 (2 : Int32)).toInt = p0.toInt / 4 := by rw [ushr_int (by omega) 2 (2 : Int32) (by decide) (by decide)]; omega
          have e7 : (XT.ushr (XT.ushr p0 (2 : Int32)) (1 : Int32)).toInt = p0.toInt / 8 := by rw [ushr_int (by rw [e6]; omega) 1 (1 : Int32) (by decide) (by decide), e6]; omega
          have hy : p0.toInt / 4 = 1 ∨ p0.toInt / 4 = 2 ∨ p0.toInt / 4 = 3 := by omega
          rcases hy with hy | hy | hy
          · refine ⟨2, by decide, ?_, by show ((2 : Int) ^ 2) ≤ _; omega, by show _ < ((2 : Int) ^ (2 + 1)); omega⟩
            have hz : (XT.ushr (XT.ushr p0 (2 : Int32)) (1 : Int32)) = (0 : Int32) := Int32.toInt_inj.mp (by rw [e7]; show _ = (0 : Int); omega)
            rw [hz]; decide
          · refine ⟨3, by decide, ?_, by show ((2 : Int) ^ 3) ≤ _; omega, by show _ < ((2 : Int) ^ (3 + 1)); omega⟩
            have hz : (XT.ushr (XT.ushr p0 (2 : Int32)) (1 : Int32)) = (1 : Int32) := Int32.toInt_inj.mp (by rw [e7]; show _ = (1 : Int); omega)
            rw [hz]; decide
          · refine ⟨3, by decide, ?_, by show ((2 : Int) ^ 3) ≤ _; omega, by show _ < ((2 : Int) ^ (3 + 1)); omega⟩
            have hz : (XT.ushr (XT.ushr p0 (2 : Int32)) (1 : Int32)) = (1 : Int32) := Int32.toInt_inj.mp (by rw [e7]; show _ = (1 : Int); omega)
            rw [hz]; decide
      · rw [if_neg c3]
        rw [Int32.lt_iff_toInt_lt, l16] at c3
        have e9 : (XT.ushr p0 (4 : Int32)).toInt = p0.toInt / 16 := by rw [ushr_int (by omega) 4 (4 : Int32) (by decide) (by decide)]; omega
        rcases Decidable.em ((XT.ushr p0 (4 : Int32)) < (4 : Int32)) with c8 | c8
        · rw [if_pos c8]
          rw [Int32.lt_iff_toInt_lt, l4, e9] at c8
          have e10 : (XT.ushr (XT.ushr p0 (4 : Int32)) (1 : Int32)).toInt = p0.toInt / 32 := by rw [ushr_int (by rw [e9]; omega) 1 (1 : Int32) (by decide) (by decide), e9]; omega
          have hy : p0.toInt / 16 = 1 ∨ p0.toInt / 16 = 2 ∨ p0.toInt / 16 = 3 := by omega
          rcases hy with hy | hy | hy
          · refine ⟨4, by decide, ?_, by show ((2 : Int) ^ 4) ≤ _; omega, by show _ < ((2 : Int) ^ (4 + 1)); omega⟩
            have hz : (XT.ushr (XT.ushr p0 (4 : Int32)) (1 : Int32)) = (0 : Int32) := Int32.toInt_inj.mp (by rw [e10]; show _ = (0 : Int); omega)
            rw [hz]; decide
          · refine ⟨5, by decide, ?_, by show ((2 : Int) ^ 5) ≤ _; omega, by show _ < ((2 : Int) ^ (5 + 1)); omega⟩
            have hz : (XT.ushr (XT.ushr p0 (4 : Int32)) (1 : Int32)) = (1 : Int32) := Int32.toInt_inj.mp (by rw [e10]; show _ = (1 : Int); omega)
            rw [hz]; decide
          · refine ⟨5, by decide, ?_, by show ((2 : Int) ^ 5) ≤ _; omega, by show _ < ((2 : Int) ^ (5 + 1)); omega⟩
            have hz : (XT.ushr (XT.ushr p0 (4 : Int32)) (1 : Int32)) = (1 : Int32) := Int32.toInt_inj.mp (by rw [e10]; show _ = (1 : Int); omega)
            rw [hz]; decide
        · rw [if_neg c8]
          rw [Int32.lt_iff_toInt_lt, l4, e9] at c8
          have e11 : (XT.ushr (XT.ushr p0 (4 : Int32)) (2 : Int32)).toInt = p0.toInt / 64 := by rw [ushr_int (by rw [e9]; omega) 2 (2 : Int32) (by decide) (by decide), e9]; omega
          have e12 : (XT.ushr (XT.ushr (XT.ushr p0 (4 : Int32)) (2 : Int32)) (1 : Int32)).toInt = p0.toInt / 128 := by rw [ushr_int (by rw [e11]; omega) 1 (1 : Int32) (by decide) (by decide), e11]; omega
          have hy : p0.toInt / 64 = 1 ∨ p0.toInt / 64 = 2 ∨ p0.toInt / 64 = 3 := by omega
          rcases hy with hy | hy | hy
          · refine ⟨6, by decide, ?_, by show ((2 : Int) ^ 6) ≤ _; omega, by show _ < ((2 : Int) ^ (6 + 1)); omega⟩
            have hz : (XT.ushr (XT.ushr (XT.ushr p0 (4 : Int32)) (2 : Int32)) (1 : Int32)) = (0 : Int32) := Int32.toInt_inj.mp (by rw [e12]; show _ = (0 : Int); omega)
            rw [hz]; decide
          · refine ⟨7, by decide, ?_, by show ((2 : Int) ^ 7) ≤ _; omega, by show _ < ((2 : Int) ^ (7 + 1)); omega⟩
            have hz : (XT.ushr (XT.ushr (XT.ushr p0 (4 : Int32)) (2 : Int32)) (1 : Int32)) = (1 : Int32) := Int32.toInt_inj.mp (by rw [e12]; show _ = (1 : Int); omega)
            rw [hz]; decide
          · refine ⟨7, by decide, ?_, by show ((2 : Int) ^ 7) ≤ _; omega, by show _ < ((2 : Int) ^ (7 + 1)); omega⟩
            have hz : (XT.ushr (XT.ushr (XT.ushr p0 (4 : Int32)) (2 : Int32)) (1 : Int32)) = (1 : Int32) := Int32.toInt_inj.mp (by rw [e12]; show _ = (1 : Int); omega)
            rw [hz]; decide
    · rw [if_neg c2]
      rw [Int32.lt_iff_toInt_lt, l256] at c2
      have e14 : (XT.ushr p0 (8 : Int32)).toInt = p0.toInt / 256 := by rw [ushr_int (by omega) 8 (8 : Int32) (by decide) (by decide)]; omega
      rcases Decidable.em ((XT.ushr p0 (8 : Int32)) < (16 : Int32)) with c13 | c13
      · rw [if_pos c13]
        rw [Int32.lt_iff_toInt_lt, l16, e14] at c13
        rcases Decidable.em ((XT.ushr p0 (8 : Int32)) < (4 : Int32)) with c15 | c15
        · rw [if_pos c15]
          rw [Int32.lt_iff_toInt_lt, l4, e14] at c15
          have e16 : (XT.ushr (XT.ushr p0 (8 : Int32)) (1 : Int32)).toInt = p0.toInt / 512 := by rw [ushr_int (by rw [e14]; omega) 1 (1 : Int32) (by decide) (by decide), e14]; omega
          have hy : p0.toInt / 256 = 1 ∨ p0.toInt / 256 = 2 ∨ p0.toInt / 256 = 3 := by omega
          rcases hy with hy | hy | hy
          · refine ⟨8, by decide, ?_, by show ((2 : Int) ^ 8) ≤ _; omega, by show _ < ((2 : Int) ^ (8 + 1)); omega⟩
            have hz : (XT.ushr (XT.ushr p0 (8 : Int32)) (1 : Int32)) = (0 : Int32) := Int32.toInt_inj.mp (by rw [e16]; show _ = (0 : Int); omega)
            rw [hz]; decide
          · refine ⟨9, by decide, ?_, by show ((2 : Int) ^ 9) ≤ _; omega, by show _ < ((2 : Int) ^ (9 + 1)); omega⟩
            have hz : (XT.ushr (XT.ushr p0 (8 : Int32)) (1 : Int32)) = (1 : Int32) := Int32.toInt_inj.mp (by rw [e16]; show _ = (1 : Int); omega)
            rw [hz]; decide
          · refine ⟨9, by decide, ?_, by show ((2 : Int) ^ 9) ≤ _; omega, by show _ < ((2 : Int) ^ (9 + 1)); omega⟩
            have hz : (XT.ushr (XT.ushr p0 (8 : Int32)) (1 : Int32)) = (1 : Int32) := Int32.toInt_inj.mp (by rw [e16]; show _ = (1 : Int); omega)
            rw [hz]; decide
        · rw [if_neg c15]
          rw [Int32.lt_iff_toInt_lt, l4, e14] at c15
          have e17 : (XT.ushr (XT.ushr p0 (8 : Int32)) (2 : Int32)).toInt = p0.toInt / 1024 := by rw [ushr_int (by rw [e14]; omega) 2 (2 : Int32) (by decide) (by decide), e14]; omega
          have e18 : (XT.ushr (XT.ushr (XT.ushr p0 (8 : Int32)) (2 : Int32)) (1 : Int32)).toInt = p0.toInt / 2048 := by rw [ushr_int (by rw [e17]; omega) 1 (1 : Int32) (by decide) (by decide), e17]; omega
          have hy : p0.toInt / 1024 = 1 ∨ p0.toInt / 1024 = 2 ∨ p0.toInt / 1024 = 3 := by omega
          rcases hy with hy | hy | hy
          · refine ⟨10, by decide, ?_, by show ((2 : Int) ^ 10) ≤ _; omega, by show _ < ((2 : Int) ^ (10 + 1)); omega⟩
            have hz : (XT.ushr (XT.ushr (XT.ushr p0 (8 : Int32)) (2 : Int32)) (1 : Int32)) = (0 : Int32) := Int32.toInt_inj.mp (by rw [e18]; show _ = (0 : Int); omega)
            rw [hz]; decide
          · refine ⟨11, by decide, ?_, by show ((2 : Int) ^ 11) ≤ _; omega, by show _ < ((2 : Int) ^ (11 + 1)); omega⟩
            have hz : (XT.ushr (XT.ushr (XT.ushr p0 (8 : Int32)) (2 : Int32)) (1 : Int32)) = (1 : Int32) := Int32.toInt_inj.mp (by rw [e18]; show _ = (1 : Int); omega)
            rw [hz]; decide
          · refine ⟨11, by decide, ?_, by show ((2 : Int) ^ 11) ≤ _; omega, by show _ < ((2 : Int) ^ (11 + 1)); omega⟩
            have hz : (XT.ushr (XT.ushr (XT.ushr p0 (8 : Int32)) (2 : Int32)) (1 : Int32)) = (1 : Int32) := Int32.toInt_inj.mp (by rw [e18]; show _ = (1 : Int); omega)
            rw [hz]; decide
      · rw [if_neg c13]
        rw [Int32.lt_iff_toInt_lt, l16, e14] at c13
        have e20 : (XT.ushr (XT.ushr p0 (8 : Int32)) (4 : Int32)).toInt = p0.toInt / 4096 := by rw [ushr_int (by rw [e14]; omega) 4 (4 : Int32) (by decide) (by decide), e14]; omega
        rcases Decidable.em ((XT.ushr (XT.ushr p0 (8 : Int32)) (4 : Int32)) < (4 : Int32)) with c19 | c19
        · rw [if_pos c19]
          rw [Int32.lt_iff_toInt_lt, l4, e20] at c19
          have e21 : (XT.ushr (XT.ushr (XT.ushr p0 (8 : Int32)) (4 : Int32)) (1 : Int32)).toInt = p0.toInt / 8192 := by rw [ushr_int (by rw [e20]; omega) 1 (1 : Int32) (by decide) (by decide), e20]; omega
          have hy : p0.toInt / 4096 = 1 ∨ p0.toInt / 4096 = 2 ∨ p0.toInt / 4096 = 3 := by omega
          rcases hy with hy | hy | hy
          · refine ⟨12, by decide, ?_, by show ((2 : Int) ^ 12) ≤ _; omega, by show _ < ((2 : Int) ^ (12 + 1)); omega⟩
            have hz : (XT.ushr (XT.ushr (XT.ushr p0 (8 : Int32)) (4 : Int32)) (1 : Int32)) = (0 : Int32) := Int32.toInt_inj.mp (by rw [e21]; show _ = (0 : Int); omega)
            rw [hz]; decide
          · refine ⟨13, by decide, ?_, by show ((2 : Int) ^ 13) ≤ _; omega, by show _ < ((2 : Int) ^ (13 + 1)); omega⟩
            have hz : (XT.ushr (XT.ushr (XT.ushr p0 (8 : Int32)) (4 : Int32)) (1 : Int32)) = (1 : Int32) := Int32.toInt_inj.mp (by rw [e21]; show _ = (1 : Int); omega)
            rw [hz]; decide
          · refine ⟨13, by decide, ?_, by show ((2 : Int) ^ 13) ≤ _; omega, by show _ < ((2 : Int) ^ (13 + 1)); omega⟩
            have hz : (XT.ushr (XT.ushr (XT.ushr p0 (8 : Int32)) (4 : Int32)) (1 : Int32)) = (1 : Int32) := Int32.toInt_inj.mp (by rw [e21]; show _ = (1 : Int); omega)
            rw [hz]; decide
        · rw [if_neg c19]
          rw [Int32.lt_iff_toInt_lt, l4, e20] at c19
          have e22 : (XT.ushr (XT.ushr (XT.ushr p0 (8 : Int32)) (4 : Int32)) (2 : Int32)).toInt = p0.toInt / 16384 := by rw [ushr_int (by rw [e20]; omega) 2 (2 : Int32) (by decide) (by decide), e20]; omega
          have e23 : (XT.ushr (XT.ushr (XT.ushr (XT.ushr p0 (8 : Int32)) (4 : Int32)) (2 : Int32)) (1 : Int32)).toInt = p0.toInt / 32768 := by rw [ushr_int (by rw [e22]; omega) 1 (1 : Int32) (by decide) (by decide), e22]; omega
          have hy : p0.toInt / 16384 = 1 ∨ p0.toInt / 16384 = 2 ∨ p0.toInt / 16384 = 3 := by omega
          rcases hy with hy | hy | hy
          · refine ⟨14, by decide, ?_, by show ((2 : Int) ^ 14) ≤ _; omega, by show _ < ((2 : Int) ^ (14 + 1)); omega⟩
            have hz : (XT.ushr (XT.ushr (XT.ushr (XT.ushr p0 (8 : Int32)) (4 : Int32)) (2 : Int32)) (1 : Int32)) = (0 : Int32) := Int32.toInt_inj.mp (by rw [e23]; show _ = (0 : Int); omega)
            rw [hz]; decide
          · refine ⟨15, by decide, ?_, by show ((2 : Int) ^ 15) ≤ _; omega, by show _ < ((2 : Int) ^ (15 + 1)); omega⟩
            have hz : (XT.ushr (XT.ushr (XT.ushr (XT.ushr p0 (8 : Int32)) (4 : Int32)) (2 : Int32)) (1 : Int32)) = (1 : Int32) := Int32.toInt_inj.mp (by rw [e23]; show _ = (1 : Int); omega)
            rw [hz]; decide
          · refine ⟨15, by decide, ?_, by show ((2 : Int) ^ 15) ≤ _; omega, by show _ < ((2 : Int) ^ (15 + 1)); omega⟩
            have hz : (XT.ushr (XT.ushr (XT.ushr (XT.ushr p0 (8 : Int32)) (4 : Int32)) (2 : Int32)) (1 : Int32)) = (1 : Int32) := Int32.toInt_inj.mp (by rw [e23]; show _ = (1 : Int); omega)
            rw [hz]; decide
  · rw [if_neg c1]
    rw [Int32.lt_iff_toInt_lt, l65536] at c1
    have e25 : (XT.ushr p0 (16 : Int32)).toInt = p0.toInt / 65536 := by rw [ushr_int (by omega) 16 (16 : Int32) (by decide) (by decide)]; omega
    rcases Decidable.em ((XT.ushr p0 (16 : Int32)) < (256 : Int32)) with c24 | c24
    · rw [if_pos c24]
      rw [Int32.lt_iff_toInt_lt, l256, e25] at c24
      rcases Decidable.em ((XT.ushr p0 (16 : Int32)) < (16 : Int32)) with c26 | c26
      · rw [if_pos c26]
        rw [Int32.lt_iff_toInt_lt, l16, e25] at c26
        rcases Decidable.em ((XT.ushr p0 (16 : Int32)) < (4 : Int32)) with c27 | c27
        · rw [if_pos c27]
          rw [Int32.lt_iff_toInt_lt, l4, e25] at c27
          have e28 : (XT.ushr (XT.ushr p0 (16 : Int32)) (1 : Int32)).toInt = p0.toInt / 131072 := by rw [ushr_int (by rw [e25]; omega) 1 (1 : Int32) (by decide) (by decide), e25]; omega
          have hy : p0.toInt / 65536 = 1 ∨ p0.toInt / 65536 = 2 ∨ p0.toInt / 65536 = 3 := by omega
          rcases hy with hy | hy | hy
          · refine ⟨16, by decide, ?_, by show ((2 : Int) ^ 16) ≤ _; omega, by show _ < ((2 : Int) ^ (16 + 1)); omega⟩
            have hz : (XT.ushr (XT.ushr p0 (16 : Int32)) (1 : Int32)) = (0 : Int32) := Int32.toInt_inj.mp (by rw [e28]; show _ = (0 : Int); omega)
            rw [hz]; decide
          · refine ⟨17, by decide, ?_, by show ((2 : Int) ^ 17) ≤ _; omega, by show _ < ((2 : Int) ^ (17 + 1)); omega⟩
            have hz : (XT.ushr (XT.ushr p0 (16 : Int32)) (1 : Int32)) = (1 : Int32) := Int32.toInt_inj.mp (by rw [e28]; show _ = (1 : Int); omega)
            rw [hz]; decide
          · refine ⟨17, by decide, ?_, by show ((2 : Int) ^ 17) ≤ _; omega, by show _ < ((2 : Int) ^ (17 + 1)); omega⟩
            have hz : (XT.ushr (XT.ushr p0 (16 : Int32)) (1 : Int32)) = (1 : Int32) := Int32.toInt_inj.mp (by rw [e28]; show _ = (1 : Int); omega)
            rw [hz]; decide
        · rw [if_neg c27]
          rw [Int32.lt_iff_toInt_lt, l4, e25] at c27
          have e29 : (XT.ushr (XT.ushr p0 (16 : Int32)) (2 : Int32)).toInt = p0.toInt / 262144 := by rw [ushr_int (by rw [e25]; omega) 2 (2 : Int32) (by decide) (by decide), e25]; omega
          have e30 : (XT.ushr (XT.ushr (XT.ushr p0 (16 : Int32)) (2 : Int32)) (1 : Int32)).toInt = p0.toInt / 524288 := by rw [ushr_int (by rw [e29]; omega) 1 (1 : Int32) (by decide) (by decide), e29]; omega
          have hy : p0.toInt / 262144 = 1 ∨ p0.toInt / 262144 = 2 ∨ p0.toInt / 262144 = 3 := by omega
          rcases hy with hy | hy | hy
          · refine ⟨18, by decide, ?_, by show ((2 : Int) ^ 18) ≤ _; omega, by show _ < ((2 : Int) ^ (18 + 1)); omega⟩
            have hz : (XT.ushr (XT.ushr (XT.ushr p0 (16 : Int32)) (2 : Int32)) (1 : Int32)) = (0 : Int32) := Int32.toInt_inj.mp (by rw [e30]; show _ = (0 : Int); omega)
            rw [hz]; decide
          · refine ⟨19, by decide, ?_, by show ((2 : Int) ^ 19) ≤ _; omega, by show _ < ((2 : Int) ^ (19 + 1)); omega⟩
            have hz : (XT.ushr (XT.ushr (XT.ushr p0 (16 : Int32)) (2 : Int32)) (1 : Int32)) = (1 : Int32) := Int32.toInt_inj.mp (by rw [e30]; show _ = (1 : Int); omega)
            rw [hz]; decide
          · refine ⟨19, by decide, ?_, by show ((2 : Int) ^ 19) ≤ _; omega, by show _ < ((2 : Int) ^ (19 + 1)); omega⟩
            have hz : (XT.ushr (XT.ushr (XT.ushr p0 (16 : Int32)) (2 : Int32)) (1 : Int32)) = (1 : Int32) := Int32.toInt_inj.mp (by rw [e30]; show _ = (1 : Int); omega)
            rw [hz]; decide
      · rw [if_neg c26]
        rw [Int32.lt_iff_toInt_lt, l16, e25] at c26
        have e32 : (XT.ushr (XT.ushr p0 (16 : Int32)) (4 : Int32)).toInt = p0.toInt / 1048576 := by rw [ushr_int (by rw [e25]; omega) 4 (4 : Int32) (by decide) (by decide), e25]; omega
        rcases Decidable.em ((XT.ushr (XT.ushr p0 (16 : Int32)) (4 : Int32)) < (4 : Int32)) with c31 | c31
        · rw [if_pos c31]
          rw [Int32.lt_iff_toInt_lt, l4, e32] at c31
          have e33 : (XT.ushr (XT.ushr (XT.ushr p0 (16 : Int32)) (4 : Int32)) (1 : Int32)).toInt = p0.toInt / 2097152 := by rw [ushr_int (by rw [e32]; omega) 1 (1 : Int32) (by decide) (by decide), e32]; omega
          have hy : p0.toInt / 1048576 = 1 ∨ p0.toInt / 1048576 = 2 ∨ p0.toInt / 1048576 = 3 := by omega
          rcases hy with hy | hy | hy
          · refine ⟨20, by decide, ?_, by show ((2 : Int) ^ 20) ≤ _; omega, by show _ < ((2 : Int) ^ (20 + 1)); omega⟩
            have hz : (XT.ushr (XT.ushr (XT.ushr p0 (16 : Int32)) (4 : Int32)) (1 : Int32)) = (0 : Int32) := Int32.toInt_inj.mp (by rw [e33]; show _ = (0 : Int); omega)
            rw [hz]; decide
          · refine ⟨21, by decide, ?_, by show ((2 : Int) ^ 21) ≤ _; omega, by show _ < ((2 : Int) ^ (21 + 1)); omega⟩
            have hz : (XT.ushr (XT.ushr (XT.ushr p0 (16 : Int32)) (4 : Int32)) (1 : Int32)) = (1 : Int32) := Int32.toInt_inj.mp (by rw [e33]; show _ = (1 : Int); omega)
            rw [hz]; decide
          · refine ⟨21, by decide, ?_, by show ((2 : Int) ^ 21) ≤ _; omega, by show _ < ((2 : Int) ^ (21 + 1)); omega⟩
            have hz : (XT.ushr (XT.ushr (XT.ushr p0 (16 : Int32)) (4 : Int32)) (1 : Int32)) = (1 : Int32) := Int32.toInt_inj.mp (by rw [e33]; show _ = (1 : Int); omega)
            rw [hz]; decide
        · rw [if_neg c31]
          rw [Int32.lt_iff_toInt_lt, l4, e32] at c31
          have e34 : (XT.ushr (XT.ushr (XT.ushr p0 (16 : Int32)) (4 : Int32)) (2 : Int32)).toInt = p0.toInt / 4194304 := by rw [ushr_int (by rw [e32]; omega) 2 (2 : Int32) (by decide) (by decide), e32]; omega
          have e35 : (XT.ushr (XT.ushr (XT.ushr (XT.ushr p0 (16 : Int32)) (4 : Int32)) (2 : Int32)) (1 : Int32)).toInt = p0.toInt / 8388608 := by rw [ushr_int (by rw [e34]; omega) 1 (1 : Int32) (by decide) (by decide), e34]; omega
          have hy : p0.toInt / 4194304 = 1 ∨ p0.toInt / 4194304 = 2 ∨ p0.toInt / 4194304 = 3 := by omega
          rcases hy with hy | hy | hy
          · refine ⟨22, by decide, ?_, by show ((2 : Int) ^ 22) ≤ _; omega, by show _ < ((2 : Int) ^ (22 + 1)); omega⟩
            have hz : (XT.ushr (XT.ushr (XT.ushr (XT.ushr p0 (16 : Int32)) (4 : Int32)) (2 : Int32)) (1 : Int32)) = (0 : Int32) := Int32.toInt_inj.mp (by rw [e35]; show _ = (0 : Int); omega)
            rw [hz]; decide
          · refine ⟨23, by decide, ?_, by show ((2 : Int) ^ 23) ≤ _; omega, by show _ < ((2 : Int) ^ (23 + 1)); omega⟩
            have hz : (XT.ushr (XT.ushr (XT.ushr (XT.ushr p0 (16 : Int32)) (4 : Int32)) (2 : Int32)) (1 : Int32)) = (1 : Int32) := Int32.toInt_inj.mp (by rw [e35]; show _ = (1 : Int); omega)
            rw [hz]; decide
          · refine ⟨23, by decide, ?_, by show ((2 : Int) ^ 23) ≤ _; omega, by show _ < ((2 : Int) ^ (23 + 1)); omega⟩
            have hz : (XT.ushr (XT.ushr (XT.ushr (XT.ushr p0 (16 : Int32)) (4 : Int32)) (2 : Int32)) (1 : Int32)) = (1 : Int32) := Int32.toInt_inj.mp (by rw [e35]; show _ = (1 : Int); omega)
            rw [hz]; decide
    · rw [if_neg c24]
      rw [Int32.lt_iff_toInt_lt, l256, e25] at c24
      have e37 : (XT.ushr (XT.ushr p0 (16 : Int32)) (8 : Int32)).toInt = p0.toInt / 16777216 := by rw [ushr_int (by rw [e25]; omega) 8 (8 : Int32) (by decide) (by decide), e25]; omega
      rcases Decidable.em ((XT.ushr (XT.ushr p0 (16 : Int32)) (8 : Int32)) < (16 : Int32)) with c36 | c36
      · rw [if_pos c36]
        rw [Int32.lt_iff_toInt_lt, l16, e37] at c36
        rcases Decidable.em ((XT.ushr (XT.ushr p0 (16 : Int32)) (8 : Int32)) < (4 : Int32)) with c38 | c38
        · rw [if_pos c38]
          rw [Int32.lt_iff_toInt_lt, l4, e37] at c38
          have e39 : (XT.ushr (XT.ushr (XT.ushr p0 (16 : Int32)) (8 : Int32)) (1 : Int32)).toInt = p0.toInt / 33554432 := by rw [ushr_int (by rw [e37]; omega) 1 (1 : Int32) (by decide) (by decide), e37]; omega
          have hy : p0.toInt / 16777216 = 1 ∨ p0.toInt / 16777216 = 2 ∨ p0.toInt / 16777216 = 3 := by omega
          rcases hy with hy | hy | hy
          · refine ⟨24, by decide, ?_, by show ((2 : Int) ^ 24) ≤ _; omega, by show _ < ((2 : Int) ^ (24 + 1)); omega⟩
            have hz : (XT.ushr (XT.ushr (XT.ushr p0 (16 : Int32)) (8 : Int32)) (1 : Int32)) = (0 : Int32) := Int32.toInt_inj.mp (by rw [e39]; show _ = (0 : Int); omega)
            rw [hz]; decide
          · refine ⟨25, by decide, ?_, by show ((2 : Int) ^ 25) ≤ _; omega, by show _ < ((2 : Int) ^ (25 + 1)); omega⟩
            have hz : (XT.ushr (XT.ushr (XT.ushr p0 (16 : Int32)) (8 : Int32)) (1 : Int32)) = (1 : Int32) := Int32.toInt_inj.mp (by rw [e39]; show _ = (1 : Int); omega)
            rw [hz]; decide
          · refine ⟨25, by decide, ?_, by show ((2 : Int) ^ 25) ≤ _; omega, by show _ < ((2 : Int) ^ (25 + 1)); omega⟩
            have hz : (XT.ushr (XT.ushr (XT.ushr p0 (16 : Int32)) (8 : Int32)) (1 : Int32)) = (1 : Int32) := Int32.toInt_inj.mp (by rw [e39]; show _ = (1 : Int); omega)
            rw [hz]; decide
        · rw [if_neg c38]
          rw [Int32.lt_iff_toInt_lt, l4, e37] at c38
          have e40 : (XT.ushr (XT.ushr (XT.ushr p0 (16 : Int32)) (8 : Int32)) (2 : Int32)).toInt = p0.toInt / 67108864 := by rw [ushr_int (by rw [e37]; omega) 2 (2 : Int32) (by decide) (by decide), e37]; omega
          have e41 : (XT.ushr (XT.ushr (XT.ushr (XT.ushr p0 (16 : Int32)) (8 : Int32)) (2 : Int32)) (1 : Int32)).toInt = p0.toInt / 134217728 := by rw [ushr_int (by rw [e40]; omega) 1 (1 : Int32) (by decide) (by decide), e40]; omega
          have hy : p0.toInt / 67108864 = 1 ∨ p0.toInt / 67108864 = 2 ∨ p0.toInt / 67108864 = 3 := by omega
          rcases hy with hy | hy | hy
          · refine ⟨26, by decide, ?_, by show ((2 : Int) ^ 26) ≤ _; omega, by show _ < ((2 : Int) ^ (26 + 1)); omega⟩
            have hz : (XT.ushr (XT.ushr (XT.ushr (XT.ushr p0 (16 : Int32)) (8 : Int32)) (2 : Int32)) (1 : Int32)) = (0 : Int32) := Int32.toInt_inj.mp (by rw [e41]; show _ = (0 : Int); omega)
            rw [hz]; decide
          · refine ⟨27, by decide, ?_, by show ((2 : Int) ^ 27) ≤ _; omega, by show _ < ((2 : Int) ^ (27 + 1)); omega⟩
            have hz : (XT.ushr (XT.ushr (XT.ushr (XT.ushr p0 (16 : Int32)) (8 : Int32)) (2 : Int32)) (1 : Int32)) = (1 : Int32) := Int32.toInt_inj.mp (by rw [e41]; show _ = (1 : Int); omega)
            rw [hz]; decide
          · refine ⟨27, by decide, ?_, by show ((2 : Int) ^ 27) ≤ _; omega, by show _ < ((2 : Int) ^ (27 + 1)); omega⟩
            have hz : (XT.ushr (XT.ushr (XT.ushr (XT.ushr p0 (16 : Int32)) (8 : Int32)) (2 : Int32)) (1 : Int32)) = (1 : Int32) := Int32.toInt_inj.mp (by rw [e41]; show _ = (1 : Int); omega)
            rw [hz]; decide
      · rw [if_neg c36]
        rw [Int32.lt_iff_toInt_lt, l16, e37] at c36
        have e43 : (XT.ushr (XT.ushr (XT.ushr p0 (16 : Int32)) (8 : Int32)) (4 : Int32)).toInt = p0.toInt / 268435456 := by rw [ushr_int (by rw [e37]; omega) 4 (4 : Int32) (by decide) (by decide), e37]; omega
        rcases Decidable.em ((XT.ushr (XT.ushr (XT.ushr p0 (16 : Int32)) (8 : Int32)) (4 : Int32)) < (4 : Int32)) with c42 | c42
        · rw [if_pos c42]
          rw [Int32.lt_iff_toInt_lt, l4, e43] at c42
          have e44 : (XT.ushr (XT.ushr (XT.ushr (XT.ushr p0 (16 : Int32)) (8 : Int32)) (4 : Int32)) (1 : Int32)).toInt = p0.toInt / 536870912 := by rw [ushr_int (by rw [e43]; omega) 1 (1 : Int32) (by decide) (by decide), e43]; omega
          have hy : p0.toInt / 268435456 = 1 ∨ p0.toInt / 268435456 = 2 ∨ p0.toInt / 268435456 = 3 := by omega
          rcases hy with hy | hy | hy
          · refine ⟨28, by decide, ?_, by show ((2 : Int) ^ 28) ≤ _; omega, by show _ < ((2 : Int) ^ (28 + 1)); omega⟩
            have hz : (XT.ushr (XT.ushr (XT.ushr (XT.ushr p0 (16 : Int32)) (8 : Int32)) (4 : Int32)) (1 : Int32)) = (0 : Int32) := Int32.toInt_inj.mp (by rw [e44]; show _ = (0 : Int); omega)
            rw [hz]; decide
          · refine ⟨29, by decide, ?_, by show ((2 : Int) ^ 29) ≤ _; omega, by show _ < ((2 : Int) ^ (29 + 1)); omega⟩
            have hz : (XT.ushr (XT.ushr (XT.ushr (XT.ushr p0 (16 : Int32)) (8 : Int32)) (4 : Int32)) (1 : Int32)) = (1 : Int32) := Int32.toInt_inj.mp (by rw [e44]; show _ = (1 : Int); omega)
            rw [hz]; decide
          · refine ⟨29, by decide, ?_, by show ((2 : Int) ^ 29) ≤ _; omega, by show _ < ((2 : Int) ^ (29 + 1)); omega⟩
            have hz : (XT.ushr (XT.ushr (XT.ushr (XT.ushr p0 (16 : Int32)) (8 : Int32)) (4 : Int32)) (1 : Int32)) = (1 : Int32) := Int32.toInt_inj.mp (by rw [e44]; show _ = (1 : Int); omega)
            rw [hz]; decide
        · rw [if_neg c42]
          rw [Int32.lt_iff_toInt_lt, l4, e43] at c42
          have e45 : (XT.ushr (XT.ushr (XT.ushr (XT.ushr p0 (16 : Int32)) (8 : Int32)) (4 : Int32)) (2 : Int32)).toInt = p0.toInt / 1073741824 := by rw [ushr_int (by rw [e43]; omega) 2 (2 : Int32) (by decide) (by decide), e43]; omega
          have e46 : (XT.ushr (XT.ushr (XT.ushr (XT.ushr (XT.ushr p0 (16 : Int32)) (8 : Int32)) (4 : Int32)) (2 : Int32)) (1 : Int32)).toInt = p0.toInt / 2147483648 := by rw [ushr_int (by rw [e45]; omega) 1 (1 : Int32) (by decide) (by decide), e45]; omega
          have hy : p0.toInt / 1073741824 = 1 ∨ p0.toInt / 1073741824 = 2 ∨ p0.toInt / 1073741824 = 3 := by omega
          rcases hy with hy | hy | hy
          · refine ⟨30, by decide, ?_, by show ((2 : Int) ^ 30) ≤ _; omega, by show _ < ((2 : Int) ^ (30 + 1)); omega⟩
            have hz : (XT.ushr (XT.ushr (XT.ushr (XT.ushr (XT.ushr p0 (16 : Int32)) (8 : Int32)) (4 : Int32)) (2 : Int32)) (1 : Int32)) = (0 : Int32) := Int32.toInt_inj.mp (by rw [e46]; show _ = (0 : Int); omega)
            rw [hz]; decide
          · exfalso; have := Int32.toInt_lt p0; omega
          · exfalso; have := Int32.toInt_lt p0; omega
theorem nlz_spec {x : Int32} (h : x ≠ 0) : ∃ t, t < 32 ∧ F_nlz x = Int32.ofNat (31 - t) ∧ bit32 x t = true ∧ ∀ i, t < i → i < 32 → bit32 x i = false := by
  by_cases q : (0 : Int32) < x
  · obtain ⟨t, h1, h2, h3, h4⟩ := nlz_pos q
    have X0 : 0 < x.toInt := by rw [Int32.lt_iff_toInt_lt] at q; exact q
    have e : (x.toBitVec.toNat : Int) = x.toInt := by
      have e1 : x.toInt = x.toBitVec.toInt := rfl
      rw [e1] at X0 ⊢
      rw [BitVec.toInt_eq_toNat_cond] at X0 ⊢
      split at X0
      · rename_i z; rw [if_pos z]
      · have := x.toBitVec.isLt; omega
    have a1 : 2 ^ t ≤ x.toBitVec.toNat := by have : ((2 ^ t : Nat) : Int) ≤ (x.toBitVec.toNat : Int) := by rw [e]; exact_mod_cast h3
                                             exact_mod_cast this
    have a2 : x.toBitVec.toNat < 2 ^ (t + 1) := by have : (x.toBitVec.toNat : Int) < ((2 ^ (t + 1) : Nat) : Int) := by rw [e]; exact_mod_cast h4
                                                   exact_mod_cast this
    refine ⟨t, by omega, h2, ?_, fun i hi _ => ?_⟩
    · show x.toBitVec.toNat.testBit t = true
      rw [Nat.testBit_eq_decide_div_mod_eq]
      have : x.toBitVec.toNat / 2 ^ t = 1 := by
        apply Nat.div_eq_of_lt_le
        · omega
        · rw [Nat.pow_succ] at a2; omega
      rw [this]; rfl
    · show x.toBitVec.toNat.testBit i = false
      exact Nat.testBit_lt_two_pow (Nat.lt_of_lt_of_le a2 (Nat.pow_le_pow_right (by decide) hi))
  · refine ⟨31, by decide, ?_, ?_, fun i h1 h2 => by omega⟩
    · unfold F_nlz; rw [if_neg q, if_neg h]; decide
    · have X0 : x.toInt < 0 := by
        rw [Int32.lt_iff_toInt_lt] at q
        have z : (0 : Int32).toInt = 0 := rfl
        have : x.toInt ≠ 0 := fun z2 => h (Int32.toInt_inj.mp (z2.trans z.symm))
        omega
      have e1 : x.toInt = x.toBitVec.toInt := rfl
      show x.toBitVec.getLsbD 31 = true
      have e : x.toBitVec.msb = true := by rw [BitVec.msb_eq_toInt]; exact decide_eq_true X0
      rw [BitVec.msb_eq_getLsbD_last] at e; exact e
theorem bit_lo (w : Int64) {i : Nat} (h : i < 32) : bit32 (w.toInt32) i = bit w i := by
  show (w.toBitVec.signExtend 32).getLsbD i = w.toBitVec.getLsbD i
  have h1 : i < 64 := by omega
  simp only [BitVec.getLsbD_signExtend, h, h1, decide_true, Bool.true_and, if_true]
theorem bit_hi (w : Int64) {i : Nat} (h : i < 32) : bit32 ((XT.ushrL w (32 : Int32)).toInt32) i = bit w (32 + i) := by
  show ((w.toBitVec >>> 32).signExtend 32).getLsbD i = w.toBitVec.getLsbD (32 + i)
  have h1 : i < 64 := by omega
  simp only [BitVec.getLsbD_signExtend, h, h1, decide_true, Bool.true_and, if_true, BitVec.getLsbD_ushiftRight]
theorem ofNat_add32 : ∀ t, t < 32 → (32 : Int32) + Int32.ofNat t = Int32.ofNat (32 + t) := by decide
theorem lo_zero {w : Int64} (h : w.toInt32 = 0) {i : Nat} (hi : i < 32) : bit w i = false := by
  rw [← bit_lo w hi, h]; simp [bit32]
theorem hi_zero {w : Int64} (h : (XT.ushrL w (32 : Int32)).toInt32 = 0) {i : Nat} (h1 : 32 ≤ i) (hi : i < 64) : bit w i = false := by
  have e := bit_hi w (i := i - 32) (by omega)
  rw [h] at e
  have : 32 + (i - 32) = i := by omega
  rw [this] at e
  rw [← e]; simp [bit32]
theorem ntzL_spec {w : Int64} (h : w ≠ 0) : ∃ t, t < 64 ∧ F_ntzL w = Int32.ofNat t ∧ bit w t = true ∧ ∀ i, i < t → bit w i = false := by
  unfold F_ntzL
  by_cases q : w.toInt32 = (0 : Int32)
  · rw [if_pos q]
    have hn : (XT.ushrL w (32 : Int32)).toInt32 ≠ 0 := fun z => h (bit_zero.mpr fun i hi => by
      by_cases r : i < 32
      · exact lo_zero q r
      · exact hi_zero z (by omega) hi)
    obtain ⟨t, t1, t2, t3, t4⟩ := ntz_spec hn
    refine ⟨32 + t, by omega, by rw [t2, ofNat_add32 t t1], by rw [← bit_hi w t1]; exact t3, fun i hi => ?_⟩
    by_cases r : i < 32
    · exact lo_zero q r
    · have e := bit_hi w (i := i - 32) (by omega)
      rw [t4 _ (by omega)] at e
      have : 32 + (i - 32) = i := by omega
      rw [this] at e
      exact e.symm
  · rw [if_neg q]
    obtain ⟨t, t1, t2, t3, t4⟩ := ntz_spec q
    exact ⟨t, by omega, t2, by rw [← bit_lo w t1]; exact t3, fun i hi => by rw [← bit_lo w (by omega)]; exact t4 i hi⟩
theorem nlz_hi : ∀ t, t < 32 → Int32.ofNat (31 - t) = Int32.ofNat (63 - (32 + t)) := by decide
theorem nlz_lo : ∀ t, t < 32 → (32 : Int32) + Int32.ofNat (31 - t) = Int32.ofNat (63 - t) := by decide
theorem nlzL_spec {w : Int64} (h : w ≠ 0) : ∃ t, t < 64 ∧ F_nlzL w = Int32.ofNat (63 - t) ∧ bit w t = true ∧ ∀ i, t < i → i < 64 → bit w i = false := by
  unfold F_nlzL
  by_cases q : (XT.ushrL w (32 : Int32)).toInt32 = (0 : Int32)
  · rw [if_pos q]
    have hn : w.toInt32 ≠ 0 := fun z => h (bit_zero.mpr fun i hi => by
      by_cases r : i < 32
      · exact lo_zero z r
      · exact hi_zero q (by omega) hi)
    obtain ⟨t, t1, t2, t3, t4⟩ := nlz_spec hn
    refine ⟨t, by omega, by rw [t2, nlz_lo t t1], by rw [← bit_lo w t1]; exact t3, fun i h1 h2 => ?_⟩
    by_cases r : i < 32
    · rw [← bit_lo w r]; exact t4 i h1 r
    · exact hi_zero q (by omega) h2
  · rw [if_neg q]
    obtain ⟨t, t1, t2, t3, t4⟩ := nlz_spec q
    refine ⟨32 + t, by omega, by rw [t2, nlz_hi t t1], by rw [← bit_hi w t1]; exact t3, fun i h1 h2 => ?_⟩
    have e := bit_hi w (i := i - 32) (by omega)
    rw [t4 _ (by omega) (by omega)] at e
    have : 32 + (i - 32) = i := by omega
    rw [this] at e
    exact e.symm
def BInv (wf sf : Nat → Int64) (mem : Nat → Bool) : Prop := (∀ n, n < 8192 → mem n = bit (wf (n / 64)) (n % 64)) ∧ ∀ w, w < 128 → (bit (sf (w / 64)) (w % 64) = true ↔ wf w ≠ 0)
def BS (Z : State) (h : Heap) (a aW aS : Addr) (mem : Nat → Bool) : Prop := ∃ (kW kS : ClassId) (wf sf : Nat → Int64), Fld Z h a "com/example/collate/collate/analysis/Bits" "words" "[J" (.ref aW) ∧ Fld Z h a "com/example/collate/collate/analysis/Bits" "summary" "[J" (.ref aS) ∧ Af Z h aW kW .long 128 (fun i => Value.long (wf i)) ∧ Af Z h aS kS .long 2 (fun i => Value.long (sf i)) ∧ BInv wf sf mem
def memSet (mem : Nat → Bool) (x : Nat) (b : Bool) : Nat → Bool := fun n => if n = x then b else mem n
theorem binv0 : BInv (fun _ => 0) (fun _ => 0) (fun _ => false) := ⟨fun n _ => by simp [bit], fun w _ => by simp [bit]⟩
theorem ush6 {x : Int32} (h : 0 ≤ x.toInt) : 0 ≤ (XT.ushr x (6 : Int32)).toInt ∧ (XT.ushr x (6 : Int32)).toInt = x.toInt / 64 ∧ (XT.ushr x (6 : Int32)).toNatClampNeg = x.toNatClampNeg / 64 := by
  have e := ushr_int h 6 (6 : Int32) (by decide) (by decide)
  have e' : (XT.ushr x (6 : Int32)).toInt = x.toInt / 64 := by rw [e]; omega
  have c := nat_clamp h
  have c2 := nat_clamp (v := XT.ushr x (6 : Int32)) (by omega)
  exact ⟨by omega, e', by omega⟩
theorem b_set {wf sf : Nat → Int64} {mem : Nat → Bool} (B : BInv wf sf mem) {x w : Int32} (x0 : 0 ≤ x.toInt) (x1 : x.toInt < 8192) (gw : w = XT.ushr x (6 : Int32)) :
    BInv (updJ wf w.toNatClampNeg (wf w.toNatClampNeg ||| ((1 : Int64) <<< (x.toInt64 &&& 63)))) (updJ sf (XT.ushr w (6 : Int32)).toNatClampNeg (sf (XT.ushr w (6 : Int32)).toNatClampNeg ||| ((1 : Int64) <<< (w.toInt64 &&& 63)))) (memSet mem x.toNatClampNeg true) := by
  have u1 := ush6 x0
  rw [← gw] at u1
  have u2 := ush6 u1.1
  have cx := nat_clamp x0
  rw [u2.2.2, u1.2.2]
  generalize hN : x.toNatClampNeg = N at *
  have NL : N < 8192 := by omega
  refine ⟨fun n hn => ?_, fun v hv => ?_⟩
  · simp only [memSet, updJ]
    by_cases q : n / 64 = N / 64
    · rw [if_pos q, bit_or, bit_shl1 x0 (Nat.mod_lt _ (by decide)), hN]
      by_cases r : n = N
      · subst r; simp
      · rw [if_neg r, B.1 n hn, q]
        have : ¬ n % 64 = N % 64 := by omega
        simp [this]
    · have r : ¬ n = N := fun z => q (by rw [z])
      rw [if_neg q, if_neg r]; exact B.1 n hn
  · simp only [updJ]
    by_cases q : v = N / 64
    · subst q
      rw [if_pos rfl, if_pos rfl, bit_or, bit_shl1 u1.1 (Nat.mod_lt _ (by decide)), u1.2.2]
      constructor
      · intro _ z
        have := bit_zero.mp z (N % 64) (Nat.mod_lt _ (by decide))
        rw [bit_or, bit_shl1 x0 (Nat.mod_lt _ (by decide)), hN] at this
        simp at this
      · intro _; simp
    · rw [if_neg q]
      by_cases r : v / 64 = N / 64 / 64
      · rw [if_pos r, bit_or, bit_shl1 u1.1 (Nat.mod_lt _ (by decide)), u1.2.2, ← r]
        have : ¬ v % 64 = N / 64 % 64 := by omega
        simp only [this, decide_false, Bool.or_false]
        exact B.2 v hv
      · rw [if_neg r]; exact B.2 v hv
theorem clr_bit {wf : Nat → Int64} {x : Int32} (x0 : 0 ≤ x.toInt) {J i : Nat} (hi : i < 64) : bit (wf J &&& (((1 : Int64) <<< (x.toInt64 &&& 63)) ^^^ (-1 : Int64))) i = (bit (wf J) i && !decide (i = x.toNatClampNeg % 64)) := by
  rw [bit_and, bit_not _ hi, bit_shl1 x0 hi]
theorem b_clr {wf sf : Nat → Int64} {mem : Nat → Bool} (B : BInv wf sf mem) {x w : Int32} (x0 : 0 ≤ x.toInt) (x1 : x.toInt < 8192) (gw : w = XT.ushr x (6 : Int32)) :
    (¬ wf w.toNatClampNeg &&& (((1 : Int64) <<< (x.toInt64 &&& 63)) ^^^ (-1 : Int64)) = 0 → BInv (updJ wf w.toNatClampNeg (wf w.toNatClampNeg &&& (((1 : Int64) <<< (x.toInt64 &&& 63)) ^^^ (-1 : Int64)))) sf (memSet mem x.toNatClampNeg false)) ∧
    (wf w.toNatClampNeg &&& (((1 : Int64) <<< (x.toInt64 &&& 63)) ^^^ (-1 : Int64)) = 0 → BInv (updJ wf w.toNatClampNeg (wf w.toNatClampNeg &&& (((1 : Int64) <<< (x.toInt64 &&& 63)) ^^^ (-1 : Int64)))) (updJ sf (XT.ushr w (6 : Int32)).toNatClampNeg (sf (XT.ushr w (6 : Int32)).toNatClampNeg &&& (((1 : Int64) <<< (w.toInt64 &&& 63)) ^^^ (-1 : Int64)))) (memSet mem x.toNatClampNeg false)) := by
  have u1 := ush6 x0
  rw [← gw] at u1
  have u2 := ush6 u1.1
  have cx := nat_clamp x0
  rw [u2.2.2, u1.2.2]
  have NL : x.toNatClampNeg < 8192 := by omega
  have part1 : ∀ n, n < 8192 → memSet mem x.toNatClampNeg false n = bit (updJ wf (x.toNatClampNeg / 64) (wf (x.toNatClampNeg / 64) &&& (((1 : Int64) <<< (x.toInt64 &&& 63)) ^^^ (-1 : Int64))) (n / 64)) (n % 64) := by
    intro n hn
    simp only [memSet, updJ]
    by_cases q : n / 64 = x.toNatClampNeg / 64
    · rw [if_pos q, clr_bit x0 (Nat.mod_lt _ (by decide))]
      by_cases r : n = x.toNatClampNeg
      · rw [if_pos r, r]; simp
      · rw [if_neg r, B.1 n hn, q]
        have : ¬ n % 64 = x.toNatClampNeg % 64 := by omega
        simp [this]
    · have r : ¬ n = x.toNatClampNeg := fun z => q (by rw [z])
      rw [if_neg q, if_neg r]; exact B.1 n hn
  constructor
  · intro hz
    refine ⟨part1, fun v hv => ?_⟩
    simp only [updJ]
    by_cases q : v = x.toNatClampNeg / 64
    · subst q
      rw [if_pos rfl]
      refine ⟨fun _ => hz, fun _ => (B.2 _ hv).mpr fun z => hz ?_⟩
      rw [z]
      exact bit_zero.mpr fun i hi => by rw [bit_and]; simp [bit]
    · rw [if_neg q]; exact B.2 v hv
  · intro hz
    refine ⟨part1, fun v hv => ?_⟩
    simp only [updJ]
    by_cases q : v = x.toNatClampNeg / 64
    · subst q
      rw [if_pos rfl, if_pos rfl, clr_bit (wf := sf) u1.1 (Nat.mod_lt _ (by decide)), u1.2.2, hz]
      simp
    · rw [if_neg q]
      by_cases r : v / 64 = x.toNatClampNeg / 64 / 64
      · rw [if_pos r, clr_bit (wf := sf) u1.1 (Nat.mod_lt _ (by decide)), u1.2.2, ← r]
        have : ¬ v % 64 = x.toNatClampNeg / 64 % 64 := by omega
        simp only [this, decide_false, Bool.not_false, Bool.and_true]
        exact B.2 v hv
      · rw [if_neg r]; exact B.2 v hv
theorem b_get {wf sf : Nat → Int64} {mem : Nat → Bool} (B : BInv wf sf mem) {x : Int32} (x0 : 0 ≤ x.toInt) (x1 : x.toInt < 8192) : wf (XT.ushr x (6 : Int32)).toNatClampNeg &&& ((1 : Int64) <<< (x.toInt64 &&& 63)) = 0 ↔ mem x.toNatClampNeg = false := by
  have u1 := ush6 x0
  have cx := nat_clamp x0
  rw [u1.2.2, B.1 _ (by omega), bit_zero]
  constructor
  · intro h
    have := h (x.toNatClampNeg % 64) (Nat.mod_lt _ (by decide))
    rw [bit_and, bit_shl1 x0 (Nat.mod_lt _ (by decide))] at this
    simpa using this
  · intro h i hi
    rw [bit_and, bit_shl1 x0 hi]
    by_cases q : i = x.toNatClampNeg % 64
    · rw [q, h]; simp
    · simp [q]
def NW (wf : Nat → Int64) (f : Nat) (r : Int32) : Prop := (r = -1 ∧ ∀ w, f ≤ w → w < 128 → wf w = 0) ∨ ∃ k, r = Int32.ofNat k ∧ f ≤ k ∧ k < 128 ∧ wf k ≠ 0 ∧ ∀ w, f ≤ w → w < k → wf w = 0
def NS' (mem : Nat → Bool) (f : Nat) (r : Int32) : Prop := (r = -1 ∧ ∀ n, f ≤ n → n < 8192 → mem n = false) ∨ ∃ k, r = Int32.ofNat k ∧ f ≤ k ∧ k < 8192 ∧ mem k = true ∧ ∀ n, f ≤ n → n < k → mem n = false
def PW (wf : Nat → Int64) (f : Int) (r : Int32) : Prop := (r = -1 ∧ ∀ w : Nat, (w : Int) ≤ f → w < 128 → wf w = 0) ∨ ∃ k : Nat, r = Int32.ofNat k ∧ (k : Int) ≤ f ∧ k < 128 ∧ wf k ≠ 0 ∧ ∀ w : Nat, (w : Int) ≤ f → k < w → wf w = 0
def PS (mem : Nat → Bool) (f : Nat) (r : Int32) : Prop := (r = -1 ∧ ∀ n, n ≤ f → mem n = false) ∨ ∃ k, r = Int32.ofNat k ∧ k ≤ f ∧ mem k = true ∧ ∀ n, n ≤ f → k < n → mem n = false
theorem on_int {n : Nat} (h : n < 2 ^ 31) : (Int32.ofNat n).toInt = n := Int32.toInt_ofNat_small (by omega)
theorem v_up {w : Int32} {t : Nat} (w0 : 0 ≤ w.toInt) (w1 : w.toInt < 128) (ht : t < 64) : (w <<< ((6 : Int32) &&& 31)) + Int32.ofNat t = Int32.ofNat (64 * w.toNatClampNeg + t) := by
  have c := nat_clamp w0
  have e1 : (w <<< ((6 : Int32) &&& 31)).toInt = w.toInt * 2 ^ 6 := Jvm.Kit.i32_shl _ _ (k := 6) (by decide) (by omega) (by omega)
  have e2 := on_int (n := t) (by omega)
  apply Int32.toInt_inj.mp
  rw [Jvm.Kit.i32_add (by omega) (by omega), e1, e2, on_int (by omega)]
  omega
theorem v_down {w : Int32} {t : Nat} (w0 : 0 ≤ w.toInt) (w1 : w.toInt < 128) (ht : t < 64) : ((w <<< ((6 : Int32) &&& 31)) + (63 : Int32)) - Int32.ofNat (63 - t) = Int32.ofNat (64 * w.toNatClampNeg + t) := by
  have c := nat_clamp w0
  have e1 : (w <<< ((6 : Int32) &&& 31)).toInt = w.toInt * 2 ^ 6 := Jvm.Kit.i32_shl _ _ (k := 6) (by decide) (by omega) (by omega)
  have e3 : ((w <<< ((6 : Int32) &&& 31)) + (63 : Int32)).toInt = w.toInt * 64 + 63 := (Jvm.Kit.i32_add (by rw [e1]; show _ ≤ _ + 63; omega) (by rw [e1]; show _ + 63 < _; omega)).trans (by rw [e1]; rfl)
  have e2 := on_int (n := 63 - t) (by omega)
  apply Int32.toInt_inj.mp
  rw [Jvm.Kit.i32_sub (by omega) (by omega), e3, e2, on_int (by omega)]
  omega
theorem on_add : ∀ t, t < 64 → (0 : Int32) + Int32.ofNat t = Int32.ofNat t := by decide
theorem on_add64 : ∀ t, t < 64 → (64 : Int32) + Int32.ofNat t = Int32.ofNat (64 + t) := by decide
theorem on_sub63 : ∀ t, t < 64 → (63 : Int32) - Int32.ofNat (63 - t) = Int32.ofNat t := by decide
theorem on_sub127 : ∀ t, t < 64 → (127 : Int32) - Int32.ofNat (63 - t) = Int32.ofNat (64 + t) := by decide
def SI (wf sf : Nat → Int64) : Prop := ∀ w, w < 128 → (bit (sf (w / 64)) (w % 64) = true ↔ wf w ≠ 0)
theorem si_f {wf sf : Nat → Int64} (H : SI wf sf) {w : Nat} (hw : w < 128) (h : bit (sf (w / 64)) (w % 64) = false) : wf w = 0 := by
  by_cases q : wf w = 0
  · exact q
  · rw [(H w hw).mpr q] at h; cases h
theorem nw_a {wf sf : Nat → Int64} (H : SI wf sf) {p : Int32} {bs : Int64} (p0 : 0 ≤ p.toInt) (p1 : p.toNatClampNeg < 64) (g : bs = sf 0 &&& ((-1 : Int64) <<< (p.toInt64 &&& 63))) (h : ¬ bs = 0) : NW wf p.toNatClampNeg ((0 : Int32) + F_ntzL bs) := by
  obtain ⟨t, t1, t2, t3, t4⟩ := ntzL_spec h
  have b : ∀ i, i < 64 → bit bs i = (bit (sf 0) i && decide (p.toNatClampNeg ≤ i)) := fun i hi => by rw [g, bit_and, bit_shlm p0 hi, Nat.mod_eq_of_lt p1]
  rw [b t t1] at t3
  simp only [Bool.and_eq_true, decide_eq_true_eq] at t3
  refine Or.inr ⟨t, by rw [t2, on_add t t1], t3.2, by omega, (H t (by omega)).mp ?_, fun w h1 h2 => si_f H (by omega) ?_⟩
  · have e1 : t / 64 = 0 := by omega
    have e2 : t % 64 = t := by omega
    rw [e1, e2]; exact t3.1
  · have e1 : w / 64 = 0 := by omega
    have e2 : w % 64 = w := by omega
    have := t4 w h2
    rw [b w (by omega)] at this
    rw [e1, e2]
    simpa [h1] using this
theorem bs_zero0 {wf sf : Nat → Int64} (H : SI wf sf) {p : Int32} {bs : Int64} {k : Nat} (hk : k < 2) (p0 : 0 ≤ p.toInt) (p1 : p.toNatClampNeg / 64 = k) (g : bs = sf k &&& ((-1 : Int64) <<< (p.toInt64 &&& 63))) (h : bs = 0) : ∀ w, p.toNatClampNeg ≤ w → w < 64 * k + 64 → wf w = 0 := by
  intro w h1 h2
  have := bit_zero.mp h (w % 64) (Nat.mod_lt _ (by decide))
  rw [g, bit_and, bit_shlm p0 (Nat.mod_lt _ (by decide))] at this
  refine si_f H (by omega) ?_
  have e1 : w / 64 = k := by omega
  rw [e1]
  have e2 : p.toNatClampNeg % 64 ≤ w % 64 := by omega
  simpa [e2] using this
theorem nw_b {wf sf : Nat → Int64} (H : SI wf sf) {p : Int32} {bs : Int64} (p0 : 0 ≤ p.toInt) (p1 : p.toNatClampNeg < 64) (g : bs = sf 0 &&& ((-1 : Int64) <<< (p.toInt64 &&& 63))) (h : bs = 0) (h1 : ¬ sf 1 = 0) : NW wf p.toNatClampNeg ((64 : Int32) + F_ntzL (sf 1)) := by
  obtain ⟨t, t1, t2, t3, t4⟩ := ntzL_spec h1
  have z := bs_zero0 H (k := 0) (by decide) p0 (by omega) g h
  refine Or.inr ⟨64 + t, by rw [t2, on_add64 t t1], by omega, by omega, (H _ (by omega)).mp ?_, fun w a1 a2 => ?_⟩
  · have e1 : (64 + t) / 64 = 1 := by omega
    have e2 : (64 + t) % 64 = t := by omega
    rw [e1, e2]; exact t3
  · by_cases q : w < 64
    · exact z w a1 (by omega)
    · refine si_f H (by omega) ?_
      have e1 : w / 64 = 1 := by omega
      have e2 : w % 64 = w - 64 := by omega
      rw [e1, e2]; exact t4 _ (by omega)
theorem w_zero {wf sf : Nat → Int64} (H : SI wf sf) {k : Nat} (hk : k < 2) (h : sf k = 0) : ∀ w, 64 * k ≤ w → w < 64 * k + 64 → wf w = 0 := by
  intro w h1 h2
  refine si_f H (by omega) ?_
  have e1 : w / 64 = k := by omega
  rw [e1]; exact bit_zero.mp h _ (Nat.mod_lt _ (by decide))
theorem nw_c {wf sf : Nat → Int64} (H : SI wf sf) {p : Int32} {bs : Int64} (p0 : 0 ≤ p.toInt) (p1 : p.toNatClampNeg < 64) (g : bs = sf 0 &&& ((-1 : Int64) <<< (p.toInt64 &&& 63))) (h : bs = 0) (h1 : sf 1 = 0) : NW wf p.toNatClampNeg (-1) := by
  have z := bs_zero0 H (k := 0) (by decide) p0 (by omega) g h
  have z1 := w_zero H (k := 1) (by decide) h1
  exact Or.inl ⟨rfl, fun w a1 a2 => by
    by_cases q : w < 64
    · exact z w a1 (by omega)
    · exact z1 w (by omega) (by omega)⟩
theorem nw_d {wf sf : Nat → Int64} (H : SI wf sf) {p : Int32} {bs : Int64} (p0 : 0 ≤ p.toInt) (p1 : 64 ≤ p.toNatClampNeg) (p2 : p.toNatClampNeg < 128) (g : bs = sf 1 &&& ((-1 : Int64) <<< (p.toInt64 &&& 63))) (h : ¬ bs = 0) : NW wf p.toNatClampNeg ((64 : Int32) + F_ntzL bs) := by
  obtain ⟨t, t1, t2, t3, t4⟩ := ntzL_spec h
  have b : ∀ i, i < 64 → bit bs i = (bit (sf 1) i && decide (p.toNatClampNeg % 64 ≤ i)) := fun i hi => by rw [g, bit_and, bit_shlm p0 hi]
  rw [b t t1] at t3
  simp only [Bool.and_eq_true, decide_eq_true_eq] at t3
  refine Or.inr ⟨64 + t, by rw [t2, on_add64 t t1], by omega, by omega, (H _ (by omega)).mp ?_, fun w a1 a2 => si_f H (by omega) ?_⟩
  · have e1 : (64 + t) / 64 = 1 := by omega
    have e2 : (64 + t) % 64 = t := by omega
    rw [e1, e2]; exact t3.1
  · have e1 : w / 64 = 1 := by omega
    have e2 : w % 64 = w - 64 := by omega
    have := t4 (w - 64) (by omega)
    rw [b _ (by omega)] at this
    rw [e1, e2]
    have e3 : p.toNatClampNeg % 64 ≤ w - 64 := by omega
    simpa [e3] using this
theorem nw_e {wf sf : Nat → Int64} (H : SI wf sf) {p : Int32} {bs : Int64} (p0 : 0 ≤ p.toInt) (p1 : 64 ≤ p.toNatClampNeg) (p2 : p.toNatClampNeg < 128) (g : bs = sf 1 &&& ((-1 : Int64) <<< (p.toInt64 &&& 63))) (h : bs = 0) : NW wf p.toNatClampNeg (-1) :=
  Or.inl ⟨rfl, fun w a1 a2 => bs_zero0 H (k := 1) (by decide) p0 (by omega) g h w a1 (by omega)⟩
theorem pbs {sf : Nat → Int64} {p : Int32} {bs : Int64} {k : Nat} (p0 : 0 ≤ p.toInt) (g : bs = sf k &&& (XT.ushrL (-1 : Int64) ((63 : Int32) - (p &&& (63 : Int32))))) {i : Nat} (hi : i < 64) : bit bs i = (bit (sf k) i && decide (i ≤ p.toNatClampNeg % 64)) := by rw [g, bit_and, bit_ushrm p0 hi]
theorem pw_here {wf sf : Nat → Int64} (H : SI wf sf) {p : Int32} {bs : Int64} {k : Nat} (hk : k < 2) (p0 : 0 ≤ p.toInt) (p1 : p.toNatClampNeg / 64 = k) (g : bs = sf k &&& (XT.ushrL (-1 : Int64) ((63 : Int32) - (p &&& (63 : Int32))))) (h : ¬ bs = 0) {v : Int32} (hv : ∀ t, t < 64 → F_nlzL bs = Int32.ofNat (63 - t) → v = Int32.ofNat (64 * k + t)) : PW wf p.toInt v := by
  have cp := nat_clamp p0
  obtain ⟨t, t1, t2, t3, t4⟩ := nlzL_spec h
  rw [pbs p0 g t1] at t3
  simp only [Bool.and_eq_true, decide_eq_true_eq] at t3
  refine Or.inr ⟨64 * k + t, hv t t1 t2, by omega, by omega, (H _ (by omega)).mp ?_, fun w a1 a2 => si_f H (by omega) ?_⟩
  · have e1 : (64 * k + t) / 64 = k := by omega
    have e2 : (64 * k + t) % 64 = t := by omega
    rw [e1, e2]; exact t3.1
  · have e1 : w / 64 = k := by omega
    have := t4 (w % 64) (by omega) (by omega)
    rw [pbs p0 g (by omega)] at this
    rw [e1]
    have e3 : w % 64 ≤ p.toNatClampNeg % 64 := by omega
    simpa [e3] using this
theorem pbs_zero {wf sf : Nat → Int64} (H : SI wf sf) {p : Int32} {bs : Int64} {k : Nat} (hk : k < 2) (p0 : 0 ≤ p.toInt) (p1 : p.toNatClampNeg / 64 = k) (g : bs = sf k &&& (XT.ushrL (-1 : Int64) ((63 : Int32) - (p &&& (63 : Int32))))) (h : bs = 0) : ∀ w : Nat, (w : Int) ≤ p.toInt → 64 * k ≤ w → wf w = 0 := by
  intro w h1 h2
  have cp := nat_clamp p0
  have := bit_zero.mp h (w % 64) (Nat.mod_lt _ (by decide))
  rw [pbs p0 g (Nat.mod_lt _ (by decide))] at this
  refine si_f H (by omega) ?_
  have e1 : w / 64 = k := by omega
  rw [e1]
  have e2 : w % 64 ≤ p.toNatClampNeg % 64 := by omega
  simpa [e2] using this
theorem pw_b {wf sf : Nat → Int64} (H : SI wf sf) {p : Int32} {bs : Int64} (p0 : 0 ≤ p.toInt) (p1 : p.toNatClampNeg / 64 = 1) (g : bs = sf 1 &&& (XT.ushrL (-1 : Int64) ((63 : Int32) - (p &&& (63 : Int32))))) (h : bs = 0) (h1 : ¬ sf 0 = 0) : PW wf p.toInt ((63 : Int32) - F_nlzL (sf 0)) := by
  have cp := nat_clamp p0
  obtain ⟨t, t1, t2, t3, t4⟩ := nlzL_spec h1
  have z := pbs_zero H (k := 1) (by decide) p0 p1 g h
  refine Or.inr ⟨t, by rw [t2, on_sub63 t t1], by omega, by omega, (H _ (by omega)).mp ?_, fun w a1 a2 => ?_⟩
  · have e1 : t / 64 = 0 := by omega
    have e2 : t % 64 = t := by omega
    rw [e1, e2]; exact t3
  · by_cases q : w < 64
    · refine si_f H (by omega) ?_
      have e1 : w / 64 = 0 := by omega
      have e2 : w % 64 = w := by omega
      rw [e1, e2]; exact t4 _ a2 (by omega)
    · exact z w a1 (by omega)
theorem pw_c {wf sf : Nat → Int64} (H : SI wf sf) {p : Int32} {bs : Int64} (p0 : 0 ≤ p.toInt) (p1 : p.toNatClampNeg / 64 = 1) (g : bs = sf 1 &&& (XT.ushrL (-1 : Int64) ((63 : Int32) - (p &&& (63 : Int32))))) (h : bs = 0) (h1 : sf 0 = 0) : PW wf p.toInt (-1) := by
  have z := pbs_zero H (k := 1) (by decide) p0 p1 g h
  have z1 := w_zero H (k := 0) (by decide) h1
  exact Or.inl ⟨rfl, fun w a1 a2 => by
    by_cases q : w < 64
    · exact z1 w (by omega) (by omega)
    · exact z w a1 (by omega)⟩
theorem pw_e {wf sf : Nat → Int64} (H : SI wf sf) {p : Int32} {bs : Int64} (p0 : 0 ≤ p.toInt) (p1 : p.toNatClampNeg / 64 = 0) (g : bs = sf 0 &&& (XT.ushrL (-1 : Int64) ((63 : Int32) - (p &&& (63 : Int32))))) (h : bs = 0) : PW wf p.toInt (-1) :=
  Or.inl ⟨rfl, fun w a1 a2 => pbs_zero H (k := 0) (by decide) p0 p1 g h w a1 (by omega)⟩
theorem nw_neg {wf : Nat → Int64} {f : Nat} {r : Int32} (N : NW wf f r) (h : r < (0 : Int32)) : ∀ w, f ≤ w → w < 128 → wf w = 0 := by
  rcases N with ⟨-, q⟩ | ⟨k, rfl, h1, h2, -⟩
  · exact q
  · rw [Int32.lt_iff_toInt_lt, on_int (by omega)] at h
    exact absurd h (by show ¬ _ < (0 : Int); omega)
theorem nw_pos {wf : Nat → Int64} {f : Nat} {r : Int32} (N : NW wf f r) (h : ¬ r < (0 : Int32)) : ∃ k, r = Int32.ofNat k ∧ f ≤ k ∧ k < 128 ∧ wf k ≠ 0 ∧ ∀ w, f ≤ w → w < k → wf w = 0 := by
  rcases N with ⟨rfl, q⟩ | q
  · exact absurd (by decide) h
  · exact q
theorem pw_neg {wf : Nat → Int64} {f : Int} {r : Int32} (N : PW wf f r) (h : r < (0 : Int32)) : ∀ w : Nat, (w : Int) ≤ f → w < 128 → wf w = 0 := by
  rcases N with ⟨-, q⟩ | ⟨k, rfl, h1, h2, -⟩
  · exact q
  · rw [Int32.lt_iff_toInt_lt, on_int (by omega)] at h
    exact absurd h (by show ¬ _ < (0 : Int); omega)
theorem pw_pos {wf : Nat → Int64} {f : Int} {r : Int32} (N : PW wf f r) (h : ¬ r < (0 : Int32)) : ∃ k : Nat, r = Int32.ofNat k ∧ (k : Int) ≤ f ∧ k < 128 ∧ wf k ≠ 0 ∧ ∀ w : Nat, (w : Int) ≤ f → k < w → wf w = 0 := by
  rcases N with ⟨rfl, q⟩ | q
  · exact absurd (by decide) h
  · exact q
theorem on_clamp {k : Nat} (h : k < 2 ^ 31) : (Int32.ofNat k).toNatClampNeg = k := by simp only [Int32.toNatClampNeg, on_int h]; omega
theorem ns_here {wf sf : Nat → Int64} {mem : Nat → Bool} (B : BInv wf sf mem) {p w : Int32} {bs : Int64} (p0 : 0 ≤ p.toInt) (p1 : p.toInt < 8192) (gw : w = XT.ushr p (6 : Int32)) (g : bs = wf w.toNatClampNeg &&& ((-1 : Int64) <<< (p.toInt64 &&& 63))) (h : ¬ bs = 0) : NS' mem p.toNatClampNeg ((w <<< ((6 : Int32) &&& 31)) + F_ntzL bs) := by
  have cp := nat_clamp p0
  have u := ush6 p0
  rw [← gw] at u
  obtain ⟨t, t1, t2, t3, t4⟩ := ntzL_spec h
  have b : ∀ i, i < 64 → bit bs i = (bit (wf (p.toNatClampNeg / 64)) i && decide (p.toNatClampNeg % 64 ≤ i)) := fun i hi => by rw [g, bit_and, bit_shlm p0 hi, u.2.2]
  rw [b t t1] at t3
  simp only [Bool.and_eq_true, decide_eq_true_eq] at t3
  refine Or.inr ⟨64 * w.toNatClampNeg + t, by rw [t2, v_up u.1 (by omega) t1], by rw [u.2.2]; omega, by rw [u.2.2]; omega, ?_, fun n a1 a2 => ?_⟩
  · rw [u.2.2, B.1 _ (by omega)]
    have e1 : (64 * (p.toNatClampNeg / 64) + t) / 64 = p.toNatClampNeg / 64 := by omega
    have e2 : (64 * (p.toNatClampNeg / 64) + t) % 64 = t := by omega
    rw [e1, e2]; exact t3.1
  · rw [u.2.2] at a2
    rw [B.1 n (by omega)]
    have e1 : n / 64 = p.toNatClampNeg / 64 := by omega
    have := t4 (n % 64) (by omega)
    rw [b _ (Nat.mod_lt _ (by decide))] at this
    have e3 : p.toNatClampNeg % 64 ≤ n % 64 := by omega
    rw [e1]
    simpa [e3] using this
theorem ns_gap {wf sf : Nat → Int64} {mem : Nat → Bool} (B : BInv wf sf mem) {p w : Int32} {bs : Int64} (p0 : 0 ≤ p.toInt) (p1 : p.toInt < 8192) (gw : w = XT.ushr p (6 : Int32)) (g : bs = wf w.toNatClampNeg &&& ((-1 : Int64) <<< (p.toInt64 &&& 63))) (h : bs = 0) : ∀ n, p.toNatClampNeg ≤ n → n / 64 = p.toNatClampNeg / 64 → n < 8192 → mem n = false := by
  intro n h1 h2 h3
  have u := ush6 p0
  rw [← gw] at u
  have := bit_zero.mp h (n % 64) (Nat.mod_lt _ (by decide))
  rw [g, bit_and, bit_shlm p0 (Nat.mod_lt _ (by decide)), u.2.2] at this
  rw [B.1 n h3, h2]
  have e3 : p.toNatClampNeg % 64 ≤ n % 64 := by omega
  simpa [e3] using this
theorem word_zero {wf sf : Nat → Int64} {mem : Nat → Bool} (B : BInv wf sf mem) {n : Nat} (hn : n < 8192) (h : wf (n / 64) = 0) : mem n = false := by rw [B.1 n hn, h]; simp [bit]
theorem w_next {p w : Int32} (p0 : 0 ≤ p.toInt) (p1 : p.toInt < 8192) (gw : w = XT.ushr p (6 : Int32)) : 0 ≤ (w + (1 : Int32)).toInt ∧ (w + (1 : Int32)).toInt ≤ 128 ∧ (w + (1 : Int32)).toNatClampNeg = p.toNatClampNeg / 64 + 1 := by
  have u := ush6 p0
  rw [← gw] at u
  have cp := nat_clamp p0
  have e : (w + (1 : Int32)).toInt = w.toInt + 1 := Jvm.Kit.i32_add (by show _ ≤ _ + 1; omega) (by show _ + 1 < _; omega)
  have c2 := nat_clamp (v := w + (1 : Int32)) (by omega)
  exact ⟨by omega, by omega, by omega⟩
theorem w_prev {p w : Int32} (p0 : 0 ≤ p.toInt) (p1 : p.toInt < 8192) (gw : w = XT.ushr p (6 : Int32)) : (w - (1 : Int32)).toInt = (p.toNatClampNeg / 64 : Nat) - 1 := by
  have u := ush6 p0
  rw [← gw] at u
  have cp := nat_clamp p0
  have e : (w - (1 : Int32)).toInt = w.toInt - 1 := Jvm.Kit.i32_sub (by show _ ≤ _ - 1; omega) (by show _ - 1 < _; omega)
  omega
theorem ns_none {wf sf : Nat → Int64} {mem : Nat → Bool} (B : BInv wf sf mem) {p w r : Int32} {bs : Int64} (p0 : 0 ≤ p.toInt) (p1 : p.toInt < 8192) (gw : w = XT.ushr p (6 : Int32)) (g : bs = wf w.toNatClampNeg &&& ((-1 : Int64) <<< (p.toInt64 &&& 63))) (h : bs = 0) (N : NW wf (w + (1 : Int32)).toNatClampNeg r) (hr : r < (0 : Int32)) : NS' mem p.toNatClampNeg (-1) := by
  have z := ns_gap B p0 p1 gw g h
  have y := nw_neg N hr
  rw [(w_next p0 p1 gw).2.2] at y
  exact Or.inl ⟨rfl, fun n a1 a2 => by
    by_cases q : n / 64 = p.toNatClampNeg / 64
    · exact z n a1 q a2
    · exact word_zero B a2 (y _ (by omega) (by omega))⟩
theorem ns_next {wf sf : Nat → Int64} {mem : Nat → Bool} (B : BInv wf sf mem) {p w r : Int32} {bs : Int64} (p0 : 0 ≤ p.toInt) (p1 : p.toInt < 8192) (gw : w = XT.ushr p (6 : Int32)) (g : bs = wf w.toNatClampNeg &&& ((-1 : Int64) <<< (p.toInt64 &&& 63))) (h : bs = 0) (N : NW wf (w + (1 : Int32)).toNatClampNeg r) (hr : ¬ r < (0 : Int32)) : NS' mem p.toNatClampNeg ((r <<< ((6 : Int32) &&& 31)) + F_ntzL (wf r.toNatClampNeg)) := by
  have z := ns_gap B p0 p1 gw g h
  obtain ⟨k, rfl, k1, k2, k3, k4⟩ := nw_pos N hr
  rw [(w_next p0 p1 gw).2.2] at k1 k4
  rw [on_clamp (by omega)]
  obtain ⟨t, t1, t2, t3, t4⟩ := ntzL_spec k3
  have v := v_up (w := Int32.ofNat k) (t := t) (by rw [on_int (by omega)]; omega) (by rw [on_int (by omega)]; omega) t1
  rw [on_clamp (by omega)] at v
  refine Or.inr ⟨64 * k + t, by rw [t2, v], by omega, by omega, ?_, fun n a1 a2 => ?_⟩
  · rw [B.1 _ (by omega)]
    have e1 : (64 * k + t) / 64 = k := by omega
    have e2 : (64 * k + t) % 64 = t := by omega
    rw [e1, e2]; exact t3
  · by_cases q : n / 64 = p.toNatClampNeg / 64
    · exact z n a1 q (by omega)
    · by_cases q2 : n / 64 < k
      · exact word_zero B (by omega) (k4 _ (by omega) q2)
      · have e1 : n / 64 = k := by omega
        rw [B.1 n (by omega), e1]
        exact t4 _ (by omega)
theorem ps_here {wf sf : Nat → Int64} {mem : Nat → Bool} (B : BInv wf sf mem) {p w : Int32} {bs : Int64} (p0 : 0 ≤ p.toInt) (p1 : p.toInt < 8192) (gw : w = XT.ushr p (6 : Int32)) (g : bs = wf w.toNatClampNeg &&& (XT.ushrL (-1 : Int64) ((63 : Int32) - (p &&& (63 : Int32))))) (h : ¬ bs = 0) : PS mem p.toNatClampNeg (((w <<< ((6 : Int32) &&& 31)) + (63 : Int32)) - F_nlzL bs) := by
  have cp := nat_clamp p0
  have u := ush6 p0
  rw [← gw] at u
  obtain ⟨t, t1, t2, t3, t4⟩ := nlzL_spec h
  rw [u.2.2] at g
  rw [pbs p0 g t1] at t3
  simp only [Bool.and_eq_true, decide_eq_true_eq] at t3
  refine Or.inr ⟨64 * w.toNatClampNeg + t, by rw [t2, v_down u.1 (by omega) t1], by rw [u.2.2]; omega, ?_, fun n a1 a2 => ?_⟩
  · rw [u.2.2, B.1 _ (by omega)]
    have e1 : (64 * (p.toNatClampNeg / 64) + t) / 64 = p.toNatClampNeg / 64 := by omega
    have e2 : (64 * (p.toNatClampNeg / 64) + t) % 64 = t := by omega
    rw [e1, e2]; exact t3.1
  · rw [u.2.2] at a2
    rw [B.1 n (by omega)]
    have e1 : n / 64 = p.toNatClampNeg / 64 := by omega
    have := t4 (n % 64) (by omega) (by omega)
    rw [pbs p0 g (by omega)] at this
    have e3 : n % 64 ≤ p.toNatClampNeg % 64 := by omega
    rw [e1]
    simpa [e3] using this
theorem ps_gap {wf sf : Nat → Int64} {mem : Nat → Bool} (B : BInv wf sf mem) {p w : Int32} {bs : Int64} (p0 : 0 ≤ p.toInt) (p1 : p.toInt < 8192) (gw : w = XT.ushr p (6 : Int32)) (g : bs = wf w.toNatClampNeg &&& (XT.ushrL (-1 : Int64) ((63 : Int32) - (p &&& (63 : Int32))))) (h : bs = 0) : ∀ n, n ≤ p.toNatClampNeg → n / 64 = p.toNatClampNeg / 64 → mem n = false := by
  intro n h1 h2
  have cp := nat_clamp p0
  have u := ush6 p0
  rw [← gw] at u
  rw [u.2.2] at g
  have := bit_zero.mp h (n % 64) (Nat.mod_lt _ (by decide))
  rw [pbs p0 g (Nat.mod_lt _ (by decide))] at this
  rw [B.1 n (by omega), h2]
  have e3 : n % 64 ≤ p.toNatClampNeg % 64 := by omega
  simpa [e3] using this
theorem ps_none {wf sf : Nat → Int64} {mem : Nat → Bool} (B : BInv wf sf mem) {p w r : Int32} {bs : Int64} (p0 : 0 ≤ p.toInt) (p1 : p.toInt < 8192) (gw : w = XT.ushr p (6 : Int32)) (g : bs = wf w.toNatClampNeg &&& (XT.ushrL (-1 : Int64) ((63 : Int32) - (p &&& (63 : Int32))))) (h : bs = 0) (N : PW wf (w - (1 : Int32)).toInt r) (hr : r < (0 : Int32)) : PS mem p.toNatClampNeg (-1) := by
  have cp := nat_clamp p0
  have z := ps_gap B p0 p1 gw g h
  have y := pw_neg N hr
  rw [w_prev p0 p1 gw] at y
  exact Or.inl ⟨rfl, fun n a1 => by
    by_cases q : n / 64 = p.toNatClampNeg / 64
    · exact z n a1 q
    · exact word_zero B (by omega) (y _ (by omega) (by omega))⟩
theorem ps_next {wf sf : Nat → Int64} {mem : Nat → Bool} (B : BInv wf sf mem) {p w r : Int32} {bs : Int64} (p0 : 0 ≤ p.toInt) (p1 : p.toInt < 8192) (gw : w = XT.ushr p (6 : Int32)) (g : bs = wf w.toNatClampNeg &&& (XT.ushrL (-1 : Int64) ((63 : Int32) - (p &&& (63 : Int32))))) (h : bs = 0) (N : PW wf (w - (1 : Int32)).toInt r) (hr : ¬ r < (0 : Int32)) : PS mem p.toNatClampNeg (((r <<< ((6 : Int32) &&& 31)) + (63 : Int32)) - F_nlzL (wf r.toNatClampNeg)) := by
  have cp := nat_clamp p0
  have z := ps_gap B p0 p1 gw g h
  obtain ⟨k, rfl, k1, k2, k3, k4⟩ := pw_pos N hr
  rw [w_prev p0 p1 gw] at k1 k4
  rw [on_clamp (by omega)]
  obtain ⟨t, t1, t2, t3, t4⟩ := nlzL_spec k3
  have v := v_down (w := Int32.ofNat k) (t := t) (by rw [on_int (by omega)]; omega) (by rw [on_int (by omega)]; omega) t1
  rw [on_clamp (by omega)] at v
  refine Or.inr ⟨64 * k + t, by rw [t2, v], by omega, ?_, fun n a1 a2 => ?_⟩
  · rw [B.1 _ (by omega)]
    have e1 : (64 * k + t) / 64 = k := by omega
    have e2 : (64 * k + t) % 64 = t := by omega
    rw [e1, e2]; exact t3
  · by_cases q : n / 64 = p.toNatClampNeg / 64
    · exact z n a1 q
    · by_cases q2 : k < n / 64
      · exact word_zero B (by omega) (k4 _ (by omega) q2)
      · have e1 : n / 64 = k := by omega
        rw [B.1 n (by omega), e1]
        exact t4 _ (by omega) (by omega)
theorem r_idx {wf : Nat → Int64} {f : Nat} {r : Int32} (N : NW wf f r) (h : ¬ r < (0 : Int32)) : r.toNatClampNeg < 128 ∧ ¬ wf r.toNatClampNeg = 0 := by
  obtain ⟨k, rfl, k1, k2, k3, k4⟩ := nw_pos N h
  rw [on_clamp (by omega)]; exact ⟨k2, k3⟩
theorem r_idxp {wf : Nat → Int64} {f : Int} {r : Int32} (N : PW wf f r) (h : ¬ r < (0 : Int32)) : r.toNatClampNeg < 128 ∧ ¬ wf r.toNatClampNeg = 0 := by
  obtain ⟨k, rfl, k1, k2, k3, k4⟩ := pw_pos N h
  rw [on_clamp (by omega)]; exact ⟨k2, k3⟩
theorem BS.keep {Z : State} {h h' : Heap} {a aW aS : Addr} {mem : Nat → Bool} {ws : List Addr} (F : BS Z h a aW aS mem) (K : Keep h h' ws) (q1 : a ∉ ws) (q2 : aW ∉ ws) (q3 : aS ∉ ws) : BS Z h' a aW aS mem := by
  obtain ⟨kW, kS, wf, sf, g1, g2, g3, g4, g5⟩ := F
  exact ⟨kW, kS, wf, sf, g1.keep K q1, g2.keep K q1, g3.keep K q2, g4.keep K q3, g5⟩
def Q_init (Z : State) (a : Addr) (h0 : Heap) (n0 : Nat) (v : Option Value) (h : Heap) (L : List Loc) : Prop := ∃ (aW : Addr) (aS : Addr), v = none ∧ Fr n0 L ∧ Keep h0 h [a] ∧ Exa Z h a "com/example/collate/collate/analysis/Bits" ∧ n0 ≤ aW ∧ n0 ≤ aS ∧ h0.size ≤ aW ∧ h0.size ≤ aS ∧ a ≠ aW ∧ a ≠ aS ∧ aW ≠ aS ∧ BS Z h a aW aS (fun _ => false)
theorem ef_init (m : MethodId) (x0 : Addr) (x1 : Int32) : entryFrame m #[(.ref x0), (.int x1)] 2 = mkF m 0 #[.val (.ref x0), .val (.int x1)] [] := by first | (simp [entryFrame, mkF, argsToLocals, Value.category]; done) | rfl
set_option maxRecDepth 65536 in
set_option maxHeartbeats 40000000 in
theorem rm_init (l : Launch) (Z : State) (a0 : Array Value) (hw : ∀ d ∈ tables_1, d.before a0 Z = true) (a : Addr) (h0 : Heap) (n0 : Nat) (Z0 : n0 ≤ h0.size) (f0 : Exa Z h0 a "com/example/collate/collate/analysis/Bits") (f1 : n0 ≤ a) (f2 : Fld Z h0 a "com/example/collate/collate/analysis/Bits" "words" "[J" .null) (f3 : Fld Z h0 a "com/example/collate/collate/analysis/Bits" "summary" "[J" .null) :
    Met l Z (⟨"com/example/collate/collate/analysis/Bits", "<init>", "(I)V"⟩ : MethodName) prog_9_method_1_code 2 none [] ({ frames := 1, cells := 2, slots := 130, locals := 12 } : Room) #[(.ref a), (.int (8192 : Int32))] h0 (Q_init Z a h0 n0) := by
  refine Met.of (plainFor_of_name pn_init) ?_
  intro p e s m below meth c s₁ X0 hx hby hml hZ hown hnm e0 hret hlk
  refine Go.cast (ef_init m a ((8192 : Int32))) ?_
  show Go _ _ _ _ s₁ (mkF m 0 #[.val (.ref a), .val (.int (8192 : Int32))] []) _ _ _
  have N0 := Fr.nil n0
  refine Go.aloadN X0 hx (hb hby d_init_0) rfl rfl ?_
  show Go _ _ _ _ s₁ (mkF m 1 #[.val (.ref a), .val (.int (8192 : Int32))] [(.ref a)]) _ _ _
  refine Go.initO (W := 0) X0 hx hZ hown (w7 hw) (w8 hw) (w9 hw) e0 (hb hby d_init_1) (by rw [hml]; rfl) (Nat.le_of_eq rfl) (by decide) (by decide) ?_
  intro T48 X48 e48
  show Go _ _ _ _ T48 (mkF m 4 #[.val (.ref a), .val (.int (8192 : Int32))] []) _ _ _
  refine Go.aloadN X48 hx (hb hby d_init_4) rfl rfl ?_
  show Go _ _ _ _ T48 (mkF m 5 #[.val (.ref a), .val (.int (8192 : Int32))] [(.ref a)]) _ _ _
  refine Go.iloadN X48 hx (hb hby d_init_5) rfl ?_
  show Go _ _ _ _ T48 (mkF m 6 #[.val (.ref a), .val (.int (8192 : Int32))] [(.int (8192 : Int32)), (.ref a)]) _ _ _
  refine Go.bipush X48 hx (hb hby d_init_6) ?_
  show Go _ _ _ _ T48 (mkF m 8 #[.val (.ref a), .val (.int (8192 : Int32))] [(.int (63 : Int32)), (.int (8192 : Int32)), (.ref a)]) _ _ _
  refine Go.iadd X48 hx (hb hby d_init_8) ?_
  show Go _ _ _ _ T48 (mkF m 9 #[.val (.ref a), .val (.int (8192 : Int32))] [(.int (8255 : Int32)), (.ref a)]) _ _ _
  refine Go.bipush X48 hx (hb hby d_init_9) ?_
  show Go _ _ _ _ T48 (mkF m 11 #[.val (.ref a), .val (.int (8192 : Int32))] [(.int (6 : Int32)), (.int (8255 : Int32)), (.ref a)]) _ _ _
  refine Go.iushr X48 hx (hb hby d_init_11) ?_
  show Go _ _ _ _ T48 (mkF m 12 #[.val (.ref a), .val (.int (8192 : Int32))] [(.int (128 : Int32)), (.ref a)]) _ _ _
  refine Go.newarray (aty := .long) (cap := 128) X48 hx hZ (w10 hw) e48 (hb hby d_init_12) (by decide) (by decide) (by decide) (by decide) (by decide) ?_
  intro T49 h49 a49 k49 b49 X49 e49 E49 A49
  have g_a49 : n0 ≤ a49 := by rw [b49]; exact Z0
  have y_a49 : h0.size ≤ a49 := by rw [b49]; exact (Nat.le_refl _)
  have ne_a_a49 : a ≠ a49 := by rw [b49]; exact Nat.ne_of_lt f0.lt
  have Z49 : n0 ≤ h49.size := Nat.le_trans Z0 E49.1
  have B49 : h0.size ≤ h49.size := Nat.le_trans (Nat.le_refl _) E49.1
  show Go _ _ _ _ T49 (mkF m 14 #[.val (.ref a), .val (.int (8192 : Int32))] [(.ref a49), (.ref a)]) _ _ _
  refine Go.putF X49 hx hZ hown (w11 hw) Via.refl e49 (Fld.ext E49 f2) (Exa.ext E49 f0) (Or.inr ⟨(w12 hw), rfl, hnm⟩) (w2 hw) (ty := (.array .long)) (by decide) rfl rfl (hb hby d_init_14) ?_
  intro T50 h50 X50 e50 W50
  have N50 := Fr.snoc X50 N0 f1
  have Z50 : n0 ≤ h50.size := by rw [Wr.size W50]; exact Z49
  have B50 : h0.size ≤ h50.size := by rw [Wr.size W50]; exact B49
  show Go _ _ _ _ T50 (mkF m 17 #[.val (.ref a), .val (.int (8192 : Int32))] []) _ _ _
  refine Go.aloadN X50 hx (hb hby d_init_17) rfl rfl ?_
  show Go _ _ _ _ T50 (mkF m 18 #[.val (.ref a), .val (.int (8192 : Int32))] [(.ref a)]) _ _ _
  refine Go.aloadN X50 hx (hb hby d_init_18) rfl rfl ?_
  show Go _ _ _ _ T50 (mkF m 19 #[.val (.ref a), .val (.int (8192 : Int32))] [(.ref a), (.ref a)]) _ _ _
  refine Go.getF X50 hx hZ hown (w11 hw) Via.refl e50 (Fld.same W50 (Fld.ext E49 f2)) (hb hby d_init_19) ?_
  intro T51 X51 e51
  show Go _ _ _ _ T51 (mkF m 22 #[.val (.ref a), .val (.int (8192 : Int32))] [(.ref a49), (.ref a)]) _ _ _
  refine Go.alen X51 hx hZ e51 (Af.other W50 A49 (Ne.symm ne_a_a49)) (hb hby d_init_22) ?_
  show Go _ _ _ _ T51 (mkF m 23 #[.val (.ref a), .val (.int (8192 : Int32))] [(.int (128 : Int32)), (.ref a)]) _ _ _
  refine Go.bipush X51 hx (hb hby d_init_23) ?_
  show Go _ _ _ _ T51 (mkF m 25 #[.val (.ref a), .val (.int (8192 : Int32))] [(.int (63 : Int32)), (.int (128 : Int32)), (.ref a)]) _ _ _
  refine Go.iadd X51 hx (hb hby d_init_25) ?_
  show Go _ _ _ _ T51 (mkF m 26 #[.val (.ref a), .val (.int (8192 : Int32))] [(.int (191 : Int32)), (.ref a)]) _ _ _
  refine Go.bipush X51 hx (hb hby d_init_26) ?_
  show Go _ _ _ _ T51 (mkF m 28 #[.val (.ref a), .val (.int (8192 : Int32))] [(.int (6 : Int32)), (.int (191 : Int32)), (.ref a)]) _ _ _
  refine Go.iushr X51 hx (hb hby d_init_28) ?_
  show Go _ _ _ _ T51 (mkF m 29 #[.val (.ref a), .val (.int (8192 : Int32))] [(.int (2 : Int32)), (.ref a)]) _ _ _
  refine Go.newarray (aty := .long) (cap := 2) X51 hx hZ (w10 hw) e51 (hb hby d_init_29) (by decide) (by decide) (by decide) (by decide) (by decide) ?_
  intro T52 h52 a52 k52 b52 X52 e52 E52 A52
  have g_a52 : n0 ≤ a52 := by rw [b52]; exact Z50
  have y_a52 : h0.size ≤ a52 := by rw [b52]; exact B50
  have ne_a_a52 : a ≠ a52 := by rw [b52]; exact Nat.ne_of_lt (Exa.wr W50 (Exa.ext E49 f0)).lt
  have ne_a49_a52 : a49 ≠ a52 := by rw [b52]; exact Nat.ne_of_lt (Af.other W50 A49 (Ne.symm ne_a_a49)).lt
  have Z52 : n0 ≤ h52.size := Nat.le_trans Z50 E52.1
  have B52 : h0.size ≤ h52.size := Nat.le_trans B50 E52.1
  show Go _ _ _ _ T52 (mkF m 31 #[.val (.ref a), .val (.int (8192 : Int32))] [(.ref a52), (.ref a)]) _ _ _
  have F53 := (Fld.ext E52 (Fld.other W50 (Fld.ext E49 f3) (Or.inr (slot_ne (a0 := a0) (Or.inr (w14 hw)) (Or.inr (w12 hw)) (t := (.array .long)) (t' := (.array .long)) (by decide) (by decide) (by decide)))))
  have F54 := (Exa.ext E52 (Exa.wr W50 (Exa.ext E49 f0)))
  refine Go.putF X52 hx hZ hown (w13 hw) Via.refl e52 F53 F54 (Or.inr ⟨(w14 hw), rfl, hnm⟩) (w2 hw) (ty := (.array .long)) (by decide) rfl rfl (hb hby d_init_31) ?_
  intro T55 h55 X55 e55 W55
  have N55 := Fr.snoc X55 N50 f1
  have Z55 : n0 ≤ h55.size := by rw [Wr.size W55]; exact Z52
  have B55 : h0.size ≤ h55.size := by rw [Wr.size W55]; exact B52
  show Go _ _ _ _ T55 (mkF m 34 #[.val (.ref a), .val (.int (8192 : Int32))] []) _ _ _
  refine Go.ret0 X55 hx hlk hret (hb hby d_init_34) (by decide) (by decide) ?_
  rw [e55]
  have F56 := (Fld.other W55 (Fld.ext E52 (Fld.same W50 (Fld.ext E49 f2))) (Or.inr (slot_ne (a0 := a0) (Or.inr (w12 hw)) (Or.inr (w14 hw)) (t := (.array .long)) (t' := (.array .long)) (by decide) (by decide) (by decide))))
  have F57 := (Af.other W55 (Af.ext E52 (Af.other W50 A49 (Ne.symm ne_a_a49))) (Ne.symm ne_a_a49))
  exact ⟨a49, a52, rfl, N55, (Keep.wr (Keep.ext (Keep.wr (Keep.ext (Keep.refl _ _) E49) W50 (Or.inl (List.mem_of_getElem? (i := 0) rfl))) E52) W55 (Or.inl (List.mem_of_getElem? (i := 0) rfl))), (Exa.wr W55 F54), g_a49, g_a52, y_a49, y_a52, ne_a_a49, ne_a_a52, ne_a49_a52, ⟨_, _, (fun _ => (0 : Int64)), (fun _ => (0 : Int64)), F56, (Fld.same W55 F53), F57, (Af.other W55 A52 (Ne.symm ne_a_a52)), binv0⟩⟩
def Q_set (Z : State) (a : Addr) (p1 : Int32) (p2 : Int32) (aW : Addr) (aS : Addr) (mem : Nat → Bool) (h0 : Heap) (n0 : Nat) (v : Option Value) (h : Heap) (L : List Loc) : Prop := v = none ∧ Fr n0 L ∧ Keep h0 h [a, aW, aS] ∧ Exa Z h a "com/example/collate/collate/analysis/Bits" ∧ BS Z h a aW aS (memSet (mem) p1.toNatClampNeg (!decide (p2 = (0 : Int32))))
theorem ef_set (m : MethodId) (x0 : Addr) (x1 : Int32) (x2 : Int32) : entryFrame m #[(.ref x0), (.int x1), (.int x2)] 4 = mkF m 0 #[.val (.ref x0), .val (.int x1), .val (.int x2), .unset] [] := by first | (simp [entryFrame, mkF, argsToLocals, Value.category]; done) | rfl
set_option maxRecDepth 65536 in
set_option maxHeartbeats 40000000 in
theorem rm_set (l : Launch) (Z : State) (a0 : Array Value) (hw : ∀ d ∈ tables_1, d.before a0 Z = true) (a : Addr) (p1 : Int32) (p2 : Int32) (aW : Addr) (aS : Addr) (mem : Nat → Bool) (h0 : Heap) (n0 : Nat) (Z0 : n0 ≤ h0.size) (f0 : Exa Z h0 a "com/example/collate/collate/analysis/Bits") (f1 : n0 ≤ a) (f2 : n0 ≤ aW) (f3 : n0 ≤ aS) (f4 : a ≠ aW) (f5 : a ≠ aS) (f6 : aW ≠ aS) (f7 : BS Z h0 a aW aS (mem)) (f8 : 0 ≤ p1.toInt) (f9 : p1.toInt < 8192) :
    Met l Z (⟨"com/example/collate/collate/analysis/Bits", "set", "(IZ)V"⟩ : MethodName) prog_9_method_3_code 4 none [] ({ frames := 0, cells := 0, slots := 0, locals := 0 } : Room) #[(.ref a), (.int p1), (.int p2)] h0 (Q_set Z a p1 p2 aW aS mem h0 n0) := by
  refine Met.of (plainFor_of_name pn_set) ?_
  intro p e s m below meth c s₁ X0 hx hby hml hZ hown hnm e0 hret hlk
  refine Go.cast (ef_set m a p1 p2) ?_
  show Go _ _ _ _ s₁ (mkF m 0 #[.val (.ref a), .val (.int p1), .val (.int p2), .unset] []) _ _ _
  have N0 := Fr.nil n0
  obtain ⟨kW, kS, wf, sf, r1, r2, r3, r4, B⟩ := f7
  refine Go.iloadN X0 hx (hb hby d_set_0) rfl ?_
  show Go _ _ _ _ s₁ (mkF m 1 #[.val (.ref a), .val (.int p1), .val (.int p2), .unset] [(.int p1)]) _ _ _
  refine Go.bipush X0 hx (hb hby d_set_1) ?_
  show Go _ _ _ _ s₁ (mkF m 3 #[.val (.ref a), .val (.int p1), .val (.int p2), .unset] [(.int (6 : Int32)), (.int p1)]) _ _ _
  refine Go.iushr X0 hx (hb hby d_set_3) ?_
  show Go _ _ _ _ s₁ (mkF m 4 #[.val (.ref a), .val (.int p1), .val (.int p2), .unset] [(.int (XT.ushr p1 (6 : Int32)))]) _ _ _
  refine Go.istoreN X0 hx (hb hby d_set_4) (l' := #[.val (.ref a), .val (.int p1), .val (.int p2), .val (.int (XT.ushr p1 (6 : Int32)))]) rfl ?_
  show Go _ _ _ _ s₁ (mkF m 5 #[.val (.ref a), .val (.int p1), .val (.int p2), .val (.int (XT.ushr p1 (6 : Int32)))] []) _ _ _
  refine (show ∀ wd : Int32, wd = (XT.ushr p1 (6 : Int32)) → Go _ _ _ _ s₁ (mkF m 5 #[.val (.ref a), .val (.int p1), .val (.int p2), .val (.int wd)] []) _ _ _ from ?_) _ rfl
  intro wd g_wd
  have uw := ush6 f8
  rw [← g_wd] at uw
  refine Go.iloadN X0 hx (hb hby d_set_5) rfl ?_
  show Go _ _ _ _ s₁ (mkF m 6 #[.val (.ref a), .val (.int p1), .val (.int p2), .val (.int wd)] [(.int p2)]) _ _ _
  rcases Decidable.em (p2 = (0 : Int32)) with c58 | c58
  · refine Go.ifYes X0 hx (hb hby d_set_6) (XT.i0_eq_t c58) (pc' := 39) (by decide) (by decide) ?_
    show Go _ _ _ _ s₁ (mkF m 39 #[.val (.ref a), .val (.int p1), .val (.int p2), .val (.int wd)] []) _ _ _
    refine Go.aloadN X0 hx (hb hby d_set_39) rfl rfl ?_
    show Go _ _ _ _ s₁ (mkF m 40 #[.val (.ref a), .val (.int p1), .val (.int p2), .val (.int wd)] [(.ref a)]) _ _ _
    refine Go.getF X0 hx hZ hown (w11 hw) Via.refl e0 r1 (hb hby d_set_40) ?_
    intro T59 X59 e59
    show Go _ _ _ _ T59 (mkF m 43 #[.val (.ref a), .val (.int p1), .val (.int p2), .val (.int wd)] [(.ref aW)]) _ _ _
    refine Go.iloadN X59 hx (hb hby d_set_43) rfl ?_
    show Go _ _ _ _ T59 (mkF m 44 #[.val (.ref a), .val (.int p1), .val (.int p2), .val (.int wd)] [(.int wd), (.ref aW)]) _ _ _
    refine Go.dup2 X59 hx (hb hby d_set_44) rfl rfl ?_
    show Go _ _ _ _ T59 (mkF m 45 #[.val (.ref a), .val (.int p1), .val (.int p2), .val (.int wd)] [(.int wd), (.ref aW), (.int wd), (.ref aW)]) _ _ _
    refine Go.laload X59 hx hZ e59 r3 (neg_of uw.1) (by rw [uw.2.2]; have := nat_clamp f8; omega) (hb hby d_set_45) ?_
    show Go _ _ _ _ T59 (mkF m 46 #[.val (.ref a), .val (.int p1), .val (.int p2), .val (.int wd)] [(.long (wf (wd).toNatClampNeg)), (.int wd), (.ref aW)]) _ _ _
    refine Go.lconst X59 hx (hb hby d_set_46) ?_
    show Go _ _ _ _ T59 (mkF m 47 #[.val (.ref a), .val (.int p1), .val (.int p2), .val (.int wd)] [(.long (1 : Int64)), (.long (wf (wd).toNatClampNeg)), (.int wd), (.ref aW)]) _ _ _
    refine Go.iloadN X59 hx (hb hby d_set_47) rfl ?_
    show Go _ _ _ _ T59 (mkF m 48 #[.val (.ref a), .val (.int p1), .val (.int p2), .val (.int wd)] [(.int p1), (.long (1 : Int64)), (.long (wf (wd).toNatClampNeg)), (.int wd), (.ref aW)]) _ _ _
    refine Go.lshl X59 hx (hb hby d_set_48) ?_
    show Go _ _ _ _ T59 (mkF m 49 #[.val (.ref a), .val (.int p1), .val (.int p2), .val (.int wd)] [(.long ((1 : Int64) <<< ((p1).toInt64 &&& 63))), (.long (wf (wd).toNatClampNeg)), (.int wd), (.ref aW)]) _ _ _
    refine Go.ldc2 X59 hx hZ hown (w20 hw) (hb hby d_set_49) ?_
    show Go _ _ _ _ T59 (mkF m 52 #[.val (.ref a), .val (.int p1), .val (.int p2), .val (.int wd)] [(.long (-1 : Int64)), (.long ((1 : Int64) <<< ((p1).toInt64 &&& 63))), (.long (wf (wd).toNatClampNeg)), (.int wd), (.ref aW)]) _ _ _
    refine Go.lxor X59 hx (hb hby d_set_52) ?_
    show Go _ _ _ _ T59 (mkF m 53 #[.val (.ref a), .val (.int p1), .val (.int p2), .val (.int wd)] [(.long (((1 : Int64) <<< ((p1).toInt64 &&& 63)) ^^^ (-1 : Int64))), (.long (wf (wd).toNatClampNeg)), (.int wd), (.ref aW)]) _ _ _
    refine Go.land X59 hx (hb hby d_set_53) ?_
    show Go _ _ _ _ T59 (mkF m 54 #[.val (.ref a), .val (.int p1), .val (.int p2), .val (.int wd)] [(.long ((wf (wd).toNatClampNeg) &&& (((1 : Int64) <<< ((p1).toInt64 &&& 63)) ^^^ (-1 : Int64)))), (.int wd), (.ref aW)]) _ _ _
    refine Go.lastore X59 hx hZ e59 r3 (neg_of uw.1) (by rw [uw.2.2]; have := nat_clamp f8; omega) (hb hby d_set_54) ?_
    intro T60 h60 X60 e60 W60 A60
    have N60 := Fr.snoc X60 N0 f2
    have Z60 : n0 ≤ h60.size := by rw [Wr.size W60]; exact Z0
    have B60 : h0.size ≤ h60.size := by rw [Wr.size W60]; exact (Nat.le_refl _)
    have A61 : Af Z h60 aW kW .long 128 (fun i => Value.long ((updJ wf (wd).toNatClampNeg ((wf (wd).toNatClampNeg) &&& (((1 : Int64) <<< ((p1).toInt64 &&& 63)) ^^^ (-1 : Int64)))) i)) := Af.updJ A60
    show Go _ _ _ _ T60 (mkF m 55 #[.val (.ref a), .val (.int p1), .val (.int p2), .val (.int wd)] []) _ _ _
    refine Go.aloadN X60 hx (hb hby d_set_55) rfl rfl ?_
    show Go _ _ _ _ T60 (mkF m 56 #[.val (.ref a), .val (.int p1), .val (.int p2), .val (.int wd)] [(.ref a)]) _ _ _
    refine Go.getF X60 hx hZ hown (w11 hw) Via.refl e60 (Fld.other W60 r1 (Or.inl f4)) (hb hby d_set_56) ?_
    intro T62 X62 e62
    show Go _ _ _ _ T62 (mkF m 59 #[.val (.ref a), .val (.int p1), .val (.int p2), .val (.int wd)] [(.ref aW)]) _ _ _
    refine Go.iloadN X62 hx (hb hby d_set_59) rfl ?_
    show Go _ _ _ _ T62 (mkF m 60 #[.val (.ref a), .val (.int p1), .val (.int p2), .val (.int wd)] [(.int wd), (.ref aW)]) _ _ _
    refine Go.laload X62 hx hZ e62 A61 (neg_of uw.1) (by rw [uw.2.2]; have := nat_clamp f8; omega) (hb hby d_set_60) ?_
    show Go _ _ _ _ T62 (mkF m 61 #[.val (.ref a), .val (.int p1), .val (.int p2), .val (.int wd)] [(.long ((updJ wf (wd).toNatClampNeg ((wf (wd).toNatClampNeg) &&& (((1 : Int64) <<< ((p1).toInt64 &&& 63)) ^^^ (-1 : Int64)))) (wd).toNatClampNeg))]) _ _ _
    refine Go.lconst X62 hx (hb hby d_set_61) ?_
    show Go _ _ _ _ T62 (mkF m 62 #[.val (.ref a), .val (.int p1), .val (.int p2), .val (.int wd)] [(.long (0 : Int64)), (.long ((updJ wf (wd).toNatClampNeg ((wf (wd).toNatClampNeg) &&& (((1 : Int64) <<< ((p1).toInt64 &&& 63)) ^^^ (-1 : Int64)))) (wd).toNatClampNeg))]) _ _ _
    refine Go.lcmp X62 hx (hb hby d_set_62) ?_
    show Go _ _ _ _ T62 (mkF m 63 #[.val (.ref a), .val (.int p1), .val (.int p2), .val (.int wd)] [(.int (XT.cmpL ((updJ wf (wd).toNatClampNeg ((wf (wd).toNatClampNeg) &&& (((1 : Int64) <<< ((p1).toInt64 &&& 63)) ^^^ (-1 : Int64)))) (wd).toNatClampNeg) (0 : Int64)))]) _ _ _
    rcases Decidable.em (((updJ wf (wd).toNatClampNeg ((wf (wd).toNatClampNeg) &&& (((1 : Int64) <<< ((p1).toInt64 &&& 63)) ^^^ (-1 : Int64)))) (wd).toNatClampNeg) = (0 : Int64)) with c63 | c63
    · refine Go.ifNo X62 hx (hb hby d_set_63) (XT.ll_ne_f c63) ?_
      show Go _ _ _ _ T62 (mkF m 66 #[.val (.ref a), .val (.int p1), .val (.int p2), .val (.int wd)] []) _ _ _
      refine Go.aloadN X62 hx (hb hby d_set_66) rfl rfl ?_
      show Go _ _ _ _ T62 (mkF m 67 #[.val (.ref a), .val (.int p1), .val (.int p2), .val (.int wd)] [(.ref a)]) _ _ _
      refine Go.getF X62 hx hZ hown (w13 hw) Via.refl e62 (Fld.other W60 r2 (Or.inl f4)) (hb hby d_set_67) ?_
      intro T64 X64 e64
      show Go _ _ _ _ T64 (mkF m 70 #[.val (.ref a), .val (.int p1), .val (.int p2), .val (.int wd)] [(.ref aS)]) _ _ _
      refine Go.iloadN X64 hx (hb hby d_set_70) rfl ?_
      show Go _ _ _ _ T64 (mkF m 71 #[.val (.ref a), .val (.int p1), .val (.int p2), .val (.int wd)] [(.int wd), (.ref aS)]) _ _ _
      refine Go.bipush X64 hx (hb hby d_set_71) ?_
      show Go _ _ _ _ T64 (mkF m 73 #[.val (.ref a), .val (.int p1), .val (.int p2), .val (.int wd)] [(.int (6 : Int32)), (.int wd), (.ref aS)]) _ _ _
      refine Go.iushr X64 hx (hb hby d_set_73) ?_
      show Go _ _ _ _ T64 (mkF m 74 #[.val (.ref a), .val (.int p1), .val (.int p2), .val (.int wd)] [(.int (XT.ushr wd (6 : Int32))), (.ref aS)]) _ _ _
      refine Go.dup2 X64 hx (hb hby d_set_74) rfl rfl ?_
      show Go _ _ _ _ T64 (mkF m 75 #[.val (.ref a), .val (.int p1), .val (.int p2), .val (.int wd)] [(.int (XT.ushr wd (6 : Int32))), (.ref aS), (.int (XT.ushr wd (6 : Int32))), (.ref aS)]) _ _ _
      refine Go.laload X64 hx hZ e64 (Af.other W60 r4 (Ne.symm f6)) (neg_of (ush6 uw.1).1) (by rw [(ush6 uw.1).2.2, uw.2.2]; have := nat_clamp f8; omega) (hb hby d_set_75) ?_
      show Go _ _ _ _ T64 (mkF m 76 #[.val (.ref a), .val (.int p1), .val (.int p2), .val (.int wd)] [(.long (sf ((XT.ushr wd (6 : Int32))).toNatClampNeg)), (.int (XT.ushr wd (6 : Int32))), (.ref aS)]) _ _ _
      refine Go.lconst X64 hx (hb hby d_set_76) ?_
      show Go _ _ _ _ T64 (mkF m 77 #[.val (.ref a), .val (.int p1), .val (.int p2), .val (.int wd)] [(.long (1 : Int64)), (.long (sf ((XT.ushr wd (6 : Int32))).toNatClampNeg)), (.int (XT.ushr wd (6 : Int32))), (.ref aS)]) _ _ _
      refine Go.iloadN X64 hx (hb hby d_set_77) rfl ?_
      show Go _ _ _ _ T64 (mkF m 78 #[.val (.ref a), .val (.int p1), .val (.int p2), .val (.int wd)] [(.int wd), (.long (1 : Int64)), (.long (sf ((XT.ushr wd (6 : Int32))).toNatClampNeg)), (.int (XT.ushr wd (6 : Int32))), (.ref aS)]) _ _ _
      refine Go.lshl X64 hx (hb hby d_set_78) ?_
      show Go _ _ _ _ T64 (mkF m 79 #[.val (.ref a), .val (.int p1), .val (.int p2), .val (.int wd)] [(.long ((1 : Int64) <<< ((wd).toInt64 &&& 63))), (.long (sf ((XT.ushr wd (6 : Int32))).toNatClampNeg)), (.int (XT.ushr wd (6 : Int32))), (.ref aS)]) _ _ _
      refine Go.ldc2 X64 hx hZ hown (w20 hw) (hb hby d_set_79) ?_
      show Go _ _ _ _ T64 (mkF m 82 #[.val (.ref a), .val (.int p1), .val (.int p2), .val (.int wd)] [(.long (-1 : Int64)), (.long ((1 : Int64) <<< ((wd).toInt64 &&& 63))), (.long (sf ((XT.ushr wd (6 : Int32))).toNatClampNeg)), (.int (XT.ushr wd (6 : Int32))), (.ref aS)]) _ _ _
      refine Go.lxor X64 hx (hb hby d_set_82) ?_
      show Go _ _ _ _ T64 (mkF m 83 #[.val (.ref a), .val (.int p1), .val (.int p2), .val (.int wd)] [(.long (((1 : Int64) <<< ((wd).toInt64 &&& 63)) ^^^ (-1 : Int64))), (.long (sf ((XT.ushr wd (6 : Int32))).toNatClampNeg)), (.int (XT.ushr wd (6 : Int32))), (.ref aS)]) _ _ _
      refine Go.land X64 hx (hb hby d_set_83) ?_
      show Go _ _ _ _ T64 (mkF m 84 #[.val (.ref a), .val (.int p1), .val (.int p2), .val (.int wd)] [(.long ((sf ((XT.ushr wd (6 : Int32))).toNatClampNeg) &&& (((1 : Int64) <<< ((wd).toInt64 &&& 63)) ^^^ (-1 : Int64)))), (.int (XT.ushr wd (6 : Int32))), (.ref aS)]) _ _ _
      refine Go.lastore X64 hx hZ e64 (Af.other W60 r4 (Ne.symm f6)) (neg_of (ush6 uw.1).1) (by rw [(ush6 uw.1).2.2, uw.2.2]; have := nat_clamp f8; omega) (hb hby d_set_84) ?_
      intro T65 h65 X65 e65 W65 A65
      have N65 := Fr.snoc X65 N60 f3
      have Z65 : n0 ≤ h65.size := by rw [Wr.size W65]; exact Z60
      have B65 : h0.size ≤ h65.size := by rw [Wr.size W65]; exact B60
      have A66 : Af Z h65 aS kS .long 2 (fun i => Value.long ((updJ sf ((XT.ushr wd (6 : Int32))).toNatClampNeg ((sf ((XT.ushr wd (6 : Int32))).toNatClampNeg) &&& (((1 : Int64) <<< ((wd).toInt64 &&& 63)) ^^^ (-1 : Int64)))) i)) := Af.updJ A65
      show Go _ _ _ _ T65 (mkF m 85 #[.val (.ref a), .val (.int p1), .val (.int p2), .val (.int wd)] []) _ _ _
      refine Go.ret0 X65 hx hlk hret (hb hby d_set_85) (by decide) (by decide) ?_
      rw [e65]
      have F67 := (Fld.other W65 (Fld.other W60 r1 (Or.inl f4)) (Or.inl f5))
      have F68 := (Fld.other W65 (Fld.other W60 r2 (Or.inl f4)) (Or.inl f5))
      exact ⟨rfl, N65, (Keep.wr (Keep.wr (Keep.refl _ _) W60 (Or.inl (List.mem_of_getElem? (i := 1) rfl))) W65 (Or.inl (List.mem_of_getElem? (i := 2) rfl))), (Exa.wr W65 (Exa.wr W60 f0)), ⟨_, _, _, _, F67, F68, (Af.other W65 A61 f6), A66, (by rw [show (!decide (p2 = (0 : Int32))) = false from by simp [c58]]; exact (b_clr B f8 f9 g_wd).2 (by have z := c63; rw [show updJ wf wd.toNatClampNeg _ wd.toNatClampNeg = _ from if_pos rfl] at z; exact z))⟩⟩
    · refine Go.ifYes X62 hx (hb hby d_set_63) (XT.ll_ne_t c63) (pc' := 85) (by decide) (by decide) ?_
      show Go _ _ _ _ T62 (mkF m 85 #[.val (.ref a), .val (.int p1), .val (.int p2), .val (.int wd)] []) _ _ _
      refine Go.ret0 X62 hx hlk hret (hb hby d_set_85) (by decide) (by decide) ?_
      rw [e62]
      exact ⟨rfl, N60, (Keep.wr (Keep.refl _ _) W60 (Or.inl (List.mem_of_getElem? (i := 1) rfl))), (Exa.wr W60 f0), ⟨_, _, _, _, (Fld.other W60 r1 (Or.inl f4)), (Fld.other W60 r2 (Or.inl f4)), A61, (Af.other W60 r4 (Ne.symm f6)), (by rw [show (!decide (p2 = (0 : Int32))) = false from by simp [c58]]; exact (b_clr B f8 f9 g_wd).1 (by have z := c63; rw [show updJ wf wd.toNatClampNeg _ wd.toNatClampNeg = _ from if_pos rfl] at z; exact z))⟩⟩
  · refine Go.ifNo X0 hx (hb hby d_set_6) (XT.i0_eq_f c58) ?_
    show Go _ _ _ _ s₁ (mkF m 9 #[.val (.ref a), .val (.int p1), .val (.int p2), .val (.int wd)] []) _ _ _
    refine Go.aloadN X0 hx (hb hby d_set_9) rfl rfl ?_
    show Go _ _ _ _ s₁ (mkF m 10 #[.val (.ref a), .val (.int p1), .val (.int p2), .val (.int wd)] [(.ref a)]) _ _ _
    refine Go.getF X0 hx hZ hown (w11 hw) Via.refl e0 r1 (hb hby d_set_10) ?_
    intro T69 X69 e69
    show Go _ _ _ _ T69 (mkF m 13 #[.val (.ref a), .val (.int p1), .val (.int p2), .val (.int wd)] [(.ref aW)]) _ _ _
    refine Go.iloadN X69 hx (hb hby d_set_13) rfl ?_
    show Go _ _ _ _ T69 (mkF m 14 #[.val (.ref a), .val (.int p1), .val (.int p2), .val (.int wd)] [(.int wd), (.ref aW)]) _ _ _
    refine Go.dup2 X69 hx (hb hby d_set_14) rfl rfl ?_
    show Go _ _ _ _ T69 (mkF m 15 #[.val (.ref a), .val (.int p1), .val (.int p2), .val (.int wd)] [(.int wd), (.ref aW), (.int wd), (.ref aW)]) _ _ _
    refine Go.laload X69 hx hZ e69 r3 (neg_of uw.1) (by rw [uw.2.2]; have := nat_clamp f8; omega) (hb hby d_set_15) ?_
    show Go _ _ _ _ T69 (mkF m 16 #[.val (.ref a), .val (.int p1), .val (.int p2), .val (.int wd)] [(.long (wf (wd).toNatClampNeg)), (.int wd), (.ref aW)]) _ _ _
    refine Go.lconst X69 hx (hb hby d_set_16) ?_
    show Go _ _ _ _ T69 (mkF m 17 #[.val (.ref a), .val (.int p1), .val (.int p2), .val (.int wd)] [(.long (1 : Int64)), (.long (wf (wd).toNatClampNeg)), (.int wd), (.ref aW)]) _ _ _
    refine Go.iloadN X69 hx (hb hby d_set_17) rfl ?_
    show Go _ _ _ _ T69 (mkF m 18 #[.val (.ref a), .val (.int p1), .val (.int p2), .val (.int wd)] [(.int p1), (.long (1 : Int64)), (.long (wf (wd).toNatClampNeg)), (.int wd), (.ref aW)]) _ _ _
    refine Go.lshl X69 hx (hb hby d_set_18) ?_
    show Go _ _ _ _ T69 (mkF m 19 #[.val (.ref a), .val (.int p1), .val (.int p2), .val (.int wd)] [(.long ((1 : Int64) <<< ((p1).toInt64 &&& 63))), (.long (wf (wd).toNatClampNeg)), (.int wd), (.ref aW)]) _ _ _
    refine Go.lor X69 hx (hb hby d_set_19) ?_
    show Go _ _ _ _ T69 (mkF m 20 #[.val (.ref a), .val (.int p1), .val (.int p2), .val (.int wd)] [(.long ((wf (wd).toNatClampNeg) ||| ((1 : Int64) <<< ((p1).toInt64 &&& 63)))), (.int wd), (.ref aW)]) _ _ _
    refine Go.lastore X69 hx hZ e69 r3 (neg_of uw.1) (by rw [uw.2.2]; have := nat_clamp f8; omega) (hb hby d_set_20) ?_
    intro T70 h70 X70 e70 W70 A70
    have N70 := Fr.snoc X70 N0 f2
    have Z70 : n0 ≤ h70.size := by rw [Wr.size W70]; exact Z0
    have B70 : h0.size ≤ h70.size := by rw [Wr.size W70]; exact (Nat.le_refl _)
    have A71 : Af Z h70 aW kW .long 128 (fun i => Value.long ((updJ wf (wd).toNatClampNeg ((wf (wd).toNatClampNeg) ||| ((1 : Int64) <<< ((p1).toInt64 &&& 63)))) i)) := Af.updJ A70
    show Go _ _ _ _ T70 (mkF m 21 #[.val (.ref a), .val (.int p1), .val (.int p2), .val (.int wd)] []) _ _ _
    refine Go.aloadN X70 hx (hb hby d_set_21) rfl rfl ?_
    show Go _ _ _ _ T70 (mkF m 22 #[.val (.ref a), .val (.int p1), .val (.int p2), .val (.int wd)] [(.ref a)]) _ _ _
    refine Go.getF X70 hx hZ hown (w13 hw) Via.refl e70 (Fld.other W70 r2 (Or.inl f4)) (hb hby d_set_22) ?_
    intro T72 X72 e72
    show Go _ _ _ _ T72 (mkF m 25 #[.val (.ref a), .val (.int p1), .val (.int p2), .val (.int wd)] [(.ref aS)]) _ _ _
    refine Go.iloadN X72 hx (hb hby d_set_25) rfl ?_
    show Go _ _ _ _ T72 (mkF m 26 #[.val (.ref a), .val (.int p1), .val (.int p2), .val (.int wd)] [(.int wd), (.ref aS)]) _ _ _
    refine Go.bipush X72 hx (hb hby d_set_26) ?_
    show Go _ _ _ _ T72 (mkF m 28 #[.val (.ref a), .val (.int p1), .val (.int p2), .val (.int wd)] [(.int (6 : Int32)), (.int wd), (.ref aS)]) _ _ _
    refine Go.iushr X72 hx (hb hby d_set_28) ?_
    show Go _ _ _ _ T72 (mkF m 29 #[.val (.ref a), .val (.int p1), .val (.int p2), .val (.int wd)] [(.int (XT.ushr wd (6 : Int32))), (.ref aS)]) _ _ _
    refine Go.dup2 X72 hx (hb hby d_set_29) rfl rfl ?_
    show Go _ _ _ _ T72 (mkF m 30 #[.val (.ref a), .val (.int p1), .val (.int p2), .val (.int wd)] [(.int (XT.ushr wd (6 : Int32))), (.ref aS), (.int (XT.ushr wd (6 : Int32))), (.ref aS)]) _ _ _
    refine Go.laload X72 hx hZ e72 (Af.other W70 r4 (Ne.symm f6)) (neg_of (ush6 uw.1).1) (by rw [(ush6 uw.1).2.2, uw.2.2]; have := nat_clamp f8; omega) (hb hby d_set_30) ?_
    show Go _ _ _ _ T72 (mkF m 31 #[.val (.ref a), .val (.int p1), .val (.int p2), .val (.int wd)] [(.long (sf ((XT.ushr wd (6 : Int32))).toNatClampNeg)), (.int (XT.ushr wd (6 : Int32))), (.ref aS)]) _ _ _
    refine Go.lconst X72 hx (hb hby d_set_31) ?_
    show Go _ _ _ _ T72 (mkF m 32 #[.val (.ref a), .val (.int p1), .val (.int p2), .val (.int wd)] [(.long (1 : Int64)), (.long (sf ((XT.ushr wd (6 : Int32))).toNatClampNeg)), (.int (XT.ushr wd (6 : Int32))), (.ref aS)]) _ _ _
    refine Go.iloadN X72 hx (hb hby d_set_32) rfl ?_
    show Go _ _ _ _ T72 (mkF m 33 #[.val (.ref a), .val (.int p1), .val (.int p2), .val (.int wd)] [(.int wd), (.long (1 : Int64)), (.long (sf ((XT.ushr wd (6 : Int32))).toNatClampNeg)), (.int (XT.ushr wd (6 : Int32))), (.ref aS)]) _ _ _
    refine Go.lshl X72 hx (hb hby d_set_33) ?_
    show Go _ _ _ _ T72 (mkF m 34 #[.val (.ref a), .val (.int p1), .val (.int p2), .val (.int wd)] [(.long ((1 : Int64) <<< ((wd).toInt64 &&& 63))), (.long (sf ((XT.ushr wd (6 : Int32))).toNatClampNeg)), (.int (XT.ushr wd (6 : Int32))), (.ref aS)]) _ _ _
    refine Go.lor X72 hx (hb hby d_set_34) ?_
    show Go _ _ _ _ T72 (mkF m 35 #[.val (.ref a), .val (.int p1), .val (.int p2), .val (.int wd)] [(.long ((sf ((XT.ushr wd (6 : Int32))).toNatClampNeg) ||| ((1 : Int64) <<< ((wd).toInt64 &&& 63)))), (.int (XT.ushr wd (6 : Int32))), (.ref aS)]) _ _ _
    refine Go.lastore X72 hx hZ e72 (Af.other W70 r4 (Ne.symm f6)) (neg_of (ush6 uw.1).1) (by rw [(ush6 uw.1).2.2, uw.2.2]; have := nat_clamp f8; omega) (hb hby d_set_35) ?_
    intro T73 h73 X73 e73 W73 A73
    have N73 := Fr.snoc X73 N70 f3
    have Z73 : n0 ≤ h73.size := by rw [Wr.size W73]; exact Z70
    have B73 : h0.size ≤ h73.size := by rw [Wr.size W73]; exact B70
    have A74 : Af Z h73 aS kS .long 2 (fun i => Value.long ((updJ sf ((XT.ushr wd (6 : Int32))).toNatClampNeg ((sf ((XT.ushr wd (6 : Int32))).toNatClampNeg) ||| ((1 : Int64) <<< ((wd).toInt64 &&& 63)))) i)) := Af.updJ A73
    show Go _ _ _ _ T73 (mkF m 36 #[.val (.ref a), .val (.int p1), .val (.int p2), .val (.int wd)] []) _ _ _
    refine Go.goto X73 hx (hb hby d_set_36) (pc' := 85) (by decide) (by decide) ?_
    show Go _ _ _ _ T73 (mkF m 85 #[.val (.ref a), .val (.int p1), .val (.int p2), .val (.int wd)] []) _ _ _
    refine Go.ret0 X73 hx hlk hret (hb hby d_set_85) (by decide) (by decide) ?_
    rw [e73]
    have F75 := (Fld.other W73 (Fld.other W70 r1 (Or.inl f4)) (Or.inl f5))
    have F76 := (Fld.other W73 (Fld.other W70 r2 (Or.inl f4)) (Or.inl f5))
    exact ⟨rfl, N73, (Keep.wr (Keep.wr (Keep.refl _ _) W70 (Or.inl (List.mem_of_getElem? (i := 1) rfl))) W73 (Or.inl (List.mem_of_getElem? (i := 2) rfl))), (Exa.wr W73 (Exa.wr W70 f0)), ⟨_, _, _, _, F75, F76, (Af.other W73 A71 f6), A74, (by rw [show (!decide (p2 = (0 : Int32))) = true from by simp [c58]]; exact b_set B f8 f9 g_wd)⟩⟩
def Q_get (Z : State) (a : Addr) (p1 : Int32) (aW : Addr) (aS : Addr) (mem : Nat → Bool) (h0 : Heap) (n0 : Nat) (v : Option Value) (h : Heap) (L : List Loc) : Prop := v = some (.int (if (mem) p1.toNatClampNeg = true then (1 : Int32) else (0 : Int32))) ∧ Fr n0 L ∧ h = h0
theorem ef_get (m : MethodId) (x0 : Addr) (x1 : Int32) : entryFrame m #[(.ref x0), (.int x1)] 2 = mkF m 0 #[.val (.ref x0), .val (.int x1)] [] := by first | (simp [entryFrame, mkF, argsToLocals, Value.category]; done) | rfl
set_option maxRecDepth 65536 in
set_option maxHeartbeats 40000000 in
theorem rm_get (l : Launch) (Z : State) (a0 : Array Value) (hw : ∀ d ∈ tables_1, d.before a0 Z = true) (a : Addr) (p1 : Int32) (aW : Addr) (aS : Addr) (mem : Nat → Bool) (h0 : Heap) (n0 : Nat) (Z0 : n0 ≤ h0.size) (f0 : Exa Z h0 a "com/example/collate/collate/analysis/Bits") (f1 : n0 ≤ a) (f2 : n0 ≤ aW) (f3 : n0 ≤ aS) (f4 : a ≠ aW) (f5 : a ≠ aS) (f6 : aW ≠ aS) (f7 : BS Z h0 a aW aS (mem)) (f8 : 0 ≤ p1.toInt) (f9 : p1.toInt < 8192) :
    Met l Z (⟨"com/example/collate/collate/analysis/Bits", "get", "(I)Z"⟩ : MethodName) prog_9_method_2_code 2 (Option.some Jvm.ClassFile.FieldType.boolean) [] ({ frames := 0, cells := 0, slots := 0, locals := 0 } : Room) #[(.ref a), (.int p1)] h0 (Q_get Z a p1 aW aS mem h0 n0) := by
  refine Met.of (plainFor_of_name pn_get) ?_
  intro p e s m below meth c s₁ X0 hx hby hml hZ hown hnm e0 hret hlk
  refine Go.cast (ef_get m a p1) ?_
  show Go _ _ _ _ s₁ (mkF m 0 #[.val (.ref a), .val (.int p1)] []) _ _ _
  have N0 := Fr.nil n0
  obtain ⟨kW, kS, wf, sf, r1, r2, r3, r4, B⟩ := f7
  refine Go.aloadN X0 hx (hb hby d_get_0) rfl rfl ?_
  show Go _ _ _ _ s₁ (mkF m 1 #[.val (.ref a), .val (.int p1)] [(.ref a)]) _ _ _
  refine Go.getF X0 hx hZ hown (w11 hw) Via.refl e0 r1 (hb hby d_get_1) ?_
  intro T77 X77 e77
  show Go _ _ _ _ T77 (mkF m 4 #[.val (.ref a), .val (.int p1)] [(.ref aW)]) _ _ _
  refine Go.iloadN X77 hx (hb hby d_get_4) rfl ?_
  show Go _ _ _ _ T77 (mkF m 5 #[.val (.ref a), .val (.int p1)] [(.int p1), (.ref aW)]) _ _ _
  refine Go.bipush X77 hx (hb hby d_get_5) ?_
  show Go _ _ _ _ T77 (mkF m 7 #[.val (.ref a), .val (.int p1)] [(.int (6 : Int32)), (.int p1), (.ref aW)]) _ _ _
  refine Go.iushr X77 hx (hb hby d_get_7) ?_
  show Go _ _ _ _ T77 (mkF m 8 #[.val (.ref a), .val (.int p1)] [(.int (XT.ushr p1 (6 : Int32))), (.ref aW)]) _ _ _
  refine Go.laload X77 hx hZ e77 r3 (neg_of (ush6 f8).1) (by rw [(ush6 f8).2.2]; have := nat_clamp f8; omega) (hb hby d_get_8) ?_
  show Go _ _ _ _ T77 (mkF m 9 #[.val (.ref a), .val (.int p1)] [(.long (wf ((XT.ushr p1 (6 : Int32))).toNatClampNeg))]) _ _ _
  refine Go.lconst X77 hx (hb hby d_get_9) ?_
  show Go _ _ _ _ T77 (mkF m 10 #[.val (.ref a), .val (.int p1)] [(.long (1 : Int64)), (.long (wf ((XT.ushr p1 (6 : Int32))).toNatClampNeg))]) _ _ _
  refine Go.iloadN X77 hx (hb hby d_get_10) rfl ?_
  show Go _ _ _ _ T77 (mkF m 11 #[.val (.ref a), .val (.int p1)] [(.int p1), (.long (1 : Int64)), (.long (wf ((XT.ushr p1 (6 : Int32))).toNatClampNeg))]) _ _ _
  refine Go.lshl X77 hx (hb hby d_get_11) ?_
  show Go _ _ _ _ T77 (mkF m 12 #[.val (.ref a), .val (.int p1)] [(.long ((1 : Int64) <<< ((p1).toInt64 &&& 63))), (.long (wf ((XT.ushr p1 (6 : Int32))).toNatClampNeg))]) _ _ _
  refine Go.land X77 hx (hb hby d_get_12) ?_
  show Go _ _ _ _ T77 (mkF m 13 #[.val (.ref a), .val (.int p1)] [(.long ((wf ((XT.ushr p1 (6 : Int32))).toNatClampNeg) &&& ((1 : Int64) <<< ((p1).toInt64 &&& 63))))]) _ _ _
  refine Go.lconst X77 hx (hb hby d_get_13) ?_
  show Go _ _ _ _ T77 (mkF m 14 #[.val (.ref a), .val (.int p1)] [(.long (0 : Int64)), (.long ((wf ((XT.ushr p1 (6 : Int32))).toNatClampNeg) &&& ((1 : Int64) <<< ((p1).toInt64 &&& 63))))]) _ _ _
  refine Go.lcmp X77 hx (hb hby d_get_14) ?_
  show Go _ _ _ _ T77 (mkF m 15 #[.val (.ref a), .val (.int p1)] [(.int (XT.cmpL ((wf ((XT.ushr p1 (6 : Int32))).toNatClampNeg) &&& ((1 : Int64) <<< ((p1).toInt64 &&& 63))) (0 : Int64)))]) _ _ _
  rcases Decidable.em (((wf ((XT.ushr p1 (6 : Int32))).toNatClampNeg) &&& ((1 : Int64) <<< ((p1).toInt64 &&& 63))) = (0 : Int64)) with c78 | c78
  · refine Go.ifYes X77 hx (hb hby d_get_15) (XT.ll_eq_t c78) (pc' := 22) (by decide) (by decide) ?_
    show Go _ _ _ _ T77 (mkF m 22 #[.val (.ref a), .val (.int p1)] []) _ _ _
    refine Go.iconst X77 hx (hb hby d_get_22) ?_
    show Go _ _ _ _ T77 (mkF m 23 #[.val (.ref a), .val (.int p1)] [(.int (0 : Int32))]) _ _ _
    refine Go.retZ X77 hx hlk hret (by decide) (hb hby d_get_23) (by decide) (by decide) ?_
    rw [e77]
    exact ⟨by rw [if_neg (by rw [(b_get B f8 f9).mp c78]; decide)], N0, rfl⟩
  · refine Go.ifNo X77 hx (hb hby d_get_15) (XT.ll_eq_f c78) ?_
    show Go _ _ _ _ T77 (mkF m 18 #[.val (.ref a), .val (.int p1)] []) _ _ _
    refine Go.iconst X77 hx (hb hby d_get_18) ?_
    show Go _ _ _ _ T77 (mkF m 19 #[.val (.ref a), .val (.int p1)] [(.int (1 : Int32))]) _ _ _
    refine Go.goto X77 hx (hb hby d_get_19) (pc' := 23) (by decide) (by decide) ?_
    show Go _ _ _ _ T77 (mkF m 23 #[.val (.ref a), .val (.int p1)] [(.int (1 : Int32))]) _ _ _
    refine Go.retZ X77 hx hlk hret (by decide) (hb hby d_get_23) (by decide) (by decide) ?_
    rw [e77]
    exact ⟨by rw [if_pos (by cases q : mem p1.toNatClampNeg with | false => exact absurd ((b_get B f8 f9).mpr q) c78 | true => rfl)], N0, rfl⟩
def Q_nw (Z : State) (a : Addr) (p1 : Int32) (aS : Addr) (kS : ClassId) (wf : Nat → Int64) (sf : Nat → Int64) (h0 : Heap) (n0 : Nat) (v : Option Value) (h : Heap) (L : List Loc) : Prop := ∃ (r : Int32), v = some (.int r) ∧ Fr n0 L ∧ h = h0 ∧ NW wf p1.toNatClampNeg r
theorem ef_nw (m : MethodId) (x0 : Addr) (x1 : Int32) : entryFrame m #[(.ref x0), (.int x1)] 5 = mkF m 0 #[.val (.ref x0), .val (.int x1), .unset, .unset, .unset] [] := by first | (simp [entryFrame, mkF, argsToLocals, Value.category]; done) | rfl
set_option maxRecDepth 65536 in
set_option maxHeartbeats 40000000 in
theorem rm_nw (l : Launch) (Z : State) (a0 : Array Value) (hw : ∀ d ∈ tables_1, d.before a0 Z = true) (a : Addr) (p1 : Int32) (aS : Addr) (kS : ClassId) (wf : Nat → Int64) (sf : Nat → Int64) (h0 : Heap) (n0 : Nat) (Z0 : n0 ≤ h0.size) (f0 : Fld Z h0 a "com/example/collate/collate/analysis/Bits" "summary" "[J" (.ref aS)) (f1 : Af Z h0 aS kS .long 2 (fun i => Value.long (sf i))) (f2 : 0 ≤ p1.toInt) (f3 : p1.toInt ≤ 128) (f4 : SI wf sf) :
    Met l Z (⟨"com/example/collate/collate/analysis/Bits", "nextWord", "(I)I"⟩ : MethodName) prog_9_method_6_code 5 (Option.some Jvm.ClassFile.FieldType.int) [] ({ frames := 2, cells := 0, slots := 0, locals := 29 } : Room) #[(.ref a), (.int p1)] h0 (Q_nw Z a p1 aS kS wf sf h0 n0) := by
  refine Met.of (plainFor_of_name pn_nw) ?_
  intro p e s m below meth c s₁ X0 hx hby hml hZ hown hnm e0 hret hlk
  refine Go.cast (ef_nw m a p1) ?_
  show Go _ _ _ _ s₁ (mkF m 0 #[.val (.ref a), .val (.int p1), .unset, .unset, .unset] []) _ _ _
  have N0 := Fr.nil n0
  refine Go.iloadN X0 hx (hb hby d_nw_0) rfl ?_
  show Go _ _ _ _ s₁ (mkF m 1 #[.val (.ref a), .val (.int p1), .unset, .unset, .unset] [(.int p1)]) _ _ _
  refine Go.bipush X0 hx (hb hby d_nw_1) ?_
  show Go _ _ _ _ s₁ (mkF m 3 #[.val (.ref a), .val (.int p1), .unset, .unset, .unset] [(.int (6 : Int32)), (.int p1)]) _ _ _
  refine Go.iushr X0 hx (hb hby d_nw_3) ?_
  show Go _ _ _ _ s₁ (mkF m 4 #[.val (.ref a), .val (.int p1), .unset, .unset, .unset] [(.int (XT.ushr p1 (6 : Int32)))]) _ _ _
  refine Go.istoreN X0 hx (hb hby d_nw_4) (l' := #[.val (.ref a), .val (.int p1), .val (.int (XT.ushr p1 (6 : Int32))), .unset, .unset]) rfl ?_
  show Go _ _ _ _ s₁ (mkF m 5 #[.val (.ref a), .val (.int p1), .val (.int (XT.ushr p1 (6 : Int32))), .unset, .unset] []) _ _ _
  refine (show ∀ wt : Int32, wt = (XT.ushr p1 (6 : Int32)) → Go _ _ _ _ s₁ (mkF m 5 #[.val (.ref a), .val (.int p1), .val (.int wt), .unset, .unset] []) _ _ _ from ?_) _ rfl
  intro wt g_wt
  have ua := ush6 f2
  rw [← g_wt] at ua
  have cp := nat_clamp f2
  refine Go.iloadN X0 hx (hb hby d_nw_5) rfl ?_
  show Go _ _ _ _ s₁ (mkF m 6 #[.val (.ref a), .val (.int p1), .val (.int wt), .unset, .unset] [(.int wt)]) _ _ _
  refine Go.aloadN X0 hx (hb hby d_nw_6) rfl rfl ?_
  show Go _ _ _ _ s₁ (mkF m 7 #[.val (.ref a), .val (.int p1), .val (.int wt), .unset, .unset] [(.ref a), (.int wt)]) _ _ _
  refine Go.getF X0 hx hZ hown (w13 hw) Via.refl e0 f0 (hb hby d_nw_7) ?_
  intro T79 X79 e79
  show Go _ _ _ _ T79 (mkF m 10 #[.val (.ref a), .val (.int p1), .val (.int wt), .unset, .unset] [(.ref aS), (.int wt)]) _ _ _
  refine Go.alen X79 hx hZ e79 f1 (hb hby d_nw_10) ?_
  show Go _ _ _ _ T79 (mkF m 11 #[.val (.ref a), .val (.int p1), .val (.int wt), .unset, .unset] [(.int (2 : Int32)), (.int wt)]) _ _ _
  rcases Decidable.em (wt < (2 : Int32)) with c80 | c80
  · refine Go.icmpYes X79 hx (hb hby d_nw_11) (XT.ii_lt_t c80) (pc' := 16) (by decide) (by decide) ?_
    show Go _ _ _ _ T79 (mkF m 16 #[.val (.ref a), .val (.int p1), .val (.int wt), .unset, .unset] []) _ _ _
    have hw2 : wt = (0 : Int32) ∨ wt = (1 : Int32) := own_cases2 ua.1 (by have z := c80; rw [Int32.lt_iff_toInt_lt] at z; exact z)
    rcases hw2 with rfl | rfl
    · have kk : p1.toNatClampNeg / 64 = 0 := ua.2.2.symm
      show Go _ _ _ _ T79 (mkF m 16 #[.val (.ref a), .val (.int p1), .val (.int (0 : Int32)), .unset, .unset] []) _ _ _
      refine Go.aloadN X79 hx (hb hby d_nw_16) rfl rfl ?_
      show Go _ _ _ _ T79 (mkF m 17 #[.val (.ref a), .val (.int p1), .val (.int (0 : Int32)), .unset, .unset] [(.ref a)]) _ _ _
      refine Go.getF X79 hx hZ hown (w13 hw) Via.refl e79 f0 (hb hby d_nw_17) ?_
      intro T81 X81 e81
      show Go _ _ _ _ T81 (mkF m 20 #[.val (.ref a), .val (.int p1), .val (.int (0 : Int32)), .unset, .unset] [(.ref aS)]) _ _ _
      refine Go.iloadN X81 hx (hb hby d_nw_20) rfl ?_
      show Go _ _ _ _ T81 (mkF m 21 #[.val (.ref a), .val (.int p1), .val (.int (0 : Int32)), .unset, .unset] [(.int (0 : Int32)), (.ref aS)]) _ _ _
      refine Go.laload X81 hx hZ e81 f1 (by decide) (by decide) (hb hby d_nw_21) ?_
      show Go _ _ _ _ T81 (mkF m 22 #[.val (.ref a), .val (.int p1), .val (.int (0 : Int32)), .unset, .unset] [(.long (sf 0))]) _ _ _
      refine Go.ldc2 X81 hx hZ hown (w20 hw) (hb hby d_nw_22) ?_
      show Go _ _ _ _ T81 (mkF m 25 #[.val (.ref a), .val (.int p1), .val (.int (0 : Int32)), .unset, .unset] [(.long (-1 : Int64)), (.long (sf 0))]) _ _ _
      refine Go.iloadN X81 hx (hb hby d_nw_25) rfl ?_
      show Go _ _ _ _ T81 (mkF m 26 #[.val (.ref a), .val (.int p1), .val (.int (0 : Int32)), .unset, .unset] [(.int p1), (.long (-1 : Int64)), (.long (sf 0))]) _ _ _
      refine Go.lshl X81 hx (hb hby d_nw_26) ?_
      show Go _ _ _ _ T81 (mkF m 27 #[.val (.ref a), .val (.int p1), .val (.int (0 : Int32)), .unset, .unset] [(.long ((-1 : Int64) <<< ((p1).toInt64 &&& 63))), (.long (sf 0))]) _ _ _
      refine Go.land X81 hx (hb hby d_nw_27) ?_
      show Go _ _ _ _ T81 (mkF m 28 #[.val (.ref a), .val (.int p1), .val (.int (0 : Int32)), .unset, .unset] [(.long ((sf 0) &&& ((-1 : Int64) <<< ((p1).toInt64 &&& 63))))]) _ _ _
      refine Go.lstoreN X81 hx (hb hby d_nw_28) (l' := #[.val (.ref a), .val (.int p1), .val (.int (0 : Int32)), .val (.long ((sf 0) &&& ((-1 : Int64) <<< ((p1).toInt64 &&& 63)))), .second]) rfl ?_
      show Go _ _ _ _ T81 (mkF m 29 #[.val (.ref a), .val (.int p1), .val (.int (0 : Int32)), .val (.long ((sf 0) &&& ((-1 : Int64) <<< ((p1).toInt64 &&& 63)))), .second] []) _ _ _
      refine (show ∀ bs : Int64, bs = ((sf 0) &&& ((-1 : Int64) <<< ((p1).toInt64 &&& 63))) → Go _ _ _ _ T81 (mkF m 29 #[.val (.ref a), .val (.int p1), .val (.int (0 : Int32)), .val (.long bs), .second] []) _ _ _ from ?_) _ rfl
      intro bs g_bs
      refine Go.lloadN X81 hx (hb hby d_nw_29) rfl ?_
      show Go _ _ _ _ T81 (mkF m 30 #[.val (.ref a), .val (.int p1), .val (.int (0 : Int32)), .val (.long bs), .second] [(.long bs)]) _ _ _
      refine Go.lconst X81 hx (hb hby d_nw_30) ?_
      show Go _ _ _ _ T81 (mkF m 31 #[.val (.ref a), .val (.int p1), .val (.int (0 : Int32)), .val (.long bs), .second] [(.long (0 : Int64)), (.long bs)]) _ _ _
      refine Go.lcmp X81 hx (hb hby d_nw_31) ?_
      show Go _ _ _ _ T81 (mkF m 32 #[.val (.ref a), .val (.int p1), .val (.int (0 : Int32)), .val (.long bs), .second] [(.int (XT.cmpL bs (0 : Int64)))]) _ _ _
      rcases Decidable.em (bs = (0 : Int64)) with c82 | c82
      · refine Go.ifNo X81 hx (hb hby d_nw_32) (XT.ll_ne_f c82) ?_
        show Go _ _ _ _ T81 (mkF m 35 #[.val (.ref a), .val (.int p1), .val (.int (0 : Int32)), .val (.long bs), .second] []) _ _ _
        refine Go.iinc X81 hx (hb hby d_nw_35) rfl (l' := #[.val (.ref a), .val (.int p1), .val (.int (1 : Int32)), .val (.long bs), .second]) rfl ?_
        show Go _ _ _ _ T81 (mkF m 38 #[.val (.ref a), .val (.int p1), .val (.int (1 : Int32)), .val (.long bs), .second] []) _ _ _
        refine Go.iloadN X81 hx (hb hby d_nw_38) rfl ?_
        show Go _ _ _ _ T81 (mkF m 39 #[.val (.ref a), .val (.int p1), .val (.int (1 : Int32)), .val (.long bs), .second] [(.int (1 : Int32))]) _ _ _
        refine Go.aloadN X81 hx (hb hby d_nw_39) rfl rfl ?_
        show Go _ _ _ _ T81 (mkF m 40 #[.val (.ref a), .val (.int p1), .val (.int (1 : Int32)), .val (.long bs), .second] [(.ref a), (.int (1 : Int32))]) _ _ _
        refine Go.getF X81 hx hZ hown (w13 hw) Via.refl e81 f0 (hb hby d_nw_40) ?_
        intro T83 X83 e83
        show Go _ _ _ _ T83 (mkF m 43 #[.val (.ref a), .val (.int p1), .val (.int (1 : Int32)), .val (.long bs), .second] [(.ref aS), (.int (1 : Int32))]) _ _ _
        refine Go.alen X83 hx hZ e83 f1 (hb hby d_nw_43) ?_
        show Go _ _ _ _ T83 (mkF m 44 #[.val (.ref a), .val (.int p1), .val (.int (1 : Int32)), .val (.long bs), .second] [(.int (2 : Int32)), (.int (1 : Int32))]) _ _ _
        refine Go.icmpNo X83 hx (hb hby d_nw_44) (XT.ii_ge_f (by decide)) ?_
        show Go _ _ _ _ T83 (mkF m 47 #[.val (.ref a), .val (.int p1), .val (.int (1 : Int32)), .val (.long bs), .second] []) _ _ _
        refine Go.aloadN X83 hx (hb hby d_nw_47) rfl rfl ?_
        show Go _ _ _ _ T83 (mkF m 48 #[.val (.ref a), .val (.int p1), .val (.int (1 : Int32)), .val (.long bs), .second] [(.ref a)]) _ _ _
        refine Go.getF X83 hx hZ hown (w13 hw) Via.refl e83 f0 (hb hby d_nw_48) ?_
        intro T84 X84 e84
        show Go _ _ _ _ T84 (mkF m 51 #[.val (.ref a), .val (.int p1), .val (.int (1 : Int32)), .val (.long bs), .second] [(.ref aS)]) _ _ _
        refine Go.iloadN X84 hx (hb hby d_nw_51) rfl ?_
        show Go _ _ _ _ T84 (mkF m 52 #[.val (.ref a), .val (.int p1), .val (.int (1 : Int32)), .val (.long bs), .second] [(.int (1 : Int32)), (.ref aS)]) _ _ _
        refine Go.laload X84 hx hZ e84 f1 (by decide) (by decide) (hb hby d_nw_52) ?_
        show Go _ _ _ _ T84 (mkF m 53 #[.val (.ref a), .val (.int p1), .val (.int (1 : Int32)), .val (.long bs), .second] [(.long (sf 1))]) _ _ _
        refine Go.lstoreN X84 hx (hb hby d_nw_53) (l' := #[.val (.ref a), .val (.int p1), .val (.int (1 : Int32)), .val (.long (sf 1)), .second]) rfl ?_
        show Go _ _ _ _ T84 (mkF m 54 #[.val (.ref a), .val (.int p1), .val (.int (1 : Int32)), .val (.long (sf 1)), .second] []) _ _ _
        refine Go.goto X84 hx (hb hby d_nw_54) (pc' := 29) (by decide) (by decide) ?_
        show Go _ _ _ _ T84 (mkF m 29 #[.val (.ref a), .val (.int p1), .val (.int (1 : Int32)), .val (.long (sf 1)), .second] []) _ _ _
        refine Go.lloadN X84 hx (hb hby d_nw_29) rfl ?_
        show Go _ _ _ _ T84 (mkF m 30 #[.val (.ref a), .val (.int p1), .val (.int (1 : Int32)), .val (.long (sf 1)), .second] [(.long (sf 1))]) _ _ _
        refine Go.lconst X84 hx (hb hby d_nw_30) ?_
        show Go _ _ _ _ T84 (mkF m 31 #[.val (.ref a), .val (.int p1), .val (.int (1 : Int32)), .val (.long (sf 1)), .second] [(.long (0 : Int64)), (.long (sf 1))]) _ _ _
        refine Go.lcmp X84 hx (hb hby d_nw_31) ?_
        show Go _ _ _ _ T84 (mkF m 32 #[.val (.ref a), .val (.int p1), .val (.int (1 : Int32)), .val (.long (sf 1)), .second] [(.int (XT.cmpL (sf 1) (0 : Int64)))]) _ _ _
        rcases Decidable.em ((sf 1) = (0 : Int64)) with c85 | c85
        · refine Go.ifNo X84 hx (hb hby d_nw_32) (XT.ll_ne_f c85) ?_
          show Go _ _ _ _ T84 (mkF m 35 #[.val (.ref a), .val (.int p1), .val (.int (1 : Int32)), .val (.long (sf 1)), .second] []) _ _ _
          refine Go.iinc X84 hx (hb hby d_nw_35) rfl (l' := #[.val (.ref a), .val (.int p1), .val (.int (2 : Int32)), .val (.long (sf 1)), .second]) rfl ?_
          show Go _ _ _ _ T84 (mkF m 38 #[.val (.ref a), .val (.int p1), .val (.int (2 : Int32)), .val (.long (sf 1)), .second] []) _ _ _
          refine Go.iloadN X84 hx (hb hby d_nw_38) rfl ?_
          show Go _ _ _ _ T84 (mkF m 39 #[.val (.ref a), .val (.int p1), .val (.int (2 : Int32)), .val (.long (sf 1)), .second] [(.int (2 : Int32))]) _ _ _
          refine Go.aloadN X84 hx (hb hby d_nw_39) rfl rfl ?_
          show Go _ _ _ _ T84 (mkF m 40 #[.val (.ref a), .val (.int p1), .val (.int (2 : Int32)), .val (.long (sf 1)), .second] [(.ref a), (.int (2 : Int32))]) _ _ _
          refine Go.getF X84 hx hZ hown (w13 hw) Via.refl e84 f0 (hb hby d_nw_40) ?_
          intro T86 X86 e86
          show Go _ _ _ _ T86 (mkF m 43 #[.val (.ref a), .val (.int p1), .val (.int (2 : Int32)), .val (.long (sf 1)), .second] [(.ref aS), (.int (2 : Int32))]) _ _ _
          refine Go.alen X86 hx hZ e86 f1 (hb hby d_nw_43) ?_
          show Go _ _ _ _ T86 (mkF m 44 #[.val (.ref a), .val (.int p1), .val (.int (2 : Int32)), .val (.long (sf 1)), .second] [(.int (2 : Int32)), (.int (2 : Int32))]) _ _ _
          refine Go.icmpYes X86 hx (hb hby d_nw_44) (XT.ii_ge_t (by decide)) (pc' := 57) (by decide) (by decide) ?_
          show Go _ _ _ _ T86 (mkF m 57 #[.val (.ref a), .val (.int p1), .val (.int (2 : Int32)), .val (.long (sf 1)), .second] []) _ _ _
          refine Go.lloadN X86 hx (hb hby d_nw_57) rfl ?_
          show Go _ _ _ _ T86 (mkF m 58 #[.val (.ref a), .val (.int p1), .val (.int (2 : Int32)), .val (.long (sf 1)), .second] [(.long (sf 1))]) _ _ _
          refine Go.lconst X86 hx (hb hby d_nw_58) ?_
          show Go _ _ _ _ T86 (mkF m 59 #[.val (.ref a), .val (.int p1), .val (.int (2 : Int32)), .val (.long (sf 1)), .second] [(.long (0 : Int64)), (.long (sf 1))]) _ _ _
          refine Go.lcmp X86 hx (hb hby d_nw_59) ?_
          show Go _ _ _ _ T86 (mkF m 60 #[.val (.ref a), .val (.int p1), .val (.int (2 : Int32)), .val (.long (sf 1)), .second] [(.int (XT.cmpL (sf 1) (0 : Int64)))]) _ _ _
          refine Go.ifNo X86 hx (hb hby d_nw_60) (XT.ll_ne_f c85) ?_
          show Go _ _ _ _ T86 (mkF m 63 #[.val (.ref a), .val (.int p1), .val (.int (2 : Int32)), .val (.long (sf 1)), .second] []) _ _ _
          refine Go.iconst X86 hx (hb hby d_nw_63) ?_
          show Go _ _ _ _ T86 (mkF m 64 #[.val (.ref a), .val (.int p1), .val (.int (2 : Int32)), .val (.long (sf 1)), .second] [(.int (-1 : Int32))]) _ _ _
          refine Go.goto X86 hx (hb hby d_nw_64) (pc' := 76) (by decide) (by decide) ?_
          show Go _ _ _ _ T86 (mkF m 76 #[.val (.ref a), .val (.int p1), .val (.int (2 : Int32)), .val (.long (sf 1)), .second] [(.int (-1 : Int32))]) _ _ _
          refine Go.retI X86 hx hlk hret (hb hby d_nw_76) (by decide) (by decide) ?_
          rw [e86]
          exact ⟨_, rfl, N0, rfl, nw_c f4 f2 (by omega) g_bs c82 c85⟩
        · refine Go.ifYes X84 hx (hb hby d_nw_32) (XT.ll_ne_t c85) (pc' := 57) (by decide) (by decide) ?_
          show Go _ _ _ _ T84 (mkF m 57 #[.val (.ref a), .val (.int p1), .val (.int (1 : Int32)), .val (.long (sf 1)), .second] []) _ _ _
          refine Go.lloadN X84 hx (hb hby d_nw_57) rfl ?_
          show Go _ _ _ _ T84 (mkF m 58 #[.val (.ref a), .val (.int p1), .val (.int (1 : Int32)), .val (.long (sf 1)), .second] [(.long (sf 1))]) _ _ _
          refine Go.lconst X84 hx (hb hby d_nw_58) ?_
          show Go _ _ _ _ T84 (mkF m 59 #[.val (.ref a), .val (.int p1), .val (.int (1 : Int32)), .val (.long (sf 1)), .second] [(.long (0 : Int64)), (.long (sf 1))]) _ _ _
          refine Go.lcmp X84 hx (hb hby d_nw_59) ?_
          show Go _ _ _ _ T84 (mkF m 60 #[.val (.ref a), .val (.int p1), .val (.int (1 : Int32)), .val (.long (sf 1)), .second] [(.int (XT.cmpL (sf 1) (0 : Int64)))]) _ _ _
          refine Go.ifYes X84 hx (hb hby d_nw_60) (XT.ll_ne_t c85) (pc' := 67) (by decide) (by decide) ?_
          show Go _ _ _ _ T84 (mkF m 67 #[.val (.ref a), .val (.int p1), .val (.int (1 : Int32)), .val (.long (sf 1)), .second] []) _ _ _
          refine Go.iloadN X84 hx (hb hby d_nw_67) rfl ?_
          show Go _ _ _ _ T84 (mkF m 68 #[.val (.ref a), .val (.int p1), .val (.int (1 : Int32)), .val (.long (sf 1)), .second] [(.int (1 : Int32))]) _ _ _
          refine Go.bipush X84 hx (hb hby d_nw_68) ?_
          show Go _ _ _ _ T84 (mkF m 70 #[.val (.ref a), .val (.int p1), .val (.int (1 : Int32)), .val (.long (sf 1)), .second] [(.int (6 : Int32)), (.int (1 : Int32))]) _ _ _
          refine Go.ishl X84 hx (hb hby d_nw_70) ?_
          show Go _ _ _ _ T84 (mkF m 71 #[.val (.ref a), .val (.int p1), .val (.int (1 : Int32)), .val (.long (sf 1)), .second] [(.int (64 : Int32))]) _ _ _
          refine Go.lloadN X84 hx (hb hby d_nw_71) rfl ?_
          show Go _ _ _ _ T84 (mkF m 72 #[.val (.ref a), .val (.int p1), .val (.int (1 : Int32)), .val (.long (sf 1)), .second] [(.long (sf 1)), (.int (64 : Int32))]) _ _ _
          refine Go.callS (W := 1) (argsL := [(.long (sf 1))]) (rest := [(.int (64 : Int32))]) X84 hx hZ hown (w64 hw) (w65 hw) (w57 hw) (w66 hw) (by decide) (rm_ntzL l Z a0 hw ((sf 1)) h0) e84 (lenOf pd_1 rfl) (hb hby d_nw_72) (by rw [hml]; rfl) rfl (Nat.le_of_eq rfl) (by decide) (by decide) (by decide) (by decide) ?_
          intro v87 T87 L87 X87 q87
          obtain ⟨rfl, rfl, e87⟩ := q87
          have N87 := Fr.app N0 (Fr.nil n0)
          show Go _ _ _ _ T87 (mkF m 75 #[.val (.ref a), .val (.int p1), .val (.int (1 : Int32)), .val (.long (sf 1)), .second] [(.int (F_ntzL (sf 1))), (.int (64 : Int32))]) _ _ _
          refine Go.iadd X87 hx (hb hby d_nw_75) ?_
          show Go _ _ _ _ T87 (mkF m 76 #[.val (.ref a), .val (.int p1), .val (.int (1 : Int32)), .val (.long (sf 1)), .second] [(.int ((64 : Int32) + (F_ntzL (sf 1))))]) _ _ _
          refine Go.retI X87 hx hlk hret (hb hby d_nw_76) (by decide) (by decide) ?_
          rw [e87]
          exact ⟨_, rfl, N87, rfl, nw_b f4 f2 (by omega) g_bs c82 c85⟩
      · refine Go.ifYes X81 hx (hb hby d_nw_32) (XT.ll_ne_t c82) (pc' := 57) (by decide) (by decide) ?_
        show Go _ _ _ _ T81 (mkF m 57 #[.val (.ref a), .val (.int p1), .val (.int (0 : Int32)), .val (.long bs), .second] []) _ _ _
        refine Go.lloadN X81 hx (hb hby d_nw_57) rfl ?_
        show Go _ _ _ _ T81 (mkF m 58 #[.val (.ref a), .val (.int p1), .val (.int (0 : Int32)), .val (.long bs), .second] [(.long bs)]) _ _ _
        refine Go.lconst X81 hx (hb hby d_nw_58) ?_
        show Go _ _ _ _ T81 (mkF m 59 #[.val (.ref a), .val (.int p1), .val (.int (0 : Int32)), .val (.long bs), .second] [(.long (0 : Int64)), (.long bs)]) _ _ _
        refine Go.lcmp X81 hx (hb hby d_nw_59) ?_
        show Go _ _ _ _ T81 (mkF m 60 #[.val (.ref a), .val (.int p1), .val (.int (0 : Int32)), .val (.long bs), .second] [(.int (XT.cmpL bs (0 : Int64)))]) _ _ _
        refine Go.ifYes X81 hx (hb hby d_nw_60) (XT.ll_ne_t c82) (pc' := 67) (by decide) (by decide) ?_
        show Go _ _ _ _ T81 (mkF m 67 #[.val (.ref a), .val (.int p1), .val (.int (0 : Int32)), .val (.long bs), .second] []) _ _ _
        refine Go.iloadN X81 hx (hb hby d_nw_67) rfl ?_
        show Go _ _ _ _ T81 (mkF m 68 #[.val (.ref a), .val (.int p1), .val (.int (0 : Int32)), .val (.long bs), .second] [(.int (0 : Int32))]) _ _ _
        refine Go.bipush X81 hx (hb hby d_nw_68) ?_
        show Go _ _ _ _ T81 (mkF m 70 #[.val (.ref a), .val (.int p1), .val (.int (0 : Int32)), .val (.long bs), .second] [(.int (6 : Int32)), (.int (0 : Int32))]) _ _ _
        refine Go.ishl X81 hx (hb hby d_nw_70) ?_
        show Go _ _ _ _ T81 (mkF m 71 #[.val (.ref a), .val (.int p1), .val (.int (0 : Int32)), .val (.long bs), .second] [(.int (0 : Int32))]) _ _ _
        refine Go.lloadN X81 hx (hb hby d_nw_71) rfl ?_
        show Go _ _ _ _ T81 (mkF m 72 #[.val (.ref a), .val (.int p1), .val (.int (0 : Int32)), .val (.long bs), .second] [(.long bs), (.int (0 : Int32))]) _ _ _
        refine Go.callS (W := 1) (argsL := [(.long bs)]) (rest := [(.int (0 : Int32))]) X81 hx hZ hown (w64 hw) (w65 hw) (w57 hw) (w66 hw) (by decide) (rm_ntzL l Z a0 hw bs h0) e81 (lenOf pd_1 rfl) (hb hby d_nw_72) (by rw [hml]; rfl) rfl (Nat.le_of_eq rfl) (by decide) (by decide) (by decide) (by decide) ?_
        intro v88 T88 L88 X88 q88
        obtain ⟨rfl, rfl, e88⟩ := q88
        have N88 := Fr.app N0 (Fr.nil n0)
        show Go _ _ _ _ T88 (mkF m 75 #[.val (.ref a), .val (.int p1), .val (.int (0 : Int32)), .val (.long bs), .second] [(.int (F_ntzL bs)), (.int (0 : Int32))]) _ _ _
        refine Go.iadd X88 hx (hb hby d_nw_75) ?_
        show Go _ _ _ _ T88 (mkF m 76 #[.val (.ref a), .val (.int p1), .val (.int (0 : Int32)), .val (.long bs), .second] [(.int ((0 : Int32) + (F_ntzL bs)))]) _ _ _
        refine Go.retI X88 hx hlk hret (hb hby d_nw_76) (by decide) (by decide) ?_
        rw [e88]
        exact ⟨_, rfl, N88, rfl, nw_a f4 f2 (by omega) g_bs c82⟩
    · have kk : p1.toNatClampNeg / 64 = 1 := ua.2.2.symm
      show Go _ _ _ _ T79 (mkF m 16 #[.val (.ref a), .val (.int p1), .val (.int (1 : Int32)), .unset, .unset] []) _ _ _
      refine Go.aloadN X79 hx (hb hby d_nw_16) rfl rfl ?_
      show Go _ _ _ _ T79 (mkF m 17 #[.val (.ref a), .val (.int p1), .val (.int (1 : Int32)), .unset, .unset] [(.ref a)]) _ _ _
      refine Go.getF X79 hx hZ hown (w13 hw) Via.refl e79 f0 (hb hby d_nw_17) ?_
      intro T89 X89 e89
      show Go _ _ _ _ T89 (mkF m 20 #[.val (.ref a), .val (.int p1), .val (.int (1 : Int32)), .unset, .unset] [(.ref aS)]) _ _ _
      refine Go.iloadN X89 hx (hb hby d_nw_20) rfl ?_
      show Go _ _ _ _ T89 (mkF m 21 #[.val (.ref a), .val (.int p1), .val (.int (1 : Int32)), .unset, .unset] [(.int (1 : Int32)), (.ref aS)]) _ _ _
      refine Go.laload X89 hx hZ e89 f1 (by decide) (by decide) (hb hby d_nw_21) ?_
      show Go _ _ _ _ T89 (mkF m 22 #[.val (.ref a), .val (.int p1), .val (.int (1 : Int32)), .unset, .unset] [(.long (sf 1))]) _ _ _
      refine Go.ldc2 X89 hx hZ hown (w20 hw) (hb hby d_nw_22) ?_
      show Go _ _ _ _ T89 (mkF m 25 #[.val (.ref a), .val (.int p1), .val (.int (1 : Int32)), .unset, .unset] [(.long (-1 : Int64)), (.long (sf 1))]) _ _ _
      refine Go.iloadN X89 hx (hb hby d_nw_25) rfl ?_
      show Go _ _ _ _ T89 (mkF m 26 #[.val (.ref a), .val (.int p1), .val (.int (1 : Int32)), .unset, .unset] [(.int p1), (.long (-1 : Int64)), (.long (sf 1))]) _ _ _
      refine Go.lshl X89 hx (hb hby d_nw_26) ?_
      show Go _ _ _ _ T89 (mkF m 27 #[.val (.ref a), .val (.int p1), .val (.int (1 : Int32)), .unset, .unset] [(.long ((-1 : Int64) <<< ((p1).toInt64 &&& 63))), (.long (sf 1))]) _ _ _
      refine Go.land X89 hx (hb hby d_nw_27) ?_
      show Go _ _ _ _ T89 (mkF m 28 #[.val (.ref a), .val (.int p1), .val (.int (1 : Int32)), .unset, .unset] [(.long ((sf 1) &&& ((-1 : Int64) <<< ((p1).toInt64 &&& 63))))]) _ _ _
      refine Go.lstoreN X89 hx (hb hby d_nw_28) (l' := #[.val (.ref a), .val (.int p1), .val (.int (1 : Int32)), .val (.long ((sf 1) &&& ((-1 : Int64) <<< ((p1).toInt64 &&& 63)))), .second]) rfl ?_
      show Go _ _ _ _ T89 (mkF m 29 #[.val (.ref a), .val (.int p1), .val (.int (1 : Int32)), .val (.long ((sf 1) &&& ((-1 : Int64) <<< ((p1).toInt64 &&& 63)))), .second] []) _ _ _
      refine (show ∀ bs : Int64, bs = ((sf 1) &&& ((-1 : Int64) <<< ((p1).toInt64 &&& 63))) → Go _ _ _ _ T89 (mkF m 29 #[.val (.ref a), .val (.int p1), .val (.int (1 : Int32)), .val (.long bs), .second] []) _ _ _ from ?_) _ rfl
      intro bs g_bs
      refine Go.lloadN X89 hx (hb hby d_nw_29) rfl ?_
      show Go _ _ _ _ T89 (mkF m 30 #[.val (.ref a), .val (.int p1), .val (.int (1 : Int32)), .val (.long bs), .second] [(.long bs)]) _ _ _
      refine Go.lconst X89 hx (hb hby d_nw_30) ?_
      show Go _ _ _ _ T89 (mkF m 31 #[.val (.ref a), .val (.int p1), .val (.int (1 : Int32)), .val (.long bs), .second] [(.long (0 : Int64)), (.long bs)]) _ _ _
      refine Go.lcmp X89 hx (hb hby d_nw_31) ?_
      show Go _ _ _ _ T89 (mkF m 32 #[.val (.ref a), .val (.int p1), .val (.int (1 : Int32)), .val (.long bs), .second] [(.int (XT.cmpL bs (0 : Int64)))]) _ _ _
      rcases Decidable.em (bs = (0 : Int64)) with c90 | c90
      · refine Go.ifNo X89 hx (hb hby d_nw_32) (XT.ll_ne_f c90) ?_
        show Go _ _ _ _ T89 (mkF m 35 #[.val (.ref a), .val (.int p1), .val (.int (1 : Int32)), .val (.long bs), .second] []) _ _ _
        refine Go.iinc X89 hx (hb hby d_nw_35) rfl (l' := #[.val (.ref a), .val (.int p1), .val (.int (2 : Int32)), .val (.long bs), .second]) rfl ?_
        show Go _ _ _ _ T89 (mkF m 38 #[.val (.ref a), .val (.int p1), .val (.int (2 : Int32)), .val (.long bs), .second] []) _ _ _
        refine Go.iloadN X89 hx (hb hby d_nw_38) rfl ?_
        show Go _ _ _ _ T89 (mkF m 39 #[.val (.ref a), .val (.int p1), .val (.int (2 : Int32)), .val (.long bs), .second] [(.int (2 : Int32))]) _ _ _
        refine Go.aloadN X89 hx (hb hby d_nw_39) rfl rfl ?_
        show Go _ _ _ _ T89 (mkF m 40 #[.val (.ref a), .val (.int p1), .val (.int (2 : Int32)), .val (.long bs), .second] [(.ref a), (.int (2 : Int32))]) _ _ _
        refine Go.getF X89 hx hZ hown (w13 hw) Via.refl e89 f0 (hb hby d_nw_40) ?_
        intro T91 X91 e91
        show Go _ _ _ _ T91 (mkF m 43 #[.val (.ref a), .val (.int p1), .val (.int (2 : Int32)), .val (.long bs), .second] [(.ref aS), (.int (2 : Int32))]) _ _ _
        refine Go.alen X91 hx hZ e91 f1 (hb hby d_nw_43) ?_
        show Go _ _ _ _ T91 (mkF m 44 #[.val (.ref a), .val (.int p1), .val (.int (2 : Int32)), .val (.long bs), .second] [(.int (2 : Int32)), (.int (2 : Int32))]) _ _ _
        refine Go.icmpYes X91 hx (hb hby d_nw_44) (XT.ii_ge_t (by decide)) (pc' := 57) (by decide) (by decide) ?_
        show Go _ _ _ _ T91 (mkF m 57 #[.val (.ref a), .val (.int p1), .val (.int (2 : Int32)), .val (.long bs), .second] []) _ _ _
        refine Go.lloadN X91 hx (hb hby d_nw_57) rfl ?_
        show Go _ _ _ _ T91 (mkF m 58 #[.val (.ref a), .val (.int p1), .val (.int (2 : Int32)), .val (.long bs), .second] [(.long bs)]) _ _ _
        refine Go.lconst X91 hx (hb hby d_nw_58) ?_
        show Go _ _ _ _ T91 (mkF m 59 #[.val (.ref a), .val (.int p1), .val (.int (2 : Int32)), .val (.long bs), .second] [(.long (0 : Int64)), (.long bs)]) _ _ _
        refine Go.lcmp X91 hx (hb hby d_nw_59) ?_
        show Go _ _ _ _ T91 (mkF m 60 #[.val (.ref a), .val (.int p1), .val (.int (2 : Int32)), .val (.long bs), .second] [(.int (XT.cmpL bs (0 : Int64)))]) _ _ _
        refine Go.ifNo X91 hx (hb hby d_nw_60) (XT.ll_ne_f c90) ?_
        show Go _ _ _ _ T91 (mkF m 63 #[.val (.ref a), .val (.int p1), .val (.int (2 : Int32)), .val (.long bs), .second] []) _ _ _
        refine Go.iconst X91 hx (hb hby d_nw_63) ?_
        show Go _ _ _ _ T91 (mkF m 64 #[.val (.ref a), .val (.int p1), .val (.int (2 : Int32)), .val (.long bs), .second] [(.int (-1 : Int32))]) _ _ _
        refine Go.goto X91 hx (hb hby d_nw_64) (pc' := 76) (by decide) (by decide) ?_
        show Go _ _ _ _ T91 (mkF m 76 #[.val (.ref a), .val (.int p1), .val (.int (2 : Int32)), .val (.long bs), .second] [(.int (-1 : Int32))]) _ _ _
        refine Go.retI X91 hx hlk hret (hb hby d_nw_76) (by decide) (by decide) ?_
        rw [e91]
        exact ⟨_, rfl, N0, rfl, nw_e f4 f2 (by omega) (by omega) g_bs c90⟩
      · refine Go.ifYes X89 hx (hb hby d_nw_32) (XT.ll_ne_t c90) (pc' := 57) (by decide) (by decide) ?_
        show Go _ _ _ _ T89 (mkF m 57 #[.val (.ref a), .val (.int p1), .val (.int (1 : Int32)), .val (.long bs), .second] []) _ _ _
        refine Go.lloadN X89 hx (hb hby d_nw_57) rfl ?_
        show Go _ _ _ _ T89 (mkF m 58 #[.val (.ref a), .val (.int p1), .val (.int (1 : Int32)), .val (.long bs), .second] [(.long bs)]) _ _ _
        refine Go.lconst X89 hx (hb hby d_nw_58) ?_
        show Go _ _ _ _ T89 (mkF m 59 #[.val (.ref a), .val (.int p1), .val (.int (1 : Int32)), .val (.long bs), .second] [(.long (0 : Int64)), (.long bs)]) _ _ _
        refine Go.lcmp X89 hx (hb hby d_nw_59) ?_
        show Go _ _ _ _ T89 (mkF m 60 #[.val (.ref a), .val (.int p1), .val (.int (1 : Int32)), .val (.long bs), .second] [(.int (XT.cmpL bs (0 : Int64)))]) _ _ _
        refine Go.ifYes X89 hx (hb hby d_nw_60) (XT.ll_ne_t c90) (pc' := 67) (by decide) (by decide) ?_
        show Go _ _ _ _ T89 (mkF m 67 #[.val (.ref a), .val (.int p1), .val (.int (1 : Int32)), .val (.long bs), .second] []) _ _ _
        refine Go.iloadN X89 hx (hb hby d_nw_67) rfl ?_
        show Go _ _ _ _ T89 (mkF m 68 #[.val (.ref a), .val (.int p1), .val (.int (1 : Int32)), .val (.long bs), .second] [(.int (1 : Int32))]) _ _ _
        refine Go.bipush X89 hx (hb hby d_nw_68) ?_
        show Go _ _ _ _ T89 (mkF m 70 #[.val (.ref a), .val (.int p1), .val (.int (1 : Int32)), .val (.long bs), .second] [(.int (6 : Int32)), (.int (1 : Int32))]) _ _ _
        refine Go.ishl X89 hx (hb hby d_nw_70) ?_
        show Go _ _ _ _ T89 (mkF m 71 #[.val (.ref a), .val (.int p1), .val (.int (1 : Int32)), .val (.long bs), .second] [(.int (64 : Int32))]) _ _ _
        refine Go.lloadN X89 hx (hb hby d_nw_71) rfl ?_
        show Go _ _ _ _ T89 (mkF m 72 #[.val (.ref a), .val (.int p1), .val (.int (1 : Int32)), .val (.long bs), .second] [(.long bs), (.int (64 : Int32))]) _ _ _
        refine Go.callS (W := 1) (argsL := [(.long bs)]) (rest := [(.int (64 : Int32))]) X89 hx hZ hown (w64 hw) (w65 hw) (w57 hw) (w66 hw) (by decide) (rm_ntzL l Z a0 hw bs h0) e89 (lenOf pd_1 rfl) (hb hby d_nw_72) (by rw [hml]; rfl) rfl (Nat.le_of_eq rfl) (by decide) (by decide) (by decide) (by decide) ?_
        intro v92 T92 L92 X92 q92
        obtain ⟨rfl, rfl, e92⟩ := q92
        have N92 := Fr.app N0 (Fr.nil n0)
        show Go _ _ _ _ T92 (mkF m 75 #[.val (.ref a), .val (.int p1), .val (.int (1 : Int32)), .val (.long bs), .second] [(.int (F_ntzL bs)), (.int (64 : Int32))]) _ _ _
        refine Go.iadd X92 hx (hb hby d_nw_75) ?_
        show Go _ _ _ _ T92 (mkF m 76 #[.val (.ref a), .val (.int p1), .val (.int (1 : Int32)), .val (.long bs), .second] [(.int ((64 : Int32) + (F_ntzL bs)))]) _ _ _
        refine Go.retI X92 hx hlk hret (hb hby d_nw_76) (by decide) (by decide) ?_
        rw [e92]
        exact ⟨_, rfl, N92, rfl, nw_d f4 f2 (by omega) (by omega) g_bs c90⟩
  · refine Go.icmpNo X79 hx (hb hby d_nw_11) (XT.ii_lt_f c80) ?_
    show Go _ _ _ _ T79 (mkF m 14 #[.val (.ref a), .val (.int p1), .val (.int wt), .unset, .unset] []) _ _ _
    refine Go.iconst X79 hx (hb hby d_nw_14) ?_
    show Go _ _ _ _ T79 (mkF m 15 #[.val (.ref a), .val (.int p1), .val (.int wt), .unset, .unset] [(.int (-1 : Int32))]) _ _ _
    refine Go.retI X79 hx hlk hret (hb hby d_nw_15) (by decide) (by decide) ?_
    rw [e79]
    exact ⟨_, rfl, N0, rfl, Or.inl ⟨rfl, fun w h1 h2 => by have z := c80; rw [Int32.lt_iff_toInt_lt, ua.2.1] at z; have : (2 : Int32).toInt = 2 := rfl; omega⟩⟩
theorem on_sub63' : ∀ t, t < 64 → (63 : Int32) - Int32.ofNat (63 - t) = Int32.ofNat (64 * 0 + t) := by decide
theorem on_sub127' : ∀ t, t < 64 → (127 : Int32) - Int32.ofNat (63 - t) = Int32.ofNat (64 * 1 + t) := by decide
def Q_pw (Z : State) (a : Addr) (p1 : Int32) (aS : Addr) (kS : ClassId) (wf : Nat → Int64) (sf : Nat → Int64) (h0 : Heap) (n0 : Nat) (v : Option Value) (h : Heap) (L : List Loc) : Prop := ∃ (r : Int32), v = some (.int r) ∧ Fr n0 L ∧ h = h0 ∧ PW wf p1.toInt r
theorem ef_pw (m : MethodId) (x0 : Addr) (x1 : Int32) : entryFrame m #[(.ref x0), (.int x1)] 5 = mkF m 0 #[.val (.ref x0), .val (.int x1), .unset, .unset, .unset] [] := by first | (simp [entryFrame, mkF, argsToLocals, Value.category]; done) | rfl
set_option maxRecDepth 65536 in
set_option maxHeartbeats 40000000 in
theorem rm_pw (l : Launch) (Z : State) (a0 : Array Value) (hw : ∀ d ∈ tables_1, d.before a0 Z = true) (a : Addr) (p1 : Int32) (aS : Addr) (kS : ClassId) (wf : Nat → Int64) (sf : Nat → Int64) (h0 : Heap) (n0 : Nat) (Z0 : n0 ≤ h0.size) (f0 : Fld Z h0 a "com/example/collate/collate/analysis/Bits" "summary" "[J" (.ref aS)) (f1 : Af Z h0 aS kS .long 2 (fun i => Value.long (sf i))) (f2 : -1 ≤ p1.toInt) (f3 : p1.toInt < 128) (f4 : SI wf sf) :
    Met l Z (⟨"com/example/collate/collate/analysis/Bits", "previousWord", "(I)I"⟩ : MethodName) prog_9_method_8_code 5 (Option.some Jvm.ClassFile.FieldType.int) [] ({ frames := 2, cells := 0, slots := 0, locals := 29 } : Room) #[(.ref a), (.int p1)] h0 (Q_pw Z a p1 aS kS wf sf h0 n0) := by
  refine Met.of (plainFor_of_name pn_pw) ?_
  intro p e s m below meth c s₁ X0 hx hby hml hZ hown hnm e0 hret hlk
  refine Go.cast (ef_pw m a p1) ?_
  show Go _ _ _ _ s₁ (mkF m 0 #[.val (.ref a), .val (.int p1), .unset, .unset, .unset] []) _ _ _
  have N0 := Fr.nil n0
  refine Go.iloadN X0 hx (hb hby d_pw_0) rfl ?_
  show Go _ _ _ _ s₁ (mkF m 1 #[.val (.ref a), .val (.int p1), .unset, .unset, .unset] [(.int p1)]) _ _ _
  rcases Decidable.em (p1 < (0 : Int32)) with c93 | c93
  · refine Go.ifNo X0 hx (hb hby d_pw_1) (XT.i0_ge_f c93) ?_
    show Go _ _ _ _ s₁ (mkF m 4 #[.val (.ref a), .val (.int p1), .unset, .unset, .unset] []) _ _ _
    refine Go.iconst X0 hx (hb hby d_pw_4) ?_
    show Go _ _ _ _ s₁ (mkF m 5 #[.val (.ref a), .val (.int p1), .unset, .unset, .unset] [(.int (-1 : Int32))]) _ _ _
    refine Go.retI X0 hx hlk hret (hb hby d_pw_5) (by decide) (by decide) ?_
    rw [e0]
    exact ⟨_, rfl, N0, rfl, Or.inl ⟨rfl, fun w h1 h2 => by have z := c93; rw [Int32.lt_iff_toInt_lt] at z; have : (0 : Int32).toInt = 0 := rfl; omega⟩⟩
  · refine Go.ifYes X0 hx (hb hby d_pw_1) (XT.i0_ge_t c93) (pc' := 6) (by decide) (by decide) ?_
    show Go _ _ _ _ s₁ (mkF m 6 #[.val (.ref a), .val (.int p1), .unset, .unset, .unset] []) _ _ _
    refine Go.iloadN X0 hx (hb hby d_pw_6) rfl ?_
    show Go _ _ _ _ s₁ (mkF m 7 #[.val (.ref a), .val (.int p1), .unset, .unset, .unset] [(.int p1)]) _ _ _
    refine Go.bipush X0 hx (hb hby d_pw_7) ?_
    show Go _ _ _ _ s₁ (mkF m 9 #[.val (.ref a), .val (.int p1), .unset, .unset, .unset] [(.int (6 : Int32)), (.int p1)]) _ _ _
    refine Go.iushr X0 hx (hb hby d_pw_9) ?_
    show Go _ _ _ _ s₁ (mkF m 10 #[.val (.ref a), .val (.int p1), .unset, .unset, .unset] [(.int (XT.ushr p1 (6 : Int32)))]) _ _ _
    refine Go.istoreN X0 hx (hb hby d_pw_10) (l' := #[.val (.ref a), .val (.int p1), .val (.int (XT.ushr p1 (6 : Int32))), .unset, .unset]) rfl ?_
    show Go _ _ _ _ s₁ (mkF m 11 #[.val (.ref a), .val (.int p1), .val (.int (XT.ushr p1 (6 : Int32))), .unset, .unset] []) _ _ _
    refine (show ∀ wt : Int32, wt = (XT.ushr p1 (6 : Int32)) → Go _ _ _ _ s₁ (mkF m 11 #[.val (.ref a), .val (.int p1), .val (.int wt), .unset, .unset] []) _ _ _ from ?_) _ rfl
    intro wt g_wt
    have pnn : 0 ≤ p1.toInt := by have z := c93; rw [Int32.lt_iff_toInt_lt] at z; have : (0 : Int32).toInt = 0 := rfl; omega
    have ua := ush6 pnn
    rw [← g_wt] at ua
    have cp := nat_clamp pnn
    have hw2 : wt = (0 : Int32) ∨ wt = (1 : Int32) := own_cases2 ua.1 (by omega)
    rcases hw2 with rfl | rfl
    · have kk : p1.toNatClampNeg / 64 = 0 := ua.2.2.symm
      show Go _ _ _ _ s₁ (mkF m 11 #[.val (.ref a), .val (.int p1), .val (.int (0 : Int32)), .unset, .unset] []) _ _ _
      refine Go.aloadN X0 hx (hb hby d_pw_11) rfl rfl ?_
      show Go _ _ _ _ s₁ (mkF m 12 #[.val (.ref a), .val (.int p1), .val (.int (0 : Int32)), .unset, .unset] [(.ref a)]) _ _ _
      refine Go.getF X0 hx hZ hown (w13 hw) Via.refl e0 f0 (hb hby d_pw_12) ?_
      intro T94 X94 e94
      show Go _ _ _ _ T94 (mkF m 15 #[.val (.ref a), .val (.int p1), .val (.int (0 : Int32)), .unset, .unset] [(.ref aS)]) _ _ _
      refine Go.iloadN X94 hx (hb hby d_pw_15) rfl ?_
      show Go _ _ _ _ T94 (mkF m 16 #[.val (.ref a), .val (.int p1), .val (.int (0 : Int32)), .unset, .unset] [(.int (0 : Int32)), (.ref aS)]) _ _ _
      refine Go.laload X94 hx hZ e94 f1 (by decide) (by decide) (hb hby d_pw_16) ?_
      show Go _ _ _ _ T94 (mkF m 17 #[.val (.ref a), .val (.int p1), .val (.int (0 : Int32)), .unset, .unset] [(.long (sf 0))]) _ _ _
      refine Go.ldc2 X94 hx hZ hown (w20 hw) (hb hby d_pw_17) ?_
      show Go _ _ _ _ T94 (mkF m 20 #[.val (.ref a), .val (.int p1), .val (.int (0 : Int32)), .unset, .unset] [(.long (-1 : Int64)), (.long (sf 0))]) _ _ _
      refine Go.bipush X94 hx (hb hby d_pw_20) ?_
      show Go _ _ _ _ T94 (mkF m 22 #[.val (.ref a), .val (.int p1), .val (.int (0 : Int32)), .unset, .unset] [(.int (63 : Int32)), (.long (-1 : Int64)), (.long (sf 0))]) _ _ _
      refine Go.iloadN X94 hx (hb hby d_pw_22) rfl ?_
      show Go _ _ _ _ T94 (mkF m 23 #[.val (.ref a), .val (.int p1), .val (.int (0 : Int32)), .unset, .unset] [(.int p1), (.int (63 : Int32)), (.long (-1 : Int64)), (.long (sf 0))]) _ _ _
      refine Go.bipush X94 hx (hb hby d_pw_23) ?_
      show Go _ _ _ _ T94 (mkF m 25 #[.val (.ref a), .val (.int p1), .val (.int (0 : Int32)), .unset, .unset] [(.int (63 : Int32)), (.int p1), (.int (63 : Int32)), (.long (-1 : Int64)), (.long (sf 0))]) _ _ _
      refine Go.iand X94 hx (hb hby d_pw_25) ?_
      show Go _ _ _ _ T94 (mkF m 26 #[.val (.ref a), .val (.int p1), .val (.int (0 : Int32)), .unset, .unset] [(.int (p1 &&& (63 : Int32))), (.int (63 : Int32)), (.long (-1 : Int64)), (.long (sf 0))]) _ _ _
      refine Go.isub X94 hx (hb hby d_pw_26) ?_
      show Go _ _ _ _ T94 (mkF m 27 #[.val (.ref a), .val (.int p1), .val (.int (0 : Int32)), .unset, .unset] [(.int ((63 : Int32) - (p1 &&& (63 : Int32)))), (.long (-1 : Int64)), (.long (sf 0))]) _ _ _
      refine Go.lushr X94 hx (hb hby d_pw_27) ?_
      show Go _ _ _ _ T94 (mkF m 28 #[.val (.ref a), .val (.int p1), .val (.int (0 : Int32)), .unset, .unset] [(.long (XT.ushrL (-1 : Int64) ((63 : Int32) - (p1 &&& (63 : Int32))))), (.long (sf 0))]) _ _ _
      refine Go.land X94 hx (hb hby d_pw_28) ?_
      show Go _ _ _ _ T94 (mkF m 29 #[.val (.ref a), .val (.int p1), .val (.int (0 : Int32)), .unset, .unset] [(.long ((sf 0) &&& (XT.ushrL (-1 : Int64) ((63 : Int32) - (p1 &&& (63 : Int32))))))]) _ _ _
      refine Go.lstoreN X94 hx (hb hby d_pw_29) (l' := #[.val (.ref a), .val (.int p1), .val (.int (0 : Int32)), .val (.long ((sf 0) &&& (XT.ushrL (-1 : Int64) ((63 : Int32) - (p1 &&& (63 : Int32)))))), .second]) rfl ?_
      show Go _ _ _ _ T94 (mkF m 30 #[.val (.ref a), .val (.int p1), .val (.int (0 : Int32)), .val (.long ((sf 0) &&& (XT.ushrL (-1 : Int64) ((63 : Int32) - (p1 &&& (63 : Int32)))))), .second] []) _ _ _
      refine (show ∀ bs : Int64, bs = ((sf 0) &&& (XT.ushrL (-1 : Int64) ((63 : Int32) - (p1 &&& (63 : Int32))))) → Go _ _ _ _ T94 (mkF m 30 #[.val (.ref a), .val (.int p1), .val (.int (0 : Int32)), .val (.long bs), .second] []) _ _ _ from ?_) _ rfl
      intro bs g_bs
      refine Go.lloadN X94 hx (hb hby d_pw_30) rfl ?_
      show Go _ _ _ _ T94 (mkF m 31 #[.val (.ref a), .val (.int p1), .val (.int (0 : Int32)), .val (.long bs), .second] [(.long bs)]) _ _ _
      refine Go.lconst X94 hx (hb hby d_pw_31) ?_
      show Go _ _ _ _ T94 (mkF m 32 #[.val (.ref a), .val (.int p1), .val (.int (0 : Int32)), .val (.long bs), .second] [(.long (0 : Int64)), (.long bs)]) _ _ _
      refine Go.lcmp X94 hx (hb hby d_pw_32) ?_
      show Go _ _ _ _ T94 (mkF m 33 #[.val (.ref a), .val (.int p1), .val (.int (0 : Int32)), .val (.long bs), .second] [(.int (XT.cmpL bs (0 : Int64)))]) _ _ _
      rcases Decidable.em (bs = (0 : Int64)) with c95 | c95
      · refine Go.ifNo X94 hx (hb hby d_pw_33) (XT.ll_ne_f c95) ?_
        show Go _ _ _ _ T94 (mkF m 36 #[.val (.ref a), .val (.int p1), .val (.int (0 : Int32)), .val (.long bs), .second] []) _ _ _
        refine Go.iinc X94 hx (hb hby d_pw_36) rfl (l' := #[.val (.ref a), .val (.int p1), .val (.int (-1 : Int32)), .val (.long bs), .second]) rfl ?_
        show Go _ _ _ _ T94 (mkF m 39 #[.val (.ref a), .val (.int p1), .val (.int (-1 : Int32)), .val (.long bs), .second] []) _ _ _
        refine Go.iloadN X94 hx (hb hby d_pw_39) rfl ?_
        show Go _ _ _ _ T94 (mkF m 40 #[.val (.ref a), .val (.int p1), .val (.int (-1 : Int32)), .val (.long bs), .second] [(.int (-1 : Int32))]) _ _ _
        refine Go.ifYes X94 hx (hb hby d_pw_40) (XT.i0_lt_t (by decide)) (pc' := 53) (by decide) (by decide) ?_
        show Go _ _ _ _ T94 (mkF m 53 #[.val (.ref a), .val (.int p1), .val (.int (-1 : Int32)), .val (.long bs), .second] []) _ _ _
        refine Go.lloadN X94 hx (hb hby d_pw_53) rfl ?_
        show Go _ _ _ _ T94 (mkF m 54 #[.val (.ref a), .val (.int p1), .val (.int (-1 : Int32)), .val (.long bs), .second] [(.long bs)]) _ _ _
        refine Go.lconst X94 hx (hb hby d_pw_54) ?_
        show Go _ _ _ _ T94 (mkF m 55 #[.val (.ref a), .val (.int p1), .val (.int (-1 : Int32)), .val (.long bs), .second] [(.long (0 : Int64)), (.long bs)]) _ _ _
        refine Go.lcmp X94 hx (hb hby d_pw_55) ?_
        show Go _ _ _ _ T94 (mkF m 56 #[.val (.ref a), .val (.int p1), .val (.int (-1 : Int32)), .val (.long bs), .second] [(.int (XT.cmpL bs (0 : Int64)))]) _ _ _
        refine Go.ifNo X94 hx (hb hby d_pw_56) (XT.ll_ne_f c95) ?_
        show Go _ _ _ _ T94 (mkF m 59 #[.val (.ref a), .val (.int p1), .val (.int (-1 : Int32)), .val (.long bs), .second] []) _ _ _
        refine Go.iconst X94 hx (hb hby d_pw_59) ?_
        show Go _ _ _ _ T94 (mkF m 60 #[.val (.ref a), .val (.int p1), .val (.int (-1 : Int32)), .val (.long bs), .second] [(.int (-1 : Int32))]) _ _ _
        refine Go.goto X94 hx (hb hby d_pw_60) (pc' := 75) (by decide) (by decide) ?_
        show Go _ _ _ _ T94 (mkF m 75 #[.val (.ref a), .val (.int p1), .val (.int (-1 : Int32)), .val (.long bs), .second] [(.int (-1 : Int32))]) _ _ _
        refine Go.retI X94 hx hlk hret (hb hby d_pw_75) (by decide) (by decide) ?_
        rw [e94]
        exact ⟨_, rfl, N0, rfl, pw_e f4 pnn kk g_bs c95⟩
      · refine Go.ifYes X94 hx (hb hby d_pw_33) (XT.ll_ne_t c95) (pc' := 53) (by decide) (by decide) ?_
        show Go _ _ _ _ T94 (mkF m 53 #[.val (.ref a), .val (.int p1), .val (.int (0 : Int32)), .val (.long bs), .second] []) _ _ _
        refine Go.lloadN X94 hx (hb hby d_pw_53) rfl ?_
        show Go _ _ _ _ T94 (mkF m 54 #[.val (.ref a), .val (.int p1), .val (.int (0 : Int32)), .val (.long bs), .second] [(.long bs)]) _ _ _
        refine Go.lconst X94 hx (hb hby d_pw_54) ?_
        show Go _ _ _ _ T94 (mkF m 55 #[.val (.ref a), .val (.int p1), .val (.int (0 : Int32)), .val (.long bs), .second] [(.long (0 : Int64)), (.long bs)]) _ _ _
        refine Go.lcmp X94 hx (hb hby d_pw_55) ?_
        show Go _ _ _ _ T94 (mkF m 56 #[.val (.ref a), .val (.int p1), .val (.int (0 : Int32)), .val (.long bs), .second] [(.int (XT.cmpL bs (0 : Int64)))]) _ _ _
        refine Go.ifYes X94 hx (hb hby d_pw_56) (XT.ll_ne_t c95) (pc' := 63) (by decide) (by decide) ?_
        show Go _ _ _ _ T94 (mkF m 63 #[.val (.ref a), .val (.int p1), .val (.int (0 : Int32)), .val (.long bs), .second] []) _ _ _
        refine Go.iloadN X94 hx (hb hby d_pw_63) rfl ?_
        show Go _ _ _ _ T94 (mkF m 64 #[.val (.ref a), .val (.int p1), .val (.int (0 : Int32)), .val (.long bs), .second] [(.int (0 : Int32))]) _ _ _
        refine Go.bipush X94 hx (hb hby d_pw_64) ?_
        show Go _ _ _ _ T94 (mkF m 66 #[.val (.ref a), .val (.int p1), .val (.int (0 : Int32)), .val (.long bs), .second] [(.int (6 : Int32)), (.int (0 : Int32))]) _ _ _
        refine Go.ishl X94 hx (hb hby d_pw_66) ?_
        show Go _ _ _ _ T94 (mkF m 67 #[.val (.ref a), .val (.int p1), .val (.int (0 : Int32)), .val (.long bs), .second] [(.int (0 : Int32))]) _ _ _
        refine Go.bipush X94 hx (hb hby d_pw_67) ?_
        show Go _ _ _ _ T94 (mkF m 69 #[.val (.ref a), .val (.int p1), .val (.int (0 : Int32)), .val (.long bs), .second] [(.int (63 : Int32)), (.int (0 : Int32))]) _ _ _
        refine Go.iadd X94 hx (hb hby d_pw_69) ?_
        show Go _ _ _ _ T94 (mkF m 70 #[.val (.ref a), .val (.int p1), .val (.int (0 : Int32)), .val (.long bs), .second] [(.int (63 : Int32))]) _ _ _
        refine Go.lloadN X94 hx (hb hby d_pw_70) rfl ?_
        show Go _ _ _ _ T94 (mkF m 71 #[.val (.ref a), .val (.int p1), .val (.int (0 : Int32)), .val (.long bs), .second] [(.long bs), (.int (63 : Int32))]) _ _ _
        refine Go.callS (W := 1) (argsL := [(.long bs)]) (rest := [(.int (63 : Int32))]) X94 hx hZ hown (w55 hw) (w56 hw) (w57 hw) (w58 hw) (by decide) (rm_nlzL l Z a0 hw bs h0) e94 (lenOf pd_1 rfl) (hb hby d_pw_71) (by rw [hml]; rfl) rfl (Nat.le_of_eq rfl) (by decide) (by decide) (by decide) (by decide) ?_
        intro v96 T96 L96 X96 q96
        obtain ⟨rfl, rfl, e96⟩ := q96
        have N96 := Fr.app N0 (Fr.nil n0)
        show Go _ _ _ _ T96 (mkF m 74 #[.val (.ref a), .val (.int p1), .val (.int (0 : Int32)), .val (.long bs), .second] [(.int (F_nlzL bs)), (.int (63 : Int32))]) _ _ _
        refine Go.isub X96 hx (hb hby d_pw_74) ?_
        show Go _ _ _ _ T96 (mkF m 75 #[.val (.ref a), .val (.int p1), .val (.int (0 : Int32)), .val (.long bs), .second] [(.int ((63 : Int32) - (F_nlzL bs)))]) _ _ _
        refine Go.retI X96 hx hlk hret (hb hby d_pw_75) (by decide) (by decide) ?_
        rw [e96]
        exact ⟨_, rfl, N96, rfl, pw_here f4 (k := 0) (by decide) pnn kk g_bs c95 (fun t ht q => by rw [q]; exact on_sub63' t ht)⟩
    · have kk : p1.toNatClampNeg / 64 = 1 := ua.2.2.symm
      show Go _ _ _ _ s₁ (mkF m 11 #[.val (.ref a), .val (.int p1), .val (.int (1 : Int32)), .unset, .unset] []) _ _ _
      refine Go.aloadN X0 hx (hb hby d_pw_11) rfl rfl ?_
      show Go _ _ _ _ s₁ (mkF m 12 #[.val (.ref a), .val (.int p1), .val (.int (1 : Int32)), .unset, .unset] [(.ref a)]) _ _ _
      refine Go.getF X0 hx hZ hown (w13 hw) Via.refl e0 f0 (hb hby d_pw_12) ?_
      intro T97 X97 e97
      show Go _ _ _ _ T97 (mkF m 15 #[.val (.ref a), .val (.int p1), .val (.int (1 : Int32)), .unset, .unset] [(.ref aS)]) _ _ _
      refine Go.iloadN X97 hx (hb hby d_pw_15) rfl ?_
      show Go _ _ _ _ T97 (mkF m 16 #[.val (.ref a), .val (.int p1), .val (.int (1 : Int32)), .unset, .unset] [(.int (1 : Int32)), (.ref aS)]) _ _ _
      refine Go.laload X97 hx hZ e97 f1 (by decide) (by decide) (hb hby d_pw_16) ?_
      show Go _ _ _ _ T97 (mkF m 17 #[.val (.ref a), .val (.int p1), .val (.int (1 : Int32)), .unset, .unset] [(.long (sf 1))]) _ _ _
      refine Go.ldc2 X97 hx hZ hown (w20 hw) (hb hby d_pw_17) ?_
      show Go _ _ _ _ T97 (mkF m 20 #[.val (.ref a), .val (.int p1), .val (.int (1 : Int32)), .unset, .unset] [(.long (-1 : Int64)), (.long (sf 1))]) _ _ _
      refine Go.bipush X97 hx (hb hby d_pw_20) ?_
      show Go _ _ _ _ T97 (mkF m 22 #[.val (.ref a), .val (.int p1), .val (.int (1 : Int32)), .unset, .unset] [(.int (63 : Int32)), (.long (-1 : Int64)), (.long (sf 1))]) _ _ _
      refine Go.iloadN X97 hx (hb hby d_pw_22) rfl ?_
      show Go _ _ _ _ T97 (mkF m 23 #[.val (.ref a), .val (.int p1), .val (.int (1 : Int32)), .unset, .unset] [(.int p1), (.int (63 : Int32)), (.long (-1 : Int64)), (.long (sf 1))]) _ _ _
      refine Go.bipush X97 hx (hb hby d_pw_23) ?_
      show Go _ _ _ _ T97 (mkF m 25 #[.val (.ref a), .val (.int p1), .val (.int (1 : Int32)), .unset, .unset] [(.int (63 : Int32)), (.int p1), (.int (63 : Int32)), (.long (-1 : Int64)), (.long (sf 1))]) _ _ _
      refine Go.iand X97 hx (hb hby d_pw_25) ?_
      show Go _ _ _ _ T97 (mkF m 26 #[.val (.ref a), .val (.int p1), .val (.int (1 : Int32)), .unset, .unset] [(.int (p1 &&& (63 : Int32))), (.int (63 : Int32)), (.long (-1 : Int64)), (.long (sf 1))]) _ _ _
      refine Go.isub X97 hx (hb hby d_pw_26) ?_
      show Go _ _ _ _ T97 (mkF m 27 #[.val (.ref a), .val (.int p1), .val (.int (1 : Int32)), .unset, .unset] [(.int ((63 : Int32) - (p1 &&& (63 : Int32)))), (.long (-1 : Int64)), (.long (sf 1))]) _ _ _
      refine Go.lushr X97 hx (hb hby d_pw_27) ?_
      show Go _ _ _ _ T97 (mkF m 28 #[.val (.ref a), .val (.int p1), .val (.int (1 : Int32)), .unset, .unset] [(.long (XT.ushrL (-1 : Int64) ((63 : Int32) - (p1 &&& (63 : Int32))))), (.long (sf 1))]) _ _ _
      refine Go.land X97 hx (hb hby d_pw_28) ?_
      show Go _ _ _ _ T97 (mkF m 29 #[.val (.ref a), .val (.int p1), .val (.int (1 : Int32)), .unset, .unset] [(.long ((sf 1) &&& (XT.ushrL (-1 : Int64) ((63 : Int32) - (p1 &&& (63 : Int32))))))]) _ _ _
      refine Go.lstoreN X97 hx (hb hby d_pw_29) (l' := #[.val (.ref a), .val (.int p1), .val (.int (1 : Int32)), .val (.long ((sf 1) &&& (XT.ushrL (-1 : Int64) ((63 : Int32) - (p1 &&& (63 : Int32)))))), .second]) rfl ?_
      show Go _ _ _ _ T97 (mkF m 30 #[.val (.ref a), .val (.int p1), .val (.int (1 : Int32)), .val (.long ((sf 1) &&& (XT.ushrL (-1 : Int64) ((63 : Int32) - (p1 &&& (63 : Int32)))))), .second] []) _ _ _
      refine (show ∀ bs : Int64, bs = ((sf 1) &&& (XT.ushrL (-1 : Int64) ((63 : Int32) - (p1 &&& (63 : Int32))))) → Go _ _ _ _ T97 (mkF m 30 #[.val (.ref a), .val (.int p1), .val (.int (1 : Int32)), .val (.long bs), .second] []) _ _ _ from ?_) _ rfl
      intro bs g_bs
      refine Go.lloadN X97 hx (hb hby d_pw_30) rfl ?_
      show Go _ _ _ _ T97 (mkF m 31 #[.val (.ref a), .val (.int p1), .val (.int (1 : Int32)), .val (.long bs), .second] [(.long bs)]) _ _ _
      refine Go.lconst X97 hx (hb hby d_pw_31) ?_
      show Go _ _ _ _ T97 (mkF m 32 #[.val (.ref a), .val (.int p1), .val (.int (1 : Int32)), .val (.long bs), .second] [(.long (0 : Int64)), (.long bs)]) _ _ _
      refine Go.lcmp X97 hx (hb hby d_pw_32) ?_
      show Go _ _ _ _ T97 (mkF m 33 #[.val (.ref a), .val (.int p1), .val (.int (1 : Int32)), .val (.long bs), .second] [(.int (XT.cmpL bs (0 : Int64)))]) _ _ _
      rcases Decidable.em (bs = (0 : Int64)) with c98 | c98
      · refine Go.ifNo X97 hx (hb hby d_pw_33) (XT.ll_ne_f c98) ?_
        show Go _ _ _ _ T97 (mkF m 36 #[.val (.ref a), .val (.int p1), .val (.int (1 : Int32)), .val (.long bs), .second] []) _ _ _
        refine Go.iinc X97 hx (hb hby d_pw_36) rfl (l' := #[.val (.ref a), .val (.int p1), .val (.int (0 : Int32)), .val (.long bs), .second]) rfl ?_
        show Go _ _ _ _ T97 (mkF m 39 #[.val (.ref a), .val (.int p1), .val (.int (0 : Int32)), .val (.long bs), .second] []) _ _ _
        refine Go.iloadN X97 hx (hb hby d_pw_39) rfl ?_
        show Go _ _ _ _ T97 (mkF m 40 #[.val (.ref a), .val (.int p1), .val (.int (0 : Int32)), .val (.long bs), .second] [(.int (0 : Int32))]) _ _ _
        refine Go.ifNo X97 hx (hb hby d_pw_40) (XT.i0_lt_f (by decide)) ?_
        show Go _ _ _ _ T97 (mkF m 43 #[.val (.ref a), .val (.int p1), .val (.int (0 : Int32)), .val (.long bs), .second] []) _ _ _
        refine Go.aloadN X97 hx (hb hby d_pw_43) rfl rfl ?_
        show Go _ _ _ _ T97 (mkF m 44 #[.val (.ref a), .val (.int p1), .val (.int (0 : Int32)), .val (.long bs), .second] [(.ref a)]) _ _ _
        refine Go.getF X97 hx hZ hown (w13 hw) Via.refl e97 f0 (hb hby d_pw_44) ?_
        intro T99 X99 e99
        show Go _ _ _ _ T99 (mkF m 47 #[.val (.ref a), .val (.int p1), .val (.int (0 : Int32)), .val (.long bs), .second] [(.ref aS)]) _ _ _
        refine Go.iloadN X99 hx (hb hby d_pw_47) rfl ?_
        show Go _ _ _ _ T99 (mkF m 48 #[.val (.ref a), .val (.int p1), .val (.int (0 : Int32)), .val (.long bs), .second] [(.int (0 : Int32)), (.ref aS)]) _ _ _
        refine Go.laload X99 hx hZ e99 f1 (by decide) (by decide) (hb hby d_pw_48) ?_
        show Go _ _ _ _ T99 (mkF m 49 #[.val (.ref a), .val (.int p1), .val (.int (0 : Int32)), .val (.long bs), .second] [(.long (sf 0))]) _ _ _
        refine Go.lstoreN X99 hx (hb hby d_pw_49) (l' := #[.val (.ref a), .val (.int p1), .val (.int (0 : Int32)), .val (.long (sf 0)), .second]) rfl ?_
        show Go _ _ _ _ T99 (mkF m 50 #[.val (.ref a), .val (.int p1), .val (.int (0 : Int32)), .val (.long (sf 0)), .second] []) _ _ _
        refine Go.goto X99 hx (hb hby d_pw_50) (pc' := 30) (by decide) (by decide) ?_
        show Go _ _ _ _ T99 (mkF m 30 #[.val (.ref a), .val (.int p1), .val (.int (0 : Int32)), .val (.long (sf 0)), .second] []) _ _ _
        refine Go.lloadN X99 hx (hb hby d_pw_30) rfl ?_
        show Go _ _ _ _ T99 (mkF m 31 #[.val (.ref a), .val (.int p1), .val (.int (0 : Int32)), .val (.long (sf 0)), .second] [(.long (sf 0))]) _ _ _
        refine Go.lconst X99 hx (hb hby d_pw_31) ?_
        show Go _ _ _ _ T99 (mkF m 32 #[.val (.ref a), .val (.int p1), .val (.int (0 : Int32)), .val (.long (sf 0)), .second] [(.long (0 : Int64)), (.long (sf 0))]) _ _ _
        refine Go.lcmp X99 hx (hb hby d_pw_32) ?_
        show Go _ _ _ _ T99 (mkF m 33 #[.val (.ref a), .val (.int p1), .val (.int (0 : Int32)), .val (.long (sf 0)), .second] [(.int (XT.cmpL (sf 0) (0 : Int64)))]) _ _ _
        rcases Decidable.em ((sf 0) = (0 : Int64)) with c100 | c100
        · refine Go.ifNo X99 hx (hb hby d_pw_33) (XT.ll_ne_f c100) ?_
          show Go _ _ _ _ T99 (mkF m 36 #[.val (.ref a), .val (.int p1), .val (.int (0 : Int32)), .val (.long (sf 0)), .second] []) _ _ _
          refine Go.iinc X99 hx (hb hby d_pw_36) rfl (l' := #[.val (.ref a), .val (.int p1), .val (.int (-1 : Int32)), .val (.long (sf 0)), .second]) rfl ?_
          show Go _ _ _ _ T99 (mkF m 39 #[.val (.ref a), .val (.int p1), .val (.int (-1 : Int32)), .val (.long (sf 0)), .second] []) _ _ _
          refine Go.iloadN X99 hx (hb hby d_pw_39) rfl ?_
          show Go _ _ _ _ T99 (mkF m 40 #[.val (.ref a), .val (.int p1), .val (.int (-1 : Int32)), .val (.long (sf 0)), .second] [(.int (-1 : Int32))]) _ _ _
          refine Go.ifYes X99 hx (hb hby d_pw_40) (XT.i0_lt_t (by decide)) (pc' := 53) (by decide) (by decide) ?_
          show Go _ _ _ _ T99 (mkF m 53 #[.val (.ref a), .val (.int p1), .val (.int (-1 : Int32)), .val (.long (sf 0)), .second] []) _ _ _
          refine Go.lloadN X99 hx (hb hby d_pw_53) rfl ?_
          show Go _ _ _ _ T99 (mkF m 54 #[.val (.ref a), .val (.int p1), .val (.int (-1 : Int32)), .val (.long (sf 0)), .second] [(.long (sf 0))]) _ _ _
          refine Go.lconst X99 hx (hb hby d_pw_54) ?_
          show Go _ _ _ _ T99 (mkF m 55 #[.val (.ref a), .val (.int p1), .val (.int (-1 : Int32)), .val (.long (sf 0)), .second] [(.long (0 : Int64)), (.long (sf 0))]) _ _ _
          refine Go.lcmp X99 hx (hb hby d_pw_55) ?_
          show Go _ _ _ _ T99 (mkF m 56 #[.val (.ref a), .val (.int p1), .val (.int (-1 : Int32)), .val (.long (sf 0)), .second] [(.int (XT.cmpL (sf 0) (0 : Int64)))]) _ _ _
          refine Go.ifNo X99 hx (hb hby d_pw_56) (XT.ll_ne_f c100) ?_
          show Go _ _ _ _ T99 (mkF m 59 #[.val (.ref a), .val (.int p1), .val (.int (-1 : Int32)), .val (.long (sf 0)), .second] []) _ _ _
          refine Go.iconst X99 hx (hb hby d_pw_59) ?_
          show Go _ _ _ _ T99 (mkF m 60 #[.val (.ref a), .val (.int p1), .val (.int (-1 : Int32)), .val (.long (sf 0)), .second] [(.int (-1 : Int32))]) _ _ _
          refine Go.goto X99 hx (hb hby d_pw_60) (pc' := 75) (by decide) (by decide) ?_
          show Go _ _ _ _ T99 (mkF m 75 #[.val (.ref a), .val (.int p1), .val (.int (-1 : Int32)), .val (.long (sf 0)), .second] [(.int (-1 : Int32))]) _ _ _
          refine Go.retI X99 hx hlk hret (hb hby d_pw_75) (by decide) (by decide) ?_
          rw [e99]
          exact ⟨_, rfl, N0, rfl, pw_c f4 pnn kk g_bs c98 c100⟩
        · refine Go.ifYes X99 hx (hb hby d_pw_33) (XT.ll_ne_t c100) (pc' := 53) (by decide) (by decide) ?_
          show Go _ _ _ _ T99 (mkF m 53 #[.val (.ref a), .val (.int p1), .val (.int (0 : Int32)), .val (.long (sf 0)), .second] []) _ _ _
          refine Go.lloadN X99 hx (hb hby d_pw_53) rfl ?_
          show Go _ _ _ _ T99 (mkF m 54 #[.val (.ref a), .val (.int p1), .val (.int (0 : Int32)), .val (.long (sf 0)), .second] [(.long (sf 0))]) _ _ _
          refine Go.lconst X99 hx (hb hby d_pw_54) ?_
          show Go _ _ _ _ T99 (mkF m 55 #[.val (.ref a), .val (.int p1), .val (.int (0 : Int32)), .val (.long (sf 0)), .second] [(.long (0 : Int64)), (.long (sf 0))]) _ _ _
          refine Go.lcmp X99 hx (hb hby d_pw_55) ?_
          show Go _ _ _ _ T99 (mkF m 56 #[.val (.ref a), .val (.int p1), .val (.int (0 : Int32)), .val (.long (sf 0)), .second] [(.int (XT.cmpL (sf 0) (0 : Int64)))]) _ _ _
          refine Go.ifYes X99 hx (hb hby d_pw_56) (XT.ll_ne_t c100) (pc' := 63) (by decide) (by decide) ?_
          show Go _ _ _ _ T99 (mkF m 63 #[.val (.ref a), .val (.int p1), .val (.int (0 : Int32)), .val (.long (sf 0)), .second] []) _ _ _
          refine Go.iloadN X99 hx (hb hby d_pw_63) rfl ?_
          show Go _ _ _ _ T99 (mkF m 64 #[.val (.ref a), .val (.int p1), .val (.int (0 : Int32)), .val (.long (sf 0)), .second] [(.int (0 : Int32))]) _ _ _
          refine Go.bipush X99 hx (hb hby d_pw_64) ?_
          show Go _ _ _ _ T99 (mkF m 66 #[.val (.ref a), .val (.int p1), .val (.int (0 : Int32)), .val (.long (sf 0)), .second] [(.int (6 : Int32)), (.int (0 : Int32))]) _ _ _
          refine Go.ishl X99 hx (hb hby d_pw_66) ?_
          show Go _ _ _ _ T99 (mkF m 67 #[.val (.ref a), .val (.int p1), .val (.int (0 : Int32)), .val (.long (sf 0)), .second] [(.int (0 : Int32))]) _ _ _
          refine Go.bipush X99 hx (hb hby d_pw_67) ?_
          show Go _ _ _ _ T99 (mkF m 69 #[.val (.ref a), .val (.int p1), .val (.int (0 : Int32)), .val (.long (sf 0)), .second] [(.int (63 : Int32)), (.int (0 : Int32))]) _ _ _
          refine Go.iadd X99 hx (hb hby d_pw_69) ?_
          show Go _ _ _ _ T99 (mkF m 70 #[.val (.ref a), .val (.int p1), .val (.int (0 : Int32)), .val (.long (sf 0)), .second] [(.int (63 : Int32))]) _ _ _
          refine Go.lloadN X99 hx (hb hby d_pw_70) rfl ?_
          show Go _ _ _ _ T99 (mkF m 71 #[.val (.ref a), .val (.int p1), .val (.int (0 : Int32)), .val (.long (sf 0)), .second] [(.long (sf 0)), (.int (63 : Int32))]) _ _ _
          refine Go.callS (W := 1) (argsL := [(.long (sf 0))]) (rest := [(.int (63 : Int32))]) X99 hx hZ hown (w55 hw) (w56 hw) (w57 hw) (w58 hw) (by decide) (rm_nlzL l Z a0 hw ((sf 0)) h0) e99 (lenOf pd_1 rfl) (hb hby d_pw_71) (by rw [hml]; rfl) rfl (Nat.le_of_eq rfl) (by decide) (by decide) (by decide) (by decide) ?_
          intro v101 T101 L101 X101 q101
          obtain ⟨rfl, rfl, e101⟩ := q101
          have N101 := Fr.app N0 (Fr.nil n0)
          show Go _ _ _ _ T101 (mkF m 74 #[.val (.ref a), .val (.int p1), .val (.int (0 : Int32)), .val (.long (sf 0)), .second] [(.int (F_nlzL (sf 0))), (.int (63 : Int32))]) _ _ _
          refine Go.isub X101 hx (hb hby d_pw_74) ?_
          show Go _ _ _ _ T101 (mkF m 75 #[.val (.ref a), .val (.int p1), .val (.int (0 : Int32)), .val (.long (sf 0)), .second] [(.int ((63 : Int32) - (F_nlzL (sf 0))))]) _ _ _
          refine Go.retI X101 hx hlk hret (hb hby d_pw_75) (by decide) (by decide) ?_
          rw [e101]
          exact ⟨_, rfl, N101, rfl, pw_b f4 pnn kk g_bs c98 c100⟩
      · refine Go.ifYes X97 hx (hb hby d_pw_33) (XT.ll_ne_t c98) (pc' := 53) (by decide) (by decide) ?_
        show Go _ _ _ _ T97 (mkF m 53 #[.val (.ref a), .val (.int p1), .val (.int (1 : Int32)), .val (.long bs), .second] []) _ _ _
        refine Go.lloadN X97 hx (hb hby d_pw_53) rfl ?_
        show Go _ _ _ _ T97 (mkF m 54 #[.val (.ref a), .val (.int p1), .val (.int (1 : Int32)), .val (.long bs), .second] [(.long bs)]) _ _ _
        refine Go.lconst X97 hx (hb hby d_pw_54) ?_
        show Go _ _ _ _ T97 (mkF m 55 #[.val (.ref a), .val (.int p1), .val (.int (1 : Int32)), .val (.long bs), .second] [(.long (0 : Int64)), (.long bs)]) _ _ _
        refine Go.lcmp X97 hx (hb hby d_pw_55) ?_
        show Go _ _ _ _ T97 (mkF m 56 #[.val (.ref a), .val (.int p1), .val (.int (1 : Int32)), .val (.long bs), .second] [(.int (XT.cmpL bs (0 : Int64)))]) _ _ _
        refine Go.ifYes X97 hx (hb hby d_pw_56) (XT.ll_ne_t c98) (pc' := 63) (by decide) (by decide) ?_
        show Go _ _ _ _ T97 (mkF m 63 #[.val (.ref a), .val (.int p1), .val (.int (1 : Int32)), .val (.long bs), .second] []) _ _ _
        refine Go.iloadN X97 hx (hb hby d_pw_63) rfl ?_
        show Go _ _ _ _ T97 (mkF m 64 #[.val (.ref a), .val (.int p1), .val (.int (1 : Int32)), .val (.long bs), .second] [(.int (1 : Int32))]) _ _ _
        refine Go.bipush X97 hx (hb hby d_pw_64) ?_
        show Go _ _ _ _ T97 (mkF m 66 #[.val (.ref a), .val (.int p1), .val (.int (1 : Int32)), .val (.long bs), .second] [(.int (6 : Int32)), (.int (1 : Int32))]) _ _ _
        refine Go.ishl X97 hx (hb hby d_pw_66) ?_
        show Go _ _ _ _ T97 (mkF m 67 #[.val (.ref a), .val (.int p1), .val (.int (1 : Int32)), .val (.long bs), .second] [(.int (64 : Int32))]) _ _ _
        refine Go.bipush X97 hx (hb hby d_pw_67) ?_
        show Go _ _ _ _ T97 (mkF m 69 #[.val (.ref a), .val (.int p1), .val (.int (1 : Int32)), .val (.long bs), .second] [(.int (63 : Int32)), (.int (64 : Int32))]) _ _ _
        refine Go.iadd X97 hx (hb hby d_pw_69) ?_
        show Go _ _ _ _ T97 (mkF m 70 #[.val (.ref a), .val (.int p1), .val (.int (1 : Int32)), .val (.long bs), .second] [(.int (127 : Int32))]) _ _ _
        refine Go.lloadN X97 hx (hb hby d_pw_70) rfl ?_
        show Go _ _ _ _ T97 (mkF m 71 #[.val (.ref a), .val (.int p1), .val (.int (1 : Int32)), .val (.long bs), .second] [(.long bs), (.int (127 : Int32))]) _ _ _
        refine Go.callS (W := 1) (argsL := [(.long bs)]) (rest := [(.int (127 : Int32))]) X97 hx hZ hown (w55 hw) (w56 hw) (w57 hw) (w58 hw) (by decide) (rm_nlzL l Z a0 hw bs h0) e97 (lenOf pd_1 rfl) (hb hby d_pw_71) (by rw [hml]; rfl) rfl (Nat.le_of_eq rfl) (by decide) (by decide) (by decide) (by decide) ?_
        intro v102 T102 L102 X102 q102
        obtain ⟨rfl, rfl, e102⟩ := q102
        have N102 := Fr.app N0 (Fr.nil n0)
        show Go _ _ _ _ T102 (mkF m 74 #[.val (.ref a), .val (.int p1), .val (.int (1 : Int32)), .val (.long bs), .second] [(.int (F_nlzL bs)), (.int (127 : Int32))]) _ _ _
        refine Go.isub X102 hx (hb hby d_pw_74) ?_
        show Go _ _ _ _ T102 (mkF m 75 #[.val (.ref a), .val (.int p1), .val (.int (1 : Int32)), .val (.long bs), .second] [(.int ((127 : Int32) - (F_nlzL bs)))]) _ _ _
        refine Go.retI X102 hx hlk hret (hb hby d_pw_75) (by decide) (by decide) ?_
        rw [e102]
        exact ⟨_, rfl, N102, rfl, pw_here f4 (k := 1) (by decide) pnn kk g_bs c98 (fun t ht q => by rw [q]; exact on_sub127' t ht)⟩
def Q_nsb (Z : State) (a : Addr) (p1 : Int32) (aW : Addr) (aS : Addr) (mem : Nat → Bool) (h0 : Heap) (n0 : Nat) (v : Option Value) (h : Heap) (L : List Loc) : Prop := ∃ (r : Int32), v = some (.int r) ∧ Fr n0 L ∧ h = h0 ∧ NS' (mem) p1.toNatClampNeg r
theorem ef_nsb (m : MethodId) (x0 : Addr) (x1 : Int32) : entryFrame m #[(.ref x0), (.int x1)] 5 = mkF m 0 #[.val (.ref x0), .val (.int x1), .unset, .unset, .unset] [] := by first | (simp [entryFrame, mkF, argsToLocals, Value.category]; done) | rfl
set_option maxRecDepth 65536 in
set_option maxHeartbeats 40000000 in
theorem rm_nsb (l : Launch) (Z : State) (a0 : Array Value) (hw : ∀ d ∈ tables_1, d.before a0 Z = true) (a : Addr) (p1 : Int32) (aW : Addr) (aS : Addr) (mem : Nat → Bool) (h0 : Heap) (n0 : Nat) (Z0 : n0 ≤ h0.size) (f0 : Exa Z h0 a "com/example/collate/collate/analysis/Bits") (f1 : n0 ≤ a) (f2 : n0 ≤ aW) (f3 : n0 ≤ aS) (f4 : a ≠ aW) (f5 : a ≠ aS) (f6 : aW ≠ aS) (f7 : BS Z h0 a aW aS (mem)) (f8 : 0 ≤ p1.toInt) (f9 : p1.toInt < 8192) :
    Met l Z (⟨"com/example/collate/collate/analysis/Bits", "nextSetBit", "(I)I"⟩ : MethodName) prog_9_method_5_code 5 (Option.some Jvm.ClassFile.FieldType.int) [] ({ frames := 3, cells := 0, slots := 0, locals := 45 } : Room) #[(.ref a), (.int p1)] h0 (Q_nsb Z a p1 aW aS mem h0 n0) := by
  refine Met.of (plainFor_of_name pn_nsb) ?_
  intro p e s m below meth c s₁ X0 hx hby hml hZ hown hnm e0 hret hlk
  refine Go.cast (ef_nsb m a p1) ?_
  show Go _ _ _ _ s₁ (mkF m 0 #[.val (.ref a), .val (.int p1), .unset, .unset, .unset] []) _ _ _
  have N0 := Fr.nil n0
  obtain ⟨kW, kS, wf, sf, r1, r2, r3, r4, B⟩ := f7
  refine Go.iloadN X0 hx (hb hby d_nsb_0) rfl ?_
  show Go _ _ _ _ s₁ (mkF m 1 #[.val (.ref a), .val (.int p1), .unset, .unset, .unset] [(.int p1)]) _ _ _
  refine Go.bipush X0 hx (hb hby d_nsb_1) ?_
  show Go _ _ _ _ s₁ (mkF m 3 #[.val (.ref a), .val (.int p1), .unset, .unset, .unset] [(.int (6 : Int32)), (.int p1)]) _ _ _
  refine Go.iushr X0 hx (hb hby d_nsb_3) ?_
  show Go _ _ _ _ s₁ (mkF m 4 #[.val (.ref a), .val (.int p1), .unset, .unset, .unset] [(.int (XT.ushr p1 (6 : Int32)))]) _ _ _
  refine Go.istoreN X0 hx (hb hby d_nsb_4) (l' := #[.val (.ref a), .val (.int p1), .val (.int (XT.ushr p1 (6 : Int32))), .unset, .unset]) rfl ?_
  show Go _ _ _ _ s₁ (mkF m 5 #[.val (.ref a), .val (.int p1), .val (.int (XT.ushr p1 (6 : Int32))), .unset, .unset] []) _ _ _
  refine (show ∀ wd : Int32, wd = (XT.ushr p1 (6 : Int32)) → Go _ _ _ _ s₁ (mkF m 5 #[.val (.ref a), .val (.int p1), .val (.int wd), .unset, .unset] []) _ _ _ from ?_) _ rfl
  intro wd g_wd
  have uw := ush6 f8
  rw [← g_wd] at uw
  refine Go.iloadN X0 hx (hb hby d_nsb_5) rfl ?_
  show Go _ _ _ _ s₁ (mkF m 6 #[.val (.ref a), .val (.int p1), .val (.int wd), .unset, .unset] [(.int wd)]) _ _ _
  refine Go.aloadN X0 hx (hb hby d_nsb_6) rfl rfl ?_
  show Go _ _ _ _ s₁ (mkF m 7 #[.val (.ref a), .val (.int p1), .val (.int wd), .unset, .unset] [(.ref a), (.int wd)]) _ _ _
  refine Go.getF X0 hx hZ hown (w11 hw) Via.refl e0 r1 (hb hby d_nsb_7) ?_
  intro T103 X103 e103
  show Go _ _ _ _ T103 (mkF m 10 #[.val (.ref a), .val (.int p1), .val (.int wd), .unset, .unset] [(.ref aW), (.int wd)]) _ _ _
  refine Go.alen X103 hx hZ e103 r3 (hb hby d_nsb_10) ?_
  show Go _ _ _ _ T103 (mkF m 11 #[.val (.ref a), .val (.int p1), .val (.int wd), .unset, .unset] [(.int (128 : Int32)), (.int wd)]) _ _ _
  refine Go.icmpYes X103 hx (hb hby d_nsb_11) (XT.ii_lt_t (by rw [Int32.lt_iff_toInt_lt, uw.2.1]; show _ < (128 : Int); omega)) (pc' := 16) (by decide) (by decide) ?_
  show Go _ _ _ _ T103 (mkF m 16 #[.val (.ref a), .val (.int p1), .val (.int wd), .unset, .unset] []) _ _ _
  refine Go.aloadN X103 hx (hb hby d_nsb_16) rfl rfl ?_
  show Go _ _ _ _ T103 (mkF m 17 #[.val (.ref a), .val (.int p1), .val (.int wd), .unset, .unset] [(.ref a)]) _ _ _
  refine Go.getF X103 hx hZ hown (w11 hw) Via.refl e103 r1 (hb hby d_nsb_17) ?_
  intro T104 X104 e104
  show Go _ _ _ _ T104 (mkF m 20 #[.val (.ref a), .val (.int p1), .val (.int wd), .unset, .unset] [(.ref aW)]) _ _ _
  refine Go.iloadN X104 hx (hb hby d_nsb_20) rfl ?_
  show Go _ _ _ _ T104 (mkF m 21 #[.val (.ref a), .val (.int p1), .val (.int wd), .unset, .unset] [(.int wd), (.ref aW)]) _ _ _
  refine Go.laload X104 hx hZ e104 r3 (neg_of uw.1) (by rw [uw.2.2]; have := nat_clamp f8; omega) (hb hby d_nsb_21) ?_
  show Go _ _ _ _ T104 (mkF m 22 #[.val (.ref a), .val (.int p1), .val (.int wd), .unset, .unset] [(.long (wf (wd).toNatClampNeg))]) _ _ _
  refine Go.ldc2 X104 hx hZ hown (w20 hw) (hb hby d_nsb_22) ?_
  show Go _ _ _ _ T104 (mkF m 25 #[.val (.ref a), .val (.int p1), .val (.int wd), .unset, .unset] [(.long (-1 : Int64)), (.long (wf (wd).toNatClampNeg))]) _ _ _
  refine Go.iloadN X104 hx (hb hby d_nsb_25) rfl ?_
  show Go _ _ _ _ T104 (mkF m 26 #[.val (.ref a), .val (.int p1), .val (.int wd), .unset, .unset] [(.int p1), (.long (-1 : Int64)), (.long (wf (wd).toNatClampNeg))]) _ _ _
  refine Go.lshl X104 hx (hb hby d_nsb_26) ?_
  show Go _ _ _ _ T104 (mkF m 27 #[.val (.ref a), .val (.int p1), .val (.int wd), .unset, .unset] [(.long ((-1 : Int64) <<< ((p1).toInt64 &&& 63))), (.long (wf (wd).toNatClampNeg))]) _ _ _
  refine Go.land X104 hx (hb hby d_nsb_27) ?_
  show Go _ _ _ _ T104 (mkF m 28 #[.val (.ref a), .val (.int p1), .val (.int wd), .unset, .unset] [(.long ((wf (wd).toNatClampNeg) &&& ((-1 : Int64) <<< ((p1).toInt64 &&& 63))))]) _ _ _
  refine Go.lstoreN X104 hx (hb hby d_nsb_28) (l' := #[.val (.ref a), .val (.int p1), .val (.int wd), .val (.long ((wf (wd).toNatClampNeg) &&& ((-1 : Int64) <<< ((p1).toInt64 &&& 63)))), .second]) rfl ?_
  show Go _ _ _ _ T104 (mkF m 29 #[.val (.ref a), .val (.int p1), .val (.int wd), .val (.long ((wf (wd).toNatClampNeg) &&& ((-1 : Int64) <<< ((p1).toInt64 &&& 63)))), .second] []) _ _ _
  refine (show ∀ bs : Int64, bs = ((wf (wd).toNatClampNeg) &&& ((-1 : Int64) <<< ((p1).toInt64 &&& 63))) → Go _ _ _ _ T104 (mkF m 29 #[.val (.ref a), .val (.int p1), .val (.int wd), .val (.long bs), .second] []) _ _ _ from ?_) _ rfl
  intro bs g_bs
  refine Go.lloadN X104 hx (hb hby d_nsb_29) rfl ?_
  show Go _ _ _ _ T104 (mkF m 30 #[.val (.ref a), .val (.int p1), .val (.int wd), .val (.long bs), .second] [(.long bs)]) _ _ _
  refine Go.lconst X104 hx (hb hby d_nsb_30) ?_
  show Go _ _ _ _ T104 (mkF m 31 #[.val (.ref a), .val (.int p1), .val (.int wd), .val (.long bs), .second] [(.long (0 : Int64)), (.long bs)]) _ _ _
  refine Go.lcmp X104 hx (hb hby d_nsb_31) ?_
  show Go _ _ _ _ T104 (mkF m 32 #[.val (.ref a), .val (.int p1), .val (.int wd), .val (.long bs), .second] [(.int (XT.cmpL bs (0 : Int64)))]) _ _ _
  rcases Decidable.em (bs = (0 : Int64)) with c105 | c105
  · refine Go.ifNo X104 hx (hb hby d_nsb_32) (XT.ll_ne_f c105) ?_
    show Go _ _ _ _ T104 (mkF m 35 #[.val (.ref a), .val (.int p1), .val (.int wd), .val (.long bs), .second] []) _ _ _
    refine Go.aloadN X104 hx (hb hby d_nsb_35) rfl rfl ?_
    show Go _ _ _ _ T104 (mkF m 36 #[.val (.ref a), .val (.int p1), .val (.int wd), .val (.long bs), .second] [(.ref a)]) _ _ _
    refine Go.iloadN X104 hx (hb hby d_nsb_36) rfl ?_
    show Go _ _ _ _ T104 (mkF m 37 #[.val (.ref a), .val (.int p1), .val (.int wd), .val (.long bs), .second] [(.int wd), (.ref a)]) _ _ _
    refine Go.iconst X104 hx (hb hby d_nsb_37) ?_
    show Go _ _ _ _ T104 (mkF m 38 #[.val (.ref a), .val (.int p1), .val (.int wd), .val (.long bs), .second] [(.int (1 : Int32)), (.int wd), (.ref a)]) _ _ _
    refine Go.iadd X104 hx (hb hby d_nsb_38) ?_
    show Go _ _ _ _ T104 (mkF m 39 #[.val (.ref a), .val (.int p1), .val (.int wd), .val (.long bs), .second] [(.int (wd + (1 : Int32))), (.ref a)]) _ _ _
    refine Go.callP (W := 0) (argsL := [(.int (wd + (1 : Int32)))]) (rest := []) X104 hx hZ hown (w38 hw) (w39 hw) (w40 hw) (w2 hw) (w3 hw) (w41 hw) (by decide) f0 (rm_nw l Z a0 hw a (wd + (1 : Int32)) aS kS wf sf h0 n0 Z0 r2 r4 (w_next f8 f9 g_wd).1 (w_next f8 f9 g_wd).2.1 B.2) e104 (lenOf pd_0 rfl) (hb hby d_nsb_39) (by rw [hml]; rfl) rfl (Nat.le_of_eq rfl) (by decide) (by decide) (by decide) (by decide) ?_
    intro v106 T106 L106 X106 q106
    obtain ⟨r106, rfl, M106, e106, P106_0⟩ := q106
    have N106 := Fr.app N0 M106
    show Go _ _ _ _ T106 (mkF m 42 #[.val (.ref a), .val (.int p1), .val (.int wd), .val (.long bs), .second] [(.int r106)]) _ _ _
    refine Go.istoreN X106 hx (hb hby d_nsb_42) (l' := #[.val (.ref a), .val (.int p1), .val (.int r106), .val (.long bs), .second]) rfl ?_
    show Go _ _ _ _ T106 (mkF m 43 #[.val (.ref a), .val (.int p1), .val (.int r106), .val (.long bs), .second] []) _ _ _
    refine Go.iloadN X106 hx (hb hby d_nsb_43) rfl ?_
    show Go _ _ _ _ T106 (mkF m 44 #[.val (.ref a), .val (.int p1), .val (.int r106), .val (.long bs), .second] [(.int r106)]) _ _ _
    rcases Decidable.em (r106 < (0 : Int32)) with c107 | c107
    · refine Go.ifNo X106 hx (hb hby d_nsb_44) (XT.i0_ge_f c107) ?_
      show Go _ _ _ _ T106 (mkF m 47 #[.val (.ref a), .val (.int p1), .val (.int r106), .val (.long bs), .second] []) _ _ _
      refine Go.lconst X106 hx (hb hby d_nsb_47) ?_
      show Go _ _ _ _ T106 (mkF m 48 #[.val (.ref a), .val (.int p1), .val (.int r106), .val (.long bs), .second] [(.long (0 : Int64))]) _ _ _
      refine Go.goto X106 hx (hb hby d_nsb_48) (pc' := 57) (by decide) (by decide) ?_
      show Go _ _ _ _ T106 (mkF m 57 #[.val (.ref a), .val (.int p1), .val (.int r106), .val (.long bs), .second] [(.long (0 : Int64))]) _ _ _
      refine Go.lstoreN X106 hx (hb hby d_nsb_57) (l' := #[.val (.ref a), .val (.int p1), .val (.int r106), .val (.long (0 : Int64)), .second]) rfl ?_
      show Go _ _ _ _ T106 (mkF m 58 #[.val (.ref a), .val (.int p1), .val (.int r106), .val (.long (0 : Int64)), .second] []) _ _ _
      refine Go.lloadN X106 hx (hb hby d_nsb_58) rfl ?_
      show Go _ _ _ _ T106 (mkF m 59 #[.val (.ref a), .val (.int p1), .val (.int r106), .val (.long (0 : Int64)), .second] [(.long (0 : Int64))]) _ _ _
      refine Go.lconst X106 hx (hb hby d_nsb_59) ?_
      show Go _ _ _ _ T106 (mkF m 60 #[.val (.ref a), .val (.int p1), .val (.int r106), .val (.long (0 : Int64)), .second] [(.long (0 : Int64)), (.long (0 : Int64))]) _ _ _
      refine Go.lcmp X106 hx (hb hby d_nsb_60) ?_
      show Go _ _ _ _ T106 (mkF m 61 #[.val (.ref a), .val (.int p1), .val (.int r106), .val (.long (0 : Int64)), .second] [(.int (XT.cmpL (0 : Int64) (0 : Int64)))]) _ _ _
      refine Go.ifNo X106 hx (hb hby d_nsb_61) (XT.ll_ne_f (by decide)) ?_
      show Go _ _ _ _ T106 (mkF m 64 #[.val (.ref a), .val (.int p1), .val (.int r106), .val (.long (0 : Int64)), .second] []) _ _ _
      refine Go.iconst X106 hx (hb hby d_nsb_64) ?_
      show Go _ _ _ _ T106 (mkF m 65 #[.val (.ref a), .val (.int p1), .val (.int r106), .val (.long (0 : Int64)), .second] [(.int (-1 : Int32))]) _ _ _
      refine Go.goto X106 hx (hb hby d_nsb_65) (pc' := 77) (by decide) (by decide) ?_
      show Go _ _ _ _ T106 (mkF m 77 #[.val (.ref a), .val (.int p1), .val (.int r106), .val (.long (0 : Int64)), .second] [(.int (-1 : Int32))]) _ _ _
      refine Go.retI X106 hx hlk hret (hb hby d_nsb_77) (by decide) (by decide) ?_
      rw [e106]
      exact ⟨_, rfl, N106, rfl, ns_none B f8 f9 g_wd g_bs c105 P106_0 c107⟩
    · refine Go.ifYes X106 hx (hb hby d_nsb_44) (XT.i0_ge_t c107) (pc' := 51) (by decide) (by decide) ?_
      show Go _ _ _ _ T106 (mkF m 51 #[.val (.ref a), .val (.int p1), .val (.int r106), .val (.long bs), .second] []) _ _ _
      refine Go.aloadN X106 hx (hb hby d_nsb_51) rfl rfl ?_
      show Go _ _ _ _ T106 (mkF m 52 #[.val (.ref a), .val (.int p1), .val (.int r106), .val (.long bs), .second] [(.ref a)]) _ _ _
      refine Go.getF X106 hx hZ hown (w11 hw) Via.refl e106 r1 (hb hby d_nsb_52) ?_
      intro T108 X108 e108
      show Go _ _ _ _ T108 (mkF m 55 #[.val (.ref a), .val (.int p1), .val (.int r106), .val (.long bs), .second] [(.ref aW)]) _ _ _
      refine Go.iloadN X108 hx (hb hby d_nsb_55) rfl ?_
      show Go _ _ _ _ T108 (mkF m 56 #[.val (.ref a), .val (.int p1), .val (.int r106), .val (.long bs), .second] [(.int r106), (.ref aW)]) _ _ _
      refine Go.laload X108 hx hZ e108 r3 c107 (r_idx P106_0 c107).1 (hb hby d_nsb_56) ?_
      show Go _ _ _ _ T108 (mkF m 57 #[.val (.ref a), .val (.int p1), .val (.int r106), .val (.long bs), .second] [(.long (wf (r106).toNatClampNeg))]) _ _ _
      refine Go.lstoreN X108 hx (hb hby d_nsb_57) (l' := #[.val (.ref a), .val (.int p1), .val (.int r106), .val (.long (wf (r106).toNatClampNeg)), .second]) rfl ?_
      show Go _ _ _ _ T108 (mkF m 58 #[.val (.ref a), .val (.int p1), .val (.int r106), .val (.long (wf (r106).toNatClampNeg)), .second] []) _ _ _
      refine Go.lloadN X108 hx (hb hby d_nsb_58) rfl ?_
      show Go _ _ _ _ T108 (mkF m 59 #[.val (.ref a), .val (.int p1), .val (.int r106), .val (.long (wf (r106).toNatClampNeg)), .second] [(.long (wf (r106).toNatClampNeg))]) _ _ _
      refine Go.lconst X108 hx (hb hby d_nsb_59) ?_
      show Go _ _ _ _ T108 (mkF m 60 #[.val (.ref a), .val (.int p1), .val (.int r106), .val (.long (wf (r106).toNatClampNeg)), .second] [(.long (0 : Int64)), (.long (wf (r106).toNatClampNeg))]) _ _ _
      refine Go.lcmp X108 hx (hb hby d_nsb_60) ?_
      show Go _ _ _ _ T108 (mkF m 61 #[.val (.ref a), .val (.int p1), .val (.int r106), .val (.long (wf (r106).toNatClampNeg)), .second] [(.int (XT.cmpL (wf (r106).toNatClampNeg) (0 : Int64)))]) _ _ _
      refine Go.ifYes X108 hx (hb hby d_nsb_61) (XT.ll_ne_t (r_idx P106_0 c107).2) (pc' := 68) (by decide) (by decide) ?_
      show Go _ _ _ _ T108 (mkF m 68 #[.val (.ref a), .val (.int p1), .val (.int r106), .val (.long (wf (r106).toNatClampNeg)), .second] []) _ _ _
      refine Go.iloadN X108 hx (hb hby d_nsb_68) rfl ?_
      show Go _ _ _ _ T108 (mkF m 69 #[.val (.ref a), .val (.int p1), .val (.int r106), .val (.long (wf (r106).toNatClampNeg)), .second] [(.int r106)]) _ _ _
      refine Go.bipush X108 hx (hb hby d_nsb_69) ?_
      show Go _ _ _ _ T108 (mkF m 71 #[.val (.ref a), .val (.int p1), .val (.int r106), .val (.long (wf (r106).toNatClampNeg)), .second] [(.int (6 : Int32)), (.int r106)]) _ _ _
      refine Go.ishl X108 hx (hb hby d_nsb_71) ?_
      show Go _ _ _ _ T108 (mkF m 72 #[.val (.ref a), .val (.int p1), .val (.int r106), .val (.long (wf (r106).toNatClampNeg)), .second] [(.int (r106 <<< ((6 : Int32) &&& 31)))]) _ _ _
      refine Go.lloadN X108 hx (hb hby d_nsb_72) rfl ?_
      show Go _ _ _ _ T108 (mkF m 73 #[.val (.ref a), .val (.int p1), .val (.int r106), .val (.long (wf (r106).toNatClampNeg)), .second] [(.long (wf (r106).toNatClampNeg)), (.int (r106 <<< ((6 : Int32) &&& 31)))]) _ _ _
      refine Go.callS (W := 1) (argsL := [(.long (wf (r106).toNatClampNeg))]) (rest := [(.int (r106 <<< ((6 : Int32) &&& 31)))]) X108 hx hZ hown (w64 hw) (w65 hw) (w57 hw) (w66 hw) (by decide) (rm_ntzL l Z a0 hw ((wf (r106).toNatClampNeg)) h0) e108 (lenOf pd_1 rfl) (hb hby d_nsb_73) (by rw [hml]; rfl) rfl (Nat.le_of_eq rfl) (by decide) (by decide) (by decide) (by decide) ?_
      intro v109 T109 L109 X109 q109
      obtain ⟨rfl, rfl, e109⟩ := q109
      have N109 := Fr.app N106 (Fr.nil n0)
      show Go _ _ _ _ T109 (mkF m 76 #[.val (.ref a), .val (.int p1), .val (.int r106), .val (.long (wf (r106).toNatClampNeg)), .second] [(.int (F_ntzL (wf (r106).toNatClampNeg))), (.int (r106 <<< ((6 : Int32) &&& 31)))]) _ _ _
      refine Go.iadd X109 hx (hb hby d_nsb_76) ?_
      show Go _ _ _ _ T109 (mkF m 77 #[.val (.ref a), .val (.int p1), .val (.int r106), .val (.long (wf (r106).toNatClampNeg)), .second] [(.int ((r106 <<< ((6 : Int32) &&& 31)) + (F_ntzL (wf (r106).toNatClampNeg))))]) _ _ _
      refine Go.retI X109 hx hlk hret (hb hby d_nsb_77) (by decide) (by decide) ?_
      rw [e109]
      exact ⟨_, rfl, N109, rfl, ns_next B f8 f9 g_wd g_bs c105 P106_0 c107⟩
  · refine Go.ifYes X104 hx (hb hby d_nsb_32) (XT.ll_ne_t c105) (pc' := 58) (by decide) (by decide) ?_
    show Go _ _ _ _ T104 (mkF m 58 #[.val (.ref a), .val (.int p1), .val (.int wd), .val (.long bs), .second] []) _ _ _
    refine Go.lloadN X104 hx (hb hby d_nsb_58) rfl ?_
    show Go _ _ _ _ T104 (mkF m 59 #[.val (.ref a), .val (.int p1), .val (.int wd), .val (.long bs), .second] [(.long bs)]) _ _ _
    refine Go.lconst X104 hx (hb hby d_nsb_59) ?_
    show Go _ _ _ _ T104 (mkF m 60 #[.val (.ref a), .val (.int p1), .val (.int wd), .val (.long bs), .second] [(.long (0 : Int64)), (.long bs)]) _ _ _
    refine Go.lcmp X104 hx (hb hby d_nsb_60) ?_
    show Go _ _ _ _ T104 (mkF m 61 #[.val (.ref a), .val (.int p1), .val (.int wd), .val (.long bs), .second] [(.int (XT.cmpL bs (0 : Int64)))]) _ _ _
    refine Go.ifYes X104 hx (hb hby d_nsb_61) (XT.ll_ne_t c105) (pc' := 68) (by decide) (by decide) ?_
    show Go _ _ _ _ T104 (mkF m 68 #[.val (.ref a), .val (.int p1), .val (.int wd), .val (.long bs), .second] []) _ _ _
    refine Go.iloadN X104 hx (hb hby d_nsb_68) rfl ?_
    show Go _ _ _ _ T104 (mkF m 69 #[.val (.ref a), .val (.int p1), .val (.int wd), .val (.long bs), .second] [(.int wd)]) _ _ _
    refine Go.bipush X104 hx (hb hby d_nsb_69) ?_
    show Go _ _ _ _ T104 (mkF m 71 #[.val (.ref a), .val (.int p1), .val (.int wd), .val (.long bs), .second] [(.int (6 : Int32)), (.int wd)]) _ _ _
    refine Go.ishl X104 hx (hb hby d_nsb_71) ?_
    show Go _ _ _ _ T104 (mkF m 72 #[.val (.ref a), .val (.int p1), .val (.int wd), .val (.long bs), .second] [(.int (wd <<< ((6 : Int32) &&& 31)))]) _ _ _
    refine Go.lloadN X104 hx (hb hby d_nsb_72) rfl ?_
    show Go _ _ _ _ T104 (mkF m 73 #[.val (.ref a), .val (.int p1), .val (.int wd), .val (.long bs), .second] [(.long bs), (.int (wd <<< ((6 : Int32) &&& 31)))]) _ _ _
    refine Go.callS (W := 1) (argsL := [(.long bs)]) (rest := [(.int (wd <<< ((6 : Int32) &&& 31)))]) X104 hx hZ hown (w64 hw) (w65 hw) (w57 hw) (w66 hw) (by decide) (rm_ntzL l Z a0 hw bs h0) e104 (lenOf pd_1 rfl) (hb hby d_nsb_73) (by rw [hml]; rfl) rfl (Nat.le_of_eq rfl) (by decide) (by decide) (by decide) (by decide) ?_
    intro v110 T110 L110 X110 q110
    obtain ⟨rfl, rfl, e110⟩ := q110
    have N110 := Fr.app N0 (Fr.nil n0)
    show Go _ _ _ _ T110 (mkF m 76 #[.val (.ref a), .val (.int p1), .val (.int wd), .val (.long bs), .second] [(.int (F_ntzL bs)), (.int (wd <<< ((6 : Int32) &&& 31)))]) _ _ _
    refine Go.iadd X110 hx (hb hby d_nsb_76) ?_
    show Go _ _ _ _ T110 (mkF m 77 #[.val (.ref a), .val (.int p1), .val (.int wd), .val (.long bs), .second] [(.int ((wd <<< ((6 : Int32) &&& 31)) + (F_ntzL bs)))]) _ _ _
    refine Go.retI X110 hx hlk hret (hb hby d_nsb_77) (by decide) (by decide) ?_
    rw [e110]
    exact ⟨_, rfl, N110, rfl, ns_here B f8 f9 g_wd g_bs c105⟩
theorem min_w {p : Int32} (p0 : 0 ≤ p.toInt) (p1 : p.toInt < 8192) : F_min (XT.ushr p (6 : Int32)) (127 : Int32) = XT.ushr p (6 : Int32) := by
  unfold F_min
  rw [if_neg (by rw [Int32.lt_iff_toInt_lt, (ush6 p0).2.1]; have : (127 : Int32).toInt = 127 := by decide
                 omega)]
def Q_psb (Z : State) (a : Addr) (p1 : Int32) (aW : Addr) (aS : Addr) (mem : Nat → Bool) (h0 : Heap) (n0 : Nat) (v : Option Value) (h : Heap) (L : List Loc) : Prop := ∃ (r : Int32), v = some (.int r) ∧ Fr n0 L ∧ h = h0 ∧ PS (mem) p1.toNatClampNeg r
theorem ef_psb (m : MethodId) (x0 : Addr) (x1 : Int32) : entryFrame m #[(.ref x0), (.int x1)] 5 = mkF m 0 #[.val (.ref x0), .val (.int x1), .unset, .unset, .unset] [] := by first | (simp [entryFrame, mkF, argsToLocals, Value.category]; done) | rfl
set_option maxRecDepth 65536 in
set_option maxHeartbeats 40000000 in
theorem rm_psb (l : Launch) (Z : State) (a0 : Array Value) (hw : ∀ d ∈ tables_1, d.before a0 Z = true) (a : Addr) (p1 : Int32) (aW : Addr) (aS : Addr) (mem : Nat → Bool) (h0 : Heap) (n0 : Nat) (Z0 : n0 ≤ h0.size) (f0 : Exa Z h0 a "com/example/collate/collate/analysis/Bits") (f1 : n0 ≤ a) (f2 : n0 ≤ aW) (f3 : n0 ≤ aS) (f4 : a ≠ aW) (f5 : a ≠ aS) (f6 : aW ≠ aS) (f7 : BS Z h0 a aW aS (mem)) (f8 : 0 ≤ p1.toInt) (f9 : p1.toInt < 8192) :
    Met l Z (⟨"com/example/collate/collate/analysis/Bits", "previousSetBit", "(I)I"⟩ : MethodName) prog_9_method_7_code 5 (Option.some Jvm.ClassFile.FieldType.int) [] ({ frames := 3, cells := 0, slots := 0, locals := 45 } : Room) #[(.ref a), (.int p1)] h0 (Q_psb Z a p1 aW aS mem h0 n0) := by
  refine Met.of (plainFor_of_name pn_psb) ?_
  intro p e s m below meth c s₁ X0 hx hby hml hZ hown hnm e0 hret hlk
  refine Go.cast (ef_psb m a p1) ?_
  show Go _ _ _ _ s₁ (mkF m 0 #[.val (.ref a), .val (.int p1), .unset, .unset, .unset] []) _ _ _
  have N0 := Fr.nil n0
  obtain ⟨kW, kS, wf, sf, r1, r2, r3, r4, B⟩ := f7
  refine Go.iloadN X0 hx (hb hby d_psb_0) rfl ?_
  show Go _ _ _ _ s₁ (mkF m 1 #[.val (.ref a), .val (.int p1), .unset, .unset, .unset] [(.int p1)]) _ _ _
  refine Go.ifNo X0 hx (hb hby d_psb_1) (XT.i0_lt_f (neg_of f8)) ?_
  show Go _ _ _ _ s₁ (mkF m 4 #[.val (.ref a), .val (.int p1), .unset, .unset, .unset] []) _ _ _
  refine Go.aloadN X0 hx (hb hby d_psb_4) rfl rfl ?_
  show Go _ _ _ _ s₁ (mkF m 5 #[.val (.ref a), .val (.int p1), .unset, .unset, .unset] [(.ref a)]) _ _ _
  refine Go.getF X0 hx hZ hown (w11 hw) Via.refl e0 r1 (hb hby d_psb_5) ?_
  intro T111 X111 e111
  show Go _ _ _ _ T111 (mkF m 8 #[.val (.ref a), .val (.int p1), .unset, .unset, .unset] [(.ref aW)]) _ _ _
  refine Go.alen X111 hx hZ e111 r3 (hb hby d_psb_8) ?_
  show Go _ _ _ _ T111 (mkF m 9 #[.val (.ref a), .val (.int p1), .unset, .unset, .unset] [(.int (128 : Int32))]) _ _ _
  refine Go.ifYes X111 hx (hb hby d_psb_9) (XT.i0_ne_t (by decide)) (pc' := 14) (by decide) (by decide) ?_
  show Go _ _ _ _ T111 (mkF m 14 #[.val (.ref a), .val (.int p1), .unset, .unset, .unset] []) _ _ _
  refine Go.iloadN X111 hx (hb hby d_psb_14) rfl ?_
  show Go _ _ _ _ T111 (mkF m 15 #[.val (.ref a), .val (.int p1), .unset, .unset, .unset] [(.int p1)]) _ _ _
  refine Go.bipush X111 hx (hb hby d_psb_15) ?_
  show Go _ _ _ _ T111 (mkF m 17 #[.val (.ref a), .val (.int p1), .unset, .unset, .unset] [(.int (6 : Int32)), (.int p1)]) _ _ _
  refine Go.iushr X111 hx (hb hby d_psb_17) ?_
  show Go _ _ _ _ T111 (mkF m 18 #[.val (.ref a), .val (.int p1), .unset, .unset, .unset] [(.int (XT.ushr p1 (6 : Int32)))]) _ _ _
  refine Go.aloadN X111 hx (hb hby d_psb_18) rfl rfl ?_
  show Go _ _ _ _ T111 (mkF m 19 #[.val (.ref a), .val (.int p1), .unset, .unset, .unset] [(.ref a), (.int (XT.ushr p1 (6 : Int32)))]) _ _ _
  refine Go.getF X111 hx hZ hown (w11 hw) Via.refl e111 r1 (hb hby d_psb_19) ?_
  intro T112 X112 e112
  show Go _ _ _ _ T112 (mkF m 22 #[.val (.ref a), .val (.int p1), .unset, .unset, .unset] [(.ref aW), (.int (XT.ushr p1 (6 : Int32)))]) _ _ _
  refine Go.alen X112 hx hZ e112 r3 (hb hby d_psb_22) ?_
  show Go _ _ _ _ T112 (mkF m 23 #[.val (.ref a), .val (.int p1), .unset, .unset, .unset] [(.int (128 : Int32)), (.int (XT.ushr p1 (6 : Int32)))]) _ _ _
  refine Go.iconst X112 hx (hb hby d_psb_23) ?_
  show Go _ _ _ _ T112 (mkF m 24 #[.val (.ref a), .val (.int p1), .unset, .unset, .unset] [(.int (1 : Int32)), (.int (128 : Int32)), (.int (XT.ushr p1 (6 : Int32)))]) _ _ _
  refine Go.isub X112 hx (hb hby d_psb_24) ?_
  show Go _ _ _ _ T112 (mkF m 25 #[.val (.ref a), .val (.int p1), .unset, .unset, .unset] [(.int (127 : Int32)), (.int (XT.ushr p1 (6 : Int32)))]) _ _ _
  refine Go.callS (W := 0) (argsL := [(.int (XT.ushr p1 (6 : Int32))), (.int (127 : Int32))]) (rest := []) X112 hx hZ hown (w47 hw) (w48 hw) (w49 hw) (w50 hw) (by decide) (rm_min l Z a0 hw ((XT.ushr p1 (6 : Int32))) ((127 : Int32)) h0) e112 (lenOf pd_2 rfl) (hb hby d_psb_25) (by rw [hml]; rfl) rfl (Nat.le_of_eq rfl) (by decide) (by decide) (by decide) (by decide) ?_
  intro v113 T113 L113 X113 q113
  obtain ⟨rfl, rfl, e113⟩ := q113
  have N113 := Fr.app N0 (Fr.nil n0)
  show Go _ _ _ _ T113 (mkF m 28 #[.val (.ref a), .val (.int p1), .unset, .unset, .unset] [(.int (F_min (XT.ushr p1 (6 : Int32)) (127 : Int32)))]) _ _ _
  refine Go.istoreN X113 hx (hb hby d_psb_28) (l' := #[.val (.ref a), .val (.int p1), .val (.int (F_min (XT.ushr p1 (6 : Int32)) (127 : Int32))), .unset, .unset]) rfl ?_
  show Go _ _ _ _ T113 (mkF m 29 #[.val (.ref a), .val (.int p1), .val (.int (F_min (XT.ushr p1 (6 : Int32)) (127 : Int32))), .unset, .unset] []) _ _ _
  refine (show ∀ wd : Int32, wd = (F_min (XT.ushr p1 (6 : Int32)) (127 : Int32)) → Go _ _ _ _ T113 (mkF m 29 #[.val (.ref a), .val (.int p1), .val (.int wd), .unset, .unset] []) _ _ _ from ?_) _ rfl
  intro wd g_wd
  have g_wd : wd = XT.ushr p1 (6 : Int32) := by rw [g_wd]; exact min_w f8 f9
  have uw := ush6 f8
  rw [← g_wd] at uw
  refine Go.iloadN X113 hx (hb hby d_psb_29) rfl ?_
  show Go _ _ _ _ T113 (mkF m 30 #[.val (.ref a), .val (.int p1), .val (.int wd), .unset, .unset] [(.int wd)]) _ _ _
  refine Go.iloadN X113 hx (hb hby d_psb_30) rfl ?_
  show Go _ _ _ _ T113 (mkF m 31 #[.val (.ref a), .val (.int p1), .val (.int wd), .unset, .unset] [(.int p1), (.int wd)]) _ _ _
  refine Go.bipush X113 hx (hb hby d_psb_31) ?_
  show Go _ _ _ _ T113 (mkF m 33 #[.val (.ref a), .val (.int p1), .val (.int wd), .unset, .unset] [(.int (6 : Int32)), (.int p1), (.int wd)]) _ _ _
  refine Go.iushr X113 hx (hb hby d_psb_33) ?_
  show Go _ _ _ _ T113 (mkF m 34 #[.val (.ref a), .val (.int p1), .val (.int wd), .unset, .unset] [(.int (XT.ushr p1 (6 : Int32))), (.int wd)]) _ _ _
  refine Go.icmpNo X113 hx (hb hby d_psb_34) (XT.ii_ne_f g_wd) ?_
  show Go _ _ _ _ T113 (mkF m 37 #[.val (.ref a), .val (.int p1), .val (.int wd), .unset, .unset] []) _ _ _
  refine Go.aloadN X113 hx (hb hby d_psb_37) rfl rfl ?_
  show Go _ _ _ _ T113 (mkF m 38 #[.val (.ref a), .val (.int p1), .val (.int wd), .unset, .unset] [(.ref a)]) _ _ _
  refine Go.getF X113 hx hZ hown (w11 hw) Via.refl e113 r1 (hb hby d_psb_38) ?_
  intro T114 X114 e114
  show Go _ _ _ _ T114 (mkF m 41 #[.val (.ref a), .val (.int p1), .val (.int wd), .unset, .unset] [(.ref aW)]) _ _ _
  refine Go.iloadN X114 hx (hb hby d_psb_41) rfl ?_
  show Go _ _ _ _ T114 (mkF m 42 #[.val (.ref a), .val (.int p1), .val (.int wd), .unset, .unset] [(.int wd), (.ref aW)]) _ _ _
  refine Go.laload X114 hx hZ e114 r3 (neg_of uw.1) (by rw [uw.2.2]; have := nat_clamp f8; omega) (hb hby d_psb_42) ?_
  show Go _ _ _ _ T114 (mkF m 43 #[.val (.ref a), .val (.int p1), .val (.int wd), .unset, .unset] [(.long (wf (wd).toNatClampNeg))]) _ _ _
  refine Go.ldc2 X114 hx hZ hown (w20 hw) (hb hby d_psb_43) ?_
  show Go _ _ _ _ T114 (mkF m 46 #[.val (.ref a), .val (.int p1), .val (.int wd), .unset, .unset] [(.long (-1 : Int64)), (.long (wf (wd).toNatClampNeg))]) _ _ _
  refine Go.bipush X114 hx (hb hby d_psb_46) ?_
  show Go _ _ _ _ T114 (mkF m 48 #[.val (.ref a), .val (.int p1), .val (.int wd), .unset, .unset] [(.int (63 : Int32)), (.long (-1 : Int64)), (.long (wf (wd).toNatClampNeg))]) _ _ _
  refine Go.iloadN X114 hx (hb hby d_psb_48) rfl ?_
  show Go _ _ _ _ T114 (mkF m 49 #[.val (.ref a), .val (.int p1), .val (.int wd), .unset, .unset] [(.int p1), (.int (63 : Int32)), (.long (-1 : Int64)), (.long (wf (wd).toNatClampNeg))]) _ _ _
  refine Go.bipush X114 hx (hb hby d_psb_49) ?_
  show Go _ _ _ _ T114 (mkF m 51 #[.val (.ref a), .val (.int p1), .val (.int wd), .unset, .unset] [(.int (63 : Int32)), (.int p1), (.int (63 : Int32)), (.long (-1 : Int64)), (.long (wf (wd).toNatClampNeg))]) _ _ _
  refine Go.iand X114 hx (hb hby d_psb_51) ?_
  show Go _ _ _ _ T114 (mkF m 52 #[.val (.ref a), .val (.int p1), .val (.int wd), .unset, .unset] [(.int (p1 &&& (63 : Int32))), (.int (63 : Int32)), (.long (-1 : Int64)), (.long (wf (wd).toNatClampNeg))]) _ _ _
  refine Go.isub X114 hx (hb hby d_psb_52) ?_
  show Go _ _ _ _ T114 (mkF m 53 #[.val (.ref a), .val (.int p1), .val (.int wd), .unset, .unset] [(.int ((63 : Int32) - (p1 &&& (63 : Int32)))), (.long (-1 : Int64)), (.long (wf (wd).toNatClampNeg))]) _ _ _
  refine Go.lushr X114 hx (hb hby d_psb_53) ?_
  show Go _ _ _ _ T114 (mkF m 54 #[.val (.ref a), .val (.int p1), .val (.int wd), .unset, .unset] [(.long (XT.ushrL (-1 : Int64) ((63 : Int32) - (p1 &&& (63 : Int32))))), (.long (wf (wd).toNatClampNeg))]) _ _ _
  refine Go.land X114 hx (hb hby d_psb_54) ?_
  show Go _ _ _ _ T114 (mkF m 55 #[.val (.ref a), .val (.int p1), .val (.int wd), .unset, .unset] [(.long ((wf (wd).toNatClampNeg) &&& (XT.ushrL (-1 : Int64) ((63 : Int32) - (p1 &&& (63 : Int32))))))]) _ _ _
  refine Go.goto X114 hx (hb hby d_psb_55) (pc' := 64) (by decide) (by decide) ?_
  show Go _ _ _ _ T114 (mkF m 64 #[.val (.ref a), .val (.int p1), .val (.int wd), .unset, .unset] [(.long ((wf (wd).toNatClampNeg) &&& (XT.ushrL (-1 : Int64) ((63 : Int32) - (p1 &&& (63 : Int32))))))]) _ _ _
  refine Go.lstoreN X114 hx (hb hby d_psb_64) (l' := #[.val (.ref a), .val (.int p1), .val (.int wd), .val (.long ((wf (wd).toNatClampNeg) &&& (XT.ushrL (-1 : Int64) ((63 : Int32) - (p1 &&& (63 : Int32)))))), .second]) rfl ?_
  show Go _ _ _ _ T114 (mkF m 65 #[.val (.ref a), .val (.int p1), .val (.int wd), .val (.long ((wf (wd).toNatClampNeg) &&& (XT.ushrL (-1 : Int64) ((63 : Int32) - (p1 &&& (63 : Int32)))))), .second] []) _ _ _
  refine (show ∀ bs : Int64, bs = ((wf (wd).toNatClampNeg) &&& (XT.ushrL (-1 : Int64) ((63 : Int32) - (p1 &&& (63 : Int32))))) → Go _ _ _ _ T114 (mkF m 65 #[.val (.ref a), .val (.int p1), .val (.int wd), .val (.long bs), .second] []) _ _ _ from ?_) _ rfl
  intro bs g_bs
  refine Go.lloadN X114 hx (hb hby d_psb_65) rfl ?_
  show Go _ _ _ _ T114 (mkF m 66 #[.val (.ref a), .val (.int p1), .val (.int wd), .val (.long bs), .second] [(.long bs)]) _ _ _
  refine Go.lconst X114 hx (hb hby d_psb_66) ?_
  show Go _ _ _ _ T114 (mkF m 67 #[.val (.ref a), .val (.int p1), .val (.int wd), .val (.long bs), .second] [(.long (0 : Int64)), (.long bs)]) _ _ _
  refine Go.lcmp X114 hx (hb hby d_psb_67) ?_
  show Go _ _ _ _ T114 (mkF m 68 #[.val (.ref a), .val (.int p1), .val (.int wd), .val (.long bs), .second] [(.int (XT.cmpL bs (0 : Int64)))]) _ _ _
  rcases Decidable.em (bs = (0 : Int64)) with c115 | c115
  · refine Go.ifNo X114 hx (hb hby d_psb_68) (XT.ll_ne_f c115) ?_
    show Go _ _ _ _ T114 (mkF m 71 #[.val (.ref a), .val (.int p1), .val (.int wd), .val (.long bs), .second] []) _ _ _
    refine Go.aloadN X114 hx (hb hby d_psb_71) rfl rfl ?_
    show Go _ _ _ _ T114 (mkF m 72 #[.val (.ref a), .val (.int p1), .val (.int wd), .val (.long bs), .second] [(.ref a)]) _ _ _
    refine Go.iloadN X114 hx (hb hby d_psb_72) rfl ?_
    show Go _ _ _ _ T114 (mkF m 73 #[.val (.ref a), .val (.int p1), .val (.int wd), .val (.long bs), .second] [(.int wd), (.ref a)]) _ _ _
    refine Go.iconst X114 hx (hb hby d_psb_73) ?_
    show Go _ _ _ _ T114 (mkF m 74 #[.val (.ref a), .val (.int p1), .val (.int wd), .val (.long bs), .second] [(.int (1 : Int32)), (.int wd), (.ref a)]) _ _ _
    refine Go.isub X114 hx (hb hby d_psb_74) ?_
    show Go _ _ _ _ T114 (mkF m 75 #[.val (.ref a), .val (.int p1), .val (.int wd), .val (.long bs), .second] [(.int (wd - (1 : Int32))), (.ref a)]) _ _ _
    refine Go.callP (W := 0) (argsL := [(.int (wd - (1 : Int32)))]) (rest := []) X114 hx hZ hown (w51 hw) (w52 hw) (w53 hw) (w2 hw) (w3 hw) (w54 hw) (by decide) f0 (rm_pw l Z a0 hw a (wd - (1 : Int32)) aS kS wf sf h0 n0 Z0 r2 r4 (by rw [w_prev f8 f9 g_wd]; omega) (by rw [w_prev f8 f9 g_wd]; have := nat_clamp f8; omega) B.2) e114 (lenOf pd_0 rfl) (hb hby d_psb_75) (by rw [hml]; rfl) rfl (Nat.le_of_eq rfl) (by decide) (by decide) (by decide) (by decide) ?_
    intro v116 T116 L116 X116 q116
    obtain ⟨r116, rfl, M116, e116, P116_0⟩ := q116
    have N116 := Fr.app N113 M116
    show Go _ _ _ _ T116 (mkF m 78 #[.val (.ref a), .val (.int p1), .val (.int wd), .val (.long bs), .second] [(.int r116)]) _ _ _
    refine Go.istoreN X116 hx (hb hby d_psb_78) (l' := #[.val (.ref a), .val (.int p1), .val (.int r116), .val (.long bs), .second]) rfl ?_
    show Go _ _ _ _ T116 (mkF m 79 #[.val (.ref a), .val (.int p1), .val (.int r116), .val (.long bs), .second] []) _ _ _
    refine Go.iloadN X116 hx (hb hby d_psb_79) rfl ?_
    show Go _ _ _ _ T116 (mkF m 80 #[.val (.ref a), .val (.int p1), .val (.int r116), .val (.long bs), .second] [(.int r116)]) _ _ _
    rcases Decidable.em (r116 < (0 : Int32)) with c117 | c117
    · refine Go.ifNo X116 hx (hb hby d_psb_80) (XT.i0_ge_f c117) ?_
      show Go _ _ _ _ T116 (mkF m 83 #[.val (.ref a), .val (.int p1), .val (.int r116), .val (.long bs), .second] []) _ _ _
      refine Go.lconst X116 hx (hb hby d_psb_83) ?_
      show Go _ _ _ _ T116 (mkF m 84 #[.val (.ref a), .val (.int p1), .val (.int r116), .val (.long bs), .second] [(.long (0 : Int64))]) _ _ _
      refine Go.goto X116 hx (hb hby d_psb_84) (pc' := 93) (by decide) (by decide) ?_
      show Go _ _ _ _ T116 (mkF m 93 #[.val (.ref a), .val (.int p1), .val (.int r116), .val (.long bs), .second] [(.long (0 : Int64))]) _ _ _
      refine Go.lstoreN X116 hx (hb hby d_psb_93) (l' := #[.val (.ref a), .val (.int p1), .val (.int r116), .val (.long (0 : Int64)), .second]) rfl ?_
      show Go _ _ _ _ T116 (mkF m 94 #[.val (.ref a), .val (.int p1), .val (.int r116), .val (.long (0 : Int64)), .second] []) _ _ _
      refine Go.lloadN X116 hx (hb hby d_psb_94) rfl ?_
      show Go _ _ _ _ T116 (mkF m 95 #[.val (.ref a), .val (.int p1), .val (.int r116), .val (.long (0 : Int64)), .second] [(.long (0 : Int64))]) _ _ _
      refine Go.lconst X116 hx (hb hby d_psb_95) ?_
      show Go _ _ _ _ T116 (mkF m 96 #[.val (.ref a), .val (.int p1), .val (.int r116), .val (.long (0 : Int64)), .second] [(.long (0 : Int64)), (.long (0 : Int64))]) _ _ _
      refine Go.lcmp X116 hx (hb hby d_psb_96) ?_
      show Go _ _ _ _ T116 (mkF m 97 #[.val (.ref a), .val (.int p1), .val (.int r116), .val (.long (0 : Int64)), .second] [(.int (XT.cmpL (0 : Int64) (0 : Int64)))]) _ _ _
      refine Go.ifNo X116 hx (hb hby d_psb_97) (XT.ll_ne_f (by decide)) ?_
      show Go _ _ _ _ T116 (mkF m 100 #[.val (.ref a), .val (.int p1), .val (.int r116), .val (.long (0 : Int64)), .second] []) _ _ _
      refine Go.iconst X116 hx (hb hby d_psb_100) ?_
      show Go _ _ _ _ T116 (mkF m 101 #[.val (.ref a), .val (.int p1), .val (.int r116), .val (.long (0 : Int64)), .second] [(.int (-1 : Int32))]) _ _ _
      refine Go.goto X116 hx (hb hby d_psb_101) (pc' := 116) (by decide) (by decide) ?_
      show Go _ _ _ _ T116 (mkF m 116 #[.val (.ref a), .val (.int p1), .val (.int r116), .val (.long (0 : Int64)), .second] [(.int (-1 : Int32))]) _ _ _
      refine Go.retI X116 hx hlk hret (hb hby d_psb_116) (by decide) (by decide) ?_
      rw [e116]
      exact ⟨_, rfl, N116, rfl, ps_none B f8 f9 g_wd g_bs c115 P116_0 c117⟩
    · refine Go.ifYes X116 hx (hb hby d_psb_80) (XT.i0_ge_t c117) (pc' := 87) (by decide) (by decide) ?_
      show Go _ _ _ _ T116 (mkF m 87 #[.val (.ref a), .val (.int p1), .val (.int r116), .val (.long bs), .second] []) _ _ _
      refine Go.aloadN X116 hx (hb hby d_psb_87) rfl rfl ?_
      show Go _ _ _ _ T116 (mkF m 88 #[.val (.ref a), .val (.int p1), .val (.int r116), .val (.long bs), .second] [(.ref a)]) _ _ _
      refine Go.getF X116 hx hZ hown (w11 hw) Via.refl e116 r1 (hb hby d_psb_88) ?_
      intro T118 X118 e118
      show Go _ _ _ _ T118 (mkF m 91 #[.val (.ref a), .val (.int p1), .val (.int r116), .val (.long bs), .second] [(.ref aW)]) _ _ _
      refine Go.iloadN X118 hx (hb hby d_psb_91) rfl ?_
      show Go _ _ _ _ T118 (mkF m 92 #[.val (.ref a), .val (.int p1), .val (.int r116), .val (.long bs), .second] [(.int r116), (.ref aW)]) _ _ _
      refine Go.laload X118 hx hZ e118 r3 c117 (r_idxp P116_0 c117).1 (hb hby d_psb_92) ?_
      show Go _ _ _ _ T118 (mkF m 93 #[.val (.ref a), .val (.int p1), .val (.int r116), .val (.long bs), .second] [(.long (wf (r116).toNatClampNeg))]) _ _ _
      refine Go.lstoreN X118 hx (hb hby d_psb_93) (l' := #[.val (.ref a), .val (.int p1), .val (.int r116), .val (.long (wf (r116).toNatClampNeg)), .second]) rfl ?_
      show Go _ _ _ _ T118 (mkF m 94 #[.val (.ref a), .val (.int p1), .val (.int r116), .val (.long (wf (r116).toNatClampNeg)), .second] []) _ _ _
      refine Go.lloadN X118 hx (hb hby d_psb_94) rfl ?_
      show Go _ _ _ _ T118 (mkF m 95 #[.val (.ref a), .val (.int p1), .val (.int r116), .val (.long (wf (r116).toNatClampNeg)), .second] [(.long (wf (r116).toNatClampNeg))]) _ _ _
      refine Go.lconst X118 hx (hb hby d_psb_95) ?_
      show Go _ _ _ _ T118 (mkF m 96 #[.val (.ref a), .val (.int p1), .val (.int r116), .val (.long (wf (r116).toNatClampNeg)), .second] [(.long (0 : Int64)), (.long (wf (r116).toNatClampNeg))]) _ _ _
      refine Go.lcmp X118 hx (hb hby d_psb_96) ?_
      show Go _ _ _ _ T118 (mkF m 97 #[.val (.ref a), .val (.int p1), .val (.int r116), .val (.long (wf (r116).toNatClampNeg)), .second] [(.int (XT.cmpL (wf (r116).toNatClampNeg) (0 : Int64)))]) _ _ _
      refine Go.ifYes X118 hx (hb hby d_psb_97) (XT.ll_ne_t (r_idxp P116_0 c117).2) (pc' := 104) (by decide) (by decide) ?_
      show Go _ _ _ _ T118 (mkF m 104 #[.val (.ref a), .val (.int p1), .val (.int r116), .val (.long (wf (r116).toNatClampNeg)), .second] []) _ _ _
      refine Go.iloadN X118 hx (hb hby d_psb_104) rfl ?_
      show Go _ _ _ _ T118 (mkF m 105 #[.val (.ref a), .val (.int p1), .val (.int r116), .val (.long (wf (r116).toNatClampNeg)), .second] [(.int r116)]) _ _ _
      refine Go.bipush X118 hx (hb hby d_psb_105) ?_
      show Go _ _ _ _ T118 (mkF m 107 #[.val (.ref a), .val (.int p1), .val (.int r116), .val (.long (wf (r116).toNatClampNeg)), .second] [(.int (6 : Int32)), (.int r116)]) _ _ _
      refine Go.ishl X118 hx (hb hby d_psb_107) ?_
      show Go _ _ _ _ T118 (mkF m 108 #[.val (.ref a), .val (.int p1), .val (.int r116), .val (.long (wf (r116).toNatClampNeg)), .second] [(.int (r116 <<< ((6 : Int32) &&& 31)))]) _ _ _
      refine Go.bipush X118 hx (hb hby d_psb_108) ?_
      show Go _ _ _ _ T118 (mkF m 110 #[.val (.ref a), .val (.int p1), .val (.int r116), .val (.long (wf (r116).toNatClampNeg)), .second] [(.int (63 : Int32)), (.int (r116 <<< ((6 : Int32) &&& 31)))]) _ _ _
      refine Go.iadd X118 hx (hb hby d_psb_110) ?_
      show Go _ _ _ _ T118 (mkF m 111 #[.val (.ref a), .val (.int p1), .val (.int r116), .val (.long (wf (r116).toNatClampNeg)), .second] [(.int ((r116 <<< ((6 : Int32) &&& 31)) + (63 : Int32)))]) _ _ _
      refine Go.lloadN X118 hx (hb hby d_psb_111) rfl ?_
      show Go _ _ _ _ T118 (mkF m 112 #[.val (.ref a), .val (.int p1), .val (.int r116), .val (.long (wf (r116).toNatClampNeg)), .second] [(.long (wf (r116).toNatClampNeg)), (.int ((r116 <<< ((6 : Int32) &&& 31)) + (63 : Int32)))]) _ _ _
      refine Go.callS (W := 1) (argsL := [(.long (wf (r116).toNatClampNeg))]) (rest := [(.int ((r116 <<< ((6 : Int32) &&& 31)) + (63 : Int32)))]) X118 hx hZ hown (w55 hw) (w56 hw) (w57 hw) (w58 hw) (by decide) (rm_nlzL l Z a0 hw ((wf (r116).toNatClampNeg)) h0) e118 (lenOf pd_1 rfl) (hb hby d_psb_112) (by rw [hml]; rfl) rfl (Nat.le_of_eq rfl) (by decide) (by decide) (by decide) (by decide) ?_
      intro v119 T119 L119 X119 q119
      obtain ⟨rfl, rfl, e119⟩ := q119
      have N119 := Fr.app N116 (Fr.nil n0)
      show Go _ _ _ _ T119 (mkF m 115 #[.val (.ref a), .val (.int p1), .val (.int r116), .val (.long (wf (r116).toNatClampNeg)), .second] [(.int (F_nlzL (wf (r116).toNatClampNeg))), (.int ((r116 <<< ((6 : Int32) &&& 31)) + (63 : Int32)))]) _ _ _
      refine Go.isub X119 hx (hb hby d_psb_115) ?_
      show Go _ _ _ _ T119 (mkF m 116 #[.val (.ref a), .val (.int p1), .val (.int r116), .val (.long (wf (r116).toNatClampNeg)), .second] [(.int (((r116 <<< ((6 : Int32) &&& 31)) + (63 : Int32)) - (F_nlzL (wf (r116).toNatClampNeg))))]) _ _ _
      refine Go.retI X119 hx hlk hret (hb hby d_psb_116) (by decide) (by decide) ?_
      rw [e119]
      exact ⟨_, rfl, N119, rfl, ps_next B f8 f9 g_wd g_bs c115 P116_0 c117⟩
  · refine Go.ifYes X114 hx (hb hby d_psb_68) (XT.ll_ne_t c115) (pc' := 94) (by decide) (by decide) ?_
    show Go _ _ _ _ T114 (mkF m 94 #[.val (.ref a), .val (.int p1), .val (.int wd), .val (.long bs), .second] []) _ _ _
    refine Go.lloadN X114 hx (hb hby d_psb_94) rfl ?_
    show Go _ _ _ _ T114 (mkF m 95 #[.val (.ref a), .val (.int p1), .val (.int wd), .val (.long bs), .second] [(.long bs)]) _ _ _
    refine Go.lconst X114 hx (hb hby d_psb_95) ?_
    show Go _ _ _ _ T114 (mkF m 96 #[.val (.ref a), .val (.int p1), .val (.int wd), .val (.long bs), .second] [(.long (0 : Int64)), (.long bs)]) _ _ _
    refine Go.lcmp X114 hx (hb hby d_psb_96) ?_
    show Go _ _ _ _ T114 (mkF m 97 #[.val (.ref a), .val (.int p1), .val (.int wd), .val (.long bs), .second] [(.int (XT.cmpL bs (0 : Int64)))]) _ _ _
    refine Go.ifYes X114 hx (hb hby d_psb_97) (XT.ll_ne_t c115) (pc' := 104) (by decide) (by decide) ?_
    show Go _ _ _ _ T114 (mkF m 104 #[.val (.ref a), .val (.int p1), .val (.int wd), .val (.long bs), .second] []) _ _ _
    refine Go.iloadN X114 hx (hb hby d_psb_104) rfl ?_
    show Go _ _ _ _ T114 (mkF m 105 #[.val (.ref a), .val (.int p1), .val (.int wd), .val (.long bs), .second] [(.int wd)]) _ _ _
    refine Go.bipush X114 hx (hb hby d_psb_105) ?_
    show Go _ _ _ _ T114 (mkF m 107 #[.val (.ref a), .val (.int p1), .val (.int wd), .val (.long bs), .second] [(.int (6 : Int32)), (.int wd)]) _ _ _
    refine Go.ishl X114 hx (hb hby d_psb_107) ?_
    show Go _ _ _ _ T114 (mkF m 108 #[.val (.ref a), .val (.int p1), .val (.int wd), .val (.long bs), .second] [(.int (wd <<< ((6 : Int32) &&& 31)))]) _ _ _
    refine Go.bipush X114 hx (hb hby d_psb_108) ?_
    show Go _ _ _ _ T114 (mkF m 110 #[.val (.ref a), .val (.int p1), .val (.int wd), .val (.long bs), .second] [(.int (63 : Int32)), (.int (wd <<< ((6 : Int32) &&& 31)))]) _ _ _
    refine Go.iadd X114 hx (hb hby d_psb_110) ?_
    show Go _ _ _ _ T114 (mkF m 111 #[.val (.ref a), .val (.int p1), .val (.int wd), .val (.long bs), .second] [(.int ((wd <<< ((6 : Int32) &&& 31)) + (63 : Int32)))]) _ _ _
    refine Go.lloadN X114 hx (hb hby d_psb_111) rfl ?_
    show Go _ _ _ _ T114 (mkF m 112 #[.val (.ref a), .val (.int p1), .val (.int wd), .val (.long bs), .second] [(.long bs), (.int ((wd <<< ((6 : Int32) &&& 31)) + (63 : Int32)))]) _ _ _
    refine Go.callS (W := 1) (argsL := [(.long bs)]) (rest := [(.int ((wd <<< ((6 : Int32) &&& 31)) + (63 : Int32)))]) X114 hx hZ hown (w55 hw) (w56 hw) (w57 hw) (w58 hw) (by decide) (rm_nlzL l Z a0 hw bs h0) e114 (lenOf pd_1 rfl) (hb hby d_psb_112) (by rw [hml]; rfl) rfl (Nat.le_of_eq rfl) (by decide) (by decide) (by decide) (by decide) ?_
    intro v120 T120 L120 X120 q120
    obtain ⟨rfl, rfl, e120⟩ := q120
    have N120 := Fr.app N113 (Fr.nil n0)
    show Go _ _ _ _ T120 (mkF m 115 #[.val (.ref a), .val (.int p1), .val (.int wd), .val (.long bs), .second] [(.int (F_nlzL bs)), (.int ((wd <<< ((6 : Int32) &&& 31)) + (63 : Int32)))]) _ _ _
    refine Go.isub X120 hx (hb hby d_psb_115) ?_
    show Go _ _ _ _ T120 (mkF m 116 #[.val (.ref a), .val (.int p1), .val (.int wd), .val (.long bs), .second] [(.int (((wd <<< ((6 : Int32) &&& 31)) + (63 : Int32)) - (F_nlzL bs)))]) _ _ _
    refine Go.retI X120 hx hlk hret (hb hby d_psb_116) (by decide) (by decide) ?_
    rw [e120]
    exact ⟨_, rfl, N120, rfl, ps_here B f8 f9 g_wd g_bs c115⟩
theorem own_mix (x b : Int32) (x0 : 0 ≤ x.toInt) (x1 : x.toInt < 8192) : 0 ≤ ((x &&& (-64 : Int32)) ||| (b &&& (63 : Int32))).toInt ∧ ((x &&& (-64 : Int32)) ||| (b &&& (63 : Int32))).toInt < 8192 := by
  have xn : x.toBitVec.toNat < 2 ^ 13 := by
    have e : x.toInt = x.toBitVec.toInt := rfl
    have hl := x.toBitVec.isLt
    rw [e, BitVec.toInt_eq_toNat_cond] at x0 x1
    split at x0 <;> split at x1 <;> omega
  have h : ((x &&& (-64 : Int32)) ||| (b &&& (63 : Int32))).toBitVec.toNat < 2 ^ 13 := by
    apply Nat.lt_pow_two_of_testBit
    intro i hi
    show ((x.toBitVec &&& (-64 : Int32).toBitVec) ||| (b.toBitVec &&& (63 : Int32).toBitVec)).getLsbD i = false
    have e1 : x.toBitVec.getLsbD i = false := Nat.testBit_lt_two_pow (Nat.lt_of_lt_of_le xn (Nat.pow_le_pow_right (by decide) hi))
    have e2 : ((63 : Int32).toBitVec).getLsbD i = false := Nat.testBit_lt_two_pow (Nat.lt_of_lt_of_le (by decide : (63 : Nat) < 2 ^ 13) (Nat.pow_le_pow_right (by decide) hi))
    rw [BitVec.getLsbD_or, BitVec.getLsbD_and, BitVec.getLsbD_and, e1, e2]; simp
  have e : ((x &&& (-64 : Int32)) ||| (b &&& (63 : Int32))).toInt = (((x &&& (-64 : Int32)) ||| (b &&& (63 : Int32))).toBitVec.toNat : Int) := by
    show BitVec.toInt _ = _
    rw [BitVec.toInt_eq_toNat_cond, if_pos (by omega)]
  omega
theorem own_y (c b x : Int32) (x0 : 0 ≤ x.toInt ∧ x.toInt < 8192) {y : Int32} (g : y = (if c = (0 : Int32) then ((b &&& (2147483647 : Int32)) % (8192 : Int32)) else ((x &&& (-64 : Int32)) ||| (b &&& (63 : Int32))))) : 0 ≤ y.toInt ∧ y.toInt < 8192 := by
  rw [g]; split
  · exact own_mod b 8192 8192 (by decide) (by decide)
  · exact own_mix x b x0.1 x0.2
theorem own_01 {c f : Int32} (g : f = (if c = (0 : Int32) then (0 : Int32) else (1 : Int32))) : f = 0 ∨ f = 1 := by rw [g]; split <;> simp
theorem b01 {f : Int32} (h : f = 0 ∨ f = 1) : (if (!decide (f = (0 : Int32))) = true then (1 : Int32) else (0 : Int32)) = f := by rcases h with rfl | rfl <;> decide
theorem cl_inj {x y : Int32} (x0 : 0 ≤ x.toInt) (y0 : 0 ≤ y.toInt) : x.toNatClampNeg = y.toNatClampNeg ↔ x = y := by
  have a := nat_clamp x0; have b := nat_clamp y0
  constructor
  · intro h; exact Int32.toInt_inj.mp (by omega)
  · rintro rfl; rfl
abbrev m3 (x y z fx fy fz : Int32) : Nat → Bool := memSet (memSet (memSet (fun _ => false) x.toNatClampNeg (!decide (fx = (0 : Int32)))) y.toNatClampNeg (!decide (fy = (0 : Int32)))) z.toNatClampNeg (!decide (fz = (0 : Int32)))
theorem m3_z (x y z fx fy fz : Int32) : m3 x y z fx fy fz z.toNatClampNeg = !decide (fz = (0 : Int32)) := if_pos rfl
theorem m3_y {x y z fx fy fz : Int32} (y0 : 0 ≤ y.toInt) (z0 : 0 ≤ z.toInt) : m3 x y z fx fy fz y.toNatClampNeg = !decide ((if y = z then fz else fy) = (0 : Int32)) := by
  show (if y.toNatClampNeg = z.toNatClampNeg then _ else (if y.toNatClampNeg = y.toNatClampNeg then _ else _)) = _
  rw [if_pos (rfl : y.toNatClampNeg = y.toNatClampNeg)]
  by_cases h : y = z
  · rw [if_pos ((cl_inj y0 z0).mpr h), if_pos h]
  · rw [if_neg (fun q => h ((cl_inj y0 z0).mp q)), if_neg h]
theorem m3_x {x y z fx fy fz : Int32} (x0 : 0 ≤ x.toInt) (y0 : 0 ≤ y.toInt) (z0 : 0 ≤ z.toInt) : m3 x y z fx fy fz x.toNatClampNeg = !decide ((if x = z then fz else (if x = y then fy else fx)) = (0 : Int32)) := by
  show (if x.toNatClampNeg = z.toNatClampNeg then _ else (if x.toNatClampNeg = y.toNatClampNeg then _ else (if x.toNatClampNeg = x.toNatClampNeg then _ else _))) = _
  rw [if_pos (rfl : x.toNatClampNeg = x.toNatClampNeg)]
  by_cases h : x = z
  · rw [if_pos ((cl_inj x0 z0).mpr h), if_pos h]
  · rw [if_neg (fun q => h ((cl_inj x0 z0).mp q)), if_neg h]
    by_cases k : x = y
    · rw [if_pos ((cl_inj x0 y0).mpr k), if_pos k]
    · rw [if_neg (fun q => k ((cl_inj x0 y0).mp q)), if_neg k]
theorem m3_only {x y z fx fy fz : Int32} {n : Nat} (h : m3 x y z fx fy fz n = true) : n = x.toNatClampNeg ∨ n = y.toNatClampNeg ∨ n = z.toNatClampNeg := by
  by_cases h1 : n = x.toNatClampNeg
  · exact Or.inl h1
  · by_cases h2 : n = y.toNatClampNeg
    · exact Or.inr (Or.inl h2)
    · by_cases h3 : n = z.toNatClampNeg
      · exact Or.inr (Or.inr h3)
      · simp [m3, memSet, h1, h2, h3] at h
def Bst (mem : Nat → Bool) (q : Nat) (S : List Nat) (b : Int32) : Prop := (b = -1 ∧ ∀ n ∈ S, q ≤ n → mem n = false) ∨ ∃ k, b = Int32.ofNat k ∧ k < 8192 ∧ q ≤ k ∧ mem k = true ∧ ∀ n ∈ S, q ≤ n → n < k → mem n = false
def Bsp (mem : Nat → Bool) (q : Nat) (S : List Nat) (b : Int32) : Prop := (b = -1 ∧ ∀ n ∈ S, n ≤ q → mem n = false) ∨ ∃ k, b = Int32.ofNat k ∧ k < 8192 ∧ k ≤ q ∧ mem k = true ∧ ∀ n ∈ S, n ≤ q → k < n → mem n = false
theorem b_neg {b : Int32} : b < (0 : Int32) ↔ b.toInt < 0 := by rw [Int32.lt_iff_toInt_lt]; rfl
theorem of_clamp {v : Int32} (v0 : 0 ≤ v.toInt) : v = Int32.ofNat v.toNatClampNeg := by
  have c := nat_clamp v0
  have := v.toInt_lt
  exact Int32.toInt_inj.mp (by rw [on_int (by omega)]; omega)
theorem bst_step {mem : Nat → Bool} {q v b f : Int32} {S : List Nat} (H : Bst mem q.toNatClampNeg S b) (q0 : 0 ≤ q.toInt) (v0 : 0 ≤ v.toInt) (v1 : v.toInt < 8192) (hf : mem v.toNatClampNeg = !decide (f = (0 : Int32))) : Bst mem q.toNatClampNeg (v.toNatClampNeg :: S) (F_nxt b f v q) := by
  have cq := nat_clamp q0
  have cv := nat_clamp v0
  have keep : (mem v.toNatClampNeg = false ∨ ¬ q.toNatClampNeg ≤ v.toNatClampNeg ∨ (0 ≤ b.toInt ∧ b.toInt ≤ v.toInt)) → Bst mem q.toNatClampNeg (v.toNatClampNeg :: S) b := by
    intro h
    rcases H with ⟨rfl, H1⟩ | ⟨k, rfl, k1, k2, k3, k4⟩
    · refine Or.inl ⟨rfl, fun n hn hq => ?_⟩
      rcases List.mem_cons.mp hn with rfl | hn
      · rcases h with h | h | h
        · exact h
        · exact absurd hq h
        · have : (-1 : Int32).toInt = -1 := by decide
          omega
      · exact H1 n hn hq
    · refine Or.inr ⟨k, rfl, k1, k2, k3, fun n hn hq hk => ?_⟩
      rcases List.mem_cons.mp hn with rfl | hn
      · rcases h with h | h | h
        · exact h
        · exact absurd hq h
        · rw [on_int (by omega)] at h; omega
      · exact k4 n hn hq hk
  have take : mem v.toNatClampNeg = true → q.toNatClampNeg ≤ v.toNatClampNeg → (b.toInt < 0 ∨ v.toInt < b.toInt) → Bst mem q.toNatClampNeg (v.toNatClampNeg :: S) v := by
    intro h1 h2 h3
    refine Or.inr ⟨v.toNatClampNeg, of_clamp v0, by omega, h2, h1, fun n hn hq hk => ?_⟩
    rcases List.mem_cons.mp hn with rfl | hn
    · omega
    · rcases H with ⟨-, H1⟩ | ⟨k, rfl, k1, k2, k3, k4⟩
      · exact H1 n hn hq
      · rw [on_int (by omega)] at h3
        exact k4 n hn hq (by omega)
  unfold F_nxt
  by_cases c1 : f = (0 : Int32)
  · rw [if_pos c1]; exact keep (Or.inl (by rw [hf]; simp [c1]))
  · rw [if_neg c1]
    have mt : mem v.toNatClampNeg = true := by rw [hf]; simp [c1]
    by_cases c2 : v < q
    · rw [if_pos c2]; rw [Int32.lt_iff_toInt_lt] at c2; exact keep (Or.inr (Or.inl (by omega)))
    · rw [if_neg c2]; rw [Int32.lt_iff_toInt_lt] at c2
      by_cases c3 : b < (0 : Int32)
      · rw [if_pos c3]; exact take mt (by omega) (Or.inl (b_neg.mp c3))
      · rw [if_neg c3]; rw [b_neg] at c3
        by_cases c4 : v < b
        · rw [if_pos c4]; rw [Int32.lt_iff_toInt_lt] at c4; exact take mt (by omega) (Or.inr c4)
        · rw [if_neg c4]; rw [Int32.lt_iff_toInt_lt] at c4; exact keep (Or.inr (Or.inr ⟨by omega, by omega⟩))
theorem bsp_step {mem : Nat → Bool} {q v b f : Int32} {S : List Nat} (H : Bsp mem q.toNatClampNeg S b) (q0 : 0 ≤ q.toInt) (v0 : 0 ≤ v.toInt) (v1 : v.toInt < 8192) (hf : mem v.toNatClampNeg = !decide (f = (0 : Int32))) : Bsp mem q.toNatClampNeg (v.toNatClampNeg :: S) (F_prv b f v q) := by
  have cq := nat_clamp q0
  have cv := nat_clamp v0
  have keep : (mem v.toNatClampNeg = false ∨ ¬ v.toNatClampNeg ≤ q.toNatClampNeg ∨ v.toInt ≤ b.toInt) → Bsp mem q.toNatClampNeg (v.toNatClampNeg :: S) b := by
    intro h
    rcases H with ⟨rfl, H1⟩ | ⟨k, rfl, k1, k2, k3, k4⟩
    · refine Or.inl ⟨rfl, fun n hn hq => ?_⟩
      rcases List.mem_cons.mp hn with rfl | hn
      · rcases h with h | h | h
        · exact h
        · exact absurd hq h
        · have : (-1 : Int32).toInt = -1 := by decide
          omega
      · exact H1 n hn hq
    · refine Or.inr ⟨k, rfl, k1, k2, k3, fun n hn hq hk => ?_⟩
      rcases List.mem_cons.mp hn with rfl | hn
      · rcases h with h | h | h
        · exact h
        · exact absurd hq h
        · rw [on_int (by omega)] at h; omega
      · exact k4 n hn hq hk
  have take : mem v.toNatClampNeg = true → v.toNatClampNeg ≤ q.toNatClampNeg → b.toInt < v.toInt → Bsp mem q.toNatClampNeg (v.toNatClampNeg :: S) v := by
    intro h1 h2 h3
    refine Or.inr ⟨v.toNatClampNeg, of_clamp v0, by omega, h2, h1, fun n hn hq hk => ?_⟩
    rcases List.mem_cons.mp hn with rfl | hn
    · omega
    · rcases H with ⟨-, H1⟩ | ⟨k, rfl, k1, k2, k3, k4⟩
      · exact H1 n hn hq
      · rw [on_int (by omega)] at h3
        exact k4 n hn hq (by omega)
  unfold F_prv
  by_cases c1 : f = (0 : Int32)
  · rw [if_pos c1]; exact keep (Or.inl (by rw [hf]; simp [c1]))
  · rw [if_neg c1]
    have mt : mem v.toNatClampNeg = true := by rw [hf]; simp [c1]
    by_cases c2 : q < v
    · rw [if_pos c2]; rw [Int32.lt_iff_toInt_lt] at c2; exact keep (Or.inr (Or.inl (by omega)))
    · rw [if_neg c2]; rw [Int32.lt_iff_toInt_lt] at c2
      by_cases c3 : b < v
      · rw [if_pos c3]; rw [Int32.lt_iff_toInt_lt] at c3; exact take mt (by omega) c3
      · rw [if_neg c3]; rw [Int32.lt_iff_toInt_lt] at c3; exact keep (Or.inr (Or.inr (by omega)))
theorem bst_ns {mem : Nat → Bool} {q : Nat} {X Y Z' : Nat} {b r : Int32} (H : Bst mem q [Z', Y, X] b) (ho : ∀ n, mem n = true → n = X ∨ n = Y ∨ n = Z') (N : NS' mem q r) : r = b := by
  have all : ∀ n, (∀ m ∈ [Z', Y, X], q ≤ m → (n = m → mem m = false)) → q ≤ n → mem n = false := fun n h hq => by
    cases e : mem n with
    | false => rfl
    | true =>
      have := h n (by rcases ho n e with rfl | rfl | rfl <;> simp) hq rfl
      rw [e] at this; exact this
  rcases H with ⟨rfl, H1⟩ | ⟨k, rfl, k1, k2, k3, k4⟩
  · rcases N with ⟨rfl, -⟩ | ⟨j, rfl, j1, j2, j3, j4⟩
    · rfl
    · have := H1 j (by rcases ho j j3 with rfl | rfl | rfl <;> simp) j1
      rw [j3] at this; cases this
  · rcases N with ⟨-, N1⟩ | ⟨j, rfl, j1, j2, j3, j4⟩
    · rw [N1 k k2 k1] at k3; cases k3
    · have a : ¬ j < k := fun z => by have := k4 j (by rcases ho j j3 with rfl | rfl | rfl <;> simp) j1 z; rw [j3] at this; cases this
      have b : ¬ k < j := fun z => by have := j4 k k2 z; rw [k3] at this; cases this
      rw [show j = k from by omega]
theorem bsp_ps {mem : Nat → Bool} {q : Nat} {X Y Z' : Nat} {b r : Int32} (H : Bsp mem q [Z', Y, X] b) (ho : ∀ n, mem n = true → n = X ∨ n = Y ∨ n = Z') (N : PS mem q r) : r = b := by
  rcases H with ⟨rfl, H1⟩ | ⟨k, rfl, k1, k2, k3, k4⟩
  · rcases N with ⟨rfl, -⟩ | ⟨j, rfl, j1, j3, j4⟩
    · rfl
    · have := H1 j (by rcases ho j j3 with rfl | rfl | rfl <;> simp) j1
      rw [j3] at this; cases this
  · rcases N with ⟨-, N1⟩ | ⟨j, rfl, j1, j3, j4⟩
    · rw [N1 k k2] at k3; cases k3
    · have a : ¬ k < j := fun z => by have := k4 j (by rcases ho j j3 with rfl | rfl | rfl <;> simp) j1 z; rw [j3] at this; cases this
      have b : ¬ j < k := fun z => by have := j4 k k2 z; rw [k3] at this; cases this
      rw [show j = k from by omega]
def Q_law (Z : State) (p0 : Int32) (p1 : Int32) (p2 : Int32) (p3 : Int32) (p4 : Int32) (h0 : Heap) (n0 : Nat) (v : Option Value) (h : Heap) (L : List Loc) : Prop := v = some (.int (1 : Int32)) ∧ Fr n0 L
theorem ef_law (m : MethodId) (x0 : Int32) (x1 : Int32) (x2 : Int32) (x3 : Int32) (x4 : Int32) : entryFrame m #[(.int x0), (.int x1), (.int x2), (.int x3), (.int x4)] maxLocals = mkF m 0 #[.val (.int x0), .val (.int x1), .val (.int x2), .val (.int x3), .val (.int x4), .unset, .unset, .unset, .unset, .unset, .unset, .unset, .unset, .unset, .unset, .unset, .unset, .unset, .unset] [] := by first | (simp [entryFrame, mkF, argsToLocals, Value.category, maxLocals]; done) | rfl
set_option maxRecDepth 65536 in
set_option maxHeartbeats 40000000 in
theorem rm_law (l : Launch) (Z : State) (a0 : Array Value) (hw : ∀ d ∈ tables_1, d.before a0 Z = true) (ws : List Jvm.Cond) (p0 : Int32) (p1 : Int32) (p2 : Int32) (p3 : Int32) (p4 : Int32) (h0 : Heap) (n0 : Nat) (Z0 : n0 ≤ h0.size)  :
    Met l Z x code maxLocals ret ws room_1 #[(.int p0), (.int p1), (.int p2), (.int p3), (.int p4)] h0 (Q_law Z p0 p1 p2 p3 p4 h0 n0) := by
  refine Met.of (plainFor_of_name pn_law) ?_
  intro p e s m below meth c s₁ X0 hx hby hml hZ hown hnm e0 hret hlk
  refine Go.cast (ef_law m p0 p1 p2 p3 p4) ?_
  show Go _ _ _ _ s₁ (mkF m 0 #[.val (.int p0), .val (.int p1), .val (.int p2), .val (.int p3), .val (.int p4), .unset, .unset, .unset, .unset, .unset, .unset, .unset, .unset, .unset, .unset, .unset, .unset, .unset, .unset] []) _ _ _
  have N0 := Fr.nil n0
  refine Go.iloadN X0 hx (hb hby at_0) rfl ?_
  show Go _ _ _ _ s₁ (mkF m 1 #[.val (.int p0), .val (.int p1), .val (.int p2), .val (.int p3), .val (.int p4), .unset, .unset, .unset, .unset, .unset, .unset, .unset, .unset, .unset, .unset, .unset, .unset, .unset, .unset] [(.int p0)]) _ _ _
  refine Go.ldc X0 hx hZ hown (w0 hw) (hb hby at_1) ?_
  show Go _ _ _ _ s₁ (mkF m 3 #[.val (.int p0), .val (.int p1), .val (.int p2), .val (.int p3), .val (.int p4), .unset, .unset, .unset, .unset, .unset, .unset, .unset, .unset, .unset, .unset, .unset, .unset, .unset, .unset] [(.int (2147483647 : Int32)), (.int p0)]) _ _ _
  refine Go.iand X0 hx (hb hby at_3) ?_
  show Go _ _ _ _ s₁ (mkF m 4 #[.val (.int p0), .val (.int p1), .val (.int p2), .val (.int p3), .val (.int p4), .unset, .unset, .unset, .unset, .unset, .unset, .unset, .unset, .unset, .unset, .unset, .unset, .unset, .unset] [(.int (p0 &&& (2147483647 : Int32)))]) _ _ _
  refine Go.sipush X0 hx (hb hby at_4) ?_
  show Go _ _ _ _ s₁ (mkF m 7 #[.val (.int p0), .val (.int p1), .val (.int p2), .val (.int p3), .val (.int p4), .unset, .unset, .unset, .unset, .unset, .unset, .unset, .unset, .unset, .unset, .unset, .unset, .unset, .unset] [(.int (8192 : Int32)), (.int (p0 &&& (2147483647 : Int32)))]) _ _ _
  refine Go.irem X0 hx (hb hby at_7) (by decide) ?_
  show Go _ _ _ _ s₁ (mkF m 8 #[.val (.int p0), .val (.int p1), .val (.int p2), .val (.int p3), .val (.int p4), .unset, .unset, .unset, .unset, .unset, .unset, .unset, .unset, .unset, .unset, .unset, .unset, .unset, .unset] [(.int ((p0 &&& (2147483647 : Int32)) % (8192 : Int32)))]) _ _ _
  refine Go.istore X0 hx (hb hby at_8) (l' := #[.val (.int p0), .val (.int p1), .val (.int p2), .val (.int p3), .val (.int p4), .val (.int ((p0 &&& (2147483647 : Int32)) % (8192 : Int32))), .unset, .unset, .unset, .unset, .unset, .unset, .unset, .unset, .unset, .unset, .unset, .unset, .unset]) rfl ?_
  show Go _ _ _ _ s₁ (mkF m 10 #[.val (.int p0), .val (.int p1), .val (.int p2), .val (.int p3), .val (.int p4), .val (.int ((p0 &&& (2147483647 : Int32)) % (8192 : Int32))), .unset, .unset, .unset, .unset, .unset, .unset, .unset, .unset, .unset, .unset, .unset, .unset, .unset] []) _ _ _
  refine (show ∀ vx : Int32, vx = ((p0 &&& (2147483647 : Int32)) % (8192 : Int32)) → Go _ _ _ _ s₁ (mkF m 10 #[.val (.int p0), .val (.int p1), .val (.int p2), .val (.int p3), .val (.int p4), .val (.int vx), .unset, .unset, .unset, .unset, .unset, .unset, .unset, .unset, .unset, .unset, .unset, .unset, .unset] []) _ _ _ from ?_) _ rfl
  intro vx g_vx
  have b_vx : 0 ≤ vx.toInt ∧ vx.toInt < 8192 := by rw [g_vx]; exact own_mod _ 8192 8192 (by decide) (by decide)
  refine Go.iload X0 hx (hb hby at_10) rfl ?_
  show Go _ _ _ _ s₁ (mkF m 12 #[.val (.int p0), .val (.int p1), .val (.int p2), .val (.int p3), .val (.int p4), .val (.int vx), .unset, .unset, .unset, .unset, .unset, .unset, .unset, .unset, .unset, .unset, .unset, .unset, .unset] [(.int p4)]) _ _ _
  refine Go.bipush X0 hx (hb hby at_12) ?_
  show Go _ _ _ _ s₁ (mkF m 14 #[.val (.int p0), .val (.int p1), .val (.int p2), .val (.int p3), .val (.int p4), .val (.int vx), .unset, .unset, .unset, .unset, .unset, .unset, .unset, .unset, .unset, .unset, .unset, .unset, .unset] [(.int (8 : Int32)), (.int p4)]) _ _ _
  refine Go.iand X0 hx (hb hby at_14) ?_
  show Go _ _ _ _ s₁ (mkF m 15 #[.val (.int p0), .val (.int p1), .val (.int p2), .val (.int p3), .val (.int p4), .val (.int vx), .unset, .unset, .unset, .unset, .unset, .unset, .unset, .unset, .unset, .unset, .unset, .unset, .unset] [(.int (p4 &&& (8 : Int32)))]) _ _ _
  have J123 : ∀ j122 : Int32, j122 = (if (p4 &&& (8 : Int32)) = (0 : Int32) then ((p1 &&& (2147483647 : Int32)) % (8192 : Int32)) else ((vx &&& (-64 : Int32)) ||| (p1 &&& (63 : Int32)))) → Go p e below s s₁ (mkF m 39 #[.val (.int p0), .val (.int p1), .val (.int p2), .val (.int p3), .val (.int p4), .val (.int vx), .unset, .unset, .unset, .unset, .unset, .unset, .unset, .unset, .unset, .unset, .unset, .unset, .unset] [(.int j122)]) (Q_law Z p0 p1 p2 p3 p4 h0 n0) (room_1).cells (room_1).slots := by
    intro j122 g_j122
    have b_j122 : 0 ≤ j122.toInt ∧ j122.toInt < 8192 := own_y _ _ _ b_vx g_j122
    refine Go.istore X0 hx (hb hby at_39) (l' := #[.val (.int p0), .val (.int p1), .val (.int p2), .val (.int p3), .val (.int p4), .val (.int vx), .val (.int j122), .unset, .unset, .unset, .unset, .unset, .unset, .unset, .unset, .unset, .unset, .unset, .unset]) rfl ?_
    show Go _ _ _ _ s₁ (mkF m 41 #[.val (.int p0), .val (.int p1), .val (.int p2), .val (.int p3), .val (.int p4), .val (.int vx), .val (.int j122), .unset, .unset, .unset, .unset, .unset, .unset, .unset, .unset, .unset, .unset, .unset, .unset] []) _ _ _
    refine Go.iload X0 hx (hb hby at_41) rfl ?_
    show Go _ _ _ _ s₁ (mkF m 43 #[.val (.int p0), .val (.int p1), .val (.int p2), .val (.int p3), .val (.int p4), .val (.int vx), .val (.int j122), .unset, .unset, .unset, .unset, .unset, .unset, .unset, .unset, .unset, .unset, .unset, .unset] [(.int p4)]) _ _ _
    refine Go.bipush X0 hx (hb hby at_43) ?_
    show Go _ _ _ _ s₁ (mkF m 45 #[.val (.int p0), .val (.int p1), .val (.int p2), .val (.int p3), .val (.int p4), .val (.int vx), .val (.int j122), .unset, .unset, .unset, .unset, .unset, .unset, .unset, .unset, .unset, .unset, .unset, .unset] [(.int (16 : Int32)), (.int p4)]) _ _ _
    refine Go.iand X0 hx (hb hby at_45) ?_
    show Go _ _ _ _ s₁ (mkF m 46 #[.val (.int p0), .val (.int p1), .val (.int p2), .val (.int p3), .val (.int p4), .val (.int vx), .val (.int j122), .unset, .unset, .unset, .unset, .unset, .unset, .unset, .unset, .unset, .unset, .unset, .unset] [(.int (p4 &&& (16 : Int32)))]) _ _ _
    have J126 : ∀ j125 : Int32, j125 = (if (p4 &&& (16 : Int32)) = (0 : Int32) then ((p2 &&& (2147483647 : Int32)) % (8192 : Int32)) else ((j122 &&& (-64 : Int32)) ||| (p2 &&& (63 : Int32)))) → Go p e below s s₁ (mkF m 70 #[.val (.int p0), .val (.int p1), .val (.int p2), .val (.int p3), .val (.int p4), .val (.int vx), .val (.int j122), .unset, .unset, .unset, .unset, .unset, .unset, .unset, .unset, .unset, .unset, .unset, .unset] [(.int j125)]) (Q_law Z p0 p1 p2 p3 p4 h0 n0) (room_1).cells (room_1).slots := by
      intro j125 g_j125
      have b_j125 : 0 ≤ j125.toInt ∧ j125.toInt < 8192 := own_y _ _ _ b_j122 g_j125
      refine Go.istore X0 hx (hb hby at_70) (l' := #[.val (.int p0), .val (.int p1), .val (.int p2), .val (.int p3), .val (.int p4), .val (.int vx), .val (.int j122), .val (.int j125), .unset, .unset, .unset, .unset, .unset, .unset, .unset, .unset, .unset, .unset, .unset]) rfl ?_
      show Go _ _ _ _ s₁ (mkF m 72 #[.val (.int p0), .val (.int p1), .val (.int p2), .val (.int p3), .val (.int p4), .val (.int vx), .val (.int j122), .val (.int j125), .unset, .unset, .unset, .unset, .unset, .unset, .unset, .unset, .unset, .unset, .unset] []) _ _ _
      refine Go.iloadN X0 hx (hb hby at_72) rfl ?_
      show Go _ _ _ _ s₁ (mkF m 73 #[.val (.int p0), .val (.int p1), .val (.int p2), .val (.int p3), .val (.int p4), .val (.int vx), .val (.int j122), .val (.int j125), .unset, .unset, .unset, .unset, .unset, .unset, .unset, .unset, .unset, .unset, .unset] [(.int p3)]) _ _ _
      refine Go.ldc X0 hx hZ hown (w0 hw) (hb hby at_73) ?_
      show Go _ _ _ _ s₁ (mkF m 75 #[.val (.int p0), .val (.int p1), .val (.int p2), .val (.int p3), .val (.int p4), .val (.int vx), .val (.int j122), .val (.int j125), .unset, .unset, .unset, .unset, .unset, .unset, .unset, .unset, .unset, .unset, .unset] [(.int (2147483647 : Int32)), (.int p3)]) _ _ _
      refine Go.iand X0 hx (hb hby at_75) ?_
      show Go _ _ _ _ s₁ (mkF m 76 #[.val (.int p0), .val (.int p1), .val (.int p2), .val (.int p3), .val (.int p4), .val (.int vx), .val (.int j122), .val (.int j125), .unset, .unset, .unset, .unset, .unset, .unset, .unset, .unset, .unset, .unset, .unset] [(.int (p3 &&& (2147483647 : Int32)))]) _ _ _
      refine Go.sipush X0 hx (hb hby at_76) ?_
      show Go _ _ _ _ s₁ (mkF m 79 #[.val (.int p0), .val (.int p1), .val (.int p2), .val (.int p3), .val (.int p4), .val (.int vx), .val (.int j122), .val (.int j125), .unset, .unset, .unset, .unset, .unset, .unset, .unset, .unset, .unset, .unset, .unset] [(.int (8192 : Int32)), (.int (p3 &&& (2147483647 : Int32)))]) _ _ _
      refine Go.irem X0 hx (hb hby at_79) (by decide) ?_
      show Go _ _ _ _ s₁ (mkF m 80 #[.val (.int p0), .val (.int p1), .val (.int p2), .val (.int p3), .val (.int p4), .val (.int vx), .val (.int j122), .val (.int j125), .unset, .unset, .unset, .unset, .unset, .unset, .unset, .unset, .unset, .unset, .unset] [(.int ((p3 &&& (2147483647 : Int32)) % (8192 : Int32)))]) _ _ _
      refine Go.istore X0 hx (hb hby at_80) (l' := #[.val (.int p0), .val (.int p1), .val (.int p2), .val (.int p3), .val (.int p4), .val (.int vx), .val (.int j122), .val (.int j125), .val (.int ((p3 &&& (2147483647 : Int32)) % (8192 : Int32))), .unset, .unset, .unset, .unset, .unset, .unset, .unset, .unset, .unset, .unset]) rfl ?_
      show Go _ _ _ _ s₁ (mkF m 82 #[.val (.int p0), .val (.int p1), .val (.int p2), .val (.int p3), .val (.int p4), .val (.int vx), .val (.int j122), .val (.int j125), .val (.int ((p3 &&& (2147483647 : Int32)) % (8192 : Int32))), .unset, .unset, .unset, .unset, .unset, .unset, .unset, .unset, .unset, .unset] []) _ _ _
      refine (show ∀ vq : Int32, vq = ((p3 &&& (2147483647 : Int32)) % (8192 : Int32)) → Go _ _ _ _ s₁ (mkF m 82 #[.val (.int p0), .val (.int p1), .val (.int p2), .val (.int p3), .val (.int p4), .val (.int vx), .val (.int j122), .val (.int j125), .val (.int vq), .unset, .unset, .unset, .unset, .unset, .unset, .unset, .unset, .unset, .unset] []) _ _ _ from ?_) _ rfl
      intro vq g_vq
      have b_vq : 0 ≤ vq.toInt ∧ vq.toInt < 8192 := by rw [g_vq]; exact own_mod _ 8192 8192 (by decide) (by decide)
      refine Go.iload X0 hx (hb hby at_82) rfl ?_
      show Go _ _ _ _ s₁ (mkF m 84 #[.val (.int p0), .val (.int p1), .val (.int p2), .val (.int p3), .val (.int p4), .val (.int vx), .val (.int j122), .val (.int j125), .val (.int vq), .unset, .unset, .unset, .unset, .unset, .unset, .unset, .unset, .unset, .unset] [(.int p4)]) _ _ _
      refine Go.iconst X0 hx (hb hby at_84) ?_
      show Go _ _ _ _ s₁ (mkF m 85 #[.val (.int p0), .val (.int p1), .val (.int p2), .val (.int p3), .val (.int p4), .val (.int vx), .val (.int j122), .val (.int j125), .val (.int vq), .unset, .unset, .unset, .unset, .unset, .unset, .unset, .unset, .unset, .unset] [(.int (1 : Int32)), (.int p4)]) _ _ _
      refine Go.iand X0 hx (hb hby at_85) ?_
      show Go _ _ _ _ s₁ (mkF m 86 #[.val (.int p0), .val (.int p1), .val (.int p2), .val (.int p3), .val (.int p4), .val (.int vx), .val (.int j122), .val (.int j125), .val (.int vq), .unset, .unset, .unset, .unset, .unset, .unset, .unset, .unset, .unset, .unset] [(.int (p4 &&& (1 : Int32)))]) _ _ _
      have J129 : ∀ j128 : Int32, j128 = (if (p4 &&& (1 : Int32)) = (0 : Int32) then (0 : Int32) else (1 : Int32)) → Go p e below s s₁ (mkF m 94 #[.val (.int p0), .val (.int p1), .val (.int p2), .val (.int p3), .val (.int p4), .val (.int vx), .val (.int j122), .val (.int j125), .val (.int vq), .unset, .unset, .unset, .unset, .unset, .unset, .unset, .unset, .unset, .unset] [(.int j128)]) (Q_law Z p0 p1 p2 p3 p4 h0 n0) (room_1).cells (room_1).slots := by
        intro j128 g_j128
        have o_j128 : j128 = 0 ∨ j128 = 1 := own_01 g_j128
        refine Go.istore X0 hx (hb hby at_94) (l' := #[.val (.int p0), .val (.int p1), .val (.int p2), .val (.int p3), .val (.int p4), .val (.int vx), .val (.int j122), .val (.int j125), .val (.int vq), .val (.int j128), .unset, .unset, .unset, .unset, .unset, .unset, .unset, .unset, .unset]) rfl ?_
        show Go _ _ _ _ s₁ (mkF m 96 #[.val (.int p0), .val (.int p1), .val (.int p2), .val (.int p3), .val (.int p4), .val (.int vx), .val (.int j122), .val (.int j125), .val (.int vq), .val (.int j128), .unset, .unset, .unset, .unset, .unset, .unset, .unset, .unset, .unset] []) _ _ _
        refine Go.iload X0 hx (hb hby at_96) rfl ?_
        show Go _ _ _ _ s₁ (mkF m 98 #[.val (.int p0), .val (.int p1), .val (.int p2), .val (.int p3), .val (.int p4), .val (.int vx), .val (.int j122), .val (.int j125), .val (.int vq), .val (.int j128), .unset, .unset, .unset, .unset, .unset, .unset, .unset, .unset, .unset] [(.int p4)]) _ _ _
        refine Go.iconst X0 hx (hb hby at_98) ?_
        show Go _ _ _ _ s₁ (mkF m 99 #[.val (.int p0), .val (.int p1), .val (.int p2), .val (.int p3), .val (.int p4), .val (.int vx), .val (.int j122), .val (.int j125), .val (.int vq), .val (.int j128), .unset, .unset, .unset, .unset, .unset, .unset, .unset, .unset, .unset] [(.int (2 : Int32)), (.int p4)]) _ _ _
        refine Go.iand X0 hx (hb hby at_99) ?_
        show Go _ _ _ _ s₁ (mkF m 100 #[.val (.int p0), .val (.int p1), .val (.int p2), .val (.int p3), .val (.int p4), .val (.int vx), .val (.int j122), .val (.int j125), .val (.int vq), .val (.int j128), .unset, .unset, .unset, .unset, .unset, .unset, .unset, .unset, .unset] [(.int (p4 &&& (2 : Int32)))]) _ _ _
        have J132 : ∀ j131 : Int32, j131 = (if (p4 &&& (2 : Int32)) = (0 : Int32) then (0 : Int32) else (1 : Int32)) → Go p e below s s₁ (mkF m 108 #[.val (.int p0), .val (.int p1), .val (.int p2), .val (.int p3), .val (.int p4), .val (.int vx), .val (.int j122), .val (.int j125), .val (.int vq), .val (.int j128), .unset, .unset, .unset, .unset, .unset, .unset, .unset, .unset, .unset] [(.int j131)]) (Q_law Z p0 p1 p2 p3 p4 h0 n0) (room_1).cells (room_1).slots := by
          intro j131 g_j131
          have o_j131 : j131 = 0 ∨ j131 = 1 := own_01 g_j131
          refine Go.istore X0 hx (hb hby at_108) (l' := #[.val (.int p0), .val (.int p1), .val (.int p2), .val (.int p3), .val (.int p4), .val (.int vx), .val (.int j122), .val (.int j125), .val (.int vq), .val (.int j128), .val (.int j131), .unset, .unset, .unset, .unset, .unset, .unset, .unset, .unset]) rfl ?_
          show Go _ _ _ _ s₁ (mkF m 110 #[.val (.int p0), .val (.int p1), .val (.int p2), .val (.int p3), .val (.int p4), .val (.int vx), .val (.int j122), .val (.int j125), .val (.int vq), .val (.int j128), .val (.int j131), .unset, .unset, .unset, .unset, .unset, .unset, .unset, .unset] []) _ _ _
          refine Go.iload X0 hx (hb hby at_110) rfl ?_
          show Go _ _ _ _ s₁ (mkF m 112 #[.val (.int p0), .val (.int p1), .val (.int p2), .val (.int p3), .val (.int p4), .val (.int vx), .val (.int j122), .val (.int j125), .val (.int vq), .val (.int j128), .val (.int j131), .unset, .unset, .unset, .unset, .unset, .unset, .unset, .unset] [(.int p4)]) _ _ _
          refine Go.iconst X0 hx (hb hby at_112) ?_
          show Go _ _ _ _ s₁ (mkF m 113 #[.val (.int p0), .val (.int p1), .val (.int p2), .val (.int p3), .val (.int p4), .val (.int vx), .val (.int j122), .val (.int j125), .val (.int vq), .val (.int j128), .val (.int j131), .unset, .unset, .unset, .unset, .unset, .unset, .unset, .unset] [(.int (4 : Int32)), (.int p4)]) _ _ _
          refine Go.iand X0 hx (hb hby at_113) ?_
          show Go _ _ _ _ s₁ (mkF m 114 #[.val (.int p0), .val (.int p1), .val (.int p2), .val (.int p3), .val (.int p4), .val (.int vx), .val (.int j122), .val (.int j125), .val (.int vq), .val (.int j128), .val (.int j131), .unset, .unset, .unset, .unset, .unset, .unset, .unset, .unset] [(.int (p4 &&& (4 : Int32)))]) _ _ _
          have J135 : ∀ j134 : Int32, j134 = (if (p4 &&& (4 : Int32)) = (0 : Int32) then (0 : Int32) else (1 : Int32)) → Go p e below s s₁ (mkF m 122 #[.val (.int p0), .val (.int p1), .val (.int p2), .val (.int p3), .val (.int p4), .val (.int vx), .val (.int j122), .val (.int j125), .val (.int vq), .val (.int j128), .val (.int j131), .unset, .unset, .unset, .unset, .unset, .unset, .unset, .unset] [(.int j134)]) (Q_law Z p0 p1 p2 p3 p4 h0 n0) (room_1).cells (room_1).slots := by
            intro j134 g_j134
            have o_j134 : j134 = 0 ∨ j134 = 1 := own_01 g_j134
            refine Go.istore X0 hx (hb hby at_122) (l' := #[.val (.int p0), .val (.int p1), .val (.int p2), .val (.int p3), .val (.int p4), .val (.int vx), .val (.int j122), .val (.int j125), .val (.int vq), .val (.int j128), .val (.int j131), .val (.int j134), .unset, .unset, .unset, .unset, .unset, .unset, .unset]) rfl ?_
            show Go _ _ _ _ s₁ (mkF m 124 #[.val (.int p0), .val (.int p1), .val (.int p2), .val (.int p3), .val (.int p4), .val (.int vx), .val (.int j122), .val (.int j125), .val (.int vq), .val (.int j128), .val (.int j131), .val (.int j134), .unset, .unset, .unset, .unset, .unset, .unset, .unset] []) _ _ _
            refine Go.newO X0 hx hZ hown (w1 hw) (w2 hw) (w3 hw) e0 (hb hby at_124) (by decide) (by decide) ?_
            intro T136 h136 a136 b136 X136 e136 E136 A136 D136
            have g_a136 : n0 ≤ a136 := by rw [b136]; exact Z0
            have y_a136 : h0.size ≤ a136 := by rw [b136]; exact (Nat.le_refl _)
            have Z136 : n0 ≤ h136.size := Nat.le_trans Z0 E136.1
            have B136 : h0.size ≤ h136.size := Nat.le_trans (Nat.le_refl _) E136.1
            show Go _ _ _ _ T136 (mkF m 127 #[.val (.int p0), .val (.int p1), .val (.int p2), .val (.int p3), .val (.int p4), .val (.int vx), .val (.int j122), .val (.int j125), .val (.int vq), .val (.int j128), .val (.int j131), .val (.int j134), .unset, .unset, .unset, .unset, .unset, .unset, .unset] [(.ref a136)]) _ _ _
            refine Go.dup X136 hx (hb hby at_127) rfl ?_
            show Go _ _ _ _ T136 (mkF m 128 #[.val (.int p0), .val (.int p1), .val (.int p2), .val (.int p3), .val (.int p4), .val (.int vx), .val (.int j122), .val (.int j125), .val (.int vq), .val (.int j128), .val (.int j131), .val (.int j134), .unset, .unset, .unset, .unset, .unset, .unset, .unset] [(.ref a136), (.ref a136)]) _ _ _
            refine Go.sipush X136 hx (hb hby at_128) ?_
            show Go _ _ _ _ T136 (mkF m 131 #[.val (.int p0), .val (.int p1), .val (.int p2), .val (.int p3), .val (.int p4), .val (.int vx), .val (.int j122), .val (.int j125), .val (.int vq), .val (.int j128), .val (.int j131), .val (.int j134), .unset, .unset, .unset, .unset, .unset, .unset, .unset] [(.int (8192 : Int32)), (.ref a136), (.ref a136)]) _ _ _
            have F137 := (D136 (Or.inr (w12 hw)) (ty := (.array .long)) (by decide))
            have F138 := (D136 (Or.inr (w14 hw)) (ty := (.array .long)) (by decide))
            refine Go.callI (W := 1) (a := a136) (argsL := [(.int (8192 : Int32))]) (rest := [(.ref a136)]) X136 hx hZ hown rfl (w4 hw) (w5 hw) (w3 hw) (w6 hw) (by decide) (rm_init l Z a0 hw a136 h136 n0 Z136 A136 g_a136 F137 F138) e136 (lenOf pd_3 rfl) (hb hby at_131) (by rw [hml]; rfl) rfl (Nat.le_of_eq rfl) (by decide) (by decide) (by decide) (by decide) ?_
            intro v139 T139 L139 X139 q139
            obtain ⟨aW139, aS139, rfl, M139, K139, P139_0, P139_1, P139_2, P139_3, P139_4, P139_5, P139_6, P139_7, P139_8⟩ := q139
            have N139 := Fr.app N0 M139
            have Z139 : n0 ≤ T139.heap.size := Nat.le_trans Z136 K139.1
            have B139 : h0.size ≤ T139.heap.size := Nat.le_trans B136 K139.1
            have ne_a136_aW139 : a136 ≠ aW139 := Nat.ne_of_lt (Nat.lt_of_lt_of_le (A136).lt P139_3)
            have ne_a136_aS139 : a136 ≠ aS139 := Nat.ne_of_lt (Nat.lt_of_lt_of_le (A136).lt P139_4)
            show Go _ _ _ _ T139 (mkF m 134 #[.val (.int p0), .val (.int p1), .val (.int p2), .val (.int p3), .val (.int p4), .val (.int vx), .val (.int j122), .val (.int j125), .val (.int vq), .val (.int j128), .val (.int j131), .val (.int j134), .unset, .unset, .unset, .unset, .unset, .unset, .unset] [(.ref a136)]) _ _ _
            refine Go.astore X139 hx (hb hby at_134) rfl (l' := #[.val (.int p0), .val (.int p1), .val (.int p2), .val (.int p3), .val (.int p4), .val (.int vx), .val (.int j122), .val (.int j125), .val (.int vq), .val (.int j128), .val (.int j131), .val (.int j134), .val (.ref a136), .unset, .unset, .unset, .unset, .unset, .unset]) rfl ?_
            show Go _ _ _ _ T139 (mkF m 136 #[.val (.int p0), .val (.int p1), .val (.int p2), .val (.int p3), .val (.int p4), .val (.int vx), .val (.int j122), .val (.int j125), .val (.int vq), .val (.int j128), .val (.int j131), .val (.int j134), .val (.ref a136), .unset, .unset, .unset, .unset, .unset, .unset] []) _ _ _
            refine Go.aload X139 hx (hb hby at_136) rfl rfl ?_
            show Go _ _ _ _ T139 (mkF m 138 #[.val (.int p0), .val (.int p1), .val (.int p2), .val (.int p3), .val (.int p4), .val (.int vx), .val (.int j122), .val (.int j125), .val (.int vq), .val (.int j128), .val (.int j131), .val (.int j134), .val (.ref a136), .unset, .unset, .unset, .unset, .unset, .unset] [(.ref a136)]) _ _ _
            refine Go.iload X139 hx (hb hby at_138) rfl ?_
            show Go _ _ _ _ T139 (mkF m 140 #[.val (.int p0), .val (.int p1), .val (.int p2), .val (.int p3), .val (.int p4), .val (.int vx), .val (.int j122), .val (.int j125), .val (.int vq), .val (.int j128), .val (.int j131), .val (.int j134), .val (.ref a136), .unset, .unset, .unset, .unset, .unset, .unset] [(.int vx), (.ref a136)]) _ _ _
            refine Go.iload X139 hx (hb hby at_140) rfl ?_
            show Go _ _ _ _ T139 (mkF m 142 #[.val (.int p0), .val (.int p1), .val (.int p2), .val (.int p3), .val (.int p4), .val (.int vx), .val (.int j122), .val (.int j125), .val (.int vq), .val (.int j128), .val (.int j131), .val (.int j134), .val (.ref a136), .unset, .unset, .unset, .unset, .unset, .unset] [(.int j128), (.int vx), (.ref a136)]) _ _ _
            refine Go.callV (W := 0) (argsL := [(.int vx), (.int j128)]) (rest := []) X139 hx hZ hown (w15 hw) (w16 hw) (w18 hw) (w17 hw) (w3 hw) (w19 hw) (notFace_of_selects (args := #[]) (mvT hZ (w18 hw))) (by decide) P139_0 (rm_set l Z a0 hw a136 vx j128 aW139 aS139 (fun _ => false) T139.heap n0 Z139 P139_0 g_a136 P139_1 P139_2 P139_5 P139_6 P139_7 P139_8 b_vx.1 b_vx.2) rfl (lenOf pd_4 rfl) (hb hby at_142) (by rw [hml]; rfl) rfl (Nat.le_of_eq rfl) (by decide) (by decide) (by decide) (by decide) ?_
            intro v140 T140 L140 X140 q140
            obtain ⟨rfl, M140, K140, P140_0, P140_1⟩ := q140
            have N140 := Fr.app N139 M140
            have Z140 : n0 ≤ T140.heap.size := Nat.le_trans Z139 K140.1
            have B140 : h0.size ≤ T140.heap.size := Nat.le_trans B139 K140.1
            show Go _ _ _ _ T140 (mkF m 145 #[.val (.int p0), .val (.int p1), .val (.int p2), .val (.int p3), .val (.int p4), .val (.int vx), .val (.int j122), .val (.int j125), .val (.int vq), .val (.int j128), .val (.int j131), .val (.int j134), .val (.ref a136), .unset, .unset, .unset, .unset, .unset, .unset] []) _ _ _
            refine Go.aload X140 hx (hb hby at_145) rfl rfl ?_
            show Go _ _ _ _ T140 (mkF m 147 #[.val (.int p0), .val (.int p1), .val (.int p2), .val (.int p3), .val (.int p4), .val (.int vx), .val (.int j122), .val (.int j125), .val (.int vq), .val (.int j128), .val (.int j131), .val (.int j134), .val (.ref a136), .unset, .unset, .unset, .unset, .unset, .unset] [(.ref a136)]) _ _ _
            refine Go.iload X140 hx (hb hby at_147) rfl ?_
            show Go _ _ _ _ T140 (mkF m 149 #[.val (.int p0), .val (.int p1), .val (.int p2), .val (.int p3), .val (.int p4), .val (.int vx), .val (.int j122), .val (.int j125), .val (.int vq), .val (.int j128), .val (.int j131), .val (.int j134), .val (.ref a136), .unset, .unset, .unset, .unset, .unset, .unset] [(.int j122), (.ref a136)]) _ _ _
            refine Go.iload X140 hx (hb hby at_149) rfl ?_
            show Go _ _ _ _ T140 (mkF m 151 #[.val (.int p0), .val (.int p1), .val (.int p2), .val (.int p3), .val (.int p4), .val (.int vx), .val (.int j122), .val (.int j125), .val (.int vq), .val (.int j128), .val (.int j131), .val (.int j134), .val (.ref a136), .unset, .unset, .unset, .unset, .unset, .unset] [(.int j131), (.int j122), (.ref a136)]) _ _ _
            refine Go.callV (W := 0) (argsL := [(.int j122), (.int j131)]) (rest := []) X140 hx hZ hown (w15 hw) (w16 hw) (w18 hw) (w17 hw) (w3 hw) (w19 hw) (notFace_of_selects (args := #[]) (mvT hZ (w18 hw))) (by decide) P140_0 (rm_set l Z a0 hw a136 j122 j131 aW139 aS139 (memSet (fun _ => false) vx.toNatClampNeg (!decide (j128 = (0 : Int32)))) T140.heap n0 Z140 P140_0 g_a136 P139_1 P139_2 P139_5 P139_6 P139_7 P140_1 b_j122.1 b_j122.2) rfl (lenOf pd_4 rfl) (hb hby at_151) (by rw [hml]; rfl) rfl (Nat.le_of_eq rfl) (by decide) (by decide) (by decide) (by decide) ?_
            intro v141 T141 L141 X141 q141
            obtain ⟨rfl, M141, K141, P141_0, P141_1⟩ := q141
            have N141 := Fr.app N140 M141
            have Z141 : n0 ≤ T141.heap.size := Nat.le_trans Z140 K141.1
            have B141 : h0.size ≤ T141.heap.size := Nat.le_trans B140 K141.1
            show Go _ _ _ _ T141 (mkF m 154 #[.val (.int p0), .val (.int p1), .val (.int p2), .val (.int p3), .val (.int p4), .val (.int vx), .val (.int j122), .val (.int j125), .val (.int vq), .val (.int j128), .val (.int j131), .val (.int j134), .val (.ref a136), .unset, .unset, .unset, .unset, .unset, .unset] []) _ _ _
            refine Go.aload X141 hx (hb hby at_154) rfl rfl ?_
            show Go _ _ _ _ T141 (mkF m 156 #[.val (.int p0), .val (.int p1), .val (.int p2), .val (.int p3), .val (.int p4), .val (.int vx), .val (.int j122), .val (.int j125), .val (.int vq), .val (.int j128), .val (.int j131), .val (.int j134), .val (.ref a136), .unset, .unset, .unset, .unset, .unset, .unset] [(.ref a136)]) _ _ _
            refine Go.iload X141 hx (hb hby at_156) rfl ?_
            show Go _ _ _ _ T141 (mkF m 158 #[.val (.int p0), .val (.int p1), .val (.int p2), .val (.int p3), .val (.int p4), .val (.int vx), .val (.int j122), .val (.int j125), .val (.int vq), .val (.int j128), .val (.int j131), .val (.int j134), .val (.ref a136), .unset, .unset, .unset, .unset, .unset, .unset] [(.int j125), (.ref a136)]) _ _ _
            refine Go.iload X141 hx (hb hby at_158) rfl ?_
            show Go _ _ _ _ T141 (mkF m 160 #[.val (.int p0), .val (.int p1), .val (.int p2), .val (.int p3), .val (.int p4), .val (.int vx), .val (.int j122), .val (.int j125), .val (.int vq), .val (.int j128), .val (.int j131), .val (.int j134), .val (.ref a136), .unset, .unset, .unset, .unset, .unset, .unset] [(.int j134), (.int j125), (.ref a136)]) _ _ _
            refine Go.callV (W := 0) (argsL := [(.int j125), (.int j134)]) (rest := []) X141 hx hZ hown (w15 hw) (w16 hw) (w18 hw) (w17 hw) (w3 hw) (w19 hw) (notFace_of_selects (args := #[]) (mvT hZ (w18 hw))) (by decide) P141_0 (rm_set l Z a0 hw a136 j125 j134 aW139 aS139 (memSet (memSet (fun _ => false) vx.toNatClampNeg (!decide (j128 = (0 : Int32)))) j122.toNatClampNeg (!decide (j131 = (0 : Int32)))) T141.heap n0 Z141 P141_0 g_a136 P139_1 P139_2 P139_5 P139_6 P139_7 P141_1 b_j125.1 b_j125.2) rfl (lenOf pd_4 rfl) (hb hby at_160) (by rw [hml]; rfl) rfl (Nat.le_of_eq rfl) (by decide) (by decide) (by decide) (by decide) ?_
            intro v142 T142 L142 X142 q142
            obtain ⟨rfl, M142, K142, P142_0, P142_1⟩ := q142
            have N142 := Fr.app N141 M142
            have Z142 : n0 ≤ T142.heap.size := Nat.le_trans Z141 K142.1
            have B142 : h0.size ≤ T142.heap.size := Nat.le_trans B141 K142.1
            show Go _ _ _ _ T142 (mkF m 163 #[.val (.int p0), .val (.int p1), .val (.int p2), .val (.int p3), .val (.int p4), .val (.int vx), .val (.int j122), .val (.int j125), .val (.int vq), .val (.int j128), .val (.int j131), .val (.int j134), .val (.ref a136), .unset, .unset, .unset, .unset, .unset, .unset] []) _ _ _
            refine Go.iload X142 hx (hb hby at_163) rfl ?_
            show Go _ _ _ _ T142 (mkF m 165 #[.val (.int p0), .val (.int p1), .val (.int p2), .val (.int p3), .val (.int p4), .val (.int vx), .val (.int j122), .val (.int j125), .val (.int vq), .val (.int j128), .val (.int j131), .val (.int j134), .val (.ref a136), .unset, .unset, .unset, .unset, .unset, .unset] [(.int j134)]) _ _ _
            refine Go.istore X142 hx (hb hby at_165) (l' := #[.val (.int p0), .val (.int p1), .val (.int p2), .val (.int p3), .val (.int p4), .val (.int vx), .val (.int j122), .val (.int j125), .val (.int vq), .val (.int j128), .val (.int j131), .val (.int j134), .val (.ref a136), .val (.int j134), .unset, .unset, .unset, .unset, .unset]) rfl ?_
            show Go _ _ _ _ T142 (mkF m 167 #[.val (.int p0), .val (.int p1), .val (.int p2), .val (.int p3), .val (.int p4), .val (.int vx), .val (.int j122), .val (.int j125), .val (.int vq), .val (.int j128), .val (.int j131), .val (.int j134), .val (.ref a136), .val (.int j134), .unset, .unset, .unset, .unset, .unset] []) _ _ _
            refine Go.iload X142 hx (hb hby at_167) rfl ?_
            show Go _ _ _ _ T142 (mkF m 169 #[.val (.int p0), .val (.int p1), .val (.int p2), .val (.int p3), .val (.int p4), .val (.int vx), .val (.int j122), .val (.int j125), .val (.int vq), .val (.int j128), .val (.int j131), .val (.int j134), .val (.ref a136), .val (.int j134), .unset, .unset, .unset, .unset, .unset] [(.int j122)]) _ _ _
            refine Go.iload X142 hx (hb hby at_169) rfl ?_
            show Go _ _ _ _ T142 (mkF m 171 #[.val (.int p0), .val (.int p1), .val (.int p2), .val (.int p3), .val (.int p4), .val (.int vx), .val (.int j122), .val (.int j125), .val (.int vq), .val (.int j128), .val (.int j131), .val (.int j134), .val (.ref a136), .val (.int j134), .unset, .unset, .unset, .unset, .unset] [(.int j125), (.int j122)]) _ _ _
            have J145 : ∀ j144 : Int32, j144 = (if j122 = j125 then j134 else j131) → Go p e below s T142 (mkF m 181 #[.val (.int p0), .val (.int p1), .val (.int p2), .val (.int p3), .val (.int p4), .val (.int vx), .val (.int j122), .val (.int j125), .val (.int vq), .val (.int j128), .val (.int j131), .val (.int j134), .val (.ref a136), .val (.int j134), .unset, .unset, .unset, .unset, .unset] [(.int j144)]) (Q_law Z p0 p1 p2 p3 p4 h0 n0) (room_1).cells (room_1).slots := by
              intro j144 g_j144
              have o_j144 : j144 = 0 ∨ j144 = 1 := by rw [g_j144]; split <;> assumption
              refine Go.istore X142 hx (hb hby at_181) (l' := #[.val (.int p0), .val (.int p1), .val (.int p2), .val (.int p3), .val (.int p4), .val (.int vx), .val (.int j122), .val (.int j125), .val (.int vq), .val (.int j128), .val (.int j131), .val (.int j134), .val (.ref a136), .val (.int j134), .val (.int j144), .unset, .unset, .unset, .unset]) rfl ?_
              show Go _ _ _ _ T142 (mkF m 183 #[.val (.int p0), .val (.int p1), .val (.int p2), .val (.int p3), .val (.int p4), .val (.int vx), .val (.int j122), .val (.int j125), .val (.int vq), .val (.int j128), .val (.int j131), .val (.int j134), .val (.ref a136), .val (.int j134), .val (.int j144), .unset, .unset, .unset, .unset] []) _ _ _
              refine Go.iload X142 hx (hb hby at_183) rfl ?_
              show Go _ _ _ _ T142 (mkF m 185 #[.val (.int p0), .val (.int p1), .val (.int p2), .val (.int p3), .val (.int p4), .val (.int vx), .val (.int j122), .val (.int j125), .val (.int vq), .val (.int j128), .val (.int j131), .val (.int j134), .val (.ref a136), .val (.int j134), .val (.int j144), .unset, .unset, .unset, .unset] [(.int vx)]) _ _ _
              refine Go.iload X142 hx (hb hby at_185) rfl ?_
              show Go _ _ _ _ T142 (mkF m 187 #[.val (.int p0), .val (.int p1), .val (.int p2), .val (.int p3), .val (.int p4), .val (.int vx), .val (.int j122), .val (.int j125), .val (.int vq), .val (.int j128), .val (.int j131), .val (.int j134), .val (.ref a136), .val (.int j134), .val (.int j144), .unset, .unset, .unset, .unset] [(.int j125), (.int vx)]) _ _ _
              have J149 : ∀ j148 : Int32, j148 = (if vx = j125 then j134 else (if vx = j122 then j131 else j128)) → Go p e below s T142 (mkF m 209 #[.val (.int p0), .val (.int p1), .val (.int p2), .val (.int p3), .val (.int p4), .val (.int vx), .val (.int j122), .val (.int j125), .val (.int vq), .val (.int j128), .val (.int j131), .val (.int j134), .val (.ref a136), .val (.int j134), .val (.int j144), .unset, .unset, .unset, .unset] [(.int j148)]) (Q_law Z p0 p1 p2 p3 p4 h0 n0) (room_1).cells (room_1).slots := by
                intro j148 g_j148
                have o_j148 : j148 = 0 ∨ j148 = 1 := by rw [g_j148]; split <;> (try split) <;> assumption
                refine Go.istore X142 hx (hb hby at_209) (l' := #[.val (.int p0), .val (.int p1), .val (.int p2), .val (.int p3), .val (.int p4), .val (.int vx), .val (.int j122), .val (.int j125), .val (.int vq), .val (.int j128), .val (.int j131), .val (.int j134), .val (.ref a136), .val (.int j134), .val (.int j144), .val (.int j148), .unset, .unset, .unset]) rfl ?_
                show Go _ _ _ _ T142 (mkF m 211 #[.val (.int p0), .val (.int p1), .val (.int p2), .val (.int p3), .val (.int p4), .val (.int vx), .val (.int j122), .val (.int j125), .val (.int vq), .val (.int j128), .val (.int j131), .val (.int j134), .val (.ref a136), .val (.int j134), .val (.int j144), .val (.int j148), .unset, .unset, .unset] []) _ _ _
                refine Go.aload X142 hx (hb hby at_211) rfl rfl ?_
                show Go _ _ _ _ T142 (mkF m 213 #[.val (.int p0), .val (.int p1), .val (.int p2), .val (.int p3), .val (.int p4), .val (.int vx), .val (.int j122), .val (.int j125), .val (.int vq), .val (.int j128), .val (.int j131), .val (.int j134), .val (.ref a136), .val (.int j134), .val (.int j144), .val (.int j148), .unset, .unset, .unset] [(.ref a136)]) _ _ _
                refine Go.iload X142 hx (hb hby at_213) rfl ?_
                show Go _ _ _ _ T142 (mkF m 215 #[.val (.int p0), .val (.int p1), .val (.int p2), .val (.int p3), .val (.int p4), .val (.int vx), .val (.int j122), .val (.int j125), .val (.int vq), .val (.int j128), .val (.int j131), .val (.int j134), .val (.ref a136), .val (.int j134), .val (.int j144), .val (.int j148), .unset, .unset, .unset] [(.int vx), (.ref a136)]) _ _ _
                refine Go.callV (W := 0) (argsL := [(.int vx)]) (rest := []) X142 hx hZ hown (w21 hw) (w22 hw) (w24 hw) (w23 hw) (w3 hw) (w25 hw) (notFace_of_selects (args := #[]) (mvT hZ (w24 hw))) (by decide) P142_0 (rm_get l Z a0 hw a136 vx aW139 aS139 (memSet (memSet (memSet (fun _ => false) vx.toNatClampNeg (!decide (j128 = (0 : Int32)))) j122.toNatClampNeg (!decide (j131 = (0 : Int32)))) j125.toNatClampNeg (!decide (j134 = (0 : Int32)))) T142.heap n0 Z142 P142_0 g_a136 P139_1 P139_2 P139_5 P139_6 P139_7 P142_1 b_vx.1 b_vx.2) rfl (lenOf pd_5 rfl) (hb hby at_215) (by rw [hml]; rfl) rfl (Nat.le_of_eq rfl) (by decide) (by decide) (by decide) (by decide) ?_
                intro v150 T150 L150 X150 q150
                obtain ⟨rfl, M150, e150⟩ := q150
                have N150 := Fr.app N142 M150
                show Go _ _ _ _ T150 (mkF m 218 #[.val (.int p0), .val (.int p1), .val (.int p2), .val (.int p3), .val (.int p4), .val (.int vx), .val (.int j122), .val (.int j125), .val (.int vq), .val (.int j128), .val (.int j131), .val (.int j134), .val (.ref a136), .val (.int j134), .val (.int j144), .val (.int j148), .unset, .unset, .unset] [(.int (if (memSet (memSet (memSet (fun _ => false) vx.toNatClampNeg (!decide (j128 = (0 : Int32)))) j122.toNatClampNeg (!decide (j131 = (0 : Int32)))) j125.toNatClampNeg (!decide (j134 = (0 : Int32)))) vx.toNatClampNeg = true then (1 : Int32) else (0 : Int32)))]) _ _ _
                refine Go.iload X150 hx (hb hby at_218) rfl ?_
                show Go _ _ _ _ T150 (mkF m 220 #[.val (.int p0), .val (.int p1), .val (.int p2), .val (.int p3), .val (.int p4), .val (.int vx), .val (.int j122), .val (.int j125), .val (.int vq), .val (.int j128), .val (.int j131), .val (.int j134), .val (.ref a136), .val (.int j134), .val (.int j144), .val (.int j148), .unset, .unset, .unset] [(.int j148), (.int (if (memSet (memSet (memSet (fun _ => false) vx.toNatClampNeg (!decide (j128 = (0 : Int32)))) j122.toNatClampNeg (!decide (j131 = (0 : Int32)))) j125.toNatClampNeg (!decide (j134 = (0 : Int32)))) vx.toNatClampNeg = true then (1 : Int32) else (0 : Int32)))]) _ _ _
                refine Go.icmpNo X150 hx (hb hby at_220) (XT.ii_ne_f (by have h3 := show m3 vx j122 j125 j128 j131 j134 vx.toNatClampNeg = _ from m3_x b_vx.1 b_j122.1 b_j125.1; unfold m3 at h3; rw [h3, ← g_j148]; exact b01 o_j148)) ?_
                show Go _ _ _ _ T150 (mkF m 223 #[.val (.int p0), .val (.int p1), .val (.int p2), .val (.int p3), .val (.int p4), .val (.int vx), .val (.int j122), .val (.int j125), .val (.int vq), .val (.int j128), .val (.int j131), .val (.int j134), .val (.ref a136), .val (.int j134), .val (.int j144), .val (.int j148), .unset, .unset, .unset] []) _ _ _
                refine Go.aload X150 hx (hb hby at_223) rfl rfl ?_
                show Go _ _ _ _ T150 (mkF m 225 #[.val (.int p0), .val (.int p1), .val (.int p2), .val (.int p3), .val (.int p4), .val (.int vx), .val (.int j122), .val (.int j125), .val (.int vq), .val (.int j128), .val (.int j131), .val (.int j134), .val (.ref a136), .val (.int j134), .val (.int j144), .val (.int j148), .unset, .unset, .unset] [(.ref a136)]) _ _ _
                refine Go.iload X150 hx (hb hby at_225) rfl ?_
                show Go _ _ _ _ T150 (mkF m 227 #[.val (.int p0), .val (.int p1), .val (.int p2), .val (.int p3), .val (.int p4), .val (.int vx), .val (.int j122), .val (.int j125), .val (.int vq), .val (.int j128), .val (.int j131), .val (.int j134), .val (.ref a136), .val (.int j134), .val (.int j144), .val (.int j148), .unset, .unset, .unset] [(.int j122), (.ref a136)]) _ _ _
                refine Go.callV (W := 0) (argsL := [(.int j122)]) (rest := []) X150 hx hZ hown (w21 hw) (w22 hw) (w24 hw) (w23 hw) (w3 hw) (w25 hw) (notFace_of_selects (args := #[]) (mvT hZ (w24 hw))) (by decide) P142_0 (rm_get l Z a0 hw a136 j122 aW139 aS139 (memSet (memSet (memSet (fun _ => false) vx.toNatClampNeg (!decide (j128 = (0 : Int32)))) j122.toNatClampNeg (!decide (j131 = (0 : Int32)))) j125.toNatClampNeg (!decide (j134 = (0 : Int32)))) T142.heap n0 Z142 P142_0 g_a136 P139_1 P139_2 P139_5 P139_6 P139_7 P142_1 b_j122.1 b_j122.2) e150 (lenOf pd_5 rfl) (hb hby at_227) (by rw [hml]; rfl) rfl (Nat.le_of_eq rfl) (by decide) (by decide) (by decide) (by decide) ?_
                intro v151 T151 L151 X151 q151
                obtain ⟨rfl, M151, e151⟩ := q151
                have N151 := Fr.app N150 M151
                show Go _ _ _ _ T151 (mkF m 230 #[.val (.int p0), .val (.int p1), .val (.int p2), .val (.int p3), .val (.int p4), .val (.int vx), .val (.int j122), .val (.int j125), .val (.int vq), .val (.int j128), .val (.int j131), .val (.int j134), .val (.ref a136), .val (.int j134), .val (.int j144), .val (.int j148), .unset, .unset, .unset] [(.int (if (memSet (memSet (memSet (fun _ => false) vx.toNatClampNeg (!decide (j128 = (0 : Int32)))) j122.toNatClampNeg (!decide (j131 = (0 : Int32)))) j125.toNatClampNeg (!decide (j134 = (0 : Int32)))) j122.toNatClampNeg = true then (1 : Int32) else (0 : Int32)))]) _ _ _
                refine Go.iload X151 hx (hb hby at_230) rfl ?_
                show Go _ _ _ _ T151 (mkF m 232 #[.val (.int p0), .val (.int p1), .val (.int p2), .val (.int p3), .val (.int p4), .val (.int vx), .val (.int j122), .val (.int j125), .val (.int vq), .val (.int j128), .val (.int j131), .val (.int j134), .val (.ref a136), .val (.int j134), .val (.int j144), .val (.int j148), .unset, .unset, .unset] [(.int j144), (.int (if (memSet (memSet (memSet (fun _ => false) vx.toNatClampNeg (!decide (j128 = (0 : Int32)))) j122.toNatClampNeg (!decide (j131 = (0 : Int32)))) j125.toNatClampNeg (!decide (j134 = (0 : Int32)))) j122.toNatClampNeg = true then (1 : Int32) else (0 : Int32)))]) _ _ _
                refine Go.icmpNo X151 hx (hb hby at_232) (XT.ii_ne_f (by have h3 := show m3 vx j122 j125 j128 j131 j134 j122.toNatClampNeg = _ from m3_y b_j122.1 b_j125.1; unfold m3 at h3; rw [h3, ← g_j144]; exact b01 o_j144)) ?_
                show Go _ _ _ _ T151 (mkF m 235 #[.val (.int p0), .val (.int p1), .val (.int p2), .val (.int p3), .val (.int p4), .val (.int vx), .val (.int j122), .val (.int j125), .val (.int vq), .val (.int j128), .val (.int j131), .val (.int j134), .val (.ref a136), .val (.int j134), .val (.int j144), .val (.int j148), .unset, .unset, .unset] []) _ _ _
                refine Go.aload X151 hx (hb hby at_235) rfl rfl ?_
                show Go _ _ _ _ T151 (mkF m 237 #[.val (.int p0), .val (.int p1), .val (.int p2), .val (.int p3), .val (.int p4), .val (.int vx), .val (.int j122), .val (.int j125), .val (.int vq), .val (.int j128), .val (.int j131), .val (.int j134), .val (.ref a136), .val (.int j134), .val (.int j144), .val (.int j148), .unset, .unset, .unset] [(.ref a136)]) _ _ _
                refine Go.iload X151 hx (hb hby at_237) rfl ?_
                show Go _ _ _ _ T151 (mkF m 239 #[.val (.int p0), .val (.int p1), .val (.int p2), .val (.int p3), .val (.int p4), .val (.int vx), .val (.int j122), .val (.int j125), .val (.int vq), .val (.int j128), .val (.int j131), .val (.int j134), .val (.ref a136), .val (.int j134), .val (.int j144), .val (.int j148), .unset, .unset, .unset] [(.int j125), (.ref a136)]) _ _ _
                refine Go.callV (W := 0) (argsL := [(.int j125)]) (rest := []) X151 hx hZ hown (w21 hw) (w22 hw) (w24 hw) (w23 hw) (w3 hw) (w25 hw) (notFace_of_selects (args := #[]) (mvT hZ (w24 hw))) (by decide) P142_0 (rm_get l Z a0 hw a136 j125 aW139 aS139 (memSet (memSet (memSet (fun _ => false) vx.toNatClampNeg (!decide (j128 = (0 : Int32)))) j122.toNatClampNeg (!decide (j131 = (0 : Int32)))) j125.toNatClampNeg (!decide (j134 = (0 : Int32)))) T142.heap n0 Z142 P142_0 g_a136 P139_1 P139_2 P139_5 P139_6 P139_7 P142_1 b_j125.1 b_j125.2) e151 (lenOf pd_5 rfl) (hb hby at_239) (by rw [hml]; rfl) rfl (Nat.le_of_eq rfl) (by decide) (by decide) (by decide) (by decide) ?_
                intro v152 T152 L152 X152 q152
                obtain ⟨rfl, M152, e152⟩ := q152
                have N152 := Fr.app N151 M152
                show Go _ _ _ _ T152 (mkF m 242 #[.val (.int p0), .val (.int p1), .val (.int p2), .val (.int p3), .val (.int p4), .val (.int vx), .val (.int j122), .val (.int j125), .val (.int vq), .val (.int j128), .val (.int j131), .val (.int j134), .val (.ref a136), .val (.int j134), .val (.int j144), .val (.int j148), .unset, .unset, .unset] [(.int (if (memSet (memSet (memSet (fun _ => false) vx.toNatClampNeg (!decide (j128 = (0 : Int32)))) j122.toNatClampNeg (!decide (j131 = (0 : Int32)))) j125.toNatClampNeg (!decide (j134 = (0 : Int32)))) j125.toNatClampNeg = true then (1 : Int32) else (0 : Int32)))]) _ _ _
                refine Go.iload X152 hx (hb hby at_242) rfl ?_
                show Go _ _ _ _ T152 (mkF m 244 #[.val (.int p0), .val (.int p1), .val (.int p2), .val (.int p3), .val (.int p4), .val (.int vx), .val (.int j122), .val (.int j125), .val (.int vq), .val (.int j128), .val (.int j131), .val (.int j134), .val (.ref a136), .val (.int j134), .val (.int j144), .val (.int j148), .unset, .unset, .unset] [(.int j134), (.int (if (memSet (memSet (memSet (fun _ => false) vx.toNatClampNeg (!decide (j128 = (0 : Int32)))) j122.toNatClampNeg (!decide (j131 = (0 : Int32)))) j125.toNatClampNeg (!decide (j134 = (0 : Int32)))) j125.toNatClampNeg = true then (1 : Int32) else (0 : Int32)))]) _ _ _
                refine Go.icmpNo X152 hx (hb hby at_244) (XT.ii_ne_f (by have h3 := show m3 vx j122 j125 j128 j131 j134 j125.toNatClampNeg = _ from m3_z _ _ _ _ _ _; unfold m3 at h3; rw [h3]; exact b01 o_j134)) ?_
                show Go _ _ _ _ T152 (mkF m 247 #[.val (.int p0), .val (.int p1), .val (.int p2), .val (.int p3), .val (.int p4), .val (.int vx), .val (.int j122), .val (.int j125), .val (.int vq), .val (.int j128), .val (.int j131), .val (.int j134), .val (.ref a136), .val (.int j134), .val (.int j144), .val (.int j148), .unset, .unset, .unset] []) _ _ _
                refine Go.iconst X152 hx (hb hby at_247) ?_
                show Go _ _ _ _ T152 (mkF m 248 #[.val (.int p0), .val (.int p1), .val (.int p2), .val (.int p3), .val (.int p4), .val (.int vx), .val (.int j122), .val (.int j125), .val (.int vq), .val (.int j128), .val (.int j131), .val (.int j134), .val (.ref a136), .val (.int j134), .val (.int j144), .val (.int j148), .unset, .unset, .unset] [(.int (1 : Int32))]) _ _ _
                refine Go.goto X152 hx (hb hby at_248) (pc' := 252) (by decide) (by decide) ?_
                show Go _ _ _ _ T152 (mkF m 252 #[.val (.int p0), .val (.int p1), .val (.int p2), .val (.int p3), .val (.int p4), .val (.int vx), .val (.int j122), .val (.int j125), .val (.int vq), .val (.int j128), .val (.int j131), .val (.int j134), .val (.ref a136), .val (.int j134), .val (.int j144), .val (.int j148), .unset, .unset, .unset] [(.int (1 : Int32))]) _ _ _
                refine Go.istore X152 hx (hb hby at_252) (l' := #[.val (.int p0), .val (.int p1), .val (.int p2), .val (.int p3), .val (.int p4), .val (.int vx), .val (.int j122), .val (.int j125), .val (.int vq), .val (.int j128), .val (.int j131), .val (.int j134), .val (.ref a136), .val (.int j134), .val (.int j144), .val (.int j148), .val (.int (1 : Int32)), .unset, .unset]) rfl ?_
                show Go _ _ _ _ T152 (mkF m 254 #[.val (.int p0), .val (.int p1), .val (.int p2), .val (.int p3), .val (.int p4), .val (.int vx), .val (.int j122), .val (.int j125), .val (.int vq), .val (.int j128), .val (.int j131), .val (.int j134), .val (.ref a136), .val (.int j134), .val (.int j144), .val (.int j148), .val (.int (1 : Int32)), .unset, .unset] []) _ _ _
                refine Go.iconst X152 hx (hb hby at_254) ?_
                show Go _ _ _ _ T152 (mkF m 255 #[.val (.int p0), .val (.int p1), .val (.int p2), .val (.int p3), .val (.int p4), .val (.int vx), .val (.int j122), .val (.int j125), .val (.int vq), .val (.int j128), .val (.int j131), .val (.int j134), .val (.ref a136), .val (.int j134), .val (.int j144), .val (.int j148), .val (.int (1 : Int32)), .unset, .unset] [(.int (-1 : Int32))]) _ _ _
                refine Go.istore X152 hx (hb hby at_255) (l' := #[.val (.int p0), .val (.int p1), .val (.int p2), .val (.int p3), .val (.int p4), .val (.int vx), .val (.int j122), .val (.int j125), .val (.int vq), .val (.int j128), .val (.int j131), .val (.int j134), .val (.ref a136), .val (.int j134), .val (.int j144), .val (.int j148), .val (.int (1 : Int32)), .val (.int (-1 : Int32)), .unset]) rfl ?_
                show Go _ _ _ _ T152 (mkF m 257 #[.val (.int p0), .val (.int p1), .val (.int p2), .val (.int p3), .val (.int p4), .val (.int vx), .val (.int j122), .val (.int j125), .val (.int vq), .val (.int j128), .val (.int j131), .val (.int j134), .val (.ref a136), .val (.int j134), .val (.int j144), .val (.int j148), .val (.int (1 : Int32)), .val (.int (-1 : Int32)), .unset] []) _ _ _
                refine Go.iload X152 hx (hb hby at_257) rfl ?_
                show Go _ _ _ _ T152 (mkF m 259 #[.val (.int p0), .val (.int p1), .val (.int p2), .val (.int p3), .val (.int p4), .val (.int vx), .val (.int j122), .val (.int j125), .val (.int vq), .val (.int j128), .val (.int j131), .val (.int j134), .val (.ref a136), .val (.int j134), .val (.int j144), .val (.int j148), .val (.int (1 : Int32)), .val (.int (-1 : Int32)), .unset] [(.int (-1 : Int32))]) _ _ _
                refine Go.iload X152 hx (hb hby at_259) rfl ?_
                show Go _ _ _ _ T152 (mkF m 261 #[.val (.int p0), .val (.int p1), .val (.int p2), .val (.int p3), .val (.int p4), .val (.int vx), .val (.int j122), .val (.int j125), .val (.int vq), .val (.int j128), .val (.int j131), .val (.int j134), .val (.ref a136), .val (.int j134), .val (.int j144), .val (.int j148), .val (.int (1 : Int32)), .val (.int (-1 : Int32)), .unset] [(.int j148), (.int (-1 : Int32))]) _ _ _
                refine Go.iload X152 hx (hb hby at_261) rfl ?_
                show Go _ _ _ _ T152 (mkF m 263 #[.val (.int p0), .val (.int p1), .val (.int p2), .val (.int p3), .val (.int p4), .val (.int vx), .val (.int j122), .val (.int j125), .val (.int vq), .val (.int j128), .val (.int j131), .val (.int j134), .val (.ref a136), .val (.int j134), .val (.int j144), .val (.int j148), .val (.int (1 : Int32)), .val (.int (-1 : Int32)), .unset] [(.int vx), (.int j148), (.int (-1 : Int32))]) _ _ _
                refine Go.iload X152 hx (hb hby at_263) rfl ?_
                show Go _ _ _ _ T152 (mkF m 265 #[.val (.int p0), .val (.int p1), .val (.int p2), .val (.int p3), .val (.int p4), .val (.int vx), .val (.int j122), .val (.int j125), .val (.int vq), .val (.int j128), .val (.int j131), .val (.int j134), .val (.ref a136), .val (.int j134), .val (.int j144), .val (.int j148), .val (.int (1 : Int32)), .val (.int (-1 : Int32)), .unset] [(.int vq), (.int vx), (.int j148), (.int (-1 : Int32))]) _ _ _
                refine Go.callS (W := 0) (argsL := [(.int (-1 : Int32)), (.int j148), (.int vx), (.int vq)]) (rest := []) X152 hx hZ hown (w26 hw) (w27 hw) (w28 hw) (w29 hw) (by decide) (rm_nxt l Z a0 hw ((-1 : Int32)) j148 vx vq T142.heap) e152 (lenOf pd_6 rfl) (hb hby at_265) (by rw [hml]; rfl) rfl (Nat.le_of_eq rfl) (by decide) (by decide) (by decide) (by decide) ?_
                intro v153 T153 L153 X153 q153
                obtain ⟨rfl, rfl, e153⟩ := q153
                have N153 := Fr.app N152 (Fr.nil n0)
                show Go _ _ _ _ T153 (mkF m 268 #[.val (.int p0), .val (.int p1), .val (.int p2), .val (.int p3), .val (.int p4), .val (.int vx), .val (.int j122), .val (.int j125), .val (.int vq), .val (.int j128), .val (.int j131), .val (.int j134), .val (.ref a136), .val (.int j134), .val (.int j144), .val (.int j148), .val (.int (1 : Int32)), .val (.int (-1 : Int32)), .unset] [(.int (F_nxt (-1 : Int32) j148 vx vq))]) _ _ _
                refine Go.istore X153 hx (hb hby at_268) (l' := #[.val (.int p0), .val (.int p1), .val (.int p2), .val (.int p3), .val (.int p4), .val (.int vx), .val (.int j122), .val (.int j125), .val (.int vq), .val (.int j128), .val (.int j131), .val (.int j134), .val (.ref a136), .val (.int j134), .val (.int j144), .val (.int j148), .val (.int (1 : Int32)), .val (.int (F_nxt (-1 : Int32) j148 vx vq)), .unset]) rfl ?_
                show Go _ _ _ _ T153 (mkF m 270 #[.val (.int p0), .val (.int p1), .val (.int p2), .val (.int p3), .val (.int p4), .val (.int vx), .val (.int j122), .val (.int j125), .val (.int vq), .val (.int j128), .val (.int j131), .val (.int j134), .val (.ref a136), .val (.int j134), .val (.int j144), .val (.int j148), .val (.int (1 : Int32)), .val (.int (F_nxt (-1 : Int32) j148 vx vq)), .unset] []) _ _ _
                refine Go.iload X153 hx (hb hby at_270) rfl ?_
                show Go _ _ _ _ T153 (mkF m 272 #[.val (.int p0), .val (.int p1), .val (.int p2), .val (.int p3), .val (.int p4), .val (.int vx), .val (.int j122), .val (.int j125), .val (.int vq), .val (.int j128), .val (.int j131), .val (.int j134), .val (.ref a136), .val (.int j134), .val (.int j144), .val (.int j148), .val (.int (1 : Int32)), .val (.int (F_nxt (-1 : Int32) j148 vx vq)), .unset] [(.int (F_nxt (-1 : Int32) j148 vx vq))]) _ _ _
                refine Go.iload X153 hx (hb hby at_272) rfl ?_
                show Go _ _ _ _ T153 (mkF m 274 #[.val (.int p0), .val (.int p1), .val (.int p2), .val (.int p3), .val (.int p4), .val (.int vx), .val (.int j122), .val (.int j125), .val (.int vq), .val (.int j128), .val (.int j131), .val (.int j134), .val (.ref a136), .val (.int j134), .val (.int j144), .val (.int j148), .val (.int (1 : Int32)), .val (.int (F_nxt (-1 : Int32) j148 vx vq)), .unset] [(.int j144), (.int (F_nxt (-1 : Int32) j148 vx vq))]) _ _ _
                refine Go.iload X153 hx (hb hby at_274) rfl ?_
                show Go _ _ _ _ T153 (mkF m 276 #[.val (.int p0), .val (.int p1), .val (.int p2), .val (.int p3), .val (.int p4), .val (.int vx), .val (.int j122), .val (.int j125), .val (.int vq), .val (.int j128), .val (.int j131), .val (.int j134), .val (.ref a136), .val (.int j134), .val (.int j144), .val (.int j148), .val (.int (1 : Int32)), .val (.int (F_nxt (-1 : Int32) j148 vx vq)), .unset] [(.int j122), (.int j144), (.int (F_nxt (-1 : Int32) j148 vx vq))]) _ _ _
                refine Go.iload X153 hx (hb hby at_276) rfl ?_
                show Go _ _ _ _ T153 (mkF m 278 #[.val (.int p0), .val (.int p1), .val (.int p2), .val (.int p3), .val (.int p4), .val (.int vx), .val (.int j122), .val (.int j125), .val (.int vq), .val (.int j128), .val (.int j131), .val (.int j134), .val (.ref a136), .val (.int j134), .val (.int j144), .val (.int j148), .val (.int (1 : Int32)), .val (.int (F_nxt (-1 : Int32) j148 vx vq)), .unset] [(.int vq), (.int j122), (.int j144), (.int (F_nxt (-1 : Int32) j148 vx vq))]) _ _ _
                refine Go.callS (W := 0) (argsL := [(.int (F_nxt (-1 : Int32) j148 vx vq)), (.int j144), (.int j122), (.int vq)]) (rest := []) X153 hx hZ hown (w26 hw) (w27 hw) (w28 hw) (w29 hw) (by decide) (rm_nxt l Z a0 hw ((F_nxt (-1 : Int32) j148 vx vq)) j144 j122 vq T142.heap) e153 (lenOf pd_6 rfl) (hb hby at_278) (by rw [hml]; rfl) rfl (Nat.le_of_eq rfl) (by decide) (by decide) (by decide) (by decide) ?_
                intro v154 T154 L154 X154 q154
                obtain ⟨rfl, rfl, e154⟩ := q154
                have N154 := Fr.app N153 (Fr.nil n0)
                show Go _ _ _ _ T154 (mkF m 281 #[.val (.int p0), .val (.int p1), .val (.int p2), .val (.int p3), .val (.int p4), .val (.int vx), .val (.int j122), .val (.int j125), .val (.int vq), .val (.int j128), .val (.int j131), .val (.int j134), .val (.ref a136), .val (.int j134), .val (.int j144), .val (.int j148), .val (.int (1 : Int32)), .val (.int (F_nxt (-1 : Int32) j148 vx vq)), .unset] [(.int (F_nxt (F_nxt (-1 : Int32) j148 vx vq) j144 j122 vq))]) _ _ _
                refine Go.istore X154 hx (hb hby at_281) (l' := #[.val (.int p0), .val (.int p1), .val (.int p2), .val (.int p3), .val (.int p4), .val (.int vx), .val (.int j122), .val (.int j125), .val (.int vq), .val (.int j128), .val (.int j131), .val (.int j134), .val (.ref a136), .val (.int j134), .val (.int j144), .val (.int j148), .val (.int (1 : Int32)), .val (.int (F_nxt (F_nxt (-1 : Int32) j148 vx vq) j144 j122 vq)), .unset]) rfl ?_
                show Go _ _ _ _ T154 (mkF m 283 #[.val (.int p0), .val (.int p1), .val (.int p2), .val (.int p3), .val (.int p4), .val (.int vx), .val (.int j122), .val (.int j125), .val (.int vq), .val (.int j128), .val (.int j131), .val (.int j134), .val (.ref a136), .val (.int j134), .val (.int j144), .val (.int j148), .val (.int (1 : Int32)), .val (.int (F_nxt (F_nxt (-1 : Int32) j148 vx vq) j144 j122 vq)), .unset] []) _ _ _
                refine Go.iload X154 hx (hb hby at_283) rfl ?_
                show Go _ _ _ _ T154 (mkF m 285 #[.val (.int p0), .val (.int p1), .val (.int p2), .val (.int p3), .val (.int p4), .val (.int vx), .val (.int j122), .val (.int j125), .val (.int vq), .val (.int j128), .val (.int j131), .val (.int j134), .val (.ref a136), .val (.int j134), .val (.int j144), .val (.int j148), .val (.int (1 : Int32)), .val (.int (F_nxt (F_nxt (-1 : Int32) j148 vx vq) j144 j122 vq)), .unset] [(.int (F_nxt (F_nxt (-1 : Int32) j148 vx vq) j144 j122 vq))]) _ _ _
                refine Go.iload X154 hx (hb hby at_285) rfl ?_
                show Go _ _ _ _ T154 (mkF m 287 #[.val (.int p0), .val (.int p1), .val (.int p2), .val (.int p3), .val (.int p4), .val (.int vx), .val (.int j122), .val (.int j125), .val (.int vq), .val (.int j128), .val (.int j131), .val (.int j134), .val (.ref a136), .val (.int j134), .val (.int j144), .val (.int j148), .val (.int (1 : Int32)), .val (.int (F_nxt (F_nxt (-1 : Int32) j148 vx vq) j144 j122 vq)), .unset] [(.int j134), (.int (F_nxt (F_nxt (-1 : Int32) j148 vx vq) j144 j122 vq))]) _ _ _
                refine Go.iload X154 hx (hb hby at_287) rfl ?_
                show Go _ _ _ _ T154 (mkF m 289 #[.val (.int p0), .val (.int p1), .val (.int p2), .val (.int p3), .val (.int p4), .val (.int vx), .val (.int j122), .val (.int j125), .val (.int vq), .val (.int j128), .val (.int j131), .val (.int j134), .val (.ref a136), .val (.int j134), .val (.int j144), .val (.int j148), .val (.int (1 : Int32)), .val (.int (F_nxt (F_nxt (-1 : Int32) j148 vx vq) j144 j122 vq)), .unset] [(.int j125), (.int j134), (.int (F_nxt (F_nxt (-1 : Int32) j148 vx vq) j144 j122 vq))]) _ _ _
                refine Go.iload X154 hx (hb hby at_289) rfl ?_
                show Go _ _ _ _ T154 (mkF m 291 #[.val (.int p0), .val (.int p1), .val (.int p2), .val (.int p3), .val (.int p4), .val (.int vx), .val (.int j122), .val (.int j125), .val (.int vq), .val (.int j128), .val (.int j131), .val (.int j134), .val (.ref a136), .val (.int j134), .val (.int j144), .val (.int j148), .val (.int (1 : Int32)), .val (.int (F_nxt (F_nxt (-1 : Int32) j148 vx vq) j144 j122 vq)), .unset] [(.int vq), (.int j125), (.int j134), (.int (F_nxt (F_nxt (-1 : Int32) j148 vx vq) j144 j122 vq))]) _ _ _
                refine Go.callS (W := 0) (argsL := [(.int (F_nxt (F_nxt (-1 : Int32) j148 vx vq) j144 j122 vq)), (.int j134), (.int j125), (.int vq)]) (rest := []) X154 hx hZ hown (w26 hw) (w27 hw) (w28 hw) (w29 hw) (by decide) (rm_nxt l Z a0 hw ((F_nxt (F_nxt (-1 : Int32) j148 vx vq) j144 j122 vq)) j134 j125 vq T142.heap) e154 (lenOf pd_6 rfl) (hb hby at_291) (by rw [hml]; rfl) rfl (Nat.le_of_eq rfl) (by decide) (by decide) (by decide) (by decide) ?_
                intro v155 T155 L155 X155 q155
                obtain ⟨rfl, rfl, e155⟩ := q155
                have N155 := Fr.app N154 (Fr.nil n0)
                show Go _ _ _ _ T155 (mkF m 294 #[.val (.int p0), .val (.int p1), .val (.int p2), .val (.int p3), .val (.int p4), .val (.int vx), .val (.int j122), .val (.int j125), .val (.int vq), .val (.int j128), .val (.int j131), .val (.int j134), .val (.ref a136), .val (.int j134), .val (.int j144), .val (.int j148), .val (.int (1 : Int32)), .val (.int (F_nxt (F_nxt (-1 : Int32) j148 vx vq) j144 j122 vq)), .unset] [(.int (F_nxt (F_nxt (F_nxt (-1 : Int32) j148 vx vq) j144 j122 vq) j134 j125 vq))]) _ _ _
                refine Go.istore X155 hx (hb hby at_294) (l' := #[.val (.int p0), .val (.int p1), .val (.int p2), .val (.int p3), .val (.int p4), .val (.int vx), .val (.int j122), .val (.int j125), .val (.int vq), .val (.int j128), .val (.int j131), .val (.int j134), .val (.ref a136), .val (.int j134), .val (.int j144), .val (.int j148), .val (.int (1 : Int32)), .val (.int (F_nxt (F_nxt (F_nxt (-1 : Int32) j148 vx vq) j144 j122 vq) j134 j125 vq)), .unset]) rfl ?_
                show Go _ _ _ _ T155 (mkF m 296 #[.val (.int p0), .val (.int p1), .val (.int p2), .val (.int p3), .val (.int p4), .val (.int vx), .val (.int j122), .val (.int j125), .val (.int vq), .val (.int j128), .val (.int j131), .val (.int j134), .val (.ref a136), .val (.int j134), .val (.int j144), .val (.int j148), .val (.int (1 : Int32)), .val (.int (F_nxt (F_nxt (F_nxt (-1 : Int32) j148 vx vq) j144 j122 vq) j134 j125 vq)), .unset] []) _ _ _
                refine Go.iconst X155 hx (hb hby at_296) ?_
                show Go _ _ _ _ T155 (mkF m 297 #[.val (.int p0), .val (.int p1), .val (.int p2), .val (.int p3), .val (.int p4), .val (.int vx), .val (.int j122), .val (.int j125), .val (.int vq), .val (.int j128), .val (.int j131), .val (.int j134), .val (.ref a136), .val (.int j134), .val (.int j144), .val (.int j148), .val (.int (1 : Int32)), .val (.int (F_nxt (F_nxt (F_nxt (-1 : Int32) j148 vx vq) j144 j122 vq) j134 j125 vq)), .unset] [(.int (-1 : Int32))]) _ _ _
                refine Go.istore X155 hx (hb hby at_297) (l' := #[.val (.int p0), .val (.int p1), .val (.int p2), .val (.int p3), .val (.int p4), .val (.int vx), .val (.int j122), .val (.int j125), .val (.int vq), .val (.int j128), .val (.int j131), .val (.int j134), .val (.ref a136), .val (.int j134), .val (.int j144), .val (.int j148), .val (.int (1 : Int32)), .val (.int (F_nxt (F_nxt (F_nxt (-1 : Int32) j148 vx vq) j144 j122 vq) j134 j125 vq)), .val (.int (-1 : Int32))]) rfl ?_
                show Go _ _ _ _ T155 (mkF m 299 #[.val (.int p0), .val (.int p1), .val (.int p2), .val (.int p3), .val (.int p4), .val (.int vx), .val (.int j122), .val (.int j125), .val (.int vq), .val (.int j128), .val (.int j131), .val (.int j134), .val (.ref a136), .val (.int j134), .val (.int j144), .val (.int j148), .val (.int (1 : Int32)), .val (.int (F_nxt (F_nxt (F_nxt (-1 : Int32) j148 vx vq) j144 j122 vq) j134 j125 vq)), .val (.int (-1 : Int32))] []) _ _ _
                refine Go.iload X155 hx (hb hby at_299) rfl ?_
                show Go _ _ _ _ T155 (mkF m 301 #[.val (.int p0), .val (.int p1), .val (.int p2), .val (.int p3), .val (.int p4), .val (.int vx), .val (.int j122), .val (.int j125), .val (.int vq), .val (.int j128), .val (.int j131), .val (.int j134), .val (.ref a136), .val (.int j134), .val (.int j144), .val (.int j148), .val (.int (1 : Int32)), .val (.int (F_nxt (F_nxt (F_nxt (-1 : Int32) j148 vx vq) j144 j122 vq) j134 j125 vq)), .val (.int (-1 : Int32))] [(.int (-1 : Int32))]) _ _ _
                refine Go.iload X155 hx (hb hby at_301) rfl ?_
                show Go _ _ _ _ T155 (mkF m 303 #[.val (.int p0), .val (.int p1), .val (.int p2), .val (.int p3), .val (.int p4), .val (.int vx), .val (.int j122), .val (.int j125), .val (.int vq), .val (.int j128), .val (.int j131), .val (.int j134), .val (.ref a136), .val (.int j134), .val (.int j144), .val (.int j148), .val (.int (1 : Int32)), .val (.int (F_nxt (F_nxt (F_nxt (-1 : Int32) j148 vx vq) j144 j122 vq) j134 j125 vq)), .val (.int (-1 : Int32))] [(.int j148), (.int (-1 : Int32))]) _ _ _
                refine Go.iload X155 hx (hb hby at_303) rfl ?_
                show Go _ _ _ _ T155 (mkF m 305 #[.val (.int p0), .val (.int p1), .val (.int p2), .val (.int p3), .val (.int p4), .val (.int vx), .val (.int j122), .val (.int j125), .val (.int vq), .val (.int j128), .val (.int j131), .val (.int j134), .val (.ref a136), .val (.int j134), .val (.int j144), .val (.int j148), .val (.int (1 : Int32)), .val (.int (F_nxt (F_nxt (F_nxt (-1 : Int32) j148 vx vq) j144 j122 vq) j134 j125 vq)), .val (.int (-1 : Int32))] [(.int vx), (.int j148), (.int (-1 : Int32))]) _ _ _
                refine Go.iload X155 hx (hb hby at_305) rfl ?_
                show Go _ _ _ _ T155 (mkF m 307 #[.val (.int p0), .val (.int p1), .val (.int p2), .val (.int p3), .val (.int p4), .val (.int vx), .val (.int j122), .val (.int j125), .val (.int vq), .val (.int j128), .val (.int j131), .val (.int j134), .val (.ref a136), .val (.int j134), .val (.int j144), .val (.int j148), .val (.int (1 : Int32)), .val (.int (F_nxt (F_nxt (F_nxt (-1 : Int32) j148 vx vq) j144 j122 vq) j134 j125 vq)), .val (.int (-1 : Int32))] [(.int vq), (.int vx), (.int j148), (.int (-1 : Int32))]) _ _ _
                refine Go.callS (W := 0) (argsL := [(.int (-1 : Int32)), (.int j148), (.int vx), (.int vq)]) (rest := []) X155 hx hZ hown (w30 hw) (w31 hw) (w28 hw) (w32 hw) (by decide) (rm_prv l Z a0 hw ((-1 : Int32)) j148 vx vq T142.heap) e155 (lenOf pd_6 rfl) (hb hby at_307) (by rw [hml]; rfl) rfl (Nat.le_of_eq rfl) (by decide) (by decide) (by decide) (by decide) ?_
                intro v156 T156 L156 X156 q156
                obtain ⟨rfl, rfl, e156⟩ := q156
                have N156 := Fr.app N155 (Fr.nil n0)
                show Go _ _ _ _ T156 (mkF m 310 #[.val (.int p0), .val (.int p1), .val (.int p2), .val (.int p3), .val (.int p4), .val (.int vx), .val (.int j122), .val (.int j125), .val (.int vq), .val (.int j128), .val (.int j131), .val (.int j134), .val (.ref a136), .val (.int j134), .val (.int j144), .val (.int j148), .val (.int (1 : Int32)), .val (.int (F_nxt (F_nxt (F_nxt (-1 : Int32) j148 vx vq) j144 j122 vq) j134 j125 vq)), .val (.int (-1 : Int32))] [(.int (F_prv (-1 : Int32) j148 vx vq))]) _ _ _
                refine Go.istore X156 hx (hb hby at_310) (l' := #[.val (.int p0), .val (.int p1), .val (.int p2), .val (.int p3), .val (.int p4), .val (.int vx), .val (.int j122), .val (.int j125), .val (.int vq), .val (.int j128), .val (.int j131), .val (.int j134), .val (.ref a136), .val (.int j134), .val (.int j144), .val (.int j148), .val (.int (1 : Int32)), .val (.int (F_nxt (F_nxt (F_nxt (-1 : Int32) j148 vx vq) j144 j122 vq) j134 j125 vq)), .val (.int (F_prv (-1 : Int32) j148 vx vq))]) rfl ?_
                show Go _ _ _ _ T156 (mkF m 312 #[.val (.int p0), .val (.int p1), .val (.int p2), .val (.int p3), .val (.int p4), .val (.int vx), .val (.int j122), .val (.int j125), .val (.int vq), .val (.int j128), .val (.int j131), .val (.int j134), .val (.ref a136), .val (.int j134), .val (.int j144), .val (.int j148), .val (.int (1 : Int32)), .val (.int (F_nxt (F_nxt (F_nxt (-1 : Int32) j148 vx vq) j144 j122 vq) j134 j125 vq)), .val (.int (F_prv (-1 : Int32) j148 vx vq))] []) _ _ _
                refine Go.iload X156 hx (hb hby at_312) rfl ?_
                show Go _ _ _ _ T156 (mkF m 314 #[.val (.int p0), .val (.int p1), .val (.int p2), .val (.int p3), .val (.int p4), .val (.int vx), .val (.int j122), .val (.int j125), .val (.int vq), .val (.int j128), .val (.int j131), .val (.int j134), .val (.ref a136), .val (.int j134), .val (.int j144), .val (.int j148), .val (.int (1 : Int32)), .val (.int (F_nxt (F_nxt (F_nxt (-1 : Int32) j148 vx vq) j144 j122 vq) j134 j125 vq)), .val (.int (F_prv (-1 : Int32) j148 vx vq))] [(.int (F_prv (-1 : Int32) j148 vx vq))]) _ _ _
                refine Go.iload X156 hx (hb hby at_314) rfl ?_
                show Go _ _ _ _ T156 (mkF m 316 #[.val (.int p0), .val (.int p1), .val (.int p2), .val (.int p3), .val (.int p4), .val (.int vx), .val (.int j122), .val (.int j125), .val (.int vq), .val (.int j128), .val (.int j131), .val (.int j134), .val (.ref a136), .val (.int j134), .val (.int j144), .val (.int j148), .val (.int (1 : Int32)), .val (.int (F_nxt (F_nxt (F_nxt (-1 : Int32) j148 vx vq) j144 j122 vq) j134 j125 vq)), .val (.int (F_prv (-1 : Int32) j148 vx vq))] [(.int j144), (.int (F_prv (-1 : Int32) j148 vx vq))]) _ _ _
                refine Go.iload X156 hx (hb hby at_316) rfl ?_
                show Go _ _ _ _ T156 (mkF m 318 #[.val (.int p0), .val (.int p1), .val (.int p2), .val (.int p3), .val (.int p4), .val (.int vx), .val (.int j122), .val (.int j125), .val (.int vq), .val (.int j128), .val (.int j131), .val (.int j134), .val (.ref a136), .val (.int j134), .val (.int j144), .val (.int j148), .val (.int (1 : Int32)), .val (.int (F_nxt (F_nxt (F_nxt (-1 : Int32) j148 vx vq) j144 j122 vq) j134 j125 vq)), .val (.int (F_prv (-1 : Int32) j148 vx vq))] [(.int j122), (.int j144), (.int (F_prv (-1 : Int32) j148 vx vq))]) _ _ _
                refine Go.iload X156 hx (hb hby at_318) rfl ?_
                show Go _ _ _ _ T156 (mkF m 320 #[.val (.int p0), .val (.int p1), .val (.int p2), .val (.int p3), .val (.int p4), .val (.int vx), .val (.int j122), .val (.int j125), .val (.int vq), .val (.int j128), .val (.int j131), .val (.int j134), .val (.ref a136), .val (.int j134), .val (.int j144), .val (.int j148), .val (.int (1 : Int32)), .val (.int (F_nxt (F_nxt (F_nxt (-1 : Int32) j148 vx vq) j144 j122 vq) j134 j125 vq)), .val (.int (F_prv (-1 : Int32) j148 vx vq))] [(.int vq), (.int j122), (.int j144), (.int (F_prv (-1 : Int32) j148 vx vq))]) _ _ _
                refine Go.callS (W := 0) (argsL := [(.int (F_prv (-1 : Int32) j148 vx vq)), (.int j144), (.int j122), (.int vq)]) (rest := []) X156 hx hZ hown (w30 hw) (w31 hw) (w28 hw) (w32 hw) (by decide) (rm_prv l Z a0 hw ((F_prv (-1 : Int32) j148 vx vq)) j144 j122 vq T142.heap) e156 (lenOf pd_6 rfl) (hb hby at_320) (by rw [hml]; rfl) rfl (Nat.le_of_eq rfl) (by decide) (by decide) (by decide) (by decide) ?_
                intro v157 T157 L157 X157 q157
                obtain ⟨rfl, rfl, e157⟩ := q157
                have N157 := Fr.app N156 (Fr.nil n0)
                show Go _ _ _ _ T157 (mkF m 323 #[.val (.int p0), .val (.int p1), .val (.int p2), .val (.int p3), .val (.int p4), .val (.int vx), .val (.int j122), .val (.int j125), .val (.int vq), .val (.int j128), .val (.int j131), .val (.int j134), .val (.ref a136), .val (.int j134), .val (.int j144), .val (.int j148), .val (.int (1 : Int32)), .val (.int (F_nxt (F_nxt (F_nxt (-1 : Int32) j148 vx vq) j144 j122 vq) j134 j125 vq)), .val (.int (F_prv (-1 : Int32) j148 vx vq))] [(.int (F_prv (F_prv (-1 : Int32) j148 vx vq) j144 j122 vq))]) _ _ _
                refine Go.istore X157 hx (hb hby at_323) (l' := #[.val (.int p0), .val (.int p1), .val (.int p2), .val (.int p3), .val (.int p4), .val (.int vx), .val (.int j122), .val (.int j125), .val (.int vq), .val (.int j128), .val (.int j131), .val (.int j134), .val (.ref a136), .val (.int j134), .val (.int j144), .val (.int j148), .val (.int (1 : Int32)), .val (.int (F_nxt (F_nxt (F_nxt (-1 : Int32) j148 vx vq) j144 j122 vq) j134 j125 vq)), .val (.int (F_prv (F_prv (-1 : Int32) j148 vx vq) j144 j122 vq))]) rfl ?_
                show Go _ _ _ _ T157 (mkF m 325 #[.val (.int p0), .val (.int p1), .val (.int p2), .val (.int p3), .val (.int p4), .val (.int vx), .val (.int j122), .val (.int j125), .val (.int vq), .val (.int j128), .val (.int j131), .val (.int j134), .val (.ref a136), .val (.int j134), .val (.int j144), .val (.int j148), .val (.int (1 : Int32)), .val (.int (F_nxt (F_nxt (F_nxt (-1 : Int32) j148 vx vq) j144 j122 vq) j134 j125 vq)), .val (.int (F_prv (F_prv (-1 : Int32) j148 vx vq) j144 j122 vq))] []) _ _ _
                refine Go.iload X157 hx (hb hby at_325) rfl ?_
                show Go _ _ _ _ T157 (mkF m 327 #[.val (.int p0), .val (.int p1), .val (.int p2), .val (.int p3), .val (.int p4), .val (.int vx), .val (.int j122), .val (.int j125), .val (.int vq), .val (.int j128), .val (.int j131), .val (.int j134), .val (.ref a136), .val (.int j134), .val (.int j144), .val (.int j148), .val (.int (1 : Int32)), .val (.int (F_nxt (F_nxt (F_nxt (-1 : Int32) j148 vx vq) j144 j122 vq) j134 j125 vq)), .val (.int (F_prv (F_prv (-1 : Int32) j148 vx vq) j144 j122 vq))] [(.int (F_prv (F_prv (-1 : Int32) j148 vx vq) j144 j122 vq))]) _ _ _
                refine Go.iload X157 hx (hb hby at_327) rfl ?_
                show Go _ _ _ _ T157 (mkF m 329 #[.val (.int p0), .val (.int p1), .val (.int p2), .val (.int p3), .val (.int p4), .val (.int vx), .val (.int j122), .val (.int j125), .val (.int vq), .val (.int j128), .val (.int j131), .val (.int j134), .val (.ref a136), .val (.int j134), .val (.int j144), .val (.int j148), .val (.int (1 : Int32)), .val (.int (F_nxt (F_nxt (F_nxt (-1 : Int32) j148 vx vq) j144 j122 vq) j134 j125 vq)), .val (.int (F_prv (F_prv (-1 : Int32) j148 vx vq) j144 j122 vq))] [(.int j134), (.int (F_prv (F_prv (-1 : Int32) j148 vx vq) j144 j122 vq))]) _ _ _
                refine Go.iload X157 hx (hb hby at_329) rfl ?_
                show Go _ _ _ _ T157 (mkF m 331 #[.val (.int p0), .val (.int p1), .val (.int p2), .val (.int p3), .val (.int p4), .val (.int vx), .val (.int j122), .val (.int j125), .val (.int vq), .val (.int j128), .val (.int j131), .val (.int j134), .val (.ref a136), .val (.int j134), .val (.int j144), .val (.int j148), .val (.int (1 : Int32)), .val (.int (F_nxt (F_nxt (F_nxt (-1 : Int32) j148 vx vq) j144 j122 vq) j134 j125 vq)), .val (.int (F_prv (F_prv (-1 : Int32) j148 vx vq) j144 j122 vq))] [(.int j125), (.int j134), (.int (F_prv (F_prv (-1 : Int32) j148 vx vq) j144 j122 vq))]) _ _ _
                refine Go.iload X157 hx (hb hby at_331) rfl ?_
                show Go _ _ _ _ T157 (mkF m 333 #[.val (.int p0), .val (.int p1), .val (.int p2), .val (.int p3), .val (.int p4), .val (.int vx), .val (.int j122), .val (.int j125), .val (.int vq), .val (.int j128), .val (.int j131), .val (.int j134), .val (.ref a136), .val (.int j134), .val (.int j144), .val (.int j148), .val (.int (1 : Int32)), .val (.int (F_nxt (F_nxt (F_nxt (-1 : Int32) j148 vx vq) j144 j122 vq) j134 j125 vq)), .val (.int (F_prv (F_prv (-1 : Int32) j148 vx vq) j144 j122 vq))] [(.int vq), (.int j125), (.int j134), (.int (F_prv (F_prv (-1 : Int32) j148 vx vq) j144 j122 vq))]) _ _ _
                refine Go.callS (W := 0) (argsL := [(.int (F_prv (F_prv (-1 : Int32) j148 vx vq) j144 j122 vq)), (.int j134), (.int j125), (.int vq)]) (rest := []) X157 hx hZ hown (w30 hw) (w31 hw) (w28 hw) (w32 hw) (by decide) (rm_prv l Z a0 hw ((F_prv (F_prv (-1 : Int32) j148 vx vq) j144 j122 vq)) j134 j125 vq T142.heap) e157 (lenOf pd_6 rfl) (hb hby at_333) (by rw [hml]; rfl) rfl (Nat.le_of_eq rfl) (by decide) (by decide) (by decide) (by decide) ?_
                intro v158 T158 L158 X158 q158
                obtain ⟨rfl, rfl, e158⟩ := q158
                have N158 := Fr.app N157 (Fr.nil n0)
                show Go _ _ _ _ T158 (mkF m 336 #[.val (.int p0), .val (.int p1), .val (.int p2), .val (.int p3), .val (.int p4), .val (.int vx), .val (.int j122), .val (.int j125), .val (.int vq), .val (.int j128), .val (.int j131), .val (.int j134), .val (.ref a136), .val (.int j134), .val (.int j144), .val (.int j148), .val (.int (1 : Int32)), .val (.int (F_nxt (F_nxt (F_nxt (-1 : Int32) j148 vx vq) j144 j122 vq) j134 j125 vq)), .val (.int (F_prv (F_prv (-1 : Int32) j148 vx vq) j144 j122 vq))] [(.int (F_prv (F_prv (F_prv (-1 : Int32) j148 vx vq) j144 j122 vq) j134 j125 vq))]) _ _ _
                refine Go.istore X158 hx (hb hby at_336) (l' := #[.val (.int p0), .val (.int p1), .val (.int p2), .val (.int p3), .val (.int p4), .val (.int vx), .val (.int j122), .val (.int j125), .val (.int vq), .val (.int j128), .val (.int j131), .val (.int j134), .val (.ref a136), .val (.int j134), .val (.int j144), .val (.int j148), .val (.int (1 : Int32)), .val (.int (F_nxt (F_nxt (F_nxt (-1 : Int32) j148 vx vq) j144 j122 vq) j134 j125 vq)), .val (.int (F_prv (F_prv (F_prv (-1 : Int32) j148 vx vq) j144 j122 vq) j134 j125 vq))]) rfl ?_
                show Go _ _ _ _ T158 (mkF m 338 #[.val (.int p0), .val (.int p1), .val (.int p2), .val (.int p3), .val (.int p4), .val (.int vx), .val (.int j122), .val (.int j125), .val (.int vq), .val (.int j128), .val (.int j131), .val (.int j134), .val (.ref a136), .val (.int j134), .val (.int j144), .val (.int j148), .val (.int (1 : Int32)), .val (.int (F_nxt (F_nxt (F_nxt (-1 : Int32) j148 vx vq) j144 j122 vq) j134 j125 vq)), .val (.int (F_prv (F_prv (F_prv (-1 : Int32) j148 vx vq) j144 j122 vq) j134 j125 vq))] []) _ _ _
                refine Go.iload X158 hx (hb hby at_338) rfl ?_
                show Go _ _ _ _ T158 (mkF m 340 #[.val (.int p0), .val (.int p1), .val (.int p2), .val (.int p3), .val (.int p4), .val (.int vx), .val (.int j122), .val (.int j125), .val (.int vq), .val (.int j128), .val (.int j131), .val (.int j134), .val (.ref a136), .val (.int j134), .val (.int j144), .val (.int j148), .val (.int (1 : Int32)), .val (.int (F_nxt (F_nxt (F_nxt (-1 : Int32) j148 vx vq) j144 j122 vq) j134 j125 vq)), .val (.int (F_prv (F_prv (F_prv (-1 : Int32) j148 vx vq) j144 j122 vq) j134 j125 vq))] [(.int (1 : Int32))]) _ _ _
                refine Go.ifNo X158 hx (hb hby at_340) (XT.i0_eq_f (by decide)) ?_
                show Go _ _ _ _ T158 (mkF m 343 #[.val (.int p0), .val (.int p1), .val (.int p2), .val (.int p3), .val (.int p4), .val (.int vx), .val (.int j122), .val (.int j125), .val (.int vq), .val (.int j128), .val (.int j131), .val (.int j134), .val (.ref a136), .val (.int j134), .val (.int j144), .val (.int j148), .val (.int (1 : Int32)), .val (.int (F_nxt (F_nxt (F_nxt (-1 : Int32) j148 vx vq) j144 j122 vq) j134 j125 vq)), .val (.int (F_prv (F_prv (F_prv (-1 : Int32) j148 vx vq) j144 j122 vq) j134 j125 vq))] []) _ _ _
                refine Go.aload X158 hx (hb hby at_343) rfl rfl ?_
                show Go _ _ _ _ T158 (mkF m 345 #[.val (.int p0), .val (.int p1), .val (.int p2), .val (.int p3), .val (.int p4), .val (.int vx), .val (.int j122), .val (.int j125), .val (.int vq), .val (.int j128), .val (.int j131), .val (.int j134), .val (.ref a136), .val (.int j134), .val (.int j144), .val (.int j148), .val (.int (1 : Int32)), .val (.int (F_nxt (F_nxt (F_nxt (-1 : Int32) j148 vx vq) j144 j122 vq) j134 j125 vq)), .val (.int (F_prv (F_prv (F_prv (-1 : Int32) j148 vx vq) j144 j122 vq) j134 j125 vq))] [(.ref a136)]) _ _ _
                refine Go.iload X158 hx (hb hby at_345) rfl ?_
                show Go _ _ _ _ T158 (mkF m 347 #[.val (.int p0), .val (.int p1), .val (.int p2), .val (.int p3), .val (.int p4), .val (.int vx), .val (.int j122), .val (.int j125), .val (.int vq), .val (.int j128), .val (.int j131), .val (.int j134), .val (.ref a136), .val (.int j134), .val (.int j144), .val (.int j148), .val (.int (1 : Int32)), .val (.int (F_nxt (F_nxt (F_nxt (-1 : Int32) j148 vx vq) j144 j122 vq) j134 j125 vq)), .val (.int (F_prv (F_prv (F_prv (-1 : Int32) j148 vx vq) j144 j122 vq) j134 j125 vq))] [(.int vq), (.ref a136)]) _ _ _
                refine Go.callV (W := 0) (argsL := [(.int vq)]) (rest := []) X158 hx hZ hown (w33 hw) (w34 hw) (w36 hw) (w35 hw) (w3 hw) (w37 hw) (notFace_of_selects (args := #[]) (mvT hZ (w36 hw))) (by decide) P142_0 (rm_nsb l Z a0 hw a136 vq aW139 aS139 (memSet (memSet (memSet (fun _ => false) vx.toNatClampNeg (!decide (j128 = (0 : Int32)))) j122.toNatClampNeg (!decide (j131 = (0 : Int32)))) j125.toNatClampNeg (!decide (j134 = (0 : Int32)))) T142.heap n0 Z142 P142_0 g_a136 P139_1 P139_2 P139_5 P139_6 P139_7 P142_1 b_vq.1 b_vq.2) e158 (lenOf pd_0 rfl) (hb hby at_347) (by rw [hml]; rfl) rfl (Nat.le_of_eq rfl) (by decide) (by decide) (by decide) (by decide) ?_
                intro v159 T159 L159 X159 q159
                obtain ⟨r159, rfl, M159, e159, P159_0⟩ := q159
                have N159 := Fr.app N158 M159
                show Go _ _ _ _ T159 (mkF m 350 #[.val (.int p0), .val (.int p1), .val (.int p2), .val (.int p3), .val (.int p4), .val (.int vx), .val (.int j122), .val (.int j125), .val (.int vq), .val (.int j128), .val (.int j131), .val (.int j134), .val (.ref a136), .val (.int j134), .val (.int j144), .val (.int j148), .val (.int (1 : Int32)), .val (.int (F_nxt (F_nxt (F_nxt (-1 : Int32) j148 vx vq) j144 j122 vq) j134 j125 vq)), .val (.int (F_prv (F_prv (F_prv (-1 : Int32) j148 vx vq) j144 j122 vq) j134 j125 vq))] [(.int r159)]) _ _ _
                refine Go.iload X159 hx (hb hby at_350) rfl ?_
                show Go _ _ _ _ T159 (mkF m 352 #[.val (.int p0), .val (.int p1), .val (.int p2), .val (.int p3), .val (.int p4), .val (.int vx), .val (.int j122), .val (.int j125), .val (.int vq), .val (.int j128), .val (.int j131), .val (.int j134), .val (.ref a136), .val (.int j134), .val (.int j144), .val (.int j148), .val (.int (1 : Int32)), .val (.int (F_nxt (F_nxt (F_nxt (-1 : Int32) j148 vx vq) j144 j122 vq) j134 j125 vq)), .val (.int (F_prv (F_prv (F_prv (-1 : Int32) j148 vx vq) j144 j122 vq) j134 j125 vq))] [(.int (F_nxt (F_nxt (F_nxt (-1 : Int32) j148 vx vq) j144 j122 vq) j134 j125 vq)), (.int r159)]) _ _ _
                refine Go.icmpNo X159 hx (hb hby at_352) (XT.ii_ne_f (bst_ns (bst_step (bst_step (bst_step (Or.inl ⟨rfl, fun _ z => nomatch z⟩) b_vq.1 b_vx.1 b_vx.2 (by rw [g_j148]; exact m3_x b_vx.1 b_j122.1 b_j125.1)) b_vq.1 b_j122.1 b_j122.2 (by rw [g_j144]; exact m3_y b_j122.1 b_j125.1)) b_vq.1 b_j125.1 b_j125.2 (m3_z _ _ _ _ _ _)) (fun n h => m3_only h) P159_0)) ?_
                show Go _ _ _ _ T159 (mkF m 355 #[.val (.int p0), .val (.int p1), .val (.int p2), .val (.int p3), .val (.int p4), .val (.int vx), .val (.int j122), .val (.int j125), .val (.int vq), .val (.int j128), .val (.int j131), .val (.int j134), .val (.ref a136), .val (.int j134), .val (.int j144), .val (.int j148), .val (.int (1 : Int32)), .val (.int (F_nxt (F_nxt (F_nxt (-1 : Int32) j148 vx vq) j144 j122 vq) j134 j125 vq)), .val (.int (F_prv (F_prv (F_prv (-1 : Int32) j148 vx vq) j144 j122 vq) j134 j125 vq))] []) _ _ _
                refine Go.aload X159 hx (hb hby at_355) rfl rfl ?_
                show Go _ _ _ _ T159 (mkF m 357 #[.val (.int p0), .val (.int p1), .val (.int p2), .val (.int p3), .val (.int p4), .val (.int vx), .val (.int j122), .val (.int j125), .val (.int vq), .val (.int j128), .val (.int j131), .val (.int j134), .val (.ref a136), .val (.int j134), .val (.int j144), .val (.int j148), .val (.int (1 : Int32)), .val (.int (F_nxt (F_nxt (F_nxt (-1 : Int32) j148 vx vq) j144 j122 vq) j134 j125 vq)), .val (.int (F_prv (F_prv (F_prv (-1 : Int32) j148 vx vq) j144 j122 vq) j134 j125 vq))] [(.ref a136)]) _ _ _
                refine Go.iload X159 hx (hb hby at_357) rfl ?_
                show Go _ _ _ _ T159 (mkF m 359 #[.val (.int p0), .val (.int p1), .val (.int p2), .val (.int p3), .val (.int p4), .val (.int vx), .val (.int j122), .val (.int j125), .val (.int vq), .val (.int j128), .val (.int j131), .val (.int j134), .val (.ref a136), .val (.int j134), .val (.int j144), .val (.int j148), .val (.int (1 : Int32)), .val (.int (F_nxt (F_nxt (F_nxt (-1 : Int32) j148 vx vq) j144 j122 vq) j134 j125 vq)), .val (.int (F_prv (F_prv (F_prv (-1 : Int32) j148 vx vq) j144 j122 vq) j134 j125 vq))] [(.int vq), (.ref a136)]) _ _ _
                refine Go.callV (W := 0) (argsL := [(.int vq)]) (rest := []) X159 hx hZ hown (w42 hw) (w43 hw) (w45 hw) (w44 hw) (w3 hw) (w46 hw) (notFace_of_selects (args := #[]) (mvT hZ (w45 hw))) (by decide) P142_0 (rm_psb l Z a0 hw a136 vq aW139 aS139 (memSet (memSet (memSet (fun _ => false) vx.toNatClampNeg (!decide (j128 = (0 : Int32)))) j122.toNatClampNeg (!decide (j131 = (0 : Int32)))) j125.toNatClampNeg (!decide (j134 = (0 : Int32)))) T142.heap n0 Z142 P142_0 g_a136 P139_1 P139_2 P139_5 P139_6 P139_7 P142_1 b_vq.1 b_vq.2) e159 (lenOf pd_0 rfl) (hb hby at_359) (by rw [hml]; rfl) rfl (Nat.le_of_eq rfl) (by decide) (by decide) (by decide) (by decide) ?_
                intro v160 T160 L160 X160 q160
                obtain ⟨r160, rfl, M160, e160, P160_0⟩ := q160
                have N160 := Fr.app N159 M160
                show Go _ _ _ _ T160 (mkF m 362 #[.val (.int p0), .val (.int p1), .val (.int p2), .val (.int p3), .val (.int p4), .val (.int vx), .val (.int j122), .val (.int j125), .val (.int vq), .val (.int j128), .val (.int j131), .val (.int j134), .val (.ref a136), .val (.int j134), .val (.int j144), .val (.int j148), .val (.int (1 : Int32)), .val (.int (F_nxt (F_nxt (F_nxt (-1 : Int32) j148 vx vq) j144 j122 vq) j134 j125 vq)), .val (.int (F_prv (F_prv (F_prv (-1 : Int32) j148 vx vq) j144 j122 vq) j134 j125 vq))] [(.int r160)]) _ _ _
                refine Go.iload X160 hx (hb hby at_362) rfl ?_
                show Go _ _ _ _ T160 (mkF m 364 #[.val (.int p0), .val (.int p1), .val (.int p2), .val (.int p3), .val (.int p4), .val (.int vx), .val (.int j122), .val (.int j125), .val (.int vq), .val (.int j128), .val (.int j131), .val (.int j134), .val (.ref a136), .val (.int j134), .val (.int j144), .val (.int j148), .val (.int (1 : Int32)), .val (.int (F_nxt (F_nxt (F_nxt (-1 : Int32) j148 vx vq) j144 j122 vq) j134 j125 vq)), .val (.int (F_prv (F_prv (F_prv (-1 : Int32) j148 vx vq) j144 j122 vq) j134 j125 vq))] [(.int (F_prv (F_prv (F_prv (-1 : Int32) j148 vx vq) j144 j122 vq) j134 j125 vq)), (.int r160)]) _ _ _
                refine Go.icmpNo X160 hx (hb hby at_364) (XT.ii_ne_f (bsp_ps (bsp_step (bsp_step (bsp_step (Or.inl ⟨rfl, fun _ z => nomatch z⟩) b_vq.1 b_vx.1 b_vx.2 (by rw [g_j148]; exact m3_x b_vx.1 b_j122.1 b_j125.1)) b_vq.1 b_j122.1 b_j122.2 (by rw [g_j144]; exact m3_y b_j122.1 b_j125.1)) b_vq.1 b_j125.1 b_j125.2 (m3_z _ _ _ _ _ _)) (fun n h => m3_only h) P160_0)) ?_
                show Go _ _ _ _ T160 (mkF m 367 #[.val (.int p0), .val (.int p1), .val (.int p2), .val (.int p3), .val (.int p4), .val (.int vx), .val (.int j122), .val (.int j125), .val (.int vq), .val (.int j128), .val (.int j131), .val (.int j134), .val (.ref a136), .val (.int j134), .val (.int j144), .val (.int j148), .val (.int (1 : Int32)), .val (.int (F_nxt (F_nxt (F_nxt (-1 : Int32) j148 vx vq) j144 j122 vq) j134 j125 vq)), .val (.int (F_prv (F_prv (F_prv (-1 : Int32) j148 vx vq) j144 j122 vq) j134 j125 vq))] []) _ _ _
                refine Go.iconst X160 hx (hb hby at_367) ?_
                show Go _ _ _ _ T160 (mkF m 368 #[.val (.int p0), .val (.int p1), .val (.int p2), .val (.int p3), .val (.int p4), .val (.int vx), .val (.int j122), .val (.int j125), .val (.int vq), .val (.int j128), .val (.int j131), .val (.int j134), .val (.ref a136), .val (.int j134), .val (.int j144), .val (.int j148), .val (.int (1 : Int32)), .val (.int (F_nxt (F_nxt (F_nxt (-1 : Int32) j148 vx vq) j144 j122 vq) j134 j125 vq)), .val (.int (F_prv (F_prv (F_prv (-1 : Int32) j148 vx vq) j144 j122 vq) j134 j125 vq))] [(.int (1 : Int32))]) _ _ _
                refine Go.goto X160 hx (hb hby at_368) (pc' := 372) (by decide) (by decide) ?_
                show Go _ _ _ _ T160 (mkF m 372 #[.val (.int p0), .val (.int p1), .val (.int p2), .val (.int p3), .val (.int p4), .val (.int vx), .val (.int j122), .val (.int j125), .val (.int vq), .val (.int j128), .val (.int j131), .val (.int j134), .val (.ref a136), .val (.int j134), .val (.int j144), .val (.int j148), .val (.int (1 : Int32)), .val (.int (F_nxt (F_nxt (F_nxt (-1 : Int32) j148 vx vq) j144 j122 vq) j134 j125 vq)), .val (.int (F_prv (F_prv (F_prv (-1 : Int32) j148 vx vq) j144 j122 vq) j134 j125 vq))] [(.int (1 : Int32))]) _ _ _
                refine Go.retZ X160 hx hlk hret (by decide) (hb hby at_372) (by decide) (by decide) ?_
                rw [e160]
                exact ⟨rfl, N160⟩
              rcases Decidable.em (vx = j125) with c161 | c161
              · refine Go.icmpNo X142 hx (hb hby at_187) (XT.ii_ne_f c161) ?_
                show Go _ _ _ _ T142 (mkF m 190 #[.val (.int p0), .val (.int p1), .val (.int p2), .val (.int p3), .val (.int p4), .val (.int vx), .val (.int j122), .val (.int j125), .val (.int vq), .val (.int j128), .val (.int j131), .val (.int j134), .val (.ref a136), .val (.int j134), .val (.int j144), .unset, .unset, .unset, .unset] []) _ _ _
                refine Go.iload X142 hx (hb hby at_190) rfl ?_
                show Go _ _ _ _ T142 (mkF m 192 #[.val (.int p0), .val (.int p1), .val (.int p2), .val (.int p3), .val (.int p4), .val (.int vx), .val (.int j122), .val (.int j125), .val (.int vq), .val (.int j128), .val (.int j131), .val (.int j134), .val (.ref a136), .val (.int j134), .val (.int j144), .unset, .unset, .unset, .unset] [(.int j134)]) _ _ _
                refine Go.goto X142 hx (hb hby at_192) (pc' := 209) (by decide) (by decide) ?_
                show Go _ _ _ _ T142 (mkF m 209 #[.val (.int p0), .val (.int p1), .val (.int p2), .val (.int p3), .val (.int p4), .val (.int vx), .val (.int j122), .val (.int j125), .val (.int vq), .val (.int j128), .val (.int j131), .val (.int j134), .val (.ref a136), .val (.int j134), .val (.int j144), .unset, .unset, .unset, .unset] [(.int j134)]) _ _ _
                exact J149 _ (by rw [if_pos c161])
              · refine Go.icmpYes X142 hx (hb hby at_187) (XT.ii_ne_t c161) (pc' := 195) (by decide) (by decide) ?_
                show Go _ _ _ _ T142 (mkF m 195 #[.val (.int p0), .val (.int p1), .val (.int p2), .val (.int p3), .val (.int p4), .val (.int vx), .val (.int j122), .val (.int j125), .val (.int vq), .val (.int j128), .val (.int j131), .val (.int j134), .val (.ref a136), .val (.int j134), .val (.int j144), .unset, .unset, .unset, .unset] []) _ _ _
                refine Go.iload X142 hx (hb hby at_195) rfl ?_
                show Go _ _ _ _ T142 (mkF m 197 #[.val (.int p0), .val (.int p1), .val (.int p2), .val (.int p3), .val (.int p4), .val (.int vx), .val (.int j122), .val (.int j125), .val (.int vq), .val (.int j128), .val (.int j131), .val (.int j134), .val (.ref a136), .val (.int j134), .val (.int j144), .unset, .unset, .unset, .unset] [(.int vx)]) _ _ _
                refine Go.iload X142 hx (hb hby at_197) rfl ?_
                show Go _ _ _ _ T142 (mkF m 199 #[.val (.int p0), .val (.int p1), .val (.int p2), .val (.int p3), .val (.int p4), .val (.int vx), .val (.int j122), .val (.int j125), .val (.int vq), .val (.int j128), .val (.int j131), .val (.int j134), .val (.ref a136), .val (.int j134), .val (.int j144), .unset, .unset, .unset, .unset] [(.int j122), (.int vx)]) _ _ _
                rcases Decidable.em (vx = j122) with c162 | c162
                · refine Go.icmpNo X142 hx (hb hby at_199) (XT.ii_ne_f c162) ?_
                  show Go _ _ _ _ T142 (mkF m 202 #[.val (.int p0), .val (.int p1), .val (.int p2), .val (.int p3), .val (.int p4), .val (.int vx), .val (.int j122), .val (.int j125), .val (.int vq), .val (.int j128), .val (.int j131), .val (.int j134), .val (.ref a136), .val (.int j134), .val (.int j144), .unset, .unset, .unset, .unset] []) _ _ _
                  refine Go.iload X142 hx (hb hby at_202) rfl ?_
                  show Go _ _ _ _ T142 (mkF m 204 #[.val (.int p0), .val (.int p1), .val (.int p2), .val (.int p3), .val (.int p4), .val (.int vx), .val (.int j122), .val (.int j125), .val (.int vq), .val (.int j128), .val (.int j131), .val (.int j134), .val (.ref a136), .val (.int j134), .val (.int j144), .unset, .unset, .unset, .unset] [(.int j131)]) _ _ _
                  refine Go.goto X142 hx (hb hby at_204) (pc' := 209) (by decide) (by decide) ?_
                  show Go _ _ _ _ T142 (mkF m 209 #[.val (.int p0), .val (.int p1), .val (.int p2), .val (.int p3), .val (.int p4), .val (.int vx), .val (.int j122), .val (.int j125), .val (.int vq), .val (.int j128), .val (.int j131), .val (.int j134), .val (.ref a136), .val (.int j134), .val (.int j144), .unset, .unset, .unset, .unset] [(.int j131)]) _ _ _
                  exact J149 _ (by rw [if_neg c161]; rw [if_pos c162])
                · refine Go.icmpYes X142 hx (hb hby at_199) (XT.ii_ne_t c162) (pc' := 207) (by decide) (by decide) ?_
                  show Go _ _ _ _ T142 (mkF m 207 #[.val (.int p0), .val (.int p1), .val (.int p2), .val (.int p3), .val (.int p4), .val (.int vx), .val (.int j122), .val (.int j125), .val (.int vq), .val (.int j128), .val (.int j131), .val (.int j134), .val (.ref a136), .val (.int j134), .val (.int j144), .unset, .unset, .unset, .unset] []) _ _ _
                  refine Go.iload X142 hx (hb hby at_207) rfl ?_
                  show Go _ _ _ _ T142 (mkF m 209 #[.val (.int p0), .val (.int p1), .val (.int p2), .val (.int p3), .val (.int p4), .val (.int vx), .val (.int j122), .val (.int j125), .val (.int vq), .val (.int j128), .val (.int j131), .val (.int j134), .val (.ref a136), .val (.int j134), .val (.int j144), .unset, .unset, .unset, .unset] [(.int j128)]) _ _ _
                  exact J149 _ (by rw [if_neg c161]; rw [if_neg c162])
            rcases Decidable.em (j122 = j125) with c163 | c163
            · refine Go.icmpNo X142 hx (hb hby at_171) (XT.ii_ne_f c163) ?_
              show Go _ _ _ _ T142 (mkF m 174 #[.val (.int p0), .val (.int p1), .val (.int p2), .val (.int p3), .val (.int p4), .val (.int vx), .val (.int j122), .val (.int j125), .val (.int vq), .val (.int j128), .val (.int j131), .val (.int j134), .val (.ref a136), .val (.int j134), .unset, .unset, .unset, .unset, .unset] []) _ _ _
              refine Go.iload X142 hx (hb hby at_174) rfl ?_
              show Go _ _ _ _ T142 (mkF m 176 #[.val (.int p0), .val (.int p1), .val (.int p2), .val (.int p3), .val (.int p4), .val (.int vx), .val (.int j122), .val (.int j125), .val (.int vq), .val (.int j128), .val (.int j131), .val (.int j134), .val (.ref a136), .val (.int j134), .unset, .unset, .unset, .unset, .unset] [(.int j134)]) _ _ _
              refine Go.goto X142 hx (hb hby at_176) (pc' := 181) (by decide) (by decide) ?_
              show Go _ _ _ _ T142 (mkF m 181 #[.val (.int p0), .val (.int p1), .val (.int p2), .val (.int p3), .val (.int p4), .val (.int vx), .val (.int j122), .val (.int j125), .val (.int vq), .val (.int j128), .val (.int j131), .val (.int j134), .val (.ref a136), .val (.int j134), .unset, .unset, .unset, .unset, .unset] [(.int j134)]) _ _ _
              exact J145 _ (by rw [if_pos c163])
            · refine Go.icmpYes X142 hx (hb hby at_171) (XT.ii_ne_t c163) (pc' := 179) (by decide) (by decide) ?_
              show Go _ _ _ _ T142 (mkF m 179 #[.val (.int p0), .val (.int p1), .val (.int p2), .val (.int p3), .val (.int p4), .val (.int vx), .val (.int j122), .val (.int j125), .val (.int vq), .val (.int j128), .val (.int j131), .val (.int j134), .val (.ref a136), .val (.int j134), .unset, .unset, .unset, .unset, .unset] []) _ _ _
              refine Go.iload X142 hx (hb hby at_179) rfl ?_
              show Go _ _ _ _ T142 (mkF m 181 #[.val (.int p0), .val (.int p1), .val (.int p2), .val (.int p3), .val (.int p4), .val (.int vx), .val (.int j122), .val (.int j125), .val (.int vq), .val (.int j128), .val (.int j131), .val (.int j134), .val (.ref a136), .val (.int j134), .unset, .unset, .unset, .unset, .unset] [(.int j131)]) _ _ _
              exact J145 _ (by rw [if_neg c163])
          rcases Decidable.em ((p4 &&& (4 : Int32)) = (0 : Int32)) with c164 | c164
          · refine Go.ifYes X0 hx (hb hby at_114) (XT.i0_eq_t c164) (pc' := 121) (by decide) (by decide) ?_
            show Go _ _ _ _ s₁ (mkF m 121 #[.val (.int p0), .val (.int p1), .val (.int p2), .val (.int p3), .val (.int p4), .val (.int vx), .val (.int j122), .val (.int j125), .val (.int vq), .val (.int j128), .val (.int j131), .unset, .unset, .unset, .unset, .unset, .unset, .unset, .unset] []) _ _ _
            refine Go.iconst X0 hx (hb hby at_121) ?_
            show Go _ _ _ _ s₁ (mkF m 122 #[.val (.int p0), .val (.int p1), .val (.int p2), .val (.int p3), .val (.int p4), .val (.int vx), .val (.int j122), .val (.int j125), .val (.int vq), .val (.int j128), .val (.int j131), .unset, .unset, .unset, .unset, .unset, .unset, .unset, .unset] [(.int (0 : Int32))]) _ _ _
            exact J135 _ (by rw [if_pos c164])
          · refine Go.ifNo X0 hx (hb hby at_114) (XT.i0_eq_f c164) ?_
            show Go _ _ _ _ s₁ (mkF m 117 #[.val (.int p0), .val (.int p1), .val (.int p2), .val (.int p3), .val (.int p4), .val (.int vx), .val (.int j122), .val (.int j125), .val (.int vq), .val (.int j128), .val (.int j131), .unset, .unset, .unset, .unset, .unset, .unset, .unset, .unset] []) _ _ _
            refine Go.iconst X0 hx (hb hby at_117) ?_
            show Go _ _ _ _ s₁ (mkF m 118 #[.val (.int p0), .val (.int p1), .val (.int p2), .val (.int p3), .val (.int p4), .val (.int vx), .val (.int j122), .val (.int j125), .val (.int vq), .val (.int j128), .val (.int j131), .unset, .unset, .unset, .unset, .unset, .unset, .unset, .unset] [(.int (1 : Int32))]) _ _ _
            refine Go.goto X0 hx (hb hby at_118) (pc' := 122) (by decide) (by decide) ?_
            show Go _ _ _ _ s₁ (mkF m 122 #[.val (.int p0), .val (.int p1), .val (.int p2), .val (.int p3), .val (.int p4), .val (.int vx), .val (.int j122), .val (.int j125), .val (.int vq), .val (.int j128), .val (.int j131), .unset, .unset, .unset, .unset, .unset, .unset, .unset, .unset] [(.int (1 : Int32))]) _ _ _
            exact J135 _ (by rw [if_neg c164])
        rcases Decidable.em ((p4 &&& (2 : Int32)) = (0 : Int32)) with c165 | c165
        · refine Go.ifYes X0 hx (hb hby at_100) (XT.i0_eq_t c165) (pc' := 107) (by decide) (by decide) ?_
          show Go _ _ _ _ s₁ (mkF m 107 #[.val (.int p0), .val (.int p1), .val (.int p2), .val (.int p3), .val (.int p4), .val (.int vx), .val (.int j122), .val (.int j125), .val (.int vq), .val (.int j128), .unset, .unset, .unset, .unset, .unset, .unset, .unset, .unset, .unset] []) _ _ _
          refine Go.iconst X0 hx (hb hby at_107) ?_
          show Go _ _ _ _ s₁ (mkF m 108 #[.val (.int p0), .val (.int p1), .val (.int p2), .val (.int p3), .val (.int p4), .val (.int vx), .val (.int j122), .val (.int j125), .val (.int vq), .val (.int j128), .unset, .unset, .unset, .unset, .unset, .unset, .unset, .unset, .unset] [(.int (0 : Int32))]) _ _ _
          exact J132 _ (by rw [if_pos c165])
        · refine Go.ifNo X0 hx (hb hby at_100) (XT.i0_eq_f c165) ?_
          show Go _ _ _ _ s₁ (mkF m 103 #[.val (.int p0), .val (.int p1), .val (.int p2), .val (.int p3), .val (.int p4), .val (.int vx), .val (.int j122), .val (.int j125), .val (.int vq), .val (.int j128), .unset, .unset, .unset, .unset, .unset, .unset, .unset, .unset, .unset] []) _ _ _
          refine Go.iconst X0 hx (hb hby at_103) ?_
          show Go _ _ _ _ s₁ (mkF m 104 #[.val (.int p0), .val (.int p1), .val (.int p2), .val (.int p3), .val (.int p4), .val (.int vx), .val (.int j122), .val (.int j125), .val (.int vq), .val (.int j128), .unset, .unset, .unset, .unset, .unset, .unset, .unset, .unset, .unset] [(.int (1 : Int32))]) _ _ _
          refine Go.goto X0 hx (hb hby at_104) (pc' := 108) (by decide) (by decide) ?_
          show Go _ _ _ _ s₁ (mkF m 108 #[.val (.int p0), .val (.int p1), .val (.int p2), .val (.int p3), .val (.int p4), .val (.int vx), .val (.int j122), .val (.int j125), .val (.int vq), .val (.int j128), .unset, .unset, .unset, .unset, .unset, .unset, .unset, .unset, .unset] [(.int (1 : Int32))]) _ _ _
          exact J132 _ (by rw [if_neg c165])
      rcases Decidable.em ((p4 &&& (1 : Int32)) = (0 : Int32)) with c166 | c166
      · refine Go.ifYes X0 hx (hb hby at_86) (XT.i0_eq_t c166) (pc' := 93) (by decide) (by decide) ?_
        show Go _ _ _ _ s₁ (mkF m 93 #[.val (.int p0), .val (.int p1), .val (.int p2), .val (.int p3), .val (.int p4), .val (.int vx), .val (.int j122), .val (.int j125), .val (.int vq), .unset, .unset, .unset, .unset, .unset, .unset, .unset, .unset, .unset, .unset] []) _ _ _
        refine Go.iconst X0 hx (hb hby at_93) ?_
        show Go _ _ _ _ s₁ (mkF m 94 #[.val (.int p0), .val (.int p1), .val (.int p2), .val (.int p3), .val (.int p4), .val (.int vx), .val (.int j122), .val (.int j125), .val (.int vq), .unset, .unset, .unset, .unset, .unset, .unset, .unset, .unset, .unset, .unset] [(.int (0 : Int32))]) _ _ _
        exact J129 _ (by rw [if_pos c166])
      · refine Go.ifNo X0 hx (hb hby at_86) (XT.i0_eq_f c166) ?_
        show Go _ _ _ _ s₁ (mkF m 89 #[.val (.int p0), .val (.int p1), .val (.int p2), .val (.int p3), .val (.int p4), .val (.int vx), .val (.int j122), .val (.int j125), .val (.int vq), .unset, .unset, .unset, .unset, .unset, .unset, .unset, .unset, .unset, .unset] []) _ _ _
        refine Go.iconst X0 hx (hb hby at_89) ?_
        show Go _ _ _ _ s₁ (mkF m 90 #[.val (.int p0), .val (.int p1), .val (.int p2), .val (.int p3), .val (.int p4), .val (.int vx), .val (.int j122), .val (.int j125), .val (.int vq), .unset, .unset, .unset, .unset, .unset, .unset, .unset, .unset, .unset, .unset] [(.int (1 : Int32))]) _ _ _
        refine Go.goto X0 hx (hb hby at_90) (pc' := 94) (by decide) (by decide) ?_
        show Go _ _ _ _ s₁ (mkF m 94 #[.val (.int p0), .val (.int p1), .val (.int p2), .val (.int p3), .val (.int p4), .val (.int vx), .val (.int j122), .val (.int j125), .val (.int vq), .unset, .unset, .unset, .unset, .unset, .unset, .unset, .unset, .unset, .unset] [(.int (1 : Int32))]) _ _ _
        exact J129 _ (by rw [if_neg c166])
    rcases Decidable.em ((p4 &&& (16 : Int32)) = (0 : Int32)) with c167 | c167
    · refine Go.ifYes X0 hx (hb hby at_46) (XT.i0_eq_t c167) (pc' := 62) (by decide) (by decide) ?_
      show Go _ _ _ _ s₁ (mkF m 62 #[.val (.int p0), .val (.int p1), .val (.int p2), .val (.int p3), .val (.int p4), .val (.int vx), .val (.int j122), .unset, .unset, .unset, .unset, .unset, .unset, .unset, .unset, .unset, .unset, .unset, .unset] []) _ _ _
      refine Go.iloadN X0 hx (hb hby at_62) rfl ?_
      show Go _ _ _ _ s₁ (mkF m 63 #[.val (.int p0), .val (.int p1), .val (.int p2), .val (.int p3), .val (.int p4), .val (.int vx), .val (.int j122), .unset, .unset, .unset, .unset, .unset, .unset, .unset, .unset, .unset, .unset, .unset, .unset] [(.int p2)]) _ _ _
      refine Go.ldc X0 hx hZ hown (w0 hw) (hb hby at_63) ?_
      show Go _ _ _ _ s₁ (mkF m 65 #[.val (.int p0), .val (.int p1), .val (.int p2), .val (.int p3), .val (.int p4), .val (.int vx), .val (.int j122), .unset, .unset, .unset, .unset, .unset, .unset, .unset, .unset, .unset, .unset, .unset, .unset] [(.int (2147483647 : Int32)), (.int p2)]) _ _ _
      refine Go.iand X0 hx (hb hby at_65) ?_
      show Go _ _ _ _ s₁ (mkF m 66 #[.val (.int p0), .val (.int p1), .val (.int p2), .val (.int p3), .val (.int p4), .val (.int vx), .val (.int j122), .unset, .unset, .unset, .unset, .unset, .unset, .unset, .unset, .unset, .unset, .unset, .unset] [(.int (p2 &&& (2147483647 : Int32)))]) _ _ _
      refine Go.sipush X0 hx (hb hby at_66) ?_
      show Go _ _ _ _ s₁ (mkF m 69 #[.val (.int p0), .val (.int p1), .val (.int p2), .val (.int p3), .val (.int p4), .val (.int vx), .val (.int j122), .unset, .unset, .unset, .unset, .unset, .unset, .unset, .unset, .unset, .unset, .unset, .unset] [(.int (8192 : Int32)), (.int (p2 &&& (2147483647 : Int32)))]) _ _ _
      refine Go.irem X0 hx (hb hby at_69) (by decide) ?_
      show Go _ _ _ _ s₁ (mkF m 70 #[.val (.int p0), .val (.int p1), .val (.int p2), .val (.int p3), .val (.int p4), .val (.int vx), .val (.int j122), .unset, .unset, .unset, .unset, .unset, .unset, .unset, .unset, .unset, .unset, .unset, .unset] [(.int ((p2 &&& (2147483647 : Int32)) % (8192 : Int32)))]) _ _ _
      exact J126 _ (by rw [if_pos c167])
    · refine Go.ifNo X0 hx (hb hby at_46) (XT.i0_eq_f c167) ?_
      show Go _ _ _ _ s₁ (mkF m 49 #[.val (.int p0), .val (.int p1), .val (.int p2), .val (.int p3), .val (.int p4), .val (.int vx), .val (.int j122), .unset, .unset, .unset, .unset, .unset, .unset, .unset, .unset, .unset, .unset, .unset, .unset] []) _ _ _
      refine Go.iload X0 hx (hb hby at_49) rfl ?_
      show Go _ _ _ _ s₁ (mkF m 51 #[.val (.int p0), .val (.int p1), .val (.int p2), .val (.int p3), .val (.int p4), .val (.int vx), .val (.int j122), .unset, .unset, .unset, .unset, .unset, .unset, .unset, .unset, .unset, .unset, .unset, .unset] [(.int j122)]) _ _ _
      refine Go.bipush X0 hx (hb hby at_51) ?_
      show Go _ _ _ _ s₁ (mkF m 53 #[.val (.int p0), .val (.int p1), .val (.int p2), .val (.int p3), .val (.int p4), .val (.int vx), .val (.int j122), .unset, .unset, .unset, .unset, .unset, .unset, .unset, .unset, .unset, .unset, .unset, .unset] [(.int (-64 : Int32)), (.int j122)]) _ _ _
      refine Go.iand X0 hx (hb hby at_53) ?_
      show Go _ _ _ _ s₁ (mkF m 54 #[.val (.int p0), .val (.int p1), .val (.int p2), .val (.int p3), .val (.int p4), .val (.int vx), .val (.int j122), .unset, .unset, .unset, .unset, .unset, .unset, .unset, .unset, .unset, .unset, .unset, .unset] [(.int (j122 &&& (-64 : Int32)))]) _ _ _
      refine Go.iloadN X0 hx (hb hby at_54) rfl ?_
      show Go _ _ _ _ s₁ (mkF m 55 #[.val (.int p0), .val (.int p1), .val (.int p2), .val (.int p3), .val (.int p4), .val (.int vx), .val (.int j122), .unset, .unset, .unset, .unset, .unset, .unset, .unset, .unset, .unset, .unset, .unset, .unset] [(.int p2), (.int (j122 &&& (-64 : Int32)))]) _ _ _
      refine Go.bipush X0 hx (hb hby at_55) ?_
      show Go _ _ _ _ s₁ (mkF m 57 #[.val (.int p0), .val (.int p1), .val (.int p2), .val (.int p3), .val (.int p4), .val (.int vx), .val (.int j122), .unset, .unset, .unset, .unset, .unset, .unset, .unset, .unset, .unset, .unset, .unset, .unset] [(.int (63 : Int32)), (.int p2), (.int (j122 &&& (-64 : Int32)))]) _ _ _
      refine Go.iand X0 hx (hb hby at_57) ?_
      show Go _ _ _ _ s₁ (mkF m 58 #[.val (.int p0), .val (.int p1), .val (.int p2), .val (.int p3), .val (.int p4), .val (.int vx), .val (.int j122), .unset, .unset, .unset, .unset, .unset, .unset, .unset, .unset, .unset, .unset, .unset, .unset] [(.int (p2 &&& (63 : Int32))), (.int (j122 &&& (-64 : Int32)))]) _ _ _
      refine Go.ior X0 hx (hb hby at_58) ?_
      show Go _ _ _ _ s₁ (mkF m 59 #[.val (.int p0), .val (.int p1), .val (.int p2), .val (.int p3), .val (.int p4), .val (.int vx), .val (.int j122), .unset, .unset, .unset, .unset, .unset, .unset, .unset, .unset, .unset, .unset, .unset, .unset] [(.int ((j122 &&& (-64 : Int32)) ||| (p2 &&& (63 : Int32))))]) _ _ _
      refine Go.goto X0 hx (hb hby at_59) (pc' := 70) (by decide) (by decide) ?_
      show Go _ _ _ _ s₁ (mkF m 70 #[.val (.int p0), .val (.int p1), .val (.int p2), .val (.int p3), .val (.int p4), .val (.int vx), .val (.int j122), .unset, .unset, .unset, .unset, .unset, .unset, .unset, .unset, .unset, .unset, .unset, .unset] [(.int ((j122 &&& (-64 : Int32)) ||| (p2 &&& (63 : Int32))))]) _ _ _
      exact J126 _ (by rw [if_neg c167])
  rcases Decidable.em ((p4 &&& (8 : Int32)) = (0 : Int32)) with c168 | c168
  · refine Go.ifYes X0 hx (hb hby at_15) (XT.i0_eq_t c168) (pc' := 31) (by decide) (by decide) ?_
    show Go _ _ _ _ s₁ (mkF m 31 #[.val (.int p0), .val (.int p1), .val (.int p2), .val (.int p3), .val (.int p4), .val (.int vx), .unset, .unset, .unset, .unset, .unset, .unset, .unset, .unset, .unset, .unset, .unset, .unset, .unset] []) _ _ _
    refine Go.iloadN X0 hx (hb hby at_31) rfl ?_
    show Go _ _ _ _ s₁ (mkF m 32 #[.val (.int p0), .val (.int p1), .val (.int p2), .val (.int p3), .val (.int p4), .val (.int vx), .unset, .unset, .unset, .unset, .unset, .unset, .unset, .unset, .unset, .unset, .unset, .unset, .unset] [(.int p1)]) _ _ _
    refine Go.ldc X0 hx hZ hown (w0 hw) (hb hby at_32) ?_
    show Go _ _ _ _ s₁ (mkF m 34 #[.val (.int p0), .val (.int p1), .val (.int p2), .val (.int p3), .val (.int p4), .val (.int vx), .unset, .unset, .unset, .unset, .unset, .unset, .unset, .unset, .unset, .unset, .unset, .unset, .unset] [(.int (2147483647 : Int32)), (.int p1)]) _ _ _
    refine Go.iand X0 hx (hb hby at_34) ?_
    show Go _ _ _ _ s₁ (mkF m 35 #[.val (.int p0), .val (.int p1), .val (.int p2), .val (.int p3), .val (.int p4), .val (.int vx), .unset, .unset, .unset, .unset, .unset, .unset, .unset, .unset, .unset, .unset, .unset, .unset, .unset] [(.int (p1 &&& (2147483647 : Int32)))]) _ _ _
    refine Go.sipush X0 hx (hb hby at_35) ?_
    show Go _ _ _ _ s₁ (mkF m 38 #[.val (.int p0), .val (.int p1), .val (.int p2), .val (.int p3), .val (.int p4), .val (.int vx), .unset, .unset, .unset, .unset, .unset, .unset, .unset, .unset, .unset, .unset, .unset, .unset, .unset] [(.int (8192 : Int32)), (.int (p1 &&& (2147483647 : Int32)))]) _ _ _
    refine Go.irem X0 hx (hb hby at_38) (by decide) ?_
    show Go _ _ _ _ s₁ (mkF m 39 #[.val (.int p0), .val (.int p1), .val (.int p2), .val (.int p3), .val (.int p4), .val (.int vx), .unset, .unset, .unset, .unset, .unset, .unset, .unset, .unset, .unset, .unset, .unset, .unset, .unset] [(.int ((p1 &&& (2147483647 : Int32)) % (8192 : Int32)))]) _ _ _
    exact J123 _ (by rw [if_pos c168])
  · refine Go.ifNo X0 hx (hb hby at_15) (XT.i0_eq_f c168) ?_
    show Go _ _ _ _ s₁ (mkF m 18 #[.val (.int p0), .val (.int p1), .val (.int p2), .val (.int p3), .val (.int p4), .val (.int vx), .unset, .unset, .unset, .unset, .unset, .unset, .unset, .unset, .unset, .unset, .unset, .unset, .unset] []) _ _ _
    refine Go.iload X0 hx (hb hby at_18) rfl ?_
    show Go _ _ _ _ s₁ (mkF m 20 #[.val (.int p0), .val (.int p1), .val (.int p2), .val (.int p3), .val (.int p4), .val (.int vx), .unset, .unset, .unset, .unset, .unset, .unset, .unset, .unset, .unset, .unset, .unset, .unset, .unset] [(.int vx)]) _ _ _
    refine Go.bipush X0 hx (hb hby at_20) ?_
    show Go _ _ _ _ s₁ (mkF m 22 #[.val (.int p0), .val (.int p1), .val (.int p2), .val (.int p3), .val (.int p4), .val (.int vx), .unset, .unset, .unset, .unset, .unset, .unset, .unset, .unset, .unset, .unset, .unset, .unset, .unset] [(.int (-64 : Int32)), (.int vx)]) _ _ _
    refine Go.iand X0 hx (hb hby at_22) ?_
    show Go _ _ _ _ s₁ (mkF m 23 #[.val (.int p0), .val (.int p1), .val (.int p2), .val (.int p3), .val (.int p4), .val (.int vx), .unset, .unset, .unset, .unset, .unset, .unset, .unset, .unset, .unset, .unset, .unset, .unset, .unset] [(.int (vx &&& (-64 : Int32)))]) _ _ _
    refine Go.iloadN X0 hx (hb hby at_23) rfl ?_
    show Go _ _ _ _ s₁ (mkF m 24 #[.val (.int p0), .val (.int p1), .val (.int p2), .val (.int p3), .val (.int p4), .val (.int vx), .unset, .unset, .unset, .unset, .unset, .unset, .unset, .unset, .unset, .unset, .unset, .unset, .unset] [(.int p1), (.int (vx &&& (-64 : Int32)))]) _ _ _
    refine Go.bipush X0 hx (hb hby at_24) ?_
    show Go _ _ _ _ s₁ (mkF m 26 #[.val (.int p0), .val (.int p1), .val (.int p2), .val (.int p3), .val (.int p4), .val (.int vx), .unset, .unset, .unset, .unset, .unset, .unset, .unset, .unset, .unset, .unset, .unset, .unset, .unset] [(.int (63 : Int32)), (.int p1), (.int (vx &&& (-64 : Int32)))]) _ _ _
    refine Go.iand X0 hx (hb hby at_26) ?_
    show Go _ _ _ _ s₁ (mkF m 27 #[.val (.int p0), .val (.int p1), .val (.int p2), .val (.int p3), .val (.int p4), .val (.int vx), .unset, .unset, .unset, .unset, .unset, .unset, .unset, .unset, .unset, .unset, .unset, .unset, .unset] [(.int (p1 &&& (63 : Int32))), (.int (vx &&& (-64 : Int32)))]) _ _ _
    refine Go.ior X0 hx (hb hby at_27) ?_
    show Go _ _ _ _ s₁ (mkF m 28 #[.val (.int p0), .val (.int p1), .val (.int p2), .val (.int p3), .val (.int p4), .val (.int vx), .unset, .unset, .unset, .unset, .unset, .unset, .unset, .unset, .unset, .unset, .unset, .unset, .unset] [(.int ((vx &&& (-64 : Int32)) ||| (p1 &&& (63 : Int32))))]) _ _ _
    refine Go.goto X0 hx (hb hby at_28) (pc' := 39) (by decide) (by decide) ?_
    show Go _ _ _ _ s₁ (mkF m 39 #[.val (.int p0), .val (.int p1), .val (.int p2), .val (.int p3), .val (.int p4), .val (.int vx), .unset, .unset, .unset, .unset, .unset, .unset, .unset, .unset, .unset, .unset, .unset, .unset, .unset] [(.int ((vx &&& (-64 : Int32)) ||| (p1 &&& (63 : Int32))))]) _ _ _
    exact J123 _ (by rw [if_neg c168])
set_option maxRecDepth 65536 in
set_option maxHeartbeats 40000000 in
theorem comes_1 {Post : Tables → Env → Array Value → State → Outcome → State → Prop} (hpost : ∀ tb e args s v u, (limb_1_1.after args s (.returned v) u = true ∧ limb_1_2.after args s (.returned v) u = true ∧ True) → FrameEnd s (.returned v) u (Jvm.fieldLocs frame_1_writes args s ++ Jvm.arrayLocs frame_1_arrays args s ++ Jvm.staticLocs frame_1_statics s) 16 384 → Post tb e args s (.returned v) u) :
    ArmFor flags0 classFile x code maxLocals ret World_1 tables_1 room_1 Calls_1 rest_1 Pre_1 Post := by
  intro l hfl _ _ p e ha hc hk s m args below hf hA hF happ hP
  obtain ⟨hcalls, hrest, hpre⟩ := hP
  obtain ⟨-, -, -, hnamed, -, -, -, hat⟩ := (Spec.applies_iff hf).mp happ
  obtain ⟨hg, hn⟩ := and_e (Cond.before_iff.mp (show (Jvm.Cond.and given_1 narrow_1).before args s = true from hpre))
  obtain ⟨hcount, hgs⟩ := and_e hg
  obtain ⟨hg0, hgr0⟩ := and_e hgs
  obtain ⟨hg1, hgr1⟩ := and_e hgr0
  obtain ⟨hg2, hgr2⟩ := and_e hgr1
  obtain ⟨hg3, hgr3⟩ := and_e hgr2
  obtain ⟨w0', w1', w2', w3', w4', rfl⟩ : ∃ w0' w1' w2' w3' w4' : Value, args = #[w0', w1', w2', w3', w4'] := by
    have hs : args.size = 5 := by simpa [Cond.value, given_1] using hcount
    obtain ⟨L⟩ := args
    match L, hs with
    | [w0', w1', w2', w3', w4'], _ => exact ⟨w0', w1', w2', w3', w4', rfl⟩
  have hw := fun d (hd : d ∈ tables_1) => atoms_spec (ws := Jvm.Cond.code x code maxLocals ret :: tables_1) hat d (List.mem_cons_of_mem _ hd)
  have hfit : Fit s := fun {y c} hc i hi => by
    obtain ⟨ha, rfl⟩ := Array.getElem?_eq_some_iff.mp hc
    have q := List.all_eq_true.mp ((Array.all_eq_true_iff_forall_mem.mp hF) _ (Array.getElem_mem ha)) i (List.mem_range.mpr hi)
    simpa [Array.getElem?_eq_getElem hi] using q
  obtain ⟨i0, ei0⟩ := is_v hg0
  obtain rfl : w0' = (.int i0) := Option.some.inj ei0
  obtain ⟨i1, ei1⟩ := is_v hg1
  obtain rfl : w1' = (.int i1) := Option.some.inj ei1
  obtain ⟨i2, ei2⟩ := is_v hg2
  obtain rfl : w2' = (.int i2) := Option.some.inj ei2
  obtain ⟨i3, ei3⟩ := is_v hg3
  obtain rfl : w3' = (.int i3) := Option.some.inj ei3
  obtain ⟨i4, ei4⟩ := is_v hgr3
  obtain rfl : w4' = (.int i4) := Option.some.inj ei4
  obtain ⟨n, o, h1, h2, h3, _, L, rfl, ⟨rfl, N⟩, hq⟩ := rm_law l s _ hw tables_1 i0 i1 i2 i3 i4 s.heap s.heap.size (Nat.le_refl _) p e ha hc hk s m _ below hf ((Spec.applies_iff_loose hf).mp happ).1 ⟨rfl, State.Warmed39.refl s, rfl⟩ trivial
  refine ⟨n, _, h1, h2, h3, hpost _ _ _ _ _ _ ⟨Cond.after_iff.mpr rfl, Cond.after_iff.mpr (eq_i res_at (Term.int_eval (1)) rfl), trivial⟩ ⟨hq.1, hq.2.1, (hq.2.2.sift fun y hy => Or.inr (N y hy)).mono (by decide) (by decide)⟩⟩
theorem main_1_1 : Claimed_1_1 := comes_1 fun _ _ _ _ _ _ h hF => ⟨h.1, hF⟩
theorem main_1_2 : Claimed_1_2 := comes_1 fun _ _ _ _ _ _ h hF => ⟨h.2.1, hF⟩
end Jvm.Pilot.@@N@@
namespace Jvm.Pilot.@@N@@
open Jvm Jvm.ClassFile Sem Op Lib Jvm.Free Jvm.Stand Jvm.Pilot.@@N@@.Jvm.D
/-! MADE BY PROGRAM (witnessworld.py) out of the Statement's table words and the real class files: 18 classes; the members and pool entries that the words name. The judged class is class 1, her method 1. -/
namespace start1
open Jvm.ClassFile
def u (s : String) : CpInfo := .utf8 (stringToUtf16 s)
/-- a pool by its gaps: so many unusable entries, then the entry; so many at the end -/
def gap : Nat → List CpInfo → List CpInfo
  | 0, r => r
  | n + 1, r => .unusable :: gap n r
def poolList (es : List (Nat × CpInfo)) (last : Nat) : List CpInfo := es.foldr (fun e r => gap e.1 (e.2 :: r)) (gap last [])
def pool (es : List (Nat × CpInfo)) (last : Nat) : Array CpInfo := ⟨poolList es last⟩
def fileOf (pool : Array CpInfo) (this : Nat) (attrs : Array Attribute := #[]) (ms : Array MethodInfo := #[]) (fl : Nat := 33) (sup : Nat := 0) (ifs : Array Nat := #[]) (fds : Array FieldInfo := #[]) : ClassFile where
  minorVersion := 0
  majorVersion := 65
  constantPool := pool
  accessFlags := fl
  thisClass := this
  superClass := sup
  interfaces := ifs
  fields := fds
  methods := ms
  attributes := attrs
def plain (name : String) (sup : Option ClassId) : Class where
  name := name
  kind := .ordinary
  loader := none
  accessFlags := 33
  super := sup
  interfaces := #[]
  cf := none
  fields := #[]
  methods := #[]
  instanceTypes := #[]
  staticTypes := #[]
  resolved := #[]
  callSites := []
  init := .initialized
  statics := none
  mirror := none

def pool0 : Array CpInfo := pool [(5, u "<init>"), (0, u "()V"), (1, .class_ 10), (1, u "java/lang/Object")] 113

def k0c0 : Code := { maxStack := 0, maxLocals := 1, code := object_method_1_code, exceptionTable := #[], attributes := #[] }
def k0m0 : Method := { name := "<init>", desc := "()V", sig := { parameters := [], returnType := none }, accessFlags := 1, code := some k0c0 }
/-- java/lang/Object -/
def k0 : Class := { plain "java/lang/Object" none with
  accessFlags := 33
  interfaces := #[]
  cf := some (fileOf pool0 8 #[] #[{ accessFlags := 1, nameIndex := 5, descriptorIndex := 6, attributes := #[] }] 33 0 #[] #[])
  fields := #[]
  methods := #[k0m0]
  instanceTypes := #[]
  staticTypes := #[]
  resolved := Array.replicate 124 none
  statics := none }

def pool1 : Array CpInfo := pool [(2, .class_ 4), (1, u "java/lang/Object"), (0, u "<init>"), (0, u "()V"), (0, .integer 2147483647), (0, .class_ 9), (0, u "com/example/collate/collate/analysis/Bits"), (0, .methodref 8 11), (0, .nameAndType 5 12), (0, u "(I)V"), (0, .methodref 8 14), (0, .nameAndType 15 16), (0, u "set"), (0, u "(IZ)V"), (0, .methodref 8 18), (0, .nameAndType 19 20), (0, u "get"), (0, u "(I)Z"), (0, .methodref 22 23), (0, .class_ 24), (0, .nameAndType 25 26), (0, u "com/example/collate/collate/analysis/BitsSetPinLaw"), (0, u "nxt"), (0, u "(IZII)I"), (0, .methodref 22 28), (0, .nameAndType 29 26), (0, u "prv"), (0, .methodref 8 31), (0, .nameAndType 32 33), (0, u "nextSetBit"), (0, u "(I)I"), (0, .methodref 8 35), (0, .nameAndType 36 33), (0, u "previousSetBit"), (2, u "law"), (0, u "(IIIII)Z")] 3

def k1m0 : Method := { name := "<init>", desc := "()V", sig := { parameters := [], returnType := none }, accessFlags := 1, code := none }
def k1c1 : Code := { maxStack := 4, maxLocals := 19, code := code, exceptionTable := #[], attributes := #[] }
def k1m1 : Method := { name := "law", desc := "(IIIII)Z", sig := { parameters := [.int, .int, .int, .int, .int], returnType := some .boolean }, accessFlags := 9, code := some k1c1 }
def k1c2 : Code := { maxStack := 2, maxLocals := 4, code := method_3_code, exceptionTable := #[], attributes := #[] }
def k1m2 : Method := { name := "nxt", desc := "(IZII)I", sig := { parameters := [.int, .boolean, .int, .int], returnType := some .int }, accessFlags := 10, code := some k1c2 }
def k1c3 : Code := { maxStack := 2, maxLocals := 4, code := method_4_code, exceptionTable := #[], attributes := #[] }
def k1m3 : Method := { name := "prv", desc := "(IZII)I", sig := { parameters := [.int, .boolean, .int, .int], returnType := some .int }, accessFlags := 10, code := some k1c3 }
/-- com/example/collate/collate/analysis/BitsSetPinLaw -/
def k1 : Class := { plain "com/example/collate/collate/analysis/BitsSetPinLaw" (some 0) with
  accessFlags := 49
  interfaces := #[]
  cf := some (fileOf pool1 22 #[] #[{ accessFlags := 1, nameIndex := 5, descriptorIndex := 6, attributes := #[] }, { accessFlags := 9, nameIndex := 39, descriptorIndex := 40, attributes := #[] }, { accessFlags := 10, nameIndex := 25, descriptorIndex := 26, attributes := #[] }, { accessFlags := 10, nameIndex := 29, descriptorIndex := 26, attributes := #[] }] 49 2 #[] #[])
  fields := #[]
  methods := #[k1m0, k1m1, k1m2, k1m3]
  instanceTypes := #[]
  staticTypes := #[]
  resolved := Array.replicate 44 none
  statics := none }

def pool2 : Array CpInfo := pool [(1, .methodref 2 3), (0, .class_ 4), (0, .nameAndType 5 6), (0, u "java/lang/Object"), (0, u "<init>"), (0, u "()V"), (0, .fieldref 8 9), (0, .class_ 10), (0, .nameAndType 11 12), (0, u "com/example/collate/collate/analysis/Bits"), (0, u "words"), (0, u "[J"), (0, .fieldref 8 14), (0, .nameAndType 15 12), (0, u "summary"), (0, .long 18446744073709551615), (7, .methodref 8 25), (0, .nameAndType 26 27), (0, u "nextWord"), (0, u "(I)I"), (0, .methodref 29 30), (0, .class_ 31), (0, .nameAndType 32 33), (0, u "java/lang/Long"), (0, u "numberOfTrailingZeros"), (0, u "(J)I"), (0, .methodref 35 36), (0, .class_ 37), (0, .nameAndType 38 39), (0, u "java/lang/Math"), (0, u "min"), (0, u "(II)I"), (0, .methodref 8 41), (0, .nameAndType 42 27), (0, u "previousWord"), (0, .methodref 29 44), (0, .nameAndType 45 33), (0, u "numberOfLeadingZeros"), (0, u "(I)V"), (2, u "get"), (0, u "(I)Z"), (1, u "set"), (0, u "(IZ)V"), (1, u "nextSetBit"), (0, u "previousSetBit")] 2

def k2c0 : Code := { maxStack := 3, maxLocals := 2, code := prog_9_method_1_code, exceptionTable := #[], attributes := #[] }
def k2m0 : Method := { name := "<init>", desc := "(I)V", sig := { parameters := [.int], returnType := none }, accessFlags := 0, code := some k2c0 }
def k2c1 : Code := { maxStack := 5, maxLocals := 2, code := prog_9_method_2_code, exceptionTable := #[], attributes := #[] }
def k2m1 : Method := { name := "get", desc := "(I)Z", sig := { parameters := [.int], returnType := some .boolean }, accessFlags := 0, code := some k2c1 }
def k2c2 : Code := { maxStack := 8, maxLocals := 4, code := prog_9_method_3_code, exceptionTable := #[], attributes := #[] }
def k2m2 : Method := { name := "set", desc := "(IZ)V", sig := { parameters := [.int, .boolean], returnType := none }, accessFlags := 0, code := some k2c2 }
def k2c3 : Code := { maxStack := 5, maxLocals := 5, code := prog_9_method_5_code, exceptionTable := #[], attributes := #[] }
def k2m3 : Method := { name := "nextSetBit", desc := "(I)I", sig := { parameters := [.int], returnType := some .int }, accessFlags := 0, code := some k2c3 }
def k2c4 : Code := { maxStack := 5, maxLocals := 5, code := prog_9_method_6_code, exceptionTable := #[], attributes := #[] }
def k2m4 : Method := { name := "nextWord", desc := "(I)I", sig := { parameters := [.int], returnType := some .int }, accessFlags := 2, code := some k2c4 }
def k2c5 : Code := { maxStack := 7, maxLocals := 5, code := prog_9_method_7_code, exceptionTable := #[], attributes := #[] }
def k2m5 : Method := { name := "previousSetBit", desc := "(I)I", sig := { parameters := [.int], returnType := some .int }, accessFlags := 0, code := some k2c5 }
def k2c6 : Code := { maxStack := 7, maxLocals := 5, code := prog_9_method_8_code, exceptionTable := #[], attributes := #[] }
def k2m6 : Method := { name := "previousWord", desc := "(I)I", sig := { parameters := [.int], returnType := some .int }, accessFlags := 2, code := some k2c6 }
/-- com/example/collate/collate/analysis/Bits -/
def k2 : Class := { plain "com/example/collate/collate/analysis/Bits" (some 0) with
  accessFlags := 32
  interfaces := #[]
  cf := some (fileOf pool2 8 #[] #[{ accessFlags := 0, nameIndex := 5, descriptorIndex := 46, attributes := #[] }, { accessFlags := 0, nameIndex := 49, descriptorIndex := 50, attributes := #[] }, { accessFlags := 0, nameIndex := 52, descriptorIndex := 53, attributes := #[] }, { accessFlags := 0, nameIndex := 55, descriptorIndex := 27, attributes := #[] }, { accessFlags := 2, nameIndex := 26, descriptorIndex := 27, attributes := #[] }, { accessFlags := 0, nameIndex := 56, descriptorIndex := 27, attributes := #[] }, { accessFlags := 2, nameIndex := 42, descriptorIndex := 27, attributes := #[] }] 32 2 #[] #[{ accessFlags := 18, nameIndex := 11, descriptorIndex := 12, attributes := #[] }, { accessFlags := 18, nameIndex := 15, descriptorIndex := 12, attributes := #[] }])
  fields := #[{ name := "words", type := (.array .long), accessFlags := 18, slot := 0, constantValue := 0 }, { name := "summary", type := (.array .long), accessFlags := 18, slot := 1, constantValue := 0 }]
  methods := #[k2m0, k2m1, k2m2, k2m3, k2m4, k2m5, k2m6]
  instanceTypes := #[(.array .long), (.array .long)]
  staticTypes := #[]
  resolved := Array.replicate 59 none
  statics := none }

def pool3 : Array CpInfo := pool [(1, .class_ 2), (0, u "java/lang/Math"), (1, .class_ 6), (1, u "java/lang/Object"), (0, u "<init>"), (0, u "()V"), (89, .class_ 100), (1, u "java/lang/Math$RandomNumberGeneratorHolder"), (71, u "negativeZeroFloatBits"), (0, u "J"), (2, u "negativeZeroDoubleBits"), (24, u "min"), (43, u "$assertionsDisabled"), (0, u "Z"), (88, u "(II)I"), (2, u "twoToTheDoubleScaleDown"), (0, u "D"), (4, u "twoToTheDoubleScaleUp"), (9, u "E"), (3, u "PI"), (2, u "TAU"), (2, u "DEGREES_TO_RADIANS"), (0, u "RADIANS_TO_DEGREES")] 94

def k3m0 : Method := { name := "<init>", desc := "()V", sig := { parameters := [], returnType := none }, accessFlags := 2, code := none }
def k3c1 : Code := { maxStack := 2, maxLocals := 2, code := jdk_29_method_69_code, exceptionTable := #[], attributes := #[] }
def k3m1 : Method := { name := "min", desc := "(II)I", sig := { parameters := [.int, .int], returnType := some .int }, accessFlags := 9, code := some k3c1 }
/-- java/lang/Math -/
def k3 : Class := { plain "java/lang/Math" (some 0) with
  accessFlags := 49
  interfaces := #[]
  cf := some (fileOf pool3 1 #[.nestMembers #[98]] #[{ accessFlags := 2, nameIndex := 7, descriptorIndex := 8, attributes := #[] }, { accessFlags := 9, nameIndex := 201, descriptorIndex := 335, attributes := #[] }] 49 4 #[] #[{ accessFlags := 25, nameIndex := 354, descriptorIndex := 339, attributes := #[] }, { accessFlags := 25, nameIndex := 358, descriptorIndex := 339, attributes := #[] }, { accessFlags := 25, nameIndex := 361, descriptorIndex := 339, attributes := #[] }, { accessFlags := 26, nameIndex := 364, descriptorIndex := 339, attributes := #[] }, { accessFlags := 26, nameIndex := 365, descriptorIndex := 339, attributes := #[] }, { accessFlags := 26, nameIndex := 172, descriptorIndex := 173, attributes := #[] }, { accessFlags := 26, nameIndex := 176, descriptorIndex := 173, attributes := #[] }, { accessFlags := 8, nameIndex := 344, descriptorIndex := 339, attributes := #[] }, { accessFlags := 8, nameIndex := 338, descriptorIndex := 339, attributes := #[] }, { accessFlags := 4120, nameIndex := 245, descriptorIndex := 246, attributes := #[] }])
  fields := #[{ name := "E", type := .double, accessFlags := 25, slot := 0, constantValue := 0 }, { name := "PI", type := .double, accessFlags := 25, slot := 1, constantValue := 0 }, { name := "TAU", type := .double, accessFlags := 25, slot := 2, constantValue := 0 }, { name := "DEGREES_TO_RADIANS", type := .double, accessFlags := 26, slot := 3, constantValue := 0 }, { name := "RADIANS_TO_DEGREES", type := .double, accessFlags := 26, slot := 4, constantValue := 0 }, { name := "negativeZeroFloatBits", type := .long, accessFlags := 26, slot := 5, constantValue := 0 }, { name := "negativeZeroDoubleBits", type := .long, accessFlags := 26, slot := 6, constantValue := 0 }, { name := "twoToTheDoubleScaleUp", type := .double, accessFlags := 8, slot := 7, constantValue := 0 }, { name := "twoToTheDoubleScaleDown", type := .double, accessFlags := 8, slot := 8, constantValue := 0 }, { name := "$assertionsDisabled", type := .boolean, accessFlags := 4120, slot := 9, constantValue := 0 }]
  methods := #[k3m0, k3m1]
  instanceTypes := #[]
  staticTypes := #[.double, .double, .double, .double, .double, .long, .long, .double, .double, .boolean]
  resolved := Array.replicate 460 none
  statics := none }

def pool4 : Array CpInfo := pool [(1, .class_ 2), (0, u "java/io/Serializable"), (0, .class_ 4), (0, u "java/lang/Object")] 2

/-- java/io/Serializable -/
def k4 : Class := { plain "java/io/Serializable" (some 0) with
  accessFlags := 1537
  interfaces := #[]
  cf := some (fileOf pool4 1 #[] #[] 1537 3 #[] #[])
  fields := #[]
  methods := #[]
  instanceTypes := #[]
  staticTypes := #[]
  resolved := Array.replicate 7 none
  statics := none }

def pool5 : Array CpInfo := pool [(2, .class_ 4), (1, u "java/lang/Object"), (0, u "<init>"), (0, u "()V"), (1, .class_ 10), (1, u "java/lang/Number"), (2, .class_ 14), (0, u "java/io/Serializable"), (0, u "serialVersionUID"), (0, u "J")] 20

def k5m0 : Method := { name := "<init>", desc := "()V", sig := { parameters := [], returnType := none }, accessFlags := 1, code := none }
/-- java/lang/Number -/
def k5 : Class := { plain "java/lang/Number" (some 0) with
  accessFlags := 1057
  interfaces := #[4]
  cf := some (fileOf pool5 8 #[] #[{ accessFlags := 1, nameIndex := 5, descriptorIndex := 6, attributes := #[] }] 1057 2 #[13] #[{ accessFlags := 26, nameIndex := 15, descriptorIndex := 16, attributes := #[] }])
  fields := #[{ name := "serialVersionUID", type := .long, accessFlags := 26, slot := 0, constantValue := 0 }]
  methods := #[k5m0]
  instanceTypes := #[]
  staticTypes := #[.long]
  resolved := Array.replicate 37 none
  statics := none }

def pool6 : Array CpInfo := pool [(1, .class_ 2), (0, u "java/lang/Comparable"), (0, .class_ 4), (0, u "java/lang/Object")] 7

/-- java/lang/Comparable -/
def k6 : Class := { plain "java/lang/Comparable" (some 0) with
  accessFlags := 1537
  interfaces := #[]
  cf := some (fileOf pool6 1 #[] #[] 1537 3 #[] #[])
  fields := #[]
  methods := #[]
  instanceTypes := #[]
  staticTypes := #[]
  resolved := Array.replicate 12 none
  statics := none }

def pool7 : Array CpInfo := pool [(1, .class_ 2), (0, u "java/lang/constant/Constable"), (0, .class_ 4), (0, u "java/lang/Object")] 6

/-- java/lang/constant/Constable -/
def k7 : Class := { plain "java/lang/constant/Constable" (some 0) with
  accessFlags := 1537
  interfaces := #[]
  cf := some (fileOf pool7 1 #[] #[] 1537 3 #[] #[])
  fields := #[]
  methods := #[]
  instanceTypes := #[]
  staticTypes := #[]
  resolved := Array.replicate 11 none
  statics := none }

def pool8 : Array CpInfo := pool [(1, .class_ 2), (0, u "java/lang/constant/ConstantDesc"), (0, .class_ 4), (0, u "java/lang/Object")] 32

/-- java/lang/constant/ConstantDesc -/
def k8 : Class := { plain "java/lang/constant/ConstantDesc" (some 0) with
  accessFlags := 1537
  interfaces := #[]
  cf := some (fileOf pool8 1 #[] #[] 1537 3 #[] #[])
  fields := #[]
  methods := #[]
  instanceTypes := #[]
  staticTypes := #[]
  resolved := Array.replicate 37 none
  statics := none }

def pool9 : Array CpInfo := pool [(1, .class_ 2), (0, u "java/lang/Long"), (15, .class_ 20), (1, u "java/lang/Integer"), (79, u "numberOfLeadingZeros"), (0, u "(J)I"), (133, .class_ 237), (1, u "java/lang/Long$LongCache"), (33, .class_ 272), (0, u "java/lang/Number"), (2, u "value"), (0, u "J"), (31, .methodref 18 309), (0, .nameAndType 100 310), (0, u "(I)I"), (0, .methodref 18 312), (0, .nameAndType 313 310), (0, u "numberOfTrailingZeros"), (47, u "TYPE"), (0, u "Ljava/lang/Class;"), (0, .class_ 364), (0, u "java/lang/Comparable"), (0, .class_ 366), (0, u "java/lang/constant/Constable"), (0, .class_ 368), (0, u "java/lang/constant/ConstantDesc"), (0, u "MIN_VALUE"), (1, u "MAX_VALUE"), (4, u "SIZE"), (0, u "I"), (1, u "BYTES"), (1, u "serialVersionUID")] 142

def k9c0 : Code := { maxStack := 3, maxLocals := 3, code := jdk_35_method_48_code, exceptionTable := #[], attributes := #[] }
def k9m0 : Method := { name := "numberOfLeadingZeros", desc := "(J)I", sig := { parameters := [.long], returnType := some .int }, accessFlags := 9, code := some k9c0 }
def k9c1 : Code := { maxStack := 4, maxLocals := 3, code := jdk_35_method_49_code, exceptionTable := #[], attributes := #[] }
def k9m1 : Method := { name := "numberOfTrailingZeros", desc := "(J)I", sig := { parameters := [.long], returnType := some .int }, accessFlags := 9, code := some k9c1 }
/-- java/lang/Long -/
def k9 : Class := { plain "java/lang/Long" (some 5) with
  accessFlags := 49
  interfaces := #[6, 7, 8]
  cf := some (fileOf pool9 1 #[.nestMembers #[235]] #[{ accessFlags := 9, nameIndex := 100, descriptorIndex := 101, attributes := #[] }, { accessFlags := 9, nameIndex := 313, descriptorIndex := 101, attributes := #[] }] 49 271 #[363, 365, 367] #[{ accessFlags := 25, nameIndex := 369, descriptorIndex := 276, attributes := #[] }, { accessFlags := 25, nameIndex := 371, descriptorIndex := 276, attributes := #[] }, { accessFlags := 25, nameIndex := 361, descriptorIndex := 362, attributes := #[] }, { accessFlags := 18, nameIndex := 275, descriptorIndex := 276, attributes := #[] }, { accessFlags := 25, nameIndex := 376, descriptorIndex := 377, attributes := #[] }, { accessFlags := 25, nameIndex := 379, descriptorIndex := 377, attributes := #[] }, { accessFlags := 26, nameIndex := 381, descriptorIndex := 276, attributes := #[] }])
  fields := #[{ name := "MIN_VALUE", type := .long, accessFlags := 25, slot := 0, constantValue := 0 }, { name := "MAX_VALUE", type := .long, accessFlags := 25, slot := 1, constantValue := 0 }, { name := "TYPE", type := (.object "java/lang/Class"), accessFlags := 25, slot := 2, constantValue := 0 }, { name := "value", type := .long, accessFlags := 18, slot := 0, constantValue := 0 }, { name := "SIZE", type := .int, accessFlags := 25, slot := 3, constantValue := 0 }, { name := "BYTES", type := .int, accessFlags := 25, slot := 4, constantValue := 0 }, { name := "serialVersionUID", type := .long, accessFlags := 26, slot := 5, constantValue := 0 }]
  methods := #[k9m0, k9m1]
  instanceTypes := #[.long]
  staticTypes := #[.long, .long, (.object "java/lang/Class"), .int, .int, .long]
  resolved := Array.replicate 524 none
  statics := none }

def pool10 : Array CpInfo := pool [(1, .class_ 2), (0, u "java/lang/Integer"), (16, u "digits"), (0, u "[C"), (32, u "numberOfLeadingZeros"), (0, u "(I)I"), (30, u "DigitOnes"), (0, u "[B"), (2, u "DigitTens"), (99, .class_ 190), (0, u "java/lang/Integer$IntegerCache"), (3, u "I"), (8, .class_ 204), (0, u "java/lang/Number"), (2, u "value"), (56, .integer 65536), (37, u "TYPE"), (0, u "Ljava/lang/Class;"), (0, .class_ 305), (0, u "java/lang/Comparable"), (0, .class_ 307), (0, u "java/lang/constant/Constable"), (0, .class_ 309), (0, u "java/lang/constant/ConstantDesc"), (0, u "MIN_VALUE"), (1, u "MAX_VALUE"), (3, u "SIZE"), (1, u "BYTES"), (1, u "serialVersionUID"), (0, u "J"), (84, u "numberOfTrailingZeros")] 46

def k10c0 : Code := { maxStack := 3, maxLocals := 2, code := jdk_33_method_47_code, exceptionTable := #[], attributes := #[] }
def k10m0 : Method := { name := "numberOfLeadingZeros", desc := "(I)I", sig := { parameters := [.int], returnType := some .int }, accessFlags := 9, code := some k10c0 }
def k10c1 : Code := { maxStack := 3, maxLocals := 2, code := jdk_33_method_48_code, exceptionTable := #[], attributes := #[] }
def k10m1 : Method := { name := "numberOfTrailingZeros", desc := "(I)I", sig := { parameters := [.int], returnType := some .int }, accessFlags := 9, code := some k10c1 }
/-- java/lang/Integer -/
def k10 : Class := { plain "java/lang/Integer" (some 5) with
  accessFlags := 49
  interfaces := #[6, 7, 8]
  cf := some (fileOf pool10 1 #[.nestMembers #[189]] #[{ accessFlags := 9, nameIndex := 53, descriptorIndex := 54, attributes := #[] }, { accessFlags := 9, nameIndex := 406, descriptorIndex := 54, attributes := #[] }] 49 203 #[304, 306, 308] #[{ accessFlags := 25, nameIndex := 310, descriptorIndex := 194, attributes := #[] }, { accessFlags := 25, nameIndex := 312, descriptorIndex := 194, attributes := #[] }, { accessFlags := 25, nameIndex := 302, descriptorIndex := 303, attributes := #[] }, { accessFlags := 24, nameIndex := 19, descriptorIndex := 20, attributes := #[] }, { accessFlags := 24, nameIndex := 89, descriptorIndex := 86, attributes := #[] }, { accessFlags := 24, nameIndex := 85, descriptorIndex := 86, attributes := #[] }, { accessFlags := 18, nameIndex := 207, descriptorIndex := 194, attributes := #[] }, { accessFlags := 25, nameIndex := 316, descriptorIndex := 194, attributes := #[] }, { accessFlags := 25, nameIndex := 318, descriptorIndex := 194, attributes := #[] }, { accessFlags := 26, nameIndex := 320, descriptorIndex := 321, attributes := #[] }])
  fields := #[{ name := "MIN_VALUE", type := .int, accessFlags := 25, slot := 0, constantValue := 0 }, { name := "MAX_VALUE", type := .int, accessFlags := 25, slot := 1, constantValue := 0 }, { name := "TYPE", type := (.object "java/lang/Class"), accessFlags := 25, slot := 2, constantValue := 0 }, { name := "digits", type := (.array .char), accessFlags := 24, slot := 3, constantValue := 0 }, { name := "DigitTens", type := (.array .byte), accessFlags := 24, slot := 4, constantValue := 0 }, { name := "DigitOnes", type := (.array .byte), accessFlags := 24, slot := 5, constantValue := 0 }, { name := "value", type := .int, accessFlags := 18, slot := 0, constantValue := 0 }, { name := "SIZE", type := .int, accessFlags := 25, slot := 6, constantValue := 0 }, { name := "BYTES", type := .int, accessFlags := 25, slot := 7, constantValue := 0 }, { name := "serialVersionUID", type := .long, accessFlags := 26, slot := 8, constantValue := 0 }]
  methods := #[k10m0, k10m1]
  instanceTypes := #[.int]
  staticTypes := #[.int, .int, (.object "java/lang/Class"), (.array .char), (.array .byte), (.array .byte), .int, .int, .long]
  resolved := Array.replicate 453 none
  statics := none }

def pool11 : Array CpInfo := pool [(1, u "java/lang/Cloneable"), (0, .class_ 1), (0, u "java/lang/Object"), (0, .class_ 3)] 3

/-- java/lang/Cloneable -/
def k11 : Class := { plain "java/lang/Cloneable" (some 0) with
  accessFlags := 1537
  interfaces := #[]
  cf := some (fileOf pool11 2 #[] #[] 1537 4 #[] #[])
  fields := #[]
  methods := #[]
  instanceTypes := #[]
  staticTypes := #[]
  resolved := Array.replicate 8 none
  statics := none }

/-- the primitive byte -/
def k12 : Class := { plain "byte" none with kind := .primitive 'B', accessFlags := 0x411 }
/-- [B -/
def k13 : Class := { plain "[B" (some 0) with kind := .array 12 .byte, interfaces := #[11, 4], accessFlags := 1041 }

/-- the primitive int -/
def k14 : Class := { plain "int" none with kind := .primitive 'I', accessFlags := 0x411 }
/-- [I -/
def k15 : Class := { plain "[I" (some 0) with kind := .array 14 .int, interfaces := #[11, 4], accessFlags := 1041 }

/-- the primitive long -/
def k16 : Class := { plain "long" none with kind := .primitive 'J', accessFlags := 0x411 }
/-- [J -/
def k17 : Class := { plain "[J" (some 0) with kind := .array 16 .long, interfaces := #[11, 4], accessFlags := 1041 }

def heap : Heap := #[]
def classes : Array Class := #[k0, k1, k2, k3, k4, k5, k6, k7, k8, k9, k10, k11, k12, k13, k14, k15, k16, k17]
def interned : List (Array UInt16 × Addr) := []
def slotsUsed : Nat := 0
def theMethod : MethodId := ⟨1, 1⟩
def args0 : Array Value := #[.int 1, .int 2, .int 3, .int 4, .int 5]
def aboutOver (below : List Frame) : State where
  vm := { classes := classes, interned := interned.toArray }
  heap := heap
  slotsUsed := slotsUsed
  threads := #[{ frames := .invoking theMethod args0 :: below }]
def below0 : List Frame := [.native { method := ⟨0, 0⟩, args := #[] }]
def about1 : State := aboutOver below0
def p0 : Program := .bare "" "" ""
def e0 : Env := launch0.env 0 0 0
theorem w_frames : about1.frames = Frame.invoking theMethod args0 :: below0 := rfl
set_option maxRecDepth 65536 in
theorem w_args : argsFit about1.vm theMethod args0 = true := by decide +kernel
set_option maxRecDepth 65536 in
theorem w_heap : heapFits about1 = true := by decide +kernel
set_option maxRecDepth 65536 in
theorem w_runnable : about1.curStatus? = some .runnable := by decide +kernel
set_option maxRecDepth 65536 in
theorem w_alone : about1.alone = true := by decide +kernel
set_option maxRecDepth 65536 in
theorem w_named : about1.methodNamed? x = some theMethod := by decide +kernel
set_option maxRecDepth 65536 in
theorem w_hears : about1.hears theMethod below0 = true := by decide +kernel
set_option maxRecDepth 65536 in
theorem w_ripe : about1.ripe theMethod args0 below0 = true := by decide +kernel
theorem w_running : about1.status = .running := rfl
set_option maxRecDepth 65536 in
theorem w_room : about1.hasRoom e0.platform room_1 = true :=
  launch0.hasRoom_least _ room_1 (by decide +kernel) (by decide +kernel) (by decide +kernel) (by decide +kernel) (by decide +kernel) (by decide +kernel)
theorem allAtoms_all (ts : List Jvm.Cond) (a : Array Jvm.Value) (st : Jvm.State) : (allAtoms ts).before a st = ts.all (fun c => c.before a st) := by
  induction ts with
  | nil => rfl
  | cons c t ih =>
    show (Jvm.Cond.and c (allAtoms t)).before a st = _
    rw [Jvm.Cond.before_and, ih, List.all_cons]
def words1 : List Jvm.Cond := Jvm.Cond.code x code maxLocals ret :: tables_1
/-- a 'code' word, met by the world's own term for the bytes: nothing is compared byte by byte -/
theorem code_word {y : MethodName} {bytes : ByteArray} {mx : Nat} {rt : Option FieldType} {a : Array Value} {s : State} {m : MethodId} {meth : Method} {c : Code} (h1 : s.methodNamed? y = some m) (h2 : s.vm.method? m = some meth) (h3 : meth.code = some c) (h4 : c.code = bytes)
    (h5 : (c.maxLocals == mx && c.exceptionTable.isEmpty && decide (c.maxStack ≤ mostOperands) && decide (meth.sig.returnType = rt) && !meth.locks && decide (parseMethodDescriptor y.desc = some meth.sig)) = true) : (Jvm.Cond.code y bytes mx rt).before a s = true := by
  simp only [Bool.and_eq_true, beq_iff_eq, Bool.not_eq_true', decide_eq_true_eq] at h5
  obtain ⟨⟨⟨⟨⟨g1, g2⟩, g3⟩, g4⟩, g5⟩, g6⟩ := h5
  simp [Cond.before, Cond.holds, Cond.value, h1, h2, h3, h4, g1, g2, g3, g4, g5, g6]
def isCode : Jvm.Cond → Bool
  | .code _ _ _ _ => true
  | _ => false
theorem all_split {L : List Jvm.Cond} {P : Jvm.Cond → Bool} (h1 : L.all (fun c => isCode c || P c) = true) (h2 : ∀ c ∈ L.filter isCode, P c = true) : L.all P = true := by
  refine List.all_eq_true.mpr fun c hc => ?_
  have h := List.all_eq_true.mp h1 c hc
  rcases Bool.eq_false_or_eq_true (isCode c) with hi | hi
  · exact h2 c (List.mem_filter.mpr ⟨hc, hi⟩)
  · simpa [hi] using h
set_option maxRecDepth 65536 in
theorem w_c0 : (Jvm.Cond.code x code maxLocals ret).before args0 about1 = true := code_word (m := ⟨1, 1⟩) (meth := k1m1) (c := k1c1) (by decide +kernel) rfl rfl rfl (by decide +kernel)
set_option maxRecDepth 65536 in
theorem w_c1 : (Jvm.Cond.code ({ cls := "com/example/collate/collate/analysis/Bits", name := "<init>", desc := "(I)V" } : Jvm.MethodName) prog_9_method_1_code (2 : Nat) (Option.none : Option Jvm.ClassFile.FieldType)).before args0 about1 = true := code_word (m := ⟨2, 0⟩) (meth := k2m0) (c := k2c0) (by decide +kernel) rfl rfl rfl (by decide +kernel)
set_option maxRecDepth 65536 in
theorem w_c2 : (Jvm.Cond.code ({ cls := "java/lang/Object", name := "<init>", desc := "()V" } : Jvm.MethodName) object_method_1_code (1 : Nat) (Option.none : Option Jvm.ClassFile.FieldType)).before args0 about1 = true := code_word (m := ⟨0, 0⟩) (meth := k0m0) (c := k0c0) (by decide +kernel) rfl rfl rfl (by decide +kernel)
set_option maxRecDepth 65536 in
theorem w_c3 : (Jvm.Cond.code ({ cls := "com/example/collate/collate/analysis/Bits", name := "set", desc := "(IZ)V" } : Jvm.MethodName) prog_9_method_3_code (4 : Nat) (Option.none : Option Jvm.ClassFile.FieldType)).before args0 about1 = true := code_word (m := ⟨2, 2⟩) (meth := k2m2) (c := k2c2) (by decide +kernel) rfl rfl rfl (by decide +kernel)
set_option maxRecDepth 65536 in
theorem w_c4 : (Jvm.Cond.code ({ cls := "com/example/collate/collate/analysis/Bits", name := "get", desc := "(I)Z" } : Jvm.MethodName) prog_9_method_2_code (2 : Nat) (Option.some Jvm.ClassFile.FieldType.boolean)).before args0 about1 = true := code_word (m := ⟨2, 1⟩) (meth := k2m1) (c := k2c1) (by decide +kernel) rfl rfl rfl (by decide +kernel)
set_option maxRecDepth 65536 in
theorem w_c5 : (Jvm.Cond.code ({ cls := "com/example/collate/collate/analysis/BitsSetPinLaw", name := "nxt", desc := "(IZII)I" } : Jvm.MethodName) method_3_code (4 : Nat) (Option.some Jvm.ClassFile.FieldType.int)).before args0 about1 = true := code_word (m := ⟨1, 2⟩) (meth := k1m2) (c := k1c2) (by decide +kernel) rfl rfl rfl (by decide +kernel)
set_option maxRecDepth 65536 in
theorem w_c6 : (Jvm.Cond.code ({ cls := "com/example/collate/collate/analysis/BitsSetPinLaw", name := "prv", desc := "(IZII)I" } : Jvm.MethodName) method_4_code (4 : Nat) (Option.some Jvm.ClassFile.FieldType.int)).before args0 about1 = true := code_word (m := ⟨1, 3⟩) (meth := k1m3) (c := k1c3) (by decide +kernel) rfl rfl rfl (by decide +kernel)
set_option maxRecDepth 65536 in
theorem w_c7 : (Jvm.Cond.code ({ cls := "com/example/collate/collate/analysis/Bits", name := "nextSetBit", desc := "(I)I" } : Jvm.MethodName) prog_9_method_5_code (5 : Nat) (Option.some Jvm.ClassFile.FieldType.int)).before args0 about1 = true := code_word (m := ⟨2, 3⟩) (meth := k2m3) (c := k2c3) (by decide +kernel) rfl rfl rfl (by decide +kernel)
set_option maxRecDepth 65536 in
theorem w_c8 : (Jvm.Cond.code ({ cls := "com/example/collate/collate/analysis/Bits", name := "nextWord", desc := "(I)I" } : Jvm.MethodName) prog_9_method_6_code (5 : Nat) (Option.some Jvm.ClassFile.FieldType.int)).before args0 about1 = true := code_word (m := ⟨2, 4⟩) (meth := k2m4) (c := k2c4) (by decide +kernel) rfl rfl rfl (by decide +kernel)
set_option maxRecDepth 65536 in
theorem w_c9 : (Jvm.Cond.code ({ cls := "com/example/collate/collate/analysis/Bits", name := "previousSetBit", desc := "(I)I" } : Jvm.MethodName) prog_9_method_7_code (5 : Nat) (Option.some Jvm.ClassFile.FieldType.int)).before args0 about1 = true := code_word (m := ⟨2, 5⟩) (meth := k2m5) (c := k2c5) (by decide +kernel) rfl rfl rfl (by decide +kernel)
set_option maxRecDepth 65536 in
theorem w_c10 : (Jvm.Cond.code ({ cls := "java/lang/Math", name := "min", desc := "(II)I" } : Jvm.MethodName) jdk_29_method_69_code (2 : Nat) (Option.some Jvm.ClassFile.FieldType.int)).before args0 about1 = true := code_word (m := ⟨3, 1⟩) (meth := k3m1) (c := k3c1) (by decide +kernel) rfl rfl rfl (by decide +kernel)
set_option maxRecDepth 65536 in
theorem w_c11 : (Jvm.Cond.code ({ cls := "com/example/collate/collate/analysis/Bits", name := "previousWord", desc := "(I)I" } : Jvm.MethodName) prog_9_method_8_code (5 : Nat) (Option.some Jvm.ClassFile.FieldType.int)).before args0 about1 = true := code_word (m := ⟨2, 6⟩) (meth := k2m6) (c := k2c6) (by decide +kernel) rfl rfl rfl (by decide +kernel)
set_option maxRecDepth 65536 in
theorem w_c12 : (Jvm.Cond.code ({ cls := "java/lang/Long", name := "numberOfLeadingZeros", desc := "(J)I" } : Jvm.MethodName) jdk_35_method_48_code (3 : Nat) (Option.some Jvm.ClassFile.FieldType.int)).before args0 about1 = true := code_word (m := ⟨9, 0⟩) (meth := k9m0) (c := k9c0) (by decide +kernel) rfl rfl rfl (by decide +kernel)
set_option maxRecDepth 65536 in
theorem w_c13 : (Jvm.Cond.code ({ cls := "java/lang/Integer", name := "numberOfLeadingZeros", desc := "(I)I" } : Jvm.MethodName) jdk_33_method_47_code (2 : Nat) (Option.some Jvm.ClassFile.FieldType.int)).before args0 about1 = true := code_word (m := ⟨10, 0⟩) (meth := k10m0) (c := k10c0) (by decide +kernel) rfl rfl rfl (by decide +kernel)
set_option maxRecDepth 65536 in
theorem w_c14 : (Jvm.Cond.code ({ cls := "java/lang/Long", name := "numberOfTrailingZeros", desc := "(J)I" } : Jvm.MethodName) jdk_35_method_49_code (3 : Nat) (Option.some Jvm.ClassFile.FieldType.int)).before args0 about1 = true := code_word (m := ⟨9, 1⟩) (meth := k9m1) (c := k9c1) (by decide +kernel) rfl rfl rfl (by decide +kernel)
set_option maxRecDepth 65536 in
theorem w_c15 : (Jvm.Cond.code ({ cls := "java/lang/Integer", name := "numberOfTrailingZeros", desc := "(I)I" } : Jvm.MethodName) jdk_33_method_48_code (2 : Nat) (Option.some Jvm.ClassFile.FieldType.int)).before args0 about1 = true := code_word (m := ⟨10, 1⟩) (meth := k10m1) (c := k10c1) (by decide +kernel) rfl rfl rfl (by decide +kernel)
def codes1 : List Jvm.Cond := [Jvm.Cond.code x code maxLocals ret, Jvm.Cond.code ({ cls := "com/example/collate/collate/analysis/Bits", name := "<init>", desc := "(I)V" } : Jvm.MethodName) prog_9_method_1_code (2 : Nat) (Option.none : Option Jvm.ClassFile.FieldType), Jvm.Cond.code ({ cls := "java/lang/Object", name := "<init>", desc := "()V" } : Jvm.MethodName) object_method_1_code (1 : Nat) (Option.none : Option Jvm.ClassFile.FieldType), Jvm.Cond.code ({ cls := "com/example/collate/collate/analysis/Bits", name := "set", desc := "(IZ)V" } : Jvm.MethodName) prog_9_method_3_code (4 : Nat) (Option.none : Option Jvm.ClassFile.FieldType), Jvm.Cond.code ({ cls := "com/example/collate/collate/analysis/Bits", name := "get", desc := "(I)Z" } : Jvm.MethodName) prog_9_method_2_code (2 : Nat) (Option.some Jvm.ClassFile.FieldType.boolean), Jvm.Cond.code ({ cls := "com/example/collate/collate/analysis/BitsSetPinLaw", name := "nxt", desc := "(IZII)I" } : Jvm.MethodName) method_3_code (4 : Nat) (Option.some Jvm.ClassFile.FieldType.int), Jvm.Cond.code ({ cls := "com/example/collate/collate/analysis/BitsSetPinLaw", name := "prv", desc := "(IZII)I" } : Jvm.MethodName) method_4_code (4 : Nat) (Option.some Jvm.ClassFile.FieldType.int), Jvm.Cond.code ({ cls := "com/example/collate/collate/analysis/Bits", name := "nextSetBit", desc := "(I)I" } : Jvm.MethodName) prog_9_method_5_code (5 : Nat) (Option.some Jvm.ClassFile.FieldType.int), Jvm.Cond.code ({ cls := "com/example/collate/collate/analysis/Bits", name := "nextWord", desc := "(I)I" } : Jvm.MethodName) prog_9_method_6_code (5 : Nat) (Option.some Jvm.ClassFile.FieldType.int), Jvm.Cond.code ({ cls := "com/example/collate/collate/analysis/Bits", name := "previousSetBit", desc := "(I)I" } : Jvm.MethodName) prog_9_method_7_code (5 : Nat) (Option.some Jvm.ClassFile.FieldType.int), Jvm.Cond.code ({ cls := "java/lang/Math", name := "min", desc := "(II)I" } : Jvm.MethodName) jdk_29_method_69_code (2 : Nat) (Option.some Jvm.ClassFile.FieldType.int), Jvm.Cond.code ({ cls := "com/example/collate/collate/analysis/Bits", name := "previousWord", desc := "(I)I" } : Jvm.MethodName) prog_9_method_8_code (5 : Nat) (Option.some Jvm.ClassFile.FieldType.int), Jvm.Cond.code ({ cls := "java/lang/Long", name := "numberOfLeadingZeros", desc := "(J)I" } : Jvm.MethodName) jdk_35_method_48_code (3 : Nat) (Option.some Jvm.ClassFile.FieldType.int), Jvm.Cond.code ({ cls := "java/lang/Integer", name := "numberOfLeadingZeros", desc := "(I)I" } : Jvm.MethodName) jdk_33_method_47_code (2 : Nat) (Option.some Jvm.ClassFile.FieldType.int), Jvm.Cond.code ({ cls := "java/lang/Long", name := "numberOfTrailingZeros", desc := "(J)I" } : Jvm.MethodName) jdk_35_method_49_code (3 : Nat) (Option.some Jvm.ClassFile.FieldType.int), Jvm.Cond.code ({ cls := "java/lang/Integer", name := "numberOfTrailingZeros", desc := "(I)I" } : Jvm.MethodName) jdk_33_method_48_code (2 : Nat) (Option.some Jvm.ClassFile.FieldType.int)]
set_option maxRecDepth 65536 in
theorem codes_eq : words1.filter isCode = codes1 := rfl
theorem w_codes : ∀ c ∈ words1.filter isCode, c.before args0 about1 = true := by
  rw [codes_eq]
  intro c hc
  simp only [codes1, List.mem_cons, List.not_mem_nil, or_false] at hc
  rcases hc with rfl | rfl | rfl | rfl | rfl | rfl | rfl | rfl | rfl | rfl | rfl | rfl | rfl | rfl | rfl | rfl
  · exact w_c0
  · exact w_c1
  · exact w_c2
  · exact w_c3
  · exact w_c4
  · exact w_c5
  · exact w_c6
  · exact w_c7
  · exact w_c8
  · exact w_c9
  · exact w_c10
  · exact w_c11
  · exact w_c12
  · exact w_c13
  · exact w_c14
  · exact w_c15
set_option maxRecDepth 65536 in
theorem w_t1 : (words1.take 24).all (fun c => isCode c || c.before args0 about1) = true := by decide +kernel
set_option maxRecDepth 65536 in
theorem w_t2 : ((words1.drop 24).take 24).all (fun c => isCode c || c.before args0 about1) = true := by decide +kernel
set_option maxRecDepth 65536 in
theorem w_t3 : ((words1.drop 24).drop 24).all (fun c => isCode c || c.before args0 about1) = true := by decide +kernel
theorem w_tables : (allAtoms (Jvm.Cond.code x code maxLocals ret :: tables_1)).before args0 about1 = true := by
  rw [allAtoms_all]
  show words1.all (fun c => c.before args0 about1) = true
  refine all_split ?_ w_codes
  rw [← List.take_append_drop 24 words1, List.all_append, w_t1, ← List.take_append_drop 24 (words1.drop 24), List.all_append, w_t2, w_t3]
  rfl
set_option maxRecDepth 65536 in
theorem w_case : (Jvm.Cond.and given_1 narrow_1).before args0 about1 = true := by decide +kernel
theorem w_applies : (headSpec (Jvm.Cond.code x code maxLocals ret :: tables_1) room_1).applies x e0.platform about1 = true :=
  (Spec.applies_iff w_frames).mpr ⟨w_running, w_runnable, w_alone, w_named, w_hears, w_ripe, w_room, w_tables⟩
theorem atStart : AtStart classFile x code maxLocals ret World_1 tables_1 room_1 Calls_1 rest_1 Pre_1 launch0 p0 e0 about1 theMethod args0 below0 :=
  ⟨lists_1, trivial, launch0.admits_env _ _ _, launch0.least_env, fairChoices_fair.cas, fairChoices_fair.clock, w_frames, w_args, w_heap, w_applies, trivial, trivial, w_case⟩
end start1
theorem witness_1 : WitnessClaimed_1 := ⟨start1.p0, start1.e0, start1.about1, start1.theMethod, start1.args0, start1.below0, start1.atStart⟩
end Jvm.Pilot.@@N@@
