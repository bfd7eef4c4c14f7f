import JvmDerived
import JvmDerived.Pilot.@@N@@Statement
import JvmDerived.Pilot.@@N@@Code
set_option linter.unusedVariables false
set_option linter.unusedSimpArgs false
@@BLOCK:NumsL.lean.txt@@
namespace Jvm.OwnK
open Sem ClassFile Op Lib Jvm.Free Jvm.Stand Jvm.LawKit Jvm.RoadKit
section Base
variable {p : Program} {l : Launch} {e : Env} {R : Room} {s : State} {m : MethodId} {args : Array Value} {below : List Frame} {meth : Method} {c : Code} {T T' : State} {locs : List Loc} {cells slots : Nat} {Q : Option Value → Heap → List Loc → Prop} {kc ks : Nat} {g g' : JFrame} {Z : State} {a0 : Array Value} {h : Heap}
/-- the walk's goal: from T with g on top the invocation comes to its end, with Q -/
def Go (p : Program) (e : Env) (below : List Frame) (s T : State) (g : JFrame) (Q : Option Value → Heap → List Loc → Prop) (kc ks : Nat) : Prop :=
  ∃ s₂ o, Steps p.tables e below (T.setTop g) s₂ ∧ s₂.status = .running ∧ Ended s₂ below o ∧ ∃ v L, o = .returned v ∧ Q v s₂.heap L ∧ FrameEnd s o s₂ L kc ks
theorem Go.step (st : ∀ target, Steps p.tables e below (T'.setTop g') target → Steps p.tables e below (T.setTop g) target) (k : Go p e below s T' g' Q kc ks) : Go p e below s T g Q kc ks := by
  obtain ⟨s₂, o, h1, r⟩ := k
  exact ⟨s₂, o, st _ h1, r⟩
theorem Go.trans (st : Steps p.tables e below (T.setTop g) (T'.setTop g')) (k : Go p e below s T' g' Q kc ks) : Go p e below s T g Q kc ks := by
  obtain ⟨s₂, o, h1, r⟩ := k
  exact ⟨s₂, o, st.trans h1, r⟩
theorem Go.cast (q : g = g') (k : Go p e below s T g' Q kc ks) : Go p e below s T g Q kc ks := q ▸ k
theorem Go.out (X : Stand p l e R s m args below meth c T locs cells slots) (hlk : meth.locks = false) {v : Option Value} (hv : meth.sig.returnType = none → v = none) (hQ : Q v T.heap locs) (hc : cells ≤ kc) (hs : slots ≤ ks)
    (st : ∀ fs : List Frame, (∀ (f : JFrame) (acts : List Action), f.method = m → f.locked = none → f.entered = [] → (doReturn e (T.setTop f) acts v).1 = T.setFrames fs) → Steps p.tables e below (T.setTop g) (T.setFrames fs)) : Go p e below s T g Q kc ks := by
  obtain ⟨fs, hr, hrun, hended, hW, hsame⟩ := X.leave hv hlk
  exact ⟨_, _, st fs hr, hrun, hended, _, _, rfl, hQ, ⟨_, rfl⟩, hW, hsame.mono hc hs⟩
theorem Go.ret0 (X : Stand p l e R s m args below meth c T locs cells slots) (hx : p.tables.exec = Jvm.exec) (hlk : meth.locks = false) {pc : Nat} {Ls : Array Slot} (hret : meth.sig.returnType = none) (hd : decode c.code pc = .ok (.return_, 1)) (hc : cells ≤ kc) (hs : slots ≤ ks) (hQ : Q none T.heap locs) : Go p e below s T (mkF m pc Ls []) Q kc ks :=
  Go.out X hlk (fun _ => rfl) hQ hc hs fun fs hr => X.returnOut hx hret hd hr
theorem Go.retV (X : Stand p l e R s m args below meth c T locs cells slots) (hx : p.tables.exec = Jvm.exec) (hlk : meth.locks = false) {pc : Nat} {Ls : Array Slot} {w : Value} {t : FieldType} {i : Instr} {rest : List Value} (hret : meth.sig.returnType = some t) (hn : narrow t w = w)
    (hi : (i = .ireturn ∧ (t = .int ∨ t = .boolean ∨ t = .byte ∨ t = .char ∨ t = .short) ∧ ∃ z, w = .int z) ∨ (i = .lreturn ∧ t = .long ∧ ∃ z, w = .long z) ∨ (i = .dreturn ∧ t = .double ∧ ∃ z, w = .double z) ∨ (i = .freturn ∧ t = .float ∧ ∃ z, w = .float z) ∨ (i = .areturn ∧ t.isReference = true ∧ w.isRef = true))
    (hd : decode c.code pc = .ok (i, 1)) (hc : cells ≤ kc) (hs : slots ≤ ks) (hQ : Q (some w) T.heap locs) : Go p e below s T (mkF m pc Ls (w :: rest)) Q kc ks :=
  Go.out X hlk (fun q => by rw [hret] at q; cases q) hQ hc hs fun fs hr => retOut X hx hret hn hi hd hr
theorem Go.retI (X : Stand p l e R s m args below meth c T locs cells slots) (hx : p.tables.exec = Jvm.exec) (hlk : meth.locks = false) {pc : Nat} {Ls : Array Slot} {z : Int32} {rest : List Value} (hret : meth.sig.returnType = some .int)
    (hd : decode c.code pc = .ok (.ireturn, 1)) (hc : cells ≤ kc) (hs : slots ≤ ks) (hQ : Q (some (.int z)) T.heap locs) : Go p e below s T (mkF m pc Ls (.int z :: rest)) Q kc ks :=
  Go.retV X hx hlk hret rfl (Or.inl ⟨rfl, Or.inl rfl, z, rfl⟩) hd hc hs hQ
theorem nar_bool {z : Int32} (h : z = 0 ∨ z = 1) : narrow .boolean (.int z) = .int z := by rcases h with rfl | rfl <;> rfl
theorem Go.retZ (X : Stand p l e R s m args below meth c T locs cells slots) (hx : p.tables.exec = Jvm.exec) (hlk : meth.locks = false) {pc : Nat} {Ls : Array Slot} {z : Int32} {rest : List Value} (hret : meth.sig.returnType = some .boolean) (hz : z = 0 ∨ z = 1)
    (hd : decode c.code pc = .ok (.ireturn, 1)) (hc : cells ≤ kc) (hs : slots ≤ ks) (hQ : Q (some (.int z)) T.heap locs) : Go p e below s T (mkF m pc Ls (.int z :: rest)) Q kc ks :=
  Go.retV X hx hlk hret (nar_bool hz) (Or.inl ⟨rfl, Or.inr (Or.inl rfl), z, rfl⟩) hd hc hs hQ
theorem Go.retJ (X : Stand p l e R s m args below meth c T locs cells slots) (hx : p.tables.exec = Jvm.exec) (hlk : meth.locks = false) {pc : Nat} {Ls : Array Slot} {z : Int64} {rest : List Value} (hret : meth.sig.returnType = some .long)
    (hd : decode c.code pc = .ok (.lreturn, 1)) (hc : cells ≤ kc) (hs : slots ≤ ks) (hQ : Q (some (.long z)) T.heap locs) : Go p e below s T (mkF m pc Ls (.long z :: rest)) Q kc ks :=
  Go.retV X hx hlk hret rfl (Or.inr (Or.inl ⟨rfl, rfl, z, rfl⟩)) hd hc hs hQ
theorem Go.retR (X : Stand p l e R s m args below meth c T locs cells slots) (hx : p.tables.exec = Jvm.exec) (hlk : meth.locks = false) {pc : Nat} {Ls : Array Slot} {w : Value} {t : FieldType} {rest : List Value} (hret : meth.sig.returnType = some t) (ht : t.isReference = true) (hw : w.isRef = true)
    (hd : decode c.code pc = .ok (.areturn, 1)) (hc : cells ≤ kc) (hs : slots ≤ ks) (hQ : Q (some w) T.heap locs) : Go p e below s T (mkF m pc Ls (w :: rest)) Q kc ks :=
  Go.retV X hx hlk hret (by cases t <;> simp [narrow, FieldType.isReference] at ht ⊢) (Or.inr (Or.inr (Or.inr (Or.inr ⟨rfl, ht, hw⟩)))) hd hc hs hQ
/-- a method's contract in this text: from the heap h0, with these arguments, it returns, with Q -/
def Met (l : Launch) (Z : State) (y : MethodName) (bytes : ByteArray) (maxL : Nat) (ret : Option FieldType) (ws : List Jvm.Cond) (rm : Room) (as' : Array Value) (h0 : Heap) (Q : Option Value → Heap → List Loc → Prop) : Prop :=
  MetFree l y (head1 (Jvm.Cond.code y bytes maxL ret :: ws) rm) (fun a U => a = as' ∧ Z.Warmed39 U.vm ∧ U.heap = h0) (fun _ _ _ _ _ => True) (fun _ U o U' => ∃ v L, o = .returned v ∧ Q v U'.heap L ∧ FrameEnd U o U' L rm.cells rm.slots)
theorem Met.of {y : MethodName} {bytes : ByteArray} {maxL : Nat} {ret : Option FieldType} {ws : List Jvm.Cond} {rm : Room} {as' : Array Value} {h0 : Heap} (hpn : plainFor y = true)
    (body : ∀ (p : Program) (e : Env) (s : State) (m : MethodId) (below : List Frame) (meth : Method) (c : Code) (s₁ : State), Stand p l e rm s m as' below meth c s₁ [] 0 0 → p.tables.exec = Jvm.exec → c.code = bytes → c.maxLocals = maxL → Z.Warmed39 s.vm →
      s.vm.findClass y.cls = some m.cls → meth.name = y.name → s₁.heap = h0 → meth.sig.returnType = ret → meth.locks = false → Go p e below s s₁ (entryFrame m as' maxL) Q rm.cells rm.slots) : Met l Z y bytes maxL ret ws rm as' h0 Q := by
  refine MetFree.of_bodySF hpn hisR ?_
  intro p e s m args below meth c s₁ Bd hml0 hP hK
  obtain ⟨rfl, hZ, hh⟩ := hP
  exact body p e s m below meth c s₁ (Stand.of_body Bd) Bd.exec Bd.bytes hml0 hZ (findClass_of_methodNamed Bd.named) (name_of_methodNamed Bd.named Bd.method).1 (by rw [← hh, Bd.state]; rfl) Bd.returns Bd.notSynchronized
theorem Met.mono {y : MethodName} {bytes : ByteArray} {maxL : Nat} {ret : Option FieldType} {ws : List Jvm.Cond} {rm : Room} {as' : Array Value} {h0 : Heap} {Q' : Option Value → Heap → List Loc → Prop} (hM : Met l Z y bytes maxL ret ws rm as' h0 Q) (q : ∀ v h L, Q v h L → Q' v h L) : Met l Z y bytes maxL ret ws rm as' h0 Q' := by
  intro p e ha hc hk s m args below hf happ hP hK
  obtain ⟨n, o, h1, h2, h3, v, L, h4, h5, h6⟩ := hM p e ha hc hk s m args below hf happ hP hK
  exact ⟨n, o, h1, h2, h3, v, L, h4, q _ _ _ h5, h6⟩
/-- the call of a static method, by its contract -/
theorem Go.callS {own : String} {index : Nat} {y : MethodName} {bytes : ByteArray} {maxL : Nat} {ret : Option FieldType} {rm : Room} {argsL rest : List Value} {Q' : Option Value → Heap → List Loc → Prop} {W pc : Nat} {Ls : Array Slot} {st : List Value}
    (X : Stand p l e R s m args below meth c T locs cells slots) (hx : p.tables.exec = Jvm.exec) (hZ : Z.Warmed39 s.vm) (hown : s.vm.findClass own = some m.cls)
    (w1 : (Jvm.Cond.methodLink own index y).before a0 Z = true) (w2 : (Jvm.Cond.static y).before a0 Z = true) (w3 : (Jvm.Cond.initialized y.cls).before a0 Z = true) (w4 : (Jvm.Cond.code y bytes maxL ret).before a0 Z = true)
    (hy : y.cls ≠ "java/lang/invoke/MethodHandle" ∧ y.cls ≠ "java/lang/invoke/VarHandle") (hM : Met l Z y bytes maxL ret [] rm argsL.toArray h Q') (eT : T.heap = h)
    (hlen : ∀ sig, parseMethodDescriptor y.desc = some sig → argsL.length = sig.parameters.length) (hd : decode c.code pc = .ok (.invokestatic index, 3)) (hsize : Ls.size = c.maxLocals) (hst : st = argsL.reverse ++ rest) (hW : (rest.map fun v => v.category).sum ≤ W)
    (hf : rm.frames + 1 ≤ R.frames) (hl : W + (maxL + 11) + rm.locals ≤ R.locals) (hc : cells + rm.cells ≤ R.cells) (hs : slots + rm.slots ≤ R.slots)
    (k : ∀ v T' L, Stand p l e R s m args below meth c T' (locs ++ L) (cells + rm.cells) (slots + rm.slots) → Q' v T'.heap L → Go p e below s T' (mkF m (pc + 3) Ls (v.toList ++ rest)) Q kc ks) : Go p e below s T (mkF m pc Ls st) Q kc ks := by
  obtain ⟨v, vm₁, ⟨T1, L1, k1, n1⟩, -, X1, ⟨Lc, hQ1, l1, y1, z1⟩, st1⟩ := Jvm.LawKit.callS X hx (y := y) hown (mvT hZ w1) (mvT hZ w2) (mvT hZ w3) (mvT hZ w4) hy (backOf (W := W) hM hZ w4 w3 hf hl) (g := mkF m pc Ls st) rfl hsize (argsL := argsL) (rest := rest) hlen hst (by show 2 * 0 + _ ≤ _; omega) hd (fun _ _ => ⟨rfl, eT, hc, hs⟩)
  dsimp only [Pt.U, Pt.locs, Pt.cells, Pt.slots] at X1 l1 y1 z1 st1 hQ1
  subst l1 y1 z1
  exact Go.step st1 (k v T1 Lc X1 hQ1)
/-- the call of a constructor, by its contract -/
theorem Go.callI {own : String} {index : Nat} {y : MethodName} {bytes : ByteArray} {maxL : Nat} {rm : Room} {a : Addr} {argsL rest : List Value} {Q' : Option Value → Heap → List Loc → Prop} {W pc : Nat} {Ls : Array Slot} {st : List Value}
    (X : Stand p l e R s m args below meth c T locs cells slots) (hx : p.tables.exec = Jvm.exec) (hZ : Z.Warmed39 s.vm) (hown : s.vm.findClass own = some m.cls) (hy1 : y.name = "<init>")
    (w1 : (Jvm.Cond.methodLink own index y).before a0 Z = true) (w2 : (Jvm.Cond.instanceMethod y).before a0 Z = true) (w3 : (Jvm.Cond.initialized y.cls).before a0 Z = true) (w4 : (Jvm.Cond.code y bytes maxL none).before a0 Z = true)
    (hy : y.cls ≠ "java/lang/invoke/MethodHandle" ∧ y.cls ≠ "java/lang/invoke/VarHandle") (hM : Met l Z y bytes maxL none [] rm (.ref a :: argsL).toArray h Q') (eT : T.heap = h)
    (hlen : ∀ sig, parseMethodDescriptor y.desc = some sig → argsL.length = sig.parameters.length) (hd : decode c.code pc = .ok (.invokespecial index, 3)) (hsize : Ls.size = c.maxLocals) (hst : st = argsL.reverse ++ .ref a :: rest) (hW : (rest.map fun v => v.category).sum ≤ W)
    (hf : rm.frames + 1 ≤ R.frames) (hl : W + (maxL + 11) + rm.locals ≤ R.locals) (hc : cells + rm.cells ≤ R.cells) (hs : slots + rm.slots ≤ R.slots)
    (k : ∀ v T' L, Stand p l e R s m args below meth c T' (locs ++ L) (cells + rm.cells) (slots + rm.slots) → Q' v T'.heap L → Go p e below s T' (mkF m (pc + 3) Ls (v.toList ++ rest)) Q kc ks) : Go p e below s T (mkF m pc Ls st) Q kc ks := by
  obtain ⟨v, vm₁, ⟨T1, L1, k1, n1⟩, -, X1, ⟨Lc, hQ1, l1, y1, z1⟩, st1⟩ := X.specialBack hx (y := y) hy1 hown (mvT hZ w1) (mvT hZ w2) (mvT hZ w4) hy (backOf (W := W) hM hZ w4 w3 hf hl) (g := mkF m pc Ls st) rfl hsize (Steps.refl _) (a := a) (argsL := argsL) (rest := rest) hlen hst (by show 2 * 0 + _ ≤ _; omega) hd (fun _ _ => ⟨rfl, eT, hc, hs⟩)
  dsimp only [Pt.U, Pt.locs, Pt.cells, Pt.slots] at X1 l1 y1 z1 st1 hQ1
  subst l1 y1 z1
  exact Go.trans st1 (k v T1 Lc X1 hQ1)
/-- the call of an instance method, by its contract -/
theorem Go.callV {own C : String} {index : Nat} {y z : MethodName} {bytes : ByteArray} {maxL : Nat} {ret : Option FieldType} {rm : Room} {a : Addr} {argsL rest : List Value} {Q' : Option Value → Heap → List Loc → Prop} {W pc : Nat} {Ls : Array Slot} {st : List Value}
    (X : Stand p l e R s m args below meth c T locs cells slots) (hx : p.tables.exec = Jvm.exec) (hZ : Z.Warmed39 s.vm) (hown : s.vm.findClass own = some m.cls)
    (w1 : (Jvm.Cond.methodLink own index y).before a0 Z = true) (w2 : (Jvm.Cond.declares y).before a0 Z = true) (w5 : (Jvm.Cond.selects C y z).before a0 Z = true) (w6 : (Jvm.Cond.instanceMethod z).before a0 Z = true) (w3 : (Jvm.Cond.initialized z.cls).before a0 Z = true) (w4 : (Jvm.Cond.code z bytes maxL ret).before a0 Z = true)
    (nf : NotFace s y) (hy : y.cls ≠ "java/lang/invoke/MethodHandle" ∧ y.cls ≠ "java/lang/invoke/VarHandle") (E : Exa Z h a C) (hM : Met l Z z bytes maxL ret [] rm (.ref a :: argsL).toArray h Q') (eT : T.heap = h)
    (hlen : ∀ sig, parseMethodDescriptor y.desc = some sig → argsL.length = sig.parameters.length) (hd : decode c.code pc = .ok (.invokevirtual index, 3)) (hsize : Ls.size = c.maxLocals) (hst : st = argsL.reverse ++ .ref a :: rest) (hW : (rest.map fun v => v.category).sum ≤ W)
    (hf : rm.frames + 1 ≤ R.frames) (hl : W + (maxL + 11) + rm.locals ≤ R.locals) (hc : cells + rm.cells ≤ R.cells) (hs : slots + rm.slots ≤ R.slots)
    (k : ∀ v T' L, Stand p l e R s m args below meth c T' (locs ++ L) (cells + rm.cells) (slots + rm.slots) → Q' v T'.heap L → Go p e below s T' (mkF m (pc + 3) Ls (v.toList ++ rest)) Q kc ks) : Go p e below s T (mkF m pc Ls st) Q kc ks := by
  obtain ⟨cB, kB, q1, q2, q3⟩ := isOf hZ eT E
  obtain ⟨v, vm₁, ⟨T1, L1, k1, n1⟩, -, X1, ⟨Lc, hQ1, l1, y1, z1⟩, st1⟩ := X.virtualBack hx (y := y) (z := z) hown (mvT hZ w1) (mvT hZ w2) nf (mvT hZ w5) (mvT hZ w6) hy (backOf (W := W) hM hZ w4 w3 hf hl) q1 q3 (g := mkF m pc Ls st) rfl hsize (Steps.refl _) (argsL := argsL) (rest := rest) hlen hst (by show 2 * 0 + _ ≤ _; omega) hd (fun _ _ => ⟨rfl, eT, hc, hs⟩)
  dsimp only [Pt.U, Pt.locs, Pt.cells, Pt.slots] at X1 l1 y1 z1 st1 hQ1
  subst l1 y1 z1
  exact Go.trans st1 (k v T1 Lc X1 hQ1)
theorem Go.ldc {own : String} {index pc : Nat} {v : Int32} {Ls : Array Slot} {st : List Value} (X : Stand p l e R s m args below meth c T locs cells slots) (hx : p.tables.exec = Jvm.exec) (hZ : Z.Warmed39 s.vm) (hown : s.vm.findClass own = some m.cls) (w : (Jvm.Cond.constant own index v).before a0 Z = true) (hd : decode c.code pc = .ok (.ldc index, 2))
    (k : Go p e below s T (mkF m (pc + 2) Ls (.int v :: st)) Q kc ks) : Go p e below s T (mkF m pc Ls st) Q kc ks :=
  Go.step (fun _ => X.ldcI hx hown (mvT hZ w) (g := mkF m pc Ls st) rfl hd) k
theorem Go.ldcw {own : String} {index pc : Nat} {v : Int32} {Ls : Array Slot} {st : List Value} (X : Stand p l e R s m args below meth c T locs cells slots) (hx : p.tables.exec = Jvm.exec) (hZ : Z.Warmed39 s.vm) (hown : s.vm.findClass own = some m.cls) (w : (Jvm.Cond.constant own index v).before a0 Z = true) (hd : decode c.code pc = .ok (.ldc_w index, 3))
    (k : Go p e below s T (mkF m (pc + 3) Ls (.int v :: st)) Q kc ks) : Go p e below s T (mkF m pc Ls st) Q kc ks :=
  Go.step (fun _ => X.ldcWI hx hown (mvT hZ w) (g := mkF m pc Ls st) rfl hd) k
theorem Go.ldc2 {own : String} {index pc : Nat} {v : Int64} {Ls : Array Slot} {st : List Value} (X : Stand p l e R s m args below meth c T locs cells slots) (hx : p.tables.exec = Jvm.exec) (hZ : Z.Warmed39 s.vm) (hown : s.vm.findClass own = some m.cls) (w : (Jvm.Cond.constantLong own index v).before a0 Z = true) (hd : decode c.code pc = .ok (.ldc2_w index, 3))
    (k : Go p e below s T (mkF m (pc + 3) Ls (.long v :: st)) Q kc ks) : Go p e below s T (mkF m pc Ls st) Q kc ks :=
  Go.step (fun _ => X.ldc2J hx hown (mvT hZ w) (g := mkF m pc Ls st) rfl hd) k
end Base
end Jvm.OwnK
namespace Jvm.OwnK
open Sem ClassFile Op Lib Jvm.Free Jvm.Stand Jvm.LawKit Jvm.RoadKit
section Steps
variable {p : Program} {l : Launch} {e : Env} {R : Room} {s : State} {m : MethodId} {args : Array Value} {below : List Frame} {meth : Method} {c : Code} {T T' : State} {locs : List Loc} {cells slots : Nat} {Q : Option Value → Heap → List Loc → Prop} {kc ks : Nat} {Z : State} {a0 : Array Value} {h : Heap} {pc : Nat} {Ls : Array Slot} {rest : List Value}
theorem Go.iadd {x y : Int32} (X : Stand p l e R s m args below meth c T locs cells slots) (hx : p.tables.exec = Jvm.exec) (hd : decode c.code pc = .ok (.iadd, 1)) (k : Go p e below s T (mkF m (pc + 1) Ls (.int (x + y) :: rest)) Q kc ks) : Go p e below s T (mkF m pc Ls (.int y :: .int x :: rest)) Q kc ks :=
  Go.step (fun _ => XS.iadd X.here hx (g := mkF m pc Ls (.int y :: .int x :: rest)) rfl hd rfl) k
theorem Go.isub {x y : Int32} (X : Stand p l e R s m args below meth c T locs cells slots) (hx : p.tables.exec = Jvm.exec) (hd : decode c.code pc = .ok (.isub, 1)) (k : Go p e below s T (mkF m (pc + 1) Ls (.int (x - y) :: rest)) Q kc ks) : Go p e below s T (mkF m pc Ls (.int y :: .int x :: rest)) Q kc ks :=
  Go.step (fun _ => XS.isub X.here hx (g := mkF m pc Ls (.int y :: .int x :: rest)) rfl hd rfl) k
theorem Go.iand {x y : Int32} (X : Stand p l e R s m args below meth c T locs cells slots) (hx : p.tables.exec = Jvm.exec) (hd : decode c.code pc = .ok (.iand, 1)) (k : Go p e below s T (mkF m (pc + 1) Ls (.int (x &&& y) :: rest)) Q kc ks) : Go p e below s T (mkF m pc Ls (.int y :: .int x :: rest)) Q kc ks :=
  Go.step (fun _ => XS.iand X.here hx (g := mkF m pc Ls (.int y :: .int x :: rest)) rfl hd rfl) k
theorem Go.imul {x y : Int32} (X : Stand p l e R s m args below meth c T locs cells slots) (hx : p.tables.exec = Jvm.exec) (hd : decode c.code pc = .ok (.imul, 1)) (k : Go p e below s T (mkF m (pc + 1) Ls (.int (x * y) :: rest)) Q kc ks) : Go p e below s T (mkF m pc Ls (.int y :: .int x :: rest)) Q kc ks :=
  Go.step (fun _ => XS.imul X.here hx (g := mkF m pc Ls (.int y :: .int x :: rest)) rfl hd rfl) k
theorem Go.ixor {x y : Int32} (X : Stand p l e R s m args below meth c T locs cells slots) (hx : p.tables.exec = Jvm.exec) (hd : decode c.code pc = .ok (.ixor, 1)) (k : Go p e below s T (mkF m (pc + 1) Ls (.int (x ^^^ y) :: rest)) Q kc ks) : Go p e below s T (mkF m pc Ls (.int y :: .int x :: rest)) Q kc ks :=
  Go.step (fun _ => XT.ixor X.here hx (g := mkF m pc Ls (.int y :: .int x :: rest)) rfl hd rfl) k
theorem Go.ior {x y : Int32} (X : Stand p l e R s m args below meth c T locs cells slots) (hx : p.tables.exec = Jvm.exec) (hd : decode c.code pc = .ok (.ior, 1)) (k : Go p e below s T (mkF m (pc + 1) Ls (.int (x ||| y) :: rest)) Q kc ks) : Go p e below s T (mkF m pc Ls (.int y :: .int x :: rest)) Q kc ks :=
  Go.step (fun _ => XT.ior X.here hx (g := mkF m pc Ls (.int y :: .int x :: rest)) rfl hd rfl) k
theorem Go.ishl {x y : Int32} (X : Stand p l e R s m args below meth c T locs cells slots) (hx : p.tables.exec = Jvm.exec) (hd : decode c.code pc = .ok (.ishl, 1)) (k : Go p e below s T (mkF m (pc + 1) Ls (.int (x <<< (y &&& 31)) :: rest)) Q kc ks) : Go p e below s T (mkF m pc Ls (.int y :: .int x :: rest)) Q kc ks :=
  Go.step (fun _ => XT.ishl X.here hx (g := mkF m pc Ls (.int y :: .int x :: rest)) rfl hd rfl) k
theorem Go.ishr {x y : Int32} (X : Stand p l e R s m args below meth c T locs cells slots) (hx : p.tables.exec = Jvm.exec) (hd : decode c.code pc = .ok (.ishr, 1)) (k : Go p e below s T (mkF m (pc + 1) Ls (.int (x >>> (y &&& 31)) :: rest)) Q kc ks) : Go p e below s T (mkF m pc Ls (.int y :: .int x :: rest)) Q kc ks :=
  Go.step (fun _ => XT.ishr X.here hx (g := mkF m pc Ls (.int y :: .int x :: rest)) rfl hd rfl) k
theorem Go.iushr {x y : Int32} (X : Stand p l e R s m args below meth c T locs cells slots) (hx : p.tables.exec = Jvm.exec) (hd : decode c.code pc = .ok (.iushr, 1)) (k : Go p e below s T (mkF m (pc + 1) Ls (.int (XT.ushr x y) :: rest)) Q kc ks) : Go p e below s T (mkF m pc Ls (.int y :: .int x :: rest)) Q kc ks :=
  Go.step (fun _ => XT.iushr X.here hx (g := mkF m pc Ls (.int y :: .int x :: rest)) rfl hd rfl) k
theorem Go.idiv {x y : Int32} (X : Stand p l e R s m args below meth c T locs cells slots) (hx : p.tables.exec = Jvm.exec) (hd : decode c.code pc = .ok (.idiv, 1)) (hy : y ≠ 0) (k : Go p e below s T (mkF m (pc + 1) Ls (.int (x / y) :: rest)) Q kc ks) : Go p e below s T (mkF m pc Ls (.int y :: .int x :: rest)) Q kc ks :=
  Go.step (fun _ => XS.idiv X.here hx (g := mkF m pc Ls (.int y :: .int x :: rest)) rfl hd rfl hy) k
theorem Go.irem {x y : Int32} (X : Stand p l e R s m args below meth c T locs cells slots) (hx : p.tables.exec = Jvm.exec) (hd : decode c.code pc = .ok (.irem, 1)) (hy : y ≠ 0) (k : Go p e below s T (mkF m (pc + 1) Ls (.int (x % y) :: rest)) Q kc ks) : Go p e below s T (mkF m pc Ls (.int y :: .int x :: rest)) Q kc ks :=
  Go.step (fun _ => iremM X hx (g := mkF m pc Ls (.int y :: .int x :: rest)) rfl hd rfl hy) k
theorem Go.ladd {x y : Int64} (X : Stand p l e R s m args below meth c T locs cells slots) (hx : p.tables.exec = Jvm.exec) (hd : decode c.code pc = .ok (.ladd, 1)) (k : Go p e below s T (mkF m (pc + 1) Ls (.long (x + y) :: rest)) Q kc ks) : Go p e below s T (mkF m pc Ls (.long y :: .long x :: rest)) Q kc ks :=
  Go.step (fun _ => XT.ladd X.here hx (g := mkF m pc Ls (.long y :: .long x :: rest)) rfl hd rfl) k
theorem Go.lsub {x y : Int64} (X : Stand p l e R s m args below meth c T locs cells slots) (hx : p.tables.exec = Jvm.exec) (hd : decode c.code pc = .ok (.lsub, 1)) (k : Go p e below s T (mkF m (pc + 1) Ls (.long (x - y) :: rest)) Q kc ks) : Go p e below s T (mkF m pc Ls (.long y :: .long x :: rest)) Q kc ks :=
  Go.step (fun _ => XT.lsub X.here hx (g := mkF m pc Ls (.long y :: .long x :: rest)) rfl hd rfl) k
theorem Go.lmul {x y : Int64} (X : Stand p l e R s m args below meth c T locs cells slots) (hx : p.tables.exec = Jvm.exec) (hd : decode c.code pc = .ok (.lmul, 1)) (k : Go p e below s T (mkF m (pc + 1) Ls (.long (x * y) :: rest)) Q kc ks) : Go p e below s T (mkF m pc Ls (.long y :: .long x :: rest)) Q kc ks :=
  Go.step (fun _ => XT.lmul X.here hx (g := mkF m pc Ls (.long y :: .long x :: rest)) rfl hd rfl) k
theorem Go.land {x y : Int64} (X : Stand p l e R s m args below meth c T locs cells slots) (hx : p.tables.exec = Jvm.exec) (hd : decode c.code pc = .ok (.land, 1)) (k : Go p e below s T (mkF m (pc + 1) Ls (.long (x &&& y) :: rest)) Q kc ks) : Go p e below s T (mkF m pc Ls (.long y :: .long x :: rest)) Q kc ks :=
  Go.step (fun _ => XT.land X.here hx (g := mkF m pc Ls (.long y :: .long x :: rest)) rfl hd rfl) k
theorem Go.lor {x y : Int64} (X : Stand p l e R s m args below meth c T locs cells slots) (hx : p.tables.exec = Jvm.exec) (hd : decode c.code pc = .ok (.lor, 1)) (k : Go p e below s T (mkF m (pc + 1) Ls (.long (x ||| y) :: rest)) Q kc ks) : Go p e below s T (mkF m pc Ls (.long y :: .long x :: rest)) Q kc ks :=
  Go.step (fun _ => XT.lor X.here hx (g := mkF m pc Ls (.long y :: .long x :: rest)) rfl hd rfl) k
theorem Go.lxor {x y : Int64} (X : Stand p l e R s m args below meth c T locs cells slots) (hx : p.tables.exec = Jvm.exec) (hd : decode c.code pc = .ok (.lxor, 1)) (k : Go p e below s T (mkF m (pc + 1) Ls (.long (x ^^^ y) :: rest)) Q kc ks) : Go p e below s T (mkF m pc Ls (.long y :: .long x :: rest)) Q kc ks :=
  Go.step (fun _ => XT.lxor X.here hx (g := mkF m pc Ls (.long y :: .long x :: rest)) rfl hd rfl) k
theorem Go.lcmp {x y : Int64} (X : Stand p l e R s m args below meth c T locs cells slots) (hx : p.tables.exec = Jvm.exec) (hd : decode c.code pc = .ok (.lcmp, 1)) (k : Go p e below s T (mkF m (pc + 1) Ls (.int (XT.cmpL x y) :: rest)) Q kc ks) : Go p e below s T (mkF m pc Ls (.long y :: .long x :: rest)) Q kc ks :=
  Go.step (fun _ => XT.lcmp X.here hx (g := mkF m pc Ls (.long y :: .long x :: rest)) rfl hd rfl) k
theorem Go.lshl {x : Int64} {y : Int32} (X : Stand p l e R s m args below meth c T locs cells slots) (hx : p.tables.exec = Jvm.exec) (hd : decode c.code pc = .ok (.lshl, 1)) (k : Go p e below s T (mkF m (pc + 1) Ls (.long (x <<< (y.toInt64 &&& 63)) :: rest)) Q kc ks) : Go p e below s T (mkF m pc Ls (.int y :: .long x :: rest)) Q kc ks :=
  Go.step (fun _ => XT.lshl X.here hx (g := mkF m pc Ls (.int y :: .long x :: rest)) rfl hd rfl) k
theorem Go.lshr {x : Int64} {y : Int32} (X : Stand p l e R s m args below meth c T locs cells slots) (hx : p.tables.exec = Jvm.exec) (hd : decode c.code pc = .ok (.lshr, 1)) (k : Go p e below s T (mkF m (pc + 1) Ls (.long (x >>> (y.toInt64 &&& 63)) :: rest)) Q kc ks) : Go p e below s T (mkF m pc Ls (.int y :: .long x :: rest)) Q kc ks :=
  Go.step (fun _ => XT.lshr X.here hx (g := mkF m pc Ls (.int y :: .long x :: rest)) rfl hd rfl) k
theorem Go.lushr {x : Int64} {y : Int32} (X : Stand p l e R s m args below meth c T locs cells slots) (hx : p.tables.exec = Jvm.exec) (hd : decode c.code pc = .ok (.lushr, 1)) (k : Go p e below s T (mkF m (pc + 1) Ls (.long (XT.ushrL x y) :: rest)) Q kc ks) : Go p e below s T (mkF m pc Ls (.int y :: .long x :: rest)) Q kc ks :=
  Go.step (fun _ => XT.lushr X.here hx (g := mkF m pc Ls (.int y :: .long x :: rest)) rfl hd rfl) k
theorem Go.i2b {x : Int32} (X : Stand p l e R s m args below meth c T locs cells slots) (hx : p.tables.exec = Jvm.exec) (hd : decode c.code pc = .ok (.i2b, 1)) (k : Go p e below s T (mkF m (pc + 1) Ls (.int (x.toInt8.toInt32) :: rest)) Q kc ks) : Go p e below s T (mkF m pc Ls (.int x :: rest)) Q kc ks :=
  Go.step (fun _ => XT.i2b X.here hx (g := mkF m pc Ls (.int x :: rest)) rfl hd rfl) k
theorem Go.i2c {x : Int32} (X : Stand p l e R s m args below meth c T locs cells slots) (hx : p.tables.exec = Jvm.exec) (hd : decode c.code pc = .ok (.i2c, 1)) (k : Go p e below s T (mkF m (pc + 1) Ls (.int (x.toUInt32.toUInt16.toUInt32.toInt32) :: rest)) Q kc ks) : Go p e below s T (mkF m pc Ls (.int x :: rest)) Q kc ks :=
  Go.step (fun _ => XT.i2c X.here hx (g := mkF m pc Ls (.int x :: rest)) rfl hd rfl) k
theorem Go.i2s {x : Int32} (X : Stand p l e R s m args below meth c T locs cells slots) (hx : p.tables.exec = Jvm.exec) (hd : decode c.code pc = .ok (.i2s, 1)) (k : Go p e below s T (mkF m (pc + 1) Ls (.int (x.toInt16.toInt32) :: rest)) Q kc ks) : Go p e below s T (mkF m pc Ls (.int x :: rest)) Q kc ks :=
  Go.step (fun _ => XT.i2s X.here hx (g := mkF m pc Ls (.int x :: rest)) rfl hd rfl) k
theorem Go.i2l {x : Int32} (X : Stand p l e R s m args below meth c T locs cells slots) (hx : p.tables.exec = Jvm.exec) (hd : decode c.code pc = .ok (.i2l, 1)) (k : Go p e below s T (mkF m (pc + 1) Ls (.long (x.toInt64) :: rest)) Q kc ks) : Go p e below s T (mkF m pc Ls (.int x :: rest)) Q kc ks :=
  Go.step (fun _ => XT.i2l X.here hx (g := mkF m pc Ls (.int x :: rest)) rfl hd rfl) k
theorem Go.ineg {x : Int32} (X : Stand p l e R s m args below meth c T locs cells slots) (hx : p.tables.exec = Jvm.exec) (hd : decode c.code pc = .ok (.ineg, 1)) (k : Go p e below s T (mkF m (pc + 1) Ls (.int (-x) :: rest)) Q kc ks) : Go p e below s T (mkF m pc Ls (.int x :: rest)) Q kc ks :=
  Go.step (fun _ => XS.ineg X.here hx (g := mkF m pc Ls (.int x :: rest)) rfl hd rfl) k
theorem Go.l2i {x : Int64} (X : Stand p l e R s m args below meth c T locs cells slots) (hx : p.tables.exec = Jvm.exec) (hd : decode c.code pc = .ok (.l2i, 1)) (k : Go p e below s T (mkF m (pc + 1) Ls (.int (x.toInt32) :: rest)) Q kc ks) : Go p e below s T (mkF m pc Ls (.long x :: rest)) Q kc ks :=
  Go.step (fun _ => XT.l2i X.here hx (g := mkF m pc Ls (.long x :: rest)) rfl hd rfl) k
theorem Go.iconst {i : Int} (X : Stand p l e R s m args below meth c T locs cells slots) (hx : p.tables.exec = Jvm.exec) (hd : decode c.code pc = .ok (.iconst i, 1)) (k : Go p e below s T (mkF m (pc + 1) Ls (.int (Int32.ofInt i) :: rest)) Q kc ks) : Go p e below s T (mkF m pc Ls rest) Q kc ks :=
  Go.step (fun _ => XS.iconst X.here hx (g := mkF m pc Ls rest) rfl hd) k
theorem Go.bipush {i : Int} (X : Stand p l e R s m args below meth c T locs cells slots) (hx : p.tables.exec = Jvm.exec) (hd : decode c.code pc = .ok (.bipush i, 2)) (k : Go p e below s T (mkF m (pc + 2) Ls (.int (Int8.ofInt i).toInt32 :: rest)) Q kc ks) : Go p e below s T (mkF m pc Ls rest) Q kc ks :=
  Go.step (fun _ => XS.bipush X.here hx (g := mkF m pc Ls rest) rfl hd) k
theorem Go.sipush {i : Int} (X : Stand p l e R s m args below meth c T locs cells slots) (hx : p.tables.exec = Jvm.exec) (hd : decode c.code pc = .ok (.sipush i, 3)) (k : Go p e below s T (mkF m (pc + 3) Ls (.int (Int16.ofInt i).toInt32 :: rest)) Q kc ks) : Go p e below s T (mkF m pc Ls rest) Q kc ks :=
  Go.step (fun _ => XS.sipush X.here hx (g := mkF m pc Ls rest) rfl hd) k
theorem Go.lconst {k0 : Fin 2} (X : Stand p l e R s m args below meth c T locs cells slots) (hx : p.tables.exec = Jvm.exec) (hd : decode c.code pc = .ok (.lconst k0, 1)) (k : Go p e below s T (mkF m (pc + 1) Ls (.long (Int64.ofNat k0) :: rest)) Q kc ks) : Go p e below s T (mkF m pc Ls rest) Q kc ks :=
  Go.step (fun _ => XT.lconst X.here hx (g := mkF m pc Ls rest) rfl hd) k
theorem Go.aconst_null (X : Stand p l e R s m args below meth c T locs cells slots) (hx : p.tables.exec = Jvm.exec) (hd : decode c.code pc = .ok (.aconst_null, 1)) (k : Go p e below s T (mkF m (pc + 1) Ls (.null :: rest)) Q kc ks) : Go p e below s T (mkF m pc Ls rest) Q kc ks :=
  Go.step (fun _ => XS.aconstNull X.here hx (g := mkF m pc Ls rest) rfl hd) k
theorem Go.iload {k0 : Nat} {v : Int32} (X : Stand p l e R s m args below meth c T locs cells slots) (hx : p.tables.exec = Jvm.exec) (hd : decode c.code pc = .ok (.iload k0, 2)) (hl : Ls[k0]? = some (.val (.int v))) (k : Go p e below s T (mkF m (pc + 2) Ls (.int v :: rest)) Q kc ks) : Go p e below s T (mkF m pc Ls rest) Q kc ks :=
  Go.step (fun _ => XS.iload X.here hx (g := mkF m pc Ls rest) rfl hd hl) k
theorem Go.iloadN {k0 : Fin 4} {v : Int32} (X : Stand p l e R s m args below meth c T locs cells slots) (hx : p.tables.exec = Jvm.exec) (hd : decode c.code pc = .ok (.iload_n k0, 1)) (hl : Ls[k0.val]? = some (.val (.int v))) (k : Go p e below s T (mkF m (pc + 1) Ls (.int v :: rest)) Q kc ks) : Go p e below s T (mkF m pc Ls rest) Q kc ks :=
  Go.step (fun _ => XS.iloadN X.here hx (g := mkF m pc Ls rest) rfl hd hl) k
theorem Go.istore {k0 : Nat} {v : Int32} {l' : Array Slot} (X : Stand p l e R s m args below meth c T locs cells slots) (hx : p.tables.exec = Jvm.exec) (hd : decode c.code pc = .ok (.istore k0, 2)) (hl : storeLocals Ls k0 (.int v) = some l') (k : Go p e below s T (mkF m (pc + 2) l' rest) Q kc ks) : Go p e below s T (mkF m pc Ls (.int v :: rest)) Q kc ks :=
  Go.step (fun _ => XS.istore X.here hx (g := mkF m pc Ls (.int v :: rest)) rfl hd rfl hl) k
theorem Go.istoreN {k0 : Fin 4} {v : Int32} {l' : Array Slot} (X : Stand p l e R s m args below meth c T locs cells slots) (hx : p.tables.exec = Jvm.exec) (hd : decode c.code pc = .ok (.istore_n k0, 1)) (hl : storeLocals Ls k0.val (.int v) = some l') (k : Go p e below s T (mkF m (pc + 1) l' rest) Q kc ks) : Go p e below s T (mkF m pc Ls (.int v :: rest)) Q kc ks :=
  Go.step (fun _ => XS.istoreN X.here hx (g := mkF m pc Ls (.int v :: rest)) rfl hd rfl hl) k
theorem Go.lload {k0 : Nat} {v : Int64} (X : Stand p l e R s m args below meth c T locs cells slots) (hx : p.tables.exec = Jvm.exec) (hd : decode c.code pc = .ok (.lload k0, 2)) (hl : Ls[k0]? = some (.val (.long v))) (k : Go p e below s T (mkF m (pc + 2) Ls (.long v :: rest)) Q kc ks) : Go p e below s T (mkF m pc Ls rest) Q kc ks :=
  Go.step (fun _ => XT.lload X.here hx (g := mkF m pc Ls rest) rfl hd hl) k
theorem Go.lloadN {k0 : Fin 4} {v : Int64} (X : Stand p l e R s m args below meth c T locs cells slots) (hx : p.tables.exec = Jvm.exec) (hd : decode c.code pc = .ok (.lload_n k0, 1)) (hl : Ls[k0.val]? = some (.val (.long v))) (k : Go p e below s T (mkF m (pc + 1) Ls (.long v :: rest)) Q kc ks) : Go p e below s T (mkF m pc Ls rest) Q kc ks :=
  Go.step (fun _ => XT.lloadN X.here hx (g := mkF m pc Ls rest) rfl hd hl) k
theorem Go.lstore {k0 : Nat} {v : Int64} {l' : Array Slot} (X : Stand p l e R s m args below meth c T locs cells slots) (hx : p.tables.exec = Jvm.exec) (hd : decode c.code pc = .ok (.lstore k0, 2)) (hl : storeLocals Ls k0 (.long v) = some l') (k : Go p e below s T (mkF m (pc + 2) l' rest) Q kc ks) : Go p e below s T (mkF m pc Ls (.long v :: rest)) Q kc ks :=
  Go.step (fun _ => XT.lstore X.here hx (g := mkF m pc Ls (.long v :: rest)) rfl hd rfl hl) k
theorem Go.lstoreN {k0 : Fin 4} {v : Int64} {l' : Array Slot} (X : Stand p l e R s m args below meth c T locs cells slots) (hx : p.tables.exec = Jvm.exec) (hd : decode c.code pc = .ok (.lstore_n k0, 1)) (hl : storeLocals Ls k0.val (.long v) = some l') (k : Go p e below s T (mkF m (pc + 1) l' rest) Q kc ks) : Go p e below s T (mkF m pc Ls (.long v :: rest)) Q kc ks :=
  Go.step (fun _ => XT.lstoreN X.here hx (g := mkF m pc Ls (.long v :: rest)) rfl hd rfl hl) k
theorem Go.aload {k0 : Nat} {v : Value} (X : Stand p l e R s m args below meth c T locs cells slots) (hx : p.tables.exec = Jvm.exec) (hd : decode c.code pc = .ok (.aload k0, 2)) (hl : Ls[k0]? = some (.val v)) (hv : v.isRef = true) (k : Go p e below s T (mkF m (pc + 2) Ls (v :: rest)) Q kc ks) : Go p e below s T (mkF m pc Ls rest) Q kc ks :=
  Go.step (fun _ => XS.aload X.here hx (g := mkF m pc Ls rest) rfl hd hl hv) k
theorem Go.aloadN {k0 : Fin 4} {v : Value} (X : Stand p l e R s m args below meth c T locs cells slots) (hx : p.tables.exec = Jvm.exec) (hd : decode c.code pc = .ok (.aload_n k0, 1)) (hl : Ls[k0.val]? = some (.val v)) (hv : v.isRef = true) (k : Go p e below s T (mkF m (pc + 1) Ls (v :: rest)) Q kc ks) : Go p e below s T (mkF m pc Ls rest) Q kc ks :=
  Go.step (fun _ => XS.aloadN X.here hx (g := mkF m pc Ls rest) rfl hd hl hv) k
theorem Go.astore {k0 : Nat} {v : Value} {l' : Array Slot} (X : Stand p l e R s m args below meth c T locs cells slots) (hx : p.tables.exec = Jvm.exec) (hd : decode c.code pc = .ok (.astore k0, 2)) (hv : v.isRef = true) (hl : storeLocals Ls k0 v = some l') (k : Go p e below s T (mkF m (pc + 2) l' rest) Q kc ks) : Go p e below s T (mkF m pc Ls (v :: rest)) Q kc ks :=
  Go.step (fun _ => XS.astore X.here hx (g := mkF m pc Ls (v :: rest)) rfl hd rfl hv hl) k
theorem Go.astoreN {k0 : Fin 4} {v : Value} {l' : Array Slot} (X : Stand p l e R s m args below meth c T locs cells slots) (hx : p.tables.exec = Jvm.exec) (hd : decode c.code pc = .ok (.astore_n k0, 1)) (hv : v.isRef = true) (hl : storeLocals Ls k0.val v = some l') (k : Go p e below s T (mkF m (pc + 1) l' rest) Q kc ks) : Go p e below s T (mkF m pc Ls (v :: rest)) Q kc ks :=
  Go.step (fun _ => XS.astoreN X.here hx (g := mkF m pc Ls (v :: rest)) rfl hd rfl hv hl) k
theorem Go.iinc {k0 : Nat} {cst : Int} {x : Int32} {l' : Array Slot} (X : Stand p l e R s m args below meth c T locs cells slots) (hx : p.tables.exec = Jvm.exec) (hd : decode c.code pc = .ok (.iinc k0 cst, 3)) (hl : Ls[k0]? = some (.val (.int x))) (hs : storeLocals Ls k0 (.int (x + Int32.ofInt cst)) = some l') (k : Go p e below s T (mkF m (pc + 3) l' rest) Q kc ks) : Go p e below s T (mkF m pc Ls rest) Q kc ks :=
  Go.step (fun _ => XS.iinc X.here hx (g := mkF m pc Ls rest) rfl hd hl hs) k
theorem Go.dup {v : Value} (X : Stand p l e R s m args below meth c T locs cells slots) (hx : p.tables.exec = Jvm.exec) (hd : decode c.code pc = .ok (.dup, 1)) (hv : v.category = 1) (k : Go p e below s T (mkF m (pc + 1) Ls (v :: v :: rest)) Q kc ks) : Go p e below s T (mkF m pc Ls (v :: rest)) Q kc ks :=
  Go.step (fun _ => XS.dup X.here hx (g := mkF m pc Ls (v :: rest)) rfl hd rfl hv) k
theorem Go.pop {v : Value} (X : Stand p l e R s m args below meth c T locs cells slots) (hx : p.tables.exec = Jvm.exec) (hd : decode c.code pc = .ok (.pop, 1)) (hv : v.category = 1) (k : Go p e below s T (mkF m (pc + 1) Ls rest) Q kc ks) : Go p e below s T (mkF m pc Ls (v :: rest)) Q kc ks :=
  Go.step (fun _ => XT.pop X.here hx (g := mkF m pc Ls (v :: rest)) rfl hd rfl hv) k
theorem Go.dup_x1 {v w : Value} (X : Stand p l e R s m args below meth c T locs cells slots) (hx : p.tables.exec = Jvm.exec) (hd : decode c.code pc = .ok (.dup_x1, 1)) (hv : v.category = 1) (hw' : w.category = 1) (k : Go p e below s T (mkF m (pc + 1) Ls (v :: w :: v :: rest)) Q kc ks) : Go p e below s T (mkF m pc Ls (v :: w :: rest)) Q kc ks :=
  Go.step (fun _ => XT.dupX1 X.here hx (g := mkF m pc Ls (v :: w :: rest)) rfl hd rfl hv hw') k
theorem Go.dup2 {v w : Value} (X : Stand p l e R s m args below meth c T locs cells slots) (hx : p.tables.exec = Jvm.exec) (hd : decode c.code pc = .ok (.dup2, 1)) (hv : v.category = 1) (hw' : w.category = 1) (k : Go p e below s T (mkF m (pc + 1) Ls (v :: w :: v :: w :: rest)) Q kc ks) : Go p e below s T (mkF m pc Ls (v :: w :: rest)) Q kc ks :=
  Go.step (fun _ => XT.dup2 X.here hx (g := mkF m pc Ls (v :: w :: rest)) rfl hd rfl hv hw') k
theorem Go.goto {o : Int} {pc' : Nat} (X : Stand p l e R s m args below meth c T locs cells slots) (hx : p.tables.exec = Jvm.exec) (hd : decode c.code pc = .ok (.goto o, 3)) (ho : 0 ≤ (pc : Int) + o) (hp : ((pc : Int) + o).toNat = pc') (k : Go p e below s T (mkF m pc' Ls rest) Q kc ks) : Go p e below s T (mkF m pc Ls rest) Q kc ks :=
  Go.step (fun _ => XS.goto X.here hx (g := mkF m pc Ls rest) rfl rfl hd ho hp) k
theorem Go.ifYes {cd : ClassFile.Cond} {x : Int32} {o : Int} {pc' : Nat} (X : Stand p l e R s m args below meth c T locs cells slots) (hx : p.tables.exec = Jvm.exec) (hd : decode c.code pc = .ok (.ifCond cd o, 3)) (hc : ifCond.holds cd x = true) (ho : 0 ≤ (pc : Int) + o) (hp : ((pc : Int) + o).toNat = pc') (k : Go p e below s T (mkF m pc' Ls rest) Q kc ks) : Go p e below s T (mkF m pc Ls (.int x :: rest)) Q kc ks :=
  Go.step (fun _ => XS.ifYes X.here hx (g := mkF m pc Ls (.int x :: rest)) rfl rfl hd rfl hc ho hp) k
theorem Go.ifNo {cd : ClassFile.Cond} {x : Int32} {o : Int} (X : Stand p l e R s m args below meth c T locs cells slots) (hx : p.tables.exec = Jvm.exec) (hd : decode c.code pc = .ok (.ifCond cd o, 3)) (hc : ifCond.holds cd x = false) (k : Go p e below s T (mkF m (pc + 3) Ls rest) Q kc ks) : Go p e below s T (mkF m pc Ls (.int x :: rest)) Q kc ks :=
  Go.step (fun _ => XS.ifNo X.here hx (g := mkF m pc Ls (.int x :: rest)) rfl hd rfl hc) k
theorem Go.icmpYes {cd : ClassFile.Cond} {x y : Int32} {o : Int} {pc' : Nat} (X : Stand p l e R s m args below meth c T locs cells slots) (hx : p.tables.exec = Jvm.exec) (hd : decode c.code pc = .ok (.if_icmp cd o, 3)) (hc : if_icmp.holds cd x y = true) (ho : 0 ≤ (pc : Int) + o) (hp : ((pc : Int) + o).toNat = pc') (k : Go p e below s T (mkF m pc' Ls rest) Q kc ks) : Go p e below s T (mkF m pc Ls (.int y :: .int x :: rest)) Q kc ks :=
  Go.step (fun _ => XS.icmpYes X.here hx (g := mkF m pc Ls (.int y :: .int x :: rest)) rfl rfl hd rfl hc ho hp) k
theorem Go.icmpNo {cd : ClassFile.Cond} {x y : Int32} {o : Int} (X : Stand p l e R s m args below meth c T locs cells slots) (hx : p.tables.exec = Jvm.exec) (hd : decode c.code pc = .ok (.if_icmp cd o, 3)) (hc : if_icmp.holds cd x y = false) (k : Go p e below s T (mkF m (pc + 3) Ls rest) Q kc ks) : Go p e below s T (mkF m pc Ls (.int y :: .int x :: rest)) Q kc ks :=
  Go.step (fun _ => XS.icmpNo X.here hx (g := mkF m pc Ls (.int y :: .int x :: rest)) rfl hd rfl hc) k
theorem Go.acmpYes {cd : ClassFile.ACond} {x y : Value} {o : Int} {pc' : Nat} (X : Stand p l e R s m args below meth c T locs cells slots) (hx : p.tables.exec = Jvm.exec) (hd : decode c.code pc = .ok (.if_acmp cd o, 3)) (h1 : x.isRef = true) (h2 : y.isRef = true) (hc : XT.acmp cd x y = true) (ho : 0 ≤ (pc : Int) + o) (hp : ((pc : Int) + o).toNat = pc') (k : Go p e below s T (mkF m pc' Ls rest) Q kc ks) : Go p e below s T (mkF m pc Ls (y :: x :: rest)) Q kc ks :=
  Go.step (fun _ => XT.acmpYes X.here hx (g := mkF m pc Ls (y :: x :: rest)) rfl rfl hd rfl h1 h2 hc ho hp) k
theorem Go.acmpNo {cd : ClassFile.ACond} {x y : Value} {o : Int} (X : Stand p l e R s m args below meth c T locs cells slots) (hx : p.tables.exec = Jvm.exec) (hd : decode c.code pc = .ok (.if_acmp cd o, 3)) (h1 : x.isRef = true) (h2 : y.isRef = true) (hc : XT.acmp cd x y = false) (k : Go p e below s T (mkF m (pc + 3) Ls rest) Q kc ks) : Go p e below s T (mkF m pc Ls (y :: x :: rest)) Q kc ks :=
  Go.step (fun _ => XT.acmpNo X.here hx (g := mkF m pc Ls (y :: x :: rest)) rfl hd rfl h1 h2 hc) k
theorem Go.ifnullYes {a : Addr} {o : Int} {pc' : Nat} (X : Stand p l e R s m args below meth c T locs cells slots) (hx : p.tables.exec = Jvm.exec) (hd : decode c.code pc = .ok (.ifnull o, 3)) (ho : 0 ≤ (pc : Int) + o) (hp : ((pc : Int) + o).toNat = pc') (k : Go p e below s T (mkF m pc' Ls rest) Q kc ks) : Go p e below s T (mkF m pc Ls (.null :: rest)) Q kc ks :=
  Go.step (fun _ => XS.ifnullYes X.here hx (g := mkF m pc Ls (.null :: rest)) rfl rfl hd rfl ho hp) k
theorem Go.ifnullNo {a : Addr} {o : Int} (X : Stand p l e R s m args below meth c T locs cells slots) (hx : p.tables.exec = Jvm.exec) (hd : decode c.code pc = .ok (.ifnull o, 3)) (k : Go p e below s T (mkF m (pc + 3) Ls rest) Q kc ks) : Go p e below s T (mkF m pc Ls (.ref a :: rest)) Q kc ks :=
  Go.step (fun _ => XS.ifnullNo X.here hx (g := mkF m pc Ls (.ref a :: rest)) rfl hd rfl) k
theorem Go.ifnonnullYes {a : Addr} {o : Int} {pc' : Nat} (X : Stand p l e R s m args below meth c T locs cells slots) (hx : p.tables.exec = Jvm.exec) (hd : decode c.code pc = .ok (.ifnonnull o, 3)) (ho : 0 ≤ (pc : Int) + o) (hp : ((pc : Int) + o).toNat = pc') (k : Go p e below s T (mkF m pc' Ls rest) Q kc ks) : Go p e below s T (mkF m pc Ls (.ref a :: rest)) Q kc ks :=
  Go.step (fun _ => XT.ifnonnullYes X.here hx (g := mkF m pc Ls (.ref a :: rest)) rfl rfl hd rfl ho hp) k
theorem Go.ifnonnullNo {a : Addr} {o : Int} (X : Stand p l e R s m args below meth c T locs cells slots) (hx : p.tables.exec = Jvm.exec) (hd : decode c.code pc = .ok (.ifnonnull o, 3)) (k : Go p e below s T (mkF m (pc + 3) Ls rest) Q kc ks) : Go p e below s T (mkF m pc Ls (.null :: rest)) Q kc ks :=
  Go.step (fun _ => XT.ifnonnullNo X.here hx (g := mkF m pc Ls (.null :: rest)) rfl hd rfl) k
end Steps
section Conds
variable {x y : Int32} {u v : Int64} {a b : Addr}
theorem ac_eq_p (h : a = b) : XT.acmp .eq (.ref a) (.ref b) = true := by simp [XT.acmp, h]
theorem ac_eq_n (h : ¬ a = b) : XT.acmp .eq (.ref a) (.ref b) = false := by simp [XT.acmp, h]
theorem ac_ne_p (h : a = b) : XT.acmp .ne (.ref a) (.ref b) = false := by simp [XT.acmp, h]
theorem ac_ne_n (h : ¬ a = b) : XT.acmp .ne (.ref a) (.ref b) = true := by simp [XT.acmp, h]
end Conds
end Jvm.OwnK
namespace Jvm.OwnK
open Sem ClassFile Op Lib Jvm.Free Jvm.Stand Jvm.LawKit Jvm.RoadKit
section Heap
variable {p : Program} {l : Launch} {e : Env} {R : Room} {s : State} {m : MethodId} {args : Array Value} {below : List Frame} {meth : Method} {c : Code} {T T' : State} {locs : List Loc} {cells slots : Nat} {Q : Option Value → Heap → List Loc → Prop} {kc ks : Nat} {Z : State} {a0 : Array Value} {h h' : Heap} {pc : Nat} {Ls : Array Slot} {rest : List Value}
theorem Go.getF {own R0 O n d : String} {index : Nat} {a : Addr} {v : Value} (X : Stand p l e R s m args below meth c T locs cells slots) (hx : p.tables.exec = Jvm.exec) (hZ : Z.Warmed39 s.vm) (hown : s.vm.findClass own = some m.cls) (w : (Jvm.Cond.fieldLink own index R0 n d).before a0 Z = true) (via : Via Z R0 O n d) (eT : T.heap = h) (F : Fld Z h a O n d v) (hd : decode c.code pc = .ok (.getfield index, 3))
    (k : ∀ T', Stand p l e R s m args below meth c T' locs cells slots → T'.heap = h → Go p e below s T' (mkF m (pc + 3) Ls (v :: rest)) Q kc ks) : Go p e below s T (mkF m pc Ls (.ref a :: rest)) Q kc ks := by
  obtain ⟨T', X', e', st⟩ := RoadKit.getF X hx hZ hown (host := "") (Or.inl w) via eT F (g := mkF m pc Ls (.ref a :: rest)) rfl rfl hd
  exact Go.step st (k T' X' e')
theorem Go.getS {own R0 O n d : String} {index : Nat} {v : Value} (X : Stand p l e R s m args below meth c T locs cells slots) (hx : p.tables.exec = Jvm.exec) (hZ : Z.Warmed39 s.vm) (hown : s.vm.findClass own = some m.cls) (w : (Jvm.Cond.fieldLink own index R0 n d).before a0 Z = true) (via : Via Z R0 O n d) (eT : T.heap = h) (F : Sta Z h O n d v) (hd : decode c.code pc = .ok (.getstatic index, 3))
    (k : ∀ T', Stand p l e R s m args below meth c T' locs cells slots → T'.heap = h → Go p e below s T' (mkF m (pc + 3) Ls (v :: rest)) Q kc ks) : Go p e below s T (mkF m pc Ls rest) Q kc ks := by
  obtain ⟨T', X', e', st⟩ := RoadKit.getS X hx hZ hown (host := "") w via eT F (g := mkF m pc Ls rest) rfl hd
  exact Go.step st (k T' X' e')
theorem Go.putF {own R0 O n d C : String} {index kk : Nat} {ty : FieldType} {a : Addr} {v old : Value} (X : Stand p l e R s m args below meth c T locs cells slots) (hx : p.tables.exec = Jvm.exec) (hZ : Z.Warmed39 s.vm) (hown : s.vm.findClass own = some m.cls) (w : (Jvm.Cond.fieldLink own index R0 n d).before a0 Z = true) (via : Via Z R0 O n d) (eT : T.heap = h) (F : Fld Z h a O n d old) (E : Exa Z h a C)
    (L : (Jvm.Cond.lays C O n d).before a0 Z = true ∨ ((Jvm.Cond.laysFinal C O n d).before a0 Z = true ∧ own = O ∧ meth.name = "<init>")) (wi : (Jvm.Cond.instantiable C kk).before a0 Z = true) (hty : parseFieldDescriptor d = some ty) (hn : narrow ty v = v) (hf : fits ty v = true) (hd : decode c.code pc = .ok (.putfield index, 3))
    (k : ∀ T' h', Stand p l e R s m args below meth c T' (locs ++ [⟨a, Jvm.RoadKit.slotOf Z O n d⟩]) cells slots → T'.heap = h' → Wr h h' a (Jvm.RoadKit.slotOf Z O n d) v → Go p e below s T' (mkF m (pc + 3) Ls rest) Q kc ks) : Go p e below s T (mkF m pc Ls (v :: .ref a :: rest)) Q kc ks := by
  obtain ⟨T', h', X', e', W, st⟩ := RoadKit.putF X hx hZ hown (host := "") (Or.inl w) via eT F E L wi hty hn hf (g := mkF m pc Ls (v :: .ref a :: rest)) rfl rfl hd
  exact Go.step st (k T' h' X' e' W)
theorem Go.initO {own : String} {idx : Nat} {W : Nat} {a : Addr} (X : Stand p l e R s m args below meth c T locs cells slots) (hx : p.tables.exec = Jvm.exec) (hZ : Z.Warmed39 s.vm) (hown : s.vm.findClass own = some m.cls) (w1 : (Jvm.Cond.methodLink own idx Lib.objectInit).before a0 Z = true) (w2 : (Jvm.Cond.instanceMethod Lib.objectInit).before a0 Z = true)
    (w3 : (Jvm.Cond.code Lib.objectInit ⟨#[0xb1]⟩ 1 none).before a0 Z = true) (eT : T.heap = h) (hd : decode c.code pc = .ok (.invokespecial idx, 3)) (hsize : Ls.size = c.maxLocals) (hW : (rest.map fun v => v.category).sum ≤ W) (hf : 1 ≤ R.frames) (hl : W + 12 ≤ R.locals)
    (k : ∀ T', Stand p l e R s m args below meth c T' locs cells slots → T'.heap = h → Go p e below s T' (mkF m (pc + 3) Ls rest) Q kc ks) : Go p e below s T (mkF m pc Ls (.ref a :: rest)) Q kc ks := by
  obtain ⟨T', X', e', st⟩ := RoadKit.initO X hx hZ hown w1 w2 w3 eT (g := mkF m pc Ls (.ref a :: rest)) rfl hsize rfl hd hf (W := W) (by show 2 * 0 + _ ≤ _; omega) hl
  exact Go.step st (k T' X' e')
theorem Go.newO {own C : String} {index n : Nat} (X : Stand p l e R s m args below meth c T locs cells slots) (hx : p.tables.exec = Jvm.exec) (hZ : Z.Warmed39 s.vm) (hown : s.vm.findClass own = some m.cls) (w : (Jvm.Cond.classLink own index C).before a0 Z = true) (wi : (Jvm.Cond.instantiable C n).before a0 Z = true) (wz : (Jvm.Cond.initialized C).before a0 Z = true) (eT : T.heap = h)
    (hd : decode c.code pc = .ok (.new index, 3)) (hc : cells + 1 ≤ R.cells) (hl : slots + n ≤ R.slots)
    (k : ∀ T' h' a, a = h.size → Stand p l e R s m args below meth c T' locs (cells + 1) (slots + n) → T'.heap = h' → Ext h h' → Exa Z h' a C → (∀ {O nm d : String} {ty : FieldType}, Laid Z a0 C O nm d → parseFieldDescriptor d = some ty → Fld Z h' a O nm d (defaultValue ty)) →
      Go p e below s T' (mkF m (pc + 3) Ls (.ref a :: rest)) Q kc ks) : Go p e below s T (mkF m pc Ls rest) Q kc ks := by
  obtain ⟨T', h', X', e', E, A, D, -, st⟩ := RoadKit.newO X hx hZ hown w wi wz eT (g := mkF m pc Ls rest) rfl hd hc hl
  exact Go.step st (k T' h' _ rfl X' e' E A D)
theorem Go.ccast {own K : String} {index : Nat} {a : Addr} (X : Stand p l e R s m args below meth c T locs cells slots) (hx : p.tables.exec = Jvm.exec) (hZ : Z.Warmed39 s.vm) (hown : s.vm.findClass own = some m.cls) (w : (Jvm.Cond.classLink own index K).before a0 Z = true) (eT : T.heap = h) (F : Ins Z h a K true) (hd : decode c.code pc = .ok (.checkcast index, 3))
    (k : ∀ T', Stand p l e R s m args below meth c T' locs cells slots → T'.heap = h → Go p e below s T' (mkF m (pc + 3) Ls (.ref a :: rest)) Q kc ks) : Go p e below s T (mkF m pc Ls (.ref a :: rest)) Q kc ks := by
  obtain ⟨T', X', e', st⟩ := castY X hx hZ hown w eT F (g := mkF m pc Ls (.ref a :: rest)) rfl rfl hd
  exact Go.step st (k T' X' e')
theorem Go.instY {own K : String} {index : Nat} {a : Addr} (X : Stand p l e R s m args below meth c T locs cells slots) (hx : p.tables.exec = Jvm.exec) (hZ : Z.Warmed39 s.vm) (hown : s.vm.findClass own = some m.cls) (w : (Jvm.Cond.classLink own index K).before a0 Z = true) (eT : T.heap = h) (F : Ins Z h a K true) (hd : decode c.code pc = .ok (.instanceof index, 3))
    (k : ∀ T', Stand p l e R s m args below meth c T' locs cells slots → T'.heap = h → Go p e below s T' (mkF m (pc + 3) Ls (.int 1 :: rest)) Q kc ks) : Go p e below s T (mkF m pc Ls (.ref a :: rest)) Q kc ks := by
  obtain ⟨T', X', e', st⟩ := RoadKit.instY X hx hZ hown w eT F (g := mkF m pc Ls (.ref a :: rest)) rfl rfl hd
  exact Go.step st (k T' X' e')
theorem Go.instNull {index : Nat} (X : Stand p l e R s m args below meth c T locs cells slots) (hx : p.tables.exec = Jvm.exec) (hd : decode c.code pc = .ok (.instanceof index, 3))
    (k : Go p e below s T (mkF m (pc + 3) Ls (.int 0 :: rest)) Q kc ks) : Go p e below s T (mkF m pc Ls (.null :: rest)) Q kc ks :=
  Go.step (X.instanceofNull hx (g := mkF m pc Ls (.null :: rest)) rfl rfl hd) k
theorem Go.instNo {own K C : String} {index : Nat} {a : Addr} (X : Stand p l e R s m args below meth c T locs cells slots) (hx : p.tables.exec = Jvm.exec) (hZ : Z.Warmed39 s.vm) (hown : s.vm.findClass own = some m.cls) (w : (Jvm.Cond.classLink own index K).before a0 Z = true) (eT : T.heap = h) (E : Exa Z h a C) (F : ∃ c t, Z.vm.findClass C = some c ∧ Z.vm.findClass K = some t ∧ Z.vm.assignable c t = false) (hd : decode c.code pc = .ok (.instanceof index, 3))
    (k : ∀ T', Stand p l e R s m args below meth c T' locs cells slots → T'.heap = h → Go p e below s T' (mkF m (pc + 3) Ls (.int 0 :: rest)) Q kc ks) : Go p e below s T (mkF m pc Ls (.ref a :: rest)) Q kc ks := by
  obtain ⟨T', X', e', st⟩ := RoadKit.instNo X hx hZ hown w eT E F (g := mkF m pc Ls (.ref a :: rest)) rfl rfl hd
  exact Go.step st (k T' X' e')
/-- an array: its class, length n, its component i is f i -/
def Af (Z : State) (h : Heap) (a : Addr) (k : ClassId) (ty : FieldType) (n : Nat) (f : Nat → Value) : Prop := ∃ c : Cell, Arr Z h a c ty ∧ c.cls = k ∧ c.slots.size = n ∧ n < 2 ^ 31 ∧ ∀ i, i < n → c.slots[i]? = some (f i)
def updV (f : Nat → Value) (j : Nat) (v : Value) : Nat → Value := fun i => if i = j then v else f i
variable {a b : Addr} {cid : ClassId} {ty : FieldType} {n : Nat} {f f' : Nat → Value} {ws : List Addr} {sl : Nat} {v : Value}
theorem Af.lt (F : Af Z h a cid ty n f) : a < h.size := by obtain ⟨_, A, -⟩ := F; exact A.lt
theorem Af.ext (E : Ext h h') (F : Af Z h a cid ty n f) : Af Z h' a cid ty n f := by obtain ⟨cl, A, r⟩ := F; exact ⟨cl, A.ext E, r⟩
theorem Af.other (W : Wr h h' b sl v) (F : Af Z h a cid ty n f) (q : a ≠ b) : Af Z h' a cid ty n f := by obtain ⟨cl, A, r⟩ := F; exact ⟨cl, A.other W q, r⟩
theorem Af.keep (F : Af Z h a cid ty n f) (K : Keep h h' ws) (q : a ∉ ws) : Af Z h' a cid ty n f := by obtain ⟨cl, A, r⟩ := F; exact ⟨cl, ⟨K.2.1 a cl A.1 q, A.2⟩, r⟩
theorem Af.congr (F : Af Z h a cid ty n f) (q : ∀ i, i < n → f' i = f i) : Af Z h a cid ty n f' := by obtain ⟨cl, A, r1, r2, r3, r4⟩ := F; exact ⟨cl, A, r1, r2, r3, fun i hi => by rw [q i hi]; exact r4 i hi⟩
theorem Af.set (F : Af Z h a cid ty n f) (W : Wr h h' a sl v) : Af Z h' a cid ty n (updV f sl v) := by
  obtain ⟨cl, A, r1, r2, r3, r4⟩ := F
  refine ⟨_, A.same W, r1, by rw [sz_set]; exact r2, r3, fun i hi => ?_⟩
  by_cases q : i = sl
  · subst q; simp [updV, Cell.setSlot, r2, hi]
  · simp only [updV, if_neg q]; rw [← r4 i hi]; simp [Cell.setSlot, Array.getElem?_setIfInBounds, Ne.symm q]
theorem Af.arv (A : Arr Z h a (newA cid ty z) ty) (q : ¬ z < 0) : Af Z h a cid ty z.toNatClampNeg (fun _ => defaultValue ty) :=
  ⟨_, A, rfl, sz_new _ _ _, by have := (back32 q).2; exact this, fun i hi => by simp [newA, hi]⟩
def updI (g : Nat → Int32) (j : Nat) (v : Int32) : Nat → Int32 := fun i => if i = j then v else g i
def updJ (g : Nat → Int64) (j : Nat) (v : Int64) : Nat → Int64 := fun i => if i = j then v else g i
theorem Af.updI {g : Nat → Int32} {j : Nat} {x : Int32} (A : Af Z h a cid ty n (updV (fun i => Value.int (g i)) j (.int x))) : Af Z h a cid ty n (fun i => Value.int (Jvm.OwnK.updI g j x i)) :=
  A.congr fun i _ => by simp only [Jvm.OwnK.updI, updV]; split <;> rfl
theorem Af.updJ {g : Nat → Int64} {j : Nat} {x : Int64} (A : Af Z h a cid ty n (updV (fun i => Value.long (g i)) j (.long x))) : Af Z h a cid ty n (fun i => Value.long (Jvm.OwnK.updJ g j x i)) :=
  A.congr fun i _ => by simp only [Jvm.OwnK.updJ, updV]; split <;> rfl
theorem in_of {cl : Cell} {j : Int32} (r2 : cl.slots.size = n) (h1 : ¬ j < 0) (h2 : j.toNatClampNeg < n) : ¬ (j < 0 ∨ cl.slots.size ≤ j.toNatClampNeg) := fun q => q.elim h1 fun z => by omega
theorem Go.alen (X : Stand p l e R s m args below meth c T locs cells slots) (hx : p.tables.exec = Jvm.exec) (hZ : Z.Warmed39 s.vm) (eT : T.heap = h) (A : Af Z h a cid ty n f) (hd : decode c.code pc = .ok (.arraylength, 1)) (k : Go p e below s T (mkF m (pc + 1) Ls (.int n.toInt32 :: rest)) Q kc ks) : Go p e below s T (mkF m pc Ls (.ref a :: rest)) Q kc ks := by
  obtain ⟨cl, A1, -, r2, -⟩ := A
  subst r2
  exact Go.step (fun target => X.arraylength hx (by rw [eT]; exact A1.1) (State.isArrayOf_alike hZ.alike A1.2.1) (g := mkF m pc Ls (.ref a :: rest)) rfl rfl hd target) k
theorem Go.iaload {j : Int32} (X : Stand p l e R s m args below meth c T locs cells slots) (hx : p.tables.exec = Jvm.exec) (hZ : Z.Warmed39 s.vm) (eT : T.heap = h) (A : Af Z h a cid .int n f) (h1 : ¬ j < 0) (h2 : j.toNatClampNeg < n) (hd : decode c.code pc = .ok (.iaload, 1)) (k : Go p e below s T (mkF m (pc + 1) Ls (f j.toNatClampNeg :: rest)) Q kc ks) : Go p e below s T (mkF m pc Ls (.int j :: .ref a :: rest)) Q kc ks := by
  obtain ⟨cl, A1, -, r2, -, r4⟩ := A
  exact Go.step (fun target => X.iaload hx (by rw [eT]; exact A1.1) (State.isArrayOf_alike hZ.alike A1.2.1) A1.2.2 (in_of r2 h1 h2) (r4 _ h2) (g := mkF m pc Ls (.int j :: .ref a :: rest)) rfl rfl hd target) k
theorem Go.laload {j : Int32} (X : Stand p l e R s m args below meth c T locs cells slots) (hx : p.tables.exec = Jvm.exec) (hZ : Z.Warmed39 s.vm) (eT : T.heap = h) (A : Af Z h a cid .long n f) (h1 : ¬ j < 0) (h2 : j.toNatClampNeg < n) (hd : decode c.code pc = .ok (.laload, 1)) (k : Go p e below s T (mkF m (pc + 1) Ls (f j.toNatClampNeg :: rest)) Q kc ks) : Go p e below s T (mkF m pc Ls (.int j :: .ref a :: rest)) Q kc ks := by
  obtain ⟨cl, A1, -, r2, -, r4⟩ := A
  exact Go.step (fun target => X.laload hx (by rw [eT]; exact A1.1) (State.isArrayOf_alike hZ.alike A1.2.1) A1.2.2 (in_of r2 h1 h2) (r4 _ h2) (g := mkF m pc Ls (.int j :: .ref a :: rest)) rfl rfl hd target) k
theorem Go.caload {j : Int32} (X : Stand p l e R s m args below meth c T locs cells slots) (hx : p.tables.exec = Jvm.exec) (hZ : Z.Warmed39 s.vm) (eT : T.heap = h) (A : Af Z h a cid .char n f) (h1 : ¬ j < 0) (h2 : j.toNatClampNeg < n) (hd : decode c.code pc = .ok (.caload, 1)) (k : Go p e below s T (mkF m (pc + 1) Ls (f j.toNatClampNeg :: rest)) Q kc ks) : Go p e below s T (mkF m pc Ls (.int j :: .ref a :: rest)) Q kc ks := by
  obtain ⟨cl, A1, -, r2, -, r4⟩ := A
  exact Go.step (fun target => X.caload hx (by rw [eT]; exact A1.1) (State.isArrayOf_alike hZ.alike A1.2.1) A1.2.2 (in_of r2 h1 h2) (r4 _ h2) (g := mkF m pc Ls (.int j :: .ref a :: rest)) rfl rfl hd target) k
theorem Go.aaload {j : Int32} (X : Stand p l e R s m args below meth c T locs cells slots) (hx : p.tables.exec = Jvm.exec) (hZ : Z.Warmed39 s.vm) (eT : T.heap = h) (A : Af Z h a cid ty n f) (hty : ty.isReference = true) (h1 : ¬ j < 0) (h2 : j.toNatClampNeg < n) (hd : decode c.code pc = .ok (.aaload, 1)) (k : Go p e below s T (mkF m (pc + 1) Ls (f j.toNatClampNeg :: rest)) Q kc ks) : Go p e below s T (mkF m pc Ls (.int j :: .ref a :: rest)) Q kc ks := by
  obtain ⟨cl, A1, -, r2, -, r4⟩ := A
  exact Go.step (fun target => X.aaload hx (by rw [eT]; exact A1.1) (State.isArrayOf_alike hZ.alike A1.2.1) hty A1.2.2 (in_of r2 h1 h2) (r4 _ h2) (g := mkF m pc Ls (.int j :: .ref a :: rest)) rfl rfl hd target) k
theorem Go.baloadB {j : Int32} (X : Stand p l e R s m args below meth c T locs cells slots) (hx : p.tables.exec = Jvm.exec) (hZ : Z.Warmed39 s.vm) (eT : T.heap = h) (A : Af Z h a cid .byte n f) (h1 : ¬ j < 0) (h2 : j.toNatClampNeg < n) (hd : decode c.code pc = .ok (.baload, 1)) (k : Go p e below s T (mkF m (pc + 1) Ls (f j.toNatClampNeg :: rest)) Q kc ks) : Go p e below s T (mkF m pc Ls (.int j :: .ref a :: rest)) Q kc ks := by
  obtain ⟨cl, A1, -, r2, -, r4⟩ := A
  exact Go.step (fun target => X.baloadBytes hx (by rw [eT]; exact A1.1) (State.isArrayOf_alike hZ.alike A1.2.1) A1.2.2 (in_of r2 h1 h2) (r4 _ h2) (g := mkF m pc Ls (.int j :: .ref a :: rest)) rfl rfl hd target) k
theorem Go.baloadZ {j : Int32} (X : Stand p l e R s m args below meth c T locs cells slots) (hx : p.tables.exec = Jvm.exec) (hZ : Z.Warmed39 s.vm) (eT : T.heap = h) (A : Af Z h a cid .boolean n f) (h1 : ¬ j < 0) (h2 : j.toNatClampNeg < n) (hd : decode c.code pc = .ok (.baload, 1)) (k : Go p e below s T (mkF m (pc + 1) Ls (f j.toNatClampNeg :: rest)) Q kc ks) : Go p e below s T (mkF m pc Ls (.int j :: .ref a :: rest)) Q kc ks := by
  obtain ⟨cl, A1, -, r2, -, r4⟩ := A
  exact Go.step (fun target => X.baloadBooleans hx (by rw [eT]; exact A1.1) (State.isArrayOf_alike hZ.alike A1.2.1) A1.2.2 (in_of r2 h1 h2) (r4 _ h2) (g := mkF m pc Ls (.int j :: .ref a :: rest)) rfl rfl hd target) k
theorem Go.iastore {j x : Int32} (X : Stand p l e R s m args below meth c T locs cells slots) (hx : p.tables.exec = Jvm.exec) (hZ : Z.Warmed39 s.vm) (eT : T.heap = h) (A : Af Z h a cid .int n f) (h1 : ¬ j < 0) (h2 : j.toNatClampNeg < n) (hd : decode c.code pc = .ok (.iastore, 1))
    (k : ∀ T' h', Stand p l e R s m args below meth c T' (locs ++ [⟨a, j.toNatClampNeg⟩]) cells slots → T'.heap = h' → Wr h h' a j.toNatClampNeg (.int x) → Af Z h' a cid .int n (updV f j.toNatClampNeg (.int x)) → Go p e below s T' (mkF m (pc + 1) Ls rest) Q kc ks) : Go p e below s T (mkF m pc Ls (.int x :: .int j :: .ref a :: rest)) Q kc ks := by
  have A' := A
  obtain ⟨cl, A1, -, r2, -, r4⟩ := A
  obtain ⟨T', h', X', e', W, st⟩ := stI X hx hZ eT A1 (in_of r2 h1 h2) (g := mkF m pc Ls (.int x :: .int j :: .ref a :: rest)) rfl rfl hd
  exact Go.step st (k T' h' X' e' W (A'.set W))
theorem Go.lastore {j : Int32} {x : Int64} (X : Stand p l e R s m args below meth c T locs cells slots) (hx : p.tables.exec = Jvm.exec) (hZ : Z.Warmed39 s.vm) (eT : T.heap = h) (A : Af Z h a cid .long n f) (h1 : ¬ j < 0) (h2 : j.toNatClampNeg < n) (hd : decode c.code pc = .ok (.lastore, 1))
    (k : ∀ T' h', Stand p l e R s m args below meth c T' (locs ++ [⟨a, j.toNatClampNeg⟩]) cells slots → T'.heap = h' → Wr h h' a j.toNatClampNeg (.long x) → Af Z h' a cid .long n (updV f j.toNatClampNeg (.long x)) → Go p e below s T' (mkF m (pc + 1) Ls rest) Q kc ks) : Go p e below s T (mkF m pc Ls (.long x :: .int j :: .ref a :: rest)) Q kc ks := by
  have A' := A
  obtain ⟨cl, A1, -, r2, -, r4⟩ := A
  obtain ⟨T', h', X', e', W, st⟩ := stJ X hx hZ eT A1 (in_of r2 h1 h2) (g := mkF m pc Ls (.long x :: .int j :: .ref a :: rest)) rfl rfl hd
  exact Go.step st (k T' h' X' e' W (A'.set W))
theorem Go.bastoreB {j x : Int32} (X : Stand p l e R s m args below meth c T locs cells slots) (hx : p.tables.exec = Jvm.exec) (hZ : Z.Warmed39 s.vm) (eT : T.heap = h) (A : Af Z h a cid .byte n f) (h1 : ¬ j < 0) (h2 : j.toNatClampNeg < n) (hd : decode c.code pc = .ok (.bastore, 1))
    (k : ∀ T' h', Stand p l e R s m args below meth c T' (locs ++ [⟨a, j.toNatClampNeg⟩]) cells slots → T'.heap = h' → Wr h h' a j.toNatClampNeg (.int x.toInt8.toInt32) → Af Z h' a cid .byte n (updV f j.toNatClampNeg (.int x.toInt8.toInt32)) → Go p e below s T' (mkF m (pc + 1) Ls rest) Q kc ks) : Go p e below s T (mkF m pc Ls (.int x :: .int j :: .ref a :: rest)) Q kc ks := by
  have A' := A
  obtain ⟨cl, A1, -, r2, -, r4⟩ := A
  obtain ⟨T', h', X', e', W, st⟩ := stB X hx hZ eT A1 (in_of r2 h1 h2) (g := mkF m pc Ls (.int x :: .int j :: .ref a :: rest)) rfl rfl hd
  exact Go.step st (k T' h' X' e' W (A'.set W))
theorem Go.bastoreZ {j x : Int32} (X : Stand p l e R s m args below meth c T locs cells slots) (hx : p.tables.exec = Jvm.exec) (hZ : Z.Warmed39 s.vm) (eT : T.heap = h) (A : Af Z h a cid .boolean n f) (h1 : ¬ j < 0) (h2 : j.toNatClampNeg < n) (hd : decode c.code pc = .ok (.bastore, 1))
    (k : ∀ T' h', Stand p l e R s m args below meth c T' (locs ++ [⟨a, j.toNatClampNeg⟩]) cells slots → T'.heap = h' → Wr h h' a j.toNatClampNeg (.int (nar .boolean x)) → Af Z h' a cid .boolean n (updV f j.toNatClampNeg (.int (nar .boolean x))) → Go p e below s T' (mkF m (pc + 1) Ls rest) Q kc ks) : Go p e below s T (mkF m pc Ls (.int x :: .int j :: .ref a :: rest)) Q kc ks := by
  have A' := A
  obtain ⟨cl, A1, -, r2, -, r4⟩ := A
  obtain ⟨T', h', X', e', W, st⟩ := stZ X hx hZ eT A1 (in_of r2 h1 h2) (g := mkF m pc Ls (.int x :: .int j :: .ref a :: rest)) rfl rfl hd
  exact Go.step st (k T' h' X' e' W (A'.set W))
theorem Go.castore {j x : Int32} (X : Stand p l e R s m args below meth c T locs cells slots) (hx : p.tables.exec = Jvm.exec) (hZ : Z.Warmed39 s.vm) (eT : T.heap = h) (A : Af Z h a cid .char n f) (h1 : ¬ j < 0) (h2 : j.toNatClampNeg < n) (hd : decode c.code pc = .ok (.castore, 1))
    (k : ∀ T' h', Stand p l e R s m args below meth c T' (locs ++ [⟨a, j.toNatClampNeg⟩]) cells slots → T'.heap = h' → Wr h h' a j.toNatClampNeg (.int (nar .char x)) → Af Z h' a cid .char n (updV f j.toNatClampNeg (.int (nar .char x))) → Go p e below s T' (mkF m (pc + 1) Ls rest) Q kc ks) : Go p e below s T (mkF m pc Ls (.int x :: .int j :: .ref a :: rest)) Q kc ks := by
  have A' := A
  obtain ⟨cl, A1, -, r2, -, r4⟩ := A
  obtain ⟨T', h', X', e', W, st⟩ := stC X hx hZ eT A1 (in_of r2 h1 h2) (g := mkF m pc Ls (.int x :: .int j :: .ref a :: rest)) rfl rfl hd
  exact Go.step st (k T' h' X' e' W (A'.set W))
theorem Go.aastore {j : Int32} {C : String} {y : Addr} (X : Stand p l e R s m args below meth c T locs cells slots) (hx : p.tables.exec = Jvm.exec) (hZ : Z.Warmed39 s.vm) (eT : T.heap = h) (A : Af Z h a cid ty n f) (hty : ty.isReference = true) (O : Ovr Z cid C) (I : Ins Z h y C true) (h1 : ¬ j < 0) (h2 : j.toNatClampNeg < n) (hd : decode c.code pc = .ok (.aastore, 1))
    (k : ∀ T' h', Stand p l e R s m args below meth c T' (locs ++ [⟨a, j.toNatClampNeg⟩]) cells slots → T'.heap = h' → Wr h h' a j.toNatClampNeg (.ref y) → Af Z h' a cid ty n (updV f j.toNatClampNeg (.ref y)) → Go p e below s T' (mkF m (pc + 1) Ls rest) Q kc ks) : Go p e below s T (mkF m pc Ls (.ref y :: .int j :: .ref a :: rest)) Q kc ks := by
  have A' := A
  obtain ⟨cl, A1, r1, r2, -, r4⟩ := A
  obtain ⟨T', h', X', e', W, st⟩ := stR X hx hZ eT A1 (in_of r2 h1 h2) hty (Sto.ofV A1 r1 O I) (g := mkF m pc Ls (.ref y :: .int j :: .ref a :: rest)) rfl rfl hd
  exact Go.step st (k T' h' X' e' W (A'.set W))
theorem Go.newarray {aty : ArrayType} {z : Int32} {cap : Nat} (X : Stand p l e R s m args below meth c T locs cells slots) (hx : p.tables.exec = Jvm.exec) (hZ : Z.Warmed39 s.vm) (w : (Jvm.Cond.arrayClass (newarray.typeOf aty)).before a0 Z = true) (eT : T.heap = h) (hd : decode c.code pc = .ok (.newarray aty, 2)) (hn : ¬ z < 0) (hcap : z.toNatClampNeg ≤ cap) (hb : cap * 8 ≤ 536870912) (hc : cells + 1 ≤ R.cells) (hl : slots + cap ≤ R.slots)
    (k : ∀ T' h' a cA, a = h.size → Stand p l e R s m args below meth c T' locs (cells + 1) (slots + cap) → T'.heap = h' → Ext h h' → Af Z h' a cA (newarray.typeOf aty) z.toNatClampNeg (fun _ => defaultValue (newarray.typeOf aty)) → Go p e below s T' (mkF m (pc + 2) Ls (.ref a :: rest)) Q kc ks) : Go p e below s T (mkF m pc Ls (.int z :: rest)) Q kc ks := by
  obtain ⟨T', h', cA, X', e', E, A, st⟩ := newP X hx hZ w eT (g := mkF m pc Ls (.int z :: rest)) rfl hd rfl hn hcap hb hc hl
  exact Go.step st (k T' h' _ cA rfl X' e' E (Af.arv A hn))
theorem Go.anewarray {own C : String} {index : Nat} {z : Int32} {cap : Nat} (X : Stand p l e R s m args below meth c T locs cells slots) (hx : p.tables.exec = Jvm.exec) (hZ : Z.Warmed39 s.vm) (hown : s.vm.findClass own = some m.cls) (w1 : (Jvm.Cond.classLink own index C).before a0 Z = true) (w2 : (Jvm.Cond.arrayOver (.object C)).before a0 Z = true) (eT : T.heap = h) (hd : decode c.code pc = .ok (.anewarray index, 3)) (hn : ¬ z < 0) (hcap : z.toNatClampNeg ≤ cap) (hb : cap * 8 ≤ 536870912) (hc : cells + 1 ≤ R.cells) (hl : slots + cap ≤ R.slots)
    (k : ∀ T' h' a cA, a = h.size → Stand p l e R s m args below meth c T' locs (cells + 1) (slots + cap) → T'.heap = h' → Ext h h' → Af Z h' a cA (.object C) z.toNatClampNeg (fun _ => .null) → Ovr Z cA C → Go p e below s T' (mkF m (pc + 3) Ls (.ref a :: rest)) Q kc ks) : Go p e below s T (mkF m pc Ls (.int z :: rest)) Q kc ks := by
  obtain ⟨T', h', cA, X', e', E, A, O, st⟩ := newR X hx hZ hown w1 w2 eT (g := mkF m pc Ls (.int z :: rest)) rfl hd rfl hn hcap hb hc hl
  exact Go.step st (k T' h' _ cA rfl X' e' E (Af.arv A hn) O)
theorem Go.clone {own ad : String} {index W cap : Nat} (X : Stand p l e R s m args below meth c T locs cells slots) (hx : p.tables.exec = Jvm.exec) (hZ : Z.Warmed39 s.vm) (hown : s.vm.findClass own = some m.cls)
    (w1 : (Jvm.Cond.methodLink own index ⟨ad, "clone", "()Ljava/lang/Object;"⟩).before a0 Z = true) (w2 : (Jvm.Cond.sameMethod ad "java/lang/Object" "clone" "()Ljava/lang/Object;").before a0 Z = true) (w3 : (Jvm.Cond.native ⟨"java/lang/Object", "clone", "()Ljava/lang/Object;"⟩).before a0 Z = true)
    (w4 : (Jvm.Cond.instanceMethod ⟨"java/lang/Object", "clone", "()Ljava/lang/Object;"⟩).before a0 Z = true) (w5 : (Jvm.Cond.selects ad ⟨ad, "clone", "()Ljava/lang/Object;"⟩ ⟨"java/lang/Object", "clone", "()Ljava/lang/Object;"⟩).before a0 Z = true) (w6 : (Jvm.Cond.castable ad "java/lang/Cloneable").before a0 Z = true)
    (eT : T.heap = h) (A : Af Z h a cid ty n f) (E : Exa Z h a ad) (F : ∀ cl : Cell, h[a]? = some cl → FitC Z cl) (hd : decode c.code pc = .ok (.invokevirtual index, 3)) (hsize : Ls.size = c.maxLocals) (hW : (rest.map fun v => v.category).sum ≤ W) (hf : 1 ≤ R.frames) (hl : W + 14 ≤ R.locals) (hcap : n ≤ cap) (hc : cells + 1 ≤ R.cells) (hsl : slots + cap ≤ R.slots)
    (k : ∀ T' h' b, b = h.size → Stand p l e R s m args below meth c T' locs (cells + 1) (slots + cap) → T'.heap = h' → Ext h h' → Af Z h' b cid ty n f → Exa Z h' b ad → Go p e below s T' (mkF m (pc + 3) Ls (.ref b :: rest)) Q kc ks) : Go p e below s T (mkF m pc Ls (.ref a :: rest)) Q kc ks := by
  obtain ⟨cl, A1, r1, r2, r3, r4⟩ := A
  obtain ⟨T', h', X', e', Ex, A2, E2, st⟩ := cloneA X hx hZ hown w1 w2 w3 w4 w5 w6 eT A1 E (F cl A1.1) (g := mkF m pc Ls (.ref a :: rest)) rfl hsize rfl hd hf (W := W) (cap := cap) (by show 2 * 0 + _ ≤ _; omega) hl (by rw [r2]; exact hcap) hc hsl
  exact Go.step st (k T' h' _ rfl X' e' Ex ⟨_, A2, r1, r2, r3, r4⟩ E2)
/-- the call of a private method by invokevirtual, by its contract -/
theorem Go.callP {own C : String} {index kk : Nat} {y : MethodName} {bytes : ByteArray} {maxL : Nat} {ret : Option FieldType} {rm : Room} {argsL : List Value} {Q' : Option Value → Heap → List Loc → Prop} {W : Nat} {st : List Value}
    (X : Stand p l e R s m args below meth c T locs cells slots) (hx : p.tables.exec = Jvm.exec) (hZ : Z.Warmed39 s.vm) (hown : s.vm.findClass own = some m.cls)
    (w1 : (Jvm.Cond.methodLink own index y).before a0 Z = true) (w2 : (Jvm.Cond.instanceMethod y).before a0 Z = true) (wp : (Jvm.Cond.privateMethod y).before a0 Z = true) (wi : (Jvm.Cond.instantiable y.cls kk).before a0 Z = true) (w3 : (Jvm.Cond.initialized y.cls).before a0 Z = true) (w4 : (Jvm.Cond.code y bytes maxL ret).before a0 Z = true)
    (hy : y.cls ≠ "java/lang/invoke/MethodHandle" ∧ y.cls ≠ "java/lang/invoke/VarHandle") (E : Exa Z h a C) (hM : Met l Z y bytes maxL ret [] rm (.ref a :: argsL).toArray h Q') (eT : T.heap = h)
    (hlen : ∀ sig, parseMethodDescriptor y.desc = some sig → argsL.length = sig.parameters.length) (hd : decode c.code pc = .ok (.invokevirtual index, 3)) (hsize : Ls.size = c.maxLocals) (hst : st = argsL.reverse ++ .ref a :: rest) (hW : (rest.map fun v => v.category).sum ≤ W)
    (hf : rm.frames + 1 ≤ R.frames) (hl : W + (maxL + 11) + rm.locals ≤ R.locals) (hc : cells + rm.cells ≤ R.cells) (hs : slots + rm.slots ≤ R.slots)
    (k : ∀ v T' L, Stand p l e R s m args below meth c T' (locs ++ L) (cells + rm.cells) (slots + rm.slots) → Q' v T'.heap L → Go p e below s T' (mkF m (pc + 3) Ls (v.toList ++ rest)) Q kc ks) : Go p e below s T (mkF m pc Ls st) Q kc ks := by
  have wi' : (Jvm.Cond.instantiable y.cls kk).before args s = true := mvT hZ wi
  obtain ⟨cc, kc', i1, i2, i3, i4, -⟩ := Cond.instantiable_spec wi'
  have ni : kc'.isInterface = false := by revert i4; cases kc'.isInterface <;> simp
  have hp := Cond.privateMethod_at (mvP hZ wp (args := args))
  have hsel := Jvm.Stand.selects_self_of_private i1 i2 ni hp (mvT hZ w2 (args := args)) hy
  obtain ⟨cl, q1, q2⟩ := E.cell
  obtain ⟨v, vm₁, ⟨T1, L1, k1, n1⟩, -, X1, ⟨Lc, hQ1, l1, y1, z1⟩, st1⟩ := X.privateBack hx (y := y) hown (mvT hZ w1) (mvT hZ w2) hsel hp (mvT hZ w4) hy (backOf (W := W) hM hZ w4 w3 hf hl) (g := mkF m pc Ls st) rfl hsize (Steps.refl _) (a := a) (by rw [eT]; exact q1) q2 (argsL := argsL) (rest := rest) hlen hst (by show 2 * 0 + _ ≤ _; omega) hd (fun _ _ => ⟨rfl, eT, hc, hs⟩)
  dsimp only [Pt.U, Pt.locs, Pt.cells, Pt.slots] at X1 l1 y1 z1 st1 hQ1
  subst l1 y1 z1
  exact Go.trans st1 (k v T1 Lc X1 hQ1)
/-- the call of an interface's method, by the contract of the body that the receiver's class selects -/
theorem Go.callN {own C : String} {index count : Nat} {xi y : MethodName} {bytes : ByteArray} {maxL : Nat} {ret : Option FieldType} {rm : Room} {argsL : List Value} {Q' : Option Value → Heap → List Loc → Prop} {W : Nat} {st : List Value}
    (X : Stand p l e R s m args below meth c T locs cells slots) (hx : p.tables.exec = Jvm.exec) (hZ : Z.Warmed39 s.vm) (hown : s.vm.findClass own = some m.cls)
    (w1 : (Jvm.Cond.methodLink own index xi).before a0 Z = true) (w2 : (Jvm.Cond.declares xi).before a0 Z = true) (w5 : (Jvm.Cond.interfaceMethod xi.cls xi.cls xi.name xi.desc).before a0 Z = true) (w6 : (Jvm.Cond.selects C xi y).before a0 Z = true) (w7 : (Jvm.Cond.instanceMethod y).before a0 Z = true) (w8 : (Jvm.Cond.publicMethod y).before a0 Z = true) (w9 : (Jvm.Cond.unhidden C xi.name xi.desc).before a0 Z = true) (w10 : (Jvm.Cond.castable C xi.cls).before a0 Z = true)
    (w3 : (Jvm.Cond.initialized y.cls).before a0 Z = true) (w4 : (Jvm.Cond.code y bytes maxL ret).before a0 Z = true) (hy : xi.cls ≠ "java/lang/invoke/MethodHandle" ∧ xi.cls ≠ "java/lang/invoke/VarHandle") (k5 : ((Jvm.Cond.interfaceMethod xi.cls xi.cls xi.name xi.desc).onTables && (Jvm.Cond.interfaceMethod xi.cls xi.cls xi.name xi.desc).keepsFace) = true) (E : Exa Z h a C) (hM : Met l Z y bytes maxL ret [] rm (.ref a :: argsL).toArray h Q') (eT : T.heap = h)
    (hlen : ∀ sig, parseMethodDescriptor xi.desc = some sig → argsL.length = sig.parameters.length) (hd : decode c.code pc = .ok (.invokeinterface index count, 5)) (hsize : Ls.size = c.maxLocals) (hst : st = argsL.reverse ++ .ref a :: rest) (hW : (rest.map fun v => v.category).sum ≤ W)
    (hf : rm.frames + 1 ≤ R.frames) (hl : W + (maxL + 11) + rm.locals ≤ R.locals) (hc : cells + rm.cells ≤ R.cells) (hs : slots + rm.slots ≤ R.slots)
    (k : ∀ v T' L, Stand p l e R s m args below meth c T' (locs ++ L) (cells + rm.cells) (slots + rm.slots) → Q' v T'.heap L → Go p e below s T' (mkF m (pc + 5) Ls (v.toList ++ rest)) Q kc ks) : Go p e below s T (mkF m pc Ls st) Q kc ks := by
  obtain ⟨cB, kB, q1, q2, q3⟩ := isOf hZ eT E
  obtain ⟨v, vm₁, ⟨T1, L1, k1, n1⟩, -, X1, ⟨Lc, hQ1, l1, y1, z1⟩, st1⟩ := X.interfaceBack hx (xi := xi) (y := y) hown (mvT hZ w1) (mvT hZ w2) (mvT hZ w5 k5) (mvT hZ w6) (mvT hZ w7) (mvT hZ w8) (mvT hZ w9) (mvT hZ w10) hy (backOf (W := W) hM hZ w4 w3 hf hl) q1 q2 q3 (g := mkF m pc Ls st) rfl hsize (Steps.refl _) (argsL := argsL) (rest := rest) hlen hst (by show 2 * 0 + _ ≤ _; omega) hd (fun _ _ => ⟨rfl, eT, hc, hs⟩)
  dsimp only [Pt.U, Pt.locs, Pt.cells, Pt.slots] at X1 l1 y1 z1 st1 hQ1
  subst l1 y1 z1
  exact Go.trans st1 (k v T1 Lc X1 hQ1)
def cpf (f f' : Nat → Value) (sp dp nn : Nat) : Nat → Value := fun i => if dp ≤ i ∧ i < dp + nn then f (sp + (i - dp)) else f' i
theorem getD_range {i : Nat} (hi : i < n) (d : Value) : ((List.range n).map f).getD i d = f i := by simp [List.getD_eq_getElem?_getD, hi]
theorem Af.toArv (F : Af Z h a cid ty n f) (hf : ∀ i, i < n → fits ty (f i) = true) : Arv Z h a cid ty n.toInt32 ((List.range n).map f) .null := by
  obtain ⟨cl, A, r1, r2, r3, r4⟩ := F
  have z : (n.toInt32).toNatClampNeg = n := by simp only [Int32.toNatClampNeg, len_toInt r3]; rfl
  refine ⟨cl, A, r1, by rw [r2, z], ?_, fun i hi => ?_, fun i hi => ?_⟩
  · rw [Int32.lt_iff_toInt_lt, len_toInt r3]; show ¬ (n : Int) < 0; omega
  · rw [getD_range (by omega)]; exact r4 i (by omega)
  · rw [getD_range (by omega)]; exact hf i (by omega)
theorem Af.ofArv {z : Int32} {vs : List Value} {d : Value} (F : Arv Z h a cid ty z vs d) : Af Z h a cid ty z.toNatClampNeg (fun i => vs.getD i d) := by
  obtain ⟨cl, A, r1, r2, r3, H, G⟩ := F
  exact ⟨cl, A, r1, r2, (back32 r3).2, fun i hi => H i (by omega)⟩
theorem cp_at {n' sp dp nn i : Nat} (hi : i < n') (h4 : sp + nn ≤ n) (h5 : dp + nn ≤ n') :
    ((((List.range n').map f').take dp) ++ ((List.range nn).map fun i => ((List.range n).map f).getD (sp + i) .null) ++ (((List.range n').map f').drop (dp + nn))).getD i .null = cpf f f' sp dp nn i := by
  have lt : (((List.range n').map f').take dp).length = dp := by simp; omega
  have lu : ((List.range nn).map fun i => ((List.range n).map f).getD (sp + i) .null).length = nn := by simp
  rw [List.getD_eq_getElem?_getD]
  unfold cpf
  by_cases h1 : i < dp
  · rw [List.append_assoc, List.getElem?_append_left (by omega), if_neg (by omega)]
    simp [List.getElem?_take, h1, hi]
  · by_cases h2 : i < dp + nn
    · rw [List.getElem?_append_left (by rw [List.length_append]; omega), List.getElem?_append_right (by omega), if_pos ⟨by omega, h2⟩, lt]
      have h3 : i - dp < nn := by omega
      have h6 : sp + (i - dp) < n := by omega
      simp [h3, List.getD_eq_getElem?_getD, h6]
    · rw [List.getElem?_append_right (by rw [List.length_append]; omega), if_neg (by omega), List.length_append, lt, lu]
      have h3 : dp + nn + (i - (dp + nn)) = i := by omega
      simp [List.getElem?_drop, h3, hi]
theorem Go.acopy {own : String} {index W n0 n' : Nat} {b : Addr} {cid' : ClassId} {sp dp nn : Int32} (X : Stand p l e R s m args below meth c T locs cells slots) (hx : p.tables.exec = Jvm.exec) (hZ : Z.Warmed39 s.vm) (hown : s.vm.findClass own = some m.cls)
    (w1 : (Jvm.Cond.methodLink own index ⟨"java/lang/System", "arraycopy", "(Ljava/lang/Object;ILjava/lang/Object;II)V"⟩).before a0 Z = true) (w2 : (Jvm.Cond.native ⟨"java/lang/System", "arraycopy", "(Ljava/lang/Object;ILjava/lang/Object;II)V"⟩).before a0 Z = true) (w3 : (Jvm.Cond.static ⟨"java/lang/System", "arraycopy", "(Ljava/lang/Object;ILjava/lang/Object;II)V"⟩).before a0 Z = true) (w4 : (Jvm.Cond.initialized "java/lang/System").before a0 Z = true)
    (eT : T.heap = h) (A : Af Z h a cid ty n f) (B : Af Z h b cid' ty n' f') (hty : refKind ty = false) (hfa : ∀ i, i < n → fits ty (f i) = true) (hfb : ∀ i, i < n' → fits ty (f' i) = true) (h1 : ¬ sp < 0) (h2 : ¬ dp < 0) (h3 : ¬ nn < 0) (h4 : sp.toNatClampNeg + nn.toNatClampNeg ≤ n) (h5 : dp.toNatClampNeg + nn.toNatClampNeg ≤ n')
    (N : Fr n0 locs) (ge : n0 ≤ b) (hd : decode c.code pc = .ok (.invokestatic index, 3)) (hsize : Ls.size = c.maxLocals) (hW : (rest.map fun v => v.category).sum ≤ W) (hf : 1 ≤ R.frames) (hl : W + 18 ≤ R.locals)
    (k : ∀ T' h' L, Stand p l e R s m args below meth c T' L cells slots → T'.heap = h' → Fr n0 L → Keep h h' [b] → Af Z h' b cid' ty n' (cpf f f' sp.toNatClampNeg dp.toNatClampNeg nn.toNatClampNeg) → Go p e below s T' (mkF m (pc + 3) Ls rest) Q kc ks) : Go p e below s T (mkF m pc Ls (.int nn :: .int dp :: .ref b :: .int sp :: .ref a :: rest)) Q kc ks := by
  have za : (n.toInt32).toNatClampNeg = n := by obtain ⟨_, _, _, _, r3, _⟩ := A; simp only [Int32.toNatClampNeg, len_toInt r3]; rfl
  have zb : (n'.toInt32).toNatClampNeg = n' := by obtain ⟨_, _, _, _, r3, _⟩ := B; simp only [Int32.toNatClampNeg, len_toInt r3]; rfl
  obtain ⟨T', h', L, X', e', NL, K, V, st⟩ := cpA X hx hZ hown w1 w2 w3 w4 eT (A.toArv hfa) (B.toArv hfb) (Or.inl ⟨rfl, hty⟩) h1 h2 h3 (by rw [za]; exact h4) (by rw [zb]; exact h5) rfl (by simp; exact h5) N ge (g := mkF m pc Ls (.int nn :: .int dp :: .ref b :: .int sp :: .ref a :: rest)) rfl hsize rfl hd hf (W := W) (by show 2 * 0 + _ ≤ _; omega) (by show W + (7 + 11) ≤ _; omega)
  have V' := Af.ofArv V
  rw [zb] at V'
  exact Go.step st (k T' h' L X' e' NL K (V'.congr fun i hi => (cp_at hi h4 h5).symm))
theorem Keep.wr1 {ha hb hc : Heap} {ws : List Addr} {a : Addr} {sl : Nat} {v : Value} (K : Keep ha hb ws) (W : Wr hb hc a sl v) (q : a ∈ ws ∨ ha.size ≤ a) : Keep ha hc ws := Jvm.RoadKit.Keep.wr K W q
end Heap
end Jvm.OwnK
namespace Jvm.OwnK
open Sem ClassFile Op Lib Jvm.Free Jvm.Stand Jvm.LawKit Jvm.RoadKit
section Start
variable {s : State} {args : Array Value}
theorem st_static {C f d K : String} (h : (Jvm.Cond.exactly (Jvm.Term.static C f d) K).value args s none s [] = some true) (hi : (Jvm.Cond.initializedFor C f d).before args s = true ∨ ((Jvm.Cond.initialized C).before args s = true ∧ (Jvm.Cond.laysStatic C f d).before args s = true)) :
    ∃ g, (Jvm.Term.static C f d).eval args s none [] s = some (.ref g) ∧ Sta s s.heap C f d (.ref g) ∧ Exa s s.heap g K := by
  obtain ⟨g, eg⟩ := exa_v h
  exact ⟨g, eg, Sta.start eg hi, Exa.start eg h⟩
theorem st_int {t : Jvm.Term} {k : Int32} (h : (Jvm.Cond.eq t (.int k)).value args s none s [] = some true) : t.eval args s none [] s = some (.int k) := by
  obtain ⟨x, y, ha, hb, k1, k2⟩ := cmp_v (Or.inl h)
  have hb' : (Jvm.Term.int k).eval args s none [] s = some (.int k) := Term.int_eval k
  cases hb.symm.trans hb'
  obtain ⟨z, rfl⟩ := k2
  have q := gotT (Cond.eq_ints ha hb') h
  rw [ha, q]
theorem st_ref {t u : Jvm.Term} {g : Addr} (h : (Jvm.Cond.eq t u).value args s none s [] = some true) (hu : u.eval args s none [] s = some (.ref g)) : t.eval args s none [] s = some (.ref g) := by
  obtain ⟨x, y, ha, hb, k1, k2⟩ := cmp_v (Or.inl h)
  cases hb.symm.trans hu
  have hx : x.isRef = true := k2.2
  have q := gotT (eq_R ha hu hx rfl) h
  rw [ha, q]
theorem st_fieldI {t : Jvm.Term} {a : Addr} {C n d : String} {k : Int32} (ev : t.eval args s none [] s = some (.ref a)) (h : (Jvm.Cond.eq (.field t C n d) (.int k)).value args s none s [] = some true) : Fld s s.heap a C n d (.int k) :=
  Fld.start (by rw [← fld_at ev]; exact st_int h)
theorem st_fieldR {t : Jvm.Term} {a : Addr} {C n d K : String} (ev : t.eval args s none [] s = some (.ref a)) (h : (Jvm.Cond.exactly (.field t C n d) K).value args s none s [] = some true) :
    ∃ g, (Jvm.Term.field t C n d).eval args s none [] s = some (.ref g) ∧ Fld s s.heap a C n d (.ref g) ∧ Exa s s.heap g K := by
  obtain ⟨g, eg⟩ := exa_v h
  exact ⟨g, eg, Fld.start (by rw [← fld_at ev]; exact eg), Exa.start eg h⟩
/-- an array that stood before the law, with its length -/
theorem st_arr {t : Jvm.Term} {a : Addr} {ty : FieldType} {k : Int32} {n : Nat} (ev : t.eval args s none [] s = some (.ref a)) (h : (Jvm.Cond.arrayOf t ty).value args s none s [] = some true) (hl : (Jvm.Cond.eq (.length t) (.int k)).value args s none s [] = some true) (hk : k = n.toInt32) (hn : n < 2 ^ 31) :
    ∃ c : Cell, s.heap[a]? = some c ∧ Af s s.heap a c.cls ty n (fun i => (c.slots[i]?).getD .null) := by
  obtain ⟨c, A⟩ := Arr.start ev h
  have e1 := st_int hl
  obtain ⟨a', cell, g1, g2, g5, g3⟩ := Jvm.Lib.length_spec e1
  cases ev.symm.trans g1
  have g4 : s.arrayAt? a = some c := A.fin (Vm.Alike.refl _)
  cases g4.symm.trans g2
  injection g3 with g3
  have g6 : c.slots.size = n := by
    have q : (c.slots.size.toInt32).toInt = (n.toInt32).toInt := by rw [← g3, hk]
    rw [len_toInt g5, len_toInt hn] at q
    omega
  refine ⟨c, A.1, c, A, rfl, g6, hn, fun i hi => ?_⟩
  have q : i < c.slots.size := by omega
  simp [Array.getElem?_eq_getElem q]
theorem st_elem {t : Jvm.Term} {a : Addr} {j : Int32} {c : Cell} {v : Value} (ev : t.eval args s none [] s = some (.ref a)) (hc : s.heap[a]? = some c) (h : (Jvm.Term.elem t (.int j)).eval args s none [] s = some v) : (c.slots[j.toNatClampNeg]?).getD .null = v := by
  have q := (elem_in h ev (Term.int_eval j) hc).2
  rw [q]; rfl
theorem Af.known {Z : State} {h : Heap} {a : Addr} {cid : ClassId} {ty : FieldType} {n j : Nat} {f : Nat → Value} {v : Value} (F : Af Z h a cid ty n f) (q : f j = v) : Af Z h a cid ty n (updV f j v) := F.congr fun i _ => by
  by_cases e : i = j
  · subst e; simp [updV, q]
  · simp [updV, e]
end Start
end Jvm.OwnK
namespace Jvm.Pilot.@@N@@
open Jvm Jvm.ClassFile Sem Op Lib Jvm.Free Jvm.Stand Jvm.LawKit Jvm.RoadKit Jvm.OwnK Bundle Jvm.Pilot.@@N@@.Jvm.D
theorem w0 {Z : State} {a0 : Array Value} (hw : ∀ d ∈ tables_1, d.before a0 Z = true) : (Jvm.Cond.constant "com/example/collate/collate/analysis/AtomSetCardinalityPinLaw" (7 : Nat) (2147483647 : Int32)).before a0 Z = true := hw _ (List.mem_of_getElem? (i := 0) rfl)
theorem w1 {Z : State} {a0 : Array Value} (hw : ∀ d ∈ tables_1, d.before a0 Z = true) : (Jvm.Cond.methodLink "com/example/collate/collate/analysis/AtomSetCardinalityPinLaw" (8 : Nat) ({ cls := "java/lang/Math", name := "min", desc := "(II)I" } : Jvm.MethodName)).before a0 Z = true := hw _ (List.mem_of_getElem? (i := 1) rfl)
theorem w2 {Z : State} {a0 : Array Value} (hw : ∀ d ∈ tables_1, d.before a0 Z = true) : (Jvm.Cond.static ({ cls := "java/lang/Math", name := "min", desc := "(II)I" } : Jvm.MethodName)).before a0 Z = true := hw _ (List.mem_of_getElem? (i := 2) rfl)
theorem w3 {Z : State} {a0 : Array Value} (hw : ∀ d ∈ tables_1, d.before a0 Z = true) : (Jvm.Cond.initialized "java/lang/Math").before a0 Z = true := hw _ (List.mem_of_getElem? (i := 3) rfl)
theorem w4 {Z : State} {a0 : Array Value} (hw : ∀ d ∈ tables_1, d.before a0 Z = true) : (Jvm.Cond.code ({ cls := "java/lang/Math", name := "min", desc := "(II)I" } : Jvm.MethodName) jdk_29_method_69_code (2 : Nat) (Option.some Jvm.ClassFile.FieldType.int)).before a0 Z = true := hw _ (List.mem_of_getElem? (i := 4) rfl)
theorem w5 {Z : State} {a0 : Array Value} (hw : ∀ d ∈ tables_1, d.before a0 Z = true) : (Jvm.Cond.methodLink "com/example/collate/collate/analysis/AtomSetCardinalityPinLaw" (14 : Nat) ({ cls := "java/lang/Math", name := "max", desc := "(II)I" } : Jvm.MethodName)).before a0 Z = true := hw _ (List.mem_of_getElem? (i := 5) rfl)
theorem w6 {Z : State} {a0 : Array Value} (hw : ∀ d ∈ tables_1, d.before a0 Z = true) : (Jvm.Cond.static ({ cls := "java/lang/Math", name := "max", desc := "(II)I" } : Jvm.MethodName)).before a0 Z = true := hw _ (List.mem_of_getElem? (i := 6) rfl)
theorem w7 {Z : State} {a0 : Array Value} (hw : ∀ d ∈ tables_1, d.before a0 Z = true) : (Jvm.Cond.code ({ cls := "java/lang/Math", name := "max", desc := "(II)I" } : Jvm.MethodName) jdk_29_method_65_code (2 : Nat) (Option.some Jvm.ClassFile.FieldType.int)).before a0 Z = true := hw _ (List.mem_of_getElem? (i := 7) rfl)
theorem w8 {Z : State} {a0 : Array Value} (hw : ∀ d ∈ tables_1, d.before a0 Z = true) : (Jvm.Cond.classLink "com/example/collate/collate/analysis/AtomSetCardinalityPinLaw" (17 : Nat) "com/example/collate/collate/analysis/AtomSet").before a0 Z = true := hw _ (List.mem_of_getElem? (i := 8) rfl)
theorem w9 {Z : State} {a0 : Array Value} (hw : ∀ d ∈ tables_1, d.before a0 Z = true) : (Jvm.Cond.instantiable "com/example/collate/collate/analysis/AtomSet" (2 : Nat)).before a0 Z = true := hw _ (List.mem_of_getElem? (i := 9) rfl)
theorem w10 {Z : State} {a0 : Array Value} (hw : ∀ d ∈ tables_1, d.before a0 Z = true) : (Jvm.Cond.initialized "com/example/collate/collate/analysis/AtomSet").before a0 Z = true := hw _ (List.mem_of_getElem? (i := 10) rfl)
theorem w11 {Z : State} {a0 : Array Value} (hw : ∀ d ∈ tables_1, d.before a0 Z = true) : (Jvm.Cond.methodLink "com/example/collate/collate/analysis/AtomSetCardinalityPinLaw" (19 : Nat) ({ cls := "com/example/collate/collate/analysis/AtomSet", name := "<init>", desc := "()V" } : Jvm.MethodName)).before a0 Z = true := hw _ (List.mem_of_getElem? (i := 11) rfl)
theorem w12 {Z : State} {a0 : Array Value} (hw : ∀ d ∈ tables_1, d.before a0 Z = true) : (Jvm.Cond.instanceMethod ({ cls := "com/example/collate/collate/analysis/AtomSet", name := "<init>", desc := "()V" } : Jvm.MethodName)).before a0 Z = true := hw _ (List.mem_of_getElem? (i := 12) rfl)
theorem w13 {Z : State} {a0 : Array Value} (hw : ∀ d ∈ tables_1, d.before a0 Z = true) : (Jvm.Cond.code ({ cls := "com/example/collate/collate/analysis/AtomSet", name := "<init>", desc := "()V" } : Jvm.MethodName) prog_6_method_1_code (1 : Nat) (Option.none : Option Jvm.ClassFile.FieldType)).before a0 Z = true := hw _ (List.mem_of_getElem? (i := 13) rfl)
theorem w14 {Z : State} {a0 : Array Value} (hw : ∀ d ∈ tables_1, d.before a0 Z = true) : (Jvm.Cond.methodLink "com/example/collate/collate/analysis/AtomSet" (1 : Nat) ({ cls := "java/lang/Object", name := "<init>", desc := "()V" } : Jvm.MethodName)).before a0 Z = true := hw _ (List.mem_of_getElem? (i := 14) rfl)
theorem w15 {Z : State} {a0 : Array Value} (hw : ∀ d ∈ tables_1, d.before a0 Z = true) : (Jvm.Cond.instanceMethod ({ cls := "java/lang/Object", name := "<init>", desc := "()V" } : Jvm.MethodName)).before a0 Z = true := hw _ (List.mem_of_getElem? (i := 15) rfl)
theorem w16 {Z : State} {a0 : Array Value} (hw : ∀ d ∈ tables_1, d.before a0 Z = true) : (Jvm.Cond.code ({ cls := "java/lang/Object", name := "<init>", desc := "()V" } : Jvm.MethodName) object_method_1_code (1 : Nat) (Option.none : Option Jvm.ClassFile.FieldType)).before a0 Z = true := hw _ (List.mem_of_getElem? (i := 16) rfl)
theorem w17 {Z : State} {a0 : Array Value} (hw : ∀ d ∈ tables_1, d.before a0 Z = true) : (Jvm.Cond.fieldLink "com/example/collate/collate/analysis/AtomSet" (7 : Nat) "com/example/collate/collate/analysis/AtomSet" "NONE" "[I").before a0 Z = true := hw _ (List.mem_of_getElem? (i := 17) rfl)
theorem w18 {Z : State} {a0 : Array Value} (hw : ∀ d ∈ tables_1, d.before a0 Z = true) : (Jvm.Cond.laysStatic "com/example/collate/collate/analysis/AtomSet" "NONE" "[I").before a0 Z = true := hw _ (List.mem_of_getElem? (i := 18) rfl)
theorem w19 {Z : State} {a0 : Array Value} (hw : ∀ d ∈ tables_1, d.before a0 Z = true) : (Jvm.Cond.fieldLink "com/example/collate/collate/analysis/AtomSet" (13 : Nat) "com/example/collate/collate/analysis/AtomSet" "bounds" "[I").before a0 Z = true := hw _ (List.mem_of_getElem? (i := 19) rfl)
theorem w20 {Z : State} {a0 : Array Value} (hw : ∀ d ∈ tables_1, d.before a0 Z = true) : (Jvm.Cond.lays "com/example/collate/collate/analysis/AtomSet" "com/example/collate/collate/analysis/AtomSet" "bounds" "[I").before a0 Z = true := hw _ (List.mem_of_getElem? (i := 20) rfl)
theorem w21 {Z : State} {a0 : Array Value} (hw : ∀ d ∈ tables_1, d.before a0 Z = true) : (Jvm.Cond.methodLink "com/example/collate/collate/analysis/AtomSetCardinalityPinLaw" (20 : Nat) ({ cls := "com/example/collate/collate/analysis/AtomSet", name := "set", desc := "(II)V" } : Jvm.MethodName)).before a0 Z = true := hw _ (List.mem_of_getElem? (i := 21) rfl)
theorem w22 {Z : State} {a0 : Array Value} (hw : ∀ d ∈ tables_1, d.before a0 Z = true) : (Jvm.Cond.declares ({ cls := "com/example/collate/collate/analysis/AtomSet", name := "set", desc := "(II)V" } : Jvm.MethodName)).before a0 Z = true := hw _ (List.mem_of_getElem? (i := 22) rfl)
theorem w23 {Z : State} {a0 : Array Value} (hw : ∀ d ∈ tables_1, d.before a0 Z = true) : (Jvm.Cond.instanceMethod ({ cls := "com/example/collate/collate/analysis/AtomSet", name := "set", desc := "(II)V" } : Jvm.MethodName)).before a0 Z = true := hw _ (List.mem_of_getElem? (i := 23) rfl)
theorem w24 {Z : State} {a0 : Array Value} (hw : ∀ d ∈ tables_1, d.before a0 Z = true) : (Jvm.Cond.selects "com/example/collate/collate/analysis/AtomSet" ({ cls := "com/example/collate/collate/analysis/AtomSet", name := "set", desc := "(II)V" } : Jvm.MethodName) ({ cls := "com/example/collate/collate/analysis/AtomSet", name := "set", desc := "(II)V" } : Jvm.MethodName)).before a0 Z = true := hw _ (List.mem_of_getElem? (i := 24) rfl)
theorem w25 {Z : State} {a0 : Array Value} (hw : ∀ d ∈ tables_1, d.before a0 Z = true) : (Jvm.Cond.code ({ cls := "com/example/collate/collate/analysis/AtomSet", name := "set", desc := "(II)V" } : Jvm.MethodName) prog_6_method_4_code (3 : Nat) (Option.none : Option Jvm.ClassFile.FieldType)).before a0 Z = true := hw _ (List.mem_of_getElem? (i := 25) rfl)
theorem w26 {Z : State} {a0 : Array Value} (hw : ∀ d ∈ tables_1, d.before a0 Z = true) : (Jvm.Cond.arrayClass Jvm.ClassFile.FieldType.int).before a0 Z = true := hw _ (List.mem_of_getElem? (i := 26) rfl)
theorem w27 {Z : State} {a0 : Array Value} (hw : ∀ d ∈ tables_1, d.before a0 Z = true) : (Jvm.Cond.methodLink "com/example/collate/collate/analysis/AtomSet" (38 : Nat) ({ cls := "com/example/collate/collate/analysis/AtomSet", name := "add", desc := "([II)V" } : Jvm.MethodName)).before a0 Z = true := hw _ (List.mem_of_getElem? (i := 27) rfl)
theorem w28 {Z : State} {a0 : Array Value} (hw : ∀ d ∈ tables_1, d.before a0 Z = true) : (Jvm.Cond.instanceMethod ({ cls := "com/example/collate/collate/analysis/AtomSet", name := "add", desc := "([II)V" } : Jvm.MethodName)).before a0 Z = true := hw _ (List.mem_of_getElem? (i := 28) rfl)
theorem w29 {Z : State} {a0 : Array Value} (hw : ∀ d ∈ tables_1, d.before a0 Z = true) : (Jvm.Cond.privateMethod ({ cls := "com/example/collate/collate/analysis/AtomSet", name := "add", desc := "([II)V" } : Jvm.MethodName)).before a0 Z = true := hw _ (List.mem_of_getElem? (i := 29) rfl)
theorem w30 {Z : State} {a0 : Array Value} (hw : ∀ d ∈ tables_1, d.before a0 Z = true) : (Jvm.Cond.code ({ cls := "com/example/collate/collate/analysis/AtomSet", name := "add", desc := "([II)V" } : Jvm.MethodName) prog_6_method_6_code (9 : Nat) (Option.none : Option Jvm.ClassFile.FieldType)).before a0 Z = true := hw _ (List.mem_of_getElem? (i := 30) rfl)
theorem w31 {Z : State} {a0 : Array Value} (hw : ∀ d ∈ tables_1, d.before a0 Z = true) : (Jvm.Cond.fieldLink "com/example/collate/collate/analysis/AtomSet" (16 : Nat) "com/example/collate/collate/analysis/AtomSet" "count" "I").before a0 Z = true := hw _ (List.mem_of_getElem? (i := 31) rfl)
theorem w32 {Z : State} {a0 : Array Value} (hw : ∀ d ∈ tables_1, d.before a0 Z = true) : (Jvm.Cond.lays "com/example/collate/collate/analysis/AtomSet" "com/example/collate/collate/analysis/AtomSet" "count" "I").before a0 Z = true := hw _ (List.mem_of_getElem? (i := 32) rfl)
theorem w33 {Z : State} {a0 : Array Value} (hw : ∀ d ∈ tables_1, d.before a0 Z = true) : (Jvm.Cond.methodLink "com/example/collate/collate/analysis/AtomSet" (41 : Nat) ({ cls := "java/lang/Math", name := "max", desc := "(II)I" } : Jvm.MethodName)).before a0 Z = true := hw _ (List.mem_of_getElem? (i := 33) rfl)
theorem w34 {Z : State} {a0 : Array Value} (hw : ∀ d ∈ tables_1, d.before a0 Z = true) : (Jvm.Cond.methodLink "com/example/collate/collate/analysis/AtomSet" (20 : Nat) ({ cls := "java/util/Arrays", name := "copyOf", desc := "([II)[I" } : Jvm.MethodName)).before a0 Z = true := hw _ (List.mem_of_getElem? (i := 34) rfl)
theorem w35 {Z : State} {a0 : Array Value} (hw : ∀ d ∈ tables_1, d.before a0 Z = true) : (Jvm.Cond.static ({ cls := "java/util/Arrays", name := "copyOf", desc := "([II)[I" } : Jvm.MethodName)).before a0 Z = true := hw _ (List.mem_of_getElem? (i := 35) rfl)
theorem w36 {Z : State} {a0 : Array Value} (hw : ∀ d ∈ tables_1, d.before a0 Z = true) : (Jvm.Cond.initialized "java/util/Arrays").before a0 Z = true := hw _ (List.mem_of_getElem? (i := 36) rfl)
theorem w37 {Z : State} {a0 : Array Value} (hw : ∀ d ∈ tables_1, d.before a0 Z = true) : (Jvm.Cond.code ({ cls := "java/util/Arrays", name := "copyOf", desc := "([II)[I" } : Jvm.MethodName) jdk_65_method_123_code (3 : Nat) (Option.some (Jvm.ClassFile.FieldType.array Jvm.ClassFile.FieldType.int))).before a0 Z = true := hw _ (List.mem_of_getElem? (i := 37) rfl)
theorem w38 {Z : State} {a0 : Array Value} (hw : ∀ d ∈ tables_1, d.before a0 Z = true) : (Jvm.Cond.methodLink "java/util/Arrays" (304 : Nat) ({ cls := "java/lang/Math", name := "min", desc := "(II)I" } : Jvm.MethodName)).before a0 Z = true := hw _ (List.mem_of_getElem? (i := 38) rfl)
theorem w39 {Z : State} {a0 : Array Value} (hw : ∀ d ∈ tables_1, d.before a0 Z = true) : (Jvm.Cond.methodLink "java/util/Arrays" (150 : Nat) ({ cls := "java/lang/System", name := "arraycopy", desc := "(Ljava/lang/Object;ILjava/lang/Object;II)V" } : Jvm.MethodName)).before a0 Z = true := hw _ (List.mem_of_getElem? (i := 39) rfl)
theorem w40 {Z : State} {a0 : Array Value} (hw : ∀ d ∈ tables_1, d.before a0 Z = true) : (Jvm.Cond.static ({ cls := "java/lang/System", name := "arraycopy", desc := "(Ljava/lang/Object;ILjava/lang/Object;II)V" } : Jvm.MethodName)).before a0 Z = true := hw _ (List.mem_of_getElem? (i := 40) rfl)
theorem w41 {Z : State} {a0 : Array Value} (hw : ∀ d ∈ tables_1, d.before a0 Z = true) : (Jvm.Cond.initialized "java/lang/System").before a0 Z = true := hw _ (List.mem_of_getElem? (i := 41) rfl)
theorem w42 {Z : State} {a0 : Array Value} (hw : ∀ d ∈ tables_1, d.before a0 Z = true) : (Jvm.Cond.native ({ cls := "java/lang/System", name := "arraycopy", desc := "(Ljava/lang/Object;ILjava/lang/Object;II)V" } : Jvm.MethodName)).before a0 Z = true := hw _ (List.mem_of_getElem? (i := 42) rfl)
theorem w43 {Z : State} {a0 : Array Value} (hw : ∀ d ∈ tables_1, d.before a0 Z = true) : (Jvm.Cond.methodLink "com/example/collate/collate/analysis/AtomSet" (47 : Nat) ({ cls := "java/lang/System", name := "arraycopy", desc := "(Ljava/lang/Object;ILjava/lang/Object;II)V" } : Jvm.MethodName)).before a0 Z = true := hw _ (List.mem_of_getElem? (i := 43) rfl)
theorem w44 {Z : State} {a0 : Array Value} (hw : ∀ d ∈ tables_1, d.before a0 Z = true) : (Jvm.Cond.methodLink "com/example/collate/collate/analysis/AtomSetCardinalityPinLaw" (24 : Nat) ({ cls := "com/example/collate/collate/analysis/AtomSetCardinalityPinLaw", name := "len", desc := "(II)J" } : Jvm.MethodName)).before a0 Z = true := hw _ (List.mem_of_getElem? (i := 44) rfl)
theorem w45 {Z : State} {a0 : Array Value} (hw : ∀ d ∈ tables_1, d.before a0 Z = true) : (Jvm.Cond.static ({ cls := "com/example/collate/collate/analysis/AtomSetCardinalityPinLaw", name := "len", desc := "(II)J" } : Jvm.MethodName)).before a0 Z = true := hw _ (List.mem_of_getElem? (i := 45) rfl)
theorem w46 {Z : State} {a0 : Array Value} (hw : ∀ d ∈ tables_1, d.before a0 Z = true) : (Jvm.Cond.initialized "com/example/collate/collate/analysis/AtomSetCardinalityPinLaw").before a0 Z = true := hw _ (List.mem_of_getElem? (i := 46) rfl)
theorem w47 {Z : State} {a0 : Array Value} (hw : ∀ d ∈ tables_1, d.before a0 Z = true) : (Jvm.Cond.code ({ cls := "com/example/collate/collate/analysis/AtomSetCardinalityPinLaw", name := "len", desc := "(II)J" } : Jvm.MethodName) method_3_code (2 : Nat) (Option.some Jvm.ClassFile.FieldType.long)).before a0 Z = true := hw _ (List.mem_of_getElem? (i := 47) rfl)
theorem w48 {Z : State} {a0 : Array Value} (hw : ∀ d ∈ tables_1, d.before a0 Z = true) : (Jvm.Cond.methodLink "com/example/collate/collate/analysis/AtomSetCardinalityPinLaw" (30 : Nat) ({ cls := "com/example/collate/collate/analysis/AtomSet", name := "cardinality", desc := "()I" } : Jvm.MethodName)).before a0 Z = true := hw _ (List.mem_of_getElem? (i := 48) rfl)
theorem w49 {Z : State} {a0 : Array Value} (hw : ∀ d ∈ tables_1, d.before a0 Z = true) : (Jvm.Cond.declares ({ cls := "com/example/collate/collate/analysis/AtomSet", name := "cardinality", desc := "()I" } : Jvm.MethodName)).before a0 Z = true := hw _ (List.mem_of_getElem? (i := 49) rfl)
theorem w50 {Z : State} {a0 : Array Value} (hw : ∀ d ∈ tables_1, d.before a0 Z = true) : (Jvm.Cond.instanceMethod ({ cls := "com/example/collate/collate/analysis/AtomSet", name := "cardinality", desc := "()I" } : Jvm.MethodName)).before a0 Z = true := hw _ (List.mem_of_getElem? (i := 50) rfl)
theorem w51 {Z : State} {a0 : Array Value} (hw : ∀ d ∈ tables_1, d.before a0 Z = true) : (Jvm.Cond.selects "com/example/collate/collate/analysis/AtomSet" ({ cls := "com/example/collate/collate/analysis/AtomSet", name := "cardinality", desc := "()I" } : Jvm.MethodName) ({ cls := "com/example/collate/collate/analysis/AtomSet", name := "cardinality", desc := "()I" } : Jvm.MethodName)).before a0 Z = true := hw _ (List.mem_of_getElem? (i := 51) rfl)
theorem w52 {Z : State} {a0 : Array Value} (hw : ∀ d ∈ tables_1, d.before a0 Z = true) : (Jvm.Cond.code ({ cls := "com/example/collate/collate/analysis/AtomSet", name := "cardinality", desc := "()I" } : Jvm.MethodName) prog_6_method_12_code (3 : Nat) (Option.some Jvm.ClassFile.FieldType.int)).before a0 Z = true := hw _ (List.mem_of_getElem? (i := 52) rfl)
theorem d_max_0 : decode jdk_29_method_65_code 0 = .ok (.iload_n 0, 1) := by decide +kernel
theorem d_max_1 : decode jdk_29_method_65_code 1 = .ok (.iload_n 1, 1) := by decide +kernel
theorem d_max_2 : decode jdk_29_method_65_code 2 = .ok (.if_icmp .lt 7, 3) := by decide +kernel
theorem d_max_9 : decode jdk_29_method_65_code 9 = .ok (.iload_n 1, 1) := by decide +kernel
theorem d_max_10 : decode jdk_29_method_65_code 10 = .ok (.ireturn, 1) := by decide +kernel
theorem d_max_5 : decode jdk_29_method_65_code 5 = .ok (.iload_n 0, 1) := by decide +kernel
theorem d_max_6 : decode jdk_29_method_65_code 6 = .ok (.goto 4, 3) := by decide +kernel
theorem d_min_0 : decode jdk_29_method_69_code 0 = .ok (.iload_n 0, 1) := by decide +kernel
theorem d_min_1 : decode jdk_29_method_69_code 1 = .ok (.iload_n 1, 1) := by decide +kernel
theorem d_min_2 : decode jdk_29_method_69_code 2 = .ok (.if_icmp .gt 7, 3) := by decide +kernel
theorem d_min_9 : decode jdk_29_method_69_code 9 = .ok (.iload_n 1, 1) := by decide +kernel
theorem d_min_10 : decode jdk_29_method_69_code 10 = .ok (.ireturn, 1) := by decide +kernel
theorem d_min_5 : decode jdk_29_method_69_code 5 = .ok (.iload_n 0, 1) := by decide +kernel
theorem d_min_6 : decode jdk_29_method_69_code 6 = .ok (.goto 4, 3) := by decide +kernel
theorem d_len_0 : decode method_3_code 0 = .ok (.iload_n 1, 1) := by decide +kernel
theorem d_len_1 : decode method_3_code 1 = .ok (.iload_n 0, 1) := by decide +kernel
theorem d_len_2 : decode method_3_code 2 = .ok (.if_icmp .le 11, 3) := by decide +kernel
theorem d_len_5 : decode method_3_code 5 = .ok (.iload_n 1, 1) := by decide +kernel
theorem d_len_6 : decode method_3_code 6 = .ok (.i2l, 1) := by decide +kernel
theorem d_len_7 : decode method_3_code 7 = .ok (.iload_n 0, 1) := by decide +kernel
theorem d_len_8 : decode method_3_code 8 = .ok (.i2l, 1) := by decide +kernel
theorem d_len_9 : decode method_3_code 9 = .ok (.lsub, 1) := by decide +kernel
theorem d_len_10 : decode method_3_code 10 = .ok (.goto 4, 3) := by decide +kernel
theorem d_len_14 : decode method_3_code 14 = .ok (.lreturn, 1) := by decide +kernel
theorem d_len_13 : decode method_3_code 13 = .ok (.lconst 0, 1) := by decide +kernel
theorem pn_len : plainName "com/example/collate/collate/analysis/AtomSetCardinalityPinLaw" = true := by first | (simp [plainName, overriddenIn]; done) | decide +kernel
theorem d_cp0_0 : decode jdk_65_method_123_code 0 = .ok (.iload_n 1, 1) := by decide +kernel
theorem d_cp0_1 : decode jdk_65_method_123_code 1 = .ok (.aload_n 0, 1) := by decide +kernel
theorem d_cp0_2 : decode jdk_65_method_123_code 2 = .ok (.arraylength, 1) := by decide +kernel
theorem d_cp0_3 : decode jdk_65_method_123_code 3 = .ok (.if_icmp .ne 11, 3) := by decide +kernel
theorem d_cp0_14 : decode jdk_65_method_123_code 14 = .ok (.iload_n 1, 1) := by decide +kernel
theorem d_cp0_15 : decode jdk_65_method_123_code 15 = .ok (.newarray .int, 2) := by decide +kernel
theorem d_cp0_17 : decode jdk_65_method_123_code 17 = .ok (.astore_n 2, 1) := by decide +kernel
theorem d_cp0_18 : decode jdk_65_method_123_code 18 = .ok (.aload_n 0, 1) := by decide +kernel
theorem d_cp0_19 : decode jdk_65_method_123_code 19 = .ok (.iconst 0, 1) := by decide +kernel
theorem d_cp0_20 : decode jdk_65_method_123_code 20 = .ok (.aload_n 2, 1) := by decide +kernel
theorem d_cp0_21 : decode jdk_65_method_123_code 21 = .ok (.iconst 0, 1) := by decide +kernel
theorem d_cp0_22 : decode jdk_65_method_123_code 22 = .ok (.aload_n 0, 1) := by decide +kernel
theorem d_cp0_23 : decode jdk_65_method_123_code 23 = .ok (.arraylength, 1) := by decide +kernel
theorem d_cp0_24 : decode jdk_65_method_123_code 24 = .ok (.iload_n 1, 1) := by decide +kernel
theorem d_cp0_25 : decode jdk_65_method_123_code 25 = .ok (.invokestatic 304, 3) := by decide +kernel
theorem pd_0 : parseMethodDescriptor "(II)I" = some ⟨[.int, .int], some .int⟩ := by decide +kernel
theorem d_cp0_28 : decode jdk_65_method_123_code 28 = .ok (.invokestatic 150, 3) := by decide +kernel
theorem d_cp0_31 : decode jdk_65_method_123_code 31 = .ok (.aload_n 2, 1) := by decide +kernel
theorem d_cp0_32 : decode jdk_65_method_123_code 32 = .ok (.areturn, 1) := by decide +kernel
theorem pn_cp0 : plainName "java/util/Arrays" = true := by first | (simp [plainName, overriddenIn]; done) | decide +kernel
theorem d_cp2_0 : decode jdk_65_method_123_code 0 = .ok (.iload_n 1, 1) := by decide +kernel
theorem d_cp2_1 : decode jdk_65_method_123_code 1 = .ok (.aload_n 0, 1) := by decide +kernel
theorem d_cp2_2 : decode jdk_65_method_123_code 2 = .ok (.arraylength, 1) := by decide +kernel
theorem d_cp2_3 : decode jdk_65_method_123_code 3 = .ok (.if_icmp .ne 11, 3) := by decide +kernel
theorem d_cp2_14 : decode jdk_65_method_123_code 14 = .ok (.iload_n 1, 1) := by decide +kernel
theorem d_cp2_15 : decode jdk_65_method_123_code 15 = .ok (.newarray .int, 2) := by decide +kernel
theorem d_cp2_17 : decode jdk_65_method_123_code 17 = .ok (.astore_n 2, 1) := by decide +kernel
theorem d_cp2_18 : decode jdk_65_method_123_code 18 = .ok (.aload_n 0, 1) := by decide +kernel
theorem d_cp2_19 : decode jdk_65_method_123_code 19 = .ok (.iconst 0, 1) := by decide +kernel
theorem d_cp2_20 : decode jdk_65_method_123_code 20 = .ok (.aload_n 2, 1) := by decide +kernel
theorem d_cp2_21 : decode jdk_65_method_123_code 21 = .ok (.iconst 0, 1) := by decide +kernel
theorem d_cp2_22 : decode jdk_65_method_123_code 22 = .ok (.aload_n 0, 1) := by decide +kernel
theorem d_cp2_23 : decode jdk_65_method_123_code 23 = .ok (.arraylength, 1) := by decide +kernel
theorem d_cp2_24 : decode jdk_65_method_123_code 24 = .ok (.iload_n 1, 1) := by decide +kernel
theorem d_cp2_25 : decode jdk_65_method_123_code 25 = .ok (.invokestatic 304, 3) := by decide +kernel
theorem d_cp2_28 : decode jdk_65_method_123_code 28 = .ok (.invokestatic 150, 3) := by decide +kernel
theorem d_cp2_31 : decode jdk_65_method_123_code 31 = .ok (.aload_n 2, 1) := by decide +kernel
theorem d_cp2_32 : decode jdk_65_method_123_code 32 = .ok (.areturn, 1) := by decide +kernel
theorem pn_cp2 : plainName "java/util/Arrays" = true := by first | (simp [plainName, overriddenIn]; done) | decide +kernel
theorem d_cp4_0 : decode jdk_65_method_123_code 0 = .ok (.iload_n 1, 1) := by decide +kernel
theorem d_cp4_1 : decode jdk_65_method_123_code 1 = .ok (.aload_n 0, 1) := by decide +kernel
theorem d_cp4_2 : decode jdk_65_method_123_code 2 = .ok (.arraylength, 1) := by decide +kernel
theorem d_cp4_3 : decode jdk_65_method_123_code 3 = .ok (.if_icmp .ne 11, 3) := by decide +kernel
theorem d_cp4_14 : decode jdk_65_method_123_code 14 = .ok (.iload_n 1, 1) := by decide +kernel
theorem d_cp4_15 : decode jdk_65_method_123_code 15 = .ok (.newarray .int, 2) := by decide +kernel
theorem d_cp4_17 : decode jdk_65_method_123_code 17 = .ok (.astore_n 2, 1) := by decide +kernel
theorem d_cp4_18 : decode jdk_65_method_123_code 18 = .ok (.aload_n 0, 1) := by decide +kernel
theorem d_cp4_19 : decode jdk_65_method_123_code 19 = .ok (.iconst 0, 1) := by decide +kernel
theorem d_cp4_20 : decode jdk_65_method_123_code 20 = .ok (.aload_n 2, 1) := by decide +kernel
theorem d_cp4_21 : decode jdk_65_method_123_code 21 = .ok (.iconst 0, 1) := by decide +kernel
theorem d_cp4_22 : decode jdk_65_method_123_code 22 = .ok (.aload_n 0, 1) := by decide +kernel
theorem d_cp4_23 : decode jdk_65_method_123_code 23 = .ok (.arraylength, 1) := by decide +kernel
theorem d_cp4_24 : decode jdk_65_method_123_code 24 = .ok (.iload_n 1, 1) := by decide +kernel
theorem d_cp4_25 : decode jdk_65_method_123_code 25 = .ok (.invokestatic 304, 3) := by decide +kernel
theorem d_cp4_28 : decode jdk_65_method_123_code 28 = .ok (.invokestatic 150, 3) := by decide +kernel
theorem d_cp4_31 : decode jdk_65_method_123_code 31 = .ok (.aload_n 2, 1) := by decide +kernel
theorem d_cp4_32 : decode jdk_65_method_123_code 32 = .ok (.areturn, 1) := by decide +kernel
theorem pn_cp4 : plainName "java/util/Arrays" = true := by first | (simp [plainName, overriddenIn]; done) | decide +kernel
theorem d_add00_0 : decode prog_6_method_6_code 0 = .ok (.iload_n 2, 1) := by decide +kernel
theorem d_add00_1 : decode prog_6_method_6_code 1 = .ok (.ifCond .ne 4, 3) := by decide +kernel
theorem d_add00_5 : decode prog_6_method_6_code 5 = .ok (.aload_n 0, 1) := by decide +kernel
theorem d_add00_6 : decode prog_6_method_6_code 6 = .ok (.getfield 16, 3) := by decide +kernel
theorem d_add00_9 : decode prog_6_method_6_code 9 = .ok (.ifCond .eq 20, 3) := by decide +kernel
theorem d_add00_29 : decode prog_6_method_6_code 29 = .ok (.iconst 0, 1) := by decide +kernel
theorem d_add00_30 : decode prog_6_method_6_code 30 = .ok (.istore_n 3, 1) := by decide +kernel
theorem d_add00_31 : decode prog_6_method_6_code 31 = .ok (.aload_n 0, 1) := by decide +kernel
theorem d_add00_32 : decode prog_6_method_6_code 32 = .ok (.getfield 16, 3) := by decide +kernel
theorem d_add00_35 : decode prog_6_method_6_code 35 = .ok (.ifCond .le 36, 3) := by decide +kernel
theorem d_add00_71 : decode prog_6_method_6_code 71 = .ok (.aload_n 0, 1) := by decide +kernel
theorem d_add00_72 : decode prog_6_method_6_code 72 = .ok (.getfield 16, 3) := by decide +kernel
theorem d_add00_75 : decode prog_6_method_6_code 75 = .ok (.iload_n 2, 1) := by decide +kernel
theorem d_add00_76 : decode prog_6_method_6_code 76 = .ok (.iadd, 1) := by decide +kernel
theorem d_add00_77 : decode prog_6_method_6_code 77 = .ok (.iload_n 3, 1) := by decide +kernel
theorem d_add00_78 : decode prog_6_method_6_code 78 = .ok (.isub, 1) := by decide +kernel
theorem d_add00_79 : decode prog_6_method_6_code 79 = .ok (.aload_n 0, 1) := by decide +kernel
theorem d_add00_80 : decode prog_6_method_6_code 80 = .ok (.getfield 13, 3) := by decide +kernel
theorem d_add00_83 : decode prog_6_method_6_code 83 = .ok (.arraylength, 1) := by decide +kernel
theorem d_add00_84 : decode prog_6_method_6_code 84 = .ok (.if_icmp .le 32, 3) := by decide +kernel
theorem d_add00_87 : decode prog_6_method_6_code 87 = .ok (.aload_n 0, 1) := by decide +kernel
theorem d_add00_88 : decode prog_6_method_6_code 88 = .ok (.aload_n 0, 1) := by decide +kernel
theorem d_add00_89 : decode prog_6_method_6_code 89 = .ok (.getfield 13, 3) := by decide +kernel
theorem d_add00_92 : decode prog_6_method_6_code 92 = .ok (.iconst 2, 1) := by decide +kernel
theorem d_add00_93 : decode prog_6_method_6_code 93 = .ok (.aload_n 0, 1) := by decide +kernel
theorem d_add00_94 : decode prog_6_method_6_code 94 = .ok (.getfield 13, 3) := by decide +kernel
theorem d_add00_97 : decode prog_6_method_6_code 97 = .ok (.arraylength, 1) := by decide +kernel
theorem d_add00_98 : decode prog_6_method_6_code 98 = .ok (.imul, 1) := by decide +kernel
theorem d_add00_99 : decode prog_6_method_6_code 99 = .ok (.aload_n 0, 1) := by decide +kernel
theorem d_add00_100 : decode prog_6_method_6_code 100 = .ok (.getfield 16, 3) := by decide +kernel
theorem d_add00_103 : decode prog_6_method_6_code 103 = .ok (.iload_n 2, 1) := by decide +kernel
theorem d_add00_104 : decode prog_6_method_6_code 104 = .ok (.iadd, 1) := by decide +kernel
theorem d_add00_105 : decode prog_6_method_6_code 105 = .ok (.iload_n 3, 1) := by decide +kernel
theorem d_add00_106 : decode prog_6_method_6_code 106 = .ok (.isub, 1) := by decide +kernel
theorem d_add00_107 : decode prog_6_method_6_code 107 = .ok (.invokestatic 41, 3) := by decide +kernel
theorem d_add00_110 : decode prog_6_method_6_code 110 = .ok (.invokestatic 20, 3) := by decide +kernel
theorem pd_1 : parseMethodDescriptor "([II)[I" = some ⟨[(.array .int), .int], some (.array .int)⟩ := by decide +kernel
theorem d_add00_113 : decode prog_6_method_6_code 113 = .ok (.putfield 13, 3) := by decide +kernel
theorem d_add00_116 : decode prog_6_method_6_code 116 = .ok (.aload_n 1, 1) := by decide +kernel
theorem d_add00_117 : decode prog_6_method_6_code 117 = .ok (.iload_n 3, 1) := by decide +kernel
theorem d_add00_118 : decode prog_6_method_6_code 118 = .ok (.aload_n 0, 1) := by decide +kernel
theorem d_add00_119 : decode prog_6_method_6_code 119 = .ok (.getfield 13, 3) := by decide +kernel
theorem d_add00_122 : decode prog_6_method_6_code 122 = .ok (.aload_n 0, 1) := by decide +kernel
theorem d_add00_123 : decode prog_6_method_6_code 123 = .ok (.getfield 16, 3) := by decide +kernel
theorem d_add00_126 : decode prog_6_method_6_code 126 = .ok (.iload_n 2, 1) := by decide +kernel
theorem d_add00_127 : decode prog_6_method_6_code 127 = .ok (.iload_n 3, 1) := by decide +kernel
theorem d_add00_128 : decode prog_6_method_6_code 128 = .ok (.isub, 1) := by decide +kernel
theorem d_add00_129 : decode prog_6_method_6_code 129 = .ok (.invokestatic 47, 3) := by decide +kernel
theorem d_add00_132 : decode prog_6_method_6_code 132 = .ok (.aload_n 0, 1) := by decide +kernel
theorem d_add00_133 : decode prog_6_method_6_code 133 = .ok (.dup, 1) := by decide +kernel
theorem d_add00_134 : decode prog_6_method_6_code 134 = .ok (.getfield 16, 3) := by decide +kernel
theorem d_add00_137 : decode prog_6_method_6_code 137 = .ok (.iload_n 2, 1) := by decide +kernel
theorem d_add00_138 : decode prog_6_method_6_code 138 = .ok (.iload_n 3, 1) := by decide +kernel
theorem d_add00_139 : decode prog_6_method_6_code 139 = .ok (.isub, 1) := by decide +kernel
theorem d_add00_140 : decode prog_6_method_6_code 140 = .ok (.iadd, 1) := by decide +kernel
theorem d_add00_141 : decode prog_6_method_6_code 141 = .ok (.putfield 16, 3) := by decide +kernel
theorem d_add00_144 : decode prog_6_method_6_code 144 = .ok (.goto 176, 3) := by decide +kernel
theorem d_add00_320 : decode prog_6_method_6_code 320 = .ok (.return_, 1) := by decide +kernel
theorem pn_add00 : plainName "com/example/collate/collate/analysis/AtomSet" = true := by first | (simp [plainName, overriddenIn]; done) | decide +kernel
theorem d_add22_0 : decode prog_6_method_6_code 0 = .ok (.iload_n 2, 1) := by decide +kernel
theorem d_add22_1 : decode prog_6_method_6_code 1 = .ok (.ifCond .ne 4, 3) := by decide +kernel
theorem d_add22_5 : decode prog_6_method_6_code 5 = .ok (.aload_n 0, 1) := by decide +kernel
theorem d_add22_6 : decode prog_6_method_6_code 6 = .ok (.getfield 16, 3) := by decide +kernel
theorem d_add22_9 : decode prog_6_method_6_code 9 = .ok (.ifCond .eq 20, 3) := by decide +kernel
theorem d_add22_12 : decode prog_6_method_6_code 12 = .ok (.aload_n 1, 1) := by decide +kernel
theorem d_add22_13 : decode prog_6_method_6_code 13 = .ok (.iconst 0, 1) := by decide +kernel
theorem d_add22_14 : decode prog_6_method_6_code 14 = .ok (.iaload, 1) := by decide +kernel
theorem d_add22_15 : decode prog_6_method_6_code 15 = .ok (.aload_n 0, 1) := by decide +kernel
theorem d_add22_16 : decode prog_6_method_6_code 16 = .ok (.getfield 13, 3) := by decide +kernel
theorem d_add22_19 : decode prog_6_method_6_code 19 = .ok (.aload_n 0, 1) := by decide +kernel
theorem d_add22_20 : decode prog_6_method_6_code 20 = .ok (.getfield 16, 3) := by decide +kernel
theorem d_add22_23 : decode prog_6_method_6_code 23 = .ok (.iconst 1, 1) := by decide +kernel
theorem d_add22_24 : decode prog_6_method_6_code 24 = .ok (.isub, 1) := by decide +kernel
theorem d_add22_25 : decode prog_6_method_6_code 25 = .ok (.iaload, 1) := by decide +kernel
theorem d_add22_26 : decode prog_6_method_6_code 26 = .ok (.if_icmp .lt 121, 3) := by decide +kernel
theorem d_add22_147 : decode prog_6_method_6_code 147 = .ok (.aload_n 0, 1) := by decide +kernel
theorem d_add22_148 : decode prog_6_method_6_code 148 = .ok (.getfield 16, 3) := by decide +kernel
theorem d_add22_151 : decode prog_6_method_6_code 151 = .ok (.iload_n 2, 1) := by decide +kernel
theorem d_add22_152 : decode prog_6_method_6_code 152 = .ok (.iadd, 1) := by decide +kernel
theorem d_add22_153 : decode prog_6_method_6_code 153 = .ok (.newarray .int, 2) := by decide +kernel
theorem d_add22_155 : decode prog_6_method_6_code 155 = .ok (.astore_n 3, 1) := by decide +kernel
theorem d_add22_156 : decode prog_6_method_6_code 156 = .ok (.iconst 0, 1) := by decide +kernel
theorem d_add22_157 : decode prog_6_method_6_code 157 = .ok (.istore 4, 2) := by decide +kernel
theorem d_add22_159 : decode prog_6_method_6_code 159 = .ok (.iconst 0, 1) := by decide +kernel
theorem d_add22_160 : decode prog_6_method_6_code 160 = .ok (.istore 5, 2) := by decide +kernel
theorem d_add22_162 : decode prog_6_method_6_code 162 = .ok (.iconst 0, 1) := by decide +kernel
theorem d_add22_163 : decode prog_6_method_6_code 163 = .ok (.istore 6, 2) := by decide +kernel
theorem d_add22_165 : decode prog_6_method_6_code 165 = .ok (.iload 5, 2) := by decide +kernel
theorem d_add22_167 : decode prog_6_method_6_code 167 = .ok (.aload_n 0, 1) := by decide +kernel
theorem d_add22_168 : decode prog_6_method_6_code 168 = .ok (.getfield 16, 3) := by decide +kernel
theorem d_add22_171 : decode prog_6_method_6_code 171 = .ok (.if_icmp .lt 9, 3) := by decide +kernel
theorem d_add22_180 : decode prog_6_method_6_code 180 = .ok (.iload 6, 2) := by decide +kernel
theorem d_add22_182 : decode prog_6_method_6_code 182 = .ok (.iload_n 2, 1) := by decide +kernel
theorem d_add22_183 : decode prog_6_method_6_code 183 = .ok (.if_icmp .eq 26, 3) := by decide +kernel
theorem d_add22_186 : decode prog_6_method_6_code 186 = .ok (.iload 5, 2) := by decide +kernel
theorem d_add22_188 : decode prog_6_method_6_code 188 = .ok (.aload_n 0, 1) := by decide +kernel
theorem d_add22_189 : decode prog_6_method_6_code 189 = .ok (.getfield 16, 3) := by decide +kernel
theorem d_add22_192 : decode prog_6_method_6_code 192 = .ok (.if_icmp .ge 43, 3) := by decide +kernel
theorem d_add22_195 : decode prog_6_method_6_code 195 = .ok (.aload_n 0, 1) := by decide +kernel
theorem d_add22_196 : decode prog_6_method_6_code 196 = .ok (.getfield 13, 3) := by decide +kernel
theorem d_add22_199 : decode prog_6_method_6_code 199 = .ok (.iload 5, 2) := by decide +kernel
theorem d_add22_201 : decode prog_6_method_6_code 201 = .ok (.iaload, 1) := by decide +kernel
theorem d_add22_202 : decode prog_6_method_6_code 202 = .ok (.aload_n 1, 1) := by decide +kernel
theorem d_add22_203 : decode prog_6_method_6_code 203 = .ok (.iload 6, 2) := by decide +kernel
theorem d_add22_205 : decode prog_6_method_6_code 205 = .ok (.iaload, 1) := by decide +kernel
theorem d_add22_206 : decode prog_6_method_6_code 206 = .ok (.if_icmp .gt 29, 3) := by decide +kernel
theorem d_add22_235 : decode prog_6_method_6_code 235 = .ok (.aload_n 1, 1) := by decide +kernel
theorem d_add22_236 : decode prog_6_method_6_code 236 = .ok (.iload 6, 2) := by decide +kernel
theorem d_add22_238 : decode prog_6_method_6_code 238 = .ok (.iaload, 1) := by decide +kernel
theorem d_add22_239 : decode prog_6_method_6_code 239 = .ok (.istore 7, 2) := by decide +kernel
theorem d_add22_241 : decode prog_6_method_6_code 241 = .ok (.aload_n 1, 1) := by decide +kernel
theorem d_add22_242 : decode prog_6_method_6_code 242 = .ok (.iload 6, 2) := by decide +kernel
theorem d_add22_244 : decode prog_6_method_6_code 244 = .ok (.iconst 1, 1) := by decide +kernel
theorem d_add22_245 : decode prog_6_method_6_code 245 = .ok (.iadd, 1) := by decide +kernel
theorem d_add22_246 : decode prog_6_method_6_code 246 = .ok (.iaload, 1) := by decide +kernel
theorem d_add22_247 : decode prog_6_method_6_code 247 = .ok (.istore 8, 2) := by decide +kernel
theorem d_add22_249 : decode prog_6_method_6_code 249 = .ok (.iinc 6 2, 3) := by decide +kernel
theorem d_add22_252 : decode prog_6_method_6_code 252 = .ok (.iload 4, 2) := by decide +kernel
theorem d_add22_254 : decode prog_6_method_6_code 254 = .ok (.ifCond .le 34, 3) := by decide +kernel
theorem d_add22_288 : decode prog_6_method_6_code 288 = .ok (.aload_n 3, 1) := by decide +kernel
theorem d_add22_289 : decode prog_6_method_6_code 289 = .ok (.iload 4, 2) := by decide +kernel
theorem d_add22_291 : decode prog_6_method_6_code 291 = .ok (.iinc 4 1, 3) := by decide +kernel
theorem d_add22_294 : decode prog_6_method_6_code 294 = .ok (.iload 7, 2) := by decide +kernel
theorem d_add22_296 : decode prog_6_method_6_code 296 = .ok (.iastore, 1) := by decide +kernel
theorem d_add22_297 : decode prog_6_method_6_code 297 = .ok (.aload_n 3, 1) := by decide +kernel
theorem d_add22_298 : decode prog_6_method_6_code 298 = .ok (.iload 4, 2) := by decide +kernel
theorem d_add22_300 : decode prog_6_method_6_code 300 = .ok (.iinc 4 1, 3) := by decide +kernel
theorem d_add22_303 : decode prog_6_method_6_code 303 = .ok (.iload 8, 2) := by decide +kernel
theorem d_add22_305 : decode prog_6_method_6_code 305 = .ok (.iastore, 1) := by decide +kernel
theorem d_add22_306 : decode prog_6_method_6_code 306 = .ok (.goto (-141), 3) := by decide +kernel
theorem d_add22_209 : decode prog_6_method_6_code 209 = .ok (.aload_n 0, 1) := by decide +kernel
theorem d_add22_210 : decode prog_6_method_6_code 210 = .ok (.getfield 13, 3) := by decide +kernel
theorem d_add22_213 : decode prog_6_method_6_code 213 = .ok (.iload 5, 2) := by decide +kernel
theorem d_add22_215 : decode prog_6_method_6_code 215 = .ok (.iaload, 1) := by decide +kernel
theorem d_add22_216 : decode prog_6_method_6_code 216 = .ok (.istore 7, 2) := by decide +kernel
theorem d_add22_218 : decode prog_6_method_6_code 218 = .ok (.aload_n 0, 1) := by decide +kernel
theorem d_add22_219 : decode prog_6_method_6_code 219 = .ok (.getfield 13, 3) := by decide +kernel
theorem d_add22_222 : decode prog_6_method_6_code 222 = .ok (.iload 5, 2) := by decide +kernel
theorem d_add22_224 : decode prog_6_method_6_code 224 = .ok (.iconst 1, 1) := by decide +kernel
theorem d_add22_225 : decode prog_6_method_6_code 225 = .ok (.iadd, 1) := by decide +kernel
theorem d_add22_226 : decode prog_6_method_6_code 226 = .ok (.iaload, 1) := by decide +kernel
theorem d_add22_227 : decode prog_6_method_6_code 227 = .ok (.istore 8, 2) := by decide +kernel
theorem d_add22_229 : decode prog_6_method_6_code 229 = .ok (.iinc 5 2, 3) := by decide +kernel
theorem d_add22_232 : decode prog_6_method_6_code 232 = .ok (.goto 20, 3) := by decide +kernel
theorem d_add22_257 : decode prog_6_method_6_code 257 = .ok (.iload 7, 2) := by decide +kernel
theorem d_add22_259 : decode prog_6_method_6_code 259 = .ok (.aload_n 3, 1) := by decide +kernel
theorem d_add22_260 : decode prog_6_method_6_code 260 = .ok (.iload 4, 2) := by decide +kernel
theorem d_add22_262 : decode prog_6_method_6_code 262 = .ok (.iconst 1, 1) := by decide +kernel
theorem d_add22_263 : decode prog_6_method_6_code 263 = .ok (.isub, 1) := by decide +kernel
theorem d_add22_264 : decode prog_6_method_6_code 264 = .ok (.iaload, 1) := by decide +kernel
theorem d_add22_265 : decode prog_6_method_6_code 265 = .ok (.if_icmp .gt 23, 3) := by decide +kernel
theorem d_add22_174 : decode prog_6_method_6_code 174 = .ok (.iload 6, 2) := by decide +kernel
theorem d_add22_176 : decode prog_6_method_6_code 176 = .ok (.iload_n 2, 1) := by decide +kernel
theorem d_add22_177 : decode prog_6_method_6_code 177 = .ok (.if_icmp .ge 132, 3) := by decide +kernel
theorem d_add22_309 : decode prog_6_method_6_code 309 = .ok (.aload_n 0, 1) := by decide +kernel
theorem d_add22_310 : decode prog_6_method_6_code 310 = .ok (.aload_n 3, 1) := by decide +kernel
theorem d_add22_311 : decode prog_6_method_6_code 311 = .ok (.putfield 13, 3) := by decide +kernel
theorem d_add22_314 : decode prog_6_method_6_code 314 = .ok (.aload_n 0, 1) := by decide +kernel
theorem d_add22_315 : decode prog_6_method_6_code 315 = .ok (.iload 4, 2) := by decide +kernel
theorem d_add22_317 : decode prog_6_method_6_code 317 = .ok (.putfield 16, 3) := by decide +kernel
theorem d_add22_320 : decode prog_6_method_6_code 320 = .ok (.return_, 1) := by decide +kernel
theorem d_add22_268 : decode prog_6_method_6_code 268 = .ok (.aload_n 3, 1) := by decide +kernel
theorem d_add22_269 : decode prog_6_method_6_code 269 = .ok (.iload 4, 2) := by decide +kernel
theorem d_add22_271 : decode prog_6_method_6_code 271 = .ok (.iconst 1, 1) := by decide +kernel
theorem d_add22_272 : decode prog_6_method_6_code 272 = .ok (.isub, 1) := by decide +kernel
theorem d_add22_273 : decode prog_6_method_6_code 273 = .ok (.aload_n 3, 1) := by decide +kernel
theorem d_add22_274 : decode prog_6_method_6_code 274 = .ok (.iload 4, 2) := by decide +kernel
theorem d_add22_276 : decode prog_6_method_6_code 276 = .ok (.iconst 1, 1) := by decide +kernel
theorem d_add22_277 : decode prog_6_method_6_code 277 = .ok (.isub, 1) := by decide +kernel
theorem d_add22_278 : decode prog_6_method_6_code 278 = .ok (.iaload, 1) := by decide +kernel
theorem d_add22_279 : decode prog_6_method_6_code 279 = .ok (.iload 8, 2) := by decide +kernel
theorem d_add22_281 : decode prog_6_method_6_code 281 = .ok (.invokestatic 41, 3) := by decide +kernel
theorem d_add22_284 : decode prog_6_method_6_code 284 = .ok (.iastore, 1) := by decide +kernel
theorem d_add22_285 : decode prog_6_method_6_code 285 = .ok (.goto 21, 3) := by decide +kernel
theorem d_add22_29 : decode prog_6_method_6_code 29 = .ok (.iconst 0, 1) := by decide +kernel
theorem d_add22_30 : decode prog_6_method_6_code 30 = .ok (.istore_n 3, 1) := by decide +kernel
theorem d_add22_31 : decode prog_6_method_6_code 31 = .ok (.aload_n 0, 1) := by decide +kernel
theorem d_add22_32 : decode prog_6_method_6_code 32 = .ok (.getfield 16, 3) := by decide +kernel
theorem d_add22_35 : decode prog_6_method_6_code 35 = .ok (.ifCond .le 36, 3) := by decide +kernel
theorem d_add22_38 : decode prog_6_method_6_code 38 = .ok (.aload_n 1, 1) := by decide +kernel
theorem d_add22_39 : decode prog_6_method_6_code 39 = .ok (.iconst 0, 1) := by decide +kernel
theorem d_add22_40 : decode prog_6_method_6_code 40 = .ok (.iaload, 1) := by decide +kernel
theorem d_add22_41 : decode prog_6_method_6_code 41 = .ok (.aload_n 0, 1) := by decide +kernel
theorem d_add22_42 : decode prog_6_method_6_code 42 = .ok (.getfield 13, 3) := by decide +kernel
theorem d_add22_45 : decode prog_6_method_6_code 45 = .ok (.aload_n 0, 1) := by decide +kernel
theorem d_add22_46 : decode prog_6_method_6_code 46 = .ok (.getfield 16, 3) := by decide +kernel
theorem d_add22_49 : decode prog_6_method_6_code 49 = .ok (.iconst 1, 1) := by decide +kernel
theorem d_add22_50 : decode prog_6_method_6_code 50 = .ok (.isub, 1) := by decide +kernel
theorem d_add22_51 : decode prog_6_method_6_code 51 = .ok (.iaload, 1) := by decide +kernel
theorem d_add22_52 : decode prog_6_method_6_code 52 = .ok (.if_icmp .ne 19, 3) := by decide +kernel
theorem d_add22_55 : decode prog_6_method_6_code 55 = .ok (.aload_n 0, 1) := by decide +kernel
theorem d_add22_56 : decode prog_6_method_6_code 56 = .ok (.getfield 13, 3) := by decide +kernel
theorem d_add22_59 : decode prog_6_method_6_code 59 = .ok (.aload_n 0, 1) := by decide +kernel
theorem d_add22_60 : decode prog_6_method_6_code 60 = .ok (.getfield 16, 3) := by decide +kernel
theorem d_add22_63 : decode prog_6_method_6_code 63 = .ok (.iconst 1, 1) := by decide +kernel
theorem d_add22_64 : decode prog_6_method_6_code 64 = .ok (.isub, 1) := by decide +kernel
theorem d_add22_65 : decode prog_6_method_6_code 65 = .ok (.aload_n 1, 1) := by decide +kernel
theorem d_add22_66 : decode prog_6_method_6_code 66 = .ok (.iconst 1, 1) := by decide +kernel
theorem d_add22_67 : decode prog_6_method_6_code 67 = .ok (.iaload, 1) := by decide +kernel
theorem d_add22_68 : decode prog_6_method_6_code 68 = .ok (.iastore, 1) := by decide +kernel
theorem d_add22_69 : decode prog_6_method_6_code 69 = .ok (.iconst 2, 1) := by decide +kernel
theorem d_add22_70 : decode prog_6_method_6_code 70 = .ok (.istore_n 3, 1) := by decide +kernel
theorem d_add22_71 : decode prog_6_method_6_code 71 = .ok (.aload_n 0, 1) := by decide +kernel
theorem d_add22_72 : decode prog_6_method_6_code 72 = .ok (.getfield 16, 3) := by decide +kernel
theorem d_add22_75 : decode prog_6_method_6_code 75 = .ok (.iload_n 2, 1) := by decide +kernel
theorem d_add22_76 : decode prog_6_method_6_code 76 = .ok (.iadd, 1) := by decide +kernel
theorem d_add22_77 : decode prog_6_method_6_code 77 = .ok (.iload_n 3, 1) := by decide +kernel
theorem d_add22_78 : decode prog_6_method_6_code 78 = .ok (.isub, 1) := by decide +kernel
theorem d_add22_79 : decode prog_6_method_6_code 79 = .ok (.aload_n 0, 1) := by decide +kernel
theorem d_add22_80 : decode prog_6_method_6_code 80 = .ok (.getfield 13, 3) := by decide +kernel
theorem d_add22_83 : decode prog_6_method_6_code 83 = .ok (.arraylength, 1) := by decide +kernel
theorem d_add22_84 : decode prog_6_method_6_code 84 = .ok (.if_icmp .le 32, 3) := by decide +kernel
theorem d_add22_116 : decode prog_6_method_6_code 116 = .ok (.aload_n 1, 1) := by decide +kernel
theorem d_add22_117 : decode prog_6_method_6_code 117 = .ok (.iload_n 3, 1) := by decide +kernel
theorem d_add22_118 : decode prog_6_method_6_code 118 = .ok (.aload_n 0, 1) := by decide +kernel
theorem d_add22_119 : decode prog_6_method_6_code 119 = .ok (.getfield 13, 3) := by decide +kernel
theorem d_add22_122 : decode prog_6_method_6_code 122 = .ok (.aload_n 0, 1) := by decide +kernel
theorem d_add22_123 : decode prog_6_method_6_code 123 = .ok (.getfield 16, 3) := by decide +kernel
theorem d_add22_126 : decode prog_6_method_6_code 126 = .ok (.iload_n 2, 1) := by decide +kernel
theorem d_add22_127 : decode prog_6_method_6_code 127 = .ok (.iload_n 3, 1) := by decide +kernel
theorem d_add22_128 : decode prog_6_method_6_code 128 = .ok (.isub, 1) := by decide +kernel
theorem d_add22_129 : decode prog_6_method_6_code 129 = .ok (.invokestatic 47, 3) := by decide +kernel
theorem d_add22_132 : decode prog_6_method_6_code 132 = .ok (.aload_n 0, 1) := by decide +kernel
theorem d_add22_133 : decode prog_6_method_6_code 133 = .ok (.dup, 1) := by decide +kernel
theorem d_add22_134 : decode prog_6_method_6_code 134 = .ok (.getfield 16, 3) := by decide +kernel
theorem d_add22_137 : decode prog_6_method_6_code 137 = .ok (.iload_n 2, 1) := by decide +kernel
theorem d_add22_138 : decode prog_6_method_6_code 138 = .ok (.iload_n 3, 1) := by decide +kernel
theorem d_add22_139 : decode prog_6_method_6_code 139 = .ok (.isub, 1) := by decide +kernel
theorem d_add22_140 : decode prog_6_method_6_code 140 = .ok (.iadd, 1) := by decide +kernel
theorem d_add22_141 : decode prog_6_method_6_code 141 = .ok (.putfield 16, 3) := by decide +kernel
theorem d_add22_144 : decode prog_6_method_6_code 144 = .ok (.goto 176, 3) := by decide +kernel
theorem d_add22_87 : decode prog_6_method_6_code 87 = .ok (.aload_n 0, 1) := by decide +kernel
theorem d_add22_88 : decode prog_6_method_6_code 88 = .ok (.aload_n 0, 1) := by decide +kernel
theorem d_add22_89 : decode prog_6_method_6_code 89 = .ok (.getfield 13, 3) := by decide +kernel
theorem d_add22_92 : decode prog_6_method_6_code 92 = .ok (.iconst 2, 1) := by decide +kernel
theorem d_add22_93 : decode prog_6_method_6_code 93 = .ok (.aload_n 0, 1) := by decide +kernel
theorem d_add22_94 : decode prog_6_method_6_code 94 = .ok (.getfield 13, 3) := by decide +kernel
theorem d_add22_97 : decode prog_6_method_6_code 97 = .ok (.arraylength, 1) := by decide +kernel
theorem d_add22_98 : decode prog_6_method_6_code 98 = .ok (.imul, 1) := by decide +kernel
theorem d_add22_99 : decode prog_6_method_6_code 99 = .ok (.aload_n 0, 1) := by decide +kernel
theorem d_add22_100 : decode prog_6_method_6_code 100 = .ok (.getfield 16, 3) := by decide +kernel
theorem d_add22_103 : decode prog_6_method_6_code 103 = .ok (.iload_n 2, 1) := by decide +kernel
theorem d_add22_104 : decode prog_6_method_6_code 104 = .ok (.iadd, 1) := by decide +kernel
theorem d_add22_105 : decode prog_6_method_6_code 105 = .ok (.iload_n 3, 1) := by decide +kernel
theorem d_add22_106 : decode prog_6_method_6_code 106 = .ok (.isub, 1) := by decide +kernel
theorem d_add22_107 : decode prog_6_method_6_code 107 = .ok (.invokestatic 41, 3) := by decide +kernel
theorem d_add22_110 : decode prog_6_method_6_code 110 = .ok (.invokestatic 20, 3) := by decide +kernel
theorem d_add22_113 : decode prog_6_method_6_code 113 = .ok (.putfield 13, 3) := by decide +kernel
theorem pn_add22 : plainName "com/example/collate/collate/analysis/AtomSet" = true := by first | (simp [plainName, overriddenIn]; done) | decide +kernel
theorem d_add42_0 : decode prog_6_method_6_code 0 = .ok (.iload_n 2, 1) := by decide +kernel
theorem d_add42_1 : decode prog_6_method_6_code 1 = .ok (.ifCond .ne 4, 3) := by decide +kernel
theorem d_add42_5 : decode prog_6_method_6_code 5 = .ok (.aload_n 0, 1) := by decide +kernel
theorem d_add42_6 : decode prog_6_method_6_code 6 = .ok (.getfield 16, 3) := by decide +kernel
theorem d_add42_9 : decode prog_6_method_6_code 9 = .ok (.ifCond .eq 20, 3) := by decide +kernel
theorem d_add42_12 : decode prog_6_method_6_code 12 = .ok (.aload_n 1, 1) := by decide +kernel
theorem d_add42_13 : decode prog_6_method_6_code 13 = .ok (.iconst 0, 1) := by decide +kernel
theorem d_add42_14 : decode prog_6_method_6_code 14 = .ok (.iaload, 1) := by decide +kernel
theorem d_add42_15 : decode prog_6_method_6_code 15 = .ok (.aload_n 0, 1) := by decide +kernel
theorem d_add42_16 : decode prog_6_method_6_code 16 = .ok (.getfield 13, 3) := by decide +kernel
theorem d_add42_19 : decode prog_6_method_6_code 19 = .ok (.aload_n 0, 1) := by decide +kernel
theorem d_add42_20 : decode prog_6_method_6_code 20 = .ok (.getfield 16, 3) := by decide +kernel
theorem d_add42_23 : decode prog_6_method_6_code 23 = .ok (.iconst 1, 1) := by decide +kernel
theorem d_add42_24 : decode prog_6_method_6_code 24 = .ok (.isub, 1) := by decide +kernel
theorem d_add42_25 : decode prog_6_method_6_code 25 = .ok (.iaload, 1) := by decide +kernel
theorem d_add42_26 : decode prog_6_method_6_code 26 = .ok (.if_icmp .lt 121, 3) := by decide +kernel
theorem d_add42_147 : decode prog_6_method_6_code 147 = .ok (.aload_n 0, 1) := by decide +kernel
theorem d_add42_148 : decode prog_6_method_6_code 148 = .ok (.getfield 16, 3) := by decide +kernel
theorem d_add42_151 : decode prog_6_method_6_code 151 = .ok (.iload_n 2, 1) := by decide +kernel
theorem d_add42_152 : decode prog_6_method_6_code 152 = .ok (.iadd, 1) := by decide +kernel
theorem d_add42_153 : decode prog_6_method_6_code 153 = .ok (.newarray .int, 2) := by decide +kernel
theorem d_add42_155 : decode prog_6_method_6_code 155 = .ok (.astore_n 3, 1) := by decide +kernel
theorem d_add42_156 : decode prog_6_method_6_code 156 = .ok (.iconst 0, 1) := by decide +kernel
theorem d_add42_157 : decode prog_6_method_6_code 157 = .ok (.istore 4, 2) := by decide +kernel
theorem d_add42_159 : decode prog_6_method_6_code 159 = .ok (.iconst 0, 1) := by decide +kernel
theorem d_add42_160 : decode prog_6_method_6_code 160 = .ok (.istore 5, 2) := by decide +kernel
theorem d_add42_162 : decode prog_6_method_6_code 162 = .ok (.iconst 0, 1) := by decide +kernel
theorem d_add42_163 : decode prog_6_method_6_code 163 = .ok (.istore 6, 2) := by decide +kernel
theorem d_add42_165 : decode prog_6_method_6_code 165 = .ok (.iload 5, 2) := by decide +kernel
theorem d_add42_167 : decode prog_6_method_6_code 167 = .ok (.aload_n 0, 1) := by decide +kernel
theorem d_add42_168 : decode prog_6_method_6_code 168 = .ok (.getfield 16, 3) := by decide +kernel
theorem d_add42_171 : decode prog_6_method_6_code 171 = .ok (.if_icmp .lt 9, 3) := by decide +kernel
theorem d_add42_180 : decode prog_6_method_6_code 180 = .ok (.iload 6, 2) := by decide +kernel
theorem d_add42_182 : decode prog_6_method_6_code 182 = .ok (.iload_n 2, 1) := by decide +kernel
theorem d_add42_183 : decode prog_6_method_6_code 183 = .ok (.if_icmp .eq 26, 3) := by decide +kernel
theorem d_add42_186 : decode prog_6_method_6_code 186 = .ok (.iload 5, 2) := by decide +kernel
theorem d_add42_188 : decode prog_6_method_6_code 188 = .ok (.aload_n 0, 1) := by decide +kernel
theorem d_add42_189 : decode prog_6_method_6_code 189 = .ok (.getfield 16, 3) := by decide +kernel
theorem d_add42_192 : decode prog_6_method_6_code 192 = .ok (.if_icmp .ge 43, 3) := by decide +kernel
theorem d_add42_195 : decode prog_6_method_6_code 195 = .ok (.aload_n 0, 1) := by decide +kernel
theorem d_add42_196 : decode prog_6_method_6_code 196 = .ok (.getfield 13, 3) := by decide +kernel
theorem d_add42_199 : decode prog_6_method_6_code 199 = .ok (.iload 5, 2) := by decide +kernel
theorem d_add42_201 : decode prog_6_method_6_code 201 = .ok (.iaload, 1) := by decide +kernel
theorem d_add42_202 : decode prog_6_method_6_code 202 = .ok (.aload_n 1, 1) := by decide +kernel
theorem d_add42_203 : decode prog_6_method_6_code 203 = .ok (.iload 6, 2) := by decide +kernel
theorem d_add42_205 : decode prog_6_method_6_code 205 = .ok (.iaload, 1) := by decide +kernel
theorem d_add42_206 : decode prog_6_method_6_code 206 = .ok (.if_icmp .gt 29, 3) := by decide +kernel
theorem d_add42_235 : decode prog_6_method_6_code 235 = .ok (.aload_n 1, 1) := by decide +kernel
theorem d_add42_236 : decode prog_6_method_6_code 236 = .ok (.iload 6, 2) := by decide +kernel
theorem d_add42_238 : decode prog_6_method_6_code 238 = .ok (.iaload, 1) := by decide +kernel
theorem d_add42_239 : decode prog_6_method_6_code 239 = .ok (.istore 7, 2) := by decide +kernel
theorem d_add42_241 : decode prog_6_method_6_code 241 = .ok (.aload_n 1, 1) := by decide +kernel
theorem d_add42_242 : decode prog_6_method_6_code 242 = .ok (.iload 6, 2) := by decide +kernel
theorem d_add42_244 : decode prog_6_method_6_code 244 = .ok (.iconst 1, 1) := by decide +kernel
theorem d_add42_245 : decode prog_6_method_6_code 245 = .ok (.iadd, 1) := by decide +kernel
theorem d_add42_246 : decode prog_6_method_6_code 246 = .ok (.iaload, 1) := by decide +kernel
theorem d_add42_247 : decode prog_6_method_6_code 247 = .ok (.istore 8, 2) := by decide +kernel
theorem d_add42_249 : decode prog_6_method_6_code 249 = .ok (.iinc 6 2, 3) := by decide +kernel
theorem d_add42_252 : decode prog_6_method_6_code 252 = .ok (.iload 4, 2) := by decide +kernel
theorem d_add42_254 : decode prog_6_method_6_code 254 = .ok (.ifCond .le 34, 3) := by decide +kernel
theorem d_add42_288 : decode prog_6_method_6_code 288 = .ok (.aload_n 3, 1) := by decide +kernel
theorem d_add42_289 : decode prog_6_method_6_code 289 = .ok (.iload 4, 2) := by decide +kernel
theorem d_add42_291 : decode prog_6_method_6_code 291 = .ok (.iinc 4 1, 3) := by decide +kernel
theorem d_add42_294 : decode prog_6_method_6_code 294 = .ok (.iload 7, 2) := by decide +kernel
theorem d_add42_296 : decode prog_6_method_6_code 296 = .ok (.iastore, 1) := by decide +kernel
theorem d_add42_297 : decode prog_6_method_6_code 297 = .ok (.aload_n 3, 1) := by decide +kernel
theorem d_add42_298 : decode prog_6_method_6_code 298 = .ok (.iload 4, 2) := by decide +kernel
theorem d_add42_300 : decode prog_6_method_6_code 300 = .ok (.iinc 4 1, 3) := by decide +kernel
theorem d_add42_303 : decode prog_6_method_6_code 303 = .ok (.iload 8, 2) := by decide +kernel
theorem d_add42_305 : decode prog_6_method_6_code 305 = .ok (.iastore, 1) := by decide +kernel
theorem d_add42_306 : decode prog_6_method_6_code 306 = .ok (.goto (-141), 3) := by decide +kernel
theorem d_add42_209 : decode prog_6_method_6_code 209 = .ok (.aload_n 0, 1) := by decide +kernel
theorem d_add42_210 : decode prog_6_method_6_code 210 = .ok (.getfield 13, 3) := by decide +kernel
theorem d_add42_213 : decode prog_6_method_6_code 213 = .ok (.iload 5, 2) := by decide +kernel
theorem d_add42_215 : decode prog_6_method_6_code 215 = .ok (.iaload, 1) := by decide +kernel
theorem d_add42_216 : decode prog_6_method_6_code 216 = .ok (.istore 7, 2) := by decide +kernel
theorem d_add42_218 : decode prog_6_method_6_code 218 = .ok (.aload_n 0, 1) := by decide +kernel
theorem d_add42_219 : decode prog_6_method_6_code 219 = .ok (.getfield 13, 3) := by decide +kernel
theorem d_add42_222 : decode prog_6_method_6_code 222 = .ok (.iload 5, 2) := by decide +kernel
theorem d_add42_224 : decode prog_6_method_6_code 224 = .ok (.iconst 1, 1) := by decide +kernel
theorem d_add42_225 : decode prog_6_method_6_code 225 = .ok (.iadd, 1) := by decide +kernel
theorem d_add42_226 : decode prog_6_method_6_code 226 = .ok (.iaload, 1) := by decide +kernel
theorem d_add42_227 : decode prog_6_method_6_code 227 = .ok (.istore 8, 2) := by decide +kernel
theorem d_add42_229 : decode prog_6_method_6_code 229 = .ok (.iinc 5 2, 3) := by decide +kernel
theorem d_add42_232 : decode prog_6_method_6_code 232 = .ok (.goto 20, 3) := by decide +kernel
theorem d_add42_257 : decode prog_6_method_6_code 257 = .ok (.iload 7, 2) := by decide +kernel
theorem d_add42_259 : decode prog_6_method_6_code 259 = .ok (.aload_n 3, 1) := by decide +kernel
theorem d_add42_260 : decode prog_6_method_6_code 260 = .ok (.iload 4, 2) := by decide +kernel
theorem d_add42_262 : decode prog_6_method_6_code 262 = .ok (.iconst 1, 1) := by decide +kernel
theorem d_add42_263 : decode prog_6_method_6_code 263 = .ok (.isub, 1) := by decide +kernel
theorem d_add42_264 : decode prog_6_method_6_code 264 = .ok (.iaload, 1) := by decide +kernel
theorem d_add42_265 : decode prog_6_method_6_code 265 = .ok (.if_icmp .gt 23, 3) := by decide +kernel
theorem d_add42_174 : decode prog_6_method_6_code 174 = .ok (.iload 6, 2) := by decide +kernel
theorem d_add42_176 : decode prog_6_method_6_code 176 = .ok (.iload_n 2, 1) := by decide +kernel
theorem d_add42_177 : decode prog_6_method_6_code 177 = .ok (.if_icmp .ge 132, 3) := by decide +kernel
theorem d_add42_309 : decode prog_6_method_6_code 309 = .ok (.aload_n 0, 1) := by decide +kernel
theorem d_add42_310 : decode prog_6_method_6_code 310 = .ok (.aload_n 3, 1) := by decide +kernel
theorem d_add42_311 : decode prog_6_method_6_code 311 = .ok (.putfield 13, 3) := by decide +kernel
theorem d_add42_314 : decode prog_6_method_6_code 314 = .ok (.aload_n 0, 1) := by decide +kernel
theorem d_add42_315 : decode prog_6_method_6_code 315 = .ok (.iload 4, 2) := by decide +kernel
theorem d_add42_317 : decode prog_6_method_6_code 317 = .ok (.putfield 16, 3) := by decide +kernel
theorem d_add42_320 : decode prog_6_method_6_code 320 = .ok (.return_, 1) := by decide +kernel
theorem d_add42_268 : decode prog_6_method_6_code 268 = .ok (.aload_n 3, 1) := by decide +kernel
theorem d_add42_269 : decode prog_6_method_6_code 269 = .ok (.iload 4, 2) := by decide +kernel
theorem d_add42_271 : decode prog_6_method_6_code 271 = .ok (.iconst 1, 1) := by decide +kernel
theorem d_add42_272 : decode prog_6_method_6_code 272 = .ok (.isub, 1) := by decide +kernel
theorem d_add42_273 : decode prog_6_method_6_code 273 = .ok (.aload_n 3, 1) := by decide +kernel
theorem d_add42_274 : decode prog_6_method_6_code 274 = .ok (.iload 4, 2) := by decide +kernel
theorem d_add42_276 : decode prog_6_method_6_code 276 = .ok (.iconst 1, 1) := by decide +kernel
theorem d_add42_277 : decode prog_6_method_6_code 277 = .ok (.isub, 1) := by decide +kernel
theorem d_add42_278 : decode prog_6_method_6_code 278 = .ok (.iaload, 1) := by decide +kernel
theorem d_add42_279 : decode prog_6_method_6_code 279 = .ok (.iload 8, 2) := by decide +kernel
theorem d_add42_281 : decode prog_6_method_6_code 281 = .ok (.invokestatic 41, 3) := by decide +kernel
theorem d_add42_284 : decode prog_6_method_6_code 284 = .ok (.iastore, 1) := by decide +kernel
theorem d_add42_285 : decode prog_6_method_6_code 285 = .ok (.goto 21, 3) := by decide +kernel
theorem d_add42_29 : decode prog_6_method_6_code 29 = .ok (.iconst 0, 1) := by decide +kernel
theorem d_add42_30 : decode prog_6_method_6_code 30 = .ok (.istore_n 3, 1) := by decide +kernel
theorem d_add42_31 : decode prog_6_method_6_code 31 = .ok (.aload_n 0, 1) := by decide +kernel
theorem d_add42_32 : decode prog_6_method_6_code 32 = .ok (.getfield 16, 3) := by decide +kernel
theorem d_add42_35 : decode prog_6_method_6_code 35 = .ok (.ifCond .le 36, 3) := by decide +kernel
theorem d_add42_38 : decode prog_6_method_6_code 38 = .ok (.aload_n 1, 1) := by decide +kernel
theorem d_add42_39 : decode prog_6_method_6_code 39 = .ok (.iconst 0, 1) := by decide +kernel
theorem d_add42_40 : decode prog_6_method_6_code 40 = .ok (.iaload, 1) := by decide +kernel
theorem d_add42_41 : decode prog_6_method_6_code 41 = .ok (.aload_n 0, 1) := by decide +kernel
theorem d_add42_42 : decode prog_6_method_6_code 42 = .ok (.getfield 13, 3) := by decide +kernel
theorem d_add42_45 : decode prog_6_method_6_code 45 = .ok (.aload_n 0, 1) := by decide +kernel
theorem d_add42_46 : decode prog_6_method_6_code 46 = .ok (.getfield 16, 3) := by decide +kernel
theorem d_add42_49 : decode prog_6_method_6_code 49 = .ok (.iconst 1, 1) := by decide +kernel
theorem d_add42_50 : decode prog_6_method_6_code 50 = .ok (.isub, 1) := by decide +kernel
theorem d_add42_51 : decode prog_6_method_6_code 51 = .ok (.iaload, 1) := by decide +kernel
theorem d_add42_52 : decode prog_6_method_6_code 52 = .ok (.if_icmp .ne 19, 3) := by decide +kernel
theorem d_add42_55 : decode prog_6_method_6_code 55 = .ok (.aload_n 0, 1) := by decide +kernel
theorem d_add42_56 : decode prog_6_method_6_code 56 = .ok (.getfield 13, 3) := by decide +kernel
theorem d_add42_59 : decode prog_6_method_6_code 59 = .ok (.aload_n 0, 1) := by decide +kernel
theorem d_add42_60 : decode prog_6_method_6_code 60 = .ok (.getfield 16, 3) := by decide +kernel
theorem d_add42_63 : decode prog_6_method_6_code 63 = .ok (.iconst 1, 1) := by decide +kernel
theorem d_add42_64 : decode prog_6_method_6_code 64 = .ok (.isub, 1) := by decide +kernel
theorem d_add42_65 : decode prog_6_method_6_code 65 = .ok (.aload_n 1, 1) := by decide +kernel
theorem d_add42_66 : decode prog_6_method_6_code 66 = .ok (.iconst 1, 1) := by decide +kernel
theorem d_add42_67 : decode prog_6_method_6_code 67 = .ok (.iaload, 1) := by decide +kernel
theorem d_add42_68 : decode prog_6_method_6_code 68 = .ok (.iastore, 1) := by decide +kernel
theorem d_add42_69 : decode prog_6_method_6_code 69 = .ok (.iconst 2, 1) := by decide +kernel
theorem d_add42_70 : decode prog_6_method_6_code 70 = .ok (.istore_n 3, 1) := by decide +kernel
theorem d_add42_71 : decode prog_6_method_6_code 71 = .ok (.aload_n 0, 1) := by decide +kernel
theorem d_add42_72 : decode prog_6_method_6_code 72 = .ok (.getfield 16, 3) := by decide +kernel
theorem d_add42_75 : decode prog_6_method_6_code 75 = .ok (.iload_n 2, 1) := by decide +kernel
theorem d_add42_76 : decode prog_6_method_6_code 76 = .ok (.iadd, 1) := by decide +kernel
theorem d_add42_77 : decode prog_6_method_6_code 77 = .ok (.iload_n 3, 1) := by decide +kernel
theorem d_add42_78 : decode prog_6_method_6_code 78 = .ok (.isub, 1) := by decide +kernel
theorem d_add42_79 : decode prog_6_method_6_code 79 = .ok (.aload_n 0, 1) := by decide +kernel
theorem d_add42_80 : decode prog_6_method_6_code 80 = .ok (.getfield 13, 3) := by decide +kernel
theorem d_add42_83 : decode prog_6_method_6_code 83 = .ok (.arraylength, 1) := by decide +kernel
theorem d_add42_84 : decode prog_6_method_6_code 84 = .ok (.if_icmp .le 32, 3) := by decide +kernel
theorem d_add42_116 : decode prog_6_method_6_code 116 = .ok (.aload_n 1, 1) := by decide +kernel
theorem d_add42_117 : decode prog_6_method_6_code 117 = .ok (.iload_n 3, 1) := by decide +kernel
theorem d_add42_118 : decode prog_6_method_6_code 118 = .ok (.aload_n 0, 1) := by decide +kernel
theorem d_add42_119 : decode prog_6_method_6_code 119 = .ok (.getfield 13, 3) := by decide +kernel
theorem d_add42_122 : decode prog_6_method_6_code 122 = .ok (.aload_n 0, 1) := by decide +kernel
theorem d_add42_123 : decode prog_6_method_6_code 123 = .ok (.getfield 16, 3) := by decide +kernel
theorem d_add42_126 : decode prog_6_method_6_code 126 = .ok (.iload_n 2, 1) := by decide +kernel
theorem d_add42_127 : decode prog_6_method_6_code 127 = .ok (.iload_n 3, 1) := by decide +kernel
theorem d_add42_128 : decode prog_6_method_6_code 128 = .ok (.isub, 1) := by decide +kernel
theorem d_add42_129 : decode prog_6_method_6_code 129 = .ok (.invokestatic 47, 3) := by decide +kernel
theorem d_add42_132 : decode prog_6_method_6_code 132 = .ok (.aload_n 0, 1) := by decide +kernel
theorem d_add42_133 : decode prog_6_method_6_code 133 = .ok (.dup, 1) := by decide +kernel
theorem d_add42_134 : decode prog_6_method_6_code 134 = .ok (.getfield 16, 3) := by decide +kernel
theorem d_add42_137 : decode prog_6_method_6_code 137 = .ok (.iload_n 2, 1) := by decide +kernel
theorem d_add42_138 : decode prog_6_method_6_code 138 = .ok (.iload_n 3, 1) := by decide +kernel
theorem d_add42_139 : decode prog_6_method_6_code 139 = .ok (.isub, 1) := by decide +kernel
theorem d_add42_140 : decode prog_6_method_6_code 140 = .ok (.iadd, 1) := by decide +kernel
theorem d_add42_141 : decode prog_6_method_6_code 141 = .ok (.putfield 16, 3) := by decide +kernel
theorem d_add42_144 : decode prog_6_method_6_code 144 = .ok (.goto 176, 3) := by decide +kernel
theorem pn_add42 : plainName "com/example/collate/collate/analysis/AtomSet" = true := by first | (simp [plainName, overriddenIn]; done) | decide +kernel
theorem d_add44_0 : decode prog_6_method_6_code 0 = .ok (.iload_n 2, 1) := by decide +kernel
theorem d_add44_1 : decode prog_6_method_6_code 1 = .ok (.ifCond .ne 4, 3) := by decide +kernel
theorem d_add44_5 : decode prog_6_method_6_code 5 = .ok (.aload_n 0, 1) := by decide +kernel
theorem d_add44_6 : decode prog_6_method_6_code 6 = .ok (.getfield 16, 3) := by decide +kernel
theorem d_add44_9 : decode prog_6_method_6_code 9 = .ok (.ifCond .eq 20, 3) := by decide +kernel
theorem d_add44_12 : decode prog_6_method_6_code 12 = .ok (.aload_n 1, 1) := by decide +kernel
theorem d_add44_13 : decode prog_6_method_6_code 13 = .ok (.iconst 0, 1) := by decide +kernel
theorem d_add44_14 : decode prog_6_method_6_code 14 = .ok (.iaload, 1) := by decide +kernel
theorem d_add44_15 : decode prog_6_method_6_code 15 = .ok (.aload_n 0, 1) := by decide +kernel
theorem d_add44_16 : decode prog_6_method_6_code 16 = .ok (.getfield 13, 3) := by decide +kernel
theorem d_add44_19 : decode prog_6_method_6_code 19 = .ok (.aload_n 0, 1) := by decide +kernel
theorem d_add44_20 : decode prog_6_method_6_code 20 = .ok (.getfield 16, 3) := by decide +kernel
theorem d_add44_23 : decode prog_6_method_6_code 23 = .ok (.iconst 1, 1) := by decide +kernel
theorem d_add44_24 : decode prog_6_method_6_code 24 = .ok (.isub, 1) := by decide +kernel
theorem d_add44_25 : decode prog_6_method_6_code 25 = .ok (.iaload, 1) := by decide +kernel
theorem d_add44_26 : decode prog_6_method_6_code 26 = .ok (.if_icmp .lt 121, 3) := by decide +kernel
theorem d_add44_147 : decode prog_6_method_6_code 147 = .ok (.aload_n 0, 1) := by decide +kernel
theorem d_add44_148 : decode prog_6_method_6_code 148 = .ok (.getfield 16, 3) := by decide +kernel
theorem d_add44_151 : decode prog_6_method_6_code 151 = .ok (.iload_n 2, 1) := by decide +kernel
theorem d_add44_152 : decode prog_6_method_6_code 152 = .ok (.iadd, 1) := by decide +kernel
theorem d_add44_153 : decode prog_6_method_6_code 153 = .ok (.newarray .int, 2) := by decide +kernel
theorem d_add44_155 : decode prog_6_method_6_code 155 = .ok (.astore_n 3, 1) := by decide +kernel
theorem d_add44_156 : decode prog_6_method_6_code 156 = .ok (.iconst 0, 1) := by decide +kernel
theorem d_add44_157 : decode prog_6_method_6_code 157 = .ok (.istore 4, 2) := by decide +kernel
theorem d_add44_159 : decode prog_6_method_6_code 159 = .ok (.iconst 0, 1) := by decide +kernel
theorem d_add44_160 : decode prog_6_method_6_code 160 = .ok (.istore 5, 2) := by decide +kernel
theorem d_add44_162 : decode prog_6_method_6_code 162 = .ok (.iconst 0, 1) := by decide +kernel
theorem d_add44_163 : decode prog_6_method_6_code 163 = .ok (.istore 6, 2) := by decide +kernel
theorem d_add44_165 : decode prog_6_method_6_code 165 = .ok (.iload 5, 2) := by decide +kernel
theorem d_add44_167 : decode prog_6_method_6_code 167 = .ok (.aload_n 0, 1) := by decide +kernel
theorem d_add44_168 : decode prog_6_method_6_code 168 = .ok (.getfield 16, 3) := by decide +kernel
theorem d_add44_171 : decode prog_6_method_6_code 171 = .ok (.if_icmp .lt 9, 3) := by decide +kernel
theorem d_add44_180 : decode prog_6_method_6_code 180 = .ok (.iload 6, 2) := by decide +kernel
theorem d_add44_182 : decode prog_6_method_6_code 182 = .ok (.iload_n 2, 1) := by decide +kernel
theorem d_add44_183 : decode prog_6_method_6_code 183 = .ok (.if_icmp .eq 26, 3) := by decide +kernel
theorem d_add44_186 : decode prog_6_method_6_code 186 = .ok (.iload 5, 2) := by decide +kernel
theorem d_add44_188 : decode prog_6_method_6_code 188 = .ok (.aload_n 0, 1) := by decide +kernel
theorem d_add44_189 : decode prog_6_method_6_code 189 = .ok (.getfield 16, 3) := by decide +kernel
theorem d_add44_192 : decode prog_6_method_6_code 192 = .ok (.if_icmp .ge 43, 3) := by decide +kernel
theorem d_add44_195 : decode prog_6_method_6_code 195 = .ok (.aload_n 0, 1) := by decide +kernel
theorem d_add44_196 : decode prog_6_method_6_code 196 = .ok (.getfield 13, 3) := by decide +kernel
theorem d_add44_199 : decode prog_6_method_6_code 199 = .ok (.iload 5, 2) := by decide +kernel
theorem d_add44_201 : decode prog_6_method_6_code 201 = .ok (.iaload, 1) := by decide +kernel
theorem d_add44_202 : decode prog_6_method_6_code 202 = .ok (.aload_n 1, 1) := by decide +kernel
theorem d_add44_203 : decode prog_6_method_6_code 203 = .ok (.iload 6, 2) := by decide +kernel
theorem d_add44_205 : decode prog_6_method_6_code 205 = .ok (.iaload, 1) := by decide +kernel
theorem d_add44_206 : decode prog_6_method_6_code 206 = .ok (.if_icmp .gt 29, 3) := by decide +kernel
theorem d_add44_235 : decode prog_6_method_6_code 235 = .ok (.aload_n 1, 1) := by decide +kernel
theorem d_add44_236 : decode prog_6_method_6_code 236 = .ok (.iload 6, 2) := by decide +kernel
theorem d_add44_238 : decode prog_6_method_6_code 238 = .ok (.iaload, 1) := by decide +kernel
theorem d_add44_239 : decode prog_6_method_6_code 239 = .ok (.istore 7, 2) := by decide +kernel
theorem d_add44_241 : decode prog_6_method_6_code 241 = .ok (.aload_n 1, 1) := by decide +kernel
theorem d_add44_242 : decode prog_6_method_6_code 242 = .ok (.iload 6, 2) := by decide +kernel
theorem d_add44_244 : decode prog_6_method_6_code 244 = .ok (.iconst 1, 1) := by decide +kernel
theorem d_add44_245 : decode prog_6_method_6_code 245 = .ok (.iadd, 1) := by decide +kernel
theorem d_add44_246 : decode prog_6_method_6_code 246 = .ok (.iaload, 1) := by decide +kernel
theorem d_add44_247 : decode prog_6_method_6_code 247 = .ok (.istore 8, 2) := by decide +kernel
theorem d_add44_249 : decode prog_6_method_6_code 249 = .ok (.iinc 6 2, 3) := by decide +kernel
theorem d_add44_252 : decode prog_6_method_6_code 252 = .ok (.iload 4, 2) := by decide +kernel
theorem d_add44_254 : decode prog_6_method_6_code 254 = .ok (.ifCond .le 34, 3) := by decide +kernel
theorem d_add44_288 : decode prog_6_method_6_code 288 = .ok (.aload_n 3, 1) := by decide +kernel
theorem d_add44_289 : decode prog_6_method_6_code 289 = .ok (.iload 4, 2) := by decide +kernel
theorem d_add44_291 : decode prog_6_method_6_code 291 = .ok (.iinc 4 1, 3) := by decide +kernel
theorem d_add44_294 : decode prog_6_method_6_code 294 = .ok (.iload 7, 2) := by decide +kernel
theorem d_add44_296 : decode prog_6_method_6_code 296 = .ok (.iastore, 1) := by decide +kernel
theorem d_add44_297 : decode prog_6_method_6_code 297 = .ok (.aload_n 3, 1) := by decide +kernel
theorem d_add44_298 : decode prog_6_method_6_code 298 = .ok (.iload 4, 2) := by decide +kernel
theorem d_add44_300 : decode prog_6_method_6_code 300 = .ok (.iinc 4 1, 3) := by decide +kernel
theorem d_add44_303 : decode prog_6_method_6_code 303 = .ok (.iload 8, 2) := by decide +kernel
theorem d_add44_305 : decode prog_6_method_6_code 305 = .ok (.iastore, 1) := by decide +kernel
theorem d_add44_306 : decode prog_6_method_6_code 306 = .ok (.goto (-141), 3) := by decide +kernel
theorem d_add44_209 : decode prog_6_method_6_code 209 = .ok (.aload_n 0, 1) := by decide +kernel
theorem d_add44_210 : decode prog_6_method_6_code 210 = .ok (.getfield 13, 3) := by decide +kernel
theorem d_add44_213 : decode prog_6_method_6_code 213 = .ok (.iload 5, 2) := by decide +kernel
theorem d_add44_215 : decode prog_6_method_6_code 215 = .ok (.iaload, 1) := by decide +kernel
theorem d_add44_216 : decode prog_6_method_6_code 216 = .ok (.istore 7, 2) := by decide +kernel
theorem d_add44_218 : decode prog_6_method_6_code 218 = .ok (.aload_n 0, 1) := by decide +kernel
theorem d_add44_219 : decode prog_6_method_6_code 219 = .ok (.getfield 13, 3) := by decide +kernel
theorem d_add44_222 : decode prog_6_method_6_code 222 = .ok (.iload 5, 2) := by decide +kernel
theorem d_add44_224 : decode prog_6_method_6_code 224 = .ok (.iconst 1, 1) := by decide +kernel
theorem d_add44_225 : decode prog_6_method_6_code 225 = .ok (.iadd, 1) := by decide +kernel
theorem d_add44_226 : decode prog_6_method_6_code 226 = .ok (.iaload, 1) := by decide +kernel
theorem d_add44_227 : decode prog_6_method_6_code 227 = .ok (.istore 8, 2) := by decide +kernel
theorem d_add44_229 : decode prog_6_method_6_code 229 = .ok (.iinc 5 2, 3) := by decide +kernel
theorem d_add44_232 : decode prog_6_method_6_code 232 = .ok (.goto 20, 3) := by decide +kernel
theorem d_add44_257 : decode prog_6_method_6_code 257 = .ok (.iload 7, 2) := by decide +kernel
theorem d_add44_259 : decode prog_6_method_6_code 259 = .ok (.aload_n 3, 1) := by decide +kernel
theorem d_add44_260 : decode prog_6_method_6_code 260 = .ok (.iload 4, 2) := by decide +kernel
theorem d_add44_262 : decode prog_6_method_6_code 262 = .ok (.iconst 1, 1) := by decide +kernel
theorem d_add44_263 : decode prog_6_method_6_code 263 = .ok (.isub, 1) := by decide +kernel
theorem d_add44_264 : decode prog_6_method_6_code 264 = .ok (.iaload, 1) := by decide +kernel
theorem d_add44_265 : decode prog_6_method_6_code 265 = .ok (.if_icmp .gt 23, 3) := by decide +kernel
theorem d_add44_174 : decode prog_6_method_6_code 174 = .ok (.iload 6, 2) := by decide +kernel
theorem d_add44_176 : decode prog_6_method_6_code 176 = .ok (.iload_n 2, 1) := by decide +kernel
theorem d_add44_177 : decode prog_6_method_6_code 177 = .ok (.if_icmp .ge 132, 3) := by decide +kernel
theorem d_add44_309 : decode prog_6_method_6_code 309 = .ok (.aload_n 0, 1) := by decide +kernel
theorem d_add44_310 : decode prog_6_method_6_code 310 = .ok (.aload_n 3, 1) := by decide +kernel
theorem d_add44_311 : decode prog_6_method_6_code 311 = .ok (.putfield 13, 3) := by decide +kernel
theorem d_add44_314 : decode prog_6_method_6_code 314 = .ok (.aload_n 0, 1) := by decide +kernel
theorem d_add44_315 : decode prog_6_method_6_code 315 = .ok (.iload 4, 2) := by decide +kernel
theorem d_add44_317 : decode prog_6_method_6_code 317 = .ok (.putfield 16, 3) := by decide +kernel
theorem d_add44_320 : decode prog_6_method_6_code 320 = .ok (.return_, 1) := by decide +kernel
theorem d_add44_268 : decode prog_6_method_6_code 268 = .ok (.aload_n 3, 1) := by decide +kernel
theorem d_add44_269 : decode prog_6_method_6_code 269 = .ok (.iload 4, 2) := by decide +kernel
theorem d_add44_271 : decode prog_6_method_6_code 271 = .ok (.iconst 1, 1) := by decide +kernel
theorem d_add44_272 : decode prog_6_method_6_code 272 = .ok (.isub, 1) := by decide +kernel
theorem d_add44_273 : decode prog_6_method_6_code 273 = .ok (.aload_n 3, 1) := by decide +kernel
theorem d_add44_274 : decode prog_6_method_6_code 274 = .ok (.iload 4, 2) := by decide +kernel
theorem d_add44_276 : decode prog_6_method_6_code 276 = .ok (.iconst 1, 1) := by decide +kernel
theorem d_add44_277 : decode prog_6_method_6_code 277 = .ok (.isub, 1) := by decide +kernel
theorem d_add44_278 : decode prog_6_method_6_code 278 = .ok (.iaload, 1) := by decide +kernel
theorem d_add44_279 : decode prog_6_method_6_code 279 = .ok (.iload 8, 2) := by decide +kernel
theorem d_add44_281 : decode prog_6_method_6_code 281 = .ok (.invokestatic 41, 3) := by decide +kernel
theorem d_add44_284 : decode prog_6_method_6_code 284 = .ok (.iastore, 1) := by decide +kernel
theorem d_add44_285 : decode prog_6_method_6_code 285 = .ok (.goto 21, 3) := by decide +kernel
theorem d_add44_29 : decode prog_6_method_6_code 29 = .ok (.iconst 0, 1) := by decide +kernel
theorem d_add44_30 : decode prog_6_method_6_code 30 = .ok (.istore_n 3, 1) := by decide +kernel
theorem d_add44_31 : decode prog_6_method_6_code 31 = .ok (.aload_n 0, 1) := by decide +kernel
theorem d_add44_32 : decode prog_6_method_6_code 32 = .ok (.getfield 16, 3) := by decide +kernel
theorem d_add44_35 : decode prog_6_method_6_code 35 = .ok (.ifCond .le 36, 3) := by decide +kernel
theorem d_add44_38 : decode prog_6_method_6_code 38 = .ok (.aload_n 1, 1) := by decide +kernel
theorem d_add44_39 : decode prog_6_method_6_code 39 = .ok (.iconst 0, 1) := by decide +kernel
theorem d_add44_40 : decode prog_6_method_6_code 40 = .ok (.iaload, 1) := by decide +kernel
theorem d_add44_41 : decode prog_6_method_6_code 41 = .ok (.aload_n 0, 1) := by decide +kernel
theorem d_add44_42 : decode prog_6_method_6_code 42 = .ok (.getfield 13, 3) := by decide +kernel
theorem d_add44_45 : decode prog_6_method_6_code 45 = .ok (.aload_n 0, 1) := by decide +kernel
theorem d_add44_46 : decode prog_6_method_6_code 46 = .ok (.getfield 16, 3) := by decide +kernel
theorem d_add44_49 : decode prog_6_method_6_code 49 = .ok (.iconst 1, 1) := by decide +kernel
theorem d_add44_50 : decode prog_6_method_6_code 50 = .ok (.isub, 1) := by decide +kernel
theorem d_add44_51 : decode prog_6_method_6_code 51 = .ok (.iaload, 1) := by decide +kernel
theorem d_add44_52 : decode prog_6_method_6_code 52 = .ok (.if_icmp .ne 19, 3) := by decide +kernel
theorem d_add44_55 : decode prog_6_method_6_code 55 = .ok (.aload_n 0, 1) := by decide +kernel
theorem d_add44_56 : decode prog_6_method_6_code 56 = .ok (.getfield 13, 3) := by decide +kernel
theorem d_add44_59 : decode prog_6_method_6_code 59 = .ok (.aload_n 0, 1) := by decide +kernel
theorem d_add44_60 : decode prog_6_method_6_code 60 = .ok (.getfield 16, 3) := by decide +kernel
theorem d_add44_63 : decode prog_6_method_6_code 63 = .ok (.iconst 1, 1) := by decide +kernel
theorem d_add44_64 : decode prog_6_method_6_code 64 = .ok (.isub, 1) := by decide +kernel
theorem d_add44_65 : decode prog_6_method_6_code 65 = .ok (.aload_n 1, 1) := by decide +kernel
theorem d_add44_66 : decode prog_6_method_6_code 66 = .ok (.iconst 1, 1) := by decide +kernel
theorem d_add44_67 : decode prog_6_method_6_code 67 = .ok (.iaload, 1) := by decide +kernel
theorem d_add44_68 : decode prog_6_method_6_code 68 = .ok (.iastore, 1) := by decide +kernel
theorem d_add44_69 : decode prog_6_method_6_code 69 = .ok (.iconst 2, 1) := by decide +kernel
theorem d_add44_70 : decode prog_6_method_6_code 70 = .ok (.istore_n 3, 1) := by decide +kernel
theorem d_add44_71 : decode prog_6_method_6_code 71 = .ok (.aload_n 0, 1) := by decide +kernel
theorem d_add44_72 : decode prog_6_method_6_code 72 = .ok (.getfield 16, 3) := by decide +kernel
theorem d_add44_75 : decode prog_6_method_6_code 75 = .ok (.iload_n 2, 1) := by decide +kernel
theorem d_add44_76 : decode prog_6_method_6_code 76 = .ok (.iadd, 1) := by decide +kernel
theorem d_add44_77 : decode prog_6_method_6_code 77 = .ok (.iload_n 3, 1) := by decide +kernel
theorem d_add44_78 : decode prog_6_method_6_code 78 = .ok (.isub, 1) := by decide +kernel
theorem d_add44_79 : decode prog_6_method_6_code 79 = .ok (.aload_n 0, 1) := by decide +kernel
theorem d_add44_80 : decode prog_6_method_6_code 80 = .ok (.getfield 13, 3) := by decide +kernel
theorem d_add44_83 : decode prog_6_method_6_code 83 = .ok (.arraylength, 1) := by decide +kernel
theorem d_add44_84 : decode prog_6_method_6_code 84 = .ok (.if_icmp .le 32, 3) := by decide +kernel
theorem d_add44_116 : decode prog_6_method_6_code 116 = .ok (.aload_n 1, 1) := by decide +kernel
theorem d_add44_117 : decode prog_6_method_6_code 117 = .ok (.iload_n 3, 1) := by decide +kernel
theorem d_add44_118 : decode prog_6_method_6_code 118 = .ok (.aload_n 0, 1) := by decide +kernel
theorem d_add44_119 : decode prog_6_method_6_code 119 = .ok (.getfield 13, 3) := by decide +kernel
theorem d_add44_122 : decode prog_6_method_6_code 122 = .ok (.aload_n 0, 1) := by decide +kernel
theorem d_add44_123 : decode prog_6_method_6_code 123 = .ok (.getfield 16, 3) := by decide +kernel
theorem d_add44_126 : decode prog_6_method_6_code 126 = .ok (.iload_n 2, 1) := by decide +kernel
theorem d_add44_127 : decode prog_6_method_6_code 127 = .ok (.iload_n 3, 1) := by decide +kernel
theorem d_add44_128 : decode prog_6_method_6_code 128 = .ok (.isub, 1) := by decide +kernel
theorem d_add44_129 : decode prog_6_method_6_code 129 = .ok (.invokestatic 47, 3) := by decide +kernel
theorem d_add44_132 : decode prog_6_method_6_code 132 = .ok (.aload_n 0, 1) := by decide +kernel
theorem d_add44_133 : decode prog_6_method_6_code 133 = .ok (.dup, 1) := by decide +kernel
theorem d_add44_134 : decode prog_6_method_6_code 134 = .ok (.getfield 16, 3) := by decide +kernel
theorem d_add44_137 : decode prog_6_method_6_code 137 = .ok (.iload_n 2, 1) := by decide +kernel
theorem d_add44_138 : decode prog_6_method_6_code 138 = .ok (.iload_n 3, 1) := by decide +kernel
theorem d_add44_139 : decode prog_6_method_6_code 139 = .ok (.isub, 1) := by decide +kernel
theorem d_add44_140 : decode prog_6_method_6_code 140 = .ok (.iadd, 1) := by decide +kernel
theorem d_add44_141 : decode prog_6_method_6_code 141 = .ok (.putfield 16, 3) := by decide +kernel
theorem d_add44_144 : decode prog_6_method_6_code 144 = .ok (.goto 176, 3) := by decide +kernel
theorem d_add44_87 : decode prog_6_method_6_code 87 = .ok (.aload_n 0, 1) := by decide +kernel
theorem d_add44_88 : decode prog_6_method_6_code 88 = .ok (.aload_n 0, 1) := by decide +kernel
theorem d_add44_89 : decode prog_6_method_6_code 89 = .ok (.getfield 13, 3) := by decide +kernel
theorem d_add44_92 : decode prog_6_method_6_code 92 = .ok (.iconst 2, 1) := by decide +kernel
theorem d_add44_93 : decode prog_6_method_6_code 93 = .ok (.aload_n 0, 1) := by decide +kernel
theorem d_add44_94 : decode prog_6_method_6_code 94 = .ok (.getfield 13, 3) := by decide +kernel
theorem d_add44_97 : decode prog_6_method_6_code 97 = .ok (.arraylength, 1) := by decide +kernel
theorem d_add44_98 : decode prog_6_method_6_code 98 = .ok (.imul, 1) := by decide +kernel
theorem d_add44_99 : decode prog_6_method_6_code 99 = .ok (.aload_n 0, 1) := by decide +kernel
theorem d_add44_100 : decode prog_6_method_6_code 100 = .ok (.getfield 16, 3) := by decide +kernel
theorem d_add44_103 : decode prog_6_method_6_code 103 = .ok (.iload_n 2, 1) := by decide +kernel
theorem d_add44_104 : decode prog_6_method_6_code 104 = .ok (.iadd, 1) := by decide +kernel
theorem d_add44_105 : decode prog_6_method_6_code 105 = .ok (.iload_n 3, 1) := by decide +kernel
theorem d_add44_106 : decode prog_6_method_6_code 106 = .ok (.isub, 1) := by decide +kernel
theorem d_add44_107 : decode prog_6_method_6_code 107 = .ok (.invokestatic 41, 3) := by decide +kernel
theorem d_add44_110 : decode prog_6_method_6_code 110 = .ok (.invokestatic 20, 3) := by decide +kernel
theorem d_add44_113 : decode prog_6_method_6_code 113 = .ok (.putfield 13, 3) := by decide +kernel
theorem pn_add44 : plainName "com/example/collate/collate/analysis/AtomSet" = true := by first | (simp [plainName, overriddenIn]; done) | decide +kernel
theorem d_set_0 : decode prog_6_method_4_code 0 = .ok (.iload_n 1, 1) := by decide +kernel
theorem d_set_1 : decode prog_6_method_4_code 1 = .ok (.ifCond .lt 8, 3) := by decide +kernel
theorem d_set_4 : decode prog_6_method_4_code 4 = .ok (.iload_n 1, 1) := by decide +kernel
theorem d_set_5 : decode prog_6_method_4_code 5 = .ok (.iload_n 2, 1) := by decide +kernel
theorem d_set_6 : decode prog_6_method_4_code 6 = .ok (.if_icmp .le 18, 3) := by decide +kernel
theorem d_set_24 : decode prog_6_method_4_code 24 = .ok (.iload_n 1, 1) := by decide +kernel
theorem d_set_25 : decode prog_6_method_4_code 25 = .ok (.iload_n 2, 1) := by decide +kernel
theorem d_set_26 : decode prog_6_method_4_code 26 = .ok (.if_icmp .ge 19, 3) := by decide +kernel
theorem d_set_29 : decode prog_6_method_4_code 29 = .ok (.aload_n 0, 1) := by decide +kernel
theorem d_set_30 : decode prog_6_method_4_code 30 = .ok (.iconst 2, 1) := by decide +kernel
theorem d_set_31 : decode prog_6_method_4_code 31 = .ok (.newarray .int, 2) := by decide +kernel
theorem d_set_33 : decode prog_6_method_4_code 33 = .ok (.dup, 1) := by decide +kernel
theorem d_set_34 : decode prog_6_method_4_code 34 = .ok (.iconst 0, 1) := by decide +kernel
theorem d_set_35 : decode prog_6_method_4_code 35 = .ok (.iload_n 1, 1) := by decide +kernel
theorem d_set_36 : decode prog_6_method_4_code 36 = .ok (.iastore, 1) := by decide +kernel
theorem d_set_37 : decode prog_6_method_4_code 37 = .ok (.dup, 1) := by decide +kernel
theorem d_set_38 : decode prog_6_method_4_code 38 = .ok (.iconst 1, 1) := by decide +kernel
theorem d_set_39 : decode prog_6_method_4_code 39 = .ok (.iload_n 2, 1) := by decide +kernel
theorem d_set_40 : decode prog_6_method_4_code 40 = .ok (.iastore, 1) := by decide +kernel
theorem d_set_41 : decode prog_6_method_4_code 41 = .ok (.iconst 2, 1) := by decide +kernel
theorem d_set_42 : decode prog_6_method_4_code 42 = .ok (.invokevirtual 38, 3) := by decide +kernel
theorem pd_2 : parseMethodDescriptor "([II)V" = some ⟨[(.array .int), .int], none⟩ := by decide +kernel
theorem d_set_45 : decode prog_6_method_4_code 45 = .ok (.return_, 1) := by decide +kernel
theorem pn_set : plainName "com/example/collate/collate/analysis/AtomSet" = true := by first | (simp [plainName, overriddenIn]; done) | decide +kernel
theorem d_init_0 : decode prog_6_method_1_code 0 = .ok (.aload_n 0, 1) := by decide +kernel
theorem d_init_1 : decode prog_6_method_1_code 1 = .ok (.invokespecial 1, 3) := by decide +kernel
theorem d_init_4 : decode prog_6_method_1_code 4 = .ok (.aload_n 0, 1) := by decide +kernel
theorem d_init_5 : decode prog_6_method_1_code 5 = .ok (.getstatic 7, 3) := by decide +kernel
theorem d_init_8 : decode prog_6_method_1_code 8 = .ok (.putfield 13, 3) := by decide +kernel
theorem d_init_11 : decode prog_6_method_1_code 11 = .ok (.return_, 1) := by decide +kernel
theorem pn_init : plainName "com/example/collate/collate/analysis/AtomSet" = true := by first | (simp [plainName, overriddenIn]; done) | decide +kernel
theorem d_card_0 : decode prog_6_method_12_code 0 = .ok (.iconst 0, 1) := by decide +kernel
theorem d_card_1 : decode prog_6_method_12_code 1 = .ok (.istore_n 1, 1) := by decide +kernel
theorem d_card_2 : decode prog_6_method_12_code 2 = .ok (.iconst 0, 1) := by decide +kernel
theorem d_card_3 : decode prog_6_method_12_code 3 = .ok (.istore_n 2, 1) := by decide +kernel
theorem d_card_4 : decode prog_6_method_12_code 4 = .ok (.iload_n 2, 1) := by decide +kernel
theorem d_card_5 : decode prog_6_method_12_code 5 = .ok (.aload_n 0, 1) := by decide +kernel
theorem d_card_6 : decode prog_6_method_12_code 6 = .ok (.getfield 16, 3) := by decide +kernel
theorem d_card_9 : decode prog_6_method_12_code 9 = .ok (.if_icmp .ge 27, 3) := by decide +kernel
theorem d_card_36 : decode prog_6_method_12_code 36 = .ok (.iload_n 1, 1) := by decide +kernel
theorem d_card_37 : decode prog_6_method_12_code 37 = .ok (.ireturn, 1) := by decide +kernel
theorem d_card_12 : decode prog_6_method_12_code 12 = .ok (.iload_n 1, 1) := by decide +kernel
theorem d_card_13 : decode prog_6_method_12_code 13 = .ok (.aload_n 0, 1) := by decide +kernel
theorem d_card_14 : decode prog_6_method_12_code 14 = .ok (.getfield 13, 3) := by decide +kernel
theorem d_card_17 : decode prog_6_method_12_code 17 = .ok (.iload_n 2, 1) := by decide +kernel
theorem d_card_18 : decode prog_6_method_12_code 18 = .ok (.iconst 1, 1) := by decide +kernel
theorem d_card_19 : decode prog_6_method_12_code 19 = .ok (.iadd, 1) := by decide +kernel
theorem d_card_20 : decode prog_6_method_12_code 20 = .ok (.iaload, 1) := by decide +kernel
theorem d_card_21 : decode prog_6_method_12_code 21 = .ok (.aload_n 0, 1) := by decide +kernel
theorem d_card_22 : decode prog_6_method_12_code 22 = .ok (.getfield 13, 3) := by decide +kernel
theorem d_card_25 : decode prog_6_method_12_code 25 = .ok (.iload_n 2, 1) := by decide +kernel
theorem d_card_26 : decode prog_6_method_12_code 26 = .ok (.iaload, 1) := by decide +kernel
theorem d_card_27 : decode prog_6_method_12_code 27 = .ok (.isub, 1) := by decide +kernel
theorem d_card_28 : decode prog_6_method_12_code 28 = .ok (.iadd, 1) := by decide +kernel
theorem d_card_29 : decode prog_6_method_12_code 29 = .ok (.istore_n 1, 1) := by decide +kernel
theorem d_card_30 : decode prog_6_method_12_code 30 = .ok (.iinc 2 2, 3) := by decide +kernel
theorem d_card_33 : decode prog_6_method_12_code 33 = .ok (.goto (-29), 3) := by decide +kernel
theorem pn_card : plainName "com/example/collate/collate/analysis/AtomSet" = true := by first | (simp [plainName, overriddenIn]; done) | decide +kernel
theorem pd_3 : parseMethodDescriptor "()V" = some ⟨[], none⟩ := by decide +kernel
theorem pd_4 : parseMethodDescriptor "(II)V" = some ⟨[.int, .int], none⟩ := by decide +kernel
theorem pd_5 : parseMethodDescriptor "(II)J" = some ⟨[.int, .int], some .long⟩ := by decide +kernel
theorem pd_6 : parseMethodDescriptor "()I" = some ⟨[], some .int⟩ := by decide +kernel
theorem pn_law : plainName "com/example/collate/collate/analysis/AtomSetCardinalityPinLaw" = true := by first | (simp [plainName, overriddenIn]; done) | decide +kernel
def asc (f : Nat → Int32) (c : Nat) : Prop := (0 < c → 0 ≤ (f 0).toInt ∧ (f 0).toInt < (f 1).toInt) ∧ (2 < c → (f 1).toInt < (f 2).toInt ∧ (f 2).toInt < (f 3).toInt) ∧ (4 < c → (f 3).toInt < (f 4).toInt ∧ (f 4).toInt < (f 5).toInt)
def rm (f : Nat → Int32) (c : Nat) (n : Int) : Prop := (0 < c ∧ (f 0).toInt ≤ n ∧ n < (f 1).toInt) ∨ (2 < c ∧ (f 2).toInt ≤ n ∧ n < (f 3).toInt) ∨ (4 < c ∧ (f 4).toInt ≤ n ∧ n < (f 5).toInt)
def ADD (M : Int → Prop) (x y : Int32) : Int → Prop := fun n => M n ∨ (x.toInt ≤ n ∧ n < y.toInt)
def okL (k L c : Nat) (cv : Int32) : Prop := (L = 0 ∧ c = 0 ∧ cv = 0) ∨ (1 ≤ k ∧ L = 2 ∧ c = 2 ∧ cv = 2) ∨ (2 ≤ k ∧ L = 4 ∧ c = 2 ∧ cv = 2) ∨ (2 ≤ k ∧ L = 4 ∧ c = 4 ∧ cv = 4) ∨ (3 ≤ k ∧ L = 8 ∧ c = 6 ∧ cv = 6) ∨ (3 ≤ k ∧ L = 6 ∧ c = 2 ∧ cv = 2) ∨ (3 ≤ k ∧ L = 6 ∧ c = 4 ∧ cv = 4) ∨ (3 ≤ k ∧ L = 6 ∧ c = 6 ∧ cv = 6)
theorem fin0 {f : Nat → Int32} {M : Int → Prop} (h : ∀ n, ¬ M n) : asc f 0 ∧ ∀ n, M n ↔ rm f 0 n := ⟨⟨fun q => by omega, fun q => by omega, fun q => by omega⟩, fun n => ⟨fun q => absurd q (h n), fun q => by unfold rm at q; omega⟩⟩
theorem fin2 {f : Nat → Int32} {u v : Int32} {M : Int → Prop} (e0 : f 0 = u) (e1 : f 1 = v) (h : 0 ≤ u.toInt ∧ u.toInt < v.toInt ∧ ∀ n, M n ↔ (u.toInt ≤ n ∧ n < v.toInt)) : asc f 2 ∧ ∀ n, M n ↔ rm f 2 n := by
  subst e0 e1
  refine ⟨⟨fun _ => ⟨h.1, h.2.1⟩, fun q => by omega, fun q => by omega⟩, fun n => (h.2.2 n).trans ?_⟩
  unfold rm; omega
theorem fin4 {f : Nat → Int32} {u v w x : Int32} {M : Int → Prop} (e0 : f 0 = u) (e1 : f 1 = v) (e2 : f 2 = w) (e3 : f 3 = x) (h : 0 ≤ u.toInt ∧ u.toInt < v.toInt ∧ v.toInt < w.toInt ∧ w.toInt < x.toInt ∧ ∀ n, M n ↔ (u.toInt ≤ n ∧ n < v.toInt) ∨ (w.toInt ≤ n ∧ n < x.toInt)) : asc f 4 ∧ ∀ n, M n ↔ rm f 4 n := by
  subst e0 e1 e2 e3
  refine ⟨⟨fun _ => ⟨h.1, h.2.1⟩, fun _ => ⟨h.2.2.1, h.2.2.2.1⟩, fun q => by omega⟩, fun n => (h.2.2.2.2 n).trans ?_⟩
  unfold rm; omega
theorem fin6 {f : Nat → Int32} {u v w x y z : Int32} {M : Int → Prop} (e0 : f 0 = u) (e1 : f 1 = v) (e2 : f 2 = w) (e3 : f 3 = x) (e4 : f 4 = y) (e5 : f 5 = z) (h : 0 ≤ u.toInt ∧ u.toInt < v.toInt ∧ v.toInt < w.toInt ∧ w.toInt < x.toInt ∧ x.toInt < y.toInt ∧ y.toInt < z.toInt ∧ ∀ n, M n ↔ (u.toInt ≤ n ∧ n < v.toInt) ∨ (w.toInt ≤ n ∧ n < x.toInt) ∨ (y.toInt ≤ n ∧ n < z.toInt)) : asc f 6 ∧ ∀ n, M n ↔ rm f 6 n := by
  subst e0 e1 e2 e3 e4 e5
  refine ⟨⟨fun _ => ⟨h.1, h.2.1⟩, fun _ => ⟨h.2.2.1, h.2.2.2.1⟩, fun _ => ⟨h.2.2.2.2.1, h.2.2.2.2.2.1⟩⟩, fun n => (h.2.2.2.2.2.2 n).trans ?_⟩
  unfold rm; omega
theorem of0 {f : Nat → Int32} {M : Int → Prop} (h : ∀ n, M n ↔ rm f 0 n) : ∀ n, ¬ M n := fun n q => by have := (h n).mp q; unfold rm at this; omega
theorem of2 {f : Nat → Int32} {M : Int → Prop} (a : asc f 2) (h : ∀ n, M n ↔ rm f 2 n) : 0 ≤ (f 0).toInt ∧ (f 0).toInt < (f 1).toInt ∧ ∀ n, M n ↔ ((f 0).toInt ≤ n ∧ n < (f 1).toInt) := ⟨(a.1 (by omega)).1, (a.1 (by omega)).2, fun n => (h n).trans (by unfold rm; omega)⟩
theorem of4 {f : Nat → Int32} {M : Int → Prop} (a : asc f 4) (h : ∀ n, M n ↔ rm f 4 n) : 0 ≤ (f 0).toInt ∧ (f 0).toInt < (f 1).toInt ∧ (f 1).toInt < (f 2).toInt ∧ (f 2).toInt < (f 3).toInt ∧ ∀ n, M n ↔ ((f 0).toInt ≤ n ∧ n < (f 1).toInt) ∨ ((f 2).toInt ≤ n ∧ n < (f 3).toInt) := ⟨(a.1 (by omega)).1, (a.1 (by omega)).2, (a.2.1 (by omega)).1, (a.2.1 (by omega)).2, fun n => (h n).trans (by unfold rm; omega)⟩
theorem of6 {f : Nat → Int32} {M : Int → Prop} (a : asc f 6) (h : ∀ n, M n ↔ rm f 6 n) : 0 ≤ (f 0).toInt ∧ (f 0).toInt < (f 1).toInt ∧ (f 1).toInt < (f 2).toInt ∧ (f 2).toInt < (f 3).toInt ∧ (f 3).toInt < (f 4).toInt ∧ (f 4).toInt < (f 5).toInt ∧ ∀ n, M n ↔ ((f 0).toInt ≤ n ∧ n < (f 1).toInt) ∨ ((f 2).toInt ≤ n ∧ n < (f 3).toInt) ∨ ((f 4).toInt ≤ n ∧ n < (f 5).toInt) := ⟨(a.1 (by omega)).1, (a.1 (by omega)).2, (a.2.1 (by omega)).1, (a.2.1 (by omega)).2, (a.2.2 (by omega)).1, (a.2.2 (by omega)).2, fun n => (h n).trans (by unfold rm; omega)⟩
def CardOf (M : Int → Prop) (r : Int32) : Prop := ((∀ n, ¬ M n) ∧ r = 0) ∨ ∃ f : Nat → Int32, (asc f 2 ∧ (∀ n, M n ↔ rm f 2 n) ∧ r = f 1 - f 0) ∨ (asc f 4 ∧ (∀ n, M n ↔ rm f 4 n) ∧ r = (f 1 - f 0) + (f 3 - f 2)) ∨ (asc f 6 ∧ (∀ n, M n ↔ rm f 6 n) ∧ r = ((f 1 - f 0) + (f 3 - f 2)) + (f 5 - f 4))
def ind (lo hi n : Int) : Int := if lo ≤ n ∧ n < hi then 1 else 0
def cnt (g : Int → Int) : Nat → Int
  | 0 => 0
  | n + 1 => cnt g n + g n
theorem cnt_congr {g h : Int → Int} (e : ∀ n, g n = h n) : ∀ N, cnt g N = cnt h N
  | 0 => rfl
  | n + 1 => by simp only [cnt, cnt_congr e n, e]
theorem cnt_add (g h : Int → Int) : ∀ N, cnt (fun n => g n + h n) N = cnt g N + cnt h N
  | 0 => rfl
  | n + 1 => by simp only [cnt, cnt_add g h n]; omega
theorem cnt_sub (g h : Int → Int) : ∀ N, cnt (fun n => g n - h n) N = cnt g N - cnt h N
  | 0 => rfl
  | n + 1 => by simp only [cnt, cnt_sub g h n]; omega
theorem cnt_zero : ∀ N, cnt (fun _ => 0) N = 0
  | 0 => rfl
  | n + 1 => by simp only [cnt, cnt_zero n]; omega
theorem cnt_ind {lo hi : Int} (h0 : 0 ≤ lo) : ∀ N : Nat, cnt (ind lo hi) N = if lo < (if hi ≤ N then hi else N) then (if hi ≤ N then hi else N) - lo else 0
  | 0 => by simp only [cnt]; split <;> split <;> omega
  | n + 1 => by
    simp only [cnt, cnt_ind h0 n, ind]
    split <;> split <;> split <;> split <;> omega
theorem cnt_iv {lo hi : Int} (h0 : 0 ≤ lo) {N : Nat} (hN : hi ≤ N) : cnt (ind lo hi) N = if lo < hi then hi - lo else 0 := by rw [cnt_ind h0, if_pos hN]
theorem incl {M : Int → Prop} {a0 a1 b0 b1 c0 c1 : Int} (g : Int → Int) (hg : ∀ n, (M n → g n = 1) ∧ (¬ M n → g n = 0)) (hM : ∀ n, M n ↔ ((a0 ≤ n ∧ n < a1) ∨ (b0 ≤ n ∧ n < b1)) ∨ (c0 ≤ n ∧ n < c1)) (n : Int) :
    g n = (((((ind a0 a1 n + ind b0 b1 n) + ind c0 c1 n) - ind (max a0 b0) (min a1 b1) n) - ind (max a0 c0) (min a1 c1) n) - ind (max b0 c0) (min b1 c1) n) + ind (max a0 (max b0 c0)) (min a1 (min b1 c1)) n := by
  have q : g n = 1 ∧ M n ∨ g n = 0 ∧ ¬ M n := by
    by_cases m : M n
    · exact Or.inl ⟨(hg n).1 m, m⟩
    · exact Or.inr ⟨(hg n).2 m, m⟩
  rw [hM n] at q
  have T : ∀ lo hi : Int, lo ≤ n ∧ n < hi → ind lo hi n = 1 := fun lo hi h => if_pos h
  have F : ∀ lo hi : Int, ¬ (lo ≤ n ∧ n < hi) → ind lo hi n = 0 := fun lo hi h => if_neg h
  by_cases A : a0 ≤ n ∧ n < a1 <;> by_cases B : b0 ≤ n ∧ n < b1 <;> by_cases C : c0 ≤ n ∧ n < c1
  · rw [T _ _ A, T _ _ B, T _ _ C, T _ _ (by omega), T _ _ (by omega), T _ _ (by omega), T _ _ (by omega)]; omega
  · rw [T _ _ A, T _ _ B, F _ _ C, T _ _ (by omega), F _ _ (by omega), F _ _ (by omega), F _ _ (by omega)]; omega
  · rw [T _ _ A, F _ _ B, T _ _ C, F _ _ (by omega), T _ _ (by omega), F _ _ (by omega), F _ _ (by omega)]; omega
  · rw [T _ _ A, F _ _ B, F _ _ C, F _ _ (by omega), F _ _ (by omega), F _ _ (by omega), F _ _ (by omega)]; omega
  · rw [F _ _ A, T _ _ B, T _ _ C, F _ _ (by omega), F _ _ (by omega), T _ _ (by omega), F _ _ (by omega)]; omega
  · rw [F _ _ A, T _ _ B, F _ _ C, F _ _ (by omega), F _ _ (by omega), F _ _ (by omega), F _ _ (by omega)]; omega
  · rw [F _ _ A, F _ _ B, T _ _ C, F _ _ (by omega), F _ _ (by omega), F _ _ (by omega), F _ _ (by omega)]; omega
  · rw [F _ _ A, F _ _ B, F _ _ C, F _ _ (by omega), F _ _ (by omega), F _ _ (by omega), F _ _ (by omega)]; omega
def lenI (lo hi : Int) : Int := if lo < hi then hi - lo else 0
theorem incl_cnt {M : Int → Prop} {a0 a1 b0 b1 c0 c1 : Int} (ha : 0 ≤ a0) (hb : 0 ≤ b0) (hc : 0 ≤ c0) (g : Int → Int) (hg : ∀ n, (M n → g n = 1) ∧ (¬ M n → g n = 0)) (hM : ∀ n, M n ↔ ((a0 ≤ n ∧ n < a1) ∨ (b0 ≤ n ∧ n < b1)) ∨ (c0 ≤ n ∧ n < c1)) {N : Nat} (h1 : a1 ≤ N) (h2 : b1 ≤ N) (h3 : c1 ≤ N) :
    cnt g N = (((((lenI a0 a1 + lenI b0 b1) + lenI c0 c1) - lenI (max a0 b0) (min a1 b1)) - lenI (max a0 c0) (min a1 c1)) - lenI (max b0 c0) (min b1 c1)) + lenI (max a0 (max b0 c0)) (min a1 (min b1 c1)) := by
  have e := cnt_congr (incl g hg hM) N
  rw [e, cnt_add (fun n => ((((ind a0 a1 n + ind b0 b1 n) + ind c0 c1 n) - ind (max a0 b0) (min a1 b1) n) - ind (max a0 c0) (min a1 c1) n) - ind (max b0 c0) (min b1 c1) n), cnt_sub (fun n => (((ind a0 a1 n + ind b0 b1 n) + ind c0 c1 n) - ind (max a0 b0) (min a1 b1) n) - ind (max a0 c0) (min a1 c1) n), cnt_sub (fun n => ((ind a0 a1 n + ind b0 b1 n) + ind c0 c1 n) - ind (max a0 b0) (min a1 b1) n), cnt_sub (fun n => (ind a0 a1 n + ind b0 b1 n) + ind c0 c1 n), cnt_add (fun n => ind a0 a1 n + ind b0 b1 n), cnt_add (ind a0 a1) (ind b0 b1)]
  show (((((cnt (ind a0 a1) N + cnt (ind b0 b1) N) + cnt (ind c0 c1) N) - cnt (ind (max a0 b0) (min a1 b1)) N) - cnt (ind (max a0 c0) (min a1 c1)) N) - cnt (ind (max b0 c0) (min b1 c1)) N) + cnt (ind (max a0 (max b0 c0)) (min a1 (min b1 c1))) N = _
  rw [cnt_iv ha h1, cnt_iv hb h2, cnt_iv hc h3, cnt_iv (by omega) (by omega), cnt_iv (by omega) (by omega), cnt_iv (by omega) (by omega), cnt_iv (by omega) (by omega)]
  rfl
theorem runs_cnt {M : Int → Prop} {u v w x y z : Int} (g : Int → Int) (hg : ∀ n, (M n → g n = 1) ∧ (¬ M n → g n = 0)) (h0 : 0 ≤ u) (h1 : u ≤ v) (h2 : v ≤ w) (h3 : w ≤ x) (h4 : x ≤ y) (h5 : y ≤ z) (hM : ∀ n, M n ↔ (u ≤ n ∧ n < v) ∨ (w ≤ n ∧ n < x) ∨ (y ≤ n ∧ n < z)) {N : Nat} (hN : z ≤ N) : cnt g N = (v - u) + (x - w) + (z - y) := by
  have e : ∀ n, g n = (ind u v n + ind w x n) + ind y z n := fun n => by
    have q : g n = 1 ∧ M n ∨ g n = 0 ∧ ¬ M n := by
      by_cases m : M n
      · exact Or.inl ⟨(hg n).1 m, m⟩
      · exact Or.inr ⟨(hg n).2 m, m⟩
    rw [hM n] at q
    unfold ind
    split <;> split <;> split <;> omega
  rw [cnt_congr e N, cnt_add (fun n => ind u v n + ind w x n), cnt_add (ind u v) (ind w x)]
  show (cnt (ind u v) N + cnt (ind w x) N) + cnt (ind y z) N = _
  rw [cnt_iv h0 (by omega), cnt_iv (by omega) (by omega), cnt_iv (by omega) hN]
  split <;> split <;> split <;> omega
theorem of0' {f : Nat → Int32} {M : Int → Prop} (h : ∀ n, M n ↔ rm f 0 n) : ∀ n, M n ↔ False := fun n => ⟨of0 h n, False.elim⟩
def AS (Z : State) (h : Heap) (n0 : Nat) (a aB : Addr) (k : Nat) (M : Int → Prop) : Prop := ∃ (kB : ClassId) (f : Nat → Int32) (L c : Nat) (cv : Int32), Fld Z h a "com/example/collate/collate/analysis/AtomSet" "bounds" "[I" (.ref aB) ∧ Fld Z h a "com/example/collate/collate/analysis/AtomSet" "count" "I" (.int cv) ∧ Af Z h aB kB .int L (fun i => Value.int (f i)) ∧ a ≠ aB ∧ (0 < L → n0 ≤ aB) ∧ okL k L c cv ∧ asc f c ∧ (∀ n, M n ↔ rm f c n)
theorem mem_same {f : Nat → Int32} {c : Nat} {M : Int → Prop} {x y : Int32} (hM : ∀ n, M n ↔ rm f c n) (h : ¬ x < y) : ∀ n, ADD M x y n ↔ rm f c n := fun n => by
  rw [Int32.lt_iff_toInt_lt] at h
  constructor
  · rintro (q | q)
    · exact (hM n).mp q
    · omega
  · intro q; exact Or.inl ((hM n).mpr q)
theorem k_up {a b k : Nat} (h : a ≤ k) (q : b ≤ a + 1) : b ≤ k + 1 := by omega
theorem lt_2 {i : Nat} (h : i < 2) : i = 0 ∨ i = 1 := by omega
theorem lt_4 {i : Nat} (h : i < 4) : i = 0 ∨ i = 1 ∨ i = 2 ∨ i = 3 := by omega
theorem lt_6 {i : Nat} (h : i < 6) : i = 0 ∨ i = 1 ∨ i = 2 ∨ i = 3 ∨ i = 4 ∨ i = 5 := by omega
theorem lt_8 {i : Nat} (h : i < 8) : i = 0 ∨ i = 1 ∨ i = 2 ∨ i = 3 ∨ i = 4 ∨ i = 5 ∨ i = 6 ∨ i = 7 := by omega
theorem neg_of {v : Int32} (h : 0 ≤ v.toInt) : ¬ v < 0 := by rw [Int32.lt_iff_toInt_lt]; show ¬ _ < (0 : Int); omega
theorem nlt_of {v w : Int32} (h : w.toInt ≤ v.toInt) : ¬ v < w := by rw [Int32.lt_iff_toInt_lt]; omega
theorem lt_of {v w : Int32} (h : v.toInt < w.toInt) : v < w := Int32.lt_iff_toInt_lt.mpr h
def F_max (p0 : Int32) (p1 : Int32) : Int32 := (if p0 < p1 then p1 else p0)
def Q_max (p0 : Int32) (p1 : Int32) (h0 : Heap) (v : Option Value) (h : Heap) (L : List Loc) : Prop := v = some (.int (F_max p0 p1)) ∧ L = [] ∧ h = h0
theorem ef_max (m : MethodId) (x0 : Int32) (x1 : Int32) : entryFrame m #[(.int x0), (.int x1)] 2 = mkF m 0 #[.val (.int x0), .val (.int x1)] [] := by first | (simp [entryFrame, mkF, argsToLocals, Value.category]; done) | rfl
set_option maxRecDepth 65536 in
set_option maxHeartbeats 40000000 in
theorem rm_max (l : Launch) (Z : State) (a0 : Array Value) (hw : ∀ d ∈ tables_1, d.before a0 Z = true) (p0 : Int32) (p1 : Int32) (h0 : Heap)  :
    Met l Z (⟨"java/lang/Math", "max", "(II)I"⟩ : MethodName) jdk_29_method_65_code 2 (Option.some Jvm.ClassFile.FieldType.int) [] ({ frames := 0, cells := 0, slots := 0, locals := 0 } : Room) #[(.int p0), (.int p1)] h0 (Q_max p0 p1 h0) := by
  refine Met.of ((by decide +kernel)) ?_
  intro p e s m below meth c s₁ X0 hx hby hml hZ hown hnm e0 hret hlk
  refine Go.cast (ef_max m p0 p1) ?_
  show Go _ _ _ _ s₁ (mkF m 0 #[.val (.int p0), .val (.int p1)] []) _ _ _
  refine Go.iloadN X0 hx (hb hby d_max_0) rfl ?_
  refine Go.iloadN X0 hx (hb hby d_max_1) rfl ?_
  rcases Decidable.em (p0 < p1) with c1 | c1
  · refine Go.icmpYes X0 hx (hb hby d_max_2) (XT.ii_lt_t c1) (pc' := 9) (by decide) (by decide) ?_
    show Go _ _ _ _ s₁ (mkF m 9 #[.val (.int p0), .val (.int p1)] []) _ _ _
    refine Go.iloadN X0 hx (hb hby d_max_9) rfl ?_
    refine Go.retI X0 hx hlk hret (hb hby d_max_10) (by decide) (by decide) ?_
    rw [e0]
    exact ⟨by unfold F_max; rw [if_pos c1], rfl, rfl⟩
  · refine Go.icmpNo X0 hx (hb hby d_max_2) (XT.ii_lt_f c1) ?_
    show Go _ _ _ _ s₁ (mkF m 5 #[.val (.int p0), .val (.int p1)] []) _ _ _
    refine Go.iloadN X0 hx (hb hby d_max_5) rfl ?_
    refine Go.goto X0 hx (hb hby d_max_6) (pc' := 10) (by decide) (by decide) ?_
    show Go _ _ _ _ s₁ (mkF m 10 #[.val (.int p0), .val (.int p1)] [(.int p0)]) _ _ _
    refine Go.retI X0 hx hlk hret (hb hby d_max_10) (by decide) (by decide) ?_
    rw [e0]
    exact ⟨by unfold F_max; rw [if_neg c1], rfl, rfl⟩
def F_min (p0 : Int32) (p1 : Int32) : Int32 := (if p1 < p0 then p1 else p0)
def Q_min (p0 : Int32) (p1 : Int32) (h0 : Heap) (v : Option Value) (h : Heap) (L : List Loc) : Prop := v = some (.int (F_min p0 p1)) ∧ L = [] ∧ h = h0
theorem ef_min (m : MethodId) (x0 : Int32) (x1 : Int32) : entryFrame m #[(.int x0), (.int x1)] 2 = mkF m 0 #[.val (.int x0), .val (.int x1)] [] := by first | (simp [entryFrame, mkF, argsToLocals, Value.category]; done) | rfl
set_option maxRecDepth 65536 in
set_option maxHeartbeats 40000000 in
theorem rm_min (l : Launch) (Z : State) (a0 : Array Value) (hw : ∀ d ∈ tables_1, d.before a0 Z = true) (p0 : Int32) (p1 : Int32) (h0 : Heap)  :
    Met l Z (⟨"java/lang/Math", "min", "(II)I"⟩ : MethodName) jdk_29_method_69_code 2 (Option.some Jvm.ClassFile.FieldType.int) [] ({ frames := 0, cells := 0, slots := 0, locals := 0 } : Room) #[(.int p0), (.int p1)] h0 (Q_min p0 p1 h0) := by
  refine Met.of ((by decide +kernel)) ?_
  intro p e s m below meth c s₁ X0 hx hby hml hZ hown hnm e0 hret hlk
  refine Go.cast (ef_min m p0 p1) ?_
  show Go _ _ _ _ s₁ (mkF m 0 #[.val (.int p0), .val (.int p1)] []) _ _ _
  refine Go.iloadN X0 hx (hb hby d_min_0) rfl ?_
  refine Go.iloadN X0 hx (hb hby d_min_1) rfl ?_
  rcases Decidable.em (p1 < p0) with c2 | c2
  · refine Go.icmpYes X0 hx (hb hby d_min_2) (XT.ii_gt_t c2) (pc' := 9) (by decide) (by decide) ?_
    show Go _ _ _ _ s₁ (mkF m 9 #[.val (.int p0), .val (.int p1)] []) _ _ _
    refine Go.iloadN X0 hx (hb hby d_min_9) rfl ?_
    refine Go.retI X0 hx hlk hret (hb hby d_min_10) (by decide) (by decide) ?_
    rw [e0]
    exact ⟨by unfold F_min; rw [if_pos c2], rfl, rfl⟩
  · refine Go.icmpNo X0 hx (hb hby d_min_2) (XT.ii_gt_f c2) ?_
    show Go _ _ _ _ s₁ (mkF m 5 #[.val (.int p0), .val (.int p1)] []) _ _ _
    refine Go.iloadN X0 hx (hb hby d_min_5) rfl ?_
    refine Go.goto X0 hx (hb hby d_min_6) (pc' := 10) (by decide) (by decide) ?_
    show Go _ _ _ _ s₁ (mkF m 10 #[.val (.int p0), .val (.int p1)] [(.int p0)]) _ _ _
    refine Go.retI X0 hx hlk hret (hb hby d_min_10) (by decide) (by decide) ?_
    rw [e0]
    exact ⟨by unfold F_min; rw [if_neg c2], rfl, rfl⟩
def F_len (p0 : Int32) (p1 : Int32) : Int64 := (if p0 < p1 then (((p1).toInt64) - ((p0).toInt64)) else (0 : Int64))
def Q_len (p0 : Int32) (p1 : Int32) (h0 : Heap) (v : Option Value) (h : Heap) (L : List Loc) : Prop := v = some (.long (F_len p0 p1)) ∧ L = [] ∧ h = h0
theorem ef_len (m : MethodId) (x0 : Int32) (x1 : Int32) : entryFrame m #[(.int x0), (.int x1)] 2 = mkF m 0 #[.val (.int x0), .val (.int x1)] [] := by first | (simp [entryFrame, mkF, argsToLocals, Value.category]; done) | rfl
set_option maxRecDepth 65536 in
set_option maxHeartbeats 40000000 in
theorem rm_len (l : Launch) (Z : State) (a0 : Array Value) (hw : ∀ d ∈ tables_1, d.before a0 Z = true) (p0 : Int32) (p1 : Int32) (h0 : Heap)  :
    Met l Z (⟨"com/example/collate/collate/analysis/AtomSetCardinalityPinLaw", "len", "(II)J"⟩ : MethodName) method_3_code 2 (Option.some Jvm.ClassFile.FieldType.long) [] ({ frames := 0, cells := 0, slots := 0, locals := 0 } : Room) #[(.int p0), (.int p1)] h0 (Q_len p0 p1 h0) := by
  refine Met.of (plainFor_of_name pn_len) ?_
  intro p e s m below meth c s₁ X0 hx hby hml hZ hown hnm e0 hret hlk
  refine Go.cast (ef_len m p0 p1) ?_
  show Go _ _ _ _ s₁ (mkF m 0 #[.val (.int p0), .val (.int p1)] []) _ _ _
  refine Go.iloadN X0 hx (hb hby d_len_0) rfl ?_
  refine Go.iloadN X0 hx (hb hby d_len_1) rfl ?_
  rcases Decidable.em (p0 < p1) with c3 | c3
  · refine Go.icmpNo X0 hx (hb hby d_len_2) (XT.ii_le_f c3) ?_
    show Go _ _ _ _ s₁ (mkF m 5 #[.val (.int p0), .val (.int p1)] []) _ _ _
    refine Go.iloadN X0 hx (hb hby d_len_5) rfl ?_
    refine Go.i2l X0 hx (hb hby d_len_6) ?_
    show Go _ _ _ _ s₁ (mkF m 7 #[.val (.int p0), .val (.int p1)] [(.long ((p1).toInt64))]) _ _ _
    refine Go.iloadN X0 hx (hb hby d_len_7) rfl ?_
    refine Go.i2l X0 hx (hb hby d_len_8) ?_
    show Go _ _ _ _ s₁ (mkF m 9 #[.val (.int p0), .val (.int p1)] [(.long ((p0).toInt64)), (.long ((p1).toInt64))]) _ _ _
    refine Go.lsub X0 hx (hb hby d_len_9) ?_
    show Go _ _ _ _ s₁ (mkF m 10 #[.val (.int p0), .val (.int p1)] [(.long (((p1).toInt64) - ((p0).toInt64)))]) _ _ _
    refine Go.goto X0 hx (hb hby d_len_10) (pc' := 14) (by decide) (by decide) ?_
    show Go _ _ _ _ s₁ (mkF m 14 #[.val (.int p0), .val (.int p1)] [(.long (((p1).toInt64) - ((p0).toInt64)))]) _ _ _
    refine Go.retJ X0 hx hlk hret (hb hby d_len_14) (by decide) (by decide) ?_
    rw [e0]
    exact ⟨by unfold F_len; rw [if_pos c3], rfl, rfl⟩
  · refine Go.icmpYes X0 hx (hb hby d_len_2) (XT.ii_le_t c3) (pc' := 13) (by decide) (by decide) ?_
    show Go _ _ _ _ s₁ (mkF m 13 #[.val (.int p0), .val (.int p1)] []) _ _ _
    refine Go.lconst X0 hx (hb hby d_len_13) ?_
    show Go _ _ _ _ s₁ (mkF m 14 #[.val (.int p0), .val (.int p1)] [(.long (0 : Int64))]) _ _ _
    refine Go.retJ X0 hx hlk hret (hb hby d_len_14) (by decide) (by decide) ?_
    rw [e0]
    exact ⟨by unfold F_len; rw [if_neg c3], rfl, rfl⟩
theorem max_spec (a b : Int32) : (F_max a b).toInt = a.toInt ∧ b.toInt ≤ a.toInt ∨ (F_max a b).toInt = b.toInt ∧ a.toInt ≤ b.toInt := by
  unfold F_max; split <;> (rename_i h; rw [Int32.lt_iff_toInt_lt] at h; omega)
theorem min_spec (a b : Int32) : (F_min a b).toInt = a.toInt ∧ a.toInt ≤ b.toInt ∨ (F_min a b).toInt = b.toInt ∧ b.toInt ≤ a.toInt := by
  unfold F_min; split <;> (rename_i h; rw [Int32.lt_iff_toInt_lt] at h; omega)
def Q_cp0 (Z : State) (ar : Addr) (kr : ClassId) (f : Nat → Int32) (h0 : Heap) (n0 : Nat) (v : Option Value) (h : Heap) (L : List Loc) : Prop := ∃ (r : Addr) (ks : ClassId), v = some (.ref r) ∧ Fr n0 L ∧ Keep h0 h [] ∧ n0 ≤ r ∧ h0.size ≤ r ∧ Af Z h r ks .int 2 (fun i => Value.int ((updI (updI (fun _ => (0 : Int32)) 0 (0 : Int32)) 1 (0 : Int32)) i))
theorem ef_cp0 (m : MethodId) (x0 : Addr) (x1 : Int32) : entryFrame m #[(.ref x0), (.int x1)] 3 = mkF m 0 #[.val (.ref x0), .val (.int x1), .unset] [] := by first | (simp [entryFrame, mkF, argsToLocals, Value.category]; done) | rfl
set_option maxRecDepth 65536 in
set_option maxHeartbeats 40000000 in
theorem rm_cp0 (l : Launch) (Z : State) (a0 : Array Value) (hw : ∀ d ∈ tables_1, d.before a0 Z = true) (ar : Addr) (kr : ClassId) (f : Nat → Int32) (h0 : Heap) (n0 : Nat) (Z0 : n0 ≤ h0.size) (f0 : Af Z h0 ar kr .int 0 (fun i => Value.int (f i))) :
    Met l Z (⟨"java/util/Arrays", "copyOf", "([II)[I"⟩ : MethodName) jdk_65_method_123_code 3 (Option.some (Jvm.ClassFile.FieldType.array Jvm.ClassFile.FieldType.int)) [] ({ frames := 1, cells := 1, slots := 2, locals := 18 } : Room) #[(.ref ar), (.int (2 : Int32))] h0 (Q_cp0 Z ar kr f h0 n0) := by
  refine Met.of (plainFor_of_name pn_cp0) ?_
  intro p e s m below meth c s₁ X0 hx hby hml hZ hown hnm e0 hret hlk
  refine Go.cast (ef_cp0 m ar ((2 : Int32))) ?_
  show Go _ _ _ _ s₁ (mkF m 0 #[.val (.ref ar), .val (.int (2 : Int32)), .unset] []) _ _ _
  have N0 := Fr.nil n0
  refine Go.iloadN X0 hx (hb hby d_cp0_0) rfl ?_
  refine Go.aloadN X0 hx (hb hby d_cp0_1) rfl rfl ?_
  refine Go.alen X0 hx hZ e0 f0 (hb hby d_cp0_2) ?_
  show Go _ _ _ _ s₁ (mkF m 3 #[.val (.ref ar), .val (.int (2 : Int32)), .unset] [(.int (0 : Int32)), (.int (2 : Int32))]) _ _ _
  refine Go.icmpYes X0 hx (hb hby d_cp0_3) (XT.ii_ne_t (by decide)) (pc' := 14) (by decide) (by decide) ?_
  show Go _ _ _ _ s₁ (mkF m 14 #[.val (.ref ar), .val (.int (2 : Int32)), .unset] []) _ _ _
  refine Go.iloadN X0 hx (hb hby d_cp0_14) rfl ?_
  refine Go.newarray (aty := .int) (cap := 2) X0 hx hZ (w26 hw) e0 (hb hby d_cp0_15) (by decide) (by decide) (by decide) (by decide) (by decide) ?_
  intro T4 h4 a4 k4 b4 X4 e4 E4 A4
  have g_a4 : n0 ≤ a4 := by rw [b4]; exact Z0
  have y_a4 : h0.size ≤ a4 := by rw [b4]; exact (Nat.le_refl _)
  have ne_ar_a4 : ar ≠ a4 := by rw [b4]; exact Nat.ne_of_lt f0.lt
  have Z4 : n0 ≤ h4.size := Nat.le_trans Z0 E4.1
  have B4 : h0.size ≤ h4.size := Nat.le_trans (Nat.le_refl _) E4.1
  show Go _ _ _ _ T4 (mkF m 17 #[.val (.ref ar), .val (.int (2 : Int32)), .unset] [(.ref a4)]) _ _ _
  refine Go.astoreN X4 hx (hb hby d_cp0_17) rfl (l' := #[.val (.ref ar), .val (.int (2 : Int32)), .val (.ref a4)]) rfl ?_
  refine Go.aloadN X4 hx (hb hby d_cp0_18) rfl rfl ?_
  refine Go.iconst X4 hx (hb hby d_cp0_19) ?_
  show Go _ _ _ _ T4 (mkF m 20 #[.val (.ref ar), .val (.int (2 : Int32)), .val (.ref a4)] [(.int (0 : Int32)), (.ref ar)]) _ _ _
  refine Go.aloadN X4 hx (hb hby d_cp0_20) rfl rfl ?_
  refine Go.iconst X4 hx (hb hby d_cp0_21) ?_
  show Go _ _ _ _ T4 (mkF m 22 #[.val (.ref ar), .val (.int (2 : Int32)), .val (.ref a4)] [(.int (0 : Int32)), (.ref a4), (.int (0 : Int32)), (.ref ar)]) _ _ _
  refine Go.aloadN X4 hx (hb hby d_cp0_22) rfl rfl ?_
  refine Go.alen X4 hx hZ e4 (Af.ext E4 f0) (hb hby d_cp0_23) ?_
  show Go _ _ _ _ T4 (mkF m 24 #[.val (.ref ar), .val (.int (2 : Int32)), .val (.ref a4)] [(.int (0 : Int32)), (.int (0 : Int32)), (.ref a4), (.int (0 : Int32)), (.ref ar)]) _ _ _
  refine Go.iloadN X4 hx (hb hby d_cp0_24) rfl ?_
  refine Go.callS (W := 4) (argsL := [(.int (0 : Int32)), (.int (2 : Int32))]) (rest := [(.int (0 : Int32)), (.ref a4), (.int (0 : Int32)), (.ref ar)]) X4 hx hZ hown (w38 hw) (w2 hw) (w3 hw) (w4 hw) (by decide) (rm_min l Z a0 hw ((0 : Int32)) ((2 : Int32)) h4) e4 (lenOf pd_0 rfl) (hb hby d_cp0_25) (by rw [hml]; rfl) rfl (Nat.le_of_eq rfl) (by decide) (by decide) (by decide) (by decide) ?_
  intro v5 T5 L5 X5 q5
  obtain ⟨rfl, rfl, e5⟩ := q5
  have N5 := Fr.app N0 (Fr.nil n0)
  show Go _ _ _ _ T5 (mkF m 28 #[.val (.ref ar), .val (.int (2 : Int32)), .val (.ref a4)] [(.int (0 : Int32)), (.int (0 : Int32)), (.ref a4), (.int (0 : Int32)), (.ref ar)]) _ _ _
  refine Go.acopy (W := 0) X5 hx hZ hown (w39 hw) (w42 hw) (w40 hw) (w41 hw) e5 (Af.ext E4 f0) A4 rfl (fun i hi => absurd hi (Nat.not_lt_zero _)) (fun i hi => by have hi' : i < 2 := hi; rcases lt_2 hi' with rfl | rfl <;> first | (simp [updI, updV]; done) | rfl) (by decide) (by decide) (by decide) (by decide) (by decide) N5 g_a4 (hb hby d_cp0_28) (by rw [hml]; rfl) (Nat.le_of_eq rfl) (by decide) (by decide) ?_
  intro T6 h6 L6 X6 e6 N6 K6 A6
  have Z6 : n0 ≤ h6.size := Nat.le_trans Z4 K6.1
  have B6 : h0.size ≤ h6.size := Nat.le_trans B4 K6.1
  have A7 : Af Z h6 a4 k4 .int 2 (fun i => Value.int ((updI (updI (fun _ => (0 : Int32)) 0 (0 : Int32)) 1 (0 : Int32)) i)) := Af.congr A6 (fun i hi => by have hi' : i < 2 := hi; rcases lt_2 hi' with rfl | rfl <;> first | (simp [updI, updV]; done) | rfl)
  show Go _ _ _ _ T6 (mkF m 31 #[.val (.ref ar), .val (.int (2 : Int32)), .val (.ref a4)] []) _ _ _
  refine Go.aloadN X6 hx (hb hby d_cp0_31) rfl rfl ?_
  refine Go.retR X6 hx hlk hret rfl rfl (hb hby d_cp0_32) (by decide) (by decide) ?_
  rw [e6]
  exact ⟨a4, k4, rfl, N6, (Keep.trans (Keep.ext (Keep.refl _ _) E4) K6 (allS (Or.inr y_a4) all0)), g_a4, y_a4, A7⟩
def Q_cp2 (Z : State) (ar : Addr) (kr : ClassId) (f : Nat → Int32) (h0 : Heap) (n0 : Nat) (v : Option Value) (h : Heap) (L : List Loc) : Prop := ∃ (r : Addr) (ks : ClassId), v = some (.ref r) ∧ Fr n0 L ∧ Keep h0 h [] ∧ n0 ≤ r ∧ h0.size ≤ r ∧ Af Z h r ks .int 4 (fun i => Value.int ((updI (updI (updI (updI (fun _ => (0 : Int32)) 0 (f 0)) 1 (f 1)) 2 (0 : Int32)) 3 (0 : Int32)) i))
theorem ef_cp2 (m : MethodId) (x0 : Addr) (x1 : Int32) : entryFrame m #[(.ref x0), (.int x1)] 3 = mkF m 0 #[.val (.ref x0), .val (.int x1), .unset] [] := by first | (simp [entryFrame, mkF, argsToLocals, Value.category]; done) | rfl
set_option maxRecDepth 65536 in
set_option maxHeartbeats 40000000 in
theorem rm_cp2 (l : Launch) (Z : State) (a0 : Array Value) (hw : ∀ d ∈ tables_1, d.before a0 Z = true) (ar : Addr) (kr : ClassId) (f : Nat → Int32) (h0 : Heap) (n0 : Nat) (Z0 : n0 ≤ h0.size) (f0 : Af Z h0 ar kr .int 2 (fun i => Value.int (f i))) :
    Met l Z (⟨"java/util/Arrays", "copyOf", "([II)[I"⟩ : MethodName) jdk_65_method_123_code 3 (Option.some (Jvm.ClassFile.FieldType.array Jvm.ClassFile.FieldType.int)) [] ({ frames := 1, cells := 1, slots := 4, locals := 18 } : Room) #[(.ref ar), (.int (4 : Int32))] h0 (Q_cp2 Z ar kr f h0 n0) := by
  refine Met.of (plainFor_of_name pn_cp2) ?_
  intro p e s m below meth c s₁ X0 hx hby hml hZ hown hnm e0 hret hlk
  refine Go.cast (ef_cp2 m ar ((4 : Int32))) ?_
  show Go _ _ _ _ s₁ (mkF m 0 #[.val (.ref ar), .val (.int (4 : Int32)), .unset] []) _ _ _
  have N0 := Fr.nil n0
  refine Go.iloadN X0 hx (hb hby d_cp2_0) rfl ?_
  refine Go.aloadN X0 hx (hb hby d_cp2_1) rfl rfl ?_
  refine Go.alen X0 hx hZ e0 f0 (hb hby d_cp2_2) ?_
  show Go _ _ _ _ s₁ (mkF m 3 #[.val (.ref ar), .val (.int (4 : Int32)), .unset] [(.int (2 : Int32)), (.int (4 : Int32))]) _ _ _
  refine Go.icmpYes X0 hx (hb hby d_cp2_3) (XT.ii_ne_t (by decide)) (pc' := 14) (by decide) (by decide) ?_
  show Go _ _ _ _ s₁ (mkF m 14 #[.val (.ref ar), .val (.int (4 : Int32)), .unset] []) _ _ _
  refine Go.iloadN X0 hx (hb hby d_cp2_14) rfl ?_
  refine Go.newarray (aty := .int) (cap := 4) X0 hx hZ (w26 hw) e0 (hb hby d_cp2_15) (by decide) (by decide) (by decide) (by decide) (by decide) ?_
  intro T8 h8 a8 k8 b8 X8 e8 E8 A8
  have g_a8 : n0 ≤ a8 := by rw [b8]; exact Z0
  have y_a8 : h0.size ≤ a8 := by rw [b8]; exact (Nat.le_refl _)
  have ne_ar_a8 : ar ≠ a8 := by rw [b8]; exact Nat.ne_of_lt f0.lt
  have Z8 : n0 ≤ h8.size := Nat.le_trans Z0 E8.1
  have B8 : h0.size ≤ h8.size := Nat.le_trans (Nat.le_refl _) E8.1
  show Go _ _ _ _ T8 (mkF m 17 #[.val (.ref ar), .val (.int (4 : Int32)), .unset] [(.ref a8)]) _ _ _
  refine Go.astoreN X8 hx (hb hby d_cp2_17) rfl (l' := #[.val (.ref ar), .val (.int (4 : Int32)), .val (.ref a8)]) rfl ?_
  refine Go.aloadN X8 hx (hb hby d_cp2_18) rfl rfl ?_
  refine Go.iconst X8 hx (hb hby d_cp2_19) ?_
  show Go _ _ _ _ T8 (mkF m 20 #[.val (.ref ar), .val (.int (4 : Int32)), .val (.ref a8)] [(.int (0 : Int32)), (.ref ar)]) _ _ _
  refine Go.aloadN X8 hx (hb hby d_cp2_20) rfl rfl ?_
  refine Go.iconst X8 hx (hb hby d_cp2_21) ?_
  show Go _ _ _ _ T8 (mkF m 22 #[.val (.ref ar), .val (.int (4 : Int32)), .val (.ref a8)] [(.int (0 : Int32)), (.ref a8), (.int (0 : Int32)), (.ref ar)]) _ _ _
  refine Go.aloadN X8 hx (hb hby d_cp2_22) rfl rfl ?_
  refine Go.alen X8 hx hZ e8 (Af.ext E8 f0) (hb hby d_cp2_23) ?_
  show Go _ _ _ _ T8 (mkF m 24 #[.val (.ref ar), .val (.int (4 : Int32)), .val (.ref a8)] [(.int (2 : Int32)), (.int (0 : Int32)), (.ref a8), (.int (0 : Int32)), (.ref ar)]) _ _ _
  refine Go.iloadN X8 hx (hb hby d_cp2_24) rfl ?_
  refine Go.callS (W := 4) (argsL := [(.int (2 : Int32)), (.int (4 : Int32))]) (rest := [(.int (0 : Int32)), (.ref a8), (.int (0 : Int32)), (.ref ar)]) X8 hx hZ hown (w38 hw) (w2 hw) (w3 hw) (w4 hw) (by decide) (rm_min l Z a0 hw ((2 : Int32)) ((4 : Int32)) h8) e8 (lenOf pd_0 rfl) (hb hby d_cp2_25) (by rw [hml]; rfl) rfl (Nat.le_of_eq rfl) (by decide) (by decide) (by decide) (by decide) ?_
  intro v9 T9 L9 X9 q9
  obtain ⟨rfl, rfl, e9⟩ := q9
  have N9 := Fr.app N0 (Fr.nil n0)
  show Go _ _ _ _ T9 (mkF m 28 #[.val (.ref ar), .val (.int (4 : Int32)), .val (.ref a8)] [(.int (2 : Int32)), (.int (0 : Int32)), (.ref a8), (.int (0 : Int32)), (.ref ar)]) _ _ _
  refine Go.acopy (W := 0) X9 hx hZ hown (w39 hw) (w42 hw) (w40 hw) (w41 hw) e9 (Af.ext E8 f0) A8 rfl (fun i hi => by have hi' : i < 2 := hi; rcases lt_2 hi' with rfl | rfl <;> first | (simp [updI, updV]; done) | rfl) (fun i hi => by have hi' : i < 4 := hi; rcases lt_4 hi' with rfl | rfl | rfl | rfl <;> first | (simp [updI, updV]; done) | rfl) (by decide) (by decide) (by decide) (by decide) (by decide) N9 g_a8 (hb hby d_cp2_28) (by rw [hml]; rfl) (Nat.le_of_eq rfl) (by decide) (by decide) ?_
  intro T10 h10 L10 X10 e10 N10 K10 A10
  have Z10 : n0 ≤ h10.size := Nat.le_trans Z8 K10.1
  have B10 : h0.size ≤ h10.size := Nat.le_trans B8 K10.1
  have A11 : Af Z h10 a8 k8 .int 4 (fun i => Value.int ((updI (updI (updI (updI (fun _ => (0 : Int32)) 0 (f 0)) 1 (f 1)) 2 (0 : Int32)) 3 (0 : Int32)) i)) := Af.congr A10 (fun i hi => by have hi' : i < 4 := hi; rcases lt_4 hi' with rfl | rfl | rfl | rfl <;> first | (simp [updI, updV]; done) | rfl)
  show Go _ _ _ _ T10 (mkF m 31 #[.val (.ref ar), .val (.int (4 : Int32)), .val (.ref a8)] []) _ _ _
  refine Go.aloadN X10 hx (hb hby d_cp2_31) rfl rfl ?_
  refine Go.retR X10 hx hlk hret rfl rfl (hb hby d_cp2_32) (by decide) (by decide) ?_
  rw [e10]
  exact ⟨a8, k8, rfl, N10, (Keep.trans (Keep.ext (Keep.refl _ _) E8) K10 (allS (Or.inr y_a8) all0)), g_a8, y_a8, A11⟩
def Q_cp4 (Z : State) (ar : Addr) (kr : ClassId) (f : Nat → Int32) (h0 : Heap) (n0 : Nat) (v : Option Value) (h : Heap) (L : List Loc) : Prop := ∃ (r : Addr) (ks : ClassId), v = some (.ref r) ∧ Fr n0 L ∧ Keep h0 h [] ∧ n0 ≤ r ∧ h0.size ≤ r ∧ Af Z h r ks .int 8 (fun i => Value.int ((updI (updI (updI (updI (updI (updI (updI (updI (fun _ => (0 : Int32)) 0 (f 0)) 1 (f 1)) 2 (f 2)) 3 (f 3)) 4 (0 : Int32)) 5 (0 : Int32)) 6 (0 : Int32)) 7 (0 : Int32)) i))
theorem ef_cp4 (m : MethodId) (x0 : Addr) (x1 : Int32) : entryFrame m #[(.ref x0), (.int x1)] 3 = mkF m 0 #[.val (.ref x0), .val (.int x1), .unset] [] := by first | (simp [entryFrame, mkF, argsToLocals, Value.category]; done) | rfl
set_option maxRecDepth 65536 in
set_option maxHeartbeats 40000000 in
theorem rm_cp4 (l : Launch) (Z : State) (a0 : Array Value) (hw : ∀ d ∈ tables_1, d.before a0 Z = true) (ar : Addr) (kr : ClassId) (f : Nat → Int32) (h0 : Heap) (n0 : Nat) (Z0 : n0 ≤ h0.size) (f0 : Af Z h0 ar kr .int 4 (fun i => Value.int (f i))) :
    Met l Z (⟨"java/util/Arrays", "copyOf", "([II)[I"⟩ : MethodName) jdk_65_method_123_code 3 (Option.some (Jvm.ClassFile.FieldType.array Jvm.ClassFile.FieldType.int)) [] ({ frames := 1, cells := 1, slots := 8, locals := 18 } : Room) #[(.ref ar), (.int (8 : Int32))] h0 (Q_cp4 Z ar kr f h0 n0) := by
  refine Met.of (plainFor_of_name pn_cp4) ?_
  intro p e s m below meth c s₁ X0 hx hby hml hZ hown hnm e0 hret hlk
  refine Go.cast (ef_cp4 m ar ((8 : Int32))) ?_
  show Go _ _ _ _ s₁ (mkF m 0 #[.val (.ref ar), .val (.int (8 : Int32)), .unset] []) _ _ _
  have N0 := Fr.nil n0
  refine Go.iloadN X0 hx (hb hby d_cp4_0) rfl ?_
  refine Go.aloadN X0 hx (hb hby d_cp4_1) rfl rfl ?_
  refine Go.alen X0 hx hZ e0 f0 (hb hby d_cp4_2) ?_
  show Go _ _ _ _ s₁ (mkF m 3 #[.val (.ref ar), .val (.int (8 : Int32)), .unset] [(.int (4 : Int32)), (.int (8 : Int32))]) _ _ _
  refine Go.icmpYes X0 hx (hb hby d_cp4_3) (XT.ii_ne_t (by decide)) (pc' := 14) (by decide) (by decide) ?_
  show Go _ _ _ _ s₁ (mkF m 14 #[.val (.ref ar), .val (.int (8 : Int32)), .unset] []) _ _ _
  refine Go.iloadN X0 hx (hb hby d_cp4_14) rfl ?_
  refine Go.newarray (aty := .int) (cap := 8) X0 hx hZ (w26 hw) e0 (hb hby d_cp4_15) (by decide) (by decide) (by decide) (by decide) (by decide) ?_
  intro T12 h12 a12 k12 b12 X12 e12 E12 A12
  have g_a12 : n0 ≤ a12 := by rw [b12]; exact Z0
  have y_a12 : h0.size ≤ a12 := by rw [b12]; exact (Nat.le_refl _)
  have ne_ar_a12 : ar ≠ a12 := by rw [b12]; exact Nat.ne_of_lt f0.lt
  have Z12 : n0 ≤ h12.size := Nat.le_trans Z0 E12.1
  have B12 : h0.size ≤ h12.size := Nat.le_trans (Nat.le_refl _) E12.1
  show Go _ _ _ _ T12 (mkF m 17 #[.val (.ref ar), .val (.int (8 : Int32)), .unset] [(.ref a12)]) _ _ _
  refine Go.astoreN X12 hx (hb hby d_cp4_17) rfl (l' := #[.val (.ref ar), .val (.int (8 : Int32)), .val (.ref a12)]) rfl ?_
  refine Go.aloadN X12 hx (hb hby d_cp4_18) rfl rfl ?_
  refine Go.iconst X12 hx (hb hby d_cp4_19) ?_
  show Go _ _ _ _ T12 (mkF m 20 #[.val (.ref ar), .val (.int (8 : Int32)), .val (.ref a12)] [(.int (0 : Int32)), (.ref ar)]) _ _ _
  refine Go.aloadN X12 hx (hb hby d_cp4_20) rfl rfl ?_
  refine Go.iconst X12 hx (hb hby d_cp4_21) ?_
  show Go _ _ _ _ T12 (mkF m 22 #[.val (.ref ar), .val (.int (8 : Int32)), .val (.ref a12)] [(.int (0 : Int32)), (.ref a12), (.int (0 : Int32)), (.ref ar)]) _ _ _
  refine Go.aloadN X12 hx (hb hby d_cp4_22) rfl rfl ?_
  refine Go.alen X12 hx hZ e12 (Af.ext E12 f0) (hb hby d_cp4_23) ?_
  show Go _ _ _ _ T12 (mkF m 24 #[.val (.ref ar), .val (.int (8 : Int32)), .val (.ref a12)] [(.int (4 : Int32)), (.int (0 : Int32)), (.ref a12), (.int (0 : Int32)), (.ref ar)]) _ _ _
  refine Go.iloadN X12 hx (hb hby d_cp4_24) rfl ?_
  refine Go.callS (W := 4) (argsL := [(.int (4 : Int32)), (.int (8 : Int32))]) (rest := [(.int (0 : Int32)), (.ref a12), (.int (0 : Int32)), (.ref ar)]) X12 hx hZ hown (w38 hw) (w2 hw) (w3 hw) (w4 hw) (by decide) (rm_min l Z a0 hw ((4 : Int32)) ((8 : Int32)) h12) e12 (lenOf pd_0 rfl) (hb hby d_cp4_25) (by rw [hml]; rfl) rfl (Nat.le_of_eq rfl) (by decide) (by decide) (by decide) (by decide) ?_
  intro v13 T13 L13 X13 q13
  obtain ⟨rfl, rfl, e13⟩ := q13
  have N13 := Fr.app N0 (Fr.nil n0)
  show Go _ _ _ _ T13 (mkF m 28 #[.val (.ref ar), .val (.int (8 : Int32)), .val (.ref a12)] [(.int (4 : Int32)), (.int (0 : Int32)), (.ref a12), (.int (0 : Int32)), (.ref ar)]) _ _ _
  refine Go.acopy (W := 0) X13 hx hZ hown (w39 hw) (w42 hw) (w40 hw) (w41 hw) e13 (Af.ext E12 f0) A12 rfl (fun i hi => by have hi' : i < 4 := hi; rcases lt_4 hi' with rfl | rfl | rfl | rfl <;> first | (simp [updI, updV]; done) | rfl) (fun i hi => by have hi' : i < 8 := hi; rcases lt_8 hi' with rfl | rfl | rfl | rfl | rfl | rfl | rfl | rfl <;> first | (simp [updI, updV]; done) | rfl) (by decide) (by decide) (by decide) (by decide) (by decide) N13 g_a12 (hb hby d_cp4_28) (by rw [hml]; rfl) (Nat.le_of_eq rfl) (by decide) (by decide) ?_
  intro T14 h14 L14 X14 e14 N14 K14 A14
  have Z14 : n0 ≤ h14.size := Nat.le_trans Z12 K14.1
  have B14 : h0.size ≤ h14.size := Nat.le_trans B12 K14.1
  have A15 : Af Z h14 a12 k12 .int 8 (fun i => Value.int ((updI (updI (updI (updI (updI (updI (updI (updI (fun _ => (0 : Int32)) 0 (f 0)) 1 (f 1)) 2 (f 2)) 3 (f 3)) 4 (0 : Int32)) 5 (0 : Int32)) 6 (0 : Int32)) 7 (0 : Int32)) i)) := Af.congr A14 (fun i hi => by have hi' : i < 8 := hi; rcases lt_8 hi' with rfl | rfl | rfl | rfl | rfl | rfl | rfl | rfl <;> first | (simp [updI, updV]; done) | rfl)
  show Go _ _ _ _ T14 (mkF m 31 #[.val (.ref ar), .val (.int (8 : Int32)), .val (.ref a12)] []) _ _ _
  refine Go.aloadN X14 hx (hb hby d_cp4_31) rfl rfl ?_
  refine Go.retR X14 hx hlk hret rfl rfl (hb hby d_cp4_32) (by decide) (by decide) ?_
  rw [e14]
  exact ⟨a12, k12, rfl, N14, (Keep.trans (Keep.ext (Keep.refl _ _) E12) K14 (allS (Or.inr y_a12) all0)), g_a12, y_a12, A15⟩
theorem fin_add00_35 (f : Nat → Int32) (x y : Int32) (M : Int → Prop) (f12 : 0 ≤ x.toInt) (f13 : x.toInt < y.toInt)  (hM' : ∀ n, M n ↔ False)  : asc (updI (updI (fun _ => (0 : Int32)) 0 x) 1 y) 2 ∧ ∀ n, ADD M x y n ↔ rm (updI (updI (fun _ => (0 : Int32)) 0 x) 1 y) 2 n := by
  (refine fin2 (u := x) (v := y) (by simp [updI]) (by simp [updI]) ⟨by omega, by omega, fun n => ?_⟩
   simp only [ADD, hM', false_or]
   first | done | (constructor <;> intro z <;> omega))
def Q_add00 (Z : State) (a : Addr) (am : Addr) (aB : Addr) (kB : ClassId) (f : Nat → Int32) (km : ClassId) (x : Int32) (y : Int32) (k : Nat) (M : Int → Prop) (h0 : Heap) (n0 : Nat) (v : Option Value) (h : Heap) (L : List Loc) : Prop := ∃ (aX : Addr), v = none ∧ Fr n0 L ∧ Keep h0 h [a, aB] ∧ Exa Z h a "com/example/collate/collate/analysis/AtomSet" ∧ AS Z h n0 a aX (k + 1) (ADD M x y)
theorem ef_add00 (m : MethodId) (x0 : Addr) (x1 : Addr) (x2 : Int32) : entryFrame m #[(.ref x0), (.ref x1), (.int x2)] 9 = mkF m 0 #[.val (.ref x0), .val (.ref x1), .val (.int x2), .unset, .unset, .unset, .unset, .unset, .unset] [] := by first | (simp [entryFrame, mkF, argsToLocals, Value.category]; done) | rfl
set_option maxRecDepth 65536 in
set_option maxHeartbeats 40000000 in
theorem rm_add00 (l : Launch) (Z : State) (a0 : Array Value) (hw : ∀ d ∈ tables_1, d.before a0 Z = true) (a : Addr) (am : Addr) (aB : Addr) (kB : ClassId) (f : Nat → Int32) (km : ClassId) (x : Int32) (y : Int32) (k : Nat) (M : Int → Prop) (h0 : Heap) (n0 : Nat) (Z0 : n0 ≤ h0.size) (f0 : Exa Z h0 a "com/example/collate/collate/analysis/AtomSet") (f1 : n0 ≤ a) (f2 : a ≠ aB) (f3 : a ≠ am) (f4 : aB ≠ am) (f5 : Fld Z h0 a "com/example/collate/collate/analysis/AtomSet" "bounds" "[I" (.ref aB)) (f6 : Fld Z h0 a "com/example/collate/collate/analysis/AtomSet" "count" "I" (.int (0 : Int32))) (f7 : Af Z h0 aB kB .int 0 (fun i => Value.int (f i))) (f8 : Af Z h0 am km .int 2 (fun i => Value.int ((updI (updI (fun _ => (0 : Int32)) 0 x) 1 y) i))) (f9 : 0 ≤ k) (f10 : asc f 0) (f11 : ∀ n, M n ↔ rm f 0 n) (f12 : 0 ≤ x.toInt) (f13 : x.toInt < y.toInt) :
    Met l Z (⟨"com/example/collate/collate/analysis/AtomSet", "add", "([II)V"⟩ : MethodName) prog_6_method_6_code 9 none [] ({ frames := 2, cells := 1, slots := 2, locals := 33 } : Room) #[(.ref a), (.ref am), (.int (2 : Int32))] h0 (Q_add00 Z a am aB kB f km x y k M h0 n0) := by
  refine Met.of (plainFor_of_name pn_add00) ?_
  intro p e s m below meth c s₁ X0 hx hby hml hZ hown hnm e0 hret hlk
  refine Go.cast (ef_add00 m a am ((2 : Int32))) ?_
  show Go _ _ _ _ s₁ (mkF m 0 #[.val (.ref a), .val (.ref am), .val (.int (2 : Int32)), .unset, .unset, .unset, .unset, .unset, .unset] []) _ _ _
  have N0 := Fr.nil n0
  have hM' := of0' f11
  refine Go.iloadN X0 hx (hb hby d_add00_0) rfl ?_
  refine Go.ifYes X0 hx (hb hby d_add00_1) (XT.i0_ne_t (by decide)) (pc' := 5) (by decide) (by decide) ?_
  show Go _ _ _ _ s₁ (mkF m 5 #[.val (.ref a), .val (.ref am), .val (.int (2 : Int32)), .unset, .unset, .unset, .unset, .unset, .unset] []) _ _ _
  refine Go.aloadN X0 hx (hb hby d_add00_5) rfl rfl ?_
  refine Go.getF X0 hx hZ hown (w31 hw) Via.refl e0 f6 (hb hby d_add00_6) ?_
  intro T16 X16 e16
  show Go _ _ _ _ T16 (mkF m 9 #[.val (.ref a), .val (.ref am), .val (.int (2 : Int32)), .unset, .unset, .unset, .unset, .unset, .unset] [(.int (0 : Int32))]) _ _ _
  refine Go.ifYes X16 hx (hb hby d_add00_9) (XT.i0_eq_t (by decide)) (pc' := 29) (by decide) (by decide) ?_
  show Go _ _ _ _ T16 (mkF m 29 #[.val (.ref a), .val (.ref am), .val (.int (2 : Int32)), .unset, .unset, .unset, .unset, .unset, .unset] []) _ _ _
  refine Go.iconst X16 hx (hb hby d_add00_29) ?_
  show Go _ _ _ _ T16 (mkF m 30 #[.val (.ref a), .val (.ref am), .val (.int (2 : Int32)), .unset, .unset, .unset, .unset, .unset, .unset] [(.int (0 : Int32))]) _ _ _
  refine Go.istoreN X16 hx (hb hby d_add00_30) (l' := #[.val (.ref a), .val (.ref am), .val (.int (2 : Int32)), .val (.int (0 : Int32)), .unset, .unset, .unset, .unset, .unset]) rfl ?_
  refine Go.aloadN X16 hx (hb hby d_add00_31) rfl rfl ?_
  refine Go.getF X16 hx hZ hown (w31 hw) Via.refl e16 f6 (hb hby d_add00_32) ?_
  intro T17 X17 e17
  show Go _ _ _ _ T17 (mkF m 35 #[.val (.ref a), .val (.ref am), .val (.int (2 : Int32)), .val (.int (0 : Int32)), .unset, .unset, .unset, .unset, .unset] [(.int (0 : Int32))]) _ _ _
  refine Go.ifYes X17 hx (hb hby d_add00_35) (XT.i0_le_t (by decide)) (pc' := 71) (by decide) (by decide) ?_
  show Go _ _ _ _ T17 (mkF m 71 #[.val (.ref a), .val (.ref am), .val (.int (2 : Int32)), .val (.int (0 : Int32)), .unset, .unset, .unset, .unset, .unset] []) _ _ _
  refine Go.aloadN X17 hx (hb hby d_add00_71) rfl rfl ?_
  refine Go.getF X17 hx hZ hown (w31 hw) Via.refl e17 f6 (hb hby d_add00_72) ?_
  intro T18 X18 e18
  show Go _ _ _ _ T18 (mkF m 75 #[.val (.ref a), .val (.ref am), .val (.int (2 : Int32)), .val (.int (0 : Int32)), .unset, .unset, .unset, .unset, .unset] [(.int (0 : Int32))]) _ _ _
  refine Go.iloadN X18 hx (hb hby d_add00_75) rfl ?_
  refine Go.iadd X18 hx (hb hby d_add00_76) ?_
  show Go _ _ _ _ T18 (mkF m 77 #[.val (.ref a), .val (.ref am), .val (.int (2 : Int32)), .val (.int (0 : Int32)), .unset, .unset, .unset, .unset, .unset] [(.int (2 : Int32))]) _ _ _
  refine Go.iloadN X18 hx (hb hby d_add00_77) rfl ?_
  refine Go.isub X18 hx (hb hby d_add00_78) ?_
  show Go _ _ _ _ T18 (mkF m 79 #[.val (.ref a), .val (.ref am), .val (.int (2 : Int32)), .val (.int (0 : Int32)), .unset, .unset, .unset, .unset, .unset] [(.int (2 : Int32))]) _ _ _
  refine Go.aloadN X18 hx (hb hby d_add00_79) rfl rfl ?_
  refine Go.getF X18 hx hZ hown (w19 hw) Via.refl e18 f5 (hb hby d_add00_80) ?_
  intro T19 X19 e19
  show Go _ _ _ _ T19 (mkF m 83 #[.val (.ref a), .val (.ref am), .val (.int (2 : Int32)), .val (.int (0 : Int32)), .unset, .unset, .unset, .unset, .unset] [(.ref aB), (.int (2 : Int32))]) _ _ _
  refine Go.alen X19 hx hZ e19 f7 (hb hby d_add00_83) ?_
  show Go _ _ _ _ T19 (mkF m 84 #[.val (.ref a), .val (.ref am), .val (.int (2 : Int32)), .val (.int (0 : Int32)), .unset, .unset, .unset, .unset, .unset] [(.int (0 : Int32)), (.int (2 : Int32))]) _ _ _
  refine Go.icmpNo X19 hx (hb hby d_add00_84) (XT.ii_le_f (by decide)) ?_
  show Go _ _ _ _ T19 (mkF m 87 #[.val (.ref a), .val (.ref am), .val (.int (2 : Int32)), .val (.int (0 : Int32)), .unset, .unset, .unset, .unset, .unset] []) _ _ _
  refine Go.aloadN X19 hx (hb hby d_add00_87) rfl rfl ?_
  refine Go.aloadN X19 hx (hb hby d_add00_88) rfl rfl ?_
  refine Go.getF X19 hx hZ hown (w19 hw) Via.refl e19 f5 (hb hby d_add00_89) ?_
  intro T20 X20 e20
  show Go _ _ _ _ T20 (mkF m 92 #[.val (.ref a), .val (.ref am), .val (.int (2 : Int32)), .val (.int (0 : Int32)), .unset, .unset, .unset, .unset, .unset] [(.ref aB), (.ref a)]) _ _ _
  refine Go.iconst X20 hx (hb hby d_add00_92) ?_
  show Go _ _ _ _ T20 (mkF m 93 #[.val (.ref a), .val (.ref am), .val (.int (2 : Int32)), .val (.int (0 : Int32)), .unset, .unset, .unset, .unset, .unset] [(.int (2 : Int32)), (.ref aB), (.ref a)]) _ _ _
  refine Go.aloadN X20 hx (hb hby d_add00_93) rfl rfl ?_
  refine Go.getF X20 hx hZ hown (w19 hw) Via.refl e20 f5 (hb hby d_add00_94) ?_
  intro T21 X21 e21
  show Go _ _ _ _ T21 (mkF m 97 #[.val (.ref a), .val (.ref am), .val (.int (2 : Int32)), .val (.int (0 : Int32)), .unset, .unset, .unset, .unset, .unset] [(.ref aB), (.int (2 : Int32)), (.ref aB), (.ref a)]) _ _ _
  refine Go.alen X21 hx hZ e21 f7 (hb hby d_add00_97) ?_
  show Go _ _ _ _ T21 (mkF m 98 #[.val (.ref a), .val (.ref am), .val (.int (2 : Int32)), .val (.int (0 : Int32)), .unset, .unset, .unset, .unset, .unset] [(.int (0 : Int32)), (.int (2 : Int32)), (.ref aB), (.ref a)]) _ _ _
  refine Go.imul X21 hx (hb hby d_add00_98) ?_
  show Go _ _ _ _ T21 (mkF m 99 #[.val (.ref a), .val (.ref am), .val (.int (2 : Int32)), .val (.int (0 : Int32)), .unset, .unset, .unset, .unset, .unset] [(.int (0 : Int32)), (.ref aB), (.ref a)]) _ _ _
  refine Go.aloadN X21 hx (hb hby d_add00_99) rfl rfl ?_
  refine Go.getF X21 hx hZ hown (w31 hw) Via.refl e21 f6 (hb hby d_add00_100) ?_
  intro T22 X22 e22
  show Go _ _ _ _ T22 (mkF m 103 #[.val (.ref a), .val (.ref am), .val (.int (2 : Int32)), .val (.int (0 : Int32)), .unset, .unset, .unset, .unset, .unset] [(.int (0 : Int32)), (.int (0 : Int32)), (.ref aB), (.ref a)]) _ _ _
  refine Go.iloadN X22 hx (hb hby d_add00_103) rfl ?_
  refine Go.iadd X22 hx (hb hby d_add00_104) ?_
  show Go _ _ _ _ T22 (mkF m 105 #[.val (.ref a), .val (.ref am), .val (.int (2 : Int32)), .val (.int (0 : Int32)), .unset, .unset, .unset, .unset, .unset] [(.int (2 : Int32)), (.int (0 : Int32)), (.ref aB), (.ref a)]) _ _ _
  refine Go.iloadN X22 hx (hb hby d_add00_105) rfl ?_
  refine Go.isub X22 hx (hb hby d_add00_106) ?_
  show Go _ _ _ _ T22 (mkF m 107 #[.val (.ref a), .val (.ref am), .val (.int (2 : Int32)), .val (.int (0 : Int32)), .unset, .unset, .unset, .unset, .unset] [(.int (2 : Int32)), (.int (0 : Int32)), (.ref aB), (.ref a)]) _ _ _
  refine Go.callS (W := 2) (argsL := [(.int (0 : Int32)), (.int (2 : Int32))]) (rest := [(.ref aB), (.ref a)]) X22 hx hZ hown (w33 hw) (w6 hw) (w3 hw) (w7 hw) (by decide) (rm_max l Z a0 hw ((0 : Int32)) ((2 : Int32)) h0) e22 (lenOf pd_0 rfl) (hb hby d_add00_107) (by rw [hml]; rfl) rfl (Nat.le_of_eq rfl) (by decide) (by decide) (by decide) (by decide) ?_
  intro v23 T23 L23 X23 q23
  obtain ⟨rfl, rfl, e23⟩ := q23
  have N23 := Fr.app N0 (Fr.nil n0)
  show Go _ _ _ _ T23 (mkF m 110 #[.val (.ref a), .val (.ref am), .val (.int (2 : Int32)), .val (.int (0 : Int32)), .unset, .unset, .unset, .unset, .unset] [(.int (2 : Int32)), (.ref aB), (.ref a)]) _ _ _
  refine Go.callS (W := 1) (argsL := [(.ref aB), (.int (2 : Int32))]) (rest := [(.ref a)]) X23 hx hZ hown (w34 hw) (w35 hw) (w36 hw) (w37 hw) (by decide) (rm_cp0 l Z a0 hw aB kB f h0 n0 Z0 f7) e23 (lenOf pd_1 rfl) (hb hby d_add00_110) (by rw [hml]; rfl) rfl (Nat.le_of_eq rfl) (by decide) (by decide) (by decide) (by decide) ?_
  intro v24 T24 L24 X24 q24
  obtain ⟨r24, ks24, rfl, M24, K24, P24_0, P24_1, P24_2⟩ := q24
  have N24 := Fr.app N23 M24
  have Z24 : n0 ≤ T24.heap.size := Nat.le_trans Z0 K24.1
  have B24 : h0.size ≤ T24.heap.size := Nat.le_trans (Nat.le_refl _) K24.1
  have ne_a_r24 : a ≠ r24 := Nat.ne_of_lt (Nat.lt_of_lt_of_le (f0).lt P24_1)
  have ne_aB_r24 : aB ≠ r24 := Nat.ne_of_lt (Nat.lt_of_lt_of_le (f7).lt P24_1)
  have ne_am_r24 : am ≠ r24 := Nat.ne_of_lt (Nat.lt_of_lt_of_le (f8).lt P24_1)
  show Go _ _ _ _ T24 (mkF m 113 #[.val (.ref a), .val (.ref am), .val (.int (2 : Int32)), .val (.int (0 : Int32)), .unset, .unset, .unset, .unset, .unset] [(.ref r24), (.ref a)]) _ _ _
  refine Go.putF X24 hx hZ hown (w19 hw) Via.refl rfl (Fld.keep f5 K24 nin0) (Exa.keep f0 K24) (Or.inl (w20 hw)) (w9 hw) (ty := (.array .int)) (by decide) rfl rfl (hb hby d_add00_113) ?_
  intro T25 h25 X25 e25 W25
  have N25 := Fr.snoc X25 N24 f1
  have Z25 : n0 ≤ h25.size := by rw [Wr.size W25]; exact Z24
  have B25 : h0.size ≤ h25.size := by rw [Wr.size W25]; exact B24
  show Go _ _ _ _ T25 (mkF m 116 #[.val (.ref a), .val (.ref am), .val (.int (2 : Int32)), .val (.int (0 : Int32)), .unset, .unset, .unset, .unset, .unset] []) _ _ _
  refine Go.aloadN X25 hx (hb hby d_add00_116) rfl rfl ?_
  refine Go.iloadN X25 hx (hb hby d_add00_117) rfl ?_
  refine Go.aloadN X25 hx (hb hby d_add00_118) rfl rfl ?_
  refine Go.getF X25 hx hZ hown (w19 hw) Via.refl e25 (Fld.same W25 (Fld.keep f5 K24 nin0)) (hb hby d_add00_119) ?_
  intro T26 X26 e26
  show Go _ _ _ _ T26 (mkF m 122 #[.val (.ref a), .val (.ref am), .val (.int (2 : Int32)), .val (.int (0 : Int32)), .unset, .unset, .unset, .unset, .unset] [(.ref r24), (.int (0 : Int32)), (.ref am)]) _ _ _
  refine Go.aloadN X26 hx (hb hby d_add00_122) rfl rfl ?_
  have F27 := (Fld.other W25 (Fld.keep f6 K24 nin0) (Or.inr (slot_ne (a0 := a0) (Or.inl (w32 hw)) (Or.inl (w20 hw)) (t := .int) (t' := (.array .int)) (by decide) (by decide) (by decide))))
  refine Go.getF X26 hx hZ hown (w31 hw) Via.refl e26 F27 (hb hby d_add00_123) ?_
  intro T28 X28 e28
  show Go _ _ _ _ T28 (mkF m 126 #[.val (.ref a), .val (.ref am), .val (.int (2 : Int32)), .val (.int (0 : Int32)), .unset, .unset, .unset, .unset, .unset] [(.int (0 : Int32)), (.ref r24), (.int (0 : Int32)), (.ref am)]) _ _ _
  refine Go.iloadN X28 hx (hb hby d_add00_126) rfl ?_
  refine Go.iloadN X28 hx (hb hby d_add00_127) rfl ?_
  refine Go.isub X28 hx (hb hby d_add00_128) ?_
  show Go _ _ _ _ T28 (mkF m 129 #[.val (.ref a), .val (.ref am), .val (.int (2 : Int32)), .val (.int (0 : Int32)), .unset, .unset, .unset, .unset, .unset] [(.int (2 : Int32)), (.int (0 : Int32)), (.ref r24), (.int (0 : Int32)), (.ref am)]) _ _ _
  have F30 := (Af.other W25 (Af.keep f8 K24 nin0) (Ne.symm f3))
  refine Go.acopy (W := 0) X28 hx hZ hown (w43 hw) (w42 hw) (w40 hw) (w41 hw) e28 F30 (Af.other W25 P24_2 (Ne.symm ne_a_r24)) rfl (fun i hi => by have hi' : i < 2 := hi; rcases lt_2 hi' with rfl | rfl <;> first | (simp [updI, updV]; done) | rfl) (fun i hi => by have hi' : i < 2 := hi; rcases lt_2 hi' with rfl | rfl <;> first | (simp [updI, updV]; done) | rfl) (by decide) (by decide) (by decide) (by decide) (by decide) N25 P24_0 (hb hby d_add00_129) (by rw [hml]; rfl) (Nat.le_of_eq rfl) (by decide) (by decide) ?_
  intro T29 h29 L29 X29 e29 N29 K29 A29
  have Z29 : n0 ≤ h29.size := Nat.le_trans Z25 K29.1
  have B29 : h0.size ≤ h29.size := Nat.le_trans B25 K29.1
  have A31 : Af Z h29 r24 ks24 .int 2 (fun i => Value.int ((updI (updI (fun _ => (0 : Int32)) 0 x) 1 y) i)) := Af.congr A29 (fun i hi => by have hi' : i < 2 := hi; rcases lt_2 hi' with rfl | rfl <;> first | (simp [updI, updV]; done) | rfl)
  show Go _ _ _ _ T29 (mkF m 132 #[.val (.ref a), .val (.ref am), .val (.int (2 : Int32)), .val (.int (0 : Int32)), .unset, .unset, .unset, .unset, .unset] []) _ _ _
  refine Go.aloadN X29 hx (hb hby d_add00_132) rfl rfl ?_
  refine Go.dup X29 hx (hb hby d_add00_133) rfl ?_
  refine Go.getF X29 hx hZ hown (w31 hw) Via.refl e29 (Fld.keep F27 K29 (ninS ne_a_r24 nin0)) (hb hby d_add00_134) ?_
  intro T32 X32 e32
  show Go _ _ _ _ T32 (mkF m 137 #[.val (.ref a), .val (.ref am), .val (.int (2 : Int32)), .val (.int (0 : Int32)), .unset, .unset, .unset, .unset, .unset] [(.int (0 : Int32)), (.ref a)]) _ _ _
  refine Go.iloadN X32 hx (hb hby d_add00_137) rfl ?_
  refine Go.iloadN X32 hx (hb hby d_add00_138) rfl ?_
  refine Go.isub X32 hx (hb hby d_add00_139) ?_
  show Go _ _ _ _ T32 (mkF m 140 #[.val (.ref a), .val (.ref am), .val (.int (2 : Int32)), .val (.int (0 : Int32)), .unset, .unset, .unset, .unset, .unset] [(.int (2 : Int32)), (.int (0 : Int32)), (.ref a)]) _ _ _
  refine Go.iadd X32 hx (hb hby d_add00_140) ?_
  show Go _ _ _ _ T32 (mkF m 141 #[.val (.ref a), .val (.ref am), .val (.int (2 : Int32)), .val (.int (0 : Int32)), .unset, .unset, .unset, .unset, .unset] [(.int (2 : Int32)), (.ref a)]) _ _ _
  have F33 := (Exa.keep (Exa.wr W25 (Exa.keep f0 K24)) K29)
  refine Go.putF X32 hx hZ hown (w31 hw) Via.refl e32 (Fld.keep F27 K29 (ninS ne_a_r24 nin0)) F33 (Or.inl (w32 hw)) (w9 hw) (ty := .int) (by decide) rfl rfl (hb hby d_add00_141) ?_
  intro T34 h34 X34 e34 W34
  have N34 := Fr.snoc X34 N29 f1
  have Z34 : n0 ≤ h34.size := by rw [Wr.size W34]; exact Z29
  have B34 : h0.size ≤ h34.size := by rw [Wr.size W34]; exact B29
  show Go _ _ _ _ T34 (mkF m 144 #[.val (.ref a), .val (.ref am), .val (.int (2 : Int32)), .val (.int (0 : Int32)), .unset, .unset, .unset, .unset, .unset] []) _ _ _
  refine Go.goto X34 hx (hb hby d_add00_144) (pc' := 320) (by decide) (by decide) ?_
  show Go _ _ _ _ T34 (mkF m 320 #[.val (.ref a), .val (.ref am), .val (.int (2 : Int32)), .val (.int (0 : Int32)), .unset, .unset, .unset, .unset, .unset] []) _ _ _
  refine Go.ret0 X34 hx hlk hret (hb hby d_add00_320) (by decide) (by decide) ?_
  rw [e34]
  have F36 := (Fld.other W34 (Fld.keep (Fld.same W25 (Fld.keep f5 K24 nin0)) K29 (ninS ne_a_r24 nin0)) (Or.inr (slot_ne (a0 := a0) (Or.inl (w20 hw)) (Or.inl (w32 hw)) (t := (.array .int)) (t' := .int) (by decide) (by decide) (by decide))))
  have F37 := (Fld.same W34 (Fld.keep F27 K29 (ninS ne_a_r24 nin0)))
  have AC35 : Af Z h34 r24 ks24 .int 2 (fun i => Value.int ((updI (updI (fun _ => (0 : Int32)) 0 x) 1 y) i)) := Af.congr (Af.other W34 A31 (Ne.symm ne_a_r24)) (fun i hi => by have hi' : i < 2 := hi; rcases lt_2 hi' with rfl | rfl <;> first | (simp [updI, updV]; done) | rfl)
  have fin35 := fin_add00_35 f x y M f12 f13  hM' 
  exact ⟨r24, rfl, N34, (Keep.wr (Keep.trans (Keep.wr (Keep.trans (Keep.refl _ _) K24 all0) W25 (Or.inl (List.mem_of_getElem? (i := 0) rfl))) K29 (allS (Or.inr (Nat.le_trans (Nat.le_refl _) P24_1)) all0)) W34 (Or.inl (List.mem_of_getElem? (i := 0) rfl))), (Exa.wr W34 F33), ⟨_, _, 2, 2, _, F36, F37, AC35, ne_a_r24, (fun _ => P24_0), (Or.inr (Or.inl ⟨(k_up f9 (by decide)), rfl, rfl, rfl⟩)), fin35.1, fin35.2⟩⟩
theorem fin_add22_67 (f : Nat → Int32) (x y : Int32) (M : Int → Prop) (f12 : 0 ≤ x.toInt) (f13 : x.toInt < y.toInt) (q0 : 0 ≤ (f 0).toInt) (q1 : (f 0).toInt < (f 1).toInt) (hM' : ∀ n, M n ↔ ((f 0).toInt ≤ n ∧ n < (f 1).toInt)) (c41 : x < (f 1)) (c47 : x < (f 0)) (c56 : y < (f 0)) : asc (updI (updI (updI (updI (fun _ => (0 : Int32)) 0 x) 1 y) 2 (f 0)) 3 (f 1)) 4 ∧ ∀ n, ADD M x y n ↔ rm (updI (updI (updI (updI (fun _ => (0 : Int32)) 0 x) 1 y) 2 (f 0)) 3 (f 1)) 4 n := by
  have t69 := c41; rw [Int32.lt_iff_toInt_lt] at t69
  have t70 := c47; rw [Int32.lt_iff_toInt_lt] at t70
  have t71 := c56; rw [Int32.lt_iff_toInt_lt] at t71
  (refine fin4 (u := x) (v := y) (w := (f 0)) (x := (f 1)) (by simp [updI]) (by simp [updI]) (by simp [updI]) (by simp [updI]) ⟨by omega, by omega, by omega, by omega, fun n => ?_⟩
   simp only [ADD, hM', false_or]
   first | done | (constructor <;> intro z <;> omega))
theorem fin_add22_80 (f : Nat → Int32) (x y : Int32) (M : Int → Prop) (f12 : 0 ≤ x.toInt) (f13 : x.toInt < y.toInt) (q0 : 0 ≤ (f 0).toInt) (q1 : (f 0).toInt < (f 1).toInt) (hM' : ∀ n, M n ↔ ((f 0).toInt ≤ n ∧ n < (f 1).toInt)) (c41 : x < (f 1)) (c47 : x < (f 0)) (c56 : ¬ (y < (f 0))) : asc (updI (updI (updI (updI (fun _ => (0 : Int32)) 0 x) 1 (F_max y (f 1))) 2 (0 : Int32)) 3 (0 : Int32)) 2 ∧ ∀ n, ADD M x y n ↔ rm (updI (updI (updI (updI (fun _ => (0 : Int32)) 0 x) 1 (F_max y (f 1))) 2 (0 : Int32)) 3 (0 : Int32)) 2 n := by
  have t82 := c41; rw [Int32.lt_iff_toInt_lt] at t82
  have t83 := c47; rw [Int32.lt_iff_toInt_lt] at t83
  have t84 := c56; rw [Int32.lt_iff_toInt_lt] at t84
  have m85 := max_spec y (f 1)
  generalize F_max y (f 1) = g0 at *
  rcases m85 with m85 | m85 <;>
  (refine fin2 (u := x) (v := g0) (by simp [updI]) (by simp [updI]) ⟨by omega, by omega, fun n => ?_⟩
   simp only [ADD, hM', false_or]
   first | done | (constructor <;> intro z <;> omega))
theorem fin_add22_105 (f : Nat → Int32) (x y : Int32) (M : Int → Prop) (f12 : 0 ≤ x.toInt) (f13 : x.toInt < y.toInt) (q0 : 0 ≤ (f 0).toInt) (q1 : (f 0).toInt < (f 1).toInt) (hM' : ∀ n, M n ↔ ((f 0).toInt ≤ n ∧ n < (f 1).toInt)) (c41 : x < (f 1)) (c47 : ¬ (x < (f 0))) (c94 : (f 1) < x) : asc (updI (updI (updI (updI (fun _ => (0 : Int32)) 0 (f 0)) 1 (f 1)) 2 x) 3 y) 4 ∧ ∀ n, ADD M x y n ↔ rm (updI (updI (updI (updI (fun _ => (0 : Int32)) 0 (f 0)) 1 (f 1)) 2 x) 3 y) 4 n := by
  have t107 := c41; rw [Int32.lt_iff_toInt_lt] at t107
  have t108 := c47; rw [Int32.lt_iff_toInt_lt] at t108
  have t109 := c94; rw [Int32.lt_iff_toInt_lt] at t109
  (refine fin4 (u := (f 0)) (v := (f 1)) (w := x) (x := y) (by simp [updI]) (by simp [updI]) (by simp [updI]) (by simp [updI]) ⟨by omega, by omega, by omega, by omega, fun n => ?_⟩
   simp only [ADD, hM', false_or]
   first | done | (constructor <;> intro z <;> omega))
theorem fin_add22_119 (f : Nat → Int32) (x y : Int32) (M : Int → Prop) (f12 : 0 ≤ x.toInt) (f13 : x.toInt < y.toInt) (q0 : 0 ≤ (f 0).toInt) (q1 : (f 0).toInt < (f 1).toInt) (hM' : ∀ n, M n ↔ ((f 0).toInt ≤ n ∧ n < (f 1).toInt)) (c41 : x < (f 1)) (c47 : ¬ (x < (f 0))) (c94 : ¬ ((f 1) < x)) : asc (updI (updI (updI (updI (fun _ => (0 : Int32)) 0 (f 0)) 1 (F_max (f 1) y)) 2 (0 : Int32)) 3 (0 : Int32)) 2 ∧ ∀ n, ADD M x y n ↔ rm (updI (updI (updI (updI (fun _ => (0 : Int32)) 0 (f 0)) 1 (F_max (f 1) y)) 2 (0 : Int32)) 3 (0 : Int32)) 2 n := by
  have t121 := c41; rw [Int32.lt_iff_toInt_lt] at t121
  have t122 := c47; rw [Int32.lt_iff_toInt_lt] at t122
  have t123 := c94; rw [Int32.lt_iff_toInt_lt] at t123
  have m124 := max_spec (f 1) y
  generalize F_max (f 1) y = g0 at *
  rcases m124 with m124 | m124 <;>
  (refine fin2 (u := (f 0)) (v := g0) (by simp [updI]) (by simp [updI]) ⟨by omega, by omega, fun n => ?_⟩
   simp only [ADD, hM', false_or]
   first | done | (constructor <;> intro z <;> omega))
theorem fin_add22_142 (f : Nat → Int32) (x y : Int32) (M : Int → Prop) (f12 : 0 ≤ x.toInt) (f13 : x.toInt < y.toInt) (q0 : 0 ≤ (f 0).toInt) (q1 : (f 0).toInt < (f 1).toInt) (hM' : ∀ n, M n ↔ ((f 0).toInt ≤ n ∧ n < (f 1).toInt)) (c41 : ¬ (x < (f 1))) (c128 : x = (f 1)) : asc (updI (updI (fun _ => (0 : Int32)) 0 (f 0)) 1 y) 2 ∧ ∀ n, ADD M x y n ↔ rm (updI (updI (fun _ => (0 : Int32)) 0 (f 0)) 1 y) 2 n := by
  have t144 := c41; rw [Int32.lt_iff_toInt_lt] at t144
  have t145 := c128; rw [← Int32.toInt_inj] at t145
  (refine fin2 (u := (f 0)) (v := y) (by simp [updI]) (by simp [updI]) ⟨by omega, by omega, fun n => ?_⟩
   simp only [ADD, hM', false_or]
   first | done | (constructor <;> intro z <;> omega))
theorem fin_add22_165 (f : Nat → Int32) (x y : Int32) (M : Int → Prop) (f12 : 0 ≤ x.toInt) (f13 : x.toInt < y.toInt) (q0 : 0 ≤ (f 0).toInt) (q1 : (f 0).toInt < (f 1).toInt) (hM' : ∀ n, M n ↔ ((f 0).toInt ≤ n ∧ n < (f 1).toInt)) (c41 : ¬ (x < (f 1))) (c128 : ¬ (x = (f 1))) : asc (updI (updI (updI (updI (fun _ => (0 : Int32)) 0 (f 0)) 1 (f 1)) 2 x) 3 y) 4 ∧ ∀ n, ADD M x y n ↔ rm (updI (updI (updI (updI (fun _ => (0 : Int32)) 0 (f 0)) 1 (f 1)) 2 x) 3 y) 4 n := by
  have t167 := c41; rw [Int32.lt_iff_toInt_lt] at t167
  have t168 := c128; rw [← Int32.toInt_inj] at t168
  (refine fin4 (u := (f 0)) (v := (f 1)) (w := x) (x := y) (by simp [updI]) (by simp [updI]) (by simp [updI]) (by simp [updI]) ⟨by omega, by omega, by omega, by omega, fun n => ?_⟩
   simp only [ADD, hM', false_or]
   first | done | (constructor <;> intro z <;> omega))
def Q_add22 (Z : State) (a : Addr) (am : Addr) (aB : Addr) (kB : ClassId) (f : Nat → Int32) (km : ClassId) (x : Int32) (y : Int32) (k : Nat) (M : Int → Prop) (h0 : Heap) (n0 : Nat) (v : Option Value) (h : Heap) (L : List Loc) : Prop := ∃ (aX : Addr), v = none ∧ Fr n0 L ∧ Keep h0 h [a, aB] ∧ Exa Z h a "com/example/collate/collate/analysis/AtomSet" ∧ AS Z h n0 a aX (k + 1) (ADD M x y)
theorem ef_add22 (m : MethodId) (x0 : Addr) (x1 : Addr) (x2 : Int32) : entryFrame m #[(.ref x0), (.ref x1), (.int x2)] 9 = mkF m 0 #[.val (.ref x0), .val (.ref x1), .val (.int x2), .unset, .unset, .unset, .unset, .unset, .unset] [] := by first | (simp [entryFrame, mkF, argsToLocals, Value.category]; done) | rfl
set_option maxRecDepth 65536 in
set_option maxHeartbeats 40000000 in
theorem rm_add22 (l : Launch) (Z : State) (a0 : Array Value) (hw : ∀ d ∈ tables_1, d.before a0 Z = true) (a : Addr) (am : Addr) (aB : Addr) (kB : ClassId) (f : Nat → Int32) (km : ClassId) (x : Int32) (y : Int32) (k : Nat) (M : Int → Prop) (h0 : Heap) (n0 : Nat) (Z0 : n0 ≤ h0.size) (f0 : Exa Z h0 a "com/example/collate/collate/analysis/AtomSet") (f1 : n0 ≤ a) (f2 : a ≠ aB) (f3 : a ≠ am) (f4 : aB ≠ am) (f5 : Fld Z h0 a "com/example/collate/collate/analysis/AtomSet" "bounds" "[I" (.ref aB)) (f6 : Fld Z h0 a "com/example/collate/collate/analysis/AtomSet" "count" "I" (.int (2 : Int32))) (f7 : Af Z h0 aB kB .int 2 (fun i => Value.int (f i))) (f8 : Af Z h0 am km .int 2 (fun i => Value.int ((updI (updI (fun _ => (0 : Int32)) 0 x) 1 y) i))) (f9 : 1 ≤ k) (f10 : asc f 2) (f11 : ∀ n, M n ↔ rm f 2 n) (f12 : 0 ≤ x.toInt) (f13 : x.toInt < y.toInt) (f14 : n0 ≤ aB) :
    Met l Z (⟨"com/example/collate/collate/analysis/AtomSet", "add", "([II)V"⟩ : MethodName) prog_6_method_6_code 9 none [] ({ frames := 2, cells := 1, slots := 4, locals := 33 } : Room) #[(.ref a), (.ref am), (.int (2 : Int32))] h0 (Q_add22 Z a am aB kB f km x y k M h0 n0) := by
  refine Met.of (plainFor_of_name pn_add22) ?_
  intro p e s m below meth c s₁ X0 hx hby hml hZ hown hnm e0 hret hlk
  refine Go.cast (ef_add22 m a am ((2 : Int32))) ?_
  show Go _ _ _ _ s₁ (mkF m 0 #[.val (.ref a), .val (.ref am), .val (.int (2 : Int32)), .unset, .unset, .unset, .unset, .unset, .unset] []) _ _ _
  have N0 := Fr.nil n0
  obtain ⟨q0, q1, hM'⟩ := of2 f10 f11
  refine Go.iloadN X0 hx (hb hby d_add22_0) rfl ?_
  refine Go.ifYes X0 hx (hb hby d_add22_1) (XT.i0_ne_t (by decide)) (pc' := 5) (by decide) (by decide) ?_
  show Go _ _ _ _ s₁ (mkF m 5 #[.val (.ref a), .val (.ref am), .val (.int (2 : Int32)), .unset, .unset, .unset, .unset, .unset, .unset] []) _ _ _
  refine Go.aloadN X0 hx (hb hby d_add22_5) rfl rfl ?_
  refine Go.getF X0 hx hZ hown (w31 hw) Via.refl e0 f6 (hb hby d_add22_6) ?_
  intro T38 X38 e38
  show Go _ _ _ _ T38 (mkF m 9 #[.val (.ref a), .val (.ref am), .val (.int (2 : Int32)), .unset, .unset, .unset, .unset, .unset, .unset] [(.int (2 : Int32))]) _ _ _
  refine Go.ifNo X38 hx (hb hby d_add22_9) (XT.i0_eq_f (by decide)) ?_
  show Go _ _ _ _ T38 (mkF m 12 #[.val (.ref a), .val (.ref am), .val (.int (2 : Int32)), .unset, .unset, .unset, .unset, .unset, .unset] []) _ _ _
  refine Go.aloadN X38 hx (hb hby d_add22_12) rfl rfl ?_
  refine Go.iconst X38 hx (hb hby d_add22_13) ?_
  show Go _ _ _ _ T38 (mkF m 14 #[.val (.ref a), .val (.ref am), .val (.int (2 : Int32)), .unset, .unset, .unset, .unset, .unset, .unset] [(.int (0 : Int32)), (.ref am)]) _ _ _
  refine Go.iaload X38 hx hZ e38 f8 (by decide) (by decide) (hb hby d_add22_14) ?_
  show Go _ _ _ _ T38 (mkF m 15 #[.val (.ref a), .val (.ref am), .val (.int (2 : Int32)), .unset, .unset, .unset, .unset, .unset, .unset] [(.int x)]) _ _ _
  refine Go.aloadN X38 hx (hb hby d_add22_15) rfl rfl ?_
  refine Go.getF X38 hx hZ hown (w19 hw) Via.refl e38 f5 (hb hby d_add22_16) ?_
  intro T39 X39 e39
  show Go _ _ _ _ T39 (mkF m 19 #[.val (.ref a), .val (.ref am), .val (.int (2 : Int32)), .unset, .unset, .unset, .unset, .unset, .unset] [(.ref aB), (.int x)]) _ _ _
  refine Go.aloadN X39 hx (hb hby d_add22_19) rfl rfl ?_
  refine Go.getF X39 hx hZ hown (w31 hw) Via.refl e39 f6 (hb hby d_add22_20) ?_
  intro T40 X40 e40
  show Go _ _ _ _ T40 (mkF m 23 #[.val (.ref a), .val (.ref am), .val (.int (2 : Int32)), .unset, .unset, .unset, .unset, .unset, .unset] [(.int (2 : Int32)), (.ref aB), (.int x)]) _ _ _
  refine Go.iconst X40 hx (hb hby d_add22_23) ?_
  show Go _ _ _ _ T40 (mkF m 24 #[.val (.ref a), .val (.ref am), .val (.int (2 : Int32)), .unset, .unset, .unset, .unset, .unset, .unset] [(.int (1 : Int32)), (.int (2 : Int32)), (.ref aB), (.int x)]) _ _ _
  refine Go.isub X40 hx (hb hby d_add22_24) ?_
  show Go _ _ _ _ T40 (mkF m 25 #[.val (.ref a), .val (.ref am), .val (.int (2 : Int32)), .unset, .unset, .unset, .unset, .unset, .unset] [(.int (1 : Int32)), (.ref aB), (.int x)]) _ _ _
  refine Go.iaload X40 hx hZ e40 f7 (by decide) (by decide) (hb hby d_add22_25) ?_
  show Go _ _ _ _ T40 (mkF m 26 #[.val (.ref a), .val (.ref am), .val (.int (2 : Int32)), .unset, .unset, .unset, .unset, .unset, .unset] [(.int (f 1)), (.int x)]) _ _ _
  rcases Decidable.em (x < (f 1)) with c41 | c41
  · refine Go.icmpYes X40 hx (hb hby d_add22_26) (XT.ii_lt_t c41) (pc' := 147) (by decide) (by decide) ?_
    show Go _ _ _ _ T40 (mkF m 147 #[.val (.ref a), .val (.ref am), .val (.int (2 : Int32)), .unset, .unset, .unset, .unset, .unset, .unset] []) _ _ _
    as_aux_lemma =>
      refine Go.aloadN X40 hx (hb hby d_add22_147) rfl rfl ?_
      refine Go.getF X40 hx hZ hown (w31 hw) Via.refl e40 f6 (hb hby d_add22_148) ?_
      intro T42 X42 e42
      show Go _ _ _ _ T42 (mkF m 151 #[.val (.ref a), .val (.ref am), .val (.int (2 : Int32)), .unset, .unset, .unset, .unset, .unset, .unset] [(.int (2 : Int32))]) _ _ _
      refine Go.iloadN X42 hx (hb hby d_add22_151) rfl ?_
      refine Go.iadd X42 hx (hb hby d_add22_152) ?_
      show Go _ _ _ _ T42 (mkF m 153 #[.val (.ref a), .val (.ref am), .val (.int (2 : Int32)), .unset, .unset, .unset, .unset, .unset, .unset] [(.int (4 : Int32))]) _ _ _
      refine Go.newarray (aty := .int) (cap := 4) X42 hx hZ (w26 hw) e42 (hb hby d_add22_153) (by decide) (by decide) (by decide) (by decide) (by decide) ?_
      intro T43 h43 a43 k43 b43 X43 e43 E43 A43
      have g_a43 : n0 ≤ a43 := by rw [b43]; exact Z0
      have y_a43 : h0.size ≤ a43 := by rw [b43]; exact (Nat.le_refl _)
      have ne_a_a43 : a ≠ a43 := by rw [b43]; exact Nat.ne_of_lt f0.lt
      have ne_aB_a43 : aB ≠ a43 := by rw [b43]; exact Nat.ne_of_lt f7.lt
      have ne_am_a43 : am ≠ a43 := by rw [b43]; exact Nat.ne_of_lt f8.lt
      have Z43 : n0 ≤ h43.size := Nat.le_trans Z0 E43.1
      have B43 : h0.size ≤ h43.size := Nat.le_trans (Nat.le_refl _) E43.1
      show Go _ _ _ _ T43 (mkF m 155 #[.val (.ref a), .val (.ref am), .val (.int (2 : Int32)), .unset, .unset, .unset, .unset, .unset, .unset] [(.ref a43)]) _ _ _
      refine Go.astoreN X43 hx (hb hby d_add22_155) rfl (l' := #[.val (.ref a), .val (.ref am), .val (.int (2 : Int32)), .val (.ref a43), .unset, .unset, .unset, .unset, .unset]) rfl ?_
      refine Go.iconst X43 hx (hb hby d_add22_156) ?_
      show Go _ _ _ _ T43 (mkF m 157 #[.val (.ref a), .val (.ref am), .val (.int (2 : Int32)), .val (.ref a43), .unset, .unset, .unset, .unset, .unset] [(.int (0 : Int32))]) _ _ _
      refine Go.istore X43 hx (hb hby d_add22_157) (l' := #[.val (.ref a), .val (.ref am), .val (.int (2 : Int32)), .val (.ref a43), .val (.int (0 : Int32)), .unset, .unset, .unset, .unset]) rfl ?_
      refine Go.iconst X43 hx (hb hby d_add22_159) ?_
      show Go _ _ _ _ T43 (mkF m 160 #[.val (.ref a), .val (.ref am), .val (.int (2 : Int32)), .val (.ref a43), .val (.int (0 : Int32)), .unset, .unset, .unset, .unset] [(.int (0 : Int32))]) _ _ _
      refine Go.istore X43 hx (hb hby d_add22_160) (l' := #[.val (.ref a), .val (.ref am), .val (.int (2 : Int32)), .val (.ref a43), .val (.int (0 : Int32)), .val (.int (0 : Int32)), .unset, .unset, .unset]) rfl ?_
      refine Go.iconst X43 hx (hb hby d_add22_162) ?_
      show Go _ _ _ _ T43 (mkF m 163 #[.val (.ref a), .val (.ref am), .val (.int (2 : Int32)), .val (.ref a43), .val (.int (0 : Int32)), .val (.int (0 : Int32)), .unset, .unset, .unset] [(.int (0 : Int32))]) _ _ _
      refine Go.istore X43 hx (hb hby d_add22_163) (l' := #[.val (.ref a), .val (.ref am), .val (.int (2 : Int32)), .val (.ref a43), .val (.int (0 : Int32)), .val (.int (0 : Int32)), .val (.int (0 : Int32)), .unset, .unset]) rfl ?_
      refine Go.iload X43 hx (hb hby d_add22_165) rfl ?_
      refine Go.aloadN X43 hx (hb hby d_add22_167) rfl rfl ?_
      refine Go.getF X43 hx hZ hown (w31 hw) Via.refl e43 (Fld.ext E43 f6) (hb hby d_add22_168) ?_
      intro T44 X44 e44
      show Go _ _ _ _ T44 (mkF m 171 #[.val (.ref a), .val (.ref am), .val (.int (2 : Int32)), .val (.ref a43), .val (.int (0 : Int32)), .val (.int (0 : Int32)), .val (.int (0 : Int32)), .unset, .unset] [(.int (2 : Int32)), (.int (0 : Int32))]) _ _ _
      refine Go.icmpYes X44 hx (hb hby d_add22_171) (XT.ii_lt_t (by decide)) (pc' := 180) (by decide) (by decide) ?_
      show Go _ _ _ _ T44 (mkF m 180 #[.val (.ref a), .val (.ref am), .val (.int (2 : Int32)), .val (.ref a43), .val (.int (0 : Int32)), .val (.int (0 : Int32)), .val (.int (0 : Int32)), .unset, .unset] []) _ _ _
      refine Go.iload X44 hx (hb hby d_add22_180) rfl ?_
      refine Go.iloadN X44 hx (hb hby d_add22_182) rfl ?_
      refine Go.icmpNo X44 hx (hb hby d_add22_183) (XT.ii_eq_f (by decide)) ?_
      show Go _ _ _ _ T44 (mkF m 186 #[.val (.ref a), .val (.ref am), .val (.int (2 : Int32)), .val (.ref a43), .val (.int (0 : Int32)), .val (.int (0 : Int32)), .val (.int (0 : Int32)), .unset, .unset] []) _ _ _
      refine Go.iload X44 hx (hb hby d_add22_186) rfl ?_
      refine Go.aloadN X44 hx (hb hby d_add22_188) rfl rfl ?_
      refine Go.getF X44 hx hZ hown (w31 hw) Via.refl e44 (Fld.ext E43 f6) (hb hby d_add22_189) ?_
      intro T45 X45 e45
      show Go _ _ _ _ T45 (mkF m 192 #[.val (.ref a), .val (.ref am), .val (.int (2 : Int32)), .val (.ref a43), .val (.int (0 : Int32)), .val (.int (0 : Int32)), .val (.int (0 : Int32)), .unset, .unset] [(.int (2 : Int32)), (.int (0 : Int32))]) _ _ _
      refine Go.icmpNo X45 hx (hb hby d_add22_192) (XT.ii_ge_f (by decide)) ?_
      show Go _ _ _ _ T45 (mkF m 195 #[.val (.ref a), .val (.ref am), .val (.int (2 : Int32)), .val (.ref a43), .val (.int (0 : Int32)), .val (.int (0 : Int32)), .val (.int (0 : Int32)), .unset, .unset] []) _ _ _
      refine Go.aloadN X45 hx (hb hby d_add22_195) rfl rfl ?_
      refine Go.getF X45 hx hZ hown (w19 hw) Via.refl e45 (Fld.ext E43 f5) (hb hby d_add22_196) ?_
      intro T46 X46 e46
      show Go _ _ _ _ T46 (mkF m 199 #[.val (.ref a), .val (.ref am), .val (.int (2 : Int32)), .val (.ref a43), .val (.int (0 : Int32)), .val (.int (0 : Int32)), .val (.int (0 : Int32)), .unset, .unset] [(.ref aB)]) _ _ _
      refine Go.iload X46 hx (hb hby d_add22_199) rfl ?_
      refine Go.iaload X46 hx hZ e46 (Af.ext E43 f7) (by decide) (by decide) (hb hby d_add22_201) ?_
      show Go _ _ _ _ T46 (mkF m 202 #[.val (.ref a), .val (.ref am), .val (.int (2 : Int32)), .val (.ref a43), .val (.int (0 : Int32)), .val (.int (0 : Int32)), .val (.int (0 : Int32)), .unset, .unset] [(.int (f 0))]) _ _ _
      refine Go.aloadN X46 hx (hb hby d_add22_202) rfl rfl ?_
      refine Go.iload X46 hx (hb hby d_add22_203) rfl ?_
      refine Go.iaload X46 hx hZ e46 (Af.ext E43 f8) (by decide) (by decide) (hb hby d_add22_205) ?_
      show Go _ _ _ _ T46 (mkF m 206 #[.val (.ref a), .val (.ref am), .val (.int (2 : Int32)), .val (.ref a43), .val (.int (0 : Int32)), .val (.int (0 : Int32)), .val (.int (0 : Int32)), .unset, .unset] [(.int x), (.int (f 0))]) _ _ _
      rcases Decidable.em (x < (f 0)) with c47 | c47
      · refine Go.icmpYes X46 hx (hb hby d_add22_206) (XT.ii_gt_t c47) (pc' := 235) (by decide) (by decide) ?_
        show Go _ _ _ _ T46 (mkF m 235 #[.val (.ref a), .val (.ref am), .val (.int (2 : Int32)), .val (.ref a43), .val (.int (0 : Int32)), .val (.int (0 : Int32)), .val (.int (0 : Int32)), .unset, .unset] []) _ _ _
        as_aux_lemma =>
          refine Go.aloadN X46 hx (hb hby d_add22_235) rfl rfl ?_
          refine Go.iload X46 hx (hb hby d_add22_236) rfl ?_
          refine Go.iaload X46 hx hZ e46 (Af.ext E43 f8) (by decide) (by decide) (hb hby d_add22_238) ?_
          show Go _ _ _ _ T46 (mkF m 239 #[.val (.ref a), .val (.ref am), .val (.int (2 : Int32)), .val (.ref a43), .val (.int (0 : Int32)), .val (.int (0 : Int32)), .val (.int (0 : Int32)), .unset, .unset] [(.int x)]) _ _ _
          refine Go.istore X46 hx (hb hby d_add22_239) (l' := #[.val (.ref a), .val (.ref am), .val (.int (2 : Int32)), .val (.ref a43), .val (.int (0 : Int32)), .val (.int (0 : Int32)), .val (.int (0 : Int32)), .val (.int x), .unset]) rfl ?_
          refine Go.aloadN X46 hx (hb hby d_add22_241) rfl rfl ?_
          refine Go.iload X46 hx (hb hby d_add22_242) rfl ?_
          refine Go.iconst X46 hx (hb hby d_add22_244) ?_
          show Go _ _ _ _ T46 (mkF m 245 #[.val (.ref a), .val (.ref am), .val (.int (2 : Int32)), .val (.ref a43), .val (.int (0 : Int32)), .val (.int (0 : Int32)), .val (.int (0 : Int32)), .val (.int x), .unset] [(.int (1 : Int32)), (.int (0 : Int32)), (.ref am)]) _ _ _
          refine Go.iadd X46 hx (hb hby d_add22_245) ?_
          show Go _ _ _ _ T46 (mkF m 246 #[.val (.ref a), .val (.ref am), .val (.int (2 : Int32)), .val (.ref a43), .val (.int (0 : Int32)), .val (.int (0 : Int32)), .val (.int (0 : Int32)), .val (.int x), .unset] [(.int (1 : Int32)), (.ref am)]) _ _ _
          refine Go.iaload X46 hx hZ e46 (Af.ext E43 f8) (by decide) (by decide) (hb hby d_add22_246) ?_
          show Go _ _ _ _ T46 (mkF m 247 #[.val (.ref a), .val (.ref am), .val (.int (2 : Int32)), .val (.ref a43), .val (.int (0 : Int32)), .val (.int (0 : Int32)), .val (.int (0 : Int32)), .val (.int x), .unset] [(.int y)]) _ _ _
          refine Go.istore X46 hx (hb hby d_add22_247) (l' := #[.val (.ref a), .val (.ref am), .val (.int (2 : Int32)), .val (.ref a43), .val (.int (0 : Int32)), .val (.int (0 : Int32)), .val (.int (0 : Int32)), .val (.int x), .val (.int y)]) rfl ?_
          refine Go.iinc X46 hx (hb hby d_add22_249) rfl (l' := #[.val (.ref a), .val (.ref am), .val (.int (2 : Int32)), .val (.ref a43), .val (.int (0 : Int32)), .val (.int (0 : Int32)), .val (.int (2 : Int32)), .val (.int x), .val (.int y)]) rfl ?_
          show Go _ _ _ _ T46 (mkF m 252 #[.val (.ref a), .val (.ref am), .val (.int (2 : Int32)), .val (.ref a43), .val (.int (0 : Int32)), .val (.int (0 : Int32)), .val (.int (2 : Int32)), .val (.int x), .val (.int y)] []) _ _ _
          refine Go.iload X46 hx (hb hby d_add22_252) rfl ?_
          refine Go.ifYes X46 hx (hb hby d_add22_254) (XT.i0_le_t (by decide)) (pc' := 288) (by decide) (by decide) ?_
          show Go _ _ _ _ T46 (mkF m 288 #[.val (.ref a), .val (.ref am), .val (.int (2 : Int32)), .val (.ref a43), .val (.int (0 : Int32)), .val (.int (0 : Int32)), .val (.int (2 : Int32)), .val (.int x), .val (.int y)] []) _ _ _
          refine Go.aloadN X46 hx (hb hby d_add22_288) rfl rfl ?_
          refine Go.iload X46 hx (hb hby d_add22_289) rfl ?_
          refine Go.iinc X46 hx (hb hby d_add22_291) rfl (l' := #[.val (.ref a), .val (.ref am), .val (.int (2 : Int32)), .val (.ref a43), .val (.int (1 : Int32)), .val (.int (0 : Int32)), .val (.int (2 : Int32)), .val (.int x), .val (.int y)]) rfl ?_
          show Go _ _ _ _ T46 (mkF m 294 #[.val (.ref a), .val (.ref am), .val (.int (2 : Int32)), .val (.ref a43), .val (.int (1 : Int32)), .val (.int (0 : Int32)), .val (.int (2 : Int32)), .val (.int x), .val (.int y)] [(.int (0 : Int32)), (.ref a43)]) _ _ _
          refine Go.iload X46 hx (hb hby d_add22_294) rfl ?_
          refine Go.iastore X46 hx hZ e46 A43 (by decide) (by decide) (hb hby d_add22_296) ?_
          intro T48 h48 X48 e48 W48 A48
          have N48 := Fr.snoc X48 N0 g_a43
          have Z48 : n0 ≤ h48.size := by rw [Wr.size W48]; exact Z43
          have B48 : h0.size ≤ h48.size := by rw [Wr.size W48]; exact B43
          show Go _ _ _ _ T48 (mkF m 297 #[.val (.ref a), .val (.ref am), .val (.int (2 : Int32)), .val (.ref a43), .val (.int (1 : Int32)), .val (.int (0 : Int32)), .val (.int (2 : Int32)), .val (.int x), .val (.int y)] []) _ _ _
          refine Go.aloadN X48 hx (hb hby d_add22_297) rfl rfl ?_
          refine Go.iload X48 hx (hb hby d_add22_298) rfl ?_
          refine Go.iinc X48 hx (hb hby d_add22_300) rfl (l' := #[.val (.ref a), .val (.ref am), .val (.int (2 : Int32)), .val (.ref a43), .val (.int (2 : Int32)), .val (.int (0 : Int32)), .val (.int (2 : Int32)), .val (.int x), .val (.int y)]) rfl ?_
          show Go _ _ _ _ T48 (mkF m 303 #[.val (.ref a), .val (.ref am), .val (.int (2 : Int32)), .val (.ref a43), .val (.int (2 : Int32)), .val (.int (0 : Int32)), .val (.int (2 : Int32)), .val (.int x), .val (.int y)] [(.int (1 : Int32)), (.ref a43)]) _ _ _
          refine Go.iload X48 hx (hb hby d_add22_303) rfl ?_
          refine Go.iastore X48 hx hZ e48 A48 (by decide) (by decide) (hb hby d_add22_305) ?_
          intro T49 h49 X49 e49 W49 A49
          have N49 := Fr.snoc X49 N48 g_a43
          have Z49 : n0 ≤ h49.size := by rw [Wr.size W49]; exact Z48
          have B49 : h0.size ≤ h49.size := by rw [Wr.size W49]; exact B48
          show Go _ _ _ _ T49 (mkF m 306 #[.val (.ref a), .val (.ref am), .val (.int (2 : Int32)), .val (.ref a43), .val (.int (2 : Int32)), .val (.int (0 : Int32)), .val (.int (2 : Int32)), .val (.int x), .val (.int y)] []) _ _ _
          refine Go.goto X49 hx (hb hby d_add22_306) (pc' := 165) (by decide) (by decide) ?_
          show Go _ _ _ _ T49 (mkF m 165 #[.val (.ref a), .val (.ref am), .val (.int (2 : Int32)), .val (.ref a43), .val (.int (2 : Int32)), .val (.int (0 : Int32)), .val (.int (2 : Int32)), .val (.int x), .val (.int y)] []) _ _ _
          refine Go.iload X49 hx (hb hby d_add22_165) rfl ?_
          refine Go.aloadN X49 hx (hb hby d_add22_167) rfl rfl ?_
          have F50 := (Fld.other W49 (Fld.other W48 (Fld.ext E43 f6) (Or.inl ne_a_a43)) (Or.inl ne_a_a43))
          refine Go.getF X49 hx hZ hown (w31 hw) Via.refl e49 F50 (hb hby d_add22_168) ?_
          intro T51 X51 e51
          show Go _ _ _ _ T51 (mkF m 171 #[.val (.ref a), .val (.ref am), .val (.int (2 : Int32)), .val (.ref a43), .val (.int (2 : Int32)), .val (.int (0 : Int32)), .val (.int (2 : Int32)), .val (.int x), .val (.int y)] [(.int (2 : Int32)), (.int (0 : Int32))]) _ _ _
          refine Go.icmpYes X51 hx (hb hby d_add22_171) (XT.ii_lt_t (by decide)) (pc' := 180) (by decide) (by decide) ?_
          show Go _ _ _ _ T51 (mkF m 180 #[.val (.ref a), .val (.ref am), .val (.int (2 : Int32)), .val (.ref a43), .val (.int (2 : Int32)), .val (.int (0 : Int32)), .val (.int (2 : Int32)), .val (.int x), .val (.int y)] []) _ _ _
          refine Go.iload X51 hx (hb hby d_add22_180) rfl ?_
          refine Go.iloadN X51 hx (hb hby d_add22_182) rfl ?_
          refine Go.icmpYes X51 hx (hb hby d_add22_183) (XT.ii_eq_t (by decide)) (pc' := 209) (by decide) (by decide) ?_
          show Go _ _ _ _ T51 (mkF m 209 #[.val (.ref a), .val (.ref am), .val (.int (2 : Int32)), .val (.ref a43), .val (.int (2 : Int32)), .val (.int (0 : Int32)), .val (.int (2 : Int32)), .val (.int x), .val (.int y)] []) _ _ _
          refine Go.aloadN X51 hx (hb hby d_add22_209) rfl rfl ?_
          have F52 := (Fld.other W49 (Fld.other W48 (Fld.ext E43 f5) (Or.inl ne_a_a43)) (Or.inl ne_a_a43))
          refine Go.getF X51 hx hZ hown (w19 hw) Via.refl e51 F52 (hb hby d_add22_210) ?_
          intro T53 X53 e53
          show Go _ _ _ _ T53 (mkF m 213 #[.val (.ref a), .val (.ref am), .val (.int (2 : Int32)), .val (.ref a43), .val (.int (2 : Int32)), .val (.int (0 : Int32)), .val (.int (2 : Int32)), .val (.int x), .val (.int y)] [(.ref aB)]) _ _ _
          refine Go.iload X53 hx (hb hby d_add22_213) rfl ?_
          have F54 := (Af.other W49 (Af.other W48 (Af.ext E43 f7) ne_aB_a43) ne_aB_a43)
          refine Go.iaload X53 hx hZ e53 F54 (by decide) (by decide) (hb hby d_add22_215) ?_
          show Go _ _ _ _ T53 (mkF m 216 #[.val (.ref a), .val (.ref am), .val (.int (2 : Int32)), .val (.ref a43), .val (.int (2 : Int32)), .val (.int (0 : Int32)), .val (.int (2 : Int32)), .val (.int x), .val (.int y)] [(.int (f 0))]) _ _ _
          refine Go.istore X53 hx (hb hby d_add22_216) (l' := #[.val (.ref a), .val (.ref am), .val (.int (2 : Int32)), .val (.ref a43), .val (.int (2 : Int32)), .val (.int (0 : Int32)), .val (.int (2 : Int32)), .val (.int (f 0)), .val (.int y)]) rfl ?_
          refine Go.aloadN X53 hx (hb hby d_add22_218) rfl rfl ?_
          refine Go.getF X53 hx hZ hown (w19 hw) Via.refl e53 F52 (hb hby d_add22_219) ?_
          intro T55 X55 e55
          show Go _ _ _ _ T55 (mkF m 222 #[.val (.ref a), .val (.ref am), .val (.int (2 : Int32)), .val (.ref a43), .val (.int (2 : Int32)), .val (.int (0 : Int32)), .val (.int (2 : Int32)), .val (.int (f 0)), .val (.int y)] [(.ref aB)]) _ _ _
          refine Go.iload X55 hx (hb hby d_add22_222) rfl ?_
          refine Go.iconst X55 hx (hb hby d_add22_224) ?_
          show Go _ _ _ _ T55 (mkF m 225 #[.val (.ref a), .val (.ref am), .val (.int (2 : Int32)), .val (.ref a43), .val (.int (2 : Int32)), .val (.int (0 : Int32)), .val (.int (2 : Int32)), .val (.int (f 0)), .val (.int y)] [(.int (1 : Int32)), (.int (0 : Int32)), (.ref aB)]) _ _ _
          refine Go.iadd X55 hx (hb hby d_add22_225) ?_
          show Go _ _ _ _ T55 (mkF m 226 #[.val (.ref a), .val (.ref am), .val (.int (2 : Int32)), .val (.ref a43), .val (.int (2 : Int32)), .val (.int (0 : Int32)), .val (.int (2 : Int32)), .val (.int (f 0)), .val (.int y)] [(.int (1 : Int32)), (.ref aB)]) _ _ _
          refine Go.iaload X55 hx hZ e55 F54 (by decide) (by decide) (hb hby d_add22_226) ?_
          show Go _ _ _ _ T55 (mkF m 227 #[.val (.ref a), .val (.ref am), .val (.int (2 : Int32)), .val (.ref a43), .val (.int (2 : Int32)), .val (.int (0 : Int32)), .val (.int (2 : Int32)), .val (.int (f 0)), .val (.int y)] [(.int (f 1))]) _ _ _
          refine Go.istore X55 hx (hb hby d_add22_227) (l' := #[.val (.ref a), .val (.ref am), .val (.int (2 : Int32)), .val (.ref a43), .val (.int (2 : Int32)), .val (.int (0 : Int32)), .val (.int (2 : Int32)), .val (.int (f 0)), .val (.int (f 1))]) rfl ?_
          refine Go.iinc X55 hx (hb hby d_add22_229) rfl (l' := #[.val (.ref a), .val (.ref am), .val (.int (2 : Int32)), .val (.ref a43), .val (.int (2 : Int32)), .val (.int (2 : Int32)), .val (.int (2 : Int32)), .val (.int (f 0)), .val (.int (f 1))]) rfl ?_
          show Go _ _ _ _ T55 (mkF m 232 #[.val (.ref a), .val (.ref am), .val (.int (2 : Int32)), .val (.ref a43), .val (.int (2 : Int32)), .val (.int (2 : Int32)), .val (.int (2 : Int32)), .val (.int (f 0)), .val (.int (f 1))] []) _ _ _
          refine Go.goto X55 hx (hb hby d_add22_232) (pc' := 252) (by decide) (by decide) ?_
          show Go _ _ _ _ T55 (mkF m 252 #[.val (.ref a), .val (.ref am), .val (.int (2 : Int32)), .val (.ref a43), .val (.int (2 : Int32)), .val (.int (2 : Int32)), .val (.int (2 : Int32)), .val (.int (f 0)), .val (.int (f 1))] []) _ _ _
          refine Go.iload X55 hx (hb hby d_add22_252) rfl ?_
          refine Go.ifNo X55 hx (hb hby d_add22_254) (XT.i0_le_f (by decide)) ?_
          show Go _ _ _ _ T55 (mkF m 257 #[.val (.ref a), .val (.ref am), .val (.int (2 : Int32)), .val (.ref a43), .val (.int (2 : Int32)), .val (.int (2 : Int32)), .val (.int (2 : Int32)), .val (.int (f 0)), .val (.int (f 1))] []) _ _ _
          refine Go.iload X55 hx (hb hby d_add22_257) rfl ?_
          refine Go.aloadN X55 hx (hb hby d_add22_259) rfl rfl ?_
          refine Go.iload X55 hx (hb hby d_add22_260) rfl ?_
          refine Go.iconst X55 hx (hb hby d_add22_262) ?_
          show Go _ _ _ _ T55 (mkF m 263 #[.val (.ref a), .val (.ref am), .val (.int (2 : Int32)), .val (.ref a43), .val (.int (2 : Int32)), .val (.int (2 : Int32)), .val (.int (2 : Int32)), .val (.int (f 0)), .val (.int (f 1))] [(.int (1 : Int32)), (.int (2 : Int32)), (.ref a43), (.int (f 0))]) _ _ _
          refine Go.isub X55 hx (hb hby d_add22_263) ?_
          show Go _ _ _ _ T55 (mkF m 264 #[.val (.ref a), .val (.ref am), .val (.int (2 : Int32)), .val (.ref a43), .val (.int (2 : Int32)), .val (.int (2 : Int32)), .val (.int (2 : Int32)), .val (.int (f 0)), .val (.int (f 1))] [(.int (1 : Int32)), (.ref a43), (.int (f 0))]) _ _ _
          refine Go.iaload X55 hx hZ e55 A49 (by decide) (by decide) (hb hby d_add22_264) ?_
          show Go _ _ _ _ T55 (mkF m 265 #[.val (.ref a), .val (.ref am), .val (.int (2 : Int32)), .val (.ref a43), .val (.int (2 : Int32)), .val (.int (2 : Int32)), .val (.int (2 : Int32)), .val (.int (f 0)), .val (.int (f 1))] [(.int y), (.int (f 0))]) _ _ _
          rcases Decidable.em (y < (f 0)) with c56 | c56
          · refine Go.icmpYes X55 hx (hb hby d_add22_265) (XT.ii_gt_t c56) (pc' := 288) (by decide) (by decide) ?_
            show Go _ _ _ _ T55 (mkF m 288 #[.val (.ref a), .val (.ref am), .val (.int (2 : Int32)), .val (.ref a43), .val (.int (2 : Int32)), .val (.int (2 : Int32)), .val (.int (2 : Int32)), .val (.int (f 0)), .val (.int (f 1))] []) _ _ _
            as_aux_lemma =>
              refine Go.aloadN X55 hx (hb hby d_add22_288) rfl rfl ?_
              refine Go.iload X55 hx (hb hby d_add22_289) rfl ?_
              refine Go.iinc X55 hx (hb hby d_add22_291) rfl (l' := #[.val (.ref a), .val (.ref am), .val (.int (2 : Int32)), .val (.ref a43), .val (.int (3 : Int32)), .val (.int (2 : Int32)), .val (.int (2 : Int32)), .val (.int (f 0)), .val (.int (f 1))]) rfl ?_
              show Go _ _ _ _ T55 (mkF m 294 #[.val (.ref a), .val (.ref am), .val (.int (2 : Int32)), .val (.ref a43), .val (.int (3 : Int32)), .val (.int (2 : Int32)), .val (.int (2 : Int32)), .val (.int (f 0)), .val (.int (f 1))] [(.int (2 : Int32)), (.ref a43)]) _ _ _
              refine Go.iload X55 hx (hb hby d_add22_294) rfl ?_
              refine Go.iastore X55 hx hZ e55 A49 (by decide) (by decide) (hb hby d_add22_296) ?_
              intro T57 h57 X57 e57 W57 A57
              have N57 := Fr.snoc X57 N49 g_a43
              have Z57 : n0 ≤ h57.size := by rw [Wr.size W57]; exact Z49
              have B57 : h0.size ≤ h57.size := by rw [Wr.size W57]; exact B49
              show Go _ _ _ _ T57 (mkF m 297 #[.val (.ref a), .val (.ref am), .val (.int (2 : Int32)), .val (.ref a43), .val (.int (3 : Int32)), .val (.int (2 : Int32)), .val (.int (2 : Int32)), .val (.int (f 0)), .val (.int (f 1))] []) _ _ _
              refine Go.aloadN X57 hx (hb hby d_add22_297) rfl rfl ?_
              refine Go.iload X57 hx (hb hby d_add22_298) rfl ?_
              refine Go.iinc X57 hx (hb hby d_add22_300) rfl (l' := #[.val (.ref a), .val (.ref am), .val (.int (2 : Int32)), .val (.ref a43), .val (.int (4 : Int32)), .val (.int (2 : Int32)), .val (.int (2 : Int32)), .val (.int (f 0)), .val (.int (f 1))]) rfl ?_
              show Go _ _ _ _ T57 (mkF m 303 #[.val (.ref a), .val (.ref am), .val (.int (2 : Int32)), .val (.ref a43), .val (.int (4 : Int32)), .val (.int (2 : Int32)), .val (.int (2 : Int32)), .val (.int (f 0)), .val (.int (f 1))] [(.int (3 : Int32)), (.ref a43)]) _ _ _
              refine Go.iload X57 hx (hb hby d_add22_303) rfl ?_
              refine Go.iastore X57 hx hZ e57 A57 (by decide) (by decide) (hb hby d_add22_305) ?_
              intro T58 h58 X58 e58 W58 A58
              have N58 := Fr.snoc X58 N57 g_a43
              have Z58 : n0 ≤ h58.size := by rw [Wr.size W58]; exact Z57
              have B58 : h0.size ≤ h58.size := by rw [Wr.size W58]; exact B57
              show Go _ _ _ _ T58 (mkF m 306 #[.val (.ref a), .val (.ref am), .val (.int (2 : Int32)), .val (.ref a43), .val (.int (4 : Int32)), .val (.int (2 : Int32)), .val (.int (2 : Int32)), .val (.int (f 0)), .val (.int (f 1))] []) _ _ _
              refine Go.goto X58 hx (hb hby d_add22_306) (pc' := 165) (by decide) (by decide) ?_
              show Go _ _ _ _ T58 (mkF m 165 #[.val (.ref a), .val (.ref am), .val (.int (2 : Int32)), .val (.ref a43), .val (.int (4 : Int32)), .val (.int (2 : Int32)), .val (.int (2 : Int32)), .val (.int (f 0)), .val (.int (f 1))] []) _ _ _
              refine Go.iload X58 hx (hb hby d_add22_165) rfl ?_
              refine Go.aloadN X58 hx (hb hby d_add22_167) rfl rfl ?_
              have F59 := (Fld.other W58 (Fld.other W57 F50 (Or.inl ne_a_a43)) (Or.inl ne_a_a43))
              refine Go.getF X58 hx hZ hown (w31 hw) Via.refl e58 F59 (hb hby d_add22_168) ?_
              intro T60 X60 e60
              show Go _ _ _ _ T60 (mkF m 171 #[.val (.ref a), .val (.ref am), .val (.int (2 : Int32)), .val (.ref a43), .val (.int (4 : Int32)), .val (.int (2 : Int32)), .val (.int (2 : Int32)), .val (.int (f 0)), .val (.int (f 1))] [(.int (2 : Int32)), (.int (2 : Int32))]) _ _ _
              refine Go.icmpNo X60 hx (hb hby d_add22_171) (XT.ii_lt_f (by decide)) ?_
              show Go _ _ _ _ T60 (mkF m 174 #[.val (.ref a), .val (.ref am), .val (.int (2 : Int32)), .val (.ref a43), .val (.int (4 : Int32)), .val (.int (2 : Int32)), .val (.int (2 : Int32)), .val (.int (f 0)), .val (.int (f 1))] []) _ _ _
              refine Go.iload X60 hx (hb hby d_add22_174) rfl ?_
              refine Go.iloadN X60 hx (hb hby d_add22_176) rfl ?_
              refine Go.icmpYes X60 hx (hb hby d_add22_177) (XT.ii_ge_t (by decide)) (pc' := 309) (by decide) (by decide) ?_
              show Go _ _ _ _ T60 (mkF m 309 #[.val (.ref a), .val (.ref am), .val (.int (2 : Int32)), .val (.ref a43), .val (.int (4 : Int32)), .val (.int (2 : Int32)), .val (.int (2 : Int32)), .val (.int (f 0)), .val (.int (f 1))] []) _ _ _
              refine Go.aloadN X60 hx (hb hby d_add22_309) rfl rfl ?_
              refine Go.aloadN X60 hx (hb hby d_add22_310) rfl rfl ?_
              have F61 := (Fld.other W58 (Fld.other W57 F52 (Or.inl ne_a_a43)) (Or.inl ne_a_a43))
              have F62 := (Exa.wr W58 (Exa.wr W57 (Exa.wr W49 (Exa.wr W48 (Exa.ext E43 f0)))))
              refine Go.putF X60 hx hZ hown (w19 hw) Via.refl e60 F61 F62 (Or.inl (w20 hw)) (w9 hw) (ty := (.array .int)) (by decide) rfl rfl (hb hby d_add22_311) ?_
              intro T63 h63 X63 e63 W63
              have N63 := Fr.snoc X63 N58 f1
              have Z63 : n0 ≤ h63.size := by rw [Wr.size W63]; exact Z58
              have B63 : h0.size ≤ h63.size := by rw [Wr.size W63]; exact B58
              show Go _ _ _ _ T63 (mkF m 314 #[.val (.ref a), .val (.ref am), .val (.int (2 : Int32)), .val (.ref a43), .val (.int (4 : Int32)), .val (.int (2 : Int32)), .val (.int (2 : Int32)), .val (.int (f 0)), .val (.int (f 1))] []) _ _ _
              refine Go.aloadN X63 hx (hb hby d_add22_314) rfl rfl ?_
              refine Go.iload X63 hx (hb hby d_add22_315) rfl ?_
              have F64 := (Fld.other W63 F59 (Or.inr (slot_ne (a0 := a0) (Or.inl (w32 hw)) (Or.inl (w20 hw)) (t := .int) (t' := (.array .int)) (by decide) (by decide) (by decide))))
              refine Go.putF X63 hx hZ hown (w31 hw) Via.refl e63 F64 (Exa.wr W63 F62) (Or.inl (w32 hw)) (w9 hw) (ty := .int) (by decide) rfl rfl (hb hby d_add22_317) ?_
              intro T65 h65 X65 e65 W65
              have N65 := Fr.snoc X65 N63 f1
              have Z65 : n0 ≤ h65.size := by rw [Wr.size W65]; exact Z63
              have B65 : h0.size ≤ h65.size := by rw [Wr.size W65]; exact B63
              show Go _ _ _ _ T65 (mkF m 320 #[.val (.ref a), .val (.ref am), .val (.int (2 : Int32)), .val (.ref a43), .val (.int (4 : Int32)), .val (.int (2 : Int32)), .val (.int (2 : Int32)), .val (.int (f 0)), .val (.int (f 1))] []) _ _ _
              refine Go.ret0 X65 hx hlk hret (hb hby d_add22_320) (by decide) (by decide) ?_
              rw [e65]
              have F66 := (Af.other W65 (Af.other W63 A58 (Ne.symm ne_a_a43)) (Ne.symm ne_a_a43))
              have F68 := (Fld.other W65 (Fld.same W63 F61) (Or.inr (slot_ne (a0 := a0) (Or.inl (w20 hw)) (Or.inl (w32 hw)) (t := (.array .int)) (t' := .int) (by decide) (by decide) (by decide))))
              have AC67 : Af Z h65 a43 k43 .int 4 (fun i => Value.int ((updI (updI (updI (updI (fun _ => (0 : Int32)) 0 x) 1 y) 2 (f 0)) 3 (f 1)) i)) := Af.congr F66 (fun i hi => by have hi' : i < 4 := hi; rcases lt_4 hi' with rfl | rfl | rfl | rfl <;> first | (simp [updI, updV]; done) | rfl)
              have fin67 := fin_add22_67 f x y M f12 f13 q0 q1 hM' c41 c47 c56
              exact ⟨a43, rfl, N65, (Keep.wr (Keep.wr (Keep.wr (Keep.wr (Keep.wr (Keep.wr (Keep.ext (Keep.refl _ _) E43) W48 (Or.inr y_a43)) W49 (Or.inr y_a43)) W57 (Or.inr y_a43)) W58 (Or.inr y_a43)) W63 (Or.inl (List.mem_of_getElem? (i := 0) rfl))) W65 (Or.inl (List.mem_of_getElem? (i := 0) rfl))), (Exa.wr W65 (Exa.wr W63 F62)), ⟨_, _, 4, 4, _, F68, (Fld.same W65 F64), AC67, ne_a_a43, (fun _ => g_a43), (Or.inr (Or.inr (Or.inr (Or.inl ⟨(k_up f9 (by decide)), rfl, rfl, rfl⟩)))), fin67.1, fin67.2⟩⟩
          · refine Go.icmpNo X55 hx (hb hby d_add22_265) (XT.ii_gt_f c56) ?_
            show Go _ _ _ _ T55 (mkF m 268 #[.val (.ref a), .val (.ref am), .val (.int (2 : Int32)), .val (.ref a43), .val (.int (2 : Int32)), .val (.int (2 : Int32)), .val (.int (2 : Int32)), .val (.int (f 0)), .val (.int (f 1))] []) _ _ _
            as_aux_lemma =>
              refine Go.aloadN X55 hx (hb hby d_add22_268) rfl rfl ?_
              refine Go.iload X55 hx (hb hby d_add22_269) rfl ?_
              refine Go.iconst X55 hx (hb hby d_add22_271) ?_
              show Go _ _ _ _ T55 (mkF m 272 #[.val (.ref a), .val (.ref am), .val (.int (2 : Int32)), .val (.ref a43), .val (.int (2 : Int32)), .val (.int (2 : Int32)), .val (.int (2 : Int32)), .val (.int (f 0)), .val (.int (f 1))] [(.int (1 : Int32)), (.int (2 : Int32)), (.ref a43)]) _ _ _
              refine Go.isub X55 hx (hb hby d_add22_272) ?_
              show Go _ _ _ _ T55 (mkF m 273 #[.val (.ref a), .val (.ref am), .val (.int (2 : Int32)), .val (.ref a43), .val (.int (2 : Int32)), .val (.int (2 : Int32)), .val (.int (2 : Int32)), .val (.int (f 0)), .val (.int (f 1))] [(.int (1 : Int32)), (.ref a43)]) _ _ _
              refine Go.aloadN X55 hx (hb hby d_add22_273) rfl rfl ?_
              refine Go.iload X55 hx (hb hby d_add22_274) rfl ?_
              refine Go.iconst X55 hx (hb hby d_add22_276) ?_
              show Go _ _ _ _ T55 (mkF m 277 #[.val (.ref a), .val (.ref am), .val (.int (2 : Int32)), .val (.ref a43), .val (.int (2 : Int32)), .val (.int (2 : Int32)), .val (.int (2 : Int32)), .val (.int (f 0)), .val (.int (f 1))] [(.int (1 : Int32)), (.int (2 : Int32)), (.ref a43), (.int (1 : Int32)), (.ref a43)]) _ _ _
              refine Go.isub X55 hx (hb hby d_add22_277) ?_
              show Go _ _ _ _ T55 (mkF m 278 #[.val (.ref a), .val (.ref am), .val (.int (2 : Int32)), .val (.ref a43), .val (.int (2 : Int32)), .val (.int (2 : Int32)), .val (.int (2 : Int32)), .val (.int (f 0)), .val (.int (f 1))] [(.int (1 : Int32)), (.ref a43), (.int (1 : Int32)), (.ref a43)]) _ _ _
              refine Go.iaload X55 hx hZ e55 A49 (by decide) (by decide) (hb hby d_add22_278) ?_
              show Go _ _ _ _ T55 (mkF m 279 #[.val (.ref a), .val (.ref am), .val (.int (2 : Int32)), .val (.ref a43), .val (.int (2 : Int32)), .val (.int (2 : Int32)), .val (.int (2 : Int32)), .val (.int (f 0)), .val (.int (f 1))] [(.int y), (.int (1 : Int32)), (.ref a43)]) _ _ _
              refine Go.iload X55 hx (hb hby d_add22_279) rfl ?_
              refine Go.callS (W := 2) (argsL := [(.int y), (.int (f 1))]) (rest := [(.int (1 : Int32)), (.ref a43)]) X55 hx hZ hown (w33 hw) (w6 hw) (w3 hw) (w7 hw) (by decide) (rm_max l Z a0 hw y ((f 1)) h49) e55 (lenOf pd_0 rfl) (hb hby d_add22_281) (by rw [hml]; rfl) rfl (Nat.le_of_eq rfl) (by decide) (by decide) (by decide) (by decide) ?_
              intro v72 T72 L72 X72 q72
              obtain ⟨rfl, rfl, e72⟩ := q72
              have N72 := Fr.app N49 (Fr.nil n0)
              show Go _ _ _ _ T72 (mkF m 284 #[.val (.ref a), .val (.ref am), .val (.int (2 : Int32)), .val (.ref a43), .val (.int (2 : Int32)), .val (.int (2 : Int32)), .val (.int (2 : Int32)), .val (.int (f 0)), .val (.int (f 1))] [(.int (F_max y (f 1))), (.int (1 : Int32)), (.ref a43)]) _ _ _
              refine Go.iastore X72 hx hZ e72 A49 (by decide) (by decide) (hb hby d_add22_284) ?_
              intro T73 h73 X73 e73 W73 A73
              have N73 := Fr.snoc X73 N72 g_a43
              have Z73 : n0 ≤ h73.size := by rw [Wr.size W73]; exact Z49
              have B73 : h0.size ≤ h73.size := by rw [Wr.size W73]; exact B49
              show Go _ _ _ _ T73 (mkF m 285 #[.val (.ref a), .val (.ref am), .val (.int (2 : Int32)), .val (.ref a43), .val (.int (2 : Int32)), .val (.int (2 : Int32)), .val (.int (2 : Int32)), .val (.int (f 0)), .val (.int (f 1))] []) _ _ _
              refine Go.goto X73 hx (hb hby d_add22_285) (pc' := 306) (by decide) (by decide) ?_
              show Go _ _ _ _ T73 (mkF m 306 #[.val (.ref a), .val (.ref am), .val (.int (2 : Int32)), .val (.ref a43), .val (.int (2 : Int32)), .val (.int (2 : Int32)), .val (.int (2 : Int32)), .val (.int (f 0)), .val (.int (f 1))] []) _ _ _
              refine Go.goto X73 hx (hb hby d_add22_306) (pc' := 165) (by decide) (by decide) ?_
              show Go _ _ _ _ T73 (mkF m 165 #[.val (.ref a), .val (.ref am), .val (.int (2 : Int32)), .val (.ref a43), .val (.int (2 : Int32)), .val (.int (2 : Int32)), .val (.int (2 : Int32)), .val (.int (f 0)), .val (.int (f 1))] []) _ _ _
              refine Go.iload X73 hx (hb hby d_add22_165) rfl ?_
              refine Go.aloadN X73 hx (hb hby d_add22_167) rfl rfl ?_
              refine Go.getF X73 hx hZ hown (w31 hw) Via.refl e73 (Fld.other W73 F50 (Or.inl ne_a_a43)) (hb hby d_add22_168) ?_
              intro T74 X74 e74
              show Go _ _ _ _ T74 (mkF m 171 #[.val (.ref a), .val (.ref am), .val (.int (2 : Int32)), .val (.ref a43), .val (.int (2 : Int32)), .val (.int (2 : Int32)), .val (.int (2 : Int32)), .val (.int (f 0)), .val (.int (f 1))] [(.int (2 : Int32)), (.int (2 : Int32))]) _ _ _
              refine Go.icmpNo X74 hx (hb hby d_add22_171) (XT.ii_lt_f (by decide)) ?_
              show Go _ _ _ _ T74 (mkF m 174 #[.val (.ref a), .val (.ref am), .val (.int (2 : Int32)), .val (.ref a43), .val (.int (2 : Int32)), .val (.int (2 : Int32)), .val (.int (2 : Int32)), .val (.int (f 0)), .val (.int (f 1))] []) _ _ _
              refine Go.iload X74 hx (hb hby d_add22_174) rfl ?_
              refine Go.iloadN X74 hx (hb hby d_add22_176) rfl ?_
              refine Go.icmpYes X74 hx (hb hby d_add22_177) (XT.ii_ge_t (by decide)) (pc' := 309) (by decide) (by decide) ?_
              show Go _ _ _ _ T74 (mkF m 309 #[.val (.ref a), .val (.ref am), .val (.int (2 : Int32)), .val (.ref a43), .val (.int (2 : Int32)), .val (.int (2 : Int32)), .val (.int (2 : Int32)), .val (.int (f 0)), .val (.int (f 1))] []) _ _ _
              refine Go.aloadN X74 hx (hb hby d_add22_309) rfl rfl ?_
              refine Go.aloadN X74 hx (hb hby d_add22_310) rfl rfl ?_
              have F75 := (Exa.wr W73 (Exa.wr W49 (Exa.wr W48 (Exa.ext E43 f0))))
              refine Go.putF X74 hx hZ hown (w19 hw) Via.refl e74 (Fld.other W73 F52 (Or.inl ne_a_a43)) F75 (Or.inl (w20 hw)) (w9 hw) (ty := (.array .int)) (by decide) rfl rfl (hb hby d_add22_311) ?_
              intro T76 h76 X76 e76 W76
              have N76 := Fr.snoc X76 N73 f1
              have Z76 : n0 ≤ h76.size := by rw [Wr.size W76]; exact Z73
              have B76 : h0.size ≤ h76.size := by rw [Wr.size W76]; exact B73
              show Go _ _ _ _ T76 (mkF m 314 #[.val (.ref a), .val (.ref am), .val (.int (2 : Int32)), .val (.ref a43), .val (.int (2 : Int32)), .val (.int (2 : Int32)), .val (.int (2 : Int32)), .val (.int (f 0)), .val (.int (f 1))] []) _ _ _
              refine Go.aloadN X76 hx (hb hby d_add22_314) rfl rfl ?_
              refine Go.iload X76 hx (hb hby d_add22_315) rfl ?_
              have F77 := (Fld.other W76 (Fld.other W73 F50 (Or.inl ne_a_a43)) (Or.inr (slot_ne (a0 := a0) (Or.inl (w32 hw)) (Or.inl (w20 hw)) (t := .int) (t' := (.array .int)) (by decide) (by decide) (by decide))))
              refine Go.putF X76 hx hZ hown (w31 hw) Via.refl e76 F77 (Exa.wr W76 F75) (Or.inl (w32 hw)) (w9 hw) (ty := .int) (by decide) rfl rfl (hb hby d_add22_317) ?_
              intro T78 h78 X78 e78 W78
              have N78 := Fr.snoc X78 N76 f1
              have Z78 : n0 ≤ h78.size := by rw [Wr.size W78]; exact Z76
              have B78 : h0.size ≤ h78.size := by rw [Wr.size W78]; exact B76
              show Go _ _ _ _ T78 (mkF m 320 #[.val (.ref a), .val (.ref am), .val (.int (2 : Int32)), .val (.ref a43), .val (.int (2 : Int32)), .val (.int (2 : Int32)), .val (.int (2 : Int32)), .val (.int (f 0)), .val (.int (f 1))] []) _ _ _
              refine Go.ret0 X78 hx hlk hret (hb hby d_add22_320) (by decide) (by decide) ?_
              rw [e78]
              have F79 := (Af.other W78 (Af.other W76 A73 (Ne.symm ne_a_a43)) (Ne.symm ne_a_a43))
              have F81 := (Fld.other W78 (Fld.same W76 (Fld.other W73 F52 (Or.inl ne_a_a43))) (Or.inr (slot_ne (a0 := a0) (Or.inl (w20 hw)) (Or.inl (w32 hw)) (t := (.array .int)) (t' := .int) (by decide) (by decide) (by decide))))
              have AC80 : Af Z h78 a43 k43 .int 4 (fun i => Value.int ((updI (updI (updI (updI (fun _ => (0 : Int32)) 0 x) 1 (F_max y (f 1))) 2 (0 : Int32)) 3 (0 : Int32)) i)) := Af.congr F79 (fun i hi => by have hi' : i < 4 := hi; rcases lt_4 hi' with rfl | rfl | rfl | rfl <;> first | (simp [updI, updV]; done) | rfl)
              have fin80 := fin_add22_80 f x y M f12 f13 q0 q1 hM' c41 c47 c56
              exact ⟨a43, rfl, N78, (Keep.wr (Keep.wr (Keep.wr (Keep.wr (Keep.wr (Keep.ext (Keep.refl _ _) E43) W48 (Or.inr y_a43)) W49 (Or.inr y_a43)) W73 (Or.inr y_a43)) W76 (Or.inl (List.mem_of_getElem? (i := 0) rfl))) W78 (Or.inl (List.mem_of_getElem? (i := 0) rfl))), (Exa.wr W78 (Exa.wr W76 F75)), ⟨_, _, 4, 2, _, F81, (Fld.same W78 F77), AC80, ne_a_a43, (fun _ => g_a43), (Or.inr (Or.inr (Or.inl ⟨(k_up f9 (by decide)), rfl, rfl, rfl⟩))), fin80.1, fin80.2⟩⟩
      · refine Go.icmpNo X46 hx (hb hby d_add22_206) (XT.ii_gt_f c47) ?_
        show Go _ _ _ _ T46 (mkF m 209 #[.val (.ref a), .val (.ref am), .val (.int (2 : Int32)), .val (.ref a43), .val (.int (0 : Int32)), .val (.int (0 : Int32)), .val (.int (0 : Int32)), .unset, .unset] []) _ _ _
        as_aux_lemma =>
          refine Go.aloadN X46 hx (hb hby d_add22_209) rfl rfl ?_
          refine Go.getF X46 hx hZ hown (w19 hw) Via.refl e46 (Fld.ext E43 f5) (hb hby d_add22_210) ?_
          intro T86 X86 e86
          show Go _ _ _ _ T86 (mkF m 213 #[.val (.ref a), .val (.ref am), .val (.int (2 : Int32)), .val (.ref a43), .val (.int (0 : Int32)), .val (.int (0 : Int32)), .val (.int (0 : Int32)), .unset, .unset] [(.ref aB)]) _ _ _
          refine Go.iload X86 hx (hb hby d_add22_213) rfl ?_
          refine Go.iaload X86 hx hZ e86 (Af.ext E43 f7) (by decide) (by decide) (hb hby d_add22_215) ?_
          show Go _ _ _ _ T86 (mkF m 216 #[.val (.ref a), .val (.ref am), .val (.int (2 : Int32)), .val (.ref a43), .val (.int (0 : Int32)), .val (.int (0 : Int32)), .val (.int (0 : Int32)), .unset, .unset] [(.int (f 0))]) _ _ _
          refine Go.istore X86 hx (hb hby d_add22_216) (l' := #[.val (.ref a), .val (.ref am), .val (.int (2 : Int32)), .val (.ref a43), .val (.int (0 : Int32)), .val (.int (0 : Int32)), .val (.int (0 : Int32)), .val (.int (f 0)), .unset]) rfl ?_
          refine Go.aloadN X86 hx (hb hby d_add22_218) rfl rfl ?_
          refine Go.getF X86 hx hZ hown (w19 hw) Via.refl e86 (Fld.ext E43 f5) (hb hby d_add22_219) ?_
          intro T87 X87 e87
          show Go _ _ _ _ T87 (mkF m 222 #[.val (.ref a), .val (.ref am), .val (.int (2 : Int32)), .val (.ref a43), .val (.int (0 : Int32)), .val (.int (0 : Int32)), .val (.int (0 : Int32)), .val (.int (f 0)), .unset] [(.ref aB)]) _ _ _
          refine Go.iload X87 hx (hb hby d_add22_222) rfl ?_
          refine Go.iconst X87 hx (hb hby d_add22_224) ?_
          show Go _ _ _ _ T87 (mkF m 225 #[.val (.ref a), .val (.ref am), .val (.int (2 : Int32)), .val (.ref a43), .val (.int (0 : Int32)), .val (.int (0 : Int32)), .val (.int (0 : Int32)), .val (.int (f 0)), .unset] [(.int (1 : Int32)), (.int (0 : Int32)), (.ref aB)]) _ _ _
          refine Go.iadd X87 hx (hb hby d_add22_225) ?_
          show Go _ _ _ _ T87 (mkF m 226 #[.val (.ref a), .val (.ref am), .val (.int (2 : Int32)), .val (.ref a43), .val (.int (0 : Int32)), .val (.int (0 : Int32)), .val (.int (0 : Int32)), .val (.int (f 0)), .unset] [(.int (1 : Int32)), (.ref aB)]) _ _ _
          refine Go.iaload X87 hx hZ e87 (Af.ext E43 f7) (by decide) (by decide) (hb hby d_add22_226) ?_
          show Go _ _ _ _ T87 (mkF m 227 #[.val (.ref a), .val (.ref am), .val (.int (2 : Int32)), .val (.ref a43), .val (.int (0 : Int32)), .val (.int (0 : Int32)), .val (.int (0 : Int32)), .val (.int (f 0)), .unset] [(.int (f 1))]) _ _ _
          refine Go.istore X87 hx (hb hby d_add22_227) (l' := #[.val (.ref a), .val (.ref am), .val (.int (2 : Int32)), .val (.ref a43), .val (.int (0 : Int32)), .val (.int (0 : Int32)), .val (.int (0 : Int32)), .val (.int (f 0)), .val (.int (f 1))]) rfl ?_
          refine Go.iinc X87 hx (hb hby d_add22_229) rfl (l' := #[.val (.ref a), .val (.ref am), .val (.int (2 : Int32)), .val (.ref a43), .val (.int (0 : Int32)), .val (.int (2 : Int32)), .val (.int (0 : Int32)), .val (.int (f 0)), .val (.int (f 1))]) rfl ?_
          show Go _ _ _ _ T87 (mkF m 232 #[.val (.ref a), .val (.ref am), .val (.int (2 : Int32)), .val (.ref a43), .val (.int (0 : Int32)), .val (.int (2 : Int32)), .val (.int (0 : Int32)), .val (.int (f 0)), .val (.int (f 1))] []) _ _ _
          refine Go.goto X87 hx (hb hby d_add22_232) (pc' := 252) (by decide) (by decide) ?_
          show Go _ _ _ _ T87 (mkF m 252 #[.val (.ref a), .val (.ref am), .val (.int (2 : Int32)), .val (.ref a43), .val (.int (0 : Int32)), .val (.int (2 : Int32)), .val (.int (0 : Int32)), .val (.int (f 0)), .val (.int (f 1))] []) _ _ _
          refine Go.iload X87 hx (hb hby d_add22_252) rfl ?_
          refine Go.ifYes X87 hx (hb hby d_add22_254) (XT.i0_le_t (by decide)) (pc' := 288) (by decide) (by decide) ?_
          show Go _ _ _ _ T87 (mkF m 288 #[.val (.ref a), .val (.ref am), .val (.int (2 : Int32)), .val (.ref a43), .val (.int (0 : Int32)), .val (.int (2 : Int32)), .val (.int (0 : Int32)), .val (.int (f 0)), .val (.int (f 1))] []) _ _ _
          refine Go.aloadN X87 hx (hb hby d_add22_288) rfl rfl ?_
          refine Go.iload X87 hx (hb hby d_add22_289) rfl ?_
          refine Go.iinc X87 hx (hb hby d_add22_291) rfl (l' := #[.val (.ref a), .val (.ref am), .val (.int (2 : Int32)), .val (.ref a43), .val (.int (1 : Int32)), .val (.int (2 : Int32)), .val (.int (0 : Int32)), .val (.int (f 0)), .val (.int (f 1))]) rfl ?_
          show Go _ _ _ _ T87 (mkF m 294 #[.val (.ref a), .val (.ref am), .val (.int (2 : Int32)), .val (.ref a43), .val (.int (1 : Int32)), .val (.int (2 : Int32)), .val (.int (0 : Int32)), .val (.int (f 0)), .val (.int (f 1))] [(.int (0 : Int32)), (.ref a43)]) _ _ _
          refine Go.iload X87 hx (hb hby d_add22_294) rfl ?_
          refine Go.iastore X87 hx hZ e87 A43 (by decide) (by decide) (hb hby d_add22_296) ?_
          intro T88 h88 X88 e88 W88 A88
          have N88 := Fr.snoc X88 N0 g_a43
          have Z88 : n0 ≤ h88.size := by rw [Wr.size W88]; exact Z43
          have B88 : h0.size ≤ h88.size := by rw [Wr.size W88]; exact B43
          show Go _ _ _ _ T88 (mkF m 297 #[.val (.ref a), .val (.ref am), .val (.int (2 : Int32)), .val (.ref a43), .val (.int (1 : Int32)), .val (.int (2 : Int32)), .val (.int (0 : Int32)), .val (.int (f 0)), .val (.int (f 1))] []) _ _ _
          refine Go.aloadN X88 hx (hb hby d_add22_297) rfl rfl ?_
          refine Go.iload X88 hx (hb hby d_add22_298) rfl ?_
          refine Go.iinc X88 hx (hb hby d_add22_300) rfl (l' := #[.val (.ref a), .val (.ref am), .val (.int (2 : Int32)), .val (.ref a43), .val (.int (2 : Int32)), .val (.int (2 : Int32)), .val (.int (0 : Int32)), .val (.int (f 0)), .val (.int (f 1))]) rfl ?_
          show Go _ _ _ _ T88 (mkF m 303 #[.val (.ref a), .val (.ref am), .val (.int (2 : Int32)), .val (.ref a43), .val (.int (2 : Int32)), .val (.int (2 : Int32)), .val (.int (0 : Int32)), .val (.int (f 0)), .val (.int (f 1))] [(.int (1 : Int32)), (.ref a43)]) _ _ _
          refine Go.iload X88 hx (hb hby d_add22_303) rfl ?_
          refine Go.iastore X88 hx hZ e88 A88 (by decide) (by decide) (hb hby d_add22_305) ?_
          intro T89 h89 X89 e89 W89 A89
          have N89 := Fr.snoc X89 N88 g_a43
          have Z89 : n0 ≤ h89.size := by rw [Wr.size W89]; exact Z88
          have B89 : h0.size ≤ h89.size := by rw [Wr.size W89]; exact B88
          show Go _ _ _ _ T89 (mkF m 306 #[.val (.ref a), .val (.ref am), .val (.int (2 : Int32)), .val (.ref a43), .val (.int (2 : Int32)), .val (.int (2 : Int32)), .val (.int (0 : Int32)), .val (.int (f 0)), .val (.int (f 1))] []) _ _ _
          refine Go.goto X89 hx (hb hby d_add22_306) (pc' := 165) (by decide) (by decide) ?_
          show Go _ _ _ _ T89 (mkF m 165 #[.val (.ref a), .val (.ref am), .val (.int (2 : Int32)), .val (.ref a43), .val (.int (2 : Int32)), .val (.int (2 : Int32)), .val (.int (0 : Int32)), .val (.int (f 0)), .val (.int (f 1))] []) _ _ _
          refine Go.iload X89 hx (hb hby d_add22_165) rfl ?_
          refine Go.aloadN X89 hx (hb hby d_add22_167) rfl rfl ?_
          have F90 := (Fld.other W89 (Fld.other W88 (Fld.ext E43 f6) (Or.inl ne_a_a43)) (Or.inl ne_a_a43))
          refine Go.getF X89 hx hZ hown (w31 hw) Via.refl e89 F90 (hb hby d_add22_168) ?_
          intro T91 X91 e91
          show Go _ _ _ _ T91 (mkF m 171 #[.val (.ref a), .val (.ref am), .val (.int (2 : Int32)), .val (.ref a43), .val (.int (2 : Int32)), .val (.int (2 : Int32)), .val (.int (0 : Int32)), .val (.int (f 0)), .val (.int (f 1))] [(.int (2 : Int32)), (.int (2 : Int32))]) _ _ _
          refine Go.icmpNo X91 hx (hb hby d_add22_171) (XT.ii_lt_f (by decide)) ?_
          show Go _ _ _ _ T91 (mkF m 174 #[.val (.ref a), .val (.ref am), .val (.int (2 : Int32)), .val (.ref a43), .val (.int (2 : Int32)), .val (.int (2 : Int32)), .val (.int (0 : Int32)), .val (.int (f 0)), .val (.int (f 1))] []) _ _ _
          refine Go.iload X91 hx (hb hby d_add22_174) rfl ?_
          refine Go.iloadN X91 hx (hb hby d_add22_176) rfl ?_
          refine Go.icmpNo X91 hx (hb hby d_add22_177) (XT.ii_ge_f (by decide)) ?_
          show Go _ _ _ _ T91 (mkF m 180 #[.val (.ref a), .val (.ref am), .val (.int (2 : Int32)), .val (.ref a43), .val (.int (2 : Int32)), .val (.int (2 : Int32)), .val (.int (0 : Int32)), .val (.int (f 0)), .val (.int (f 1))] []) _ _ _
          refine Go.iload X91 hx (hb hby d_add22_180) rfl ?_
          refine Go.iloadN X91 hx (hb hby d_add22_182) rfl ?_
          refine Go.icmpNo X91 hx (hb hby d_add22_183) (XT.ii_eq_f (by decide)) ?_
          show Go _ _ _ _ T91 (mkF m 186 #[.val (.ref a), .val (.ref am), .val (.int (2 : Int32)), .val (.ref a43), .val (.int (2 : Int32)), .val (.int (2 : Int32)), .val (.int (0 : Int32)), .val (.int (f 0)), .val (.int (f 1))] []) _ _ _
          refine Go.iload X91 hx (hb hby d_add22_186) rfl ?_
          refine Go.aloadN X91 hx (hb hby d_add22_188) rfl rfl ?_
          refine Go.getF X91 hx hZ hown (w31 hw) Via.refl e91 F90 (hb hby d_add22_189) ?_
          intro T92 X92 e92
          show Go _ _ _ _ T92 (mkF m 192 #[.val (.ref a), .val (.ref am), .val (.int (2 : Int32)), .val (.ref a43), .val (.int (2 : Int32)), .val (.int (2 : Int32)), .val (.int (0 : Int32)), .val (.int (f 0)), .val (.int (f 1))] [(.int (2 : Int32)), (.int (2 : Int32))]) _ _ _
          refine Go.icmpYes X92 hx (hb hby d_add22_192) (XT.ii_ge_t (by decide)) (pc' := 235) (by decide) (by decide) ?_
          show Go _ _ _ _ T92 (mkF m 235 #[.val (.ref a), .val (.ref am), .val (.int (2 : Int32)), .val (.ref a43), .val (.int (2 : Int32)), .val (.int (2 : Int32)), .val (.int (0 : Int32)), .val (.int (f 0)), .val (.int (f 1))] []) _ _ _
          refine Go.aloadN X92 hx (hb hby d_add22_235) rfl rfl ?_
          refine Go.iload X92 hx (hb hby d_add22_236) rfl ?_
          have F93 := (Af.other W89 (Af.other W88 (Af.ext E43 f8) ne_am_a43) ne_am_a43)
          refine Go.iaload X92 hx hZ e92 F93 (by decide) (by decide) (hb hby d_add22_238) ?_
          show Go _ _ _ _ T92 (mkF m 239 #[.val (.ref a), .val (.ref am), .val (.int (2 : Int32)), .val (.ref a43), .val (.int (2 : Int32)), .val (.int (2 : Int32)), .val (.int (0 : Int32)), .val (.int (f 0)), .val (.int (f 1))] [(.int x)]) _ _ _
          refine Go.istore X92 hx (hb hby d_add22_239) (l' := #[.val (.ref a), .val (.ref am), .val (.int (2 : Int32)), .val (.ref a43), .val (.int (2 : Int32)), .val (.int (2 : Int32)), .val (.int (0 : Int32)), .val (.int x), .val (.int (f 1))]) rfl ?_
          refine Go.aloadN X92 hx (hb hby d_add22_241) rfl rfl ?_
          refine Go.iload X92 hx (hb hby d_add22_242) rfl ?_
          refine Go.iconst X92 hx (hb hby d_add22_244) ?_
          show Go _ _ _ _ T92 (mkF m 245 #[.val (.ref a), .val (.ref am), .val (.int (2 : Int32)), .val (.ref a43), .val (.int (2 : Int32)), .val (.int (2 : Int32)), .val (.int (0 : Int32)), .val (.int x), .val (.int (f 1))] [(.int (1 : Int32)), (.int (0 : Int32)), (.ref am)]) _ _ _
          refine Go.iadd X92 hx (hb hby d_add22_245) ?_
          show Go _ _ _ _ T92 (mkF m 246 #[.val (.ref a), .val (.ref am), .val (.int (2 : Int32)), .val (.ref a43), .val (.int (2 : Int32)), .val (.int (2 : Int32)), .val (.int (0 : Int32)), .val (.int x), .val (.int (f 1))] [(.int (1 : Int32)), (.ref am)]) _ _ _
          refine Go.iaload X92 hx hZ e92 F93 (by decide) (by decide) (hb hby d_add22_246) ?_
          show Go _ _ _ _ T92 (mkF m 247 #[.val (.ref a), .val (.ref am), .val (.int (2 : Int32)), .val (.ref a43), .val (.int (2 : Int32)), .val (.int (2 : Int32)), .val (.int (0 : Int32)), .val (.int x), .val (.int (f 1))] [(.int y)]) _ _ _
          refine Go.istore X92 hx (hb hby d_add22_247) (l' := #[.val (.ref a), .val (.ref am), .val (.int (2 : Int32)), .val (.ref a43), .val (.int (2 : Int32)), .val (.int (2 : Int32)), .val (.int (0 : Int32)), .val (.int x), .val (.int y)]) rfl ?_
          refine Go.iinc X92 hx (hb hby d_add22_249) rfl (l' := #[.val (.ref a), .val (.ref am), .val (.int (2 : Int32)), .val (.ref a43), .val (.int (2 : Int32)), .val (.int (2 : Int32)), .val (.int (2 : Int32)), .val (.int x), .val (.int y)]) rfl ?_
          show Go _ _ _ _ T92 (mkF m 252 #[.val (.ref a), .val (.ref am), .val (.int (2 : Int32)), .val (.ref a43), .val (.int (2 : Int32)), .val (.int (2 : Int32)), .val (.int (2 : Int32)), .val (.int x), .val (.int y)] []) _ _ _
          refine Go.iload X92 hx (hb hby d_add22_252) rfl ?_
          refine Go.ifNo X92 hx (hb hby d_add22_254) (XT.i0_le_f (by decide)) ?_
          show Go _ _ _ _ T92 (mkF m 257 #[.val (.ref a), .val (.ref am), .val (.int (2 : Int32)), .val (.ref a43), .val (.int (2 : Int32)), .val (.int (2 : Int32)), .val (.int (2 : Int32)), .val (.int x), .val (.int y)] []) _ _ _
          refine Go.iload X92 hx (hb hby d_add22_257) rfl ?_
          refine Go.aloadN X92 hx (hb hby d_add22_259) rfl rfl ?_
          refine Go.iload X92 hx (hb hby d_add22_260) rfl ?_
          refine Go.iconst X92 hx (hb hby d_add22_262) ?_
          show Go _ _ _ _ T92 (mkF m 263 #[.val (.ref a), .val (.ref am), .val (.int (2 : Int32)), .val (.ref a43), .val (.int (2 : Int32)), .val (.int (2 : Int32)), .val (.int (2 : Int32)), .val (.int x), .val (.int y)] [(.int (1 : Int32)), (.int (2 : Int32)), (.ref a43), (.int x)]) _ _ _
          refine Go.isub X92 hx (hb hby d_add22_263) ?_
          show Go _ _ _ _ T92 (mkF m 264 #[.val (.ref a), .val (.ref am), .val (.int (2 : Int32)), .val (.ref a43), .val (.int (2 : Int32)), .val (.int (2 : Int32)), .val (.int (2 : Int32)), .val (.int x), .val (.int y)] [(.int (1 : Int32)), (.ref a43), (.int x)]) _ _ _
          refine Go.iaload X92 hx hZ e92 A89 (by decide) (by decide) (hb hby d_add22_264) ?_
          show Go _ _ _ _ T92 (mkF m 265 #[.val (.ref a), .val (.ref am), .val (.int (2 : Int32)), .val (.ref a43), .val (.int (2 : Int32)), .val (.int (2 : Int32)), .val (.int (2 : Int32)), .val (.int x), .val (.int y)] [(.int (f 1)), (.int x)]) _ _ _
          rcases Decidable.em ((f 1) < x) with c94 | c94
          · refine Go.icmpYes X92 hx (hb hby d_add22_265) (XT.ii_gt_t c94) (pc' := 288) (by decide) (by decide) ?_
            show Go _ _ _ _ T92 (mkF m 288 #[.val (.ref a), .val (.ref am), .val (.int (2 : Int32)), .val (.ref a43), .val (.int (2 : Int32)), .val (.int (2 : Int32)), .val (.int (2 : Int32)), .val (.int x), .val (.int y)] []) _ _ _
            as_aux_lemma =>
              refine Go.aloadN X92 hx (hb hby d_add22_288) rfl rfl ?_
              refine Go.iload X92 hx (hb hby d_add22_289) rfl ?_
              refine Go.iinc X92 hx (hb hby d_add22_291) rfl (l' := #[.val (.ref a), .val (.ref am), .val (.int (2 : Int32)), .val (.ref a43), .val (.int (3 : Int32)), .val (.int (2 : Int32)), .val (.int (2 : Int32)), .val (.int x), .val (.int y)]) rfl ?_
              show Go _ _ _ _ T92 (mkF m 294 #[.val (.ref a), .val (.ref am), .val (.int (2 : Int32)), .val (.ref a43), .val (.int (3 : Int32)), .val (.int (2 : Int32)), .val (.int (2 : Int32)), .val (.int x), .val (.int y)] [(.int (2 : Int32)), (.ref a43)]) _ _ _
              refine Go.iload X92 hx (hb hby d_add22_294) rfl ?_
              refine Go.iastore X92 hx hZ e92 A89 (by decide) (by decide) (hb hby d_add22_296) ?_
              intro T95 h95 X95 e95 W95 A95
              have N95 := Fr.snoc X95 N89 g_a43
              have Z95 : n0 ≤ h95.size := by rw [Wr.size W95]; exact Z89
              have B95 : h0.size ≤ h95.size := by rw [Wr.size W95]; exact B89
              show Go _ _ _ _ T95 (mkF m 297 #[.val (.ref a), .val (.ref am), .val (.int (2 : Int32)), .val (.ref a43), .val (.int (3 : Int32)), .val (.int (2 : Int32)), .val (.int (2 : Int32)), .val (.int x), .val (.int y)] []) _ _ _
              refine Go.aloadN X95 hx (hb hby d_add22_297) rfl rfl ?_
              refine Go.iload X95 hx (hb hby d_add22_298) rfl ?_
              refine Go.iinc X95 hx (hb hby d_add22_300) rfl (l' := #[.val (.ref a), .val (.ref am), .val (.int (2 : Int32)), .val (.ref a43), .val (.int (4 : Int32)), .val (.int (2 : Int32)), .val (.int (2 : Int32)), .val (.int x), .val (.int y)]) rfl ?_
              show Go _ _ _ _ T95 (mkF m 303 #[.val (.ref a), .val (.ref am), .val (.int (2 : Int32)), .val (.ref a43), .val (.int (4 : Int32)), .val (.int (2 : Int32)), .val (.int (2 : Int32)), .val (.int x), .val (.int y)] [(.int (3 : Int32)), (.ref a43)]) _ _ _
              refine Go.iload X95 hx (hb hby d_add22_303) rfl ?_
              refine Go.iastore X95 hx hZ e95 A95 (by decide) (by decide) (hb hby d_add22_305) ?_
              intro T96 h96 X96 e96 W96 A96
              have N96 := Fr.snoc X96 N95 g_a43
              have Z96 : n0 ≤ h96.size := by rw [Wr.size W96]; exact Z95
              have B96 : h0.size ≤ h96.size := by rw [Wr.size W96]; exact B95
              show Go _ _ _ _ T96 (mkF m 306 #[.val (.ref a), .val (.ref am), .val (.int (2 : Int32)), .val (.ref a43), .val (.int (4 : Int32)), .val (.int (2 : Int32)), .val (.int (2 : Int32)), .val (.int x), .val (.int y)] []) _ _ _
              refine Go.goto X96 hx (hb hby d_add22_306) (pc' := 165) (by decide) (by decide) ?_
              show Go _ _ _ _ T96 (mkF m 165 #[.val (.ref a), .val (.ref am), .val (.int (2 : Int32)), .val (.ref a43), .val (.int (4 : Int32)), .val (.int (2 : Int32)), .val (.int (2 : Int32)), .val (.int x), .val (.int y)] []) _ _ _
              refine Go.iload X96 hx (hb hby d_add22_165) rfl ?_
              refine Go.aloadN X96 hx (hb hby d_add22_167) rfl rfl ?_
              have F97 := (Fld.other W96 (Fld.other W95 F90 (Or.inl ne_a_a43)) (Or.inl ne_a_a43))
              refine Go.getF X96 hx hZ hown (w31 hw) Via.refl e96 F97 (hb hby d_add22_168) ?_
              intro T98 X98 e98
              show Go _ _ _ _ T98 (mkF m 171 #[.val (.ref a), .val (.ref am), .val (.int (2 : Int32)), .val (.ref a43), .val (.int (4 : Int32)), .val (.int (2 : Int32)), .val (.int (2 : Int32)), .val (.int x), .val (.int y)] [(.int (2 : Int32)), (.int (2 : Int32))]) _ _ _
              refine Go.icmpNo X98 hx (hb hby d_add22_171) (XT.ii_lt_f (by decide)) ?_
              show Go _ _ _ _ T98 (mkF m 174 #[.val (.ref a), .val (.ref am), .val (.int (2 : Int32)), .val (.ref a43), .val (.int (4 : Int32)), .val (.int (2 : Int32)), .val (.int (2 : Int32)), .val (.int x), .val (.int y)] []) _ _ _
              refine Go.iload X98 hx (hb hby d_add22_174) rfl ?_
              refine Go.iloadN X98 hx (hb hby d_add22_176) rfl ?_
              refine Go.icmpYes X98 hx (hb hby d_add22_177) (XT.ii_ge_t (by decide)) (pc' := 309) (by decide) (by decide) ?_
              show Go _ _ _ _ T98 (mkF m 309 #[.val (.ref a), .val (.ref am), .val (.int (2 : Int32)), .val (.ref a43), .val (.int (4 : Int32)), .val (.int (2 : Int32)), .val (.int (2 : Int32)), .val (.int x), .val (.int y)] []) _ _ _
              refine Go.aloadN X98 hx (hb hby d_add22_309) rfl rfl ?_
              refine Go.aloadN X98 hx (hb hby d_add22_310) rfl rfl ?_
              have F99 := (Fld.other W96 (Fld.other W95 (Fld.other W89 (Fld.other W88 (Fld.ext E43 f5) (Or.inl ne_a_a43)) (Or.inl ne_a_a43)) (Or.inl ne_a_a43)) (Or.inl ne_a_a43))
              have F100 := (Exa.wr W96 (Exa.wr W95 (Exa.wr W89 (Exa.wr W88 (Exa.ext E43 f0)))))
              refine Go.putF X98 hx hZ hown (w19 hw) Via.refl e98 F99 F100 (Or.inl (w20 hw)) (w9 hw) (ty := (.array .int)) (by decide) rfl rfl (hb hby d_add22_311) ?_
              intro T101 h101 X101 e101 W101
              have N101 := Fr.snoc X101 N96 f1
              have Z101 : n0 ≤ h101.size := by rw [Wr.size W101]; exact Z96
              have B101 : h0.size ≤ h101.size := by rw [Wr.size W101]; exact B96
              show Go _ _ _ _ T101 (mkF m 314 #[.val (.ref a), .val (.ref am), .val (.int (2 : Int32)), .val (.ref a43), .val (.int (4 : Int32)), .val (.int (2 : Int32)), .val (.int (2 : Int32)), .val (.int x), .val (.int y)] []) _ _ _
              refine Go.aloadN X101 hx (hb hby d_add22_314) rfl rfl ?_
              refine Go.iload X101 hx (hb hby d_add22_315) rfl ?_
              have F102 := (Fld.other W101 F97 (Or.inr (slot_ne (a0 := a0) (Or.inl (w32 hw)) (Or.inl (w20 hw)) (t := .int) (t' := (.array .int)) (by decide) (by decide) (by decide))))
              refine Go.putF X101 hx hZ hown (w31 hw) Via.refl e101 F102 (Exa.wr W101 F100) (Or.inl (w32 hw)) (w9 hw) (ty := .int) (by decide) rfl rfl (hb hby d_add22_317) ?_
              intro T103 h103 X103 e103 W103
              have N103 := Fr.snoc X103 N101 f1
              have Z103 : n0 ≤ h103.size := by rw [Wr.size W103]; exact Z101
              have B103 : h0.size ≤ h103.size := by rw [Wr.size W103]; exact B101
              show Go _ _ _ _ T103 (mkF m 320 #[.val (.ref a), .val (.ref am), .val (.int (2 : Int32)), .val (.ref a43), .val (.int (4 : Int32)), .val (.int (2 : Int32)), .val (.int (2 : Int32)), .val (.int x), .val (.int y)] []) _ _ _
              refine Go.ret0 X103 hx hlk hret (hb hby d_add22_320) (by decide) (by decide) ?_
              rw [e103]
              have F104 := (Af.other W103 (Af.other W101 A96 (Ne.symm ne_a_a43)) (Ne.symm ne_a_a43))
              have F106 := (Fld.other W103 (Fld.same W101 F99) (Or.inr (slot_ne (a0 := a0) (Or.inl (w20 hw)) (Or.inl (w32 hw)) (t := (.array .int)) (t' := .int) (by decide) (by decide) (by decide))))
              have AC105 : Af Z h103 a43 k43 .int 4 (fun i => Value.int ((updI (updI (updI (updI (fun _ => (0 : Int32)) 0 (f 0)) 1 (f 1)) 2 x) 3 y) i)) := Af.congr F104 (fun i hi => by have hi' : i < 4 := hi; rcases lt_4 hi' with rfl | rfl | rfl | rfl <;> first | (simp [updI, updV]; done) | rfl)
              have fin105 := fin_add22_105 f x y M f12 f13 q0 q1 hM' c41 c47 c94
              exact ⟨a43, rfl, N103, (Keep.wr (Keep.wr (Keep.wr (Keep.wr (Keep.wr (Keep.wr (Keep.ext (Keep.refl _ _) E43) W88 (Or.inr y_a43)) W89 (Or.inr y_a43)) W95 (Or.inr y_a43)) W96 (Or.inr y_a43)) W101 (Or.inl (List.mem_of_getElem? (i := 0) rfl))) W103 (Or.inl (List.mem_of_getElem? (i := 0) rfl))), (Exa.wr W103 (Exa.wr W101 F100)), ⟨_, _, 4, 4, _, F106, (Fld.same W103 F102), AC105, ne_a_a43, (fun _ => g_a43), (Or.inr (Or.inr (Or.inr (Or.inl ⟨(k_up f9 (by decide)), rfl, rfl, rfl⟩)))), fin105.1, fin105.2⟩⟩
          · refine Go.icmpNo X92 hx (hb hby d_add22_265) (XT.ii_gt_f c94) ?_
            show Go _ _ _ _ T92 (mkF m 268 #[.val (.ref a), .val (.ref am), .val (.int (2 : Int32)), .val (.ref a43), .val (.int (2 : Int32)), .val (.int (2 : Int32)), .val (.int (2 : Int32)), .val (.int x), .val (.int y)] []) _ _ _
            as_aux_lemma =>
              refine Go.aloadN X92 hx (hb hby d_add22_268) rfl rfl ?_
              refine Go.iload X92 hx (hb hby d_add22_269) rfl ?_
              refine Go.iconst X92 hx (hb hby d_add22_271) ?_
              show Go _ _ _ _ T92 (mkF m 272 #[.val (.ref a), .val (.ref am), .val (.int (2 : Int32)), .val (.ref a43), .val (.int (2 : Int32)), .val (.int (2 : Int32)), .val (.int (2 : Int32)), .val (.int x), .val (.int y)] [(.int (1 : Int32)), (.int (2 : Int32)), (.ref a43)]) _ _ _
              refine Go.isub X92 hx (hb hby d_add22_272) ?_
              show Go _ _ _ _ T92 (mkF m 273 #[.val (.ref a), .val (.ref am), .val (.int (2 : Int32)), .val (.ref a43), .val (.int (2 : Int32)), .val (.int (2 : Int32)), .val (.int (2 : Int32)), .val (.int x), .val (.int y)] [(.int (1 : Int32)), (.ref a43)]) _ _ _
              refine Go.aloadN X92 hx (hb hby d_add22_273) rfl rfl ?_
              refine Go.iload X92 hx (hb hby d_add22_274) rfl ?_
              refine Go.iconst X92 hx (hb hby d_add22_276) ?_
              show Go _ _ _ _ T92 (mkF m 277 #[.val (.ref a), .val (.ref am), .val (.int (2 : Int32)), .val (.ref a43), .val (.int (2 : Int32)), .val (.int (2 : Int32)), .val (.int (2 : Int32)), .val (.int x), .val (.int y)] [(.int (1 : Int32)), (.int (2 : Int32)), (.ref a43), (.int (1 : Int32)), (.ref a43)]) _ _ _
              refine Go.isub X92 hx (hb hby d_add22_277) ?_
              show Go _ _ _ _ T92 (mkF m 278 #[.val (.ref a), .val (.ref am), .val (.int (2 : Int32)), .val (.ref a43), .val (.int (2 : Int32)), .val (.int (2 : Int32)), .val (.int (2 : Int32)), .val (.int x), .val (.int y)] [(.int (1 : Int32)), (.ref a43), (.int (1 : Int32)), (.ref a43)]) _ _ _
              refine Go.iaload X92 hx hZ e92 A89 (by decide) (by decide) (hb hby d_add22_278) ?_
              show Go _ _ _ _ T92 (mkF m 279 #[.val (.ref a), .val (.ref am), .val (.int (2 : Int32)), .val (.ref a43), .val (.int (2 : Int32)), .val (.int (2 : Int32)), .val (.int (2 : Int32)), .val (.int x), .val (.int y)] [(.int (f 1)), (.int (1 : Int32)), (.ref a43)]) _ _ _
              refine Go.iload X92 hx (hb hby d_add22_279) rfl ?_
              refine Go.callS (W := 2) (argsL := [(.int (f 1)), (.int y)]) (rest := [(.int (1 : Int32)), (.ref a43)]) X92 hx hZ hown (w33 hw) (w6 hw) (w3 hw) (w7 hw) (by decide) (rm_max l Z a0 hw ((f 1)) y h89) e92 (lenOf pd_0 rfl) (hb hby d_add22_281) (by rw [hml]; rfl) rfl (Nat.le_of_eq rfl) (by decide) (by decide) (by decide) (by decide) ?_
              intro v110 T110 L110 X110 q110
              obtain ⟨rfl, rfl, e110⟩ := q110
              have N110 := Fr.app N89 (Fr.nil n0)
              show Go _ _ _ _ T110 (mkF m 284 #[.val (.ref a), .val (.ref am), .val (.int (2 : Int32)), .val (.ref a43), .val (.int (2 : Int32)), .val (.int (2 : Int32)), .val (.int (2 : Int32)), .val (.int x), .val (.int y)] [(.int (F_max (f 1) y)), (.int (1 : Int32)), (.ref a43)]) _ _ _
              refine Go.iastore X110 hx hZ e110 A89 (by decide) (by decide) (hb hby d_add22_284) ?_
              intro T111 h111 X111 e111 W111 A111
              have N111 := Fr.snoc X111 N110 g_a43
              have Z111 : n0 ≤ h111.size := by rw [Wr.size W111]; exact Z89
              have B111 : h0.size ≤ h111.size := by rw [Wr.size W111]; exact B89
              show Go _ _ _ _ T111 (mkF m 285 #[.val (.ref a), .val (.ref am), .val (.int (2 : Int32)), .val (.ref a43), .val (.int (2 : Int32)), .val (.int (2 : Int32)), .val (.int (2 : Int32)), .val (.int x), .val (.int y)] []) _ _ _
              refine Go.goto X111 hx (hb hby d_add22_285) (pc' := 306) (by decide) (by decide) ?_
              show Go _ _ _ _ T111 (mkF m 306 #[.val (.ref a), .val (.ref am), .val (.int (2 : Int32)), .val (.ref a43), .val (.int (2 : Int32)), .val (.int (2 : Int32)), .val (.int (2 : Int32)), .val (.int x), .val (.int y)] []) _ _ _
              refine Go.goto X111 hx (hb hby d_add22_306) (pc' := 165) (by decide) (by decide) ?_
              show Go _ _ _ _ T111 (mkF m 165 #[.val (.ref a), .val (.ref am), .val (.int (2 : Int32)), .val (.ref a43), .val (.int (2 : Int32)), .val (.int (2 : Int32)), .val (.int (2 : Int32)), .val (.int x), .val (.int y)] []) _ _ _
              refine Go.iload X111 hx (hb hby d_add22_165) rfl ?_
              refine Go.aloadN X111 hx (hb hby d_add22_167) rfl rfl ?_
              refine Go.getF X111 hx hZ hown (w31 hw) Via.refl e111 (Fld.other W111 F90 (Or.inl ne_a_a43)) (hb hby d_add22_168) ?_
              intro T112 X112 e112
              show Go _ _ _ _ T112 (mkF m 171 #[.val (.ref a), .val (.ref am), .val (.int (2 : Int32)), .val (.ref a43), .val (.int (2 : Int32)), .val (.int (2 : Int32)), .val (.int (2 : Int32)), .val (.int x), .val (.int y)] [(.int (2 : Int32)), (.int (2 : Int32))]) _ _ _
              refine Go.icmpNo X112 hx (hb hby d_add22_171) (XT.ii_lt_f (by decide)) ?_
              show Go _ _ _ _ T112 (mkF m 174 #[.val (.ref a), .val (.ref am), .val (.int (2 : Int32)), .val (.ref a43), .val (.int (2 : Int32)), .val (.int (2 : Int32)), .val (.int (2 : Int32)), .val (.int x), .val (.int y)] []) _ _ _
              refine Go.iload X112 hx (hb hby d_add22_174) rfl ?_
              refine Go.iloadN X112 hx (hb hby d_add22_176) rfl ?_
              refine Go.icmpYes X112 hx (hb hby d_add22_177) (XT.ii_ge_t (by decide)) (pc' := 309) (by decide) (by decide) ?_
              show Go _ _ _ _ T112 (mkF m 309 #[.val (.ref a), .val (.ref am), .val (.int (2 : Int32)), .val (.ref a43), .val (.int (2 : Int32)), .val (.int (2 : Int32)), .val (.int (2 : Int32)), .val (.int x), .val (.int y)] []) _ _ _
              refine Go.aloadN X112 hx (hb hby d_add22_309) rfl rfl ?_
              refine Go.aloadN X112 hx (hb hby d_add22_310) rfl rfl ?_
              have F113 := (Fld.other W111 (Fld.other W89 (Fld.other W88 (Fld.ext E43 f5) (Or.inl ne_a_a43)) (Or.inl ne_a_a43)) (Or.inl ne_a_a43))
              have F114 := (Exa.wr W111 (Exa.wr W89 (Exa.wr W88 (Exa.ext E43 f0))))
              refine Go.putF X112 hx hZ hown (w19 hw) Via.refl e112 F113 F114 (Or.inl (w20 hw)) (w9 hw) (ty := (.array .int)) (by decide) rfl rfl (hb hby d_add22_311) ?_
              intro T115 h115 X115 e115 W115
              have N115 := Fr.snoc X115 N111 f1
              have Z115 : n0 ≤ h115.size := by rw [Wr.size W115]; exact Z111
              have B115 : h0.size ≤ h115.size := by rw [Wr.size W115]; exact B111
              show Go _ _ _ _ T115 (mkF m 314 #[.val (.ref a), .val (.ref am), .val (.int (2 : Int32)), .val (.ref a43), .val (.int (2 : Int32)), .val (.int (2 : Int32)), .val (.int (2 : Int32)), .val (.int x), .val (.int y)] []) _ _ _
              refine Go.aloadN X115 hx (hb hby d_add22_314) rfl rfl ?_
              refine Go.iload X115 hx (hb hby d_add22_315) rfl ?_
              have F116 := (Fld.other W115 (Fld.other W111 F90 (Or.inl ne_a_a43)) (Or.inr (slot_ne (a0 := a0) (Or.inl (w32 hw)) (Or.inl (w20 hw)) (t := .int) (t' := (.array .int)) (by decide) (by decide) (by decide))))
              refine Go.putF X115 hx hZ hown (w31 hw) Via.refl e115 F116 (Exa.wr W115 F114) (Or.inl (w32 hw)) (w9 hw) (ty := .int) (by decide) rfl rfl (hb hby d_add22_317) ?_
              intro T117 h117 X117 e117 W117
              have N117 := Fr.snoc X117 N115 f1
              have Z117 : n0 ≤ h117.size := by rw [Wr.size W117]; exact Z115
              have B117 : h0.size ≤ h117.size := by rw [Wr.size W117]; exact B115
              show Go _ _ _ _ T117 (mkF m 320 #[.val (.ref a), .val (.ref am), .val (.int (2 : Int32)), .val (.ref a43), .val (.int (2 : Int32)), .val (.int (2 : Int32)), .val (.int (2 : Int32)), .val (.int x), .val (.int y)] []) _ _ _
              refine Go.ret0 X117 hx hlk hret (hb hby d_add22_320) (by decide) (by decide) ?_
              rw [e117]
              have F118 := (Af.other W117 (Af.other W115 A111 (Ne.symm ne_a_a43)) (Ne.symm ne_a_a43))
              have F120 := (Fld.other W117 (Fld.same W115 F113) (Or.inr (slot_ne (a0 := a0) (Or.inl (w20 hw)) (Or.inl (w32 hw)) (t := (.array .int)) (t' := .int) (by decide) (by decide) (by decide))))
              have AC119 : Af Z h117 a43 k43 .int 4 (fun i => Value.int ((updI (updI (updI (updI (fun _ => (0 : Int32)) 0 (f 0)) 1 (F_max (f 1) y)) 2 (0 : Int32)) 3 (0 : Int32)) i)) := Af.congr F118 (fun i hi => by have hi' : i < 4 := hi; rcases lt_4 hi' with rfl | rfl | rfl | rfl <;> first | (simp [updI, updV]; done) | rfl)
              have fin119 := fin_add22_119 f x y M f12 f13 q0 q1 hM' c41 c47 c94
              exact ⟨a43, rfl, N117, (Keep.wr (Keep.wr (Keep.wr (Keep.wr (Keep.wr (Keep.ext (Keep.refl _ _) E43) W88 (Or.inr y_a43)) W89 (Or.inr y_a43)) W111 (Or.inr y_a43)) W115 (Or.inl (List.mem_of_getElem? (i := 0) rfl))) W117 (Or.inl (List.mem_of_getElem? (i := 0) rfl))), (Exa.wr W117 (Exa.wr W115 F114)), ⟨_, _, 4, 2, _, F120, (Fld.same W117 F116), AC119, ne_a_a43, (fun _ => g_a43), (Or.inr (Or.inr (Or.inl ⟨(k_up f9 (by decide)), rfl, rfl, rfl⟩))), fin119.1, fin119.2⟩⟩
  · refine Go.icmpNo X40 hx (hb hby d_add22_26) (XT.ii_lt_f c41) ?_
    show Go _ _ _ _ T40 (mkF m 29 #[.val (.ref a), .val (.ref am), .val (.int (2 : Int32)), .unset, .unset, .unset, .unset, .unset, .unset] []) _ _ _
    as_aux_lemma =>
      refine Go.iconst X40 hx (hb hby d_add22_29) ?_
      show Go _ _ _ _ T40 (mkF m 30 #[.val (.ref a), .val (.ref am), .val (.int (2 : Int32)), .unset, .unset, .unset, .unset, .unset, .unset] [(.int (0 : Int32))]) _ _ _
      refine Go.istoreN X40 hx (hb hby d_add22_30) (l' := #[.val (.ref a), .val (.ref am), .val (.int (2 : Int32)), .val (.int (0 : Int32)), .unset, .unset, .unset, .unset, .unset]) rfl ?_
      refine Go.aloadN X40 hx (hb hby d_add22_31) rfl rfl ?_
      refine Go.getF X40 hx hZ hown (w31 hw) Via.refl e40 f6 (hb hby d_add22_32) ?_
      intro T125 X125 e125
      show Go _ _ _ _ T125 (mkF m 35 #[.val (.ref a), .val (.ref am), .val (.int (2 : Int32)), .val (.int (0 : Int32)), .unset, .unset, .unset, .unset, .unset] [(.int (2 : Int32))]) _ _ _
      refine Go.ifNo X125 hx (hb hby d_add22_35) (XT.i0_le_f (by decide)) ?_
      show Go _ _ _ _ T125 (mkF m 38 #[.val (.ref a), .val (.ref am), .val (.int (2 : Int32)), .val (.int (0 : Int32)), .unset, .unset, .unset, .unset, .unset] []) _ _ _
      refine Go.aloadN X125 hx (hb hby d_add22_38) rfl rfl ?_
      refine Go.iconst X125 hx (hb hby d_add22_39) ?_
      show Go _ _ _ _ T125 (mkF m 40 #[.val (.ref a), .val (.ref am), .val (.int (2 : Int32)), .val (.int (0 : Int32)), .unset, .unset, .unset, .unset, .unset] [(.int (0 : Int32)), (.ref am)]) _ _ _
      refine Go.iaload X125 hx hZ e125 f8 (by decide) (by decide) (hb hby d_add22_40) ?_
      show Go _ _ _ _ T125 (mkF m 41 #[.val (.ref a), .val (.ref am), .val (.int (2 : Int32)), .val (.int (0 : Int32)), .unset, .unset, .unset, .unset, .unset] [(.int x)]) _ _ _
      refine Go.aloadN X125 hx (hb hby d_add22_41) rfl rfl ?_
      refine Go.getF X125 hx hZ hown (w19 hw) Via.refl e125 f5 (hb hby d_add22_42) ?_
      intro T126 X126 e126
      show Go _ _ _ _ T126 (mkF m 45 #[.val (.ref a), .val (.ref am), .val (.int (2 : Int32)), .val (.int (0 : Int32)), .unset, .unset, .unset, .unset, .unset] [(.ref aB), (.int x)]) _ _ _
      refine Go.aloadN X126 hx (hb hby d_add22_45) rfl rfl ?_
      refine Go.getF X126 hx hZ hown (w31 hw) Via.refl e126 f6 (hb hby d_add22_46) ?_
      intro T127 X127 e127
      show Go _ _ _ _ T127 (mkF m 49 #[.val (.ref a), .val (.ref am), .val (.int (2 : Int32)), .val (.int (0 : Int32)), .unset, .unset, .unset, .unset, .unset] [(.int (2 : Int32)), (.ref aB), (.int x)]) _ _ _
      refine Go.iconst X127 hx (hb hby d_add22_49) ?_
      show Go _ _ _ _ T127 (mkF m 50 #[.val (.ref a), .val (.ref am), .val (.int (2 : Int32)), .val (.int (0 : Int32)), .unset, .unset, .unset, .unset, .unset] [(.int (1 : Int32)), (.int (2 : Int32)), (.ref aB), (.int x)]) _ _ _
      refine Go.isub X127 hx (hb hby d_add22_50) ?_
      show Go _ _ _ _ T127 (mkF m 51 #[.val (.ref a), .val (.ref am), .val (.int (2 : Int32)), .val (.int (0 : Int32)), .unset, .unset, .unset, .unset, .unset] [(.int (1 : Int32)), (.ref aB), (.int x)]) _ _ _
      refine Go.iaload X127 hx hZ e127 f7 (by decide) (by decide) (hb hby d_add22_51) ?_
      show Go _ _ _ _ T127 (mkF m 52 #[.val (.ref a), .val (.ref am), .val (.int (2 : Int32)), .val (.int (0 : Int32)), .unset, .unset, .unset, .unset, .unset] [(.int (f 1)), (.int x)]) _ _ _
      rcases Decidable.em (x = (f 1)) with c128 | c128
      · refine Go.icmpNo X127 hx (hb hby d_add22_52) (XT.ii_ne_f c128) ?_
        show Go _ _ _ _ T127 (mkF m 55 #[.val (.ref a), .val (.ref am), .val (.int (2 : Int32)), .val (.int (0 : Int32)), .unset, .unset, .unset, .unset, .unset] []) _ _ _
        as_aux_lemma =>
          refine Go.aloadN X127 hx (hb hby d_add22_55) rfl rfl ?_
          refine Go.getF X127 hx hZ hown (w19 hw) Via.refl e127 f5 (hb hby d_add22_56) ?_
          intro T129 X129 e129
          show Go _ _ _ _ T129 (mkF m 59 #[.val (.ref a), .val (.ref am), .val (.int (2 : Int32)), .val (.int (0 : Int32)), .unset, .unset, .unset, .unset, .unset] [(.ref aB)]) _ _ _
          refine Go.aloadN X129 hx (hb hby d_add22_59) rfl rfl ?_
          refine Go.getF X129 hx hZ hown (w31 hw) Via.refl e129 f6 (hb hby d_add22_60) ?_
          intro T130 X130 e130
          show Go _ _ _ _ T130 (mkF m 63 #[.val (.ref a), .val (.ref am), .val (.int (2 : Int32)), .val (.int (0 : Int32)), .unset, .unset, .unset, .unset, .unset] [(.int (2 : Int32)), (.ref aB)]) _ _ _
          refine Go.iconst X130 hx (hb hby d_add22_63) ?_
          show Go _ _ _ _ T130 (mkF m 64 #[.val (.ref a), .val (.ref am), .val (.int (2 : Int32)), .val (.int (0 : Int32)), .unset, .unset, .unset, .unset, .unset] [(.int (1 : Int32)), (.int (2 : Int32)), (.ref aB)]) _ _ _
          refine Go.isub X130 hx (hb hby d_add22_64) ?_
          show Go _ _ _ _ T130 (mkF m 65 #[.val (.ref a), .val (.ref am), .val (.int (2 : Int32)), .val (.int (0 : Int32)), .unset, .unset, .unset, .unset, .unset] [(.int (1 : Int32)), (.ref aB)]) _ _ _
          refine Go.aloadN X130 hx (hb hby d_add22_65) rfl rfl ?_
          refine Go.iconst X130 hx (hb hby d_add22_66) ?_
          show Go _ _ _ _ T130 (mkF m 67 #[.val (.ref a), .val (.ref am), .val (.int (2 : Int32)), .val (.int (0 : Int32)), .unset, .unset, .unset, .unset, .unset] [(.int (1 : Int32)), (.ref am), (.int (1 : Int32)), (.ref aB)]) _ _ _
          refine Go.iaload X130 hx hZ e130 f8 (by decide) (by decide) (hb hby d_add22_67) ?_
          show Go _ _ _ _ T130 (mkF m 68 #[.val (.ref a), .val (.ref am), .val (.int (2 : Int32)), .val (.int (0 : Int32)), .unset, .unset, .unset, .unset, .unset] [(.int y), (.int (1 : Int32)), (.ref aB)]) _ _ _
          refine Go.iastore X130 hx hZ e130 f7 (by decide) (by decide) (hb hby d_add22_68) ?_
          intro T131 h131 X131 e131 W131 A131
          have N131 := Fr.snoc X131 N0 f14
          have Z131 : n0 ≤ h131.size := by rw [Wr.size W131]; exact Z0
          have B131 : h0.size ≤ h131.size := by rw [Wr.size W131]; exact (Nat.le_refl _)
          show Go _ _ _ _ T131 (mkF m 69 #[.val (.ref a), .val (.ref am), .val (.int (2 : Int32)), .val (.int (0 : Int32)), .unset, .unset, .unset, .unset, .unset] []) _ _ _
          refine Go.iconst X131 hx (hb hby d_add22_69) ?_
          show Go _ _ _ _ T131 (mkF m 70 #[.val (.ref a), .val (.ref am), .val (.int (2 : Int32)), .val (.int (0 : Int32)), .unset, .unset, .unset, .unset, .unset] [(.int (2 : Int32))]) _ _ _
          refine Go.istoreN X131 hx (hb hby d_add22_70) (l' := #[.val (.ref a), .val (.ref am), .val (.int (2 : Int32)), .val (.int (2 : Int32)), .unset, .unset, .unset, .unset, .unset]) rfl ?_
          refine Go.aloadN X131 hx (hb hby d_add22_71) rfl rfl ?_
          refine Go.getF X131 hx hZ hown (w31 hw) Via.refl e131 (Fld.other W131 f6 (Or.inl f2)) (hb hby d_add22_72) ?_
          intro T132 X132 e132
          show Go _ _ _ _ T132 (mkF m 75 #[.val (.ref a), .val (.ref am), .val (.int (2 : Int32)), .val (.int (2 : Int32)), .unset, .unset, .unset, .unset, .unset] [(.int (2 : Int32))]) _ _ _
          refine Go.iloadN X132 hx (hb hby d_add22_75) rfl ?_
          refine Go.iadd X132 hx (hb hby d_add22_76) ?_
          show Go _ _ _ _ T132 (mkF m 77 #[.val (.ref a), .val (.ref am), .val (.int (2 : Int32)), .val (.int (2 : Int32)), .unset, .unset, .unset, .unset, .unset] [(.int (4 : Int32))]) _ _ _
          refine Go.iloadN X132 hx (hb hby d_add22_77) rfl ?_
          refine Go.isub X132 hx (hb hby d_add22_78) ?_
          show Go _ _ _ _ T132 (mkF m 79 #[.val (.ref a), .val (.ref am), .val (.int (2 : Int32)), .val (.int (2 : Int32)), .unset, .unset, .unset, .unset, .unset] [(.int (2 : Int32))]) _ _ _
          refine Go.aloadN X132 hx (hb hby d_add22_79) rfl rfl ?_
          refine Go.getF X132 hx hZ hown (w19 hw) Via.refl e132 (Fld.other W131 f5 (Or.inl f2)) (hb hby d_add22_80) ?_
          intro T133 X133 e133
          show Go _ _ _ _ T133 (mkF m 83 #[.val (.ref a), .val (.ref am), .val (.int (2 : Int32)), .val (.int (2 : Int32)), .unset, .unset, .unset, .unset, .unset] [(.ref aB), (.int (2 : Int32))]) _ _ _
          refine Go.alen X133 hx hZ e133 A131 (hb hby d_add22_83) ?_
          show Go _ _ _ _ T133 (mkF m 84 #[.val (.ref a), .val (.ref am), .val (.int (2 : Int32)), .val (.int (2 : Int32)), .unset, .unset, .unset, .unset, .unset] [(.int (2 : Int32)), (.int (2 : Int32))]) _ _ _
          refine Go.icmpYes X133 hx (hb hby d_add22_84) (XT.ii_le_t (by decide)) (pc' := 116) (by decide) (by decide) ?_
          show Go _ _ _ _ T133 (mkF m 116 #[.val (.ref a), .val (.ref am), .val (.int (2 : Int32)), .val (.int (2 : Int32)), .unset, .unset, .unset, .unset, .unset] []) _ _ _
          refine Go.aloadN X133 hx (hb hby d_add22_116) rfl rfl ?_
          refine Go.iloadN X133 hx (hb hby d_add22_117) rfl ?_
          refine Go.aloadN X133 hx (hb hby d_add22_118) rfl rfl ?_
          refine Go.getF X133 hx hZ hown (w19 hw) Via.refl e133 (Fld.other W131 f5 (Or.inl f2)) (hb hby d_add22_119) ?_
          intro T134 X134 e134
          show Go _ _ _ _ T134 (mkF m 122 #[.val (.ref a), .val (.ref am), .val (.int (2 : Int32)), .val (.int (2 : Int32)), .unset, .unset, .unset, .unset, .unset] [(.ref aB), (.int (2 : Int32)), (.ref am)]) _ _ _
          refine Go.aloadN X134 hx (hb hby d_add22_122) rfl rfl ?_
          refine Go.getF X134 hx hZ hown (w31 hw) Via.refl e134 (Fld.other W131 f6 (Or.inl f2)) (hb hby d_add22_123) ?_
          intro T135 X135 e135
          show Go _ _ _ _ T135 (mkF m 126 #[.val (.ref a), .val (.ref am), .val (.int (2 : Int32)), .val (.int (2 : Int32)), .unset, .unset, .unset, .unset, .unset] [(.int (2 : Int32)), (.ref aB), (.int (2 : Int32)), (.ref am)]) _ _ _
          refine Go.iloadN X135 hx (hb hby d_add22_126) rfl ?_
          refine Go.iloadN X135 hx (hb hby d_add22_127) rfl ?_
          refine Go.isub X135 hx (hb hby d_add22_128) ?_
          show Go _ _ _ _ T135 (mkF m 129 #[.val (.ref a), .val (.ref am), .val (.int (2 : Int32)), .val (.int (2 : Int32)), .unset, .unset, .unset, .unset, .unset] [(.int (0 : Int32)), (.int (2 : Int32)), (.ref aB), (.int (2 : Int32)), (.ref am)]) _ _ _
          refine Go.acopy (W := 0) X135 hx hZ hown (w43 hw) (w42 hw) (w40 hw) (w41 hw) e135 (Af.other W131 f8 (Ne.symm f4)) A131 rfl (fun i hi => by have hi' : i < 2 := hi; rcases lt_2 hi' with rfl | rfl <;> first | (simp [updI, updV]; done) | rfl) (fun i hi => by have hi' : i < 2 := hi; rcases lt_2 hi' with rfl | rfl <;> first | (simp [updI, updV]; done) | rfl) (by decide) (by decide) (by decide) (by decide) (by decide) N131 f14 (hb hby d_add22_129) (by rw [hml]; rfl) (Nat.le_of_eq rfl) (by decide) (by decide) ?_
          intro T136 h136 L136 X136 e136 N136 K136 A136
          have Z136 : n0 ≤ h136.size := Nat.le_trans Z131 K136.1
          have B136 : h0.size ≤ h136.size := Nat.le_trans B131 K136.1
          have A137 : Af Z h136 aB kB .int 2 (fun i => Value.int ((updI (updI (fun _ => (0 : Int32)) 0 (f 0)) 1 y) i)) := Af.congr A136 (fun i hi => by have hi' : i < 2 := hi; rcases lt_2 hi' with rfl | rfl <;> first | (simp [updI, updV]; done) | rfl)
          show Go _ _ _ _ T136 (mkF m 132 #[.val (.ref a), .val (.ref am), .val (.int (2 : Int32)), .val (.int (2 : Int32)), .unset, .unset, .unset, .unset, .unset] []) _ _ _
          refine Go.aloadN X136 hx (hb hby d_add22_132) rfl rfl ?_
          refine Go.dup X136 hx (hb hby d_add22_133) rfl ?_
          have F138 := (Fld.keep (Fld.other W131 f6 (Or.inl f2)) K136 (ninS f2 nin0))
          refine Go.getF X136 hx hZ hown (w31 hw) Via.refl e136 F138 (hb hby d_add22_134) ?_
          intro T139 X139 e139
          show Go _ _ _ _ T139 (mkF m 137 #[.val (.ref a), .val (.ref am), .val (.int (2 : Int32)), .val (.int (2 : Int32)), .unset, .unset, .unset, .unset, .unset] [(.int (2 : Int32)), (.ref a)]) _ _ _
          refine Go.iloadN X139 hx (hb hby d_add22_137) rfl ?_
          refine Go.iloadN X139 hx (hb hby d_add22_138) rfl ?_
          refine Go.isub X139 hx (hb hby d_add22_139) ?_
          show Go _ _ _ _ T139 (mkF m 140 #[.val (.ref a), .val (.ref am), .val (.int (2 : Int32)), .val (.int (2 : Int32)), .unset, .unset, .unset, .unset, .unset] [(.int (0 : Int32)), (.int (2 : Int32)), (.ref a)]) _ _ _
          refine Go.iadd X139 hx (hb hby d_add22_140) ?_
          show Go _ _ _ _ T139 (mkF m 141 #[.val (.ref a), .val (.ref am), .val (.int (2 : Int32)), .val (.int (2 : Int32)), .unset, .unset, .unset, .unset, .unset] [(.int (2 : Int32)), (.ref a)]) _ _ _
          refine Go.putF X139 hx hZ hown (w31 hw) Via.refl e139 F138 (Exa.keep (Exa.wr W131 f0) K136) (Or.inl (w32 hw)) (w9 hw) (ty := .int) (by decide) rfl rfl (hb hby d_add22_141) ?_
          intro T140 h140 X140 e140 W140
          have N140 := Fr.snoc X140 N136 f1
          have Z140 : n0 ≤ h140.size := by rw [Wr.size W140]; exact Z136
          have B140 : h0.size ≤ h140.size := by rw [Wr.size W140]; exact B136
          show Go _ _ _ _ T140 (mkF m 144 #[.val (.ref a), .val (.ref am), .val (.int (2 : Int32)), .val (.int (2 : Int32)), .unset, .unset, .unset, .unset, .unset] []) _ _ _
          refine Go.goto X140 hx (hb hby d_add22_144) (pc' := 320) (by decide) (by decide) ?_
          show Go _ _ _ _ T140 (mkF m 320 #[.val (.ref a), .val (.ref am), .val (.int (2 : Int32)), .val (.int (2 : Int32)), .unset, .unset, .unset, .unset, .unset] []) _ _ _
          refine Go.ret0 X140 hx hlk hret (hb hby d_add22_320) (by decide) (by decide) ?_
          rw [e140]
          have F141 := (Exa.wr W140 (Exa.keep (Exa.wr W131 f0) K136))
          have F143 := (Fld.other W140 (Fld.keep (Fld.other W131 f5 (Or.inl f2)) K136 (ninS f2 nin0)) (Or.inr (slot_ne (a0 := a0) (Or.inl (w20 hw)) (Or.inl (w32 hw)) (t := (.array .int)) (t' := .int) (by decide) (by decide) (by decide))))
          have AC142 : Af Z h140 aB kB .int 2 (fun i => Value.int ((updI (updI (fun _ => (0 : Int32)) 0 (f 0)) 1 y) i)) := Af.congr (Af.other W140 A137 (Ne.symm f2)) (fun i hi => by have hi' : i < 2 := hi; rcases lt_2 hi' with rfl | rfl <;> first | (simp [updI, updV]; done) | rfl)
          have fin142 := fin_add22_142 f x y M f12 f13 q0 q1 hM' c41 c128
          exact ⟨aB, rfl, N140, (Keep.wr (Keep.trans (Keep.wr (Keep.refl _ _) W131 (Or.inl (List.mem_of_getElem? (i := 1) rfl))) K136 (allS (Or.inl (List.mem_of_getElem? (i := 1) rfl)) all0)) W140 (Or.inl (List.mem_of_getElem? (i := 0) rfl))), F141, ⟨_, _, 2, 2, _, F143, (Fld.same W140 F138), AC142, f2, (fun _ => f14), (Or.inr (Or.inl ⟨(k_up f9 (by decide)), rfl, rfl, rfl⟩)), fin142.1, fin142.2⟩⟩
      · refine Go.icmpYes X127 hx (hb hby d_add22_52) (XT.ii_ne_t c128) (pc' := 71) (by decide) (by decide) ?_
        show Go _ _ _ _ T127 (mkF m 71 #[.val (.ref a), .val (.ref am), .val (.int (2 : Int32)), .val (.int (0 : Int32)), .unset, .unset, .unset, .unset, .unset] []) _ _ _
        as_aux_lemma =>
          refine Go.aloadN X127 hx (hb hby d_add22_71) rfl rfl ?_
          refine Go.getF X127 hx hZ hown (w31 hw) Via.refl e127 f6 (hb hby d_add22_72) ?_
          intro T146 X146 e146
          show Go _ _ _ _ T146 (mkF m 75 #[.val (.ref a), .val (.ref am), .val (.int (2 : Int32)), .val (.int (0 : Int32)), .unset, .unset, .unset, .unset, .unset] [(.int (2 : Int32))]) _ _ _
          refine Go.iloadN X146 hx (hb hby d_add22_75) rfl ?_
          refine Go.iadd X146 hx (hb hby d_add22_76) ?_
          show Go _ _ _ _ T146 (mkF m 77 #[.val (.ref a), .val (.ref am), .val (.int (2 : Int32)), .val (.int (0 : Int32)), .unset, .unset, .unset, .unset, .unset] [(.int (4 : Int32))]) _ _ _
          refine Go.iloadN X146 hx (hb hby d_add22_77) rfl ?_
          refine Go.isub X146 hx (hb hby d_add22_78) ?_
          show Go _ _ _ _ T146 (mkF m 79 #[.val (.ref a), .val (.ref am), .val (.int (2 : Int32)), .val (.int (0 : Int32)), .unset, .unset, .unset, .unset, .unset] [(.int (4 : Int32))]) _ _ _
          refine Go.aloadN X146 hx (hb hby d_add22_79) rfl rfl ?_
          refine Go.getF X146 hx hZ hown (w19 hw) Via.refl e146 f5 (hb hby d_add22_80) ?_
          intro T147 X147 e147
          show Go _ _ _ _ T147 (mkF m 83 #[.val (.ref a), .val (.ref am), .val (.int (2 : Int32)), .val (.int (0 : Int32)), .unset, .unset, .unset, .unset, .unset] [(.ref aB), (.int (4 : Int32))]) _ _ _
          refine Go.alen X147 hx hZ e147 f7 (hb hby d_add22_83) ?_
          show Go _ _ _ _ T147 (mkF m 84 #[.val (.ref a), .val (.ref am), .val (.int (2 : Int32)), .val (.int (0 : Int32)), .unset, .unset, .unset, .unset, .unset] [(.int (2 : Int32)), (.int (4 : Int32))]) _ _ _
          refine Go.icmpNo X147 hx (hb hby d_add22_84) (XT.ii_le_f (by decide)) ?_
          show Go _ _ _ _ T147 (mkF m 87 #[.val (.ref a), .val (.ref am), .val (.int (2 : Int32)), .val (.int (0 : Int32)), .unset, .unset, .unset, .unset, .unset] []) _ _ _
          refine Go.aloadN X147 hx (hb hby d_add22_87) rfl rfl ?_
          refine Go.aloadN X147 hx (hb hby d_add22_88) rfl rfl ?_
          refine Go.getF X147 hx hZ hown (w19 hw) Via.refl e147 f5 (hb hby d_add22_89) ?_
          intro T148 X148 e148
          show Go _ _ _ _ T148 (mkF m 92 #[.val (.ref a), .val (.ref am), .val (.int (2 : Int32)), .val (.int (0 : Int32)), .unset, .unset, .unset, .unset, .unset] [(.ref aB), (.ref a)]) _ _ _
          refine Go.iconst X148 hx (hb hby d_add22_92) ?_
          show Go _ _ _ _ T148 (mkF m 93 #[.val (.ref a), .val (.ref am), .val (.int (2 : Int32)), .val (.int (0 : Int32)), .unset, .unset, .unset, .unset, .unset] [(.int (2 : Int32)), (.ref aB), (.ref a)]) _ _ _
          refine Go.aloadN X148 hx (hb hby d_add22_93) rfl rfl ?_
          refine Go.getF X148 hx hZ hown (w19 hw) Via.refl e148 f5 (hb hby d_add22_94) ?_
          intro T149 X149 e149
          show Go _ _ _ _ T149 (mkF m 97 #[.val (.ref a), .val (.ref am), .val (.int (2 : Int32)), .val (.int (0 : Int32)), .unset, .unset, .unset, .unset, .unset] [(.ref aB), (.int (2 : Int32)), (.ref aB), (.ref a)]) _ _ _
          refine Go.alen X149 hx hZ e149 f7 (hb hby d_add22_97) ?_
          show Go _ _ _ _ T149 (mkF m 98 #[.val (.ref a), .val (.ref am), .val (.int (2 : Int32)), .val (.int (0 : Int32)), .unset, .unset, .unset, .unset, .unset] [(.int (2 : Int32)), (.int (2 : Int32)), (.ref aB), (.ref a)]) _ _ _
          refine Go.imul X149 hx (hb hby d_add22_98) ?_
          show Go _ _ _ _ T149 (mkF m 99 #[.val (.ref a), .val (.ref am), .val (.int (2 : Int32)), .val (.int (0 : Int32)), .unset, .unset, .unset, .unset, .unset] [(.int (4 : Int32)), (.ref aB), (.ref a)]) _ _ _
          refine Go.aloadN X149 hx (hb hby d_add22_99) rfl rfl ?_
          refine Go.getF X149 hx hZ hown (w31 hw) Via.refl e149 f6 (hb hby d_add22_100) ?_
          intro T150 X150 e150
          show Go _ _ _ _ T150 (mkF m 103 #[.val (.ref a), .val (.ref am), .val (.int (2 : Int32)), .val (.int (0 : Int32)), .unset, .unset, .unset, .unset, .unset] [(.int (2 : Int32)), (.int (4 : Int32)), (.ref aB), (.ref a)]) _ _ _
          refine Go.iloadN X150 hx (hb hby d_add22_103) rfl ?_
          refine Go.iadd X150 hx (hb hby d_add22_104) ?_
          show Go _ _ _ _ T150 (mkF m 105 #[.val (.ref a), .val (.ref am), .val (.int (2 : Int32)), .val (.int (0 : Int32)), .unset, .unset, .unset, .unset, .unset] [(.int (4 : Int32)), (.int (4 : Int32)), (.ref aB), (.ref a)]) _ _ _
          refine Go.iloadN X150 hx (hb hby d_add22_105) rfl ?_
          refine Go.isub X150 hx (hb hby d_add22_106) ?_
          show Go _ _ _ _ T150 (mkF m 107 #[.val (.ref a), .val (.ref am), .val (.int (2 : Int32)), .val (.int (0 : Int32)), .unset, .unset, .unset, .unset, .unset] [(.int (4 : Int32)), (.int (4 : Int32)), (.ref aB), (.ref a)]) _ _ _
          refine Go.callS (W := 2) (argsL := [(.int (4 : Int32)), (.int (4 : Int32))]) (rest := [(.ref aB), (.ref a)]) X150 hx hZ hown (w33 hw) (w6 hw) (w3 hw) (w7 hw) (by decide) (rm_max l Z a0 hw ((4 : Int32)) ((4 : Int32)) h0) e150 (lenOf pd_0 rfl) (hb hby d_add22_107) (by rw [hml]; rfl) rfl (Nat.le_of_eq rfl) (by decide) (by decide) (by decide) (by decide) ?_
          intro v151 T151 L151 X151 q151
          obtain ⟨rfl, rfl, e151⟩ := q151
          have N151 := Fr.app N0 (Fr.nil n0)
          show Go _ _ _ _ T151 (mkF m 110 #[.val (.ref a), .val (.ref am), .val (.int (2 : Int32)), .val (.int (0 : Int32)), .unset, .unset, .unset, .unset, .unset] [(.int (4 : Int32)), (.ref aB), (.ref a)]) _ _ _
          refine Go.callS (W := 1) (argsL := [(.ref aB), (.int (4 : Int32))]) (rest := [(.ref a)]) X151 hx hZ hown (w34 hw) (w35 hw) (w36 hw) (w37 hw) (by decide) (rm_cp2 l Z a0 hw aB kB f h0 n0 Z0 f7) e151 (lenOf pd_1 rfl) (hb hby d_add22_110) (by rw [hml]; rfl) rfl (Nat.le_of_eq rfl) (by decide) (by decide) (by decide) (by decide) ?_
          intro v152 T152 L152 X152 q152
          obtain ⟨r152, ks152, rfl, M152, K152, P152_0, P152_1, P152_2⟩ := q152
          have N152 := Fr.app N151 M152
          have Z152 : n0 ≤ T152.heap.size := Nat.le_trans Z0 K152.1
          have B152 : h0.size ≤ T152.heap.size := Nat.le_trans (Nat.le_refl _) K152.1
          have ne_a_r152 : a ≠ r152 := Nat.ne_of_lt (Nat.lt_of_lt_of_le (f0).lt P152_1)
          have ne_aB_r152 : aB ≠ r152 := Nat.ne_of_lt (Nat.lt_of_lt_of_le (f7).lt P152_1)
          have ne_am_r152 : am ≠ r152 := Nat.ne_of_lt (Nat.lt_of_lt_of_le (f8).lt P152_1)
          show Go _ _ _ _ T152 (mkF m 113 #[.val (.ref a), .val (.ref am), .val (.int (2 : Int32)), .val (.int (0 : Int32)), .unset, .unset, .unset, .unset, .unset] [(.ref r152), (.ref a)]) _ _ _
          refine Go.putF X152 hx hZ hown (w19 hw) Via.refl rfl (Fld.keep f5 K152 nin0) (Exa.keep f0 K152) (Or.inl (w20 hw)) (w9 hw) (ty := (.array .int)) (by decide) rfl rfl (hb hby d_add22_113) ?_
          intro T153 h153 X153 e153 W153
          have N153 := Fr.snoc X153 N152 f1
          have Z153 : n0 ≤ h153.size := by rw [Wr.size W153]; exact Z152
          have B153 : h0.size ≤ h153.size := by rw [Wr.size W153]; exact B152
          show Go _ _ _ _ T153 (mkF m 116 #[.val (.ref a), .val (.ref am), .val (.int (2 : Int32)), .val (.int (0 : Int32)), .unset, .unset, .unset, .unset, .unset] []) _ _ _
          refine Go.aloadN X153 hx (hb hby d_add22_116) rfl rfl ?_
          refine Go.iloadN X153 hx (hb hby d_add22_117) rfl ?_
          refine Go.aloadN X153 hx (hb hby d_add22_118) rfl rfl ?_
          refine Go.getF X153 hx hZ hown (w19 hw) Via.refl e153 (Fld.same W153 (Fld.keep f5 K152 nin0)) (hb hby d_add22_119) ?_
          intro T154 X154 e154
          show Go _ _ _ _ T154 (mkF m 122 #[.val (.ref a), .val (.ref am), .val (.int (2 : Int32)), .val (.int (0 : Int32)), .unset, .unset, .unset, .unset, .unset] [(.ref r152), (.int (0 : Int32)), (.ref am)]) _ _ _
          refine Go.aloadN X154 hx (hb hby d_add22_122) rfl rfl ?_
          have F155 := (Fld.other W153 (Fld.keep f6 K152 nin0) (Or.inr (slot_ne (a0 := a0) (Or.inl (w32 hw)) (Or.inl (w20 hw)) (t := .int) (t' := (.array .int)) (by decide) (by decide) (by decide))))
          refine Go.getF X154 hx hZ hown (w31 hw) Via.refl e154 F155 (hb hby d_add22_123) ?_
          intro T156 X156 e156
          show Go _ _ _ _ T156 (mkF m 126 #[.val (.ref a), .val (.ref am), .val (.int (2 : Int32)), .val (.int (0 : Int32)), .unset, .unset, .unset, .unset, .unset] [(.int (2 : Int32)), (.ref r152), (.int (0 : Int32)), (.ref am)]) _ _ _
          refine Go.iloadN X156 hx (hb hby d_add22_126) rfl ?_
          refine Go.iloadN X156 hx (hb hby d_add22_127) rfl ?_
          refine Go.isub X156 hx (hb hby d_add22_128) ?_
          show Go _ _ _ _ T156 (mkF m 129 #[.val (.ref a), .val (.ref am), .val (.int (2 : Int32)), .val (.int (0 : Int32)), .unset, .unset, .unset, .unset, .unset] [(.int (2 : Int32)), (.int (2 : Int32)), (.ref r152), (.int (0 : Int32)), (.ref am)]) _ _ _
          have F158 := (Af.other W153 (Af.keep f8 K152 nin0) (Ne.symm f3))
          have F159 := (Af.other W153 P152_2 (Ne.symm ne_a_r152))
          refine Go.acopy (W := 0) X156 hx hZ hown (w43 hw) (w42 hw) (w40 hw) (w41 hw) e156 F158 F159 rfl (fun i hi => by have hi' : i < 2 := hi; rcases lt_2 hi' with rfl | rfl <;> first | (simp [updI, updV]; done) | rfl) (fun i hi => by have hi' : i < 4 := hi; rcases lt_4 hi' with rfl | rfl | rfl | rfl <;> first | (simp [updI, updV]; done) | rfl) (by decide) (by decide) (by decide) (by decide) (by decide) N153 P152_0 (hb hby d_add22_129) (by rw [hml]; rfl) (Nat.le_of_eq rfl) (by decide) (by decide) ?_
          intro T157 h157 L157 X157 e157 N157 K157 A157
          have Z157 : n0 ≤ h157.size := Nat.le_trans Z153 K157.1
          have B157 : h0.size ≤ h157.size := Nat.le_trans B153 K157.1
          have A160 : Af Z h157 r152 ks152 .int 4 (fun i => Value.int ((updI (updI (updI (updI (fun _ => (0 : Int32)) 0 (f 0)) 1 (f 1)) 2 x) 3 y) i)) := Af.congr A157 (fun i hi => by have hi' : i < 4 := hi; rcases lt_4 hi' with rfl | rfl | rfl | rfl <;> first | (simp [updI, updV]; done) | rfl)
          show Go _ _ _ _ T157 (mkF m 132 #[.val (.ref a), .val (.ref am), .val (.int (2 : Int32)), .val (.int (0 : Int32)), .unset, .unset, .unset, .unset, .unset] []) _ _ _
          refine Go.aloadN X157 hx (hb hby d_add22_132) rfl rfl ?_
          refine Go.dup X157 hx (hb hby d_add22_133) rfl ?_
          have F161 := (Fld.keep F155 K157 (ninS ne_a_r152 nin0))
          refine Go.getF X157 hx hZ hown (w31 hw) Via.refl e157 F161 (hb hby d_add22_134) ?_
          intro T162 X162 e162
          show Go _ _ _ _ T162 (mkF m 137 #[.val (.ref a), .val (.ref am), .val (.int (2 : Int32)), .val (.int (0 : Int32)), .unset, .unset, .unset, .unset, .unset] [(.int (2 : Int32)), (.ref a)]) _ _ _
          refine Go.iloadN X162 hx (hb hby d_add22_137) rfl ?_
          refine Go.iloadN X162 hx (hb hby d_add22_138) rfl ?_
          refine Go.isub X162 hx (hb hby d_add22_139) ?_
          show Go _ _ _ _ T162 (mkF m 140 #[.val (.ref a), .val (.ref am), .val (.int (2 : Int32)), .val (.int (0 : Int32)), .unset, .unset, .unset, .unset, .unset] [(.int (2 : Int32)), (.int (2 : Int32)), (.ref a)]) _ _ _
          refine Go.iadd X162 hx (hb hby d_add22_140) ?_
          show Go _ _ _ _ T162 (mkF m 141 #[.val (.ref a), .val (.ref am), .val (.int (2 : Int32)), .val (.int (0 : Int32)), .unset, .unset, .unset, .unset, .unset] [(.int (4 : Int32)), (.ref a)]) _ _ _
          have F163 := (Exa.keep (Exa.wr W153 (Exa.keep f0 K152)) K157)
          refine Go.putF X162 hx hZ hown (w31 hw) Via.refl e162 F161 F163 (Or.inl (w32 hw)) (w9 hw) (ty := .int) (by decide) rfl rfl (hb hby d_add22_141) ?_
          intro T164 h164 X164 e164 W164
          have N164 := Fr.snoc X164 N157 f1
          have Z164 : n0 ≤ h164.size := by rw [Wr.size W164]; exact Z157
          have B164 : h0.size ≤ h164.size := by rw [Wr.size W164]; exact B157
          show Go _ _ _ _ T164 (mkF m 144 #[.val (.ref a), .val (.ref am), .val (.int (2 : Int32)), .val (.int (0 : Int32)), .unset, .unset, .unset, .unset, .unset] []) _ _ _
          refine Go.goto X164 hx (hb hby d_add22_144) (pc' := 320) (by decide) (by decide) ?_
          show Go _ _ _ _ T164 (mkF m 320 #[.val (.ref a), .val (.ref am), .val (.int (2 : Int32)), .val (.int (0 : Int32)), .unset, .unset, .unset, .unset, .unset] []) _ _ _
          refine Go.ret0 X164 hx hlk hret (hb hby d_add22_320) (by decide) (by decide) ?_
          rw [e164]
          have F166 := (Fld.other W164 (Fld.keep (Fld.same W153 (Fld.keep f5 K152 nin0)) K157 (ninS ne_a_r152 nin0)) (Or.inr (slot_ne (a0 := a0) (Or.inl (w20 hw)) (Or.inl (w32 hw)) (t := (.array .int)) (t' := .int) (by decide) (by decide) (by decide))))
          have AC165 : Af Z h164 r152 ks152 .int 4 (fun i => Value.int ((updI (updI (updI (updI (fun _ => (0 : Int32)) 0 (f 0)) 1 (f 1)) 2 x) 3 y) i)) := Af.congr (Af.other W164 A160 (Ne.symm ne_a_r152)) (fun i hi => by have hi' : i < 4 := hi; rcases lt_4 hi' with rfl | rfl | rfl | rfl <;> first | (simp [updI, updV]; done) | rfl)
          have fin165 := fin_add22_165 f x y M f12 f13 q0 q1 hM' c41 c128
          exact ⟨r152, rfl, N164, (Keep.wr (Keep.trans (Keep.wr (Keep.trans (Keep.refl _ _) K152 all0) W153 (Or.inl (List.mem_of_getElem? (i := 0) rfl))) K157 (allS (Or.inr (Nat.le_trans (Nat.le_refl _) P152_1)) all0)) W164 (Or.inl (List.mem_of_getElem? (i := 0) rfl))), (Exa.wr W164 F163), ⟨_, _, 4, 4, _, F166, (Fld.same W164 F161), AC165, ne_a_r152, (fun _ => P152_0), (Or.inr (Or.inr (Or.inr (Or.inl ⟨(k_up f9 (by decide)), rfl, rfl, rfl⟩)))), fin165.1, fin165.2⟩⟩
theorem fin_add42_198 (f : Nat → Int32) (x y : Int32) (M : Int → Prop) (f12 : 0 ≤ x.toInt) (f13 : x.toInt < y.toInt) (q0 : 0 ≤ (f 0).toInt) (q1 : (f 0).toInt < (f 1).toInt) (hM' : ∀ n, M n ↔ ((f 0).toInt ≤ n ∧ n < (f 1).toInt)) (c172 : x < (f 1)) (c178 : x < (f 0)) (c187 : y < (f 0)) : asc (updI (updI (updI (updI (fun _ => (0 : Int32)) 0 x) 1 y) 2 (f 0)) 3 (f 1)) 4 ∧ ∀ n, ADD M x y n ↔ rm (updI (updI (updI (updI (fun _ => (0 : Int32)) 0 x) 1 y) 2 (f 0)) 3 (f 1)) 4 n := by
  have t200 := c172; rw [Int32.lt_iff_toInt_lt] at t200
  have t201 := c178; rw [Int32.lt_iff_toInt_lt] at t201
  have t202 := c187; rw [Int32.lt_iff_toInt_lt] at t202
  (refine fin4 (u := x) (v := y) (w := (f 0)) (x := (f 1)) (by simp [updI]) (by simp [updI]) (by simp [updI]) (by simp [updI]) ⟨by omega, by omega, by omega, by omega, fun n => ?_⟩
   simp only [ADD, hM', false_or]
   first | done | (constructor <;> intro z <;> omega))
theorem fin_add42_211 (f : Nat → Int32) (x y : Int32) (M : Int → Prop) (f12 : 0 ≤ x.toInt) (f13 : x.toInt < y.toInt) (q0 : 0 ≤ (f 0).toInt) (q1 : (f 0).toInt < (f 1).toInt) (hM' : ∀ n, M n ↔ ((f 0).toInt ≤ n ∧ n < (f 1).toInt)) (c172 : x < (f 1)) (c178 : x < (f 0)) (c187 : ¬ (y < (f 0))) : asc (updI (updI (updI (updI (fun _ => (0 : Int32)) 0 x) 1 (F_max y (f 1))) 2 (0 : Int32)) 3 (0 : Int32)) 2 ∧ ∀ n, ADD M x y n ↔ rm (updI (updI (updI (updI (fun _ => (0 : Int32)) 0 x) 1 (F_max y (f 1))) 2 (0 : Int32)) 3 (0 : Int32)) 2 n := by
  have t213 := c172; rw [Int32.lt_iff_toInt_lt] at t213
  have t214 := c178; rw [Int32.lt_iff_toInt_lt] at t214
  have t215 := c187; rw [Int32.lt_iff_toInt_lt] at t215
  have m216 := max_spec y (f 1)
  generalize F_max y (f 1) = g0 at *
  rcases m216 with m216 | m216 <;>
  (refine fin2 (u := x) (v := g0) (by simp [updI]) (by simp [updI]) ⟨by omega, by omega, fun n => ?_⟩
   simp only [ADD, hM', false_or]
   first | done | (constructor <;> intro z <;> omega))
theorem fin_add42_236 (f : Nat → Int32) (x y : Int32) (M : Int → Prop) (f12 : 0 ≤ x.toInt) (f13 : x.toInt < y.toInt) (q0 : 0 ≤ (f 0).toInt) (q1 : (f 0).toInt < (f 1).toInt) (hM' : ∀ n, M n ↔ ((f 0).toInt ≤ n ∧ n < (f 1).toInt)) (c172 : x < (f 1)) (c178 : ¬ (x < (f 0))) (c225 : (f 1) < x) : asc (updI (updI (updI (updI (fun _ => (0 : Int32)) 0 (f 0)) 1 (f 1)) 2 x) 3 y) 4 ∧ ∀ n, ADD M x y n ↔ rm (updI (updI (updI (updI (fun _ => (0 : Int32)) 0 (f 0)) 1 (f 1)) 2 x) 3 y) 4 n := by
  have t238 := c172; rw [Int32.lt_iff_toInt_lt] at t238
  have t239 := c178; rw [Int32.lt_iff_toInt_lt] at t239
  have t240 := c225; rw [Int32.lt_iff_toInt_lt] at t240
  (refine fin4 (u := (f 0)) (v := (f 1)) (w := x) (x := y) (by simp [updI]) (by simp [updI]) (by simp [updI]) (by simp [updI]) ⟨by omega, by omega, by omega, by omega, fun n => ?_⟩
   simp only [ADD, hM', false_or]
   first | done | (constructor <;> intro z <;> omega))
theorem fin_add42_250 (f : Nat → Int32) (x y : Int32) (M : Int → Prop) (f12 : 0 ≤ x.toInt) (f13 : x.toInt < y.toInt) (q0 : 0 ≤ (f 0).toInt) (q1 : (f 0).toInt < (f 1).toInt) (hM' : ∀ n, M n ↔ ((f 0).toInt ≤ n ∧ n < (f 1).toInt)) (c172 : x < (f 1)) (c178 : ¬ (x < (f 0))) (c225 : ¬ ((f 1) < x)) : asc (updI (updI (updI (updI (fun _ => (0 : Int32)) 0 (f 0)) 1 (F_max (f 1) y)) 2 (0 : Int32)) 3 (0 : Int32)) 2 ∧ ∀ n, ADD M x y n ↔ rm (updI (updI (updI (updI (fun _ => (0 : Int32)) 0 (f 0)) 1 (F_max (f 1) y)) 2 (0 : Int32)) 3 (0 : Int32)) 2 n := by
  have t252 := c172; rw [Int32.lt_iff_toInt_lt] at t252
  have t253 := c178; rw [Int32.lt_iff_toInt_lt] at t253
  have t254 := c225; rw [Int32.lt_iff_toInt_lt] at t254
  have m255 := max_spec (f 1) y
  generalize F_max (f 1) y = g0 at *
  rcases m255 with m255 | m255 <;>
  (refine fin2 (u := (f 0)) (v := g0) (by simp [updI]) (by simp [updI]) ⟨by omega, by omega, fun n => ?_⟩
   simp only [ADD, hM', false_or]
   first | done | (constructor <;> intro z <;> omega))
theorem fin_add42_273 (f : Nat → Int32) (x y : Int32) (M : Int → Prop) (f12 : 0 ≤ x.toInt) (f13 : x.toInt < y.toInt) (q0 : 0 ≤ (f 0).toInt) (q1 : (f 0).toInt < (f 1).toInt) (hM' : ∀ n, M n ↔ ((f 0).toInt ≤ n ∧ n < (f 1).toInt)) (c172 : ¬ (x < (f 1))) (c259 : x = (f 1)) : asc (updI (updI (updI (updI (fun _ => (0 : Int32)) 0 (f 0)) 1 y) 2 (f 2)) 3 (f 3)) 2 ∧ ∀ n, ADD M x y n ↔ rm (updI (updI (updI (updI (fun _ => (0 : Int32)) 0 (f 0)) 1 y) 2 (f 2)) 3 (f 3)) 2 n := by
  have t275 := c172; rw [Int32.lt_iff_toInt_lt] at t275
  have t276 := c259; rw [← Int32.toInt_inj] at t276
  (refine fin2 (u := (f 0)) (v := y) (by simp [updI]) (by simp [updI]) ⟨by omega, by omega, fun n => ?_⟩
   simp only [ADD, hM', false_or]
   first | done | (constructor <;> intro z <;> omega))
theorem fin_add42_285 (f : Nat → Int32) (x y : Int32) (M : Int → Prop) (f12 : 0 ≤ x.toInt) (f13 : x.toInt < y.toInt) (q0 : 0 ≤ (f 0).toInt) (q1 : (f 0).toInt < (f 1).toInt) (hM' : ∀ n, M n ↔ ((f 0).toInt ≤ n ∧ n < (f 1).toInt)) (c172 : ¬ (x < (f 1))) (c259 : ¬ (x = (f 1))) : asc (updI (updI (updI (updI (fun _ => (0 : Int32)) 0 (f 0)) 1 (f 1)) 2 x) 3 y) 4 ∧ ∀ n, ADD M x y n ↔ rm (updI (updI (updI (updI (fun _ => (0 : Int32)) 0 (f 0)) 1 (f 1)) 2 x) 3 y) 4 n := by
  have t288 := c172; rw [Int32.lt_iff_toInt_lt] at t288
  have t289 := c259; rw [← Int32.toInt_inj] at t289
  (refine fin4 (u := (f 0)) (v := (f 1)) (w := x) (x := y) (by simp [updI]) (by simp [updI]) (by simp [updI]) (by simp [updI]) ⟨by omega, by omega, by omega, by omega, fun n => ?_⟩
   simp only [ADD, hM', false_or]
   first | done | (constructor <;> intro z <;> omega))
def Q_add42 (Z : State) (a : Addr) (am : Addr) (aB : Addr) (kB : ClassId) (f : Nat → Int32) (km : ClassId) (x : Int32) (y : Int32) (k : Nat) (M : Int → Prop) (h0 : Heap) (n0 : Nat) (v : Option Value) (h : Heap) (L : List Loc) : Prop := ∃ (aX : Addr), v = none ∧ Fr n0 L ∧ Keep h0 h [a, aB] ∧ Exa Z h a "com/example/collate/collate/analysis/AtomSet" ∧ AS Z h n0 a aX (k + 1) (ADD M x y)
theorem ef_add42 (m : MethodId) (x0 : Addr) (x1 : Addr) (x2 : Int32) : entryFrame m #[(.ref x0), (.ref x1), (.int x2)] 9 = mkF m 0 #[.val (.ref x0), .val (.ref x1), .val (.int x2), .unset, .unset, .unset, .unset, .unset, .unset] [] := by first | (simp [entryFrame, mkF, argsToLocals, Value.category]; done) | rfl
set_option maxRecDepth 65536 in
set_option maxHeartbeats 40000000 in
theorem rm_add42 (l : Launch) (Z : State) (a0 : Array Value) (hw : ∀ d ∈ tables_1, d.before a0 Z = true) (a : Addr) (am : Addr) (aB : Addr) (kB : ClassId) (f : Nat → Int32) (km : ClassId) (x : Int32) (y : Int32) (k : Nat) (M : Int → Prop) (h0 : Heap) (n0 : Nat) (Z0 : n0 ≤ h0.size) (f0 : Exa Z h0 a "com/example/collate/collate/analysis/AtomSet") (f1 : n0 ≤ a) (f2 : a ≠ aB) (f3 : a ≠ am) (f4 : aB ≠ am) (f5 : Fld Z h0 a "com/example/collate/collate/analysis/AtomSet" "bounds" "[I" (.ref aB)) (f6 : Fld Z h0 a "com/example/collate/collate/analysis/AtomSet" "count" "I" (.int (2 : Int32))) (f7 : Af Z h0 aB kB .int 4 (fun i => Value.int (f i))) (f8 : Af Z h0 am km .int 2 (fun i => Value.int ((updI (updI (fun _ => (0 : Int32)) 0 x) 1 y) i))) (f9 : 2 ≤ k) (f10 : asc f 2) (f11 : ∀ n, M n ↔ rm f 2 n) (f12 : 0 ≤ x.toInt) (f13 : x.toInt < y.toInt) (f14 : n0 ≤ aB) :
    Met l Z (⟨"com/example/collate/collate/analysis/AtomSet", "add", "([II)V"⟩ : MethodName) prog_6_method_6_code 9 none [] ({ frames := 1, cells := 1, slots := 4, locals := 18 } : Room) #[(.ref a), (.ref am), (.int (2 : Int32))] h0 (Q_add42 Z a am aB kB f km x y k M h0 n0) := by
  refine Met.of (plainFor_of_name pn_add42) ?_
  intro p e s m below meth c s₁ X0 hx hby hml hZ hown hnm e0 hret hlk
  refine Go.cast (ef_add42 m a am ((2 : Int32))) ?_
  show Go _ _ _ _ s₁ (mkF m 0 #[.val (.ref a), .val (.ref am), .val (.int (2 : Int32)), .unset, .unset, .unset, .unset, .unset, .unset] []) _ _ _
  have N0 := Fr.nil n0
  obtain ⟨q0, q1, hM'⟩ := of2 f10 f11
  refine Go.iloadN X0 hx (hb hby d_add42_0) rfl ?_
  refine Go.ifYes X0 hx (hb hby d_add42_1) (XT.i0_ne_t (by decide)) (pc' := 5) (by decide) (by decide) ?_
  show Go _ _ _ _ s₁ (mkF m 5 #[.val (.ref a), .val (.ref am), .val (.int (2 : Int32)), .unset, .unset, .unset, .unset, .unset, .unset] []) _ _ _
  refine Go.aloadN X0 hx (hb hby d_add42_5) rfl rfl ?_
  refine Go.getF X0 hx hZ hown (w31 hw) Via.refl e0 f6 (hb hby d_add42_6) ?_
  intro T169 X169 e169
  show Go _ _ _ _ T169 (mkF m 9 #[.val (.ref a), .val (.ref am), .val (.int (2 : Int32)), .unset, .unset, .unset, .unset, .unset, .unset] [(.int (2 : Int32))]) _ _ _
  refine Go.ifNo X169 hx (hb hby d_add42_9) (XT.i0_eq_f (by decide)) ?_
  show Go _ _ _ _ T169 (mkF m 12 #[.val (.ref a), .val (.ref am), .val (.int (2 : Int32)), .unset, .unset, .unset, .unset, .unset, .unset] []) _ _ _
  refine Go.aloadN X169 hx (hb hby d_add42_12) rfl rfl ?_
  refine Go.iconst X169 hx (hb hby d_add42_13) ?_
  show Go _ _ _ _ T169 (mkF m 14 #[.val (.ref a), .val (.ref am), .val (.int (2 : Int32)), .unset, .unset, .unset, .unset, .unset, .unset] [(.int (0 : Int32)), (.ref am)]) _ _ _
  refine Go.iaload X169 hx hZ e169 f8 (by decide) (by decide) (hb hby d_add42_14) ?_
  show Go _ _ _ _ T169 (mkF m 15 #[.val (.ref a), .val (.ref am), .val (.int (2 : Int32)), .unset, .unset, .unset, .unset, .unset, .unset] [(.int x)]) _ _ _
  refine Go.aloadN X169 hx (hb hby d_add42_15) rfl rfl ?_
  refine Go.getF X169 hx hZ hown (w19 hw) Via.refl e169 f5 (hb hby d_add42_16) ?_
  intro T170 X170 e170
  show Go _ _ _ _ T170 (mkF m 19 #[.val (.ref a), .val (.ref am), .val (.int (2 : Int32)), .unset, .unset, .unset, .unset, .unset, .unset] [(.ref aB), (.int x)]) _ _ _
  refine Go.aloadN X170 hx (hb hby d_add42_19) rfl rfl ?_
  refine Go.getF X170 hx hZ hown (w31 hw) Via.refl e170 f6 (hb hby d_add42_20) ?_
  intro T171 X171 e171
  show Go _ _ _ _ T171 (mkF m 23 #[.val (.ref a), .val (.ref am), .val (.int (2 : Int32)), .unset, .unset, .unset, .unset, .unset, .unset] [(.int (2 : Int32)), (.ref aB), (.int x)]) _ _ _
  refine Go.iconst X171 hx (hb hby d_add42_23) ?_
  show Go _ _ _ _ T171 (mkF m 24 #[.val (.ref a), .val (.ref am), .val (.int (2 : Int32)), .unset, .unset, .unset, .unset, .unset, .unset] [(.int (1 : Int32)), (.int (2 : Int32)), (.ref aB), (.int x)]) _ _ _
  refine Go.isub X171 hx (hb hby d_add42_24) ?_
  show Go _ _ _ _ T171 (mkF m 25 #[.val (.ref a), .val (.ref am), .val (.int (2 : Int32)), .unset, .unset, .unset, .unset, .unset, .unset] [(.int (1 : Int32)), (.ref aB), (.int x)]) _ _ _
  refine Go.iaload X171 hx hZ e171 f7 (by decide) (by decide) (hb hby d_add42_25) ?_
  show Go _ _ _ _ T171 (mkF m 26 #[.val (.ref a), .val (.ref am), .val (.int (2 : Int32)), .unset, .unset, .unset, .unset, .unset, .unset] [(.int (f 1)), (.int x)]) _ _ _
  rcases Decidable.em (x < (f 1)) with c172 | c172
  · refine Go.icmpYes X171 hx (hb hby d_add42_26) (XT.ii_lt_t c172) (pc' := 147) (by decide) (by decide) ?_
    show Go _ _ _ _ T171 (mkF m 147 #[.val (.ref a), .val (.ref am), .val (.int (2 : Int32)), .unset, .unset, .unset, .unset, .unset, .unset] []) _ _ _
    as_aux_lemma =>
      refine Go.aloadN X171 hx (hb hby d_add42_147) rfl rfl ?_
      refine Go.getF X171 hx hZ hown (w31 hw) Via.refl e171 f6 (hb hby d_add42_148) ?_
      intro T173 X173 e173
      show Go _ _ _ _ T173 (mkF m 151 #[.val (.ref a), .val (.ref am), .val (.int (2 : Int32)), .unset, .unset, .unset, .unset, .unset, .unset] [(.int (2 : Int32))]) _ _ _
      refine Go.iloadN X173 hx (hb hby d_add42_151) rfl ?_
      refine Go.iadd X173 hx (hb hby d_add42_152) ?_
      show Go _ _ _ _ T173 (mkF m 153 #[.val (.ref a), .val (.ref am), .val (.int (2 : Int32)), .unset, .unset, .unset, .unset, .unset, .unset] [(.int (4 : Int32))]) _ _ _
      refine Go.newarray (aty := .int) (cap := 4) X173 hx hZ (w26 hw) e173 (hb hby d_add42_153) (by decide) (by decide) (by decide) (by decide) (by decide) ?_
      intro T174 h174 a174 k174 b174 X174 e174 E174 A174
      have g_a174 : n0 ≤ a174 := by rw [b174]; exact Z0
      have y_a174 : h0.size ≤ a174 := by rw [b174]; exact (Nat.le_refl _)
      have ne_a_a174 : a ≠ a174 := by rw [b174]; exact Nat.ne_of_lt f0.lt
      have ne_aB_a174 : aB ≠ a174 := by rw [b174]; exact Nat.ne_of_lt f7.lt
      have ne_am_a174 : am ≠ a174 := by rw [b174]; exact Nat.ne_of_lt f8.lt
      have Z174 : n0 ≤ h174.size := Nat.le_trans Z0 E174.1
      have B174 : h0.size ≤ h174.size := Nat.le_trans (Nat.le_refl _) E174.1
      show Go _ _ _ _ T174 (mkF m 155 #[.val (.ref a), .val (.ref am), .val (.int (2 : Int32)), .unset, .unset, .unset, .unset, .unset, .unset] [(.ref a174)]) _ _ _
      refine Go.astoreN X174 hx (hb hby d_add42_155) rfl (l' := #[.val (.ref a), .val (.ref am), .val (.int (2 : Int32)), .val (.ref a174), .unset, .unset, .unset, .unset, .unset]) rfl ?_
      refine Go.iconst X174 hx (hb hby d_add42_156) ?_
      show Go _ _ _ _ T174 (mkF m 157 #[.val (.ref a), .val (.ref am), .val (.int (2 : Int32)), .val (.ref a174), .unset, .unset, .unset, .unset, .unset] [(.int (0 : Int32))]) _ _ _
      refine Go.istore X174 hx (hb hby d_add42_157) (l' := #[.val (.ref a), .val (.ref am), .val (.int (2 : Int32)), .val (.ref a174), .val (.int (0 : Int32)), .unset, .unset, .unset, .unset]) rfl ?_
      refine Go.iconst X174 hx (hb hby d_add42_159) ?_
      show Go _ _ _ _ T174 (mkF m 160 #[.val (.ref a), .val (.ref am), .val (.int (2 : Int32)), .val (.ref a174), .val (.int (0 : Int32)), .unset, .unset, .unset, .unset] [(.int (0 : Int32))]) _ _ _
      refine Go.istore X174 hx (hb hby d_add42_160) (l' := #[.val (.ref a), .val (.ref am), .val (.int (2 : Int32)), .val (.ref a174), .val (.int (0 : Int32)), .val (.int (0 : Int32)), .unset, .unset, .unset]) rfl ?_
      refine Go.iconst X174 hx (hb hby d_add42_162) ?_
      show Go _ _ _ _ T174 (mkF m 163 #[.val (.ref a), .val (.ref am), .val (.int (2 : Int32)), .val (.ref a174), .val (.int (0 : Int32)), .val (.int (0 : Int32)), .unset, .unset, .unset] [(.int (0 : Int32))]) _ _ _
      refine Go.istore X174 hx (hb hby d_add42_163) (l' := #[.val (.ref a), .val (.ref am), .val (.int (2 : Int32)), .val (.ref a174), .val (.int (0 : Int32)), .val (.int (0 : Int32)), .val (.int (0 : Int32)), .unset, .unset]) rfl ?_
      refine Go.iload X174 hx (hb hby d_add42_165) rfl ?_
      refine Go.aloadN X174 hx (hb hby d_add42_167) rfl rfl ?_
      refine Go.getF X174 hx hZ hown (w31 hw) Via.refl e174 (Fld.ext E174 f6) (hb hby d_add42_168) ?_
      intro T175 X175 e175
      show Go _ _ _ _ T175 (mkF m 171 #[.val (.ref a), .val (.ref am), .val (.int (2 : Int32)), .val (.ref a174), .val (.int (0 : Int32)), .val (.int (0 : Int32)), .val (.int (0 : Int32)), .unset, .unset] [(.int (2 : Int32)), (.int (0 : Int32))]) _ _ _
      refine Go.icmpYes X175 hx (hb hby d_add42_171) (XT.ii_lt_t (by decide)) (pc' := 180) (by decide) (by decide) ?_
      show Go _ _ _ _ T175 (mkF m 180 #[.val (.ref a), .val (.ref am), .val (.int (2 : Int32)), .val (.ref a174), .val (.int (0 : Int32)), .val (.int (0 : Int32)), .val (.int (0 : Int32)), .unset, .unset] []) _ _ _
      refine Go.iload X175 hx (hb hby d_add42_180) rfl ?_
      refine Go.iloadN X175 hx (hb hby d_add42_182) rfl ?_
      refine Go.icmpNo X175 hx (hb hby d_add42_183) (XT.ii_eq_f (by decide)) ?_
      show Go _ _ _ _ T175 (mkF m 186 #[.val (.ref a), .val (.ref am), .val (.int (2 : Int32)), .val (.ref a174), .val (.int (0 : Int32)), .val (.int (0 : Int32)), .val (.int (0 : Int32)), .unset, .unset] []) _ _ _
      refine Go.iload X175 hx (hb hby d_add42_186) rfl ?_
      refine Go.aloadN X175 hx (hb hby d_add42_188) rfl rfl ?_
      refine Go.getF X175 hx hZ hown (w31 hw) Via.refl e175 (Fld.ext E174 f6) (hb hby d_add42_189) ?_
      intro T176 X176 e176
      show Go _ _ _ _ T176 (mkF m 192 #[.val (.ref a), .val (.ref am), .val (.int (2 : Int32)), .val (.ref a174), .val (.int (0 : Int32)), .val (.int (0 : Int32)), .val (.int (0 : Int32)), .unset, .unset] [(.int (2 : Int32)), (.int (0 : Int32))]) _ _ _
      refine Go.icmpNo X176 hx (hb hby d_add42_192) (XT.ii_ge_f (by decide)) ?_
      show Go _ _ _ _ T176 (mkF m 195 #[.val (.ref a), .val (.ref am), .val (.int (2 : Int32)), .val (.ref a174), .val (.int (0 : Int32)), .val (.int (0 : Int32)), .val (.int (0 : Int32)), .unset, .unset] []) _ _ _
      refine Go.aloadN X176 hx (hb hby d_add42_195) rfl rfl ?_
      refine Go.getF X176 hx hZ hown (w19 hw) Via.refl e176 (Fld.ext E174 f5) (hb hby d_add42_196) ?_
      intro T177 X177 e177
      show Go _ _ _ _ T177 (mkF m 199 #[.val (.ref a), .val (.ref am), .val (.int (2 : Int32)), .val (.ref a174), .val (.int (0 : Int32)), .val (.int (0 : Int32)), .val (.int (0 : Int32)), .unset, .unset] [(.ref aB)]) _ _ _
      refine Go.iload X177 hx (hb hby d_add42_199) rfl ?_
      refine Go.iaload X177 hx hZ e177 (Af.ext E174 f7) (by decide) (by decide) (hb hby d_add42_201) ?_
      show Go _ _ _ _ T177 (mkF m 202 #[.val (.ref a), .val (.ref am), .val (.int (2 : Int32)), .val (.ref a174), .val (.int (0 : Int32)), .val (.int (0 : Int32)), .val (.int (0 : Int32)), .unset, .unset] [(.int (f 0))]) _ _ _
      refine Go.aloadN X177 hx (hb hby d_add42_202) rfl rfl ?_
      refine Go.iload X177 hx (hb hby d_add42_203) rfl ?_
      refine Go.iaload X177 hx hZ e177 (Af.ext E174 f8) (by decide) (by decide) (hb hby d_add42_205) ?_
      show Go _ _ _ _ T177 (mkF m 206 #[.val (.ref a), .val (.ref am), .val (.int (2 : Int32)), .val (.ref a174), .val (.int (0 : Int32)), .val (.int (0 : Int32)), .val (.int (0 : Int32)), .unset, .unset] [(.int x), (.int (f 0))]) _ _ _
      rcases Decidable.em (x < (f 0)) with c178 | c178
      · refine Go.icmpYes X177 hx (hb hby d_add42_206) (XT.ii_gt_t c178) (pc' := 235) (by decide) (by decide) ?_
        show Go _ _ _ _ T177 (mkF m 235 #[.val (.ref a), .val (.ref am), .val (.int (2 : Int32)), .val (.ref a174), .val (.int (0 : Int32)), .val (.int (0 : Int32)), .val (.int (0 : Int32)), .unset, .unset] []) _ _ _
        as_aux_lemma =>
          refine Go.aloadN X177 hx (hb hby d_add42_235) rfl rfl ?_
          refine Go.iload X177 hx (hb hby d_add42_236) rfl ?_
          refine Go.iaload X177 hx hZ e177 (Af.ext E174 f8) (by decide) (by decide) (hb hby d_add42_238) ?_
          show Go _ _ _ _ T177 (mkF m 239 #[.val (.ref a), .val (.ref am), .val (.int (2 : Int32)), .val (.ref a174), .val (.int (0 : Int32)), .val (.int (0 : Int32)), .val (.int (0 : Int32)), .unset, .unset] [(.int x)]) _ _ _
          refine Go.istore X177 hx (hb hby d_add42_239) (l' := #[.val (.ref a), .val (.ref am), .val (.int (2 : Int32)), .val (.ref a174), .val (.int (0 : Int32)), .val (.int (0 : Int32)), .val (.int (0 : Int32)), .val (.int x), .unset]) rfl ?_
          refine Go.aloadN X177 hx (hb hby d_add42_241) rfl rfl ?_
          refine Go.iload X177 hx (hb hby d_add42_242) rfl ?_
          refine Go.iconst X177 hx (hb hby d_add42_244) ?_
          show Go _ _ _ _ T177 (mkF m 245 #[.val (.ref a), .val (.ref am), .val (.int (2 : Int32)), .val (.ref a174), .val (.int (0 : Int32)), .val (.int (0 : Int32)), .val (.int (0 : Int32)), .val (.int x), .unset] [(.int (1 : Int32)), (.int (0 : Int32)), (.ref am)]) _ _ _
          refine Go.iadd X177 hx (hb hby d_add42_245) ?_
          show Go _ _ _ _ T177 (mkF m 246 #[.val (.ref a), .val (.ref am), .val (.int (2 : Int32)), .val (.ref a174), .val (.int (0 : Int32)), .val (.int (0 : Int32)), .val (.int (0 : Int32)), .val (.int x), .unset] [(.int (1 : Int32)), (.ref am)]) _ _ _
          refine Go.iaload X177 hx hZ e177 (Af.ext E174 f8) (by decide) (by decide) (hb hby d_add42_246) ?_
          show Go _ _ _ _ T177 (mkF m 247 #[.val (.ref a), .val (.ref am), .val (.int (2 : Int32)), .val (.ref a174), .val (.int (0 : Int32)), .val (.int (0 : Int32)), .val (.int (0 : Int32)), .val (.int x), .unset] [(.int y)]) _ _ _
          refine Go.istore X177 hx (hb hby d_add42_247) (l' := #[.val (.ref a), .val (.ref am), .val (.int (2 : Int32)), .val (.ref a174), .val (.int (0 : Int32)), .val (.int (0 : Int32)), .val (.int (0 : Int32)), .val (.int x), .val (.int y)]) rfl ?_
          refine Go.iinc X177 hx (hb hby d_add42_249) rfl (l' := #[.val (.ref a), .val (.ref am), .val (.int (2 : Int32)), .val (.ref a174), .val (.int (0 : Int32)), .val (.int (0 : Int32)), .val (.int (2 : Int32)), .val (.int x), .val (.int y)]) rfl ?_
          show Go _ _ _ _ T177 (mkF m 252 #[.val (.ref a), .val (.ref am), .val (.int (2 : Int32)), .val (.ref a174), .val (.int (0 : Int32)), .val (.int (0 : Int32)), .val (.int (2 : Int32)), .val (.int x), .val (.int y)] []) _ _ _
          refine Go.iload X177 hx (hb hby d_add42_252) rfl ?_
          refine Go.ifYes X177 hx (hb hby d_add42_254) (XT.i0_le_t (by decide)) (pc' := 288) (by decide) (by decide) ?_
          show Go _ _ _ _ T177 (mkF m 288 #[.val (.ref a), .val (.ref am), .val (.int (2 : Int32)), .val (.ref a174), .val (.int (0 : Int32)), .val (.int (0 : Int32)), .val (.int (2 : Int32)), .val (.int x), .val (.int y)] []) _ _ _
          refine Go.aloadN X177 hx (hb hby d_add42_288) rfl rfl ?_
          refine Go.iload X177 hx (hb hby d_add42_289) rfl ?_
          refine Go.iinc X177 hx (hb hby d_add42_291) rfl (l' := #[.val (.ref a), .val (.ref am), .val (.int (2 : Int32)), .val (.ref a174), .val (.int (1 : Int32)), .val (.int (0 : Int32)), .val (.int (2 : Int32)), .val (.int x), .val (.int y)]) rfl ?_
          show Go _ _ _ _ T177 (mkF m 294 #[.val (.ref a), .val (.ref am), .val (.int (2 : Int32)), .val (.ref a174), .val (.int (1 : Int32)), .val (.int (0 : Int32)), .val (.int (2 : Int32)), .val (.int x), .val (.int y)] [(.int (0 : Int32)), (.ref a174)]) _ _ _
          refine Go.iload X177 hx (hb hby d_add42_294) rfl ?_
          refine Go.iastore X177 hx hZ e177 A174 (by decide) (by decide) (hb hby d_add42_296) ?_
          intro T179 h179 X179 e179 W179 A179
          have N179 := Fr.snoc X179 N0 g_a174
          have Z179 : n0 ≤ h179.size := by rw [Wr.size W179]; exact Z174
          have B179 : h0.size ≤ h179.size := by rw [Wr.size W179]; exact B174
          show Go _ _ _ _ T179 (mkF m 297 #[.val (.ref a), .val (.ref am), .val (.int (2 : Int32)), .val (.ref a174), .val (.int (1 : Int32)), .val (.int (0 : Int32)), .val (.int (2 : Int32)), .val (.int x), .val (.int y)] []) _ _ _
          refine Go.aloadN X179 hx (hb hby d_add42_297) rfl rfl ?_
          refine Go.iload X179 hx (hb hby d_add42_298) rfl ?_
          refine Go.iinc X179 hx (hb hby d_add42_300) rfl (l' := #[.val (.ref a), .val (.ref am), .val (.int (2 : Int32)), .val (.ref a174), .val (.int (2 : Int32)), .val (.int (0 : Int32)), .val (.int (2 : Int32)), .val (.int x), .val (.int y)]) rfl ?_
          show Go _ _ _ _ T179 (mkF m 303 #[.val (.ref a), .val (.ref am), .val (.int (2 : Int32)), .val (.ref a174), .val (.int (2 : Int32)), .val (.int (0 : Int32)), .val (.int (2 : Int32)), .val (.int x), .val (.int y)] [(.int (1 : Int32)), (.ref a174)]) _ _ _
          refine Go.iload X179 hx (hb hby d_add42_303) rfl ?_
          refine Go.iastore X179 hx hZ e179 A179 (by decide) (by decide) (hb hby d_add42_305) ?_
          intro T180 h180 X180 e180 W180 A180
          have N180 := Fr.snoc X180 N179 g_a174
          have Z180 : n0 ≤ h180.size := by rw [Wr.size W180]; exact Z179
          have B180 : h0.size ≤ h180.size := by rw [Wr.size W180]; exact B179
          show Go _ _ _ _ T180 (mkF m 306 #[.val (.ref a), .val (.ref am), .val (.int (2 : Int32)), .val (.ref a174), .val (.int (2 : Int32)), .val (.int (0 : Int32)), .val (.int (2 : Int32)), .val (.int x), .val (.int y)] []) _ _ _
          refine Go.goto X180 hx (hb hby d_add42_306) (pc' := 165) (by decide) (by decide) ?_
          show Go _ _ _ _ T180 (mkF m 165 #[.val (.ref a), .val (.ref am), .val (.int (2 : Int32)), .val (.ref a174), .val (.int (2 : Int32)), .val (.int (0 : Int32)), .val (.int (2 : Int32)), .val (.int x), .val (.int y)] []) _ _ _
          refine Go.iload X180 hx (hb hby d_add42_165) rfl ?_
          refine Go.aloadN X180 hx (hb hby d_add42_167) rfl rfl ?_
          have F181 := (Fld.other W180 (Fld.other W179 (Fld.ext E174 f6) (Or.inl ne_a_a174)) (Or.inl ne_a_a174))
          refine Go.getF X180 hx hZ hown (w31 hw) Via.refl e180 F181 (hb hby d_add42_168) ?_
          intro T182 X182 e182
          show Go _ _ _ _ T182 (mkF m 171 #[.val (.ref a), .val (.ref am), .val (.int (2 : Int32)), .val (.ref a174), .val (.int (2 : Int32)), .val (.int (0 : Int32)), .val (.int (2 : Int32)), .val (.int x), .val (.int y)] [(.int (2 : Int32)), (.int (0 : Int32))]) _ _ _
          refine Go.icmpYes X182 hx (hb hby d_add42_171) (XT.ii_lt_t (by decide)) (pc' := 180) (by decide) (by decide) ?_
          show Go _ _ _ _ T182 (mkF m 180 #[.val (.ref a), .val (.ref am), .val (.int (2 : Int32)), .val (.ref a174), .val (.int (2 : Int32)), .val (.int (0 : Int32)), .val (.int (2 : Int32)), .val (.int x), .val (.int y)] []) _ _ _
          refine Go.iload X182 hx (hb hby d_add42_180) rfl ?_
          refine Go.iloadN X182 hx (hb hby d_add42_182) rfl ?_
          refine Go.icmpYes X182 hx (hb hby d_add42_183) (XT.ii_eq_t (by decide)) (pc' := 209) (by decide) (by decide) ?_
          show Go _ _ _ _ T182 (mkF m 209 #[.val (.ref a), .val (.ref am), .val (.int (2 : Int32)), .val (.ref a174), .val (.int (2 : Int32)), .val (.int (0 : Int32)), .val (.int (2 : Int32)), .val (.int x), .val (.int y)] []) _ _ _
          refine Go.aloadN X182 hx (hb hby d_add42_209) rfl rfl ?_
          have F183 := (Fld.other W180 (Fld.other W179 (Fld.ext E174 f5) (Or.inl ne_a_a174)) (Or.inl ne_a_a174))
          refine Go.getF X182 hx hZ hown (w19 hw) Via.refl e182 F183 (hb hby d_add42_210) ?_
          intro T184 X184 e184
          show Go _ _ _ _ T184 (mkF m 213 #[.val (.ref a), .val (.ref am), .val (.int (2 : Int32)), .val (.ref a174), .val (.int (2 : Int32)), .val (.int (0 : Int32)), .val (.int (2 : Int32)), .val (.int x), .val (.int y)] [(.ref aB)]) _ _ _
          refine Go.iload X184 hx (hb hby d_add42_213) rfl ?_
          have F185 := (Af.other W180 (Af.other W179 (Af.ext E174 f7) ne_aB_a174) ne_aB_a174)
          refine Go.iaload X184 hx hZ e184 F185 (by decide) (by decide) (hb hby d_add42_215) ?_
          show Go _ _ _ _ T184 (mkF m 216 #[.val (.ref a), .val (.ref am), .val (.int (2 : Int32)), .val (.ref a174), .val (.int (2 : Int32)), .val (.int (0 : Int32)), .val (.int (2 : Int32)), .val (.int x), .val (.int y)] [(.int (f 0))]) _ _ _
          refine Go.istore X184 hx (hb hby d_add42_216) (l' := #[.val (.ref a), .val (.ref am), .val (.int (2 : Int32)), .val (.ref a174), .val (.int (2 : Int32)), .val (.int (0 : Int32)), .val (.int (2 : Int32)), .val (.int (f 0)), .val (.int y)]) rfl ?_
          refine Go.aloadN X184 hx (hb hby d_add42_218) rfl rfl ?_
          refine Go.getF X184 hx hZ hown (w19 hw) Via.refl e184 F183 (hb hby d_add42_219) ?_
          intro T186 X186 e186
          show Go _ _ _ _ T186 (mkF m 222 #[.val (.ref a), .val (.ref am), .val (.int (2 : Int32)), .val (.ref a174), .val (.int (2 : Int32)), .val (.int (0 : Int32)), .val (.int (2 : Int32)), .val (.int (f 0)), .val (.int y)] [(.ref aB)]) _ _ _
          refine Go.iload X186 hx (hb hby d_add42_222) rfl ?_
          refine Go.iconst X186 hx (hb hby d_add42_224) ?_
          show Go _ _ _ _ T186 (mkF m 225 #[.val (.ref a), .val (.ref am), .val (.int (2 : Int32)), .val (.ref a174), .val (.int (2 : Int32)), .val (.int (0 : Int32)), .val (.int (2 : Int32)), .val (.int (f 0)), .val (.int y)] [(.int (1 : Int32)), (.int (0 : Int32)), (.ref aB)]) _ _ _
          refine Go.iadd X186 hx (hb hby d_add42_225) ?_
          show Go _ _ _ _ T186 (mkF m 226 #[.val (.ref a), .val (.ref am), .val (.int (2 : Int32)), .val (.ref a174), .val (.int (2 : Int32)), .val (.int (0 : Int32)), .val (.int (2 : Int32)), .val (.int (f 0)), .val (.int y)] [(.int (1 : Int32)), (.ref aB)]) _ _ _
          refine Go.iaload X186 hx hZ e186 F185 (by decide) (by decide) (hb hby d_add42_226) ?_
          show Go _ _ _ _ T186 (mkF m 227 #[.val (.ref a), .val (.ref am), .val (.int (2 : Int32)), .val (.ref a174), .val (.int (2 : Int32)), .val (.int (0 : Int32)), .val (.int (2 : Int32)), .val (.int (f 0)), .val (.int y)] [(.int (f 1))]) _ _ _
          refine Go.istore X186 hx (hb hby d_add42_227) (l' := #[.val (.ref a), .val (.ref am), .val (.int (2 : Int32)), .val (.ref a174), .val (.int (2 : Int32)), .val (.int (0 : Int32)), .val (.int (2 : Int32)), .val (.int (f 0)), .val (.int (f 1))]) rfl ?_
          refine Go.iinc X186 hx (hb hby d_add42_229) rfl (l' := #[.val (.ref a), .val (.ref am), .val (.int (2 : Int32)), .val (.ref a174), .val (.int (2 : Int32)), .val (.int (2 : Int32)), .val (.int (2 : Int32)), .val (.int (f 0)), .val (.int (f 1))]) rfl ?_
          show Go _ _ _ _ T186 (mkF m 232 #[.val (.ref a), .val (.ref am), .val (.int (2 : Int32)), .val (.ref a174), .val (.int (2 : Int32)), .val (.int (2 : Int32)), .val (.int (2 : Int32)), .val (.int (f 0)), .val (.int (f 1))] []) _ _ _
          refine Go.goto X186 hx (hb hby d_add42_232) (pc' := 252) (by decide) (by decide) ?_
          show Go _ _ _ _ T186 (mkF m 252 #[.val (.ref a), .val (.ref am), .val (.int (2 : Int32)), .val (.ref a174), .val (.int (2 : Int32)), .val (.int (2 : Int32)), .val (.int (2 : Int32)), .val (.int (f 0)), .val (.int (f 1))] []) _ _ _
          refine Go.iload X186 hx (hb hby d_add42_252) rfl ?_
          refine Go.ifNo X186 hx (hb hby d_add42_254) (XT.i0_le_f (by decide)) ?_
          show Go _ _ _ _ T186 (mkF m 257 #[.val (.ref a), .val (.ref am), .val (.int (2 : Int32)), .val (.ref a174), .val (.int (2 : Int32)), .val (.int (2 : Int32)), .val (.int (2 : Int32)), .val (.int (f 0)), .val (.int (f 1))] []) _ _ _
          refine Go.iload X186 hx (hb hby d_add42_257) rfl ?_
          refine Go.aloadN X186 hx (hb hby d_add42_259) rfl rfl ?_
          refine Go.iload X186 hx (hb hby d_add42_260) rfl ?_
          refine Go.iconst X186 hx (hb hby d_add42_262) ?_
          show Go _ _ _ _ T186 (mkF m 263 #[.val (.ref a), .val (.ref am), .val (.int (2 : Int32)), .val (.ref a174), .val (.int (2 : Int32)), .val (.int (2 : Int32)), .val (.int (2 : Int32)), .val (.int (f 0)), .val (.int (f 1))] [(.int (1 : Int32)), (.int (2 : Int32)), (.ref a174), (.int (f 0))]) _ _ _
          refine Go.isub X186 hx (hb hby d_add42_263) ?_
          show Go _ _ _ _ T186 (mkF m 264 #[.val (.ref a), .val (.ref am), .val (.int (2 : Int32)), .val (.ref a174), .val (.int (2 : Int32)), .val (.int (2 : Int32)), .val (.int (2 : Int32)), .val (.int (f 0)), .val (.int (f 1))] [(.int (1 : Int32)), (.ref a174), (.int (f 0))]) _ _ _
          refine Go.iaload X186 hx hZ e186 A180 (by decide) (by decide) (hb hby d_add42_264) ?_
          show Go _ _ _ _ T186 (mkF m 265 #[.val (.ref a), .val (.ref am), .val (.int (2 : Int32)), .val (.ref a174), .val (.int (2 : Int32)), .val (.int (2 : Int32)), .val (.int (2 : Int32)), .val (.int (f 0)), .val (.int (f 1))] [(.int y), (.int (f 0))]) _ _ _
          rcases Decidable.em (y < (f 0)) with c187 | c187
          · refine Go.icmpYes X186 hx (hb hby d_add42_265) (XT.ii_gt_t c187) (pc' := 288) (by decide) (by decide) ?_
            show Go _ _ _ _ T186 (mkF m 288 #[.val (.ref a), .val (.ref am), .val (.int (2 : Int32)), .val (.ref a174), .val (.int (2 : Int32)), .val (.int (2 : Int32)), .val (.int (2 : Int32)), .val (.int (f 0)), .val (.int (f 1))] []) _ _ _
            as_aux_lemma =>
              refine Go.aloadN X186 hx (hb hby d_add42_288) rfl rfl ?_
              refine Go.iload X186 hx (hb hby d_add42_289) rfl ?_
              refine Go.iinc X186 hx (hb hby d_add42_291) rfl (l' := #[.val (.ref a), .val (.ref am), .val (.int (2 : Int32)), .val (.ref a174), .val (.int (3 : Int32)), .val (.int (2 : Int32)), .val (.int (2 : Int32)), .val (.int (f 0)), .val (.int (f 1))]) rfl ?_
              show Go _ _ _ _ T186 (mkF m 294 #[.val (.ref a), .val (.ref am), .val (.int (2 : Int32)), .val (.ref a174), .val (.int (3 : Int32)), .val (.int (2 : Int32)), .val (.int (2 : Int32)), .val (.int (f 0)), .val (.int (f 1))] [(.int (2 : Int32)), (.ref a174)]) _ _ _
              refine Go.iload X186 hx (hb hby d_add42_294) rfl ?_
              refine Go.iastore X186 hx hZ e186 A180 (by decide) (by decide) (hb hby d_add42_296) ?_
              intro T188 h188 X188 e188 W188 A188
              have N188 := Fr.snoc X188 N180 g_a174
              have Z188 : n0 ≤ h188.size := by rw [Wr.size W188]; exact Z180
              have B188 : h0.size ≤ h188.size := by rw [Wr.size W188]; exact B180
              show Go _ _ _ _ T188 (mkF m 297 #[.val (.ref a), .val (.ref am), .val (.int (2 : Int32)), .val (.ref a174), .val (.int (3 : Int32)), .val (.int (2 : Int32)), .val (.int (2 : Int32)), .val (.int (f 0)), .val (.int (f 1))] []) _ _ _
              refine Go.aloadN X188 hx (hb hby d_add42_297) rfl rfl ?_
              refine Go.iload X188 hx (hb hby d_add42_298) rfl ?_
              refine Go.iinc X188 hx (hb hby d_add42_300) rfl (l' := #[.val (.ref a), .val (.ref am), .val (.int (2 : Int32)), .val (.ref a174), .val (.int (4 : Int32)), .val (.int (2 : Int32)), .val (.int (2 : Int32)), .val (.int (f 0)), .val (.int (f 1))]) rfl ?_
              show Go _ _ _ _ T188 (mkF m 303 #[.val (.ref a), .val (.ref am), .val (.int (2 : Int32)), .val (.ref a174), .val (.int (4 : Int32)), .val (.int (2 : Int32)), .val (.int (2 : Int32)), .val (.int (f 0)), .val (.int (f 1))] [(.int (3 : Int32)), (.ref a174)]) _ _ _
              refine Go.iload X188 hx (hb hby d_add42_303) rfl ?_
              refine Go.iastore X188 hx hZ e188 A188 (by decide) (by decide) (hb hby d_add42_305) ?_
              intro T189 h189 X189 e189 W189 A189
              have N189 := Fr.snoc X189 N188 g_a174
              have Z189 : n0 ≤ h189.size := by rw [Wr.size W189]; exact Z188
              have B189 : h0.size ≤ h189.size := by rw [Wr.size W189]; exact B188
              show Go _ _ _ _ T189 (mkF m 306 #[.val (.ref a), .val (.ref am), .val (.int (2 : Int32)), .val (.ref a174), .val (.int (4 : Int32)), .val (.int (2 : Int32)), .val (.int (2 : Int32)), .val (.int (f 0)), .val (.int (f 1))] []) _ _ _
              refine Go.goto X189 hx (hb hby d_add42_306) (pc' := 165) (by decide) (by decide) ?_
              show Go _ _ _ _ T189 (mkF m 165 #[.val (.ref a), .val (.ref am), .val (.int (2 : Int32)), .val (.ref a174), .val (.int (4 : Int32)), .val (.int (2 : Int32)), .val (.int (2 : Int32)), .val (.int (f 0)), .val (.int (f 1))] []) _ _ _
              refine Go.iload X189 hx (hb hby d_add42_165) rfl ?_
              refine Go.aloadN X189 hx (hb hby d_add42_167) rfl rfl ?_
              have F190 := (Fld.other W189 (Fld.other W188 F181 (Or.inl ne_a_a174)) (Or.inl ne_a_a174))
              refine Go.getF X189 hx hZ hown (w31 hw) Via.refl e189 F190 (hb hby d_add42_168) ?_
              intro T191 X191 e191
              show Go _ _ _ _ T191 (mkF m 171 #[.val (.ref a), .val (.ref am), .val (.int (2 : Int32)), .val (.ref a174), .val (.int (4 : Int32)), .val (.int (2 : Int32)), .val (.int (2 : Int32)), .val (.int (f 0)), .val (.int (f 1))] [(.int (2 : Int32)), (.int (2 : Int32))]) _ _ _
              refine Go.icmpNo X191 hx (hb hby d_add42_171) (XT.ii_lt_f (by decide)) ?_
              show Go _ _ _ _ T191 (mkF m 174 #[.val (.ref a), .val (.ref am), .val (.int (2 : Int32)), .val (.ref a174), .val (.int (4 : Int32)), .val (.int (2 : Int32)), .val (.int (2 : Int32)), .val (.int (f 0)), .val (.int (f 1))] []) _ _ _
              refine Go.iload X191 hx (hb hby d_add42_174) rfl ?_
              refine Go.iloadN X191 hx (hb hby d_add42_176) rfl ?_
              refine Go.icmpYes X191 hx (hb hby d_add42_177) (XT.ii_ge_t (by decide)) (pc' := 309) (by decide) (by decide) ?_
              show Go _ _ _ _ T191 (mkF m 309 #[.val (.ref a), .val (.ref am), .val (.int (2 : Int32)), .val (.ref a174), .val (.int (4 : Int32)), .val (.int (2 : Int32)), .val (.int (2 : Int32)), .val (.int (f 0)), .val (.int (f 1))] []) _ _ _
              refine Go.aloadN X191 hx (hb hby d_add42_309) rfl rfl ?_
              refine Go.aloadN X191 hx (hb hby d_add42_310) rfl rfl ?_
              have F192 := (Fld.other W189 (Fld.other W188 F183 (Or.inl ne_a_a174)) (Or.inl ne_a_a174))
              have F193 := (Exa.wr W189 (Exa.wr W188 (Exa.wr W180 (Exa.wr W179 (Exa.ext E174 f0)))))
              refine Go.putF X191 hx hZ hown (w19 hw) Via.refl e191 F192 F193 (Or.inl (w20 hw)) (w9 hw) (ty := (.array .int)) (by decide) rfl rfl (hb hby d_add42_311) ?_
              intro T194 h194 X194 e194 W194
              have N194 := Fr.snoc X194 N189 f1
              have Z194 : n0 ≤ h194.size := by rw [Wr.size W194]; exact Z189
              have B194 : h0.size ≤ h194.size := by rw [Wr.size W194]; exact B189
              show Go _ _ _ _ T194 (mkF m 314 #[.val (.ref a), .val (.ref am), .val (.int (2 : Int32)), .val (.ref a174), .val (.int (4 : Int32)), .val (.int (2 : Int32)), .val (.int (2 : Int32)), .val (.int (f 0)), .val (.int (f 1))] []) _ _ _
              refine Go.aloadN X194 hx (hb hby d_add42_314) rfl rfl ?_
              refine Go.iload X194 hx (hb hby d_add42_315) rfl ?_
              have F195 := (Fld.other W194 F190 (Or.inr (slot_ne (a0 := a0) (Or.inl (w32 hw)) (Or.inl (w20 hw)) (t := .int) (t' := (.array .int)) (by decide) (by decide) (by decide))))
              refine Go.putF X194 hx hZ hown (w31 hw) Via.refl e194 F195 (Exa.wr W194 F193) (Or.inl (w32 hw)) (w9 hw) (ty := .int) (by decide) rfl rfl (hb hby d_add42_317) ?_
              intro T196 h196 X196 e196 W196
              have N196 := Fr.snoc X196 N194 f1
              have Z196 : n0 ≤ h196.size := by rw [Wr.size W196]; exact Z194
              have B196 : h0.size ≤ h196.size := by rw [Wr.size W196]; exact B194
              show Go _ _ _ _ T196 (mkF m 320 #[.val (.ref a), .val (.ref am), .val (.int (2 : Int32)), .val (.ref a174), .val (.int (4 : Int32)), .val (.int (2 : Int32)), .val (.int (2 : Int32)), .val (.int (f 0)), .val (.int (f 1))] []) _ _ _
              refine Go.ret0 X196 hx hlk hret (hb hby d_add42_320) (by decide) (by decide) ?_
              rw [e196]
              have F197 := (Af.other W196 (Af.other W194 A189 (Ne.symm ne_a_a174)) (Ne.symm ne_a_a174))
              have F199 := (Fld.other W196 (Fld.same W194 F192) (Or.inr (slot_ne (a0 := a0) (Or.inl (w20 hw)) (Or.inl (w32 hw)) (t := (.array .int)) (t' := .int) (by decide) (by decide) (by decide))))
              have AC198 : Af Z h196 a174 k174 .int 4 (fun i => Value.int ((updI (updI (updI (updI (fun _ => (0 : Int32)) 0 x) 1 y) 2 (f 0)) 3 (f 1)) i)) := Af.congr F197 (fun i hi => by have hi' : i < 4 := hi; rcases lt_4 hi' with rfl | rfl | rfl | rfl <;> first | (simp [updI, updV]; done) | rfl)
              have fin198 := fin_add42_198 f x y M f12 f13 q0 q1 hM' c172 c178 c187
              exact ⟨a174, rfl, N196, (Keep.wr (Keep.wr (Keep.wr (Keep.wr (Keep.wr (Keep.wr (Keep.ext (Keep.refl _ _) E174) W179 (Or.inr y_a174)) W180 (Or.inr y_a174)) W188 (Or.inr y_a174)) W189 (Or.inr y_a174)) W194 (Or.inl (List.mem_of_getElem? (i := 0) rfl))) W196 (Or.inl (List.mem_of_getElem? (i := 0) rfl))), (Exa.wr W196 (Exa.wr W194 F193)), ⟨_, _, 4, 4, _, F199, (Fld.same W196 F195), AC198, ne_a_a174, (fun _ => g_a174), (Or.inr (Or.inr (Or.inr (Or.inl ⟨(k_up f9 (by decide)), rfl, rfl, rfl⟩)))), fin198.1, fin198.2⟩⟩
          · refine Go.icmpNo X186 hx (hb hby d_add42_265) (XT.ii_gt_f c187) ?_
            show Go _ _ _ _ T186 (mkF m 268 #[.val (.ref a), .val (.ref am), .val (.int (2 : Int32)), .val (.ref a174), .val (.int (2 : Int32)), .val (.int (2 : Int32)), .val (.int (2 : Int32)), .val (.int (f 0)), .val (.int (f 1))] []) _ _ _
            as_aux_lemma =>
              refine Go.aloadN X186 hx (hb hby d_add42_268) rfl rfl ?_
              refine Go.iload X186 hx (hb hby d_add42_269) rfl ?_
              refine Go.iconst X186 hx (hb hby d_add42_271) ?_
              show Go _ _ _ _ T186 (mkF m 272 #[.val (.ref a), .val (.ref am), .val (.int (2 : Int32)), .val (.ref a174), .val (.int (2 : Int32)), .val (.int (2 : Int32)), .val (.int (2 : Int32)), .val (.int (f 0)), .val (.int (f 1))] [(.int (1 : Int32)), (.int (2 : Int32)), (.ref a174)]) _ _ _
              refine Go.isub X186 hx (hb hby d_add42_272) ?_
              show Go _ _ _ _ T186 (mkF m 273 #[.val (.ref a), .val (.ref am), .val (.int (2 : Int32)), .val (.ref a174), .val (.int (2 : Int32)), .val (.int (2 : Int32)), .val (.int (2 : Int32)), .val (.int (f 0)), .val (.int (f 1))] [(.int (1 : Int32)), (.ref a174)]) _ _ _
              refine Go.aloadN X186 hx (hb hby d_add42_273) rfl rfl ?_
              refine Go.iload X186 hx (hb hby d_add42_274) rfl ?_
              refine Go.iconst X186 hx (hb hby d_add42_276) ?_
              show Go _ _ _ _ T186 (mkF m 277 #[.val (.ref a), .val (.ref am), .val (.int (2 : Int32)), .val (.ref a174), .val (.int (2 : Int32)), .val (.int (2 : Int32)), .val (.int (2 : Int32)), .val (.int (f 0)), .val (.int (f 1))] [(.int (1 : Int32)), (.int (2 : Int32)), (.ref a174), (.int (1 : Int32)), (.ref a174)]) _ _ _
              refine Go.isub X186 hx (hb hby d_add42_277) ?_
              show Go _ _ _ _ T186 (mkF m 278 #[.val (.ref a), .val (.ref am), .val (.int (2 : Int32)), .val (.ref a174), .val (.int (2 : Int32)), .val (.int (2 : Int32)), .val (.int (2 : Int32)), .val (.int (f 0)), .val (.int (f 1))] [(.int (1 : Int32)), (.ref a174), (.int (1 : Int32)), (.ref a174)]) _ _ _
              refine Go.iaload X186 hx hZ e186 A180 (by decide) (by decide) (hb hby d_add42_278) ?_
              show Go _ _ _ _ T186 (mkF m 279 #[.val (.ref a), .val (.ref am), .val (.int (2 : Int32)), .val (.ref a174), .val (.int (2 : Int32)), .val (.int (2 : Int32)), .val (.int (2 : Int32)), .val (.int (f 0)), .val (.int (f 1))] [(.int y), (.int (1 : Int32)), (.ref a174)]) _ _ _
              refine Go.iload X186 hx (hb hby d_add42_279) rfl ?_
              refine Go.callS (W := 2) (argsL := [(.int y), (.int (f 1))]) (rest := [(.int (1 : Int32)), (.ref a174)]) X186 hx hZ hown (w33 hw) (w6 hw) (w3 hw) (w7 hw) (by decide) (rm_max l Z a0 hw y ((f 1)) h180) e186 (lenOf pd_0 rfl) (hb hby d_add42_281) (by rw [hml]; rfl) rfl (Nat.le_of_eq rfl) (by decide) (by decide) (by decide) (by decide) ?_
              intro v203 T203 L203 X203 q203
              obtain ⟨rfl, rfl, e203⟩ := q203
              have N203 := Fr.app N180 (Fr.nil n0)
              show Go _ _ _ _ T203 (mkF m 284 #[.val (.ref a), .val (.ref am), .val (.int (2 : Int32)), .val (.ref a174), .val (.int (2 : Int32)), .val (.int (2 : Int32)), .val (.int (2 : Int32)), .val (.int (f 0)), .val (.int (f 1))] [(.int (F_max y (f 1))), (.int (1 : Int32)), (.ref a174)]) _ _ _
              refine Go.iastore X203 hx hZ e203 A180 (by decide) (by decide) (hb hby d_add42_284) ?_
              intro T204 h204 X204 e204 W204 A204
              have N204 := Fr.snoc X204 N203 g_a174
              have Z204 : n0 ≤ h204.size := by rw [Wr.size W204]; exact Z180
              have B204 : h0.size ≤ h204.size := by rw [Wr.size W204]; exact B180
              show Go _ _ _ _ T204 (mkF m 285 #[.val (.ref a), .val (.ref am), .val (.int (2 : Int32)), .val (.ref a174), .val (.int (2 : Int32)), .val (.int (2 : Int32)), .val (.int (2 : Int32)), .val (.int (f 0)), .val (.int (f 1))] []) _ _ _
              refine Go.goto X204 hx (hb hby d_add42_285) (pc' := 306) (by decide) (by decide) ?_
              show Go _ _ _ _ T204 (mkF m 306 #[.val (.ref a), .val (.ref am), .val (.int (2 : Int32)), .val (.ref a174), .val (.int (2 : Int32)), .val (.int (2 : Int32)), .val (.int (2 : Int32)), .val (.int (f 0)), .val (.int (f 1))] []) _ _ _
              refine Go.goto X204 hx (hb hby d_add42_306) (pc' := 165) (by decide) (by decide) ?_
              show Go _ _ _ _ T204 (mkF m 165 #[.val (.ref a), .val (.ref am), .val (.int (2 : Int32)), .val (.ref a174), .val (.int (2 : Int32)), .val (.int (2 : Int32)), .val (.int (2 : Int32)), .val (.int (f 0)), .val (.int (f 1))] []) _ _ _
              refine Go.iload X204 hx (hb hby d_add42_165) rfl ?_
              refine Go.aloadN X204 hx (hb hby d_add42_167) rfl rfl ?_
              refine Go.getF X204 hx hZ hown (w31 hw) Via.refl e204 (Fld.other W204 F181 (Or.inl ne_a_a174)) (hb hby d_add42_168) ?_
              intro T205 X205 e205
              show Go _ _ _ _ T205 (mkF m 171 #[.val (.ref a), .val (.ref am), .val (.int (2 : Int32)), .val (.ref a174), .val (.int (2 : Int32)), .val (.int (2 : Int32)), .val (.int (2 : Int32)), .val (.int (f 0)), .val (.int (f 1))] [(.int (2 : Int32)), (.int (2 : Int32))]) _ _ _
              refine Go.icmpNo X205 hx (hb hby d_add42_171) (XT.ii_lt_f (by decide)) ?_
              show Go _ _ _ _ T205 (mkF m 174 #[.val (.ref a), .val (.ref am), .val (.int (2 : Int32)), .val (.ref a174), .val (.int (2 : Int32)), .val (.int (2 : Int32)), .val (.int (2 : Int32)), .val (.int (f 0)), .val (.int (f 1))] []) _ _ _
              refine Go.iload X205 hx (hb hby d_add42_174) rfl ?_
              refine Go.iloadN X205 hx (hb hby d_add42_176) rfl ?_
              refine Go.icmpYes X205 hx (hb hby d_add42_177) (XT.ii_ge_t (by decide)) (pc' := 309) (by decide) (by decide) ?_
              show Go _ _ _ _ T205 (mkF m 309 #[.val (.ref a), .val (.ref am), .val (.int (2 : Int32)), .val (.ref a174), .val (.int (2 : Int32)), .val (.int (2 : Int32)), .val (.int (2 : Int32)), .val (.int (f 0)), .val (.int (f 1))] []) _ _ _
              refine Go.aloadN X205 hx (hb hby d_add42_309) rfl rfl ?_
              refine Go.aloadN X205 hx (hb hby d_add42_310) rfl rfl ?_
              have F206 := (Exa.wr W204 (Exa.wr W180 (Exa.wr W179 (Exa.ext E174 f0))))
              refine Go.putF X205 hx hZ hown (w19 hw) Via.refl e205 (Fld.other W204 F183 (Or.inl ne_a_a174)) F206 (Or.inl (w20 hw)) (w9 hw) (ty := (.array .int)) (by decide) rfl rfl (hb hby d_add42_311) ?_
              intro T207 h207 X207 e207 W207
              have N207 := Fr.snoc X207 N204 f1
              have Z207 : n0 ≤ h207.size := by rw [Wr.size W207]; exact Z204
              have B207 : h0.size ≤ h207.size := by rw [Wr.size W207]; exact B204
              show Go _ _ _ _ T207 (mkF m 314 #[.val (.ref a), .val (.ref am), .val (.int (2 : Int32)), .val (.ref a174), .val (.int (2 : Int32)), .val (.int (2 : Int32)), .val (.int (2 : Int32)), .val (.int (f 0)), .val (.int (f 1))] []) _ _ _
              refine Go.aloadN X207 hx (hb hby d_add42_314) rfl rfl ?_
              refine Go.iload X207 hx (hb hby d_add42_315) rfl ?_
              have F208 := (Fld.other W207 (Fld.other W204 F181 (Or.inl ne_a_a174)) (Or.inr (slot_ne (a0 := a0) (Or.inl (w32 hw)) (Or.inl (w20 hw)) (t := .int) (t' := (.array .int)) (by decide) (by decide) (by decide))))
              refine Go.putF X207 hx hZ hown (w31 hw) Via.refl e207 F208 (Exa.wr W207 F206) (Or.inl (w32 hw)) (w9 hw) (ty := .int) (by decide) rfl rfl (hb hby d_add42_317) ?_
              intro T209 h209 X209 e209 W209
              have N209 := Fr.snoc X209 N207 f1
              have Z209 : n0 ≤ h209.size := by rw [Wr.size W209]; exact Z207
              have B209 : h0.size ≤ h209.size := by rw [Wr.size W209]; exact B207
              show Go _ _ _ _ T209 (mkF m 320 #[.val (.ref a), .val (.ref am), .val (.int (2 : Int32)), .val (.ref a174), .val (.int (2 : Int32)), .val (.int (2 : Int32)), .val (.int (2 : Int32)), .val (.int (f 0)), .val (.int (f 1))] []) _ _ _
              refine Go.ret0 X209 hx hlk hret (hb hby d_add42_320) (by decide) (by decide) ?_
              rw [e209]
              have F210 := (Af.other W209 (Af.other W207 A204 (Ne.symm ne_a_a174)) (Ne.symm ne_a_a174))
              have F212 := (Fld.other W209 (Fld.same W207 (Fld.other W204 F183 (Or.inl ne_a_a174))) (Or.inr (slot_ne (a0 := a0) (Or.inl (w20 hw)) (Or.inl (w32 hw)) (t := (.array .int)) (t' := .int) (by decide) (by decide) (by decide))))
              have AC211 : Af Z h209 a174 k174 .int 4 (fun i => Value.int ((updI (updI (updI (updI (fun _ => (0 : Int32)) 0 x) 1 (F_max y (f 1))) 2 (0 : Int32)) 3 (0 : Int32)) i)) := Af.congr F210 (fun i hi => by have hi' : i < 4 := hi; rcases lt_4 hi' with rfl | rfl | rfl | rfl <;> first | (simp [updI, updV]; done) | rfl)
              have fin211 := fin_add42_211 f x y M f12 f13 q0 q1 hM' c172 c178 c187
              exact ⟨a174, rfl, N209, (Keep.wr (Keep.wr (Keep.wr (Keep.wr (Keep.wr (Keep.ext (Keep.refl _ _) E174) W179 (Or.inr y_a174)) W180 (Or.inr y_a174)) W204 (Or.inr y_a174)) W207 (Or.inl (List.mem_of_getElem? (i := 0) rfl))) W209 (Or.inl (List.mem_of_getElem? (i := 0) rfl))), (Exa.wr W209 (Exa.wr W207 F206)), ⟨_, _, 4, 2, _, F212, (Fld.same W209 F208), AC211, ne_a_a174, (fun _ => g_a174), (Or.inr (Or.inr (Or.inl ⟨(k_up f9 (by decide)), rfl, rfl, rfl⟩))), fin211.1, fin211.2⟩⟩
      · refine Go.icmpNo X177 hx (hb hby d_add42_206) (XT.ii_gt_f c178) ?_
        show Go _ _ _ _ T177 (mkF m 209 #[.val (.ref a), .val (.ref am), .val (.int (2 : Int32)), .val (.ref a174), .val (.int (0 : Int32)), .val (.int (0 : Int32)), .val (.int (0 : Int32)), .unset, .unset] []) _ _ _
        as_aux_lemma =>
          refine Go.aloadN X177 hx (hb hby d_add42_209) rfl rfl ?_
          refine Go.getF X177 hx hZ hown (w19 hw) Via.refl e177 (Fld.ext E174 f5) (hb hby d_add42_210) ?_
          intro T217 X217 e217
          show Go _ _ _ _ T217 (mkF m 213 #[.val (.ref a), .val (.ref am), .val (.int (2 : Int32)), .val (.ref a174), .val (.int (0 : Int32)), .val (.int (0 : Int32)), .val (.int (0 : Int32)), .unset, .unset] [(.ref aB)]) _ _ _
          refine Go.iload X217 hx (hb hby d_add42_213) rfl ?_
          refine Go.iaload X217 hx hZ e217 (Af.ext E174 f7) (by decide) (by decide) (hb hby d_add42_215) ?_
          show Go _ _ _ _ T217 (mkF m 216 #[.val (.ref a), .val (.ref am), .val (.int (2 : Int32)), .val (.ref a174), .val (.int (0 : Int32)), .val (.int (0 : Int32)), .val (.int (0 : Int32)), .unset, .unset] [(.int (f 0))]) _ _ _
          refine Go.istore X217 hx (hb hby d_add42_216) (l' := #[.val (.ref a), .val (.ref am), .val (.int (2 : Int32)), .val (.ref a174), .val (.int (0 : Int32)), .val (.int (0 : Int32)), .val (.int (0 : Int32)), .val (.int (f 0)), .unset]) rfl ?_
          refine Go.aloadN X217 hx (hb hby d_add42_218) rfl rfl ?_
          refine Go.getF X217 hx hZ hown (w19 hw) Via.refl e217 (Fld.ext E174 f5) (hb hby d_add42_219) ?_
          intro T218 X218 e218
          show Go _ _ _ _ T218 (mkF m 222 #[.val (.ref a), .val (.ref am), .val (.int (2 : Int32)), .val (.ref a174), .val (.int (0 : Int32)), .val (.int (0 : Int32)), .val (.int (0 : Int32)), .val (.int (f 0)), .unset] [(.ref aB)]) _ _ _
          refine Go.iload X218 hx (hb hby d_add42_222) rfl ?_
          refine Go.iconst X218 hx (hb hby d_add42_224) ?_
          show Go _ _ _ _ T218 (mkF m 225 #[.val (.ref a), .val (.ref am), .val (.int (2 : Int32)), .val (.ref a174), .val (.int (0 : Int32)), .val (.int (0 : Int32)), .val (.int (0 : Int32)), .val (.int (f 0)), .unset] [(.int (1 : Int32)), (.int (0 : Int32)), (.ref aB)]) _ _ _
          refine Go.iadd X218 hx (hb hby d_add42_225) ?_
          show Go _ _ _ _ T218 (mkF m 226 #[.val (.ref a), .val (.ref am), .val (.int (2 : Int32)), .val (.ref a174), .val (.int (0 : Int32)), .val (.int (0 : Int32)), .val (.int (0 : Int32)), .val (.int (f 0)), .unset] [(.int (1 : Int32)), (.ref aB)]) _ _ _
          refine Go.iaload X218 hx hZ e218 (Af.ext E174 f7) (by decide) (by decide) (hb hby d_add42_226) ?_
          show Go _ _ _ _ T218 (mkF m 227 #[.val (.ref a), .val (.ref am), .val (.int (2 : Int32)), .val (.ref a174), .val (.int (0 : Int32)), .val (.int (0 : Int32)), .val (.int (0 : Int32)), .val (.int (f 0)), .unset] [(.int (f 1))]) _ _ _
          refine Go.istore X218 hx (hb hby d_add42_227) (l' := #[.val (.ref a), .val (.ref am), .val (.int (2 : Int32)), .val (.ref a174), .val (.int (0 : Int32)), .val (.int (0 : Int32)), .val (.int (0 : Int32)), .val (.int (f 0)), .val (.int (f 1))]) rfl ?_
          refine Go.iinc X218 hx (hb hby d_add42_229) rfl (l' := #[.val (.ref a), .val (.ref am), .val (.int (2 : Int32)), .val (.ref a174), .val (.int (0 : Int32)), .val (.int (2 : Int32)), .val (.int (0 : Int32)), .val (.int (f 0)), .val (.int (f 1))]) rfl ?_
          show Go _ _ _ _ T218 (mkF m 232 #[.val (.ref a), .val (.ref am), .val (.int (2 : Int32)), .val (.ref a174), .val (.int (0 : Int32)), .val (.int (2 : Int32)), .val (.int (0 : Int32)), .val (.int (f 0)), .val (.int (f 1))] []) _ _ _
          refine Go.goto X218 hx (hb hby d_add42_232) (pc' := 252) (by decide) (by decide) ?_
          show Go _ _ _ _ T218 (mkF m 252 #[.val (.ref a), .val (.ref am), .val (.int (2 : Int32)), .val (.ref a174), .val (.int (0 : Int32)), .val (.int (2 : Int32)), .val (.int (0 : Int32)), .val (.int (f 0)), .val (.int (f 1))] []) _ _ _
          refine Go.iload X218 hx (hb hby d_add42_252) rfl ?_
          refine Go.ifYes X218 hx (hb hby d_add42_254) (XT.i0_le_t (by decide)) (pc' := 288) (by decide) (by decide) ?_
          show Go _ _ _ _ T218 (mkF m 288 #[.val (.ref a), .val (.ref am), .val (.int (2 : Int32)), .val (.ref a174), .val (.int (0 : Int32)), .val (.int (2 : Int32)), .val (.int (0 : Int32)), .val (.int (f 0)), .val (.int (f 1))] []) _ _ _
          refine Go.aloadN X218 hx (hb hby d_add42_288) rfl rfl ?_
          refine Go.iload X218 hx (hb hby d_add42_289) rfl ?_
          refine Go.iinc X218 hx (hb hby d_add42_291) rfl (l' := #[.val (.ref a), .val (.ref am), .val (.int (2 : Int32)), .val (.ref a174), .val (.int (1 : Int32)), .val (.int (2 : Int32)), .val (.int (0 : Int32)), .val (.int (f 0)), .val (.int (f 1))]) rfl ?_
          show Go _ _ _ _ T218 (mkF m 294 #[.val (.ref a), .val (.ref am), .val (.int (2 : Int32)), .val (.ref a174), .val (.int (1 : Int32)), .val (.int (2 : Int32)), .val (.int (0 : Int32)), .val (.int (f 0)), .val (.int (f 1))] [(.int (0 : Int32)), (.ref a174)]) _ _ _
          refine Go.iload X218 hx (hb hby d_add42_294) rfl ?_
          refine Go.iastore X218 hx hZ e218 A174 (by decide) (by decide) (hb hby d_add42_296) ?_
          intro T219 h219 X219 e219 W219 A219
          have N219 := Fr.snoc X219 N0 g_a174
          have Z219 : n0 ≤ h219.size := by rw [Wr.size W219]; exact Z174
          have B219 : h0.size ≤ h219.size := by rw [Wr.size W219]; exact B174
          show Go _ _ _ _ T219 (mkF m 297 #[.val (.ref a), .val (.ref am), .val (.int (2 : Int32)), .val (.ref a174), .val (.int (1 : Int32)), .val (.int (2 : Int32)), .val (.int (0 : Int32)), .val (.int (f 0)), .val (.int (f 1))] []) _ _ _
          refine Go.aloadN X219 hx (hb hby d_add42_297) rfl rfl ?_
          refine Go.iload X219 hx (hb hby d_add42_298) rfl ?_
          refine Go.iinc X219 hx (hb hby d_add42_300) rfl (l' := #[.val (.ref a), .val (.ref am), .val (.int (2 : Int32)), .val (.ref a174), .val (.int (2 : Int32)), .val (.int (2 : Int32)), .val (.int (0 : Int32)), .val (.int (f 0)), .val (.int (f 1))]) rfl ?_
          show Go _ _ _ _ T219 (mkF m 303 #[.val (.ref a), .val (.ref am), .val (.int (2 : Int32)), .val (.ref a174), .val (.int (2 : Int32)), .val (.int (2 : Int32)), .val (.int (0 : Int32)), .val (.int (f 0)), .val (.int (f 1))] [(.int (1 : Int32)), (.ref a174)]) _ _ _
          refine Go.iload X219 hx (hb hby d_add42_303) rfl ?_
          refine Go.iastore X219 hx hZ e219 A219 (by decide) (by decide) (hb hby d_add42_305) ?_
          intro T220 h220 X220 e220 W220 A220
          have N220 := Fr.snoc X220 N219 g_a174
          have Z220 : n0 ≤ h220.size := by rw [Wr.size W220]; exact Z219
          have B220 : h0.size ≤ h220.size := by rw [Wr.size W220]; exact B219
          show Go _ _ _ _ T220 (mkF m 306 #[.val (.ref a), .val (.ref am), .val (.int (2 : Int32)), .val (.ref a174), .val (.int (2 : Int32)), .val (.int (2 : Int32)), .val (.int (0 : Int32)), .val (.int (f 0)), .val (.int (f 1))] []) _ _ _
          refine Go.goto X220 hx (hb hby d_add42_306) (pc' := 165) (by decide) (by decide) ?_
          show Go _ _ _ _ T220 (mkF m 165 #[.val (.ref a), .val (.ref am), .val (.int (2 : Int32)), .val (.ref a174), .val (.int (2 : Int32)), .val (.int (2 : Int32)), .val (.int (0 : Int32)), .val (.int (f 0)), .val (.int (f 1))] []) _ _ _
          refine Go.iload X220 hx (hb hby d_add42_165) rfl ?_
          refine Go.aloadN X220 hx (hb hby d_add42_167) rfl rfl ?_
          have F221 := (Fld.other W220 (Fld.other W219 (Fld.ext E174 f6) (Or.inl ne_a_a174)) (Or.inl ne_a_a174))
          refine Go.getF X220 hx hZ hown (w31 hw) Via.refl e220 F221 (hb hby d_add42_168) ?_
          intro T222 X222 e222
          show Go _ _ _ _ T222 (mkF m 171 #[.val (.ref a), .val (.ref am), .val (.int (2 : Int32)), .val (.ref a174), .val (.int (2 : Int32)), .val (.int (2 : Int32)), .val (.int (0 : Int32)), .val (.int (f 0)), .val (.int (f 1))] [(.int (2 : Int32)), (.int (2 : Int32))]) _ _ _
          refine Go.icmpNo X222 hx (hb hby d_add42_171) (XT.ii_lt_f (by decide)) ?_
          show Go _ _ _ _ T222 (mkF m 174 #[.val (.ref a), .val (.ref am), .val (.int (2 : Int32)), .val (.ref a174), .val (.int (2 : Int32)), .val (.int (2 : Int32)), .val (.int (0 : Int32)), .val (.int (f 0)), .val (.int (f 1))] []) _ _ _
          refine Go.iload X222 hx (hb hby d_add42_174) rfl ?_
          refine Go.iloadN X222 hx (hb hby d_add42_176) rfl ?_
          refine Go.icmpNo X222 hx (hb hby d_add42_177) (XT.ii_ge_f (by decide)) ?_
          show Go _ _ _ _ T222 (mkF m 180 #[.val (.ref a), .val (.ref am), .val (.int (2 : Int32)), .val (.ref a174), .val (.int (2 : Int32)), .val (.int (2 : Int32)), .val (.int (0 : Int32)), .val (.int (f 0)), .val (.int (f 1))] []) _ _ _
          refine Go.iload X222 hx (hb hby d_add42_180) rfl ?_
          refine Go.iloadN X222 hx (hb hby d_add42_182) rfl ?_
          refine Go.icmpNo X222 hx (hb hby d_add42_183) (XT.ii_eq_f (by decide)) ?_
          show Go _ _ _ _ T222 (mkF m 186 #[.val (.ref a), .val (.ref am), .val (.int (2 : Int32)), .val (.ref a174), .val (.int (2 : Int32)), .val (.int (2 : Int32)), .val (.int (0 : Int32)), .val (.int (f 0)), .val (.int (f 1))] []) _ _ _
          refine Go.iload X222 hx (hb hby d_add42_186) rfl ?_
          refine Go.aloadN X222 hx (hb hby d_add42_188) rfl rfl ?_
          refine Go.getF X222 hx hZ hown (w31 hw) Via.refl e222 F221 (hb hby d_add42_189) ?_
          intro T223 X223 e223
          show Go _ _ _ _ T223 (mkF m 192 #[.val (.ref a), .val (.ref am), .val (.int (2 : Int32)), .val (.ref a174), .val (.int (2 : Int32)), .val (.int (2 : Int32)), .val (.int (0 : Int32)), .val (.int (f 0)), .val (.int (f 1))] [(.int (2 : Int32)), (.int (2 : Int32))]) _ _ _
          refine Go.icmpYes X223 hx (hb hby d_add42_192) (XT.ii_ge_t (by decide)) (pc' := 235) (by decide) (by decide) ?_
          show Go _ _ _ _ T223 (mkF m 235 #[.val (.ref a), .val (.ref am), .val (.int (2 : Int32)), .val (.ref a174), .val (.int (2 : Int32)), .val (.int (2 : Int32)), .val (.int (0 : Int32)), .val (.int (f 0)), .val (.int (f 1))] []) _ _ _
          refine Go.aloadN X223 hx (hb hby d_add42_235) rfl rfl ?_
          refine Go.iload X223 hx (hb hby d_add42_236) rfl ?_
          have F224 := (Af.other W220 (Af.other W219 (Af.ext E174 f8) ne_am_a174) ne_am_a174)
          refine Go.iaload X223 hx hZ e223 F224 (by decide) (by decide) (hb hby d_add42_238) ?_
          show Go _ _ _ _ T223 (mkF m 239 #[.val (.ref a), .val (.ref am), .val (.int (2 : Int32)), .val (.ref a174), .val (.int (2 : Int32)), .val (.int (2 : Int32)), .val (.int (0 : Int32)), .val (.int (f 0)), .val (.int (f 1))] [(.int x)]) _ _ _
          refine Go.istore X223 hx (hb hby d_add42_239) (l' := #[.val (.ref a), .val (.ref am), .val (.int (2 : Int32)), .val (.ref a174), .val (.int (2 : Int32)), .val (.int (2 : Int32)), .val (.int (0 : Int32)), .val (.int x), .val (.int (f 1))]) rfl ?_
          refine Go.aloadN X223 hx (hb hby d_add42_241) rfl rfl ?_
          refine Go.iload X223 hx (hb hby d_add42_242) rfl ?_
          refine Go.iconst X223 hx (hb hby d_add42_244) ?_
          show Go _ _ _ _ T223 (mkF m 245 #[.val (.ref a), .val (.ref am), .val (.int (2 : Int32)), .val (.ref a174), .val (.int (2 : Int32)), .val (.int (2 : Int32)), .val (.int (0 : Int32)), .val (.int x), .val (.int (f 1))] [(.int (1 : Int32)), (.int (0 : Int32)), (.ref am)]) _ _ _
          refine Go.iadd X223 hx (hb hby d_add42_245) ?_
          show Go _ _ _ _ T223 (mkF m 246 #[.val (.ref a), .val (.ref am), .val (.int (2 : Int32)), .val (.ref a174), .val (.int (2 : Int32)), .val (.int (2 : Int32)), .val (.int (0 : Int32)), .val (.int x), .val (.int (f 1))] [(.int (1 : Int32)), (.ref am)]) _ _ _
          refine Go.iaload X223 hx hZ e223 F224 (by decide) (by decide) (hb hby d_add42_246) ?_
          show Go _ _ _ _ T223 (mkF m 247 #[.val (.ref a), .val (.ref am), .val (.int (2 : Int32)), .val (.ref a174), .val (.int (2 : Int32)), .val (.int (2 : Int32)), .val (.int (0 : Int32)), .val (.int x), .val (.int (f 1))] [(.int y)]) _ _ _
          refine Go.istore X223 hx (hb hby d_add42_247) (l' := #[.val (.ref a), .val (.ref am), .val (.int (2 : Int32)), .val (.ref a174), .val (.int (2 : Int32)), .val (.int (2 : Int32)), .val (.int (0 : Int32)), .val (.int x), .val (.int y)]) rfl ?_
          refine Go.iinc X223 hx (hb hby d_add42_249) rfl (l' := #[.val (.ref a), .val (.ref am), .val (.int (2 : Int32)), .val (.ref a174), .val (.int (2 : Int32)), .val (.int (2 : Int32)), .val (.int (2 : Int32)), .val (.int x), .val (.int y)]) rfl ?_
          show Go _ _ _ _ T223 (mkF m 252 #[.val (.ref a), .val (.ref am), .val (.int (2 : Int32)), .val (.ref a174), .val (.int (2 : Int32)), .val (.int (2 : Int32)), .val (.int (2 : Int32)), .val (.int x), .val (.int y)] []) _ _ _
          refine Go.iload X223 hx (hb hby d_add42_252) rfl ?_
          refine Go.ifNo X223 hx (hb hby d_add42_254) (XT.i0_le_f (by decide)) ?_
          show Go _ _ _ _ T223 (mkF m 257 #[.val (.ref a), .val (.ref am), .val (.int (2 : Int32)), .val (.ref a174), .val (.int (2 : Int32)), .val (.int (2 : Int32)), .val (.int (2 : Int32)), .val (.int x), .val (.int y)] []) _ _ _
          refine Go.iload X223 hx (hb hby d_add42_257) rfl ?_
          refine Go.aloadN X223 hx (hb hby d_add42_259) rfl rfl ?_
          refine Go.iload X223 hx (hb hby d_add42_260) rfl ?_
          refine Go.iconst X223 hx (hb hby d_add42_262) ?_
          show Go _ _ _ _ T223 (mkF m 263 #[.val (.ref a), .val (.ref am), .val (.int (2 : Int32)), .val (.ref a174), .val (.int (2 : Int32)), .val (.int (2 : Int32)), .val (.int (2 : Int32)), .val (.int x), .val (.int y)] [(.int (1 : Int32)), (.int (2 : Int32)), (.ref a174), (.int x)]) _ _ _
          refine Go.isub X223 hx (hb hby d_add42_263) ?_
          show Go _ _ _ _ T223 (mkF m 264 #[.val (.ref a), .val (.ref am), .val (.int (2 : Int32)), .val (.ref a174), .val (.int (2 : Int32)), .val (.int (2 : Int32)), .val (.int (2 : Int32)), .val (.int x), .val (.int y)] [(.int (1 : Int32)), (.ref a174), (.int x)]) _ _ _
          refine Go.iaload X223 hx hZ e223 A220 (by decide) (by decide) (hb hby d_add42_264) ?_
          show Go _ _ _ _ T223 (mkF m 265 #[.val (.ref a), .val (.ref am), .val (.int (2 : Int32)), .val (.ref a174), .val (.int (2 : Int32)), .val (.int (2 : Int32)), .val (.int (2 : Int32)), .val (.int x), .val (.int y)] [(.int (f 1)), (.int x)]) _ _ _
          rcases Decidable.em ((f 1) < x) with c225 | c225
          · refine Go.icmpYes X223 hx (hb hby d_add42_265) (XT.ii_gt_t c225) (pc' := 288) (by decide) (by decide) ?_
            show Go _ _ _ _ T223 (mkF m 288 #[.val (.ref a), .val (.ref am), .val (.int (2 : Int32)), .val (.ref a174), .val (.int (2 : Int32)), .val (.int (2 : Int32)), .val (.int (2 : Int32)), .val (.int x), .val (.int y)] []) _ _ _
            as_aux_lemma =>
              refine Go.aloadN X223 hx (hb hby d_add42_288) rfl rfl ?_
              refine Go.iload X223 hx (hb hby d_add42_289) rfl ?_
              refine Go.iinc X223 hx (hb hby d_add42_291) rfl (l' := #[.val (.ref a), .val (.ref am), .val (.int (2 : Int32)), .val (.ref a174), .val (.int (3 : Int32)), .val (.int (2 : Int32)), .val (.int (2 : Int32)), .val (.int x), .val (.int y)]) rfl ?_
              show Go _ _ _ _ T223 (mkF m 294 #[.val (.ref a), .val (.ref am), .val (.int (2 : Int32)), .val (.ref a174), .val (.int (3 : Int32)), .val (.int (2 : Int32)), .val (.int (2 : Int32)), .val (.int x), .val (.int y)] [(.int (2 : Int32)), (.ref a174)]) _ _ _
              refine Go.iload X223 hx (hb hby d_add42_294) rfl ?_
              refine Go.iastore X223 hx hZ e223 A220 (by decide) (by decide) (hb hby d_add42_296) ?_
              intro T226 h226 X226 e226 W226 A226
              have N226 := Fr.snoc X226 N220 g_a174
              have Z226 : n0 ≤ h226.size := by rw [Wr.size W226]; exact Z220
              have B226 : h0.size ≤ h226.size := by rw [Wr.size W226]; exact B220
              show Go _ _ _ _ T226 (mkF m 297 #[.val (.ref a), .val (.ref am), .val (.int (2 : Int32)), .val (.ref a174), .val (.int (3 : Int32)), .val (.int (2 : Int32)), .val (.int (2 : Int32)), .val (.int x), .val (.int y)] []) _ _ _
              refine Go.aloadN X226 hx (hb hby d_add42_297) rfl rfl ?_
              refine Go.iload X226 hx (hb hby d_add42_298) rfl ?_
              refine Go.iinc X226 hx (hb hby d_add42_300) rfl (l' := #[.val (.ref a), .val (.ref am), .val (.int (2 : Int32)), .val (.ref a174), .val (.int (4 : Int32)), .val (.int (2 : Int32)), .val (.int (2 : Int32)), .val (.int x), .val (.int y)]) rfl ?_
              show Go _ _ _ _ T226 (mkF m 303 #[.val (.ref a), .val (.ref am), .val (.int (2 : Int32)), .val (.ref a174), .val (.int (4 : Int32)), .val (.int (2 : Int32)), .val (.int (2 : Int32)), .val (.int x), .val (.int y)] [(.int (3 : Int32)), (.ref a174)]) _ _ _
              refine Go.iload X226 hx (hb hby d_add42_303) rfl ?_
              refine Go.iastore X226 hx hZ e226 A226 (by decide) (by decide) (hb hby d_add42_305) ?_
              intro T227 h227 X227 e227 W227 A227
              have N227 := Fr.snoc X227 N226 g_a174
              have Z227 : n0 ≤ h227.size := by rw [Wr.size W227]; exact Z226
              have B227 : h0.size ≤ h227.size := by rw [Wr.size W227]; exact B226
              show Go _ _ _ _ T227 (mkF m 306 #[.val (.ref a), .val (.ref am), .val (.int (2 : Int32)), .val (.ref a174), .val (.int (4 : Int32)), .val (.int (2 : Int32)), .val (.int (2 : Int32)), .val (.int x), .val (.int y)] []) _ _ _
              refine Go.goto X227 hx (hb hby d_add42_306) (pc' := 165) (by decide) (by decide) ?_
              show Go _ _ _ _ T227 (mkF m 165 #[.val (.ref a), .val (.ref am), .val (.int (2 : Int32)), .val (.ref a174), .val (.int (4 : Int32)), .val (.int (2 : Int32)), .val (.int (2 : Int32)), .val (.int x), .val (.int y)] []) _ _ _
              refine Go.iload X227 hx (hb hby d_add42_165) rfl ?_
              refine Go.aloadN X227 hx (hb hby d_add42_167) rfl rfl ?_
              have F228 := (Fld.other W227 (Fld.other W226 F221 (Or.inl ne_a_a174)) (Or.inl ne_a_a174))
              refine Go.getF X227 hx hZ hown (w31 hw) Via.refl e227 F228 (hb hby d_add42_168) ?_
              intro T229 X229 e229
              show Go _ _ _ _ T229 (mkF m 171 #[.val (.ref a), .val (.ref am), .val (.int (2 : Int32)), .val (.ref a174), .val (.int (4 : Int32)), .val (.int (2 : Int32)), .val (.int (2 : Int32)), .val (.int x), .val (.int y)] [(.int (2 : Int32)), (.int (2 : Int32))]) _ _ _
              refine Go.icmpNo X229 hx (hb hby d_add42_171) (XT.ii_lt_f (by decide)) ?_
              show Go _ _ _ _ T229 (mkF m 174 #[.val (.ref a), .val (.ref am), .val (.int (2 : Int32)), .val (.ref a174), .val (.int (4 : Int32)), .val (.int (2 : Int32)), .val (.int (2 : Int32)), .val (.int x), .val (.int y)] []) _ _ _
              refine Go.iload X229 hx (hb hby d_add42_174) rfl ?_
              refine Go.iloadN X229 hx (hb hby d_add42_176) rfl ?_
              refine Go.icmpYes X229 hx (hb hby d_add42_177) (XT.ii_ge_t (by decide)) (pc' := 309) (by decide) (by decide) ?_
              show Go _ _ _ _ T229 (mkF m 309 #[.val (.ref a), .val (.ref am), .val (.int (2 : Int32)), .val (.ref a174), .val (.int (4 : Int32)), .val (.int (2 : Int32)), .val (.int (2 : Int32)), .val (.int x), .val (.int y)] []) _ _ _
              refine Go.aloadN X229 hx (hb hby d_add42_309) rfl rfl ?_
              refine Go.aloadN X229 hx (hb hby d_add42_310) rfl rfl ?_
              have F230 := (Fld.other W227 (Fld.other W226 (Fld.other W220 (Fld.other W219 (Fld.ext E174 f5) (Or.inl ne_a_a174)) (Or.inl ne_a_a174)) (Or.inl ne_a_a174)) (Or.inl ne_a_a174))
              have F231 := (Exa.wr W227 (Exa.wr W226 (Exa.wr W220 (Exa.wr W219 (Exa.ext E174 f0)))))
              refine Go.putF X229 hx hZ hown (w19 hw) Via.refl e229 F230 F231 (Or.inl (w20 hw)) (w9 hw) (ty := (.array .int)) (by decide) rfl rfl (hb hby d_add42_311) ?_
              intro T232 h232 X232 e232 W232
              have N232 := Fr.snoc X232 N227 f1
              have Z232 : n0 ≤ h232.size := by rw [Wr.size W232]; exact Z227
              have B232 : h0.size ≤ h232.size := by rw [Wr.size W232]; exact B227
              show Go _ _ _ _ T232 (mkF m 314 #[.val (.ref a), .val (.ref am), .val (.int (2 : Int32)), .val (.ref a174), .val (.int (4 : Int32)), .val (.int (2 : Int32)), .val (.int (2 : Int32)), .val (.int x), .val (.int y)] []) _ _ _
              refine Go.aloadN X232 hx (hb hby d_add42_314) rfl rfl ?_
              refine Go.iload X232 hx (hb hby d_add42_315) rfl ?_
              have F233 := (Fld.other W232 F228 (Or.inr (slot_ne (a0 := a0) (Or.inl (w32 hw)) (Or.inl (w20 hw)) (t := .int) (t' := (.array .int)) (by decide) (by decide) (by decide))))
              refine Go.putF X232 hx hZ hown (w31 hw) Via.refl e232 F233 (Exa.wr W232 F231) (Or.inl (w32 hw)) (w9 hw) (ty := .int) (by decide) rfl rfl (hb hby d_add42_317) ?_
              intro T234 h234 X234 e234 W234
              have N234 := Fr.snoc X234 N232 f1
              have Z234 : n0 ≤ h234.size := by rw [Wr.size W234]; exact Z232
              have B234 : h0.size ≤ h234.size := by rw [Wr.size W234]; exact B232
              show Go _ _ _ _ T234 (mkF m 320 #[.val (.ref a), .val (.ref am), .val (.int (2 : Int32)), .val (.ref a174), .val (.int (4 : Int32)), .val (.int (2 : Int32)), .val (.int (2 : Int32)), .val (.int x), .val (.int y)] []) _ _ _
              refine Go.ret0 X234 hx hlk hret (hb hby d_add42_320) (by decide) (by decide) ?_
              rw [e234]
              have F235 := (Af.other W234 (Af.other W232 A227 (Ne.symm ne_a_a174)) (Ne.symm ne_a_a174))
              have F237 := (Fld.other W234 (Fld.same W232 F230) (Or.inr (slot_ne (a0 := a0) (Or.inl (w20 hw)) (Or.inl (w32 hw)) (t := (.array .int)) (t' := .int) (by decide) (by decide) (by decide))))
              have AC236 : Af Z h234 a174 k174 .int 4 (fun i => Value.int ((updI (updI (updI (updI (fun _ => (0 : Int32)) 0 (f 0)) 1 (f 1)) 2 x) 3 y) i)) := Af.congr F235 (fun i hi => by have hi' : i < 4 := hi; rcases lt_4 hi' with rfl | rfl | rfl | rfl <;> first | (simp [updI, updV]; done) | rfl)
              have fin236 := fin_add42_236 f x y M f12 f13 q0 q1 hM' c172 c178 c225
              exact ⟨a174, rfl, N234, (Keep.wr (Keep.wr (Keep.wr (Keep.wr (Keep.wr (Keep.wr (Keep.ext (Keep.refl _ _) E174) W219 (Or.inr y_a174)) W220 (Or.inr y_a174)) W226 (Or.inr y_a174)) W227 (Or.inr y_a174)) W232 (Or.inl (List.mem_of_getElem? (i := 0) rfl))) W234 (Or.inl (List.mem_of_getElem? (i := 0) rfl))), (Exa.wr W234 (Exa.wr W232 F231)), ⟨_, _, 4, 4, _, F237, (Fld.same W234 F233), AC236, ne_a_a174, (fun _ => g_a174), (Or.inr (Or.inr (Or.inr (Or.inl ⟨(k_up f9 (by decide)), rfl, rfl, rfl⟩)))), fin236.1, fin236.2⟩⟩
          · refine Go.icmpNo X223 hx (hb hby d_add42_265) (XT.ii_gt_f c225) ?_
            show Go _ _ _ _ T223 (mkF m 268 #[.val (.ref a), .val (.ref am), .val (.int (2 : Int32)), .val (.ref a174), .val (.int (2 : Int32)), .val (.int (2 : Int32)), .val (.int (2 : Int32)), .val (.int x), .val (.int y)] []) _ _ _
            as_aux_lemma =>
              refine Go.aloadN X223 hx (hb hby d_add42_268) rfl rfl ?_
              refine Go.iload X223 hx (hb hby d_add42_269) rfl ?_
              refine Go.iconst X223 hx (hb hby d_add42_271) ?_
              show Go _ _ _ _ T223 (mkF m 272 #[.val (.ref a), .val (.ref am), .val (.int (2 : Int32)), .val (.ref a174), .val (.int (2 : Int32)), .val (.int (2 : Int32)), .val (.int (2 : Int32)), .val (.int x), .val (.int y)] [(.int (1 : Int32)), (.int (2 : Int32)), (.ref a174)]) _ _ _
              refine Go.isub X223 hx (hb hby d_add42_272) ?_
              show Go _ _ _ _ T223 (mkF m 273 #[.val (.ref a), .val (.ref am), .val (.int (2 : Int32)), .val (.ref a174), .val (.int (2 : Int32)), .val (.int (2 : Int32)), .val (.int (2 : Int32)), .val (.int x), .val (.int y)] [(.int (1 : Int32)), (.ref a174)]) _ _ _
              refine Go.aloadN X223 hx (hb hby d_add42_273) rfl rfl ?_
              refine Go.iload X223 hx (hb hby d_add42_274) rfl ?_
              refine Go.iconst X223 hx (hb hby d_add42_276) ?_
              show Go _ _ _ _ T223 (mkF m 277 #[.val (.ref a), .val (.ref am), .val (.int (2 : Int32)), .val (.ref a174), .val (.int (2 : Int32)), .val (.int (2 : Int32)), .val (.int (2 : Int32)), .val (.int x), .val (.int y)] [(.int (1 : Int32)), (.int (2 : Int32)), (.ref a174), (.int (1 : Int32)), (.ref a174)]) _ _ _
              refine Go.isub X223 hx (hb hby d_add42_277) ?_
              show Go _ _ _ _ T223 (mkF m 278 #[.val (.ref a), .val (.ref am), .val (.int (2 : Int32)), .val (.ref a174), .val (.int (2 : Int32)), .val (.int (2 : Int32)), .val (.int (2 : Int32)), .val (.int x), .val (.int y)] [(.int (1 : Int32)), (.ref a174), (.int (1 : Int32)), (.ref a174)]) _ _ _
              refine Go.iaload X223 hx hZ e223 A220 (by decide) (by decide) (hb hby d_add42_278) ?_
              show Go _ _ _ _ T223 (mkF m 279 #[.val (.ref a), .val (.ref am), .val (.int (2 : Int32)), .val (.ref a174), .val (.int (2 : Int32)), .val (.int (2 : Int32)), .val (.int (2 : Int32)), .val (.int x), .val (.int y)] [(.int (f 1)), (.int (1 : Int32)), (.ref a174)]) _ _ _
              refine Go.iload X223 hx (hb hby d_add42_279) rfl ?_
              refine Go.callS (W := 2) (argsL := [(.int (f 1)), (.int y)]) (rest := [(.int (1 : Int32)), (.ref a174)]) X223 hx hZ hown (w33 hw) (w6 hw) (w3 hw) (w7 hw) (by decide) (rm_max l Z a0 hw ((f 1)) y h220) e223 (lenOf pd_0 rfl) (hb hby d_add42_281) (by rw [hml]; rfl) rfl (Nat.le_of_eq rfl) (by decide) (by decide) (by decide) (by decide) ?_
              intro v241 T241 L241 X241 q241
              obtain ⟨rfl, rfl, e241⟩ := q241
              have N241 := Fr.app N220 (Fr.nil n0)
              show Go _ _ _ _ T241 (mkF m 284 #[.val (.ref a), .val (.ref am), .val (.int (2 : Int32)), .val (.ref a174), .val (.int (2 : Int32)), .val (.int (2 : Int32)), .val (.int (2 : Int32)), .val (.int x), .val (.int y)] [(.int (F_max (f 1) y)), (.int (1 : Int32)), (.ref a174)]) _ _ _
              refine Go.iastore X241 hx hZ e241 A220 (by decide) (by decide) (hb hby d_add42_284) ?_
              intro T242 h242 X242 e242 W242 A242
              have N242 := Fr.snoc X242 N241 g_a174
              have Z242 : n0 ≤ h242.size := by rw [Wr.size W242]; exact Z220
              have B242 : h0.size ≤ h242.size := by rw [Wr.size W242]; exact B220
              show Go _ _ _ _ T242 (mkF m 285 #[.val (.ref a), .val (.ref am), .val (.int (2 : Int32)), .val (.ref a174), .val (.int (2 : Int32)), .val (.int (2 : Int32)), .val (.int (2 : Int32)), .val (.int x), .val (.int y)] []) _ _ _
              refine Go.goto X242 hx (hb hby d_add42_285) (pc' := 306) (by decide) (by decide) ?_
              show Go _ _ _ _ T242 (mkF m 306 #[.val (.ref a), .val (.ref am), .val (.int (2 : Int32)), .val (.ref a174), .val (.int (2 : Int32)), .val (.int (2 : Int32)), .val (.int (2 : Int32)), .val (.int x), .val (.int y)] []) _ _ _
              refine Go.goto X242 hx (hb hby d_add42_306) (pc' := 165) (by decide) (by decide) ?_
              show Go _ _ _ _ T242 (mkF m 165 #[.val (.ref a), .val (.ref am), .val (.int (2 : Int32)), .val (.ref a174), .val (.int (2 : Int32)), .val (.int (2 : Int32)), .val (.int (2 : Int32)), .val (.int x), .val (.int y)] []) _ _ _
              refine Go.iload X242 hx (hb hby d_add42_165) rfl ?_
              refine Go.aloadN X242 hx (hb hby d_add42_167) rfl rfl ?_
              refine Go.getF X242 hx hZ hown (w31 hw) Via.refl e242 (Fld.other W242 F221 (Or.inl ne_a_a174)) (hb hby d_add42_168) ?_
              intro T243 X243 e243
              show Go _ _ _ _ T243 (mkF m 171 #[.val (.ref a), .val (.ref am), .val (.int (2 : Int32)), .val (.ref a174), .val (.int (2 : Int32)), .val (.int (2 : Int32)), .val (.int (2 : Int32)), .val (.int x), .val (.int y)] [(.int (2 : Int32)), (.int (2 : Int32))]) _ _ _
              refine Go.icmpNo X243 hx (hb hby d_add42_171) (XT.ii_lt_f (by decide)) ?_
              show Go _ _ _ _ T243 (mkF m 174 #[.val (.ref a), .val (.ref am), .val (.int (2 : Int32)), .val (.ref a174), .val (.int (2 : Int32)), .val (.int (2 : Int32)), .val (.int (2 : Int32)), .val (.int x), .val (.int y)] []) _ _ _
              refine Go.iload X243 hx (hb hby d_add42_174) rfl ?_
              refine Go.iloadN X243 hx (hb hby d_add42_176) rfl ?_
              refine Go.icmpYes X243 hx (hb hby d_add42_177) (XT.ii_ge_t (by decide)) (pc' := 309) (by decide) (by decide) ?_
              show Go _ _ _ _ T243 (mkF m 309 #[.val (.ref a), .val (.ref am), .val (.int (2 : Int32)), .val (.ref a174), .val (.int (2 : Int32)), .val (.int (2 : Int32)), .val (.int (2 : Int32)), .val (.int x), .val (.int y)] []) _ _ _
              refine Go.aloadN X243 hx (hb hby d_add42_309) rfl rfl ?_
              refine Go.aloadN X243 hx (hb hby d_add42_310) rfl rfl ?_
              have F244 := (Fld.other W242 (Fld.other W220 (Fld.other W219 (Fld.ext E174 f5) (Or.inl ne_a_a174)) (Or.inl ne_a_a174)) (Or.inl ne_a_a174))
              have F245 := (Exa.wr W242 (Exa.wr W220 (Exa.wr W219 (Exa.ext E174 f0))))
              refine Go.putF X243 hx hZ hown (w19 hw) Via.refl e243 F244 F245 (Or.inl (w20 hw)) (w9 hw) (ty := (.array .int)) (by decide) rfl rfl (hb hby d_add42_311) ?_
              intro T246 h246 X246 e246 W246
              have N246 := Fr.snoc X246 N242 f1
              have Z246 : n0 ≤ h246.size := by rw [Wr.size W246]; exact Z242
              have B246 : h0.size ≤ h246.size := by rw [Wr.size W246]; exact B242
              show Go _ _ _ _ T246 (mkF m 314 #[.val (.ref a), .val (.ref am), .val (.int (2 : Int32)), .val (.ref a174), .val (.int (2 : Int32)), .val (.int (2 : Int32)), .val (.int (2 : Int32)), .val (.int x), .val (.int y)] []) _ _ _
              refine Go.aloadN X246 hx (hb hby d_add42_314) rfl rfl ?_
              refine Go.iload X246 hx (hb hby d_add42_315) rfl ?_
              have F247 := (Fld.other W246 (Fld.other W242 F221 (Or.inl ne_a_a174)) (Or.inr (slot_ne (a0 := a0) (Or.inl (w32 hw)) (Or.inl (w20 hw)) (t := .int) (t' := (.array .int)) (by decide) (by decide) (by decide))))
              refine Go.putF X246 hx hZ hown (w31 hw) Via.refl e246 F247 (Exa.wr W246 F245) (Or.inl (w32 hw)) (w9 hw) (ty := .int) (by decide) rfl rfl (hb hby d_add42_317) ?_
              intro T248 h248 X248 e248 W248
              have N248 := Fr.snoc X248 N246 f1
              have Z248 : n0 ≤ h248.size := by rw [Wr.size W248]; exact Z246
              have B248 : h0.size ≤ h248.size := by rw [Wr.size W248]; exact B246
              show Go _ _ _ _ T248 (mkF m 320 #[.val (.ref a), .val (.ref am), .val (.int (2 : Int32)), .val (.ref a174), .val (.int (2 : Int32)), .val (.int (2 : Int32)), .val (.int (2 : Int32)), .val (.int x), .val (.int y)] []) _ _ _
              refine Go.ret0 X248 hx hlk hret (hb hby d_add42_320) (by decide) (by decide) ?_
              rw [e248]
              have F249 := (Af.other W248 (Af.other W246 A242 (Ne.symm ne_a_a174)) (Ne.symm ne_a_a174))
              have F251 := (Fld.other W248 (Fld.same W246 F244) (Or.inr (slot_ne (a0 := a0) (Or.inl (w20 hw)) (Or.inl (w32 hw)) (t := (.array .int)) (t' := .int) (by decide) (by decide) (by decide))))
              have AC250 : Af Z h248 a174 k174 .int 4 (fun i => Value.int ((updI (updI (updI (updI (fun _ => (0 : Int32)) 0 (f 0)) 1 (F_max (f 1) y)) 2 (0 : Int32)) 3 (0 : Int32)) i)) := Af.congr F249 (fun i hi => by have hi' : i < 4 := hi; rcases lt_4 hi' with rfl | rfl | rfl | rfl <;> first | (simp [updI, updV]; done) | rfl)
              have fin250 := fin_add42_250 f x y M f12 f13 q0 q1 hM' c172 c178 c225
              exact ⟨a174, rfl, N248, (Keep.wr (Keep.wr (Keep.wr (Keep.wr (Keep.wr (Keep.ext (Keep.refl _ _) E174) W219 (Or.inr y_a174)) W220 (Or.inr y_a174)) W242 (Or.inr y_a174)) W246 (Or.inl (List.mem_of_getElem? (i := 0) rfl))) W248 (Or.inl (List.mem_of_getElem? (i := 0) rfl))), (Exa.wr W248 (Exa.wr W246 F245)), ⟨_, _, 4, 2, _, F251, (Fld.same W248 F247), AC250, ne_a_a174, (fun _ => g_a174), (Or.inr (Or.inr (Or.inl ⟨(k_up f9 (by decide)), rfl, rfl, rfl⟩))), fin250.1, fin250.2⟩⟩
  · refine Go.icmpNo X171 hx (hb hby d_add42_26) (XT.ii_lt_f c172) ?_
    show Go _ _ _ _ T171 (mkF m 29 #[.val (.ref a), .val (.ref am), .val (.int (2 : Int32)), .unset, .unset, .unset, .unset, .unset, .unset] []) _ _ _
    as_aux_lemma =>
      refine Go.iconst X171 hx (hb hby d_add42_29) ?_
      show Go _ _ _ _ T171 (mkF m 30 #[.val (.ref a), .val (.ref am), .val (.int (2 : Int32)), .unset, .unset, .unset, .unset, .unset, .unset] [(.int (0 : Int32))]) _ _ _
      refine Go.istoreN X171 hx (hb hby d_add42_30) (l' := #[.val (.ref a), .val (.ref am), .val (.int (2 : Int32)), .val (.int (0 : Int32)), .unset, .unset, .unset, .unset, .unset]) rfl ?_
      refine Go.aloadN X171 hx (hb hby d_add42_31) rfl rfl ?_
      refine Go.getF X171 hx hZ hown (w31 hw) Via.refl e171 f6 (hb hby d_add42_32) ?_
      intro T256 X256 e256
      show Go _ _ _ _ T256 (mkF m 35 #[.val (.ref a), .val (.ref am), .val (.int (2 : Int32)), .val (.int (0 : Int32)), .unset, .unset, .unset, .unset, .unset] [(.int (2 : Int32))]) _ _ _
      refine Go.ifNo X256 hx (hb hby d_add42_35) (XT.i0_le_f (by decide)) ?_
      show Go _ _ _ _ T256 (mkF m 38 #[.val (.ref a), .val (.ref am), .val (.int (2 : Int32)), .val (.int (0 : Int32)), .unset, .unset, .unset, .unset, .unset] []) _ _ _
      refine Go.aloadN X256 hx (hb hby d_add42_38) rfl rfl ?_
      refine Go.iconst X256 hx (hb hby d_add42_39) ?_
      show Go _ _ _ _ T256 (mkF m 40 #[.val (.ref a), .val (.ref am), .val (.int (2 : Int32)), .val (.int (0 : Int32)), .unset, .unset, .unset, .unset, .unset] [(.int (0 : Int32)), (.ref am)]) _ _ _
      refine Go.iaload X256 hx hZ e256 f8 (by decide) (by decide) (hb hby d_add42_40) ?_
      show Go _ _ _ _ T256 (mkF m 41 #[.val (.ref a), .val (.ref am), .val (.int (2 : Int32)), .val (.int (0 : Int32)), .unset, .unset, .unset, .unset, .unset] [(.int x)]) _ _ _
      refine Go.aloadN X256 hx (hb hby d_add42_41) rfl rfl ?_
      refine Go.getF X256 hx hZ hown (w19 hw) Via.refl e256 f5 (hb hby d_add42_42) ?_
      intro T257 X257 e257
      show Go _ _ _ _ T257 (mkF m 45 #[.val (.ref a), .val (.ref am), .val (.int (2 : Int32)), .val (.int (0 : Int32)), .unset, .unset, .unset, .unset, .unset] [(.ref aB), (.int x)]) _ _ _
      refine Go.aloadN X257 hx (hb hby d_add42_45) rfl rfl ?_
      refine Go.getF X257 hx hZ hown (w31 hw) Via.refl e257 f6 (hb hby d_add42_46) ?_
      intro T258 X258 e258
      show Go _ _ _ _ T258 (mkF m 49 #[.val (.ref a), .val (.ref am), .val (.int (2 : Int32)), .val (.int (0 : Int32)), .unset, .unset, .unset, .unset, .unset] [(.int (2 : Int32)), (.ref aB), (.int x)]) _ _ _
      refine Go.iconst X258 hx (hb hby d_add42_49) ?_
      show Go _ _ _ _ T258 (mkF m 50 #[.val (.ref a), .val (.ref am), .val (.int (2 : Int32)), .val (.int (0 : Int32)), .unset, .unset, .unset, .unset, .unset] [(.int (1 : Int32)), (.int (2 : Int32)), (.ref aB), (.int x)]) _ _ _
      refine Go.isub X258 hx (hb hby d_add42_50) ?_
      show Go _ _ _ _ T258 (mkF m 51 #[.val (.ref a), .val (.ref am), .val (.int (2 : Int32)), .val (.int (0 : Int32)), .unset, .unset, .unset, .unset, .unset] [(.int (1 : Int32)), (.ref aB), (.int x)]) _ _ _
      refine Go.iaload X258 hx hZ e258 f7 (by decide) (by decide) (hb hby d_add42_51) ?_
      show Go _ _ _ _ T258 (mkF m 52 #[.val (.ref a), .val (.ref am), .val (.int (2 : Int32)), .val (.int (0 : Int32)), .unset, .unset, .unset, .unset, .unset] [(.int (f 1)), (.int x)]) _ _ _
      rcases Decidable.em (x = (f 1)) with c259 | c259
      · refine Go.icmpNo X258 hx (hb hby d_add42_52) (XT.ii_ne_f c259) ?_
        show Go _ _ _ _ T258 (mkF m 55 #[.val (.ref a), .val (.ref am), .val (.int (2 : Int32)), .val (.int (0 : Int32)), .unset, .unset, .unset, .unset, .unset] []) _ _ _
        as_aux_lemma =>
          refine Go.aloadN X258 hx (hb hby d_add42_55) rfl rfl ?_
          refine Go.getF X258 hx hZ hown (w19 hw) Via.refl e258 f5 (hb hby d_add42_56) ?_
          intro T260 X260 e260
          show Go _ _ _ _ T260 (mkF m 59 #[.val (.ref a), .val (.ref am), .val (.int (2 : Int32)), .val (.int (0 : Int32)), .unset, .unset, .unset, .unset, .unset] [(.ref aB)]) _ _ _
          refine Go.aloadN X260 hx (hb hby d_add42_59) rfl rfl ?_
          refine Go.getF X260 hx hZ hown (w31 hw) Via.refl e260 f6 (hb hby d_add42_60) ?_
          intro T261 X261 e261
          show Go _ _ _ _ T261 (mkF m 63 #[.val (.ref a), .val (.ref am), .val (.int (2 : Int32)), .val (.int (0 : Int32)), .unset, .unset, .unset, .unset, .unset] [(.int (2 : Int32)), (.ref aB)]) _ _ _
          refine Go.iconst X261 hx (hb hby d_add42_63) ?_
          show Go _ _ _ _ T261 (mkF m 64 #[.val (.ref a), .val (.ref am), .val (.int (2 : Int32)), .val (.int (0 : Int32)), .unset, .unset, .unset, .unset, .unset] [(.int (1 : Int32)), (.int (2 : Int32)), (.ref aB)]) _ _ _
          refine Go.isub X261 hx (hb hby d_add42_64) ?_
          show Go _ _ _ _ T261 (mkF m 65 #[.val (.ref a), .val (.ref am), .val (.int (2 : Int32)), .val (.int (0 : Int32)), .unset, .unset, .unset, .unset, .unset] [(.int (1 : Int32)), (.ref aB)]) _ _ _
          refine Go.aloadN X261 hx (hb hby d_add42_65) rfl rfl ?_
          refine Go.iconst X261 hx (hb hby d_add42_66) ?_
          show Go _ _ _ _ T261 (mkF m 67 #[.val (.ref a), .val (.ref am), .val (.int (2 : Int32)), .val (.int (0 : Int32)), .unset, .unset, .unset, .unset, .unset] [(.int (1 : Int32)), (.ref am), (.int (1 : Int32)), (.ref aB)]) _ _ _
          refine Go.iaload X261 hx hZ e261 f8 (by decide) (by decide) (hb hby d_add42_67) ?_
          show Go _ _ _ _ T261 (mkF m 68 #[.val (.ref a), .val (.ref am), .val (.int (2 : Int32)), .val (.int (0 : Int32)), .unset, .unset, .unset, .unset, .unset] [(.int y), (.int (1 : Int32)), (.ref aB)]) _ _ _
          refine Go.iastore X261 hx hZ e261 f7 (by decide) (by decide) (hb hby d_add42_68) ?_
          intro T262 h262 X262 e262 W262 A262
          have N262 := Fr.snoc X262 N0 f14
          have Z262 : n0 ≤ h262.size := by rw [Wr.size W262]; exact Z0
          have B262 : h0.size ≤ h262.size := by rw [Wr.size W262]; exact (Nat.le_refl _)
          show Go _ _ _ _ T262 (mkF m 69 #[.val (.ref a), .val (.ref am), .val (.int (2 : Int32)), .val (.int (0 : Int32)), .unset, .unset, .unset, .unset, .unset] []) _ _ _
          refine Go.iconst X262 hx (hb hby d_add42_69) ?_
          show Go _ _ _ _ T262 (mkF m 70 #[.val (.ref a), .val (.ref am), .val (.int (2 : Int32)), .val (.int (0 : Int32)), .unset, .unset, .unset, .unset, .unset] [(.int (2 : Int32))]) _ _ _
          refine Go.istoreN X262 hx (hb hby d_add42_70) (l' := #[.val (.ref a), .val (.ref am), .val (.int (2 : Int32)), .val (.int (2 : Int32)), .unset, .unset, .unset, .unset, .unset]) rfl ?_
          refine Go.aloadN X262 hx (hb hby d_add42_71) rfl rfl ?_
          refine Go.getF X262 hx hZ hown (w31 hw) Via.refl e262 (Fld.other W262 f6 (Or.inl f2)) (hb hby d_add42_72) ?_
          intro T263 X263 e263
          show Go _ _ _ _ T263 (mkF m 75 #[.val (.ref a), .val (.ref am), .val (.int (2 : Int32)), .val (.int (2 : Int32)), .unset, .unset, .unset, .unset, .unset] [(.int (2 : Int32))]) _ _ _
          refine Go.iloadN X263 hx (hb hby d_add42_75) rfl ?_
          refine Go.iadd X263 hx (hb hby d_add42_76) ?_
          show Go _ _ _ _ T263 (mkF m 77 #[.val (.ref a), .val (.ref am), .val (.int (2 : Int32)), .val (.int (2 : Int32)), .unset, .unset, .unset, .unset, .unset] [(.int (4 : Int32))]) _ _ _
          refine Go.iloadN X263 hx (hb hby d_add42_77) rfl ?_
          refine Go.isub X263 hx (hb hby d_add42_78) ?_
          show Go _ _ _ _ T263 (mkF m 79 #[.val (.ref a), .val (.ref am), .val (.int (2 : Int32)), .val (.int (2 : Int32)), .unset, .unset, .unset, .unset, .unset] [(.int (2 : Int32))]) _ _ _
          refine Go.aloadN X263 hx (hb hby d_add42_79) rfl rfl ?_
          refine Go.getF X263 hx hZ hown (w19 hw) Via.refl e263 (Fld.other W262 f5 (Or.inl f2)) (hb hby d_add42_80) ?_
          intro T264 X264 e264
          show Go _ _ _ _ T264 (mkF m 83 #[.val (.ref a), .val (.ref am), .val (.int (2 : Int32)), .val (.int (2 : Int32)), .unset, .unset, .unset, .unset, .unset] [(.ref aB), (.int (2 : Int32))]) _ _ _
          refine Go.alen X264 hx hZ e264 A262 (hb hby d_add42_83) ?_
          show Go _ _ _ _ T264 (mkF m 84 #[.val (.ref a), .val (.ref am), .val (.int (2 : Int32)), .val (.int (2 : Int32)), .unset, .unset, .unset, .unset, .unset] [(.int (4 : Int32)), (.int (2 : Int32))]) _ _ _
          refine Go.icmpYes X264 hx (hb hby d_add42_84) (XT.ii_le_t (by decide)) (pc' := 116) (by decide) (by decide) ?_
          show Go _ _ _ _ T264 (mkF m 116 #[.val (.ref a), .val (.ref am), .val (.int (2 : Int32)), .val (.int (2 : Int32)), .unset, .unset, .unset, .unset, .unset] []) _ _ _
          refine Go.aloadN X264 hx (hb hby d_add42_116) rfl rfl ?_
          refine Go.iloadN X264 hx (hb hby d_add42_117) rfl ?_
          refine Go.aloadN X264 hx (hb hby d_add42_118) rfl rfl ?_
          refine Go.getF X264 hx hZ hown (w19 hw) Via.refl e264 (Fld.other W262 f5 (Or.inl f2)) (hb hby d_add42_119) ?_
          intro T265 X265 e265
          show Go _ _ _ _ T265 (mkF m 122 #[.val (.ref a), .val (.ref am), .val (.int (2 : Int32)), .val (.int (2 : Int32)), .unset, .unset, .unset, .unset, .unset] [(.ref aB), (.int (2 : Int32)), (.ref am)]) _ _ _
          refine Go.aloadN X265 hx (hb hby d_add42_122) rfl rfl ?_
          refine Go.getF X265 hx hZ hown (w31 hw) Via.refl e265 (Fld.other W262 f6 (Or.inl f2)) (hb hby d_add42_123) ?_
          intro T266 X266 e266
          show Go _ _ _ _ T266 (mkF m 126 #[.val (.ref a), .val (.ref am), .val (.int (2 : Int32)), .val (.int (2 : Int32)), .unset, .unset, .unset, .unset, .unset] [(.int (2 : Int32)), (.ref aB), (.int (2 : Int32)), (.ref am)]) _ _ _
          refine Go.iloadN X266 hx (hb hby d_add42_126) rfl ?_
          refine Go.iloadN X266 hx (hb hby d_add42_127) rfl ?_
          refine Go.isub X266 hx (hb hby d_add42_128) ?_
          show Go _ _ _ _ T266 (mkF m 129 #[.val (.ref a), .val (.ref am), .val (.int (2 : Int32)), .val (.int (2 : Int32)), .unset, .unset, .unset, .unset, .unset] [(.int (0 : Int32)), (.int (2 : Int32)), (.ref aB), (.int (2 : Int32)), (.ref am)]) _ _ _
          refine Go.acopy (W := 0) X266 hx hZ hown (w43 hw) (w42 hw) (w40 hw) (w41 hw) e266 (Af.other W262 f8 (Ne.symm f4)) A262 rfl (fun i hi => by have hi' : i < 2 := hi; rcases lt_2 hi' with rfl | rfl <;> first | (simp [updI, updV]; done) | rfl) (fun i hi => by have hi' : i < 4 := hi; rcases lt_4 hi' with rfl | rfl | rfl | rfl <;> first | (simp [updI, updV]; done) | rfl) (by decide) (by decide) (by decide) (by decide) (by decide) N262 f14 (hb hby d_add42_129) (by rw [hml]; rfl) (Nat.le_of_eq rfl) (by decide) (by decide) ?_
          intro T267 h267 L267 X267 e267 N267 K267 A267
          have Z267 : n0 ≤ h267.size := Nat.le_trans Z262 K267.1
          have B267 : h0.size ≤ h267.size := Nat.le_trans B262 K267.1
          have A268 : Af Z h267 aB kB .int 4 (fun i => Value.int ((updI (updI (updI (updI (fun _ => (0 : Int32)) 0 (f 0)) 1 y) 2 (f 2)) 3 (f 3)) i)) := Af.congr A267 (fun i hi => by have hi' : i < 4 := hi; rcases lt_4 hi' with rfl | rfl | rfl | rfl <;> first | (simp [updI, updV]; done) | rfl)
          show Go _ _ _ _ T267 (mkF m 132 #[.val (.ref a), .val (.ref am), .val (.int (2 : Int32)), .val (.int (2 : Int32)), .unset, .unset, .unset, .unset, .unset] []) _ _ _
          refine Go.aloadN X267 hx (hb hby d_add42_132) rfl rfl ?_
          refine Go.dup X267 hx (hb hby d_add42_133) rfl ?_
          have F269 := (Fld.keep (Fld.other W262 f6 (Or.inl f2)) K267 (ninS f2 nin0))
          refine Go.getF X267 hx hZ hown (w31 hw) Via.refl e267 F269 (hb hby d_add42_134) ?_
          intro T270 X270 e270
          show Go _ _ _ _ T270 (mkF m 137 #[.val (.ref a), .val (.ref am), .val (.int (2 : Int32)), .val (.int (2 : Int32)), .unset, .unset, .unset, .unset, .unset] [(.int (2 : Int32)), (.ref a)]) _ _ _
          refine Go.iloadN X270 hx (hb hby d_add42_137) rfl ?_
          refine Go.iloadN X270 hx (hb hby d_add42_138) rfl ?_
          refine Go.isub X270 hx (hb hby d_add42_139) ?_
          show Go _ _ _ _ T270 (mkF m 140 #[.val (.ref a), .val (.ref am), .val (.int (2 : Int32)), .val (.int (2 : Int32)), .unset, .unset, .unset, .unset, .unset] [(.int (0 : Int32)), (.int (2 : Int32)), (.ref a)]) _ _ _
          refine Go.iadd X270 hx (hb hby d_add42_140) ?_
          show Go _ _ _ _ T270 (mkF m 141 #[.val (.ref a), .val (.ref am), .val (.int (2 : Int32)), .val (.int (2 : Int32)), .unset, .unset, .unset, .unset, .unset] [(.int (2 : Int32)), (.ref a)]) _ _ _
          refine Go.putF X270 hx hZ hown (w31 hw) Via.refl e270 F269 (Exa.keep (Exa.wr W262 f0) K267) (Or.inl (w32 hw)) (w9 hw) (ty := .int) (by decide) rfl rfl (hb hby d_add42_141) ?_
          intro T271 h271 X271 e271 W271
          have N271 := Fr.snoc X271 N267 f1
          have Z271 : n0 ≤ h271.size := by rw [Wr.size W271]; exact Z267
          have B271 : h0.size ≤ h271.size := by rw [Wr.size W271]; exact B267
          show Go _ _ _ _ T271 (mkF m 144 #[.val (.ref a), .val (.ref am), .val (.int (2 : Int32)), .val (.int (2 : Int32)), .unset, .unset, .unset, .unset, .unset] []) _ _ _
          refine Go.goto X271 hx (hb hby d_add42_144) (pc' := 320) (by decide) (by decide) ?_
          show Go _ _ _ _ T271 (mkF m 320 #[.val (.ref a), .val (.ref am), .val (.int (2 : Int32)), .val (.int (2 : Int32)), .unset, .unset, .unset, .unset, .unset] []) _ _ _
          refine Go.ret0 X271 hx hlk hret (hb hby d_add42_320) (by decide) (by decide) ?_
          rw [e271]
          have F272 := (Exa.wr W271 (Exa.keep (Exa.wr W262 f0) K267))
          have F274 := (Fld.other W271 (Fld.keep (Fld.other W262 f5 (Or.inl f2)) K267 (ninS f2 nin0)) (Or.inr (slot_ne (a0 := a0) (Or.inl (w20 hw)) (Or.inl (w32 hw)) (t := (.array .int)) (t' := .int) (by decide) (by decide) (by decide))))
          have AC273 : Af Z h271 aB kB .int 4 (fun i => Value.int ((updI (updI (updI (updI (fun _ => (0 : Int32)) 0 (f 0)) 1 y) 2 (f 2)) 3 (f 3)) i)) := Af.congr (Af.other W271 A268 (Ne.symm f2)) (fun i hi => by have hi' : i < 4 := hi; rcases lt_4 hi' with rfl | rfl | rfl | rfl <;> first | (simp [updI, updV]; done) | rfl)
          have fin273 := fin_add42_273 f x y M f12 f13 q0 q1 hM' c172 c259
          exact ⟨aB, rfl, N271, (Keep.wr (Keep.trans (Keep.wr (Keep.refl _ _) W262 (Or.inl (List.mem_of_getElem? (i := 1) rfl))) K267 (allS (Or.inl (List.mem_of_getElem? (i := 1) rfl)) all0)) W271 (Or.inl (List.mem_of_getElem? (i := 0) rfl))), F272, ⟨_, _, 4, 2, _, F274, (Fld.same W271 F269), AC273, f2, (fun _ => f14), (Or.inr (Or.inr (Or.inl ⟨(k_up f9 (by decide)), rfl, rfl, rfl⟩))), fin273.1, fin273.2⟩⟩
      · refine Go.icmpYes X258 hx (hb hby d_add42_52) (XT.ii_ne_t c259) (pc' := 71) (by decide) (by decide) ?_
        show Go _ _ _ _ T258 (mkF m 71 #[.val (.ref a), .val (.ref am), .val (.int (2 : Int32)), .val (.int (0 : Int32)), .unset, .unset, .unset, .unset, .unset] []) _ _ _
        as_aux_lemma =>
          refine Go.aloadN X258 hx (hb hby d_add42_71) rfl rfl ?_
          refine Go.getF X258 hx hZ hown (w31 hw) Via.refl e258 f6 (hb hby d_add42_72) ?_
          intro T277 X277 e277
          show Go _ _ _ _ T277 (mkF m 75 #[.val (.ref a), .val (.ref am), .val (.int (2 : Int32)), .val (.int (0 : Int32)), .unset, .unset, .unset, .unset, .unset] [(.int (2 : Int32))]) _ _ _
          refine Go.iloadN X277 hx (hb hby d_add42_75) rfl ?_
          refine Go.iadd X277 hx (hb hby d_add42_76) ?_
          show Go _ _ _ _ T277 (mkF m 77 #[.val (.ref a), .val (.ref am), .val (.int (2 : Int32)), .val (.int (0 : Int32)), .unset, .unset, .unset, .unset, .unset] [(.int (4 : Int32))]) _ _ _
          refine Go.iloadN X277 hx (hb hby d_add42_77) rfl ?_
          refine Go.isub X277 hx (hb hby d_add42_78) ?_
          show Go _ _ _ _ T277 (mkF m 79 #[.val (.ref a), .val (.ref am), .val (.int (2 : Int32)), .val (.int (0 : Int32)), .unset, .unset, .unset, .unset, .unset] [(.int (4 : Int32))]) _ _ _
          refine Go.aloadN X277 hx (hb hby d_add42_79) rfl rfl ?_
          refine Go.getF X277 hx hZ hown (w19 hw) Via.refl e277 f5 (hb hby d_add42_80) ?_
          intro T278 X278 e278
          show Go _ _ _ _ T278 (mkF m 83 #[.val (.ref a), .val (.ref am), .val (.int (2 : Int32)), .val (.int (0 : Int32)), .unset, .unset, .unset, .unset, .unset] [(.ref aB), (.int (4 : Int32))]) _ _ _
          refine Go.alen X278 hx hZ e278 f7 (hb hby d_add42_83) ?_
          show Go _ _ _ _ T278 (mkF m 84 #[.val (.ref a), .val (.ref am), .val (.int (2 : Int32)), .val (.int (0 : Int32)), .unset, .unset, .unset, .unset, .unset] [(.int (4 : Int32)), (.int (4 : Int32))]) _ _ _
          refine Go.icmpYes X278 hx (hb hby d_add42_84) (XT.ii_le_t (by decide)) (pc' := 116) (by decide) (by decide) ?_
          show Go _ _ _ _ T278 (mkF m 116 #[.val (.ref a), .val (.ref am), .val (.int (2 : Int32)), .val (.int (0 : Int32)), .unset, .unset, .unset, .unset, .unset] []) _ _ _
          refine Go.aloadN X278 hx (hb hby d_add42_116) rfl rfl ?_
          refine Go.iloadN X278 hx (hb hby d_add42_117) rfl ?_
          refine Go.aloadN X278 hx (hb hby d_add42_118) rfl rfl ?_
          refine Go.getF X278 hx hZ hown (w19 hw) Via.refl e278 f5 (hb hby d_add42_119) ?_
          intro T279 X279 e279
          show Go _ _ _ _ T279 (mkF m 122 #[.val (.ref a), .val (.ref am), .val (.int (2 : Int32)), .val (.int (0 : Int32)), .unset, .unset, .unset, .unset, .unset] [(.ref aB), (.int (0 : Int32)), (.ref am)]) _ _ _
          refine Go.aloadN X279 hx (hb hby d_add42_122) rfl rfl ?_
          refine Go.getF X279 hx hZ hown (w31 hw) Via.refl e279 f6 (hb hby d_add42_123) ?_
          intro T280 X280 e280
          show Go _ _ _ _ T280 (mkF m 126 #[.val (.ref a), .val (.ref am), .val (.int (2 : Int32)), .val (.int (0 : Int32)), .unset, .unset, .unset, .unset, .unset] [(.int (2 : Int32)), (.ref aB), (.int (0 : Int32)), (.ref am)]) _ _ _
          refine Go.iloadN X280 hx (hb hby d_add42_126) rfl ?_
          refine Go.iloadN X280 hx (hb hby d_add42_127) rfl ?_
          refine Go.isub X280 hx (hb hby d_add42_128) ?_
          show Go _ _ _ _ T280 (mkF m 129 #[.val (.ref a), .val (.ref am), .val (.int (2 : Int32)), .val (.int (0 : Int32)), .unset, .unset, .unset, .unset, .unset] [(.int (2 : Int32)), (.int (2 : Int32)), (.ref aB), (.int (0 : Int32)), (.ref am)]) _ _ _
          refine Go.acopy (W := 0) X280 hx hZ hown (w43 hw) (w42 hw) (w40 hw) (w41 hw) e280 f8 f7 rfl (fun i hi => by have hi' : i < 2 := hi; rcases lt_2 hi' with rfl | rfl <;> first | (simp [updI, updV]; done) | rfl) (fun i hi => by have hi' : i < 4 := hi; rcases lt_4 hi' with rfl | rfl | rfl | rfl <;> first | (simp [updI, updV]; done) | rfl) (by decide) (by decide) (by decide) (by decide) (by decide) N0 f14 (hb hby d_add42_129) (by rw [hml]; rfl) (Nat.le_of_eq rfl) (by decide) (by decide) ?_
          intro T281 h281 L281 X281 e281 N281 K281 A281
          have Z281 : n0 ≤ h281.size := Nat.le_trans Z0 K281.1
          have B281 : h0.size ≤ h281.size := Nat.le_trans (Nat.le_refl _) K281.1
          have A282 : Af Z h281 aB kB .int 4 (fun i => Value.int ((updI (updI (updI (updI (fun _ => (0 : Int32)) 0 (f 0)) 1 (f 1)) 2 x) 3 y) i)) := Af.congr A281 (fun i hi => by have hi' : i < 4 := hi; rcases lt_4 hi' with rfl | rfl | rfl | rfl <;> first | (simp [updI, updV]; done) | rfl)
          show Go _ _ _ _ T281 (mkF m 132 #[.val (.ref a), .val (.ref am), .val (.int (2 : Int32)), .val (.int (0 : Int32)), .unset, .unset, .unset, .unset, .unset] []) _ _ _
          refine Go.aloadN X281 hx (hb hby d_add42_132) rfl rfl ?_
          refine Go.dup X281 hx (hb hby d_add42_133) rfl ?_
          refine Go.getF X281 hx hZ hown (w31 hw) Via.refl e281 (Fld.keep f6 K281 (ninS f2 nin0)) (hb hby d_add42_134) ?_
          intro T283 X283 e283
          show Go _ _ _ _ T283 (mkF m 137 #[.val (.ref a), .val (.ref am), .val (.int (2 : Int32)), .val (.int (0 : Int32)), .unset, .unset, .unset, .unset, .unset] [(.int (2 : Int32)), (.ref a)]) _ _ _
          refine Go.iloadN X283 hx (hb hby d_add42_137) rfl ?_
          refine Go.iloadN X283 hx (hb hby d_add42_138) rfl ?_
          refine Go.isub X283 hx (hb hby d_add42_139) ?_
          show Go _ _ _ _ T283 (mkF m 140 #[.val (.ref a), .val (.ref am), .val (.int (2 : Int32)), .val (.int (0 : Int32)), .unset, .unset, .unset, .unset, .unset] [(.int (2 : Int32)), (.int (2 : Int32)), (.ref a)]) _ _ _
          refine Go.iadd X283 hx (hb hby d_add42_140) ?_
          show Go _ _ _ _ T283 (mkF m 141 #[.val (.ref a), .val (.ref am), .val (.int (2 : Int32)), .val (.int (0 : Int32)), .unset, .unset, .unset, .unset, .unset] [(.int (4 : Int32)), (.ref a)]) _ _ _
          refine Go.putF X283 hx hZ hown (w31 hw) Via.refl e283 (Fld.keep f6 K281 (ninS f2 nin0)) (Exa.keep f0 K281) (Or.inl (w32 hw)) (w9 hw) (ty := .int) (by decide) rfl rfl (hb hby d_add42_141) ?_
          intro T284 h284 X284 e284 W284
          have N284 := Fr.snoc X284 N281 f1
          have Z284 : n0 ≤ h284.size := by rw [Wr.size W284]; exact Z281
          have B284 : h0.size ≤ h284.size := by rw [Wr.size W284]; exact B281
          show Go _ _ _ _ T284 (mkF m 144 #[.val (.ref a), .val (.ref am), .val (.int (2 : Int32)), .val (.int (0 : Int32)), .unset, .unset, .unset, .unset, .unset] []) _ _ _
          refine Go.goto X284 hx (hb hby d_add42_144) (pc' := 320) (by decide) (by decide) ?_
          show Go _ _ _ _ T284 (mkF m 320 #[.val (.ref a), .val (.ref am), .val (.int (2 : Int32)), .val (.int (0 : Int32)), .unset, .unset, .unset, .unset, .unset] []) _ _ _
          refine Go.ret0 X284 hx hlk hret (hb hby d_add42_320) (by decide) (by decide) ?_
          rw [e284]
          have F286 := (Fld.other W284 (Fld.keep f5 K281 (ninS f2 nin0)) (Or.inr (slot_ne (a0 := a0) (Or.inl (w20 hw)) (Or.inl (w32 hw)) (t := (.array .int)) (t' := .int) (by decide) (by decide) (by decide))))
          have F287 := (Fld.same W284 (Fld.keep f6 K281 (ninS f2 nin0)))
          have AC285 : Af Z h284 aB kB .int 4 (fun i => Value.int ((updI (updI (updI (updI (fun _ => (0 : Int32)) 0 (f 0)) 1 (f 1)) 2 x) 3 y) i)) := Af.congr (Af.other W284 A282 (Ne.symm f2)) (fun i hi => by have hi' : i < 4 := hi; rcases lt_4 hi' with rfl | rfl | rfl | rfl <;> first | (simp [updI, updV]; done) | rfl)
          have fin285 := fin_add42_285 f x y M f12 f13 q0 q1 hM' c172 c259
          exact ⟨aB, rfl, N284, (Keep.wr (Keep.trans (Keep.refl _ _) K281 (allS (Or.inl (List.mem_of_getElem? (i := 1) rfl)) all0)) W284 (Or.inl (List.mem_of_getElem? (i := 0) rfl))), (Exa.wr W284 (Exa.keep f0 K281)), ⟨_, _, 4, 4, _, F286, F287, AC285, f2, (fun _ => f14), (Or.inr (Or.inr (Or.inr (Or.inl ⟨(k_up f9 (by decide)), rfl, rfl, rfl⟩)))), fin285.1, fin285.2⟩⟩
theorem fin_add44_327 (f : Nat → Int32) (x y : Int32) (M : Int → Prop) (f12 : 0 ≤ x.toInt) (f13 : x.toInt < y.toInt) (q0 : 0 ≤ (f 0).toInt) (q1 : (f 0).toInt < (f 1).toInt) (q2 : (f 1).toInt < (f 2).toInt) (q3 : (f 2).toInt < (f 3).toInt) (hM' : ∀ n, M n ↔ ((f 0).toInt ≤ n ∧ n < (f 1).toInt) ∨ ((f 2).toInt ≤ n ∧ n < (f 3).toInt)) (c293 : x < (f 3)) (c299 : x < (f 0)) (c308 : y < (f 0)) : asc (updI (updI (updI (updI (updI (updI (fun _ => (0 : Int32)) 0 x) 1 y) 2 (f 0)) 3 (f 1)) 4 (f 2)) 5 (f 3)) 6 ∧ ∀ n, ADD M x y n ↔ rm (updI (updI (updI (updI (updI (updI (fun _ => (0 : Int32)) 0 x) 1 y) 2 (f 0)) 3 (f 1)) 4 (f 2)) 5 (f 3)) 6 n := by
  have t329 := c293; rw [Int32.lt_iff_toInt_lt] at t329
  have t330 := c299; rw [Int32.lt_iff_toInt_lt] at t330
  have t331 := c308; rw [Int32.lt_iff_toInt_lt] at t331
  (refine fin6 (u := x) (v := y) (w := (f 0)) (x := (f 1)) (y := (f 2)) (z := (f 3)) (by simp [updI]) (by simp [updI]) (by simp [updI]) (by simp [updI]) (by simp [updI]) (by simp [updI]) ⟨by omega, by omega, by omega, by omega, by omega, by omega, fun n => ?_⟩
   simp only [ADD, hM', false_or]
   first | done | (constructor <;> intro z <;> omega))
theorem fin_add44_348 (f : Nat → Int32) (x y : Int32) (M : Int → Prop) (f12 : 0 ≤ x.toInt) (f13 : x.toInt < y.toInt) (q0 : 0 ≤ (f 0).toInt) (q1 : (f 0).toInt < (f 1).toInt) (q2 : (f 1).toInt < (f 2).toInt) (q3 : (f 2).toInt < (f 3).toInt) (hM' : ∀ n, M n ↔ ((f 0).toInt ≤ n ∧ n < (f 1).toInt) ∨ ((f 2).toInt ≤ n ∧ n < (f 3).toInt)) (c293 : x < (f 3)) (c299 : x < (f 0)) (c308 : ¬ (y < (f 0))) (c337 : (F_max y (f 1)) < (f 2)) : asc (updI (updI (updI (updI (updI (updI (fun _ => (0 : Int32)) 0 x) 1 (F_max y (f 1))) 2 (f 2)) 3 (f 3)) 4 (0 : Int32)) 5 (0 : Int32)) 4 ∧ ∀ n, ADD M x y n ↔ rm (updI (updI (updI (updI (updI (updI (fun _ => (0 : Int32)) 0 x) 1 (F_max y (f 1))) 2 (f 2)) 3 (f 3)) 4 (0 : Int32)) 5 (0 : Int32)) 4 n := by
  have t350 := c293; rw [Int32.lt_iff_toInt_lt] at t350
  have t351 := c299; rw [Int32.lt_iff_toInt_lt] at t351
  have t352 := c308; rw [Int32.lt_iff_toInt_lt] at t352
  have t353 := c337; rw [Int32.lt_iff_toInt_lt] at t353
  have m354 := max_spec y (f 1)
  generalize F_max y (f 1) = g0 at *
  rcases m354 with m354 | m354 <;>
  (refine fin4 (u := x) (v := g0) (w := (f 2)) (x := (f 3)) (by simp [updI]) (by simp [updI]) (by simp [updI]) (by simp [updI]) ⟨by omega, by omega, by omega, by omega, fun n => ?_⟩
   simp only [ADD, hM', false_or]
   first | done | (constructor <;> intro z <;> omega))
theorem fin_add44_365 (f : Nat → Int32) (x y : Int32) (M : Int → Prop) (f12 : 0 ≤ x.toInt) (f13 : x.toInt < y.toInt) (q0 : 0 ≤ (f 0).toInt) (q1 : (f 0).toInt < (f 1).toInt) (q2 : (f 1).toInt < (f 2).toInt) (q3 : (f 2).toInt < (f 3).toInt) (hM' : ∀ n, M n ↔ ((f 0).toInt ≤ n ∧ n < (f 1).toInt) ∨ ((f 2).toInt ≤ n ∧ n < (f 3).toInt)) (c293 : x < (f 3)) (c299 : x < (f 0)) (c308 : ¬ (y < (f 0))) (c337 : ¬ ((F_max y (f 1)) < (f 2))) : asc (updI (updI (updI (updI (updI (updI (fun _ => (0 : Int32)) 0 x) 1 (F_max (F_max y (f 1)) (f 3))) 2 (0 : Int32)) 3 (0 : Int32)) 4 (0 : Int32)) 5 (0 : Int32)) 2 ∧ ∀ n, ADD M x y n ↔ rm (updI (updI (updI (updI (updI (updI (fun _ => (0 : Int32)) 0 x) 1 (F_max (F_max y (f 1)) (f 3))) 2 (0 : Int32)) 3 (0 : Int32)) 4 (0 : Int32)) 5 (0 : Int32)) 2 n := by
  have t367 := c293; rw [Int32.lt_iff_toInt_lt] at t367
  have t368 := c299; rw [Int32.lt_iff_toInt_lt] at t368
  have t369 := c308; rw [Int32.lt_iff_toInt_lt] at t369
  have t370 := c337; rw [Int32.lt_iff_toInt_lt] at t370
  have m371 := max_spec (F_max y (f 1)) (f 3)
  have m372 := max_spec y (f 1)
  generalize F_max (F_max y (f 1)) (f 3) = g0 at *
  generalize F_max y (f 1) = g1 at *
  rcases m371 with m371 | m371 <;>
  rcases m372 with m372 | m372 <;>
  (refine fin2 (u := x) (v := g0) (by simp [updI]) (by simp [updI]) ⟨by omega, by omega, fun n => ?_⟩
   simp only [ADD, hM', false_or]
   first | done | (constructor <;> intro z <;> omega))
theorem fin_add44_405 (f : Nat → Int32) (x y : Int32) (M : Int → Prop) (f12 : 0 ≤ x.toInt) (f13 : x.toInt < y.toInt) (q0 : 0 ≤ (f 0).toInt) (q1 : (f 0).toInt < (f 1).toInt) (q2 : (f 1).toInt < (f 2).toInt) (q3 : (f 2).toInt < (f 3).toInt) (hM' : ∀ n, M n ↔ ((f 0).toInt ≤ n ∧ n < (f 1).toInt) ∨ ((f 2).toInt ≤ n ∧ n < (f 3).toInt)) (c293 : x < (f 3)) (c299 : ¬ (x < (f 0))) (c384 : x < (f 2)) (c385 : (f 1) < x) (c394 : y < (f 2)) : asc (updI (updI (updI (updI (updI (updI (fun _ => (0 : Int32)) 0 (f 0)) 1 (f 1)) 2 x) 3 y) 4 (f 2)) 5 (f 3)) 6 ∧ ∀ n, ADD M x y n ↔ rm (updI (updI (updI (updI (updI (updI (fun _ => (0 : Int32)) 0 (f 0)) 1 (f 1)) 2 x) 3 y) 4 (f 2)) 5 (f 3)) 6 n := by
  have t407 := c293; rw [Int32.lt_iff_toInt_lt] at t407
  have t408 := c299; rw [Int32.lt_iff_toInt_lt] at t408
  have t409 := c384; rw [Int32.lt_iff_toInt_lt] at t409
  have t410 := c385; rw [Int32.lt_iff_toInt_lt] at t410
  have t411 := c394; rw [Int32.lt_iff_toInt_lt] at t411
  (refine fin6 (u := (f 0)) (v := (f 1)) (w := x) (x := y) (y := (f 2)) (z := (f 3)) (by simp [updI]) (by simp [updI]) (by simp [updI]) (by simp [updI]) (by simp [updI]) (by simp [updI]) ⟨by omega, by omega, by omega, by omega, by omega, by omega, fun n => ?_⟩
   simp only [ADD, hM', false_or]
   first | done | (constructor <;> intro z <;> omega))
theorem fin_add44_420 (f : Nat → Int32) (x y : Int32) (M : Int → Prop) (f12 : 0 ≤ x.toInt) (f13 : x.toInt < y.toInt) (q0 : 0 ≤ (f 0).toInt) (q1 : (f 0).toInt < (f 1).toInt) (q2 : (f 1).toInt < (f 2).toInt) (q3 : (f 2).toInt < (f 3).toInt) (hM' : ∀ n, M n ↔ ((f 0).toInt ≤ n ∧ n < (f 1).toInt) ∨ ((f 2).toInt ≤ n ∧ n < (f 3).toInt)) (c293 : x < (f 3)) (c299 : ¬ (x < (f 0))) (c384 : x < (f 2)) (c385 : (f 1) < x) (c394 : ¬ (y < (f 2))) : asc (updI (updI (updI (updI (updI (updI (fun _ => (0 : Int32)) 0 (f 0)) 1 (f 1)) 2 x) 3 (F_max y (f 3))) 4 (0 : Int32)) 5 (0 : Int32)) 4 ∧ ∀ n, ADD M x y n ↔ rm (updI (updI (updI (updI (updI (updI (fun _ => (0 : Int32)) 0 (f 0)) 1 (f 1)) 2 x) 3 (F_max y (f 3))) 4 (0 : Int32)) 5 (0 : Int32)) 4 n := by
  have t422 := c293; rw [Int32.lt_iff_toInt_lt] at t422
  have t423 := c299; rw [Int32.lt_iff_toInt_lt] at t423
  have t424 := c384; rw [Int32.lt_iff_toInt_lt] at t424
  have t425 := c385; rw [Int32.lt_iff_toInt_lt] at t425
  have t426 := c394; rw [Int32.lt_iff_toInt_lt] at t426
  have m427 := max_spec y (f 3)
  generalize F_max y (f 3) = g0 at *
  rcases m427 with m427 | m427 <;>
  (refine fin4 (u := (f 0)) (v := (f 1)) (w := x) (x := g0) (by simp [updI]) (by simp [updI]) (by simp [updI]) (by simp [updI]) ⟨by omega, by omega, by omega, by omega, fun n => ?_⟩
   simp only [ADD, hM', false_or]
   first | done | (constructor <;> intro z <;> omega))
theorem fin_add44_444 (f : Nat → Int32) (x y : Int32) (M : Int → Prop) (f12 : 0 ≤ x.toInt) (f13 : x.toInt < y.toInt) (q0 : 0 ≤ (f 0).toInt) (q1 : (f 0).toInt < (f 1).toInt) (q2 : (f 1).toInt < (f 2).toInt) (q3 : (f 2).toInt < (f 3).toInt) (hM' : ∀ n, M n ↔ ((f 0).toInt ≤ n ∧ n < (f 1).toInt) ∨ ((f 2).toInt ≤ n ∧ n < (f 3).toInt)) (c293 : x < (f 3)) (c299 : ¬ (x < (f 0))) (c384 : x < (f 2)) (c385 : ¬ ((f 1) < x)) (c433 : (F_max (f 1) y) < (f 2)) : asc (updI (updI (updI (updI (updI (updI (fun _ => (0 : Int32)) 0 (f 0)) 1 (F_max (f 1) y)) 2 (f 2)) 3 (f 3)) 4 (0 : Int32)) 5 (0 : Int32)) 4 ∧ ∀ n, ADD M x y n ↔ rm (updI (updI (updI (updI (updI (updI (fun _ => (0 : Int32)) 0 (f 0)) 1 (F_max (f 1) y)) 2 (f 2)) 3 (f 3)) 4 (0 : Int32)) 5 (0 : Int32)) 4 n := by
  have t446 := c293; rw [Int32.lt_iff_toInt_lt] at t446
  have t447 := c299; rw [Int32.lt_iff_toInt_lt] at t447
  have t448 := c384; rw [Int32.lt_iff_toInt_lt] at t448
  have t449 := c385; rw [Int32.lt_iff_toInt_lt] at t449
  have t450 := c433; rw [Int32.lt_iff_toInt_lt] at t450
  have m451 := max_spec (f 1) y
  generalize F_max (f 1) y = g0 at *
  rcases m451 with m451 | m451 <;>
  (refine fin4 (u := (f 0)) (v := g0) (w := (f 2)) (x := (f 3)) (by simp [updI]) (by simp [updI]) (by simp [updI]) (by simp [updI]) ⟨by omega, by omega, by omega, by omega, fun n => ?_⟩
   simp only [ADD, hM', false_or]
   first | done | (constructor <;> intro z <;> omega))
theorem fin_add44_462 (f : Nat → Int32) (x y : Int32) (M : Int → Prop) (f12 : 0 ≤ x.toInt) (f13 : x.toInt < y.toInt) (q0 : 0 ≤ (f 0).toInt) (q1 : (f 0).toInt < (f 1).toInt) (q2 : (f 1).toInt < (f 2).toInt) (q3 : (f 2).toInt < (f 3).toInt) (hM' : ∀ n, M n ↔ ((f 0).toInt ≤ n ∧ n < (f 1).toInt) ∨ ((f 2).toInt ≤ n ∧ n < (f 3).toInt)) (c293 : x < (f 3)) (c299 : ¬ (x < (f 0))) (c384 : x < (f 2)) (c385 : ¬ ((f 1) < x)) (c433 : ¬ ((F_max (f 1) y) < (f 2))) : asc (updI (updI (updI (updI (updI (updI (fun _ => (0 : Int32)) 0 (f 0)) 1 (F_max (F_max (f 1) y) (f 3))) 2 (0 : Int32)) 3 (0 : Int32)) 4 (0 : Int32)) 5 (0 : Int32)) 2 ∧ ∀ n, ADD M x y n ↔ rm (updI (updI (updI (updI (updI (updI (fun _ => (0 : Int32)) 0 (f 0)) 1 (F_max (F_max (f 1) y) (f 3))) 2 (0 : Int32)) 3 (0 : Int32)) 4 (0 : Int32)) 5 (0 : Int32)) 2 n := by
  have t464 := c293; rw [Int32.lt_iff_toInt_lt] at t464
  have t465 := c299; rw [Int32.lt_iff_toInt_lt] at t465
  have t466 := c384; rw [Int32.lt_iff_toInt_lt] at t466
  have t467 := c385; rw [Int32.lt_iff_toInt_lt] at t467
  have t468 := c433; rw [Int32.lt_iff_toInt_lt] at t468
  have m469 := max_spec (F_max (f 1) y) (f 3)
  have m470 := max_spec (f 1) y
  generalize F_max (F_max (f 1) y) (f 3) = g0 at *
  generalize F_max (f 1) y = g1 at *
  rcases m469 with m469 | m469 <;>
  rcases m470 with m470 | m470 <;>
  (refine fin2 (u := (f 0)) (v := g0) (by simp [updI]) (by simp [updI]) ⟨by omega, by omega, fun n => ?_⟩
   simp only [ADD, hM', false_or]
   first | done | (constructor <;> intro z <;> omega))
theorem fin_add44_490 (f : Nat → Int32) (x y : Int32) (M : Int → Prop) (f12 : 0 ≤ x.toInt) (f13 : x.toInt < y.toInt) (q0 : 0 ≤ (f 0).toInt) (q1 : (f 0).toInt < (f 1).toInt) (q2 : (f 1).toInt < (f 2).toInt) (q3 : (f 2).toInt < (f 3).toInt) (hM' : ∀ n, M n ↔ ((f 0).toInt ≤ n ∧ n < (f 1).toInt) ∨ ((f 2).toInt ≤ n ∧ n < (f 3).toInt)) (c293 : x < (f 3)) (c299 : ¬ (x < (f 0))) (c384 : ¬ (x < (f 2))) (c479 : (f 3) < x) : asc (updI (updI (updI (updI (updI (updI (fun _ => (0 : Int32)) 0 (f 0)) 1 (f 1)) 2 (f 2)) 3 (f 3)) 4 x) 5 y) 6 ∧ ∀ n, ADD M x y n ↔ rm (updI (updI (updI (updI (updI (updI (fun _ => (0 : Int32)) 0 (f 0)) 1 (f 1)) 2 (f 2)) 3 (f 3)) 4 x) 5 y) 6 n := by
  have t492 := c293; rw [Int32.lt_iff_toInt_lt] at t492
  have t493 := c299; rw [Int32.lt_iff_toInt_lt] at t493
  have t494 := c384; rw [Int32.lt_iff_toInt_lt] at t494
  have t495 := c479; rw [Int32.lt_iff_toInt_lt] at t495
  (refine fin6 (u := (f 0)) (v := (f 1)) (w := (f 2)) (x := (f 3)) (y := x) (z := y) (by simp [updI]) (by simp [updI]) (by simp [updI]) (by simp [updI]) (by simp [updI]) (by simp [updI]) ⟨by omega, by omega, by omega, by omega, by omega, by omega, fun n => ?_⟩
   simp only [ADD, hM', false_or]
   first | done | (constructor <;> intro z <;> omega))
theorem fin_add44_505 (f : Nat → Int32) (x y : Int32) (M : Int → Prop) (f12 : 0 ≤ x.toInt) (f13 : x.toInt < y.toInt) (q0 : 0 ≤ (f 0).toInt) (q1 : (f 0).toInt < (f 1).toInt) (q2 : (f 1).toInt < (f 2).toInt) (q3 : (f 2).toInt < (f 3).toInt) (hM' : ∀ n, M n ↔ ((f 0).toInt ≤ n ∧ n < (f 1).toInt) ∨ ((f 2).toInt ≤ n ∧ n < (f 3).toInt)) (c293 : x < (f 3)) (c299 : ¬ (x < (f 0))) (c384 : ¬ (x < (f 2))) (c479 : ¬ ((f 3) < x)) : asc (updI (updI (updI (updI (updI (updI (fun _ => (0 : Int32)) 0 (f 0)) 1 (f 1)) 2 (f 2)) 3 (F_max (f 3) y)) 4 (0 : Int32)) 5 (0 : Int32)) 4 ∧ ∀ n, ADD M x y n ↔ rm (updI (updI (updI (updI (updI (updI (fun _ => (0 : Int32)) 0 (f 0)) 1 (f 1)) 2 (f 2)) 3 (F_max (f 3) y)) 4 (0 : Int32)) 5 (0 : Int32)) 4 n := by
  have t507 := c293; rw [Int32.lt_iff_toInt_lt] at t507
  have t508 := c299; rw [Int32.lt_iff_toInt_lt] at t508
  have t509 := c384; rw [Int32.lt_iff_toInt_lt] at t509
  have t510 := c479; rw [Int32.lt_iff_toInt_lt] at t510
  have m511 := max_spec (f 3) y
  generalize F_max (f 3) y = g0 at *
  rcases m511 with m511 | m511 <;>
  (refine fin4 (u := (f 0)) (v := (f 1)) (w := (f 2)) (x := g0) (by simp [updI]) (by simp [updI]) (by simp [updI]) (by simp [updI]) ⟨by omega, by omega, by omega, by omega, fun n => ?_⟩
   simp only [ADD, hM', false_or]
   first | done | (constructor <;> intro z <;> omega))
theorem fin_add44_529 (f : Nat → Int32) (x y : Int32) (M : Int → Prop) (f12 : 0 ≤ x.toInt) (f13 : x.toInt < y.toInt) (q0 : 0 ≤ (f 0).toInt) (q1 : (f 0).toInt < (f 1).toInt) (q2 : (f 1).toInt < (f 2).toInt) (q3 : (f 2).toInt < (f 3).toInt) (hM' : ∀ n, M n ↔ ((f 0).toInt ≤ n ∧ n < (f 1).toInt) ∨ ((f 2).toInt ≤ n ∧ n < (f 3).toInt)) (c293 : ¬ (x < (f 3))) (c515 : x = (f 3)) : asc (updI (updI (updI (updI (fun _ => (0 : Int32)) 0 (f 0)) 1 (f 1)) 2 (f 2)) 3 y) 4 ∧ ∀ n, ADD M x y n ↔ rm (updI (updI (updI (updI (fun _ => (0 : Int32)) 0 (f 0)) 1 (f 1)) 2 (f 2)) 3 y) 4 n := by
  have t531 := c293; rw [Int32.lt_iff_toInt_lt] at t531
  have t532 := c515; rw [← Int32.toInt_inj] at t532
  (refine fin4 (u := (f 0)) (v := (f 1)) (w := (f 2)) (x := y) (by simp [updI]) (by simp [updI]) (by simp [updI]) (by simp [updI]) ⟨by omega, by omega, by omega, by omega, fun n => ?_⟩
   simp only [ADD, hM', false_or]
   first | done | (constructor <;> intro z <;> omega))
theorem fin_add44_552 (f : Nat → Int32) (x y : Int32) (M : Int → Prop) (f12 : 0 ≤ x.toInt) (f13 : x.toInt < y.toInt) (q0 : 0 ≤ (f 0).toInt) (q1 : (f 0).toInt < (f 1).toInt) (q2 : (f 1).toInt < (f 2).toInt) (q3 : (f 2).toInt < (f 3).toInt) (hM' : ∀ n, M n ↔ ((f 0).toInt ≤ n ∧ n < (f 1).toInt) ∨ ((f 2).toInt ≤ n ∧ n < (f 3).toInt)) (c293 : ¬ (x < (f 3))) (c515 : ¬ (x = (f 3))) : asc (updI (updI (updI (updI (updI (updI (updI (updI (fun _ => (0 : Int32)) 0 (f 0)) 1 (f 1)) 2 (f 2)) 3 (f 3)) 4 x) 5 y) 6 (0 : Int32)) 7 (0 : Int32)) 6 ∧ ∀ n, ADD M x y n ↔ rm (updI (updI (updI (updI (updI (updI (updI (updI (fun _ => (0 : Int32)) 0 (f 0)) 1 (f 1)) 2 (f 2)) 3 (f 3)) 4 x) 5 y) 6 (0 : Int32)) 7 (0 : Int32)) 6 n := by
  have t554 := c293; rw [Int32.lt_iff_toInt_lt] at t554
  have t555 := c515; rw [← Int32.toInt_inj] at t555
  (refine fin6 (u := (f 0)) (v := (f 1)) (w := (f 2)) (x := (f 3)) (y := x) (z := y) (by simp [updI]) (by simp [updI]) (by simp [updI]) (by simp [updI]) (by simp [updI]) (by simp [updI]) ⟨by omega, by omega, by omega, by omega, by omega, by omega, fun n => ?_⟩
   simp only [ADD, hM', false_or]
   first | done | (constructor <;> intro z <;> omega))
def Q_add44 (Z : State) (a : Addr) (am : Addr) (aB : Addr) (kB : ClassId) (f : Nat → Int32) (km : ClassId) (x : Int32) (y : Int32) (k : Nat) (M : Int → Prop) (h0 : Heap) (n0 : Nat) (v : Option Value) (h : Heap) (L : List Loc) : Prop := ∃ (aX : Addr), v = none ∧ Fr n0 L ∧ Keep h0 h [a, aB] ∧ Exa Z h a "com/example/collate/collate/analysis/AtomSet" ∧ AS Z h n0 a aX (k + 1) (ADD M x y)
theorem ef_add44 (m : MethodId) (x0 : Addr) (x1 : Addr) (x2 : Int32) : entryFrame m #[(.ref x0), (.ref x1), (.int x2)] 9 = mkF m 0 #[.val (.ref x0), .val (.ref x1), .val (.int x2), .unset, .unset, .unset, .unset, .unset, .unset] [] := by first | (simp [entryFrame, mkF, argsToLocals, Value.category]; done) | rfl
set_option maxRecDepth 65536 in
set_option maxHeartbeats 40000000 in
theorem rm_add44 (l : Launch) (Z : State) (a0 : Array Value) (hw : ∀ d ∈ tables_1, d.before a0 Z = true) (a : Addr) (am : Addr) (aB : Addr) (kB : ClassId) (f : Nat → Int32) (km : ClassId) (x : Int32) (y : Int32) (k : Nat) (M : Int → Prop) (h0 : Heap) (n0 : Nat) (Z0 : n0 ≤ h0.size) (f0 : Exa Z h0 a "com/example/collate/collate/analysis/AtomSet") (f1 : n0 ≤ a) (f2 : a ≠ aB) (f3 : a ≠ am) (f4 : aB ≠ am) (f5 : Fld Z h0 a "com/example/collate/collate/analysis/AtomSet" "bounds" "[I" (.ref aB)) (f6 : Fld Z h0 a "com/example/collate/collate/analysis/AtomSet" "count" "I" (.int (4 : Int32))) (f7 : Af Z h0 aB kB .int 4 (fun i => Value.int (f i))) (f8 : Af Z h0 am km .int 2 (fun i => Value.int ((updI (updI (fun _ => (0 : Int32)) 0 x) 1 y) i))) (f9 : 2 ≤ k) (f10 : asc f 4) (f11 : ∀ n, M n ↔ rm f 4 n) (f12 : 0 ≤ x.toInt) (f13 : x.toInt < y.toInt) (f14 : n0 ≤ aB) :
    Met l Z (⟨"com/example/collate/collate/analysis/AtomSet", "add", "([II)V"⟩ : MethodName) prog_6_method_6_code 9 none [] ({ frames := 2, cells := 1, slots := 8, locals := 33 } : Room) #[(.ref a), (.ref am), (.int (2 : Int32))] h0 (Q_add44 Z a am aB kB f km x y k M h0 n0) := by
  refine Met.of (plainFor_of_name pn_add44) ?_
  intro p e s m below meth c s₁ X0 hx hby hml hZ hown hnm e0 hret hlk
  refine Go.cast (ef_add44 m a am ((2 : Int32))) ?_
  show Go _ _ _ _ s₁ (mkF m 0 #[.val (.ref a), .val (.ref am), .val (.int (2 : Int32)), .unset, .unset, .unset, .unset, .unset, .unset] []) _ _ _
  have N0 := Fr.nil n0
  obtain ⟨q0, q1, q2, q3, hM'⟩ := of4 f10 f11
  refine Go.iloadN X0 hx (hb hby d_add44_0) rfl ?_
  refine Go.ifYes X0 hx (hb hby d_add44_1) (XT.i0_ne_t (by decide)) (pc' := 5) (by decide) (by decide) ?_
  show Go _ _ _ _ s₁ (mkF m 5 #[.val (.ref a), .val (.ref am), .val (.int (2 : Int32)), .unset, .unset, .unset, .unset, .unset, .unset] []) _ _ _
  refine Go.aloadN X0 hx (hb hby d_add44_5) rfl rfl ?_
  refine Go.getF X0 hx hZ hown (w31 hw) Via.refl e0 f6 (hb hby d_add44_6) ?_
  intro T290 X290 e290
  show Go _ _ _ _ T290 (mkF m 9 #[.val (.ref a), .val (.ref am), .val (.int (2 : Int32)), .unset, .unset, .unset, .unset, .unset, .unset] [(.int (4 : Int32))]) _ _ _
  refine Go.ifNo X290 hx (hb hby d_add44_9) (XT.i0_eq_f (by decide)) ?_
  show Go _ _ _ _ T290 (mkF m 12 #[.val (.ref a), .val (.ref am), .val (.int (2 : Int32)), .unset, .unset, .unset, .unset, .unset, .unset] []) _ _ _
  refine Go.aloadN X290 hx (hb hby d_add44_12) rfl rfl ?_
  refine Go.iconst X290 hx (hb hby d_add44_13) ?_
  show Go _ _ _ _ T290 (mkF m 14 #[.val (.ref a), .val (.ref am), .val (.int (2 : Int32)), .unset, .unset, .unset, .unset, .unset, .unset] [(.int (0 : Int32)), (.ref am)]) _ _ _
  refine Go.iaload X290 hx hZ e290 f8 (by decide) (by decide) (hb hby d_add44_14) ?_
  show Go _ _ _ _ T290 (mkF m 15 #[.val (.ref a), .val (.ref am), .val (.int (2 : Int32)), .unset, .unset, .unset, .unset, .unset, .unset] [(.int x)]) _ _ _
  refine Go.aloadN X290 hx (hb hby d_add44_15) rfl rfl ?_
  refine Go.getF X290 hx hZ hown (w19 hw) Via.refl e290 f5 (hb hby d_add44_16) ?_
  intro T291 X291 e291
  show Go _ _ _ _ T291 (mkF m 19 #[.val (.ref a), .val (.ref am), .val (.int (2 : Int32)), .unset, .unset, .unset, .unset, .unset, .unset] [(.ref aB), (.int x)]) _ _ _
  refine Go.aloadN X291 hx (hb hby d_add44_19) rfl rfl ?_
  refine Go.getF X291 hx hZ hown (w31 hw) Via.refl e291 f6 (hb hby d_add44_20) ?_
  intro T292 X292 e292
  show Go _ _ _ _ T292 (mkF m 23 #[.val (.ref a), .val (.ref am), .val (.int (2 : Int32)), .unset, .unset, .unset, .unset, .unset, .unset] [(.int (4 : Int32)), (.ref aB), (.int x)]) _ _ _
  refine Go.iconst X292 hx (hb hby d_add44_23) ?_
  show Go _ _ _ _ T292 (mkF m 24 #[.val (.ref a), .val (.ref am), .val (.int (2 : Int32)), .unset, .unset, .unset, .unset, .unset, .unset] [(.int (1 : Int32)), (.int (4 : Int32)), (.ref aB), (.int x)]) _ _ _
  refine Go.isub X292 hx (hb hby d_add44_24) ?_
  show Go _ _ _ _ T292 (mkF m 25 #[.val (.ref a), .val (.ref am), .val (.int (2 : Int32)), .unset, .unset, .unset, .unset, .unset, .unset] [(.int (3 : Int32)), (.ref aB), (.int x)]) _ _ _
  refine Go.iaload X292 hx hZ e292 f7 (by decide) (by decide) (hb hby d_add44_25) ?_
  show Go _ _ _ _ T292 (mkF m 26 #[.val (.ref a), .val (.ref am), .val (.int (2 : Int32)), .unset, .unset, .unset, .unset, .unset, .unset] [(.int (f 3)), (.int x)]) _ _ _
  rcases Decidable.em (x < (f 3)) with c293 | c293
  · refine Go.icmpYes X292 hx (hb hby d_add44_26) (XT.ii_lt_t c293) (pc' := 147) (by decide) (by decide) ?_
    show Go _ _ _ _ T292 (mkF m 147 #[.val (.ref a), .val (.ref am), .val (.int (2 : Int32)), .unset, .unset, .unset, .unset, .unset, .unset] []) _ _ _
    as_aux_lemma =>
      refine Go.aloadN X292 hx (hb hby d_add44_147) rfl rfl ?_
      refine Go.getF X292 hx hZ hown (w31 hw) Via.refl e292 f6 (hb hby d_add44_148) ?_
      intro T294 X294 e294
      show Go _ _ _ _ T294 (mkF m 151 #[.val (.ref a), .val (.ref am), .val (.int (2 : Int32)), .unset, .unset, .unset, .unset, .unset, .unset] [(.int (4 : Int32))]) _ _ _
      refine Go.iloadN X294 hx (hb hby d_add44_151) rfl ?_
      refine Go.iadd X294 hx (hb hby d_add44_152) ?_
      show Go _ _ _ _ T294 (mkF m 153 #[.val (.ref a), .val (.ref am), .val (.int (2 : Int32)), .unset, .unset, .unset, .unset, .unset, .unset] [(.int (6 : Int32))]) _ _ _
      refine Go.newarray (aty := .int) (cap := 6) X294 hx hZ (w26 hw) e294 (hb hby d_add44_153) (by decide) (by decide) (by decide) (by decide) (by decide) ?_
      intro T295 h295 a295 k295 b295 X295 e295 E295 A295
      have g_a295 : n0 ≤ a295 := by rw [b295]; exact Z0
      have y_a295 : h0.size ≤ a295 := by rw [b295]; exact (Nat.le_refl _)
      have ne_a_a295 : a ≠ a295 := by rw [b295]; exact Nat.ne_of_lt f0.lt
      have ne_aB_a295 : aB ≠ a295 := by rw [b295]; exact Nat.ne_of_lt f7.lt
      have ne_am_a295 : am ≠ a295 := by rw [b295]; exact Nat.ne_of_lt f8.lt
      have Z295 : n0 ≤ h295.size := Nat.le_trans Z0 E295.1
      have B295 : h0.size ≤ h295.size := Nat.le_trans (Nat.le_refl _) E295.1
      show Go _ _ _ _ T295 (mkF m 155 #[.val (.ref a), .val (.ref am), .val (.int (2 : Int32)), .unset, .unset, .unset, .unset, .unset, .unset] [(.ref a295)]) _ _ _
      refine Go.astoreN X295 hx (hb hby d_add44_155) rfl (l' := #[.val (.ref a), .val (.ref am), .val (.int (2 : Int32)), .val (.ref a295), .unset, .unset, .unset, .unset, .unset]) rfl ?_
      refine Go.iconst X295 hx (hb hby d_add44_156) ?_
      show Go _ _ _ _ T295 (mkF m 157 #[.val (.ref a), .val (.ref am), .val (.int (2 : Int32)), .val (.ref a295), .unset, .unset, .unset, .unset, .unset] [(.int (0 : Int32))]) _ _ _
      refine Go.istore X295 hx (hb hby d_add44_157) (l' := #[.val (.ref a), .val (.ref am), .val (.int (2 : Int32)), .val (.ref a295), .val (.int (0 : Int32)), .unset, .unset, .unset, .unset]) rfl ?_
      refine Go.iconst X295 hx (hb hby d_add44_159) ?_
      show Go _ _ _ _ T295 (mkF m 160 #[.val (.ref a), .val (.ref am), .val (.int (2 : Int32)), .val (.ref a295), .val (.int (0 : Int32)), .unset, .unset, .unset, .unset] [(.int (0 : Int32))]) _ _ _
      refine Go.istore X295 hx (hb hby d_add44_160) (l' := #[.val (.ref a), .val (.ref am), .val (.int (2 : Int32)), .val (.ref a295), .val (.int (0 : Int32)), .val (.int (0 : Int32)), .unset, .unset, .unset]) rfl ?_
      refine Go.iconst X295 hx (hb hby d_add44_162) ?_
      show Go _ _ _ _ T295 (mkF m 163 #[.val (.ref a), .val (.ref am), .val (.int (2 : Int32)), .val (.ref a295), .val (.int (0 : Int32)), .val (.int (0 : Int32)), .unset, .unset, .unset] [(.int (0 : Int32))]) _ _ _
      refine Go.istore X295 hx (hb hby d_add44_163) (l' := #[.val (.ref a), .val (.ref am), .val (.int (2 : Int32)), .val (.ref a295), .val (.int (0 : Int32)), .val (.int (0 : Int32)), .val (.int (0 : Int32)), .unset, .unset]) rfl ?_
      refine Go.iload X295 hx (hb hby d_add44_165) rfl ?_
      refine Go.aloadN X295 hx (hb hby d_add44_167) rfl rfl ?_
      refine Go.getF X295 hx hZ hown (w31 hw) Via.refl e295 (Fld.ext E295 f6) (hb hby d_add44_168) ?_
      intro T296 X296 e296
      show Go _ _ _ _ T296 (mkF m 171 #[.val (.ref a), .val (.ref am), .val (.int (2 : Int32)), .val (.ref a295), .val (.int (0 : Int32)), .val (.int (0 : Int32)), .val (.int (0 : Int32)), .unset, .unset] [(.int (4 : Int32)), (.int (0 : Int32))]) _ _ _
      refine Go.icmpYes X296 hx (hb hby d_add44_171) (XT.ii_lt_t (by decide)) (pc' := 180) (by decide) (by decide) ?_
      show Go _ _ _ _ T296 (mkF m 180 #[.val (.ref a), .val (.ref am), .val (.int (2 : Int32)), .val (.ref a295), .val (.int (0 : Int32)), .val (.int (0 : Int32)), .val (.int (0 : Int32)), .unset, .unset] []) _ _ _
      refine Go.iload X296 hx (hb hby d_add44_180) rfl ?_
      refine Go.iloadN X296 hx (hb hby d_add44_182) rfl ?_
      refine Go.icmpNo X296 hx (hb hby d_add44_183) (XT.ii_eq_f (by decide)) ?_
      show Go _ _ _ _ T296 (mkF m 186 #[.val (.ref a), .val (.ref am), .val (.int (2 : Int32)), .val (.ref a295), .val (.int (0 : Int32)), .val (.int (0 : Int32)), .val (.int (0 : Int32)), .unset, .unset] []) _ _ _
      refine Go.iload X296 hx (hb hby d_add44_186) rfl ?_
      refine Go.aloadN X296 hx (hb hby d_add44_188) rfl rfl ?_
      refine Go.getF X296 hx hZ hown (w31 hw) Via.refl e296 (Fld.ext E295 f6) (hb hby d_add44_189) ?_
      intro T297 X297 e297
      show Go _ _ _ _ T297 (mkF m 192 #[.val (.ref a), .val (.ref am), .val (.int (2 : Int32)), .val (.ref a295), .val (.int (0 : Int32)), .val (.int (0 : Int32)), .val (.int (0 : Int32)), .unset, .unset] [(.int (4 : Int32)), (.int (0 : Int32))]) _ _ _
      refine Go.icmpNo X297 hx (hb hby d_add44_192) (XT.ii_ge_f (by decide)) ?_
      show Go _ _ _ _ T297 (mkF m 195 #[.val (.ref a), .val (.ref am), .val (.int (2 : Int32)), .val (.ref a295), .val (.int (0 : Int32)), .val (.int (0 : Int32)), .val (.int (0 : Int32)), .unset, .unset] []) _ _ _
      refine Go.aloadN X297 hx (hb hby d_add44_195) rfl rfl ?_
      refine Go.getF X297 hx hZ hown (w19 hw) Via.refl e297 (Fld.ext E295 f5) (hb hby d_add44_196) ?_
      intro T298 X298 e298
      show Go _ _ _ _ T298 (mkF m 199 #[.val (.ref a), .val (.ref am), .val (.int (2 : Int32)), .val (.ref a295), .val (.int (0 : Int32)), .val (.int (0 : Int32)), .val (.int (0 : Int32)), .unset, .unset] [(.ref aB)]) _ _ _
      refine Go.iload X298 hx (hb hby d_add44_199) rfl ?_
      refine Go.iaload X298 hx hZ e298 (Af.ext E295 f7) (by decide) (by decide) (hb hby d_add44_201) ?_
      show Go _ _ _ _ T298 (mkF m 202 #[.val (.ref a), .val (.ref am), .val (.int (2 : Int32)), .val (.ref a295), .val (.int (0 : Int32)), .val (.int (0 : Int32)), .val (.int (0 : Int32)), .unset, .unset] [(.int (f 0))]) _ _ _
      refine Go.aloadN X298 hx (hb hby d_add44_202) rfl rfl ?_
      refine Go.iload X298 hx (hb hby d_add44_203) rfl ?_
      refine Go.iaload X298 hx hZ e298 (Af.ext E295 f8) (by decide) (by decide) (hb hby d_add44_205) ?_
      show Go _ _ _ _ T298 (mkF m 206 #[.val (.ref a), .val (.ref am), .val (.int (2 : Int32)), .val (.ref a295), .val (.int (0 : Int32)), .val (.int (0 : Int32)), .val (.int (0 : Int32)), .unset, .unset] [(.int x), (.int (f 0))]) _ _ _
      rcases Decidable.em (x < (f 0)) with c299 | c299
      · refine Go.icmpYes X298 hx (hb hby d_add44_206) (XT.ii_gt_t c299) (pc' := 235) (by decide) (by decide) ?_
        show Go _ _ _ _ T298 (mkF m 235 #[.val (.ref a), .val (.ref am), .val (.int (2 : Int32)), .val (.ref a295), .val (.int (0 : Int32)), .val (.int (0 : Int32)), .val (.int (0 : Int32)), .unset, .unset] []) _ _ _
        as_aux_lemma =>
          refine Go.aloadN X298 hx (hb hby d_add44_235) rfl rfl ?_
          refine Go.iload X298 hx (hb hby d_add44_236) rfl ?_
          refine Go.iaload X298 hx hZ e298 (Af.ext E295 f8) (by decide) (by decide) (hb hby d_add44_238) ?_
          show Go _ _ _ _ T298 (mkF m 239 #[.val (.ref a), .val (.ref am), .val (.int (2 : Int32)), .val (.ref a295), .val (.int (0 : Int32)), .val (.int (0 : Int32)), .val (.int (0 : Int32)), .unset, .unset] [(.int x)]) _ _ _
          refine Go.istore X298 hx (hb hby d_add44_239) (l' := #[.val (.ref a), .val (.ref am), .val (.int (2 : Int32)), .val (.ref a295), .val (.int (0 : Int32)), .val (.int (0 : Int32)), .val (.int (0 : Int32)), .val (.int x), .unset]) rfl ?_
          refine Go.aloadN X298 hx (hb hby d_add44_241) rfl rfl ?_
          refine Go.iload X298 hx (hb hby d_add44_242) rfl ?_
          refine Go.iconst X298 hx (hb hby d_add44_244) ?_
          show Go _ _ _ _ T298 (mkF m 245 #[.val (.ref a), .val (.ref am), .val (.int (2 : Int32)), .val (.ref a295), .val (.int (0 : Int32)), .val (.int (0 : Int32)), .val (.int (0 : Int32)), .val (.int x), .unset] [(.int (1 : Int32)), (.int (0 : Int32)), (.ref am)]) _ _ _
          refine Go.iadd X298 hx (hb hby d_add44_245) ?_
          show Go _ _ _ _ T298 (mkF m 246 #[.val (.ref a), .val (.ref am), .val (.int (2 : Int32)), .val (.ref a295), .val (.int (0 : Int32)), .val (.int (0 : Int32)), .val (.int (0 : Int32)), .val (.int x), .unset] [(.int (1 : Int32)), (.ref am)]) _ _ _
          refine Go.iaload X298 hx hZ e298 (Af.ext E295 f8) (by decide) (by decide) (hb hby d_add44_246) ?_
          show Go _ _ _ _ T298 (mkF m 247 #[.val (.ref a), .val (.ref am), .val (.int (2 : Int32)), .val (.ref a295), .val (.int (0 : Int32)), .val (.int (0 : Int32)), .val (.int (0 : Int32)), .val (.int x), .unset] [(.int y)]) _ _ _
          refine Go.istore X298 hx (hb hby d_add44_247) (l' := #[.val (.ref a), .val (.ref am), .val (.int (2 : Int32)), .val (.ref a295), .val (.int (0 : Int32)), .val (.int (0 : Int32)), .val (.int (0 : Int32)), .val (.int x), .val (.int y)]) rfl ?_
          refine Go.iinc X298 hx (hb hby d_add44_249) rfl (l' := #[.val (.ref a), .val (.ref am), .val (.int (2 : Int32)), .val (.ref a295), .val (.int (0 : Int32)), .val (.int (0 : Int32)), .val (.int (2 : Int32)), .val (.int x), .val (.int y)]) rfl ?_
          show Go _ _ _ _ T298 (mkF m 252 #[.val (.ref a), .val (.ref am), .val (.int (2 : Int32)), .val (.ref a295), .val (.int (0 : Int32)), .val (.int (0 : Int32)), .val (.int (2 : Int32)), .val (.int x), .val (.int y)] []) _ _ _
          refine Go.iload X298 hx (hb hby d_add44_252) rfl ?_
          refine Go.ifYes X298 hx (hb hby d_add44_254) (XT.i0_le_t (by decide)) (pc' := 288) (by decide) (by decide) ?_
          show Go _ _ _ _ T298 (mkF m 288 #[.val (.ref a), .val (.ref am), .val (.int (2 : Int32)), .val (.ref a295), .val (.int (0 : Int32)), .val (.int (0 : Int32)), .val (.int (2 : Int32)), .val (.int x), .val (.int y)] []) _ _ _
          refine Go.aloadN X298 hx (hb hby d_add44_288) rfl rfl ?_
          refine Go.iload X298 hx (hb hby d_add44_289) rfl ?_
          refine Go.iinc X298 hx (hb hby d_add44_291) rfl (l' := #[.val (.ref a), .val (.ref am), .val (.int (2 : Int32)), .val (.ref a295), .val (.int (1 : Int32)), .val (.int (0 : Int32)), .val (.int (2 : Int32)), .val (.int x), .val (.int y)]) rfl ?_
          show Go _ _ _ _ T298 (mkF m 294 #[.val (.ref a), .val (.ref am), .val (.int (2 : Int32)), .val (.ref a295), .val (.int (1 : Int32)), .val (.int (0 : Int32)), .val (.int (2 : Int32)), .val (.int x), .val (.int y)] [(.int (0 : Int32)), (.ref a295)]) _ _ _
          refine Go.iload X298 hx (hb hby d_add44_294) rfl ?_
          refine Go.iastore X298 hx hZ e298 A295 (by decide) (by decide) (hb hby d_add44_296) ?_
          intro T300 h300 X300 e300 W300 A300
          have N300 := Fr.snoc X300 N0 g_a295
          have Z300 : n0 ≤ h300.size := by rw [Wr.size W300]; exact Z295
          have B300 : h0.size ≤ h300.size := by rw [Wr.size W300]; exact B295
          show Go _ _ _ _ T300 (mkF m 297 #[.val (.ref a), .val (.ref am), .val (.int (2 : Int32)), .val (.ref a295), .val (.int (1 : Int32)), .val (.int (0 : Int32)), .val (.int (2 : Int32)), .val (.int x), .val (.int y)] []) _ _ _
          refine Go.aloadN X300 hx (hb hby d_add44_297) rfl rfl ?_
          refine Go.iload X300 hx (hb hby d_add44_298) rfl ?_
          refine Go.iinc X300 hx (hb hby d_add44_300) rfl (l' := #[.val (.ref a), .val (.ref am), .val (.int (2 : Int32)), .val (.ref a295), .val (.int (2 : Int32)), .val (.int (0 : Int32)), .val (.int (2 : Int32)), .val (.int x), .val (.int y)]) rfl ?_
          show Go _ _ _ _ T300 (mkF m 303 #[.val (.ref a), .val (.ref am), .val (.int (2 : Int32)), .val (.ref a295), .val (.int (2 : Int32)), .val (.int (0 : Int32)), .val (.int (2 : Int32)), .val (.int x), .val (.int y)] [(.int (1 : Int32)), (.ref a295)]) _ _ _
          refine Go.iload X300 hx (hb hby d_add44_303) rfl ?_
          refine Go.iastore X300 hx hZ e300 A300 (by decide) (by decide) (hb hby d_add44_305) ?_
          intro T301 h301 X301 e301 W301 A301
          have N301 := Fr.snoc X301 N300 g_a295
          have Z301 : n0 ≤ h301.size := by rw [Wr.size W301]; exact Z300
          have B301 : h0.size ≤ h301.size := by rw [Wr.size W301]; exact B300
          show Go _ _ _ _ T301 (mkF m 306 #[.val (.ref a), .val (.ref am), .val (.int (2 : Int32)), .val (.ref a295), .val (.int (2 : Int32)), .val (.int (0 : Int32)), .val (.int (2 : Int32)), .val (.int x), .val (.int y)] []) _ _ _
          refine Go.goto X301 hx (hb hby d_add44_306) (pc' := 165) (by decide) (by decide) ?_
          show Go _ _ _ _ T301 (mkF m 165 #[.val (.ref a), .val (.ref am), .val (.int (2 : Int32)), .val (.ref a295), .val (.int (2 : Int32)), .val (.int (0 : Int32)), .val (.int (2 : Int32)), .val (.int x), .val (.int y)] []) _ _ _
          refine Go.iload X301 hx (hb hby d_add44_165) rfl ?_
          refine Go.aloadN X301 hx (hb hby d_add44_167) rfl rfl ?_
          have F302 := (Fld.other W301 (Fld.other W300 (Fld.ext E295 f6) (Or.inl ne_a_a295)) (Or.inl ne_a_a295))
          refine Go.getF X301 hx hZ hown (w31 hw) Via.refl e301 F302 (hb hby d_add44_168) ?_
          intro T303 X303 e303
          show Go _ _ _ _ T303 (mkF m 171 #[.val (.ref a), .val (.ref am), .val (.int (2 : Int32)), .val (.ref a295), .val (.int (2 : Int32)), .val (.int (0 : Int32)), .val (.int (2 : Int32)), .val (.int x), .val (.int y)] [(.int (4 : Int32)), (.int (0 : Int32))]) _ _ _
          refine Go.icmpYes X303 hx (hb hby d_add44_171) (XT.ii_lt_t (by decide)) (pc' := 180) (by decide) (by decide) ?_
          show Go _ _ _ _ T303 (mkF m 180 #[.val (.ref a), .val (.ref am), .val (.int (2 : Int32)), .val (.ref a295), .val (.int (2 : Int32)), .val (.int (0 : Int32)), .val (.int (2 : Int32)), .val (.int x), .val (.int y)] []) _ _ _
          refine Go.iload X303 hx (hb hby d_add44_180) rfl ?_
          refine Go.iloadN X303 hx (hb hby d_add44_182) rfl ?_
          refine Go.icmpYes X303 hx (hb hby d_add44_183) (XT.ii_eq_t (by decide)) (pc' := 209) (by decide) (by decide) ?_
          show Go _ _ _ _ T303 (mkF m 209 #[.val (.ref a), .val (.ref am), .val (.int (2 : Int32)), .val (.ref a295), .val (.int (2 : Int32)), .val (.int (0 : Int32)), .val (.int (2 : Int32)), .val (.int x), .val (.int y)] []) _ _ _
          refine Go.aloadN X303 hx (hb hby d_add44_209) rfl rfl ?_
          have F304 := (Fld.other W301 (Fld.other W300 (Fld.ext E295 f5) (Or.inl ne_a_a295)) (Or.inl ne_a_a295))
          refine Go.getF X303 hx hZ hown (w19 hw) Via.refl e303 F304 (hb hby d_add44_210) ?_
          intro T305 X305 e305
          show Go _ _ _ _ T305 (mkF m 213 #[.val (.ref a), .val (.ref am), .val (.int (2 : Int32)), .val (.ref a295), .val (.int (2 : Int32)), .val (.int (0 : Int32)), .val (.int (2 : Int32)), .val (.int x), .val (.int y)] [(.ref aB)]) _ _ _
          refine Go.iload X305 hx (hb hby d_add44_213) rfl ?_
          have F306 := (Af.other W301 (Af.other W300 (Af.ext E295 f7) ne_aB_a295) ne_aB_a295)
          refine Go.iaload X305 hx hZ e305 F306 (by decide) (by decide) (hb hby d_add44_215) ?_
          show Go _ _ _ _ T305 (mkF m 216 #[.val (.ref a), .val (.ref am), .val (.int (2 : Int32)), .val (.ref a295), .val (.int (2 : Int32)), .val (.int (0 : Int32)), .val (.int (2 : Int32)), .val (.int x), .val (.int y)] [(.int (f 0))]) _ _ _
          refine Go.istore X305 hx (hb hby d_add44_216) (l' := #[.val (.ref a), .val (.ref am), .val (.int (2 : Int32)), .val (.ref a295), .val (.int (2 : Int32)), .val (.int (0 : Int32)), .val (.int (2 : Int32)), .val (.int (f 0)), .val (.int y)]) rfl ?_
          refine Go.aloadN X305 hx (hb hby d_add44_218) rfl rfl ?_
          refine Go.getF X305 hx hZ hown (w19 hw) Via.refl e305 F304 (hb hby d_add44_219) ?_
          intro T307 X307 e307
          show Go _ _ _ _ T307 (mkF m 222 #[.val (.ref a), .val (.ref am), .val (.int (2 : Int32)), .val (.ref a295), .val (.int (2 : Int32)), .val (.int (0 : Int32)), .val (.int (2 : Int32)), .val (.int (f 0)), .val (.int y)] [(.ref aB)]) _ _ _
          refine Go.iload X307 hx (hb hby d_add44_222) rfl ?_
          refine Go.iconst X307 hx (hb hby d_add44_224) ?_
          show Go _ _ _ _ T307 (mkF m 225 #[.val (.ref a), .val (.ref am), .val (.int (2 : Int32)), .val (.ref a295), .val (.int (2 : Int32)), .val (.int (0 : Int32)), .val (.int (2 : Int32)), .val (.int (f 0)), .val (.int y)] [(.int (1 : Int32)), (.int (0 : Int32)), (.ref aB)]) _ _ _
          refine Go.iadd X307 hx (hb hby d_add44_225) ?_
          show Go _ _ _ _ T307 (mkF m 226 #[.val (.ref a), .val (.ref am), .val (.int (2 : Int32)), .val (.ref a295), .val (.int (2 : Int32)), .val (.int (0 : Int32)), .val (.int (2 : Int32)), .val (.int (f 0)), .val (.int y)] [(.int (1 : Int32)), (.ref aB)]) _ _ _
          refine Go.iaload X307 hx hZ e307 F306 (by decide) (by decide) (hb hby d_add44_226) ?_
          show Go _ _ _ _ T307 (mkF m 227 #[.val (.ref a), .val (.ref am), .val (.int (2 : Int32)), .val (.ref a295), .val (.int (2 : Int32)), .val (.int (0 : Int32)), .val (.int (2 : Int32)), .val (.int (f 0)), .val (.int y)] [(.int (f 1))]) _ _ _
          refine Go.istore X307 hx (hb hby d_add44_227) (l' := #[.val (.ref a), .val (.ref am), .val (.int (2 : Int32)), .val (.ref a295), .val (.int (2 : Int32)), .val (.int (0 : Int32)), .val (.int (2 : Int32)), .val (.int (f 0)), .val (.int (f 1))]) rfl ?_
          refine Go.iinc X307 hx (hb hby d_add44_229) rfl (l' := #[.val (.ref a), .val (.ref am), .val (.int (2 : Int32)), .val (.ref a295), .val (.int (2 : Int32)), .val (.int (2 : Int32)), .val (.int (2 : Int32)), .val (.int (f 0)), .val (.int (f 1))]) rfl ?_
          show Go _ _ _ _ T307 (mkF m 232 #[.val (.ref a), .val (.ref am), .val (.int (2 : Int32)), .val (.ref a295), .val (.int (2 : Int32)), .val (.int (2 : Int32)), .val (.int (2 : Int32)), .val (.int (f 0)), .val (.int (f 1))] []) _ _ _
          refine Go.goto X307 hx (hb hby d_add44_232) (pc' := 252) (by decide) (by decide) ?_
          show Go _ _ _ _ T307 (mkF m 252 #[.val (.ref a), .val (.ref am), .val (.int (2 : Int32)), .val (.ref a295), .val (.int (2 : Int32)), .val (.int (2 : Int32)), .val (.int (2 : Int32)), .val (.int (f 0)), .val (.int (f 1))] []) _ _ _
          refine Go.iload X307 hx (hb hby d_add44_252) rfl ?_
          refine Go.ifNo X307 hx (hb hby d_add44_254) (XT.i0_le_f (by decide)) ?_
          show Go _ _ _ _ T307 (mkF m 257 #[.val (.ref a), .val (.ref am), .val (.int (2 : Int32)), .val (.ref a295), .val (.int (2 : Int32)), .val (.int (2 : Int32)), .val (.int (2 : Int32)), .val (.int (f 0)), .val (.int (f 1))] []) _ _ _
          refine Go.iload X307 hx (hb hby d_add44_257) rfl ?_
          refine Go.aloadN X307 hx (hb hby d_add44_259) rfl rfl ?_
          refine Go.iload X307 hx (hb hby d_add44_260) rfl ?_
          refine Go.iconst X307 hx (hb hby d_add44_262) ?_
          show Go _ _ _ _ T307 (mkF m 263 #[.val (.ref a), .val (.ref am), .val (.int (2 : Int32)), .val (.ref a295), .val (.int (2 : Int32)), .val (.int (2 : Int32)), .val (.int (2 : Int32)), .val (.int (f 0)), .val (.int (f 1))] [(.int (1 : Int32)), (.int (2 : Int32)), (.ref a295), (.int (f 0))]) _ _ _
          refine Go.isub X307 hx (hb hby d_add44_263) ?_
          show Go _ _ _ _ T307 (mkF m 264 #[.val (.ref a), .val (.ref am), .val (.int (2 : Int32)), .val (.ref a295), .val (.int (2 : Int32)), .val (.int (2 : Int32)), .val (.int (2 : Int32)), .val (.int (f 0)), .val (.int (f 1))] [(.int (1 : Int32)), (.ref a295), (.int (f 0))]) _ _ _
          refine Go.iaload X307 hx hZ e307 A301 (by decide) (by decide) (hb hby d_add44_264) ?_
          show Go _ _ _ _ T307 (mkF m 265 #[.val (.ref a), .val (.ref am), .val (.int (2 : Int32)), .val (.ref a295), .val (.int (2 : Int32)), .val (.int (2 : Int32)), .val (.int (2 : Int32)), .val (.int (f 0)), .val (.int (f 1))] [(.int y), (.int (f 0))]) _ _ _
          rcases Decidable.em (y < (f 0)) with c308 | c308
          · refine Go.icmpYes X307 hx (hb hby d_add44_265) (XT.ii_gt_t c308) (pc' := 288) (by decide) (by decide) ?_
            show Go _ _ _ _ T307 (mkF m 288 #[.val (.ref a), .val (.ref am), .val (.int (2 : Int32)), .val (.ref a295), .val (.int (2 : Int32)), .val (.int (2 : Int32)), .val (.int (2 : Int32)), .val (.int (f 0)), .val (.int (f 1))] []) _ _ _
            as_aux_lemma =>
              refine Go.aloadN X307 hx (hb hby d_add44_288) rfl rfl ?_
              refine Go.iload X307 hx (hb hby d_add44_289) rfl ?_
              refine Go.iinc X307 hx (hb hby d_add44_291) rfl (l' := #[.val (.ref a), .val (.ref am), .val (.int (2 : Int32)), .val (.ref a295), .val (.int (3 : Int32)), .val (.int (2 : Int32)), .val (.int (2 : Int32)), .val (.int (f 0)), .val (.int (f 1))]) rfl ?_
              show Go _ _ _ _ T307 (mkF m 294 #[.val (.ref a), .val (.ref am), .val (.int (2 : Int32)), .val (.ref a295), .val (.int (3 : Int32)), .val (.int (2 : Int32)), .val (.int (2 : Int32)), .val (.int (f 0)), .val (.int (f 1))] [(.int (2 : Int32)), (.ref a295)]) _ _ _
              refine Go.iload X307 hx (hb hby d_add44_294) rfl ?_
              refine Go.iastore X307 hx hZ e307 A301 (by decide) (by decide) (hb hby d_add44_296) ?_
              intro T309 h309 X309 e309 W309 A309
              have N309 := Fr.snoc X309 N301 g_a295
              have Z309 : n0 ≤ h309.size := by rw [Wr.size W309]; exact Z301
              have B309 : h0.size ≤ h309.size := by rw [Wr.size W309]; exact B301
              show Go _ _ _ _ T309 (mkF m 297 #[.val (.ref a), .val (.ref am), .val (.int (2 : Int32)), .val (.ref a295), .val (.int (3 : Int32)), .val (.int (2 : Int32)), .val (.int (2 : Int32)), .val (.int (f 0)), .val (.int (f 1))] []) _ _ _
              refine Go.aloadN X309 hx (hb hby d_add44_297) rfl rfl ?_
              refine Go.iload X309 hx (hb hby d_add44_298) rfl ?_
              refine Go.iinc X309 hx (hb hby d_add44_300) rfl (l' := #[.val (.ref a), .val (.ref am), .val (.int (2 : Int32)), .val (.ref a295), .val (.int (4 : Int32)), .val (.int (2 : Int32)), .val (.int (2 : Int32)), .val (.int (f 0)), .val (.int (f 1))]) rfl ?_
              show Go _ _ _ _ T309 (mkF m 303 #[.val (.ref a), .val (.ref am), .val (.int (2 : Int32)), .val (.ref a295), .val (.int (4 : Int32)), .val (.int (2 : Int32)), .val (.int (2 : Int32)), .val (.int (f 0)), .val (.int (f 1))] [(.int (3 : Int32)), (.ref a295)]) _ _ _
              refine Go.iload X309 hx (hb hby d_add44_303) rfl ?_
              refine Go.iastore X309 hx hZ e309 A309 (by decide) (by decide) (hb hby d_add44_305) ?_
              intro T310 h310 X310 e310 W310 A310
              have N310 := Fr.snoc X310 N309 g_a295
              have Z310 : n0 ≤ h310.size := by rw [Wr.size W310]; exact Z309
              have B310 : h0.size ≤ h310.size := by rw [Wr.size W310]; exact B309
              show Go _ _ _ _ T310 (mkF m 306 #[.val (.ref a), .val (.ref am), .val (.int (2 : Int32)), .val (.ref a295), .val (.int (4 : Int32)), .val (.int (2 : Int32)), .val (.int (2 : Int32)), .val (.int (f 0)), .val (.int (f 1))] []) _ _ _
              refine Go.goto X310 hx (hb hby d_add44_306) (pc' := 165) (by decide) (by decide) ?_
              show Go _ _ _ _ T310 (mkF m 165 #[.val (.ref a), .val (.ref am), .val (.int (2 : Int32)), .val (.ref a295), .val (.int (4 : Int32)), .val (.int (2 : Int32)), .val (.int (2 : Int32)), .val (.int (f 0)), .val (.int (f 1))] []) _ _ _
              refine Go.iload X310 hx (hb hby d_add44_165) rfl ?_
              refine Go.aloadN X310 hx (hb hby d_add44_167) rfl rfl ?_
              have F311 := (Fld.other W310 (Fld.other W309 F302 (Or.inl ne_a_a295)) (Or.inl ne_a_a295))
              refine Go.getF X310 hx hZ hown (w31 hw) Via.refl e310 F311 (hb hby d_add44_168) ?_
              intro T312 X312 e312
              show Go _ _ _ _ T312 (mkF m 171 #[.val (.ref a), .val (.ref am), .val (.int (2 : Int32)), .val (.ref a295), .val (.int (4 : Int32)), .val (.int (2 : Int32)), .val (.int (2 : Int32)), .val (.int (f 0)), .val (.int (f 1))] [(.int (4 : Int32)), (.int (2 : Int32))]) _ _ _
              refine Go.icmpYes X312 hx (hb hby d_add44_171) (XT.ii_lt_t (by decide)) (pc' := 180) (by decide) (by decide) ?_
              show Go _ _ _ _ T312 (mkF m 180 #[.val (.ref a), .val (.ref am), .val (.int (2 : Int32)), .val (.ref a295), .val (.int (4 : Int32)), .val (.int (2 : Int32)), .val (.int (2 : Int32)), .val (.int (f 0)), .val (.int (f 1))] []) _ _ _
              refine Go.iload X312 hx (hb hby d_add44_180) rfl ?_
              refine Go.iloadN X312 hx (hb hby d_add44_182) rfl ?_
              refine Go.icmpYes X312 hx (hb hby d_add44_183) (XT.ii_eq_t (by decide)) (pc' := 209) (by decide) (by decide) ?_
              show Go _ _ _ _ T312 (mkF m 209 #[.val (.ref a), .val (.ref am), .val (.int (2 : Int32)), .val (.ref a295), .val (.int (4 : Int32)), .val (.int (2 : Int32)), .val (.int (2 : Int32)), .val (.int (f 0)), .val (.int (f 1))] []) _ _ _
              refine Go.aloadN X312 hx (hb hby d_add44_209) rfl rfl ?_
              have F313 := (Fld.other W310 (Fld.other W309 F304 (Or.inl ne_a_a295)) (Or.inl ne_a_a295))
              refine Go.getF X312 hx hZ hown (w19 hw) Via.refl e312 F313 (hb hby d_add44_210) ?_
              intro T314 X314 e314
              show Go _ _ _ _ T314 (mkF m 213 #[.val (.ref a), .val (.ref am), .val (.int (2 : Int32)), .val (.ref a295), .val (.int (4 : Int32)), .val (.int (2 : Int32)), .val (.int (2 : Int32)), .val (.int (f 0)), .val (.int (f 1))] [(.ref aB)]) _ _ _
              refine Go.iload X314 hx (hb hby d_add44_213) rfl ?_
              have F315 := (Af.other W310 (Af.other W309 F306 ne_aB_a295) ne_aB_a295)
              refine Go.iaload X314 hx hZ e314 F315 (by decide) (by decide) (hb hby d_add44_215) ?_
              show Go _ _ _ _ T314 (mkF m 216 #[.val (.ref a), .val (.ref am), .val (.int (2 : Int32)), .val (.ref a295), .val (.int (4 : Int32)), .val (.int (2 : Int32)), .val (.int (2 : Int32)), .val (.int (f 0)), .val (.int (f 1))] [(.int (f 2))]) _ _ _
              refine Go.istore X314 hx (hb hby d_add44_216) (l' := #[.val (.ref a), .val (.ref am), .val (.int (2 : Int32)), .val (.ref a295), .val (.int (4 : Int32)), .val (.int (2 : Int32)), .val (.int (2 : Int32)), .val (.int (f 2)), .val (.int (f 1))]) rfl ?_
              refine Go.aloadN X314 hx (hb hby d_add44_218) rfl rfl ?_
              refine Go.getF X314 hx hZ hown (w19 hw) Via.refl e314 F313 (hb hby d_add44_219) ?_
              intro T316 X316 e316
              show Go _ _ _ _ T316 (mkF m 222 #[.val (.ref a), .val (.ref am), .val (.int (2 : Int32)), .val (.ref a295), .val (.int (4 : Int32)), .val (.int (2 : Int32)), .val (.int (2 : Int32)), .val (.int (f 2)), .val (.int (f 1))] [(.ref aB)]) _ _ _
              refine Go.iload X316 hx (hb hby d_add44_222) rfl ?_
              refine Go.iconst X316 hx (hb hby d_add44_224) ?_
              show Go _ _ _ _ T316 (mkF m 225 #[.val (.ref a), .val (.ref am), .val (.int (2 : Int32)), .val (.ref a295), .val (.int (4 : Int32)), .val (.int (2 : Int32)), .val (.int (2 : Int32)), .val (.int (f 2)), .val (.int (f 1))] [(.int (1 : Int32)), (.int (2 : Int32)), (.ref aB)]) _ _ _
              refine Go.iadd X316 hx (hb hby d_add44_225) ?_
              show Go _ _ _ _ T316 (mkF m 226 #[.val (.ref a), .val (.ref am), .val (.int (2 : Int32)), .val (.ref a295), .val (.int (4 : Int32)), .val (.int (2 : Int32)), .val (.int (2 : Int32)), .val (.int (f 2)), .val (.int (f 1))] [(.int (3 : Int32)), (.ref aB)]) _ _ _
              refine Go.iaload X316 hx hZ e316 F315 (by decide) (by decide) (hb hby d_add44_226) ?_
              show Go _ _ _ _ T316 (mkF m 227 #[.val (.ref a), .val (.ref am), .val (.int (2 : Int32)), .val (.ref a295), .val (.int (4 : Int32)), .val (.int (2 : Int32)), .val (.int (2 : Int32)), .val (.int (f 2)), .val (.int (f 1))] [(.int (f 3))]) _ _ _
              refine Go.istore X316 hx (hb hby d_add44_227) (l' := #[.val (.ref a), .val (.ref am), .val (.int (2 : Int32)), .val (.ref a295), .val (.int (4 : Int32)), .val (.int (2 : Int32)), .val (.int (2 : Int32)), .val (.int (f 2)), .val (.int (f 3))]) rfl ?_
              refine Go.iinc X316 hx (hb hby d_add44_229) rfl (l' := #[.val (.ref a), .val (.ref am), .val (.int (2 : Int32)), .val (.ref a295), .val (.int (4 : Int32)), .val (.int (4 : Int32)), .val (.int (2 : Int32)), .val (.int (f 2)), .val (.int (f 3))]) rfl ?_
              show Go _ _ _ _ T316 (mkF m 232 #[.val (.ref a), .val (.ref am), .val (.int (2 : Int32)), .val (.ref a295), .val (.int (4 : Int32)), .val (.int (4 : Int32)), .val (.int (2 : Int32)), .val (.int (f 2)), .val (.int (f 3))] []) _ _ _
              refine Go.goto X316 hx (hb hby d_add44_232) (pc' := 252) (by decide) (by decide) ?_
              show Go _ _ _ _ T316 (mkF m 252 #[.val (.ref a), .val (.ref am), .val (.int (2 : Int32)), .val (.ref a295), .val (.int (4 : Int32)), .val (.int (4 : Int32)), .val (.int (2 : Int32)), .val (.int (f 2)), .val (.int (f 3))] []) _ _ _
              refine Go.iload X316 hx (hb hby d_add44_252) rfl ?_
              refine Go.ifNo X316 hx (hb hby d_add44_254) (XT.i0_le_f (by decide)) ?_
              show Go _ _ _ _ T316 (mkF m 257 #[.val (.ref a), .val (.ref am), .val (.int (2 : Int32)), .val (.ref a295), .val (.int (4 : Int32)), .val (.int (4 : Int32)), .val (.int (2 : Int32)), .val (.int (f 2)), .val (.int (f 3))] []) _ _ _
              refine Go.iload X316 hx (hb hby d_add44_257) rfl ?_
              refine Go.aloadN X316 hx (hb hby d_add44_259) rfl rfl ?_
              refine Go.iload X316 hx (hb hby d_add44_260) rfl ?_
              refine Go.iconst X316 hx (hb hby d_add44_262) ?_
              show Go _ _ _ _ T316 (mkF m 263 #[.val (.ref a), .val (.ref am), .val (.int (2 : Int32)), .val (.ref a295), .val (.int (4 : Int32)), .val (.int (4 : Int32)), .val (.int (2 : Int32)), .val (.int (f 2)), .val (.int (f 3))] [(.int (1 : Int32)), (.int (4 : Int32)), (.ref a295), (.int (f 2))]) _ _ _
              refine Go.isub X316 hx (hb hby d_add44_263) ?_
              show Go _ _ _ _ T316 (mkF m 264 #[.val (.ref a), .val (.ref am), .val (.int (2 : Int32)), .val (.ref a295), .val (.int (4 : Int32)), .val (.int (4 : Int32)), .val (.int (2 : Int32)), .val (.int (f 2)), .val (.int (f 3))] [(.int (3 : Int32)), (.ref a295), (.int (f 2))]) _ _ _
              refine Go.iaload X316 hx hZ e316 A310 (by decide) (by decide) (hb hby d_add44_264) ?_
              show Go _ _ _ _ T316 (mkF m 265 #[.val (.ref a), .val (.ref am), .val (.int (2 : Int32)), .val (.ref a295), .val (.int (4 : Int32)), .val (.int (4 : Int32)), .val (.int (2 : Int32)), .val (.int (f 2)), .val (.int (f 3))] [(.int (f 1)), (.int (f 2))]) _ _ _
              refine Go.icmpYes X316 hx (hb hby d_add44_265) (XT.ii_gt_t (lt_of q2)) (pc' := 288) (by decide) (by decide) ?_
              show Go _ _ _ _ T316 (mkF m 288 #[.val (.ref a), .val (.ref am), .val (.int (2 : Int32)), .val (.ref a295), .val (.int (4 : Int32)), .val (.int (4 : Int32)), .val (.int (2 : Int32)), .val (.int (f 2)), .val (.int (f 3))] []) _ _ _
              refine Go.aloadN X316 hx (hb hby d_add44_288) rfl rfl ?_
              refine Go.iload X316 hx (hb hby d_add44_289) rfl ?_
              refine Go.iinc X316 hx (hb hby d_add44_291) rfl (l' := #[.val (.ref a), .val (.ref am), .val (.int (2 : Int32)), .val (.ref a295), .val (.int (5 : Int32)), .val (.int (4 : Int32)), .val (.int (2 : Int32)), .val (.int (f 2)), .val (.int (f 3))]) rfl ?_
              show Go _ _ _ _ T316 (mkF m 294 #[.val (.ref a), .val (.ref am), .val (.int (2 : Int32)), .val (.ref a295), .val (.int (5 : Int32)), .val (.int (4 : Int32)), .val (.int (2 : Int32)), .val (.int (f 2)), .val (.int (f 3))] [(.int (4 : Int32)), (.ref a295)]) _ _ _
              refine Go.iload X316 hx (hb hby d_add44_294) rfl ?_
              refine Go.iastore X316 hx hZ e316 A310 (by decide) (by decide) (hb hby d_add44_296) ?_
              intro T317 h317 X317 e317 W317 A317
              have N317 := Fr.snoc X317 N310 g_a295
              have Z317 : n0 ≤ h317.size := by rw [Wr.size W317]; exact Z310
              have B317 : h0.size ≤ h317.size := by rw [Wr.size W317]; exact B310
              show Go _ _ _ _ T317 (mkF m 297 #[.val (.ref a), .val (.ref am), .val (.int (2 : Int32)), .val (.ref a295), .val (.int (5 : Int32)), .val (.int (4 : Int32)), .val (.int (2 : Int32)), .val (.int (f 2)), .val (.int (f 3))] []) _ _ _
              refine Go.aloadN X317 hx (hb hby d_add44_297) rfl rfl ?_
              refine Go.iload X317 hx (hb hby d_add44_298) rfl ?_
              refine Go.iinc X317 hx (hb hby d_add44_300) rfl (l' := #[.val (.ref a), .val (.ref am), .val (.int (2 : Int32)), .val (.ref a295), .val (.int (6 : Int32)), .val (.int (4 : Int32)), .val (.int (2 : Int32)), .val (.int (f 2)), .val (.int (f 3))]) rfl ?_
              show Go _ _ _ _ T317 (mkF m 303 #[.val (.ref a), .val (.ref am), .val (.int (2 : Int32)), .val (.ref a295), .val (.int (6 : Int32)), .val (.int (4 : Int32)), .val (.int (2 : Int32)), .val (.int (f 2)), .val (.int (f 3))] [(.int (5 : Int32)), (.ref a295)]) _ _ _
              refine Go.iload X317 hx (hb hby d_add44_303) rfl ?_
              refine Go.iastore X317 hx hZ e317 A317 (by decide) (by decide) (hb hby d_add44_305) ?_
              intro T318 h318 X318 e318 W318 A318
              have N318 := Fr.snoc X318 N317 g_a295
              have Z318 : n0 ≤ h318.size := by rw [Wr.size W318]; exact Z317
              have B318 : h0.size ≤ h318.size := by rw [Wr.size W318]; exact B317
              show Go _ _ _ _ T318 (mkF m 306 #[.val (.ref a), .val (.ref am), .val (.int (2 : Int32)), .val (.ref a295), .val (.int (6 : Int32)), .val (.int (4 : Int32)), .val (.int (2 : Int32)), .val (.int (f 2)), .val (.int (f 3))] []) _ _ _
              refine Go.goto X318 hx (hb hby d_add44_306) (pc' := 165) (by decide) (by decide) ?_
              show Go _ _ _ _ T318 (mkF m 165 #[.val (.ref a), .val (.ref am), .val (.int (2 : Int32)), .val (.ref a295), .val (.int (6 : Int32)), .val (.int (4 : Int32)), .val (.int (2 : Int32)), .val (.int (f 2)), .val (.int (f 3))] []) _ _ _
              refine Go.iload X318 hx (hb hby d_add44_165) rfl ?_
              refine Go.aloadN X318 hx (hb hby d_add44_167) rfl rfl ?_
              have F319 := (Fld.other W318 (Fld.other W317 F311 (Or.inl ne_a_a295)) (Or.inl ne_a_a295))
              refine Go.getF X318 hx hZ hown (w31 hw) Via.refl e318 F319 (hb hby d_add44_168) ?_
              intro T320 X320 e320
              show Go _ _ _ _ T320 (mkF m 171 #[.val (.ref a), .val (.ref am), .val (.int (2 : Int32)), .val (.ref a295), .val (.int (6 : Int32)), .val (.int (4 : Int32)), .val (.int (2 : Int32)), .val (.int (f 2)), .val (.int (f 3))] [(.int (4 : Int32)), (.int (4 : Int32))]) _ _ _
              refine Go.icmpNo X320 hx (hb hby d_add44_171) (XT.ii_lt_f (by decide)) ?_
              show Go _ _ _ _ T320 (mkF m 174 #[.val (.ref a), .val (.ref am), .val (.int (2 : Int32)), .val (.ref a295), .val (.int (6 : Int32)), .val (.int (4 : Int32)), .val (.int (2 : Int32)), .val (.int (f 2)), .val (.int (f 3))] []) _ _ _
              refine Go.iload X320 hx (hb hby d_add44_174) rfl ?_
              refine Go.iloadN X320 hx (hb hby d_add44_176) rfl ?_
              refine Go.icmpYes X320 hx (hb hby d_add44_177) (XT.ii_ge_t (by decide)) (pc' := 309) (by decide) (by decide) ?_
              show Go _ _ _ _ T320 (mkF m 309 #[.val (.ref a), .val (.ref am), .val (.int (2 : Int32)), .val (.ref a295), .val (.int (6 : Int32)), .val (.int (4 : Int32)), .val (.int (2 : Int32)), .val (.int (f 2)), .val (.int (f 3))] []) _ _ _
              refine Go.aloadN X320 hx (hb hby d_add44_309) rfl rfl ?_
              refine Go.aloadN X320 hx (hb hby d_add44_310) rfl rfl ?_
              have F321 := (Fld.other W318 (Fld.other W317 F313 (Or.inl ne_a_a295)) (Or.inl ne_a_a295))
              have F322 := (Exa.wr W318 (Exa.wr W317 (Exa.wr W310 (Exa.wr W309 (Exa.wr W301 (Exa.wr W300 (Exa.ext E295 f0)))))))
              refine Go.putF X320 hx hZ hown (w19 hw) Via.refl e320 F321 F322 (Or.inl (w20 hw)) (w9 hw) (ty := (.array .int)) (by decide) rfl rfl (hb hby d_add44_311) ?_
              intro T323 h323 X323 e323 W323
              have N323 := Fr.snoc X323 N318 f1
              have Z323 : n0 ≤ h323.size := by rw [Wr.size W323]; exact Z318
              have B323 : h0.size ≤ h323.size := by rw [Wr.size W323]; exact B318
              show Go _ _ _ _ T323 (mkF m 314 #[.val (.ref a), .val (.ref am), .val (.int (2 : Int32)), .val (.ref a295), .val (.int (6 : Int32)), .val (.int (4 : Int32)), .val (.int (2 : Int32)), .val (.int (f 2)), .val (.int (f 3))] []) _ _ _
              refine Go.aloadN X323 hx (hb hby d_add44_314) rfl rfl ?_
              refine Go.iload X323 hx (hb hby d_add44_315) rfl ?_
              have F324 := (Fld.other W323 F319 (Or.inr (slot_ne (a0 := a0) (Or.inl (w32 hw)) (Or.inl (w20 hw)) (t := .int) (t' := (.array .int)) (by decide) (by decide) (by decide))))
              refine Go.putF X323 hx hZ hown (w31 hw) Via.refl e323 F324 (Exa.wr W323 F322) (Or.inl (w32 hw)) (w9 hw) (ty := .int) (by decide) rfl rfl (hb hby d_add44_317) ?_
              intro T325 h325 X325 e325 W325
              have N325 := Fr.snoc X325 N323 f1
              have Z325 : n0 ≤ h325.size := by rw [Wr.size W325]; exact Z323
              have B325 : h0.size ≤ h325.size := by rw [Wr.size W325]; exact B323
              show Go _ _ _ _ T325 (mkF m 320 #[.val (.ref a), .val (.ref am), .val (.int (2 : Int32)), .val (.ref a295), .val (.int (6 : Int32)), .val (.int (4 : Int32)), .val (.int (2 : Int32)), .val (.int (f 2)), .val (.int (f 3))] []) _ _ _
              refine Go.ret0 X325 hx hlk hret (hb hby d_add44_320) (by decide) (by decide) ?_
              rw [e325]
              have F326 := (Af.other W325 (Af.other W323 A318 (Ne.symm ne_a_a295)) (Ne.symm ne_a_a295))
              have F328 := (Fld.other W325 (Fld.same W323 F321) (Or.inr (slot_ne (a0 := a0) (Or.inl (w20 hw)) (Or.inl (w32 hw)) (t := (.array .int)) (t' := .int) (by decide) (by decide) (by decide))))
              have AC327 : Af Z h325 a295 k295 .int 6 (fun i => Value.int ((updI (updI (updI (updI (updI (updI (fun _ => (0 : Int32)) 0 x) 1 y) 2 (f 0)) 3 (f 1)) 4 (f 2)) 5 (f 3)) i)) := Af.congr F326 (fun i hi => by have hi' : i < 6 := hi; rcases lt_6 hi' with rfl | rfl | rfl | rfl | rfl | rfl <;> first | (simp [updI, updV]; done) | rfl)
              have fin327 := fin_add44_327 f x y M f12 f13 q0 q1 q2 q3 hM' c293 c299 c308
              exact ⟨a295, rfl, N325, (Keep.wr (Keep.wr (Keep.wr (Keep.wr (Keep.wr (Keep.wr (Keep.wr (Keep.wr (Keep.ext (Keep.refl _ _) E295) W300 (Or.inr y_a295)) W301 (Or.inr y_a295)) W309 (Or.inr y_a295)) W310 (Or.inr y_a295)) W317 (Or.inr y_a295)) W318 (Or.inr y_a295)) W323 (Or.inl (List.mem_of_getElem? (i := 0) rfl))) W325 (Or.inl (List.mem_of_getElem? (i := 0) rfl))), (Exa.wr W325 (Exa.wr W323 F322)), ⟨_, _, 6, 6, _, F328, (Fld.same W325 F324), AC327, ne_a_a295, (fun _ => g_a295), (Or.inr (Or.inr (Or.inr (Or.inr (Or.inr (Or.inr (Or.inr ⟨(k_up f9 (by decide)), rfl, rfl, rfl⟩))))))), fin327.1, fin327.2⟩⟩
          · refine Go.icmpNo X307 hx (hb hby d_add44_265) (XT.ii_gt_f c308) ?_
            show Go _ _ _ _ T307 (mkF m 268 #[.val (.ref a), .val (.ref am), .val (.int (2 : Int32)), .val (.ref a295), .val (.int (2 : Int32)), .val (.int (2 : Int32)), .val (.int (2 : Int32)), .val (.int (f 0)), .val (.int (f 1))] []) _ _ _
            as_aux_lemma =>
              refine Go.aloadN X307 hx (hb hby d_add44_268) rfl rfl ?_
              refine Go.iload X307 hx (hb hby d_add44_269) rfl ?_
              refine Go.iconst X307 hx (hb hby d_add44_271) ?_
              show Go _ _ _ _ T307 (mkF m 272 #[.val (.ref a), .val (.ref am), .val (.int (2 : Int32)), .val (.ref a295), .val (.int (2 : Int32)), .val (.int (2 : Int32)), .val (.int (2 : Int32)), .val (.int (f 0)), .val (.int (f 1))] [(.int (1 : Int32)), (.int (2 : Int32)), (.ref a295)]) _ _ _
              refine Go.isub X307 hx (hb hby d_add44_272) ?_
              show Go _ _ _ _ T307 (mkF m 273 #[.val (.ref a), .val (.ref am), .val (.int (2 : Int32)), .val (.ref a295), .val (.int (2 : Int32)), .val (.int (2 : Int32)), .val (.int (2 : Int32)), .val (.int (f 0)), .val (.int (f 1))] [(.int (1 : Int32)), (.ref a295)]) _ _ _
              refine Go.aloadN X307 hx (hb hby d_add44_273) rfl rfl ?_
              refine Go.iload X307 hx (hb hby d_add44_274) rfl ?_
              refine Go.iconst X307 hx (hb hby d_add44_276) ?_
              show Go _ _ _ _ T307 (mkF m 277 #[.val (.ref a), .val (.ref am), .val (.int (2 : Int32)), .val (.ref a295), .val (.int (2 : Int32)), .val (.int (2 : Int32)), .val (.int (2 : Int32)), .val (.int (f 0)), .val (.int (f 1))] [(.int (1 : Int32)), (.int (2 : Int32)), (.ref a295), (.int (1 : Int32)), (.ref a295)]) _ _ _
              refine Go.isub X307 hx (hb hby d_add44_277) ?_
              show Go _ _ _ _ T307 (mkF m 278 #[.val (.ref a), .val (.ref am), .val (.int (2 : Int32)), .val (.ref a295), .val (.int (2 : Int32)), .val (.int (2 : Int32)), .val (.int (2 : Int32)), .val (.int (f 0)), .val (.int (f 1))] [(.int (1 : Int32)), (.ref a295), (.int (1 : Int32)), (.ref a295)]) _ _ _
              refine Go.iaload X307 hx hZ e307 A301 (by decide) (by decide) (hb hby d_add44_278) ?_
              show Go _ _ _ _ T307 (mkF m 279 #[.val (.ref a), .val (.ref am), .val (.int (2 : Int32)), .val (.ref a295), .val (.int (2 : Int32)), .val (.int (2 : Int32)), .val (.int (2 : Int32)), .val (.int (f 0)), .val (.int (f 1))] [(.int y), (.int (1 : Int32)), (.ref a295)]) _ _ _
              refine Go.iload X307 hx (hb hby d_add44_279) rfl ?_
              refine Go.callS (W := 2) (argsL := [(.int y), (.int (f 1))]) (rest := [(.int (1 : Int32)), (.ref a295)]) X307 hx hZ hown (w33 hw) (w6 hw) (w3 hw) (w7 hw) (by decide) (rm_max l Z a0 hw y ((f 1)) h301) e307 (lenOf pd_0 rfl) (hb hby d_add44_281) (by rw [hml]; rfl) rfl (Nat.le_of_eq rfl) (by decide) (by decide) (by decide) (by decide) ?_
              intro v332 T332 L332 X332 q332
              obtain ⟨rfl, rfl, e332⟩ := q332
              have N332 := Fr.app N301 (Fr.nil n0)
              show Go _ _ _ _ T332 (mkF m 284 #[.val (.ref a), .val (.ref am), .val (.int (2 : Int32)), .val (.ref a295), .val (.int (2 : Int32)), .val (.int (2 : Int32)), .val (.int (2 : Int32)), .val (.int (f 0)), .val (.int (f 1))] [(.int (F_max y (f 1))), (.int (1 : Int32)), (.ref a295)]) _ _ _
              refine Go.iastore X332 hx hZ e332 A301 (by decide) (by decide) (hb hby d_add44_284) ?_
              intro T333 h333 X333 e333 W333 A333
              have N333 := Fr.snoc X333 N332 g_a295
              have Z333 : n0 ≤ h333.size := by rw [Wr.size W333]; exact Z301
              have B333 : h0.size ≤ h333.size := by rw [Wr.size W333]; exact B301
              show Go _ _ _ _ T333 (mkF m 285 #[.val (.ref a), .val (.ref am), .val (.int (2 : Int32)), .val (.ref a295), .val (.int (2 : Int32)), .val (.int (2 : Int32)), .val (.int (2 : Int32)), .val (.int (f 0)), .val (.int (f 1))] []) _ _ _
              refine Go.goto X333 hx (hb hby d_add44_285) (pc' := 306) (by decide) (by decide) ?_
              show Go _ _ _ _ T333 (mkF m 306 #[.val (.ref a), .val (.ref am), .val (.int (2 : Int32)), .val (.ref a295), .val (.int (2 : Int32)), .val (.int (2 : Int32)), .val (.int (2 : Int32)), .val (.int (f 0)), .val (.int (f 1))] []) _ _ _
              refine Go.goto X333 hx (hb hby d_add44_306) (pc' := 165) (by decide) (by decide) ?_
              show Go _ _ _ _ T333 (mkF m 165 #[.val (.ref a), .val (.ref am), .val (.int (2 : Int32)), .val (.ref a295), .val (.int (2 : Int32)), .val (.int (2 : Int32)), .val (.int (2 : Int32)), .val (.int (f 0)), .val (.int (f 1))] []) _ _ _
              refine Go.iload X333 hx (hb hby d_add44_165) rfl ?_
              refine Go.aloadN X333 hx (hb hby d_add44_167) rfl rfl ?_
              refine Go.getF X333 hx hZ hown (w31 hw) Via.refl e333 (Fld.other W333 F302 (Or.inl ne_a_a295)) (hb hby d_add44_168) ?_
              intro T334 X334 e334
              show Go _ _ _ _ T334 (mkF m 171 #[.val (.ref a), .val (.ref am), .val (.int (2 : Int32)), .val (.ref a295), .val (.int (2 : Int32)), .val (.int (2 : Int32)), .val (.int (2 : Int32)), .val (.int (f 0)), .val (.int (f 1))] [(.int (4 : Int32)), (.int (2 : Int32))]) _ _ _
              refine Go.icmpYes X334 hx (hb hby d_add44_171) (XT.ii_lt_t (by decide)) (pc' := 180) (by decide) (by decide) ?_
              show Go _ _ _ _ T334 (mkF m 180 #[.val (.ref a), .val (.ref am), .val (.int (2 : Int32)), .val (.ref a295), .val (.int (2 : Int32)), .val (.int (2 : Int32)), .val (.int (2 : Int32)), .val (.int (f 0)), .val (.int (f 1))] []) _ _ _
              refine Go.iload X334 hx (hb hby d_add44_180) rfl ?_
              refine Go.iloadN X334 hx (hb hby d_add44_182) rfl ?_
              refine Go.icmpYes X334 hx (hb hby d_add44_183) (XT.ii_eq_t (by decide)) (pc' := 209) (by decide) (by decide) ?_
              show Go _ _ _ _ T334 (mkF m 209 #[.val (.ref a), .val (.ref am), .val (.int (2 : Int32)), .val (.ref a295), .val (.int (2 : Int32)), .val (.int (2 : Int32)), .val (.int (2 : Int32)), .val (.int (f 0)), .val (.int (f 1))] []) _ _ _
              refine Go.aloadN X334 hx (hb hby d_add44_209) rfl rfl ?_
              refine Go.getF X334 hx hZ hown (w19 hw) Via.refl e334 (Fld.other W333 F304 (Or.inl ne_a_a295)) (hb hby d_add44_210) ?_
              intro T335 X335 e335
              show Go _ _ _ _ T335 (mkF m 213 #[.val (.ref a), .val (.ref am), .val (.int (2 : Int32)), .val (.ref a295), .val (.int (2 : Int32)), .val (.int (2 : Int32)), .val (.int (2 : Int32)), .val (.int (f 0)), .val (.int (f 1))] [(.ref aB)]) _ _ _
              refine Go.iload X335 hx (hb hby d_add44_213) rfl ?_
              refine Go.iaload X335 hx hZ e335 (Af.other W333 F306 ne_aB_a295) (by decide) (by decide) (hb hby d_add44_215) ?_
              show Go _ _ _ _ T335 (mkF m 216 #[.val (.ref a), .val (.ref am), .val (.int (2 : Int32)), .val (.ref a295), .val (.int (2 : Int32)), .val (.int (2 : Int32)), .val (.int (2 : Int32)), .val (.int (f 0)), .val (.int (f 1))] [(.int (f 2))]) _ _ _
              refine Go.istore X335 hx (hb hby d_add44_216) (l' := #[.val (.ref a), .val (.ref am), .val (.int (2 : Int32)), .val (.ref a295), .val (.int (2 : Int32)), .val (.int (2 : Int32)), .val (.int (2 : Int32)), .val (.int (f 2)), .val (.int (f 1))]) rfl ?_
              refine Go.aloadN X335 hx (hb hby d_add44_218) rfl rfl ?_
              refine Go.getF X335 hx hZ hown (w19 hw) Via.refl e335 (Fld.other W333 F304 (Or.inl ne_a_a295)) (hb hby d_add44_219) ?_
              intro T336 X336 e336
              show Go _ _ _ _ T336 (mkF m 222 #[.val (.ref a), .val (.ref am), .val (.int (2 : Int32)), .val (.ref a295), .val (.int (2 : Int32)), .val (.int (2 : Int32)), .val (.int (2 : Int32)), .val (.int (f 2)), .val (.int (f 1))] [(.ref aB)]) _ _ _
              refine Go.iload X336 hx (hb hby d_add44_222) rfl ?_
              refine Go.iconst X336 hx (hb hby d_add44_224) ?_
              show Go _ _ _ _ T336 (mkF m 225 #[.val (.ref a), .val (.ref am), .val (.int (2 : Int32)), .val (.ref a295), .val (.int (2 : Int32)), .val (.int (2 : Int32)), .val (.int (2 : Int32)), .val (.int (f 2)), .val (.int (f 1))] [(.int (1 : Int32)), (.int (2 : Int32)), (.ref aB)]) _ _ _
              refine Go.iadd X336 hx (hb hby d_add44_225) ?_
              show Go _ _ _ _ T336 (mkF m 226 #[.val (.ref a), .val (.ref am), .val (.int (2 : Int32)), .val (.ref a295), .val (.int (2 : Int32)), .val (.int (2 : Int32)), .val (.int (2 : Int32)), .val (.int (f 2)), .val (.int (f 1))] [(.int (3 : Int32)), (.ref aB)]) _ _ _
              refine Go.iaload X336 hx hZ e336 (Af.other W333 F306 ne_aB_a295) (by decide) (by decide) (hb hby d_add44_226) ?_
              show Go _ _ _ _ T336 (mkF m 227 #[.val (.ref a), .val (.ref am), .val (.int (2 : Int32)), .val (.ref a295), .val (.int (2 : Int32)), .val (.int (2 : Int32)), .val (.int (2 : Int32)), .val (.int (f 2)), .val (.int (f 1))] [(.int (f 3))]) _ _ _
              refine Go.istore X336 hx (hb hby d_add44_227) (l' := #[.val (.ref a), .val (.ref am), .val (.int (2 : Int32)), .val (.ref a295), .val (.int (2 : Int32)), .val (.int (2 : Int32)), .val (.int (2 : Int32)), .val (.int (f 2)), .val (.int (f 3))]) rfl ?_
              refine Go.iinc X336 hx (hb hby d_add44_229) rfl (l' := #[.val (.ref a), .val (.ref am), .val (.int (2 : Int32)), .val (.ref a295), .val (.int (2 : Int32)), .val (.int (4 : Int32)), .val (.int (2 : Int32)), .val (.int (f 2)), .val (.int (f 3))]) rfl ?_
              show Go _ _ _ _ T336 (mkF m 232 #[.val (.ref a), .val (.ref am), .val (.int (2 : Int32)), .val (.ref a295), .val (.int (2 : Int32)), .val (.int (4 : Int32)), .val (.int (2 : Int32)), .val (.int (f 2)), .val (.int (f 3))] []) _ _ _
              refine Go.goto X336 hx (hb hby d_add44_232) (pc' := 252) (by decide) (by decide) ?_
              show Go _ _ _ _ T336 (mkF m 252 #[.val (.ref a), .val (.ref am), .val (.int (2 : Int32)), .val (.ref a295), .val (.int (2 : Int32)), .val (.int (4 : Int32)), .val (.int (2 : Int32)), .val (.int (f 2)), .val (.int (f 3))] []) _ _ _
              refine Go.iload X336 hx (hb hby d_add44_252) rfl ?_
              refine Go.ifNo X336 hx (hb hby d_add44_254) (XT.i0_le_f (by decide)) ?_
              show Go _ _ _ _ T336 (mkF m 257 #[.val (.ref a), .val (.ref am), .val (.int (2 : Int32)), .val (.ref a295), .val (.int (2 : Int32)), .val (.int (4 : Int32)), .val (.int (2 : Int32)), .val (.int (f 2)), .val (.int (f 3))] []) _ _ _
              refine Go.iload X336 hx (hb hby d_add44_257) rfl ?_
              refine Go.aloadN X336 hx (hb hby d_add44_259) rfl rfl ?_
              refine Go.iload X336 hx (hb hby d_add44_260) rfl ?_
              refine Go.iconst X336 hx (hb hby d_add44_262) ?_
              show Go _ _ _ _ T336 (mkF m 263 #[.val (.ref a), .val (.ref am), .val (.int (2 : Int32)), .val (.ref a295), .val (.int (2 : Int32)), .val (.int (4 : Int32)), .val (.int (2 : Int32)), .val (.int (f 2)), .val (.int (f 3))] [(.int (1 : Int32)), (.int (2 : Int32)), (.ref a295), (.int (f 2))]) _ _ _
              refine Go.isub X336 hx (hb hby d_add44_263) ?_
              show Go _ _ _ _ T336 (mkF m 264 #[.val (.ref a), .val (.ref am), .val (.int (2 : Int32)), .val (.ref a295), .val (.int (2 : Int32)), .val (.int (4 : Int32)), .val (.int (2 : Int32)), .val (.int (f 2)), .val (.int (f 3))] [(.int (1 : Int32)), (.ref a295), (.int (f 2))]) _ _ _
              refine Go.iaload X336 hx hZ e336 A333 (by decide) (by decide) (hb hby d_add44_264) ?_
              show Go _ _ _ _ T336 (mkF m 265 #[.val (.ref a), .val (.ref am), .val (.int (2 : Int32)), .val (.ref a295), .val (.int (2 : Int32)), .val (.int (4 : Int32)), .val (.int (2 : Int32)), .val (.int (f 2)), .val (.int (f 3))] [(.int (F_max y (f 1))), (.int (f 2))]) _ _ _
              rcases Decidable.em ((F_max y (f 1)) < (f 2)) with c337 | c337
              · refine Go.icmpYes X336 hx (hb hby d_add44_265) (XT.ii_gt_t c337) (pc' := 288) (by decide) (by decide) ?_
                show Go _ _ _ _ T336 (mkF m 288 #[.val (.ref a), .val (.ref am), .val (.int (2 : Int32)), .val (.ref a295), .val (.int (2 : Int32)), .val (.int (4 : Int32)), .val (.int (2 : Int32)), .val (.int (f 2)), .val (.int (f 3))] []) _ _ _
                as_aux_lemma =>
                  refine Go.aloadN X336 hx (hb hby d_add44_288) rfl rfl ?_
                  refine Go.iload X336 hx (hb hby d_add44_289) rfl ?_
                  refine Go.iinc X336 hx (hb hby d_add44_291) rfl (l' := #[.val (.ref a), .val (.ref am), .val (.int (2 : Int32)), .val (.ref a295), .val (.int (3 : Int32)), .val (.int (4 : Int32)), .val (.int (2 : Int32)), .val (.int (f 2)), .val (.int (f 3))]) rfl ?_
                  show Go _ _ _ _ T336 (mkF m 294 #[.val (.ref a), .val (.ref am), .val (.int (2 : Int32)), .val (.ref a295), .val (.int (3 : Int32)), .val (.int (4 : Int32)), .val (.int (2 : Int32)), .val (.int (f 2)), .val (.int (f 3))] [(.int (2 : Int32)), (.ref a295)]) _ _ _
                  refine Go.iload X336 hx (hb hby d_add44_294) rfl ?_
                  refine Go.iastore X336 hx hZ e336 A333 (by decide) (by decide) (hb hby d_add44_296) ?_
                  intro T338 h338 X338 e338 W338 A338
                  have N338 := Fr.snoc X338 N333 g_a295
                  have Z338 : n0 ≤ h338.size := by rw [Wr.size W338]; exact Z333
                  have B338 : h0.size ≤ h338.size := by rw [Wr.size W338]; exact B333
                  show Go _ _ _ _ T338 (mkF m 297 #[.val (.ref a), .val (.ref am), .val (.int (2 : Int32)), .val (.ref a295), .val (.int (3 : Int32)), .val (.int (4 : Int32)), .val (.int (2 : Int32)), .val (.int (f 2)), .val (.int (f 3))] []) _ _ _
                  refine Go.aloadN X338 hx (hb hby d_add44_297) rfl rfl ?_
                  refine Go.iload X338 hx (hb hby d_add44_298) rfl ?_
                  refine Go.iinc X338 hx (hb hby d_add44_300) rfl (l' := #[.val (.ref a), .val (.ref am), .val (.int (2 : Int32)), .val (.ref a295), .val (.int (4 : Int32)), .val (.int (4 : Int32)), .val (.int (2 : Int32)), .val (.int (f 2)), .val (.int (f 3))]) rfl ?_
                  show Go _ _ _ _ T338 (mkF m 303 #[.val (.ref a), .val (.ref am), .val (.int (2 : Int32)), .val (.ref a295), .val (.int (4 : Int32)), .val (.int (4 : Int32)), .val (.int (2 : Int32)), .val (.int (f 2)), .val (.int (f 3))] [(.int (3 : Int32)), (.ref a295)]) _ _ _
                  refine Go.iload X338 hx (hb hby d_add44_303) rfl ?_
                  refine Go.iastore X338 hx hZ e338 A338 (by decide) (by decide) (hb hby d_add44_305) ?_
                  intro T339 h339 X339 e339 W339 A339
                  have N339 := Fr.snoc X339 N338 g_a295
                  have Z339 : n0 ≤ h339.size := by rw [Wr.size W339]; exact Z338
                  have B339 : h0.size ≤ h339.size := by rw [Wr.size W339]; exact B338
                  show Go _ _ _ _ T339 (mkF m 306 #[.val (.ref a), .val (.ref am), .val (.int (2 : Int32)), .val (.ref a295), .val (.int (4 : Int32)), .val (.int (4 : Int32)), .val (.int (2 : Int32)), .val (.int (f 2)), .val (.int (f 3))] []) _ _ _
                  refine Go.goto X339 hx (hb hby d_add44_306) (pc' := 165) (by decide) (by decide) ?_
                  show Go _ _ _ _ T339 (mkF m 165 #[.val (.ref a), .val (.ref am), .val (.int (2 : Int32)), .val (.ref a295), .val (.int (4 : Int32)), .val (.int (4 : Int32)), .val (.int (2 : Int32)), .val (.int (f 2)), .val (.int (f 3))] []) _ _ _
                  refine Go.iload X339 hx (hb hby d_add44_165) rfl ?_
                  refine Go.aloadN X339 hx (hb hby d_add44_167) rfl rfl ?_
                  have F340 := (Fld.other W339 (Fld.other W338 (Fld.other W333 F302 (Or.inl ne_a_a295)) (Or.inl ne_a_a295)) (Or.inl ne_a_a295))
                  refine Go.getF X339 hx hZ hown (w31 hw) Via.refl e339 F340 (hb hby d_add44_168) ?_
                  intro T341 X341 e341
                  show Go _ _ _ _ T341 (mkF m 171 #[.val (.ref a), .val (.ref am), .val (.int (2 : Int32)), .val (.ref a295), .val (.int (4 : Int32)), .val (.int (4 : Int32)), .val (.int (2 : Int32)), .val (.int (f 2)), .val (.int (f 3))] [(.int (4 : Int32)), (.int (4 : Int32))]) _ _ _
                  refine Go.icmpNo X341 hx (hb hby d_add44_171) (XT.ii_lt_f (by decide)) ?_
                  show Go _ _ _ _ T341 (mkF m 174 #[.val (.ref a), .val (.ref am), .val (.int (2 : Int32)), .val (.ref a295), .val (.int (4 : Int32)), .val (.int (4 : Int32)), .val (.int (2 : Int32)), .val (.int (f 2)), .val (.int (f 3))] []) _ _ _
                  refine Go.iload X341 hx (hb hby d_add44_174) rfl ?_
                  refine Go.iloadN X341 hx (hb hby d_add44_176) rfl ?_
                  refine Go.icmpYes X341 hx (hb hby d_add44_177) (XT.ii_ge_t (by decide)) (pc' := 309) (by decide) (by decide) ?_
                  show Go _ _ _ _ T341 (mkF m 309 #[.val (.ref a), .val (.ref am), .val (.int (2 : Int32)), .val (.ref a295), .val (.int (4 : Int32)), .val (.int (4 : Int32)), .val (.int (2 : Int32)), .val (.int (f 2)), .val (.int (f 3))] []) _ _ _
                  refine Go.aloadN X341 hx (hb hby d_add44_309) rfl rfl ?_
                  refine Go.aloadN X341 hx (hb hby d_add44_310) rfl rfl ?_
                  have F342 := (Fld.other W339 (Fld.other W338 (Fld.other W333 F304 (Or.inl ne_a_a295)) (Or.inl ne_a_a295)) (Or.inl ne_a_a295))
                  have F343 := (Exa.wr W339 (Exa.wr W338 (Exa.wr W333 (Exa.wr W301 (Exa.wr W300 (Exa.ext E295 f0))))))
                  refine Go.putF X341 hx hZ hown (w19 hw) Via.refl e341 F342 F343 (Or.inl (w20 hw)) (w9 hw) (ty := (.array .int)) (by decide) rfl rfl (hb hby d_add44_311) ?_
                  intro T344 h344 X344 e344 W344
                  have N344 := Fr.snoc X344 N339 f1
                  have Z344 : n0 ≤ h344.size := by rw [Wr.size W344]; exact Z339
                  have B344 : h0.size ≤ h344.size := by rw [Wr.size W344]; exact B339
                  show Go _ _ _ _ T344 (mkF m 314 #[.val (.ref a), .val (.ref am), .val (.int (2 : Int32)), .val (.ref a295), .val (.int (4 : Int32)), .val (.int (4 : Int32)), .val (.int (2 : Int32)), .val (.int (f 2)), .val (.int (f 3))] []) _ _ _
                  refine Go.aloadN X344 hx (hb hby d_add44_314) rfl rfl ?_
                  refine Go.iload X344 hx (hb hby d_add44_315) rfl ?_
                  have F345 := (Fld.other W344 F340 (Or.inr (slot_ne (a0 := a0) (Or.inl (w32 hw)) (Or.inl (w20 hw)) (t := .int) (t' := (.array .int)) (by decide) (by decide) (by decide))))
                  refine Go.putF X344 hx hZ hown (w31 hw) Via.refl e344 F345 (Exa.wr W344 F343) (Or.inl (w32 hw)) (w9 hw) (ty := .int) (by decide) rfl rfl (hb hby d_add44_317) ?_
                  intro T346 h346 X346 e346 W346
                  have N346 := Fr.snoc X346 N344 f1
                  have Z346 : n0 ≤ h346.size := by rw [Wr.size W346]; exact Z344
                  have B346 : h0.size ≤ h346.size := by rw [Wr.size W346]; exact B344
                  show Go _ _ _ _ T346 (mkF m 320 #[.val (.ref a), .val (.ref am), .val (.int (2 : Int32)), .val (.ref a295), .val (.int (4 : Int32)), .val (.int (4 : Int32)), .val (.int (2 : Int32)), .val (.int (f 2)), .val (.int (f 3))] []) _ _ _
                  refine Go.ret0 X346 hx hlk hret (hb hby d_add44_320) (by decide) (by decide) ?_
                  rw [e346]
                  have F347 := (Af.other W346 (Af.other W344 A339 (Ne.symm ne_a_a295)) (Ne.symm ne_a_a295))
                  have F349 := (Fld.other W346 (Fld.same W344 F342) (Or.inr (slot_ne (a0 := a0) (Or.inl (w20 hw)) (Or.inl (w32 hw)) (t := (.array .int)) (t' := .int) (by decide) (by decide) (by decide))))
                  have AC348 : Af Z h346 a295 k295 .int 6 (fun i => Value.int ((updI (updI (updI (updI (updI (updI (fun _ => (0 : Int32)) 0 x) 1 (F_max y (f 1))) 2 (f 2)) 3 (f 3)) 4 (0 : Int32)) 5 (0 : Int32)) i)) := Af.congr F347 (fun i hi => by have hi' : i < 6 := hi; rcases lt_6 hi' with rfl | rfl | rfl | rfl | rfl | rfl <;> first | (simp [updI, updV]; done) | rfl)
                  have fin348 := fin_add44_348 f x y M f12 f13 q0 q1 q2 q3 hM' c293 c299 c308 c337
                  exact ⟨a295, rfl, N346, (Keep.wr (Keep.wr (Keep.wr (Keep.wr (Keep.wr (Keep.wr (Keep.wr (Keep.ext (Keep.refl _ _) E295) W300 (Or.inr y_a295)) W301 (Or.inr y_a295)) W333 (Or.inr y_a295)) W338 (Or.inr y_a295)) W339 (Or.inr y_a295)) W344 (Or.inl (List.mem_of_getElem? (i := 0) rfl))) W346 (Or.inl (List.mem_of_getElem? (i := 0) rfl))), (Exa.wr W346 (Exa.wr W344 F343)), ⟨_, _, 6, 4, _, F349, (Fld.same W346 F345), AC348, ne_a_a295, (fun _ => g_a295), (Or.inr (Or.inr (Or.inr (Or.inr (Or.inr (Or.inr (Or.inl ⟨(k_up f9 (by decide)), rfl, rfl, rfl⟩))))))), fin348.1, fin348.2⟩⟩
              · refine Go.icmpNo X336 hx (hb hby d_add44_265) (XT.ii_gt_f c337) ?_
                show Go _ _ _ _ T336 (mkF m 268 #[.val (.ref a), .val (.ref am), .val (.int (2 : Int32)), .val (.ref a295), .val (.int (2 : Int32)), .val (.int (4 : Int32)), .val (.int (2 : Int32)), .val (.int (f 2)), .val (.int (f 3))] []) _ _ _
                as_aux_lemma =>
                  refine Go.aloadN X336 hx (hb hby d_add44_268) rfl rfl ?_
                  refine Go.iload X336 hx (hb hby d_add44_269) rfl ?_
                  refine Go.iconst X336 hx (hb hby d_add44_271) ?_
                  show Go _ _ _ _ T336 (mkF m 272 #[.val (.ref a), .val (.ref am), .val (.int (2 : Int32)), .val (.ref a295), .val (.int (2 : Int32)), .val (.int (4 : Int32)), .val (.int (2 : Int32)), .val (.int (f 2)), .val (.int (f 3))] [(.int (1 : Int32)), (.int (2 : Int32)), (.ref a295)]) _ _ _
                  refine Go.isub X336 hx (hb hby d_add44_272) ?_
                  show Go _ _ _ _ T336 (mkF m 273 #[.val (.ref a), .val (.ref am), .val (.int (2 : Int32)), .val (.ref a295), .val (.int (2 : Int32)), .val (.int (4 : Int32)), .val (.int (2 : Int32)), .val (.int (f 2)), .val (.int (f 3))] [(.int (1 : Int32)), (.ref a295)]) _ _ _
                  refine Go.aloadN X336 hx (hb hby d_add44_273) rfl rfl ?_
                  refine Go.iload X336 hx (hb hby d_add44_274) rfl ?_
                  refine Go.iconst X336 hx (hb hby d_add44_276) ?_
                  show Go _ _ _ _ T336 (mkF m 277 #[.val (.ref a), .val (.ref am), .val (.int (2 : Int32)), .val (.ref a295), .val (.int (2 : Int32)), .val (.int (4 : Int32)), .val (.int (2 : Int32)), .val (.int (f 2)), .val (.int (f 3))] [(.int (1 : Int32)), (.int (2 : Int32)), (.ref a295), (.int (1 : Int32)), (.ref a295)]) _ _ _
                  refine Go.isub X336 hx (hb hby d_add44_277) ?_
                  show Go _ _ _ _ T336 (mkF m 278 #[.val (.ref a), .val (.ref am), .val (.int (2 : Int32)), .val (.ref a295), .val (.int (2 : Int32)), .val (.int (4 : Int32)), .val (.int (2 : Int32)), .val (.int (f 2)), .val (.int (f 3))] [(.int (1 : Int32)), (.ref a295), (.int (1 : Int32)), (.ref a295)]) _ _ _
                  refine Go.iaload X336 hx hZ e336 A333 (by decide) (by decide) (hb hby d_add44_278) ?_
                  show Go _ _ _ _ T336 (mkF m 279 #[.val (.ref a), .val (.ref am), .val (.int (2 : Int32)), .val (.ref a295), .val (.int (2 : Int32)), .val (.int (4 : Int32)), .val (.int (2 : Int32)), .val (.int (f 2)), .val (.int (f 3))] [(.int (F_max y (f 1))), (.int (1 : Int32)), (.ref a295)]) _ _ _
                  refine Go.iload X336 hx (hb hby d_add44_279) rfl ?_
                  refine Go.callS (W := 2) (argsL := [(.int (F_max y (f 1))), (.int (f 3))]) (rest := [(.int (1 : Int32)), (.ref a295)]) X336 hx hZ hown (w33 hw) (w6 hw) (w3 hw) (w7 hw) (by decide) (rm_max l Z a0 hw ((F_max y (f 1))) ((f 3)) h333) e336 (lenOf pd_0 rfl) (hb hby d_add44_281) (by rw [hml]; rfl) rfl (Nat.le_of_eq rfl) (by decide) (by decide) (by decide) (by decide) ?_
                  intro v355 T355 L355 X355 q355
                  obtain ⟨rfl, rfl, e355⟩ := q355
                  have N355 := Fr.app N333 (Fr.nil n0)
                  show Go _ _ _ _ T355 (mkF m 284 #[.val (.ref a), .val (.ref am), .val (.int (2 : Int32)), .val (.ref a295), .val (.int (2 : Int32)), .val (.int (4 : Int32)), .val (.int (2 : Int32)), .val (.int (f 2)), .val (.int (f 3))] [(.int (F_max (F_max y (f 1)) (f 3))), (.int (1 : Int32)), (.ref a295)]) _ _ _
                  refine Go.iastore X355 hx hZ e355 A333 (by decide) (by decide) (hb hby d_add44_284) ?_
                  intro T356 h356 X356 e356 W356 A356
                  have N356 := Fr.snoc X356 N355 g_a295
                  have Z356 : n0 ≤ h356.size := by rw [Wr.size W356]; exact Z333
                  have B356 : h0.size ≤ h356.size := by rw [Wr.size W356]; exact B333
                  show Go _ _ _ _ T356 (mkF m 285 #[.val (.ref a), .val (.ref am), .val (.int (2 : Int32)), .val (.ref a295), .val (.int (2 : Int32)), .val (.int (4 : Int32)), .val (.int (2 : Int32)), .val (.int (f 2)), .val (.int (f 3))] []) _ _ _
                  refine Go.goto X356 hx (hb hby d_add44_285) (pc' := 306) (by decide) (by decide) ?_
                  show Go _ _ _ _ T356 (mkF m 306 #[.val (.ref a), .val (.ref am), .val (.int (2 : Int32)), .val (.ref a295), .val (.int (2 : Int32)), .val (.int (4 : Int32)), .val (.int (2 : Int32)), .val (.int (f 2)), .val (.int (f 3))] []) _ _ _
                  refine Go.goto X356 hx (hb hby d_add44_306) (pc' := 165) (by decide) (by decide) ?_
                  show Go _ _ _ _ T356 (mkF m 165 #[.val (.ref a), .val (.ref am), .val (.int (2 : Int32)), .val (.ref a295), .val (.int (2 : Int32)), .val (.int (4 : Int32)), .val (.int (2 : Int32)), .val (.int (f 2)), .val (.int (f 3))] []) _ _ _
                  refine Go.iload X356 hx (hb hby d_add44_165) rfl ?_
                  refine Go.aloadN X356 hx (hb hby d_add44_167) rfl rfl ?_
                  have F357 := (Fld.other W356 (Fld.other W333 F302 (Or.inl ne_a_a295)) (Or.inl ne_a_a295))
                  refine Go.getF X356 hx hZ hown (w31 hw) Via.refl e356 F357 (hb hby d_add44_168) ?_
                  intro T358 X358 e358
                  show Go _ _ _ _ T358 (mkF m 171 #[.val (.ref a), .val (.ref am), .val (.int (2 : Int32)), .val (.ref a295), .val (.int (2 : Int32)), .val (.int (4 : Int32)), .val (.int (2 : Int32)), .val (.int (f 2)), .val (.int (f 3))] [(.int (4 : Int32)), (.int (4 : Int32))]) _ _ _
                  refine Go.icmpNo X358 hx (hb hby d_add44_171) (XT.ii_lt_f (by decide)) ?_
                  show Go _ _ _ _ T358 (mkF m 174 #[.val (.ref a), .val (.ref am), .val (.int (2 : Int32)), .val (.ref a295), .val (.int (2 : Int32)), .val (.int (4 : Int32)), .val (.int (2 : Int32)), .val (.int (f 2)), .val (.int (f 3))] []) _ _ _
                  refine Go.iload X358 hx (hb hby d_add44_174) rfl ?_
                  refine Go.iloadN X358 hx (hb hby d_add44_176) rfl ?_
                  refine Go.icmpYes X358 hx (hb hby d_add44_177) (XT.ii_ge_t (by decide)) (pc' := 309) (by decide) (by decide) ?_
                  show Go _ _ _ _ T358 (mkF m 309 #[.val (.ref a), .val (.ref am), .val (.int (2 : Int32)), .val (.ref a295), .val (.int (2 : Int32)), .val (.int (4 : Int32)), .val (.int (2 : Int32)), .val (.int (f 2)), .val (.int (f 3))] []) _ _ _
                  refine Go.aloadN X358 hx (hb hby d_add44_309) rfl rfl ?_
                  refine Go.aloadN X358 hx (hb hby d_add44_310) rfl rfl ?_
                  have F359 := (Fld.other W356 (Fld.other W333 F304 (Or.inl ne_a_a295)) (Or.inl ne_a_a295))
                  have F360 := (Exa.wr W356 (Exa.wr W333 (Exa.wr W301 (Exa.wr W300 (Exa.ext E295 f0)))))
                  refine Go.putF X358 hx hZ hown (w19 hw) Via.refl e358 F359 F360 (Or.inl (w20 hw)) (w9 hw) (ty := (.array .int)) (by decide) rfl rfl (hb hby d_add44_311) ?_
                  intro T361 h361 X361 e361 W361
                  have N361 := Fr.snoc X361 N356 f1
                  have Z361 : n0 ≤ h361.size := by rw [Wr.size W361]; exact Z356
                  have B361 : h0.size ≤ h361.size := by rw [Wr.size W361]; exact B356
                  show Go _ _ _ _ T361 (mkF m 314 #[.val (.ref a), .val (.ref am), .val (.int (2 : Int32)), .val (.ref a295), .val (.int (2 : Int32)), .val (.int (4 : Int32)), .val (.int (2 : Int32)), .val (.int (f 2)), .val (.int (f 3))] []) _ _ _
                  refine Go.aloadN X361 hx (hb hby d_add44_314) rfl rfl ?_
                  refine Go.iload X361 hx (hb hby d_add44_315) rfl ?_
                  have F362 := (Fld.other W361 F357 (Or.inr (slot_ne (a0 := a0) (Or.inl (w32 hw)) (Or.inl (w20 hw)) (t := .int) (t' := (.array .int)) (by decide) (by decide) (by decide))))
                  refine Go.putF X361 hx hZ hown (w31 hw) Via.refl e361 F362 (Exa.wr W361 F360) (Or.inl (w32 hw)) (w9 hw) (ty := .int) (by decide) rfl rfl (hb hby d_add44_317) ?_
                  intro T363 h363 X363 e363 W363
                  have N363 := Fr.snoc X363 N361 f1
                  have Z363 : n0 ≤ h363.size := by rw [Wr.size W363]; exact Z361
                  have B363 : h0.size ≤ h363.size := by rw [Wr.size W363]; exact B361
                  show Go _ _ _ _ T363 (mkF m 320 #[.val (.ref a), .val (.ref am), .val (.int (2 : Int32)), .val (.ref a295), .val (.int (2 : Int32)), .val (.int (4 : Int32)), .val (.int (2 : Int32)), .val (.int (f 2)), .val (.int (f 3))] []) _ _ _
                  refine Go.ret0 X363 hx hlk hret (hb hby d_add44_320) (by decide) (by decide) ?_
                  rw [e363]
                  have F364 := (Af.other W363 (Af.other W361 A356 (Ne.symm ne_a_a295)) (Ne.symm ne_a_a295))
                  have F366 := (Fld.other W363 (Fld.same W361 F359) (Or.inr (slot_ne (a0 := a0) (Or.inl (w20 hw)) (Or.inl (w32 hw)) (t := (.array .int)) (t' := .int) (by decide) (by decide) (by decide))))
                  have AC365 : Af Z h363 a295 k295 .int 6 (fun i => Value.int ((updI (updI (updI (updI (updI (updI (fun _ => (0 : Int32)) 0 x) 1 (F_max (F_max y (f 1)) (f 3))) 2 (0 : Int32)) 3 (0 : Int32)) 4 (0 : Int32)) 5 (0 : Int32)) i)) := Af.congr F364 (fun i hi => by have hi' : i < 6 := hi; rcases lt_6 hi' with rfl | rfl | rfl | rfl | rfl | rfl <;> first | (simp [updI, updV]; done) | rfl)
                  have fin365 := fin_add44_365 f x y M f12 f13 q0 q1 q2 q3 hM' c293 c299 c308 c337
                  exact ⟨a295, rfl, N363, (Keep.wr (Keep.wr (Keep.wr (Keep.wr (Keep.wr (Keep.wr (Keep.ext (Keep.refl _ _) E295) W300 (Or.inr y_a295)) W301 (Or.inr y_a295)) W333 (Or.inr y_a295)) W356 (Or.inr y_a295)) W361 (Or.inl (List.mem_of_getElem? (i := 0) rfl))) W363 (Or.inl (List.mem_of_getElem? (i := 0) rfl))), (Exa.wr W363 (Exa.wr W361 F360)), ⟨_, _, 6, 2, _, F366, (Fld.same W363 F362), AC365, ne_a_a295, (fun _ => g_a295), (Or.inr (Or.inr (Or.inr (Or.inr (Or.inr (Or.inl ⟨(k_up f9 (by decide)), rfl, rfl, rfl⟩)))))), fin365.1, fin365.2⟩⟩
      · refine Go.icmpNo X298 hx (hb hby d_add44_206) (XT.ii_gt_f c299) ?_
        show Go _ _ _ _ T298 (mkF m 209 #[.val (.ref a), .val (.ref am), .val (.int (2 : Int32)), .val (.ref a295), .val (.int (0 : Int32)), .val (.int (0 : Int32)), .val (.int (0 : Int32)), .unset, .unset] []) _ _ _
        as_aux_lemma =>
          refine Go.aloadN X298 hx (hb hby d_add44_209) rfl rfl ?_
          refine Go.getF X298 hx hZ hown (w19 hw) Via.refl e298 (Fld.ext E295 f5) (hb hby d_add44_210) ?_
          intro T373 X373 e373
          show Go _ _ _ _ T373 (mkF m 213 #[.val (.ref a), .val (.ref am), .val (.int (2 : Int32)), .val (.ref a295), .val (.int (0 : Int32)), .val (.int (0 : Int32)), .val (.int (0 : Int32)), .unset, .unset] [(.ref aB)]) _ _ _
          refine Go.iload X373 hx (hb hby d_add44_213) rfl ?_
          refine Go.iaload X373 hx hZ e373 (Af.ext E295 f7) (by decide) (by decide) (hb hby d_add44_215) ?_
          show Go _ _ _ _ T373 (mkF m 216 #[.val (.ref a), .val (.ref am), .val (.int (2 : Int32)), .val (.ref a295), .val (.int (0 : Int32)), .val (.int (0 : Int32)), .val (.int (0 : Int32)), .unset, .unset] [(.int (f 0))]) _ _ _
          refine Go.istore X373 hx (hb hby d_add44_216) (l' := #[.val (.ref a), .val (.ref am), .val (.int (2 : Int32)), .val (.ref a295), .val (.int (0 : Int32)), .val (.int (0 : Int32)), .val (.int (0 : Int32)), .val (.int (f 0)), .unset]) rfl ?_
          refine Go.aloadN X373 hx (hb hby d_add44_218) rfl rfl ?_
          refine Go.getF X373 hx hZ hown (w19 hw) Via.refl e373 (Fld.ext E295 f5) (hb hby d_add44_219) ?_
          intro T374 X374 e374
          show Go _ _ _ _ T374 (mkF m 222 #[.val (.ref a), .val (.ref am), .val (.int (2 : Int32)), .val (.ref a295), .val (.int (0 : Int32)), .val (.int (0 : Int32)), .val (.int (0 : Int32)), .val (.int (f 0)), .unset] [(.ref aB)]) _ _ _
          refine Go.iload X374 hx (hb hby d_add44_222) rfl ?_
          refine Go.iconst X374 hx (hb hby d_add44_224) ?_
          show Go _ _ _ _ T374 (mkF m 225 #[.val (.ref a), .val (.ref am), .val (.int (2 : Int32)), .val (.ref a295), .val (.int (0 : Int32)), .val (.int (0 : Int32)), .val (.int (0 : Int32)), .val (.int (f 0)), .unset] [(.int (1 : Int32)), (.int (0 : Int32)), (.ref aB)]) _ _ _
          refine Go.iadd X374 hx (hb hby d_add44_225) ?_
          show Go _ _ _ _ T374 (mkF m 226 #[.val (.ref a), .val (.ref am), .val (.int (2 : Int32)), .val (.ref a295), .val (.int (0 : Int32)), .val (.int (0 : Int32)), .val (.int (0 : Int32)), .val (.int (f 0)), .unset] [(.int (1 : Int32)), (.ref aB)]) _ _ _
          refine Go.iaload X374 hx hZ e374 (Af.ext E295 f7) (by decide) (by decide) (hb hby d_add44_226) ?_
          show Go _ _ _ _ T374 (mkF m 227 #[.val (.ref a), .val (.ref am), .val (.int (2 : Int32)), .val (.ref a295), .val (.int (0 : Int32)), .val (.int (0 : Int32)), .val (.int (0 : Int32)), .val (.int (f 0)), .unset] [(.int (f 1))]) _ _ _
          refine Go.istore X374 hx (hb hby d_add44_227) (l' := #[.val (.ref a), .val (.ref am), .val (.int (2 : Int32)), .val (.ref a295), .val (.int (0 : Int32)), .val (.int (0 : Int32)), .val (.int (0 : Int32)), .val (.int (f 0)), .val (.int (f 1))]) rfl ?_
          refine Go.iinc X374 hx (hb hby d_add44_229) rfl (l' := #[.val (.ref a), .val (.ref am), .val (.int (2 : Int32)), .val (.ref a295), .val (.int (0 : Int32)), .val (.int (2 : Int32)), .val (.int (0 : Int32)), .val (.int (f 0)), .val (.int (f 1))]) rfl ?_
          show Go _ _ _ _ T374 (mkF m 232 #[.val (.ref a), .val (.ref am), .val (.int (2 : Int32)), .val (.ref a295), .val (.int (0 : Int32)), .val (.int (2 : Int32)), .val (.int (0 : Int32)), .val (.int (f 0)), .val (.int (f 1))] []) _ _ _
          refine Go.goto X374 hx (hb hby d_add44_232) (pc' := 252) (by decide) (by decide) ?_
          show Go _ _ _ _ T374 (mkF m 252 #[.val (.ref a), .val (.ref am), .val (.int (2 : Int32)), .val (.ref a295), .val (.int (0 : Int32)), .val (.int (2 : Int32)), .val (.int (0 : Int32)), .val (.int (f 0)), .val (.int (f 1))] []) _ _ _
          refine Go.iload X374 hx (hb hby d_add44_252) rfl ?_
          refine Go.ifYes X374 hx (hb hby d_add44_254) (XT.i0_le_t (by decide)) (pc' := 288) (by decide) (by decide) ?_
          show Go _ _ _ _ T374 (mkF m 288 #[.val (.ref a), .val (.ref am), .val (.int (2 : Int32)), .val (.ref a295), .val (.int (0 : Int32)), .val (.int (2 : Int32)), .val (.int (0 : Int32)), .val (.int (f 0)), .val (.int (f 1))] []) _ _ _
          refine Go.aloadN X374 hx (hb hby d_add44_288) rfl rfl ?_
          refine Go.iload X374 hx (hb hby d_add44_289) rfl ?_
          refine Go.iinc X374 hx (hb hby d_add44_291) rfl (l' := #[.val (.ref a), .val (.ref am), .val (.int (2 : Int32)), .val (.ref a295), .val (.int (1 : Int32)), .val (.int (2 : Int32)), .val (.int (0 : Int32)), .val (.int (f 0)), .val (.int (f 1))]) rfl ?_
          show Go _ _ _ _ T374 (mkF m 294 #[.val (.ref a), .val (.ref am), .val (.int (2 : Int32)), .val (.ref a295), .val (.int (1 : Int32)), .val (.int (2 : Int32)), .val (.int (0 : Int32)), .val (.int (f 0)), .val (.int (f 1))] [(.int (0 : Int32)), (.ref a295)]) _ _ _
          refine Go.iload X374 hx (hb hby d_add44_294) rfl ?_
          refine Go.iastore X374 hx hZ e374 A295 (by decide) (by decide) (hb hby d_add44_296) ?_
          intro T375 h375 X375 e375 W375 A375
          have N375 := Fr.snoc X375 N0 g_a295
          have Z375 : n0 ≤ h375.size := by rw [Wr.size W375]; exact Z295
          have B375 : h0.size ≤ h375.size := by rw [Wr.size W375]; exact B295
          show Go _ _ _ _ T375 (mkF m 297 #[.val (.ref a), .val (.ref am), .val (.int (2 : Int32)), .val (.ref a295), .val (.int (1 : Int32)), .val (.int (2 : Int32)), .val (.int (0 : Int32)), .val (.int (f 0)), .val (.int (f 1))] []) _ _ _
          refine Go.aloadN X375 hx (hb hby d_add44_297) rfl rfl ?_
          refine Go.iload X375 hx (hb hby d_add44_298) rfl ?_
          refine Go.iinc X375 hx (hb hby d_add44_300) rfl (l' := #[.val (.ref a), .val (.ref am), .val (.int (2 : Int32)), .val (.ref a295), .val (.int (2 : Int32)), .val (.int (2 : Int32)), .val (.int (0 : Int32)), .val (.int (f 0)), .val (.int (f 1))]) rfl ?_
          show Go _ _ _ _ T375 (mkF m 303 #[.val (.ref a), .val (.ref am), .val (.int (2 : Int32)), .val (.ref a295), .val (.int (2 : Int32)), .val (.int (2 : Int32)), .val (.int (0 : Int32)), .val (.int (f 0)), .val (.int (f 1))] [(.int (1 : Int32)), (.ref a295)]) _ _ _
          refine Go.iload X375 hx (hb hby d_add44_303) rfl ?_
          refine Go.iastore X375 hx hZ e375 A375 (by decide) (by decide) (hb hby d_add44_305) ?_
          intro T376 h376 X376 e376 W376 A376
          have N376 := Fr.snoc X376 N375 g_a295
          have Z376 : n0 ≤ h376.size := by rw [Wr.size W376]; exact Z375
          have B376 : h0.size ≤ h376.size := by rw [Wr.size W376]; exact B375
          show Go _ _ _ _ T376 (mkF m 306 #[.val (.ref a), .val (.ref am), .val (.int (2 : Int32)), .val (.ref a295), .val (.int (2 : Int32)), .val (.int (2 : Int32)), .val (.int (0 : Int32)), .val (.int (f 0)), .val (.int (f 1))] []) _ _ _
          refine Go.goto X376 hx (hb hby d_add44_306) (pc' := 165) (by decide) (by decide) ?_
          show Go _ _ _ _ T376 (mkF m 165 #[.val (.ref a), .val (.ref am), .val (.int (2 : Int32)), .val (.ref a295), .val (.int (2 : Int32)), .val (.int (2 : Int32)), .val (.int (0 : Int32)), .val (.int (f 0)), .val (.int (f 1))] []) _ _ _
          refine Go.iload X376 hx (hb hby d_add44_165) rfl ?_
          refine Go.aloadN X376 hx (hb hby d_add44_167) rfl rfl ?_
          have F377 := (Fld.other W376 (Fld.other W375 (Fld.ext E295 f6) (Or.inl ne_a_a295)) (Or.inl ne_a_a295))
          refine Go.getF X376 hx hZ hown (w31 hw) Via.refl e376 F377 (hb hby d_add44_168) ?_
          intro T378 X378 e378
          show Go _ _ _ _ T378 (mkF m 171 #[.val (.ref a), .val (.ref am), .val (.int (2 : Int32)), .val (.ref a295), .val (.int (2 : Int32)), .val (.int (2 : Int32)), .val (.int (0 : Int32)), .val (.int (f 0)), .val (.int (f 1))] [(.int (4 : Int32)), (.int (2 : Int32))]) _ _ _
          refine Go.icmpYes X378 hx (hb hby d_add44_171) (XT.ii_lt_t (by decide)) (pc' := 180) (by decide) (by decide) ?_
          show Go _ _ _ _ T378 (mkF m 180 #[.val (.ref a), .val (.ref am), .val (.int (2 : Int32)), .val (.ref a295), .val (.int (2 : Int32)), .val (.int (2 : Int32)), .val (.int (0 : Int32)), .val (.int (f 0)), .val (.int (f 1))] []) _ _ _
          refine Go.iload X378 hx (hb hby d_add44_180) rfl ?_
          refine Go.iloadN X378 hx (hb hby d_add44_182) rfl ?_
          refine Go.icmpNo X378 hx (hb hby d_add44_183) (XT.ii_eq_f (by decide)) ?_
          show Go _ _ _ _ T378 (mkF m 186 #[.val (.ref a), .val (.ref am), .val (.int (2 : Int32)), .val (.ref a295), .val (.int (2 : Int32)), .val (.int (2 : Int32)), .val (.int (0 : Int32)), .val (.int (f 0)), .val (.int (f 1))] []) _ _ _
          refine Go.iload X378 hx (hb hby d_add44_186) rfl ?_
          refine Go.aloadN X378 hx (hb hby d_add44_188) rfl rfl ?_
          refine Go.getF X378 hx hZ hown (w31 hw) Via.refl e378 F377 (hb hby d_add44_189) ?_
          intro T379 X379 e379
          show Go _ _ _ _ T379 (mkF m 192 #[.val (.ref a), .val (.ref am), .val (.int (2 : Int32)), .val (.ref a295), .val (.int (2 : Int32)), .val (.int (2 : Int32)), .val (.int (0 : Int32)), .val (.int (f 0)), .val (.int (f 1))] [(.int (4 : Int32)), (.int (2 : Int32))]) _ _ _
          refine Go.icmpNo X379 hx (hb hby d_add44_192) (XT.ii_ge_f (by decide)) ?_
          show Go _ _ _ _ T379 (mkF m 195 #[.val (.ref a), .val (.ref am), .val (.int (2 : Int32)), .val (.ref a295), .val (.int (2 : Int32)), .val (.int (2 : Int32)), .val (.int (0 : Int32)), .val (.int (f 0)), .val (.int (f 1))] []) _ _ _
          refine Go.aloadN X379 hx (hb hby d_add44_195) rfl rfl ?_
          have F380 := (Fld.other W376 (Fld.other W375 (Fld.ext E295 f5) (Or.inl ne_a_a295)) (Or.inl ne_a_a295))
          refine Go.getF X379 hx hZ hown (w19 hw) Via.refl e379 F380 (hb hby d_add44_196) ?_
          intro T381 X381 e381
          show Go _ _ _ _ T381 (mkF m 199 #[.val (.ref a), .val (.ref am), .val (.int (2 : Int32)), .val (.ref a295), .val (.int (2 : Int32)), .val (.int (2 : Int32)), .val (.int (0 : Int32)), .val (.int (f 0)), .val (.int (f 1))] [(.ref aB)]) _ _ _
          refine Go.iload X381 hx (hb hby d_add44_199) rfl ?_
          have F382 := (Af.other W376 (Af.other W375 (Af.ext E295 f7) ne_aB_a295) ne_aB_a295)
          refine Go.iaload X381 hx hZ e381 F382 (by decide) (by decide) (hb hby d_add44_201) ?_
          show Go _ _ _ _ T381 (mkF m 202 #[.val (.ref a), .val (.ref am), .val (.int (2 : Int32)), .val (.ref a295), .val (.int (2 : Int32)), .val (.int (2 : Int32)), .val (.int (0 : Int32)), .val (.int (f 0)), .val (.int (f 1))] [(.int (f 2))]) _ _ _
          refine Go.aloadN X381 hx (hb hby d_add44_202) rfl rfl ?_
          refine Go.iload X381 hx (hb hby d_add44_203) rfl ?_
          have F383 := (Af.other W376 (Af.other W375 (Af.ext E295 f8) ne_am_a295) ne_am_a295)
          refine Go.iaload X381 hx hZ e381 F383 (by decide) (by decide) (hb hby d_add44_205) ?_
          show Go _ _ _ _ T381 (mkF m 206 #[.val (.ref a), .val (.ref am), .val (.int (2 : Int32)), .val (.ref a295), .val (.int (2 : Int32)), .val (.int (2 : Int32)), .val (.int (0 : Int32)), .val (.int (f 0)), .val (.int (f 1))] [(.int x), (.int (f 2))]) _ _ _
          rcases Decidable.em (x < (f 2)) with c384 | c384
          · refine Go.icmpYes X381 hx (hb hby d_add44_206) (XT.ii_gt_t c384) (pc' := 235) (by decide) (by decide) ?_
            show Go _ _ _ _ T381 (mkF m 235 #[.val (.ref a), .val (.ref am), .val (.int (2 : Int32)), .val (.ref a295), .val (.int (2 : Int32)), .val (.int (2 : Int32)), .val (.int (0 : Int32)), .val (.int (f 0)), .val (.int (f 1))] []) _ _ _
            as_aux_lemma =>
              refine Go.aloadN X381 hx (hb hby d_add44_235) rfl rfl ?_
              refine Go.iload X381 hx (hb hby d_add44_236) rfl ?_
              refine Go.iaload X381 hx hZ e381 F383 (by decide) (by decide) (hb hby d_add44_238) ?_
              show Go _ _ _ _ T381 (mkF m 239 #[.val (.ref a), .val (.ref am), .val (.int (2 : Int32)), .val (.ref a295), .val (.int (2 : Int32)), .val (.int (2 : Int32)), .val (.int (0 : Int32)), .val (.int (f 0)), .val (.int (f 1))] [(.int x)]) _ _ _
              refine Go.istore X381 hx (hb hby d_add44_239) (l' := #[.val (.ref a), .val (.ref am), .val (.int (2 : Int32)), .val (.ref a295), .val (.int (2 : Int32)), .val (.int (2 : Int32)), .val (.int (0 : Int32)), .val (.int x), .val (.int (f 1))]) rfl ?_
              refine Go.aloadN X381 hx (hb hby d_add44_241) rfl rfl ?_
              refine Go.iload X381 hx (hb hby d_add44_242) rfl ?_
              refine Go.iconst X381 hx (hb hby d_add44_244) ?_
              show Go _ _ _ _ T381 (mkF m 245 #[.val (.ref a), .val (.ref am), .val (.int (2 : Int32)), .val (.ref a295), .val (.int (2 : Int32)), .val (.int (2 : Int32)), .val (.int (0 : Int32)), .val (.int x), .val (.int (f 1))] [(.int (1 : Int32)), (.int (0 : Int32)), (.ref am)]) _ _ _
              refine Go.iadd X381 hx (hb hby d_add44_245) ?_
              show Go _ _ _ _ T381 (mkF m 246 #[.val (.ref a), .val (.ref am), .val (.int (2 : Int32)), .val (.ref a295), .val (.int (2 : Int32)), .val (.int (2 : Int32)), .val (.int (0 : Int32)), .val (.int x), .val (.int (f 1))] [(.int (1 : Int32)), (.ref am)]) _ _ _
              refine Go.iaload X381 hx hZ e381 F383 (by decide) (by decide) (hb hby d_add44_246) ?_
              show Go _ _ _ _ T381 (mkF m 247 #[.val (.ref a), .val (.ref am), .val (.int (2 : Int32)), .val (.ref a295), .val (.int (2 : Int32)), .val (.int (2 : Int32)), .val (.int (0 : Int32)), .val (.int x), .val (.int (f 1))] [(.int y)]) _ _ _
              refine Go.istore X381 hx (hb hby d_add44_247) (l' := #[.val (.ref a), .val (.ref am), .val (.int (2 : Int32)), .val (.ref a295), .val (.int (2 : Int32)), .val (.int (2 : Int32)), .val (.int (0 : Int32)), .val (.int x), .val (.int y)]) rfl ?_
              refine Go.iinc X381 hx (hb hby d_add44_249) rfl (l' := #[.val (.ref a), .val (.ref am), .val (.int (2 : Int32)), .val (.ref a295), .val (.int (2 : Int32)), .val (.int (2 : Int32)), .val (.int (2 : Int32)), .val (.int x), .val (.int y)]) rfl ?_
              show Go _ _ _ _ T381 (mkF m 252 #[.val (.ref a), .val (.ref am), .val (.int (2 : Int32)), .val (.ref a295), .val (.int (2 : Int32)), .val (.int (2 : Int32)), .val (.int (2 : Int32)), .val (.int x), .val (.int y)] []) _ _ _
              refine Go.iload X381 hx (hb hby d_add44_252) rfl ?_
              refine Go.ifNo X381 hx (hb hby d_add44_254) (XT.i0_le_f (by decide)) ?_
              show Go _ _ _ _ T381 (mkF m 257 #[.val (.ref a), .val (.ref am), .val (.int (2 : Int32)), .val (.ref a295), .val (.int (2 : Int32)), .val (.int (2 : Int32)), .val (.int (2 : Int32)), .val (.int x), .val (.int y)] []) _ _ _
              refine Go.iload X381 hx (hb hby d_add44_257) rfl ?_
              refine Go.aloadN X381 hx (hb hby d_add44_259) rfl rfl ?_
              refine Go.iload X381 hx (hb hby d_add44_260) rfl ?_
              refine Go.iconst X381 hx (hb hby d_add44_262) ?_
              show Go _ _ _ _ T381 (mkF m 263 #[.val (.ref a), .val (.ref am), .val (.int (2 : Int32)), .val (.ref a295), .val (.int (2 : Int32)), .val (.int (2 : Int32)), .val (.int (2 : Int32)), .val (.int x), .val (.int y)] [(.int (1 : Int32)), (.int (2 : Int32)), (.ref a295), (.int x)]) _ _ _
              refine Go.isub X381 hx (hb hby d_add44_263) ?_
              show Go _ _ _ _ T381 (mkF m 264 #[.val (.ref a), .val (.ref am), .val (.int (2 : Int32)), .val (.ref a295), .val (.int (2 : Int32)), .val (.int (2 : Int32)), .val (.int (2 : Int32)), .val (.int x), .val (.int y)] [(.int (1 : Int32)), (.ref a295), (.int x)]) _ _ _
              refine Go.iaload X381 hx hZ e381 A376 (by decide) (by decide) (hb hby d_add44_264) ?_
              show Go _ _ _ _ T381 (mkF m 265 #[.val (.ref a), .val (.ref am), .val (.int (2 : Int32)), .val (.ref a295), .val (.int (2 : Int32)), .val (.int (2 : Int32)), .val (.int (2 : Int32)), .val (.int x), .val (.int y)] [(.int (f 1)), (.int x)]) _ _ _
              rcases Decidable.em ((f 1) < x) with c385 | c385
              · refine Go.icmpYes X381 hx (hb hby d_add44_265) (XT.ii_gt_t c385) (pc' := 288) (by decide) (by decide) ?_
                show Go _ _ _ _ T381 (mkF m 288 #[.val (.ref a), .val (.ref am), .val (.int (2 : Int32)), .val (.ref a295), .val (.int (2 : Int32)), .val (.int (2 : Int32)), .val (.int (2 : Int32)), .val (.int x), .val (.int y)] []) _ _ _
                as_aux_lemma =>
                  refine Go.aloadN X381 hx (hb hby d_add44_288) rfl rfl ?_
                  refine Go.iload X381 hx (hb hby d_add44_289) rfl ?_
                  refine Go.iinc X381 hx (hb hby d_add44_291) rfl (l' := #[.val (.ref a), .val (.ref am), .val (.int (2 : Int32)), .val (.ref a295), .val (.int (3 : Int32)), .val (.int (2 : Int32)), .val (.int (2 : Int32)), .val (.int x), .val (.int y)]) rfl ?_
                  show Go _ _ _ _ T381 (mkF m 294 #[.val (.ref a), .val (.ref am), .val (.int (2 : Int32)), .val (.ref a295), .val (.int (3 : Int32)), .val (.int (2 : Int32)), .val (.int (2 : Int32)), .val (.int x), .val (.int y)] [(.int (2 : Int32)), (.ref a295)]) _ _ _
                  refine Go.iload X381 hx (hb hby d_add44_294) rfl ?_
                  refine Go.iastore X381 hx hZ e381 A376 (by decide) (by decide) (hb hby d_add44_296) ?_
                  intro T386 h386 X386 e386 W386 A386
                  have N386 := Fr.snoc X386 N376 g_a295
                  have Z386 : n0 ≤ h386.size := by rw [Wr.size W386]; exact Z376
                  have B386 : h0.size ≤ h386.size := by rw [Wr.size W386]; exact B376
                  show Go _ _ _ _ T386 (mkF m 297 #[.val (.ref a), .val (.ref am), .val (.int (2 : Int32)), .val (.ref a295), .val (.int (3 : Int32)), .val (.int (2 : Int32)), .val (.int (2 : Int32)), .val (.int x), .val (.int y)] []) _ _ _
                  refine Go.aloadN X386 hx (hb hby d_add44_297) rfl rfl ?_
                  refine Go.iload X386 hx (hb hby d_add44_298) rfl ?_
                  refine Go.iinc X386 hx (hb hby d_add44_300) rfl (l' := #[.val (.ref a), .val (.ref am), .val (.int (2 : Int32)), .val (.ref a295), .val (.int (4 : Int32)), .val (.int (2 : Int32)), .val (.int (2 : Int32)), .val (.int x), .val (.int y)]) rfl ?_
                  show Go _ _ _ _ T386 (mkF m 303 #[.val (.ref a), .val (.ref am), .val (.int (2 : Int32)), .val (.ref a295), .val (.int (4 : Int32)), .val (.int (2 : Int32)), .val (.int (2 : Int32)), .val (.int x), .val (.int y)] [(.int (3 : Int32)), (.ref a295)]) _ _ _
                  refine Go.iload X386 hx (hb hby d_add44_303) rfl ?_
                  refine Go.iastore X386 hx hZ e386 A386 (by decide) (by decide) (hb hby d_add44_305) ?_
                  intro T387 h387 X387 e387 W387 A387
                  have N387 := Fr.snoc X387 N386 g_a295
                  have Z387 : n0 ≤ h387.size := by rw [Wr.size W387]; exact Z386
                  have B387 : h0.size ≤ h387.size := by rw [Wr.size W387]; exact B386
                  show Go _ _ _ _ T387 (mkF m 306 #[.val (.ref a), .val (.ref am), .val (.int (2 : Int32)), .val (.ref a295), .val (.int (4 : Int32)), .val (.int (2 : Int32)), .val (.int (2 : Int32)), .val (.int x), .val (.int y)] []) _ _ _
                  refine Go.goto X387 hx (hb hby d_add44_306) (pc' := 165) (by decide) (by decide) ?_
                  show Go _ _ _ _ T387 (mkF m 165 #[.val (.ref a), .val (.ref am), .val (.int (2 : Int32)), .val (.ref a295), .val (.int (4 : Int32)), .val (.int (2 : Int32)), .val (.int (2 : Int32)), .val (.int x), .val (.int y)] []) _ _ _
                  refine Go.iload X387 hx (hb hby d_add44_165) rfl ?_
                  refine Go.aloadN X387 hx (hb hby d_add44_167) rfl rfl ?_
                  have F388 := (Fld.other W387 (Fld.other W386 F377 (Or.inl ne_a_a295)) (Or.inl ne_a_a295))
                  refine Go.getF X387 hx hZ hown (w31 hw) Via.refl e387 F388 (hb hby d_add44_168) ?_
                  intro T389 X389 e389
                  show Go _ _ _ _ T389 (mkF m 171 #[.val (.ref a), .val (.ref am), .val (.int (2 : Int32)), .val (.ref a295), .val (.int (4 : Int32)), .val (.int (2 : Int32)), .val (.int (2 : Int32)), .val (.int x), .val (.int y)] [(.int (4 : Int32)), (.int (2 : Int32))]) _ _ _
                  refine Go.icmpYes X389 hx (hb hby d_add44_171) (XT.ii_lt_t (by decide)) (pc' := 180) (by decide) (by decide) ?_
                  show Go _ _ _ _ T389 (mkF m 180 #[.val (.ref a), .val (.ref am), .val (.int (2 : Int32)), .val (.ref a295), .val (.int (4 : Int32)), .val (.int (2 : Int32)), .val (.int (2 : Int32)), .val (.int x), .val (.int y)] []) _ _ _
                  refine Go.iload X389 hx (hb hby d_add44_180) rfl ?_
                  refine Go.iloadN X389 hx (hb hby d_add44_182) rfl ?_
                  refine Go.icmpYes X389 hx (hb hby d_add44_183) (XT.ii_eq_t (by decide)) (pc' := 209) (by decide) (by decide) ?_
                  show Go _ _ _ _ T389 (mkF m 209 #[.val (.ref a), .val (.ref am), .val (.int (2 : Int32)), .val (.ref a295), .val (.int (4 : Int32)), .val (.int (2 : Int32)), .val (.int (2 : Int32)), .val (.int x), .val (.int y)] []) _ _ _
                  refine Go.aloadN X389 hx (hb hby d_add44_209) rfl rfl ?_
                  have F390 := (Fld.other W387 (Fld.other W386 F380 (Or.inl ne_a_a295)) (Or.inl ne_a_a295))
                  refine Go.getF X389 hx hZ hown (w19 hw) Via.refl e389 F390 (hb hby d_add44_210) ?_
                  intro T391 X391 e391
                  show Go _ _ _ _ T391 (mkF m 213 #[.val (.ref a), .val (.ref am), .val (.int (2 : Int32)), .val (.ref a295), .val (.int (4 : Int32)), .val (.int (2 : Int32)), .val (.int (2 : Int32)), .val (.int x), .val (.int y)] [(.ref aB)]) _ _ _
                  refine Go.iload X391 hx (hb hby d_add44_213) rfl ?_
                  have F392 := (Af.other W387 (Af.other W386 F382 ne_aB_a295) ne_aB_a295)
                  refine Go.iaload X391 hx hZ e391 F392 (by decide) (by decide) (hb hby d_add44_215) ?_
                  show Go _ _ _ _ T391 (mkF m 216 #[.val (.ref a), .val (.ref am), .val (.int (2 : Int32)), .val (.ref a295), .val (.int (4 : Int32)), .val (.int (2 : Int32)), .val (.int (2 : Int32)), .val (.int x), .val (.int y)] [(.int (f 2))]) _ _ _
                  refine Go.istore X391 hx (hb hby d_add44_216) (l' := #[.val (.ref a), .val (.ref am), .val (.int (2 : Int32)), .val (.ref a295), .val (.int (4 : Int32)), .val (.int (2 : Int32)), .val (.int (2 : Int32)), .val (.int (f 2)), .val (.int y)]) rfl ?_
                  refine Go.aloadN X391 hx (hb hby d_add44_218) rfl rfl ?_
                  refine Go.getF X391 hx hZ hown (w19 hw) Via.refl e391 F390 (hb hby d_add44_219) ?_
                  intro T393 X393 e393
                  show Go _ _ _ _ T393 (mkF m 222 #[.val (.ref a), .val (.ref am), .val (.int (2 : Int32)), .val (.ref a295), .val (.int (4 : Int32)), .val (.int (2 : Int32)), .val (.int (2 : Int32)), .val (.int (f 2)), .val (.int y)] [(.ref aB)]) _ _ _
                  refine Go.iload X393 hx (hb hby d_add44_222) rfl ?_
                  refine Go.iconst X393 hx (hb hby d_add44_224) ?_
                  show Go _ _ _ _ T393 (mkF m 225 #[.val (.ref a), .val (.ref am), .val (.int (2 : Int32)), .val (.ref a295), .val (.int (4 : Int32)), .val (.int (2 : Int32)), .val (.int (2 : Int32)), .val (.int (f 2)), .val (.int y)] [(.int (1 : Int32)), (.int (2 : Int32)), (.ref aB)]) _ _ _
                  refine Go.iadd X393 hx (hb hby d_add44_225) ?_
                  show Go _ _ _ _ T393 (mkF m 226 #[.val (.ref a), .val (.ref am), .val (.int (2 : Int32)), .val (.ref a295), .val (.int (4 : Int32)), .val (.int (2 : Int32)), .val (.int (2 : Int32)), .val (.int (f 2)), .val (.int y)] [(.int (3 : Int32)), (.ref aB)]) _ _ _
                  refine Go.iaload X393 hx hZ e393 F392 (by decide) (by decide) (hb hby d_add44_226) ?_
                  show Go _ _ _ _ T393 (mkF m 227 #[.val (.ref a), .val (.ref am), .val (.int (2 : Int32)), .val (.ref a295), .val (.int (4 : Int32)), .val (.int (2 : Int32)), .val (.int (2 : Int32)), .val (.int (f 2)), .val (.int y)] [(.int (f 3))]) _ _ _
                  refine Go.istore X393 hx (hb hby d_add44_227) (l' := #[.val (.ref a), .val (.ref am), .val (.int (2 : Int32)), .val (.ref a295), .val (.int (4 : Int32)), .val (.int (2 : Int32)), .val (.int (2 : Int32)), .val (.int (f 2)), .val (.int (f 3))]) rfl ?_
                  refine Go.iinc X393 hx (hb hby d_add44_229) rfl (l' := #[.val (.ref a), .val (.ref am), .val (.int (2 : Int32)), .val (.ref a295), .val (.int (4 : Int32)), .val (.int (4 : Int32)), .val (.int (2 : Int32)), .val (.int (f 2)), .val (.int (f 3))]) rfl ?_
                  show Go _ _ _ _ T393 (mkF m 232 #[.val (.ref a), .val (.ref am), .val (.int (2 : Int32)), .val (.ref a295), .val (.int (4 : Int32)), .val (.int (4 : Int32)), .val (.int (2 : Int32)), .val (.int (f 2)), .val (.int (f 3))] []) _ _ _
                  refine Go.goto X393 hx (hb hby d_add44_232) (pc' := 252) (by decide) (by decide) ?_
                  show Go _ _ _ _ T393 (mkF m 252 #[.val (.ref a), .val (.ref am), .val (.int (2 : Int32)), .val (.ref a295), .val (.int (4 : Int32)), .val (.int (4 : Int32)), .val (.int (2 : Int32)), .val (.int (f 2)), .val (.int (f 3))] []) _ _ _
                  refine Go.iload X393 hx (hb hby d_add44_252) rfl ?_
                  refine Go.ifNo X393 hx (hb hby d_add44_254) (XT.i0_le_f (by decide)) ?_
                  show Go _ _ _ _ T393 (mkF m 257 #[.val (.ref a), .val (.ref am), .val (.int (2 : Int32)), .val (.ref a295), .val (.int (4 : Int32)), .val (.int (4 : Int32)), .val (.int (2 : Int32)), .val (.int (f 2)), .val (.int (f 3))] []) _ _ _
                  refine Go.iload X393 hx (hb hby d_add44_257) rfl ?_
                  refine Go.aloadN X393 hx (hb hby d_add44_259) rfl rfl ?_
                  refine Go.iload X393 hx (hb hby d_add44_260) rfl ?_
                  refine Go.iconst X393 hx (hb hby d_add44_262) ?_
                  show Go _ _ _ _ T393 (mkF m 263 #[.val (.ref a), .val (.ref am), .val (.int (2 : Int32)), .val (.ref a295), .val (.int (4 : Int32)), .val (.int (4 : Int32)), .val (.int (2 : Int32)), .val (.int (f 2)), .val (.int (f 3))] [(.int (1 : Int32)), (.int (4 : Int32)), (.ref a295), (.int (f 2))]) _ _ _
                  refine Go.isub X393 hx (hb hby d_add44_263) ?_
                  show Go _ _ _ _ T393 (mkF m 264 #[.val (.ref a), .val (.ref am), .val (.int (2 : Int32)), .val (.ref a295), .val (.int (4 : Int32)), .val (.int (4 : Int32)), .val (.int (2 : Int32)), .val (.int (f 2)), .val (.int (f 3))] [(.int (3 : Int32)), (.ref a295), (.int (f 2))]) _ _ _
                  refine Go.iaload X393 hx hZ e393 A387 (by decide) (by decide) (hb hby d_add44_264) ?_
                  show Go _ _ _ _ T393 (mkF m 265 #[.val (.ref a), .val (.ref am), .val (.int (2 : Int32)), .val (.ref a295), .val (.int (4 : Int32)), .val (.int (4 : Int32)), .val (.int (2 : Int32)), .val (.int (f 2)), .val (.int (f 3))] [(.int y), (.int (f 2))]) _ _ _
                  rcases Decidable.em (y < (f 2)) with c394 | c394
                  · refine Go.icmpYes X393 hx (hb hby d_add44_265) (XT.ii_gt_t c394) (pc' := 288) (by decide) (by decide) ?_
                    show Go _ _ _ _ T393 (mkF m 288 #[.val (.ref a), .val (.ref am), .val (.int (2 : Int32)), .val (.ref a295), .val (.int (4 : Int32)), .val (.int (4 : Int32)), .val (.int (2 : Int32)), .val (.int (f 2)), .val (.int (f 3))] []) _ _ _
                    as_aux_lemma =>
                      refine Go.aloadN X393 hx (hb hby d_add44_288) rfl rfl ?_
                      refine Go.iload X393 hx (hb hby d_add44_289) rfl ?_
                      refine Go.iinc X393 hx (hb hby d_add44_291) rfl (l' := #[.val (.ref a), .val (.ref am), .val (.int (2 : Int32)), .val (.ref a295), .val (.int (5 : Int32)), .val (.int (4 : Int32)), .val (.int (2 : Int32)), .val (.int (f 2)), .val (.int (f 3))]) rfl ?_
                      show Go _ _ _ _ T393 (mkF m 294 #[.val (.ref a), .val (.ref am), .val (.int (2 : Int32)), .val (.ref a295), .val (.int (5 : Int32)), .val (.int (4 : Int32)), .val (.int (2 : Int32)), .val (.int (f 2)), .val (.int (f 3))] [(.int (4 : Int32)), (.ref a295)]) _ _ _
                      refine Go.iload X393 hx (hb hby d_add44_294) rfl ?_
                      refine Go.iastore X393 hx hZ e393 A387 (by decide) (by decide) (hb hby d_add44_296) ?_
                      intro T395 h395 X395 e395 W395 A395
                      have N395 := Fr.snoc X395 N387 g_a295
                      have Z395 : n0 ≤ h395.size := by rw [Wr.size W395]; exact Z387
                      have B395 : h0.size ≤ h395.size := by rw [Wr.size W395]; exact B387
                      show Go _ _ _ _ T395 (mkF m 297 #[.val (.ref a), .val (.ref am), .val (.int (2 : Int32)), .val (.ref a295), .val (.int (5 : Int32)), .val (.int (4 : Int32)), .val (.int (2 : Int32)), .val (.int (f 2)), .val (.int (f 3))] []) _ _ _
                      refine Go.aloadN X395 hx (hb hby d_add44_297) rfl rfl ?_
                      refine Go.iload X395 hx (hb hby d_add44_298) rfl ?_
                      refine Go.iinc X395 hx (hb hby d_add44_300) rfl (l' := #[.val (.ref a), .val (.ref am), .val (.int (2 : Int32)), .val (.ref a295), .val (.int (6 : Int32)), .val (.int (4 : Int32)), .val (.int (2 : Int32)), .val (.int (f 2)), .val (.int (f 3))]) rfl ?_
                      show Go _ _ _ _ T395 (mkF m 303 #[.val (.ref a), .val (.ref am), .val (.int (2 : Int32)), .val (.ref a295), .val (.int (6 : Int32)), .val (.int (4 : Int32)), .val (.int (2 : Int32)), .val (.int (f 2)), .val (.int (f 3))] [(.int (5 : Int32)), (.ref a295)]) _ _ _
                      refine Go.iload X395 hx (hb hby d_add44_303) rfl ?_
                      refine Go.iastore X395 hx hZ e395 A395 (by decide) (by decide) (hb hby d_add44_305) ?_
                      intro T396 h396 X396 e396 W396 A396
                      have N396 := Fr.snoc X396 N395 g_a295
                      have Z396 : n0 ≤ h396.size := by rw [Wr.size W396]; exact Z395
                      have B396 : h0.size ≤ h396.size := by rw [Wr.size W396]; exact B395
                      show Go _ _ _ _ T396 (mkF m 306 #[.val (.ref a), .val (.ref am), .val (.int (2 : Int32)), .val (.ref a295), .val (.int (6 : Int32)), .val (.int (4 : Int32)), .val (.int (2 : Int32)), .val (.int (f 2)), .val (.int (f 3))] []) _ _ _
                      refine Go.goto X396 hx (hb hby d_add44_306) (pc' := 165) (by decide) (by decide) ?_
                      show Go _ _ _ _ T396 (mkF m 165 #[.val (.ref a), .val (.ref am), .val (.int (2 : Int32)), .val (.ref a295), .val (.int (6 : Int32)), .val (.int (4 : Int32)), .val (.int (2 : Int32)), .val (.int (f 2)), .val (.int (f 3))] []) _ _ _
                      refine Go.iload X396 hx (hb hby d_add44_165) rfl ?_
                      refine Go.aloadN X396 hx (hb hby d_add44_167) rfl rfl ?_
                      have F397 := (Fld.other W396 (Fld.other W395 F388 (Or.inl ne_a_a295)) (Or.inl ne_a_a295))
                      refine Go.getF X396 hx hZ hown (w31 hw) Via.refl e396 F397 (hb hby d_add44_168) ?_
                      intro T398 X398 e398
                      show Go _ _ _ _ T398 (mkF m 171 #[.val (.ref a), .val (.ref am), .val (.int (2 : Int32)), .val (.ref a295), .val (.int (6 : Int32)), .val (.int (4 : Int32)), .val (.int (2 : Int32)), .val (.int (f 2)), .val (.int (f 3))] [(.int (4 : Int32)), (.int (4 : Int32))]) _ _ _
                      refine Go.icmpNo X398 hx (hb hby d_add44_171) (XT.ii_lt_f (by decide)) ?_
                      show Go _ _ _ _ T398 (mkF m 174 #[.val (.ref a), .val (.ref am), .val (.int (2 : Int32)), .val (.ref a295), .val (.int (6 : Int32)), .val (.int (4 : Int32)), .val (.int (2 : Int32)), .val (.int (f 2)), .val (.int (f 3))] []) _ _ _
                      refine Go.iload X398 hx (hb hby d_add44_174) rfl ?_
                      refine Go.iloadN X398 hx (hb hby d_add44_176) rfl ?_
                      refine Go.icmpYes X398 hx (hb hby d_add44_177) (XT.ii_ge_t (by decide)) (pc' := 309) (by decide) (by decide) ?_
                      show Go _ _ _ _ T398 (mkF m 309 #[.val (.ref a), .val (.ref am), .val (.int (2 : Int32)), .val (.ref a295), .val (.int (6 : Int32)), .val (.int (4 : Int32)), .val (.int (2 : Int32)), .val (.int (f 2)), .val (.int (f 3))] []) _ _ _
                      refine Go.aloadN X398 hx (hb hby d_add44_309) rfl rfl ?_
                      refine Go.aloadN X398 hx (hb hby d_add44_310) rfl rfl ?_
                      have F399 := (Fld.other W396 (Fld.other W395 F390 (Or.inl ne_a_a295)) (Or.inl ne_a_a295))
                      have F400 := (Exa.wr W396 (Exa.wr W395 (Exa.wr W387 (Exa.wr W386 (Exa.wr W376 (Exa.wr W375 (Exa.ext E295 f0)))))))
                      refine Go.putF X398 hx hZ hown (w19 hw) Via.refl e398 F399 F400 (Or.inl (w20 hw)) (w9 hw) (ty := (.array .int)) (by decide) rfl rfl (hb hby d_add44_311) ?_
                      intro T401 h401 X401 e401 W401
                      have N401 := Fr.snoc X401 N396 f1
                      have Z401 : n0 ≤ h401.size := by rw [Wr.size W401]; exact Z396
                      have B401 : h0.size ≤ h401.size := by rw [Wr.size W401]; exact B396
                      show Go _ _ _ _ T401 (mkF m 314 #[.val (.ref a), .val (.ref am), .val (.int (2 : Int32)), .val (.ref a295), .val (.int (6 : Int32)), .val (.int (4 : Int32)), .val (.int (2 : Int32)), .val (.int (f 2)), .val (.int (f 3))] []) _ _ _
                      refine Go.aloadN X401 hx (hb hby d_add44_314) rfl rfl ?_
                      refine Go.iload X401 hx (hb hby d_add44_315) rfl ?_
                      have F402 := (Fld.other W401 F397 (Or.inr (slot_ne (a0 := a0) (Or.inl (w32 hw)) (Or.inl (w20 hw)) (t := .int) (t' := (.array .int)) (by decide) (by decide) (by decide))))
                      refine Go.putF X401 hx hZ hown (w31 hw) Via.refl e401 F402 (Exa.wr W401 F400) (Or.inl (w32 hw)) (w9 hw) (ty := .int) (by decide) rfl rfl (hb hby d_add44_317) ?_
                      intro T403 h403 X403 e403 W403
                      have N403 := Fr.snoc X403 N401 f1
                      have Z403 : n0 ≤ h403.size := by rw [Wr.size W403]; exact Z401
                      have B403 : h0.size ≤ h403.size := by rw [Wr.size W403]; exact B401
                      show Go _ _ _ _ T403 (mkF m 320 #[.val (.ref a), .val (.ref am), .val (.int (2 : Int32)), .val (.ref a295), .val (.int (6 : Int32)), .val (.int (4 : Int32)), .val (.int (2 : Int32)), .val (.int (f 2)), .val (.int (f 3))] []) _ _ _
                      refine Go.ret0 X403 hx hlk hret (hb hby d_add44_320) (by decide) (by decide) ?_
                      rw [e403]
                      have F404 := (Af.other W403 (Af.other W401 A396 (Ne.symm ne_a_a295)) (Ne.symm ne_a_a295))
                      have F406 := (Fld.other W403 (Fld.same W401 F399) (Or.inr (slot_ne (a0 := a0) (Or.inl (w20 hw)) (Or.inl (w32 hw)) (t := (.array .int)) (t' := .int) (by decide) (by decide) (by decide))))
                      have AC405 : Af Z h403 a295 k295 .int 6 (fun i => Value.int ((updI (updI (updI (updI (updI (updI (fun _ => (0 : Int32)) 0 (f 0)) 1 (f 1)) 2 x) 3 y) 4 (f 2)) 5 (f 3)) i)) := Af.congr F404 (fun i hi => by have hi' : i < 6 := hi; rcases lt_6 hi' with rfl | rfl | rfl | rfl | rfl | rfl <;> first | (simp [updI, updV]; done) | rfl)
                      have fin405 := fin_add44_405 f x y M f12 f13 q0 q1 q2 q3 hM' c293 c299 c384 c385 c394
                      exact ⟨a295, rfl, N403, (Keep.wr (Keep.wr (Keep.wr (Keep.wr (Keep.wr (Keep.wr (Keep.wr (Keep.wr (Keep.ext (Keep.refl _ _) E295) W375 (Or.inr y_a295)) W376 (Or.inr y_a295)) W386 (Or.inr y_a295)) W387 (Or.inr y_a295)) W395 (Or.inr y_a295)) W396 (Or.inr y_a295)) W401 (Or.inl (List.mem_of_getElem? (i := 0) rfl))) W403 (Or.inl (List.mem_of_getElem? (i := 0) rfl))), (Exa.wr W403 (Exa.wr W401 F400)), ⟨_, _, 6, 6, _, F406, (Fld.same W403 F402), AC405, ne_a_a295, (fun _ => g_a295), (Or.inr (Or.inr (Or.inr (Or.inr (Or.inr (Or.inr (Or.inr ⟨(k_up f9 (by decide)), rfl, rfl, rfl⟩))))))), fin405.1, fin405.2⟩⟩
                  · refine Go.icmpNo X393 hx (hb hby d_add44_265) (XT.ii_gt_f c394) ?_
                    show Go _ _ _ _ T393 (mkF m 268 #[.val (.ref a), .val (.ref am), .val (.int (2 : Int32)), .val (.ref a295), .val (.int (4 : Int32)), .val (.int (4 : Int32)), .val (.int (2 : Int32)), .val (.int (f 2)), .val (.int (f 3))] []) _ _ _
                    as_aux_lemma =>
                      refine Go.aloadN X393 hx (hb hby d_add44_268) rfl rfl ?_
                      refine Go.iload X393 hx (hb hby d_add44_269) rfl ?_
                      refine Go.iconst X393 hx (hb hby d_add44_271) ?_
                      show Go _ _ _ _ T393 (mkF m 272 #[.val (.ref a), .val (.ref am), .val (.int (2 : Int32)), .val (.ref a295), .val (.int (4 : Int32)), .val (.int (4 : Int32)), .val (.int (2 : Int32)), .val (.int (f 2)), .val (.int (f 3))] [(.int (1 : Int32)), (.int (4 : Int32)), (.ref a295)]) _ _ _
                      refine Go.isub X393 hx (hb hby d_add44_272) ?_
                      show Go _ _ _ _ T393 (mkF m 273 #[.val (.ref a), .val (.ref am), .val (.int (2 : Int32)), .val (.ref a295), .val (.int (4 : Int32)), .val (.int (4 : Int32)), .val (.int (2 : Int32)), .val (.int (f 2)), .val (.int (f 3))] [(.int (3 : Int32)), (.ref a295)]) _ _ _
                      refine Go.aloadN X393 hx (hb hby d_add44_273) rfl rfl ?_
                      refine Go.iload X393 hx (hb hby d_add44_274) rfl ?_
                      refine Go.iconst X393 hx (hb hby d_add44_276) ?_
                      show Go _ _ _ _ T393 (mkF m 277 #[.val (.ref a), .val (.ref am), .val (.int (2 : Int32)), .val (.ref a295), .val (.int (4 : Int32)), .val (.int (4 : Int32)), .val (.int (2 : Int32)), .val (.int (f 2)), .val (.int (f 3))] [(.int (1 : Int32)), (.int (4 : Int32)), (.ref a295), (.int (3 : Int32)), (.ref a295)]) _ _ _
                      refine Go.isub X393 hx (hb hby d_add44_277) ?_
                      show Go _ _ _ _ T393 (mkF m 278 #[.val (.ref a), .val (.ref am), .val (.int (2 : Int32)), .val (.ref a295), .val (.int (4 : Int32)), .val (.int (4 : Int32)), .val (.int (2 : Int32)), .val (.int (f 2)), .val (.int (f 3))] [(.int (3 : Int32)), (.ref a295), (.int (3 : Int32)), (.ref a295)]) _ _ _
                      refine Go.iaload X393 hx hZ e393 A387 (by decide) (by decide) (hb hby d_add44_278) ?_
                      show Go _ _ _ _ T393 (mkF m 279 #[.val (.ref a), .val (.ref am), .val (.int (2 : Int32)), .val (.ref a295), .val (.int (4 : Int32)), .val (.int (4 : Int32)), .val (.int (2 : Int32)), .val (.int (f 2)), .val (.int (f 3))] [(.int y), (.int (3 : Int32)), (.ref a295)]) _ _ _
                      refine Go.iload X393 hx (hb hby d_add44_279) rfl ?_
                      refine Go.callS (W := 2) (argsL := [(.int y), (.int (f 3))]) (rest := [(.int (3 : Int32)), (.ref a295)]) X393 hx hZ hown (w33 hw) (w6 hw) (w3 hw) (w7 hw) (by decide) (rm_max l Z a0 hw y ((f 3)) h387) e393 (lenOf pd_0 rfl) (hb hby d_add44_281) (by rw [hml]; rfl) rfl (Nat.le_of_eq rfl) (by decide) (by decide) (by decide) (by decide) ?_
                      intro v412 T412 L412 X412 q412
                      obtain ⟨rfl, rfl, e412⟩ := q412
                      have N412 := Fr.app N387 (Fr.nil n0)
                      show Go _ _ _ _ T412 (mkF m 284 #[.val (.ref a), .val (.ref am), .val (.int (2 : Int32)), .val (.ref a295), .val (.int (4 : Int32)), .val (.int (4 : Int32)), .val (.int (2 : Int32)), .val (.int (f 2)), .val (.int (f 3))] [(.int (F_max y (f 3))), (.int (3 : Int32)), (.ref a295)]) _ _ _
                      refine Go.iastore X412 hx hZ e412 A387 (by decide) (by decide) (hb hby d_add44_284) ?_
                      intro T413 h413 X413 e413 W413 A413
                      have N413 := Fr.snoc X413 N412 g_a295
                      have Z413 : n0 ≤ h413.size := by rw [Wr.size W413]; exact Z387
                      have B413 : h0.size ≤ h413.size := by rw [Wr.size W413]; exact B387
                      show Go _ _ _ _ T413 (mkF m 285 #[.val (.ref a), .val (.ref am), .val (.int (2 : Int32)), .val (.ref a295), .val (.int (4 : Int32)), .val (.int (4 : Int32)), .val (.int (2 : Int32)), .val (.int (f 2)), .val (.int (f 3))] []) _ _ _
                      refine Go.goto X413 hx (hb hby d_add44_285) (pc' := 306) (by decide) (by decide) ?_
                      show Go _ _ _ _ T413 (mkF m 306 #[.val (.ref a), .val (.ref am), .val (.int (2 : Int32)), .val (.ref a295), .val (.int (4 : Int32)), .val (.int (4 : Int32)), .val (.int (2 : Int32)), .val (.int (f 2)), .val (.int (f 3))] []) _ _ _
                      refine Go.goto X413 hx (hb hby d_add44_306) (pc' := 165) (by decide) (by decide) ?_
                      show Go _ _ _ _ T413 (mkF m 165 #[.val (.ref a), .val (.ref am), .val (.int (2 : Int32)), .val (.ref a295), .val (.int (4 : Int32)), .val (.int (4 : Int32)), .val (.int (2 : Int32)), .val (.int (f 2)), .val (.int (f 3))] []) _ _ _
                      refine Go.iload X413 hx (hb hby d_add44_165) rfl ?_
                      refine Go.aloadN X413 hx (hb hby d_add44_167) rfl rfl ?_
                      refine Go.getF X413 hx hZ hown (w31 hw) Via.refl e413 (Fld.other W413 F388 (Or.inl ne_a_a295)) (hb hby d_add44_168) ?_
                      intro T414 X414 e414
                      show Go _ _ _ _ T414 (mkF m 171 #[.val (.ref a), .val (.ref am), .val (.int (2 : Int32)), .val (.ref a295), .val (.int (4 : Int32)), .val (.int (4 : Int32)), .val (.int (2 : Int32)), .val (.int (f 2)), .val (.int (f 3))] [(.int (4 : Int32)), (.int (4 : Int32))]) _ _ _
                      refine Go.icmpNo X414 hx (hb hby d_add44_171) (XT.ii_lt_f (by decide)) ?_
                      show Go _ _ _ _ T414 (mkF m 174 #[.val (.ref a), .val (.ref am), .val (.int (2 : Int32)), .val (.ref a295), .val (.int (4 : Int32)), .val (.int (4 : Int32)), .val (.int (2 : Int32)), .val (.int (f 2)), .val (.int (f 3))] []) _ _ _
                      refine Go.iload X414 hx (hb hby d_add44_174) rfl ?_
                      refine Go.iloadN X414 hx (hb hby d_add44_176) rfl ?_
                      refine Go.icmpYes X414 hx (hb hby d_add44_177) (XT.ii_ge_t (by decide)) (pc' := 309) (by decide) (by decide) ?_
                      show Go _ _ _ _ T414 (mkF m 309 #[.val (.ref a), .val (.ref am), .val (.int (2 : Int32)), .val (.ref a295), .val (.int (4 : Int32)), .val (.int (4 : Int32)), .val (.int (2 : Int32)), .val (.int (f 2)), .val (.int (f 3))] []) _ _ _
                      refine Go.aloadN X414 hx (hb hby d_add44_309) rfl rfl ?_
                      refine Go.aloadN X414 hx (hb hby d_add44_310) rfl rfl ?_
                      have F415 := (Exa.wr W413 (Exa.wr W387 (Exa.wr W386 (Exa.wr W376 (Exa.wr W375 (Exa.ext E295 f0))))))
                      refine Go.putF X414 hx hZ hown (w19 hw) Via.refl e414 (Fld.other W413 F390 (Or.inl ne_a_a295)) F415 (Or.inl (w20 hw)) (w9 hw) (ty := (.array .int)) (by decide) rfl rfl (hb hby d_add44_311) ?_
                      intro T416 h416 X416 e416 W416
                      have N416 := Fr.snoc X416 N413 f1
                      have Z416 : n0 ≤ h416.size := by rw [Wr.size W416]; exact Z413
                      have B416 : h0.size ≤ h416.size := by rw [Wr.size W416]; exact B413
                      show Go _ _ _ _ T416 (mkF m 314 #[.val (.ref a), .val (.ref am), .val (.int (2 : Int32)), .val (.ref a295), .val (.int (4 : Int32)), .val (.int (4 : Int32)), .val (.int (2 : Int32)), .val (.int (f 2)), .val (.int (f 3))] []) _ _ _
                      refine Go.aloadN X416 hx (hb hby d_add44_314) rfl rfl ?_
                      refine Go.iload X416 hx (hb hby d_add44_315) rfl ?_
                      have F417 := (Fld.other W416 (Fld.other W413 F388 (Or.inl ne_a_a295)) (Or.inr (slot_ne (a0 := a0) (Or.inl (w32 hw)) (Or.inl (w20 hw)) (t := .int) (t' := (.array .int)) (by decide) (by decide) (by decide))))
                      refine Go.putF X416 hx hZ hown (w31 hw) Via.refl e416 F417 (Exa.wr W416 F415) (Or.inl (w32 hw)) (w9 hw) (ty := .int) (by decide) rfl rfl (hb hby d_add44_317) ?_
                      intro T418 h418 X418 e418 W418
                      have N418 := Fr.snoc X418 N416 f1
                      have Z418 : n0 ≤ h418.size := by rw [Wr.size W418]; exact Z416
                      have B418 : h0.size ≤ h418.size := by rw [Wr.size W418]; exact B416
                      show Go _ _ _ _ T418 (mkF m 320 #[.val (.ref a), .val (.ref am), .val (.int (2 : Int32)), .val (.ref a295), .val (.int (4 : Int32)), .val (.int (4 : Int32)), .val (.int (2 : Int32)), .val (.int (f 2)), .val (.int (f 3))] []) _ _ _
                      refine Go.ret0 X418 hx hlk hret (hb hby d_add44_320) (by decide) (by decide) ?_
                      rw [e418]
                      have F419 := (Af.other W418 (Af.other W416 A413 (Ne.symm ne_a_a295)) (Ne.symm ne_a_a295))
                      have F421 := (Fld.other W418 (Fld.same W416 (Fld.other W413 F390 (Or.inl ne_a_a295))) (Or.inr (slot_ne (a0 := a0) (Or.inl (w20 hw)) (Or.inl (w32 hw)) (t := (.array .int)) (t' := .int) (by decide) (by decide) (by decide))))
                      have AC420 : Af Z h418 a295 k295 .int 6 (fun i => Value.int ((updI (updI (updI (updI (updI (updI (fun _ => (0 : Int32)) 0 (f 0)) 1 (f 1)) 2 x) 3 (F_max y (f 3))) 4 (0 : Int32)) 5 (0 : Int32)) i)) := Af.congr F419 (fun i hi => by have hi' : i < 6 := hi; rcases lt_6 hi' with rfl | rfl | rfl | rfl | rfl | rfl <;> first | (simp [updI, updV]; done) | rfl)
                      have fin420 := fin_add44_420 f x y M f12 f13 q0 q1 q2 q3 hM' c293 c299 c384 c385 c394
                      exact ⟨a295, rfl, N418, (Keep.wr (Keep.wr (Keep.wr (Keep.wr (Keep.wr (Keep.wr (Keep.wr (Keep.ext (Keep.refl _ _) E295) W375 (Or.inr y_a295)) W376 (Or.inr y_a295)) W386 (Or.inr y_a295)) W387 (Or.inr y_a295)) W413 (Or.inr y_a295)) W416 (Or.inl (List.mem_of_getElem? (i := 0) rfl))) W418 (Or.inl (List.mem_of_getElem? (i := 0) rfl))), (Exa.wr W418 (Exa.wr W416 F415)), ⟨_, _, 6, 4, _, F421, (Fld.same W418 F417), AC420, ne_a_a295, (fun _ => g_a295), (Or.inr (Or.inr (Or.inr (Or.inr (Or.inr (Or.inr (Or.inl ⟨(k_up f9 (by decide)), rfl, rfl, rfl⟩))))))), fin420.1, fin420.2⟩⟩
              · refine Go.icmpNo X381 hx (hb hby d_add44_265) (XT.ii_gt_f c385) ?_
                show Go _ _ _ _ T381 (mkF m 268 #[.val (.ref a), .val (.ref am), .val (.int (2 : Int32)), .val (.ref a295), .val (.int (2 : Int32)), .val (.int (2 : Int32)), .val (.int (2 : Int32)), .val (.int x), .val (.int y)] []) _ _ _
                as_aux_lemma =>
                  refine Go.aloadN X381 hx (hb hby d_add44_268) rfl rfl ?_
                  refine Go.iload X381 hx (hb hby d_add44_269) rfl ?_
                  refine Go.iconst X381 hx (hb hby d_add44_271) ?_
                  show Go _ _ _ _ T381 (mkF m 272 #[.val (.ref a), .val (.ref am), .val (.int (2 : Int32)), .val (.ref a295), .val (.int (2 : Int32)), .val (.int (2 : Int32)), .val (.int (2 : Int32)), .val (.int x), .val (.int y)] [(.int (1 : Int32)), (.int (2 : Int32)), (.ref a295)]) _ _ _
                  refine Go.isub X381 hx (hb hby d_add44_272) ?_
                  show Go _ _ _ _ T381 (mkF m 273 #[.val (.ref a), .val (.ref am), .val (.int (2 : Int32)), .val (.ref a295), .val (.int (2 : Int32)), .val (.int (2 : Int32)), .val (.int (2 : Int32)), .val (.int x), .val (.int y)] [(.int (1 : Int32)), (.ref a295)]) _ _ _
                  refine Go.aloadN X381 hx (hb hby d_add44_273) rfl rfl ?_
                  refine Go.iload X381 hx (hb hby d_add44_274) rfl ?_
                  refine Go.iconst X381 hx (hb hby d_add44_276) ?_
                  show Go _ _ _ _ T381 (mkF m 277 #[.val (.ref a), .val (.ref am), .val (.int (2 : Int32)), .val (.ref a295), .val (.int (2 : Int32)), .val (.int (2 : Int32)), .val (.int (2 : Int32)), .val (.int x), .val (.int y)] [(.int (1 : Int32)), (.int (2 : Int32)), (.ref a295), (.int (1 : Int32)), (.ref a295)]) _ _ _
                  refine Go.isub X381 hx (hb hby d_add44_277) ?_
                  show Go _ _ _ _ T381 (mkF m 278 #[.val (.ref a), .val (.ref am), .val (.int (2 : Int32)), .val (.ref a295), .val (.int (2 : Int32)), .val (.int (2 : Int32)), .val (.int (2 : Int32)), .val (.int x), .val (.int y)] [(.int (1 : Int32)), (.ref a295), (.int (1 : Int32)), (.ref a295)]) _ _ _
                  refine Go.iaload X381 hx hZ e381 A376 (by decide) (by decide) (hb hby d_add44_278) ?_
                  show Go _ _ _ _ T381 (mkF m 279 #[.val (.ref a), .val (.ref am), .val (.int (2 : Int32)), .val (.ref a295), .val (.int (2 : Int32)), .val (.int (2 : Int32)), .val (.int (2 : Int32)), .val (.int x), .val (.int y)] [(.int (f 1)), (.int (1 : Int32)), (.ref a295)]) _ _ _
                  refine Go.iload X381 hx (hb hby d_add44_279) rfl ?_
                  refine Go.callS (W := 2) (argsL := [(.int (f 1)), (.int y)]) (rest := [(.int (1 : Int32)), (.ref a295)]) X381 hx hZ hown (w33 hw) (w6 hw) (w3 hw) (w7 hw) (by decide) (rm_max l Z a0 hw ((f 1)) y h376) e381 (lenOf pd_0 rfl) (hb hby d_add44_281) (by rw [hml]; rfl) rfl (Nat.le_of_eq rfl) (by decide) (by decide) (by decide) (by decide) ?_
                  intro v428 T428 L428 X428 q428
                  obtain ⟨rfl, rfl, e428⟩ := q428
                  have N428 := Fr.app N376 (Fr.nil n0)
                  show Go _ _ _ _ T428 (mkF m 284 #[.val (.ref a), .val (.ref am), .val (.int (2 : Int32)), .val (.ref a295), .val (.int (2 : Int32)), .val (.int (2 : Int32)), .val (.int (2 : Int32)), .val (.int x), .val (.int y)] [(.int (F_max (f 1) y)), (.int (1 : Int32)), (.ref a295)]) _ _ _
                  refine Go.iastore X428 hx hZ e428 A376 (by decide) (by decide) (hb hby d_add44_284) ?_
                  intro T429 h429 X429 e429 W429 A429
                  have N429 := Fr.snoc X429 N428 g_a295
                  have Z429 : n0 ≤ h429.size := by rw [Wr.size W429]; exact Z376
                  have B429 : h0.size ≤ h429.size := by rw [Wr.size W429]; exact B376
                  show Go _ _ _ _ T429 (mkF m 285 #[.val (.ref a), .val (.ref am), .val (.int (2 : Int32)), .val (.ref a295), .val (.int (2 : Int32)), .val (.int (2 : Int32)), .val (.int (2 : Int32)), .val (.int x), .val (.int y)] []) _ _ _
                  refine Go.goto X429 hx (hb hby d_add44_285) (pc' := 306) (by decide) (by decide) ?_
                  show Go _ _ _ _ T429 (mkF m 306 #[.val (.ref a), .val (.ref am), .val (.int (2 : Int32)), .val (.ref a295), .val (.int (2 : Int32)), .val (.int (2 : Int32)), .val (.int (2 : Int32)), .val (.int x), .val (.int y)] []) _ _ _
                  refine Go.goto X429 hx (hb hby d_add44_306) (pc' := 165) (by decide) (by decide) ?_
                  show Go _ _ _ _ T429 (mkF m 165 #[.val (.ref a), .val (.ref am), .val (.int (2 : Int32)), .val (.ref a295), .val (.int (2 : Int32)), .val (.int (2 : Int32)), .val (.int (2 : Int32)), .val (.int x), .val (.int y)] []) _ _ _
                  refine Go.iload X429 hx (hb hby d_add44_165) rfl ?_
                  refine Go.aloadN X429 hx (hb hby d_add44_167) rfl rfl ?_
                  refine Go.getF X429 hx hZ hown (w31 hw) Via.refl e429 (Fld.other W429 F377 (Or.inl ne_a_a295)) (hb hby d_add44_168) ?_
                  intro T430 X430 e430
                  show Go _ _ _ _ T430 (mkF m 171 #[.val (.ref a), .val (.ref am), .val (.int (2 : Int32)), .val (.ref a295), .val (.int (2 : Int32)), .val (.int (2 : Int32)), .val (.int (2 : Int32)), .val (.int x), .val (.int y)] [(.int (4 : Int32)), (.int (2 : Int32))]) _ _ _
                  refine Go.icmpYes X430 hx (hb hby d_add44_171) (XT.ii_lt_t (by decide)) (pc' := 180) (by decide) (by decide) ?_
                  show Go _ _ _ _ T430 (mkF m 180 #[.val (.ref a), .val (.ref am), .val (.int (2 : Int32)), .val (.ref a295), .val (.int (2 : Int32)), .val (.int (2 : Int32)), .val (.int (2 : Int32)), .val (.int x), .val (.int y)] []) _ _ _
                  refine Go.iload X430 hx (hb hby d_add44_180) rfl ?_
                  refine Go.iloadN X430 hx (hb hby d_add44_182) rfl ?_
                  refine Go.icmpYes X430 hx (hb hby d_add44_183) (XT.ii_eq_t (by decide)) (pc' := 209) (by decide) (by decide) ?_
                  show Go _ _ _ _ T430 (mkF m 209 #[.val (.ref a), .val (.ref am), .val (.int (2 : Int32)), .val (.ref a295), .val (.int (2 : Int32)), .val (.int (2 : Int32)), .val (.int (2 : Int32)), .val (.int x), .val (.int y)] []) _ _ _
                  refine Go.aloadN X430 hx (hb hby d_add44_209) rfl rfl ?_
                  refine Go.getF X430 hx hZ hown (w19 hw) Via.refl e430 (Fld.other W429 F380 (Or.inl ne_a_a295)) (hb hby d_add44_210) ?_
                  intro T431 X431 e431
                  show Go _ _ _ _ T431 (mkF m 213 #[.val (.ref a), .val (.ref am), .val (.int (2 : Int32)), .val (.ref a295), .val (.int (2 : Int32)), .val (.int (2 : Int32)), .val (.int (2 : Int32)), .val (.int x), .val (.int y)] [(.ref aB)]) _ _ _
                  refine Go.iload X431 hx (hb hby d_add44_213) rfl ?_
                  refine Go.iaload X431 hx hZ e431 (Af.other W429 F382 ne_aB_a295) (by decide) (by decide) (hb hby d_add44_215) ?_
                  show Go _ _ _ _ T431 (mkF m 216 #[.val (.ref a), .val (.ref am), .val (.int (2 : Int32)), .val (.ref a295), .val (.int (2 : Int32)), .val (.int (2 : Int32)), .val (.int (2 : Int32)), .val (.int x), .val (.int y)] [(.int (f 2))]) _ _ _
                  refine Go.istore X431 hx (hb hby d_add44_216) (l' := #[.val (.ref a), .val (.ref am), .val (.int (2 : Int32)), .val (.ref a295), .val (.int (2 : Int32)), .val (.int (2 : Int32)), .val (.int (2 : Int32)), .val (.int (f 2)), .val (.int y)]) rfl ?_
                  refine Go.aloadN X431 hx (hb hby d_add44_218) rfl rfl ?_
                  refine Go.getF X431 hx hZ hown (w19 hw) Via.refl e431 (Fld.other W429 F380 (Or.inl ne_a_a295)) (hb hby d_add44_219) ?_
                  intro T432 X432 e432
                  show Go _ _ _ _ T432 (mkF m 222 #[.val (.ref a), .val (.ref am), .val (.int (2 : Int32)), .val (.ref a295), .val (.int (2 : Int32)), .val (.int (2 : Int32)), .val (.int (2 : Int32)), .val (.int (f 2)), .val (.int y)] [(.ref aB)]) _ _ _
                  refine Go.iload X432 hx (hb hby d_add44_222) rfl ?_
                  refine Go.iconst X432 hx (hb hby d_add44_224) ?_
                  show Go _ _ _ _ T432 (mkF m 225 #[.val (.ref a), .val (.ref am), .val (.int (2 : Int32)), .val (.ref a295), .val (.int (2 : Int32)), .val (.int (2 : Int32)), .val (.int (2 : Int32)), .val (.int (f 2)), .val (.int y)] [(.int (1 : Int32)), (.int (2 : Int32)), (.ref aB)]) _ _ _
                  refine Go.iadd X432 hx (hb hby d_add44_225) ?_
                  show Go _ _ _ _ T432 (mkF m 226 #[.val (.ref a), .val (.ref am), .val (.int (2 : Int32)), .val (.ref a295), .val (.int (2 : Int32)), .val (.int (2 : Int32)), .val (.int (2 : Int32)), .val (.int (f 2)), .val (.int y)] [(.int (3 : Int32)), (.ref aB)]) _ _ _
                  refine Go.iaload X432 hx hZ e432 (Af.other W429 F382 ne_aB_a295) (by decide) (by decide) (hb hby d_add44_226) ?_
                  show Go _ _ _ _ T432 (mkF m 227 #[.val (.ref a), .val (.ref am), .val (.int (2 : Int32)), .val (.ref a295), .val (.int (2 : Int32)), .val (.int (2 : Int32)), .val (.int (2 : Int32)), .val (.int (f 2)), .val (.int y)] [(.int (f 3))]) _ _ _
                  refine Go.istore X432 hx (hb hby d_add44_227) (l' := #[.val (.ref a), .val (.ref am), .val (.int (2 : Int32)), .val (.ref a295), .val (.int (2 : Int32)), .val (.int (2 : Int32)), .val (.int (2 : Int32)), .val (.int (f 2)), .val (.int (f 3))]) rfl ?_
                  refine Go.iinc X432 hx (hb hby d_add44_229) rfl (l' := #[.val (.ref a), .val (.ref am), .val (.int (2 : Int32)), .val (.ref a295), .val (.int (2 : Int32)), .val (.int (4 : Int32)), .val (.int (2 : Int32)), .val (.int (f 2)), .val (.int (f 3))]) rfl ?_
                  show Go _ _ _ _ T432 (mkF m 232 #[.val (.ref a), .val (.ref am), .val (.int (2 : Int32)), .val (.ref a295), .val (.int (2 : Int32)), .val (.int (4 : Int32)), .val (.int (2 : Int32)), .val (.int (f 2)), .val (.int (f 3))] []) _ _ _
                  refine Go.goto X432 hx (hb hby d_add44_232) (pc' := 252) (by decide) (by decide) ?_
                  show Go _ _ _ _ T432 (mkF m 252 #[.val (.ref a), .val (.ref am), .val (.int (2 : Int32)), .val (.ref a295), .val (.int (2 : Int32)), .val (.int (4 : Int32)), .val (.int (2 : Int32)), .val (.int (f 2)), .val (.int (f 3))] []) _ _ _
                  refine Go.iload X432 hx (hb hby d_add44_252) rfl ?_
                  refine Go.ifNo X432 hx (hb hby d_add44_254) (XT.i0_le_f (by decide)) ?_
                  show Go _ _ _ _ T432 (mkF m 257 #[.val (.ref a), .val (.ref am), .val (.int (2 : Int32)), .val (.ref a295), .val (.int (2 : Int32)), .val (.int (4 : Int32)), .val (.int (2 : Int32)), .val (.int (f 2)), .val (.int (f 3))] []) _ _ _
                  refine Go.iload X432 hx (hb hby d_add44_257) rfl ?_
                  refine Go.aloadN X432 hx (hb hby d_add44_259) rfl rfl ?_
                  refine Go.iload X432 hx (hb hby d_add44_260) rfl ?_
                  refine Go.iconst X432 hx (hb hby d_add44_262) ?_
                  show Go _ _ _ _ T432 (mkF m 263 #[.val (.ref a), .val (.ref am), .val (.int (2 : Int32)), .val (.ref a295), .val (.int (2 : Int32)), .val (.int (4 : Int32)), .val (.int (2 : Int32)), .val (.int (f 2)), .val (.int (f 3))] [(.int (1 : Int32)), (.int (2 : Int32)), (.ref a295), (.int (f 2))]) _ _ _
                  refine Go.isub X432 hx (hb hby d_add44_263) ?_
                  show Go _ _ _ _ T432 (mkF m 264 #[.val (.ref a), .val (.ref am), .val (.int (2 : Int32)), .val (.ref a295), .val (.int (2 : Int32)), .val (.int (4 : Int32)), .val (.int (2 : Int32)), .val (.int (f 2)), .val (.int (f 3))] [(.int (1 : Int32)), (.ref a295), (.int (f 2))]) _ _ _
                  refine Go.iaload X432 hx hZ e432 A429 (by decide) (by decide) (hb hby d_add44_264) ?_
                  show Go _ _ _ _ T432 (mkF m 265 #[.val (.ref a), .val (.ref am), .val (.int (2 : Int32)), .val (.ref a295), .val (.int (2 : Int32)), .val (.int (4 : Int32)), .val (.int (2 : Int32)), .val (.int (f 2)), .val (.int (f 3))] [(.int (F_max (f 1) y)), (.int (f 2))]) _ _ _
                  rcases Decidable.em ((F_max (f 1) y) < (f 2)) with c433 | c433
                  · refine Go.icmpYes X432 hx (hb hby d_add44_265) (XT.ii_gt_t c433) (pc' := 288) (by decide) (by decide) ?_
                    show Go _ _ _ _ T432 (mkF m 288 #[.val (.ref a), .val (.ref am), .val (.int (2 : Int32)), .val (.ref a295), .val (.int (2 : Int32)), .val (.int (4 : Int32)), .val (.int (2 : Int32)), .val (.int (f 2)), .val (.int (f 3))] []) _ _ _
                    as_aux_lemma =>
                      refine Go.aloadN X432 hx (hb hby d_add44_288) rfl rfl ?_
                      refine Go.iload X432 hx (hb hby d_add44_289) rfl ?_
                      refine Go.iinc X432 hx (hb hby d_add44_291) rfl (l' := #[.val (.ref a), .val (.ref am), .val (.int (2 : Int32)), .val (.ref a295), .val (.int (3 : Int32)), .val (.int (4 : Int32)), .val (.int (2 : Int32)), .val (.int (f 2)), .val (.int (f 3))]) rfl ?_
                      show Go _ _ _ _ T432 (mkF m 294 #[.val (.ref a), .val (.ref am), .val (.int (2 : Int32)), .val (.ref a295), .val (.int (3 : Int32)), .val (.int (4 : Int32)), .val (.int (2 : Int32)), .val (.int (f 2)), .val (.int (f 3))] [(.int (2 : Int32)), (.ref a295)]) _ _ _
                      refine Go.iload X432 hx (hb hby d_add44_294) rfl ?_
                      refine Go.iastore X432 hx hZ e432 A429 (by decide) (by decide) (hb hby d_add44_296) ?_
                      intro T434 h434 X434 e434 W434 A434
                      have N434 := Fr.snoc X434 N429 g_a295
                      have Z434 : n0 ≤ h434.size := by rw [Wr.size W434]; exact Z429
                      have B434 : h0.size ≤ h434.size := by rw [Wr.size W434]; exact B429
                      show Go _ _ _ _ T434 (mkF m 297 #[.val (.ref a), .val (.ref am), .val (.int (2 : Int32)), .val (.ref a295), .val (.int (3 : Int32)), .val (.int (4 : Int32)), .val (.int (2 : Int32)), .val (.int (f 2)), .val (.int (f 3))] []) _ _ _
                      refine Go.aloadN X434 hx (hb hby d_add44_297) rfl rfl ?_
                      refine Go.iload X434 hx (hb hby d_add44_298) rfl ?_
                      refine Go.iinc X434 hx (hb hby d_add44_300) rfl (l' := #[.val (.ref a), .val (.ref am), .val (.int (2 : Int32)), .val (.ref a295), .val (.int (4 : Int32)), .val (.int (4 : Int32)), .val (.int (2 : Int32)), .val (.int (f 2)), .val (.int (f 3))]) rfl ?_
                      show Go _ _ _ _ T434 (mkF m 303 #[.val (.ref a), .val (.ref am), .val (.int (2 : Int32)), .val (.ref a295), .val (.int (4 : Int32)), .val (.int (4 : Int32)), .val (.int (2 : Int32)), .val (.int (f 2)), .val (.int (f 3))] [(.int (3 : Int32)), (.ref a295)]) _ _ _
                      refine Go.iload X434 hx (hb hby d_add44_303) rfl ?_
                      refine Go.iastore X434 hx hZ e434 A434 (by decide) (by decide) (hb hby d_add44_305) ?_
                      intro T435 h435 X435 e435 W435 A435
                      have N435 := Fr.snoc X435 N434 g_a295
                      have Z435 : n0 ≤ h435.size := by rw [Wr.size W435]; exact Z434
                      have B435 : h0.size ≤ h435.size := by rw [Wr.size W435]; exact B434
                      show Go _ _ _ _ T435 (mkF m 306 #[.val (.ref a), .val (.ref am), .val (.int (2 : Int32)), .val (.ref a295), .val (.int (4 : Int32)), .val (.int (4 : Int32)), .val (.int (2 : Int32)), .val (.int (f 2)), .val (.int (f 3))] []) _ _ _
                      refine Go.goto X435 hx (hb hby d_add44_306) (pc' := 165) (by decide) (by decide) ?_
                      show Go _ _ _ _ T435 (mkF m 165 #[.val (.ref a), .val (.ref am), .val (.int (2 : Int32)), .val (.ref a295), .val (.int (4 : Int32)), .val (.int (4 : Int32)), .val (.int (2 : Int32)), .val (.int (f 2)), .val (.int (f 3))] []) _ _ _
                      refine Go.iload X435 hx (hb hby d_add44_165) rfl ?_
                      refine Go.aloadN X435 hx (hb hby d_add44_167) rfl rfl ?_
                      have F436 := (Fld.other W435 (Fld.other W434 (Fld.other W429 F377 (Or.inl ne_a_a295)) (Or.inl ne_a_a295)) (Or.inl ne_a_a295))
                      refine Go.getF X435 hx hZ hown (w31 hw) Via.refl e435 F436 (hb hby d_add44_168) ?_
                      intro T437 X437 e437
                      show Go _ _ _ _ T437 (mkF m 171 #[.val (.ref a), .val (.ref am), .val (.int (2 : Int32)), .val (.ref a295), .val (.int (4 : Int32)), .val (.int (4 : Int32)), .val (.int (2 : Int32)), .val (.int (f 2)), .val (.int (f 3))] [(.int (4 : Int32)), (.int (4 : Int32))]) _ _ _
                      refine Go.icmpNo X437 hx (hb hby d_add44_171) (XT.ii_lt_f (by decide)) ?_
                      show Go _ _ _ _ T437 (mkF m 174 #[.val (.ref a), .val (.ref am), .val (.int (2 : Int32)), .val (.ref a295), .val (.int (4 : Int32)), .val (.int (4 : Int32)), .val (.int (2 : Int32)), .val (.int (f 2)), .val (.int (f 3))] []) _ _ _
                      refine Go.iload X437 hx (hb hby d_add44_174) rfl ?_
                      refine Go.iloadN X437 hx (hb hby d_add44_176) rfl ?_
                      refine Go.icmpYes X437 hx (hb hby d_add44_177) (XT.ii_ge_t (by decide)) (pc' := 309) (by decide) (by decide) ?_
                      show Go _ _ _ _ T437 (mkF m 309 #[.val (.ref a), .val (.ref am), .val (.int (2 : Int32)), .val (.ref a295), .val (.int (4 : Int32)), .val (.int (4 : Int32)), .val (.int (2 : Int32)), .val (.int (f 2)), .val (.int (f 3))] []) _ _ _
                      refine Go.aloadN X437 hx (hb hby d_add44_309) rfl rfl ?_
                      refine Go.aloadN X437 hx (hb hby d_add44_310) rfl rfl ?_
                      have F438 := (Fld.other W435 (Fld.other W434 (Fld.other W429 F380 (Or.inl ne_a_a295)) (Or.inl ne_a_a295)) (Or.inl ne_a_a295))
                      have F439 := (Exa.wr W435 (Exa.wr W434 (Exa.wr W429 (Exa.wr W376 (Exa.wr W375 (Exa.ext E295 f0))))))
                      refine Go.putF X437 hx hZ hown (w19 hw) Via.refl e437 F438 F439 (Or.inl (w20 hw)) (w9 hw) (ty := (.array .int)) (by decide) rfl rfl (hb hby d_add44_311) ?_
                      intro T440 h440 X440 e440 W440
                      have N440 := Fr.snoc X440 N435 f1
                      have Z440 : n0 ≤ h440.size := by rw [Wr.size W440]; exact Z435
                      have B440 : h0.size ≤ h440.size := by rw [Wr.size W440]; exact B435
                      show Go _ _ _ _ T440 (mkF m 314 #[.val (.ref a), .val (.ref am), .val (.int (2 : Int32)), .val (.ref a295), .val (.int (4 : Int32)), .val (.int (4 : Int32)), .val (.int (2 : Int32)), .val (.int (f 2)), .val (.int (f 3))] []) _ _ _
                      refine Go.aloadN X440 hx (hb hby d_add44_314) rfl rfl ?_
                      refine Go.iload X440 hx (hb hby d_add44_315) rfl ?_
                      have F441 := (Fld.other W440 F436 (Or.inr (slot_ne (a0 := a0) (Or.inl (w32 hw)) (Or.inl (w20 hw)) (t := .int) (t' := (.array .int)) (by decide) (by decide) (by decide))))
                      refine Go.putF X440 hx hZ hown (w31 hw) Via.refl e440 F441 (Exa.wr W440 F439) (Or.inl (w32 hw)) (w9 hw) (ty := .int) (by decide) rfl rfl (hb hby d_add44_317) ?_
                      intro T442 h442 X442 e442 W442
                      have N442 := Fr.snoc X442 N440 f1
                      have Z442 : n0 ≤ h442.size := by rw [Wr.size W442]; exact Z440
                      have B442 : h0.size ≤ h442.size := by rw [Wr.size W442]; exact B440
                      show Go _ _ _ _ T442 (mkF m 320 #[.val (.ref a), .val (.ref am), .val (.int (2 : Int32)), .val (.ref a295), .val (.int (4 : Int32)), .val (.int (4 : Int32)), .val (.int (2 : Int32)), .val (.int (f 2)), .val (.int (f 3))] []) _ _ _
                      refine Go.ret0 X442 hx hlk hret (hb hby d_add44_320) (by decide) (by decide) ?_
                      rw [e442]
                      have F443 := (Af.other W442 (Af.other W440 A435 (Ne.symm ne_a_a295)) (Ne.symm ne_a_a295))
                      have F445 := (Fld.other W442 (Fld.same W440 F438) (Or.inr (slot_ne (a0 := a0) (Or.inl (w20 hw)) (Or.inl (w32 hw)) (t := (.array .int)) (t' := .int) (by decide) (by decide) (by decide))))
                      have AC444 : Af Z h442 a295 k295 .int 6 (fun i => Value.int ((updI (updI (updI (updI (updI (updI (fun _ => (0 : Int32)) 0 (f 0)) 1 (F_max (f 1) y)) 2 (f 2)) 3 (f 3)) 4 (0 : Int32)) 5 (0 : Int32)) i)) := Af.congr F443 (fun i hi => by have hi' : i < 6 := hi; rcases lt_6 hi' with rfl | rfl | rfl | rfl | rfl | rfl <;> first | (simp [updI, updV]; done) | rfl)
                      have fin444 := fin_add44_444 f x y M f12 f13 q0 q1 q2 q3 hM' c293 c299 c384 c385 c433
                      exact ⟨a295, rfl, N442, (Keep.wr (Keep.wr (Keep.wr (Keep.wr (Keep.wr (Keep.wr (Keep.wr (Keep.ext (Keep.refl _ _) E295) W375 (Or.inr y_a295)) W376 (Or.inr y_a295)) W429 (Or.inr y_a295)) W434 (Or.inr y_a295)) W435 (Or.inr y_a295)) W440 (Or.inl (List.mem_of_getElem? (i := 0) rfl))) W442 (Or.inl (List.mem_of_getElem? (i := 0) rfl))), (Exa.wr W442 (Exa.wr W440 F439)), ⟨_, _, 6, 4, _, F445, (Fld.same W442 F441), AC444, ne_a_a295, (fun _ => g_a295), (Or.inr (Or.inr (Or.inr (Or.inr (Or.inr (Or.inr (Or.inl ⟨(k_up f9 (by decide)), rfl, rfl, rfl⟩))))))), fin444.1, fin444.2⟩⟩
                  · refine Go.icmpNo X432 hx (hb hby d_add44_265) (XT.ii_gt_f c433) ?_
                    show Go _ _ _ _ T432 (mkF m 268 #[.val (.ref a), .val (.ref am), .val (.int (2 : Int32)), .val (.ref a295), .val (.int (2 : Int32)), .val (.int (4 : Int32)), .val (.int (2 : Int32)), .val (.int (f 2)), .val (.int (f 3))] []) _ _ _
                    as_aux_lemma =>
                      refine Go.aloadN X432 hx (hb hby d_add44_268) rfl rfl ?_
                      refine Go.iload X432 hx (hb hby d_add44_269) rfl ?_
                      refine Go.iconst X432 hx (hb hby d_add44_271) ?_
                      show Go _ _ _ _ T432 (mkF m 272 #[.val (.ref a), .val (.ref am), .val (.int (2 : Int32)), .val (.ref a295), .val (.int (2 : Int32)), .val (.int (4 : Int32)), .val (.int (2 : Int32)), .val (.int (f 2)), .val (.int (f 3))] [(.int (1 : Int32)), (.int (2 : Int32)), (.ref a295)]) _ _ _
                      refine Go.isub X432 hx (hb hby d_add44_272) ?_
                      show Go _ _ _ _ T432 (mkF m 273 #[.val (.ref a), .val (.ref am), .val (.int (2 : Int32)), .val (.ref a295), .val (.int (2 : Int32)), .val (.int (4 : Int32)), .val (.int (2 : Int32)), .val (.int (f 2)), .val (.int (f 3))] [(.int (1 : Int32)), (.ref a295)]) _ _ _
                      refine Go.aloadN X432 hx (hb hby d_add44_273) rfl rfl ?_
                      refine Go.iload X432 hx (hb hby d_add44_274) rfl ?_
                      refine Go.iconst X432 hx (hb hby d_add44_276) ?_
                      show Go _ _ _ _ T432 (mkF m 277 #[.val (.ref a), .val (.ref am), .val (.int (2 : Int32)), .val (.ref a295), .val (.int (2 : Int32)), .val (.int (4 : Int32)), .val (.int (2 : Int32)), .val (.int (f 2)), .val (.int (f 3))] [(.int (1 : Int32)), (.int (2 : Int32)), (.ref a295), (.int (1 : Int32)), (.ref a295)]) _ _ _
                      refine Go.isub X432 hx (hb hby d_add44_277) ?_
                      show Go _ _ _ _ T432 (mkF m 278 #[.val (.ref a), .val (.ref am), .val (.int (2 : Int32)), .val (.ref a295), .val (.int (2 : Int32)), .val (.int (4 : Int32)), .val (.int (2 : Int32)), .val (.int (f 2)), .val (.int (f 3))] [(.int (1 : Int32)), (.ref a295), (.int (1 : Int32)), (.ref a295)]) _ _ _
                      refine Go.iaload X432 hx hZ e432 A429 (by decide) (by decide) (hb hby d_add44_278) ?_
                      show Go _ _ _ _ T432 (mkF m 279 #[.val (.ref a), .val (.ref am), .val (.int (2 : Int32)), .val (.ref a295), .val (.int (2 : Int32)), .val (.int (4 : Int32)), .val (.int (2 : Int32)), .val (.int (f 2)), .val (.int (f 3))] [(.int (F_max (f 1) y)), (.int (1 : Int32)), (.ref a295)]) _ _ _
                      refine Go.iload X432 hx (hb hby d_add44_279) rfl ?_
                      refine Go.callS (W := 2) (argsL := [(.int (F_max (f 1) y)), (.int (f 3))]) (rest := [(.int (1 : Int32)), (.ref a295)]) X432 hx hZ hown (w33 hw) (w6 hw) (w3 hw) (w7 hw) (by decide) (rm_max l Z a0 hw ((F_max (f 1) y)) ((f 3)) h429) e432 (lenOf pd_0 rfl) (hb hby d_add44_281) (by rw [hml]; rfl) rfl (Nat.le_of_eq rfl) (by decide) (by decide) (by decide) (by decide) ?_
                      intro v452 T452 L452 X452 q452
                      obtain ⟨rfl, rfl, e452⟩ := q452
                      have N452 := Fr.app N429 (Fr.nil n0)
                      show Go _ _ _ _ T452 (mkF m 284 #[.val (.ref a), .val (.ref am), .val (.int (2 : Int32)), .val (.ref a295), .val (.int (2 : Int32)), .val (.int (4 : Int32)), .val (.int (2 : Int32)), .val (.int (f 2)), .val (.int (f 3))] [(.int (F_max (F_max (f 1) y) (f 3))), (.int (1 : Int32)), (.ref a295)]) _ _ _
                      refine Go.iastore X452 hx hZ e452 A429 (by decide) (by decide) (hb hby d_add44_284) ?_
                      intro T453 h453 X453 e453 W453 A453
                      have N453 := Fr.snoc X453 N452 g_a295
                      have Z453 : n0 ≤ h453.size := by rw [Wr.size W453]; exact Z429
                      have B453 : h0.size ≤ h453.size := by rw [Wr.size W453]; exact B429
                      show Go _ _ _ _ T453 (mkF m 285 #[.val (.ref a), .val (.ref am), .val (.int (2 : Int32)), .val (.ref a295), .val (.int (2 : Int32)), .val (.int (4 : Int32)), .val (.int (2 : Int32)), .val (.int (f 2)), .val (.int (f 3))] []) _ _ _
                      refine Go.goto X453 hx (hb hby d_add44_285) (pc' := 306) (by decide) (by decide) ?_
                      show Go _ _ _ _ T453 (mkF m 306 #[.val (.ref a), .val (.ref am), .val (.int (2 : Int32)), .val (.ref a295), .val (.int (2 : Int32)), .val (.int (4 : Int32)), .val (.int (2 : Int32)), .val (.int (f 2)), .val (.int (f 3))] []) _ _ _
                      refine Go.goto X453 hx (hb hby d_add44_306) (pc' := 165) (by decide) (by decide) ?_
                      show Go _ _ _ _ T453 (mkF m 165 #[.val (.ref a), .val (.ref am), .val (.int (2 : Int32)), .val (.ref a295), .val (.int (2 : Int32)), .val (.int (4 : Int32)), .val (.int (2 : Int32)), .val (.int (f 2)), .val (.int (f 3))] []) _ _ _
                      refine Go.iload X453 hx (hb hby d_add44_165) rfl ?_
                      refine Go.aloadN X453 hx (hb hby d_add44_167) rfl rfl ?_
                      have F454 := (Fld.other W453 (Fld.other W429 F377 (Or.inl ne_a_a295)) (Or.inl ne_a_a295))
                      refine Go.getF X453 hx hZ hown (w31 hw) Via.refl e453 F454 (hb hby d_add44_168) ?_
                      intro T455 X455 e455
                      show Go _ _ _ _ T455 (mkF m 171 #[.val (.ref a), .val (.ref am), .val (.int (2 : Int32)), .val (.ref a295), .val (.int (2 : Int32)), .val (.int (4 : Int32)), .val (.int (2 : Int32)), .val (.int (f 2)), .val (.int (f 3))] [(.int (4 : Int32)), (.int (4 : Int32))]) _ _ _
                      refine Go.icmpNo X455 hx (hb hby d_add44_171) (XT.ii_lt_f (by decide)) ?_
                      show Go _ _ _ _ T455 (mkF m 174 #[.val (.ref a), .val (.ref am), .val (.int (2 : Int32)), .val (.ref a295), .val (.int (2 : Int32)), .val (.int (4 : Int32)), .val (.int (2 : Int32)), .val (.int (f 2)), .val (.int (f 3))] []) _ _ _
                      refine Go.iload X455 hx (hb hby d_add44_174) rfl ?_
                      refine Go.iloadN X455 hx (hb hby d_add44_176) rfl ?_
                      refine Go.icmpYes X455 hx (hb hby d_add44_177) (XT.ii_ge_t (by decide)) (pc' := 309) (by decide) (by decide) ?_
                      show Go _ _ _ _ T455 (mkF m 309 #[.val (.ref a), .val (.ref am), .val (.int (2 : Int32)), .val (.ref a295), .val (.int (2 : Int32)), .val (.int (4 : Int32)), .val (.int (2 : Int32)), .val (.int (f 2)), .val (.int (f 3))] []) _ _ _
                      refine Go.aloadN X455 hx (hb hby d_add44_309) rfl rfl ?_
                      refine Go.aloadN X455 hx (hb hby d_add44_310) rfl rfl ?_
                      have F456 := (Fld.other W453 (Fld.other W429 F380 (Or.inl ne_a_a295)) (Or.inl ne_a_a295))
                      have F457 := (Exa.wr W453 (Exa.wr W429 (Exa.wr W376 (Exa.wr W375 (Exa.ext E295 f0)))))
                      refine Go.putF X455 hx hZ hown (w19 hw) Via.refl e455 F456 F457 (Or.inl (w20 hw)) (w9 hw) (ty := (.array .int)) (by decide) rfl rfl (hb hby d_add44_311) ?_
                      intro T458 h458 X458 e458 W458
                      have N458 := Fr.snoc X458 N453 f1
                      have Z458 : n0 ≤ h458.size := by rw [Wr.size W458]; exact Z453
                      have B458 : h0.size ≤ h458.size := by rw [Wr.size W458]; exact B453
                      show Go _ _ _ _ T458 (mkF m 314 #[.val (.ref a), .val (.ref am), .val (.int (2 : Int32)), .val (.ref a295), .val (.int (2 : Int32)), .val (.int (4 : Int32)), .val (.int (2 : Int32)), .val (.int (f 2)), .val (.int (f 3))] []) _ _ _
                      refine Go.aloadN X458 hx (hb hby d_add44_314) rfl rfl ?_
                      refine Go.iload X458 hx (hb hby d_add44_315) rfl ?_
                      have F459 := (Fld.other W458 F454 (Or.inr (slot_ne (a0 := a0) (Or.inl (w32 hw)) (Or.inl (w20 hw)) (t := .int) (t' := (.array .int)) (by decide) (by decide) (by decide))))
                      refine Go.putF X458 hx hZ hown (w31 hw) Via.refl e458 F459 (Exa.wr W458 F457) (Or.inl (w32 hw)) (w9 hw) (ty := .int) (by decide) rfl rfl (hb hby d_add44_317) ?_
                      intro T460 h460 X460 e460 W460
                      have N460 := Fr.snoc X460 N458 f1
                      have Z460 : n0 ≤ h460.size := by rw [Wr.size W460]; exact Z458
                      have B460 : h0.size ≤ h460.size := by rw [Wr.size W460]; exact B458
                      show Go _ _ _ _ T460 (mkF m 320 #[.val (.ref a), .val (.ref am), .val (.int (2 : Int32)), .val (.ref a295), .val (.int (2 : Int32)), .val (.int (4 : Int32)), .val (.int (2 : Int32)), .val (.int (f 2)), .val (.int (f 3))] []) _ _ _
                      refine Go.ret0 X460 hx hlk hret (hb hby d_add44_320) (by decide) (by decide) ?_
                      rw [e460]
                      have F461 := (Af.other W460 (Af.other W458 A453 (Ne.symm ne_a_a295)) (Ne.symm ne_a_a295))
                      have F463 := (Fld.other W460 (Fld.same W458 F456) (Or.inr (slot_ne (a0 := a0) (Or.inl (w20 hw)) (Or.inl (w32 hw)) (t := (.array .int)) (t' := .int) (by decide) (by decide) (by decide))))
                      have AC462 : Af Z h460 a295 k295 .int 6 (fun i => Value.int ((updI (updI (updI (updI (updI (updI (fun _ => (0 : Int32)) 0 (f 0)) 1 (F_max (F_max (f 1) y) (f 3))) 2 (0 : Int32)) 3 (0 : Int32)) 4 (0 : Int32)) 5 (0 : Int32)) i)) := Af.congr F461 (fun i hi => by have hi' : i < 6 := hi; rcases lt_6 hi' with rfl | rfl | rfl | rfl | rfl | rfl <;> first | (simp [updI, updV]; done) | rfl)
                      have fin462 := fin_add44_462 f x y M f12 f13 q0 q1 q2 q3 hM' c293 c299 c384 c385 c433
                      exact ⟨a295, rfl, N460, (Keep.wr (Keep.wr (Keep.wr (Keep.wr (Keep.wr (Keep.wr (Keep.ext (Keep.refl _ _) E295) W375 (Or.inr y_a295)) W376 (Or.inr y_a295)) W429 (Or.inr y_a295)) W453 (Or.inr y_a295)) W458 (Or.inl (List.mem_of_getElem? (i := 0) rfl))) W460 (Or.inl (List.mem_of_getElem? (i := 0) rfl))), (Exa.wr W460 (Exa.wr W458 F457)), ⟨_, _, 6, 2, _, F463, (Fld.same W460 F459), AC462, ne_a_a295, (fun _ => g_a295), (Or.inr (Or.inr (Or.inr (Or.inr (Or.inr (Or.inl ⟨(k_up f9 (by decide)), rfl, rfl, rfl⟩)))))), fin462.1, fin462.2⟩⟩
          · refine Go.icmpNo X381 hx (hb hby d_add44_206) (XT.ii_gt_f c384) ?_
            show Go _ _ _ _ T381 (mkF m 209 #[.val (.ref a), .val (.ref am), .val (.int (2 : Int32)), .val (.ref a295), .val (.int (2 : Int32)), .val (.int (2 : Int32)), .val (.int (0 : Int32)), .val (.int (f 0)), .val (.int (f 1))] []) _ _ _
            as_aux_lemma =>
              refine Go.aloadN X381 hx (hb hby d_add44_209) rfl rfl ?_
              refine Go.getF X381 hx hZ hown (w19 hw) Via.refl e381 F380 (hb hby d_add44_210) ?_
              intro T471 X471 e471
              show Go _ _ _ _ T471 (mkF m 213 #[.val (.ref a), .val (.ref am), .val (.int (2 : Int32)), .val (.ref a295), .val (.int (2 : Int32)), .val (.int (2 : Int32)), .val (.int (0 : Int32)), .val (.int (f 0)), .val (.int (f 1))] [(.ref aB)]) _ _ _
              refine Go.iload X471 hx (hb hby d_add44_213) rfl ?_
              refine Go.iaload X471 hx hZ e471 F382 (by decide) (by decide) (hb hby d_add44_215) ?_
              show Go _ _ _ _ T471 (mkF m 216 #[.val (.ref a), .val (.ref am), .val (.int (2 : Int32)), .val (.ref a295), .val (.int (2 : Int32)), .val (.int (2 : Int32)), .val (.int (0 : Int32)), .val (.int (f 0)), .val (.int (f 1))] [(.int (f 2))]) _ _ _
              refine Go.istore X471 hx (hb hby d_add44_216) (l' := #[.val (.ref a), .val (.ref am), .val (.int (2 : Int32)), .val (.ref a295), .val (.int (2 : Int32)), .val (.int (2 : Int32)), .val (.int (0 : Int32)), .val (.int (f 2)), .val (.int (f 1))]) rfl ?_
              refine Go.aloadN X471 hx (hb hby d_add44_218) rfl rfl ?_
              refine Go.getF X471 hx hZ hown (w19 hw) Via.refl e471 F380 (hb hby d_add44_219) ?_
              intro T472 X472 e472
              show Go _ _ _ _ T472 (mkF m 222 #[.val (.ref a), .val (.ref am), .val (.int (2 : Int32)), .val (.ref a295), .val (.int (2 : Int32)), .val (.int (2 : Int32)), .val (.int (0 : Int32)), .val (.int (f 2)), .val (.int (f 1))] [(.ref aB)]) _ _ _
              refine Go.iload X472 hx (hb hby d_add44_222) rfl ?_
              refine Go.iconst X472 hx (hb hby d_add44_224) ?_
              show Go _ _ _ _ T472 (mkF m 225 #[.val (.ref a), .val (.ref am), .val (.int (2 : Int32)), .val (.ref a295), .val (.int (2 : Int32)), .val (.int (2 : Int32)), .val (.int (0 : Int32)), .val (.int (f 2)), .val (.int (f 1))] [(.int (1 : Int32)), (.int (2 : Int32)), (.ref aB)]) _ _ _
              refine Go.iadd X472 hx (hb hby d_add44_225) ?_
              show Go _ _ _ _ T472 (mkF m 226 #[.val (.ref a), .val (.ref am), .val (.int (2 : Int32)), .val (.ref a295), .val (.int (2 : Int32)), .val (.int (2 : Int32)), .val (.int (0 : Int32)), .val (.int (f 2)), .val (.int (f 1))] [(.int (3 : Int32)), (.ref aB)]) _ _ _
              refine Go.iaload X472 hx hZ e472 F382 (by decide) (by decide) (hb hby d_add44_226) ?_
              show Go _ _ _ _ T472 (mkF m 227 #[.val (.ref a), .val (.ref am), .val (.int (2 : Int32)), .val (.ref a295), .val (.int (2 : Int32)), .val (.int (2 : Int32)), .val (.int (0 : Int32)), .val (.int (f 2)), .val (.int (f 1))] [(.int (f 3))]) _ _ _
              refine Go.istore X472 hx (hb hby d_add44_227) (l' := #[.val (.ref a), .val (.ref am), .val (.int (2 : Int32)), .val (.ref a295), .val (.int (2 : Int32)), .val (.int (2 : Int32)), .val (.int (0 : Int32)), .val (.int (f 2)), .val (.int (f 3))]) rfl ?_
              refine Go.iinc X472 hx (hb hby d_add44_229) rfl (l' := #[.val (.ref a), .val (.ref am), .val (.int (2 : Int32)), .val (.ref a295), .val (.int (2 : Int32)), .val (.int (4 : Int32)), .val (.int (0 : Int32)), .val (.int (f 2)), .val (.int (f 3))]) rfl ?_
              show Go _ _ _ _ T472 (mkF m 232 #[.val (.ref a), .val (.ref am), .val (.int (2 : Int32)), .val (.ref a295), .val (.int (2 : Int32)), .val (.int (4 : Int32)), .val (.int (0 : Int32)), .val (.int (f 2)), .val (.int (f 3))] []) _ _ _
              refine Go.goto X472 hx (hb hby d_add44_232) (pc' := 252) (by decide) (by decide) ?_
              show Go _ _ _ _ T472 (mkF m 252 #[.val (.ref a), .val (.ref am), .val (.int (2 : Int32)), .val (.ref a295), .val (.int (2 : Int32)), .val (.int (4 : Int32)), .val (.int (0 : Int32)), .val (.int (f 2)), .val (.int (f 3))] []) _ _ _
              refine Go.iload X472 hx (hb hby d_add44_252) rfl ?_
              refine Go.ifNo X472 hx (hb hby d_add44_254) (XT.i0_le_f (by decide)) ?_
              show Go _ _ _ _ T472 (mkF m 257 #[.val (.ref a), .val (.ref am), .val (.int (2 : Int32)), .val (.ref a295), .val (.int (2 : Int32)), .val (.int (4 : Int32)), .val (.int (0 : Int32)), .val (.int (f 2)), .val (.int (f 3))] []) _ _ _
              refine Go.iload X472 hx (hb hby d_add44_257) rfl ?_
              refine Go.aloadN X472 hx (hb hby d_add44_259) rfl rfl ?_
              refine Go.iload X472 hx (hb hby d_add44_260) rfl ?_
              refine Go.iconst X472 hx (hb hby d_add44_262) ?_
              show Go _ _ _ _ T472 (mkF m 263 #[.val (.ref a), .val (.ref am), .val (.int (2 : Int32)), .val (.ref a295), .val (.int (2 : Int32)), .val (.int (4 : Int32)), .val (.int (0 : Int32)), .val (.int (f 2)), .val (.int (f 3))] [(.int (1 : Int32)), (.int (2 : Int32)), (.ref a295), (.int (f 2))]) _ _ _
              refine Go.isub X472 hx (hb hby d_add44_263) ?_
              show Go _ _ _ _ T472 (mkF m 264 #[.val (.ref a), .val (.ref am), .val (.int (2 : Int32)), .val (.ref a295), .val (.int (2 : Int32)), .val (.int (4 : Int32)), .val (.int (0 : Int32)), .val (.int (f 2)), .val (.int (f 3))] [(.int (1 : Int32)), (.ref a295), (.int (f 2))]) _ _ _
              refine Go.iaload X472 hx hZ e472 A376 (by decide) (by decide) (hb hby d_add44_264) ?_
              show Go _ _ _ _ T472 (mkF m 265 #[.val (.ref a), .val (.ref am), .val (.int (2 : Int32)), .val (.ref a295), .val (.int (2 : Int32)), .val (.int (4 : Int32)), .val (.int (0 : Int32)), .val (.int (f 2)), .val (.int (f 3))] [(.int (f 1)), (.int (f 2))]) _ _ _
              refine Go.icmpYes X472 hx (hb hby d_add44_265) (XT.ii_gt_t (lt_of q2)) (pc' := 288) (by decide) (by decide) ?_
              show Go _ _ _ _ T472 (mkF m 288 #[.val (.ref a), .val (.ref am), .val (.int (2 : Int32)), .val (.ref a295), .val (.int (2 : Int32)), .val (.int (4 : Int32)), .val (.int (0 : Int32)), .val (.int (f 2)), .val (.int (f 3))] []) _ _ _
              refine Go.aloadN X472 hx (hb hby d_add44_288) rfl rfl ?_
              refine Go.iload X472 hx (hb hby d_add44_289) rfl ?_
              refine Go.iinc X472 hx (hb hby d_add44_291) rfl (l' := #[.val (.ref a), .val (.ref am), .val (.int (2 : Int32)), .val (.ref a295), .val (.int (3 : Int32)), .val (.int (4 : Int32)), .val (.int (0 : Int32)), .val (.int (f 2)), .val (.int (f 3))]) rfl ?_
              show Go _ _ _ _ T472 (mkF m 294 #[.val (.ref a), .val (.ref am), .val (.int (2 : Int32)), .val (.ref a295), .val (.int (3 : Int32)), .val (.int (4 : Int32)), .val (.int (0 : Int32)), .val (.int (f 2)), .val (.int (f 3))] [(.int (2 : Int32)), (.ref a295)]) _ _ _
              refine Go.iload X472 hx (hb hby d_add44_294) rfl ?_
              refine Go.iastore X472 hx hZ e472 A376 (by decide) (by decide) (hb hby d_add44_296) ?_
              intro T473 h473 X473 e473 W473 A473
              have N473 := Fr.snoc X473 N376 g_a295
              have Z473 : n0 ≤ h473.size := by rw [Wr.size W473]; exact Z376
              have B473 : h0.size ≤ h473.size := by rw [Wr.size W473]; exact B376
              show Go _ _ _ _ T473 (mkF m 297 #[.val (.ref a), .val (.ref am), .val (.int (2 : Int32)), .val (.ref a295), .val (.int (3 : Int32)), .val (.int (4 : Int32)), .val (.int (0 : Int32)), .val (.int (f 2)), .val (.int (f 3))] []) _ _ _
              refine Go.aloadN X473 hx (hb hby d_add44_297) rfl rfl ?_
              refine Go.iload X473 hx (hb hby d_add44_298) rfl ?_
              refine Go.iinc X473 hx (hb hby d_add44_300) rfl (l' := #[.val (.ref a), .val (.ref am), .val (.int (2 : Int32)), .val (.ref a295), .val (.int (4 : Int32)), .val (.int (4 : Int32)), .val (.int (0 : Int32)), .val (.int (f 2)), .val (.int (f 3))]) rfl ?_
              show Go _ _ _ _ T473 (mkF m 303 #[.val (.ref a), .val (.ref am), .val (.int (2 : Int32)), .val (.ref a295), .val (.int (4 : Int32)), .val (.int (4 : Int32)), .val (.int (0 : Int32)), .val (.int (f 2)), .val (.int (f 3))] [(.int (3 : Int32)), (.ref a295)]) _ _ _
              refine Go.iload X473 hx (hb hby d_add44_303) rfl ?_
              refine Go.iastore X473 hx hZ e473 A473 (by decide) (by decide) (hb hby d_add44_305) ?_
              intro T474 h474 X474 e474 W474 A474
              have N474 := Fr.snoc X474 N473 g_a295
              have Z474 : n0 ≤ h474.size := by rw [Wr.size W474]; exact Z473
              have B474 : h0.size ≤ h474.size := by rw [Wr.size W474]; exact B473
              show Go _ _ _ _ T474 (mkF m 306 #[.val (.ref a), .val (.ref am), .val (.int (2 : Int32)), .val (.ref a295), .val (.int (4 : Int32)), .val (.int (4 : Int32)), .val (.int (0 : Int32)), .val (.int (f 2)), .val (.int (f 3))] []) _ _ _
              refine Go.goto X474 hx (hb hby d_add44_306) (pc' := 165) (by decide) (by decide) ?_
              show Go _ _ _ _ T474 (mkF m 165 #[.val (.ref a), .val (.ref am), .val (.int (2 : Int32)), .val (.ref a295), .val (.int (4 : Int32)), .val (.int (4 : Int32)), .val (.int (0 : Int32)), .val (.int (f 2)), .val (.int (f 3))] []) _ _ _
              refine Go.iload X474 hx (hb hby d_add44_165) rfl ?_
              refine Go.aloadN X474 hx (hb hby d_add44_167) rfl rfl ?_
              have F475 := (Fld.other W474 (Fld.other W473 F377 (Or.inl ne_a_a295)) (Or.inl ne_a_a295))
              refine Go.getF X474 hx hZ hown (w31 hw) Via.refl e474 F475 (hb hby d_add44_168) ?_
              intro T476 X476 e476
              show Go _ _ _ _ T476 (mkF m 171 #[.val (.ref a), .val (.ref am), .val (.int (2 : Int32)), .val (.ref a295), .val (.int (4 : Int32)), .val (.int (4 : Int32)), .val (.int (0 : Int32)), .val (.int (f 2)), .val (.int (f 3))] [(.int (4 : Int32)), (.int (4 : Int32))]) _ _ _
              refine Go.icmpNo X476 hx (hb hby d_add44_171) (XT.ii_lt_f (by decide)) ?_
              show Go _ _ _ _ T476 (mkF m 174 #[.val (.ref a), .val (.ref am), .val (.int (2 : Int32)), .val (.ref a295), .val (.int (4 : Int32)), .val (.int (4 : Int32)), .val (.int (0 : Int32)), .val (.int (f 2)), .val (.int (f 3))] []) _ _ _
              refine Go.iload X476 hx (hb hby d_add44_174) rfl ?_
              refine Go.iloadN X476 hx (hb hby d_add44_176) rfl ?_
              refine Go.icmpNo X476 hx (hb hby d_add44_177) (XT.ii_ge_f (by decide)) ?_
              show Go _ _ _ _ T476 (mkF m 180 #[.val (.ref a), .val (.ref am), .val (.int (2 : Int32)), .val (.ref a295), .val (.int (4 : Int32)), .val (.int (4 : Int32)), .val (.int (0 : Int32)), .val (.int (f 2)), .val (.int (f 3))] []) _ _ _
              refine Go.iload X476 hx (hb hby d_add44_180) rfl ?_
              refine Go.iloadN X476 hx (hb hby d_add44_182) rfl ?_
              refine Go.icmpNo X476 hx (hb hby d_add44_183) (XT.ii_eq_f (by decide)) ?_
              show Go _ _ _ _ T476 (mkF m 186 #[.val (.ref a), .val (.ref am), .val (.int (2 : Int32)), .val (.ref a295), .val (.int (4 : Int32)), .val (.int (4 : Int32)), .val (.int (0 : Int32)), .val (.int (f 2)), .val (.int (f 3))] []) _ _ _
              refine Go.iload X476 hx (hb hby d_add44_186) rfl ?_
              refine Go.aloadN X476 hx (hb hby d_add44_188) rfl rfl ?_
              refine Go.getF X476 hx hZ hown (w31 hw) Via.refl e476 F475 (hb hby d_add44_189) ?_
              intro T477 X477 e477
              show Go _ _ _ _ T477 (mkF m 192 #[.val (.ref a), .val (.ref am), .val (.int (2 : Int32)), .val (.ref a295), .val (.int (4 : Int32)), .val (.int (4 : Int32)), .val (.int (0 : Int32)), .val (.int (f 2)), .val (.int (f 3))] [(.int (4 : Int32)), (.int (4 : Int32))]) _ _ _
              refine Go.icmpYes X477 hx (hb hby d_add44_192) (XT.ii_ge_t (by decide)) (pc' := 235) (by decide) (by decide) ?_
              show Go _ _ _ _ T477 (mkF m 235 #[.val (.ref a), .val (.ref am), .val (.int (2 : Int32)), .val (.ref a295), .val (.int (4 : Int32)), .val (.int (4 : Int32)), .val (.int (0 : Int32)), .val (.int (f 2)), .val (.int (f 3))] []) _ _ _
              refine Go.aloadN X477 hx (hb hby d_add44_235) rfl rfl ?_
              refine Go.iload X477 hx (hb hby d_add44_236) rfl ?_
              have F478 := (Af.other W474 (Af.other W473 F383 ne_am_a295) ne_am_a295)
              refine Go.iaload X477 hx hZ e477 F478 (by decide) (by decide) (hb hby d_add44_238) ?_
              show Go _ _ _ _ T477 (mkF m 239 #[.val (.ref a), .val (.ref am), .val (.int (2 : Int32)), .val (.ref a295), .val (.int (4 : Int32)), .val (.int (4 : Int32)), .val (.int (0 : Int32)), .val (.int (f 2)), .val (.int (f 3))] [(.int x)]) _ _ _
              refine Go.istore X477 hx (hb hby d_add44_239) (l' := #[.val (.ref a), .val (.ref am), .val (.int (2 : Int32)), .val (.ref a295), .val (.int (4 : Int32)), .val (.int (4 : Int32)), .val (.int (0 : Int32)), .val (.int x), .val (.int (f 3))]) rfl ?_
              refine Go.aloadN X477 hx (hb hby d_add44_241) rfl rfl ?_
              refine Go.iload X477 hx (hb hby d_add44_242) rfl ?_
              refine Go.iconst X477 hx (hb hby d_add44_244) ?_
              show Go _ _ _ _ T477 (mkF m 245 #[.val (.ref a), .val (.ref am), .val (.int (2 : Int32)), .val (.ref a295), .val (.int (4 : Int32)), .val (.int (4 : Int32)), .val (.int (0 : Int32)), .val (.int x), .val (.int (f 3))] [(.int (1 : Int32)), (.int (0 : Int32)), (.ref am)]) _ _ _
              refine Go.iadd X477 hx (hb hby d_add44_245) ?_
              show Go _ _ _ _ T477 (mkF m 246 #[.val (.ref a), .val (.ref am), .val (.int (2 : Int32)), .val (.ref a295), .val (.int (4 : Int32)), .val (.int (4 : Int32)), .val (.int (0 : Int32)), .val (.int x), .val (.int (f 3))] [(.int (1 : Int32)), (.ref am)]) _ _ _
              refine Go.iaload X477 hx hZ e477 F478 (by decide) (by decide) (hb hby d_add44_246) ?_
              show Go _ _ _ _ T477 (mkF m 247 #[.val (.ref a), .val (.ref am), .val (.int (2 : Int32)), .val (.ref a295), .val (.int (4 : Int32)), .val (.int (4 : Int32)), .val (.int (0 : Int32)), .val (.int x), .val (.int (f 3))] [(.int y)]) _ _ _
              refine Go.istore X477 hx (hb hby d_add44_247) (l' := #[.val (.ref a), .val (.ref am), .val (.int (2 : Int32)), .val (.ref a295), .val (.int (4 : Int32)), .val (.int (4 : Int32)), .val (.int (0 : Int32)), .val (.int x), .val (.int y)]) rfl ?_
              refine Go.iinc X477 hx (hb hby d_add44_249) rfl (l' := #[.val (.ref a), .val (.ref am), .val (.int (2 : Int32)), .val (.ref a295), .val (.int (4 : Int32)), .val (.int (4 : Int32)), .val (.int (2 : Int32)), .val (.int x), .val (.int y)]) rfl ?_
              show Go _ _ _ _ T477 (mkF m 252 #[.val (.ref a), .val (.ref am), .val (.int (2 : Int32)), .val (.ref a295), .val (.int (4 : Int32)), .val (.int (4 : Int32)), .val (.int (2 : Int32)), .val (.int x), .val (.int y)] []) _ _ _
              refine Go.iload X477 hx (hb hby d_add44_252) rfl ?_
              refine Go.ifNo X477 hx (hb hby d_add44_254) (XT.i0_le_f (by decide)) ?_
              show Go _ _ _ _ T477 (mkF m 257 #[.val (.ref a), .val (.ref am), .val (.int (2 : Int32)), .val (.ref a295), .val (.int (4 : Int32)), .val (.int (4 : Int32)), .val (.int (2 : Int32)), .val (.int x), .val (.int y)] []) _ _ _
              refine Go.iload X477 hx (hb hby d_add44_257) rfl ?_
              refine Go.aloadN X477 hx (hb hby d_add44_259) rfl rfl ?_
              refine Go.iload X477 hx (hb hby d_add44_260) rfl ?_
              refine Go.iconst X477 hx (hb hby d_add44_262) ?_
              show Go _ _ _ _ T477 (mkF m 263 #[.val (.ref a), .val (.ref am), .val (.int (2 : Int32)), .val (.ref a295), .val (.int (4 : Int32)), .val (.int (4 : Int32)), .val (.int (2 : Int32)), .val (.int x), .val (.int y)] [(.int (1 : Int32)), (.int (4 : Int32)), (.ref a295), (.int x)]) _ _ _
              refine Go.isub X477 hx (hb hby d_add44_263) ?_
              show Go _ _ _ _ T477 (mkF m 264 #[.val (.ref a), .val (.ref am), .val (.int (2 : Int32)), .val (.ref a295), .val (.int (4 : Int32)), .val (.int (4 : Int32)), .val (.int (2 : Int32)), .val (.int x), .val (.int y)] [(.int (3 : Int32)), (.ref a295), (.int x)]) _ _ _
              refine Go.iaload X477 hx hZ e477 A474 (by decide) (by decide) (hb hby d_add44_264) ?_
              show Go _ _ _ _ T477 (mkF m 265 #[.val (.ref a), .val (.ref am), .val (.int (2 : Int32)), .val (.ref a295), .val (.int (4 : Int32)), .val (.int (4 : Int32)), .val (.int (2 : Int32)), .val (.int x), .val (.int y)] [(.int (f 3)), (.int x)]) _ _ _
              rcases Decidable.em ((f 3) < x) with c479 | c479
              · refine Go.icmpYes X477 hx (hb hby d_add44_265) (XT.ii_gt_t c479) (pc' := 288) (by decide) (by decide) ?_
                show Go _ _ _ _ T477 (mkF m 288 #[.val (.ref a), .val (.ref am), .val (.int (2 : Int32)), .val (.ref a295), .val (.int (4 : Int32)), .val (.int (4 : Int32)), .val (.int (2 : Int32)), .val (.int x), .val (.int y)] []) _ _ _
                as_aux_lemma =>
                  refine Go.aloadN X477 hx (hb hby d_add44_288) rfl rfl ?_
                  refine Go.iload X477 hx (hb hby d_add44_289) rfl ?_
                  refine Go.iinc X477 hx (hb hby d_add44_291) rfl (l' := #[.val (.ref a), .val (.ref am), .val (.int (2 : Int32)), .val (.ref a295), .val (.int (5 : Int32)), .val (.int (4 : Int32)), .val (.int (2 : Int32)), .val (.int x), .val (.int y)]) rfl ?_
                  show Go _ _ _ _ T477 (mkF m 294 #[.val (.ref a), .val (.ref am), .val (.int (2 : Int32)), .val (.ref a295), .val (.int (5 : Int32)), .val (.int (4 : Int32)), .val (.int (2 : Int32)), .val (.int x), .val (.int y)] [(.int (4 : Int32)), (.ref a295)]) _ _ _
                  refine Go.iload X477 hx (hb hby d_add44_294) rfl ?_
                  refine Go.iastore X477 hx hZ e477 A474 (by decide) (by decide) (hb hby d_add44_296) ?_
                  intro T480 h480 X480 e480 W480 A480
                  have N480 := Fr.snoc X480 N474 g_a295
                  have Z480 : n0 ≤ h480.size := by rw [Wr.size W480]; exact Z474
                  have B480 : h0.size ≤ h480.size := by rw [Wr.size W480]; exact B474
                  show Go _ _ _ _ T480 (mkF m 297 #[.val (.ref a), .val (.ref am), .val (.int (2 : Int32)), .val (.ref a295), .val (.int (5 : Int32)), .val (.int (4 : Int32)), .val (.int (2 : Int32)), .val (.int x), .val (.int y)] []) _ _ _
                  refine Go.aloadN X480 hx (hb hby d_add44_297) rfl rfl ?_
                  refine Go.iload X480 hx (hb hby d_add44_298) rfl ?_
                  refine Go.iinc X480 hx (hb hby d_add44_300) rfl (l' := #[.val (.ref a), .val (.ref am), .val (.int (2 : Int32)), .val (.ref a295), .val (.int (6 : Int32)), .val (.int (4 : Int32)), .val (.int (2 : Int32)), .val (.int x), .val (.int y)]) rfl ?_
                  show Go _ _ _ _ T480 (mkF m 303 #[.val (.ref a), .val (.ref am), .val (.int (2 : Int32)), .val (.ref a295), .val (.int (6 : Int32)), .val (.int (4 : Int32)), .val (.int (2 : Int32)), .val (.int x), .val (.int y)] [(.int (5 : Int32)), (.ref a295)]) _ _ _
                  refine Go.iload X480 hx (hb hby d_add44_303) rfl ?_
                  refine Go.iastore X480 hx hZ e480 A480 (by decide) (by decide) (hb hby d_add44_305) ?_
                  intro T481 h481 X481 e481 W481 A481
                  have N481 := Fr.snoc X481 N480 g_a295
                  have Z481 : n0 ≤ h481.size := by rw [Wr.size W481]; exact Z480
                  have B481 : h0.size ≤ h481.size := by rw [Wr.size W481]; exact B480
                  show Go _ _ _ _ T481 (mkF m 306 #[.val (.ref a), .val (.ref am), .val (.int (2 : Int32)), .val (.ref a295), .val (.int (6 : Int32)), .val (.int (4 : Int32)), .val (.int (2 : Int32)), .val (.int x), .val (.int y)] []) _ _ _
                  refine Go.goto X481 hx (hb hby d_add44_306) (pc' := 165) (by decide) (by decide) ?_
                  show Go _ _ _ _ T481 (mkF m 165 #[.val (.ref a), .val (.ref am), .val (.int (2 : Int32)), .val (.ref a295), .val (.int (6 : Int32)), .val (.int (4 : Int32)), .val (.int (2 : Int32)), .val (.int x), .val (.int y)] []) _ _ _
                  refine Go.iload X481 hx (hb hby d_add44_165) rfl ?_
                  refine Go.aloadN X481 hx (hb hby d_add44_167) rfl rfl ?_
                  have F482 := (Fld.other W481 (Fld.other W480 F475 (Or.inl ne_a_a295)) (Or.inl ne_a_a295))
                  refine Go.getF X481 hx hZ hown (w31 hw) Via.refl e481 F482 (hb hby d_add44_168) ?_
                  intro T483 X483 e483
                  show Go _ _ _ _ T483 (mkF m 171 #[.val (.ref a), .val (.ref am), .val (.int (2 : Int32)), .val (.ref a295), .val (.int (6 : Int32)), .val (.int (4 : Int32)), .val (.int (2 : Int32)), .val (.int x), .val (.int y)] [(.int (4 : Int32)), (.int (4 : Int32))]) _ _ _
                  refine Go.icmpNo X483 hx (hb hby d_add44_171) (XT.ii_lt_f (by decide)) ?_
                  show Go _ _ _ _ T483 (mkF m 174 #[.val (.ref a), .val (.ref am), .val (.int (2 : Int32)), .val (.ref a295), .val (.int (6 : Int32)), .val (.int (4 : Int32)), .val (.int (2 : Int32)), .val (.int x), .val (.int y)] []) _ _ _
                  refine Go.iload X483 hx (hb hby d_add44_174) rfl ?_
                  refine Go.iloadN X483 hx (hb hby d_add44_176) rfl ?_
                  refine Go.icmpYes X483 hx (hb hby d_add44_177) (XT.ii_ge_t (by decide)) (pc' := 309) (by decide) (by decide) ?_
                  show Go _ _ _ _ T483 (mkF m 309 #[.val (.ref a), .val (.ref am), .val (.int (2 : Int32)), .val (.ref a295), .val (.int (6 : Int32)), .val (.int (4 : Int32)), .val (.int (2 : Int32)), .val (.int x), .val (.int y)] []) _ _ _
                  refine Go.aloadN X483 hx (hb hby d_add44_309) rfl rfl ?_
                  refine Go.aloadN X483 hx (hb hby d_add44_310) rfl rfl ?_
                  have F484 := (Fld.other W481 (Fld.other W480 (Fld.other W474 (Fld.other W473 F380 (Or.inl ne_a_a295)) (Or.inl ne_a_a295)) (Or.inl ne_a_a295)) (Or.inl ne_a_a295))
                  have F485 := (Exa.wr W481 (Exa.wr W480 (Exa.wr W474 (Exa.wr W473 (Exa.wr W376 (Exa.wr W375 (Exa.ext E295 f0)))))))
                  refine Go.putF X483 hx hZ hown (w19 hw) Via.refl e483 F484 F485 (Or.inl (w20 hw)) (w9 hw) (ty := (.array .int)) (by decide) rfl rfl (hb hby d_add44_311) ?_
                  intro T486 h486 X486 e486 W486
                  have N486 := Fr.snoc X486 N481 f1
                  have Z486 : n0 ≤ h486.size := by rw [Wr.size W486]; exact Z481
                  have B486 : h0.size ≤ h486.size := by rw [Wr.size W486]; exact B481
                  show Go _ _ _ _ T486 (mkF m 314 #[.val (.ref a), .val (.ref am), .val (.int (2 : Int32)), .val (.ref a295), .val (.int (6 : Int32)), .val (.int (4 : Int32)), .val (.int (2 : Int32)), .val (.int x), .val (.int y)] []) _ _ _
                  refine Go.aloadN X486 hx (hb hby d_add44_314) rfl rfl ?_
                  refine Go.iload X486 hx (hb hby d_add44_315) rfl ?_
                  have F487 := (Fld.other W486 F482 (Or.inr (slot_ne (a0 := a0) (Or.inl (w32 hw)) (Or.inl (w20 hw)) (t := .int) (t' := (.array .int)) (by decide) (by decide) (by decide))))
                  refine Go.putF X486 hx hZ hown (w31 hw) Via.refl e486 F487 (Exa.wr W486 F485) (Or.inl (w32 hw)) (w9 hw) (ty := .int) (by decide) rfl rfl (hb hby d_add44_317) ?_
                  intro T488 h488 X488 e488 W488
                  have N488 := Fr.snoc X488 N486 f1
                  have Z488 : n0 ≤ h488.size := by rw [Wr.size W488]; exact Z486
                  have B488 : h0.size ≤ h488.size := by rw [Wr.size W488]; exact B486
                  show Go _ _ _ _ T488 (mkF m 320 #[.val (.ref a), .val (.ref am), .val (.int (2 : Int32)), .val (.ref a295), .val (.int (6 : Int32)), .val (.int (4 : Int32)), .val (.int (2 : Int32)), .val (.int x), .val (.int y)] []) _ _ _
                  refine Go.ret0 X488 hx hlk hret (hb hby d_add44_320) (by decide) (by decide) ?_
                  rw [e488]
                  have F489 := (Af.other W488 (Af.other W486 A481 (Ne.symm ne_a_a295)) (Ne.symm ne_a_a295))
                  have F491 := (Fld.other W488 (Fld.same W486 F484) (Or.inr (slot_ne (a0 := a0) (Or.inl (w20 hw)) (Or.inl (w32 hw)) (t := (.array .int)) (t' := .int) (by decide) (by decide) (by decide))))
                  have AC490 : Af Z h488 a295 k295 .int 6 (fun i => Value.int ((updI (updI (updI (updI (updI (updI (fun _ => (0 : Int32)) 0 (f 0)) 1 (f 1)) 2 (f 2)) 3 (f 3)) 4 x) 5 y) i)) := Af.congr F489 (fun i hi => by have hi' : i < 6 := hi; rcases lt_6 hi' with rfl | rfl | rfl | rfl | rfl | rfl <;> first | (simp [updI, updV]; done) | rfl)
                  have fin490 := fin_add44_490 f x y M f12 f13 q0 q1 q2 q3 hM' c293 c299 c384 c479
                  exact ⟨a295, rfl, N488, (Keep.wr (Keep.wr (Keep.wr (Keep.wr (Keep.wr (Keep.wr (Keep.wr (Keep.wr (Keep.ext (Keep.refl _ _) E295) W375 (Or.inr y_a295)) W376 (Or.inr y_a295)) W473 (Or.inr y_a295)) W474 (Or.inr y_a295)) W480 (Or.inr y_a295)) W481 (Or.inr y_a295)) W486 (Or.inl (List.mem_of_getElem? (i := 0) rfl))) W488 (Or.inl (List.mem_of_getElem? (i := 0) rfl))), (Exa.wr W488 (Exa.wr W486 F485)), ⟨_, _, 6, 6, _, F491, (Fld.same W488 F487), AC490, ne_a_a295, (fun _ => g_a295), (Or.inr (Or.inr (Or.inr (Or.inr (Or.inr (Or.inr (Or.inr ⟨(k_up f9 (by decide)), rfl, rfl, rfl⟩))))))), fin490.1, fin490.2⟩⟩
              · refine Go.icmpNo X477 hx (hb hby d_add44_265) (XT.ii_gt_f c479) ?_
                show Go _ _ _ _ T477 (mkF m 268 #[.val (.ref a), .val (.ref am), .val (.int (2 : Int32)), .val (.ref a295), .val (.int (4 : Int32)), .val (.int (4 : Int32)), .val (.int (2 : Int32)), .val (.int x), .val (.int y)] []) _ _ _
                as_aux_lemma =>
                  refine Go.aloadN X477 hx (hb hby d_add44_268) rfl rfl ?_
                  refine Go.iload X477 hx (hb hby d_add44_269) rfl ?_
                  refine Go.iconst X477 hx (hb hby d_add44_271) ?_
                  show Go _ _ _ _ T477 (mkF m 272 #[.val (.ref a), .val (.ref am), .val (.int (2 : Int32)), .val (.ref a295), .val (.int (4 : Int32)), .val (.int (4 : Int32)), .val (.int (2 : Int32)), .val (.int x), .val (.int y)] [(.int (1 : Int32)), (.int (4 : Int32)), (.ref a295)]) _ _ _
                  refine Go.isub X477 hx (hb hby d_add44_272) ?_
                  show Go _ _ _ _ T477 (mkF m 273 #[.val (.ref a), .val (.ref am), .val (.int (2 : Int32)), .val (.ref a295), .val (.int (4 : Int32)), .val (.int (4 : Int32)), .val (.int (2 : Int32)), .val (.int x), .val (.int y)] [(.int (3 : Int32)), (.ref a295)]) _ _ _
                  refine Go.aloadN X477 hx (hb hby d_add44_273) rfl rfl ?_
                  refine Go.iload X477 hx (hb hby d_add44_274) rfl ?_
                  refine Go.iconst X477 hx (hb hby d_add44_276) ?_
                  show Go _ _ _ _ T477 (mkF m 277 #[.val (.ref a), .val (.ref am), .val (.int (2 : Int32)), .val (.ref a295), .val (.int (4 : Int32)), .val (.int (4 : Int32)), .val (.int (2 : Int32)), .val (.int x), .val (.int y)] [(.int (1 : Int32)), (.int (4 : Int32)), (.ref a295), (.int (3 : Int32)), (.ref a295)]) _ _ _
                  refine Go.isub X477 hx (hb hby d_add44_277) ?_
                  show Go _ _ _ _ T477 (mkF m 278 #[.val (.ref a), .val (.ref am), .val (.int (2 : Int32)), .val (.ref a295), .val (.int (4 : Int32)), .val (.int (4 : Int32)), .val (.int (2 : Int32)), .val (.int x), .val (.int y)] [(.int (3 : Int32)), (.ref a295), (.int (3 : Int32)), (.ref a295)]) _ _ _
                  refine Go.iaload X477 hx hZ e477 A474 (by decide) (by decide) (hb hby d_add44_278) ?_
                  show Go _ _ _ _ T477 (mkF m 279 #[.val (.ref a), .val (.ref am), .val (.int (2 : Int32)), .val (.ref a295), .val (.int (4 : Int32)), .val (.int (4 : Int32)), .val (.int (2 : Int32)), .val (.int x), .val (.int y)] [(.int (f 3)), (.int (3 : Int32)), (.ref a295)]) _ _ _
                  refine Go.iload X477 hx (hb hby d_add44_279) rfl ?_
                  refine Go.callS (W := 2) (argsL := [(.int (f 3)), (.int y)]) (rest := [(.int (3 : Int32)), (.ref a295)]) X477 hx hZ hown (w33 hw) (w6 hw) (w3 hw) (w7 hw) (by decide) (rm_max l Z a0 hw ((f 3)) y h474) e477 (lenOf pd_0 rfl) (hb hby d_add44_281) (by rw [hml]; rfl) rfl (Nat.le_of_eq rfl) (by decide) (by decide) (by decide) (by decide) ?_
                  intro v496 T496 L496 X496 q496
                  obtain ⟨rfl, rfl, e496⟩ := q496
                  have N496 := Fr.app N474 (Fr.nil n0)
                  show Go _ _ _ _ T496 (mkF m 284 #[.val (.ref a), .val (.ref am), .val (.int (2 : Int32)), .val (.ref a295), .val (.int (4 : Int32)), .val (.int (4 : Int32)), .val (.int (2 : Int32)), .val (.int x), .val (.int y)] [(.int (F_max (f 3) y)), (.int (3 : Int32)), (.ref a295)]) _ _ _
                  refine Go.iastore X496 hx hZ e496 A474 (by decide) (by decide) (hb hby d_add44_284) ?_
                  intro T497 h497 X497 e497 W497 A497
                  have N497 := Fr.snoc X497 N496 g_a295
                  have Z497 : n0 ≤ h497.size := by rw [Wr.size W497]; exact Z474
                  have B497 : h0.size ≤ h497.size := by rw [Wr.size W497]; exact B474
                  show Go _ _ _ _ T497 (mkF m 285 #[.val (.ref a), .val (.ref am), .val (.int (2 : Int32)), .val (.ref a295), .val (.int (4 : Int32)), .val (.int (4 : Int32)), .val (.int (2 : Int32)), .val (.int x), .val (.int y)] []) _ _ _
                  refine Go.goto X497 hx (hb hby d_add44_285) (pc' := 306) (by decide) (by decide) ?_
                  show Go _ _ _ _ T497 (mkF m 306 #[.val (.ref a), .val (.ref am), .val (.int (2 : Int32)), .val (.ref a295), .val (.int (4 : Int32)), .val (.int (4 : Int32)), .val (.int (2 : Int32)), .val (.int x), .val (.int y)] []) _ _ _
                  refine Go.goto X497 hx (hb hby d_add44_306) (pc' := 165) (by decide) (by decide) ?_
                  show Go _ _ _ _ T497 (mkF m 165 #[.val (.ref a), .val (.ref am), .val (.int (2 : Int32)), .val (.ref a295), .val (.int (4 : Int32)), .val (.int (4 : Int32)), .val (.int (2 : Int32)), .val (.int x), .val (.int y)] []) _ _ _
                  refine Go.iload X497 hx (hb hby d_add44_165) rfl ?_
                  refine Go.aloadN X497 hx (hb hby d_add44_167) rfl rfl ?_
                  refine Go.getF X497 hx hZ hown (w31 hw) Via.refl e497 (Fld.other W497 F475 (Or.inl ne_a_a295)) (hb hby d_add44_168) ?_
                  intro T498 X498 e498
                  show Go _ _ _ _ T498 (mkF m 171 #[.val (.ref a), .val (.ref am), .val (.int (2 : Int32)), .val (.ref a295), .val (.int (4 : Int32)), .val (.int (4 : Int32)), .val (.int (2 : Int32)), .val (.int x), .val (.int y)] [(.int (4 : Int32)), (.int (4 : Int32))]) _ _ _
                  refine Go.icmpNo X498 hx (hb hby d_add44_171) (XT.ii_lt_f (by decide)) ?_
                  show Go _ _ _ _ T498 (mkF m 174 #[.val (.ref a), .val (.ref am), .val (.int (2 : Int32)), .val (.ref a295), .val (.int (4 : Int32)), .val (.int (4 : Int32)), .val (.int (2 : Int32)), .val (.int x), .val (.int y)] []) _ _ _
                  refine Go.iload X498 hx (hb hby d_add44_174) rfl ?_
                  refine Go.iloadN X498 hx (hb hby d_add44_176) rfl ?_
                  refine Go.icmpYes X498 hx (hb hby d_add44_177) (XT.ii_ge_t (by decide)) (pc' := 309) (by decide) (by decide) ?_
                  show Go _ _ _ _ T498 (mkF m 309 #[.val (.ref a), .val (.ref am), .val (.int (2 : Int32)), .val (.ref a295), .val (.int (4 : Int32)), .val (.int (4 : Int32)), .val (.int (2 : Int32)), .val (.int x), .val (.int y)] []) _ _ _
                  refine Go.aloadN X498 hx (hb hby d_add44_309) rfl rfl ?_
                  refine Go.aloadN X498 hx (hb hby d_add44_310) rfl rfl ?_
                  have F499 := (Fld.other W497 (Fld.other W474 (Fld.other W473 F380 (Or.inl ne_a_a295)) (Or.inl ne_a_a295)) (Or.inl ne_a_a295))
                  have F500 := (Exa.wr W497 (Exa.wr W474 (Exa.wr W473 (Exa.wr W376 (Exa.wr W375 (Exa.ext E295 f0))))))
                  refine Go.putF X498 hx hZ hown (w19 hw) Via.refl e498 F499 F500 (Or.inl (w20 hw)) (w9 hw) (ty := (.array .int)) (by decide) rfl rfl (hb hby d_add44_311) ?_
                  intro T501 h501 X501 e501 W501
                  have N501 := Fr.snoc X501 N497 f1
                  have Z501 : n0 ≤ h501.size := by rw [Wr.size W501]; exact Z497
                  have B501 : h0.size ≤ h501.size := by rw [Wr.size W501]; exact B497
                  show Go _ _ _ _ T501 (mkF m 314 #[.val (.ref a), .val (.ref am), .val (.int (2 : Int32)), .val (.ref a295), .val (.int (4 : Int32)), .val (.int (4 : Int32)), .val (.int (2 : Int32)), .val (.int x), .val (.int y)] []) _ _ _
                  refine Go.aloadN X501 hx (hb hby d_add44_314) rfl rfl ?_
                  refine Go.iload X501 hx (hb hby d_add44_315) rfl ?_
                  have F502 := (Fld.other W501 (Fld.other W497 F475 (Or.inl ne_a_a295)) (Or.inr (slot_ne (a0 := a0) (Or.inl (w32 hw)) (Or.inl (w20 hw)) (t := .int) (t' := (.array .int)) (by decide) (by decide) (by decide))))
                  refine Go.putF X501 hx hZ hown (w31 hw) Via.refl e501 F502 (Exa.wr W501 F500) (Or.inl (w32 hw)) (w9 hw) (ty := .int) (by decide) rfl rfl (hb hby d_add44_317) ?_
                  intro T503 h503 X503 e503 W503
                  have N503 := Fr.snoc X503 N501 f1
                  have Z503 : n0 ≤ h503.size := by rw [Wr.size W503]; exact Z501
                  have B503 : h0.size ≤ h503.size := by rw [Wr.size W503]; exact B501
                  show Go _ _ _ _ T503 (mkF m 320 #[.val (.ref a), .val (.ref am), .val (.int (2 : Int32)), .val (.ref a295), .val (.int (4 : Int32)), .val (.int (4 : Int32)), .val (.int (2 : Int32)), .val (.int x), .val (.int y)] []) _ _ _
                  refine Go.ret0 X503 hx hlk hret (hb hby d_add44_320) (by decide) (by decide) ?_
                  rw [e503]
                  have F504 := (Af.other W503 (Af.other W501 A497 (Ne.symm ne_a_a295)) (Ne.symm ne_a_a295))
                  have F506 := (Fld.other W503 (Fld.same W501 F499) (Or.inr (slot_ne (a0 := a0) (Or.inl (w20 hw)) (Or.inl (w32 hw)) (t := (.array .int)) (t' := .int) (by decide) (by decide) (by decide))))
                  have AC505 : Af Z h503 a295 k295 .int 6 (fun i => Value.int ((updI (updI (updI (updI (updI (updI (fun _ => (0 : Int32)) 0 (f 0)) 1 (f 1)) 2 (f 2)) 3 (F_max (f 3) y)) 4 (0 : Int32)) 5 (0 : Int32)) i)) := Af.congr F504 (fun i hi => by have hi' : i < 6 := hi; rcases lt_6 hi' with rfl | rfl | rfl | rfl | rfl | rfl <;> first | (simp [updI, updV]; done) | rfl)
                  have fin505 := fin_add44_505 f x y M f12 f13 q0 q1 q2 q3 hM' c293 c299 c384 c479
                  exact ⟨a295, rfl, N503, (Keep.wr (Keep.wr (Keep.wr (Keep.wr (Keep.wr (Keep.wr (Keep.wr (Keep.ext (Keep.refl _ _) E295) W375 (Or.inr y_a295)) W376 (Or.inr y_a295)) W473 (Or.inr y_a295)) W474 (Or.inr y_a295)) W497 (Or.inr y_a295)) W501 (Or.inl (List.mem_of_getElem? (i := 0) rfl))) W503 (Or.inl (List.mem_of_getElem? (i := 0) rfl))), (Exa.wr W503 (Exa.wr W501 F500)), ⟨_, _, 6, 4, _, F506, (Fld.same W503 F502), AC505, ne_a_a295, (fun _ => g_a295), (Or.inr (Or.inr (Or.inr (Or.inr (Or.inr (Or.inr (Or.inl ⟨(k_up f9 (by decide)), rfl, rfl, rfl⟩))))))), fin505.1, fin505.2⟩⟩
  · refine Go.icmpNo X292 hx (hb hby d_add44_26) (XT.ii_lt_f c293) ?_
    show Go _ _ _ _ T292 (mkF m 29 #[.val (.ref a), .val (.ref am), .val (.int (2 : Int32)), .unset, .unset, .unset, .unset, .unset, .unset] []) _ _ _
    as_aux_lemma =>
      refine Go.iconst X292 hx (hb hby d_add44_29) ?_
      show Go _ _ _ _ T292 (mkF m 30 #[.val (.ref a), .val (.ref am), .val (.int (2 : Int32)), .unset, .unset, .unset, .unset, .unset, .unset] [(.int (0 : Int32))]) _ _ _
      refine Go.istoreN X292 hx (hb hby d_add44_30) (l' := #[.val (.ref a), .val (.ref am), .val (.int (2 : Int32)), .val (.int (0 : Int32)), .unset, .unset, .unset, .unset, .unset]) rfl ?_
      refine Go.aloadN X292 hx (hb hby d_add44_31) rfl rfl ?_
      refine Go.getF X292 hx hZ hown (w31 hw) Via.refl e292 f6 (hb hby d_add44_32) ?_
      intro T512 X512 e512
      show Go _ _ _ _ T512 (mkF m 35 #[.val (.ref a), .val (.ref am), .val (.int (2 : Int32)), .val (.int (0 : Int32)), .unset, .unset, .unset, .unset, .unset] [(.int (4 : Int32))]) _ _ _
      refine Go.ifNo X512 hx (hb hby d_add44_35) (XT.i0_le_f (by decide)) ?_
      show Go _ _ _ _ T512 (mkF m 38 #[.val (.ref a), .val (.ref am), .val (.int (2 : Int32)), .val (.int (0 : Int32)), .unset, .unset, .unset, .unset, .unset] []) _ _ _
      refine Go.aloadN X512 hx (hb hby d_add44_38) rfl rfl ?_
      refine Go.iconst X512 hx (hb hby d_add44_39) ?_
      show Go _ _ _ _ T512 (mkF m 40 #[.val (.ref a), .val (.ref am), .val (.int (2 : Int32)), .val (.int (0 : Int32)), .unset, .unset, .unset, .unset, .unset] [(.int (0 : Int32)), (.ref am)]) _ _ _
      refine Go.iaload X512 hx hZ e512 f8 (by decide) (by decide) (hb hby d_add44_40) ?_
      show Go _ _ _ _ T512 (mkF m 41 #[.val (.ref a), .val (.ref am), .val (.int (2 : Int32)), .val (.int (0 : Int32)), .unset, .unset, .unset, .unset, .unset] [(.int x)]) _ _ _
      refine Go.aloadN X512 hx (hb hby d_add44_41) rfl rfl ?_
      refine Go.getF X512 hx hZ hown (w19 hw) Via.refl e512 f5 (hb hby d_add44_42) ?_
      intro T513 X513 e513
      show Go _ _ _ _ T513 (mkF m 45 #[.val (.ref a), .val (.ref am), .val (.int (2 : Int32)), .val (.int (0 : Int32)), .unset, .unset, .unset, .unset, .unset] [(.ref aB), (.int x)]) _ _ _
      refine Go.aloadN X513 hx (hb hby d_add44_45) rfl rfl ?_
      refine Go.getF X513 hx hZ hown (w31 hw) Via.refl e513 f6 (hb hby d_add44_46) ?_
      intro T514 X514 e514
      show Go _ _ _ _ T514 (mkF m 49 #[.val (.ref a), .val (.ref am), .val (.int (2 : Int32)), .val (.int (0 : Int32)), .unset, .unset, .unset, .unset, .unset] [(.int (4 : Int32)), (.ref aB), (.int x)]) _ _ _
      refine Go.iconst X514 hx (hb hby d_add44_49) ?_
      show Go _ _ _ _ T514 (mkF m 50 #[.val (.ref a), .val (.ref am), .val (.int (2 : Int32)), .val (.int (0 : Int32)), .unset, .unset, .unset, .unset, .unset] [(.int (1 : Int32)), (.int (4 : Int32)), (.ref aB), (.int x)]) _ _ _
      refine Go.isub X514 hx (hb hby d_add44_50) ?_
      show Go _ _ _ _ T514 (mkF m 51 #[.val (.ref a), .val (.ref am), .val (.int (2 : Int32)), .val (.int (0 : Int32)), .unset, .unset, .unset, .unset, .unset] [(.int (3 : Int32)), (.ref aB), (.int x)]) _ _ _
      refine Go.iaload X514 hx hZ e514 f7 (by decide) (by decide) (hb hby d_add44_51) ?_
      show Go _ _ _ _ T514 (mkF m 52 #[.val (.ref a), .val (.ref am), .val (.int (2 : Int32)), .val (.int (0 : Int32)), .unset, .unset, .unset, .unset, .unset] [(.int (f 3)), (.int x)]) _ _ _
      rcases Decidable.em (x = (f 3)) with c515 | c515
      · refine Go.icmpNo X514 hx (hb hby d_add44_52) (XT.ii_ne_f c515) ?_
        show Go _ _ _ _ T514 (mkF m 55 #[.val (.ref a), .val (.ref am), .val (.int (2 : Int32)), .val (.int (0 : Int32)), .unset, .unset, .unset, .unset, .unset] []) _ _ _
        as_aux_lemma =>
          refine Go.aloadN X514 hx (hb hby d_add44_55) rfl rfl ?_
          refine Go.getF X514 hx hZ hown (w19 hw) Via.refl e514 f5 (hb hby d_add44_56) ?_
          intro T516 X516 e516
          show Go _ _ _ _ T516 (mkF m 59 #[.val (.ref a), .val (.ref am), .val (.int (2 : Int32)), .val (.int (0 : Int32)), .unset, .unset, .unset, .unset, .unset] [(.ref aB)]) _ _ _
          refine Go.aloadN X516 hx (hb hby d_add44_59) rfl rfl ?_
          refine Go.getF X516 hx hZ hown (w31 hw) Via.refl e516 f6 (hb hby d_add44_60) ?_
          intro T517 X517 e517
          show Go _ _ _ _ T517 (mkF m 63 #[.val (.ref a), .val (.ref am), .val (.int (2 : Int32)), .val (.int (0 : Int32)), .unset, .unset, .unset, .unset, .unset] [(.int (4 : Int32)), (.ref aB)]) _ _ _
          refine Go.iconst X517 hx (hb hby d_add44_63) ?_
          show Go _ _ _ _ T517 (mkF m 64 #[.val (.ref a), .val (.ref am), .val (.int (2 : Int32)), .val (.int (0 : Int32)), .unset, .unset, .unset, .unset, .unset] [(.int (1 : Int32)), (.int (4 : Int32)), (.ref aB)]) _ _ _
          refine Go.isub X517 hx (hb hby d_add44_64) ?_
          show Go _ _ _ _ T517 (mkF m 65 #[.val (.ref a), .val (.ref am), .val (.int (2 : Int32)), .val (.int (0 : Int32)), .unset, .unset, .unset, .unset, .unset] [(.int (3 : Int32)), (.ref aB)]) _ _ _
          refine Go.aloadN X517 hx (hb hby d_add44_65) rfl rfl ?_
          refine Go.iconst X517 hx (hb hby d_add44_66) ?_
          show Go _ _ _ _ T517 (mkF m 67 #[.val (.ref a), .val (.ref am), .val (.int (2 : Int32)), .val (.int (0 : Int32)), .unset, .unset, .unset, .unset, .unset] [(.int (1 : Int32)), (.ref am), (.int (3 : Int32)), (.ref aB)]) _ _ _
          refine Go.iaload X517 hx hZ e517 f8 (by decide) (by decide) (hb hby d_add44_67) ?_
          show Go _ _ _ _ T517 (mkF m 68 #[.val (.ref a), .val (.ref am), .val (.int (2 : Int32)), .val (.int (0 : Int32)), .unset, .unset, .unset, .unset, .unset] [(.int y), (.int (3 : Int32)), (.ref aB)]) _ _ _
          refine Go.iastore X517 hx hZ e517 f7 (by decide) (by decide) (hb hby d_add44_68) ?_
          intro T518 h518 X518 e518 W518 A518
          have N518 := Fr.snoc X518 N0 f14
          have Z518 : n0 ≤ h518.size := by rw [Wr.size W518]; exact Z0
          have B518 : h0.size ≤ h518.size := by rw [Wr.size W518]; exact (Nat.le_refl _)
          show Go _ _ _ _ T518 (mkF m 69 #[.val (.ref a), .val (.ref am), .val (.int (2 : Int32)), .val (.int (0 : Int32)), .unset, .unset, .unset, .unset, .unset] []) _ _ _
          refine Go.iconst X518 hx (hb hby d_add44_69) ?_
          show Go _ _ _ _ T518 (mkF m 70 #[.val (.ref a), .val (.ref am), .val (.int (2 : Int32)), .val (.int (0 : Int32)), .unset, .unset, .unset, .unset, .unset] [(.int (2 : Int32))]) _ _ _
          refine Go.istoreN X518 hx (hb hby d_add44_70) (l' := #[.val (.ref a), .val (.ref am), .val (.int (2 : Int32)), .val (.int (2 : Int32)), .unset, .unset, .unset, .unset, .unset]) rfl ?_
          refine Go.aloadN X518 hx (hb hby d_add44_71) rfl rfl ?_
          refine Go.getF X518 hx hZ hown (w31 hw) Via.refl e518 (Fld.other W518 f6 (Or.inl f2)) (hb hby d_add44_72) ?_
          intro T519 X519 e519
          show Go _ _ _ _ T519 (mkF m 75 #[.val (.ref a), .val (.ref am), .val (.int (2 : Int32)), .val (.int (2 : Int32)), .unset, .unset, .unset, .unset, .unset] [(.int (4 : Int32))]) _ _ _
          refine Go.iloadN X519 hx (hb hby d_add44_75) rfl ?_
          refine Go.iadd X519 hx (hb hby d_add44_76) ?_
          show Go _ _ _ _ T519 (mkF m 77 #[.val (.ref a), .val (.ref am), .val (.int (2 : Int32)), .val (.int (2 : Int32)), .unset, .unset, .unset, .unset, .unset] [(.int (6 : Int32))]) _ _ _
          refine Go.iloadN X519 hx (hb hby d_add44_77) rfl ?_
          refine Go.isub X519 hx (hb hby d_add44_78) ?_
          show Go _ _ _ _ T519 (mkF m 79 #[.val (.ref a), .val (.ref am), .val (.int (2 : Int32)), .val (.int (2 : Int32)), .unset, .unset, .unset, .unset, .unset] [(.int (4 : Int32))]) _ _ _
          refine Go.aloadN X519 hx (hb hby d_add44_79) rfl rfl ?_
          refine Go.getF X519 hx hZ hown (w19 hw) Via.refl e519 (Fld.other W518 f5 (Or.inl f2)) (hb hby d_add44_80) ?_
          intro T520 X520 e520
          show Go _ _ _ _ T520 (mkF m 83 #[.val (.ref a), .val (.ref am), .val (.int (2 : Int32)), .val (.int (2 : Int32)), .unset, .unset, .unset, .unset, .unset] [(.ref aB), (.int (4 : Int32))]) _ _ _
          refine Go.alen X520 hx hZ e520 A518 (hb hby d_add44_83) ?_
          show Go _ _ _ _ T520 (mkF m 84 #[.val (.ref a), .val (.ref am), .val (.int (2 : Int32)), .val (.int (2 : Int32)), .unset, .unset, .unset, .unset, .unset] [(.int (4 : Int32)), (.int (4 : Int32))]) _ _ _
          refine Go.icmpYes X520 hx (hb hby d_add44_84) (XT.ii_le_t (by decide)) (pc' := 116) (by decide) (by decide) ?_
          show Go _ _ _ _ T520 (mkF m 116 #[.val (.ref a), .val (.ref am), .val (.int (2 : Int32)), .val (.int (2 : Int32)), .unset, .unset, .unset, .unset, .unset] []) _ _ _
          refine Go.aloadN X520 hx (hb hby d_add44_116) rfl rfl ?_
          refine Go.iloadN X520 hx (hb hby d_add44_117) rfl ?_
          refine Go.aloadN X520 hx (hb hby d_add44_118) rfl rfl ?_
          refine Go.getF X520 hx hZ hown (w19 hw) Via.refl e520 (Fld.other W518 f5 (Or.inl f2)) (hb hby d_add44_119) ?_
          intro T521 X521 e521
          show Go _ _ _ _ T521 (mkF m 122 #[.val (.ref a), .val (.ref am), .val (.int (2 : Int32)), .val (.int (2 : Int32)), .unset, .unset, .unset, .unset, .unset] [(.ref aB), (.int (2 : Int32)), (.ref am)]) _ _ _
          refine Go.aloadN X521 hx (hb hby d_add44_122) rfl rfl ?_
          refine Go.getF X521 hx hZ hown (w31 hw) Via.refl e521 (Fld.other W518 f6 (Or.inl f2)) (hb hby d_add44_123) ?_
          intro T522 X522 e522
          show Go _ _ _ _ T522 (mkF m 126 #[.val (.ref a), .val (.ref am), .val (.int (2 : Int32)), .val (.int (2 : Int32)), .unset, .unset, .unset, .unset, .unset] [(.int (4 : Int32)), (.ref aB), (.int (2 : Int32)), (.ref am)]) _ _ _
          refine Go.iloadN X522 hx (hb hby d_add44_126) rfl ?_
          refine Go.iloadN X522 hx (hb hby d_add44_127) rfl ?_
          refine Go.isub X522 hx (hb hby d_add44_128) ?_
          show Go _ _ _ _ T522 (mkF m 129 #[.val (.ref a), .val (.ref am), .val (.int (2 : Int32)), .val (.int (2 : Int32)), .unset, .unset, .unset, .unset, .unset] [(.int (0 : Int32)), (.int (4 : Int32)), (.ref aB), (.int (2 : Int32)), (.ref am)]) _ _ _
          refine Go.acopy (W := 0) X522 hx hZ hown (w43 hw) (w42 hw) (w40 hw) (w41 hw) e522 (Af.other W518 f8 (Ne.symm f4)) A518 rfl (fun i hi => by have hi' : i < 2 := hi; rcases lt_2 hi' with rfl | rfl <;> first | (simp [updI, updV]; done) | rfl) (fun i hi => by have hi' : i < 4 := hi; rcases lt_4 hi' with rfl | rfl | rfl | rfl <;> first | (simp [updI, updV]; done) | rfl) (by decide) (by decide) (by decide) (by decide) (by decide) N518 f14 (hb hby d_add44_129) (by rw [hml]; rfl) (Nat.le_of_eq rfl) (by decide) (by decide) ?_
          intro T523 h523 L523 X523 e523 N523 K523 A523
          have Z523 : n0 ≤ h523.size := Nat.le_trans Z518 K523.1
          have B523 : h0.size ≤ h523.size := Nat.le_trans B518 K523.1
          have A524 : Af Z h523 aB kB .int 4 (fun i => Value.int ((updI (updI (updI (updI (fun _ => (0 : Int32)) 0 (f 0)) 1 (f 1)) 2 (f 2)) 3 y) i)) := Af.congr A523 (fun i hi => by have hi' : i < 4 := hi; rcases lt_4 hi' with rfl | rfl | rfl | rfl <;> first | (simp [updI, updV]; done) | rfl)
          show Go _ _ _ _ T523 (mkF m 132 #[.val (.ref a), .val (.ref am), .val (.int (2 : Int32)), .val (.int (2 : Int32)), .unset, .unset, .unset, .unset, .unset] []) _ _ _
          refine Go.aloadN X523 hx (hb hby d_add44_132) rfl rfl ?_
          refine Go.dup X523 hx (hb hby d_add44_133) rfl ?_
          have F525 := (Fld.keep (Fld.other W518 f6 (Or.inl f2)) K523 (ninS f2 nin0))
          refine Go.getF X523 hx hZ hown (w31 hw) Via.refl e523 F525 (hb hby d_add44_134) ?_
          intro T526 X526 e526
          show Go _ _ _ _ T526 (mkF m 137 #[.val (.ref a), .val (.ref am), .val (.int (2 : Int32)), .val (.int (2 : Int32)), .unset, .unset, .unset, .unset, .unset] [(.int (4 : Int32)), (.ref a)]) _ _ _
          refine Go.iloadN X526 hx (hb hby d_add44_137) rfl ?_
          refine Go.iloadN X526 hx (hb hby d_add44_138) rfl ?_
          refine Go.isub X526 hx (hb hby d_add44_139) ?_
          show Go _ _ _ _ T526 (mkF m 140 #[.val (.ref a), .val (.ref am), .val (.int (2 : Int32)), .val (.int (2 : Int32)), .unset, .unset, .unset, .unset, .unset] [(.int (0 : Int32)), (.int (4 : Int32)), (.ref a)]) _ _ _
          refine Go.iadd X526 hx (hb hby d_add44_140) ?_
          show Go _ _ _ _ T526 (mkF m 141 #[.val (.ref a), .val (.ref am), .val (.int (2 : Int32)), .val (.int (2 : Int32)), .unset, .unset, .unset, .unset, .unset] [(.int (4 : Int32)), (.ref a)]) _ _ _
          refine Go.putF X526 hx hZ hown (w31 hw) Via.refl e526 F525 (Exa.keep (Exa.wr W518 f0) K523) (Or.inl (w32 hw)) (w9 hw) (ty := .int) (by decide) rfl rfl (hb hby d_add44_141) ?_
          intro T527 h527 X527 e527 W527
          have N527 := Fr.snoc X527 N523 f1
          have Z527 : n0 ≤ h527.size := by rw [Wr.size W527]; exact Z523
          have B527 : h0.size ≤ h527.size := by rw [Wr.size W527]; exact B523
          show Go _ _ _ _ T527 (mkF m 144 #[.val (.ref a), .val (.ref am), .val (.int (2 : Int32)), .val (.int (2 : Int32)), .unset, .unset, .unset, .unset, .unset] []) _ _ _
          refine Go.goto X527 hx (hb hby d_add44_144) (pc' := 320) (by decide) (by decide) ?_
          show Go _ _ _ _ T527 (mkF m 320 #[.val (.ref a), .val (.ref am), .val (.int (2 : Int32)), .val (.int (2 : Int32)), .unset, .unset, .unset, .unset, .unset] []) _ _ _
          refine Go.ret0 X527 hx hlk hret (hb hby d_add44_320) (by decide) (by decide) ?_
          rw [e527]
          have F528 := (Exa.wr W527 (Exa.keep (Exa.wr W518 f0) K523))
          have F530 := (Fld.other W527 (Fld.keep (Fld.other W518 f5 (Or.inl f2)) K523 (ninS f2 nin0)) (Or.inr (slot_ne (a0 := a0) (Or.inl (w20 hw)) (Or.inl (w32 hw)) (t := (.array .int)) (t' := .int) (by decide) (by decide) (by decide))))
          have AC529 : Af Z h527 aB kB .int 4 (fun i => Value.int ((updI (updI (updI (updI (fun _ => (0 : Int32)) 0 (f 0)) 1 (f 1)) 2 (f 2)) 3 y) i)) := Af.congr (Af.other W527 A524 (Ne.symm f2)) (fun i hi => by have hi' : i < 4 := hi; rcases lt_4 hi' with rfl | rfl | rfl | rfl <;> first | (simp [updI, updV]; done) | rfl)
          have fin529 := fin_add44_529 f x y M f12 f13 q0 q1 q2 q3 hM' c293 c515
          exact ⟨aB, rfl, N527, (Keep.wr (Keep.trans (Keep.wr (Keep.refl _ _) W518 (Or.inl (List.mem_of_getElem? (i := 1) rfl))) K523 (allS (Or.inl (List.mem_of_getElem? (i := 1) rfl)) all0)) W527 (Or.inl (List.mem_of_getElem? (i := 0) rfl))), F528, ⟨_, _, 4, 4, _, F530, (Fld.same W527 F525), AC529, f2, (fun _ => f14), (Or.inr (Or.inr (Or.inr (Or.inl ⟨(k_up f9 (by decide)), rfl, rfl, rfl⟩)))), fin529.1, fin529.2⟩⟩
      · refine Go.icmpYes X514 hx (hb hby d_add44_52) (XT.ii_ne_t c515) (pc' := 71) (by decide) (by decide) ?_
        show Go _ _ _ _ T514 (mkF m 71 #[.val (.ref a), .val (.ref am), .val (.int (2 : Int32)), .val (.int (0 : Int32)), .unset, .unset, .unset, .unset, .unset] []) _ _ _
        as_aux_lemma =>
          refine Go.aloadN X514 hx (hb hby d_add44_71) rfl rfl ?_
          refine Go.getF X514 hx hZ hown (w31 hw) Via.refl e514 f6 (hb hby d_add44_72) ?_
          intro T533 X533 e533
          show Go _ _ _ _ T533 (mkF m 75 #[.val (.ref a), .val (.ref am), .val (.int (2 : Int32)), .val (.int (0 : Int32)), .unset, .unset, .unset, .unset, .unset] [(.int (4 : Int32))]) _ _ _
          refine Go.iloadN X533 hx (hb hby d_add44_75) rfl ?_
          refine Go.iadd X533 hx (hb hby d_add44_76) ?_
          show Go _ _ _ _ T533 (mkF m 77 #[.val (.ref a), .val (.ref am), .val (.int (2 : Int32)), .val (.int (0 : Int32)), .unset, .unset, .unset, .unset, .unset] [(.int (6 : Int32))]) _ _ _
          refine Go.iloadN X533 hx (hb hby d_add44_77) rfl ?_
          refine Go.isub X533 hx (hb hby d_add44_78) ?_
          show Go _ _ _ _ T533 (mkF m 79 #[.val (.ref a), .val (.ref am), .val (.int (2 : Int32)), .val (.int (0 : Int32)), .unset, .unset, .unset, .unset, .unset] [(.int (6 : Int32))]) _ _ _
          refine Go.aloadN X533 hx (hb hby d_add44_79) rfl rfl ?_
          refine Go.getF X533 hx hZ hown (w19 hw) Via.refl e533 f5 (hb hby d_add44_80) ?_
          intro T534 X534 e534
          show Go _ _ _ _ T534 (mkF m 83 #[.val (.ref a), .val (.ref am), .val (.int (2 : Int32)), .val (.int (0 : Int32)), .unset, .unset, .unset, .unset, .unset] [(.ref aB), (.int (6 : Int32))]) _ _ _
          refine Go.alen X534 hx hZ e534 f7 (hb hby d_add44_83) ?_
          show Go _ _ _ _ T534 (mkF m 84 #[.val (.ref a), .val (.ref am), .val (.int (2 : Int32)), .val (.int (0 : Int32)), .unset, .unset, .unset, .unset, .unset] [(.int (4 : Int32)), (.int (6 : Int32))]) _ _ _
          refine Go.icmpNo X534 hx (hb hby d_add44_84) (XT.ii_le_f (by decide)) ?_
          show Go _ _ _ _ T534 (mkF m 87 #[.val (.ref a), .val (.ref am), .val (.int (2 : Int32)), .val (.int (0 : Int32)), .unset, .unset, .unset, .unset, .unset] []) _ _ _
          refine Go.aloadN X534 hx (hb hby d_add44_87) rfl rfl ?_
          refine Go.aloadN X534 hx (hb hby d_add44_88) rfl rfl ?_
          refine Go.getF X534 hx hZ hown (w19 hw) Via.refl e534 f5 (hb hby d_add44_89) ?_
          intro T535 X535 e535
          show Go _ _ _ _ T535 (mkF m 92 #[.val (.ref a), .val (.ref am), .val (.int (2 : Int32)), .val (.int (0 : Int32)), .unset, .unset, .unset, .unset, .unset] [(.ref aB), (.ref a)]) _ _ _
          refine Go.iconst X535 hx (hb hby d_add44_92) ?_
          show Go _ _ _ _ T535 (mkF m 93 #[.val (.ref a), .val (.ref am), .val (.int (2 : Int32)), .val (.int (0 : Int32)), .unset, .unset, .unset, .unset, .unset] [(.int (2 : Int32)), (.ref aB), (.ref a)]) _ _ _
          refine Go.aloadN X535 hx (hb hby d_add44_93) rfl rfl ?_
          refine Go.getF X535 hx hZ hown (w19 hw) Via.refl e535 f5 (hb hby d_add44_94) ?_
          intro T536 X536 e536
          show Go _ _ _ _ T536 (mkF m 97 #[.val (.ref a), .val (.ref am), .val (.int (2 : Int32)), .val (.int (0 : Int32)), .unset, .unset, .unset, .unset, .unset] [(.ref aB), (.int (2 : Int32)), (.ref aB), (.ref a)]) _ _ _
          refine Go.alen X536 hx hZ e536 f7 (hb hby d_add44_97) ?_
          show Go _ _ _ _ T536 (mkF m 98 #[.val (.ref a), .val (.ref am), .val (.int (2 : Int32)), .val (.int (0 : Int32)), .unset, .unset, .unset, .unset, .unset] [(.int (4 : Int32)), (.int (2 : Int32)), (.ref aB), (.ref a)]) _ _ _
          refine Go.imul X536 hx (hb hby d_add44_98) ?_
          show Go _ _ _ _ T536 (mkF m 99 #[.val (.ref a), .val (.ref am), .val (.int (2 : Int32)), .val (.int (0 : Int32)), .unset, .unset, .unset, .unset, .unset] [(.int (8 : Int32)), (.ref aB), (.ref a)]) _ _ _
          refine Go.aloadN X536 hx (hb hby d_add44_99) rfl rfl ?_
          refine Go.getF X536 hx hZ hown (w31 hw) Via.refl e536 f6 (hb hby d_add44_100) ?_
          intro T537 X537 e537
          show Go _ _ _ _ T537 (mkF m 103 #[.val (.ref a), .val (.ref am), .val (.int (2 : Int32)), .val (.int (0 : Int32)), .unset, .unset, .unset, .unset, .unset] [(.int (4 : Int32)), (.int (8 : Int32)), (.ref aB), (.ref a)]) _ _ _
          refine Go.iloadN X537 hx (hb hby d_add44_103) rfl ?_
          refine Go.iadd X537 hx (hb hby d_add44_104) ?_
          show Go _ _ _ _ T537 (mkF m 105 #[.val (.ref a), .val (.ref am), .val (.int (2 : Int32)), .val (.int (0 : Int32)), .unset, .unset, .unset, .unset, .unset] [(.int (6 : Int32)), (.int (8 : Int32)), (.ref aB), (.ref a)]) _ _ _
          refine Go.iloadN X537 hx (hb hby d_add44_105) rfl ?_
          refine Go.isub X537 hx (hb hby d_add44_106) ?_
          show Go _ _ _ _ T537 (mkF m 107 #[.val (.ref a), .val (.ref am), .val (.int (2 : Int32)), .val (.int (0 : Int32)), .unset, .unset, .unset, .unset, .unset] [(.int (6 : Int32)), (.int (8 : Int32)), (.ref aB), (.ref a)]) _ _ _
          refine Go.callS (W := 2) (argsL := [(.int (8 : Int32)), (.int (6 : Int32))]) (rest := [(.ref aB), (.ref a)]) X537 hx hZ hown (w33 hw) (w6 hw) (w3 hw) (w7 hw) (by decide) (rm_max l Z a0 hw ((8 : Int32)) ((6 : Int32)) h0) e537 (lenOf pd_0 rfl) (hb hby d_add44_107) (by rw [hml]; rfl) rfl (Nat.le_of_eq rfl) (by decide) (by decide) (by decide) (by decide) ?_
          intro v538 T538 L538 X538 q538
          obtain ⟨rfl, rfl, e538⟩ := q538
          have N538 := Fr.app N0 (Fr.nil n0)
          show Go _ _ _ _ T538 (mkF m 110 #[.val (.ref a), .val (.ref am), .val (.int (2 : Int32)), .val (.int (0 : Int32)), .unset, .unset, .unset, .unset, .unset] [(.int (8 : Int32)), (.ref aB), (.ref a)]) _ _ _
          refine Go.callS (W := 1) (argsL := [(.ref aB), (.int (8 : Int32))]) (rest := [(.ref a)]) X538 hx hZ hown (w34 hw) (w35 hw) (w36 hw) (w37 hw) (by decide) (rm_cp4 l Z a0 hw aB kB f h0 n0 Z0 f7) e538 (lenOf pd_1 rfl) (hb hby d_add44_110) (by rw [hml]; rfl) rfl (Nat.le_of_eq rfl) (by decide) (by decide) (by decide) (by decide) ?_
          intro v539 T539 L539 X539 q539
          obtain ⟨r539, ks539, rfl, M539, K539, P539_0, P539_1, P539_2⟩ := q539
          have N539 := Fr.app N538 M539
          have Z539 : n0 ≤ T539.heap.size := Nat.le_trans Z0 K539.1
          have B539 : h0.size ≤ T539.heap.size := Nat.le_trans (Nat.le_refl _) K539.1
          have ne_a_r539 : a ≠ r539 := Nat.ne_of_lt (Nat.lt_of_lt_of_le (f0).lt P539_1)
          have ne_aB_r539 : aB ≠ r539 := Nat.ne_of_lt (Nat.lt_of_lt_of_le (f7).lt P539_1)
          have ne_am_r539 : am ≠ r539 := Nat.ne_of_lt (Nat.lt_of_lt_of_le (f8).lt P539_1)
          show Go _ _ _ _ T539 (mkF m 113 #[.val (.ref a), .val (.ref am), .val (.int (2 : Int32)), .val (.int (0 : Int32)), .unset, .unset, .unset, .unset, .unset] [(.ref r539), (.ref a)]) _ _ _
          refine Go.putF X539 hx hZ hown (w19 hw) Via.refl rfl (Fld.keep f5 K539 nin0) (Exa.keep f0 K539) (Or.inl (w20 hw)) (w9 hw) (ty := (.array .int)) (by decide) rfl rfl (hb hby d_add44_113) ?_
          intro T540 h540 X540 e540 W540
          have N540 := Fr.snoc X540 N539 f1
          have Z540 : n0 ≤ h540.size := by rw [Wr.size W540]; exact Z539
          have B540 : h0.size ≤ h540.size := by rw [Wr.size W540]; exact B539
          show Go _ _ _ _ T540 (mkF m 116 #[.val (.ref a), .val (.ref am), .val (.int (2 : Int32)), .val (.int (0 : Int32)), .unset, .unset, .unset, .unset, .unset] []) _ _ _
          refine Go.aloadN X540 hx (hb hby d_add44_116) rfl rfl ?_
          refine Go.iloadN X540 hx (hb hby d_add44_117) rfl ?_
          refine Go.aloadN X540 hx (hb hby d_add44_118) rfl rfl ?_
          refine Go.getF X540 hx hZ hown (w19 hw) Via.refl e540 (Fld.same W540 (Fld.keep f5 K539 nin0)) (hb hby d_add44_119) ?_
          intro T541 X541 e541
          show Go _ _ _ _ T541 (mkF m 122 #[.val (.ref a), .val (.ref am), .val (.int (2 : Int32)), .val (.int (0 : Int32)), .unset, .unset, .unset, .unset, .unset] [(.ref r539), (.int (0 : Int32)), (.ref am)]) _ _ _
          refine Go.aloadN X541 hx (hb hby d_add44_122) rfl rfl ?_
          have F542 := (Fld.other W540 (Fld.keep f6 K539 nin0) (Or.inr (slot_ne (a0 := a0) (Or.inl (w32 hw)) (Or.inl (w20 hw)) (t := .int) (t' := (.array .int)) (by decide) (by decide) (by decide))))
          refine Go.getF X541 hx hZ hown (w31 hw) Via.refl e541 F542 (hb hby d_add44_123) ?_
          intro T543 X543 e543
          show Go _ _ _ _ T543 (mkF m 126 #[.val (.ref a), .val (.ref am), .val (.int (2 : Int32)), .val (.int (0 : Int32)), .unset, .unset, .unset, .unset, .unset] [(.int (4 : Int32)), (.ref r539), (.int (0 : Int32)), (.ref am)]) _ _ _
          refine Go.iloadN X543 hx (hb hby d_add44_126) rfl ?_
          refine Go.iloadN X543 hx (hb hby d_add44_127) rfl ?_
          refine Go.isub X543 hx (hb hby d_add44_128) ?_
          show Go _ _ _ _ T543 (mkF m 129 #[.val (.ref a), .val (.ref am), .val (.int (2 : Int32)), .val (.int (0 : Int32)), .unset, .unset, .unset, .unset, .unset] [(.int (2 : Int32)), (.int (4 : Int32)), (.ref r539), (.int (0 : Int32)), (.ref am)]) _ _ _
          have F545 := (Af.other W540 (Af.keep f8 K539 nin0) (Ne.symm f3))
          have F546 := (Af.other W540 P539_2 (Ne.symm ne_a_r539))
          refine Go.acopy (W := 0) X543 hx hZ hown (w43 hw) (w42 hw) (w40 hw) (w41 hw) e543 F545 F546 rfl (fun i hi => by have hi' : i < 2 := hi; rcases lt_2 hi' with rfl | rfl <;> first | (simp [updI, updV]; done) | rfl) (fun i hi => by have hi' : i < 8 := hi; rcases lt_8 hi' with rfl | rfl | rfl | rfl | rfl | rfl | rfl | rfl <;> first | (simp [updI, updV]; done) | rfl) (by decide) (by decide) (by decide) (by decide) (by decide) N540 P539_0 (hb hby d_add44_129) (by rw [hml]; rfl) (Nat.le_of_eq rfl) (by decide) (by decide) ?_
          intro T544 h544 L544 X544 e544 N544 K544 A544
          have Z544 : n0 ≤ h544.size := Nat.le_trans Z540 K544.1
          have B544 : h0.size ≤ h544.size := Nat.le_trans B540 K544.1
          have A547 : Af Z h544 r539 ks539 .int 8 (fun i => Value.int ((updI (updI (updI (updI (updI (updI (updI (updI (fun _ => (0 : Int32)) 0 (f 0)) 1 (f 1)) 2 (f 2)) 3 (f 3)) 4 x) 5 y) 6 (0 : Int32)) 7 (0 : Int32)) i)) := Af.congr A544 (fun i hi => by have hi' : i < 8 := hi; rcases lt_8 hi' with rfl | rfl | rfl | rfl | rfl | rfl | rfl | rfl <;> first | (simp [updI, updV]; done) | rfl)
          show Go _ _ _ _ T544 (mkF m 132 #[.val (.ref a), .val (.ref am), .val (.int (2 : Int32)), .val (.int (0 : Int32)), .unset, .unset, .unset, .unset, .unset] []) _ _ _
          refine Go.aloadN X544 hx (hb hby d_add44_132) rfl rfl ?_
          refine Go.dup X544 hx (hb hby d_add44_133) rfl ?_
          have F548 := (Fld.keep F542 K544 (ninS ne_a_r539 nin0))
          refine Go.getF X544 hx hZ hown (w31 hw) Via.refl e544 F548 (hb hby d_add44_134) ?_
          intro T549 X549 e549
          show Go _ _ _ _ T549 (mkF m 137 #[.val (.ref a), .val (.ref am), .val (.int (2 : Int32)), .val (.int (0 : Int32)), .unset, .unset, .unset, .unset, .unset] [(.int (4 : Int32)), (.ref a)]) _ _ _
          refine Go.iloadN X549 hx (hb hby d_add44_137) rfl ?_
          refine Go.iloadN X549 hx (hb hby d_add44_138) rfl ?_
          refine Go.isub X549 hx (hb hby d_add44_139) ?_
          show Go _ _ _ _ T549 (mkF m 140 #[.val (.ref a), .val (.ref am), .val (.int (2 : Int32)), .val (.int (0 : Int32)), .unset, .unset, .unset, .unset, .unset] [(.int (2 : Int32)), (.int (4 : Int32)), (.ref a)]) _ _ _
          refine Go.iadd X549 hx (hb hby d_add44_140) ?_
          show Go _ _ _ _ T549 (mkF m 141 #[.val (.ref a), .val (.ref am), .val (.int (2 : Int32)), .val (.int (0 : Int32)), .unset, .unset, .unset, .unset, .unset] [(.int (6 : Int32)), (.ref a)]) _ _ _
          have F550 := (Exa.keep (Exa.wr W540 (Exa.keep f0 K539)) K544)
          refine Go.putF X549 hx hZ hown (w31 hw) Via.refl e549 F548 F550 (Or.inl (w32 hw)) (w9 hw) (ty := .int) (by decide) rfl rfl (hb hby d_add44_141) ?_
          intro T551 h551 X551 e551 W551
          have N551 := Fr.snoc X551 N544 f1
          have Z551 : n0 ≤ h551.size := by rw [Wr.size W551]; exact Z544
          have B551 : h0.size ≤ h551.size := by rw [Wr.size W551]; exact B544
          show Go _ _ _ _ T551 (mkF m 144 #[.val (.ref a), .val (.ref am), .val (.int (2 : Int32)), .val (.int (0 : Int32)), .unset, .unset, .unset, .unset, .unset] []) _ _ _
          refine Go.goto X551 hx (hb hby d_add44_144) (pc' := 320) (by decide) (by decide) ?_
          show Go _ _ _ _ T551 (mkF m 320 #[.val (.ref a), .val (.ref am), .val (.int (2 : Int32)), .val (.int (0 : Int32)), .unset, .unset, .unset, .unset, .unset] []) _ _ _
          refine Go.ret0 X551 hx hlk hret (hb hby d_add44_320) (by decide) (by decide) ?_
          rw [e551]
          have F553 := (Fld.other W551 (Fld.keep (Fld.same W540 (Fld.keep f5 K539 nin0)) K544 (ninS ne_a_r539 nin0)) (Or.inr (slot_ne (a0 := a0) (Or.inl (w20 hw)) (Or.inl (w32 hw)) (t := (.array .int)) (t' := .int) (by decide) (by decide) (by decide))))
          have AC552 : Af Z h551 r539 ks539 .int 8 (fun i => Value.int ((updI (updI (updI (updI (updI (updI (updI (updI (fun _ => (0 : Int32)) 0 (f 0)) 1 (f 1)) 2 (f 2)) 3 (f 3)) 4 x) 5 y) 6 (0 : Int32)) 7 (0 : Int32)) i)) := Af.congr (Af.other W551 A547 (Ne.symm ne_a_r539)) (fun i hi => by have hi' : i < 8 := hi; rcases lt_8 hi' with rfl | rfl | rfl | rfl | rfl | rfl | rfl | rfl <;> first | (simp [updI, updV]; done) | rfl)
          have fin552 := fin_add44_552 f x y M f12 f13 q0 q1 q2 q3 hM' c293 c515
          exact ⟨r539, rfl, N551, (Keep.wr (Keep.trans (Keep.wr (Keep.trans (Keep.refl _ _) K539 all0) W540 (Or.inl (List.mem_of_getElem? (i := 0) rfl))) K544 (allS (Or.inr (Nat.le_trans (Nat.le_refl _) P539_1)) all0)) W551 (Or.inl (List.mem_of_getElem? (i := 0) rfl))), (Exa.wr W551 F550), ⟨_, _, 8, 6, _, F553, (Fld.same W551 F548), AC552, ne_a_r539, (fun _ => P539_0), (Or.inr (Or.inr (Or.inr (Or.inr (Or.inl ⟨(k_up f9 (by decide)), rfl, rfl, rfl⟩))))), fin552.1, fin552.2⟩⟩
def Q_set (Z : State) (a : Addr) (p1 : Int32) (p2 : Int32) (aB : Addr) (k : Nat) (M : Int → Prop) (h0 : Heap) (n0 : Nat) (v : Option Value) (h : Heap) (L : List Loc) : Prop := ∃ (aX : Addr), v = none ∧ Fr n0 L ∧ Keep h0 h [a, aB] ∧ Exa Z h a "com/example/collate/collate/analysis/AtomSet" ∧ AS Z h n0 a aX (k + 1) (ADD (M) p1 p2)
theorem ef_set (m : MethodId) (x0 : Addr) (x1 : Int32) (x2 : Int32) : entryFrame m #[(.ref x0), (.int x1), (.int x2)] 3 = mkF m 0 #[.val (.ref x0), .val (.int x1), .val (.int x2)] [] := by first | (simp [entryFrame, mkF, argsToLocals, Value.category]; done) | rfl
set_option maxRecDepth 65536 in
set_option maxHeartbeats 40000000 in
theorem rm_set (l : Launch) (Z : State) (a0 : Array Value) (hw : ∀ d ∈ tables_1, d.before a0 Z = true) (a : Addr) (p1 : Int32) (p2 : Int32) (aB : Addr) (k : Nat) (M : Int → Prop) (h0 : Heap) (n0 : Nat) (Z0 : n0 ≤ h0.size) (f0 : Exa Z h0 a "com/example/collate/collate/analysis/AtomSet") (f1 : n0 ≤ a) (f2 : AS Z h0 n0 a aB k M) (f3 : k ≤ 2) (f4 : 0 ≤ p1.toInt) (f5 : p1.toInt ≤ p2.toInt) :
    Met l Z (⟨"com/example/collate/collate/analysis/AtomSet", "set", "(II)V"⟩ : MethodName) prog_6_method_4_code 3 none [] ({ frames := 3, cells := 2, slots := 10, locals := 53 } : Room) #[(.ref a), (.int p1), (.int p2)] h0 (Q_set Z a p1 p2 aB k M h0 n0) := by
  refine Met.of (plainFor_of_name pn_set) ?_
  intro p e s m below meth c s₁ X0 hx hby hml hZ hown hnm e0 hret hlk
  refine Go.cast (ef_set m a p1 p2) ?_
  show Go _ _ _ _ s₁ (mkF m 0 #[.val (.ref a), .val (.int p1), .val (.int p2)] []) _ _ _
  have N0 := Fr.nil n0
  obtain ⟨kB, f, L, c, cv, r1, r2, r3, r4, r5, ok, hA, hM⟩ := f2
  rcases ok with ⟨rfl, rfl, rfl⟩ | ⟨kk, rfl, rfl, rfl⟩ | ⟨kk, rfl, rfl, rfl⟩ | ⟨kk, rfl, rfl, rfl⟩ | ⟨kk, rfl, rfl, rfl⟩ | ⟨kk, rfl, rfl, rfl⟩ | ⟨kk, rfl, rfl, rfl⟩ | ⟨kk, rfl, rfl, rfl⟩
  · show Go _ _ _ _ s₁ (mkF m 0 #[.val (.ref a), .val (.int p1), .val (.int p2)] []) _ _ _
    refine Go.iloadN X0 hx (hb hby d_set_0) rfl ?_
    refine Go.ifNo X0 hx (hb hby d_set_1) (XT.i0_lt_f (neg_of f4)) ?_
    show Go _ _ _ _ s₁ (mkF m 4 #[.val (.ref a), .val (.int p1), .val (.int p2)] []) _ _ _
    refine Go.iloadN X0 hx (hb hby d_set_4) rfl ?_
    refine Go.iloadN X0 hx (hb hby d_set_5) rfl ?_
    refine Go.icmpYes X0 hx (hb hby d_set_6) (XT.ii_le_t (nlt_of f5)) (pc' := 24) (by decide) (by decide) ?_
    show Go _ _ _ _ s₁ (mkF m 24 #[.val (.ref a), .val (.int p1), .val (.int p2)] []) _ _ _
    refine Go.iloadN X0 hx (hb hby d_set_24) rfl ?_
    refine Go.iloadN X0 hx (hb hby d_set_25) rfl ?_
    rcases Decidable.em (p1 < p2) with c556 | c556
    · refine Go.icmpNo X0 hx (hb hby d_set_26) (XT.ii_ge_f c556) ?_
      show Go _ _ _ _ s₁ (mkF m 29 #[.val (.ref a), .val (.int p1), .val (.int p2)] []) _ _ _
      refine Go.aloadN X0 hx (hb hby d_set_29) rfl rfl ?_
      refine Go.iconst X0 hx (hb hby d_set_30) ?_
      show Go _ _ _ _ s₁ (mkF m 31 #[.val (.ref a), .val (.int p1), .val (.int p2)] [(.int (2 : Int32)), (.ref a)]) _ _ _
      refine Go.newarray (aty := .int) (cap := 2) X0 hx hZ (w26 hw) e0 (hb hby d_set_31) (by decide) (by decide) (by decide) (by decide) (by decide) ?_
      intro T557 h557 a557 k557 b557 X557 e557 E557 A557
      have g_a557 : n0 ≤ a557 := by rw [b557]; exact Z0
      have y_a557 : h0.size ≤ a557 := by rw [b557]; exact (Nat.le_refl _)
      have ne_a_a557 : a ≠ a557 := by rw [b557]; exact Nat.ne_of_lt f0.lt
      have ne_aB_a557 : aB ≠ a557 := by rw [b557]; exact Nat.ne_of_lt r3.lt
      have Z557 : n0 ≤ h557.size := Nat.le_trans Z0 E557.1
      have B557 : h0.size ≤ h557.size := Nat.le_trans (Nat.le_refl _) E557.1
      show Go _ _ _ _ T557 (mkF m 33 #[.val (.ref a), .val (.int p1), .val (.int p2)] [(.ref a557), (.ref a)]) _ _ _
      refine Go.dup X557 hx (hb hby d_set_33) rfl ?_
      refine Go.iconst X557 hx (hb hby d_set_34) ?_
      show Go _ _ _ _ T557 (mkF m 35 #[.val (.ref a), .val (.int p1), .val (.int p2)] [(.int (0 : Int32)), (.ref a557), (.ref a557), (.ref a)]) _ _ _
      refine Go.iloadN X557 hx (hb hby d_set_35) rfl ?_
      refine Go.iastore X557 hx hZ e557 A557 (by decide) (by decide) (hb hby d_set_36) ?_
      intro T558 h558 X558 e558 W558 A558
      have N558 := Fr.snoc X558 N0 g_a557
      have Z558 : n0 ≤ h558.size := by rw [Wr.size W558]; exact Z557
      have B558 : h0.size ≤ h558.size := by rw [Wr.size W558]; exact B557
      show Go _ _ _ _ T558 (mkF m 37 #[.val (.ref a), .val (.int p1), .val (.int p2)] [(.ref a557), (.ref a)]) _ _ _
      refine Go.dup X558 hx (hb hby d_set_37) rfl ?_
      refine Go.iconst X558 hx (hb hby d_set_38) ?_
      show Go _ _ _ _ T558 (mkF m 39 #[.val (.ref a), .val (.int p1), .val (.int p2)] [(.int (1 : Int32)), (.ref a557), (.ref a557), (.ref a)]) _ _ _
      refine Go.iloadN X558 hx (hb hby d_set_39) rfl ?_
      refine Go.iastore X558 hx hZ e558 A558 (by decide) (by decide) (hb hby d_set_40) ?_
      intro T559 h559 X559 e559 W559 A559
      have N559 := Fr.snoc X559 N558 g_a557
      have Z559 : n0 ≤ h559.size := by rw [Wr.size W559]; exact Z558
      have B559 : h0.size ≤ h559.size := by rw [Wr.size W559]; exact B558
      show Go _ _ _ _ T559 (mkF m 41 #[.val (.ref a), .val (.int p1), .val (.int p2)] [(.ref a557), (.ref a)]) _ _ _
      refine Go.iconst X559 hx (hb hby d_set_41) ?_
      show Go _ _ _ _ T559 (mkF m 42 #[.val (.ref a), .val (.int p1), .val (.int p2)] [(.int (2 : Int32)), (.ref a557), (.ref a)]) _ _ _
      have AM560 : Af Z h559 a557 k557 .int 2 (fun i => Value.int ((updI (updI (fun _ => (0 : Int32)) 0 p1) 1 p2) i)) := Af.congr A559 (fun i hi => by have hi' : i < 2 := hi; rcases lt_2 hi' with rfl | rfl <;> first | (simp [updI, updV]; done) | rfl)
      have F561 := (Exa.wr W559 (Exa.wr W558 (Exa.ext E557 f0)))
      have F562 := (Fld.other W559 (Fld.other W558 (Fld.ext E557 r1) (Or.inl ne_a_a557)) (Or.inl ne_a_a557))
      have F563 := (Fld.other W559 (Fld.other W558 (Fld.ext E557 r2) (Or.inl ne_a_a557)) (Or.inl ne_a_a557))
      have F564 := (Af.other W559 (Af.other W558 (Af.ext E557 r3) ne_aB_a557) ne_aB_a557)
      refine Go.callP (W := 0) (argsL := [(.ref a557), (.int (2 : Int32))]) (rest := []) X559 hx hZ hown (w27 hw) (w28 hw) (w29 hw) (w9 hw) (w10 hw) (w30 hw) (by decide) F561 (rm_add00 l Z a0 hw a a557 aB kB f k557 p1 p2 k M h559 n0 Z559 F561 f1 r4 ne_a_a557 ne_aB_a557 F562 F563 F564 AM560 (Nat.zero_le _) hA hM f4 (Int32.lt_iff_toInt_lt.mp c556)) e559 (lenOf pd_2 rfl) (hb hby d_set_42) (by rw [hml]; rfl) rfl (Nat.le_of_eq rfl) (by decide) (by decide) (by decide) (by decide) ?_
      intro v565 T565 L565 X565 q565
      obtain ⟨aX565, rfl, M565, K565, P565_0, P565_1⟩ := q565
      have N565 := Fr.app N559 M565
      have Z565 : n0 ≤ T565.heap.size := Nat.le_trans Z559 K565.1
      have B565 : h0.size ≤ T565.heap.size := Nat.le_trans B559 K565.1
      show Go _ _ _ _ T565 (mkF m 45 #[.val (.ref a), .val (.int p1), .val (.int p2)] []) _ _ _
      refine Go.ret0 X565 hx hlk hret (hb hby d_set_45) (by decide) (by decide) ?_
      exact ⟨aX565, rfl, N565, (Keep.trans (Keep.wr (Keep.wr (Keep.ext (Keep.refl _ _) E557) W558 (Or.inr y_a557)) W559 (Or.inr y_a557)) K565 (allS (Or.inl (List.mem_of_getElem? (i := 0) rfl)) (allS (Or.inl (List.mem_of_getElem? (i := 1) rfl)) all0))), P565_0, P565_1⟩
    · refine Go.icmpYes X0 hx (hb hby d_set_26) (XT.ii_ge_t c556) (pc' := 45) (by decide) (by decide) ?_
      show Go _ _ _ _ s₁ (mkF m 45 #[.val (.ref a), .val (.int p1), .val (.int p2)] []) _ _ _
      refine Go.ret0 X0 hx hlk hret (hb hby d_set_45) (by decide) (by decide) ?_
      rw [e0]
      exact ⟨aB, rfl, N0, (Keep.refl _ _), f0, ⟨_, _, _, _, _, r1, r2, r3, r4, r5, (Or.inl ⟨rfl, rfl, rfl⟩), hA, mem_same hM c556⟩⟩
  · show Go _ _ _ _ s₁ (mkF m 0 #[.val (.ref a), .val (.int p1), .val (.int p2)] []) _ _ _
    refine Go.iloadN X0 hx (hb hby d_set_0) rfl ?_
    refine Go.ifNo X0 hx (hb hby d_set_1) (XT.i0_lt_f (neg_of f4)) ?_
    show Go _ _ _ _ s₁ (mkF m 4 #[.val (.ref a), .val (.int p1), .val (.int p2)] []) _ _ _
    refine Go.iloadN X0 hx (hb hby d_set_4) rfl ?_
    refine Go.iloadN X0 hx (hb hby d_set_5) rfl ?_
    refine Go.icmpYes X0 hx (hb hby d_set_6) (XT.ii_le_t (nlt_of f5)) (pc' := 24) (by decide) (by decide) ?_
    show Go _ _ _ _ s₁ (mkF m 24 #[.val (.ref a), .val (.int p1), .val (.int p2)] []) _ _ _
    refine Go.iloadN X0 hx (hb hby d_set_24) rfl ?_
    refine Go.iloadN X0 hx (hb hby d_set_25) rfl ?_
    rcases Decidable.em (p1 < p2) with c566 | c566
    · refine Go.icmpNo X0 hx (hb hby d_set_26) (XT.ii_ge_f c566) ?_
      show Go _ _ _ _ s₁ (mkF m 29 #[.val (.ref a), .val (.int p1), .val (.int p2)] []) _ _ _
      refine Go.aloadN X0 hx (hb hby d_set_29) rfl rfl ?_
      refine Go.iconst X0 hx (hb hby d_set_30) ?_
      show Go _ _ _ _ s₁ (mkF m 31 #[.val (.ref a), .val (.int p1), .val (.int p2)] [(.int (2 : Int32)), (.ref a)]) _ _ _
      refine Go.newarray (aty := .int) (cap := 2) X0 hx hZ (w26 hw) e0 (hb hby d_set_31) (by decide) (by decide) (by decide) (by decide) (by decide) ?_
      intro T567 h567 a567 k567 b567 X567 e567 E567 A567
      have g_a567 : n0 ≤ a567 := by rw [b567]; exact Z0
      have y_a567 : h0.size ≤ a567 := by rw [b567]; exact (Nat.le_refl _)
      have ne_a_a567 : a ≠ a567 := by rw [b567]; exact Nat.ne_of_lt f0.lt
      have ne_aB_a567 : aB ≠ a567 := by rw [b567]; exact Nat.ne_of_lt r3.lt
      have Z567 : n0 ≤ h567.size := Nat.le_trans Z0 E567.1
      have B567 : h0.size ≤ h567.size := Nat.le_trans (Nat.le_refl _) E567.1
      show Go _ _ _ _ T567 (mkF m 33 #[.val (.ref a), .val (.int p1), .val (.int p2)] [(.ref a567), (.ref a)]) _ _ _
      refine Go.dup X567 hx (hb hby d_set_33) rfl ?_
      refine Go.iconst X567 hx (hb hby d_set_34) ?_
      show Go _ _ _ _ T567 (mkF m 35 #[.val (.ref a), .val (.int p1), .val (.int p2)] [(.int (0 : Int32)), (.ref a567), (.ref a567), (.ref a)]) _ _ _
      refine Go.iloadN X567 hx (hb hby d_set_35) rfl ?_
      refine Go.iastore X567 hx hZ e567 A567 (by decide) (by decide) (hb hby d_set_36) ?_
      intro T568 h568 X568 e568 W568 A568
      have N568 := Fr.snoc X568 N0 g_a567
      have Z568 : n0 ≤ h568.size := by rw [Wr.size W568]; exact Z567
      have B568 : h0.size ≤ h568.size := by rw [Wr.size W568]; exact B567
      show Go _ _ _ _ T568 (mkF m 37 #[.val (.ref a), .val (.int p1), .val (.int p2)] [(.ref a567), (.ref a)]) _ _ _
      refine Go.dup X568 hx (hb hby d_set_37) rfl ?_
      refine Go.iconst X568 hx (hb hby d_set_38) ?_
      show Go _ _ _ _ T568 (mkF m 39 #[.val (.ref a), .val (.int p1), .val (.int p2)] [(.int (1 : Int32)), (.ref a567), (.ref a567), (.ref a)]) _ _ _
      refine Go.iloadN X568 hx (hb hby d_set_39) rfl ?_
      refine Go.iastore X568 hx hZ e568 A568 (by decide) (by decide) (hb hby d_set_40) ?_
      intro T569 h569 X569 e569 W569 A569
      have N569 := Fr.snoc X569 N568 g_a567
      have Z569 : n0 ≤ h569.size := by rw [Wr.size W569]; exact Z568
      have B569 : h0.size ≤ h569.size := by rw [Wr.size W569]; exact B568
      show Go _ _ _ _ T569 (mkF m 41 #[.val (.ref a), .val (.int p1), .val (.int p2)] [(.ref a567), (.ref a)]) _ _ _
      refine Go.iconst X569 hx (hb hby d_set_41) ?_
      show Go _ _ _ _ T569 (mkF m 42 #[.val (.ref a), .val (.int p1), .val (.int p2)] [(.int (2 : Int32)), (.ref a567), (.ref a)]) _ _ _
      have AM570 : Af Z h569 a567 k567 .int 2 (fun i => Value.int ((updI (updI (fun _ => (0 : Int32)) 0 p1) 1 p2) i)) := Af.congr A569 (fun i hi => by have hi' : i < 2 := hi; rcases lt_2 hi' with rfl | rfl <;> first | (simp [updI, updV]; done) | rfl)
      have F571 := (Exa.wr W569 (Exa.wr W568 (Exa.ext E567 f0)))
      have F572 := (Fld.other W569 (Fld.other W568 (Fld.ext E567 r1) (Or.inl ne_a_a567)) (Or.inl ne_a_a567))
      have F573 := (Fld.other W569 (Fld.other W568 (Fld.ext E567 r2) (Or.inl ne_a_a567)) (Or.inl ne_a_a567))
      have F574 := (Af.other W569 (Af.other W568 (Af.ext E567 r3) ne_aB_a567) ne_aB_a567)
      refine Go.callP (W := 0) (argsL := [(.ref a567), (.int (2 : Int32))]) (rest := []) X569 hx hZ hown (w27 hw) (w28 hw) (w29 hw) (w9 hw) (w10 hw) (w30 hw) (by decide) F571 (rm_add22 l Z a0 hw a a567 aB kB f k567 p1 p2 k M h569 n0 Z569 F571 f1 r4 ne_a_a567 ne_aB_a567 F572 F573 F574 AM570 kk hA hM f4 (Int32.lt_iff_toInt_lt.mp c566) (r5 (by decide))) e569 (lenOf pd_2 rfl) (hb hby d_set_42) (by rw [hml]; rfl) rfl (Nat.le_of_eq rfl) (by decide) (by decide) (by decide) (by decide) ?_
      intro v575 T575 L575 X575 q575
      obtain ⟨aX575, rfl, M575, K575, P575_0, P575_1⟩ := q575
      have N575 := Fr.app N569 M575
      have Z575 : n0 ≤ T575.heap.size := Nat.le_trans Z569 K575.1
      have B575 : h0.size ≤ T575.heap.size := Nat.le_trans B569 K575.1
      show Go _ _ _ _ T575 (mkF m 45 #[.val (.ref a), .val (.int p1), .val (.int p2)] []) _ _ _
      refine Go.ret0 X575 hx hlk hret (hb hby d_set_45) (by decide) (by decide) ?_
      exact ⟨aX575, rfl, N575, (Keep.trans (Keep.wr (Keep.wr (Keep.ext (Keep.refl _ _) E567) W568 (Or.inr y_a567)) W569 (Or.inr y_a567)) K575 (allS (Or.inl (List.mem_of_getElem? (i := 0) rfl)) (allS (Or.inl (List.mem_of_getElem? (i := 1) rfl)) all0))), P575_0, P575_1⟩
    · refine Go.icmpYes X0 hx (hb hby d_set_26) (XT.ii_ge_t c566) (pc' := 45) (by decide) (by decide) ?_
      show Go _ _ _ _ s₁ (mkF m 45 #[.val (.ref a), .val (.int p1), .val (.int p2)] []) _ _ _
      refine Go.ret0 X0 hx hlk hret (hb hby d_set_45) (by decide) (by decide) ?_
      rw [e0]
      exact ⟨aB, rfl, N0, (Keep.refl _ _), f0, ⟨_, _, _, _, _, r1, r2, r3, r4, r5, (Or.inr (Or.inl ⟨(k_up kk (by decide)), rfl, rfl, rfl⟩)), hA, mem_same hM c566⟩⟩
  · show Go _ _ _ _ s₁ (mkF m 0 #[.val (.ref a), .val (.int p1), .val (.int p2)] []) _ _ _
    refine Go.iloadN X0 hx (hb hby d_set_0) rfl ?_
    refine Go.ifNo X0 hx (hb hby d_set_1) (XT.i0_lt_f (neg_of f4)) ?_
    show Go _ _ _ _ s₁ (mkF m 4 #[.val (.ref a), .val (.int p1), .val (.int p2)] []) _ _ _
    refine Go.iloadN X0 hx (hb hby d_set_4) rfl ?_
    refine Go.iloadN X0 hx (hb hby d_set_5) rfl ?_
    refine Go.icmpYes X0 hx (hb hby d_set_6) (XT.ii_le_t (nlt_of f5)) (pc' := 24) (by decide) (by decide) ?_
    show Go _ _ _ _ s₁ (mkF m 24 #[.val (.ref a), .val (.int p1), .val (.int p2)] []) _ _ _
    refine Go.iloadN X0 hx (hb hby d_set_24) rfl ?_
    refine Go.iloadN X0 hx (hb hby d_set_25) rfl ?_
    rcases Decidable.em (p1 < p2) with c576 | c576
    · refine Go.icmpNo X0 hx (hb hby d_set_26) (XT.ii_ge_f c576) ?_
      show Go _ _ _ _ s₁ (mkF m 29 #[.val (.ref a), .val (.int p1), .val (.int p2)] []) _ _ _
      refine Go.aloadN X0 hx (hb hby d_set_29) rfl rfl ?_
      refine Go.iconst X0 hx (hb hby d_set_30) ?_
      show Go _ _ _ _ s₁ (mkF m 31 #[.val (.ref a), .val (.int p1), .val (.int p2)] [(.int (2 : Int32)), (.ref a)]) _ _ _
      refine Go.newarray (aty := .int) (cap := 2) X0 hx hZ (w26 hw) e0 (hb hby d_set_31) (by decide) (by decide) (by decide) (by decide) (by decide) ?_
      intro T577 h577 a577 k577 b577 X577 e577 E577 A577
      have g_a577 : n0 ≤ a577 := by rw [b577]; exact Z0
      have y_a577 : h0.size ≤ a577 := by rw [b577]; exact (Nat.le_refl _)
      have ne_a_a577 : a ≠ a577 := by rw [b577]; exact Nat.ne_of_lt f0.lt
      have ne_aB_a577 : aB ≠ a577 := by rw [b577]; exact Nat.ne_of_lt r3.lt
      have Z577 : n0 ≤ h577.size := Nat.le_trans Z0 E577.1
      have B577 : h0.size ≤ h577.size := Nat.le_trans (Nat.le_refl _) E577.1
      show Go _ _ _ _ T577 (mkF m 33 #[.val (.ref a), .val (.int p1), .val (.int p2)] [(.ref a577), (.ref a)]) _ _ _
      refine Go.dup X577 hx (hb hby d_set_33) rfl ?_
      refine Go.iconst X577 hx (hb hby d_set_34) ?_
      show Go _ _ _ _ T577 (mkF m 35 #[.val (.ref a), .val (.int p1), .val (.int p2)] [(.int (0 : Int32)), (.ref a577), (.ref a577), (.ref a)]) _ _ _
      refine Go.iloadN X577 hx (hb hby d_set_35) rfl ?_
      refine Go.iastore X577 hx hZ e577 A577 (by decide) (by decide) (hb hby d_set_36) ?_
      intro T578 h578 X578 e578 W578 A578
      have N578 := Fr.snoc X578 N0 g_a577
      have Z578 : n0 ≤ h578.size := by rw [Wr.size W578]; exact Z577
      have B578 : h0.size ≤ h578.size := by rw [Wr.size W578]; exact B577
      show Go _ _ _ _ T578 (mkF m 37 #[.val (.ref a), .val (.int p1), .val (.int p2)] [(.ref a577), (.ref a)]) _ _ _
      refine Go.dup X578 hx (hb hby d_set_37) rfl ?_
      refine Go.iconst X578 hx (hb hby d_set_38) ?_
      show Go _ _ _ _ T578 (mkF m 39 #[.val (.ref a), .val (.int p1), .val (.int p2)] [(.int (1 : Int32)), (.ref a577), (.ref a577), (.ref a)]) _ _ _
      refine Go.iloadN X578 hx (hb hby d_set_39) rfl ?_
      refine Go.iastore X578 hx hZ e578 A578 (by decide) (by decide) (hb hby d_set_40) ?_
      intro T579 h579 X579 e579 W579 A579
      have N579 := Fr.snoc X579 N578 g_a577
      have Z579 : n0 ≤ h579.size := by rw [Wr.size W579]; exact Z578
      have B579 : h0.size ≤ h579.size := by rw [Wr.size W579]; exact B578
      show Go _ _ _ _ T579 (mkF m 41 #[.val (.ref a), .val (.int p1), .val (.int p2)] [(.ref a577), (.ref a)]) _ _ _
      refine Go.iconst X579 hx (hb hby d_set_41) ?_
      show Go _ _ _ _ T579 (mkF m 42 #[.val (.ref a), .val (.int p1), .val (.int p2)] [(.int (2 : Int32)), (.ref a577), (.ref a)]) _ _ _
      have AM580 : Af Z h579 a577 k577 .int 2 (fun i => Value.int ((updI (updI (fun _ => (0 : Int32)) 0 p1) 1 p2) i)) := Af.congr A579 (fun i hi => by have hi' : i < 2 := hi; rcases lt_2 hi' with rfl | rfl <;> first | (simp [updI, updV]; done) | rfl)
      have F581 := (Exa.wr W579 (Exa.wr W578 (Exa.ext E577 f0)))
      have F582 := (Fld.other W579 (Fld.other W578 (Fld.ext E577 r1) (Or.inl ne_a_a577)) (Or.inl ne_a_a577))
      have F583 := (Fld.other W579 (Fld.other W578 (Fld.ext E577 r2) (Or.inl ne_a_a577)) (Or.inl ne_a_a577))
      have F584 := (Af.other W579 (Af.other W578 (Af.ext E577 r3) ne_aB_a577) ne_aB_a577)
      refine Go.callP (W := 0) (argsL := [(.ref a577), (.int (2 : Int32))]) (rest := []) X579 hx hZ hown (w27 hw) (w28 hw) (w29 hw) (w9 hw) (w10 hw) (w30 hw) (by decide) F581 (rm_add42 l Z a0 hw a a577 aB kB f k577 p1 p2 k M h579 n0 Z579 F581 f1 r4 ne_a_a577 ne_aB_a577 F582 F583 F584 AM580 kk hA hM f4 (Int32.lt_iff_toInt_lt.mp c576) (r5 (by decide))) e579 (lenOf pd_2 rfl) (hb hby d_set_42) (by rw [hml]; rfl) rfl (Nat.le_of_eq rfl) (by decide) (by decide) (by decide) (by decide) ?_
      intro v585 T585 L585 X585 q585
      obtain ⟨aX585, rfl, M585, K585, P585_0, P585_1⟩ := q585
      have N585 := Fr.app N579 M585
      have Z585 : n0 ≤ T585.heap.size := Nat.le_trans Z579 K585.1
      have B585 : h0.size ≤ T585.heap.size := Nat.le_trans B579 K585.1
      show Go _ _ _ _ T585 (mkF m 45 #[.val (.ref a), .val (.int p1), .val (.int p2)] []) _ _ _
      refine Go.ret0 X585 hx hlk hret (hb hby d_set_45) (by decide) (by decide) ?_
      exact ⟨aX585, rfl, N585, (Keep.trans (Keep.wr (Keep.wr (Keep.ext (Keep.refl _ _) E577) W578 (Or.inr y_a577)) W579 (Or.inr y_a577)) K585 (allS (Or.inl (List.mem_of_getElem? (i := 0) rfl)) (allS (Or.inl (List.mem_of_getElem? (i := 1) rfl)) all0))), P585_0, P585_1⟩
    · refine Go.icmpYes X0 hx (hb hby d_set_26) (XT.ii_ge_t c576) (pc' := 45) (by decide) (by decide) ?_
      show Go _ _ _ _ s₁ (mkF m 45 #[.val (.ref a), .val (.int p1), .val (.int p2)] []) _ _ _
      refine Go.ret0 X0 hx hlk hret (hb hby d_set_45) (by decide) (by decide) ?_
      rw [e0]
      exact ⟨aB, rfl, N0, (Keep.refl _ _), f0, ⟨_, _, _, _, _, r1, r2, r3, r4, r5, (Or.inr (Or.inr (Or.inl ⟨(k_up kk (by decide)), rfl, rfl, rfl⟩))), hA, mem_same hM c576⟩⟩
  · show Go _ _ _ _ s₁ (mkF m 0 #[.val (.ref a), .val (.int p1), .val (.int p2)] []) _ _ _
    refine Go.iloadN X0 hx (hb hby d_set_0) rfl ?_
    refine Go.ifNo X0 hx (hb hby d_set_1) (XT.i0_lt_f (neg_of f4)) ?_
    show Go _ _ _ _ s₁ (mkF m 4 #[.val (.ref a), .val (.int p1), .val (.int p2)] []) _ _ _
    refine Go.iloadN X0 hx (hb hby d_set_4) rfl ?_
    refine Go.iloadN X0 hx (hb hby d_set_5) rfl ?_
    refine Go.icmpYes X0 hx (hb hby d_set_6) (XT.ii_le_t (nlt_of f5)) (pc' := 24) (by decide) (by decide) ?_
    show Go _ _ _ _ s₁ (mkF m 24 #[.val (.ref a), .val (.int p1), .val (.int p2)] []) _ _ _
    refine Go.iloadN X0 hx (hb hby d_set_24) rfl ?_
    refine Go.iloadN X0 hx (hb hby d_set_25) rfl ?_
    rcases Decidable.em (p1 < p2) with c586 | c586
    · refine Go.icmpNo X0 hx (hb hby d_set_26) (XT.ii_ge_f c586) ?_
      show Go _ _ _ _ s₁ (mkF m 29 #[.val (.ref a), .val (.int p1), .val (.int p2)] []) _ _ _
      refine Go.aloadN X0 hx (hb hby d_set_29) rfl rfl ?_
      refine Go.iconst X0 hx (hb hby d_set_30) ?_
      show Go _ _ _ _ s₁ (mkF m 31 #[.val (.ref a), .val (.int p1), .val (.int p2)] [(.int (2 : Int32)), (.ref a)]) _ _ _
      refine Go.newarray (aty := .int) (cap := 2) X0 hx hZ (w26 hw) e0 (hb hby d_set_31) (by decide) (by decide) (by decide) (by decide) (by decide) ?_
      intro T587 h587 a587 k587 b587 X587 e587 E587 A587
      have g_a587 : n0 ≤ a587 := by rw [b587]; exact Z0
      have y_a587 : h0.size ≤ a587 := by rw [b587]; exact (Nat.le_refl _)
      have ne_a_a587 : a ≠ a587 := by rw [b587]; exact Nat.ne_of_lt f0.lt
      have ne_aB_a587 : aB ≠ a587 := by rw [b587]; exact Nat.ne_of_lt r3.lt
      have Z587 : n0 ≤ h587.size := Nat.le_trans Z0 E587.1
      have B587 : h0.size ≤ h587.size := Nat.le_trans (Nat.le_refl _) E587.1
      show Go _ _ _ _ T587 (mkF m 33 #[.val (.ref a), .val (.int p1), .val (.int p2)] [(.ref a587), (.ref a)]) _ _ _
      refine Go.dup X587 hx (hb hby d_set_33) rfl ?_
      refine Go.iconst X587 hx (hb hby d_set_34) ?_
      show Go _ _ _ _ T587 (mkF m 35 #[.val (.ref a), .val (.int p1), .val (.int p2)] [(.int (0 : Int32)), (.ref a587), (.ref a587), (.ref a)]) _ _ _
      refine Go.iloadN X587 hx (hb hby d_set_35) rfl ?_
      refine Go.iastore X587 hx hZ e587 A587 (by decide) (by decide) (hb hby d_set_36) ?_
      intro T588 h588 X588 e588 W588 A588
      have N588 := Fr.snoc X588 N0 g_a587
      have Z588 : n0 ≤ h588.size := by rw [Wr.size W588]; exact Z587
      have B588 : h0.size ≤ h588.size := by rw [Wr.size W588]; exact B587
      show Go _ _ _ _ T588 (mkF m 37 #[.val (.ref a), .val (.int p1), .val (.int p2)] [(.ref a587), (.ref a)]) _ _ _
      refine Go.dup X588 hx (hb hby d_set_37) rfl ?_
      refine Go.iconst X588 hx (hb hby d_set_38) ?_
      show Go _ _ _ _ T588 (mkF m 39 #[.val (.ref a), .val (.int p1), .val (.int p2)] [(.int (1 : Int32)), (.ref a587), (.ref a587), (.ref a)]) _ _ _
      refine Go.iloadN X588 hx (hb hby d_set_39) rfl ?_
      refine Go.iastore X588 hx hZ e588 A588 (by decide) (by decide) (hb hby d_set_40) ?_
      intro T589 h589 X589 e589 W589 A589
      have N589 := Fr.snoc X589 N588 g_a587
      have Z589 : n0 ≤ h589.size := by rw [Wr.size W589]; exact Z588
      have B589 : h0.size ≤ h589.size := by rw [Wr.size W589]; exact B588
      show Go _ _ _ _ T589 (mkF m 41 #[.val (.ref a), .val (.int p1), .val (.int p2)] [(.ref a587), (.ref a)]) _ _ _
      refine Go.iconst X589 hx (hb hby d_set_41) ?_
      show Go _ _ _ _ T589 (mkF m 42 #[.val (.ref a), .val (.int p1), .val (.int p2)] [(.int (2 : Int32)), (.ref a587), (.ref a)]) _ _ _
      have AM590 : Af Z h589 a587 k587 .int 2 (fun i => Value.int ((updI (updI (fun _ => (0 : Int32)) 0 p1) 1 p2) i)) := Af.congr A589 (fun i hi => by have hi' : i < 2 := hi; rcases lt_2 hi' with rfl | rfl <;> first | (simp [updI, updV]; done) | rfl)
      have F591 := (Exa.wr W589 (Exa.wr W588 (Exa.ext E587 f0)))
      have F592 := (Fld.other W589 (Fld.other W588 (Fld.ext E587 r1) (Or.inl ne_a_a587)) (Or.inl ne_a_a587))
      have F593 := (Fld.other W589 (Fld.other W588 (Fld.ext E587 r2) (Or.inl ne_a_a587)) (Or.inl ne_a_a587))
      have F594 := (Af.other W589 (Af.other W588 (Af.ext E587 r3) ne_aB_a587) ne_aB_a587)
      refine Go.callP (W := 0) (argsL := [(.ref a587), (.int (2 : Int32))]) (rest := []) X589 hx hZ hown (w27 hw) (w28 hw) (w29 hw) (w9 hw) (w10 hw) (w30 hw) (by decide) F591 (rm_add44 l Z a0 hw a a587 aB kB f k587 p1 p2 k M h589 n0 Z589 F591 f1 r4 ne_a_a587 ne_aB_a587 F592 F593 F594 AM590 kk hA hM f4 (Int32.lt_iff_toInt_lt.mp c586) (r5 (by decide))) e589 (lenOf pd_2 rfl) (hb hby d_set_42) (by rw [hml]; rfl) rfl (Nat.le_of_eq rfl) (by decide) (by decide) (by decide) (by decide) ?_
      intro v595 T595 L595 X595 q595
      obtain ⟨aX595, rfl, M595, K595, P595_0, P595_1⟩ := q595
      have N595 := Fr.app N589 M595
      have Z595 : n0 ≤ T595.heap.size := Nat.le_trans Z589 K595.1
      have B595 : h0.size ≤ T595.heap.size := Nat.le_trans B589 K595.1
      show Go _ _ _ _ T595 (mkF m 45 #[.val (.ref a), .val (.int p1), .val (.int p2)] []) _ _ _
      refine Go.ret0 X595 hx hlk hret (hb hby d_set_45) (by decide) (by decide) ?_
      exact ⟨aX595, rfl, N595, (Keep.trans (Keep.wr (Keep.wr (Keep.ext (Keep.refl _ _) E587) W588 (Or.inr y_a587)) W589 (Or.inr y_a587)) K595 (allS (Or.inl (List.mem_of_getElem? (i := 0) rfl)) (allS (Or.inl (List.mem_of_getElem? (i := 1) rfl)) all0))), P595_0, P595_1⟩
    · refine Go.icmpYes X0 hx (hb hby d_set_26) (XT.ii_ge_t c586) (pc' := 45) (by decide) (by decide) ?_
      show Go _ _ _ _ s₁ (mkF m 45 #[.val (.ref a), .val (.int p1), .val (.int p2)] []) _ _ _
      refine Go.ret0 X0 hx hlk hret (hb hby d_set_45) (by decide) (by decide) ?_
      rw [e0]
      exact ⟨aB, rfl, N0, (Keep.refl _ _), f0, ⟨_, _, _, _, _, r1, r2, r3, r4, r5, (Or.inr (Or.inr (Or.inr (Or.inl ⟨(k_up kk (by decide)), rfl, rfl, rfl⟩)))), hA, mem_same hM c586⟩⟩
  · exact absurd kk (by omega)
  · exact absurd kk (by omega)
  · exact absurd kk (by omega)
  · exact absurd kk (by omega)
def Q_init (Z : State) (a : Addr) (no : Addr) (kn : ClassId) (fn : Nat → Value) (h0 : Heap) (n0 : Nat) (v : Option Value) (h : Heap) (L : List Loc) : Prop := v = none ∧ Fr n0 L ∧ Keep h0 h [a] ∧ Exa Z h a "com/example/collate/collate/analysis/AtomSet" ∧ AS Z h n0 a no 0 (fun _ => False)
theorem ef_init (m : MethodId) (x0 : Addr) : entryFrame m #[(.ref x0)] 1 = mkF m 0 #[.val (.ref x0)] [] := by first | (simp [entryFrame, mkF, argsToLocals, Value.category]; done) | rfl
set_option maxRecDepth 65536 in
set_option maxHeartbeats 40000000 in
theorem rm_init (l : Launch) (Z : State) (a0 : Array Value) (hw : ∀ d ∈ tables_1, d.before a0 Z = true) (a : Addr) (no : Addr) (kn : ClassId) (fn : Nat → Value) (h0 : Heap) (n0 : Nat) (Z0 : n0 ≤ h0.size) (f0 : Exa Z h0 a "com/example/collate/collate/analysis/AtomSet") (f1 : n0 ≤ a) (f2 : a ≠ no) (f3 : Fld Z h0 a "com/example/collate/collate/analysis/AtomSet" "bounds" "[I" .null) (f4 : Fld Z h0 a "com/example/collate/collate/analysis/AtomSet" "count" "I" (.int (0 : Int32))) (f5 : Sta Z h0 "com/example/collate/collate/analysis/AtomSet" "NONE" "[I" (.ref no)) (f6 : Af Z h0 no kn .int 0 (fn)) :
    Met l Z (⟨"com/example/collate/collate/analysis/AtomSet", "<init>", "()V"⟩ : MethodName) prog_6_method_1_code 1 none [] ({ frames := 1, cells := 0, slots := 0, locals := 12 } : Room) #[(.ref a)] h0 (Q_init Z a no kn fn h0 n0) := by
  refine Met.of (plainFor_of_name pn_init) ?_
  intro p e s m below meth c s₁ X0 hx hby hml hZ hown hnm e0 hret hlk
  refine Go.cast (ef_init m a) ?_
  show Go _ _ _ _ s₁ (mkF m 0 #[.val (.ref a)] []) _ _ _
  have N0 := Fr.nil n0
  refine Go.aloadN X0 hx (hb hby d_init_0) rfl rfl ?_
  refine Go.initO (W := 0) X0 hx hZ hown (w14 hw) (w15 hw) (w16 hw) e0 (hb hby d_init_1) (by rw [hml]; rfl) (Nat.le_of_eq rfl) (by decide) (by decide) ?_
  intro T596 X596 e596
  show Go _ _ _ _ T596 (mkF m 4 #[.val (.ref a)] []) _ _ _
  refine Go.aloadN X596 hx (hb hby d_init_4) rfl rfl ?_
  refine Go.getS X596 hx hZ hown (w17 hw) Via.refl e596 f5 (hb hby d_init_5) ?_
  intro T597 X597 e597
  show Go _ _ _ _ T597 (mkF m 8 #[.val (.ref a)] [(.ref no), (.ref a)]) _ _ _
  refine Go.putF X597 hx hZ hown (w19 hw) Via.refl e597 f3 f0 (Or.inl (w20 hw)) (w9 hw) (ty := (.array .int)) (by decide) rfl rfl (hb hby d_init_8) ?_
  intro T598 h598 X598 e598 W598
  have N598 := Fr.snoc X598 N0 f1
  have Z598 : n0 ≤ h598.size := by rw [Wr.size W598]; exact Z0
  have B598 : h0.size ≤ h598.size := by rw [Wr.size W598]; exact (Nat.le_refl _)
  show Go _ _ _ _ T598 (mkF m 11 #[.val (.ref a)] []) _ _ _
  refine Go.ret0 X598 hx hlk hret (hb hby d_init_11) (by decide) (by decide) ?_
  rw [e598]
  have F599 := (Fld.other W598 f4 (Or.inr (slot_ne (a0 := a0) (Or.inl (w32 hw)) (Or.inl (w20 hw)) (t := .int) (t' := (.array .int)) (by decide) (by decide) (by decide))))
  exact ⟨rfl, N598, (Keep.wr (Keep.refl _ _) W598 (Or.inl (List.mem_of_getElem? (i := 0) rfl))), (Exa.wr W598 f0), ⟨_, (fun _ => (0 : Int32)), 0, 0, _, (Fld.same W598 f3), F599, (Af.congr (Af.other W598 f6 (Ne.symm f2)) (fun i hi => absurd hi (Nat.not_lt_zero _))), f2, (fun q => absurd q (Nat.not_lt_zero _)), (Or.inl ⟨rfl, rfl, rfl⟩), (fin0 (fun _ q => q)).1, (fin0 (fun _ q => q)).2⟩⟩
theorem card_2 (a b : Int32) : (0 : Int32) + (b - a) = b - a := Int32.zero_add _
theorem card_4 (a b c d : Int32) : ((0 : Int32) + (b - a)) + (d - c) = (b - a) + (d - c) := by rw [Int32.zero_add]
theorem card_6 (a b c d e f : Int32) : (((0 : Int32) + (b - a)) + (d - c)) + (f - e) = ((b - a) + (d - c)) + (f - e) := by rw [Int32.zero_add]
def Q_card (Z : State) (a : Addr) (aB : Addr) (k : Nat) (M : Int → Prop) (h0 : Heap) (n0 : Nat) (v : Option Value) (h : Heap) (L : List Loc) : Prop := ∃ (rr : Int32), v = some (.int rr) ∧ Fr n0 L ∧ h = h0 ∧ CardOf M rr
theorem ef_card (m : MethodId) (x0 : Addr) : entryFrame m #[(.ref x0)] 3 = mkF m 0 #[.val (.ref x0), .unset, .unset] [] := by first | (simp [entryFrame, mkF, argsToLocals, Value.category]; done) | rfl
set_option maxRecDepth 65536 in
set_option maxHeartbeats 40000000 in
theorem rm_card (l : Launch) (Z : State) (a0 : Array Value) (hw : ∀ d ∈ tables_1, d.before a0 Z = true) (a : Addr) (aB : Addr) (k : Nat) (M : Int → Prop) (h0 : Heap) (n0 : Nat) (Z0 : n0 ≤ h0.size) (f0 : Exa Z h0 a "com/example/collate/collate/analysis/AtomSet") (f1 : AS Z h0 n0 a aB k M) :
    Met l Z (⟨"com/example/collate/collate/analysis/AtomSet", "cardinality", "()I"⟩ : MethodName) prog_6_method_12_code 3 (Option.some Jvm.ClassFile.FieldType.int) [] ({ frames := 0, cells := 0, slots := 0, locals := 0 } : Room) #[(.ref a)] h0 (Q_card Z a aB k M h0 n0) := by
  refine Met.of (plainFor_of_name pn_card) ?_
  intro p e s m below meth c s₁ X0 hx hby hml hZ hown hnm e0 hret hlk
  refine Go.cast (ef_card m a) ?_
  show Go _ _ _ _ s₁ (mkF m 0 #[.val (.ref a), .unset, .unset] []) _ _ _
  have N0 := Fr.nil n0
  obtain ⟨kB, f, L, c, cv, r1, r2, r3, r4, r5, ok, hA, hM⟩ := f1
  rcases ok with ⟨rfl, rfl, rfl⟩ | ⟨kk, rfl, rfl, rfl⟩ | ⟨kk, rfl, rfl, rfl⟩ | ⟨kk, rfl, rfl, rfl⟩ | ⟨kk, rfl, rfl, rfl⟩ | ⟨kk, rfl, rfl, rfl⟩ | ⟨kk, rfl, rfl, rfl⟩ | ⟨kk, rfl, rfl, rfl⟩
  · show Go _ _ _ _ s₁ (mkF m 0 #[.val (.ref a), .unset, .unset] []) _ _ _
    refine Go.iconst X0 hx (hb hby d_card_0) ?_
    show Go _ _ _ _ s₁ (mkF m 1 #[.val (.ref a), .unset, .unset] [(.int (0 : Int32))]) _ _ _
    refine Go.istoreN X0 hx (hb hby d_card_1) (l' := #[.val (.ref a), .val (.int (0 : Int32)), .unset]) rfl ?_
    refine Go.iconst X0 hx (hb hby d_card_2) ?_
    show Go _ _ _ _ s₁ (mkF m 3 #[.val (.ref a), .val (.int (0 : Int32)), .unset] [(.int (0 : Int32))]) _ _ _
    refine Go.istoreN X0 hx (hb hby d_card_3) (l' := #[.val (.ref a), .val (.int (0 : Int32)), .val (.int (0 : Int32))]) rfl ?_
    refine Go.iloadN X0 hx (hb hby d_card_4) rfl ?_
    refine Go.aloadN X0 hx (hb hby d_card_5) rfl rfl ?_
    refine Go.getF X0 hx hZ hown (w31 hw) Via.refl e0 r2 (hb hby d_card_6) ?_
    intro T600 X600 e600
    show Go _ _ _ _ T600 (mkF m 9 #[.val (.ref a), .val (.int (0 : Int32)), .val (.int (0 : Int32))] [(.int (0 : Int32)), (.int (0 : Int32))]) _ _ _
    refine Go.icmpYes X600 hx (hb hby d_card_9) (XT.ii_ge_t (by decide)) (pc' := 36) (by decide) (by decide) ?_
    show Go _ _ _ _ T600 (mkF m 36 #[.val (.ref a), .val (.int (0 : Int32)), .val (.int (0 : Int32))] []) _ _ _
    refine Go.iloadN X600 hx (hb hby d_card_36) rfl ?_
    refine Go.retI X600 hx hlk hret (hb hby d_card_37) (by decide) (by decide) ?_
    rw [e600]
    exact ⟨(0 : Int32), rfl, N0, rfl, Or.inl ⟨of0 hM, rfl⟩⟩
  · show Go _ _ _ _ s₁ (mkF m 0 #[.val (.ref a), .unset, .unset] []) _ _ _
    refine Go.iconst X0 hx (hb hby d_card_0) ?_
    show Go _ _ _ _ s₁ (mkF m 1 #[.val (.ref a), .unset, .unset] [(.int (0 : Int32))]) _ _ _
    refine Go.istoreN X0 hx (hb hby d_card_1) (l' := #[.val (.ref a), .val (.int (0 : Int32)), .unset]) rfl ?_
    refine Go.iconst X0 hx (hb hby d_card_2) ?_
    show Go _ _ _ _ s₁ (mkF m 3 #[.val (.ref a), .val (.int (0 : Int32)), .unset] [(.int (0 : Int32))]) _ _ _
    refine Go.istoreN X0 hx (hb hby d_card_3) (l' := #[.val (.ref a), .val (.int (0 : Int32)), .val (.int (0 : Int32))]) rfl ?_
    refine Go.iloadN X0 hx (hb hby d_card_4) rfl ?_
    refine Go.aloadN X0 hx (hb hby d_card_5) rfl rfl ?_
    refine Go.getF X0 hx hZ hown (w31 hw) Via.refl e0 r2 (hb hby d_card_6) ?_
    intro T601 X601 e601
    show Go _ _ _ _ T601 (mkF m 9 #[.val (.ref a), .val (.int (0 : Int32)), .val (.int (0 : Int32))] [(.int (2 : Int32)), (.int (0 : Int32))]) _ _ _
    refine Go.icmpNo X601 hx (hb hby d_card_9) (XT.ii_ge_f (by decide)) ?_
    show Go _ _ _ _ T601 (mkF m 12 #[.val (.ref a), .val (.int (0 : Int32)), .val (.int (0 : Int32))] []) _ _ _
    refine Go.iloadN X601 hx (hb hby d_card_12) rfl ?_
    refine Go.aloadN X601 hx (hb hby d_card_13) rfl rfl ?_
    refine Go.getF X601 hx hZ hown (w19 hw) Via.refl e601 r1 (hb hby d_card_14) ?_
    intro T602 X602 e602
    show Go _ _ _ _ T602 (mkF m 17 #[.val (.ref a), .val (.int (0 : Int32)), .val (.int (0 : Int32))] [(.ref aB), (.int (0 : Int32))]) _ _ _
    refine Go.iloadN X602 hx (hb hby d_card_17) rfl ?_
    refine Go.iconst X602 hx (hb hby d_card_18) ?_
    show Go _ _ _ _ T602 (mkF m 19 #[.val (.ref a), .val (.int (0 : Int32)), .val (.int (0 : Int32))] [(.int (1 : Int32)), (.int (0 : Int32)), (.ref aB), (.int (0 : Int32))]) _ _ _
    refine Go.iadd X602 hx (hb hby d_card_19) ?_
    show Go _ _ _ _ T602 (mkF m 20 #[.val (.ref a), .val (.int (0 : Int32)), .val (.int (0 : Int32))] [(.int (1 : Int32)), (.ref aB), (.int (0 : Int32))]) _ _ _
    refine Go.iaload X602 hx hZ e602 r3 (by decide) (by decide) (hb hby d_card_20) ?_
    show Go _ _ _ _ T602 (mkF m 21 #[.val (.ref a), .val (.int (0 : Int32)), .val (.int (0 : Int32))] [(.int (f 1)), (.int (0 : Int32))]) _ _ _
    refine Go.aloadN X602 hx (hb hby d_card_21) rfl rfl ?_
    refine Go.getF X602 hx hZ hown (w19 hw) Via.refl e602 r1 (hb hby d_card_22) ?_
    intro T603 X603 e603
    show Go _ _ _ _ T603 (mkF m 25 #[.val (.ref a), .val (.int (0 : Int32)), .val (.int (0 : Int32))] [(.ref aB), (.int (f 1)), (.int (0 : Int32))]) _ _ _
    refine Go.iloadN X603 hx (hb hby d_card_25) rfl ?_
    refine Go.iaload X603 hx hZ e603 r3 (by decide) (by decide) (hb hby d_card_26) ?_
    show Go _ _ _ _ T603 (mkF m 27 #[.val (.ref a), .val (.int (0 : Int32)), .val (.int (0 : Int32))] [(.int (f 0)), (.int (f 1)), (.int (0 : Int32))]) _ _ _
    refine Go.isub X603 hx (hb hby d_card_27) ?_
    show Go _ _ _ _ T603 (mkF m 28 #[.val (.ref a), .val (.int (0 : Int32)), .val (.int (0 : Int32))] [(.int ((f 1) - (f 0))), (.int (0 : Int32))]) _ _ _
    refine Go.iadd X603 hx (hb hby d_card_28) ?_
    show Go _ _ _ _ T603 (mkF m 29 #[.val (.ref a), .val (.int (0 : Int32)), .val (.int (0 : Int32))] [(.int ((0 : Int32) + ((f 1) - (f 0))))]) _ _ _
    refine Go.istoreN X603 hx (hb hby d_card_29) (l' := #[.val (.ref a), .val (.int ((0 : Int32) + ((f 1) - (f 0)))), .val (.int (0 : Int32))]) rfl ?_
    refine Go.iinc X603 hx (hb hby d_card_30) rfl (l' := #[.val (.ref a), .val (.int ((0 : Int32) + ((f 1) - (f 0)))), .val (.int (2 : Int32))]) rfl ?_
    show Go _ _ _ _ T603 (mkF m 33 #[.val (.ref a), .val (.int ((0 : Int32) + ((f 1) - (f 0)))), .val (.int (2 : Int32))] []) _ _ _
    refine Go.goto X603 hx (hb hby d_card_33) (pc' := 4) (by decide) (by decide) ?_
    show Go _ _ _ _ T603 (mkF m 4 #[.val (.ref a), .val (.int ((0 : Int32) + ((f 1) - (f 0)))), .val (.int (2 : Int32))] []) _ _ _
    refine Go.iloadN X603 hx (hb hby d_card_4) rfl ?_
    refine Go.aloadN X603 hx (hb hby d_card_5) rfl rfl ?_
    refine Go.getF X603 hx hZ hown (w31 hw) Via.refl e603 r2 (hb hby d_card_6) ?_
    intro T604 X604 e604
    show Go _ _ _ _ T604 (mkF m 9 #[.val (.ref a), .val (.int ((0 : Int32) + ((f 1) - (f 0)))), .val (.int (2 : Int32))] [(.int (2 : Int32)), (.int (2 : Int32))]) _ _ _
    refine Go.icmpYes X604 hx (hb hby d_card_9) (XT.ii_ge_t (by decide)) (pc' := 36) (by decide) (by decide) ?_
    show Go _ _ _ _ T604 (mkF m 36 #[.val (.ref a), .val (.int ((0 : Int32) + ((f 1) - (f 0)))), .val (.int (2 : Int32))] []) _ _ _
    refine Go.iloadN X604 hx (hb hby d_card_36) rfl ?_
    refine Go.retI X604 hx hlk hret (hb hby d_card_37) (by decide) (by decide) ?_
    rw [e604]
    exact ⟨((0 : Int32) + ((f 1) - (f 0))), rfl, N0, rfl, Or.inr ⟨f, Or.inl ⟨hA, hM, (card_2 _ _ )⟩⟩⟩
  · show Go _ _ _ _ s₁ (mkF m 0 #[.val (.ref a), .unset, .unset] []) _ _ _
    refine Go.iconst X0 hx (hb hby d_card_0) ?_
    show Go _ _ _ _ s₁ (mkF m 1 #[.val (.ref a), .unset, .unset] [(.int (0 : Int32))]) _ _ _
    refine Go.istoreN X0 hx (hb hby d_card_1) (l' := #[.val (.ref a), .val (.int (0 : Int32)), .unset]) rfl ?_
    refine Go.iconst X0 hx (hb hby d_card_2) ?_
    show Go _ _ _ _ s₁ (mkF m 3 #[.val (.ref a), .val (.int (0 : Int32)), .unset] [(.int (0 : Int32))]) _ _ _
    refine Go.istoreN X0 hx (hb hby d_card_3) (l' := #[.val (.ref a), .val (.int (0 : Int32)), .val (.int (0 : Int32))]) rfl ?_
    refine Go.iloadN X0 hx (hb hby d_card_4) rfl ?_
    refine Go.aloadN X0 hx (hb hby d_card_5) rfl rfl ?_
    refine Go.getF X0 hx hZ hown (w31 hw) Via.refl e0 r2 (hb hby d_card_6) ?_
    intro T605 X605 e605
    show Go _ _ _ _ T605 (mkF m 9 #[.val (.ref a), .val (.int (0 : Int32)), .val (.int (0 : Int32))] [(.int (2 : Int32)), (.int (0 : Int32))]) _ _ _
    refine Go.icmpNo X605 hx (hb hby d_card_9) (XT.ii_ge_f (by decide)) ?_
    show Go _ _ _ _ T605 (mkF m 12 #[.val (.ref a), .val (.int (0 : Int32)), .val (.int (0 : Int32))] []) _ _ _
    refine Go.iloadN X605 hx (hb hby d_card_12) rfl ?_
    refine Go.aloadN X605 hx (hb hby d_card_13) rfl rfl ?_
    refine Go.getF X605 hx hZ hown (w19 hw) Via.refl e605 r1 (hb hby d_card_14) ?_
    intro T606 X606 e606
    show Go _ _ _ _ T606 (mkF m 17 #[.val (.ref a), .val (.int (0 : Int32)), .val (.int (0 : Int32))] [(.ref aB), (.int (0 : Int32))]) _ _ _
    refine Go.iloadN X606 hx (hb hby d_card_17) rfl ?_
    refine Go.iconst X606 hx (hb hby d_card_18) ?_
    show Go _ _ _ _ T606 (mkF m 19 #[.val (.ref a), .val (.int (0 : Int32)), .val (.int (0 : Int32))] [(.int (1 : Int32)), (.int (0 : Int32)), (.ref aB), (.int (0 : Int32))]) _ _ _
    refine Go.iadd X606 hx (hb hby d_card_19) ?_
    show Go _ _ _ _ T606 (mkF m 20 #[.val (.ref a), .val (.int (0 : Int32)), .val (.int (0 : Int32))] [(.int (1 : Int32)), (.ref aB), (.int (0 : Int32))]) _ _ _
    refine Go.iaload X606 hx hZ e606 r3 (by decide) (by decide) (hb hby d_card_20) ?_
    show Go _ _ _ _ T606 (mkF m 21 #[.val (.ref a), .val (.int (0 : Int32)), .val (.int (0 : Int32))] [(.int (f 1)), (.int (0 : Int32))]) _ _ _
    refine Go.aloadN X606 hx (hb hby d_card_21) rfl rfl ?_
    refine Go.getF X606 hx hZ hown (w19 hw) Via.refl e606 r1 (hb hby d_card_22) ?_
    intro T607 X607 e607
    show Go _ _ _ _ T607 (mkF m 25 #[.val (.ref a), .val (.int (0 : Int32)), .val (.int (0 : Int32))] [(.ref aB), (.int (f 1)), (.int (0 : Int32))]) _ _ _
    refine Go.iloadN X607 hx (hb hby d_card_25) rfl ?_
    refine Go.iaload X607 hx hZ e607 r3 (by decide) (by decide) (hb hby d_card_26) ?_
    show Go _ _ _ _ T607 (mkF m 27 #[.val (.ref a), .val (.int (0 : Int32)), .val (.int (0 : Int32))] [(.int (f 0)), (.int (f 1)), (.int (0 : Int32))]) _ _ _
    refine Go.isub X607 hx (hb hby d_card_27) ?_
    show Go _ _ _ _ T607 (mkF m 28 #[.val (.ref a), .val (.int (0 : Int32)), .val (.int (0 : Int32))] [(.int ((f 1) - (f 0))), (.int (0 : Int32))]) _ _ _
    refine Go.iadd X607 hx (hb hby d_card_28) ?_
    show Go _ _ _ _ T607 (mkF m 29 #[.val (.ref a), .val (.int (0 : Int32)), .val (.int (0 : Int32))] [(.int ((0 : Int32) + ((f 1) - (f 0))))]) _ _ _
    refine Go.istoreN X607 hx (hb hby d_card_29) (l' := #[.val (.ref a), .val (.int ((0 : Int32) + ((f 1) - (f 0)))), .val (.int (0 : Int32))]) rfl ?_
    refine Go.iinc X607 hx (hb hby d_card_30) rfl (l' := #[.val (.ref a), .val (.int ((0 : Int32) + ((f 1) - (f 0)))), .val (.int (2 : Int32))]) rfl ?_
    show Go _ _ _ _ T607 (mkF m 33 #[.val (.ref a), .val (.int ((0 : Int32) + ((f 1) - (f 0)))), .val (.int (2 : Int32))] []) _ _ _
    refine Go.goto X607 hx (hb hby d_card_33) (pc' := 4) (by decide) (by decide) ?_
    show Go _ _ _ _ T607 (mkF m 4 #[.val (.ref a), .val (.int ((0 : Int32) + ((f 1) - (f 0)))), .val (.int (2 : Int32))] []) _ _ _
    refine Go.iloadN X607 hx (hb hby d_card_4) rfl ?_
    refine Go.aloadN X607 hx (hb hby d_card_5) rfl rfl ?_
    refine Go.getF X607 hx hZ hown (w31 hw) Via.refl e607 r2 (hb hby d_card_6) ?_
    intro T608 X608 e608
    show Go _ _ _ _ T608 (mkF m 9 #[.val (.ref a), .val (.int ((0 : Int32) + ((f 1) - (f 0)))), .val (.int (2 : Int32))] [(.int (2 : Int32)), (.int (2 : Int32))]) _ _ _
    refine Go.icmpYes X608 hx (hb hby d_card_9) (XT.ii_ge_t (by decide)) (pc' := 36) (by decide) (by decide) ?_
    show Go _ _ _ _ T608 (mkF m 36 #[.val (.ref a), .val (.int ((0 : Int32) + ((f 1) - (f 0)))), .val (.int (2 : Int32))] []) _ _ _
    refine Go.iloadN X608 hx (hb hby d_card_36) rfl ?_
    refine Go.retI X608 hx hlk hret (hb hby d_card_37) (by decide) (by decide) ?_
    rw [e608]
    exact ⟨((0 : Int32) + ((f 1) - (f 0))), rfl, N0, rfl, Or.inr ⟨f, Or.inl ⟨hA, hM, (card_2 _ _ )⟩⟩⟩
  · show Go _ _ _ _ s₁ (mkF m 0 #[.val (.ref a), .unset, .unset] []) _ _ _
    refine Go.iconst X0 hx (hb hby d_card_0) ?_
    show Go _ _ _ _ s₁ (mkF m 1 #[.val (.ref a), .unset, .unset] [(.int (0 : Int32))]) _ _ _
    refine Go.istoreN X0 hx (hb hby d_card_1) (l' := #[.val (.ref a), .val (.int (0 : Int32)), .unset]) rfl ?_
    refine Go.iconst X0 hx (hb hby d_card_2) ?_
    show Go _ _ _ _ s₁ (mkF m 3 #[.val (.ref a), .val (.int (0 : Int32)), .unset] [(.int (0 : Int32))]) _ _ _
    refine Go.istoreN X0 hx (hb hby d_card_3) (l' := #[.val (.ref a), .val (.int (0 : Int32)), .val (.int (0 : Int32))]) rfl ?_
    refine Go.iloadN X0 hx (hb hby d_card_4) rfl ?_
    refine Go.aloadN X0 hx (hb hby d_card_5) rfl rfl ?_
    refine Go.getF X0 hx hZ hown (w31 hw) Via.refl e0 r2 (hb hby d_card_6) ?_
    intro T609 X609 e609
    show Go _ _ _ _ T609 (mkF m 9 #[.val (.ref a), .val (.int (0 : Int32)), .val (.int (0 : Int32))] [(.int (4 : Int32)), (.int (0 : Int32))]) _ _ _
    refine Go.icmpNo X609 hx (hb hby d_card_9) (XT.ii_ge_f (by decide)) ?_
    show Go _ _ _ _ T609 (mkF m 12 #[.val (.ref a), .val (.int (0 : Int32)), .val (.int (0 : Int32))] []) _ _ _
    refine Go.iloadN X609 hx (hb hby d_card_12) rfl ?_
    refine Go.aloadN X609 hx (hb hby d_card_13) rfl rfl ?_
    refine Go.getF X609 hx hZ hown (w19 hw) Via.refl e609 r1 (hb hby d_card_14) ?_
    intro T610 X610 e610
    show Go _ _ _ _ T610 (mkF m 17 #[.val (.ref a), .val (.int (0 : Int32)), .val (.int (0 : Int32))] [(.ref aB), (.int (0 : Int32))]) _ _ _
    refine Go.iloadN X610 hx (hb hby d_card_17) rfl ?_
    refine Go.iconst X610 hx (hb hby d_card_18) ?_
    show Go _ _ _ _ T610 (mkF m 19 #[.val (.ref a), .val (.int (0 : Int32)), .val (.int (0 : Int32))] [(.int (1 : Int32)), (.int (0 : Int32)), (.ref aB), (.int (0 : Int32))]) _ _ _
    refine Go.iadd X610 hx (hb hby d_card_19) ?_
    show Go _ _ _ _ T610 (mkF m 20 #[.val (.ref a), .val (.int (0 : Int32)), .val (.int (0 : Int32))] [(.int (1 : Int32)), (.ref aB), (.int (0 : Int32))]) _ _ _
    refine Go.iaload X610 hx hZ e610 r3 (by decide) (by decide) (hb hby d_card_20) ?_
    show Go _ _ _ _ T610 (mkF m 21 #[.val (.ref a), .val (.int (0 : Int32)), .val (.int (0 : Int32))] [(.int (f 1)), (.int (0 : Int32))]) _ _ _
    refine Go.aloadN X610 hx (hb hby d_card_21) rfl rfl ?_
    refine Go.getF X610 hx hZ hown (w19 hw) Via.refl e610 r1 (hb hby d_card_22) ?_
    intro T611 X611 e611
    show Go _ _ _ _ T611 (mkF m 25 #[.val (.ref a), .val (.int (0 : Int32)), .val (.int (0 : Int32))] [(.ref aB), (.int (f 1)), (.int (0 : Int32))]) _ _ _
    refine Go.iloadN X611 hx (hb hby d_card_25) rfl ?_
    refine Go.iaload X611 hx hZ e611 r3 (by decide) (by decide) (hb hby d_card_26) ?_
    show Go _ _ _ _ T611 (mkF m 27 #[.val (.ref a), .val (.int (0 : Int32)), .val (.int (0 : Int32))] [(.int (f 0)), (.int (f 1)), (.int (0 : Int32))]) _ _ _
    refine Go.isub X611 hx (hb hby d_card_27) ?_
    show Go _ _ _ _ T611 (mkF m 28 #[.val (.ref a), .val (.int (0 : Int32)), .val (.int (0 : Int32))] [(.int ((f 1) - (f 0))), (.int (0 : Int32))]) _ _ _
    refine Go.iadd X611 hx (hb hby d_card_28) ?_
    show Go _ _ _ _ T611 (mkF m 29 #[.val (.ref a), .val (.int (0 : Int32)), .val (.int (0 : Int32))] [(.int ((0 : Int32) + ((f 1) - (f 0))))]) _ _ _
    refine Go.istoreN X611 hx (hb hby d_card_29) (l' := #[.val (.ref a), .val (.int ((0 : Int32) + ((f 1) - (f 0)))), .val (.int (0 : Int32))]) rfl ?_
    refine Go.iinc X611 hx (hb hby d_card_30) rfl (l' := #[.val (.ref a), .val (.int ((0 : Int32) + ((f 1) - (f 0)))), .val (.int (2 : Int32))]) rfl ?_
    show Go _ _ _ _ T611 (mkF m 33 #[.val (.ref a), .val (.int ((0 : Int32) + ((f 1) - (f 0)))), .val (.int (2 : Int32))] []) _ _ _
    refine Go.goto X611 hx (hb hby d_card_33) (pc' := 4) (by decide) (by decide) ?_
    show Go _ _ _ _ T611 (mkF m 4 #[.val (.ref a), .val (.int ((0 : Int32) + ((f 1) - (f 0)))), .val (.int (2 : Int32))] []) _ _ _
    refine Go.iloadN X611 hx (hb hby d_card_4) rfl ?_
    refine Go.aloadN X611 hx (hb hby d_card_5) rfl rfl ?_
    refine Go.getF X611 hx hZ hown (w31 hw) Via.refl e611 r2 (hb hby d_card_6) ?_
    intro T612 X612 e612
    show Go _ _ _ _ T612 (mkF m 9 #[.val (.ref a), .val (.int ((0 : Int32) + ((f 1) - (f 0)))), .val (.int (2 : Int32))] [(.int (4 : Int32)), (.int (2 : Int32))]) _ _ _
    refine Go.icmpNo X612 hx (hb hby d_card_9) (XT.ii_ge_f (by decide)) ?_
    show Go _ _ _ _ T612 (mkF m 12 #[.val (.ref a), .val (.int ((0 : Int32) + ((f 1) - (f 0)))), .val (.int (2 : Int32))] []) _ _ _
    refine Go.iloadN X612 hx (hb hby d_card_12) rfl ?_
    refine Go.aloadN X612 hx (hb hby d_card_13) rfl rfl ?_
    refine Go.getF X612 hx hZ hown (w19 hw) Via.refl e612 r1 (hb hby d_card_14) ?_
    intro T613 X613 e613
    show Go _ _ _ _ T613 (mkF m 17 #[.val (.ref a), .val (.int ((0 : Int32) + ((f 1) - (f 0)))), .val (.int (2 : Int32))] [(.ref aB), (.int ((0 : Int32) + ((f 1) - (f 0))))]) _ _ _
    refine Go.iloadN X613 hx (hb hby d_card_17) rfl ?_
    refine Go.iconst X613 hx (hb hby d_card_18) ?_
    show Go _ _ _ _ T613 (mkF m 19 #[.val (.ref a), .val (.int ((0 : Int32) + ((f 1) - (f 0)))), .val (.int (2 : Int32))] [(.int (1 : Int32)), (.int (2 : Int32)), (.ref aB), (.int ((0 : Int32) + ((f 1) - (f 0))))]) _ _ _
    refine Go.iadd X613 hx (hb hby d_card_19) ?_
    show Go _ _ _ _ T613 (mkF m 20 #[.val (.ref a), .val (.int ((0 : Int32) + ((f 1) - (f 0)))), .val (.int (2 : Int32))] [(.int (3 : Int32)), (.ref aB), (.int ((0 : Int32) + ((f 1) - (f 0))))]) _ _ _
    refine Go.iaload X613 hx hZ e613 r3 (by decide) (by decide) (hb hby d_card_20) ?_
    show Go _ _ _ _ T613 (mkF m 21 #[.val (.ref a), .val (.int ((0 : Int32) + ((f 1) - (f 0)))), .val (.int (2 : Int32))] [(.int (f 3)), (.int ((0 : Int32) + ((f 1) - (f 0))))]) _ _ _
    refine Go.aloadN X613 hx (hb hby d_card_21) rfl rfl ?_
    refine Go.getF X613 hx hZ hown (w19 hw) Via.refl e613 r1 (hb hby d_card_22) ?_
    intro T614 X614 e614
    show Go _ _ _ _ T614 (mkF m 25 #[.val (.ref a), .val (.int ((0 : Int32) + ((f 1) - (f 0)))), .val (.int (2 : Int32))] [(.ref aB), (.int (f 3)), (.int ((0 : Int32) + ((f 1) - (f 0))))]) _ _ _
    refine Go.iloadN X614 hx (hb hby d_card_25) rfl ?_
    refine Go.iaload X614 hx hZ e614 r3 (by decide) (by decide) (hb hby d_card_26) ?_
    show Go _ _ _ _ T614 (mkF m 27 #[.val (.ref a), .val (.int ((0 : Int32) + ((f 1) - (f 0)))), .val (.int (2 : Int32))] [(.int (f 2)), (.int (f 3)), (.int ((0 : Int32) + ((f 1) - (f 0))))]) _ _ _
    refine Go.isub X614 hx (hb hby d_card_27) ?_
    show Go _ _ _ _ T614 (mkF m 28 #[.val (.ref a), .val (.int ((0 : Int32) + ((f 1) - (f 0)))), .val (.int (2 : Int32))] [(.int ((f 3) - (f 2))), (.int ((0 : Int32) + ((f 1) - (f 0))))]) _ _ _
    refine Go.iadd X614 hx (hb hby d_card_28) ?_
    show Go _ _ _ _ T614 (mkF m 29 #[.val (.ref a), .val (.int ((0 : Int32) + ((f 1) - (f 0)))), .val (.int (2 : Int32))] [(.int (((0 : Int32) + ((f 1) - (f 0))) + ((f 3) - (f 2))))]) _ _ _
    refine Go.istoreN X614 hx (hb hby d_card_29) (l' := #[.val (.ref a), .val (.int (((0 : Int32) + ((f 1) - (f 0))) + ((f 3) - (f 2)))), .val (.int (2 : Int32))]) rfl ?_
    refine Go.iinc X614 hx (hb hby d_card_30) rfl (l' := #[.val (.ref a), .val (.int (((0 : Int32) + ((f 1) - (f 0))) + ((f 3) - (f 2)))), .val (.int (4 : Int32))]) rfl ?_
    show Go _ _ _ _ T614 (mkF m 33 #[.val (.ref a), .val (.int (((0 : Int32) + ((f 1) - (f 0))) + ((f 3) - (f 2)))), .val (.int (4 : Int32))] []) _ _ _
    refine Go.goto X614 hx (hb hby d_card_33) (pc' := 4) (by decide) (by decide) ?_
    show Go _ _ _ _ T614 (mkF m 4 #[.val (.ref a), .val (.int (((0 : Int32) + ((f 1) - (f 0))) + ((f 3) - (f 2)))), .val (.int (4 : Int32))] []) _ _ _
    refine Go.iloadN X614 hx (hb hby d_card_4) rfl ?_
    refine Go.aloadN X614 hx (hb hby d_card_5) rfl rfl ?_
    refine Go.getF X614 hx hZ hown (w31 hw) Via.refl e614 r2 (hb hby d_card_6) ?_
    intro T615 X615 e615
    show Go _ _ _ _ T615 (mkF m 9 #[.val (.ref a), .val (.int (((0 : Int32) + ((f 1) - (f 0))) + ((f 3) - (f 2)))), .val (.int (4 : Int32))] [(.int (4 : Int32)), (.int (4 : Int32))]) _ _ _
    refine Go.icmpYes X615 hx (hb hby d_card_9) (XT.ii_ge_t (by decide)) (pc' := 36) (by decide) (by decide) ?_
    show Go _ _ _ _ T615 (mkF m 36 #[.val (.ref a), .val (.int (((0 : Int32) + ((f 1) - (f 0))) + ((f 3) - (f 2)))), .val (.int (4 : Int32))] []) _ _ _
    refine Go.iloadN X615 hx (hb hby d_card_36) rfl ?_
    refine Go.retI X615 hx hlk hret (hb hby d_card_37) (by decide) (by decide) ?_
    rw [e615]
    exact ⟨(((0 : Int32) + ((f 1) - (f 0))) + ((f 3) - (f 2))), rfl, N0, rfl, Or.inr ⟨f, Or.inr (Or.inl ⟨hA, hM, (card_4 _ _ _ _)⟩)⟩⟩
  · show Go _ _ _ _ s₁ (mkF m 0 #[.val (.ref a), .unset, .unset] []) _ _ _
    refine Go.iconst X0 hx (hb hby d_card_0) ?_
    show Go _ _ _ _ s₁ (mkF m 1 #[.val (.ref a), .unset, .unset] [(.int (0 : Int32))]) _ _ _
    refine Go.istoreN X0 hx (hb hby d_card_1) (l' := #[.val (.ref a), .val (.int (0 : Int32)), .unset]) rfl ?_
    refine Go.iconst X0 hx (hb hby d_card_2) ?_
    show Go _ _ _ _ s₁ (mkF m 3 #[.val (.ref a), .val (.int (0 : Int32)), .unset] [(.int (0 : Int32))]) _ _ _
    refine Go.istoreN X0 hx (hb hby d_card_3) (l' := #[.val (.ref a), .val (.int (0 : Int32)), .val (.int (0 : Int32))]) rfl ?_
    refine Go.iloadN X0 hx (hb hby d_card_4) rfl ?_
    refine Go.aloadN X0 hx (hb hby d_card_5) rfl rfl ?_
    refine Go.getF X0 hx hZ hown (w31 hw) Via.refl e0 r2 (hb hby d_card_6) ?_
    intro T616 X616 e616
    show Go _ _ _ _ T616 (mkF m 9 #[.val (.ref a), .val (.int (0 : Int32)), .val (.int (0 : Int32))] [(.int (6 : Int32)), (.int (0 : Int32))]) _ _ _
    refine Go.icmpNo X616 hx (hb hby d_card_9) (XT.ii_ge_f (by decide)) ?_
    show Go _ _ _ _ T616 (mkF m 12 #[.val (.ref a), .val (.int (0 : Int32)), .val (.int (0 : Int32))] []) _ _ _
    refine Go.iloadN X616 hx (hb hby d_card_12) rfl ?_
    refine Go.aloadN X616 hx (hb hby d_card_13) rfl rfl ?_
    refine Go.getF X616 hx hZ hown (w19 hw) Via.refl e616 r1 (hb hby d_card_14) ?_
    intro T617 X617 e617
    show Go _ _ _ _ T617 (mkF m 17 #[.val (.ref a), .val (.int (0 : Int32)), .val (.int (0 : Int32))] [(.ref aB), (.int (0 : Int32))]) _ _ _
    refine Go.iloadN X617 hx (hb hby d_card_17) rfl ?_
    refine Go.iconst X617 hx (hb hby d_card_18) ?_
    show Go _ _ _ _ T617 (mkF m 19 #[.val (.ref a), .val (.int (0 : Int32)), .val (.int (0 : Int32))] [(.int (1 : Int32)), (.int (0 : Int32)), (.ref aB), (.int (0 : Int32))]) _ _ _
    refine Go.iadd X617 hx (hb hby d_card_19) ?_
    show Go _ _ _ _ T617 (mkF m 20 #[.val (.ref a), .val (.int (0 : Int32)), .val (.int (0 : Int32))] [(.int (1 : Int32)), (.ref aB), (.int (0 : Int32))]) _ _ _
    refine Go.iaload X617 hx hZ e617 r3 (by decide) (by decide) (hb hby d_card_20) ?_
    show Go _ _ _ _ T617 (mkF m 21 #[.val (.ref a), .val (.int (0 : Int32)), .val (.int (0 : Int32))] [(.int (f 1)), (.int (0 : Int32))]) _ _ _
    refine Go.aloadN X617 hx (hb hby d_card_21) rfl rfl ?_
    refine Go.getF X617 hx hZ hown (w19 hw) Via.refl e617 r1 (hb hby d_card_22) ?_
    intro T618 X618 e618
    show Go _ _ _ _ T618 (mkF m 25 #[.val (.ref a), .val (.int (0 : Int32)), .val (.int (0 : Int32))] [(.ref aB), (.int (f 1)), (.int (0 : Int32))]) _ _ _
    refine Go.iloadN X618 hx (hb hby d_card_25) rfl ?_
    refine Go.iaload X618 hx hZ e618 r3 (by decide) (by decide) (hb hby d_card_26) ?_
    show Go _ _ _ _ T618 (mkF m 27 #[.val (.ref a), .val (.int (0 : Int32)), .val (.int (0 : Int32))] [(.int (f 0)), (.int (f 1)), (.int (0 : Int32))]) _ _ _
    refine Go.isub X618 hx (hb hby d_card_27) ?_
    show Go _ _ _ _ T618 (mkF m 28 #[.val (.ref a), .val (.int (0 : Int32)), .val (.int (0 : Int32))] [(.int ((f 1) - (f 0))), (.int (0 : Int32))]) _ _ _
    refine Go.iadd X618 hx (hb hby d_card_28) ?_
    show Go _ _ _ _ T618 (mkF m 29 #[.val (.ref a), .val (.int (0 : Int32)), .val (.int (0 : Int32))] [(.int ((0 : Int32) + ((f 1) - (f 0))))]) _ _ _
    refine Go.istoreN X618 hx (hb hby d_card_29) (l' := #[.val (.ref a), .val (.int ((0 : Int32) + ((f 1) - (f 0)))), .val (.int (0 : Int32))]) rfl ?_
    refine Go.iinc X618 hx (hb hby d_card_30) rfl (l' := #[.val (.ref a), .val (.int ((0 : Int32) + ((f 1) - (f 0)))), .val (.int (2 : Int32))]) rfl ?_
    show Go _ _ _ _ T618 (mkF m 33 #[.val (.ref a), .val (.int ((0 : Int32) + ((f 1) - (f 0)))), .val (.int (2 : Int32))] []) _ _ _
    refine Go.goto X618 hx (hb hby d_card_33) (pc' := 4) (by decide) (by decide) ?_
    show Go _ _ _ _ T618 (mkF m 4 #[.val (.ref a), .val (.int ((0 : Int32) + ((f 1) - (f 0)))), .val (.int (2 : Int32))] []) _ _ _
    refine Go.iloadN X618 hx (hb hby d_card_4) rfl ?_
    refine Go.aloadN X618 hx (hb hby d_card_5) rfl rfl ?_
    refine Go.getF X618 hx hZ hown (w31 hw) Via.refl e618 r2 (hb hby d_card_6) ?_
    intro T619 X619 e619
    show Go _ _ _ _ T619 (mkF m 9 #[.val (.ref a), .val (.int ((0 : Int32) + ((f 1) - (f 0)))), .val (.int (2 : Int32))] [(.int (6 : Int32)), (.int (2 : Int32))]) _ _ _
    refine Go.icmpNo X619 hx (hb hby d_card_9) (XT.ii_ge_f (by decide)) ?_
    show Go _ _ _ _ T619 (mkF m 12 #[.val (.ref a), .val (.int ((0 : Int32) + ((f 1) - (f 0)))), .val (.int (2 : Int32))] []) _ _ _
    refine Go.iloadN X619 hx (hb hby d_card_12) rfl ?_
    refine Go.aloadN X619 hx (hb hby d_card_13) rfl rfl ?_
    refine Go.getF X619 hx hZ hown (w19 hw) Via.refl e619 r1 (hb hby d_card_14) ?_
    intro T620 X620 e620
    show Go _ _ _ _ T620 (mkF m 17 #[.val (.ref a), .val (.int ((0 : Int32) + ((f 1) - (f 0)))), .val (.int (2 : Int32))] [(.ref aB), (.int ((0 : Int32) + ((f 1) - (f 0))))]) _ _ _
    refine Go.iloadN X620 hx (hb hby d_card_17) rfl ?_
    refine Go.iconst X620 hx (hb hby d_card_18) ?_
    show Go _ _ _ _ T620 (mkF m 19 #[.val (.ref a), .val (.int ((0 : Int32) + ((f 1) - (f 0)))), .val (.int (2 : Int32))] [(.int (1 : Int32)), (.int (2 : Int32)), (.ref aB), (.int ((0 : Int32) + ((f 1) - (f 0))))]) _ _ _
    refine Go.iadd X620 hx (hb hby d_card_19) ?_
    show Go _ _ _ _ T620 (mkF m 20 #[.val (.ref a), .val (.int ((0 : Int32) + ((f 1) - (f 0)))), .val (.int (2 : Int32))] [(.int (3 : Int32)), (.ref aB), (.int ((0 : Int32) + ((f 1) - (f 0))))]) _ _ _
    refine Go.iaload X620 hx hZ e620 r3 (by decide) (by decide) (hb hby d_card_20) ?_
    show Go _ _ _ _ T620 (mkF m 21 #[.val (.ref a), .val (.int ((0 : Int32) + ((f 1) - (f 0)))), .val (.int (2 : Int32))] [(.int (f 3)), (.int ((0 : Int32) + ((f 1) - (f 0))))]) _ _ _
    refine Go.aloadN X620 hx (hb hby d_card_21) rfl rfl ?_
    refine Go.getF X620 hx hZ hown (w19 hw) Via.refl e620 r1 (hb hby d_card_22) ?_
    intro T621 X621 e621
    show Go _ _ _ _ T621 (mkF m 25 #[.val (.ref a), .val (.int ((0 : Int32) + ((f 1) - (f 0)))), .val (.int (2 : Int32))] [(.ref aB), (.int (f 3)), (.int ((0 : Int32) + ((f 1) - (f 0))))]) _ _ _
    refine Go.iloadN X621 hx (hb hby d_card_25) rfl ?_
    refine Go.iaload X621 hx hZ e621 r3 (by decide) (by decide) (hb hby d_card_26) ?_
    show Go _ _ _ _ T621 (mkF m 27 #[.val (.ref a), .val (.int ((0 : Int32) + ((f 1) - (f 0)))), .val (.int (2 : Int32))] [(.int (f 2)), (.int (f 3)), (.int ((0 : Int32) + ((f 1) - (f 0))))]) _ _ _
    refine Go.isub X621 hx (hb hby d_card_27) ?_
    show Go _ _ _ _ T621 (mkF m 28 #[.val (.ref a), .val (.int ((0 : Int32) + ((f 1) - (f 0)))), .val (.int (2 : Int32))] [(.int ((f 3) - (f 2))), (.int ((0 : Int32) + ((f 1) - (f 0))))]) _ _ _
    refine Go.iadd X621 hx (hb hby d_card_28) ?_
    show Go _ _ _ _ T621 (mkF m 29 #[.val (.ref a), .val (.int ((0 : Int32) + ((f 1) - (f 0)))), .val (.int (2 : Int32))] [(.int (((0 : Int32) + ((f 1) - (f 0))) + ((f 3) - (f 2))))]) _ _ _
    refine Go.istoreN X621 hx (hb hby d_card_29) (l' := #[.val (.ref a), .val (.int (((0 : Int32) + ((f 1) - (f 0))) + ((f 3) - (f 2)))), .val (.int (2 : Int32))]) rfl ?_
    refine Go.iinc X621 hx (hb hby d_card_30) rfl (l' := #[.val (.ref a), .val (.int (((0 : Int32) + ((f 1) - (f 0))) + ((f 3) - (f 2)))), .val (.int (4 : Int32))]) rfl ?_
    show Go _ _ _ _ T621 (mkF m 33 #[.val (.ref a), .val (.int (((0 : Int32) + ((f 1) - (f 0))) + ((f 3) - (f 2)))), .val (.int (4 : Int32))] []) _ _ _
    refine Go.goto X621 hx (hb hby d_card_33) (pc' := 4) (by decide) (by decide) ?_
    show Go _ _ _ _ T621 (mkF m 4 #[.val (.ref a), .val (.int (((0 : Int32) + ((f 1) - (f 0))) + ((f 3) - (f 2)))), .val (.int (4 : Int32))] []) _ _ _
    refine Go.iloadN X621 hx (hb hby d_card_4) rfl ?_
    refine Go.aloadN X621 hx (hb hby d_card_5) rfl rfl ?_
    refine Go.getF X621 hx hZ hown (w31 hw) Via.refl e621 r2 (hb hby d_card_6) ?_
    intro T622 X622 e622
    show Go _ _ _ _ T622 (mkF m 9 #[.val (.ref a), .val (.int (((0 : Int32) + ((f 1) - (f 0))) + ((f 3) - (f 2)))), .val (.int (4 : Int32))] [(.int (6 : Int32)), (.int (4 : Int32))]) _ _ _
    refine Go.icmpNo X622 hx (hb hby d_card_9) (XT.ii_ge_f (by decide)) ?_
    show Go _ _ _ _ T622 (mkF m 12 #[.val (.ref a), .val (.int (((0 : Int32) + ((f 1) - (f 0))) + ((f 3) - (f 2)))), .val (.int (4 : Int32))] []) _ _ _
    refine Go.iloadN X622 hx (hb hby d_card_12) rfl ?_
    refine Go.aloadN X622 hx (hb hby d_card_13) rfl rfl ?_
    refine Go.getF X622 hx hZ hown (w19 hw) Via.refl e622 r1 (hb hby d_card_14) ?_
    intro T623 X623 e623
    show Go _ _ _ _ T623 (mkF m 17 #[.val (.ref a), .val (.int (((0 : Int32) + ((f 1) - (f 0))) + ((f 3) - (f 2)))), .val (.int (4 : Int32))] [(.ref aB), (.int (((0 : Int32) + ((f 1) - (f 0))) + ((f 3) - (f 2))))]) _ _ _
    refine Go.iloadN X623 hx (hb hby d_card_17) rfl ?_
    refine Go.iconst X623 hx (hb hby d_card_18) ?_
    show Go _ _ _ _ T623 (mkF m 19 #[.val (.ref a), .val (.int (((0 : Int32) + ((f 1) - (f 0))) + ((f 3) - (f 2)))), .val (.int (4 : Int32))] [(.int (1 : Int32)), (.int (4 : Int32)), (.ref aB), (.int (((0 : Int32) + ((f 1) - (f 0))) + ((f 3) - (f 2))))]) _ _ _
    refine Go.iadd X623 hx (hb hby d_card_19) ?_
    show Go _ _ _ _ T623 (mkF m 20 #[.val (.ref a), .val (.int (((0 : Int32) + ((f 1) - (f 0))) + ((f 3) - (f 2)))), .val (.int (4 : Int32))] [(.int (5 : Int32)), (.ref aB), (.int (((0 : Int32) + ((f 1) - (f 0))) + ((f 3) - (f 2))))]) _ _ _
    refine Go.iaload X623 hx hZ e623 r3 (by decide) (by decide) (hb hby d_card_20) ?_
    show Go _ _ _ _ T623 (mkF m 21 #[.val (.ref a), .val (.int (((0 : Int32) + ((f 1) - (f 0))) + ((f 3) - (f 2)))), .val (.int (4 : Int32))] [(.int (f 5)), (.int (((0 : Int32) + ((f 1) - (f 0))) + ((f 3) - (f 2))))]) _ _ _
    refine Go.aloadN X623 hx (hb hby d_card_21) rfl rfl ?_
    refine Go.getF X623 hx hZ hown (w19 hw) Via.refl e623 r1 (hb hby d_card_22) ?_
    intro T624 X624 e624
    show Go _ _ _ _ T624 (mkF m 25 #[.val (.ref a), .val (.int (((0 : Int32) + ((f 1) - (f 0))) + ((f 3) - (f 2)))), .val (.int (4 : Int32))] [(.ref aB), (.int (f 5)), (.int (((0 : Int32) + ((f 1) - (f 0))) + ((f 3) - (f 2))))]) _ _ _
    refine Go.iloadN X624 hx (hb hby d_card_25) rfl ?_
    refine Go.iaload X624 hx hZ e624 r3 (by decide) (by decide) (hb hby d_card_26) ?_
    show Go _ _ _ _ T624 (mkF m 27 #[.val (.ref a), .val (.int (((0 : Int32) + ((f 1) - (f 0))) + ((f 3) - (f 2)))), .val (.int (4 : Int32))] [(.int (f 4)), (.int (f 5)), (.int (((0 : Int32) + ((f 1) - (f 0))) + ((f 3) - (f 2))))]) _ _ _
    refine Go.isub X624 hx (hb hby d_card_27) ?_
    show Go _ _ _ _ T624 (mkF m 28 #[.val (.ref a), .val (.int (((0 : Int32) + ((f 1) - (f 0))) + ((f 3) - (f 2)))), .val (.int (4 : Int32))] [(.int ((f 5) - (f 4))), (.int (((0 : Int32) + ((f 1) - (f 0))) + ((f 3) - (f 2))))]) _ _ _
    refine Go.iadd X624 hx (hb hby d_card_28) ?_
    show Go _ _ _ _ T624 (mkF m 29 #[.val (.ref a), .val (.int (((0 : Int32) + ((f 1) - (f 0))) + ((f 3) - (f 2)))), .val (.int (4 : Int32))] [(.int ((((0 : Int32) + ((f 1) - (f 0))) + ((f 3) - (f 2))) + ((f 5) - (f 4))))]) _ _ _
    refine Go.istoreN X624 hx (hb hby d_card_29) (l' := #[.val (.ref a), .val (.int ((((0 : Int32) + ((f 1) - (f 0))) + ((f 3) - (f 2))) + ((f 5) - (f 4)))), .val (.int (4 : Int32))]) rfl ?_
    refine Go.iinc X624 hx (hb hby d_card_30) rfl (l' := #[.val (.ref a), .val (.int ((((0 : Int32) + ((f 1) - (f 0))) + ((f 3) - (f 2))) + ((f 5) - (f 4)))), .val (.int (6 : Int32))]) rfl ?_
    show Go _ _ _ _ T624 (mkF m 33 #[.val (.ref a), .val (.int ((((0 : Int32) + ((f 1) - (f 0))) + ((f 3) - (f 2))) + ((f 5) - (f 4)))), .val (.int (6 : Int32))] []) _ _ _
    refine Go.goto X624 hx (hb hby d_card_33) (pc' := 4) (by decide) (by decide) ?_
    show Go _ _ _ _ T624 (mkF m 4 #[.val (.ref a), .val (.int ((((0 : Int32) + ((f 1) - (f 0))) + ((f 3) - (f 2))) + ((f 5) - (f 4)))), .val (.int (6 : Int32))] []) _ _ _
    refine Go.iloadN X624 hx (hb hby d_card_4) rfl ?_
    refine Go.aloadN X624 hx (hb hby d_card_5) rfl rfl ?_
    refine Go.getF X624 hx hZ hown (w31 hw) Via.refl e624 r2 (hb hby d_card_6) ?_
    intro T625 X625 e625
    show Go _ _ _ _ T625 (mkF m 9 #[.val (.ref a), .val (.int ((((0 : Int32) + ((f 1) - (f 0))) + ((f 3) - (f 2))) + ((f 5) - (f 4)))), .val (.int (6 : Int32))] [(.int (6 : Int32)), (.int (6 : Int32))]) _ _ _
    refine Go.icmpYes X625 hx (hb hby d_card_9) (XT.ii_ge_t (by decide)) (pc' := 36) (by decide) (by decide) ?_
    show Go _ _ _ _ T625 (mkF m 36 #[.val (.ref a), .val (.int ((((0 : Int32) + ((f 1) - (f 0))) + ((f 3) - (f 2))) + ((f 5) - (f 4)))), .val (.int (6 : Int32))] []) _ _ _
    refine Go.iloadN X625 hx (hb hby d_card_36) rfl ?_
    refine Go.retI X625 hx hlk hret (hb hby d_card_37) (by decide) (by decide) ?_
    rw [e625]
    exact ⟨((((0 : Int32) + ((f 1) - (f 0))) + ((f 3) - (f 2))) + ((f 5) - (f 4))), rfl, N0, rfl, Or.inr ⟨f, Or.inr (Or.inr ⟨hA, hM, (card_6 _ _ _ _ _ _)⟩)⟩⟩
  · show Go _ _ _ _ s₁ (mkF m 0 #[.val (.ref a), .unset, .unset] []) _ _ _
    refine Go.iconst X0 hx (hb hby d_card_0) ?_
    show Go _ _ _ _ s₁ (mkF m 1 #[.val (.ref a), .unset, .unset] [(.int (0 : Int32))]) _ _ _
    refine Go.istoreN X0 hx (hb hby d_card_1) (l' := #[.val (.ref a), .val (.int (0 : Int32)), .unset]) rfl ?_
    refine Go.iconst X0 hx (hb hby d_card_2) ?_
    show Go _ _ _ _ s₁ (mkF m 3 #[.val (.ref a), .val (.int (0 : Int32)), .unset] [(.int (0 : Int32))]) _ _ _
    refine Go.istoreN X0 hx (hb hby d_card_3) (l' := #[.val (.ref a), .val (.int (0 : Int32)), .val (.int (0 : Int32))]) rfl ?_
    refine Go.iloadN X0 hx (hb hby d_card_4) rfl ?_
    refine Go.aloadN X0 hx (hb hby d_card_5) rfl rfl ?_
    refine Go.getF X0 hx hZ hown (w31 hw) Via.refl e0 r2 (hb hby d_card_6) ?_
    intro T626 X626 e626
    show Go _ _ _ _ T626 (mkF m 9 #[.val (.ref a), .val (.int (0 : Int32)), .val (.int (0 : Int32))] [(.int (2 : Int32)), (.int (0 : Int32))]) _ _ _
    refine Go.icmpNo X626 hx (hb hby d_card_9) (XT.ii_ge_f (by decide)) ?_
    show Go _ _ _ _ T626 (mkF m 12 #[.val (.ref a), .val (.int (0 : Int32)), .val (.int (0 : Int32))] []) _ _ _
    refine Go.iloadN X626 hx (hb hby d_card_12) rfl ?_
    refine Go.aloadN X626 hx (hb hby d_card_13) rfl rfl ?_
    refine Go.getF X626 hx hZ hown (w19 hw) Via.refl e626 r1 (hb hby d_card_14) ?_
    intro T627 X627 e627
    show Go _ _ _ _ T627 (mkF m 17 #[.val (.ref a), .val (.int (0 : Int32)), .val (.int (0 : Int32))] [(.ref aB), (.int (0 : Int32))]) _ _ _
    refine Go.iloadN X627 hx (hb hby d_card_17) rfl ?_
    refine Go.iconst X627 hx (hb hby d_card_18) ?_
    show Go _ _ _ _ T627 (mkF m 19 #[.val (.ref a), .val (.int (0 : Int32)), .val (.int (0 : Int32))] [(.int (1 : Int32)), (.int (0 : Int32)), (.ref aB), (.int (0 : Int32))]) _ _ _
    refine Go.iadd X627 hx (hb hby d_card_19) ?_
    show Go _ _ _ _ T627 (mkF m 20 #[.val (.ref a), .val (.int (0 : Int32)), .val (.int (0 : Int32))] [(.int (1 : Int32)), (.ref aB), (.int (0 : Int32))]) _ _ _
    refine Go.iaload X627 hx hZ e627 r3 (by decide) (by decide) (hb hby d_card_20) ?_
    show Go _ _ _ _ T627 (mkF m 21 #[.val (.ref a), .val (.int (0 : Int32)), .val (.int (0 : Int32))] [(.int (f 1)), (.int (0 : Int32))]) _ _ _
    refine Go.aloadN X627 hx (hb hby d_card_21) rfl rfl ?_
    refine Go.getF X627 hx hZ hown (w19 hw) Via.refl e627 r1 (hb hby d_card_22) ?_
    intro T628 X628 e628
    show Go _ _ _ _ T628 (mkF m 25 #[.val (.ref a), .val (.int (0 : Int32)), .val (.int (0 : Int32))] [(.ref aB), (.int (f 1)), (.int (0 : Int32))]) _ _ _
    refine Go.iloadN X628 hx (hb hby d_card_25) rfl ?_
    refine Go.iaload X628 hx hZ e628 r3 (by decide) (by decide) (hb hby d_card_26) ?_
    show Go _ _ _ _ T628 (mkF m 27 #[.val (.ref a), .val (.int (0 : Int32)), .val (.int (0 : Int32))] [(.int (f 0)), (.int (f 1)), (.int (0 : Int32))]) _ _ _
    refine Go.isub X628 hx (hb hby d_card_27) ?_
    show Go _ _ _ _ T628 (mkF m 28 #[.val (.ref a), .val (.int (0 : Int32)), .val (.int (0 : Int32))] [(.int ((f 1) - (f 0))), (.int (0 : Int32))]) _ _ _
    refine Go.iadd X628 hx (hb hby d_card_28) ?_
    show Go _ _ _ _ T628 (mkF m 29 #[.val (.ref a), .val (.int (0 : Int32)), .val (.int (0 : Int32))] [(.int ((0 : Int32) + ((f 1) - (f 0))))]) _ _ _
    refine Go.istoreN X628 hx (hb hby d_card_29) (l' := #[.val (.ref a), .val (.int ((0 : Int32) + ((f 1) - (f 0)))), .val (.int (0 : Int32))]) rfl ?_
    refine Go.iinc X628 hx (hb hby d_card_30) rfl (l' := #[.val (.ref a), .val (.int ((0 : Int32) + ((f 1) - (f 0)))), .val (.int (2 : Int32))]) rfl ?_
    show Go _ _ _ _ T628 (mkF m 33 #[.val (.ref a), .val (.int ((0 : Int32) + ((f 1) - (f 0)))), .val (.int (2 : Int32))] []) _ _ _
    refine Go.goto X628 hx (hb hby d_card_33) (pc' := 4) (by decide) (by decide) ?_
    show Go _ _ _ _ T628 (mkF m 4 #[.val (.ref a), .val (.int ((0 : Int32) + ((f 1) - (f 0)))), .val (.int (2 : Int32))] []) _ _ _
    refine Go.iloadN X628 hx (hb hby d_card_4) rfl ?_
    refine Go.aloadN X628 hx (hb hby d_card_5) rfl rfl ?_
    refine Go.getF X628 hx hZ hown (w31 hw) Via.refl e628 r2 (hb hby d_card_6) ?_
    intro T629 X629 e629
    show Go _ _ _ _ T629 (mkF m 9 #[.val (.ref a), .val (.int ((0 : Int32) + ((f 1) - (f 0)))), .val (.int (2 : Int32))] [(.int (2 : Int32)), (.int (2 : Int32))]) _ _ _
    refine Go.icmpYes X629 hx (hb hby d_card_9) (XT.ii_ge_t (by decide)) (pc' := 36) (by decide) (by decide) ?_
    show Go _ _ _ _ T629 (mkF m 36 #[.val (.ref a), .val (.int ((0 : Int32) + ((f 1) - (f 0)))), .val (.int (2 : Int32))] []) _ _ _
    refine Go.iloadN X629 hx (hb hby d_card_36) rfl ?_
    refine Go.retI X629 hx hlk hret (hb hby d_card_37) (by decide) (by decide) ?_
    rw [e629]
    exact ⟨((0 : Int32) + ((f 1) - (f 0))), rfl, N0, rfl, Or.inr ⟨f, Or.inl ⟨hA, hM, (card_2 _ _ )⟩⟩⟩
  · show Go _ _ _ _ s₁ (mkF m 0 #[.val (.ref a), .unset, .unset] []) _ _ _
    refine Go.iconst X0 hx (hb hby d_card_0) ?_
    show Go _ _ _ _ s₁ (mkF m 1 #[.val (.ref a), .unset, .unset] [(.int (0 : Int32))]) _ _ _
    refine Go.istoreN X0 hx (hb hby d_card_1) (l' := #[.val (.ref a), .val (.int (0 : Int32)), .unset]) rfl ?_
    refine Go.iconst X0 hx (hb hby d_card_2) ?_
    show Go _ _ _ _ s₁ (mkF m 3 #[.val (.ref a), .val (.int (0 : Int32)), .unset] [(.int (0 : Int32))]) _ _ _
    refine Go.istoreN X0 hx (hb hby d_card_3) (l' := #[.val (.ref a), .val (.int (0 : Int32)), .val (.int (0 : Int32))]) rfl ?_
    refine Go.iloadN X0 hx (hb hby d_card_4) rfl ?_
    refine Go.aloadN X0 hx (hb hby d_card_5) rfl rfl ?_
    refine Go.getF X0 hx hZ hown (w31 hw) Via.refl e0 r2 (hb hby d_card_6) ?_
    intro T630 X630 e630
    show Go _ _ _ _ T630 (mkF m 9 #[.val (.ref a), .val (.int (0 : Int32)), .val (.int (0 : Int32))] [(.int (4 : Int32)), (.int (0 : Int32))]) _ _ _
    refine Go.icmpNo X630 hx (hb hby d_card_9) (XT.ii_ge_f (by decide)) ?_
    show Go _ _ _ _ T630 (mkF m 12 #[.val (.ref a), .val (.int (0 : Int32)), .val (.int (0 : Int32))] []) _ _ _
    refine Go.iloadN X630 hx (hb hby d_card_12) rfl ?_
    refine Go.aloadN X630 hx (hb hby d_card_13) rfl rfl ?_
    refine Go.getF X630 hx hZ hown (w19 hw) Via.refl e630 r1 (hb hby d_card_14) ?_
    intro T631 X631 e631
    show Go _ _ _ _ T631 (mkF m 17 #[.val (.ref a), .val (.int (0 : Int32)), .val (.int (0 : Int32))] [(.ref aB), (.int (0 : Int32))]) _ _ _
    refine Go.iloadN X631 hx (hb hby d_card_17) rfl ?_
    refine Go.iconst X631 hx (hb hby d_card_18) ?_
    show Go _ _ _ _ T631 (mkF m 19 #[.val (.ref a), .val (.int (0 : Int32)), .val (.int (0 : Int32))] [(.int (1 : Int32)), (.int (0 : Int32)), (.ref aB), (.int (0 : Int32))]) _ _ _
    refine Go.iadd X631 hx (hb hby d_card_19) ?_
    show Go _ _ _ _ T631 (mkF m 20 #[.val (.ref a), .val (.int (0 : Int32)), .val (.int (0 : Int32))] [(.int (1 : Int32)), (.ref aB), (.int (0 : Int32))]) _ _ _
    refine Go.iaload X631 hx hZ e631 r3 (by decide) (by decide) (hb hby d_card_20) ?_
    show Go _ _ _ _ T631 (mkF m 21 #[.val (.ref a), .val (.int (0 : Int32)), .val (.int (0 : Int32))] [(.int (f 1)), (.int (0 : Int32))]) _ _ _
    refine Go.aloadN X631 hx (hb hby d_card_21) rfl rfl ?_
    refine Go.getF X631 hx hZ hown (w19 hw) Via.refl e631 r1 (hb hby d_card_22) ?_
    intro T632 X632 e632
    show Go _ _ _ _ T632 (mkF m 25 #[.val (.ref a), .val (.int (0 : Int32)), .val (.int (0 : Int32))] [(.ref aB), (.int (f 1)), (.int (0 : Int32))]) _ _ _
    refine Go.iloadN X632 hx (hb hby d_card_25) rfl ?_
    refine Go.iaload X632 hx hZ e632 r3 (by decide) (by decide) (hb hby d_card_26) ?_
    show Go _ _ _ _ T632 (mkF m 27 #[.val (.ref a), .val (.int (0 : Int32)), .val (.int (0 : Int32))] [(.int (f 0)), (.int (f 1)), (.int (0 : Int32))]) _ _ _
    refine Go.isub X632 hx (hb hby d_card_27) ?_
    show Go _ _ _ _ T632 (mkF m 28 #[.val (.ref a), .val (.int (0 : Int32)), .val (.int (0 : Int32))] [(.int ((f 1) - (f 0))), (.int (0 : Int32))]) _ _ _
    refine Go.iadd X632 hx (hb hby d_card_28) ?_
    show Go _ _ _ _ T632 (mkF m 29 #[.val (.ref a), .val (.int (0 : Int32)), .val (.int (0 : Int32))] [(.int ((0 : Int32) + ((f 1) - (f 0))))]) _ _ _
    refine Go.istoreN X632 hx (hb hby d_card_29) (l' := #[.val (.ref a), .val (.int ((0 : Int32) + ((f 1) - (f 0)))), .val (.int (0 : Int32))]) rfl ?_
    refine Go.iinc X632 hx (hb hby d_card_30) rfl (l' := #[.val (.ref a), .val (.int ((0 : Int32) + ((f 1) - (f 0)))), .val (.int (2 : Int32))]) rfl ?_
    show Go _ _ _ _ T632 (mkF m 33 #[.val (.ref a), .val (.int ((0 : Int32) + ((f 1) - (f 0)))), .val (.int (2 : Int32))] []) _ _ _
    refine Go.goto X632 hx (hb hby d_card_33) (pc' := 4) (by decide) (by decide) ?_
    show Go _ _ _ _ T632 (mkF m 4 #[.val (.ref a), .val (.int ((0 : Int32) + ((f 1) - (f 0)))), .val (.int (2 : Int32))] []) _ _ _
    refine Go.iloadN X632 hx (hb hby d_card_4) rfl ?_
    refine Go.aloadN X632 hx (hb hby d_card_5) rfl rfl ?_
    refine Go.getF X632 hx hZ hown (w31 hw) Via.refl e632 r2 (hb hby d_card_6) ?_
    intro T633 X633 e633
    show Go _ _ _ _ T633 (mkF m 9 #[.val (.ref a), .val (.int ((0 : Int32) + ((f 1) - (f 0)))), .val (.int (2 : Int32))] [(.int (4 : Int32)), (.int (2 : Int32))]) _ _ _
    refine Go.icmpNo X633 hx (hb hby d_card_9) (XT.ii_ge_f (by decide)) ?_
    show Go _ _ _ _ T633 (mkF m 12 #[.val (.ref a), .val (.int ((0 : Int32) + ((f 1) - (f 0)))), .val (.int (2 : Int32))] []) _ _ _
    refine Go.iloadN X633 hx (hb hby d_card_12) rfl ?_
    refine Go.aloadN X633 hx (hb hby d_card_13) rfl rfl ?_
    refine Go.getF X633 hx hZ hown (w19 hw) Via.refl e633 r1 (hb hby d_card_14) ?_
    intro T634 X634 e634
    show Go _ _ _ _ T634 (mkF m 17 #[.val (.ref a), .val (.int ((0 : Int32) + ((f 1) - (f 0)))), .val (.int (2 : Int32))] [(.ref aB), (.int ((0 : Int32) + ((f 1) - (f 0))))]) _ _ _
    refine Go.iloadN X634 hx (hb hby d_card_17) rfl ?_
    refine Go.iconst X634 hx (hb hby d_card_18) ?_
    show Go _ _ _ _ T634 (mkF m 19 #[.val (.ref a), .val (.int ((0 : Int32) + ((f 1) - (f 0)))), .val (.int (2 : Int32))] [(.int (1 : Int32)), (.int (2 : Int32)), (.ref aB), (.int ((0 : Int32) + ((f 1) - (f 0))))]) _ _ _
    refine Go.iadd X634 hx (hb hby d_card_19) ?_
    show Go _ _ _ _ T634 (mkF m 20 #[.val (.ref a), .val (.int ((0 : Int32) + ((f 1) - (f 0)))), .val (.int (2 : Int32))] [(.int (3 : Int32)), (.ref aB), (.int ((0 : Int32) + ((f 1) - (f 0))))]) _ _ _
    refine Go.iaload X634 hx hZ e634 r3 (by decide) (by decide) (hb hby d_card_20) ?_
    show Go _ _ _ _ T634 (mkF m 21 #[.val (.ref a), .val (.int ((0 : Int32) + ((f 1) - (f 0)))), .val (.int (2 : Int32))] [(.int (f 3)), (.int ((0 : Int32) + ((f 1) - (f 0))))]) _ _ _
    refine Go.aloadN X634 hx (hb hby d_card_21) rfl rfl ?_
    refine Go.getF X634 hx hZ hown (w19 hw) Via.refl e634 r1 (hb hby d_card_22) ?_
    intro T635 X635 e635
    show Go _ _ _ _ T635 (mkF m 25 #[.val (.ref a), .val (.int ((0 : Int32) + ((f 1) - (f 0)))), .val (.int (2 : Int32))] [(.ref aB), (.int (f 3)), (.int ((0 : Int32) + ((f 1) - (f 0))))]) _ _ _
    refine Go.iloadN X635 hx (hb hby d_card_25) rfl ?_
    refine Go.iaload X635 hx hZ e635 r3 (by decide) (by decide) (hb hby d_card_26) ?_
    show Go _ _ _ _ T635 (mkF m 27 #[.val (.ref a), .val (.int ((0 : Int32) + ((f 1) - (f 0)))), .val (.int (2 : Int32))] [(.int (f 2)), (.int (f 3)), (.int ((0 : Int32) + ((f 1) - (f 0))))]) _ _ _
    refine Go.isub X635 hx (hb hby d_card_27) ?_
    show Go _ _ _ _ T635 (mkF m 28 #[.val (.ref a), .val (.int ((0 : Int32) + ((f 1) - (f 0)))), .val (.int (2 : Int32))] [(.int ((f 3) - (f 2))), (.int ((0 : Int32) + ((f 1) - (f 0))))]) _ _ _
    refine Go.iadd X635 hx (hb hby d_card_28) ?_
    show Go _ _ _ _ T635 (mkF m 29 #[.val (.ref a), .val (.int ((0 : Int32) + ((f 1) - (f 0)))), .val (.int (2 : Int32))] [(.int (((0 : Int32) + ((f 1) - (f 0))) + ((f 3) - (f 2))))]) _ _ _
    refine Go.istoreN X635 hx (hb hby d_card_29) (l' := #[.val (.ref a), .val (.int (((0 : Int32) + ((f 1) - (f 0))) + ((f 3) - (f 2)))), .val (.int (2 : Int32))]) rfl ?_
    refine Go.iinc X635 hx (hb hby d_card_30) rfl (l' := #[.val (.ref a), .val (.int (((0 : Int32) + ((f 1) - (f 0))) + ((f 3) - (f 2)))), .val (.int (4 : Int32))]) rfl ?_
    show Go _ _ _ _ T635 (mkF m 33 #[.val (.ref a), .val (.int (((0 : Int32) + ((f 1) - (f 0))) + ((f 3) - (f 2)))), .val (.int (4 : Int32))] []) _ _ _
    refine Go.goto X635 hx (hb hby d_card_33) (pc' := 4) (by decide) (by decide) ?_
    show Go _ _ _ _ T635 (mkF m 4 #[.val (.ref a), .val (.int (((0 : Int32) + ((f 1) - (f 0))) + ((f 3) - (f 2)))), .val (.int (4 : Int32))] []) _ _ _
    refine Go.iloadN X635 hx (hb hby d_card_4) rfl ?_
    refine Go.aloadN X635 hx (hb hby d_card_5) rfl rfl ?_
    refine Go.getF X635 hx hZ hown (w31 hw) Via.refl e635 r2 (hb hby d_card_6) ?_
    intro T636 X636 e636
    show Go _ _ _ _ T636 (mkF m 9 #[.val (.ref a), .val (.int (((0 : Int32) + ((f 1) - (f 0))) + ((f 3) - (f 2)))), .val (.int (4 : Int32))] [(.int (4 : Int32)), (.int (4 : Int32))]) _ _ _
    refine Go.icmpYes X636 hx (hb hby d_card_9) (XT.ii_ge_t (by decide)) (pc' := 36) (by decide) (by decide) ?_
    show Go _ _ _ _ T636 (mkF m 36 #[.val (.ref a), .val (.int (((0 : Int32) + ((f 1) - (f 0))) + ((f 3) - (f 2)))), .val (.int (4 : Int32))] []) _ _ _
    refine Go.iloadN X636 hx (hb hby d_card_36) rfl ?_
    refine Go.retI X636 hx hlk hret (hb hby d_card_37) (by decide) (by decide) ?_
    rw [e636]
    exact ⟨(((0 : Int32) + ((f 1) - (f 0))) + ((f 3) - (f 2))), rfl, N0, rfl, Or.inr ⟨f, Or.inr (Or.inl ⟨hA, hM, (card_4 _ _ _ _)⟩)⟩⟩
  · show Go _ _ _ _ s₁ (mkF m 0 #[.val (.ref a), .unset, .unset] []) _ _ _
    refine Go.iconst X0 hx (hb hby d_card_0) ?_
    show Go _ _ _ _ s₁ (mkF m 1 #[.val (.ref a), .unset, .unset] [(.int (0 : Int32))]) _ _ _
    refine Go.istoreN X0 hx (hb hby d_card_1) (l' := #[.val (.ref a), .val (.int (0 : Int32)), .unset]) rfl ?_
    refine Go.iconst X0 hx (hb hby d_card_2) ?_
    show Go _ _ _ _ s₁ (mkF m 3 #[.val (.ref a), .val (.int (0 : Int32)), .unset] [(.int (0 : Int32))]) _ _ _
    refine Go.istoreN X0 hx (hb hby d_card_3) (l' := #[.val (.ref a), .val (.int (0 : Int32)), .val (.int (0 : Int32))]) rfl ?_
    refine Go.iloadN X0 hx (hb hby d_card_4) rfl ?_
    refine Go.aloadN X0 hx (hb hby d_card_5) rfl rfl ?_
    refine Go.getF X0 hx hZ hown (w31 hw) Via.refl e0 r2 (hb hby d_card_6) ?_
    intro T637 X637 e637
    show Go _ _ _ _ T637 (mkF m 9 #[.val (.ref a), .val (.int (0 : Int32)), .val (.int (0 : Int32))] [(.int (6 : Int32)), (.int (0 : Int32))]) _ _ _
    refine Go.icmpNo X637 hx (hb hby d_card_9) (XT.ii_ge_f (by decide)) ?_
    show Go _ _ _ _ T637 (mkF m 12 #[.val (.ref a), .val (.int (0 : Int32)), .val (.int (0 : Int32))] []) _ _ _
    refine Go.iloadN X637 hx (hb hby d_card_12) rfl ?_
    refine Go.aloadN X637 hx (hb hby d_card_13) rfl rfl ?_
    refine Go.getF X637 hx hZ hown (w19 hw) Via.refl e637 r1 (hb hby d_card_14) ?_
    intro T638 X638 e638
    show Go _ _ _ _ T638 (mkF m 17 #[.val (.ref a), .val (.int (0 : Int32)), .val (.int (0 : Int32))] [(.ref aB), (.int (0 : Int32))]) _ _ _
    refine Go.iloadN X638 hx (hb hby d_card_17) rfl ?_
    refine Go.iconst X638 hx (hb hby d_card_18) ?_
    show Go _ _ _ _ T638 (mkF m 19 #[.val (.ref a), .val (.int (0 : Int32)), .val (.int (0 : Int32))] [(.int (1 : Int32)), (.int (0 : Int32)), (.ref aB), (.int (0 : Int32))]) _ _ _
    refine Go.iadd X638 hx (hb hby d_card_19) ?_
    show Go _ _ _ _ T638 (mkF m 20 #[.val (.ref a), .val (.int (0 : Int32)), .val (.int (0 : Int32))] [(.int (1 : Int32)), (.ref aB), (.int (0 : Int32))]) _ _ _
    refine Go.iaload X638 hx hZ e638 r3 (by decide) (by decide) (hb hby d_card_20) ?_
    show Go _ _ _ _ T638 (mkF m 21 #[.val (.ref a), .val (.int (0 : Int32)), .val (.int (0 : Int32))] [(.int (f 1)), (.int (0 : Int32))]) _ _ _
    refine Go.aloadN X638 hx (hb hby d_card_21) rfl rfl ?_
    refine Go.getF X638 hx hZ hown (w19 hw) Via.refl e638 r1 (hb hby d_card_22) ?_
    intro T639 X639 e639
    show Go _ _ _ _ T639 (mkF m 25 #[.val (.ref a), .val (.int (0 : Int32)), .val (.int (0 : Int32))] [(.ref aB), (.int (f 1)), (.int (0 : Int32))]) _ _ _
    refine Go.iloadN X639 hx (hb hby d_card_25) rfl ?_
    refine Go.iaload X639 hx hZ e639 r3 (by decide) (by decide) (hb hby d_card_26) ?_
    show Go _ _ _ _ T639 (mkF m 27 #[.val (.ref a), .val (.int (0 : Int32)), .val (.int (0 : Int32))] [(.int (f 0)), (.int (f 1)), (.int (0 : Int32))]) _ _ _
    refine Go.isub X639 hx (hb hby d_card_27) ?_
    show Go _ _ _ _ T639 (mkF m 28 #[.val (.ref a), .val (.int (0 : Int32)), .val (.int (0 : Int32))] [(.int ((f 1) - (f 0))), (.int (0 : Int32))]) _ _ _
    refine Go.iadd X639 hx (hb hby d_card_28) ?_
    show Go _ _ _ _ T639 (mkF m 29 #[.val (.ref a), .val (.int (0 : Int32)), .val (.int (0 : Int32))] [(.int ((0 : Int32) + ((f 1) - (f 0))))]) _ _ _
    refine Go.istoreN X639 hx (hb hby d_card_29) (l' := #[.val (.ref a), .val (.int ((0 : Int32) + ((f 1) - (f 0)))), .val (.int (0 : Int32))]) rfl ?_
    refine Go.iinc X639 hx (hb hby d_card_30) rfl (l' := #[.val (.ref a), .val (.int ((0 : Int32) + ((f 1) - (f 0)))), .val (.int (2 : Int32))]) rfl ?_
    show Go _ _ _ _ T639 (mkF m 33 #[.val (.ref a), .val (.int ((0 : Int32) + ((f 1) - (f 0)))), .val (.int (2 : Int32))] []) _ _ _
    refine Go.goto X639 hx (hb hby d_card_33) (pc' := 4) (by decide) (by decide) ?_
    show Go _ _ _ _ T639 (mkF m 4 #[.val (.ref a), .val (.int ((0 : Int32) + ((f 1) - (f 0)))), .val (.int (2 : Int32))] []) _ _ _
    refine Go.iloadN X639 hx (hb hby d_card_4) rfl ?_
    refine Go.aloadN X639 hx (hb hby d_card_5) rfl rfl ?_
    refine Go.getF X639 hx hZ hown (w31 hw) Via.refl e639 r2 (hb hby d_card_6) ?_
    intro T640 X640 e640
    show Go _ _ _ _ T640 (mkF m 9 #[.val (.ref a), .val (.int ((0 : Int32) + ((f 1) - (f 0)))), .val (.int (2 : Int32))] [(.int (6 : Int32)), (.int (2 : Int32))]) _ _ _
    refine Go.icmpNo X640 hx (hb hby d_card_9) (XT.ii_ge_f (by decide)) ?_
    show Go _ _ _ _ T640 (mkF m 12 #[.val (.ref a), .val (.int ((0 : Int32) + ((f 1) - (f 0)))), .val (.int (2 : Int32))] []) _ _ _
    refine Go.iloadN X640 hx (hb hby d_card_12) rfl ?_
    refine Go.aloadN X640 hx (hb hby d_card_13) rfl rfl ?_
    refine Go.getF X640 hx hZ hown (w19 hw) Via.refl e640 r1 (hb hby d_card_14) ?_
    intro T641 X641 e641
    show Go _ _ _ _ T641 (mkF m 17 #[.val (.ref a), .val (.int ((0 : Int32) + ((f 1) - (f 0)))), .val (.int (2 : Int32))] [(.ref aB), (.int ((0 : Int32) + ((f 1) - (f 0))))]) _ _ _
    refine Go.iloadN X641 hx (hb hby d_card_17) rfl ?_
    refine Go.iconst X641 hx (hb hby d_card_18) ?_
    show Go _ _ _ _ T641 (mkF m 19 #[.val (.ref a), .val (.int ((0 : Int32) + ((f 1) - (f 0)))), .val (.int (2 : Int32))] [(.int (1 : Int32)), (.int (2 : Int32)), (.ref aB), (.int ((0 : Int32) + ((f 1) - (f 0))))]) _ _ _
    refine Go.iadd X641 hx (hb hby d_card_19) ?_
    show Go _ _ _ _ T641 (mkF m 20 #[.val (.ref a), .val (.int ((0 : Int32) + ((f 1) - (f 0)))), .val (.int (2 : Int32))] [(.int (3 : Int32)), (.ref aB), (.int ((0 : Int32) + ((f 1) - (f 0))))]) _ _ _
    refine Go.iaload X641 hx hZ e641 r3 (by decide) (by decide) (hb hby d_card_20) ?_
    show Go _ _ _ _ T641 (mkF m 21 #[.val (.ref a), .val (.int ((0 : Int32) + ((f 1) - (f 0)))), .val (.int (2 : Int32))] [(.int (f 3)), (.int ((0 : Int32) + ((f 1) - (f 0))))]) _ _ _
    refine Go.aloadN X641 hx (hb hby d_card_21) rfl rfl ?_
    refine Go.getF X641 hx hZ hown (w19 hw) Via.refl e641 r1 (hb hby d_card_22) ?_
    intro T642 X642 e642
    show Go _ _ _ _ T642 (mkF m 25 #[.val (.ref a), .val (.int ((0 : Int32) + ((f 1) - (f 0)))), .val (.int (2 : Int32))] [(.ref aB), (.int (f 3)), (.int ((0 : Int32) + ((f 1) - (f 0))))]) _ _ _
    refine Go.iloadN X642 hx (hb hby d_card_25) rfl ?_
    refine Go.iaload X642 hx hZ e642 r3 (by decide) (by decide) (hb hby d_card_26) ?_
    show Go _ _ _ _ T642 (mkF m 27 #[.val (.ref a), .val (.int ((0 : Int32) + ((f 1) - (f 0)))), .val (.int (2 : Int32))] [(.int (f 2)), (.int (f 3)), (.int ((0 : Int32) + ((f 1) - (f 0))))]) _ _ _
    refine Go.isub X642 hx (hb hby d_card_27) ?_
    show Go _ _ _ _ T642 (mkF m 28 #[.val (.ref a), .val (.int ((0 : Int32) + ((f 1) - (f 0)))), .val (.int (2 : Int32))] [(.int ((f 3) - (f 2))), (.int ((0 : Int32) + ((f 1) - (f 0))))]) _ _ _
    refine Go.iadd X642 hx (hb hby d_card_28) ?_
    show Go _ _ _ _ T642 (mkF m 29 #[.val (.ref a), .val (.int ((0 : Int32) + ((f 1) - (f 0)))), .val (.int (2 : Int32))] [(.int (((0 : Int32) + ((f 1) - (f 0))) + ((f 3) - (f 2))))]) _ _ _
    refine Go.istoreN X642 hx (hb hby d_card_29) (l' := #[.val (.ref a), .val (.int (((0 : Int32) + ((f 1) - (f 0))) + ((f 3) - (f 2)))), .val (.int (2 : Int32))]) rfl ?_
    refine Go.iinc X642 hx (hb hby d_card_30) rfl (l' := #[.val (.ref a), .val (.int (((0 : Int32) + ((f 1) - (f 0))) + ((f 3) - (f 2)))), .val (.int (4 : Int32))]) rfl ?_
    show Go _ _ _ _ T642 (mkF m 33 #[.val (.ref a), .val (.int (((0 : Int32) + ((f 1) - (f 0))) + ((f 3) - (f 2)))), .val (.int (4 : Int32))] []) _ _ _
    refine Go.goto X642 hx (hb hby d_card_33) (pc' := 4) (by decide) (by decide) ?_
    show Go _ _ _ _ T642 (mkF m 4 #[.val (.ref a), .val (.int (((0 : Int32) + ((f 1) - (f 0))) + ((f 3) - (f 2)))), .val (.int (4 : Int32))] []) _ _ _
    refine Go.iloadN X642 hx (hb hby d_card_4) rfl ?_
    refine Go.aloadN X642 hx (hb hby d_card_5) rfl rfl ?_
    refine Go.getF X642 hx hZ hown (w31 hw) Via.refl e642 r2 (hb hby d_card_6) ?_
    intro T643 X643 e643
    show Go _ _ _ _ T643 (mkF m 9 #[.val (.ref a), .val (.int (((0 : Int32) + ((f 1) - (f 0))) + ((f 3) - (f 2)))), .val (.int (4 : Int32))] [(.int (6 : Int32)), (.int (4 : Int32))]) _ _ _
    refine Go.icmpNo X643 hx (hb hby d_card_9) (XT.ii_ge_f (by decide)) ?_
    show Go _ _ _ _ T643 (mkF m 12 #[.val (.ref a), .val (.int (((0 : Int32) + ((f 1) - (f 0))) + ((f 3) - (f 2)))), .val (.int (4 : Int32))] []) _ _ _
    refine Go.iloadN X643 hx (hb hby d_card_12) rfl ?_
    refine Go.aloadN X643 hx (hb hby d_card_13) rfl rfl ?_
    refine Go.getF X643 hx hZ hown (w19 hw) Via.refl e643 r1 (hb hby d_card_14) ?_
    intro T644 X644 e644
    show Go _ _ _ _ T644 (mkF m 17 #[.val (.ref a), .val (.int (((0 : Int32) + ((f 1) - (f 0))) + ((f 3) - (f 2)))), .val (.int (4 : Int32))] [(.ref aB), (.int (((0 : Int32) + ((f 1) - (f 0))) + ((f 3) - (f 2))))]) _ _ _
    refine Go.iloadN X644 hx (hb hby d_card_17) rfl ?_
    refine Go.iconst X644 hx (hb hby d_card_18) ?_
    show Go _ _ _ _ T644 (mkF m 19 #[.val (.ref a), .val (.int (((0 : Int32) + ((f 1) - (f 0))) + ((f 3) - (f 2)))), .val (.int (4 : Int32))] [(.int (1 : Int32)), (.int (4 : Int32)), (.ref aB), (.int (((0 : Int32) + ((f 1) - (f 0))) + ((f 3) - (f 2))))]) _ _ _
    refine Go.iadd X644 hx (hb hby d_card_19) ?_
    show Go _ _ _ _ T644 (mkF m 20 #[.val (.ref a), .val (.int (((0 : Int32) + ((f 1) - (f 0))) + ((f 3) - (f 2)))), .val (.int (4 : Int32))] [(.int (5 : Int32)), (.ref aB), (.int (((0 : Int32) + ((f 1) - (f 0))) + ((f 3) - (f 2))))]) _ _ _
    refine Go.iaload X644 hx hZ e644 r3 (by decide) (by decide) (hb hby d_card_20) ?_
    show Go _ _ _ _ T644 (mkF m 21 #[.val (.ref a), .val (.int (((0 : Int32) + ((f 1) - (f 0))) + ((f 3) - (f 2)))), .val (.int (4 : Int32))] [(.int (f 5)), (.int (((0 : Int32) + ((f 1) - (f 0))) + ((f 3) - (f 2))))]) _ _ _
    refine Go.aloadN X644 hx (hb hby d_card_21) rfl rfl ?_
    refine Go.getF X644 hx hZ hown (w19 hw) Via.refl e644 r1 (hb hby d_card_22) ?_
    intro T645 X645 e645
    show Go _ _ _ _ T645 (mkF m 25 #[.val (.ref a), .val (.int (((0 : Int32) + ((f 1) - (f 0))) + ((f 3) - (f 2)))), .val (.int (4 : Int32))] [(.ref aB), (.int (f 5)), (.int (((0 : Int32) + ((f 1) - (f 0))) + ((f 3) - (f 2))))]) _ _ _
    refine Go.iloadN X645 hx (hb hby d_card_25) rfl ?_
    refine Go.iaload X645 hx hZ e645 r3 (by decide) (by decide) (hb hby d_card_26) ?_
    show Go _ _ _ _ T645 (mkF m 27 #[.val (.ref a), .val (.int (((0 : Int32) + ((f 1) - (f 0))) + ((f 3) - (f 2)))), .val (.int (4 : Int32))] [(.int (f 4)), (.int (f 5)), (.int (((0 : Int32) + ((f 1) - (f 0))) + ((f 3) - (f 2))))]) _ _ _
    refine Go.isub X645 hx (hb hby d_card_27) ?_
    show Go _ _ _ _ T645 (mkF m 28 #[.val (.ref a), .val (.int (((0 : Int32) + ((f 1) - (f 0))) + ((f 3) - (f 2)))), .val (.int (4 : Int32))] [(.int ((f 5) - (f 4))), (.int (((0 : Int32) + ((f 1) - (f 0))) + ((f 3) - (f 2))))]) _ _ _
    refine Go.iadd X645 hx (hb hby d_card_28) ?_
    show Go _ _ _ _ T645 (mkF m 29 #[.val (.ref a), .val (.int (((0 : Int32) + ((f 1) - (f 0))) + ((f 3) - (f 2)))), .val (.int (4 : Int32))] [(.int ((((0 : Int32) + ((f 1) - (f 0))) + ((f 3) - (f 2))) + ((f 5) - (f 4))))]) _ _ _
    refine Go.istoreN X645 hx (hb hby d_card_29) (l' := #[.val (.ref a), .val (.int ((((0 : Int32) + ((f 1) - (f 0))) + ((f 3) - (f 2))) + ((f 5) - (f 4)))), .val (.int (4 : Int32))]) rfl ?_
    refine Go.iinc X645 hx (hb hby d_card_30) rfl (l' := #[.val (.ref a), .val (.int ((((0 : Int32) + ((f 1) - (f 0))) + ((f 3) - (f 2))) + ((f 5) - (f 4)))), .val (.int (6 : Int32))]) rfl ?_
    show Go _ _ _ _ T645 (mkF m 33 #[.val (.ref a), .val (.int ((((0 : Int32) + ((f 1) - (f 0))) + ((f 3) - (f 2))) + ((f 5) - (f 4)))), .val (.int (6 : Int32))] []) _ _ _
    refine Go.goto X645 hx (hb hby d_card_33) (pc' := 4) (by decide) (by decide) ?_
    show Go _ _ _ _ T645 (mkF m 4 #[.val (.ref a), .val (.int ((((0 : Int32) + ((f 1) - (f 0))) + ((f 3) - (f 2))) + ((f 5) - (f 4)))), .val (.int (6 : Int32))] []) _ _ _
    refine Go.iloadN X645 hx (hb hby d_card_4) rfl ?_
    refine Go.aloadN X645 hx (hb hby d_card_5) rfl rfl ?_
    refine Go.getF X645 hx hZ hown (w31 hw) Via.refl e645 r2 (hb hby d_card_6) ?_
    intro T646 X646 e646
    show Go _ _ _ _ T646 (mkF m 9 #[.val (.ref a), .val (.int ((((0 : Int32) + ((f 1) - (f 0))) + ((f 3) - (f 2))) + ((f 5) - (f 4)))), .val (.int (6 : Int32))] [(.int (6 : Int32)), (.int (6 : Int32))]) _ _ _
    refine Go.icmpYes X646 hx (hb hby d_card_9) (XT.ii_ge_t (by decide)) (pc' := 36) (by decide) (by decide) ?_
    show Go _ _ _ _ T646 (mkF m 36 #[.val (.ref a), .val (.int ((((0 : Int32) + ((f 1) - (f 0))) + ((f 3) - (f 2))) + ((f 5) - (f 4)))), .val (.int (6 : Int32))] []) _ _ _
    refine Go.iloadN X646 hx (hb hby d_card_36) rfl ?_
    refine Go.retI X646 hx hlk hret (hb hby d_card_37) (by decide) (by decide) ?_
    rw [e646]
    exact ⟨((((0 : Int32) + ((f 1) - (f 0))) + ((f 3) - (f 2))) + ((f 5) - (f 4))), rfl, N0, rfl, Or.inr ⟨f, Or.inr (Or.inr ⟨hA, hM, (card_6 _ _ _ _ _ _)⟩)⟩⟩
theorem own_pair (p q : Int32) {u v : Int32} (gu : u = F_min (p &&& (2147483647 : Int32)) (q &&& (2147483647 : Int32))) (gv : v = F_max (p &&& (2147483647 : Int32)) (q &&& (2147483647 : Int32))) : 0 ≤ u.toInt ∧ u.toInt ≤ v.toInt := by
  have m1 : (p &&& (2147483647 : Int32)).toInt = p.toInt % 2 ^ 31 := Jvm.Kit.i32_mask p _ (k := 31) (by decide) (by decide)
  have m2 : (q &&& (2147483647 : Int32)).toInt = q.toInt % 2 ^ 31 := Jvm.Kit.i32_mask q _ (k := 31) (by decide) (by decide)
  have s1 := min_spec (p &&& (2147483647 : Int32)) (q &&& (2147483647 : Int32))
  have s2 := max_spec (p &&& (2147483647 : Int32)) (q &&& (2147483647 : Int32))
  rw [← gu] at s1; rw [← gv] at s2
  omega
theorem len_spec {a b : Int32} (ha : 0 ≤ a.toInt) (hb : 0 ≤ b.toInt) : (F_len a b).toInt = lenI a.toInt b.toInt := by
  have h1 := Int32.toInt_lt a
  have h2 := Int32.toInt_lt b
  unfold F_len lenI
  by_cases h : a < b
  · rw [if_pos h]
    rw [Int32.lt_iff_toInt_lt] at h
    rw [if_pos h, Jvm.Kit.i64_sub (by rw [Jvm.Kit.i64_of_i32, Jvm.Kit.i64_of_i32]; omega) (by rw [Jvm.Kit.i64_of_i32, Jvm.Kit.i64_of_i32]; omega), Jvm.Kit.i64_of_i32, Jvm.Kit.i64_of_i32]
  · rw [if_neg h]
    rw [Int32.lt_iff_toInt_lt] at h
    rw [if_neg h]; rfl
theorem lenI_b {a b : Int} (ha : 0 ≤ a) (hb : b < 2 ^ 31) : 0 ≤ lenI a b ∧ lenI a b < 2 ^ 31 := by unfold lenI; split <;> omega
theorem max_eq (a b : Int32) : (F_max a b).toInt = max a.toInt b.toInt := by have := max_spec a b; omega
theorem min_eq (a b : Int32) : (F_min a b).toInt = min a.toInt b.toInt := by have := min_spec a b; omega
theorem card_cnt {M : Int → Prop} {r : Int32} (g : Int → Int) (hg : ∀ n, (M n → g n = 1) ∧ (¬ M n → g n = 0)) (H : CardOf M r) : r.toInt = cnt g 2147483648 := by
  rcases H with ⟨h, rfl⟩ | ⟨f, ⟨a, h, rfl⟩ | ⟨a, h, rfl⟩ | ⟨a, h, rfl⟩⟩
  · rw [runs_cnt (u := 0) (v := 0) (w := 0) (x := 0) (y := 0) (z := 0) g hg (by omega) (by omega) (by omega) (by omega) (by omega) (by omega) (fun n => ⟨fun q => absurd q (h n), fun q => by omega⟩) (by omega)]; rfl
  · obtain ⟨q0, q1, hM⟩ := of2 a h
    have l1 := Int32.toInt_lt (f 1)
    rw [runs_cnt (u := (f 0).toInt) (v := (f 1).toInt) (w := (f 1).toInt) (x := (f 1).toInt) (y := (f 1).toInt) (z := (f 1).toInt) g hg q0 (by omega) (by omega) (by omega) (by omega) (by omega) (fun n => (hM n).trans (by omega)) (by omega)]
    rw [Jvm.Kit.i32_sub (by omega) (by omega)]; omega
  · obtain ⟨q0, q1, q2, q3, hM⟩ := of4 a h
    have l1 := Int32.toInt_lt (f 3)
    rw [runs_cnt (u := (f 0).toInt) (v := (f 1).toInt) (w := (f 2).toInt) (x := (f 3).toInt) (y := (f 3).toInt) (z := (f 3).toInt) g hg q0 (by omega) (by omega) (by omega) (by omega) (by omega) (fun n => (hM n).trans (by omega)) (by omega)]
    have e1 : (f 1 - f 0).toInt = (f 1).toInt - (f 0).toInt := Jvm.Kit.i32_sub (by omega) (by omega)
    have e2 : (f 3 - f 2).toInt = (f 3).toInt - (f 2).toInt := Jvm.Kit.i32_sub (by omega) (by omega)
    rw [Jvm.Kit.i32_add (by omega) (by omega), e1, e2]; omega
  · obtain ⟨q0, q1, q2, q3, q4, q5, hM⟩ := of6 a h
    have l1 := Int32.toInt_lt (f 5)
    rw [runs_cnt (u := (f 0).toInt) (v := (f 1).toInt) (w := (f 2).toInt) (x := (f 3).toInt) (y := (f 4).toInt) (z := (f 5).toInt) g hg q0 (by omega) (by omega) (by omega) (by omega) (by omega) hM (by omega)]
    have e1 : (f 1 - f 0).toInt = (f 1).toInt - (f 0).toInt := Jvm.Kit.i32_sub (by omega) (by omega)
    have e2 : (f 3 - f 2).toInt = (f 3).toInt - (f 2).toInt := Jvm.Kit.i32_sub (by omega) (by omega)
    have e3 : (f 5 - f 4).toInt = (f 5).toInt - (f 4).toInt := Jvm.Kit.i32_sub (by omega) (by omega)
    have e4 : (f 1 - f 0 + (f 3 - f 2)).toInt = (f 1).toInt - (f 0).toInt + ((f 3).toInt - (f 2).toInt) := by rw [Jvm.Kit.i32_add (by omega) (by omega), e1, e2]
    rw [Jvm.Kit.i32_add (by omega) (by omega), e4, e3]
theorem own_final {a0 a1 b0 b1 c0 c1 r : Int32} (ha : 0 ≤ a0.toInt) (ha' : a0.toInt ≤ a1.toInt) (hb : 0 ≤ b0.toInt) (hb' : b0.toInt ≤ b1.toInt) (hc : 0 ≤ c0.toInt) (hc' : c0.toInt ≤ c1.toInt) (H : CardOf (ADD (ADD (ADD (fun _ => False) a0 a1) b0 b1) c0 c1) r) :
    r.toInt64 = (((((F_len a0 a1 + F_len b0 b1) + F_len c0 c1) - F_len (F_max a0 b0) (F_min a1 b1)) - F_len (F_max a0 c0) (F_min a1 c1)) - F_len (F_max b0 c0) (F_min b1 c1)) + F_len (F_max a0 (F_max b0 c0)) (F_min a1 (F_min b1 c1)) := by
  classical
  let g : Int → Int := fun n => if (ADD (ADD (ADD (fun _ => False) a0 a1) b0 b1) c0 c1) n then 1 else 0
  have hg : ∀ n, ((ADD (ADD (ADD (fun _ => False) a0 a1) b0 b1) c0 c1) n → g n = 1) ∧ (¬ (ADD (ADD (ADD (fun _ => False) a0 a1) b0 b1) c0 c1) n → g n = 0) := fun n => ⟨fun h => if_pos h, fun h => if_neg h⟩
  have e := card_cnt g hg H
  have la := Int32.toInt_lt a1
  have lb := Int32.toInt_lt b1
  have lc := Int32.toInt_lt c1
  have i := incl_cnt (a0 := a0.toInt) (a1 := a1.toInt) (b0 := b0.toInt) (b1 := b1.toInt) (c0 := c0.toInt) (c1 := c1.toInt) ha hb hc g hg (fun n => by simp only [ADD, false_or]) (N := 2147483648) (by omega) (by omega) (by omega)
  rw [← e] at i
  have x1 := lenI_b ha la
  have x2 := lenI_b hb lb
  have x3 := lenI_b hc lc
  have x4 := lenI_b (a := max a0.toInt b0.toInt) (b := min a1.toInt b1.toInt) (by omega) (by omega)
  have x5 := lenI_b (a := max a0.toInt c0.toInt) (b := min a1.toInt c1.toInt) (by omega) (by omega)
  have x6 := lenI_b (a := max b0.toInt c0.toInt) (b := min b1.toInt c1.toInt) (by omega) (by omega)
  have x7 := lenI_b (a := max a0.toInt (max b0.toInt c0.toInt)) (b := min a1.toInt (min b1.toInt c1.toInt)) (by omega) (by omega)
  have l1 := len_spec (a := a0) (b := a1) ha (by omega)
  have l2 := len_spec (a := b0) (b := b1) hb (by omega)
  have l3 := len_spec (a := c0) (b := c1) hc (by omega)
  have l4 := len_spec (a := F_max a0 b0) (b := F_min a1 b1) (by rw [max_eq]; omega) (by rw [min_eq]; omega)
  have l5 := len_spec (a := F_max a0 c0) (b := F_min a1 c1) (by rw [max_eq]; omega) (by rw [min_eq]; omega)
  have l6 := len_spec (a := F_max b0 c0) (b := F_min b1 c1) (by rw [max_eq]; omega) (by rw [min_eq]; omega)
  have l7 := len_spec (a := F_max a0 (F_max b0 c0)) (b := F_min a1 (F_min b1 c1)) (by rw [max_eq, max_eq]; omega) (by rw [min_eq, min_eq]; omega)
  simp only [max_eq, min_eq] at l4 l5 l6 l7
  generalize F_len a0 a1 = y1 at *
  generalize F_len b0 b1 = y2 at *
  generalize F_len c0 c1 = y3 at *
  generalize F_len (F_max a0 b0) (F_min a1 b1) = y4 at *
  generalize F_len (F_max a0 c0) (F_min a1 c1) = y5 at *
  generalize F_len (F_max b0 c0) (F_min b1 c1) = y6 at *
  generalize F_len (F_max a0 (F_max b0 c0)) (F_min a1 (F_min b1 c1)) = y7 at *
  rw [← l1] at x1 i; rw [← l2] at x2 i; rw [← l3] at x3 i; rw [← l4] at x4 i; rw [← l5] at x5 i; rw [← l6] at x6 i; rw [← l7] at x7 i
  apply Int64.toInt_inj.mp
  have s1 : (y1 + y2).toInt = y1.toInt + y2.toInt := Jvm.Kit.i64_add (by omega) (by omega)
  have s2 : (y1 + y2 + y3).toInt = y1.toInt + y2.toInt + y3.toInt := by rw [Jvm.Kit.i64_add (by omega) (by omega), s1]
  have s3 : (y1 + y2 + y3 - y4).toInt = y1.toInt + y2.toInt + y3.toInt - y4.toInt := by rw [Jvm.Kit.i64_sub (by omega) (by omega), s2]
  have s4 : (y1 + y2 + y3 - y4 - y5).toInt = y1.toInt + y2.toInt + y3.toInt - y4.toInt - y5.toInt := by rw [Jvm.Kit.i64_sub (by omega) (by omega), s3]
  have s5 : (y1 + y2 + y3 - y4 - y5 - y6).toInt = y1.toInt + y2.toInt + y3.toInt - y4.toInt - y5.toInt - y6.toInt := by rw [Jvm.Kit.i64_sub (by omega) (by omega), s4]
  rw [Jvm.Kit.i64_add (by omega) (by omega), s5, Jvm.Kit.i64_of_i32]
  exact i
def Q_law (Z : State) (p0 : Int32) (p1 : Int32) (p2 : Int32) (p3 : Int32) (p4 : Int32) (p5 : Int32) (no : Addr) (kn : ClassId) (fn : Nat → Value) (h0 : Heap) (n0 : Nat) (v : Option Value) (h : Heap) (L : List Loc) : Prop := v = some (.int (1 : Int32)) ∧ Fr n0 L
theorem ef_law (m : MethodId) (x0 : Int32) (x1 : Int32) (x2 : Int32) (x3 : Int32) (x4 : Int32) (x5 : Int32) : entryFrame m #[(.int x0), (.int x1), (.int x2), (.int x3), (.int x4), (.int x5)] maxLocals = mkF m 0 #[.val (.int x0), .val (.int x1), .val (.int x2), .val (.int x3), .val (.int x4), .val (.int x5), .unset, .unset, .unset, .unset, .unset, .unset, .unset, .unset, .unset] [] := by first | (simp [entryFrame, mkF, argsToLocals, Value.category, maxLocals]; done) | rfl
set_option maxRecDepth 65536 in
set_option maxHeartbeats 40000000 in
theorem rm_law (l : Launch) (Z : State) (a0 : Array Value) (hw : ∀ d ∈ tables_1, d.before a0 Z = true) (ws : List Jvm.Cond) (p0 : Int32) (p1 : Int32) (p2 : Int32) (p3 : Int32) (p4 : Int32) (p5 : Int32) (no : Addr) (kn : ClassId) (fn : Nat → Value) (h0 : Heap) (n0 : Nat) (Z0 : n0 ≤ h0.size) (f0 : Sta Z h0 "com/example/collate/collate/analysis/AtomSet" "NONE" "[I" (.ref no)) (f1 : Af Z h0 no kn .int 0 (fn)) :
    Met l Z x code maxLocals ret ws room_1 #[(.int p0), (.int p1), (.int p2), (.int p3), (.int p4), (.int p5)] h0 (Q_law Z p0 p1 p2 p3 p4 p5 no kn fn h0 n0) := by
  refine Met.of (plainFor_of_name pn_law) ?_
  intro p e s m below meth c s₁ X0 hx hby hml hZ hown hnm e0 hret hlk
  refine Go.cast (ef_law m p0 p1 p2 p3 p4 p5) ?_
  show Go _ _ _ _ s₁ (mkF m 0 #[.val (.int p0), .val (.int p1), .val (.int p2), .val (.int p3), .val (.int p4), .val (.int p5), .unset, .unset, .unset, .unset, .unset, .unset, .unset, .unset, .unset] []) _ _ _
  have N0 := Fr.nil n0
  refine Go.iloadN X0 hx (hb hby at_0) rfl ?_
  refine Go.ldc X0 hx hZ hown (w0 hw) (hb hby at_1) ?_
  show Go _ _ _ _ s₁ (mkF m 3 #[.val (.int p0), .val (.int p1), .val (.int p2), .val (.int p3), .val (.int p4), .val (.int p5), .unset, .unset, .unset, .unset, .unset, .unset, .unset, .unset, .unset] [(.int (2147483647 : Int32)), (.int p0)]) _ _ _
  refine Go.iand X0 hx (hb hby at_3) ?_
  show Go _ _ _ _ s₁ (mkF m 4 #[.val (.int p0), .val (.int p1), .val (.int p2), .val (.int p3), .val (.int p4), .val (.int p5), .unset, .unset, .unset, .unset, .unset, .unset, .unset, .unset, .unset] [(.int (p0 &&& (2147483647 : Int32)))]) _ _ _
  refine Go.iloadN X0 hx (hb hby at_4) rfl ?_
  refine Go.ldc X0 hx hZ hown (w0 hw) (hb hby at_5) ?_
  show Go _ _ _ _ s₁ (mkF m 7 #[.val (.int p0), .val (.int p1), .val (.int p2), .val (.int p3), .val (.int p4), .val (.int p5), .unset, .unset, .unset, .unset, .unset, .unset, .unset, .unset, .unset] [(.int (2147483647 : Int32)), (.int p1), (.int (p0 &&& (2147483647 : Int32)))]) _ _ _
  refine Go.iand X0 hx (hb hby at_7) ?_
  show Go _ _ _ _ s₁ (mkF m 8 #[.val (.int p0), .val (.int p1), .val (.int p2), .val (.int p3), .val (.int p4), .val (.int p5), .unset, .unset, .unset, .unset, .unset, .unset, .unset, .unset, .unset] [(.int (p1 &&& (2147483647 : Int32))), (.int (p0 &&& (2147483647 : Int32)))]) _ _ _
  refine Go.callS (W := 0) (argsL := [(.int (p0 &&& (2147483647 : Int32))), (.int (p1 &&& (2147483647 : Int32)))]) (rest := []) X0 hx hZ hown (w1 hw) (w2 hw) (w3 hw) (w4 hw) (by decide) (rm_min l Z a0 hw ((p0 &&& (2147483647 : Int32))) ((p1 &&& (2147483647 : Int32))) h0) e0 (lenOf pd_0 rfl) (hb hby at_8) (by rw [hml]; rfl) rfl (Nat.le_of_eq rfl) (by decide) (by decide) (by decide) (by decide) ?_
  intro v647 T647 L647 X647 q647
  obtain ⟨rfl, rfl, e647⟩ := q647
  have N647 := Fr.app N0 (Fr.nil n0)
  show Go _ _ _ _ T647 (mkF m 11 #[.val (.int p0), .val (.int p1), .val (.int p2), .val (.int p3), .val (.int p4), .val (.int p5), .unset, .unset, .unset, .unset, .unset, .unset, .unset, .unset, .unset] [(.int (F_min (p0 &&& (2147483647 : Int32)) (p1 &&& (2147483647 : Int32))))]) _ _ _
  refine Go.istore X647 hx (hb hby at_11) (l' := #[.val (.int p0), .val (.int p1), .val (.int p2), .val (.int p3), .val (.int p4), .val (.int p5), .val (.int (F_min (p0 &&& (2147483647 : Int32)) (p1 &&& (2147483647 : Int32)))), .unset, .unset, .unset, .unset, .unset, .unset, .unset, .unset]) rfl ?_
  show Go _ _ _ _ T647 (mkF m 13 #[.val (.int p0), .val (.int p1), .val (.int p2), .val (.int p3), .val (.int p4), .val (.int p5), .val (.int (F_min (p0 &&& (2147483647 : Int32)) (p1 &&& (2147483647 : Int32)))), .unset, .unset, .unset, .unset, .unset, .unset, .unset, .unset] []) _ _ _
  refine (show ∀ va0 : Int32, va0 = (F_min (p0 &&& (2147483647 : Int32)) (p1 &&& (2147483647 : Int32))) → Go _ _ _ _ T647 (mkF m 13 #[.val (.int p0), .val (.int p1), .val (.int p2), .val (.int p3), .val (.int p4), .val (.int p5), .val (.int va0), .unset, .unset, .unset, .unset, .unset, .unset, .unset, .unset] []) _ _ _ from ?_) _ rfl
  intro va0 g_va0
  refine Go.iloadN X647 hx (hb hby at_13) rfl ?_
  refine Go.ldc X647 hx hZ hown (w0 hw) (hb hby at_14) ?_
  show Go _ _ _ _ T647 (mkF m 16 #[.val (.int p0), .val (.int p1), .val (.int p2), .val (.int p3), .val (.int p4), .val (.int p5), .val (.int va0), .unset, .unset, .unset, .unset, .unset, .unset, .unset, .unset] [(.int (2147483647 : Int32)), (.int p0)]) _ _ _
  refine Go.iand X647 hx (hb hby at_16) ?_
  show Go _ _ _ _ T647 (mkF m 17 #[.val (.int p0), .val (.int p1), .val (.int p2), .val (.int p3), .val (.int p4), .val (.int p5), .val (.int va0), .unset, .unset, .unset, .unset, .unset, .unset, .unset, .unset] [(.int (p0 &&& (2147483647 : Int32)))]) _ _ _
  refine Go.iloadN X647 hx (hb hby at_17) rfl ?_
  refine Go.ldc X647 hx hZ hown (w0 hw) (hb hby at_18) ?_
  show Go _ _ _ _ T647 (mkF m 20 #[.val (.int p0), .val (.int p1), .val (.int p2), .val (.int p3), .val (.int p4), .val (.int p5), .val (.int va0), .unset, .unset, .unset, .unset, .unset, .unset, .unset, .unset] [(.int (2147483647 : Int32)), (.int p1), (.int (p0 &&& (2147483647 : Int32)))]) _ _ _
  refine Go.iand X647 hx (hb hby at_20) ?_
  show Go _ _ _ _ T647 (mkF m 21 #[.val (.int p0), .val (.int p1), .val (.int p2), .val (.int p3), .val (.int p4), .val (.int p5), .val (.int va0), .unset, .unset, .unset, .unset, .unset, .unset, .unset, .unset] [(.int (p1 &&& (2147483647 : Int32))), (.int (p0 &&& (2147483647 : Int32)))]) _ _ _
  refine Go.callS (W := 0) (argsL := [(.int (p0 &&& (2147483647 : Int32))), (.int (p1 &&& (2147483647 : Int32)))]) (rest := []) X647 hx hZ hown (w5 hw) (w6 hw) (w3 hw) (w7 hw) (by decide) (rm_max l Z a0 hw ((p0 &&& (2147483647 : Int32))) ((p1 &&& (2147483647 : Int32))) h0) e647 (lenOf pd_0 rfl) (hb hby at_21) (by rw [hml]; rfl) rfl (Nat.le_of_eq rfl) (by decide) (by decide) (by decide) (by decide) ?_
  intro v648 T648 L648 X648 q648
  obtain ⟨rfl, rfl, e648⟩ := q648
  have N648 := Fr.app N647 (Fr.nil n0)
  show Go _ _ _ _ T648 (mkF m 24 #[.val (.int p0), .val (.int p1), .val (.int p2), .val (.int p3), .val (.int p4), .val (.int p5), .val (.int va0), .unset, .unset, .unset, .unset, .unset, .unset, .unset, .unset] [(.int (F_max (p0 &&& (2147483647 : Int32)) (p1 &&& (2147483647 : Int32))))]) _ _ _
  refine Go.istore X648 hx (hb hby at_24) (l' := #[.val (.int p0), .val (.int p1), .val (.int p2), .val (.int p3), .val (.int p4), .val (.int p5), .val (.int va0), .val (.int (F_max (p0 &&& (2147483647 : Int32)) (p1 &&& (2147483647 : Int32)))), .unset, .unset, .unset, .unset, .unset, .unset, .unset]) rfl ?_
  show Go _ _ _ _ T648 (mkF m 26 #[.val (.int p0), .val (.int p1), .val (.int p2), .val (.int p3), .val (.int p4), .val (.int p5), .val (.int va0), .val (.int (F_max (p0 &&& (2147483647 : Int32)) (p1 &&& (2147483647 : Int32)))), .unset, .unset, .unset, .unset, .unset, .unset, .unset] []) _ _ _
  refine (show ∀ va1 : Int32, va1 = (F_max (p0 &&& (2147483647 : Int32)) (p1 &&& (2147483647 : Int32))) → Go _ _ _ _ T648 (mkF m 26 #[.val (.int p0), .val (.int p1), .val (.int p2), .val (.int p3), .val (.int p4), .val (.int p5), .val (.int va0), .val (.int va1), .unset, .unset, .unset, .unset, .unset, .unset, .unset] []) _ _ _ from ?_) _ rfl
  intro va1 g_va1
  have b_a : 0 ≤ va0.toInt ∧ va0.toInt ≤ va1.toInt := own_pair p0 p1 g_va0 g_va1
  refine Go.iloadN X648 hx (hb hby at_26) rfl ?_
  refine Go.ldc X648 hx hZ hown (w0 hw) (hb hby at_27) ?_
  show Go _ _ _ _ T648 (mkF m 29 #[.val (.int p0), .val (.int p1), .val (.int p2), .val (.int p3), .val (.int p4), .val (.int p5), .val (.int va0), .val (.int va1), .unset, .unset, .unset, .unset, .unset, .unset, .unset] [(.int (2147483647 : Int32)), (.int p2)]) _ _ _
  refine Go.iand X648 hx (hb hby at_29) ?_
  show Go _ _ _ _ T648 (mkF m 30 #[.val (.int p0), .val (.int p1), .val (.int p2), .val (.int p3), .val (.int p4), .val (.int p5), .val (.int va0), .val (.int va1), .unset, .unset, .unset, .unset, .unset, .unset, .unset] [(.int (p2 &&& (2147483647 : Int32)))]) _ _ _
  refine Go.iloadN X648 hx (hb hby at_30) rfl ?_
  refine Go.ldc X648 hx hZ hown (w0 hw) (hb hby at_31) ?_
  show Go _ _ _ _ T648 (mkF m 33 #[.val (.int p0), .val (.int p1), .val (.int p2), .val (.int p3), .val (.int p4), .val (.int p5), .val (.int va0), .val (.int va1), .unset, .unset, .unset, .unset, .unset, .unset, .unset] [(.int (2147483647 : Int32)), (.int p3), (.int (p2 &&& (2147483647 : Int32)))]) _ _ _
  refine Go.iand X648 hx (hb hby at_33) ?_
  show Go _ _ _ _ T648 (mkF m 34 #[.val (.int p0), .val (.int p1), .val (.int p2), .val (.int p3), .val (.int p4), .val (.int p5), .val (.int va0), .val (.int va1), .unset, .unset, .unset, .unset, .unset, .unset, .unset] [(.int (p3 &&& (2147483647 : Int32))), (.int (p2 &&& (2147483647 : Int32)))]) _ _ _
  refine Go.callS (W := 0) (argsL := [(.int (p2 &&& (2147483647 : Int32))), (.int (p3 &&& (2147483647 : Int32)))]) (rest := []) X648 hx hZ hown (w1 hw) (w2 hw) (w3 hw) (w4 hw) (by decide) (rm_min l Z a0 hw ((p2 &&& (2147483647 : Int32))) ((p3 &&& (2147483647 : Int32))) h0) e648 (lenOf pd_0 rfl) (hb hby at_34) (by rw [hml]; rfl) rfl (Nat.le_of_eq rfl) (by decide) (by decide) (by decide) (by decide) ?_
  intro v649 T649 L649 X649 q649
  obtain ⟨rfl, rfl, e649⟩ := q649
  have N649 := Fr.app N648 (Fr.nil n0)
  show Go _ _ _ _ T649 (mkF m 37 #[.val (.int p0), .val (.int p1), .val (.int p2), .val (.int p3), .val (.int p4), .val (.int p5), .val (.int va0), .val (.int va1), .unset, .unset, .unset, .unset, .unset, .unset, .unset] [(.int (F_min (p2 &&& (2147483647 : Int32)) (p3 &&& (2147483647 : Int32))))]) _ _ _
  refine Go.istore X649 hx (hb hby at_37) (l' := #[.val (.int p0), .val (.int p1), .val (.int p2), .val (.int p3), .val (.int p4), .val (.int p5), .val (.int va0), .val (.int va1), .val (.int (F_min (p2 &&& (2147483647 : Int32)) (p3 &&& (2147483647 : Int32)))), .unset, .unset, .unset, .unset, .unset, .unset]) rfl ?_
  show Go _ _ _ _ T649 (mkF m 39 #[.val (.int p0), .val (.int p1), .val (.int p2), .val (.int p3), .val (.int p4), .val (.int p5), .val (.int va0), .val (.int va1), .val (.int (F_min (p2 &&& (2147483647 : Int32)) (p3 &&& (2147483647 : Int32)))), .unset, .unset, .unset, .unset, .unset, .unset] []) _ _ _
  refine (show ∀ vb0 : Int32, vb0 = (F_min (p2 &&& (2147483647 : Int32)) (p3 &&& (2147483647 : Int32))) → Go _ _ _ _ T649 (mkF m 39 #[.val (.int p0), .val (.int p1), .val (.int p2), .val (.int p3), .val (.int p4), .val (.int p5), .val (.int va0), .val (.int va1), .val (.int vb0), .unset, .unset, .unset, .unset, .unset, .unset] []) _ _ _ from ?_) _ rfl
  intro vb0 g_vb0
  refine Go.iloadN X649 hx (hb hby at_39) rfl ?_
  refine Go.ldc X649 hx hZ hown (w0 hw) (hb hby at_40) ?_
  show Go _ _ _ _ T649 (mkF m 42 #[.val (.int p0), .val (.int p1), .val (.int p2), .val (.int p3), .val (.int p4), .val (.int p5), .val (.int va0), .val (.int va1), .val (.int vb0), .unset, .unset, .unset, .unset, .unset, .unset] [(.int (2147483647 : Int32)), (.int p2)]) _ _ _
  refine Go.iand X649 hx (hb hby at_42) ?_
  show Go _ _ _ _ T649 (mkF m 43 #[.val (.int p0), .val (.int p1), .val (.int p2), .val (.int p3), .val (.int p4), .val (.int p5), .val (.int va0), .val (.int va1), .val (.int vb0), .unset, .unset, .unset, .unset, .unset, .unset] [(.int (p2 &&& (2147483647 : Int32)))]) _ _ _
  refine Go.iloadN X649 hx (hb hby at_43) rfl ?_
  refine Go.ldc X649 hx hZ hown (w0 hw) (hb hby at_44) ?_
  show Go _ _ _ _ T649 (mkF m 46 #[.val (.int p0), .val (.int p1), .val (.int p2), .val (.int p3), .val (.int p4), .val (.int p5), .val (.int va0), .val (.int va1), .val (.int vb0), .unset, .unset, .unset, .unset, .unset, .unset] [(.int (2147483647 : Int32)), (.int p3), (.int (p2 &&& (2147483647 : Int32)))]) _ _ _
  refine Go.iand X649 hx (hb hby at_46) ?_
  show Go _ _ _ _ T649 (mkF m 47 #[.val (.int p0), .val (.int p1), .val (.int p2), .val (.int p3), .val (.int p4), .val (.int p5), .val (.int va0), .val (.int va1), .val (.int vb0), .unset, .unset, .unset, .unset, .unset, .unset] [(.int (p3 &&& (2147483647 : Int32))), (.int (p2 &&& (2147483647 : Int32)))]) _ _ _
  refine Go.callS (W := 0) (argsL := [(.int (p2 &&& (2147483647 : Int32))), (.int (p3 &&& (2147483647 : Int32)))]) (rest := []) X649 hx hZ hown (w5 hw) (w6 hw) (w3 hw) (w7 hw) (by decide) (rm_max l Z a0 hw ((p2 &&& (2147483647 : Int32))) ((p3 &&& (2147483647 : Int32))) h0) e649 (lenOf pd_0 rfl) (hb hby at_47) (by rw [hml]; rfl) rfl (Nat.le_of_eq rfl) (by decide) (by decide) (by decide) (by decide) ?_
  intro v650 T650 L650 X650 q650
  obtain ⟨rfl, rfl, e650⟩ := q650
  have N650 := Fr.app N649 (Fr.nil n0)
  show Go _ _ _ _ T650 (mkF m 50 #[.val (.int p0), .val (.int p1), .val (.int p2), .val (.int p3), .val (.int p4), .val (.int p5), .val (.int va0), .val (.int va1), .val (.int vb0), .unset, .unset, .unset, .unset, .unset, .unset] [(.int (F_max (p2 &&& (2147483647 : Int32)) (p3 &&& (2147483647 : Int32))))]) _ _ _
  refine Go.istore X650 hx (hb hby at_50) (l' := #[.val (.int p0), .val (.int p1), .val (.int p2), .val (.int p3), .val (.int p4), .val (.int p5), .val (.int va0), .val (.int va1), .val (.int vb0), .val (.int (F_max (p2 &&& (2147483647 : Int32)) (p3 &&& (2147483647 : Int32)))), .unset, .unset, .unset, .unset, .unset]) rfl ?_
  show Go _ _ _ _ T650 (mkF m 52 #[.val (.int p0), .val (.int p1), .val (.int p2), .val (.int p3), .val (.int p4), .val (.int p5), .val (.int va0), .val (.int va1), .val (.int vb0), .val (.int (F_max (p2 &&& (2147483647 : Int32)) (p3 &&& (2147483647 : Int32)))), .unset, .unset, .unset, .unset, .unset] []) _ _ _
  refine (show ∀ vb1 : Int32, vb1 = (F_max (p2 &&& (2147483647 : Int32)) (p3 &&& (2147483647 : Int32))) → Go _ _ _ _ T650 (mkF m 52 #[.val (.int p0), .val (.int p1), .val (.int p2), .val (.int p3), .val (.int p4), .val (.int p5), .val (.int va0), .val (.int va1), .val (.int vb0), .val (.int vb1), .unset, .unset, .unset, .unset, .unset] []) _ _ _ from ?_) _ rfl
  intro vb1 g_vb1
  have b_b : 0 ≤ vb0.toInt ∧ vb0.toInt ≤ vb1.toInt := own_pair p2 p3 g_vb0 g_vb1
  refine Go.iload X650 hx (hb hby at_52) rfl ?_
  refine Go.ldc X650 hx hZ hown (w0 hw) (hb hby at_54) ?_
  show Go _ _ _ _ T650 (mkF m 56 #[.val (.int p0), .val (.int p1), .val (.int p2), .val (.int p3), .val (.int p4), .val (.int p5), .val (.int va0), .val (.int va1), .val (.int vb0), .val (.int vb1), .unset, .unset, .unset, .unset, .unset] [(.int (2147483647 : Int32)), (.int p4)]) _ _ _
  refine Go.iand X650 hx (hb hby at_56) ?_
  show Go _ _ _ _ T650 (mkF m 57 #[.val (.int p0), .val (.int p1), .val (.int p2), .val (.int p3), .val (.int p4), .val (.int p5), .val (.int va0), .val (.int va1), .val (.int vb0), .val (.int vb1), .unset, .unset, .unset, .unset, .unset] [(.int (p4 &&& (2147483647 : Int32)))]) _ _ _
  refine Go.iload X650 hx (hb hby at_57) rfl ?_
  refine Go.ldc X650 hx hZ hown (w0 hw) (hb hby at_59) ?_
  show Go _ _ _ _ T650 (mkF m 61 #[.val (.int p0), .val (.int p1), .val (.int p2), .val (.int p3), .val (.int p4), .val (.int p5), .val (.int va0), .val (.int va1), .val (.int vb0), .val (.int vb1), .unset, .unset, .unset, .unset, .unset] [(.int (2147483647 : Int32)), (.int p5), (.int (p4 &&& (2147483647 : Int32)))]) _ _ _
  refine Go.iand X650 hx (hb hby at_61) ?_
  show Go _ _ _ _ T650 (mkF m 62 #[.val (.int p0), .val (.int p1), .val (.int p2), .val (.int p3), .val (.int p4), .val (.int p5), .val (.int va0), .val (.int va1), .val (.int vb0), .val (.int vb1), .unset, .unset, .unset, .unset, .unset] [(.int (p5 &&& (2147483647 : Int32))), (.int (p4 &&& (2147483647 : Int32)))]) _ _ _
  refine Go.callS (W := 0) (argsL := [(.int (p4 &&& (2147483647 : Int32))), (.int (p5 &&& (2147483647 : Int32)))]) (rest := []) X650 hx hZ hown (w1 hw) (w2 hw) (w3 hw) (w4 hw) (by decide) (rm_min l Z a0 hw ((p4 &&& (2147483647 : Int32))) ((p5 &&& (2147483647 : Int32))) h0) e650 (lenOf pd_0 rfl) (hb hby at_62) (by rw [hml]; rfl) rfl (Nat.le_of_eq rfl) (by decide) (by decide) (by decide) (by decide) ?_
  intro v651 T651 L651 X651 q651
  obtain ⟨rfl, rfl, e651⟩ := q651
  have N651 := Fr.app N650 (Fr.nil n0)
  show Go _ _ _ _ T651 (mkF m 65 #[.val (.int p0), .val (.int p1), .val (.int p2), .val (.int p3), .val (.int p4), .val (.int p5), .val (.int va0), .val (.int va1), .val (.int vb0), .val (.int vb1), .unset, .unset, .unset, .unset, .unset] [(.int (F_min (p4 &&& (2147483647 : Int32)) (p5 &&& (2147483647 : Int32))))]) _ _ _
  refine Go.istore X651 hx (hb hby at_65) (l' := #[.val (.int p0), .val (.int p1), .val (.int p2), .val (.int p3), .val (.int p4), .val (.int p5), .val (.int va0), .val (.int va1), .val (.int vb0), .val (.int vb1), .val (.int (F_min (p4 &&& (2147483647 : Int32)) (p5 &&& (2147483647 : Int32)))), .unset, .unset, .unset, .unset]) rfl ?_
  show Go _ _ _ _ T651 (mkF m 67 #[.val (.int p0), .val (.int p1), .val (.int p2), .val (.int p3), .val (.int p4), .val (.int p5), .val (.int va0), .val (.int va1), .val (.int vb0), .val (.int vb1), .val (.int (F_min (p4 &&& (2147483647 : Int32)) (p5 &&& (2147483647 : Int32)))), .unset, .unset, .unset, .unset] []) _ _ _
  refine (show ∀ vc0 : Int32, vc0 = (F_min (p4 &&& (2147483647 : Int32)) (p5 &&& (2147483647 : Int32))) → Go _ _ _ _ T651 (mkF m 67 #[.val (.int p0), .val (.int p1), .val (.int p2), .val (.int p3), .val (.int p4), .val (.int p5), .val (.int va0), .val (.int va1), .val (.int vb0), .val (.int vb1), .val (.int vc0), .unset, .unset, .unset, .unset] []) _ _ _ from ?_) _ rfl
  intro vc0 g_vc0
  refine Go.iload X651 hx (hb hby at_67) rfl ?_
  refine Go.ldc X651 hx hZ hown (w0 hw) (hb hby at_69) ?_
  show Go _ _ _ _ T651 (mkF m 71 #[.val (.int p0), .val (.int p1), .val (.int p2), .val (.int p3), .val (.int p4), .val (.int p5), .val (.int va0), .val (.int va1), .val (.int vb0), .val (.int vb1), .val (.int vc0), .unset, .unset, .unset, .unset] [(.int (2147483647 : Int32)), (.int p4)]) _ _ _
  refine Go.iand X651 hx (hb hby at_71) ?_
  show Go _ _ _ _ T651 (mkF m 72 #[.val (.int p0), .val (.int p1), .val (.int p2), .val (.int p3), .val (.int p4), .val (.int p5), .val (.int va0), .val (.int va1), .val (.int vb0), .val (.int vb1), .val (.int vc0), .unset, .unset, .unset, .unset] [(.int (p4 &&& (2147483647 : Int32)))]) _ _ _
  refine Go.iload X651 hx (hb hby at_72) rfl ?_
  refine Go.ldc X651 hx hZ hown (w0 hw) (hb hby at_74) ?_
  show Go _ _ _ _ T651 (mkF m 76 #[.val (.int p0), .val (.int p1), .val (.int p2), .val (.int p3), .val (.int p4), .val (.int p5), .val (.int va0), .val (.int va1), .val (.int vb0), .val (.int vb1), .val (.int vc0), .unset, .unset, .unset, .unset] [(.int (2147483647 : Int32)), (.int p5), (.int (p4 &&& (2147483647 : Int32)))]) _ _ _
  refine Go.iand X651 hx (hb hby at_76) ?_
  show Go _ _ _ _ T651 (mkF m 77 #[.val (.int p0), .val (.int p1), .val (.int p2), .val (.int p3), .val (.int p4), .val (.int p5), .val (.int va0), .val (.int va1), .val (.int vb0), .val (.int vb1), .val (.int vc0), .unset, .unset, .unset, .unset] [(.int (p5 &&& (2147483647 : Int32))), (.int (p4 &&& (2147483647 : Int32)))]) _ _ _
  refine Go.callS (W := 0) (argsL := [(.int (p4 &&& (2147483647 : Int32))), (.int (p5 &&& (2147483647 : Int32)))]) (rest := []) X651 hx hZ hown (w5 hw) (w6 hw) (w3 hw) (w7 hw) (by decide) (rm_max l Z a0 hw ((p4 &&& (2147483647 : Int32))) ((p5 &&& (2147483647 : Int32))) h0) e651 (lenOf pd_0 rfl) (hb hby at_77) (by rw [hml]; rfl) rfl (Nat.le_of_eq rfl) (by decide) (by decide) (by decide) (by decide) ?_
  intro v652 T652 L652 X652 q652
  obtain ⟨rfl, rfl, e652⟩ := q652
  have N652 := Fr.app N651 (Fr.nil n0)
  show Go _ _ _ _ T652 (mkF m 80 #[.val (.int p0), .val (.int p1), .val (.int p2), .val (.int p3), .val (.int p4), .val (.int p5), .val (.int va0), .val (.int va1), .val (.int vb0), .val (.int vb1), .val (.int vc0), .unset, .unset, .unset, .unset] [(.int (F_max (p4 &&& (2147483647 : Int32)) (p5 &&& (2147483647 : Int32))))]) _ _ _
  refine Go.istore X652 hx (hb hby at_80) (l' := #[.val (.int p0), .val (.int p1), .val (.int p2), .val (.int p3), .val (.int p4), .val (.int p5), .val (.int va0), .val (.int va1), .val (.int vb0), .val (.int vb1), .val (.int vc0), .val (.int (F_max (p4 &&& (2147483647 : Int32)) (p5 &&& (2147483647 : Int32)))), .unset, .unset, .unset]) rfl ?_
  show Go _ _ _ _ T652 (mkF m 82 #[.val (.int p0), .val (.int p1), .val (.int p2), .val (.int p3), .val (.int p4), .val (.int p5), .val (.int va0), .val (.int va1), .val (.int vb0), .val (.int vb1), .val (.int vc0), .val (.int (F_max (p4 &&& (2147483647 : Int32)) (p5 &&& (2147483647 : Int32)))), .unset, .unset, .unset] []) _ _ _
  refine (show ∀ vc1 : Int32, vc1 = (F_max (p4 &&& (2147483647 : Int32)) (p5 &&& (2147483647 : Int32))) → Go _ _ _ _ T652 (mkF m 82 #[.val (.int p0), .val (.int p1), .val (.int p2), .val (.int p3), .val (.int p4), .val (.int p5), .val (.int va0), .val (.int va1), .val (.int vb0), .val (.int vb1), .val (.int vc0), .val (.int vc1), .unset, .unset, .unset] []) _ _ _ from ?_) _ rfl
  intro vc1 g_vc1
  have b_c : 0 ≤ vc0.toInt ∧ vc0.toInt ≤ vc1.toInt := own_pair p4 p5 g_vc0 g_vc1
  refine Go.newO X652 hx hZ hown (w8 hw) (w9 hw) (w10 hw) e652 (hb hby at_82) (by decide) (by decide) ?_
  intro T653 h653 a653 b653 X653 e653 E653 A653 D653
  have g_a653 : n0 ≤ a653 := by rw [b653]; exact Z0
  have y_a653 : h0.size ≤ a653 := by rw [b653]; exact (Nat.le_refl _)
  have ne_no_a653 : no ≠ a653 := by rw [b653]; exact Nat.ne_of_lt f1.lt
  have Z653 : n0 ≤ h653.size := Nat.le_trans Z0 E653.1
  have B653 : h0.size ≤ h653.size := Nat.le_trans (Nat.le_refl _) E653.1
  show Go _ _ _ _ T653 (mkF m 85 #[.val (.int p0), .val (.int p1), .val (.int p2), .val (.int p3), .val (.int p4), .val (.int p5), .val (.int va0), .val (.int va1), .val (.int vb0), .val (.int vb1), .val (.int vc0), .val (.int vc1), .unset, .unset, .unset] [(.ref a653)]) _ _ _
  refine Go.dup X653 hx (hb hby at_85) rfl ?_
  have F654 := (D653 (Or.inl (w20 hw)) (ty := (.array .int)) (by decide))
  have F655 := (D653 (Or.inl (w32 hw)) (ty := .int) (by decide))
  refine Go.callI (W := 1) (a := a653) (argsL := []) (rest := [(.ref a653)]) X653 hx hZ hown rfl (w11 hw) (w12 hw) (w10 hw) (w13 hw) (by decide) (rm_init l Z a0 hw a653 no kn (fn) h653 n0 Z653 A653 g_a653 (Ne.symm ne_no_a653) F654 F655 (Sta.ext E653 f0) (Af.ext E653 f1)) e653 (lenOf pd_3 rfl) (hb hby at_86) (by rw [hml]; rfl) rfl (Nat.le_of_eq rfl) (by decide) (by decide) (by decide) (by decide) ?_
  intro v656 T656 L656 X656 q656
  obtain ⟨rfl, M656, K656, P656_0, P656_1⟩ := q656
  have N656 := Fr.app N652 M656
  have Z656 : n0 ≤ T656.heap.size := Nat.le_trans Z653 K656.1
  have B656 : h0.size ≤ T656.heap.size := Nat.le_trans B653 K656.1
  show Go _ _ _ _ T656 (mkF m 89 #[.val (.int p0), .val (.int p1), .val (.int p2), .val (.int p3), .val (.int p4), .val (.int p5), .val (.int va0), .val (.int va1), .val (.int vb0), .val (.int vb1), .val (.int vc0), .val (.int vc1), .unset, .unset, .unset] [(.ref a653)]) _ _ _
  refine Go.astore X656 hx (hb hby at_89) rfl (l' := #[.val (.int p0), .val (.int p1), .val (.int p2), .val (.int p3), .val (.int p4), .val (.int p5), .val (.int va0), .val (.int va1), .val (.int vb0), .val (.int vb1), .val (.int vc0), .val (.int vc1), .val (.ref a653), .unset, .unset]) rfl ?_
  refine Go.aload X656 hx (hb hby at_91) rfl rfl ?_
  refine Go.iload X656 hx (hb hby at_93) rfl ?_
  refine Go.iload X656 hx (hb hby at_95) rfl ?_
  refine Go.callV (W := 0) (argsL := [(.int va0), (.int va1)]) (rest := []) X656 hx hZ hown (w21 hw) (w22 hw) (w24 hw) (w23 hw) (w10 hw) (w25 hw) (notFace_of_selects (args := #[]) (mvT hZ (w24 hw))) (by decide) P656_0 (rm_set l Z a0 hw a653 va0 va1 no 0 (fun _ => False) T656.heap n0 Z656 P656_0 g_a653 P656_1 (by decide) b_a.1 b_a.2) rfl (lenOf pd_4 rfl) (hb hby at_97) (by rw [hml]; rfl) rfl (Nat.le_of_eq rfl) (by decide) (by decide) (by decide) (by decide) ?_
  intro v657 T657 L657 X657 q657
  obtain ⟨aX657, rfl, M657, K657, P657_0, P657_1⟩ := q657
  have N657 := Fr.app N656 M657
  have Z657 : n0 ≤ T657.heap.size := Nat.le_trans Z656 K657.1
  have B657 : h0.size ≤ T657.heap.size := Nat.le_trans B656 K657.1
  show Go _ _ _ _ T657 (mkF m 100 #[.val (.int p0), .val (.int p1), .val (.int p2), .val (.int p3), .val (.int p4), .val (.int p5), .val (.int va0), .val (.int va1), .val (.int vb0), .val (.int vb1), .val (.int vc0), .val (.int vc1), .val (.ref a653), .unset, .unset] []) _ _ _
  refine Go.aload X657 hx (hb hby at_100) rfl rfl ?_
  refine Go.iload X657 hx (hb hby at_102) rfl ?_
  refine Go.iload X657 hx (hb hby at_104) rfl ?_
  refine Go.callV (W := 0) (argsL := [(.int vb0), (.int vb1)]) (rest := []) X657 hx hZ hown (w21 hw) (w22 hw) (w24 hw) (w23 hw) (w10 hw) (w25 hw) (notFace_of_selects (args := #[]) (mvT hZ (w24 hw))) (by decide) P657_0 (rm_set l Z a0 hw a653 vb0 vb1 aX657 (0 + 1) (ADD ((fun _ => False)) va0 va1) T657.heap n0 Z657 P657_0 g_a653 P657_1 (by decide) b_b.1 b_b.2) rfl (lenOf pd_4 rfl) (hb hby at_106) (by rw [hml]; rfl) rfl (Nat.le_of_eq rfl) (by decide) (by decide) (by decide) (by decide) ?_
  intro v658 T658 L658 X658 q658
  obtain ⟨aX658, rfl, M658, K658, P658_0, P658_1⟩ := q658
  have N658 := Fr.app N657 M658
  have Z658 : n0 ≤ T658.heap.size := Nat.le_trans Z657 K658.1
  have B658 : h0.size ≤ T658.heap.size := Nat.le_trans B657 K658.1
  show Go _ _ _ _ T658 (mkF m 109 #[.val (.int p0), .val (.int p1), .val (.int p2), .val (.int p3), .val (.int p4), .val (.int p5), .val (.int va0), .val (.int va1), .val (.int vb0), .val (.int vb1), .val (.int vc0), .val (.int vc1), .val (.ref a653), .unset, .unset] []) _ _ _
  refine Go.aload X658 hx (hb hby at_109) rfl rfl ?_
  refine Go.iload X658 hx (hb hby at_111) rfl ?_
  refine Go.iload X658 hx (hb hby at_113) rfl ?_
  refine Go.callV (W := 0) (argsL := [(.int vc0), (.int vc1)]) (rest := []) X658 hx hZ hown (w21 hw) (w22 hw) (w24 hw) (w23 hw) (w10 hw) (w25 hw) (notFace_of_selects (args := #[]) (mvT hZ (w24 hw))) (by decide) P658_0 (rm_set l Z a0 hw a653 vc0 vc1 aX658 ((0 + 1) + 1) (ADD ((ADD ((fun _ => False)) va0 va1)) vb0 vb1) T658.heap n0 Z658 P658_0 g_a653 P658_1 (by decide) b_c.1 b_c.2) rfl (lenOf pd_4 rfl) (hb hby at_115) (by rw [hml]; rfl) rfl (Nat.le_of_eq rfl) (by decide) (by decide) (by decide) (by decide) ?_
  intro v659 T659 L659 X659 q659
  obtain ⟨aX659, rfl, M659, K659, P659_0, P659_1⟩ := q659
  have N659 := Fr.app N658 M659
  have Z659 : n0 ≤ T659.heap.size := Nat.le_trans Z658 K659.1
  have B659 : h0.size ≤ T659.heap.size := Nat.le_trans B658 K659.1
  show Go _ _ _ _ T659 (mkF m 118 #[.val (.int p0), .val (.int p1), .val (.int p2), .val (.int p3), .val (.int p4), .val (.int p5), .val (.int va0), .val (.int va1), .val (.int vb0), .val (.int vb1), .val (.int vc0), .val (.int vc1), .val (.ref a653), .unset, .unset] []) _ _ _
  refine Go.iload X659 hx (hb hby at_118) rfl ?_
  refine Go.iload X659 hx (hb hby at_120) rfl ?_
  refine Go.callS (W := 0) (argsL := [(.int va0), (.int va1)]) (rest := []) X659 hx hZ hown (w44 hw) (w45 hw) (w46 hw) (w47 hw) (by decide) (rm_len l Z a0 hw va0 va1 T659.heap) rfl (lenOf pd_5 rfl) (hb hby at_122) (by rw [hml]; rfl) rfl (Nat.le_of_eq rfl) (by decide) (by decide) (by decide) (by decide) ?_
  intro v660 T660 L660 X660 q660
  obtain ⟨rfl, rfl, e660⟩ := q660
  have N660 := Fr.app N659 (Fr.nil n0)
  show Go _ _ _ _ T660 (mkF m 125 #[.val (.int p0), .val (.int p1), .val (.int p2), .val (.int p3), .val (.int p4), .val (.int p5), .val (.int va0), .val (.int va1), .val (.int vb0), .val (.int vb1), .val (.int vc0), .val (.int vc1), .val (.ref a653), .unset, .unset] [(.long (F_len va0 va1))]) _ _ _
  refine Go.iload X660 hx (hb hby at_125) rfl ?_
  refine Go.iload X660 hx (hb hby at_127) rfl ?_
  refine Go.callS (W := 2) (argsL := [(.int vb0), (.int vb1)]) (rest := [(.long (F_len va0 va1))]) X660 hx hZ hown (w44 hw) (w45 hw) (w46 hw) (w47 hw) (by decide) (rm_len l Z a0 hw vb0 vb1 T659.heap) e660 (lenOf pd_5 rfl) (hb hby at_129) (by rw [hml]; rfl) rfl (Nat.le_of_eq rfl) (by decide) (by decide) (by decide) (by decide) ?_
  intro v661 T661 L661 X661 q661
  obtain ⟨rfl, rfl, e661⟩ := q661
  have N661 := Fr.app N660 (Fr.nil n0)
  show Go _ _ _ _ T661 (mkF m 132 #[.val (.int p0), .val (.int p1), .val (.int p2), .val (.int p3), .val (.int p4), .val (.int p5), .val (.int va0), .val (.int va1), .val (.int vb0), .val (.int vb1), .val (.int vc0), .val (.int vc1), .val (.ref a653), .unset, .unset] [(.long (F_len vb0 vb1)), (.long (F_len va0 va1))]) _ _ _
  refine Go.ladd X661 hx (hb hby at_132) ?_
  show Go _ _ _ _ T661 (mkF m 133 #[.val (.int p0), .val (.int p1), .val (.int p2), .val (.int p3), .val (.int p4), .val (.int p5), .val (.int va0), .val (.int va1), .val (.int vb0), .val (.int vb1), .val (.int vc0), .val (.int vc1), .val (.ref a653), .unset, .unset] [(.long ((F_len va0 va1) + (F_len vb0 vb1)))]) _ _ _
  refine Go.iload X661 hx (hb hby at_133) rfl ?_
  refine Go.iload X661 hx (hb hby at_135) rfl ?_
  refine Go.callS (W := 2) (argsL := [(.int vc0), (.int vc1)]) (rest := [(.long ((F_len va0 va1) + (F_len vb0 vb1)))]) X661 hx hZ hown (w44 hw) (w45 hw) (w46 hw) (w47 hw) (by decide) (rm_len l Z a0 hw vc0 vc1 T659.heap) e661 (lenOf pd_5 rfl) (hb hby at_137) (by rw [hml]; rfl) rfl (Nat.le_of_eq rfl) (by decide) (by decide) (by decide) (by decide) ?_
  intro v662 T662 L662 X662 q662
  obtain ⟨rfl, rfl, e662⟩ := q662
  have N662 := Fr.app N661 (Fr.nil n0)
  show Go _ _ _ _ T662 (mkF m 140 #[.val (.int p0), .val (.int p1), .val (.int p2), .val (.int p3), .val (.int p4), .val (.int p5), .val (.int va0), .val (.int va1), .val (.int vb0), .val (.int vb1), .val (.int vc0), .val (.int vc1), .val (.ref a653), .unset, .unset] [(.long (F_len vc0 vc1)), (.long ((F_len va0 va1) + (F_len vb0 vb1)))]) _ _ _
  refine Go.ladd X662 hx (hb hby at_140) ?_
  show Go _ _ _ _ T662 (mkF m 141 #[.val (.int p0), .val (.int p1), .val (.int p2), .val (.int p3), .val (.int p4), .val (.int p5), .val (.int va0), .val (.int va1), .val (.int vb0), .val (.int vb1), .val (.int vc0), .val (.int vc1), .val (.ref a653), .unset, .unset] [(.long (((F_len va0 va1) + (F_len vb0 vb1)) + (F_len vc0 vc1)))]) _ _ _
  refine Go.iload X662 hx (hb hby at_141) rfl ?_
  refine Go.iload X662 hx (hb hby at_143) rfl ?_
  refine Go.callS (W := 2) (argsL := [(.int va0), (.int vb0)]) (rest := [(.long (((F_len va0 va1) + (F_len vb0 vb1)) + (F_len vc0 vc1)))]) X662 hx hZ hown (w5 hw) (w6 hw) (w3 hw) (w7 hw) (by decide) (rm_max l Z a0 hw va0 vb0 T659.heap) e662 (lenOf pd_0 rfl) (hb hby at_145) (by rw [hml]; rfl) rfl (Nat.le_of_eq rfl) (by decide) (by decide) (by decide) (by decide) ?_
  intro v663 T663 L663 X663 q663
  obtain ⟨rfl, rfl, e663⟩ := q663
  have N663 := Fr.app N662 (Fr.nil n0)
  show Go _ _ _ _ T663 (mkF m 148 #[.val (.int p0), .val (.int p1), .val (.int p2), .val (.int p3), .val (.int p4), .val (.int p5), .val (.int va0), .val (.int va1), .val (.int vb0), .val (.int vb1), .val (.int vc0), .val (.int vc1), .val (.ref a653), .unset, .unset] [(.int (F_max va0 vb0)), (.long (((F_len va0 va1) + (F_len vb0 vb1)) + (F_len vc0 vc1)))]) _ _ _
  refine Go.iload X663 hx (hb hby at_148) rfl ?_
  refine Go.iload X663 hx (hb hby at_150) rfl ?_
  refine Go.callS (W := 3) (argsL := [(.int va1), (.int vb1)]) (rest := [(.int (F_max va0 vb0)), (.long (((F_len va0 va1) + (F_len vb0 vb1)) + (F_len vc0 vc1)))]) X663 hx hZ hown (w1 hw) (w2 hw) (w3 hw) (w4 hw) (by decide) (rm_min l Z a0 hw va1 vb1 T659.heap) e663 (lenOf pd_0 rfl) (hb hby at_152) (by rw [hml]; rfl) rfl (Nat.le_of_eq rfl) (by decide) (by decide) (by decide) (by decide) ?_
  intro v664 T664 L664 X664 q664
  obtain ⟨rfl, rfl, e664⟩ := q664
  have N664 := Fr.app N663 (Fr.nil n0)
  show Go _ _ _ _ T664 (mkF m 155 #[.val (.int p0), .val (.int p1), .val (.int p2), .val (.int p3), .val (.int p4), .val (.int p5), .val (.int va0), .val (.int va1), .val (.int vb0), .val (.int vb1), .val (.int vc0), .val (.int vc1), .val (.ref a653), .unset, .unset] [(.int (F_min va1 vb1)), (.int (F_max va0 vb0)), (.long (((F_len va0 va1) + (F_len vb0 vb1)) + (F_len vc0 vc1)))]) _ _ _
  refine Go.callS (W := 2) (argsL := [(.int (F_max va0 vb0)), (.int (F_min va1 vb1))]) (rest := [(.long (((F_len va0 va1) + (F_len vb0 vb1)) + (F_len vc0 vc1)))]) X664 hx hZ hown (w44 hw) (w45 hw) (w46 hw) (w47 hw) (by decide) (rm_len l Z a0 hw ((F_max va0 vb0)) ((F_min va1 vb1)) T659.heap) e664 (lenOf pd_5 rfl) (hb hby at_155) (by rw [hml]; rfl) rfl (Nat.le_of_eq rfl) (by decide) (by decide) (by decide) (by decide) ?_
  intro v665 T665 L665 X665 q665
  obtain ⟨rfl, rfl, e665⟩ := q665
  have N665 := Fr.app N664 (Fr.nil n0)
  show Go _ _ _ _ T665 (mkF m 158 #[.val (.int p0), .val (.int p1), .val (.int p2), .val (.int p3), .val (.int p4), .val (.int p5), .val (.int va0), .val (.int va1), .val (.int vb0), .val (.int vb1), .val (.int vc0), .val (.int vc1), .val (.ref a653), .unset, .unset] [(.long (F_len (F_max va0 vb0) (F_min va1 vb1))), (.long (((F_len va0 va1) + (F_len vb0 vb1)) + (F_len vc0 vc1)))]) _ _ _
  refine Go.lsub X665 hx (hb hby at_158) ?_
  show Go _ _ _ _ T665 (mkF m 159 #[.val (.int p0), .val (.int p1), .val (.int p2), .val (.int p3), .val (.int p4), .val (.int p5), .val (.int va0), .val (.int va1), .val (.int vb0), .val (.int vb1), .val (.int vc0), .val (.int vc1), .val (.ref a653), .unset, .unset] [(.long ((((F_len va0 va1) + (F_len vb0 vb1)) + (F_len vc0 vc1)) - (F_len (F_max va0 vb0) (F_min va1 vb1))))]) _ _ _
  refine Go.iload X665 hx (hb hby at_159) rfl ?_
  refine Go.iload X665 hx (hb hby at_161) rfl ?_
  refine Go.callS (W := 2) (argsL := [(.int va0), (.int vc0)]) (rest := [(.long ((((F_len va0 va1) + (F_len vb0 vb1)) + (F_len vc0 vc1)) - (F_len (F_max va0 vb0) (F_min va1 vb1))))]) X665 hx hZ hown (w5 hw) (w6 hw) (w3 hw) (w7 hw) (by decide) (rm_max l Z a0 hw va0 vc0 T659.heap) e665 (lenOf pd_0 rfl) (hb hby at_163) (by rw [hml]; rfl) rfl (Nat.le_of_eq rfl) (by decide) (by decide) (by decide) (by decide) ?_
  intro v666 T666 L666 X666 q666
  obtain ⟨rfl, rfl, e666⟩ := q666
  have N666 := Fr.app N665 (Fr.nil n0)
  show Go _ _ _ _ T666 (mkF m 166 #[.val (.int p0), .val (.int p1), .val (.int p2), .val (.int p3), .val (.int p4), .val (.int p5), .val (.int va0), .val (.int va1), .val (.int vb0), .val (.int vb1), .val (.int vc0), .val (.int vc1), .val (.ref a653), .unset, .unset] [(.int (F_max va0 vc0)), (.long ((((F_len va0 va1) + (F_len vb0 vb1)) + (F_len vc0 vc1)) - (F_len (F_max va0 vb0) (F_min va1 vb1))))]) _ _ _
  refine Go.iload X666 hx (hb hby at_166) rfl ?_
  refine Go.iload X666 hx (hb hby at_168) rfl ?_
  refine Go.callS (W := 3) (argsL := [(.int va1), (.int vc1)]) (rest := [(.int (F_max va0 vc0)), (.long ((((F_len va0 va1) + (F_len vb0 vb1)) + (F_len vc0 vc1)) - (F_len (F_max va0 vb0) (F_min va1 vb1))))]) X666 hx hZ hown (w1 hw) (w2 hw) (w3 hw) (w4 hw) (by decide) (rm_min l Z a0 hw va1 vc1 T659.heap) e666 (lenOf pd_0 rfl) (hb hby at_170) (by rw [hml]; rfl) rfl (Nat.le_of_eq rfl) (by decide) (by decide) (by decide) (by decide) ?_
  intro v667 T667 L667 X667 q667
  obtain ⟨rfl, rfl, e667⟩ := q667
  have N667 := Fr.app N666 (Fr.nil n0)
  show Go _ _ _ _ T667 (mkF m 173 #[.val (.int p0), .val (.int p1), .val (.int p2), .val (.int p3), .val (.int p4), .val (.int p5), .val (.int va0), .val (.int va1), .val (.int vb0), .val (.int vb1), .val (.int vc0), .val (.int vc1), .val (.ref a653), .unset, .unset] [(.int (F_min va1 vc1)), (.int (F_max va0 vc0)), (.long ((((F_len va0 va1) + (F_len vb0 vb1)) + (F_len vc0 vc1)) - (F_len (F_max va0 vb0) (F_min va1 vb1))))]) _ _ _
  refine Go.callS (W := 2) (argsL := [(.int (F_max va0 vc0)), (.int (F_min va1 vc1))]) (rest := [(.long ((((F_len va0 va1) + (F_len vb0 vb1)) + (F_len vc0 vc1)) - (F_len (F_max va0 vb0) (F_min va1 vb1))))]) X667 hx hZ hown (w44 hw) (w45 hw) (w46 hw) (w47 hw) (by decide) (rm_len l Z a0 hw ((F_max va0 vc0)) ((F_min va1 vc1)) T659.heap) e667 (lenOf pd_5 rfl) (hb hby at_173) (by rw [hml]; rfl) rfl (Nat.le_of_eq rfl) (by decide) (by decide) (by decide) (by decide) ?_
  intro v668 T668 L668 X668 q668
  obtain ⟨rfl, rfl, e668⟩ := q668
  have N668 := Fr.app N667 (Fr.nil n0)
  show Go _ _ _ _ T668 (mkF m 176 #[.val (.int p0), .val (.int p1), .val (.int p2), .val (.int p3), .val (.int p4), .val (.int p5), .val (.int va0), .val (.int va1), .val (.int vb0), .val (.int vb1), .val (.int vc0), .val (.int vc1), .val (.ref a653), .unset, .unset] [(.long (F_len (F_max va0 vc0) (F_min va1 vc1))), (.long ((((F_len va0 va1) + (F_len vb0 vb1)) + (F_len vc0 vc1)) - (F_len (F_max va0 vb0) (F_min va1 vb1))))]) _ _ _
  refine Go.lsub X668 hx (hb hby at_176) ?_
  show Go _ _ _ _ T668 (mkF m 177 #[.val (.int p0), .val (.int p1), .val (.int p2), .val (.int p3), .val (.int p4), .val (.int p5), .val (.int va0), .val (.int va1), .val (.int vb0), .val (.int vb1), .val (.int vc0), .val (.int vc1), .val (.ref a653), .unset, .unset] [(.long (((((F_len va0 va1) + (F_len vb0 vb1)) + (F_len vc0 vc1)) - (F_len (F_max va0 vb0) (F_min va1 vb1))) - (F_len (F_max va0 vc0) (F_min va1 vc1))))]) _ _ _
  refine Go.iload X668 hx (hb hby at_177) rfl ?_
  refine Go.iload X668 hx (hb hby at_179) rfl ?_
  refine Go.callS (W := 2) (argsL := [(.int vb0), (.int vc0)]) (rest := [(.long (((((F_len va0 va1) + (F_len vb0 vb1)) + (F_len vc0 vc1)) - (F_len (F_max va0 vb0) (F_min va1 vb1))) - (F_len (F_max va0 vc0) (F_min va1 vc1))))]) X668 hx hZ hown (w5 hw) (w6 hw) (w3 hw) (w7 hw) (by decide) (rm_max l Z a0 hw vb0 vc0 T659.heap) e668 (lenOf pd_0 rfl) (hb hby at_181) (by rw [hml]; rfl) rfl (Nat.le_of_eq rfl) (by decide) (by decide) (by decide) (by decide) ?_
  intro v669 T669 L669 X669 q669
  obtain ⟨rfl, rfl, e669⟩ := q669
  have N669 := Fr.app N668 (Fr.nil n0)
  show Go _ _ _ _ T669 (mkF m 184 #[.val (.int p0), .val (.int p1), .val (.int p2), .val (.int p3), .val (.int p4), .val (.int p5), .val (.int va0), .val (.int va1), .val (.int vb0), .val (.int vb1), .val (.int vc0), .val (.int vc1), .val (.ref a653), .unset, .unset] [(.int (F_max vb0 vc0)), (.long (((((F_len va0 va1) + (F_len vb0 vb1)) + (F_len vc0 vc1)) - (F_len (F_max va0 vb0) (F_min va1 vb1))) - (F_len (F_max va0 vc0) (F_min va1 vc1))))]) _ _ _
  refine Go.iload X669 hx (hb hby at_184) rfl ?_
  refine Go.iload X669 hx (hb hby at_186) rfl ?_
  refine Go.callS (W := 3) (argsL := [(.int vb1), (.int vc1)]) (rest := [(.int (F_max vb0 vc0)), (.long (((((F_len va0 va1) + (F_len vb0 vb1)) + (F_len vc0 vc1)) - (F_len (F_max va0 vb0) (F_min va1 vb1))) - (F_len (F_max va0 vc0) (F_min va1 vc1))))]) X669 hx hZ hown (w1 hw) (w2 hw) (w3 hw) (w4 hw) (by decide) (rm_min l Z a0 hw vb1 vc1 T659.heap) e669 (lenOf pd_0 rfl) (hb hby at_188) (by rw [hml]; rfl) rfl (Nat.le_of_eq rfl) (by decide) (by decide) (by decide) (by decide) ?_
  intro v670 T670 L670 X670 q670
  obtain ⟨rfl, rfl, e670⟩ := q670
  have N670 := Fr.app N669 (Fr.nil n0)
  show Go _ _ _ _ T670 (mkF m 191 #[.val (.int p0), .val (.int p1), .val (.int p2), .val (.int p3), .val (.int p4), .val (.int p5), .val (.int va0), .val (.int va1), .val (.int vb0), .val (.int vb1), .val (.int vc0), .val (.int vc1), .val (.ref a653), .unset, .unset] [(.int (F_min vb1 vc1)), (.int (F_max vb0 vc0)), (.long (((((F_len va0 va1) + (F_len vb0 vb1)) + (F_len vc0 vc1)) - (F_len (F_max va0 vb0) (F_min va1 vb1))) - (F_len (F_max va0 vc0) (F_min va1 vc1))))]) _ _ _
  refine Go.callS (W := 2) (argsL := [(.int (F_max vb0 vc0)), (.int (F_min vb1 vc1))]) (rest := [(.long (((((F_len va0 va1) + (F_len vb0 vb1)) + (F_len vc0 vc1)) - (F_len (F_max va0 vb0) (F_min va1 vb1))) - (F_len (F_max va0 vc0) (F_min va1 vc1))))]) X670 hx hZ hown (w44 hw) (w45 hw) (w46 hw) (w47 hw) (by decide) (rm_len l Z a0 hw ((F_max vb0 vc0)) ((F_min vb1 vc1)) T659.heap) e670 (lenOf pd_5 rfl) (hb hby at_191) (by rw [hml]; rfl) rfl (Nat.le_of_eq rfl) (by decide) (by decide) (by decide) (by decide) ?_
  intro v671 T671 L671 X671 q671
  obtain ⟨rfl, rfl, e671⟩ := q671
  have N671 := Fr.app N670 (Fr.nil n0)
  show Go _ _ _ _ T671 (mkF m 194 #[.val (.int p0), .val (.int p1), .val (.int p2), .val (.int p3), .val (.int p4), .val (.int p5), .val (.int va0), .val (.int va1), .val (.int vb0), .val (.int vb1), .val (.int vc0), .val (.int vc1), .val (.ref a653), .unset, .unset] [(.long (F_len (F_max vb0 vc0) (F_min vb1 vc1))), (.long (((((F_len va0 va1) + (F_len vb0 vb1)) + (F_len vc0 vc1)) - (F_len (F_max va0 vb0) (F_min va1 vb1))) - (F_len (F_max va0 vc0) (F_min va1 vc1))))]) _ _ _
  refine Go.lsub X671 hx (hb hby at_194) ?_
  show Go _ _ _ _ T671 (mkF m 195 #[.val (.int p0), .val (.int p1), .val (.int p2), .val (.int p3), .val (.int p4), .val (.int p5), .val (.int va0), .val (.int va1), .val (.int vb0), .val (.int vb1), .val (.int vc0), .val (.int vc1), .val (.ref a653), .unset, .unset] [(.long ((((((F_len va0 va1) + (F_len vb0 vb1)) + (F_len vc0 vc1)) - (F_len (F_max va0 vb0) (F_min va1 vb1))) - (F_len (F_max va0 vc0) (F_min va1 vc1))) - (F_len (F_max vb0 vc0) (F_min vb1 vc1))))]) _ _ _
  refine Go.iload X671 hx (hb hby at_195) rfl ?_
  refine Go.iload X671 hx (hb hby at_197) rfl ?_
  refine Go.iload X671 hx (hb hby at_199) rfl ?_
  refine Go.callS (W := 3) (argsL := [(.int vb0), (.int vc0)]) (rest := [(.int va0), (.long ((((((F_len va0 va1) + (F_len vb0 vb1)) + (F_len vc0 vc1)) - (F_len (F_max va0 vb0) (F_min va1 vb1))) - (F_len (F_max va0 vc0) (F_min va1 vc1))) - (F_len (F_max vb0 vc0) (F_min vb1 vc1))))]) X671 hx hZ hown (w5 hw) (w6 hw) (w3 hw) (w7 hw) (by decide) (rm_max l Z a0 hw vb0 vc0 T659.heap) e671 (lenOf pd_0 rfl) (hb hby at_201) (by rw [hml]; rfl) rfl (Nat.le_of_eq rfl) (by decide) (by decide) (by decide) (by decide) ?_
  intro v672 T672 L672 X672 q672
  obtain ⟨rfl, rfl, e672⟩ := q672
  have N672 := Fr.app N671 (Fr.nil n0)
  show Go _ _ _ _ T672 (mkF m 204 #[.val (.int p0), .val (.int p1), .val (.int p2), .val (.int p3), .val (.int p4), .val (.int p5), .val (.int va0), .val (.int va1), .val (.int vb0), .val (.int vb1), .val (.int vc0), .val (.int vc1), .val (.ref a653), .unset, .unset] [(.int (F_max vb0 vc0)), (.int va0), (.long ((((((F_len va0 va1) + (F_len vb0 vb1)) + (F_len vc0 vc1)) - (F_len (F_max va0 vb0) (F_min va1 vb1))) - (F_len (F_max va0 vc0) (F_min va1 vc1))) - (F_len (F_max vb0 vc0) (F_min vb1 vc1))))]) _ _ _
  refine Go.callS (W := 2) (argsL := [(.int va0), (.int (F_max vb0 vc0))]) (rest := [(.long ((((((F_len va0 va1) + (F_len vb0 vb1)) + (F_len vc0 vc1)) - (F_len (F_max va0 vb0) (F_min va1 vb1))) - (F_len (F_max va0 vc0) (F_min va1 vc1))) - (F_len (F_max vb0 vc0) (F_min vb1 vc1))))]) X672 hx hZ hown (w5 hw) (w6 hw) (w3 hw) (w7 hw) (by decide) (rm_max l Z a0 hw va0 ((F_max vb0 vc0)) T659.heap) e672 (lenOf pd_0 rfl) (hb hby at_204) (by rw [hml]; rfl) rfl (Nat.le_of_eq rfl) (by decide) (by decide) (by decide) (by decide) ?_
  intro v673 T673 L673 X673 q673
  obtain ⟨rfl, rfl, e673⟩ := q673
  have N673 := Fr.app N672 (Fr.nil n0)
  show Go _ _ _ _ T673 (mkF m 207 #[.val (.int p0), .val (.int p1), .val (.int p2), .val (.int p3), .val (.int p4), .val (.int p5), .val (.int va0), .val (.int va1), .val (.int vb0), .val (.int vb1), .val (.int vc0), .val (.int vc1), .val (.ref a653), .unset, .unset] [(.int (F_max va0 (F_max vb0 vc0))), (.long ((((((F_len va0 va1) + (F_len vb0 vb1)) + (F_len vc0 vc1)) - (F_len (F_max va0 vb0) (F_min va1 vb1))) - (F_len (F_max va0 vc0) (F_min va1 vc1))) - (F_len (F_max vb0 vc0) (F_min vb1 vc1))))]) _ _ _
  refine Go.iload X673 hx (hb hby at_207) rfl ?_
  refine Go.iload X673 hx (hb hby at_209) rfl ?_
  refine Go.iload X673 hx (hb hby at_211) rfl ?_
  refine Go.callS (W := 4) (argsL := [(.int vb1), (.int vc1)]) (rest := [(.int va1), (.int (F_max va0 (F_max vb0 vc0))), (.long ((((((F_len va0 va1) + (F_len vb0 vb1)) + (F_len vc0 vc1)) - (F_len (F_max va0 vb0) (F_min va1 vb1))) - (F_len (F_max va0 vc0) (F_min va1 vc1))) - (F_len (F_max vb0 vc0) (F_min vb1 vc1))))]) X673 hx hZ hown (w1 hw) (w2 hw) (w3 hw) (w4 hw) (by decide) (rm_min l Z a0 hw vb1 vc1 T659.heap) e673 (lenOf pd_0 rfl) (hb hby at_213) (by rw [hml]; rfl) rfl (Nat.le_of_eq rfl) (by decide) (by decide) (by decide) (by decide) ?_
  intro v674 T674 L674 X674 q674
  obtain ⟨rfl, rfl, e674⟩ := q674
  have N674 := Fr.app N673 (Fr.nil n0)
  show Go _ _ _ _ T674 (mkF m 216 #[.val (.int p0), .val (.int p1), .val (.int p2), .val (.int p3), .val (.int p4), .val (.int p5), .val (.int va0), .val (.int va1), .val (.int vb0), .val (.int vb1), .val (.int vc0), .val (.int vc1), .val (.ref a653), .unset, .unset] [(.int (F_min vb1 vc1)), (.int va1), (.int (F_max va0 (F_max vb0 vc0))), (.long ((((((F_len va0 va1) + (F_len vb0 vb1)) + (F_len vc0 vc1)) - (F_len (F_max va0 vb0) (F_min va1 vb1))) - (F_len (F_max va0 vc0) (F_min va1 vc1))) - (F_len (F_max vb0 vc0) (F_min vb1 vc1))))]) _ _ _
  refine Go.callS (W := 3) (argsL := [(.int va1), (.int (F_min vb1 vc1))]) (rest := [(.int (F_max va0 (F_max vb0 vc0))), (.long ((((((F_len va0 va1) + (F_len vb0 vb1)) + (F_len vc0 vc1)) - (F_len (F_max va0 vb0) (F_min va1 vb1))) - (F_len (F_max va0 vc0) (F_min va1 vc1))) - (F_len (F_max vb0 vc0) (F_min vb1 vc1))))]) X674 hx hZ hown (w1 hw) (w2 hw) (w3 hw) (w4 hw) (by decide) (rm_min l Z a0 hw va1 ((F_min vb1 vc1)) T659.heap) e674 (lenOf pd_0 rfl) (hb hby at_216) (by rw [hml]; rfl) rfl (Nat.le_of_eq rfl) (by decide) (by decide) (by decide) (by decide) ?_
  intro v675 T675 L675 X675 q675
  obtain ⟨rfl, rfl, e675⟩ := q675
  have N675 := Fr.app N674 (Fr.nil n0)
  show Go _ _ _ _ T675 (mkF m 219 #[.val (.int p0), .val (.int p1), .val (.int p2), .val (.int p3), .val (.int p4), .val (.int p5), .val (.int va0), .val (.int va1), .val (.int vb0), .val (.int vb1), .val (.int vc0), .val (.int vc1), .val (.ref a653), .unset, .unset] [(.int (F_min va1 (F_min vb1 vc1))), (.int (F_max va0 (F_max vb0 vc0))), (.long ((((((F_len va0 va1) + (F_len vb0 vb1)) + (F_len vc0 vc1)) - (F_len (F_max va0 vb0) (F_min va1 vb1))) - (F_len (F_max va0 vc0) (F_min va1 vc1))) - (F_len (F_max vb0 vc0) (F_min vb1 vc1))))]) _ _ _
  refine Go.callS (W := 2) (argsL := [(.int (F_max va0 (F_max vb0 vc0))), (.int (F_min va1 (F_min vb1 vc1)))]) (rest := [(.long ((((((F_len va0 va1) + (F_len vb0 vb1)) + (F_len vc0 vc1)) - (F_len (F_max va0 vb0) (F_min va1 vb1))) - (F_len (F_max va0 vc0) (F_min va1 vc1))) - (F_len (F_max vb0 vc0) (F_min vb1 vc1))))]) X675 hx hZ hown (w44 hw) (w45 hw) (w46 hw) (w47 hw) (by decide) (rm_len l Z a0 hw ((F_max va0 (F_max vb0 vc0))) ((F_min va1 (F_min vb1 vc1))) T659.heap) e675 (lenOf pd_5 rfl) (hb hby at_219) (by rw [hml]; rfl) rfl (Nat.le_of_eq rfl) (by decide) (by decide) (by decide) (by decide) ?_
  intro v676 T676 L676 X676 q676
  obtain ⟨rfl, rfl, e676⟩ := q676
  have N676 := Fr.app N675 (Fr.nil n0)
  show Go _ _ _ _ T676 (mkF m 222 #[.val (.int p0), .val (.int p1), .val (.int p2), .val (.int p3), .val (.int p4), .val (.int p5), .val (.int va0), .val (.int va1), .val (.int vb0), .val (.int vb1), .val (.int vc0), .val (.int vc1), .val (.ref a653), .unset, .unset] [(.long (F_len (F_max va0 (F_max vb0 vc0)) (F_min va1 (F_min vb1 vc1)))), (.long ((((((F_len va0 va1) + (F_len vb0 vb1)) + (F_len vc0 vc1)) - (F_len (F_max va0 vb0) (F_min va1 vb1))) - (F_len (F_max va0 vc0) (F_min va1 vc1))) - (F_len (F_max vb0 vc0) (F_min vb1 vc1))))]) _ _ _
  refine Go.ladd X676 hx (hb hby at_222) ?_
  show Go _ _ _ _ T676 (mkF m 223 #[.val (.int p0), .val (.int p1), .val (.int p2), .val (.int p3), .val (.int p4), .val (.int p5), .val (.int va0), .val (.int va1), .val (.int vb0), .val (.int vb1), .val (.int vc0), .val (.int vc1), .val (.ref a653), .unset, .unset] [(.long (((((((F_len va0 va1) + (F_len vb0 vb1)) + (F_len vc0 vc1)) - (F_len (F_max va0 vb0) (F_min va1 vb1))) - (F_len (F_max va0 vc0) (F_min va1 vc1))) - (F_len (F_max vb0 vc0) (F_min vb1 vc1))) + (F_len (F_max va0 (F_max vb0 vc0)) (F_min va1 (F_min vb1 vc1)))))]) _ _ _
  refine Go.lstore X676 hx (hb hby at_223) (l' := #[.val (.int p0), .val (.int p1), .val (.int p2), .val (.int p3), .val (.int p4), .val (.int p5), .val (.int va0), .val (.int va1), .val (.int vb0), .val (.int vb1), .val (.int vc0), .val (.int vc1), .val (.ref a653), .val (.long (((((((F_len va0 va1) + (F_len vb0 vb1)) + (F_len vc0 vc1)) - (F_len (F_max va0 vb0) (F_min va1 vb1))) - (F_len (F_max va0 vc0) (F_min va1 vc1))) - (F_len (F_max vb0 vc0) (F_min vb1 vc1))) + (F_len (F_max va0 (F_max vb0 vc0)) (F_min va1 (F_min vb1 vc1))))), .second]) rfl ?_
  refine Go.aload X676 hx (hb hby at_225) rfl rfl ?_
  refine Go.callV (W := 0) (argsL := []) (rest := []) X676 hx hZ hown (w48 hw) (w49 hw) (w51 hw) (w50 hw) (w10 hw) (w52 hw) (notFace_of_selects (args := #[]) (mvT hZ (w51 hw))) (by decide) P659_0 (rm_card l Z a0 hw a653 aX659 (((0 + 1) + 1) + 1) (ADD ((ADD ((ADD ((fun _ => False)) va0 va1)) vb0 vb1)) vc0 vc1) T659.heap n0 Z659 P659_0 P659_1) e676 (lenOf pd_6 rfl) (hb hby at_227) (by rw [hml]; rfl) rfl (Nat.le_of_eq rfl) (by decide) (by decide) (by decide) (by decide) ?_
  intro v677 T677 L677 X677 q677
  obtain ⟨rr677, rfl, M677, e677, P677_0⟩ := q677
  have N677 := Fr.app N676 M677
  show Go _ _ _ _ T677 (mkF m 230 #[.val (.int p0), .val (.int p1), .val (.int p2), .val (.int p3), .val (.int p4), .val (.int p5), .val (.int va0), .val (.int va1), .val (.int vb0), .val (.int vb1), .val (.int vc0), .val (.int vc1), .val (.ref a653), .val (.long (((((((F_len va0 va1) + (F_len vb0 vb1)) + (F_len vc0 vc1)) - (F_len (F_max va0 vb0) (F_min va1 vb1))) - (F_len (F_max va0 vc0) (F_min va1 vc1))) - (F_len (F_max vb0 vc0) (F_min vb1 vc1))) + (F_len (F_max va0 (F_max vb0 vc0)) (F_min va1 (F_min vb1 vc1))))), .second] [(.int rr677)]) _ _ _
  refine Go.i2l X677 hx (hb hby at_230) ?_
  show Go _ _ _ _ T677 (mkF m 231 #[.val (.int p0), .val (.int p1), .val (.int p2), .val (.int p3), .val (.int p4), .val (.int p5), .val (.int va0), .val (.int va1), .val (.int vb0), .val (.int vb1), .val (.int vc0), .val (.int vc1), .val (.ref a653), .val (.long (((((((F_len va0 va1) + (F_len vb0 vb1)) + (F_len vc0 vc1)) - (F_len (F_max va0 vb0) (F_min va1 vb1))) - (F_len (F_max va0 vc0) (F_min va1 vc1))) - (F_len (F_max vb0 vc0) (F_min vb1 vc1))) + (F_len (F_max va0 (F_max vb0 vc0)) (F_min va1 (F_min vb1 vc1))))), .second] [(.long ((rr677).toInt64))]) _ _ _
  refine Go.lload X677 hx (hb hby at_231) rfl ?_
  refine Go.lcmp X677 hx (hb hby at_233) ?_
  show Go _ _ _ _ T677 (mkF m 234 #[.val (.int p0), .val (.int p1), .val (.int p2), .val (.int p3), .val (.int p4), .val (.int p5), .val (.int va0), .val (.int va1), .val (.int vb0), .val (.int vb1), .val (.int vc0), .val (.int vc1), .val (.ref a653), .val (.long (((((((F_len va0 va1) + (F_len vb0 vb1)) + (F_len vc0 vc1)) - (F_len (F_max va0 vb0) (F_min va1 vb1))) - (F_len (F_max va0 vc0) (F_min va1 vc1))) - (F_len (F_max vb0 vc0) (F_min vb1 vc1))) + (F_len (F_max va0 (F_max vb0 vc0)) (F_min va1 (F_min vb1 vc1))))), .second] [(.int (XT.cmpL ((rr677).toInt64) (((((((F_len va0 va1) + (F_len vb0 vb1)) + (F_len vc0 vc1)) - (F_len (F_max va0 vb0) (F_min va1 vb1))) - (F_len (F_max va0 vc0) (F_min va1 vc1))) - (F_len (F_max vb0 vc0) (F_min vb1 vc1))) + (F_len (F_max va0 (F_max vb0 vc0)) (F_min va1 (F_min vb1 vc1))))))]) _ _ _
  refine Go.ifNo X677 hx (hb hby at_234) (XT.ll_ne_f (own_final b_a.1 b_a.2 b_b.1 b_b.2 b_c.1 b_c.2 P677_0)) ?_
  show Go _ _ _ _ T677 (mkF m 237 #[.val (.int p0), .val (.int p1), .val (.int p2), .val (.int p3), .val (.int p4), .val (.int p5), .val (.int va0), .val (.int va1), .val (.int vb0), .val (.int vb1), .val (.int vc0), .val (.int vc1), .val (.ref a653), .val (.long (((((((F_len va0 va1) + (F_len vb0 vb1)) + (F_len vc0 vc1)) - (F_len (F_max va0 vb0) (F_min va1 vb1))) - (F_len (F_max va0 vc0) (F_min va1 vc1))) - (F_len (F_max vb0 vc0) (F_min vb1 vc1))) + (F_len (F_max va0 (F_max vb0 vc0)) (F_min va1 (F_min vb1 vc1))))), .second] []) _ _ _
  refine Go.iconst X677 hx (hb hby at_237) ?_
  show Go _ _ _ _ T677 (mkF m 238 #[.val (.int p0), .val (.int p1), .val (.int p2), .val (.int p3), .val (.int p4), .val (.int p5), .val (.int va0), .val (.int va1), .val (.int vb0), .val (.int vb1), .val (.int vc0), .val (.int vc1), .val (.ref a653), .val (.long (((((((F_len va0 va1) + (F_len vb0 vb1)) + (F_len vc0 vc1)) - (F_len (F_max va0 vb0) (F_min va1 vb1))) - (F_len (F_max va0 vc0) (F_min va1 vc1))) - (F_len (F_max vb0 vc0) (F_min vb1 vc1))) + (F_len (F_max va0 (F_max vb0 vc0)) (F_min va1 (F_min vb1 vc1))))), .second] [(.int (1 : Int32))]) _ _ _
  refine Go.goto X677 hx (hb hby at_238) (pc' := 242) (by decide) (by decide) ?_
  show Go _ _ _ _ T677 (mkF m 242 #[.val (.int p0), .val (.int p1), .val (.int p2), .val (.int p3), .val (.int p4), .val (.int p5), .val (.int va0), .val (.int va1), .val (.int vb0), .val (.int vb1), .val (.int vc0), .val (.int vc1), .val (.ref a653), .val (.long (((((((F_len va0 va1) + (F_len vb0 vb1)) + (F_len vc0 vc1)) - (F_len (F_max va0 vb0) (F_min va1 vb1))) - (F_len (F_max va0 vc0) (F_min va1 vc1))) - (F_len (F_max vb0 vc0) (F_min vb1 vc1))) + (F_len (F_max va0 (F_max vb0 vc0)) (F_min va1 (F_min vb1 vc1))))), .second] [(.int (1 : Int32))]) _ _ _
  refine Go.retZ X677 hx hlk hret (by decide) (hb hby at_242) (by decide) (by decide) ?_
  rw [e677]
  exact ⟨rfl, N677⟩
set_option maxRecDepth 65536 in
set_option maxHeartbeats 40000000 in
theorem comes_1 {Post : Tables → Env → Array Value → State → Outcome → State → Prop} (hpost : ∀ tb e args s v u, (limb_1_1.after args s (.returned v) u = true ∧ limb_1_2.after args s (.returned v) u = true ∧ True) → FrameEnd s (.returned v) u (Jvm.fieldLocs frame_1_writes args s ++ Jvm.arrayLocs frame_1_arrays args s ++ Jvm.staticLocs frame_1_statics s) 24 128 → Post tb e args s (.returned v) u) :
    ArmFor flags0 classFile x code maxLocals ret World_1 tables_1 room_1 Calls_1 rest_1 Pre_1 Post := by
  intro l hfl _ _ p e ha hc hk s m args below hf hA hF happ hP
  obtain ⟨hcalls, hrest, hpre⟩ := hP
  obtain ⟨-, -, -, hnamed, -, -, -, hat⟩ := (Spec.applies_iff hf).mp happ
  obtain ⟨hg, hn⟩ := and_e (Cond.before_iff.mp (show (Jvm.Cond.and given_1 narrow_1).before args s = true from hpre))
  obtain ⟨hcount, hgs⟩ := and_e hg
  obtain ⟨hg0, hgr0⟩ := and_e hgs
  obtain ⟨hg1, hgr1⟩ := and_e hgr0
  obtain ⟨hg2, hgr2⟩ := and_e hgr1
  obtain ⟨hg3, hgr3⟩ := and_e hgr2
  obtain ⟨hg4, hgr4⟩ := and_e hgr3
  obtain ⟨w0', w1', w2', w3', w4', w5', rfl⟩ : ∃ w0' w1' w2' w3' w4' w5' : Value, args = #[w0', w1', w2', w3', w4', w5'] := by
    have hs : args.size = 6 := by simpa [Cond.value, given_1] using hcount
    obtain ⟨L⟩ := args
    match L, hs with
    | [w0', w1', w2', w3', w4', w5'], _ => exact ⟨w0', w1', w2', w3', w4', w5', rfl⟩
  have hw := fun d (hd : d ∈ tables_1) => atoms_spec (ws := Jvm.Cond.code x code maxLocals ret :: tables_1) hat d (List.mem_cons_of_mem _ hd)
  have hfit : Fit s := fun {y c} hc i hi => by
    obtain ⟨ha, rfl⟩ := Array.getElem?_eq_some_iff.mp hc
    have q := List.all_eq_true.mp ((Array.all_eq_true_iff_forall_mem.mp hF) _ (Array.getElem_mem ha)) i (List.mem_range.mpr hi)
    simpa [Array.getElem?_eq_getElem hi] using q
  obtain ⟨i0, ei0⟩ := is_v hg0
  obtain rfl : w0' = (.int i0) := Option.some.inj ei0
  obtain ⟨i1, ei1⟩ := is_v hg1
  obtain rfl : w1' = (.int i1) := Option.some.inj ei1
  obtain ⟨i2, ei2⟩ := is_v hg2
  obtain rfl : w2' = (.int i2) := Option.some.inj ei2
  obtain ⟨i3, ei3⟩ := is_v hg3
  obtain rfl : w3' = (.int i3) := Option.some.inj ei3
  obtain ⟨i4, ei4⟩ := is_v hg4
  obtain rfl : w4' = (.int i4) := Option.some.inj ei4
  obtain ⟨i5, ei5⟩ := is_v hgr4
  obtain rfl : w5' = (.int i5) := Option.some.inj ei5
  obtain ⟨nn0, nnr0⟩ := and_e hn
  obtain ⟨nn1, nnr1⟩ := and_e nnr0
  have nn2 := nnr1
  obtain ⟨no, eno, Sno, Eno⟩ := st_static nn1 (Or.inr ⟨(w10 hw), (w18 hw)⟩)
  obtain ⟨cn, hcn, Ano⟩ := st_arr (n := 0) eno nn0 nn2 rfl (by decide)
  obtain ⟨n, o, h1, h2, h3, _, L, rfl, ⟨rfl, N⟩, hq⟩ := rm_law l s _ hw tables_1 i0 i1 i2 i3 i4 i5 no _ _ s.heap s.heap.size (Nat.le_refl _) Sno Ano p e ha hc hk s m _ below hf ((Spec.applies_iff_loose hf).mp happ).1 ⟨rfl, State.Warmed39.refl s, rfl⟩ trivial
  refine ⟨n, _, h1, h2, h3, hpost _ _ _ _ _ _ ⟨Cond.after_iff.mpr rfl, Cond.after_iff.mpr (eq_i res_at (Term.int_eval (1)) rfl), trivial⟩ ⟨hq.1, hq.2.1, (hq.2.2.sift fun y hy => Or.inr (N y hy)).mono (by decide) (by decide)⟩⟩
theorem main_1_1 : Claimed_1_1 := comes_1 fun _ _ _ _ _ _ h hF => ⟨h.1, hF⟩
theorem main_1_2 : Claimed_1_2 := comes_1 fun _ _ _ _ _ _ h hF => ⟨h.2.1, hF⟩
end Jvm.Pilot.@@N@@
namespace Jvm.Pilot.@@N@@
open Jvm Jvm.ClassFile Sem Op Lib Jvm.Free Jvm.Stand Jvm.Pilot.@@N@@.Jvm.D
/-! MADE BY PROGRAM (witnessworld.py) out of the Statement's table words and the real class files: 12 classes; the members and pool entries that the words name. The judged class is class 1, her method 1. -/
namespace start1
open Jvm.ClassFile
def u (s : String) : CpInfo := .utf8 (stringToUtf16 s)
/-- a pool by its gaps: so many unusable entries, then the entry; so many at the end -/
def gap : Nat → List CpInfo → List CpInfo
  | 0, r => r
  | n + 1, r => .unusable :: gap n r
def poolList (es : List (Nat × CpInfo)) (last : Nat) : List CpInfo := es.foldr (fun e r => gap e.1 (e.2 :: r)) (gap last [])
def pool (es : List (Nat × CpInfo)) (last : Nat) : Array CpInfo := ⟨poolList es last⟩
def fileOf (pool : Array CpInfo) (this : Nat) (attrs : Array Attribute := #[]) (ms : Array MethodInfo := #[]) (fl : Nat := 33) (sup : Nat := 0) (ifs : Array Nat := #[]) (fds : Array FieldInfo := #[]) : ClassFile where
  minorVersion := 0
  majorVersion := 65
  constantPool := pool
  accessFlags := fl
  thisClass := this
  superClass := sup
  interfaces := ifs
  fields := fds
  methods := ms
  attributes := attrs
def plain (name : String) (sup : Option ClassId) : Class where
  name := name
  kind := .ordinary
  loader := none
  accessFlags := 33
  super := sup
  interfaces := #[]
  cf := none
  fields := #[]
  methods := #[]
  instanceTypes := #[]
  staticTypes := #[]
  resolved := #[]
  callSites := []
  init := .initialized
  statics := none
  mirror := none

def pool0 : Array CpInfo := pool [(5, u "<init>"), (0, u "()V"), (1, .class_ 10), (1, u "java/lang/Object")] 113

def k0c0 : Code := { maxStack := 0, maxLocals := 1, code := object_method_1_code, exceptionTable := #[], attributes := #[] }
def k0m0 : Method := { name := "<init>", desc := "()V", sig := { parameters := [], returnType := none }, accessFlags := 1, code := some k0c0 }
/-- java/lang/Object -/
def k0 : Class := { plain "java/lang/Object" none with
  accessFlags := 33
  interfaces := #[]
  cf := some (fileOf pool0 8 #[] #[{ accessFlags := 1, nameIndex := 5, descriptorIndex := 6, attributes := #[] }] 33 0 #[] #[])
  fields := #[]
  methods := #[k0m0]
  instanceTypes := #[]
  staticTypes := #[]
  resolved := Array.replicate 124 none
  statics := none }

def pool1 : Array CpInfo := pool [(2, .class_ 4), (0, .nameAndType 5 6), (0, u "java/lang/Object"), (0, u "<init>"), (0, u "()V"), (0, .integer 2147483647), (0, .methodref 9 10), (0, .class_ 11), (0, .nameAndType 12 13), (0, u "java/lang/Math"), (0, u "min"), (0, u "(II)I"), (0, .methodref 9 15), (0, .nameAndType 16 13), (0, u "max"), (0, .class_ 18), (0, u "com/example/collate/collate/analysis/AtomSet"), (0, .methodref 17 3), (0, .methodref 17 21), (0, .nameAndType 22 23), (0, u "set"), (0, u "(II)V"), (0, .methodref 25 26), (0, .class_ 27), (0, .nameAndType 28 29), (0, u "com/example/collate/collate/analysis/AtomSetCardinalityPinLaw"), (0, u "len"), (0, u "(II)J"), (0, .methodref 17 31), (0, .nameAndType 32 33), (0, u "cardinality"), (0, u "()I"), (2, u "law"), (0, u "(IIIIII)Z")] 3

def k1m0 : Method := { name := "<init>", desc := "()V", sig := { parameters := [], returnType := none }, accessFlags := 1, code := none }
def k1c1 : Code := { maxStack := 6, maxLocals := 15, code := code, exceptionTable := #[], attributes := #[] }
def k1m1 : Method := { name := "law", desc := "(IIIIII)Z", sig := { parameters := [.int, .int, .int, .int, .int, .int], returnType := some .boolean }, accessFlags := 9, code := some k1c1 }
def k1c2 : Code := { maxStack := 4, maxLocals := 2, code := method_3_code, exceptionTable := #[], attributes := #[] }
def k1m2 : Method := { name := "len", desc := "(II)J", sig := { parameters := [.int, .int], returnType := some .long }, accessFlags := 10, code := some k1c2 }
/-- com/example/collate/collate/analysis/AtomSetCardinalityPinLaw -/
def k1 : Class := { plain "com/example/collate/collate/analysis/AtomSetCardinalityPinLaw" (some 0) with
  accessFlags := 49
  interfaces := #[]
  cf := some (fileOf pool1 25 #[] #[{ accessFlags := 1, nameIndex := 5, descriptorIndex := 6, attributes := #[] }, { accessFlags := 9, nameIndex := 36, descriptorIndex := 37, attributes := #[] }, { accessFlags := 10, nameIndex := 28, descriptorIndex := 29, attributes := #[] }] 49 2 #[] #[])
  fields := #[]
  methods := #[k1m0, k1m1, k1m2]
  instanceTypes := #[]
  staticTypes := #[]
  resolved := Array.replicate 41 none
  statics := none }

def pool2 : Array CpInfo := pool [(1, .class_ 2), (0, u "java/lang/Math"), (1, .class_ 6), (1, u "java/lang/Object"), (0, u "<init>"), (0, u "()V"), (89, .class_ 100), (1, u "java/lang/Math$RandomNumberGeneratorHolder"), (71, u "negativeZeroFloatBits"), (0, u "J"), (2, u "negativeZeroDoubleBits"), (21, u "max"), (2, u "min"), (43, u "$assertionsDisabled"), (0, u "Z"), (88, u "(II)I"), (2, u "twoToTheDoubleScaleDown"), (0, u "D"), (4, u "twoToTheDoubleScaleUp"), (9, u "E"), (3, u "PI"), (2, u "TAU"), (2, u "DEGREES_TO_RADIANS"), (0, u "RADIANS_TO_DEGREES")] 94

def k2m0 : Method := { name := "<init>", desc := "()V", sig := { parameters := [], returnType := none }, accessFlags := 2, code := none }
def k2c1 : Code := { maxStack := 2, maxLocals := 2, code := jdk_29_method_65_code, exceptionTable := #[], attributes := #[] }
def k2m1 : Method := { name := "max", desc := "(II)I", sig := { parameters := [.int, .int], returnType := some .int }, accessFlags := 9, code := some k2c1 }
def k2c2 : Code := { maxStack := 2, maxLocals := 2, code := jdk_29_method_69_code, exceptionTable := #[], attributes := #[] }
def k2m2 : Method := { name := "min", desc := "(II)I", sig := { parameters := [.int, .int], returnType := some .int }, accessFlags := 9, code := some k2c2 }
/-- java/lang/Math -/
def k2 : Class := { plain "java/lang/Math" (some 0) with
  accessFlags := 49
  interfaces := #[]
  cf := some (fileOf pool2 1 #[.nestMembers #[98]] #[{ accessFlags := 2, nameIndex := 7, descriptorIndex := 8, attributes := #[] }, { accessFlags := 9, nameIndex := 198, descriptorIndex := 335, attributes := #[] }, { accessFlags := 9, nameIndex := 201, descriptorIndex := 335, attributes := #[] }] 49 4 #[] #[{ accessFlags := 25, nameIndex := 354, descriptorIndex := 339, attributes := #[] }, { accessFlags := 25, nameIndex := 358, descriptorIndex := 339, attributes := #[] }, { accessFlags := 25, nameIndex := 361, descriptorIndex := 339, attributes := #[] }, { accessFlags := 26, nameIndex := 364, descriptorIndex := 339, attributes := #[] }, { accessFlags := 26, nameIndex := 365, descriptorIndex := 339, attributes := #[] }, { accessFlags := 26, nameIndex := 172, descriptorIndex := 173, attributes := #[] }, { accessFlags := 26, nameIndex := 176, descriptorIndex := 173, attributes := #[] }, { accessFlags := 8, nameIndex := 344, descriptorIndex := 339, attributes := #[] }, { accessFlags := 8, nameIndex := 338, descriptorIndex := 339, attributes := #[] }, { accessFlags := 4120, nameIndex := 245, descriptorIndex := 246, attributes := #[] }])
  fields := #[{ name := "E", type := .double, accessFlags := 25, slot := 0, constantValue := 0 }, { name := "PI", type := .double, accessFlags := 25, slot := 1, constantValue := 0 }, { name := "TAU", type := .double, accessFlags := 25, slot := 2, constantValue := 0 }, { name := "DEGREES_TO_RADIANS", type := .double, accessFlags := 26, slot := 3, constantValue := 0 }, { name := "RADIANS_TO_DEGREES", type := .double, accessFlags := 26, slot := 4, constantValue := 0 }, { name := "negativeZeroFloatBits", type := .long, accessFlags := 26, slot := 5, constantValue := 0 }, { name := "negativeZeroDoubleBits", type := .long, accessFlags := 26, slot := 6, constantValue := 0 }, { name := "twoToTheDoubleScaleUp", type := .double, accessFlags := 8, slot := 7, constantValue := 0 }, { name := "twoToTheDoubleScaleDown", type := .double, accessFlags := 8, slot := 8, constantValue := 0 }, { name := "$assertionsDisabled", type := .boolean, accessFlags := 4120, slot := 9, constantValue := 0 }]
  methods := #[k2m0, k2m1, k2m2]
  instanceTypes := #[]
  staticTypes := #[.double, .double, .double, .double, .double, .long, .long, .double, .double, .boolean]
  resolved := Array.replicate 460 none
  statics := none }

def pool3 : Array CpInfo := pool [(1, .methodref 2 3), (0, .class_ 4), (0, .nameAndType 5 6), (0, u "java/lang/Object"), (0, u "<init>"), (0, u "()V"), (0, .fieldref 8 9), (0, .class_ 10), (0, .nameAndType 11 12), (0, u "com/example/collate/collate/analysis/AtomSet"), (0, u "NONE"), (0, u "[I"), (0, .fieldref 8 14), (0, .nameAndType 15 12), (0, u "bounds"), (0, .fieldref 8 17), (0, .nameAndType 18 19), (0, u "count"), (0, u "I"), (0, .methodref 21 22), (0, .class_ 23), (0, .nameAndType 24 25), (0, u "java/util/Arrays"), (0, u "copyOf"), (0, u "([II)[I"), (2, u "([II)V"), (9, .methodref 8 39), (0, .nameAndType 40 28), (0, u "add"), (0, .methodref 42 43), (0, .class_ 44), (0, .nameAndType 45 46), (0, u "java/lang/Math"), (0, u "max"), (0, u "(II)I"), (0, .methodref 48 49), (0, .class_ 50), (0, .nameAndType 51 52), (0, u "java/lang/System"), (0, u "arraycopy"), (0, u "(Ljava/lang/Object;ILjava/lang/Object;II)V"), (8, u "set"), (0, u "(II)V"), (17, u "cardinality"), (0, u "()I")] 22

def k3c0 : Code := { maxStack := 2, maxLocals := 1, code := prog_6_method_1_code, exceptionTable := #[], attributes := #[] }
def k3m0 : Method := { name := "<init>", desc := "()V", sig := { parameters := [], returnType := none }, accessFlags := 1, code := some k3c0 }
def k3c1 : Code := { maxStack := 5, maxLocals := 3, code := prog_6_method_4_code, exceptionTable := #[], attributes := #[] }
def k3m1 : Method := { name := "set", desc := "(II)V", sig := { parameters := [.int, .int], returnType := none }, accessFlags := 1, code := some k3c1 }
def k3c2 : Code := { maxStack := 6, maxLocals := 9, code := prog_6_method_6_code, exceptionTable := #[], attributes := #[] }
def k3m2 : Method := { name := "add", desc := "([II)V", sig := { parameters := [(.array .int), .int], returnType := none }, accessFlags := 2, code := some k3c2 }
def k3c3 : Code := { maxStack := 4, maxLocals := 3, code := prog_6_method_12_code, exceptionTable := #[], attributes := #[] }
def k3m3 : Method := { name := "cardinality", desc := "()I", sig := { parameters := [], returnType := some .int }, accessFlags := 1, code := some k3c3 }
/-- com/example/collate/collate/analysis/AtomSet -/
def k3 : Class := { plain "com/example/collate/collate/analysis/AtomSet" (some 0) with
  accessFlags := 33
  interfaces := #[]
  cf := some (fileOf pool3 8 #[] #[{ accessFlags := 1, nameIndex := 5, descriptorIndex := 6, attributes := #[] }, { accessFlags := 1, nameIndex := 61, descriptorIndex := 62, attributes := #[] }, { accessFlags := 2, nameIndex := 40, descriptorIndex := 28, attributes := #[] }, { accessFlags := 1, nameIndex := 80, descriptorIndex := 81, attributes := #[] }] 33 2 #[] #[{ accessFlags := 26, nameIndex := 11, descriptorIndex := 12, attributes := #[] }, { accessFlags := 2, nameIndex := 15, descriptorIndex := 12, attributes := #[] }, { accessFlags := 2, nameIndex := 18, descriptorIndex := 19, attributes := #[] }])
  fields := #[{ name := "NONE", type := (.array .int), accessFlags := 26, slot := 0, constantValue := 0 }, { name := "bounds", type := (.array .int), accessFlags := 2, slot := 0, constantValue := 0 }, { name := "count", type := .int, accessFlags := 2, slot := 1, constantValue := 0 }]
  methods := #[k3m0, k3m1, k3m2, k3m3]
  instanceTypes := #[(.array .int), .int]
  staticTypes := #[(.array .int)]
  resolved := Array.replicate 104 none
  statics := some 0 }

def pool4 : Array CpInfo := pool [(2, .class_ 4), (1, u "java/lang/Object"), (0, u "<init>"), (0, u "()V"), (7, .class_ 16), (1, u "java/util/Arrays"), (57, .class_ 76), (1, u "java/util/Arrays$NaturalOrder"), (36, .class_ 115), (1, u "java/util/Arrays$LegacyMergeSort"), (1, u "Z"), (32, .methodref 151 152), (0, .class_ 153), (0, .nameAndType 154 155), (0, u "java/lang/System"), (0, u "arraycopy"), (0, u "(Ljava/lang/Object;ILjava/lang/Object;II)V"), (146, u "copyOf"), (1, .methodref 305 306), (0, .class_ 307), (0, .nameAndType 308 309), (0, u "java/lang/Math"), (0, u "min"), (0, u "(II)I"), (65, .class_ 376), (0, u "java/util/Arrays$ArrayList"), (68, u "$assertionsDisabled"), (269, u "MIN_ARRAY_SORT_GRAN"), (0, u "I"), (2, u "INSERTIONSORT_THRESHOLD"), (151, u "([II)[I"), (103, .class_ 976), (0, u "java/util/Arrays$ArrayItr")] 52

def k4m0 : Method := { name := "<init>", desc := "()V", sig := { parameters := [], returnType := none }, accessFlags := 2, code := none }
def k4c1 : Code := { maxStack := 6, maxLocals := 3, code := jdk_65_method_123_code, exceptionTable := #[], attributes := #[] }
def k4m1 : Method := { name := "copyOf", desc := "([II)[I", sig := { parameters := [(.array .int), .int], returnType := some (.array .int) }, accessFlags := 9, code := some k4c1 }
/-- java/util/Arrays -/
def k4 : Class := { plain "java/util/Arrays" (some 0) with
  accessFlags := 49
  interfaces := #[]
  cf := some (fileOf pool4 14 #[.nestMembers #[975, 375, 113, 74]] #[{ accessFlags := 2, nameIndex := 5, descriptorIndex := 6, attributes := #[] }, { accessFlags := 9, nameIndex := 302, descriptorIndex := 871, attributes := #[] }] 49 2 #[] #[{ accessFlags := 26, nameIndex := 715, descriptorIndex := 716, attributes := #[] }, { accessFlags := 26, nameIndex := 719, descriptorIndex := 716, attributes := #[] }, { accessFlags := 4120, nameIndex := 445, descriptorIndex := 117, attributes := #[] }])
  fields := #[{ name := "MIN_ARRAY_SORT_GRAN", type := .int, accessFlags := 26, slot := 0, constantValue := 0 }, { name := "INSERTIONSORT_THRESHOLD", type := .int, accessFlags := 26, slot := 1, constantValue := 0 }, { name := "$assertionsDisabled", type := .boolean, accessFlags := 4120, slot := 2, constantValue := 0 }]
  methods := #[k4m0, k4m1]
  instanceTypes := #[]
  staticTypes := #[.int, .int, .boolean]
  resolved := Array.replicate 1029 none
  statics := none }

def pool5 : Array CpInfo := pool [(2, .class_ 4), (1, u "java/lang/Object"), (0, u "<init>"), (0, u "()V"), (1, .class_ 10), (1, u "java/lang/System"), (0, u "allowSecurityManager"), (0, u "I"), (16, u "cons"), (0, u "Ljava/io/Console;"), (77, .class_ 110), (1, u "java/lang/System$CallersHolder"), (43, u "initialErrStream"), (0, u "Ljava/io/PrintStream;"), (19, u "security"), (0, u "Ljava/lang/SecurityManager;"), (31, .class_ 209), (0, u "java/lang/System$1"), (7, u "props"), (0, u "Ljava/util/Properties;"), (2, u "lineSeparator"), (0, u "Ljava/lang/String;"), (96, .class_ 321), (1, u "java/lang/System$LoggerFinder"), (5, .class_ 328), (0, u "java/lang/System$Logger"), (67, u "err"), (2, u "out"), (91, u "notSupportedJnuEncoding"), (15, u "in"), (17, u "initialIn"), (0, u "Ljava/io/InputStream;"), (35, u "bootLayer"), (0, u "Ljava/lang/ModuleLayer;"), (99, .class_ 664), (0, u "java/lang/System$2"), (9, u "NEVER"), (2, u "MAYBE"), (49, u "arraycopy"), (0, u "(Ljava/lang/Object;ILjava/lang/Object;II)V"), (72, .class_ 802), (0, u "java/lang/System$Logger$Level")] 31

def k5m0 : Method := { name := "<init>", desc := "()V", sig := { parameters := [], returnType := none }, accessFlags := 2, code := none }
def k5m1 : Method := { name := "arraycopy", desc := "(Ljava/lang/Object;ILjava/lang/Object;II)V", sig := { parameters := [(.object "java/lang/Object"), .int, (.object "java/lang/Object"), .int, .int], returnType := none }, accessFlags := 265, code := none }
/-- java/lang/System -/
def k5 : Class := { plain "java/lang/System" (some 0) with
  accessFlags := 49
  interfaces := #[]
  cf := some (fileOf pool5 8 #[.nestMembers #[319, 327, 801, 108, 663, 208]] #[{ accessFlags := 2, nameIndex := 5, descriptorIndex := 6, attributes := #[] }, { accessFlags := 265, nameIndex := 727, descriptorIndex := 728, attributes := #[] }] 49 2 #[] #[{ accessFlags := 25, nameIndex := 507, descriptorIndex := 526, attributes := #[] }, { accessFlags := 25, nameIndex := 399, descriptorIndex := 155, attributes := #[] }, { accessFlags := 25, nameIndex := 396, descriptorIndex := 155, attributes := #[] }, { accessFlags := 10, nameIndex := 525, descriptorIndex := 526, attributes := #[] }, { accessFlags := 26, nameIndex := 674, descriptorIndex := 12, attributes := #[] }, { accessFlags := 26, nameIndex := 677, descriptorIndex := 12, attributes := #[] }, { accessFlags := 10, nameIndex := 11, descriptorIndex := 12, attributes := #[] }, { accessFlags := 74, nameIndex := 175, descriptorIndex := 176, attributes := #[] }, { accessFlags := 10, nameIndex := 491, descriptorIndex := 222, attributes := #[] }, { accessFlags := 74, nameIndex := 29, descriptorIndex := 30, attributes := #[] }, { accessFlags := 74, nameIndex := 154, descriptorIndex := 155, attributes := #[] }, { accessFlags := 10, nameIndex := 217, descriptorIndex := 218, attributes := #[] }, { accessFlags := 10, nameIndex := 221, descriptorIndex := 222, attributes := #[] }, { accessFlags := 8, nameIndex := 562, descriptorIndex := 563, attributes := #[] }])
  fields := #[{ name := "in", type := (.object "java/io/InputStream"), accessFlags := 25, slot := 0, constantValue := 0 }, { name := "out", type := (.object "java/io/PrintStream"), accessFlags := 25, slot := 1, constantValue := 0 }, { name := "err", type := (.object "java/io/PrintStream"), accessFlags := 25, slot := 2, constantValue := 0 }, { name := "initialIn", type := (.object "java/io/InputStream"), accessFlags := 10, slot := 3, constantValue := 0 }, { name := "NEVER", type := .int, accessFlags := 26, slot := 4, constantValue := 0 }, { name := "MAYBE", type := .int, accessFlags := 26, slot := 5, constantValue := 0 }, { name := "allowSecurityManager", type := .int, accessFlags := 10, slot := 6, constantValue := 0 }, { name := "security", type := (.object "java/lang/SecurityManager"), accessFlags := 74, slot := 7, constantValue := 0 }, { name := "notSupportedJnuEncoding", type := (.object "java/lang/String"), accessFlags := 10, slot := 8, constantValue := 0 }, { name := "cons", type := (.object "java/io/Console"), accessFlags := 74, slot := 9, constantValue := 0 }, { name := "initialErrStream", type := (.object "java/io/PrintStream"), accessFlags := 74, slot := 10, constantValue := 0 }, { name := "props", type := (.object "java/util/Properties"), accessFlags := 10, slot := 11, constantValue := 0 }, { name := "lineSeparator", type := (.object "java/lang/String"), accessFlags := 10, slot := 12, constantValue := 0 }, { name := "bootLayer", type := (.object "java/lang/ModuleLayer"), accessFlags := 8, slot := 13, constantValue := 0 }]
  methods := #[k5m0, k5m1]
  instanceTypes := #[]
  staticTypes := #[(.object "java/io/InputStream"), (.object "java/io/PrintStream"), (.object "java/io/PrintStream"), (.object "java/io/InputStream"), .int, .int, .int, (.object "java/lang/SecurityManager"), (.object "java/lang/String"), (.object "java/io/Console"), (.object "java/io/PrintStream"), (.object "java/util/Properties"), (.object "java/lang/String"), (.object "java/lang/ModuleLayer")]
  resolved := Array.replicate 834 none
  statics := none }

def pool6 : Array CpInfo := pool [(1, u "java/lang/Cloneable"), (0, .class_ 1), (0, u "java/lang/Object"), (0, .class_ 3)] 3

/-- java/lang/Cloneable -/
def k6 : Class := { plain "java/lang/Cloneable" (some 0) with
  accessFlags := 1537
  interfaces := #[]
  cf := some (fileOf pool6 2 #[] #[] 1537 4 #[] #[])
  fields := #[]
  methods := #[]
  instanceTypes := #[]
  staticTypes := #[]
  resolved := Array.replicate 8 none
  statics := none }

def pool7 : Array CpInfo := pool [(1, u "java/io/Serializable"), (0, .class_ 1), (0, u "java/lang/Object"), (0, .class_ 3)] 3

/-- java/io/Serializable -/
def k7 : Class := { plain "java/io/Serializable" (some 0) with
  accessFlags := 1537
  interfaces := #[]
  cf := some (fileOf pool7 2 #[] #[] 1537 4 #[] #[])
  fields := #[]
  methods := #[]
  instanceTypes := #[]
  staticTypes := #[]
  resolved := Array.replicate 8 none
  statics := none }

/-- the primitive byte -/
def k8 : Class := { plain "byte" none with kind := .primitive 'B', accessFlags := 0x411 }
/-- [B -/
def k9 : Class := { plain "[B" (some 0) with kind := .array 8 .byte, interfaces := #[6, 7], accessFlags := 1041 }

/-- the primitive int -/
def k10 : Class := { plain "int" none with kind := .primitive 'I', accessFlags := 0x411 }
/-- [I -/
def k11 : Class := { plain "[I" (some 0) with kind := .array 10 .int, interfaces := #[6, 7], accessFlags := 1041 }

def heap : Heap := #[{ cls := 3, slots := #[.ref 1], vm := .statics 3 },
  { cls := 11, slots := #[], vm := .none }]
def classes : Array Class := #[k0, k1, k2, k3, k4, k5, k6, k7, k8, k9, k10, k11]
def interned : List (Array UInt16 × Addr) := []
def slotsUsed : Nat := 1
def theMethod : MethodId := ⟨1, 1⟩
def args0 : Array Value := #[.int 1, .int 2, .int 3, .int 4, .int 5, .int 6]
def aboutOver (below : List Frame) : State where
  vm := { classes := classes, interned := interned.toArray }
  heap := heap
  slotsUsed := slotsUsed
  threads := #[{ frames := .invoking theMethod args0 :: below }]
def below0 : List Frame := [.native { method := ⟨0, 0⟩, args := #[] }]
def about1 : State := aboutOver below0
def p0 : Program := .bare "" "" ""
def e0 : Env := launch0.env 0 0 0
theorem w_frames : about1.frames = Frame.invoking theMethod args0 :: below0 := rfl
set_option maxRecDepth 65536 in
theorem w_args : argsFit about1.vm theMethod args0 = true := by decide +kernel
set_option maxRecDepth 65536 in
theorem w_heap : heapFits about1 = true := by decide +kernel
set_option maxRecDepth 65536 in
theorem w_runnable : about1.curStatus? = some .runnable := by decide +kernel
set_option maxRecDepth 65536 in
theorem w_alone : about1.alone = true := by decide +kernel
set_option maxRecDepth 65536 in
theorem w_named : about1.methodNamed? x = some theMethod := by decide +kernel
set_option maxRecDepth 65536 in
theorem w_hears : about1.hears theMethod below0 = true := by decide +kernel
set_option maxRecDepth 65536 in
theorem w_ripe : about1.ripe theMethod args0 below0 = true := by decide +kernel
theorem w_running : about1.status = .running := rfl
set_option maxRecDepth 65536 in
theorem w_room : about1.hasRoom e0.platform room_1 = true :=
  launch0.hasRoom_least _ room_1 (by decide +kernel) (by decide +kernel) (by decide +kernel) (by decide +kernel) (by decide +kernel) (by decide +kernel)
theorem allAtoms_all (ts : List Jvm.Cond) (a : Array Jvm.Value) (st : Jvm.State) : (allAtoms ts).before a st = ts.all (fun c => c.before a st) := by
  induction ts with
  | nil => rfl
  | cons c t ih =>
    show (Jvm.Cond.and c (allAtoms t)).before a st = _
    rw [Jvm.Cond.before_and, ih, List.all_cons]
def words1 : List Jvm.Cond := Jvm.Cond.code x code maxLocals ret :: tables_1
/-- a 'code' word, met by the world's own term for the bytes: nothing is compared byte by byte -/
theorem code_word {y : MethodName} {bytes : ByteArray} {mx : Nat} {rt : Option FieldType} {a : Array Value} {s : State} {m : MethodId} {meth : Method} {c : Code} (h1 : s.methodNamed? y = some m) (h2 : s.vm.method? m = some meth) (h3 : meth.code = some c) (h4 : c.code = bytes)
    (h5 : (c.maxLocals == mx && c.exceptionTable.isEmpty && decide (c.maxStack ≤ mostOperands) && decide (meth.sig.returnType = rt) && !meth.locks && decide (parseMethodDescriptor y.desc = some meth.sig)) = true) : (Jvm.Cond.code y bytes mx rt).before a s = true := by
  simp only [Bool.and_eq_true, beq_iff_eq, Bool.not_eq_true', decide_eq_true_eq] at h5
  obtain ⟨⟨⟨⟨⟨g1, g2⟩, g3⟩, g4⟩, g5⟩, g6⟩ := h5
  simp [Cond.before, Cond.holds, Cond.value, h1, h2, h3, h4, g1, g2, g3, g4, g5, g6]
def isCode : Jvm.Cond → Bool
  | .code _ _ _ _ => true
  | _ => false
theorem all_split {L : List Jvm.Cond} {P : Jvm.Cond → Bool} (h1 : L.all (fun c => isCode c || P c) = true) (h2 : ∀ c ∈ L.filter isCode, P c = true) : L.all P = true := by
  refine List.all_eq_true.mpr fun c hc => ?_
  have h := List.all_eq_true.mp h1 c hc
  rcases Bool.eq_false_or_eq_true (isCode c) with hi | hi
  · exact h2 c (List.mem_filter.mpr ⟨hc, hi⟩)
  · simpa [hi] using h
set_option maxRecDepth 65536 in
theorem w_c0 : (Jvm.Cond.code x code maxLocals ret).before args0 about1 = true := code_word (m := ⟨1, 1⟩) (meth := k1m1) (c := k1c1) (by decide +kernel) rfl rfl rfl (by decide +kernel)
set_option maxRecDepth 65536 in
theorem w_c1 : (Jvm.Cond.code ({ cls := "java/lang/Math", name := "min", desc := "(II)I" } : Jvm.MethodName) jdk_29_method_69_code (2 : Nat) (Option.some Jvm.ClassFile.FieldType.int)).before args0 about1 = true := code_word (m := ⟨2, 2⟩) (meth := k2m2) (c := k2c2) (by decide +kernel) rfl rfl rfl (by decide +kernel)
set_option maxRecDepth 65536 in
theorem w_c2 : (Jvm.Cond.code ({ cls := "java/lang/Math", name := "max", desc := "(II)I" } : Jvm.MethodName) jdk_29_method_65_code (2 : Nat) (Option.some Jvm.ClassFile.FieldType.int)).before args0 about1 = true := code_word (m := ⟨2, 1⟩) (meth := k2m1) (c := k2c1) (by decide +kernel) rfl rfl rfl (by decide +kernel)
set_option maxRecDepth 65536 in
theorem w_c3 : (Jvm.Cond.code ({ cls := "com/example/collate/collate/analysis/AtomSet", name := "<init>", desc := "()V" } : Jvm.MethodName) prog_6_method_1_code (1 : Nat) (Option.none : Option Jvm.ClassFile.FieldType)).before args0 about1 = true := code_word (m := ⟨3, 0⟩) (meth := k3m0) (c := k3c0) (by decide +kernel) rfl rfl rfl (by decide +kernel)
set_option maxRecDepth 65536 in
theorem w_c4 : (Jvm.Cond.code ({ cls := "java/lang/Object", name := "<init>", desc := "()V" } : Jvm.MethodName) object_method_1_code (1 : Nat) (Option.none : Option Jvm.ClassFile.FieldType)).before args0 about1 = true := code_word (m := ⟨0, 0⟩) (meth := k0m0) (c := k0c0) (by decide +kernel) rfl rfl rfl (by decide +kernel)
set_option maxRecDepth 65536 in
theorem w_c5 : (Jvm.Cond.code ({ cls := "com/example/collate/collate/analysis/AtomSet", name := "set", desc := "(II)V" } : Jvm.MethodName) prog_6_method_4_code (3 : Nat) (Option.none : Option Jvm.ClassFile.FieldType)).before args0 about1 = true := code_word (m := ⟨3, 1⟩) (meth := k3m1) (c := k3c1) (by decide +kernel) rfl rfl rfl (by decide +kernel)
set_option maxRecDepth 65536 in
theorem w_c6 : (Jvm.Cond.code ({ cls := "com/example/collate/collate/analysis/AtomSet", name := "add", desc := "([II)V" } : Jvm.MethodName) prog_6_method_6_code (9 : Nat) (Option.none : Option Jvm.ClassFile.FieldType)).before args0 about1 = true := code_word (m := ⟨3, 2⟩) (meth := k3m2) (c := k3c2) (by decide +kernel) rfl rfl rfl (by decide +kernel)
set_option maxRecDepth 65536 in
theorem w_c7 : (Jvm.Cond.code ({ cls := "java/util/Arrays", name := "copyOf", desc := "([II)[I" } : Jvm.MethodName) jdk_65_method_123_code (3 : Nat) (Option.some (Jvm.ClassFile.FieldType.array Jvm.ClassFile.FieldType.int))).before args0 about1 = true := code_word (m := ⟨4, 1⟩) (meth := k4m1) (c := k4c1) (by decide +kernel) rfl rfl rfl (by decide +kernel)
set_option maxRecDepth 65536 in
theorem w_c8 : (Jvm.Cond.code ({ cls := "com/example/collate/collate/analysis/AtomSetCardinalityPinLaw", name := "len", desc := "(II)J" } : Jvm.MethodName) method_3_code (2 : Nat) (Option.some Jvm.ClassFile.FieldType.long)).before args0 about1 = true := code_word (m := ⟨1, 2⟩) (meth := k1m2) (c := k1c2) (by decide +kernel) rfl rfl rfl (by decide +kernel)
set_option maxRecDepth 65536 in
theorem w_c9 : (Jvm.Cond.code ({ cls := "com/example/collate/collate/analysis/AtomSet", name := "cardinality", desc := "()I" } : Jvm.MethodName) prog_6_method_12_code (3 : Nat) (Option.some Jvm.ClassFile.FieldType.int)).before args0 about1 = true := code_word (m := ⟨3, 3⟩) (meth := k3m3) (c := k3c3) (by decide +kernel) rfl rfl rfl (by decide +kernel)
def codes1 : List Jvm.Cond := [Jvm.Cond.code x code maxLocals ret, Jvm.Cond.code ({ cls := "java/lang/Math", name := "min", desc := "(II)I" } : Jvm.MethodName) jdk_29_method_69_code (2 : Nat) (Option.some Jvm.ClassFile.FieldType.int), Jvm.Cond.code ({ cls := "java/lang/Math", name := "max", desc := "(II)I" } : Jvm.MethodName) jdk_29_method_65_code (2 : Nat) (Option.some Jvm.ClassFile.FieldType.int), Jvm.Cond.code ({ cls := "com/example/collate/collate/analysis/AtomSet", name := "<init>", desc := "()V" } : Jvm.MethodName) prog_6_method_1_code (1 : Nat) (Option.none : Option Jvm.ClassFile.FieldType), Jvm.Cond.code ({ cls := "java/lang/Object", name := "<init>", desc := "()V" } : Jvm.MethodName) object_method_1_code (1 : Nat) (Option.none : Option Jvm.ClassFile.FieldType), Jvm.Cond.code ({ cls := "com/example/collate/collate/analysis/AtomSet", name := "set", desc := "(II)V" } : Jvm.MethodName) prog_6_method_4_code (3 : Nat) (Option.none : Option Jvm.ClassFile.FieldType), Jvm.Cond.code ({ cls := "com/example/collate/collate/analysis/AtomSet", name := "add", desc := "([II)V" } : Jvm.MethodName) prog_6_method_6_code (9 : Nat) (Option.none : Option Jvm.ClassFile.FieldType), Jvm.Cond.code ({ cls := "java/util/Arrays", name := "copyOf", desc := "([II)[I" } : Jvm.MethodName) jdk_65_method_123_code (3 : Nat) (Option.some (Jvm.ClassFile.FieldType.array Jvm.ClassFile.FieldType.int)), Jvm.Cond.code ({ cls := "com/example/collate/collate/analysis/AtomSetCardinalityPinLaw", name := "len", desc := "(II)J" } : Jvm.MethodName) method_3_code (2 : Nat) (Option.some Jvm.ClassFile.FieldType.long), Jvm.Cond.code ({ cls := "com/example/collate/collate/analysis/AtomSet", name := "cardinality", desc := "()I" } : Jvm.MethodName) prog_6_method_12_code (3 : Nat) (Option.some Jvm.ClassFile.FieldType.int)]
set_option maxRecDepth 65536 in
theorem codes_eq : words1.filter isCode = codes1 := rfl
theorem w_codes : ∀ c ∈ words1.filter isCode, c.before args0 about1 = true := by
  rw [codes_eq]
  intro c hc
  simp only [codes1, List.mem_cons, List.not_mem_nil, or_false] at hc
  rcases hc with rfl | rfl | rfl | rfl | rfl | rfl | rfl | rfl | rfl | rfl
  · exact w_c0
  · exact w_c1
  · exact w_c2
  · exact w_c3
  · exact w_c4
  · exact w_c5
  · exact w_c6
  · exact w_c7
  · exact w_c8
  · exact w_c9
set_option maxRecDepth 65536 in
theorem w_t1 : (words1.take 24).all (fun c => isCode c || c.before args0 about1) = true := by decide +kernel
set_option maxRecDepth 65536 in
theorem w_t2 : ((words1.drop 24).take 24).all (fun c => isCode c || c.before args0 about1) = true := by decide +kernel
set_option maxRecDepth 65536 in
theorem w_t3 : ((words1.drop 24).drop 24).all (fun c => isCode c || c.before args0 about1) = true := by decide +kernel
theorem w_tables : (allAtoms (Jvm.Cond.code x code maxLocals ret :: tables_1)).before args0 about1 = true := by
  rw [allAtoms_all]
  show words1.all (fun c => c.before args0 about1) = true
  refine all_split ?_ w_codes
  rw [← List.take_append_drop 24 words1, List.all_append, w_t1, ← List.take_append_drop 24 (words1.drop 24), List.all_append, w_t2, w_t3]
  rfl
set_option maxRecDepth 65536 in
theorem w_case : (Jvm.Cond.and given_1 narrow_1).before args0 about1 = true := by decide +kernel
theorem w_applies : (headSpec (Jvm.Cond.code x code maxLocals ret :: tables_1) room_1).applies x e0.platform about1 = true :=
  (Spec.applies_iff w_frames).mpr ⟨w_running, w_runnable, w_alone, w_named, w_hears, w_ripe, w_room, w_tables⟩
theorem atStart : AtStart classFile x code maxLocals ret World_1 tables_1 room_1 Calls_1 rest_1 Pre_1 launch0 p0 e0 about1 theMethod args0 below0 :=
  ⟨lists_1, trivial, launch0.admits_env _ _ _, launch0.least_env, fairChoices_fair.cas, fairChoices_fair.clock, w_frames, w_args, w_heap, w_applies, trivial, trivial, w_case⟩
end start1
theorem witness_1 : WitnessClaimed_1 := ⟨start1.p0, start1.e0, start1.about1, start1.theMethod, start1.args0, start1.below0, start1.atStart⟩
end Jvm.Pilot.@@N@@
