import JvmDerived
import JvmDerived.Pilot.@@N@@Statement
import JvmDerived.Pilot.@@N@@Code
set_option linter.unusedVariables false
set_option linter.unusedSimpArgs false
namespace Jvm.OwnK
open Sem ClassFile Op Lib Jvm.Free Jvm.Stand Jvm.LawKit Jvm.RoadKit
section Base
variable {p : Program} {l : Launch} {e : Env} {R : Room} {s : State} {m : MethodId} {args : Array Value} {below : List Frame} {meth : Method} {c : Code} {T T' : State} {locs : List Loc} {cells slots : Nat} {Q : Option Value → Heap → List Loc → Prop} {kc ks : Nat} {g g' : JFrame} {Z : State} {a0 : Array Value} {h : Heap}
/-- the walk's goal: from T with g on top the invocation comes to its end, with Q -/
def Go (p : Program) (e : Env) (below : List Frame) (s T : State) (g : JFrame) (Q : Option Value → Heap → List Loc → Prop) (kc ks : Nat) : Prop :=
  ∃ s₂ o, Steps p.tables e below (T.setTop g) s₂ ∧ s₂.status = .running ∧ Ended s₂ below o ∧ ∃ v L, o = .returned v ∧ Q v s₂.heap L ∧ FrameEnd s o s₂ L kc ks
theorem Go.step (st : ∀ target, Steps p.tables e below (T'.setTop g') target → Steps p.tables e below (T.setTop g) target) (k : Go p e below s T' g' Q kc ks) : Go p e below s T g Q kc ks := by
  obtain ⟨s₂, o, h1, r⟩ := k
  exact ⟨s₂, o, st _ h1, r⟩
theorem Go.trans (st : Steps p.tables e below (T.setTop g) (T'.setTop g')) (k : Go p e below s T' g' Q kc ks) : Go p e below s T g Q kc ks := by
  obtain ⟨s₂, o, h1, r⟩ := k
  exact ⟨s₂, o, st.trans h1, r⟩
theorem Go.cast (q : g = g') (k : Go p e below s T g' Q kc ks) : Go p e below s T g Q kc ks := q ▸ k
theorem Go.out (X : Stand p l e R s m args below meth c T locs cells slots) (hlk : meth.locks = false) {v : Option Value} (hv : meth.sig.returnType = none → v = none) (hQ : Q v T.heap locs) (hc : cells ≤ kc) (hs : slots ≤ ks)
    (st : ∀ fs : List Frame, (∀ (f : JFrame) (acts : List Action), f.method = m → f.locked = none → f.entered = [] → (doReturn e (T.setTop f) acts v).1 = T.setFrames fs) → Steps p.tables e below (T.setTop g) (T.setFrames fs)) : Go p e below s T g Q kc ks := by
  obtain ⟨fs, hr, hrun, hended, hW, hsame⟩ := X.leave hv hlk
  exact ⟨_, _, st fs hr, hrun, hended, _, _, rfl, hQ, ⟨_, rfl⟩, hW, hsame.mono hc hs⟩
theorem Go.ret0 (X : Stand p l e R s m args below meth c T locs cells slots) (hx : p.tables.exec = Jvm.exec) (hlk : meth.locks = false) {pc : Nat} {Ls : Array Slot} (hret : meth.sig.returnType = none) (hd : decode c.code pc = .ok (.return_, 1)) (hc : cells ≤ kc) (hs : slots ≤ ks) (hQ : Q none T.heap locs) : Go p e below s T (mkF m pc Ls []) Q kc ks :=
  Go.out X hlk (fun _ => rfl) hQ hc hs fun fs hr => X.returnOut hx hret hd hr
theorem Go.retV (X : Stand p l e R s m args below meth c T locs cells slots) (hx : p.tables.exec = Jvm.exec) (hlk : meth.locks = false) {pc : Nat} {Ls : Array Slot} {w : Value} {t : FieldType} {i : Instr} {rest : List Value} (hret : meth.sig.returnType = some t) (hn : narrow t w = w)
    (hi : (i = .ireturn ∧ (t = .int ∨ t = .boolean ∨ t = .byte ∨ t = .char ∨ t = .short) ∧ ∃ z, w = .int z) ∨ (i = .lreturn ∧ t = .long ∧ ∃ z, w = .long z) ∨ (i = .dreturn ∧ t = .double ∧ ∃ z, w = .double z) ∨ (i = .freturn ∧ t = .float ∧ ∃ z, w = .float z) ∨ (i = .areturn ∧ t.isReference = true ∧ w.isRef = true))
    (hd : decode c.code pc = .ok (i, 1)) (hc : cells ≤ kc) (hs : slots ≤ ks) (hQ : Q (some w) T.heap locs) : Go p e below s T (mkF m pc Ls (w :: rest)) Q kc ks :=
  Go.out X hlk (fun q => by rw [hret] at q; cases q) hQ hc hs fun fs hr => retOut X hx hret hn hi hd hr
theorem Go.retI (X : Stand p l e R s m args below meth c T locs cells slots) (hx : p.tables.exec = Jvm.exec) (hlk : meth.locks = false) {pc : Nat} {Ls : Array Slot} {z : Int32} {rest : List Value} (hret : meth.sig.returnType = some .int)
    (hd : decode c.code pc = .ok (.ireturn, 1)) (hc : cells ≤ kc) (hs : slots ≤ ks) (hQ : Q (some (.int z)) T.heap locs) : Go p e below s T (mkF m pc Ls (.int z :: rest)) Q kc ks :=
  Go.retV X hx hlk hret rfl (Or.inl ⟨rfl, Or.inl rfl, z, rfl⟩) hd hc hs hQ
theorem nar_bool {z : Int32} (h : z = 0 ∨ z = 1) : narrow .boolean (.int z) = .int z := by rcases h with rfl | rfl <;> rfl
theorem Go.retZ (X : Stand p l e R s m args below meth c T locs cells slots) (hx : p.tables.exec = Jvm.exec) (hlk : meth.locks = false) {pc : Nat} {Ls : Array Slot} {z : Int32} {rest : List Value} (hret : meth.sig.returnType = some .boolean) (hz : z = 0 ∨ z = 1)
    (hd : decode c.code pc = .ok (.ireturn, 1)) (hc : cells ≤ kc) (hs : slots ≤ ks) (hQ : Q (some (.int z)) T.heap locs) : Go p e below s T (mkF m pc Ls (.int z :: rest)) Q kc ks :=
  Go.retV X hx hlk hret (nar_bool hz) (Or.inl ⟨rfl, Or.inr (Or.inl rfl), z, rfl⟩) hd hc hs hQ
theorem Go.retJ (X : Stand p l e R s m args below meth c T locs cells slots) (hx : p.tables.exec = Jvm.exec) (hlk : meth.locks = false) {pc : Nat} {Ls : Array Slot} {z : Int64} {rest : List Value} (hret : meth.sig.returnType = some .long)
    (hd : decode c.code pc = .ok (.lreturn, 1)) (hc : cells ≤ kc) (hs : slots ≤ ks) (hQ : Q (some (.long z)) T.heap locs) : Go p e below s T (mkF m pc Ls (.long z :: rest)) Q kc ks :=
  Go.retV X hx hlk hret rfl (Or.inr (Or.inl ⟨rfl, rfl, z, rfl⟩)) hd hc hs hQ
theorem Go.retR (X : Stand p l e R s m args below meth c T locs cells slots) (hx : p.tables.exec = Jvm.exec) (hlk : meth.locks = false) {pc : Nat} {Ls : Array Slot} {w : Value} {t : FieldType} {rest : List Value} (hret : meth.sig.returnType = some t) (ht : t.isReference = true) (hw : w.isRef = true)
    (hd : decode c.code pc = .ok (.areturn, 1)) (hc : cells ≤ kc) (hs : slots ≤ ks) (hQ : Q (some w) T.heap locs) : Go p e below s T (mkF m pc Ls (w :: rest)) Q kc ks :=
  Go.retV X hx hlk hret (by cases t <;> simp [narrow, FieldType.isReference] at ht ⊢) (Or.inr (Or.inr (Or.inr (Or.inr ⟨rfl, ht, hw⟩)))) hd hc hs hQ
/-- a method's contract in this text: from the heap h0, with these arguments, it returns, with Q -/
def Met (l : Launch) (Z : State) (y : MethodName) (bytes : ByteArray) (maxL : Nat) (ret : Option FieldType) (ws : List Jvm.Cond) (rm : Room) (as' : Array Value) (h0 : Heap) (Q : Option Value → Heap → List Loc → Prop) : Prop :=
  MetFree l y (head1 (Jvm.Cond.code y bytes maxL ret :: ws) rm) (fun a U => a = as' ∧ Z.Warmed39 U.vm ∧ U.heap = h0) (fun _ _ _ _ _ => True) (fun _ U o U' => ∃ v L, o = .returned v ∧ Q v U'.heap L ∧ FrameEnd U o U' L rm.cells rm.slots)
theorem Met.of {y : MethodName} {bytes : ByteArray} {maxL : Nat} {ret : Option FieldType} {ws : List Jvm.Cond} {rm : Room} {as' : Array Value} {h0 : Heap} (hpn : plainFor y = true)
    (body : ∀ (p : Program) (e : Env) (s : State) (m : MethodId) (below : List Frame) (meth : Method) (c : Code) (s₁ : State), Stand p l e rm s m as' below meth c s₁ [] 0 0 → p.tables.exec = Jvm.exec → c.code = bytes → c.maxLocals = maxL → Z.Warmed39 s.vm →
      s.vm.findClass y.cls = some m.cls → meth.name = y.name → s₁.heap = h0 → meth.sig.returnType = ret → meth.locks = false → Go p e below s s₁ (entryFrame m as' maxL) Q rm.cells rm.slots) : Met l Z y bytes maxL ret ws rm as' h0 Q := by
  refine MetFree.of_bodySF hpn hisR ?_
  intro p e s m args below meth c s₁ Bd hml0 hP hK
  obtain ⟨rfl, hZ, hh⟩ := hP
  exact body p e s m below meth c s₁ (Stand.of_body Bd) Bd.exec Bd.bytes hml0 hZ (findClass_of_methodNamed Bd.named) (name_of_methodNamed Bd.named Bd.method).1 (by rw [← hh, Bd.state]; rfl) Bd.returns Bd.notSynchronized
theorem Met.mono {y : MethodName} {bytes : ByteArray} {maxL : Nat} {ret : Option FieldType} {ws : List Jvm.Cond} {rm : Room} {as' : Array Value} {h0 : Heap} {Q' : Option Value → Heap → List Loc → Prop} (hM : Met l Z y bytes maxL ret ws rm as' h0 Q) (q : ∀ v h L, Q v h L → Q' v h L) : Met l Z y bytes maxL ret ws rm as' h0 Q' := by
  intro p e ha hc hk s m args below hf happ hP hK
  obtain ⟨n, o, h1, h2, h3, v, L, h4, h5, h6⟩ := hM p e ha hc hk s m args below hf happ hP hK
  exact ⟨n, o, h1, h2, h3, v, L, h4, q _ _ _ h5, h6⟩
/-- the call of a static method, by its contract -/
theorem Go.callS {own : String} {index : Nat} {y : MethodName} {bytes : ByteArray} {maxL : Nat} {ret : Option FieldType} {rm : Room} {argsL rest : List Value} {Q' : Option Value → Heap → List Loc → Prop} {W pc : Nat} {Ls : Array Slot} {st : List Value}
    (X : Stand p l e R s m args below meth c T locs cells slots) (hx : p.tables.exec = Jvm.exec) (hZ : Z.Warmed39 s.vm) (hown : s.vm.findClass own = some m.cls)
    (w1 : (Jvm.Cond.methodLink own index y).before a0 Z = true) (w2 : (Jvm.Cond.static y).before a0 Z = true) (w3 : (Jvm.Cond.initialized y.cls).before a0 Z = true) (w4 : (Jvm.Cond.code y bytes maxL ret).before a0 Z = true)
    (hy : y.cls ≠ "java/lang/invoke/MethodHandle" ∧ y.cls ≠ "java/lang/invoke/VarHandle") (hM : Met l Z y bytes maxL ret [] rm argsL.toArray h Q') (eT : T.heap = h)
    (hlen : ∀ sig, parseMethodDescriptor y.desc = some sig → argsL.length = sig.parameters.length) (hd : decode c.code pc = .ok (.invokestatic index, 3)) (hsize : Ls.size = c.maxLocals) (hst : st = argsL.reverse ++ rest) (hW : (rest.map fun v => v.category).sum ≤ W)
    (hf : rm.frames + 1 ≤ R.frames) (hl : W + (maxL + 11) + rm.locals ≤ R.locals) (hc : cells + rm.cells ≤ R.cells) (hs : slots + rm.slots ≤ R.slots)
    (k : ∀ v T' L, Stand p l e R s m args below meth c T' (locs ++ L) (cells + rm.cells) (slots + rm.slots) → Q' v T'.heap L → Go p e below s T' (mkF m (pc + 3) Ls (v.toList ++ rest)) Q kc ks) : Go p e below s T (mkF m pc Ls st) Q kc ks := by
  obtain ⟨v, vm₁, ⟨T1, L1, k1, n1⟩, -, X1, ⟨Lc, hQ1, l1, y1, z1⟩, st1⟩ := Jvm.LawKit.callS X hx (y := y) hown (mvT hZ w1) (mvT hZ w2) (mvT hZ w3) (mvT hZ w4) hy (backOf (W := W) hM hZ w4 w3 hf hl) (g := mkF m pc Ls st) rfl hsize (argsL := argsL) (rest := rest) hlen hst (by show 2 * 0 + _ ≤ _; omega) hd (fun _ _ => ⟨rfl, eT, hc, hs⟩)
  dsimp only [Pt.U, Pt.locs, Pt.cells, Pt.slots] at X1 l1 y1 z1 st1 hQ1
  subst l1 y1 z1
  exact Go.step st1 (k v T1 Lc X1 hQ1)
/-- the call of a constructor, by its contract -/
theorem Go.callI {own : String} {index : Nat} {y : MethodName} {bytes : ByteArray} {maxL : Nat} {rm : Room} {a : Addr} {argsL rest : List Value} {Q' : Option Value → Heap → List Loc → Prop} {W pc : Nat} {Ls : Array Slot} {st : List Value}
    (X : Stand p l e R s m args below meth c T locs cells slots) (hx : p.tables.exec = Jvm.exec) (hZ : Z.Warmed39 s.vm) (hown : s.vm.findClass own = some m.cls) (hy1 : y.name = "<init>")
    (w1 : (Jvm.Cond.methodLink own index y).before a0 Z = true) (w2 : (Jvm.Cond.instanceMethod y).before a0 Z = true) (w3 : (Jvm.Cond.initialized y.cls).before a0 Z = true) (w4 : (Jvm.Cond.code y bytes maxL none).before a0 Z = true)
    (hy : y.cls ≠ "java/lang/invoke/MethodHandle" ∧ y.cls ≠ "java/lang/invoke/VarHandle") (hM : Met l Z y bytes maxL none [] rm (.ref a :: argsL).toArray h Q') (eT : T.heap = h)
    (hlen : ∀ sig, parseMethodDescriptor y.desc = some sig → argsL.length = sig.parameters.length) (hd : decode c.code pc = .ok (.invokespecial index, 3)) (hsize : Ls.size = c.maxLocals) (hst : st = argsL.reverse ++ .ref a :: rest) (hW : (rest.map fun v => v.category).sum ≤ W)
    (hf : rm.frames + 1 ≤ R.frames) (hl : W + (maxL + 11) + rm.locals ≤ R.locals) (hc : cells + rm.cells ≤ R.cells) (hs : slots + rm.slots ≤ R.slots)
    (k : ∀ v T' L, Stand p l e R s m args below meth c T' (locs ++ L) (cells + rm.cells) (slots + rm.slots) → Q' v T'.heap L → Go p e below s T' (mkF m (pc + 3) Ls (v.toList ++ rest)) Q kc ks) : Go p e below s T (mkF m pc Ls st) Q kc ks := by
  obtain ⟨v, vm₁, ⟨T1, L1, k1, n1⟩, -, X1, ⟨Lc, hQ1, l1, y1, z1⟩, st1⟩ := X.specialBack hx (y := y) hy1 hown (mvT hZ w1) (mvT hZ w2) (mvT hZ w4) hy (backOf (W := W) hM hZ w4 w3 hf hl) (g := mkF m pc Ls st) rfl hsize (Steps.refl _) (a := a) (argsL := argsL) (rest := rest) hlen hst (by show 2 * 0 + _ ≤ _; omega) hd (fun _ _ => ⟨rfl, eT, hc, hs⟩)
  dsimp only [Pt.U, Pt.locs, Pt.cells, Pt.slots] at X1 l1 y1 z1 st1 hQ1
  subst l1 y1 z1
  exact Go.trans st1 (k v T1 Lc X1 hQ1)
/-- the call of an instance method, by its contract -/
theorem Go.callV {own C : String} {index : Nat} {y z : MethodName} {bytes : ByteArray} {maxL : Nat} {ret : Option FieldType} {rm : Room} {a : Addr} {argsL rest : List Value} {Q' : Option Value → Heap → List Loc → Prop} {W pc : Nat} {Ls : Array Slot} {st : List Value}
    (X : Stand p l e R s m args below meth c T locs cells slots) (hx : p.tables.exec = Jvm.exec) (hZ : Z.Warmed39 s.vm) (hown : s.vm.findClass own = some m.cls)
    (w1 : (Jvm.Cond.methodLink own index y).before a0 Z = true) (w2 : (Jvm.Cond.declares y).before a0 Z = true) (w5 : (Jvm.Cond.selects C y z).before a0 Z = true) (w6 : (Jvm.Cond.instanceMethod z).before a0 Z = true) (w3 : (Jvm.Cond.initialized z.cls).before a0 Z = true) (w4 : (Jvm.Cond.code z bytes maxL ret).before a0 Z = true)
    (nf : NotFace s y) (hy : y.cls ≠ "java/lang/invoke/MethodHandle" ∧ y.cls ≠ "java/lang/invoke/VarHandle") (E : Exa Z h a C) (hM : Met l Z z bytes maxL ret [] rm (.ref a :: argsL).toArray h Q') (eT : T.heap = h)
    (hlen : ∀ sig, parseMethodDescriptor y.desc = some sig → argsL.length = sig.parameters.length) (hd : decode c.code pc = .ok (.invokevirtual index, 3)) (hsize : Ls.size = c.maxLocals) (hst : st = argsL.reverse ++ .ref a :: rest) (hW : (rest.map fun v => v.category).sum ≤ W)
    (hf : rm.frames + 1 ≤ R.frames) (hl : W + (maxL + 11) + rm.locals ≤ R.locals) (hc : cells + rm.cells ≤ R.cells) (hs : slots + rm.slots ≤ R.slots)
    (k : ∀ v T' L, Stand p l e R s m args below meth c T' (locs ++ L) (cells + rm.cells) (slots + rm.slots) → Q' v T'.heap L → Go p e below s T' (mkF m (pc + 3) Ls (v.toList ++ rest)) Q kc ks) : Go p e below s T (mkF m pc Ls st) Q kc ks := by
  obtain ⟨cB, kB, q1, q2, q3⟩ := isOf hZ eT E
  obtain ⟨v, vm₁, ⟨T1, L1, k1, n1⟩, -, X1, ⟨Lc, hQ1, l1, y1, z1⟩, st1⟩ := X.virtualBack hx (y := y) (z := z) hown (mvT hZ w1) (mvT hZ w2) nf (mvT hZ w5) (mvT hZ w6) hy (backOf (W := W) hM hZ w4 w3 hf hl) q1 q3 (g := mkF m pc Ls st) rfl hsize (Steps.refl _) (argsL := argsL) (rest := rest) hlen hst (by show 2 * 0 + _ ≤ _; omega) hd (fun _ _ => ⟨rfl, eT, hc, hs⟩)
  dsimp only [Pt.U, Pt.locs, Pt.cells, Pt.slots] at X1 l1 y1 z1 st1 hQ1
  subst l1 y1 z1
  exact Go.trans st1 (k v T1 Lc X1 hQ1)
theorem Go.ldc {own : String} {index pc : Nat} {v : Int32} {Ls : Array Slot} {st : List Value} (X : Stand p l e R s m args below meth c T locs cells slots) (hx : p.tables.exec = Jvm.exec) (hZ : Z.Warmed39 s.vm) (hown : s.vm.findClass own = some m.cls) (w : (Jvm.Cond.constant own index v).before a0 Z = true) (hd : decode c.code pc = .ok (.ldc index, 2))
    (k : Go p e below s T (mkF m (pc + 2) Ls (.int v :: st)) Q kc ks) : Go p e below s T (mkF m pc Ls st) Q kc ks :=
  Go.step (fun _ => X.ldcI hx hown (mvT hZ w) (g := mkF m pc Ls st) rfl hd) k
theorem Go.ldc2 {own : String} {index pc : Nat} {v : Int64} {Ls : Array Slot} {st : List Value} (X : Stand p l e R s m args below meth c T locs cells slots) (hx : p.tables.exec = Jvm.exec) (hZ : Z.Warmed39 s.vm) (hown : s.vm.findClass own = some m.cls) (w : (Jvm.Cond.constantLong own index v).before a0 Z = true) (hd : decode c.code pc = .ok (.ldc2_w index, 3))
    (k : Go p e below s T (mkF m (pc + 3) Ls (.long v :: st)) Q kc ks) : Go p e below s T (mkF m pc Ls st) Q kc ks :=
  Go.step (fun _ => X.ldc2J hx hown (mvT hZ w) (g := mkF m pc Ls st) rfl hd) k
end Base
end Jvm.OwnK
namespace Jvm.OwnK
open Sem ClassFile Op Lib Jvm.Free Jvm.Stand Jvm.LawKit Jvm.RoadKit
section Steps
variable {p : Program} {l : Launch} {e : Env} {R : Room} {s : State} {m : MethodId} {args : Array Value} {below : List Frame} {meth : Method} {c : Code} {T T' : State} {locs : List Loc} {cells slots : Nat} {Q : Option Value → Heap → List Loc → Prop} {kc ks : Nat} {Z : State} {a0 : Array Value} {h : Heap} {pc : Nat} {Ls : Array Slot} {rest : List Value}
theorem Go.iadd {x y : Int32} (X : Stand p l e R s m args below meth c T locs cells slots) (hx : p.tables.exec = Jvm.exec) (hd : decode c.code pc = .ok (.iadd, 1)) (k : Go p e below s T (mkF m (pc + 1) Ls (.int (x + y) :: rest)) Q kc ks) : Go p e below s T (mkF m pc Ls (.int y :: .int x :: rest)) Q kc ks :=
  Go.step (fun _ => XS.iadd X.here hx (g := mkF m pc Ls (.int y :: .int x :: rest)) rfl hd rfl) k
theorem Go.isub {x y : Int32} (X : Stand p l e R s m args below meth c T locs cells slots) (hx : p.tables.exec = Jvm.exec) (hd : decode c.code pc = .ok (.isub, 1)) (k : Go p e below s T (mkF m (pc + 1) Ls (.int (x - y) :: rest)) Q kc ks) : Go p e below s T (mkF m pc Ls (.int y :: .int x :: rest)) Q kc ks :=
  Go.step (fun _ => XS.isub X.here hx (g := mkF m pc Ls (.int y :: .int x :: rest)) rfl hd rfl) k
theorem Go.iand {x y : Int32} (X : Stand p l e R s m args below meth c T locs cells slots) (hx : p.tables.exec = Jvm.exec) (hd : decode c.code pc = .ok (.iand, 1)) (k : Go p e below s T (mkF m (pc + 1) Ls (.int (x &&& y) :: rest)) Q kc ks) : Go p e below s T (mkF m pc Ls (.int y :: .int x :: rest)) Q kc ks :=
  Go.step (fun _ => XS.iand X.here hx (g := mkF m pc Ls (.int y :: .int x :: rest)) rfl hd rfl) k
theorem Go.imul {x y : Int32} (X : Stand p l e R s m args below meth c T locs cells slots) (hx : p.tables.exec = Jvm.exec) (hd : decode c.code pc = .ok (.imul, 1)) (k : Go p e below s T (mkF m (pc + 1) Ls (.int (x * y) :: rest)) Q kc ks) : Go p e below s T (mkF m pc Ls (.int y :: .int x :: rest)) Q kc ks :=
  Go.step (fun _ => XS.imul X.here hx (g := mkF m pc Ls (.int y :: .int x :: rest)) rfl hd rfl) k
theorem Go.ixor {x y : Int32} (X : Stand p l e R s m args below meth c T locs cells slots) (hx : p.tables.exec = Jvm.exec) (hd : decode c.code pc = .ok (.ixor, 1)) (k : Go p e below s T (mkF m (pc + 1) Ls (.int (x ^^^ y) :: rest)) Q kc ks) : Go p e below s T (mkF m pc Ls (.int y :: .int x :: rest)) Q kc ks :=
  Go.step (fun _ => XT.ixor X.here hx (g := mkF m pc Ls (.int y :: .int x :: rest)) rfl hd rfl) k
theorem Go.ior {x y : Int32} (X : Stand p l e R s m args below meth c T locs cells slots) (hx : p.tables.exec = Jvm.exec) (hd : decode c.code pc = .ok (.ior, 1)) (k : Go p e below s T (mkF m (pc + 1) Ls (.int (x ||| y) :: rest)) Q kc ks) : Go p e below s T (mkF m pc Ls (.int y :: .int x :: rest)) Q kc ks :=
  Go.step (fun _ => XT.ior X.here hx (g := mkF m pc Ls (.int y :: .int x :: rest)) rfl hd rfl) k
theorem Go.ishl {x y : Int32} (X : Stand p l e R s m args below meth c T locs cells slots) (hx : p.tables.exec = Jvm.exec) (hd : decode c.code pc = .ok (.ishl, 1)) (k : Go p e below s T (mkF m (pc + 1) Ls (.int (x <<< (y &&& 31)) :: rest)) Q kc ks) : Go p e below s T (mkF m pc Ls (.int y :: .int x :: rest)) Q kc ks :=
  Go.step (fun _ => XT.ishl X.here hx (g := mkF m pc Ls (.int y :: .int x :: rest)) rfl hd rfl) k
theorem Go.ishr {x y : Int32} (X : Stand p l e R s m args below meth c T locs cells slots) (hx : p.tables.exec = Jvm.exec) (hd : decode c.code pc = .ok (.ishr, 1)) (k : Go p e below s T (mkF m (pc + 1) Ls (.int (x >>> (y &&& 31)) :: rest)) Q kc ks) : Go p e below s T (mkF m pc Ls (.int y :: .int x :: rest)) Q kc ks :=
  Go.step (fun _ => XT.ishr X.here hx (g := mkF m pc Ls (.int y :: .int x :: rest)) rfl hd rfl) k
theorem Go.iushr {x y : Int32} (X : Stand p l e R s m args below meth c T locs cells slots) (hx : p.tables.exec = Jvm.exec) (hd : decode c.code pc = .ok (.iushr, 1)) (k : Go p e below s T (mkF m (pc + 1) Ls (.int (XT.ushr x y) :: rest)) Q kc ks) : Go p e below s T (mkF m pc Ls (.int y :: .int x :: rest)) Q kc ks :=
  Go.step (fun _ => XT.iushr X.here hx (g := mkF m pc Ls (.int y :: .int x :: rest)) rfl hd rfl) k
theorem Go.idiv {x y : Int32} (X : Stand p l e R s m args below meth c T locs cells slots) (hx : p.tables.exec = Jvm.exec) (hd : decode c.code pc = .ok (.idiv, 1)) (hy : y ≠ 0) (k : Go p e below s T (mkF m (pc + 1) Ls (.int (x / y) :: rest)) Q kc ks) : Go p e below s T (mkF m pc Ls (.int y :: .int x :: rest)) Q kc ks :=
  Go.step (fun _ => XS.idiv X.here hx (g := mkF m pc Ls (.int y :: .int x :: rest)) rfl hd rfl hy) k
theorem Go.irem {x y : Int32} (X : Stand p l e R s m args below meth c T locs cells slots) (hx : p.tables.exec = Jvm.exec) (hd : decode c.code pc = .ok (.irem, 1)) (hy : y ≠ 0) (k : Go p e below s T (mkF m (pc + 1) Ls (.int (x % y) :: rest)) Q kc ks) : Go p e below s T (mkF m pc Ls (.int y :: .int x :: rest)) Q kc ks :=
  Go.step (fun _ => iremM X hx (g := mkF m pc Ls (.int y :: .int x :: rest)) rfl hd rfl hy) k
theorem Go.ladd {x y : Int64} (X : Stand p l e R s m args below meth c T locs cells slots) (hx : p.tables.exec = Jvm.exec) (hd : decode c.code pc = .ok (.ladd, 1)) (k : Go p e below s T (mkF m (pc + 1) Ls (.long (x + y) :: rest)) Q kc ks) : Go p e below s T (mkF m pc Ls (.long y :: .long x :: rest)) Q kc ks :=
  Go.step (fun _ => XT.ladd X.here hx (g := mkF m pc Ls (.long y :: .long x :: rest)) rfl hd rfl) k
theorem Go.lsub {x y : Int64} (X : Stand p l e R s m args below meth c T locs cells slots) (hx : p.tables.exec = Jvm.exec) (hd : decode c.code pc = .ok (.lsub, 1)) (k : Go p e below s T (mkF m (pc + 1) Ls (.long (x - y) :: rest)) Q kc ks) : Go p e below s T (mkF m pc Ls (.long y :: .long x :: rest)) Q kc ks :=
  Go.step (fun _ => XT.lsub X.here hx (g := mkF m pc Ls (.long y :: .long x :: rest)) rfl hd rfl) k
theorem Go.lmul {x y : Int64} (X : Stand p l e R s m args below meth c T locs cells slots) (hx : p.tables.exec = Jvm.exec) (hd : decode c.code pc = .ok (.lmul, 1)) (k : Go p e below s T (mkF m (pc + 1) Ls (.long (x * y) :: rest)) Q kc ks) : Go p e below s T (mkF m pc Ls (.long y :: .long x :: rest)) Q kc ks :=
  Go.step (fun _ => XT.lmul X.here hx (g := mkF m pc Ls (.long y :: .long x :: rest)) rfl hd rfl) k
theorem Go.land {x y : Int64} (X : Stand p l e R s m args below meth c T locs cells slots) (hx : p.tables.exec = Jvm.exec) (hd : decode c.code pc = .ok (.land, 1)) (k : Go p e below s T (mkF m (pc + 1) Ls (.long (x &&& y) :: rest)) Q kc ks) : Go p e below s T (mkF m pc Ls (.long y :: .long x :: rest)) Q kc ks :=
  Go.step (fun _ => XT.land X.here hx (g := mkF m pc Ls (.long y :: .long x :: rest)) rfl hd rfl) k
theorem Go.lor {x y : Int64} (X : Stand p l e R s m args below meth c T locs cells slots) (hx : p.tables.exec = Jvm.exec) (hd : decode c.code pc = .ok (.lor, 1)) (k : Go p e below s T (mkF m (pc + 1) Ls (.long (x ||| y) :: rest)) Q kc ks) : Go p e below s T (mkF m pc Ls (.long y :: .long x :: rest)) Q kc ks :=
  Go.step (fun _ => XT.lor X.here hx (g := mkF m pc Ls (.long y :: .long x :: rest)) rfl hd rfl) k
theorem Go.lxor {x y : Int64} (X : Stand p l e R s m args below meth c T locs cells slots) (hx : p.tables.exec = Jvm.exec) (hd : decode c.code pc = .ok (.lxor, 1)) (k : Go p e below s T (mkF m (pc + 1) Ls (.long (x ^^^ y) :: rest)) Q kc ks) : Go p e below s T (mkF m pc Ls (.long y :: .long x :: rest)) Q kc ks :=
  Go.step (fun _ => XT.lxor X.here hx (g := mkF m pc Ls (.long y :: .long x :: rest)) rfl hd rfl) k
theorem Go.lcmp {x y : Int64} (X : Stand p l e R s m args below meth c T locs cells slots) (hx : p.tables.exec = Jvm.exec) (hd : decode c.code pc = .ok (.lcmp, 1)) (k : Go p e below s T (mkF m (pc + 1) Ls (.int (XT.cmpL x y) :: rest)) Q kc ks) : Go p e below s T (mkF m pc Ls (.long y :: .long x :: rest)) Q kc ks :=
  Go.step (fun _ => XT.lcmp X.here hx (g := mkF m pc Ls (.long y :: .long x :: rest)) rfl hd rfl) k
theorem Go.lshl {x : Int64} {y : Int32} (X : Stand p l e R s m args below meth c T locs cells slots) (hx : p.tables.exec = Jvm.exec) (hd : decode c.code pc = .ok (.lshl, 1)) (k : Go p e below s T (mkF m (pc + 1) Ls (.long (x <<< (y.toInt64 &&& 63)) :: rest)) Q kc ks) : Go p e below s T (mkF m pc Ls (.int y :: .long x :: rest)) Q kc ks :=
  Go.step (fun _ => XT.lshl X.here hx (g := mkF m pc Ls (.int y :: .long x :: rest)) rfl hd rfl) k
theorem Go.lshr {x : Int64} {y : Int32} (X : Stand p l e R s m args below meth c T locs cells slots) (hx : p.tables.exec = Jvm.exec) (hd : decode c.code pc = .ok (.lshr, 1)) (k : Go p e below s T (mkF m (pc + 1) Ls (.long (x >>> (y.toInt64 &&& 63)) :: rest)) Q kc ks) : Go p e below s T (mkF m pc Ls (.int y :: .long x :: rest)) Q kc ks :=
  Go.step (fun _ => XT.lshr X.here hx (g := mkF m pc Ls (.int y :: .long x :: rest)) rfl hd rfl) k
theorem Go.lushr {x : Int64} {y : Int32} (X : Stand p l e R s m args below meth c T locs cells slots) (hx : p.tables.exec = Jvm.exec) (hd : decode c.code pc = .ok (.lushr, 1)) (k : Go p e below s T (mkF m (pc + 1) Ls (.long (XT.ushrL x y) :: rest)) Q kc ks) : Go p e below s T (mkF m pc Ls (.int y :: .long x :: rest)) Q kc ks :=
  Go.step (fun _ => XT.lushr X.here hx (g := mkF m pc Ls (.int y :: .long x :: rest)) rfl hd rfl) k
theorem Go.i2b {x : Int32} (X : Stand p l e R s m args below meth c T locs cells slots) (hx : p.tables.exec = Jvm.exec) (hd : decode c.code pc = .ok (.i2b, 1)) (k : Go p e below s T (mkF m (pc + 1) Ls (.int (x.toInt8.toInt32) :: rest)) Q kc ks) : Go p e below s T (mkF m pc Ls (.int x :: rest)) Q kc ks :=
  Go.step (fun _ => XT.i2b X.here hx (g := mkF m pc Ls (.int x :: rest)) rfl hd rfl) k
theorem Go.i2c {x : Int32} (X : Stand p l e R s m args below meth c T locs cells slots) (hx : p.tables.exec = Jvm.exec) (hd : decode c.code pc = .ok (.i2c, 1)) (k : Go p e below s T (mkF m (pc + 1) Ls (.int (x.toUInt32.toUInt16.toUInt32.toInt32) :: rest)) Q kc ks) : Go p e below s T (mkF m pc Ls (.int x :: rest)) Q kc ks :=
  Go.step (fun _ => XT.i2c X.here hx (g := mkF m pc Ls (.int x :: rest)) rfl hd rfl) k
theorem Go.i2s {x : Int32} (X : Stand p l e R s m args below meth c T locs cells slots) (hx : p.tables.exec = Jvm.exec) (hd : decode c.code pc = .ok (.i2s, 1)) (k : Go p e below s T (mkF m (pc + 1) Ls (.int (x.toInt16.toInt32) :: rest)) Q kc ks) : Go p e below s T (mkF m pc Ls (.int x :: rest)) Q kc ks :=
  Go.step (fun _ => XT.i2s X.here hx (g := mkF m pc Ls (.int x :: rest)) rfl hd rfl) k
theorem Go.i2l {x : Int32} (X : Stand p l e R s m args below meth c T locs cells slots) (hx : p.tables.exec = Jvm.exec) (hd : decode c.code pc = .ok (.i2l, 1)) (k : Go p e below s T (mkF m (pc + 1) Ls (.long (x.toInt64) :: rest)) Q kc ks) : Go p e below s T (mkF m pc Ls (.int x :: rest)) Q kc ks :=
  Go.step (fun _ => XT.i2l X.here hx (g := mkF m pc Ls (.int x :: rest)) rfl hd rfl) k
theorem Go.ineg {x : Int32} (X : Stand p l e R s m args below meth c T locs cells slots) (hx : p.tables.exec = Jvm.exec) (hd : decode c.code pc = .ok (.ineg, 1)) (k : Go p e below s T (mkF m (pc + 1) Ls (.int (-x) :: rest)) Q kc ks) : Go p e below s T (mkF m pc Ls (.int x :: rest)) Q kc ks :=
  Go.step (fun _ => XS.ineg X.here hx (g := mkF m pc Ls (.int x :: rest)) rfl hd rfl) k
theorem Go.l2i {x : Int64} (X : Stand p l e R s m args below meth c T locs cells slots) (hx : p.tables.exec = Jvm.exec) (hd : decode c.code pc = .ok (.l2i, 1)) (k : Go p e below s T (mkF m (pc + 1) Ls (.int (x.toInt32) :: rest)) Q kc ks) : Go p e below s T (mkF m pc Ls (.long x :: rest)) Q kc ks :=
  Go.step (fun _ => XT.l2i X.here hx (g := mkF m pc Ls (.long x :: rest)) rfl hd rfl) k
theorem Go.iconst {i : Int} (X : Stand p l e R s m args below meth c T locs cells slots) (hx : p.tables.exec = Jvm.exec) (hd : decode c.code pc = .ok (.iconst i, 1)) (k : Go p e below s T (mkF m (pc + 1) Ls (.int (Int32.ofInt i) :: rest)) Q kc ks) : Go p e below s T (mkF m pc Ls rest) Q kc ks :=
  Go.step (fun _ => XS.iconst X.here hx (g := mkF m pc Ls rest) rfl hd) k
theorem Go.bipush {i : Int} (X : Stand p l e R s m args below meth c T locs cells slots) (hx : p.tables.exec = Jvm.exec) (hd : decode c.code pc = .ok (.bipush i, 2)) (k : Go p e below s T (mkF m (pc + 2) Ls (.int (Int8.ofInt i).toInt32 :: rest)) Q kc ks) : Go p e below s T (mkF m pc Ls rest) Q kc ks :=
  Go.step (fun _ => XS.bipush X.here hx (g := mkF m pc Ls rest) rfl hd) k
theorem Go.sipush {i : Int} (X : Stand p l e R s m args below meth c T locs cells slots) (hx : p.tables.exec = Jvm.exec) (hd : decode c.code pc = .ok (.sipush i, 3)) (k : Go p e below s T (mkF m (pc + 3) Ls (.int (Int16.ofInt i).toInt32 :: rest)) Q kc ks) : Go p e below s T (mkF m pc Ls rest) Q kc ks :=
  Go.step (fun _ => XS.sipush X.here hx (g := mkF m pc Ls rest) rfl hd) k
theorem Go.lconst {k0 : Fin 2} (X : Stand p l e R s m args below meth c T locs cells slots) (hx : p.tables.exec = Jvm.exec) (hd : decode c.code pc = .ok (.lconst k0, 1)) (k : Go p e below s T (mkF m (pc + 1) Ls (.long (Int64.ofNat k0) :: rest)) Q kc ks) : Go p e below s T (mkF m pc Ls rest) Q kc ks :=
  Go.step (fun _ => XT.lconst X.here hx (g := mkF m pc Ls rest) rfl hd) k
theorem Go.aconst_null (X : Stand p l e R s m args below meth c T locs cells slots) (hx : p.tables.exec = Jvm.exec) (hd : decode c.code pc = .ok (.aconst_null, 1)) (k : Go p e below s T (mkF m (pc + 1) Ls (.null :: rest)) Q kc ks) : Go p e below s T (mkF m pc Ls rest) Q kc ks :=
  Go.step (fun _ => XS.aconstNull X.here hx (g := mkF m pc Ls rest) rfl hd) k
theorem Go.iload {k0 : Nat} {v : Int32} (X : Stand p l e R s m args below meth c T locs cells slots) (hx : p.tables.exec = Jvm.exec) (hd : decode c.code pc = .ok (.iload k0, 2)) (hl : Ls[k0]? = some (.val (.int v))) (k : Go p e below s T (mkF m (pc + 2) Ls (.int v :: rest)) Q kc ks) : Go p e below s T (mkF m pc Ls rest) Q kc ks :=
  Go.step (fun _ => XS.iload X.here hx (g := mkF m pc Ls rest) rfl hd hl) k
theorem Go.iloadN {k0 : Fin 4} {v : Int32} (X : Stand p l e R s m args below meth c T locs cells slots) (hx : p.tables.exec = Jvm.exec) (hd : decode c.code pc = .ok (.iload_n k0, 1)) (hl : Ls[k0.val]? = some (.val (.int v))) (k : Go p e below s T (mkF m (pc + 1) Ls (.int v :: rest)) Q kc ks) : Go p e below s T (mkF m pc Ls rest) Q kc ks :=
  Go.step (fun _ => XS.iloadN X.here hx (g := mkF m pc Ls rest) rfl hd hl) k
theorem Go.istore {k0 : Nat} {v : Int32} {l' : Array Slot} (X : Stand p l e R s m args below meth c T locs cells slots) (hx : p.tables.exec = Jvm.exec) (hd : decode c.code pc = .ok (.istore k0, 2)) (hl : storeLocals Ls k0 (.int v) = some l') (k : Go p e below s T (mkF m (pc + 2) l' rest) Q kc ks) : Go p e below s T (mkF m pc Ls (.int v :: rest)) Q kc ks :=
  Go.step (fun _ => XS.istore X.here hx (g := mkF m pc Ls (.int v :: rest)) rfl hd rfl hl) k
theorem Go.istoreN {k0 : Fin 4} {v : Int32} {l' : Array Slot} (X : Stand p l e R s m args below meth c T locs cells slots) (hx : p.tables.exec = Jvm.exec) (hd : decode c.code pc = .ok (.istore_n k0, 1)) (hl : storeLocals Ls k0.val (.int v) = some l') (k : Go p e below s T (mkF m (pc + 1) l' rest) Q kc ks) : Go p e below s T (mkF m pc Ls (.int v :: rest)) Q kc ks :=
  Go.step (fun _ => XS.istoreN X.here hx (g := mkF m pc Ls (.int v :: rest)) rfl hd rfl hl) k
theorem Go.lload {k0 : Nat} {v : Int64} (X : Stand p l e R s m args below meth c T locs cells slots) (hx : p.tables.exec = Jvm.exec) (hd : decode c.code pc = .ok (.lload k0, 2)) (hl : Ls[k0]? = some (.val (.long v))) (k : Go p e below s T (mkF m (pc + 2) Ls (.long v :: rest)) Q kc ks) : Go p e below s T (mkF m pc Ls rest) Q kc ks :=
  Go.step (fun _ => XT.lload X.here hx (g := mkF m pc Ls rest) rfl hd hl) k
theorem Go.lloadN {k0 : Fin 4} {v : Int64} (X : Stand p l e R s m args below meth c T locs cells slots) (hx : p.tables.exec = Jvm.exec) (hd : decode c.code pc = .ok (.lload_n k0, 1)) (hl : Ls[k0.val]? = some (.val (.long v))) (k : Go p e below s T (mkF m (pc + 1) Ls (.long v :: rest)) Q kc ks) : Go p e below s T (mkF m pc Ls rest) Q kc ks :=
  Go.step (fun _ => XT.lloadN X.here hx (g := mkF m pc Ls rest) rfl hd hl) k
theorem Go.lstore {k0 : Nat} {v : Int64} {l' : Array Slot} (X : Stand p l e R s m args below meth c T locs cells slots) (hx : p.tables.exec = Jvm.exec) (hd : decode c.code pc = .ok (.lstore k0, 2)) (hl : storeLocals Ls k0 (.long v) = some l') (k : Go p e below s T (mkF m (pc + 2) l' rest) Q kc ks) : Go p e below s T (mkF m pc Ls (.long v :: rest)) Q kc ks :=
  Go.step (fun _ => XT.lstore X.here hx (g := mkF m pc Ls (.long v :: rest)) rfl hd rfl hl) k
theorem Go.lstoreN {k0 : Fin 4} {v : Int64} {l' : Array Slot} (X : Stand p l e R s m args below meth c T locs cells slots) (hx : p.tables.exec = Jvm.exec) (hd : decode c.code pc = .ok (.lstore_n k0, 1)) (hl : storeLocals Ls k0.val (.long v) = some l') (k : Go p e below s T (mkF m (pc + 1) l' rest) Q kc ks) : Go p e below s T (mkF m pc Ls (.long v :: rest)) Q kc ks :=
  Go.step (fun _ => XT.lstoreN X.here hx (g := mkF m pc Ls (.long v :: rest)) rfl hd rfl hl) k
theorem Go.aload {k0 : Nat} {v : Value} (X : Stand p l e R s m args below meth c T locs cells slots) (hx : p.tables.exec = Jvm.exec) (hd : decode c.code pc = .ok (.aload k0, 2)) (hl : Ls[k0]? = some (.val v)) (hv : v.isRef = true) (k : Go p e below s T (mkF m (pc + 2) Ls (v :: rest)) Q kc ks) : Go p e below s T (mkF m pc Ls rest) Q kc ks :=
  Go.step (fun _ => XS.aload X.here hx (g := mkF m pc Ls rest) rfl hd hl hv) k
theorem Go.aloadN {k0 : Fin 4} {v : Value} (X : Stand p l e R s m args below meth c T locs cells slots) (hx : p.tables.exec = Jvm.exec) (hd : decode c.code pc = .ok (.aload_n k0, 1)) (hl : Ls[k0.val]? = some (.val v)) (hv : v.isRef = true) (k : Go p e below s T (mkF m (pc + 1) Ls (v :: rest)) Q kc ks) : Go p e below s T (mkF m pc Ls rest) Q kc ks :=
  Go.step (fun _ => XS.aloadN X.here hx (g := mkF m pc Ls rest) rfl hd hl hv) k
theorem Go.astore {k0 : Nat} {v : Value} {l' : Array Slot} (X : Stand p l e R s m args below meth c T locs cells slots) (hx : p.tables.exec = Jvm.exec) (hd : decode c.code pc = .ok (.astore k0, 2)) (hv : v.isRef = true) (hl : storeLocals Ls k0 v = some l') (k : Go p e below s T (mkF m (pc + 2) l' rest) Q kc ks) : Go p e below s T (mkF m pc Ls (v :: rest)) Q kc ks :=
  Go.step (fun _ => XS.astore X.here hx (g := mkF m pc Ls (v :: rest)) rfl hd rfl hv hl) k
theorem Go.astoreN {k0 : Fin 4} {v : Value} {l' : Array Slot} (X : Stand p l e R s m args below meth c T locs cells slots) (hx : p.tables.exec = Jvm.exec) (hd : decode c.code pc = .ok (.astore_n k0, 1)) (hv : v.isRef = true) (hl : storeLocals Ls k0.val v = some l') (k : Go p e below s T (mkF m (pc + 1) l' rest) Q kc ks) : Go p e below s T (mkF m pc Ls (v :: rest)) Q kc ks :=
  Go.step (fun _ => XS.astoreN X.here hx (g := mkF m pc Ls (v :: rest)) rfl hd rfl hv hl) k
theorem Go.iinc {k0 : Nat} {cst : Int} {x : Int32} {l' : Array Slot} (X : Stand p l e R s m args below meth c T locs cells slots) (hx : p.tables.exec = Jvm.exec) (hd : decode c.code pc = .ok (.iinc k0 cst, 3)) (hl : Ls[k0]? = some (.val (.int x))) (hs : storeLocals Ls k0 (.int (x + Int32.ofInt cst)) = some l') (k : Go p e below s T (mkF m (pc + 3) l' rest) Q kc ks) : Go p e below s T (mkF m pc Ls rest) Q kc ks :=
  Go.step (fun _ => XS.iinc X.here hx (g := mkF m pc Ls rest) rfl hd hl hs) k
theorem Go.dup {v : Value} (X : Stand p l e R s m args below meth c T locs cells slots) (hx : p.tables.exec = Jvm.exec) (hd : decode c.code pc = .ok (.dup, 1)) (hv : v.category = 1) (k : Go p e below s T (mkF m (pc + 1) Ls (v :: v :: rest)) Q kc ks) : Go p e below s T (mkF m pc Ls (v :: rest)) Q kc ks :=
  Go.step (fun _ => XS.dup X.here hx (g := mkF m pc Ls (v :: rest)) rfl hd rfl hv) k
theorem Go.pop {v : Value} (X : Stand p l e R s m args below meth c T locs cells slots) (hx : p.tables.exec = Jvm.exec) (hd : decode c.code pc = .ok (.pop, 1)) (hv : v.category = 1) (k : Go p e below s T (mkF m (pc + 1) Ls rest) Q kc ks) : Go p e below s T (mkF m pc Ls (v :: rest)) Q kc ks :=
  Go.step (fun _ => XT.pop X.here hx (g := mkF m pc Ls (v :: rest)) rfl hd rfl hv) k
theorem Go.dup_x1 {v w : Value} (X : Stand p l e R s m args below meth c T locs cells slots) (hx : p.tables.exec = Jvm.exec) (hd : decode c.code pc = .ok (.dup_x1, 1)) (hv : v.category = 1) (hw' : w.category = 1) (k : Go p e below s T (mkF m (pc + 1) Ls (v :: w :: v :: rest)) Q kc ks) : Go p e below s T (mkF m pc Ls (v :: w :: rest)) Q kc ks :=
  Go.step (fun _ => XT.dupX1 X.here hx (g := mkF m pc Ls (v :: w :: rest)) rfl hd rfl hv hw') k
theorem Go.dup2 {v w : Value} (X : Stand p l e R s m args below meth c T locs cells slots) (hx : p.tables.exec = Jvm.exec) (hd : decode c.code pc = .ok (.dup2, 1)) (hv : v.category = 1) (hw' : w.category = 1) (k : Go p e below s T (mkF m (pc + 1) Ls (v :: w :: v :: w :: rest)) Q kc ks) : Go p e below s T (mkF m pc Ls (v :: w :: rest)) Q kc ks :=
  Go.step (fun _ => XT.dup2 X.here hx (g := mkF m pc Ls (v :: w :: rest)) rfl hd rfl hv hw') k
theorem Go.goto {o : Int} {pc' : Nat} (X : Stand p l e R s m args below meth c T locs cells slots) (hx : p.tables.exec = Jvm.exec) (hd : decode c.code pc = .ok (.goto o, 3)) (ho : 0 ≤ (pc : Int) + o) (hp : ((pc : Int) + o).toNat = pc') (k : Go p e below s T (mkF m pc' Ls rest) Q kc ks) : Go p e below s T (mkF m pc Ls rest) Q kc ks :=
  Go.step (fun _ => XS.goto X.here hx (g := mkF m pc Ls rest) rfl rfl hd ho hp) k
theorem Go.ifYes {cd : ClassFile.Cond} {x : Int32} {o : Int} {pc' : Nat} (X : Stand p l e R s m args below meth c T locs cells slots) (hx : p.tables.exec = Jvm.exec) (hd : decode c.code pc = .ok (.ifCond cd o, 3)) (hc : ifCond.holds cd x = true) (ho : 0 ≤ (pc : Int) + o) (hp : ((pc : Int) + o).toNat = pc') (k : Go p e below s T (mkF m pc' Ls rest) Q kc ks) : Go p e below s T (mkF m pc Ls (.int x :: rest)) Q kc ks :=
  Go.step (fun _ => XS.ifYes X.here hx (g := mkF m pc Ls (.int x :: rest)) rfl rfl hd rfl hc ho hp) k
theorem Go.ifNo {cd : ClassFile.Cond} {x : Int32} {o : Int} (X : Stand p l e R s m args below meth c T locs cells slots) (hx : p.tables.exec = Jvm.exec) (hd : decode c.code pc = .ok (.ifCond cd o, 3)) (hc : ifCond.holds cd x = false) (k : Go p e below s T (mkF m (pc + 3) Ls rest) Q kc ks) : Go p e below s T (mkF m pc Ls (.int x :: rest)) Q kc ks :=
  Go.step (fun _ => XS.ifNo X.here hx (g := mkF m pc Ls (.int x :: rest)) rfl hd rfl hc) k
theorem Go.icmpYes {cd : ClassFile.Cond} {x y : Int32} {o : Int} {pc' : Nat} (X : Stand p l e R s m args below meth c T locs cells slots) (hx : p.tables.exec = Jvm.exec) (hd : decode c.code pc = .ok (.if_icmp cd o, 3)) (hc : if_icmp.holds cd x y = true) (ho : 0 ≤ (pc : Int) + o) (hp : ((pc : Int) + o).toNat = pc') (k : Go p e below s T (mkF m pc' Ls rest) Q kc ks) : Go p e below s T (mkF m pc Ls (.int y :: .int x :: rest)) Q kc ks :=
  Go.step (fun _ => XS.icmpYes X.here hx (g := mkF m pc Ls (.int y :: .int x :: rest)) rfl rfl hd rfl hc ho hp) k
theorem Go.icmpNo {cd : ClassFile.Cond} {x y : Int32} {o : Int} (X : Stand p l e R s m args below meth c T locs cells slots) (hx : p.tables.exec = Jvm.exec) (hd : decode c.code pc = .ok (.if_icmp cd o, 3)) (hc : if_icmp.holds cd x y = false) (k : Go p e below s T (mkF m (pc + 3) Ls rest) Q kc ks) : Go p e below s T (mkF m pc Ls (.int y :: .int x :: rest)) Q kc ks :=
  Go.step (fun _ => XS.icmpNo X.here hx (g := mkF m pc Ls (.int y :: .int x :: rest)) rfl hd rfl hc) k
theorem Go.acmpYes {cd : ClassFile.ACond} {x y : Value} {o : Int} {pc' : Nat} (X : Stand p l e R s m args below meth c T locs cells slots) (hx : p.tables.exec = Jvm.exec) (hd : decode c.code pc = .ok (.if_acmp cd o, 3)) (h1 : x.isRef = true) (h2 : y.isRef = true) (hc : XT.acmp cd x y = true) (ho : 0 ≤ (pc : Int) + o) (hp : ((pc : Int) + o).toNat = pc') (k : Go p e below s T (mkF m pc' Ls rest) Q kc ks) : Go p e below s T (mkF m pc Ls (y :: x :: rest)) Q kc ks :=
  Go.step (fun _ => XT.acmpYes X.here hx (g := mkF m pc Ls (y :: x :: rest)) rfl rfl hd rfl h1 h2 hc ho hp) k
theorem Go.acmpNo {cd : ClassFile.ACond} {x y : Value} {o : Int} (X : Stand p l e R s m args below meth c T locs cells slots) (hx : p.tables.exec = Jvm.exec) (hd : decode c.code pc = .ok (.if_acmp cd o, 3)) (h1 : x.isRef = true) (h2 : y.isRef = true) (hc : XT.acmp cd x y = false) (k : Go p e below s T (mkF m (pc + 3) Ls rest) Q kc ks) : Go p e below s T (mkF m pc Ls (y :: x :: rest)) Q kc ks :=
  Go.step (fun _ => XT.acmpNo X.here hx (g := mkF m pc Ls (y :: x :: rest)) rfl hd rfl h1 h2 hc) k
theorem Go.ifnullYes {a : Addr} {o : Int} {pc' : Nat} (X : Stand p l e R s m args below meth c T locs cells slots) (hx : p.tables.exec = Jvm.exec) (hd : decode c.code pc = .ok (.ifnull o, 3)) (ho : 0 ≤ (pc : Int) + o) (hp : ((pc : Int) + o).toNat = pc') (k : Go p e below s T (mkF m pc' Ls rest) Q kc ks) : Go p e below s T (mkF m pc Ls (.null :: rest)) Q kc ks :=
  Go.step (fun _ => XS.ifnullYes X.here hx (g := mkF m pc Ls (.null :: rest)) rfl rfl hd rfl ho hp) k
theorem Go.ifnullNo {a : Addr} {o : Int} (X : Stand p l e R s m args below meth c T locs cells slots) (hx : p.tables.exec = Jvm.exec) (hd : decode c.code pc = .ok (.ifnull o, 3)) (k : Go p e below s T (mkF m (pc + 3) Ls rest) Q kc ks) : Go p e below s T (mkF m pc Ls (.ref a :: rest)) Q kc ks :=
  Go.step (fun _ => XS.ifnullNo X.here hx (g := mkF m pc Ls (.ref a :: rest)) rfl hd rfl) k
theorem Go.ifnonnullYes {a : Addr} {o : Int} {pc' : Nat} (X : Stand p l e R s m args below meth c T locs cells slots) (hx : p.tables.exec = Jvm.exec) (hd : decode c.code pc = .ok (.ifnonnull o, 3)) (ho : 0 ≤ (pc : Int) + o) (hp : ((pc : Int) + o).toNat = pc') (k : Go p e below s T (mkF m pc' Ls rest) Q kc ks) : Go p e below s T (mkF m pc Ls (.ref a :: rest)) Q kc ks :=
  Go.step (fun _ => XT.ifnonnullYes X.here hx (g := mkF m pc Ls (.ref a :: rest)) rfl rfl hd rfl ho hp) k
theorem Go.ifnonnullNo {a : Addr} {o : Int} (X : Stand p l e R s m args below meth c T locs cells slots) (hx : p.tables.exec = Jvm.exec) (hd : decode c.code pc = .ok (.ifnonnull o, 3)) (k : Go p e below s T (mkF m (pc + 3) Ls rest) Q kc ks) : Go p e below s T (mkF m pc Ls (.null :: rest)) Q kc ks :=
  Go.step (fun _ => XT.ifnonnullNo X.here hx (g := mkF m pc Ls (.null :: rest)) rfl hd rfl) k
end Steps
section Conds
variable {x y : Int32} {u v : Int64} {a b : Addr}
theorem ac_eq_p (h : a = b) : XT.acmp .eq (.ref a) (.ref b) = true := by simp [XT.acmp, h]
theorem ac_eq_n (h : ¬ a = b) : XT.acmp .eq (.ref a) (.ref b) = false := by simp [XT.acmp, h]
theorem ac_ne_p (h : a = b) : XT.acmp .ne (.ref a) (.ref b) = false := by simp [XT.acmp, h]
theorem ac_ne_n (h : ¬ a = b) : XT.acmp .ne (.ref a) (.ref b) = true := by simp [XT.acmp, h]
end Conds
end Jvm.OwnK
namespace Jvm.OwnK
open Sem ClassFile Op Lib Jvm.Free Jvm.Stand Jvm.LawKit Jvm.RoadKit
section Heap
variable {p : Program} {l : Launch} {e : Env} {R : Room} {s : State} {m : MethodId} {args : Array Value} {below : List Frame} {meth : Method} {c : Code} {T T' : State} {locs : List Loc} {cells slots : Nat} {Q : Option Value → Heap → List Loc → Prop} {kc ks : Nat} {Z : State} {a0 : Array Value} {h h' : Heap} {pc : Nat} {Ls : Array Slot} {rest : List Value}
theorem Go.getF {own R0 O n d : String} {index : Nat} {a : Addr} {v : Value} (X : Stand p l e R s m args below meth c T locs cells slots) (hx : p.tables.exec = Jvm.exec) (hZ : Z.Warmed39 s.vm) (hown : s.vm.findClass own = some m.cls) (w : (Jvm.Cond.fieldLink own index R0 n d).before a0 Z = true) (via : Via Z R0 O n d) (eT : T.heap = h) (F : Fld Z h a O n d v) (hd : decode c.code pc = .ok (.getfield index, 3))
    (k : ∀ T', Stand p l e R s m args below meth c T' locs cells slots → T'.heap = h → Go p e below s T' (mkF m (pc + 3) Ls (v :: rest)) Q kc ks) : Go p e below s T (mkF m pc Ls (.ref a :: rest)) Q kc ks := by
  obtain ⟨T', X', e', st⟩ := RoadKit.getF X hx hZ hown (host := "") (Or.inl w) via eT F (g := mkF m pc Ls (.ref a :: rest)) rfl rfl hd
  exact Go.step st (k T' X' e')
theorem Go.getS {own R0 O n d : String} {index : Nat} {v : Value} (X : Stand p l e R s m args below meth c T locs cells slots) (hx : p.tables.exec = Jvm.exec) (hZ : Z.Warmed39 s.vm) (hown : s.vm.findClass own = some m.cls) (w : (Jvm.Cond.fieldLink own index R0 n d).before a0 Z = true) (via : Via Z R0 O n d) (eT : T.heap = h) (F : Sta Z h O n d v) (hd : decode c.code pc = .ok (.getstatic index, 3))
    (k : ∀ T', Stand p l e R s m args below meth c T' locs cells slots → T'.heap = h → Go p e below s T' (mkF m (pc + 3) Ls (v :: rest)) Q kc ks) : Go p e below s T (mkF m pc Ls rest) Q kc ks := by
  obtain ⟨T', X', e', st⟩ := RoadKit.getS X hx hZ hown (host := "") w via eT F (g := mkF m pc Ls rest) rfl hd
  exact Go.step st (k T' X' e')
theorem Go.putF {own R0 O n d C : String} {index kk : Nat} {ty : FieldType} {a : Addr} {v old : Value} (X : Stand p l e R s m args below meth c T locs cells slots) (hx : p.tables.exec = Jvm.exec) (hZ : Z.Warmed39 s.vm) (hown : s.vm.findClass own = some m.cls) (w : (Jvm.Cond.fieldLink own index R0 n d).before a0 Z = true) (via : Via Z R0 O n d) (eT : T.heap = h) (F : Fld Z h a O n d old) (E : Exa Z h a C)
    (L : (Jvm.Cond.lays C O n d).before a0 Z = true ∨ ((Jvm.Cond.laysFinal C O n d).before a0 Z = true ∧ own = O ∧ meth.name = "<init>")) (wi : (Jvm.Cond.instantiable C kk).before a0 Z = true) (hty : parseFieldDescriptor d = some ty) (hn : narrow ty v = v) (hf : fits ty v = true) (hd : decode c.code pc = .ok (.putfield index, 3))
    (k : ∀ T' h', Stand p l e R s m args below meth c T' (locs ++ [⟨a, Jvm.RoadKit.slotOf Z O n d⟩]) cells slots → T'.heap = h' → Wr h h' a (Jvm.RoadKit.slotOf Z O n d) v → Go p e below s T' (mkF m (pc + 3) Ls rest) Q kc ks) : Go p e below s T (mkF m pc Ls (v :: .ref a :: rest)) Q kc ks := by
  obtain ⟨T', h', X', e', W, st⟩ := RoadKit.putF X hx hZ hown (host := "") (Or.inl w) via eT F E L wi hty hn hf (g := mkF m pc Ls (v :: .ref a :: rest)) rfl rfl hd
  exact Go.step st (k T' h' X' e' W)
theorem Go.initO {own : String} {idx : Nat} {W : Nat} {a : Addr} (X : Stand p l e R s m args below meth c T locs cells slots) (hx : p.tables.exec = Jvm.exec) (hZ : Z.Warmed39 s.vm) (hown : s.vm.findClass own = some m.cls) (w1 : (Jvm.Cond.methodLink own idx Lib.objectInit).before a0 Z = true) (w2 : (Jvm.Cond.instanceMethod Lib.objectInit).before a0 Z = true)
    (w3 : (Jvm.Cond.code Lib.objectInit ⟨#[0xb1]⟩ 1 none).before a0 Z = true) (eT : T.heap = h) (hd : decode c.code pc = .ok (.invokespecial idx, 3)) (hsize : Ls.size = c.maxLocals) (hW : (rest.map fun v => v.category).sum ≤ W) (hf : 1 ≤ R.frames) (hl : W + 12 ≤ R.locals)
    (k : ∀ T', Stand p l e R s m args below meth c T' locs cells slots → T'.heap = h → Go p e below s T' (mkF m (pc + 3) Ls rest) Q kc ks) : Go p e below s T (mkF m pc Ls (.ref a :: rest)) Q kc ks := by
  obtain ⟨T', X', e', st⟩ := RoadKit.initO X hx hZ hown w1 w2 w3 eT (g := mkF m pc Ls (.ref a :: rest)) rfl hsize rfl hd hf (W := W) (by show 2 * 0 + _ ≤ _; omega) hl
  exact Go.step st (k T' X' e')
theorem Go.newO {own C : String} {index n : Nat} (X : Stand p l e R s m args below meth c T locs cells slots) (hx : p.tables.exec = Jvm.exec) (hZ : Z.Warmed39 s.vm) (hown : s.vm.findClass own = some m.cls) (w : (Jvm.Cond.classLink own index C).before a0 Z = true) (wi : (Jvm.Cond.instantiable C n).before a0 Z = true) (wz : (Jvm.Cond.initialized C).before a0 Z = true) (eT : T.heap = h)
    (hd : decode c.code pc = .ok (.new index, 3)) (hc : cells + 1 ≤ R.cells) (hl : slots + n ≤ R.slots)
    (k : ∀ T' h' a, a = h.size → Stand p l e R s m args below meth c T' locs (cells + 1) (slots + n) → T'.heap = h' → Ext h h' → Exa Z h' a C → (∀ {O nm d : String} {ty : FieldType}, Laid Z a0 C O nm d → parseFieldDescriptor d = some ty → Fld Z h' a O nm d (defaultValue ty)) →
      Go p e below s T' (mkF m (pc + 3) Ls (.ref a :: rest)) Q kc ks) : Go p e below s T (mkF m pc Ls rest) Q kc ks := by
  obtain ⟨T', h', X', e', E, A, D, -, st⟩ := RoadKit.newO X hx hZ hown w wi wz eT (g := mkF m pc Ls rest) rfl hd hc hl
  exact Go.step st (k T' h' _ rfl X' e' E A D)
theorem Go.ccast {own K : String} {index : Nat} {a : Addr} (X : Stand p l e R s m args below meth c T locs cells slots) (hx : p.tables.exec = Jvm.exec) (hZ : Z.Warmed39 s.vm) (hown : s.vm.findClass own = some m.cls) (w : (Jvm.Cond.classLink own index K).before a0 Z = true) (eT : T.heap = h) (F : Ins Z h a K true) (hd : decode c.code pc = .ok (.checkcast index, 3))
    (k : ∀ T', Stand p l e R s m args below meth c T' locs cells slots → T'.heap = h → Go p e below s T' (mkF m (pc + 3) Ls (.ref a :: rest)) Q kc ks) : Go p e below s T (mkF m pc Ls (.ref a :: rest)) Q kc ks := by
  obtain ⟨T', X', e', st⟩ := castY X hx hZ hown w eT F (g := mkF m pc Ls (.ref a :: rest)) rfl rfl hd
  exact Go.step st (k T' X' e')
theorem Go.instY {own K : String} {index : Nat} {a : Addr} (X : Stand p l e R s m args below meth c T locs cells slots) (hx : p.tables.exec = Jvm.exec) (hZ : Z.Warmed39 s.vm) (hown : s.vm.findClass own = some m.cls) (w : (Jvm.Cond.classLink own index K).before a0 Z = true) (eT : T.heap = h) (F : Ins Z h a K true) (hd : decode c.code pc = .ok (.instanceof index, 3))
    (k : ∀ T', Stand p l e R s m args below meth c T' locs cells slots → T'.heap = h → Go p e below s T' (mkF m (pc + 3) Ls (.int 1 :: rest)) Q kc ks) : Go p e below s T (mkF m pc Ls (.ref a :: rest)) Q kc ks := by
  obtain ⟨T', X', e', st⟩ := RoadKit.instY X hx hZ hown w eT F (g := mkF m pc Ls (.ref a :: rest)) rfl rfl hd
  exact Go.step st (k T' X' e')
theorem Go.instNull {index : Nat} (X : Stand p l e R s m args below meth c T locs cells slots) (hx : p.tables.exec = Jvm.exec) (hd : decode c.code pc = .ok (.instanceof index, 3))
    (k : Go p e below s T (mkF m (pc + 3) Ls (.int 0 :: rest)) Q kc ks) : Go p e below s T (mkF m pc Ls (.null :: rest)) Q kc ks :=
  Go.step (X.instanceofNull hx (g := mkF m pc Ls (.null :: rest)) rfl rfl hd) k
theorem Go.instNo {own K C : String} {index : Nat} {a : Addr} (X : Stand p l e R s m args below meth c T locs cells slots) (hx : p.tables.exec = Jvm.exec) (hZ : Z.Warmed39 s.vm) (hown : s.vm.findClass own = some m.cls) (w : (Jvm.Cond.classLink own index K).before a0 Z = true) (eT : T.heap = h) (E : Exa Z h a C) (F : ∃ c t, Z.vm.findClass C = some c ∧ Z.vm.findClass K = some t ∧ Z.vm.assignable c t = false) (hd : decode c.code pc = .ok (.instanceof index, 3))
    (k : ∀ T', Stand p l e R s m args below meth c T' locs cells slots → T'.heap = h → Go p e below s T' (mkF m (pc + 3) Ls (.int 0 :: rest)) Q kc ks) : Go p e below s T (mkF m pc Ls (.ref a :: rest)) Q kc ks := by
  obtain ⟨T', X', e', st⟩ := RoadKit.instNo X hx hZ hown w eT E F (g := mkF m pc Ls (.ref a :: rest)) rfl rfl hd
  exact Go.step st (k T' X' e')
/-- an array: its class, length n, its component i is f i -/
def Af (Z : State) (h : Heap) (a : Addr) (k : ClassId) (ty : FieldType) (n : Nat) (f : Nat → Value) : Prop := ∃ c : Cell, Arr Z h a c ty ∧ c.cls = k ∧ c.slots.size = n ∧ n < 2 ^ 31 ∧ ∀ i, i < n → c.slots[i]? = some (f i)
def upd (f : Nat → Value) (j : Nat) (v : Value) : Nat → Value := fun i => if i = j then v else f i
variable {a b : Addr} {cid : ClassId} {ty : FieldType} {n : Nat} {f f' : Nat → Value} {ws : List Addr} {sl : Nat} {v : Value}
theorem Af.lt (F : Af Z h a cid ty n f) : a < h.size := by obtain ⟨_, A, -⟩ := F; exact A.lt
theorem Af.ext (E : Ext h h') (F : Af Z h a cid ty n f) : Af Z h' a cid ty n f := by obtain ⟨cl, A, r⟩ := F; exact ⟨cl, A.ext E, r⟩
theorem Af.other (W : Wr h h' b sl v) (F : Af Z h a cid ty n f) (q : a ≠ b) : Af Z h' a cid ty n f := by obtain ⟨cl, A, r⟩ := F; exact ⟨cl, A.other W q, r⟩
theorem Af.keep (F : Af Z h a cid ty n f) (K : Keep h h' ws) (q : a ∉ ws) : Af Z h' a cid ty n f := by obtain ⟨cl, A, r⟩ := F; exact ⟨cl, ⟨K.2.1 a cl A.1 q, A.2⟩, r⟩
theorem Af.congr (F : Af Z h a cid ty n f) (q : ∀ i, i < n → f' i = f i) : Af Z h a cid ty n f' := by obtain ⟨cl, A, r1, r2, r3, r4⟩ := F; exact ⟨cl, A, r1, r2, r3, fun i hi => by rw [q i hi]; exact r4 i hi⟩
theorem Af.set (F : Af Z h a cid ty n f) (W : Wr h h' a sl v) : Af Z h' a cid ty n (upd f sl v) := by
  obtain ⟨cl, A, r1, r2, r3, r4⟩ := F
  refine ⟨_, A.same W, r1, by rw [sz_set]; exact r2, r3, fun i hi => ?_⟩
  by_cases q : i = sl
  · subst q; simp [upd, Cell.setSlot, r2, hi]
  · simp only [upd, if_neg q]; rw [← r4 i hi]; simp [Cell.setSlot, Array.getElem?_setIfInBounds, Ne.symm q]
theorem Af.arv (A : Arr Z h a (newA cid ty z) ty) (q : ¬ z < 0) : Af Z h a cid ty z.toNatClampNeg (fun _ => defaultValue ty) :=
  ⟨_, A, rfl, sz_new _ _ _, by have := (back32 q).2; exact this, fun i hi => by simp [newA, hi]⟩
def updI (g : Nat → Int32) (j : Nat) (v : Int32) : Nat → Int32 := fun i => if i = j then v else g i
def updJ (g : Nat → Int64) (j : Nat) (v : Int64) : Nat → Int64 := fun i => if i = j then v else g i
theorem Af.updI {g : Nat → Int32} {j : Nat} {x : Int32} (A : Af Z h a cid ty n (upd (fun i => Value.int (g i)) j (.int x))) : Af Z h a cid ty n (fun i => Value.int (Jvm.OwnK.updI g j x i)) :=
  A.congr fun i _ => by simp only [Jvm.OwnK.updI, upd]; split <;> rfl
theorem Af.updJ {g : Nat → Int64} {j : Nat} {x : Int64} (A : Af Z h a cid ty n (upd (fun i => Value.long (g i)) j (.long x))) : Af Z h a cid ty n (fun i => Value.long (Jvm.OwnK.updJ g j x i)) :=
  A.congr fun i _ => by simp only [Jvm.OwnK.updJ, upd]; split <;> rfl
theorem in_of {cl : Cell} {j : Int32} (r2 : cl.slots.size = n) (h1 : ¬ j < 0) (h2 : j.toNatClampNeg < n) : ¬ (j < 0 ∨ cl.slots.size ≤ j.toNatClampNeg) := fun q => q.elim h1 fun z => by omega
theorem Go.alen (X : Stand p l e R s m args below meth c T locs cells slots) (hx : p.tables.exec = Jvm.exec) (hZ : Z.Warmed39 s.vm) (eT : T.heap = h) (A : Af Z h a cid ty n f) (hd : decode c.code pc = .ok (.arraylength, 1)) (k : Go p e below s T (mkF m (pc + 1) Ls (.int n.toInt32 :: rest)) Q kc ks) : Go p e below s T (mkF m pc Ls (.ref a :: rest)) Q kc ks := by
  obtain ⟨cl, A1, -, r2, -⟩ := A
  subst r2
  exact Go.step (fun target => X.arraylength hx (by rw [eT]; exact A1.1) (State.isArrayOf_alike hZ.alike A1.2.1) (g := mkF m pc Ls (.ref a :: rest)) rfl rfl hd target) k
theorem Go.iaload {j : Int32} (X : Stand p l e R s m args below meth c T locs cells slots) (hx : p.tables.exec = Jvm.exec) (hZ : Z.Warmed39 s.vm) (eT : T.heap = h) (A : Af Z h a cid .int n f) (h1 : ¬ j < 0) (h2 : j.toNatClampNeg < n) (hd : decode c.code pc = .ok (.iaload, 1)) (k : Go p e below s T (mkF m (pc + 1) Ls (f j.toNatClampNeg :: rest)) Q kc ks) : Go p e below s T (mkF m pc Ls (.int j :: .ref a :: rest)) Q kc ks := by
  obtain ⟨cl, A1, -, r2, -, r4⟩ := A
  exact Go.step (fun target => X.iaload hx (by rw [eT]; exact A1.1) (State.isArrayOf_alike hZ.alike A1.2.1) A1.2.2 (in_of r2 h1 h2) (r4 _ h2) (g := mkF m pc Ls (.int j :: .ref a :: rest)) rfl rfl hd target) k
theorem Go.laload {j : Int32} (X : Stand p l e R s m args below meth c T locs cells slots) (hx : p.tables.exec = Jvm.exec) (hZ : Z.Warmed39 s.vm) (eT : T.heap = h) (A : Af Z h a cid .long n f) (h1 : ¬ j < 0) (h2 : j.toNatClampNeg < n) (hd : decode c.code pc = .ok (.laload, 1)) (k : Go p e below s T (mkF m (pc + 1) Ls (f j.toNatClampNeg :: rest)) Q kc ks) : Go p e below s T (mkF m pc Ls (.int j :: .ref a :: rest)) Q kc ks := by
  obtain ⟨cl, A1, -, r2, -, r4⟩ := A
  exact Go.step (fun target => X.laload hx (by rw [eT]; exact A1.1) (State.isArrayOf_alike hZ.alike A1.2.1) A1.2.2 (in_of r2 h1 h2) (r4 _ h2) (g := mkF m pc Ls (.int j :: .ref a :: rest)) rfl rfl hd target) k
theorem Go.caload {j : Int32} (X : Stand p l e R s m args below meth c T locs cells slots) (hx : p.tables.exec = Jvm.exec) (hZ : Z.Warmed39 s.vm) (eT : T.heap = h) (A : Af Z h a cid .char n f) (h1 : ¬ j < 0) (h2 : j.toNatClampNeg < n) (hd : decode c.code pc = .ok (.caload, 1)) (k : Go p e below s T (mkF m (pc + 1) Ls (f j.toNatClampNeg :: rest)) Q kc ks) : Go p e below s T (mkF m pc Ls (.int j :: .ref a :: rest)) Q kc ks := by
  obtain ⟨cl, A1, -, r2, -, r4⟩ := A
  exact Go.step (fun target => X.caload hx (by rw [eT]; exact A1.1) (State.isArrayOf_alike hZ.alike A1.2.1) A1.2.2 (in_of r2 h1 h2) (r4 _ h2) (g := mkF m pc Ls (.int j :: .ref a :: rest)) rfl rfl hd target) k
theorem Go.aaload {j : Int32} (X : Stand p l e R s m args below meth c T locs cells slots) (hx : p.tables.exec = Jvm.exec) (hZ : Z.Warmed39 s.vm) (eT : T.heap = h) (A : Af Z h a cid ty n f) (hty : ty.isReference = true) (h1 : ¬ j < 0) (h2 : j.toNatClampNeg < n) (hd : decode c.code pc = .ok (.aaload, 1)) (k : Go p e below s T (mkF m (pc + 1) Ls (f j.toNatClampNeg :: rest)) Q kc ks) : Go p e below s T (mkF m pc Ls (.int j :: .ref a :: rest)) Q kc ks := by
  obtain ⟨cl, A1, -, r2, -, r4⟩ := A
  exact Go.step (fun target => X.aaload hx (by rw [eT]; exact A1.1) (State.isArrayOf_alike hZ.alike A1.2.1) hty A1.2.2 (in_of r2 h1 h2) (r4 _ h2) (g := mkF m pc Ls (.int j :: .ref a :: rest)) rfl rfl hd target) k
theorem Go.baloadB {j : Int32} (X : Stand p l e R s m args below meth c T locs cells slots) (hx : p.tables.exec = Jvm.exec) (hZ : Z.Warmed39 s.vm) (eT : T.heap = h) (A : Af Z h a cid .byte n f) (h1 : ¬ j < 0) (h2 : j.toNatClampNeg < n) (hd : decode c.code pc = .ok (.baload, 1)) (k : Go p e below s T (mkF m (pc + 1) Ls (f j.toNatClampNeg :: rest)) Q kc ks) : Go p e below s T (mkF m pc Ls (.int j :: .ref a :: rest)) Q kc ks := by
  obtain ⟨cl, A1, -, r2, -, r4⟩ := A
  exact Go.step (fun target => X.baloadBytes hx (by rw [eT]; exact A1.1) (State.isArrayOf_alike hZ.alike A1.2.1) A1.2.2 (in_of r2 h1 h2) (r4 _ h2) (g := mkF m pc Ls (.int j :: .ref a :: rest)) rfl rfl hd target) k
theorem Go.baloadZ {j : Int32} (X : Stand p l e R s m args below meth c T locs cells slots) (hx : p.tables.exec = Jvm.exec) (hZ : Z.Warmed39 s.vm) (eT : T.heap = h) (A : Af Z h a cid .boolean n f) (h1 : ¬ j < 0) (h2 : j.toNatClampNeg < n) (hd : decode c.code pc = .ok (.baload, 1)) (k : Go p e below s T (mkF m (pc + 1) Ls (f j.toNatClampNeg :: rest)) Q kc ks) : Go p e below s T (mkF m pc Ls (.int j :: .ref a :: rest)) Q kc ks := by
  obtain ⟨cl, A1, -, r2, -, r4⟩ := A
  exact Go.step (fun target => X.baloadBooleans hx (by rw [eT]; exact A1.1) (State.isArrayOf_alike hZ.alike A1.2.1) A1.2.2 (in_of r2 h1 h2) (r4 _ h2) (g := mkF m pc Ls (.int j :: .ref a :: rest)) rfl rfl hd target) k
theorem Go.iastore {j x : Int32} (X : Stand p l e R s m args below meth c T locs cells slots) (hx : p.tables.exec = Jvm.exec) (hZ : Z.Warmed39 s.vm) (eT : T.heap = h) (A : Af Z h a cid .int n f) (h1 : ¬ j < 0) (h2 : j.toNatClampNeg < n) (hd : decode c.code pc = .ok (.iastore, 1))
    (k : ∀ T' h', Stand p l e R s m args below meth c T' (locs ++ [⟨a, j.toNatClampNeg⟩]) cells slots → T'.heap = h' → Wr h h' a j.toNatClampNeg (.int x) → Af Z h' a cid .int n (upd f j.toNatClampNeg (.int x)) → Go p e below s T' (mkF m (pc + 1) Ls rest) Q kc ks) : Go p e below s T (mkF m pc Ls (.int x :: .int j :: .ref a :: rest)) Q kc ks := by
  have A' := A
  obtain ⟨cl, A1, -, r2, -, r4⟩ := A
  obtain ⟨T', h', X', e', W, st⟩ := stI X hx hZ eT A1 (in_of r2 h1 h2) (g := mkF m pc Ls (.int x :: .int j :: .ref a :: rest)) rfl rfl hd
  exact Go.step st (k T' h' X' e' W (A'.set W))
theorem Go.lastore {j : Int32} {x : Int64} (X : Stand p l e R s m args below meth c T locs cells slots) (hx : p.tables.exec = Jvm.exec) (hZ : Z.Warmed39 s.vm) (eT : T.heap = h) (A : Af Z h a cid .long n f) (h1 : ¬ j < 0) (h2 : j.toNatClampNeg < n) (hd : decode c.code pc = .ok (.lastore, 1))
    (k : ∀ T' h', Stand p l e R s m args below meth c T' (locs ++ [⟨a, j.toNatClampNeg⟩]) cells slots → T'.heap = h' → Wr h h' a j.toNatClampNeg (.long x) → Af Z h' a cid .long n (upd f j.toNatClampNeg (.long x)) → Go p e below s T' (mkF m (pc + 1) Ls rest) Q kc ks) : Go p e below s T (mkF m pc Ls (.long x :: .int j :: .ref a :: rest)) Q kc ks := by
  have A' := A
  obtain ⟨cl, A1, -, r2, -, r4⟩ := A
  obtain ⟨T', h', X', e', W, st⟩ := stJ X hx hZ eT A1 (in_of r2 h1 h2) (g := mkF m pc Ls (.long x :: .int j :: .ref a :: rest)) rfl rfl hd
  exact Go.step st (k T' h' X' e' W (A'.set W))
theorem Go.bastoreB {j x : Int32} (X : Stand p l e R s m args below meth c T locs cells slots) (hx : p.tables.exec = Jvm.exec) (hZ : Z.Warmed39 s.vm) (eT : T.heap = h) (A : Af Z h a cid .byte n f) (h1 : ¬ j < 0) (h2 : j.toNatClampNeg < n) (hd : decode c.code pc = .ok (.bastore, 1))
    (k : ∀ T' h', Stand p l e R s m args below meth c T' (locs ++ [⟨a, j.toNatClampNeg⟩]) cells slots → T'.heap = h' → Wr h h' a j.toNatClampNeg (.int x.toInt8.toInt32) → Af Z h' a cid .byte n (upd f j.toNatClampNeg (.int x.toInt8.toInt32)) → Go p e below s T' (mkF m (pc + 1) Ls rest) Q kc ks) : Go p e below s T (mkF m pc Ls (.int x :: .int j :: .ref a :: rest)) Q kc ks := by
  have A' := A
  obtain ⟨cl, A1, -, r2, -, r4⟩ := A
  obtain ⟨T', h', X', e', W, st⟩ := stB X hx hZ eT A1 (in_of r2 h1 h2) (g := mkF m pc Ls (.int x :: .int j :: .ref a :: rest)) rfl rfl hd
  exact Go.step st (k T' h' X' e' W (A'.set W))
theorem Go.bastoreZ {j x : Int32} (X : Stand p l e R s m args below meth c T locs cells slots) (hx : p.tables.exec = Jvm.exec) (hZ : Z.Warmed39 s.vm) (eT : T.heap = h) (A : Af Z h a cid .boolean n f) (h1 : ¬ j < 0) (h2 : j.toNatClampNeg < n) (hd : decode c.code pc = .ok (.bastore, 1))
    (k : ∀ T' h', Stand p l e R s m args below meth c T' (locs ++ [⟨a, j.toNatClampNeg⟩]) cells slots → T'.heap = h' → Wr h h' a j.toNatClampNeg (.int (nar .boolean x)) → Af Z h' a cid .boolean n (upd f j.toNatClampNeg (.int (nar .boolean x))) → Go p e below s T' (mkF m (pc + 1) Ls rest) Q kc ks) : Go p e below s T (mkF m pc Ls (.int x :: .int j :: .ref a :: rest)) Q kc ks := by
  have A' := A
  obtain ⟨cl, A1, -, r2, -, r4⟩ := A
  obtain ⟨T', h', X', e', W, st⟩ := stZ X hx hZ eT A1 (in_of r2 h1 h2) (g := mkF m pc Ls (.int x :: .int j :: .ref a :: rest)) rfl rfl hd
  exact Go.step st (k T' h' X' e' W (A'.set W))
theorem Go.castore {j x : Int32} (X : Stand p l e R s m args below meth c T locs cells slots) (hx : p.tables.exec = Jvm.exec) (hZ : Z.Warmed39 s.vm) (eT : T.heap = h) (A : Af Z h a cid .char n f) (h1 : ¬ j < 0) (h2 : j.toNatClampNeg < n) (hd : decode c.code pc = .ok (.castore, 1))
    (k : ∀ T' h', Stand p l e R s m args below meth c T' (locs ++ [⟨a, j.toNatClampNeg⟩]) cells slots → T'.heap = h' → Wr h h' a j.toNatClampNeg (.int (nar .char x)) → Af Z h' a cid .char n (upd f j.toNatClampNeg (.int (nar .char x))) → Go p e below s T' (mkF m (pc + 1) Ls rest) Q kc ks) : Go p e below s T (mkF m pc Ls (.int x :: .int j :: .ref a :: rest)) Q kc ks := by
  have A' := A
  obtain ⟨cl, A1, -, r2, -, r4⟩ := A
  obtain ⟨T', h', X', e', W, st⟩ := stC X hx hZ eT A1 (in_of r2 h1 h2) (g := mkF m pc Ls (.int x :: .int j :: .ref a :: rest)) rfl rfl hd
  exact Go.step st (k T' h' X' e' W (A'.set W))
theorem Go.aastore {j : Int32} {C : String} {y : Addr} (X : Stand p l e R s m args below meth c T locs cells slots) (hx : p.tables.exec = Jvm.exec) (hZ : Z.Warmed39 s.vm) (eT : T.heap = h) (A : Af Z h a cid ty n f) (hty : ty.isReference = true) (O : Ovr Z cid C) (I : Ins Z h y C true) (h1 : ¬ j < 0) (h2 : j.toNatClampNeg < n) (hd : decode c.code pc = .ok (.aastore, 1))
    (k : ∀ T' h', Stand p l e R s m args below meth c T' (locs ++ [⟨a, j.toNatClampNeg⟩]) cells slots → T'.heap = h' → Wr h h' a j.toNatClampNeg (.ref y) → Af Z h' a cid ty n (upd f j.toNatClampNeg (.ref y)) → Go p e below s T' (mkF m (pc + 1) Ls rest) Q kc ks) : Go p e below s T (mkF m pc Ls (.ref y :: .int j :: .ref a :: rest)) Q kc ks := by
  have A' := A
  obtain ⟨cl, A1, r1, r2, -, r4⟩ := A
  obtain ⟨T', h', X', e', W, st⟩ := stR X hx hZ eT A1 (in_of r2 h1 h2) hty (Sto.ofV A1 r1 O I) (g := mkF m pc Ls (.ref y :: .int j :: .ref a :: rest)) rfl rfl hd
  exact Go.step st (k T' h' X' e' W (A'.set W))
theorem Go.newarray {aty : ArrayType} {z : Int32} {cap : Nat} (X : Stand p l e R s m args below meth c T locs cells slots) (hx : p.tables.exec = Jvm.exec) (hZ : Z.Warmed39 s.vm) (w : (Jvm.Cond.arrayClass (newarray.typeOf aty)).before a0 Z = true) (eT : T.heap = h) (hd : decode c.code pc = .ok (.newarray aty, 2)) (hn : ¬ z < 0) (hcap : z.toNatClampNeg ≤ cap) (hb : cap * 8 ≤ 536870912) (hc : cells + 1 ≤ R.cells) (hl : slots + cap ≤ R.slots)
    (k : ∀ T' h' a cA, a = h.size → Stand p l e R s m args below meth c T' locs (cells + 1) (slots + cap) → T'.heap = h' → Ext h h' → Af Z h' a cA (newarray.typeOf aty) z.toNatClampNeg (fun _ => defaultValue (newarray.typeOf aty)) → Go p e below s T' (mkF m (pc + 2) Ls (.ref a :: rest)) Q kc ks) : Go p e below s T (mkF m pc Ls (.int z :: rest)) Q kc ks := by
  obtain ⟨T', h', cA, X', e', E, A, st⟩ := newP X hx hZ w eT (g := mkF m pc Ls (.int z :: rest)) rfl hd rfl hn hcap hb hc hl
  exact Go.step st (k T' h' _ cA rfl X' e' E (Af.arv A hn))
theorem Go.anewarray {own C : String} {index : Nat} {z : Int32} {cap : Nat} (X : Stand p l e R s m args below meth c T locs cells slots) (hx : p.tables.exec = Jvm.exec) (hZ : Z.Warmed39 s.vm) (hown : s.vm.findClass own = some m.cls) (w1 : (Jvm.Cond.classLink own index C).before a0 Z = true) (w2 : (Jvm.Cond.arrayOver (.object C)).before a0 Z = true) (eT : T.heap = h) (hd : decode c.code pc = .ok (.anewarray index, 3)) (hn : ¬ z < 0) (hcap : z.toNatClampNeg ≤ cap) (hb : cap * 8 ≤ 536870912) (hc : cells + 1 ≤ R.cells) (hl : slots + cap ≤ R.slots)
    (k : ∀ T' h' a cA, a = h.size → Stand p l e R s m args below meth c T' locs (cells + 1) (slots + cap) → T'.heap = h' → Ext h h' → Af Z h' a cA (.object C) z.toNatClampNeg (fun _ => .null) → Ovr Z cA C → Go p e below s T' (mkF m (pc + 3) Ls (.ref a :: rest)) Q kc ks) : Go p e below s T (mkF m pc Ls (.int z :: rest)) Q kc ks := by
  obtain ⟨T', h', cA, X', e', E, A, O, st⟩ := newR X hx hZ hown w1 w2 eT (g := mkF m pc Ls (.int z :: rest)) rfl hd rfl hn hcap hb hc hl
  exact Go.step st (k T' h' _ cA rfl X' e' E (Af.arv A hn) O)
theorem Go.clone {own ad : String} {index W cap : Nat} (X : Stand p l e R s m args below meth c T locs cells slots) (hx : p.tables.exec = Jvm.exec) (hZ : Z.Warmed39 s.vm) (hown : s.vm.findClass own = some m.cls)
    (w1 : (Jvm.Cond.methodLink own index ⟨ad, "clone", "()Ljava/lang/Object;"⟩).before a0 Z = true) (w2 : (Jvm.Cond.sameMethod ad "java/lang/Object" "clone" "()Ljava/lang/Object;").before a0 Z = true) (w3 : (Jvm.Cond.native ⟨"java/lang/Object", "clone", "()Ljava/lang/Object;"⟩).before a0 Z = true)
    (w4 : (Jvm.Cond.instanceMethod ⟨"java/lang/Object", "clone", "()Ljava/lang/Object;"⟩).before a0 Z = true) (w5 : (Jvm.Cond.selects ad ⟨ad, "clone", "()Ljava/lang/Object;"⟩ ⟨"java/lang/Object", "clone", "()Ljava/lang/Object;"⟩).before a0 Z = true) (w6 : (Jvm.Cond.castable ad "java/lang/Cloneable").before a0 Z = true)
    (eT : T.heap = h) (A : Af Z h a cid ty n f) (E : Exa Z h a ad) (F : ∀ cl : Cell, h[a]? = some cl → FitC Z cl) (hd : decode c.code pc = .ok (.invokevirtual index, 3)) (hsize : Ls.size = c.maxLocals) (hW : (rest.map fun v => v.category).sum ≤ W) (hf : 1 ≤ R.frames) (hl : W + 14 ≤ R.locals) (hcap : n ≤ cap) (hc : cells + 1 ≤ R.cells) (hsl : slots + cap ≤ R.slots)
    (k : ∀ T' h' b, b = h.size → Stand p l e R s m args below meth c T' locs (cells + 1) (slots + cap) → T'.heap = h' → Ext h h' → Af Z h' b cid ty n f → Exa Z h' b ad → Go p e below s T' (mkF m (pc + 3) Ls (.ref b :: rest)) Q kc ks) : Go p e below s T (mkF m pc Ls (.ref a :: rest)) Q kc ks := by
  obtain ⟨cl, A1, r1, r2, r3, r4⟩ := A
  obtain ⟨T', h', X', e', Ex, A2, E2, st⟩ := cloneA X hx hZ hown w1 w2 w3 w4 w5 w6 eT A1 E (F cl A1.1) (g := mkF m pc Ls (.ref a :: rest)) rfl hsize rfl hd hf (W := W) (cap := cap) (by show 2 * 0 + _ ≤ _; omega) hl (by rw [r2]; exact hcap) hc hsl
  exact Go.step st (k T' h' _ rfl X' e' Ex ⟨_, A2, r1, r2, r3, r4⟩ E2)
/-- the call of a private method by invokevirtual, by its contract -/
theorem Go.callP {own C : String} {index kk : Nat} {y : MethodName} {bytes : ByteArray} {maxL : Nat} {ret : Option FieldType} {rm : Room} {argsL : List Value} {Q' : Option Value → Heap → List Loc → Prop} {W : Nat} {st : List Value}
    (X : Stand p l e R s m args below meth c T locs cells slots) (hx : p.tables.exec = Jvm.exec) (hZ : Z.Warmed39 s.vm) (hown : s.vm.findClass own = some m.cls)
    (w1 : (Jvm.Cond.methodLink own index y).before a0 Z = true) (w2 : (Jvm.Cond.instanceMethod y).before a0 Z = true) (wp : (Jvm.Cond.privateMethod y).before a0 Z = true) (wi : (Jvm.Cond.instantiable y.cls kk).before a0 Z = true) (w3 : (Jvm.Cond.initialized y.cls).before a0 Z = true) (w4 : (Jvm.Cond.code y bytes maxL ret).before a0 Z = true)
    (hy : y.cls ≠ "java/lang/invoke/MethodHandle" ∧ y.cls ≠ "java/lang/invoke/VarHandle") (E : Exa Z h a C) (hM : Met l Z y bytes maxL ret [] rm (.ref a :: argsL).toArray h Q') (eT : T.heap = h)
    (hlen : ∀ sig, parseMethodDescriptor y.desc = some sig → argsL.length = sig.parameters.length) (hd : decode c.code pc = .ok (.invokevirtual index, 3)) (hsize : Ls.size = c.maxLocals) (hst : st = argsL.reverse ++ .ref a :: rest) (hW : (rest.map fun v => v.category).sum ≤ W)
    (hf : rm.frames + 1 ≤ R.frames) (hl : W + (maxL + 11) + rm.locals ≤ R.locals) (hc : cells + rm.cells ≤ R.cells) (hs : slots + rm.slots ≤ R.slots)
    (k : ∀ v T' L, Stand p l e R s m args below meth c T' (locs ++ L) (cells + rm.cells) (slots + rm.slots) → Q' v T'.heap L → Go p e below s T' (mkF m (pc + 3) Ls (v.toList ++ rest)) Q kc ks) : Go p e below s T (mkF m pc Ls st) Q kc ks := by
  have wi' : (Jvm.Cond.instantiable y.cls kk).before args s = true := mvT hZ wi
  obtain ⟨cc, kc', i1, i2, i3, i4, -⟩ := Cond.instantiable_spec wi'
  have ni : kc'.isInterface = false := by revert i4; cases kc'.isInterface <;> simp
  have hp := Cond.privateMethod_at (mvP hZ wp (args := args))
  have hsel := Jvm.Stand.selects_self_of_private i1 i2 ni hp (mvT hZ w2 (args := args)) hy
  obtain ⟨cl, q1, q2⟩ := E.cell
  obtain ⟨v, vm₁, ⟨T1, L1, k1, n1⟩, -, X1, ⟨Lc, hQ1, l1, y1, z1⟩, st1⟩ := X.privateBack hx (y := y) hown (mvT hZ w1) (mvT hZ w2) hsel hp (mvT hZ w4) hy (backOf (W := W) hM hZ w4 w3 hf hl) (g := mkF m pc Ls st) rfl hsize (Steps.refl _) (a := a) (by rw [eT]; exact q1) q2 (argsL := argsL) (rest := rest) hlen hst (by show 2 * 0 + _ ≤ _; omega) hd (fun _ _ => ⟨rfl, eT, hc, hs⟩)
  dsimp only [Pt.U, Pt.locs, Pt.cells, Pt.slots] at X1 l1 y1 z1 st1 hQ1
  subst l1 y1 z1
  exact Go.trans st1 (k v T1 Lc X1 hQ1)
/-- the call of an interface's method, by the contract of the body that the receiver's class selects -/
theorem Go.callN {own C : String} {index count : Nat} {xi y : MethodName} {bytes : ByteArray} {maxL : Nat} {ret : Option FieldType} {rm : Room} {argsL : List Value} {Q' : Option Value → Heap → List Loc → Prop} {W : Nat} {st : List Value}
    (X : Stand p l e R s m args below meth c T locs cells slots) (hx : p.tables.exec = Jvm.exec) (hZ : Z.Warmed39 s.vm) (hown : s.vm.findClass own = some m.cls)
    (w1 : (Jvm.Cond.methodLink own index xi).before a0 Z = true) (w2 : (Jvm.Cond.declares xi).before a0 Z = true) (w5 : (Jvm.Cond.interfaceMethod xi.cls xi.cls xi.name xi.desc).before a0 Z = true) (w6 : (Jvm.Cond.selects C xi y).before a0 Z = true) (w7 : (Jvm.Cond.instanceMethod y).before a0 Z = true) (w8 : (Jvm.Cond.publicMethod y).before a0 Z = true) (w9 : (Jvm.Cond.unhidden C xi.name xi.desc).before a0 Z = true) (w10 : (Jvm.Cond.castable C xi.cls).before a0 Z = true)
    (w3 : (Jvm.Cond.initialized y.cls).before a0 Z = true) (w4 : (Jvm.Cond.code y bytes maxL ret).before a0 Z = true) (hy : xi.cls ≠ "java/lang/invoke/MethodHandle" ∧ xi.cls ≠ "java/lang/invoke/VarHandle") (k5 : ((Jvm.Cond.interfaceMethod xi.cls xi.cls xi.name xi.desc).onTables && (Jvm.Cond.interfaceMethod xi.cls xi.cls xi.name xi.desc).keepsFace) = true) (E : Exa Z h a C) (hM : Met l Z y bytes maxL ret [] rm (.ref a :: argsL).toArray h Q') (eT : T.heap = h)
    (hlen : ∀ sig, parseMethodDescriptor xi.desc = some sig → argsL.length = sig.parameters.length) (hd : decode c.code pc = .ok (.invokeinterface index count, 5)) (hsize : Ls.size = c.maxLocals) (hst : st = argsL.reverse ++ .ref a :: rest) (hW : (rest.map fun v => v.category).sum ≤ W)
    (hf : rm.frames + 1 ≤ R.frames) (hl : W + (maxL + 11) + rm.locals ≤ R.locals) (hc : cells + rm.cells ≤ R.cells) (hs : slots + rm.slots ≤ R.slots)
    (k : ∀ v T' L, Stand p l e R s m args below meth c T' (locs ++ L) (cells + rm.cells) (slots + rm.slots) → Q' v T'.heap L → Go p e below s T' (mkF m (pc + 5) Ls (v.toList ++ rest)) Q kc ks) : Go p e below s T (mkF m pc Ls st) Q kc ks := by
  obtain ⟨cB, kB, q1, q2, q3⟩ := isOf hZ eT E
  obtain ⟨v, vm₁, ⟨T1, L1, k1, n1⟩, -, X1, ⟨Lc, hQ1, l1, y1, z1⟩, st1⟩ := X.interfaceBack hx (xi := xi) (y := y) hown (mvT hZ w1) (mvT hZ w2) (mvT hZ w5 k5) (mvT hZ w6) (mvT hZ w7) (mvT hZ w8) (mvT hZ w9) (mvT hZ w10) hy (backOf (W := W) hM hZ w4 w3 hf hl) q1 q2 q3 (g := mkF m pc Ls st) rfl hsize (Steps.refl _) (argsL := argsL) (rest := rest) hlen hst (by show 2 * 0 + _ ≤ _; omega) hd (fun _ _ => ⟨rfl, eT, hc, hs⟩)
  dsimp only [Pt.U, Pt.locs, Pt.cells, Pt.slots] at X1 l1 y1 z1 st1 hQ1
  subst l1 y1 z1
  exact Go.trans st1 (k v T1 Lc X1 hQ1)
def cpf (f f' : Nat → Value) (sp dp nn : Nat) : Nat → Value := fun i => if dp ≤ i ∧ i < dp + nn then f (sp + (i - dp)) else f' i
theorem getD_range {i : Nat} (hi : i < n) (d : Value) : ((List.range n).map f).getD i d = f i := by simp [List.getD_eq_getElem?_getD, hi]
theorem Af.toArv (F : Af Z h a cid ty n f) (hf : ∀ i, i < n → fits ty (f i) = true) : Arv Z h a cid ty n.toInt32 ((List.range n).map f) .null := by
  obtain ⟨cl, A, r1, r2, r3, r4⟩ := F
  have z : (n.toInt32).toNatClampNeg = n := by simp only [Int32.toNatClampNeg, len_toInt r3]; rfl
  refine ⟨cl, A, r1, by rw [r2, z], ?_, fun i hi => ?_, fun i hi => ?_⟩
  · rw [Int32.lt_iff_toInt_lt, len_toInt r3]; show ¬ (n : Int) < 0; omega
  · rw [getD_range (by omega)]; exact r4 i (by omega)
  · rw [getD_range (by omega)]; exact hf i (by omega)
theorem Af.ofArv {z : Int32} {vs : List Value} {d : Value} (F : Arv Z h a cid ty z vs d) : Af Z h a cid ty z.toNatClampNeg (fun i => vs.getD i d) := by
  obtain ⟨cl, A, r1, r2, r3, H, G⟩ := F
  exact ⟨cl, A, r1, r2, (back32 r3).2, fun i hi => H i (by omega)⟩
theorem cp_at {n' sp dp nn i : Nat} (hi : i < n') (h4 : sp + nn ≤ n) (h5 : dp + nn ≤ n') :
    ((((List.range n').map f').take dp) ++ ((List.range nn).map fun i => ((List.range n).map f).getD (sp + i) .null) ++ (((List.range n').map f').drop (dp + nn))).getD i .null = cpf f f' sp dp nn i := by
  have lt : (((List.range n').map f').take dp).length = dp := by simp; omega
  have lu : ((List.range nn).map fun i => ((List.range n).map f).getD (sp + i) .null).length = nn := by simp
  rw [List.getD_eq_getElem?_getD]
  unfold cpf
  by_cases h1 : i < dp
  · rw [List.append_assoc, List.getElem?_append_left (by omega), if_neg (by omega)]
    simp [List.getElem?_take, h1, hi]
  · by_cases h2 : i < dp + nn
    · rw [List.getElem?_append_left (by rw [List.length_append]; omega), List.getElem?_append_right (by omega), if_pos ⟨by omega, h2⟩, lt]
      have h3 : i - dp < nn := by omega
      have h6 : sp + (i - dp) < n := by omega
      simp [h3, List.getD_eq_getElem?_getD, h6]
    · rw [List.getElem?_append_right (by rw [List.length_append]; omega), if_neg (by omega), List.length_append, lt, lu]
      have h3 : dp + nn + (i - (dp + nn)) = i := by omega
      simp [List.getElem?_drop, h3, hi]
theorem Go.acopy {own : String} {index W n0 n' : Nat} {b : Addr} {cid' : ClassId} {sp dp nn : Int32} (X : Stand p l e R s m args below meth c T locs cells slots) (hx : p.tables.exec = Jvm.exec) (hZ : Z.Warmed39 s.vm) (hown : s.vm.findClass own = some m.cls)
    (w1 : (Jvm.Cond.methodLink own index ⟨"java/lang/System", "arraycopy", "(Ljava/lang/Object;ILjava/lang/Object;II)V"⟩).before a0 Z = true) (w2 : (Jvm.Cond.native ⟨"java/lang/System", "arraycopy", "(Ljava/lang/Object;ILjava/lang/Object;II)V"⟩).before a0 Z = true) (w3 : (Jvm.Cond.static ⟨"java/lang/System", "arraycopy", "(Ljava/lang/Object;ILjava/lang/Object;II)V"⟩).before a0 Z = true) (w4 : (Jvm.Cond.initialized "java/lang/System").before a0 Z = true)
    (eT : T.heap = h) (A : Af Z h a cid ty n f) (B : Af Z h b cid' ty n' f') (hty : refKind ty = false) (hfa : ∀ i, i < n → fits ty (f i) = true) (hfb : ∀ i, i < n' → fits ty (f' i) = true) (h1 : ¬ sp < 0) (h2 : ¬ dp < 0) (h3 : ¬ nn < 0) (h4 : sp.toNatClampNeg + nn.toNatClampNeg ≤ n) (h5 : dp.toNatClampNeg + nn.toNatClampNeg ≤ n')
    (N : Fr n0 locs) (ge : n0 ≤ b) (hd : decode c.code pc = .ok (.invokestatic index, 3)) (hsize : Ls.size = c.maxLocals) (hW : (rest.map fun v => v.category).sum ≤ W) (hf : 1 ≤ R.frames) (hl : W + 18 ≤ R.locals)
    (k : ∀ T' h' L, Stand p l e R s m args below meth c T' L cells slots → T'.heap = h' → Fr n0 L → Keep h h' [b] → Af Z h' b cid' ty n' (cpf f f' sp.toNatClampNeg dp.toNatClampNeg nn.toNatClampNeg) → Go p e below s T' (mkF m (pc + 3) Ls rest) Q kc ks) : Go p e below s T (mkF m pc Ls (.int nn :: .int dp :: .ref b :: .int sp :: .ref a :: rest)) Q kc ks := by
  have za : (n.toInt32).toNatClampNeg = n := by obtain ⟨_, _, _, _, r3, _⟩ := A; simp only [Int32.toNatClampNeg, len_toInt r3]; rfl
  have zb : (n'.toInt32).toNatClampNeg = n' := by obtain ⟨_, _, _, _, r3, _⟩ := B; simp only [Int32.toNatClampNeg, len_toInt r3]; rfl
  obtain ⟨T', h', L, X', e', NL, K, V, st⟩ := cpA X hx hZ hown w1 w2 w3 w4 eT (A.toArv hfa) (B.toArv hfb) (Or.inl ⟨rfl, hty⟩) h1 h2 h3 (by rw [za]; exact h4) (by rw [zb]; exact h5) rfl (by simp; exact h5) N ge (g := mkF m pc Ls (.int nn :: .int dp :: .ref b :: .int sp :: .ref a :: rest)) rfl hsize rfl hd hf (W := W) (by show 2 * 0 + _ ≤ _; omega) (by show W + (7 + 11) ≤ _; omega)
  have V' := Af.ofArv V
  rw [zb] at V'
  exact Go.step st (k T' h' L X' e' NL K (V'.congr fun i hi => (cp_at hi h4 h5).symm))
theorem Keep.wr1 {ha hb hc : Heap} {ws : List Addr} {a : Addr} {sl : Nat} {v : Value} (K : Keep ha hb ws) (W : Wr hb hc a sl v) (q : a ∈ ws ∨ ha.size ≤ a) : Keep ha hc ws := Jvm.RoadKit.Keep.wr K W q
end Heap
end Jvm.OwnK
namespace Jvm.OwnK
open Sem ClassFile Op Lib Jvm.Free Jvm.Stand Jvm.LawKit Jvm.RoadKit
section Start
variable {s : State} {args : Array Value}
theorem st_static {C f d K : String} (h : (Jvm.Cond.exactly (Jvm.Term.static C f d) K).value args s none s [] = some true) (hi : (Jvm.Cond.initializedFor C f d).before args s = true ∨ ((Jvm.Cond.initialized C).before args s = true ∧ (Jvm.Cond.laysStatic C f d).before args s = true)) :
    ∃ g, (Jvm.Term.static C f d).eval args s none [] s = some (.ref g) ∧ Sta s s.heap C f d (.ref g) ∧ Exa s s.heap g K := by
  obtain ⟨g, eg⟩ := exa_v h
  exact ⟨g, eg, Sta.start eg hi, Exa.start eg h⟩
theorem st_int {t : Jvm.Term} {k : Int32} (h : (Jvm.Cond.eq t (.int k)).value args s none s [] = some true) : t.eval args s none [] s = some (.int k) := by
  obtain ⟨x, y, ha, hb, k1, k2⟩ := cmp_v (Or.inl h)
  have hb' : (Jvm.Term.int k).eval args s none [] s = some (.int k) := Term.int_eval k
  cases hb.symm.trans hb'
  obtain ⟨z, rfl⟩ := k2
  have q := gotT (Cond.eq_ints ha hb') h
  rw [ha, q]
theorem st_ref {t u : Jvm.Term} {g : Addr} (h : (Jvm.Cond.eq t u).value args s none s [] = some true) (hu : u.eval args s none [] s = some (.ref g)) : t.eval args s none [] s = some (.ref g) := by
  obtain ⟨x, y, ha, hb, k1, k2⟩ := cmp_v (Or.inl h)
  cases hb.symm.trans hu
  have hx : x.isRef = true := k2.2
  have q := gotT (eq_R ha hu hx rfl) h
  rw [ha, q]
theorem st_fieldI {t : Jvm.Term} {a : Addr} {C n d : String} {k : Int32} (ev : t.eval args s none [] s = some (.ref a)) (h : (Jvm.Cond.eq (.field t C n d) (.int k)).value args s none s [] = some true) : Fld s s.heap a C n d (.int k) :=
  Fld.start (by rw [← fld_at ev]; exact st_int h)
theorem st_fieldR {t : Jvm.Term} {a : Addr} {C n d K : String} (ev : t.eval args s none [] s = some (.ref a)) (h : (Jvm.Cond.exactly (.field t C n d) K).value args s none s [] = some true) :
    ∃ g, (Jvm.Term.field t C n d).eval args s none [] s = some (.ref g) ∧ Fld s s.heap a C n d (.ref g) ∧ Exa s s.heap g K := by
  obtain ⟨g, eg⟩ := exa_v h
  exact ⟨g, eg, Fld.start (by rw [← fld_at ev]; exact eg), Exa.start eg h⟩
/-- an array that stood before the law, with its length -/
theorem st_arr {t : Jvm.Term} {a : Addr} {ty : FieldType} {k : Int32} {n : Nat} (ev : t.eval args s none [] s = some (.ref a)) (h : (Jvm.Cond.arrayOf t ty).value args s none s [] = some true) (hl : (Jvm.Cond.eq (.length t) (.int k)).value args s none s [] = some true) (hk : k = n.toInt32) (hn : n < 2 ^ 31) :
    ∃ c : Cell, s.heap[a]? = some c ∧ Af s s.heap a c.cls ty n (fun i => (c.slots[i]?).getD .null) := by
  obtain ⟨c, A⟩ := Arr.start ev h
  have e1 := st_int hl
  obtain ⟨a', cell, g1, g2, g5, g3⟩ := Jvm.Lib.length_spec e1
  cases ev.symm.trans g1
  have g4 : s.arrayAt? a = some c := A.fin (Vm.Alike.refl _)
  cases g4.symm.trans g2
  injection g3 with g3
  have g6 : c.slots.size = n := by
    have q : (c.slots.size.toInt32).toInt = (n.toInt32).toInt := by rw [← g3, hk]
    rw [len_toInt g5, len_toInt hn] at q
    omega
  refine ⟨c, A.1, c, A, rfl, g6, hn, fun i hi => ?_⟩
  have q : i < c.slots.size := by omega
  simp [Array.getElem?_eq_getElem q]
theorem st_elem {t : Jvm.Term} {a : Addr} {j : Int32} {c : Cell} {v : Value} (ev : t.eval args s none [] s = some (.ref a)) (hc : s.heap[a]? = some c) (h : (Jvm.Term.elem t (.int j)).eval args s none [] s = some v) : (c.slots[j.toNatClampNeg]?).getD .null = v := by
  have q := (elem_in h ev (Term.int_eval j) hc).2
  rw [q]; rfl
end Start
end Jvm.OwnK
namespace Jvm.Pilot.@@N@@
open Jvm Jvm.ClassFile Sem Op Lib Jvm.Free Jvm.Stand Jvm.LawKit Jvm.RoadKit Jvm.OwnK Bundle Jvm.Pilot.@@N@@.Jvm.D
theorem w0 {Z : State} {a0 : Array Value} (hw : ∀ d ∈ tables_1, d.before a0 Z = true) : (Jvm.Cond.classLink "com/example/coppice/coppice/classfile/NameAndTypeEqualsPinLaw" (7 : Nat) "com/example/coppice/coppice/classfile/Constant$NameAndType").before a0 Z = true := hw _ (List.mem_of_getElem? (i := 0) rfl)
theorem w1 {Z : State} {a0 : Array Value} (hw : ∀ d ∈ tables_1, d.before a0 Z = true) : (Jvm.Cond.instantiable "com/example/coppice/coppice/classfile/Constant$NameAndType" (2 : Nat)).before a0 Z = true := hw _ (List.mem_of_getElem? (i := 1) rfl)
theorem w2 {Z : State} {a0 : Array Value} (hw : ∀ d ∈ tables_1, d.before a0 Z = true) : (Jvm.Cond.initialized "com/example/coppice/coppice/classfile/Constant$NameAndType").before a0 Z = true := hw _ (List.mem_of_getElem? (i := 2) rfl)
theorem w3 {Z : State} {a0 : Array Value} (hw : ∀ d ∈ tables_1, d.before a0 Z = true) : (Jvm.Cond.methodLink "com/example/coppice/coppice/classfile/NameAndTypeEqualsPinLaw" (9 : Nat) ({ cls := "com/example/coppice/coppice/classfile/Constant$NameAndType", name := "<init>", desc := "(II)V" } : Jvm.MethodName)).before a0 Z = true := hw _ (List.mem_of_getElem? (i := 3) rfl)
theorem w4 {Z : State} {a0 : Array Value} (hw : ∀ d ∈ tables_1, d.before a0 Z = true) : (Jvm.Cond.instanceMethod ({ cls := "com/example/coppice/coppice/classfile/Constant$NameAndType", name := "<init>", desc := "(II)V" } : Jvm.MethodName)).before a0 Z = true := hw _ (List.mem_of_getElem? (i := 4) rfl)
theorem w5 {Z : State} {a0 : Array Value} (hw : ∀ d ∈ tables_1, d.before a0 Z = true) : (Jvm.Cond.code ({ cls := "com/example/coppice/coppice/classfile/Constant$NameAndType", name := "<init>", desc := "(II)V" } : Jvm.MethodName) prog_42_method_1_code (3 : Nat) (Option.none : Option Jvm.ClassFile.FieldType)).before a0 Z = true := hw _ (List.mem_of_getElem? (i := 5) rfl)
theorem w6 {Z : State} {a0 : Array Value} (hw : ∀ d ∈ tables_1, d.before a0 Z = true) : (Jvm.Cond.methodLink "com/example/coppice/coppice/classfile/Constant$NameAndType" (1 : Nat) ({ cls := "java/lang/Record", name := "<init>", desc := "()V" } : Jvm.MethodName)).before a0 Z = true := hw _ (List.mem_of_getElem? (i := 6) rfl)
theorem w7 {Z : State} {a0 : Array Value} (hw : ∀ d ∈ tables_1, d.before a0 Z = true) : (Jvm.Cond.instanceMethod ({ cls := "java/lang/Record", name := "<init>", desc := "()V" } : Jvm.MethodName)).before a0 Z = true := hw _ (List.mem_of_getElem? (i := 7) rfl)
theorem w9 {Z : State} {a0 : Array Value} (hw : ∀ d ∈ tables_1, d.before a0 Z = true) : (Jvm.Cond.initialized "java/lang/Record").before a0 Z = true := hw _ (List.mem_of_getElem? (i := 9) rfl)
theorem w10 {Z : State} {a0 : Array Value} (hw : ∀ d ∈ tables_1, d.before a0 Z = true) : (Jvm.Cond.code ({ cls := "java/lang/Record", name := "<init>", desc := "()V" } : Jvm.MethodName) jdk_30_method_1_code (1 : Nat) (Option.none : Option Jvm.ClassFile.FieldType)).before a0 Z = true := hw _ (List.mem_of_getElem? (i := 10) rfl)
theorem w11 {Z : State} {a0 : Array Value} (hw : ∀ d ∈ tables_1, d.before a0 Z = true) : (Jvm.Cond.methodLink "java/lang/Record" (1 : Nat) ({ cls := "java/lang/Object", name := "<init>", desc := "()V" } : Jvm.MethodName)).before a0 Z = true := hw _ (List.mem_of_getElem? (i := 11) rfl)
theorem w12 {Z : State} {a0 : Array Value} (hw : ∀ d ∈ tables_1, d.before a0 Z = true) : (Jvm.Cond.instanceMethod ({ cls := "java/lang/Object", name := "<init>", desc := "()V" } : Jvm.MethodName)).before a0 Z = true := hw _ (List.mem_of_getElem? (i := 12) rfl)
theorem w13 {Z : State} {a0 : Array Value} (hw : ∀ d ∈ tables_1, d.before a0 Z = true) : (Jvm.Cond.code ({ cls := "java/lang/Object", name := "<init>", desc := "()V" } : Jvm.MethodName) object_method_1_code (1 : Nat) (Option.none : Option Jvm.ClassFile.FieldType)).before a0 Z = true := hw _ (List.mem_of_getElem? (i := 13) rfl)
theorem w14 {Z : State} {a0 : Array Value} (hw : ∀ d ∈ tables_1, d.before a0 Z = true) : (Jvm.Cond.fieldLink "com/example/coppice/coppice/classfile/Constant$NameAndType" (7 : Nat) "com/example/coppice/coppice/classfile/Constant$NameAndType" "nameIndex" "I").before a0 Z = true := hw _ (List.mem_of_getElem? (i := 14) rfl)
theorem w15 {Z : State} {a0 : Array Value} (hw : ∀ d ∈ tables_1, d.before a0 Z = true) : (Jvm.Cond.laysFinal "com/example/coppice/coppice/classfile/Constant$NameAndType" "com/example/coppice/coppice/classfile/Constant$NameAndType" "nameIndex" "I").before a0 Z = true := hw _ (List.mem_of_getElem? (i := 15) rfl)
theorem w16 {Z : State} {a0 : Array Value} (hw : ∀ d ∈ tables_1, d.before a0 Z = true) : (Jvm.Cond.fieldLink "com/example/coppice/coppice/classfile/Constant$NameAndType" (13 : Nat) "com/example/coppice/coppice/classfile/Constant$NameAndType" "descriptorIndex" "I").before a0 Z = true := hw _ (List.mem_of_getElem? (i := 16) rfl)
theorem w17 {Z : State} {a0 : Array Value} (hw : ∀ d ∈ tables_1, d.before a0 Z = true) : (Jvm.Cond.laysFinal "com/example/coppice/coppice/classfile/Constant$NameAndType" "com/example/coppice/coppice/classfile/Constant$NameAndType" "descriptorIndex" "I").before a0 Z = true := hw _ (List.mem_of_getElem? (i := 17) rfl)
theorem w18 {Z : State} {a0 : Array Value} (hw : ∀ d ∈ tables_1, d.before a0 Z = true) : (Jvm.Cond.classLink "com/example/coppice/coppice/classfile/NameAndTypeEqualsPinLaw" (12 : Nat) "com/example/coppice/coppice/classfile/Constant$MemberRef").before a0 Z = true := hw _ (List.mem_of_getElem? (i := 18) rfl)
theorem w19 {Z : State} {a0 : Array Value} (hw : ∀ d ∈ tables_1, d.before a0 Z = true) : (Jvm.Cond.instantiable "com/example/coppice/coppice/classfile/Constant$MemberRef" (3 : Nat)).before a0 Z = true := hw _ (List.mem_of_getElem? (i := 19) rfl)
theorem w20 {Z : State} {a0 : Array Value} (hw : ∀ d ∈ tables_1, d.before a0 Z = true) : (Jvm.Cond.initialized "com/example/coppice/coppice/classfile/Constant$MemberRef").before a0 Z = true := hw _ (List.mem_of_getElem? (i := 20) rfl)
theorem w21 {Z : State} {a0 : Array Value} (hw : ∀ d ∈ tables_1, d.before a0 Z = true) : (Jvm.Cond.methodLink "com/example/coppice/coppice/classfile/NameAndTypeEqualsPinLaw" (14 : Nat) ({ cls := "com/example/coppice/coppice/classfile/Constant$MemberRef", name := "<init>", desc := "(III)V" } : Jvm.MethodName)).before a0 Z = true := hw _ (List.mem_of_getElem? (i := 21) rfl)
theorem w22 {Z : State} {a0 : Array Value} (hw : ∀ d ∈ tables_1, d.before a0 Z = true) : (Jvm.Cond.instanceMethod ({ cls := "com/example/coppice/coppice/classfile/Constant$MemberRef", name := "<init>", desc := "(III)V" } : Jvm.MethodName)).before a0 Z = true := hw _ (List.mem_of_getElem? (i := 22) rfl)
theorem w23 {Z : State} {a0 : Array Value} (hw : ∀ d ∈ tables_1, d.before a0 Z = true) : (Jvm.Cond.code ({ cls := "com/example/coppice/coppice/classfile/Constant$MemberRef", name := "<init>", desc := "(III)V" } : Jvm.MethodName) prog_38_method_1_code (4 : Nat) (Option.none : Option Jvm.ClassFile.FieldType)).before a0 Z = true := hw _ (List.mem_of_getElem? (i := 23) rfl)
theorem w24 {Z : State} {a0 : Array Value} (hw : ∀ d ∈ tables_1, d.before a0 Z = true) : (Jvm.Cond.methodLink "com/example/coppice/coppice/classfile/Constant$MemberRef" (1 : Nat) ({ cls := "java/lang/Record", name := "<init>", desc := "()V" } : Jvm.MethodName)).before a0 Z = true := hw _ (List.mem_of_getElem? (i := 24) rfl)
theorem w25 {Z : State} {a0 : Array Value} (hw : ∀ d ∈ tables_1, d.before a0 Z = true) : (Jvm.Cond.fieldLink "com/example/coppice/coppice/classfile/Constant$MemberRef" (7 : Nat) "com/example/coppice/coppice/classfile/Constant$MemberRef" "tag" "I").before a0 Z = true := hw _ (List.mem_of_getElem? (i := 25) rfl)
theorem w26 {Z : State} {a0 : Array Value} (hw : ∀ d ∈ tables_1, d.before a0 Z = true) : (Jvm.Cond.laysFinal "com/example/coppice/coppice/classfile/Constant$MemberRef" "com/example/coppice/coppice/classfile/Constant$MemberRef" "tag" "I").before a0 Z = true := hw _ (List.mem_of_getElem? (i := 26) rfl)
theorem w27 {Z : State} {a0 : Array Value} (hw : ∀ d ∈ tables_1, d.before a0 Z = true) : (Jvm.Cond.fieldLink "com/example/coppice/coppice/classfile/Constant$MemberRef" (13 : Nat) "com/example/coppice/coppice/classfile/Constant$MemberRef" "classIndex" "I").before a0 Z = true := hw _ (List.mem_of_getElem? (i := 27) rfl)
theorem w28 {Z : State} {a0 : Array Value} (hw : ∀ d ∈ tables_1, d.before a0 Z = true) : (Jvm.Cond.laysFinal "com/example/coppice/coppice/classfile/Constant$MemberRef" "com/example/coppice/coppice/classfile/Constant$MemberRef" "classIndex" "I").before a0 Z = true := hw _ (List.mem_of_getElem? (i := 28) rfl)
theorem w29 {Z : State} {a0 : Array Value} (hw : ∀ d ∈ tables_1, d.before a0 Z = true) : (Jvm.Cond.fieldLink "com/example/coppice/coppice/classfile/Constant$MemberRef" (16 : Nat) "com/example/coppice/coppice/classfile/Constant$MemberRef" "nameAndTypeIndex" "I").before a0 Z = true := hw _ (List.mem_of_getElem? (i := 29) rfl)
theorem w30 {Z : State} {a0 : Array Value} (hw : ∀ d ∈ tables_1, d.before a0 Z = true) : (Jvm.Cond.laysFinal "com/example/coppice/coppice/classfile/Constant$MemberRef" "com/example/coppice/coppice/classfile/Constant$MemberRef" "nameAndTypeIndex" "I").before a0 Z = true := hw _ (List.mem_of_getElem? (i := 30) rfl)
theorem w31 {Z : State} {a0 : Array Value} (hw : ∀ d ∈ tables_1, d.before a0 Z = true) : (Jvm.Cond.methodLink "com/example/coppice/coppice/classfile/NameAndTypeEqualsPinLaw" (17 : Nat) ({ cls := "com/example/coppice/coppice/classfile/Constant$NameAndType", name := "equals", desc := "(Ljava/lang/Object;)Z" } : Jvm.MethodName)).before a0 Z = true := hw _ (List.mem_of_getElem? (i := 31) rfl)
theorem w32 {Z : State} {a0 : Array Value} (hw : ∀ d ∈ tables_1, d.before a0 Z = true) : (Jvm.Cond.declares ({ cls := "com/example/coppice/coppice/classfile/Constant$NameAndType", name := "equals", desc := "(Ljava/lang/Object;)Z" } : Jvm.MethodName)).before a0 Z = true := hw _ (List.mem_of_getElem? (i := 32) rfl)
theorem w33 {Z : State} {a0 : Array Value} (hw : ∀ d ∈ tables_1, d.before a0 Z = true) : (Jvm.Cond.instanceMethod ({ cls := "com/example/coppice/coppice/classfile/Constant$NameAndType", name := "equals", desc := "(Ljava/lang/Object;)Z" } : Jvm.MethodName)).before a0 Z = true := hw _ (List.mem_of_getElem? (i := 33) rfl)
theorem w34 {Z : State} {a0 : Array Value} (hw : ∀ d ∈ tables_1, d.before a0 Z = true) : (Jvm.Cond.selects "com/example/coppice/coppice/classfile/Constant$NameAndType" ({ cls := "com/example/coppice/coppice/classfile/Constant$NameAndType", name := "equals", desc := "(Ljava/lang/Object;)Z" } : Jvm.MethodName) ({ cls := "com/example/coppice/coppice/classfile/Constant$NameAndType", name := "equals", desc := "(Ljava/lang/Object;)Z" } : Jvm.MethodName)).before a0 Z = true := hw _ (List.mem_of_getElem? (i := 34) rfl)
theorem w35 {Z : State} {a0 : Array Value} (hw : ∀ d ∈ tables_1, d.before a0 Z = true) : (Jvm.Cond.code ({ cls := "com/example/coppice/coppice/classfile/Constant$NameAndType", name := "equals", desc := "(Ljava/lang/Object;)Z" } : Jvm.MethodName) prog_42_method_5_code (3 : Nat) (Option.some Jvm.ClassFile.FieldType.boolean)).before a0 Z = true := hw _ (List.mem_of_getElem? (i := 35) rfl)
theorem w36 {Z : State} {a0 : Array Value} (hw : ∀ d ∈ tables_1, d.before a0 Z = true) : (Jvm.Cond.classLink "com/example/coppice/coppice/classfile/Constant$NameAndType" (8 : Nat) "com/example/coppice/coppice/classfile/Constant$NameAndType").before a0 Z = true := hw _ (List.mem_of_getElem? (i := 36) rfl)
theorem w38 {Z : State} {a0 : Array Value} (hw : ∀ d ∈ tables_1, d.before a0 Z = true) : (Jvm.Cond.superclass "com/example/coppice/coppice/classfile/Constant$MemberRef" "java/lang/Record").before a0 Z = true := hw _ (List.mem_of_getElem? (i := 38) rfl)
theorem w39 {Z : State} {a0 : Array Value} (hw : ∀ d ∈ tables_1, d.before a0 Z = true) : (Jvm.Cond.superclass "java/lang/Record" "java/lang/Object").before a0 Z = true := hw _ (List.mem_of_getElem? (i := 39) rfl)
theorem w40 {Z : State} {a0 : Array Value} (hw : ∀ d ∈ tables_1, d.before a0 Z = true) : (Jvm.Cond.noSuperclass "java/lang/Object").before a0 Z = true := hw _ (List.mem_of_getElem? (i := 40) rfl)
theorem d_rec_0 : decode jdk_30_method_1_code 0 = .ok (.aload_n 0, 1) := by decide +kernel
theorem d_rec_1 : decode jdk_30_method_1_code 1 = .ok (.invokespecial 1, 3) := by decide +kernel
theorem d_rec_4 : decode jdk_30_method_1_code 4 = .ok (.return_, 1) := by decide +kernel
theorem pn_rec : plainName "java/lang/Record" = true := by first | (simp [plainName, overriddenIn]; done) | decide +kernel
theorem d_nt_0 : decode prog_42_method_1_code 0 = .ok (.aload_n 0, 1) := by decide +kernel
theorem d_nt_1 : decode prog_42_method_1_code 1 = .ok (.invokespecial 1, 3) := by decide +kernel
theorem pd_0 : parseMethodDescriptor "()V" = some ⟨[], none⟩ := by decide +kernel
theorem d_nt_4 : decode prog_42_method_1_code 4 = .ok (.aload_n 0, 1) := by decide +kernel
theorem d_nt_5 : decode prog_42_method_1_code 5 = .ok (.iload_n 1, 1) := by decide +kernel
theorem d_nt_6 : decode prog_42_method_1_code 6 = .ok (.putfield 7, 3) := by decide +kernel
theorem d_nt_9 : decode prog_42_method_1_code 9 = .ok (.aload_n 0, 1) := by decide +kernel
theorem d_nt_10 : decode prog_42_method_1_code 10 = .ok (.iload_n 2, 1) := by decide +kernel
theorem d_nt_11 : decode prog_42_method_1_code 11 = .ok (.putfield 13, 3) := by decide +kernel
theorem d_nt_14 : decode prog_42_method_1_code 14 = .ok (.return_, 1) := by decide +kernel
theorem pn_nt : plainName "com/example/coppice/coppice/classfile/Constant$NameAndType" = true := by first | (simp [plainName, overriddenIn]; done) | decide +kernel
theorem d_mr_0 : decode prog_38_method_1_code 0 = .ok (.aload_n 0, 1) := by decide +kernel
theorem d_mr_1 : decode prog_38_method_1_code 1 = .ok (.invokespecial 1, 3) := by decide +kernel
theorem d_mr_4 : decode prog_38_method_1_code 4 = .ok (.aload_n 0, 1) := by decide +kernel
theorem d_mr_5 : decode prog_38_method_1_code 5 = .ok (.iload_n 1, 1) := by decide +kernel
theorem d_mr_6 : decode prog_38_method_1_code 6 = .ok (.putfield 7, 3) := by decide +kernel
theorem d_mr_9 : decode prog_38_method_1_code 9 = .ok (.aload_n 0, 1) := by decide +kernel
theorem d_mr_10 : decode prog_38_method_1_code 10 = .ok (.iload_n 2, 1) := by decide +kernel
theorem d_mr_11 : decode prog_38_method_1_code 11 = .ok (.putfield 13, 3) := by decide +kernel
theorem d_mr_14 : decode prog_38_method_1_code 14 = .ok (.aload_n 0, 1) := by decide +kernel
theorem d_mr_15 : decode prog_38_method_1_code 15 = .ok (.iload_n 3, 1) := by decide +kernel
theorem d_mr_16 : decode prog_38_method_1_code 16 = .ok (.putfield 16, 3) := by decide +kernel
theorem d_mr_19 : decode prog_38_method_1_code 19 = .ok (.return_, 1) := by decide +kernel
theorem pn_mr : plainName "com/example/coppice/coppice/classfile/Constant$MemberRef" = true := by first | (simp [plainName, overriddenIn]; done) | decide +kernel
theorem d_eqv_0 : decode prog_42_method_5_code 0 = .ok (.aload_n 1, 1) := by decide +kernel
theorem d_eqv_1 : decode prog_42_method_5_code 1 = .ok (.instanceof 8, 3) := by decide +kernel
theorem d_eqv_4 : decode prog_42_method_5_code 4 = .ok (.ifCond .eq 34, 3) := by decide +kernel
theorem d_eqv_7 : decode prog_42_method_5_code 7 = .ok (.aload_n 1, 1) := by decide +kernel
theorem d_eqv_8 : decode prog_42_method_5_code 8 = .ok (.checkcast 8, 3) := by decide +kernel
theorem d_eqv_11 : decode prog_42_method_5_code 11 = .ok (.astore_n 2, 1) := by decide +kernel
theorem d_eqv_12 : decode prog_42_method_5_code 12 = .ok (.aload_n 0, 1) := by decide +kernel
theorem d_eqv_13 : decode prog_42_method_5_code 13 = .ok (.getfield 7, 3) := by decide +kernel
theorem d_eqv_16 : decode prog_42_method_5_code 16 = .ok (.aload_n 2, 1) := by decide +kernel
theorem d_eqv_17 : decode prog_42_method_5_code 17 = .ok (.getfield 7, 3) := by decide +kernel
theorem d_eqv_20 : decode prog_42_method_5_code 20 = .ok (.if_icmp .ne 18, 3) := by decide +kernel
theorem d_eqv_23 : decode prog_42_method_5_code 23 = .ok (.aload_n 0, 1) := by decide +kernel
theorem d_eqv_24 : decode prog_42_method_5_code 24 = .ok (.getfield 13, 3) := by decide +kernel
theorem d_eqv_27 : decode prog_42_method_5_code 27 = .ok (.aload_n 2, 1) := by decide +kernel
theorem d_eqv_28 : decode prog_42_method_5_code 28 = .ok (.getfield 13, 3) := by decide +kernel
theorem d_eqv_31 : decode prog_42_method_5_code 31 = .ok (.if_icmp .ne 7, 3) := by decide +kernel
theorem d_eqv_34 : decode prog_42_method_5_code 34 = .ok (.iconst 1, 1) := by decide +kernel
theorem d_eqv_35 : decode prog_42_method_5_code 35 = .ok (.goto 4, 3) := by decide +kernel
theorem d_eqv_39 : decode prog_42_method_5_code 39 = .ok (.ireturn, 1) := by decide +kernel
theorem d_eqv_38 : decode prog_42_method_5_code 38 = .ok (.iconst 0, 1) := by decide +kernel
theorem pn_eqv : plainName "com/example/coppice/coppice/classfile/Constant$NameAndType" = true := by first | (simp [plainName, overriddenIn]; done) | decide +kernel
theorem d_eqn_0 : decode prog_42_method_5_code 0 = .ok (.aload_n 1, 1) := by decide +kernel
theorem d_eqn_1 : decode prog_42_method_5_code 1 = .ok (.instanceof 8, 3) := by decide +kernel
theorem d_eqn_4 : decode prog_42_method_5_code 4 = .ok (.ifCond .eq 34, 3) := by decide +kernel
theorem d_eqn_38 : decode prog_42_method_5_code 38 = .ok (.iconst 0, 1) := by decide +kernel
theorem d_eqn_39 : decode prog_42_method_5_code 39 = .ok (.ireturn, 1) := by decide +kernel
theorem pn_eqn : plainName "com/example/coppice/coppice/classfile/Constant$NameAndType" = true := by first | (simp [plainName, overriddenIn]; done) | decide +kernel
theorem d_eqm_0 : decode prog_42_method_5_code 0 = .ok (.aload_n 1, 1) := by decide +kernel
theorem d_eqm_1 : decode prog_42_method_5_code 1 = .ok (.instanceof 8, 3) := by decide +kernel
theorem d_eqm_4 : decode prog_42_method_5_code 4 = .ok (.ifCond .eq 34, 3) := by decide +kernel
theorem d_eqm_38 : decode prog_42_method_5_code 38 = .ok (.iconst 0, 1) := by decide +kernel
theorem d_eqm_39 : decode prog_42_method_5_code 39 = .ok (.ireturn, 1) := by decide +kernel
theorem pn_eqm : plainName "com/example/coppice/coppice/classfile/Constant$NameAndType" = true := by first | (simp [plainName, overriddenIn]; done) | decide +kernel
theorem pd_1 : parseMethodDescriptor "(II)V" = some ⟨[.int, .int], none⟩ := by decide +kernel
theorem pd_2 : parseMethodDescriptor "(III)V" = some ⟨[.int, .int, .int], none⟩ := by decide +kernel
theorem pd_3 : parseMethodDescriptor "(Ljava/lang/Object;)Z" = some ⟨[(.object "java/lang/Object")], some .boolean⟩ := by decide +kernel
theorem pn_law : plainName "com/example/coppice/coppice/classfile/NameAndTypeEqualsPinLaw" = true := by first | (simp [plainName, overriddenIn]; done) | decide +kernel
theorem own_ns_root {Z : State} {a0 : Array Value} {O K : String} {n : Nat} (w : (Jvm.Cond.noSuperclass O).before a0 Z = true) (wk : (Jvm.Cond.instantiable K n).before a0 Z = true) (hn : O ≠ K) : NS Z O K := by
  obtain ⟨c, k, h1, h2, h3, -, -⟩ := Cond.noSuperclass_spec w
  obtain ⟨t, kt, g1, -⟩ := Cond.instantiable_spec wk
  have ne := ids_ne h1 g1 hn
  refine ⟨c, t, h1, g1, fun fuel => ?_⟩
  cases fuel with
  | zero => rfl
  | succ f => simp [Vm.isSubclassAux, ne, h2, h3]
theorem own_ns_no {Z : State} {a0 : Array Value} {C S K : String} {n : Nat} (w : (Jvm.Cond.superclass C S).before a0 Z = true) (wk : (Jvm.Cond.instantiable K n).before a0 Z = true) (q : NS Z C K) (hn : C ≠ K) : ∃ c t, Z.vm.findClass C = some c ∧ Z.vm.findClass K = some t ∧ Z.vm.assignable c t = false := by
  obtain ⟨c, t, h0, g0, n3⟩ := q
  obtain ⟨p, k, kp, h1, h2, h3, h4, h5, -, h7⟩ := Cond.superclass_spec h0 w
  obtain ⟨t', k', g1, g2, g3, g4, -⟩ := Cond.instantiable_spec wk
  cases g0.symm.trans g1
  have g7 : k'.isInterface = false := by revert g4; cases k'.isInterface <;> simp
  have ne := ids_ne h0 g0 hn
  refine ⟨c, t, h0, g0, ?_⟩
  show Z.vm.assignableAux (255 + 1) c t = false
  simp [Vm.assignableAux, ne, h2, g2, h5, g3, g7, Vm.isSubclass, n3]
def E_v (p0 p1 q0 q1 : Int32) : Int32 := if p0 = q0 then (if p1 = q1 then 1 else 0) else 0
theorem own_sym (p0 p1 q0 q1 : Int32) : E_v p0 p1 q0 q1 = E_v q0 q1 p0 p1 := by simp only [E_v, eq_comm]
theorem own_refl (p0 p1 : Int32) : E_v p0 p1 p0 p1 = 1 := by simp [E_v]
def Q_rec (Z : State) (a : Addr) (h0 : Heap) (n0 : Nat) (v : Option Value) (h : Heap) (L : List Loc) : Prop := v = none ∧ Fr n0 L ∧ h = h0
theorem ef_rec (m : MethodId) (x0 : Addr) : entryFrame m #[(.ref x0)] 1 = mkF m 0 #[.val (.ref x0)] [] := by first | (simp [entryFrame, mkF, argsToLocals, Value.category]; done) | rfl
set_option maxRecDepth 65536 in
set_option maxHeartbeats 40000000 in
theorem rm_rec (l : Launch) (Z : State) (a0 : Array Value) (hw : ∀ d ∈ tables_1, d.before a0 Z = true) (a : Addr) (h0 : Heap) (n0 : Nat) (Z0 : n0 ≤ h0.size)  :
    Met l Z (⟨"java/lang/Record", "<init>", "()V"⟩ : MethodName) jdk_30_method_1_code 1 none [] ({ frames := 1, cells := 0, slots := 0, locals := 12 } : Room) #[(.ref a)] h0 (Q_rec Z a h0 n0) := by
  refine Met.of (plainFor_of_name pn_rec) ?_
  intro p e s m below meth c s₁ X0 hx hby hml hZ hown hnm e0 hret hlk
  refine Go.cast (ef_rec m a) ?_
  show Go _ _ _ _ s₁ (mkF m 0 #[.val (.ref a)] []) _ _ _
  have N0 := Fr.nil n0
  refine Go.aloadN X0 hx (hb hby d_rec_0) rfl rfl ?_
  show Go _ _ _ _ s₁ (mkF m 1 #[.val (.ref a)] [(.ref a)]) _ _ _
  refine Go.initO (W := 0) X0 hx hZ hown (w11 hw) (w12 hw) (w13 hw) e0 (hb hby d_rec_1) (by rw [hml]; rfl) (Nat.le_of_eq rfl) (by decide) (by decide) ?_
  intro T1 X1 e1
  show Go _ _ _ _ T1 (mkF m 4 #[.val (.ref a)] []) _ _ _
  refine Go.ret0 X1 hx hlk hret (hb hby d_rec_4) (by decide) (by decide) ?_
  rw [e1]
  exact ⟨rfl, N0, rfl⟩
def Q_nt (Z : State) (a : Addr) (p0 : Int32) (p1 : Int32) (h0 : Heap) (n0 : Nat) (v : Option Value) (h : Heap) (L : List Loc) : Prop := v = none ∧ Fr n0 L ∧ Keep h0 h [a] ∧ Exa Z h a "com/example/coppice/coppice/classfile/Constant$NameAndType" ∧ Fld Z h a "com/example/coppice/coppice/classfile/Constant$NameAndType" "nameIndex" "I" (.int p0) ∧ Fld Z h a "com/example/coppice/coppice/classfile/Constant$NameAndType" "descriptorIndex" "I" (.int p1)
theorem ef_nt (m : MethodId) (x0 : Addr) (x1 : Int32) (x2 : Int32) : entryFrame m #[(.ref x0), (.int x1), (.int x2)] 3 = mkF m 0 #[.val (.ref x0), .val (.int x1), .val (.int x2)] [] := by first | (simp [entryFrame, mkF, argsToLocals, Value.category]; done) | rfl
set_option maxRecDepth 65536 in
set_option maxHeartbeats 40000000 in
theorem rm_nt (l : Launch) (Z : State) (a0 : Array Value) (hw : ∀ d ∈ tables_1, d.before a0 Z = true) (a : Addr) (p0 : Int32) (p1 : Int32) (h0 : Heap) (n0 : Nat) (Z0 : n0 ≤ h0.size) (f0 : Exa Z h0 a "com/example/coppice/coppice/classfile/Constant$NameAndType") (f1 : n0 ≤ a) (f2 : Fld Z h0 a "com/example/coppice/coppice/classfile/Constant$NameAndType" "nameIndex" "I" (.int (0 : Int32))) (f3 : Fld Z h0 a "com/example/coppice/coppice/classfile/Constant$NameAndType" "descriptorIndex" "I" (.int (0 : Int32))) :
    Met l Z (⟨"com/example/coppice/coppice/classfile/Constant$NameAndType", "<init>", "(II)V"⟩ : MethodName) prog_42_method_1_code 3 none [] ({ frames := 2, cells := 0, slots := 0, locals := 24 } : Room) #[(.ref a), (.int p0), (.int p1)] h0 (Q_nt Z a p0 p1 h0 n0) := by
  refine Met.of (plainFor_of_name pn_nt) ?_
  intro p e s m below meth c s₁ X0 hx hby hml hZ hown hnm e0 hret hlk
  refine Go.cast (ef_nt m a p0 p1) ?_
  show Go _ _ _ _ s₁ (mkF m 0 #[.val (.ref a), .val (.int p0), .val (.int p1)] []) _ _ _
  have N0 := Fr.nil n0
  refine Go.aloadN X0 hx (hb hby d_nt_0) rfl rfl ?_
  show Go _ _ _ _ s₁ (mkF m 1 #[.val (.ref a), .val (.int p0), .val (.int p1)] [(.ref a)]) _ _ _
  refine Go.callI (W := 0) (a := a) (argsL := []) (rest := []) X0 hx hZ hown rfl (w6 hw) (w7 hw) (w9 hw) (w10 hw) (by decide) (rm_rec l Z a0 hw a h0 n0 Z0 ) e0 (lenOf pd_0 rfl) (hb hby d_nt_1) (by rw [hml]; rfl) rfl (Nat.le_of_eq rfl) (by decide) (by decide) (by decide) (by decide) ?_
  intro v2 T2 L2 X2 q2
  obtain ⟨rfl, M2, e2⟩ := q2
  have N2 := Fr.app N0 M2
  show Go _ _ _ _ T2 (mkF m 4 #[.val (.ref a), .val (.int p0), .val (.int p1)] []) _ _ _
  refine Go.aloadN X2 hx (hb hby d_nt_4) rfl rfl ?_
  show Go _ _ _ _ T2 (mkF m 5 #[.val (.ref a), .val (.int p0), .val (.int p1)] [(.ref a)]) _ _ _
  refine Go.iloadN X2 hx (hb hby d_nt_5) rfl ?_
  show Go _ _ _ _ T2 (mkF m 6 #[.val (.ref a), .val (.int p0), .val (.int p1)] [(.int p0), (.ref a)]) _ _ _
  refine Go.putF X2 hx hZ hown (w14 hw) Via.refl e2 f2 f0 (Or.inr ⟨(w15 hw), rfl, hnm⟩) (w1 hw) (ty := .int) (by decide) rfl rfl (hb hby d_nt_6) ?_
  intro T3 h3 X3 e3 W3
  have N3 := Fr.snoc X3 N2 f1
  have Z3 : n0 ≤ h3.size := by rw [Wr.size W3]; exact Z0
  have B3 : h0.size ≤ h3.size := by rw [Wr.size W3]; exact (Nat.le_refl _)
  show Go _ _ _ _ T3 (mkF m 9 #[.val (.ref a), .val (.int p0), .val (.int p1)] []) _ _ _
  refine Go.aloadN X3 hx (hb hby d_nt_9) rfl rfl ?_
  show Go _ _ _ _ T3 (mkF m 10 #[.val (.ref a), .val (.int p0), .val (.int p1)] [(.ref a)]) _ _ _
  refine Go.iloadN X3 hx (hb hby d_nt_10) rfl ?_
  show Go _ _ _ _ T3 (mkF m 11 #[.val (.ref a), .val (.int p0), .val (.int p1)] [(.int p1), (.ref a)]) _ _ _
  have F4 := (Fld.other W3 f3 (Or.inr (slot_ne (a0 := a0) (Or.inr (w17 hw)) (Or.inr (w15 hw)) (t := .int) (t' := .int) (by decide) (by decide) (by decide))))
  refine Go.putF X3 hx hZ hown (w16 hw) Via.refl e3 F4 (Exa.wr W3 f0) (Or.inr ⟨(w17 hw), rfl, hnm⟩) (w1 hw) (ty := .int) (by decide) rfl rfl (hb hby d_nt_11) ?_
  intro T5 h5 X5 e5 W5
  have N5 := Fr.snoc X5 N3 f1
  have Z5 : n0 ≤ h5.size := by rw [Wr.size W5]; exact Z3
  have B5 : h0.size ≤ h5.size := by rw [Wr.size W5]; exact B3
  show Go _ _ _ _ T5 (mkF m 14 #[.val (.ref a), .val (.int p0), .val (.int p1)] []) _ _ _
  refine Go.ret0 X5 hx hlk hret (hb hby d_nt_14) (by decide) (by decide) ?_
  rw [e5]
  have F6 := (Fld.other W5 (Fld.same W3 f2) (Or.inr (slot_ne (a0 := a0) (Or.inr (w15 hw)) (Or.inr (w17 hw)) (t := .int) (t' := .int) (by decide) (by decide) (by decide))))
  exact ⟨rfl, N5, (Keep.wr (Keep.wr (Keep.refl _ _) W3 (Or.inl (List.mem_of_getElem? (i := 0) rfl))) W5 (Or.inl (List.mem_of_getElem? (i := 0) rfl))), (Exa.wr W5 (Exa.wr W3 f0)), F6, (Fld.same W5 F4)⟩
def Q_mr (Z : State) (a : Addr) (p0 : Int32) (p1 : Int32) (p2 : Int32) (h0 : Heap) (n0 : Nat) (v : Option Value) (h : Heap) (L : List Loc) : Prop := v = none ∧ Fr n0 L ∧ Keep h0 h [a] ∧ Exa Z h a "com/example/coppice/coppice/classfile/Constant$MemberRef" ∧ Fld Z h a "com/example/coppice/coppice/classfile/Constant$MemberRef" "tag" "I" (.int p0) ∧ Fld Z h a "com/example/coppice/coppice/classfile/Constant$MemberRef" "classIndex" "I" (.int p1) ∧ Fld Z h a "com/example/coppice/coppice/classfile/Constant$MemberRef" "nameAndTypeIndex" "I" (.int p2)
theorem ef_mr (m : MethodId) (x0 : Addr) (x1 : Int32) (x2 : Int32) (x3 : Int32) : entryFrame m #[(.ref x0), (.int x1), (.int x2), (.int x3)] 4 = mkF m 0 #[.val (.ref x0), .val (.int x1), .val (.int x2), .val (.int x3)] [] := by first | (simp [entryFrame, mkF, argsToLocals, Value.category]; done) | rfl
set_option maxRecDepth 65536 in
set_option maxHeartbeats 40000000 in
theorem rm_mr (l : Launch) (Z : State) (a0 : Array Value) (hw : ∀ d ∈ tables_1, d.before a0 Z = true) (a : Addr) (p0 : Int32) (p1 : Int32) (p2 : Int32) (h0 : Heap) (n0 : Nat) (Z0 : n0 ≤ h0.size) (f0 : Exa Z h0 a "com/example/coppice/coppice/classfile/Constant$MemberRef") (f1 : n0 ≤ a) (f2 : Fld Z h0 a "com/example/coppice/coppice/classfile/Constant$MemberRef" "tag" "I" (.int (0 : Int32))) (f3 : Fld Z h0 a "com/example/coppice/coppice/classfile/Constant$MemberRef" "classIndex" "I" (.int (0 : Int32))) (f4 : Fld Z h0 a "com/example/coppice/coppice/classfile/Constant$MemberRef" "nameAndTypeIndex" "I" (.int (0 : Int32))) :
    Met l Z (⟨"com/example/coppice/coppice/classfile/Constant$MemberRef", "<init>", "(III)V"⟩ : MethodName) prog_38_method_1_code 4 none [] ({ frames := 2, cells := 0, slots := 0, locals := 24 } : Room) #[(.ref a), (.int p0), (.int p1), (.int p2)] h0 (Q_mr Z a p0 p1 p2 h0 n0) := by
  refine Met.of (plainFor_of_name pn_mr) ?_
  intro p e s m below meth c s₁ X0 hx hby hml hZ hown hnm e0 hret hlk
  refine Go.cast (ef_mr m a p0 p1 p2) ?_
  show Go _ _ _ _ s₁ (mkF m 0 #[.val (.ref a), .val (.int p0), .val (.int p1), .val (.int p2)] []) _ _ _
  have N0 := Fr.nil n0
  refine Go.aloadN X0 hx (hb hby d_mr_0) rfl rfl ?_
  show Go _ _ _ _ s₁ (mkF m 1 #[.val (.ref a), .val (.int p0), .val (.int p1), .val (.int p2)] [(.ref a)]) _ _ _
  refine Go.callI (W := 0) (a := a) (argsL := []) (rest := []) X0 hx hZ hown rfl (w24 hw) (w7 hw) (w9 hw) (w10 hw) (by decide) (rm_rec l Z a0 hw a h0 n0 Z0 ) e0 (lenOf pd_0 rfl) (hb hby d_mr_1) (by rw [hml]; rfl) rfl (Nat.le_of_eq rfl) (by decide) (by decide) (by decide) (by decide) ?_
  intro v7 T7 L7 X7 q7
  obtain ⟨rfl, M7, e7⟩ := q7
  have N7 := Fr.app N0 M7
  show Go _ _ _ _ T7 (mkF m 4 #[.val (.ref a), .val (.int p0), .val (.int p1), .val (.int p2)] []) _ _ _
  refine Go.aloadN X7 hx (hb hby d_mr_4) rfl rfl ?_
  show Go _ _ _ _ T7 (mkF m 5 #[.val (.ref a), .val (.int p0), .val (.int p1), .val (.int p2)] [(.ref a)]) _ _ _
  refine Go.iloadN X7 hx (hb hby d_mr_5) rfl ?_
  show Go _ _ _ _ T7 (mkF m 6 #[.val (.ref a), .val (.int p0), .val (.int p1), .val (.int p2)] [(.int p0), (.ref a)]) _ _ _
  refine Go.putF X7 hx hZ hown (w25 hw) Via.refl e7 f2 f0 (Or.inr ⟨(w26 hw), rfl, hnm⟩) (w19 hw) (ty := .int) (by decide) rfl rfl (hb hby d_mr_6) ?_
  intro T8 h8 X8 e8 W8
  have N8 := Fr.snoc X8 N7 f1
  have Z8 : n0 ≤ h8.size := by rw [Wr.size W8]; exact Z0
  have B8 : h0.size ≤ h8.size := by rw [Wr.size W8]; exact (Nat.le_refl _)
  show Go _ _ _ _ T8 (mkF m 9 #[.val (.ref a), .val (.int p0), .val (.int p1), .val (.int p2)] []) _ _ _
  refine Go.aloadN X8 hx (hb hby d_mr_9) rfl rfl ?_
  show Go _ _ _ _ T8 (mkF m 10 #[.val (.ref a), .val (.int p0), .val (.int p1), .val (.int p2)] [(.ref a)]) _ _ _
  refine Go.iloadN X8 hx (hb hby d_mr_10) rfl ?_
  show Go _ _ _ _ T8 (mkF m 11 #[.val (.ref a), .val (.int p0), .val (.int p1), .val (.int p2)] [(.int p1), (.ref a)]) _ _ _
  have F9 := (Fld.other W8 f3 (Or.inr (slot_ne (a0 := a0) (Or.inr (w28 hw)) (Or.inr (w26 hw)) (t := .int) (t' := .int) (by decide) (by decide) (by decide))))
  refine Go.putF X8 hx hZ hown (w27 hw) Via.refl e8 F9 (Exa.wr W8 f0) (Or.inr ⟨(w28 hw), rfl, hnm⟩) (w19 hw) (ty := .int) (by decide) rfl rfl (hb hby d_mr_11) ?_
  intro T10 h10 X10 e10 W10
  have N10 := Fr.snoc X10 N8 f1
  have Z10 : n0 ≤ h10.size := by rw [Wr.size W10]; exact Z8
  have B10 : h0.size ≤ h10.size := by rw [Wr.size W10]; exact B8
  show Go _ _ _ _ T10 (mkF m 14 #[.val (.ref a), .val (.int p0), .val (.int p1), .val (.int p2)] []) _ _ _
  refine Go.aloadN X10 hx (hb hby d_mr_14) rfl rfl ?_
  show Go _ _ _ _ T10 (mkF m 15 #[.val (.ref a), .val (.int p0), .val (.int p1), .val (.int p2)] [(.ref a)]) _ _ _
  refine Go.iloadN X10 hx (hb hby d_mr_15) rfl ?_
  show Go _ _ _ _ T10 (mkF m 16 #[.val (.ref a), .val (.int p0), .val (.int p1), .val (.int p2)] [(.int p2), (.ref a)]) _ _ _
  have F11 := (Fld.other W10 (Fld.other W8 f4 (Or.inr (slot_ne (a0 := a0) (Or.inr (w30 hw)) (Or.inr (w26 hw)) (t := .int) (t' := .int) (by decide) (by decide) (by decide)))) (Or.inr (slot_ne (a0 := a0) (Or.inr (w30 hw)) (Or.inr (w28 hw)) (t := .int) (t' := .int) (by decide) (by decide) (by decide))))
  refine Go.putF X10 hx hZ hown (w29 hw) Via.refl e10 F11 (Exa.wr W10 (Exa.wr W8 f0)) (Or.inr ⟨(w30 hw), rfl, hnm⟩) (w19 hw) (ty := .int) (by decide) rfl rfl (hb hby d_mr_16) ?_
  intro T12 h12 X12 e12 W12
  have N12 := Fr.snoc X12 N10 f1
  have Z12 : n0 ≤ h12.size := by rw [Wr.size W12]; exact Z10
  have B12 : h0.size ≤ h12.size := by rw [Wr.size W12]; exact B10
  show Go _ _ _ _ T12 (mkF m 19 #[.val (.ref a), .val (.int p0), .val (.int p1), .val (.int p2)] []) _ _ _
  refine Go.ret0 X12 hx hlk hret (hb hby d_mr_19) (by decide) (by decide) ?_
  rw [e12]
  have F13 := (Fld.other W12 (Fld.other W10 (Fld.same W8 f2) (Or.inr (slot_ne (a0 := a0) (Or.inr (w26 hw)) (Or.inr (w28 hw)) (t := .int) (t' := .int) (by decide) (by decide) (by decide)))) (Or.inr (slot_ne (a0 := a0) (Or.inr (w26 hw)) (Or.inr (w30 hw)) (t := .int) (t' := .int) (by decide) (by decide) (by decide))))
  have F14 := (Fld.other W12 (Fld.same W10 F9) (Or.inr (slot_ne (a0 := a0) (Or.inr (w28 hw)) (Or.inr (w30 hw)) (t := .int) (t' := .int) (by decide) (by decide) (by decide))))
  exact ⟨rfl, N12, (Keep.wr (Keep.wr (Keep.wr (Keep.refl _ _) W8 (Or.inl (List.mem_of_getElem? (i := 0) rfl))) W10 (Or.inl (List.mem_of_getElem? (i := 0) rfl))) W12 (Or.inl (List.mem_of_getElem? (i := 0) rfl))), (Exa.wr W12 (Exa.wr W10 (Exa.wr W8 f0))), F13, F14, (Fld.same W12 F11)⟩
def Q_eqv (Z : State) (a : Addr) (b : Addr) (p0 : Int32) (p1 : Int32) (q0 : Int32) (q1 : Int32) (h0 : Heap) (n0 : Nat) (v : Option Value) (h : Heap) (L : List Loc) : Prop := v = some (.int (E_v p0 p1 q0 q1)) ∧ Fr n0 L ∧ h = h0
theorem ef_eqv (m : MethodId) (x0 : Addr) (x1 : Addr) : entryFrame m #[(.ref x0), (.ref x1)] 3 = mkF m 0 #[.val (.ref x0), .val (.ref x1), .unset] [] := by first | (simp [entryFrame, mkF, argsToLocals, Value.category]; done) | rfl
set_option maxRecDepth 65536 in
set_option maxHeartbeats 40000000 in
theorem rm_eqv (l : Launch) (Z : State) (a0 : Array Value) (hw : ∀ d ∈ tables_1, d.before a0 Z = true) (a : Addr) (b : Addr) (p0 : Int32) (p1 : Int32) (q0 : Int32) (q1 : Int32) (h0 : Heap) (n0 : Nat) (Z0 : n0 ≤ h0.size) (f0 : Fld Z h0 a "com/example/coppice/coppice/classfile/Constant$NameAndType" "nameIndex" "I" (.int p0)) (f1 : Fld Z h0 a "com/example/coppice/coppice/classfile/Constant$NameAndType" "descriptorIndex" "I" (.int p1)) (f2 : Exa Z h0 b "com/example/coppice/coppice/classfile/Constant$NameAndType") (f3 : Fld Z h0 b "com/example/coppice/coppice/classfile/Constant$NameAndType" "nameIndex" "I" (.int q0)) (f4 : Fld Z h0 b "com/example/coppice/coppice/classfile/Constant$NameAndType" "descriptorIndex" "I" (.int q1)) :
    Met l Z (⟨"com/example/coppice/coppice/classfile/Constant$NameAndType", "equals", "(Ljava/lang/Object;)Z"⟩ : MethodName) prog_42_method_5_code 3 (Option.some Jvm.ClassFile.FieldType.boolean) [] ({ frames := 0, cells := 0, slots := 0, locals := 0 } : Room) #[(.ref a), (.ref b)] h0 (Q_eqv Z a b p0 p1 q0 q1 h0 n0) := by
  refine Met.of (plainFor_of_name pn_eqv) ?_
  intro p e s m below meth c s₁ X0 hx hby hml hZ hown hnm e0 hret hlk
  refine Go.cast (ef_eqv m a b) ?_
  show Go _ _ _ _ s₁ (mkF m 0 #[.val (.ref a), .val (.ref b), .unset] []) _ _ _
  have N0 := Fr.nil n0
  refine Go.aloadN X0 hx (hb hby d_eqv_0) rfl rfl ?_
  show Go _ _ _ _ s₁ (mkF m 1 #[.val (.ref a), .val (.ref b), .unset] [(.ref b)]) _ _ _
  refine Go.instY X0 hx hZ hown (w36 hw) e0 (Ins.self f2) (hb hby d_eqv_1) ?_
  intro T15 X15 e15
  show Go _ _ _ _ T15 (mkF m 4 #[.val (.ref a), .val (.ref b), .unset] [(.int (1 : Int32))]) _ _ _
  refine Go.ifNo X15 hx (hb hby d_eqv_4) (XT.i0_eq_f (by decide)) ?_
  show Go _ _ _ _ T15 (mkF m 7 #[.val (.ref a), .val (.ref b), .unset] []) _ _ _
  refine Go.aloadN X15 hx (hb hby d_eqv_7) rfl rfl ?_
  show Go _ _ _ _ T15 (mkF m 8 #[.val (.ref a), .val (.ref b), .unset] [(.ref b)]) _ _ _
  refine Go.ccast X15 hx hZ hown (w36 hw) e15 (Ins.self f2) (hb hby d_eqv_8) ?_
  intro T16 X16 e16
  show Go _ _ _ _ T16 (mkF m 11 #[.val (.ref a), .val (.ref b), .unset] [(.ref b)]) _ _ _
  refine Go.astoreN X16 hx (hb hby d_eqv_11) rfl (l' := #[.val (.ref a), .val (.ref b), .val (.ref b)]) rfl ?_
  show Go _ _ _ _ T16 (mkF m 12 #[.val (.ref a), .val (.ref b), .val (.ref b)] []) _ _ _
  refine Go.aloadN X16 hx (hb hby d_eqv_12) rfl rfl ?_
  show Go _ _ _ _ T16 (mkF m 13 #[.val (.ref a), .val (.ref b), .val (.ref b)] [(.ref a)]) _ _ _
  refine Go.getF X16 hx hZ hown (w14 hw) Via.refl e16 f0 (hb hby d_eqv_13) ?_
  intro T17 X17 e17
  show Go _ _ _ _ T17 (mkF m 16 #[.val (.ref a), .val (.ref b), .val (.ref b)] [(.int p0)]) _ _ _
  refine Go.aloadN X17 hx (hb hby d_eqv_16) rfl rfl ?_
  show Go _ _ _ _ T17 (mkF m 17 #[.val (.ref a), .val (.ref b), .val (.ref b)] [(.ref b), (.int p0)]) _ _ _
  refine Go.getF X17 hx hZ hown (w14 hw) Via.refl e17 f3 (hb hby d_eqv_17) ?_
  intro T18 X18 e18
  show Go _ _ _ _ T18 (mkF m 20 #[.val (.ref a), .val (.ref b), .val (.ref b)] [(.int q0), (.int p0)]) _ _ _
  rcases Decidable.em (p0 = q0) with c19 | c19
  · refine Go.icmpNo X18 hx (hb hby d_eqv_20) (XT.ii_ne_f c19) ?_
    show Go _ _ _ _ T18 (mkF m 23 #[.val (.ref a), .val (.ref b), .val (.ref b)] []) _ _ _
    refine Go.aloadN X18 hx (hb hby d_eqv_23) rfl rfl ?_
    show Go _ _ _ _ T18 (mkF m 24 #[.val (.ref a), .val (.ref b), .val (.ref b)] [(.ref a)]) _ _ _
    refine Go.getF X18 hx hZ hown (w16 hw) Via.refl e18 f1 (hb hby d_eqv_24) ?_
    intro T20 X20 e20
    show Go _ _ _ _ T20 (mkF m 27 #[.val (.ref a), .val (.ref b), .val (.ref b)] [(.int p1)]) _ _ _
    refine Go.aloadN X20 hx (hb hby d_eqv_27) rfl rfl ?_
    show Go _ _ _ _ T20 (mkF m 28 #[.val (.ref a), .val (.ref b), .val (.ref b)] [(.ref b), (.int p1)]) _ _ _
    refine Go.getF X20 hx hZ hown (w16 hw) Via.refl e20 f4 (hb hby d_eqv_28) ?_
    intro T21 X21 e21
    show Go _ _ _ _ T21 (mkF m 31 #[.val (.ref a), .val (.ref b), .val (.ref b)] [(.int q1), (.int p1)]) _ _ _
    rcases Decidable.em (p1 = q1) with c22 | c22
    · refine Go.icmpNo X21 hx (hb hby d_eqv_31) (XT.ii_ne_f c22) ?_
      show Go _ _ _ _ T21 (mkF m 34 #[.val (.ref a), .val (.ref b), .val (.ref b)] []) _ _ _
      refine Go.iconst X21 hx (hb hby d_eqv_34) ?_
      show Go _ _ _ _ T21 (mkF m 35 #[.val (.ref a), .val (.ref b), .val (.ref b)] [(.int (1 : Int32))]) _ _ _
      refine Go.goto X21 hx (hb hby d_eqv_35) (pc' := 39) (by decide) (by decide) ?_
      show Go _ _ _ _ T21 (mkF m 39 #[.val (.ref a), .val (.ref b), .val (.ref b)] [(.int (1 : Int32))]) _ _ _
      refine Go.retZ X21 hx hlk hret (by decide) (hb hby d_eqv_39) (by decide) (by decide) ?_
      rw [e21]
      exact ⟨by unfold E_v; rw [if_pos c19]; rw [if_pos c22], N0, rfl⟩
    · refine Go.icmpYes X21 hx (hb hby d_eqv_31) (XT.ii_ne_t c22) (pc' := 38) (by decide) (by decide) ?_
      show Go _ _ _ _ T21 (mkF m 38 #[.val (.ref a), .val (.ref b), .val (.ref b)] []) _ _ _
      refine Go.iconst X21 hx (hb hby d_eqv_38) ?_
      show Go _ _ _ _ T21 (mkF m 39 #[.val (.ref a), .val (.ref b), .val (.ref b)] [(.int (0 : Int32))]) _ _ _
      refine Go.retZ X21 hx hlk hret (by decide) (hb hby d_eqv_39) (by decide) (by decide) ?_
      rw [e21]
      exact ⟨by unfold E_v; rw [if_pos c19]; rw [if_neg c22], N0, rfl⟩
  · refine Go.icmpYes X18 hx (hb hby d_eqv_20) (XT.ii_ne_t c19) (pc' := 38) (by decide) (by decide) ?_
    show Go _ _ _ _ T18 (mkF m 38 #[.val (.ref a), .val (.ref b), .val (.ref b)] []) _ _ _
    refine Go.iconst X18 hx (hb hby d_eqv_38) ?_
    show Go _ _ _ _ T18 (mkF m 39 #[.val (.ref a), .val (.ref b), .val (.ref b)] [(.int (0 : Int32))]) _ _ _
    refine Go.retZ X18 hx hlk hret (by decide) (hb hby d_eqv_39) (by decide) (by decide) ?_
    rw [e18]
    exact ⟨by unfold E_v; rw [if_neg c19], N0, rfl⟩
def Q_eqn (Z : State) (a : Addr) (h0 : Heap) (n0 : Nat) (v : Option Value) (h : Heap) (L : List Loc) : Prop := v = some (.int (0 : Int32)) ∧ Fr n0 L ∧ h = h0
theorem ef_eqn (m : MethodId) (x0 : Addr) : entryFrame m #[(.ref x0), .null] 3 = mkF m 0 #[.val (.ref x0), .val .null, .unset] [] := by first | (simp [entryFrame, mkF, argsToLocals, Value.category]; done) | rfl
set_option maxRecDepth 65536 in
set_option maxHeartbeats 40000000 in
theorem rm_eqn (l : Launch) (Z : State) (a0 : Array Value) (hw : ∀ d ∈ tables_1, d.before a0 Z = true) (a : Addr) (h0 : Heap) (n0 : Nat) (Z0 : n0 ≤ h0.size)  :
    Met l Z (⟨"com/example/coppice/coppice/classfile/Constant$NameAndType", "equals", "(Ljava/lang/Object;)Z"⟩ : MethodName) prog_42_method_5_code 3 (Option.some Jvm.ClassFile.FieldType.boolean) [] ({ frames := 0, cells := 0, slots := 0, locals := 0 } : Room) #[(.ref a), .null] h0 (Q_eqn Z a h0 n0) := by
  refine Met.of (plainFor_of_name pn_eqn) ?_
  intro p e s m below meth c s₁ X0 hx hby hml hZ hown hnm e0 hret hlk
  refine Go.cast (ef_eqn m a) ?_
  show Go _ _ _ _ s₁ (mkF m 0 #[.val (.ref a), .val .null, .unset] []) _ _ _
  have N0 := Fr.nil n0
  refine Go.aloadN X0 hx (hb hby d_eqn_0) rfl rfl ?_
  show Go _ _ _ _ s₁ (mkF m 1 #[.val (.ref a), .val .null, .unset] [.null]) _ _ _
  refine Go.instNull X0 hx (hb hby d_eqn_1) ?_
  show Go _ _ _ _ s₁ (mkF m 4 #[.val (.ref a), .val .null, .unset] [(.int (0 : Int32))]) _ _ _
  refine Go.ifYes X0 hx (hb hby d_eqn_4) (XT.i0_eq_t (by decide)) (pc' := 38) (by decide) (by decide) ?_
  show Go _ _ _ _ s₁ (mkF m 38 #[.val (.ref a), .val .null, .unset] []) _ _ _
  refine Go.iconst X0 hx (hb hby d_eqn_38) ?_
  show Go _ _ _ _ s₁ (mkF m 39 #[.val (.ref a), .val .null, .unset] [(.int (0 : Int32))]) _ _ _
  refine Go.retZ X0 hx hlk hret (by decide) (hb hby d_eqn_39) (by decide) (by decide) ?_
  rw [e0]
  exact ⟨rfl, N0, rfl⟩
def Q_eqm (Z : State) (a : Addr) (b : Addr) (h0 : Heap) (n0 : Nat) (v : Option Value) (h : Heap) (L : List Loc) : Prop := v = some (.int (0 : Int32)) ∧ Fr n0 L ∧ h = h0
theorem ef_eqm (m : MethodId) (x0 : Addr) (x1 : Addr) : entryFrame m #[(.ref x0), (.ref x1)] 3 = mkF m 0 #[.val (.ref x0), .val (.ref x1), .unset] [] := by first | (simp [entryFrame, mkF, argsToLocals, Value.category]; done) | rfl
set_option maxRecDepth 65536 in
set_option maxHeartbeats 40000000 in
theorem rm_eqm (l : Launch) (Z : State) (a0 : Array Value) (hw : ∀ d ∈ tables_1, d.before a0 Z = true) (a : Addr) (b : Addr) (h0 : Heap) (n0 : Nat) (Z0 : n0 ≤ h0.size) (f0 : Exa Z h0 b "com/example/coppice/coppice/classfile/Constant$MemberRef") :
    Met l Z (⟨"com/example/coppice/coppice/classfile/Constant$NameAndType", "equals", "(Ljava/lang/Object;)Z"⟩ : MethodName) prog_42_method_5_code 3 (Option.some Jvm.ClassFile.FieldType.boolean) [] ({ frames := 0, cells := 0, slots := 0, locals := 0 } : Room) #[(.ref a), (.ref b)] h0 (Q_eqm Z a b h0 n0) := by
  refine Met.of (plainFor_of_name pn_eqm) ?_
  intro p e s m below meth c s₁ X0 hx hby hml hZ hown hnm e0 hret hlk
  refine Go.cast (ef_eqm m a b) ?_
  show Go _ _ _ _ s₁ (mkF m 0 #[.val (.ref a), .val (.ref b), .unset] []) _ _ _
  have N0 := Fr.nil n0
  refine Go.aloadN X0 hx (hb hby d_eqm_0) rfl rfl ?_
  show Go _ _ _ _ s₁ (mkF m 1 #[.val (.ref a), .val (.ref b), .unset] [(.ref b)]) _ _ _
  refine Go.instNo X0 hx hZ hown (w36 hw) e0 f0 (own_ns_no (w38 hw) (w1 hw) (NS.step (w38 hw) (NS.step (w39 hw) (own_ns_root (w40 hw) (w1 hw) (by decide)) (by decide)) (by decide)) (by decide)) (hb hby d_eqm_1) ?_
  intro T24 X24 e24
  show Go _ _ _ _ T24 (mkF m 4 #[.val (.ref a), .val (.ref b), .unset] [(.int (0 : Int32))]) _ _ _
  refine Go.ifYes X24 hx (hb hby d_eqm_4) (XT.i0_eq_t (by decide)) (pc' := 38) (by decide) (by decide) ?_
  show Go _ _ _ _ T24 (mkF m 38 #[.val (.ref a), .val (.ref b), .unset] []) _ _ _
  refine Go.iconst X24 hx (hb hby d_eqm_38) ?_
  show Go _ _ _ _ T24 (mkF m 39 #[.val (.ref a), .val (.ref b), .unset] [(.int (0 : Int32))]) _ _ _
  refine Go.retZ X24 hx hlk hret (by decide) (hb hby d_eqm_39) (by decide) (by decide) ?_
  rw [e24]
  exact ⟨rfl, N0, rfl⟩
def Q_law (Z : State) (p0 : Int32) (p1 : Int32) (p2 : Int32) (p3 : Int32) (p4 : Int32) (h0 : Heap) (n0 : Nat) (v : Option Value) (h : Heap) (L : List Loc) : Prop := v = some (.int (1 : Int32)) ∧ Fr n0 L
theorem ef_law (m : MethodId) (x0 : Int32) (x1 : Int32) (x2 : Int32) (x3 : Int32) (x4 : Int32) : entryFrame m #[(.int x0), (.int x1), (.int x2), (.int x3), (.int x4)] maxLocals = mkF m 0 #[.val (.int x0), .val (.int x1), .val (.int x2), .val (.int x3), .val (.int x4), .unset, .unset, .unset, .unset, .unset, .unset, .unset, .unset, .unset, .unset, .unset] [] := by first | (simp [entryFrame, mkF, argsToLocals, Value.category, maxLocals]; done) | rfl
set_option maxRecDepth 65536 in
set_option maxHeartbeats 40000000 in
theorem rm_law (l : Launch) (Z : State) (a0 : Array Value) (hw : ∀ d ∈ tables_1, d.before a0 Z = true) (ws : List Jvm.Cond) (p0 : Int32) (p1 : Int32) (p2 : Int32) (p3 : Int32) (p4 : Int32) (h0 : Heap) (n0 : Nat) (Z0 : n0 ≤ h0.size)  :
    Met l Z x code maxLocals ret ws room_1 #[(.int p0), (.int p1), (.int p2), (.int p3), (.int p4)] h0 (Q_law Z p0 p1 p2 p3 p4 h0 n0) := by
  refine Met.of (plainFor_of_name pn_law) ?_
  intro p e s m below meth c s₁ X0 hx hby hml hZ hown hnm e0 hret hlk
  refine Go.cast (ef_law m p0 p1 p2 p3 p4) ?_
  show Go _ _ _ _ s₁ (mkF m 0 #[.val (.int p0), .val (.int p1), .val (.int p2), .val (.int p3), .val (.int p4), .unset, .unset, .unset, .unset, .unset, .unset, .unset, .unset, .unset, .unset, .unset] []) _ _ _
  have N0 := Fr.nil n0
  refine Go.iload X0 hx (hb hby at_0) rfl ?_
  show Go _ _ _ _ s₁ (mkF m 2 #[.val (.int p0), .val (.int p1), .val (.int p2), .val (.int p3), .val (.int p4), .unset, .unset, .unset, .unset, .unset, .unset, .unset, .unset, .unset, .unset, .unset] [(.int p4)]) _ _ _
  refine Go.iconst X0 hx (hb hby at_2) ?_
  show Go _ _ _ _ s₁ (mkF m 3 #[.val (.int p0), .val (.int p1), .val (.int p2), .val (.int p3), .val (.int p4), .unset, .unset, .unset, .unset, .unset, .unset, .unset, .unset, .unset, .unset, .unset] [(.int (1 : Int32)), (.int p4)]) _ _ _
  refine Go.iand X0 hx (hb hby at_3) ?_
  show Go _ _ _ _ s₁ (mkF m 4 #[.val (.int p0), .val (.int p1), .val (.int p2), .val (.int p3), .val (.int p4), .unset, .unset, .unset, .unset, .unset, .unset, .unset, .unset, .unset, .unset, .unset] [(.int (p4 &&& (1 : Int32)))]) _ _ _
  have J27 : ∀ j26 : Int32, j26 = (if (p4 &&& (1 : Int32)) = (0 : Int32) then p2 else p0) → Go p e below s s₁ (mkF m 12 #[.val (.int p0), .val (.int p1), .val (.int p2), .val (.int p3), .val (.int p4), .unset, .unset, .unset, .unset, .unset, .unset, .unset, .unset, .unset, .unset, .unset] [(.int j26)]) (Q_law Z p0 p1 p2 p3 p4 h0 n0) (room_1).cells (room_1).slots := by
    intro j26 g_j26
    refine Go.istore X0 hx (hb hby at_12) (l' := #[.val (.int p0), .val (.int p1), .val (.int p2), .val (.int p3), .val (.int p4), .val (.int j26), .unset, .unset, .unset, .unset, .unset, .unset, .unset, .unset, .unset, .unset]) rfl ?_
    show Go _ _ _ _ s₁ (mkF m 14 #[.val (.int p0), .val (.int p1), .val (.int p2), .val (.int p3), .val (.int p4), .val (.int j26), .unset, .unset, .unset, .unset, .unset, .unset, .unset, .unset, .unset, .unset] []) _ _ _
    refine Go.iload X0 hx (hb hby at_14) rfl ?_
    show Go _ _ _ _ s₁ (mkF m 16 #[.val (.int p0), .val (.int p1), .val (.int p2), .val (.int p3), .val (.int p4), .val (.int j26), .unset, .unset, .unset, .unset, .unset, .unset, .unset, .unset, .unset, .unset] [(.int p4)]) _ _ _
    refine Go.iconst X0 hx (hb hby at_16) ?_
    show Go _ _ _ _ s₁ (mkF m 17 #[.val (.int p0), .val (.int p1), .val (.int p2), .val (.int p3), .val (.int p4), .val (.int j26), .unset, .unset, .unset, .unset, .unset, .unset, .unset, .unset, .unset, .unset] [(.int (2 : Int32)), (.int p4)]) _ _ _
    refine Go.iand X0 hx (hb hby at_17) ?_
    show Go _ _ _ _ s₁ (mkF m 18 #[.val (.int p0), .val (.int p1), .val (.int p2), .val (.int p3), .val (.int p4), .val (.int j26), .unset, .unset, .unset, .unset, .unset, .unset, .unset, .unset, .unset, .unset] [(.int (p4 &&& (2 : Int32)))]) _ _ _
    have J30 : ∀ j29 : Int32, j29 = (if (p4 &&& (2 : Int32)) = (0 : Int32) then p3 else p1) → Go p e below s s₁ (mkF m 26 #[.val (.int p0), .val (.int p1), .val (.int p2), .val (.int p3), .val (.int p4), .val (.int j26), .unset, .unset, .unset, .unset, .unset, .unset, .unset, .unset, .unset, .unset] [(.int j29)]) (Q_law Z p0 p1 p2 p3 p4 h0 n0) (room_1).cells (room_1).slots := by
      intro j29 g_j29
      refine Go.istore X0 hx (hb hby at_26) (l' := #[.val (.int p0), .val (.int p1), .val (.int p2), .val (.int p3), .val (.int p4), .val (.int j26), .val (.int j29), .unset, .unset, .unset, .unset, .unset, .unset, .unset, .unset, .unset]) rfl ?_
      show Go _ _ _ _ s₁ (mkF m 28 #[.val (.int p0), .val (.int p1), .val (.int p2), .val (.int p3), .val (.int p4), .val (.int j26), .val (.int j29), .unset, .unset, .unset, .unset, .unset, .unset, .unset, .unset, .unset] []) _ _ _
      refine Go.newO X0 hx hZ hown (w0 hw) (w1 hw) (w2 hw) e0 (hb hby at_28) (by decide) (by decide) ?_
      intro T31 h31 a31 b31 X31 e31 E31 A31 D31
      have g_a31 : n0 ≤ a31 := by rw [b31]; exact Z0
      have y_a31 : h0.size ≤ a31 := by rw [b31]; exact (Nat.le_refl _)
      have Z31 : n0 ≤ h31.size := Nat.le_trans Z0 E31.1
      have B31 : h0.size ≤ h31.size := Nat.le_trans (Nat.le_refl _) E31.1
      show Go _ _ _ _ T31 (mkF m 31 #[.val (.int p0), .val (.int p1), .val (.int p2), .val (.int p3), .val (.int p4), .val (.int j26), .val (.int j29), .unset, .unset, .unset, .unset, .unset, .unset, .unset, .unset, .unset] [(.ref a31)]) _ _ _
      refine Go.dup X31 hx (hb hby at_31) rfl ?_
      show Go _ _ _ _ T31 (mkF m 32 #[.val (.int p0), .val (.int p1), .val (.int p2), .val (.int p3), .val (.int p4), .val (.int j26), .val (.int j29), .unset, .unset, .unset, .unset, .unset, .unset, .unset, .unset, .unset] [(.ref a31), (.ref a31)]) _ _ _
      refine Go.iloadN X31 hx (hb hby at_32) rfl ?_
      show Go _ _ _ _ T31 (mkF m 33 #[.val (.int p0), .val (.int p1), .val (.int p2), .val (.int p3), .val (.int p4), .val (.int j26), .val (.int j29), .unset, .unset, .unset, .unset, .unset, .unset, .unset, .unset, .unset] [(.int p0), (.ref a31), (.ref a31)]) _ _ _
      refine Go.iloadN X31 hx (hb hby at_33) rfl ?_
      show Go _ _ _ _ T31 (mkF m 34 #[.val (.int p0), .val (.int p1), .val (.int p2), .val (.int p3), .val (.int p4), .val (.int j26), .val (.int j29), .unset, .unset, .unset, .unset, .unset, .unset, .unset, .unset, .unset] [(.int p1), (.int p0), (.ref a31), (.ref a31)]) _ _ _
      have F32 := (D31 (Or.inr (w15 hw)) (ty := .int) (by decide))
      have F33 := (D31 (Or.inr (w17 hw)) (ty := .int) (by decide))
      refine Go.callI (W := 1) (a := a31) (argsL := [(.int p0), (.int p1)]) (rest := [(.ref a31)]) X31 hx hZ hown rfl (w3 hw) (w4 hw) (w2 hw) (w5 hw) (by decide) (rm_nt l Z a0 hw a31 p0 p1 h31 n0 Z31 A31 g_a31 F32 F33) e31 (lenOf pd_1 rfl) (hb hby at_34) (by rw [hml]; rfl) rfl (Nat.le_of_eq rfl) (by decide) (by decide) (by decide) (by decide) ?_
      intro v34 T34 L34 X34 q34
      obtain ⟨rfl, M34, K34, P34_0, P34_1, P34_2⟩ := q34
      have N34 := Fr.app N0 M34
      have Z34 : n0 ≤ T34.heap.size := Nat.le_trans Z31 K34.1
      have B34 : h0.size ≤ T34.heap.size := Nat.le_trans B31 K34.1
      show Go _ _ _ _ T34 (mkF m 37 #[.val (.int p0), .val (.int p1), .val (.int p2), .val (.int p3), .val (.int p4), .val (.int j26), .val (.int j29), .unset, .unset, .unset, .unset, .unset, .unset, .unset, .unset, .unset] [(.ref a31)]) _ _ _
      refine Go.astore X34 hx (hb hby at_37) rfl (l' := #[.val (.int p0), .val (.int p1), .val (.int p2), .val (.int p3), .val (.int p4), .val (.int j26), .val (.int j29), .val (.ref a31), .unset, .unset, .unset, .unset, .unset, .unset, .unset, .unset]) rfl ?_
      show Go _ _ _ _ T34 (mkF m 39 #[.val (.int p0), .val (.int p1), .val (.int p2), .val (.int p3), .val (.int p4), .val (.int j26), .val (.int j29), .val (.ref a31), .unset, .unset, .unset, .unset, .unset, .unset, .unset, .unset] []) _ _ _
      refine Go.newO X34 hx hZ hown (w0 hw) (w1 hw) (w2 hw) rfl (hb hby at_39) (by decide) (by decide) ?_
      intro T35 h35 a35 b35 X35 e35 E35 A35 D35
      have g_a35 : n0 ≤ a35 := by rw [b35]; exact Z34
      have y_a35 : h0.size ≤ a35 := by rw [b35]; exact B34
      have ne_a31_a35 : a31 ≠ a35 := by rw [b35]; exact Nat.ne_of_lt P34_0.lt
      have Z35 : n0 ≤ h35.size := Nat.le_trans Z34 E35.1
      have B35 : h0.size ≤ h35.size := Nat.le_trans B34 E35.1
      show Go _ _ _ _ T35 (mkF m 42 #[.val (.int p0), .val (.int p1), .val (.int p2), .val (.int p3), .val (.int p4), .val (.int j26), .val (.int j29), .val (.ref a31), .unset, .unset, .unset, .unset, .unset, .unset, .unset, .unset] [(.ref a35)]) _ _ _
      refine Go.dup X35 hx (hb hby at_42) rfl ?_
      show Go _ _ _ _ T35 (mkF m 43 #[.val (.int p0), .val (.int p1), .val (.int p2), .val (.int p3), .val (.int p4), .val (.int j26), .val (.int j29), .val (.ref a31), .unset, .unset, .unset, .unset, .unset, .unset, .unset, .unset] [(.ref a35), (.ref a35)]) _ _ _
      refine Go.iload X35 hx (hb hby at_43) rfl ?_
      show Go _ _ _ _ T35 (mkF m 45 #[.val (.int p0), .val (.int p1), .val (.int p2), .val (.int p3), .val (.int p4), .val (.int j26), .val (.int j29), .val (.ref a31), .unset, .unset, .unset, .unset, .unset, .unset, .unset, .unset] [(.int j26), (.ref a35), (.ref a35)]) _ _ _
      refine Go.iload X35 hx (hb hby at_45) rfl ?_
      show Go _ _ _ _ T35 (mkF m 47 #[.val (.int p0), .val (.int p1), .val (.int p2), .val (.int p3), .val (.int p4), .val (.int j26), .val (.int j29), .val (.ref a31), .unset, .unset, .unset, .unset, .unset, .unset, .unset, .unset] [(.int j29), (.int j26), (.ref a35), (.ref a35)]) _ _ _
      have F36 := (D35 (Or.inr (w15 hw)) (ty := .int) (by decide))
      have F37 := (D35 (Or.inr (w17 hw)) (ty := .int) (by decide))
      refine Go.callI (W := 1) (a := a35) (argsL := [(.int j26), (.int j29)]) (rest := [(.ref a35)]) X35 hx hZ hown rfl (w3 hw) (w4 hw) (w2 hw) (w5 hw) (by decide) (rm_nt l Z a0 hw a35 j26 j29 h35 n0 Z35 A35 g_a35 F36 F37) e35 (lenOf pd_1 rfl) (hb hby at_47) (by rw [hml]; rfl) rfl (Nat.le_of_eq rfl) (by decide) (by decide) (by decide) (by decide) ?_
      intro v38 T38 L38 X38 q38
      obtain ⟨rfl, M38, K38, P38_0, P38_1, P38_2⟩ := q38
      have N38 := Fr.app N34 M38
      have Z38 : n0 ≤ T38.heap.size := Nat.le_trans Z35 K38.1
      have B38 : h0.size ≤ T38.heap.size := Nat.le_trans B35 K38.1
      show Go _ _ _ _ T38 (mkF m 50 #[.val (.int p0), .val (.int p1), .val (.int p2), .val (.int p3), .val (.int p4), .val (.int j26), .val (.int j29), .val (.ref a31), .unset, .unset, .unset, .unset, .unset, .unset, .unset, .unset] [(.ref a35)]) _ _ _
      refine Go.astore X38 hx (hb hby at_50) rfl (l' := #[.val (.int p0), .val (.int p1), .val (.int p2), .val (.int p3), .val (.int p4), .val (.int j26), .val (.int j29), .val (.ref a31), .val (.ref a35), .unset, .unset, .unset, .unset, .unset, .unset, .unset]) rfl ?_
      show Go _ _ _ _ T38 (mkF m 52 #[.val (.int p0), .val (.int p1), .val (.int p2), .val (.int p3), .val (.int p4), .val (.int j26), .val (.int j29), .val (.ref a31), .val (.ref a35), .unset, .unset, .unset, .unset, .unset, .unset, .unset] []) _ _ _
      refine Go.newO X38 hx hZ hown (w18 hw) (w19 hw) (w20 hw) rfl (hb hby at_52) (by decide) (by decide) ?_
      intro T39 h39 a39 b39 X39 e39 E39 A39 D39
      have g_a39 : n0 ≤ a39 := by rw [b39]; exact Z38
      have y_a39 : h0.size ≤ a39 := by rw [b39]; exact B38
      have ne_a31_a39 : a31 ≠ a39 := by rw [b39]; exact Nat.ne_of_lt (Exa.keep (Exa.ext E35 P34_0) K38).lt
      have ne_a35_a39 : a35 ≠ a39 := by rw [b39]; exact Nat.ne_of_lt P38_0.lt
      have Z39 : n0 ≤ h39.size := Nat.le_trans Z38 E39.1
      have B39 : h0.size ≤ h39.size := Nat.le_trans B38 E39.1
      show Go _ _ _ _ T39 (mkF m 55 #[.val (.int p0), .val (.int p1), .val (.int p2), .val (.int p3), .val (.int p4), .val (.int j26), .val (.int j29), .val (.ref a31), .val (.ref a35), .unset, .unset, .unset, .unset, .unset, .unset, .unset] [(.ref a39)]) _ _ _
      refine Go.dup X39 hx (hb hby at_55) rfl ?_
      show Go _ _ _ _ T39 (mkF m 56 #[.val (.int p0), .val (.int p1), .val (.int p2), .val (.int p3), .val (.int p4), .val (.int j26), .val (.int j29), .val (.ref a31), .val (.ref a35), .unset, .unset, .unset, .unset, .unset, .unset, .unset] [(.ref a39), (.ref a39)]) _ _ _
      refine Go.iload X39 hx (hb hby at_56) rfl ?_
      show Go _ _ _ _ T39 (mkF m 58 #[.val (.int p0), .val (.int p1), .val (.int p2), .val (.int p3), .val (.int p4), .val (.int j26), .val (.int j29), .val (.ref a31), .val (.ref a35), .unset, .unset, .unset, .unset, .unset, .unset, .unset] [(.int p4), (.ref a39), (.ref a39)]) _ _ _
      refine Go.iconst X39 hx (hb hby at_58) ?_
      show Go _ _ _ _ T39 (mkF m 59 #[.val (.int p0), .val (.int p1), .val (.int p2), .val (.int p3), .val (.int p4), .val (.int j26), .val (.int j29), .val (.ref a31), .val (.ref a35), .unset, .unset, .unset, .unset, .unset, .unset, .unset] [(.int (2 : Int32)), (.int p4), (.ref a39), (.ref a39)]) _ _ _
      refine Go.iushr X39 hx (hb hby at_59) ?_
      show Go _ _ _ _ T39 (mkF m 60 #[.val (.int p0), .val (.int p1), .val (.int p2), .val (.int p3), .val (.int p4), .val (.int j26), .val (.int j29), .val (.ref a31), .val (.ref a35), .unset, .unset, .unset, .unset, .unset, .unset, .unset] [(.int (XT.ushr p4 (2 : Int32))), (.ref a39), (.ref a39)]) _ _ _
      refine Go.iloadN X39 hx (hb hby at_60) rfl ?_
      show Go _ _ _ _ T39 (mkF m 61 #[.val (.int p0), .val (.int p1), .val (.int p2), .val (.int p3), .val (.int p4), .val (.int j26), .val (.int j29), .val (.ref a31), .val (.ref a35), .unset, .unset, .unset, .unset, .unset, .unset, .unset] [(.int p0), (.int (XT.ushr p4 (2 : Int32))), (.ref a39), (.ref a39)]) _ _ _
      refine Go.iloadN X39 hx (hb hby at_61) rfl ?_
      show Go _ _ _ _ T39 (mkF m 62 #[.val (.int p0), .val (.int p1), .val (.int p2), .val (.int p3), .val (.int p4), .val (.int j26), .val (.int j29), .val (.ref a31), .val (.ref a35), .unset, .unset, .unset, .unset, .unset, .unset, .unset] [(.int p1), (.int p0), (.int (XT.ushr p4 (2 : Int32))), (.ref a39), (.ref a39)]) _ _ _
      have F40 := (D39 (Or.inr (w26 hw)) (ty := .int) (by decide))
      have F41 := (D39 (Or.inr (w28 hw)) (ty := .int) (by decide))
      have F42 := (D39 (Or.inr (w30 hw)) (ty := .int) (by decide))
      refine Go.callI (W := 1) (a := a39) (argsL := [(.int (XT.ushr p4 (2 : Int32))), (.int p0), (.int p1)]) (rest := [(.ref a39)]) X39 hx hZ hown rfl (w21 hw) (w22 hw) (w20 hw) (w23 hw) (by decide) (rm_mr l Z a0 hw a39 (XT.ushr p4 (2 : Int32)) p0 p1 h39 n0 Z39 A39 g_a39 F40 F41 F42) e39 (lenOf pd_2 rfl) (hb hby at_62) (by rw [hml]; rfl) rfl (Nat.le_of_eq rfl) (by decide) (by decide) (by decide) (by decide) ?_
      intro v43 T43 L43 X43 q43
      obtain ⟨rfl, M43, K43, P43_0, P43_1, P43_2, P43_3⟩ := q43
      have N43 := Fr.app N38 M43
      have Z43 : n0 ≤ T43.heap.size := Nat.le_trans Z39 K43.1
      have B43 : h0.size ≤ T43.heap.size := Nat.le_trans B39 K43.1
      show Go _ _ _ _ T43 (mkF m 65 #[.val (.int p0), .val (.int p1), .val (.int p2), .val (.int p3), .val (.int p4), .val (.int j26), .val (.int j29), .val (.ref a31), .val (.ref a35), .unset, .unset, .unset, .unset, .unset, .unset, .unset] [(.ref a39)]) _ _ _
      refine Go.astore X43 hx (hb hby at_65) rfl (l' := #[.val (.int p0), .val (.int p1), .val (.int p2), .val (.int p3), .val (.int p4), .val (.int j26), .val (.int j29), .val (.ref a31), .val (.ref a35), .val (.ref a39), .unset, .unset, .unset, .unset, .unset, .unset]) rfl ?_
      show Go _ _ _ _ T43 (mkF m 67 #[.val (.int p0), .val (.int p1), .val (.int p2), .val (.int p3), .val (.int p4), .val (.int j26), .val (.int j29), .val (.ref a31), .val (.ref a35), .val (.ref a39), .unset, .unset, .unset, .unset, .unset, .unset] []) _ _ _
      refine Go.iloadN X43 hx (hb hby at_67) rfl ?_
      show Go _ _ _ _ T43 (mkF m 68 #[.val (.int p0), .val (.int p1), .val (.int p2), .val (.int p3), .val (.int p4), .val (.int j26), .val (.int j29), .val (.ref a31), .val (.ref a35), .val (.ref a39), .unset, .unset, .unset, .unset, .unset, .unset] [(.int p0)]) _ _ _
      refine Go.iload X43 hx (hb hby at_68) rfl ?_
      show Go _ _ _ _ T43 (mkF m 70 #[.val (.int p0), .val (.int p1), .val (.int p2), .val (.int p3), .val (.int p4), .val (.int j26), .val (.int j29), .val (.ref a31), .val (.ref a35), .val (.ref a39), .unset, .unset, .unset, .unset, .unset, .unset] [(.int j26), (.int p0)]) _ _ _
      have J47 : ∀ j46 : Int32, j46 = (if p0 = j26 then (if p1 = j29 then (1 : Int32) else (0 : Int32)) else (0 : Int32)) → Go p e below s T43 (mkF m 84 #[.val (.int p0), .val (.int p1), .val (.int p2), .val (.int p3), .val (.int p4), .val (.int j26), .val (.int j29), .val (.ref a31), .val (.ref a35), .val (.ref a39), .unset, .unset, .unset, .unset, .unset, .unset] [(.int j46)]) (Q_law Z p0 p1 p2 p3 p4 h0 n0) (room_1).cells (room_1).slots := by
        intro j46 g_j46
        refine Go.istore X43 hx (hb hby at_84) (l' := #[.val (.int p0), .val (.int p1), .val (.int p2), .val (.int p3), .val (.int p4), .val (.int j26), .val (.int j29), .val (.ref a31), .val (.ref a35), .val (.ref a39), .val (.int j46), .unset, .unset, .unset, .unset, .unset]) rfl ?_
        show Go _ _ _ _ T43 (mkF m 86 #[.val (.int p0), .val (.int p1), .val (.int p2), .val (.int p3), .val (.int p4), .val (.int j26), .val (.int j29), .val (.ref a31), .val (.ref a35), .val (.ref a39), .val (.int j46), .unset, .unset, .unset, .unset, .unset] []) _ _ _
        refine Go.aload X43 hx (hb hby at_86) rfl rfl ?_
        show Go _ _ _ _ T43 (mkF m 88 #[.val (.int p0), .val (.int p1), .val (.int p2), .val (.int p3), .val (.int p4), .val (.int j26), .val (.int j29), .val (.ref a31), .val (.ref a35), .val (.ref a39), .val (.int j46), .unset, .unset, .unset, .unset, .unset] [(.ref a31)]) _ _ _
        refine Go.aload X43 hx (hb hby at_88) rfl rfl ?_
        show Go _ _ _ _ T43 (mkF m 90 #[.val (.int p0), .val (.int p1), .val (.int p2), .val (.int p3), .val (.int p4), .val (.int j26), .val (.int j29), .val (.ref a31), .val (.ref a35), .val (.ref a39), .val (.int j46), .unset, .unset, .unset, .unset, .unset] [(.ref a35), (.ref a31)]) _ _ _
        have F48 := (Fld.keep (Fld.ext E39 (Fld.keep (Fld.ext E35 P34_1) K38 (ninS ne_a31_a35 nin0))) K43 (ninS ne_a31_a39 nin0))
        have F49 := (Fld.keep (Fld.ext E39 (Fld.keep (Fld.ext E35 P34_2) K38 (ninS ne_a31_a35 nin0))) K43 (ninS ne_a31_a39 nin0))
        have F50 := (Fld.keep (Fld.ext E39 P38_1) K43 (ninS ne_a35_a39 nin0))
        have F51 := (Fld.keep (Fld.ext E39 P38_2) K43 (ninS ne_a35_a39 nin0))
        have F53 := (Exa.keep (Exa.ext E39 (Exa.keep (Exa.ext E35 P34_0) K38)) K43)
        refine Go.callV (W := 0) (argsL := [(.ref a35)]) (rest := []) X43 hx hZ hown (w31 hw) (w32 hw) (w34 hw) (w33 hw) (w2 hw) (w35 hw) (notFace_of_selects (args := #[]) (mvT hZ (w34 hw))) (by decide) F53 (rm_eqv l Z a0 hw a31 a35 p0 p1 j26 j29 T43.heap n0 Z43 F48 F49 (Exa.keep (Exa.ext E39 P38_0) K43) F50 F51) rfl (lenOf pd_3 rfl) (hb hby at_90) (by rw [hml]; rfl) rfl (Nat.le_of_eq rfl) (by decide) (by decide) (by decide) (by decide) ?_
        intro v52 T52 L52 X52 q52
        obtain ⟨rfl, M52, e52⟩ := q52
        have N52 := Fr.app N43 M52
        show Go _ _ _ _ T52 (mkF m 93 #[.val (.int p0), .val (.int p1), .val (.int p2), .val (.int p3), .val (.int p4), .val (.int j26), .val (.int j29), .val (.ref a31), .val (.ref a35), .val (.ref a39), .val (.int j46), .unset, .unset, .unset, .unset, .unset] [(.int (E_v p0 p1 j26 j29))]) _ _ _
        refine Go.istore X52 hx (hb hby at_93) (l' := #[.val (.int p0), .val (.int p1), .val (.int p2), .val (.int p3), .val (.int p4), .val (.int j26), .val (.int j29), .val (.ref a31), .val (.ref a35), .val (.ref a39), .val (.int j46), .val (.int (E_v p0 p1 j26 j29)), .unset, .unset, .unset, .unset]) rfl ?_
        show Go _ _ _ _ T52 (mkF m 95 #[.val (.int p0), .val (.int p1), .val (.int p2), .val (.int p3), .val (.int p4), .val (.int j26), .val (.int j29), .val (.ref a31), .val (.ref a35), .val (.ref a39), .val (.int j46), .val (.int (E_v p0 p1 j26 j29)), .unset, .unset, .unset, .unset] []) _ _ _
        refine Go.aload X52 hx (hb hby at_95) rfl rfl ?_
        show Go _ _ _ _ T52 (mkF m 97 #[.val (.int p0), .val (.int p1), .val (.int p2), .val (.int p3), .val (.int p4), .val (.int j26), .val (.int j29), .val (.ref a31), .val (.ref a35), .val (.ref a39), .val (.int j46), .val (.int (E_v p0 p1 j26 j29)), .unset, .unset, .unset, .unset] [(.ref a35)]) _ _ _
        refine Go.aload X52 hx (hb hby at_97) rfl rfl ?_
        show Go _ _ _ _ T52 (mkF m 99 #[.val (.int p0), .val (.int p1), .val (.int p2), .val (.int p3), .val (.int p4), .val (.int j26), .val (.int j29), .val (.ref a31), .val (.ref a35), .val (.ref a39), .val (.int j46), .val (.int (E_v p0 p1 j26 j29)), .unset, .unset, .unset, .unset] [(.ref a31), (.ref a35)]) _ _ _
        refine Go.callV (W := 0) (argsL := [(.ref a31)]) (rest := []) X52 hx hZ hown (w31 hw) (w32 hw) (w34 hw) (w33 hw) (w2 hw) (w35 hw) (notFace_of_selects (args := #[]) (mvT hZ (w34 hw))) (by decide) (Exa.keep (Exa.ext E39 P38_0) K43) (rm_eqv l Z a0 hw a35 a31 j26 j29 p0 p1 T43.heap n0 Z43 F50 F51 F53 F48 F49) e52 (lenOf pd_3 rfl) (hb hby at_99) (by rw [hml]; rfl) rfl (Nat.le_of_eq rfl) (by decide) (by decide) (by decide) (by decide) ?_
        intro v54 T54 L54 X54 q54
        obtain ⟨rfl, M54, e54⟩ := q54
        have N54 := Fr.app N52 M54
        show Go _ _ _ _ T54 (mkF m 102 #[.val (.int p0), .val (.int p1), .val (.int p2), .val (.int p3), .val (.int p4), .val (.int j26), .val (.int j29), .val (.ref a31), .val (.ref a35), .val (.ref a39), .val (.int j46), .val (.int (E_v p0 p1 j26 j29)), .unset, .unset, .unset, .unset] [(.int (E_v j26 j29 p0 p1))]) _ _ _
        refine Go.istore X54 hx (hb hby at_102) (l' := #[.val (.int p0), .val (.int p1), .val (.int p2), .val (.int p3), .val (.int p4), .val (.int j26), .val (.int j29), .val (.ref a31), .val (.ref a35), .val (.ref a39), .val (.int j46), .val (.int (E_v p0 p1 j26 j29)), .val (.int (E_v j26 j29 p0 p1)), .unset, .unset, .unset]) rfl ?_
        show Go _ _ _ _ T54 (mkF m 104 #[.val (.int p0), .val (.int p1), .val (.int p2), .val (.int p3), .val (.int p4), .val (.int j26), .val (.int j29), .val (.ref a31), .val (.ref a35), .val (.ref a39), .val (.int j46), .val (.int (E_v p0 p1 j26 j29)), .val (.int (E_v j26 j29 p0 p1)), .unset, .unset, .unset] []) _ _ _
        refine Go.aload X54 hx (hb hby at_104) rfl rfl ?_
        show Go _ _ _ _ T54 (mkF m 106 #[.val (.int p0), .val (.int p1), .val (.int p2), .val (.int p3), .val (.int p4), .val (.int j26), .val (.int j29), .val (.ref a31), .val (.ref a35), .val (.ref a39), .val (.int j46), .val (.int (E_v p0 p1 j26 j29)), .val (.int (E_v j26 j29 p0 p1)), .unset, .unset, .unset] [(.ref a31)]) _ _ _
        refine Go.aload X54 hx (hb hby at_106) rfl rfl ?_
        show Go _ _ _ _ T54 (mkF m 108 #[.val (.int p0), .val (.int p1), .val (.int p2), .val (.int p3), .val (.int p4), .val (.int j26), .val (.int j29), .val (.ref a31), .val (.ref a35), .val (.ref a39), .val (.int j46), .val (.int (E_v p0 p1 j26 j29)), .val (.int (E_v j26 j29 p0 p1)), .unset, .unset, .unset] [(.ref a31), (.ref a31)]) _ _ _
        refine Go.callV (W := 0) (argsL := [(.ref a31)]) (rest := []) X54 hx hZ hown (w31 hw) (w32 hw) (w34 hw) (w33 hw) (w2 hw) (w35 hw) (notFace_of_selects (args := #[]) (mvT hZ (w34 hw))) (by decide) F53 (rm_eqv l Z a0 hw a31 a31 p0 p1 p0 p1 T43.heap n0 Z43 F48 F49 F53 F48 F49) e54 (lenOf pd_3 rfl) (hb hby at_108) (by rw [hml]; rfl) rfl (Nat.le_of_eq rfl) (by decide) (by decide) (by decide) (by decide) ?_
        intro v55 T55 L55 X55 q55
        obtain ⟨rfl, M55, e55⟩ := q55
        have N55 := Fr.app N54 M55
        show Go _ _ _ _ T55 (mkF m 111 #[.val (.int p0), .val (.int p1), .val (.int p2), .val (.int p3), .val (.int p4), .val (.int j26), .val (.int j29), .val (.ref a31), .val (.ref a35), .val (.ref a39), .val (.int j46), .val (.int (E_v p0 p1 j26 j29)), .val (.int (E_v j26 j29 p0 p1)), .unset, .unset, .unset] [(.int (E_v p0 p1 p0 p1))]) _ _ _
        refine Go.istore X55 hx (hb hby at_111) (l' := #[.val (.int p0), .val (.int p1), .val (.int p2), .val (.int p3), .val (.int p4), .val (.int j26), .val (.int j29), .val (.ref a31), .val (.ref a35), .val (.ref a39), .val (.int j46), .val (.int (E_v p0 p1 j26 j29)), .val (.int (E_v j26 j29 p0 p1)), .val (.int (E_v p0 p1 p0 p1)), .unset, .unset]) rfl ?_
        show Go _ _ _ _ T55 (mkF m 113 #[.val (.int p0), .val (.int p1), .val (.int p2), .val (.int p3), .val (.int p4), .val (.int j26), .val (.int j29), .val (.ref a31), .val (.ref a35), .val (.ref a39), .val (.int j46), .val (.int (E_v p0 p1 j26 j29)), .val (.int (E_v j26 j29 p0 p1)), .val (.int (E_v p0 p1 p0 p1)), .unset, .unset] []) _ _ _
        refine Go.aload X55 hx (hb hby at_113) rfl rfl ?_
        show Go _ _ _ _ T55 (mkF m 115 #[.val (.int p0), .val (.int p1), .val (.int p2), .val (.int p3), .val (.int p4), .val (.int j26), .val (.int j29), .val (.ref a31), .val (.ref a35), .val (.ref a39), .val (.int j46), .val (.int (E_v p0 p1 j26 j29)), .val (.int (E_v j26 j29 p0 p1)), .val (.int (E_v p0 p1 p0 p1)), .unset, .unset] [(.ref a31)]) _ _ _
        refine Go.aconst_null X55 hx (hb hby at_115) ?_
        show Go _ _ _ _ T55 (mkF m 116 #[.val (.int p0), .val (.int p1), .val (.int p2), .val (.int p3), .val (.int p4), .val (.int j26), .val (.int j29), .val (.ref a31), .val (.ref a35), .val (.ref a39), .val (.int j46), .val (.int (E_v p0 p1 j26 j29)), .val (.int (E_v j26 j29 p0 p1)), .val (.int (E_v p0 p1 p0 p1)), .unset, .unset] [.null, (.ref a31)]) _ _ _
        refine Go.callV (W := 0) (argsL := [.null]) (rest := []) X55 hx hZ hown (w31 hw) (w32 hw) (w34 hw) (w33 hw) (w2 hw) (w35 hw) (notFace_of_selects (args := #[]) (mvT hZ (w34 hw))) (by decide) F53 (rm_eqn l Z a0 hw a31 T43.heap n0 Z43 ) e55 (lenOf pd_3 rfl) (hb hby at_116) (by rw [hml]; rfl) rfl (Nat.le_of_eq rfl) (by decide) (by decide) (by decide) (by decide) ?_
        intro v56 T56 L56 X56 q56
        obtain ⟨rfl, M56, e56⟩ := q56
        have N56 := Fr.app N55 M56
        show Go _ _ _ _ T56 (mkF m 119 #[.val (.int p0), .val (.int p1), .val (.int p2), .val (.int p3), .val (.int p4), .val (.int j26), .val (.int j29), .val (.ref a31), .val (.ref a35), .val (.ref a39), .val (.int j46), .val (.int (E_v p0 p1 j26 j29)), .val (.int (E_v j26 j29 p0 p1)), .val (.int (E_v p0 p1 p0 p1)), .unset, .unset] [(.int (0 : Int32))]) _ _ _
        refine Go.istore X56 hx (hb hby at_119) (l' := #[.val (.int p0), .val (.int p1), .val (.int p2), .val (.int p3), .val (.int p4), .val (.int j26), .val (.int j29), .val (.ref a31), .val (.ref a35), .val (.ref a39), .val (.int j46), .val (.int (E_v p0 p1 j26 j29)), .val (.int (E_v j26 j29 p0 p1)), .val (.int (E_v p0 p1 p0 p1)), .val (.int (0 : Int32)), .unset]) rfl ?_
        show Go _ _ _ _ T56 (mkF m 121 #[.val (.int p0), .val (.int p1), .val (.int p2), .val (.int p3), .val (.int p4), .val (.int j26), .val (.int j29), .val (.ref a31), .val (.ref a35), .val (.ref a39), .val (.int j46), .val (.int (E_v p0 p1 j26 j29)), .val (.int (E_v j26 j29 p0 p1)), .val (.int (E_v p0 p1 p0 p1)), .val (.int (0 : Int32)), .unset] []) _ _ _
        refine Go.aload X56 hx (hb hby at_121) rfl rfl ?_
        show Go _ _ _ _ T56 (mkF m 123 #[.val (.int p0), .val (.int p1), .val (.int p2), .val (.int p3), .val (.int p4), .val (.int j26), .val (.int j29), .val (.ref a31), .val (.ref a35), .val (.ref a39), .val (.int j46), .val (.int (E_v p0 p1 j26 j29)), .val (.int (E_v j26 j29 p0 p1)), .val (.int (E_v p0 p1 p0 p1)), .val (.int (0 : Int32)), .unset] [(.ref a31)]) _ _ _
        refine Go.aload X56 hx (hb hby at_123) rfl rfl ?_
        show Go _ _ _ _ T56 (mkF m 125 #[.val (.int p0), .val (.int p1), .val (.int p2), .val (.int p3), .val (.int p4), .val (.int j26), .val (.int j29), .val (.ref a31), .val (.ref a35), .val (.ref a39), .val (.int j46), .val (.int (E_v p0 p1 j26 j29)), .val (.int (E_v j26 j29 p0 p1)), .val (.int (E_v p0 p1 p0 p1)), .val (.int (0 : Int32)), .unset] [(.ref a39), (.ref a31)]) _ _ _
        refine Go.callV (W := 0) (argsL := [(.ref a39)]) (rest := []) X56 hx hZ hown (w31 hw) (w32 hw) (w34 hw) (w33 hw) (w2 hw) (w35 hw) (notFace_of_selects (args := #[]) (mvT hZ (w34 hw))) (by decide) F53 (rm_eqm l Z a0 hw a31 a39 T43.heap n0 Z43 P43_0) e56 (lenOf pd_3 rfl) (hb hby at_125) (by rw [hml]; rfl) rfl (Nat.le_of_eq rfl) (by decide) (by decide) (by decide) (by decide) ?_
        intro v57 T57 L57 X57 q57
        obtain ⟨rfl, M57, e57⟩ := q57
        have N57 := Fr.app N56 M57
        show Go _ _ _ _ T57 (mkF m 128 #[.val (.int p0), .val (.int p1), .val (.int p2), .val (.int p3), .val (.int p4), .val (.int j26), .val (.int j29), .val (.ref a31), .val (.ref a35), .val (.ref a39), .val (.int j46), .val (.int (E_v p0 p1 j26 j29)), .val (.int (E_v j26 j29 p0 p1)), .val (.int (E_v p0 p1 p0 p1)), .val (.int (0 : Int32)), .unset] [(.int (0 : Int32))]) _ _ _
        refine Go.istore X57 hx (hb hby at_128) (l' := #[.val (.int p0), .val (.int p1), .val (.int p2), .val (.int p3), .val (.int p4), .val (.int j26), .val (.int j29), .val (.ref a31), .val (.ref a35), .val (.ref a39), .val (.int j46), .val (.int (E_v p0 p1 j26 j29)), .val (.int (E_v j26 j29 p0 p1)), .val (.int (E_v p0 p1 p0 p1)), .val (.int (0 : Int32)), .val (.int (0 : Int32))]) rfl ?_
        show Go _ _ _ _ T57 (mkF m 130 #[.val (.int p0), .val (.int p1), .val (.int p2), .val (.int p3), .val (.int p4), .val (.int j26), .val (.int j29), .val (.ref a31), .val (.ref a35), .val (.ref a39), .val (.int j46), .val (.int (E_v p0 p1 j26 j29)), .val (.int (E_v j26 j29 p0 p1)), .val (.int (E_v p0 p1 p0 p1)), .val (.int (0 : Int32)), .val (.int (0 : Int32))] []) _ _ _
        refine Go.iload X57 hx (hb hby at_130) rfl ?_
        show Go _ _ _ _ T57 (mkF m 132 #[.val (.int p0), .val (.int p1), .val (.int p2), .val (.int p3), .val (.int p4), .val (.int j26), .val (.int j29), .val (.ref a31), .val (.ref a35), .val (.ref a39), .val (.int j46), .val (.int (E_v p0 p1 j26 j29)), .val (.int (E_v j26 j29 p0 p1)), .val (.int (E_v p0 p1 p0 p1)), .val (.int (0 : Int32)), .val (.int (0 : Int32))] [(.int (E_v p0 p1 j26 j29))]) _ _ _
        refine Go.iload X57 hx (hb hby at_132) rfl ?_
        show Go _ _ _ _ T57 (mkF m 134 #[.val (.int p0), .val (.int p1), .val (.int p2), .val (.int p3), .val (.int p4), .val (.int j26), .val (.int j29), .val (.ref a31), .val (.ref a35), .val (.ref a39), .val (.int j46), .val (.int (E_v p0 p1 j26 j29)), .val (.int (E_v j26 j29 p0 p1)), .val (.int (E_v p0 p1 p0 p1)), .val (.int (0 : Int32)), .val (.int (0 : Int32))] [(.int j46), (.int (E_v p0 p1 j26 j29))]) _ _ _
        refine Go.icmpNo X57 hx (hb hby at_134) (XT.ii_ne_f (by rw [g_j46]; rfl)) ?_
        show Go _ _ _ _ T57 (mkF m 137 #[.val (.int p0), .val (.int p1), .val (.int p2), .val (.int p3), .val (.int p4), .val (.int j26), .val (.int j29), .val (.ref a31), .val (.ref a35), .val (.ref a39), .val (.int j46), .val (.int (E_v p0 p1 j26 j29)), .val (.int (E_v j26 j29 p0 p1)), .val (.int (E_v p0 p1 p0 p1)), .val (.int (0 : Int32)), .val (.int (0 : Int32))] []) _ _ _
        refine Go.iload X57 hx (hb hby at_137) rfl ?_
        show Go _ _ _ _ T57 (mkF m 139 #[.val (.int p0), .val (.int p1), .val (.int p2), .val (.int p3), .val (.int p4), .val (.int j26), .val (.int j29), .val (.ref a31), .val (.ref a35), .val (.ref a39), .val (.int j46), .val (.int (E_v p0 p1 j26 j29)), .val (.int (E_v j26 j29 p0 p1)), .val (.int (E_v p0 p1 p0 p1)), .val (.int (0 : Int32)), .val (.int (0 : Int32))] [(.int (E_v j26 j29 p0 p1))]) _ _ _
        refine Go.iload X57 hx (hb hby at_139) rfl ?_
        show Go _ _ _ _ T57 (mkF m 141 #[.val (.int p0), .val (.int p1), .val (.int p2), .val (.int p3), .val (.int p4), .val (.int j26), .val (.int j29), .val (.ref a31), .val (.ref a35), .val (.ref a39), .val (.int j46), .val (.int (E_v p0 p1 j26 j29)), .val (.int (E_v j26 j29 p0 p1)), .val (.int (E_v p0 p1 p0 p1)), .val (.int (0 : Int32)), .val (.int (0 : Int32))] [(.int j46), (.int (E_v j26 j29 p0 p1))]) _ _ _
        refine Go.icmpNo X57 hx (hb hby at_141) (XT.ii_ne_f (by rw [g_j46, own_sym]; rfl)) ?_
        show Go _ _ _ _ T57 (mkF m 144 #[.val (.int p0), .val (.int p1), .val (.int p2), .val (.int p3), .val (.int p4), .val (.int j26), .val (.int j29), .val (.ref a31), .val (.ref a35), .val (.ref a39), .val (.int j46), .val (.int (E_v p0 p1 j26 j29)), .val (.int (E_v j26 j29 p0 p1)), .val (.int (E_v p0 p1 p0 p1)), .val (.int (0 : Int32)), .val (.int (0 : Int32))] []) _ _ _
        refine Go.iload X57 hx (hb hby at_144) rfl ?_
        show Go _ _ _ _ T57 (mkF m 146 #[.val (.int p0), .val (.int p1), .val (.int p2), .val (.int p3), .val (.int p4), .val (.int j26), .val (.int j29), .val (.ref a31), .val (.ref a35), .val (.ref a39), .val (.int j46), .val (.int (E_v p0 p1 j26 j29)), .val (.int (E_v j26 j29 p0 p1)), .val (.int (E_v p0 p1 p0 p1)), .val (.int (0 : Int32)), .val (.int (0 : Int32))] [(.int (E_v p0 p1 p0 p1))]) _ _ _
        refine Go.ifNo X57 hx (hb hby at_146) (XT.i0_eq_f (by rw [own_refl]; decide)) ?_
        show Go _ _ _ _ T57 (mkF m 149 #[.val (.int p0), .val (.int p1), .val (.int p2), .val (.int p3), .val (.int p4), .val (.int j26), .val (.int j29), .val (.ref a31), .val (.ref a35), .val (.ref a39), .val (.int j46), .val (.int (E_v p0 p1 j26 j29)), .val (.int (E_v j26 j29 p0 p1)), .val (.int (E_v p0 p1 p0 p1)), .val (.int (0 : Int32)), .val (.int (0 : Int32))] []) _ _ _
        refine Go.iload X57 hx (hb hby at_149) rfl ?_
        show Go _ _ _ _ T57 (mkF m 151 #[.val (.int p0), .val (.int p1), .val (.int p2), .val (.int p3), .val (.int p4), .val (.int j26), .val (.int j29), .val (.ref a31), .val (.ref a35), .val (.ref a39), .val (.int j46), .val (.int (E_v p0 p1 j26 j29)), .val (.int (E_v j26 j29 p0 p1)), .val (.int (E_v p0 p1 p0 p1)), .val (.int (0 : Int32)), .val (.int (0 : Int32))] [(.int (0 : Int32))]) _ _ _
        refine Go.ifNo X57 hx (hb hby at_151) (XT.i0_ne_f (by decide)) ?_
        show Go _ _ _ _ T57 (mkF m 154 #[.val (.int p0), .val (.int p1), .val (.int p2), .val (.int p3), .val (.int p4), .val (.int j26), .val (.int j29), .val (.ref a31), .val (.ref a35), .val (.ref a39), .val (.int j46), .val (.int (E_v p0 p1 j26 j29)), .val (.int (E_v j26 j29 p0 p1)), .val (.int (E_v p0 p1 p0 p1)), .val (.int (0 : Int32)), .val (.int (0 : Int32))] []) _ _ _
        refine Go.iload X57 hx (hb hby at_154) rfl ?_
        show Go _ _ _ _ T57 (mkF m 156 #[.val (.int p0), .val (.int p1), .val (.int p2), .val (.int p3), .val (.int p4), .val (.int j26), .val (.int j29), .val (.ref a31), .val (.ref a35), .val (.ref a39), .val (.int j46), .val (.int (E_v p0 p1 j26 j29)), .val (.int (E_v j26 j29 p0 p1)), .val (.int (E_v p0 p1 p0 p1)), .val (.int (0 : Int32)), .val (.int (0 : Int32))] [(.int (0 : Int32))]) _ _ _
        refine Go.ifNo X57 hx (hb hby at_156) (XT.i0_ne_f (by decide)) ?_
        show Go _ _ _ _ T57 (mkF m 159 #[.val (.int p0), .val (.int p1), .val (.int p2), .val (.int p3), .val (.int p4), .val (.int j26), .val (.int j29), .val (.ref a31), .val (.ref a35), .val (.ref a39), .val (.int j46), .val (.int (E_v p0 p1 j26 j29)), .val (.int (E_v j26 j29 p0 p1)), .val (.int (E_v p0 p1 p0 p1)), .val (.int (0 : Int32)), .val (.int (0 : Int32))] []) _ _ _
        refine Go.iconst X57 hx (hb hby at_159) ?_
        show Go _ _ _ _ T57 (mkF m 160 #[.val (.int p0), .val (.int p1), .val (.int p2), .val (.int p3), .val (.int p4), .val (.int j26), .val (.int j29), .val (.ref a31), .val (.ref a35), .val (.ref a39), .val (.int j46), .val (.int (E_v p0 p1 j26 j29)), .val (.int (E_v j26 j29 p0 p1)), .val (.int (E_v p0 p1 p0 p1)), .val (.int (0 : Int32)), .val (.int (0 : Int32))] [(.int (1 : Int32))]) _ _ _
        refine Go.goto X57 hx (hb hby at_160) (pc' := 164) (by decide) (by decide) ?_
        show Go _ _ _ _ T57 (mkF m 164 #[.val (.int p0), .val (.int p1), .val (.int p2), .val (.int p3), .val (.int p4), .val (.int j26), .val (.int j29), .val (.ref a31), .val (.ref a35), .val (.ref a39), .val (.int j46), .val (.int (E_v p0 p1 j26 j29)), .val (.int (E_v j26 j29 p0 p1)), .val (.int (E_v p0 p1 p0 p1)), .val (.int (0 : Int32)), .val (.int (0 : Int32))] [(.int (1 : Int32))]) _ _ _
        refine Go.retZ X57 hx hlk hret (by decide) (hb hby at_164) (by decide) (by decide) ?_
        rw [e57]
        exact ⟨rfl, N57⟩
      rcases Decidable.em (p0 = j26) with c58 | c58
      · refine Go.icmpNo X43 hx (hb hby at_70) (XT.ii_ne_f c58) ?_
        show Go _ _ _ _ T43 (mkF m 73 #[.val (.int p0), .val (.int p1), .val (.int p2), .val (.int p3), .val (.int p4), .val (.int j26), .val (.int j29), .val (.ref a31), .val (.ref a35), .val (.ref a39), .unset, .unset, .unset, .unset, .unset, .unset] []) _ _ _
        refine Go.iloadN X43 hx (hb hby at_73) rfl ?_
        show Go _ _ _ _ T43 (mkF m 74 #[.val (.int p0), .val (.int p1), .val (.int p2), .val (.int p3), .val (.int p4), .val (.int j26), .val (.int j29), .val (.ref a31), .val (.ref a35), .val (.ref a39), .unset, .unset, .unset, .unset, .unset, .unset] [(.int p1)]) _ _ _
        refine Go.iload X43 hx (hb hby at_74) rfl ?_
        show Go _ _ _ _ T43 (mkF m 76 #[.val (.int p0), .val (.int p1), .val (.int p2), .val (.int p3), .val (.int p4), .val (.int j26), .val (.int j29), .val (.ref a31), .val (.ref a35), .val (.ref a39), .unset, .unset, .unset, .unset, .unset, .unset] [(.int j29), (.int p1)]) _ _ _
        rcases Decidable.em (p1 = j29) with c59 | c59
        · refine Go.icmpNo X43 hx (hb hby at_76) (XT.ii_ne_f c59) ?_
          show Go _ _ _ _ T43 (mkF m 79 #[.val (.int p0), .val (.int p1), .val (.int p2), .val (.int p3), .val (.int p4), .val (.int j26), .val (.int j29), .val (.ref a31), .val (.ref a35), .val (.ref a39), .unset, .unset, .unset, .unset, .unset, .unset] []) _ _ _
          refine Go.iconst X43 hx (hb hby at_79) ?_
          show Go _ _ _ _ T43 (mkF m 80 #[.val (.int p0), .val (.int p1), .val (.int p2), .val (.int p3), .val (.int p4), .val (.int j26), .val (.int j29), .val (.ref a31), .val (.ref a35), .val (.ref a39), .unset, .unset, .unset, .unset, .unset, .unset] [(.int (1 : Int32))]) _ _ _
          refine Go.goto X43 hx (hb hby at_80) (pc' := 84) (by decide) (by decide) ?_
          show Go _ _ _ _ T43 (mkF m 84 #[.val (.int p0), .val (.int p1), .val (.int p2), .val (.int p3), .val (.int p4), .val (.int j26), .val (.int j29), .val (.ref a31), .val (.ref a35), .val (.ref a39), .unset, .unset, .unset, .unset, .unset, .unset] [(.int (1 : Int32))]) _ _ _
          exact J47 _ (by rw [if_pos c58]; rw [if_pos c59])
        · refine Go.icmpYes X43 hx (hb hby at_76) (XT.ii_ne_t c59) (pc' := 83) (by decide) (by decide) ?_
          show Go _ _ _ _ T43 (mkF m 83 #[.val (.int p0), .val (.int p1), .val (.int p2), .val (.int p3), .val (.int p4), .val (.int j26), .val (.int j29), .val (.ref a31), .val (.ref a35), .val (.ref a39), .unset, .unset, .unset, .unset, .unset, .unset] []) _ _ _
          refine Go.iconst X43 hx (hb hby at_83) ?_
          show Go _ _ _ _ T43 (mkF m 84 #[.val (.int p0), .val (.int p1), .val (.int p2), .val (.int p3), .val (.int p4), .val (.int j26), .val (.int j29), .val (.ref a31), .val (.ref a35), .val (.ref a39), .unset, .unset, .unset, .unset, .unset, .unset] [(.int (0 : Int32))]) _ _ _
          exact J47 _ (by rw [if_pos c58]; rw [if_neg c59])
      · refine Go.icmpYes X43 hx (hb hby at_70) (XT.ii_ne_t c58) (pc' := 83) (by decide) (by decide) ?_
        show Go _ _ _ _ T43 (mkF m 83 #[.val (.int p0), .val (.int p1), .val (.int p2), .val (.int p3), .val (.int p4), .val (.int j26), .val (.int j29), .val (.ref a31), .val (.ref a35), .val (.ref a39), .unset, .unset, .unset, .unset, .unset, .unset] []) _ _ _
        refine Go.iconst X43 hx (hb hby at_83) ?_
        show Go _ _ _ _ T43 (mkF m 84 #[.val (.int p0), .val (.int p1), .val (.int p2), .val (.int p3), .val (.int p4), .val (.int j26), .val (.int j29), .val (.ref a31), .val (.ref a35), .val (.ref a39), .unset, .unset, .unset, .unset, .unset, .unset] [(.int (0 : Int32))]) _ _ _
        exact J47 _ (by rw [if_neg c58])
    rcases Decidable.em ((p4 &&& (2 : Int32)) = (0 : Int32)) with c60 | c60
    · refine Go.ifYes X0 hx (hb hby at_18) (XT.i0_eq_t c60) (pc' := 25) (by decide) (by decide) ?_
      show Go _ _ _ _ s₁ (mkF m 25 #[.val (.int p0), .val (.int p1), .val (.int p2), .val (.int p3), .val (.int p4), .val (.int j26), .unset, .unset, .unset, .unset, .unset, .unset, .unset, .unset, .unset, .unset] []) _ _ _
      refine Go.iloadN X0 hx (hb hby at_25) rfl ?_
      show Go _ _ _ _ s₁ (mkF m 26 #[.val (.int p0), .val (.int p1), .val (.int p2), .val (.int p3), .val (.int p4), .val (.int j26), .unset, .unset, .unset, .unset, .unset, .unset, .unset, .unset, .unset, .unset] [(.int p3)]) _ _ _
      exact J30 _ (by rw [if_pos c60])
    · refine Go.ifNo X0 hx (hb hby at_18) (XT.i0_eq_f c60) ?_
      show Go _ _ _ _ s₁ (mkF m 21 #[.val (.int p0), .val (.int p1), .val (.int p2), .val (.int p3), .val (.int p4), .val (.int j26), .unset, .unset, .unset, .unset, .unset, .unset, .unset, .unset, .unset, .unset] []) _ _ _
      refine Go.iloadN X0 hx (hb hby at_21) rfl ?_
      show Go _ _ _ _ s₁ (mkF m 22 #[.val (.int p0), .val (.int p1), .val (.int p2), .val (.int p3), .val (.int p4), .val (.int j26), .unset, .unset, .unset, .unset, .unset, .unset, .unset, .unset, .unset, .unset] [(.int p1)]) _ _ _
      refine Go.goto X0 hx (hb hby at_22) (pc' := 26) (by decide) (by decide) ?_
      show Go _ _ _ _ s₁ (mkF m 26 #[.val (.int p0), .val (.int p1), .val (.int p2), .val (.int p3), .val (.int p4), .val (.int j26), .unset, .unset, .unset, .unset, .unset, .unset, .unset, .unset, .unset, .unset] [(.int p1)]) _ _ _
      exact J30 _ (by rw [if_neg c60])
  rcases Decidable.em ((p4 &&& (1 : Int32)) = (0 : Int32)) with c61 | c61
  · refine Go.ifYes X0 hx (hb hby at_4) (XT.i0_eq_t c61) (pc' := 11) (by decide) (by decide) ?_
    show Go _ _ _ _ s₁ (mkF m 11 #[.val (.int p0), .val (.int p1), .val (.int p2), .val (.int p3), .val (.int p4), .unset, .unset, .unset, .unset, .unset, .unset, .unset, .unset, .unset, .unset, .unset] []) _ _ _
    refine Go.iloadN X0 hx (hb hby at_11) rfl ?_
    show Go _ _ _ _ s₁ (mkF m 12 #[.val (.int p0), .val (.int p1), .val (.int p2), .val (.int p3), .val (.int p4), .unset, .unset, .unset, .unset, .unset, .unset, .unset, .unset, .unset, .unset, .unset] [(.int p2)]) _ _ _
    exact J27 _ (by rw [if_pos c61])
  · refine Go.ifNo X0 hx (hb hby at_4) (XT.i0_eq_f c61) ?_
    show Go _ _ _ _ s₁ (mkF m 7 #[.val (.int p0), .val (.int p1), .val (.int p2), .val (.int p3), .val (.int p4), .unset, .unset, .unset, .unset, .unset, .unset, .unset, .unset, .unset, .unset, .unset] []) _ _ _
    refine Go.iloadN X0 hx (hb hby at_7) rfl ?_
    show Go _ _ _ _ s₁ (mkF m 8 #[.val (.int p0), .val (.int p1), .val (.int p2), .val (.int p3), .val (.int p4), .unset, .unset, .unset, .unset, .unset, .unset, .unset, .unset, .unset, .unset, .unset] [(.int p0)]) _ _ _
    refine Go.goto X0 hx (hb hby at_8) (pc' := 12) (by decide) (by decide) ?_
    show Go _ _ _ _ s₁ (mkF m 12 #[.val (.int p0), .val (.int p1), .val (.int p2), .val (.int p3), .val (.int p4), .unset, .unset, .unset, .unset, .unset, .unset, .unset, .unset, .unset, .unset, .unset] [(.int p0)]) _ _ _
    exact J27 _ (by rw [if_neg c61])
set_option maxRecDepth 65536 in
set_option maxHeartbeats 40000000 in
theorem comes_1 {Post : Tables → Env → Array Value → State → Outcome → State → Prop} (hpost : ∀ tb e args s v u, (limb_1_1.after args s (.returned v) u = true ∧ limb_1_2.after args s (.returned v) u = true ∧ True) → FrameEnd s (.returned v) u (Jvm.fieldLocs frame_1_writes args s ++ Jvm.arrayLocs frame_1_arrays args s ++ Jvm.staticLocs frame_1_statics s) 16 128 → Post tb e args s (.returned v) u) :
    ArmFor flags0 classFile x code maxLocals ret World_1 tables_1 room_1 Calls_1 rest_1 Pre_1 Post := by
  intro l hfl _ _ p e ha hc hk s m args below hf hA hF happ hP
  obtain ⟨hcalls, hrest, hpre⟩ := hP
  obtain ⟨-, -, -, hnamed, -, -, -, hat⟩ := (Spec.applies_iff hf).mp happ
  obtain ⟨hg, hn⟩ := and_e (Cond.before_iff.mp (show (Jvm.Cond.and given_1 narrow_1).before args s = true from hpre))
  obtain ⟨hcount, hgs⟩ := and_e hg
  obtain ⟨hg0, hgr0⟩ := and_e hgs
  obtain ⟨hg1, hgr1⟩ := and_e hgr0
  obtain ⟨hg2, hgr2⟩ := and_e hgr1
  obtain ⟨hg3, hgr3⟩ := and_e hgr2
  obtain ⟨w0', w1', w2', w3', w4', rfl⟩ : ∃ w0' w1' w2' w3' w4' : Value, args = #[w0', w1', w2', w3', w4'] := by
    have hs : args.size = 5 := by simpa [Cond.value, given_1] using hcount
    obtain ⟨L⟩ := args
    match L, hs with
    | [w0', w1', w2', w3', w4'], _ => exact ⟨w0', w1', w2', w3', w4', rfl⟩
  have hw := fun d (hd : d ∈ tables_1) => atoms_spec (ws := Jvm.Cond.code x code maxLocals ret :: tables_1) hat d (List.mem_cons_of_mem _ hd)
  have hfit : Fit s := fun {y c} hc i hi => by
    obtain ⟨ha, rfl⟩ := Array.getElem?_eq_some_iff.mp hc
    have q := List.all_eq_true.mp ((Array.all_eq_true_iff_forall_mem.mp hF) _ (Array.getElem_mem ha)) i (List.mem_range.mpr hi)
    simpa [Array.getElem?_eq_getElem hi] using q
  obtain ⟨i0, ei0⟩ := is_v hg0
  obtain rfl : w0' = (.int i0) := Option.some.inj ei0
  obtain ⟨i1, ei1⟩ := is_v hg1
  obtain rfl : w1' = (.int i1) := Option.some.inj ei1
  obtain ⟨i2, ei2⟩ := is_v hg2
  obtain rfl : w2' = (.int i2) := Option.some.inj ei2
  obtain ⟨i3, ei3⟩ := is_v hg3
  obtain rfl : w3' = (.int i3) := Option.some.inj ei3
  obtain ⟨i4, ei4⟩ := is_v hgr3
  obtain rfl : w4' = (.int i4) := Option.some.inj ei4
  obtain ⟨n, o, h1, h2, h3, _, L, rfl, ⟨rfl, N⟩, hq⟩ := rm_law l s _ hw tables_1 i0 i1 i2 i3 i4 s.heap s.heap.size (Nat.le_refl _) p e ha hc hk s m _ below hf ((Spec.applies_iff_loose hf).mp happ).1 ⟨rfl, State.Warmed39.refl s, rfl⟩ trivial
  refine ⟨n, _, h1, h2, h3, hpost _ _ _ _ _ _ ⟨Cond.after_iff.mpr rfl, Cond.after_iff.mpr (eq_i res_at (Term.int_eval (1)) rfl), trivial⟩ ⟨hq.1, hq.2.1, (hq.2.2.sift fun y hy => Or.inr (N y hy)).mono (by decide) (by decide)⟩⟩
theorem main_1_1 : Claimed_1_1 := comes_1 fun _ _ _ _ _ _ h hF => ⟨h.1, hF⟩
theorem main_1_2 : Claimed_1_2 := comes_1 fun _ _ _ _ _ _ h hF => ⟨h.2.1, hF⟩
end Jvm.Pilot.@@N@@
namespace Jvm.Pilot.@@N@@
open Jvm Jvm.ClassFile Sem Op Lib Jvm.Free Jvm.Stand Jvm.Pilot.@@N@@.Jvm.D
/-! MADE BY PROGRAM (witnessworld.py) out of the Statement's table words and the real class files: 12 classes; the members and pool entries that the words name. The judged class is class 1, her method 1. -/
namespace start1
open Jvm.ClassFile
def u (s : String) : CpInfo := .utf8 (stringToUtf16 s)
/-- a pool by its gaps: so many unusable entries, then the entry; so many at the end -/
def gap : Nat → List CpInfo → List CpInfo
  | 0, r => r
  | n + 1, r => .unusable :: gap n r
def poolList (es : List (Nat × CpInfo)) (last : Nat) : List CpInfo := es.foldr (fun e r => gap e.1 (e.2 :: r)) (gap last [])
def pool (es : List (Nat × CpInfo)) (last : Nat) : Array CpInfo := ⟨poolList es last⟩
def fileOf (pool : Array CpInfo) (this : Nat) (attrs : Array Attribute := #[]) (ms : Array MethodInfo := #[]) (fl : Nat := 33) (sup : Nat := 0) (ifs : Array Nat := #[]) (fds : Array FieldInfo := #[]) : ClassFile where
  minorVersion := 0
  majorVersion := 65
  constantPool := pool
  accessFlags := fl
  thisClass := this
  superClass := sup
  interfaces := ifs
  fields := fds
  methods := ms
  attributes := attrs
def plain (name : String) (sup : Option ClassId) : Class where
  name := name
  kind := .ordinary
  loader := none
  accessFlags := 33
  super := sup
  interfaces := #[]
  cf := none
  fields := #[]
  methods := #[]
  instanceTypes := #[]
  staticTypes := #[]
  resolved := #[]
  callSites := []
  init := .initialized
  statics := none
  mirror := none

def pool0 : Array CpInfo := pool [(5, u "<init>"), (0, u "()V"), (1, .class_ 10), (1, u "java/lang/Object")] 113

def k0c0 : Code := { maxStack := 0, maxLocals := 1, code := object_method_1_code, exceptionTable := #[], attributes := #[] }
def k0m0 : Method := { name := "<init>", desc := "()V", sig := { parameters := [], returnType := none }, accessFlags := 1, code := some k0c0 }
/-- java/lang/Object -/
def k0 : Class := { plain "java/lang/Object" none with
  accessFlags := 33
  interfaces := #[]
  cf := some (fileOf pool0 8 #[] #[{ accessFlags := 1, nameIndex := 5, descriptorIndex := 6, attributes := #[] }] 33 0 #[] #[])
  fields := #[]
  methods := #[k0m0]
  instanceTypes := #[]
  staticTypes := #[]
  resolved := Array.replicate 124 none
  statics := none }

def pool1 : Array CpInfo := pool [(2, .class_ 4), (1, u "java/lang/Object"), (0, u "<init>"), (0, u "()V"), (0, .class_ 8), (0, u "com/example/coppice/coppice/classfile/Constant$NameAndType"), (0, .methodref 7 10), (0, .nameAndType 5 11), (0, u "(II)V"), (0, .class_ 13), (0, u "com/example/coppice/coppice/classfile/Constant$MemberRef"), (0, .methodref 12 15), (0, .nameAndType 5 16), (0, u "(III)V"), (0, .methodref 7 18), (0, .nameAndType 19 20), (0, u "equals"), (0, u "(Ljava/lang/Object;)Z"), (0, .class_ 22), (0, u "com/example/coppice/coppice/classfile/NameAndTypeEqualsPinLaw"), (2, u "law"), (0, u "(IIIII)Z")] 8

def k1m0 : Method := { name := "<init>", desc := "()V", sig := { parameters := [], returnType := none }, accessFlags := 1, code := none }
def k1c1 : Code := { maxStack := 5, maxLocals := 16, code := code, exceptionTable := #[], attributes := #[] }
def k1m1 : Method := { name := "law", desc := "(IIIII)Z", sig := { parameters := [.int, .int, .int, .int, .int], returnType := some .boolean }, accessFlags := 9, code := some k1c1 }
/-- com/example/coppice/coppice/classfile/NameAndTypeEqualsPinLaw -/
def k1 : Class := { plain "com/example/coppice/coppice/classfile/NameAndTypeEqualsPinLaw" (some 0) with
  accessFlags := 49
  interfaces := #[]
  cf := some (fileOf pool1 21 #[] #[{ accessFlags := 1, nameIndex := 5, descriptorIndex := 6, attributes := #[] }, { accessFlags := 9, nameIndex := 25, descriptorIndex := 26, attributes := #[] }] 49 2 #[] #[])
  fields := #[]
  methods := #[k1m0, k1m1]
  instanceTypes := #[]
  staticTypes := #[]
  resolved := Array.replicate 35 none
  statics := none }

def pool2 : Array CpInfo := pool [(1, .methodref 2 3), (0, .class_ 4), (0, .nameAndType 5 6), (0, u "java/lang/Object"), (0, u "<init>"), (0, u "()V"), (0, .class_ 8), (0, u "java/lang/Record")] 13

def k2c0 : Code := { maxStack := 1, maxLocals := 1, code := jdk_30_method_1_code, exceptionTable := #[], attributes := #[] }
def k2m0 : Method := { name := "<init>", desc := "()V", sig := { parameters := [], returnType := none }, accessFlags := 4, code := some k2c0 }
/-- java/lang/Record -/
def k2 : Class := { plain "java/lang/Record" (some 0) with
  accessFlags := 1057
  interfaces := #[]
  cf := some (fileOf pool2 7 #[] #[{ accessFlags := 4, nameIndex := 5, descriptorIndex := 6, attributes := #[] }] 1057 2 #[] #[])
  fields := #[]
  methods := #[k2m0]
  instanceTypes := #[]
  staticTypes := #[]
  resolved := Array.replicate 22 none
  statics := none }

def pool3 : Array CpInfo := pool [(1, .class_ 2), (0, u "com/example/coppice/coppice/classfile/Constant$Utf8"), (14, .class_ 18), (0, u "com/example/coppice/coppice/classfile/Constant$IntegerConstant"), (6, .class_ 26), (0, u "com/example/coppice/coppice/classfile/Constant$FloatConstant"), (1, .class_ 29), (0, u "com/example/coppice/coppice/classfile/Constant$LongConstant"), (7, .class_ 38), (0, u "com/example/coppice/coppice/classfile/Constant$DoubleConstant"), (1, .class_ 41), (0, u "com/example/coppice/coppice/classfile/Constant$ClassConstant"), (1, .class_ 44), (0, u "com/example/coppice/coppice/classfile/Constant$StringConstant"), (1, .class_ 47), (0, u "com/example/coppice/coppice/classfile/Constant$MemberRef"), (3, .class_ 52), (0, u "com/example/coppice/coppice/classfile/Constant$NameAndType"), (3, .class_ 57), (0, u "com/example/coppice/coppice/classfile/Constant$MethodHandle"), (4, .class_ 63), (0, u "com/example/coppice/coppice/classfile/Constant$MethodType"), (1, .class_ 66), (0, u "com/example/coppice/coppice/classfile/Constant$Dynamic"), (1, .class_ 69), (0, u "com/example/coppice/coppice/classfile/Constant$ModuleConstant"), (1, .class_ 72), (0, u "com/example/coppice/coppice/classfile/Constant$PackageConstant"), (9, .class_ 83), (0, u "com/example/coppice/coppice/classfile/Constant"), (0, .class_ 85), (0, u "java/lang/Object")] 46

/-- com/example/coppice/coppice/classfile/Constant -/
def k3 : Class := { plain "com/example/coppice/coppice/classfile/Constant" (some 0) with
  accessFlags := 1537
  interfaces := #[]
  cf := some (fileOf pool3 82 #[.nestMembers #[71, 68, 65, 62, 56, 51, 46, 43, 40, 37, 28, 25, 17, 1]] #[] 1537 84 #[] #[])
  fields := #[]
  methods := #[]
  instanceTypes := #[]
  staticTypes := #[]
  resolved := Array.replicate 132 none
  statics := none }

def pool4 : Array CpInfo := pool [(1, .methodref 2 3), (0, .class_ 4), (0, .nameAndType 5 6), (0, u "java/lang/Record"), (0, u "<init>"), (0, u "()V"), (0, .fieldref 8 9), (0, .class_ 10), (0, .nameAndType 11 12), (0, u "com/example/coppice/coppice/classfile/Constant$NameAndType"), (0, u "nameIndex"), (0, u "I"), (0, .fieldref 8 14), (0, .nameAndType 15 12), (0, u "descriptorIndex"), (23, .class_ 40), (0, u "com/example/coppice/coppice/classfile/Constant"), (0, u "(II)V"), (6, u "equals"), (0, u "(Ljava/lang/Object;)Z")] 29

def k4c0 : Code := { maxStack := 2, maxLocals := 3, code := prog_42_method_1_code, exceptionTable := #[], attributes := #[] }
def k4m0 : Method := { name := "<init>", desc := "(II)V", sig := { parameters := [.int, .int], returnType := none }, accessFlags := 1, code := some k4c0 }
def k4c1 : Code := { maxStack := 2, maxLocals := 3, code := prog_42_method_5_code, exceptionTable := #[], attributes := #[] }
def k4m1 : Method := { name := "equals", desc := "(Ljava/lang/Object;)Z", sig := { parameters := [(.object "java/lang/Object")], returnType := some .boolean }, accessFlags := 1, code := some k4c1 }
/-- com/example/coppice/coppice/classfile/Constant$NameAndType -/
def k4 : Class := { plain "com/example/coppice/coppice/classfile/Constant$NameAndType" (some 2) with
  accessFlags := 49
  interfaces := #[3]
  cf := some (fileOf pool4 8 #[.nestHost 39] #[{ accessFlags := 1, nameIndex := 5, descriptorIndex := 41, attributes := #[] }, { accessFlags := 1, nameIndex := 48, descriptorIndex := 49, attributes := #[] }] 49 2 #[39] #[{ accessFlags := 18, nameIndex := 11, descriptorIndex := 12, attributes := #[] }, { accessFlags := 18, nameIndex := 15, descriptorIndex := 12, attributes := #[] }])
  fields := #[{ name := "nameIndex", type := .int, accessFlags := 18, slot := 0, constantValue := 0 }, { name := "descriptorIndex", type := .int, accessFlags := 18, slot := 1, constantValue := 0 }]
  methods := #[k4m0, k4m1]
  instanceTypes := #[.int, .int]
  staticTypes := #[]
  resolved := Array.replicate 79 none
  statics := none }

def pool5 : Array CpInfo := pool [(1, .methodref 2 3), (0, .class_ 4), (0, .nameAndType 5 6), (0, u "java/lang/Record"), (0, u "<init>"), (0, u "()V"), (0, .fieldref 8 9), (0, .class_ 10), (0, .nameAndType 11 12), (0, u "com/example/coppice/coppice/classfile/Constant$MemberRef"), (0, u "tag"), (0, u "I"), (0, .fieldref 8 14), (0, .nameAndType 15 12), (0, u "classIndex"), (0, .fieldref 8 17), (0, .nameAndType 18 12), (0, u "nameAndTypeIndex"), (27, .class_ 47), (0, u "com/example/coppice/coppice/classfile/Constant"), (0, u "(III)V")] 36

def k5c0 : Code := { maxStack := 2, maxLocals := 4, code := prog_38_method_1_code, exceptionTable := #[], attributes := #[] }
def k5m0 : Method := { name := "<init>", desc := "(III)V", sig := { parameters := [.int, .int, .int], returnType := none }, accessFlags := 1, code := some k5c0 }
/-- com/example/coppice/coppice/classfile/Constant$MemberRef -/
def k5 : Class := { plain "com/example/coppice/coppice/classfile/Constant$MemberRef" (some 2) with
  accessFlags := 49
  interfaces := #[3]
  cf := some (fileOf pool5 8 #[.nestHost 46] #[{ accessFlags := 1, nameIndex := 5, descriptorIndex := 48, attributes := #[] }] 49 2 #[46] #[{ accessFlags := 18, nameIndex := 11, descriptorIndex := 12, attributes := #[] }, { accessFlags := 18, nameIndex := 15, descriptorIndex := 12, attributes := #[] }, { accessFlags := 18, nameIndex := 18, descriptorIndex := 12, attributes := #[] }])
  fields := #[{ name := "tag", type := .int, accessFlags := 18, slot := 0, constantValue := 0 }, { name := "classIndex", type := .int, accessFlags := 18, slot := 1, constantValue := 0 }, { name := "nameAndTypeIndex", type := .int, accessFlags := 18, slot := 2, constantValue := 0 }]
  methods := #[k5m0]
  instanceTypes := #[.int, .int, .int]
  staticTypes := #[]
  resolved := Array.replicate 85 none
  statics := none }

def pool6 : Array CpInfo := pool [(1, u "java/lang/Cloneable"), (0, .class_ 1), (0, u "java/lang/Object"), (0, .class_ 3)] 3

/-- java/lang/Cloneable -/
def k6 : Class := { plain "java/lang/Cloneable" (some 0) with
  accessFlags := 1537
  interfaces := #[]
  cf := some (fileOf pool6 2 #[] #[] 1537 4 #[] #[])
  fields := #[]
  methods := #[]
  instanceTypes := #[]
  staticTypes := #[]
  resolved := Array.replicate 8 none
  statics := none }

def pool7 : Array CpInfo := pool [(1, u "java/io/Serializable"), (0, .class_ 1), (0, u "java/lang/Object"), (0, .class_ 3)] 3

/-- java/io/Serializable -/
def k7 : Class := { plain "java/io/Serializable" (some 0) with
  accessFlags := 1537
  interfaces := #[]
  cf := some (fileOf pool7 2 #[] #[] 1537 4 #[] #[])
  fields := #[]
  methods := #[]
  instanceTypes := #[]
  staticTypes := #[]
  resolved := Array.replicate 8 none
  statics := none }

/-- the primitive byte -/
def k8 : Class := { plain "byte" none with kind := .primitive 'B', accessFlags := 0x411 }
/-- [B -/
def k9 : Class := { plain "[B" (some 0) with kind := .array 8 .byte, interfaces := #[6, 7], accessFlags := 1041 }

/-- the primitive int -/
def k10 : Class := { plain "int" none with kind := .primitive 'I', accessFlags := 0x411 }
/-- [I -/
def k11 : Class := { plain "[I" (some 0) with kind := .array 10 .int, interfaces := #[6, 7], accessFlags := 1041 }

def heap : Heap := #[]
def classes : Array Class := #[k0, k1, k2, k3, k4, k5, k6, k7, k8, k9, k10, k11]
def interned : List (Array UInt16 × Addr) := []
def slotsUsed : Nat := 0
def theMethod : MethodId := ⟨1, 1⟩
def args0 : Array Value := #[.int 5, .int 7, .int 1, .int 2, .int 3]
def aboutOver (below : List Frame) : State where
  vm := { classes := classes, interned := interned.toArray }
  heap := heap
  slotsUsed := slotsUsed
  threads := #[{ frames := .invoking theMethod args0 :: below }]
def below0 : List Frame := [.native { method := ⟨0, 0⟩, args := #[] }]
def about1 : State := aboutOver below0
def p0 : Program := .bare "" "" ""
def e0 : Env := launch0.env 0 0 0
theorem w_frames : about1.frames = Frame.invoking theMethod args0 :: below0 := rfl
set_option maxRecDepth 65536 in
theorem w_args : argsFit about1.vm theMethod args0 = true := by decide +kernel
set_option maxRecDepth 65536 in
theorem w_heap : heapFits about1 = true := by decide +kernel
set_option maxRecDepth 65536 in
theorem w_runnable : about1.curStatus? = some .runnable := by decide +kernel
set_option maxRecDepth 65536 in
theorem w_alone : about1.alone = true := by decide +kernel
set_option maxRecDepth 65536 in
theorem w_named : about1.methodNamed? x = some theMethod := by decide +kernel
set_option maxRecDepth 65536 in
theorem w_hears : about1.hears theMethod below0 = true := by decide +kernel
set_option maxRecDepth 65536 in
theorem w_ripe : about1.ripe theMethod args0 below0 = true := by decide +kernel
theorem w_running : about1.status = .running := rfl
set_option maxRecDepth 65536 in
theorem w_room : about1.hasRoom e0.platform room_1 = true :=
  launch0.hasRoom_least _ room_1 (by decide +kernel) (by decide +kernel) (by decide +kernel) (by decide +kernel) (by decide +kernel) (by decide +kernel)
theorem allAtoms_all (ts : List Jvm.Cond) (a : Array Jvm.Value) (st : Jvm.State) : (allAtoms ts).before a st = ts.all (fun c => c.before a st) := by
  induction ts with
  | nil => rfl
  | cons c t ih =>
    show (Jvm.Cond.and c (allAtoms t)).before a st = _
    rw [Jvm.Cond.before_and, ih, List.all_cons]
def words1 : List Jvm.Cond := Jvm.Cond.code x code maxLocals ret :: tables_1
/-- a 'code' word, met by the world's own term for the bytes: nothing is compared byte by byte -/
theorem code_word {y : MethodName} {bytes : ByteArray} {mx : Nat} {rt : Option FieldType} {a : Array Value} {s : State} {m : MethodId} {meth : Method} {c : Code} (h1 : s.methodNamed? y = some m) (h2 : s.vm.method? m = some meth) (h3 : meth.code = some c) (h4 : c.code = bytes)
    (h5 : (c.maxLocals == mx && c.exceptionTable.isEmpty && decide (c.maxStack ≤ mostOperands) && decide (meth.sig.returnType = rt) && !meth.locks && decide (parseMethodDescriptor y.desc = some meth.sig)) = true) : (Jvm.Cond.code y bytes mx rt).before a s = true := by
  simp only [Bool.and_eq_true, beq_iff_eq, Bool.not_eq_true', decide_eq_true_eq] at h5
  obtain ⟨⟨⟨⟨⟨g1, g2⟩, g3⟩, g4⟩, g5⟩, g6⟩ := h5
  simp [Cond.before, Cond.holds, Cond.value, h1, h2, h3, h4, g1, g2, g3, g4, g5, g6]
def isCode : Jvm.Cond → Bool
  | .code _ _ _ _ => true
  | _ => false
theorem all_split {L : List Jvm.Cond} {P : Jvm.Cond → Bool} (h1 : L.all (fun c => isCode c || P c) = true) (h2 : ∀ c ∈ L.filter isCode, P c = true) : L.all P = true := by
  refine List.all_eq_true.mpr fun c hc => ?_
  have h := List.all_eq_true.mp h1 c hc
  rcases Bool.eq_false_or_eq_true (isCode c) with hi | hi
  · exact h2 c (List.mem_filter.mpr ⟨hc, hi⟩)
  · simpa [hi] using h
set_option maxRecDepth 65536 in
theorem w_c0 : (Jvm.Cond.code x code maxLocals ret).before args0 about1 = true := code_word (m := ⟨1, 1⟩) (meth := k1m1) (c := k1c1) (by decide +kernel) rfl rfl rfl (by decide +kernel)
set_option maxRecDepth 65536 in
theorem w_c1 : (Jvm.Cond.code ({ cls := "com/example/coppice/coppice/classfile/Constant$NameAndType", name := "<init>", desc := "(II)V" } : Jvm.MethodName) prog_42_method_1_code (3 : Nat) (Option.none : Option Jvm.ClassFile.FieldType)).before args0 about1 = true := code_word (m := ⟨4, 0⟩) (meth := k4m0) (c := k4c0) (by decide +kernel) rfl rfl rfl (by decide +kernel)
set_option maxRecDepth 65536 in
theorem w_c2 : (Jvm.Cond.code ({ cls := "java/lang/Record", name := "<init>", desc := "()V" } : Jvm.MethodName) jdk_30_method_1_code (1 : Nat) (Option.none : Option Jvm.ClassFile.FieldType)).before args0 about1 = true := code_word (m := ⟨2, 0⟩) (meth := k2m0) (c := k2c0) (by decide +kernel) rfl rfl rfl (by decide +kernel)
set_option maxRecDepth 65536 in
theorem w_c3 : (Jvm.Cond.code ({ cls := "java/lang/Object", name := "<init>", desc := "()V" } : Jvm.MethodName) object_method_1_code (1 : Nat) (Option.none : Option Jvm.ClassFile.FieldType)).before args0 about1 = true := code_word (m := ⟨0, 0⟩) (meth := k0m0) (c := k0c0) (by decide +kernel) rfl rfl rfl (by decide +kernel)
set_option maxRecDepth 65536 in
theorem w_c4 : (Jvm.Cond.code ({ cls := "com/example/coppice/coppice/classfile/Constant$MemberRef", name := "<init>", desc := "(III)V" } : Jvm.MethodName) prog_38_method_1_code (4 : Nat) (Option.none : Option Jvm.ClassFile.FieldType)).before args0 about1 = true := code_word (m := ⟨5, 0⟩) (meth := k5m0) (c := k5c0) (by decide +kernel) rfl rfl rfl (by decide +kernel)
set_option maxRecDepth 65536 in
theorem w_c5 : (Jvm.Cond.code ({ cls := "com/example/coppice/coppice/classfile/Constant$NameAndType", name := "equals", desc := "(Ljava/lang/Object;)Z" } : Jvm.MethodName) prog_42_method_5_code (3 : Nat) (Option.some Jvm.ClassFile.FieldType.boolean)).before args0 about1 = true := code_word (m := ⟨4, 1⟩) (meth := k4m1) (c := k4c1) (by decide +kernel) rfl rfl rfl (by decide +kernel)
def codes1 : List Jvm.Cond := [Jvm.Cond.code x code maxLocals ret, Jvm.Cond.code ({ cls := "com/example/coppice/coppice/classfile/Constant$NameAndType", name := "<init>", desc := "(II)V" } : Jvm.MethodName) prog_42_method_1_code (3 : Nat) (Option.none : Option Jvm.ClassFile.FieldType), Jvm.Cond.code ({ cls := "java/lang/Record", name := "<init>", desc := "()V" } : Jvm.MethodName) jdk_30_method_1_code (1 : Nat) (Option.none : Option Jvm.ClassFile.FieldType), Jvm.Cond.code ({ cls := "java/lang/Object", name := "<init>", desc := "()V" } : Jvm.MethodName) object_method_1_code (1 : Nat) (Option.none : Option Jvm.ClassFile.FieldType), Jvm.Cond.code ({ cls := "com/example/coppice/coppice/classfile/Constant$MemberRef", name := "<init>", desc := "(III)V" } : Jvm.MethodName) prog_38_method_1_code (4 : Nat) (Option.none : Option Jvm.ClassFile.FieldType), Jvm.Cond.code ({ cls := "com/example/coppice/coppice/classfile/Constant$NameAndType", name := "equals", desc := "(Ljava/lang/Object;)Z" } : Jvm.MethodName) prog_42_method_5_code (3 : Nat) (Option.some Jvm.ClassFile.FieldType.boolean)]
set_option maxRecDepth 65536 in
theorem codes_eq : words1.filter isCode = codes1 := rfl
theorem w_codes : ∀ c ∈ words1.filter isCode, c.before args0 about1 = true := by
  rw [codes_eq]
  intro c hc
  simp only [codes1, List.mem_cons, List.not_mem_nil, or_false] at hc
  rcases hc with rfl | rfl | rfl | rfl | rfl | rfl
  · exact w_c0
  · exact w_c1
  · exact w_c2
  · exact w_c3
  · exact w_c4
  · exact w_c5
set_option maxRecDepth 65536 in
theorem w_t1 : (words1.take 24).all (fun c => isCode c || c.before args0 about1) = true := by decide +kernel
set_option maxRecDepth 65536 in
theorem w_t2 : (words1.drop 24).all (fun c => isCode c || c.before args0 about1) = true := by decide +kernel
theorem w_tables : (allAtoms (Jvm.Cond.code x code maxLocals ret :: tables_1)).before args0 about1 = true := by
  rw [allAtoms_all]
  show words1.all (fun c => c.before args0 about1) = true
  refine all_split ?_ w_codes
  rw [← List.take_append_drop 24 words1, List.all_append, w_t1, w_t2]
  rfl
set_option maxRecDepth 65536 in
theorem w_case : (Jvm.Cond.and given_1 narrow_1).before args0 about1 = true := by decide +kernel
theorem w_applies : (headSpec (Jvm.Cond.code x code maxLocals ret :: tables_1) room_1).applies x e0.platform about1 = true :=
  (Spec.applies_iff w_frames).mpr ⟨w_running, w_runnable, w_alone, w_named, w_hears, w_ripe, w_room, w_tables⟩
theorem atStart : AtStart classFile x code maxLocals ret World_1 tables_1 room_1 Calls_1 rest_1 Pre_1 launch0 p0 e0 about1 theMethod args0 below0 :=
  ⟨lists_1, trivial, launch0.admits_env _ _ _, launch0.least_env, fairChoices_fair.cas, fairChoices_fair.clock, w_frames, w_args, w_heap, w_applies, trivial, trivial, w_case⟩
end start1
theorem witness_1 : WitnessClaimed_1 := ⟨start1.p0, start1.e0, start1.about1, start1.theMethod, start1.args0, start1.below0, start1.atStart⟩
end Jvm.Pilot.@@N@@
