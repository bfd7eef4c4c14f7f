import JvmDerived
import JvmDerived.Pilot.@@N@@Statement
import JvmDerived.Pilot.@@N@@Code
set_option linter.unusedVariables false
set_option linter.unusedSimpArgs false
namespace Jvm.OwnK
open Sem ClassFile Op Lib Jvm.Free Jvm.Stand Jvm.LawKit Jvm.RoadKit
section Base
variable {p : Program} {l : Launch} {e : Env} {R : Room} {s : State} {m : MethodId} {args : Array Value} {below : List Frame} {meth : Method} {c : Code} {T T' : State} {locs : List Loc} {cells slots : Nat} {Q : Option Value → Heap → List Loc → Prop} {kc ks : Nat} {g g' : JFrame} {Z : State} {a0 : Array Value} {h : Heap}
/-- the walk's goal: from T with g on top the invocation comes to its end, with Q -/
def Go (p : Program) (e : Env) (below : List Frame) (s T : State) (g : JFrame) (Q : Option Value → Heap → List Loc → Prop) (kc ks : Nat) : Prop :=
  ∃ s₂ o, Steps p.tables e below (T.setTop g) s₂ ∧ s₂.status = .running ∧ Ended s₂ below o ∧ ∃ v L, o = .returned v ∧ Q v s₂.heap L ∧ FrameEnd s o s₂ L kc ks
theorem Go.step (st : ∀ target, Steps p.tables e below (T'.setTop g') target → Steps p.tables e below (T.setTop g) target) (k : Go p e below s T' g' Q kc ks) : Go p e below s T g Q kc ks := by
  obtain ⟨s₂, o, h1, r⟩ := k
  exact ⟨s₂, o, st _ h1, r⟩
theorem Go.trans (st : Steps p.tables e below (T.setTop g) (T'.setTop g')) (k : Go p e below s T' g' Q kc ks) : Go p e below s T g Q kc ks := by
  obtain ⟨s₂, o, h1, r⟩ := k
  exact ⟨s₂, o, st.trans h1, r⟩
theorem Go.cast (q : g = g') (k : Go p e below s T g' Q kc ks) : Go p e below s T g Q kc ks := q ▸ k
theorem Go.out (X : Stand p l e R s m args below meth c T locs cells slots) (hlk : meth.locks = false) {v : Option Value} (hv : meth.sig.returnType = none → v = none) (hQ : Q v T.heap locs) (hc : cells ≤ kc) (hs : slots ≤ ks)
    (st : ∀ fs : List Frame, (∀ (f : JFrame) (acts : List Action), f.method = m → f.locked = none → f.entered = [] → (doReturn e (T.setTop f) acts v).1 = T.setFrames fs) → Steps p.tables e below (T.setTop g) (T.setFrames fs)) : Go p e below s T g Q kc ks := by
  obtain ⟨fs, hr, hrun, hended, hW, hsame⟩ := X.leave hv hlk
  exact ⟨_, _, st fs hr, hrun, hended, _, _, rfl, hQ, ⟨_, rfl⟩, hW, hsame.mono hc hs⟩
theorem Go.ret0 (X : Stand p l e R s m args below meth c T locs cells slots) (hx : p.tables.exec = Jvm.exec) (hlk : meth.locks = false) {pc : Nat} {Ls : Array Slot} (hret : meth.sig.returnType = none) (hd : decode c.code pc = .ok (.return_, 1)) (hc : cells ≤ kc) (hs : slots ≤ ks) (hQ : Q none T.heap locs) : Go p e below s T (mkF m pc Ls []) Q kc ks :=
  Go.out X hlk (fun _ => rfl) hQ hc hs fun fs hr => X.returnOut hx hret hd hr
theorem Go.retV (X : Stand p l e R s m args below meth c T locs cells slots) (hx : p.tables.exec = Jvm.exec) (hlk : meth.locks = false) {pc : Nat} {Ls : Array Slot} {w : Value} {t : FieldType} {i : Instr} {rest : List Value} (hret : meth.sig.returnType = some t) (hn : narrow t w = w)
    (hi : (i = .ireturn ∧ (t = .int ∨ t = .boolean ∨ t = .byte ∨ t = .char ∨ t = .short) ∧ ∃ z, w = .int z) ∨ (i = .lreturn ∧ t = .long ∧ ∃ z, w = .long z) ∨ (i = .dreturn ∧ t = .double ∧ ∃ z, w = .double z) ∨ (i = .freturn ∧ t = .float ∧ ∃ z, w = .float z) ∨ (i = .areturn ∧ t.isReference = true ∧ w.isRef = true))
    (hd : decode c.code pc = .ok (i, 1)) (hc : cells ≤ kc) (hs : slots ≤ ks) (hQ : Q (some w) T.heap locs) : Go p e below s T (mkF m pc Ls (w :: rest)) Q kc ks :=
  Go.out X hlk (fun q => by rw [hret] at q; cases q) hQ hc hs fun fs hr => retOut X hx hret hn hi hd hr
theorem Go.retI (X : Stand p l e R s m args below meth c T locs cells slots) (hx : p.tables.exec = Jvm.exec) (hlk : meth.locks = false) {pc : Nat} {Ls : Array Slot} {z : Int32} {rest : List Value} (hret : meth.sig.returnType = some .int)
    (hd : decode c.code pc = .ok (.ireturn, 1)) (hc : cells ≤ kc) (hs : slots ≤ ks) (hQ : Q (some (.int z)) T.heap locs) : Go p e below s T (mkF m pc Ls (.int z :: rest)) Q kc ks :=
  Go.retV X hx hlk hret rfl (Or.inl ⟨rfl, Or.inl rfl, z, rfl⟩) hd hc hs hQ
theorem nar_bool {z : Int32} (h : z = 0 ∨ z = 1) : narrow .boolean (.int z) = .int z := by rcases h with rfl | rfl <;> rfl
theorem Go.retZ (X : Stand p l e R s m args below meth c T locs cells slots) (hx : p.tables.exec = Jvm.exec) (hlk : meth.locks = false) {pc : Nat} {Ls : Array Slot} {z : Int32} {rest : List Value} (hret : meth.sig.returnType = some .boolean) (hz : z = 0 ∨ z = 1)
    (hd : decode c.code pc = .ok (.ireturn, 1)) (hc : cells ≤ kc) (hs : slots ≤ ks) (hQ : Q (some (.int z)) T.heap locs) : Go p e below s T (mkF m pc Ls (.int z :: rest)) Q kc ks :=
  Go.retV X hx hlk hret (nar_bool hz) (Or.inl ⟨rfl, Or.inr (Or.inl rfl), z, rfl⟩) hd hc hs hQ
theorem Go.retJ (X : Stand p l e R s m args below meth c T locs cells slots) (hx : p.tables.exec = Jvm.exec) (hlk : meth.locks = false) {pc : Nat} {Ls : Array Slot} {z : Int64} {rest : List Value} (hret : meth.sig.returnType = some .long)
    (hd : decode c.code pc = .ok (.lreturn, 1)) (hc : cells ≤ kc) (hs : slots ≤ ks) (hQ : Q (some (.long z)) T.heap locs) : Go p e below s T (mkF m pc Ls (.long z :: rest)) Q kc ks :=
  Go.retV X hx hlk hret rfl (Or.inr (Or.inl ⟨rfl, rfl, z, rfl⟩)) hd hc hs hQ
theorem Go.retR (X : Stand p l e R s m args below meth c T locs cells slots) (hx : p.tables.exec = Jvm.exec) (hlk : meth.locks = false) {pc : Nat} {Ls : Array Slot} {w : Value} {t : FieldType} {rest : List Value} (hret : meth.sig.returnType = some t) (ht : t.isReference = true) (hw : w.isRef = true)
    (hd : decode c.code pc = .ok (.areturn, 1)) (hc : cells ≤ kc) (hs : slots ≤ ks) (hQ : Q (some w) T.heap locs) : Go p e below s T (mkF m pc Ls (w :: rest)) Q kc ks :=
  Go.retV X hx hlk hret (by cases t <;> simp [narrow, FieldType.isReference] at ht ⊢) (Or.inr (Or.inr (Or.inr (Or.inr ⟨rfl, ht, hw⟩)))) hd hc hs hQ
/-- a method's contract in this text: from the heap h0, with these arguments, it returns, with Q -/
def Met (l : Launch) (Z : State) (y : MethodName) (bytes : ByteArray) (maxL : Nat) (ret : Option FieldType) (ws : List Jvm.Cond) (rm : Room) (as' : Array Value) (h0 : Heap) (Q : Option Value → Heap → List Loc → Prop) : Prop :=
  MetFree l y (head1 (Jvm.Cond.code y bytes maxL ret :: ws) rm) (fun a U => a = as' ∧ Z.Warmed39 U.vm ∧ U.heap = h0) (fun _ _ _ _ _ => True) (fun _ U o U' => ∃ v L, o = .returned v ∧ Q v U'.heap L ∧ FrameEnd U o U' L rm.cells rm.slots)
theorem Met.of {y : MethodName} {bytes : ByteArray} {maxL : Nat} {ret : Option FieldType} {ws : List Jvm.Cond} {rm : Room} {as' : Array Value} {h0 : Heap} (hpn : plainFor y = true)
    (body : ∀ (p : Program) (e : Env) (s : State) (m : MethodId) (below : List Frame) (meth : Method) (c : Code) (s₁ : State), Stand p l e rm s m as' below meth c s₁ [] 0 0 → p.tables.exec = Jvm.exec → c.code = bytes → c.maxLocals = maxL → Z.Warmed39 s.vm →
      s.vm.findClass y.cls = some m.cls → meth.name = y.name → s₁.heap = h0 → meth.sig.returnType = ret → meth.locks = false → Go p e below s s₁ (entryFrame m as' maxL) Q rm.cells rm.slots) : Met l Z y bytes maxL ret ws rm as' h0 Q := by
  refine MetFree.of_bodySF hpn hisR ?_
  intro p e s m args below meth c s₁ Bd hml0 hP hK
  obtain ⟨rfl, hZ, hh⟩ := hP
  exact body p e s m below meth c s₁ (Stand.of_body Bd) Bd.exec Bd.bytes hml0 hZ (findClass_of_methodNamed Bd.named) (name_of_methodNamed Bd.named Bd.method).1 (by rw [← hh, Bd.state]; rfl) Bd.returns Bd.notSynchronized
theorem Met.mono {y : MethodName} {bytes : ByteArray} {maxL : Nat} {ret : Option FieldType} {ws : List Jvm.Cond} {rm : Room} {as' : Array Value} {h0 : Heap} {Q' : Option Value → Heap → List Loc → Prop} (hM : Met l Z y bytes maxL ret ws rm as' h0 Q) (q : ∀ v h L, Q v h L → Q' v h L) : Met l Z y bytes maxL ret ws rm as' h0 Q' := by
  intro p e ha hc hk s m args below hf happ hP hK
  obtain ⟨n, o, h1, h2, h3, v, L, h4, h5, h6⟩ := hM p e ha hc hk s m args below hf happ hP hK
  exact ⟨n, o, h1, h2, h3, v, L, h4, q _ _ _ h5, h6⟩
/-- the call of a static method, by its contract -/
theorem Go.callS {own : String} {index : Nat} {y : MethodName} {bytes : ByteArray} {maxL : Nat} {ret : Option FieldType} {rm : Room} {argsL rest : List Value} {Q' : Option Value → Heap → List Loc → Prop} {W pc : Nat} {Ls : Array Slot} {st : List Value}
    (X : Stand p l e R s m args below meth c T locs cells slots) (hx : p.tables.exec = Jvm.exec) (hZ : Z.Warmed39 s.vm) (hown : s.vm.findClass own = some m.cls)
    (w1 : (Jvm.Cond.methodLink own index y).before a0 Z = true) (w2 : (Jvm.Cond.static y).before a0 Z = true) (w3 : (Jvm.Cond.initialized y.cls).before a0 Z = true) (w4 : (Jvm.Cond.code y bytes maxL ret).before a0 Z = true)
    (hy : y.cls ≠ "java/lang/invoke/MethodHandle" ∧ y.cls ≠ "java/lang/invoke/VarHandle") (hM : Met l Z y bytes maxL ret [] rm argsL.toArray h Q') (eT : T.heap = h)
    (hlen : ∀ sig, parseMethodDescriptor y.desc = some sig → argsL.length = sig.parameters.length) (hd : decode c.code pc = .ok (.invokestatic index, 3)) (hsize : Ls.size = c.maxLocals) (hst : st = argsL.reverse ++ rest) (hW : (rest.map fun v => v.category).sum ≤ W)
    (hf : rm.frames + 1 ≤ R.frames) (hl : W + (maxL + 11) + rm.locals ≤ R.locals) (hc : cells + rm.cells ≤ R.cells) (hs : slots + rm.slots ≤ R.slots)
    (k : ∀ v T' L, Stand p l e R s m args below meth c T' (locs ++ L) (cells + rm.cells) (slots + rm.slots) → Q' v T'.heap L → Go p e below s T' (mkF m (pc + 3) Ls (v.toList ++ rest)) Q kc ks) : Go p e below s T (mkF m pc Ls st) Q kc ks := by
  obtain ⟨v, vm₁, ⟨T1, L1, k1, n1⟩, -, X1, ⟨Lc, hQ1, l1, y1, z1⟩, st1⟩ := Jvm.LawKit.callS X hx (y := y) hown (mvT hZ w1) (mvT hZ w2) (mvT hZ w3) (mvT hZ w4) hy (backOf (W := W) hM hZ w4 w3 hf hl) (g := mkF m pc Ls st) rfl hsize (argsL := argsL) (rest := rest) hlen hst (by show 2 * 0 + _ ≤ _; omega) hd (fun _ _ => ⟨rfl, eT, hc, hs⟩)
  dsimp only [Pt.U, Pt.locs, Pt.cells, Pt.slots] at X1 l1 y1 z1 st1 hQ1
  subst l1 y1 z1
  exact Go.step st1 (k v T1 Lc X1 hQ1)
/-- the call of a constructor, by its contract -/
theorem Go.callI {own : String} {index : Nat} {y : MethodName} {bytes : ByteArray} {maxL : Nat} {rm : Room} {a : Addr} {argsL rest : List Value} {Q' : Option Value → Heap → List Loc → Prop} {W pc : Nat} {Ls : Array Slot} {st : List Value}
    (X : Stand p l e R s m args below meth c T locs cells slots) (hx : p.tables.exec = Jvm.exec) (hZ : Z.Warmed39 s.vm) (hown : s.vm.findClass own = some m.cls) (hy1 : y.name = "<init>")
    (w1 : (Jvm.Cond.methodLink own index y).before a0 Z = true) (w2 : (Jvm.Cond.instanceMethod y).before a0 Z = true) (w3 : (Jvm.Cond.initialized y.cls).before a0 Z = true) (w4 : (Jvm.Cond.code y bytes maxL none).before a0 Z = true)
    (hy : y.cls ≠ "java/lang/invoke/MethodHandle" ∧ y.cls ≠ "java/lang/invoke/VarHandle") (hM : Met l Z y bytes maxL none [] rm (.ref a :: argsL).toArray h Q') (eT : T.heap = h)
    (hlen : ∀ sig, parseMethodDescriptor y.desc = some sig → argsL.length = sig.parameters.length) (hd : decode c.code pc = .ok (.invokespecial index, 3)) (hsize : Ls.size = c.maxLocals) (hst : st = argsL.reverse ++ .ref a :: rest) (hW : (rest.map fun v => v.category).sum ≤ W)
    (hf : rm.frames + 1 ≤ R.frames) (hl : W + (maxL + 11) + rm.locals ≤ R.locals) (hc : cells + rm.cells ≤ R.cells) (hs : slots + rm.slots ≤ R.slots)
    (k : ∀ v T' L, Stand p l e R s m args below meth c T' (locs ++ L) (cells + rm.cells) (slots + rm.slots) → Q' v T'.heap L → Go p e below s T' (mkF m (pc + 3) Ls (v.toList ++ rest)) Q kc ks) : Go p e below s T (mkF m pc Ls st) Q kc ks := by
  obtain ⟨v, vm₁, ⟨T1, L1, k1, n1⟩, -, X1, ⟨Lc, hQ1, l1, y1, z1⟩, st1⟩ := X.specialBack hx (y := y) hy1 hown (mvT hZ w1) (mvT hZ w2) (mvT hZ w4) hy (backOf (W := W) hM hZ w4 w3 hf hl) (g := mkF m pc Ls st) rfl hsize (Steps.refl _) (a := a) (argsL := argsL) (rest := rest) hlen hst (by show 2 * 0 + _ ≤ _; omega) hd (fun _ _ => ⟨rfl, eT, hc, hs⟩)
  dsimp only [Pt.U, Pt.locs, Pt.cells, Pt.slots] at X1 l1 y1 z1 st1 hQ1
  subst l1 y1 z1
  exact Go.trans st1 (k v T1 Lc X1 hQ1)
/-- the call of an instance method, by its contract -/
theorem Go.callV {own C : String} {index : Nat} {y z : MethodName} {bytes : ByteArray} {maxL : Nat} {ret : Option FieldType} {rm : Room} {a : Addr} {argsL rest : List Value} {Q' : Option Value → Heap → List Loc → Prop} {W pc : Nat} {Ls : Array Slot} {st : List Value}
    (X : Stand p l e R s m args below meth c T locs cells slots) (hx : p.tables.exec = Jvm.exec) (hZ : Z.Warmed39 s.vm) (hown : s.vm.findClass own = some m.cls)
    (w1 : (Jvm.Cond.methodLink own index y).before a0 Z = true) (w2 : (Jvm.Cond.declares y).before a0 Z = true) (w5 : (Jvm.Cond.selects C y z).before a0 Z = true) (w6 : (Jvm.Cond.instanceMethod z).before a0 Z = true) (w3 : (Jvm.Cond.initialized z.cls).before a0 Z = true) (w4 : (Jvm.Cond.code z bytes maxL ret).before a0 Z = true)
    (nf : NotFace s y) (hy : y.cls ≠ "java/lang/invoke/MethodHandle" ∧ y.cls ≠ "java/lang/invoke/VarHandle") (E : Exa Z h a C) (hM : Met l Z z bytes maxL ret [] rm (.ref a :: argsL).toArray h Q') (eT : T.heap = h)
    (hlen : ∀ sig, parseMethodDescriptor y.desc = some sig → argsL.length = sig.parameters.length) (hd : decode c.code pc = .ok (.invokevirtual index, 3)) (hsize : Ls.size = c.maxLocals) (hst : st = argsL.reverse ++ .ref a :: rest) (hW : (rest.map fun v => v.category).sum ≤ W)
    (hf : rm.frames + 1 ≤ R.frames) (hl : W + (maxL + 11) + rm.locals ≤ R.locals) (hc : cells + rm.cells ≤ R.cells) (hs : slots + rm.slots ≤ R.slots)
    (k : ∀ v T' L, Stand p l e R s m args below meth c T' (locs ++ L) (cells + rm.cells) (slots + rm.slots) → Q' v T'.heap L → Go p e below s T' (mkF m (pc + 3) Ls (v.toList ++ rest)) Q kc ks) : Go p e below s T (mkF m pc Ls st) Q kc ks := by
  obtain ⟨cB, kB, q1, q2, q3⟩ := isOf hZ eT E
  obtain ⟨v, vm₁, ⟨T1, L1, k1, n1⟩, -, X1, ⟨Lc, hQ1, l1, y1, z1⟩, st1⟩ := X.virtualBack hx (y := y) (z := z) hown (mvT hZ w1) (mvT hZ w2) nf (mvT hZ w5) (mvT hZ w6) hy (backOf (W := W) hM hZ w4 w3 hf hl) q1 q3 (g := mkF m pc Ls st) rfl hsize (Steps.refl _) (argsL := argsL) (rest := rest) hlen hst (by show 2 * 0 + _ ≤ _; omega) hd (fun _ _ => ⟨rfl, eT, hc, hs⟩)
  dsimp only [Pt.U, Pt.locs, Pt.cells, Pt.slots] at X1 l1 y1 z1 st1 hQ1
  subst l1 y1 z1
  exact Go.trans st1 (k v T1 Lc X1 hQ1)
theorem Go.ldc {own : String} {index pc : Nat} {v : Int32} {Ls : Array Slot} {st : List Value} (X : Stand p l e R s m args below meth c T locs cells slots) (hx : p.tables.exec = Jvm.exec) (hZ : Z.Warmed39 s.vm) (hown : s.vm.findClass own = some m.cls) (w : (Jvm.Cond.constant own index v).before a0 Z = true) (hd : decode c.code pc = .ok (.ldc index, 2))
    (k : Go p e below s T (mkF m (pc + 2) Ls (.int v :: st)) Q kc ks) : Go p e below s T (mkF m pc Ls st) Q kc ks :=
  Go.step (fun _ => X.ldcI hx hown (mvT hZ w) (g := mkF m pc Ls st) rfl hd) k
theorem Go.ldc2 {own : String} {index pc : Nat} {v : Int64} {Ls : Array Slot} {st : List Value} (X : Stand p l e R s m args below meth c T locs cells slots) (hx : p.tables.exec = Jvm.exec) (hZ : Z.Warmed39 s.vm) (hown : s.vm.findClass own = some m.cls) (w : (Jvm.Cond.constantLong own index v).before a0 Z = true) (hd : decode c.code pc = .ok (.ldc2_w index, 3))
    (k : Go p e below s T (mkF m (pc + 3) Ls (.long v :: st)) Q kc ks) : Go p e below s T (mkF m pc Ls st) Q kc ks :=
  Go.step (fun _ => X.ldc2J hx hown (mvT hZ w) (g := mkF m pc Ls st) rfl hd) k
end Base
end Jvm.OwnK
namespace Jvm.OwnK
open Sem ClassFile Op Lib Jvm.Free Jvm.Stand Jvm.LawKit Jvm.RoadKit
section Steps
variable {p : Program} {l : Launch} {e : Env} {R : Room} {s : State} {m : MethodId} {args : Array Value} {below : List Frame} {meth : Method} {c : Code} {T T' : State} {locs : List Loc} {cells slots : Nat} {Q : Option Value → Heap → List Loc → Prop} {kc ks : Nat} {Z : State} {a0 : Array Value} {h : Heap} {pc : Nat} {Ls : Array Slot} {rest : List Value}
theorem Go.iadd {x y : Int32} (X : Stand p l e R s m args below meth c T locs cells slots) (hx : p.tables.exec = Jvm.exec) (hd : decode c.code pc = .ok (.iadd, 1)) (k : Go p e below s T (mkF m (pc + 1) Ls (.int (x + y) :: rest)) Q kc ks) : Go p e below s T (mkF m pc Ls (.int y :: .int x :: rest)) Q kc ks :=
  Go.step (fun _ => XS.iadd X.here hx (g := mkF m pc Ls (.int y :: .int x :: rest)) rfl hd rfl) k
theorem Go.isub {x y : Int32} (X : Stand p l e R s m args below meth c T locs cells slots) (hx : p.tables.exec = Jvm.exec) (hd : decode c.code pc = .ok (.isub, 1)) (k : Go p e below s T (mkF m (pc + 1) Ls (.int (x - y) :: rest)) Q kc ks) : Go p e below s T (mkF m pc Ls (.int y :: .int x :: rest)) Q kc ks :=
  Go.step (fun _ => XS.isub X.here hx (g := mkF m pc Ls (.int y :: .int x :: rest)) rfl hd rfl) k
theorem Go.iand {x y : Int32} (X : Stand p l e R s m args below meth c T locs cells slots) (hx : p.tables.exec = Jvm.exec) (hd : decode c.code pc = .ok (.iand, 1)) (k : Go p e below s T (mkF m (pc + 1) Ls (.int (x &&& y) :: rest)) Q kc ks) : Go p e below s T (mkF m pc Ls (.int y :: .int x :: rest)) Q kc ks :=
  Go.step (fun _ => XS.iand X.here hx (g := mkF m pc Ls (.int y :: .int x :: rest)) rfl hd rfl) k
theorem Go.imul {x y : Int32} (X : Stand p l e R s m args below meth c T locs cells slots) (hx : p.tables.exec = Jvm.exec) (hd : decode c.code pc = .ok (.imul, 1)) (k : Go p e below s T (mkF m (pc + 1) Ls (.int (x * y) :: rest)) Q kc ks) : Go p e below s T (mkF m pc Ls (.int y :: .int x :: rest)) Q kc ks :=
  Go.step (fun _ => XS.imul X.here hx (g := mkF m pc Ls (.int y :: .int x :: rest)) rfl hd rfl) k
theorem Go.ixor {x y : Int32} (X : Stand p l e R s m args below meth c T locs cells slots) (hx : p.tables.exec = Jvm.exec) (hd : decode c.code pc = .ok (.ixor, 1)) (k : Go p e below s T (mkF m (pc + 1) Ls (.int (x ^^^ y) :: rest)) Q kc ks) : Go p e below s T (mkF m pc Ls (.int y :: .int x :: rest)) Q kc ks :=
  Go.step (fun _ => XT.ixor X.here hx (g := mkF m pc Ls (.int y :: .int x :: rest)) rfl hd rfl) k
theorem Go.ior {x y : Int32} (X : Stand p l e R s m args below meth c T locs cells slots) (hx : p.tables.exec = Jvm.exec) (hd : decode c.code pc = .ok (.ior, 1)) (k : Go p e below s T (mkF m (pc + 1) Ls (.int (x ||| y) :: rest)) Q kc ks) : Go p e below s T (mkF m pc Ls (.int y :: .int x :: rest)) Q kc ks :=
  Go.step (fun _ => XT.ior X.here hx (g := mkF m pc Ls (.int y :: .int x :: rest)) rfl hd rfl) k
theorem Go.ishl {x y : Int32} (X : Stand p l e R s m args below meth c T locs cells slots) (hx : p.tables.exec = Jvm.exec) (hd : decode c.code pc = .ok (.ishl, 1)) (k : Go p e below s T (mkF m (pc + 1) Ls (.int (x <<< (y &&& 31)) :: rest)) Q kc ks) : Go p e below s T (mkF m pc Ls (.int y :: .int x :: rest)) Q kc ks :=
  Go.step (fun _ => XT.ishl X.here hx (g := mkF m pc Ls (.int y :: .int x :: rest)) rfl hd rfl) k
theorem Go.ishr {x y : Int32} (X : Stand p l e R s m args below meth c T locs cells slots) (hx : p.tables.exec = Jvm.exec) (hd : decode c.code pc = .ok (.ishr, 1)) (k : Go p e below s T (mkF m (pc + 1) Ls (.int (x >>> (y &&& 31)) :: rest)) Q kc ks) : Go p e below s T (mkF m pc Ls (.int y :: .int x :: rest)) Q kc ks :=
  Go.step (fun _ => XT.ishr X.here hx (g := mkF m pc Ls (.int y :: .int x :: rest)) rfl hd rfl) k
theorem Go.iushr {x y : Int32} (X : Stand p l e R s m args below meth c T locs cells slots) (hx : p.tables.exec = Jvm.exec) (hd : decode c.code pc = .ok (.iushr, 1)) (k : Go p e below s T (mkF m (pc + 1) Ls (.int (XT.ushr x y) :: rest)) Q kc ks) : Go p e below s T (mkF m pc Ls (.int y :: .int x :: rest)) Q kc ks :=
  Go.step (fun _ => XT.iushr X.here hx (g := mkF m pc Ls (.int y :: .int x :: rest)) rfl hd rfl) k
theorem Go.idiv {x y : Int32} (X : Stand p l e R s m args below meth c T locs cells slots) (hx : p.tables.exec = Jvm.exec) (hd : decode c.code pc = .ok (.idiv, 1)) (hy : y ≠ 0) (k : Go p e below s T (mkF m (pc + 1) Ls (.int (x / y) :: rest)) Q kc ks) : Go p e below s T (mkF m pc Ls (.int y :: .int x :: rest)) Q kc ks :=
  Go.step (fun _ => XS.idiv X.here hx (g := mkF m pc Ls (.int y :: .int x :: rest)) rfl hd rfl hy) k
theorem Go.irem {x y : Int32} (X : Stand p l e R s m args below meth c T locs cells slots) (hx : p.tables.exec = Jvm.exec) (hd : decode c.code pc = .ok (.irem, 1)) (hy : y ≠ 0) (k : Go p e below s T (mkF m (pc + 1) Ls (.int (x % y) :: rest)) Q kc ks) : Go p e below s T (mkF m pc Ls (.int y :: .int x :: rest)) Q kc ks :=
  Go.step (fun _ => iremM X hx (g := mkF m pc Ls (.int y :: .int x :: rest)) rfl hd rfl hy) k
theorem Go.ladd {x y : Int64} (X : Stand p l e R s m args below meth c T locs cells slots) (hx : p.tables.exec = Jvm.exec) (hd : decode c.code pc = .ok (.ladd, 1)) (k : Go p e below s T (mkF m (pc + 1) Ls (.long (x + y) :: rest)) Q kc ks) : Go p e below s T (mkF m pc Ls (.long y :: .long x :: rest)) Q kc ks :=
  Go.step (fun _ => XT.ladd X.here hx (g := mkF m pc Ls (.long y :: .long x :: rest)) rfl hd rfl) k
theorem Go.lsub {x y : Int64} (X : Stand p l e R s m args below meth c T locs cells slots) (hx : p.tables.exec = Jvm.exec) (hd : decode c.code pc = .ok (.lsub, 1)) (k : Go p e below s T (mkF m (pc + 1) Ls (.long (x - y) :: rest)) Q kc ks) : Go p e below s T (mkF m pc Ls (.long y :: .long x :: rest)) Q kc ks :=
  Go.step (fun _ => XT.lsub X.here hx (g := mkF m pc Ls (.long y :: .long x :: rest)) rfl hd rfl) k
theorem Go.lmul {x y : Int64} (X : Stand p l e R s m args below meth c T locs cells slots) (hx : p.tables.exec = Jvm.exec) (hd : decode c.code pc = .ok (.lmul, 1)) (k : Go p e below s T (mkF m (pc + 1) Ls (.long (x * y) :: rest)) Q kc ks) : Go p e below s T (mkF m pc Ls (.long y :: .long x :: rest)) Q kc ks :=
  Go.step (fun _ => XT.lmul X.here hx (g := mkF m pc Ls (.long y :: .long x :: rest)) rfl hd rfl) k
theorem Go.land {x y : Int64} (X : Stand p l e R s m args below meth c T locs cells slots) (hx : p.tables.exec = Jvm.exec) (hd : decode c.code pc = .ok (.land, 1)) (k : Go p e below s T (mkF m (pc + 1) Ls (.long (x &&& y) :: rest)) Q kc ks) : Go p e below s T (mkF m pc Ls (.long y :: .long x :: rest)) Q kc ks :=
  Go.step (fun _ => XT.land X.here hx (g := mkF m pc Ls (.long y :: .long x :: rest)) rfl hd rfl) k
theorem Go.lor {x y : Int64} (X : Stand p l e R s m args below meth c T locs cells slots) (hx : p.tables.exec = Jvm.exec) (hd : decode c.code pc = .ok (.lor, 1)) (k : Go p e below s T (mkF m (pc + 1) Ls (.long (x ||| y) :: rest)) Q kc ks) : Go p e below s T (mkF m pc Ls (.long y :: .long x :: rest)) Q kc ks :=
  Go.step (fun _ => XT.lor X.here hx (g := mkF m pc Ls (.long y :: .long x :: rest)) rfl hd rfl) k
theorem Go.lxor {x y : Int64} (X : Stand p l e R s m args below meth c T locs cells slots) (hx : p.tables.exec = Jvm.exec) (hd : decode c.code pc = .ok (.lxor, 1)) (k : Go p e below s T (mkF m (pc + 1) Ls (.long (x ^^^ y) :: rest)) Q kc ks) : Go p e below s T (mkF m pc Ls (.long y :: .long x :: rest)) Q kc ks :=
  Go.step (fun _ => XT.lxor X.here hx (g := mkF m pc Ls (.long y :: .long x :: rest)) rfl hd rfl) k
theorem Go.lcmp {x y : Int64} (X : Stand p l e R s m args below meth c T locs cells slots) (hx : p.tables.exec = Jvm.exec) (hd : decode c.code pc = .ok (.lcmp, 1)) (k : Go p e below s T (mkF m (pc + 1) Ls (.int (XT.cmpL x y) :: rest)) Q kc ks) : Go p e below s T (mkF m pc Ls (.long y :: .long x :: rest)) Q kc ks :=
  Go.step (fun _ => XT.lcmp X.here hx (g := mkF m pc Ls (.long y :: .long x :: rest)) rfl hd rfl) k
theorem Go.lshl {x : Int64} {y : Int32} (X : Stand p l e R s m args below meth c T locs cells slots) (hx : p.tables.exec = Jvm.exec) (hd : decode c.code pc = .ok (.lshl, 1)) (k : Go p e below s T (mkF m (pc + 1) Ls (.long (x <<< (y.toInt64 &&& 63)) :: rest)) Q kc ks) : Go p e below s T (mkF m pc Ls (.int y :: .long x :: rest)) Q kc ks :=
  Go.step (fun _ => XT.lshl X.here hx (g := mkF m pc Ls (.int y :: .long x :: rest)) rfl hd rfl) k
theorem Go.lshr {x : Int64} {y : Int32} (X : Stand p l e R s m args below meth c T locs cells slots) (hx : p.tables.exec = Jvm.exec) (hd : decode c.code pc = .ok (.lshr, 1)) (k : Go p e below s T (mkF m (pc + 1) Ls (.long (x >>> (y.toInt64 &&& 63)) :: rest)) Q kc ks) : Go p e below s T (mkF m pc Ls (.int y :: .long x :: rest)) Q kc ks :=
  Go.step (fun _ => XT.lshr X.here hx (g := mkF m pc Ls (.int y :: .long x :: rest)) rfl hd rfl) k
theorem Go.lushr {x : Int64} {y : Int32} (X : Stand p l e R s m args below meth c T locs cells slots) (hx : p.tables.exec = Jvm.exec) (hd : decode c.code pc = .ok (.lushr, 1)) (k : Go p e below s T (mkF m (pc + 1) Ls (.long (XT.ushrL x y) :: rest)) Q kc ks) : Go p e below s T (mkF m pc Ls (.int y :: .long x :: rest)) Q kc ks :=
  Go.step (fun _ => XT.lushr X.here hx (g := mkF m pc Ls (.int y :: .long x :: rest)) rfl hd rfl) k
theorem Go.i2b {x : Int32} (X : Stand p l e R s m args below meth c T locs cells slots) (hx : p.tables.exec = Jvm.exec) (hd : decode c.code pc = .ok (.i2b, 1)) (k : Go p e below s T (mkF m (pc + 1) Ls (.int (x.toInt8.toInt32) :: rest)) Q kc ks) : Go p e below s T (mkF m pc Ls (.int x :: rest)) Q kc ks :=
  Go.step (fun _ => XT.i2b X.here hx (g := mkF m pc Ls (.int x :: rest)) rfl hd rfl) k
theorem Go.i2c {x : Int32} (X : Stand p l e R s m args below meth c T locs cells slots) (hx : p.tables.exec = Jvm.exec) (hd : decode c.code pc = .ok (.i2c, 1)) (k : Go p e below s T (mkF m (pc + 1) Ls (.int (x.toUInt32.toUInt16.toUInt32.toInt32) :: rest)) Q kc ks) : Go p e below s T (mkF m pc Ls (.int x :: rest)) Q kc ks :=
  Go.step (fun _ => XT.i2c X.here hx (g := mkF m pc Ls (.int x :: rest)) rfl hd rfl) k
theorem Go.i2s {x : Int32} (X : Stand p l e R s m args below meth c T locs cells slots) (hx : p.tables.exec = Jvm.exec) (hd : decode c.code pc = .ok (.i2s, 1)) (k : Go p e below s T (mkF m (pc + 1) Ls (.int (x.toInt16.toInt32) :: rest)) Q kc ks) : Go p e below s T (mkF m pc Ls (.int x :: rest)) Q kc ks :=
  Go.step (fun _ => XT.i2s X.here hx (g := mkF m pc Ls (.int x :: rest)) rfl hd rfl) k
theorem Go.i2l {x : Int32} (X : Stand p l e R s m args below meth c T locs cells slots) (hx : p.tables.exec = Jvm.exec) (hd : decode c.code pc = .ok (.i2l, 1)) (k : Go p e below s T (mkF m (pc + 1) Ls (.long (x.toInt64) :: rest)) Q kc ks) : Go p e below s T (mkF m pc Ls (.int x :: rest)) Q kc ks :=
  Go.step (fun _ => XT.i2l X.here hx (g := mkF m pc Ls (.int x :: rest)) rfl hd rfl) k
theorem Go.ineg {x : Int32} (X : Stand p l e R s m args below meth c T locs cells slots) (hx : p.tables.exec = Jvm.exec) (hd : decode c.code pc = .ok (.ineg, 1)) (k : Go p e below s T (mkF m (pc + 1) Ls (.int (-x) :: rest)) Q kc ks) : Go p e below s T (mkF m pc Ls (.int x :: rest)) Q kc ks :=
  Go.step (fun _ => XS.ineg X.here hx (g := mkF m pc Ls (.int x :: rest)) rfl hd rfl) k
theorem Go.l2i {x : Int64} (X : Stand p l e R s m args below meth c T locs cells slots) (hx : p.tables.exec = Jvm.exec) (hd : decode c.code pc = .ok (.l2i, 1)) (k : Go p e below s T (mkF m (pc + 1) Ls (.int (x.toInt32) :: rest)) Q kc ks) : Go p e below s T (mkF m pc Ls (.long x :: rest)) Q kc ks :=
  Go.step (fun _ => XT.l2i X.here hx (g := mkF m pc Ls (.long x :: rest)) rfl hd rfl) k
theorem Go.iconst {i : Int} (X : Stand p l e R s m args below meth c T locs cells slots) (hx : p.tables.exec = Jvm.exec) (hd : decode c.code pc = .ok (.iconst i, 1)) (k : Go p e below s T (mkF m (pc + 1) Ls (.int (Int32.ofInt i) :: rest)) Q kc ks) : Go p e below s T (mkF m pc Ls rest) Q kc ks :=
  Go.step (fun _ => XS.iconst X.here hx (g := mkF m pc Ls rest) rfl hd) k
theorem Go.bipush {i : Int} (X : Stand p l e R s m args below meth c T locs cells slots) (hx : p.tables.exec = Jvm.exec) (hd : decode c.code pc = .ok (.bipush i, 2)) (k : Go p e below s T (mkF m (pc + 2) Ls (.int (Int8.ofInt i).toInt32 :: rest)) Q kc ks) : Go p e below s T (mkF m pc Ls rest) Q kc ks :=
  Go.step (fun _ => XS.bipush X.here hx (g := mkF m pc Ls rest) rfl hd) k
theorem Go.sipush {i : Int} (X : Stand p l e R s m args below meth c T locs cells slots) (hx : p.tables.exec = Jvm.exec) (hd : decode c.code pc = .ok (.sipush i, 3)) (k : Go p e below s T (mkF m (pc + 3) Ls (.int (Int16.ofInt i).toInt32 :: rest)) Q kc ks) : Go p e below s T (mkF m pc Ls rest) Q kc ks :=
  Go.step (fun _ => XS.sipush X.here hx (g := mkF m pc Ls rest) rfl hd) k
theorem Go.lconst {k0 : Fin 2} (X : Stand p l e R s m args below meth c T locs cells slots) (hx : p.tables.exec = Jvm.exec) (hd : decode c.code pc = .ok (.lconst k0, 1)) (k : Go p e below s T (mkF m (pc + 1) Ls (.long (Int64.ofNat k0) :: rest)) Q kc ks) : Go p e below s T (mkF m pc Ls rest) Q kc ks :=
  Go.step (fun _ => XT.lconst X.here hx (g := mkF m pc Ls rest) rfl hd) k
theorem Go.aconst_null (X : Stand p l e R s m args below meth c T locs cells slots) (hx : p.tables.exec = Jvm.exec) (hd : decode c.code pc = .ok (.aconst_null, 1)) (k : Go p e below s T (mkF m (pc + 1) Ls (.null :: rest)) Q kc ks) : Go p e below s T (mkF m pc Ls rest) Q kc ks :=
  Go.step (fun _ => XS.aconstNull X.here hx (g := mkF m pc Ls rest) rfl hd) k
theorem Go.iload {k0 : Nat} {v : Int32} (X : Stand p l e R s m args below meth c T locs cells slots) (hx : p.tables.exec = Jvm.exec) (hd : decode c.code pc = .ok (.iload k0, 2)) (hl : Ls[k0]? = some (.val (.int v))) (k : Go p e below s T (mkF m (pc + 2) Ls (.int v :: rest)) Q kc ks) : Go p e below s T (mkF m pc Ls rest) Q kc ks :=
  Go.step (fun _ => XS.iload X.here hx (g := mkF m pc Ls rest) rfl hd hl) k
theorem Go.iloadN {k0 : Fin 4} {v : Int32} (X : Stand p l e R s m args below meth c T locs cells slots) (hx : p.tables.exec = Jvm.exec) (hd : decode c.code pc = .ok (.iload_n k0, 1)) (hl : Ls[k0.val]? = some (.val (.int v))) (k : Go p e below s T (mkF m (pc + 1) Ls (.int v :: rest)) Q kc ks) : Go p e below s T (mkF m pc Ls rest) Q kc ks :=
  Go.step (fun _ => XS.iloadN X.here hx (g := mkF m pc Ls rest) rfl hd hl) k
theorem Go.istore {k0 : Nat} {v : Int32} {l' : Array Slot} (X : Stand p l e R s m args below meth c T locs cells slots) (hx : p.tables.exec = Jvm.exec) (hd : decode c.code pc = .ok (.istore k0, 2)) (hl : storeLocals Ls k0 (.int v) = some l') (k : Go p e below s T (mkF m (pc + 2) l' rest) Q kc ks) : Go p e below s T (mkF m pc Ls (.int v :: rest)) Q kc ks :=
  Go.step (fun _ => XS.istore X.here hx (g := mkF m pc Ls (.int v :: rest)) rfl hd rfl hl) k
theorem Go.istoreN {k0 : Fin 4} {v : Int32} {l' : Array Slot} (X : Stand p l e R s m args below meth c T locs cells slots) (hx : p.tables.exec = Jvm.exec) (hd : decode c.code pc = .ok (.istore_n k0, 1)) (hl : storeLocals Ls k0.val (.int v) = some l') (k : Go p e below s T (mkF m (pc + 1) l' rest) Q kc ks) : Go p e below s T (mkF m pc Ls (.int v :: rest)) Q kc ks :=
  Go.step (fun _ => XS.istoreN X.here hx (g := mkF m pc Ls (.int v :: rest)) rfl hd rfl hl) k
theorem Go.lload {k0 : Nat} {v : Int64} (X : Stand p l e R s m args below meth c T locs cells slots) (hx : p.tables.exec = Jvm.exec) (hd : decode c.code pc = .ok (.lload k0, 2)) (hl : Ls[k0]? = some (.val (.long v))) (k : Go p e below s T (mkF m (pc + 2) Ls (.long v :: rest)) Q kc ks) : Go p e below s T (mkF m pc Ls rest) Q kc ks :=
  Go.step (fun _ => XT.lload X.here hx (g := mkF m pc Ls rest) rfl hd hl) k
theorem Go.lloadN {k0 : Fin 4} {v : Int64} (X : Stand p l e R s m args below meth c T locs cells slots) (hx : p.tables.exec = Jvm.exec) (hd : decode c.code pc = .ok (.lload_n k0, 1)) (hl : Ls[k0.val]? = some (.val (.long v))) (k : Go p e below s T (mkF m (pc + 1) Ls (.long v :: rest)) Q kc ks) : Go p e below s T (mkF m pc Ls rest) Q kc ks :=
  Go.step (fun _ => XT.lloadN X.here hx (g := mkF m pc Ls rest) rfl hd hl) k
theorem Go.lstore {k0 : Nat} {v : Int64} {l' : Array Slot} (X : Stand p l e R s m args below meth c T locs cells slots) (hx : p.tables.exec = Jvm.exec) (hd : decode c.code pc = .ok (.lstore k0, 2)) (hl : storeLocals Ls k0 (.long v) = some l') (k : Go p e below s T (mkF m (pc + 2) l' rest) Q kc ks) : Go p e below s T (mkF m pc Ls (.long v :: rest)) Q kc ks :=
  Go.step (fun _ => XT.lstore X.here hx (g := mkF m pc Ls (.long v :: rest)) rfl hd rfl hl) k
theorem Go.lstoreN {k0 : Fin 4} {v : Int64} {l' : Array Slot} (X : Stand p l e R s m args below meth c T locs cells slots) (hx : p.tables.exec = Jvm.exec) (hd : decode c.code pc = .ok (.lstore_n k0, 1)) (hl : storeLocals Ls k0.val (.long v) = some l') (k : Go p e below s T (mkF m (pc + 1) l' rest) Q kc ks) : Go p e below s T (mkF m pc Ls (.long v :: rest)) Q kc ks :=
  Go.step (fun _ => XT.lstoreN X.here hx (g := mkF m pc Ls (.long v :: rest)) rfl hd rfl hl) k
theorem Go.aload {k0 : Nat} {v : Value} (X : Stand p l e R s m args below meth c T locs cells slots) (hx : p.tables.exec = Jvm.exec) (hd : decode c.code pc = .ok (.aload k0, 2)) (hl : Ls[k0]? = some (.val v)) (hv : v.isRef = true) (k : Go p e below s T (mkF m (pc + 2) Ls (v :: rest)) Q kc ks) : Go p e below s T (mkF m pc Ls rest) Q kc ks :=
  Go.step (fun _ => XS.aload X.here hx (g := mkF m pc Ls rest) rfl hd hl hv) k
theorem Go.aloadN {k0 : Fin 4} {v : Value} (X : Stand p l e R s m args below meth c T locs cells slots) (hx : p.tables.exec = Jvm.exec) (hd : decode c.code pc = .ok (.aload_n k0, 1)) (hl : Ls[k0.val]? = some (.val v)) (hv : v.isRef = true) (k : Go p e below s T (mkF m (pc + 1) Ls (v :: rest)) Q kc ks) : Go p e below s T (mkF m pc Ls rest) Q kc ks :=
  Go.step (fun _ => XS.aloadN X.here hx (g := mkF m pc Ls rest) rfl hd hl hv) k
theorem Go.astore {k0 : Nat} {v : Value} {l' : Array Slot} (X : Stand p l e R s m args below meth c T locs cells slots) (hx : p.tables.exec = Jvm.exec) (hd : decode c.code pc = .ok (.astore k0, 2)) (hv : v.isRef = true) (hl : storeLocals Ls k0 v = some l') (k : Go p e below s T (mkF m (pc + 2) l' rest) Q kc ks) : Go p e below s T (mkF m pc Ls (v :: rest)) Q kc ks :=
  Go.step (fun _ => XS.astore X.here hx (g := mkF m pc Ls (v :: rest)) rfl hd rfl hv hl) k
theorem Go.astoreN {k0 : Fin 4} {v : Value} {l' : Array Slot} (X : Stand p l e R s m args below meth c T locs cells slots) (hx : p.tables.exec = Jvm.exec) (hd : decode c.code pc = .ok (.astore_n k0, 1)) (hv : v.isRef = true) (hl : storeLocals Ls k0.val v = some l') (k : Go p e below s T (mkF m (pc + 1) l' rest) Q kc ks) : Go p e below s T (mkF m pc Ls (v :: rest)) Q kc ks :=
  Go.step (fun _ => XS.astoreN X.here hx (g := mkF m pc Ls (v :: rest)) rfl hd rfl hv hl) k
theorem Go.iinc {k0 : Nat} {cst : Int} {x : Int32} {l' : Array Slot} (X : Stand p l e R s m args below meth c T locs cells slots) (hx : p.tables.exec = Jvm.exec) (hd : decode c.code pc = .ok (.iinc k0 cst, 3)) (hl : Ls[k0]? = some (.val (.int x))) (hs : storeLocals Ls k0 (.int (x + Int32.ofInt cst)) = some l') (k : Go p e below s T (mkF m (pc + 3) l' rest) Q kc ks) : Go p e below s T (mkF m pc Ls rest) Q kc ks :=
  Go.step (fun _ => XS.iinc X.here hx (g := mkF m pc Ls rest) rfl hd hl hs) k
theorem Go.dup {v : Value} (X : Stand p l e R s m args below meth c T locs cells slots) (hx : p.tables.exec = Jvm.exec) (hd : decode c.code pc = .ok (.dup, 1)) (hv : v.category = 1) (k : Go p e below s T (mkF m (pc + 1) Ls (v :: v :: rest)) Q kc ks) : Go p e below s T (mkF m pc Ls (v :: rest)) Q kc ks :=
  Go.step (fun _ => XS.dup X.here hx (g := mkF m pc Ls (v :: rest)) rfl hd rfl hv) k
theorem Go.pop {v : Value} (X : Stand p l e R s m args below meth c T locs cells slots) (hx : p.tables.exec = Jvm.exec) (hd : decode c.code pc = .ok (.pop, 1)) (hv : v.category = 1) (k : Go p e below s T (mkF m (pc + 1) Ls rest) Q kc ks) : Go p e below s T (mkF m pc Ls (v :: rest)) Q kc ks :=
  Go.step (fun _ => XT.pop X.here hx (g := mkF m pc Ls (v :: rest)) rfl hd rfl hv) k
theorem Go.dup_x1 {v w : Value} (X : Stand p l e R s m args below meth c T locs cells slots) (hx : p.tables.exec = Jvm.exec) (hd : decode c.code pc = .ok (.dup_x1, 1)) (hv : v.category = 1) (hw' : w.category = 1) (k : Go p e below s T (mkF m (pc + 1) Ls (v :: w :: v :: rest)) Q kc ks) : Go p e below s T (mkF m pc Ls (v :: w :: rest)) Q kc ks :=
  Go.step (fun _ => XT.dupX1 X.here hx (g := mkF m pc Ls (v :: w :: rest)) rfl hd rfl hv hw') k
theorem Go.dup2 {v w : Value} (X : Stand p l e R s m args below meth c T locs cells slots) (hx : p.tables.exec = Jvm.exec) (hd : decode c.code pc = .ok (.dup2, 1)) (hv : v.category = 1) (hw' : w.category = 1) (k : Go p e below s T (mkF m (pc + 1) Ls (v :: w :: v :: w :: rest)) Q kc ks) : Go p e below s T (mkF m pc Ls (v :: w :: rest)) Q kc ks :=
  Go.step (fun _ => XT.dup2 X.here hx (g := mkF m pc Ls (v :: w :: rest)) rfl hd rfl hv hw') k
theorem Go.goto {o : Int} {pc' : Nat} (X : Stand p l e R s m args below meth c T locs cells slots) (hx : p.tables.exec = Jvm.exec) (hd : decode c.code pc = .ok (.goto o, 3)) (ho : 0 ≤ (pc : Int) + o) (hp : ((pc : Int) + o).toNat = pc') (k : Go p e below s T (mkF m pc' Ls rest) Q kc ks) : Go p e below s T (mkF m pc Ls rest) Q kc ks :=
  Go.step (fun _ => XS.goto X.here hx (g := mkF m pc Ls rest) rfl rfl hd ho hp) k
theorem Go.ifYes {cd : ClassFile.Cond} {x : Int32} {o : Int} {pc' : Nat} (X : Stand p l e R s m args below meth c T locs cells slots) (hx : p.tables.exec = Jvm.exec) (hd : decode c.code pc = .ok (.ifCond cd o, 3)) (hc : ifCond.holds cd x = true) (ho : 0 ≤ (pc : Int) + o) (hp : ((pc : Int) + o).toNat = pc') (k : Go p e below s T (mkF m pc' Ls rest) Q kc ks) : Go p e below s T (mkF m pc Ls (.int x :: rest)) Q kc ks :=
  Go.step (fun _ => XS.ifYes X.here hx (g := mkF m pc Ls (.int x :: rest)) rfl rfl hd rfl hc ho hp) k
theorem Go.ifNo {cd : ClassFile.Cond} {x : Int32} {o : Int} (X : Stand p l e R s m args below meth c T locs cells slots) (hx : p.tables.exec = Jvm.exec) (hd : decode c.code pc = .ok (.ifCond cd o, 3)) (hc : ifCond.holds cd x = false) (k : Go p e below s T (mkF m (pc + 3) Ls rest) Q kc ks) : Go p e below s T (mkF m pc Ls (.int x :: rest)) Q kc ks :=
  Go.step (fun _ => XS.ifNo X.here hx (g := mkF m pc Ls (.int x :: rest)) rfl hd rfl hc) k
theorem Go.icmpYes {cd : ClassFile.Cond} {x y : Int32} {o : Int} {pc' : Nat} (X : Stand p l e R s m args below meth c T locs cells slots) (hx : p.tables.exec = Jvm.exec) (hd : decode c.code pc = .ok (.if_icmp cd o, 3)) (hc : if_icmp.holds cd x y = true) (ho : 0 ≤ (pc : Int) + o) (hp : ((pc : Int) + o).toNat = pc') (k : Go p e below s T (mkF m pc' Ls rest) Q kc ks) : Go p e below s T (mkF m pc Ls (.int y :: .int x :: rest)) Q kc ks :=
  Go.step (fun _ => XS.icmpYes X.here hx (g := mkF m pc Ls (.int y :: .int x :: rest)) rfl rfl hd rfl hc ho hp) k
theorem Go.icmpNo {cd : ClassFile.Cond} {x y : Int32} {o : Int} (X : Stand p l e R s m args below meth c T locs cells slots) (hx : p.tables.exec = Jvm.exec) (hd : decode c.code pc = .ok (.if_icmp cd o, 3)) (hc : if_icmp.holds cd x y = false) (k : Go p e below s T (mkF m (pc + 3) Ls rest) Q kc ks) : Go p e below s T (mkF m pc Ls (.int y :: .int x :: rest)) Q kc ks :=
  Go.step (fun _ => XS.icmpNo X.here hx (g := mkF m pc Ls (.int y :: .int x :: rest)) rfl hd rfl hc) k
theorem Go.acmpYes {cd : ClassFile.ACond} {x y : Value} {o : Int} {pc' : Nat} (X : Stand p l e R s m args below meth c T locs cells slots) (hx : p.tables.exec = Jvm.exec) (hd : decode c.code pc = .ok (.if_acmp cd o, 3)) (h1 : x.isRef = true) (h2 : y.isRef = true) (hc : XT.acmp cd x y = true) (ho : 0 ≤ (pc : Int) + o) (hp : ((pc : Int) + o).toNat = pc') (k : Go p e below s T (mkF m pc' Ls rest) Q kc ks) : Go p e below s T (mkF m pc Ls (y :: x :: rest)) Q kc ks :=
  Go.step (fun _ => XT.acmpYes X.here hx (g := mkF m pc Ls (y :: x :: rest)) rfl rfl hd rfl h1 h2 hc ho hp) k
theorem Go.acmpNo {cd : ClassFile.ACond} {x y : Value} {o : Int} (X : Stand p l e R s m args below meth c T locs cells slots) (hx : p.tables.exec = Jvm.exec) (hd : decode c.code pc = .ok (.if_acmp cd o, 3)) (h1 : x.isRef = true) (h2 : y.isRef = true) (hc : XT.acmp cd x y = false) (k : Go p e below s T (mkF m (pc + 3) Ls rest) Q kc ks) : Go p e below s T (mkF m pc Ls (y :: x :: rest)) Q kc ks :=
  Go.step (fun _ => XT.acmpNo X.here hx (g := mkF m pc Ls (y :: x :: rest)) rfl hd rfl h1 h2 hc) k
theorem Go.ifnullYes {a : Addr} {o : Int} {pc' : Nat} (X : Stand p l e R s m args below meth c T locs cells slots) (hx : p.tables.exec = Jvm.exec) (hd : decode c.code pc = .ok (.ifnull o, 3)) (ho : 0 ≤ (pc : Int) + o) (hp : ((pc : Int) + o).toNat = pc') (k : Go p e below s T (mkF m pc' Ls rest) Q kc ks) : Go p e below s T (mkF m pc Ls (.null :: rest)) Q kc ks :=
  Go.step (fun _ => XS.ifnullYes X.here hx (g := mkF m pc Ls (.null :: rest)) rfl rfl hd rfl ho hp) k
theorem Go.ifnullNo {a : Addr} {o : Int} (X : Stand p l e R s m args below meth c T locs cells slots) (hx : p.tables.exec = Jvm.exec) (hd : decode c.code pc = .ok (.ifnull o, 3)) (k : Go p e below s T (mkF m (pc + 3) Ls rest) Q kc ks) : Go p e below s T (mkF m pc Ls (.ref a :: rest)) Q kc ks :=
  Go.step (fun _ => XS.ifnullNo X.here hx (g := mkF m pc Ls (.ref a :: rest)) rfl hd rfl) k
theorem Go.ifnonnullYes {a : Addr} {o : Int} {pc' : Nat} (X : Stand p l e R s m args below meth c T locs cells slots) (hx : p.tables.exec = Jvm.exec) (hd : decode c.code pc = .ok (.ifnonnull o, 3)) (ho : 0 ≤ (pc : Int) + o) (hp : ((pc : Int) + o).toNat = pc') (k : Go p e below s T (mkF m pc' Ls rest) Q kc ks) : Go p e below s T (mkF m pc Ls (.ref a :: rest)) Q kc ks :=
  Go.step (fun _ => XT.ifnonnullYes X.here hx (g := mkF m pc Ls (.ref a :: rest)) rfl rfl hd rfl ho hp) k
theorem Go.ifnonnullNo {a : Addr} {o : Int} (X : Stand p l e R s m args below meth c T locs cells slots) (hx : p.tables.exec = Jvm.exec) (hd : decode c.code pc = .ok (.ifnonnull o, 3)) (k : Go p e below s T (mkF m (pc + 3) Ls rest) Q kc ks) : Go p e below s T (mkF m pc Ls (.null :: rest)) Q kc ks :=
  Go.step (fun _ => XT.ifnonnullNo X.here hx (g := mkF m pc Ls (.null :: rest)) rfl hd rfl) k
end Steps
section Conds
variable {x y : Int32} {u v : Int64} {a b : Addr}
theorem ac_eq_p (h : a = b) : XT.acmp .eq (.ref a) (.ref b) = true := by simp [XT.acmp, h]
theorem ac_eq_n (h : ¬ a = b) : XT.acmp .eq (.ref a) (.ref b) = false := by simp [XT.acmp, h]
theorem ac_ne_p (h : a = b) : XT.acmp .ne (.ref a) (.ref b) = false := by simp [XT.acmp, h]
theorem ac_ne_n (h : ¬ a = b) : XT.acmp .ne (.ref a) (.ref b) = true := by simp [XT.acmp, h]
end Conds
end Jvm.OwnK
namespace Jvm.OwnK
open Sem ClassFile Op Lib Jvm.Free Jvm.Stand Jvm.LawKit Jvm.RoadKit
section Heap
variable {p : Program} {l : Launch} {e : Env} {R : Room} {s : State} {m : MethodId} {args : Array Value} {below : List Frame} {meth : Method} {c : Code} {T T' : State} {locs : List Loc} {cells slots : Nat} {Q : Option Value → Heap → List Loc → Prop} {kc ks : Nat} {Z : State} {a0 : Array Value} {h h' : Heap} {pc : Nat} {Ls : Array Slot} {rest : List Value}
theorem Go.getF {own R0 O n d : String} {index : Nat} {a : Addr} {v : Value} (X : Stand p l e R s m args below meth c T locs cells slots) (hx : p.tables.exec = Jvm.exec) (hZ : Z.Warmed39 s.vm) (hown : s.vm.findClass own = some m.cls) (w : (Jvm.Cond.fieldLink own index R0 n d).before a0 Z = true) (via : Via Z R0 O n d) (eT : T.heap = h) (F : Fld Z h a O n d v) (hd : decode c.code pc = .ok (.getfield index, 3))
    (k : ∀ T', Stand p l e R s m args below meth c T' locs cells slots → T'.heap = h → Go p e below s T' (mkF m (pc + 3) Ls (v :: rest)) Q kc ks) : Go p e below s T (mkF m pc Ls (.ref a :: rest)) Q kc ks := by
  obtain ⟨T', X', e', st⟩ := RoadKit.getF X hx hZ hown (host := "") (Or.inl w) via eT F (g := mkF m pc Ls (.ref a :: rest)) rfl rfl hd
  exact Go.step st (k T' X' e')
theorem Go.getS {own R0 O n d : String} {index : Nat} {v : Value} (X : Stand p l e R s m args below meth c T locs cells slots) (hx : p.tables.exec = Jvm.exec) (hZ : Z.Warmed39 s.vm) (hown : s.vm.findClass own = some m.cls) (w : (Jvm.Cond.fieldLink own index R0 n d).before a0 Z = true) (via : Via Z R0 O n d) (eT : T.heap = h) (F : Sta Z h O n d v) (hd : decode c.code pc = .ok (.getstatic index, 3))
    (k : ∀ T', Stand p l e R s m args below meth c T' locs cells slots → T'.heap = h → Go p e below s T' (mkF m (pc + 3) Ls (v :: rest)) Q kc ks) : Go p e below s T (mkF m pc Ls rest) Q kc ks := by
  obtain ⟨T', X', e', st⟩ := RoadKit.getS X hx hZ hown (host := "") w via eT F (g := mkF m pc Ls rest) rfl hd
  exact Go.step st (k T' X' e')
theorem Go.putF {own R0 O n d C : String} {index kk : Nat} {ty : FieldType} {a : Addr} {v old : Value} (X : Stand p l e R s m args below meth c T locs cells slots) (hx : p.tables.exec = Jvm.exec) (hZ : Z.Warmed39 s.vm) (hown : s.vm.findClass own = some m.cls) (w : (Jvm.Cond.fieldLink own index R0 n d).before a0 Z = true) (via : Via Z R0 O n d) (eT : T.heap = h) (F : Fld Z h a O n d old) (E : Exa Z h a C)
    (L : (Jvm.Cond.lays C O n d).before a0 Z = true ∨ ((Jvm.Cond.laysFinal C O n d).before a0 Z = true ∧ own = O ∧ meth.name = "<init>")) (wi : (Jvm.Cond.instantiable C kk).before a0 Z = true) (hty : parseFieldDescriptor d = some ty) (hn : narrow ty v = v) (hf : fits ty v = true) (hd : decode c.code pc = .ok (.putfield index, 3))
    (k : ∀ T' h', Stand p l e R s m args below meth c T' (locs ++ [⟨a, Jvm.RoadKit.slotOf Z O n d⟩]) cells slots → T'.heap = h' → Wr h h' a (Jvm.RoadKit.slotOf Z O n d) v → Go p e below s T' (mkF m (pc + 3) Ls rest) Q kc ks) : Go p e below s T (mkF m pc Ls (v :: .ref a :: rest)) Q kc ks := by
  obtain ⟨T', h', X', e', W, st⟩ := RoadKit.putF X hx hZ hown (host := "") (Or.inl w) via eT F E L wi hty hn hf (g := mkF m pc Ls (v :: .ref a :: rest)) rfl rfl hd
  exact Go.step st (k T' h' X' e' W)
theorem Go.initO {own : String} {idx : Nat} {W : Nat} {a : Addr} (X : Stand p l e R s m args below meth c T locs cells slots) (hx : p.tables.exec = Jvm.exec) (hZ : Z.Warmed39 s.vm) (hown : s.vm.findClass own = some m.cls) (w1 : (Jvm.Cond.methodLink own idx Lib.objectInit).before a0 Z = true) (w2 : (Jvm.Cond.instanceMethod Lib.objectInit).before a0 Z = true)
    (w3 : (Jvm.Cond.code Lib.objectInit ⟨#[0xb1]⟩ 1 none).before a0 Z = true) (eT : T.heap = h) (hd : decode c.code pc = .ok (.invokespecial idx, 3)) (hsize : Ls.size = c.maxLocals) (hW : (rest.map fun v => v.category).sum ≤ W) (hf : 1 ≤ R.frames) (hl : W + 12 ≤ R.locals)
    (k : ∀ T', Stand p l e R s m args below meth c T' locs cells slots → T'.heap = h → Go p e below s T' (mkF m (pc + 3) Ls rest) Q kc ks) : Go p e below s T (mkF m pc Ls (.ref a :: rest)) Q kc ks := by
  obtain ⟨T', X', e', st⟩ := RoadKit.initO X hx hZ hown w1 w2 w3 eT (g := mkF m pc Ls (.ref a :: rest)) rfl hsize rfl hd hf (W := W) (by show 2 * 0 + _ ≤ _; omega) hl
  exact Go.step st (k T' X' e')
theorem Go.newO {own C : String} {index n : Nat} (X : Stand p l e R s m args below meth c T locs cells slots) (hx : p.tables.exec = Jvm.exec) (hZ : Z.Warmed39 s.vm) (hown : s.vm.findClass own = some m.cls) (w : (Jvm.Cond.classLink own index C).before a0 Z = true) (wi : (Jvm.Cond.instantiable C n).before a0 Z = true) (wz : (Jvm.Cond.initialized C).before a0 Z = true) (eT : T.heap = h)
    (hd : decode c.code pc = .ok (.new index, 3)) (hc : cells + 1 ≤ R.cells) (hl : slots + n ≤ R.slots)
    (k : ∀ T' h' a, a = h.size → Stand p l e R s m args below meth c T' locs (cells + 1) (slots + n) → T'.heap = h' → Ext h h' → Exa Z h' a C → (∀ {O nm d : String} {ty : FieldType}, Laid Z a0 C O nm d → parseFieldDescriptor d = some ty → Fld Z h' a O nm d (defaultValue ty)) →
      Go p e below s T' (mkF m (pc + 3) Ls (.ref a :: rest)) Q kc ks) : Go p e below s T (mkF m pc Ls rest) Q kc ks := by
  obtain ⟨T', h', X', e', E, A, D, -, st⟩ := RoadKit.newO X hx hZ hown w wi wz eT (g := mkF m pc Ls rest) rfl hd hc hl
  exact Go.step st (k T' h' _ rfl X' e' E A D)
theorem Go.ccast {own K : String} {index : Nat} {a : Addr} (X : Stand p l e R s m args below meth c T locs cells slots) (hx : p.tables.exec = Jvm.exec) (hZ : Z.Warmed39 s.vm) (hown : s.vm.findClass own = some m.cls) (w : (Jvm.Cond.classLink own index K).before a0 Z = true) (eT : T.heap = h) (F : Ins Z h a K true) (hd : decode c.code pc = .ok (.checkcast index, 3))
    (k : ∀ T', Stand p l e R s m args below meth c T' locs cells slots → T'.heap = h → Go p e below s T' (mkF m (pc + 3) Ls (.ref a :: rest)) Q kc ks) : Go p e below s T (mkF m pc Ls (.ref a :: rest)) Q kc ks := by
  obtain ⟨T', X', e', st⟩ := castY X hx hZ hown w eT F (g := mkF m pc Ls (.ref a :: rest)) rfl rfl hd
  exact Go.step st (k T' X' e')
theorem Go.instY {own K : String} {index : Nat} {a : Addr} (X : Stand p l e R s m args below meth c T locs cells slots) (hx : p.tables.exec = Jvm.exec) (hZ : Z.Warmed39 s.vm) (hown : s.vm.findClass own = some m.cls) (w : (Jvm.Cond.classLink own index K).before a0 Z = true) (eT : T.heap = h) (F : Ins Z h a K true) (hd : decode c.code pc = .ok (.instanceof index, 3))
    (k : ∀ T', Stand p l e R s m args below meth c T' locs cells slots → T'.heap = h → Go p e below s T' (mkF m (pc + 3) Ls (.int 1 :: rest)) Q kc ks) : Go p e below s T (mkF m pc Ls (.ref a :: rest)) Q kc ks := by
  obtain ⟨T', X', e', st⟩ := RoadKit.instY X hx hZ hown w eT F (g := mkF m pc Ls (.ref a :: rest)) rfl rfl hd
  exact Go.step st (k T' X' e')
theorem Go.instNull {index : Nat} (X : Stand p l e R s m args below meth c T locs cells slots) (hx : p.tables.exec = Jvm.exec) (hd : decode c.code pc = .ok (.instanceof index, 3))
    (k : Go p e below s T (mkF m (pc + 3) Ls (.int 0 :: rest)) Q kc ks) : Go p e below s T (mkF m pc Ls (.null :: rest)) Q kc ks :=
  Go.step (X.instanceofNull hx (g := mkF m pc Ls (.null :: rest)) rfl rfl hd) k
theorem Go.instNo {own K C : String} {index : Nat} {a : Addr} (X : Stand p l e R s m args below meth c T locs cells slots) (hx : p.tables.exec = Jvm.exec) (hZ : Z.Warmed39 s.vm) (hown : s.vm.findClass own = some m.cls) (w : (Jvm.Cond.classLink own index K).before a0 Z = true) (eT : T.heap = h) (E : Exa Z h a C) (F : ∃ c t, Z.vm.findClass C = some c ∧ Z.vm.findClass K = some t ∧ Z.vm.assignable c t = false) (hd : decode c.code pc = .ok (.instanceof index, 3))
    (k : ∀ T', Stand p l e R s m args below meth c T' locs cells slots → T'.heap = h → Go p e below s T' (mkF m (pc + 3) Ls (.int 0 :: rest)) Q kc ks) : Go p e below s T (mkF m pc Ls (.ref a :: rest)) Q kc ks := by
  obtain ⟨T', X', e', st⟩ := RoadKit.instNo X hx hZ hown w eT E F (g := mkF m pc Ls (.ref a :: rest)) rfl rfl hd
  exact Go.step st (k T' X' e')
/-- an array: its class, length n, its component i is f i -/
def Af (Z : State) (h : Heap) (a : Addr) (k : ClassId) (ty : FieldType) (n : Nat) (f : Nat → Value) : Prop := ∃ c : Cell, Arr Z h a c ty ∧ c.cls = k ∧ c.slots.size = n ∧ n < 2 ^ 31 ∧ ∀ i, i < n → c.slots[i]? = some (f i)
def updV (f : Nat → Value) (j : Nat) (v : Value) : Nat → Value := fun i => if i = j then v else f i
variable {a b : Addr} {cid : ClassId} {ty : FieldType} {n : Nat} {f f' : Nat → Value} {ws : List Addr} {sl : Nat} {v : Value}
theorem Af.lt (F : Af Z h a cid ty n f) : a < h.size := by obtain ⟨_, A, -⟩ := F; exact A.lt
theorem Af.ext (E : Ext h h') (F : Af Z h a cid ty n f) : Af Z h' a cid ty n f := by obtain ⟨cl, A, r⟩ := F; exact ⟨cl, A.ext E, r⟩
theorem Af.other (W : Wr h h' b sl v) (F : Af Z h a cid ty n f) (q : a ≠ b) : Af Z h' a cid ty n f := by obtain ⟨cl, A, r⟩ := F; exact ⟨cl, A.other W q, r⟩
theorem Af.keep (F : Af Z h a cid ty n f) (K : Keep h h' ws) (q : a ∉ ws) : Af Z h' a cid ty n f := by obtain ⟨cl, A, r⟩ := F; exact ⟨cl, ⟨K.2.1 a cl A.1 q, A.2⟩, r⟩
theorem Af.congr (F : Af Z h a cid ty n f) (q : ∀ i, i < n → f' i = f i) : Af Z h a cid ty n f' := by obtain ⟨cl, A, r1, r2, r3, r4⟩ := F; exact ⟨cl, A, r1, r2, r3, fun i hi => by rw [q i hi]; exact r4 i hi⟩
theorem Af.set (F : Af Z h a cid ty n f) (W : Wr h h' a sl v) : Af Z h' a cid ty n (updV f sl v) := by
  obtain ⟨cl, A, r1, r2, r3, r4⟩ := F
  refine ⟨_, A.same W, r1, by rw [sz_set]; exact r2, r3, fun i hi => ?_⟩
  by_cases q : i = sl
  · subst q; simp [updV, Cell.setSlot, r2, hi]
  · simp only [updV, if_neg q]; rw [← r4 i hi]; simp [Cell.setSlot, Array.getElem?_setIfInBounds, Ne.symm q]
theorem Af.arv (A : Arr Z h a (newA cid ty z) ty) (q : ¬ z < 0) : Af Z h a cid ty z.toNatClampNeg (fun _ => defaultValue ty) :=
  ⟨_, A, rfl, sz_new _ _ _, by have := (back32 q).2; exact this, fun i hi => by simp [newA, hi]⟩
def updI (g : Nat → Int32) (j : Nat) (v : Int32) : Nat → Int32 := fun i => if i = j then v else g i
def updJ (g : Nat → Int64) (j : Nat) (v : Int64) : Nat → Int64 := fun i => if i = j then v else g i
theorem Af.updI {g : Nat → Int32} {j : Nat} {x : Int32} (A : Af Z h a cid ty n (updV (fun i => Value.int (g i)) j (.int x))) : Af Z h a cid ty n (fun i => Value.int (Jvm.OwnK.updI g j x i)) :=
  A.congr fun i _ => by simp only [Jvm.OwnK.updI, updV]; split <;> rfl
theorem Af.updJ {g : Nat → Int64} {j : Nat} {x : Int64} (A : Af Z h a cid ty n (updV (fun i => Value.long (g i)) j (.long x))) : Af Z h a cid ty n (fun i => Value.long (Jvm.OwnK.updJ g j x i)) :=
  A.congr fun i _ => by simp only [Jvm.OwnK.updJ, updV]; split <;> rfl
theorem in_of {cl : Cell} {j : Int32} (r2 : cl.slots.size = n) (h1 : ¬ j < 0) (h2 : j.toNatClampNeg < n) : ¬ (j < 0 ∨ cl.slots.size ≤ j.toNatClampNeg) := fun q => q.elim h1 fun z => by omega
theorem Go.alen (X : Stand p l e R s m args below meth c T locs cells slots) (hx : p.tables.exec = Jvm.exec) (hZ : Z.Warmed39 s.vm) (eT : T.heap = h) (A : Af Z h a cid ty n f) (hd : decode c.code pc = .ok (.arraylength, 1)) (k : Go p e below s T (mkF m (pc + 1) Ls (.int n.toInt32 :: rest)) Q kc ks) : Go p e below s T (mkF m pc Ls (.ref a :: rest)) Q kc ks := by
  obtain ⟨cl, A1, -, r2, -⟩ := A
  subst r2
  exact Go.step (fun target => X.arraylength hx (by rw [eT]; exact A1.1) (State.isArrayOf_alike hZ.alike A1.2.1) (g := mkF m pc Ls (.ref a :: rest)) rfl rfl hd target) k
theorem Go.iaload {j : Int32} (X : Stand p l e R s m args below meth c T locs cells slots) (hx : p.tables.exec = Jvm.exec) (hZ : Z.Warmed39 s.vm) (eT : T.heap = h) (A : Af Z h a cid .int n f) (h1 : ¬ j < 0) (h2 : j.toNatClampNeg < n) (hd : decode c.code pc = .ok (.iaload, 1)) (k : Go p e below s T (mkF m (pc + 1) Ls (f j.toNatClampNeg :: rest)) Q kc ks) : Go p e below s T (mkF m pc Ls (.int j :: .ref a :: rest)) Q kc ks := by
  obtain ⟨cl, A1, -, r2, -, r4⟩ := A
  exact Go.step (fun target => X.iaload hx (by rw [eT]; exact A1.1) (State.isArrayOf_alike hZ.alike A1.2.1) A1.2.2 (in_of r2 h1 h2) (r4 _ h2) (g := mkF m pc Ls (.int j :: .ref a :: rest)) rfl rfl hd target) k
theorem Go.laload {j : Int32} (X : Stand p l e R s m args below meth c T locs cells slots) (hx : p.tables.exec = Jvm.exec) (hZ : Z.Warmed39 s.vm) (eT : T.heap = h) (A : Af Z h a cid .long n f) (h1 : ¬ j < 0) (h2 : j.toNatClampNeg < n) (hd : decode c.code pc = .ok (.laload, 1)) (k : Go p e below s T (mkF m (pc + 1) Ls (f j.toNatClampNeg :: rest)) Q kc ks) : Go p e below s T (mkF m pc Ls (.int j :: .ref a :: rest)) Q kc ks := by
  obtain ⟨cl, A1, -, r2, -, r4⟩ := A
  exact Go.step (fun target => X.laload hx (by rw [eT]; exact A1.1) (State.isArrayOf_alike hZ.alike A1.2.1) A1.2.2 (in_of r2 h1 h2) (r4 _ h2) (g := mkF m pc Ls (.int j :: .ref a :: rest)) rfl rfl hd target) k
theorem Go.caload {j : Int32} (X : Stand p l e R s m args below meth c T locs cells slots) (hx : p.tables.exec = Jvm.exec) (hZ : Z.Warmed39 s.vm) (eT : T.heap = h) (A : Af Z h a cid .char n f) (h1 : ¬ j < 0) (h2 : j.toNatClampNeg < n) (hd : decode c.code pc = .ok (.caload, 1)) (k : Go p e below s T (mkF m (pc + 1) Ls (f j.toNatClampNeg :: rest)) Q kc ks) : Go p e below s T (mkF m pc Ls (.int j :: .ref a :: rest)) Q kc ks := by
  obtain ⟨cl, A1, -, r2, -, r4⟩ := A
  exact Go.step (fun target => X.caload hx (by rw [eT]; exact A1.1) (State.isArrayOf_alike hZ.alike A1.2.1) A1.2.2 (in_of r2 h1 h2) (r4 _ h2) (g := mkF m pc Ls (.int j :: .ref a :: rest)) rfl rfl hd target) k
theorem Go.aaload {j : Int32} (X : Stand p l e R s m args below meth c T locs cells slots) (hx : p.tables.exec = Jvm.exec) (hZ : Z.Warmed39 s.vm) (eT : T.heap = h) (A : Af Z h a cid ty n f) (hty : ty.isReference = true) (h1 : ¬ j < 0) (h2 : j.toNatClampNeg < n) (hd : decode c.code pc = .ok (.aaload, 1)) (k : Go p e below s T (mkF m (pc + 1) Ls (f j.toNatClampNeg :: rest)) Q kc ks) : Go p e below s T (mkF m pc Ls (.int j :: .ref a :: rest)) Q kc ks := by
  obtain ⟨cl, A1, -, r2, -, r4⟩ := A
  exact Go.step (fun target => X.aaload hx (by rw [eT]; exact A1.1) (State.isArrayOf_alike hZ.alike A1.2.1) hty A1.2.2 (in_of r2 h1 h2) (r4 _ h2) (g := mkF m pc Ls (.int j :: .ref a :: rest)) rfl rfl hd target) k
theorem Go.baloadB {j : Int32} (X : Stand p l e R s m args below meth c T locs cells slots) (hx : p.tables.exec = Jvm.exec) (hZ : Z.Warmed39 s.vm) (eT : T.heap = h) (A : Af Z h a cid .byte n f) (h1 : ¬ j < 0) (h2 : j.toNatClampNeg < n) (hd : decode c.code pc = .ok (.baload, 1)) (k : Go p e below s T (mkF m (pc + 1) Ls (f j.toNatClampNeg :: rest)) Q kc ks) : Go p e below s T (mkF m pc Ls (.int j :: .ref a :: rest)) Q kc ks := by
  obtain ⟨cl, A1, -, r2, -, r4⟩ := A
  exact Go.step (fun target => X.baloadBytes hx (by rw [eT]; exact A1.1) (State.isArrayOf_alike hZ.alike A1.2.1) A1.2.2 (in_of r2 h1 h2) (r4 _ h2) (g := mkF m pc Ls (.int j :: .ref a :: rest)) rfl rfl hd target) k
theorem Go.baloadZ {j : Int32} (X : Stand p l e R s m args below meth c T locs cells slots) (hx : p.tables.exec = Jvm.exec) (hZ : Z.Warmed39 s.vm) (eT : T.heap = h) (A : Af Z h a cid .boolean n f) (h1 : ¬ j < 0) (h2 : j.toNatClampNeg < n) (hd : decode c.code pc = .ok (.baload, 1)) (k : Go p e below s T (mkF m (pc + 1) Ls (f j.toNatClampNeg :: rest)) Q kc ks) : Go p e below s T (mkF m pc Ls (.int j :: .ref a :: rest)) Q kc ks := by
  obtain ⟨cl, A1, -, r2, -, r4⟩ := A
  exact Go.step (fun target => X.baloadBooleans hx (by rw [eT]; exact A1.1) (State.isArrayOf_alike hZ.alike A1.2.1) A1.2.2 (in_of r2 h1 h2) (r4 _ h2) (g := mkF m pc Ls (.int j :: .ref a :: rest)) rfl rfl hd target) k
theorem Go.iastore {j x : Int32} (X : Stand p l e R s m args below meth c T locs cells slots) (hx : p.tables.exec = Jvm.exec) (hZ : Z.Warmed39 s.vm) (eT : T.heap = h) (A : Af Z h a cid .int n f) (h1 : ¬ j < 0) (h2 : j.toNatClampNeg < n) (hd : decode c.code pc = .ok (.iastore, 1))
    (k : ∀ T' h', Stand p l e R s m args below meth c T' (locs ++ [⟨a, j.toNatClampNeg⟩]) cells slots → T'.heap = h' → Wr h h' a j.toNatClampNeg (.int x) → Af Z h' a cid .int n (updV f j.toNatClampNeg (.int x)) → Go p e below s T' (mkF m (pc + 1) Ls rest) Q kc ks) : Go p e below s T (mkF m pc Ls (.int x :: .int j :: .ref a :: rest)) Q kc ks := by
  have A' := A
  obtain ⟨cl, A1, -, r2, -, r4⟩ := A
  obtain ⟨T', h', X', e', W, st⟩ := stI X hx hZ eT A1 (in_of r2 h1 h2) (g := mkF m pc Ls (.int x :: .int j :: .ref a :: rest)) rfl rfl hd
  exact Go.step st (k T' h' X' e' W (A'.set W))
theorem Go.lastore {j : Int32} {x : Int64} (X : Stand p l e R s m args below meth c T locs cells slots) (hx : p.tables.exec = Jvm.exec) (hZ : Z.Warmed39 s.vm) (eT : T.heap = h) (A : Af Z h a cid .long n f) (h1 : ¬ j < 0) (h2 : j.toNatClampNeg < n) (hd : decode c.code pc = .ok (.lastore, 1))
    (k : ∀ T' h', Stand p l e R s m args below meth c T' (locs ++ [⟨a, j.toNatClampNeg⟩]) cells slots → T'.heap = h' → Wr h h' a j.toNatClampNeg (.long x) → Af Z h' a cid .long n (updV f j.toNatClampNeg (.long x)) → Go p e below s T' (mkF m (pc + 1) Ls rest) Q kc ks) : Go p e below s T (mkF m pc Ls (.long x :: .int j :: .ref a :: rest)) Q kc ks := by
  have A' := A
  obtain ⟨cl, A1, -, r2, -, r4⟩ := A
  obtain ⟨T', h', X', e', W, st⟩ := stJ X hx hZ eT A1 (in_of r2 h1 h2) (g := mkF m pc Ls (.long x :: .int j :: .ref a :: rest)) rfl rfl hd
  exact Go.step st (k T' h' X' e' W (A'.set W))
theorem Go.bastoreB {j x : Int32} (X : Stand p l e R s m args below meth c T locs cells slots) (hx : p.tables.exec = Jvm.exec) (hZ : Z.Warmed39 s.vm) (eT : T.heap = h) (A : Af Z h a cid .byte n f) (h1 : ¬ j < 0) (h2 : j.toNatClampNeg < n) (hd : decode c.code pc = .ok (.bastore, 1))
    (k : ∀ T' h', Stand p l e R s m args below meth c T' (locs ++ [⟨a, j.toNatClampNeg⟩]) cells slots → T'.heap = h' → Wr h h' a j.toNatClampNeg (.int x.toInt8.toInt32) → Af Z h' a cid .byte n (updV f j.toNatClampNeg (.int x.toInt8.toInt32)) → Go p e below s T' (mkF m (pc + 1) Ls rest) Q kc ks) : Go p e below s T (mkF m pc Ls (.int x :: .int j :: .ref a :: rest)) Q kc ks := by
  have A' := A
  obtain ⟨cl, A1, -, r2, -, r4⟩ := A
  obtain ⟨T', h', X', e', W, st⟩ := stB X hx hZ eT A1 (in_of r2 h1 h2) (g := mkF m pc Ls (.int x :: .int j :: .ref a :: rest)) rfl rfl hd
  exact Go.step st (k T' h' X' e' W (A'.set W))
theorem Go.bastoreZ {j x : Int32} (X : Stand p l e R s m args below meth c T locs cells slots) (hx : p.tables.exec = Jvm.exec) (hZ : Z.Warmed39 s.vm) (eT : T.heap = h) (A : Af Z h a cid .boolean n f) (h1 : ¬ j < 0) (h2 : j.toNatClampNeg < n) (hd : decode c.code pc = .ok (.bastore, 1))
    (k : ∀ T' h', Stand p l e R s m args below meth c T' (locs ++ [⟨a, j.toNatClampNeg⟩]) cells slots → T'.heap = h' → Wr h h' a j.toNatClampNeg (.int (nar .boolean x)) → Af Z h' a cid .boolean n (updV f j.toNatClampNeg (.int (nar .boolean x))) → Go p e below s T' (mkF m (pc + 1) Ls rest) Q kc ks) : Go p e below s T (mkF m pc Ls (.int x :: .int j :: .ref a :: rest)) Q kc ks := by
  have A' := A
  obtain ⟨cl, A1, -, r2, -, r4⟩ := A
  obtain ⟨T', h', X', e', W, st⟩ := stZ X hx hZ eT A1 (in_of r2 h1 h2) (g := mkF m pc Ls (.int x :: .int j :: .ref a :: rest)) rfl rfl hd
  exact Go.step st (k T' h' X' e' W (A'.set W))
theorem Go.castore {j x : Int32} (X : Stand p l e R s m args below meth c T locs cells slots) (hx : p.tables.exec = Jvm.exec) (hZ : Z.Warmed39 s.vm) (eT : T.heap = h) (A : Af Z h a cid .char n f) (h1 : ¬ j < 0) (h2 : j.toNatClampNeg < n) (hd : decode c.code pc = .ok (.castore, 1))
    (k : ∀ T' h', Stand p l e R s m args below meth c T' (locs ++ [⟨a, j.toNatClampNeg⟩]) cells slots → T'.heap = h' → Wr h h' a j.toNatClampNeg (.int (nar .char x)) → Af Z h' a cid .char n (updV f j.toNatClampNeg (.int (nar .char x))) → Go p e below s T' (mkF m (pc + 1) Ls rest) Q kc ks) : Go p e below s T (mkF m pc Ls (.int x :: .int j :: .ref a :: rest)) Q kc ks := by
  have A' := A
  obtain ⟨cl, A1, -, r2, -, r4⟩ := A
  obtain ⟨T', h', X', e', W, st⟩ := stC X hx hZ eT A1 (in_of r2 h1 h2) (g := mkF m pc Ls (.int x :: .int j :: .ref a :: rest)) rfl rfl hd
  exact Go.step st (k T' h' X' e' W (A'.set W))
theorem Go.aastore {j : Int32} {C : String} {y : Addr} (X : Stand p l e R s m args below meth c T locs cells slots) (hx : p.tables.exec = Jvm.exec) (hZ : Z.Warmed39 s.vm) (eT : T.heap = h) (A : Af Z h a cid ty n f) (hty : ty.isReference = true) (O : Ovr Z cid C) (I : Ins Z h y C true) (h1 : ¬ j < 0) (h2 : j.toNatClampNeg < n) (hd : decode c.code pc = .ok (.aastore, 1))
    (k : ∀ T' h', Stand p l e R s m args below meth c T' (locs ++ [⟨a, j.toNatClampNeg⟩]) cells slots → T'.heap = h' → Wr h h' a j.toNatClampNeg (.ref y) → Af Z h' a cid ty n (updV f j.toNatClampNeg (.ref y)) → Go p e below s T' (mkF m (pc + 1) Ls rest) Q kc ks) : Go p e below s T (mkF m pc Ls (.ref y :: .int j :: .ref a :: rest)) Q kc ks := by
  have A' := A
  obtain ⟨cl, A1, r1, r2, -, r4⟩ := A
  obtain ⟨T', h', X', e', W, st⟩ := stR X hx hZ eT A1 (in_of r2 h1 h2) hty (Sto.ofV A1 r1 O I) (g := mkF m pc Ls (.ref y :: .int j :: .ref a :: rest)) rfl rfl hd
  exact Go.step st (k T' h' X' e' W (A'.set W))
theorem Go.newarray {aty : ArrayType} {z : Int32} {cap : Nat} (X : Stand p l e R s m args below meth c T locs cells slots) (hx : p.tables.exec = Jvm.exec) (hZ : Z.Warmed39 s.vm) (w : (Jvm.Cond.arrayClass (newarray.typeOf aty)).before a0 Z = true) (eT : T.heap = h) (hd : decode c.code pc = .ok (.newarray aty, 2)) (hn : ¬ z < 0) (hcap : z.toNatClampNeg ≤ cap) (hb : cap * 8 ≤ 536870912) (hc : cells + 1 ≤ R.cells) (hl : slots + cap ≤ R.slots)
    (k : ∀ T' h' a cA, a = h.size → Stand p l e R s m args below meth c T' locs (cells + 1) (slots + cap) → T'.heap = h' → Ext h h' → Af Z h' a cA (newarray.typeOf aty) z.toNatClampNeg (fun _ => defaultValue (newarray.typeOf aty)) → Go p e below s T' (mkF m (pc + 2) Ls (.ref a :: rest)) Q kc ks) : Go p e below s T (mkF m pc Ls (.int z :: rest)) Q kc ks := by
  obtain ⟨T', h', cA, X', e', E, A, st⟩ := newP X hx hZ w eT (g := mkF m pc Ls (.int z :: rest)) rfl hd rfl hn hcap hb hc hl
  exact Go.step st (k T' h' _ cA rfl X' e' E (Af.arv A hn))
theorem Go.anewarray {own C : String} {index : Nat} {z : Int32} {cap : Nat} (X : Stand p l e R s m args below meth c T locs cells slots) (hx : p.tables.exec = Jvm.exec) (hZ : Z.Warmed39 s.vm) (hown : s.vm.findClass own = some m.cls) (w1 : (Jvm.Cond.classLink own index C).before a0 Z = true) (w2 : (Jvm.Cond.arrayOver (.object C)).before a0 Z = true) (eT : T.heap = h) (hd : decode c.code pc = .ok (.anewarray index, 3)) (hn : ¬ z < 0) (hcap : z.toNatClampNeg ≤ cap) (hb : cap * 8 ≤ 536870912) (hc : cells + 1 ≤ R.cells) (hl : slots + cap ≤ R.slots)
    (k : ∀ T' h' a cA, a = h.size → Stand p l e R s m args below meth c T' locs (cells + 1) (slots + cap) → T'.heap = h' → Ext h h' → Af Z h' a cA (.object C) z.toNatClampNeg (fun _ => .null) → Ovr Z cA C → Go p e below s T' (mkF m (pc + 3) Ls (.ref a :: rest)) Q kc ks) : Go p e below s T (mkF m pc Ls (.int z :: rest)) Q kc ks := by
  obtain ⟨T', h', cA, X', e', E, A, O, st⟩ := newR X hx hZ hown w1 w2 eT (g := mkF m pc Ls (.int z :: rest)) rfl hd rfl hn hcap hb hc hl
  exact Go.step st (k T' h' _ cA rfl X' e' E (Af.arv A hn) O)
theorem Go.clone {own ad : String} {index W cap : Nat} (X : Stand p l e R s m args below meth c T locs cells slots) (hx : p.tables.exec = Jvm.exec) (hZ : Z.Warmed39 s.vm) (hown : s.vm.findClass own = some m.cls)
    (w1 : (Jvm.Cond.methodLink own index ⟨ad, "clone", "()Ljava/lang/Object;"⟩).before a0 Z = true) (w2 : (Jvm.Cond.sameMethod ad "java/lang/Object" "clone" "()Ljava/lang/Object;").before a0 Z = true) (w3 : (Jvm.Cond.native ⟨"java/lang/Object", "clone", "()Ljava/lang/Object;"⟩).before a0 Z = true)
    (w4 : (Jvm.Cond.instanceMethod ⟨"java/lang/Object", "clone", "()Ljava/lang/Object;"⟩).before a0 Z = true) (w5 : (Jvm.Cond.selects ad ⟨ad, "clone", "()Ljava/lang/Object;"⟩ ⟨"java/lang/Object", "clone", "()Ljava/lang/Object;"⟩).before a0 Z = true) (w6 : (Jvm.Cond.castable ad "java/lang/Cloneable").before a0 Z = true)
    (eT : T.heap = h) (A : Af Z h a cid ty n f) (E : Exa Z h a ad) (F : ∀ cl : Cell, h[a]? = some cl → FitC Z cl) (hd : decode c.code pc = .ok (.invokevirtual index, 3)) (hsize : Ls.size = c.maxLocals) (hW : (rest.map fun v => v.category).sum ≤ W) (hf : 1 ≤ R.frames) (hl : W + 14 ≤ R.locals) (hcap : n ≤ cap) (hc : cells + 1 ≤ R.cells) (hsl : slots + cap ≤ R.slots)
    (k : ∀ T' h' b, b = h.size → Stand p l e R s m args below meth c T' locs (cells + 1) (slots + cap) → T'.heap = h' → Ext h h' → Af Z h' b cid ty n f → Exa Z h' b ad → Go p e below s T' (mkF m (pc + 3) Ls (.ref b :: rest)) Q kc ks) : Go p e below s T (mkF m pc Ls (.ref a :: rest)) Q kc ks := by
  obtain ⟨cl, A1, r1, r2, r3, r4⟩ := A
  obtain ⟨T', h', X', e', Ex, A2, E2, st⟩ := cloneA X hx hZ hown w1 w2 w3 w4 w5 w6 eT A1 E (F cl A1.1) (g := mkF m pc Ls (.ref a :: rest)) rfl hsize rfl hd hf (W := W) (cap := cap) (by show 2 * 0 + _ ≤ _; omega) hl (by rw [r2]; exact hcap) hc hsl
  exact Go.step st (k T' h' _ rfl X' e' Ex ⟨_, A2, r1, r2, r3, r4⟩ E2)
/-- the call of a private method by invokevirtual, by its contract -/
theorem Go.callP {own C : String} {index kk : Nat} {y : MethodName} {bytes : ByteArray} {maxL : Nat} {ret : Option FieldType} {rm : Room} {argsL : List Value} {Q' : Option Value → Heap → List Loc → Prop} {W : Nat} {st : List Value}
    (X : Stand p l e R s m args below meth c T locs cells slots) (hx : p.tables.exec = Jvm.exec) (hZ : Z.Warmed39 s.vm) (hown : s.vm.findClass own = some m.cls)
    (w1 : (Jvm.Cond.methodLink own index y).before a0 Z = true) (w2 : (Jvm.Cond.instanceMethod y).before a0 Z = true) (wp : (Jvm.Cond.privateMethod y).before a0 Z = true) (wi : (Jvm.Cond.instantiable y.cls kk).before a0 Z = true) (w3 : (Jvm.Cond.initialized y.cls).before a0 Z = true) (w4 : (Jvm.Cond.code y bytes maxL ret).before a0 Z = true)
    (hy : y.cls ≠ "java/lang/invoke/MethodHandle" ∧ y.cls ≠ "java/lang/invoke/VarHandle") (E : Exa Z h a C) (hM : Met l Z y bytes maxL ret [] rm (.ref a :: argsL).toArray h Q') (eT : T.heap = h)
    (hlen : ∀ sig, parseMethodDescriptor y.desc = some sig → argsL.length = sig.parameters.length) (hd : decode c.code pc = .ok (.invokevirtual index, 3)) (hsize : Ls.size = c.maxLocals) (hst : st = argsL.reverse ++ .ref a :: rest) (hW : (rest.map fun v => v.category).sum ≤ W)
    (hf : rm.frames + 1 ≤ R.frames) (hl : W + (maxL + 11) + rm.locals ≤ R.locals) (hc : cells + rm.cells ≤ R.cells) (hs : slots + rm.slots ≤ R.slots)
    (k : ∀ v T' L, Stand p l e R s m args below meth c T' (locs ++ L) (cells + rm.cells) (slots + rm.slots) → Q' v T'.heap L → Go p e below s T' (mkF m (pc + 3) Ls (v.toList ++ rest)) Q kc ks) : Go p e below s T (mkF m pc Ls st) Q kc ks := by
  have wi' : (Jvm.Cond.instantiable y.cls kk).before args s = true := mvT hZ wi
  obtain ⟨cc, kc', i1, i2, i3, i4, -⟩ := Cond.instantiable_spec wi'
  have ni : kc'.isInterface = false := by revert i4; cases kc'.isInterface <;> simp
  have hp := Cond.privateMethod_at (mvP hZ wp (args := args))
  have hsel := Jvm.Stand.selects_self_of_private i1 i2 ni hp (mvT hZ w2 (args := args)) hy
  obtain ⟨cl, q1, q2⟩ := E.cell
  obtain ⟨v, vm₁, ⟨T1, L1, k1, n1⟩, -, X1, ⟨Lc, hQ1, l1, y1, z1⟩, st1⟩ := X.privateBack hx (y := y) hown (mvT hZ w1) (mvT hZ w2) hsel hp (mvT hZ w4) hy (backOf (W := W) hM hZ w4 w3 hf hl) (g := mkF m pc Ls st) rfl hsize (Steps.refl _) (a := a) (by rw [eT]; exact q1) q2 (argsL := argsL) (rest := rest) hlen hst (by show 2 * 0 + _ ≤ _; omega) hd (fun _ _ => ⟨rfl, eT, hc, hs⟩)
  dsimp only [Pt.U, Pt.locs, Pt.cells, Pt.slots] at X1 l1 y1 z1 st1 hQ1
  subst l1 y1 z1
  exact Go.trans st1 (k v T1 Lc X1 hQ1)
/-- the call of an interface's method, by the contract of the body that the receiver's class selects -/
theorem Go.callN {own C : String} {index count : Nat} {xi y : MethodName} {bytes : ByteArray} {maxL : Nat} {ret : Option FieldType} {rm : Room} {argsL : List Value} {Q' : Option Value → Heap → List Loc → Prop} {W : Nat} {st : List Value}
    (X : Stand p l e R s m args below meth c T locs cells slots) (hx : p.tables.exec = Jvm.exec) (hZ : Z.Warmed39 s.vm) (hown : s.vm.findClass own = some m.cls)
    (w1 : (Jvm.Cond.methodLink own index xi).before a0 Z = true) (w2 : (Jvm.Cond.declares xi).before a0 Z = true) (w5 : (Jvm.Cond.interfaceMethod xi.cls xi.cls xi.name xi.desc).before a0 Z = true) (w6 : (Jvm.Cond.selects C xi y).before a0 Z = true) (w7 : (Jvm.Cond.instanceMethod y).before a0 Z = true) (w8 : (Jvm.Cond.publicMethod y).before a0 Z = true) (w9 : (Jvm.Cond.unhidden C xi.name xi.desc).before a0 Z = true) (w10 : (Jvm.Cond.castable C xi.cls).before a0 Z = true)
    (w3 : (Jvm.Cond.initialized y.cls).before a0 Z = true) (w4 : (Jvm.Cond.code y bytes maxL ret).before a0 Z = true) (hy : xi.cls ≠ "java/lang/invoke/MethodHandle" ∧ xi.cls ≠ "java/lang/invoke/VarHandle") (k5 : ((Jvm.Cond.interfaceMethod xi.cls xi.cls xi.name xi.desc).onTables && (Jvm.Cond.interfaceMethod xi.cls xi.cls xi.name xi.desc).keepsFace) = true) (E : Exa Z h a C) (hM : Met l Z y bytes maxL ret [] rm (.ref a :: argsL).toArray h Q') (eT : T.heap = h)
    (hlen : ∀ sig, parseMethodDescriptor xi.desc = some sig → argsL.length = sig.parameters.length) (hd : decode c.code pc = .ok (.invokeinterface index count, 5)) (hsize : Ls.size = c.maxLocals) (hst : st = argsL.reverse ++ .ref a :: rest) (hW : (rest.map fun v => v.category).sum ≤ W)
    (hf : rm.frames + 1 ≤ R.frames) (hl : W + (maxL + 11) + rm.locals ≤ R.locals) (hc : cells + rm.cells ≤ R.cells) (hs : slots + rm.slots ≤ R.slots)
    (k : ∀ v T' L, Stand p l e R s m args below meth c T' (locs ++ L) (cells + rm.cells) (slots + rm.slots) → Q' v T'.heap L → Go p e below s T' (mkF m (pc + 5) Ls (v.toList ++ rest)) Q kc ks) : Go p e below s T (mkF m pc Ls st) Q kc ks := by
  obtain ⟨cB, kB, q1, q2, q3⟩ := isOf hZ eT E
  obtain ⟨v, vm₁, ⟨T1, L1, k1, n1⟩, -, X1, ⟨Lc, hQ1, l1, y1, z1⟩, st1⟩ := X.interfaceBack hx (xi := xi) (y := y) hown (mvT hZ w1) (mvT hZ w2) (mvT hZ w5 k5) (mvT hZ w6) (mvT hZ w7) (mvT hZ w8) (mvT hZ w9) (mvT hZ w10) hy (backOf (W := W) hM hZ w4 w3 hf hl) q1 q2 q3 (g := mkF m pc Ls st) rfl hsize (Steps.refl _) (argsL := argsL) (rest := rest) hlen hst (by show 2 * 0 + _ ≤ _; omega) hd (fun _ _ => ⟨rfl, eT, hc, hs⟩)
  dsimp only [Pt.U, Pt.locs, Pt.cells, Pt.slots] at X1 l1 y1 z1 st1 hQ1
  subst l1 y1 z1
  exact Go.trans st1 (k v T1 Lc X1 hQ1)
def cpf (f f' : Nat → Value) (sp dp nn : Nat) : Nat → Value := fun i => if dp ≤ i ∧ i < dp + nn then f (sp + (i - dp)) else f' i
theorem getD_range {i : Nat} (hi : i < n) (d : Value) : ((List.range n).map f).getD i d = f i := by simp [List.getD_eq_getElem?_getD, hi]
theorem Af.toArv (F : Af Z h a cid ty n f) (hf : ∀ i, i < n → fits ty (f i) = true) : Arv Z h a cid ty n.toInt32 ((List.range n).map f) .null := by
  obtain ⟨cl, A, r1, r2, r3, r4⟩ := F
  have z : (n.toInt32).toNatClampNeg = n := by simp only [Int32.toNatClampNeg, len_toInt r3]; rfl
  refine ⟨cl, A, r1, by rw [r2, z], ?_, fun i hi => ?_, fun i hi => ?_⟩
  · rw [Int32.lt_iff_toInt_lt, len_toInt r3]; show ¬ (n : Int) < 0; omega
  · rw [getD_range (by omega)]; exact r4 i (by omega)
  · rw [getD_range (by omega)]; exact hf i (by omega)
theorem Af.ofArv {z : Int32} {vs : List Value} {d : Value} (F : Arv Z h a cid ty z vs d) : Af Z h a cid ty z.toNatClampNeg (fun i => vs.getD i d) := by
  obtain ⟨cl, A, r1, r2, r3, H, G⟩ := F
  exact ⟨cl, A, r1, r2, (back32 r3).2, fun i hi => H i (by omega)⟩
theorem cp_at {n' sp dp nn i : Nat} (hi : i < n') (h4 : sp + nn ≤ n) (h5 : dp + nn ≤ n') :
    ((((List.range n').map f').take dp) ++ ((List.range nn).map fun i => ((List.range n).map f).getD (sp + i) .null) ++ (((List.range n').map f').drop (dp + nn))).getD i .null = cpf f f' sp dp nn i := by
  have lt : (((List.range n').map f').take dp).length = dp := by simp; omega
  have lu : ((List.range nn).map fun i => ((List.range n).map f).getD (sp + i) .null).length = nn := by simp
  rw [List.getD_eq_getElem?_getD]
  unfold cpf
  by_cases h1 : i < dp
  · rw [List.append_assoc, List.getElem?_append_left (by omega), if_neg (by omega)]
    simp [List.getElem?_take, h1, hi]
  · by_cases h2 : i < dp + nn
    · rw [List.getElem?_append_left (by rw [List.length_append]; omega), List.getElem?_append_right (by omega), if_pos ⟨by omega, h2⟩, lt]
      have h3 : i - dp < nn := by omega
      have h6 : sp + (i - dp) < n := by omega
      simp [h3, List.getD_eq_getElem?_getD, h6]
    · rw [List.getElem?_append_right (by rw [List.length_append]; omega), if_neg (by omega), List.length_append, lt, lu]
      have h3 : dp + nn + (i - (dp + nn)) = i := by omega
      simp [List.getElem?_drop, h3, hi]
theorem Go.acopy {own : String} {index W n0 n' : Nat} {b : Addr} {cid' : ClassId} {sp dp nn : Int32} (X : Stand p l e R s m args below meth c T locs cells slots) (hx : p.tables.exec = Jvm.exec) (hZ : Z.Warmed39 s.vm) (hown : s.vm.findClass own = some m.cls)
    (w1 : (Jvm.Cond.methodLink own index ⟨"java/lang/System", "arraycopy", "(Ljava/lang/Object;ILjava/lang/Object;II)V"⟩).before a0 Z = true) (w2 : (Jvm.Cond.native ⟨"java/lang/System", "arraycopy", "(Ljava/lang/Object;ILjava/lang/Object;II)V"⟩).before a0 Z = true) (w3 : (Jvm.Cond.static ⟨"java/lang/System", "arraycopy", "(Ljava/lang/Object;ILjava/lang/Object;II)V"⟩).before a0 Z = true) (w4 : (Jvm.Cond.initialized "java/lang/System").before a0 Z = true)
    (eT : T.heap = h) (A : Af Z h a cid ty n f) (B : Af Z h b cid' ty n' f') (hty : refKind ty = false) (hfa : ∀ i, i < n → fits ty (f i) = true) (hfb : ∀ i, i < n' → fits ty (f' i) = true) (h1 : ¬ sp < 0) (h2 : ¬ dp < 0) (h3 : ¬ nn < 0) (h4 : sp.toNatClampNeg + nn.toNatClampNeg ≤ n) (h5 : dp.toNatClampNeg + nn.toNatClampNeg ≤ n')
    (N : Fr n0 locs) (ge : n0 ≤ b) (hd : decode c.code pc = .ok (.invokestatic index, 3)) (hsize : Ls.size = c.maxLocals) (hW : (rest.map fun v => v.category).sum ≤ W) (hf : 1 ≤ R.frames) (hl : W + 18 ≤ R.locals)
    (k : ∀ T' h' L, Stand p l e R s m args below meth c T' L cells slots → T'.heap = h' → Fr n0 L → Keep h h' [b] → Af Z h' b cid' ty n' (cpf f f' sp.toNatClampNeg dp.toNatClampNeg nn.toNatClampNeg) → Go p e below s T' (mkF m (pc + 3) Ls rest) Q kc ks) : Go p e below s T (mkF m pc Ls (.int nn :: .int dp :: .ref b :: .int sp :: .ref a :: rest)) Q kc ks := by
  have za : (n.toInt32).toNatClampNeg = n := by obtain ⟨_, _, _, _, r3, _⟩ := A; simp only [Int32.toNatClampNeg, len_toInt r3]; rfl
  have zb : (n'.toInt32).toNatClampNeg = n' := by obtain ⟨_, _, _, _, r3, _⟩ := B; simp only [Int32.toNatClampNeg, len_toInt r3]; rfl
  obtain ⟨T', h', L, X', e', NL, K, V, st⟩ := cpA X hx hZ hown w1 w2 w3 w4 eT (A.toArv hfa) (B.toArv hfb) (Or.inl ⟨rfl, hty⟩) h1 h2 h3 (by rw [za]; exact h4) (by rw [zb]; exact h5) rfl (by simp; exact h5) N ge (g := mkF m pc Ls (.int nn :: .int dp :: .ref b :: .int sp :: .ref a :: rest)) rfl hsize rfl hd hf (W := W) (by show 2 * 0 + _ ≤ _; omega) (by show W + (7 + 11) ≤ _; omega)
  have V' := Af.ofArv V
  rw [zb] at V'
  exact Go.step st (k T' h' L X' e' NL K (V'.congr fun i hi => (cp_at hi h4 h5).symm))
theorem Keep.wr1 {ha hb hc : Heap} {ws : List Addr} {a : Addr} {sl : Nat} {v : Value} (K : Keep ha hb ws) (W : Wr hb hc a sl v) (q : a ∈ ws ∨ ha.size ≤ a) : Keep ha hc ws := Jvm.RoadKit.Keep.wr K W q
end Heap
end Jvm.OwnK
namespace Jvm.OwnK
open Sem ClassFile Op Lib Jvm.Free Jvm.Stand Jvm.LawKit Jvm.RoadKit
section Start
variable {s : State} {args : Array Value}
theorem st_static {C f d K : String} (h : (Jvm.Cond.exactly (Jvm.Term.static C f d) K).value args s none s [] = some true) (hi : (Jvm.Cond.initializedFor C f d).before args s = true ∨ ((Jvm.Cond.initialized C).before args s = true ∧ (Jvm.Cond.laysStatic C f d).before args s = true)) :
    ∃ g, (Jvm.Term.static C f d).eval args s none [] s = some (.ref g) ∧ Sta s s.heap C f d (.ref g) ∧ Exa s s.heap g K := by
  obtain ⟨g, eg⟩ := exa_v h
  exact ⟨g, eg, Sta.start eg hi, Exa.start eg h⟩
theorem st_int {t : Jvm.Term} {k : Int32} (h : (Jvm.Cond.eq t (.int k)).value args s none s [] = some true) : t.eval args s none [] s = some (.int k) := by
  obtain ⟨x, y, ha, hb, k1, k2⟩ := cmp_v (Or.inl h)
  have hb' : (Jvm.Term.int k).eval args s none [] s = some (.int k) := Term.int_eval k
  cases hb.symm.trans hb'
  obtain ⟨z, rfl⟩ := k2
  have q := gotT (Cond.eq_ints ha hb') h
  rw [ha, q]
theorem st_ref {t u : Jvm.Term} {g : Addr} (h : (Jvm.Cond.eq t u).value args s none s [] = some true) (hu : u.eval args s none [] s = some (.ref g)) : t.eval args s none [] s = some (.ref g) := by
  obtain ⟨x, y, ha, hb, k1, k2⟩ := cmp_v (Or.inl h)
  cases hb.symm.trans hu
  have hx : x.isRef = true := k2.2
  have q := gotT (eq_R ha hu hx rfl) h
  rw [ha, q]
theorem st_fieldI {t : Jvm.Term} {a : Addr} {C n d : String} {k : Int32} (ev : t.eval args s none [] s = some (.ref a)) (h : (Jvm.Cond.eq (.field t C n d) (.int k)).value args s none s [] = some true) : Fld s s.heap a C n d (.int k) :=
  Fld.start (by rw [← fld_at ev]; exact st_int h)
theorem st_fieldR {t : Jvm.Term} {a : Addr} {C n d K : String} (ev : t.eval args s none [] s = some (.ref a)) (h : (Jvm.Cond.exactly (.field t C n d) K).value args s none s [] = some true) :
    ∃ g, (Jvm.Term.field t C n d).eval args s none [] s = some (.ref g) ∧ Fld s s.heap a C n d (.ref g) ∧ Exa s s.heap g K := by
  obtain ⟨g, eg⟩ := exa_v h
  exact ⟨g, eg, Fld.start (by rw [← fld_at ev]; exact eg), Exa.start eg h⟩
/-- an array that stood before the law, with its length -/
theorem st_arr {t : Jvm.Term} {a : Addr} {ty : FieldType} {k : Int32} {n : Nat} (ev : t.eval args s none [] s = some (.ref a)) (h : (Jvm.Cond.arrayOf t ty).value args s none s [] = some true) (hl : (Jvm.Cond.eq (.length t) (.int k)).value args s none s [] = some true) (hk : k = n.toInt32) (hn : n < 2 ^ 31) :
    ∃ c : Cell, s.heap[a]? = some c ∧ Af s s.heap a c.cls ty n (fun i => (c.slots[i]?).getD .null) := by
  obtain ⟨c, A⟩ := Arr.start ev h
  have e1 := st_int hl
  obtain ⟨a', cell, g1, g2, g5, g3⟩ := Jvm.Lib.length_spec e1
  cases ev.symm.trans g1
  have g4 : s.arrayAt? a = some c := A.fin (Vm.Alike.refl _)
  cases g4.symm.trans g2
  injection g3 with g3
  have g6 : c.slots.size = n := by
    have q : (c.slots.size.toInt32).toInt = (n.toInt32).toInt := by rw [← g3, hk]
    rw [len_toInt g5, len_toInt hn] at q
    omega
  refine ⟨c, A.1, c, A, rfl, g6, hn, fun i hi => ?_⟩
  have q : i < c.slots.size := by omega
  simp [Array.getElem?_eq_getElem q]
theorem st_elem {t : Jvm.Term} {a : Addr} {j : Int32} {c : Cell} {v : Value} (ev : t.eval args s none [] s = some (.ref a)) (hc : s.heap[a]? = some c) (h : (Jvm.Term.elem t (.int j)).eval args s none [] s = some v) : (c.slots[j.toNatClampNeg]?).getD .null = v := by
  have q := (elem_in h ev (Term.int_eval j) hc).2
  rw [q]; rfl
theorem Af.known {Z : State} {h : Heap} {a : Addr} {cid : ClassId} {ty : FieldType} {n j : Nat} {f : Nat → Value} {v : Value} (F : Af Z h a cid ty n f) (q : f j = v) : Af Z h a cid ty n (updV f j v) := F.congr fun i _ => by
  by_cases e : i = j
  · subst e; simp [updV, q]
  · simp [updV, e]
end Start
end Jvm.OwnK
namespace Jvm.Pilot.@@N@@
open Jvm Jvm.ClassFile Sem Op Lib Jvm.Free Jvm.Stand Jvm.LawKit Jvm.RoadKit Jvm.OwnK Bundle Jvm.Pilot.@@N@@.Jvm.D
theorem w0 {Z : State} {a0 : Array Value} (hw : ∀ d ∈ tables_1, d.before a0 Z = true) : (Jvm.Cond.methodLink "com/example/farcall/farcall/TransportOfProtocolPinLaw" (7 : Nat) ({ cls := "com/example/farcall/farcall/Transport", name := "ofProtocol", desc := "(I)Lcom/example/farcall/farcall/Transport;" } : Jvm.MethodName)).before a0 Z = true := hw _ (List.mem_of_getElem? (i := 0) rfl)
theorem w1 {Z : State} {a0 : Array Value} (hw : ∀ d ∈ tables_1, d.before a0 Z = true) : (Jvm.Cond.static ({ cls := "com/example/farcall/farcall/Transport", name := "ofProtocol", desc := "(I)Lcom/example/farcall/farcall/Transport;" } : Jvm.MethodName)).before a0 Z = true := hw _ (List.mem_of_getElem? (i := 1) rfl)
theorem w2 {Z : State} {a0 : Array Value} (hw : ∀ d ∈ tables_1, d.before a0 Z = true) : (Jvm.Cond.initialized "com/example/farcall/farcall/Transport").before a0 Z = true := hw _ (List.mem_of_getElem? (i := 2) rfl)
theorem w3 {Z : State} {a0 : Array Value} (hw : ∀ d ∈ tables_1, d.before a0 Z = true) : (Jvm.Cond.code ({ cls := "com/example/farcall/farcall/Transport", name := "ofProtocol", desc := "(I)Lcom/example/farcall/farcall/Transport;" } : Jvm.MethodName) prog_45_method_7_code (6 : Nat) (Option.some (Jvm.ClassFile.FieldType.object "com/example/farcall/farcall/Transport"))).before a0 Z = true := hw _ (List.mem_of_getElem? (i := 3) rfl)
theorem w4 {Z : State} {a0 : Array Value} (hw : ∀ d ∈ tables_1, d.before a0 Z = true) : (Jvm.Cond.methodLink "com/example/farcall/farcall/Transport" (40 : Nat) ({ cls := "com/example/farcall/farcall/Transport", name := "values", desc := "()[Lcom/example/farcall/farcall/Transport;" } : Jvm.MethodName)).before a0 Z = true := hw _ (List.mem_of_getElem? (i := 4) rfl)
theorem w5 {Z : State} {a0 : Array Value} (hw : ∀ d ∈ tables_1, d.before a0 Z = true) : (Jvm.Cond.static ({ cls := "com/example/farcall/farcall/Transport", name := "values", desc := "()[Lcom/example/farcall/farcall/Transport;" } : Jvm.MethodName)).before a0 Z = true := hw _ (List.mem_of_getElem? (i := 5) rfl)
theorem w6 {Z : State} {a0 : Array Value} (hw : ∀ d ∈ tables_1, d.before a0 Z = true) : (Jvm.Cond.code ({ cls := "com/example/farcall/farcall/Transport", name := "values", desc := "()[Lcom/example/farcall/farcall/Transport;" } : Jvm.MethodName) prog_45_method_1_code (0 : Nat) (Option.some (Jvm.ClassFile.FieldType.array (Jvm.ClassFile.FieldType.object "com/example/farcall/farcall/Transport")))).before a0 Z = true := hw _ (List.mem_of_getElem? (i := 6) rfl)
theorem w7 {Z : State} {a0 : Array Value} (hw : ∀ d ∈ tables_1, d.before a0 Z = true) : (Jvm.Cond.fieldLink "com/example/farcall/farcall/Transport" (10 : Nat) "com/example/farcall/farcall/Transport" "$VALUES" "[Lcom/example/farcall/farcall/Transport;").before a0 Z = true := hw _ (List.mem_of_getElem? (i := 7) rfl)
theorem w8 {Z : State} {a0 : Array Value} (hw : ∀ d ∈ tables_1, d.before a0 Z = true) : (Jvm.Cond.laysStatic "com/example/farcall/farcall/Transport" "$VALUES" "[Lcom/example/farcall/farcall/Transport;").before a0 Z = true := hw _ (List.mem_of_getElem? (i := 8) rfl)
theorem w9 {Z : State} {a0 : Array Value} (hw : ∀ d ∈ tables_1, d.before a0 Z = true) : (Jvm.Cond.methodLink "com/example/farcall/farcall/Transport" (14 : Nat) ({ cls := "[Lcom/example/farcall/farcall/Transport;", name := "clone", desc := "()Ljava/lang/Object;" } : Jvm.MethodName)).before a0 Z = true := hw _ (List.mem_of_getElem? (i := 9) rfl)
theorem w10 {Z : State} {a0 : Array Value} (hw : ∀ d ∈ tables_1, d.before a0 Z = true) : (Jvm.Cond.sameMethod "[Lcom/example/farcall/farcall/Transport;" "java/lang/Object" "clone" "()Ljava/lang/Object;").before a0 Z = true := hw _ (List.mem_of_getElem? (i := 10) rfl)
theorem w12 {Z : State} {a0 : Array Value} (hw : ∀ d ∈ tables_1, d.before a0 Z = true) : (Jvm.Cond.instanceMethod ({ cls := "java/lang/Object", name := "clone", desc := "()Ljava/lang/Object;" } : Jvm.MethodName)).before a0 Z = true := hw _ (List.mem_of_getElem? (i := 12) rfl)
theorem w13 {Z : State} {a0 : Array Value} (hw : ∀ d ∈ tables_1, d.before a0 Z = true) : (Jvm.Cond.selects "[Lcom/example/farcall/farcall/Transport;" ({ cls := "[Lcom/example/farcall/farcall/Transport;", name := "clone", desc := "()Ljava/lang/Object;" } : Jvm.MethodName) ({ cls := "java/lang/Object", name := "clone", desc := "()Ljava/lang/Object;" } : Jvm.MethodName)).before a0 Z = true := hw _ (List.mem_of_getElem? (i := 13) rfl)
theorem w14 {Z : State} {a0 : Array Value} (hw : ∀ d ∈ tables_1, d.before a0 Z = true) : (Jvm.Cond.native ({ cls := "java/lang/Object", name := "clone", desc := "()Ljava/lang/Object;" } : Jvm.MethodName)).before a0 Z = true := hw _ (List.mem_of_getElem? (i := 14) rfl)
theorem w15 {Z : State} {a0 : Array Value} (hw : ∀ d ∈ tables_1, d.before a0 Z = true) : (Jvm.Cond.castable "[Lcom/example/farcall/farcall/Transport;" "java/lang/Cloneable").before a0 Z = true := hw _ (List.mem_of_getElem? (i := 15) rfl)
theorem w16 {Z : State} {a0 : Array Value} (hw : ∀ d ∈ tables_1, d.before a0 Z = true) : (Jvm.Cond.laysStatic "com/example/farcall/farcall/Transport" "TCP" "Lcom/example/farcall/farcall/Transport;").before a0 Z = true := hw _ (List.mem_of_getElem? (i := 16) rfl)
theorem w17 {Z : State} {a0 : Array Value} (hw : ∀ d ∈ tables_1, d.before a0 Z = true) : (Jvm.Cond.laysStatic "com/example/farcall/farcall/Transport" "UDP" "Lcom/example/farcall/farcall/Transport;").before a0 Z = true := hw _ (List.mem_of_getElem? (i := 17) rfl)
theorem w19 {Z : State} {a0 : Array Value} (hw : ∀ d ∈ tables_1, d.before a0 Z = true) : (Jvm.Cond.classLink "com/example/farcall/farcall/Transport" (15 : Nat) "[Lcom/example/farcall/farcall/Transport;").before a0 Z = true := hw _ (List.mem_of_getElem? (i := 19) rfl)
theorem w21 {Z : State} {a0 : Array Value} (hw : ∀ d ∈ tables_1, d.before a0 Z = true) : (Jvm.Cond.fieldLink "com/example/farcall/farcall/Transport" (29 : Nat) "com/example/farcall/farcall/Transport" "protocol" "I").before a0 Z = true := hw _ (List.mem_of_getElem? (i := 21) rfl)
theorem w23 {Z : State} {a0 : Array Value} (hw : ∀ d ∈ tables_1, d.before a0 Z = true) : (Jvm.Cond.fieldLink "com/example/farcall/farcall/TransportOfProtocolPinLaw" (13 : Nat) "com/example/farcall/farcall/Transport" "TCP" "Lcom/example/farcall/farcall/Transport;").before a0 Z = true := hw _ (List.mem_of_getElem? (i := 23) rfl)
theorem w24 {Z : State} {a0 : Array Value} (hw : ∀ d ∈ tables_1, d.before a0 Z = true) : (Jvm.Cond.fieldLink "com/example/farcall/farcall/TransportOfProtocolPinLaw" (17 : Nat) "com/example/farcall/farcall/Transport" "UDP" "Lcom/example/farcall/farcall/Transport;").before a0 Z = true := hw _ (List.mem_of_getElem? (i := 24) rfl)
theorem d_vals_0 : decode prog_45_method_1_code 0 = .ok (.getstatic 10, 3) := by decide +kernel
theorem d_vals_3 : decode prog_45_method_1_code 3 = .ok (.invokevirtual 14, 3) := by decide +kernel
theorem d_vals_6 : decode prog_45_method_1_code 6 = .ok (.checkcast 15, 3) := by decide +kernel
theorem d_vals_9 : decode prog_45_method_1_code 9 = .ok (.areturn, 1) := by decide +kernel
theorem pn_vals : plainName "com/example/farcall/farcall/Transport" = true := by first | (simp [plainName, overriddenIn]; done) | decide +kernel
theorem d_op6_0 : decode prog_45_method_7_code 0 = .ok (.aconst_null, 1) := by decide +kernel
theorem d_op6_1 : decode prog_45_method_7_code 1 = .ok (.astore_n 1, 1) := by decide +kernel
theorem d_op6_2 : decode prog_45_method_7_code 2 = .ok (.invokestatic 40, 3) := by decide +kernel
theorem pd_0 : parseMethodDescriptor "()[Lcom/example/farcall/farcall/Transport;" = some ⟨[], some (.array (.object "com/example/farcall/farcall/Transport"))⟩ := by decide +kernel
theorem d_op6_5 : decode prog_45_method_7_code 5 = .ok (.astore_n 2, 1) := by decide +kernel
theorem d_op6_6 : decode prog_45_method_7_code 6 = .ok (.aload_n 2, 1) := by decide +kernel
theorem d_op6_7 : decode prog_45_method_7_code 7 = .ok (.arraylength, 1) := by decide +kernel
theorem d_op6_8 : decode prog_45_method_7_code 8 = .ok (.istore_n 3, 1) := by decide +kernel
theorem d_op6_9 : decode prog_45_method_7_code 9 = .ok (.iconst 0, 1) := by decide +kernel
theorem d_op6_10 : decode prog_45_method_7_code 10 = .ok (.istore 4, 2) := by decide +kernel
theorem d_op6_12 : decode prog_45_method_7_code 12 = .ok (.iload 4, 2) := by decide +kernel
theorem d_op6_14 : decode prog_45_method_7_code 14 = .ok (.iload_n 3, 1) := by decide +kernel
theorem d_op6_15 : decode prog_45_method_7_code 15 = .ok (.if_icmp .ge 30, 3) := by decide +kernel
theorem d_op6_18 : decode prog_45_method_7_code 18 = .ok (.aload_n 2, 1) := by decide +kernel
theorem d_op6_19 : decode prog_45_method_7_code 19 = .ok (.iload 4, 2) := by decide +kernel
theorem d_op6_21 : decode prog_45_method_7_code 21 = .ok (.aaload, 1) := by decide +kernel
theorem d_op6_22 : decode prog_45_method_7_code 22 = .ok (.astore 5, 2) := by decide +kernel
theorem d_op6_24 : decode prog_45_method_7_code 24 = .ok (.aload 5, 2) := by decide +kernel
theorem d_op6_26 : decode prog_45_method_7_code 26 = .ok (.getfield 29, 3) := by decide +kernel
theorem d_op6_29 : decode prog_45_method_7_code 29 = .ok (.iload_n 0, 1) := by decide +kernel
theorem d_op6_30 : decode prog_45_method_7_code 30 = .ok (.if_icmp .ne 9, 3) := by decide +kernel
theorem d_op6_33 : decode prog_45_method_7_code 33 = .ok (.aload 5, 2) := by decide +kernel
theorem d_op6_35 : decode prog_45_method_7_code 35 = .ok (.astore_n 1, 1) := by decide +kernel
theorem d_op6_36 : decode prog_45_method_7_code 36 = .ok (.goto 9, 3) := by decide +kernel
theorem d_op6_45 : decode prog_45_method_7_code 45 = .ok (.aload_n 1, 1) := by decide +kernel
theorem d_op6_46 : decode prog_45_method_7_code 46 = .ok (.areturn, 1) := by decide +kernel
theorem pn_op6 : plainName "com/example/farcall/farcall/Transport" = true := by first | (simp [plainName, overriddenIn]; done) | decide +kernel
theorem d_op17_0 : decode prog_45_method_7_code 0 = .ok (.aconst_null, 1) := by decide +kernel
theorem d_op17_1 : decode prog_45_method_7_code 1 = .ok (.astore_n 1, 1) := by decide +kernel
theorem d_op17_2 : decode prog_45_method_7_code 2 = .ok (.invokestatic 40, 3) := by decide +kernel
theorem d_op17_5 : decode prog_45_method_7_code 5 = .ok (.astore_n 2, 1) := by decide +kernel
theorem d_op17_6 : decode prog_45_method_7_code 6 = .ok (.aload_n 2, 1) := by decide +kernel
theorem d_op17_7 : decode prog_45_method_7_code 7 = .ok (.arraylength, 1) := by decide +kernel
theorem d_op17_8 : decode prog_45_method_7_code 8 = .ok (.istore_n 3, 1) := by decide +kernel
theorem d_op17_9 : decode prog_45_method_7_code 9 = .ok (.iconst 0, 1) := by decide +kernel
theorem d_op17_10 : decode prog_45_method_7_code 10 = .ok (.istore 4, 2) := by decide +kernel
theorem d_op17_12 : decode prog_45_method_7_code 12 = .ok (.iload 4, 2) := by decide +kernel
theorem d_op17_14 : decode prog_45_method_7_code 14 = .ok (.iload_n 3, 1) := by decide +kernel
theorem d_op17_15 : decode prog_45_method_7_code 15 = .ok (.if_icmp .ge 30, 3) := by decide +kernel
theorem d_op17_18 : decode prog_45_method_7_code 18 = .ok (.aload_n 2, 1) := by decide +kernel
theorem d_op17_19 : decode prog_45_method_7_code 19 = .ok (.iload 4, 2) := by decide +kernel
theorem d_op17_21 : decode prog_45_method_7_code 21 = .ok (.aaload, 1) := by decide +kernel
theorem d_op17_22 : decode prog_45_method_7_code 22 = .ok (.astore 5, 2) := by decide +kernel
theorem d_op17_24 : decode prog_45_method_7_code 24 = .ok (.aload 5, 2) := by decide +kernel
theorem d_op17_26 : decode prog_45_method_7_code 26 = .ok (.getfield 29, 3) := by decide +kernel
theorem d_op17_29 : decode prog_45_method_7_code 29 = .ok (.iload_n 0, 1) := by decide +kernel
theorem d_op17_30 : decode prog_45_method_7_code 30 = .ok (.if_icmp .ne 9, 3) := by decide +kernel
theorem d_op17_39 : decode prog_45_method_7_code 39 = .ok (.iinc 4 1, 3) := by decide +kernel
theorem d_op17_42 : decode prog_45_method_7_code 42 = .ok (.goto (-30), 3) := by decide +kernel
theorem d_op17_33 : decode prog_45_method_7_code 33 = .ok (.aload 5, 2) := by decide +kernel
theorem d_op17_35 : decode prog_45_method_7_code 35 = .ok (.astore_n 1, 1) := by decide +kernel
theorem d_op17_36 : decode prog_45_method_7_code 36 = .ok (.goto 9, 3) := by decide +kernel
theorem d_op17_45 : decode prog_45_method_7_code 45 = .ok (.aload_n 1, 1) := by decide +kernel
theorem d_op17_46 : decode prog_45_method_7_code 46 = .ok (.areturn, 1) := by decide +kernel
theorem pn_op17 : plainName "com/example/farcall/farcall/Transport" = true := by first | (simp [plainName, overriddenIn]; done) | decide +kernel
theorem d_opx_0 : decode prog_45_method_7_code 0 = .ok (.aconst_null, 1) := by decide +kernel
theorem d_opx_1 : decode prog_45_method_7_code 1 = .ok (.astore_n 1, 1) := by decide +kernel
theorem d_opx_2 : decode prog_45_method_7_code 2 = .ok (.invokestatic 40, 3) := by decide +kernel
theorem d_opx_5 : decode prog_45_method_7_code 5 = .ok (.astore_n 2, 1) := by decide +kernel
theorem d_opx_6 : decode prog_45_method_7_code 6 = .ok (.aload_n 2, 1) := by decide +kernel
theorem d_opx_7 : decode prog_45_method_7_code 7 = .ok (.arraylength, 1) := by decide +kernel
theorem d_opx_8 : decode prog_45_method_7_code 8 = .ok (.istore_n 3, 1) := by decide +kernel
theorem d_opx_9 : decode prog_45_method_7_code 9 = .ok (.iconst 0, 1) := by decide +kernel
theorem d_opx_10 : decode prog_45_method_7_code 10 = .ok (.istore 4, 2) := by decide +kernel
theorem d_opx_12 : decode prog_45_method_7_code 12 = .ok (.iload 4, 2) := by decide +kernel
theorem d_opx_14 : decode prog_45_method_7_code 14 = .ok (.iload_n 3, 1) := by decide +kernel
theorem d_opx_15 : decode prog_45_method_7_code 15 = .ok (.if_icmp .ge 30, 3) := by decide +kernel
theorem d_opx_18 : decode prog_45_method_7_code 18 = .ok (.aload_n 2, 1) := by decide +kernel
theorem d_opx_19 : decode prog_45_method_7_code 19 = .ok (.iload 4, 2) := by decide +kernel
theorem d_opx_21 : decode prog_45_method_7_code 21 = .ok (.aaload, 1) := by decide +kernel
theorem d_opx_22 : decode prog_45_method_7_code 22 = .ok (.astore 5, 2) := by decide +kernel
theorem d_opx_24 : decode prog_45_method_7_code 24 = .ok (.aload 5, 2) := by decide +kernel
theorem d_opx_26 : decode prog_45_method_7_code 26 = .ok (.getfield 29, 3) := by decide +kernel
theorem d_opx_29 : decode prog_45_method_7_code 29 = .ok (.iload_n 0, 1) := by decide +kernel
theorem d_opx_30 : decode prog_45_method_7_code 30 = .ok (.if_icmp .ne 9, 3) := by decide +kernel
theorem d_opx_39 : decode prog_45_method_7_code 39 = .ok (.iinc 4 1, 3) := by decide +kernel
theorem d_opx_42 : decode prog_45_method_7_code 42 = .ok (.goto (-30), 3) := by decide +kernel
theorem d_opx_45 : decode prog_45_method_7_code 45 = .ok (.aload_n 1, 1) := by decide +kernel
theorem d_opx_46 : decode prog_45_method_7_code 46 = .ok (.areturn, 1) := by decide +kernel
theorem pn_opx : plainName "com/example/farcall/farcall/Transport" = true := by first | (simp [plainName, overriddenIn]; done) | decide +kernel
theorem pd_1 : parseMethodDescriptor "(I)Lcom/example/farcall/farcall/Transport;" = some ⟨[.int], some (.object "com/example/farcall/farcall/Transport")⟩ := by decide +kernel
theorem pn_law : plainName "com/example/farcall/farcall/TransportOfProtocolPinLaw" = true := by first | (simp [plainName, overriddenIn]; done) | decide +kernel
def Q_vals (Z : State) (va : Addr) (kid : ClassId) (f : Nat → Value) (g0 : Addr) (g1 : Addr) (h0 : Heap) (n0 : Nat) (v : Option Value) (h : Heap) (L : List Loc) : Prop := ∃ (r : Addr), v = some (.ref r) ∧ Fr n0 L ∧ Keep h0 h [] ∧ Af Z h r kid (.object "com/example/farcall/farcall/Transport") 2 (updV (updV f 0 (.ref g0)) 1 (.ref g1)) ∧ Exa Z h r "[Lcom/example/farcall/farcall/Transport;" ∧ n0 ≤ r
theorem ef_vals (m : MethodId) : entryFrame m #[] 0 = mkF m 0 #[] [] := by first | (simp [entryFrame, mkF, argsToLocals, Value.category]; done) | rfl
set_option maxRecDepth 65536 in
set_option maxHeartbeats 40000000 in
theorem rm_vals (l : Launch) (Z : State) (a0 : Array Value) (hw : ∀ d ∈ tables_1, d.before a0 Z = true) (va : Addr) (kid : ClassId) (f : Nat → Value) (g0 : Addr) (g1 : Addr) (h0 : Heap) (n0 : Nat) (Z0 : n0 ≤ h0.size) (f0 : Sta Z h0 "com/example/farcall/farcall/Transport" "$VALUES" "[Lcom/example/farcall/farcall/Transport;" (.ref va)) (f1 : Af Z h0 va kid (.object "com/example/farcall/farcall/Transport") 2 (updV (updV f 0 (.ref g0)) 1 (.ref g1))) (f2 : Exa Z h0 va "[Lcom/example/farcall/farcall/Transport;") (f3 : ∀ cl : Cell, h0[va]? = some cl → FitC Z cl) :
    Met l Z (⟨"com/example/farcall/farcall/Transport", "values", "()[Lcom/example/farcall/farcall/Transport;"⟩ : MethodName) prog_45_method_1_code 0 (Option.some (Jvm.ClassFile.FieldType.array (Jvm.ClassFile.FieldType.object "com/example/farcall/farcall/Transport"))) [] ({ frames := 1, cells := 1, slots := 2, locals := 14 } : Room) #[] h0 (Q_vals Z va kid f g0 g1 h0 n0) := by
  refine Met.of (plainFor_of_name pn_vals) ?_
  intro p e s m below meth c s₁ X0 hx hby hml hZ hown hnm e0 hret hlk
  refine Go.cast (ef_vals m ) ?_
  show Go _ _ _ _ s₁ (mkF m 0 #[] []) _ _ _
  have N0 := Fr.nil n0
  refine Go.getS X0 hx hZ hown (w7 hw) Via.refl e0 f0 (hb hby d_vals_0) ?_
  intro T1 X1 e1
  show Go _ _ _ _ T1 (mkF m 3 #[] [(.ref va)]) _ _ _
  refine Go.clone (W := 0) (cap := 2) X1 hx hZ hown (w9 hw) (w10 hw) (w14 hw) (w12 hw) (w13 hw) (w15 hw) e1 f1 f2 f3 (hb hby d_vals_3) (by rw [hml]; rfl) (Nat.le_of_eq rfl) (by decide) (by decide) (by decide) (by decide) (by decide) ?_
  intro T2 h2 a2 b2 X2 e2 E2 A2 G2
  have g_a2 : n0 ≤ a2 := by rw [b2]; exact Z0
  have y_a2 : h0.size ≤ a2 := by rw [b2]; exact (Nat.le_refl _)
  have ne_va_a2 : va ≠ a2 := by rw [b2]; exact Nat.ne_of_lt f1.lt
  have Z2 : n0 ≤ h2.size := Nat.le_trans Z0 E2.1
  have B2 : h0.size ≤ h2.size := Nat.le_trans (Nat.le_refl _) E2.1
  show Go _ _ _ _ T2 (mkF m 6 #[] [(.ref a2)]) _ _ _
  refine Go.ccast X2 hx hZ hown (w19 hw) e2 (Ins.self G2) (hb hby d_vals_6) ?_
  intro T3 X3 e3
  show Go _ _ _ _ T3 (mkF m 9 #[] [(.ref a2)]) _ _ _
  refine Go.retR X3 hx hlk hret rfl rfl (hb hby d_vals_9) (by decide) (by decide) ?_
  rw [e3]
  exact ⟨a2, rfl, N0, (Keep.ext (Keep.refl _ _) E2), A2, G2, g_a2⟩
def Q_op6 (Z : State) (va : Addr) (kid : ClassId) (f : Nat → Value) (g0 : Addr) (g1 : Addr) (h0 : Heap) (n0 : Nat) (v : Option Value) (h : Heap) (L : List Loc) : Prop := v = some (.ref g0) ∧ Fr n0 L ∧ Keep h0 h []
theorem ef_op6 (m : MethodId) (x0 : Int32) : entryFrame m #[(.int x0)] 6 = mkF m 0 #[.val (.int x0), .unset, .unset, .unset, .unset, .unset] [] := by first | (simp [entryFrame, mkF, argsToLocals, Value.category]; done) | rfl
set_option maxRecDepth 65536 in
set_option maxHeartbeats 40000000 in
theorem rm_op6 (l : Launch) (Z : State) (a0 : Array Value) (hw : ∀ d ∈ tables_1, d.before a0 Z = true) (va : Addr) (kid : ClassId) (f : Nat → Value) (g0 : Addr) (g1 : Addr) (h0 : Heap) (n0 : Nat) (Z0 : n0 ≤ h0.size) (f0 : Sta Z h0 "com/example/farcall/farcall/Transport" "$VALUES" "[Lcom/example/farcall/farcall/Transport;" (.ref va)) (f1 : Af Z h0 va kid (.object "com/example/farcall/farcall/Transport") 2 (updV (updV f 0 (.ref g0)) 1 (.ref g1))) (f2 : Exa Z h0 va "[Lcom/example/farcall/farcall/Transport;") (f3 : ∀ cl : Cell, h0[va]? = some cl → FitC Z cl) (f4 : Fld Z h0 g0 "com/example/farcall/farcall/Transport" "protocol" "I" (.int (6 : Int32))) (f5 : Fld Z h0 g1 "com/example/farcall/farcall/Transport" "protocol" "I" (.int (17 : Int32))) :
    Met l Z (⟨"com/example/farcall/farcall/Transport", "ofProtocol", "(I)Lcom/example/farcall/farcall/Transport;"⟩ : MethodName) prog_45_method_7_code 6 (Option.some (Jvm.ClassFile.FieldType.object "com/example/farcall/farcall/Transport")) [] ({ frames := 2, cells := 1, slots := 2, locals := 25 } : Room) #[(.int (6 : Int32))] h0 (Q_op6 Z va kid f g0 g1 h0 n0) := by
  refine Met.of (plainFor_of_name pn_op6) ?_
  intro p e s m below meth c s₁ X0 hx hby hml hZ hown hnm e0 hret hlk
  refine Go.cast (ef_op6 m ((6 : Int32))) ?_
  show Go _ _ _ _ s₁ (mkF m 0 #[.val (.int (6 : Int32)), .unset, .unset, .unset, .unset, .unset] []) _ _ _
  have N0 := Fr.nil n0
  refine Go.aconst_null X0 hx (hb hby d_op6_0) ?_
  show Go _ _ _ _ s₁ (mkF m 1 #[.val (.int (6 : Int32)), .unset, .unset, .unset, .unset, .unset] [.null]) _ _ _
  refine Go.astoreN X0 hx (hb hby d_op6_1) rfl (l' := #[.val (.int (6 : Int32)), .val .null, .unset, .unset, .unset, .unset]) rfl ?_
  show Go _ _ _ _ s₁ (mkF m 2 #[.val (.int (6 : Int32)), .val .null, .unset, .unset, .unset, .unset] []) _ _ _
  refine Go.callS (W := 0) (argsL := []) (rest := []) X0 hx hZ hown (w4 hw) (w5 hw) (w2 hw) (w6 hw) (by decide) (rm_vals l Z a0 hw va kid f g0 g1 h0 n0 Z0 f0 f1 f2 f3) e0 (lenOf pd_0 rfl) (hb hby d_op6_2) (by rw [hml]; rfl) rfl (Nat.le_of_eq rfl) (by decide) (by decide) (by decide) (by decide) ?_
  intro v4 T4 L4 X4 q4
  obtain ⟨r4, rfl, M4, K4, P4_0, P4_1, P4_2⟩ := q4
  have N4 := Fr.app N0 M4
  have Z4 : n0 ≤ T4.heap.size := Nat.le_trans Z0 K4.1
  have B4 : h0.size ≤ T4.heap.size := Nat.le_trans (Nat.le_refl _) K4.1
  show Go _ _ _ _ T4 (mkF m 5 #[.val (.int (6 : Int32)), .val .null, .unset, .unset, .unset, .unset] [(.ref r4)]) _ _ _
  refine Go.astoreN X4 hx (hb hby d_op6_5) rfl (l' := #[.val (.int (6 : Int32)), .val .null, .val (.ref r4), .unset, .unset, .unset]) rfl ?_
  show Go _ _ _ _ T4 (mkF m 6 #[.val (.int (6 : Int32)), .val .null, .val (.ref r4), .unset, .unset, .unset] []) _ _ _
  refine Go.aloadN X4 hx (hb hby d_op6_6) rfl rfl ?_
  show Go _ _ _ _ T4 (mkF m 7 #[.val (.int (6 : Int32)), .val .null, .val (.ref r4), .unset, .unset, .unset] [(.ref r4)]) _ _ _
  refine Go.alen X4 hx hZ rfl P4_0 (hb hby d_op6_7) ?_
  show Go _ _ _ _ T4 (mkF m 8 #[.val (.int (6 : Int32)), .val .null, .val (.ref r4), .unset, .unset, .unset] [(.int (2 : Int32))]) _ _ _
  refine Go.istoreN X4 hx (hb hby d_op6_8) (l' := #[.val (.int (6 : Int32)), .val .null, .val (.ref r4), .val (.int (2 : Int32)), .unset, .unset]) rfl ?_
  show Go _ _ _ _ T4 (mkF m 9 #[.val (.int (6 : Int32)), .val .null, .val (.ref r4), .val (.int (2 : Int32)), .unset, .unset] []) _ _ _
  refine Go.iconst X4 hx (hb hby d_op6_9) ?_
  show Go _ _ _ _ T4 (mkF m 10 #[.val (.int (6 : Int32)), .val .null, .val (.ref r4), .val (.int (2 : Int32)), .unset, .unset] [(.int (0 : Int32))]) _ _ _
  refine Go.istore X4 hx (hb hby d_op6_10) (l' := #[.val (.int (6 : Int32)), .val .null, .val (.ref r4), .val (.int (2 : Int32)), .val (.int (0 : Int32)), .unset]) rfl ?_
  show Go _ _ _ _ T4 (mkF m 12 #[.val (.int (6 : Int32)), .val .null, .val (.ref r4), .val (.int (2 : Int32)), .val (.int (0 : Int32)), .unset] []) _ _ _
  refine Go.iload X4 hx (hb hby d_op6_12) rfl ?_
  show Go _ _ _ _ T4 (mkF m 14 #[.val (.int (6 : Int32)), .val .null, .val (.ref r4), .val (.int (2 : Int32)), .val (.int (0 : Int32)), .unset] [(.int (0 : Int32))]) _ _ _
  refine Go.iloadN X4 hx (hb hby d_op6_14) rfl ?_
  show Go _ _ _ _ T4 (mkF m 15 #[.val (.int (6 : Int32)), .val .null, .val (.ref r4), .val (.int (2 : Int32)), .val (.int (0 : Int32)), .unset] [(.int (2 : Int32)), (.int (0 : Int32))]) _ _ _
  refine Go.icmpNo X4 hx (hb hby d_op6_15) (XT.ii_ge_f (by decide)) ?_
  show Go _ _ _ _ T4 (mkF m 18 #[.val (.int (6 : Int32)), .val .null, .val (.ref r4), .val (.int (2 : Int32)), .val (.int (0 : Int32)), .unset] []) _ _ _
  refine Go.aloadN X4 hx (hb hby d_op6_18) rfl rfl ?_
  show Go _ _ _ _ T4 (mkF m 19 #[.val (.int (6 : Int32)), .val .null, .val (.ref r4), .val (.int (2 : Int32)), .val (.int (0 : Int32)), .unset] [(.ref r4)]) _ _ _
  refine Go.iload X4 hx (hb hby d_op6_19) rfl ?_
  show Go _ _ _ _ T4 (mkF m 21 #[.val (.int (6 : Int32)), .val .null, .val (.ref r4), .val (.int (2 : Int32)), .val (.int (0 : Int32)), .unset] [(.int (0 : Int32)), (.ref r4)]) _ _ _
  refine Go.aaload X4 hx hZ rfl P4_0 rfl (by decide) (by decide) (hb hby d_op6_21) ?_
  show Go _ _ _ _ T4 (mkF m 22 #[.val (.int (6 : Int32)), .val .null, .val (.ref r4), .val (.int (2 : Int32)), .val (.int (0 : Int32)), .unset] [(.ref g0)]) _ _ _
  refine Go.astore X4 hx (hb hby d_op6_22) rfl (l' := #[.val (.int (6 : Int32)), .val .null, .val (.ref r4), .val (.int (2 : Int32)), .val (.int (0 : Int32)), .val (.ref g0)]) rfl ?_
  show Go _ _ _ _ T4 (mkF m 24 #[.val (.int (6 : Int32)), .val .null, .val (.ref r4), .val (.int (2 : Int32)), .val (.int (0 : Int32)), .val (.ref g0)] []) _ _ _
  refine Go.aload X4 hx (hb hby d_op6_24) rfl rfl ?_
  show Go _ _ _ _ T4 (mkF m 26 #[.val (.int (6 : Int32)), .val .null, .val (.ref r4), .val (.int (2 : Int32)), .val (.int (0 : Int32)), .val (.ref g0)] [(.ref g0)]) _ _ _
  refine Go.getF X4 hx hZ hown (w21 hw) Via.refl rfl (Fld.keep f4 K4 nin0) (hb hby d_op6_26) ?_
  intro T5 X5 e5
  show Go _ _ _ _ T5 (mkF m 29 #[.val (.int (6 : Int32)), .val .null, .val (.ref r4), .val (.int (2 : Int32)), .val (.int (0 : Int32)), .val (.ref g0)] [(.int (6 : Int32))]) _ _ _
  refine Go.iloadN X5 hx (hb hby d_op6_29) rfl ?_
  show Go _ _ _ _ T5 (mkF m 30 #[.val (.int (6 : Int32)), .val .null, .val (.ref r4), .val (.int (2 : Int32)), .val (.int (0 : Int32)), .val (.ref g0)] [(.int (6 : Int32)), (.int (6 : Int32))]) _ _ _
  refine Go.icmpNo X5 hx (hb hby d_op6_30) (XT.ii_ne_f (by decide)) ?_
  show Go _ _ _ _ T5 (mkF m 33 #[.val (.int (6 : Int32)), .val .null, .val (.ref r4), .val (.int (2 : Int32)), .val (.int (0 : Int32)), .val (.ref g0)] []) _ _ _
  refine Go.aload X5 hx (hb hby d_op6_33) rfl rfl ?_
  show Go _ _ _ _ T5 (mkF m 35 #[.val (.int (6 : Int32)), .val .null, .val (.ref r4), .val (.int (2 : Int32)), .val (.int (0 : Int32)), .val (.ref g0)] [(.ref g0)]) _ _ _
  refine Go.astoreN X5 hx (hb hby d_op6_35) rfl (l' := #[.val (.int (6 : Int32)), .val (.ref g0), .val (.ref r4), .val (.int (2 : Int32)), .val (.int (0 : Int32)), .val (.ref g0)]) rfl ?_
  show Go _ _ _ _ T5 (mkF m 36 #[.val (.int (6 : Int32)), .val (.ref g0), .val (.ref r4), .val (.int (2 : Int32)), .val (.int (0 : Int32)), .val (.ref g0)] []) _ _ _
  refine Go.goto X5 hx (hb hby d_op6_36) (pc' := 45) (by decide) (by decide) ?_
  show Go _ _ _ _ T5 (mkF m 45 #[.val (.int (6 : Int32)), .val (.ref g0), .val (.ref r4), .val (.int (2 : Int32)), .val (.int (0 : Int32)), .val (.ref g0)] []) _ _ _
  refine Go.aloadN X5 hx (hb hby d_op6_45) rfl rfl ?_
  show Go _ _ _ _ T5 (mkF m 46 #[.val (.int (6 : Int32)), .val (.ref g0), .val (.ref r4), .val (.int (2 : Int32)), .val (.int (0 : Int32)), .val (.ref g0)] [(.ref g0)]) _ _ _
  refine Go.retR X5 hx hlk hret rfl rfl (hb hby d_op6_46) (by decide) (by decide) ?_
  rw [e5]
  exact ⟨rfl, N4, (Keep.trans (Keep.refl _ _) K4 all0)⟩
def Q_op17 (Z : State) (va : Addr) (kid : ClassId) (f : Nat → Value) (g0 : Addr) (g1 : Addr) (h0 : Heap) (n0 : Nat) (v : Option Value) (h : Heap) (L : List Loc) : Prop := v = some (.ref g1) ∧ Fr n0 L ∧ Keep h0 h []
theorem ef_op17 (m : MethodId) (x0 : Int32) : entryFrame m #[(.int x0)] 6 = mkF m 0 #[.val (.int x0), .unset, .unset, .unset, .unset, .unset] [] := by first | (simp [entryFrame, mkF, argsToLocals, Value.category]; done) | rfl
set_option maxRecDepth 65536 in
set_option maxHeartbeats 40000000 in
theorem rm_op17 (l : Launch) (Z : State) (a0 : Array Value) (hw : ∀ d ∈ tables_1, d.before a0 Z = true) (va : Addr) (kid : ClassId) (f : Nat → Value) (g0 : Addr) (g1 : Addr) (h0 : Heap) (n0 : Nat) (Z0 : n0 ≤ h0.size) (f0 : Sta Z h0 "com/example/farcall/farcall/Transport" "$VALUES" "[Lcom/example/farcall/farcall/Transport;" (.ref va)) (f1 : Af Z h0 va kid (.object "com/example/farcall/farcall/Transport") 2 (updV (updV f 0 (.ref g0)) 1 (.ref g1))) (f2 : Exa Z h0 va "[Lcom/example/farcall/farcall/Transport;") (f3 : ∀ cl : Cell, h0[va]? = some cl → FitC Z cl) (f4 : Fld Z h0 g0 "com/example/farcall/farcall/Transport" "protocol" "I" (.int (6 : Int32))) (f5 : Fld Z h0 g1 "com/example/farcall/farcall/Transport" "protocol" "I" (.int (17 : Int32))) :
    Met l Z (⟨"com/example/farcall/farcall/Transport", "ofProtocol", "(I)Lcom/example/farcall/farcall/Transport;"⟩ : MethodName) prog_45_method_7_code 6 (Option.some (Jvm.ClassFile.FieldType.object "com/example/farcall/farcall/Transport")) [] ({ frames := 2, cells := 1, slots := 2, locals := 25 } : Room) #[(.int (17 : Int32))] h0 (Q_op17 Z va kid f g0 g1 h0 n0) := by
  refine Met.of (plainFor_of_name pn_op17) ?_
  intro p e s m below meth c s₁ X0 hx hby hml hZ hown hnm e0 hret hlk
  refine Go.cast (ef_op17 m ((17 : Int32))) ?_
  show Go _ _ _ _ s₁ (mkF m 0 #[.val (.int (17 : Int32)), .unset, .unset, .unset, .unset, .unset] []) _ _ _
  have N0 := Fr.nil n0
  refine Go.aconst_null X0 hx (hb hby d_op17_0) ?_
  show Go _ _ _ _ s₁ (mkF m 1 #[.val (.int (17 : Int32)), .unset, .unset, .unset, .unset, .unset] [.null]) _ _ _
  refine Go.astoreN X0 hx (hb hby d_op17_1) rfl (l' := #[.val (.int (17 : Int32)), .val .null, .unset, .unset, .unset, .unset]) rfl ?_
  show Go _ _ _ _ s₁ (mkF m 2 #[.val (.int (17 : Int32)), .val .null, .unset, .unset, .unset, .unset] []) _ _ _
  refine Go.callS (W := 0) (argsL := []) (rest := []) X0 hx hZ hown (w4 hw) (w5 hw) (w2 hw) (w6 hw) (by decide) (rm_vals l Z a0 hw va kid f g0 g1 h0 n0 Z0 f0 f1 f2 f3) e0 (lenOf pd_0 rfl) (hb hby d_op17_2) (by rw [hml]; rfl) rfl (Nat.le_of_eq rfl) (by decide) (by decide) (by decide) (by decide) ?_
  intro v6 T6 L6 X6 q6
  obtain ⟨r6, rfl, M6, K6, P6_0, P6_1, P6_2⟩ := q6
  have N6 := Fr.app N0 M6
  have Z6 : n0 ≤ T6.heap.size := Nat.le_trans Z0 K6.1
  have B6 : h0.size ≤ T6.heap.size := Nat.le_trans (Nat.le_refl _) K6.1
  show Go _ _ _ _ T6 (mkF m 5 #[.val (.int (17 : Int32)), .val .null, .unset, .unset, .unset, .unset] [(.ref r6)]) _ _ _
  refine Go.astoreN X6 hx (hb hby d_op17_5) rfl (l' := #[.val (.int (17 : Int32)), .val .null, .val (.ref r6), .unset, .unset, .unset]) rfl ?_
  show Go _ _ _ _ T6 (mkF m 6 #[.val (.int (17 : Int32)), .val .null, .val (.ref r6), .unset, .unset, .unset] []) _ _ _
  refine Go.aloadN X6 hx (hb hby d_op17_6) rfl rfl ?_
  show Go _ _ _ _ T6 (mkF m 7 #[.val (.int (17 : Int32)), .val .null, .val (.ref r6), .unset, .unset, .unset] [(.ref r6)]) _ _ _
  refine Go.alen X6 hx hZ rfl P6_0 (hb hby d_op17_7) ?_
  show Go _ _ _ _ T6 (mkF m 8 #[.val (.int (17 : Int32)), .val .null, .val (.ref r6), .unset, .unset, .unset] [(.int (2 : Int32))]) _ _ _
  refine Go.istoreN X6 hx (hb hby d_op17_8) (l' := #[.val (.int (17 : Int32)), .val .null, .val (.ref r6), .val (.int (2 : Int32)), .unset, .unset]) rfl ?_
  show Go _ _ _ _ T6 (mkF m 9 #[.val (.int (17 : Int32)), .val .null, .val (.ref r6), .val (.int (2 : Int32)), .unset, .unset] []) _ _ _
  refine Go.iconst X6 hx (hb hby d_op17_9) ?_
  show Go _ _ _ _ T6 (mkF m 10 #[.val (.int (17 : Int32)), .val .null, .val (.ref r6), .val (.int (2 : Int32)), .unset, .unset] [(.int (0 : Int32))]) _ _ _
  refine Go.istore X6 hx (hb hby d_op17_10) (l' := #[.val (.int (17 : Int32)), .val .null, .val (.ref r6), .val (.int (2 : Int32)), .val (.int (0 : Int32)), .unset]) rfl ?_
  show Go _ _ _ _ T6 (mkF m 12 #[.val (.int (17 : Int32)), .val .null, .val (.ref r6), .val (.int (2 : Int32)), .val (.int (0 : Int32)), .unset] []) _ _ _
  refine Go.iload X6 hx (hb hby d_op17_12) rfl ?_
  show Go _ _ _ _ T6 (mkF m 14 #[.val (.int (17 : Int32)), .val .null, .val (.ref r6), .val (.int (2 : Int32)), .val (.int (0 : Int32)), .unset] [(.int (0 : Int32))]) _ _ _
  refine Go.iloadN X6 hx (hb hby d_op17_14) rfl ?_
  show Go _ _ _ _ T6 (mkF m 15 #[.val (.int (17 : Int32)), .val .null, .val (.ref r6), .val (.int (2 : Int32)), .val (.int (0 : Int32)), .unset] [(.int (2 : Int32)), (.int (0 : Int32))]) _ _ _
  refine Go.icmpNo X6 hx (hb hby d_op17_15) (XT.ii_ge_f (by decide)) ?_
  show Go _ _ _ _ T6 (mkF m 18 #[.val (.int (17 : Int32)), .val .null, .val (.ref r6), .val (.int (2 : Int32)), .val (.int (0 : Int32)), .unset] []) _ _ _
  refine Go.aloadN X6 hx (hb hby d_op17_18) rfl rfl ?_
  show Go _ _ _ _ T6 (mkF m 19 #[.val (.int (17 : Int32)), .val .null, .val (.ref r6), .val (.int (2 : Int32)), .val (.int (0 : Int32)), .unset] [(.ref r6)]) _ _ _
  refine Go.iload X6 hx (hb hby d_op17_19) rfl ?_
  show Go _ _ _ _ T6 (mkF m 21 #[.val (.int (17 : Int32)), .val .null, .val (.ref r6), .val (.int (2 : Int32)), .val (.int (0 : Int32)), .unset] [(.int (0 : Int32)), (.ref r6)]) _ _ _
  refine Go.aaload X6 hx hZ rfl P6_0 rfl (by decide) (by decide) (hb hby d_op17_21) ?_
  show Go _ _ _ _ T6 (mkF m 22 #[.val (.int (17 : Int32)), .val .null, .val (.ref r6), .val (.int (2 : Int32)), .val (.int (0 : Int32)), .unset] [(.ref g0)]) _ _ _
  refine Go.astore X6 hx (hb hby d_op17_22) rfl (l' := #[.val (.int (17 : Int32)), .val .null, .val (.ref r6), .val (.int (2 : Int32)), .val (.int (0 : Int32)), .val (.ref g0)]) rfl ?_
  show Go _ _ _ _ T6 (mkF m 24 #[.val (.int (17 : Int32)), .val .null, .val (.ref r6), .val (.int (2 : Int32)), .val (.int (0 : Int32)), .val (.ref g0)] []) _ _ _
  refine Go.aload X6 hx (hb hby d_op17_24) rfl rfl ?_
  show Go _ _ _ _ T6 (mkF m 26 #[.val (.int (17 : Int32)), .val .null, .val (.ref r6), .val (.int (2 : Int32)), .val (.int (0 : Int32)), .val (.ref g0)] [(.ref g0)]) _ _ _
  refine Go.getF X6 hx hZ hown (w21 hw) Via.refl rfl (Fld.keep f4 K6 nin0) (hb hby d_op17_26) ?_
  intro T7 X7 e7
  show Go _ _ _ _ T7 (mkF m 29 #[.val (.int (17 : Int32)), .val .null, .val (.ref r6), .val (.int (2 : Int32)), .val (.int (0 : Int32)), .val (.ref g0)] [(.int (6 : Int32))]) _ _ _
  refine Go.iloadN X7 hx (hb hby d_op17_29) rfl ?_
  show Go _ _ _ _ T7 (mkF m 30 #[.val (.int (17 : Int32)), .val .null, .val (.ref r6), .val (.int (2 : Int32)), .val (.int (0 : Int32)), .val (.ref g0)] [(.int (17 : Int32)), (.int (6 : Int32))]) _ _ _
  refine Go.icmpYes X7 hx (hb hby d_op17_30) (XT.ii_ne_t (by decide)) (pc' := 39) (by decide) (by decide) ?_
  show Go _ _ _ _ T7 (mkF m 39 #[.val (.int (17 : Int32)), .val .null, .val (.ref r6), .val (.int (2 : Int32)), .val (.int (0 : Int32)), .val (.ref g0)] []) _ _ _
  refine Go.iinc X7 hx (hb hby d_op17_39) rfl (l' := #[.val (.int (17 : Int32)), .val .null, .val (.ref r6), .val (.int (2 : Int32)), .val (.int (1 : Int32)), .val (.ref g0)]) rfl ?_
  show Go _ _ _ _ T7 (mkF m 42 #[.val (.int (17 : Int32)), .val .null, .val (.ref r6), .val (.int (2 : Int32)), .val (.int (1 : Int32)), .val (.ref g0)] []) _ _ _
  refine Go.goto X7 hx (hb hby d_op17_42) (pc' := 12) (by decide) (by decide) ?_
  show Go _ _ _ _ T7 (mkF m 12 #[.val (.int (17 : Int32)), .val .null, .val (.ref r6), .val (.int (2 : Int32)), .val (.int (1 : Int32)), .val (.ref g0)] []) _ _ _
  refine Go.iload X7 hx (hb hby d_op17_12) rfl ?_
  show Go _ _ _ _ T7 (mkF m 14 #[.val (.int (17 : Int32)), .val .null, .val (.ref r6), .val (.int (2 : Int32)), .val (.int (1 : Int32)), .val (.ref g0)] [(.int (1 : Int32))]) _ _ _
  refine Go.iloadN X7 hx (hb hby d_op17_14) rfl ?_
  show Go _ _ _ _ T7 (mkF m 15 #[.val (.int (17 : Int32)), .val .null, .val (.ref r6), .val (.int (2 : Int32)), .val (.int (1 : Int32)), .val (.ref g0)] [(.int (2 : Int32)), (.int (1 : Int32))]) _ _ _
  refine Go.icmpNo X7 hx (hb hby d_op17_15) (XT.ii_ge_f (by decide)) ?_
  show Go _ _ _ _ T7 (mkF m 18 #[.val (.int (17 : Int32)), .val .null, .val (.ref r6), .val (.int (2 : Int32)), .val (.int (1 : Int32)), .val (.ref g0)] []) _ _ _
  refine Go.aloadN X7 hx (hb hby d_op17_18) rfl rfl ?_
  show Go _ _ _ _ T7 (mkF m 19 #[.val (.int (17 : Int32)), .val .null, .val (.ref r6), .val (.int (2 : Int32)), .val (.int (1 : Int32)), .val (.ref g0)] [(.ref r6)]) _ _ _
  refine Go.iload X7 hx (hb hby d_op17_19) rfl ?_
  show Go _ _ _ _ T7 (mkF m 21 #[.val (.int (17 : Int32)), .val .null, .val (.ref r6), .val (.int (2 : Int32)), .val (.int (1 : Int32)), .val (.ref g0)] [(.int (1 : Int32)), (.ref r6)]) _ _ _
  refine Go.aaload X7 hx hZ e7 P6_0 rfl (by decide) (by decide) (hb hby d_op17_21) ?_
  show Go _ _ _ _ T7 (mkF m 22 #[.val (.int (17 : Int32)), .val .null, .val (.ref r6), .val (.int (2 : Int32)), .val (.int (1 : Int32)), .val (.ref g0)] [(.ref g1)]) _ _ _
  refine Go.astore X7 hx (hb hby d_op17_22) rfl (l' := #[.val (.int (17 : Int32)), .val .null, .val (.ref r6), .val (.int (2 : Int32)), .val (.int (1 : Int32)), .val (.ref g1)]) rfl ?_
  show Go _ _ _ _ T7 (mkF m 24 #[.val (.int (17 : Int32)), .val .null, .val (.ref r6), .val (.int (2 : Int32)), .val (.int (1 : Int32)), .val (.ref g1)] []) _ _ _
  refine Go.aload X7 hx (hb hby d_op17_24) rfl rfl ?_
  show Go _ _ _ _ T7 (mkF m 26 #[.val (.int (17 : Int32)), .val .null, .val (.ref r6), .val (.int (2 : Int32)), .val (.int (1 : Int32)), .val (.ref g1)] [(.ref g1)]) _ _ _
  refine Go.getF X7 hx hZ hown (w21 hw) Via.refl e7 (Fld.keep f5 K6 nin0) (hb hby d_op17_26) ?_
  intro T8 X8 e8
  show Go _ _ _ _ T8 (mkF m 29 #[.val (.int (17 : Int32)), .val .null, .val (.ref r6), .val (.int (2 : Int32)), .val (.int (1 : Int32)), .val (.ref g1)] [(.int (17 : Int32))]) _ _ _
  refine Go.iloadN X8 hx (hb hby d_op17_29) rfl ?_
  show Go _ _ _ _ T8 (mkF m 30 #[.val (.int (17 : Int32)), .val .null, .val (.ref r6), .val (.int (2 : Int32)), .val (.int (1 : Int32)), .val (.ref g1)] [(.int (17 : Int32)), (.int (17 : Int32))]) _ _ _
  refine Go.icmpNo X8 hx (hb hby d_op17_30) (XT.ii_ne_f (by decide)) ?_
  show Go _ _ _ _ T8 (mkF m 33 #[.val (.int (17 : Int32)), .val .null, .val (.ref r6), .val (.int (2 : Int32)), .val (.int (1 : Int32)), .val (.ref g1)] []) _ _ _
  refine Go.aload X8 hx (hb hby d_op17_33) rfl rfl ?_
  show Go _ _ _ _ T8 (mkF m 35 #[.val (.int (17 : Int32)), .val .null, .val (.ref r6), .val (.int (2 : Int32)), .val (.int (1 : Int32)), .val (.ref g1)] [(.ref g1)]) _ _ _
  refine Go.astoreN X8 hx (hb hby d_op17_35) rfl (l' := #[.val (.int (17 : Int32)), .val (.ref g1), .val (.ref r6), .val (.int (2 : Int32)), .val (.int (1 : Int32)), .val (.ref g1)]) rfl ?_
  show Go _ _ _ _ T8 (mkF m 36 #[.val (.int (17 : Int32)), .val (.ref g1), .val (.ref r6), .val (.int (2 : Int32)), .val (.int (1 : Int32)), .val (.ref g1)] []) _ _ _
  refine Go.goto X8 hx (hb hby d_op17_36) (pc' := 45) (by decide) (by decide) ?_
  show Go _ _ _ _ T8 (mkF m 45 #[.val (.int (17 : Int32)), .val (.ref g1), .val (.ref r6), .val (.int (2 : Int32)), .val (.int (1 : Int32)), .val (.ref g1)] []) _ _ _
  refine Go.aloadN X8 hx (hb hby d_op17_45) rfl rfl ?_
  show Go _ _ _ _ T8 (mkF m 46 #[.val (.int (17 : Int32)), .val (.ref g1), .val (.ref r6), .val (.int (2 : Int32)), .val (.int (1 : Int32)), .val (.ref g1)] [(.ref g1)]) _ _ _
  refine Go.retR X8 hx hlk hret rfl rfl (hb hby d_op17_46) (by decide) (by decide) ?_
  rw [e8]
  exact ⟨rfl, N6, (Keep.trans (Keep.refl _ _) K6 all0)⟩
def Q_opx (Z : State) (p0 : Int32) (va : Addr) (kid : ClassId) (f : Nat → Value) (g0 : Addr) (g1 : Addr) (h0 : Heap) (n0 : Nat) (v : Option Value) (h : Heap) (L : List Loc) : Prop := v = some .null ∧ Fr n0 L ∧ Keep h0 h []
theorem ef_opx (m : MethodId) (x0 : Int32) : entryFrame m #[(.int x0)] 6 = mkF m 0 #[.val (.int x0), .unset, .unset, .unset, .unset, .unset] [] := by first | (simp [entryFrame, mkF, argsToLocals, Value.category]; done) | rfl
set_option maxRecDepth 65536 in
set_option maxHeartbeats 40000000 in
theorem rm_opx (l : Launch) (Z : State) (a0 : Array Value) (hw : ∀ d ∈ tables_1, d.before a0 Z = true) (p0 : Int32) (va : Addr) (kid : ClassId) (f : Nat → Value) (g0 : Addr) (g1 : Addr) (h0 : Heap) (n0 : Nat) (Z0 : n0 ≤ h0.size) (f0 : Sta Z h0 "com/example/farcall/farcall/Transport" "$VALUES" "[Lcom/example/farcall/farcall/Transport;" (.ref va)) (f1 : Af Z h0 va kid (.object "com/example/farcall/farcall/Transport") 2 (updV (updV f 0 (.ref g0)) 1 (.ref g1))) (f2 : Exa Z h0 va "[Lcom/example/farcall/farcall/Transport;") (f3 : ∀ cl : Cell, h0[va]? = some cl → FitC Z cl) (f4 : Fld Z h0 g0 "com/example/farcall/farcall/Transport" "protocol" "I" (.int (6 : Int32))) (f5 : Fld Z h0 g1 "com/example/farcall/farcall/Transport" "protocol" "I" (.int (17 : Int32))) (f6 : ¬ (6 : Int32) = p0) (f7 : ¬ (17 : Int32) = p0) :
    Met l Z (⟨"com/example/farcall/farcall/Transport", "ofProtocol", "(I)Lcom/example/farcall/farcall/Transport;"⟩ : MethodName) prog_45_method_7_code 6 (Option.some (Jvm.ClassFile.FieldType.object "com/example/farcall/farcall/Transport")) [] ({ frames := 2, cells := 1, slots := 2, locals := 25 } : Room) #[(.int p0)] h0 (Q_opx Z p0 va kid f g0 g1 h0 n0) := by
  refine Met.of (plainFor_of_name pn_opx) ?_
  intro p e s m below meth c s₁ X0 hx hby hml hZ hown hnm e0 hret hlk
  refine Go.cast (ef_opx m p0) ?_
  show Go _ _ _ _ s₁ (mkF m 0 #[.val (.int p0), .unset, .unset, .unset, .unset, .unset] []) _ _ _
  have N0 := Fr.nil n0
  refine Go.aconst_null X0 hx (hb hby d_opx_0) ?_
  show Go _ _ _ _ s₁ (mkF m 1 #[.val (.int p0), .unset, .unset, .unset, .unset, .unset] [.null]) _ _ _
  refine Go.astoreN X0 hx (hb hby d_opx_1) rfl (l' := #[.val (.int p0), .val .null, .unset, .unset, .unset, .unset]) rfl ?_
  show Go _ _ _ _ s₁ (mkF m 2 #[.val (.int p0), .val .null, .unset, .unset, .unset, .unset] []) _ _ _
  refine Go.callS (W := 0) (argsL := []) (rest := []) X0 hx hZ hown (w4 hw) (w5 hw) (w2 hw) (w6 hw) (by decide) (rm_vals l Z a0 hw va kid f g0 g1 h0 n0 Z0 f0 f1 f2 f3) e0 (lenOf pd_0 rfl) (hb hby d_opx_2) (by rw [hml]; rfl) rfl (Nat.le_of_eq rfl) (by decide) (by decide) (by decide) (by decide) ?_
  intro v9 T9 L9 X9 q9
  obtain ⟨r9, rfl, M9, K9, P9_0, P9_1, P9_2⟩ := q9
  have N9 := Fr.app N0 M9
  have Z9 : n0 ≤ T9.heap.size := Nat.le_trans Z0 K9.1
  have B9 : h0.size ≤ T9.heap.size := Nat.le_trans (Nat.le_refl _) K9.1
  show Go _ _ _ _ T9 (mkF m 5 #[.val (.int p0), .val .null, .unset, .unset, .unset, .unset] [(.ref r9)]) _ _ _
  refine Go.astoreN X9 hx (hb hby d_opx_5) rfl (l' := #[.val (.int p0), .val .null, .val (.ref r9), .unset, .unset, .unset]) rfl ?_
  show Go _ _ _ _ T9 (mkF m 6 #[.val (.int p0), .val .null, .val (.ref r9), .unset, .unset, .unset] []) _ _ _
  refine Go.aloadN X9 hx (hb hby d_opx_6) rfl rfl ?_
  show Go _ _ _ _ T9 (mkF m 7 #[.val (.int p0), .val .null, .val (.ref r9), .unset, .unset, .unset] [(.ref r9)]) _ _ _
  refine Go.alen X9 hx hZ rfl P9_0 (hb hby d_opx_7) ?_
  show Go _ _ _ _ T9 (mkF m 8 #[.val (.int p0), .val .null, .val (.ref r9), .unset, .unset, .unset] [(.int (2 : Int32))]) _ _ _
  refine Go.istoreN X9 hx (hb hby d_opx_8) (l' := #[.val (.int p0), .val .null, .val (.ref r9), .val (.int (2 : Int32)), .unset, .unset]) rfl ?_
  show Go _ _ _ _ T9 (mkF m 9 #[.val (.int p0), .val .null, .val (.ref r9), .val (.int (2 : Int32)), .unset, .unset] []) _ _ _
  refine Go.iconst X9 hx (hb hby d_opx_9) ?_
  show Go _ _ _ _ T9 (mkF m 10 #[.val (.int p0), .val .null, .val (.ref r9), .val (.int (2 : Int32)), .unset, .unset] [(.int (0 : Int32))]) _ _ _
  refine Go.istore X9 hx (hb hby d_opx_10) (l' := #[.val (.int p0), .val .null, .val (.ref r9), .val (.int (2 : Int32)), .val (.int (0 : Int32)), .unset]) rfl ?_
  show Go _ _ _ _ T9 (mkF m 12 #[.val (.int p0), .val .null, .val (.ref r9), .val (.int (2 : Int32)), .val (.int (0 : Int32)), .unset] []) _ _ _
  refine Go.iload X9 hx (hb hby d_opx_12) rfl ?_
  show Go _ _ _ _ T9 (mkF m 14 #[.val (.int p0), .val .null, .val (.ref r9), .val (.int (2 : Int32)), .val (.int (0 : Int32)), .unset] [(.int (0 : Int32))]) _ _ _
  refine Go.iloadN X9 hx (hb hby d_opx_14) rfl ?_
  show Go _ _ _ _ T9 (mkF m 15 #[.val (.int p0), .val .null, .val (.ref r9), .val (.int (2 : Int32)), .val (.int (0 : Int32)), .unset] [(.int (2 : Int32)), (.int (0 : Int32))]) _ _ _
  refine Go.icmpNo X9 hx (hb hby d_opx_15) (XT.ii_ge_f (by decide)) ?_
  show Go _ _ _ _ T9 (mkF m 18 #[.val (.int p0), .val .null, .val (.ref r9), .val (.int (2 : Int32)), .val (.int (0 : Int32)), .unset] []) _ _ _
  refine Go.aloadN X9 hx (hb hby d_opx_18) rfl rfl ?_
  show Go _ _ _ _ T9 (mkF m 19 #[.val (.int p0), .val .null, .val (.ref r9), .val (.int (2 : Int32)), .val (.int (0 : Int32)), .unset] [(.ref r9)]) _ _ _
  refine Go.iload X9 hx (hb hby d_opx_19) rfl ?_
  show Go _ _ _ _ T9 (mkF m 21 #[.val (.int p0), .val .null, .val (.ref r9), .val (.int (2 : Int32)), .val (.int (0 : Int32)), .unset] [(.int (0 : Int32)), (.ref r9)]) _ _ _
  refine Go.aaload X9 hx hZ rfl P9_0 rfl (by decide) (by decide) (hb hby d_opx_21) ?_
  show Go _ _ _ _ T9 (mkF m 22 #[.val (.int p0), .val .null, .val (.ref r9), .val (.int (2 : Int32)), .val (.int (0 : Int32)), .unset] [(.ref g0)]) _ _ _
  refine Go.astore X9 hx (hb hby d_opx_22) rfl (l' := #[.val (.int p0), .val .null, .val (.ref r9), .val (.int (2 : Int32)), .val (.int (0 : Int32)), .val (.ref g0)]) rfl ?_
  show Go _ _ _ _ T9 (mkF m 24 #[.val (.int p0), .val .null, .val (.ref r9), .val (.int (2 : Int32)), .val (.int (0 : Int32)), .val (.ref g0)] []) _ _ _
  refine Go.aload X9 hx (hb hby d_opx_24) rfl rfl ?_
  show Go _ _ _ _ T9 (mkF m 26 #[.val (.int p0), .val .null, .val (.ref r9), .val (.int (2 : Int32)), .val (.int (0 : Int32)), .val (.ref g0)] [(.ref g0)]) _ _ _
  refine Go.getF X9 hx hZ hown (w21 hw) Via.refl rfl (Fld.keep f4 K9 nin0) (hb hby d_opx_26) ?_
  intro T10 X10 e10
  show Go _ _ _ _ T10 (mkF m 29 #[.val (.int p0), .val .null, .val (.ref r9), .val (.int (2 : Int32)), .val (.int (0 : Int32)), .val (.ref g0)] [(.int (6 : Int32))]) _ _ _
  refine Go.iloadN X10 hx (hb hby d_opx_29) rfl ?_
  show Go _ _ _ _ T10 (mkF m 30 #[.val (.int p0), .val .null, .val (.ref r9), .val (.int (2 : Int32)), .val (.int (0 : Int32)), .val (.ref g0)] [(.int p0), (.int (6 : Int32))]) _ _ _
  refine Go.icmpYes X10 hx (hb hby d_opx_30) (XT.ii_ne_t f6) (pc' := 39) (by decide) (by decide) ?_
  show Go _ _ _ _ T10 (mkF m 39 #[.val (.int p0), .val .null, .val (.ref r9), .val (.int (2 : Int32)), .val (.int (0 : Int32)), .val (.ref g0)] []) _ _ _
  refine Go.iinc X10 hx (hb hby d_opx_39) rfl (l' := #[.val (.int p0), .val .null, .val (.ref r9), .val (.int (2 : Int32)), .val (.int (1 : Int32)), .val (.ref g0)]) rfl ?_
  show Go _ _ _ _ T10 (mkF m 42 #[.val (.int p0), .val .null, .val (.ref r9), .val (.int (2 : Int32)), .val (.int (1 : Int32)), .val (.ref g0)] []) _ _ _
  refine Go.goto X10 hx (hb hby d_opx_42) (pc' := 12) (by decide) (by decide) ?_
  show Go _ _ _ _ T10 (mkF m 12 #[.val (.int p0), .val .null, .val (.ref r9), .val (.int (2 : Int32)), .val (.int (1 : Int32)), .val (.ref g0)] []) _ _ _
  refine Go.iload X10 hx (hb hby d_opx_12) rfl ?_
  show Go _ _ _ _ T10 (mkF m 14 #[.val (.int p0), .val .null, .val (.ref r9), .val (.int (2 : Int32)), .val (.int (1 : Int32)), .val (.ref g0)] [(.int (1 : Int32))]) _ _ _
  refine Go.iloadN X10 hx (hb hby d_opx_14) rfl ?_
  show Go _ _ _ _ T10 (mkF m 15 #[.val (.int p0), .val .null, .val (.ref r9), .val (.int (2 : Int32)), .val (.int (1 : Int32)), .val (.ref g0)] [(.int (2 : Int32)), (.int (1 : Int32))]) _ _ _
  refine Go.icmpNo X10 hx (hb hby d_opx_15) (XT.ii_ge_f (by decide)) ?_
  show Go _ _ _ _ T10 (mkF m 18 #[.val (.int p0), .val .null, .val (.ref r9), .val (.int (2 : Int32)), .val (.int (1 : Int32)), .val (.ref g0)] []) _ _ _
  refine Go.aloadN X10 hx (hb hby d_opx_18) rfl rfl ?_
  show Go _ _ _ _ T10 (mkF m 19 #[.val (.int p0), .val .null, .val (.ref r9), .val (.int (2 : Int32)), .val (.int (1 : Int32)), .val (.ref g0)] [(.ref r9)]) _ _ _
  refine Go.iload X10 hx (hb hby d_opx_19) rfl ?_
  show Go _ _ _ _ T10 (mkF m 21 #[.val (.int p0), .val .null, .val (.ref r9), .val (.int (2 : Int32)), .val (.int (1 : Int32)), .val (.ref g0)] [(.int (1 : Int32)), (.ref r9)]) _ _ _
  refine Go.aaload X10 hx hZ e10 P9_0 rfl (by decide) (by decide) (hb hby d_opx_21) ?_
  show Go _ _ _ _ T10 (mkF m 22 #[.val (.int p0), .val .null, .val (.ref r9), .val (.int (2 : Int32)), .val (.int (1 : Int32)), .val (.ref g0)] [(.ref g1)]) _ _ _
  refine Go.astore X10 hx (hb hby d_opx_22) rfl (l' := #[.val (.int p0), .val .null, .val (.ref r9), .val (.int (2 : Int32)), .val (.int (1 : Int32)), .val (.ref g1)]) rfl ?_
  show Go _ _ _ _ T10 (mkF m 24 #[.val (.int p0), .val .null, .val (.ref r9), .val (.int (2 : Int32)), .val (.int (1 : Int32)), .val (.ref g1)] []) _ _ _
  refine Go.aload X10 hx (hb hby d_opx_24) rfl rfl ?_
  show Go _ _ _ _ T10 (mkF m 26 #[.val (.int p0), .val .null, .val (.ref r9), .val (.int (2 : Int32)), .val (.int (1 : Int32)), .val (.ref g1)] [(.ref g1)]) _ _ _
  refine Go.getF X10 hx hZ hown (w21 hw) Via.refl e10 (Fld.keep f5 K9 nin0) (hb hby d_opx_26) ?_
  intro T11 X11 e11
  show Go _ _ _ _ T11 (mkF m 29 #[.val (.int p0), .val .null, .val (.ref r9), .val (.int (2 : Int32)), .val (.int (1 : Int32)), .val (.ref g1)] [(.int (17 : Int32))]) _ _ _
  refine Go.iloadN X11 hx (hb hby d_opx_29) rfl ?_
  show Go _ _ _ _ T11 (mkF m 30 #[.val (.int p0), .val .null, .val (.ref r9), .val (.int (2 : Int32)), .val (.int (1 : Int32)), .val (.ref g1)] [(.int p0), (.int (17 : Int32))]) _ _ _
  refine Go.icmpYes X11 hx (hb hby d_opx_30) (XT.ii_ne_t f7) (pc' := 39) (by decide) (by decide) ?_
  show Go _ _ _ _ T11 (mkF m 39 #[.val (.int p0), .val .null, .val (.ref r9), .val (.int (2 : Int32)), .val (.int (1 : Int32)), .val (.ref g1)] []) _ _ _
  refine Go.iinc X11 hx (hb hby d_opx_39) rfl (l' := #[.val (.int p0), .val .null, .val (.ref r9), .val (.int (2 : Int32)), .val (.int (2 : Int32)), .val (.ref g1)]) rfl ?_
  show Go _ _ _ _ T11 (mkF m 42 #[.val (.int p0), .val .null, .val (.ref r9), .val (.int (2 : Int32)), .val (.int (2 : Int32)), .val (.ref g1)] []) _ _ _
  refine Go.goto X11 hx (hb hby d_opx_42) (pc' := 12) (by decide) (by decide) ?_
  show Go _ _ _ _ T11 (mkF m 12 #[.val (.int p0), .val .null, .val (.ref r9), .val (.int (2 : Int32)), .val (.int (2 : Int32)), .val (.ref g1)] []) _ _ _
  refine Go.iload X11 hx (hb hby d_opx_12) rfl ?_
  show Go _ _ _ _ T11 (mkF m 14 #[.val (.int p0), .val .null, .val (.ref r9), .val (.int (2 : Int32)), .val (.int (2 : Int32)), .val (.ref g1)] [(.int (2 : Int32))]) _ _ _
  refine Go.iloadN X11 hx (hb hby d_opx_14) rfl ?_
  show Go _ _ _ _ T11 (mkF m 15 #[.val (.int p0), .val .null, .val (.ref r9), .val (.int (2 : Int32)), .val (.int (2 : Int32)), .val (.ref g1)] [(.int (2 : Int32)), (.int (2 : Int32))]) _ _ _
  refine Go.icmpYes X11 hx (hb hby d_opx_15) (XT.ii_ge_t (by decide)) (pc' := 45) (by decide) (by decide) ?_
  show Go _ _ _ _ T11 (mkF m 45 #[.val (.int p0), .val .null, .val (.ref r9), .val (.int (2 : Int32)), .val (.int (2 : Int32)), .val (.ref g1)] []) _ _ _
  refine Go.aloadN X11 hx (hb hby d_opx_45) rfl rfl ?_
  show Go _ _ _ _ T11 (mkF m 46 #[.val (.int p0), .val .null, .val (.ref r9), .val (.int (2 : Int32)), .val (.int (2 : Int32)), .val (.ref g1)] [.null]) _ _ _
  refine Go.retR X11 hx hlk hret rfl rfl (hb hby d_opx_46) (by decide) (by decide) ?_
  rw [e11]
  exact ⟨rfl, N9, (Keep.trans (Keep.refl _ _) K9 all0)⟩
def Q_law (Z : State) (p0 : Int32) (p1 : Int32) (va : Addr) (kid : ClassId) (f : Nat → Value) (g0 : Addr) (g1 : Addr) (h0 : Heap) (n0 : Nat) (v : Option Value) (h : Heap) (L : List Loc) : Prop := v = some (.int (1 : Int32)) ∧ Fr n0 L
theorem ef_law (m : MethodId) (x0 : Int32) (x1 : Int32) : entryFrame m #[(.int x0), (.int x1)] maxLocals = mkF m 0 #[.val (.int x0), .val (.int x1), .unset, .unset, .unset, .unset] [] := by first | (simp [entryFrame, mkF, argsToLocals, Value.category, maxLocals]; done) | rfl
set_option maxRecDepth 65536 in
set_option maxHeartbeats 40000000 in
theorem rm_law (l : Launch) (Z : State) (a0 : Array Value) (hw : ∀ d ∈ tables_1, d.before a0 Z = true) (ws : List Jvm.Cond) (p0 : Int32) (p1 : Int32) (va : Addr) (kid : ClassId) (f : Nat → Value) (g0 : Addr) (g1 : Addr) (h0 : Heap) (n0 : Nat) (Z0 : n0 ≤ h0.size) (f0 : Old Z n0 h0) (f1 : Sta Z Z.heap "com/example/farcall/farcall/Transport" "$VALUES" "[Lcom/example/farcall/farcall/Transport;" (.ref va)) (f2 : Af Z Z.heap va kid (.object "com/example/farcall/farcall/Transport") 2 (updV (updV f 0 (.ref g0)) 1 (.ref g1))) (f3 : Exa Z Z.heap va "[Lcom/example/farcall/farcall/Transport;") (f4 : ∀ cl : Cell, h0[va]? = some cl → FitC Z cl) (f5 : Sta Z Z.heap "com/example/farcall/farcall/Transport" "TCP" "Lcom/example/farcall/farcall/Transport;" (.ref g0)) (f6 : Sta Z Z.heap "com/example/farcall/farcall/Transport" "UDP" "Lcom/example/farcall/farcall/Transport;" (.ref g1)) (f7 : Fld Z Z.heap g0 "com/example/farcall/farcall/Transport" "protocol" "I" (.int (6 : Int32))) (f8 : Fld Z Z.heap g1 "com/example/farcall/farcall/Transport" "protocol" "I" (.int (17 : Int32))) :
    Met l Z x code maxLocals ret ws room_1 #[(.int p0), (.int p1)] h0 (Q_law Z p0 p1 va kid f g0 g1 h0 n0) := by
  refine Met.of (plainFor_of_name pn_law) ?_
  intro p e s m below meth c s₁ X0 hx hby hml hZ hown hnm e0 hret hlk
  refine Go.cast (ef_law m p0 p1) ?_
  show Go _ _ _ _ s₁ (mkF m 0 #[.val (.int p0), .val (.int p1), .unset, .unset, .unset, .unset] []) _ _ _
  have N0 := Fr.nil n0
  refine Go.iloadN X0 hx (hb hby at_0) rfl ?_
  show Go _ _ _ _ s₁ (mkF m 1 #[.val (.int p0), .val (.int p1), .unset, .unset, .unset, .unset] [(.int p0)]) _ _ _
  refine Go.iconst X0 hx (hb hby at_1) ?_
  show Go _ _ _ _ s₁ (mkF m 2 #[.val (.int p0), .val (.int p1), .unset, .unset, .unset, .unset] [(.int (3 : Int32)), (.int p0)]) _ _ _
  refine Go.iand X0 hx (hb hby at_2) ?_
  show Go _ _ _ _ s₁ (mkF m 3 #[.val (.int p0), .val (.int p1), .unset, .unset, .unset, .unset] [(.int (p0 &&& (3 : Int32)))]) _ _ _
  refine Go.istoreN X0 hx (hb hby at_3) (l' := #[.val (.int p0), .val (.int p1), .val (.int (p0 &&& (3 : Int32))), .unset, .unset, .unset]) rfl ?_
  show Go _ _ _ _ s₁ (mkF m 4 #[.val (.int p0), .val (.int p1), .val (.int (p0 &&& (3 : Int32))), .unset, .unset, .unset] []) _ _ _
  refine Go.iloadN X0 hx (hb hby at_4) rfl ?_
  show Go _ _ _ _ s₁ (mkF m 5 #[.val (.int p0), .val (.int p1), .val (.int (p0 &&& (3 : Int32))), .unset, .unset, .unset] [(.int (p0 &&& (3 : Int32)))]) _ _ _
  rcases Decidable.em ((p0 &&& (3 : Int32)) = (0 : Int32)) with c12 | c12
  · refine Go.ifNo X0 hx (hb hby at_5) (XT.i0_ne_f c12) ?_
    show Go _ _ _ _ s₁ (mkF m 8 #[.val (.int p0), .val (.int p1), .val (.int (p0 &&& (3 : Int32))), .unset, .unset, .unset] []) _ _ _
    refine Go.bipush X0 hx (hb hby at_8) ?_
    show Go _ _ _ _ s₁ (mkF m 10 #[.val (.int p0), .val (.int p1), .val (.int (p0 &&& (3 : Int32))), .unset, .unset, .unset] [(.int (6 : Int32))]) _ _ _
    refine Go.istoreN X0 hx (hb hby at_10) (l' := #[.val (.int p0), .val (.int p1), .val (.int (p0 &&& (3 : Int32))), .val (.int (6 : Int32)), .unset, .unset]) rfl ?_
    show Go _ _ _ _ s₁ (mkF m 11 #[.val (.int p0), .val (.int p1), .val (.int (p0 &&& (3 : Int32))), .val (.int (6 : Int32)), .unset, .unset] []) _ _ _
    refine Go.goto X0 hx (hb hby at_11) (pc' := 27) (by decide) (by decide) ?_
    show Go _ _ _ _ s₁ (mkF m 27 #[.val (.int p0), .val (.int p1), .val (.int (p0 &&& (3 : Int32))), .val (.int (6 : Int32)), .unset, .unset] []) _ _ _
    refine Go.iloadN X0 hx (hb hby at_27) rfl ?_
    show Go _ _ _ _ s₁ (mkF m 28 #[.val (.int p0), .val (.int p1), .val (.int (p0 &&& (3 : Int32))), .val (.int (6 : Int32)), .unset, .unset] [(.int (6 : Int32))]) _ _ _
    have F13 := Sta.ext f0.2 f1
    have F14 := Af.ext f0.2 f2
    have F15 := Exa.ext f0.2 f3
    have F16 := Fld.ext f0.2 f7
    have F17 := Fld.ext f0.2 f8
    refine Go.callS (W := 0) (argsL := [(.int (6 : Int32))]) (rest := []) X0 hx hZ hown (w0 hw) (w1 hw) (w2 hw) (w3 hw) (by decide) (rm_op6 l Z a0 hw va kid f g0 g1 h0 n0 Z0 F13 F14 F15 f4 F16 F17) e0 (lenOf pd_1 rfl) (hb hby at_28) (by rw [hml]; rfl) rfl (Nat.le_of_eq rfl) (by decide) (by decide) (by decide) (by decide) ?_
    intro v18 T18 L18 X18 q18
    obtain ⟨rfl, M18, K18⟩ := q18
    have N18 := Fr.app N0 M18
    have Z18 : n0 ≤ T18.heap.size := Nat.le_trans Z0 K18.1
    have B18 : h0.size ≤ T18.heap.size := Nat.le_trans (Nat.le_refl _) K18.1
    show Go _ _ _ _ T18 (mkF m 31 #[.val (.int p0), .val (.int p1), .val (.int (p0 &&& (3 : Int32))), .val (.int (6 : Int32)), .unset, .unset] [(.ref g0)]) _ _ _
    refine Go.astore X18 hx (hb hby at_31) rfl (l' := #[.val (.int p0), .val (.int p1), .val (.int (p0 &&& (3 : Int32))), .val (.int (6 : Int32)), .val (.ref g0), .unset]) rfl ?_
    show Go _ _ _ _ T18 (mkF m 33 #[.val (.int p0), .val (.int p1), .val (.int (p0 &&& (3 : Int32))), .val (.int (6 : Int32)), .val (.ref g0), .unset] []) _ _ _
    refine Go.iloadN X18 hx (hb hby at_33) rfl ?_
    show Go _ _ _ _ T18 (mkF m 34 #[.val (.int p0), .val (.int p1), .val (.int (p0 &&& (3 : Int32))), .val (.int (6 : Int32)), .val (.ref g0), .unset] [(.int (6 : Int32))]) _ _ _
    refine Go.bipush X18 hx (hb hby at_34) ?_
    show Go _ _ _ _ T18 (mkF m 36 #[.val (.int p0), .val (.int p1), .val (.int (p0 &&& (3 : Int32))), .val (.int (6 : Int32)), .val (.ref g0), .unset] [(.int (6 : Int32)), (.int (6 : Int32))]) _ _ _
    refine Go.icmpNo X18 hx (hb hby at_36) (XT.ii_ne_f (by decide)) ?_
    show Go _ _ _ _ T18 (mkF m 39 #[.val (.int p0), .val (.int p1), .val (.int (p0 &&& (3 : Int32))), .val (.int (6 : Int32)), .val (.ref g0), .unset] []) _ _ _
    have O19 := (Old.keep f0 K18 all0)
    have F20 := Sta.ext O19.2 f5
    refine Go.getS X18 hx hZ hown (w23 hw) Via.refl rfl F20 (hb hby at_39) ?_
    intro T21 X21 e21
    show Go _ _ _ _ T21 (mkF m 42 #[.val (.int p0), .val (.int p1), .val (.int (p0 &&& (3 : Int32))), .val (.int (6 : Int32)), .val (.ref g0), .unset] [(.ref g0)]) _ _ _
    refine Go.astore X21 hx (hb hby at_42) rfl (l' := #[.val (.int p0), .val (.int p1), .val (.int (p0 &&& (3 : Int32))), .val (.int (6 : Int32)), .val (.ref g0), .val (.ref g0)]) rfl ?_
    show Go _ _ _ _ T21 (mkF m 44 #[.val (.int p0), .val (.int p1), .val (.int (p0 &&& (3 : Int32))), .val (.int (6 : Int32)), .val (.ref g0), .val (.ref g0)] []) _ _ _
    refine Go.goto X21 hx (hb hby at_44) (pc' := 64) (by decide) (by decide) ?_
    show Go _ _ _ _ T21 (mkF m 64 #[.val (.int p0), .val (.int p1), .val (.int (p0 &&& (3 : Int32))), .val (.int (6 : Int32)), .val (.ref g0), .val (.ref g0)] []) _ _ _
    refine Go.aload X21 hx (hb hby at_64) rfl rfl ?_
    show Go _ _ _ _ T21 (mkF m 66 #[.val (.int p0), .val (.int p1), .val (.int (p0 &&& (3 : Int32))), .val (.int (6 : Int32)), .val (.ref g0), .val (.ref g0)] [(.ref g0)]) _ _ _
    refine Go.aload X21 hx (hb hby at_66) rfl rfl ?_
    show Go _ _ _ _ T21 (mkF m 68 #[.val (.int p0), .val (.int p1), .val (.int (p0 &&& (3 : Int32))), .val (.int (6 : Int32)), .val (.ref g0), .val (.ref g0)] [(.ref g0), (.ref g0)]) _ _ _
    refine Go.acmpNo X21 hx (hb hby at_68) rfl rfl (ac_ne_p rfl) ?_
    show Go _ _ _ _ T21 (mkF m 71 #[.val (.int p0), .val (.int p1), .val (.int (p0 &&& (3 : Int32))), .val (.int (6 : Int32)), .val (.ref g0), .val (.ref g0)] []) _ _ _
    refine Go.iconst X21 hx (hb hby at_71) ?_
    show Go _ _ _ _ T21 (mkF m 72 #[.val (.int p0), .val (.int p1), .val (.int (p0 &&& (3 : Int32))), .val (.int (6 : Int32)), .val (.ref g0), .val (.ref g0)] [(.int (1 : Int32))]) _ _ _
    refine Go.goto X21 hx (hb hby at_72) (pc' := 76) (by decide) (by decide) ?_
    show Go _ _ _ _ T21 (mkF m 76 #[.val (.int p0), .val (.int p1), .val (.int (p0 &&& (3 : Int32))), .val (.int (6 : Int32)), .val (.ref g0), .val (.ref g0)] [(.int (1 : Int32))]) _ _ _
    refine Go.retZ X21 hx hlk hret (by decide) (hb hby at_76) (by decide) (by decide) ?_
    rw [e21]
    exact ⟨rfl, N18⟩
  · refine Go.ifYes X0 hx (hb hby at_5) (XT.i0_ne_t c12) (pc' := 14) (by decide) (by decide) ?_
    show Go _ _ _ _ s₁ (mkF m 14 #[.val (.int p0), .val (.int p1), .val (.int (p0 &&& (3 : Int32))), .unset, .unset, .unset] []) _ _ _
    refine Go.iloadN X0 hx (hb hby at_14) rfl ?_
    show Go _ _ _ _ s₁ (mkF m 15 #[.val (.int p0), .val (.int p1), .val (.int (p0 &&& (3 : Int32))), .unset, .unset, .unset] [(.int (p0 &&& (3 : Int32)))]) _ _ _
    refine Go.iconst X0 hx (hb hby at_15) ?_
    show Go _ _ _ _ s₁ (mkF m 16 #[.val (.int p0), .val (.int p1), .val (.int (p0 &&& (3 : Int32))), .unset, .unset, .unset] [(.int (1 : Int32)), (.int (p0 &&& (3 : Int32)))]) _ _ _
    rcases Decidable.em ((p0 &&& (3 : Int32)) = (1 : Int32)) with c22 | c22
    · refine Go.icmpNo X0 hx (hb hby at_16) (XT.ii_ne_f c22) ?_
      show Go _ _ _ _ s₁ (mkF m 19 #[.val (.int p0), .val (.int p1), .val (.int (p0 &&& (3 : Int32))), .unset, .unset, .unset] []) _ _ _
      refine Go.bipush X0 hx (hb hby at_19) ?_
      show Go _ _ _ _ s₁ (mkF m 21 #[.val (.int p0), .val (.int p1), .val (.int (p0 &&& (3 : Int32))), .unset, .unset, .unset] [(.int (17 : Int32))]) _ _ _
      refine Go.istoreN X0 hx (hb hby at_21) (l' := #[.val (.int p0), .val (.int p1), .val (.int (p0 &&& (3 : Int32))), .val (.int (17 : Int32)), .unset, .unset]) rfl ?_
      show Go _ _ _ _ s₁ (mkF m 22 #[.val (.int p0), .val (.int p1), .val (.int (p0 &&& (3 : Int32))), .val (.int (17 : Int32)), .unset, .unset] []) _ _ _
      refine Go.goto X0 hx (hb hby at_22) (pc' := 27) (by decide) (by decide) ?_
      show Go _ _ _ _ s₁ (mkF m 27 #[.val (.int p0), .val (.int p1), .val (.int (p0 &&& (3 : Int32))), .val (.int (17 : Int32)), .unset, .unset] []) _ _ _
      refine Go.iloadN X0 hx (hb hby at_27) rfl ?_
      show Go _ _ _ _ s₁ (mkF m 28 #[.val (.int p0), .val (.int p1), .val (.int (p0 &&& (3 : Int32))), .val (.int (17 : Int32)), .unset, .unset] [(.int (17 : Int32))]) _ _ _
      have F23 := Sta.ext f0.2 f1
      have F24 := Af.ext f0.2 f2
      have F25 := Exa.ext f0.2 f3
      have F26 := Fld.ext f0.2 f7
      have F27 := Fld.ext f0.2 f8
      refine Go.callS (W := 0) (argsL := [(.int (17 : Int32))]) (rest := []) X0 hx hZ hown (w0 hw) (w1 hw) (w2 hw) (w3 hw) (by decide) (rm_op17 l Z a0 hw va kid f g0 g1 h0 n0 Z0 F23 F24 F25 f4 F26 F27) e0 (lenOf pd_1 rfl) (hb hby at_28) (by rw [hml]; rfl) rfl (Nat.le_of_eq rfl) (by decide) (by decide) (by decide) (by decide) ?_
      intro v28 T28 L28 X28 q28
      obtain ⟨rfl, M28, K28⟩ := q28
      have N28 := Fr.app N0 M28
      have Z28 : n0 ≤ T28.heap.size := Nat.le_trans Z0 K28.1
      have B28 : h0.size ≤ T28.heap.size := Nat.le_trans (Nat.le_refl _) K28.1
      show Go _ _ _ _ T28 (mkF m 31 #[.val (.int p0), .val (.int p1), .val (.int (p0 &&& (3 : Int32))), .val (.int (17 : Int32)), .unset, .unset] [(.ref g1)]) _ _ _
      refine Go.astore X28 hx (hb hby at_31) rfl (l' := #[.val (.int p0), .val (.int p1), .val (.int (p0 &&& (3 : Int32))), .val (.int (17 : Int32)), .val (.ref g1), .unset]) rfl ?_
      show Go _ _ _ _ T28 (mkF m 33 #[.val (.int p0), .val (.int p1), .val (.int (p0 &&& (3 : Int32))), .val (.int (17 : Int32)), .val (.ref g1), .unset] []) _ _ _
      refine Go.iloadN X28 hx (hb hby at_33) rfl ?_
      show Go _ _ _ _ T28 (mkF m 34 #[.val (.int p0), .val (.int p1), .val (.int (p0 &&& (3 : Int32))), .val (.int (17 : Int32)), .val (.ref g1), .unset] [(.int (17 : Int32))]) _ _ _
      refine Go.bipush X28 hx (hb hby at_34) ?_
      show Go _ _ _ _ T28 (mkF m 36 #[.val (.int p0), .val (.int p1), .val (.int (p0 &&& (3 : Int32))), .val (.int (17 : Int32)), .val (.ref g1), .unset] [(.int (6 : Int32)), (.int (17 : Int32))]) _ _ _
      refine Go.icmpYes X28 hx (hb hby at_36) (XT.ii_ne_t (by decide)) (pc' := 47) (by decide) (by decide) ?_
      show Go _ _ _ _ T28 (mkF m 47 #[.val (.int p0), .val (.int p1), .val (.int (p0 &&& (3 : Int32))), .val (.int (17 : Int32)), .val (.ref g1), .unset] []) _ _ _
      refine Go.iloadN X28 hx (hb hby at_47) rfl ?_
      show Go _ _ _ _ T28 (mkF m 48 #[.val (.int p0), .val (.int p1), .val (.int (p0 &&& (3 : Int32))), .val (.int (17 : Int32)), .val (.ref g1), .unset] [(.int (17 : Int32))]) _ _ _
      refine Go.bipush X28 hx (hb hby at_48) ?_
      show Go _ _ _ _ T28 (mkF m 50 #[.val (.int p0), .val (.int p1), .val (.int (p0 &&& (3 : Int32))), .val (.int (17 : Int32)), .val (.ref g1), .unset] [(.int (17 : Int32)), (.int (17 : Int32))]) _ _ _
      refine Go.icmpNo X28 hx (hb hby at_50) (XT.ii_ne_f (by decide)) ?_
      show Go _ _ _ _ T28 (mkF m 53 #[.val (.int p0), .val (.int p1), .val (.int (p0 &&& (3 : Int32))), .val (.int (17 : Int32)), .val (.ref g1), .unset] []) _ _ _
      have O29 := (Old.keep f0 K28 all0)
      have F30 := Sta.ext O29.2 f6
      refine Go.getS X28 hx hZ hown (w24 hw) Via.refl rfl F30 (hb hby at_53) ?_
      intro T31 X31 e31
      show Go _ _ _ _ T31 (mkF m 56 #[.val (.int p0), .val (.int p1), .val (.int (p0 &&& (3 : Int32))), .val (.int (17 : Int32)), .val (.ref g1), .unset] [(.ref g1)]) _ _ _
      refine Go.astore X31 hx (hb hby at_56) rfl (l' := #[.val (.int p0), .val (.int p1), .val (.int (p0 &&& (3 : Int32))), .val (.int (17 : Int32)), .val (.ref g1), .val (.ref g1)]) rfl ?_
      show Go _ _ _ _ T31 (mkF m 58 #[.val (.int p0), .val (.int p1), .val (.int (p0 &&& (3 : Int32))), .val (.int (17 : Int32)), .val (.ref g1), .val (.ref g1)] []) _ _ _
      refine Go.goto X31 hx (hb hby at_58) (pc' := 64) (by decide) (by decide) ?_
      show Go _ _ _ _ T31 (mkF m 64 #[.val (.int p0), .val (.int p1), .val (.int (p0 &&& (3 : Int32))), .val (.int (17 : Int32)), .val (.ref g1), .val (.ref g1)] []) _ _ _
      refine Go.aload X31 hx (hb hby at_64) rfl rfl ?_
      show Go _ _ _ _ T31 (mkF m 66 #[.val (.int p0), .val (.int p1), .val (.int (p0 &&& (3 : Int32))), .val (.int (17 : Int32)), .val (.ref g1), .val (.ref g1)] [(.ref g1)]) _ _ _
      refine Go.aload X31 hx (hb hby at_66) rfl rfl ?_
      show Go _ _ _ _ T31 (mkF m 68 #[.val (.int p0), .val (.int p1), .val (.int (p0 &&& (3 : Int32))), .val (.int (17 : Int32)), .val (.ref g1), .val (.ref g1)] [(.ref g1), (.ref g1)]) _ _ _
      refine Go.acmpNo X31 hx (hb hby at_68) rfl rfl (ac_ne_p rfl) ?_
      show Go _ _ _ _ T31 (mkF m 71 #[.val (.int p0), .val (.int p1), .val (.int (p0 &&& (3 : Int32))), .val (.int (17 : Int32)), .val (.ref g1), .val (.ref g1)] []) _ _ _
      refine Go.iconst X31 hx (hb hby at_71) ?_
      show Go _ _ _ _ T31 (mkF m 72 #[.val (.int p0), .val (.int p1), .val (.int (p0 &&& (3 : Int32))), .val (.int (17 : Int32)), .val (.ref g1), .val (.ref g1)] [(.int (1 : Int32))]) _ _ _
      refine Go.goto X31 hx (hb hby at_72) (pc' := 76) (by decide) (by decide) ?_
      show Go _ _ _ _ T31 (mkF m 76 #[.val (.int p0), .val (.int p1), .val (.int (p0 &&& (3 : Int32))), .val (.int (17 : Int32)), .val (.ref g1), .val (.ref g1)] [(.int (1 : Int32))]) _ _ _
      refine Go.retZ X31 hx hlk hret (by decide) (hb hby at_76) (by decide) (by decide) ?_
      rw [e31]
      exact ⟨rfl, N28⟩
    · refine Go.icmpYes X0 hx (hb hby at_16) (XT.ii_ne_t c22) (pc' := 25) (by decide) (by decide) ?_
      show Go _ _ _ _ s₁ (mkF m 25 #[.val (.int p0), .val (.int p1), .val (.int (p0 &&& (3 : Int32))), .unset, .unset, .unset] []) _ _ _
      refine Go.iloadN X0 hx (hb hby at_25) rfl ?_
      show Go _ _ _ _ s₁ (mkF m 26 #[.val (.int p0), .val (.int p1), .val (.int (p0 &&& (3 : Int32))), .unset, .unset, .unset] [(.int p1)]) _ _ _
      refine Go.istoreN X0 hx (hb hby at_26) (l' := #[.val (.int p0), .val (.int p1), .val (.int (p0 &&& (3 : Int32))), .val (.int p1), .unset, .unset]) rfl ?_
      show Go _ _ _ _ s₁ (mkF m 27 #[.val (.int p0), .val (.int p1), .val (.int (p0 &&& (3 : Int32))), .val (.int p1), .unset, .unset] []) _ _ _
      rcases Decidable.em (p1 = (6 : Int32)) with rfl | c6
      · show Go _ _ _ _ s₁ (mkF m 27 #[.val (.int p0), .val (.int (6 : Int32)), .val (.int (p0 &&& (3 : Int32))), .val (.int (6 : Int32)), .unset, .unset] []) _ _ _
        refine Go.iloadN X0 hx (hb hby at_27) rfl ?_
        show Go _ _ _ _ s₁ (mkF m 28 #[.val (.int p0), .val (.int (6 : Int32)), .val (.int (p0 &&& (3 : Int32))), .val (.int (6 : Int32)), .unset, .unset] [(.int (6 : Int32))]) _ _ _
        have F32 := Sta.ext f0.2 f1
        have F33 := Af.ext f0.2 f2
        have F34 := Exa.ext f0.2 f3
        have F35 := Fld.ext f0.2 f7
        have F36 := Fld.ext f0.2 f8
        refine Go.callS (W := 0) (argsL := [(.int (6 : Int32))]) (rest := []) X0 hx hZ hown (w0 hw) (w1 hw) (w2 hw) (w3 hw) (by decide) (rm_op6 l Z a0 hw va kid f g0 g1 h0 n0 Z0 F32 F33 F34 f4 F35 F36) e0 (lenOf pd_1 rfl) (hb hby at_28) (by rw [hml]; rfl) rfl (Nat.le_of_eq rfl) (by decide) (by decide) (by decide) (by decide) ?_
        intro v37 T37 L37 X37 q37
        obtain ⟨rfl, M37, K37⟩ := q37
        have N37 := Fr.app N0 M37
        have Z37 : n0 ≤ T37.heap.size := Nat.le_trans Z0 K37.1
        have B37 : h0.size ≤ T37.heap.size := Nat.le_trans (Nat.le_refl _) K37.1
        show Go _ _ _ _ T37 (mkF m 31 #[.val (.int p0), .val (.int (6 : Int32)), .val (.int (p0 &&& (3 : Int32))), .val (.int (6 : Int32)), .unset, .unset] [(.ref g0)]) _ _ _
        refine Go.astore X37 hx (hb hby at_31) rfl (l' := #[.val (.int p0), .val (.int (6 : Int32)), .val (.int (p0 &&& (3 : Int32))), .val (.int (6 : Int32)), .val (.ref g0), .unset]) rfl ?_
        show Go _ _ _ _ T37 (mkF m 33 #[.val (.int p0), .val (.int (6 : Int32)), .val (.int (p0 &&& (3 : Int32))), .val (.int (6 : Int32)), .val (.ref g0), .unset] []) _ _ _
        refine Go.iloadN X37 hx (hb hby at_33) rfl ?_
        show Go _ _ _ _ T37 (mkF m 34 #[.val (.int p0), .val (.int (6 : Int32)), .val (.int (p0 &&& (3 : Int32))), .val (.int (6 : Int32)), .val (.ref g0), .unset] [(.int (6 : Int32))]) _ _ _
        refine Go.bipush X37 hx (hb hby at_34) ?_
        show Go _ _ _ _ T37 (mkF m 36 #[.val (.int p0), .val (.int (6 : Int32)), .val (.int (p0 &&& (3 : Int32))), .val (.int (6 : Int32)), .val (.ref g0), .unset] [(.int (6 : Int32)), (.int (6 : Int32))]) _ _ _
        refine Go.icmpNo X37 hx (hb hby at_36) (XT.ii_ne_f (by decide)) ?_
        show Go _ _ _ _ T37 (mkF m 39 #[.val (.int p0), .val (.int (6 : Int32)), .val (.int (p0 &&& (3 : Int32))), .val (.int (6 : Int32)), .val (.ref g0), .unset] []) _ _ _
        have O38 := (Old.keep f0 K37 all0)
        have F39 := Sta.ext O38.2 f5
        refine Go.getS X37 hx hZ hown (w23 hw) Via.refl rfl F39 (hb hby at_39) ?_
        intro T40 X40 e40
        show Go _ _ _ _ T40 (mkF m 42 #[.val (.int p0), .val (.int (6 : Int32)), .val (.int (p0 &&& (3 : Int32))), .val (.int (6 : Int32)), .val (.ref g0), .unset] [(.ref g0)]) _ _ _
        refine Go.astore X40 hx (hb hby at_42) rfl (l' := #[.val (.int p0), .val (.int (6 : Int32)), .val (.int (p0 &&& (3 : Int32))), .val (.int (6 : Int32)), .val (.ref g0), .val (.ref g0)]) rfl ?_
        show Go _ _ _ _ T40 (mkF m 44 #[.val (.int p0), .val (.int (6 : Int32)), .val (.int (p0 &&& (3 : Int32))), .val (.int (6 : Int32)), .val (.ref g0), .val (.ref g0)] []) _ _ _
        refine Go.goto X40 hx (hb hby at_44) (pc' := 64) (by decide) (by decide) ?_
        show Go _ _ _ _ T40 (mkF m 64 #[.val (.int p0), .val (.int (6 : Int32)), .val (.int (p0 &&& (3 : Int32))), .val (.int (6 : Int32)), .val (.ref g0), .val (.ref g0)] []) _ _ _
        refine Go.aload X40 hx (hb hby at_64) rfl rfl ?_
        show Go _ _ _ _ T40 (mkF m 66 #[.val (.int p0), .val (.int (6 : Int32)), .val (.int (p0 &&& (3 : Int32))), .val (.int (6 : Int32)), .val (.ref g0), .val (.ref g0)] [(.ref g0)]) _ _ _
        refine Go.aload X40 hx (hb hby at_66) rfl rfl ?_
        show Go _ _ _ _ T40 (mkF m 68 #[.val (.int p0), .val (.int (6 : Int32)), .val (.int (p0 &&& (3 : Int32))), .val (.int (6 : Int32)), .val (.ref g0), .val (.ref g0)] [(.ref g0), (.ref g0)]) _ _ _
        refine Go.acmpNo X40 hx (hb hby at_68) rfl rfl (ac_ne_p rfl) ?_
        show Go _ _ _ _ T40 (mkF m 71 #[.val (.int p0), .val (.int (6 : Int32)), .val (.int (p0 &&& (3 : Int32))), .val (.int (6 : Int32)), .val (.ref g0), .val (.ref g0)] []) _ _ _
        refine Go.iconst X40 hx (hb hby at_71) ?_
        show Go _ _ _ _ T40 (mkF m 72 #[.val (.int p0), .val (.int (6 : Int32)), .val (.int (p0 &&& (3 : Int32))), .val (.int (6 : Int32)), .val (.ref g0), .val (.ref g0)] [(.int (1 : Int32))]) _ _ _
        refine Go.goto X40 hx (hb hby at_72) (pc' := 76) (by decide) (by decide) ?_
        show Go _ _ _ _ T40 (mkF m 76 #[.val (.int p0), .val (.int (6 : Int32)), .val (.int (p0 &&& (3 : Int32))), .val (.int (6 : Int32)), .val (.ref g0), .val (.ref g0)] [(.int (1 : Int32))]) _ _ _
        refine Go.retZ X40 hx hlk hret (by decide) (hb hby at_76) (by decide) (by decide) ?_
        rw [e40]
        exact ⟨rfl, N37⟩
      · rcases Decidable.em (p1 = (17 : Int32)) with rfl | c17
        · show Go _ _ _ _ s₁ (mkF m 27 #[.val (.int p0), .val (.int (17 : Int32)), .val (.int (p0 &&& (3 : Int32))), .val (.int (17 : Int32)), .unset, .unset] []) _ _ _
          refine Go.iloadN X0 hx (hb hby at_27) rfl ?_
          show Go _ _ _ _ s₁ (mkF m 28 #[.val (.int p0), .val (.int (17 : Int32)), .val (.int (p0 &&& (3 : Int32))), .val (.int (17 : Int32)), .unset, .unset] [(.int (17 : Int32))]) _ _ _
          have F41 := Sta.ext f0.2 f1
          have F42 := Af.ext f0.2 f2
          have F43 := Exa.ext f0.2 f3
          have F44 := Fld.ext f0.2 f7
          have F45 := Fld.ext f0.2 f8
          refine Go.callS (W := 0) (argsL := [(.int (17 : Int32))]) (rest := []) X0 hx hZ hown (w0 hw) (w1 hw) (w2 hw) (w3 hw) (by decide) (rm_op17 l Z a0 hw va kid f g0 g1 h0 n0 Z0 F41 F42 F43 f4 F44 F45) e0 (lenOf pd_1 rfl) (hb hby at_28) (by rw [hml]; rfl) rfl (Nat.le_of_eq rfl) (by decide) (by decide) (by decide) (by decide) ?_
          intro v46 T46 L46 X46 q46
          obtain ⟨rfl, M46, K46⟩ := q46
          have N46 := Fr.app N0 M46
          have Z46 : n0 ≤ T46.heap.size := Nat.le_trans Z0 K46.1
          have B46 : h0.size ≤ T46.heap.size := Nat.le_trans (Nat.le_refl _) K46.1
          show Go _ _ _ _ T46 (mkF m 31 #[.val (.int p0), .val (.int (17 : Int32)), .val (.int (p0 &&& (3 : Int32))), .val (.int (17 : Int32)), .unset, .unset] [(.ref g1)]) _ _ _
          refine Go.astore X46 hx (hb hby at_31) rfl (l' := #[.val (.int p0), .val (.int (17 : Int32)), .val (.int (p0 &&& (3 : Int32))), .val (.int (17 : Int32)), .val (.ref g1), .unset]) rfl ?_
          show Go _ _ _ _ T46 (mkF m 33 #[.val (.int p0), .val (.int (17 : Int32)), .val (.int (p0 &&& (3 : Int32))), .val (.int (17 : Int32)), .val (.ref g1), .unset] []) _ _ _
          refine Go.iloadN X46 hx (hb hby at_33) rfl ?_
          show Go _ _ _ _ T46 (mkF m 34 #[.val (.int p0), .val (.int (17 : Int32)), .val (.int (p0 &&& (3 : Int32))), .val (.int (17 : Int32)), .val (.ref g1), .unset] [(.int (17 : Int32))]) _ _ _
          refine Go.bipush X46 hx (hb hby at_34) ?_
          show Go _ _ _ _ T46 (mkF m 36 #[.val (.int p0), .val (.int (17 : Int32)), .val (.int (p0 &&& (3 : Int32))), .val (.int (17 : Int32)), .val (.ref g1), .unset] [(.int (6 : Int32)), (.int (17 : Int32))]) _ _ _
          refine Go.icmpYes X46 hx (hb hby at_36) (XT.ii_ne_t (by decide)) (pc' := 47) (by decide) (by decide) ?_
          show Go _ _ _ _ T46 (mkF m 47 #[.val (.int p0), .val (.int (17 : Int32)), .val (.int (p0 &&& (3 : Int32))), .val (.int (17 : Int32)), .val (.ref g1), .unset] []) _ _ _
          refine Go.iloadN X46 hx (hb hby at_47) rfl ?_
          show Go _ _ _ _ T46 (mkF m 48 #[.val (.int p0), .val (.int (17 : Int32)), .val (.int (p0 &&& (3 : Int32))), .val (.int (17 : Int32)), .val (.ref g1), .unset] [(.int (17 : Int32))]) _ _ _
          refine Go.bipush X46 hx (hb hby at_48) ?_
          show Go _ _ _ _ T46 (mkF m 50 #[.val (.int p0), .val (.int (17 : Int32)), .val (.int (p0 &&& (3 : Int32))), .val (.int (17 : Int32)), .val (.ref g1), .unset] [(.int (17 : Int32)), (.int (17 : Int32))]) _ _ _
          refine Go.icmpNo X46 hx (hb hby at_50) (XT.ii_ne_f (by decide)) ?_
          show Go _ _ _ _ T46 (mkF m 53 #[.val (.int p0), .val (.int (17 : Int32)), .val (.int (p0 &&& (3 : Int32))), .val (.int (17 : Int32)), .val (.ref g1), .unset] []) _ _ _
          have O47 := (Old.keep f0 K46 all0)
          have F48 := Sta.ext O47.2 f6
          refine Go.getS X46 hx hZ hown (w24 hw) Via.refl rfl F48 (hb hby at_53) ?_
          intro T49 X49 e49
          show Go _ _ _ _ T49 (mkF m 56 #[.val (.int p0), .val (.int (17 : Int32)), .val (.int (p0 &&& (3 : Int32))), .val (.int (17 : Int32)), .val (.ref g1), .unset] [(.ref g1)]) _ _ _
          refine Go.astore X49 hx (hb hby at_56) rfl (l' := #[.val (.int p0), .val (.int (17 : Int32)), .val (.int (p0 &&& (3 : Int32))), .val (.int (17 : Int32)), .val (.ref g1), .val (.ref g1)]) rfl ?_
          show Go _ _ _ _ T49 (mkF m 58 #[.val (.int p0), .val (.int (17 : Int32)), .val (.int (p0 &&& (3 : Int32))), .val (.int (17 : Int32)), .val (.ref g1), .val (.ref g1)] []) _ _ _
          refine Go.goto X49 hx (hb hby at_58) (pc' := 64) (by decide) (by decide) ?_
          show Go _ _ _ _ T49 (mkF m 64 #[.val (.int p0), .val (.int (17 : Int32)), .val (.int (p0 &&& (3 : Int32))), .val (.int (17 : Int32)), .val (.ref g1), .val (.ref g1)] []) _ _ _
          refine Go.aload X49 hx (hb hby at_64) rfl rfl ?_
          show Go _ _ _ _ T49 (mkF m 66 #[.val (.int p0), .val (.int (17 : Int32)), .val (.int (p0 &&& (3 : Int32))), .val (.int (17 : Int32)), .val (.ref g1), .val (.ref g1)] [(.ref g1)]) _ _ _
          refine Go.aload X49 hx (hb hby at_66) rfl rfl ?_
          show Go _ _ _ _ T49 (mkF m 68 #[.val (.int p0), .val (.int (17 : Int32)), .val (.int (p0 &&& (3 : Int32))), .val (.int (17 : Int32)), .val (.ref g1), .val (.ref g1)] [(.ref g1), (.ref g1)]) _ _ _
          refine Go.acmpNo X49 hx (hb hby at_68) rfl rfl (ac_ne_p rfl) ?_
          show Go _ _ _ _ T49 (mkF m 71 #[.val (.int p0), .val (.int (17 : Int32)), .val (.int (p0 &&& (3 : Int32))), .val (.int (17 : Int32)), .val (.ref g1), .val (.ref g1)] []) _ _ _
          refine Go.iconst X49 hx (hb hby at_71) ?_
          show Go _ _ _ _ T49 (mkF m 72 #[.val (.int p0), .val (.int (17 : Int32)), .val (.int (p0 &&& (3 : Int32))), .val (.int (17 : Int32)), .val (.ref g1), .val (.ref g1)] [(.int (1 : Int32))]) _ _ _
          refine Go.goto X49 hx (hb hby at_72) (pc' := 76) (by decide) (by decide) ?_
          show Go _ _ _ _ T49 (mkF m 76 #[.val (.int p0), .val (.int (17 : Int32)), .val (.int (p0 &&& (3 : Int32))), .val (.int (17 : Int32)), .val (.ref g1), .val (.ref g1)] [(.int (1 : Int32))]) _ _ _
          refine Go.retZ X49 hx hlk hret (by decide) (hb hby at_76) (by decide) (by decide) ?_
          rw [e49]
          exact ⟨rfl, N46⟩
        · show Go _ _ _ _ s₁ (mkF m 27 #[.val (.int p0), .val (.int p1), .val (.int (p0 &&& (3 : Int32))), .val (.int p1), .unset, .unset] []) _ _ _
          refine Go.iloadN X0 hx (hb hby at_27) rfl ?_
          show Go _ _ _ _ s₁ (mkF m 28 #[.val (.int p0), .val (.int p1), .val (.int (p0 &&& (3 : Int32))), .val (.int p1), .unset, .unset] [(.int p1)]) _ _ _
          have F50 := Sta.ext f0.2 f1
          have F51 := Af.ext f0.2 f2
          have F52 := Exa.ext f0.2 f3
          have F53 := Fld.ext f0.2 f7
          have F54 := Fld.ext f0.2 f8
          refine Go.callS (W := 0) (argsL := [(.int p1)]) (rest := []) X0 hx hZ hown (w0 hw) (w1 hw) (w2 hw) (w3 hw) (by decide) (rm_opx l Z a0 hw p1 va kid f g0 g1 h0 n0 Z0 F50 F51 F52 f4 F53 F54 (fun q => c6 q.symm) (fun q => c17 q.symm)) e0 (lenOf pd_1 rfl) (hb hby at_28) (by rw [hml]; rfl) rfl (Nat.le_of_eq rfl) (by decide) (by decide) (by decide) (by decide) ?_
          intro v55 T55 L55 X55 q55
          obtain ⟨rfl, M55, K55⟩ := q55
          have N55 := Fr.app N0 M55
          have Z55 : n0 ≤ T55.heap.size := Nat.le_trans Z0 K55.1
          have B55 : h0.size ≤ T55.heap.size := Nat.le_trans (Nat.le_refl _) K55.1
          show Go _ _ _ _ T55 (mkF m 31 #[.val (.int p0), .val (.int p1), .val (.int (p0 &&& (3 : Int32))), .val (.int p1), .unset, .unset] [.null]) _ _ _
          refine Go.astore X55 hx (hb hby at_31) rfl (l' := #[.val (.int p0), .val (.int p1), .val (.int (p0 &&& (3 : Int32))), .val (.int p1), .val .null, .unset]) rfl ?_
          show Go _ _ _ _ T55 (mkF m 33 #[.val (.int p0), .val (.int p1), .val (.int (p0 &&& (3 : Int32))), .val (.int p1), .val .null, .unset] []) _ _ _
          refine Go.iloadN X55 hx (hb hby at_33) rfl ?_
          show Go _ _ _ _ T55 (mkF m 34 #[.val (.int p0), .val (.int p1), .val (.int (p0 &&& (3 : Int32))), .val (.int p1), .val .null, .unset] [(.int p1)]) _ _ _
          refine Go.bipush X55 hx (hb hby at_34) ?_
          show Go _ _ _ _ T55 (mkF m 36 #[.val (.int p0), .val (.int p1), .val (.int (p0 &&& (3 : Int32))), .val (.int p1), .val .null, .unset] [(.int (6 : Int32)), (.int p1)]) _ _ _
          refine Go.icmpYes X55 hx (hb hby at_36) (XT.ii_ne_t c6) (pc' := 47) (by decide) (by decide) ?_
          show Go _ _ _ _ T55 (mkF m 47 #[.val (.int p0), .val (.int p1), .val (.int (p0 &&& (3 : Int32))), .val (.int p1), .val .null, .unset] []) _ _ _
          refine Go.iloadN X55 hx (hb hby at_47) rfl ?_
          show Go _ _ _ _ T55 (mkF m 48 #[.val (.int p0), .val (.int p1), .val (.int (p0 &&& (3 : Int32))), .val (.int p1), .val .null, .unset] [(.int p1)]) _ _ _
          refine Go.bipush X55 hx (hb hby at_48) ?_
          show Go _ _ _ _ T55 (mkF m 50 #[.val (.int p0), .val (.int p1), .val (.int (p0 &&& (3 : Int32))), .val (.int p1), .val .null, .unset] [(.int (17 : Int32)), (.int p1)]) _ _ _
          refine Go.icmpYes X55 hx (hb hby at_50) (XT.ii_ne_t c17) (pc' := 61) (by decide) (by decide) ?_
          show Go _ _ _ _ T55 (mkF m 61 #[.val (.int p0), .val (.int p1), .val (.int (p0 &&& (3 : Int32))), .val (.int p1), .val .null, .unset] []) _ _ _
          refine Go.aconst_null X55 hx (hb hby at_61) ?_
          show Go _ _ _ _ T55 (mkF m 62 #[.val (.int p0), .val (.int p1), .val (.int (p0 &&& (3 : Int32))), .val (.int p1), .val .null, .unset] [.null]) _ _ _
          refine Go.astore X55 hx (hb hby at_62) rfl (l' := #[.val (.int p0), .val (.int p1), .val (.int (p0 &&& (3 : Int32))), .val (.int p1), .val .null, .val .null]) rfl ?_
          show Go _ _ _ _ T55 (mkF m 64 #[.val (.int p0), .val (.int p1), .val (.int (p0 &&& (3 : Int32))), .val (.int p1), .val .null, .val .null] []) _ _ _
          refine Go.aload X55 hx (hb hby at_64) rfl rfl ?_
          show Go _ _ _ _ T55 (mkF m 66 #[.val (.int p0), .val (.int p1), .val (.int (p0 &&& (3 : Int32))), .val (.int p1), .val .null, .val .null] [.null]) _ _ _
          refine Go.aload X55 hx (hb hby at_66) rfl rfl ?_
          show Go _ _ _ _ T55 (mkF m 68 #[.val (.int p0), .val (.int p1), .val (.int (p0 &&& (3 : Int32))), .val (.int p1), .val .null, .val .null] [.null, .null]) _ _ _
          refine Go.acmpNo X55 hx (hb hby at_68) rfl rfl rfl ?_
          show Go _ _ _ _ T55 (mkF m 71 #[.val (.int p0), .val (.int p1), .val (.int (p0 &&& (3 : Int32))), .val (.int p1), .val .null, .val .null] []) _ _ _
          refine Go.iconst X55 hx (hb hby at_71) ?_
          show Go _ _ _ _ T55 (mkF m 72 #[.val (.int p0), .val (.int p1), .val (.int (p0 &&& (3 : Int32))), .val (.int p1), .val .null, .val .null] [(.int (1 : Int32))]) _ _ _
          refine Go.goto X55 hx (hb hby at_72) (pc' := 76) (by decide) (by decide) ?_
          show Go _ _ _ _ T55 (mkF m 76 #[.val (.int p0), .val (.int p1), .val (.int (p0 &&& (3 : Int32))), .val (.int p1), .val .null, .val .null] [(.int (1 : Int32))]) _ _ _
          refine Go.retZ X55 hx hlk hret (by decide) (hb hby at_76) (by decide) (by decide) ?_
          exact ⟨rfl, N55⟩
set_option maxRecDepth 65536 in
set_option maxHeartbeats 40000000 in
theorem comes_1 {Post : Tables → Env → Array Value → State → Outcome → State → Prop} (hpost : ∀ tb e args s v u, (limb_1_1.after args s (.returned v) u = true ∧ limb_1_2.after args s (.returned v) u = true ∧ True) → FrameEnd s (.returned v) u (Jvm.fieldLocs frame_1_writes args s ++ Jvm.arrayLocs frame_1_arrays args s ++ Jvm.staticLocs frame_1_statics s) 16 128 → Post tb e args s (.returned v) u) :
    ArmFor flags0 classFile x code maxLocals ret World_1 tables_1 room_1 Calls_1 rest_1 Pre_1 Post := by
  intro l hfl _ _ p e ha hc hk s m args below hf hA hF happ hP
  obtain ⟨hcalls, hrest, hpre⟩ := hP
  obtain ⟨-, -, -, hnamed, -, -, -, hat⟩ := (Spec.applies_iff hf).mp happ
  obtain ⟨hg, hn⟩ := and_e (Cond.before_iff.mp (show (Jvm.Cond.and given_1 narrow_1).before args s = true from hpre))
  obtain ⟨hcount, hgs⟩ := and_e hg
  obtain ⟨hg0, hgr0⟩ := and_e hgs
  obtain ⟨w0', w1', rfl⟩ : ∃ w0' w1' : Value, args = #[w0', w1'] := by
    have hs : args.size = 2 := by simpa [Cond.value, given_1] using hcount
    obtain ⟨L⟩ := args
    match L, hs with
    | [w0', w1'], _ => exact ⟨w0', w1', rfl⟩
  have hw := fun d (hd : d ∈ tables_1) => atoms_spec (ws := Jvm.Cond.code x code maxLocals ret :: tables_1) hat d (List.mem_cons_of_mem _ hd)
  have hfit : Fit s := fun {y c} hc i hi => by
    obtain ⟨ha, rfl⟩ := Array.getElem?_eq_some_iff.mp hc
    have q := List.all_eq_true.mp ((Array.all_eq_true_iff_forall_mem.mp hF) _ (Array.getElem_mem ha)) i (List.mem_range.mpr hi)
    simpa [Array.getElem?_eq_getElem hi] using q
  obtain ⟨i0, ei0⟩ := is_v hg0
  obtain rfl : w0' = (.int i0) := Option.some.inj ei0
  obtain ⟨i1, ei1⟩ := is_v hgr0
  obtain rfl : w1' = (.int i1) := Option.some.inj ei1
  obtain ⟨nn0, nnr0⟩ := and_e hn
  obtain ⟨nn1, nnr1⟩ := and_e nnr0
  obtain ⟨nn2, nnr2⟩ := and_e nnr1
  obtain ⟨nn3, nnr3⟩ := and_e nnr2
  obtain ⟨nn4, nnr4⟩ := and_e nnr3
  obtain ⟨nn5, nnr5⟩ := and_e nnr4
  obtain ⟨nn6, nnr6⟩ := and_e nnr5
  obtain ⟨nn7, nnr7⟩ := and_e nnr6
  have nn8 := nnr7
  obtain ⟨va, eva, Sva, Eva⟩ := st_static nn1 (Or.inr ⟨(w2 hw), (w8 hw)⟩)
  obtain ⟨cv, hcv, Av⟩ := st_arr (n := 2) eva nn0 nn2 rfl (by decide)
  obtain ⟨g0, eg0, S0, E0⟩ := st_static nn3 (Or.inr ⟨(w2 hw), (w16 hw)⟩)
  have el0 := st_elem eva hcv (st_ref nn4 eg0)
  have P0 := st_fieldI eg0 nn7
  obtain ⟨g1, eg1, S1, E1⟩ := st_static nn5 (Or.inr ⟨(w2 hw), (w17 hw)⟩)
  have el1 := st_elem eva hcv (st_ref nn6 eg1)
  have P1 := st_fieldI eg1 nn8
  have Bv := ((Av.known (j := 0) el0).known (j := 1) el1)
  obtain ⟨cv', Arr0⟩ := Arr.start eva nn0
  have Fv : ∀ cl : Cell, s.heap[va]? = some cl → FitC s cl := fun cl hcl => by cases Arr0.1.symm.trans hcl; exact FitC.start hfit Arr0
  obtain ⟨n, o, h1, h2, h3, _, L, rfl, ⟨rfl, N⟩, hq⟩ := rm_law l s _ hw tables_1 i0 i1 va _ _ g0 g1 s.heap s.heap.size (Nat.le_refl _) (Old.start s) Sva Bv Eva Fv S0 S1 P0 P1 p e ha hc hk s m _ below hf ((Spec.applies_iff_loose hf).mp happ).1 ⟨rfl, State.Warmed39.refl s, rfl⟩ trivial
  refine ⟨n, _, h1, h2, h3, hpost _ _ _ _ _ _ ⟨Cond.after_iff.mpr rfl, Cond.after_iff.mpr (eq_i res_at (Term.int_eval (1)) rfl), trivial⟩ ⟨hq.1, hq.2.1, (hq.2.2.sift fun y hy => Or.inr (N y hy)).mono (by decide) (by decide)⟩⟩
theorem main_1_1 : Claimed_1_1 := comes_1 fun _ _ _ _ _ _ h hF => ⟨h.1, hF⟩
theorem main_1_2 : Claimed_1_2 := comes_1 fun _ _ _ _ _ _ h hF => ⟨h.2.1, hF⟩
end Jvm.Pilot.@@N@@
namespace Jvm.Pilot.@@N@@
open Jvm Jvm.ClassFile Sem Op Lib Jvm.Free Jvm.Stand Jvm.Pilot.@@N@@.Jvm.D
/-! MADE BY PROGRAM (witnessworld.py) out of the Statement's table words and the real class files: 13 classes; the members and pool entries that the words name. The judged class is class 1, her method 1. -/
namespace start1
open Jvm.ClassFile
def u (s : String) : CpInfo := .utf8 (stringToUtf16 s)
/-- a pool by its gaps: so many unusable entries, then the entry; so many at the end -/
def gap : Nat → List CpInfo → List CpInfo
  | 0, r => r
  | n + 1, r => .unusable :: gap n r
def poolList (es : List (Nat × CpInfo)) (last : Nat) : List CpInfo := es.foldr (fun e r => gap e.1 (e.2 :: r)) (gap last [])
def pool (es : List (Nat × CpInfo)) (last : Nat) : Array CpInfo := ⟨poolList es last⟩
def fileOf (pool : Array CpInfo) (this : Nat) (attrs : Array Attribute := #[]) (ms : Array MethodInfo := #[]) (fl : Nat := 33) (sup : Nat := 0) (ifs : Array Nat := #[]) (fds : Array FieldInfo := #[]) : ClassFile where
  minorVersion := 0
  majorVersion := 65
  constantPool := pool
  accessFlags := fl
  thisClass := this
  superClass := sup
  interfaces := ifs
  fields := fds
  methods := ms
  attributes := attrs
def plain (name : String) (sup : Option ClassId) : Class where
  name := name
  kind := .ordinary
  loader := none
  accessFlags := 33
  super := sup
  interfaces := #[]
  cf := none
  fields := #[]
  methods := #[]
  instanceTypes := #[]
  staticTypes := #[]
  resolved := #[]
  callSites := []
  init := .initialized
  statics := none
  mirror := none

def pool0 : Array CpInfo := pool [(5, u "<init>"), (0, u "()V"), (1, .class_ 10), (1, u "java/lang/Object"), (85, u "clone"), (0, u "()Ljava/lang/Object;")] 26

def k0m0 : Method := { name := "<init>", desc := "()V", sig := { parameters := [], returnType := none }, accessFlags := 1, code := none }
def k0m1 : Method := { name := "clone", desc := "()Ljava/lang/Object;", sig := { parameters := [], returnType := some (.object "java/lang/Object") }, accessFlags := 260, code := none }
/-- java/lang/Object -/
def k0 : Class := { plain "java/lang/Object" none with
  accessFlags := 33
  interfaces := #[]
  cf := some (fileOf pool0 8 #[] #[{ accessFlags := 1, nameIndex := 5, descriptorIndex := 6, attributes := #[] }, { accessFlags := 260, nameIndex := 96, descriptorIndex := 97, attributes := #[] }] 33 0 #[] #[])
  fields := #[]
  methods := #[k0m0, k0m1]
  instanceTypes := #[]
  staticTypes := #[]
  resolved := Array.replicate 124 none
  statics := none }

def pool1 : Array CpInfo := pool [(2, .class_ 4), (1, u "java/lang/Object"), (0, u "<init>"), (0, u "()V"), (0, .methodref 8 9), (0, .class_ 10), (0, .nameAndType 11 12), (0, u "com/example/farcall/farcall/Transport"), (0, u "ofProtocol"), (0, u "(I)Lcom/example/farcall/farcall/Transport;"), (0, .fieldref 8 14), (0, .nameAndType 15 16), (0, u "TCP"), (0, u "Lcom/example/farcall/farcall/Transport;"), (0, .fieldref 8 18), (0, .nameAndType 19 16), (0, u "UDP"), (0, .class_ 21), (0, u "com/example/farcall/farcall/TransportOfProtocolPinLaw"), (2, u "law"), (0, u "(II)Z")] 3

def k1m0 : Method := { name := "<init>", desc := "()V", sig := { parameters := [], returnType := none }, accessFlags := 1, code := none }
def k1c1 : Code := { maxStack := 2, maxLocals := 6, code := code, exceptionTable := #[], attributes := #[] }
def k1m1 : Method := { name := "law", desc := "(II)Z", sig := { parameters := [.int, .int], returnType := some .boolean }, accessFlags := 9, code := some k1c1 }
/-- com/example/farcall/farcall/TransportOfProtocolPinLaw -/
def k1 : Class := { plain "com/example/farcall/farcall/TransportOfProtocolPinLaw" (some 0) with
  accessFlags := 49
  interfaces := #[]
  cf := some (fileOf pool1 20 #[] #[{ accessFlags := 1, nameIndex := 5, descriptorIndex := 6, attributes := #[] }, { accessFlags := 9, nameIndex := 24, descriptorIndex := 25, attributes := #[] }] 49 2 #[] #[])
  fields := #[]
  methods := #[k1m0, k1m1]
  instanceTypes := #[]
  staticTypes := #[]
  resolved := Array.replicate 29 none
  statics := none }

def pool2 : Array CpInfo := pool [(1, .class_ 2), (0, u "java/lang/constant/Constable"), (0, .class_ 4), (0, u "java/lang/Object")] 6

/-- java/lang/constant/Constable -/
def k2 : Class := { plain "java/lang/constant/Constable" (some 0) with
  accessFlags := 1537
  interfaces := #[]
  cf := some (fileOf pool2 1 #[] #[] 1537 3 #[] #[])
  fields := #[]
  methods := #[]
  instanceTypes := #[]
  staticTypes := #[]
  resolved := Array.replicate 11 none
  statics := none }

def pool3 : Array CpInfo := pool [(1, .class_ 2), (0, u "java/lang/Comparable"), (0, .class_ 4), (0, u "java/lang/Object")] 7

/-- java/lang/Comparable -/
def k3 : Class := { plain "java/lang/Comparable" (some 0) with
  accessFlags := 1537
  interfaces := #[]
  cf := some (fileOf pool3 1 #[] #[] 1537 3 #[] #[])
  fields := #[]
  methods := #[]
  instanceTypes := #[]
  staticTypes := #[]
  resolved := Array.replicate 12 none
  statics := none }

def pool4 : Array CpInfo := pool [(1, .class_ 2), (0, u "java/io/Serializable"), (0, .class_ 4), (0, u "java/lang/Object")] 2

/-- java/io/Serializable -/
def k4 : Class := { plain "java/io/Serializable" (some 0) with
  accessFlags := 1537
  interfaces := #[]
  cf := some (fileOf pool4 1 #[] #[] 1537 3 #[] #[])
  fields := #[]
  methods := #[]
  instanceTypes := #[]
  staticTypes := #[]
  resolved := Array.replicate 7 none
  statics := none }

def pool5 : Array CpInfo := pool [(2, .class_ 4), (1, u "java/lang/Enum"), (0, u "name"), (0, u "Ljava/lang/String;"), (2, u "ordinal"), (0, u "I"), (1, .class_ 14), (1, u "java/lang/Object"), (4, u "hash"), (86, .class_ 108), (1, u "java/lang/Enum$EnumDesc"), (2, .class_ 112), (0, u "java/lang/constant/Constable"), (0, .class_ 114), (0, u "java/lang/Comparable"), (0, .class_ 116), (0, u "java/io/Serializable")] 87

/-- java/lang/Enum -/
def k5 : Class := { plain "java/lang/Enum" (some 0) with
  accessFlags := 1057
  interfaces := #[2, 3, 4]
  cf := some (fileOf pool5 2 #[.nestMembers #[106]] #[] 1057 12 #[111, 113, 115] #[{ accessFlags := 18, nameIndex := 5, descriptorIndex := 6, attributes := #[] }, { accessFlags := 18, nameIndex := 9, descriptorIndex := 10, attributes := #[] }, { accessFlags := 2, nameIndex := 19, descriptorIndex := 10, attributes := #[] }])
  fields := #[{ name := "name", type := (.object "java/lang/String"), accessFlags := 18, slot := 0, constantValue := 0 }, { name := "ordinal", type := .int, accessFlags := 18, slot := 1, constantValue := 0 }, { name := "hash", type := .int, accessFlags := 2, slot := 2, constantValue := 0 }]
  methods := #[]
  instanceTypes := #[(.object "java/lang/String"), .int, .int]
  staticTypes := #[]
  resolved := Array.replicate 204 none
  statics := none }

def pool6 : Array CpInfo := pool [(1, .class_ 2), (0, u "com/example/farcall/farcall/Transport"), (2, u "TCP"), (0, u "Lcom/example/farcall/farcall/Transport;"), (2, u "UDP"), (0, .fieldref 1 11), (0, .nameAndType 12 13), (0, u "$VALUES"), (0, u "[Lcom/example/farcall/farcall/Transport;"), (0, .methodref 15 16), (0, .class_ 13), (0, .nameAndType 17 18), (0, u "clone"), (0, u "()Ljava/lang/Object;"), (1, .class_ 22), (1, u "java/lang/Enum"), (6, .fieldref 1 30), (0, .nameAndType 31 32), (0, u "protocol"), (0, u "I"), (2, u "protocolName"), (0, u "Ljava/lang/String;"), (2, u "semantics"), (0, .methodref 1 41), (0, .nameAndType 42 43), (0, u "values"), (0, u "()[Lcom/example/farcall/farcall/Transport;"), (20, u "ofProtocol"), (0, u "(I)Lcom/example/farcall/farcall/Transport;")] 6

def k6c0 : Code := { maxStack := 1, maxLocals := 0, code := prog_45_method_1_code, exceptionTable := #[], attributes := #[] }
def k6m0 : Method := { name := "values", desc := "()[Lcom/example/farcall/farcall/Transport;", sig := { parameters := [], returnType := some (.array (.object "com/example/farcall/farcall/Transport")) }, accessFlags := 9, code := some k6c0 }
def k6c1 : Code := { maxStack := 2, maxLocals := 6, code := prog_45_method_7_code, exceptionTable := #[], attributes := #[] }
def k6m1 : Method := { name := "ofProtocol", desc := "(I)Lcom/example/farcall/farcall/Transport;", sig := { parameters := [.int], returnType := some (.object "com/example/farcall/farcall/Transport") }, accessFlags := 8, code := some k6c1 }
/-- com/example/farcall/farcall/Transport -/
def k6 : Class := { plain "com/example/farcall/farcall/Transport" (some 5) with
  accessFlags := 16433
  interfaces := #[]
  cf := some (fileOf pool6 1 #[] #[{ accessFlags := 9, nameIndex := 42, descriptorIndex := 43, attributes := #[] }, { accessFlags := 8, nameIndex := 64, descriptorIndex := 65, attributes := #[] }] 16433 20 #[] #[{ accessFlags := 16409, nameIndex := 5, descriptorIndex := 6, attributes := #[] }, { accessFlags := 16409, nameIndex := 9, descriptorIndex := 6, attributes := #[] }, { accessFlags := 18, nameIndex := 31, descriptorIndex := 32, attributes := #[] }, { accessFlags := 18, nameIndex := 35, descriptorIndex := 36, attributes := #[] }, { accessFlags := 18, nameIndex := 39, descriptorIndex := 32, attributes := #[] }, { accessFlags := 4122, nameIndex := 12, descriptorIndex := 13, attributes := #[] }])
  fields := #[{ name := "TCP", type := (.object "com/example/farcall/farcall/Transport"), accessFlags := 16409, slot := 0, constantValue := 0 }, { name := "UDP", type := (.object "com/example/farcall/farcall/Transport"), accessFlags := 16409, slot := 1, constantValue := 0 }, { name := "protocol", type := .int, accessFlags := 18, slot := 3, constantValue := 0 }, { name := "protocolName", type := (.object "java/lang/String"), accessFlags := 18, slot := 4, constantValue := 0 }, { name := "semantics", type := .int, accessFlags := 18, slot := 5, constantValue := 0 }, { name := "$VALUES", type := (.array (.object "com/example/farcall/farcall/Transport")), accessFlags := 4122, slot := 2, constantValue := 0 }]
  methods := #[k6m0, k6m1]
  instanceTypes := #[(.object "java/lang/String"), .int, .int, .int, (.object "java/lang/String"), .int]
  staticTypes := #[(.object "com/example/farcall/farcall/Transport"), (.object "com/example/farcall/farcall/Transport"), (.array (.object "com/example/farcall/farcall/Transport"))]
  resolved := Array.replicate 72 none
  statics := some 0 }

def pool7 : Array CpInfo := pool [(1, .class_ 2), (0, u "java/lang/Cloneable"), (0, .class_ 4), (0, u "java/lang/Object")] 2

/-- java/lang/Cloneable -/
def k7 : Class := { plain "java/lang/Cloneable" (some 0) with
  accessFlags := 1537
  interfaces := #[]
  cf := some (fileOf pool7 1 #[] #[] 1537 3 #[] #[])
  fields := #[]
  methods := #[]
  instanceTypes := #[]
  staticTypes := #[]
  resolved := Array.replicate 7 none
  statics := none }

/-- the primitive byte -/
def k8 : Class := { plain "byte" none with kind := .primitive 'B', accessFlags := 0x411 }
/-- [B -/
def k9 : Class := { plain "[B" (some 0) with kind := .array 8 .byte, interfaces := #[7, 4], accessFlags := 1041 }

/-- the primitive int -/
def k10 : Class := { plain "int" none with kind := .primitive 'I', accessFlags := 0x411 }
/-- [I -/
def k11 : Class := { plain "[I" (some 0) with kind := .array 10 .int, interfaces := #[7, 4], accessFlags := 1041 }

/-- [Lcom/example/farcall/farcall/Transport; -/
def k12 : Class := { plain "[Lcom/example/farcall/farcall/Transport;" (some 0) with kind := .array 6 (.object "com/example/farcall/farcall/Transport"), interfaces := #[7, 4], accessFlags := 1041 }

def heap : Heap := #[{ cls := 6, slots := #[.ref 2, .ref 3, .ref 1], vm := .statics 6 },
  { cls := 12, slots := #[.ref 2, .ref 3], vm := .none },
  { cls := 6, slots := #[.null, .int 0, .int 0, .int 6, .null, .int 0], vm := .none },
  { cls := 6, slots := #[.null, .int 1, .int 0, .int 17, .null, .int 0], vm := .none }]
def classes : Array Class := #[k0, k1, k2, k3, k4, k5, k6, k7, k8, k9, k10, k11, k12]
def interned : List (Array UInt16 × Addr) := []
def slotsUsed : Nat := 17
def theMethod : MethodId := ⟨1, 1⟩
def args0 : Array Value := #[.int 5, .int 6]
def aboutOver (below : List Frame) : State where
  vm := { classes := classes, interned := interned.toArray }
  heap := heap
  slotsUsed := slotsUsed
  threads := #[{ frames := .invoking theMethod args0 :: below }]
def below0 : List Frame := [.native { method := ⟨0, 0⟩, args := #[] }]
def about1 : State := aboutOver below0
def p0 : Program := .bare "" "" ""
def e0 : Env := launch0.env 0 0 0
theorem w_frames : about1.frames = Frame.invoking theMethod args0 :: below0 := rfl
set_option maxRecDepth 65536 in
theorem w_args : argsFit about1.vm theMethod args0 = true := by decide +kernel
set_option maxRecDepth 65536 in
theorem w_heap : heapFits about1 = true := by decide +kernel
set_option maxRecDepth 65536 in
theorem w_runnable : about1.curStatus? = some .runnable := by decide +kernel
set_option maxRecDepth 65536 in
theorem w_alone : about1.alone = true := by decide +kernel
set_option maxRecDepth 65536 in
theorem w_named : about1.methodNamed? x = some theMethod := by decide +kernel
set_option maxRecDepth 65536 in
theorem w_hears : about1.hears theMethod below0 = true := by decide +kernel
set_option maxRecDepth 65536 in
theorem w_ripe : about1.ripe theMethod args0 below0 = true := by decide +kernel
theorem w_running : about1.status = .running := rfl
set_option maxRecDepth 65536 in
theorem w_room : about1.hasRoom e0.platform room_1 = true :=
  launch0.hasRoom_least _ room_1 (by decide +kernel) (by decide +kernel) (by decide +kernel) (by decide +kernel) (by decide +kernel) (by decide +kernel)
theorem allAtoms_all (ts : List Jvm.Cond) (a : Array Jvm.Value) (st : Jvm.State) : (allAtoms ts).before a st = ts.all (fun c => c.before a st) := by
  induction ts with
  | nil => rfl
  | cons c t ih =>
    show (Jvm.Cond.and c (allAtoms t)).before a st = _
    rw [Jvm.Cond.before_and, ih, List.all_cons]
def words1 : List Jvm.Cond := Jvm.Cond.code x code maxLocals ret :: tables_1
/-- a 'code' word, met by the world's own term for the bytes: nothing is compared byte by byte -/
theorem code_word {y : MethodName} {bytes : ByteArray} {mx : Nat} {rt : Option FieldType} {a : Array Value} {s : State} {m : MethodId} {meth : Method} {c : Code} (h1 : s.methodNamed? y = some m) (h2 : s.vm.method? m = some meth) (h3 : meth.code = some c) (h4 : c.code = bytes)
    (h5 : (c.maxLocals == mx && c.exceptionTable.isEmpty && decide (c.maxStack ≤ mostOperands) && decide (meth.sig.returnType = rt) && !meth.locks && decide (parseMethodDescriptor y.desc = some meth.sig)) = true) : (Jvm.Cond.code y bytes mx rt).before a s = true := by
  simp only [Bool.and_eq_true, beq_iff_eq, Bool.not_eq_true', decide_eq_true_eq] at h5
  obtain ⟨⟨⟨⟨⟨g1, g2⟩, g3⟩, g4⟩, g5⟩, g6⟩ := h5
  simp [Cond.before, Cond.holds, Cond.value, h1, h2, h3, h4, g1, g2, g3, g4, g5, g6]
def isCode : Jvm.Cond → Bool
  | .code _ _ _ _ => true
  | _ => false
theorem all_split {L : List Jvm.Cond} {P : Jvm.Cond → Bool} (h1 : L.all (fun c => isCode c || P c) = true) (h2 : ∀ c ∈ L.filter isCode, P c = true) : L.all P = true := by
  refine List.all_eq_true.mpr fun c hc => ?_
  have h := List.all_eq_true.mp h1 c hc
  rcases Bool.eq_false_or_eq_true (isCode c) with hi | hi
  · exact h2 c (List.mem_filter.mpr ⟨hc, hi⟩)
  · simpa [hi] using h
set_option maxRecDepth 65536 in
theorem w_c0 : (Jvm.Cond.code x code maxLocals ret).before args0 about1 = true := code_word (m := ⟨1, 1⟩) (meth := k1m1) (c := k1c1) (by decide +kernel) rfl rfl rfl (by decide +kernel)
set_option maxRecDepth 65536 in
theorem w_c1 : (Jvm.Cond.code ({ cls := "com/example/farcall/farcall/Transport", name := "ofProtocol", desc := "(I)Lcom/example/farcall/farcall/Transport;" } : Jvm.MethodName) prog_45_method_7_code (6 : Nat) (Option.some (Jvm.ClassFile.FieldType.object "com/example/farcall/farcall/Transport"))).before args0 about1 = true := code_word (m := ⟨6, 1⟩) (meth := k6m1) (c := k6c1) (by decide +kernel) rfl rfl rfl (by decide +kernel)
set_option maxRecDepth 65536 in
theorem w_c2 : (Jvm.Cond.code ({ cls := "com/example/farcall/farcall/Transport", name := "values", desc := "()[Lcom/example/farcall/farcall/Transport;" } : Jvm.MethodName) prog_45_method_1_code (0 : Nat) (Option.some (Jvm.ClassFile.FieldType.array (Jvm.ClassFile.FieldType.object "com/example/farcall/farcall/Transport")))).before args0 about1 = true := code_word (m := ⟨6, 0⟩) (meth := k6m0) (c := k6c0) (by decide +kernel) rfl rfl rfl (by decide +kernel)
def codes1 : List Jvm.Cond := [Jvm.Cond.code x code maxLocals ret, Jvm.Cond.code ({ cls := "com/example/farcall/farcall/Transport", name := "ofProtocol", desc := "(I)Lcom/example/farcall/farcall/Transport;" } : Jvm.MethodName) prog_45_method_7_code (6 : Nat) (Option.some (Jvm.ClassFile.FieldType.object "com/example/farcall/farcall/Transport")), Jvm.Cond.code ({ cls := "com/example/farcall/farcall/Transport", name := "values", desc := "()[Lcom/example/farcall/farcall/Transport;" } : Jvm.MethodName) prog_45_method_1_code (0 : Nat) (Option.some (Jvm.ClassFile.FieldType.array (Jvm.ClassFile.FieldType.object "com/example/farcall/farcall/Transport")))]
set_option maxRecDepth 65536 in
theorem codes_eq : words1.filter isCode = codes1 := rfl
theorem w_codes : ∀ c ∈ words1.filter isCode, c.before args0 about1 = true := by
  rw [codes_eq]
  intro c hc
  simp only [codes1, List.mem_cons, List.not_mem_nil, or_false] at hc
  rcases hc with rfl | rfl | rfl
  · exact w_c0
  · exact w_c1
  · exact w_c2
set_option maxRecDepth 65536 in
theorem w_t1 : (words1.take 24).all (fun c => isCode c || c.before args0 about1) = true := by decide +kernel
set_option maxRecDepth 65536 in
theorem w_t2 : (words1.drop 24).all (fun c => isCode c || c.before args0 about1) = true := by decide +kernel
theorem w_tables : (allAtoms (Jvm.Cond.code x code maxLocals ret :: tables_1)).before args0 about1 = true := by
  rw [allAtoms_all]
  show words1.all (fun c => c.before args0 about1) = true
  refine all_split ?_ w_codes
  rw [← List.take_append_drop 24 words1, List.all_append, w_t1, w_t2]
  rfl
set_option maxRecDepth 65536 in
theorem w_case : (Jvm.Cond.and given_1 narrow_1).before args0 about1 = true := by decide +kernel
theorem w_applies : (headSpec (Jvm.Cond.code x code maxLocals ret :: tables_1) room_1).applies x e0.platform about1 = true :=
  (Spec.applies_iff w_frames).mpr ⟨w_running, w_runnable, w_alone, w_named, w_hears, w_ripe, w_room, w_tables⟩
theorem atStart : AtStart classFile x code maxLocals ret World_1 tables_1 room_1 Calls_1 rest_1 Pre_1 launch0 p0 e0 about1 theMethod args0 below0 :=
  ⟨lists_1, trivial, launch0.admits_env _ _ _, launch0.least_env, fairChoices_fair.cas, fairChoices_fair.clock, w_frames, w_args, w_heap, w_applies, trivial, trivial, w_case⟩
end start1
theorem witness_1 : WitnessClaimed_1 := ⟨start1.p0, start1.e0, start1.about1, start1.theMethod, start1.args0, start1.below0, start1.atStart⟩
end Jvm.Pilot.@@N@@
